import JvmDerived
import JvmDerived.Pilot.@@N@@Statement
import JvmDerived.Pilot.@@N@@Code
set_option linter.unusedVariables false
set_option linter.unusedSimpArgs false
namespace Jvm.Own
open Sem ClassFile Op Lib Bundle Jvm.Stand Jvm.Free Jvm.LawKit Jvm.RoadKit

/-! ## 1. What is known of a heap: a list of atoms (owned?, address, what its cell is) -/
abbrev Atom := Bool × Addr × (Cell → Prop)
abbrev FN := String × String × String
def key (x : Atom) : Bool × Addr := (x.1, x.2.1)
def ApartK (x y : Bool × Addr) : Prop := (x.1 = true ∨ y.1 = true) → x.2 ≠ y.2
theorem ApartK.symm {x y : Bool × Addr} (h : ApartK x y) : ApartK y x := fun q e => h (q.symm) e.symm

/-- the constants that have been met; and where none may be, nothing was interned -/
def CHw (Z : State) (EL : List (String × Nat)) (vm : Vm) (h : Heap) : Prop := CHv Z EL vm h ∧ (EL = [("", 1)] → Z.WarmedH vm)
def HP (Z : State) (EL : List (String × Nat)) (vm : Vm) (h : Heap) (L : List Atom) : Prop :=
  Ext Z.heap h ∧ CHw Z EL vm h ∧ (∀ x ∈ L, ∃ c : Cell, h[x.2.1]? = some c ∧ x.2.2 c) ∧
    (∀ x ∈ L, x.1 = true → Z.heap.size ≤ x.2.1 ∧ Safe Z EL vm h x.2.1) ∧ (L.map key).Pairwise ApartK

section HPs
variable {Z : State} {EL : List (String × Nat)} {vm : Vm} {h h' : Heap} {L L' : List Atom} {i j : Nat} {b : Bool} {a : Addr} {P P' : Cell → Prop} {x y : Atom}

theorem HP.perm (H : HP Z EL vm h L) (q : L.Perm L') : HP Z EL vm h L' :=
  ⟨H.1, H.2.1, fun x hx => H.2.2.1 x (q.mem_iff.mpr hx), fun x hx => H.2.2.2.1 x (q.mem_iff.mpr hx), (List.Perm.pairwise_iff (fun h => ApartK.symm h) (q.map key)).mp H.2.2.2.2⟩
theorem HP.tail (H : HP Z EL vm h (x :: L)) : HP Z EL vm h L :=
  ⟨H.1, H.2.1, fun y hy => H.2.2.1 y (List.mem_cons_of_mem _ hy), fun y hy => H.2.2.2.1 y (List.mem_cons_of_mem _ hy), (List.pairwise_cons.mp H.2.2.2.2).2⟩
theorem HP.frz (H : HP Z EL vm h ((b, a, P) :: L)) : HP Z EL vm h ((false, a, P) :: L) := by
  obtain ⟨h1, h2, h3, h4, h5⟩ := H
  refine ⟨h1, h2, fun y hy => ?_, fun y hy q => ?_, ?_⟩
  · rcases List.mem_cons.mp hy with rfl | hy
    · exact h3 (b, a, P) List.mem_cons_self
    · exact h3 y (List.mem_cons_of_mem _ hy)
  · rcases List.mem_cons.mp hy with rfl | hy
    · cases q
    · exact h4 y (List.mem_cons_of_mem _ hy) q
  · simp only [List.map_cons, List.pairwise_cons] at h5 ⊢
    refine ⟨fun z hz q => h5.1 z hz ?_, h5.2⟩
    rcases q with q | q
    · cases q
    · exact Or.inr q
theorem HP.cell (H : HP Z EL vm h L) (hi : L[i]? = some (b, a, P)) : ∃ c : Cell, h[a]? = some c ∧ P c := H.2.2.1 _ (List.mem_of_getElem? hi)
theorem HP.own (H : HP Z EL vm h L) (hi : L[i]? = some (true, a, P)) : Z.heap.size ≤ a ∧ Safe Z EL vm h a := H.2.2.2.1 _ (List.mem_of_getElem? hi) rfl
theorem HP.lt (H : HP Z EL vm h L) (hi : L[i]? = some (b, a, P)) : a < h.size := by
  obtain ⟨c, e, -⟩ := H.cell hi; exact (Array.getElem?_eq_some_iff.mp e).1
theorem HP.ne (H : HP Z EL vm h L) (hi : L[i]? = some x) (hj : L[j]? = some y) (hij : i ≠ j) (q : x.1 = true ∨ y.1 = true) : x.2.1 ≠ y.2.1 := by
  have p := List.pairwise_iff_getElem.mp H.2.2.2.2
  obtain ⟨hi1, rfl⟩ := List.getElem?_eq_some_iff.mp hi
  obtain ⟨hj1, rfl⟩ := List.getElem?_eq_some_iff.mp hj
  rcases Nat.lt_or_gt_of_ne hij with r | r
  · have := p i j (by simpa using hi1) (by simpa using hj1) r
    simp only [List.getElem_map, key] at this
    exact this q
  · have := p j i (by simpa using hj1) (by simpa using hi1) r
    simp only [List.getElem_map, key] at this
    exact fun e => this q.symm e.symm
/-- the tables move on, nothing is interned -/
theorem HP.later {vm1 : Vm} (H : HP Z EL vm h L) (R : CHr Z EL vm h vm1 h) (wv : EL = [("", 1)] → Z.WarmedH vm1) : HP Z EL vm1 h L :=
  ⟨H.1, ⟨R.1, wv⟩, H.2.2.1, fun x hx q => ⟨(H.2.2.2.1 x hx q).1, R.safe (by obtain ⟨c, e, -⟩ := H.2.2.1 x hx; exact (Array.getElem?_eq_some_iff.mp e).1) (H.2.2.2.1 x hx q).2⟩, H.2.2.2.2⟩
theorem HP.ext {vm1 : Vm} (H : HP Z EL vm h L) (E : Ext h h') (R : CHr Z EL vm h vm1 h') (wv : EL = [("", 1)] → Z.WarmedH vm1) : HP Z EL vm1 h' L :=
  ⟨⟨Nat.le_trans H.1.1 E.1, fun x c q => E.2 x c (H.1.2 x c q)⟩, ⟨R.1, wv⟩, fun x hx => by obtain ⟨c, e, r⟩ := H.2.2.1 x hx; exact ⟨c, E.2 _ _ e, r⟩,
    fun x hx q => ⟨(H.2.2.2.1 x hx q).1, R.safe (by obtain ⟨c, e, -⟩ := H.2.2.1 x hx; exact (Array.getElem?_eq_some_iff.mp e).1) (H.2.2.2.1 x hx q).2⟩, H.2.2.2.2⟩
/-- a new cell -/
theorem HP.push {c : Cell} (H : HP Z EL vm h L) (E : Ext h h') (hc : h'[h.size]? = some c) (q : P c) : HP Z EL vm h' ((true, h.size, P) :: L) := by
  have H' := H.ext E (CHr.ext E H.2.1.1) H.2.1.2
  refine ⟨H'.1, H'.2.1, fun x hx => ?_, fun x hx r => ?_, ?_⟩
  · rcases List.mem_cons.mp hx with rfl | hx
    · exact ⟨c, hc, q⟩
    · exact H'.2.2.1 x hx
  · rcases List.mem_cons.mp hx with rfl | hx
    · exact ⟨H.1.1, Safe.ext E H.2.1.1 (Safe.new (Nat.le_refl _))⟩
    · exact H'.2.2.2.1 x hx r
  · simp only [List.map_cons, List.pairwise_cons]
    refine ⟨fun z hz _ e => ?_, H'.2.2.2.2⟩
    obtain ⟨w, hw, rfl⟩ := List.mem_map.mp hz
    obtain ⟨cw, ew, -⟩ := H.2.2.1 w hw
    have := (Array.getElem?_eq_some_iff.mp ew).1
    have e' : (h.size : Nat) = w.2.1 := e
    omega
/-- a fact on a cell that nobody writes -/
theorem HP.know {c : Cell} (H : HP Z EL vm h L) (hc : h[a]? = some c) (q : P c) (n : ∀ x ∈ L, x.1 = true → x.2.1 ≠ a) : HP Z EL vm h ((false, a, P) :: L) := by
  refine ⟨H.1, H.2.1, fun x hx => ?_, fun x hx r => ?_, ?_⟩
  · rcases List.mem_cons.mp hx with rfl | hx
    · exact ⟨c, hc, q⟩
    · exact H.2.2.1 x hx
  · rcases List.mem_cons.mp hx with rfl | hx
    · cases r
    · exact H.2.2.2.1 x hx r
  · simp only [List.map_cons, List.pairwise_cons]
    refine ⟨fun z hz r e => ?_, H.2.2.2.2⟩
    obtain ⟨w, hw, rfl⟩ := List.mem_map.mp hz
    rcases r with r | r
    · cases r
    · exact n w hw r e.symm
/-- a fact on an old cell -/
theorem HP.knowOld {c : Cell} (H : HP Z EL vm h L) (hc : Z.heap[a]? = some c) (q : P c) : HP Z EL vm h ((false, a, P) :: L) :=
  H.know (H.1.2 _ _ hc) q fun x hx r e => by
    have := (H.2.2.2.1 x hx r).1
    have := (Array.getElem?_eq_some_iff.mp hc).1
    exact Nat.lt_irrefl _ (Nat.lt_of_lt_of_le (show x.2.1 < Z.heap.size from e ▸ this) (H.2.2.2.1 x hx r).1)
theorem mem_set_cases {α : Type} {l : List α} {i : Nat} {y x : α} (hx : x ∈ l.set i y) : (x = y) ∨ ∃ j, j ≠ i ∧ l[j]? = some x := by
  obtain ⟨j, hj⟩ := List.mem_iff_getElem?.mp hx
  by_cases e : j = i
  · subst e
    rw [List.getElem?_set] at hj
    simp only [if_true] at hj
    split at hj
    · exact Or.inl (Option.some.inj hj).symm
    · cases hj
  · rw [List.getElem?_set_ne (Ne.symm e)] at hj
    exact Or.inr ⟨j, e, hj⟩
theorem map_set_key (hi : L[i]? = some x) (hk : key y = key x) : (L.set i y).map key = L.map key := by
  apply List.ext_getElem?
  intro n
  rw [List.map_set, List.getElem?_set]
  split
  · rename_i e
    subst e
    split
    · rw [List.getElem?_map, hi, hk]; rfl
    · rename_i hl
      rw [List.getElem?_eq_none (by omega)]
  · rfl
/-- one owned cell is written -/
theorem HP.keep1 {c' : Cell} (H : HP Z EL vm h L) (K : Keep h h' [a]) (hi : L[i]? = some (true, a, P)) (hc : h'[a]? = some c') (q : P' c') : HP Z EL vm h' (L.set i (true, a, P')) := by
  have S := H.own hi
  have hs : ∀ x ∈ [a], Safe Z EL vm h x := fun x hx => by cases List.mem_singleton.mp hx; exact S.2
  have R := CHr.keep K hs H.2.1.1
  refine ⟨⟨Nat.le_trans H.1.1 K.1, fun x c e => K.2.1 x c (H.1.2 x c e) fun hm => ?_⟩, ⟨R.1, H.2.1.2⟩, fun x hx => ?_, fun x hx r => ?_, ?_⟩
  · cases List.mem_singleton.mp hm
    have := (Array.getElem?_eq_some_iff.mp e).1
    have := S.1
    omega
  · rcases mem_set_cases hx with rfl | ⟨j, hj, e⟩
    · exact ⟨c', hc, q⟩
    · obtain ⟨c, e1, e2⟩ := H.2.2.1 x (List.mem_of_getElem? e)
      exact ⟨c, K.2.1 _ _ e1 (fun hm => H.ne e hi hj (Or.inr rfl) (List.mem_singleton.mp hm)), e2⟩
  · rcases mem_set_cases hx with rfl | ⟨j, hj, e⟩
    · exact ⟨S.1, R.safe (H.lt hi) S.2⟩
    · have q2 := H.2.2.2.1 x (List.mem_of_getElem? e) r
      obtain ⟨c, e1, -⟩ := H.2.2.1 x (List.mem_of_getElem? e)
      exact ⟨q2.1, R.safe (Array.getElem?_eq_some_iff.mp e1).1 q2.2⟩
  · rw [map_set_key (y := (true, a, P')) hi rfl]; exact H.2.2.2.2
theorem HP.wr {sl : Nat} {v : Value} (H : HP Z EL vm h L) (W : Wr h h' a sl v) (hi : L[i]? = some (true, a, P)) (q : ∀ c, P c → sl < c.slots.size → P' (c.setSlot sl v)) : HP Z EL vm h' (L.set i (true, a, P')) := by
  obtain ⟨c, e1, e2⟩ := H.cell hi
  obtain ⟨c', f1, f2, f3, f4, -, -, f7⟩ := wr_at W e1
  have hs : sl < c.slots.size := by obtain ⟨c0, g1, -, g3, -⟩ := W; cases e1.symm.trans g1; exact g3
  exact H.keep1 (Keep.of_wr W) hi f1 (by rw [(f7 rfl).1]; exact q c e2 hs)
end HPs

/-! ## 2. What a cell is -/
def FldC (Z : State) (c : Cell) (f : FN) (v : Value) : Prop := ∃ (cf : ClassId) (k : Class) (i : Nat) (fd : Field), Z.fieldFound? f.1 f.2.1 f.2.2 = some (cf, k, i, fd) ∧ fd.isStatic = false ∧ c.vm ≠ .unknown ∧ c.vm.isStatics = false ∧ Z.vm.assignable c.cls cf = true ∧ c.slots[fd.slot]? = some v
def ExaC (Z : State) (C : String) (c : Cell) : Prop := ∃ k : Class, Z.vm.findClass C = some c.cls ∧ Z.vm.classes[c.cls]? = some k ∧ c.vm.isStatics = false ∧ (k.kind = .ordinary → c.slots.size = k.instanceTypes.size)
/-- an object exactly of class C whose fields fs hold vs -/
def IsObj (Z : State) (C : String) (fs : List FN) (vs : List Value) : Cell → Prop := fun c => ExaC Z C c ∧ fs.length = vs.length ∧ ∀ (i : Nat) (f : FN) (v : Value), fs[i]? = some f → vs[i]? = some v → FldC Z c f v
/-- an array of the component type ty that holds vs -/
def IsArr (Z : State) (ty : FieldType) (vs : List Value) : Cell → Prop := fun c => Z.isArrayOf c ty ∧ c.vm ≠ .unknown ∧ c.slots.toList = vs ∧ vs.length < 2147483648 ∧ ∀ v ∈ vs, fits ty v = true
section Cells
variable {Z : State} {h : Heap} {a : Addr} {C : String} {c : Cell} {fs : List FN} {vs : List Value} {f : FN} {v : Value} {ty : FieldType}
theorem FldC.fld (F : FldC Z c f v) (e : h[a]? = some c) : Fld Z h a f.1 f.2.1 f.2.2 v := by
  obtain ⟨cf, k, i, fd, h1, h2, h3, h4, h5, h6⟩ := F
  exact ⟨c, cf, k, i, fd, e, h1, h2, h3, h4, h5, h6⟩
theorem FldC.of (F : Fld Z h a f.1 f.2.1 f.2.2 v) (e : h[a]? = some c) : FldC Z c f v := by
  obtain ⟨c', cf, k, i, fd, h0, h1, h2, h3, h4, h5, h6⟩ := F
  cases e.symm.trans h0
  exact ⟨cf, k, i, fd, h1, h2, h3, h4, h5, h6⟩
theorem ExaC.exa (F : ExaC Z C c) (e : h[a]? = some c) : Exa Z h a C := by
  obtain ⟨k, h1, h2, h3, h4⟩ := F
  exact ⟨c, k, e, h1, h2, h3, h4⟩
theorem ExaC.of (F : Exa Z h a C) (e : h[a]? = some c) : ExaC Z C c := by
  obtain ⟨c', k, h0, h1, h2, h3, h4⟩ := F
  cases e.symm.trans h0
  exact ⟨k, h1, h2, h3, h4⟩
theorem IsArr.arr (F : IsArr Z ty vs c) (e : h[a]? = some c) : Arr Z h a c ty := ⟨e, F.1, F.2.1⟩
theorem IsArr.size (F : IsArr Z ty vs c) : c.slots.size = vs.length := by rw [← F.2.2.1]; simp
theorem IsArr.at (F : IsArr Z ty vs c) (i : Nat) : c.slots[i]? = vs[i]? := by rw [← F.2.2.1]; simp
end Cells
end Jvm.Own
namespace Jvm.Own
open Sem ClassFile Op Lib Bundle Jvm.Stand Jvm.Free Jvm.LawKit Jvm.RoadKit

/-! ## 3. From here the method returns with Q -/
abbrev Run := Program × Env × State × MethodId × Array Value × List Frame × Method × Code
def Inv (l : Launch) (R : Room) (Z : State) (a0 : Array Value) (EL : List (String × Nat)) (own nm : String) (bytes : ByteArray) (maxL : Nat) (ret : Option FieldType) (r : Run) (cells slots : Nat) (L : List Atom) (T : State) (locs : List Loc) (vm0 : Vm) : Prop :=
  match r with
  | (p, e, s, m, args, below, meth, c) => p.tables.exec = Jvm.exec ∧ c.code = bytes ∧ c.maxLocals = maxL ∧ meth.sig.returnType = ret ∧ meth.locks = false ∧ meth.name = nm ∧ Stand p l e R (s.setVm vm0) m args below meth c T locs cells slots ∧
      (∃ k0, s.Since vm0 k0 ∧ k0 ≤ T.heap.size) ∧ Z.Warmed39 vm0 ∧ vm0.findClass own = some m.cls ∧ Fr Z.heap.size locs ∧ EW Z a0 EL ∧ HP Z EL vm0 T.heap L
def Goal (R : Room) (Z : State) (EL : List (String × Nat)) (Q : Option Value → List Atom → Prop) (r : Run) (S0 : State) : Prop :=
  match r with
  | (p, e, s, m, args, below, meth, c) => ∃ s₂ o, Steps p.tables e below S0 s₂ ∧ s₂.status = .running ∧ Ended s₂ below o ∧ ∃ v L locs, o = .returned v ∧ Q v L ∧ HP Z EL s₂.vm s₂.heap L ∧ Fr Z.heap.size locs ∧ ReturnedEndW s o s₂ locs R.cells R.slots
def WP (l : Launch) (R : Room) (Z : State) (a0 : Array Value) (EL : List (String × Nat)) (own nm : String) (bytes : ByteArray) (maxL : Nat) (ret : Option FieldType) (Q : Option Value → List Atom → Prop) (r : Run) (cells slots : Nat) (L : List Atom) (pc : Nat) (Ls : List Slot) (st : List Value) : Prop :=
  ∀ T locs vm0, Inv l R Z a0 EL own nm bytes maxL ret r cells slots L T locs vm0 → Goal R Z EL Q r (T.setTop (mkF r.2.2.2.1 pc Ls.toArray st))
/-- a body's contract -/
def MethW (l : Launch) (Z : State) (a0 : Array Value) (EL : List (String × Nat)) (y : MethodName) (bytes : ByteArray) (maxL : Nat) (ret : Option FieldType) (ws : List Jvm.Cond) (rm : Room) (as : List Value) (L : List Atom) (Q : Option Value → List Atom → Prop) : Prop :=
  MetFree l y (head1 (Jvm.Cond.code y bytes maxL ret :: ws) rm) (fun a U => a = as.toArray ∧ Z.Warmed39 U.vm ∧ HP Z EL U.vm U.heap L) (fun _ _ _ _ _ => True)
    (fun _ U o U' => ∃ v L' locs, o = .returned v ∧ Q v L' ∧ HP Z EL U'.vm U'.heap L' ∧ Fr Z.heap.size locs ∧ ReturnedEndW U o U' locs rm.cells rm.slots)
abbrev Meth (l : Launch) (Z : State) (a0 : Array Value) (EL : List (String × Nat)) (y : MethodName) (bytes : ByteArray) (maxL : Nat) (ret : Option FieldType) (rm : Room) (as : List Value) (L : List Atom) (Q : Option Value → List Atom → Prop) : Prop :=
  MethW l Z a0 EL y bytes maxL ret [] rm as L Q

section Wps
variable {l : Launch} {R : Room} {Z : State} {a0 : Array Value} {EL : List (String × Nat)} {own nm : String} {bytes : ByteArray} {maxL : Nat} {ret : Option FieldType} {Q : Option Value → List Atom → Prop} {r : Run} {cells slots : Nat} {L L' : List Atom} {pc pc' : Nat} {Ls Ls' : List Slot} {st : List Value}

theorem MethW.of_wp {y : MethodName} {ws : List Jvm.Cond} {rm : Room} {as : List Value} (hpl : plainFor y = true) (hE : EW Z a0 EL) (hent : argsToLocals as.toArray maxL = Ls.toArray)
    (H : ∀ r, WP l rm Z a0 EL y.cls y.name bytes maxL ret Q r 0 0 L 0 Ls []) : MethW l Z a0 EL y bytes maxL ret ws rm as L Q := by
  refine MetFree.of_bodySF hpl hisR ?_
  intro p e s m args below meth c s₁ Bd hml0 hP hK
  obtain ⟨rfl, hZ, hh⟩ := hP
  have X0 : Stand p l e rm s m as.toArray below meth c s₁ [] 0 0 := Stand.of_body Bd
  have e0 : s₁.heap = s.heap := by rw [Bd.state]; rfl
  have hnm := (name_of_methodNamed Bd.named Bd.method).1
  have G := H (p, e, s, m, as.toArray, below, meth, c) s₁ [] s.vm ⟨Bd.exec, Bd.bytes, hml0, Bd.returns, Bd.notSynchronized, hnm, X0, ⟨0, (State.WarmedH.refl s).since 0, Nat.zero_le _⟩, hZ, findClass_of_methodNamed Bd.named, Fr.nil _, hE, by rw [e0]; exact hh⟩
  have ef : entryFrame m as.toArray maxL = mkF m 0 Ls.toArray [] := by simp only [entryFrame, hent]
  obtain ⟨s₂, o, h1, h2, h3, h4⟩ := G
  exact ⟨s₂, o, castTop ef h1, h2, h3, h4⟩

theorem WP.mono {cells' slots' : Nat} (hc : cells ≤ cells') (hs : slots ≤ slots') (h : WP l R Z a0 EL own nm bytes maxL ret Q r cells' slots' L pc Ls st) : WP l R Z a0 EL own nm bytes maxL ret Q r cells slots L pc Ls st := by
  obtain ⟨p, e, s, m, args, below, meth, c⟩ := r
  intro T locs vm0 I
  obtain ⟨h1, h2, h3, h4, h5, h6, X, rest⟩ := I
  exact h T locs vm0 ⟨h1, h2, h3, h4, h5, h6, X.mono hc hs, rest⟩
theorem WP.imp (q : ∀ {vm : Vm} {h : Heap}, HP Z EL vm h L → HP Z EL vm h L') (h : WP l R Z a0 EL own nm bytes maxL ret Q r cells slots L' pc Ls st) : WP l R Z a0 EL own nm bytes maxL ret Q r cells slots L pc Ls st := by
  obtain ⟨p, e, s, m, args, below, meth, c⟩ := r
  intro T locs vm0 I
  obtain ⟨h1, h2, h3, h4, h5, h6, X, h7, h8, h9, h10, h11, h12⟩ := I
  exact h T locs vm0 ⟨h1, h2, h3, h4, h5, h6, X, h7, h8, h9, h10, h11, q h12⟩
theorem WP.perm (q : L.Perm L') (h : WP l R Z a0 EL own nm bytes maxL ret Q r cells slots L' pc Ls st) : WP l R Z a0 EL own nm bytes maxL ret Q r cells slots L pc Ls st := WP.imp (fun H => H.perm q) h
end Wps
/-! ## 4. Places in a written list -/
theorem A0 {α : Type} {x0 : α} {l : List α} : (x0 :: l)[0]? = some x0 := rfl
theorem S0 {α : Type} {x0 y : α} {l : List α} : (x0 :: l).set 0 y = y :: l := rfl
theorem A1 {α : Type} {x0 x1 : α} {l : List α} : (x0 :: x1 :: l)[1]? = some x1 := rfl
theorem S1 {α : Type} {x0 x1 y : α} {l : List α} : (x0 :: x1 :: l).set 1 y = x0 :: y :: l := rfl
theorem A2 {α : Type} {x0 x1 x2 : α} {l : List α} : (x0 :: x1 :: x2 :: l)[2]? = some x2 := rfl
theorem S2 {α : Type} {x0 x1 x2 y : α} {l : List α} : (x0 :: x1 :: x2 :: l).set 2 y = x0 :: x1 :: y :: l := rfl
theorem A3 {α : Type} {x0 x1 x2 x3 : α} {l : List α} : (x0 :: x1 :: x2 :: x3 :: l)[3]? = some x3 := rfl
theorem S3 {α : Type} {x0 x1 x2 x3 y : α} {l : List α} : (x0 :: x1 :: x2 :: x3 :: l).set 3 y = x0 :: x1 :: x2 :: y :: l := rfl
theorem A4 {α : Type} {x0 x1 x2 x3 x4 : α} {l : List α} : (x0 :: x1 :: x2 :: x3 :: x4 :: l)[4]? = some x4 := rfl
theorem S4 {α : Type} {x0 x1 x2 x3 x4 y : α} {l : List α} : (x0 :: x1 :: x2 :: x3 :: x4 :: l).set 4 y = x0 :: x1 :: x2 :: x3 :: y :: l := rfl
theorem A5 {α : Type} {x0 x1 x2 x3 x4 x5 : α} {l : List α} : (x0 :: x1 :: x2 :: x3 :: x4 :: x5 :: l)[5]? = some x5 := rfl
theorem S5 {α : Type} {x0 x1 x2 x3 x4 x5 y : α} {l : List α} : (x0 :: x1 :: x2 :: x3 :: x4 :: x5 :: l).set 5 y = x0 :: x1 :: x2 :: x3 :: x4 :: y :: l := rfl
theorem A6 {α : Type} {x0 x1 x2 x3 x4 x5 x6 : α} {l : List α} : (x0 :: x1 :: x2 :: x3 :: x4 :: x5 :: x6 :: l)[6]? = some x6 := rfl
theorem S6 {α : Type} {x0 x1 x2 x3 x4 x5 x6 y : α} {l : List α} : (x0 :: x1 :: x2 :: x3 :: x4 :: x5 :: x6 :: l).set 6 y = x0 :: x1 :: x2 :: x3 :: x4 :: x5 :: y :: l := rfl
theorem A7 {α : Type} {x0 x1 x2 x3 x4 x5 x6 x7 : α} {l : List α} : (x0 :: x1 :: x2 :: x3 :: x4 :: x5 :: x6 :: x7 :: l)[7]? = some x7 := rfl
theorem S7 {α : Type} {x0 x1 x2 x3 x4 x5 x6 x7 y : α} {l : List α} : (x0 :: x1 :: x2 :: x3 :: x4 :: x5 :: x6 :: x7 :: l).set 7 y = x0 :: x1 :: x2 :: x3 :: x4 :: x5 :: x6 :: y :: l := rfl
theorem A8 {α : Type} {x0 x1 x2 x3 x4 x5 x6 x7 x8 : α} {l : List α} : (x0 :: x1 :: x2 :: x3 :: x4 :: x5 :: x6 :: x7 :: x8 :: l)[8]? = some x8 := rfl
theorem S8 {α : Type} {x0 x1 x2 x3 x4 x5 x6 x7 x8 y : α} {l : List α} : (x0 :: x1 :: x2 :: x3 :: x4 :: x5 :: x6 :: x7 :: x8 :: l).set 8 y = x0 :: x1 :: x2 :: x3 :: x4 :: x5 :: x6 :: x7 :: y :: l := rfl
theorem A9 {α : Type} {x0 x1 x2 x3 x4 x5 x6 x7 x8 x9 : α} {l : List α} : (x0 :: x1 :: x2 :: x3 :: x4 :: x5 :: x6 :: x7 :: x8 :: x9 :: l)[9]? = some x9 := rfl
theorem S9 {α : Type} {x0 x1 x2 x3 x4 x5 x6 x7 x8 x9 y : α} {l : List α} : (x0 :: x1 :: x2 :: x3 :: x4 :: x5 :: x6 :: x7 :: x8 :: x9 :: l).set 9 y = x0 :: x1 :: x2 :: x3 :: x4 :: x5 :: x6 :: x7 :: x8 :: y :: l := rfl
theorem A10 {α : Type} {x0 x1 x2 x3 x4 x5 x6 x7 x8 x9 x10 : α} {l : List α} : (x0 :: x1 :: x2 :: x3 :: x4 :: x5 :: x6 :: x7 :: x8 :: x9 :: x10 :: l)[10]? = some x10 := rfl
theorem S10 {α : Type} {x0 x1 x2 x3 x4 x5 x6 x7 x8 x9 x10 y : α} {l : List α} : (x0 :: x1 :: x2 :: x3 :: x4 :: x5 :: x6 :: x7 :: x8 :: x9 :: x10 :: l).set 10 y = x0 :: x1 :: x2 :: x3 :: x4 :: x5 :: x6 :: x7 :: x8 :: x9 :: y :: l := rfl
theorem A11 {α : Type} {x0 x1 x2 x3 x4 x5 x6 x7 x8 x9 x10 x11 : α} {l : List α} : (x0 :: x1 :: x2 :: x3 :: x4 :: x5 :: x6 :: x7 :: x8 :: x9 :: x10 :: x11 :: l)[11]? = some x11 := rfl
theorem S11 {α : Type} {x0 x1 x2 x3 x4 x5 x6 x7 x8 x9 x10 x11 y : α} {l : List α} : (x0 :: x1 :: x2 :: x3 :: x4 :: x5 :: x6 :: x7 :: x8 :: x9 :: x10 :: x11 :: l).set 11 y = x0 :: x1 :: x2 :: x3 :: x4 :: x5 :: x6 :: x7 :: x8 :: x9 :: x10 :: y :: l := rfl
theorem A12 {α : Type} {x0 x1 x2 x3 x4 x5 x6 x7 x8 x9 x10 x11 x12 : α} {l : List α} : (x0 :: x1 :: x2 :: x3 :: x4 :: x5 :: x6 :: x7 :: x8 :: x9 :: x10 :: x11 :: x12 :: l)[12]? = some x12 := rfl
theorem S12 {α : Type} {x0 x1 x2 x3 x4 x5 x6 x7 x8 x9 x10 x11 x12 y : α} {l : List α} : (x0 :: x1 :: x2 :: x3 :: x4 :: x5 :: x6 :: x7 :: x8 :: x9 :: x10 :: x11 :: x12 :: l).set 12 y = x0 :: x1 :: x2 :: x3 :: x4 :: x5 :: x6 :: x7 :: x8 :: x9 :: x10 :: x11 :: y :: l := rfl
theorem A13 {α : Type} {x0 x1 x2 x3 x4 x5 x6 x7 x8 x9 x10 x11 x12 x13 : α} {l : List α} : (x0 :: x1 :: x2 :: x3 :: x4 :: x5 :: x6 :: x7 :: x8 :: x9 :: x10 :: x11 :: x12 :: x13 :: l)[13]? = some x13 := rfl
theorem A14 {α : Type} {x0 x1 x2 x3 x4 x5 x6 x7 x8 x9 x10 x11 x12 x13 x14 : α} {l : List α} : (x0 :: x1 :: x2 :: x3 :: x4 :: x5 :: x6 :: x7 :: x8 :: x9 :: x10 :: x11 :: x12 :: x13 :: x14 :: l)[14]? = some x14 := rfl
theorem A15 {α : Type} {x0 x1 x2 x3 x4 x5 x6 x7 x8 x9 x10 x11 x12 x13 x14 x15 : α} {l : List α} : (x0 :: x1 :: x2 :: x3 :: x4 :: x5 :: x6 :: x7 :: x8 :: x9 :: x10 :: x11 :: x12 :: x13 :: x14 :: x15 :: l)[15]? = some x15 := rfl
theorem Tl1 {α : Type} {x0 y : α} {l : List α} {i : Nat} (h : l[i]? = some y) : (x0 :: l)[i + 1]? = some y := h
theorem Tl2 {α : Type} {x0 x1 y : α} {l : List α} {i : Nat} (h : l[i]? = some y) : (x0 :: x1 :: l)[i + 2]? = some y := h
theorem Tl3 {α : Type} {x0 x1 x2 y : α} {l : List α} {i : Nat} (h : l[i]? = some y) : (x0 :: x1 :: x2 :: l)[i + 3]? = some y := h
theorem Tl4 {α : Type} {x0 x1 x2 x3 y : α} {l : List α} {i : Nat} (h : l[i]? = some y) : (x0 :: x1 :: x2 :: x3 :: l)[i + 4]? = some y := h
theorem Tl5 {α : Type} {x0 x1 x2 x3 x4 y : α} {l : List α} {i : Nat} (h : l[i]? = some y) : (x0 :: x1 :: x2 :: x3 :: x4 :: l)[i + 5]? = some y := h
theorem Tl6 {α : Type} {x0 x1 x2 x3 x4 x5 y : α} {l : List α} {i : Nat} (h : l[i]? = some y) : (x0 :: x1 :: x2 :: x3 :: x4 :: x5 :: l)[i + 6]? = some y := h
theorem Tl7 {α : Type} {x0 x1 x2 x3 x4 x5 x6 y : α} {l : List α} {i : Nat} (h : l[i]? = some y) : (x0 :: x1 :: x2 :: x3 :: x4 :: x5 :: x6 :: l)[i + 7]? = some y := h
theorem Tl8 {α : Type} {x0 x1 x2 x3 x4 x5 x6 x7 y : α} {l : List α} {i : Nat} (h : l[i]? = some y) : (x0 :: x1 :: x2 :: x3 :: x4 :: x5 :: x6 :: x7 :: l)[i + 8]? = some y := h
theorem E0 {α : Type} {x0 : α} {l : List α} : (x0 :: l).eraseIdx 0 = l := rfl
theorem E1 {α : Type} {x0 x1 : α} {l : List α} : (x0 :: x1 :: l).eraseIdx 1 = x0 :: l := rfl
theorem SS1 {α : Type} {x0 x1 z y u : α} {l : List α} : ((x0 :: x1 :: z :: l).set 1 y).set (1 + 1) u = x0 :: y :: u :: l := rfl
theorem E2 {α : Type} {x0 x1 x2 : α} {l : List α} : (x0 :: x1 :: x2 :: l).eraseIdx 2 = x0 :: x1 :: l := rfl
theorem E3 {α : Type} {x0 x1 x2 x3 : α} {l : List α} : (x0 :: x1 :: x2 :: x3 :: l).eraseIdx 3 = x0 :: x1 :: x2 :: l := rfl
theorem SS3 {α : Type} {x0 x1 x2 x3 z y u : α} {l : List α} : ((x0 :: x1 :: x2 :: x3 :: z :: l).set 3 y).set (3 + 1) u = x0 :: x1 :: x2 :: y :: u :: l := rfl
theorem E4 {α : Type} {x0 x1 x2 x3 x4 : α} {l : List α} : (x0 :: x1 :: x2 :: x3 :: x4 :: l).eraseIdx 4 = x0 :: x1 :: x2 :: x3 :: l := rfl
theorem SS4 {α : Type} {x0 x1 x2 x3 x4 z y u : α} {l : List α} : ((x0 :: x1 :: x2 :: x3 :: x4 :: z :: l).set 4 y).set (4 + 1) u = x0 :: x1 :: x2 :: x3 :: y :: u :: l := rfl
theorem E5 {α : Type} {x0 x1 x2 x3 x4 x5 : α} {l : List α} : (x0 :: x1 :: x2 :: x3 :: x4 :: x5 :: l).eraseIdx 5 = x0 :: x1 :: x2 :: x3 :: x4 :: l := rfl
theorem SS5 {α : Type} {x0 x1 x2 x3 x4 x5 z y u : α} {l : List α} : ((x0 :: x1 :: x2 :: x3 :: x4 :: x5 :: z :: l).set 5 y).set (5 + 1) u = x0 :: x1 :: x2 :: x3 :: x4 :: y :: u :: l := rfl
theorem E6 {α : Type} {x0 x1 x2 x3 x4 x5 x6 : α} {l : List α} : (x0 :: x1 :: x2 :: x3 :: x4 :: x5 :: x6 :: l).eraseIdx 6 = x0 :: x1 :: x2 :: x3 :: x4 :: x5 :: l := rfl
theorem E7 {α : Type} {x0 x1 x2 x3 x4 x5 x6 x7 : α} {l : List α} : (x0 :: x1 :: x2 :: x3 :: x4 :: x5 :: x6 :: x7 :: l).eraseIdx 7 = x0 :: x1 :: x2 :: x3 :: x4 :: x5 :: x6 :: l := rfl
theorem SS7 {α : Type} {x0 x1 x2 x3 x4 x5 x6 x7 z y u : α} {l : List α} : ((x0 :: x1 :: x2 :: x3 :: x4 :: x5 :: x6 :: x7 :: z :: l).set 7 y).set (7 + 1) u = x0 :: x1 :: x2 :: x3 :: x4 :: x5 :: x6 :: y :: u :: l := rfl
theorem E8 {α : Type} {x0 x1 x2 x3 x4 x5 x6 x7 x8 : α} {l : List α} : (x0 :: x1 :: x2 :: x3 :: x4 :: x5 :: x6 :: x7 :: x8 :: l).eraseIdx 8 = x0 :: x1 :: x2 :: x3 :: x4 :: x5 :: x6 :: x7 :: l := rfl
theorem E9 {α : Type} {x0 x1 x2 x3 x4 x5 x6 x7 x8 x9 : α} {l : List α} : (x0 :: x1 :: x2 :: x3 :: x4 :: x5 :: x6 :: x7 :: x8 :: x9 :: l).eraseIdx 9 = x0 :: x1 :: x2 :: x3 :: x4 :: x5 :: x6 :: x7 :: x8 :: l := rfl
theorem E10 {α : Type} {x0 x1 x2 x3 x4 x5 x6 x7 x8 x9 x10 : α} {l : List α} : (x0 :: x1 :: x2 :: x3 :: x4 :: x5 :: x6 :: x7 :: x8 :: x9 :: x10 :: l).eraseIdx 10 = x0 :: x1 :: x2 :: x3 :: x4 :: x5 :: x6 :: x7 :: x8 :: x9 :: l := rfl
theorem SS10 {α : Type} {x0 x1 x2 x3 x4 x5 x6 x7 x8 x9 x10 z y u : α} {l : List α} : ((x0 :: x1 :: x2 :: x3 :: x4 :: x5 :: x6 :: x7 :: x8 :: x9 :: x10 :: z :: l).set 10 y).set (10 + 1) u = x0 :: x1 :: x2 :: x3 :: x4 :: x5 :: x6 :: x7 :: x8 :: x9 :: y :: u :: l := rfl
theorem E11 {α : Type} {x0 x1 x2 x3 x4 x5 x6 x7 x8 x9 x10 x11 : α} {l : List α} : (x0 :: x1 :: x2 :: x3 :: x4 :: x5 :: x6 :: x7 :: x8 :: x9 :: x10 :: x11 :: l).eraseIdx 11 = x0 :: x1 :: x2 :: x3 :: x4 :: x5 :: x6 :: x7 :: x8 :: x9 :: x10 :: l := rfl
theorem perm_at {α : Type} {l : List α} {i : Nat} {x : α} (h : l[i]? = some x) : l.Perm (x :: l.eraseIdx i) := by
  induction l generalizing i with
  | nil => cases h
  | cons y l ih =>
    cases i with
    | zero => cases h; exact List.Perm.refl _
    | succ i => exact (List.Perm.cons y (ih h)).trans (List.Perm.swap x y _)
section Picks
variable {l : Launch} {R : Room} {Z : State} {a0 : Array Value} {EL : List (String × Nat)} {own nm : String} {bytes : ByteArray} {maxL : Nat} {ret : Option FieldType} {Q : Option Value → List Atom → Prop} {r : Run} {cells slots : Nat} {L L' : List Atom} {pc pc' : Nat} {Ls Ls' : List Slot} {st : List Value}
theorem W_focus {a : Addr} {b : Bool} {P : Cell → Prop} {i : Nat} {L1 : List Atom} (hL : L[i]? = some (b, a, P) ∧ L.eraseIdx i = L1) (hr : WP l R Z a0 EL own nm bytes maxL ret Q r cells slots ((b, a, P) :: L1) pc Ls st) : WP l R Z a0 EL own nm bytes maxL ret Q r cells slots L pc Ls st := by
  obtain ⟨hi, rfl⟩ := hL
  refine WP.perm ?_ hr
  exact perm_at hi
theorem W_drop {x : Atom} (hr : WP l R Z a0 EL own nm bytes maxL ret Q r cells slots L pc Ls st) : WP l R Z a0 EL own nm bytes maxL ret Q r cells slots (x :: L) pc Ls st := WP.imp (fun H => H.tail) hr
theorem W_frz {b : Bool} {a : Addr} {P : Cell → Prop} (hr : WP l R Z a0 EL own nm bytes maxL ret Q r cells slots ((false, a, P) :: L) pc Ls st) : WP l R Z a0 EL own nm bytes maxL ret Q r cells slots ((b, a, P) :: L) pc Ls st := WP.imp (fun H => H.frz) hr
end Picks
/-! ## 5. Plain steps -/
def ok1 : Slot → Bool | .unset => true | .val v => v.category == 1 | .second => false
theorem ok1_of {o : Slot} (h : ok1 o = true) : o = .unset ∨ ∃ w, o = .val w ∧ w.category = 1 := by
  cases o with
  | unset => exact Or.inl rfl
  | second => cases h
  | val v => exact Or.inr ⟨v, rfl, by simpa [ok1] using h⟩
theorem toA_get {Ls : List Slot} {k : Nat} {o : Slot} (h : Ls[k]? = some o) : Ls.toArray[k]? = some o := by simpa using h
theorem toA_store {Ls Ls' : List Slot} {k : Nat} {o : Slot} {v : Value} (h : Ls[k]? = some o) (ho : ok1 o = true) (hv : v.category = 1) (hs : Ls.set k (.val v) = Ls') : storeLocals Ls.toArray k v = some Ls'.toArray := by
  rw [XS.store1 (toA_get h) (ok1_of ho) hv, ← hs]; simp
def ok2 : Slot → Slot → Bool | .val v, .second => v.category == 2 | x, y => ok1 x && ok1 y
theorem pl_of {o : Slot} (h : ok1 o = true) : Jvm.Free.Fl.Plain1 o := by
  cases o with
  | unset => trivial
  | second => cases h
  | val v => exact (by simpa [ok1] using h : v.category = 1)
theorem toA_store2 {Ls Ls' : List Slot} {k : Nat} {o1 o2 : Slot} {v : Value} (h : Ls[k]? = some o1) (h' : Ls[k + 1]? = some o2) (ho : ok2 o1 o2 = true) (hv : v.category = 2) (hs : (Ls.set k (.val v)).set (k + 1) .second = Ls') : storeLocals Ls.toArray k v = some Ls'.toArray := by
  rw [Jvm.Free.Fl.storeLocals_cat2 (toA_get h) (toA_get h') hv ?_, ← hs]
  · simp
  · cases o1 with
    | unset => simp only [ok2, Bool.and_eq_true] at ho; exact Or.inl ⟨pl_of ho.1, pl_of ho.2⟩
    | second => simp [ok2, ok1] at ho
    | val w => cases o2 with
      | second => simp only [ok2, beq_iff_eq] at ho; exact Or.inr ⟨⟨w, rfl, ho⟩, rfl⟩
      | unset => simp only [ok2, Bool.and_eq_true] at ho; exact Or.inl ⟨pl_of ho.1, pl_of ho.2⟩
      | val u => simp only [ok2, Bool.and_eq_true] at ho; exact Or.inl ⟨pl_of ho.1, pl_of ho.2⟩

section Plain
variable {l : Launch} {R : Room} {Z : State} {a0 : Array Value} {EL : List (String × Nat)} {own nm : String} {bytes : ByteArray} {maxL : Nat} {ret : Option FieldType} {Q : Option Value → List Atom → Prop} {r : Run} {cells slots : Nat} {L L' : List Atom} {pc pc' : Nat} {Ls Ls' : List Slot} {st : List Value}
theorem W_iload {k : Nat} {v : Int32} (hd : decode bytes pc = .ok (.iload k, 2)) (hp : pc + 2 = pc') (hl : Ls[k]? = some (.val (.int v))) (hr : WP l R Z a0 EL own nm bytes maxL ret Q r cells slots L pc' Ls (.int v :: st)) : WP l R Z a0 EL own nm bytes maxL ret Q r cells slots L pc Ls st := by
  obtain ⟨p, e, s, m, args, below, meth, c⟩ := r
  intro T locs vm0 I
  subst hp
  obtain ⟨s₂, o, h1, h2⟩ := hr T locs vm0 I
  obtain ⟨hx, hby, -, -, -, -, X, -⟩ := I
  exact ⟨s₂, o, XS.iload X.here hx rfl (hb hby hd) (toA_get hl) h1, h2⟩
theorem W_iloadN {k : Fin 4} {v : Int32} (hd : decode bytes pc = .ok (.iload_n k, 1)) (hp : pc + 1 = pc') (hl : Ls[k.val]? = some (.val (.int v))) (hr : WP l R Z a0 EL own nm bytes maxL ret Q r cells slots L pc' Ls (.int v :: st)) : WP l R Z a0 EL own nm bytes maxL ret Q r cells slots L pc Ls st := by
  obtain ⟨p, e, s, m, args, below, meth, c⟩ := r
  intro T locs vm0 I
  subst hp
  obtain ⟨s₂, o, h1, h2⟩ := hr T locs vm0 I
  obtain ⟨hx, hby, -, -, -, -, X, -⟩ := I
  exact ⟨s₂, o, XS.iloadN X.here hx rfl (hb hby hd) (toA_get hl) h1, h2⟩
theorem W_lload {k : Nat} {v : Int64} (hd : decode bytes pc = .ok (.lload k, 2)) (hp : pc + 2 = pc') (hl : Ls[k]? = some (.val (.long v))) (hr : WP l R Z a0 EL own nm bytes maxL ret Q r cells slots L pc' Ls (.long v :: st)) : WP l R Z a0 EL own nm bytes maxL ret Q r cells slots L pc Ls st := by
  obtain ⟨p, e, s, m, args, below, meth, c⟩ := r
  intro T locs vm0 I
  subst hp
  obtain ⟨s₂, o, h1, h2⟩ := hr T locs vm0 I
  obtain ⟨hx, hby, -, -, -, -, X, -⟩ := I
  exact ⟨s₂, o, XT.lload X.here hx rfl (hb hby hd) (toA_get hl) h1, h2⟩
theorem W_lloadN {k : Fin 4} {v : Int64} (hd : decode bytes pc = .ok (.lload_n k, 1)) (hp : pc + 1 = pc') (hl : Ls[k.val]? = some (.val (.long v))) (hr : WP l R Z a0 EL own nm bytes maxL ret Q r cells slots L pc' Ls (.long v :: st)) : WP l R Z a0 EL own nm bytes maxL ret Q r cells slots L pc Ls st := by
  obtain ⟨p, e, s, m, args, below, meth, c⟩ := r
  intro T locs vm0 I
  subst hp
  obtain ⟨s₂, o, h1, h2⟩ := hr T locs vm0 I
  obtain ⟨hx, hby, -, -, -, -, X, -⟩ := I
  exact ⟨s₂, o, XT.lloadN X.here hx rfl (hb hby hd) (toA_get hl) h1, h2⟩
theorem W_aload {k : Nat} {v : Value} (hd : decode bytes pc = .ok (.aload k, 2)) (hp : pc + 2 = pc') (hl : Ls[k]? = some (.val v)) (hv : v.isRef = true) (hr : WP l R Z a0 EL own nm bytes maxL ret Q r cells slots L pc' Ls (v :: st)) : WP l R Z a0 EL own nm bytes maxL ret Q r cells slots L pc Ls st := by
  obtain ⟨p, e, s, m, args, below, meth, c⟩ := r
  intro T locs vm0 I
  subst hp
  obtain ⟨s₂, o, h1, h2⟩ := hr T locs vm0 I
  obtain ⟨hx, hby, -, -, -, -, X, -⟩ := I
  exact ⟨s₂, o, XS.aload X.here hx rfl (hb hby hd) (toA_get hl) hv h1, h2⟩
theorem W_aloadN {k : Fin 4} {v : Value} (hd : decode bytes pc = .ok (.aload_n k, 1)) (hp : pc + 1 = pc') (hl : Ls[k.val]? = some (.val v)) (hv : v.isRef = true) (hr : WP l R Z a0 EL own nm bytes maxL ret Q r cells slots L pc' Ls (v :: st)) : WP l R Z a0 EL own nm bytes maxL ret Q r cells slots L pc Ls st := by
  obtain ⟨p, e, s, m, args, below, meth, c⟩ := r
  intro T locs vm0 I
  subst hp
  obtain ⟨s₂, o, h1, h2⟩ := hr T locs vm0 I
  obtain ⟨hx, hby, -, -, -, -, X, -⟩ := I
  exact ⟨s₂, o, XS.aloadN X.here hx rfl (hb hby hd) (toA_get hl) hv h1, h2⟩
theorem W_istore {k : Nat} {v : Int32} {o1 : Slot} (hd : decode bytes pc = .ok (.istore k, 2)) (hp : pc + 2 = pc') (ho : Ls[k]? = some o1) (hk1 : ok1 o1 = true) (hs : Ls.set k (.val (.int v)) = Ls') (hr : WP l R Z a0 EL own nm bytes maxL ret Q r cells slots L pc' Ls' st) : WP l R Z a0 EL own nm bytes maxL ret Q r cells slots L pc Ls (.int v :: st) := by
  obtain ⟨p, e, s, m, args, below, meth, c⟩ := r
  intro T locs vm0 I
  subst hp
  obtain ⟨s₂, o, h1, h2⟩ := hr T locs vm0 I
  obtain ⟨hx, hby, -, -, -, -, X, -⟩ := I
  exact ⟨s₂, o, XS.istore X.here hx rfl (hb hby hd) rfl (toA_store ho hk1 rfl hs) h1, h2⟩
theorem W_istoreN {k : Fin 4} {v : Int32} {o1 : Slot} (hd : decode bytes pc = .ok (.istore_n k, 1)) (hp : pc + 1 = pc') (ho : Ls[k.val]? = some o1) (hk1 : ok1 o1 = true) (hs : Ls.set k.val (.val (.int v)) = Ls') (hr : WP l R Z a0 EL own nm bytes maxL ret Q r cells slots L pc' Ls' st) : WP l R Z a0 EL own nm bytes maxL ret Q r cells slots L pc Ls (.int v :: st) := by
  obtain ⟨p, e, s, m, args, below, meth, c⟩ := r
  intro T locs vm0 I
  subst hp
  obtain ⟨s₂, o, h1, h2⟩ := hr T locs vm0 I
  obtain ⟨hx, hby, -, -, -, -, X, -⟩ := I
  exact ⟨s₂, o, XS.istoreN X.here hx rfl (hb hby hd) rfl (toA_store ho hk1 rfl hs) h1, h2⟩
theorem W_astore {k : Nat} {v : Value} {o1 : Slot} (hd : decode bytes pc = .ok (.astore k, 2)) (hp : pc + 2 = pc') (ho : Ls[k]? = some o1) (hk1 : ok1 o1 = true) (hv : v.isRef = true) (hs : Ls.set k (.val v) = Ls') (hr : WP l R Z a0 EL own nm bytes maxL ret Q r cells slots L pc' Ls' st) : WP l R Z a0 EL own nm bytes maxL ret Q r cells slots L pc Ls (v :: st) := by
  obtain ⟨p, e, s, m, args, below, meth, c⟩ := r
  intro T locs vm0 I
  subst hp
  obtain ⟨s₂, o, h1, h2⟩ := hr T locs vm0 I
  obtain ⟨hx, hby, -, -, -, -, X, -⟩ := I
  exact ⟨s₂, o, XS.astore X.here hx rfl (hb hby hd) rfl hv (toA_store ho hk1 (XT.cat1 hv) hs) h1, h2⟩
theorem W_astoreN {k : Fin 4} {v : Value} {o1 : Slot} (hd : decode bytes pc = .ok (.astore_n k, 1)) (hp : pc + 1 = pc') (ho : Ls[k.val]? = some o1) (hk1 : ok1 o1 = true) (hv : v.isRef = true) (hs : Ls.set k.val (.val v) = Ls') (hr : WP l R Z a0 EL own nm bytes maxL ret Q r cells slots L pc' Ls' st) : WP l R Z a0 EL own nm bytes maxL ret Q r cells slots L pc Ls (v :: st) := by
  obtain ⟨p, e, s, m, args, below, meth, c⟩ := r
  intro T locs vm0 I
  subst hp
  obtain ⟨s₂, o, h1, h2⟩ := hr T locs vm0 I
  obtain ⟨hx, hby, -, -, -, -, X, -⟩ := I
  exact ⟨s₂, o, XS.astoreN X.here hx rfl (hb hby hd) rfl hv (toA_store ho hk1 (XT.cat1 hv) hs) h1, h2⟩
theorem W_iinc {k : Nat} {cst : Int} {x v : Int32} (hd : decode bytes pc = .ok (.iinc k cst, 3)) (hp : pc + 3 = pc') (hv : Int32.ofInt cst = v) (ho : Ls[k]? = some (.val (.int x))) (hs : Ls.set k (.val (.int (x + v))) = Ls') (hr : WP l R Z a0 EL own nm bytes maxL ret Q r cells slots L pc' Ls' st) : WP l R Z a0 EL own nm bytes maxL ret Q r cells slots L pc Ls st := by
  obtain ⟨p, e, s, m, args, below, meth, c⟩ := r
  intro T locs vm0 I
  subst hp
  obtain ⟨s₂, o, h1, h2⟩ := hr T locs vm0 I
  obtain ⟨hx, hby, -, -, -, -, X, -⟩ := I
  exact ⟨s₂, o, XS.iinc X.here hx rfl (hb hby hd) (toA_get ho) (toA_store ho rfl rfl (by rw [hv]; exact hs)) h1, h2⟩
theorem W_lstore {k : Nat} {v : Int64} {o1 o2 : Slot} (hd : decode bytes pc = .ok (.lstore k, 2)) (hp : pc + 2 = pc') (ho : Ls[k]? = some o1) (ho2 : Ls[k + 1]? = some o2) (hk1 : ok2 o1 o2 = true) (hs : (Ls.set k (.val (.long v))).set (k + 1) .second = Ls') (hr : WP l R Z a0 EL own nm bytes maxL ret Q r cells slots L pc' Ls' st) : WP l R Z a0 EL own nm bytes maxL ret Q r cells slots L pc Ls (.long v :: st) := by
  obtain ⟨p, e, s, m, args, below, meth, c⟩ := r
  intro T locs vm0 I
  subst hp
  obtain ⟨s₂, o, h1, h2⟩ := hr T locs vm0 I
  obtain ⟨hx, hby, -, -, -, -, X, -⟩ := I
  exact ⟨s₂, o, XT.lstore X.here hx rfl (hb hby hd) rfl (toA_store2 ho ho2 hk1 rfl hs) h1, h2⟩
theorem W_lstoreN {k : Fin 4} {v : Int64} {o1 o2 : Slot} (hd : decode bytes pc = .ok (.lstore_n k, 1)) (hp : pc + 1 = pc') (ho : Ls[k.val]? = some o1) (ho2 : Ls[k.val + 1]? = some o2) (hk1 : ok2 o1 o2 = true) (hs : (Ls.set k.val (.val (.long v))).set (k.val + 1) .second = Ls') (hr : WP l R Z a0 EL own nm bytes maxL ret Q r cells slots L pc' Ls' st) : WP l R Z a0 EL own nm bytes maxL ret Q r cells slots L pc Ls (.long v :: st) := by
  obtain ⟨p, e, s, m, args, below, meth, c⟩ := r
  intro T locs vm0 I
  subst hp
  obtain ⟨s₂, o, h1, h2⟩ := hr T locs vm0 I
  obtain ⟨hx, hby, -, -, -, -, X, -⟩ := I
  exact ⟨s₂, o, XT.lstoreN X.here hx rfl (hb hby hd) rfl (toA_store2 ho ho2 hk1 rfl hs) h1, h2⟩
theorem W_iconst {i : Int} {v : Int32} (hd : decode bytes pc = .ok (.iconst i, 1)) (hp : pc + 1 = pc') (hv : Int32.ofInt i = v) (hr : WP l R Z a0 EL own nm bytes maxL ret Q r cells slots L pc' Ls (.int v :: st)) : WP l R Z a0 EL own nm bytes maxL ret Q r cells slots L pc Ls st := by
  obtain ⟨p, e, s, m, args, below, meth, c⟩ := r
  intro T locs vm0 I
  subst hp
  obtain ⟨s₂, o, h1, h2⟩ := hr T locs vm0 I
  obtain ⟨hx, hby, -, -, -, -, X, -⟩ := I
  exact ⟨s₂, o, XS.iconst X.here hx rfl (hb hby hd) (by rw [hv]; exact h1), h2⟩
theorem W_bipush {i : Int} {v : Int32} (hd : decode bytes pc = .ok (.bipush i, 2)) (hp : pc + 2 = pc') (hv : (Int8.ofInt i).toInt32 = v) (hr : WP l R Z a0 EL own nm bytes maxL ret Q r cells slots L pc' Ls (.int v :: st)) : WP l R Z a0 EL own nm bytes maxL ret Q r cells slots L pc Ls st := by
  obtain ⟨p, e, s, m, args, below, meth, c⟩ := r
  intro T locs vm0 I
  subst hp
  obtain ⟨s₂, o, h1, h2⟩ := hr T locs vm0 I
  obtain ⟨hx, hby, -, -, -, -, X, -⟩ := I
  exact ⟨s₂, o, XS.bipush X.here hx rfl (hb hby hd) (by rw [hv]; exact h1), h2⟩
theorem W_sipush {i : Int} {v : Int32} (hd : decode bytes pc = .ok (.sipush i, 3)) (hp : pc + 3 = pc') (hv : (Int16.ofInt i).toInt32 = v) (hr : WP l R Z a0 EL own nm bytes maxL ret Q r cells slots L pc' Ls (.int v :: st)) : WP l R Z a0 EL own nm bytes maxL ret Q r cells slots L pc Ls st := by
  obtain ⟨p, e, s, m, args, below, meth, c⟩ := r
  intro T locs vm0 I
  subst hp
  obtain ⟨s₂, o, h1, h2⟩ := hr T locs vm0 I
  obtain ⟨hx, hby, -, -, -, -, X, -⟩ := I
  exact ⟨s₂, o, XS.sipush X.here hx rfl (hb hby hd) (by rw [hv]; exact h1), h2⟩
theorem W_lconst {k : Fin 2} {v : Int64} (hd : decode bytes pc = .ok (.lconst k, 1)) (hp : pc + 1 = pc') (hv : Int64.ofNat k = v) (hr : WP l R Z a0 EL own nm bytes maxL ret Q r cells slots L pc' Ls (.long v :: st)) : WP l R Z a0 EL own nm bytes maxL ret Q r cells slots L pc Ls st := by
  obtain ⟨p, e, s, m, args, below, meth, c⟩ := r
  intro T locs vm0 I
  subst hp
  obtain ⟨s₂, o, h1, h2⟩ := hr T locs vm0 I
  obtain ⟨hx, hby, -, -, -, -, X, -⟩ := I
  exact ⟨s₂, o, XT.lconst X.here hx rfl (hb hby hd) (by rw [hv]; exact h1), h2⟩
theorem W_aconst_null  (hd : decode bytes pc = .ok (.aconst_null, 1)) (hp : pc + 1 = pc')  (hr : WP l R Z a0 EL own nm bytes maxL ret Q r cells slots L pc' Ls (.null :: st)) : WP l R Z a0 EL own nm bytes maxL ret Q r cells slots L pc Ls st := by
  obtain ⟨p, e, s, m, args, below, meth, c⟩ := r
  intro T locs vm0 I
  subst hp
  obtain ⟨s₂, o, h1, h2⟩ := hr T locs vm0 I
  obtain ⟨hx, hby, -, -, -, -, X, -⟩ := I
  exact ⟨s₂, o, XS.aconstNull X.here hx rfl (hb hby hd)  h1, h2⟩
theorem W_iadd {x y : Int32} (hd : decode bytes pc = .ok (.iadd, 1)) (hp : pc + 1 = pc')  (hr : WP l R Z a0 EL own nm bytes maxL ret Q r cells slots L pc' Ls (.int (x + y) :: st)) : WP l R Z a0 EL own nm bytes maxL ret Q r cells slots L pc Ls (.int y :: .int x :: st) := by
  obtain ⟨p, e, s, m, args, below, meth, c⟩ := r
  intro T locs vm0 I
  subst hp
  obtain ⟨s₂, o, h1, h2⟩ := hr T locs vm0 I
  obtain ⟨hx, hby, -, -, -, -, X, -⟩ := I
  exact ⟨s₂, o, XS.iadd X.here hx rfl (hb hby hd) rfl h1, h2⟩
theorem W_isub {x y : Int32} (hd : decode bytes pc = .ok (.isub, 1)) (hp : pc + 1 = pc')  (hr : WP l R Z a0 EL own nm bytes maxL ret Q r cells slots L pc' Ls (.int (x - y) :: st)) : WP l R Z a0 EL own nm bytes maxL ret Q r cells slots L pc Ls (.int y :: .int x :: st) := by
  obtain ⟨p, e, s, m, args, below, meth, c⟩ := r
  intro T locs vm0 I
  subst hp
  obtain ⟨s₂, o, h1, h2⟩ := hr T locs vm0 I
  obtain ⟨hx, hby, -, -, -, -, X, -⟩ := I
  exact ⟨s₂, o, XS.isub X.here hx rfl (hb hby hd) rfl h1, h2⟩
theorem W_imul {x y : Int32} (hd : decode bytes pc = .ok (.imul, 1)) (hp : pc + 1 = pc')  (hr : WP l R Z a0 EL own nm bytes maxL ret Q r cells slots L pc' Ls (.int (x * y) :: st)) : WP l R Z a0 EL own nm bytes maxL ret Q r cells slots L pc Ls (.int y :: .int x :: st) := by
  obtain ⟨p, e, s, m, args, below, meth, c⟩ := r
  intro T locs vm0 I
  subst hp
  obtain ⟨s₂, o, h1, h2⟩ := hr T locs vm0 I
  obtain ⟨hx, hby, -, -, -, -, X, -⟩ := I
  exact ⟨s₂, o, XS.imul X.here hx rfl (hb hby hd) rfl h1, h2⟩
theorem W_iand {x y : Int32} (hd : decode bytes pc = .ok (.iand, 1)) (hp : pc + 1 = pc')  (hr : WP l R Z a0 EL own nm bytes maxL ret Q r cells slots L pc' Ls (.int (x &&& y) :: st)) : WP l R Z a0 EL own nm bytes maxL ret Q r cells slots L pc Ls (.int y :: .int x :: st) := by
  obtain ⟨p, e, s, m, args, below, meth, c⟩ := r
  intro T locs vm0 I
  subst hp
  obtain ⟨s₂, o, h1, h2⟩ := hr T locs vm0 I
  obtain ⟨hx, hby, -, -, -, -, X, -⟩ := I
  exact ⟨s₂, o, XS.iand X.here hx rfl (hb hby hd) rfl h1, h2⟩
theorem W_ior {x y : Int32} (hd : decode bytes pc = .ok (.ior, 1)) (hp : pc + 1 = pc')  (hr : WP l R Z a0 EL own nm bytes maxL ret Q r cells slots L pc' Ls (.int (x ||| y) :: st)) : WP l R Z a0 EL own nm bytes maxL ret Q r cells slots L pc Ls (.int y :: .int x :: st) := by
  obtain ⟨p, e, s, m, args, below, meth, c⟩ := r
  intro T locs vm0 I
  subst hp
  obtain ⟨s₂, o, h1, h2⟩ := hr T locs vm0 I
  obtain ⟨hx, hby, -, -, -, -, X, -⟩ := I
  exact ⟨s₂, o, XT.ior X.here hx rfl (hb hby hd) rfl h1, h2⟩
theorem W_ixor {x y : Int32} (hd : decode bytes pc = .ok (.ixor, 1)) (hp : pc + 1 = pc')  (hr : WP l R Z a0 EL own nm bytes maxL ret Q r cells slots L pc' Ls (.int (x ^^^ y) :: st)) : WP l R Z a0 EL own nm bytes maxL ret Q r cells slots L pc Ls (.int y :: .int x :: st) := by
  obtain ⟨p, e, s, m, args, below, meth, c⟩ := r
  intro T locs vm0 I
  subst hp
  obtain ⟨s₂, o, h1, h2⟩ := hr T locs vm0 I
  obtain ⟨hx, hby, -, -, -, -, X, -⟩ := I
  exact ⟨s₂, o, XT.ixor X.here hx rfl (hb hby hd) rfl h1, h2⟩
theorem W_ishl {x y : Int32} (hd : decode bytes pc = .ok (.ishl, 1)) (hp : pc + 1 = pc')  (hr : WP l R Z a0 EL own nm bytes maxL ret Q r cells slots L pc' Ls (.int (x <<< (y &&& 31)) :: st)) : WP l R Z a0 EL own nm bytes maxL ret Q r cells slots L pc Ls (.int y :: .int x :: st) := by
  obtain ⟨p, e, s, m, args, below, meth, c⟩ := r
  intro T locs vm0 I
  subst hp
  obtain ⟨s₂, o, h1, h2⟩ := hr T locs vm0 I
  obtain ⟨hx, hby, -, -, -, -, X, -⟩ := I
  exact ⟨s₂, o, XT.ishl X.here hx rfl (hb hby hd) rfl h1, h2⟩
theorem W_iushr {x y : Int32} (hd : decode bytes pc = .ok (.iushr, 1)) (hp : pc + 1 = pc')  (hr : WP l R Z a0 EL own nm bytes maxL ret Q r cells slots L pc' Ls (.int (XT.ushr x y) :: st)) : WP l R Z a0 EL own nm bytes maxL ret Q r cells slots L pc Ls (.int y :: .int x :: st) := by
  obtain ⟨p, e, s, m, args, below, meth, c⟩ := r
  intro T locs vm0 I
  subst hp
  obtain ⟨s₂, o, h1, h2⟩ := hr T locs vm0 I
  obtain ⟨hx, hby, -, -, -, -, X, -⟩ := I
  exact ⟨s₂, o, XT.iushr X.here hx rfl (hb hby hd) rfl h1, h2⟩
theorem W_ladd {x y : Int64} (hd : decode bytes pc = .ok (.ladd, 1)) (hp : pc + 1 = pc')  (hr : WP l R Z a0 EL own nm bytes maxL ret Q r cells slots L pc' Ls (.long (x + y) :: st)) : WP l R Z a0 EL own nm bytes maxL ret Q r cells slots L pc Ls (.long y :: .long x :: st) := by
  obtain ⟨p, e, s, m, args, below, meth, c⟩ := r
  intro T locs vm0 I
  subst hp
  obtain ⟨s₂, o, h1, h2⟩ := hr T locs vm0 I
  obtain ⟨hx, hby, -, -, -, -, X, -⟩ := I
  exact ⟨s₂, o, XT.ladd X.here hx rfl (hb hby hd) rfl h1, h2⟩
theorem W_lsub {x y : Int64} (hd : decode bytes pc = .ok (.lsub, 1)) (hp : pc + 1 = pc')  (hr : WP l R Z a0 EL own nm bytes maxL ret Q r cells slots L pc' Ls (.long (x - y) :: st)) : WP l R Z a0 EL own nm bytes maxL ret Q r cells slots L pc Ls (.long y :: .long x :: st) := by
  obtain ⟨p, e, s, m, args, below, meth, c⟩ := r
  intro T locs vm0 I
  subst hp
  obtain ⟨s₂, o, h1, h2⟩ := hr T locs vm0 I
  obtain ⟨hx, hby, -, -, -, -, X, -⟩ := I
  exact ⟨s₂, o, XT.lsub X.here hx rfl (hb hby hd) rfl h1, h2⟩
theorem W_lmul {x y : Int64} (hd : decode bytes pc = .ok (.lmul, 1)) (hp : pc + 1 = pc')  (hr : WP l R Z a0 EL own nm bytes maxL ret Q r cells slots L pc' Ls (.long (x * y) :: st)) : WP l R Z a0 EL own nm bytes maxL ret Q r cells slots L pc Ls (.long y :: .long x :: st) := by
  obtain ⟨p, e, s, m, args, below, meth, c⟩ := r
  intro T locs vm0 I
  subst hp
  obtain ⟨s₂, o, h1, h2⟩ := hr T locs vm0 I
  obtain ⟨hx, hby, -, -, -, -, X, -⟩ := I
  exact ⟨s₂, o, XT.lmul X.here hx rfl (hb hby hd) rfl h1, h2⟩
theorem W_land {x y : Int64} (hd : decode bytes pc = .ok (.land, 1)) (hp : pc + 1 = pc')  (hr : WP l R Z a0 EL own nm bytes maxL ret Q r cells slots L pc' Ls (.long (x &&& y) :: st)) : WP l R Z a0 EL own nm bytes maxL ret Q r cells slots L pc Ls (.long y :: .long x :: st) := by
  obtain ⟨p, e, s, m, args, below, meth, c⟩ := r
  intro T locs vm0 I
  subst hp
  obtain ⟨s₂, o, h1, h2⟩ := hr T locs vm0 I
  obtain ⟨hx, hby, -, -, -, -, X, -⟩ := I
  exact ⟨s₂, o, XT.land X.here hx rfl (hb hby hd) rfl h1, h2⟩
theorem W_lor {x y : Int64} (hd : decode bytes pc = .ok (.lor, 1)) (hp : pc + 1 = pc')  (hr : WP l R Z a0 EL own nm bytes maxL ret Q r cells slots L pc' Ls (.long (x ||| y) :: st)) : WP l R Z a0 EL own nm bytes maxL ret Q r cells slots L pc Ls (.long y :: .long x :: st) := by
  obtain ⟨p, e, s, m, args, below, meth, c⟩ := r
  intro T locs vm0 I
  subst hp
  obtain ⟨s₂, o, h1, h2⟩ := hr T locs vm0 I
  obtain ⟨hx, hby, -, -, -, -, X, -⟩ := I
  exact ⟨s₂, o, XT.lor X.here hx rfl (hb hby hd) rfl h1, h2⟩
theorem W_lshl {x : Int64} {y : Int32} (hd : decode bytes pc = .ok (.lshl, 1)) (hp : pc + 1 = pc')  (hr : WP l R Z a0 EL own nm bytes maxL ret Q r cells slots L pc' Ls (.long (x <<< (y.toInt64 &&& 63)) :: st)) : WP l R Z a0 EL own nm bytes maxL ret Q r cells slots L pc Ls (.int y :: .long x :: st) := by
  obtain ⟨p, e, s, m, args, below, meth, c⟩ := r
  intro T locs vm0 I
  subst hp
  obtain ⟨s₂, o, h1, h2⟩ := hr T locs vm0 I
  obtain ⟨hx, hby, -, -, -, -, X, -⟩ := I
  exact ⟨s₂, o, XT.lshl X.here hx rfl (hb hby hd) rfl h1, h2⟩
theorem W_lshr {x : Int64} {y : Int32} (hd : decode bytes pc = .ok (.lshr, 1)) (hp : pc + 1 = pc')  (hr : WP l R Z a0 EL own nm bytes maxL ret Q r cells slots L pc' Ls (.long (x >>> (y.toInt64 &&& 63)) :: st)) : WP l R Z a0 EL own nm bytes maxL ret Q r cells slots L pc Ls (.int y :: .long x :: st) := by
  obtain ⟨p, e, s, m, args, below, meth, c⟩ := r
  intro T locs vm0 I
  subst hp
  obtain ⟨s₂, o, h1, h2⟩ := hr T locs vm0 I
  obtain ⟨hx, hby, -, -, -, -, X, -⟩ := I
  exact ⟨s₂, o, XT.lshr X.here hx rfl (hb hby hd) rfl h1, h2⟩
theorem W_lushr {x : Int64} {y : Int32} (hd : decode bytes pc = .ok (.lushr, 1)) (hp : pc + 1 = pc')  (hr : WP l R Z a0 EL own nm bytes maxL ret Q r cells slots L pc' Ls (.long (XT.ushrL x y) :: st)) : WP l R Z a0 EL own nm bytes maxL ret Q r cells slots L pc Ls (.int y :: .long x :: st) := by
  obtain ⟨p, e, s, m, args, below, meth, c⟩ := r
  intro T locs vm0 I
  subst hp
  obtain ⟨s₂, o, h1, h2⟩ := hr T locs vm0 I
  obtain ⟨hx, hby, -, -, -, -, X, -⟩ := I
  exact ⟨s₂, o, XT.lushr X.here hx rfl (hb hby hd) rfl h1, h2⟩
theorem W_irem {x y : Int32} (hd : decode bytes pc = .ok (.irem, 1)) (hp : pc + 1 = pc') (hy : y ≠ 0) (hr : WP l R Z a0 EL own nm bytes maxL ret Q r cells slots L pc' Ls (.int (x % y) :: st)) : WP l R Z a0 EL own nm bytes maxL ret Q r cells slots L pc Ls (.int y :: .int x :: st) := by
  obtain ⟨p, e, s, m, args, below, meth, c⟩ := r
  intro T locs vm0 I
  subst hp
  obtain ⟨s₂, o, h1, h2⟩ := hr T locs vm0 I
  obtain ⟨hx, hby, -, -, -, -, X, -⟩ := I
  exact ⟨s₂, o, iremM X hx rfl (hb hby hd) rfl hy h1, h2⟩
theorem W_ldiv {x y : Int64} (hd : decode bytes pc = .ok (.ldiv, 1)) (hp : pc + 1 = pc') (hy : y ≠ 0) (hr : WP l R Z a0 EL own nm bytes maxL ret Q r cells slots L pc' Ls (.long (x / y) :: st)) : WP l R Z a0 EL own nm bytes maxL ret Q r cells slots L pc Ls (.long y :: .long x :: st) := by
  obtain ⟨p, e, s, m, args, below, meth, c⟩ := r
  intro T locs vm0 I
  subst hp
  obtain ⟨s₂, o, h1, h2⟩ := hr T locs vm0 I
  obtain ⟨hx, hby, -, -, -, -, X, -⟩ := I
  exact ⟨s₂, o, XT.ldiv X.here hx rfl (hb hby hd) rfl hy h1, h2⟩
theorem W_lneg {x : Int64} (hd : decode bytes pc = .ok (.lneg, 1)) (hp : pc + 1 = pc')  (hr : WP l R Z a0 EL own nm bytes maxL ret Q r cells slots L pc' Ls (.long (-x) :: st)) : WP l R Z a0 EL own nm bytes maxL ret Q r cells slots L pc Ls (.long x :: st) := by
  obtain ⟨p, e, s, m, args, below, meth, c⟩ := r
  intro T locs vm0 I
  subst hp
  obtain ⟨s₂, o, h1, h2⟩ := hr T locs vm0 I
  obtain ⟨hx, hby, -, -, -, -, X, -⟩ := I
  exact ⟨s₂, o, XT.lneg X.here hx rfl (hb hby hd) rfl h1, h2⟩
theorem W_i2l {x : Int32} (hd : decode bytes pc = .ok (.i2l, 1)) (hp : pc + 1 = pc')  (hr : WP l R Z a0 EL own nm bytes maxL ret Q r cells slots L pc' Ls (.long (x.toInt64) :: st)) : WP l R Z a0 EL own nm bytes maxL ret Q r cells slots L pc Ls (.int x :: st) := by
  obtain ⟨p, e, s, m, args, below, meth, c⟩ := r
  intro T locs vm0 I
  subst hp
  obtain ⟨s₂, o, h1, h2⟩ := hr T locs vm0 I
  obtain ⟨hx, hby, -, -, -, -, X, -⟩ := I
  exact ⟨s₂, o, XT.i2l X.here hx rfl (hb hby hd) rfl h1, h2⟩
theorem W_l2i {x : Int64} (hd : decode bytes pc = .ok (.l2i, 1)) (hp : pc + 1 = pc')  (hr : WP l R Z a0 EL own nm bytes maxL ret Q r cells slots L pc' Ls (.int (x.toInt32) :: st)) : WP l R Z a0 EL own nm bytes maxL ret Q r cells slots L pc Ls (.long x :: st) := by
  obtain ⟨p, e, s, m, args, below, meth, c⟩ := r
  intro T locs vm0 I
  subst hp
  obtain ⟨s₂, o, h1, h2⟩ := hr T locs vm0 I
  obtain ⟨hx, hby, -, -, -, -, X, -⟩ := I
  exact ⟨s₂, o, XT.l2i X.here hx rfl (hb hby hd) rfl h1, h2⟩
theorem W_lcmp {x y : Int64} (hd : decode bytes pc = .ok (.lcmp, 1)) (hp : pc + 1 = pc')  (hr : WP l R Z a0 EL own nm bytes maxL ret Q r cells slots L pc' Ls (.int (XT.cmpL x y) :: st)) : WP l R Z a0 EL own nm bytes maxL ret Q r cells slots L pc Ls (.long y :: .long x :: st) := by
  obtain ⟨p, e, s, m, args, below, meth, c⟩ := r
  intro T locs vm0 I
  subst hp
  obtain ⟨s₂, o, h1, h2⟩ := hr T locs vm0 I
  obtain ⟨hx, hby, -, -, -, -, X, -⟩ := I
  exact ⟨s₂, o, XT.lcmp X.here hx rfl (hb hby hd) rfl h1, h2⟩
theorem W_pop {x : Value} (hd : decode bytes pc = .ok (.pop, 1)) (hp : pc + 1 = pc') (hc : x.category = 1) (hr : WP l R Z a0 EL own nm bytes maxL ret Q r cells slots L pc' Ls st) : WP l R Z a0 EL own nm bytes maxL ret Q r cells slots L pc Ls (x :: st) := by
  obtain ⟨p, e, s, m, args, below, meth, c⟩ := r
  intro T locs vm0 I
  subst hp
  obtain ⟨s₂, o, h1, h2⟩ := hr T locs vm0 I
  obtain ⟨hx, hby, -, -, -, -, X, -⟩ := I
  exact ⟨s₂, o, XT.pop X.here hx rfl (hb hby hd) rfl hc h1, h2⟩
theorem W_dup {x : Value} (hd : decode bytes pc = .ok (.dup, 1)) (hp : pc + 1 = pc') (hc : x.category = 1) (hr : WP l R Z a0 EL own nm bytes maxL ret Q r cells slots L pc' Ls (x :: x :: st)) : WP l R Z a0 EL own nm bytes maxL ret Q r cells slots L pc Ls (x :: st) := by
  obtain ⟨p, e, s, m, args, below, meth, c⟩ := r
  intro T locs vm0 I
  subst hp
  obtain ⟨s₂, o, h1, h2⟩ := hr T locs vm0 I
  obtain ⟨hx, hby, -, -, -, -, X, -⟩ := I
  exact ⟨s₂, o, XS.dup X.here hx rfl (hb hby hd) rfl hc h1, h2⟩
theorem W_dup_x1 {x y : Value} (hd : decode bytes pc = .ok (.dup_x1, 1)) (hp : pc + 1 = pc') (hc : x.category = 1) (hc' : y.category = 1) (hr : WP l R Z a0 EL own nm bytes maxL ret Q r cells slots L pc' Ls (x :: y :: x :: st)) : WP l R Z a0 EL own nm bytes maxL ret Q r cells slots L pc Ls (x :: y :: st) := by
  obtain ⟨p, e, s, m, args, below, meth, c⟩ := r
  intro T locs vm0 I
  subst hp
  obtain ⟨s₂, o, h1, h2⟩ := hr T locs vm0 I
  obtain ⟨hx, hby, -, -, -, -, X, -⟩ := I
  exact ⟨s₂, o, XT.dupX1 X.here hx rfl (hb hby hd) rfl hc hc' h1, h2⟩
theorem W_dup2 {x y : Value} (hd : decode bytes pc = .ok (.dup2, 1)) (hp : pc + 1 = pc') (hc : x.category = 1) (hc' : y.category = 1) (hr : WP l R Z a0 EL own nm bytes maxL ret Q r cells slots L pc' Ls (x :: y :: x :: y :: st)) : WP l R Z a0 EL own nm bytes maxL ret Q r cells slots L pc Ls (x :: y :: st) := by
  obtain ⟨p, e, s, m, args, below, meth, c⟩ := r
  intro T locs vm0 I
  subst hp
  obtain ⟨s₂, o, h1, h2⟩ := hr T locs vm0 I
  obtain ⟨hx, hby, -, -, -, -, X, -⟩ := I
  exact ⟨s₂, o, XT.dup2 X.here hx rfl (hb hby hd) rfl hc hc' h1, h2⟩
end Plain
/-! ## 6. Branches -/
section Branch
variable {l : Launch} {R : Room} {Z : State} {a0 : Array Value} {EL : List (String × Nat)} {own nm : String} {bytes : ByteArray} {maxL : Nat} {ret : Option FieldType} {Q : Option Value → List Atom → Prop} {r : Run} {cells slots : Nat} {L L' : List Atom} {pc pc' : Nat} {Ls Ls' : List Slot} {st : List Value}
theorem W_goto {o : Int} (hd : decode bytes pc = .ok (.goto o, 3)) (h0 : 0 ≤ (pc : Int) + o) (hp : ((pc : Int) + o).toNat = pc') (hr : WP l R Z a0 EL own nm bytes maxL ret Q r cells slots L pc' Ls st) : WP l R Z a0 EL own nm bytes maxL ret Q r cells slots L pc Ls st := by
  obtain ⟨p, e, s, m, args, below, meth, c⟩ := r
  intro T locs vm0 I
  obtain ⟨s₂, o, h1, h2⟩ := hr T locs vm0 I
  obtain ⟨hx, hby, -, -, -, -, X, -⟩ := I
  exact ⟨s₂, o, XS.goto X.here hx rfl rfl (hb hby hd) h0 hp h1, h2⟩
theorem W_icmp_eq_T {x y : Int32} {o : Int} (hd : decode bytes pc = .ok (.if_icmp .eq o, 3)) (h0 : 0 ≤ (pc : Int) + o) (hp : ((pc : Int) + o).toNat = pc') (hc : x = y) (hr : WP l R Z a0 EL own nm bytes maxL ret Q r cells slots L pc' Ls st) : WP l R Z a0 EL own nm bytes maxL ret Q r cells slots L pc Ls (.int y :: .int x :: st) := by
  obtain ⟨p, e, s, m, args, below, meth, c⟩ := r
  intro T locs vm0 I
  obtain ⟨s₂, o, h1, h2⟩ := hr T locs vm0 I
  obtain ⟨hx, hby, -, -, -, -, X, -⟩ := I
  exact ⟨s₂, o, XS.icmpYes X.here hx rfl rfl (hb hby hd) rfl (XT.ii_eq_t hc) h0 hp h1, h2⟩
theorem W_icmp_eq_F {x y : Int32} {o : Int} (hd : decode bytes pc = .ok (.if_icmp .eq o, 3)) (hp : pc + 3 = pc') (hc : ¬ x = y) (hr : WP l R Z a0 EL own nm bytes maxL ret Q r cells slots L pc' Ls st) : WP l R Z a0 EL own nm bytes maxL ret Q r cells slots L pc Ls (.int y :: .int x :: st) := by
  obtain ⟨p, e, s, m, args, below, meth, c⟩ := r
  intro T locs vm0 I
  subst hp
  obtain ⟨s₂, o, h1, h2⟩ := hr T locs vm0 I
  obtain ⟨hx, hby, -, -, -, -, X, -⟩ := I
  exact ⟨s₂, o, XS.icmpNo X.here hx rfl (hb hby hd) rfl (XT.ii_eq_f hc) h1, h2⟩
theorem W_if_eq_T {x : Int32} {o : Int} (hd : decode bytes pc = .ok (.ifCond .eq o, 3)) (h0 : 0 ≤ (pc : Int) + o) (hp : ((pc : Int) + o).toNat = pc') (hc : x = 0) (hr : WP l R Z a0 EL own nm bytes maxL ret Q r cells slots L pc' Ls st) : WP l R Z a0 EL own nm bytes maxL ret Q r cells slots L pc Ls (.int x :: st) := by
  obtain ⟨p, e, s, m, args, below, meth, c⟩ := r
  intro T locs vm0 I
  obtain ⟨s₂, o, h1, h2⟩ := hr T locs vm0 I
  obtain ⟨hx, hby, -, -, -, -, X, -⟩ := I
  exact ⟨s₂, o, XS.ifYes X.here hx rfl rfl (hb hby hd) rfl (XT.i0_eq_t hc) h0 hp h1, h2⟩
theorem W_if_eq_F {x : Int32} {o : Int} (hd : decode bytes pc = .ok (.ifCond .eq o, 3)) (hp : pc + 3 = pc') (hc : ¬ x = 0) (hr : WP l R Z a0 EL own nm bytes maxL ret Q r cells slots L pc' Ls st) : WP l R Z a0 EL own nm bytes maxL ret Q r cells slots L pc Ls (.int x :: st) := by
  obtain ⟨p, e, s, m, args, below, meth, c⟩ := r
  intro T locs vm0 I
  subst hp
  obtain ⟨s₂, o, h1, h2⟩ := hr T locs vm0 I
  obtain ⟨hx, hby, -, -, -, -, X, -⟩ := I
  exact ⟨s₂, o, XS.ifNo X.here hx rfl (hb hby hd) rfl (XT.i0_eq_f hc) h1, h2⟩
theorem W_icmp_ne_T {x y : Int32} {o : Int} (hd : decode bytes pc = .ok (.if_icmp .ne o, 3)) (h0 : 0 ≤ (pc : Int) + o) (hp : ((pc : Int) + o).toNat = pc') (hc : ¬ x = y) (hr : WP l R Z a0 EL own nm bytes maxL ret Q r cells slots L pc' Ls st) : WP l R Z a0 EL own nm bytes maxL ret Q r cells slots L pc Ls (.int y :: .int x :: st) := by
  obtain ⟨p, e, s, m, args, below, meth, c⟩ := r
  intro T locs vm0 I
  obtain ⟨s₂, o, h1, h2⟩ := hr T locs vm0 I
  obtain ⟨hx, hby, -, -, -, -, X, -⟩ := I
  exact ⟨s₂, o, XS.icmpYes X.here hx rfl rfl (hb hby hd) rfl (XT.ii_ne_t hc) h0 hp h1, h2⟩
theorem W_icmp_ne_F {x y : Int32} {o : Int} (hd : decode bytes pc = .ok (.if_icmp .ne o, 3)) (hp : pc + 3 = pc') (hc : x = y) (hr : WP l R Z a0 EL own nm bytes maxL ret Q r cells slots L pc' Ls st) : WP l R Z a0 EL own nm bytes maxL ret Q r cells slots L pc Ls (.int y :: .int x :: st) := by
  obtain ⟨p, e, s, m, args, below, meth, c⟩ := r
  intro T locs vm0 I
  subst hp
  obtain ⟨s₂, o, h1, h2⟩ := hr T locs vm0 I
  obtain ⟨hx, hby, -, -, -, -, X, -⟩ := I
  exact ⟨s₂, o, XS.icmpNo X.here hx rfl (hb hby hd) rfl (XT.ii_ne_f hc) h1, h2⟩
theorem W_if_ne_T {x : Int32} {o : Int} (hd : decode bytes pc = .ok (.ifCond .ne o, 3)) (h0 : 0 ≤ (pc : Int) + o) (hp : ((pc : Int) + o).toNat = pc') (hc : ¬ x = 0) (hr : WP l R Z a0 EL own nm bytes maxL ret Q r cells slots L pc' Ls st) : WP l R Z a0 EL own nm bytes maxL ret Q r cells slots L pc Ls (.int x :: st) := by
  obtain ⟨p, e, s, m, args, below, meth, c⟩ := r
  intro T locs vm0 I
  obtain ⟨s₂, o, h1, h2⟩ := hr T locs vm0 I
  obtain ⟨hx, hby, -, -, -, -, X, -⟩ := I
  exact ⟨s₂, o, XS.ifYes X.here hx rfl rfl (hb hby hd) rfl (XT.i0_ne_t hc) h0 hp h1, h2⟩
theorem W_if_ne_F {x : Int32} {o : Int} (hd : decode bytes pc = .ok (.ifCond .ne o, 3)) (hp : pc + 3 = pc') (hc : x = 0) (hr : WP l R Z a0 EL own nm bytes maxL ret Q r cells slots L pc' Ls st) : WP l R Z a0 EL own nm bytes maxL ret Q r cells slots L pc Ls (.int x :: st) := by
  obtain ⟨p, e, s, m, args, below, meth, c⟩ := r
  intro T locs vm0 I
  subst hp
  obtain ⟨s₂, o, h1, h2⟩ := hr T locs vm0 I
  obtain ⟨hx, hby, -, -, -, -, X, -⟩ := I
  exact ⟨s₂, o, XS.ifNo X.here hx rfl (hb hby hd) rfl (XT.i0_ne_f hc) h1, h2⟩
theorem W_icmp_lt_T {x y : Int32} {o : Int} (hd : decode bytes pc = .ok (.if_icmp .lt o, 3)) (h0 : 0 ≤ (pc : Int) + o) (hp : ((pc : Int) + o).toNat = pc') (hc : x < y) (hr : WP l R Z a0 EL own nm bytes maxL ret Q r cells slots L pc' Ls st) : WP l R Z a0 EL own nm bytes maxL ret Q r cells slots L pc Ls (.int y :: .int x :: st) := by
  obtain ⟨p, e, s, m, args, below, meth, c⟩ := r
  intro T locs vm0 I
  obtain ⟨s₂, o, h1, h2⟩ := hr T locs vm0 I
  obtain ⟨hx, hby, -, -, -, -, X, -⟩ := I
  exact ⟨s₂, o, XS.icmpYes X.here hx rfl rfl (hb hby hd) rfl (XT.ii_lt_t hc) h0 hp h1, h2⟩
theorem W_icmp_lt_F {x y : Int32} {o : Int} (hd : decode bytes pc = .ok (.if_icmp .lt o, 3)) (hp : pc + 3 = pc') (hc : ¬ x < y) (hr : WP l R Z a0 EL own nm bytes maxL ret Q r cells slots L pc' Ls st) : WP l R Z a0 EL own nm bytes maxL ret Q r cells slots L pc Ls (.int y :: .int x :: st) := by
  obtain ⟨p, e, s, m, args, below, meth, c⟩ := r
  intro T locs vm0 I
  subst hp
  obtain ⟨s₂, o, h1, h2⟩ := hr T locs vm0 I
  obtain ⟨hx, hby, -, -, -, -, X, -⟩ := I
  exact ⟨s₂, o, XS.icmpNo X.here hx rfl (hb hby hd) rfl (XT.ii_lt_f hc) h1, h2⟩
theorem W_if_lt_T {x : Int32} {o : Int} (hd : decode bytes pc = .ok (.ifCond .lt o, 3)) (h0 : 0 ≤ (pc : Int) + o) (hp : ((pc : Int) + o).toNat = pc') (hc : x < 0) (hr : WP l R Z a0 EL own nm bytes maxL ret Q r cells slots L pc' Ls st) : WP l R Z a0 EL own nm bytes maxL ret Q r cells slots L pc Ls (.int x :: st) := by
  obtain ⟨p, e, s, m, args, below, meth, c⟩ := r
  intro T locs vm0 I
  obtain ⟨s₂, o, h1, h2⟩ := hr T locs vm0 I
  obtain ⟨hx, hby, -, -, -, -, X, -⟩ := I
  exact ⟨s₂, o, XS.ifYes X.here hx rfl rfl (hb hby hd) rfl (XT.i0_lt_t hc) h0 hp h1, h2⟩
theorem W_if_lt_F {x : Int32} {o : Int} (hd : decode bytes pc = .ok (.ifCond .lt o, 3)) (hp : pc + 3 = pc') (hc : ¬ x < 0) (hr : WP l R Z a0 EL own nm bytes maxL ret Q r cells slots L pc' Ls st) : WP l R Z a0 EL own nm bytes maxL ret Q r cells slots L pc Ls (.int x :: st) := by
  obtain ⟨p, e, s, m, args, below, meth, c⟩ := r
  intro T locs vm0 I
  subst hp
  obtain ⟨s₂, o, h1, h2⟩ := hr T locs vm0 I
  obtain ⟨hx, hby, -, -, -, -, X, -⟩ := I
  exact ⟨s₂, o, XS.ifNo X.here hx rfl (hb hby hd) rfl (XT.i0_lt_f hc) h1, h2⟩
theorem W_icmp_ge_T {x y : Int32} {o : Int} (hd : decode bytes pc = .ok (.if_icmp .ge o, 3)) (h0 : 0 ≤ (pc : Int) + o) (hp : ((pc : Int) + o).toNat = pc') (hc : ¬ x < y) (hr : WP l R Z a0 EL own nm bytes maxL ret Q r cells slots L pc' Ls st) : WP l R Z a0 EL own nm bytes maxL ret Q r cells slots L pc Ls (.int y :: .int x :: st) := by
  obtain ⟨p, e, s, m, args, below, meth, c⟩ := r
  intro T locs vm0 I
  obtain ⟨s₂, o, h1, h2⟩ := hr T locs vm0 I
  obtain ⟨hx, hby, -, -, -, -, X, -⟩ := I
  exact ⟨s₂, o, XS.icmpYes X.here hx rfl rfl (hb hby hd) rfl (XT.ii_ge_t hc) h0 hp h1, h2⟩
theorem W_icmp_ge_F {x y : Int32} {o : Int} (hd : decode bytes pc = .ok (.if_icmp .ge o, 3)) (hp : pc + 3 = pc') (hc : x < y) (hr : WP l R Z a0 EL own nm bytes maxL ret Q r cells slots L pc' Ls st) : WP l R Z a0 EL own nm bytes maxL ret Q r cells slots L pc Ls (.int y :: .int x :: st) := by
  obtain ⟨p, e, s, m, args, below, meth, c⟩ := r
  intro T locs vm0 I
  subst hp
  obtain ⟨s₂, o, h1, h2⟩ := hr T locs vm0 I
  obtain ⟨hx, hby, -, -, -, -, X, -⟩ := I
  exact ⟨s₂, o, XS.icmpNo X.here hx rfl (hb hby hd) rfl (XT.ii_ge_f hc) h1, h2⟩
theorem W_if_ge_T {x : Int32} {o : Int} (hd : decode bytes pc = .ok (.ifCond .ge o, 3)) (h0 : 0 ≤ (pc : Int) + o) (hp : ((pc : Int) + o).toNat = pc') (hc : ¬ x < 0) (hr : WP l R Z a0 EL own nm bytes maxL ret Q r cells slots L pc' Ls st) : WP l R Z a0 EL own nm bytes maxL ret Q r cells slots L pc Ls (.int x :: st) := by
  obtain ⟨p, e, s, m, args, below, meth, c⟩ := r
  intro T locs vm0 I
  obtain ⟨s₂, o, h1, h2⟩ := hr T locs vm0 I
  obtain ⟨hx, hby, -, -, -, -, X, -⟩ := I
  exact ⟨s₂, o, XS.ifYes X.here hx rfl rfl (hb hby hd) rfl (XT.i0_ge_t hc) h0 hp h1, h2⟩
theorem W_if_ge_F {x : Int32} {o : Int} (hd : decode bytes pc = .ok (.ifCond .ge o, 3)) (hp : pc + 3 = pc') (hc : x < 0) (hr : WP l R Z a0 EL own nm bytes maxL ret Q r cells slots L pc' Ls st) : WP l R Z a0 EL own nm bytes maxL ret Q r cells slots L pc Ls (.int x :: st) := by
  obtain ⟨p, e, s, m, args, below, meth, c⟩ := r
  intro T locs vm0 I
  subst hp
  obtain ⟨s₂, o, h1, h2⟩ := hr T locs vm0 I
  obtain ⟨hx, hby, -, -, -, -, X, -⟩ := I
  exact ⟨s₂, o, XS.ifNo X.here hx rfl (hb hby hd) rfl (XT.i0_ge_f hc) h1, h2⟩
theorem W_if_gt_T {x : Int32} {o : Int} (hd : decode bytes pc = .ok (.ifCond .gt o, 3)) (h0 : 0 ≤ (pc : Int) + o) (hp : ((pc : Int) + o).toNat = pc') (hc : 0 < x) (hr : WP l R Z a0 EL own nm bytes maxL ret Q r cells slots L pc' Ls st) : WP l R Z a0 EL own nm bytes maxL ret Q r cells slots L pc Ls (.int x :: st) := by
  obtain ⟨p, e, s, m, args, below, meth, c⟩ := r
  intro T locs vm0 I
  obtain ⟨s₂, o, h1, h2⟩ := hr T locs vm0 I
  obtain ⟨hx, hby, -, -, -, -, X, -⟩ := I
  exact ⟨s₂, o, XS.ifYes X.here hx rfl rfl (hb hby hd) rfl (XT.i0_gt_t hc) h0 hp h1, h2⟩
theorem W_if_gt_F {x : Int32} {o : Int} (hd : decode bytes pc = .ok (.ifCond .gt o, 3)) (hp : pc + 3 = pc') (hc : ¬ 0 < x) (hr : WP l R Z a0 EL own nm bytes maxL ret Q r cells slots L pc' Ls st) : WP l R Z a0 EL own nm bytes maxL ret Q r cells slots L pc Ls (.int x :: st) := by
  obtain ⟨p, e, s, m, args, below, meth, c⟩ := r
  intro T locs vm0 I
  subst hp
  obtain ⟨s₂, o, h1, h2⟩ := hr T locs vm0 I
  obtain ⟨hx, hby, -, -, -, -, X, -⟩ := I
  exact ⟨s₂, o, XS.ifNo X.here hx rfl (hb hby hd) rfl (XT.i0_gt_f hc) h1, h2⟩
theorem W_icmp_le_T {x y : Int32} {o : Int} (hd : decode bytes pc = .ok (.if_icmp .le o, 3)) (h0 : 0 ≤ (pc : Int) + o) (hp : ((pc : Int) + o).toNat = pc') (hc : ¬ y < x) (hr : WP l R Z a0 EL own nm bytes maxL ret Q r cells slots L pc' Ls st) : WP l R Z a0 EL own nm bytes maxL ret Q r cells slots L pc Ls (.int y :: .int x :: st) := by
  obtain ⟨p, e, s, m, args, below, meth, c⟩ := r
  intro T locs vm0 I
  obtain ⟨s₂, o, h1, h2⟩ := hr T locs vm0 I
  obtain ⟨hx, hby, -, -, -, -, X, -⟩ := I
  exact ⟨s₂, o, XS.icmpYes X.here hx rfl rfl (hb hby hd) rfl (XT.ii_le_t hc) h0 hp h1, h2⟩
theorem W_icmp_le_F {x y : Int32} {o : Int} (hd : decode bytes pc = .ok (.if_icmp .le o, 3)) (hp : pc + 3 = pc') (hc : y < x) (hr : WP l R Z a0 EL own nm bytes maxL ret Q r cells slots L pc' Ls st) : WP l R Z a0 EL own nm bytes maxL ret Q r cells slots L pc Ls (.int y :: .int x :: st) := by
  obtain ⟨p, e, s, m, args, below, meth, c⟩ := r
  intro T locs vm0 I
  subst hp
  obtain ⟨s₂, o, h1, h2⟩ := hr T locs vm0 I
  obtain ⟨hx, hby, -, -, -, -, X, -⟩ := I
  exact ⟨s₂, o, XS.icmpNo X.here hx rfl (hb hby hd) rfl (XT.ii_le_f hc) h1, h2⟩
theorem W_if_le_T {x : Int32} {o : Int} (hd : decode bytes pc = .ok (.ifCond .le o, 3)) (h0 : 0 ≤ (pc : Int) + o) (hp : ((pc : Int) + o).toNat = pc') (hc : ¬ 0 < x) (hr : WP l R Z a0 EL own nm bytes maxL ret Q r cells slots L pc' Ls st) : WP l R Z a0 EL own nm bytes maxL ret Q r cells slots L pc Ls (.int x :: st) := by
  obtain ⟨p, e, s, m, args, below, meth, c⟩ := r
  intro T locs vm0 I
  obtain ⟨s₂, o, h1, h2⟩ := hr T locs vm0 I
  obtain ⟨hx, hby, -, -, -, -, X, -⟩ := I
  exact ⟨s₂, o, XS.ifYes X.here hx rfl rfl (hb hby hd) rfl (XT.i0_le_t hc) h0 hp h1, h2⟩
theorem W_if_le_F {x : Int32} {o : Int} (hd : decode bytes pc = .ok (.ifCond .le o, 3)) (hp : pc + 3 = pc') (hc : 0 < x) (hr : WP l R Z a0 EL own nm bytes maxL ret Q r cells slots L pc' Ls st) : WP l R Z a0 EL own nm bytes maxL ret Q r cells slots L pc Ls (.int x :: st) := by
  obtain ⟨p, e, s, m, args, below, meth, c⟩ := r
  intro T locs vm0 I
  subst hp
  obtain ⟨s₂, o, h1, h2⟩ := hr T locs vm0 I
  obtain ⟨hx, hby, -, -, -, -, X, -⟩ := I
  exact ⟨s₂, o, XS.ifNo X.here hx rfl (hb hby hd) rfl (XT.i0_le_f hc) h1, h2⟩
theorem W_ifnonnull_T {b : Addr} {o : Int} (hd : decode bytes pc = .ok (.ifnonnull o, 3)) (h0 : 0 ≤ (pc : Int) + o) (hp : ((pc : Int) + o).toNat = pc') (hr : WP l R Z a0 EL own nm bytes maxL ret Q r cells slots L pc' Ls st) : WP l R Z a0 EL own nm bytes maxL ret Q r cells slots L pc Ls (.ref b :: st) := by
  obtain ⟨p, e, s, m, args, below, meth, c⟩ := r
  intro T locs vm0 I
  obtain ⟨s₂, o, h1, h2⟩ := hr T locs vm0 I
  obtain ⟨hx, hby, -, -, -, -, X, -⟩ := I
  exact ⟨s₂, o, XT.ifnonnullYes X.here hx rfl rfl (hb hby hd) rfl h0 hp h1, h2⟩
theorem W_acmp_ne_T {x y : Value} {o : Int} (hd : decode bytes pc = .ok (.if_acmp .ne o, 3)) (h0 : 0 ≤ (pc : Int) + o) (hp : ((pc : Int) + o).toNat = pc') (hx' : x.isRef = true) (hy' : y.isRef = true) (hc : ¬ x = y) (hr : WP l R Z a0 EL own nm bytes maxL ret Q r cells slots L pc' Ls st) : WP l R Z a0 EL own nm bytes maxL ret Q r cells slots L pc Ls (y :: x :: st) := by
  obtain ⟨p, e, s, m, args, below, meth, c⟩ := r
  intro T locs vm0 I
  obtain ⟨s₂, o, h1, h2⟩ := hr T locs vm0 I
  obtain ⟨hx, hby, -, -, -, -, X, -⟩ := I
  exact ⟨s₂, o, XT.acmpYes X.here hx rfl rfl (hb hby hd) rfl hx' hy' (XT.aa_ne_t hc) h0 hp h1, h2⟩
theorem W_acmp_ne_F {x y : Value} {o : Int} (hd : decode bytes pc = .ok (.if_acmp .ne o, 3)) (hp : pc + 3 = pc') (hx' : x.isRef = true) (hy' : y.isRef = true) (hc : x = y) (hr : WP l R Z a0 EL own nm bytes maxL ret Q r cells slots L pc' Ls st) : WP l R Z a0 EL own nm bytes maxL ret Q r cells slots L pc Ls (y :: x :: st) := by
  obtain ⟨p, e, s, m, args, below, meth, c⟩ := r
  intro T locs vm0 I
  subst hp
  obtain ⟨s₂, o, h1, h2⟩ := hr T locs vm0 I
  obtain ⟨hx, hby, -, -, -, -, X, -⟩ := I
  exact ⟨s₂, o, XT.acmpNo X.here hx rfl (hb hby hd) rfl hx' hy' (XT.aa_ne_f hc) h1, h2⟩
end Branch
/-! ## 7. Fields, objects -/
def Lay (Z : State) (a0 : Array Value) (C : String) (fs : List FN) : Prop := (∃ n, (Jvm.Cond.instantiable C n).before a0 Z = true) ∧ (∀ f ∈ fs, Laid Z a0 C f.1 f.2.1 f.2.2 ∧ ∃ t, parseFieldDescriptor f.2.2 = some t) ∧ (fs.map (·.2.1)).Nodup
def dflt (f : FN) : Value := match parseFieldDescriptor f.2.2 with | some ty => defaultValue ty | none => .null
theorem IsObj.put {Z : State} {a0 : Array Value} {C : String} {fs : List FN} {vs : List Value} {c : Cell} {j : Nat} {O n d : String} {v : Value} (F : IsObj Z C fs vs c) (hlay : Lay Z a0 C fs) (hf : fs[j]? = some (O, n, d)) : IsObj Z C fs (vs.set j v) (c.setSlot (Jvm.RoadKit.slotOf Z O n d) v) := by
  obtain ⟨⟨k, e1, e2, e3, e4⟩, hl, hF⟩ := F
  refine ⟨⟨k, e1, e2, e3, fun q => by rw [sz_set]; exact e4 q⟩, by simpa using hl, fun i f w hi hw => ?_⟩
  have hj : j < vs.length := by rw [← hl]; exact (List.getElem?_eq_some_iff.mp hf).1
  by_cases e : i = j
  · subst e
    cases hf.symm.trans hi
    have hw' : v = w := by rw [List.getElem?_set] at hw; simpa [hj] using hw
    subst hw'
    obtain ⟨cf, kf, ix, fd, g1, g2, g3, g4, g5, g6⟩ := hF i _ _ hf (List.getElem?_eq_getElem hj)
    have es : Jvm.RoadKit.slotOf Z O n d = fd.slot := by simp [Jvm.RoadKit.slotOf, g1]
    refine ⟨cf, kf, ix, fd, g1, g2, g3, g4, g5, ?_⟩
    have hs : fd.slot < c.slots.size := (Array.getElem?_eq_some_iff.mp g6).1
    rw [es]; simp [Cell.setSlot, hs]
  · rw [List.getElem?_set_ne (Ne.symm e)] at hw
    obtain ⟨cf, kf, ix, fd, g1, g2, g3, g4, g5, g6⟩ := hF i _ _ hi hw
    refine ⟨cf, kf, ix, fd, g1, g2, g3, g4, g5, ?_⟩
    have L1 := hlay.2.1 _ (List.mem_of_getElem? hi)
    have L2 := hlay.2.1 _ (List.mem_of_getElem? hf)
    obtain ⟨t1, p1⟩ := L1.2
    obtain ⟨t2, p2⟩ := L2.2
    have hn : f.2.1 ≠ n := fun q => by
      have nd := List.pairwise_iff_getElem.mp hlay.2.2
      obtain ⟨hi1, ei⟩ := List.getElem?_eq_some_iff.mp hi
      obtain ⟨hj1, ej⟩ := List.getElem?_eq_some_iff.mp hf
      rcases Nat.lt_or_gt_of_ne e with r | r
      · exact nd i j (by simpa using hi1) (by simpa using hj1) r (by simp [ei, ej, q])
      · exact nd j i (by simpa using hj1) (by simpa using hi1) r (by simp [ei, ej, q])
    have ne := Jvm.RoadKit.slot_ne L1.1 L2.1 hn p1 p2
    have es : Jvm.RoadKit.slotOf Z f.1 f.2.1 f.2.2 = fd.slot := by simp [Jvm.RoadKit.slotOf, g1]
    rw [es] at ne
    show (c.setSlot _ v).slots[fd.slot]? = _
    simp only [Cell.setSlot]
    rw [Array.getElem?_setIfInBounds_ne (Ne.symm ne)]; exact g6
theorem IsArr.put {Z : State} {ty : FieldType} {vs : List Value} {c : Cell} {j : Nat} {v : Value} (F : IsArr Z ty vs c) (hf : fits ty v = true) : IsArr Z ty (vs.set j v) (c.setSlot j v) := by
  obtain ⟨h1, h2, h3, h4, h5⟩ := F
  refine ⟨h1, h2, by rw [← h3]; simp [Cell.setSlot], by simpa using h4, fun w hw => ?_⟩
  rcases mem_set_cases hw with rfl | ⟨i, -, e⟩
  · exact hf
  · exact h5 w (List.mem_of_getElem? e)
/-- an index that is a natural number -/
def Ix (j : Int32) (k : Nat) : Prop := j.toInt = (k : Int)
theorem lt_ble {a b : Nat} (h : Nat.ble (a + 1) b = true) : a < b := Nat.le_of_ble_eq_true h
theorem Ix.lit {j : Int32} {k : Nat} (h : decide (j.toInt = (k : Int)) = true) : Ix j k := (of_decide_eq_true h : j.toInt = (k : Int))
theorem Ix.nat {j : Int32} {k : Nat} (h : Ix j k) : j.toNatClampNeg = k := by simp only [Int32.toNatClampNeg]; unfold Ix at h; omega
theorem Ix.nn {j : Int32} {k : Nat} (h : Ix j k) : ¬ j < 0 := by
  rw [Int32.lt_iff_toInt_lt]; unfold Ix at h; have : (0 : Int32).toInt = 0 := rfl; omega
theorem Ix.in {j : Int32} {k n : Nat} (h : Ix j k) (q : k < n) : ¬ (j < 0 ∨ n ≤ j.toNatClampNeg) := fun r => by
  rcases r with r | r
  · exact h.nn r
  · rw [h.nat] at r; omega
theorem Ix.of {k : Nat} (h : k < 2147483648) : Ix (Int32.ofNat k) k := Int32.toInt_ofNat_of_lt h
theorem Ix.ofNat {j : Int32} {k : Nat} (h : Ix j k) : j = Int32.ofNat k := by
  have hk : k < 2147483648 := by have := j.toInt_lt; unfold Ix at h; omega
  apply Int32.toInt_inj.mp; rw [h, Int32.toInt_ofNat_of_lt hk]
section Heap
variable {l : Launch} {R : Room} {Z : State} {a0 : Array Value} {EL : List (String × Nat)} {own nm : String} {bytes : ByteArray} {maxL : Nat} {ret : Option FieldType} {Q : Option Value → List Atom → Prop} {r : Run} {cells slots : Nat} {L L' : List Atom} {pc pc' : Nat} {Ls Ls' : List Slot} {st : List Value}
  {C O n d R0 : String} {fs : List FN} {vs vs' : List Value} {i j k index : Nat} {a : Addr} {b : Bool} {v w : Value} {ty : FieldType}
theorem W_getfield (hd : decode bytes pc = .ok (.getfield index, 3)) (hp : pc + 3 = pc') (w : (Jvm.Cond.fieldLink own index R0 n d).before a0 Z = true) (via : Via Z R0 O n d)
    (hL : L[i]? = some (b, a, IsObj Z C fs vs)) (hf : fs[j]? = some (O, n, d)) (hv : vs[j]? = some v)
    (hr : WP l R Z a0 EL own nm bytes maxL ret Q r cells slots L pc' Ls (v :: st)) : WP l R Z a0 EL own nm bytes maxL ret Q r cells slots L pc Ls (.ref a :: st) := by
  obtain ⟨p, e, s, m, args, below, meth, c⟩ := r
  intro T locs vm0 I
  subst hp
  obtain ⟨h1, h2, h3, h4, h5, h6, X, h7, h8, h9, h10, h11, h12⟩ := I
  obtain ⟨cl, e1, e2⟩ := h12.cell hL
  obtain ⟨T', X', eT', stp⟩ := getF X h1 h8 h9 (host := "") (Or.inl w) via rfl ((e2.2.2 j _ _ hf hv).fld e1) (g := mkF m pc Ls.toArray (.ref a :: st)) rfl rfl (hb h2 hd)
  obtain ⟨s₂, o, q1, q2⟩ := hr T' locs vm0 ⟨h1, h2, h3, h4, h5, h6, X', by rw [eT']; exact h7, h8, h9, h10, h11, by rw [eT']; exact h12⟩
  exact ⟨s₂, o, stp _ q1, q2⟩
theorem W_putfield (hd : decode bytes pc = .ok (.putfield index, 3)) (hp : pc + 3 = pc') (w : (Jvm.Cond.fieldLink own index R0 n d).before a0 Z = true) (via : Via Z R0 O n d)
    (hlw : (Jvm.Cond.lays C O n d).before a0 Z = true ∨ ((Jvm.Cond.laysFinal C O n d).before a0 Z = true ∧ own = O ∧ nm = "<init>")) (hlay : Lay Z a0 C fs) (hf : fs[j]? = some (O, n, d)) (hty : parseFieldDescriptor d = some ty)
    (hn : narrow ty v = v) (hfit : fits ty v = true) (hv : vs.set j v = vs') (hL : L[i]? = some (true, a, IsObj Z C fs vs) ∧ L.set i (true, a, IsObj Z C fs vs') = L')
    (hr : WP l R Z a0 EL own nm bytes maxL ret Q r cells slots L' pc' Ls st) : WP l R Z a0 EL own nm bytes maxL ret Q r cells slots L pc Ls (v :: .ref a :: st) := by
  obtain ⟨p, e, s, m, args, below, meth, c⟩ := r
  intro T locs vm0 I
  subst hp
  obtain ⟨h1, h2, h3, h4, h5, h6, X, h7, h8, h9, h10, h11, h12⟩ := I
  obtain ⟨cl, e1, e2⟩ := h12.cell hL.1
  obtain ⟨kk, wi⟩ := hlay.1
  have hj : j < vs.length := by rw [← e2.2.1]; exact (List.getElem?_eq_some_iff.mp hf).1
  obtain ⟨T', h', X', eT', W, stp⟩ := putF X h1 h8 h9 (host := "") (Or.inl w) via rfl ((e2.2.2 j _ _ hf (List.getElem?_eq_getElem hj)).fld e1) (e2.1.exa e1) (hlw.imp id fun ⟨x, y, z⟩ => ⟨x, y, h6.trans z⟩) wi hty hn hfit (g := mkF m pc Ls.toArray (v :: .ref a :: st)) rfl rfl (hb h2 hd)
  have H' := h12.wr W hL.1 (P' := IsObj Z C fs vs') (fun c hc _ => hv ▸ hc.put hlay hf)
  rw [hL.2] at H'
  have N := Fr.snoc X' h10 (h12.own hL.1).1
  obtain ⟨k0, s1, s2⟩ := h7
  obtain ⟨s₂, o, q1, q2⟩ := hr T' _ vm0 ⟨h1, h2, h3, h4, h5, h6, X', ⟨k0, s1, by rw [eT', W.size]; exact s2⟩, h8, h9, N, h11, by rw [eT']; exact H'⟩
  exact ⟨s₂, o, stp _ q1, q2⟩
theorem W_getstatic (hd : decode bytes pc = .ok (.getstatic index, 3)) (hp : pc + 3 = pc') (w : (Jvm.Cond.fieldLink own index R0 n d).before a0 Z = true) (via : Via Z R0 O n d) (F : Sta Z Z.heap O n d v)
    (hr : WP l R Z a0 EL own nm bytes maxL ret Q r cells slots L pc' Ls (v :: st)) : WP l R Z a0 EL own nm bytes maxL ret Q r cells slots L pc Ls st := by
  obtain ⟨p, e, s, m, args, below, meth, c⟩ := r
  intro T locs vm0 I
  subst hp
  obtain ⟨h1, h2, h3, h4, h5, h6, X, h7, h8, h9, h10, h11, h12⟩ := I
  obtain ⟨T', X', eT', stp⟩ := getS (host := "") X h1 h8 h9 w via rfl (F.ext h12.1) (g := mkF m pc Ls.toArray st) rfl (hb h2 hd)
  obtain ⟨s₂, o, q1, q2⟩ := hr T' locs vm0 ⟨h1, h2, h3, h4, h5, h6, X', by rw [eT']; exact h7, h8, h9, h10, h11, by rw [eT']; exact h12⟩
  exact ⟨s₂, o, stp _ q1, q2⟩
theorem W_new {nn : Nat} (hd : decode bytes pc = .ok (.new index, 3)) (hp : pc + 3 = pc') (w : (Jvm.Cond.classLink own index C).before a0 Z = true) (wi : (Jvm.Cond.instantiable C nn).before a0 Z = true) (wz : (Jvm.Cond.initialized C).before a0 Z = true)
    (hlay : Lay Z a0 C fs) (hv : fs.map dflt = vs) (hc : cells + 1 ≤ R.cells) (hl : slots + nn ≤ R.slots)
    (hr : ∀ a, WP l R Z a0 EL own nm bytes maxL ret Q r (cells + 1) (slots + nn) ((true, a, IsObj Z C fs vs) :: L) pc' Ls (.ref a :: st)) : WP l R Z a0 EL own nm bytes maxL ret Q r cells slots L pc Ls st := by
  obtain ⟨p, e, s, m, args, below, meth, c⟩ := r
  intro T locs vm0 I
  subst hp
  obtain ⟨h1, h2, h3, h4, h5, h6, X, h7, h8, h9, h10, h11, h12⟩ := I
  obtain ⟨T', h', X', eT', E, A, D, -, stp⟩ := newO X h1 h8 h9 w wi wz rfl (g := mkF m pc Ls.toArray st) rfl (hb h2 hd) hc hl
  obtain ⟨cl, kc, f1, f2, f3, f4, f5⟩ := A
  have H' := h12.push (P := IsObj Z C fs vs) E f1 ⟨⟨kc, f2, f3, f4, f5⟩, by rw [← hv]; simp, fun ix f u hi hu => by
    have L1 := hlay.2.1 _ (List.mem_of_getElem? hi)
    obtain ⟨t1, p1⟩ := L1.2
    have eu : u = defaultValue t1 := by
      rw [← hv, List.getElem?_map, hi] at hu
      have := Option.some.inj hu
      simp only [dflt, p1] at this; exact this.symm
    rw [eu]
    exact FldC.of (D L1.1 p1) f1⟩
  obtain ⟨k0, s1, s2⟩ := h7
  obtain ⟨s₂, o, q1, q2⟩ := hr _ T' _ vm0 ⟨h1, h2, h3, h4, h5, h6, X', ⟨k0, s1, by rw [eT']; exact Nat.le_trans s2 E.1⟩, h8, h9, h10, h11, by rw [eT']; exact H'⟩
  exact ⟨s₂, o, stp _ q1, q2⟩
theorem newA_is {h' : Heap} {cA : ClassId} {nn : Int32} (A : Arr Z h' a (newA cA ty nn) ty) (hx : Ix nn k) (hfit : fits ty (defaultValue ty) = true) : IsArr Z ty (List.replicate k (defaultValue ty)) (newA cA ty nn) := by
  refine ⟨A.2.1, A.2.2, ?_, ?_, fun u hu => ?_⟩
  · simp [newA, hx.nat]
  · simp only [List.length_replicate]; have := nn.toInt_lt; unfold Ix at hx; omega
  · rw [(List.mem_replicate.mp hu).2]; exact hfit
end Heap
/-! ## 8. Constants, casts, copies -/
def strF : List FN := [("java/lang/String", "value", "[B"), ("java/lang/String", "coder", "B")]
def litBytes (text : String) : List Value := text.toList.map fun c => Value.int (Jvm.Lit.byteI c.toNat.toUInt16)
theorem isArr_of_arv {Z : State} {h : Heap} {b : Addr} {k : ClassId} {ty : FieldType} {z : Int32} {vs : List Value} {dv : Value} {c : Cell} (A : Arv Z h b k ty z vs dv) (hl : z.toNatClampNeg = vs.length) (e : h[b]? = some c) : IsArr Z ty vs c := by
  obtain ⟨c', hA, -, hs, hz, hH, hf⟩ := A
  cases e.symm.trans hA.1
  have hsz : c.slots.size = vs.length := by rw [hs, hl]
  have hvs : c.slots.toList = vs := by
    apply List.ext_getElem?
    intro n
    by_cases q : n < c.slots.size
    · have := hH n q
      rw [List.getD_eq_getElem?_getD, List.getElem?_eq_getElem (by omega), Option.getD_some] at this
      rw [List.getElem?_eq_getElem (l := vs) (by omega), Array.getElem?_toList]; exact this
    · rw [List.getElem?_eq_none (by simpa using q), List.getElem?_eq_none (by omega)]
  refine ⟨hA.2.1, hA.2.2, hvs, ?_, fun v hv => ?_⟩
  · rw [← hl]; simp only [Int32.toNatClampNeg]; have := z.toInt_lt; omega
  · obtain ⟨n, hn, rfl⟩ := List.getElem_of_mem hv
    have := hf n (by omega)
    rw [List.getD_eq_getElem?_getD, List.getElem?_eq_getElem hn, Option.getD_some] at this; exact this
theorem IsArr.arv {Z : State} {h : Heap} {b : Addr} {ty : FieldType} {vs : List Value} {c : Cell} (F : IsArr Z ty vs c) (e : h[b]? = some c) (dv : Value) : Arv Z h b c.cls ty (Int32.ofNat vs.length) vs dv := by
  have hx : Ix (Int32.ofNat vs.length) vs.length := Ix.of F.2.2.2.1
  refine ⟨c, F.arr e, rfl, by rw [F.size, hx.nat], hx.nn, fun n hn => ?_, fun n hn => ?_⟩
  · rw [F.at]; rw [F.size] at hn
    rw [List.getD_eq_getElem?_getD, List.getElem?_eq_getElem hn, Option.getD_some]
  · rw [F.size] at hn
    rw [List.getD_eq_getElem?_getD, List.getElem?_eq_getElem hn, Option.getD_some]
    exact F.2.2.2.2 _ (List.getElem_mem hn)
section Heap2
variable {l : Launch} {R : Room} {Z : State} {a0 : Array Value} {EL : List (String × Nat)} {own nm : String} {bytes : ByteArray} {maxL : Nat} {ret : Option FieldType} {Q : Option Value → List Atom → Prop} {r : Run} {cells slots : Nat} {L L' : List Atom} {pc pc' : Nat} {Ls Ls' : List Slot} {st : List Value}
  {C O n d R0 : String} {fs : List FN} {vs vs' : List Value} {i j k index : Nat} {a : Addr} {b : Bool} {v w : Value} {ty : FieldType}
/-- ldc of a String constant whose text nobody asks -/
theorem W_ldcO {text : String} {nn : Nat} (hEL : EL ≠ [("", 1)]) (hd : decode bytes pc = .ok (.ldc index, 2)) (hp : pc + 2 = pc') (w : (Jvm.Cond.stringLink own index text).before a0 Z = true) (wS : ∀ a ∈ Bundle.stringAtoms, a.before a0 Z = true)
    (hn : 4 * text.toList.length ≤ nn) (hbig : nn ≤ 536870912) (hc : cells + 2 ≤ R.cells) (hl : slots + (nn + 4) ≤ R.slots)
    (hr : ∀ a, WP l R Z a0 EL own nm bytes maxL ret Q r (cells + 2) (slots + (nn + 4)) L pc' Ls (.ref a :: st)) : WP l R Z a0 EL own nm bytes maxL ret Q r cells slots L pc Ls st := by
  obtain ⟨p, e, s, m, args, below, meth, c⟩ := r
  intro T locs vm0 I
  subst hp
  obtain ⟨h1, h2, h3, h4, h5, h6, X, ⟨k0, s1, s2⟩, h8, h9, h10, h11, h12⟩ := I
  obtain ⟨a, T', h', k1, X', eT', E, S', hk', hZ', hown', hC, -, stp⟩ := ldcOH X h1 h8 h9 w wS rfl s1 s2 h11 h12.2.1.1 (g := mkF m pc Ls.toArray st) rfl (hb h2 hd) hn hbig hc hl
  subst eT'
  obtain ⟨s₂, o, q1, q2⟩ := hr a T' locs T'.vm ⟨h1, h2, h3, h4, h5, h6, X', ⟨k1, S', hk'⟩, hZ', hown', h10, h11, h12.ext E hC (fun q => absurd q hEL)⟩
  exact ⟨s₂, o, stp _ q1, q2⟩
theorem W_ldcI {v : Int32} (hd : decode bytes pc = .ok (.ldc index, 2)) (hp : pc + 2 = pc') (w : (Jvm.Cond.constant own index v).before a0 Z = true)
    (hr : WP l R Z a0 EL own nm bytes maxL ret Q r cells slots L pc' Ls (.int v :: st)) : WP l R Z a0 EL own nm bytes maxL ret Q r cells slots L pc Ls st := by
  obtain ⟨p, e, s, m, args, below, meth, c⟩ := r
  intro T locs vm0 I
  subst hp
  obtain ⟨s₂, o, q1, q2⟩ := hr T locs vm0 I
  obtain ⟨h1, h2, h3, h4, h5, h6, X, h7, h8, h9, h10, h11, h12⟩ := I
  exact ⟨s₂, o, X.ldcI h1 h9 (mvT h8 w) rfl (hb h2 hd) q1, q2⟩
theorem W_checkcast {K : String} (hd : decode bytes pc = .ok (.checkcast index, 3)) (hp : pc + 3 = pc') (w : (Jvm.Cond.classLink own index K).before a0 Z = true) (wc : (Jvm.Cond.castable C K).before a0 Z = true) (hL : L[i]? = some (b, a, IsObj Z C fs vs))
    (hr : WP l R Z a0 EL own nm bytes maxL ret Q r cells slots L pc' Ls (.ref a :: st)) : WP l R Z a0 EL own nm bytes maxL ret Q r cells slots L pc Ls (.ref a :: st) := by
  obtain ⟨p, e, s, m, args, below, meth, c⟩ := r
  intro T locs vm0 I
  subst hp
  obtain ⟨h1, h2, h3, h4, h5, h6, X, h7, h8, h9, h10, h11, h12⟩ := I
  obtain ⟨cl, e1, e2⟩ := h12.cell hL
  obtain ⟨T', X', eT', stp⟩ := castY X h1 h8 h9 w rfl (Ins.of_exa (e2.1.exa e1) wc) (g := mkF m pc Ls.toArray (.ref a :: st)) rfl rfl (hb h2 hd)
  obtain ⟨s₂, o, q1, q2⟩ := hr T' locs vm0 ⟨h1, h2, h3, h4, h5, h6, X', by rw [eT']; exact h7, h8, h9, h10, h11, by rw [eT']; exact h12⟩
  exact ⟨s₂, o, stp _ q1, q2⟩
theorem W_instanceof {K : String} (hd : decode bytes pc = .ok (.instanceof index, 3)) (hp : pc + 3 = pc') (w : (Jvm.Cond.classLink own index K).before a0 Z = true) (wc : (Jvm.Cond.castable C K).before a0 Z = true) (hL : L[i]? = some (b, a, IsObj Z C fs vs))
    (hr : WP l R Z a0 EL own nm bytes maxL ret Q r cells slots L pc' Ls (.int 1 :: st)) : WP l R Z a0 EL own nm bytes maxL ret Q r cells slots L pc Ls (.ref a :: st) := by
  obtain ⟨p, e, s, m, args, below, meth, c⟩ := r
  intro T locs vm0 I
  subst hp
  obtain ⟨h1, h2, h3, h4, h5, h6, X, h7, h8, h9, h10, h11, h12⟩ := I
  obtain ⟨cl, e1, e2⟩ := h12.cell hL
  obtain ⟨T', X', eT', stp⟩ := instY X h1 h8 h9 w rfl (Ins.of_exa (e2.1.exa e1) wc) (g := mkF m pc Ls.toArray (.ref a :: st)) rfl rfl (hb h2 hd)
  obtain ⟨s₂, o, q1, q2⟩ := hr T' locs vm0 ⟨h1, h2, h3, h4, h5, h6, X', by rw [eT']; exact h7, h8, h9, h10, h11, by rw [eT']; exact h12⟩
  exact ⟨s₂, o, stp _ q1, q2⟩
theorem range_map_getD {vs : List Value} {sp nn : Nat} {dv : Value} (h : sp + nn ≤ vs.length) : ((List.range nn).map fun i => vs.getD (sp + i) dv) = (vs.drop sp).take nn := by
  apply List.ext_getElem?
  intro x
  by_cases q : x < nn
  · rw [List.getElem?_map, List.getElem?_range q, List.getElem?_take_of_lt q, List.getElem?_drop, Option.map_some, List.getD_eq_getElem?_getD, List.getElem?_eq_getElem (by omega), Option.getD_some]
  · rw [List.getElem?_eq_none (by simpa using q), List.getElem?_eq_none (by simp; omega)]
/-! ## 9. Calls -/
theorem backH {p : Program} {e : Env} {s : State} {args : Array Value} {below : List Frame} {vm0 : Vm} {h : Heap} {y : MethodName} {bytes' : ByteArray} {maxL' len W : Nat} {ret' : Option FieldType} {rm : Room} {as : List Value} {Q' : Option Value → List Atom → Prop}
    (M : Meth l Z a0 EL y bytes' maxL' ret' rm as L Q') (hZ : Z.Warmed39 vm0) (wc : (Jvm.Cond.code y bytes' maxL' ret').before a0 Z = true) (wz : (Jvm.Cond.initialized y.cls).before a0 Z = true) (hf : rm.frames + 1 ≤ R.frames) (hl : W + (maxL' + 11) + rm.locals ≤ R.locals) (hEL : EW Z a0 EL) (H : HP Z EL vm0 h L) :
    BackS l R p e below (s.setVm vm0) args y len W (fun A a => a = as.toArray ∧ A.U.heap = h ∧ A.cells + rm.cells ≤ R.cells ∧ A.slots + rm.slots ≤ R.slots)
      (fun A _ v B => ∃ L' Lc, Q' v L' ∧ HP Z EL B.U.vm B.U.heap L' ∧ Fr Z.heap.size Lc ∧ B.locs = A.locs ++ Lc ∧ B.cells = A.cells + rm.cells ∧ B.slots = A.slots + rm.slots) :=
  BackS.of_freeW (bytes := bytes') (maxL := maxL') (ret := ret') (E := fun _ first o t Lc k n => k = rm.cells ∧ n = rm.slots ∧ ∃ v L', o = .returned v ∧ Q' v L' ∧ HP Z EL t.vm t.heap L' ∧ Fr Z.heap.size Lc) M hf hl
    (fun m meth c A a Y hp => have hU : Z.Warmed39 A.U.vm := wtrans (s := s.setVm vm0) hZ Y.warmed
      ⟨by show (Jvm.Cond.and _ .tt).before a A.U = true; rw [Cond.before_and, mv hU wc]; rfl, mv hU wc, mv hU wz, hp.2.2.1, hp.2.2.2⟩)
    (fun m meth c A a g mk Y hp => ⟨hp.1, wtrans (s := s.setVm vm0) hZ Y.warmed, by
      show HP Z EL A.U.vm A.U.heap L
      rw [hp.2.1]; exact H.later (CHv.at Y hZ hEL H.2.1.1) (fun q => State.WarmedH.trans (t := s.setVm vm0) (H.2.1.2 q) Y.warmed)⟩) (fun _ _ _ _ _ _ _ _ _ => trivial)
    (fun _ _ _ _ ⟨v, L', locs, h1, h2, h3, h4, h5⟩ => ⟨locs, _, _, h5, rfl, rfl, v, L', h1, h2, h3, h4⟩)
    (fun m meth c A a g mk v t Lc k n Y hp _ _ ⟨e1, e2, v', L', e3, e4, e5, e6⟩ => by
      cases e3; subst e1 e2
      exact ⟨L', Lc, e4, e5, e6, rfl, rfl, rfl⟩)
/-- behind a call -/
theorem behind {p : Program} {e : Env} {s T : State} {m : MethodId} {args : Array Value} {below : List Frame} {meth : Method} {c : Code} {vm0 : Vm} {locs : List Loc} {rm : Room} {Q' : Option Value → List Atom → Prop} {g : Value → JFrame} {v : Option Value} {B : Pt} {rest : List Value} {len : Nat} {S0 : State}
    (hr : ∀ v L', Q' v L' → WP l R Z a0 EL own nm bytes maxL ret Q (p, e, s, m, args, below, meth, c) (cells + rm.cells) (slots + rm.slots) L' (pc + len) Ls (v.toList ++ rest))
    (I : Inv l R Z a0 EL own nm bytes maxL ret (p, e, s, m, args, below, meth, c) cells slots L T locs vm0)
    (X' : Stand p l e R ((s.setVm vm0).setVm B.U.vm) m args below meth c B.U B.locs B.cells B.slots) (hS : (s.setVm vm0).Since B.U.vm B.U.heap.size) (hgr : T.heap.size ≤ B.U.heap.size)
    (post : ∃ L' Lc, Q' v L' ∧ HP Z EL B.U.vm B.U.heap L' ∧ Fr Z.heap.size Lc ∧ B.locs = locs ++ Lc ∧ B.cells = cells + rm.cells ∧ B.slots = slots + rm.slots)
    (stp : Steps p.tables e below S0 (B.U.setTop (mkF m (pc + len) Ls.toArray (v.toList ++ rest)))) : Goal R Z EL Q (p, e, s, m, args, below, meth, c) S0 := by
  obtain ⟨h1, h2, h3, h4, h5, h6, X, ⟨k0, s1, s2⟩, h8, h9, h10, h11, h12⟩ := I
  obtain ⟨L', Lc, q1, q2, q3, l1, y1, z1⟩ := post
  obtain ⟨U, Lx, cx, sx⟩ := B
  subst l1 y1 z1
  obtain ⟨X2, S2, Z2, O2⟩ := rebS (own := own) s1 s2 X' hS hgr h8 h9
  obtain ⟨s₂, o, u1, u2⟩ := hr v L' q1 U _ U.vm ⟨h1, h2, h3, h4, h5, h6, X2, ⟨_, S2, Nat.le_refl _⟩, Z2, O2, h10.app q3, h11, q2⟩
  exact ⟨s₂, o, stp.trans u1, u2⟩
theorem decl_of {y : MethodName} {bytes' : ByteArray} {maxL' : Nat} {ret' : Option FieldType} (wi : (Jvm.Cond.instanceMethod y).before a0 Z = true) (wc : (Jvm.Cond.code y bytes' maxL' ret').before a0 Z = true) : (Jvm.Cond.declares y).before a0 Z = true := by
  obtain ⟨mk, me, q1, q2, q3, q4⟩ := Cond.instanceMethod_spec wi
  obtain ⟨me', c', r1, -, -, -, -, -, -, r8⟩ := Cond.code_spec q1 wc
  cases q2.symm.trans r1
  simp [Cond.before, Cond.holds, Cond.value, q1, q2, q3, r8]
variable {y z : MethodName} {bytes' : ByteArray} {maxL' : Nat} {ret' : Option FieldType} {rm : Room} {as rest : List Value} {Q' : Option Value → List Atom → Prop}
theorem W_static (hd : decode bytes pc = .ok (.invokestatic index, 3)) (hp : pc + 3 = pc') (hlen : Ls.length = maxL) (w1 : (Jvm.Cond.methodLink own index y).before a0 Z = true) (w2 : (Jvm.Cond.static y).before a0 Z = true) (w3 : (Jvm.Cond.initialized y.cls).before a0 Z = true) (w4 : (Jvm.Cond.code y bytes' maxL' ret').before a0 Z = true)
    (hy : y.cls ≠ "java/lang/invoke/MethodHandle" ∧ y.cls ≠ "java/lang/invoke/VarHandle") (M : Meth l Z a0 EL y bytes' maxL' ret' rm as L Q') (har : XT.arity y.desc = some as.length) (hst : st = as.reverse ++ rest)
    (hf : rm.frames + 1 ≤ R.frames) (hlo : (rest.map fun v => v.category).sum + (maxL' + 11) + rm.locals ≤ R.locals) (hce : cells + rm.cells ≤ R.cells) (hsl : slots + rm.slots ≤ R.slots)
    (hr : ∀ v L', Q' v L' → WP l R Z a0 EL own nm bytes maxL ret Q r (cells + rm.cells) (slots + rm.slots) L' pc' Ls (v.toList ++ rest)) : WP l R Z a0 EL own nm bytes maxL ret Q r cells slots L pc Ls st := by
  obtain ⟨p, e, s, m, args, below, meth, c⟩ := r
  intro T locs vm0 I
  subst hp
  have I' := I
  obtain ⟨h1, h2, h3, h4, h5, h6, X, h7, h8, h9, h10, h11, h12⟩ := I'
  obtain ⟨v, vm₁, B, -, X', hS, hgr, post, stp⟩ := callSS X h1 h9 (mvT h8 w1) (mvT h8 w2) (mvT h8 w3) (mvT h8 w4) hy (backH (W := (rest.map fun v => v.category).sum) M h8 w4 w3 hf hlo h11 h12) (g := mkF m pc Ls.toArray st) rfl (by simp [hlen, h3]) (argsL := as) (rest := rest) (XT.arity_len har rfl) hst (by simp) (hb h2 hd) (fun vm₁ _ => ⟨rfl, rfl, hce, hsl⟩)
  exact behind (len := 3) (g := fun _ => mkF m pc Ls.toArray st) hr I X' hS hgr post stp
theorem W_special (hd : decode bytes pc = .ok (.invokespecial index, 3)) (hp : pc + 3 = pc') (hlen : Ls.length = maxL) (hin : y.name = "<init>") (w1 : (Jvm.Cond.methodLink own index y).before a0 Z = true) (w2 : (Jvm.Cond.instanceMethod y).before a0 Z = true) (w3 : (Jvm.Cond.initialized y.cls).before a0 Z = true) (w4 : (Jvm.Cond.code y bytes' maxL' none).before a0 Z = true)
    (hy : y.cls ≠ "java/lang/invoke/MethodHandle" ∧ y.cls ≠ "java/lang/invoke/VarHandle") (M : Meth l Z a0 EL y bytes' maxL' none rm (.ref a :: as) L Q') (har : XT.arity y.desc = some as.length) (hst : st = as.reverse ++ .ref a :: rest)
    (hf : rm.frames + 1 ≤ R.frames) (hlo : (rest.map fun v => v.category).sum + (maxL' + 11) + rm.locals ≤ R.locals) (hce : cells + rm.cells ≤ R.cells) (hsl : slots + rm.slots ≤ R.slots)
    (hr : ∀ v L', Q' v L' → WP l R Z a0 EL own nm bytes maxL ret Q r (cells + rm.cells) (slots + rm.slots) L' pc' Ls (v.toList ++ rest)) : WP l R Z a0 EL own nm bytes maxL ret Q r cells slots L pc Ls st := by
  obtain ⟨p, e, s, m, args, below, meth, c⟩ := r
  intro T locs vm0 I
  subst hp
  have I' := I
  obtain ⟨h1, h2, h3, h4, h5, h6, X, h7, h8, h9, h10, h11, h12⟩ := I'
  obtain ⟨v, vm₁, B, -, X', hS, hgr, post, stp⟩ := X.specialBackS h1 hin h9 (mvT h8 w1) (mvT h8 w2) (mvT h8 w4) hy (backH (W := (rest.map fun v => v.category).sum) M h8 w4 w3 hf hlo h11 h12) (g := mkF m pc Ls.toArray st) rfl (by simp [hlen, h3]) (Steps.refl _) (argsL := as) (rest := rest) (XT.arity_len har rfl) hst (by simp) (hb h2 hd) (fun vm₁ _ => ⟨rfl, rfl, hce, hsl⟩)
  exact behind (len := 3) (g := fun _ => mkF m pc Ls.toArray st) hr I X' hS hgr post stp
/-- the class of y is no interface -/
def NF (Z : State) (y : MethodName) : Prop := ∀ s : State, Z.Warmed39 s.vm → NotFace s y
theorem NF.sel (w : (Jvm.Cond.selects C y y).before a0 Z = true) : NF Z y := fun s hZ => notFace_of_selects (args := #[]) (mvT hZ w)
theorem W_virtual (hd : decode bytes pc = .ok (.invokevirtual index, 3)) (hp : pc + 3 = pc') (hlen : Ls.length = maxL) (w1 : (Jvm.Cond.methodLink own index y).before a0 Z = true) (w5 : (Jvm.Cond.declares y).before a0 Z = true) (hnf : NF Z y) (w6 : (Jvm.Cond.selects C y z).before a0 Z = true)
    (w2 : (Jvm.Cond.instanceMethod z).before a0 Z = true) (w3 : (Jvm.Cond.initialized z.cls).before a0 Z = true) (w4 : (Jvm.Cond.code z bytes' maxL' ret').before a0 Z = true)
    (hy : y.cls ≠ "java/lang/invoke/MethodHandle" ∧ y.cls ≠ "java/lang/invoke/VarHandle") (M : Meth l Z a0 EL z bytes' maxL' ret' rm (.ref a :: as) L Q') (har : XT.arity y.desc = some as.length) (hst : st = as.reverse ++ .ref a :: rest) (hL : L[i]? = some (b, a, IsObj Z C fs vs))
    (hf : rm.frames + 1 ≤ R.frames) (hlo : (rest.map fun v => v.category).sum + (maxL' + 11) + rm.locals ≤ R.locals) (hce : cells + rm.cells ≤ R.cells) (hsl : slots + rm.slots ≤ R.slots)
    (hr : ∀ v L', Q' v L' → WP l R Z a0 EL own nm bytes maxL ret Q r (cells + rm.cells) (slots + rm.slots) L' pc' Ls (v.toList ++ rest)) : WP l R Z a0 EL own nm bytes maxL ret Q r cells slots L pc Ls st := by
  obtain ⟨p, e, s, m, args, below, meth, c⟩ := r
  intro T locs vm0 I
  subst hp
  have I' := I
  obtain ⟨h1, h2, h3, h4, h5, h6, X, h7, h8, h9, h10, h11, h12⟩ := I'
  obtain ⟨cl, e1, e2⟩ := h12.cell hL
  obtain ⟨cq, kq, qa, qb, qc⟩ := isOf (s := s.setVm vm0) h8 rfl (e2.1.exa e1)
  obtain ⟨v, vm₁, B, -, X', hS, hgr, post, stp⟩ := X.virtualBackS h1 h9 (mvT h8 w1) (mvT h8 w5) (hnf _ h8) (mvT h8 w6) (mvT h8 w2) hy (backH (W := (rest.map fun v => v.category).sum) M h8 w4 w3 hf hlo h11 h12) qa qc (g := mkF m pc Ls.toArray st) rfl (by simp [hlen, h3]) (Steps.refl _) (argsL := as) (rest := rest) (XT.arity_len har rfl) hst (by simp) (hb h2 hd) (fun vm₁ _ => ⟨rfl, rfl, hce, hsl⟩)
  exact behind (len := 3) (g := fun _ => mkF m pc Ls.toArray st) hr I X' hS hgr post stp
/-- Object.<init> -/
theorem W_objInit {bytes0 : ByteArray} (hd : decode bytes pc = .ok (.invokespecial index, 3)) (hp : pc + 3 = pc') (hlen : Ls.length = maxL) (w1 : (Jvm.Cond.methodLink own index ⟨"java/lang/Object", "<init>", "()V"⟩).before a0 Z = true) (w2 : (Jvm.Cond.instanceMethod ⟨"java/lang/Object", "<init>", "()V"⟩).before a0 Z = true)
    (w3 : (Jvm.Cond.code ⟨"java/lang/Object", "<init>", "()V"⟩ bytes0 1 none).before a0 Z = true) (hb0 : bytes0 = ⟨#[0xb1]⟩) (hf : 1 ≤ R.frames) (hlo : (st.map fun v => v.category).sum + 12 ≤ R.locals)
    (hr : WP l R Z a0 EL own nm bytes maxL ret Q r cells slots L pc' Ls st) : WP l R Z a0 EL own nm bytes maxL ret Q r cells slots L pc Ls (.ref a :: st) := by
  obtain ⟨p, e, s, m, args, below, meth, c⟩ := r
  intro T locs vm0 I
  subst hp
  subst hb0
  obtain ⟨h1, h2, h3, h4, h5, h6, X, h7, h8, h9, h10, h11, h12⟩ := I
  obtain ⟨T', X', eT', stp⟩ := initO X h1 h8 h9 w1 w2 w3 rfl (g := mkF m pc Ls.toArray (.ref a :: st)) rfl (by simp [hlen, h3]) rfl (hb h2 hd) hf (W := (st.map fun v => v.category).sum) (by simp) hlo
  obtain ⟨s₂, o, q1, q2⟩ := hr T' locs vm0 ⟨h1, h2, h3, h4, h5, h6, X', by rw [eT']; exact h7, h8, h9, h10, h11, by rw [eT']; exact h12⟩
  exact ⟨s₂, o, stp _ q1, q2⟩
/-! ## 10. Returns -/
theorem W_ret {x : Value} {t : FieldType} {ins : Instr} (hd : decode bytes pc = .ok (ins, 1)) (hret : ret = some t) (hn : narrow t x = x)
    (hi : (ins = .ireturn ∧ (t = .int ∨ t = .boolean ∨ t = .byte ∨ t = .char ∨ t = .short) ∧ ∃ z, x = .int z) ∨ (ins = .lreturn ∧ t = .long ∧ ∃ z, x = .long z) ∨ (ins = .dreturn ∧ t = .double ∧ ∃ z, x = .double z) ∨ (ins = .freturn ∧ t = .float ∧ ∃ z, x = .float z) ∨ (ins = .areturn ∧ t.isReference = true ∧ x.isRef = true))
    (hc : cells ≤ R.cells) (hs : slots ≤ R.slots) (hq : Q (some x) L) : WP l R Z a0 EL own nm bytes maxL ret Q r cells slots L pc Ls (x :: st) := by
  obtain ⟨p, e, s, m, args, below, meth, c⟩ := r
  intro T locs vm0 I
  obtain ⟨h1, h2, h3, h4, h5, h6, X, ⟨k0, s1, s2⟩, h8, h9, h10, h11, h12⟩ := I
  obtain ⟨fs, g1, g2, g3, g4⟩ := X.leaveW s1 s2 (v := some x) (fun q => by rw [h4, hret] at q; cases q)
  refine ⟨_, _, retOut X h1 (h4.trans hret) hn hi (hb h2 hd) g1, g2, g3, some x, L, locs, rfl, hq, ?_, h10, ?_⟩
  · have Rr := CHv.at X h8 h11 h12.2.1.1
    exact h12.later Rr (fun q => State.WarmedH.trans (t := s.setVm vm0) (h12.2.1.2 q) X.warmed)
  · exact ⟨g4.1, g4.2.1, g4.2.2.1, g4.2.2.2.mono hc hs⟩
theorem W_ireturn {x : Int32} {t : FieldType} (hd : decode bytes pc = .ok (.ireturn, 1)) (hret : ret = some t) (ht : t = .int ∨ t = .boolean ∨ t = .byte ∨ t = .char ∨ t = .short) (hn : narrow t (.int x) = .int x) (hc : cells ≤ R.cells) (hs : slots ≤ R.slots) (hq : Q (some (.int x)) L) : WP l R Z a0 EL own nm bytes maxL ret Q r cells slots L pc Ls (.int x :: st) :=
  W_ret hd hret hn (Or.inl ⟨rfl, ht, x, rfl⟩) hc hs hq
theorem W_areturn {x : Value} {t : FieldType} (hd : decode bytes pc = .ok (.areturn, 1)) (hret : ret = some t) (ht : t.isReference = true) (hx : x.isRef = true) (hn : narrow t x = x) (hc : cells ≤ R.cells) (hs : slots ≤ R.slots) (hq : Q (some x) L) : WP l R Z a0 EL own nm bytes maxL ret Q r cells slots L pc Ls (x :: st) :=
  W_ret hd hret hn (Or.inr (Or.inr (Or.inr (Or.inr ⟨rfl, ht, hx⟩)))) hc hs hq
theorem W_return (hd : decode bytes pc = .ok (.return_, 1)) (hret : ret = none) (hc : cells ≤ R.cells) (hs : slots ≤ R.slots) (hq : Q none L) : WP l R Z a0 EL own nm bytes maxL ret Q r cells slots L pc Ls [] := by
  obtain ⟨p, e, s, m, args, below, meth, c⟩ := r
  intro T locs vm0 I
  obtain ⟨h1, h2, h3, h4, h5, h6, X, ⟨k0, s1, s2⟩, h8, h9, h10, h11, h12⟩ := I
  obtain ⟨fs, g1, g2, g3, g4⟩ := X.leaveW s1 s2 (v := none) (fun _ => rfl)
  refine ⟨_, _, X.returnOut h1 (h4.trans hret) (hb h2 hd) g1, g2, g3, none, L, locs, rfl, hq, ?_, h10, ?_⟩
  · have Rr := CHv.at X h8 h11 h12.2.1.1
    exact h12.later Rr (fun q => State.WarmedH.trans (t := s.setVm vm0) (h12.2.1.2 q) X.warmed)
  · exact ⟨g4.1, g4.2.1, g4.2.2.1, g4.2.2.2.mono hc hs⟩
end Heap2
end Jvm.Own
namespace Jvm.Own
open Sem ClassFile Op Lib Bundle Jvm.Stand Jvm.Free Jvm.LawKit Jvm.RoadKit
/-! ## 11. Plain facts on ints and chars -/
theorem toI {k : Nat} (h : k < 2147483648) : (Int32.ofNat k).toInt = (k : Int) := Int32.toInt_ofNat_of_lt h
theorem lt32 {x y : Int32} : x < y ↔ x.toInt < y.toInt := Int32.lt_iff_toInt_lt
theorem ofNat_lt {i n : Nat} (h : i < n) (hn : n < 2147483648) : Int32.ofNat i < Int32.ofNat n := by rw [lt32, toI (by omega), toI hn]; omega
theorem ofNat_nlt {i n : Nat} (h : n ≤ i) (hi : i < 2147483648) : ¬ Int32.ofNat i < Int32.ofNat n := by rw [lt32, toI hi, toI (by omega)]; omega
theorem ofNat_ne {i n : Nat} (h : i ≠ n) (hi : i < 2147483648) (hn : n < 2147483648) : ¬ Int32.ofNat i = Int32.ofNat n := fun e => by
  have := congrArg Int32.toInt e; rw [toI hi, toI hn] at this; omega
/-- a Latin-1 char; a char -/
def Lat (c : Int32) : Prop := 0 ≤ c.toInt ∧ c.toInt < 256
def Chr (c : Int32) : Prop := 0 ≤ c.toInt ∧ c.toInt < 65536
theorem Lat.le {c : Int32} (h : Lat c) : ¬ (255 : Int32) < c := by rw [lt32]; have := h.2; have : (255 : Int32).toInt = 255 := rfl; omega
theorem Chr.gt {c : Int32} (h : Chr c) (n : ¬ Lat c) : (255 : Int32) < c := by
  rw [lt32]; have : (255 : Int32).toInt = 255 := rfl
  by_cases q : c.toInt < 256
  · exact absurd ⟨h.1, q⟩ n
  · omega
def lat (cs : List Int32) : List Value := cs.map fun c => Value.int c.toInt8.toInt32
end Jvm.Own
namespace Jvm.Own
open Sem ClassFile Op Lib Bundle Jvm.Stand Jvm.Free Jvm.LawKit Jvm.RoadKit
theorem ofNat_add32 (i j : Nat) : Int32.ofNat i + Int32.ofNat j = Int32.ofNat (i + j) := (Int32.ofNat_add i j).symm
end Jvm.Own
namespace Jvm.Own
open Sem ClassFile Op Lib Bundle Jvm.Stand Jvm.Free Jvm.LawKit Jvm.RoadKit
end Jvm.Own
namespace Jvm.Own
open Sem ClassFile Op Lib Bundle Jvm.Stand Jvm.Free Jvm.LawKit Jvm.RoadKit
end Jvm.Own
namespace Jvm.Own
open Sem ClassFile Op Lib Bundle Jvm.Stand Jvm.Free Jvm.LawKit Jvm.RoadKit
theorem ofNat_sub32 {i j : Nat} (h : j ≤ i) : Int32.ofNat i - Int32.ofNat j = Int32.ofNat (i - j) := by
  have : i = (i - j) + j := by omega
  generalize i - j = k at *
  subst this
  rw [← ofNat_add32]; exact Int32.add_sub_cancel _ _
end Jvm.Own
namespace Jvm.Own
open Sem ClassFile Op Lib Bundle Jvm.Stand Jvm.Free Jvm.LawKit Jvm.RoadKit
end Jvm.Own
namespace Jvm.Own
open Sem ClassFile Op Lib Bundle Jvm.Stand Jvm.Free Jvm.LawKit Jvm.RoadKit
end Jvm.Own
namespace Jvm.Own
open Sem ClassFile Op Lib Bundle Jvm.Stand Jvm.Free Jvm.LawKit Jvm.RoadKit
/-! ## 12. UTF16 -/
def lo8 (c : Int32) : Int32 := c.toInt8.toInt32
def hi8 (c : Int32) : Int32 := (c >>> ((8 : Int32) &&& 31)).toInt8.toInt32
def u16 (cs : List Int32) : List Value := cs.flatMap fun c => [Value.int (lo8 c), Value.int (hi8 c)]
end Jvm.Own
namespace Jvm.Own
open Sem ClassFile Op Lib Bundle Jvm.Stand Jvm.Free Jvm.LawKit Jvm.RoadKit
def latB (c : Int32) : Bool := decide (0 ≤ c.toInt) && decide (c.toInt < 256)
def enc (cs : List Int32) : List Value := if cs.all latB then lat cs else u16 cs
def cod (cs : List Int32) : Int32 := if cs.all latB then 0 else 1
end Jvm.Own
namespace Jvm.Own
open Sem ClassFile Op Lib Bundle Jvm.Stand Jvm.Free Jvm.LawKit Jvm.RoadKit
/-! ## 13. Arrays of references, old objects -/
/-- an array of the exact class ad -/
def IsArrX (Z : State) (ad : String) (ty : FieldType) (vs : List Value) : Cell → Prop := fun c => IsArr Z ty vs c ∧ ExaC Z ad c
section Heap3
variable {l : Launch} {R : Room} {Z : State} {a0 : Array Value} {EL : List (String × Nat)} {own nm : String} {bytes : ByteArray} {maxL : Nat} {ret : Option FieldType} {Q : Option Value → List Atom → Prop} {r : Run} {cells slots : Nat} {L L' : List Atom} {pc pc' : Nat} {Ls Ls' : List Slot} {st : List Value}
  {C O n d R0 ad : String} {fs : List FN} {vs vs' : List Value} {i j k index : Nat} {a : Addr} {b : Bool} {v w : Value} {ty : FieldType} {P P' : Cell → Prop}
theorem W_old {c : Cell} (hc : Z.heap[a]? = some c) (hP : P c) (hr : WP l R Z a0 EL own nm bytes maxL ret Q r cells slots ((false, a, P) :: L) pc Ls st) : WP l R Z a0 EL own nm bytes maxL ret Q r cells slots L pc Ls st := WP.imp (fun H => H.knowOld hc hP) hr
theorem W_arraylengthX {nn : Int32} (hd : decode bytes pc = .ok (.arraylength, 1)) (hp : pc + 1 = pc') (hL : L[i]? = some (b, a, IsArrX Z ad ty vs)) (hn : Int32.ofNat vs.length = nn)
    (hr : WP l R Z a0 EL own nm bytes maxL ret Q r cells slots L pc' Ls (.int nn :: st)) : WP l R Z a0 EL own nm bytes maxL ret Q r cells slots L pc Ls (.ref a :: st) := by
  obtain ⟨p, e, s, m, args, below, meth, c⟩ := r
  intro T locs vm0 I
  subst hp
  obtain ⟨s₂, o, q1, q2⟩ := hr T locs vm0 I
  obtain ⟨h1, h2, h3, h4, h5, h6, X, h7, h8, h9, h10, h11, h12⟩ := I
  obtain ⟨cl, e1, e2, -⟩ := h12.cell hL
  refine ⟨s₂, o, X.arraylength h1 e1 (State.isArrayOf_alike h8.alike e2.1) (g := mkF m pc Ls.toArray (.ref a :: st)) rfl rfl (hb h2 hd) _ ?_, q2⟩
  have hz : cl.slots.size.toInt32 = nn := by rw [← hn, e2.size]
  rw [hz]; exact q1
theorem W_aaload {jj : Int32} (hd : decode bytes pc = .ok (.aaload, 1)) (hp : pc + 1 = pc') (hx : Ix jj k) (hL : L[i]? = some (b, a, IsArrX Z ad ty vs)) (hty : ty.isReference = true) (hv : vs[k]? = some v)
    (hr : WP l R Z a0 EL own nm bytes maxL ret Q r cells slots L pc' Ls (v :: st)) : WP l R Z a0 EL own nm bytes maxL ret Q r cells slots L pc Ls (.int jj :: .ref a :: st) := by
  obtain ⟨p, e, s, m, args, below, meth, c⟩ := r
  intro T locs vm0 I
  subst hp
  obtain ⟨s₂, o, q1, q2⟩ := hr T locs vm0 I
  obtain ⟨h1, h2, h3, h4, h5, h6, X, h7, h8, h9, h10, h11, h12⟩ := I
  obtain ⟨cl, e1, e2, -⟩ := h12.cell hL
  exact ⟨s₂, o, X.aaload h1 e1 (State.isArrayOf_alike h8.alike e2.1) hty e2.2.1 (hx.in (by rw [e2.size]; exact (List.getElem?_eq_some_iff.mp hv).1)) (by rw [hx.nat, e2.at]; exact hv) (g := mkF m pc Ls.toArray (.int jj :: .ref a :: st)) rfl rfl (hb h2 hd) _ q1, q2⟩
theorem W_checkcastX {K : String} (hd : decode bytes pc = .ok (.checkcast index, 3)) (hp : pc + 3 = pc') (w : (Jvm.Cond.classLink own index K).before a0 Z = true) (wc : (Jvm.Cond.castable ad K).before a0 Z = true) (hL : L[i]? = some (b, a, IsArrX Z ad ty vs))
    (hr : WP l R Z a0 EL own nm bytes maxL ret Q r cells slots L pc' Ls (.ref a :: st)) : WP l R Z a0 EL own nm bytes maxL ret Q r cells slots L pc Ls (.ref a :: st) := by
  obtain ⟨p, e, s, m, args, below, meth, c⟩ := r
  intro T locs vm0 I
  subst hp
  obtain ⟨h1, h2, h3, h4, h5, h6, X, h7, h8, h9, h10, h11, h12⟩ := I
  obtain ⟨cl, e1, e2, e3⟩ := h12.cell hL
  obtain ⟨T', X', eT', stp⟩ := castY X h1 h8 h9 w rfl (Ins.of_exa (e3.exa e1) wc) (g := mkF m pc Ls.toArray (.ref a :: st)) rfl rfl (hb h2 hd)
  obtain ⟨s₂, o, q1, q2⟩ := hr T' locs vm0 ⟨h1, h2, h3, h4, h5, h6, X', by rw [eT']; exact h7, h8, h9, h10, h11, by rw [eT']; exact h12⟩
  exact ⟨s₂, o, stp _ q1, q2⟩
/-- clone() of an array -/
theorem W_clone {cap : Nat} (hd : decode bytes pc = .ok (.invokevirtual index, 3)) (hp : pc + 3 = pc') (hlen : Ls.length = maxL)
    (w1 : (Jvm.Cond.methodLink own index ⟨ad, "clone", "()Ljava/lang/Object;"⟩).before a0 Z = true) (w2 : (Jvm.Cond.sameMethod ad "java/lang/Object" "clone" "()Ljava/lang/Object;").before a0 Z = true) (w3 : (Jvm.Cond.native ⟨"java/lang/Object", "clone", "()Ljava/lang/Object;"⟩).before a0 Z = true)
    (w4 : (Jvm.Cond.instanceMethod ⟨"java/lang/Object", "clone", "()Ljava/lang/Object;"⟩).before a0 Z = true) (w5 : (Jvm.Cond.selects ad ⟨ad, "clone", "()Ljava/lang/Object;"⟩ ⟨"java/lang/Object", "clone", "()Ljava/lang/Object;"⟩).before a0 Z = true) (w6 : (Jvm.Cond.castable ad "java/lang/Cloneable").before a0 Z = true)
    (hL : L[i]? = some (b, a, IsArrX Z ad ty vs)) (hf : 1 ≤ R.frames) (hlo : (st.map fun v => v.category).sum + 14 ≤ R.locals) (hcap : vs.length ≤ cap) (hc : cells + 1 ≤ R.cells) (hsl : slots + cap ≤ R.slots)
    (hr : ∀ a', WP l R Z a0 EL own nm bytes maxL ret Q r (cells + 1) (slots + cap) ((true, a', IsArrX Z ad ty vs) :: L) pc' Ls (.ref a' :: st)) : WP l R Z a0 EL own nm bytes maxL ret Q r cells slots L pc Ls (.ref a :: st) := by
  obtain ⟨p, e, s, m, args, below, meth, c⟩ := r
  intro T locs vm0 I
  subst hp
  obtain ⟨h1, h2, h3, h4, h5, h6, X, ⟨k0, s1, s2⟩, h8, h9, h10, h11, h12⟩ := I
  obtain ⟨cl, e1, e2, e3⟩ := h12.cell hL
  have y1 := (Ix.of e2.2.2.2.1).nat
  obtain ⟨T', h', X', eT', E, F', E', stp⟩ := cloneH X h1 h8 h9 w1 w2 w3 w4 w5 w6 rfl (Arv.arh (e2.arv e1 (.int 0))) (e3.exa e1) (g := mkF m pc Ls.toArray (.ref a :: st)) rfl (by simp [hlen, h3]) rfl (hb h2 hd) hf (W := (st.map fun v => v.category).sum) (by simp) hlo (by rw [y1]; exact hcap) hc hsl
  subst eT'
  obtain ⟨ca, kc, f1, f2, f3, f4, f5⟩ := E'
  have A' : Arv Z T'.heap T.heap.size cl.cls ty (Int32.ofNat vs.length) vs (.int 0) := F'
  have H' := h12.push (P := IsArrX Z ad ty vs) E f1 ⟨isArr_of_arv A' y1 f1, ⟨kc, f2, f3, f4, f5⟩⟩
  obtain ⟨s₂, o, q1, q2⟩ := hr _ T' _ vm0 ⟨h1, h2, h3, h4, h5, h6, X', ⟨k0, s1, Nat.le_trans s2 E.1⟩, h8, h9, h10, h11, H'⟩
  exact ⟨s₂, o, stp _ q1, q2⟩
end Heap3
end Jvm.Own
namespace Jvm.Own
open Sem ClassFile Op Lib Bundle Jvm.Stand Jvm.Free Jvm.LawKit Jvm.RoadKit
/-! ## 14. Objects that a case's words name -/
section Start
variable {Z : State} {args : Array Value} {t : Term} {a : Addr} {C : String} {fs : List FN} {vs : List Value} {ty : FieldType} {n : Int32}
theorem start_obj (ev : t.eval args Z none [] Z = some (.ref a)) (hx : (Jvm.Cond.exactly t C).value args Z none Z [] = some true) (hl : fs.length = vs.length)
    (hf : ∀ (i : Nat) (f : FN) (v : Value), fs[i]? = some f → vs[i]? = some v → (Term.field t f.1 f.2.1 f.2.2).eval args Z none [] Z = some v) : ∃ c, Z.heap[a]? = some c ∧ IsObj Z C fs vs c := by
  have E := Jvm.RoadKit.exa_at ev hx
  obtain ⟨c, k, h0, -⟩ := id E
  exact ⟨c, h0, ExaC.of E h0, hl, fun i f v hi hv => FldC.of (Fld.start ((fld_at ev).symm.trans (hf i f v hi hv))) h0⟩
theorem start_len {c : Cell} {v : Value} (ev : t.eval args Z none [] Z = some (.ref a)) (A : Arr Z Z.heap a c ty) (h : (Term.length t).eval args Z none [] Z = some v) : c.slots.size < 2147483648 := by
  have ha := A.fin (Vm.Alike.refl _)
  refine Nat.lt_of_not_le fun q => ?_
  have hn : ¬ c.slots.size < 2147483648 := by omega
  simp [Term.eval, ev, ha, hn] at h
theorem start_arr (ev : t.eval args Z none [] Z = some (.ref a)) (hx : (Jvm.Cond.arrayOf t ty).value args Z none Z [] = some true) (hlen : (Term.length t).eval args Z none [] Z = some (.int n)) (hn : Ix n vs.length)
    (hel : ∀ (i : Nat) (v : Value), vs[i]? = some v → (Term.elem t (.int (Int32.ofNat i))).eval args Z none [] Z = some v) (hfit : ∀ v ∈ vs, fits ty v = true) : ∃ c, Z.heap[a]? = some c ∧ IsArr Z ty vs c := by
  obtain ⟨c, A⟩ := Arr.start ev hx
  have hb := start_len ev A hlen
  obtain ⟨c', e1, e2⟩ := length_at hlen ev
  cases A.1.symm.trans e1
  have hsz : c.slots.size = vs.length := by
    have := len_toInt (n := c.slots.size) (by omega)
    rw [e2] at this
    unfold Ix at hn
    omega
  refine ⟨c, A.1, A.2.1, A.2.2, ?_, by omega, hfit⟩
  apply List.ext_getElem?
  intro i
  by_cases hi : i < vs.length
  · have hv := hel i vs[i] (by simp [hi])
    have := (elem_in hv ev (Term.int_eval _) A.1).2
    rw [(Ix.of (by omega : i < 2147483648)).nat] at this
    simpa [hi] using this
  · rw [List.getElem?_eq_none (by simpa using (by omega : c.slots.size ≤ i)), List.getElem?_eq_none (by omega)]
end Start
end Jvm.Own
namespace Jvm.Pilot.@@N@@
open Jvm Jvm.ClassFile Sem Op Lib Jvm.Free Jvm.Stand Jvm.LawKit Jvm.RoadKit Bundle Jvm.Own Jvm.Pilot.@@N@@.Jvm.D
def EL : List (String × Nat) := []
abbrev bigF : List FN := [("java/math/BigInteger", "signum", "I"), ("java/math/BigInteger", "mag", "[I")]
def bigAt (Z : State) (b : Addr) (sg : Int32) (ws : List Int32) : Prop := ∃ (t : Addr) (cb ct : Cell), Z.heap[b]? = some cb ∧ IsObj Z "java/math/BigInteger" bigF [.int sg, .ref t] cb ∧ Z.heap[t]? = some ct ∧ IsArrX Z "[I" .int (ws.map Value.int) ct
def tabAt (Z : State) (n : String) (sg : Int32) : Prop := ∃ (p : Addr) (c : Cell) (vs : List Value), Sta Z Z.heap "java/math/BigInteger" n "[Ljava/math/BigInteger;" (.ref p) ∧ Z.heap[p]? = some c ∧ IsArrX Z "[Ljava/math/BigInteger;" (.object "java/math/BigInteger") vs c ∧ ∀ i : Nat, 1 ≤ i → i ≤ 16 → ∃ b, vs[i]? = some (.ref b) ∧ bigAt Z b sg [Int32.ofNat i]
def Ok (Z : State) (a0 : Array Value) : Prop := (∀ d ∈ tables_1, d.before a0 Z = true) ∧ (∃ b : Addr, Sta Z Z.heap "java/math/BigInteger" "ONE" "Ljava/math/BigInteger;" (.ref b) ∧ bigAt Z b 1 [1]) ∧ (∃ b : Addr, Sta Z Z.heap "java/math/BigInteger" "ZERO" "Ljava/math/BigInteger;" (.ref b) ∧ bigAt Z b 0 []) ∧ tabAt Z "posConst" 1 ∧ tabAt Z "negConst" (-1)
theorem Ok.one {Z : State} {a0 : Array Value} (K : Ok Z a0) : ∃ b : Addr, Sta Z Z.heap "java/math/BigInteger" "ONE" "Ljava/math/BigInteger;" (.ref b) ∧ bigAt Z b 1 [1] := K.2.1
theorem Ok.zero {Z : State} {a0 : Array Value} (K : Ok Z a0) : ∃ b : Addr, Sta Z Z.heap "java/math/BigInteger" "ZERO" "Ljava/math/BigInteger;" (.ref b) ∧ bigAt Z b 0 [] := K.2.2.1
theorem Ok.pos {Z : State} {a0 : Array Value} (K : Ok Z a0) : tabAt Z "posConst" 1 := K.2.2.2.1
theorem Ok.neg {Z : State} {a0 : Array Value} (K : Ok Z a0) : tabAt Z "negConst" (-1) := K.2.2.2.2
theorem w0 {Z : State} {a0 : Array Value} (K : Ok Z a0) : ((Jvm.Cond.methodLink "com/example/locks_to_budgets/lockstobudgets/exact/RationalOfPinLaw" (7 : Nat) ({ cls := "com/example/locks_to_budgets/lockstobudgets/exact/Rational", name := "of", desc := "(J)Lcom/example/locks_to_budgets/lockstobudgets/exact/Rational;" } : Jvm.MethodName))).before a0 Z = true := K.1 _ (List.mem_of_getElem? (i := 0) rfl)
theorem w1 {Z : State} {a0 : Array Value} (K : Ok Z a0) : ((Jvm.Cond.static ({ cls := "com/example/locks_to_budgets/lockstobudgets/exact/Rational", name := "of", desc := "(J)Lcom/example/locks_to_budgets/lockstobudgets/exact/Rational;" } : Jvm.MethodName))).before a0 Z = true := K.1 _ (List.mem_of_getElem? (i := 1) rfl)
theorem w2 {Z : State} {a0 : Array Value} (K : Ok Z a0) : ((Jvm.Cond.initialized "com/example/locks_to_budgets/lockstobudgets/exact/Rational")).before a0 Z = true := K.1 _ (List.mem_of_getElem? (i := 2) rfl)
theorem w3 {Z : State} {a0 : Array Value} (K : Ok Z a0) : ((Jvm.Cond.code ({ cls := "com/example/locks_to_budgets/lockstobudgets/exact/Rational", name := "of", desc := "(J)Lcom/example/locks_to_budgets/lockstobudgets/exact/Rational;" } : Jvm.MethodName) prog_21_method_2_code (2 : Nat) (Option.some (Jvm.ClassFile.FieldType.object "com/example/locks_to_budgets/lockstobudgets/exact/Rational")))).before a0 Z = true := K.1 _ (List.mem_of_getElem? (i := 3) rfl)
theorem w4 {Z : State} {a0 : Array Value} (K : Ok Z a0) : ((Jvm.Cond.classLink "com/example/locks_to_budgets/lockstobudgets/exact/Rational" (8 : Nat) "com/example/locks_to_budgets/lockstobudgets/exact/Rational")).before a0 Z = true := K.1 _ (List.mem_of_getElem? (i := 4) rfl)
theorem w5 {Z : State} {a0 : Array Value} (K : Ok Z a0) : ((Jvm.Cond.instantiable "com/example/locks_to_budgets/lockstobudgets/exact/Rational" (2 : Nat))).before a0 Z = true := K.1 _ (List.mem_of_getElem? (i := 5) rfl)
theorem w6 {Z : State} {a0 : Array Value} (K : Ok Z a0) : ((Jvm.Cond.methodLink "com/example/locks_to_budgets/lockstobudgets/exact/Rational" (16 : Nat) ({ cls := "java/math/BigInteger", name := "valueOf", desc := "(J)Ljava/math/BigInteger;" } : Jvm.MethodName))).before a0 Z = true := K.1 _ (List.mem_of_getElem? (i := 6) rfl)
theorem w7 {Z : State} {a0 : Array Value} (K : Ok Z a0) : ((Jvm.Cond.static ({ cls := "java/math/BigInteger", name := "valueOf", desc := "(J)Ljava/math/BigInteger;" } : Jvm.MethodName))).before a0 Z = true := K.1 _ (List.mem_of_getElem? (i := 7) rfl)
theorem w8 {Z : State} {a0 : Array Value} (K : Ok Z a0) : ((Jvm.Cond.initialized "java/math/BigInteger")).before a0 Z = true := K.1 _ (List.mem_of_getElem? (i := 8) rfl)
theorem w9 {Z : State} {a0 : Array Value} (K : Ok Z a0) : ((Jvm.Cond.code ({ cls := "java/math/BigInteger", name := "valueOf", desc := "(J)Ljava/math/BigInteger;" } : Jvm.MethodName) jdk_2097_method_29_code (2 : Nat) (Option.some (Jvm.ClassFile.FieldType.object "java/math/BigInteger")))).before a0 Z = true := K.1 _ (List.mem_of_getElem? (i := 9) rfl)
theorem w10 {Z : State} {a0 : Array Value} (K : Ok Z a0) : ((Jvm.Cond.constantLong "java/math/BigInteger" (345 : Nat) (16 : Int64))).before a0 Z = true := K.1 _ (List.mem_of_getElem? (i := 10) rfl)
theorem w11 {Z : State} {a0 : Array Value} (K : Ok Z a0) : ((Jvm.Cond.fieldLink "java/math/BigInteger" (347 : Nat) "java/math/BigInteger" "posConst" "[Ljava/math/BigInteger;")).before a0 Z = true := K.1 _ (List.mem_of_getElem? (i := 11) rfl)
theorem w12 {Z : State} {a0 : Array Value} (K : Ok Z a0) : ((Jvm.Cond.fieldLink "com/example/locks_to_budgets/lockstobudgets/exact/Rational" (22 : Nat) "java/math/BigInteger" "ONE" "Ljava/math/BigInteger;")).before a0 Z = true := K.1 _ (List.mem_of_getElem? (i := 12) rfl)
theorem w13 {Z : State} {a0 : Array Value} (K : Ok Z a0) : ((Jvm.Cond.methodLink "com/example/locks_to_budgets/lockstobudgets/exact/Rational" (25 : Nat) ({ cls := "com/example/locks_to_budgets/lockstobudgets/exact/Rational", name := "<init>", desc := "(Ljava/math/BigInteger;Ljava/math/BigInteger;)V" } : Jvm.MethodName))).before a0 Z = true := K.1 _ (List.mem_of_getElem? (i := 13) rfl)
theorem w14 {Z : State} {a0 : Array Value} (K : Ok Z a0) : ((Jvm.Cond.instanceMethod ({ cls := "com/example/locks_to_budgets/lockstobudgets/exact/Rational", name := "<init>", desc := "(Ljava/math/BigInteger;Ljava/math/BigInteger;)V" } : Jvm.MethodName))).before a0 Z = true := K.1 _ (List.mem_of_getElem? (i := 14) rfl)
theorem w15 {Z : State} {a0 : Array Value} (K : Ok Z a0) : ((Jvm.Cond.code ({ cls := "com/example/locks_to_budgets/lockstobudgets/exact/Rational", name := "<init>", desc := "(Ljava/math/BigInteger;Ljava/math/BigInteger;)V" } : Jvm.MethodName) prog_21_method_1_code (3 : Nat) (Option.none : Option Jvm.ClassFile.FieldType))).before a0 Z = true := K.1 _ (List.mem_of_getElem? (i := 15) rfl)
theorem w16 {Z : State} {a0 : Array Value} (K : Ok Z a0) : ((Jvm.Cond.methodLink "com/example/locks_to_budgets/lockstobudgets/exact/Rational" (1 : Nat) ({ cls := "java/lang/Object", name := "<init>", desc := "()V" } : Jvm.MethodName))).before a0 Z = true := K.1 _ (List.mem_of_getElem? (i := 16) rfl)
theorem w17 {Z : State} {a0 : Array Value} (K : Ok Z a0) : ((Jvm.Cond.instanceMethod ({ cls := "java/lang/Object", name := "<init>", desc := "()V" } : Jvm.MethodName))).before a0 Z = true := K.1 _ (List.mem_of_getElem? (i := 17) rfl)
theorem w18 {Z : State} {a0 : Array Value} (K : Ok Z a0) : ((Jvm.Cond.code ({ cls := "java/lang/Object", name := "<init>", desc := "()V" } : Jvm.MethodName) object_method_1_code (1 : Nat) (Option.none : Option Jvm.ClassFile.FieldType))).before a0 Z = true := K.1 _ (List.mem_of_getElem? (i := 18) rfl)
theorem w19 {Z : State} {a0 : Array Value} (K : Ok Z a0) : ((Jvm.Cond.fieldLink "com/example/locks_to_budgets/lockstobudgets/exact/Rational" (7 : Nat) "com/example/locks_to_budgets/lockstobudgets/exact/Rational" "numerator" "Ljava/math/BigInteger;")).before a0 Z = true := K.1 _ (List.mem_of_getElem? (i := 19) rfl)
theorem w20 {Z : State} {a0 : Array Value} (K : Ok Z a0) : ((Jvm.Cond.laysFinal "com/example/locks_to_budgets/lockstobudgets/exact/Rational" "com/example/locks_to_budgets/lockstobudgets/exact/Rational" "numerator" "Ljava/math/BigInteger;")).before a0 Z = true := K.1 _ (List.mem_of_getElem? (i := 20) rfl)
theorem w21 {Z : State} {a0 : Array Value} (K : Ok Z a0) : ((Jvm.Cond.fieldLink "com/example/locks_to_budgets/lockstobudgets/exact/Rational" (13 : Nat) "com/example/locks_to_budgets/lockstobudgets/exact/Rational" "denominator" "Ljava/math/BigInteger;")).before a0 Z = true := K.1 _ (List.mem_of_getElem? (i := 21) rfl)
theorem w22 {Z : State} {a0 : Array Value} (K : Ok Z a0) : ((Jvm.Cond.laysFinal "com/example/locks_to_budgets/lockstobudgets/exact/Rational" "com/example/locks_to_budgets/lockstobudgets/exact/Rational" "denominator" "Ljava/math/BigInteger;")).before a0 Z = true := K.1 _ (List.mem_of_getElem? (i := 22) rfl)
theorem w23 {Z : State} {a0 : Array Value} (K : Ok Z a0) : ((Jvm.Cond.methodLink "com/example/locks_to_budgets/lockstobudgets/exact/RationalOfPinLaw" (13 : Nat) ({ cls := "com/example/locks_to_budgets/lockstobudgets/exact/Rational", name := "of", desc := "(JJ)Lcom/example/locks_to_budgets/lockstobudgets/exact/Rational;" } : Jvm.MethodName))).before a0 Z = true := K.1 _ (List.mem_of_getElem? (i := 23) rfl)
theorem w24 {Z : State} {a0 : Array Value} (K : Ok Z a0) : ((Jvm.Cond.static ({ cls := "com/example/locks_to_budgets/lockstobudgets/exact/Rational", name := "of", desc := "(JJ)Lcom/example/locks_to_budgets/lockstobudgets/exact/Rational;" } : Jvm.MethodName))).before a0 Z = true := K.1 _ (List.mem_of_getElem? (i := 24) rfl)
theorem w25 {Z : State} {a0 : Array Value} (K : Ok Z a0) : ((Jvm.Cond.code ({ cls := "com/example/locks_to_budgets/lockstobudgets/exact/Rational", name := "of", desc := "(JJ)Lcom/example/locks_to_budgets/lockstobudgets/exact/Rational;" } : Jvm.MethodName) prog_21_method_4_code (4 : Nat) (Option.some (Jvm.ClassFile.FieldType.object "com/example/locks_to_budgets/lockstobudgets/exact/Rational")))).before a0 Z = true := K.1 _ (List.mem_of_getElem? (i := 25) rfl)
theorem w26 {Z : State} {a0 : Array Value} (K : Ok Z a0) : ((Jvm.Cond.methodLink "com/example/locks_to_budgets/lockstobudgets/exact/Rational" (36 : Nat) ({ cls := "com/example/locks_to_budgets/lockstobudgets/exact/Rational", name := "of", desc := "(Ljava/math/BigInteger;Ljava/math/BigInteger;)Lcom/example/locks_to_budgets/lockstobudgets/exact/Rational;" } : Jvm.MethodName))).before a0 Z = true := K.1 _ (List.mem_of_getElem? (i := 26) rfl)
theorem w27 {Z : State} {a0 : Array Value} (K : Ok Z a0) : ((Jvm.Cond.static ({ cls := "com/example/locks_to_budgets/lockstobudgets/exact/Rational", name := "of", desc := "(Ljava/math/BigInteger;Ljava/math/BigInteger;)Lcom/example/locks_to_budgets/lockstobudgets/exact/Rational;" } : Jvm.MethodName))).before a0 Z = true := K.1 _ (List.mem_of_getElem? (i := 27) rfl)
theorem w28 {Z : State} {a0 : Array Value} (K : Ok Z a0) : ((Jvm.Cond.code ({ cls := "com/example/locks_to_budgets/lockstobudgets/exact/Rational", name := "of", desc := "(Ljava/math/BigInteger;Ljava/math/BigInteger;)Lcom/example/locks_to_budgets/lockstobudgets/exact/Rational;" } : Jvm.MethodName) prog_21_method_5_code (4 : Nat) (Option.some (Jvm.ClassFile.FieldType.object "com/example/locks_to_budgets/lockstobudgets/exact/Rational")))).before a0 Z = true := K.1 _ (List.mem_of_getElem? (i := 28) rfl)
theorem w29 {Z : State} {a0 : Array Value} (K : Ok Z a0) : ((Jvm.Cond.stringLink "com/example/locks_to_budgets/lockstobudgets/exact/Rational" (40 : Nat) "numerator")).before a0 Z = true := K.1 _ (List.mem_of_getElem? (i := 29) rfl)
theorem w30 {Z : State} {a0 : Array Value} (K : Ok Z a0) : ((Jvm.Cond.initialized "java/lang/String")).before a0 Z = true := K.1 _ (List.mem_of_getElem? (i := 30) rfl)
theorem w31 {Z : State} {a0 : Array Value} (K : Ok Z a0) : ((Jvm.Cond.instantiable "java/lang/String" (4 : Nat))).before a0 Z = true := K.1 _ (List.mem_of_getElem? (i := 31) rfl)
theorem w32 {Z : State} {a0 : Array Value} (K : Ok Z a0) : ((Jvm.Cond.arrayClass Jvm.ClassFile.FieldType.byte)).before a0 Z = true := K.1 _ (List.mem_of_getElem? (i := 32) rfl)
theorem w33 {Z : State} {a0 : Array Value} (K : Ok Z a0) : ((Jvm.Cond.laysFinal "java/lang/String" "java/lang/String" "value" "[B")).before a0 Z = true := K.1 _ (List.mem_of_getElem? (i := 33) rfl)
theorem w34 {Z : State} {a0 : Array Value} (K : Ok Z a0) : ((Jvm.Cond.laysFinal "java/lang/String" "java/lang/String" "coder" "B")).before a0 Z = true := K.1 _ (List.mem_of_getElem? (i := 34) rfl)
theorem w35 {Z : State} {a0 : Array Value} (K : Ok Z a0) : ((Jvm.Cond.soleField "java/lang/String" "value")).before a0 Z = true := K.1 _ (List.mem_of_getElem? (i := 35) rfl)
theorem w36 {Z : State} {a0 : Array Value} (K : Ok Z a0) : ((Jvm.Cond.soleField "java/lang/String" "coder")).before a0 Z = true := K.1 _ (List.mem_of_getElem? (i := 36) rfl)
theorem w37 {Z : State} {a0 : Array Value} (K : Ok Z a0) : ((Jvm.Cond.methodLink "com/example/locks_to_budgets/lockstobudgets/exact/Rational" (30 : Nat) ({ cls := "java/util/Objects", name := "requireNonNull", desc := "(Ljava/lang/Object;Ljava/lang/String;)Ljava/lang/Object;" } : Jvm.MethodName))).before a0 Z = true := K.1 _ (List.mem_of_getElem? (i := 37) rfl)
theorem w38 {Z : State} {a0 : Array Value} (K : Ok Z a0) : ((Jvm.Cond.static ({ cls := "java/util/Objects", name := "requireNonNull", desc := "(Ljava/lang/Object;Ljava/lang/String;)Ljava/lang/Object;" } : Jvm.MethodName))).before a0 Z = true := K.1 _ (List.mem_of_getElem? (i := 38) rfl)
theorem w39 {Z : State} {a0 : Array Value} (K : Ok Z a0) : ((Jvm.Cond.initialized "java/util/Objects")).before a0 Z = true := K.1 _ (List.mem_of_getElem? (i := 39) rfl)
theorem w40 {Z : State} {a0 : Array Value} (K : Ok Z a0) : ((Jvm.Cond.code ({ cls := "java/util/Objects", name := "requireNonNull", desc := "(Ljava/lang/Object;Ljava/lang/String;)Ljava/lang/Object;" } : Jvm.MethodName) jdk_31_method_11_code (2 : Nat) (Option.some (Jvm.ClassFile.FieldType.object "java/lang/Object")))).before a0 Z = true := K.1 _ (List.mem_of_getElem? (i := 40) rfl)
theorem w41 {Z : State} {a0 : Array Value} (K : Ok Z a0) : ((Jvm.Cond.stringLink "com/example/locks_to_budgets/lockstobudgets/exact/Rational" (41 : Nat) "denominator")).before a0 Z = true := K.1 _ (List.mem_of_getElem? (i := 41) rfl)
theorem w42 {Z : State} {a0 : Array Value} (K : Ok Z a0) : ((Jvm.Cond.methodLink "com/example/locks_to_budgets/lockstobudgets/exact/Rational" (42 : Nat) ({ cls := "java/math/BigInteger", name := "signum", desc := "()I" } : Jvm.MethodName))).before a0 Z = true := K.1 _ (List.mem_of_getElem? (i := 42) rfl)
theorem w43 {Z : State} {a0 : Array Value} (K : Ok Z a0) : ((Jvm.Cond.declares ({ cls := "java/math/BigInteger", name := "signum", desc := "()I" } : Jvm.MethodName))).before a0 Z = true := K.1 _ (List.mem_of_getElem? (i := 43) rfl)
theorem w44 {Z : State} {a0 : Array Value} (K : Ok Z a0) : ((Jvm.Cond.instanceMethod ({ cls := "java/math/BigInteger", name := "signum", desc := "()I" } : Jvm.MethodName))).before a0 Z = true := K.1 _ (List.mem_of_getElem? (i := 44) rfl)
theorem w45 {Z : State} {a0 : Array Value} (K : Ok Z a0) : ((Jvm.Cond.selects "java/math/BigInteger" ({ cls := "java/math/BigInteger", name := "signum", desc := "()I" } : Jvm.MethodName) ({ cls := "java/math/BigInteger", name := "signum", desc := "()I" } : Jvm.MethodName))).before a0 Z = true := K.1 _ (List.mem_of_getElem? (i := 45) rfl)
theorem w46 {Z : State} {a0 : Array Value} (K : Ok Z a0) : ((Jvm.Cond.code ({ cls := "java/math/BigInteger", name := "signum", desc := "()I" } : Jvm.MethodName) jdk_2097_method_81_code (1 : Nat) (Option.some Jvm.ClassFile.FieldType.int))).before a0 Z = true := K.1 _ (List.mem_of_getElem? (i := 46) rfl)
theorem w47 {Z : State} {a0 : Array Value} (K : Ok Z a0) : ((Jvm.Cond.fieldLink "java/math/BigInteger" (32 : Nat) "java/math/BigInteger" "signum" "I")).before a0 Z = true := K.1 _ (List.mem_of_getElem? (i := 47) rfl)
theorem w48 {Z : State} {a0 : Array Value} (K : Ok Z a0) : ((Jvm.Cond.laysFinal "java/math/BigInteger" "java/math/BigInteger" "signum" "I")).before a0 Z = true := K.1 _ (List.mem_of_getElem? (i := 48) rfl)
theorem w49 {Z : State} {a0 : Array Value} (K : Ok Z a0) : ((Jvm.Cond.methodLink "com/example/locks_to_budgets/lockstobudgets/exact/Rational" (53 : Nat) ({ cls := "java/math/BigInteger", name := "gcd", desc := "(Ljava/math/BigInteger;)Ljava/math/BigInteger;" } : Jvm.MethodName))).before a0 Z = true := K.1 _ (List.mem_of_getElem? (i := 49) rfl)
theorem w50 {Z : State} {a0 : Array Value} (K : Ok Z a0) : ((Jvm.Cond.declares ({ cls := "java/math/BigInteger", name := "gcd", desc := "(Ljava/math/BigInteger;)Ljava/math/BigInteger;" } : Jvm.MethodName))).before a0 Z = true := K.1 _ (List.mem_of_getElem? (i := 50) rfl)
theorem w51 {Z : State} {a0 : Array Value} (K : Ok Z a0) : ((Jvm.Cond.instanceMethod ({ cls := "java/math/BigInteger", name := "gcd", desc := "(Ljava/math/BigInteger;)Ljava/math/BigInteger;" } : Jvm.MethodName))).before a0 Z = true := K.1 _ (List.mem_of_getElem? (i := 51) rfl)
theorem w52 {Z : State} {a0 : Array Value} (K : Ok Z a0) : ((Jvm.Cond.selects "java/math/BigInteger" ({ cls := "java/math/BigInteger", name := "gcd", desc := "(Ljava/math/BigInteger;)Ljava/math/BigInteger;" } : Jvm.MethodName) ({ cls := "java/math/BigInteger", name := "gcd", desc := "(Ljava/math/BigInteger;)Ljava/math/BigInteger;" } : Jvm.MethodName))).before a0 Z = true := K.1 _ (List.mem_of_getElem? (i := 52) rfl)
theorem w53 {Z : State} {a0 : Array Value} (K : Ok Z a0) : ((Jvm.Cond.code ({ cls := "java/math/BigInteger", name := "gcd", desc := "(Ljava/math/BigInteger;)Ljava/math/BigInteger;" } : Jvm.MethodName) jdk_2097_method_73_code (5 : Nat) (Option.some (Jvm.ClassFile.FieldType.object "java/math/BigInteger")))).before a0 Z = true := K.1 _ (List.mem_of_getElem? (i := 53) rfl)
theorem w54 {Z : State} {a0 : Array Value} (K : Ok Z a0) : ((Jvm.Cond.classLink "java/math/BigInteger" (541 : Nat) "java/math/MutableBigInteger")).before a0 Z = true := K.1 _ (List.mem_of_getElem? (i := 54) rfl)
theorem w55 {Z : State} {a0 : Array Value} (K : Ok Z a0) : ((Jvm.Cond.instantiable "java/math/MutableBigInteger" (3 : Nat))).before a0 Z = true := K.1 _ (List.mem_of_getElem? (i := 55) rfl)
theorem w56 {Z : State} {a0 : Array Value} (K : Ok Z a0) : ((Jvm.Cond.initialized "java/math/MutableBigInteger")).before a0 Z = true := K.1 _ (List.mem_of_getElem? (i := 56) rfl)
theorem w57 {Z : State} {a0 : Array Value} (K : Ok Z a0) : ((Jvm.Cond.methodLink "java/math/BigInteger" (567 : Nat) ({ cls := "java/math/MutableBigInteger", name := "<init>", desc := "(Ljava/math/BigInteger;)V" } : Jvm.MethodName))).before a0 Z = true := K.1 _ (List.mem_of_getElem? (i := 57) rfl)
theorem w58 {Z : State} {a0 : Array Value} (K : Ok Z a0) : ((Jvm.Cond.instanceMethod ({ cls := "java/math/MutableBigInteger", name := "<init>", desc := "(Ljava/math/BigInteger;)V" } : Jvm.MethodName))).before a0 Z = true := K.1 _ (List.mem_of_getElem? (i := 58) rfl)
theorem w60 {Z : State} {a0 : Array Value} (K : Ok Z a0) : ((Jvm.Cond.code ({ cls := "java/math/MutableBigInteger", name := "<init>", desc := "(Ljava/math/BigInteger;)V" } : Jvm.MethodName) jdk_2101_method_4_code (2 : Nat) (Option.none : Option Jvm.ClassFile.FieldType))).before a0 Z = true := K.1 _ (List.mem_of_getElem? (i := 60) rfl)
theorem w61 {Z : State} {a0 : Array Value} (K : Ok Z a0) : ((Jvm.Cond.methodLink "java/math/MutableBigInteger" (5 : Nat) ({ cls := "java/lang/Object", name := "<init>", desc := "()V" } : Jvm.MethodName))).before a0 Z = true := K.1 _ (List.mem_of_getElem? (i := 61) rfl)
theorem w62 {Z : State} {a0 : Array Value} (K : Ok Z a0) : ((Jvm.Cond.fieldLink "java/math/MutableBigInteger" (11 : Nat) "java/math/MutableBigInteger" "offset" "I")).before a0 Z = true := K.1 _ (List.mem_of_getElem? (i := 62) rfl)
theorem w63 {Z : State} {a0 : Array Value} (K : Ok Z a0) : ((Jvm.Cond.lays "java/math/MutableBigInteger" "java/math/MutableBigInteger" "offset" "I")).before a0 Z = true := K.1 _ (List.mem_of_getElem? (i := 63) rfl)
theorem w64 {Z : State} {a0 : Array Value} (K : Ok Z a0) : ((Jvm.Cond.fieldLink "java/math/MutableBigInteger" (24 : Nat) "java/math/BigInteger" "mag" "[I")).before a0 Z = true := K.1 _ (List.mem_of_getElem? (i := 64) rfl)
theorem w65 {Z : State} {a0 : Array Value} (K : Ok Z a0) : ((Jvm.Cond.laysFinal "java/math/BigInteger" "java/math/BigInteger" "mag" "[I")).before a0 Z = true := K.1 _ (List.mem_of_getElem? (i := 65) rfl)
theorem w66 {Z : State} {a0 : Array Value} (K : Ok Z a0) : ((Jvm.Cond.fieldLink "java/math/MutableBigInteger" (21 : Nat) "java/math/MutableBigInteger" "intLen" "I")).before a0 Z = true := K.1 _ (List.mem_of_getElem? (i := 66) rfl)
theorem w67 {Z : State} {a0 : Array Value} (K : Ok Z a0) : ((Jvm.Cond.lays "java/math/MutableBigInteger" "java/math/MutableBigInteger" "intLen" "I")).before a0 Z = true := K.1 _ (List.mem_of_getElem? (i := 67) rfl)
theorem w68 {Z : State} {a0 : Array Value} (K : Ok Z a0) : ((Jvm.Cond.methodLink "java/math/MutableBigInteger" (27 : Nat) ({ cls := "java/util/Arrays", name := "copyOf", desc := "([II)[I" } : Jvm.MethodName))).before a0 Z = true := K.1 _ (List.mem_of_getElem? (i := 68) rfl)
theorem w69 {Z : State} {a0 : Array Value} (K : Ok Z a0) : ((Jvm.Cond.static ({ cls := "java/util/Arrays", name := "copyOf", desc := "([II)[I" } : Jvm.MethodName))).before a0 Z = true := K.1 _ (List.mem_of_getElem? (i := 69) rfl)
theorem w70 {Z : State} {a0 : Array Value} (K : Ok Z a0) : ((Jvm.Cond.initialized "java/util/Arrays")).before a0 Z = true := K.1 _ (List.mem_of_getElem? (i := 70) rfl)
theorem w71 {Z : State} {a0 : Array Value} (K : Ok Z a0) : ((Jvm.Cond.code ({ cls := "java/util/Arrays", name := "copyOf", desc := "([II)[I" } : Jvm.MethodName) jdk_65_method_123_code (3 : Nat) (Option.some (Jvm.ClassFile.FieldType.array Jvm.ClassFile.FieldType.int)))).before a0 Z = true := K.1 _ (List.mem_of_getElem? (i := 71) rfl)
theorem w72 {Z : State} {a0 : Array Value} (K : Ok Z a0) : ((Jvm.Cond.methodLink "java/util/Arrays" (316 : Nat) ({ cls := "[I", name := "clone", desc := "()Ljava/lang/Object;" } : Jvm.MethodName))).before a0 Z = true := K.1 _ (List.mem_of_getElem? (i := 72) rfl)
theorem w73 {Z : State} {a0 : Array Value} (K : Ok Z a0) : ((Jvm.Cond.sameMethod "[I" "java/lang/Object" "clone" "()Ljava/lang/Object;")).before a0 Z = true := K.1 _ (List.mem_of_getElem? (i := 73) rfl)
theorem w75 {Z : State} {a0 : Array Value} (K : Ok Z a0) : ((Jvm.Cond.instanceMethod ({ cls := "java/lang/Object", name := "clone", desc := "()Ljava/lang/Object;" } : Jvm.MethodName))).before a0 Z = true := K.1 _ (List.mem_of_getElem? (i := 75) rfl)
theorem w76 {Z : State} {a0 : Array Value} (K : Ok Z a0) : ((Jvm.Cond.selects "[I" ({ cls := "[I", name := "clone", desc := "()Ljava/lang/Object;" } : Jvm.MethodName) ({ cls := "java/lang/Object", name := "clone", desc := "()Ljava/lang/Object;" } : Jvm.MethodName))).before a0 Z = true := K.1 _ (List.mem_of_getElem? (i := 76) rfl)
theorem w77 {Z : State} {a0 : Array Value} (K : Ok Z a0) : ((Jvm.Cond.native ({ cls := "java/lang/Object", name := "clone", desc := "()Ljava/lang/Object;" } : Jvm.MethodName))).before a0 Z = true := K.1 _ (List.mem_of_getElem? (i := 77) rfl)
theorem w78 {Z : State} {a0 : Array Value} (K : Ok Z a0) : ((Jvm.Cond.castable "[I" "java/lang/Cloneable")).before a0 Z = true := K.1 _ (List.mem_of_getElem? (i := 78) rfl)
theorem w79 {Z : State} {a0 : Array Value} (K : Ok Z a0) : ((Jvm.Cond.classLink "java/util/Arrays" (317 : Nat) "[I")).before a0 Z = true := K.1 _ (List.mem_of_getElem? (i := 79) rfl)
theorem w80 {Z : State} {a0 : Array Value} (K : Ok Z a0) : ((Jvm.Cond.castable "[I" "[I")).before a0 Z = true := K.1 _ (List.mem_of_getElem? (i := 80) rfl)
theorem w81 {Z : State} {a0 : Array Value} (K : Ok Z a0) : ((Jvm.Cond.fieldLink "java/math/MutableBigInteger" (17 : Nat) "java/math/MutableBigInteger" "value" "[I")).before a0 Z = true := K.1 _ (List.mem_of_getElem? (i := 81) rfl)
theorem w82 {Z : State} {a0 : Array Value} (K : Ok Z a0) : ((Jvm.Cond.lays "java/math/MutableBigInteger" "java/math/MutableBigInteger" "value" "[I")).before a0 Z = true := K.1 _ (List.mem_of_getElem? (i := 82) rfl)
theorem w83 {Z : State} {a0 : Array Value} (K : Ok Z a0) : ((Jvm.Cond.methodLink "java/math/BigInteger" (598 : Nat) ({ cls := "java/math/MutableBigInteger", name := "hybridGCD", desc := "(Ljava/math/MutableBigInteger;)Ljava/math/MutableBigInteger;" } : Jvm.MethodName))).before a0 Z = true := K.1 _ (List.mem_of_getElem? (i := 83) rfl)
theorem w84 {Z : State} {a0 : Array Value} (K : Ok Z a0) : ((Jvm.Cond.declares ({ cls := "java/math/MutableBigInteger", name := "hybridGCD", desc := "(Ljava/math/MutableBigInteger;)Ljava/math/MutableBigInteger;" } : Jvm.MethodName))).before a0 Z = true := K.1 _ (List.mem_of_getElem? (i := 84) rfl)
theorem w85 {Z : State} {a0 : Array Value} (K : Ok Z a0) : ((Jvm.Cond.instanceMethod ({ cls := "java/math/MutableBigInteger", name := "hybridGCD", desc := "(Ljava/math/MutableBigInteger;)Ljava/math/MutableBigInteger;" } : Jvm.MethodName))).before a0 Z = true := K.1 _ (List.mem_of_getElem? (i := 85) rfl)
theorem w86 {Z : State} {a0 : Array Value} (K : Ok Z a0) : ((Jvm.Cond.selects "java/math/MutableBigInteger" ({ cls := "java/math/MutableBigInteger", name := "hybridGCD", desc := "(Ljava/math/MutableBigInteger;)Ljava/math/MutableBigInteger;" } : Jvm.MethodName) ({ cls := "java/math/MutableBigInteger", name := "hybridGCD", desc := "(Ljava/math/MutableBigInteger;)Ljava/math/MutableBigInteger;" } : Jvm.MethodName))).before a0 Z = true := K.1 _ (List.mem_of_getElem? (i := 86) rfl)
theorem w87 {Z : State} {a0 : Array Value} (K : Ok Z a0) : ((Jvm.Cond.code ({ cls := "java/math/MutableBigInteger", name := "hybridGCD", desc := "(Ljava/math/MutableBigInteger;)Ljava/math/MutableBigInteger;" } : Jvm.MethodName) jdk_2101_method_72_code (5 : Nat) (Option.some (Jvm.ClassFile.FieldType.object "java/math/MutableBigInteger")))).before a0 Z = true := K.1 _ (List.mem_of_getElem? (i := 87) rfl)
theorem w88 {Z : State} {a0 : Array Value} (K : Ok Z a0) : ((Jvm.Cond.classLink "java/math/MutableBigInteger" (12 : Nat) "java/math/MutableBigInteger")).before a0 Z = true := K.1 _ (List.mem_of_getElem? (i := 88) rfl)
theorem w89 {Z : State} {a0 : Array Value} (K : Ok Z a0) : ((Jvm.Cond.methodLink "java/math/MutableBigInteger" (177 : Nat) ({ cls := "java/math/MutableBigInteger", name := "<init>", desc := "()V" } : Jvm.MethodName))).before a0 Z = true := K.1 _ (List.mem_of_getElem? (i := 89) rfl)
theorem w90 {Z : State} {a0 : Array Value} (K : Ok Z a0) : ((Jvm.Cond.instanceMethod ({ cls := "java/math/MutableBigInteger", name := "<init>", desc := "()V" } : Jvm.MethodName))).before a0 Z = true := K.1 _ (List.mem_of_getElem? (i := 90) rfl)
theorem w91 {Z : State} {a0 : Array Value} (K : Ok Z a0) : ((Jvm.Cond.code ({ cls := "java/math/MutableBigInteger", name := "<init>", desc := "()V" } : Jvm.MethodName) jdk_2101_method_1_code (1 : Nat) (Option.none : Option Jvm.ClassFile.FieldType))).before a0 Z = true := K.1 _ (List.mem_of_getElem? (i := 91) rfl)
theorem w92 {Z : State} {a0 : Array Value} (K : Ok Z a0) : ((Jvm.Cond.arrayClass Jvm.ClassFile.FieldType.int)).before a0 Z = true := K.1 _ (List.mem_of_getElem? (i := 92) rfl)
theorem w93 {Z : State} {a0 : Array Value} (K : Ok Z a0) : ((Jvm.Cond.methodLink "java/math/MutableBigInteger" (329 : Nat) ({ cls := "java/lang/Math", name := "abs", desc := "(I)I" } : Jvm.MethodName))).before a0 Z = true := K.1 _ (List.mem_of_getElem? (i := 93) rfl)
theorem w94 {Z : State} {a0 : Array Value} (K : Ok Z a0) : ((Jvm.Cond.static ({ cls := "java/lang/Math", name := "abs", desc := "(I)I" } : Jvm.MethodName))).before a0 Z = true := K.1 _ (List.mem_of_getElem? (i := 94) rfl)
theorem w95 {Z : State} {a0 : Array Value} (K : Ok Z a0) : ((Jvm.Cond.initialized "java/lang/Math")).before a0 Z = true := K.1 _ (List.mem_of_getElem? (i := 95) rfl)
theorem w96 {Z : State} {a0 : Array Value} (K : Ok Z a0) : ((Jvm.Cond.code ({ cls := "java/lang/Math", name := "abs", desc := "(I)I" } : Jvm.MethodName) jdk_29_method_59_code (1 : Nat) (Option.some Jvm.ClassFile.FieldType.int))).before a0 Z = true := K.1 _ (List.mem_of_getElem? (i := 96) rfl)
theorem w97 {Z : State} {a0 : Array Value} (K : Ok Z a0) : ((Jvm.Cond.methodLink "java/math/MutableBigInteger" (332 : Nat) ({ cls := "java/math/MutableBigInteger", name := "binaryGCD", desc := "(Ljava/math/MutableBigInteger;)Ljava/math/MutableBigInteger;" } : Jvm.MethodName))).before a0 Z = true := K.1 _ (List.mem_of_getElem? (i := 97) rfl)
theorem w98 {Z : State} {a0 : Array Value} (K : Ok Z a0) : ((Jvm.Cond.instanceMethod ({ cls := "java/math/MutableBigInteger", name := "binaryGCD", desc := "(Ljava/math/MutableBigInteger;)Ljava/math/MutableBigInteger;" } : Jvm.MethodName))).before a0 Z = true := K.1 _ (List.mem_of_getElem? (i := 98) rfl)
theorem w100 {Z : State} {a0 : Array Value} (K : Ok Z a0) : ((Jvm.Cond.selects "java/math/MutableBigInteger" ({ cls := "java/math/MutableBigInteger", name := "binaryGCD", desc := "(Ljava/math/MutableBigInteger;)Ljava/math/MutableBigInteger;" } : Jvm.MethodName) ({ cls := "java/math/MutableBigInteger", name := "binaryGCD", desc := "(Ljava/math/MutableBigInteger;)Ljava/math/MutableBigInteger;" } : Jvm.MethodName))).before a0 Z = true := K.1 _ (List.mem_of_getElem? (i := 100) rfl)
theorem w101 {Z : State} {a0 : Array Value} (K : Ok Z a0) : ((Jvm.Cond.code ({ cls := "java/math/MutableBigInteger", name := "binaryGCD", desc := "(Ljava/math/MutableBigInteger;)Ljava/math/MutableBigInteger;" } : Jvm.MethodName) jdk_2101_method_73_code (13 : Nat) (Option.some (Jvm.ClassFile.FieldType.object "java/math/MutableBigInteger")))).before a0 Z = true := K.1 _ (List.mem_of_getElem? (i := 101) rfl)
theorem w102 {Z : State} {a0 : Array Value} (K : Ok Z a0) : ((Jvm.Cond.methodLink "java/math/MutableBigInteger" (184 : Nat) ({ cls := "java/math/MutableBigInteger", name := "getLowestSetBit", desc := "()I" } : Jvm.MethodName))).before a0 Z = true := K.1 _ (List.mem_of_getElem? (i := 102) rfl)
theorem w103 {Z : State} {a0 : Array Value} (K : Ok Z a0) : ((Jvm.Cond.instanceMethod ({ cls := "java/math/MutableBigInteger", name := "getLowestSetBit", desc := "()I" } : Jvm.MethodName))).before a0 Z = true := K.1 _ (List.mem_of_getElem? (i := 103) rfl)
theorem w105 {Z : State} {a0 : Array Value} (K : Ok Z a0) : ((Jvm.Cond.selects "java/math/MutableBigInteger" ({ cls := "java/math/MutableBigInteger", name := "getLowestSetBit", desc := "()I" } : Jvm.MethodName) ({ cls := "java/math/MutableBigInteger", name := "getLowestSetBit", desc := "()I" } : Jvm.MethodName))).before a0 Z = true := K.1 _ (List.mem_of_getElem? (i := 105) rfl)
theorem w106 {Z : State} {a0 : Array Value} (K : Ok Z a0) : ((Jvm.Cond.code ({ cls := "java/math/MutableBigInteger", name := "getLowestSetBit", desc := "()I" } : Jvm.MethodName) jdk_2101_method_18_code (3 : Nat) (Option.some Jvm.ClassFile.FieldType.int))).before a0 Z = true := K.1 _ (List.mem_of_getElem? (i := 106) rfl)
theorem w107 {Z : State} {a0 : Array Value} (K : Ok Z a0) : ((Jvm.Cond.methodLink "java/math/MutableBigInteger" (89 : Nat) ({ cls := "java/lang/Integer", name := "numberOfTrailingZeros", desc := "(I)I" } : Jvm.MethodName))).before a0 Z = true := K.1 _ (List.mem_of_getElem? (i := 107) rfl)
theorem w108 {Z : State} {a0 : Array Value} (K : Ok Z a0) : ((Jvm.Cond.static ({ cls := "java/lang/Integer", name := "numberOfTrailingZeros", desc := "(I)I" } : Jvm.MethodName))).before a0 Z = true := K.1 _ (List.mem_of_getElem? (i := 108) rfl)
theorem w109 {Z : State} {a0 : Array Value} (K : Ok Z a0) : ((Jvm.Cond.initialized "java/lang/Integer")).before a0 Z = true := K.1 _ (List.mem_of_getElem? (i := 109) rfl)
theorem w110 {Z : State} {a0 : Array Value} (K : Ok Z a0) : ((Jvm.Cond.code ({ cls := "java/lang/Integer", name := "numberOfTrailingZeros", desc := "(I)I" } : Jvm.MethodName) jdk_33_method_48_code (2 : Nat) (Option.some Jvm.ClassFile.FieldType.int))).before a0 Z = true := K.1 _ (List.mem_of_getElem? (i := 110) rfl)
theorem w111 {Z : State} {a0 : Array Value} (K : Ok Z a0) : ((Jvm.Cond.methodLink "java/math/MutableBigInteger" (108 : Nat) ({ cls := "java/math/MutableBigInteger", name := "rightShift", desc := "(I)V" } : Jvm.MethodName))).before a0 Z = true := K.1 _ (List.mem_of_getElem? (i := 111) rfl)
theorem w112 {Z : State} {a0 : Array Value} (K : Ok Z a0) : ((Jvm.Cond.declares ({ cls := "java/math/MutableBigInteger", name := "rightShift", desc := "(I)V" } : Jvm.MethodName))).before a0 Z = true := K.1 _ (List.mem_of_getElem? (i := 112) rfl)
theorem w113 {Z : State} {a0 : Array Value} (K : Ok Z a0) : ((Jvm.Cond.instanceMethod ({ cls := "java/math/MutableBigInteger", name := "rightShift", desc := "(I)V" } : Jvm.MethodName))).before a0 Z = true := K.1 _ (List.mem_of_getElem? (i := 113) rfl)
theorem w114 {Z : State} {a0 : Array Value} (K : Ok Z a0) : ((Jvm.Cond.selects "java/math/MutableBigInteger" ({ cls := "java/math/MutableBigInteger", name := "rightShift", desc := "(I)V" } : Jvm.MethodName) ({ cls := "java/math/MutableBigInteger", name := "rightShift", desc := "(I)V" } : Jvm.MethodName))).before a0 Z = true := K.1 _ (List.mem_of_getElem? (i := 114) rfl)
theorem w115 {Z : State} {a0 : Array Value} (K : Ok Z a0) : ((Jvm.Cond.code ({ cls := "java/math/MutableBigInteger", name := "rightShift", desc := "(I)V" } : Jvm.MethodName) jdk_2101_method_35_code (5 : Nat) (Option.none : Option Jvm.ClassFile.FieldType))).before a0 Z = true := K.1 _ (List.mem_of_getElem? (i := 115) rfl)
theorem w116 {Z : State} {a0 : Array Value} (K : Ok Z a0) : ((Jvm.Cond.methodLink "java/math/MutableBigInteger" (338 : Nat) ({ cls := "java/math/MutableBigInteger", name := "binaryGcd", desc := "(II)I" } : Jvm.MethodName))).before a0 Z = true := K.1 _ (List.mem_of_getElem? (i := 116) rfl)
theorem w117 {Z : State} {a0 : Array Value} (K : Ok Z a0) : ((Jvm.Cond.static ({ cls := "java/math/MutableBigInteger", name := "binaryGcd", desc := "(II)I" } : Jvm.MethodName))).before a0 Z = true := K.1 _ (List.mem_of_getElem? (i := 117) rfl)
theorem w118 {Z : State} {a0 : Array Value} (K : Ok Z a0) : ((Jvm.Cond.code ({ cls := "java/math/MutableBigInteger", name := "binaryGcd", desc := "(II)I" } : Jvm.MethodName) jdk_2101_method_74_code (5 : Nat) (Option.some Jvm.ClassFile.FieldType.int))).before a0 Z = true := K.1 _ (List.mem_of_getElem? (i := 118) rfl)
theorem w119 {Z : State} {a0 : Array Value} (K : Ok Z a0) : ((Jvm.Cond.constant "java/math/MutableBigInteger" (88 : Nat) (-2147483648 : Int32))).before a0 Z = true := K.1 _ (List.mem_of_getElem? (i := 119) rfl)
theorem w120 {Z : State} {a0 : Array Value} (K : Ok Z a0) : ((Jvm.Cond.constant "java/lang/Integer" (264 : Nat) (65536 : Int32))).before a0 Z = true := K.1 _ (List.mem_of_getElem? (i := 120) rfl)
theorem w121 {Z : State} {a0 : Array Value} (K : Ok Z a0) : ((Jvm.Cond.methodLink "java/math/BigInteger" (548 : Nat) ({ cls := "java/math/MutableBigInteger", name := "toBigInteger", desc := "(I)Ljava/math/BigInteger;" } : Jvm.MethodName))).before a0 Z = true := K.1 _ (List.mem_of_getElem? (i := 121) rfl)
theorem w122 {Z : State} {a0 : Array Value} (K : Ok Z a0) : ((Jvm.Cond.declares ({ cls := "java/math/MutableBigInteger", name := "toBigInteger", desc := "(I)Ljava/math/BigInteger;" } : Jvm.MethodName))).before a0 Z = true := K.1 _ (List.mem_of_getElem? (i := 122) rfl)
theorem w123 {Z : State} {a0 : Array Value} (K : Ok Z a0) : ((Jvm.Cond.instanceMethod ({ cls := "java/math/MutableBigInteger", name := "toBigInteger", desc := "(I)Ljava/math/BigInteger;" } : Jvm.MethodName))).before a0 Z = true := K.1 _ (List.mem_of_getElem? (i := 123) rfl)
theorem w124 {Z : State} {a0 : Array Value} (K : Ok Z a0) : ((Jvm.Cond.selects "java/math/MutableBigInteger" ({ cls := "java/math/MutableBigInteger", name := "toBigInteger", desc := "(I)Ljava/math/BigInteger;" } : Jvm.MethodName) ({ cls := "java/math/MutableBigInteger", name := "toBigInteger", desc := "(I)Ljava/math/BigInteger;" } : Jvm.MethodName))).before a0 Z = true := K.1 _ (List.mem_of_getElem? (i := 124) rfl)
theorem w125 {Z : State} {a0 : Array Value} (K : Ok Z a0) : ((Jvm.Cond.code ({ cls := "java/math/MutableBigInteger", name := "toBigInteger", desc := "(I)Ljava/math/BigInteger;" } : Jvm.MethodName) jdk_2101_method_9_code (2 : Nat) (Option.some (Jvm.ClassFile.FieldType.object "java/math/BigInteger")))).before a0 Z = true := K.1 _ (List.mem_of_getElem? (i := 125) rfl)
theorem w126 {Z : State} {a0 : Array Value} (K : Ok Z a0) : ((Jvm.Cond.classLink "java/math/MutableBigInteger" (1 : Nat) "java/math/BigInteger")).before a0 Z = true := K.1 _ (List.mem_of_getElem? (i := 126) rfl)
theorem w127 {Z : State} {a0 : Array Value} (K : Ok Z a0) : ((Jvm.Cond.instantiable "java/math/BigInteger" (6 : Nat))).before a0 Z = true := K.1 _ (List.mem_of_getElem? (i := 127) rfl)
theorem w128 {Z : State} {a0 : Array Value} (K : Ok Z a0) : ((Jvm.Cond.methodLink "java/math/MutableBigInteger" (58 : Nat) ({ cls := "java/math/MutableBigInteger", name := "getMagnitudeArray", desc := "()[I" } : Jvm.MethodName))).before a0 Z = true := K.1 _ (List.mem_of_getElem? (i := 128) rfl)
theorem w129 {Z : State} {a0 : Array Value} (K : Ok Z a0) : ((Jvm.Cond.instanceMethod ({ cls := "java/math/MutableBigInteger", name := "getMagnitudeArray", desc := "()[I" } : Jvm.MethodName))).before a0 Z = true := K.1 _ (List.mem_of_getElem? (i := 129) rfl)
theorem w131 {Z : State} {a0 : Array Value} (K : Ok Z a0) : ((Jvm.Cond.selects "java/math/MutableBigInteger" ({ cls := "java/math/MutableBigInteger", name := "getMagnitudeArray", desc := "()[I" } : Jvm.MethodName) ({ cls := "java/math/MutableBigInteger", name := "getMagnitudeArray", desc := "()[I" } : Jvm.MethodName))).before a0 Z = true := K.1 _ (List.mem_of_getElem? (i := 131) rfl)
theorem w132 {Z : State} {a0 : Array Value} (K : Ok Z a0) : ((Jvm.Cond.code ({ cls := "java/math/MutableBigInteger", name := "getMagnitudeArray", desc := "()[I" } : Jvm.MethodName) jdk_2101_method_7_code (2 : Nat) (Option.some (Jvm.ClassFile.FieldType.array Jvm.ClassFile.FieldType.int)))).before a0 Z = true := K.1 _ (List.mem_of_getElem? (i := 132) rfl)
theorem w133 {Z : State} {a0 : Array Value} (K : Ok Z a0) : ((Jvm.Cond.methodLink "java/math/MutableBigInteger" (62 : Nat) ({ cls := "java/math/BigInteger", name := "<init>", desc := "([II)V" } : Jvm.MethodName))).before a0 Z = true := K.1 _ (List.mem_of_getElem? (i := 133) rfl)
theorem w134 {Z : State} {a0 : Array Value} (K : Ok Z a0) : ((Jvm.Cond.instanceMethod ({ cls := "java/math/BigInteger", name := "<init>", desc := "([II)V" } : Jvm.MethodName))).before a0 Z = true := K.1 _ (List.mem_of_getElem? (i := 134) rfl)
theorem w135 {Z : State} {a0 : Array Value} (K : Ok Z a0) : ((Jvm.Cond.castable "java/math/BigInteger" "java/math/BigInteger")).before a0 Z = true := K.1 _ (List.mem_of_getElem? (i := 135) rfl)
theorem w136 {Z : State} {a0 : Array Value} (K : Ok Z a0) : ((Jvm.Cond.code ({ cls := "java/math/BigInteger", name := "<init>", desc := "([II)V" } : Jvm.MethodName) jdk_2097_method_25_code (3 : Nat) (Option.none : Option Jvm.ClassFile.FieldType))).before a0 Z = true := K.1 _ (List.mem_of_getElem? (i := 136) rfl)
theorem w137 {Z : State} {a0 : Array Value} (K : Ok Z a0) : ((Jvm.Cond.methodLink "java/math/BigInteger" (3 : Nat) ({ cls := "java/lang/Number", name := "<init>", desc := "()V" } : Jvm.MethodName))).before a0 Z = true := K.1 _ (List.mem_of_getElem? (i := 137) rfl)
theorem w138 {Z : State} {a0 : Array Value} (K : Ok Z a0) : ((Jvm.Cond.instanceMethod ({ cls := "java/lang/Number", name := "<init>", desc := "()V" } : Jvm.MethodName))).before a0 Z = true := K.1 _ (List.mem_of_getElem? (i := 138) rfl)
theorem w141 {Z : State} {a0 : Array Value} (K : Ok Z a0) : ((Jvm.Cond.initialized "java/lang/Number")).before a0 Z = true := K.1 _ (List.mem_of_getElem? (i := 141) rfl)
theorem w142 {Z : State} {a0 : Array Value} (K : Ok Z a0) : ((Jvm.Cond.code ({ cls := "java/lang/Number", name := "<init>", desc := "()V" } : Jvm.MethodName) jdk_18_method_1_code (1 : Nat) (Option.none : Option Jvm.ClassFile.FieldType))).before a0 Z = true := K.1 _ (List.mem_of_getElem? (i := 142) rfl)
theorem w143 {Z : State} {a0 : Array Value} (K : Ok Z a0) : ((Jvm.Cond.methodLink "java/lang/Number" (1 : Nat) ({ cls := "java/lang/Object", name := "<init>", desc := "()V" } : Jvm.MethodName))).before a0 Z = true := K.1 _ (List.mem_of_getElem? (i := 143) rfl)
theorem w144 {Z : State} {a0 : Array Value} (K : Ok Z a0) : ((Jvm.Cond.fieldLink "java/math/BigInteger" (28 : Nat) "java/math/BigInteger" "mag" "[I")).before a0 Z = true := K.1 _ (List.mem_of_getElem? (i := 144) rfl)
theorem w145 {Z : State} {a0 : Array Value} (K : Ok Z a0) : ((Jvm.Cond.constant "java/math/BigInteger" (43 : Nat) (67108864 : Int32))).before a0 Z = true := K.1 _ (List.mem_of_getElem? (i := 145) rfl)
theorem w146 {Z : State} {a0 : Array Value} (K : Ok Z a0) : ((Jvm.Cond.methodLink "com/example/locks_to_budgets/lockstobudgets/exact/Rational" (57 : Nat) ({ cls := "java/math/BigInteger", name := "divide", desc := "(Ljava/math/BigInteger;)Ljava/math/BigInteger;" } : Jvm.MethodName))).before a0 Z = true := K.1 _ (List.mem_of_getElem? (i := 146) rfl)
theorem w147 {Z : State} {a0 : Array Value} (K : Ok Z a0) : ((Jvm.Cond.declares ({ cls := "java/math/BigInteger", name := "divide", desc := "(Ljava/math/BigInteger;)Ljava/math/BigInteger;" } : Jvm.MethodName))).before a0 Z = true := K.1 _ (List.mem_of_getElem? (i := 147) rfl)
theorem w148 {Z : State} {a0 : Array Value} (K : Ok Z a0) : ((Jvm.Cond.instanceMethod ({ cls := "java/math/BigInteger", name := "divide", desc := "(Ljava/math/BigInteger;)Ljava/math/BigInteger;" } : Jvm.MethodName))).before a0 Z = true := K.1 _ (List.mem_of_getElem? (i := 148) rfl)
theorem w149 {Z : State} {a0 : Array Value} (K : Ok Z a0) : ((Jvm.Cond.selects "java/math/BigInteger" ({ cls := "java/math/BigInteger", name := "divide", desc := "(Ljava/math/BigInteger;)Ljava/math/BigInteger;" } : Jvm.MethodName) ({ cls := "java/math/BigInteger", name := "divide", desc := "(Ljava/math/BigInteger;)Ljava/math/BigInteger;" } : Jvm.MethodName))).before a0 Z = true := K.1 _ (List.mem_of_getElem? (i := 149) rfl)
theorem w150 {Z : State} {a0 : Array Value} (K : Ok Z a0) : ((Jvm.Cond.code ({ cls := "java/math/BigInteger", name := "divide", desc := "(Ljava/math/BigInteger;)Ljava/math/BigInteger;" } : Jvm.MethodName) jdk_2097_method_61_code (2 : Nat) (Option.some (Jvm.ClassFile.FieldType.object "java/math/BigInteger")))).before a0 Z = true := K.1 _ (List.mem_of_getElem? (i := 150) rfl)
theorem w151 {Z : State} {a0 : Array Value} (K : Ok Z a0) : ((Jvm.Cond.methodLink "java/math/BigInteger" (535 : Nat) ({ cls := "java/math/BigInteger", name := "divideKnuth", desc := "(Ljava/math/BigInteger;)Ljava/math/BigInteger;" } : Jvm.MethodName))).before a0 Z = true := K.1 _ (List.mem_of_getElem? (i := 151) rfl)
theorem w152 {Z : State} {a0 : Array Value} (K : Ok Z a0) : ((Jvm.Cond.instanceMethod ({ cls := "java/math/BigInteger", name := "divideKnuth", desc := "(Ljava/math/BigInteger;)Ljava/math/BigInteger;" } : Jvm.MethodName))).before a0 Z = true := K.1 _ (List.mem_of_getElem? (i := 152) rfl)
theorem w154 {Z : State} {a0 : Array Value} (K : Ok Z a0) : ((Jvm.Cond.selects "java/math/BigInteger" ({ cls := "java/math/BigInteger", name := "divideKnuth", desc := "(Ljava/math/BigInteger;)Ljava/math/BigInteger;" } : Jvm.MethodName) ({ cls := "java/math/BigInteger", name := "divideKnuth", desc := "(Ljava/math/BigInteger;)Ljava/math/BigInteger;" } : Jvm.MethodName))).before a0 Z = true := K.1 _ (List.mem_of_getElem? (i := 154) rfl)
theorem w155 {Z : State} {a0 : Array Value} (K : Ok Z a0) : ((Jvm.Cond.code ({ cls := "java/math/BigInteger", name := "divideKnuth", desc := "(Ljava/math/BigInteger;)Ljava/math/BigInteger;" } : Jvm.MethodName) jdk_2097_method_62_code (5 : Nat) (Option.some (Jvm.ClassFile.FieldType.object "java/math/BigInteger")))).before a0 Z = true := K.1 _ (List.mem_of_getElem? (i := 155) rfl)
theorem w156 {Z : State} {a0 : Array Value} (K : Ok Z a0) : ((Jvm.Cond.methodLink "java/math/BigInteger" (543 : Nat) ({ cls := "java/math/MutableBigInteger", name := "<init>", desc := "()V" } : Jvm.MethodName))).before a0 Z = true := K.1 _ (List.mem_of_getElem? (i := 156) rfl)
theorem w157 {Z : State} {a0 : Array Value} (K : Ok Z a0) : ((Jvm.Cond.methodLink "java/math/BigInteger" (544 : Nat) ({ cls := "java/math/MutableBigInteger", name := "<init>", desc := "([I)V" } : Jvm.MethodName))).before a0 Z = true := K.1 _ (List.mem_of_getElem? (i := 157) rfl)
theorem w158 {Z : State} {a0 : Array Value} (K : Ok Z a0) : ((Jvm.Cond.instanceMethod ({ cls := "java/math/MutableBigInteger", name := "<init>", desc := "([I)V" } : Jvm.MethodName))).before a0 Z = true := K.1 _ (List.mem_of_getElem? (i := 158) rfl)
theorem w159 {Z : State} {a0 : Array Value} (K : Ok Z a0) : ((Jvm.Cond.code ({ cls := "java/math/MutableBigInteger", name := "<init>", desc := "([I)V" } : Jvm.MethodName) jdk_2101_method_3_code (2 : Nat) (Option.none : Option Jvm.ClassFile.FieldType))).before a0 Z = true := K.1 _ (List.mem_of_getElem? (i := 159) rfl)
theorem w160 {Z : State} {a0 : Array Value} (K : Ok Z a0) : ((Jvm.Cond.methodLink "java/math/BigInteger" (545 : Nat) ({ cls := "java/math/MutableBigInteger", name := "divideKnuth", desc := "(Ljava/math/MutableBigInteger;Ljava/math/MutableBigInteger;Z)Ljava/math/MutableBigInteger;" } : Jvm.MethodName))).before a0 Z = true := K.1 _ (List.mem_of_getElem? (i := 160) rfl)
theorem w161 {Z : State} {a0 : Array Value} (K : Ok Z a0) : ((Jvm.Cond.declares ({ cls := "java/math/MutableBigInteger", name := "divideKnuth", desc := "(Ljava/math/MutableBigInteger;Ljava/math/MutableBigInteger;Z)Ljava/math/MutableBigInteger;" } : Jvm.MethodName))).before a0 Z = true := K.1 _ (List.mem_of_getElem? (i := 161) rfl)
theorem w162 {Z : State} {a0 : Array Value} (K : Ok Z a0) : ((Jvm.Cond.instanceMethod ({ cls := "java/math/MutableBigInteger", name := "divideKnuth", desc := "(Ljava/math/MutableBigInteger;Ljava/math/MutableBigInteger;Z)Ljava/math/MutableBigInteger;" } : Jvm.MethodName))).before a0 Z = true := K.1 _ (List.mem_of_getElem? (i := 162) rfl)
theorem w163 {Z : State} {a0 : Array Value} (K : Ok Z a0) : ((Jvm.Cond.selects "java/math/MutableBigInteger" ({ cls := "java/math/MutableBigInteger", name := "divideKnuth", desc := "(Ljava/math/MutableBigInteger;Ljava/math/MutableBigInteger;Z)Ljava/math/MutableBigInteger;" } : Jvm.MethodName) ({ cls := "java/math/MutableBigInteger", name := "divideKnuth", desc := "(Ljava/math/MutableBigInteger;Ljava/math/MutableBigInteger;Z)Ljava/math/MutableBigInteger;" } : Jvm.MethodName))).before a0 Z = true := K.1 _ (List.mem_of_getElem? (i := 163) rfl)
theorem w164 {Z : State} {a0 : Array Value} (K : Ok Z a0) : ((Jvm.Cond.code ({ cls := "java/math/MutableBigInteger", name := "divideKnuth", desc := "(Ljava/math/MutableBigInteger;Ljava/math/MutableBigInteger;Z)Ljava/math/MutableBigInteger;" } : Jvm.MethodName) jdk_2101_method_57_code (8 : Nat) (Option.some (Jvm.ClassFile.FieldType.object "java/math/MutableBigInteger")))).before a0 Z = true := K.1 _ (List.mem_of_getElem? (i := 164) rfl)
theorem w165 {Z : State} {a0 : Array Value} (K : Ok Z a0) : ((Jvm.Cond.methodLink "java/math/MutableBigInteger" (142 : Nat) ({ cls := "java/math/MutableBigInteger", name := "compare", desc := "(Ljava/math/MutableBigInteger;)I" } : Jvm.MethodName))).before a0 Z = true := K.1 _ (List.mem_of_getElem? (i := 165) rfl)
theorem w166 {Z : State} {a0 : Array Value} (K : Ok Z a0) : ((Jvm.Cond.declares ({ cls := "java/math/MutableBigInteger", name := "compare", desc := "(Ljava/math/MutableBigInteger;)I" } : Jvm.MethodName))).before a0 Z = true := K.1 _ (List.mem_of_getElem? (i := 166) rfl)
theorem w167 {Z : State} {a0 : Array Value} (K : Ok Z a0) : ((Jvm.Cond.instanceMethod ({ cls := "java/math/MutableBigInteger", name := "compare", desc := "(Ljava/math/MutableBigInteger;)I" } : Jvm.MethodName))).before a0 Z = true := K.1 _ (List.mem_of_getElem? (i := 167) rfl)
theorem w168 {Z : State} {a0 : Array Value} (K : Ok Z a0) : ((Jvm.Cond.selects "java/math/MutableBigInteger" ({ cls := "java/math/MutableBigInteger", name := "compare", desc := "(Ljava/math/MutableBigInteger;)I" } : Jvm.MethodName) ({ cls := "java/math/MutableBigInteger", name := "compare", desc := "(Ljava/math/MutableBigInteger;)I" } : Jvm.MethodName))).before a0 Z = true := K.1 _ (List.mem_of_getElem? (i := 168) rfl)
theorem w169 {Z : State} {a0 : Array Value} (K : Ok Z a0) : ((Jvm.Cond.code ({ cls := "java/math/MutableBigInteger", name := "compare", desc := "(Ljava/math/MutableBigInteger;)I" } : Jvm.MethodName) jdk_2101_method_15_code (8 : Nat) (Option.some Jvm.ClassFile.FieldType.int))).before a0 Z = true := K.1 _ (List.mem_of_getElem? (i := 169) rfl)
theorem w170 {Z : State} {a0 : Array Value} (K : Ok Z a0) : ((Jvm.Cond.methodLink "java/math/MutableBigInteger" (149 : Nat) ({ cls := "java/math/MutableBigInteger", name := "clear", desc := "()V" } : Jvm.MethodName))).before a0 Z = true := K.1 _ (List.mem_of_getElem? (i := 170) rfl)
theorem w171 {Z : State} {a0 : Array Value} (K : Ok Z a0) : ((Jvm.Cond.declares ({ cls := "java/math/MutableBigInteger", name := "clear", desc := "()V" } : Jvm.MethodName))).before a0 Z = true := K.1 _ (List.mem_of_getElem? (i := 171) rfl)
theorem w172 {Z : State} {a0 : Array Value} (K : Ok Z a0) : ((Jvm.Cond.instanceMethod ({ cls := "java/math/MutableBigInteger", name := "clear", desc := "()V" } : Jvm.MethodName))).before a0 Z = true := K.1 _ (List.mem_of_getElem? (i := 172) rfl)
theorem w173 {Z : State} {a0 : Array Value} (K : Ok Z a0) : ((Jvm.Cond.selects "java/math/MutableBigInteger" ({ cls := "java/math/MutableBigInteger", name := "clear", desc := "()V" } : Jvm.MethodName) ({ cls := "java/math/MutableBigInteger", name := "clear", desc := "()V" } : Jvm.MethodName))).before a0 Z = true := K.1 _ (List.mem_of_getElem? (i := 173) rfl)
theorem w174 {Z : State} {a0 : Array Value} (K : Ok Z a0) : ((Jvm.Cond.code ({ cls := "java/math/MutableBigInteger", name := "clear", desc := "()V" } : Jvm.MethodName) jdk_2101_method_13_code (3 : Nat) (Option.none : Option Jvm.ClassFile.FieldType))).before a0 Z = true := K.1 _ (List.mem_of_getElem? (i := 174) rfl)
theorem w175 {Z : State} {a0 : Array Value} (K : Ok Z a0) : ((Jvm.Cond.methodLink "java/math/MutableBigInteger" (178 : Nat) ({ cls := "java/math/MutableBigInteger", name := "divideOneWord", desc := "(ILjava/math/MutableBigInteger;)I" } : Jvm.MethodName))).before a0 Z = true := K.1 _ (List.mem_of_getElem? (i := 175) rfl)
theorem w176 {Z : State} {a0 : Array Value} (K : Ok Z a0) : ((Jvm.Cond.declares ({ cls := "java/math/MutableBigInteger", name := "divideOneWord", desc := "(ILjava/math/MutableBigInteger;)I" } : Jvm.MethodName))).before a0 Z = true := K.1 _ (List.mem_of_getElem? (i := 176) rfl)
theorem w177 {Z : State} {a0 : Array Value} (K : Ok Z a0) : ((Jvm.Cond.instanceMethod ({ cls := "java/math/MutableBigInteger", name := "divideOneWord", desc := "(ILjava/math/MutableBigInteger;)I" } : Jvm.MethodName))).before a0 Z = true := K.1 _ (List.mem_of_getElem? (i := 177) rfl)
theorem w178 {Z : State} {a0 : Array Value} (K : Ok Z a0) : ((Jvm.Cond.selects "java/math/MutableBigInteger" ({ cls := "java/math/MutableBigInteger", name := "divideOneWord", desc := "(ILjava/math/MutableBigInteger;)I" } : Jvm.MethodName) ({ cls := "java/math/MutableBigInteger", name := "divideOneWord", desc := "(ILjava/math/MutableBigInteger;)I" } : Jvm.MethodName))).before a0 Z = true := K.1 _ (List.mem_of_getElem? (i := 178) rfl)
theorem w179 {Z : State} {a0 : Array Value} (K : Ok Z a0) : ((Jvm.Cond.code ({ cls := "java/math/MutableBigInteger", name := "divideOneWord", desc := "(ILjava/math/MutableBigInteger;)I" } : Jvm.MethodName) jdk_2101_method_53_code (15 : Nat) (Option.some Jvm.ClassFile.FieldType.int))).before a0 Z = true := K.1 _ (List.mem_of_getElem? (i := 179) rfl)
theorem w180 {Z : State} {a0 : Array Value} (K : Ok Z a0) : ((Jvm.Cond.constantLong "java/math/MutableBigInteger" (52 : Nat) (4294967295 : Int64))).before a0 Z = true := K.1 _ (List.mem_of_getElem? (i := 180) rfl)
theorem w181 {Z : State} {a0 : Array Value} (K : Ok Z a0) : ((Jvm.Cond.methodLink "com/example/locks_to_budgets/lockstobudgets/exact/Rational" (60 : Nat) ({ cls := "java/math/BigInteger", name := "multiply", desc := "(Ljava/math/BigInteger;)Ljava/math/BigInteger;" } : Jvm.MethodName))).before a0 Z = true := K.1 _ (List.mem_of_getElem? (i := 181) rfl)
theorem w182 {Z : State} {a0 : Array Value} (K : Ok Z a0) : ((Jvm.Cond.declares ({ cls := "java/math/BigInteger", name := "multiply", desc := "(Ljava/math/BigInteger;)Ljava/math/BigInteger;" } : Jvm.MethodName))).before a0 Z = true := K.1 _ (List.mem_of_getElem? (i := 182) rfl)
theorem w183 {Z : State} {a0 : Array Value} (K : Ok Z a0) : ((Jvm.Cond.instanceMethod ({ cls := "java/math/BigInteger", name := "multiply", desc := "(Ljava/math/BigInteger;)Ljava/math/BigInteger;" } : Jvm.MethodName))).before a0 Z = true := K.1 _ (List.mem_of_getElem? (i := 183) rfl)
theorem w184 {Z : State} {a0 : Array Value} (K : Ok Z a0) : ((Jvm.Cond.selects "java/math/BigInteger" ({ cls := "java/math/BigInteger", name := "multiply", desc := "(Ljava/math/BigInteger;)Ljava/math/BigInteger;" } : Jvm.MethodName) ({ cls := "java/math/BigInteger", name := "multiply", desc := "(Ljava/math/BigInteger;)Ljava/math/BigInteger;" } : Jvm.MethodName))).before a0 Z = true := K.1 _ (List.mem_of_getElem? (i := 184) rfl)
theorem w185 {Z : State} {a0 : Array Value} (K : Ok Z a0) : ((Jvm.Cond.code ({ cls := "java/math/BigInteger", name := "multiply", desc := "(Ljava/math/BigInteger;)Ljava/math/BigInteger;" } : Jvm.MethodName) jdk_2097_method_40_code (2 : Nat) (Option.some (Jvm.ClassFile.FieldType.object "java/math/BigInteger")))).before a0 Z = true := K.1 _ (List.mem_of_getElem? (i := 185) rfl)
theorem w186 {Z : State} {a0 : Array Value} (K : Ok Z a0) : ((Jvm.Cond.methodLink "java/math/BigInteger" (397 : Nat) ({ cls := "java/math/BigInteger", name := "multiply", desc := "(Ljava/math/BigInteger;ZZI)Ljava/math/BigInteger;" } : Jvm.MethodName))).before a0 Z = true := K.1 _ (List.mem_of_getElem? (i := 186) rfl)
theorem w187 {Z : State} {a0 : Array Value} (K : Ok Z a0) : ((Jvm.Cond.instanceMethod ({ cls := "java/math/BigInteger", name := "multiply", desc := "(Ljava/math/BigInteger;ZZI)Ljava/math/BigInteger;" } : Jvm.MethodName))).before a0 Z = true := K.1 _ (List.mem_of_getElem? (i := 187) rfl)
theorem w189 {Z : State} {a0 : Array Value} (K : Ok Z a0) : ((Jvm.Cond.selects "java/math/BigInteger" ({ cls := "java/math/BigInteger", name := "multiply", desc := "(Ljava/math/BigInteger;ZZI)Ljava/math/BigInteger;" } : Jvm.MethodName) ({ cls := "java/math/BigInteger", name := "multiply", desc := "(Ljava/math/BigInteger;ZZI)Ljava/math/BigInteger;" } : Jvm.MethodName))).before a0 Z = true := K.1 _ (List.mem_of_getElem? (i := 189) rfl)
theorem w190 {Z : State} {a0 : Array Value} (K : Ok Z a0) : ((Jvm.Cond.code ({ cls := "java/math/BigInteger", name := "multiply", desc := "(Ljava/math/BigInteger;ZZI)Ljava/math/BigInteger;" } : Jvm.MethodName) jdk_2097_method_42_code (9 : Nat) (Option.some (Jvm.ClassFile.FieldType.object "java/math/BigInteger")))).before a0 Z = true := K.1 _ (List.mem_of_getElem? (i := 190) rfl)
theorem w191 {Z : State} {a0 : Array Value} (K : Ok Z a0) : ((Jvm.Cond.methodLink "java/math/BigInteger" (403 : Nat) ({ cls := "java/math/BigInteger", name := "multiplyByInt", desc := "([III)Ljava/math/BigInteger;" } : Jvm.MethodName))).before a0 Z = true := K.1 _ (List.mem_of_getElem? (i := 191) rfl)
theorem w192 {Z : State} {a0 : Array Value} (K : Ok Z a0) : ((Jvm.Cond.static ({ cls := "java/math/BigInteger", name := "multiplyByInt", desc := "([III)Ljava/math/BigInteger;" } : Jvm.MethodName))).before a0 Z = true := K.1 _ (List.mem_of_getElem? (i := 192) rfl)
theorem w193 {Z : State} {a0 : Array Value} (K : Ok Z a0) : ((Jvm.Cond.code ({ cls := "java/math/BigInteger", name := "multiplyByInt", desc := "([III)Ljava/math/BigInteger;" } : Jvm.MethodName) jdk_2097_method_43_code (13 : Nat) (Option.some (Jvm.ClassFile.FieldType.object "java/math/BigInteger")))).before a0 Z = true := K.1 _ (List.mem_of_getElem? (i := 193) rfl)
theorem w194 {Z : State} {a0 : Array Value} (K : Ok Z a0) : ((Jvm.Cond.methodLink "java/math/BigInteger" (423 : Nat) ({ cls := "java/lang/Integer", name := "bitCount", desc := "(I)I" } : Jvm.MethodName))).before a0 Z = true := K.1 _ (List.mem_of_getElem? (i := 194) rfl)
theorem w195 {Z : State} {a0 : Array Value} (K : Ok Z a0) : ((Jvm.Cond.static ({ cls := "java/lang/Integer", name := "bitCount", desc := "(I)I" } : Jvm.MethodName))).before a0 Z = true := K.1 _ (List.mem_of_getElem? (i := 195) rfl)
theorem w196 {Z : State} {a0 : Array Value} (K : Ok Z a0) : ((Jvm.Cond.code ({ cls := "java/lang/Integer", name := "bitCount", desc := "(I)I" } : Jvm.MethodName) jdk_33_method_49_code (1 : Nat) (Option.some Jvm.ClassFile.FieldType.int))).before a0 Z = true := K.1 _ (List.mem_of_getElem? (i := 196) rfl)
theorem w197 {Z : State} {a0 : Array Value} (K : Ok Z a0) : ((Jvm.Cond.constant "java/lang/Integer" (265 : Nat) (1431655765 : Int32))).before a0 Z = true := K.1 _ (List.mem_of_getElem? (i := 197) rfl)
theorem w198 {Z : State} {a0 : Array Value} (K : Ok Z a0) : ((Jvm.Cond.constant "java/lang/Integer" (266 : Nat) (858993459 : Int32))).before a0 Z = true := K.1 _ (List.mem_of_getElem? (i := 198) rfl)
theorem w199 {Z : State} {a0 : Array Value} (K : Ok Z a0) : ((Jvm.Cond.constant "java/lang/Integer" (267 : Nat) (252645135 : Int32))).before a0 Z = true := K.1 _ (List.mem_of_getElem? (i := 199) rfl)
theorem w200 {Z : State} {a0 : Array Value} (K : Ok Z a0) : ((Jvm.Cond.classLink "java/math/BigInteger" (23 : Nat) "java/math/BigInteger")).before a0 Z = true := K.1 _ (List.mem_of_getElem? (i := 200) rfl)
theorem w201 {Z : State} {a0 : Array Value} (K : Ok Z a0) : ((Jvm.Cond.methodLink "java/math/BigInteger" (426 : Nat) ({ cls := "java/lang/Integer", name := "numberOfTrailingZeros", desc := "(I)I" } : Jvm.MethodName))).before a0 Z = true := K.1 _ (List.mem_of_getElem? (i := 201) rfl)
theorem w202 {Z : State} {a0 : Array Value} (K : Ok Z a0) : ((Jvm.Cond.methodLink "java/math/BigInteger" (429 : Nat) ({ cls := "java/math/BigInteger", name := "shiftLeft", desc := "([II)[I" } : Jvm.MethodName))).before a0 Z = true := K.1 _ (List.mem_of_getElem? (i := 202) rfl)
theorem w203 {Z : State} {a0 : Array Value} (K : Ok Z a0) : ((Jvm.Cond.static ({ cls := "java/math/BigInteger", name := "shiftLeft", desc := "([II)[I" } : Jvm.MethodName))).before a0 Z = true := K.1 _ (List.mem_of_getElem? (i := 203) rfl)
theorem w204 {Z : State} {a0 : Array Value} (K : Ok Z a0) : ((Jvm.Cond.code ({ cls := "java/math/BigInteger", name := "shiftLeft", desc := "([II)[I" } : Jvm.MethodName) jdk_2097_method_102_code (10 : Nat) (Option.some (Jvm.ClassFile.FieldType.array Jvm.ClassFile.FieldType.int)))).before a0 Z = true := K.1 _ (List.mem_of_getElem? (i := 204) rfl)
theorem w205 {Z : State} {a0 : Array Value} (K : Ok Z a0) : ((Jvm.Cond.methodLink "java/math/BigInteger" (388 : Nat) ({ cls := "java/lang/System", name := "arraycopy", desc := "(Ljava/lang/Object;ILjava/lang/Object;II)V" } : Jvm.MethodName))).before a0 Z = true := K.1 _ (List.mem_of_getElem? (i := 205) rfl)
theorem w206 {Z : State} {a0 : Array Value} (K : Ok Z a0) : ((Jvm.Cond.static ({ cls := "java/lang/System", name := "arraycopy", desc := "(Ljava/lang/Object;ILjava/lang/Object;II)V" } : Jvm.MethodName))).before a0 Z = true := K.1 _ (List.mem_of_getElem? (i := 206) rfl)
theorem w207 {Z : State} {a0 : Array Value} (K : Ok Z a0) : ((Jvm.Cond.initialized "java/lang/System")).before a0 Z = true := K.1 _ (List.mem_of_getElem? (i := 207) rfl)
theorem w208 {Z : State} {a0 : Array Value} (K : Ok Z a0) : ((Jvm.Cond.native ({ cls := "java/lang/System", name := "arraycopy", desc := "(Ljava/lang/Object;ILjava/lang/Object;II)V" } : Jvm.MethodName))).before a0 Z = true := K.1 _ (List.mem_of_getElem? (i := 208) rfl)
theorem w209 {Z : State} {a0 : Array Value} (K : Ok Z a0) : ((Jvm.Cond.methodLink "java/math/BigInteger" (175 : Nat) ({ cls := "java/math/BigInteger", name := "<init>", desc := "([II)V" } : Jvm.MethodName))).before a0 Z = true := K.1 _ (List.mem_of_getElem? (i := 209) rfl)
theorem w210 {Z : State} {a0 : Array Value} (K : Ok Z a0) : ((Jvm.Cond.methodLink "com/example/locks_to_budgets/lockstobudgets/exact/RationalOfPinLaw" (16 : Nat) ({ cls := "com/example/locks_to_budgets/lockstobudgets/exact/Rational", name := "equals", desc := "(Ljava/lang/Object;)Z" } : Jvm.MethodName))).before a0 Z = true := K.1 _ (List.mem_of_getElem? (i := 210) rfl)
theorem w211 {Z : State} {a0 : Array Value} (K : Ok Z a0) : ((Jvm.Cond.declares ({ cls := "com/example/locks_to_budgets/lockstobudgets/exact/Rational", name := "equals", desc := "(Ljava/lang/Object;)Z" } : Jvm.MethodName))).before a0 Z = true := K.1 _ (List.mem_of_getElem? (i := 211) rfl)
theorem w212 {Z : State} {a0 : Array Value} (K : Ok Z a0) : ((Jvm.Cond.instanceMethod ({ cls := "com/example/locks_to_budgets/lockstobudgets/exact/Rational", name := "equals", desc := "(Ljava/lang/Object;)Z" } : Jvm.MethodName))).before a0 Z = true := K.1 _ (List.mem_of_getElem? (i := 212) rfl)
theorem w213 {Z : State} {a0 : Array Value} (K : Ok Z a0) : ((Jvm.Cond.selects "com/example/locks_to_budgets/lockstobudgets/exact/Rational" ({ cls := "com/example/locks_to_budgets/lockstobudgets/exact/Rational", name := "equals", desc := "(Ljava/lang/Object;)Z" } : Jvm.MethodName) ({ cls := "com/example/locks_to_budgets/lockstobudgets/exact/Rational", name := "equals", desc := "(Ljava/lang/Object;)Z" } : Jvm.MethodName))).before a0 Z = true := K.1 _ (List.mem_of_getElem? (i := 213) rfl)
theorem w214 {Z : State} {a0 : Array Value} (K : Ok Z a0) : ((Jvm.Cond.code ({ cls := "com/example/locks_to_budgets/lockstobudgets/exact/Rational", name := "equals", desc := "(Ljava/lang/Object;)Z" } : Jvm.MethodName) prog_21_method_26_code (3 : Nat) (Option.some Jvm.ClassFile.FieldType.boolean))).before a0 Z = true := K.1 _ (List.mem_of_getElem? (i := 214) rfl)
theorem w215 {Z : State} {a0 : Array Value} (K : Ok Z a0) : ((Jvm.Cond.castable "com/example/locks_to_budgets/lockstobudgets/exact/Rational" "com/example/locks_to_budgets/lockstobudgets/exact/Rational")).before a0 Z = true := K.1 _ (List.mem_of_getElem? (i := 215) rfl)
theorem w216 {Z : State} {a0 : Array Value} (K : Ok Z a0) : ((Jvm.Cond.methodLink "com/example/locks_to_budgets/lockstobudgets/exact/Rational" (165 : Nat) ({ cls := "java/math/BigInteger", name := "equals", desc := "(Ljava/lang/Object;)Z" } : Jvm.MethodName))).before a0 Z = true := K.1 _ (List.mem_of_getElem? (i := 216) rfl)
theorem w217 {Z : State} {a0 : Array Value} (K : Ok Z a0) : ((Jvm.Cond.declares ({ cls := "java/math/BigInteger", name := "equals", desc := "(Ljava/lang/Object;)Z" } : Jvm.MethodName))).before a0 Z = true := K.1 _ (List.mem_of_getElem? (i := 217) rfl)
theorem w218 {Z : State} {a0 : Array Value} (K : Ok Z a0) : ((Jvm.Cond.instanceMethod ({ cls := "java/math/BigInteger", name := "equals", desc := "(Ljava/lang/Object;)Z" } : Jvm.MethodName))).before a0 Z = true := K.1 _ (List.mem_of_getElem? (i := 218) rfl)
theorem w219 {Z : State} {a0 : Array Value} (K : Ok Z a0) : ((Jvm.Cond.selects "java/math/BigInteger" ({ cls := "java/math/BigInteger", name := "equals", desc := "(Ljava/lang/Object;)Z" } : Jvm.MethodName) ({ cls := "java/math/BigInteger", name := "equals", desc := "(Ljava/lang/Object;)Z" } : Jvm.MethodName))).before a0 Z = true := K.1 _ (List.mem_of_getElem? (i := 219) rfl)
theorem w220 {Z : State} {a0 : Array Value} (K : Ok Z a0) : ((Jvm.Cond.code ({ cls := "java/math/BigInteger", name := "equals", desc := "(Ljava/lang/Object;)Z" } : Jvm.MethodName) jdk_2097_method_124_code (7 : Nat) (Option.some Jvm.ClassFile.FieldType.boolean))).before a0 Z = true := K.1 _ (List.mem_of_getElem? (i := 220) rfl)
theorem w221 {Z : State} {a0 : Array Value} (K : Ok Z a0) : ((Jvm.Cond.methodLink "com/example/locks_to_budgets/lockstobudgets/exact/RationalOfPinLaw" (20 : Nat) ({ cls := "com/example/locks_to_budgets/lockstobudgets/exact/Rational", name := "isInteger", desc := "()Z" } : Jvm.MethodName))).before a0 Z = true := K.1 _ (List.mem_of_getElem? (i := 221) rfl)
theorem w222 {Z : State} {a0 : Array Value} (K : Ok Z a0) : ((Jvm.Cond.declares ({ cls := "com/example/locks_to_budgets/lockstobudgets/exact/Rational", name := "isInteger", desc := "()Z" } : Jvm.MethodName))).before a0 Z = true := K.1 _ (List.mem_of_getElem? (i := 222) rfl)
theorem w223 {Z : State} {a0 : Array Value} (K : Ok Z a0) : ((Jvm.Cond.instanceMethod ({ cls := "com/example/locks_to_budgets/lockstobudgets/exact/Rational", name := "isInteger", desc := "()Z" } : Jvm.MethodName))).before a0 Z = true := K.1 _ (List.mem_of_getElem? (i := 223) rfl)
theorem w224 {Z : State} {a0 : Array Value} (K : Ok Z a0) : ((Jvm.Cond.selects "com/example/locks_to_budgets/lockstobudgets/exact/Rational" ({ cls := "com/example/locks_to_budgets/lockstobudgets/exact/Rational", name := "isInteger", desc := "()Z" } : Jvm.MethodName) ({ cls := "com/example/locks_to_budgets/lockstobudgets/exact/Rational", name := "isInteger", desc := "()Z" } : Jvm.MethodName))).before a0 Z = true := K.1 _ (List.mem_of_getElem? (i := 224) rfl)
theorem w225 {Z : State} {a0 : Array Value} (K : Ok Z a0) : ((Jvm.Cond.code ({ cls := "com/example/locks_to_budgets/lockstobudgets/exact/Rational", name := "isInteger", desc := "()Z" } : Jvm.MethodName) prog_21_method_17_code (1 : Nat) (Option.some Jvm.ClassFile.FieldType.boolean))).before a0 Z = true := K.1 _ (List.mem_of_getElem? (i := 225) rfl)
theorem w226 {Z : State} {a0 : Array Value} (K : Ok Z a0) : ((Jvm.Cond.methodLink "com/example/locks_to_budgets/lockstobudgets/exact/RationalOfPinLaw" (24 : Nat) ({ cls := "com/example/locks_to_budgets/lockstobudgets/exact/Rational", name := "signum", desc := "()I" } : Jvm.MethodName))).before a0 Z = true := K.1 _ (List.mem_of_getElem? (i := 226) rfl)
theorem w227 {Z : State} {a0 : Array Value} (K : Ok Z a0) : ((Jvm.Cond.declares ({ cls := "com/example/locks_to_budgets/lockstobudgets/exact/Rational", name := "signum", desc := "()I" } : Jvm.MethodName))).before a0 Z = true := K.1 _ (List.mem_of_getElem? (i := 227) rfl)
theorem w228 {Z : State} {a0 : Array Value} (K : Ok Z a0) : ((Jvm.Cond.instanceMethod ({ cls := "com/example/locks_to_budgets/lockstobudgets/exact/Rational", name := "signum", desc := "()I" } : Jvm.MethodName))).before a0 Z = true := K.1 _ (List.mem_of_getElem? (i := 228) rfl)
theorem w229 {Z : State} {a0 : Array Value} (K : Ok Z a0) : ((Jvm.Cond.selects "com/example/locks_to_budgets/lockstobudgets/exact/Rational" ({ cls := "com/example/locks_to_budgets/lockstobudgets/exact/Rational", name := "signum", desc := "()I" } : Jvm.MethodName) ({ cls := "com/example/locks_to_budgets/lockstobudgets/exact/Rational", name := "signum", desc := "()I" } : Jvm.MethodName))).before a0 Z = true := K.1 _ (List.mem_of_getElem? (i := 229) rfl)
theorem w230 {Z : State} {a0 : Array Value} (K : Ok Z a0) : ((Jvm.Cond.code ({ cls := "com/example/locks_to_budgets/lockstobudgets/exact/Rational", name := "signum", desc := "()I" } : Jvm.MethodName) prog_21_method_16_code (1 : Nat) (Option.some Jvm.ClassFile.FieldType.int))).before a0 Z = true := K.1 _ (List.mem_of_getElem? (i := 230) rfl)
theorem w231 {Z : State} {a0 : Array Value} (K : Ok Z a0) : ((Jvm.Cond.methodLink "com/example/locks_to_budgets/lockstobudgets/exact/RationalOfPinLaw" (28 : Nat) ({ cls := "com/example/locks_to_budgets/lockstobudgets/exact/Rational", name := "compareTo", desc := "(Lcom/example/locks_to_budgets/lockstobudgets/exact/Rational;)I" } : Jvm.MethodName))).before a0 Z = true := K.1 _ (List.mem_of_getElem? (i := 231) rfl)
theorem w232 {Z : State} {a0 : Array Value} (K : Ok Z a0) : ((Jvm.Cond.declares ({ cls := "com/example/locks_to_budgets/lockstobudgets/exact/Rational", name := "compareTo", desc := "(Lcom/example/locks_to_budgets/lockstobudgets/exact/Rational;)I" } : Jvm.MethodName))).before a0 Z = true := K.1 _ (List.mem_of_getElem? (i := 232) rfl)
theorem w233 {Z : State} {a0 : Array Value} (K : Ok Z a0) : ((Jvm.Cond.instanceMethod ({ cls := "com/example/locks_to_budgets/lockstobudgets/exact/Rational", name := "compareTo", desc := "(Lcom/example/locks_to_budgets/lockstobudgets/exact/Rational;)I" } : Jvm.MethodName))).before a0 Z = true := K.1 _ (List.mem_of_getElem? (i := 233) rfl)
theorem w234 {Z : State} {a0 : Array Value} (K : Ok Z a0) : ((Jvm.Cond.selects "com/example/locks_to_budgets/lockstobudgets/exact/Rational" ({ cls := "com/example/locks_to_budgets/lockstobudgets/exact/Rational", name := "compareTo", desc := "(Lcom/example/locks_to_budgets/lockstobudgets/exact/Rational;)I" } : Jvm.MethodName) ({ cls := "com/example/locks_to_budgets/lockstobudgets/exact/Rational", name := "compareTo", desc := "(Lcom/example/locks_to_budgets/lockstobudgets/exact/Rational;)I" } : Jvm.MethodName))).before a0 Z = true := K.1 _ (List.mem_of_getElem? (i := 234) rfl)
theorem w235 {Z : State} {a0 : Array Value} (K : Ok Z a0) : ((Jvm.Cond.code ({ cls := "com/example/locks_to_budgets/lockstobudgets/exact/Rational", name := "compareTo", desc := "(Lcom/example/locks_to_budgets/lockstobudgets/exact/Rational;)I" } : Jvm.MethodName) prog_21_method_25_code (2 : Nat) (Option.some Jvm.ClassFile.FieldType.int))).before a0 Z = true := K.1 _ (List.mem_of_getElem? (i := 235) rfl)
theorem w236 {Z : State} {a0 : Array Value} (K : Ok Z a0) : ((Jvm.Cond.methodLink "com/example/locks_to_budgets/lockstobudgets/exact/Rational" (205 : Nat) ({ cls := "java/math/BigInteger", name := "compareTo", desc := "(Ljava/math/BigInteger;)I" } : Jvm.MethodName))).before a0 Z = true := K.1 _ (List.mem_of_getElem? (i := 236) rfl)
theorem w237 {Z : State} {a0 : Array Value} (K : Ok Z a0) : ((Jvm.Cond.declares ({ cls := "java/math/BigInteger", name := "compareTo", desc := "(Ljava/math/BigInteger;)I" } : Jvm.MethodName))).before a0 Z = true := K.1 _ (List.mem_of_getElem? (i := 237) rfl)
theorem w238 {Z : State} {a0 : Array Value} (K : Ok Z a0) : ((Jvm.Cond.instanceMethod ({ cls := "java/math/BigInteger", name := "compareTo", desc := "(Ljava/math/BigInteger;)I" } : Jvm.MethodName))).before a0 Z = true := K.1 _ (List.mem_of_getElem? (i := 238) rfl)
theorem w239 {Z : State} {a0 : Array Value} (K : Ok Z a0) : ((Jvm.Cond.selects "java/math/BigInteger" ({ cls := "java/math/BigInteger", name := "compareTo", desc := "(Ljava/math/BigInteger;)I" } : Jvm.MethodName) ({ cls := "java/math/BigInteger", name := "compareTo", desc := "(Ljava/math/BigInteger;)I" } : Jvm.MethodName))).before a0 Z = true := K.1 _ (List.mem_of_getElem? (i := 239) rfl)
theorem w240 {Z : State} {a0 : Array Value} (K : Ok Z a0) : ((Jvm.Cond.code ({ cls := "java/math/BigInteger", name := "compareTo", desc := "(Ljava/math/BigInteger;)I" } : Jvm.MethodName) jdk_2097_method_121_code (2 : Nat) (Option.some Jvm.ClassFile.FieldType.int))).before a0 Z = true := K.1 _ (List.mem_of_getElem? (i := 240) rfl)
theorem w241 {Z : State} {a0 : Array Value} (K : Ok Z a0) : ((Jvm.Cond.methodLink "java/math/BigInteger" (365 : Nat) ({ cls := "java/math/BigInteger", name := "compareMagnitude", desc := "(Ljava/math/BigInteger;)I" } : Jvm.MethodName))).before a0 Z = true := K.1 _ (List.mem_of_getElem? (i := 241) rfl)
theorem w242 {Z : State} {a0 : Array Value} (K : Ok Z a0) : ((Jvm.Cond.declares ({ cls := "java/math/BigInteger", name := "compareMagnitude", desc := "(Ljava/math/BigInteger;)I" } : Jvm.MethodName))).before a0 Z = true := K.1 _ (List.mem_of_getElem? (i := 242) rfl)
theorem w243 {Z : State} {a0 : Array Value} (K : Ok Z a0) : ((Jvm.Cond.instanceMethod ({ cls := "java/math/BigInteger", name := "compareMagnitude", desc := "(Ljava/math/BigInteger;)I" } : Jvm.MethodName))).before a0 Z = true := K.1 _ (List.mem_of_getElem? (i := 243) rfl)
theorem w244 {Z : State} {a0 : Array Value} (K : Ok Z a0) : ((Jvm.Cond.selects "java/math/BigInteger" ({ cls := "java/math/BigInteger", name := "compareMagnitude", desc := "(Ljava/math/BigInteger;)I" } : Jvm.MethodName) ({ cls := "java/math/BigInteger", name := "compareMagnitude", desc := "(Ljava/math/BigInteger;)I" } : Jvm.MethodName))).before a0 Z = true := K.1 _ (List.mem_of_getElem? (i := 244) rfl)
theorem w245 {Z : State} {a0 : Array Value} (K : Ok Z a0) : ((Jvm.Cond.code ({ cls := "java/math/BigInteger", name := "compareMagnitude", desc := "(Ljava/math/BigInteger;)I" } : Jvm.MethodName) jdk_2097_method_122_code (9 : Nat) (Option.some Jvm.ClassFile.FieldType.int))).before a0 Z = true := K.1 _ (List.mem_of_getElem? (i := 245) rfl)
theorem w246 {Z : State} {a0 : Array Value} (K : Ok Z a0) : ((Jvm.Cond.constantLong "java/math/BigInteger" (130 : Nat) (4294967295 : Int64))).before a0 Z = true := K.1 _ (List.mem_of_getElem? (i := 246) rfl)
theorem w247 {Z : State} {a0 : Array Value} (K : Ok Z a0) : ((Jvm.Cond.constantLong "java/math/BigInteger" (351 : Nat) (-16 : Int64))).before a0 Z = true := K.1 _ (List.mem_of_getElem? (i := 247) rfl)
theorem w248 {Z : State} {a0 : Array Value} (K : Ok Z a0) : ((Jvm.Cond.methodLink "java/math/BigInteger" (356 : Nat) ({ cls := "java/math/BigInteger", name := "<init>", desc := "(J)V" } : Jvm.MethodName))).before a0 Z = true := K.1 _ (List.mem_of_getElem? (i := 248) rfl)
theorem w249 {Z : State} {a0 : Array Value} (K : Ok Z a0) : ((Jvm.Cond.instanceMethod ({ cls := "java/math/BigInteger", name := "<init>", desc := "(J)V" } : Jvm.MethodName))).before a0 Z = true := K.1 _ (List.mem_of_getElem? (i := 249) rfl)
theorem w250 {Z : State} {a0 : Array Value} (K : Ok Z a0) : ((Jvm.Cond.code ({ cls := "java/math/BigInteger", name := "<init>", desc := "(J)V" } : Jvm.MethodName) jdk_2097_method_30_code (4 : Nat) (Option.none : Option Jvm.ClassFile.FieldType))).before a0 Z = true := K.1 _ (List.mem_of_getElem? (i := 250) rfl)
theorem w251 {Z : State} {a0 : Array Value} (K : Ok Z a0) : ((Jvm.Cond.methodLink "java/math/MutableBigInteger" (112 : Nat) ({ cls := "java/math/BigInteger", name := "bitLengthForInt", desc := "(I)I" } : Jvm.MethodName))).before a0 Z = true := K.1 _ (List.mem_of_getElem? (i := 251) rfl)
theorem w252 {Z : State} {a0 : Array Value} (K : Ok Z a0) : ((Jvm.Cond.static ({ cls := "java/math/BigInteger", name := "bitLengthForInt", desc := "(I)I" } : Jvm.MethodName))).before a0 Z = true := K.1 _ (List.mem_of_getElem? (i := 252) rfl)
theorem w253 {Z : State} {a0 : Array Value} (K : Ok Z a0) : ((Jvm.Cond.code ({ cls := "java/math/BigInteger", name := "bitLengthForInt", desc := "(I)I" } : Jvm.MethodName) jdk_2097_method_74_code (1 : Nat) (Option.some Jvm.ClassFile.FieldType.int))).before a0 Z = true := K.1 _ (List.mem_of_getElem? (i := 253) rfl)
theorem w254 {Z : State} {a0 : Array Value} (K : Ok Z a0) : ((Jvm.Cond.methodLink "java/math/BigInteger" (602 : Nat) ({ cls := "java/lang/Integer", name := "numberOfLeadingZeros", desc := "(I)I" } : Jvm.MethodName))).before a0 Z = true := K.1 _ (List.mem_of_getElem? (i := 254) rfl)
theorem w255 {Z : State} {a0 : Array Value} (K : Ok Z a0) : ((Jvm.Cond.static ({ cls := "java/lang/Integer", name := "numberOfLeadingZeros", desc := "(I)I" } : Jvm.MethodName))).before a0 Z = true := K.1 _ (List.mem_of_getElem? (i := 255) rfl)
theorem w256 {Z : State} {a0 : Array Value} (K : Ok Z a0) : ((Jvm.Cond.code ({ cls := "java/lang/Integer", name := "numberOfLeadingZeros", desc := "(I)I" } : Jvm.MethodName) jdk_33_method_47_code (2 : Nat) (Option.some Jvm.ClassFile.FieldType.int))).before a0 Z = true := K.1 _ (List.mem_of_getElem? (i := 256) rfl)
theorem w257 {Z : State} {a0 : Array Value} (K : Ok Z a0) : ((Jvm.Cond.methodLink "java/math/MutableBigInteger" (118 : Nat) ({ cls := "java/math/MutableBigInteger", name := "primitiveRightShift", desc := "(I)V" } : Jvm.MethodName))).before a0 Z = true := K.1 _ (List.mem_of_getElem? (i := 257) rfl)
theorem w258 {Z : State} {a0 : Array Value} (K : Ok Z a0) : ((Jvm.Cond.instanceMethod ({ cls := "java/math/MutableBigInteger", name := "primitiveRightShift", desc := "(I)V" } : Jvm.MethodName))).before a0 Z = true := K.1 _ (List.mem_of_getElem? (i := 258) rfl)
theorem w260 {Z : State} {a0 : Array Value} (K : Ok Z a0) : ((Jvm.Cond.selects "java/math/MutableBigInteger" ({ cls := "java/math/MutableBigInteger", name := "primitiveRightShift", desc := "(I)V" } : Jvm.MethodName) ({ cls := "java/math/MutableBigInteger", name := "primitiveRightShift", desc := "(I)V" } : Jvm.MethodName))).before a0 Z = true := K.1 _ (List.mem_of_getElem? (i := 260) rfl)
theorem w261 {Z : State} {a0 : Array Value} (K : Ok Z a0) : ((Jvm.Cond.code ({ cls := "java/math/MutableBigInteger", name := "primitiveRightShift", desc := "(I)V" } : Jvm.MethodName) jdk_2101_method_41_code (7 : Nat) (Option.none : Option Jvm.ClassFile.FieldType))).before a0 Z = true := K.1 _ (List.mem_of_getElem? (i := 261) rfl)
theorem w262 {Z : State} {a0 : Array Value} (K : Ok Z a0) : ((Jvm.Cond.methodLink "java/math/MutableBigInteger" (341 : Nat) ({ cls := "java/math/MutableBigInteger", name := "difference", desc := "(Ljava/math/MutableBigInteger;)I" } : Jvm.MethodName))).before a0 Z = true := K.1 _ (List.mem_of_getElem? (i := 262) rfl)
theorem w263 {Z : State} {a0 : Array Value} (K : Ok Z a0) : ((Jvm.Cond.instanceMethod ({ cls := "java/math/MutableBigInteger", name := "difference", desc := "(Ljava/math/MutableBigInteger;)I" } : Jvm.MethodName))).before a0 Z = true := K.1 _ (List.mem_of_getElem? (i := 263) rfl)
theorem w265 {Z : State} {a0 : Array Value} (K : Ok Z a0) : ((Jvm.Cond.selects "java/math/MutableBigInteger" ({ cls := "java/math/MutableBigInteger", name := "difference", desc := "(Ljava/math/MutableBigInteger;)I" } : Jvm.MethodName) ({ cls := "java/math/MutableBigInteger", name := "difference", desc := "(Ljava/math/MutableBigInteger;)I" } : Jvm.MethodName))).before a0 Z = true := K.1 _ (List.mem_of_getElem? (i := 265) rfl)
theorem w266 {Z : State} {a0 : Array Value} (K : Ok Z a0) : ((Jvm.Cond.code ({ cls := "java/math/MutableBigInteger", name := "difference", desc := "(Ljava/math/MutableBigInteger;)I" } : Jvm.MethodName) jdk_2101_method_50_code (8 : Nat) (Option.some Jvm.ClassFile.FieldType.int))).before a0 Z = true := K.1 _ (List.mem_of_getElem? (i := 266) rfl)
theorem w267 {Z : State} {a0 : Array Value} (K : Ok Z a0) : ((Jvm.Cond.methodLink "java/math/MutableBigInteger" (64 : Nat) ({ cls := "java/math/MutableBigInteger", name := "normalize", desc := "()V" } : Jvm.MethodName))).before a0 Z = true := K.1 _ (List.mem_of_getElem? (i := 267) rfl)
theorem w268 {Z : State} {a0 : Array Value} (K : Ok Z a0) : ((Jvm.Cond.declares ({ cls := "java/math/MutableBigInteger", name := "normalize", desc := "()V" } : Jvm.MethodName))).before a0 Z = true := K.1 _ (List.mem_of_getElem? (i := 268) rfl)
theorem w269 {Z : State} {a0 : Array Value} (K : Ok Z a0) : ((Jvm.Cond.instanceMethod ({ cls := "java/math/MutableBigInteger", name := "normalize", desc := "()V" } : Jvm.MethodName))).before a0 Z = true := K.1 _ (List.mem_of_getElem? (i := 269) rfl)
theorem w270 {Z : State} {a0 : Array Value} (K : Ok Z a0) : ((Jvm.Cond.selects "java/math/MutableBigInteger" ({ cls := "java/math/MutableBigInteger", name := "normalize", desc := "()V" } : Jvm.MethodName) ({ cls := "java/math/MutableBigInteger", name := "normalize", desc := "()V" } : Jvm.MethodName))).before a0 Z = true := K.1 _ (List.mem_of_getElem? (i := 270) rfl)
theorem w271 {Z : State} {a0 : Array Value} (K : Ok Z a0) : ((Jvm.Cond.code ({ cls := "java/math/MutableBigInteger", name := "normalize", desc := "()V" } : Jvm.MethodName) jdk_2101_method_21_code (4 : Nat) (Option.none : Option Jvm.ClassFile.FieldType))).before a0 Z = true := K.1 _ (List.mem_of_getElem? (i := 271) rfl)
theorem w272 {Z : State} {a0 : Array Value} (K : Ok Z a0) : ((Jvm.Cond.methodLink "java/math/MutableBigInteger" (115 : Nat) ({ cls := "java/math/MutableBigInteger", name := "primitiveLeftShift", desc := "(I)V" } : Jvm.MethodName))).before a0 Z = true := K.1 _ (List.mem_of_getElem? (i := 272) rfl)
theorem w273 {Z : State} {a0 : Array Value} (K : Ok Z a0) : ((Jvm.Cond.instanceMethod ({ cls := "java/math/MutableBigInteger", name := "primitiveLeftShift", desc := "(I)V" } : Jvm.MethodName))).before a0 Z = true := K.1 _ (List.mem_of_getElem? (i := 273) rfl)
theorem w275 {Z : State} {a0 : Array Value} (K : Ok Z a0) : ((Jvm.Cond.selects "java/math/MutableBigInteger" ({ cls := "java/math/MutableBigInteger", name := "primitiveLeftShift", desc := "(I)V" } : Jvm.MethodName) ({ cls := "java/math/MutableBigInteger", name := "primitiveLeftShift", desc := "(I)V" } : Jvm.MethodName))).before a0 Z = true := K.1 _ (List.mem_of_getElem? (i := 275) rfl)
theorem w276 {Z : State} {a0 : Array Value} (K : Ok Z a0) : ((Jvm.Cond.code ({ cls := "java/math/MutableBigInteger", name := "primitiveLeftShift", desc := "(I)V" } : Jvm.MethodName) jdk_2101_method_42_code (8 : Nat) (Option.none : Option Jvm.ClassFile.FieldType))).before a0 Z = true := K.1 _ (List.mem_of_getElem? (i := 276) rfl)
theorem w277 {Z : State} {a0 : Array Value} (K : Ok Z a0) : ((Jvm.Cond.methodLink "java/math/MutableBigInteger" (152 : Nat) ({ cls := "java/lang/Integer", name := "numberOfLeadingZeros", desc := "(I)I" } : Jvm.MethodName))).before a0 Z = true := K.1 _ (List.mem_of_getElem? (i := 277) rfl)
theorem w278 {Z : State} {a0 : Array Value} (K : Ok Z a0) : ((Jvm.Cond.fieldLink "java/math/BigInteger" (353 : Nat) "java/math/BigInteger" "negConst" "[Ljava/math/BigInteger;")).before a0 Z = true := K.1 _ (List.mem_of_getElem? (i := 278) rfl)
theorem w279 {Z : State} {a0 : Array Value} (K : Ok Z a0) : ((Jvm.Cond.fieldLink "java/math/BigInteger" (22 : Nat) "java/math/BigInteger" "ZERO" "Ljava/math/BigInteger;")).before a0 Z = true := K.1 _ (List.mem_of_getElem? (i := 279) rfl)
theorem w280 {Z : State} {a0 : Array Value} (K : Ok Z a0) : ((Jvm.Cond.methodLink "java/math/BigInteger" (485 : Nat) ({ cls := "java/math/BigInteger", name := "abs", desc := "()Ljava/math/BigInteger;" } : Jvm.MethodName))).before a0 Z = true := K.1 _ (List.mem_of_getElem? (i := 280) rfl)
theorem w281 {Z : State} {a0 : Array Value} (K : Ok Z a0) : ((Jvm.Cond.declares ({ cls := "java/math/BigInteger", name := "abs", desc := "()Ljava/math/BigInteger;" } : Jvm.MethodName))).before a0 Z = true := K.1 _ (List.mem_of_getElem? (i := 281) rfl)
theorem w282 {Z : State} {a0 : Array Value} (K : Ok Z a0) : ((Jvm.Cond.instanceMethod ({ cls := "java/math/BigInteger", name := "abs", desc := "()Ljava/math/BigInteger;" } : Jvm.MethodName))).before a0 Z = true := K.1 _ (List.mem_of_getElem? (i := 282) rfl)
theorem w283 {Z : State} {a0 : Array Value} (K : Ok Z a0) : ((Jvm.Cond.selects "java/math/BigInteger" ({ cls := "java/math/BigInteger", name := "abs", desc := "()Ljava/math/BigInteger;" } : Jvm.MethodName) ({ cls := "java/math/BigInteger", name := "abs", desc := "()Ljava/math/BigInteger;" } : Jvm.MethodName))).before a0 Z = true := K.1 _ (List.mem_of_getElem? (i := 283) rfl)
theorem w284 {Z : State} {a0 : Array Value} (K : Ok Z a0) : ((Jvm.Cond.code ({ cls := "java/math/BigInteger", name := "abs", desc := "()Ljava/math/BigInteger;" } : Jvm.MethodName) jdk_2097_method_79_code (1 : Nat) (Option.some (Jvm.ClassFile.FieldType.object "java/math/BigInteger")))).before a0 Z = true := K.1 _ (List.mem_of_getElem? (i := 284) rfl)
theorem w285 {Z : State} {a0 : Array Value} (K : Ok Z a0) : ((Jvm.Cond.fieldLink "java/math/MutableBigInteger" (54 : Nat) "java/math/BigInteger" "ZERO" "Ljava/math/BigInteger;")).before a0 Z = true := K.1 _ (List.mem_of_getElem? (i := 285) rfl)
theorem d15_0 : decode jdk_18_method_1_code 0 = .ok (.aload_n 0, 1) := by decide +kernel
theorem d15_1 : decode jdk_18_method_1_code 1 = .ok (.invokespecial 1, 3) := by decide +kernel
theorem d15_4 : decode jdk_18_method_1_code 4 = .ok (.return_, 1) := by decide +kernel
theorem d30_0 : decode jdk_2097_method_102_code 0 = .ok (.iload_n 1, 1) := by decide +kernel
theorem d30_1 : decode jdk_2097_method_102_code 1 = .ok (.iconst 5, 1) := by decide +kernel
theorem d30_2 : decode jdk_2097_method_102_code 2 = .ok (.iushr, 1) := by decide +kernel
theorem d30_3 : decode jdk_2097_method_102_code 3 = .ok (.istore_n 2, 1) := by decide +kernel
theorem d30_4 : decode jdk_2097_method_102_code 4 = .ok (.iload_n 1, 1) := by decide +kernel
theorem d30_5 : decode jdk_2097_method_102_code 5 = .ok (.bipush 31, 2) := by decide +kernel
theorem d30_7 : decode jdk_2097_method_102_code 7 = .ok (.iand, 1) := by decide +kernel
theorem d30_8 : decode jdk_2097_method_102_code 8 = .ok (.istore_n 3, 1) := by decide +kernel
theorem d30_9 : decode jdk_2097_method_102_code 9 = .ok (.aload_n 0, 1) := by decide +kernel
theorem d30_10 : decode jdk_2097_method_102_code 10 = .ok (.arraylength, 1) := by decide +kernel
theorem d30_11 : decode jdk_2097_method_102_code 11 = .ok (.istore 4, 2) := by decide +kernel
theorem d30_13 : decode jdk_2097_method_102_code 13 = .ok (.aconst_null, 1) := by decide +kernel
theorem d30_14 : decode jdk_2097_method_102_code 14 = .ok (.astore 5, 2) := by decide +kernel
theorem d30_16 : decode jdk_2097_method_102_code 16 = .ok (.iload_n 3, 1) := by decide +kernel
theorem d30_17 : decode jdk_2097_method_102_code 17 = .ok (.ifCond .ne 24, 3) := by decide +kernel
theorem d30_20 : decode jdk_2097_method_102_code 20 = .ok (.iload 4, 2) := by decide +kernel
theorem d30_22 : decode jdk_2097_method_102_code 22 = .ok (.iload_n 2, 1) := by decide +kernel
theorem d30_23 : decode jdk_2097_method_102_code 23 = .ok (.iadd, 1) := by decide +kernel
theorem d30_24 : decode jdk_2097_method_102_code 24 = .ok (.newarray .int, 2) := by decide +kernel
theorem d30_26 : decode jdk_2097_method_102_code 26 = .ok (.astore 5, 2) := by decide +kernel
theorem d30_28 : decode jdk_2097_method_102_code 28 = .ok (.aload_n 0, 1) := by decide +kernel
theorem d30_29 : decode jdk_2097_method_102_code 29 = .ok (.iconst 0, 1) := by decide +kernel
theorem d30_30 : decode jdk_2097_method_102_code 30 = .ok (.aload 5, 2) := by decide +kernel
theorem d30_32 : decode jdk_2097_method_102_code 32 = .ok (.iconst 0, 1) := by decide +kernel
theorem d30_33 : decode jdk_2097_method_102_code 33 = .ok (.iload 4, 2) := by decide +kernel
theorem d30_35 : decode jdk_2097_method_102_code 35 = .ok (.invokestatic 388, 3) := by decide +kernel
theorem d30_38 : decode jdk_2097_method_102_code 38 = .ok (.goto 114, 3) := by decide +kernel
theorem d30_152 : decode jdk_2097_method_102_code 152 = .ok (.aload 5, 2) := by decide +kernel
theorem d30_154 : decode jdk_2097_method_102_code 154 = .ok (.areturn, 1) := by decide +kernel
theorem d37_0 : decode jdk_2097_method_121_code 0 = .ok (.aload_n 0, 1) := by decide +kernel
theorem d37_1 : decode jdk_2097_method_121_code 1 = .ok (.getfield 32, 3) := by decide +kernel
theorem d37_4 : decode jdk_2097_method_121_code 4 = .ok (.aload_n 1, 1) := by decide +kernel
theorem d37_5 : decode jdk_2097_method_121_code 5 = .ok (.getfield 32, 3) := by decide +kernel
theorem d37_8 : decode jdk_2097_method_121_code 8 = .ok (.if_icmp .ne 50, 3) := by decide +kernel
theorem d37_11 : decode jdk_2097_method_121_code 11 = .ok (.aload_n 0, 1) := by decide +kernel
theorem d37_12 : decode jdk_2097_method_121_code 12 = .ok (.getfield 32, 3) := by decide +kernel
theorem d37_15 : decode jdk_2097_method_121_code 15 = .ok (.lookupswitch 41 #[(-1, 33), (1, 25)], 25) := by decide +kernel
theorem d37_40 : decode jdk_2097_method_121_code 40 = .ok (.aload_n 0, 1) := by decide +kernel
theorem d37_41 : decode jdk_2097_method_121_code 41 = .ok (.aload_n 1, 1) := by decide +kernel
theorem d37_42 : decode jdk_2097_method_121_code 42 = .ok (.invokevirtual 365, 3) := by decide +kernel
theorem d37_45 : decode jdk_2097_method_121_code 45 = .ok (.goto 12, 3) := by decide +kernel
theorem d37_48 : decode jdk_2097_method_121_code 48 = .ok (.aload_n 1, 1) := by decide +kernel
theorem d37_49 : decode jdk_2097_method_121_code 49 = .ok (.aload_n 0, 1) := by decide +kernel
theorem d37_50 : decode jdk_2097_method_121_code 50 = .ok (.invokevirtual 365, 3) := by decide +kernel
theorem d37_53 : decode jdk_2097_method_121_code 53 = .ok (.goto 4, 3) := by decide +kernel
theorem d37_56 : decode jdk_2097_method_121_code 56 = .ok (.iconst 0, 1) := by decide +kernel
theorem d37_57 : decode jdk_2097_method_121_code 57 = .ok (.ireturn, 1) := by decide +kernel
theorem d37_58 : decode jdk_2097_method_121_code 58 = .ok (.aload_n 0, 1) := by decide +kernel
theorem d37_59 : decode jdk_2097_method_121_code 59 = .ok (.getfield 32, 3) := by decide +kernel
theorem d37_62 : decode jdk_2097_method_121_code 62 = .ok (.aload_n 1, 1) := by decide +kernel
theorem d37_63 : decode jdk_2097_method_121_code 63 = .ok (.getfield 32, 3) := by decide +kernel
theorem d37_66 : decode jdk_2097_method_121_code 66 = .ok (.if_icmp .le 7, 3) := by decide +kernel
theorem d37_69 : decode jdk_2097_method_121_code 69 = .ok (.iconst 1, 1) := by decide +kernel
theorem d37_70 : decode jdk_2097_method_121_code 70 = .ok (.goto 4, 3) := by decide +kernel
theorem d37_73 : decode jdk_2097_method_121_code 73 = .ok (.iconst (-1), 1) := by decide +kernel
theorem d37_74 : decode jdk_2097_method_121_code 74 = .ok (.ireturn, 1) := by decide +kernel
theorem d36_0 : decode jdk_2097_method_122_code 0 = .ok (.aload_n 0, 1) := by decide +kernel
theorem d36_1 : decode jdk_2097_method_122_code 1 = .ok (.getfield 28, 3) := by decide +kernel
theorem d36_4 : decode jdk_2097_method_122_code 4 = .ok (.astore_n 2, 1) := by decide +kernel
theorem d36_5 : decode jdk_2097_method_122_code 5 = .ok (.aload_n 2, 1) := by decide +kernel
theorem d36_6 : decode jdk_2097_method_122_code 6 = .ok (.arraylength, 1) := by decide +kernel
theorem d36_7 : decode jdk_2097_method_122_code 7 = .ok (.istore_n 3, 1) := by decide +kernel
theorem d36_8 : decode jdk_2097_method_122_code 8 = .ok (.aload_n 1, 1) := by decide +kernel
theorem d36_9 : decode jdk_2097_method_122_code 9 = .ok (.getfield 28, 3) := by decide +kernel
theorem d36_12 : decode jdk_2097_method_122_code 12 = .ok (.astore 4, 2) := by decide +kernel
theorem d36_14 : decode jdk_2097_method_122_code 14 = .ok (.aload 4, 2) := by decide +kernel
theorem d36_16 : decode jdk_2097_method_122_code 16 = .ok (.arraylength, 1) := by decide +kernel
theorem d36_17 : decode jdk_2097_method_122_code 17 = .ok (.istore 5, 2) := by decide +kernel
theorem d36_19 : decode jdk_2097_method_122_code 19 = .ok (.iload_n 3, 1) := by decide +kernel
theorem d36_20 : decode jdk_2097_method_122_code 20 = .ok (.iload 5, 2) := by decide +kernel
theorem d36_22 : decode jdk_2097_method_122_code 22 = .ok (.if_icmp .ge 5, 3) := by decide +kernel
theorem d36_25 : decode jdk_2097_method_122_code 25 = .ok (.iconst (-1), 1) := by decide +kernel
theorem d36_26 : decode jdk_2097_method_122_code 26 = .ok (.ireturn, 1) := by decide +kernel
theorem d36_27 : decode jdk_2097_method_122_code 27 = .ok (.iload_n 3, 1) := by decide +kernel
theorem d36_28 : decode jdk_2097_method_122_code 28 = .ok (.iload 5, 2) := by decide +kernel
theorem d36_30 : decode jdk_2097_method_122_code 30 = .ok (.if_icmp .le 5, 3) := by decide +kernel
theorem d36_33 : decode jdk_2097_method_122_code 33 = .ok (.iconst 1, 1) := by decide +kernel
theorem d36_34 : decode jdk_2097_method_122_code 34 = .ok (.ireturn, 1) := by decide +kernel
theorem d36_35 : decode jdk_2097_method_122_code 35 = .ok (.iconst 0, 1) := by decide +kernel
theorem d36_36 : decode jdk_2097_method_122_code 36 = .ok (.istore 6, 2) := by decide +kernel
theorem d36_38 : decode jdk_2097_method_122_code 38 = .ok (.iload 6, 2) := by decide +kernel
theorem d36_40 : decode jdk_2097_method_122_code 40 = .ok (.iload_n 3, 1) := by decide +kernel
theorem d36_41 : decode jdk_2097_method_122_code 41 = .ok (.if_icmp .ge 53, 3) := by decide +kernel
theorem d36_44 : decode jdk_2097_method_122_code 44 = .ok (.aload_n 2, 1) := by decide +kernel
theorem d36_45 : decode jdk_2097_method_122_code 45 = .ok (.iload 6, 2) := by decide +kernel
theorem d36_47 : decode jdk_2097_method_122_code 47 = .ok (.iaload, 1) := by decide +kernel
theorem d36_48 : decode jdk_2097_method_122_code 48 = .ok (.istore 7, 2) := by decide +kernel
theorem d36_50 : decode jdk_2097_method_122_code 50 = .ok (.aload 4, 2) := by decide +kernel
theorem d36_52 : decode jdk_2097_method_122_code 52 = .ok (.iload 6, 2) := by decide +kernel
theorem d36_54 : decode jdk_2097_method_122_code 54 = .ok (.iaload, 1) := by decide +kernel
theorem d36_55 : decode jdk_2097_method_122_code 55 = .ok (.istore 8, 2) := by decide +kernel
theorem d36_57 : decode jdk_2097_method_122_code 57 = .ok (.iload 7, 2) := by decide +kernel
theorem d36_59 : decode jdk_2097_method_122_code 59 = .ok (.iload 8, 2) := by decide +kernel
theorem d36_61 : decode jdk_2097_method_122_code 61 = .ok (.if_icmp .eq 27, 3) := by decide +kernel
theorem d36_64 : decode jdk_2097_method_122_code 64 = .ok (.iload 7, 2) := by decide +kernel
theorem d36_66 : decode jdk_2097_method_122_code 66 = .ok (.i2l, 1) := by decide +kernel
theorem d36_67 : decode jdk_2097_method_122_code 67 = .ok (.ldc2_w 130, 3) := by decide +kernel
theorem d36_70 : decode jdk_2097_method_122_code 70 = .ok (.land, 1) := by decide +kernel
theorem d36_71 : decode jdk_2097_method_122_code 71 = .ok (.iload 8, 2) := by decide +kernel
theorem d36_73 : decode jdk_2097_method_122_code 73 = .ok (.i2l, 1) := by decide +kernel
theorem d36_74 : decode jdk_2097_method_122_code 74 = .ok (.ldc2_w 130, 3) := by decide +kernel
theorem d36_77 : decode jdk_2097_method_122_code 77 = .ok (.land, 1) := by decide +kernel
theorem d36_78 : decode jdk_2097_method_122_code 78 = .ok (.lcmp, 1) := by decide +kernel
theorem d36_79 : decode jdk_2097_method_122_code 79 = .ok (.ifCond .ge 7, 3) := by decide +kernel
theorem d36_82 : decode jdk_2097_method_122_code 82 = .ok (.iconst (-1), 1) := by decide +kernel
theorem d36_83 : decode jdk_2097_method_122_code 83 = .ok (.goto 4, 3) := by decide +kernel
theorem d36_86 : decode jdk_2097_method_122_code 86 = .ok (.iconst 1, 1) := by decide +kernel
theorem d36_87 : decode jdk_2097_method_122_code 87 = .ok (.ireturn, 1) := by decide +kernel
theorem d36_88 : decode jdk_2097_method_122_code 88 = .ok (.iinc 6 1, 3) := by decide +kernel
theorem d36_91 : decode jdk_2097_method_122_code 91 = .ok (.goto (-53), 3) := by decide +kernel
theorem d36_94 : decode jdk_2097_method_122_code 94 = .ok (.iconst 0, 1) := by decide +kernel
theorem d36_95 : decode jdk_2097_method_122_code 95 = .ok (.ireturn, 1) := by decide +kernel
theorem d35_0 : decode jdk_2097_method_124_code 0 = .ok (.aload_n 1, 1) := by decide +kernel
theorem d35_1 : decode jdk_2097_method_124_code 1 = .ok (.aload_n 0, 1) := by decide +kernel
theorem d35_2 : decode jdk_2097_method_124_code 2 = .ok (.if_acmp .ne 5, 3) := by decide +kernel
theorem d35_5 : decode jdk_2097_method_124_code 5 = .ok (.iconst 1, 1) := by decide +kernel
theorem d35_6 : decode jdk_2097_method_124_code 6 = .ok (.ireturn, 1) := by decide +kernel
theorem d35_7 : decode jdk_2097_method_124_code 7 = .ok (.aload_n 1, 1) := by decide +kernel
theorem d35_8 : decode jdk_2097_method_124_code 8 = .ok (.instanceof 23, 3) := by decide +kernel
theorem d35_11 : decode jdk_2097_method_124_code 11 = .ok (.ifCond .eq 11, 3) := by decide +kernel
theorem d35_14 : decode jdk_2097_method_124_code 14 = .ok (.aload_n 1, 1) := by decide +kernel
theorem d35_15 : decode jdk_2097_method_124_code 15 = .ok (.checkcast 23, 3) := by decide +kernel
theorem d35_18 : decode jdk_2097_method_124_code 18 = .ok (.astore_n 2, 1) := by decide +kernel
theorem d35_19 : decode jdk_2097_method_124_code 19 = .ok (.goto 5, 3) := by decide +kernel
theorem d35_24 : decode jdk_2097_method_124_code 24 = .ok (.aload_n 2, 1) := by decide +kernel
theorem d35_25 : decode jdk_2097_method_124_code 25 = .ok (.getfield 32, 3) := by decide +kernel
theorem d35_28 : decode jdk_2097_method_124_code 28 = .ok (.aload_n 0, 1) := by decide +kernel
theorem d35_29 : decode jdk_2097_method_124_code 29 = .ok (.getfield 32, 3) := by decide +kernel
theorem d35_32 : decode jdk_2097_method_124_code 32 = .ok (.if_icmp .eq 5, 3) := by decide +kernel
theorem d35_37 : decode jdk_2097_method_124_code 37 = .ok (.aload_n 0, 1) := by decide +kernel
theorem d35_38 : decode jdk_2097_method_124_code 38 = .ok (.getfield 28, 3) := by decide +kernel
theorem d35_41 : decode jdk_2097_method_124_code 41 = .ok (.astore_n 3, 1) := by decide +kernel
theorem d35_42 : decode jdk_2097_method_124_code 42 = .ok (.aload_n 3, 1) := by decide +kernel
theorem d35_43 : decode jdk_2097_method_124_code 43 = .ok (.arraylength, 1) := by decide +kernel
theorem d35_44 : decode jdk_2097_method_124_code 44 = .ok (.istore 4, 2) := by decide +kernel
theorem d35_46 : decode jdk_2097_method_124_code 46 = .ok (.aload_n 2, 1) := by decide +kernel
theorem d35_47 : decode jdk_2097_method_124_code 47 = .ok (.getfield 28, 3) := by decide +kernel
theorem d35_50 : decode jdk_2097_method_124_code 50 = .ok (.astore 5, 2) := by decide +kernel
theorem d35_52 : decode jdk_2097_method_124_code 52 = .ok (.iload 4, 2) := by decide +kernel
theorem d35_54 : decode jdk_2097_method_124_code 54 = .ok (.aload 5, 2) := by decide +kernel
theorem d35_56 : decode jdk_2097_method_124_code 56 = .ok (.arraylength, 1) := by decide +kernel
theorem d35_57 : decode jdk_2097_method_124_code 57 = .ok (.if_icmp .eq 5, 3) := by decide +kernel
theorem d35_62 : decode jdk_2097_method_124_code 62 = .ok (.iconst 0, 1) := by decide +kernel
theorem d35_63 : decode jdk_2097_method_124_code 63 = .ok (.istore 6, 2) := by decide +kernel
theorem d35_65 : decode jdk_2097_method_124_code 65 = .ok (.iload 6, 2) := by decide +kernel
theorem d35_67 : decode jdk_2097_method_124_code 67 = .ok (.iload 4, 2) := by decide +kernel
theorem d35_69 : decode jdk_2097_method_124_code 69 = .ok (.if_icmp .ge 23, 3) := by decide +kernel
theorem d35_72 : decode jdk_2097_method_124_code 72 = .ok (.aload 5, 2) := by decide +kernel
theorem d35_74 : decode jdk_2097_method_124_code 74 = .ok (.iload 6, 2) := by decide +kernel
theorem d35_76 : decode jdk_2097_method_124_code 76 = .ok (.iaload, 1) := by decide +kernel
theorem d35_77 : decode jdk_2097_method_124_code 77 = .ok (.aload_n 3, 1) := by decide +kernel
theorem d35_78 : decode jdk_2097_method_124_code 78 = .ok (.iload 6, 2) := by decide +kernel
theorem d35_80 : decode jdk_2097_method_124_code 80 = .ok (.iaload, 1) := by decide +kernel
theorem d35_81 : decode jdk_2097_method_124_code 81 = .ok (.if_icmp .eq 5, 3) := by decide +kernel
theorem d35_86 : decode jdk_2097_method_124_code 86 = .ok (.iinc 6 1, 3) := by decide +kernel
theorem d35_89 : decode jdk_2097_method_124_code 89 = .ok (.goto (-24), 3) := by decide +kernel
theorem d35_92 : decode jdk_2097_method_124_code 92 = .ok (.iconst 1, 1) := by decide +kernel
theorem d35_93 : decode jdk_2097_method_124_code 93 = .ok (.ireturn, 1) := by decide +kernel
theorem d16_0 : decode jdk_2097_method_25_code 0 = .ok (.aload_n 0, 1) := by decide +kernel
theorem d16_1 : decode jdk_2097_method_25_code 1 = .ok (.invokespecial 3, 3) := by decide +kernel
theorem d16_4 : decode jdk_2097_method_25_code 4 = .ok (.aload_n 0, 1) := by decide +kernel
theorem d16_5 : decode jdk_2097_method_25_code 5 = .ok (.aload_n 1, 1) := by decide +kernel
theorem d16_6 : decode jdk_2097_method_25_code 6 = .ok (.arraylength, 1) := by decide +kernel
theorem d16_7 : decode jdk_2097_method_25_code 7 = .ok (.ifCond .ne 7, 3) := by decide +kernel
theorem d16_14 : decode jdk_2097_method_25_code 14 = .ok (.iload_n 2, 1) := by decide +kernel
theorem d16_15 : decode jdk_2097_method_25_code 15 = .ok (.putfield 32, 3) := by decide +kernel
theorem d16_18 : decode jdk_2097_method_25_code 18 = .ok (.aload_n 0, 1) := by decide +kernel
theorem d16_19 : decode jdk_2097_method_25_code 19 = .ok (.aload_n 1, 1) := by decide +kernel
theorem d16_20 : decode jdk_2097_method_25_code 20 = .ok (.putfield 28, 3) := by decide +kernel
theorem d16_23 : decode jdk_2097_method_25_code 23 = .ok (.aload_n 0, 1) := by decide +kernel
theorem d16_24 : decode jdk_2097_method_25_code 24 = .ok (.getfield 28, 3) := by decide +kernel
theorem d16_27 : decode jdk_2097_method_25_code 27 = .ok (.arraylength, 1) := by decide +kernel
theorem d16_28 : decode jdk_2097_method_25_code 28 = .ok (.ldc 43, 2) := by decide +kernel
theorem d16_30 : decode jdk_2097_method_25_code 30 = .ok (.if_icmp .lt 7, 3) := by decide +kernel
theorem d16_37 : decode jdk_2097_method_25_code 37 = .ok (.return_, 1) := by decide +kernel
theorem d39_0 : decode jdk_2097_method_29_code 0 = .ok (.lload_n 0, 1) := by decide +kernel
theorem d39_1 : decode jdk_2097_method_29_code 1 = .ok (.lconst 0, 1) := by decide +kernel
theorem d39_2 : decode jdk_2097_method_29_code 2 = .ok (.lcmp, 1) := by decide +kernel
theorem d39_3 : decode jdk_2097_method_29_code 3 = .ok (.ifCond .ne 7, 3) := by decide +kernel
theorem d39_6 : decode jdk_2097_method_29_code 6 = .ok (.getstatic 22, 3) := by decide +kernel
theorem d39_9 : decode jdk_2097_method_29_code 9 = .ok (.areturn, 1) := by decide +kernel
theorem d39_10 : decode jdk_2097_method_29_code 10 = .ok (.lload_n 0, 1) := by decide +kernel
theorem d39_11 : decode jdk_2097_method_29_code 11 = .ok (.lconst 0, 1) := by decide +kernel
theorem d39_12 : decode jdk_2097_method_29_code 12 = .ok (.lcmp, 1) := by decide +kernel
theorem d39_13 : decode jdk_2097_method_29_code 13 = .ok (.ifCond .le 18, 3) := by decide +kernel
theorem d39_16 : decode jdk_2097_method_29_code 16 = .ok (.lload_n 0, 1) := by decide +kernel
theorem d39_17 : decode jdk_2097_method_29_code 17 = .ok (.ldc2_w 345, 3) := by decide +kernel
theorem d39_20 : decode jdk_2097_method_29_code 20 = .ok (.lcmp, 1) := by decide +kernel
theorem d39_21 : decode jdk_2097_method_29_code 21 = .ok (.ifCond .gt 10, 3) := by decide +kernel
theorem d39_24 : decode jdk_2097_method_29_code 24 = .ok (.getstatic 347, 3) := by decide +kernel
theorem d39_27 : decode jdk_2097_method_29_code 27 = .ok (.lload_n 0, 1) := by decide +kernel
theorem d39_28 : decode jdk_2097_method_29_code 28 = .ok (.l2i, 1) := by decide +kernel
theorem d39_29 : decode jdk_2097_method_29_code 29 = .ok (.aaload, 1) := by decide +kernel
theorem d39_30 : decode jdk_2097_method_29_code 30 = .ok (.areturn, 1) := by decide +kernel
theorem d39_31 : decode jdk_2097_method_29_code 31 = .ok (.lload_n 0, 1) := by decide +kernel
theorem d39_32 : decode jdk_2097_method_29_code 32 = .ok (.lconst 0, 1) := by decide +kernel
theorem d39_33 : decode jdk_2097_method_29_code 33 = .ok (.lcmp, 1) := by decide +kernel
theorem d39_34 : decode jdk_2097_method_29_code 34 = .ok (.ifCond .ge 19, 3) := by decide +kernel
theorem d39_37 : decode jdk_2097_method_29_code 37 = .ok (.lload_n 0, 1) := by decide +kernel
theorem d39_38 : decode jdk_2097_method_29_code 38 = .ok (.ldc2_w 351, 3) := by decide +kernel
theorem d39_41 : decode jdk_2097_method_29_code 41 = .ok (.lcmp, 1) := by decide +kernel
theorem d39_42 : decode jdk_2097_method_29_code 42 = .ok (.ifCond .lt 11, 3) := by decide +kernel
theorem d39_45 : decode jdk_2097_method_29_code 45 = .ok (.getstatic 353, 3) := by decide +kernel
theorem d39_48 : decode jdk_2097_method_29_code 48 = .ok (.lload_n 0, 1) := by decide +kernel
theorem d39_49 : decode jdk_2097_method_29_code 49 = .ok (.lneg, 1) := by decide +kernel
theorem d39_50 : decode jdk_2097_method_29_code 50 = .ok (.l2i, 1) := by decide +kernel
theorem d39_51 : decode jdk_2097_method_29_code 51 = .ok (.aaload, 1) := by decide +kernel
theorem d39_52 : decode jdk_2097_method_29_code 52 = .ok (.areturn, 1) := by decide +kernel
theorem d39_53 : decode jdk_2097_method_29_code 53 = .ok (.new 23, 3) := by decide +kernel
theorem d39_56 : decode jdk_2097_method_29_code 56 = .ok (.dup, 1) := by decide +kernel
theorem d39_57 : decode jdk_2097_method_29_code 57 = .ok (.lload_n 0, 1) := by decide +kernel
theorem d39_58 : decode jdk_2097_method_29_code 58 = .ok (.invokespecial 356, 3) := by decide +kernel
theorem d39_61 : decode jdk_2097_method_29_code 61 = .ok (.areturn, 1) := by decide +kernel
theorem d38_0 : decode jdk_2097_method_30_code 0 = .ok (.aload_n 0, 1) := by decide +kernel
theorem d38_1 : decode jdk_2097_method_30_code 1 = .ok (.invokespecial 3, 3) := by decide +kernel
theorem d38_4 : decode jdk_2097_method_30_code 4 = .ok (.lload_n 1, 1) := by decide +kernel
theorem d38_5 : decode jdk_2097_method_30_code 5 = .ok (.lconst 0, 1) := by decide +kernel
theorem d38_6 : decode jdk_2097_method_30_code 6 = .ok (.lcmp, 1) := by decide +kernel
theorem d38_7 : decode jdk_2097_method_30_code 7 = .ok (.ifCond .ge 14, 3) := by decide +kernel
theorem d38_10 : decode jdk_2097_method_30_code 10 = .ok (.lload_n 1, 1) := by decide +kernel
theorem d38_11 : decode jdk_2097_method_30_code 11 = .ok (.lneg, 1) := by decide +kernel
theorem d38_12 : decode jdk_2097_method_30_code 12 = .ok (.lstore_n 1, 1) := by decide +kernel
theorem d38_13 : decode jdk_2097_method_30_code 13 = .ok (.aload_n 0, 1) := by decide +kernel
theorem d38_14 : decode jdk_2097_method_30_code 14 = .ok (.iconst (-1), 1) := by decide +kernel
theorem d38_15 : decode jdk_2097_method_30_code 15 = .ok (.putfield 32, 3) := by decide +kernel
theorem d38_18 : decode jdk_2097_method_30_code 18 = .ok (.goto 8, 3) := by decide +kernel
theorem d38_21 : decode jdk_2097_method_30_code 21 = .ok (.aload_n 0, 1) := by decide +kernel
theorem d38_22 : decode jdk_2097_method_30_code 22 = .ok (.iconst 1, 1) := by decide +kernel
theorem d38_23 : decode jdk_2097_method_30_code 23 = .ok (.putfield 32, 3) := by decide +kernel
theorem d38_26 : decode jdk_2097_method_30_code 26 = .ok (.lload_n 1, 1) := by decide +kernel
theorem d38_27 : decode jdk_2097_method_30_code 27 = .ok (.bipush 32, 2) := by decide +kernel
theorem d38_29 : decode jdk_2097_method_30_code 29 = .ok (.lushr, 1) := by decide +kernel
theorem d38_30 : decode jdk_2097_method_30_code 30 = .ok (.l2i, 1) := by decide +kernel
theorem d38_31 : decode jdk_2097_method_30_code 31 = .ok (.istore_n 3, 1) := by decide +kernel
theorem d38_32 : decode jdk_2097_method_30_code 32 = .ok (.iload_n 3, 1) := by decide +kernel
theorem d38_33 : decode jdk_2097_method_30_code 33 = .ok (.ifCond .ne 21, 3) := by decide +kernel
theorem d38_36 : decode jdk_2097_method_30_code 36 = .ok (.aload_n 0, 1) := by decide +kernel
theorem d38_37 : decode jdk_2097_method_30_code 37 = .ok (.iconst 1, 1) := by decide +kernel
theorem d38_38 : decode jdk_2097_method_30_code 38 = .ok (.newarray .int, 2) := by decide +kernel
theorem d38_40 : decode jdk_2097_method_30_code 40 = .ok (.putfield 28, 3) := by decide +kernel
theorem d38_43 : decode jdk_2097_method_30_code 43 = .ok (.aload_n 0, 1) := by decide +kernel
theorem d38_44 : decode jdk_2097_method_30_code 44 = .ok (.getfield 28, 3) := by decide +kernel
theorem d38_47 : decode jdk_2097_method_30_code 47 = .ok (.iconst 0, 1) := by decide +kernel
theorem d38_48 : decode jdk_2097_method_30_code 48 = .ok (.lload_n 1, 1) := by decide +kernel
theorem d38_49 : decode jdk_2097_method_30_code 49 = .ok (.l2i, 1) := by decide +kernel
theorem d38_50 : decode jdk_2097_method_30_code 50 = .ok (.iastore, 1) := by decide +kernel
theorem d38_51 : decode jdk_2097_method_30_code 51 = .ok (.goto 25, 3) := by decide +kernel
theorem d38_54 : decode jdk_2097_method_30_code 54 = .ok (.aload_n 0, 1) := by decide +kernel
theorem d38_55 : decode jdk_2097_method_30_code 55 = .ok (.iconst 2, 1) := by decide +kernel
theorem d38_56 : decode jdk_2097_method_30_code 56 = .ok (.newarray .int, 2) := by decide +kernel
theorem d38_58 : decode jdk_2097_method_30_code 58 = .ok (.putfield 28, 3) := by decide +kernel
theorem d38_61 : decode jdk_2097_method_30_code 61 = .ok (.aload_n 0, 1) := by decide +kernel
theorem d38_62 : decode jdk_2097_method_30_code 62 = .ok (.getfield 28, 3) := by decide +kernel
theorem d38_65 : decode jdk_2097_method_30_code 65 = .ok (.iconst 0, 1) := by decide +kernel
theorem d38_66 : decode jdk_2097_method_30_code 66 = .ok (.iload_n 3, 1) := by decide +kernel
theorem d38_67 : decode jdk_2097_method_30_code 67 = .ok (.iastore, 1) := by decide +kernel
theorem d38_68 : decode jdk_2097_method_30_code 68 = .ok (.aload_n 0, 1) := by decide +kernel
theorem d38_69 : decode jdk_2097_method_30_code 69 = .ok (.getfield 28, 3) := by decide +kernel
theorem d38_72 : decode jdk_2097_method_30_code 72 = .ok (.iconst 1, 1) := by decide +kernel
theorem d38_73 : decode jdk_2097_method_30_code 73 = .ok (.lload_n 1, 1) := by decide +kernel
theorem d38_74 : decode jdk_2097_method_30_code 74 = .ok (.l2i, 1) := by decide +kernel
theorem d38_75 : decode jdk_2097_method_30_code 75 = .ok (.iastore, 1) := by decide +kernel
theorem d38_76 : decode jdk_2097_method_30_code 76 = .ok (.return_, 1) := by decide +kernel
theorem d33_0 : decode jdk_2097_method_40_code 0 = .ok (.aload_n 0, 1) := by decide +kernel
theorem d33_1 : decode jdk_2097_method_40_code 1 = .ok (.aload_n 1, 1) := by decide +kernel
theorem d33_2 : decode jdk_2097_method_40_code 2 = .ok (.iconst 0, 1) := by decide +kernel
theorem d33_3 : decode jdk_2097_method_40_code 3 = .ok (.iconst 0, 1) := by decide +kernel
theorem d33_4 : decode jdk_2097_method_40_code 4 = .ok (.iconst 0, 1) := by decide +kernel
theorem d33_5 : decode jdk_2097_method_40_code 5 = .ok (.invokevirtual 397, 3) := by decide +kernel
theorem d33_8 : decode jdk_2097_method_40_code 8 = .ok (.areturn, 1) := by decide +kernel
theorem d32_0 : decode jdk_2097_method_42_code 0 = .ok (.aload_n 1, 1) := by decide +kernel
theorem d32_1 : decode jdk_2097_method_42_code 1 = .ok (.getfield 32, 3) := by decide +kernel
theorem d32_4 : decode jdk_2097_method_42_code 4 = .ok (.ifCond .eq 10, 3) := by decide +kernel
theorem d32_7 : decode jdk_2097_method_42_code 7 = .ok (.aload_n 0, 1) := by decide +kernel
theorem d32_8 : decode jdk_2097_method_42_code 8 = .ok (.getfield 32, 3) := by decide +kernel
theorem d32_11 : decode jdk_2097_method_42_code 11 = .ok (.ifCond .ne 7, 3) := by decide +kernel
theorem d32_14 : decode jdk_2097_method_42_code 14 = .ok (.getstatic 22, 3) := by decide +kernel
theorem d32_17 : decode jdk_2097_method_42_code 17 = .ok (.areturn, 1) := by decide +kernel
theorem d32_18 : decode jdk_2097_method_42_code 18 = .ok (.aload_n 0, 1) := by decide +kernel
theorem d32_19 : decode jdk_2097_method_42_code 19 = .ok (.getfield 28, 3) := by decide +kernel
theorem d32_22 : decode jdk_2097_method_42_code 22 = .ok (.arraylength, 1) := by decide +kernel
theorem d32_23 : decode jdk_2097_method_42_code 23 = .ok (.istore 5, 2) := by decide +kernel
theorem d32_25 : decode jdk_2097_method_42_code 25 = .ok (.aload_n 1, 1) := by decide +kernel
theorem d32_26 : decode jdk_2097_method_42_code 26 = .ok (.aload_n 0, 1) := by decide +kernel
theorem d32_27 : decode jdk_2097_method_42_code 27 = .ok (.if_acmp .ne 19, 3) := by decide +kernel
theorem d32_30 : decode jdk_2097_method_42_code 30 = .ok (.iload 5, 2) := by decide +kernel
theorem d32_32 : decode jdk_2097_method_42_code 32 = .ok (.bipush 20, 2) := by decide +kernel
theorem d32_34 : decode jdk_2097_method_42_code 34 = .ok (.if_icmp .le 12, 3) := by decide +kernel
theorem d32_46 : decode jdk_2097_method_42_code 46 = .ok (.aload_n 1, 1) := by decide +kernel
theorem d32_47 : decode jdk_2097_method_42_code 47 = .ok (.getfield 28, 3) := by decide +kernel
theorem d32_50 : decode jdk_2097_method_42_code 50 = .ok (.arraylength, 1) := by decide +kernel
theorem d32_51 : decode jdk_2097_method_42_code 51 = .ok (.istore 6, 2) := by decide +kernel
theorem d32_53 : decode jdk_2097_method_42_code 53 = .ok (.iload 5, 2) := by decide +kernel
theorem d32_55 : decode jdk_2097_method_42_code 55 = .ok (.bipush 80, 2) := by decide +kernel
theorem d32_57 : decode jdk_2097_method_42_code 57 = .ok (.if_icmp .lt 10, 3) := by decide +kernel
theorem d32_67 : decode jdk_2097_method_42_code 67 = .ok (.aload_n 0, 1) := by decide +kernel
theorem d32_68 : decode jdk_2097_method_42_code 68 = .ok (.getfield 32, 3) := by decide +kernel
theorem d32_71 : decode jdk_2097_method_42_code 71 = .ok (.aload_n 1, 1) := by decide +kernel
theorem d32_72 : decode jdk_2097_method_42_code 72 = .ok (.getfield 32, 3) := by decide +kernel
theorem d32_75 : decode jdk_2097_method_42_code 75 = .ok (.if_icmp .ne 7, 3) := by decide +kernel
theorem d32_78 : decode jdk_2097_method_42_code 78 = .ok (.iconst 1, 1) := by decide +kernel
theorem d32_79 : decode jdk_2097_method_42_code 79 = .ok (.goto 4, 3) := by decide +kernel
theorem d32_82 : decode jdk_2097_method_42_code 82 = .ok (.iconst (-1), 1) := by decide +kernel
theorem d32_83 : decode jdk_2097_method_42_code 83 = .ok (.istore 7, 2) := by decide +kernel
theorem d32_85 : decode jdk_2097_method_42_code 85 = .ok (.aload_n 1, 1) := by decide +kernel
theorem d32_86 : decode jdk_2097_method_42_code 86 = .ok (.getfield 28, 3) := by decide +kernel
theorem d32_89 : decode jdk_2097_method_42_code 89 = .ok (.arraylength, 1) := by decide +kernel
theorem d32_90 : decode jdk_2097_method_42_code 90 = .ok (.iconst 1, 1) := by decide +kernel
theorem d32_91 : decode jdk_2097_method_42_code 91 = .ok (.if_icmp .ne 19, 3) := by decide +kernel
theorem d32_94 : decode jdk_2097_method_42_code 94 = .ok (.aload_n 0, 1) := by decide +kernel
theorem d32_95 : decode jdk_2097_method_42_code 95 = .ok (.getfield 28, 3) := by decide +kernel
theorem d32_98 : decode jdk_2097_method_42_code 98 = .ok (.aload_n 1, 1) := by decide +kernel
theorem d32_99 : decode jdk_2097_method_42_code 99 = .ok (.getfield 28, 3) := by decide +kernel
theorem d32_102 : decode jdk_2097_method_42_code 102 = .ok (.iconst 0, 1) := by decide +kernel
theorem d32_103 : decode jdk_2097_method_42_code 103 = .ok (.iaload, 1) := by decide +kernel
theorem d32_104 : decode jdk_2097_method_42_code 104 = .ok (.iload 7, 2) := by decide +kernel
theorem d32_106 : decode jdk_2097_method_42_code 106 = .ok (.invokestatic 403, 3) := by decide +kernel
theorem d32_109 : decode jdk_2097_method_42_code 109 = .ok (.areturn, 1) := by decide +kernel
theorem d31_0 : decode jdk_2097_method_43_code 0 = .ok (.iload_n 1, 1) := by decide +kernel
theorem d31_1 : decode jdk_2097_method_43_code 1 = .ok (.invokestatic 423, 3) := by decide +kernel
theorem d31_4 : decode jdk_2097_method_43_code 4 = .ok (.iconst 1, 1) := by decide +kernel
theorem d31_5 : decode jdk_2097_method_43_code 5 = .ok (.if_icmp .ne 20, 3) := by decide +kernel
theorem d31_8 : decode jdk_2097_method_43_code 8 = .ok (.new 23, 3) := by decide +kernel
theorem d31_11 : decode jdk_2097_method_43_code 11 = .ok (.dup, 1) := by decide +kernel
theorem d31_12 : decode jdk_2097_method_43_code 12 = .ok (.aload_n 0, 1) := by decide +kernel
theorem d31_13 : decode jdk_2097_method_43_code 13 = .ok (.iload_n 1, 1) := by decide +kernel
theorem d31_14 : decode jdk_2097_method_43_code 14 = .ok (.invokestatic 426, 3) := by decide +kernel
theorem d31_17 : decode jdk_2097_method_43_code 17 = .ok (.invokestatic 429, 3) := by decide +kernel
theorem d31_20 : decode jdk_2097_method_43_code 20 = .ok (.iload_n 2, 1) := by decide +kernel
theorem d31_21 : decode jdk_2097_method_43_code 21 = .ok (.invokespecial 175, 3) := by decide +kernel
theorem d31_24 : decode jdk_2097_method_43_code 24 = .ok (.areturn, 1) := by decide +kernel
theorem d29_0 : decode jdk_2097_method_61_code 0 = .ok (.aload_n 1, 1) := by decide +kernel
theorem d29_1 : decode jdk_2097_method_61_code 1 = .ok (.getfield 28, 3) := by decide +kernel
theorem d29_4 : decode jdk_2097_method_61_code 4 = .ok (.arraylength, 1) := by decide +kernel
theorem d29_5 : decode jdk_2097_method_61_code 5 = .ok (.bipush 80, 2) := by decide +kernel
theorem d29_7 : decode jdk_2097_method_61_code 7 = .ok (.if_icmp .lt 19, 3) := by decide +kernel
theorem d29_26 : decode jdk_2097_method_61_code 26 = .ok (.aload_n 0, 1) := by decide +kernel
theorem d29_27 : decode jdk_2097_method_61_code 27 = .ok (.aload_n 1, 1) := by decide +kernel
theorem d29_28 : decode jdk_2097_method_61_code 28 = .ok (.invokevirtual 535, 3) := by decide +kernel
theorem d29_31 : decode jdk_2097_method_61_code 31 = .ok (.areturn, 1) := by decide +kernel
theorem d28_0 : decode jdk_2097_method_62_code 0 = .ok (.new 541, 3) := by decide +kernel
theorem d28_3 : decode jdk_2097_method_62_code 3 = .ok (.dup, 1) := by decide +kernel
theorem d28_4 : decode jdk_2097_method_62_code 4 = .ok (.invokespecial 543, 3) := by decide +kernel
theorem d28_7 : decode jdk_2097_method_62_code 7 = .ok (.astore_n 2, 1) := by decide +kernel
theorem d28_8 : decode jdk_2097_method_62_code 8 = .ok (.new 541, 3) := by decide +kernel
theorem d28_11 : decode jdk_2097_method_62_code 11 = .ok (.dup, 1) := by decide +kernel
theorem d28_12 : decode jdk_2097_method_62_code 12 = .ok (.aload_n 0, 1) := by decide +kernel
theorem d28_13 : decode jdk_2097_method_62_code 13 = .ok (.getfield 28, 3) := by decide +kernel
theorem d28_16 : decode jdk_2097_method_62_code 16 = .ok (.invokespecial 544, 3) := by decide +kernel
theorem d28_19 : decode jdk_2097_method_62_code 19 = .ok (.astore_n 3, 1) := by decide +kernel
theorem d28_20 : decode jdk_2097_method_62_code 20 = .ok (.new 541, 3) := by decide +kernel
theorem d28_23 : decode jdk_2097_method_62_code 23 = .ok (.dup, 1) := by decide +kernel
theorem d28_24 : decode jdk_2097_method_62_code 24 = .ok (.aload_n 1, 1) := by decide +kernel
theorem d28_25 : decode jdk_2097_method_62_code 25 = .ok (.getfield 28, 3) := by decide +kernel
theorem d28_28 : decode jdk_2097_method_62_code 28 = .ok (.invokespecial 544, 3) := by decide +kernel
theorem d28_31 : decode jdk_2097_method_62_code 31 = .ok (.astore 4, 2) := by decide +kernel
theorem d28_33 : decode jdk_2097_method_62_code 33 = .ok (.aload_n 3, 1) := by decide +kernel
theorem d28_34 : decode jdk_2097_method_62_code 34 = .ok (.aload 4, 2) := by decide +kernel
theorem d28_36 : decode jdk_2097_method_62_code 36 = .ok (.aload_n 2, 1) := by decide +kernel
theorem d28_37 : decode jdk_2097_method_62_code 37 = .ok (.iconst 0, 1) := by decide +kernel
theorem d28_38 : decode jdk_2097_method_62_code 38 = .ok (.invokevirtual 545, 3) := by decide +kernel
theorem d28_41 : decode jdk_2097_method_62_code 41 = .ok (.pop, 1) := by decide +kernel
theorem d28_42 : decode jdk_2097_method_62_code 42 = .ok (.aload_n 2, 1) := by decide +kernel
theorem d28_43 : decode jdk_2097_method_62_code 43 = .ok (.aload_n 0, 1) := by decide +kernel
theorem d28_44 : decode jdk_2097_method_62_code 44 = .ok (.getfield 32, 3) := by decide +kernel
theorem d28_47 : decode jdk_2097_method_62_code 47 = .ok (.aload_n 1, 1) := by decide +kernel
theorem d28_48 : decode jdk_2097_method_62_code 48 = .ok (.getfield 32, 3) := by decide +kernel
theorem d28_51 : decode jdk_2097_method_62_code 51 = .ok (.imul, 1) := by decide +kernel
theorem d28_52 : decode jdk_2097_method_62_code 52 = .ok (.invokevirtual 548, 3) := by decide +kernel
theorem d28_55 : decode jdk_2097_method_62_code 55 = .ok (.areturn, 1) := by decide +kernel
theorem d24_0 : decode jdk_2097_method_73_code 0 = .ok (.aload_n 1, 1) := by decide +kernel
theorem d24_1 : decode jdk_2097_method_73_code 1 = .ok (.getfield 32, 3) := by decide +kernel
theorem d24_4 : decode jdk_2097_method_73_code 4 = .ok (.ifCond .ne 8, 3) := by decide +kernel
theorem d24_12 : decode jdk_2097_method_73_code 12 = .ok (.aload_n 0, 1) := by decide +kernel
theorem d24_13 : decode jdk_2097_method_73_code 13 = .ok (.getfield 32, 3) := by decide +kernel
theorem d24_16 : decode jdk_2097_method_73_code 16 = .ok (.ifCond .ne 8, 3) := by decide +kernel
theorem d24_19 : decode jdk_2097_method_73_code 19 = .ok (.aload_n 1, 1) := by decide +kernel
theorem d24_20 : decode jdk_2097_method_73_code 20 = .ok (.invokevirtual 485, 3) := by decide +kernel
theorem d24_23 : decode jdk_2097_method_73_code 23 = .ok (.areturn, 1) := by decide +kernel
theorem d24_24 : decode jdk_2097_method_73_code 24 = .ok (.new 541, 3) := by decide +kernel
theorem d24_27 : decode jdk_2097_method_73_code 27 = .ok (.dup, 1) := by decide +kernel
theorem d24_28 : decode jdk_2097_method_73_code 28 = .ok (.aload_n 0, 1) := by decide +kernel
theorem d24_29 : decode jdk_2097_method_73_code 29 = .ok (.invokespecial 567, 3) := by decide +kernel
theorem d24_32 : decode jdk_2097_method_73_code 32 = .ok (.astore_n 2, 1) := by decide +kernel
theorem d24_33 : decode jdk_2097_method_73_code 33 = .ok (.new 541, 3) := by decide +kernel
theorem d24_36 : decode jdk_2097_method_73_code 36 = .ok (.dup, 1) := by decide +kernel
theorem d24_37 : decode jdk_2097_method_73_code 37 = .ok (.aload_n 1, 1) := by decide +kernel
theorem d24_38 : decode jdk_2097_method_73_code 38 = .ok (.invokespecial 567, 3) := by decide +kernel
theorem d24_41 : decode jdk_2097_method_73_code 41 = .ok (.astore_n 3, 1) := by decide +kernel
theorem d24_42 : decode jdk_2097_method_73_code 42 = .ok (.aload_n 2, 1) := by decide +kernel
theorem d24_43 : decode jdk_2097_method_73_code 43 = .ok (.aload_n 3, 1) := by decide +kernel
theorem d24_44 : decode jdk_2097_method_73_code 44 = .ok (.invokevirtual 598, 3) := by decide +kernel
theorem d24_47 : decode jdk_2097_method_73_code 47 = .ok (.astore 4, 2) := by decide +kernel
theorem d24_49 : decode jdk_2097_method_73_code 49 = .ok (.aload 4, 2) := by decide +kernel
theorem d24_51 : decode jdk_2097_method_73_code 51 = .ok (.iconst 1, 1) := by decide +kernel
theorem d24_52 : decode jdk_2097_method_73_code 52 = .ok (.invokevirtual 548, 3) := by decide +kernel
theorem d24_55 : decode jdk_2097_method_73_code 55 = .ok (.areturn, 1) := by decide +kernel
theorem d2_0 : decode jdk_2097_method_74_code 0 = .ok (.bipush 32, 2) := by decide +kernel
theorem d2_2 : decode jdk_2097_method_74_code 2 = .ok (.iload_n 0, 1) := by decide +kernel
theorem d2_3 : decode jdk_2097_method_74_code 3 = .ok (.invokestatic 602, 3) := by decide +kernel
theorem d2_6 : decode jdk_2097_method_74_code 6 = .ok (.isub, 1) := by decide +kernel
theorem d2_7 : decode jdk_2097_method_74_code 7 = .ok (.ireturn, 1) := by decide +kernel
theorem d23_0 : decode jdk_2097_method_79_code 0 = .ok (.aload_n 0, 1) := by decide +kernel
theorem d23_1 : decode jdk_2097_method_79_code 1 = .ok (.getfield 32, 3) := by decide +kernel
theorem d23_4 : decode jdk_2097_method_79_code 4 = .ok (.ifCond .lt 7, 3) := by decide +kernel
theorem d23_7 : decode jdk_2097_method_79_code 7 = .ok (.aload_n 0, 1) := by decide +kernel
theorem d23_8 : decode jdk_2097_method_79_code 8 = .ok (.goto 7, 3) := by decide +kernel
theorem d23_15 : decode jdk_2097_method_79_code 15 = .ok (.areturn, 1) := by decide +kernel
theorem d34_0 : decode jdk_2097_method_81_code 0 = .ok (.aload_n 0, 1) := by decide +kernel
theorem d34_1 : decode jdk_2097_method_81_code 1 = .ok (.getfield 32, 3) := by decide +kernel
theorem d34_4 : decode jdk_2097_method_81_code 4 = .ok (.ireturn, 1) := by decide +kernel
theorem d25_0 : decode jdk_2101_method_13_code 0 = .ok (.aload_n 0, 1) := by decide +kernel
theorem d25_1 : decode jdk_2101_method_13_code 1 = .ok (.aload_n 0, 1) := by decide +kernel
theorem d25_2 : decode jdk_2101_method_13_code 2 = .ok (.iconst 0, 1) := by decide +kernel
theorem d25_3 : decode jdk_2101_method_13_code 3 = .ok (.dup_x1, 1) := by decide +kernel
theorem d25_4 : decode jdk_2101_method_13_code 4 = .ok (.putfield 21, 3) := by decide +kernel
theorem d25_7 : decode jdk_2101_method_13_code 7 = .ok (.putfield 11, 3) := by decide +kernel
theorem d25_10 : decode jdk_2101_method_13_code 10 = .ok (.iconst 0, 1) := by decide +kernel
theorem d25_11 : decode jdk_2101_method_13_code 11 = .ok (.istore_n 1, 1) := by decide +kernel
theorem d25_12 : decode jdk_2101_method_13_code 12 = .ok (.aload_n 0, 1) := by decide +kernel
theorem d25_13 : decode jdk_2101_method_13_code 13 = .ok (.getfield 17, 3) := by decide +kernel
theorem d25_16 : decode jdk_2101_method_13_code 16 = .ok (.arraylength, 1) := by decide +kernel
theorem d25_17 : decode jdk_2101_method_13_code 17 = .ok (.istore_n 2, 1) := by decide +kernel
theorem d25_18 : decode jdk_2101_method_13_code 18 = .ok (.iload_n 1, 1) := by decide +kernel
theorem d25_19 : decode jdk_2101_method_13_code 19 = .ok (.iload_n 2, 1) := by decide +kernel
theorem d25_20 : decode jdk_2101_method_13_code 20 = .ok (.if_icmp .ge 16, 3) := by decide +kernel
theorem d25_23 : decode jdk_2101_method_13_code 23 = .ok (.aload_n 0, 1) := by decide +kernel
theorem d25_24 : decode jdk_2101_method_13_code 24 = .ok (.getfield 17, 3) := by decide +kernel
theorem d25_27 : decode jdk_2101_method_13_code 27 = .ok (.iload_n 1, 1) := by decide +kernel
theorem d25_28 : decode jdk_2101_method_13_code 28 = .ok (.iconst 0, 1) := by decide +kernel
theorem d25_29 : decode jdk_2101_method_13_code 29 = .ok (.iastore, 1) := by decide +kernel
theorem d25_30 : decode jdk_2101_method_13_code 30 = .ok (.iinc 1 1, 3) := by decide +kernel
theorem d25_33 : decode jdk_2101_method_13_code 33 = .ok (.goto (-15), 3) := by decide +kernel
theorem d25_36 : decode jdk_2101_method_13_code 36 = .ok (.return_, 1) := by decide +kernel
theorem d9_0 : decode jdk_2101_method_15_code 0 = .ok (.aload_n 1, 1) := by decide +kernel
theorem d9_1 : decode jdk_2101_method_15_code 1 = .ok (.getfield 21, 3) := by decide +kernel
theorem d9_4 : decode jdk_2101_method_15_code 4 = .ok (.istore_n 2, 1) := by decide +kernel
theorem d9_5 : decode jdk_2101_method_15_code 5 = .ok (.aload_n 0, 1) := by decide +kernel
theorem d9_6 : decode jdk_2101_method_15_code 6 = .ok (.getfield 21, 3) := by decide +kernel
theorem d9_9 : decode jdk_2101_method_15_code 9 = .ok (.iload_n 2, 1) := by decide +kernel
theorem d9_10 : decode jdk_2101_method_15_code 10 = .ok (.if_icmp .ge 5, 3) := by decide +kernel
theorem d9_15 : decode jdk_2101_method_15_code 15 = .ok (.aload_n 0, 1) := by decide +kernel
theorem d9_16 : decode jdk_2101_method_15_code 16 = .ok (.getfield 21, 3) := by decide +kernel
theorem d9_19 : decode jdk_2101_method_15_code 19 = .ok (.iload_n 2, 1) := by decide +kernel
theorem d9_20 : decode jdk_2101_method_15_code 20 = .ok (.if_icmp .le 5, 3) := by decide +kernel
theorem d9_23 : decode jdk_2101_method_15_code 23 = .ok (.iconst 1, 1) := by decide +kernel
theorem d9_24 : decode jdk_2101_method_15_code 24 = .ok (.ireturn, 1) := by decide +kernel
theorem d9_25 : decode jdk_2101_method_15_code 25 = .ok (.aload_n 1, 1) := by decide +kernel
theorem d9_26 : decode jdk_2101_method_15_code 26 = .ok (.getfield 17, 3) := by decide +kernel
theorem d9_29 : decode jdk_2101_method_15_code 29 = .ok (.astore_n 3, 1) := by decide +kernel
theorem d9_30 : decode jdk_2101_method_15_code 30 = .ok (.aload_n 0, 1) := by decide +kernel
theorem d9_31 : decode jdk_2101_method_15_code 31 = .ok (.getfield 11, 3) := by decide +kernel
theorem d9_34 : decode jdk_2101_method_15_code 34 = .ok (.istore 4, 2) := by decide +kernel
theorem d9_36 : decode jdk_2101_method_15_code 36 = .ok (.aload_n 1, 1) := by decide +kernel
theorem d9_37 : decode jdk_2101_method_15_code 37 = .ok (.getfield 11, 3) := by decide +kernel
theorem d9_40 : decode jdk_2101_method_15_code 40 = .ok (.istore 5, 2) := by decide +kernel
theorem d9_42 : decode jdk_2101_method_15_code 42 = .ok (.iload 4, 2) := by decide +kernel
theorem d9_44 : decode jdk_2101_method_15_code 44 = .ok (.aload_n 0, 1) := by decide +kernel
theorem d9_45 : decode jdk_2101_method_15_code 45 = .ok (.getfield 21, 3) := by decide +kernel
theorem d9_48 : decode jdk_2101_method_15_code 48 = .ok (.aload_n 0, 1) := by decide +kernel
theorem d9_49 : decode jdk_2101_method_15_code 49 = .ok (.getfield 11, 3) := by decide +kernel
theorem d9_52 : decode jdk_2101_method_15_code 52 = .ok (.iadd, 1) := by decide +kernel
theorem d9_53 : decode jdk_2101_method_15_code 53 = .ok (.if_icmp .ge 51, 3) := by decide +kernel
theorem d9_56 : decode jdk_2101_method_15_code 56 = .ok (.aload_n 0, 1) := by decide +kernel
theorem d9_57 : decode jdk_2101_method_15_code 57 = .ok (.getfield 17, 3) := by decide +kernel
theorem d9_60 : decode jdk_2101_method_15_code 60 = .ok (.iload 4, 2) := by decide +kernel
theorem d9_62 : decode jdk_2101_method_15_code 62 = .ok (.iaload, 1) := by decide +kernel
theorem d9_63 : decode jdk_2101_method_15_code 63 = .ok (.ldc 88, 2) := by decide +kernel
theorem d9_65 : decode jdk_2101_method_15_code 65 = .ok (.iadd, 1) := by decide +kernel
theorem d9_66 : decode jdk_2101_method_15_code 66 = .ok (.istore 6, 2) := by decide +kernel
theorem d9_68 : decode jdk_2101_method_15_code 68 = .ok (.aload_n 3, 1) := by decide +kernel
theorem d9_69 : decode jdk_2101_method_15_code 69 = .ok (.iload 5, 2) := by decide +kernel
theorem d9_71 : decode jdk_2101_method_15_code 71 = .ok (.iaload, 1) := by decide +kernel
theorem d9_72 : decode jdk_2101_method_15_code 72 = .ok (.ldc 88, 2) := by decide +kernel
theorem d9_74 : decode jdk_2101_method_15_code 74 = .ok (.iadd, 1) := by decide +kernel
theorem d9_75 : decode jdk_2101_method_15_code 75 = .ok (.istore 7, 2) := by decide +kernel
theorem d9_77 : decode jdk_2101_method_15_code 77 = .ok (.iload 6, 2) := by decide +kernel
theorem d9_79 : decode jdk_2101_method_15_code 79 = .ok (.iload 7, 2) := by decide +kernel
theorem d9_81 : decode jdk_2101_method_15_code 81 = .ok (.if_icmp .ge 5, 3) := by decide +kernel
theorem d9_86 : decode jdk_2101_method_15_code 86 = .ok (.iload 6, 2) := by decide +kernel
theorem d9_88 : decode jdk_2101_method_15_code 88 = .ok (.iload 7, 2) := by decide +kernel
theorem d9_90 : decode jdk_2101_method_15_code 90 = .ok (.if_icmp .le 5, 3) := by decide +kernel
theorem d9_93 : decode jdk_2101_method_15_code 93 = .ok (.iconst 1, 1) := by decide +kernel
theorem d9_94 : decode jdk_2101_method_15_code 94 = .ok (.ireturn, 1) := by decide +kernel
theorem d9_95 : decode jdk_2101_method_15_code 95 = .ok (.iinc 4 1, 3) := by decide +kernel
theorem d9_98 : decode jdk_2101_method_15_code 98 = .ok (.iinc 5 1, 3) := by decide +kernel
theorem d9_101 : decode jdk_2101_method_15_code 101 = .ok (.goto (-59), 3) := by decide +kernel
theorem d9_104 : decode jdk_2101_method_15_code 104 = .ok (.iconst 0, 1) := by decide +kernel
theorem d9_105 : decode jdk_2101_method_15_code 105 = .ok (.ireturn, 1) := by decide +kernel
theorem d5_0 : decode jdk_2101_method_18_code 0 = .ok (.aload_n 0, 1) := by decide +kernel
theorem d5_1 : decode jdk_2101_method_18_code 1 = .ok (.getfield 21, 3) := by decide +kernel
theorem d5_4 : decode jdk_2101_method_18_code 4 = .ok (.ifCond .ne 5, 3) := by decide +kernel
theorem d5_9 : decode jdk_2101_method_18_code 9 = .ok (.aload_n 0, 1) := by decide +kernel
theorem d5_10 : decode jdk_2101_method_18_code 10 = .ok (.getfield 21, 3) := by decide +kernel
theorem d5_13 : decode jdk_2101_method_18_code 13 = .ok (.iconst 1, 1) := by decide +kernel
theorem d5_14 : decode jdk_2101_method_18_code 14 = .ok (.isub, 1) := by decide +kernel
theorem d5_15 : decode jdk_2101_method_18_code 15 = .ok (.istore_n 1, 1) := by decide +kernel
theorem d5_16 : decode jdk_2101_method_18_code 16 = .ok (.iload_n 1, 1) := by decide +kernel
theorem d5_17 : decode jdk_2101_method_18_code 17 = .ok (.ifCond .le 23, 3) := by decide +kernel
theorem d5_20 : decode jdk_2101_method_18_code 20 = .ok (.aload_n 0, 1) := by decide +kernel
theorem d5_21 : decode jdk_2101_method_18_code 21 = .ok (.getfield 17, 3) := by decide +kernel
theorem d5_24 : decode jdk_2101_method_18_code 24 = .ok (.iload_n 1, 1) := by decide +kernel
theorem d5_25 : decode jdk_2101_method_18_code 25 = .ok (.aload_n 0, 1) := by decide +kernel
theorem d5_26 : decode jdk_2101_method_18_code 26 = .ok (.getfield 11, 3) := by decide +kernel
theorem d5_29 : decode jdk_2101_method_18_code 29 = .ok (.iadd, 1) := by decide +kernel
theorem d5_30 : decode jdk_2101_method_18_code 30 = .ok (.iaload, 1) := by decide +kernel
theorem d5_31 : decode jdk_2101_method_18_code 31 = .ok (.ifCond .ne 9, 3) := by decide +kernel
theorem d5_34 : decode jdk_2101_method_18_code 34 = .ok (.iinc 1 (-1), 3) := by decide +kernel
theorem d5_37 : decode jdk_2101_method_18_code 37 = .ok (.goto (-21), 3) := by decide +kernel
theorem d5_40 : decode jdk_2101_method_18_code 40 = .ok (.aload_n 0, 1) := by decide +kernel
theorem d5_41 : decode jdk_2101_method_18_code 41 = .ok (.getfield 17, 3) := by decide +kernel
theorem d5_44 : decode jdk_2101_method_18_code 44 = .ok (.iload_n 1, 1) := by decide +kernel
theorem d5_45 : decode jdk_2101_method_18_code 45 = .ok (.aload_n 0, 1) := by decide +kernel
theorem d5_46 : decode jdk_2101_method_18_code 46 = .ok (.getfield 11, 3) := by decide +kernel
theorem d5_49 : decode jdk_2101_method_18_code 49 = .ok (.iadd, 1) := by decide +kernel
theorem d5_50 : decode jdk_2101_method_18_code 50 = .ok (.iaload, 1) := by decide +kernel
theorem d5_51 : decode jdk_2101_method_18_code 51 = .ok (.istore_n 2, 1) := by decide +kernel
theorem d5_52 : decode jdk_2101_method_18_code 52 = .ok (.iload_n 2, 1) := by decide +kernel
theorem d5_53 : decode jdk_2101_method_18_code 53 = .ok (.ifCond .ne 5, 3) := by decide +kernel
theorem d5_58 : decode jdk_2101_method_18_code 58 = .ok (.aload_n 0, 1) := by decide +kernel
theorem d5_59 : decode jdk_2101_method_18_code 59 = .ok (.getfield 21, 3) := by decide +kernel
theorem d5_62 : decode jdk_2101_method_18_code 62 = .ok (.iconst 1, 1) := by decide +kernel
theorem d5_63 : decode jdk_2101_method_18_code 63 = .ok (.isub, 1) := by decide +kernel
theorem d5_64 : decode jdk_2101_method_18_code 64 = .ok (.iload_n 1, 1) := by decide +kernel
theorem d5_65 : decode jdk_2101_method_18_code 65 = .ok (.isub, 1) := by decide +kernel
theorem d5_66 : decode jdk_2101_method_18_code 66 = .ok (.iconst 5, 1) := by decide +kernel
theorem d5_67 : decode jdk_2101_method_18_code 67 = .ok (.ishl, 1) := by decide +kernel
theorem d5_68 : decode jdk_2101_method_18_code 68 = .ok (.iload_n 2, 1) := by decide +kernel
theorem d5_69 : decode jdk_2101_method_18_code 69 = .ok (.invokestatic 89, 3) := by decide +kernel
theorem d5_72 : decode jdk_2101_method_18_code 72 = .ok (.iadd, 1) := by decide +kernel
theorem d5_73 : decode jdk_2101_method_18_code 73 = .ok (.ireturn, 1) := by decide +kernel
theorem d13_0 : decode jdk_2101_method_1_code 0 = .ok (.aload_n 0, 1) := by decide +kernel
theorem d13_1 : decode jdk_2101_method_1_code 1 = .ok (.invokespecial 5, 3) := by decide +kernel
theorem d13_4 : decode jdk_2101_method_1_code 4 = .ok (.aload_n 0, 1) := by decide +kernel
theorem d13_5 : decode jdk_2101_method_1_code 5 = .ok (.iconst 0, 1) := by decide +kernel
theorem d13_6 : decode jdk_2101_method_1_code 6 = .ok (.putfield 11, 3) := by decide +kernel
theorem d13_9 : decode jdk_2101_method_1_code 9 = .ok (.aload_n 0, 1) := by decide +kernel
theorem d13_10 : decode jdk_2101_method_1_code 10 = .ok (.iconst 1, 1) := by decide +kernel
theorem d13_11 : decode jdk_2101_method_1_code 11 = .ok (.newarray .int, 2) := by decide +kernel
theorem d13_13 : decode jdk_2101_method_1_code 13 = .ok (.putfield 17, 3) := by decide +kernel
theorem d13_16 : decode jdk_2101_method_1_code 16 = .ok (.aload_n 0, 1) := by decide +kernel
theorem d13_17 : decode jdk_2101_method_1_code 17 = .ok (.iconst 0, 1) := by decide +kernel
theorem d13_18 : decode jdk_2101_method_1_code 18 = .ok (.putfield 21, 3) := by decide +kernel
theorem d13_21 : decode jdk_2101_method_1_code 21 = .ok (.return_, 1) := by decide +kernel
theorem d10_0 : decode jdk_2101_method_21_code 0 = .ok (.aload_n 0, 1) := by decide +kernel
theorem d10_1 : decode jdk_2101_method_21_code 1 = .ok (.getfield 21, 3) := by decide +kernel
theorem d10_4 : decode jdk_2101_method_21_code 4 = .ok (.ifCond .ne 9, 3) := by decide +kernel
theorem d10_13 : decode jdk_2101_method_21_code 13 = .ok (.aload_n 0, 1) := by decide +kernel
theorem d10_14 : decode jdk_2101_method_21_code 14 = .ok (.getfield 11, 3) := by decide +kernel
theorem d10_17 : decode jdk_2101_method_21_code 17 = .ok (.istore_n 1, 1) := by decide +kernel
theorem d10_18 : decode jdk_2101_method_21_code 18 = .ok (.aload_n 0, 1) := by decide +kernel
theorem d10_19 : decode jdk_2101_method_21_code 19 = .ok (.getfield 17, 3) := by decide +kernel
theorem d10_22 : decode jdk_2101_method_21_code 22 = .ok (.iload_n 1, 1) := by decide +kernel
theorem d10_23 : decode jdk_2101_method_21_code 23 = .ok (.iaload, 1) := by decide +kernel
theorem d10_24 : decode jdk_2101_method_21_code 24 = .ok (.ifCond .eq 4, 3) := by decide +kernel
theorem d10_27 : decode jdk_2101_method_21_code 27 = .ok (.return_, 1) := by decide +kernel
theorem d8_0 : decode jdk_2101_method_35_code 0 = .ok (.aload_n 0, 1) := by decide +kernel
theorem d8_1 : decode jdk_2101_method_35_code 1 = .ok (.getfield 21, 3) := by decide +kernel
theorem d8_4 : decode jdk_2101_method_35_code 4 = .ok (.ifCond .ne 4, 3) := by decide +kernel
theorem d8_8 : decode jdk_2101_method_35_code 8 = .ok (.iload_n 1, 1) := by decide +kernel
theorem d8_9 : decode jdk_2101_method_35_code 9 = .ok (.iconst 5, 1) := by decide +kernel
theorem d8_10 : decode jdk_2101_method_35_code 10 = .ok (.iushr, 1) := by decide +kernel
theorem d8_11 : decode jdk_2101_method_35_code 11 = .ok (.istore_n 2, 1) := by decide +kernel
theorem d8_12 : decode jdk_2101_method_35_code 12 = .ok (.iload_n 1, 1) := by decide +kernel
theorem d8_13 : decode jdk_2101_method_35_code 13 = .ok (.bipush 31, 2) := by decide +kernel
theorem d8_15 : decode jdk_2101_method_35_code 15 = .ok (.iand, 1) := by decide +kernel
theorem d8_16 : decode jdk_2101_method_35_code 16 = .ok (.istore_n 3, 1) := by decide +kernel
theorem d8_17 : decode jdk_2101_method_35_code 17 = .ok (.aload_n 0, 1) := by decide +kernel
theorem d8_18 : decode jdk_2101_method_35_code 18 = .ok (.dup, 1) := by decide +kernel
theorem d8_19 : decode jdk_2101_method_35_code 19 = .ok (.getfield 21, 3) := by decide +kernel
theorem d8_22 : decode jdk_2101_method_35_code 22 = .ok (.iload_n 2, 1) := by decide +kernel
theorem d8_23 : decode jdk_2101_method_35_code 23 = .ok (.isub, 1) := by decide +kernel
theorem d8_24 : decode jdk_2101_method_35_code 24 = .ok (.putfield 21, 3) := by decide +kernel
theorem d8_27 : decode jdk_2101_method_35_code 27 = .ok (.iload_n 3, 1) := by decide +kernel
theorem d8_28 : decode jdk_2101_method_35_code 28 = .ok (.ifCond .ne 4, 3) := by decide +kernel
theorem d8_31 : decode jdk_2101_method_35_code 31 = .ok (.return_, 1) := by decide +kernel
theorem d8_32 : decode jdk_2101_method_35_code 32 = .ok (.aload_n 0, 1) := by decide +kernel
theorem d8_33 : decode jdk_2101_method_35_code 33 = .ok (.getfield 17, 3) := by decide +kernel
theorem d8_36 : decode jdk_2101_method_35_code 36 = .ok (.aload_n 0, 1) := by decide +kernel
theorem d8_37 : decode jdk_2101_method_35_code 37 = .ok (.getfield 11, 3) := by decide +kernel
theorem d8_40 : decode jdk_2101_method_35_code 40 = .ok (.iaload, 1) := by decide +kernel
theorem d8_41 : decode jdk_2101_method_35_code 41 = .ok (.invokestatic 112, 3) := by decide +kernel
theorem d8_44 : decode jdk_2101_method_35_code 44 = .ok (.istore 4, 2) := by decide +kernel
theorem d8_46 : decode jdk_2101_method_35_code 46 = .ok (.iload_n 3, 1) := by decide +kernel
theorem d8_47 : decode jdk_2101_method_35_code 47 = .ok (.iload 4, 2) := by decide +kernel
theorem d8_49 : decode jdk_2101_method_35_code 49 = .ok (.if_icmp .lt 24, 3) := by decide +kernel
theorem d8_52 : decode jdk_2101_method_35_code 52 = .ok (.aload_n 0, 1) := by decide +kernel
theorem d8_53 : decode jdk_2101_method_35_code 53 = .ok (.bipush 32, 2) := by decide +kernel
theorem d8_55 : decode jdk_2101_method_35_code 55 = .ok (.iload_n 3, 1) := by decide +kernel
theorem d8_56 : decode jdk_2101_method_35_code 56 = .ok (.isub, 1) := by decide +kernel
theorem d8_57 : decode jdk_2101_method_35_code 57 = .ok (.invokevirtual 115, 3) := by decide +kernel
theorem d8_60 : decode jdk_2101_method_35_code 60 = .ok (.aload_n 0, 1) := by decide +kernel
theorem d8_61 : decode jdk_2101_method_35_code 61 = .ok (.dup, 1) := by decide +kernel
theorem d8_62 : decode jdk_2101_method_35_code 62 = .ok (.getfield 21, 3) := by decide +kernel
theorem d8_65 : decode jdk_2101_method_35_code 65 = .ok (.iconst 1, 1) := by decide +kernel
theorem d8_66 : decode jdk_2101_method_35_code 66 = .ok (.isub, 1) := by decide +kernel
theorem d8_67 : decode jdk_2101_method_35_code 67 = .ok (.putfield 21, 3) := by decide +kernel
theorem d8_70 : decode jdk_2101_method_35_code 70 = .ok (.goto 8, 3) := by decide +kernel
theorem d8_73 : decode jdk_2101_method_35_code 73 = .ok (.aload_n 0, 1) := by decide +kernel
theorem d8_74 : decode jdk_2101_method_35_code 74 = .ok (.iload_n 3, 1) := by decide +kernel
theorem d8_75 : decode jdk_2101_method_35_code 75 = .ok (.invokevirtual 118, 3) := by decide +kernel
theorem d8_78 : decode jdk_2101_method_35_code 78 = .ok (.return_, 1) := by decide +kernel
theorem d19_0 : decode jdk_2101_method_3_code 0 = .ok (.aload_n 0, 1) := by decide +kernel
theorem d19_1 : decode jdk_2101_method_3_code 1 = .ok (.invokespecial 5, 3) := by decide +kernel
theorem d19_4 : decode jdk_2101_method_3_code 4 = .ok (.aload_n 0, 1) := by decide +kernel
theorem d19_5 : decode jdk_2101_method_3_code 5 = .ok (.iconst 0, 1) := by decide +kernel
theorem d19_6 : decode jdk_2101_method_3_code 6 = .ok (.putfield 11, 3) := by decide +kernel
theorem d19_9 : decode jdk_2101_method_3_code 9 = .ok (.aload_n 0, 1) := by decide +kernel
theorem d19_10 : decode jdk_2101_method_3_code 10 = .ok (.aload_n 1, 1) := by decide +kernel
theorem d19_11 : decode jdk_2101_method_3_code 11 = .ok (.putfield 17, 3) := by decide +kernel
theorem d19_14 : decode jdk_2101_method_3_code 14 = .ok (.aload_n 0, 1) := by decide +kernel
theorem d19_15 : decode jdk_2101_method_3_code 15 = .ok (.aload_n 1, 1) := by decide +kernel
theorem d19_16 : decode jdk_2101_method_3_code 16 = .ok (.arraylength, 1) := by decide +kernel
theorem d19_17 : decode jdk_2101_method_3_code 17 = .ok (.putfield 21, 3) := by decide +kernel
theorem d19_20 : decode jdk_2101_method_3_code 20 = .ok (.return_, 1) := by decide +kernel
theorem d6_0 : decode jdk_2101_method_41_code 0 = .ok (.aload_n 0, 1) := by decide +kernel
theorem d6_1 : decode jdk_2101_method_41_code 1 = .ok (.getfield 17, 3) := by decide +kernel
theorem d6_4 : decode jdk_2101_method_41_code 4 = .ok (.astore_n 2, 1) := by decide +kernel
theorem d6_5 : decode jdk_2101_method_41_code 5 = .ok (.bipush 32, 2) := by decide +kernel
theorem d6_7 : decode jdk_2101_method_41_code 7 = .ok (.iload_n 1, 1) := by decide +kernel
theorem d6_8 : decode jdk_2101_method_41_code 8 = .ok (.isub, 1) := by decide +kernel
theorem d6_9 : decode jdk_2101_method_41_code 9 = .ok (.istore_n 3, 1) := by decide +kernel
theorem d6_10 : decode jdk_2101_method_41_code 10 = .ok (.aload_n 0, 1) := by decide +kernel
theorem d6_11 : decode jdk_2101_method_41_code 11 = .ok (.getfield 11, 3) := by decide +kernel
theorem d6_14 : decode jdk_2101_method_41_code 14 = .ok (.aload_n 0, 1) := by decide +kernel
theorem d6_15 : decode jdk_2101_method_41_code 15 = .ok (.getfield 21, 3) := by decide +kernel
theorem d6_18 : decode jdk_2101_method_41_code 18 = .ok (.iadd, 1) := by decide +kernel
theorem d6_19 : decode jdk_2101_method_41_code 19 = .ok (.iconst 1, 1) := by decide +kernel
theorem d6_20 : decode jdk_2101_method_41_code 20 = .ok (.isub, 1) := by decide +kernel
theorem d6_21 : decode jdk_2101_method_41_code 21 = .ok (.istore 4, 2) := by decide +kernel
theorem d6_23 : decode jdk_2101_method_41_code 23 = .ok (.aload_n 2, 1) := by decide +kernel
theorem d6_24 : decode jdk_2101_method_41_code 24 = .ok (.iload 4, 2) := by decide +kernel
theorem d6_26 : decode jdk_2101_method_41_code 26 = .ok (.iaload, 1) := by decide +kernel
theorem d6_27 : decode jdk_2101_method_41_code 27 = .ok (.istore 5, 2) := by decide +kernel
theorem d6_29 : decode jdk_2101_method_41_code 29 = .ok (.iload 4, 2) := by decide +kernel
theorem d6_31 : decode jdk_2101_method_41_code 31 = .ok (.aload_n 0, 1) := by decide +kernel
theorem d6_32 : decode jdk_2101_method_41_code 32 = .ok (.getfield 11, 3) := by decide +kernel
theorem d6_35 : decode jdk_2101_method_41_code 35 = .ok (.if_icmp .le 34, 3) := by decide +kernel
theorem d6_38 : decode jdk_2101_method_41_code 38 = .ok (.iload 5, 2) := by decide +kernel
theorem d6_40 : decode jdk_2101_method_41_code 40 = .ok (.istore 6, 2) := by decide +kernel
theorem d6_42 : decode jdk_2101_method_41_code 42 = .ok (.aload_n 2, 1) := by decide +kernel
theorem d6_43 : decode jdk_2101_method_41_code 43 = .ok (.iload 4, 2) := by decide +kernel
theorem d6_45 : decode jdk_2101_method_41_code 45 = .ok (.iconst 1, 1) := by decide +kernel
theorem d6_46 : decode jdk_2101_method_41_code 46 = .ok (.isub, 1) := by decide +kernel
theorem d6_47 : decode jdk_2101_method_41_code 47 = .ok (.iaload, 1) := by decide +kernel
theorem d6_48 : decode jdk_2101_method_41_code 48 = .ok (.istore 5, 2) := by decide +kernel
theorem d6_50 : decode jdk_2101_method_41_code 50 = .ok (.aload_n 2, 1) := by decide +kernel
theorem d6_51 : decode jdk_2101_method_41_code 51 = .ok (.iload 4, 2) := by decide +kernel
theorem d6_53 : decode jdk_2101_method_41_code 53 = .ok (.iload 5, 2) := by decide +kernel
theorem d6_55 : decode jdk_2101_method_41_code 55 = .ok (.iload_n 3, 1) := by decide +kernel
theorem d6_56 : decode jdk_2101_method_41_code 56 = .ok (.ishl, 1) := by decide +kernel
theorem d6_57 : decode jdk_2101_method_41_code 57 = .ok (.iload 6, 2) := by decide +kernel
theorem d6_59 : decode jdk_2101_method_41_code 59 = .ok (.iload_n 1, 1) := by decide +kernel
theorem d6_60 : decode jdk_2101_method_41_code 60 = .ok (.iushr, 1) := by decide +kernel
theorem d6_61 : decode jdk_2101_method_41_code 61 = .ok (.ior, 1) := by decide +kernel
theorem d6_62 : decode jdk_2101_method_41_code 62 = .ok (.iastore, 1) := by decide +kernel
theorem d6_63 : decode jdk_2101_method_41_code 63 = .ok (.iinc 4 (-1), 3) := by decide +kernel
theorem d6_66 : decode jdk_2101_method_41_code 66 = .ok (.goto (-37), 3) := by decide +kernel
theorem d6_69 : decode jdk_2101_method_41_code 69 = .ok (.aload_n 2, 1) := by decide +kernel
theorem d6_70 : decode jdk_2101_method_41_code 70 = .ok (.aload_n 0, 1) := by decide +kernel
theorem d6_71 : decode jdk_2101_method_41_code 71 = .ok (.getfield 11, 3) := by decide +kernel
theorem d6_74 : decode jdk_2101_method_41_code 74 = .ok (.dup2, 1) := by decide +kernel
theorem d6_75 : decode jdk_2101_method_41_code 75 = .ok (.iaload, 1) := by decide +kernel
theorem d6_76 : decode jdk_2101_method_41_code 76 = .ok (.iload_n 1, 1) := by decide +kernel
theorem d6_77 : decode jdk_2101_method_41_code 77 = .ok (.iushr, 1) := by decide +kernel
theorem d6_78 : decode jdk_2101_method_41_code 78 = .ok (.iastore, 1) := by decide +kernel
theorem d6_79 : decode jdk_2101_method_41_code 79 = .ok (.return_, 1) := by decide +kernel
theorem d7_0 : decode jdk_2101_method_42_code 0 = .ok (.aload_n 0, 1) := by decide +kernel
theorem d7_1 : decode jdk_2101_method_42_code 1 = .ok (.getfield 17, 3) := by decide +kernel
theorem d7_4 : decode jdk_2101_method_42_code 4 = .ok (.astore_n 2, 1) := by decide +kernel
theorem d7_5 : decode jdk_2101_method_42_code 5 = .ok (.bipush 32, 2) := by decide +kernel
theorem d7_7 : decode jdk_2101_method_42_code 7 = .ok (.iload_n 1, 1) := by decide +kernel
theorem d7_8 : decode jdk_2101_method_42_code 8 = .ok (.isub, 1) := by decide +kernel
theorem d7_9 : decode jdk_2101_method_42_code 9 = .ok (.istore_n 3, 1) := by decide +kernel
theorem d7_10 : decode jdk_2101_method_42_code 10 = .ok (.aload_n 0, 1) := by decide +kernel
theorem d7_11 : decode jdk_2101_method_42_code 11 = .ok (.getfield 11, 3) := by decide +kernel
theorem d7_14 : decode jdk_2101_method_42_code 14 = .ok (.istore 4, 2) := by decide +kernel
theorem d7_16 : decode jdk_2101_method_42_code 16 = .ok (.aload_n 2, 1) := by decide +kernel
theorem d7_17 : decode jdk_2101_method_42_code 17 = .ok (.iload 4, 2) := by decide +kernel
theorem d7_19 : decode jdk_2101_method_42_code 19 = .ok (.iaload, 1) := by decide +kernel
theorem d7_20 : decode jdk_2101_method_42_code 20 = .ok (.istore 5, 2) := by decide +kernel
theorem d7_22 : decode jdk_2101_method_42_code 22 = .ok (.iload 4, 2) := by decide +kernel
theorem d7_24 : decode jdk_2101_method_42_code 24 = .ok (.aload_n 0, 1) := by decide +kernel
theorem d7_25 : decode jdk_2101_method_42_code 25 = .ok (.getfield 21, 3) := by decide +kernel
theorem d7_28 : decode jdk_2101_method_42_code 28 = .ok (.iadd, 1) := by decide +kernel
theorem d7_29 : decode jdk_2101_method_42_code 29 = .ok (.iconst 1, 1) := by decide +kernel
theorem d7_30 : decode jdk_2101_method_42_code 30 = .ok (.isub, 1) := by decide +kernel
theorem d7_31 : decode jdk_2101_method_42_code 31 = .ok (.istore 6, 2) := by decide +kernel
theorem d7_33 : decode jdk_2101_method_42_code 33 = .ok (.iload 4, 2) := by decide +kernel
theorem d7_35 : decode jdk_2101_method_42_code 35 = .ok (.iload 6, 2) := by decide +kernel
theorem d7_37 : decode jdk_2101_method_42_code 37 = .ok (.if_icmp .ge 34, 3) := by decide +kernel
theorem d7_40 : decode jdk_2101_method_42_code 40 = .ok (.iload 5, 2) := by decide +kernel
theorem d7_42 : decode jdk_2101_method_42_code 42 = .ok (.istore 7, 2) := by decide +kernel
theorem d7_44 : decode jdk_2101_method_42_code 44 = .ok (.aload_n 2, 1) := by decide +kernel
theorem d7_45 : decode jdk_2101_method_42_code 45 = .ok (.iload 4, 2) := by decide +kernel
theorem d7_47 : decode jdk_2101_method_42_code 47 = .ok (.iconst 1, 1) := by decide +kernel
theorem d7_48 : decode jdk_2101_method_42_code 48 = .ok (.iadd, 1) := by decide +kernel
theorem d7_49 : decode jdk_2101_method_42_code 49 = .ok (.iaload, 1) := by decide +kernel
theorem d7_50 : decode jdk_2101_method_42_code 50 = .ok (.istore 5, 2) := by decide +kernel
theorem d7_52 : decode jdk_2101_method_42_code 52 = .ok (.aload_n 2, 1) := by decide +kernel
theorem d7_53 : decode jdk_2101_method_42_code 53 = .ok (.iload 4, 2) := by decide +kernel
theorem d7_55 : decode jdk_2101_method_42_code 55 = .ok (.iload 7, 2) := by decide +kernel
theorem d7_57 : decode jdk_2101_method_42_code 57 = .ok (.iload_n 1, 1) := by decide +kernel
theorem d7_58 : decode jdk_2101_method_42_code 58 = .ok (.ishl, 1) := by decide +kernel
theorem d7_59 : decode jdk_2101_method_42_code 59 = .ok (.iload 5, 2) := by decide +kernel
theorem d7_61 : decode jdk_2101_method_42_code 61 = .ok (.iload_n 3, 1) := by decide +kernel
theorem d7_62 : decode jdk_2101_method_42_code 62 = .ok (.iushr, 1) := by decide +kernel
theorem d7_63 : decode jdk_2101_method_42_code 63 = .ok (.ior, 1) := by decide +kernel
theorem d7_64 : decode jdk_2101_method_42_code 64 = .ok (.iastore, 1) := by decide +kernel
theorem d7_65 : decode jdk_2101_method_42_code 65 = .ok (.iinc 4 1, 3) := by decide +kernel
theorem d7_68 : decode jdk_2101_method_42_code 68 = .ok (.goto (-35), 3) := by decide +kernel
theorem d7_71 : decode jdk_2101_method_42_code 71 = .ok (.aload_n 2, 1) := by decide +kernel
theorem d7_72 : decode jdk_2101_method_42_code 72 = .ok (.aload_n 0, 1) := by decide +kernel
theorem d7_73 : decode jdk_2101_method_42_code 73 = .ok (.getfield 11, 3) := by decide +kernel
theorem d7_76 : decode jdk_2101_method_42_code 76 = .ok (.aload_n 0, 1) := by decide +kernel
theorem d7_77 : decode jdk_2101_method_42_code 77 = .ok (.getfield 21, 3) := by decide +kernel
theorem d7_80 : decode jdk_2101_method_42_code 80 = .ok (.iadd, 1) := by decide +kernel
theorem d7_81 : decode jdk_2101_method_42_code 81 = .ok (.iconst 1, 1) := by decide +kernel
theorem d7_82 : decode jdk_2101_method_42_code 82 = .ok (.isub, 1) := by decide +kernel
theorem d7_83 : decode jdk_2101_method_42_code 83 = .ok (.dup2, 1) := by decide +kernel
theorem d7_84 : decode jdk_2101_method_42_code 84 = .ok (.iaload, 1) := by decide +kernel
theorem d7_85 : decode jdk_2101_method_42_code 85 = .ok (.iload_n 1, 1) := by decide +kernel
theorem d7_86 : decode jdk_2101_method_42_code 86 = .ok (.ishl, 1) := by decide +kernel
theorem d7_87 : decode jdk_2101_method_42_code 87 = .ok (.iastore, 1) := by decide +kernel
theorem d7_88 : decode jdk_2101_method_42_code 88 = .ok (.return_, 1) := by decide +kernel
theorem d18_0 : decode jdk_2101_method_4_code 0 = .ok (.aload_n 0, 1) := by decide +kernel
theorem d18_1 : decode jdk_2101_method_4_code 1 = .ok (.invokespecial 5, 3) := by decide +kernel
theorem d18_4 : decode jdk_2101_method_4_code 4 = .ok (.aload_n 0, 1) := by decide +kernel
theorem d18_5 : decode jdk_2101_method_4_code 5 = .ok (.iconst 0, 1) := by decide +kernel
theorem d18_6 : decode jdk_2101_method_4_code 6 = .ok (.putfield 11, 3) := by decide +kernel
theorem d18_9 : decode jdk_2101_method_4_code 9 = .ok (.aload_n 0, 1) := by decide +kernel
theorem d18_10 : decode jdk_2101_method_4_code 10 = .ok (.aload_n 1, 1) := by decide +kernel
theorem d18_11 : decode jdk_2101_method_4_code 11 = .ok (.getfield 24, 3) := by decide +kernel
theorem d18_14 : decode jdk_2101_method_4_code 14 = .ok (.arraylength, 1) := by decide +kernel
theorem d18_15 : decode jdk_2101_method_4_code 15 = .ok (.putfield 21, 3) := by decide +kernel
theorem d18_18 : decode jdk_2101_method_4_code 18 = .ok (.aload_n 0, 1) := by decide +kernel
theorem d18_19 : decode jdk_2101_method_4_code 19 = .ok (.aload_n 1, 1) := by decide +kernel
theorem d18_20 : decode jdk_2101_method_4_code 20 = .ok (.getfield 24, 3) := by decide +kernel
theorem d18_23 : decode jdk_2101_method_4_code 23 = .ok (.aload_n 0, 1) := by decide +kernel
theorem d18_24 : decode jdk_2101_method_4_code 24 = .ok (.getfield 21, 3) := by decide +kernel
theorem d18_27 : decode jdk_2101_method_4_code 27 = .ok (.invokestatic 27, 3) := by decide +kernel
theorem d18_30 : decode jdk_2101_method_4_code 30 = .ok (.putfield 17, 3) := by decide +kernel
theorem d18_33 : decode jdk_2101_method_4_code 33 = .ok (.return_, 1) := by decide +kernel
theorem d11_0 : decode jdk_2101_method_50_code 0 = .ok (.aload_n 0, 1) := by decide +kernel
theorem d11_1 : decode jdk_2101_method_50_code 1 = .ok (.astore_n 2, 1) := by decide +kernel
theorem d11_2 : decode jdk_2101_method_50_code 2 = .ok (.aload_n 2, 1) := by decide +kernel
theorem d11_3 : decode jdk_2101_method_50_code 3 = .ok (.aload_n 1, 1) := by decide +kernel
theorem d11_4 : decode jdk_2101_method_50_code 4 = .ok (.invokevirtual 142, 3) := by decide +kernel
theorem d11_7 : decode jdk_2101_method_50_code 7 = .ok (.istore_n 3, 1) := by decide +kernel
theorem d11_8 : decode jdk_2101_method_50_code 8 = .ok (.iload_n 3, 1) := by decide +kernel
theorem d11_9 : decode jdk_2101_method_50_code 9 = .ok (.ifCond .ne 5, 3) := by decide +kernel
theorem d11_14 : decode jdk_2101_method_50_code 14 = .ok (.iload_n 3, 1) := by decide +kernel
theorem d11_15 : decode jdk_2101_method_50_code 15 = .ok (.ifCond .ge 11, 3) := by decide +kernel
theorem d11_26 : decode jdk_2101_method_50_code 26 = .ok (.lconst 0, 1) := by decide +kernel
theorem d11_27 : decode jdk_2101_method_50_code 27 = .ok (.lstore 4, 2) := by decide +kernel
theorem d11_29 : decode jdk_2101_method_50_code 29 = .ok (.aload_n 2, 1) := by decide +kernel
theorem d11_30 : decode jdk_2101_method_50_code 30 = .ok (.getfield 21, 3) := by decide +kernel
theorem d11_33 : decode jdk_2101_method_50_code 33 = .ok (.istore 6, 2) := by decide +kernel
theorem d11_35 : decode jdk_2101_method_50_code 35 = .ok (.aload_n 1, 1) := by decide +kernel
theorem d11_36 : decode jdk_2101_method_50_code 36 = .ok (.getfield 21, 3) := by decide +kernel
theorem d11_39 : decode jdk_2101_method_50_code 39 = .ok (.istore 7, 2) := by decide +kernel
theorem d11_41 : decode jdk_2101_method_50_code 41 = .ok (.iload 7, 2) := by decide +kernel
theorem d11_43 : decode jdk_2101_method_50_code 43 = .ok (.ifCond .le 70, 3) := by decide +kernel
theorem d11_46 : decode jdk_2101_method_50_code 46 = .ok (.iinc 6 (-1), 3) := by decide +kernel
theorem d11_49 : decode jdk_2101_method_50_code 49 = .ok (.iinc 7 (-1), 3) := by decide +kernel
theorem d11_52 : decode jdk_2101_method_50_code 52 = .ok (.aload_n 2, 1) := by decide +kernel
theorem d11_53 : decode jdk_2101_method_50_code 53 = .ok (.getfield 17, 3) := by decide +kernel
theorem d11_56 : decode jdk_2101_method_50_code 56 = .ok (.aload_n 2, 1) := by decide +kernel
theorem d11_57 : decode jdk_2101_method_50_code 57 = .ok (.getfield 11, 3) := by decide +kernel
theorem d11_60 : decode jdk_2101_method_50_code 60 = .ok (.iload 6, 2) := by decide +kernel
theorem d11_62 : decode jdk_2101_method_50_code 62 = .ok (.iadd, 1) := by decide +kernel
theorem d11_63 : decode jdk_2101_method_50_code 63 = .ok (.iaload, 1) := by decide +kernel
theorem d11_64 : decode jdk_2101_method_50_code 64 = .ok (.i2l, 1) := by decide +kernel
theorem d11_65 : decode jdk_2101_method_50_code 65 = .ok (.ldc2_w 52, 3) := by decide +kernel
theorem d11_68 : decode jdk_2101_method_50_code 68 = .ok (.land, 1) := by decide +kernel
theorem d11_69 : decode jdk_2101_method_50_code 69 = .ok (.aload_n 1, 1) := by decide +kernel
theorem d11_70 : decode jdk_2101_method_50_code 70 = .ok (.getfield 17, 3) := by decide +kernel
theorem d11_73 : decode jdk_2101_method_50_code 73 = .ok (.aload_n 1, 1) := by decide +kernel
theorem d11_74 : decode jdk_2101_method_50_code 74 = .ok (.getfield 11, 3) := by decide +kernel
theorem d11_77 : decode jdk_2101_method_50_code 77 = .ok (.iload 7, 2) := by decide +kernel
theorem d11_79 : decode jdk_2101_method_50_code 79 = .ok (.iadd, 1) := by decide +kernel
theorem d11_80 : decode jdk_2101_method_50_code 80 = .ok (.iaload, 1) := by decide +kernel
theorem d11_81 : decode jdk_2101_method_50_code 81 = .ok (.i2l, 1) := by decide +kernel
theorem d11_82 : decode jdk_2101_method_50_code 82 = .ok (.ldc2_w 52, 3) := by decide +kernel
theorem d11_85 : decode jdk_2101_method_50_code 85 = .ok (.land, 1) := by decide +kernel
theorem d11_86 : decode jdk_2101_method_50_code 86 = .ok (.lsub, 1) := by decide +kernel
theorem d11_87 : decode jdk_2101_method_50_code 87 = .ok (.lload 4, 2) := by decide +kernel
theorem d11_89 : decode jdk_2101_method_50_code 89 = .ok (.bipush 32, 2) := by decide +kernel
theorem d11_91 : decode jdk_2101_method_50_code 91 = .ok (.lshr, 1) := by decide +kernel
theorem d11_92 : decode jdk_2101_method_50_code 92 = .ok (.ladd, 1) := by decide +kernel
theorem d11_93 : decode jdk_2101_method_50_code 93 = .ok (.lstore 4, 2) := by decide +kernel
theorem d11_95 : decode jdk_2101_method_50_code 95 = .ok (.aload_n 2, 1) := by decide +kernel
theorem d11_96 : decode jdk_2101_method_50_code 96 = .ok (.getfield 17, 3) := by decide +kernel
theorem d11_99 : decode jdk_2101_method_50_code 99 = .ok (.aload_n 2, 1) := by decide +kernel
theorem d11_100 : decode jdk_2101_method_50_code 100 = .ok (.getfield 11, 3) := by decide +kernel
theorem d11_103 : decode jdk_2101_method_50_code 103 = .ok (.iload 6, 2) := by decide +kernel
theorem d11_105 : decode jdk_2101_method_50_code 105 = .ok (.iadd, 1) := by decide +kernel
theorem d11_106 : decode jdk_2101_method_50_code 106 = .ok (.lload 4, 2) := by decide +kernel
theorem d11_108 : decode jdk_2101_method_50_code 108 = .ok (.l2i, 1) := by decide +kernel
theorem d11_109 : decode jdk_2101_method_50_code 109 = .ok (.iastore, 1) := by decide +kernel
theorem d11_110 : decode jdk_2101_method_50_code 110 = .ok (.goto (-69), 3) := by decide +kernel
theorem d11_113 : decode jdk_2101_method_50_code 113 = .ok (.lload 4, 2) := by decide +kernel
theorem d11_115 : decode jdk_2101_method_50_code 115 = .ok (.lconst 0, 1) := by decide +kernel
theorem d11_116 : decode jdk_2101_method_50_code 116 = .ok (.lcmp, 1) := by decide +kernel
theorem d11_117 : decode jdk_2101_method_50_code 117 = .ok (.ifCond .ge 54, 3) := by decide +kernel
theorem d11_171 : decode jdk_2101_method_50_code 171 = .ok (.aload_n 2, 1) := by decide +kernel
theorem d11_172 : decode jdk_2101_method_50_code 172 = .ok (.invokevirtual 64, 3) := by decide +kernel
theorem d11_175 : decode jdk_2101_method_50_code 175 = .ok (.iload_n 3, 1) := by decide +kernel
theorem d11_176 : decode jdk_2101_method_50_code 176 = .ok (.ireturn, 1) := by decide +kernel
theorem d26_0 : decode jdk_2101_method_53_code 0 = .ok (.iload_n 1, 1) := by decide +kernel
theorem d26_1 : decode jdk_2101_method_53_code 1 = .ok (.i2l, 1) := by decide +kernel
theorem d26_2 : decode jdk_2101_method_53_code 2 = .ok (.ldc2_w 52, 3) := by decide +kernel
theorem d26_5 : decode jdk_2101_method_53_code 5 = .ok (.land, 1) := by decide +kernel
theorem d26_6 : decode jdk_2101_method_53_code 6 = .ok (.lstore_n 3, 1) := by decide +kernel
theorem d26_7 : decode jdk_2101_method_53_code 7 = .ok (.aload_n 0, 1) := by decide +kernel
theorem d26_8 : decode jdk_2101_method_53_code 8 = .ok (.getfield 21, 3) := by decide +kernel
theorem d26_11 : decode jdk_2101_method_53_code 11 = .ok (.iconst 1, 1) := by decide +kernel
theorem d26_12 : decode jdk_2101_method_53_code 12 = .ok (.if_icmp .ne 67, 3) := by decide +kernel
theorem d26_15 : decode jdk_2101_method_53_code 15 = .ok (.aload_n 0, 1) := by decide +kernel
theorem d26_16 : decode jdk_2101_method_53_code 16 = .ok (.getfield 17, 3) := by decide +kernel
theorem d26_19 : decode jdk_2101_method_53_code 19 = .ok (.aload_n 0, 1) := by decide +kernel
theorem d26_20 : decode jdk_2101_method_53_code 20 = .ok (.getfield 11, 3) := by decide +kernel
theorem d26_23 : decode jdk_2101_method_53_code 23 = .ok (.iaload, 1) := by decide +kernel
theorem d26_24 : decode jdk_2101_method_53_code 24 = .ok (.i2l, 1) := by decide +kernel
theorem d26_25 : decode jdk_2101_method_53_code 25 = .ok (.ldc2_w 52, 3) := by decide +kernel
theorem d26_28 : decode jdk_2101_method_53_code 28 = .ok (.land, 1) := by decide +kernel
theorem d26_29 : decode jdk_2101_method_53_code 29 = .ok (.lstore 5, 2) := by decide +kernel
theorem d26_31 : decode jdk_2101_method_53_code 31 = .ok (.lload 5, 2) := by decide +kernel
theorem d26_33 : decode jdk_2101_method_53_code 33 = .ok (.lload_n 3, 1) := by decide +kernel
theorem d26_34 : decode jdk_2101_method_53_code 34 = .ok (.ldiv, 1) := by decide +kernel
theorem d26_35 : decode jdk_2101_method_53_code 35 = .ok (.l2i, 1) := by decide +kernel
theorem d26_36 : decode jdk_2101_method_53_code 36 = .ok (.istore 7, 2) := by decide +kernel
theorem d26_38 : decode jdk_2101_method_53_code 38 = .ok (.lload 5, 2) := by decide +kernel
theorem d26_40 : decode jdk_2101_method_53_code 40 = .ok (.iload 7, 2) := by decide +kernel
theorem d26_42 : decode jdk_2101_method_53_code 42 = .ok (.i2l, 1) := by decide +kernel
theorem d26_43 : decode jdk_2101_method_53_code 43 = .ok (.lload_n 3, 1) := by decide +kernel
theorem d26_44 : decode jdk_2101_method_53_code 44 = .ok (.lmul, 1) := by decide +kernel
theorem d26_45 : decode jdk_2101_method_53_code 45 = .ok (.lsub, 1) := by decide +kernel
theorem d26_46 : decode jdk_2101_method_53_code 46 = .ok (.l2i, 1) := by decide +kernel
theorem d26_47 : decode jdk_2101_method_53_code 47 = .ok (.istore 8, 2) := by decide +kernel
theorem d26_49 : decode jdk_2101_method_53_code 49 = .ok (.aload_n 2, 1) := by decide +kernel
theorem d26_50 : decode jdk_2101_method_53_code 50 = .ok (.getfield 17, 3) := by decide +kernel
theorem d26_53 : decode jdk_2101_method_53_code 53 = .ok (.iconst 0, 1) := by decide +kernel
theorem d26_54 : decode jdk_2101_method_53_code 54 = .ok (.iload 7, 2) := by decide +kernel
theorem d26_56 : decode jdk_2101_method_53_code 56 = .ok (.iastore, 1) := by decide +kernel
theorem d26_57 : decode jdk_2101_method_53_code 57 = .ok (.aload_n 2, 1) := by decide +kernel
theorem d26_58 : decode jdk_2101_method_53_code 58 = .ok (.iload 7, 2) := by decide +kernel
theorem d26_60 : decode jdk_2101_method_53_code 60 = .ok (.ifCond .ne 7, 3) := by decide +kernel
theorem d26_67 : decode jdk_2101_method_53_code 67 = .ok (.iconst 1, 1) := by decide +kernel
theorem d26_68 : decode jdk_2101_method_53_code 68 = .ok (.putfield 21, 3) := by decide +kernel
theorem d26_71 : decode jdk_2101_method_53_code 71 = .ok (.aload_n 2, 1) := by decide +kernel
theorem d26_72 : decode jdk_2101_method_53_code 72 = .ok (.iconst 0, 1) := by decide +kernel
theorem d26_73 : decode jdk_2101_method_53_code 73 = .ok (.putfield 11, 3) := by decide +kernel
theorem d26_76 : decode jdk_2101_method_53_code 76 = .ok (.iload 8, 2) := by decide +kernel
theorem d26_78 : decode jdk_2101_method_53_code 78 = .ok (.ireturn, 1) := by decide +kernel
theorem d26_79 : decode jdk_2101_method_53_code 79 = .ok (.aload_n 2, 1) := by decide +kernel
theorem d26_80 : decode jdk_2101_method_53_code 80 = .ok (.getfield 17, 3) := by decide +kernel
theorem d26_83 : decode jdk_2101_method_53_code 83 = .ok (.arraylength, 1) := by decide +kernel
theorem d26_84 : decode jdk_2101_method_53_code 84 = .ok (.aload_n 0, 1) := by decide +kernel
theorem d26_85 : decode jdk_2101_method_53_code 85 = .ok (.getfield 21, 3) := by decide +kernel
theorem d26_88 : decode jdk_2101_method_53_code 88 = .ok (.if_icmp .ge 13, 3) := by decide +kernel
theorem d26_91 : decode jdk_2101_method_53_code 91 = .ok (.aload_n 2, 1) := by decide +kernel
theorem d26_92 : decode jdk_2101_method_53_code 92 = .ok (.aload_n 0, 1) := by decide +kernel
theorem d26_93 : decode jdk_2101_method_53_code 93 = .ok (.getfield 21, 3) := by decide +kernel
theorem d26_96 : decode jdk_2101_method_53_code 96 = .ok (.newarray .int, 2) := by decide +kernel
theorem d26_98 : decode jdk_2101_method_53_code 98 = .ok (.putfield 17, 3) := by decide +kernel
theorem d26_101 : decode jdk_2101_method_53_code 101 = .ok (.aload_n 2, 1) := by decide +kernel
theorem d26_102 : decode jdk_2101_method_53_code 102 = .ok (.iconst 0, 1) := by decide +kernel
theorem d26_103 : decode jdk_2101_method_53_code 103 = .ok (.putfield 11, 3) := by decide +kernel
theorem d26_106 : decode jdk_2101_method_53_code 106 = .ok (.aload_n 2, 1) := by decide +kernel
theorem d26_107 : decode jdk_2101_method_53_code 107 = .ok (.aload_n 0, 1) := by decide +kernel
theorem d26_108 : decode jdk_2101_method_53_code 108 = .ok (.getfield 21, 3) := by decide +kernel
theorem d26_111 : decode jdk_2101_method_53_code 111 = .ok (.putfield 21, 3) := by decide +kernel
theorem d26_114 : decode jdk_2101_method_53_code 114 = .ok (.iload_n 1, 1) := by decide +kernel
theorem d26_115 : decode jdk_2101_method_53_code 115 = .ok (.invokestatic 152, 3) := by decide +kernel
theorem d26_118 : decode jdk_2101_method_53_code 118 = .ok (.istore 5, 2) := by decide +kernel
theorem d26_120 : decode jdk_2101_method_53_code 120 = .ok (.aload_n 0, 1) := by decide +kernel
theorem d26_121 : decode jdk_2101_method_53_code 121 = .ok (.getfield 17, 3) := by decide +kernel
theorem d26_124 : decode jdk_2101_method_53_code 124 = .ok (.aload_n 0, 1) := by decide +kernel
theorem d26_125 : decode jdk_2101_method_53_code 125 = .ok (.getfield 11, 3) := by decide +kernel
theorem d26_128 : decode jdk_2101_method_53_code 128 = .ok (.iaload, 1) := by decide +kernel
theorem d26_129 : decode jdk_2101_method_53_code 129 = .ok (.istore 6, 2) := by decide +kernel
theorem d26_131 : decode jdk_2101_method_53_code 131 = .ok (.iload 6, 2) := by decide +kernel
theorem d26_133 : decode jdk_2101_method_53_code 133 = .ok (.i2l, 1) := by decide +kernel
theorem d26_134 : decode jdk_2101_method_53_code 134 = .ok (.ldc2_w 52, 3) := by decide +kernel
theorem d26_137 : decode jdk_2101_method_53_code 137 = .ok (.land, 1) := by decide +kernel
theorem d26_138 : decode jdk_2101_method_53_code 138 = .ok (.lstore 7, 2) := by decide +kernel
theorem d26_140 : decode jdk_2101_method_53_code 140 = .ok (.lload 7, 2) := by decide +kernel
theorem d26_142 : decode jdk_2101_method_53_code 142 = .ok (.lload_n 3, 1) := by decide +kernel
theorem d26_143 : decode jdk_2101_method_53_code 143 = .ok (.lcmp, 1) := by decide +kernel
theorem d26_144 : decode jdk_2101_method_53_code 144 = .ok (.ifCond .ge 13, 3) := by decide +kernel
theorem d26_157 : decode jdk_2101_method_53_code 157 = .ok (.aload_n 2, 1) := by decide +kernel
theorem d26_158 : decode jdk_2101_method_53_code 158 = .ok (.getfield 17, 3) := by decide +kernel
theorem d26_161 : decode jdk_2101_method_53_code 161 = .ok (.iconst 0, 1) := by decide +kernel
theorem d26_162 : decode jdk_2101_method_53_code 162 = .ok (.lload 7, 2) := by decide +kernel
theorem d26_164 : decode jdk_2101_method_53_code 164 = .ok (.lload_n 3, 1) := by decide +kernel
theorem d26_165 : decode jdk_2101_method_53_code 165 = .ok (.ldiv, 1) := by decide +kernel
theorem d26_166 : decode jdk_2101_method_53_code 166 = .ok (.l2i, 1) := by decide +kernel
theorem d26_167 : decode jdk_2101_method_53_code 167 = .ok (.iastore, 1) := by decide +kernel
theorem d26_168 : decode jdk_2101_method_53_code 168 = .ok (.lload 7, 2) := by decide +kernel
theorem d26_170 : decode jdk_2101_method_53_code 170 = .ok (.aload_n 2, 1) := by decide +kernel
theorem d26_171 : decode jdk_2101_method_53_code 171 = .ok (.getfield 17, 3) := by decide +kernel
theorem d26_174 : decode jdk_2101_method_53_code 174 = .ok (.iconst 0, 1) := by decide +kernel
theorem d26_175 : decode jdk_2101_method_53_code 175 = .ok (.iaload, 1) := by decide +kernel
theorem d26_176 : decode jdk_2101_method_53_code 176 = .ok (.i2l, 1) := by decide +kernel
theorem d26_177 : decode jdk_2101_method_53_code 177 = .ok (.lload_n 3, 1) := by decide +kernel
theorem d26_178 : decode jdk_2101_method_53_code 178 = .ok (.lmul, 1) := by decide +kernel
theorem d26_179 : decode jdk_2101_method_53_code 179 = .ok (.lsub, 1) := by decide +kernel
theorem d26_180 : decode jdk_2101_method_53_code 180 = .ok (.l2i, 1) := by decide +kernel
theorem d26_181 : decode jdk_2101_method_53_code 181 = .ok (.istore 6, 2) := by decide +kernel
theorem d26_183 : decode jdk_2101_method_53_code 183 = .ok (.iload 6, 2) := by decide +kernel
theorem d26_185 : decode jdk_2101_method_53_code 185 = .ok (.i2l, 1) := by decide +kernel
theorem d26_186 : decode jdk_2101_method_53_code 186 = .ok (.ldc2_w 52, 3) := by decide +kernel
theorem d26_189 : decode jdk_2101_method_53_code 189 = .ok (.land, 1) := by decide +kernel
theorem d26_190 : decode jdk_2101_method_53_code 190 = .ok (.lstore 7, 2) := by decide +kernel
theorem d26_192 : decode jdk_2101_method_53_code 192 = .ok (.aload_n 0, 1) := by decide +kernel
theorem d26_193 : decode jdk_2101_method_53_code 193 = .ok (.getfield 21, 3) := by decide +kernel
theorem d26_196 : decode jdk_2101_method_53_code 196 = .ok (.istore 9, 2) := by decide +kernel
theorem d26_198 : decode jdk_2101_method_53_code 198 = .ok (.iinc 9 (-1), 3) := by decide +kernel
theorem d26_201 : decode jdk_2101_method_53_code 201 = .ok (.iload 9, 2) := by decide +kernel
theorem d26_203 : decode jdk_2101_method_53_code 203 = .ok (.ifCond .le 112, 3) := by decide +kernel
theorem d26_206 : decode jdk_2101_method_53_code 206 = .ok (.lload 7, 2) := by decide +kernel
theorem d26_208 : decode jdk_2101_method_53_code 208 = .ok (.bipush 32, 2) := by decide +kernel
theorem d26_210 : decode jdk_2101_method_53_code 210 = .ok (.lshl, 1) := by decide +kernel
theorem d26_211 : decode jdk_2101_method_53_code 211 = .ok (.aload_n 0, 1) := by decide +kernel
theorem d26_212 : decode jdk_2101_method_53_code 212 = .ok (.getfield 17, 3) := by decide +kernel
theorem d26_215 : decode jdk_2101_method_53_code 215 = .ok (.aload_n 0, 1) := by decide +kernel
theorem d26_216 : decode jdk_2101_method_53_code 216 = .ok (.getfield 11, 3) := by decide +kernel
theorem d26_219 : decode jdk_2101_method_53_code 219 = .ok (.aload_n 0, 1) := by decide +kernel
theorem d26_220 : decode jdk_2101_method_53_code 220 = .ok (.getfield 21, 3) := by decide +kernel
theorem d26_223 : decode jdk_2101_method_53_code 223 = .ok (.iadd, 1) := by decide +kernel
theorem d26_224 : decode jdk_2101_method_53_code 224 = .ok (.iload 9, 2) := by decide +kernel
theorem d26_226 : decode jdk_2101_method_53_code 226 = .ok (.isub, 1) := by decide +kernel
theorem d26_227 : decode jdk_2101_method_53_code 227 = .ok (.iaload, 1) := by decide +kernel
theorem d26_228 : decode jdk_2101_method_53_code 228 = .ok (.i2l, 1) := by decide +kernel
theorem d26_229 : decode jdk_2101_method_53_code 229 = .ok (.ldc2_w 52, 3) := by decide +kernel
theorem d26_232 : decode jdk_2101_method_53_code 232 = .ok (.land, 1) := by decide +kernel
theorem d26_233 : decode jdk_2101_method_53_code 233 = .ok (.lor, 1) := by decide +kernel
theorem d26_234 : decode jdk_2101_method_53_code 234 = .ok (.lstore 10, 2) := by decide +kernel
theorem d26_236 : decode jdk_2101_method_53_code 236 = .ok (.lload 10, 2) := by decide +kernel
theorem d26_238 : decode jdk_2101_method_53_code 238 = .ok (.lconst 0, 1) := by decide +kernel
theorem d26_239 : decode jdk_2101_method_53_code 239 = .ok (.lcmp, 1) := by decide +kernel
theorem d26_240 : decode jdk_2101_method_53_code 240 = .ok (.ifCond .lt 24, 3) := by decide +kernel
theorem d26_243 : decode jdk_2101_method_53_code 243 = .ok (.lload 10, 2) := by decide +kernel
theorem d26_245 : decode jdk_2101_method_53_code 245 = .ok (.lload_n 3, 1) := by decide +kernel
theorem d26_246 : decode jdk_2101_method_53_code 246 = .ok (.ldiv, 1) := by decide +kernel
theorem d26_247 : decode jdk_2101_method_53_code 247 = .ok (.l2i, 1) := by decide +kernel
theorem d26_248 : decode jdk_2101_method_53_code 248 = .ok (.istore 12, 2) := by decide +kernel
theorem d26_250 : decode jdk_2101_method_53_code 250 = .ok (.lload 10, 2) := by decide +kernel
theorem d26_252 : decode jdk_2101_method_53_code 252 = .ok (.iload 12, 2) := by decide +kernel
theorem d26_254 : decode jdk_2101_method_53_code 254 = .ok (.i2l, 1) := by decide +kernel
theorem d26_255 : decode jdk_2101_method_53_code 255 = .ok (.lload_n 3, 1) := by decide +kernel
theorem d26_256 : decode jdk_2101_method_53_code 256 = .ok (.lmul, 1) := by decide +kernel
theorem d26_257 : decode jdk_2101_method_53_code 257 = .ok (.lsub, 1) := by decide +kernel
theorem d26_258 : decode jdk_2101_method_53_code 258 = .ok (.l2i, 1) := by decide +kernel
theorem d26_259 : decode jdk_2101_method_53_code 259 = .ok (.istore 6, 2) := by decide +kernel
theorem d26_261 : decode jdk_2101_method_53_code 261 = .ok (.goto 28, 3) := by decide +kernel
theorem d26_289 : decode jdk_2101_method_53_code 289 = .ok (.aload_n 2, 1) := by decide +kernel
theorem d26_290 : decode jdk_2101_method_53_code 290 = .ok (.getfield 17, 3) := by decide +kernel
theorem d26_293 : decode jdk_2101_method_53_code 293 = .ok (.aload_n 0, 1) := by decide +kernel
theorem d26_294 : decode jdk_2101_method_53_code 294 = .ok (.getfield 21, 3) := by decide +kernel
theorem d26_297 : decode jdk_2101_method_53_code 297 = .ok (.iload 9, 2) := by decide +kernel
theorem d26_299 : decode jdk_2101_method_53_code 299 = .ok (.isub, 1) := by decide +kernel
theorem d26_300 : decode jdk_2101_method_53_code 300 = .ok (.iload 12, 2) := by decide +kernel
theorem d26_302 : decode jdk_2101_method_53_code 302 = .ok (.iastore, 1) := by decide +kernel
theorem d26_303 : decode jdk_2101_method_53_code 303 = .ok (.iload 6, 2) := by decide +kernel
theorem d26_305 : decode jdk_2101_method_53_code 305 = .ok (.i2l, 1) := by decide +kernel
theorem d26_306 : decode jdk_2101_method_53_code 306 = .ok (.ldc2_w 52, 3) := by decide +kernel
theorem d26_309 : decode jdk_2101_method_53_code 309 = .ok (.land, 1) := by decide +kernel
theorem d26_310 : decode jdk_2101_method_53_code 310 = .ok (.lstore 7, 2) := by decide +kernel
theorem d26_312 : decode jdk_2101_method_53_code 312 = .ok (.goto (-114), 3) := by decide +kernel
theorem d26_315 : decode jdk_2101_method_53_code 315 = .ok (.aload_n 2, 1) := by decide +kernel
theorem d26_316 : decode jdk_2101_method_53_code 316 = .ok (.invokevirtual 64, 3) := by decide +kernel
theorem d26_319 : decode jdk_2101_method_53_code 319 = .ok (.iload 5, 2) := by decide +kernel
theorem d26_321 : decode jdk_2101_method_53_code 321 = .ok (.ifCond .le 8, 3) := by decide +kernel
theorem d26_324 : decode jdk_2101_method_53_code 324 = .ok (.iload 6, 2) := by decide +kernel
theorem d26_326 : decode jdk_2101_method_53_code 326 = .ok (.iload_n 1, 1) := by decide +kernel
theorem d26_327 : decode jdk_2101_method_53_code 327 = .ok (.irem, 1) := by decide +kernel
theorem d26_328 : decode jdk_2101_method_53_code 328 = .ok (.ireturn, 1) := by decide +kernel
theorem d27_0 : decode jdk_2101_method_57_code 0 = .ok (.aload_n 1, 1) := by decide +kernel
theorem d27_1 : decode jdk_2101_method_57_code 1 = .ok (.getfield 21, 3) := by decide +kernel
theorem d27_4 : decode jdk_2101_method_57_code 4 = .ok (.ifCond .ne 13, 3) := by decide +kernel
theorem d27_17 : decode jdk_2101_method_57_code 17 = .ok (.aload_n 0, 1) := by decide +kernel
theorem d27_18 : decode jdk_2101_method_57_code 18 = .ok (.getfield 21, 3) := by decide +kernel
theorem d27_21 : decode jdk_2101_method_57_code 21 = .ok (.ifCond .ne 29, 3) := by decide +kernel
theorem d27_24 : decode jdk_2101_method_57_code 24 = .ok (.aload_n 2, 1) := by decide +kernel
theorem d27_25 : decode jdk_2101_method_57_code 25 = .ok (.aload_n 2, 1) := by decide +kernel
theorem d27_26 : decode jdk_2101_method_57_code 26 = .ok (.iconst 0, 1) := by decide +kernel
theorem d27_27 : decode jdk_2101_method_57_code 27 = .ok (.dup_x1, 1) := by decide +kernel
theorem d27_28 : decode jdk_2101_method_57_code 28 = .ok (.putfield 11, 3) := by decide +kernel
theorem d27_31 : decode jdk_2101_method_57_code 31 = .ok (.putfield 21, 3) := by decide +kernel
theorem d27_34 : decode jdk_2101_method_57_code 34 = .ok (.iload_n 3, 1) := by decide +kernel
theorem d27_35 : decode jdk_2101_method_57_code 35 = .ok (.ifCond .eq 13, 3) := by decide +kernel
theorem d27_48 : decode jdk_2101_method_57_code 48 = .ok (.aconst_null, 1) := by decide +kernel
theorem d27_49 : decode jdk_2101_method_57_code 49 = .ok (.areturn, 1) := by decide +kernel
theorem d27_50 : decode jdk_2101_method_57_code 50 = .ok (.aload_n 0, 1) := by decide +kernel
theorem d27_51 : decode jdk_2101_method_57_code 51 = .ok (.aload_n 1, 1) := by decide +kernel
theorem d27_52 : decode jdk_2101_method_57_code 52 = .ok (.invokevirtual 142, 3) := by decide +kernel
theorem d27_55 : decode jdk_2101_method_57_code 55 = .ok (.istore 4, 2) := by decide +kernel
theorem d27_57 : decode jdk_2101_method_57_code 57 = .ok (.iload 4, 2) := by decide +kernel
theorem d27_59 : decode jdk_2101_method_57_code 59 = .ok (.ifCond .ge 30, 3) := by decide +kernel
theorem d27_89 : decode jdk_2101_method_57_code 89 = .ok (.iload 4, 2) := by decide +kernel
theorem d27_91 : decode jdk_2101_method_57_code 91 = .ok (.ifCond .ne 36, 3) := by decide +kernel
theorem d27_94 : decode jdk_2101_method_57_code 94 = .ok (.aload_n 2, 1) := by decide +kernel
theorem d27_95 : decode jdk_2101_method_57_code 95 = .ok (.getfield 17, 3) := by decide +kernel
theorem d27_98 : decode jdk_2101_method_57_code 98 = .ok (.iconst 0, 1) := by decide +kernel
theorem d27_99 : decode jdk_2101_method_57_code 99 = .ok (.aload_n 2, 1) := by decide +kernel
theorem d27_100 : decode jdk_2101_method_57_code 100 = .ok (.iconst 1, 1) := by decide +kernel
theorem d27_101 : decode jdk_2101_method_57_code 101 = .ok (.dup_x1, 1) := by decide +kernel
theorem d27_102 : decode jdk_2101_method_57_code 102 = .ok (.putfield 21, 3) := by decide +kernel
theorem d27_105 : decode jdk_2101_method_57_code 105 = .ok (.iastore, 1) := by decide +kernel
theorem d27_106 : decode jdk_2101_method_57_code 106 = .ok (.aload_n 2, 1) := by decide +kernel
theorem d27_107 : decode jdk_2101_method_57_code 107 = .ok (.iconst 0, 1) := by decide +kernel
theorem d27_108 : decode jdk_2101_method_57_code 108 = .ok (.putfield 11, 3) := by decide +kernel
theorem d27_111 : decode jdk_2101_method_57_code 111 = .ok (.iload_n 3, 1) := by decide +kernel
theorem d27_112 : decode jdk_2101_method_57_code 112 = .ok (.ifCond .eq 13, 3) := by decide +kernel
theorem d27_125 : decode jdk_2101_method_57_code 125 = .ok (.aconst_null, 1) := by decide +kernel
theorem d27_126 : decode jdk_2101_method_57_code 126 = .ok (.areturn, 1) := by decide +kernel
theorem d27_127 : decode jdk_2101_method_57_code 127 = .ok (.aload_n 2, 1) := by decide +kernel
theorem d27_128 : decode jdk_2101_method_57_code 128 = .ok (.invokevirtual 149, 3) := by decide +kernel
theorem d27_131 : decode jdk_2101_method_57_code 131 = .ok (.aload_n 1, 1) := by decide +kernel
theorem d27_132 : decode jdk_2101_method_57_code 132 = .ok (.getfield 21, 3) := by decide +kernel
theorem d27_135 : decode jdk_2101_method_57_code 135 = .ok (.iconst 1, 1) := by decide +kernel
theorem d27_136 : decode jdk_2101_method_57_code 136 = .ok (.if_icmp .ne 48, 3) := by decide +kernel
theorem d27_139 : decode jdk_2101_method_57_code 139 = .ok (.aload_n 0, 1) := by decide +kernel
theorem d27_140 : decode jdk_2101_method_57_code 140 = .ok (.aload_n 1, 1) := by decide +kernel
theorem d27_141 : decode jdk_2101_method_57_code 141 = .ok (.getfield 17, 3) := by decide +kernel
theorem d27_144 : decode jdk_2101_method_57_code 144 = .ok (.aload_n 1, 1) := by decide +kernel
theorem d27_145 : decode jdk_2101_method_57_code 145 = .ok (.getfield 11, 3) := by decide +kernel
theorem d27_148 : decode jdk_2101_method_57_code 148 = .ok (.iaload, 1) := by decide +kernel
theorem d27_149 : decode jdk_2101_method_57_code 149 = .ok (.aload_n 2, 1) := by decide +kernel
theorem d27_150 : decode jdk_2101_method_57_code 150 = .ok (.invokevirtual 178, 3) := by decide +kernel
theorem d27_153 : decode jdk_2101_method_57_code 153 = .ok (.istore 5, 2) := by decide +kernel
theorem d27_155 : decode jdk_2101_method_57_code 155 = .ok (.iload_n 3, 1) := by decide +kernel
theorem d27_156 : decode jdk_2101_method_57_code 156 = .ok (.ifCond .eq 26, 3) := by decide +kernel
theorem d27_182 : decode jdk_2101_method_57_code 182 = .ok (.aconst_null, 1) := by decide +kernel
theorem d27_183 : decode jdk_2101_method_57_code 183 = .ok (.areturn, 1) := by decide +kernel
theorem d22_0 : decode jdk_2101_method_72_code 0 = .ok (.aload_n 0, 1) := by decide +kernel
theorem d22_1 : decode jdk_2101_method_72_code 1 = .ok (.astore_n 2, 1) := by decide +kernel
theorem d22_2 : decode jdk_2101_method_72_code 2 = .ok (.new 12, 3) := by decide +kernel
theorem d22_5 : decode jdk_2101_method_72_code 5 = .ok (.dup, 1) := by decide +kernel
theorem d22_6 : decode jdk_2101_method_72_code 6 = .ok (.invokespecial 177, 3) := by decide +kernel
theorem d22_9 : decode jdk_2101_method_72_code 9 = .ok (.astore_n 3, 1) := by decide +kernel
theorem d22_10 : decode jdk_2101_method_72_code 10 = .ok (.aload_n 1, 1) := by decide +kernel
theorem d22_11 : decode jdk_2101_method_72_code 11 = .ok (.getfield 21, 3) := by decide +kernel
theorem d22_14 : decode jdk_2101_method_72_code 14 = .ok (.ifCond .eq 41, 3) := by decide +kernel
theorem d22_17 : decode jdk_2101_method_72_code 17 = .ok (.aload_n 2, 1) := by decide +kernel
theorem d22_18 : decode jdk_2101_method_72_code 18 = .ok (.getfield 21, 3) := by decide +kernel
theorem d22_21 : decode jdk_2101_method_72_code 21 = .ok (.aload_n 1, 1) := by decide +kernel
theorem d22_22 : decode jdk_2101_method_72_code 22 = .ok (.getfield 21, 3) := by decide +kernel
theorem d22_25 : decode jdk_2101_method_72_code 25 = .ok (.isub, 1) := by decide +kernel
theorem d22_26 : decode jdk_2101_method_72_code 26 = .ok (.invokestatic 329, 3) := by decide +kernel
theorem d22_29 : decode jdk_2101_method_72_code 29 = .ok (.iconst 2, 1) := by decide +kernel
theorem d22_30 : decode jdk_2101_method_72_code 30 = .ok (.if_icmp .ge 9, 3) := by decide +kernel
theorem d22_33 : decode jdk_2101_method_72_code 33 = .ok (.aload_n 2, 1) := by decide +kernel
theorem d22_34 : decode jdk_2101_method_72_code 34 = .ok (.aload_n 1, 1) := by decide +kernel
theorem d22_35 : decode jdk_2101_method_72_code 35 = .ok (.invokevirtual 332, 3) := by decide +kernel
theorem d22_38 : decode jdk_2101_method_72_code 38 = .ok (.areturn, 1) := by decide +kernel
theorem d14_0 : decode jdk_2101_method_73_code 0 = .ok (.aload_n 0, 1) := by decide +kernel
theorem d14_1 : decode jdk_2101_method_73_code 1 = .ok (.astore_n 2, 1) := by decide +kernel
theorem d14_2 : decode jdk_2101_method_73_code 2 = .ok (.new 12, 3) := by decide +kernel
theorem d14_5 : decode jdk_2101_method_73_code 5 = .ok (.dup, 1) := by decide +kernel
theorem d14_6 : decode jdk_2101_method_73_code 6 = .ok (.invokespecial 177, 3) := by decide +kernel
theorem d14_9 : decode jdk_2101_method_73_code 9 = .ok (.astore_n 3, 1) := by decide +kernel
theorem d14_10 : decode jdk_2101_method_73_code 10 = .ok (.aload_n 2, 1) := by decide +kernel
theorem d14_11 : decode jdk_2101_method_73_code 11 = .ok (.invokevirtual 184, 3) := by decide +kernel
theorem d14_14 : decode jdk_2101_method_73_code 14 = .ok (.istore 4, 2) := by decide +kernel
theorem d14_16 : decode jdk_2101_method_73_code 16 = .ok (.aload_n 1, 1) := by decide +kernel
theorem d14_17 : decode jdk_2101_method_73_code 17 = .ok (.invokevirtual 184, 3) := by decide +kernel
theorem d14_20 : decode jdk_2101_method_73_code 20 = .ok (.istore 5, 2) := by decide +kernel
theorem d14_22 : decode jdk_2101_method_73_code 22 = .ok (.iload 4, 2) := by decide +kernel
theorem d14_24 : decode jdk_2101_method_73_code 24 = .ok (.iload 5, 2) := by decide +kernel
theorem d14_26 : decode jdk_2101_method_73_code 26 = .ok (.if_icmp .ge 8, 3) := by decide +kernel
theorem d14_34 : decode jdk_2101_method_73_code 34 = .ok (.iload 5, 2) := by decide +kernel
theorem d14_36 : decode jdk_2101_method_73_code 36 = .ok (.istore 6, 2) := by decide +kernel
theorem d14_38 : decode jdk_2101_method_73_code 38 = .ok (.iload 6, 2) := by decide +kernel
theorem d14_40 : decode jdk_2101_method_73_code 40 = .ok (.ifCond .eq 15, 3) := by decide +kernel
theorem d14_55 : decode jdk_2101_method_73_code 55 = .ok (.iload 6, 2) := by decide +kernel
theorem d14_57 : decode jdk_2101_method_73_code 57 = .ok (.iload 4, 2) := by decide +kernel
theorem d14_59 : decode jdk_2101_method_73_code 59 = .ok (.if_icmp .ne 7, 3) := by decide +kernel
theorem d14_62 : decode jdk_2101_method_73_code 62 = .ok (.iconst 1, 1) := by decide +kernel
theorem d14_63 : decode jdk_2101_method_73_code 63 = .ok (.goto 4, 3) := by decide +kernel
theorem d14_66 : decode jdk_2101_method_73_code 66 = .ok (.iconst 0, 1) := by decide +kernel
theorem d14_67 : decode jdk_2101_method_73_code 67 = .ok (.istore 7, 2) := by decide +kernel
theorem d14_69 : decode jdk_2101_method_73_code 69 = .ok (.iload 7, 2) := by decide +kernel
theorem d14_71 : decode jdk_2101_method_73_code 71 = .ok (.ifCond .eq 7, 3) := by decide +kernel
theorem d14_74 : decode jdk_2101_method_73_code 74 = .ok (.aload_n 1, 1) := by decide +kernel
theorem d14_75 : decode jdk_2101_method_73_code 75 = .ok (.goto 4, 3) := by decide +kernel
theorem d14_78 : decode jdk_2101_method_73_code 78 = .ok (.aload_n 2, 1) := by decide +kernel
theorem d14_79 : decode jdk_2101_method_73_code 79 = .ok (.astore 8, 2) := by decide +kernel
theorem d14_81 : decode jdk_2101_method_73_code 81 = .ok (.iload 7, 2) := by decide +kernel
theorem d14_83 : decode jdk_2101_method_73_code 83 = .ok (.ifCond .eq 7, 3) := by decide +kernel
theorem d14_86 : decode jdk_2101_method_73_code 86 = .ok (.iconst (-1), 1) := by decide +kernel
theorem d14_87 : decode jdk_2101_method_73_code 87 = .ok (.goto 4, 3) := by decide +kernel
theorem d14_90 : decode jdk_2101_method_73_code 90 = .ok (.iconst 1, 1) := by decide +kernel
theorem d14_91 : decode jdk_2101_method_73_code 91 = .ok (.istore 9, 2) := by decide +kernel
theorem d14_93 : decode jdk_2101_method_73_code 93 = .ok (.aload 8, 2) := by decide +kernel
theorem d14_95 : decode jdk_2101_method_73_code 95 = .ok (.invokevirtual 184, 3) := by decide +kernel
theorem d14_98 : decode jdk_2101_method_73_code 98 = .ok (.dup, 1) := by decide +kernel
theorem d14_99 : decode jdk_2101_method_73_code 99 = .ok (.istore 10, 2) := by decide +kernel
theorem d14_101 : decode jdk_2101_method_73_code 101 = .ok (.ifCond .lt 131, 3) := by decide +kernel
theorem d14_104 : decode jdk_2101_method_73_code 104 = .ok (.aload 8, 2) := by decide +kernel
theorem d14_106 : decode jdk_2101_method_73_code 106 = .ok (.iload 10, 2) := by decide +kernel
theorem d14_108 : decode jdk_2101_method_73_code 108 = .ok (.invokevirtual 108, 3) := by decide +kernel
theorem d14_111 : decode jdk_2101_method_73_code 111 = .ok (.iload 9, 2) := by decide +kernel
theorem d14_113 : decode jdk_2101_method_73_code 113 = .ok (.ifCond .le 9, 3) := by decide +kernel
theorem d14_116 : decode jdk_2101_method_73_code 116 = .ok (.aload 8, 2) := by decide +kernel
theorem d14_118 : decode jdk_2101_method_73_code 118 = .ok (.astore_n 2, 1) := by decide +kernel
theorem d14_119 : decode jdk_2101_method_73_code 119 = .ok (.goto 6, 3) := by decide +kernel
theorem d14_122 : decode jdk_2101_method_73_code 122 = .ok (.aload 8, 2) := by decide +kernel
theorem d14_124 : decode jdk_2101_method_73_code 124 = .ok (.astore_n 1, 1) := by decide +kernel
theorem d14_125 : decode jdk_2101_method_73_code 125 = .ok (.aload_n 2, 1) := by decide +kernel
theorem d14_126 : decode jdk_2101_method_73_code 126 = .ok (.getfield 21, 3) := by decide +kernel
theorem d14_129 : decode jdk_2101_method_73_code 129 = .ok (.iconst 2, 1) := by decide +kernel
theorem d14_130 : decode jdk_2101_method_73_code 130 = .ok (.if_icmp .ge 73, 3) := by decide +kernel
theorem d14_133 : decode jdk_2101_method_73_code 133 = .ok (.aload_n 1, 1) := by decide +kernel
theorem d14_134 : decode jdk_2101_method_73_code 134 = .ok (.getfield 21, 3) := by decide +kernel
theorem d14_137 : decode jdk_2101_method_73_code 137 = .ok (.iconst 2, 1) := by decide +kernel
theorem d14_138 : decode jdk_2101_method_73_code 138 = .ok (.if_icmp .ge 65, 3) := by decide +kernel
theorem d14_141 : decode jdk_2101_method_73_code 141 = .ok (.aload_n 2, 1) := by decide +kernel
theorem d14_142 : decode jdk_2101_method_73_code 142 = .ok (.getfield 17, 3) := by decide +kernel
theorem d14_145 : decode jdk_2101_method_73_code 145 = .ok (.aload_n 2, 1) := by decide +kernel
theorem d14_146 : decode jdk_2101_method_73_code 146 = .ok (.getfield 11, 3) := by decide +kernel
theorem d14_149 : decode jdk_2101_method_73_code 149 = .ok (.iaload, 1) := by decide +kernel
theorem d14_150 : decode jdk_2101_method_73_code 150 = .ok (.istore 11, 2) := by decide +kernel
theorem d14_152 : decode jdk_2101_method_73_code 152 = .ok (.aload_n 1, 1) := by decide +kernel
theorem d14_153 : decode jdk_2101_method_73_code 153 = .ok (.getfield 17, 3) := by decide +kernel
theorem d14_156 : decode jdk_2101_method_73_code 156 = .ok (.aload_n 1, 1) := by decide +kernel
theorem d14_157 : decode jdk_2101_method_73_code 157 = .ok (.getfield 11, 3) := by decide +kernel
theorem d14_160 : decode jdk_2101_method_73_code 160 = .ok (.iaload, 1) := by decide +kernel
theorem d14_161 : decode jdk_2101_method_73_code 161 = .ok (.istore 12, 2) := by decide +kernel
theorem d14_163 : decode jdk_2101_method_73_code 163 = .ok (.iload 11, 2) := by decide +kernel
theorem d14_165 : decode jdk_2101_method_73_code 165 = .ok (.iload 12, 2) := by decide +kernel
theorem d14_167 : decode jdk_2101_method_73_code 167 = .ok (.invokestatic 338, 3) := by decide +kernel
theorem d14_170 : decode jdk_2101_method_73_code 170 = .ok (.istore 11, 2) := by decide +kernel
theorem d14_172 : decode jdk_2101_method_73_code 172 = .ok (.aload_n 3, 1) := by decide +kernel
theorem d14_173 : decode jdk_2101_method_73_code 173 = .ok (.getfield 17, 3) := by decide +kernel
theorem d14_176 : decode jdk_2101_method_73_code 176 = .ok (.iconst 0, 1) := by decide +kernel
theorem d14_177 : decode jdk_2101_method_73_code 177 = .ok (.iload 11, 2) := by decide +kernel
theorem d14_179 : decode jdk_2101_method_73_code 179 = .ok (.iastore, 1) := by decide +kernel
theorem d14_180 : decode jdk_2101_method_73_code 180 = .ok (.aload_n 3, 1) := by decide +kernel
theorem d14_181 : decode jdk_2101_method_73_code 181 = .ok (.iconst 1, 1) := by decide +kernel
theorem d14_182 : decode jdk_2101_method_73_code 182 = .ok (.putfield 21, 3) := by decide +kernel
theorem d14_185 : decode jdk_2101_method_73_code 185 = .ok (.aload_n 3, 1) := by decide +kernel
theorem d14_186 : decode jdk_2101_method_73_code 186 = .ok (.iconst 0, 1) := by decide +kernel
theorem d14_187 : decode jdk_2101_method_73_code 187 = .ok (.putfield 11, 3) := by decide +kernel
theorem d14_190 : decode jdk_2101_method_73_code 190 = .ok (.iload 6, 2) := by decide +kernel
theorem d14_192 : decode jdk_2101_method_73_code 192 = .ok (.ifCond .le 9, 3) := by decide +kernel
theorem d14_201 : decode jdk_2101_method_73_code 201 = .ok (.aload_n 3, 1) := by decide +kernel
theorem d14_202 : decode jdk_2101_method_73_code 202 = .ok (.areturn, 1) := by decide +kernel
theorem d14_203 : decode jdk_2101_method_73_code 203 = .ok (.aload_n 2, 1) := by decide +kernel
theorem d14_204 : decode jdk_2101_method_73_code 204 = .ok (.aload_n 1, 1) := by decide +kernel
theorem d14_205 : decode jdk_2101_method_73_code 205 = .ok (.invokevirtual 341, 3) := by decide +kernel
theorem d14_208 : decode jdk_2101_method_73_code 208 = .ok (.dup, 1) := by decide +kernel
theorem d14_209 : decode jdk_2101_method_73_code 209 = .ok (.istore 9, 2) := by decide +kernel
theorem d14_211 : decode jdk_2101_method_73_code 211 = .ok (.ifCond .ne 6, 3) := by decide +kernel
theorem d14_217 : decode jdk_2101_method_73_code 217 = .ok (.iload 9, 2) := by decide +kernel
theorem d14_219 : decode jdk_2101_method_73_code 219 = .ok (.ifCond .lt 7, 3) := by decide +kernel
theorem d14_222 : decode jdk_2101_method_73_code 222 = .ok (.aload_n 2, 1) := by decide +kernel
theorem d14_223 : decode jdk_2101_method_73_code 223 = .ok (.goto 4, 3) := by decide +kernel
theorem d14_227 : decode jdk_2101_method_73_code 227 = .ok (.astore 8, 2) := by decide +kernel
theorem d14_229 : decode jdk_2101_method_73_code 229 = .ok (.goto (-136), 3) := by decide +kernel
theorem d12_0 : decode jdk_2101_method_74_code 0 = .ok (.iload_n 1, 1) := by decide +kernel
theorem d12_1 : decode jdk_2101_method_74_code 1 = .ok (.ifCond .ne 5, 3) := by decide +kernel
theorem d12_6 : decode jdk_2101_method_74_code 6 = .ok (.iload_n 0, 1) := by decide +kernel
theorem d12_7 : decode jdk_2101_method_74_code 7 = .ok (.ifCond .ne 5, 3) := by decide +kernel
theorem d12_12 : decode jdk_2101_method_74_code 12 = .ok (.iload_n 0, 1) := by decide +kernel
theorem d12_13 : decode jdk_2101_method_74_code 13 = .ok (.invokestatic 89, 3) := by decide +kernel
theorem d12_16 : decode jdk_2101_method_74_code 16 = .ok (.istore_n 2, 1) := by decide +kernel
theorem d12_17 : decode jdk_2101_method_74_code 17 = .ok (.iload_n 1, 1) := by decide +kernel
theorem d12_18 : decode jdk_2101_method_74_code 18 = .ok (.invokestatic 89, 3) := by decide +kernel
theorem d12_21 : decode jdk_2101_method_74_code 21 = .ok (.istore_n 3, 1) := by decide +kernel
theorem d12_22 : decode jdk_2101_method_74_code 22 = .ok (.iload_n 0, 1) := by decide +kernel
theorem d12_23 : decode jdk_2101_method_74_code 23 = .ok (.iload_n 2, 1) := by decide +kernel
theorem d12_24 : decode jdk_2101_method_74_code 24 = .ok (.iushr, 1) := by decide +kernel
theorem d12_25 : decode jdk_2101_method_74_code 25 = .ok (.istore_n 0, 1) := by decide +kernel
theorem d12_26 : decode jdk_2101_method_74_code 26 = .ok (.iload_n 1, 1) := by decide +kernel
theorem d12_27 : decode jdk_2101_method_74_code 27 = .ok (.iload_n 3, 1) := by decide +kernel
theorem d12_28 : decode jdk_2101_method_74_code 28 = .ok (.iushr, 1) := by decide +kernel
theorem d12_29 : decode jdk_2101_method_74_code 29 = .ok (.istore_n 1, 1) := by decide +kernel
theorem d12_30 : decode jdk_2101_method_74_code 30 = .ok (.iload_n 2, 1) := by decide +kernel
theorem d12_31 : decode jdk_2101_method_74_code 31 = .ok (.iload_n 3, 1) := by decide +kernel
theorem d12_32 : decode jdk_2101_method_74_code 32 = .ok (.if_icmp .ge 7, 3) := by decide +kernel
theorem d12_39 : decode jdk_2101_method_74_code 39 = .ok (.iload_n 3, 1) := by decide +kernel
theorem d12_40 : decode jdk_2101_method_74_code 40 = .ok (.istore 4, 2) := by decide +kernel
theorem d12_42 : decode jdk_2101_method_74_code 42 = .ok (.iload_n 0, 1) := by decide +kernel
theorem d12_43 : decode jdk_2101_method_74_code 43 = .ok (.iload_n 1, 1) := by decide +kernel
theorem d12_44 : decode jdk_2101_method_74_code 44 = .ok (.if_icmp .eq 42, 3) := by decide +kernel
theorem d12_47 : decode jdk_2101_method_74_code 47 = .ok (.iload_n 0, 1) := by decide +kernel
theorem d12_48 : decode jdk_2101_method_74_code 48 = .ok (.ldc 88, 2) := by decide +kernel
theorem d12_50 : decode jdk_2101_method_74_code 50 = .ok (.iadd, 1) := by decide +kernel
theorem d12_51 : decode jdk_2101_method_74_code 51 = .ok (.iload_n 1, 1) := by decide +kernel
theorem d12_52 : decode jdk_2101_method_74_code 52 = .ok (.ldc 88, 2) := by decide +kernel
theorem d12_54 : decode jdk_2101_method_74_code 54 = .ok (.iadd, 1) := by decide +kernel
theorem d12_55 : decode jdk_2101_method_74_code 55 = .ok (.if_icmp .le 17, 3) := by decide +kernel
theorem d12_58 : decode jdk_2101_method_74_code 58 = .ok (.iload_n 0, 1) := by decide +kernel
theorem d12_59 : decode jdk_2101_method_74_code 59 = .ok (.iload_n 1, 1) := by decide +kernel
theorem d12_60 : decode jdk_2101_method_74_code 60 = .ok (.isub, 1) := by decide +kernel
theorem d12_61 : decode jdk_2101_method_74_code 61 = .ok (.istore_n 0, 1) := by decide +kernel
theorem d12_62 : decode jdk_2101_method_74_code 62 = .ok (.iload_n 0, 1) := by decide +kernel
theorem d12_63 : decode jdk_2101_method_74_code 63 = .ok (.iload_n 0, 1) := by decide +kernel
theorem d12_64 : decode jdk_2101_method_74_code 64 = .ok (.invokestatic 89, 3) := by decide +kernel
theorem d12_67 : decode jdk_2101_method_74_code 67 = .ok (.iushr, 1) := by decide +kernel
theorem d12_68 : decode jdk_2101_method_74_code 68 = .ok (.istore_n 0, 1) := by decide +kernel
theorem d12_69 : decode jdk_2101_method_74_code 69 = .ok (.goto (-27), 3) := by decide +kernel
theorem d12_86 : decode jdk_2101_method_74_code 86 = .ok (.iload_n 0, 1) := by decide +kernel
theorem d12_87 : decode jdk_2101_method_74_code 87 = .ok (.iload 4, 2) := by decide +kernel
theorem d12_89 : decode jdk_2101_method_74_code 89 = .ok (.ishl, 1) := by decide +kernel
theorem d12_90 : decode jdk_2101_method_74_code 90 = .ok (.ireturn, 1) := by decide +kernel
theorem d20_0 : decode jdk_2101_method_7_code 0 = .ok (.aload_n 0, 1) := by decide +kernel
theorem d20_1 : decode jdk_2101_method_7_code 1 = .ok (.getfield 11, 3) := by decide +kernel
theorem d20_4 : decode jdk_2101_method_7_code 4 = .ok (.ifCond .gt 15, 3) := by decide +kernel
theorem d20_7 : decode jdk_2101_method_7_code 7 = .ok (.aload_n 0, 1) := by decide +kernel
theorem d20_8 : decode jdk_2101_method_7_code 8 = .ok (.getfield 17, 3) := by decide +kernel
theorem d20_11 : decode jdk_2101_method_7_code 11 = .ok (.arraylength, 1) := by decide +kernel
theorem d20_12 : decode jdk_2101_method_7_code 12 = .ok (.aload_n 0, 1) := by decide +kernel
theorem d20_13 : decode jdk_2101_method_7_code 13 = .ok (.getfield 21, 3) := by decide +kernel
theorem d20_16 : decode jdk_2101_method_7_code 16 = .ok (.if_icmp .eq 48, 3) := by decide +kernel
theorem d20_64 : decode jdk_2101_method_7_code 64 = .ok (.aload_n 0, 1) := by decide +kernel
theorem d20_65 : decode jdk_2101_method_7_code 65 = .ok (.getfield 17, 3) := by decide +kernel
theorem d20_68 : decode jdk_2101_method_7_code 68 = .ok (.areturn, 1) := by decide +kernel
theorem d21_0 : decode jdk_2101_method_9_code 0 = .ok (.aload_n 0, 1) := by decide +kernel
theorem d21_1 : decode jdk_2101_method_9_code 1 = .ok (.getfield 21, 3) := by decide +kernel
theorem d21_4 : decode jdk_2101_method_9_code 4 = .ok (.ifCond .eq 7, 3) := by decide +kernel
theorem d21_7 : decode jdk_2101_method_9_code 7 = .ok (.iload_n 1, 1) := by decide +kernel
theorem d21_8 : decode jdk_2101_method_9_code 8 = .ok (.ifCond .ne 7, 3) := by decide +kernel
theorem d21_11 : decode jdk_2101_method_9_code 11 = .ok (.getstatic 54, 3) := by decide +kernel
theorem d21_14 : decode jdk_2101_method_9_code 14 = .ok (.areturn, 1) := by decide +kernel
theorem d21_15 : decode jdk_2101_method_9_code 15 = .ok (.new 1, 3) := by decide +kernel
theorem d21_18 : decode jdk_2101_method_9_code 18 = .ok (.dup, 1) := by decide +kernel
theorem d21_19 : decode jdk_2101_method_9_code 19 = .ok (.aload_n 0, 1) := by decide +kernel
theorem d21_20 : decode jdk_2101_method_9_code 20 = .ok (.invokevirtual 58, 3) := by decide +kernel
theorem d21_23 : decode jdk_2101_method_9_code 23 = .ok (.iload_n 1, 1) := by decide +kernel
theorem d21_24 : decode jdk_2101_method_9_code 24 = .ok (.invokespecial 62, 3) := by decide +kernel
theorem d21_27 : decode jdk_2101_method_9_code 27 = .ok (.areturn, 1) := by decide +kernel
theorem d4_0 : decode jdk_29_method_59_code 0 = .ok (.iload_n 0, 1) := by decide +kernel
theorem d4_1 : decode jdk_29_method_59_code 1 = .ok (.ifCond .ge 8, 3) := by decide +kernel
theorem d4_9 : decode jdk_29_method_59_code 9 = .ok (.iload_n 0, 1) := by decide +kernel
theorem d4_10 : decode jdk_29_method_59_code 10 = .ok (.ireturn, 1) := by decide +kernel
theorem d42_0 : decode jdk_31_method_11_code 0 = .ok (.aload_n 0, 1) := by decide +kernel
theorem d42_1 : decode jdk_31_method_11_code 1 = .ok (.ifnonnull 12, 3) := by decide +kernel
theorem d42_13 : decode jdk_31_method_11_code 13 = .ok (.aload_n 0, 1) := by decide +kernel
theorem d42_14 : decode jdk_31_method_11_code 14 = .ok (.areturn, 1) := by decide +kernel
theorem d1_0 : decode jdk_33_method_47_code 0 = .ok (.iload_n 0, 1) := by decide +kernel
theorem d1_1 : decode jdk_33_method_47_code 1 = .ok (.ifCond .gt 14, 3) := by decide +kernel
theorem d1_4 : decode jdk_33_method_47_code 4 = .ok (.iload_n 0, 1) := by decide +kernel
theorem d1_5 : decode jdk_33_method_47_code 5 = .ok (.ifCond .ne 8, 3) := by decide +kernel
theorem d1_13 : decode jdk_33_method_47_code 13 = .ok (.iconst 0, 1) := by decide +kernel
theorem d1_14 : decode jdk_33_method_47_code 14 = .ok (.ireturn, 1) := by decide +kernel
theorem d1_15 : decode jdk_33_method_47_code 15 = .ok (.bipush 31, 2) := by decide +kernel
theorem d1_17 : decode jdk_33_method_47_code 17 = .ok (.istore_n 1, 1) := by decide +kernel
theorem d1_18 : decode jdk_33_method_47_code 18 = .ok (.iload_n 0, 1) := by decide +kernel
theorem d1_19 : decode jdk_33_method_47_code 19 = .ok (.ldc_w 264, 3) := by decide +kernel
theorem d1_22 : decode jdk_33_method_47_code 22 = .ok (.if_icmp .lt 11, 3) := by decide +kernel
theorem d1_25 : decode jdk_33_method_47_code 25 = .ok (.iinc 1 (-16), 3) := by decide +kernel
theorem d1_28 : decode jdk_33_method_47_code 28 = .ok (.iload_n 0, 1) := by decide +kernel
theorem d1_29 : decode jdk_33_method_47_code 29 = .ok (.bipush 16, 2) := by decide +kernel
theorem d1_31 : decode jdk_33_method_47_code 31 = .ok (.iushr, 1) := by decide +kernel
theorem d1_32 : decode jdk_33_method_47_code 32 = .ok (.istore_n 0, 1) := by decide +kernel
theorem d1_33 : decode jdk_33_method_47_code 33 = .ok (.iload_n 0, 1) := by decide +kernel
theorem d1_34 : decode jdk_33_method_47_code 34 = .ok (.sipush 256, 3) := by decide +kernel
theorem d1_37 : decode jdk_33_method_47_code 37 = .ok (.if_icmp .lt 11, 3) := by decide +kernel
theorem d1_40 : decode jdk_33_method_47_code 40 = .ok (.iinc 1 (-8), 3) := by decide +kernel
theorem d1_43 : decode jdk_33_method_47_code 43 = .ok (.iload_n 0, 1) := by decide +kernel
theorem d1_44 : decode jdk_33_method_47_code 44 = .ok (.bipush 8, 2) := by decide +kernel
theorem d1_46 : decode jdk_33_method_47_code 46 = .ok (.iushr, 1) := by decide +kernel
theorem d1_47 : decode jdk_33_method_47_code 47 = .ok (.istore_n 0, 1) := by decide +kernel
theorem d1_48 : decode jdk_33_method_47_code 48 = .ok (.iload_n 0, 1) := by decide +kernel
theorem d1_49 : decode jdk_33_method_47_code 49 = .ok (.bipush 16, 2) := by decide +kernel
theorem d1_51 : decode jdk_33_method_47_code 51 = .ok (.if_icmp .lt 10, 3) := by decide +kernel
theorem d1_54 : decode jdk_33_method_47_code 54 = .ok (.iinc 1 (-4), 3) := by decide +kernel
theorem d1_57 : decode jdk_33_method_47_code 57 = .ok (.iload_n 0, 1) := by decide +kernel
theorem d1_58 : decode jdk_33_method_47_code 58 = .ok (.iconst 4, 1) := by decide +kernel
theorem d1_59 : decode jdk_33_method_47_code 59 = .ok (.iushr, 1) := by decide +kernel
theorem d1_60 : decode jdk_33_method_47_code 60 = .ok (.istore_n 0, 1) := by decide +kernel
theorem d1_61 : decode jdk_33_method_47_code 61 = .ok (.iload_n 0, 1) := by decide +kernel
theorem d1_62 : decode jdk_33_method_47_code 62 = .ok (.iconst 4, 1) := by decide +kernel
theorem d1_63 : decode jdk_33_method_47_code 63 = .ok (.if_icmp .lt 10, 3) := by decide +kernel
theorem d1_66 : decode jdk_33_method_47_code 66 = .ok (.iinc 1 (-2), 3) := by decide +kernel
theorem d1_69 : decode jdk_33_method_47_code 69 = .ok (.iload_n 0, 1) := by decide +kernel
theorem d1_70 : decode jdk_33_method_47_code 70 = .ok (.iconst 2, 1) := by decide +kernel
theorem d1_71 : decode jdk_33_method_47_code 71 = .ok (.iushr, 1) := by decide +kernel
theorem d1_72 : decode jdk_33_method_47_code 72 = .ok (.istore_n 0, 1) := by decide +kernel
theorem d1_73 : decode jdk_33_method_47_code 73 = .ok (.iload_n 1, 1) := by decide +kernel
theorem d1_74 : decode jdk_33_method_47_code 74 = .ok (.iload_n 0, 1) := by decide +kernel
theorem d1_75 : decode jdk_33_method_47_code 75 = .ok (.iconst 1, 1) := by decide +kernel
theorem d1_76 : decode jdk_33_method_47_code 76 = .ok (.iushr, 1) := by decide +kernel
theorem d1_77 : decode jdk_33_method_47_code 77 = .ok (.isub, 1) := by decide +kernel
theorem d1_78 : decode jdk_33_method_47_code 78 = .ok (.ireturn, 1) := by decide +kernel
theorem d0_0 : decode jdk_33_method_48_code 0 = .ok (.iload_n 0, 1) := by decide +kernel
theorem d0_1 : decode jdk_33_method_48_code 1 = .ok (.iconst (-1), 1) := by decide +kernel
theorem d0_2 : decode jdk_33_method_48_code 2 = .ok (.ixor, 1) := by decide +kernel
theorem d0_3 : decode jdk_33_method_48_code 3 = .ok (.iload_n 0, 1) := by decide +kernel
theorem d0_4 : decode jdk_33_method_48_code 4 = .ok (.iconst 1, 1) := by decide +kernel
theorem d0_5 : decode jdk_33_method_48_code 5 = .ok (.isub, 1) := by decide +kernel
theorem d0_6 : decode jdk_33_method_48_code 6 = .ok (.iand, 1) := by decide +kernel
theorem d0_7 : decode jdk_33_method_48_code 7 = .ok (.istore_n 0, 1) := by decide +kernel
theorem d0_8 : decode jdk_33_method_48_code 8 = .ok (.iload_n 0, 1) := by decide +kernel
theorem d0_9 : decode jdk_33_method_48_code 9 = .ok (.ifCond .gt 8, 3) := by decide +kernel
theorem d0_12 : decode jdk_33_method_48_code 12 = .ok (.iload_n 0, 1) := by decide +kernel
theorem d0_13 : decode jdk_33_method_48_code 13 = .ok (.bipush 32, 2) := by decide +kernel
theorem d0_15 : decode jdk_33_method_48_code 15 = .ok (.iand, 1) := by decide +kernel
theorem d0_16 : decode jdk_33_method_48_code 16 = .ok (.ireturn, 1) := by decide +kernel
theorem d0_17 : decode jdk_33_method_48_code 17 = .ok (.iconst 1, 1) := by decide +kernel
theorem d0_18 : decode jdk_33_method_48_code 18 = .ok (.istore_n 1, 1) := by decide +kernel
theorem d0_19 : decode jdk_33_method_48_code 19 = .ok (.iload_n 0, 1) := by decide +kernel
theorem d0_20 : decode jdk_33_method_48_code 20 = .ok (.ldc_w 264, 3) := by decide +kernel
theorem d0_23 : decode jdk_33_method_48_code 23 = .ok (.if_icmp .le 11, 3) := by decide +kernel
theorem d0_26 : decode jdk_33_method_48_code 26 = .ok (.iinc 1 16, 3) := by decide +kernel
theorem d0_29 : decode jdk_33_method_48_code 29 = .ok (.iload_n 0, 1) := by decide +kernel
theorem d0_30 : decode jdk_33_method_48_code 30 = .ok (.bipush 16, 2) := by decide +kernel
theorem d0_32 : decode jdk_33_method_48_code 32 = .ok (.iushr, 1) := by decide +kernel
theorem d0_33 : decode jdk_33_method_48_code 33 = .ok (.istore_n 0, 1) := by decide +kernel
theorem d0_34 : decode jdk_33_method_48_code 34 = .ok (.iload_n 0, 1) := by decide +kernel
theorem d0_35 : decode jdk_33_method_48_code 35 = .ok (.sipush 256, 3) := by decide +kernel
theorem d0_38 : decode jdk_33_method_48_code 38 = .ok (.if_icmp .le 11, 3) := by decide +kernel
theorem d0_41 : decode jdk_33_method_48_code 41 = .ok (.iinc 1 8, 3) := by decide +kernel
theorem d0_44 : decode jdk_33_method_48_code 44 = .ok (.iload_n 0, 1) := by decide +kernel
theorem d0_45 : decode jdk_33_method_48_code 45 = .ok (.bipush 8, 2) := by decide +kernel
theorem d0_47 : decode jdk_33_method_48_code 47 = .ok (.iushr, 1) := by decide +kernel
theorem d0_48 : decode jdk_33_method_48_code 48 = .ok (.istore_n 0, 1) := by decide +kernel
theorem d0_49 : decode jdk_33_method_48_code 49 = .ok (.iload_n 0, 1) := by decide +kernel
theorem d0_50 : decode jdk_33_method_48_code 50 = .ok (.bipush 16, 2) := by decide +kernel
theorem d0_52 : decode jdk_33_method_48_code 52 = .ok (.if_icmp .le 10, 3) := by decide +kernel
theorem d0_55 : decode jdk_33_method_48_code 55 = .ok (.iinc 1 4, 3) := by decide +kernel
theorem d0_58 : decode jdk_33_method_48_code 58 = .ok (.iload_n 0, 1) := by decide +kernel
theorem d0_59 : decode jdk_33_method_48_code 59 = .ok (.iconst 4, 1) := by decide +kernel
theorem d0_60 : decode jdk_33_method_48_code 60 = .ok (.iushr, 1) := by decide +kernel
theorem d0_61 : decode jdk_33_method_48_code 61 = .ok (.istore_n 0, 1) := by decide +kernel
theorem d0_62 : decode jdk_33_method_48_code 62 = .ok (.iload_n 0, 1) := by decide +kernel
theorem d0_63 : decode jdk_33_method_48_code 63 = .ok (.iconst 4, 1) := by decide +kernel
theorem d0_64 : decode jdk_33_method_48_code 64 = .ok (.if_icmp .le 10, 3) := by decide +kernel
theorem d0_67 : decode jdk_33_method_48_code 67 = .ok (.iinc 1 2, 3) := by decide +kernel
theorem d0_70 : decode jdk_33_method_48_code 70 = .ok (.iload_n 0, 1) := by decide +kernel
theorem d0_71 : decode jdk_33_method_48_code 71 = .ok (.iconst 2, 1) := by decide +kernel
theorem d0_72 : decode jdk_33_method_48_code 72 = .ok (.iushr, 1) := by decide +kernel
theorem d0_73 : decode jdk_33_method_48_code 73 = .ok (.istore_n 0, 1) := by decide +kernel
theorem d0_74 : decode jdk_33_method_48_code 74 = .ok (.iload_n 1, 1) := by decide +kernel
theorem d0_75 : decode jdk_33_method_48_code 75 = .ok (.iload_n 0, 1) := by decide +kernel
theorem d0_76 : decode jdk_33_method_48_code 76 = .ok (.iconst 1, 1) := by decide +kernel
theorem d0_77 : decode jdk_33_method_48_code 77 = .ok (.iushr, 1) := by decide +kernel
theorem d0_78 : decode jdk_33_method_48_code 78 = .ok (.iadd, 1) := by decide +kernel
theorem d0_79 : decode jdk_33_method_48_code 79 = .ok (.ireturn, 1) := by decide +kernel
theorem d3_0 : decode jdk_33_method_49_code 0 = .ok (.iload_n 0, 1) := by decide +kernel
theorem d3_1 : decode jdk_33_method_49_code 1 = .ok (.iload_n 0, 1) := by decide +kernel
theorem d3_2 : decode jdk_33_method_49_code 2 = .ok (.iconst 1, 1) := by decide +kernel
theorem d3_3 : decode jdk_33_method_49_code 3 = .ok (.iushr, 1) := by decide +kernel
theorem d3_4 : decode jdk_33_method_49_code 4 = .ok (.ldc_w 265, 3) := by decide +kernel
theorem d3_7 : decode jdk_33_method_49_code 7 = .ok (.iand, 1) := by decide +kernel
theorem d3_8 : decode jdk_33_method_49_code 8 = .ok (.isub, 1) := by decide +kernel
theorem d3_9 : decode jdk_33_method_49_code 9 = .ok (.istore_n 0, 1) := by decide +kernel
theorem d3_10 : decode jdk_33_method_49_code 10 = .ok (.iload_n 0, 1) := by decide +kernel
theorem d3_11 : decode jdk_33_method_49_code 11 = .ok (.ldc_w 266, 3) := by decide +kernel
theorem d3_14 : decode jdk_33_method_49_code 14 = .ok (.iand, 1) := by decide +kernel
theorem d3_15 : decode jdk_33_method_49_code 15 = .ok (.iload_n 0, 1) := by decide +kernel
theorem d3_16 : decode jdk_33_method_49_code 16 = .ok (.iconst 2, 1) := by decide +kernel
theorem d3_17 : decode jdk_33_method_49_code 17 = .ok (.iushr, 1) := by decide +kernel
theorem d3_18 : decode jdk_33_method_49_code 18 = .ok (.ldc_w 266, 3) := by decide +kernel
theorem d3_21 : decode jdk_33_method_49_code 21 = .ok (.iand, 1) := by decide +kernel
theorem d3_22 : decode jdk_33_method_49_code 22 = .ok (.iadd, 1) := by decide +kernel
theorem d3_23 : decode jdk_33_method_49_code 23 = .ok (.istore_n 0, 1) := by decide +kernel
theorem d3_24 : decode jdk_33_method_49_code 24 = .ok (.iload_n 0, 1) := by decide +kernel
theorem d3_25 : decode jdk_33_method_49_code 25 = .ok (.iload_n 0, 1) := by decide +kernel
theorem d3_26 : decode jdk_33_method_49_code 26 = .ok (.iconst 4, 1) := by decide +kernel
theorem d3_27 : decode jdk_33_method_49_code 27 = .ok (.iushr, 1) := by decide +kernel
theorem d3_28 : decode jdk_33_method_49_code 28 = .ok (.iadd, 1) := by decide +kernel
theorem d3_29 : decode jdk_33_method_49_code 29 = .ok (.ldc_w 267, 3) := by decide +kernel
theorem d3_32 : decode jdk_33_method_49_code 32 = .ok (.iand, 1) := by decide +kernel
theorem d3_33 : decode jdk_33_method_49_code 33 = .ok (.istore_n 0, 1) := by decide +kernel
theorem d3_34 : decode jdk_33_method_49_code 34 = .ok (.iload_n 0, 1) := by decide +kernel
theorem d3_35 : decode jdk_33_method_49_code 35 = .ok (.iload_n 0, 1) := by decide +kernel
theorem d3_36 : decode jdk_33_method_49_code 36 = .ok (.bipush 8, 2) := by decide +kernel
theorem d3_38 : decode jdk_33_method_49_code 38 = .ok (.iushr, 1) := by decide +kernel
theorem d3_39 : decode jdk_33_method_49_code 39 = .ok (.iadd, 1) := by decide +kernel
theorem d3_40 : decode jdk_33_method_49_code 40 = .ok (.istore_n 0, 1) := by decide +kernel
theorem d3_41 : decode jdk_33_method_49_code 41 = .ok (.iload_n 0, 1) := by decide +kernel
theorem d3_42 : decode jdk_33_method_49_code 42 = .ok (.iload_n 0, 1) := by decide +kernel
theorem d3_43 : decode jdk_33_method_49_code 43 = .ok (.bipush 16, 2) := by decide +kernel
theorem d3_45 : decode jdk_33_method_49_code 45 = .ok (.iushr, 1) := by decide +kernel
theorem d3_46 : decode jdk_33_method_49_code 46 = .ok (.iadd, 1) := by decide +kernel
theorem d3_47 : decode jdk_33_method_49_code 47 = .ok (.istore_n 0, 1) := by decide +kernel
theorem d3_48 : decode jdk_33_method_49_code 48 = .ok (.iload_n 0, 1) := by decide +kernel
theorem d3_49 : decode jdk_33_method_49_code 49 = .ok (.bipush 63, 2) := by decide +kernel
theorem d3_51 : decode jdk_33_method_49_code 51 = .ok (.iand, 1) := by decide +kernel
theorem d3_52 : decode jdk_33_method_49_code 52 = .ok (.ireturn, 1) := by decide +kernel
theorem d17_0 : decode jdk_65_method_123_code 0 = .ok (.iload_n 1, 1) := by decide +kernel
theorem d17_1 : decode jdk_65_method_123_code 1 = .ok (.aload_n 0, 1) := by decide +kernel
theorem d17_2 : decode jdk_65_method_123_code 2 = .ok (.arraylength, 1) := by decide +kernel
theorem d17_3 : decode jdk_65_method_123_code 3 = .ok (.if_icmp .ne 11, 3) := by decide +kernel
theorem d17_6 : decode jdk_65_method_123_code 6 = .ok (.aload_n 0, 1) := by decide +kernel
theorem d17_7 : decode jdk_65_method_123_code 7 = .ok (.invokevirtual 316, 3) := by decide +kernel
theorem d17_10 : decode jdk_65_method_123_code 10 = .ok (.checkcast 317, 3) := by decide +kernel
theorem d17_13 : decode jdk_65_method_123_code 13 = .ok (.areturn, 1) := by decide +kernel
theorem d47_0 : decode prog_21_method_16_code 0 = .ok (.aload_n 0, 1) := by decide +kernel
theorem d47_1 : decode prog_21_method_16_code 1 = .ok (.getfield 7, 3) := by decide +kernel
theorem d47_4 : decode prog_21_method_16_code 4 = .ok (.invokevirtual 42, 3) := by decide +kernel
theorem d47_7 : decode prog_21_method_16_code 7 = .ok (.ireturn, 1) := by decide +kernel
theorem d46_0 : decode prog_21_method_17_code 0 = .ok (.aload_n 0, 1) := by decide +kernel
theorem d46_1 : decode prog_21_method_17_code 1 = .ok (.getfield 13, 3) := by decide +kernel
theorem d46_4 : decode prog_21_method_17_code 4 = .ok (.getstatic 22, 3) := by decide +kernel
theorem d46_7 : decode prog_21_method_17_code 7 = .ok (.invokevirtual 165, 3) := by decide +kernel
theorem d46_10 : decode prog_21_method_17_code 10 = .ok (.ireturn, 1) := by decide +kernel
theorem d40_0 : decode prog_21_method_1_code 0 = .ok (.aload_n 0, 1) := by decide +kernel
theorem d40_1 : decode prog_21_method_1_code 1 = .ok (.invokespecial 1, 3) := by decide +kernel
theorem d40_4 : decode prog_21_method_1_code 4 = .ok (.aload_n 0, 1) := by decide +kernel
theorem d40_5 : decode prog_21_method_1_code 5 = .ok (.aload_n 1, 1) := by decide +kernel
theorem d40_6 : decode prog_21_method_1_code 6 = .ok (.putfield 7, 3) := by decide +kernel
theorem d40_9 : decode prog_21_method_1_code 9 = .ok (.aload_n 0, 1) := by decide +kernel
theorem d40_10 : decode prog_21_method_1_code 10 = .ok (.aload_n 2, 1) := by decide +kernel
theorem d40_11 : decode prog_21_method_1_code 11 = .ok (.putfield 13, 3) := by decide +kernel
theorem d40_14 : decode prog_21_method_1_code 14 = .ok (.return_, 1) := by decide +kernel
theorem d48_0 : decode prog_21_method_25_code 0 = .ok (.aload_n 0, 1) := by decide +kernel
theorem d48_1 : decode prog_21_method_25_code 1 = .ok (.getfield 7, 3) := by decide +kernel
theorem d48_4 : decode prog_21_method_25_code 4 = .ok (.aload_n 1, 1) := by decide +kernel
theorem d48_5 : decode prog_21_method_25_code 5 = .ok (.getfield 13, 3) := by decide +kernel
theorem d48_8 : decode prog_21_method_25_code 8 = .ok (.invokevirtual 60, 3) := by decide +kernel
theorem d48_11 : decode prog_21_method_25_code 11 = .ok (.aload_n 1, 1) := by decide +kernel
theorem d48_12 : decode prog_21_method_25_code 12 = .ok (.getfield 7, 3) := by decide +kernel
theorem d48_15 : decode prog_21_method_25_code 15 = .ok (.aload_n 0, 1) := by decide +kernel
theorem d48_16 : decode prog_21_method_25_code 16 = .ok (.getfield 13, 3) := by decide +kernel
theorem d48_19 : decode prog_21_method_25_code 19 = .ok (.invokevirtual 60, 3) := by decide +kernel
theorem d48_22 : decode prog_21_method_25_code 22 = .ok (.invokevirtual 205, 3) := by decide +kernel
theorem d48_25 : decode prog_21_method_25_code 25 = .ok (.ireturn, 1) := by decide +kernel
theorem d45_0 : decode prog_21_method_26_code 0 = .ok (.aload_n 1, 1) := by decide +kernel
theorem d45_1 : decode prog_21_method_26_code 1 = .ok (.instanceof 8, 3) := by decide +kernel
theorem d45_4 : decode prog_21_method_26_code 4 = .ok (.ifCond .eq 40, 3) := by decide +kernel
theorem d45_7 : decode prog_21_method_26_code 7 = .ok (.aload_n 1, 1) := by decide +kernel
theorem d45_8 : decode prog_21_method_26_code 8 = .ok (.checkcast 8, 3) := by decide +kernel
theorem d45_11 : decode prog_21_method_26_code 11 = .ok (.astore_n 2, 1) := by decide +kernel
theorem d45_12 : decode prog_21_method_26_code 12 = .ok (.aload_n 0, 1) := by decide +kernel
theorem d45_13 : decode prog_21_method_26_code 13 = .ok (.getfield 7, 3) := by decide +kernel
theorem d45_16 : decode prog_21_method_26_code 16 = .ok (.aload_n 2, 1) := by decide +kernel
theorem d45_17 : decode prog_21_method_26_code 17 = .ok (.getfield 7, 3) := by decide +kernel
theorem d45_20 : decode prog_21_method_26_code 20 = .ok (.invokevirtual 165, 3) := by decide +kernel
theorem d45_23 : decode prog_21_method_26_code 23 = .ok (.ifCond .eq 21, 3) := by decide +kernel
theorem d45_26 : decode prog_21_method_26_code 26 = .ok (.aload_n 0, 1) := by decide +kernel
theorem d45_27 : decode prog_21_method_26_code 27 = .ok (.getfield 13, 3) := by decide +kernel
theorem d45_30 : decode prog_21_method_26_code 30 = .ok (.aload_n 2, 1) := by decide +kernel
theorem d45_31 : decode prog_21_method_26_code 31 = .ok (.getfield 13, 3) := by decide +kernel
theorem d45_34 : decode prog_21_method_26_code 34 = .ok (.invokevirtual 165, 3) := by decide +kernel
theorem d45_37 : decode prog_21_method_26_code 37 = .ok (.ifCond .eq 7, 3) := by decide +kernel
theorem d45_40 : decode prog_21_method_26_code 40 = .ok (.iconst 1, 1) := by decide +kernel
theorem d45_41 : decode prog_21_method_26_code 41 = .ok (.goto 4, 3) := by decide +kernel
theorem d45_45 : decode prog_21_method_26_code 45 = .ok (.ireturn, 1) := by decide +kernel
theorem d41_0 : decode prog_21_method_2_code 0 = .ok (.new 8, 3) := by decide +kernel
theorem d41_3 : decode prog_21_method_2_code 3 = .ok (.dup, 1) := by decide +kernel
theorem d41_4 : decode prog_21_method_2_code 4 = .ok (.lload_n 0, 1) := by decide +kernel
theorem d41_5 : decode prog_21_method_2_code 5 = .ok (.invokestatic 16, 3) := by decide +kernel
theorem d41_8 : decode prog_21_method_2_code 8 = .ok (.getstatic 22, 3) := by decide +kernel
theorem d41_11 : decode prog_21_method_2_code 11 = .ok (.invokespecial 25, 3) := by decide +kernel
theorem d41_14 : decode prog_21_method_2_code 14 = .ok (.areturn, 1) := by decide +kernel
theorem d44_0 : decode prog_21_method_4_code 0 = .ok (.lload_n 0, 1) := by decide +kernel
theorem d44_1 : decode prog_21_method_4_code 1 = .ok (.invokestatic 16, 3) := by decide +kernel
theorem d44_4 : decode prog_21_method_4_code 4 = .ok (.lload_n 2, 1) := by decide +kernel
theorem d44_5 : decode prog_21_method_4_code 5 = .ok (.invokestatic 16, 3) := by decide +kernel
theorem d44_8 : decode prog_21_method_4_code 8 = .ok (.invokestatic 36, 3) := by decide +kernel
theorem d44_11 : decode prog_21_method_4_code 11 = .ok (.areturn, 1) := by decide +kernel
theorem d43_0 : decode prog_21_method_5_code 0 = .ok (.aload_n 0, 1) := by decide +kernel
theorem d43_1 : decode prog_21_method_5_code 1 = .ok (.ldc 40, 2) := by decide +kernel
theorem d43_3 : decode prog_21_method_5_code 3 = .ok (.invokestatic 30, 3) := by decide +kernel
theorem d43_6 : decode prog_21_method_5_code 6 = .ok (.pop, 1) := by decide +kernel
theorem d43_7 : decode prog_21_method_5_code 7 = .ok (.aload_n 1, 1) := by decide +kernel
theorem d43_8 : decode prog_21_method_5_code 8 = .ok (.ldc 41, 2) := by decide +kernel
theorem d43_10 : decode prog_21_method_5_code 10 = .ok (.invokestatic 30, 3) := by decide +kernel
theorem d43_13 : decode prog_21_method_5_code 13 = .ok (.pop, 1) := by decide +kernel
theorem d43_14 : decode prog_21_method_5_code 14 = .ok (.aload_n 1, 1) := by decide +kernel
theorem d43_15 : decode prog_21_method_5_code 15 = .ok (.invokevirtual 42, 3) := by decide +kernel
theorem d43_18 : decode prog_21_method_5_code 18 = .ok (.ifCond .ne 13, 3) := by decide +kernel
theorem d43_31 : decode prog_21_method_5_code 31 = .ok (.aload_n 0, 1) := by decide +kernel
theorem d43_32 : decode prog_21_method_5_code 32 = .ok (.aload_n 1, 1) := by decide +kernel
theorem d43_33 : decode prog_21_method_5_code 33 = .ok (.invokevirtual 53, 3) := by decide +kernel
theorem d43_36 : decode prog_21_method_5_code 36 = .ok (.astore_n 2, 1) := by decide +kernel
theorem d43_37 : decode prog_21_method_5_code 37 = .ok (.aload_n 1, 1) := by decide +kernel
theorem d43_38 : decode prog_21_method_5_code 38 = .ok (.invokevirtual 42, 3) := by decide +kernel
theorem d43_41 : decode prog_21_method_5_code 41 = .ok (.i2l, 1) := by decide +kernel
theorem d43_42 : decode prog_21_method_5_code 42 = .ok (.invokestatic 16, 3) := by decide +kernel
theorem d43_45 : decode prog_21_method_5_code 45 = .ok (.astore_n 3, 1) := by decide +kernel
theorem d43_46 : decode prog_21_method_5_code 46 = .ok (.new 8, 3) := by decide +kernel
theorem d43_49 : decode prog_21_method_5_code 49 = .ok (.dup, 1) := by decide +kernel
theorem d43_50 : decode prog_21_method_5_code 50 = .ok (.aload_n 0, 1) := by decide +kernel
theorem d43_51 : decode prog_21_method_5_code 51 = .ok (.aload_n 2, 1) := by decide +kernel
theorem d43_52 : decode prog_21_method_5_code 52 = .ok (.invokevirtual 57, 3) := by decide +kernel
theorem d43_55 : decode prog_21_method_5_code 55 = .ok (.aload_n 3, 1) := by decide +kernel
theorem d43_56 : decode prog_21_method_5_code 56 = .ok (.invokevirtual 60, 3) := by decide +kernel
theorem d43_59 : decode prog_21_method_5_code 59 = .ok (.aload_n 1, 1) := by decide +kernel
theorem d43_60 : decode prog_21_method_5_code 60 = .ok (.aload_n 2, 1) := by decide +kernel
theorem d43_61 : decode prog_21_method_5_code 61 = .ok (.invokevirtual 57, 3) := by decide +kernel
theorem d43_64 : decode prog_21_method_5_code 64 = .ok (.aload_n 3, 1) := by decide +kernel
theorem d43_65 : decode prog_21_method_5_code 65 = .ok (.invokevirtual 60, 3) := by decide +kernel
theorem d43_68 : decode prog_21_method_5_code 68 = .ok (.invokespecial 25, 3) := by decide +kernel
theorem d43_71 : decode prog_21_method_5_code 71 = .ok (.areturn, 1) := by decide +kernel
theorem ar0 : Jvm.Free.XT.arity "(I)I" = some 1 := by decide +kernel
theorem ar1 : Jvm.Free.XT.arity "(I)V" = some 1 := by decide +kernel
theorem ar2 : Jvm.Free.XT.arity "(Ljava/math/MutableBigInteger;)I" = some 1 := by decide +kernel
theorem ar3 : Jvm.Free.XT.arity "()V" = some 0 := by decide +kernel
theorem ar4 : Jvm.Free.XT.arity "(II)I" = some 2 := by decide +kernel
theorem ar5 : Jvm.Free.XT.arity "()I" = some 0 := by decide +kernel
theorem ar6 : Jvm.Free.XT.arity "([II)[I" = some 2 := by decide +kernel
theorem ar7 : Jvm.Free.XT.arity "()[I" = some 0 := by decide +kernel
theorem ar8 : Jvm.Free.XT.arity "([II)V" = some 2 := by decide +kernel
theorem ar9 : Jvm.Free.XT.arity "(Ljava/math/MutableBigInteger;)Ljava/math/MutableBigInteger;" = some 1 := by decide +kernel
theorem ar10 : Jvm.Free.XT.arity "()Ljava/math/BigInteger;" = some 0 := by decide +kernel
theorem ar11 : Jvm.Free.XT.arity "(Ljava/math/BigInteger;)V" = some 1 := by decide +kernel
theorem ar12 : Jvm.Free.XT.arity "(I)Ljava/math/BigInteger;" = some 1 := by decide +kernel
theorem ar13 : Jvm.Free.XT.arity "(ILjava/math/MutableBigInteger;)I" = some 2 := by decide +kernel
theorem ar14 : Jvm.Free.XT.arity "([I)V" = some 1 := by decide +kernel
theorem ar15 : Jvm.Free.XT.arity "(Ljava/math/MutableBigInteger;Ljava/math/MutableBigInteger;Z)Ljava/math/MutableBigInteger;" = some 3 := by decide +kernel
theorem ar16 : Jvm.Free.XT.arity "(Ljava/math/BigInteger;)Ljava/math/BigInteger;" = some 1 := by decide +kernel
theorem ar17 : Jvm.Free.XT.arity "([III)Ljava/math/BigInteger;" = some 3 := by decide +kernel
theorem ar18 : Jvm.Free.XT.arity "(Ljava/math/BigInteger;ZZI)Ljava/math/BigInteger;" = some 4 := by decide +kernel
theorem ar19 : Jvm.Free.XT.arity "(Ljava/math/BigInteger;)I" = some 1 := by decide +kernel
theorem ar20 : Jvm.Free.XT.arity "(J)V" = some 1 := by decide +kernel
theorem ar21 : Jvm.Free.XT.arity "(J)Ljava/math/BigInteger;" = some 1 := by decide +kernel
theorem ar22 : Jvm.Free.XT.arity "(Ljava/math/BigInteger;Ljava/math/BigInteger;)V" = some 2 := by decide +kernel
theorem ar23 : Jvm.Free.XT.arity "(Ljava/lang/Object;Ljava/lang/String;)Ljava/lang/Object;" = some 2 := by decide +kernel
theorem ar24 : Jvm.Free.XT.arity "(Ljava/math/BigInteger;Ljava/math/BigInteger;)Lcom/example/locks_to_budgets/lockstobudgets/exact/Rational;" = some 2 := by decide +kernel
theorem ar25 : Jvm.Free.XT.arity "(Ljava/lang/Object;)Z" = some 1 := by decide +kernel
theorem ar26 : Jvm.Free.XT.arity "(J)Lcom/example/locks_to_budgets/lockstobudgets/exact/Rational;" = some 1 := by decide +kernel
theorem ar27 : Jvm.Free.XT.arity "(JJ)Lcom/example/locks_to_budgets/lockstobudgets/exact/Rational;" = some 2 := by decide +kernel
theorem ar28 : Jvm.Free.XT.arity "()Z" = some 0 := by decide +kernel
theorem ar29 : Jvm.Free.XT.arity "(Lcom/example/locks_to_budgets/lockstobudgets/exact/Rational;)I" = some 1 := by decide +kernel
theorem pf0 : parseFieldDescriptor "I" = some .int := by decide +kernel
theorem pf1 : parseFieldDescriptor "[I" = some (.array .int) := by decide +kernel
theorem pf2 : parseFieldDescriptor "Ljava/math/BigInteger;" = some (.object "java/math/BigInteger") := by decide +kernel
theorem pf3 : parseFieldDescriptor "[B" = some (.array .byte) := by decide +kernel
theorem pf4 : parseFieldDescriptor "B" = some .byte := by decide +kernel
theorem pn0 : plainName "java/lang/Integer" = true := by first | (simp [plainName, overriddenIn]; done) | decide +kernel
theorem pn1 : plainName "java/math/BigInteger" = true := by first | (simp [plainName, overriddenIn]; done) | decide +kernel
theorem pn2 : plainName "java/math/MutableBigInteger" = true := by first | (simp [plainName, overriddenIn]; done) | decide +kernel
theorem pn3 : plainName "java/lang/Number" = true := by first | (simp [plainName, overriddenIn]; done) | decide +kernel
theorem pn4 : plainName "java/util/Arrays" = true := by first | (simp [plainName, overriddenIn]; done) | decide +kernel
theorem pn5 : plainName "com/example/locks_to_budgets/lockstobudgets/exact/Rational" = true := by first | (simp [plainName, overriddenIn]; done) | decide +kernel
theorem pn6 : plainName "java/util/Objects" = true := by first | (simp [plainName, overriddenIn]; done) | decide +kernel
theorem pn7 : plainName "com/example/locks_to_budgets/lockstobudgets/exact/RationalOfPinLaw" = true := by first | (simp [plainName, overriddenIn]; done) | decide +kernel
theorem wSof {Z : State} {a0 : Array Value} (K : Ok Z a0) : ∀ a ∈ Bundle.stringAtoms, a.before a0 Z = true := fun a ha => by
  simp only [Bundle.stringAtoms, List.mem_cons, List.not_mem_nil, or_false] at ha
  rcases ha with rfl | rfl | rfl | rfl | rfl | rfl | rfl
  · exact (w30 K)
  · exact (w31 K)
  · exact (w32 K)
  · exact (w33 K)
  · exact (w34 K)
  · exact (w35 K)
  · exact (w36 K)
theorem EWof {Z : State} {a0 : Array Value} (K : Ok Z a0) : EW Z a0 EL := EW.nil
theorem lay_String {Z : State} {a0 : Array Value} (K : Ok Z a0) : Jvm.Own.Lay Z a0 "java/lang/String" strF := ⟨⟨_, w31 K⟩, fun f hf => by
  simp only [strF, List.mem_cons, List.not_mem_nil, or_false] at hf
  rcases hf with rfl | rfl
  · exact ⟨Or.inr (w33 K), _, pf3⟩
  · exact ⟨Or.inr (w34 K), _, pf4⟩, by decide⟩
theorem df_String : (strF).map dflt = [.null, .int 0] := by decide +kernel
abbrev fl_BigInteger : List FN := [("java/math/BigInteger", "signum", "I"), ("java/math/BigInteger", "mag", "[I")]
theorem lay_BigInteger {Z : State} {a0 : Array Value} (K : Ok Z a0) : Jvm.Own.Lay Z a0 "java/math/BigInteger" fl_BigInteger := ⟨⟨_, w127 K⟩, fun f hf => by
  simp only [fl_BigInteger, List.mem_cons, List.not_mem_nil, or_false] at hf
  rcases hf with rfl | rfl
  · exact ⟨Or.inr (w48 K), _, pf0⟩
  · exact ⟨Or.inr (w65 K), _, pf1⟩, by decide⟩
theorem df_BigInteger : (fl_BigInteger).map dflt = [.int 0, .null] := by decide +kernel
abbrev fl_MutableBigInteger : List FN := [("java/math/MutableBigInteger", "value", "[I"), ("java/math/MutableBigInteger", "intLen", "I"), ("java/math/MutableBigInteger", "offset", "I")]
theorem lay_MutableBigInteger {Z : State} {a0 : Array Value} (K : Ok Z a0) : Jvm.Own.Lay Z a0 "java/math/MutableBigInteger" fl_MutableBigInteger := ⟨⟨_, w55 K⟩, fun f hf => by
  simp only [fl_MutableBigInteger, List.mem_cons, List.not_mem_nil, or_false] at hf
  rcases hf with rfl | rfl | rfl
  · exact ⟨Or.inl (w82 K), _, pf1⟩
  · exact ⟨Or.inl (w67 K), _, pf0⟩
  · exact ⟨Or.inl (w63 K), _, pf0⟩, by decide⟩
theorem df_MutableBigInteger : (fl_MutableBigInteger).map dflt = [.null, .int 0, .int 0] := by decide +kernel
abbrev fl_Rational : List FN := [("com/example/locks_to_budgets/lockstobudgets/exact/Rational", "numerator", "Ljava/math/BigInteger;"), ("com/example/locks_to_budgets/lockstobudgets/exact/Rational", "denominator", "Ljava/math/BigInteger;")]
theorem lay_Rational {Z : State} {a0 : Array Value} (K : Ok Z a0) : Jvm.Own.Lay Z a0 "com/example/locks_to_budgets/lockstobudgets/exact/Rational" fl_Rational := ⟨⟨_, w5 K⟩, fun f hf => by
  simp only [fl_Rational, List.mem_cons, List.not_mem_nil, or_false] at hf
  rcases hf with rfl | rfl
  · exact ⟨Or.inr (w20 K), _, pf2⟩
  · exact ⟨Or.inr (w22 K), _, pf2⟩, by decide⟩
theorem df_Rational : (fl_Rational).map dflt = [.null, .null] := by decide +kernel
set_option maxRecDepth 65536
set_option maxHeartbeats 4000000
def uv (x : Int32) : Nat := (x.toInt % 4294967296).toNat
theorem uv_lt (x : Int32) : uv x < 4294967296 := by unfold uv; omega
theorem uv_cast (x : Int32) : (uv x : Int) = x.toInt % 4294967296 := by unfold uv; omega
theorem uv_inj {x y : Int32} (h : uv x = uv y) : x = y := by
  apply Int32.toInt_inj.mp
  have h1 := uv_cast x; have h2 := uv_cast y
  have := x.toInt_lt; have := x.le_toInt; have := y.toInt_lt; have := y.le_toInt
  omega
theorem uv_zero {x : Int32} : uv x = 0 ↔ x = 0 := by
  constructor
  · intro h; exact uv_inj (h.trans (by decide))
  · rintro rfl; decide
theorem uv_ofNat {n : Nat} (h : n < 4294967296) : uv (Int32.ofNat n) = n := by
  have e : (Int32.ofNat n).toInt = Int.bmod n 4294967296 := by rw [Int32.toInt_ofNat']
  have k := Int.bmod_emod (x := (n : Int)) (m := 4294967296)
  unfold uv; rw [e]; omega
theorem uv_pos {x : Int32} (h : x ≠ 0) : 0 < uv x := Nat.pos_of_ne_zero fun q => h (uv_zero.mp q)
theorem ushr_uv (x : Int32) {j : Nat} (h0 : 0 < j) (h1 : j < 32) : (XT.ushr x (Int32.ofNat j)).toInt = ((uv x / 2 ^ j : Nat) : Int) := by
  have g := c_iushr x (Int32.ofNat j) j (by rw [Int32.toBitVec_ofNat']; simp; omega) h0
  show ((x.toUInt32 >>> (Int32.ofNat j &&& 31).toUInt32).toInt32).toInt = _
  rw [g, ← uv_cast]; rfl
theorem uv_ushr (x : Int32) {j : Nat} (h0 : 0 < j) (h1 : j < 32) : uv (XT.ushr x (Int32.ofNat j)) = uv x / 2 ^ j := by
  have e := ushr_uv x h0 h1
  have l := uv_lt x
  have d : uv x / 2 ^ j ≤ uv x := Nat.div_le_self _ _
  have c := uv_cast (XT.ushr x (Int32.ofNat j))
  rw [e] at c
  generalize uv x / 2 ^ j = D at *
  omega
theorem ushr0 (x : Int32) : XT.ushr x 0 = x := by
  show (x.toUInt32 >>> ((0 : Int32) &&& 31).toUInt32).toInt32 = x
  have : ((0 : Int32) &&& 31).toUInt32 = 0 := by decide
  rw [this, UInt32.shiftRight_zero]; rfl
theorem uv_shl (x : Int32) {j : Nat} (h1 : j < 32) : uv (x <<< (Int32.ofNat j &&& 31)) = uv x * 2 ^ j % 4294967296 := by
  have g := c_ishl x (Int32.ofNat j) j (by rw [Int32.toBitVec_ofNat']; simp; omega)
  have c := uv_cast (x <<< (Int32.ofNat j &&& 31))
  have c2 := uv_cast x
  have e : ((uv x * 2 ^ j : Nat) : Int) % 4294967296 = (x.toInt * (2 ^ j : Nat)) % 4294967296 := by
    rw [Int.natCast_mul, c2, Int.mul_emod, Int.emod_emod, ← Int.mul_emod]
  generalize (x <<< (Int32.ofNat j &&& 31)).toInt = A at *
  generalize x.toInt * ((2 ^ j : Nat) : Int) = B at *
  generalize uv x * 2 ^ j = C at *
  omega
theorem uv_sub {x y : Int32} (h : uv y ≤ uv x) : uv (x - y) = uv x - uv y := by
  have g := c_isub x y
  have c := uv_cast (x - y); have c1 := uv_cast x; have c2 := uv_cast y
  have := uv_lt x
  omega
theorem uv_addmin (x : Int32) : (x + (-2147483648)).toInt = (uv x : Int) - 2147483648 := by
  have g := c_iadd x (-2147483648)
  have e : (-2147483648 : Int32).toInt = -2147483648 := rfl
  have c := uv_cast x
  have := x.toInt_lt; have := x.le_toInt
  have := (x + (-2147483648)).toInt_lt; have := (x + (-2147483648)).le_toInt
  omega
theorem ult {x y : Int32} : x + (-2147483648) < y + (-2147483648) ↔ uv x < uv y := by
  rw [lt32, uv_addmin, uv_addmin]; omega
/-- the lowest bit -/
def LB (n k : Nat) : Prop := n % 2 ^ k = 0 ∧ n / 2 ^ k % 2 = 1
theorem lb_ex : ∀ (b n : Nat), 0 < n → n < 2 ^ b → ∃ k, k < b ∧ LB n k := by
  intro b
  induction b with
  | zero => intro n h0 h1; omega
  | succ b ih =>
    intro n h0 h1
    by_cases q : n % 2 = 1
    · exact ⟨0, by omega, by simp [LB, q]; omega⟩
    · obtain ⟨k, hk, g1, g2⟩ := ih (n / 2) (by omega) (by rw [Nat.pow_succ] at h1; omega)
      refine ⟨k + 1, by omega, ?_, ?_⟩
      · rw [Nat.pow_succ, Nat.mul_comm, Nat.mod_mul, g1]; omega
      · rw [Nat.pow_succ, Nat.mul_comm, ← Nat.div_div_eq_div_mul]; exact g2
theorem lb_bits {n k : Nat} (h : LB n k) : n = 2 ^ k * (2 * (n / 2 ^ k / 2) + 1) := by
  have d := Nat.div_add_mod n (2 ^ k)
  have e := Nat.div_add_mod (n / 2 ^ k) 2
  rw [h.1] at d; rw [h.2] at e
  rw [e]; omega
theorem ntz_word {x : Int32} {k : Nat} (hk : k < 32) (h : LB (uv x) k) : (x ^^^ (-1)) &&& (x - 1) = Int32.ofNat (2 ^ k - 1) := by
  have hb := lb_bits h
  have l := uv_lt x
  generalize uv x / 2 ^ k / 2 = q at hb
  have hx : x.toBitVec.toNat = uv x := by
    have : x.toInt = x.toBitVec.toInt := rfl
    have c := uv_cast x
    rw [this, BitVec.toInt_eq_toNat_bmod] at c
    have := x.toBitVec.isLt
    have k := Int.bmod_emod (x := (x.toBitVec.toNat : Int)) (m := 2 ^ 32)
    omega
  have hp : 0 < 2 ^ k := Nat.pow_pos (by decide)
  have h1 : (x - 1).toBitVec.toNat = uv x - 1 := by
    rw [Int32.toBitVec_sub, BitVec.toNat_sub, hx]
    have e1 : (1 : Int32).toBitVec.toNat = 1 := rfl
    have h0 : 0 < uv x := by rw [hb]; exact Nat.mul_pos hp (by omega)
    rw [e1]; omega
  apply Int32.toBitVec_inj.mp
  rw [Int32.toBitVec_and, Int32.toBitVec_xor]
  apply BitVec.eq_of_getLsbD_eq
  intro i hi
  have em : (-1 : Int32).toBitVec = BitVec.allOnes 32 := by decide
  rw [BitVec.getLsbD_and, BitVec.getLsbD_xor, em, BitVec.getLsbD_allOnes]
  simp only [BitVec.getLsbD, hx, h1]
  have e2 : (Int32.ofNat (2 ^ k - 1)).toBitVec.toNat = 2 ^ k - 1 := by
    rw [Int32.toBitVec_ofNat', BitVec.toNat_ofNat]
    have : 2 ^ k ≤ 2 ^ 31 := Nat.pow_le_pow_right (by decide) (by omega)
    omega
  rw [e2, Nat.testBit_two_pow_sub_one]
  have e3 : uv x - 1 = 2 ^ k * (2 * q) + (2 ^ k - 1) := by rw [hb, Nat.mul_add]; omega
  rw [e3, Nat.testBit_two_pow_mul_add _ (by omega), hb, Nat.testBit_two_pow_mul]
  by_cases c1 : i < k
  · have : ¬ k ≤ i := by omega
    simp [c1, this, hi, Nat.testBit_two_pow_sub_one]
  · have c2 : k ≤ i := by omega
    simp only [c1, c2, hi, decide_true, Bool.true_and, if_false, decide_false]
    cases hj : i - k with
    | zero => simp
    | succ j => simp only [Nat.testBit_succ]; rw [show (2 * q + 1) / 2 = 2 * q / 2 by omega]; cases (2 * q / 2).testBit j <;> rfl
/-- the highest bit -/
def HB (n e : Nat) : Prop := 2 ^ e ≤ n ∧ n < 2 ^ (e + 1)
theorem hb_ex : ∀ (b n : Nat), 0 < n → n < 2 ^ b → ∃ e, e < b ∧ HB n e := by
  intro b
  induction b with
  | zero => intro n h0 h1; omega
  | succ b ih =>
    intro n h0 h1
    by_cases q : n < 2 ^ b
    · obtain ⟨e, h2, h3⟩ := ih n h0 q
      exact ⟨e, by omega, h3⟩
    · exact ⟨b, by omega, by omega, h1⟩
theorem hb_div {n e j : Nat} (h : HB n e) (hj : j ≤ e) : HB (n / 2 ^ j) (e - j) := by
  have hp : 0 < 2 ^ j := Nat.pow_pos (by decide)
  constructor
  · rw [Nat.le_div_iff_mul_le hp, ← Nat.pow_add, Nat.sub_add_cancel hj]; exact h.1
  · rw [Nat.div_lt_iff_lt_mul hp, ← Nat.pow_add, show e - j + 1 + j = e + 1 by omega]; exact h.2
theorem hb_ge {n e j : Nat} (h : HB n e) : 2 ^ j ≤ n ↔ j ≤ e := by
  constructor
  · intro q
    refine Nat.le_of_not_lt fun r => ?_
    have := Nat.pow_le_pow_right (n := 2) (by decide) (show e + 1 ≤ j by omega)
    have := h.2
    omega
  · intro q; exact Nat.le_trans (Nat.pow_le_pow_right (by decide) q) h.1
theorem uv_bv (x : Int32) : x.toBitVec.toNat = uv x := by
  have : x.toInt = x.toBitVec.toInt := rfl
  have c := uv_cast x
  rw [this, BitVec.toInt_eq_toNat_bmod] at c
  have := x.toBitVec.isLt
  have k := Int.bmod_emod (x := (x.toBitVec.toNat : Int)) (m := 2 ^ 32)
  omega
theorem uv_or {x y : Int32} {i a : Nat} (hx : uv x = 2 ^ i * a) (hy : uv y < 2 ^ i) : uv (x ||| y) = uv x + uv y := by
  rw [← uv_bv (x ||| y), Int32.toBitVec_or, BitVec.toNat_or, uv_bv, uv_bv, hx, Nat.two_pow_add_eq_or_of_lt hy]
def v2 (h l : Int32) : Nat := uv h * 4294967296 + uv l
theorem p32 {k : Nat} (h : k ≤ 32) : 2 ^ (32 - k) * 2 ^ k = 4294967296 := by rw [← Nat.pow_add, Nat.sub_add_cancel h]
/-- the middle word of a shift to the right by k -/
theorem mid_uv {h l : Int32} {k : Nat} (h0 : 0 < k) (h1 : k < 32) : uv (h <<< (Int32.ofNat (32 - k) &&& 31) ||| XT.ushr l (Int32.ofNat k)) = v2 h l / 2 ^ k % 4294967296 := by
  have a := uv_shl h (j := 32 - k) (by omega)
  have b := uv_ushr l h0 h1
  have pk : 0 < 2 ^ k := Nat.pow_pos (by decide)
  have e32 := p32 (k := k) (by omega)
  have hl := uv_lt l
  have hb : uv l / 2 ^ k < 2 ^ (32 - k) := by rw [Nat.div_lt_iff_lt_mul pk, e32]; exact hl
  have ha : uv h * 2 ^ (32 - k) % 4294967296 = 2 ^ (32 - k) * (uv h % 2 ^ k) := by
    rw [← e32, Nat.mul_comm (uv h), Nat.mul_mod_mul_left]
  rw [uv_or (i := 32 - k) (a := uv h % 2 ^ k) (by rw [a, ha]) (by rw [b]; exact hb), a, b, ha]
  have hd : v2 h l / 2 ^ k = uv h * 2 ^ (32 - k) + uv l / 2 ^ k := by
    rw [v2, ← e32, ← Nat.mul_assoc, Nat.mul_comm _ (2 ^ k), Nat.mul_add_div pk]
  rw [hd, Nat.add_mod, ha, ← e32]
  have lt1 : 2 ^ (32 - k) * (uv h % 2 ^ k) + uv l / 2 ^ k < 2 ^ (32 - k) * 2 ^ k := by
    have : uv h % 2 ^ k + 1 ≤ 2 ^ k := Nat.mod_lt _ pk
    have := Nat.mul_le_mul_left (2 ^ (32 - k)) this
    rw [Nat.mul_add] at this; omega
  rw [Nat.mod_eq_of_lt (a := uv l / 2 ^ k) (by omega), Nat.mod_eq_of_lt lt1]
theorem two_shr {h l : Int32} {k : Nat} (h0 : 0 < k) (h1 : k < 32) : v2 (XT.ushr h (Int32.ofNat k)) (h <<< (Int32.ofNat (32 - k) &&& 31) ||| XT.ushr l (Int32.ofNat k)) = v2 h l / 2 ^ k := by
  have pk : 0 < 2 ^ k := Nat.pow_pos (by decide)
  rw [v2, mid_uv h0 h1, uv_ushr h h0 h1]
  have : uv h / 2 ^ k = v2 h l / 2 ^ k / 4294967296 := by
    rw [Nat.div_div_eq_div_mul, Nat.mul_comm, ← Nat.div_div_eq_div_mul, v2]
    have := uv_lt l
    rw [show (uv h * 4294967296 + uv l) / 4294967296 = uv h by omega]
  rw [this, Nat.mul_comm]; exact Nat.div_add_mod _ _
/-- the lowest bit of two words -/
theorem lb_low {h l : Int32} {k : Nat} (hk : k < 32) (q : LB (uv l) k) : LB (v2 h l) k := by
  have e32 := p32 (k := k) (by omega)
  have pk : 0 < 2 ^ k := Nat.pow_pos (by decide)
  constructor
  · rw [v2, ← e32, ← Nat.mul_assoc, Nat.mul_add_mod_self_right]; exact q.1
  · rw [v2, ← e32, ← Nat.mul_assoc, Nat.mul_comm _ (2 ^ k), Nat.mul_add_div pk, show 32 - k = (31 - k) + 1 by omega, Nat.pow_succ, ← Nat.mul_assoc, Nat.mul_comm _ 2, Nat.mul_add_mod]; exact q.2
theorem v2_odd {h l : Int32} : v2 h l % 2 = uv l % 2 := by unfold v2; omega
theorem lb_odd {n k : Nat} (q : LB n k) : n / 2 ^ k % 2 = 1 := q.2
theorem lb_even {n k : Nat} (q : LB n k) (h : n % 2 = 0) : 0 < k := by
  rcases Nat.eq_zero_or_pos k with r | r
  · subst r; have := q.2; simp at this; omega
  · exact r
theorem lb_zero {n : Nat} (h : n % 2 = 1) : LB n 0 := by simp [LB]; omega
theorem lb_le {n k e : Nat} (q : LB n k) (h : HB n e) : k ≤ e := by
  rw [← hb_ge h]
  refine Nat.le_of_not_lt fun r => ?_
  have := q.2
  rw [Nat.div_eq_of_lt r] at this; omega
theorem ushr_lb {x : Int32} {k : Nat} (hk : k < 32) : uv (XT.ushr x (Int32.ofNat k)) = uv x / 2 ^ k := by
  rcases Nat.eq_zero_or_pos k with r | r
  · subst r
    rw [show XT.ushr x (Int32.ofNat 0) = x from ushr0 x]; simp
  · exact uv_ushr x r hk
theorem nz_of {x : Int32} (h : 0 < uv x) : x ≠ 0 := fun e => by rw [e, uv_zero.mpr rfl] at h; omega
theorem one_uv : uv 1 = 1 := by decide
theorem sub1_uv {x : Int32} (h : 0 < uv x) : uv (x - 1) = uv x - 1 := by rw [uv_sub (by rw [one_uv]; exact h), one_uv]
theorem msk {x : Int32} : (x.toInt64 &&& 4294967295).toInt = (uv x : Int) := by
  have g := c_maskL x.toInt64 4294967295 32 (by decide) (by decide)
  rw [g, c_i2l, uv_cast]; rfl
theorem diff_val {x : Int32} (h : 0 < uv x) : ∃ d : Int64, (x.toInt64 &&& 4294967295) - ((1 : Int32).toInt64 &&& 4294967295) + (0 : Int64) >>> ((32 : Int32).toInt64 &&& 63) = d ∧ d.toInt = (uv x : Int) - 1 ∧ d.toInt32 = x - 1 := by
  refine ⟨_, rfl, ?_⟩
  have e0 : (0 : Int64) >>> ((32 : Int32).toInt64 &&& 63) = 0 := by decide
  have e1 : ((1 : Int32).toInt64 &&& 4294967295) = 1 := by decide
  rw [e0, e1, Int64.add_zero]
  have m := msk (x := x)
  have g := c_lsub (x.toInt64 &&& 4294967295) 1
  have o : (1 : Int64).toInt = 1 := rfl
  have l := uv_lt x
  have r1 := ((x.toInt64 &&& 4294967295) - 1).toInt_lt
  have r2 := ((x.toInt64 &&& 4294967295) - 1).le_toInt
  have e : ((x.toInt64 &&& 4294967295) - 1).toInt = (uv x : Int) - 1 := by omega
  refine ⟨e, ?_⟩
  apply uv_inj
  rw [sub1_uv h]
  have c := c_l2i ((x.toInt64 &&& 4294967295) - 1)
  have u := uv_cast ((x.toInt64 &&& 4294967295) - 1).toInt32
  omega
theorem v2_pos {h l : Int32} (hh : h ≠ 0) : 4294967296 ≤ v2 h l := by have := uv_pos hh; unfold v2; omega
theorem lb_pos {n k : Nat} (h : LB n k) : 0 < n / 2 ^ k := Nat.pos_of_ne_zero fun z => by have := h.2; rw [z] at this; cases this
theorem v2_sub1 {h l : Int32} (hl : 0 < uv l) : v2 h (l - 1) = v2 h l - 1 := by rw [v2, v2, sub1_uv hl]; omega
/-! ## 15. Byte arrays of an exact class, written -/
theorem isArrX_put {Z : State} {ad : String} {ty : FieldType} {vs : List Value} {c : Cell} {j : Nat} {v : Value} (F : IsArrX Z ad ty vs c) (hf : fits ty v = true) : IsArrX Z ad ty (vs.set j v) (c.setSlot j v) := by
  refine ⟨F.1.put hf, ?_⟩
  obtain ⟨k, e1, e2, e3, e4⟩ := F.2
  exact ⟨k, e1, e2, e3, fun q => by rw [sz_set]; exact e4 q⟩
section Heap4
variable {l : Launch} {R : Room} {Z : State} {a0 : Array Value} {EL : List (String × Nat)} {own nm : String} {bytes : ByteArray} {maxL : Nat} {ret : Option FieldType} {Q : Option Value → List Atom → Prop} {r : Run} {cells slots : Nat} {L L' : List Atom} {pc pc' : Nat} {Ls Ls' : List Slot} {st : List Value}
  {ad : String} {vs vs' : List Value} {i j k index : Nat} {a : Addr} {b : Bool} {v w : Value} {ty : FieldType}
theorem W_newarrayX {aty : ArrayType} {nn : Int32} {cap : Nat} (hd : decode bytes pc = .ok (.newarray aty, 2)) (hp : pc + 2 = pc') (w : (Jvm.Cond.arrayClass (newarray.typeOf aty)).before a0 Z = true) (hx : Ix nn k) (hty : newarray.typeOf aty = ty) (had : "[" ++ (newarray.typeOf aty).toString = ad) (hcap : k ≤ cap) (hb8 : cap * 8 ≤ 536870912)
    (hvs : List.replicate k (defaultValue ty) = vs) (hc : cells + 1 ≤ R.cells) (hl : slots + cap ≤ R.slots)
    (hr : ∀ a, WP l R Z a0 EL own nm bytes maxL ret Q r (cells + 1) (slots + cap) ((true, a, IsArrX Z ad ty vs) :: L) pc' Ls (.ref a :: st)) : WP l R Z a0 EL own nm bytes maxL ret Q r cells slots L pc Ls (.int nn :: st) := by
  obtain ⟨p, e, s, m, args, below, meth, c⟩ := r
  intro T locs vm0 I
  subst hp
  obtain ⟨h1, h2, h3, h4, h5, h6, X, h7, h8, h9, h10, h11, h12⟩ := I
  obtain ⟨T', h', cA, X', eT', E, A, Ex, stp⟩ := newPE X h1 h8 w rfl (g := mkF m pc Ls.toArray (.int nn :: st)) rfl (hb h2 hd) rfl hx.nn (by rw [hx.nat]; exact hcap) hb8 hc hl had
  have hfit : fits (newarray.typeOf aty) (defaultValue (newarray.typeOf aty)) = true := by cases aty <;> rfl
  have H' := h12.push (P := IsArrX Z ad ty vs) E A.1 ⟨by rw [← hvs, ← hty]; exact newA_is A hx hfit, ExaC.of Ex A.1⟩
  obtain ⟨k0, s1, s2⟩ := h7
  obtain ⟨s₂, o, q1, q2⟩ := hr _ T' _ vm0 ⟨h1, h2, h3, h4, h5, h6, X', ⟨k0, s1, by rw [eT']; exact Nat.le_trans s2 E.1⟩, h8, h9, h10, h11, by rw [eT']; exact H'⟩
  exact ⟨s₂, o, stp _ q1, q2⟩
theorem W_baloadX {jj : Int32} (hd : decode bytes pc = .ok (.baload, 1)) (hp : pc + 1 = pc') (hx : Ix jj k) (hL : L[i]? = some (b, a, IsArrX Z ad .byte vs)) (hv : vs[k]? = some v)
    (hr : WP l R Z a0 EL own nm bytes maxL ret Q r cells slots L pc' Ls (v :: st)) : WP l R Z a0 EL own nm bytes maxL ret Q r cells slots L pc Ls (.int jj :: .ref a :: st) := by
  obtain ⟨p, e, s, m, args, below, meth, c⟩ := r
  intro T locs vm0 I
  subst hp
  obtain ⟨s₂, o, q1, q2⟩ := hr T locs vm0 I
  obtain ⟨h1, h2, h3, h4, h5, h6, X, h7, h8, h9, h10, h11, h12⟩ := I
  obtain ⟨cl, e1, e2, e2x⟩ := h12.cell hL
  exact ⟨s₂, o, X.baloadBytes h1 e1 (State.isArrayOf_alike h8.alike e2.1) e2.2.1 (hx.in (by rw [e2.size]; exact (List.getElem?_eq_some_iff.mp hv).1)) (by rw [hx.nat, e2.at]; exact hv) (g := mkF m pc Ls.toArray (.int jj :: .ref a :: st)) rfl rfl (hb h2 hd) _ q1, q2⟩
theorem W_bastoreX {jj x : Int32} (hd : decode bytes pc = .ok (.bastore, 1)) (hp : pc + 1 = pc') (hx : Ix jj k) (hn' : nar .byte x = x) (hk : k < vs.length) (hv : vs.set k (.int x) = vs') (hL : L[i]? = some (true, a, IsArrX Z ad .byte vs) ∧ L.set i (true, a, IsArrX Z ad .byte vs') = L')
    (hr : WP l R Z a0 EL own nm bytes maxL ret Q r cells slots L' pc' Ls st) : WP l R Z a0 EL own nm bytes maxL ret Q r cells slots L pc Ls (.int x :: .int jj :: .ref a :: st) := by
  obtain ⟨p, e, s, m, args, below, meth, c⟩ := r
  intro T locs vm0 I
  subst hp
  obtain ⟨h1, h2, h3, h4, h5, h6, X, h7, h8, h9, h10, h11, h12⟩ := I
  obtain ⟨cl, e1, e2, e2x⟩ := h12.cell hL.1
  obtain ⟨T', h', X', eT', W, stp⟩ := stB X h1 h8 rfl (e2.arr e1) (hx.in (by rw [e2.size]; exact hk)) (g := mkF m pc Ls.toArray (.int x :: .int jj :: .ref a :: st)) rfl rfl (hb h2 hd)
  rw [hx.nat] at W X'
  rw [hn'] at W
  have hfit : fits .byte (.int x) = true := by have := fits_nar_byte x; simp only [nar] at hn'; rw [hn'] at this; exact this
  have H' := h12.wr W hL.1 (P' := IsArrX Z ad .byte vs') (fun c hc _ => hv ▸ isArrX_put hc hfit)
  rw [hL.2] at H'
  have N := Fr.snoc X' h10 (h12.own hL.1).1
  obtain ⟨k0, s1, s2⟩ := h7
  obtain ⟨s₂, o, q1, q2⟩ := hr T' _ vm0 ⟨h1, h2, h3, h4, h5, h6, X', ⟨k0, s1, by rw [eT', W.size]; exact s2⟩, h8, h9, N, h11, by rw [eT']; exact H'⟩
  exact ⟨s₂, o, stp _ q1, q2⟩
theorem W_arraycopyX {PS : Cell → Prop} {a' : Addr} {sp dp nn : Int32} {sp' dp' nn' : Nat} {vd us : List Value} (hd : decode bytes pc = .ok (.invokestatic index, 3)) (hp : pc + 3 = pc')
    (w1 : (Jvm.Cond.methodLink own index Jvm.Stand.acN).before a0 Z = true) (w2 : (Jvm.Cond.native Jvm.Stand.acN).before a0 Z = true) (w3 : (Jvm.Cond.static Jvm.Stand.acN).before a0 Z = true) (w4 : (Jvm.Cond.initialized "java/lang/System").before a0 Z = true)
    (hrk : refKind ty = false) (hPS : ∀ c, PS c → IsArr Z ty vs c) (hS : L[i]? = some (b, a, PS)) (x1 : Ix sp sp') (x2 : Ix dp dp') (x3 : Ix nn nn') (b1 : sp' + nn' ≤ vs.length) (b2 : dp' + nn' ≤ vd.length) (hus : vd.take dp' ++ (vs.drop sp').take nn' ++ vd.drop (dp' + nn') = us)
    (hL : L[j]? = some (true, a', IsArrX Z ad ty vd) ∧ L.set j (true, a', IsArrX Z ad ty us) = L') (hlen : Ls.length = maxL) (hf : 1 ≤ R.frames) (hlo : (st.map fun v => v.category).sum + (nativeFrameWords "java/lang/System" "arraycopy" 5 + 11) ≤ R.locals)
    (hr : WP l R Z a0 EL own nm bytes maxL ret Q r cells slots L' pc' Ls st) : WP l R Z a0 EL own nm bytes maxL ret Q r cells slots L pc Ls (.int nn :: .int dp :: .ref a' :: .int sp :: .ref a :: st) := by
  obtain ⟨p, e, s, m, args, below, meth, c⟩ := r
  intro T locs vm0 I
  subst hp
  obtain ⟨h1, h2, h3, h4, h5, h6, X, ⟨k0, s1, s2⟩, h8, h9, h10, h11, h12⟩ := I
  obtain ⟨cs, e1, e2p⟩ := h12.cell hS
  have e2 := hPS _ e2p
  obtain ⟨cd, f1, f2, fx⟩ := h12.cell hL.1
  have hA := e2.arv e1 (.int 0)
  have hB := f2.arv f1 (.int 0)
  have y1 := (Ix.of e2.2.2.2.1).nat
  have y2 := (Ix.of f2.2.2.2.1).nat
  obtain ⟨T', h', Lx, X', eT', N, K, A', stp⟩ := cpA X h1 h8 h9 w1 w2 w3 w4 rfl hA hB (Or.inl ⟨rfl, hrk⟩) x1.nn x2.nn x3.nn (by rw [x1.nat, x3.nat, y1]; exact b1) (by rw [x2.nat, x3.nat, y2]; exact b2) rfl (by rw [x2.nat, x3.nat]; exact b2) h10 (h12.own hL.1).1 (g := mkF m pc Ls.toArray (.int nn :: .int dp :: .ref a' :: .int sp :: .ref a :: st)) rfl (by simp [hlen, h3]) rfl (hb h2 hd) hf (W := (st.map fun v => v.category).sum) (by simp) hlo
  subst eT'
  rw [x2.nat, x3.nat, x1.nat, range_map_getD b1, hus] at A'
  have cc : ∃ cd' : Cell, T'.heap[a']? = some cd' ∧ Z.isArrayOf cd' ty ∧ cd'.cls = cd.cls := by obtain ⟨cd', hA', hcl, -⟩ := A'; exact ⟨cd', hA'.1, hA'.2.1, hcl⟩
  obtain ⟨cd', ed, eA, eC⟩ := cc
  have hex : ExaC Z ad cd' := by
    obtain ⟨k, g1, g2, g3, g4⟩ := fx
    obtain ⟨z1, k1, z2, comp, z3⟩ := eA
    refine ⟨k, by rw [eC]; exact g1, by rw [eC]; exact g2, by cases q : cd'.vm <;> first | rfl | exact absurd q (z1 _), fun q => ?_⟩
    rw [eC] at z2
    cases g2.symm.trans z2
    rw [z3] at q; cases q
  have hul : us.length = vd.length := by rw [← hus]; simp; omega
  have H' := h12.keep1 K hL.1 (P' := IsArrX Z ad ty us) ed ⟨isArr_of_arv A' (by rw [y2, hul]) ed, hex⟩
  rw [hL.2] at H'
  obtain ⟨s₂, o, q1, q2⟩ := hr T' _ vm0 ⟨h1, h2, h3, h4, h5, h6, X', ⟨k0, s1, Nat.le_trans s2 K.1⟩, h8, h9, N, h11, H'⟩
  exact ⟨s₂, o, stp _ q1, q2⟩
end Heap4
/-! ## 18. int arrays of an exact class, long constants, switches -/
theorem cmpL_lt {x y : Int64} (h : x < y) : XT.cmpL x y = -1 := by
  have h' := Int64.lt_iff_toInt_lt.mp h
  have h1 : ¬ y < x := fun q => by have := Int64.lt_iff_toInt_lt.mp q; omega
  have h2 : ¬ x = y := fun q => by rw [q] at h'; omega
  simp [XT.cmpL, h1, h2]
theorem cmpL_eq {x y : Int64} (h : x = y) : XT.cmpL x y = 0 := by
  subst h
  have h1 : ¬ x < x := fun q => by have := Int64.lt_iff_toInt_lt.mp q; omega
  simp [XT.cmpL, h1]
theorem cmpL_gt {x y : Int64} (h : y < x) : XT.cmpL x y = 1 := by simp [XT.cmpL, h]
section Heap5
variable {l : Launch} {R : Room} {Z : State} {a0 : Array Value} {EL : List (String × Nat)} {own nm : String} {bytes : ByteArray} {maxL : Nat} {ret : Option FieldType} {Q : Option Value → List Atom → Prop} {r : Run} {cells slots : Nat} {L L' : List Atom} {pc pc' : Nat} {Ls Ls' : List Slot} {st : List Value}
  {ad : String} {vs vs' : List Value} {i j k index : Nat} {a : Addr} {b : Bool} {w : Value} {ty : FieldType} {P : Cell → Prop}
theorem W_ialoadX {jj : Int32} {v : Value} (hd : decode bytes pc = .ok (.iaload, 1)) (hp : pc + 1 = pc') (hx : Ix jj k) (hL : L[i]? = some (b, a, IsArrX Z ad .int vs)) (hv : vs[k]? = some v)
    (hr : WP l R Z a0 EL own nm bytes maxL ret Q r cells slots L pc' Ls (v :: st)) : WP l R Z a0 EL own nm bytes maxL ret Q r cells slots L pc Ls (.int jj :: .ref a :: st) := by
  obtain ⟨p, e, s, m, args, below, meth, c⟩ := r
  intro T locs vm0 I
  subst hp
  obtain ⟨s₂, o, q1, q2⟩ := hr T locs vm0 I
  obtain ⟨h1, h2, h3, h4, h5, h6, X, h7, h8, h9, h10, h11, h12⟩ := I
  obtain ⟨cl, e1, e2, e2x⟩ := h12.cell hL
  exact ⟨s₂, o, X.iaload h1 e1 (State.isArrayOf_alike h8.alike e2.1) e2.2.1 (hx.in (by rw [e2.size]; exact (List.getElem?_eq_some_iff.mp hv).1)) (by rw [hx.nat, e2.at]; exact hv) (g := mkF m pc Ls.toArray (.int jj :: .ref a :: st)) rfl rfl (hb h2 hd) _ q1, q2⟩
theorem W_iastoreX {jj x : Int32} (hd : decode bytes pc = .ok (.iastore, 1)) (hp : pc + 1 = pc') (hx : Ix jj k) (hk : k < vs.length) (hv : vs.set k (.int x) = vs') (hL : L[i]? = some (true, a, IsArrX Z ad .int vs) ∧ L.set i (true, a, IsArrX Z ad .int vs') = L')
    (hr : WP l R Z a0 EL own nm bytes maxL ret Q r cells slots L' pc' Ls st) : WP l R Z a0 EL own nm bytes maxL ret Q r cells slots L pc Ls (.int x :: .int jj :: .ref a :: st) := by
  obtain ⟨p, e, s, m, args, below, meth, c⟩ := r
  intro T locs vm0 I
  subst hp
  obtain ⟨h1, h2, h3, h4, h5, h6, X, h7, h8, h9, h10, h11, h12⟩ := I
  obtain ⟨cl, e1, e2, e2x⟩ := h12.cell hL.1
  obtain ⟨T', h', X', eT', W, stp⟩ := stI X h1 h8 rfl (e2.arr e1) (hx.in (by rw [e2.size]; exact hk)) (g := mkF m pc Ls.toArray (.int x :: .int jj :: .ref a :: st)) rfl rfl (hb h2 hd)
  rw [hx.nat] at W X'
  have hfit : fits .int (.int x) = true := rfl
  have H' := h12.wr W hL.1 (P' := IsArrX Z ad .int vs') (fun c hc _ => hv ▸ isArrX_put hc hfit)
  rw [hL.2] at H'
  have N := Fr.snoc X' h10 (h12.own hL.1).1
  obtain ⟨k0, s1, s2⟩ := h7
  obtain ⟨s₂, o, q1, q2⟩ := hr T' _ vm0 ⟨h1, h2, h3, h4, h5, h6, X', ⟨k0, s1, by rw [eT', W.size]; exact s2⟩, h8, h9, N, h11, by rw [eT']; exact H'⟩
  exact ⟨s₂, o, stp _ q1, q2⟩
theorem W_ldc2 {v : Int64} (hd : decode bytes pc = .ok (.ldc2_w index, 3)) (hp : pc + 3 = pc') (w : (Jvm.Cond.constantLong own index v).before a0 Z = true)
    (hr : WP l R Z a0 EL own nm bytes maxL ret Q r cells slots L pc' Ls (.long v :: st)) : WP l R Z a0 EL own nm bytes maxL ret Q r cells slots L pc Ls st := by
  obtain ⟨p, e, s, m, args, below, meth, c⟩ := r
  intro T locs vm0 I
  subst hp
  obtain ⟨s₂, o, q1, q2⟩ := hr T locs vm0 I
  obtain ⟨h1, h2, h3, h4, h5, h6, X, h7, h8, h9, h10, h11, h12⟩ := I
  exact ⟨s₂, o, X.ldc2J h1 h9 (mvT h8 w) rfl (hb h2 hd) q1, q2⟩
theorem W_ldcwI {v : Int32} (hd : decode bytes pc = .ok (.ldc_w index, 3)) (hp : pc + 3 = pc') (w : (Jvm.Cond.constant own index v).before a0 Z = true)
    (hr : WP l R Z a0 EL own nm bytes maxL ret Q r cells slots L pc' Ls (.int v :: st)) : WP l R Z a0 EL own nm bytes maxL ret Q r cells slots L pc Ls st := by
  obtain ⟨p, e, s, m, args, below, meth, c⟩ := r
  intro T locs vm0 I
  subst hp
  obtain ⟨s₂, o, q1, q2⟩ := hr T locs vm0 I
  obtain ⟨h1, h2, h3, h4, h5, h6, X, h7, h8, h9, h10, h11, h12⟩ := I
  exact ⟨s₂, o, X.ldcWI h1 h9 (mvT h8 w) rfl (hb h2 hd) q1, q2⟩
theorem W_lswHit {x : Int32} {dft : Int} {pairs : Array (Int × Int)} {len : Nat} {a' off : Int} (hd : decode bytes pc = .ok (.lookupswitch dft pairs, len)) (hs : (pairs.toList.zip (pairs.toList.drop 1)).all (fun (a, next) => a.1 < next.1) = true) (hfi : pairs.find? (·.1 == x.toInt) = some (a', off)) (h0 : 0 ≤ (pc : Int) + off) (hp : ((pc : Int) + off).toNat = pc')
    (hr : WP l R Z a0 EL own nm bytes maxL ret Q r cells slots L pc' Ls st) : WP l R Z a0 EL own nm bytes maxL ret Q r cells slots L pc Ls (.int x :: st) := by
  obtain ⟨p, e, s, m, args, below, meth, c⟩ := r
  intro T locs vm0 I
  subst hp
  obtain ⟨s₂, o, q1, q2⟩ := hr T locs vm0 I
  obtain ⟨h1, h2, h3, h4, h5, h6, X, h7, h8, h9, h10, h11, h12⟩ := I
  exact ⟨s₂, o, X.lookupswitchHit h1 (g := mkF m pc Ls.toArray (.int x :: st)) rfl rfl (hb h2 hd) hs hfi h0 _ q1, q2⟩
theorem W_lswMiss {x : Int32} {dft : Int} {pairs : Array (Int × Int)} {len : Nat} (hd : decode bytes pc = .ok (.lookupswitch dft pairs, len)) (hs : (pairs.toList.zip (pairs.toList.drop 1)).all (fun (a, next) => a.1 < next.1) = true) (hfi : pairs.find? (·.1 == x.toInt) = none) (h0 : 0 ≤ (pc : Int) + dft) (hp : ((pc : Int) + dft).toNat = pc')
    (hr : WP l R Z a0 EL own nm bytes maxL ret Q r cells slots L pc' Ls st) : WP l R Z a0 EL own nm bytes maxL ret Q r cells slots L pc Ls (.int x :: st) := by
  obtain ⟨p, e, s, m, args, below, meth, c⟩ := r
  intro T locs vm0 I
  subst hp
  obtain ⟨s₂, o, q1, q2⟩ := hr T locs vm0 I
  obtain ⟨h1, h2, h3, h4, h5, h6, X, h7, h8, h9, h10, h11, h12⟩ := I
  exact ⟨s₂, o, X.lookupswitchMiss h1 (g := mkF m pc Ls.toArray (.int x :: st)) rfl rfl (hb h2 hd) hs hfi h0 _ q1, q2⟩
/-- a frozen cell, named once more -/
theorem W_dupl (hL : L[i]? = some (false, a, P)) (hr : WP l R Z a0 EL own nm bytes maxL ret Q r cells slots ((false, a, P) :: L) pc Ls st) : WP l R Z a0 EL own nm bytes maxL ret Q r cells slots L pc Ls st :=
  WP.imp (fun H => by
    obtain ⟨c, e1, e2⟩ := H.cell hL
    refine H.know e1 e2 fun x hx q => ?_
    obtain ⟨j, hj⟩ := List.mem_iff_getElem?.mp hx
    have hne : j ≠ i := fun e => by subst e; cases hL.symm.trans hj; cases q
    exact H.ne hj hL hne (Or.inl q)) hr
end Heap5
def wds (n : Nat) : List Int32 := if n = 0 then [] else if n < 4294967296 then [Int32.ofNat n] else [Int32.ofNat (n / 4294967296), Int32.ofNat (n % 4294967296)]
def sgn (a : Int) : Int32 := if a < 0 then -1 else if a = 0 then 0 else 1
theorem sgn_neg {a : Int} (h : a < 0) : sgn a = -1 := if_pos h
theorem sgn_zero : sgn 0 = 0 := rfl
theorem sgn_pos {a : Int} (h : 0 < a) : sgn a = 1 := by
  unfold sgn; rw [if_neg (by omega), if_neg (by omega)]
theorem wds_one {n : Nat} (h0 : 0 < n) (h1 : n < 4294967296) : wds n = [Int32.ofNat n] := by
  unfold wds; rw [if_neg (by omega), if_pos h1]
theorem wds_two {n : Nat} (h1 : ¬ n < 4294967296) : wds n = [Int32.ofNat (n / 4294967296), Int32.ofNat (n % 4294967296)] := by
  unfold wds; rw [if_neg (by omega), if_neg h1]
theorem ushrL32 (m : Int64) : (XT.ushrL m 32).toInt = (m.toInt % 18446744073709551616) / 4294967296 := by
  have g := c_lushr m 32 32 (by decide) (by decide)
  have e : XT.ushrL m 32 = (m.toUInt64 >>> ((32 : Int32) &&& 0x3f).toInt64.toUInt64).toInt64 := by
    unfold XT.ushrL
    rw [show (32 : Int32).toInt64.toUInt64 &&& Int64.toUInt64 63 = ((32 : Int32) &&& 0x3f).toInt64.toUInt64 by decide]
  rw [e, g]; rfl
theorem lo_word {m : Int64} {n : Nat} (h : m.toInt % 18446744073709551616 = n) : uv m.toInt32 = n % 4294967296 := by
  have c := c_l2i m
  have u := uv_cast m.toInt32
  omega
theorem hi_word {m : Int64} {n : Nat} (h : m.toInt % 18446744073709551616 = n) : uv (XT.ushrL m 32).toInt32 = n / 4294967296 := by
  have c := c_l2i (XT.ushrL m 32)
  have u := uv_cast (XT.ushrL m 32).toInt32
  have e := ushrL32 m
  omega
theorem abs_neg {x : Int64} (h : x.toInt < 0) : (-x).toInt % 18446744073709551616 = (x.toInt.natAbs : Int) := by
  have g := c_lneg x
  have := x.le_toInt
  omega
theorem abs_pos {x : Int64} (h : 0 ≤ x.toInt) : x.toInt % 18446744073709551616 = (x.toInt.natAbs : Int) := by
  have := x.toInt_lt
  omega
theorem abs_lt (x : Int64) : x.toInt.natAbs < 18446744073709551616 := by
  have := x.toInt_lt; have := x.le_toInt; omega
theorem words1 {m : Int64} {n : Nat} (h : m.toInt % 18446744073709551616 = n) (h0 : n ≠ 0) (hh : (XT.ushrL m 32).toInt32 = 0) : [m.toInt32] = wds n := by
  have a := lo_word h; have b := hi_word h
  rw [hh, uv_zero.mpr rfl] at b
  rw [wds_one (by omega) (by omega)]
  have : m.toInt32 = Int32.ofNat n := uv_inj (by rw [uv_ofNat (by omega), a]; omega)
  rw [this]
theorem words2 {m : Int64} {n : Nat} (h : m.toInt % 18446744073709551616 = n) (hh : ¬ (XT.ushrL m 32).toInt32 = 0) : [(XT.ushrL m 32).toInt32, m.toInt32] = wds n := by
  have a := lo_word h; have b := hi_word h; have p := uv_pos hh
  rw [wds_two (by omega)]
  have e1 : m.toInt32 = Int32.ofNat (n % 4294967296) := uv_inj (by rw [uv_ofNat (by omega), a])
  have l1 := uv_lt (XT.ushrL m 32).toInt32
  have e2 : (XT.ushrL m 32).toInt32 = Int32.ofNat (n / 4294967296) := uv_inj (by rw [uv_ofNat (by omega), b])
  rw [e1, e2]
theorem cmp_lt0 {x y : Int64} (h : x.toInt < y.toInt) : XT.cmpL x y = -1 := cmpL_lt (Int64.lt_iff_toInt_lt.mpr h)
theorem cmp_eq0 {x y : Int64} (h : x.toInt = y.toInt) : XT.cmpL x y = 0 := cmpL_eq (Int64.toInt_inj.mp h)
theorem cmp_gt0 {x y : Int64} (h : y.toInt < x.toInt) : XT.cmpL x y = 1 := cmpL_gt (Int64.lt_iff_toInt_lt.mpr h)
theorem cmp_nlt {x y : Int64} (h : ¬ x.toInt < y.toInt) : ¬ XT.cmpL x y < 0 := by
  rcases Int.lt_trichotomy x.toInt y.toInt with q | q | q
  · exact absurd q h
  · rw [cmp_eq0 q]; decide
  · rw [cmp_gt0 q]; decide
theorem cmp_ngt {x y : Int64} (h : ¬ y.toInt < x.toInt) : ¬ 0 < XT.cmpL x y := by
  rcases Int.lt_trichotomy x.toInt y.toInt with q | q | q
  · rw [cmp_lt0 q]; decide
  · rw [cmp_eq0 q]; decide
  · exact absurd q h
theorem tL0 : (0 : Int64).toInt = 0 := rfl
theorem tL1 : (1 : Int64).toInt = 1 := rfl
theorem tL16 : (16 : Int64).toInt = 16 := rfl
theorem tLm16 : (-16 : Int64).toInt = -16 := rfl
theorem small_ix {x : Int64} {i : Nat} (h : x.toInt = i) (hi : i ≤ 16) : Ix x.toInt32 i := by
  have c := c_l2i x
  have := x.toInt32.toInt_lt; have := x.toInt32.le_toInt
  show _ = _
  omega
/-- sign and words of a number of at most two words -/
def Shp (sg : Int32) (ws : List Int32) : Prop := (sg = 0 ∧ ws = []) ∨ ((sg = 1 ∨ sg = -1) ∧ ((∃ x, ws = [x] ∧ x ≠ 0) ∨ ∃ h l, ws = [h, l] ∧ h ≠ 0))
theorem ofNat_nz32 {n : Nat} (h0 : 0 < n) (h1 : n < 4294967296) : Int32.ofNat n ≠ 0 := nz_of (by rw [uv_ofNat h1]; exact h0)
theorem shp_of {a : Int} (h : a.natAbs < 18446744073709551616) : Shp (sgn a) (wds a.natAbs) := by
  rcases Int.lt_trichotomy a 0 with q | q | q
  · refine Or.inr ⟨Or.inr (sgn_neg q), ?_⟩
    by_cases r : a.natAbs < 4294967296
    · exact Or.inl ⟨_, wds_one (by omega) r, ofNat_nz32 (by omega) r⟩
    · exact Or.inr ⟨_, _, wds_two r, ofNat_nz32 (by omega) (by omega)⟩
  · subst q; exact Or.inl ⟨rfl, rfl⟩
  · refine Or.inr ⟨Or.inl (sgn_pos q), ?_⟩
    by_cases r : a.natAbs < 4294967296
    · exact Or.inl ⟨_, wds_one (by omega) r, ofNat_nz32 (by omega) r⟩
    · exact Or.inr ⟨_, _, wds_two r, ofNat_nz32 (by omega) (by omega)⟩
def mag : List Int32 → Nat
  | [x] => uv x
  | [h, l] => v2 h l
  | _ => 0
theorem mag_wds {n : Nat} (h : n < 18446744073709551616) : mag (wds n) = n := by
  rcases Nat.eq_zero_or_pos n with q | q
  · subst q; rfl
  · by_cases r : n < 4294967296
    · rw [wds_one q r]; exact uv_ofNat r
    · rw [wds_two r]; show v2 _ _ = n
      rw [v2, uv_ofNat (by omega), uv_ofNat (by omega)]; omega
def cmpN (m n : Nat) : Int32 := if m < n then -1 else if m = n then 0 else 1
def cmpI (a b : Int) : Int32 := if a < b then -1 else if a = b then 0 else 1
theorem cmpN_lt {m n : Nat} (h : m < n) : cmpN m n = -1 := if_pos h
theorem cmpN_eq {m n : Nat} (h : m = n) : cmpN m n = 0 := by unfold cmpN; rw [if_neg (by omega), if_pos h]
theorem cmpN_gt {m n : Nat} (h : n < m) : cmpN m n = 1 := by unfold cmpN; rw [if_neg (by omega), if_neg (by omega)]
theorem cmpI_lt {m n : Int} (h : m < n) : cmpI m n = -1 := if_pos h
theorem cmpI_eq {m n : Int} (h : m = n) : cmpI m n = 0 := by unfold cmpI; rw [if_neg (by omega), if_pos h]
theorem cmpI_gt {m n : Int} (h : n < m) : cmpI m n = 1 := by unfold cmpI; rw [if_neg (by omega), if_neg (by omega)]
theorem cmpN_I (m n : Nat) : cmpN m n = cmpI m n := by
  rcases Nat.lt_trichotomy m n with q | q | q
  · rw [cmpN_lt q, cmpI_lt (by omega)]
  · rw [cmpN_eq q, cmpI_eq (by omega)]
  · rw [cmpN_gt q, cmpI_gt (by omega)]
theorem cmpI_neg (m n : Int) : cmpI (-m) (-n) = cmpI n m := by
  rcases Int.lt_trichotomy m n with q | q | q
  · rw [cmpI_gt (by omega), cmpI_gt (by omega)]
  · rw [cmpI_eq (by omega), cmpI_eq (by omega)]
  · rw [cmpI_lt (by omega), cmpI_lt (by omega)]
theorem msk_lt {x y : Int32} (h : uv x < uv y) : XT.cmpL (x.toInt64 &&& 4294967295) (y.toInt64 &&& 4294967295) < 0 := by
  have a := msk (x := x); have b := msk (x := y)
  rw [cmp_lt0 (by omega)]; decide
theorem msk_nlt {x y : Int32} (h : ¬ uv x < uv y) : ¬ XT.cmpL (x.toInt64 &&& 4294967295) (y.toInt64 &&& 4294967295) < 0 := by
  have a := msk (x := x); have b := msk (x := y)
  rcases Nat.lt_or_ge (uv y) (uv x) with q | q
  · rw [cmp_gt0 (by omega)]; decide
  · rw [cmp_eq0 (by omega)]; decide
theorem v2_lt {h l h' l' : Int32} (q : uv h < uv h') : v2 h l < v2 h' l' := by
  have := uv_lt l; unfold v2; omega
theorem one_v2 {x h l : Int32} (hh : h ≠ 0) : uv x < v2 h l := by have := v2_pos (l := l) hh; have := uv_lt x; omega
theorem vof1_s : sgn (1 : Int64).toInt = 1 := rfl
theorem vof1_w : (wds (1 : Int64).toInt.natAbs).map Value.int = [Value.int 1] := by
  rw [show (1 : Int64).toInt.natAbs = 1 from rfl, wds_one (by decide) (by decide)]; rfl
theorem i2l1 : (1 : Int32).toInt64 = 1 := by decide
abbrev Pk (k : Nat) : Int32 := Int32.ofNat (2 ^ k - 1)
theorem Pk_facts : ∀ k : Fin 32, (17 ≤ k.val → (65536 : Int32) < Pk k.val ∧ XT.ushr (Pk k.val) 16 = Pk (k.val - 16)) ∧ (k.val ≤ 16 → ¬ (65536 : Int32) < Pk k.val) ∧ (9 ≤ k.val → (256 : Int32) < Pk k.val ∧ XT.ushr (Pk k.val) 8 = Pk (k.val - 8)) ∧ (k.val ≤ 8 → ¬ (256 : Int32) < Pk k.val) ∧
    (5 ≤ k.val → (16 : Int32) < Pk k.val ∧ XT.ushr (Pk k.val) 4 = Pk (k.val - 4)) ∧ (k.val ≤ 4 → ¬ (16 : Int32) < Pk k.val) ∧ (3 ≤ k.val → (4 : Int32) < Pk k.val ∧ XT.ushr (Pk k.val) 2 = Pk (k.val - 2)) ∧ (k.val ≤ 2 → ¬ (4 : Int32) < Pk k.val) ∧ (1 ≤ k.val → (0 : Int32) < Pk k.val) := by decide +kernel
theorem Pk_n {k : Nat} (hk : k < 32) : (17 ≤ k → (65536 : Int32) < Pk k ∧ XT.ushr (Pk k) 16 = Pk (k - 16)) ∧ (k ≤ 16 → ¬ (65536 : Int32) < Pk k) ∧ (9 ≤ k → (256 : Int32) < Pk k ∧ XT.ushr (Pk k) 8 = Pk (k - 8)) ∧ (k ≤ 8 → ¬ (256 : Int32) < Pk k) ∧
    (5 ≤ k → (16 : Int32) < Pk k ∧ XT.ushr (Pk k) 4 = Pk (k - 4)) ∧ (k ≤ 4 → ¬ (16 : Int32) < Pk k) ∧ (3 ≤ k → (4 : Int32) < Pk k ∧ XT.ushr (Pk k) 2 = Pk (k - 2)) ∧ (k ≤ 2 → ¬ (4 : Int32) < Pk k) ∧ (1 ≤ k → (0 : Int32) < Pk k) := Pk_facts ⟨k, hk⟩
theorem ofNat_addk (N k : Nat) : Int32.ofNat N + Int32.ofNat k = Int32.ofNat (N + k) := ofNat_add32 N k
theorem ntz74 {l : Launch} {Z : State} {a0 : Array Value} (K : Ok Z a0) {N k : Nat} {L : List Atom} {Q : Option Value → List Atom → Prop} {r : Run} (h0 : 1 ≤ k) (h1 : k ≤ 2) (hr : Q (some (.int (Int32.ofNat (N + (k - 1))))) L) : WP l ({ frames := 0, cells := 0, slots := 0, locals := 0 } : Room) Z a0 EL "java/lang/Integer" "numberOfTrailingZeros" jdk_33_method_48_code 2 (some .int) Q r 0 0 L 74 [.val (.int (Pk k)), .val (.int (Int32.ofNat N))] [] := by
  have f : XT.ushr (Pk k) 1 = Int32.ofNat (k - 1) := by
    obtain rfl | rfl : k = 1 ∨ k = 2 := by omega
    · decide
    · decide
  refine W_iloadN d0_74 (pc' := 75) rfl A1 ?_
  refine W_iloadN d0_75 (pc' := 76) rfl A0 ?_
  refine W_iconst d0_76 (pc' := 77) (v := 1) rfl (by decide) ?_
  refine W_iushr d0_77 (pc' := 78) rfl ?_
  refine W_iadd d0_78 (pc' := 79) rfl ?_
  rw [f, ofNat_addk]
  exact W_ireturn d0_79 rfl (by simp) rfl (by first | decide | (dsimp only; omega) | omega) (by first | decide | (dsimp only; omega) | omega) hr
theorem ntz62 {l : Launch} {Z : State} {a0 : Array Value} (K : Ok Z a0) {N k : Nat} {L : List Atom} {Q : Option Value → List Atom → Prop} {r : Run} (h0 : 1 ≤ k) (h1 : k ≤ 4) (hr : Q (some (.int (Int32.ofNat (N + (k - 1))))) L) : WP l ({ frames := 0, cells := 0, slots := 0, locals := 0 } : Room) Z a0 EL "java/lang/Integer" "numberOfTrailingZeros" jdk_33_method_48_code 2 (some .int) Q r 0 0 L 62 [.val (.int (Pk k)), .val (.int (Int32.ofNat N))] [] := by
  have f := Pk_n (k := k) (by omega)
  refine W_iloadN d0_62 (pc' := 63) rfl A0 ?_
  refine W_iconst d0_63 (pc' := 64) (v := 4) rfl (by decide) ?_
  by_cases q : 3 ≤ k
  · refine W_icmp_le_F d0_64 (pc' := 67) rfl (f.2.2.2.2.2.2.1 q).1 ?_
    refine W_iinc d0_67 (pc' := 70) (v := 2) rfl (by decide) A1 S1 ?_
    refine W_iloadN d0_70 (pc' := 71) rfl A0 ?_
    refine W_iconst d0_71 (pc' := 72) (v := 2) rfl (by decide) ?_
    refine W_iushr d0_72 (pc' := 73) rfl ?_
    refine W_istoreN d0_73 (pc' := 74) rfl A0 rfl S0 ?_
    rw [(f.2.2.2.2.2.2.1 q).2, show Int32.ofNat N + 2 = Int32.ofNat (N + 2) from ofNat_addk N 2]
    exact ntz74 K (by omega) (by omega) (by rw [show N + 2 + (k - 2 - 1) = N + (k - 1) by omega]; exact hr)
  · refine W_icmp_le_T d0_64 (pc' := 74) (by decide) (by decide) (f.2.2.2.2.2.2.2.1 (by omega)) ?_
    exact ntz74 K h0 (by omega) hr
theorem ntz49 {l : Launch} {Z : State} {a0 : Array Value} (K : Ok Z a0) {N k : Nat} {L : List Atom} {Q : Option Value → List Atom → Prop} {r : Run} (h0 : 1 ≤ k) (h1 : k ≤ 8) (hr : Q (some (.int (Int32.ofNat (N + (k - 1))))) L) : WP l ({ frames := 0, cells := 0, slots := 0, locals := 0 } : Room) Z a0 EL "java/lang/Integer" "numberOfTrailingZeros" jdk_33_method_48_code 2 (some .int) Q r 0 0 L 49 [.val (.int (Pk k)), .val (.int (Int32.ofNat N))] [] := by
  have f := Pk_n (k := k) (by omega)
  refine W_iloadN d0_49 (pc' := 50) rfl A0 ?_
  refine W_bipush d0_50 (pc' := 52) (v := 16) rfl (by decide) ?_
  by_cases q : 5 ≤ k
  · refine W_icmp_le_F d0_52 (pc' := 55) rfl (f.2.2.2.2.1 q).1 ?_
    refine W_iinc d0_55 (pc' := 58) (v := 4) rfl (by decide) A1 S1 ?_
    refine W_iloadN d0_58 (pc' := 59) rfl A0 ?_
    refine W_iconst d0_59 (pc' := 60) (v := 4) rfl (by decide) ?_
    refine W_iushr d0_60 (pc' := 61) rfl ?_
    refine W_istoreN d0_61 (pc' := 62) rfl A0 rfl S0 ?_
    rw [(f.2.2.2.2.1 q).2, show Int32.ofNat N + 4 = Int32.ofNat (N + 4) from ofNat_addk N 4]
    exact ntz62 K (by omega) (by omega) (by rw [show N + 4 + (k - 4 - 1) = N + (k - 1) by omega]; exact hr)
  · refine W_icmp_le_T d0_52 (pc' := 62) (by decide) (by decide) (f.2.2.2.2.2.1 (by omega)) ?_
    exact ntz62 K h0 (by omega) hr
theorem ntz34 {l : Launch} {Z : State} {a0 : Array Value} (K : Ok Z a0) {N k : Nat} {L : List Atom} {Q : Option Value → List Atom → Prop} {r : Run} (h0 : 1 ≤ k) (h1 : k ≤ 16) (hr : Q (some (.int (Int32.ofNat (N + (k - 1))))) L) : WP l ({ frames := 0, cells := 0, slots := 0, locals := 0 } : Room) Z a0 EL "java/lang/Integer" "numberOfTrailingZeros" jdk_33_method_48_code 2 (some .int) Q r 0 0 L 34 [.val (.int (Pk k)), .val (.int (Int32.ofNat N))] [] := by
  have f := Pk_n (k := k) (by omega)
  refine W_iloadN d0_34 (pc' := 35) rfl A0 ?_
  refine W_sipush d0_35 (pc' := 38) (v := 256) rfl (by decide) ?_
  by_cases q : 9 ≤ k
  · refine W_icmp_le_F d0_38 (pc' := 41) rfl (f.2.2.1 q).1 ?_
    refine W_iinc d0_41 (pc' := 44) (v := 8) rfl (by decide) A1 S1 ?_
    refine W_iloadN d0_44 (pc' := 45) rfl A0 ?_
    refine W_bipush d0_45 (pc' := 47) (v := 8) rfl (by decide) ?_
    refine W_iushr d0_47 (pc' := 48) rfl ?_
    refine W_istoreN d0_48 (pc' := 49) rfl A0 rfl S0 ?_
    rw [(f.2.2.1 q).2, show Int32.ofNat N + 8 = Int32.ofNat (N + 8) from ofNat_addk N 8]
    exact ntz49 K (by omega) (by omega) (by rw [show N + 8 + (k - 8 - 1) = N + (k - 1) by omega]; exact hr)
  · refine W_icmp_le_T d0_38 (pc' := 49) (by decide) (by decide) (f.2.2.2.1 (by omega)) ?_
    exact ntz49 K h0 (by omega) hr
theorem ntz19 {l : Launch} {Z : State} {a0 : Array Value} (K : Ok Z a0) {N k : Nat} {L : List Atom} {Q : Option Value → List Atom → Prop} {r : Run} (h0 : 1 ≤ k) (h1 : k ≤ 31) (hr : Q (some (.int (Int32.ofNat (N + (k - 1))))) L) : WP l ({ frames := 0, cells := 0, slots := 0, locals := 0 } : Room) Z a0 EL "java/lang/Integer" "numberOfTrailingZeros" jdk_33_method_48_code 2 (some .int) Q r 0 0 L 19 [.val (.int (Pk k)), .val (.int (Int32.ofNat N))] [] := by
  have f := Pk_n (k := k) (by omega)
  refine W_iloadN d0_19 (pc' := 20) rfl A0 ?_
  refine W_ldcwI d0_20 (pc' := 23) rfl (v := 65536) (w120 K) ?_
  by_cases q : 17 ≤ k
  · refine W_icmp_le_F d0_23 (pc' := 26) rfl (f.1 q).1 ?_
    refine W_iinc d0_26 (pc' := 29) (v := 16) rfl (by decide) A1 S1 ?_
    refine W_iloadN d0_29 (pc' := 30) rfl A0 ?_
    refine W_bipush d0_30 (pc' := 32) (v := 16) rfl (by decide) ?_
    refine W_iushr d0_32 (pc' := 33) rfl ?_
    refine W_istoreN d0_33 (pc' := 34) rfl A0 rfl S0 ?_
    rw [(f.1 q).2, show Int32.ofNat N + 16 = Int32.ofNat (N + 16) from ofNat_addk N 16]
    exact ntz34 K (by omega) (by omega) (by rw [show N + 16 + (k - 16 - 1) = N + (k - 1) by omega]; exact hr)
  · refine W_icmp_le_T d0_23 (pc' := 34) (by decide) (by decide) (f.2.1 (by omega)) ?_
    exact ntz34 K h0 (by omega) hr
theorem m_ntz {l : Launch} {Z : State} {a0 : Array Value} (K : Ok Z a0) {x : Int32} {k : Nat} {L : List Atom} (hk : k < 32) (h : LB (uv x) k) : Meth l Z a0 EL (⟨"java/lang/Integer", "numberOfTrailingZeros", "(I)I"⟩ : MethodName) jdk_33_method_48_code 2 (some .int) ({ frames := 0, cells := 0, slots := 0, locals := 0 } : Room) [.int x] L (fun v L' => v = some (.int (Int32.ofNat k)) ∧ L' = L) := by
  refine MethW.of_wp (Ls := [.val (.int x), .unset]) (plainFor_of_name pn0) (EWof K) (by first | rfl | (simp [argsToLocals, Value.category]; done)) (fun r => ?_)
  show WP _ _ _ _ _ _ _ _ _ _ _ _ _ _ _ _ _ _
  refine W_iloadN d0_0 (pc' := 1) rfl A0 ?_
  refine W_iconst d0_1 (pc' := 2) (v := (-1)) rfl (by decide) ?_
  refine W_ixor d0_2 (pc' := 3) rfl ?_
  refine W_iloadN d0_3 (pc' := 4) rfl A0 ?_
  refine W_iconst d0_4 (pc' := 5) (v := 1) rfl (by decide) ?_
  refine W_isub d0_5 (pc' := 6) rfl ?_
  refine W_iand d0_6 (pc' := 7) rfl ?_
  rw [ntz_word hk h]
  refine W_istoreN d0_7 (pc' := 8) rfl A0 rfl S0 ?_
  refine W_iloadN d0_8 (pc' := 9) rfl A0 ?_
  by_cases q : k = 0
  · subst q
    refine W_if_gt_F d0_9 (pc' := 12) rfl (by decide) ?_
    refine W_iloadN d0_12 (pc' := 13) rfl A0 ?_
    refine W_bipush d0_13 (pc' := 15) (v := 32) rfl (by decide) ?_
    refine W_iand d0_15 (pc' := 16) rfl ?_
    exact W_ireturn d0_16 rfl (by simp) rfl (by first | decide | (dsimp only; omega) | omega) (by first | decide | (dsimp only; omega) | omega) ⟨rfl, rfl⟩
  · refine W_if_gt_T d0_9 (pc' := 17) (by decide) (by decide) ((Pk_n hk).2.2.2.2.2.2.2.2 (by omega)) ?_
    refine W_iconst d0_17 (pc' := 18) (v := 1) rfl (by decide) ?_
    refine W_istoreN d0_18 (pc' := 19) rfl A1 rfl S1 ?_
    exact ntz19 K (N := 1) (by omega) (by omega) ⟨by rw [show 1 + (k - 1) = k by omega], rfl⟩
theorem hb_nn {x : Int32} {e : Nat} (h : HB (uv x) e) (he : e ≤ 30) : x.toInt = (uv x : Int) := by
  have c := uv_cast x
  have := h.2
  have : 2 ^ (e + 1) ≤ 2 ^ 31 := Nat.pow_le_pow_right (by decide) (by omega)
  have := x.toInt_lt; have := x.le_toInt
  omega
theorem hb_lt {x : Int32} {e j : Nat} {t : Int32} (h : HB (uv x) e) (he : e ≤ 30) (ht : t.toInt = ((2 ^ j : Nat) : Int)) : x < t ↔ ¬ j ≤ e := by
  rw [lt32, hb_nn h he, ht, ← hb_ge h]; omega
theorem hb_ushr {x : Int32} {e j : Nat} (h : HB (uv x) e) (h0 : 0 < j) (hj : j < 32) (hje : j ≤ e) : HB (uv (XT.ushr x (Int32.ofNat j))) (e - j) := by
  rw [uv_ushr x h0 hj]; exact hb_div h hje
theorem ofNat_subk {N k : Nat} (h : k ≤ N) : Int32.ofNat N + (-(Int32.ofNat k)) = Int32.ofNat (N - k) := by
  rw [← Int32.sub_eq_add_neg, ofNat_sub32 h]
theorem nlz73 {l : Launch} {Z : State} {a0 : Array Value} (K : Ok Z a0) {N e : Nat} {x : Int32} {L : List Atom} {Q : Option Value → List Atom → Prop} {r : Run} (hN : e ≤ N) (h : HB (uv x) e) (he : e ≤ 1) (hr : Q (some (.int (Int32.ofNat (N - e)))) L) : WP l ({ frames := 0, cells := 0, slots := 0, locals := 0 } : Room) Z a0 EL "java/lang/Integer" "numberOfLeadingZeros" jdk_33_method_47_code 2 (some .int) Q r 0 0 L 73 [.val (.int x), .val (.int (Int32.ofNat N))] [] := by
  have f : XT.ushr x 1 = Int32.ofNat e := by
    apply uv_inj
    have g := uv_ushr x (j := 1) (by decide) (by decide)
    have e2 : uv (Int32.ofNat e) = e := uv_ofNat (by omega)
    have h1 := h.1; have h2 := h.2
    rw [show XT.ushr x 1 = XT.ushr x (Int32.ofNat 1) from rfl, g, e2]
    obtain rfl | rfl : e = 0 ∨ e = 1 := by omega
    · simp at h1 h2; omega
    · simp at h1 h2; omega
  refine W_iloadN d1_73 (pc' := 74) rfl A1 ?_
  refine W_iloadN d1_74 (pc' := 75) rfl A0 ?_
  refine W_iconst d1_75 (pc' := 76) (v := 1) rfl (by decide) ?_
  refine W_iushr d1_76 (pc' := 77) rfl ?_
  refine W_isub d1_77 (pc' := 78) rfl ?_
  rw [f, ofNat_sub32 hN]
  exact W_ireturn d1_78 rfl (by simp) rfl (by first | decide | (dsimp only; omega) | omega) (by first | decide | (dsimp only; omega) | omega) hr
theorem nlz61 {l : Launch} {Z : State} {a0 : Array Value} (K : Ok Z a0) {N e : Nat} {x : Int32} {L : List Atom} {Q : Option Value → List Atom → Prop} {r : Run} (hN : e ≤ N) (h : HB (uv x) e) (he : e ≤ 3) (hr : Q (some (.int (Int32.ofNat (N - e)))) L) : WP l ({ frames := 0, cells := 0, slots := 0, locals := 0 } : Room) Z a0 EL "java/lang/Integer" "numberOfLeadingZeros" jdk_33_method_47_code 2 (some .int) Q r 0 0 L 61 [.val (.int x), .val (.int (Int32.ofNat N))] [] := by
  have g := hb_lt (j := 2) (t := 4) h (by omega) rfl
  refine W_iloadN d1_61 (pc' := 62) rfl A0 ?_
  refine W_iconst d1_62 (pc' := 63) (v := 4) rfl (by decide) ?_
  by_cases q : 2 ≤ e
  · refine W_icmp_lt_F d1_63 (pc' := 66) rfl (fun z => g.mp z q) ?_
    refine W_iinc d1_66 (pc' := 69) (v := (-2)) rfl (by decide) A1 S1 ?_
    refine W_iloadN d1_69 (pc' := 70) rfl A0 ?_
    refine W_iconst d1_70 (pc' := 71) (v := 2) rfl (by decide) ?_
    refine W_iushr d1_71 (pc' := 72) rfl ?_
    refine W_istoreN d1_72 (pc' := 73) rfl A0 rfl S0 ?_
    rw [show Int32.ofNat N + (-2) = Int32.ofNat (N - 2) from ofNat_subk (k := 2) (by omega)]
    exact nlz73 K (by omega) (hb_ushr (j := 2) h (by decide) (by decide) q) (by omega) (by rw [show N - 2 - (e - 2) = N - e by omega]; exact hr)
  · refine W_icmp_lt_T d1_63 (pc' := 73) (by decide) (by decide) (g.mpr q) ?_
    exact nlz73 K hN h (by omega) hr
theorem nlz48 {l : Launch} {Z : State} {a0 : Array Value} (K : Ok Z a0) {N e : Nat} {x : Int32} {L : List Atom} {Q : Option Value → List Atom → Prop} {r : Run} (hN : e ≤ N) (h : HB (uv x) e) (he : e ≤ 7) (hr : Q (some (.int (Int32.ofNat (N - e)))) L) : WP l ({ frames := 0, cells := 0, slots := 0, locals := 0 } : Room) Z a0 EL "java/lang/Integer" "numberOfLeadingZeros" jdk_33_method_47_code 2 (some .int) Q r 0 0 L 48 [.val (.int x), .val (.int (Int32.ofNat N))] [] := by
  have g := hb_lt (j := 4) (t := 16) h (by omega) rfl
  refine W_iloadN d1_48 (pc' := 49) rfl A0 ?_
  refine W_bipush d1_49 (pc' := 51) (v := 16) rfl (by decide) ?_
  by_cases q : 4 ≤ e
  · refine W_icmp_lt_F d1_51 (pc' := 54) rfl (fun z => g.mp z q) ?_
    refine W_iinc d1_54 (pc' := 57) (v := (-4)) rfl (by decide) A1 S1 ?_
    refine W_iloadN d1_57 (pc' := 58) rfl A0 ?_
    refine W_iconst d1_58 (pc' := 59) (v := 4) rfl (by decide) ?_
    refine W_iushr d1_59 (pc' := 60) rfl ?_
    refine W_istoreN d1_60 (pc' := 61) rfl A0 rfl S0 ?_
    rw [show Int32.ofNat N + (-4) = Int32.ofNat (N - 4) from ofNat_subk (k := 4) (by omega)]
    exact nlz61 K (by omega) (hb_ushr (j := 4) h (by decide) (by decide) q) (by omega) (by rw [show N - 4 - (e - 4) = N - e by omega]; exact hr)
  · refine W_icmp_lt_T d1_51 (pc' := 61) (by decide) (by decide) (g.mpr q) ?_
    exact nlz61 K hN h (by omega) hr
theorem nlz33 {l : Launch} {Z : State} {a0 : Array Value} (K : Ok Z a0) {N e : Nat} {x : Int32} {L : List Atom} {Q : Option Value → List Atom → Prop} {r : Run} (hN : e ≤ N) (h : HB (uv x) e) (he : e ≤ 15) (hr : Q (some (.int (Int32.ofNat (N - e)))) L) : WP l ({ frames := 0, cells := 0, slots := 0, locals := 0 } : Room) Z a0 EL "java/lang/Integer" "numberOfLeadingZeros" jdk_33_method_47_code 2 (some .int) Q r 0 0 L 33 [.val (.int x), .val (.int (Int32.ofNat N))] [] := by
  have g := hb_lt (j := 8) (t := 256) h (by omega) rfl
  refine W_iloadN d1_33 (pc' := 34) rfl A0 ?_
  refine W_sipush d1_34 (pc' := 37) (v := 256) rfl (by decide) ?_
  by_cases q : 8 ≤ e
  · refine W_icmp_lt_F d1_37 (pc' := 40) rfl (fun z => g.mp z q) ?_
    refine W_iinc d1_40 (pc' := 43) (v := (-8)) rfl (by decide) A1 S1 ?_
    refine W_iloadN d1_43 (pc' := 44) rfl A0 ?_
    refine W_bipush d1_44 (pc' := 46) (v := 8) rfl (by decide) ?_
    refine W_iushr d1_46 (pc' := 47) rfl ?_
    refine W_istoreN d1_47 (pc' := 48) rfl A0 rfl S0 ?_
    rw [show Int32.ofNat N + (-8) = Int32.ofNat (N - 8) from ofNat_subk (k := 8) (by omega)]
    exact nlz48 K (by omega) (hb_ushr (j := 8) h (by decide) (by decide) q) (by omega) (by rw [show N - 8 - (e - 8) = N - e by omega]; exact hr)
  · refine W_icmp_lt_T d1_37 (pc' := 48) (by decide) (by decide) (g.mpr q) ?_
    exact nlz48 K hN h (by omega) hr
theorem nlz18 {l : Launch} {Z : State} {a0 : Array Value} (K : Ok Z a0) {N e : Nat} {x : Int32} {L : List Atom} {Q : Option Value → List Atom → Prop} {r : Run} (hN : e ≤ N) (h : HB (uv x) e) (he : e ≤ 30) (hr : Q (some (.int (Int32.ofNat (N - e)))) L) : WP l ({ frames := 0, cells := 0, slots := 0, locals := 0 } : Room) Z a0 EL "java/lang/Integer" "numberOfLeadingZeros" jdk_33_method_47_code 2 (some .int) Q r 0 0 L 18 [.val (.int x), .val (.int (Int32.ofNat N))] [] := by
  have g := hb_lt (j := 16) (t := 65536) h (by omega) rfl
  refine W_iloadN d1_18 (pc' := 19) rfl A0 ?_
  refine W_ldcwI d1_19 (pc' := 22) rfl (v := 65536) (w120 K) ?_
  by_cases q : 16 ≤ e
  · refine W_icmp_lt_F d1_22 (pc' := 25) rfl (fun z => g.mp z q) ?_
    refine W_iinc d1_25 (pc' := 28) (v := (-16)) rfl (by decide) A1 S1 ?_
    refine W_iloadN d1_28 (pc' := 29) rfl A0 ?_
    refine W_bipush d1_29 (pc' := 31) (v := 16) rfl (by decide) ?_
    refine W_iushr d1_31 (pc' := 32) rfl ?_
    refine W_istoreN d1_32 (pc' := 33) rfl A0 rfl S0 ?_
    rw [show Int32.ofNat N + (-16) = Int32.ofNat (N - 16) from ofNat_subk (k := 16) (by omega)]
    exact nlz33 K (by omega) (hb_ushr (j := 16) h (by decide) (by decide) q) (by omega) (by rw [show N - 16 - (e - 16) = N - e by omega]; exact hr)
  · refine W_icmp_lt_T d1_22 (pc' := 33) (by decide) (by decide) (g.mpr q) ?_
    exact nlz33 K hN h (by omega) hr
theorem m_nlz {l : Launch} {Z : State} {a0 : Array Value} (K : Ok Z a0) {x : Int32} {e : Nat} {L : List Atom} (he : e < 32) (h : HB (uv x) e) : Meth l Z a0 EL (⟨"java/lang/Integer", "numberOfLeadingZeros", "(I)I"⟩ : MethodName) jdk_33_method_47_code 2 (some .int) ({ frames := 0, cells := 0, slots := 0, locals := 0 } : Room) [.int x] L (fun v L' => v = some (.int (Int32.ofNat (31 - e))) ∧ L' = L) := by
  have c := uv_cast x
  have h1 := h.1
  have hp : 0 < 2 ^ e := Nat.pow_pos (by decide)
  have z0 : (0 : Int32).toInt = 0 := rfl
  refine MethW.of_wp (Ls := [.val (.int x), .unset]) (plainFor_of_name pn0) (EWof K) (by first | rfl | (simp [argsToLocals, Value.category]; done)) (fun r => ?_)
  show WP _ _ _ _ _ _ _ _ _ _ _ _ _ _ _ _ _ _
  refine W_iloadN d1_0 (pc' := 1) rfl A0 ?_
  by_cases q : e = 31
  · subst q
    have hl := uv_lt x
    have := x.toInt_lt; have := x.le_toInt
    have hx : ¬ 0 < x := by rw [lt32, z0]; simp at h1; omega
    have hx0 : ¬ x = 0 := fun z => by subst z; rw [uv_zero.mpr rfl] at h1; omega
    refine W_if_gt_F d1_1 (pc' := 4) rfl hx ?_
    refine W_iloadN d1_4 (pc' := 5) rfl A0 ?_
    refine W_if_ne_T d1_5 (pc' := 13) (by decide) (by decide) hx0 ?_
    refine W_iconst d1_13 (pc' := 14) (v := 0) rfl (by decide) ?_
    exact W_ireturn d1_14 rfl (by simp) rfl (by first | decide | (dsimp only; omega) | omega) (by first | decide | (dsimp only; omega) | omega) ⟨rfl, rfl⟩
  · have hx : 0 < x := by rw [lt32, z0, hb_nn h (by omega)]; omega
    refine W_if_gt_T d1_1 (pc' := 15) (by decide) (by decide) hx ?_
    refine W_bipush d1_15 (pc' := 17) (v := 31) rfl (by decide) ?_
    refine W_istoreN d1_17 (pc' := 18) rfl A1 rfl S1 ?_
    exact nlz18 K (N := 31) (by omega) h (by omega) ⟨rfl, rfl⟩
theorem m_blen {l : Launch} {Z : State} {a0 : Array Value} (K : Ok Z a0) {x : Int32} {e : Nat} {L : List Atom} (he : e < 32) (h : HB (uv x) e) : Meth l Z a0 EL (⟨"java/math/BigInteger", "bitLengthForInt", "(I)I"⟩ : MethodName) jdk_2097_method_74_code 1 (some .int) ({ frames := 1, cells := 0, slots := 0, locals := 14 } : Room) [.int x] L (fun v L' => v = some (.int (Int32.ofNat (e + 1))) ∧ L' = L) := by
  refine MethW.of_wp (Ls := [.val (.int x)]) (plainFor_of_name pn1) (EWof K) (by first | rfl | (simp [argsToLocals, Value.category]; done)) (fun r => ?_)
  show WP _ _ _ _ _ _ _ _ _ _ _ _ _ _ _ _ _ _
  refine W_bipush d2_0 (pc' := 2) (v := 32) rfl (by decide) ?_
  refine W_iloadN d2_2 (pc' := 3) rfl A0 ?_
  refine W_static d2_3 (pc' := 6) rfl rfl (w254 K) (w255 K) (w109 K) (w256 K) (by decide) (m_nlz K he h) ar0 rfl (by decide) (Nat.le_of_ble_eq_true rfl) (by first | decide | (dsimp only; omega) | omega) (by first | decide | (dsimp only; omega) | omega) ?_
  rintro _ _ ⟨rfl, rfl⟩
  simp only [Option.toList_some, Option.toList_none, List.cons_append, List.nil_append]
  refine W_isub d2_6 (pc' := 7) rfl ?_
  rw [show (32 : Int32) - Int32.ofNat (31 - e) = Int32.ofNat (e + 1) from by rw [show (32 : Int32) = Int32.ofNat 32 from rfl, ofNat_sub32 (by omega), show 32 - (31 - e) = e + 1 by omega]]
  exact W_ireturn d2_7 rfl (by simp) rfl (by first | decide | (dsimp only; omega) | omega) (by first | decide | (dsimp only; omega) | omega) ⟨rfl, rfl⟩
theorem m_bcnt1 {l : Launch} {Z : State} {a0 : Array Value} (K : Ok Z a0) {L : List Atom} : Meth l Z a0 EL (⟨"java/lang/Integer", "bitCount", "(I)I"⟩ : MethodName) jdk_33_method_49_code 1 (some .int) ({ frames := 0, cells := 0, slots := 0, locals := 0 } : Room) [.int 1] L (fun v L' => v = some (.int 1) ∧ L' = L) := by
  refine MethW.of_wp (Ls := [.val (.int 1)]) (plainFor_of_name pn0) (EWof K) (by first | rfl | (simp [argsToLocals, Value.category]; done)) (fun r => ?_)
  show WP _ _ _ _ _ _ _ _ _ _ _ _ _ _ _ _ _ _
  refine W_iloadN d3_0 (pc' := 1) rfl A0 ?_
  refine W_iloadN d3_1 (pc' := 2) rfl A0 ?_
  refine W_iconst d3_2 (pc' := 3) (v := 1) rfl (by decide) ?_
  refine W_iushr d3_3 (pc' := 4) rfl ?_
  refine W_ldcwI d3_4 (pc' := 7) rfl (v := 1431655765) (w197 K) ?_
  refine W_iand d3_7 (pc' := 8) rfl ?_
  refine W_isub d3_8 (pc' := 9) rfl ?_
  refine W_istoreN d3_9 (pc' := 10) rfl A0 rfl S0 ?_
  refine W_iloadN d3_10 (pc' := 11) rfl A0 ?_
  refine W_ldcwI d3_11 (pc' := 14) rfl (v := 858993459) (w198 K) ?_
  refine W_iand d3_14 (pc' := 15) rfl ?_
  refine W_iloadN d3_15 (pc' := 16) rfl A0 ?_
  refine W_iconst d3_16 (pc' := 17) (v := 2) rfl (by decide) ?_
  refine W_iushr d3_17 (pc' := 18) rfl ?_
  refine W_ldcwI d3_18 (pc' := 21) rfl (v := 858993459) (w198 K) ?_
  refine W_iand d3_21 (pc' := 22) rfl ?_
  refine W_iadd d3_22 (pc' := 23) rfl ?_
  refine W_istoreN d3_23 (pc' := 24) rfl A0 rfl S0 ?_
  refine W_iloadN d3_24 (pc' := 25) rfl A0 ?_
  refine W_iloadN d3_25 (pc' := 26) rfl A0 ?_
  refine W_iconst d3_26 (pc' := 27) (v := 4) rfl (by decide) ?_
  refine W_iushr d3_27 (pc' := 28) rfl ?_
  refine W_iadd d3_28 (pc' := 29) rfl ?_
  refine W_ldcwI d3_29 (pc' := 32) rfl (v := 252645135) (w199 K) ?_
  refine W_iand d3_32 (pc' := 33) rfl ?_
  refine W_istoreN d3_33 (pc' := 34) rfl A0 rfl S0 ?_
  refine W_iloadN d3_34 (pc' := 35) rfl A0 ?_
  refine W_iloadN d3_35 (pc' := 36) rfl A0 ?_
  refine W_bipush d3_36 (pc' := 38) (v := 8) rfl (by decide) ?_
  refine W_iushr d3_38 (pc' := 39) rfl ?_
  refine W_iadd d3_39 (pc' := 40) rfl ?_
  refine W_istoreN d3_40 (pc' := 41) rfl A0 rfl S0 ?_
  refine W_iloadN d3_41 (pc' := 42) rfl A0 ?_
  refine W_iloadN d3_42 (pc' := 43) rfl A0 ?_
  refine W_bipush d3_43 (pc' := 45) (v := 16) rfl (by decide) ?_
  refine W_iushr d3_45 (pc' := 46) rfl ?_
  refine W_iadd d3_46 (pc' := 47) rfl ?_
  refine W_istoreN d3_47 (pc' := 48) rfl A0 rfl S0 ?_
  refine W_iloadN d3_48 (pc' := 49) rfl A0 ?_
  refine W_bipush d3_49 (pc' := 51) (v := 63) rfl (by decide) ?_
  refine W_iand d3_51 (pc' := 52) rfl ?_
  exact W_ireturn d3_52 rfl (by simp) rfl (by first | decide | (dsimp only; omega) | omega) (by first | decide | (dsimp only; omega) | omega) ⟨rfl, rfl⟩
theorem m_mabs0 {l : Launch} {Z : State} {a0 : Array Value} (K : Ok Z a0) {L : List Atom} : Meth l Z a0 EL (⟨"java/lang/Math", "abs", "(I)I"⟩ : MethodName) jdk_29_method_59_code 1 (some .int) ({ frames := 0, cells := 0, slots := 0, locals := 0 } : Room) [.int 0] L (fun v L' => v = some (.int 0) ∧ L' = L) := by
  refine MethW.of_wp (Ls := [.val (.int 0)]) (Jvm.Free.JP.mathPlain rfl (by decide +kernel)) (EWof K) (by first | rfl | (simp [argsToLocals, Value.category]; done)) (fun r => ?_)
  show WP _ _ _ _ _ _ _ _ _ _ _ _ _ _ _ _ _ _
  refine W_iloadN d4_0 (pc' := 1) rfl A0 ?_
  refine W_if_ge_T d4_1 (pc' := 9) (by decide) (by decide) (by decide) ?_
  refine W_iloadN d4_9 (pc' := 10) rfl A0 ?_
  exact W_ireturn d4_10 rfl (by simp) rfl (by first | decide | (dsimp only; omega) | omega) (by first | decide | (dsimp only; omega) | omega) ⟨rfl, rfl⟩
theorem m_mabs1 {l : Launch} {Z : State} {a0 : Array Value} (K : Ok Z a0) {L : List Atom} : Meth l Z a0 EL (⟨"java/lang/Math", "abs", "(I)I"⟩ : MethodName) jdk_29_method_59_code 1 (some .int) ({ frames := 0, cells := 0, slots := 0, locals := 0 } : Room) [.int 1] L (fun v L' => v = some (.int 1) ∧ L' = L) := by
  refine MethW.of_wp (Ls := [.val (.int 1)]) (Jvm.Free.JP.mathPlain rfl (by decide +kernel)) (EWof K) (by first | rfl | (simp [argsToLocals, Value.category]; done)) (fun r => ?_)
  show WP _ _ _ _ _ _ _ _ _ _ _ _ _ _ _ _ _ _
  refine W_iloadN d4_0 (pc' := 1) rfl A0 ?_
  refine W_if_ge_T d4_1 (pc' := 9) (by decide) (by decide) (by decide) ?_
  refine W_iloadN d4_9 (pc' := 10) rfl A0 ?_
  exact W_ireturn d4_10 rfl (by simp) rfl (by first | decide | (dsimp only; omega) | omega) (by first | decide | (dsimp only; omega) | omega) ⟨rfl, rfl⟩
theorem m_glsb1 {l : Launch} {Z : State} {a0 : Array Value} (K : Ok Z a0) {u t : Addr} {vs : List Value} {x : Int32} {k : Nat} {L : List Atom} {i j : Nat} {b b' : Bool} (hu : L[i]? = some (b, u, IsObj Z "java/math/MutableBigInteger" fl_MutableBigInteger [.ref t, .int 1, .int 0])) (ht : L[j]? = some (b', t, IsArrX Z "[I" .int vs)) (hv : vs[0]? = some (.int x)) (hx : x ≠ 0) (hk : k < 32) (h : LB (uv x) k) :
    Meth l Z a0 EL (⟨"java/math/MutableBigInteger", "getLowestSetBit", "()I"⟩ : MethodName) jdk_2101_method_18_code 3 (some .int) ({ frames := 1, cells := 0, slots := 0, locals := 14 } : Room) [.ref u] L (fun v L' => v = some (.int (Int32.ofNat k)) ∧ L' = L) := by
  refine MethW.of_wp (Ls := [.val (.ref u), .unset, .unset]) (plainFor_of_name pn2) (EWof K) (by first | rfl | (simp [argsToLocals, Value.category]; done)) (fun r => ?_)
  show WP _ _ _ _ _ _ _ _ _ _ _ _ _ _ _ _ _ _
  refine W_aloadN d5_0 (pc' := 1) rfl A0 rfl ?_
  refine W_getfield d5_1 (pc' := 4) rfl (w66 K) Via.refl (by first | assumption | exact A0 | exact A1 | exact A2 | exact A3 | exact A4 | exact A5 | exact A6 | exact A7 | exact Tl1 ‹_› | exact Tl2 ‹_› | exact Tl3 ‹_› | exact Tl4 ‹_› | exact Tl5 ‹_› | exact Tl6 ‹_› | exact Tl7 ‹_› | exact Tl8 ‹_›) A1 A1 ?_
  refine W_if_ne_T d5_4 (pc' := 9) (by decide) (by decide) (by decide) ?_
  refine W_aloadN d5_9 (pc' := 10) rfl A0 rfl ?_
  refine W_getfield d5_10 (pc' := 13) rfl (w66 K) Via.refl (by first | assumption | exact A0 | exact A1 | exact A2 | exact A3 | exact A4 | exact A5 | exact A6 | exact A7 | exact Tl1 ‹_› | exact Tl2 ‹_› | exact Tl3 ‹_› | exact Tl4 ‹_› | exact Tl5 ‹_› | exact Tl6 ‹_› | exact Tl7 ‹_› | exact Tl8 ‹_›) A1 A1 ?_
  refine W_iconst d5_13 (pc' := 14) (v := 1) rfl (by decide) ?_
  refine W_isub d5_14 (pc' := 15) rfl ?_
  refine W_istoreN d5_15 (pc' := 16) rfl A1 rfl S1 ?_
  refine W_iloadN d5_16 (pc' := 17) rfl A1 ?_
  refine W_if_le_T d5_17 (pc' := 40) (by decide) (by decide) (by decide) ?_
  refine W_aloadN d5_40 (pc' := 41) rfl A0 rfl ?_
  refine W_getfield d5_41 (pc' := 44) rfl (w81 K) Via.refl (by first | assumption | exact A0 | exact A1 | exact A2 | exact A3 | exact A4 | exact A5 | exact A6 | exact A7 | exact Tl1 ‹_› | exact Tl2 ‹_› | exact Tl3 ‹_› | exact Tl4 ‹_› | exact Tl5 ‹_› | exact Tl6 ‹_› | exact Tl7 ‹_› | exact Tl8 ‹_›) A0 A0 ?_
  refine W_iloadN d5_44 (pc' := 45) rfl A1 ?_
  refine W_aloadN d5_45 (pc' := 46) rfl A0 rfl ?_
  refine W_getfield d5_46 (pc' := 49) rfl (w62 K) Via.refl (by first | assumption | exact A0 | exact A1 | exact A2 | exact A3 | exact A4 | exact A5 | exact A6 | exact A7 | exact Tl1 ‹_› | exact Tl2 ‹_› | exact Tl3 ‹_› | exact Tl4 ‹_› | exact Tl5 ‹_› | exact Tl6 ‹_› | exact Tl7 ‹_› | exact Tl8 ‹_›) A2 A2 ?_
  refine W_iadd d5_49 (pc' := 50) rfl ?_
  refine W_ialoadX d5_50 (pc' := 51) rfl (k := 0) (Ix.lit rfl) ht hv ?_
  refine W_istoreN d5_51 (pc' := 52) rfl A2 rfl S2 ?_
  refine W_iloadN d5_52 (pc' := 53) rfl A2 ?_
  refine W_if_ne_T d5_53 (pc' := 58) (by decide) (by decide) hx ?_
  refine W_aloadN d5_58 (pc' := 59) rfl A0 rfl ?_
  refine W_getfield d5_59 (pc' := 62) rfl (w66 K) Via.refl (by first | assumption | exact A0 | exact A1 | exact A2 | exact A3 | exact A4 | exact A5 | exact A6 | exact A7 | exact Tl1 ‹_› | exact Tl2 ‹_› | exact Tl3 ‹_› | exact Tl4 ‹_› | exact Tl5 ‹_› | exact Tl6 ‹_› | exact Tl7 ‹_› | exact Tl8 ‹_›) A1 A1 ?_
  refine W_iconst d5_62 (pc' := 63) (v := 1) rfl (by decide) ?_
  refine W_isub d5_63 (pc' := 64) rfl ?_
  refine W_iloadN d5_64 (pc' := 65) rfl A1 ?_
  refine W_isub d5_65 (pc' := 66) rfl ?_
  refine W_iconst d5_66 (pc' := 67) (v := 5) rfl (by decide) ?_
  refine W_ishl d5_67 (pc' := 68) rfl ?_
  refine W_iloadN d5_68 (pc' := 69) rfl A2 ?_
  refine W_static d5_69 (pc' := 72) rfl rfl (w107 K) (w108 K) (w109 K) (w110 K) (by decide) (m_ntz K hk h) ar0 rfl (by decide) (Nat.le_of_ble_eq_true rfl) (by first | decide | (dsimp only; omega) | omega) (by first | decide | (dsimp only; omega) | omega) ?_
  rintro _ _ ⟨rfl, rfl⟩
  simp only [Option.toList_some, Option.toList_none, List.cons_append, List.nil_append]
  refine W_iadd d5_72 (pc' := 73) rfl ?_
  rw [show ((1 : Int32) - 1 - (1 - 1)) <<< ((5 : Int32) &&& 31) + Int32.ofNat k = Int32.ofNat k from by rw [show ((1 : Int32) - 1 - (1 - 1)) <<< ((5 : Int32) &&& 31) = 0 from by decide, Int32.zero_add]]
  exact W_ireturn d5_73 rfl (by simp) rfl (by first | decide | (dsimp only; omega) | omega) (by first | decide | (dsimp only; omega) | omega) ⟨rfl, rfl⟩
theorem m_glsb2 {l : Launch} {Z : State} {a0 : Array Value} (K : Ok Z a0) {u t : Addr} {h l' : Int32} {k : Nat} {L : List Atom} {i j : Nat} {b b' : Bool} (hu : L[i]? = some (b, u, IsObj Z "java/math/MutableBigInteger" fl_MutableBigInteger [.ref t, .int 2, .int 0])) (ht : L[j]? = some (b', t, IsArrX Z "[I" .int [.int h, .int l'])) (hl : l' ≠ 0) (hk : k < 32) (hb : LB (uv l') k) :
    Meth l Z a0 EL (⟨"java/math/MutableBigInteger", "getLowestSetBit", "()I"⟩ : MethodName) jdk_2101_method_18_code 3 (some .int) ({ frames := 1, cells := 0, slots := 0, locals := 14 } : Room) [.ref u] L (fun v L' => v = some (.int (Int32.ofNat k)) ∧ L' = L) := by
  refine MethW.of_wp (Ls := [.val (.ref u), .unset, .unset]) (plainFor_of_name pn2) (EWof K) (by first | rfl | (simp [argsToLocals, Value.category]; done)) (fun r => ?_)
  show WP _ _ _ _ _ _ _ _ _ _ _ _ _ _ _ _ _ _
  refine W_aloadN d5_0 (pc' := 1) rfl A0 rfl ?_
  refine W_getfield d5_1 (pc' := 4) rfl (w66 K) Via.refl (by first | assumption | exact A0 | exact A1 | exact A2 | exact A3 | exact A4 | exact A5 | exact A6 | exact A7 | exact Tl1 ‹_› | exact Tl2 ‹_› | exact Tl3 ‹_› | exact Tl4 ‹_› | exact Tl5 ‹_› | exact Tl6 ‹_› | exact Tl7 ‹_› | exact Tl8 ‹_›) A1 A1 ?_
  refine W_if_ne_T d5_4 (pc' := 9) (by decide) (by decide) (by decide) ?_
  refine W_aloadN d5_9 (pc' := 10) rfl A0 rfl ?_
  refine W_getfield d5_10 (pc' := 13) rfl (w66 K) Via.refl (by first | assumption | exact A0 | exact A1 | exact A2 | exact A3 | exact A4 | exact A5 | exact A6 | exact A7 | exact Tl1 ‹_› | exact Tl2 ‹_› | exact Tl3 ‹_› | exact Tl4 ‹_› | exact Tl5 ‹_› | exact Tl6 ‹_› | exact Tl7 ‹_› | exact Tl8 ‹_›) A1 A1 ?_
  refine W_iconst d5_13 (pc' := 14) (v := 1) rfl (by decide) ?_
  refine W_isub d5_14 (pc' := 15) rfl ?_
  refine W_istoreN d5_15 (pc' := 16) rfl A1 rfl S1 ?_
  refine W_iloadN d5_16 (pc' := 17) rfl A1 ?_
  refine W_if_le_F d5_17 (pc' := 20) rfl (by decide) ?_
  refine W_aloadN d5_20 (pc' := 21) rfl A0 rfl ?_
  refine W_getfield d5_21 (pc' := 24) rfl (w81 K) Via.refl (by first | assumption | exact A0 | exact A1 | exact A2 | exact A3 | exact A4 | exact A5 | exact A6 | exact A7 | exact Tl1 ‹_› | exact Tl2 ‹_› | exact Tl3 ‹_› | exact Tl4 ‹_› | exact Tl5 ‹_› | exact Tl6 ‹_› | exact Tl7 ‹_› | exact Tl8 ‹_›) A0 A0 ?_
  refine W_iloadN d5_24 (pc' := 25) rfl A1 ?_
  refine W_aloadN d5_25 (pc' := 26) rfl A0 rfl ?_
  refine W_getfield d5_26 (pc' := 29) rfl (w62 K) Via.refl (by first | assumption | exact A0 | exact A1 | exact A2 | exact A3 | exact A4 | exact A5 | exact A6 | exact A7 | exact Tl1 ‹_› | exact Tl2 ‹_› | exact Tl3 ‹_› | exact Tl4 ‹_› | exact Tl5 ‹_› | exact Tl6 ‹_› | exact Tl7 ‹_› | exact Tl8 ‹_›) A2 A2 ?_
  refine W_iadd d5_29 (pc' := 30) rfl ?_
  refine W_ialoadX d5_30 (pc' := 31) rfl (k := 1) (Ix.lit rfl) ht A1 ?_
  refine W_if_ne_T d5_31 (pc' := 40) (by decide) (by decide) hl ?_
  refine W_aloadN d5_40 (pc' := 41) rfl A0 rfl ?_
  refine W_getfield d5_41 (pc' := 44) rfl (w81 K) Via.refl (by first | assumption | exact A0 | exact A1 | exact A2 | exact A3 | exact A4 | exact A5 | exact A6 | exact A7 | exact Tl1 ‹_› | exact Tl2 ‹_› | exact Tl3 ‹_› | exact Tl4 ‹_› | exact Tl5 ‹_› | exact Tl6 ‹_› | exact Tl7 ‹_› | exact Tl8 ‹_›) A0 A0 ?_
  refine W_iloadN d5_44 (pc' := 45) rfl A1 ?_
  refine W_aloadN d5_45 (pc' := 46) rfl A0 rfl ?_
  refine W_getfield d5_46 (pc' := 49) rfl (w62 K) Via.refl (by first | assumption | exact A0 | exact A1 | exact A2 | exact A3 | exact A4 | exact A5 | exact A6 | exact A7 | exact Tl1 ‹_› | exact Tl2 ‹_› | exact Tl3 ‹_› | exact Tl4 ‹_› | exact Tl5 ‹_› | exact Tl6 ‹_› | exact Tl7 ‹_› | exact Tl8 ‹_›) A2 A2 ?_
  refine W_iadd d5_49 (pc' := 50) rfl ?_
  refine W_ialoadX d5_50 (pc' := 51) rfl (k := 1) (Ix.lit rfl) ht A1 ?_
  refine W_istoreN d5_51 (pc' := 52) rfl A2 rfl S2 ?_
  refine W_iloadN d5_52 (pc' := 53) rfl A2 ?_
  refine W_if_ne_T d5_53 (pc' := 58) (by decide) (by decide) hl ?_
  refine W_aloadN d5_58 (pc' := 59) rfl A0 rfl ?_
  refine W_getfield d5_59 (pc' := 62) rfl (w66 K) Via.refl (by first | assumption | exact A0 | exact A1 | exact A2 | exact A3 | exact A4 | exact A5 | exact A6 | exact A7 | exact Tl1 ‹_› | exact Tl2 ‹_› | exact Tl3 ‹_› | exact Tl4 ‹_› | exact Tl5 ‹_› | exact Tl6 ‹_› | exact Tl7 ‹_› | exact Tl8 ‹_›) A1 A1 ?_
  refine W_iconst d5_62 (pc' := 63) (v := 1) rfl (by decide) ?_
  refine W_isub d5_63 (pc' := 64) rfl ?_
  refine W_iloadN d5_64 (pc' := 65) rfl A1 ?_
  refine W_isub d5_65 (pc' := 66) rfl ?_
  refine W_iconst d5_66 (pc' := 67) (v := 5) rfl (by decide) ?_
  refine W_ishl d5_67 (pc' := 68) rfl ?_
  refine W_iloadN d5_68 (pc' := 69) rfl A2 ?_
  refine W_static d5_69 (pc' := 72) rfl rfl (w107 K) (w108 K) (w109 K) (w110 K) (by decide) (m_ntz K hk hb) ar0 rfl (by decide) (Nat.le_of_ble_eq_true rfl) (by first | decide | (dsimp only; omega) | omega) (by first | decide | (dsimp only; omega) | omega) ?_
  rintro _ _ ⟨rfl, rfl⟩
  simp only [Option.toList_some, Option.toList_none, List.cons_append, List.nil_append]
  refine W_iadd d5_72 (pc' := 73) rfl ?_
  rw [show ((2 : Int32) - 1 - (2 - 1)) <<< ((5 : Int32) &&& 31) + Int32.ofNat k = Int32.ofNat k from by rw [show ((2 : Int32) - 1 - (2 - 1)) <<< ((5 : Int32) &&& 31) = 0 from by decide, Int32.zero_add]]
  exact W_ireturn d5_73 rfl (by simp) rfl (by first | decide | (dsimp only; omega) | omega) (by first | decide | (dsimp only; omega) | omega) ⟨rfl, rfl⟩
theorem m_glsb3 {l : Launch} {Z : State} {a0 : Array Value} (K : Ok Z a0) {u t : Addr} {h : Int32} {k : Nat} {L : List Atom} {i j : Nat} {b b' : Bool} (hu : L[i]? = some (b, u, IsObj Z "java/math/MutableBigInteger" fl_MutableBigInteger [.ref t, .int 2, .int 0])) (ht : L[j]? = some (b', t, IsArrX Z "[I" .int [.int h, .int 0])) (hh : h ≠ 0) (hk : k < 32) (hb : LB (uv h) k) :
    Meth l Z a0 EL (⟨"java/math/MutableBigInteger", "getLowestSetBit", "()I"⟩ : MethodName) jdk_2101_method_18_code 3 (some .int) ({ frames := 1, cells := 0, slots := 0, locals := 14 } : Room) [.ref u] L (fun v L' => v = some (.int (Int32.ofNat (32 + k))) ∧ L' = L) := by
  refine MethW.of_wp (Ls := [.val (.ref u), .unset, .unset]) (plainFor_of_name pn2) (EWof K) (by first | rfl | (simp [argsToLocals, Value.category]; done)) (fun r => ?_)
  show WP _ _ _ _ _ _ _ _ _ _ _ _ _ _ _ _ _ _
  refine W_aloadN d5_0 (pc' := 1) rfl A0 rfl ?_
  refine W_getfield d5_1 (pc' := 4) rfl (w66 K) Via.refl (by first | assumption | exact A0 | exact A1 | exact A2 | exact A3 | exact A4 | exact A5 | exact A6 | exact A7 | exact Tl1 ‹_› | exact Tl2 ‹_› | exact Tl3 ‹_› | exact Tl4 ‹_› | exact Tl5 ‹_› | exact Tl6 ‹_› | exact Tl7 ‹_› | exact Tl8 ‹_›) A1 A1 ?_
  refine W_if_ne_T d5_4 (pc' := 9) (by decide) (by decide) (by decide) ?_
  refine W_aloadN d5_9 (pc' := 10) rfl A0 rfl ?_
  refine W_getfield d5_10 (pc' := 13) rfl (w66 K) Via.refl (by first | assumption | exact A0 | exact A1 | exact A2 | exact A3 | exact A4 | exact A5 | exact A6 | exact A7 | exact Tl1 ‹_› | exact Tl2 ‹_› | exact Tl3 ‹_› | exact Tl4 ‹_› | exact Tl5 ‹_› | exact Tl6 ‹_› | exact Tl7 ‹_› | exact Tl8 ‹_›) A1 A1 ?_
  refine W_iconst d5_13 (pc' := 14) (v := 1) rfl (by decide) ?_
  refine W_isub d5_14 (pc' := 15) rfl ?_
  refine W_istoreN d5_15 (pc' := 16) rfl A1 rfl S1 ?_
  refine W_iloadN d5_16 (pc' := 17) rfl A1 ?_
  refine W_if_le_F d5_17 (pc' := 20) rfl (by decide) ?_
  refine W_aloadN d5_20 (pc' := 21) rfl A0 rfl ?_
  refine W_getfield d5_21 (pc' := 24) rfl (w81 K) Via.refl (by first | assumption | exact A0 | exact A1 | exact A2 | exact A3 | exact A4 | exact A5 | exact A6 | exact A7 | exact Tl1 ‹_› | exact Tl2 ‹_› | exact Tl3 ‹_› | exact Tl4 ‹_› | exact Tl5 ‹_› | exact Tl6 ‹_› | exact Tl7 ‹_› | exact Tl8 ‹_›) A0 A0 ?_
  refine W_iloadN d5_24 (pc' := 25) rfl A1 ?_
  refine W_aloadN d5_25 (pc' := 26) rfl A0 rfl ?_
  refine W_getfield d5_26 (pc' := 29) rfl (w62 K) Via.refl (by first | assumption | exact A0 | exact A1 | exact A2 | exact A3 | exact A4 | exact A5 | exact A6 | exact A7 | exact Tl1 ‹_› | exact Tl2 ‹_› | exact Tl3 ‹_› | exact Tl4 ‹_› | exact Tl5 ‹_› | exact Tl6 ‹_› | exact Tl7 ‹_› | exact Tl8 ‹_›) A2 A2 ?_
  refine W_iadd d5_29 (pc' := 30) rfl ?_
  refine W_ialoadX d5_30 (pc' := 31) rfl (k := 1) (Ix.lit rfl) ht A1 ?_
  refine W_if_ne_F d5_31 (pc' := 34) rfl rfl ?_
  refine W_iinc d5_34 (pc' := 37) (v := (-1)) rfl (by decide) A1 S1 ?_
  refine W_goto d5_37 (pc' := 16) (by decide) (by decide) ?_
  refine W_iloadN d5_16 (pc' := 17) rfl A1 ?_
  refine W_if_le_T d5_17 (pc' := 40) (by decide) (by decide) (by decide) ?_
  refine W_aloadN d5_40 (pc' := 41) rfl A0 rfl ?_
  refine W_getfield d5_41 (pc' := 44) rfl (w81 K) Via.refl (by first | assumption | exact A0 | exact A1 | exact A2 | exact A3 | exact A4 | exact A5 | exact A6 | exact A7 | exact Tl1 ‹_› | exact Tl2 ‹_› | exact Tl3 ‹_› | exact Tl4 ‹_› | exact Tl5 ‹_› | exact Tl6 ‹_› | exact Tl7 ‹_› | exact Tl8 ‹_›) A0 A0 ?_
  refine W_iloadN d5_44 (pc' := 45) rfl A1 ?_
  refine W_aloadN d5_45 (pc' := 46) rfl A0 rfl ?_
  refine W_getfield d5_46 (pc' := 49) rfl (w62 K) Via.refl (by first | assumption | exact A0 | exact A1 | exact A2 | exact A3 | exact A4 | exact A5 | exact A6 | exact A7 | exact Tl1 ‹_› | exact Tl2 ‹_› | exact Tl3 ‹_› | exact Tl4 ‹_› | exact Tl5 ‹_› | exact Tl6 ‹_› | exact Tl7 ‹_› | exact Tl8 ‹_›) A2 A2 ?_
  refine W_iadd d5_49 (pc' := 50) rfl ?_
  refine W_ialoadX d5_50 (pc' := 51) rfl (k := 0) (Ix.lit rfl) ht A0 ?_
  refine W_istoreN d5_51 (pc' := 52) rfl A2 rfl S2 ?_
  refine W_iloadN d5_52 (pc' := 53) rfl A2 ?_
  refine W_if_ne_T d5_53 (pc' := 58) (by decide) (by decide) hh ?_
  refine W_aloadN d5_58 (pc' := 59) rfl A0 rfl ?_
  refine W_getfield d5_59 (pc' := 62) rfl (w66 K) Via.refl (by first | assumption | exact A0 | exact A1 | exact A2 | exact A3 | exact A4 | exact A5 | exact A6 | exact A7 | exact Tl1 ‹_› | exact Tl2 ‹_› | exact Tl3 ‹_› | exact Tl4 ‹_› | exact Tl5 ‹_› | exact Tl6 ‹_› | exact Tl7 ‹_› | exact Tl8 ‹_›) A1 A1 ?_
  refine W_iconst d5_62 (pc' := 63) (v := 1) rfl (by decide) ?_
  refine W_isub d5_63 (pc' := 64) rfl ?_
  refine W_iloadN d5_64 (pc' := 65) rfl A1 ?_
  refine W_isub d5_65 (pc' := 66) rfl ?_
  refine W_iconst d5_66 (pc' := 67) (v := 5) rfl (by decide) ?_
  refine W_ishl d5_67 (pc' := 68) rfl ?_
  refine W_iloadN d5_68 (pc' := 69) rfl A2 ?_
  refine W_static d5_69 (pc' := 72) rfl rfl (w107 K) (w108 K) (w109 K) (w110 K) (by decide) (m_ntz K hk hb) ar0 rfl (by decide) (Nat.le_of_ble_eq_true rfl) (by first | decide | (dsimp only; omega) | omega) (by first | decide | (dsimp only; omega) | omega) ?_
  rintro _ _ ⟨rfl, rfl⟩
  simp only [Option.toList_some, Option.toList_none, List.cons_append, List.nil_append]
  refine W_iadd d5_72 (pc' := 73) rfl ?_
  rw [show ((2 : Int32) - 1 - (2 - 1 + (-1))) <<< ((5 : Int32) &&& 31) + Int32.ofNat k = Int32.ofNat (32 + k) from by rw [show ((2 : Int32) - 1 - (2 - 1 + (-1))) <<< ((5 : Int32) &&& 31) = Int32.ofNat 32 from by decide, ofNat_add32]]
  exact W_ireturn d5_73 rfl (by simp) rfl (by first | decide | (dsimp only; omega) | omega) (by first | decide | (dsimp only; omega) | omega) ⟨rfl, rfl⟩
theorem m_prs1 {l : Launch} {Z : State} {a0 : Array Value} (K : Ok Z a0) {u t : Addr} {x : Int32} {vs : List Value} {k : Nat} {F : List Atom} (hk : k ≤ 32) :
    Meth l Z a0 EL (⟨"java/math/MutableBigInteger", "primitiveRightShift", "(I)V"⟩ : MethodName) jdk_2101_method_41_code 7 none ({ frames := 0, cells := 0, slots := 0, locals := 0 } : Room) [.ref u, .int (Int32.ofNat k)] ((true, u, IsObj Z "java/math/MutableBigInteger" fl_MutableBigInteger [.ref t, .int 1, .int 0]) :: (true, t, IsArrX Z "[I" .int (.int x :: vs)) :: F) (fun v L' => v = none ∧ L' = (true, u, IsObj Z "java/math/MutableBigInteger" fl_MutableBigInteger [.ref t, .int 1, .int 0]) :: (true, t, IsArrX Z "[I" .int (.int (XT.ushr x (Int32.ofNat k)) :: vs)) :: F) := by
  refine MethW.of_wp (Ls := [.val (.ref u), .val (.int (Int32.ofNat k)), .unset, .unset, .unset, .unset, .unset]) (plainFor_of_name pn2) (EWof K) (by first | rfl | (simp [argsToLocals, Value.category]; done)) (fun r => ?_)
  show WP _ _ _ _ _ _ _ _ _ _ _ _ _ _ _ _ _ _
  refine W_aloadN d6_0 (pc' := 1) rfl A0 rfl ?_
  refine W_getfield d6_1 (pc' := 4) rfl (w81 K) Via.refl (by first | assumption | exact A0 | exact A1 | exact A2 | exact A3 | exact A4 | exact A5 | exact A6 | exact A7 | exact Tl1 ‹_› | exact Tl2 ‹_› | exact Tl3 ‹_› | exact Tl4 ‹_› | exact Tl5 ‹_› | exact Tl6 ‹_› | exact Tl7 ‹_› | exact Tl8 ‹_›) A0 A0 ?_
  refine W_astoreN d6_4 (pc' := 5) rfl A2 rfl rfl S2 ?_
  refine W_bipush d6_5 (pc' := 7) (v := 32) rfl (by decide) ?_
  refine W_iloadN d6_7 (pc' := 8) rfl A1 ?_
  refine W_isub d6_8 (pc' := 9) rfl ?_
  refine W_istoreN d6_9 (pc' := 10) rfl A3 rfl S3 ?_
  refine W_aloadN d6_10 (pc' := 11) rfl A0 rfl ?_
  refine W_getfield d6_11 (pc' := 14) rfl (w62 K) Via.refl (by first | assumption | exact A0 | exact A1 | exact A2 | exact A3 | exact A4 | exact A5 | exact A6 | exact A7 | exact Tl1 ‹_› | exact Tl2 ‹_› | exact Tl3 ‹_› | exact Tl4 ‹_› | exact Tl5 ‹_› | exact Tl6 ‹_› | exact Tl7 ‹_› | exact Tl8 ‹_›) A2 A2 ?_
  refine W_aloadN d6_14 (pc' := 15) rfl A0 rfl ?_
  refine W_getfield d6_15 (pc' := 18) rfl (w66 K) Via.refl (by first | assumption | exact A0 | exact A1 | exact A2 | exact A3 | exact A4 | exact A5 | exact A6 | exact A7 | exact Tl1 ‹_› | exact Tl2 ‹_› | exact Tl3 ‹_› | exact Tl4 ‹_› | exact Tl5 ‹_› | exact Tl6 ‹_› | exact Tl7 ‹_› | exact Tl8 ‹_›) A1 A1 ?_
  refine W_iadd d6_18 (pc' := 19) rfl ?_
  refine W_iconst d6_19 (pc' := 20) (v := 1) rfl (by decide) ?_
  refine W_isub d6_20 (pc' := 21) rfl ?_
  refine W_istore d6_21 (pc' := 23) rfl A4 rfl S4 ?_
  refine W_aloadN d6_23 (pc' := 24) rfl A2 rfl ?_
  refine W_iload d6_24 (pc' := 26) rfl A4 ?_
  refine W_ialoadX d6_26 (pc' := 27) rfl (k := 0) (Ix.lit rfl) A1 A0 ?_
  refine W_istore d6_27 (pc' := 29) rfl A5 rfl S5 ?_
  refine W_iload d6_29 (pc' := 31) rfl A4 ?_
  refine W_aloadN d6_31 (pc' := 32) rfl A0 rfl ?_
  refine W_getfield d6_32 (pc' := 35) rfl (w62 K) Via.refl (by first | assumption | exact A0 | exact A1 | exact A2 | exact A3 | exact A4 | exact A5 | exact A6 | exact A7 | exact Tl1 ‹_› | exact Tl2 ‹_› | exact Tl3 ‹_› | exact Tl4 ‹_› | exact Tl5 ‹_› | exact Tl6 ‹_› | exact Tl7 ‹_› | exact Tl8 ‹_›) A2 A2 ?_
  refine W_icmp_le_T d6_35 (pc' := 69) (by decide) (by decide) (by decide) ?_
  refine W_aloadN d6_69 (pc' := 70) rfl A2 rfl ?_
  refine W_aloadN d6_70 (pc' := 71) rfl A0 rfl ?_
  refine W_getfield d6_71 (pc' := 74) rfl (w62 K) Via.refl (by first | assumption | exact A0 | exact A1 | exact A2 | exact A3 | exact A4 | exact A5 | exact A6 | exact A7 | exact Tl1 ‹_› | exact Tl2 ‹_› | exact Tl3 ‹_› | exact Tl4 ‹_› | exact Tl5 ‹_› | exact Tl6 ‹_› | exact Tl7 ‹_› | exact Tl8 ‹_›) A2 A2 ?_
  refine W_dup2 d6_74 (pc' := 75) rfl rfl rfl ?_
  refine W_ialoadX d6_75 (pc' := 76) rfl (k := 0) (Ix.lit rfl) A1 A0 ?_
  refine W_iloadN d6_76 (pc' := 77) rfl A1 ?_
  refine W_iushr d6_77 (pc' := 78) rfl ?_
  refine W_iastoreX d6_78 (pc' := 79) rfl (k := 0) (Ix.lit rfl) (by simp) S0 (by first | exact ⟨A0, S0⟩ | exact ⟨A1, S1⟩ | exact ⟨A2, S2⟩ | exact ⟨A3, S3⟩ | exact ⟨A4, S4⟩ | exact ⟨A5, S5⟩ | exact ⟨A6, S6⟩ | exact ⟨A7, S7⟩) ?_
  exact W_return d6_79 rfl (by first | decide | (dsimp only; omega) | omega) (by first | decide | (dsimp only; omega) | omega) ⟨rfl, rfl⟩
theorem m_prs2 {l : Launch} {Z : State} {a0 : Array Value} (K : Ok Z a0) {u t : Addr} {h l' : Int32} {k : Nat} {F : List Atom} (hk : k ≤ 32) :
    Meth l Z a0 EL (⟨"java/math/MutableBigInteger", "primitiveRightShift", "(I)V"⟩ : MethodName) jdk_2101_method_41_code 7 none ({ frames := 0, cells := 0, slots := 0, locals := 0 } : Room) [.ref u, .int (Int32.ofNat k)] ((true, u, IsObj Z "java/math/MutableBigInteger" fl_MutableBigInteger [.ref t, .int 2, .int 0]) :: (true, t, IsArrX Z "[I" .int [.int h, .int l']) :: F) (fun v L' => v = none ∧ L' = (true, u, IsObj Z "java/math/MutableBigInteger" fl_MutableBigInteger [.ref t, .int 2, .int 0]) :: (true, t, IsArrX Z "[I" .int [.int (XT.ushr h (Int32.ofNat k)), .int (h <<< (Int32.ofNat (32 - k) &&& 31) ||| XT.ushr l' (Int32.ofNat k))]) :: F) := by
  have e : (32 : Int32) - Int32.ofNat k = Int32.ofNat (32 - k) := by rw [show (32 : Int32) = Int32.ofNat 32 from rfl, ofNat_sub32 hk]
  refine MethW.of_wp (Ls := [.val (.ref u), .val (.int (Int32.ofNat k)), .unset, .unset, .unset, .unset, .unset]) (plainFor_of_name pn2) (EWof K) (by first | rfl | (simp [argsToLocals, Value.category]; done)) (fun r => ?_)
  show WP _ _ _ _ _ _ _ _ _ _ _ _ _ _ _ _ _ _
  refine W_aloadN d6_0 (pc' := 1) rfl A0 rfl ?_
  refine W_getfield d6_1 (pc' := 4) rfl (w81 K) Via.refl (by first | assumption | exact A0 | exact A1 | exact A2 | exact A3 | exact A4 | exact A5 | exact A6 | exact A7 | exact Tl1 ‹_› | exact Tl2 ‹_› | exact Tl3 ‹_› | exact Tl4 ‹_› | exact Tl5 ‹_› | exact Tl6 ‹_› | exact Tl7 ‹_› | exact Tl8 ‹_›) A0 A0 ?_
  refine W_astoreN d6_4 (pc' := 5) rfl A2 rfl rfl S2 ?_
  refine W_bipush d6_5 (pc' := 7) (v := 32) rfl (by decide) ?_
  refine W_iloadN d6_7 (pc' := 8) rfl A1 ?_
  refine W_isub d6_8 (pc' := 9) rfl ?_
  rw [e]
  refine W_istoreN d6_9 (pc' := 10) rfl A3 rfl S3 ?_
  refine W_aloadN d6_10 (pc' := 11) rfl A0 rfl ?_
  refine W_getfield d6_11 (pc' := 14) rfl (w62 K) Via.refl (by first | assumption | exact A0 | exact A1 | exact A2 | exact A3 | exact A4 | exact A5 | exact A6 | exact A7 | exact Tl1 ‹_› | exact Tl2 ‹_› | exact Tl3 ‹_› | exact Tl4 ‹_› | exact Tl5 ‹_› | exact Tl6 ‹_› | exact Tl7 ‹_› | exact Tl8 ‹_›) A2 A2 ?_
  refine W_aloadN d6_14 (pc' := 15) rfl A0 rfl ?_
  refine W_getfield d6_15 (pc' := 18) rfl (w66 K) Via.refl (by first | assumption | exact A0 | exact A1 | exact A2 | exact A3 | exact A4 | exact A5 | exact A6 | exact A7 | exact Tl1 ‹_› | exact Tl2 ‹_› | exact Tl3 ‹_› | exact Tl4 ‹_› | exact Tl5 ‹_› | exact Tl6 ‹_› | exact Tl7 ‹_› | exact Tl8 ‹_›) A1 A1 ?_
  refine W_iadd d6_18 (pc' := 19) rfl ?_
  refine W_iconst d6_19 (pc' := 20) (v := 1) rfl (by decide) ?_
  refine W_isub d6_20 (pc' := 21) rfl ?_
  refine W_istore d6_21 (pc' := 23) rfl A4 rfl S4 ?_
  refine W_aloadN d6_23 (pc' := 24) rfl A2 rfl ?_
  refine W_iload d6_24 (pc' := 26) rfl A4 ?_
  refine W_ialoadX d6_26 (pc' := 27) rfl (k := 1) (Ix.lit rfl) A1 A1 ?_
  refine W_istore d6_27 (pc' := 29) rfl A5 rfl S5 ?_
  refine W_iload d6_29 (pc' := 31) rfl A4 ?_
  refine W_aloadN d6_31 (pc' := 32) rfl A0 rfl ?_
  refine W_getfield d6_32 (pc' := 35) rfl (w62 K) Via.refl (by first | assumption | exact A0 | exact A1 | exact A2 | exact A3 | exact A4 | exact A5 | exact A6 | exact A7 | exact Tl1 ‹_› | exact Tl2 ‹_› | exact Tl3 ‹_› | exact Tl4 ‹_› | exact Tl5 ‹_› | exact Tl6 ‹_› | exact Tl7 ‹_› | exact Tl8 ‹_›) A2 A2 ?_
  refine W_icmp_le_F d6_35 (pc' := 38) rfl (by decide) ?_
  refine W_iload d6_38 (pc' := 40) rfl A5 ?_
  refine W_istore d6_40 (pc' := 42) rfl A6 rfl S6 ?_
  refine W_aloadN d6_42 (pc' := 43) rfl A2 rfl ?_
  refine W_iload d6_43 (pc' := 45) rfl A4 ?_
  refine W_iconst d6_45 (pc' := 46) (v := 1) rfl (by decide) ?_
  refine W_isub d6_46 (pc' := 47) rfl ?_
  refine W_ialoadX d6_47 (pc' := 48) rfl (k := 0) (Ix.lit rfl) A1 A0 ?_
  refine W_istore d6_48 (pc' := 50) rfl A5 rfl S5 ?_
  refine W_aloadN d6_50 (pc' := 51) rfl A2 rfl ?_
  refine W_iload d6_51 (pc' := 53) rfl A4 ?_
  refine W_iload d6_53 (pc' := 55) rfl A5 ?_
  refine W_iloadN d6_55 (pc' := 56) rfl A3 ?_
  refine W_ishl d6_56 (pc' := 57) rfl ?_
  refine W_iload d6_57 (pc' := 59) rfl A6 ?_
  refine W_iloadN d6_59 (pc' := 60) rfl A1 ?_
  refine W_iushr d6_60 (pc' := 61) rfl ?_
  refine W_ior d6_61 (pc' := 62) rfl ?_
  refine W_iastoreX d6_62 (pc' := 63) rfl (k := 1) (Ix.lit rfl) (lt_ble rfl) S1 (by first | exact ⟨A0, S0⟩ | exact ⟨A1, S1⟩ | exact ⟨A2, S2⟩ | exact ⟨A3, S3⟩ | exact ⟨A4, S4⟩ | exact ⟨A5, S5⟩ | exact ⟨A6, S6⟩ | exact ⟨A7, S7⟩) ?_
  refine W_iinc d6_63 (pc' := 66) (v := (-1)) rfl (by decide) A4 S4 ?_
  refine W_goto d6_66 (pc' := 29) (by decide) (by decide) ?_
  refine W_iload d6_29 (pc' := 31) rfl A4 ?_
  refine W_aloadN d6_31 (pc' := 32) rfl A0 rfl ?_
  refine W_getfield d6_32 (pc' := 35) rfl (w62 K) Via.refl (by first | assumption | exact A0 | exact A1 | exact A2 | exact A3 | exact A4 | exact A5 | exact A6 | exact A7 | exact Tl1 ‹_› | exact Tl2 ‹_› | exact Tl3 ‹_› | exact Tl4 ‹_› | exact Tl5 ‹_› | exact Tl6 ‹_› | exact Tl7 ‹_› | exact Tl8 ‹_›) A2 A2 ?_
  refine W_icmp_le_T d6_35 (pc' := 69) (by decide) (by decide) (by decide) ?_
  refine W_aloadN d6_69 (pc' := 70) rfl A2 rfl ?_
  refine W_aloadN d6_70 (pc' := 71) rfl A0 rfl ?_
  refine W_getfield d6_71 (pc' := 74) rfl (w62 K) Via.refl (by first | assumption | exact A0 | exact A1 | exact A2 | exact A3 | exact A4 | exact A5 | exact A6 | exact A7 | exact Tl1 ‹_› | exact Tl2 ‹_› | exact Tl3 ‹_› | exact Tl4 ‹_› | exact Tl5 ‹_› | exact Tl6 ‹_› | exact Tl7 ‹_› | exact Tl8 ‹_›) A2 A2 ?_
  refine W_dup2 d6_74 (pc' := 75) rfl rfl rfl ?_
  refine W_ialoadX d6_75 (pc' := 76) rfl (k := 0) (Ix.lit rfl) A1 A0 ?_
  refine W_iloadN d6_76 (pc' := 77) rfl A1 ?_
  refine W_iushr d6_77 (pc' := 78) rfl ?_
  refine W_iastoreX d6_78 (pc' := 79) rfl (k := 0) (Ix.lit rfl) (lt_ble rfl) S0 (by first | exact ⟨A0, S0⟩ | exact ⟨A1, S1⟩ | exact ⟨A2, S2⟩ | exact ⟨A3, S3⟩ | exact ⟨A4, S4⟩ | exact ⟨A5, S5⟩ | exact ⟨A6, S6⟩ | exact ⟨A7, S7⟩) ?_
  exact W_return d6_79 rfl (by first | decide | (dsimp only; omega) | omega) (by first | decide | (dsimp only; omega) | omega) ⟨rfl, rfl⟩
theorem m_pls2 {l : Launch} {Z : State} {a0 : Array Value} (K : Ok Z a0) {u t : Addr} {h l' : Int32} {k : Nat} {F : List Atom} (hk : k ≤ 32) :
    Meth l Z a0 EL (⟨"java/math/MutableBigInteger", "primitiveLeftShift", "(I)V"⟩ : MethodName) jdk_2101_method_42_code 8 none ({ frames := 0, cells := 0, slots := 0, locals := 0 } : Room) [.ref u, .int (Int32.ofNat (32 - k))] ((true, u, IsObj Z "java/math/MutableBigInteger" fl_MutableBigInteger [.ref t, .int 2, .int 0]) :: (true, t, IsArrX Z "[I" .int [.int h, .int l']) :: F) (fun v L' => ∃ y, v = none ∧ L' = (true, u, IsObj Z "java/math/MutableBigInteger" fl_MutableBigInteger [.ref t, .int 2, .int 0]) :: (true, t, IsArrX Z "[I" .int [.int (h <<< (Int32.ofNat (32 - k) &&& 31) ||| XT.ushr l' (Int32.ofNat k)), .int y]) :: F) := by
  have e : (32 : Int32) - Int32.ofNat (32 - k) = Int32.ofNat k := by rw [show (32 : Int32) = Int32.ofNat 32 from rfl, ofNat_sub32 (by omega), show 32 - (32 - k) = k by omega]
  refine MethW.of_wp (Ls := [.val (.ref u), .val (.int (Int32.ofNat (32 - k))), .unset, .unset, .unset, .unset, .unset, .unset]) (plainFor_of_name pn2) (EWof K) (by first | rfl | (simp [argsToLocals, Value.category]; done)) (fun r => ?_)
  show WP _ _ _ _ _ _ _ _ _ _ _ _ _ _ _ _ _ _
  refine W_aloadN d7_0 (pc' := 1) rfl A0 rfl ?_
  refine W_getfield d7_1 (pc' := 4) rfl (w81 K) Via.refl (by first | assumption | exact A0 | exact A1 | exact A2 | exact A3 | exact A4 | exact A5 | exact A6 | exact A7 | exact Tl1 ‹_› | exact Tl2 ‹_› | exact Tl3 ‹_› | exact Tl4 ‹_› | exact Tl5 ‹_› | exact Tl6 ‹_› | exact Tl7 ‹_› | exact Tl8 ‹_›) A0 A0 ?_
  refine W_astoreN d7_4 (pc' := 5) rfl A2 rfl rfl S2 ?_
  refine W_bipush d7_5 (pc' := 7) (v := 32) rfl (by decide) ?_
  refine W_iloadN d7_7 (pc' := 8) rfl A1 ?_
  refine W_isub d7_8 (pc' := 9) rfl ?_
  rw [e]
  refine W_istoreN d7_9 (pc' := 10) rfl A3 rfl S3 ?_
  refine W_aloadN d7_10 (pc' := 11) rfl A0 rfl ?_
  refine W_getfield d7_11 (pc' := 14) rfl (w62 K) Via.refl (by first | assumption | exact A0 | exact A1 | exact A2 | exact A3 | exact A4 | exact A5 | exact A6 | exact A7 | exact Tl1 ‹_› | exact Tl2 ‹_› | exact Tl3 ‹_› | exact Tl4 ‹_› | exact Tl5 ‹_› | exact Tl6 ‹_› | exact Tl7 ‹_› | exact Tl8 ‹_›) A2 A2 ?_
  refine W_istore d7_14 (pc' := 16) rfl A4 rfl S4 ?_
  refine W_aloadN d7_16 (pc' := 17) rfl A2 rfl ?_
  refine W_iload d7_17 (pc' := 19) rfl A4 ?_
  refine W_ialoadX d7_19 (pc' := 20) rfl (k := 0) (Ix.lit rfl) A1 A0 ?_
  refine W_istore d7_20 (pc' := 22) rfl A5 rfl S5 ?_
  refine W_iload d7_22 (pc' := 24) rfl A4 ?_
  refine W_aloadN d7_24 (pc' := 25) rfl A0 rfl ?_
  refine W_getfield d7_25 (pc' := 28) rfl (w66 K) Via.refl (by first | assumption | exact A0 | exact A1 | exact A2 | exact A3 | exact A4 | exact A5 | exact A6 | exact A7 | exact Tl1 ‹_› | exact Tl2 ‹_› | exact Tl3 ‹_› | exact Tl4 ‹_› | exact Tl5 ‹_› | exact Tl6 ‹_› | exact Tl7 ‹_› | exact Tl8 ‹_›) A1 A1 ?_
  refine W_iadd d7_28 (pc' := 29) rfl ?_
  refine W_iconst d7_29 (pc' := 30) (v := 1) rfl (by decide) ?_
  refine W_isub d7_30 (pc' := 31) rfl ?_
  refine W_istore d7_31 (pc' := 33) rfl A6 rfl S6 ?_
  refine W_iload d7_33 (pc' := 35) rfl A4 ?_
  refine W_iload d7_35 (pc' := 37) rfl A6 ?_
  refine W_icmp_ge_F d7_37 (pc' := 40) rfl (by decide) ?_
  refine W_iload d7_40 (pc' := 42) rfl A5 ?_
  refine W_istore d7_42 (pc' := 44) rfl A7 rfl S7 ?_
  refine W_aloadN d7_44 (pc' := 45) rfl A2 rfl ?_
  refine W_iload d7_45 (pc' := 47) rfl A4 ?_
  refine W_iconst d7_47 (pc' := 48) (v := 1) rfl (by decide) ?_
  refine W_iadd d7_48 (pc' := 49) rfl ?_
  refine W_ialoadX d7_49 (pc' := 50) rfl (k := 1) (Ix.lit rfl) A1 A1 ?_
  refine W_istore d7_50 (pc' := 52) rfl A5 rfl S5 ?_
  refine W_aloadN d7_52 (pc' := 53) rfl A2 rfl ?_
  refine W_iload d7_53 (pc' := 55) rfl A4 ?_
  refine W_iload d7_55 (pc' := 57) rfl A7 ?_
  refine W_iloadN d7_57 (pc' := 58) rfl A1 ?_
  refine W_ishl d7_58 (pc' := 59) rfl ?_
  refine W_iload d7_59 (pc' := 61) rfl A5 ?_
  refine W_iloadN d7_61 (pc' := 62) rfl A3 ?_
  refine W_iushr d7_62 (pc' := 63) rfl ?_
  refine W_ior d7_63 (pc' := 64) rfl ?_
  refine W_iastoreX d7_64 (pc' := 65) rfl (k := 0) (Ix.lit rfl) (lt_ble rfl) S0 (by first | exact ⟨A0, S0⟩ | exact ⟨A1, S1⟩ | exact ⟨A2, S2⟩ | exact ⟨A3, S3⟩ | exact ⟨A4, S4⟩ | exact ⟨A5, S5⟩ | exact ⟨A6, S6⟩ | exact ⟨A7, S7⟩) ?_
  refine W_iinc d7_65 (pc' := 68) (v := 1) rfl (by decide) A4 S4 ?_
  refine W_goto d7_68 (pc' := 33) (by decide) (by decide) ?_
  refine W_iload d7_33 (pc' := 35) rfl A4 ?_
  refine W_iload d7_35 (pc' := 37) rfl A6 ?_
  refine W_icmp_ge_T d7_37 (pc' := 71) (by decide) (by decide) (by decide) ?_
  refine W_aloadN d7_71 (pc' := 72) rfl A2 rfl ?_
  refine W_aloadN d7_72 (pc' := 73) rfl A0 rfl ?_
  refine W_getfield d7_73 (pc' := 76) rfl (w62 K) Via.refl (by first | assumption | exact A0 | exact A1 | exact A2 | exact A3 | exact A4 | exact A5 | exact A6 | exact A7 | exact Tl1 ‹_› | exact Tl2 ‹_› | exact Tl3 ‹_› | exact Tl4 ‹_› | exact Tl5 ‹_› | exact Tl6 ‹_› | exact Tl7 ‹_› | exact Tl8 ‹_›) A2 A2 ?_
  refine W_aloadN d7_76 (pc' := 77) rfl A0 rfl ?_
  refine W_getfield d7_77 (pc' := 80) rfl (w66 K) Via.refl (by first | assumption | exact A0 | exact A1 | exact A2 | exact A3 | exact A4 | exact A5 | exact A6 | exact A7 | exact Tl1 ‹_› | exact Tl2 ‹_› | exact Tl3 ‹_› | exact Tl4 ‹_› | exact Tl5 ‹_› | exact Tl6 ‹_› | exact Tl7 ‹_› | exact Tl8 ‹_›) A1 A1 ?_
  refine W_iadd d7_80 (pc' := 81) rfl ?_
  refine W_iconst d7_81 (pc' := 82) (v := 1) rfl (by decide) ?_
  refine W_isub d7_82 (pc' := 83) rfl ?_
  refine W_dup2 d7_83 (pc' := 84) rfl rfl rfl ?_
  refine W_ialoadX d7_84 (pc' := 85) rfl (k := 1) (Ix.lit rfl) A1 A1 ?_
  refine W_iloadN d7_85 (pc' := 86) rfl A1 ?_
  refine W_ishl d7_86 (pc' := 87) rfl ?_
  refine W_iastoreX d7_87 (pc' := 88) rfl (k := 1) (Ix.lit rfl) (lt_ble rfl) S1 (by first | exact ⟨A0, S0⟩ | exact ⟨A1, S1⟩ | exact ⟨A2, S2⟩ | exact ⟨A3, S3⟩ | exact ⟨A4, S4⟩ | exact ⟨A5, S5⟩ | exact ⟨A6, S6⟩ | exact ⟨A7, S7⟩) ?_
  exact W_return d7_88 rfl (by first | decide | (dsimp only; omega) | omega) (by first | decide | (dsimp only; omega) | omega) ⟨_, rfl, rfl⟩
theorem m_rsh0 {l : Launch} {Z : State} {a0 : Array Value} (K : Ok Z a0) {u t : Addr} {n : Int32} {F : List Atom} (hn : n ≠ 0) :
    Meth l Z a0 EL (⟨"java/math/MutableBigInteger", "rightShift", "(I)V"⟩ : MethodName) jdk_2101_method_35_code 5 none ({ frames := 2, cells := 0, slots := 0, locals := 26 } : Room) [.ref u, .int 0] ((true, u, IsObj Z "java/math/MutableBigInteger" fl_MutableBigInteger [.ref t, .int n, .int 0]) :: F) (fun v L' => v = none ∧ L' = (true, u, IsObj Z "java/math/MutableBigInteger" fl_MutableBigInteger [.ref t, .int n, .int 0]) :: F) := by
  refine MethW.of_wp (Ls := [.val (.ref u), .val (.int 0), .unset, .unset, .unset]) (plainFor_of_name pn2) (EWof K) (by first | rfl | (simp [argsToLocals, Value.category]; done)) (fun r => ?_)
  show WP _ _ _ _ _ _ _ _ _ _ _ _ _ _ _ _ _ _
  refine W_aloadN d8_0 (pc' := 1) rfl A0 rfl ?_
  refine W_getfield d8_1 (pc' := 4) rfl (w66 K) Via.refl (by first | assumption | exact A0 | exact A1 | exact A2 | exact A3 | exact A4 | exact A5 | exact A6 | exact A7 | exact Tl1 ‹_› | exact Tl2 ‹_› | exact Tl3 ‹_› | exact Tl4 ‹_› | exact Tl5 ‹_› | exact Tl6 ‹_› | exact Tl7 ‹_› | exact Tl8 ‹_›) A1 A1 ?_
  refine W_if_ne_T d8_4 (pc' := 8) (by decide) (by decide) hn ?_
  refine W_iloadN d8_8 (pc' := 9) rfl A1 ?_
  refine W_iconst d8_9 (pc' := 10) (v := 5) rfl (by decide) ?_
  refine W_iushr d8_10 (pc' := 11) rfl ?_
  refine W_istoreN d8_11 (pc' := 12) rfl A2 rfl S2 ?_
  refine W_iloadN d8_12 (pc' := 13) rfl A1 ?_
  refine W_bipush d8_13 (pc' := 15) (v := 31) rfl (by decide) ?_
  refine W_iand d8_15 (pc' := 16) rfl ?_
  refine W_istoreN d8_16 (pc' := 17) rfl A3 rfl S3 ?_
  refine W_aloadN d8_17 (pc' := 18) rfl A0 rfl ?_
  refine W_dup d8_18 (pc' := 19) rfl rfl ?_
  refine W_getfield d8_19 (pc' := 22) rfl (w66 K) Via.refl (by first | assumption | exact A0 | exact A1 | exact A2 | exact A3 | exact A4 | exact A5 | exact A6 | exact A7 | exact Tl1 ‹_› | exact Tl2 ‹_› | exact Tl3 ‹_› | exact Tl4 ‹_› | exact Tl5 ‹_› | exact Tl6 ‹_› | exact Tl7 ‹_› | exact Tl8 ‹_›) A1 A1 ?_
  refine W_iloadN d8_22 (pc' := 23) rfl A2 ?_
  refine W_isub d8_23 (pc' := 24) rfl ?_
  rw [show n - XT.ushr 0 5 = n from by rw [show XT.ushr 0 5 = 0 from by decide, Int32.sub_zero]]
  refine W_putfield d8_24 (pc' := 27) rfl (w66 K) Via.refl (Or.inl (w67 K)) (lay_MutableBigInteger K) A1 pf0 rfl rfl S1 (by first | exact ⟨A0, S0⟩ | exact ⟨A1, S1⟩ | exact ⟨A2, S2⟩ | exact ⟨A3, S3⟩ | exact ⟨A4, S4⟩ | exact ⟨A5, S5⟩ | exact ⟨A6, S6⟩ | exact ⟨A7, S7⟩) ?_
  refine W_iloadN d8_27 (pc' := 28) rfl A3 ?_
  refine W_if_ne_F d8_28 (pc' := 31) rfl (by decide) ?_
  exact W_return d8_31 rfl (by first | decide | (dsimp only; omega) | omega) (by first | decide | (dsimp only; omega) | omega) ⟨rfl, rfl⟩
theorem small5 {k : Nat} (hk : k < 32) : XT.ushr (Int32.ofNat k) 5 = 0 ∧ Int32.ofNat k &&& 31 = Int32.ofNat k := by
  have h : ∀ k : Fin 32, XT.ushr (Int32.ofNat k.val) 5 = 0 ∧ Int32.ofNat k.val &&& 31 = Int32.ofNat k.val := by decide +kernel
  exact h ⟨k, hk⟩
theorem big5 {k : Nat} (hk : k < 32) : XT.ushr (Int32.ofNat (32 + k)) 5 = 1 ∧ Int32.ofNat (32 + k) &&& 31 = Int32.ofNat k := by
  have h : ∀ k : Fin 32, XT.ushr (Int32.ofNat (32 + k.val)) 5 = 1 ∧ Int32.ofNat (32 + k.val) &&& 31 = Int32.ofNat k.val := by decide +kernel
  exact h ⟨k, hk⟩
theorem ofNat_nz {k : Nat} (h0 : 0 < k) (hk : k < 2147483648) : Int32.ofNat k ≠ 0 := fun e => ofNat_ne (i := k) (n := 0) (by omega) hk (by decide) e
theorem m_rsh1 {l : Launch} {Z : State} {a0 : Array Value} (K : Ok Z a0) {u t : Addr} {x : Int32} {vs : List Value} {k e : Nat} {F : List Atom} (h0 : 0 < k) (hk : k < 32) (he : e < 32) (h : HB (uv x) e) (hke : k ≤ e) :
    Meth l Z a0 EL (⟨"java/math/MutableBigInteger", "rightShift", "(I)V"⟩ : MethodName) jdk_2101_method_35_code 5 none ({ frames := 2, cells := 0, slots := 0, locals := 26 } : Room) [.ref u, .int (Int32.ofNat k)] ((true, u, IsObj Z "java/math/MutableBigInteger" fl_MutableBigInteger [.ref t, .int 1, .int 0]) :: (true, t, IsArrX Z "[I" .int (.int x :: vs)) :: F) (fun v L' => v = none ∧ L' = (true, u, IsObj Z "java/math/MutableBigInteger" fl_MutableBigInteger [.ref t, .int 1, .int 0]) :: (true, t, IsArrX Z "[I" .int (.int (XT.ushr x (Int32.ofNat k)) :: vs)) :: F) := by
  have s5 := small5 hk
  refine MethW.of_wp (Ls := [.val (.ref u), .val (.int (Int32.ofNat k)), .unset, .unset, .unset]) (plainFor_of_name pn2) (EWof K) (by first | rfl | (simp [argsToLocals, Value.category]; done)) (fun r => ?_)
  show WP _ _ _ _ _ _ _ _ _ _ _ _ _ _ _ _ _ _
  refine W_aloadN d8_0 (pc' := 1) rfl A0 rfl ?_
  refine W_getfield d8_1 (pc' := 4) rfl (w66 K) Via.refl (by first | assumption | exact A0 | exact A1 | exact A2 | exact A3 | exact A4 | exact A5 | exact A6 | exact A7 | exact Tl1 ‹_› | exact Tl2 ‹_› | exact Tl3 ‹_› | exact Tl4 ‹_› | exact Tl5 ‹_› | exact Tl6 ‹_› | exact Tl7 ‹_› | exact Tl8 ‹_›) A1 A1 ?_
  refine W_if_ne_T d8_4 (pc' := 8) (by decide) (by decide) (by decide) ?_
  refine W_iloadN d8_8 (pc' := 9) rfl A1 ?_
  refine W_iconst d8_9 (pc' := 10) (v := 5) rfl (by decide) ?_
  refine W_iushr d8_10 (pc' := 11) rfl ?_
  refine W_istoreN d8_11 (pc' := 12) rfl A2 rfl S2 ?_
  refine W_iloadN d8_12 (pc' := 13) rfl A1 ?_
  refine W_bipush d8_13 (pc' := 15) (v := 31) rfl (by decide) ?_
  refine W_iand d8_15 (pc' := 16) rfl ?_
  refine W_istoreN d8_16 (pc' := 17) rfl A3 rfl S3 ?_
  refine W_aloadN d8_17 (pc' := 18) rfl A0 rfl ?_
  refine W_dup d8_18 (pc' := 19) rfl rfl ?_
  refine W_getfield d8_19 (pc' := 22) rfl (w66 K) Via.refl (by first | assumption | exact A0 | exact A1 | exact A2 | exact A3 | exact A4 | exact A5 | exact A6 | exact A7 | exact Tl1 ‹_› | exact Tl2 ‹_› | exact Tl3 ‹_› | exact Tl4 ‹_› | exact Tl5 ‹_› | exact Tl6 ‹_› | exact Tl7 ‹_› | exact Tl8 ‹_›) A1 A1 ?_
  refine W_iloadN d8_22 (pc' := 23) rfl A2 ?_
  refine W_isub d8_23 (pc' := 24) rfl ?_
  rw [s5.1, s5.2, show (1 : Int32) - 0 = 1 from rfl]
  refine W_putfield d8_24 (pc' := 27) rfl (w66 K) Via.refl (Or.inl (w67 K)) (lay_MutableBigInteger K) A1 pf0 rfl rfl S1 (by first | exact ⟨A0, S0⟩ | exact ⟨A1, S1⟩ | exact ⟨A2, S2⟩ | exact ⟨A3, S3⟩ | exact ⟨A4, S4⟩ | exact ⟨A5, S5⟩ | exact ⟨A6, S6⟩ | exact ⟨A7, S7⟩) ?_
  refine W_iloadN d8_27 (pc' := 28) rfl A3 ?_
  refine W_if_ne_T d8_28 (pc' := 32) (by decide) (by decide) (ofNat_nz h0 (by omega)) ?_
  refine W_aloadN d8_32 (pc' := 33) rfl A0 rfl ?_
  refine W_getfield d8_33 (pc' := 36) rfl (w81 K) Via.refl (by first | assumption | exact A0 | exact A1 | exact A2 | exact A3 | exact A4 | exact A5 | exact A6 | exact A7 | exact Tl1 ‹_› | exact Tl2 ‹_› | exact Tl3 ‹_› | exact Tl4 ‹_› | exact Tl5 ‹_› | exact Tl6 ‹_› | exact Tl7 ‹_› | exact Tl8 ‹_›) A0 A0 ?_
  refine W_aloadN d8_36 (pc' := 37) rfl A0 rfl ?_
  refine W_getfield d8_37 (pc' := 40) rfl (w62 K) Via.refl (by first | assumption | exact A0 | exact A1 | exact A2 | exact A3 | exact A4 | exact A5 | exact A6 | exact A7 | exact Tl1 ‹_› | exact Tl2 ‹_› | exact Tl3 ‹_› | exact Tl4 ‹_› | exact Tl5 ‹_› | exact Tl6 ‹_› | exact Tl7 ‹_› | exact Tl8 ‹_›) A2 A2 ?_
  refine W_ialoadX d8_40 (pc' := 41) rfl (k := 0) (Ix.lit rfl) A1 A0 ?_
  refine W_static d8_41 (pc' := 44) rfl rfl (w251 K) (w252 K) (w8 K) (w253 K) (by decide) (m_blen K he h) ar0 rfl (by decide) (Nat.le_of_ble_eq_true rfl) (by first | decide | (dsimp only; omega) | omega) (by first | decide | (dsimp only; omega) | omega) ?_
  rintro _ _ ⟨rfl, rfl⟩
  simp only [Option.toList_some, Option.toList_none, List.cons_append, List.nil_append]
  refine W_istore d8_44 (pc' := 46) rfl A4 rfl S4 ?_
  refine W_iloadN d8_46 (pc' := 47) rfl A3 ?_
  refine W_iload d8_47 (pc' := 49) rfl A4 ?_
  refine W_icmp_lt_T d8_49 (pc' := 73) (by decide) (by decide) (ofNat_lt (by omega) (by omega)) ?_
  refine W_aloadN d8_73 (pc' := 74) rfl A0 rfl ?_
  refine W_iloadN d8_74 (pc' := 75) rfl A3 ?_
  refine W_virtual d8_75 (pc' := 78) rfl rfl (w257 K) (decl_of (w258 K) (w261 K)) (NF.sel (w260 K)) (w260 K) (w258 K) (w56 K) (w261 K) (by decide) (m_prs1 K (by omega)) ar1 rfl (by first | assumption | exact A0 | exact A1 | exact A2 | exact A3 | exact A4 | exact A5 | exact A6 | exact A7 | exact Tl1 ‹_› | exact Tl2 ‹_› | exact Tl3 ‹_› | exact Tl4 ‹_› | exact Tl5 ‹_› | exact Tl6 ‹_› | exact Tl7 ‹_› | exact Tl8 ‹_›) (by decide) (Nat.le_of_ble_eq_true rfl) (by first | decide | (dsimp only; omega) | omega) (by first | decide | (dsimp only; omega) | omega) ?_
  rintro _ _ ⟨rfl, rfl⟩
  simp only [Option.toList_some, Option.toList_none, List.cons_append, List.nil_append]
  exact W_return d8_78 rfl (by first | decide | (dsimp only; omega) | omega) (by first | decide | (dsimp only; omega) | omega) ⟨rfl, rfl⟩
theorem m_rsh2A {l : Launch} {Z : State} {a0 : Array Value} (K : Ok Z a0) {u t : Addr} {h l' : Int32} {k e : Nat} {F : List Atom} (h0 : 0 < k) (hk : k < 32) (he : e < 32) (hh : HB (uv h) e) (hke : k ≤ e) :
    Meth l Z a0 EL (⟨"java/math/MutableBigInteger", "rightShift", "(I)V"⟩ : MethodName) jdk_2101_method_35_code 5 none ({ frames := 2, cells := 0, slots := 0, locals := 26 } : Room) [.ref u, .int (Int32.ofNat k)] ((true, u, IsObj Z "java/math/MutableBigInteger" fl_MutableBigInteger [.ref t, .int 2, .int 0]) :: (true, t, IsArrX Z "[I" .int [.int h, .int l']) :: F) (fun v L' => v = none ∧ L' = (true, u, IsObj Z "java/math/MutableBigInteger" fl_MutableBigInteger [.ref t, .int 2, .int 0]) :: (true, t, IsArrX Z "[I" .int [.int (XT.ushr h (Int32.ofNat k)), .int (h <<< (Int32.ofNat (32 - k) &&& 31) ||| XT.ushr l' (Int32.ofNat k))]) :: F) := by
  have s5 := small5 hk
  refine MethW.of_wp (Ls := [.val (.ref u), .val (.int (Int32.ofNat k)), .unset, .unset, .unset]) (plainFor_of_name pn2) (EWof K) (by first | rfl | (simp [argsToLocals, Value.category]; done)) (fun r => ?_)
  show WP _ _ _ _ _ _ _ _ _ _ _ _ _ _ _ _ _ _
  refine W_aloadN d8_0 (pc' := 1) rfl A0 rfl ?_
  refine W_getfield d8_1 (pc' := 4) rfl (w66 K) Via.refl (by first | assumption | exact A0 | exact A1 | exact A2 | exact A3 | exact A4 | exact A5 | exact A6 | exact A7 | exact Tl1 ‹_› | exact Tl2 ‹_› | exact Tl3 ‹_› | exact Tl4 ‹_› | exact Tl5 ‹_› | exact Tl6 ‹_› | exact Tl7 ‹_› | exact Tl8 ‹_›) A1 A1 ?_
  refine W_if_ne_T d8_4 (pc' := 8) (by decide) (by decide) (by decide) ?_
  refine W_iloadN d8_8 (pc' := 9) rfl A1 ?_
  refine W_iconst d8_9 (pc' := 10) (v := 5) rfl (by decide) ?_
  refine W_iushr d8_10 (pc' := 11) rfl ?_
  refine W_istoreN d8_11 (pc' := 12) rfl A2 rfl S2 ?_
  refine W_iloadN d8_12 (pc' := 13) rfl A1 ?_
  refine W_bipush d8_13 (pc' := 15) (v := 31) rfl (by decide) ?_
  refine W_iand d8_15 (pc' := 16) rfl ?_
  refine W_istoreN d8_16 (pc' := 17) rfl A3 rfl S3 ?_
  refine W_aloadN d8_17 (pc' := 18) rfl A0 rfl ?_
  refine W_dup d8_18 (pc' := 19) rfl rfl ?_
  refine W_getfield d8_19 (pc' := 22) rfl (w66 K) Via.refl (by first | assumption | exact A0 | exact A1 | exact A2 | exact A3 | exact A4 | exact A5 | exact A6 | exact A7 | exact Tl1 ‹_› | exact Tl2 ‹_› | exact Tl3 ‹_› | exact Tl4 ‹_› | exact Tl5 ‹_› | exact Tl6 ‹_› | exact Tl7 ‹_› | exact Tl8 ‹_›) A1 A1 ?_
  refine W_iloadN d8_22 (pc' := 23) rfl A2 ?_
  refine W_isub d8_23 (pc' := 24) rfl ?_
  rw [s5.1, s5.2, show (2 : Int32) - 0 = 2 from rfl]
  refine W_putfield d8_24 (pc' := 27) rfl (w66 K) Via.refl (Or.inl (w67 K)) (lay_MutableBigInteger K) A1 pf0 rfl rfl S1 (by first | exact ⟨A0, S0⟩ | exact ⟨A1, S1⟩ | exact ⟨A2, S2⟩ | exact ⟨A3, S3⟩ | exact ⟨A4, S4⟩ | exact ⟨A5, S5⟩ | exact ⟨A6, S6⟩ | exact ⟨A7, S7⟩) ?_
  refine W_iloadN d8_27 (pc' := 28) rfl A3 ?_
  refine W_if_ne_T d8_28 (pc' := 32) (by decide) (by decide) (ofNat_nz h0 (by omega)) ?_
  refine W_aloadN d8_32 (pc' := 33) rfl A0 rfl ?_
  refine W_getfield d8_33 (pc' := 36) rfl (w81 K) Via.refl (by first | assumption | exact A0 | exact A1 | exact A2 | exact A3 | exact A4 | exact A5 | exact A6 | exact A7 | exact Tl1 ‹_› | exact Tl2 ‹_› | exact Tl3 ‹_› | exact Tl4 ‹_› | exact Tl5 ‹_› | exact Tl6 ‹_› | exact Tl7 ‹_› | exact Tl8 ‹_›) A0 A0 ?_
  refine W_aloadN d8_36 (pc' := 37) rfl A0 rfl ?_
  refine W_getfield d8_37 (pc' := 40) rfl (w62 K) Via.refl (by first | assumption | exact A0 | exact A1 | exact A2 | exact A3 | exact A4 | exact A5 | exact A6 | exact A7 | exact Tl1 ‹_› | exact Tl2 ‹_› | exact Tl3 ‹_› | exact Tl4 ‹_› | exact Tl5 ‹_› | exact Tl6 ‹_› | exact Tl7 ‹_› | exact Tl8 ‹_›) A2 A2 ?_
  refine W_ialoadX d8_40 (pc' := 41) rfl (k := 0) (Ix.lit rfl) A1 A0 ?_
  refine W_static d8_41 (pc' := 44) rfl rfl (w251 K) (w252 K) (w8 K) (w253 K) (by decide) (m_blen K he hh) ar0 rfl (by decide) (Nat.le_of_ble_eq_true rfl) (by first | decide | (dsimp only; omega) | omega) (by first | decide | (dsimp only; omega) | omega) ?_
  rintro _ _ ⟨rfl, rfl⟩
  simp only [Option.toList_some, Option.toList_none, List.cons_append, List.nil_append]
  refine W_istore d8_44 (pc' := 46) rfl A4 rfl S4 ?_
  refine W_iloadN d8_46 (pc' := 47) rfl A3 ?_
  refine W_iload d8_47 (pc' := 49) rfl A4 ?_
  refine W_icmp_lt_T d8_49 (pc' := 73) (by decide) (by decide) (ofNat_lt (by omega) (by omega)) ?_
  refine W_aloadN d8_73 (pc' := 74) rfl A0 rfl ?_
  refine W_iloadN d8_74 (pc' := 75) rfl A3 ?_
  refine W_virtual d8_75 (pc' := 78) rfl rfl (w257 K) (decl_of (w258 K) (w261 K)) (NF.sel (w260 K)) (w260 K) (w258 K) (w56 K) (w261 K) (by decide) (m_prs2 K (by omega)) ar1 rfl (by first | assumption | exact A0 | exact A1 | exact A2 | exact A3 | exact A4 | exact A5 | exact A6 | exact A7 | exact Tl1 ‹_› | exact Tl2 ‹_› | exact Tl3 ‹_› | exact Tl4 ‹_› | exact Tl5 ‹_› | exact Tl6 ‹_› | exact Tl7 ‹_› | exact Tl8 ‹_›) (by decide) (Nat.le_of_ble_eq_true rfl) (by first | decide | (dsimp only; omega) | omega) (by first | decide | (dsimp only; omega) | omega) ?_
  rintro _ _ ⟨rfl, rfl⟩
  simp only [Option.toList_some, Option.toList_none, List.cons_append, List.nil_append]
  exact W_return d8_78 rfl (by first | decide | (dsimp only; omega) | omega) (by first | decide | (dsimp only; omega) | omega) ⟨rfl, rfl⟩
theorem m_rsh2B {l : Launch} {Z : State} {a0 : Array Value} (K : Ok Z a0) {u t : Addr} {h l' : Int32} {k e : Nat} {F : List Atom} (h0 : 0 < k) (hk : k < 32) (he : e < 32) (hh : HB (uv h) e) (hke : ¬ k ≤ e) :
    Meth l Z a0 EL (⟨"java/math/MutableBigInteger", "rightShift", "(I)V"⟩ : MethodName) jdk_2101_method_35_code 5 none ({ frames := 2, cells := 0, slots := 0, locals := 26 } : Room) [.ref u, .int (Int32.ofNat k)] ((true, u, IsObj Z "java/math/MutableBigInteger" fl_MutableBigInteger [.ref t, .int 2, .int 0]) :: (true, t, IsArrX Z "[I" .int [.int h, .int l']) :: F) (fun v L' => ∃ y, v = none ∧ L' = (true, u, IsObj Z "java/math/MutableBigInteger" fl_MutableBigInteger [.ref t, .int 1, .int 0]) :: (true, t, IsArrX Z "[I" .int [.int (h <<< (Int32.ofNat (32 - k) &&& 31) ||| XT.ushr l' (Int32.ofNat k)), .int y]) :: F) := by
  have s5 := small5 hk
  have e2 : (32 : Int32) - Int32.ofNat k = Int32.ofNat (32 - k) := by rw [show (32 : Int32) = Int32.ofNat 32 from rfl, ofNat_sub32 (by omega)]
  refine MethW.of_wp (Ls := [.val (.ref u), .val (.int (Int32.ofNat k)), .unset, .unset, .unset]) (plainFor_of_name pn2) (EWof K) (by first | rfl | (simp [argsToLocals, Value.category]; done)) (fun r => ?_)
  show WP _ _ _ _ _ _ _ _ _ _ _ _ _ _ _ _ _ _
  refine W_aloadN d8_0 (pc' := 1) rfl A0 rfl ?_
  refine W_getfield d8_1 (pc' := 4) rfl (w66 K) Via.refl (by first | assumption | exact A0 | exact A1 | exact A2 | exact A3 | exact A4 | exact A5 | exact A6 | exact A7 | exact Tl1 ‹_› | exact Tl2 ‹_› | exact Tl3 ‹_› | exact Tl4 ‹_› | exact Tl5 ‹_› | exact Tl6 ‹_› | exact Tl7 ‹_› | exact Tl8 ‹_›) A1 A1 ?_
  refine W_if_ne_T d8_4 (pc' := 8) (by decide) (by decide) (by decide) ?_
  refine W_iloadN d8_8 (pc' := 9) rfl A1 ?_
  refine W_iconst d8_9 (pc' := 10) (v := 5) rfl (by decide) ?_
  refine W_iushr d8_10 (pc' := 11) rfl ?_
  refine W_istoreN d8_11 (pc' := 12) rfl A2 rfl S2 ?_
  refine W_iloadN d8_12 (pc' := 13) rfl A1 ?_
  refine W_bipush d8_13 (pc' := 15) (v := 31) rfl (by decide) ?_
  refine W_iand d8_15 (pc' := 16) rfl ?_
  refine W_istoreN d8_16 (pc' := 17) rfl A3 rfl S3 ?_
  refine W_aloadN d8_17 (pc' := 18) rfl A0 rfl ?_
  refine W_dup d8_18 (pc' := 19) rfl rfl ?_
  refine W_getfield d8_19 (pc' := 22) rfl (w66 K) Via.refl (by first | assumption | exact A0 | exact A1 | exact A2 | exact A3 | exact A4 | exact A5 | exact A6 | exact A7 | exact Tl1 ‹_› | exact Tl2 ‹_› | exact Tl3 ‹_› | exact Tl4 ‹_› | exact Tl5 ‹_› | exact Tl6 ‹_› | exact Tl7 ‹_› | exact Tl8 ‹_›) A1 A1 ?_
  refine W_iloadN d8_22 (pc' := 23) rfl A2 ?_
  refine W_isub d8_23 (pc' := 24) rfl ?_
  rw [s5.1, s5.2, show (2 : Int32) - 0 = 2 from rfl]
  refine W_putfield d8_24 (pc' := 27) rfl (w66 K) Via.refl (Or.inl (w67 K)) (lay_MutableBigInteger K) A1 pf0 rfl rfl S1 (by first | exact ⟨A0, S0⟩ | exact ⟨A1, S1⟩ | exact ⟨A2, S2⟩ | exact ⟨A3, S3⟩ | exact ⟨A4, S4⟩ | exact ⟨A5, S5⟩ | exact ⟨A6, S6⟩ | exact ⟨A7, S7⟩) ?_
  refine W_iloadN d8_27 (pc' := 28) rfl A3 ?_
  refine W_if_ne_T d8_28 (pc' := 32) (by decide) (by decide) (ofNat_nz h0 (by omega)) ?_
  refine W_aloadN d8_32 (pc' := 33) rfl A0 rfl ?_
  refine W_getfield d8_33 (pc' := 36) rfl (w81 K) Via.refl (by first | assumption | exact A0 | exact A1 | exact A2 | exact A3 | exact A4 | exact A5 | exact A6 | exact A7 | exact Tl1 ‹_› | exact Tl2 ‹_› | exact Tl3 ‹_› | exact Tl4 ‹_› | exact Tl5 ‹_› | exact Tl6 ‹_› | exact Tl7 ‹_› | exact Tl8 ‹_›) A0 A0 ?_
  refine W_aloadN d8_36 (pc' := 37) rfl A0 rfl ?_
  refine W_getfield d8_37 (pc' := 40) rfl (w62 K) Via.refl (by first | assumption | exact A0 | exact A1 | exact A2 | exact A3 | exact A4 | exact A5 | exact A6 | exact A7 | exact Tl1 ‹_› | exact Tl2 ‹_› | exact Tl3 ‹_› | exact Tl4 ‹_› | exact Tl5 ‹_› | exact Tl6 ‹_› | exact Tl7 ‹_› | exact Tl8 ‹_›) A2 A2 ?_
  refine W_ialoadX d8_40 (pc' := 41) rfl (k := 0) (Ix.lit rfl) A1 A0 ?_
  refine W_static d8_41 (pc' := 44) rfl rfl (w251 K) (w252 K) (w8 K) (w253 K) (by decide) (m_blen K he hh) ar0 rfl (by decide) (Nat.le_of_ble_eq_true rfl) (by first | decide | (dsimp only; omega) | omega) (by first | decide | (dsimp only; omega) | omega) ?_
  rintro _ _ ⟨rfl, rfl⟩
  simp only [Option.toList_some, Option.toList_none, List.cons_append, List.nil_append]
  refine W_istore d8_44 (pc' := 46) rfl A4 rfl S4 ?_
  refine W_iloadN d8_46 (pc' := 47) rfl A3 ?_
  refine W_iload d8_47 (pc' := 49) rfl A4 ?_
  refine W_icmp_lt_F d8_49 (pc' := 52) rfl (ofNat_nlt (by omega) (by omega)) ?_
  refine W_aloadN d8_52 (pc' := 53) rfl A0 rfl ?_
  refine W_bipush d8_53 (pc' := 55) (v := 32) rfl (by decide) ?_
  refine W_iloadN d8_55 (pc' := 56) rfl A3 ?_
  refine W_isub d8_56 (pc' := 57) rfl ?_
  rw [e2]
  refine W_virtual d8_57 (pc' := 60) rfl rfl (w272 K) (decl_of (w273 K) (w276 K)) (NF.sel (w275 K)) (w275 K) (w273 K) (w56 K) (w276 K) (by decide) (m_pls2 K (by omega)) ar1 rfl (by first | assumption | exact A0 | exact A1 | exact A2 | exact A3 | exact A4 | exact A5 | exact A6 | exact A7 | exact Tl1 ‹_› | exact Tl2 ‹_› | exact Tl3 ‹_› | exact Tl4 ‹_› | exact Tl5 ‹_› | exact Tl6 ‹_› | exact Tl7 ‹_› | exact Tl8 ‹_›) (by decide) (Nat.le_of_ble_eq_true rfl) (by first | decide | (dsimp only; omega) | omega) (by first | decide | (dsimp only; omega) | omega) ?_
  rintro _ _ ⟨y, rfl, rfl⟩
  simp only [Option.toList_some, Option.toList_none, List.cons_append, List.nil_append]
  refine W_aloadN d8_60 (pc' := 61) rfl A0 rfl ?_
  refine W_dup d8_61 (pc' := 62) rfl rfl ?_
  refine W_getfield d8_62 (pc' := 65) rfl (w66 K) Via.refl (by first | assumption | exact A0 | exact A1 | exact A2 | exact A3 | exact A4 | exact A5 | exact A6 | exact A7 | exact Tl1 ‹_› | exact Tl2 ‹_› | exact Tl3 ‹_› | exact Tl4 ‹_› | exact Tl5 ‹_› | exact Tl6 ‹_› | exact Tl7 ‹_› | exact Tl8 ‹_›) A1 A1 ?_
  refine W_iconst d8_65 (pc' := 66) (v := 1) rfl (by decide) ?_
  refine W_isub d8_66 (pc' := 67) rfl ?_
  refine W_putfield d8_67 (pc' := 70) rfl (w66 K) Via.refl (Or.inl (w67 K)) (lay_MutableBigInteger K) A1 pf0 rfl rfl S1 (by first | exact ⟨A0, S0⟩ | exact ⟨A1, S1⟩ | exact ⟨A2, S2⟩ | exact ⟨A3, S3⟩ | exact ⟨A4, S4⟩ | exact ⟨A5, S5⟩ | exact ⟨A6, S6⟩ | exact ⟨A7, S7⟩) ?_
  refine W_goto d8_70 (pc' := 78) (by decide) (by decide) ?_
  exact W_return d8_78 rfl (by first | decide | (dsimp only; omega) | omega) (by first | decide | (dsimp only; omega) | omega) ⟨y, rfl, rfl⟩
theorem m_rsh2C {l : Launch} {Z : State} {a0 : Array Value} (K : Ok Z a0) {u t : Addr} {h y : Int32} {F : List Atom} :
    Meth l Z a0 EL (⟨"java/math/MutableBigInteger", "rightShift", "(I)V"⟩ : MethodName) jdk_2101_method_35_code 5 none ({ frames := 2, cells := 0, slots := 0, locals := 26 } : Room) [.ref u, .int (Int32.ofNat 32)] ((true, u, IsObj Z "java/math/MutableBigInteger" fl_MutableBigInteger [.ref t, .int 2, .int 0]) :: (true, t, IsArrX Z "[I" .int [.int h, .int y]) :: F) (fun v L' => v = none ∧ L' = (true, u, IsObj Z "java/math/MutableBigInteger" fl_MutableBigInteger [.ref t, .int 1, .int 0]) :: (true, t, IsArrX Z "[I" .int [.int h, .int y]) :: F) := by
  refine MethW.of_wp (Ls := [.val (.ref u), .val (.int (Int32.ofNat 32)), .unset, .unset, .unset]) (plainFor_of_name pn2) (EWof K) (by first | rfl | (simp [argsToLocals, Value.category]; done)) (fun r => ?_)
  show WP _ _ _ _ _ _ _ _ _ _ _ _ _ _ _ _ _ _
  refine W_aloadN d8_0 (pc' := 1) rfl A0 rfl ?_
  refine W_getfield d8_1 (pc' := 4) rfl (w66 K) Via.refl (by first | assumption | exact A0 | exact A1 | exact A2 | exact A3 | exact A4 | exact A5 | exact A6 | exact A7 | exact Tl1 ‹_› | exact Tl2 ‹_› | exact Tl3 ‹_› | exact Tl4 ‹_› | exact Tl5 ‹_› | exact Tl6 ‹_› | exact Tl7 ‹_› | exact Tl8 ‹_›) A1 A1 ?_
  refine W_if_ne_T d8_4 (pc' := 8) (by decide) (by decide) (by decide) ?_
  refine W_iloadN d8_8 (pc' := 9) rfl A1 ?_
  refine W_iconst d8_9 (pc' := 10) (v := 5) rfl (by decide) ?_
  refine W_iushr d8_10 (pc' := 11) rfl ?_
  refine W_istoreN d8_11 (pc' := 12) rfl A2 rfl S2 ?_
  refine W_iloadN d8_12 (pc' := 13) rfl A1 ?_
  refine W_bipush d8_13 (pc' := 15) (v := 31) rfl (by decide) ?_
  refine W_iand d8_15 (pc' := 16) rfl ?_
  refine W_istoreN d8_16 (pc' := 17) rfl A3 rfl S3 ?_
  refine W_aloadN d8_17 (pc' := 18) rfl A0 rfl ?_
  refine W_dup d8_18 (pc' := 19) rfl rfl ?_
  refine W_getfield d8_19 (pc' := 22) rfl (w66 K) Via.refl (by first | assumption | exact A0 | exact A1 | exact A2 | exact A3 | exact A4 | exact A5 | exact A6 | exact A7 | exact Tl1 ‹_› | exact Tl2 ‹_› | exact Tl3 ‹_› | exact Tl4 ‹_› | exact Tl5 ‹_› | exact Tl6 ‹_› | exact Tl7 ‹_› | exact Tl8 ‹_›) A1 A1 ?_
  refine W_iloadN d8_22 (pc' := 23) rfl A2 ?_
  refine W_isub d8_23 (pc' := 24) rfl ?_
  refine W_putfield d8_24 (pc' := 27) rfl (w66 K) Via.refl (Or.inl (w67 K)) (lay_MutableBigInteger K) A1 pf0 rfl rfl S1 (by first | exact ⟨A0, S0⟩ | exact ⟨A1, S1⟩ | exact ⟨A2, S2⟩ | exact ⟨A3, S3⟩ | exact ⟨A4, S4⟩ | exact ⟨A5, S5⟩ | exact ⟨A6, S6⟩ | exact ⟨A7, S7⟩) ?_
  refine W_iloadN d8_27 (pc' := 28) rfl A3 ?_
  refine W_if_ne_F d8_28 (pc' := 31) rfl (by decide) ?_
  exact W_return d8_31 rfl (by first | decide | (dsimp only; omega) | omega) (by first | decide | (dsimp only; omega) | omega) ⟨rfl, rfl⟩
theorem m_rsh2D {l : Launch} {Z : State} {a0 : Array Value} (K : Ok Z a0) {u t : Addr} {h y : Int32} {k e : Nat} {F : List Atom} (h0 : 0 < k) (hk : k < 32) (he : e < 32) (hh : HB (uv h) e) (hke : k ≤ e) :
    Meth l Z a0 EL (⟨"java/math/MutableBigInteger", "rightShift", "(I)V"⟩ : MethodName) jdk_2101_method_35_code 5 none ({ frames := 2, cells := 0, slots := 0, locals := 26 } : Room) [.ref u, .int (Int32.ofNat (32 + k))] ((true, u, IsObj Z "java/math/MutableBigInteger" fl_MutableBigInteger [.ref t, .int 2, .int 0]) :: (true, t, IsArrX Z "[I" .int [.int h, .int y]) :: F) (fun v L' => v = none ∧ L' = (true, u, IsObj Z "java/math/MutableBigInteger" fl_MutableBigInteger [.ref t, .int 1, .int 0]) :: (true, t, IsArrX Z "[I" .int [.int (XT.ushr h (Int32.ofNat k)), .int y]) :: F) := by
  have s5 := big5 hk
  refine MethW.of_wp (Ls := [.val (.ref u), .val (.int (Int32.ofNat (32 + k))), .unset, .unset, .unset]) (plainFor_of_name pn2) (EWof K) (by first | rfl | (simp [argsToLocals, Value.category]; done)) (fun r => ?_)
  show WP _ _ _ _ _ _ _ _ _ _ _ _ _ _ _ _ _ _
  refine W_aloadN d8_0 (pc' := 1) rfl A0 rfl ?_
  refine W_getfield d8_1 (pc' := 4) rfl (w66 K) Via.refl (by first | assumption | exact A0 | exact A1 | exact A2 | exact A3 | exact A4 | exact A5 | exact A6 | exact A7 | exact Tl1 ‹_› | exact Tl2 ‹_› | exact Tl3 ‹_› | exact Tl4 ‹_› | exact Tl5 ‹_› | exact Tl6 ‹_› | exact Tl7 ‹_› | exact Tl8 ‹_›) A1 A1 ?_
  refine W_if_ne_T d8_4 (pc' := 8) (by decide) (by decide) (by decide) ?_
  refine W_iloadN d8_8 (pc' := 9) rfl A1 ?_
  refine W_iconst d8_9 (pc' := 10) (v := 5) rfl (by decide) ?_
  refine W_iushr d8_10 (pc' := 11) rfl ?_
  refine W_istoreN d8_11 (pc' := 12) rfl A2 rfl S2 ?_
  refine W_iloadN d8_12 (pc' := 13) rfl A1 ?_
  refine W_bipush d8_13 (pc' := 15) (v := 31) rfl (by decide) ?_
  refine W_iand d8_15 (pc' := 16) rfl ?_
  refine W_istoreN d8_16 (pc' := 17) rfl A3 rfl S3 ?_
  refine W_aloadN d8_17 (pc' := 18) rfl A0 rfl ?_
  refine W_dup d8_18 (pc' := 19) rfl rfl ?_
  refine W_getfield d8_19 (pc' := 22) rfl (w66 K) Via.refl (by first | assumption | exact A0 | exact A1 | exact A2 | exact A3 | exact A4 | exact A5 | exact A6 | exact A7 | exact Tl1 ‹_› | exact Tl2 ‹_› | exact Tl3 ‹_› | exact Tl4 ‹_› | exact Tl5 ‹_› | exact Tl6 ‹_› | exact Tl7 ‹_› | exact Tl8 ‹_›) A1 A1 ?_
  refine W_iloadN d8_22 (pc' := 23) rfl A2 ?_
  refine W_isub d8_23 (pc' := 24) rfl ?_
  rw [s5.1, s5.2, show (2 : Int32) - 1 = 1 from rfl]
  refine W_putfield d8_24 (pc' := 27) rfl (w66 K) Via.refl (Or.inl (w67 K)) (lay_MutableBigInteger K) A1 pf0 rfl rfl S1 (by first | exact ⟨A0, S0⟩ | exact ⟨A1, S1⟩ | exact ⟨A2, S2⟩ | exact ⟨A3, S3⟩ | exact ⟨A4, S4⟩ | exact ⟨A5, S5⟩ | exact ⟨A6, S6⟩ | exact ⟨A7, S7⟩) ?_
  refine W_iloadN d8_27 (pc' := 28) rfl A3 ?_
  refine W_if_ne_T d8_28 (pc' := 32) (by decide) (by decide) (ofNat_nz h0 (by omega)) ?_
  refine W_aloadN d8_32 (pc' := 33) rfl A0 rfl ?_
  refine W_getfield d8_33 (pc' := 36) rfl (w81 K) Via.refl (by first | assumption | exact A0 | exact A1 | exact A2 | exact A3 | exact A4 | exact A5 | exact A6 | exact A7 | exact Tl1 ‹_› | exact Tl2 ‹_› | exact Tl3 ‹_› | exact Tl4 ‹_› | exact Tl5 ‹_› | exact Tl6 ‹_› | exact Tl7 ‹_› | exact Tl8 ‹_›) A0 A0 ?_
  refine W_aloadN d8_36 (pc' := 37) rfl A0 rfl ?_
  refine W_getfield d8_37 (pc' := 40) rfl (w62 K) Via.refl (by first | assumption | exact A0 | exact A1 | exact A2 | exact A3 | exact A4 | exact A5 | exact A6 | exact A7 | exact Tl1 ‹_› | exact Tl2 ‹_› | exact Tl3 ‹_› | exact Tl4 ‹_› | exact Tl5 ‹_› | exact Tl6 ‹_› | exact Tl7 ‹_› | exact Tl8 ‹_›) A2 A2 ?_
  refine W_ialoadX d8_40 (pc' := 41) rfl (k := 0) (Ix.lit rfl) A1 A0 ?_
  refine W_static d8_41 (pc' := 44) rfl rfl (w251 K) (w252 K) (w8 K) (w253 K) (by decide) (m_blen K he hh) ar0 rfl (by decide) (Nat.le_of_ble_eq_true rfl) (by first | decide | (dsimp only; omega) | omega) (by first | decide | (dsimp only; omega) | omega) ?_
  rintro _ _ ⟨rfl, rfl⟩
  simp only [Option.toList_some, Option.toList_none, List.cons_append, List.nil_append]
  refine W_istore d8_44 (pc' := 46) rfl A4 rfl S4 ?_
  refine W_iloadN d8_46 (pc' := 47) rfl A3 ?_
  refine W_iload d8_47 (pc' := 49) rfl A4 ?_
  refine W_icmp_lt_T d8_49 (pc' := 73) (by decide) (by decide) (ofNat_lt (by omega) (by omega)) ?_
  refine W_aloadN d8_73 (pc' := 74) rfl A0 rfl ?_
  refine W_iloadN d8_74 (pc' := 75) rfl A3 ?_
  refine W_virtual d8_75 (pc' := 78) rfl rfl (w257 K) (decl_of (w258 K) (w261 K)) (NF.sel (w260 K)) (w260 K) (w258 K) (w56 K) (w261 K) (by decide) (m_prs1 K (by omega)) ar1 rfl (by first | assumption | exact A0 | exact A1 | exact A2 | exact A3 | exact A4 | exact A5 | exact A6 | exact A7 | exact Tl1 ‹_› | exact Tl2 ‹_› | exact Tl3 ‹_› | exact Tl4 ‹_› | exact Tl5 ‹_› | exact Tl6 ‹_› | exact Tl7 ‹_› | exact Tl8 ‹_›) (by decide) (Nat.le_of_ble_eq_true rfl) (by first | decide | (dsimp only; omega) | omega) (by first | decide | (dsimp only; omega) | omega) ?_
  rintro _ _ ⟨rfl, rfl⟩
  simp only [Option.toList_some, Option.toList_none, List.cons_append, List.nil_append]
  exact W_return d8_78 rfl (by first | decide | (dsimp only; omega) | omega) (by first | decide | (dsimp only; omega) | omega) ⟨rfl, rfl⟩
theorem m_cmp21 {l : Launch} {Z : State} {a0 : Array Value} (K : Ok Z a0) {u w t t' : Addr} {o1 o2 : Int32} {L : List Atom} {i j : Nat} {b b' : Bool} (hu : L[i]? = some (b, u, IsObj Z "java/math/MutableBigInteger" fl_MutableBigInteger [.ref t, .int 2, .int o1])) (hw : L[j]? = some (b', w, IsObj Z "java/math/MutableBigInteger" fl_MutableBigInteger [.ref t', .int 1, .int o2])) :
    Meth l Z a0 EL (⟨"java/math/MutableBigInteger", "compare", "(Ljava/math/MutableBigInteger;)I"⟩ : MethodName) jdk_2101_method_15_code 8 (some .int) ({ frames := 0, cells := 0, slots := 0, locals := 0 } : Room) [.ref u, .ref w] L (fun v L' => v = some (.int 1) ∧ L' = L) := by
  refine MethW.of_wp (Ls := [.val (.ref u), .val (.ref w), .unset, .unset, .unset, .unset, .unset, .unset]) (plainFor_of_name pn2) (EWof K) (by first | rfl | (simp [argsToLocals, Value.category]; done)) (fun r => ?_)
  show WP _ _ _ _ _ _ _ _ _ _ _ _ _ _ _ _ _ _
  refine W_aloadN d9_0 (pc' := 1) rfl A1 rfl ?_
  refine W_getfield d9_1 (pc' := 4) rfl (w66 K) Via.refl (by first | assumption | exact A0 | exact A1 | exact A2 | exact A3 | exact A4 | exact A5 | exact A6 | exact A7 | exact Tl1 ‹_› | exact Tl2 ‹_› | exact Tl3 ‹_› | exact Tl4 ‹_› | exact Tl5 ‹_› | exact Tl6 ‹_› | exact Tl7 ‹_› | exact Tl8 ‹_›) A1 A1 ?_
  refine W_istoreN d9_4 (pc' := 5) rfl A2 rfl S2 ?_
  refine W_aloadN d9_5 (pc' := 6) rfl A0 rfl ?_
  refine W_getfield d9_6 (pc' := 9) rfl (w66 K) Via.refl (by first | assumption | exact A0 | exact A1 | exact A2 | exact A3 | exact A4 | exact A5 | exact A6 | exact A7 | exact Tl1 ‹_› | exact Tl2 ‹_› | exact Tl3 ‹_› | exact Tl4 ‹_› | exact Tl5 ‹_› | exact Tl6 ‹_› | exact Tl7 ‹_› | exact Tl8 ‹_›) A1 A1 ?_
  refine W_iloadN d9_9 (pc' := 10) rfl A2 ?_
  refine W_icmp_ge_T d9_10 (pc' := 15) (by decide) (by decide) (by decide) ?_
  refine W_aloadN d9_15 (pc' := 16) rfl A0 rfl ?_
  refine W_getfield d9_16 (pc' := 19) rfl (w66 K) Via.refl (by first | assumption | exact A0 | exact A1 | exact A2 | exact A3 | exact A4 | exact A5 | exact A6 | exact A7 | exact Tl1 ‹_› | exact Tl2 ‹_› | exact Tl3 ‹_› | exact Tl4 ‹_› | exact Tl5 ‹_› | exact Tl6 ‹_› | exact Tl7 ‹_› | exact Tl8 ‹_›) A1 A1 ?_
  refine W_iloadN d9_19 (pc' := 20) rfl A2 ?_
  refine W_icmp_le_F d9_20 (pc' := 23) rfl (by decide) ?_
  refine W_iconst d9_23 (pc' := 24) (v := 1) rfl (by decide) ?_
  exact W_ireturn d9_24 rfl (by simp) rfl (by first | decide | (dsimp only; omega) | omega) (by first | decide | (dsimp only; omega) | omega) ⟨rfl, rfl⟩
theorem m_nrm {l : Launch} {Z : State} {a0 : Array Value} (K : Ok Z a0) {u t : Addr} {n x : Int32} {vs : List Value} {L : List Atom} {i j : Nat} {b b' : Bool} (hu : L[i]? = some (b, u, IsObj Z "java/math/MutableBigInteger" fl_MutableBigInteger [.ref t, .int n, .int 0])) (ht : L[j]? = some (b', t, IsArrX Z "[I" .int vs)) (hn : n ≠ 0) (hv : vs[0]? = some (.int x)) (hx : x ≠ 0) :
    Meth l Z a0 EL (⟨"java/math/MutableBigInteger", "normalize", "()V"⟩ : MethodName) jdk_2101_method_21_code 4 none ({ frames := 0, cells := 0, slots := 0, locals := 0 } : Room) [.ref u] L (fun v L' => v = none ∧ L' = L) := by
  refine MethW.of_wp (Ls := [.val (.ref u), .unset, .unset, .unset]) (plainFor_of_name pn2) (EWof K) (by first | rfl | (simp [argsToLocals, Value.category]; done)) (fun r => ?_)
  show WP _ _ _ _ _ _ _ _ _ _ _ _ _ _ _ _ _ _
  refine W_aloadN d10_0 (pc' := 1) rfl A0 rfl ?_
  refine W_getfield d10_1 (pc' := 4) rfl (w66 K) Via.refl (by first | assumption | exact A0 | exact A1 | exact A2 | exact A3 | exact A4 | exact A5 | exact A6 | exact A7 | exact Tl1 ‹_› | exact Tl2 ‹_› | exact Tl3 ‹_› | exact Tl4 ‹_› | exact Tl5 ‹_› | exact Tl6 ‹_› | exact Tl7 ‹_› | exact Tl8 ‹_›) A1 A1 ?_
  refine W_if_ne_T d10_4 (pc' := 13) (by decide) (by decide) hn ?_
  refine W_aloadN d10_13 (pc' := 14) rfl A0 rfl ?_
  refine W_getfield d10_14 (pc' := 17) rfl (w62 K) Via.refl (by first | assumption | exact A0 | exact A1 | exact A2 | exact A3 | exact A4 | exact A5 | exact A6 | exact A7 | exact Tl1 ‹_› | exact Tl2 ‹_› | exact Tl3 ‹_› | exact Tl4 ‹_› | exact Tl5 ‹_› | exact Tl6 ‹_› | exact Tl7 ‹_› | exact Tl8 ‹_›) A2 A2 ?_
  refine W_istoreN d10_17 (pc' := 18) rfl A1 rfl S1 ?_
  refine W_aloadN d10_18 (pc' := 19) rfl A0 rfl ?_
  refine W_getfield d10_19 (pc' := 22) rfl (w81 K) Via.refl (by first | assumption | exact A0 | exact A1 | exact A2 | exact A3 | exact A4 | exact A5 | exact A6 | exact A7 | exact Tl1 ‹_› | exact Tl2 ‹_› | exact Tl3 ‹_› | exact Tl4 ‹_› | exact Tl5 ‹_› | exact Tl6 ‹_› | exact Tl7 ‹_› | exact Tl8 ‹_›) A0 A0 ?_
  refine W_iloadN d10_22 (pc' := 23) rfl A1 ?_
  refine W_ialoadX d10_23 (pc' := 24) rfl (k := 0) (Ix.lit rfl) ht hv ?_
  refine W_if_eq_F d10_24 (pc' := 27) rfl hx ?_
  exact W_return d10_27 rfl (by first | decide | (dsimp only; omega) | omega) (by first | decide | (dsimp only; omega) | omega) ⟨rfl, rfl⟩
theorem m_diff {l : Launch} {Z : State} {a0 : Array Value} (K : Ok Z a0) {u tu w tw : Addr} {h l' : Int32} {F : List Atom} {i j : Nat} {b b' : Bool} (hw : F[i]? = some (b, w, IsObj Z "java/math/MutableBigInteger" fl_MutableBigInteger [.ref tw, .int 1, .int 0])) (htw : F[j]? = some (b', tw, IsArrX Z "[I" .int [.int 1])) (hh : h ≠ 0) (hl : 0 < uv l') :
    Meth l Z a0 EL (⟨"java/math/MutableBigInteger", "difference", "(Ljava/math/MutableBigInteger;)I"⟩ : MethodName) jdk_2101_method_50_code 8 (some .int) ({ frames := 1, cells := 0, slots := 0, locals := 19 } : Room) [.ref u, .ref w] ((true, u, IsObj Z "java/math/MutableBigInteger" fl_MutableBigInteger [.ref tu, .int 2, .int 0]) :: (true, tu, IsArrX Z "[I" .int [.int h, .int l']) :: F) (fun v L' => v = some (.int 1) ∧ L' = (true, u, IsObj Z "java/math/MutableBigInteger" fl_MutableBigInteger [.ref tu, .int 2, .int 0]) :: (true, tu, IsArrX Z "[I" .int [.int h, .int (l' - 1)]) :: F) := by
  obtain ⟨d, ed, hd, hd2⟩ := diff_val hl
  have hc : ¬ XT.cmpL d 0 < 0 := by
    have z : (0 : Int64).toInt = 0 := rfl
    rcases Int.lt_trichotomy d.toInt 0 with q | q | q
    · omega
    · rw [cmpL_eq (Int64.toInt_inj.mp (q.trans z.symm))]; decide
    · rw [cmpL_gt (Int64.lt_iff_toInt_lt.mpr (by rw [z]; exact q))]; decide
  refine MethW.of_wp (Ls := [.val (.ref u), .val (.ref w), .unset, .unset, .unset, .unset, .unset, .unset]) (plainFor_of_name pn2) (EWof K) (by first | rfl | (simp [argsToLocals, Value.category]; done)) (fun r => ?_)
  show WP _ _ _ _ _ _ _ _ _ _ _ _ _ _ _ _ _ _
  refine W_aloadN d11_0 (pc' := 1) rfl A0 rfl ?_
  refine W_astoreN d11_1 (pc' := 2) rfl A2 rfl rfl S2 ?_
  refine W_aloadN d11_2 (pc' := 3) rfl A2 rfl ?_
  refine W_aloadN d11_3 (pc' := 4) rfl A1 rfl ?_
  refine W_virtual d11_4 (pc' := 7) rfl rfl (w165 K) (w166 K) (NF.sel (w168 K)) (w168 K) (w167 K) (w56 K) (w169 K) (by decide) (m_cmp21 K A0 (Tl2 hw)) ar2 rfl (by first | assumption | exact A0 | exact A1 | exact A2 | exact A3 | exact A4 | exact A5 | exact A6 | exact A7 | exact Tl1 ‹_› | exact Tl2 ‹_› | exact Tl3 ‹_› | exact Tl4 ‹_› | exact Tl5 ‹_› | exact Tl6 ‹_› | exact Tl7 ‹_› | exact Tl8 ‹_›) (by decide) (Nat.le_of_ble_eq_true rfl) (by first | decide | (dsimp only; omega) | omega) (by first | decide | (dsimp only; omega) | omega) ?_
  rintro _ _ ⟨rfl, rfl⟩
  simp only [Option.toList_some, Option.toList_none, List.cons_append, List.nil_append]
  refine W_istoreN d11_7 (pc' := 8) rfl A3 rfl S3 ?_
  refine W_iloadN d11_8 (pc' := 9) rfl A3 ?_
  refine W_if_ne_T d11_9 (pc' := 14) (by decide) (by decide) (by decide) ?_
  refine W_iloadN d11_14 (pc' := 15) rfl A3 ?_
  refine W_if_ge_T d11_15 (pc' := 26) (by decide) (by decide) (by decide) ?_
  refine W_lconst d11_26 (pc' := 27) (v := 0) rfl (by decide) ?_
  refine W_lstore d11_27 (pc' := 29) rfl A4 A5 rfl SS4 ?_
  refine W_aloadN d11_29 (pc' := 30) rfl A2 rfl ?_
  refine W_getfield d11_30 (pc' := 33) rfl (w66 K) Via.refl (by first | assumption | exact A0 | exact A1 | exact A2 | exact A3 | exact A4 | exact A5 | exact A6 | exact A7 | exact Tl1 ‹_› | exact Tl2 ‹_› | exact Tl3 ‹_› | exact Tl4 ‹_› | exact Tl5 ‹_› | exact Tl6 ‹_› | exact Tl7 ‹_› | exact Tl8 ‹_›) A1 A1 ?_
  refine W_istore d11_33 (pc' := 35) rfl A6 rfl S6 ?_
  refine W_aloadN d11_35 (pc' := 36) rfl A1 rfl ?_
  refine W_getfield d11_36 (pc' := 39) rfl (w66 K) Via.refl (by first | assumption | exact A0 | exact A1 | exact A2 | exact A3 | exact A4 | exact A5 | exact A6 | exact A7 | exact Tl1 ‹_› | exact Tl2 ‹_› | exact Tl3 ‹_› | exact Tl4 ‹_› | exact Tl5 ‹_› | exact Tl6 ‹_› | exact Tl7 ‹_› | exact Tl8 ‹_›) A1 A1 ?_
  refine W_istore d11_39 (pc' := 41) rfl A7 rfl S7 ?_
  refine W_iload d11_41 (pc' := 43) rfl A7 ?_
  refine W_if_le_F d11_43 (pc' := 46) rfl (by decide) ?_
  refine W_iinc d11_46 (pc' := 49) (v := (-1)) rfl (by decide) A6 S6 ?_
  refine W_iinc d11_49 (pc' := 52) (v := (-1)) rfl (by decide) A7 S7 ?_
  refine W_aloadN d11_52 (pc' := 53) rfl A2 rfl ?_
  refine W_getfield d11_53 (pc' := 56) rfl (w81 K) Via.refl (by first | assumption | exact A0 | exact A1 | exact A2 | exact A3 | exact A4 | exact A5 | exact A6 | exact A7 | exact Tl1 ‹_› | exact Tl2 ‹_› | exact Tl3 ‹_› | exact Tl4 ‹_› | exact Tl5 ‹_› | exact Tl6 ‹_› | exact Tl7 ‹_› | exact Tl8 ‹_›) A0 A0 ?_
  refine W_aloadN d11_56 (pc' := 57) rfl A2 rfl ?_
  refine W_getfield d11_57 (pc' := 60) rfl (w62 K) Via.refl (by first | assumption | exact A0 | exact A1 | exact A2 | exact A3 | exact A4 | exact A5 | exact A6 | exact A7 | exact Tl1 ‹_› | exact Tl2 ‹_› | exact Tl3 ‹_› | exact Tl4 ‹_› | exact Tl5 ‹_› | exact Tl6 ‹_› | exact Tl7 ‹_› | exact Tl8 ‹_›) A2 A2 ?_
  refine W_iload d11_60 (pc' := 62) rfl A6 ?_
  refine W_iadd d11_62 (pc' := 63) rfl ?_
  refine W_ialoadX d11_63 (pc' := 64) rfl (k := 1) (Ix.lit rfl) A1 A1 ?_
  refine W_i2l d11_64 (pc' := 65) rfl ?_
  refine W_ldc2 d11_65 (pc' := 68) rfl (v := 4294967295) (w180 K) ?_
  refine W_land d11_68 (pc' := 69) rfl ?_
  refine W_aloadN d11_69 (pc' := 70) rfl A1 rfl ?_
  refine W_getfield d11_70 (pc' := 73) rfl (w81 K) Via.refl (by first | assumption | exact A0 | exact A1 | exact A2 | exact A3 | exact A4 | exact A5 | exact A6 | exact A7 | exact Tl1 ‹_› | exact Tl2 ‹_› | exact Tl3 ‹_› | exact Tl4 ‹_› | exact Tl5 ‹_› | exact Tl6 ‹_› | exact Tl7 ‹_› | exact Tl8 ‹_›) A0 A0 ?_
  refine W_aloadN d11_73 (pc' := 74) rfl A1 rfl ?_
  refine W_getfield d11_74 (pc' := 77) rfl (w62 K) Via.refl (by first | assumption | exact A0 | exact A1 | exact A2 | exact A3 | exact A4 | exact A5 | exact A6 | exact A7 | exact Tl1 ‹_› | exact Tl2 ‹_› | exact Tl3 ‹_› | exact Tl4 ‹_› | exact Tl5 ‹_› | exact Tl6 ‹_› | exact Tl7 ‹_› | exact Tl8 ‹_›) A2 A2 ?_
  refine W_iload d11_77 (pc' := 79) rfl A7 ?_
  refine W_iadd d11_79 (pc' := 80) rfl ?_
  refine W_ialoadX d11_80 (pc' := 81) rfl (k := 0) (Ix.lit rfl) (Tl2 htw) A0 ?_
  refine W_i2l d11_81 (pc' := 82) rfl ?_
  refine W_ldc2 d11_82 (pc' := 85) rfl (v := 4294967295) (w180 K) ?_
  refine W_land d11_85 (pc' := 86) rfl ?_
  refine W_lsub d11_86 (pc' := 87) rfl ?_
  refine W_lload d11_87 (pc' := 89) rfl A4 ?_
  refine W_bipush d11_89 (pc' := 91) (v := 32) rfl (by decide) ?_
  refine W_lshr d11_91 (pc' := 92) rfl ?_
  refine W_ladd d11_92 (pc' := 93) rfl ?_
  rw [ed]
  refine W_lstore d11_93 (pc' := 95) rfl A4 A5 rfl SS4 ?_
  refine W_aloadN d11_95 (pc' := 96) rfl A2 rfl ?_
  refine W_getfield d11_96 (pc' := 99) rfl (w81 K) Via.refl (by first | assumption | exact A0 | exact A1 | exact A2 | exact A3 | exact A4 | exact A5 | exact A6 | exact A7 | exact Tl1 ‹_› | exact Tl2 ‹_› | exact Tl3 ‹_› | exact Tl4 ‹_› | exact Tl5 ‹_› | exact Tl6 ‹_› | exact Tl7 ‹_› | exact Tl8 ‹_›) A0 A0 ?_
  refine W_aloadN d11_99 (pc' := 100) rfl A2 rfl ?_
  refine W_getfield d11_100 (pc' := 103) rfl (w62 K) Via.refl (by first | assumption | exact A0 | exact A1 | exact A2 | exact A3 | exact A4 | exact A5 | exact A6 | exact A7 | exact Tl1 ‹_› | exact Tl2 ‹_› | exact Tl3 ‹_› | exact Tl4 ‹_› | exact Tl5 ‹_› | exact Tl6 ‹_› | exact Tl7 ‹_› | exact Tl8 ‹_›) A2 A2 ?_
  refine W_iload d11_103 (pc' := 105) rfl A6 ?_
  refine W_iadd d11_105 (pc' := 106) rfl ?_
  refine W_lload d11_106 (pc' := 108) rfl A4 ?_
  refine W_l2i d11_108 (pc' := 109) rfl ?_
  rw [hd2]
  refine W_iastoreX d11_109 (pc' := 110) rfl (k := 1) (Ix.lit rfl) (lt_ble rfl) S1 (by first | exact ⟨A0, S0⟩ | exact ⟨A1, S1⟩ | exact ⟨A2, S2⟩ | exact ⟨A3, S3⟩ | exact ⟨A4, S4⟩ | exact ⟨A5, S5⟩ | exact ⟨A6, S6⟩ | exact ⟨A7, S7⟩) ?_
  refine W_goto d11_110 (pc' := 41) (by decide) (by decide) ?_
  refine W_iload d11_41 (pc' := 43) rfl A7 ?_
  refine W_if_le_T d11_43 (pc' := 113) (by decide) (by decide) (by decide) ?_
  refine W_lload d11_113 (pc' := 115) rfl A4 ?_
  refine W_lconst d11_115 (pc' := 116) (v := 0) rfl (by decide) ?_
  refine W_lcmp d11_116 (pc' := 117) rfl ?_
  refine W_if_ge_T d11_117 (pc' := 171) (by decide) (by decide) hc ?_
  refine W_aloadN d11_171 (pc' := 172) rfl A2 rfl ?_
  refine W_virtual d11_172 (pc' := 175) rfl rfl (w267 K) (w268 K) (NF.sel (w270 K)) (w270 K) (w269 K) (w56 K) (w271 K) (by decide) (m_nrm K A0 A1 (by decide) A0 hh) ar3 rfl (by first | assumption | exact A0 | exact A1 | exact A2 | exact A3 | exact A4 | exact A5 | exact A6 | exact A7 | exact Tl1 ‹_› | exact Tl2 ‹_› | exact Tl3 ‹_› | exact Tl4 ‹_› | exact Tl5 ‹_› | exact Tl6 ‹_› | exact Tl7 ‹_› | exact Tl8 ‹_›) (by decide) (Nat.le_of_ble_eq_true rfl) (by first | decide | (dsimp only; omega) | omega) (by first | decide | (dsimp only; omega) | omega) ?_
  rintro _ _ ⟨rfl, rfl⟩
  simp only [Option.toList_some, Option.toList_none, List.cons_append, List.nil_append]
  refine W_iloadN d11_175 (pc' := 176) rfl A3 ?_
  exact W_ireturn d11_176 rfl (by simp) rfl (by first | decide | (dsimp only; omega) | omega) (by first | decide | (dsimp only; omega) | omega) ⟨rfl, rfl⟩
theorem bg_loop {l : Launch} {Z : State} {a0 : Array Value} (K : Ok Z a0) {s2 s3 : Int32} {L : List Atom} {Q : Option Value → List Atom → Prop} {r : Run} (hr : Q (some (.int 1)) L) :
    ∀ (B : Nat) (x : Int32), uv x ≤ B → uv x % 2 = 1 → WP l ({ frames := 1, cells := 0, slots := 0, locals := 14 } : Room) Z a0 EL "java/math/MutableBigInteger" "binaryGcd" jdk_2101_method_74_code 5 (some .int) Q r 0 0 L 42 [.val (.int x), .val (.int 1), .val (.int s2), .val (.int s3), .val (.int 0)] [] := by
  intro B
  induction B with
  | zero => intro x h1 h2; omega
  | succ B ih =>
    intro x h1 h2
    refine W_iloadN d12_42 (pc' := 43) rfl A0 ?_
    refine W_iloadN d12_43 (pc' := 44) rfl A1 ?_
    by_cases q : x = 1
    · subst q
      refine W_icmp_eq_T d12_44 (pc' := 86) (by decide) (by decide) rfl ?_
      refine W_iloadN d12_86 (pc' := 87) rfl A0 ?_
      refine W_iload d12_87 (pc' := 89) rfl A4 ?_
      refine W_ishl d12_89 (pc' := 90) rfl ?_
      exact W_ireturn d12_90 rfl (by simp) rfl (by first | decide | (dsimp only; omega) | omega) (by first | decide | (dsimp only; omega) | omega) hr
    · have hx : 1 < uv x := by
        refine Nat.lt_of_not_le fun r => q (uv_inj ?_)
        rw [one_uv]; omega
      have hs := sub1_uv (x := x) (by omega)
      obtain ⟨k, hk, hb⟩ := lb_ex 32 (uv (x - 1)) (by omega) (uv_lt _)
      have hk0 := lb_even hb (by omega)
      have hu := ushr_lb (x := x - 1) hk
      have hd : uv (x - 1) / 2 ^ k ≤ uv (x - 1) := Nat.div_le_self _ _
      refine W_icmp_eq_F d12_44 (pc' := 47) rfl q ?_
      refine W_iloadN d12_47 (pc' := 48) rfl A0 ?_
      refine W_ldcI d12_48 (pc' := 50) rfl (v := (-2147483648)) (w119 K) ?_
      refine W_iadd d12_50 (pc' := 51) rfl ?_
      refine W_iloadN d12_51 (pc' := 52) rfl A1 ?_
      refine W_ldcI d12_52 (pc' := 54) rfl (v := (-2147483648)) (w119 K) ?_
      refine W_iadd d12_54 (pc' := 55) rfl ?_
      refine W_icmp_le_F d12_55 (pc' := 58) rfl (ult.mpr (by rw [one_uv]; exact hx)) ?_
      refine W_iloadN d12_58 (pc' := 59) rfl A0 ?_
      refine W_iloadN d12_59 (pc' := 60) rfl A1 ?_
      refine W_isub d12_60 (pc' := 61) rfl ?_
      refine W_istoreN d12_61 (pc' := 62) rfl A0 rfl S0 ?_
      refine W_iloadN d12_62 (pc' := 63) rfl A0 ?_
      refine W_iloadN d12_63 (pc' := 64) rfl A0 ?_
      refine W_static d12_64 (pc' := 67) rfl rfl (w107 K) (w108 K) (w109 K) (w110 K) (by decide) (m_ntz K hk hb) ar0 rfl (by decide) (Nat.le_of_ble_eq_true rfl) (by first | decide | (dsimp only; omega) | omega) (by first | decide | (dsimp only; omega) | omega) ?_
      rintro _ _ ⟨rfl, rfl⟩
      simp only [Option.toList_some, Option.toList_none, List.cons_append, List.nil_append]
      refine W_iushr d12_67 (pc' := 68) rfl ?_
      refine W_istoreN d12_68 (pc' := 69) rfl A0 rfl S0 ?_
      refine W_goto d12_69 (pc' := 42) (by decide) (by decide) ?_
      exact ih _ (by rw [hu]; omega) (by rw [hu]; exact hb.2)
theorem m_bg {l : Launch} {Z : State} {a0 : Array Value} (K : Ok Z a0) {x : Int32} {L : List Atom} (hx : x ≠ 0) : Meth l Z a0 EL (⟨"java/math/MutableBigInteger", "binaryGcd", "(II)I"⟩ : MethodName) jdk_2101_method_74_code 5 (some .int) ({ frames := 1, cells := 0, slots := 0, locals := 14 } : Room) [.int x, .int 1] L (fun v L' => v = some (.int 1) ∧ L' = L) := by
  obtain ⟨k, hk, hb⟩ := lb_ex 32 (uv x) (uv_pos hx) (uv_lt _)
  refine MethW.of_wp (Ls := [.val (.int x), .val (.int 1), .unset, .unset, .unset]) (plainFor_of_name pn2) (EWof K) (by first | rfl | (simp [argsToLocals, Value.category]; done)) (fun r => ?_)
  show WP _ _ _ _ _ _ _ _ _ _ _ _ _ _ _ _ _ _
  refine W_iloadN d12_0 (pc' := 1) rfl A1 ?_
  refine W_if_ne_T d12_1 (pc' := 6) (by decide) (by decide) (by decide) ?_
  refine W_iloadN d12_6 (pc' := 7) rfl A0 ?_
  refine W_if_ne_T d12_7 (pc' := 12) (by decide) (by decide) hx ?_
  refine W_iloadN d12_12 (pc' := 13) rfl A0 ?_
  refine W_static d12_13 (pc' := 16) rfl rfl (w107 K) (w108 K) (w109 K) (w110 K) (by decide) (m_ntz K hk hb) ar0 rfl (by decide) (Nat.le_of_ble_eq_true rfl) (by first | decide | (dsimp only; omega) | omega) (by first | decide | (dsimp only; omega) | omega) ?_
  rintro _ _ ⟨rfl, rfl⟩
  simp only [Option.toList_some, Option.toList_none, List.cons_append, List.nil_append]
  refine W_istoreN d12_16 (pc' := 17) rfl A2 rfl S2 ?_
  refine W_iloadN d12_17 (pc' := 18) rfl A1 ?_
  refine W_static d12_18 (pc' := 21) rfl rfl (w107 K) (w108 K) (w109 K) (w110 K) (by decide) (m_ntz K (k := 0) (by decide) (lb_zero (by decide))) ar0 rfl (by decide) (Nat.le_of_ble_eq_true rfl) (by first | decide | (dsimp only; omega) | omega) (by first | decide | (dsimp only; omega) | omega) ?_
  rintro _ _ ⟨rfl, rfl⟩
  simp only [Option.toList_some, Option.toList_none, List.cons_append, List.nil_append]
  refine W_istoreN d12_21 (pc' := 22) rfl A3 rfl S3 ?_
  refine W_iloadN d12_22 (pc' := 23) rfl A0 ?_
  refine W_iloadN d12_23 (pc' := 24) rfl A2 ?_
  refine W_iushr d12_24 (pc' := 25) rfl ?_
  refine W_istoreN d12_25 (pc' := 26) rfl A0 rfl S0 ?_
  refine W_iloadN d12_26 (pc' := 27) rfl A1 ?_
  refine W_iloadN d12_27 (pc' := 28) rfl A3 ?_
  refine W_iushr d12_28 (pc' := 29) rfl ?_
  refine W_istoreN d12_29 (pc' := 30) rfl A1 rfl S1 ?_
  refine W_iloadN d12_30 (pc' := 31) rfl A2 ?_
  refine W_iloadN d12_31 (pc' := 32) rfl A3 ?_
  refine W_icmp_ge_T d12_32 (pc' := 39) (by decide) (by decide) (ofNat_nlt (Nat.zero_le _) (by omega)) ?_
  refine W_iloadN d12_39 (pc' := 40) rfl A3 ?_
  refine W_istore d12_40 (pc' := 42) rfl A4 rfl S4 ?_
  rw [show XT.ushr 1 (Int32.ofNat 0) = 1 from ushr0 1]
  exact bg_loop K ⟨rfl, rfl⟩ _ _ (Nat.le_refl _) (by rw [ushr_lb hk]; exact hb.2)
theorem m_mbi0 {l : Launch} {Z : State} {a0 : Array Value} (K : Ok Z a0) {u : Addr} {F : List Atom} : Meth l Z a0 EL (⟨"java/math/MutableBigInteger", "<init>", "()V"⟩ : MethodName) jdk_2101_method_1_code 1 none ({ frames := 1, cells := 1, slots := 1, locals := 12 } : Room) [.ref u] ((true, u, IsObj Z "java/math/MutableBigInteger" fl_MutableBigInteger [.null, .int 0, .int 0]) :: F) (fun v L' => ∃ t, v = none ∧ L' = (true, u, IsObj Z "java/math/MutableBigInteger" fl_MutableBigInteger [.ref t, .int 0, .int 0]) :: (true, t, IsArrX Z "[I" .int [.int 0]) :: F) := by
  refine MethW.of_wp (Ls := [.val (.ref u)]) (plainFor_of_name pn2) (EWof K) (by first | rfl | (simp [argsToLocals, Value.category]; done)) (fun r => ?_)
  show WP _ _ _ _ _ _ _ _ _ _ _ _ _ _ _ _ _ _
  refine W_aloadN d13_0 (pc' := 1) rfl A0 rfl ?_
  refine W_objInit d13_1 (pc' := 4) rfl rfl (w61 K) (w17 K) (w18 K) rfl (by decide) (Nat.le_of_ble_eq_true rfl) ?_
  refine W_aloadN d13_4 (pc' := 5) rfl A0 rfl ?_
  refine W_iconst d13_5 (pc' := 6) (v := 0) rfl (by decide) ?_
  refine W_putfield d13_6 (pc' := 9) rfl (w62 K) Via.refl (Or.inl (w63 K)) (lay_MutableBigInteger K) A2 pf0 rfl rfl S2 (by first | exact ⟨A0, S0⟩ | exact ⟨A1, S1⟩ | exact ⟨A2, S2⟩ | exact ⟨A3, S3⟩ | exact ⟨A4, S4⟩ | exact ⟨A5, S5⟩ | exact ⟨A6, S6⟩ | exact ⟨A7, S7⟩) ?_
  refine W_aloadN d13_9 (pc' := 10) rfl A0 rfl ?_
  refine W_iconst d13_10 (pc' := 11) (v := 1) rfl (by decide) ?_
  refine W_newarrayX d13_11 (pc' := 13) rfl (w92 K) (k := 1) (cap := 1) (ty := .int) (vs := List.replicate (1) (.int 0)) (Ix.lit rfl) rfl (ad := "[I") (by decide +kernel) (by first | decide | omega) (by decide) rfl (by decide) (by first | decide | (dsimp only; omega) | omega) (fun t => ?_)
  refine W_putfield d13_13 (pc' := 16) rfl (w81 K) Via.refl (Or.inl (w82 K)) (lay_MutableBigInteger K) A0 pf1 rfl rfl S0 (by first | exact ⟨A0, S0⟩ | exact ⟨A1, S1⟩ | exact ⟨A2, S2⟩ | exact ⟨A3, S3⟩ | exact ⟨A4, S4⟩ | exact ⟨A5, S5⟩ | exact ⟨A6, S6⟩ | exact ⟨A7, S7⟩) ?_
  refine W_aloadN d13_16 (pc' := 17) rfl A0 rfl ?_
  refine W_iconst d13_17 (pc' := 18) (v := 0) rfl (by decide) ?_
  refine W_putfield d13_18 (pc' := 21) rfl (w66 K) Via.refl (Or.inl (w67 K)) (lay_MutableBigInteger K) A1 pf0 rfl rfl S1 (by first | exact ⟨A0, S0⟩ | exact ⟨A1, S1⟩ | exact ⟨A2, S2⟩ | exact ⟨A3, S3⟩ | exact ⟨A4, S4⟩ | exact ⟨A5, S5⟩ | exact ⟨A6, S6⟩ | exact ⟨A7, S7⟩) ?_
  refine W_focus (a := u) (by first | exact ⟨A0, E0⟩ | exact ⟨A1, E1⟩ | exact ⟨A2, E2⟩ | exact ⟨A3, E3⟩ | exact ⟨A4, E4⟩ | exact ⟨A5, E5⟩ | exact ⟨A6, E6⟩ | exact ⟨A7, E7⟩) ?_
  exact W_return d13_21 rfl (by first | decide | (dsimp only; omega) | omega) (by first | decide | (dsimp only; omega) | omega) ⟨t, rfl, rfl⟩
theorem bg125 {l : Launch} {Z : State} {a0 : Array Value} (K : Ok Z a0) {u tu w tw rr tr t8 : Addr} {x s1 uo ts : Int32} {vs : List Value} {s10 s11 s12 : Slot} {F : List Atom} {Q : Option Value → List Atom → Prop} {r : Run} (hx : x ≠ 0) (h11 : ok1 s11 = true) (h12 : ok1 s12 = true) (hr : Q (some (.ref rr)) ((true, rr, IsObj Z "java/math/MutableBigInteger" fl_MutableBigInteger [.ref tr, .int 1, .int 0]) :: (true, tr, IsArrX Z "[I" .int [.int 1]) :: F)) :
    WP l ({ frames := 3, cells := 2, slots := 4, locals := 42 } : Room) Z a0 EL "java/math/MutableBigInteger" "binaryGCD" jdk_2101_method_73_code 13 (some (.object "java/math/MutableBigInteger")) Q r 2 4 ((true, rr, IsObj Z "java/math/MutableBigInteger" fl_MutableBigInteger [.ref tr, .int 0, .int 0]) :: (true, tr, IsArrX Z "[I" .int [.int 0]) :: (true, u, IsObj Z "java/math/MutableBigInteger" fl_MutableBigInteger [.ref tu, .int 1, .int 0]) :: (true, tu, IsArrX Z "[I" .int (.int x :: vs)) :: (true, w, IsObj Z "java/math/MutableBigInteger" fl_MutableBigInteger [.ref tw, .int 1, .int 0]) :: (true, tw, IsArrX Z "[I" .int [.int 1]) :: F) 125 [.val (.ref u), .val (.ref w), .val (.ref u), .val (.ref rr), .val (.int s1), .val (.int 0), .val (.int 0), .val (.int uo), .val (.ref t8), .val (.int ts), s10, s11, s12] [] := by
  refine W_aloadN d14_125 (pc' := 126) rfl A2 rfl ?_
  refine W_getfield d14_126 (pc' := 129) rfl (w66 K) Via.refl (by first | assumption | exact A0 | exact A1 | exact A2 | exact A3 | exact A4 | exact A5 | exact A6 | exact A7 | exact Tl1 ‹_› | exact Tl2 ‹_› | exact Tl3 ‹_› | exact Tl4 ‹_› | exact Tl5 ‹_› | exact Tl6 ‹_› | exact Tl7 ‹_› | exact Tl8 ‹_›) A1 A1 ?_
  refine W_iconst d14_129 (pc' := 130) (v := 2) rfl (by decide) ?_
  refine W_icmp_ge_F d14_130 (pc' := 133) rfl (by decide) ?_
  refine W_aloadN d14_133 (pc' := 134) rfl A1 rfl ?_
  refine W_getfield d14_134 (pc' := 137) rfl (w66 K) Via.refl (by first | assumption | exact A0 | exact A1 | exact A2 | exact A3 | exact A4 | exact A5 | exact A6 | exact A7 | exact Tl1 ‹_› | exact Tl2 ‹_› | exact Tl3 ‹_› | exact Tl4 ‹_› | exact Tl5 ‹_› | exact Tl6 ‹_› | exact Tl7 ‹_› | exact Tl8 ‹_›) A1 A1 ?_
  refine W_iconst d14_137 (pc' := 138) (v := 2) rfl (by decide) ?_
  refine W_icmp_ge_F d14_138 (pc' := 141) rfl (by decide) ?_
  refine W_aloadN d14_141 (pc' := 142) rfl A2 rfl ?_
  refine W_getfield d14_142 (pc' := 145) rfl (w81 K) Via.refl (by first | assumption | exact A0 | exact A1 | exact A2 | exact A3 | exact A4 | exact A5 | exact A6 | exact A7 | exact Tl1 ‹_› | exact Tl2 ‹_› | exact Tl3 ‹_› | exact Tl4 ‹_› | exact Tl5 ‹_› | exact Tl6 ‹_› | exact Tl7 ‹_› | exact Tl8 ‹_›) A0 A0 ?_
  refine W_aloadN d14_145 (pc' := 146) rfl A2 rfl ?_
  refine W_getfield d14_146 (pc' := 149) rfl (w62 K) Via.refl (by first | assumption | exact A0 | exact A1 | exact A2 | exact A3 | exact A4 | exact A5 | exact A6 | exact A7 | exact Tl1 ‹_› | exact Tl2 ‹_› | exact Tl3 ‹_› | exact Tl4 ‹_› | exact Tl5 ‹_› | exact Tl6 ‹_› | exact Tl7 ‹_› | exact Tl8 ‹_›) A2 A2 ?_
  refine W_ialoadX d14_149 (pc' := 150) rfl (k := 0) (Ix.lit rfl) A3 A0 ?_
  refine W_istore d14_150 (pc' := 152) rfl A11 h11 S11 ?_
  refine W_aloadN d14_152 (pc' := 153) rfl A1 rfl ?_
  refine W_getfield d14_153 (pc' := 156) rfl (w81 K) Via.refl (by first | assumption | exact A0 | exact A1 | exact A2 | exact A3 | exact A4 | exact A5 | exact A6 | exact A7 | exact Tl1 ‹_› | exact Tl2 ‹_› | exact Tl3 ‹_› | exact Tl4 ‹_› | exact Tl5 ‹_› | exact Tl6 ‹_› | exact Tl7 ‹_› | exact Tl8 ‹_›) A0 A0 ?_
  refine W_aloadN d14_156 (pc' := 157) rfl A1 rfl ?_
  refine W_getfield d14_157 (pc' := 160) rfl (w62 K) Via.refl (by first | assumption | exact A0 | exact A1 | exact A2 | exact A3 | exact A4 | exact A5 | exact A6 | exact A7 | exact Tl1 ‹_› | exact Tl2 ‹_› | exact Tl3 ‹_› | exact Tl4 ‹_› | exact Tl5 ‹_› | exact Tl6 ‹_› | exact Tl7 ‹_› | exact Tl8 ‹_›) A2 A2 ?_
  refine W_ialoadX d14_160 (pc' := 161) rfl (k := 0) (Ix.lit rfl) A5 A0 ?_
  refine W_istore d14_161 (pc' := 163) rfl A12 h12 S12 ?_
  refine W_iload d14_163 (pc' := 165) rfl A11 ?_
  refine W_iload d14_165 (pc' := 167) rfl A12 ?_
  refine W_static d14_167 (pc' := 170) rfl rfl (w116 K) (w117 K) (w56 K) (w118 K) (by decide) (m_bg K hx) ar4 rfl (by decide) (Nat.le_of_ble_eq_true rfl) (by first | decide | (dsimp only; omega) | omega) (by first | decide | (dsimp only; omega) | omega) ?_
  rintro _ _ ⟨rfl, rfl⟩
  simp only [Option.toList_some, Option.toList_none, List.cons_append, List.nil_append]
  refine W_istore d14_170 (pc' := 172) rfl A11 rfl S11 ?_
  refine W_aloadN d14_172 (pc' := 173) rfl A3 rfl ?_
  refine W_getfield d14_173 (pc' := 176) rfl (w81 K) Via.refl (by first | assumption | exact A0 | exact A1 | exact A2 | exact A3 | exact A4 | exact A5 | exact A6 | exact A7 | exact Tl1 ‹_› | exact Tl2 ‹_› | exact Tl3 ‹_› | exact Tl4 ‹_› | exact Tl5 ‹_› | exact Tl6 ‹_› | exact Tl7 ‹_› | exact Tl8 ‹_›) A0 A0 ?_
  refine W_iconst d14_176 (pc' := 177) (v := 0) rfl (by decide) ?_
  refine W_iload d14_177 (pc' := 179) rfl A11 ?_
  refine W_iastoreX d14_179 (pc' := 180) rfl (k := 0) (Ix.lit rfl) (lt_ble rfl) S0 (by first | exact ⟨A0, S0⟩ | exact ⟨A1, S1⟩ | exact ⟨A2, S2⟩ | exact ⟨A3, S3⟩ | exact ⟨A4, S4⟩ | exact ⟨A5, S5⟩ | exact ⟨A6, S6⟩ | exact ⟨A7, S7⟩) ?_
  refine W_aloadN d14_180 (pc' := 181) rfl A3 rfl ?_
  refine W_iconst d14_181 (pc' := 182) (v := 1) rfl (by decide) ?_
  refine W_putfield d14_182 (pc' := 185) rfl (w66 K) Via.refl (Or.inl (w67 K)) (lay_MutableBigInteger K) A1 pf0 rfl rfl S1 (by first | exact ⟨A0, S0⟩ | exact ⟨A1, S1⟩ | exact ⟨A2, S2⟩ | exact ⟨A3, S3⟩ | exact ⟨A4, S4⟩ | exact ⟨A5, S5⟩ | exact ⟨A6, S6⟩ | exact ⟨A7, S7⟩) ?_
  refine W_aloadN d14_185 (pc' := 186) rfl A3 rfl ?_
  refine W_iconst d14_186 (pc' := 187) (v := 0) rfl (by decide) ?_
  refine W_putfield d14_187 (pc' := 190) rfl (w62 K) Via.refl (Or.inl (w63 K)) (lay_MutableBigInteger K) A2 pf0 rfl rfl S2 (by first | exact ⟨A0, S0⟩ | exact ⟨A1, S1⟩ | exact ⟨A2, S2⟩ | exact ⟨A3, S3⟩ | exact ⟨A4, S4⟩ | exact ⟨A5, S5⟩ | exact ⟨A6, S6⟩ | exact ⟨A7, S7⟩) ?_
  refine W_iload d14_190 (pc' := 192) rfl A6 ?_
  refine W_if_le_T d14_192 (pc' := 201) (by decide) (by decide) (by decide) ?_
  refine W_aloadN d14_201 (pc' := 202) rfl A3 rfl ?_
  refine W_focus (a := u) (by first | exact ⟨A0, E0⟩ | exact ⟨A1, E1⟩ | exact ⟨A2, E2⟩ | exact ⟨A3, E3⟩ | exact ⟨A4, E4⟩ | exact ⟨A5, E5⟩ | exact ⟨A6, E6⟩ | exact ⟨A7, E7⟩) (W_drop (W_focus (a := tu) (by first | exact ⟨A0, E0⟩ | exact ⟨A1, E1⟩ | exact ⟨A2, E2⟩ | exact ⟨A3, E3⟩ | exact ⟨A4, E4⟩ | exact ⟨A5, E5⟩ | exact ⟨A6, E6⟩ | exact ⟨A7, E7⟩) (W_drop (W_focus (a := w) (by first | exact ⟨A0, E0⟩ | exact ⟨A1, E1⟩ | exact ⟨A2, E2⟩ | exact ⟨A3, E3⟩ | exact ⟨A4, E4⟩ | exact ⟨A5, E5⟩ | exact ⟨A6, E6⟩ | exact ⟨A7, E7⟩) (W_drop (W_focus (a := tw) (by first | exact ⟨A0, E0⟩ | exact ⟨A1, E1⟩ | exact ⟨A2, E2⟩ | exact ⟨A3, E3⟩ | exact ⟨A4, E4⟩ | exact ⟨A5, E5⟩ | exact ⟨A6, E6⟩ | exact ⟨A7, E7⟩) (W_drop ?_)))))))
  exact W_areturn d14_202 rfl rfl rfl rfl (by first | decide | (dsimp only; omega) | omega) (by first | decide | (dsimp only; omega) | omega) hr
theorem bg93 {l : Launch} {Z : State} {a0 : Array Value} (K : Ok Z a0) {u tu w tw rr tr : Addr} {s1 uo : Int32} {F : List Atom} {Q : Option Value → List Atom → Prop} {r : Run} (hr : Q (some (.ref rr)) ((true, rr, IsObj Z "java/math/MutableBigInteger" fl_MutableBigInteger [.ref tr, .int 1, .int 0]) :: (true, tr, IsArrX Z "[I" .int [.int 1]) :: F)) :
    ∀ (B : Nat) (h l' : Int32) (s10 s11 s12 : Slot), v2 h l' ≤ B → h ≠ 0 → v2 h l' % 2 = 0 → ok1 s10 = true → ok1 s11 = true → ok1 s12 = true → WP l ({ frames := 3, cells := 2, slots := 4, locals := 42 } : Room) Z a0 EL "java/math/MutableBigInteger" "binaryGCD" jdk_2101_method_73_code 13 (some (.object "java/math/MutableBigInteger")) Q r 2 4 ((true, rr, IsObj Z "java/math/MutableBigInteger" fl_MutableBigInteger [.ref tr, .int 0, .int 0]) :: (true, tr, IsArrX Z "[I" .int [.int 0]) :: (true, u, IsObj Z "java/math/MutableBigInteger" fl_MutableBigInteger [.ref tu, .int 2, .int 0]) :: (true, tu, IsArrX Z "[I" .int [.int h, .int l']) :: (true, w, IsObj Z "java/math/MutableBigInteger" fl_MutableBigInteger [.ref tw, .int 1, .int 0]) :: (true, tw, IsArrX Z "[I" .int [.int 1]) :: F) 93 [.val (.ref u), .val (.ref w), .val (.ref u), .val (.ref rr), .val (.int s1), .val (.int 0), .val (.int 0), .val (.int uo), .val (.ref u), .val (.int 1), s10, s11, s12] [] := by
  intro B
  induction B with
  | zero => intro h l' s10 s11 s12 hB hh; have := v2_pos (l := l') hh; omega
  | succ B ih =>
    intro h l' s10 s11 s12 hB hh hev h10 h11 h12
    obtain ⟨e, he, hhb⟩ := hb_ex 32 (uv h) (uv_pos hh) (uv_lt _)
    refine W_aload d14_93 (pc' := 95) rfl A8 rfl ?_
    by_cases ql : l' = 0
    · subst ql
      obtain ⟨k, hk, hb⟩ := lb_ex 32 (uv h) (uv_pos hh) (uv_lt _)
      refine W_virtual d14_95 (pc' := 98) rfl rfl (w102 K) (decl_of (w103 K) (w106 K)) (NF.sel (w105 K)) (w105 K) (w103 K) (w56 K) (w106 K) (by decide) (m_glsb3 K A2 A3 hh hk hb) ar5 rfl (by first | assumption | exact A0 | exact A1 | exact A2 | exact A3 | exact A4 | exact A5 | exact A6 | exact A7 | exact Tl1 ‹_› | exact Tl2 ‹_› | exact Tl3 ‹_› | exact Tl4 ‹_› | exact Tl5 ‹_› | exact Tl6 ‹_› | exact Tl7 ‹_› | exact Tl8 ‹_›) (by decide) (Nat.le_of_ble_eq_true rfl) (by first | decide | (dsimp only; omega) | omega) (by first | decide | (dsimp only; omega) | omega) ?_
      rintro _ _ ⟨rfl, rfl⟩
      simp only [Option.toList_some, Option.toList_none, List.cons_append, List.nil_append]
      refine W_dup d14_98 (pc' := 99) rfl rfl ?_
      refine W_istore d14_99 (pc' := 101) rfl A10 h10 S10 ?_
      refine W_if_lt_F d14_101 (pc' := 104) rfl (Ix.of (by omega : 32 + k < 2147483648)).nn ?_
      refine W_aload d14_104 (pc' := 106) rfl A8 rfl ?_
      refine W_iload d14_106 (pc' := 108) rfl A10 ?_
      refine W_focus (a := tu) (by first | exact ⟨A0, E0⟩ | exact ⟨A1, E1⟩ | exact ⟨A2, E2⟩ | exact ⟨A3, E3⟩ | exact ⟨A4, E4⟩ | exact ⟨A5, E5⟩ | exact ⟨A6, E6⟩ | exact ⟨A7, E7⟩) (W_focus (a := u) (by first | exact ⟨A0, E0⟩ | exact ⟨A1, E1⟩ | exact ⟨A2, E2⟩ | exact ⟨A3, E3⟩ | exact ⟨A4, E4⟩ | exact ⟨A5, E5⟩ | exact ⟨A6, E6⟩ | exact ⟨A7, E7⟩) ?_)
      rcases Nat.eq_zero_or_pos k with q0 | q0
      · subst q0
        refine W_virtual d14_108 (pc' := 111) rfl rfl (w111 K) (w112 K) (NF.sel (w114 K)) (w114 K) (w113 K) (w56 K) (w115 K) (by decide) (m_rsh2C K) ar1 rfl (by first | assumption | exact A0 | exact A1 | exact A2 | exact A3 | exact A4 | exact A5 | exact A6 | exact A7 | exact Tl1 ‹_› | exact Tl2 ‹_› | exact Tl3 ‹_› | exact Tl4 ‹_› | exact Tl5 ‹_› | exact Tl6 ‹_› | exact Tl7 ‹_› | exact Tl8 ‹_›) (by decide) (Nat.le_of_ble_eq_true rfl) (by first | decide | (dsimp only; omega) | omega) (by first | decide | (dsimp only; omega) | omega) ?_
        rintro _ _ ⟨rfl, rfl⟩
        simp only [Option.toList_some, Option.toList_none, List.cons_append, List.nil_append]
        refine W_focus (a := tw) (by first | exact ⟨A0, E0⟩ | exact ⟨A1, E1⟩ | exact ⟨A2, E2⟩ | exact ⟨A3, E3⟩ | exact ⟨A4, E4⟩ | exact ⟨A5, E5⟩ | exact ⟨A6, E6⟩ | exact ⟨A7, E7⟩) (W_focus (a := w) (by first | exact ⟨A0, E0⟩ | exact ⟨A1, E1⟩ | exact ⟨A2, E2⟩ | exact ⟨A3, E3⟩ | exact ⟨A4, E4⟩ | exact ⟨A5, E5⟩ | exact ⟨A6, E6⟩ | exact ⟨A7, E7⟩) (W_focus (a := tu) (by first | exact ⟨A0, E0⟩ | exact ⟨A1, E1⟩ | exact ⟨A2, E2⟩ | exact ⟨A3, E3⟩ | exact ⟨A4, E4⟩ | exact ⟨A5, E5⟩ | exact ⟨A6, E6⟩ | exact ⟨A7, E7⟩) (W_focus (a := u) (by first | exact ⟨A0, E0⟩ | exact ⟨A1, E1⟩ | exact ⟨A2, E2⟩ | exact ⟨A3, E3⟩ | exact ⟨A4, E4⟩ | exact ⟨A5, E5⟩ | exact ⟨A6, E6⟩ | exact ⟨A7, E7⟩) (W_focus (a := tr) (by first | exact ⟨A0, E0⟩ | exact ⟨A1, E1⟩ | exact ⟨A2, E2⟩ | exact ⟨A3, E3⟩ | exact ⟨A4, E4⟩ | exact ⟨A5, E5⟩ | exact ⟨A6, E6⟩ | exact ⟨A7, E7⟩) (W_focus (a := rr) (by first | exact ⟨A0, E0⟩ | exact ⟨A1, E1⟩ | exact ⟨A2, E2⟩ | exact ⟨A3, E3⟩ | exact ⟨A4, E4⟩ | exact ⟨A5, E5⟩ | exact ⟨A6, E6⟩ | exact ⟨A7, E7⟩) ?_)))))
        refine W_iload d14_111 (pc' := 113) rfl A9 ?_
        refine W_if_le_F d14_113 (pc' := 116) rfl (by decide) ?_
        refine W_aload d14_116 (pc' := 118) rfl A8 rfl ?_
        refine W_astoreN d14_118 (pc' := 119) rfl A2 rfl rfl S2 ?_
        refine W_goto d14_119 (pc' := 125) (by decide) (by decide) ?_
        exact bg125 K hh h11 h12 hr
      · refine W_virtual d14_108 (pc' := 111) rfl rfl (w111 K) (w112 K) (NF.sel (w114 K)) (w114 K) (w113 K) (w56 K) (w115 K) (by decide) (m_rsh2D K q0 hk he hhb (lb_le hb hhb)) ar1 rfl (by first | assumption | exact A0 | exact A1 | exact A2 | exact A3 | exact A4 | exact A5 | exact A6 | exact A7 | exact Tl1 ‹_› | exact Tl2 ‹_› | exact Tl3 ‹_› | exact Tl4 ‹_› | exact Tl5 ‹_› | exact Tl6 ‹_› | exact Tl7 ‹_› | exact Tl8 ‹_›) (by decide) (Nat.le_of_ble_eq_true rfl) (by first | decide | (dsimp only; omega) | omega) (by first | decide | (dsimp only; omega) | omega) ?_
        rintro _ _ ⟨rfl, rfl⟩
        simp only [Option.toList_some, Option.toList_none, List.cons_append, List.nil_append]
        refine W_focus (a := tw) (by first | exact ⟨A0, E0⟩ | exact ⟨A1, E1⟩ | exact ⟨A2, E2⟩ | exact ⟨A3, E3⟩ | exact ⟨A4, E4⟩ | exact ⟨A5, E5⟩ | exact ⟨A6, E6⟩ | exact ⟨A7, E7⟩) (W_focus (a := w) (by first | exact ⟨A0, E0⟩ | exact ⟨A1, E1⟩ | exact ⟨A2, E2⟩ | exact ⟨A3, E3⟩ | exact ⟨A4, E4⟩ | exact ⟨A5, E5⟩ | exact ⟨A6, E6⟩ | exact ⟨A7, E7⟩) (W_focus (a := tu) (by first | exact ⟨A0, E0⟩ | exact ⟨A1, E1⟩ | exact ⟨A2, E2⟩ | exact ⟨A3, E3⟩ | exact ⟨A4, E4⟩ | exact ⟨A5, E5⟩ | exact ⟨A6, E6⟩ | exact ⟨A7, E7⟩) (W_focus (a := u) (by first | exact ⟨A0, E0⟩ | exact ⟨A1, E1⟩ | exact ⟨A2, E2⟩ | exact ⟨A3, E3⟩ | exact ⟨A4, E4⟩ | exact ⟨A5, E5⟩ | exact ⟨A6, E6⟩ | exact ⟨A7, E7⟩) (W_focus (a := tr) (by first | exact ⟨A0, E0⟩ | exact ⟨A1, E1⟩ | exact ⟨A2, E2⟩ | exact ⟨A3, E3⟩ | exact ⟨A4, E4⟩ | exact ⟨A5, E5⟩ | exact ⟨A6, E6⟩ | exact ⟨A7, E7⟩) (W_focus (a := rr) (by first | exact ⟨A0, E0⟩ | exact ⟨A1, E1⟩ | exact ⟨A2, E2⟩ | exact ⟨A3, E3⟩ | exact ⟨A4, E4⟩ | exact ⟨A5, E5⟩ | exact ⟨A6, E6⟩ | exact ⟨A7, E7⟩) ?_)))))
        refine W_iload d14_111 (pc' := 113) rfl A9 ?_
        refine W_if_le_F d14_113 (pc' := 116) rfl (by decide) ?_
        refine W_aload d14_116 (pc' := 118) rfl A8 rfl ?_
        refine W_astoreN d14_118 (pc' := 119) rfl A2 rfl rfl S2 ?_
        refine W_goto d14_119 (pc' := 125) (by decide) (by decide) ?_
        exact bg125 K (nz_of (by rw [ushr_lb hk]; exact lb_pos hb)) h11 h12 hr
    · obtain ⟨k, hk, hb⟩ := lb_ex 32 (uv l') (uv_pos ql) (uv_lt _)
      have hk0 := lb_even hb (by rw [← v2_odd (h := h)]; exact hev)
      have hL := lb_low (h := h) hk hb
      refine W_virtual d14_95 (pc' := 98) rfl rfl (w102 K) (decl_of (w103 K) (w106 K)) (NF.sel (w105 K)) (w105 K) (w103 K) (w56 K) (w106 K) (by decide) (m_glsb2 K A2 A3 ql hk hb) ar5 rfl (by first | assumption | exact A0 | exact A1 | exact A2 | exact A3 | exact A4 | exact A5 | exact A6 | exact A7 | exact Tl1 ‹_› | exact Tl2 ‹_› | exact Tl3 ‹_› | exact Tl4 ‹_› | exact Tl5 ‹_› | exact Tl6 ‹_› | exact Tl7 ‹_› | exact Tl8 ‹_›) (by decide) (Nat.le_of_ble_eq_true rfl) (by first | decide | (dsimp only; omega) | omega) (by first | decide | (dsimp only; omega) | omega) ?_
      rintro _ _ ⟨rfl, rfl⟩
      simp only [Option.toList_some, Option.toList_none, List.cons_append, List.nil_append]
      refine W_dup d14_98 (pc' := 99) rfl rfl ?_
      refine W_istore d14_99 (pc' := 101) rfl A10 h10 S10 ?_
      refine W_if_lt_F d14_101 (pc' := 104) rfl (Ix.of (by omega : k < 2147483648)).nn ?_
      refine W_aload d14_104 (pc' := 106) rfl A8 rfl ?_
      refine W_iload d14_106 (pc' := 108) rfl A10 ?_
      refine W_focus (a := tu) (by first | exact ⟨A0, E0⟩ | exact ⟨A1, E1⟩ | exact ⟨A2, E2⟩ | exact ⟨A3, E3⟩ | exact ⟨A4, E4⟩ | exact ⟨A5, E5⟩ | exact ⟨A6, E6⟩ | exact ⟨A7, E7⟩) (W_focus (a := u) (by first | exact ⟨A0, E0⟩ | exact ⟨A1, E1⟩ | exact ⟨A2, E2⟩ | exact ⟨A3, E3⟩ | exact ⟨A4, E4⟩ | exact ⟨A5, E5⟩ | exact ⟨A6, E6⟩ | exact ⟨A7, E7⟩) ?_)
      by_cases qe : k ≤ e
      · refine W_virtual d14_108 (pc' := 111) rfl rfl (w111 K) (w112 K) (NF.sel (w114 K)) (w114 K) (w113 K) (w56 K) (w115 K) (by decide) (m_rsh2A K hk0 hk he hhb qe) ar1 rfl (by first | assumption | exact A0 | exact A1 | exact A2 | exact A3 | exact A4 | exact A5 | exact A6 | exact A7 | exact Tl1 ‹_› | exact Tl2 ‹_› | exact Tl3 ‹_› | exact Tl4 ‹_› | exact Tl5 ‹_› | exact Tl6 ‹_› | exact Tl7 ‹_› | exact Tl8 ‹_›) (by decide) (Nat.le_of_ble_eq_true rfl) (by first | decide | (dsimp only; omega) | omega) (by first | decide | (dsimp only; omega) | omega) ?_
        rintro _ _ ⟨rfl, rfl⟩
        simp only [Option.toList_some, Option.toList_none, List.cons_append, List.nil_append]
        refine W_focus (a := tw) (by first | exact ⟨A0, E0⟩ | exact ⟨A1, E1⟩ | exact ⟨A2, E2⟩ | exact ⟨A3, E3⟩ | exact ⟨A4, E4⟩ | exact ⟨A5, E5⟩ | exact ⟨A6, E6⟩ | exact ⟨A7, E7⟩) (W_focus (a := w) (by first | exact ⟨A0, E0⟩ | exact ⟨A1, E1⟩ | exact ⟨A2, E2⟩ | exact ⟨A3, E3⟩ | exact ⟨A4, E4⟩ | exact ⟨A5, E5⟩ | exact ⟨A6, E6⟩ | exact ⟨A7, E7⟩) (W_focus (a := tu) (by first | exact ⟨A0, E0⟩ | exact ⟨A1, E1⟩ | exact ⟨A2, E2⟩ | exact ⟨A3, E3⟩ | exact ⟨A4, E4⟩ | exact ⟨A5, E5⟩ | exact ⟨A6, E6⟩ | exact ⟨A7, E7⟩) (W_focus (a := u) (by first | exact ⟨A0, E0⟩ | exact ⟨A1, E1⟩ | exact ⟨A2, E2⟩ | exact ⟨A3, E3⟩ | exact ⟨A4, E4⟩ | exact ⟨A5, E5⟩ | exact ⟨A6, E6⟩ | exact ⟨A7, E7⟩) (W_focus (a := tr) (by first | exact ⟨A0, E0⟩ | exact ⟨A1, E1⟩ | exact ⟨A2, E2⟩ | exact ⟨A3, E3⟩ | exact ⟨A4, E4⟩ | exact ⟨A5, E5⟩ | exact ⟨A6, E6⟩ | exact ⟨A7, E7⟩) (W_focus (a := rr) (by first | exact ⟨A0, E0⟩ | exact ⟨A1, E1⟩ | exact ⟨A2, E2⟩ | exact ⟨A3, E3⟩ | exact ⟨A4, E4⟩ | exact ⟨A5, E5⟩ | exact ⟨A6, E6⟩ | exact ⟨A7, E7⟩) ?_)))))
        have hv := two_shr (h := h) (l := l') hk0 hk
        have hh' : XT.ushr h (Int32.ofNat k) ≠ 0 := nz_of (by
          rw [uv_ushr h hk0 hk]
          exact (hb_div hhb qe).1 |> Nat.lt_of_lt_of_le (Nat.pow_pos (by decide)))
        have ho := hL.2
        rw [← hv] at ho
        have hle : v2 h l' / 2 ^ k ≤ v2 h l' := Nat.div_le_self _ _
        rw [← hv] at hle
        have hd0 : v2 h l' / 2 ^ k < v2 h l' := Nat.div_lt_self (by have := v2_pos (l := l') hh; omega) (Nat.one_lt_two_pow (by omega))
        rw [← hv] at hd0
        generalize XT.ushr h (Int32.ofNat k) = h' at *
        generalize h <<< (Int32.ofNat (32 - k) &&& 31) ||| XT.ushr l' (Int32.ofNat k) = m' at *
        have hm0 : 0 < uv m' := by rw [v2_odd] at ho; omega
        have hm1 := sub1_uv hm0
        refine W_iload d14_111 (pc' := 113) rfl A9 ?_
        refine W_if_le_F d14_113 (pc' := 116) rfl (by decide) ?_
        refine W_aload d14_116 (pc' := 118) rfl A8 rfl ?_
        refine W_astoreN d14_118 (pc' := 119) rfl A2 rfl rfl S2 ?_
        refine W_goto d14_119 (pc' := 125) (by decide) (by decide) ?_
        refine W_aloadN d14_125 (pc' := 126) rfl A2 rfl ?_
        refine W_getfield d14_126 (pc' := 129) rfl (w66 K) Via.refl (by first | assumption | exact A0 | exact A1 | exact A2 | exact A3 | exact A4 | exact A5 | exact A6 | exact A7 | exact Tl1 ‹_› | exact Tl2 ‹_› | exact Tl3 ‹_› | exact Tl4 ‹_› | exact Tl5 ‹_› | exact Tl6 ‹_› | exact Tl7 ‹_› | exact Tl8 ‹_›) A1 A1 ?_
        refine W_iconst d14_129 (pc' := 130) (v := 2) rfl (by decide) ?_
        refine W_icmp_ge_T d14_130 (pc' := 203) (by decide) (by decide) (by decide) ?_
        refine W_aloadN d14_203 (pc' := 204) rfl A2 rfl ?_
        refine W_aloadN d14_204 (pc' := 205) rfl A1 rfl ?_
        refine W_focus (a := tu) (by first | exact ⟨A0, E0⟩ | exact ⟨A1, E1⟩ | exact ⟨A2, E2⟩ | exact ⟨A3, E3⟩ | exact ⟨A4, E4⟩ | exact ⟨A5, E5⟩ | exact ⟨A6, E6⟩ | exact ⟨A7, E7⟩) (W_focus (a := u) (by first | exact ⟨A0, E0⟩ | exact ⟨A1, E1⟩ | exact ⟨A2, E2⟩ | exact ⟨A3, E3⟩ | exact ⟨A4, E4⟩ | exact ⟨A5, E5⟩ | exact ⟨A6, E6⟩ | exact ⟨A7, E7⟩) ?_)
        refine W_virtual d14_205 (pc' := 208) rfl rfl (w262 K) (decl_of (w263 K) (w266 K)) (NF.sel (w265 K)) (w265 K) (w263 K) (w56 K) (w266 K) (by decide) (m_diff K A2 A3 hh' hm0) ar2 rfl (by first | assumption | exact A0 | exact A1 | exact A2 | exact A3 | exact A4 | exact A5 | exact A6 | exact A7 | exact Tl1 ‹_› | exact Tl2 ‹_› | exact Tl3 ‹_› | exact Tl4 ‹_› | exact Tl5 ‹_› | exact Tl6 ‹_› | exact Tl7 ‹_› | exact Tl8 ‹_›) (by decide) (Nat.le_of_ble_eq_true rfl) (by first | decide | (dsimp only; omega) | omega) (by first | decide | (dsimp only; omega) | omega) ?_
        rintro _ _ ⟨rfl, rfl⟩
        simp only [Option.toList_some, Option.toList_none, List.cons_append, List.nil_append]
        refine W_focus (a := tw) (by first | exact ⟨A0, E0⟩ | exact ⟨A1, E1⟩ | exact ⟨A2, E2⟩ | exact ⟨A3, E3⟩ | exact ⟨A4, E4⟩ | exact ⟨A5, E5⟩ | exact ⟨A6, E6⟩ | exact ⟨A7, E7⟩) (W_focus (a := w) (by first | exact ⟨A0, E0⟩ | exact ⟨A1, E1⟩ | exact ⟨A2, E2⟩ | exact ⟨A3, E3⟩ | exact ⟨A4, E4⟩ | exact ⟨A5, E5⟩ | exact ⟨A6, E6⟩ | exact ⟨A7, E7⟩) (W_focus (a := tu) (by first | exact ⟨A0, E0⟩ | exact ⟨A1, E1⟩ | exact ⟨A2, E2⟩ | exact ⟨A3, E3⟩ | exact ⟨A4, E4⟩ | exact ⟨A5, E5⟩ | exact ⟨A6, E6⟩ | exact ⟨A7, E7⟩) (W_focus (a := u) (by first | exact ⟨A0, E0⟩ | exact ⟨A1, E1⟩ | exact ⟨A2, E2⟩ | exact ⟨A3, E3⟩ | exact ⟨A4, E4⟩ | exact ⟨A5, E5⟩ | exact ⟨A6, E6⟩ | exact ⟨A7, E7⟩) (W_focus (a := tr) (by first | exact ⟨A0, E0⟩ | exact ⟨A1, E1⟩ | exact ⟨A2, E2⟩ | exact ⟨A3, E3⟩ | exact ⟨A4, E4⟩ | exact ⟨A5, E5⟩ | exact ⟨A6, E6⟩ | exact ⟨A7, E7⟩) (W_focus (a := rr) (by first | exact ⟨A0, E0⟩ | exact ⟨A1, E1⟩ | exact ⟨A2, E2⟩ | exact ⟨A3, E3⟩ | exact ⟨A4, E4⟩ | exact ⟨A5, E5⟩ | exact ⟨A6, E6⟩ | exact ⟨A7, E7⟩) ?_)))))
        refine W_dup d14_208 (pc' := 209) rfl rfl ?_
        refine W_istore d14_209 (pc' := 211) rfl A9 rfl S9 ?_
        refine W_if_ne_T d14_211 (pc' := 217) (by decide) (by decide) (by decide) ?_
        refine W_iload d14_217 (pc' := 219) rfl A9 ?_
        refine W_if_lt_F d14_219 (pc' := 222) rfl (by decide) ?_
        refine W_aloadN d14_222 (pc' := 223) rfl A2 rfl ?_
        refine W_goto d14_223 (pc' := 227) (by decide) (by decide) ?_
        refine W_astore d14_227 (pc' := 229) rfl A8 rfl rfl S8 ?_
        refine W_goto d14_229 (pc' := 93) (by decide) (by decide) ?_
        exact ih h' (m' - 1) _ _ _ (by rw [v2_sub1 hm0]; omega) hh' (by rw [v2_odd, hm1]; rw [v2_odd] at ho; omega) rfl h11 h12
      · refine W_virtual d14_108 (pc' := 111) rfl rfl (w111 K) (w112 K) (NF.sel (w114 K)) (w114 K) (w113 K) (w56 K) (w115 K) (by decide) (m_rsh2B K hk0 hk he hhb qe) ar1 rfl (by first | assumption | exact A0 | exact A1 | exact A2 | exact A3 | exact A4 | exact A5 | exact A6 | exact A7 | exact Tl1 ‹_› | exact Tl2 ‹_› | exact Tl3 ‹_› | exact Tl4 ‹_› | exact Tl5 ‹_› | exact Tl6 ‹_› | exact Tl7 ‹_› | exact Tl8 ‹_›) (by decide) (Nat.le_of_ble_eq_true rfl) (by first | decide | (dsimp only; omega) | omega) (by first | decide | (dsimp only; omega) | omega) ?_
        rintro _ _ ⟨y, rfl, rfl⟩
        simp only [Option.toList_some, Option.toList_none, List.cons_append, List.nil_append]
        refine W_focus (a := tw) (by first | exact ⟨A0, E0⟩ | exact ⟨A1, E1⟩ | exact ⟨A2, E2⟩ | exact ⟨A3, E3⟩ | exact ⟨A4, E4⟩ | exact ⟨A5, E5⟩ | exact ⟨A6, E6⟩ | exact ⟨A7, E7⟩) (W_focus (a := w) (by first | exact ⟨A0, E0⟩ | exact ⟨A1, E1⟩ | exact ⟨A2, E2⟩ | exact ⟨A3, E3⟩ | exact ⟨A4, E4⟩ | exact ⟨A5, E5⟩ | exact ⟨A6, E6⟩ | exact ⟨A7, E7⟩) (W_focus (a := tu) (by first | exact ⟨A0, E0⟩ | exact ⟨A1, E1⟩ | exact ⟨A2, E2⟩ | exact ⟨A3, E3⟩ | exact ⟨A4, E4⟩ | exact ⟨A5, E5⟩ | exact ⟨A6, E6⟩ | exact ⟨A7, E7⟩) (W_focus (a := u) (by first | exact ⟨A0, E0⟩ | exact ⟨A1, E1⟩ | exact ⟨A2, E2⟩ | exact ⟨A3, E3⟩ | exact ⟨A4, E4⟩ | exact ⟨A5, E5⟩ | exact ⟨A6, E6⟩ | exact ⟨A7, E7⟩) (W_focus (a := tr) (by first | exact ⟨A0, E0⟩ | exact ⟨A1, E1⟩ | exact ⟨A2, E2⟩ | exact ⟨A3, E3⟩ | exact ⟨A4, E4⟩ | exact ⟨A5, E5⟩ | exact ⟨A6, E6⟩ | exact ⟨A7, E7⟩) (W_focus (a := rr) (by first | exact ⟨A0, E0⟩ | exact ⟨A1, E1⟩ | exact ⟨A2, E2⟩ | exact ⟨A3, E3⟩ | exact ⟨A4, E4⟩ | exact ⟨A5, E5⟩ | exact ⟨A6, E6⟩ | exact ⟨A7, E7⟩) ?_)))))
        have hm := mid_uv (h := h) (l := l') hk0 hk
        have ho := hL.2
        refine W_iload d14_111 (pc' := 113) rfl A9 ?_
        refine W_if_le_F d14_113 (pc' := 116) rfl (by decide) ?_
        refine W_aload d14_116 (pc' := 118) rfl A8 rfl ?_
        refine W_astoreN d14_118 (pc' := 119) rfl A2 rfl rfl S2 ?_
        refine W_goto d14_119 (pc' := 125) (by decide) (by decide) ?_
        exact bg125 K (nz_of (by rw [hm]; omega)) h11 h12 hr
theorem m_bgcd1 {l : Launch} {Z : State} {a0 : Array Value} (K : Ok Z a0) {u tu w tw : Addr} {x : Int32} {F : List Atom} (hx : x ≠ 0) :
    Meth l Z a0 EL (⟨"java/math/MutableBigInteger", "binaryGCD", "(Ljava/math/MutableBigInteger;)Ljava/math/MutableBigInteger;"⟩ : MethodName) jdk_2101_method_73_code 13 (some (.object "java/math/MutableBigInteger")) ({ frames := 3, cells := 2, slots := 4, locals := 42 } : Room) [.ref u, .ref w] ((true, u, IsObj Z "java/math/MutableBigInteger" fl_MutableBigInteger [.ref tu, .int 1, .int 0]) :: (true, tu, IsArrX Z "[I" .int [.int x]) :: (true, w, IsObj Z "java/math/MutableBigInteger" fl_MutableBigInteger [.ref tw, .int 1, .int 0]) :: (true, tw, IsArrX Z "[I" .int [.int 1]) :: F) (fun v L' => ∃ rr tr, v = some (.ref rr) ∧ L' = (true, rr, IsObj Z "java/math/MutableBigInteger" fl_MutableBigInteger [.ref tr, .int 1, .int 0]) :: (true, tr, IsArrX Z "[I" .int [.int 1]) :: F) := by
  obtain ⟨k, hk, hb⟩ := lb_ex 32 (uv x) (uv_pos hx) (uv_lt _)
  obtain ⟨e, he, hhb⟩ := hb_ex 32 (uv x) (uv_pos hx) (uv_lt _)
  refine MethW.of_wp (Ls := [.val (.ref u), .val (.ref w), .unset, .unset, .unset, .unset, .unset, .unset, .unset, .unset, .unset, .unset, .unset]) (plainFor_of_name pn2) (EWof K) (by first | rfl | (simp [argsToLocals, Value.category]; done)) (fun r => ?_)
  show WP _ _ _ _ _ _ _ _ _ _ _ _ _ _ _ _ _ _
  refine W_aloadN d14_0 (pc' := 1) rfl A0 rfl ?_
  refine W_astoreN d14_1 (pc' := 2) rfl A2 rfl rfl S2 ?_
  refine W_new d14_2 (pc' := 5) rfl (w88 K) (w55 K) (w56 K) (lay_MutableBigInteger K) df_MutableBigInteger (by decide) (by decide) (fun rr => ?_)
  refine W_dup d14_5 (pc' := 6) rfl rfl ?_
  refine W_special d14_6 (pc' := 9) rfl rfl rfl (w89 K) (w90 K) (w56 K) (w91 K) (by decide) (m_mbi0 K) ar3 rfl (by decide) (Nat.le_of_ble_eq_true rfl) (by first | decide | (dsimp only; omega) | omega) (by first | decide | (dsimp only; omega) | omega) ?_
  rintro _ _ ⟨tr, rfl, rfl⟩
  simp only [Option.toList_some, Option.toList_none, List.cons_append, List.nil_append]
  refine W_astoreN d14_9 (pc' := 10) rfl A3 rfl rfl S3 ?_
  refine W_aloadN d14_10 (pc' := 11) rfl A2 rfl ?_
  refine W_virtual d14_11 (pc' := 14) rfl rfl (w102 K) (decl_of (w103 K) (w106 K)) (NF.sel (w105 K)) (w105 K) (w103 K) (w56 K) (w106 K) (by decide) (m_glsb1 K A2 A3 A0 hx hk hb) ar5 rfl (by first | assumption | exact A0 | exact A1 | exact A2 | exact A3 | exact A4 | exact A5 | exact A6 | exact A7 | exact Tl1 ‹_› | exact Tl2 ‹_› | exact Tl3 ‹_› | exact Tl4 ‹_› | exact Tl5 ‹_› | exact Tl6 ‹_› | exact Tl7 ‹_› | exact Tl8 ‹_›) (by decide) (Nat.le_of_ble_eq_true rfl) (by first | decide | (dsimp only; omega) | omega) (by first | decide | (dsimp only; omega) | omega) ?_
  rintro _ _ ⟨rfl, rfl⟩
  simp only [Option.toList_some, Option.toList_none, List.cons_append, List.nil_append]
  refine W_istore d14_14 (pc' := 16) rfl A4 rfl S4 ?_
  refine W_aloadN d14_16 (pc' := 17) rfl A1 rfl ?_
  refine W_virtual d14_17 (pc' := 20) rfl rfl (w102 K) (decl_of (w103 K) (w106 K)) (NF.sel (w105 K)) (w105 K) (w103 K) (w56 K) (w106 K) (by decide) (m_glsb1 K (k := 0) A4 A5 A0 (by decide) (by decide) (lb_zero (by decide))) ar5 rfl (by first | assumption | exact A0 | exact A1 | exact A2 | exact A3 | exact A4 | exact A5 | exact A6 | exact A7 | exact Tl1 ‹_› | exact Tl2 ‹_› | exact Tl3 ‹_› | exact Tl4 ‹_› | exact Tl5 ‹_› | exact Tl6 ‹_› | exact Tl7 ‹_› | exact Tl8 ‹_›) (by decide) (Nat.le_of_ble_eq_true rfl) (by first | decide | (dsimp only; omega) | omega) (by first | decide | (dsimp only; omega) | omega) ?_
  rintro _ _ ⟨rfl, rfl⟩
  simp only [Option.toList_some, Option.toList_none, List.cons_append, List.nil_append]
  refine W_istore d14_20 (pc' := 22) rfl A5 rfl S5 ?_
  refine W_iload d14_22 (pc' := 24) rfl A4 ?_
  refine W_iload d14_24 (pc' := 26) rfl A5 ?_
  refine W_icmp_ge_T d14_26 (pc' := 34) (by decide) (by decide) (ofNat_nlt (Nat.zero_le _) (by omega)) ?_
  refine W_iload d14_34 (pc' := 36) rfl A5 ?_
  refine W_istore d14_36 (pc' := 38) rfl A6 rfl S6 ?_
  refine W_iload d14_38 (pc' := 40) rfl A6 ?_
  refine W_if_eq_T d14_40 (pc' := 55) (by decide) (by decide) (by decide) ?_
  refine W_iload d14_55 (pc' := 57) rfl A6 ?_
  refine W_iload d14_57 (pc' := 59) rfl A4 ?_
  rcases Nat.eq_zero_or_pos k with q0 | q0
  · subst q0
    refine W_icmp_ne_F d14_59 (pc' := 62) rfl rfl ?_
    refine W_iconst d14_62 (pc' := 63) (v := 1) rfl (by decide) ?_
    refine W_goto d14_63 (pc' := 67) (by decide) (by decide) ?_
    refine W_istore d14_67 (pc' := 69) rfl A7 rfl S7 ?_
    refine W_iload d14_69 (pc' := 71) rfl A7 ?_
    refine W_if_eq_F d14_71 (pc' := 74) rfl (by decide) ?_
    refine W_aloadN d14_74 (pc' := 75) rfl A1 rfl ?_
    refine W_goto d14_75 (pc' := 79) (by decide) (by decide) ?_
    refine W_astore d14_79 (pc' := 81) rfl A8 rfl rfl S8 ?_
    refine W_iload d14_81 (pc' := 83) rfl A7 ?_
    refine W_if_eq_F d14_83 (pc' := 86) rfl (by decide) ?_
    refine W_iconst d14_86 (pc' := 87) (v := (-1)) rfl (by decide) ?_
    refine W_goto d14_87 (pc' := 91) (by decide) (by decide) ?_
    refine W_istore d14_91 (pc' := 93) rfl A9 rfl S9 ?_
    refine W_aload d14_93 (pc' := 95) rfl A8 rfl ?_
    refine W_virtual d14_95 (pc' := 98) rfl rfl (w102 K) (decl_of (w103 K) (w106 K)) (NF.sel (w105 K)) (w105 K) (w103 K) (w56 K) (w106 K) (by decide) (m_glsb1 K (k := 0) A4 A5 A0 (by decide) (by decide) (lb_zero (by decide))) ar5 rfl (by first | assumption | exact A0 | exact A1 | exact A2 | exact A3 | exact A4 | exact A5 | exact A6 | exact A7 | exact Tl1 ‹_› | exact Tl2 ‹_› | exact Tl3 ‹_› | exact Tl4 ‹_› | exact Tl5 ‹_› | exact Tl6 ‹_› | exact Tl7 ‹_› | exact Tl8 ‹_›) (by decide) (Nat.le_of_ble_eq_true rfl) (by first | decide | (dsimp only; omega) | omega) (by first | decide | (dsimp only; omega) | omega) ?_
    rintro _ _ ⟨rfl, rfl⟩
    simp only [Option.toList_some, Option.toList_none, List.cons_append, List.nil_append]
    refine W_dup d14_98 (pc' := 99) rfl rfl ?_
    refine W_istore d14_99 (pc' := 101) rfl A10 rfl S10 ?_
    refine W_if_lt_F d14_101 (pc' := 104) rfl (by decide) ?_
    refine W_aload d14_104 (pc' := 106) rfl A8 rfl ?_
    refine W_iload d14_106 (pc' := 108) rfl A10 ?_
    refine W_focus (a := w) (by first | exact ⟨A0, E0⟩ | exact ⟨A1, E1⟩ | exact ⟨A2, E2⟩ | exact ⟨A3, E3⟩ | exact ⟨A4, E4⟩ | exact ⟨A5, E5⟩ | exact ⟨A6, E6⟩ | exact ⟨A7, E7⟩) ?_
    refine W_virtual d14_108 (pc' := 111) rfl rfl (w111 K) (w112 K) (NF.sel (w114 K)) (w114 K) (w113 K) (w56 K) (w115 K) (by decide) (m_rsh0 K (by decide)) ar1 rfl (by first | assumption | exact A0 | exact A1 | exact A2 | exact A3 | exact A4 | exact A5 | exact A6 | exact A7 | exact Tl1 ‹_› | exact Tl2 ‹_› | exact Tl3 ‹_› | exact Tl4 ‹_› | exact Tl5 ‹_› | exact Tl6 ‹_› | exact Tl7 ‹_› | exact Tl8 ‹_›) (by decide) (Nat.le_of_ble_eq_true rfl) (by first | decide | (dsimp only; omega) | omega) (by first | decide | (dsimp only; omega) | omega) ?_
    rintro _ _ ⟨rfl, rfl⟩
    simp only [Option.toList_some, Option.toList_none, List.cons_append, List.nil_append]
    refine W_focus (a := tw) (by first | exact ⟨A0, E0⟩ | exact ⟨A1, E1⟩ | exact ⟨A2, E2⟩ | exact ⟨A3, E3⟩ | exact ⟨A4, E4⟩ | exact ⟨A5, E5⟩ | exact ⟨A6, E6⟩ | exact ⟨A7, E7⟩) (W_focus (a := w) (by first | exact ⟨A0, E0⟩ | exact ⟨A1, E1⟩ | exact ⟨A2, E2⟩ | exact ⟨A3, E3⟩ | exact ⟨A4, E4⟩ | exact ⟨A5, E5⟩ | exact ⟨A6, E6⟩ | exact ⟨A7, E7⟩) (W_focus (a := tu) (by first | exact ⟨A0, E0⟩ | exact ⟨A1, E1⟩ | exact ⟨A2, E2⟩ | exact ⟨A3, E3⟩ | exact ⟨A4, E4⟩ | exact ⟨A5, E5⟩ | exact ⟨A6, E6⟩ | exact ⟨A7, E7⟩) (W_focus (a := u) (by first | exact ⟨A0, E0⟩ | exact ⟨A1, E1⟩ | exact ⟨A2, E2⟩ | exact ⟨A3, E3⟩ | exact ⟨A4, E4⟩ | exact ⟨A5, E5⟩ | exact ⟨A6, E6⟩ | exact ⟨A7, E7⟩) (W_focus (a := tr) (by first | exact ⟨A0, E0⟩ | exact ⟨A1, E1⟩ | exact ⟨A2, E2⟩ | exact ⟨A3, E3⟩ | exact ⟨A4, E4⟩ | exact ⟨A5, E5⟩ | exact ⟨A6, E6⟩ | exact ⟨A7, E7⟩) (W_focus (a := rr) (by first | exact ⟨A0, E0⟩ | exact ⟨A1, E1⟩ | exact ⟨A2, E2⟩ | exact ⟨A3, E3⟩ | exact ⟨A4, E4⟩ | exact ⟨A5, E5⟩ | exact ⟨A6, E6⟩ | exact ⟨A7, E7⟩) ?_)))))
    refine W_iload d14_111 (pc' := 113) rfl A9 ?_
    refine W_if_le_T d14_113 (pc' := 122) (by decide) (by decide) (by decide) ?_
    refine W_aload d14_122 (pc' := 124) rfl A8 rfl ?_
    refine W_astoreN d14_124 (pc' := 125) rfl A1 rfl rfl S1 ?_
    exact bg125 K hx rfl rfl ⟨_, _, rfl, rfl⟩
  · have hne : ¬ Int32.ofNat 0 = Int32.ofNat k := ofNat_ne (by omega) (by decide) (by omega)
    refine W_icmp_ne_T d14_59 (pc' := 66) (by decide) (by decide) hne ?_
    refine W_iconst d14_66 (pc' := 67) (v := 0) rfl (by decide) ?_
    refine W_istore d14_67 (pc' := 69) rfl A7 rfl S7 ?_
    refine W_iload d14_69 (pc' := 71) rfl A7 ?_
    refine W_if_eq_T d14_71 (pc' := 78) (by decide) (by decide) rfl ?_
    refine W_aloadN d14_78 (pc' := 79) rfl A2 rfl ?_
    refine W_astore d14_79 (pc' := 81) rfl A8 rfl rfl S8 ?_
    refine W_iload d14_81 (pc' := 83) rfl A7 ?_
    refine W_if_eq_T d14_83 (pc' := 90) (by decide) (by decide) rfl ?_
    refine W_iconst d14_90 (pc' := 91) (v := 1) rfl (by decide) ?_
    refine W_istore d14_91 (pc' := 93) rfl A9 rfl S9 ?_
    refine W_aload d14_93 (pc' := 95) rfl A8 rfl ?_
    refine W_virtual d14_95 (pc' := 98) rfl rfl (w102 K) (decl_of (w103 K) (w106 K)) (NF.sel (w105 K)) (w105 K) (w103 K) (w56 K) (w106 K) (by decide) (m_glsb1 K A2 A3 A0 hx hk hb) ar5 rfl (by first | assumption | exact A0 | exact A1 | exact A2 | exact A3 | exact A4 | exact A5 | exact A6 | exact A7 | exact Tl1 ‹_› | exact Tl2 ‹_› | exact Tl3 ‹_› | exact Tl4 ‹_› | exact Tl5 ‹_› | exact Tl6 ‹_› | exact Tl7 ‹_› | exact Tl8 ‹_›) (by decide) (Nat.le_of_ble_eq_true rfl) (by first | decide | (dsimp only; omega) | omega) (by first | decide | (dsimp only; omega) | omega) ?_
    rintro _ _ ⟨rfl, rfl⟩
    simp only [Option.toList_some, Option.toList_none, List.cons_append, List.nil_append]
    refine W_dup d14_98 (pc' := 99) rfl rfl ?_
    refine W_istore d14_99 (pc' := 101) rfl A10 rfl S10 ?_
    refine W_if_lt_F d14_101 (pc' := 104) rfl (Ix.of (by omega : k < 2147483648)).nn ?_
    refine W_aload d14_104 (pc' := 106) rfl A8 rfl ?_
    refine W_iload d14_106 (pc' := 108) rfl A10 ?_
    refine W_focus (a := tu) (by first | exact ⟨A0, E0⟩ | exact ⟨A1, E1⟩ | exact ⟨A2, E2⟩ | exact ⟨A3, E3⟩ | exact ⟨A4, E4⟩ | exact ⟨A5, E5⟩ | exact ⟨A6, E6⟩ | exact ⟨A7, E7⟩) (W_focus (a := u) (by first | exact ⟨A0, E0⟩ | exact ⟨A1, E1⟩ | exact ⟨A2, E2⟩ | exact ⟨A3, E3⟩ | exact ⟨A4, E4⟩ | exact ⟨A5, E5⟩ | exact ⟨A6, E6⟩ | exact ⟨A7, E7⟩) ?_)
    refine W_virtual d14_108 (pc' := 111) rfl rfl (w111 K) (w112 K) (NF.sel (w114 K)) (w114 K) (w113 K) (w56 K) (w115 K) (by decide) (m_rsh1 K q0 hk he hhb (lb_le hb hhb)) ar1 rfl (by first | assumption | exact A0 | exact A1 | exact A2 | exact A3 | exact A4 | exact A5 | exact A6 | exact A7 | exact Tl1 ‹_› | exact Tl2 ‹_› | exact Tl3 ‹_› | exact Tl4 ‹_› | exact Tl5 ‹_› | exact Tl6 ‹_› | exact Tl7 ‹_› | exact Tl8 ‹_›) (by decide) (Nat.le_of_ble_eq_true rfl) (by first | decide | (dsimp only; omega) | omega) (by first | decide | (dsimp only; omega) | omega) ?_
    rintro _ _ ⟨rfl, rfl⟩
    simp only [Option.toList_some, Option.toList_none, List.cons_append, List.nil_append]
    refine W_focus (a := tw) (by first | exact ⟨A0, E0⟩ | exact ⟨A1, E1⟩ | exact ⟨A2, E2⟩ | exact ⟨A3, E3⟩ | exact ⟨A4, E4⟩ | exact ⟨A5, E5⟩ | exact ⟨A6, E6⟩ | exact ⟨A7, E7⟩) (W_focus (a := w) (by first | exact ⟨A0, E0⟩ | exact ⟨A1, E1⟩ | exact ⟨A2, E2⟩ | exact ⟨A3, E3⟩ | exact ⟨A4, E4⟩ | exact ⟨A5, E5⟩ | exact ⟨A6, E6⟩ | exact ⟨A7, E7⟩) (W_focus (a := tu) (by first | exact ⟨A0, E0⟩ | exact ⟨A1, E1⟩ | exact ⟨A2, E2⟩ | exact ⟨A3, E3⟩ | exact ⟨A4, E4⟩ | exact ⟨A5, E5⟩ | exact ⟨A6, E6⟩ | exact ⟨A7, E7⟩) (W_focus (a := u) (by first | exact ⟨A0, E0⟩ | exact ⟨A1, E1⟩ | exact ⟨A2, E2⟩ | exact ⟨A3, E3⟩ | exact ⟨A4, E4⟩ | exact ⟨A5, E5⟩ | exact ⟨A6, E6⟩ | exact ⟨A7, E7⟩) (W_focus (a := tr) (by first | exact ⟨A0, E0⟩ | exact ⟨A1, E1⟩ | exact ⟨A2, E2⟩ | exact ⟨A3, E3⟩ | exact ⟨A4, E4⟩ | exact ⟨A5, E5⟩ | exact ⟨A6, E6⟩ | exact ⟨A7, E7⟩) (W_focus (a := rr) (by first | exact ⟨A0, E0⟩ | exact ⟨A1, E1⟩ | exact ⟨A2, E2⟩ | exact ⟨A3, E3⟩ | exact ⟨A4, E4⟩ | exact ⟨A5, E5⟩ | exact ⟨A6, E6⟩ | exact ⟨A7, E7⟩) ?_)))))
    refine W_iload d14_111 (pc' := 113) rfl A9 ?_
    refine W_if_le_F d14_113 (pc' := 116) rfl (by decide) ?_
    refine W_aload d14_116 (pc' := 118) rfl A8 rfl ?_
    refine W_astoreN d14_118 (pc' := 119) rfl A2 rfl rfl S2 ?_
    refine W_goto d14_119 (pc' := 125) (by decide) (by decide) ?_
    exact bg125 K (nz_of (by rw [ushr_lb hk]; exact lb_pos hb)) rfl rfl ⟨_, _, rfl, rfl⟩
theorem m_bgcd2 {l : Launch} {Z : State} {a0 : Array Value} (K : Ok Z a0) {u tu w tw : Addr} {h l' : Int32} {F : List Atom} (hh : h ≠ 0) :
    Meth l Z a0 EL (⟨"java/math/MutableBigInteger", "binaryGCD", "(Ljava/math/MutableBigInteger;)Ljava/math/MutableBigInteger;"⟩ : MethodName) jdk_2101_method_73_code 13 (some (.object "java/math/MutableBigInteger")) ({ frames := 3, cells := 2, slots := 4, locals := 42 } : Room) [.ref u, .ref w] ((true, u, IsObj Z "java/math/MutableBigInteger" fl_MutableBigInteger [.ref tu, .int 2, .int 0]) :: (true, tu, IsArrX Z "[I" .int [.int h, .int l']) :: (true, w, IsObj Z "java/math/MutableBigInteger" fl_MutableBigInteger [.ref tw, .int 1, .int 0]) :: (true, tw, IsArrX Z "[I" .int [.int 1]) :: F) (fun v L' => ∃ rr tr, v = some (.ref rr) ∧ L' = (true, rr, IsObj Z "java/math/MutableBigInteger" fl_MutableBigInteger [.ref tr, .int 1, .int 0]) :: (true, tr, IsArrX Z "[I" .int [.int 1]) :: F) := by
  by_cases qo : v2 h l' % 2 = 1
  · have hl0 : 0 < uv l' := by rw [v2_odd] at qo; omega
    have hm1 := sub1_uv hl0
    refine MethW.of_wp (Ls := [.val (.ref u), .val (.ref w), .unset, .unset, .unset, .unset, .unset, .unset, .unset, .unset, .unset, .unset, .unset]) (plainFor_of_name pn2) (EWof K) (by first | rfl | (simp [argsToLocals, Value.category]; done)) (fun r => ?_)
    show WP _ _ _ _ _ _ _ _ _ _ _ _ _ _ _ _ _ _
    refine W_aloadN d14_0 (pc' := 1) rfl A0 rfl ?_
    refine W_astoreN d14_1 (pc' := 2) rfl A2 rfl rfl S2 ?_
    refine W_new d14_2 (pc' := 5) rfl (w88 K) (w55 K) (w56 K) (lay_MutableBigInteger K) df_MutableBigInteger (by decide) (by decide) (fun rr => ?_)
    refine W_dup d14_5 (pc' := 6) rfl rfl ?_
    refine W_special d14_6 (pc' := 9) rfl rfl rfl (w89 K) (w90 K) (w56 K) (w91 K) (by decide) (m_mbi0 K) ar3 rfl (by decide) (Nat.le_of_ble_eq_true rfl) (by first | decide | (dsimp only; omega) | omega) (by first | decide | (dsimp only; omega) | omega) ?_
    rintro _ _ ⟨tr, rfl, rfl⟩
    simp only [Option.toList_some, Option.toList_none, List.cons_append, List.nil_append]
    refine W_astoreN d14_9 (pc' := 10) rfl A3 rfl rfl S3 ?_
    refine W_aloadN d14_10 (pc' := 11) rfl A2 rfl ?_
    refine W_virtual d14_11 (pc' := 14) rfl rfl (w102 K) (decl_of (w103 K) (w106 K)) (NF.sel (w105 K)) (w105 K) (w103 K) (w56 K) (w106 K) (by decide) (m_glsb2 K (k := 0) A2 A3 (nz_of hl0) (by decide) (lb_zero (by rw [← v2_odd (h := h)]; exact qo))) ar5 rfl (by first | assumption | exact A0 | exact A1 | exact A2 | exact A3 | exact A4 | exact A5 | exact A6 | exact A7 | exact Tl1 ‹_› | exact Tl2 ‹_› | exact Tl3 ‹_› | exact Tl4 ‹_› | exact Tl5 ‹_› | exact Tl6 ‹_› | exact Tl7 ‹_› | exact Tl8 ‹_›) (by decide) (Nat.le_of_ble_eq_true rfl) (by first | decide | (dsimp only; omega) | omega) (by first | decide | (dsimp only; omega) | omega) ?_
    rintro _ _ ⟨rfl, rfl⟩
    simp only [Option.toList_some, Option.toList_none, List.cons_append, List.nil_append]
    refine W_istore d14_14 (pc' := 16) rfl A4 rfl S4 ?_
    refine W_aloadN d14_16 (pc' := 17) rfl A1 rfl ?_
    refine W_virtual d14_17 (pc' := 20) rfl rfl (w102 K) (decl_of (w103 K) (w106 K)) (NF.sel (w105 K)) (w105 K) (w103 K) (w56 K) (w106 K) (by decide) (m_glsb1 K (k := 0) A4 A5 A0 (by decide) (by decide) (lb_zero (by decide))) ar5 rfl (by first | assumption | exact A0 | exact A1 | exact A2 | exact A3 | exact A4 | exact A5 | exact A6 | exact A7 | exact Tl1 ‹_› | exact Tl2 ‹_› | exact Tl3 ‹_› | exact Tl4 ‹_› | exact Tl5 ‹_› | exact Tl6 ‹_› | exact Tl7 ‹_› | exact Tl8 ‹_›) (by decide) (Nat.le_of_ble_eq_true rfl) (by first | decide | (dsimp only; omega) | omega) (by first | decide | (dsimp only; omega) | omega) ?_
    rintro _ _ ⟨rfl, rfl⟩
    simp only [Option.toList_some, Option.toList_none, List.cons_append, List.nil_append]
    refine W_istore d14_20 (pc' := 22) rfl A5 rfl S5 ?_
    refine W_iload d14_22 (pc' := 24) rfl A4 ?_
    refine W_iload d14_24 (pc' := 26) rfl A5 ?_
    refine W_icmp_ge_T d14_26 (pc' := 34) (by decide) (by decide) (by decide) ?_
    refine W_iload d14_34 (pc' := 36) rfl A5 ?_
    refine W_istore d14_36 (pc' := 38) rfl A6 rfl S6 ?_
    refine W_iload d14_38 (pc' := 40) rfl A6 ?_
    refine W_if_eq_T d14_40 (pc' := 55) (by decide) (by decide) (by decide) ?_
    refine W_iload d14_55 (pc' := 57) rfl A6 ?_
    refine W_iload d14_57 (pc' := 59) rfl A4 ?_
    refine W_icmp_ne_F d14_59 (pc' := 62) rfl rfl ?_
    refine W_iconst d14_62 (pc' := 63) (v := 1) rfl (by decide) ?_
    refine W_goto d14_63 (pc' := 67) (by decide) (by decide) ?_
    refine W_istore d14_67 (pc' := 69) rfl A7 rfl S7 ?_
    refine W_iload d14_69 (pc' := 71) rfl A7 ?_
    refine W_if_eq_F d14_71 (pc' := 74) rfl (by decide) ?_
    refine W_aloadN d14_74 (pc' := 75) rfl A1 rfl ?_
    refine W_goto d14_75 (pc' := 79) (by decide) (by decide) ?_
    refine W_astore d14_79 (pc' := 81) rfl A8 rfl rfl S8 ?_
    refine W_iload d14_81 (pc' := 83) rfl A7 ?_
    refine W_if_eq_F d14_83 (pc' := 86) rfl (by decide) ?_
    refine W_iconst d14_86 (pc' := 87) (v := (-1)) rfl (by decide) ?_
    refine W_goto d14_87 (pc' := 91) (by decide) (by decide) ?_
    refine W_istore d14_91 (pc' := 93) rfl A9 rfl S9 ?_
    refine W_aload d14_93 (pc' := 95) rfl A8 rfl ?_
    refine W_virtual d14_95 (pc' := 98) rfl rfl (w102 K) (decl_of (w103 K) (w106 K)) (NF.sel (w105 K)) (w105 K) (w103 K) (w56 K) (w106 K) (by decide) (m_glsb1 K (k := 0) A4 A5 A0 (by decide) (by decide) (lb_zero (by decide))) ar5 rfl (by first | assumption | exact A0 | exact A1 | exact A2 | exact A3 | exact A4 | exact A5 | exact A6 | exact A7 | exact Tl1 ‹_› | exact Tl2 ‹_› | exact Tl3 ‹_› | exact Tl4 ‹_› | exact Tl5 ‹_› | exact Tl6 ‹_› | exact Tl7 ‹_› | exact Tl8 ‹_›) (by decide) (Nat.le_of_ble_eq_true rfl) (by first | decide | (dsimp only; omega) | omega) (by first | decide | (dsimp only; omega) | omega) ?_
    rintro _ _ ⟨rfl, rfl⟩
    simp only [Option.toList_some, Option.toList_none, List.cons_append, List.nil_append]
    refine W_dup d14_98 (pc' := 99) rfl rfl ?_
    refine W_istore d14_99 (pc' := 101) rfl A10 rfl S10 ?_
    refine W_if_lt_F d14_101 (pc' := 104) rfl (by decide) ?_
    refine W_aload d14_104 (pc' := 106) rfl A8 rfl ?_
    refine W_iload d14_106 (pc' := 108) rfl A10 ?_
    refine W_focus (a := w) (by first | exact ⟨A0, E0⟩ | exact ⟨A1, E1⟩ | exact ⟨A2, E2⟩ | exact ⟨A3, E3⟩ | exact ⟨A4, E4⟩ | exact ⟨A5, E5⟩ | exact ⟨A6, E6⟩ | exact ⟨A7, E7⟩) ?_
    refine W_virtual d14_108 (pc' := 111) rfl rfl (w111 K) (w112 K) (NF.sel (w114 K)) (w114 K) (w113 K) (w56 K) (w115 K) (by decide) (m_rsh0 K (by decide)) ar1 rfl (by first | assumption | exact A0 | exact A1 | exact A2 | exact A3 | exact A4 | exact A5 | exact A6 | exact A7 | exact Tl1 ‹_› | exact Tl2 ‹_› | exact Tl3 ‹_› | exact Tl4 ‹_› | exact Tl5 ‹_› | exact Tl6 ‹_› | exact Tl7 ‹_› | exact Tl8 ‹_›) (by decide) (Nat.le_of_ble_eq_true rfl) (by first | decide | (dsimp only; omega) | omega) (by first | decide | (dsimp only; omega) | omega) ?_
    rintro _ _ ⟨rfl, rfl⟩
    simp only [Option.toList_some, Option.toList_none, List.cons_append, List.nil_append]
    refine W_focus (a := tw) (by first | exact ⟨A0, E0⟩ | exact ⟨A1, E1⟩ | exact ⟨A2, E2⟩ | exact ⟨A3, E3⟩ | exact ⟨A4, E4⟩ | exact ⟨A5, E5⟩ | exact ⟨A6, E6⟩ | exact ⟨A7, E7⟩) (W_focus (a := w) (by first | exact ⟨A0, E0⟩ | exact ⟨A1, E1⟩ | exact ⟨A2, E2⟩ | exact ⟨A3, E3⟩ | exact ⟨A4, E4⟩ | exact ⟨A5, E5⟩ | exact ⟨A6, E6⟩ | exact ⟨A7, E7⟩) (W_focus (a := tu) (by first | exact ⟨A0, E0⟩ | exact ⟨A1, E1⟩ | exact ⟨A2, E2⟩ | exact ⟨A3, E3⟩ | exact ⟨A4, E4⟩ | exact ⟨A5, E5⟩ | exact ⟨A6, E6⟩ | exact ⟨A7, E7⟩) (W_focus (a := u) (by first | exact ⟨A0, E0⟩ | exact ⟨A1, E1⟩ | exact ⟨A2, E2⟩ | exact ⟨A3, E3⟩ | exact ⟨A4, E4⟩ | exact ⟨A5, E5⟩ | exact ⟨A6, E6⟩ | exact ⟨A7, E7⟩) (W_focus (a := tr) (by first | exact ⟨A0, E0⟩ | exact ⟨A1, E1⟩ | exact ⟨A2, E2⟩ | exact ⟨A3, E3⟩ | exact ⟨A4, E4⟩ | exact ⟨A5, E5⟩ | exact ⟨A6, E6⟩ | exact ⟨A7, E7⟩) (W_focus (a := rr) (by first | exact ⟨A0, E0⟩ | exact ⟨A1, E1⟩ | exact ⟨A2, E2⟩ | exact ⟨A3, E3⟩ | exact ⟨A4, E4⟩ | exact ⟨A5, E5⟩ | exact ⟨A6, E6⟩ | exact ⟨A7, E7⟩) ?_)))))
    refine W_iload d14_111 (pc' := 113) rfl A9 ?_
    refine W_if_le_T d14_113 (pc' := 122) (by decide) (by decide) (by decide) ?_
    refine W_aload d14_122 (pc' := 124) rfl A8 rfl ?_
    refine W_astoreN d14_124 (pc' := 125) rfl A1 rfl rfl S1 ?_
    refine W_aloadN d14_125 (pc' := 126) rfl A2 rfl ?_
    refine W_getfield d14_126 (pc' := 129) rfl (w66 K) Via.refl (by first | assumption | exact A0 | exact A1 | exact A2 | exact A3 | exact A4 | exact A5 | exact A6 | exact A7 | exact Tl1 ‹_› | exact Tl2 ‹_› | exact Tl3 ‹_› | exact Tl4 ‹_› | exact Tl5 ‹_› | exact Tl6 ‹_› | exact Tl7 ‹_› | exact Tl8 ‹_›) A1 A1 ?_
    refine W_iconst d14_129 (pc' := 130) (v := 2) rfl (by decide) ?_
    refine W_icmp_ge_T d14_130 (pc' := 203) (by decide) (by decide) (by decide) ?_
    refine W_aloadN d14_203 (pc' := 204) rfl A2 rfl ?_
    refine W_aloadN d14_204 (pc' := 205) rfl A1 rfl ?_
    refine W_focus (a := tu) (by first | exact ⟨A0, E0⟩ | exact ⟨A1, E1⟩ | exact ⟨A2, E2⟩ | exact ⟨A3, E3⟩ | exact ⟨A4, E4⟩ | exact ⟨A5, E5⟩ | exact ⟨A6, E6⟩ | exact ⟨A7, E7⟩) (W_focus (a := u) (by first | exact ⟨A0, E0⟩ | exact ⟨A1, E1⟩ | exact ⟨A2, E2⟩ | exact ⟨A3, E3⟩ | exact ⟨A4, E4⟩ | exact ⟨A5, E5⟩ | exact ⟨A6, E6⟩ | exact ⟨A7, E7⟩) ?_)
    refine W_virtual d14_205 (pc' := 208) rfl rfl (w262 K) (decl_of (w263 K) (w266 K)) (NF.sel (w265 K)) (w265 K) (w263 K) (w56 K) (w266 K) (by decide) (m_diff K A2 A3 hh hl0) ar2 rfl (by first | assumption | exact A0 | exact A1 | exact A2 | exact A3 | exact A4 | exact A5 | exact A6 | exact A7 | exact Tl1 ‹_› | exact Tl2 ‹_› | exact Tl3 ‹_› | exact Tl4 ‹_› | exact Tl5 ‹_› | exact Tl6 ‹_› | exact Tl7 ‹_› | exact Tl8 ‹_›) (by decide) (Nat.le_of_ble_eq_true rfl) (by first | decide | (dsimp only; omega) | omega) (by first | decide | (dsimp only; omega) | omega) ?_
    rintro _ _ ⟨rfl, rfl⟩
    simp only [Option.toList_some, Option.toList_none, List.cons_append, List.nil_append]
    refine W_focus (a := tw) (by first | exact ⟨A0, E0⟩ | exact ⟨A1, E1⟩ | exact ⟨A2, E2⟩ | exact ⟨A3, E3⟩ | exact ⟨A4, E4⟩ | exact ⟨A5, E5⟩ | exact ⟨A6, E6⟩ | exact ⟨A7, E7⟩) (W_focus (a := w) (by first | exact ⟨A0, E0⟩ | exact ⟨A1, E1⟩ | exact ⟨A2, E2⟩ | exact ⟨A3, E3⟩ | exact ⟨A4, E4⟩ | exact ⟨A5, E5⟩ | exact ⟨A6, E6⟩ | exact ⟨A7, E7⟩) (W_focus (a := tu) (by first | exact ⟨A0, E0⟩ | exact ⟨A1, E1⟩ | exact ⟨A2, E2⟩ | exact ⟨A3, E3⟩ | exact ⟨A4, E4⟩ | exact ⟨A5, E5⟩ | exact ⟨A6, E6⟩ | exact ⟨A7, E7⟩) (W_focus (a := u) (by first | exact ⟨A0, E0⟩ | exact ⟨A1, E1⟩ | exact ⟨A2, E2⟩ | exact ⟨A3, E3⟩ | exact ⟨A4, E4⟩ | exact ⟨A5, E5⟩ | exact ⟨A6, E6⟩ | exact ⟨A7, E7⟩) (W_focus (a := tr) (by first | exact ⟨A0, E0⟩ | exact ⟨A1, E1⟩ | exact ⟨A2, E2⟩ | exact ⟨A3, E3⟩ | exact ⟨A4, E4⟩ | exact ⟨A5, E5⟩ | exact ⟨A6, E6⟩ | exact ⟨A7, E7⟩) (W_focus (a := rr) (by first | exact ⟨A0, E0⟩ | exact ⟨A1, E1⟩ | exact ⟨A2, E2⟩ | exact ⟨A3, E3⟩ | exact ⟨A4, E4⟩ | exact ⟨A5, E5⟩ | exact ⟨A6, E6⟩ | exact ⟨A7, E7⟩) ?_)))))
    refine W_dup d14_208 (pc' := 209) rfl rfl ?_
    refine W_istore d14_209 (pc' := 211) rfl A9 rfl S9 ?_
    refine W_if_ne_T d14_211 (pc' := 217) (by decide) (by decide) (by decide) ?_
    refine W_iload d14_217 (pc' := 219) rfl A9 ?_
    refine W_if_lt_F d14_219 (pc' := 222) rfl (by decide) ?_
    refine W_aloadN d14_222 (pc' := 223) rfl A2 rfl ?_
    refine W_goto d14_223 (pc' := 227) (by decide) (by decide) ?_
    refine W_astore d14_227 (pc' := 229) rfl A8 rfl rfl S8 ?_
    refine W_goto d14_229 (pc' := 93) (by decide) (by decide) ?_
    exact bg93 K ⟨_, _, rfl, rfl⟩ _ h (l' - 1) _ _ _ (Nat.le_refl _) hh (by rw [v2_odd, hm1]; rw [v2_odd] at qo; omega) rfl rfl rfl
  · obtain ⟨k, hk0, hk, hglsb⟩ : ∃ k : Nat, 0 < k ∧ k < 64 ∧ ∀ (L : List Atom) (i j : Nat) (b b' : Bool) (_ : L[i]? = some (b, u, IsObj Z "java/math/MutableBigInteger" fl_MutableBigInteger [.ref tu, .int 2, .int 0])) (_ : L[j]? = some (b', tu, IsArrX Z "[I" .int [.int h, .int l'])), Meth l Z a0 EL (⟨"java/math/MutableBigInteger", "getLowestSetBit", "()I"⟩ : MethodName) jdk_2101_method_18_code 3 (some .int) ({ frames := 1, cells := 0, slots := 0, locals := 14 } : Room) [.ref u] L (fun v L' => v = some (.int (Int32.ofNat k)) ∧ L' = L) := by
      by_cases ql : l' = 0
      · subst ql
        obtain ⟨k, hk, hb⟩ := lb_ex 32 (uv h) (uv_pos hh) (uv_lt _)
        exact ⟨32 + k, by omega, by omega, fun L i j b b' g1 g2 => m_glsb3 K g1 g2 hh hk hb⟩
      · obtain ⟨k, hk, hb⟩ := lb_ex 32 (uv l') (uv_pos ql) (uv_lt _)
        exact ⟨k, lb_even hb (by rw [← v2_odd (h := h)]; omega), by omega, fun L i j b b' g1 g2 => m_glsb2 K g1 g2 ql hk hb⟩
    have hne : ¬ Int32.ofNat 0 = Int32.ofNat k := ofNat_ne (by omega) (by decide) (by omega)
    refine MethW.of_wp (Ls := [.val (.ref u), .val (.ref w), .unset, .unset, .unset, .unset, .unset, .unset, .unset, .unset, .unset, .unset, .unset]) (plainFor_of_name pn2) (EWof K) (by first | rfl | (simp [argsToLocals, Value.category]; done)) (fun r => ?_)
    show WP _ _ _ _ _ _ _ _ _ _ _ _ _ _ _ _ _ _
    refine W_aloadN d14_0 (pc' := 1) rfl A0 rfl ?_
    refine W_astoreN d14_1 (pc' := 2) rfl A2 rfl rfl S2 ?_
    refine W_new d14_2 (pc' := 5) rfl (w88 K) (w55 K) (w56 K) (lay_MutableBigInteger K) df_MutableBigInteger (by decide) (by decide) (fun rr => ?_)
    refine W_dup d14_5 (pc' := 6) rfl rfl ?_
    refine W_special d14_6 (pc' := 9) rfl rfl rfl (w89 K) (w90 K) (w56 K) (w91 K) (by decide) (m_mbi0 K) ar3 rfl (by decide) (Nat.le_of_ble_eq_true rfl) (by first | decide | (dsimp only; omega) | omega) (by first | decide | (dsimp only; omega) | omega) ?_
    rintro _ _ ⟨tr, rfl, rfl⟩
    simp only [Option.toList_some, Option.toList_none, List.cons_append, List.nil_append]
    refine W_astoreN d14_9 (pc' := 10) rfl A3 rfl rfl S3 ?_
    refine W_aloadN d14_10 (pc' := 11) rfl A2 rfl ?_
    refine W_virtual d14_11 (pc' := 14) rfl rfl (w102 K) (decl_of (w103 K) (w106 K)) (NF.sel (w105 K)) (w105 K) (w103 K) (w56 K) (w106 K) (by decide) (hglsb _ _ _ _ _ A2 A3) ar5 rfl (by first | assumption | exact A0 | exact A1 | exact A2 | exact A3 | exact A4 | exact A5 | exact A6 | exact A7 | exact Tl1 ‹_› | exact Tl2 ‹_› | exact Tl3 ‹_› | exact Tl4 ‹_› | exact Tl5 ‹_› | exact Tl6 ‹_› | exact Tl7 ‹_› | exact Tl8 ‹_›) (by decide) (Nat.le_of_ble_eq_true rfl) (by first | decide | (dsimp only; omega) | omega) (by first | decide | (dsimp only; omega) | omega) ?_
    rintro _ _ ⟨rfl, rfl⟩
    simp only [Option.toList_some, Option.toList_none, List.cons_append, List.nil_append]
    refine W_istore d14_14 (pc' := 16) rfl A4 rfl S4 ?_
    refine W_aloadN d14_16 (pc' := 17) rfl A1 rfl ?_
    refine W_virtual d14_17 (pc' := 20) rfl rfl (w102 K) (decl_of (w103 K) (w106 K)) (NF.sel (w105 K)) (w105 K) (w103 K) (w56 K) (w106 K) (by decide) (m_glsb1 K (k := 0) A4 A5 A0 (by decide) (by decide) (lb_zero (by decide))) ar5 rfl (by first | assumption | exact A0 | exact A1 | exact A2 | exact A3 | exact A4 | exact A5 | exact A6 | exact A7 | exact Tl1 ‹_› | exact Tl2 ‹_› | exact Tl3 ‹_› | exact Tl4 ‹_› | exact Tl5 ‹_› | exact Tl6 ‹_› | exact Tl7 ‹_› | exact Tl8 ‹_›) (by decide) (Nat.le_of_ble_eq_true rfl) (by first | decide | (dsimp only; omega) | omega) (by first | decide | (dsimp only; omega) | omega) ?_
    rintro _ _ ⟨rfl, rfl⟩
    simp only [Option.toList_some, Option.toList_none, List.cons_append, List.nil_append]
    refine W_istore d14_20 (pc' := 22) rfl A5 rfl S5 ?_
    refine W_iload d14_22 (pc' := 24) rfl A4 ?_
    refine W_iload d14_24 (pc' := 26) rfl A5 ?_
    refine W_icmp_ge_T d14_26 (pc' := 34) (by decide) (by decide) (ofNat_nlt (Nat.zero_le _) (by omega)) ?_
    refine W_iload d14_34 (pc' := 36) rfl A5 ?_
    refine W_istore d14_36 (pc' := 38) rfl A6 rfl S6 ?_
    refine W_iload d14_38 (pc' := 40) rfl A6 ?_
    refine W_if_eq_T d14_40 (pc' := 55) (by decide) (by decide) (by decide) ?_
    refine W_iload d14_55 (pc' := 57) rfl A6 ?_
    refine W_iload d14_57 (pc' := 59) rfl A4 ?_
    refine W_icmp_ne_T d14_59 (pc' := 66) (by decide) (by decide) hne ?_
    refine W_iconst d14_66 (pc' := 67) (v := 0) rfl (by decide) ?_
    refine W_istore d14_67 (pc' := 69) rfl A7 rfl S7 ?_
    refine W_iload d14_69 (pc' := 71) rfl A7 ?_
    refine W_if_eq_T d14_71 (pc' := 78) (by decide) (by decide) rfl ?_
    refine W_aloadN d14_78 (pc' := 79) rfl A2 rfl ?_
    refine W_astore d14_79 (pc' := 81) rfl A8 rfl rfl S8 ?_
    refine W_iload d14_81 (pc' := 83) rfl A7 ?_
    refine W_if_eq_T d14_83 (pc' := 90) (by decide) (by decide) rfl ?_
    refine W_iconst d14_90 (pc' := 91) (v := 1) rfl (by decide) ?_
    refine W_istore d14_91 (pc' := 93) rfl A9 rfl S9 ?_
    exact bg93 K ⟨_, _, rfl, rfl⟩ _ h l' _ _ _ (Nat.le_refl _) hh (by omega) rfl rfl rfl
theorem m_nui {l : Launch} {Z : State} {a0 : Array Value} (K : Ok Z a0) {a : Addr} {L : List Atom} : Meth l Z a0 EL (⟨"java/lang/Number", "<init>", "()V"⟩ : MethodName) jdk_18_method_1_code 1 none ({ frames := 1, cells := 0, slots := 0, locals := 12 } : Room) [.ref a] L (fun v L' => v = none ∧ L' = L) := by
  refine MethW.of_wp (Ls := [.val (.ref a)]) (plainFor_of_name pn3) (EWof K) (by first | rfl | (simp [argsToLocals, Value.category]; done)) (fun r => ?_)
  show WP _ _ _ _ _ _ _ _ _ _ _ _ _ _ _ _ _ _
  refine W_aloadN d15_0 (pc' := 1) rfl A0 rfl ?_
  refine W_objInit d15_1 (pc' := 4) rfl rfl (w143 K) (w17 K) (w18 K) rfl (by decide) (Nat.le_of_ble_eq_true rfl) ?_
  exact W_return d15_4 rfl (by first | decide | (dsimp only; omega) | omega) (by first | decide | (dsimp only; omega) | omega) ⟨rfl, rfl⟩
theorem m_biA {l : Launch} {Z : State} {a0 : Array Value} (K : Ok Z a0) {g t : Addr} {s : Int32} {vs : List Value} {F : List Atom} {j : Nat} {b : Bool} (ht : F[j]? = some (b, t, IsArrX Z "[I" .int vs)) (h0 : 0 < vs.length) (h1 : vs.length ≤ 2) :
    Meth l Z a0 EL (⟨"java/math/BigInteger", "<init>", "([II)V"⟩ : MethodName) jdk_2097_method_25_code 3 none ({ frames := 2, cells := 0, slots := 0, locals := 24 } : Room) [.ref g, .ref t, .int s] ((true, g, IsObj Z "java/math/BigInteger" fl_BigInteger [.int 0, .null]) :: F) (fun v L' => v = none ∧ L' = (true, g, IsObj Z "java/math/BigInteger" fl_BigInteger [.int s, .ref t]) :: F) := by
  refine MethW.of_wp (Ls := [.val (.ref g), .val (.ref t), .val (.int s)]) (plainFor_of_name pn1) (EWof K) (by first | rfl | (simp [argsToLocals, Value.category]; done)) (fun r => ?_)
  show WP _ _ _ _ _ _ _ _ _ _ _ _ _ _ _ _ _ _
  refine W_aloadN d16_0 (pc' := 1) rfl A0 rfl ?_
  refine W_special d16_1 (pc' := 4) rfl rfl rfl (w137 K) (w138 K) (w141 K) (w142 K) (by decide) (m_nui K) ar3 rfl (by decide) (Nat.le_of_ble_eq_true rfl) (by first | decide | (dsimp only; omega) | omega) (by first | decide | (dsimp only; omega) | omega) ?_
  rintro _ _ ⟨rfl, rfl⟩
  simp only [Option.toList_some, Option.toList_none, List.cons_append, List.nil_append]
  refine W_aloadN d16_4 (pc' := 5) rfl A0 rfl ?_
  refine W_aloadN d16_5 (pc' := 6) rfl A1 rfl ?_
  refine W_arraylengthX d16_6 (pc' := 7) rfl (Tl1 ht) rfl ?_
  refine W_if_ne_T d16_7 (pc' := 14) (by decide) (by decide) (ofNat_nz h0 (by omega)) ?_
  refine W_iloadN d16_14 (pc' := 15) rfl A2 ?_
  refine W_putfield d16_15 (pc' := 18) rfl (w47 K) Via.refl (Or.inr ⟨w48 K, rfl, rfl⟩) (lay_BigInteger K) A0 pf0 rfl rfl S0 (by first | exact ⟨A0, S0⟩ | exact ⟨A1, S1⟩ | exact ⟨A2, S2⟩ | exact ⟨A3, S3⟩ | exact ⟨A4, S4⟩ | exact ⟨A5, S5⟩ | exact ⟨A6, S6⟩ | exact ⟨A7, S7⟩) ?_
  refine W_aloadN d16_18 (pc' := 19) rfl A0 rfl ?_
  refine W_aloadN d16_19 (pc' := 20) rfl A1 rfl ?_
  refine W_putfield d16_20 (pc' := 23) rfl (w144 K) Via.refl (Or.inr ⟨w65 K, rfl, rfl⟩) (lay_BigInteger K) A1 pf1 rfl rfl S1 (by first | exact ⟨A0, S0⟩ | exact ⟨A1, S1⟩ | exact ⟨A2, S2⟩ | exact ⟨A3, S3⟩ | exact ⟨A4, S4⟩ | exact ⟨A5, S5⟩ | exact ⟨A6, S6⟩ | exact ⟨A7, S7⟩) ?_
  refine W_aloadN d16_23 (pc' := 24) rfl A0 rfl ?_
  refine W_getfield d16_24 (pc' := 27) rfl (w144 K) Via.refl (by first | assumption | exact A0 | exact A1 | exact A2 | exact A3 | exact A4 | exact A5 | exact A6 | exact A7 | exact Tl1 ‹_› | exact Tl2 ‹_› | exact Tl3 ‹_› | exact Tl4 ‹_› | exact Tl5 ‹_› | exact Tl6 ‹_› | exact Tl7 ‹_› | exact Tl8 ‹_›) A1 A1 ?_
  refine W_arraylengthX d16_27 (pc' := 28) rfl (Tl1 ht) rfl ?_
  refine W_ldcI d16_28 (pc' := 30) rfl (v := 67108864) (w145 K) ?_
  refine W_icmp_lt_T d16_30 (pc' := 37) (by decide) (by decide) (by rw [lt32, toI (by omega)]; have q : (67108864 : Int32).toInt = 67108864 := rfl; omega) ?_
  exact W_return d16_37 rfl (by first | decide | (dsimp only; omega) | omega) (by first | decide | (dsimp only; omega) | omega) ⟨rfl, rfl⟩
theorem m_cpi {l : Launch} {Z : State} {a0 : Array Value} (K : Ok Z a0) {t : Addr} {vs : List Value} {F : List Atom} {j : Nat} {b : Bool} (ht : F[j]? = some (b, t, IsArrX Z "[I" .int vs)) (h1 : vs.length ≤ 2) :
    Meth l Z a0 EL (⟨"java/util/Arrays", "copyOf", "([II)[I"⟩ : MethodName) jdk_65_method_123_code 3 (some (.array .int)) ({ frames := 1, cells := 1, slots := 2, locals := 14 } : Room) [.ref t, .int (Int32.ofNat vs.length)] F (fun v L' => ∃ t', v = some (.ref t') ∧ L' = (true, t', IsArrX Z "[I" .int vs) :: F) := by
  refine MethW.of_wp (Ls := [.val (.ref t), .val (.int (Int32.ofNat vs.length)), .unset]) (plainFor_of_name pn4) (EWof K) (by first | rfl | (simp [argsToLocals, Value.category]; done)) (fun r => ?_)
  show WP _ _ _ _ _ _ _ _ _ _ _ _ _ _ _ _ _ _
  refine W_iloadN d17_0 (pc' := 1) rfl A1 ?_
  refine W_aloadN d17_1 (pc' := 2) rfl A0 rfl ?_
  refine W_arraylengthX d17_2 (pc' := 3) rfl ht rfl ?_
  refine W_icmp_ne_F d17_3 (pc' := 6) rfl rfl ?_
  refine W_aloadN d17_6 (pc' := 7) rfl A0 rfl ?_
  refine W_clone (cap := 2) d17_7 (pc' := 10) rfl rfl (w72 K) (w73 K) (w77 K) (w75 K) (w76 K) (w78 K) (by first | assumption | exact A0 | exact A1 | exact A2 | exact A3 | exact A4 | exact A5 | exact A6 | exact A7 | exact Tl1 ‹_› | exact Tl2 ‹_› | exact Tl3 ‹_› | exact Tl4 ‹_› | exact Tl5 ‹_› | exact Tl6 ‹_› | exact Tl7 ‹_› | exact Tl8 ‹_›) (by decide) (Nat.le_of_ble_eq_true rfl) h1 (by decide) (by decide) (fun t' => ?_)
  refine W_checkcastX d17_10 (pc' := 13) rfl (w79 K) (w80 K) (by first | assumption | exact A0 | exact A1 | exact A2 | exact A3 | exact A4 | exact A5 | exact A6 | exact A7 | exact Tl1 ‹_› | exact Tl2 ‹_› | exact Tl3 ‹_› | exact Tl4 ‹_› | exact Tl5 ‹_› | exact Tl6 ‹_› | exact Tl7 ‹_› | exact Tl8 ‹_›) ?_
  exact W_areturn d17_13 rfl rfl rfl rfl (by first | decide | (dsimp only; omega) | omega) (by first | decide | (dsimp only; omega) | omega) ⟨t', rfl, rfl⟩
theorem m_mbiB {l : Launch} {Z : State} {a0 : Array Value} (K : Ok Z a0) {u b t : Addr} {sg : Value} {vs : List Value} {F : List Atom} {i j : Nat} {f1 f2 : Bool} (hb : F[i]? = some (f1, b, IsObj Z "java/math/BigInteger" fl_BigInteger [sg, .ref t])) (ht : F[j]? = some (f2, t, IsArrX Z "[I" .int vs)) (h1 : vs.length ≤ 2) :
    Meth l Z a0 EL (⟨"java/math/MutableBigInteger", "<init>", "(Ljava/math/BigInteger;)V"⟩ : MethodName) jdk_2101_method_4_code 2 none ({ frames := 2, cells := 1, slots := 2, locals := 29 } : Room) [.ref u, .ref b] ((true, u, IsObj Z "java/math/MutableBigInteger" fl_MutableBigInteger [.null, .int 0, .int 0]) :: F) (fun v L' => ∃ t', v = none ∧ L' = (true, u, IsObj Z "java/math/MutableBigInteger" fl_MutableBigInteger [.ref t', .int (Int32.ofNat vs.length), .int 0]) :: (true, t', IsArrX Z "[I" .int vs) :: F) := by
  refine MethW.of_wp (Ls := [.val (.ref u), .val (.ref b)]) (plainFor_of_name pn2) (EWof K) (by first | rfl | (simp [argsToLocals, Value.category]; done)) (fun r => ?_)
  show WP _ _ _ _ _ _ _ _ _ _ _ _ _ _ _ _ _ _
  refine W_aloadN d18_0 (pc' := 1) rfl A0 rfl ?_
  refine W_objInit d18_1 (pc' := 4) rfl rfl (w61 K) (w17 K) (w18 K) rfl (by decide) (Nat.le_of_ble_eq_true rfl) ?_
  refine W_aloadN d18_4 (pc' := 5) rfl A0 rfl ?_
  refine W_iconst d18_5 (pc' := 6) (v := 0) rfl (by decide) ?_
  refine W_putfield d18_6 (pc' := 9) rfl (w62 K) Via.refl (Or.inl (w63 K)) (lay_MutableBigInteger K) A2 pf0 rfl rfl S2 (by first | exact ⟨A0, S0⟩ | exact ⟨A1, S1⟩ | exact ⟨A2, S2⟩ | exact ⟨A3, S3⟩ | exact ⟨A4, S4⟩ | exact ⟨A5, S5⟩ | exact ⟨A6, S6⟩ | exact ⟨A7, S7⟩) ?_
  refine W_aloadN d18_9 (pc' := 10) rfl A0 rfl ?_
  refine W_aloadN d18_10 (pc' := 11) rfl A1 rfl ?_
  refine W_getfield d18_11 (pc' := 14) rfl (w64 K) Via.refl (by first | assumption | exact A0 | exact A1 | exact A2 | exact A3 | exact A4 | exact A5 | exact A6 | exact A7 | exact Tl1 ‹_› | exact Tl2 ‹_› | exact Tl3 ‹_› | exact Tl4 ‹_› | exact Tl5 ‹_› | exact Tl6 ‹_› | exact Tl7 ‹_› | exact Tl8 ‹_›) A1 A1 ?_
  refine W_arraylengthX d18_14 (pc' := 15) rfl (Tl1 ht) rfl ?_
  refine W_putfield d18_15 (pc' := 18) rfl (w66 K) Via.refl (Or.inl (w67 K)) (lay_MutableBigInteger K) A1 pf0 rfl rfl S1 (by first | exact ⟨A0, S0⟩ | exact ⟨A1, S1⟩ | exact ⟨A2, S2⟩ | exact ⟨A3, S3⟩ | exact ⟨A4, S4⟩ | exact ⟨A5, S5⟩ | exact ⟨A6, S6⟩ | exact ⟨A7, S7⟩) ?_
  refine W_aloadN d18_18 (pc' := 19) rfl A0 rfl ?_
  refine W_aloadN d18_19 (pc' := 20) rfl A1 rfl ?_
  refine W_getfield d18_20 (pc' := 23) rfl (w64 K) Via.refl (by first | assumption | exact A0 | exact A1 | exact A2 | exact A3 | exact A4 | exact A5 | exact A6 | exact A7 | exact Tl1 ‹_› | exact Tl2 ‹_› | exact Tl3 ‹_› | exact Tl4 ‹_› | exact Tl5 ‹_› | exact Tl6 ‹_› | exact Tl7 ‹_› | exact Tl8 ‹_›) A1 A1 ?_
  refine W_aloadN d18_23 (pc' := 24) rfl A0 rfl ?_
  refine W_getfield d18_24 (pc' := 27) rfl (w66 K) Via.refl (by first | assumption | exact A0 | exact A1 | exact A2 | exact A3 | exact A4 | exact A5 | exact A6 | exact A7 | exact Tl1 ‹_› | exact Tl2 ‹_› | exact Tl3 ‹_› | exact Tl4 ‹_› | exact Tl5 ‹_› | exact Tl6 ‹_› | exact Tl7 ‹_› | exact Tl8 ‹_›) A1 A1 ?_
  refine W_static d18_27 (pc' := 30) rfl rfl (w68 K) (w69 K) (w70 K) (w71 K) (by decide) (m_cpi K (Tl1 ht) h1) ar6 rfl (by decide) (Nat.le_of_ble_eq_true rfl) (by first | decide | (dsimp only; omega) | omega) (by first | decide | (dsimp only; omega) | omega) ?_
  rintro _ _ ⟨t', rfl, rfl⟩
  simp only [Option.toList_some, Option.toList_none, List.cons_append, List.nil_append]
  refine W_putfield d18_30 (pc' := 33) rfl (w81 K) Via.refl (Or.inl (w82 K)) (lay_MutableBigInteger K) A0 pf1 rfl rfl S0 (by first | exact ⟨A0, S0⟩ | exact ⟨A1, S1⟩ | exact ⟨A2, S2⟩ | exact ⟨A3, S3⟩ | exact ⟨A4, S4⟩ | exact ⟨A5, S5⟩ | exact ⟨A6, S6⟩ | exact ⟨A7, S7⟩) ?_
  refine W_focus (a := u) (by first | exact ⟨A0, E0⟩ | exact ⟨A1, E1⟩ | exact ⟨A2, E2⟩ | exact ⟨A3, E3⟩ | exact ⟨A4, E4⟩ | exact ⟨A5, E5⟩ | exact ⟨A6, E6⟩ | exact ⟨A7, E7⟩) ?_
  exact W_return d18_33 rfl (by first | decide | (dsimp only; omega) | omega) (by first | decide | (dsimp only; omega) | omega) ⟨t', rfl, rfl⟩
theorem m_mbiI {l : Launch} {Z : State} {a0 : Array Value} (K : Ok Z a0) {u t : Addr} {vs : List Value} {F : List Atom} {j : Nat} {f2 : Bool} (ht : F[j]? = some (f2, t, IsArrX Z "[I" .int vs)) :
    Meth l Z a0 EL (⟨"java/math/MutableBigInteger", "<init>", "([I)V"⟩ : MethodName) jdk_2101_method_3_code 2 none ({ frames := 1, cells := 0, slots := 0, locals := 12 } : Room) [.ref u, .ref t] ((true, u, IsObj Z "java/math/MutableBigInteger" fl_MutableBigInteger [.null, .int 0, .int 0]) :: F) (fun v L' => v = none ∧ L' = (true, u, IsObj Z "java/math/MutableBigInteger" fl_MutableBigInteger [.ref t, .int (Int32.ofNat vs.length), .int 0]) :: F) := by
  refine MethW.of_wp (Ls := [.val (.ref u), .val (.ref t)]) (plainFor_of_name pn2) (EWof K) (by first | rfl | (simp [argsToLocals, Value.category]; done)) (fun r => ?_)
  show WP _ _ _ _ _ _ _ _ _ _ _ _ _ _ _ _ _ _
  refine W_aloadN d19_0 (pc' := 1) rfl A0 rfl ?_
  refine W_objInit d19_1 (pc' := 4) rfl rfl (w61 K) (w17 K) (w18 K) rfl (by decide) (Nat.le_of_ble_eq_true rfl) ?_
  refine W_aloadN d19_4 (pc' := 5) rfl A0 rfl ?_
  refine W_iconst d19_5 (pc' := 6) (v := 0) rfl (by decide) ?_
  refine W_putfield d19_6 (pc' := 9) rfl (w62 K) Via.refl (Or.inl (w63 K)) (lay_MutableBigInteger K) A2 pf0 rfl rfl S2 (by first | exact ⟨A0, S0⟩ | exact ⟨A1, S1⟩ | exact ⟨A2, S2⟩ | exact ⟨A3, S3⟩ | exact ⟨A4, S4⟩ | exact ⟨A5, S5⟩ | exact ⟨A6, S6⟩ | exact ⟨A7, S7⟩) ?_
  refine W_aloadN d19_9 (pc' := 10) rfl A0 rfl ?_
  refine W_aloadN d19_10 (pc' := 11) rfl A1 rfl ?_
  refine W_putfield d19_11 (pc' := 14) rfl (w81 K) Via.refl (Or.inl (w82 K)) (lay_MutableBigInteger K) A0 pf1 rfl rfl S0 (by first | exact ⟨A0, S0⟩ | exact ⟨A1, S1⟩ | exact ⟨A2, S2⟩ | exact ⟨A3, S3⟩ | exact ⟨A4, S4⟩ | exact ⟨A5, S5⟩ | exact ⟨A6, S6⟩ | exact ⟨A7, S7⟩) ?_
  refine W_aloadN d19_14 (pc' := 15) rfl A0 rfl ?_
  refine W_aloadN d19_15 (pc' := 16) rfl A1 rfl ?_
  refine W_arraylengthX d19_16 (pc' := 17) rfl (Tl1 ht) rfl ?_
  refine W_putfield d19_17 (pc' := 20) rfl (w66 K) Via.refl (Or.inl (w67 K)) (lay_MutableBigInteger K) A1 pf0 rfl rfl S1 (by first | exact ⟨A0, S0⟩ | exact ⟨A1, S1⟩ | exact ⟨A2, S2⟩ | exact ⟨A3, S3⟩ | exact ⟨A4, S4⟩ | exact ⟨A5, S5⟩ | exact ⟨A6, S6⟩ | exact ⟨A7, S7⟩) ?_
  exact W_return d19_20 rfl (by first | decide | (dsimp only; omega) | omega) (by first | decide | (dsimp only; omega) | omega) ⟨rfl, rfl⟩
theorem m_gma {l : Launch} {Z : State} {a0 : Array Value} (K : Ok Z a0) {u t : Addr} {vs : List Value} {L : List Atom} {i j : Nat} {f1 f2 : Bool} (hu : L[i]? = some (f1, u, IsObj Z "java/math/MutableBigInteger" fl_MutableBigInteger [.ref t, .int (Int32.ofNat vs.length), .int 0])) (ht : L[j]? = some (f2, t, IsArrX Z "[I" .int vs)) :
    Meth l Z a0 EL (⟨"java/math/MutableBigInteger", "getMagnitudeArray", "()[I"⟩ : MethodName) jdk_2101_method_7_code 2 (some (.array .int)) ({ frames := 0, cells := 0, slots := 0, locals := 0 } : Room) [.ref u] L (fun v L' => v = some (.ref t) ∧ L' = L) := by
  refine MethW.of_wp (Ls := [.val (.ref u), .unset]) (plainFor_of_name pn2) (EWof K) (by first | rfl | (simp [argsToLocals, Value.category]; done)) (fun r => ?_)
  show WP _ _ _ _ _ _ _ _ _ _ _ _ _ _ _ _ _ _
  refine W_aloadN d20_0 (pc' := 1) rfl A0 rfl ?_
  refine W_getfield d20_1 (pc' := 4) rfl (w62 K) Via.refl (by first | assumption | exact A0 | exact A1 | exact A2 | exact A3 | exact A4 | exact A5 | exact A6 | exact A7 | exact Tl1 ‹_› | exact Tl2 ‹_› | exact Tl3 ‹_› | exact Tl4 ‹_› | exact Tl5 ‹_› | exact Tl6 ‹_› | exact Tl7 ‹_› | exact Tl8 ‹_›) A2 A2 ?_
  refine W_if_gt_F d20_4 (pc' := 7) rfl (by decide) ?_
  refine W_aloadN d20_7 (pc' := 8) rfl A0 rfl ?_
  refine W_getfield d20_8 (pc' := 11) rfl (w81 K) Via.refl (by first | assumption | exact A0 | exact A1 | exact A2 | exact A3 | exact A4 | exact A5 | exact A6 | exact A7 | exact Tl1 ‹_› | exact Tl2 ‹_› | exact Tl3 ‹_› | exact Tl4 ‹_› | exact Tl5 ‹_› | exact Tl6 ‹_› | exact Tl7 ‹_› | exact Tl8 ‹_›) A0 A0 ?_
  refine W_arraylengthX d20_11 (pc' := 12) rfl ht rfl ?_
  refine W_aloadN d20_12 (pc' := 13) rfl A0 rfl ?_
  refine W_getfield d20_13 (pc' := 16) rfl (w66 K) Via.refl (by first | assumption | exact A0 | exact A1 | exact A2 | exact A3 | exact A4 | exact A5 | exact A6 | exact A7 | exact Tl1 ‹_› | exact Tl2 ‹_› | exact Tl3 ‹_› | exact Tl4 ‹_› | exact Tl5 ‹_› | exact Tl6 ‹_› | exact Tl7 ‹_› | exact Tl8 ‹_›) A1 A1 ?_
  refine W_icmp_eq_T d20_16 (pc' := 64) (by decide) (by decide) rfl ?_
  refine W_aloadN d20_64 (pc' := 65) rfl A0 rfl ?_
  refine W_getfield d20_65 (pc' := 68) rfl (w81 K) Via.refl (by first | assumption | exact A0 | exact A1 | exact A2 | exact A3 | exact A4 | exact A5 | exact A6 | exact A7 | exact Tl1 ‹_› | exact Tl2 ‹_› | exact Tl3 ‹_› | exact Tl4 ‹_› | exact Tl5 ‹_› | exact Tl6 ‹_› | exact Tl7 ‹_› | exact Tl8 ‹_›) A0 A0 ?_
  exact W_areturn d20_68 rfl rfl rfl rfl (by first | decide | (dsimp only; omega) | omega) (by first | decide | (dsimp only; omega) | omega) ⟨rfl, rfl⟩
theorem m_tbi {l : Launch} {Z : State} {a0 : Array Value} (K : Ok Z a0) {u t : Addr} {s : Int32} {vs : List Value} {F : List Atom} (h0 : 0 < vs.length) (h1 : vs.length ≤ 2) (hs : s ≠ 0) :
    Meth l Z a0 EL (⟨"java/math/MutableBigInteger", "toBigInteger", "(I)Ljava/math/BigInteger;"⟩ : MethodName) jdk_2101_method_9_code 2 (some (.object "java/math/BigInteger")) ({ frames := 3, cells := 1, slots := 6, locals := 39 } : Room) [.ref u, .int s] ((true, u, IsObj Z "java/math/MutableBigInteger" fl_MutableBigInteger [.ref t, .int (Int32.ofNat vs.length), .int 0]) :: (true, t, IsArrX Z "[I" .int vs) :: F) (fun v L' => ∃ g, v = some (.ref g) ∧ L' = (false, g, IsObj Z "java/math/BigInteger" fl_BigInteger [.int s, .ref t]) :: (false, t, IsArrX Z "[I" .int vs) :: F) := by
  refine MethW.of_wp (Ls := [.val (.ref u), .val (.int s)]) (plainFor_of_name pn2) (EWof K) (by first | rfl | (simp [argsToLocals, Value.category]; done)) (fun r => ?_)
  show WP _ _ _ _ _ _ _ _ _ _ _ _ _ _ _ _ _ _
  refine W_aloadN d21_0 (pc' := 1) rfl A0 rfl ?_
  refine W_getfield d21_1 (pc' := 4) rfl (w66 K) Via.refl (by first | assumption | exact A0 | exact A1 | exact A2 | exact A3 | exact A4 | exact A5 | exact A6 | exact A7 | exact Tl1 ‹_› | exact Tl2 ‹_› | exact Tl3 ‹_› | exact Tl4 ‹_› | exact Tl5 ‹_› | exact Tl6 ‹_› | exact Tl7 ‹_› | exact Tl8 ‹_›) A1 A1 ?_
  refine W_if_eq_F d21_4 (pc' := 7) rfl (ofNat_nz h0 (by omega)) ?_
  refine W_iloadN d21_7 (pc' := 8) rfl A1 ?_
  refine W_if_ne_T d21_8 (pc' := 15) (by decide) (by decide) hs ?_
  refine W_new d21_15 (pc' := 18) rfl (w126 K) (w127 K) (w8 K) (lay_BigInteger K) df_BigInteger (by decide) (by decide) (fun g => ?_)
  refine W_dup d21_18 (pc' := 19) rfl rfl ?_
  refine W_aloadN d21_19 (pc' := 20) rfl A0 rfl ?_
  refine W_virtual d21_20 (pc' := 23) rfl rfl (w128 K) (decl_of (w129 K) (w132 K)) (NF.sel (w131 K)) (w131 K) (w129 K) (w56 K) (w132 K) (by decide) (m_gma K A1 A2) ar7 rfl (by first | assumption | exact A0 | exact A1 | exact A2 | exact A3 | exact A4 | exact A5 | exact A6 | exact A7 | exact Tl1 ‹_› | exact Tl2 ‹_› | exact Tl3 ‹_› | exact Tl4 ‹_› | exact Tl5 ‹_› | exact Tl6 ‹_› | exact Tl7 ‹_› | exact Tl8 ‹_›) (by decide) (Nat.le_of_ble_eq_true rfl) (by first | decide | (dsimp only; omega) | omega) (by first | decide | (dsimp only; omega) | omega) ?_
  rintro _ _ ⟨rfl, rfl⟩
  simp only [Option.toList_some, Option.toList_none, List.cons_append, List.nil_append]
  refine W_iloadN d21_23 (pc' := 24) rfl A1 ?_
  refine W_special d21_24 (pc' := 27) rfl rfl rfl (w133 K) (w134 K) (w8 K) (w136 K) (by decide) (m_biA K A1 h0 h1) ar8 rfl (by decide) (Nat.le_of_ble_eq_true rfl) (by first | decide | (dsimp only; omega) | omega) (by first | decide | (dsimp only; omega) | omega) ?_
  rintro _ _ ⟨rfl, rfl⟩
  simp only [Option.toList_some, Option.toList_none, List.cons_append, List.nil_append]
  refine W_focus (a := u) (by first | exact ⟨A0, E0⟩ | exact ⟨A1, E1⟩ | exact ⟨A2, E2⟩ | exact ⟨A3, E3⟩ | exact ⟨A4, E4⟩ | exact ⟨A5, E5⟩ | exact ⟨A6, E6⟩ | exact ⟨A7, E7⟩) (W_drop (W_focus (a := t) (by first | exact ⟨A0, E0⟩ | exact ⟨A1, E1⟩ | exact ⟨A2, E2⟩ | exact ⟨A3, E3⟩ | exact ⟨A4, E4⟩ | exact ⟨A5, E5⟩ | exact ⟨A6, E6⟩ | exact ⟨A7, E7⟩) (W_frz (W_focus (a := g) (by first | exact ⟨A0, E0⟩ | exact ⟨A1, E1⟩ | exact ⟨A2, E2⟩ | exact ⟨A3, E3⟩ | exact ⟨A4, E4⟩ | exact ⟨A5, E5⟩ | exact ⟨A6, E6⟩ | exact ⟨A7, E7⟩) (W_frz ?_)))))
  exact W_areturn d21_27 rfl rfl rfl rfl (by first | decide | (dsimp only; omega) | omega) (by first | decide | (dsimp only; omega) | omega) ⟨g, rfl, rfl⟩
theorem m_tbi0 {l : Launch} {Z : State} {a0 : Array Value} (K : Ok Z a0) {u t : Addr} {s : Int32} {F : List Atom} :
    Meth l Z a0 EL (⟨"java/math/MutableBigInteger", "toBigInteger", "(I)Ljava/math/BigInteger;"⟩ : MethodName) jdk_2101_method_9_code 2 (some (.object "java/math/BigInteger")) ({ frames := 3, cells := 1, slots := 6, locals := 39 } : Room) [.ref u, .int s] ((true, u, IsObj Z "java/math/MutableBigInteger" fl_MutableBigInteger [.ref t, .int 0, .int 0]) :: F) (fun v L' => ∃ g tg, v = some (.ref g) ∧ L' = (false, g, IsObj Z "java/math/BigInteger" fl_BigInteger [.int 0, .ref tg]) :: (false, tg, IsArrX Z "[I" .int []) :: F) := by
  obtain ⟨g, hz, tg, cb, ct, z1, z2, z3, z4⟩ := K.zero
  refine MethW.of_wp (Ls := [.val (.ref u), .val (.int s)]) (plainFor_of_name pn2) (EWof K) (by first | rfl | (simp [argsToLocals, Value.category]; done)) (fun r => ?_)
  show WP _ _ _ _ _ _ _ _ _ _ _ _ _ _ _ _ _ _
  refine W_aloadN d21_0 (pc' := 1) rfl A0 rfl ?_
  refine W_getfield d21_1 (pc' := 4) rfl (w66 K) Via.refl (by first | assumption | exact A0 | exact A1 | exact A2 | exact A3 | exact A4 | exact A5 | exact A6 | exact A7 | exact Tl1 ‹_› | exact Tl2 ‹_› | exact Tl3 ‹_› | exact Tl4 ‹_› | exact Tl5 ‹_› | exact Tl6 ‹_› | exact Tl7 ‹_› | exact Tl8 ‹_›) A1 A1 ?_
  refine W_if_eq_T d21_4 (pc' := 11) (by decide) (by decide) rfl ?_
  refine W_getstatic d21_11 (pc' := 14) rfl (w285 K) Via.refl hz ?_
  refine W_drop (W_old z3 z4 (W_old z1 z2 ?_))
  exact W_areturn d21_14 rfl rfl rfl rfl (by first | decide | (dsimp only; omega) | omega) (by first | decide | (dsimp only; omega) | omega) ⟨g, tg, rfl, rfl⟩
theorem m_hyb1 {l : Launch} {Z : State} {a0 : Array Value} (K : Ok Z a0) {u tu w tw : Addr} {x : Int32} {F : List Atom} (hx : x ≠ 0) :
    Meth l Z a0 EL (⟨"java/math/MutableBigInteger", "hybridGCD", "(Ljava/math/MutableBigInteger;)Ljava/math/MutableBigInteger;"⟩ : MethodName) jdk_2101_method_72_code 5 (some (.object "java/math/MutableBigInteger")) ({ frames := 4, cells := 4, slots := 8, locals := 66 } : Room) [.ref u, .ref w] ((true, u, IsObj Z "java/math/MutableBigInteger" fl_MutableBigInteger [.ref tu, .int 1, .int 0]) :: (true, tu, IsArrX Z "[I" .int [.int x]) :: (true, w, IsObj Z "java/math/MutableBigInteger" fl_MutableBigInteger [.ref tw, .int 1, .int 0]) :: (true, tw, IsArrX Z "[I" .int [.int 1]) :: F) (fun v L' => ∃ rr tr, v = some (.ref rr) ∧ L' = (true, rr, IsObj Z "java/math/MutableBigInteger" fl_MutableBigInteger [.ref tr, .int 1, .int 0]) :: (true, tr, IsArrX Z "[I" .int [.int 1]) :: F) := by
  refine MethW.of_wp (Ls := [.val (.ref u), .val (.ref w), .unset, .unset, .unset]) (plainFor_of_name pn2) (EWof K) (by first | rfl | (simp [argsToLocals, Value.category]; done)) (fun r => ?_)
  show WP _ _ _ _ _ _ _ _ _ _ _ _ _ _ _ _ _ _
  refine W_aloadN d22_0 (pc' := 1) rfl A0 rfl ?_
  refine W_astoreN d22_1 (pc' := 2) rfl A2 rfl rfl S2 ?_
  refine W_new d22_2 (pc' := 5) rfl (w88 K) (w55 K) (w56 K) (lay_MutableBigInteger K) df_MutableBigInteger (by decide) (by decide) (fun q => ?_)
  refine W_dup d22_5 (pc' := 6) rfl rfl ?_
  refine W_special d22_6 (pc' := 9) rfl rfl rfl (w89 K) (w90 K) (w56 K) (w91 K) (by decide) (m_mbi0 K) ar3 rfl (by decide) (Nat.le_of_ble_eq_true rfl) (by first | decide | (dsimp only; omega) | omega) (by first | decide | (dsimp only; omega) | omega) ?_
  rintro _ _ ⟨tq, rfl, rfl⟩
  simp only [Option.toList_some, Option.toList_none, List.cons_append, List.nil_append]
  refine W_drop (W_drop ?_)
  refine W_astoreN d22_9 (pc' := 10) rfl A3 rfl rfl S3 ?_
  refine W_aloadN d22_10 (pc' := 11) rfl A1 rfl ?_
  refine W_getfield d22_11 (pc' := 14) rfl (w66 K) Via.refl (by first | assumption | exact A0 | exact A1 | exact A2 | exact A3 | exact A4 | exact A5 | exact A6 | exact A7 | exact Tl1 ‹_› | exact Tl2 ‹_› | exact Tl3 ‹_› | exact Tl4 ‹_› | exact Tl5 ‹_› | exact Tl6 ‹_› | exact Tl7 ‹_› | exact Tl8 ‹_›) A1 A1 ?_
  refine W_if_eq_F d22_14 (pc' := 17) rfl (by decide) ?_
  refine W_aloadN d22_17 (pc' := 18) rfl A2 rfl ?_
  refine W_getfield d22_18 (pc' := 21) rfl (w66 K) Via.refl (by first | assumption | exact A0 | exact A1 | exact A2 | exact A3 | exact A4 | exact A5 | exact A6 | exact A7 | exact Tl1 ‹_› | exact Tl2 ‹_› | exact Tl3 ‹_› | exact Tl4 ‹_› | exact Tl5 ‹_› | exact Tl6 ‹_› | exact Tl7 ‹_› | exact Tl8 ‹_›) A1 A1 ?_
  refine W_aloadN d22_21 (pc' := 22) rfl A1 rfl ?_
  refine W_getfield d22_22 (pc' := 25) rfl (w66 K) Via.refl (by first | assumption | exact A0 | exact A1 | exact A2 | exact A3 | exact A4 | exact A5 | exact A6 | exact A7 | exact Tl1 ‹_› | exact Tl2 ‹_› | exact Tl3 ‹_› | exact Tl4 ‹_› | exact Tl5 ‹_› | exact Tl6 ‹_› | exact Tl7 ‹_› | exact Tl8 ‹_›) A1 A1 ?_
  refine W_isub d22_25 (pc' := 26) rfl ?_
  rw [show (1 : Int32) - 1 = 0 from rfl]
  refine W_static d22_26 (pc' := 29) rfl rfl (w93 K) (w94 K) (w95 K) (w96 K) (by decide) (m_mabs0 K) ar0 rfl (by decide) (Nat.le_of_ble_eq_true rfl) (by first | decide | (dsimp only; omega) | omega) (by first | decide | (dsimp only; omega) | omega) ?_
  rintro _ _ ⟨rfl, rfl⟩
  simp only [Option.toList_some, Option.toList_none, List.cons_append, List.nil_append]
  refine W_iconst d22_29 (pc' := 30) (v := 2) rfl (by decide) ?_
  refine W_icmp_ge_F d22_30 (pc' := 33) rfl (by decide) ?_
  refine W_aloadN d22_33 (pc' := 34) rfl A2 rfl ?_
  refine W_aloadN d22_34 (pc' := 35) rfl A1 rfl ?_
  refine W_virtual d22_35 (pc' := 38) rfl rfl (w97 K) (decl_of (w98 K) (w101 K)) (NF.sel (w100 K)) (w100 K) (w98 K) (w56 K) (w101 K) (by decide) (m_bgcd1 K hx) ar9 rfl (by first | assumption | exact A0 | exact A1 | exact A2 | exact A3 | exact A4 | exact A5 | exact A6 | exact A7 | exact Tl1 ‹_› | exact Tl2 ‹_› | exact Tl3 ‹_› | exact Tl4 ‹_› | exact Tl5 ‹_› | exact Tl6 ‹_› | exact Tl7 ‹_› | exact Tl8 ‹_›) (by decide) (Nat.le_of_ble_eq_true rfl) (by first | decide | (dsimp only; omega) | omega) (by first | decide | (dsimp only; omega) | omega) ?_
  rintro _ _ ⟨rr, tr, rfl, rfl⟩
  simp only [Option.toList_some, Option.toList_none, List.cons_append, List.nil_append]
  exact W_areturn d22_38 rfl rfl rfl rfl (by first | decide | (dsimp only; omega) | omega) (by first | decide | (dsimp only; omega) | omega) ⟨rr, tr, rfl, rfl⟩
theorem m_hyb2 {l : Launch} {Z : State} {a0 : Array Value} (K : Ok Z a0) {u tu w tw : Addr} {h l' : Int32} {F : List Atom} (hh : h ≠ 0) :
    Meth l Z a0 EL (⟨"java/math/MutableBigInteger", "hybridGCD", "(Ljava/math/MutableBigInteger;)Ljava/math/MutableBigInteger;"⟩ : MethodName) jdk_2101_method_72_code 5 (some (.object "java/math/MutableBigInteger")) ({ frames := 4, cells := 4, slots := 8, locals := 66 } : Room) [.ref u, .ref w] ((true, u, IsObj Z "java/math/MutableBigInteger" fl_MutableBigInteger [.ref tu, .int 2, .int 0]) :: (true, tu, IsArrX Z "[I" .int [.int h, .int l']) :: (true, w, IsObj Z "java/math/MutableBigInteger" fl_MutableBigInteger [.ref tw, .int 1, .int 0]) :: (true, tw, IsArrX Z "[I" .int [.int 1]) :: F) (fun v L' => ∃ rr tr, v = some (.ref rr) ∧ L' = (true, rr, IsObj Z "java/math/MutableBigInteger" fl_MutableBigInteger [.ref tr, .int 1, .int 0]) :: (true, tr, IsArrX Z "[I" .int [.int 1]) :: F) := by
  refine MethW.of_wp (Ls := [.val (.ref u), .val (.ref w), .unset, .unset, .unset]) (plainFor_of_name pn2) (EWof K) (by first | rfl | (simp [argsToLocals, Value.category]; done)) (fun r => ?_)
  show WP _ _ _ _ _ _ _ _ _ _ _ _ _ _ _ _ _ _
  refine W_aloadN d22_0 (pc' := 1) rfl A0 rfl ?_
  refine W_astoreN d22_1 (pc' := 2) rfl A2 rfl rfl S2 ?_
  refine W_new d22_2 (pc' := 5) rfl (w88 K) (w55 K) (w56 K) (lay_MutableBigInteger K) df_MutableBigInteger (by decide) (by decide) (fun q => ?_)
  refine W_dup d22_5 (pc' := 6) rfl rfl ?_
  refine W_special d22_6 (pc' := 9) rfl rfl rfl (w89 K) (w90 K) (w56 K) (w91 K) (by decide) (m_mbi0 K) ar3 rfl (by decide) (Nat.le_of_ble_eq_true rfl) (by first | decide | (dsimp only; omega) | omega) (by first | decide | (dsimp only; omega) | omega) ?_
  rintro _ _ ⟨tq, rfl, rfl⟩
  simp only [Option.toList_some, Option.toList_none, List.cons_append, List.nil_append]
  refine W_drop (W_drop ?_)
  refine W_astoreN d22_9 (pc' := 10) rfl A3 rfl rfl S3 ?_
  refine W_aloadN d22_10 (pc' := 11) rfl A1 rfl ?_
  refine W_getfield d22_11 (pc' := 14) rfl (w66 K) Via.refl (by first | assumption | exact A0 | exact A1 | exact A2 | exact A3 | exact A4 | exact A5 | exact A6 | exact A7 | exact Tl1 ‹_› | exact Tl2 ‹_› | exact Tl3 ‹_› | exact Tl4 ‹_› | exact Tl5 ‹_› | exact Tl6 ‹_› | exact Tl7 ‹_› | exact Tl8 ‹_›) A1 A1 ?_
  refine W_if_eq_F d22_14 (pc' := 17) rfl (by decide) ?_
  refine W_aloadN d22_17 (pc' := 18) rfl A2 rfl ?_
  refine W_getfield d22_18 (pc' := 21) rfl (w66 K) Via.refl (by first | assumption | exact A0 | exact A1 | exact A2 | exact A3 | exact A4 | exact A5 | exact A6 | exact A7 | exact Tl1 ‹_› | exact Tl2 ‹_› | exact Tl3 ‹_› | exact Tl4 ‹_› | exact Tl5 ‹_› | exact Tl6 ‹_› | exact Tl7 ‹_› | exact Tl8 ‹_›) A1 A1 ?_
  refine W_aloadN d22_21 (pc' := 22) rfl A1 rfl ?_
  refine W_getfield d22_22 (pc' := 25) rfl (w66 K) Via.refl (by first | assumption | exact A0 | exact A1 | exact A2 | exact A3 | exact A4 | exact A5 | exact A6 | exact A7 | exact Tl1 ‹_› | exact Tl2 ‹_› | exact Tl3 ‹_› | exact Tl4 ‹_› | exact Tl5 ‹_› | exact Tl6 ‹_› | exact Tl7 ‹_› | exact Tl8 ‹_›) A1 A1 ?_
  refine W_isub d22_25 (pc' := 26) rfl ?_
  rw [show (2 : Int32) - 1 = 1 from rfl]
  refine W_static d22_26 (pc' := 29) rfl rfl (w93 K) (w94 K) (w95 K) (w96 K) (by decide) (m_mabs1 K) ar0 rfl (by decide) (Nat.le_of_ble_eq_true rfl) (by first | decide | (dsimp only; omega) | omega) (by first | decide | (dsimp only; omega) | omega) ?_
  rintro _ _ ⟨rfl, rfl⟩
  simp only [Option.toList_some, Option.toList_none, List.cons_append, List.nil_append]
  refine W_iconst d22_29 (pc' := 30) (v := 2) rfl (by decide) ?_
  refine W_icmp_ge_F d22_30 (pc' := 33) rfl (by decide) ?_
  refine W_aloadN d22_33 (pc' := 34) rfl A2 rfl ?_
  refine W_aloadN d22_34 (pc' := 35) rfl A1 rfl ?_
  refine W_virtual d22_35 (pc' := 38) rfl rfl (w97 K) (decl_of (w98 K) (w101 K)) (NF.sel (w100 K)) (w100 K) (w98 K) (w56 K) (w101 K) (by decide) (m_bgcd2 K hh) ar9 rfl (by first | assumption | exact A0 | exact A1 | exact A2 | exact A3 | exact A4 | exact A5 | exact A6 | exact A7 | exact Tl1 ‹_› | exact Tl2 ‹_› | exact Tl3 ‹_› | exact Tl4 ‹_› | exact Tl5 ‹_› | exact Tl6 ‹_› | exact Tl7 ‹_› | exact Tl8 ‹_›) (by decide) (Nat.le_of_ble_eq_true rfl) (by first | decide | (dsimp only; omega) | omega) (by first | decide | (dsimp only; omega) | omega) ?_
  rintro _ _ ⟨rr, tr, rfl, rfl⟩
  simp only [Option.toList_some, Option.toList_none, List.cons_append, List.nil_append]
  exact W_areturn d22_38 rfl rfl rfl rfl (by first | decide | (dsimp only; omega) | omega) (by first | decide | (dsimp only; omega) | omega) ⟨rr, tr, rfl, rfl⟩
theorem m_babs {l : Launch} {Z : State} {a0 : Array Value} (K : Ok Z a0) {b : Addr} {tv : Value} {L : List Atom} {i : Nat} {f1 : Bool} (hb : L[i]? = some (f1, b, IsObj Z "java/math/BigInteger" fl_BigInteger [.int 1, tv])) : Meth l Z a0 EL (⟨"java/math/BigInteger", "abs", "()Ljava/math/BigInteger;"⟩ : MethodName) jdk_2097_method_79_code 1 (some (.object "java/math/BigInteger")) ({ frames := 0, cells := 0, slots := 0, locals := 0 } : Room) [.ref b] L (fun v L' => v = some (.ref b) ∧ L' = L) := by
  refine MethW.of_wp (Ls := [.val (.ref b)]) (plainFor_of_name pn1) (EWof K) (by first | rfl | (simp [argsToLocals, Value.category]; done)) (fun r => ?_)
  show WP _ _ _ _ _ _ _ _ _ _ _ _ _ _ _ _ _ _
  refine W_aloadN d23_0 (pc' := 1) rfl A0 rfl ?_
  refine W_getfield d23_1 (pc' := 4) rfl (w47 K) Via.refl (by first | assumption | exact A0 | exact A1 | exact A2 | exact A3 | exact A4 | exact A5 | exact A6 | exact A7 | exact Tl1 ‹_› | exact Tl2 ‹_› | exact Tl3 ‹_› | exact Tl4 ‹_› | exact Tl5 ‹_› | exact Tl6 ‹_› | exact Tl7 ‹_› | exact Tl8 ‹_›) A0 A0 ?_
  refine W_if_lt_F d23_4 (pc' := 7) rfl (by decide) ?_
  refine W_aloadN d23_7 (pc' := 8) rfl A0 rfl ?_
  refine W_goto d23_8 (pc' := 15) (by decide) (by decide) ?_
  exact W_areturn d23_15 rfl rfl rfl rfl (by first | decide | (dsimp only; omega) | omega) (by first | decide | (dsimp only; omega) | omega) ⟨rfl, rfl⟩
theorem m_gcd0 {l : Launch} {Z : State} {a0 : Array Value} (K : Ok Z a0) {b o t1 : Addr} {tv : Value} {F : List Atom} {i j k : Nat} {f1 : Bool} (hb : F[i]? = some (f1, b, IsObj Z "java/math/BigInteger" fl_BigInteger [.int 0, tv])) (ho : F[j]? = some (false, o, IsObj Z "java/math/BigInteger" fl_BigInteger [.int 1, .ref t1])) (ht1 : F[k]? = some (false, t1, IsArrX Z "[I" .int [.int 1])) :
    Meth l Z a0 EL (⟨"java/math/BigInteger", "gcd", "(Ljava/math/BigInteger;)Ljava/math/BigInteger;"⟩ : MethodName) jdk_2097_method_73_code 5 (some (.object "java/math/BigInteger")) ({ frames := 5, cells := 12, slots := 40, locals := 82 } : Room) [.ref b, .ref o] F (fun v L' => ∃ g tg, v = some (.ref g) ∧ L' = (false, g, IsObj Z "java/math/BigInteger" fl_BigInteger [.int 1, .ref tg]) :: (false, tg, IsArrX Z "[I" .int [.int 1]) :: F) := by
  refine MethW.of_wp (Ls := [.val (.ref b), .val (.ref o), .unset, .unset, .unset]) (plainFor_of_name pn1) (EWof K) (by first | rfl | (simp [argsToLocals, Value.category]; done)) (fun r => ?_)
  show WP _ _ _ _ _ _ _ _ _ _ _ _ _ _ _ _ _ _
  refine W_aloadN d24_0 (pc' := 1) rfl A1 rfl ?_
  refine W_getfield d24_1 (pc' := 4) rfl (w47 K) Via.refl (by first | assumption | exact A0 | exact A1 | exact A2 | exact A3 | exact A4 | exact A5 | exact A6 | exact A7 | exact Tl1 ‹_› | exact Tl2 ‹_› | exact Tl3 ‹_› | exact Tl4 ‹_› | exact Tl5 ‹_› | exact Tl6 ‹_› | exact Tl7 ‹_› | exact Tl8 ‹_›) A0 A0 ?_
  refine W_if_ne_T d24_4 (pc' := 12) (by decide) (by decide) (by decide) ?_
  refine W_aloadN d24_12 (pc' := 13) rfl A0 rfl ?_
  refine W_getfield d24_13 (pc' := 16) rfl (w47 K) Via.refl (by first | assumption | exact A0 | exact A1 | exact A2 | exact A3 | exact A4 | exact A5 | exact A6 | exact A7 | exact Tl1 ‹_› | exact Tl2 ‹_› | exact Tl3 ‹_› | exact Tl4 ‹_› | exact Tl5 ‹_› | exact Tl6 ‹_› | exact Tl7 ‹_› | exact Tl8 ‹_›) A0 A0 ?_
  refine W_if_ne_F d24_16 (pc' := 19) rfl rfl ?_
  refine W_aloadN d24_19 (pc' := 20) rfl A1 rfl ?_
  refine W_virtual d24_20 (pc' := 23) rfl rfl (w280 K) (w281 K) (NF.sel (w283 K)) (w283 K) (w282 K) (w8 K) (w284 K) (by decide) (m_babs K ho) ar10 rfl (by first | assumption | exact A0 | exact A1 | exact A2 | exact A3 | exact A4 | exact A5 | exact A6 | exact A7 | exact Tl1 ‹_› | exact Tl2 ‹_› | exact Tl3 ‹_› | exact Tl4 ‹_› | exact Tl5 ‹_› | exact Tl6 ‹_› | exact Tl7 ‹_› | exact Tl8 ‹_›) (by decide) (Nat.le_of_ble_eq_true rfl) (by first | decide | (dsimp only; omega) | omega) (by first | decide | (dsimp only; omega) | omega) ?_
  rintro _ _ ⟨rfl, rfl⟩
  simp only [Option.toList_some, Option.toList_none, List.cons_append, List.nil_append]
  refine W_dupl ht1 (W_dupl (Tl1 ho) ?_)
  exact W_areturn d24_23 rfl rfl rfl rfl (by first | decide | (dsimp only; omega) | omega) (by first | decide | (dsimp only; omega) | omega) ⟨o, t1, rfl, rfl⟩
theorem m_gcd1 {l : Launch} {Z : State} {a0 : Array Value} (K : Ok Z a0) {b t o t1 : Addr} {sg : Int32} {x : Int32} {F : List Atom} {i i2 j k : Nat} {f1 f2 f3 f4 : Bool} (hb : F[i]? = some (f1, b, IsObj Z "java/math/BigInteger" fl_BigInteger [.int sg, .ref t])) (ht : F[i2]? = some (f2, t, IsArrX Z "[I" .int [.int x])) (hs : sg ≠ 0) (hx : x ≠ 0) (ho : F[j]? = some (f3, o, IsObj Z "java/math/BigInteger" fl_BigInteger [.int 1, .ref t1])) (ht1 : F[k]? = some (f4, t1, IsArrX Z "[I" .int [.int 1])) :
    Meth l Z a0 EL (⟨"java/math/BigInteger", "gcd", "(Ljava/math/BigInteger;)Ljava/math/BigInteger;"⟩ : MethodName) jdk_2097_method_73_code 5 (some (.object "java/math/BigInteger")) ({ frames := 5, cells := 12, slots := 40, locals := 82 } : Room) [.ref b, .ref o] F (fun v L' => ∃ g tg, v = some (.ref g) ∧ L' = (false, g, IsObj Z "java/math/BigInteger" fl_BigInteger [.int 1, .ref tg]) :: (false, tg, IsArrX Z "[I" .int [.int 1]) :: F) := by
  refine MethW.of_wp (Ls := [.val (.ref b), .val (.ref o), .unset, .unset, .unset]) (plainFor_of_name pn1) (EWof K) (by first | rfl | (simp [argsToLocals, Value.category]; done)) (fun r => ?_)
  show WP _ _ _ _ _ _ _ _ _ _ _ _ _ _ _ _ _ _
  refine W_aloadN d24_0 (pc' := 1) rfl A1 rfl ?_
  refine W_getfield d24_1 (pc' := 4) rfl (w47 K) Via.refl (by first | assumption | exact A0 | exact A1 | exact A2 | exact A3 | exact A4 | exact A5 | exact A6 | exact A7 | exact Tl1 ‹_› | exact Tl2 ‹_› | exact Tl3 ‹_› | exact Tl4 ‹_› | exact Tl5 ‹_› | exact Tl6 ‹_› | exact Tl7 ‹_› | exact Tl8 ‹_›) A0 A0 ?_
  refine W_if_ne_T d24_4 (pc' := 12) (by decide) (by decide) (by decide) ?_
  refine W_aloadN d24_12 (pc' := 13) rfl A0 rfl ?_
  refine W_getfield d24_13 (pc' := 16) rfl (w47 K) Via.refl (by first | assumption | exact A0 | exact A1 | exact A2 | exact A3 | exact A4 | exact A5 | exact A6 | exact A7 | exact Tl1 ‹_› | exact Tl2 ‹_› | exact Tl3 ‹_› | exact Tl4 ‹_› | exact Tl5 ‹_› | exact Tl6 ‹_› | exact Tl7 ‹_› | exact Tl8 ‹_›) A0 A0 ?_
  refine W_if_ne_T d24_16 (pc' := 24) (by decide) (by decide) hs ?_
  refine W_new d24_24 (pc' := 27) rfl (w54 K) (w55 K) (w56 K) (lay_MutableBigInteger K) df_MutableBigInteger (by decide) (by decide) (fun u => ?_)
  refine W_dup d24_27 (pc' := 28) rfl rfl ?_
  refine W_aloadN d24_28 (pc' := 29) rfl A0 rfl ?_
  refine W_special d24_29 (pc' := 32) rfl rfl rfl (w57 K) (w58 K) (w56 K) (w60 K) (by decide) (m_mbiB K hb ht (Nat.le_of_ble_eq_true rfl)) ar11 rfl (by decide) (Nat.le_of_ble_eq_true rfl) (by first | decide | (dsimp only; omega) | omega) (by first | decide | (dsimp only; omega) | omega) ?_
  rintro _ _ ⟨tu, rfl, rfl⟩
  simp only [Option.toList_some, Option.toList_none, List.cons_append, List.nil_append]
  refine W_astoreN d24_32 (pc' := 33) rfl A2 rfl rfl S2 ?_
  refine W_new d24_33 (pc' := 36) rfl (w54 K) (w55 K) (w56 K) (lay_MutableBigInteger K) df_MutableBigInteger (by decide) (by decide) (fun w => ?_)
  refine W_dup d24_36 (pc' := 37) rfl rfl ?_
  refine W_aloadN d24_37 (pc' := 38) rfl A1 rfl ?_
  refine W_special d24_38 (pc' := 41) rfl rfl rfl (w57 K) (w58 K) (w56 K) (w60 K) (by decide) (m_mbiB K (Tl2 ho) (Tl2 ht1) (Nat.le_of_ble_eq_true rfl)) ar11 rfl (by decide) (Nat.le_of_ble_eq_true rfl) (by first | decide | (dsimp only; omega) | omega) (by first | decide | (dsimp only; omega) | omega) ?_
  rintro _ _ ⟨tw, rfl, rfl⟩
  simp only [Option.toList_some, Option.toList_none, List.cons_append, List.nil_append]
  refine W_astoreN d24_41 (pc' := 42) rfl A3 rfl rfl S3 ?_
  refine W_aloadN d24_42 (pc' := 43) rfl A2 rfl ?_
  refine W_aloadN d24_43 (pc' := 44) rfl A3 rfl ?_
  refine W_focus (a := tu) (by first | exact ⟨A0, E0⟩ | exact ⟨A1, E1⟩ | exact ⟨A2, E2⟩ | exact ⟨A3, E3⟩ | exact ⟨A4, E4⟩ | exact ⟨A5, E5⟩ | exact ⟨A6, E6⟩ | exact ⟨A7, E7⟩) (W_focus (a := u) (by first | exact ⟨A0, E0⟩ | exact ⟨A1, E1⟩ | exact ⟨A2, E2⟩ | exact ⟨A3, E3⟩ | exact ⟨A4, E4⟩ | exact ⟨A5, E5⟩ | exact ⟨A6, E6⟩ | exact ⟨A7, E7⟩) ?_)
  refine W_virtual d24_44 (pc' := 47) rfl rfl (w83 K) (w84 K) (NF.sel (w86 K)) (w86 K) (w85 K) (w56 K) (w87 K) (by decide) (m_hyb1 K hx) ar9 rfl (by first | assumption | exact A0 | exact A1 | exact A2 | exact A3 | exact A4 | exact A5 | exact A6 | exact A7 | exact Tl1 ‹_› | exact Tl2 ‹_› | exact Tl3 ‹_› | exact Tl4 ‹_› | exact Tl5 ‹_› | exact Tl6 ‹_› | exact Tl7 ‹_› | exact Tl8 ‹_›) (by decide) (Nat.le_of_ble_eq_true rfl) (by first | decide | (dsimp only; omega) | omega) (by first | decide | (dsimp only; omega) | omega) ?_
  rintro _ _ ⟨rr, tr, rfl, rfl⟩
  simp only [Option.toList_some, Option.toList_none, List.cons_append, List.nil_append]
  refine W_astore d24_47 (pc' := 49) rfl A4 rfl rfl S4 ?_
  refine W_aload d24_49 (pc' := 51) rfl A4 rfl ?_
  refine W_iconst d24_51 (pc' := 52) (v := 1) rfl (by decide) ?_
  refine W_virtual d24_52 (pc' := 55) rfl rfl (w121 K) (w122 K) (NF.sel (w124 K)) (w124 K) (w123 K) (w56 K) (w125 K) (by decide) (m_tbi K (vs := [.int 1]) (lt_ble rfl) (Nat.le_of_ble_eq_true rfl) (by decide)) ar12 rfl (by first | assumption | exact A0 | exact A1 | exact A2 | exact A3 | exact A4 | exact A5 | exact A6 | exact A7 | exact Tl1 ‹_› | exact Tl2 ‹_› | exact Tl3 ‹_› | exact Tl4 ‹_› | exact Tl5 ‹_› | exact Tl6 ‹_› | exact Tl7 ‹_› | exact Tl8 ‹_›) (by decide) (Nat.le_of_ble_eq_true rfl) (by first | decide | (dsimp only; omega) | omega) (by first | decide | (dsimp only; omega) | omega) ?_
  rintro _ _ ⟨g, rfl, rfl⟩
  simp only [Option.toList_some, Option.toList_none, List.cons_append, List.nil_append]
  exact W_areturn d24_55 rfl rfl rfl rfl (by first | decide | (dsimp only; omega) | omega) (by first | decide | (dsimp only; omega) | omega) ⟨g, tr, rfl, rfl⟩
theorem m_gcd2 {l : Launch} {Z : State} {a0 : Array Value} (K : Ok Z a0) {b t o t1 : Addr} {sg : Int32} {h l' : Int32} {F : List Atom} {i i2 j k : Nat} {f1 f2 f3 f4 : Bool} (hb : F[i]? = some (f1, b, IsObj Z "java/math/BigInteger" fl_BigInteger [.int sg, .ref t])) (ht : F[i2]? = some (f2, t, IsArrX Z "[I" .int [.int h, .int l'])) (hs : sg ≠ 0) (hh : h ≠ 0) (ho : F[j]? = some (f3, o, IsObj Z "java/math/BigInteger" fl_BigInteger [.int 1, .ref t1])) (ht1 : F[k]? = some (f4, t1, IsArrX Z "[I" .int [.int 1])) :
    Meth l Z a0 EL (⟨"java/math/BigInteger", "gcd", "(Ljava/math/BigInteger;)Ljava/math/BigInteger;"⟩ : MethodName) jdk_2097_method_73_code 5 (some (.object "java/math/BigInteger")) ({ frames := 5, cells := 12, slots := 40, locals := 82 } : Room) [.ref b, .ref o] F (fun v L' => ∃ g tg, v = some (.ref g) ∧ L' = (false, g, IsObj Z "java/math/BigInteger" fl_BigInteger [.int 1, .ref tg]) :: (false, tg, IsArrX Z "[I" .int [.int 1]) :: F) := by
  refine MethW.of_wp (Ls := [.val (.ref b), .val (.ref o), .unset, .unset, .unset]) (plainFor_of_name pn1) (EWof K) (by first | rfl | (simp [argsToLocals, Value.category]; done)) (fun r => ?_)
  show WP _ _ _ _ _ _ _ _ _ _ _ _ _ _ _ _ _ _
  refine W_aloadN d24_0 (pc' := 1) rfl A1 rfl ?_
  refine W_getfield d24_1 (pc' := 4) rfl (w47 K) Via.refl (by first | assumption | exact A0 | exact A1 | exact A2 | exact A3 | exact A4 | exact A5 | exact A6 | exact A7 | exact Tl1 ‹_› | exact Tl2 ‹_› | exact Tl3 ‹_› | exact Tl4 ‹_› | exact Tl5 ‹_› | exact Tl6 ‹_› | exact Tl7 ‹_› | exact Tl8 ‹_›) A0 A0 ?_
  refine W_if_ne_T d24_4 (pc' := 12) (by decide) (by decide) (by decide) ?_
  refine W_aloadN d24_12 (pc' := 13) rfl A0 rfl ?_
  refine W_getfield d24_13 (pc' := 16) rfl (w47 K) Via.refl (by first | assumption | exact A0 | exact A1 | exact A2 | exact A3 | exact A4 | exact A5 | exact A6 | exact A7 | exact Tl1 ‹_› | exact Tl2 ‹_› | exact Tl3 ‹_› | exact Tl4 ‹_› | exact Tl5 ‹_› | exact Tl6 ‹_› | exact Tl7 ‹_› | exact Tl8 ‹_›) A0 A0 ?_
  refine W_if_ne_T d24_16 (pc' := 24) (by decide) (by decide) hs ?_
  refine W_new d24_24 (pc' := 27) rfl (w54 K) (w55 K) (w56 K) (lay_MutableBigInteger K) df_MutableBigInteger (by decide) (by decide) (fun u => ?_)
  refine W_dup d24_27 (pc' := 28) rfl rfl ?_
  refine W_aloadN d24_28 (pc' := 29) rfl A0 rfl ?_
  refine W_special d24_29 (pc' := 32) rfl rfl rfl (w57 K) (w58 K) (w56 K) (w60 K) (by decide) (m_mbiB K hb ht (Nat.le_of_ble_eq_true rfl)) ar11 rfl (by decide) (Nat.le_of_ble_eq_true rfl) (by first | decide | (dsimp only; omega) | omega) (by first | decide | (dsimp only; omega) | omega) ?_
  rintro _ _ ⟨tu, rfl, rfl⟩
  simp only [Option.toList_some, Option.toList_none, List.cons_append, List.nil_append]
  refine W_astoreN d24_32 (pc' := 33) rfl A2 rfl rfl S2 ?_
  refine W_new d24_33 (pc' := 36) rfl (w54 K) (w55 K) (w56 K) (lay_MutableBigInteger K) df_MutableBigInteger (by decide) (by decide) (fun w => ?_)
  refine W_dup d24_36 (pc' := 37) rfl rfl ?_
  refine W_aloadN d24_37 (pc' := 38) rfl A1 rfl ?_
  refine W_special d24_38 (pc' := 41) rfl rfl rfl (w57 K) (w58 K) (w56 K) (w60 K) (by decide) (m_mbiB K (Tl2 ho) (Tl2 ht1) (Nat.le_of_ble_eq_true rfl)) ar11 rfl (by decide) (Nat.le_of_ble_eq_true rfl) (by first | decide | (dsimp only; omega) | omega) (by first | decide | (dsimp only; omega) | omega) ?_
  rintro _ _ ⟨tw, rfl, rfl⟩
  simp only [Option.toList_some, Option.toList_none, List.cons_append, List.nil_append]
  refine W_astoreN d24_41 (pc' := 42) rfl A3 rfl rfl S3 ?_
  refine W_aloadN d24_42 (pc' := 43) rfl A2 rfl ?_
  refine W_aloadN d24_43 (pc' := 44) rfl A3 rfl ?_
  refine W_focus (a := tu) (by first | exact ⟨A0, E0⟩ | exact ⟨A1, E1⟩ | exact ⟨A2, E2⟩ | exact ⟨A3, E3⟩ | exact ⟨A4, E4⟩ | exact ⟨A5, E5⟩ | exact ⟨A6, E6⟩ | exact ⟨A7, E7⟩) (W_focus (a := u) (by first | exact ⟨A0, E0⟩ | exact ⟨A1, E1⟩ | exact ⟨A2, E2⟩ | exact ⟨A3, E3⟩ | exact ⟨A4, E4⟩ | exact ⟨A5, E5⟩ | exact ⟨A6, E6⟩ | exact ⟨A7, E7⟩) ?_)
  refine W_virtual d24_44 (pc' := 47) rfl rfl (w83 K) (w84 K) (NF.sel (w86 K)) (w86 K) (w85 K) (w56 K) (w87 K) (by decide) (m_hyb2 K hh) ar9 rfl (by first | assumption | exact A0 | exact A1 | exact A2 | exact A3 | exact A4 | exact A5 | exact A6 | exact A7 | exact Tl1 ‹_› | exact Tl2 ‹_› | exact Tl3 ‹_› | exact Tl4 ‹_› | exact Tl5 ‹_› | exact Tl6 ‹_› | exact Tl7 ‹_› | exact Tl8 ‹_›) (by decide) (Nat.le_of_ble_eq_true rfl) (by first | decide | (dsimp only; omega) | omega) (by first | decide | (dsimp only; omega) | omega) ?_
  rintro _ _ ⟨rr, tr, rfl, rfl⟩
  simp only [Option.toList_some, Option.toList_none, List.cons_append, List.nil_append]
  refine W_astore d24_47 (pc' := 49) rfl A4 rfl rfl S4 ?_
  refine W_aload d24_49 (pc' := 51) rfl A4 rfl ?_
  refine W_iconst d24_51 (pc' := 52) (v := 1) rfl (by decide) ?_
  refine W_virtual d24_52 (pc' := 55) rfl rfl (w121 K) (w122 K) (NF.sel (w124 K)) (w124 K) (w123 K) (w56 K) (w125 K) (by decide) (m_tbi K (vs := [.int 1]) (lt_ble rfl) (Nat.le_of_ble_eq_true rfl) (by decide)) ar12 rfl (by first | assumption | exact A0 | exact A1 | exact A2 | exact A3 | exact A4 | exact A5 | exact A6 | exact A7 | exact Tl1 ‹_› | exact Tl2 ‹_› | exact Tl3 ‹_› | exact Tl4 ‹_› | exact Tl5 ‹_› | exact Tl6 ‹_› | exact Tl7 ‹_› | exact Tl8 ‹_›) (by decide) (Nat.le_of_ble_eq_true rfl) (by first | decide | (dsimp only; omega) | omega) (by first | decide | (dsimp only; omega) | omega) ?_
  rintro _ _ ⟨g, rfl, rfl⟩
  simp only [Option.toList_some, Option.toList_none, List.cons_append, List.nil_append]
  exact W_areturn d24_55 rfl rfl rfl rfl (by first | decide | (dsimp only; omega) | omega) (by first | decide | (dsimp only; omega) | omega) ⟨g, tr, rfl, rfl⟩
theorem mskx (x : Int32) : (x.toInt64 &&& 4294967295).toInt32 = x := by
  apply uv_inj
  have m := msk (x := x)
  have c := c_l2i (x.toInt64 &&& 4294967295)
  have u := uv_cast (x.toInt64 &&& 4294967295).toInt32
  have l := uv_lt x
  omega
theorem ldiv1 (x : Int64) : x / 1 = x := Int64.div_one
theorem msk1 : (1 : Int32).toInt64 &&& 4294967295 = 1 := by decide
theorem rem0 (x : Int32) : ((x.toInt64 &&& 4294967295) - x.toInt64 * 1).toInt32 = 0 := by
  rw [Int64.mul_one]
  apply uv_inj
  have m := msk (x := x)
  have g := c_lsub (x.toInt64 &&& 4294967295) x.toInt64
  have e := c_i2l x
  have c := c_l2i ((x.toInt64 &&& 4294967295) - x.toInt64)
  have u := uv_cast ((x.toInt64 &&& 4294967295) - x.toInt64).toInt32
  have u2 := uv_cast x
  have z : uv 0 = 0 := by decide
  have l := uv_lt x
  have l2 := uv_lt ((x.toInt64 &&& 4294967295) - x.toInt64).toInt32
  rw [z]
  omega
theorem msk_ge1 {x : Int32} (h : x ≠ 0) : ¬ XT.cmpL (x.toInt64 &&& 4294967295) 1 < 0 := by
  have m := msk (x := x); have p := uv_pos h
  have z : (1 : Int64).toInt = 1 := rfl
  rcases Nat.lt_or_ge 1 (uv x) with q | q
  · rw [cmpL_gt (Int64.lt_iff_toInt_lt.mpr (by omega))]; decide
  · rw [cmpL_eq (Int64.toInt_inj.mp (by omega))]; decide
theorem msk_ge0 (x : Int32) : ¬ XT.cmpL (x.toInt64 &&& 4294967295) 0 < 0 := by
  have m := msk (x := x)
  have z : (0 : Int64).toInt = 0 := rfl
  rcases Nat.lt_or_ge 0 (uv x) with q | q
  · rw [cmpL_gt (Int64.lt_iff_toInt_lt.mpr (by omega))]; decide
  · rw [cmpL_eq (Int64.toInt_inj.mp (by omega))]; decide
theorem shl0or (y : Int64) : (0 : Int64) <<< ((32 : Int32).toInt64 &&& 63) ||| y = y := by
  rw [show (0 : Int64) <<< ((32 : Int32).toInt64 &&& 63) = 0 by decide, Int64.zero_or]
theorem m_cmp1 {l : Launch} {Z : State} {a0 : Array Value} (K : Ok Z a0) {u w t t' : Addr} {x : Int32} {L : List Atom} {i j i2 j2 : Nat} {b b' b2 b3 : Bool} (hu : L[i]? = some (b, u, IsObj Z "java/math/MutableBigInteger" fl_MutableBigInteger [.ref t, .int 1, .int 0])) (ht : L[i2]? = some (b2, t, IsArrX Z "[I" .int [.int x])) (hw : L[j]? = some (b', w, IsObj Z "java/math/MutableBigInteger" fl_MutableBigInteger [.ref t', .int 1, .int 0])) (ht' : L[j2]? = some (b3, t', IsArrX Z "[I" .int [.int 1])) (hx : x ≠ 0) :
    Meth l Z a0 EL (⟨"java/math/MutableBigInteger", "compare", "(Ljava/math/MutableBigInteger;)I"⟩ : MethodName) jdk_2101_method_15_code 8 (some .int) ({ frames := 0, cells := 0, slots := 0, locals := 0 } : Room) [.ref u, .ref w] L (fun v L' => v = some (.int (if x = 1 then 0 else 1)) ∧ L' = L) := by
  have p := uv_pos hx
  refine MethW.of_wp (Ls := [.val (.ref u), .val (.ref w), .unset, .unset, .unset, .unset, .unset, .unset]) (plainFor_of_name pn2) (EWof K) (by first | rfl | (simp [argsToLocals, Value.category]; done)) (fun r => ?_)
  show WP _ _ _ _ _ _ _ _ _ _ _ _ _ _ _ _ _ _
  refine W_aloadN d9_0 (pc' := 1) rfl A1 rfl ?_
  refine W_getfield d9_1 (pc' := 4) rfl (w66 K) Via.refl (by first | assumption | exact A0 | exact A1 | exact A2 | exact A3 | exact A4 | exact A5 | exact A6 | exact A7 | exact Tl1 ‹_› | exact Tl2 ‹_› | exact Tl3 ‹_› | exact Tl4 ‹_› | exact Tl5 ‹_› | exact Tl6 ‹_› | exact Tl7 ‹_› | exact Tl8 ‹_›) A1 A1 ?_
  refine W_istoreN d9_4 (pc' := 5) rfl A2 rfl S2 ?_
  refine W_aloadN d9_5 (pc' := 6) rfl A0 rfl ?_
  refine W_getfield d9_6 (pc' := 9) rfl (w66 K) Via.refl (by first | assumption | exact A0 | exact A1 | exact A2 | exact A3 | exact A4 | exact A5 | exact A6 | exact A7 | exact Tl1 ‹_› | exact Tl2 ‹_› | exact Tl3 ‹_› | exact Tl4 ‹_› | exact Tl5 ‹_› | exact Tl6 ‹_› | exact Tl7 ‹_› | exact Tl8 ‹_›) A1 A1 ?_
  refine W_iloadN d9_9 (pc' := 10) rfl A2 ?_
  refine W_icmp_ge_T d9_10 (pc' := 15) (by decide) (by decide) (by decide) ?_
  refine W_aloadN d9_15 (pc' := 16) rfl A0 rfl ?_
  refine W_getfield d9_16 (pc' := 19) rfl (w66 K) Via.refl (by first | assumption | exact A0 | exact A1 | exact A2 | exact A3 | exact A4 | exact A5 | exact A6 | exact A7 | exact Tl1 ‹_› | exact Tl2 ‹_› | exact Tl3 ‹_› | exact Tl4 ‹_› | exact Tl5 ‹_› | exact Tl6 ‹_› | exact Tl7 ‹_› | exact Tl8 ‹_›) A1 A1 ?_
  refine W_iloadN d9_19 (pc' := 20) rfl A2 ?_
  refine W_icmp_le_T d9_20 (pc' := 25) (by decide) (by decide) (by decide) ?_
  refine W_aloadN d9_25 (pc' := 26) rfl A1 rfl ?_
  refine W_getfield d9_26 (pc' := 29) rfl (w81 K) Via.refl (by first | assumption | exact A0 | exact A1 | exact A2 | exact A3 | exact A4 | exact A5 | exact A6 | exact A7 | exact Tl1 ‹_› | exact Tl2 ‹_› | exact Tl3 ‹_› | exact Tl4 ‹_› | exact Tl5 ‹_› | exact Tl6 ‹_› | exact Tl7 ‹_› | exact Tl8 ‹_›) A0 A0 ?_
  refine W_astoreN d9_29 (pc' := 30) rfl A3 rfl rfl S3 ?_
  refine W_aloadN d9_30 (pc' := 31) rfl A0 rfl ?_
  refine W_getfield d9_31 (pc' := 34) rfl (w62 K) Via.refl (by first | assumption | exact A0 | exact A1 | exact A2 | exact A3 | exact A4 | exact A5 | exact A6 | exact A7 | exact Tl1 ‹_› | exact Tl2 ‹_› | exact Tl3 ‹_› | exact Tl4 ‹_› | exact Tl5 ‹_› | exact Tl6 ‹_› | exact Tl7 ‹_› | exact Tl8 ‹_›) A2 A2 ?_
  refine W_istore d9_34 (pc' := 36) rfl A4 rfl S4 ?_
  refine W_aloadN d9_36 (pc' := 37) rfl A1 rfl ?_
  refine W_getfield d9_37 (pc' := 40) rfl (w62 K) Via.refl (by first | assumption | exact A0 | exact A1 | exact A2 | exact A3 | exact A4 | exact A5 | exact A6 | exact A7 | exact Tl1 ‹_› | exact Tl2 ‹_› | exact Tl3 ‹_› | exact Tl4 ‹_› | exact Tl5 ‹_› | exact Tl6 ‹_› | exact Tl7 ‹_› | exact Tl8 ‹_›) A2 A2 ?_
  refine W_istore d9_40 (pc' := 42) rfl A5 rfl S5 ?_
  refine W_iload d9_42 (pc' := 44) rfl A4 ?_
  refine W_aloadN d9_44 (pc' := 45) rfl A0 rfl ?_
  refine W_getfield d9_45 (pc' := 48) rfl (w66 K) Via.refl (by first | assumption | exact A0 | exact A1 | exact A2 | exact A3 | exact A4 | exact A5 | exact A6 | exact A7 | exact Tl1 ‹_› | exact Tl2 ‹_› | exact Tl3 ‹_› | exact Tl4 ‹_› | exact Tl5 ‹_› | exact Tl6 ‹_› | exact Tl7 ‹_› | exact Tl8 ‹_›) A1 A1 ?_
  refine W_aloadN d9_48 (pc' := 49) rfl A0 rfl ?_
  refine W_getfield d9_49 (pc' := 52) rfl (w62 K) Via.refl (by first | assumption | exact A0 | exact A1 | exact A2 | exact A3 | exact A4 | exact A5 | exact A6 | exact A7 | exact Tl1 ‹_› | exact Tl2 ‹_› | exact Tl3 ‹_› | exact Tl4 ‹_› | exact Tl5 ‹_› | exact Tl6 ‹_› | exact Tl7 ‹_› | exact Tl8 ‹_›) A2 A2 ?_
  refine W_iadd d9_52 (pc' := 53) rfl ?_
  refine W_icmp_ge_F d9_53 (pc' := 56) rfl (by decide) ?_
  refine W_aloadN d9_56 (pc' := 57) rfl A0 rfl ?_
  refine W_getfield d9_57 (pc' := 60) rfl (w81 K) Via.refl (by first | assumption | exact A0 | exact A1 | exact A2 | exact A3 | exact A4 | exact A5 | exact A6 | exact A7 | exact Tl1 ‹_› | exact Tl2 ‹_› | exact Tl3 ‹_› | exact Tl4 ‹_› | exact Tl5 ‹_› | exact Tl6 ‹_› | exact Tl7 ‹_› | exact Tl8 ‹_›) A0 A0 ?_
  refine W_iload d9_60 (pc' := 62) rfl A4 ?_
  refine W_ialoadX d9_62 (pc' := 63) rfl (k := 0) (Ix.lit rfl) ht A0 ?_
  refine W_ldcI d9_63 (pc' := 65) rfl (v := (-2147483648)) (w119 K) ?_
  refine W_iadd d9_65 (pc' := 66) rfl ?_
  refine W_istore d9_66 (pc' := 68) rfl A6 rfl S6 ?_
  refine W_aloadN d9_68 (pc' := 69) rfl A3 rfl ?_
  refine W_iload d9_69 (pc' := 71) rfl A5 ?_
  refine W_ialoadX d9_71 (pc' := 72) rfl (k := 0) (Ix.lit rfl) ht' A0 ?_
  refine W_ldcI d9_72 (pc' := 74) rfl (v := (-2147483648)) (w119 K) ?_
  refine W_iadd d9_74 (pc' := 75) rfl ?_
  refine W_istore d9_75 (pc' := 77) rfl A7 rfl S7 ?_
  refine W_iload d9_77 (pc' := 79) rfl A6 ?_
  refine W_iload d9_79 (pc' := 81) rfl A7 ?_
  refine W_icmp_ge_T d9_81 (pc' := 86) (by decide) (by decide) (fun q => by have := ult.mp q; rw [one_uv] at this; omega) ?_
  refine W_iload d9_86 (pc' := 88) rfl A6 ?_
  refine W_iload d9_88 (pc' := 90) rfl A7 ?_
  by_cases q : x = 1
  · subst q
    refine W_icmp_le_T d9_90 (pc' := 95) (by decide) (by decide) (by decide) ?_
    refine W_iinc d9_95 (pc' := 98) (v := 1) rfl (by decide) A4 S4 ?_
    refine W_iinc d9_98 (pc' := 101) (v := 1) rfl (by decide) A5 S5 ?_
    refine W_goto d9_101 (pc' := 42) (by decide) (by decide) ?_
    refine W_iload d9_42 (pc' := 44) rfl A4 ?_
    refine W_aloadN d9_44 (pc' := 45) rfl A0 rfl ?_
    refine W_getfield d9_45 (pc' := 48) rfl (w66 K) Via.refl (by first | assumption | exact A0 | exact A1 | exact A2 | exact A3 | exact A4 | exact A5 | exact A6 | exact A7 | exact Tl1 ‹_› | exact Tl2 ‹_› | exact Tl3 ‹_› | exact Tl4 ‹_› | exact Tl5 ‹_› | exact Tl6 ‹_› | exact Tl7 ‹_› | exact Tl8 ‹_›) A1 A1 ?_
    refine W_aloadN d9_48 (pc' := 49) rfl A0 rfl ?_
    refine W_getfield d9_49 (pc' := 52) rfl (w62 K) Via.refl (by first | assumption | exact A0 | exact A1 | exact A2 | exact A3 | exact A4 | exact A5 | exact A6 | exact A7 | exact Tl1 ‹_› | exact Tl2 ‹_› | exact Tl3 ‹_› | exact Tl4 ‹_› | exact Tl5 ‹_› | exact Tl6 ‹_› | exact Tl7 ‹_› | exact Tl8 ‹_›) A2 A2 ?_
    refine W_iadd d9_52 (pc' := 53) rfl ?_
    refine W_icmp_ge_T d9_53 (pc' := 104) (by decide) (by decide) (by decide) ?_
    refine W_iconst d9_104 (pc' := 105) (v := 0) rfl (by decide) ?_
    exact W_ireturn d9_105 rfl (by simp) rfl (by first | decide | (dsimp only; omega) | omega) (by first | decide | (dsimp only; omega) | omega) ⟨rfl, rfl⟩
  · have hne : uv x ≠ 1 := fun e => q (uv_inj (e.trans one_uv.symm))
    refine W_icmp_le_F d9_90 (pc' := 93) rfl (ult.mpr (by rw [one_uv]; omega)) ?_
    refine W_iconst d9_93 (pc' := 94) (v := 1) rfl (by decide) ?_
    exact W_ireturn d9_94 rfl (by simp) rfl (by first | decide | (dsimp only; omega) | omega) (by first | decide | (dsimp only; omega) | omega) ⟨by rw [if_neg q], rfl⟩
theorem m_clr {l : Launch} {Z : State} {a0 : Array Value} (K : Ok Z a0) {q tq : Addr} {F : List Atom} : Meth l Z a0 EL (⟨"java/math/MutableBigInteger", "clear", "()V"⟩ : MethodName) jdk_2101_method_13_code 3 none ({ frames := 0, cells := 0, slots := 0, locals := 0 } : Room) [.ref q] ((true, q, IsObj Z "java/math/MutableBigInteger" fl_MutableBigInteger [.ref tq, .int 0, .int 0]) :: (true, tq, IsArrX Z "[I" .int [.int 0]) :: F) (fun v L' => v = none ∧ L' = (true, q, IsObj Z "java/math/MutableBigInteger" fl_MutableBigInteger [.ref tq, .int 0, .int 0]) :: (true, tq, IsArrX Z "[I" .int [.int 0]) :: F) := by
  refine MethW.of_wp (Ls := [.val (.ref q), .unset, .unset]) (plainFor_of_name pn2) (EWof K) (by first | rfl | (simp [argsToLocals, Value.category]; done)) (fun r => ?_)
  show WP _ _ _ _ _ _ _ _ _ _ _ _ _ _ _ _ _ _
  refine W_aloadN d25_0 (pc' := 1) rfl A0 rfl ?_
  refine W_aloadN d25_1 (pc' := 2) rfl A0 rfl ?_
  refine W_iconst d25_2 (pc' := 3) (v := 0) rfl (by decide) ?_
  refine W_dup_x1 d25_3 (pc' := 4) rfl rfl rfl ?_
  refine W_putfield d25_4 (pc' := 7) rfl (w66 K) Via.refl (Or.inl (w67 K)) (lay_MutableBigInteger K) A1 pf0 rfl rfl S1 (by first | exact ⟨A0, S0⟩ | exact ⟨A1, S1⟩ | exact ⟨A2, S2⟩ | exact ⟨A3, S3⟩ | exact ⟨A4, S4⟩ | exact ⟨A5, S5⟩ | exact ⟨A6, S6⟩ | exact ⟨A7, S7⟩) ?_
  refine W_putfield d25_7 (pc' := 10) rfl (w62 K) Via.refl (Or.inl (w63 K)) (lay_MutableBigInteger K) A2 pf0 rfl rfl S2 (by first | exact ⟨A0, S0⟩ | exact ⟨A1, S1⟩ | exact ⟨A2, S2⟩ | exact ⟨A3, S3⟩ | exact ⟨A4, S4⟩ | exact ⟨A5, S5⟩ | exact ⟨A6, S6⟩ | exact ⟨A7, S7⟩) ?_
  refine W_iconst d25_10 (pc' := 11) (v := 0) rfl (by decide) ?_
  refine W_istoreN d25_11 (pc' := 12) rfl A1 rfl S1 ?_
  refine W_aloadN d25_12 (pc' := 13) rfl A0 rfl ?_
  refine W_getfield d25_13 (pc' := 16) rfl (w81 K) Via.refl (by first | assumption | exact A0 | exact A1 | exact A2 | exact A3 | exact A4 | exact A5 | exact A6 | exact A7 | exact Tl1 ‹_› | exact Tl2 ‹_› | exact Tl3 ‹_› | exact Tl4 ‹_› | exact Tl5 ‹_› | exact Tl6 ‹_› | exact Tl7 ‹_› | exact Tl8 ‹_›) A0 A0 ?_
  refine W_arraylengthX d25_16 (pc' := 17) rfl A1 rfl ?_
  refine W_istoreN d25_17 (pc' := 18) rfl A2 rfl S2 ?_
  refine W_iloadN d25_18 (pc' := 19) rfl A1 ?_
  refine W_iloadN d25_19 (pc' := 20) rfl A2 ?_
  refine W_icmp_ge_F d25_20 (pc' := 23) rfl (by decide) ?_
  refine W_aloadN d25_23 (pc' := 24) rfl A0 rfl ?_
  refine W_getfield d25_24 (pc' := 27) rfl (w81 K) Via.refl (by first | assumption | exact A0 | exact A1 | exact A2 | exact A3 | exact A4 | exact A5 | exact A6 | exact A7 | exact Tl1 ‹_› | exact Tl2 ‹_› | exact Tl3 ‹_› | exact Tl4 ‹_› | exact Tl5 ‹_› | exact Tl6 ‹_› | exact Tl7 ‹_› | exact Tl8 ‹_›) A0 A0 ?_
  refine W_iloadN d25_27 (pc' := 28) rfl A1 ?_
  refine W_iconst d25_28 (pc' := 29) (v := 0) rfl (by decide) ?_
  refine W_iastoreX d25_29 (pc' := 30) rfl (k := 0) (Ix.lit rfl) (lt_ble rfl) S0 (by first | exact ⟨A0, S0⟩ | exact ⟨A1, S1⟩ | exact ⟨A2, S2⟩ | exact ⟨A3, S3⟩ | exact ⟨A4, S4⟩ | exact ⟨A5, S5⟩ | exact ⟨A6, S6⟩ | exact ⟨A7, S7⟩) ?_
  refine W_iinc d25_30 (pc' := 33) (v := 1) rfl (by decide) A1 S1 ?_
  refine W_goto d25_33 (pc' := 18) (by decide) (by decide) ?_
  refine W_iloadN d25_18 (pc' := 19) rfl A1 ?_
  refine W_iloadN d25_19 (pc' := 20) rfl A2 ?_
  refine W_icmp_ge_T d25_20 (pc' := 36) (by decide) (by decide) (by decide) ?_
  exact W_return d25_36 rfl (by first | decide | (dsimp only; omega) | omega) (by first | decide | (dsimp only; omega) | omega) ⟨rfl, rfl⟩
theorem m_d1w1 {l : Launch} {Z : State} {a0 : Array Value} (K : Ok Z a0) {u t q tq : Addr} {x : Int32} {F : List Atom} {i j : Nat} {b b' : Bool} (hu : F[i]? = some (b, u, IsObj Z "java/math/MutableBigInteger" fl_MutableBigInteger [.ref t, .int 1, .int 0])) (ht : F[j]? = some (b', t, IsArrX Z "[I" .int [.int x])) (hx : x ≠ 0) :
    Meth l Z a0 EL (⟨"java/math/MutableBigInteger", "divideOneWord", "(ILjava/math/MutableBigInteger;)I"⟩ : MethodName) jdk_2101_method_53_code 15 (some .int) ({ frames := 1, cells := 1, slots := 2, locals := 15 } : Room) [.ref u, .int 1, .ref q] ((true, q, IsObj Z "java/math/MutableBigInteger" fl_MutableBigInteger [.ref tq, .int 0, .int 0]) :: (true, tq, IsArrX Z "[I" .int [.int 0]) :: F) (fun v L' => ∃ r, v = some (.int r) ∧ L' = (true, q, IsObj Z "java/math/MutableBigInteger" fl_MutableBigInteger [.ref tq, .int 1, .int 0]) :: (true, tq, IsArrX Z "[I" .int [.int x]) :: F) := by
  refine MethW.of_wp (Ls := [.val (.ref u), .val (.int 1), .val (.ref q), .unset, .unset, .unset, .unset, .unset, .unset, .unset, .unset, .unset, .unset, .unset, .unset]) (plainFor_of_name pn2) (EWof K) (by first | rfl | (simp [argsToLocals, Value.category]; done)) (fun r => ?_)
  show WP _ _ _ _ _ _ _ _ _ _ _ _ _ _ _ _ _ _
  refine W_iloadN d26_0 (pc' := 1) rfl A1 ?_
  refine W_i2l d26_1 (pc' := 2) rfl ?_
  refine W_ldc2 d26_2 (pc' := 5) rfl (v := 4294967295) (w180 K) ?_
  refine W_land d26_5 (pc' := 6) rfl ?_
  rw [msk1]
  refine W_lstoreN d26_6 (pc' := 7) rfl A3 A4 rfl SS3 ?_
  refine W_aloadN d26_7 (pc' := 8) rfl A0 rfl ?_
  refine W_getfield d26_8 (pc' := 11) rfl (w66 K) Via.refl (by first | assumption | exact A0 | exact A1 | exact A2 | exact A3 | exact A4 | exact A5 | exact A6 | exact A7 | exact Tl1 ‹_› | exact Tl2 ‹_› | exact Tl3 ‹_› | exact Tl4 ‹_› | exact Tl5 ‹_› | exact Tl6 ‹_› | exact Tl7 ‹_› | exact Tl8 ‹_›) A1 A1 ?_
  refine W_iconst d26_11 (pc' := 12) (v := 1) rfl (by decide) ?_
  refine W_icmp_ne_F d26_12 (pc' := 15) rfl rfl ?_
  refine W_aloadN d26_15 (pc' := 16) rfl A0 rfl ?_
  refine W_getfield d26_16 (pc' := 19) rfl (w81 K) Via.refl (by first | assumption | exact A0 | exact A1 | exact A2 | exact A3 | exact A4 | exact A5 | exact A6 | exact A7 | exact Tl1 ‹_› | exact Tl2 ‹_› | exact Tl3 ‹_› | exact Tl4 ‹_› | exact Tl5 ‹_› | exact Tl6 ‹_› | exact Tl7 ‹_› | exact Tl8 ‹_›) A0 A0 ?_
  refine W_aloadN d26_19 (pc' := 20) rfl A0 rfl ?_
  refine W_getfield d26_20 (pc' := 23) rfl (w62 K) Via.refl (by first | assumption | exact A0 | exact A1 | exact A2 | exact A3 | exact A4 | exact A5 | exact A6 | exact A7 | exact Tl1 ‹_› | exact Tl2 ‹_› | exact Tl3 ‹_› | exact Tl4 ‹_› | exact Tl5 ‹_› | exact Tl6 ‹_› | exact Tl7 ‹_› | exact Tl8 ‹_›) A2 A2 ?_
  refine W_ialoadX d26_23 (pc' := 24) rfl (k := 0) (Ix.lit rfl) (Tl2 ht) A0 ?_
  refine W_i2l d26_24 (pc' := 25) rfl ?_
  refine W_ldc2 d26_25 (pc' := 28) rfl (v := 4294967295) (w180 K) ?_
  refine W_land d26_28 (pc' := 29) rfl ?_
  refine W_lstore d26_29 (pc' := 31) rfl A5 A6 rfl SS5 ?_
  refine W_lload d26_31 (pc' := 33) rfl A5 ?_
  refine W_lloadN d26_33 (pc' := 34) rfl A3 ?_
  refine W_ldiv d26_34 (pc' := 35) rfl (by decide) ?_
  rw [ldiv1]
  refine W_l2i d26_35 (pc' := 36) rfl ?_
  rw [mskx]
  refine W_istore d26_36 (pc' := 38) rfl A7 rfl S7 ?_
  refine W_lload d26_38 (pc' := 40) rfl A5 ?_
  refine W_iload d26_40 (pc' := 42) rfl A7 ?_
  refine W_i2l d26_42 (pc' := 43) rfl ?_
  refine W_lloadN d26_43 (pc' := 44) rfl A3 ?_
  refine W_lmul d26_44 (pc' := 45) rfl ?_
  refine W_lsub d26_45 (pc' := 46) rfl ?_
  refine W_l2i d26_46 (pc' := 47) rfl ?_
  refine W_istore d26_47 (pc' := 49) rfl A8 rfl S8 ?_
  refine W_aloadN d26_49 (pc' := 50) rfl A2 rfl ?_
  refine W_getfield d26_50 (pc' := 53) rfl (w81 K) Via.refl (by first | assumption | exact A0 | exact A1 | exact A2 | exact A3 | exact A4 | exact A5 | exact A6 | exact A7 | exact Tl1 ‹_› | exact Tl2 ‹_› | exact Tl3 ‹_› | exact Tl4 ‹_› | exact Tl5 ‹_› | exact Tl6 ‹_› | exact Tl7 ‹_› | exact Tl8 ‹_›) A0 A0 ?_
  refine W_iconst d26_53 (pc' := 54) (v := 0) rfl (by decide) ?_
  refine W_iload d26_54 (pc' := 56) rfl A7 ?_
  refine W_iastoreX d26_56 (pc' := 57) rfl (k := 0) (Ix.lit rfl) (lt_ble rfl) S0 (by first | exact ⟨A0, S0⟩ | exact ⟨A1, S1⟩ | exact ⟨A2, S2⟩ | exact ⟨A3, S3⟩ | exact ⟨A4, S4⟩ | exact ⟨A5, S5⟩ | exact ⟨A6, S6⟩ | exact ⟨A7, S7⟩) ?_
  refine W_aloadN d26_57 (pc' := 58) rfl A2 rfl ?_
  refine W_iload d26_58 (pc' := 60) rfl A7 ?_
  refine W_if_ne_T d26_60 (pc' := 67) (by decide) (by decide) hx ?_
  refine W_iconst d26_67 (pc' := 68) (v := 1) rfl (by decide) ?_
  refine W_putfield d26_68 (pc' := 71) rfl (w66 K) Via.refl (Or.inl (w67 K)) (lay_MutableBigInteger K) A1 pf0 rfl rfl S1 (by first | exact ⟨A0, S0⟩ | exact ⟨A1, S1⟩ | exact ⟨A2, S2⟩ | exact ⟨A3, S3⟩ | exact ⟨A4, S4⟩ | exact ⟨A5, S5⟩ | exact ⟨A6, S6⟩ | exact ⟨A7, S7⟩) ?_
  refine W_aloadN d26_71 (pc' := 72) rfl A2 rfl ?_
  refine W_iconst d26_72 (pc' := 73) (v := 0) rfl (by decide) ?_
  refine W_putfield d26_73 (pc' := 76) rfl (w62 K) Via.refl (Or.inl (w63 K)) (lay_MutableBigInteger K) A2 pf0 rfl rfl S2 (by first | exact ⟨A0, S0⟩ | exact ⟨A1, S1⟩ | exact ⟨A2, S2⟩ | exact ⟨A3, S3⟩ | exact ⟨A4, S4⟩ | exact ⟨A5, S5⟩ | exact ⟨A6, S6⟩ | exact ⟨A7, S7⟩) ?_
  refine W_iload d26_76 (pc' := 78) rfl A8 ?_
  exact W_ireturn d26_78 rfl (by simp) rfl (by first | decide | (dsimp only; omega) | omega) (by first | decide | (dsimp only; omega) | omega) ⟨_, rfl, rfl⟩
theorem m_d1w2 {l : Launch} {Z : State} {a0 : Array Value} (K : Ok Z a0) {u t q tq : Addr} {h l' : Int32} {F : List Atom} {i j : Nat} {b b' : Bool} (hu : F[i]? = some (b, u, IsObj Z "java/math/MutableBigInteger" fl_MutableBigInteger [.ref t, .int 2, .int 0])) (ht : F[j]? = some (b', t, IsArrX Z "[I" .int [.int h, .int l'])) (hh : h ≠ 0) :
    Meth l Z a0 EL (⟨"java/math/MutableBigInteger", "divideOneWord", "(ILjava/math/MutableBigInteger;)I"⟩ : MethodName) jdk_2101_method_53_code 15 (some .int) ({ frames := 1, cells := 1, slots := 2, locals := 15 } : Room) [.ref u, .int 1, .ref q] ((true, q, IsObj Z "java/math/MutableBigInteger" fl_MutableBigInteger [.ref tq, .int 0, .int 0]) :: (true, tq, IsArrX Z "[I" .int [.int 0]) :: F) (fun v L' => ∃ r tn, v = some (.int r) ∧ L' = (true, q, IsObj Z "java/math/MutableBigInteger" fl_MutableBigInteger [.ref tn, .int 2, .int 0]) :: (true, tn, IsArrX Z "[I" .int [.int h, .int l']) :: F) := by
  refine MethW.of_wp (Ls := [.val (.ref u), .val (.int 1), .val (.ref q), .unset, .unset, .unset, .unset, .unset, .unset, .unset, .unset, .unset, .unset, .unset, .unset]) (plainFor_of_name pn2) (EWof K) (by first | rfl | (simp [argsToLocals, Value.category]; done)) (fun r => ?_)
  show WP _ _ _ _ _ _ _ _ _ _ _ _ _ _ _ _ _ _
  refine W_iloadN d26_0 (pc' := 1) rfl A1 ?_
  refine W_i2l d26_1 (pc' := 2) rfl ?_
  refine W_ldc2 d26_2 (pc' := 5) rfl (v := 4294967295) (w180 K) ?_
  refine W_land d26_5 (pc' := 6) rfl ?_
  rw [msk1]
  refine W_lstoreN d26_6 (pc' := 7) rfl A3 A4 rfl SS3 ?_
  refine W_aloadN d26_7 (pc' := 8) rfl A0 rfl ?_
  refine W_getfield d26_8 (pc' := 11) rfl (w66 K) Via.refl (by first | assumption | exact A0 | exact A1 | exact A2 | exact A3 | exact A4 | exact A5 | exact A6 | exact A7 | exact Tl1 ‹_› | exact Tl2 ‹_› | exact Tl3 ‹_› | exact Tl4 ‹_› | exact Tl5 ‹_› | exact Tl6 ‹_› | exact Tl7 ‹_› | exact Tl8 ‹_›) A1 A1 ?_
  refine W_iconst d26_11 (pc' := 12) (v := 1) rfl (by decide) ?_
  refine W_icmp_ne_T d26_12 (pc' := 79) (by decide) (by decide) (by decide) ?_
  refine W_aloadN d26_79 (pc' := 80) rfl A2 rfl ?_
  refine W_getfield d26_80 (pc' := 83) rfl (w81 K) Via.refl (by first | assumption | exact A0 | exact A1 | exact A2 | exact A3 | exact A4 | exact A5 | exact A6 | exact A7 | exact Tl1 ‹_› | exact Tl2 ‹_› | exact Tl3 ‹_› | exact Tl4 ‹_› | exact Tl5 ‹_› | exact Tl6 ‹_› | exact Tl7 ‹_› | exact Tl8 ‹_›) A0 A0 ?_
  refine W_arraylengthX d26_83 (pc' := 84) rfl A1 rfl ?_
  refine W_aloadN d26_84 (pc' := 85) rfl A0 rfl ?_
  refine W_getfield d26_85 (pc' := 88) rfl (w66 K) Via.refl (by first | assumption | exact A0 | exact A1 | exact A2 | exact A3 | exact A4 | exact A5 | exact A6 | exact A7 | exact Tl1 ‹_› | exact Tl2 ‹_› | exact Tl3 ‹_› | exact Tl4 ‹_› | exact Tl5 ‹_› | exact Tl6 ‹_› | exact Tl7 ‹_› | exact Tl8 ‹_›) A1 A1 ?_
  refine W_icmp_ge_F d26_88 (pc' := 91) rfl (by decide) ?_
  refine W_aloadN d26_91 (pc' := 92) rfl A2 rfl ?_
  refine W_aloadN d26_92 (pc' := 93) rfl A0 rfl ?_
  refine W_getfield d26_93 (pc' := 96) rfl (w66 K) Via.refl (by first | assumption | exact A0 | exact A1 | exact A2 | exact A3 | exact A4 | exact A5 | exact A6 | exact A7 | exact Tl1 ‹_› | exact Tl2 ‹_› | exact Tl3 ‹_› | exact Tl4 ‹_› | exact Tl5 ‹_› | exact Tl6 ‹_› | exact Tl7 ‹_› | exact Tl8 ‹_›) A1 A1 ?_
  refine W_newarrayX d26_96 (pc' := 98) rfl (w92 K) (k := 2) (cap := 2) (ty := .int) (vs := List.replicate (2) (.int 0)) (Ix.lit rfl) rfl (ad := "[I") (by decide +kernel) (by first | decide | omega) (by decide) rfl (by decide) (by first | decide | (dsimp only; omega) | omega) (fun tn => ?_)
  refine W_putfield d26_98 (pc' := 101) rfl (w81 K) Via.refl (Or.inl (w82 K)) (lay_MutableBigInteger K) A0 pf1 rfl rfl S0 (by first | exact ⟨A0, S0⟩ | exact ⟨A1, S1⟩ | exact ⟨A2, S2⟩ | exact ⟨A3, S3⟩ | exact ⟨A4, S4⟩ | exact ⟨A5, S5⟩ | exact ⟨A6, S6⟩ | exact ⟨A7, S7⟩) ?_
  refine W_aloadN d26_101 (pc' := 102) rfl A2 rfl ?_
  refine W_iconst d26_102 (pc' := 103) (v := 0) rfl (by decide) ?_
  refine W_putfield d26_103 (pc' := 106) rfl (w62 K) Via.refl (Or.inl (w63 K)) (lay_MutableBigInteger K) A2 pf0 rfl rfl S2 (by first | exact ⟨A0, S0⟩ | exact ⟨A1, S1⟩ | exact ⟨A2, S2⟩ | exact ⟨A3, S3⟩ | exact ⟨A4, S4⟩ | exact ⟨A5, S5⟩ | exact ⟨A6, S6⟩ | exact ⟨A7, S7⟩) ?_
  refine W_aloadN d26_106 (pc' := 107) rfl A2 rfl ?_
  refine W_aloadN d26_107 (pc' := 108) rfl A0 rfl ?_
  refine W_getfield d26_108 (pc' := 111) rfl (w66 K) Via.refl (by first | assumption | exact A0 | exact A1 | exact A2 | exact A3 | exact A4 | exact A5 | exact A6 | exact A7 | exact Tl1 ‹_› | exact Tl2 ‹_› | exact Tl3 ‹_› | exact Tl4 ‹_› | exact Tl5 ‹_› | exact Tl6 ‹_› | exact Tl7 ‹_› | exact Tl8 ‹_›) A1 A1 ?_
  refine W_putfield d26_111 (pc' := 114) rfl (w66 K) Via.refl (Or.inl (w67 K)) (lay_MutableBigInteger K) A1 pf0 rfl rfl S1 (by first | exact ⟨A0, S0⟩ | exact ⟨A1, S1⟩ | exact ⟨A2, S2⟩ | exact ⟨A3, S3⟩ | exact ⟨A4, S4⟩ | exact ⟨A5, S5⟩ | exact ⟨A6, S6⟩ | exact ⟨A7, S7⟩) ?_
  refine W_iloadN d26_114 (pc' := 115) rfl A1 ?_
  refine W_static d26_115 (pc' := 118) rfl rfl (w277 K) (w255 K) (w109 K) (w256 K) (by decide) (m_nlz K (e := 0) (by decide) ⟨by decide, by decide⟩) ar0 rfl (by decide) (Nat.le_of_ble_eq_true rfl) (by first | decide | (dsimp only; omega) | omega) (by first | decide | (dsimp only; omega) | omega) ?_
  rintro _ _ ⟨rfl, rfl⟩
  simp only [Option.toList_some, Option.toList_none, List.cons_append, List.nil_append]
  refine W_istore d26_118 (pc' := 120) rfl A5 rfl S5 ?_
  refine W_aloadN d26_120 (pc' := 121) rfl A0 rfl ?_
  refine W_getfield d26_121 (pc' := 124) rfl (w81 K) Via.refl (by first | assumption | exact A0 | exact A1 | exact A2 | exact A3 | exact A4 | exact A5 | exact A6 | exact A7 | exact Tl1 ‹_› | exact Tl2 ‹_› | exact Tl3 ‹_› | exact Tl4 ‹_› | exact Tl5 ‹_› | exact Tl6 ‹_› | exact Tl7 ‹_› | exact Tl8 ‹_›) A0 A0 ?_
  refine W_aloadN d26_124 (pc' := 125) rfl A0 rfl ?_
  refine W_getfield d26_125 (pc' := 128) rfl (w62 K) Via.refl (by first | assumption | exact A0 | exact A1 | exact A2 | exact A3 | exact A4 | exact A5 | exact A6 | exact A7 | exact Tl1 ‹_› | exact Tl2 ‹_› | exact Tl3 ‹_› | exact Tl4 ‹_› | exact Tl5 ‹_› | exact Tl6 ‹_› | exact Tl7 ‹_› | exact Tl8 ‹_›) A2 A2 ?_
  refine W_ialoadX d26_128 (pc' := 129) rfl (k := 0) (Ix.lit rfl) (Tl3 ht) A0 ?_
  refine W_istore d26_129 (pc' := 131) rfl A6 rfl S6 ?_
  refine W_iload d26_131 (pc' := 133) rfl A6 ?_
  refine W_i2l d26_133 (pc' := 134) rfl ?_
  refine W_ldc2 d26_134 (pc' := 137) rfl (v := 4294967295) (w180 K) ?_
  refine W_land d26_137 (pc' := 138) rfl ?_
  refine W_lstore d26_138 (pc' := 140) rfl A7 A8 rfl SS7 ?_
  refine W_lload d26_140 (pc' := 142) rfl A7 ?_
  refine W_lloadN d26_142 (pc' := 143) rfl A3 ?_
  refine W_lcmp d26_143 (pc' := 144) rfl ?_
  refine W_if_ge_T d26_144 (pc' := 157) (by decide) (by decide) (msk_ge1 hh) ?_
  refine W_aloadN d26_157 (pc' := 158) rfl A2 rfl ?_
  refine W_getfield d26_158 (pc' := 161) rfl (w81 K) Via.refl (by first | assumption | exact A0 | exact A1 | exact A2 | exact A3 | exact A4 | exact A5 | exact A6 | exact A7 | exact Tl1 ‹_› | exact Tl2 ‹_› | exact Tl3 ‹_› | exact Tl4 ‹_› | exact Tl5 ‹_› | exact Tl6 ‹_› | exact Tl7 ‹_› | exact Tl8 ‹_›) A0 A0 ?_
  refine W_iconst d26_161 (pc' := 162) (v := 0) rfl (by decide) ?_
  refine W_lload d26_162 (pc' := 164) rfl A7 ?_
  refine W_lloadN d26_164 (pc' := 165) rfl A3 ?_
  refine W_ldiv d26_165 (pc' := 166) rfl (by decide) ?_
  rw [ldiv1]
  refine W_l2i d26_166 (pc' := 167) rfl ?_
  rw [mskx]
  refine W_iastoreX d26_167 (pc' := 168) rfl (k := 0) (Ix.lit rfl) (lt_ble rfl) S0 (by first | exact ⟨A0, S0⟩ | exact ⟨A1, S1⟩ | exact ⟨A2, S2⟩ | exact ⟨A3, S3⟩ | exact ⟨A4, S4⟩ | exact ⟨A5, S5⟩ | exact ⟨A6, S6⟩ | exact ⟨A7, S7⟩) ?_
  refine W_lload d26_168 (pc' := 170) rfl A7 ?_
  refine W_aloadN d26_170 (pc' := 171) rfl A2 rfl ?_
  refine W_getfield d26_171 (pc' := 174) rfl (w81 K) Via.refl (by first | assumption | exact A0 | exact A1 | exact A2 | exact A3 | exact A4 | exact A5 | exact A6 | exact A7 | exact Tl1 ‹_› | exact Tl2 ‹_› | exact Tl3 ‹_› | exact Tl4 ‹_› | exact Tl5 ‹_› | exact Tl6 ‹_› | exact Tl7 ‹_› | exact Tl8 ‹_›) A0 A0 ?_
  refine W_iconst d26_174 (pc' := 175) (v := 0) rfl (by decide) ?_
  refine W_ialoadX d26_175 (pc' := 176) rfl (k := 0) (Ix.lit rfl) A0 A0 ?_
  refine W_i2l d26_176 (pc' := 177) rfl ?_
  refine W_lloadN d26_177 (pc' := 178) rfl A3 ?_
  refine W_lmul d26_178 (pc' := 179) rfl ?_
  refine W_lsub d26_179 (pc' := 180) rfl ?_
  refine W_l2i d26_180 (pc' := 181) rfl ?_
  rw [rem0]
  refine W_istore d26_181 (pc' := 183) rfl A6 rfl S6 ?_
  refine W_iload d26_183 (pc' := 185) rfl A6 ?_
  refine W_i2l d26_185 (pc' := 186) rfl ?_
  refine W_ldc2 d26_186 (pc' := 189) rfl (v := 4294967295) (w180 K) ?_
  refine W_land d26_189 (pc' := 190) rfl ?_
  rw [show (0 : Int32).toInt64 &&& 4294967295 = 0 by decide]
  refine W_lstore d26_190 (pc' := 192) rfl A7 A8 rfl SS7 ?_
  refine W_aloadN d26_192 (pc' := 193) rfl A0 rfl ?_
  refine W_getfield d26_193 (pc' := 196) rfl (w66 K) Via.refl (by first | assumption | exact A0 | exact A1 | exact A2 | exact A3 | exact A4 | exact A5 | exact A6 | exact A7 | exact Tl1 ‹_› | exact Tl2 ‹_› | exact Tl3 ‹_› | exact Tl4 ‹_› | exact Tl5 ‹_› | exact Tl6 ‹_› | exact Tl7 ‹_› | exact Tl8 ‹_›) A1 A1 ?_
  refine W_istore d26_196 (pc' := 198) rfl A9 rfl S9 ?_
  refine W_iinc d26_198 (pc' := 201) (v := (-1)) rfl (by decide) A9 S9 ?_
  refine W_iload d26_201 (pc' := 203) rfl A9 ?_
  refine W_if_le_F d26_203 (pc' := 206) rfl (by decide) ?_
  refine W_lload d26_206 (pc' := 208) rfl A7 ?_
  refine W_bipush d26_208 (pc' := 210) (v := 32) rfl (by decide) ?_
  refine W_lshl d26_210 (pc' := 211) rfl ?_
  refine W_aloadN d26_211 (pc' := 212) rfl A0 rfl ?_
  refine W_getfield d26_212 (pc' := 215) rfl (w81 K) Via.refl (by first | assumption | exact A0 | exact A1 | exact A2 | exact A3 | exact A4 | exact A5 | exact A6 | exact A7 | exact Tl1 ‹_› | exact Tl2 ‹_› | exact Tl3 ‹_› | exact Tl4 ‹_› | exact Tl5 ‹_› | exact Tl6 ‹_› | exact Tl7 ‹_› | exact Tl8 ‹_›) A0 A0 ?_
  refine W_aloadN d26_215 (pc' := 216) rfl A0 rfl ?_
  refine W_getfield d26_216 (pc' := 219) rfl (w62 K) Via.refl (by first | assumption | exact A0 | exact A1 | exact A2 | exact A3 | exact A4 | exact A5 | exact A6 | exact A7 | exact Tl1 ‹_› | exact Tl2 ‹_› | exact Tl3 ‹_› | exact Tl4 ‹_› | exact Tl5 ‹_› | exact Tl6 ‹_› | exact Tl7 ‹_› | exact Tl8 ‹_›) A2 A2 ?_
  refine W_aloadN d26_219 (pc' := 220) rfl A0 rfl ?_
  refine W_getfield d26_220 (pc' := 223) rfl (w66 K) Via.refl (by first | assumption | exact A0 | exact A1 | exact A2 | exact A3 | exact A4 | exact A5 | exact A6 | exact A7 | exact Tl1 ‹_› | exact Tl2 ‹_› | exact Tl3 ‹_› | exact Tl4 ‹_› | exact Tl5 ‹_› | exact Tl6 ‹_› | exact Tl7 ‹_› | exact Tl8 ‹_›) A1 A1 ?_
  refine W_iadd d26_223 (pc' := 224) rfl ?_
  refine W_iload d26_224 (pc' := 226) rfl A9 ?_
  refine W_isub d26_226 (pc' := 227) rfl ?_
  refine W_ialoadX d26_227 (pc' := 228) rfl (k := 1) (Ix.lit rfl) (Tl3 ht) A1 ?_
  refine W_i2l d26_228 (pc' := 229) rfl ?_
  refine W_ldc2 d26_229 (pc' := 232) rfl (v := 4294967295) (w180 K) ?_
  refine W_land d26_232 (pc' := 233) rfl ?_
  refine W_lor d26_233 (pc' := 234) rfl ?_
  rw [shl0or]
  refine W_lstore d26_234 (pc' := 236) rfl A10 A11 rfl SS10 ?_
  refine W_lload d26_236 (pc' := 238) rfl A10 ?_
  refine W_lconst d26_238 (pc' := 239) (v := 0) rfl (by decide) ?_
  refine W_lcmp d26_239 (pc' := 240) rfl ?_
  refine W_if_lt_F d26_240 (pc' := 243) rfl (msk_ge0 _) ?_
  refine W_lload d26_243 (pc' := 245) rfl A10 ?_
  refine W_lloadN d26_245 (pc' := 246) rfl A3 ?_
  refine W_ldiv d26_246 (pc' := 247) rfl (by decide) ?_
  rw [ldiv1]
  refine W_l2i d26_247 (pc' := 248) rfl ?_
  rw [mskx]
  refine W_istore d26_248 (pc' := 250) rfl A12 rfl S12 ?_
  refine W_lload d26_250 (pc' := 252) rfl A10 ?_
  refine W_iload d26_252 (pc' := 254) rfl A12 ?_
  refine W_i2l d26_254 (pc' := 255) rfl ?_
  refine W_lloadN d26_255 (pc' := 256) rfl A3 ?_
  refine W_lmul d26_256 (pc' := 257) rfl ?_
  refine W_lsub d26_257 (pc' := 258) rfl ?_
  refine W_l2i d26_258 (pc' := 259) rfl ?_
  rw [rem0]
  refine W_istore d26_259 (pc' := 261) rfl A6 rfl S6 ?_
  refine W_goto d26_261 (pc' := 289) (by decide) (by decide) ?_
  refine W_aloadN d26_289 (pc' := 290) rfl A2 rfl ?_
  refine W_getfield d26_290 (pc' := 293) rfl (w81 K) Via.refl (by first | assumption | exact A0 | exact A1 | exact A2 | exact A3 | exact A4 | exact A5 | exact A6 | exact A7 | exact Tl1 ‹_› | exact Tl2 ‹_› | exact Tl3 ‹_› | exact Tl4 ‹_› | exact Tl5 ‹_› | exact Tl6 ‹_› | exact Tl7 ‹_› | exact Tl8 ‹_›) A0 A0 ?_
  refine W_aloadN d26_293 (pc' := 294) rfl A0 rfl ?_
  refine W_getfield d26_294 (pc' := 297) rfl (w66 K) Via.refl (by first | assumption | exact A0 | exact A1 | exact A2 | exact A3 | exact A4 | exact A5 | exact A6 | exact A7 | exact Tl1 ‹_› | exact Tl2 ‹_› | exact Tl3 ‹_› | exact Tl4 ‹_› | exact Tl5 ‹_› | exact Tl6 ‹_› | exact Tl7 ‹_› | exact Tl8 ‹_›) A1 A1 ?_
  refine W_iload d26_297 (pc' := 299) rfl A9 ?_
  refine W_isub d26_299 (pc' := 300) rfl ?_
  refine W_iload d26_300 (pc' := 302) rfl A12 ?_
  refine W_iastoreX d26_302 (pc' := 303) rfl (k := 1) (Ix.lit rfl) (lt_ble rfl) S1 (by first | exact ⟨A0, S0⟩ | exact ⟨A1, S1⟩ | exact ⟨A2, S2⟩ | exact ⟨A3, S3⟩ | exact ⟨A4, S4⟩ | exact ⟨A5, S5⟩ | exact ⟨A6, S6⟩ | exact ⟨A7, S7⟩) ?_
  refine W_iload d26_303 (pc' := 305) rfl A6 ?_
  refine W_i2l d26_305 (pc' := 306) rfl ?_
  refine W_ldc2 d26_306 (pc' := 309) rfl (v := 4294967295) (w180 K) ?_
  refine W_land d26_309 (pc' := 310) rfl ?_
  refine W_lstore d26_310 (pc' := 312) rfl A7 A8 rfl SS7 ?_
  refine W_goto d26_312 (pc' := 198) (by decide) (by decide) ?_
  refine W_iinc d26_198 (pc' := 201) (v := (-1)) rfl (by decide) A9 S9 ?_
  refine W_iload d26_201 (pc' := 203) rfl A9 ?_
  refine W_if_le_T d26_203 (pc' := 315) (by decide) (by decide) (by decide) ?_
  refine W_focus (a := tq) (by first | exact ⟨A0, E0⟩ | exact ⟨A1, E1⟩ | exact ⟨A2, E2⟩ | exact ⟨A3, E3⟩ | exact ⟨A4, E4⟩ | exact ⟨A5, E5⟩ | exact ⟨A6, E6⟩ | exact ⟨A7, E7⟩) (W_drop (W_focus (a := tn) (by first | exact ⟨A0, E0⟩ | exact ⟨A1, E1⟩ | exact ⟨A2, E2⟩ | exact ⟨A3, E3⟩ | exact ⟨A4, E4⟩ | exact ⟨A5, E5⟩ | exact ⟨A6, E6⟩ | exact ⟨A7, E7⟩) (W_focus (a := q) (by first | exact ⟨A0, E0⟩ | exact ⟨A1, E1⟩ | exact ⟨A2, E2⟩ | exact ⟨A3, E3⟩ | exact ⟨A4, E4⟩ | exact ⟨A5, E5⟩ | exact ⟨A6, E6⟩ | exact ⟨A7, E7⟩) ?_)))
  refine W_aloadN d26_315 (pc' := 316) rfl A2 rfl ?_
  refine W_virtual d26_316 (pc' := 319) rfl rfl (w267 K) (w268 K) (NF.sel (w270 K)) (w270 K) (w269 K) (w56 K) (w271 K) (by decide) (m_nrm K A0 A1 (by decide) A0 hh) ar3 rfl (by first | assumption | exact A0 | exact A1 | exact A2 | exact A3 | exact A4 | exact A5 | exact A6 | exact A7 | exact Tl1 ‹_› | exact Tl2 ‹_› | exact Tl3 ‹_› | exact Tl4 ‹_› | exact Tl5 ‹_› | exact Tl6 ‹_› | exact Tl7 ‹_› | exact Tl8 ‹_›) (by decide) (Nat.le_of_ble_eq_true rfl) (by first | decide | (dsimp only; omega) | omega) (by first | decide | (dsimp only; omega) | omega) ?_
  rintro _ _ ⟨rfl, rfl⟩
  simp only [Option.toList_some, Option.toList_none, List.cons_append, List.nil_append]
  refine W_iload d26_319 (pc' := 321) rfl A5 ?_
  refine W_if_le_F d26_321 (pc' := 324) rfl (by decide) ?_
  refine W_iload d26_324 (pc' := 326) rfl A6 ?_
  refine W_iloadN d26_326 (pc' := 327) rfl A1 ?_
  refine W_irem d26_327 (pc' := 328) rfl (by decide) ?_
  exact W_ireturn d26_328 rfl (by simp) rfl (by first | decide | (dsimp only; omega) | omega) (by first | decide | (dsimp only; omega) | omega) ⟨_, tn, rfl, rfl⟩
theorem m_dk0 {l : Launch} {Z : State} {a0 : Array Value} (K : Ok Z a0) {u t w t' q tq : Addr} {F : List Atom} {i j : Nat} {b b' : Bool} (hu : F[i]? = some (b, u, IsObj Z "java/math/MutableBigInteger" fl_MutableBigInteger [.ref t, .int 0, .int 0])) (hw : F[j]? = some (b', w, IsObj Z "java/math/MutableBigInteger" fl_MutableBigInteger [.ref t', .int 1, .int 0])) :
    Meth l Z a0 EL (⟨"java/math/MutableBigInteger", "divideKnuth", "(Ljava/math/MutableBigInteger;Ljava/math/MutableBigInteger;Z)Ljava/math/MutableBigInteger;"⟩ : MethodName) jdk_2101_method_57_code 8 (some (.object "java/math/MutableBigInteger")) ({ frames := 2, cells := 1, slots := 2, locals := 41 } : Room) [.ref u, .ref w, .ref q, .int 0] ((true, q, IsObj Z "java/math/MutableBigInteger" fl_MutableBigInteger [.ref tq, .int 0, .int 0]) :: F) (fun v L' => v = some .null ∧ L' = (true, q, IsObj Z "java/math/MutableBigInteger" fl_MutableBigInteger [.ref tq, .int 0, .int 0]) :: F) := by
  refine MethW.of_wp (Ls := [.val (.ref u), .val (.ref w), .val (.ref q), .val (.int 0), .unset, .unset, .unset, .unset]) (plainFor_of_name pn2) (EWof K) (by first | rfl | (simp [argsToLocals, Value.category]; done)) (fun r => ?_)
  show WP _ _ _ _ _ _ _ _ _ _ _ _ _ _ _ _ _ _
  refine W_aloadN d27_0 (pc' := 1) rfl A1 rfl ?_
  refine W_getfield d27_1 (pc' := 4) rfl (w66 K) Via.refl (by first | assumption | exact A0 | exact A1 | exact A2 | exact A3 | exact A4 | exact A5 | exact A6 | exact A7 | exact Tl1 ‹_› | exact Tl2 ‹_› | exact Tl3 ‹_› | exact Tl4 ‹_› | exact Tl5 ‹_› | exact Tl6 ‹_› | exact Tl7 ‹_› | exact Tl8 ‹_›) A1 A1 ?_
  refine W_if_ne_T d27_4 (pc' := 17) (by decide) (by decide) (by decide) ?_
  refine W_aloadN d27_17 (pc' := 18) rfl A0 rfl ?_
  refine W_getfield d27_18 (pc' := 21) rfl (w66 K) Via.refl (by first | assumption | exact A0 | exact A1 | exact A2 | exact A3 | exact A4 | exact A5 | exact A6 | exact A7 | exact Tl1 ‹_› | exact Tl2 ‹_› | exact Tl3 ‹_› | exact Tl4 ‹_› | exact Tl5 ‹_› | exact Tl6 ‹_› | exact Tl7 ‹_› | exact Tl8 ‹_›) A1 A1 ?_
  refine W_if_ne_F d27_21 (pc' := 24) rfl rfl ?_
  refine W_aloadN d27_24 (pc' := 25) rfl A2 rfl ?_
  refine W_aloadN d27_25 (pc' := 26) rfl A2 rfl ?_
  refine W_iconst d27_26 (pc' := 27) (v := 0) rfl (by decide) ?_
  refine W_dup_x1 d27_27 (pc' := 28) rfl rfl rfl ?_
  refine W_putfield d27_28 (pc' := 31) rfl (w62 K) Via.refl (Or.inl (w63 K)) (lay_MutableBigInteger K) A2 pf0 rfl rfl S2 (by first | exact ⟨A0, S0⟩ | exact ⟨A1, S1⟩ | exact ⟨A2, S2⟩ | exact ⟨A3, S3⟩ | exact ⟨A4, S4⟩ | exact ⟨A5, S5⟩ | exact ⟨A6, S6⟩ | exact ⟨A7, S7⟩) ?_
  refine W_putfield d27_31 (pc' := 34) rfl (w66 K) Via.refl (Or.inl (w67 K)) (lay_MutableBigInteger K) A1 pf0 rfl rfl S1 (by first | exact ⟨A0, S0⟩ | exact ⟨A1, S1⟩ | exact ⟨A2, S2⟩ | exact ⟨A3, S3⟩ | exact ⟨A4, S4⟩ | exact ⟨A5, S5⟩ | exact ⟨A6, S6⟩ | exact ⟨A7, S7⟩) ?_
  refine W_iloadN d27_34 (pc' := 35) rfl A3 ?_
  refine W_if_eq_T d27_35 (pc' := 48) (by decide) (by decide) rfl ?_
  refine W_aconst_null d27_48 (pc' := 49) rfl ?_
  exact W_areturn d27_49 rfl rfl rfl rfl (by first | decide | (dsimp only; omega) | omega) (by first | decide | (dsimp only; omega) | omega) ⟨rfl, rfl⟩
theorem m_dk1 {l : Launch} {Z : State} {a0 : Array Value} (K : Ok Z a0) {u t w t' q tq : Addr} {x : Int32} {F : List Atom} {i j i2 j2 : Nat} {b b' b2 b3 : Bool} (hu : F[i]? = some (b, u, IsObj Z "java/math/MutableBigInteger" fl_MutableBigInteger [.ref t, .int 1, .int 0])) (ht : F[i2]? = some (b2, t, IsArrX Z "[I" .int [.int x])) (hw : F[j]? = some (b', w, IsObj Z "java/math/MutableBigInteger" fl_MutableBigInteger [.ref t', .int 1, .int 0])) (ht' : F[j2]? = some (b3, t', IsArrX Z "[I" .int [.int 1])) (hx : x ≠ 0) :
    Meth l Z a0 EL (⟨"java/math/MutableBigInteger", "divideKnuth", "(Ljava/math/MutableBigInteger;Ljava/math/MutableBigInteger;Z)Ljava/math/MutableBigInteger;"⟩ : MethodName) jdk_2101_method_57_code 8 (some (.object "java/math/MutableBigInteger")) ({ frames := 2, cells := 1, slots := 2, locals := 41 } : Room) [.ref u, .ref w, .ref q, .int 0] ((true, q, IsObj Z "java/math/MutableBigInteger" fl_MutableBigInteger [.ref tq, .int 0, .int 0]) :: (true, tq, IsArrX Z "[I" .int [.int 0]) :: F) (fun v L' => v = some .null ∧ L' = (true, q, IsObj Z "java/math/MutableBigInteger" fl_MutableBigInteger [.ref tq, .int 1, .int 0]) :: (true, tq, IsArrX Z "[I" .int [.int x]) :: F) := by
  refine MethW.of_wp (Ls := [.val (.ref u), .val (.ref w), .val (.ref q), .val (.int 0), .unset, .unset, .unset, .unset]) (plainFor_of_name pn2) (EWof K) (by first | rfl | (simp [argsToLocals, Value.category]; done)) (fun r => ?_)
  show WP _ _ _ _ _ _ _ _ _ _ _ _ _ _ _ _ _ _
  refine W_aloadN d27_0 (pc' := 1) rfl A1 rfl ?_
  refine W_getfield d27_1 (pc' := 4) rfl (w66 K) Via.refl (by first | assumption | exact A0 | exact A1 | exact A2 | exact A3 | exact A4 | exact A5 | exact A6 | exact A7 | exact Tl1 ‹_› | exact Tl2 ‹_› | exact Tl3 ‹_› | exact Tl4 ‹_› | exact Tl5 ‹_› | exact Tl6 ‹_› | exact Tl7 ‹_› | exact Tl8 ‹_›) A1 A1 ?_
  refine W_if_ne_T d27_4 (pc' := 17) (by decide) (by decide) (by decide) ?_
  refine W_aloadN d27_17 (pc' := 18) rfl A0 rfl ?_
  refine W_getfield d27_18 (pc' := 21) rfl (w66 K) Via.refl (by first | assumption | exact A0 | exact A1 | exact A2 | exact A3 | exact A4 | exact A5 | exact A6 | exact A7 | exact Tl1 ‹_› | exact Tl2 ‹_› | exact Tl3 ‹_› | exact Tl4 ‹_› | exact Tl5 ‹_› | exact Tl6 ‹_› | exact Tl7 ‹_› | exact Tl8 ‹_›) A1 A1 ?_
  refine W_if_ne_T d27_21 (pc' := 50) (by decide) (by decide) (by decide) ?_
  refine W_aloadN d27_50 (pc' := 51) rfl A0 rfl ?_
  refine W_aloadN d27_51 (pc' := 52) rfl A1 rfl ?_
  refine W_virtual d27_52 (pc' := 55) rfl rfl (w165 K) (w166 K) (NF.sel (w168 K)) (w168 K) (w167 K) (w56 K) (w169 K) (by decide) (m_cmp1 K (Tl2 hu) (Tl2 ht) (Tl2 hw) (Tl2 ht') hx) ar2 rfl (by first | assumption | exact A0 | exact A1 | exact A2 | exact A3 | exact A4 | exact A5 | exact A6 | exact A7 | exact Tl1 ‹_› | exact Tl2 ‹_› | exact Tl3 ‹_› | exact Tl4 ‹_› | exact Tl5 ‹_› | exact Tl6 ‹_› | exact Tl7 ‹_› | exact Tl8 ‹_›) (by decide) (Nat.le_of_ble_eq_true rfl) (by first | decide | (dsimp only; omega) | omega) (by first | decide | (dsimp only; omega) | omega) ?_
  rintro _ _ ⟨rfl, rfl⟩
  simp only [Option.toList_some, Option.toList_none, List.cons_append, List.nil_append]
  by_cases p : x = 1
  · rw [if_pos p]; subst p
    refine W_istore d27_55 (pc' := 57) rfl A4 rfl S4 ?_
    refine W_iload d27_57 (pc' := 59) rfl A4 ?_
    refine W_if_ge_T d27_59 (pc' := 89) (by decide) (by decide) (by decide) ?_
    refine W_iload d27_89 (pc' := 91) rfl A4 ?_
    refine W_if_ne_F d27_91 (pc' := 94) rfl rfl ?_
    refine W_aloadN d27_94 (pc' := 95) rfl A2 rfl ?_
    refine W_getfield d27_95 (pc' := 98) rfl (w81 K) Via.refl (by first | assumption | exact A0 | exact A1 | exact A2 | exact A3 | exact A4 | exact A5 | exact A6 | exact A7 | exact Tl1 ‹_› | exact Tl2 ‹_› | exact Tl3 ‹_› | exact Tl4 ‹_› | exact Tl5 ‹_› | exact Tl6 ‹_› | exact Tl7 ‹_› | exact Tl8 ‹_›) A0 A0 ?_
    refine W_iconst d27_98 (pc' := 99) (v := 0) rfl (by decide) ?_
    refine W_aloadN d27_99 (pc' := 100) rfl A2 rfl ?_
    refine W_iconst d27_100 (pc' := 101) (v := 1) rfl (by decide) ?_
    refine W_dup_x1 d27_101 (pc' := 102) rfl rfl rfl ?_
    refine W_putfield d27_102 (pc' := 105) rfl (w66 K) Via.refl (Or.inl (w67 K)) (lay_MutableBigInteger K) A1 pf0 rfl rfl S1 (by first | exact ⟨A0, S0⟩ | exact ⟨A1, S1⟩ | exact ⟨A2, S2⟩ | exact ⟨A3, S3⟩ | exact ⟨A4, S4⟩ | exact ⟨A5, S5⟩ | exact ⟨A6, S6⟩ | exact ⟨A7, S7⟩) ?_
    refine W_iastoreX d27_105 (pc' := 106) rfl (k := 0) (Ix.lit rfl) (lt_ble rfl) S0 (by first | exact ⟨A0, S0⟩ | exact ⟨A1, S1⟩ | exact ⟨A2, S2⟩ | exact ⟨A3, S3⟩ | exact ⟨A4, S4⟩ | exact ⟨A5, S5⟩ | exact ⟨A6, S6⟩ | exact ⟨A7, S7⟩) ?_
    refine W_aloadN d27_106 (pc' := 107) rfl A2 rfl ?_
    refine W_iconst d27_107 (pc' := 108) (v := 0) rfl (by decide) ?_
    refine W_putfield d27_108 (pc' := 111) rfl (w62 K) Via.refl (Or.inl (w63 K)) (lay_MutableBigInteger K) A2 pf0 rfl rfl S2 (by first | exact ⟨A0, S0⟩ | exact ⟨A1, S1⟩ | exact ⟨A2, S2⟩ | exact ⟨A3, S3⟩ | exact ⟨A4, S4⟩ | exact ⟨A5, S5⟩ | exact ⟨A6, S6⟩ | exact ⟨A7, S7⟩) ?_
    refine W_iloadN d27_111 (pc' := 112) rfl A3 ?_
    refine W_if_eq_T d27_112 (pc' := 125) (by decide) (by decide) rfl ?_
    refine W_aconst_null d27_125 (pc' := 126) rfl ?_
    exact W_areturn d27_126 rfl rfl rfl rfl (by first | decide | (dsimp only; omega) | omega) (by first | decide | (dsimp only; omega) | omega) ⟨rfl, rfl⟩
  · rw [if_neg p]
    refine W_istore d27_55 (pc' := 57) rfl A4 rfl S4 ?_
    refine W_iload d27_57 (pc' := 59) rfl A4 ?_
    refine W_if_ge_T d27_59 (pc' := 89) (by decide) (by decide) (by decide) ?_
    refine W_iload d27_89 (pc' := 91) rfl A4 ?_
    refine W_if_ne_T d27_91 (pc' := 127) (by decide) (by decide) (by decide) ?_
    refine W_aloadN d27_127 (pc' := 128) rfl A2 rfl ?_
    refine W_virtual d27_128 (pc' := 131) rfl rfl (w170 K) (w171 K) (NF.sel (w173 K)) (w173 K) (w172 K) (w56 K) (w174 K) (by decide) (m_clr K) ar3 rfl (by first | assumption | exact A0 | exact A1 | exact A2 | exact A3 | exact A4 | exact A5 | exact A6 | exact A7 | exact Tl1 ‹_› | exact Tl2 ‹_› | exact Tl3 ‹_› | exact Tl4 ‹_› | exact Tl5 ‹_› | exact Tl6 ‹_› | exact Tl7 ‹_› | exact Tl8 ‹_›) (by decide) (Nat.le_of_ble_eq_true rfl) (by first | decide | (dsimp only; omega) | omega) (by first | decide | (dsimp only; omega) | omega) ?_
    rintro _ _ ⟨rfl, rfl⟩
    simp only [Option.toList_some, Option.toList_none, List.cons_append, List.nil_append]
    refine W_aloadN d27_131 (pc' := 132) rfl A1 rfl ?_
    refine W_getfield d27_132 (pc' := 135) rfl (w66 K) Via.refl (by first | assumption | exact A0 | exact A1 | exact A2 | exact A3 | exact A4 | exact A5 | exact A6 | exact A7 | exact Tl1 ‹_› | exact Tl2 ‹_› | exact Tl3 ‹_› | exact Tl4 ‹_› | exact Tl5 ‹_› | exact Tl6 ‹_› | exact Tl7 ‹_› | exact Tl8 ‹_›) A1 A1 ?_
    refine W_iconst d27_135 (pc' := 136) (v := 1) rfl (by decide) ?_
    refine W_icmp_ne_F d27_136 (pc' := 139) rfl rfl ?_
    refine W_aloadN d27_139 (pc' := 140) rfl A0 rfl ?_
    refine W_aloadN d27_140 (pc' := 141) rfl A1 rfl ?_
    refine W_getfield d27_141 (pc' := 144) rfl (w81 K) Via.refl (by first | assumption | exact A0 | exact A1 | exact A2 | exact A3 | exact A4 | exact A5 | exact A6 | exact A7 | exact Tl1 ‹_› | exact Tl2 ‹_› | exact Tl3 ‹_› | exact Tl4 ‹_› | exact Tl5 ‹_› | exact Tl6 ‹_› | exact Tl7 ‹_› | exact Tl8 ‹_›) A0 A0 ?_
    refine W_aloadN d27_144 (pc' := 145) rfl A1 rfl ?_
    refine W_getfield d27_145 (pc' := 148) rfl (w62 K) Via.refl (by first | assumption | exact A0 | exact A1 | exact A2 | exact A3 | exact A4 | exact A5 | exact A6 | exact A7 | exact Tl1 ‹_› | exact Tl2 ‹_› | exact Tl3 ‹_› | exact Tl4 ‹_› | exact Tl5 ‹_› | exact Tl6 ‹_› | exact Tl7 ‹_› | exact Tl8 ‹_›) A2 A2 ?_
    refine W_ialoadX d27_148 (pc' := 149) rfl (k := 0) (Ix.lit rfl) (Tl2 ht') A0 ?_
    refine W_aloadN d27_149 (pc' := 150) rfl A2 rfl ?_
    refine W_virtual d27_150 (pc' := 153) rfl rfl (w175 K) (w176 K) (NF.sel (w178 K)) (w178 K) (w177 K) (w56 K) (w179 K) (by decide) (m_d1w1 K hu ht hx) ar13 rfl (by first | assumption | exact A0 | exact A1 | exact A2 | exact A3 | exact A4 | exact A5 | exact A6 | exact A7 | exact Tl1 ‹_› | exact Tl2 ‹_› | exact Tl3 ‹_› | exact Tl4 ‹_› | exact Tl5 ‹_› | exact Tl6 ‹_› | exact Tl7 ‹_› | exact Tl8 ‹_›) (by decide) (Nat.le_of_ble_eq_true rfl) (by first | decide | (dsimp only; omega) | omega) (by first | decide | (dsimp only; omega) | omega) ?_
    rintro _ _ ⟨rm, rfl, rfl⟩
    simp only [Option.toList_some, Option.toList_none, List.cons_append, List.nil_append]
    refine W_istore d27_153 (pc' := 155) rfl A5 rfl S5 ?_
    refine W_iloadN d27_155 (pc' := 156) rfl A3 ?_
    refine W_if_eq_T d27_156 (pc' := 182) (by decide) (by decide) rfl ?_
    refine W_aconst_null d27_182 (pc' := 183) rfl ?_
    exact W_areturn d27_183 rfl rfl rfl rfl (by first | decide | (dsimp only; omega) | omega) (by first | decide | (dsimp only; omega) | omega) ⟨rfl, rfl⟩
theorem m_dk2 {l : Launch} {Z : State} {a0 : Array Value} (K : Ok Z a0) {u t w t' q tq : Addr} {h l' : Int32} {F : List Atom} {i j i2 j2 : Nat} {b b' b2 b3 : Bool} (hu : F[i]? = some (b, u, IsObj Z "java/math/MutableBigInteger" fl_MutableBigInteger [.ref t, .int 2, .int 0])) (ht : F[i2]? = some (b2, t, IsArrX Z "[I" .int [.int h, .int l'])) (hw : F[j]? = some (b', w, IsObj Z "java/math/MutableBigInteger" fl_MutableBigInteger [.ref t', .int 1, .int 0])) (ht' : F[j2]? = some (b3, t', IsArrX Z "[I" .int [.int 1])) (hh : h ≠ 0) :
    Meth l Z a0 EL (⟨"java/math/MutableBigInteger", "divideKnuth", "(Ljava/math/MutableBigInteger;Ljava/math/MutableBigInteger;Z)Ljava/math/MutableBigInteger;"⟩ : MethodName) jdk_2101_method_57_code 8 (some (.object "java/math/MutableBigInteger")) ({ frames := 2, cells := 1, slots := 2, locals := 41 } : Room) [.ref u, .ref w, .ref q, .int 0] ((true, q, IsObj Z "java/math/MutableBigInteger" fl_MutableBigInteger [.ref tq, .int 0, .int 0]) :: (true, tq, IsArrX Z "[I" .int [.int 0]) :: F) (fun v L' => ∃ tn, v = some .null ∧ L' = (true, q, IsObj Z "java/math/MutableBigInteger" fl_MutableBigInteger [.ref tn, .int 2, .int 0]) :: (true, tn, IsArrX Z "[I" .int [.int h, .int l']) :: F) := by
  refine MethW.of_wp (Ls := [.val (.ref u), .val (.ref w), .val (.ref q), .val (.int 0), .unset, .unset, .unset, .unset]) (plainFor_of_name pn2) (EWof K) (by first | rfl | (simp [argsToLocals, Value.category]; done)) (fun r => ?_)
  show WP _ _ _ _ _ _ _ _ _ _ _ _ _ _ _ _ _ _
  refine W_aloadN d27_0 (pc' := 1) rfl A1 rfl ?_
  refine W_getfield d27_1 (pc' := 4) rfl (w66 K) Via.refl (by first | assumption | exact A0 | exact A1 | exact A2 | exact A3 | exact A4 | exact A5 | exact A6 | exact A7 | exact Tl1 ‹_› | exact Tl2 ‹_› | exact Tl3 ‹_› | exact Tl4 ‹_› | exact Tl5 ‹_› | exact Tl6 ‹_› | exact Tl7 ‹_› | exact Tl8 ‹_›) A1 A1 ?_
  refine W_if_ne_T d27_4 (pc' := 17) (by decide) (by decide) (by decide) ?_
  refine W_aloadN d27_17 (pc' := 18) rfl A0 rfl ?_
  refine W_getfield d27_18 (pc' := 21) rfl (w66 K) Via.refl (by first | assumption | exact A0 | exact A1 | exact A2 | exact A3 | exact A4 | exact A5 | exact A6 | exact A7 | exact Tl1 ‹_› | exact Tl2 ‹_› | exact Tl3 ‹_› | exact Tl4 ‹_› | exact Tl5 ‹_› | exact Tl6 ‹_› | exact Tl7 ‹_› | exact Tl8 ‹_›) A1 A1 ?_
  refine W_if_ne_T d27_21 (pc' := 50) (by decide) (by decide) (by decide) ?_
  refine W_aloadN d27_50 (pc' := 51) rfl A0 rfl ?_
  refine W_aloadN d27_51 (pc' := 52) rfl A1 rfl ?_
  refine W_virtual d27_52 (pc' := 55) rfl rfl (w165 K) (w166 K) (NF.sel (w168 K)) (w168 K) (w167 K) (w56 K) (w169 K) (by decide) (m_cmp21 K (Tl2 hu) (Tl2 hw)) ar2 rfl (by first | assumption | exact A0 | exact A1 | exact A2 | exact A3 | exact A4 | exact A5 | exact A6 | exact A7 | exact Tl1 ‹_› | exact Tl2 ‹_› | exact Tl3 ‹_› | exact Tl4 ‹_› | exact Tl5 ‹_› | exact Tl6 ‹_› | exact Tl7 ‹_› | exact Tl8 ‹_›) (by decide) (Nat.le_of_ble_eq_true rfl) (by first | decide | (dsimp only; omega) | omega) (by first | decide | (dsimp only; omega) | omega) ?_
  rintro _ _ ⟨rfl, rfl⟩
  simp only [Option.toList_some, Option.toList_none, List.cons_append, List.nil_append]
  refine W_istore d27_55 (pc' := 57) rfl A4 rfl S4 ?_
  refine W_iload d27_57 (pc' := 59) rfl A4 ?_
  refine W_if_ge_T d27_59 (pc' := 89) (by decide) (by decide) (by decide) ?_
  refine W_iload d27_89 (pc' := 91) rfl A4 ?_
  refine W_if_ne_T d27_91 (pc' := 127) (by decide) (by decide) (by decide) ?_
  refine W_aloadN d27_127 (pc' := 128) rfl A2 rfl ?_
  refine W_virtual d27_128 (pc' := 131) rfl rfl (w170 K) (w171 K) (NF.sel (w173 K)) (w173 K) (w172 K) (w56 K) (w174 K) (by decide) (m_clr K) ar3 rfl (by first | assumption | exact A0 | exact A1 | exact A2 | exact A3 | exact A4 | exact A5 | exact A6 | exact A7 | exact Tl1 ‹_› | exact Tl2 ‹_› | exact Tl3 ‹_› | exact Tl4 ‹_› | exact Tl5 ‹_› | exact Tl6 ‹_› | exact Tl7 ‹_› | exact Tl8 ‹_›) (by decide) (Nat.le_of_ble_eq_true rfl) (by first | decide | (dsimp only; omega) | omega) (by first | decide | (dsimp only; omega) | omega) ?_
  rintro _ _ ⟨rfl, rfl⟩
  simp only [Option.toList_some, Option.toList_none, List.cons_append, List.nil_append]
  refine W_aloadN d27_131 (pc' := 132) rfl A1 rfl ?_
  refine W_getfield d27_132 (pc' := 135) rfl (w66 K) Via.refl (by first | assumption | exact A0 | exact A1 | exact A2 | exact A3 | exact A4 | exact A5 | exact A6 | exact A7 | exact Tl1 ‹_› | exact Tl2 ‹_› | exact Tl3 ‹_› | exact Tl4 ‹_› | exact Tl5 ‹_› | exact Tl6 ‹_› | exact Tl7 ‹_› | exact Tl8 ‹_›) A1 A1 ?_
  refine W_iconst d27_135 (pc' := 136) (v := 1) rfl (by decide) ?_
  refine W_icmp_ne_F d27_136 (pc' := 139) rfl rfl ?_
  refine W_aloadN d27_139 (pc' := 140) rfl A0 rfl ?_
  refine W_aloadN d27_140 (pc' := 141) rfl A1 rfl ?_
  refine W_getfield d27_141 (pc' := 144) rfl (w81 K) Via.refl (by first | assumption | exact A0 | exact A1 | exact A2 | exact A3 | exact A4 | exact A5 | exact A6 | exact A7 | exact Tl1 ‹_› | exact Tl2 ‹_› | exact Tl3 ‹_› | exact Tl4 ‹_› | exact Tl5 ‹_› | exact Tl6 ‹_› | exact Tl7 ‹_› | exact Tl8 ‹_›) A0 A0 ?_
  refine W_aloadN d27_144 (pc' := 145) rfl A1 rfl ?_
  refine W_getfield d27_145 (pc' := 148) rfl (w62 K) Via.refl (by first | assumption | exact A0 | exact A1 | exact A2 | exact A3 | exact A4 | exact A5 | exact A6 | exact A7 | exact Tl1 ‹_› | exact Tl2 ‹_› | exact Tl3 ‹_› | exact Tl4 ‹_› | exact Tl5 ‹_› | exact Tl6 ‹_› | exact Tl7 ‹_› | exact Tl8 ‹_›) A2 A2 ?_
  refine W_ialoadX d27_148 (pc' := 149) rfl (k := 0) (Ix.lit rfl) (Tl2 ht') A0 ?_
  refine W_aloadN d27_149 (pc' := 150) rfl A2 rfl ?_
  refine W_virtual d27_150 (pc' := 153) rfl rfl (w175 K) (w176 K) (NF.sel (w178 K)) (w178 K) (w177 K) (w56 K) (w179 K) (by decide) (m_d1w2 K hu ht hh) ar13 rfl (by first | assumption | exact A0 | exact A1 | exact A2 | exact A3 | exact A4 | exact A5 | exact A6 | exact A7 | exact Tl1 ‹_› | exact Tl2 ‹_› | exact Tl3 ‹_› | exact Tl4 ‹_› | exact Tl5 ‹_› | exact Tl6 ‹_› | exact Tl7 ‹_› | exact Tl8 ‹_›) (by decide) (Nat.le_of_ble_eq_true rfl) (by first | decide | (dsimp only; omega) | omega) (by first | decide | (dsimp only; omega) | omega) ?_
  rintro _ _ ⟨rm, tn, rfl, rfl⟩
  simp only [Option.toList_some, Option.toList_none, List.cons_append, List.nil_append]
  refine W_istore d27_153 (pc' := 155) rfl A5 rfl S5 ?_
  refine W_iloadN d27_155 (pc' := 156) rfl A3 ?_
  refine W_if_eq_T d27_156 (pc' := 182) (by decide) (by decide) rfl ?_
  refine W_aconst_null d27_182 (pc' := 183) rfl ?_
  exact W_areturn d27_183 rfl rfl rfl rfl (by first | decide | (dsimp only; omega) | omega) (by first | decide | (dsimp only; omega) | omega) ⟨tn, rfl, rfl⟩
theorem m_bdk {l : Launch} {Z : State} {a0 : Array Value} (K : Ok Z a0) {b t o t1 : Addr} {sg : Int32} {ws : List Int32} {F : List Atom} {i i2 j k : Nat} {f1 f2 f3 f4 : Bool} (hb : F[i]? = some (f1, b, IsObj Z "java/math/BigInteger" fl_BigInteger [.int sg, .ref t])) (ht : F[i2]? = some (f2, t, IsArrX Z "[I" .int (ws.map Value.int))) (hs : Shp sg ws) (ho : F[j]? = some (f3, o, IsObj Z "java/math/BigInteger" fl_BigInteger [.int 1, .ref t1])) (ht1 : F[k]? = some (f4, t1, IsArrX Z "[I" .int [.int 1])) :
    Meth l Z a0 EL (⟨"java/math/BigInteger", "divideKnuth", "(Ljava/math/BigInteger;)Ljava/math/BigInteger;"⟩ : MethodName) jdk_2097_method_62_code 5 (some (.object "java/math/BigInteger")) ({ frames := 4, cells := 6, slots := 18, locals := 60 } : Room) [.ref b, .ref o] F (fun v L' => ∃ g tg, v = some (.ref g) ∧ L' = (false, g, IsObj Z "java/math/BigInteger" fl_BigInteger [.int sg, .ref tg]) :: (false, tg, IsArrX Z "[I" .int (ws.map Value.int)) :: F) := by
  refine MethW.of_wp (Ls := [.val (.ref b), .val (.ref o), .unset, .unset, .unset]) (plainFor_of_name pn1) (EWof K) (by first | rfl | (simp [argsToLocals, Value.category]; done)) (fun r => ?_)
  show WP _ _ _ _ _ _ _ _ _ _ _ _ _ _ _ _ _ _
  refine W_new d28_0 (pc' := 3) rfl (w54 K) (w55 K) (w56 K) (lay_MutableBigInteger K) df_MutableBigInteger (by decide) (by decide) (fun q => ?_)
  refine W_dup d28_3 (pc' := 4) rfl rfl ?_
  refine W_special d28_4 (pc' := 7) rfl rfl rfl (w156 K) (w90 K) (w56 K) (w91 K) (by decide) (m_mbi0 K) ar3 rfl (by decide) (Nat.le_of_ble_eq_true rfl) (by first | decide | (dsimp only; omega) | omega) (by first | decide | (dsimp only; omega) | omega) ?_
  rintro _ _ ⟨tq, rfl, rfl⟩
  simp only [Option.toList_some, Option.toList_none, List.cons_append, List.nil_append]
  refine W_astoreN d28_7 (pc' := 8) rfl A2 rfl rfl S2 ?_
  refine W_new d28_8 (pc' := 11) rfl (w54 K) (w55 K) (w56 K) (lay_MutableBigInteger K) df_MutableBigInteger (by decide) (by decide) (fun u => ?_)
  refine W_dup d28_11 (pc' := 12) rfl rfl ?_
  refine W_aloadN d28_12 (pc' := 13) rfl A0 rfl ?_
  refine W_getfield d28_13 (pc' := 16) rfl (w144 K) Via.refl (by first | assumption | exact A0 | exact A1 | exact A2 | exact A3 | exact A4 | exact A5 | exact A6 | exact A7 | exact Tl1 ‹_› | exact Tl2 ‹_› | exact Tl3 ‹_› | exact Tl4 ‹_› | exact Tl5 ‹_› | exact Tl6 ‹_› | exact Tl7 ‹_› | exact Tl8 ‹_›) A1 A1 ?_
  refine W_special d28_16 (pc' := 19) rfl rfl rfl (w157 K) (w158 K) (w56 K) (w159 K) (by decide) (m_mbiI K (Tl2 ht)) ar14 rfl (by decide) (Nat.le_of_ble_eq_true rfl) (by first | decide | (dsimp only; omega) | omega) (by first | decide | (dsimp only; omega) | omega) ?_
  rintro _ _ ⟨rfl, rfl⟩
  simp only [Option.toList_some, Option.toList_none, List.cons_append, List.nil_append]
  refine W_astoreN d28_19 (pc' := 20) rfl A3 rfl rfl S3 ?_
  refine W_new d28_20 (pc' := 23) rfl (w54 K) (w55 K) (w56 K) (lay_MutableBigInteger K) df_MutableBigInteger (by decide) (by decide) (fun w => ?_)
  refine W_dup d28_23 (pc' := 24) rfl rfl ?_
  refine W_aloadN d28_24 (pc' := 25) rfl A1 rfl ?_
  refine W_getfield d28_25 (pc' := 28) rfl (w144 K) Via.refl (by first | assumption | exact A0 | exact A1 | exact A2 | exact A3 | exact A4 | exact A5 | exact A6 | exact A7 | exact Tl1 ‹_› | exact Tl2 ‹_› | exact Tl3 ‹_› | exact Tl4 ‹_› | exact Tl5 ‹_› | exact Tl6 ‹_› | exact Tl7 ‹_› | exact Tl8 ‹_›) A1 A1 ?_
  refine W_special d28_28 (pc' := 31) rfl rfl rfl (w157 K) (w158 K) (w56 K) (w159 K) (by decide) (m_mbiI K (Tl3 ht1)) ar14 rfl (by decide) (Nat.le_of_ble_eq_true rfl) (by first | decide | (dsimp only; omega) | omega) (by first | decide | (dsimp only; omega) | omega) ?_
  rintro _ _ ⟨rfl, rfl⟩
  simp only [Option.toList_some, Option.toList_none, List.cons_append, List.nil_append]
  refine W_astore d28_31 (pc' := 33) rfl A4 rfl rfl S4 ?_
  refine W_aloadN d28_33 (pc' := 34) rfl A3 rfl ?_
  refine W_aload d28_34 (pc' := 36) rfl A4 rfl ?_
  refine W_aloadN d28_36 (pc' := 37) rfl A2 rfl ?_
  refine W_iconst d28_37 (pc' := 38) (v := 0) rfl (by decide) ?_
  refine W_focus (a := tq) (by first | exact ⟨A0, E0⟩ | exact ⟨A1, E1⟩ | exact ⟨A2, E2⟩ | exact ⟨A3, E3⟩ | exact ⟨A4, E4⟩ | exact ⟨A5, E5⟩ | exact ⟨A6, E6⟩ | exact ⟨A7, E7⟩) (W_focus (a := q) (by first | exact ⟨A0, E0⟩ | exact ⟨A1, E1⟩ | exact ⟨A2, E2⟩ | exact ⟨A3, E3⟩ | exact ⟨A4, E4⟩ | exact ⟨A5, E5⟩ | exact ⟨A6, E6⟩ | exact ⟨A7, E7⟩) ?_)
  rcases hs with ⟨rfl, rfl⟩ | ⟨hs, ⟨x, rfl, hx⟩ | ⟨h, l', rfl, hh⟩⟩
  · refine W_virtual d28_38 (pc' := 41) rfl rfl (w160 K) (w161 K) (NF.sel (w163 K)) (w163 K) (w162 K) (w56 K) (w164 K) (by decide) (m_dk0 K A2 A1) ar15 rfl (by first | assumption | exact A0 | exact A1 | exact A2 | exact A3 | exact A4 | exact A5 | exact A6 | exact A7 | exact Tl1 ‹_› | exact Tl2 ‹_› | exact Tl3 ‹_› | exact Tl4 ‹_› | exact Tl5 ‹_› | exact Tl6 ‹_› | exact Tl7 ‹_› | exact Tl8 ‹_›) (by decide) (Nat.le_of_ble_eq_true rfl) (by first | decide | (dsimp only; omega) | omega) (by first | decide | (dsimp only; omega) | omega) ?_
    rintro _ _ ⟨rfl, rfl⟩
    simp only [Option.toList_some, Option.toList_none, List.cons_append, List.nil_append]
    refine W_focus (a := tq) (by first | exact ⟨A0, E0⟩ | exact ⟨A1, E1⟩ | exact ⟨A2, E2⟩ | exact ⟨A3, E3⟩ | exact ⟨A4, E4⟩ | exact ⟨A5, E5⟩ | exact ⟨A6, E6⟩ | exact ⟨A7, E7⟩) (W_drop (W_focus (a := w) (by first | exact ⟨A0, E0⟩ | exact ⟨A1, E1⟩ | exact ⟨A2, E2⟩ | exact ⟨A3, E3⟩ | exact ⟨A4, E4⟩ | exact ⟨A5, E5⟩ | exact ⟨A6, E6⟩ | exact ⟨A7, E7⟩) (W_drop (W_focus (a := u) (by first | exact ⟨A0, E0⟩ | exact ⟨A1, E1⟩ | exact ⟨A2, E2⟩ | exact ⟨A3, E3⟩ | exact ⟨A4, E4⟩ | exact ⟨A5, E5⟩ | exact ⟨A6, E6⟩ | exact ⟨A7, E7⟩) (W_drop ?_)))))
    refine W_pop d28_41 (pc' := 42) rfl rfl ?_
    refine W_aloadN d28_42 (pc' := 43) rfl A2 rfl ?_
    refine W_aloadN d28_43 (pc' := 44) rfl A0 rfl ?_
    refine W_getfield d28_44 (pc' := 47) rfl (w47 K) Via.refl (by first | assumption | exact A0 | exact A1 | exact A2 | exact A3 | exact A4 | exact A5 | exact A6 | exact A7 | exact Tl1 ‹_› | exact Tl2 ‹_› | exact Tl3 ‹_› | exact Tl4 ‹_› | exact Tl5 ‹_› | exact Tl6 ‹_› | exact Tl7 ‹_› | exact Tl8 ‹_›) A0 A0 ?_
    refine W_aloadN d28_47 (pc' := 48) rfl A1 rfl ?_
    refine W_getfield d28_48 (pc' := 51) rfl (w47 K) Via.refl (by first | assumption | exact A0 | exact A1 | exact A2 | exact A3 | exact A4 | exact A5 | exact A6 | exact A7 | exact Tl1 ‹_› | exact Tl2 ‹_› | exact Tl3 ‹_› | exact Tl4 ‹_› | exact Tl5 ‹_› | exact Tl6 ‹_› | exact Tl7 ‹_› | exact Tl8 ‹_›) A0 A0 ?_
    refine W_imul d28_51 (pc' := 52) rfl ?_
    refine W_virtual d28_52 (pc' := 55) rfl rfl (w121 K) (w122 K) (NF.sel (w124 K)) (w124 K) (w123 K) (w56 K) (w125 K) (by decide) (m_tbi0 K) ar12 rfl (by first | assumption | exact A0 | exact A1 | exact A2 | exact A3 | exact A4 | exact A5 | exact A6 | exact A7 | exact Tl1 ‹_› | exact Tl2 ‹_› | exact Tl3 ‹_› | exact Tl4 ‹_› | exact Tl5 ‹_› | exact Tl6 ‹_› | exact Tl7 ‹_› | exact Tl8 ‹_›) (by decide) (Nat.le_of_ble_eq_true rfl) (by first | decide | (dsimp only; omega) | omega) (by first | decide | (dsimp only; omega) | omega) ?_
    rintro _ _ ⟨g, tg, rfl, rfl⟩
    simp only [Option.toList_some, Option.toList_none, List.cons_append, List.nil_append]
    exact W_areturn d28_55 rfl rfl rfl rfl (by first | decide | (dsimp only; omega) | omega) (by first | decide | (dsimp only; omega) | omega) ⟨g, tg, rfl, rfl⟩
  · refine W_virtual d28_38 (pc' := 41) rfl rfl (w160 K) (w161 K) (NF.sel (w163 K)) (w163 K) (w162 K) (w56 K) (w164 K) (by decide) (m_dk1 K A1 (Tl2 ht) A0 (Tl2 ht1) hx) ar15 rfl (by first | assumption | exact A0 | exact A1 | exact A2 | exact A3 | exact A4 | exact A5 | exact A6 | exact A7 | exact Tl1 ‹_› | exact Tl2 ‹_› | exact Tl3 ‹_› | exact Tl4 ‹_› | exact Tl5 ‹_› | exact Tl6 ‹_› | exact Tl7 ‹_› | exact Tl8 ‹_›) (by decide) (Nat.le_of_ble_eq_true rfl) (by first | decide | (dsimp only; omega) | omega) (by first | decide | (dsimp only; omega) | omega) ?_
    rintro _ _ ⟨rfl, rfl⟩
    simp only [Option.toList_some, Option.toList_none, List.cons_append, List.nil_append]
    refine W_focus (a := w) (by first | exact ⟨A0, E0⟩ | exact ⟨A1, E1⟩ | exact ⟨A2, E2⟩ | exact ⟨A3, E3⟩ | exact ⟨A4, E4⟩ | exact ⟨A5, E5⟩ | exact ⟨A6, E6⟩ | exact ⟨A7, E7⟩) (W_drop (W_focus (a := u) (by first | exact ⟨A0, E0⟩ | exact ⟨A1, E1⟩ | exact ⟨A2, E2⟩ | exact ⟨A3, E3⟩ | exact ⟨A4, E4⟩ | exact ⟨A5, E5⟩ | exact ⟨A6, E6⟩ | exact ⟨A7, E7⟩) (W_drop ?_)))
    refine W_pop d28_41 (pc' := 42) rfl rfl ?_
    refine W_aloadN d28_42 (pc' := 43) rfl A2 rfl ?_
    refine W_aloadN d28_43 (pc' := 44) rfl A0 rfl ?_
    refine W_getfield d28_44 (pc' := 47) rfl (w47 K) Via.refl (by first | assumption | exact A0 | exact A1 | exact A2 | exact A3 | exact A4 | exact A5 | exact A6 | exact A7 | exact Tl1 ‹_› | exact Tl2 ‹_› | exact Tl3 ‹_› | exact Tl4 ‹_› | exact Tl5 ‹_› | exact Tl6 ‹_› | exact Tl7 ‹_› | exact Tl8 ‹_›) A0 A0 ?_
    refine W_aloadN d28_47 (pc' := 48) rfl A1 rfl ?_
    refine W_getfield d28_48 (pc' := 51) rfl (w47 K) Via.refl (by first | assumption | exact A0 | exact A1 | exact A2 | exact A3 | exact A4 | exact A5 | exact A6 | exact A7 | exact Tl1 ‹_› | exact Tl2 ‹_› | exact Tl3 ‹_› | exact Tl4 ‹_› | exact Tl5 ‹_› | exact Tl6 ‹_› | exact Tl7 ‹_› | exact Tl8 ‹_›) A0 A0 ?_
    refine W_imul d28_51 (pc' := 52) rfl ?_
    rw [Int32.mul_one]
    refine W_virtual d28_52 (pc' := 55) rfl rfl (w121 K) (w122 K) (NF.sel (w124 K)) (w124 K) (w123 K) (w56 K) (w125 K) (by decide) (m_tbi K (vs := [.int x]) (lt_ble rfl) (Nat.le_of_ble_eq_true rfl) (by rcases hs with rfl | rfl <;> decide)) ar12 rfl (by first | assumption | exact A0 | exact A1 | exact A2 | exact A3 | exact A4 | exact A5 | exact A6 | exact A7 | exact Tl1 ‹_› | exact Tl2 ‹_› | exact Tl3 ‹_› | exact Tl4 ‹_› | exact Tl5 ‹_› | exact Tl6 ‹_› | exact Tl7 ‹_› | exact Tl8 ‹_›) (by decide) (Nat.le_of_ble_eq_true rfl) (by first | decide | (dsimp only; omega) | omega) (by first | decide | (dsimp only; omega) | omega) ?_
    rintro _ _ ⟨g, rfl, rfl⟩
    simp only [Option.toList_some, Option.toList_none, List.cons_append, List.nil_append]
    exact W_areturn d28_55 rfl rfl rfl rfl (by first | decide | (dsimp only; omega) | omega) (by first | decide | (dsimp only; omega) | omega) ⟨g, tq, rfl, rfl⟩
  · refine W_virtual d28_38 (pc' := 41) rfl rfl (w160 K) (w161 K) (NF.sel (w163 K)) (w163 K) (w162 K) (w56 K) (w164 K) (by decide) (m_dk2 K A1 (Tl2 ht) A0 (Tl2 ht1) hh) ar15 rfl (by first | assumption | exact A0 | exact A1 | exact A2 | exact A3 | exact A4 | exact A5 | exact A6 | exact A7 | exact Tl1 ‹_› | exact Tl2 ‹_› | exact Tl3 ‹_› | exact Tl4 ‹_› | exact Tl5 ‹_› | exact Tl6 ‹_› | exact Tl7 ‹_› | exact Tl8 ‹_›) (by decide) (Nat.le_of_ble_eq_true rfl) (by first | decide | (dsimp only; omega) | omega) (by first | decide | (dsimp only; omega) | omega) ?_
    rintro _ _ ⟨tn, rfl, rfl⟩
    simp only [Option.toList_some, Option.toList_none, List.cons_append, List.nil_append]
    refine W_focus (a := w) (by first | exact ⟨A0, E0⟩ | exact ⟨A1, E1⟩ | exact ⟨A2, E2⟩ | exact ⟨A3, E3⟩ | exact ⟨A4, E4⟩ | exact ⟨A5, E5⟩ | exact ⟨A6, E6⟩ | exact ⟨A7, E7⟩) (W_drop (W_focus (a := u) (by first | exact ⟨A0, E0⟩ | exact ⟨A1, E1⟩ | exact ⟨A2, E2⟩ | exact ⟨A3, E3⟩ | exact ⟨A4, E4⟩ | exact ⟨A5, E5⟩ | exact ⟨A6, E6⟩ | exact ⟨A7, E7⟩) (W_drop ?_)))
    refine W_pop d28_41 (pc' := 42) rfl rfl ?_
    refine W_aloadN d28_42 (pc' := 43) rfl A2 rfl ?_
    refine W_aloadN d28_43 (pc' := 44) rfl A0 rfl ?_
    refine W_getfield d28_44 (pc' := 47) rfl (w47 K) Via.refl (by first | assumption | exact A0 | exact A1 | exact A2 | exact A3 | exact A4 | exact A5 | exact A6 | exact A7 | exact Tl1 ‹_› | exact Tl2 ‹_› | exact Tl3 ‹_› | exact Tl4 ‹_› | exact Tl5 ‹_› | exact Tl6 ‹_› | exact Tl7 ‹_› | exact Tl8 ‹_›) A0 A0 ?_
    refine W_aloadN d28_47 (pc' := 48) rfl A1 rfl ?_
    refine W_getfield d28_48 (pc' := 51) rfl (w47 K) Via.refl (by first | assumption | exact A0 | exact A1 | exact A2 | exact A3 | exact A4 | exact A5 | exact A6 | exact A7 | exact Tl1 ‹_› | exact Tl2 ‹_› | exact Tl3 ‹_› | exact Tl4 ‹_› | exact Tl5 ‹_› | exact Tl6 ‹_› | exact Tl7 ‹_› | exact Tl8 ‹_›) A0 A0 ?_
    refine W_imul d28_51 (pc' := 52) rfl ?_
    rw [Int32.mul_one]
    refine W_virtual d28_52 (pc' := 55) rfl rfl (w121 K) (w122 K) (NF.sel (w124 K)) (w124 K) (w123 K) (w56 K) (w125 K) (by decide) (m_tbi K (vs := [.int h, .int l']) (lt_ble rfl) (Nat.le_of_ble_eq_true rfl) (by rcases hs with rfl | rfl <;> decide)) ar12 rfl (by first | assumption | exact A0 | exact A1 | exact A2 | exact A3 | exact A4 | exact A5 | exact A6 | exact A7 | exact Tl1 ‹_› | exact Tl2 ‹_› | exact Tl3 ‹_› | exact Tl4 ‹_› | exact Tl5 ‹_› | exact Tl6 ‹_› | exact Tl7 ‹_› | exact Tl8 ‹_›) (by decide) (Nat.le_of_ble_eq_true rfl) (by first | decide | (dsimp only; omega) | omega) (by first | decide | (dsimp only; omega) | omega) ?_
    rintro _ _ ⟨g, rfl, rfl⟩
    simp only [Option.toList_some, Option.toList_none, List.cons_append, List.nil_append]
    exact W_areturn d28_55 rfl rfl rfl rfl (by first | decide | (dsimp only; omega) | omega) (by first | decide | (dsimp only; omega) | omega) ⟨g, tn, rfl, rfl⟩
theorem m_div {l : Launch} {Z : State} {a0 : Array Value} (K : Ok Z a0) {b t o t1 : Addr} {sg : Int32} {ws : List Int32} {F : List Atom} {i i2 j k : Nat} {f1 f2 f3 f4 : Bool} (hb : F[i]? = some (f1, b, IsObj Z "java/math/BigInteger" fl_BigInteger [.int sg, .ref t])) (ht : F[i2]? = some (f2, t, IsArrX Z "[I" .int (ws.map Value.int))) (hs : Shp sg ws) (ho : F[j]? = some (f3, o, IsObj Z "java/math/BigInteger" fl_BigInteger [.int 1, .ref t1])) (ht1 : F[k]? = some (f4, t1, IsArrX Z "[I" .int [.int 1])) :
    Meth l Z a0 EL (⟨"java/math/BigInteger", "divide", "(Ljava/math/BigInteger;)Ljava/math/BigInteger;"⟩ : MethodName) jdk_2097_method_61_code 2 (some (.object "java/math/BigInteger")) ({ frames := 5, cells := 6, slots := 18, locals := 76 } : Room) [.ref b, .ref o] F (fun v L' => ∃ g tg, v = some (.ref g) ∧ L' = (false, g, IsObj Z "java/math/BigInteger" fl_BigInteger [.int sg, .ref tg]) :: (false, tg, IsArrX Z "[I" .int (ws.map Value.int)) :: F) := by
  refine MethW.of_wp (Ls := [.val (.ref b), .val (.ref o)]) (plainFor_of_name pn1) (EWof K) (by first | rfl | (simp [argsToLocals, Value.category]; done)) (fun r => ?_)
  show WP _ _ _ _ _ _ _ _ _ _ _ _ _ _ _ _ _ _
  refine W_aloadN d29_0 (pc' := 1) rfl A1 rfl ?_
  refine W_getfield d29_1 (pc' := 4) rfl (w144 K) Via.refl (by first | assumption | exact A0 | exact A1 | exact A2 | exact A3 | exact A4 | exact A5 | exact A6 | exact A7 | exact Tl1 ‹_› | exact Tl2 ‹_› | exact Tl3 ‹_› | exact Tl4 ‹_› | exact Tl5 ‹_› | exact Tl6 ‹_› | exact Tl7 ‹_› | exact Tl8 ‹_›) A1 A1 ?_
  refine W_arraylengthX d29_4 (pc' := 5) rfl ht1 rfl ?_
  refine W_bipush d29_5 (pc' := 7) (v := 80) rfl (by decide) ?_
  refine W_icmp_lt_T d29_7 (pc' := 26) (by decide) (by decide) (by decide) ?_
  refine W_aloadN d29_26 (pc' := 27) rfl A0 rfl ?_
  refine W_aloadN d29_27 (pc' := 28) rfl A1 rfl ?_
  refine W_virtual d29_28 (pc' := 31) rfl rfl (w151 K) (decl_of (w152 K) (w155 K)) (NF.sel (w154 K)) (w154 K) (w152 K) (w8 K) (w155 K) (by decide) (m_bdk K hb ht hs ho ht1) ar16 rfl (by first | assumption | exact A0 | exact A1 | exact A2 | exact A3 | exact A4 | exact A5 | exact A6 | exact A7 | exact Tl1 ‹_› | exact Tl2 ‹_› | exact Tl3 ‹_› | exact Tl4 ‹_› | exact Tl5 ‹_› | exact Tl6 ‹_› | exact Tl7 ‹_› | exact Tl8 ‹_›) (by decide) (Nat.le_of_ble_eq_true rfl) (by first | decide | (dsimp only; omega) | omega) (by first | decide | (dsimp only; omega) | omega) ?_
  rintro _ _ ⟨g, tg, rfl, rfl⟩
  simp only [Option.toList_some, Option.toList_none, List.cons_append, List.nil_append]
  exact W_areturn d29_31 rfl rfl rfl rfl (by first | decide | (dsimp only; omega) | omega) (by first | decide | (dsimp only; omega) | omega) ⟨g, tg, rfl, rfl⟩
theorem m_shl0 {l : Launch} {Z : State} {a0 : Array Value} (K : Ok Z a0) {t : Addr} {vs : List Value} {F : List Atom} {j : Nat} {b : Bool} (ht : F[j]? = some (b, t, IsArrX Z "[I" .int vs)) (h1 : vs.length ≤ 2) :
    Meth l Z a0 EL (⟨"java/math/BigInteger", "shiftLeft", "([II)[I"⟩ : MethodName) jdk_2097_method_102_code 10 (some (.array .int)) ({ frames := 1, cells := 1, slots := 2, locals := 18 } : Room) [.ref t, .int 0] F (fun v L' => ∃ t', v = some (.ref t') ∧ L' = (true, t', IsArrX Z "[I" .int vs) :: F) := by
  refine MethW.of_wp (Ls := [.val (.ref t), .val (.int 0), .unset, .unset, .unset, .unset, .unset, .unset, .unset, .unset]) (plainFor_of_name pn1) (EWof K) (by first | rfl | (simp [argsToLocals, Value.category]; done)) (fun r => ?_)
  show WP _ _ _ _ _ _ _ _ _ _ _ _ _ _ _ _ _ _
  refine W_iloadN d30_0 (pc' := 1) rfl A1 ?_
  refine W_iconst d30_1 (pc' := 2) (v := 5) rfl (by decide) ?_
  refine W_iushr d30_2 (pc' := 3) rfl ?_
  refine W_istoreN d30_3 (pc' := 4) rfl A2 rfl S2 ?_
  refine W_iloadN d30_4 (pc' := 5) rfl A1 ?_
  refine W_bipush d30_5 (pc' := 7) (v := 31) rfl (by decide) ?_
  refine W_iand d30_7 (pc' := 8) rfl ?_
  refine W_istoreN d30_8 (pc' := 9) rfl A3 rfl S3 ?_
  refine W_aloadN d30_9 (pc' := 10) rfl A0 rfl ?_
  refine W_arraylengthX d30_10 (pc' := 11) rfl ht rfl ?_
  refine W_istore d30_11 (pc' := 13) rfl A4 rfl S4 ?_
  refine W_aconst_null d30_13 (pc' := 14) rfl ?_
  refine W_astore d30_14 (pc' := 16) rfl A5 rfl rfl S5 ?_
  refine W_iloadN d30_16 (pc' := 17) rfl A3 ?_
  refine W_if_ne_F d30_17 (pc' := 20) rfl (by decide) ?_
  refine W_iload d30_20 (pc' := 22) rfl A4 ?_
  refine W_iloadN d30_22 (pc' := 23) rfl A2 ?_
  refine W_iadd d30_23 (pc' := 24) rfl ?_
  rw [show XT.ushr 0 5 = 0 by decide, Int32.add_zero]
  refine W_newarrayX d30_24 (pc' := 26) rfl (w92 K) (k := (vs.length)) (cap := 2) (ty := .int) (vs := List.replicate ((vs.length)) (.int 0)) (Ix.of (by omega)) rfl (ad := "[I") (by decide +kernel) (by first | decide | omega) (by decide) rfl (by decide) (by first | decide | (dsimp only; omega) | omega) (fun t' => ?_)
  refine W_astore d30_26 (pc' := 28) rfl A5 rfl rfl S5 ?_
  refine W_aloadN d30_28 (pc' := 29) rfl A0 rfl ?_
  refine W_iconst d30_29 (pc' := 30) (v := 0) rfl (by decide) ?_
  refine W_aload d30_30 (pc' := 32) rfl A5 rfl ?_
  refine W_iconst d30_32 (pc' := 33) (v := 0) rfl (by decide) ?_
  refine W_iload d30_33 (pc' := 35) rfl A4 ?_
  refine W_arraycopyX d30_35 (pc' := 38) rfl (w205 K) (w208 K) (w206 K) (w207 K) rfl (PS := IsArrX Z "[I" .int vs) (fun _ q => q.1) (by first | assumption | exact A0 | exact A1 | exact A2 | exact A3 | exact A4 | exact A5 | exact A6 | exact A7 | exact Tl1 ‹_› | exact Tl2 ‹_› | exact Tl3 ‹_› | exact Tl4 ‹_› | exact Tl5 ‹_› | exact Tl6 ‹_› | exact Tl7 ‹_› | exact Tl8 ‹_›) (sp' := 0) (dp' := 0) (nn' := vs.length) (vs := vs) (vd := List.replicate vs.length (Value.int 0)) (Ix.lit rfl) (Ix.lit rfl) (Ix.of (by omega)) (by omega) (by simp) rfl (by first | exact ⟨A0, S0⟩ | exact ⟨A1, S1⟩ | exact ⟨A2, S2⟩ | exact ⟨A3, S3⟩ | exact ⟨A4, S4⟩ | exact ⟨A5, S5⟩ | exact ⟨A6, S6⟩ | exact ⟨A7, S7⟩) rfl (by decide) (Nat.le_of_ble_eq_true rfl) ?_
  have e : (List.replicate vs.length (Value.int 0)).take 0 ++ (vs.drop 0).take vs.length ++ (List.replicate vs.length (Value.int 0)).drop (0 + vs.length) = vs := by simp
  rw [e]
  refine W_goto d30_38 (pc' := 152) (by decide) (by decide) ?_
  refine W_aload d30_152 (pc' := 154) rfl A5 rfl ?_
  exact W_areturn d30_154 rfl rfl rfl rfl (by first | decide | (dsimp only; omega) | omega) (by first | decide | (dsimp only; omega) | omega) ⟨t', rfl, rfl⟩
theorem m_mbyi {l : Launch} {Z : State} {a0 : Array Value} (K : Ok Z a0) {t : Addr} {s : Int32} {vs : List Value} {F : List Atom} {j : Nat} {b : Bool} (ht : F[j]? = some (b, t, IsArrX Z "[I" .int vs)) (h0 : 0 < vs.length) (h1 : vs.length ≤ 2) :
    Meth l Z a0 EL (⟨"java/math/BigInteger", "multiplyByInt", "([III)Ljava/math/BigInteger;"⟩ : MethodName) jdk_2097_method_43_code 13 (some (.object "java/math/BigInteger")) ({ frames := 3, cells := 2, slots := 8, locals := 41 } : Room) [.ref t, .int 1, .int s] F (fun v L' => ∃ g tg, v = some (.ref g) ∧ L' = (false, g, IsObj Z "java/math/BigInteger" fl_BigInteger [.int s, .ref tg]) :: (false, tg, IsArrX Z "[I" .int vs) :: F) := by
  refine MethW.of_wp (Ls := [.val (.ref t), .val (.int 1), .val (.int s), .unset, .unset, .unset, .unset, .unset, .unset, .unset, .unset, .unset, .unset]) (plainFor_of_name pn1) (EWof K) (by first | rfl | (simp [argsToLocals, Value.category]; done)) (fun r => ?_)
  show WP _ _ _ _ _ _ _ _ _ _ _ _ _ _ _ _ _ _
  refine W_iloadN d31_0 (pc' := 1) rfl A1 ?_
  refine W_static d31_1 (pc' := 4) rfl rfl (w194 K) (w195 K) (w109 K) (w196 K) (by decide) (m_bcnt1 K) ar0 rfl (by decide) (Nat.le_of_ble_eq_true rfl) (by first | decide | (dsimp only; omega) | omega) (by first | decide | (dsimp only; omega) | omega) ?_
  rintro _ _ ⟨rfl, rfl⟩
  simp only [Option.toList_some, Option.toList_none, List.cons_append, List.nil_append]
  refine W_iconst d31_4 (pc' := 5) (v := 1) rfl (by decide) ?_
  refine W_icmp_ne_F d31_5 (pc' := 8) rfl rfl ?_
  refine W_new d31_8 (pc' := 11) rfl (w200 K) (w127 K) (w8 K) (lay_BigInteger K) df_BigInteger (by decide) (by decide) (fun g => ?_)
  refine W_dup d31_11 (pc' := 12) rfl rfl ?_
  refine W_aloadN d31_12 (pc' := 13) rfl A0 rfl ?_
  refine W_iloadN d31_13 (pc' := 14) rfl A1 ?_
  refine W_static d31_14 (pc' := 17) rfl rfl (w201 K) (w108 K) (w109 K) (w110 K) (by decide) (m_ntz K (k := 0) (by decide) (lb_zero (by decide))) ar0 rfl (by decide) (Nat.le_of_ble_eq_true rfl) (by first | decide | (dsimp only; omega) | omega) (by first | decide | (dsimp only; omega) | omega) ?_
  rintro _ _ ⟨rfl, rfl⟩
  simp only [Option.toList_some, Option.toList_none, List.cons_append, List.nil_append]
  refine W_static d31_17 (pc' := 20) rfl rfl (w202 K) (w203 K) (w8 K) (w204 K) (by decide) (m_shl0 K (Tl1 ht) h1) ar6 rfl (by decide) (Nat.le_of_ble_eq_true rfl) (by first | decide | (dsimp only; omega) | omega) (by first | decide | (dsimp only; omega) | omega) ?_
  rintro _ _ ⟨tg, rfl, rfl⟩
  simp only [Option.toList_some, Option.toList_none, List.cons_append, List.nil_append]
  refine W_iloadN d31_20 (pc' := 21) rfl A2 ?_
  refine W_focus (a := g) (by first | exact ⟨A0, E0⟩ | exact ⟨A1, E1⟩ | exact ⟨A2, E2⟩ | exact ⟨A3, E3⟩ | exact ⟨A4, E4⟩ | exact ⟨A5, E5⟩ | exact ⟨A6, E6⟩ | exact ⟨A7, E7⟩) ?_
  refine W_special d31_21 (pc' := 24) rfl rfl rfl (w209 K) (w134 K) (w8 K) (w136 K) (by decide) (m_biA K A0 h0 h1) ar8 rfl (by decide) (Nat.le_of_ble_eq_true rfl) (by first | decide | (dsimp only; omega) | omega) (by first | decide | (dsimp only; omega) | omega) ?_
  rintro _ _ ⟨rfl, rfl⟩
  simp only [Option.toList_some, Option.toList_none, List.cons_append, List.nil_append]
  refine W_focus (a := tg) (by first | exact ⟨A0, E0⟩ | exact ⟨A1, E1⟩ | exact ⟨A2, E2⟩ | exact ⟨A3, E3⟩ | exact ⟨A4, E4⟩ | exact ⟨A5, E5⟩ | exact ⟨A6, E6⟩ | exact ⟨A7, E7⟩) (W_frz (W_focus (a := g) (by first | exact ⟨A0, E0⟩ | exact ⟨A1, E1⟩ | exact ⟨A2, E2⟩ | exact ⟨A3, E3⟩ | exact ⟨A4, E4⟩ | exact ⟨A5, E5⟩ | exact ⟨A6, E6⟩ | exact ⟨A7, E7⟩) (W_frz ?_)))
  exact W_areturn d31_24 rfl rfl rfl rfl (by first | decide | (dsimp only; omega) | omega) (by first | decide | (dsimp only; omega) | omega) ⟨g, tg, rfl, rfl⟩
theorem m_mul4 {l : Launch} {Z : State} {a0 : Array Value} (K : Ok Z a0) {b t o t1 : Addr} {sg : Int32} {ws : List Int32} {F : List Atom} {i i2 j k : Nat} {f1 f2 f3 f4 : Bool} (hb : F[i]? = some (f1, b, IsObj Z "java/math/BigInteger" fl_BigInteger [.int sg, .ref t])) (ht : F[i2]? = some (f2, t, IsArrX Z "[I" .int (ws.map Value.int))) (hs : Shp sg ws) (ho : F[j]? = some (f3, o, IsObj Z "java/math/BigInteger" fl_BigInteger [.int 1, .ref t1])) (ht1 : F[k]? = some (f4, t1, IsArrX Z "[I" .int [.int 1])) :
    Meth l Z a0 EL (⟨"java/math/BigInteger", "multiply", "(Ljava/math/BigInteger;ZZI)Ljava/math/BigInteger;"⟩ : MethodName) jdk_2097_method_42_code 9 (some (.object "java/math/BigInteger")) ({ frames := 4, cells := 2, slots := 8, locals := 65 } : Room) [.ref b, .ref o, .int 0, .int 0, .int 0] F (fun v L' => ∃ g tg, v = some (.ref g) ∧ L' = (false, g, IsObj Z "java/math/BigInteger" fl_BigInteger [.int sg, .ref tg]) :: (false, tg, IsArrX Z "[I" .int (ws.map Value.int)) :: F) := by
  refine MethW.of_wp (Ls := [.val (.ref b), .val (.ref o), .val (.int 0), .val (.int 0), .val (.int 0), .unset, .unset, .unset, .unset]) (plainFor_of_name pn1) (EWof K) (by first | rfl | (simp [argsToLocals, Value.category]; done)) (fun r => ?_)
  show WP _ _ _ _ _ _ _ _ _ _ _ _ _ _ _ _ _ _
  refine W_aloadN d32_0 (pc' := 1) rfl A1 rfl ?_
  refine W_getfield d32_1 (pc' := 4) rfl (w47 K) Via.refl (by first | assumption | exact A0 | exact A1 | exact A2 | exact A3 | exact A4 | exact A5 | exact A6 | exact A7 | exact Tl1 ‹_› | exact Tl2 ‹_› | exact Tl3 ‹_› | exact Tl4 ‹_› | exact Tl5 ‹_› | exact Tl6 ‹_› | exact Tl7 ‹_› | exact Tl8 ‹_›) A0 A0 ?_
  refine W_if_eq_F d32_4 (pc' := 7) rfl (by decide) ?_
  refine W_aloadN d32_7 (pc' := 8) rfl A0 rfl ?_
  refine W_getfield d32_8 (pc' := 11) rfl (w47 K) Via.refl (by first | assumption | exact A0 | exact A1 | exact A2 | exact A3 | exact A4 | exact A5 | exact A6 | exact A7 | exact Tl1 ‹_› | exact Tl2 ‹_› | exact Tl3 ‹_› | exact Tl4 ‹_› | exact Tl5 ‹_› | exact Tl6 ‹_› | exact Tl7 ‹_› | exact Tl8 ‹_›) A0 A0 ?_
  rcases hs with ⟨rfl, rfl⟩ | ⟨hs, hw⟩
  · obtain ⟨g, hz, tg, cb, ct, z1, z2, z3, z4⟩ := K.zero
    refine W_if_ne_F d32_11 (pc' := 14) rfl rfl ?_
    refine W_getstatic d32_14 (pc' := 17) rfl (w279 K) Via.refl hz ?_
    refine W_old z3 z4 (W_old z1 z2 ?_)
    exact W_areturn d32_17 rfl rfl rfl rfl (by first | decide | (dsimp only; omega) | omega) (by first | decide | (dsimp only; omega) | omega) ⟨g, tg, rfl, rfl⟩
  · have hn : sg ≠ 0 := by rcases hs with rfl | rfl <;> decide
    have hl : 0 < ws.length ∧ ws.length ≤ 2 := by rcases hw with ⟨x, rfl, -⟩ | ⟨h, l', rfl, -⟩ <;> exact ⟨lt_ble rfl, Nat.le_of_ble_eq_true rfl⟩
    have hlt : (Int32.ofNat (ws.map Value.int).length) < 80 ∧ ¬ 20 < (Int32.ofNat (ws.map Value.int).length) := by rcases hw with ⟨x, rfl, -⟩ | ⟨h, l', rfl, -⟩ <;> (simp only [List.length_map, List.length_cons, List.length_nil]; decide)
    have h46 : WP l ({ frames := 4, cells := 2, slots := 8, locals := 65 } : Room) Z a0 EL "java/math/BigInteger" "multiply" jdk_2097_method_42_code 9 (some (.object "java/math/BigInteger")) (fun v L' => ∃ g tg, v = some (.ref g) ∧ L' = (false, g, IsObj Z "java/math/BigInteger" fl_BigInteger [.int sg, .ref tg]) :: (false, tg, IsArrX Z "[I" .int (ws.map Value.int)) :: F) r 0 0 F 46 [.val (.ref b), .val (.ref o), .val (.int 0), .val (.int 0), .val (.int 0), .val (.int (Int32.ofNat (ws.map Value.int).length)), .unset, .unset, .unset] [] := by
      refine W_aloadN d32_46 (pc' := 47) rfl A1 rfl ?_
      refine W_getfield d32_47 (pc' := 50) rfl (w144 K) Via.refl (by first | assumption | exact A0 | exact A1 | exact A2 | exact A3 | exact A4 | exact A5 | exact A6 | exact A7 | exact Tl1 ‹_› | exact Tl2 ‹_› | exact Tl3 ‹_› | exact Tl4 ‹_› | exact Tl5 ‹_› | exact Tl6 ‹_› | exact Tl7 ‹_› | exact Tl8 ‹_›) A1 A1 ?_
      refine W_arraylengthX d32_50 (pc' := 51) rfl ht1 rfl ?_
      refine W_istore d32_51 (pc' := 53) rfl A6 rfl S6 ?_
      refine W_iload d32_53 (pc' := 55) rfl A5 ?_
      refine W_bipush d32_55 (pc' := 57) (v := 80) rfl (by decide) ?_
      refine W_icmp_lt_T d32_57 (pc' := 67) (by decide) (by decide) hlt.1 ?_
      refine W_aloadN d32_67 (pc' := 68) rfl A0 rfl ?_
      refine W_getfield d32_68 (pc' := 71) rfl (w47 K) Via.refl (by first | assumption | exact A0 | exact A1 | exact A2 | exact A3 | exact A4 | exact A5 | exact A6 | exact A7 | exact Tl1 ‹_› | exact Tl2 ‹_› | exact Tl3 ‹_› | exact Tl4 ‹_› | exact Tl5 ‹_› | exact Tl6 ‹_› | exact Tl7 ‹_› | exact Tl8 ‹_›) A0 A0 ?_
      refine W_aloadN d32_71 (pc' := 72) rfl A1 rfl ?_
      refine W_getfield d32_72 (pc' := 75) rfl (w47 K) Via.refl (by first | assumption | exact A0 | exact A1 | exact A2 | exact A3 | exact A4 | exact A5 | exact A6 | exact A7 | exact Tl1 ‹_› | exact Tl2 ‹_› | exact Tl3 ‹_› | exact Tl4 ‹_› | exact Tl5 ‹_› | exact Tl6 ‹_› | exact Tl7 ‹_› | exact Tl8 ‹_›) A0 A0 ?_
      have h85 : WP l ({ frames := 4, cells := 2, slots := 8, locals := 65 } : Room) Z a0 EL "java/math/BigInteger" "multiply" jdk_2097_method_42_code 9 (some (.object "java/math/BigInteger")) (fun v L' => ∃ g tg, v = some (.ref g) ∧ L' = (false, g, IsObj Z "java/math/BigInteger" fl_BigInteger [.int sg, .ref tg]) :: (false, tg, IsArrX Z "[I" .int (ws.map Value.int)) :: F) r 0 0 F 85 [.val (.ref b), .val (.ref o), .val (.int 0), .val (.int 0), .val (.int 0), .val (.int (Int32.ofNat (ws.map Value.int).length)), .val (.int (Int32.ofNat [Value.int 1].length)), .val (.int sg), .unset] [] := by
        refine W_aloadN d32_85 (pc' := 86) rfl A1 rfl ?_
        refine W_getfield d32_86 (pc' := 89) rfl (w144 K) Via.refl (by first | assumption | exact A0 | exact A1 | exact A2 | exact A3 | exact A4 | exact A5 | exact A6 | exact A7 | exact Tl1 ‹_› | exact Tl2 ‹_› | exact Tl3 ‹_› | exact Tl4 ‹_› | exact Tl5 ‹_› | exact Tl6 ‹_› | exact Tl7 ‹_› | exact Tl8 ‹_›) A1 A1 ?_
        refine W_arraylengthX d32_89 (pc' := 90) rfl ht1 rfl ?_
        refine W_iconst d32_90 (pc' := 91) (v := 1) rfl (by decide) ?_
        refine W_icmp_ne_F d32_91 (pc' := 94) rfl rfl ?_
        refine W_aloadN d32_94 (pc' := 95) rfl A0 rfl ?_
        refine W_getfield d32_95 (pc' := 98) rfl (w144 K) Via.refl (by first | assumption | exact A0 | exact A1 | exact A2 | exact A3 | exact A4 | exact A5 | exact A6 | exact A7 | exact Tl1 ‹_› | exact Tl2 ‹_› | exact Tl3 ‹_› | exact Tl4 ‹_› | exact Tl5 ‹_› | exact Tl6 ‹_› | exact Tl7 ‹_› | exact Tl8 ‹_›) A1 A1 ?_
        refine W_aloadN d32_98 (pc' := 99) rfl A1 rfl ?_
        refine W_getfield d32_99 (pc' := 102) rfl (w144 K) Via.refl (by first | assumption | exact A0 | exact A1 | exact A2 | exact A3 | exact A4 | exact A5 | exact A6 | exact A7 | exact Tl1 ‹_› | exact Tl2 ‹_› | exact Tl3 ‹_› | exact Tl4 ‹_› | exact Tl5 ‹_› | exact Tl6 ‹_› | exact Tl7 ‹_› | exact Tl8 ‹_›) A1 A1 ?_
        refine W_iconst d32_102 (pc' := 103) (v := 0) rfl (by decide) ?_
        refine W_ialoadX d32_103 (pc' := 104) rfl (k := 0) (Ix.lit rfl) ht1 A0 ?_
        refine W_iload d32_104 (pc' := 106) rfl A7 ?_
        refine W_static d32_106 (pc' := 109) rfl rfl (w191 K) (w192 K) (w8 K) (w193 K) (by decide) (m_mbyi K ht (by simpa using hl.1) (by simpa using hl.2)) ar17 rfl (by decide) (Nat.le_of_ble_eq_true rfl) (by first | decide | (dsimp only; omega) | omega) (by first | decide | (dsimp only; omega) | omega) ?_
        rintro _ _ ⟨g, tg, rfl, rfl⟩
        simp only [Option.toList_some, Option.toList_none, List.cons_append, List.nil_append]
        exact W_areturn d32_109 rfl rfl rfl rfl (by first | decide | (dsimp only; omega) | omega) (by first | decide | (dsimp only; omega) | omega) ⟨g, tg, rfl, rfl⟩
      rcases hs with rfl | rfl
      · refine W_icmp_ne_F d32_75 (pc' := 78) rfl rfl ?_
        refine W_iconst d32_78 (pc' := 79) (v := 1) rfl (by decide) ?_
        refine W_goto d32_79 (pc' := 83) (by decide) (by decide) ?_
        refine W_istore d32_83 (pc' := 85) rfl A7 rfl S7 ?_
        exact h85
      · refine W_icmp_ne_T d32_75 (pc' := 82) (by decide) (by decide) (by decide) ?_
        refine W_iconst d32_82 (pc' := 83) (v := (-1)) rfl (by decide) ?_
        refine W_istore d32_83 (pc' := 85) rfl A7 rfl S7 ?_
        exact h85
    refine W_if_ne_T d32_11 (pc' := 18) (by decide) (by decide) hn ?_
    refine W_aloadN d32_18 (pc' := 19) rfl A0 rfl ?_
    refine W_getfield d32_19 (pc' := 22) rfl (w144 K) Via.refl (by first | assumption | exact A0 | exact A1 | exact A2 | exact A3 | exact A4 | exact A5 | exact A6 | exact A7 | exact Tl1 ‹_› | exact Tl2 ‹_› | exact Tl3 ‹_› | exact Tl4 ‹_› | exact Tl5 ‹_› | exact Tl6 ‹_› | exact Tl7 ‹_› | exact Tl8 ‹_›) A1 A1 ?_
    refine W_arraylengthX d32_22 (pc' := 23) rfl ht rfl ?_
    refine W_istore d32_23 (pc' := 25) rfl A5 rfl S5 ?_
    refine W_aloadN d32_25 (pc' := 26) rfl A1 rfl ?_
    refine W_aloadN d32_26 (pc' := 27) rfl A0 rfl ?_
    by_cases e : o = b
    · subst e
      refine W_acmp_ne_F d32_27 (pc' := 30) rfl rfl rfl rfl ?_
      refine W_iload d32_30 (pc' := 32) rfl A5 ?_
      refine W_bipush d32_32 (pc' := 34) (v := 20) rfl (by decide) ?_
      refine W_icmp_le_T d32_34 (pc' := 46) (by decide) (by decide) hlt.2 ?_
      exact h46
    · refine W_acmp_ne_T d32_27 (pc' := 46) (by decide) (by decide) rfl rfl (fun q => e (by cases q; rfl)) ?_
      exact h46
theorem m_mul {l : Launch} {Z : State} {a0 : Array Value} (K : Ok Z a0) {b t o t1 : Addr} {sg : Int32} {ws : List Int32} {F : List Atom} {i i2 j k : Nat} {f1 f2 f3 f4 : Bool} (hb : F[i]? = some (f1, b, IsObj Z "java/math/BigInteger" fl_BigInteger [.int sg, .ref t])) (ht : F[i2]? = some (f2, t, IsArrX Z "[I" .int (ws.map Value.int))) (hs : Shp sg ws) (ho : F[j]? = some (f3, o, IsObj Z "java/math/BigInteger" fl_BigInteger [.int 1, .ref t1])) (ht1 : F[k]? = some (f4, t1, IsArrX Z "[I" .int [.int 1])) :
    Meth l Z a0 EL (⟨"java/math/BigInteger", "multiply", "(Ljava/math/BigInteger;)Ljava/math/BigInteger;"⟩ : MethodName) jdk_2097_method_40_code 2 (some (.object "java/math/BigInteger")) ({ frames := 5, cells := 2, slots := 8, locals := 85 } : Room) [.ref b, .ref o] F (fun v L' => ∃ g tg, v = some (.ref g) ∧ L' = (false, g, IsObj Z "java/math/BigInteger" fl_BigInteger [.int sg, .ref tg]) :: (false, tg, IsArrX Z "[I" .int (ws.map Value.int)) :: F) := by
  refine MethW.of_wp (Ls := [.val (.ref b), .val (.ref o)]) (plainFor_of_name pn1) (EWof K) (by first | rfl | (simp [argsToLocals, Value.category]; done)) (fun r => ?_)
  show WP _ _ _ _ _ _ _ _ _ _ _ _ _ _ _ _ _ _
  refine W_aloadN d33_0 (pc' := 1) rfl A0 rfl ?_
  refine W_aloadN d33_1 (pc' := 2) rfl A1 rfl ?_
  refine W_iconst d33_2 (pc' := 3) (v := 0) rfl (by decide) ?_
  refine W_iconst d33_3 (pc' := 4) (v := 0) rfl (by decide) ?_
  refine W_iconst d33_4 (pc' := 5) (v := 0) rfl (by decide) ?_
  refine W_virtual d33_5 (pc' := 8) rfl rfl (w186 K) (decl_of (w187 K) (w190 K)) (NF.sel (w189 K)) (w189 K) (w187 K) (w8 K) (w190 K) (by decide) (m_mul4 K hb ht hs ho ht1) ar18 rfl (by first | assumption | exact A0 | exact A1 | exact A2 | exact A3 | exact A4 | exact A5 | exact A6 | exact A7 | exact Tl1 ‹_› | exact Tl2 ‹_› | exact Tl3 ‹_› | exact Tl4 ‹_› | exact Tl5 ‹_› | exact Tl6 ‹_› | exact Tl7 ‹_› | exact Tl8 ‹_›) (by decide) (Nat.le_of_ble_eq_true rfl) (by first | decide | (dsimp only; omega) | omega) (by first | decide | (dsimp only; omega) | omega) ?_
  rintro _ _ ⟨g, tg, rfl, rfl⟩
  simp only [Option.toList_some, Option.toList_none, List.cons_append, List.nil_append]
  exact W_areturn d33_8 rfl rfl rfl rfl (by first | decide | (dsimp only; omega) | omega) (by first | decide | (dsimp only; omega) | omega) ⟨g, tg, rfl, rfl⟩
theorem m_bsg {l : Launch} {Z : State} {a0 : Array Value} (K : Ok Z a0) {b : Addr} {sg : Int32} {tv : Value} {L : List Atom} {i : Nat} {f1 : Bool} (hb : L[i]? = some (f1, b, IsObj Z "java/math/BigInteger" fl_BigInteger [.int sg, tv])) : Meth l Z a0 EL (⟨"java/math/BigInteger", "signum", "()I"⟩ : MethodName) jdk_2097_method_81_code 1 (some .int) ({ frames := 0, cells := 0, slots := 0, locals := 0 } : Room) [.ref b] L (fun v L' => v = some (.int sg) ∧ L' = L) := by
  refine MethW.of_wp (Ls := [.val (.ref b)]) (plainFor_of_name pn1) (EWof K) (by first | rfl | (simp [argsToLocals, Value.category]; done)) (fun r => ?_)
  show WP _ _ _ _ _ _ _ _ _ _ _ _ _ _ _ _ _ _
  refine W_aloadN d34_0 (pc' := 1) rfl A0 rfl ?_
  refine W_getfield d34_1 (pc' := 4) rfl (w47 K) Via.refl (by first | assumption | exact A0 | exact A1 | exact A2 | exact A3 | exact A4 | exact A5 | exact A6 | exact A7 | exact Tl1 ‹_› | exact Tl2 ‹_› | exact Tl3 ‹_› | exact Tl4 ‹_› | exact Tl5 ‹_› | exact Tl6 ‹_› | exact Tl7 ‹_› | exact Tl8 ‹_›) A0 A0 ?_
  exact W_ireturn d34_4 rfl (by simp) rfl (by first | decide | (dsimp only; omega) | omega) (by first | decide | (dsimp only; omega) | omega) ⟨rfl, rfl⟩
theorem m_beq {l : Launch} {Z : State} {a0 : Array Value} (K : Ok Z a0) {b t c t' : Addr} {sg : Int32} {ws : List Int32} {L : List Atom} {i i2 j j2 : Nat} {f1 f2 f3 f4 : Bool} (hb : L[i]? = some (f1, b, IsObj Z "java/math/BigInteger" fl_BigInteger [.int sg, .ref t])) (ht : L[i2]? = some (f2, t, IsArrX Z "[I" .int (ws.map Value.int))) (hs : Shp sg ws) (hc : L[j]? = some (f3, c, IsObj Z "java/math/BigInteger" fl_BigInteger [.int sg, .ref t'])) (ht' : L[j2]? = some (f4, t', IsArrX Z "[I" .int (ws.map Value.int))) :
    Meth l Z a0 EL (⟨"java/math/BigInteger", "equals", "(Ljava/lang/Object;)Z"⟩ : MethodName) jdk_2097_method_124_code 7 (some .boolean) ({ frames := 0, cells := 0, slots := 0, locals := 0 } : Room) [.ref b, .ref c] L (fun v L' => v = some (.int 1) ∧ L' = L) := by
  refine MethW.of_wp (Ls := [.val (.ref b), .val (.ref c), .unset, .unset, .unset, .unset, .unset]) (plainFor_of_name pn1) (EWof K) (by first | rfl | (simp [argsToLocals, Value.category]; done)) (fun r => ?_)
  show WP _ _ _ _ _ _ _ _ _ _ _ _ _ _ _ _ _ _
  refine W_aloadN d35_0 (pc' := 1) rfl A1 rfl ?_
  refine W_aloadN d35_1 (pc' := 2) rfl A0 rfl ?_
  by_cases e : c = b
  · subst e
    refine W_acmp_ne_F d35_2 (pc' := 5) rfl rfl rfl rfl ?_
    refine W_iconst d35_5 (pc' := 6) (v := 1) rfl (by decide) ?_
    exact W_ireturn d35_6 rfl (by simp) rfl (by first | decide | (dsimp only; omega) | omega) (by first | decide | (dsimp only; omega) | omega) ⟨rfl, rfl⟩
  · refine W_acmp_ne_T d35_2 (pc' := 7) (by decide) (by decide) rfl rfl (fun q => e (by cases q; rfl)) ?_
    refine W_aloadN d35_7 (pc' := 8) rfl A1 rfl ?_
    refine W_instanceof d35_8 (pc' := 11) rfl (w200 K) (w135 K) (by first | assumption | exact A0 | exact A1 | exact A2 | exact A3 | exact A4 | exact A5 | exact A6 | exact A7 | exact Tl1 ‹_› | exact Tl2 ‹_› | exact Tl3 ‹_› | exact Tl4 ‹_› | exact Tl5 ‹_› | exact Tl6 ‹_› | exact Tl7 ‹_› | exact Tl8 ‹_›) ?_
    refine W_if_eq_F d35_11 (pc' := 14) rfl (by decide) ?_
    refine W_aloadN d35_14 (pc' := 15) rfl A1 rfl ?_
    refine W_checkcast d35_15 (pc' := 18) rfl (w200 K) (w135 K) (by first | assumption | exact A0 | exact A1 | exact A2 | exact A3 | exact A4 | exact A5 | exact A6 | exact A7 | exact Tl1 ‹_› | exact Tl2 ‹_› | exact Tl3 ‹_› | exact Tl4 ‹_› | exact Tl5 ‹_› | exact Tl6 ‹_› | exact Tl7 ‹_› | exact Tl8 ‹_›) ?_
    refine W_astoreN d35_18 (pc' := 19) rfl A2 rfl rfl S2 ?_
    refine W_goto d35_19 (pc' := 24) (by decide) (by decide) ?_
    refine W_aloadN d35_24 (pc' := 25) rfl A2 rfl ?_
    refine W_getfield d35_25 (pc' := 28) rfl (w47 K) Via.refl (by first | assumption | exact A0 | exact A1 | exact A2 | exact A3 | exact A4 | exact A5 | exact A6 | exact A7 | exact Tl1 ‹_› | exact Tl2 ‹_› | exact Tl3 ‹_› | exact Tl4 ‹_› | exact Tl5 ‹_› | exact Tl6 ‹_› | exact Tl7 ‹_› | exact Tl8 ‹_›) A0 A0 ?_
    refine W_aloadN d35_28 (pc' := 29) rfl A0 rfl ?_
    refine W_getfield d35_29 (pc' := 32) rfl (w47 K) Via.refl (by first | assumption | exact A0 | exact A1 | exact A2 | exact A3 | exact A4 | exact A5 | exact A6 | exact A7 | exact Tl1 ‹_› | exact Tl2 ‹_› | exact Tl3 ‹_› | exact Tl4 ‹_› | exact Tl5 ‹_› | exact Tl6 ‹_› | exact Tl7 ‹_› | exact Tl8 ‹_›) A0 A0 ?_
    refine W_icmp_eq_T d35_32 (pc' := 37) (by decide) (by decide) rfl ?_
    refine W_aloadN d35_37 (pc' := 38) rfl A0 rfl ?_
    refine W_getfield d35_38 (pc' := 41) rfl (w144 K) Via.refl (by first | assumption | exact A0 | exact A1 | exact A2 | exact A3 | exact A4 | exact A5 | exact A6 | exact A7 | exact Tl1 ‹_› | exact Tl2 ‹_› | exact Tl3 ‹_› | exact Tl4 ‹_› | exact Tl5 ‹_› | exact Tl6 ‹_› | exact Tl7 ‹_› | exact Tl8 ‹_›) A1 A1 ?_
    refine W_astoreN d35_41 (pc' := 42) rfl A3 rfl rfl S3 ?_
    refine W_aloadN d35_42 (pc' := 43) rfl A3 rfl ?_
    refine W_arraylengthX d35_43 (pc' := 44) rfl ht rfl ?_
    refine W_istore d35_44 (pc' := 46) rfl A4 rfl S4 ?_
    refine W_aloadN d35_46 (pc' := 47) rfl A2 rfl ?_
    refine W_getfield d35_47 (pc' := 50) rfl (w144 K) Via.refl (by first | assumption | exact A0 | exact A1 | exact A2 | exact A3 | exact A4 | exact A5 | exact A6 | exact A7 | exact Tl1 ‹_› | exact Tl2 ‹_› | exact Tl3 ‹_› | exact Tl4 ‹_› | exact Tl5 ‹_› | exact Tl6 ‹_› | exact Tl7 ‹_› | exact Tl8 ‹_›) A1 A1 ?_
    refine W_astore d35_50 (pc' := 52) rfl A5 rfl rfl S5 ?_
    refine W_iload d35_52 (pc' := 54) rfl A4 ?_
    refine W_aload d35_54 (pc' := 56) rfl A5 rfl ?_
    refine W_arraylengthX d35_56 (pc' := 57) rfl ht' rfl ?_
    refine W_icmp_eq_T d35_57 (pc' := 62) (by decide) (by decide) rfl ?_
    refine W_iconst d35_62 (pc' := 63) (v := 0) rfl (by decide) ?_
    refine W_istore d35_63 (pc' := 65) rfl A6 rfl S6 ?_
    refine W_iload d35_65 (pc' := 67) rfl A6 ?_
    refine W_iload d35_67 (pc' := 69) rfl A4 ?_
    rcases hs with ⟨rfl, rfl⟩ | ⟨hs, ⟨x, rfl, hx⟩ | ⟨h, l', rfl, hh⟩⟩
    · refine W_icmp_ge_T d35_69 (pc' := 92) (by decide) (by decide) (by simp only [List.map_cons, List.map_nil, List.length_cons, List.length_nil]; decide) ?_
      refine W_iconst d35_92 (pc' := 93) (v := 1) rfl (by decide) ?_
      exact W_ireturn d35_93 rfl (by simp) rfl (by first | decide | (dsimp only; omega) | omega) (by first | decide | (dsimp only; omega) | omega) ⟨rfl, rfl⟩
    · refine W_icmp_ge_F d35_69 (pc' := 72) rfl (by simp only [List.map_cons, List.map_nil, List.length_cons, List.length_nil]; decide) ?_
      refine W_aload d35_72 (pc' := 74) rfl A5 rfl ?_
      refine W_iload d35_74 (pc' := 76) rfl A6 ?_
      refine W_ialoadX d35_76 (pc' := 77) rfl (k := 0) (Ix.lit rfl) ht' A0 ?_
      refine W_aloadN d35_77 (pc' := 78) rfl A3 rfl ?_
      refine W_iload d35_78 (pc' := 80) rfl A6 ?_
      refine W_ialoadX d35_80 (pc' := 81) rfl (k := 0) (Ix.lit rfl) ht A0 ?_
      refine W_icmp_eq_T d35_81 (pc' := 86) (by decide) (by decide) rfl ?_
      refine W_iinc d35_86 (pc' := 89) (v := 1) rfl (by decide) A6 S6 ?_
      refine W_goto d35_89 (pc' := 65) (by decide) (by decide) ?_
      refine W_iload d35_65 (pc' := 67) rfl A6 ?_
      refine W_iload d35_67 (pc' := 69) rfl A4 ?_
      refine W_icmp_ge_T d35_69 (pc' := 92) (by decide) (by decide) (by simp only [List.map_cons, List.map_nil, List.length_cons, List.length_nil]; decide) ?_
      refine W_iconst d35_92 (pc' := 93) (v := 1) rfl (by decide) ?_
      exact W_ireturn d35_93 rfl (by simp) rfl (by first | decide | (dsimp only; omega) | omega) (by first | decide | (dsimp only; omega) | omega) ⟨rfl, rfl⟩
    · refine W_icmp_ge_F d35_69 (pc' := 72) rfl (by simp only [List.map_cons, List.map_nil, List.length_cons, List.length_nil]; decide) ?_
      refine W_aload d35_72 (pc' := 74) rfl A5 rfl ?_
      refine W_iload d35_74 (pc' := 76) rfl A6 ?_
      refine W_ialoadX d35_76 (pc' := 77) rfl (k := 0) (Ix.lit rfl) ht' A0 ?_
      refine W_aloadN d35_77 (pc' := 78) rfl A3 rfl ?_
      refine W_iload d35_78 (pc' := 80) rfl A6 ?_
      refine W_ialoadX d35_80 (pc' := 81) rfl (k := 0) (Ix.lit rfl) ht A0 ?_
      refine W_icmp_eq_T d35_81 (pc' := 86) (by decide) (by decide) rfl ?_
      refine W_iinc d35_86 (pc' := 89) (v := 1) rfl (by decide) A6 S6 ?_
      refine W_goto d35_89 (pc' := 65) (by decide) (by decide) ?_
      refine W_iload d35_65 (pc' := 67) rfl A6 ?_
      refine W_iload d35_67 (pc' := 69) rfl A4 ?_
      refine W_icmp_ge_F d35_69 (pc' := 72) rfl (by simp only [List.map_cons, List.map_nil, List.length_cons, List.length_nil]; decide) ?_
      refine W_aload d35_72 (pc' := 74) rfl A5 rfl ?_
      refine W_iload d35_74 (pc' := 76) rfl A6 ?_
      refine W_ialoadX d35_76 (pc' := 77) rfl (k := 1) (Ix.lit rfl) ht' A1 ?_
      refine W_aloadN d35_77 (pc' := 78) rfl A3 rfl ?_
      refine W_iload d35_78 (pc' := 80) rfl A6 ?_
      refine W_ialoadX d35_80 (pc' := 81) rfl (k := 1) (Ix.lit rfl) ht A1 ?_
      refine W_icmp_eq_T d35_81 (pc' := 86) (by decide) (by decide) rfl ?_
      refine W_iinc d35_86 (pc' := 89) (v := 1) rfl (by decide) A6 S6 ?_
      refine W_goto d35_89 (pc' := 65) (by decide) (by decide) ?_
      refine W_iload d35_65 (pc' := 67) rfl A6 ?_
      refine W_iload d35_67 (pc' := 69) rfl A4 ?_
      refine W_icmp_ge_T d35_69 (pc' := 92) (by decide) (by decide) (by simp only [List.map_cons, List.map_nil, List.length_cons, List.length_nil]; decide) ?_
      refine W_iconst d35_92 (pc' := 93) (v := 1) rfl (by decide) ?_
      exact W_ireturn d35_93 rfl (by simp) rfl (by first | decide | (dsimp only; omega) | omega) (by first | decide | (dsimp only; omega) | omega) ⟨rfl, rfl⟩
theorem m_cmg11 {l : Launch} {Z : State} {a0 : Array Value} (K : Ok Z a0) {b t c t' : Addr} {s1 s2 : Value} {x y : Int32} {L : List Atom} {i i2 j j2 : Nat} {f1 f2 f3 f4 : Bool} (hb : L[i]? = some (f1, b, IsObj Z "java/math/BigInteger" fl_BigInteger [s1, .ref t])) (ht : L[i2]? = some (f2, t, IsArrX Z "[I" .int [.int x])) (hc : L[j]? = some (f3, c, IsObj Z "java/math/BigInteger" fl_BigInteger [s2, .ref t'])) (ht' : L[j2]? = some (f4, t', IsArrX Z "[I" .int [.int y])) :
    Meth l Z a0 EL (⟨"java/math/BigInteger", "compareMagnitude", "(Ljava/math/BigInteger;)I"⟩ : MethodName) jdk_2097_method_122_code 9 (some .int) ({ frames := 0, cells := 0, slots := 0, locals := 0 } : Room) [.ref b, .ref c] L (fun v L' => v = some (.int (cmpN (uv x) (uv y))) ∧ L' = L) := by
  refine MethW.of_wp (Ls := [.val (.ref b), .val (.ref c), .unset, .unset, .unset, .unset, .unset, .unset, .unset]) (plainFor_of_name pn1) (EWof K) (by first | rfl | (simp [argsToLocals, Value.category]; done)) (fun r => ?_)
  show WP _ _ _ _ _ _ _ _ _ _ _ _ _ _ _ _ _ _
  refine W_aloadN d36_0 (pc' := 1) rfl A0 rfl ?_
  refine W_getfield d36_1 (pc' := 4) rfl (w144 K) Via.refl (by first | assumption | exact A0 | exact A1 | exact A2 | exact A3 | exact A4 | exact A5 | exact A6 | exact A7 | exact Tl1 ‹_› | exact Tl2 ‹_› | exact Tl3 ‹_› | exact Tl4 ‹_› | exact Tl5 ‹_› | exact Tl6 ‹_› | exact Tl7 ‹_› | exact Tl8 ‹_›) A1 A1 ?_
  refine W_astoreN d36_4 (pc' := 5) rfl A2 rfl rfl S2 ?_
  refine W_aloadN d36_5 (pc' := 6) rfl A2 rfl ?_
  refine W_arraylengthX d36_6 (pc' := 7) rfl ht (nn := 1) rfl ?_
  refine W_istoreN d36_7 (pc' := 8) rfl A3 rfl S3 ?_
  refine W_aloadN d36_8 (pc' := 9) rfl A1 rfl ?_
  refine W_getfield d36_9 (pc' := 12) rfl (w144 K) Via.refl (by first | assumption | exact A0 | exact A1 | exact A2 | exact A3 | exact A4 | exact A5 | exact A6 | exact A7 | exact Tl1 ‹_› | exact Tl2 ‹_› | exact Tl3 ‹_› | exact Tl4 ‹_› | exact Tl5 ‹_› | exact Tl6 ‹_› | exact Tl7 ‹_› | exact Tl8 ‹_›) A1 A1 ?_
  refine W_astore d36_12 (pc' := 14) rfl A4 rfl rfl S4 ?_
  refine W_aload d36_14 (pc' := 16) rfl A4 rfl ?_
  refine W_arraylengthX d36_16 (pc' := 17) rfl ht' (nn := 1) rfl ?_
  refine W_istore d36_17 (pc' := 19) rfl A5 rfl S5 ?_
  refine W_iloadN d36_19 (pc' := 20) rfl A3 ?_
  refine W_iload d36_20 (pc' := 22) rfl A5 ?_
  refine W_icmp_ge_T d36_22 (pc' := 27) (by decide) (by decide) (by decide) ?_
  refine W_iloadN d36_27 (pc' := 28) rfl A3 ?_
  refine W_iload d36_28 (pc' := 30) rfl A5 ?_
  refine W_icmp_le_T d36_30 (pc' := 35) (by decide) (by decide) (by decide) ?_
  refine W_iconst d36_35 (pc' := 36) (v := 0) rfl (by decide) ?_
  refine W_istore d36_36 (pc' := 38) rfl A6 rfl S6 ?_
  refine W_iload d36_38 (pc' := 40) rfl A6 ?_
  refine W_iloadN d36_40 (pc' := 41) rfl A3 ?_
  refine W_icmp_ge_F d36_41 (pc' := 44) rfl (by decide) ?_
  refine W_aloadN d36_44 (pc' := 45) rfl A2 rfl ?_
  refine W_iload d36_45 (pc' := 47) rfl A6 ?_
  refine W_ialoadX d36_47 (pc' := 48) rfl (k := 0) (Ix.lit rfl) ht A0 ?_
  refine W_istore d36_48 (pc' := 50) rfl A7 rfl S7 ?_
  refine W_aload d36_50 (pc' := 52) rfl A4 rfl ?_
  refine W_iload d36_52 (pc' := 54) rfl A6 ?_
  refine W_ialoadX d36_54 (pc' := 55) rfl (k := 0) (Ix.lit rfl) ht' A0 ?_
  refine W_istore d36_55 (pc' := 57) rfl A8 rfl S8 ?_
  refine W_iload d36_57 (pc' := 59) rfl A7 ?_
  refine W_iload d36_59 (pc' := 61) rfl A8 ?_
  by_cases e : x = y
  · refine W_icmp_eq_T d36_61 (pc' := 88) (by decide) (by decide) e ?_
    refine W_iinc d36_88 (pc' := 91) (v := 1) rfl (by decide) A6 S6 ?_
    refine W_goto d36_91 (pc' := 38) (by decide) (by decide) ?_
    refine W_iload d36_38 (pc' := 40) rfl A6 ?_
    refine W_iloadN d36_40 (pc' := 41) rfl A3 ?_
    refine W_icmp_ge_T d36_41 (pc' := 94) (by decide) (by decide) (by decide) ?_
    refine W_iconst d36_94 (pc' := 95) (v := 0) rfl (by decide) ?_
    exact W_ireturn d36_95 rfl (by simp) rfl (by first | decide | (dsimp only; omega) | omega) (by first | decide | (dsimp only; omega) | omega) ⟨by rw [cmpN_eq (by rw [e])], rfl⟩
  · have ne : uv x ≠ uv y := fun q => e (uv_inj q)
    refine W_icmp_eq_F d36_61 (pc' := 64) rfl e ?_
    refine W_iload d36_64 (pc' := 66) rfl A7 ?_
    refine W_i2l d36_66 (pc' := 67) rfl ?_
    refine W_ldc2 d36_67 (pc' := 70) rfl (v := 4294967295) (w246 K) ?_
    refine W_land d36_70 (pc' := 71) rfl ?_
    refine W_iload d36_71 (pc' := 73) rfl A8 ?_
    refine W_i2l d36_73 (pc' := 74) rfl ?_
    refine W_ldc2 d36_74 (pc' := 77) rfl (v := 4294967295) (w246 K) ?_
    refine W_land d36_77 (pc' := 78) rfl ?_
    refine W_lcmp d36_78 (pc' := 79) rfl ?_
    by_cases g : uv x < uv y
    · refine W_if_ge_F d36_79 (pc' := 82) rfl (msk_lt g) ?_
      refine W_iconst d36_82 (pc' := 83) (v := (-1)) rfl (by decide) ?_
      refine W_goto d36_83 (pc' := 87) (by decide) (by decide) ?_
      exact W_ireturn d36_87 rfl (by simp) rfl (by first | decide | (dsimp only; omega) | omega) (by first | decide | (dsimp only; omega) | omega) ⟨by rw [cmpN_lt g], rfl⟩
    · refine W_if_ge_T d36_79 (pc' := 86) (by decide) (by decide) (msk_nlt g) ?_
      refine W_iconst d36_86 (pc' := 87) (v := 1) rfl (by decide) ?_
      exact W_ireturn d36_87 rfl (by simp) rfl (by first | decide | (dsimp only; omega) | omega) (by first | decide | (dsimp only; omega) | omega) ⟨by rw [cmpN_gt (by omega)], rfl⟩
theorem m_cmg12 {l : Launch} {Z : State} {a0 : Array Value} (K : Ok Z a0) {b t c t' : Addr} {s1 s2 : Value} {x h l' : Int32} {L : List Atom} {i i2 j j2 : Nat} {f1 f2 f3 f4 : Bool} (hb : L[i]? = some (f1, b, IsObj Z "java/math/BigInteger" fl_BigInteger [s1, .ref t])) (ht : L[i2]? = some (f2, t, IsArrX Z "[I" .int [.int x])) (hc : L[j]? = some (f3, c, IsObj Z "java/math/BigInteger" fl_BigInteger [s2, .ref t'])) (ht' : L[j2]? = some (f4, t', IsArrX Z "[I" .int [.int h, .int l'])) (hh : h ≠ 0) :
    Meth l Z a0 EL (⟨"java/math/BigInteger", "compareMagnitude", "(Ljava/math/BigInteger;)I"⟩ : MethodName) jdk_2097_method_122_code 9 (some .int) ({ frames := 0, cells := 0, slots := 0, locals := 0 } : Room) [.ref b, .ref c] L (fun v L' => v = some (.int (cmpN (uv x) (v2 h l'))) ∧ L' = L) := by
  refine MethW.of_wp (Ls := [.val (.ref b), .val (.ref c), .unset, .unset, .unset, .unset, .unset, .unset, .unset]) (plainFor_of_name pn1) (EWof K) (by first | rfl | (simp [argsToLocals, Value.category]; done)) (fun r => ?_)
  show WP _ _ _ _ _ _ _ _ _ _ _ _ _ _ _ _ _ _
  refine W_aloadN d36_0 (pc' := 1) rfl A0 rfl ?_
  refine W_getfield d36_1 (pc' := 4) rfl (w144 K) Via.refl (by first | assumption | exact A0 | exact A1 | exact A2 | exact A3 | exact A4 | exact A5 | exact A6 | exact A7 | exact Tl1 ‹_› | exact Tl2 ‹_› | exact Tl3 ‹_› | exact Tl4 ‹_› | exact Tl5 ‹_› | exact Tl6 ‹_› | exact Tl7 ‹_› | exact Tl8 ‹_›) A1 A1 ?_
  refine W_astoreN d36_4 (pc' := 5) rfl A2 rfl rfl S2 ?_
  refine W_aloadN d36_5 (pc' := 6) rfl A2 rfl ?_
  refine W_arraylengthX d36_6 (pc' := 7) rfl ht (nn := 1) rfl ?_
  refine W_istoreN d36_7 (pc' := 8) rfl A3 rfl S3 ?_
  refine W_aloadN d36_8 (pc' := 9) rfl A1 rfl ?_
  refine W_getfield d36_9 (pc' := 12) rfl (w144 K) Via.refl (by first | assumption | exact A0 | exact A1 | exact A2 | exact A3 | exact A4 | exact A5 | exact A6 | exact A7 | exact Tl1 ‹_› | exact Tl2 ‹_› | exact Tl3 ‹_› | exact Tl4 ‹_› | exact Tl5 ‹_› | exact Tl6 ‹_› | exact Tl7 ‹_› | exact Tl8 ‹_›) A1 A1 ?_
  refine W_astore d36_12 (pc' := 14) rfl A4 rfl rfl S4 ?_
  refine W_aload d36_14 (pc' := 16) rfl A4 rfl ?_
  refine W_arraylengthX d36_16 (pc' := 17) rfl ht' (nn := 2) rfl ?_
  refine W_istore d36_17 (pc' := 19) rfl A5 rfl S5 ?_
  refine W_iloadN d36_19 (pc' := 20) rfl A3 ?_
  refine W_iload d36_20 (pc' := 22) rfl A5 ?_
  refine W_icmp_ge_F d36_22 (pc' := 25) rfl (by decide) ?_
  refine W_iconst d36_25 (pc' := 26) (v := (-1)) rfl (by decide) ?_
  exact W_ireturn d36_26 rfl (by simp) rfl (by first | decide | (dsimp only; omega) | omega) (by first | decide | (dsimp only; omega) | omega) ⟨by rw [cmpN_lt (one_v2 hh)], rfl⟩
theorem m_cmg21 {l : Launch} {Z : State} {a0 : Array Value} (K : Ok Z a0) {b t c t' : Addr} {s1 s2 : Value} {x h l' : Int32} {L : List Atom} {i i2 j j2 : Nat} {f1 f2 f3 f4 : Bool} (hb : L[i]? = some (f1, b, IsObj Z "java/math/BigInteger" fl_BigInteger [s1, .ref t])) (ht : L[i2]? = some (f2, t, IsArrX Z "[I" .int [.int h, .int l'])) (hc : L[j]? = some (f3, c, IsObj Z "java/math/BigInteger" fl_BigInteger [s2, .ref t'])) (ht' : L[j2]? = some (f4, t', IsArrX Z "[I" .int [.int x])) (hh : h ≠ 0) :
    Meth l Z a0 EL (⟨"java/math/BigInteger", "compareMagnitude", "(Ljava/math/BigInteger;)I"⟩ : MethodName) jdk_2097_method_122_code 9 (some .int) ({ frames := 0, cells := 0, slots := 0, locals := 0 } : Room) [.ref b, .ref c] L (fun v L' => v = some (.int (cmpN (v2 h l') (uv x))) ∧ L' = L) := by
  refine MethW.of_wp (Ls := [.val (.ref b), .val (.ref c), .unset, .unset, .unset, .unset, .unset, .unset, .unset]) (plainFor_of_name pn1) (EWof K) (by first | rfl | (simp [argsToLocals, Value.category]; done)) (fun r => ?_)
  show WP _ _ _ _ _ _ _ _ _ _ _ _ _ _ _ _ _ _
  refine W_aloadN d36_0 (pc' := 1) rfl A0 rfl ?_
  refine W_getfield d36_1 (pc' := 4) rfl (w144 K) Via.refl (by first | assumption | exact A0 | exact A1 | exact A2 | exact A3 | exact A4 | exact A5 | exact A6 | exact A7 | exact Tl1 ‹_› | exact Tl2 ‹_› | exact Tl3 ‹_› | exact Tl4 ‹_› | exact Tl5 ‹_› | exact Tl6 ‹_› | exact Tl7 ‹_› | exact Tl8 ‹_›) A1 A1 ?_
  refine W_astoreN d36_4 (pc' := 5) rfl A2 rfl rfl S2 ?_
  refine W_aloadN d36_5 (pc' := 6) rfl A2 rfl ?_
  refine W_arraylengthX d36_6 (pc' := 7) rfl ht (nn := 2) rfl ?_
  refine W_istoreN d36_7 (pc' := 8) rfl A3 rfl S3 ?_
  refine W_aloadN d36_8 (pc' := 9) rfl A1 rfl ?_
  refine W_getfield d36_9 (pc' := 12) rfl (w144 K) Via.refl (by first | assumption | exact A0 | exact A1 | exact A2 | exact A3 | exact A4 | exact A5 | exact A6 | exact A7 | exact Tl1 ‹_› | exact Tl2 ‹_› | exact Tl3 ‹_› | exact Tl4 ‹_› | exact Tl5 ‹_› | exact Tl6 ‹_› | exact Tl7 ‹_› | exact Tl8 ‹_›) A1 A1 ?_
  refine W_astore d36_12 (pc' := 14) rfl A4 rfl rfl S4 ?_
  refine W_aload d36_14 (pc' := 16) rfl A4 rfl ?_
  refine W_arraylengthX d36_16 (pc' := 17) rfl ht' (nn := 1) rfl ?_
  refine W_istore d36_17 (pc' := 19) rfl A5 rfl S5 ?_
  refine W_iloadN d36_19 (pc' := 20) rfl A3 ?_
  refine W_iload d36_20 (pc' := 22) rfl A5 ?_
  refine W_icmp_ge_T d36_22 (pc' := 27) (by decide) (by decide) (by decide) ?_
  refine W_iloadN d36_27 (pc' := 28) rfl A3 ?_
  refine W_iload d36_28 (pc' := 30) rfl A5 ?_
  refine W_icmp_le_F d36_30 (pc' := 33) rfl (by decide) ?_
  refine W_iconst d36_33 (pc' := 34) (v := 1) rfl (by decide) ?_
  exact W_ireturn d36_34 rfl (by simp) rfl (by first | decide | (dsimp only; omega) | omega) (by first | decide | (dsimp only; omega) | omega) ⟨by rw [cmpN_gt (one_v2 hh)], rfl⟩
theorem m_cmg22 {l : Launch} {Z : State} {a0 : Array Value} (K : Ok Z a0) {b t c t' : Addr} {s1 s2 : Value} {x y x2 y2 : Int32} {L : List Atom} {i i2 j j2 : Nat} {f1 f2 f3 f4 : Bool} (hb : L[i]? = some (f1, b, IsObj Z "java/math/BigInteger" fl_BigInteger [s1, .ref t])) (ht : L[i2]? = some (f2, t, IsArrX Z "[I" .int [.int x, .int x2])) (hc : L[j]? = some (f3, c, IsObj Z "java/math/BigInteger" fl_BigInteger [s2, .ref t'])) (ht' : L[j2]? = some (f4, t', IsArrX Z "[I" .int [.int y, .int y2])) :
    Meth l Z a0 EL (⟨"java/math/BigInteger", "compareMagnitude", "(Ljava/math/BigInteger;)I"⟩ : MethodName) jdk_2097_method_122_code 9 (some .int) ({ frames := 0, cells := 0, slots := 0, locals := 0 } : Room) [.ref b, .ref c] L (fun v L' => v = some (.int (cmpN (v2 x x2) (v2 y y2))) ∧ L' = L) := by
  refine MethW.of_wp (Ls := [.val (.ref b), .val (.ref c), .unset, .unset, .unset, .unset, .unset, .unset, .unset]) (plainFor_of_name pn1) (EWof K) (by first | rfl | (simp [argsToLocals, Value.category]; done)) (fun r => ?_)
  show WP _ _ _ _ _ _ _ _ _ _ _ _ _ _ _ _ _ _
  refine W_aloadN d36_0 (pc' := 1) rfl A0 rfl ?_
  refine W_getfield d36_1 (pc' := 4) rfl (w144 K) Via.refl (by first | assumption | exact A0 | exact A1 | exact A2 | exact A3 | exact A4 | exact A5 | exact A6 | exact A7 | exact Tl1 ‹_› | exact Tl2 ‹_› | exact Tl3 ‹_› | exact Tl4 ‹_› | exact Tl5 ‹_› | exact Tl6 ‹_› | exact Tl7 ‹_› | exact Tl8 ‹_›) A1 A1 ?_
  refine W_astoreN d36_4 (pc' := 5) rfl A2 rfl rfl S2 ?_
  refine W_aloadN d36_5 (pc' := 6) rfl A2 rfl ?_
  refine W_arraylengthX d36_6 (pc' := 7) rfl ht (nn := 2) rfl ?_
  refine W_istoreN d36_7 (pc' := 8) rfl A3 rfl S3 ?_
  refine W_aloadN d36_8 (pc' := 9) rfl A1 rfl ?_
  refine W_getfield d36_9 (pc' := 12) rfl (w144 K) Via.refl (by first | assumption | exact A0 | exact A1 | exact A2 | exact A3 | exact A4 | exact A5 | exact A6 | exact A7 | exact Tl1 ‹_› | exact Tl2 ‹_› | exact Tl3 ‹_› | exact Tl4 ‹_› | exact Tl5 ‹_› | exact Tl6 ‹_› | exact Tl7 ‹_› | exact Tl8 ‹_›) A1 A1 ?_
  refine W_astore d36_12 (pc' := 14) rfl A4 rfl rfl S4 ?_
  refine W_aload d36_14 (pc' := 16) rfl A4 rfl ?_
  refine W_arraylengthX d36_16 (pc' := 17) rfl ht' (nn := 2) rfl ?_
  refine W_istore d36_17 (pc' := 19) rfl A5 rfl S5 ?_
  refine W_iloadN d36_19 (pc' := 20) rfl A3 ?_
  refine W_iload d36_20 (pc' := 22) rfl A5 ?_
  refine W_icmp_ge_T d36_22 (pc' := 27) (by decide) (by decide) (by decide) ?_
  refine W_iloadN d36_27 (pc' := 28) rfl A3 ?_
  refine W_iload d36_28 (pc' := 30) rfl A5 ?_
  refine W_icmp_le_T d36_30 (pc' := 35) (by decide) (by decide) (by decide) ?_
  refine W_iconst d36_35 (pc' := 36) (v := 0) rfl (by decide) ?_
  refine W_istore d36_36 (pc' := 38) rfl A6 rfl S6 ?_
  refine W_iload d36_38 (pc' := 40) rfl A6 ?_
  refine W_iloadN d36_40 (pc' := 41) rfl A3 ?_
  refine W_icmp_ge_F d36_41 (pc' := 44) rfl (by decide) ?_
  refine W_aloadN d36_44 (pc' := 45) rfl A2 rfl ?_
  refine W_iload d36_45 (pc' := 47) rfl A6 ?_
  refine W_ialoadX d36_47 (pc' := 48) rfl (k := 0) (Ix.lit rfl) ht A0 ?_
  refine W_istore d36_48 (pc' := 50) rfl A7 rfl S7 ?_
  refine W_aload d36_50 (pc' := 52) rfl A4 rfl ?_
  refine W_iload d36_52 (pc' := 54) rfl A6 ?_
  refine W_ialoadX d36_54 (pc' := 55) rfl (k := 0) (Ix.lit rfl) ht' A0 ?_
  refine W_istore d36_55 (pc' := 57) rfl A8 rfl S8 ?_
  refine W_iload d36_57 (pc' := 59) rfl A7 ?_
  refine W_iload d36_59 (pc' := 61) rfl A8 ?_
  by_cases e : x = y
  · subst e
    refine W_icmp_eq_T d36_61 (pc' := 88) (by decide) (by decide) rfl ?_
    refine W_iinc d36_88 (pc' := 91) (v := 1) rfl (by decide) A6 S6 ?_
    refine W_goto d36_91 (pc' := 38) (by decide) (by decide) ?_
    refine W_iload d36_38 (pc' := 40) rfl A6 ?_
    refine W_iloadN d36_40 (pc' := 41) rfl A3 ?_
    refine W_icmp_ge_F d36_41 (pc' := 44) rfl (by decide) ?_
    refine W_aloadN d36_44 (pc' := 45) rfl A2 rfl ?_
    refine W_iload d36_45 (pc' := 47) rfl A6 ?_
    refine W_ialoadX d36_47 (pc' := 48) rfl (k := 1) (Ix.lit rfl) ht A1 ?_
    refine W_istore d36_48 (pc' := 50) rfl A7 rfl S7 ?_
    refine W_aload d36_50 (pc' := 52) rfl A4 rfl ?_
    refine W_iload d36_52 (pc' := 54) rfl A6 ?_
    refine W_ialoadX d36_54 (pc' := 55) rfl (k := 1) (Ix.lit rfl) ht' A1 ?_
    refine W_istore d36_55 (pc' := 57) rfl A8 rfl S8 ?_
    refine W_iload d36_57 (pc' := 59) rfl A7 ?_
    refine W_iload d36_59 (pc' := 61) rfl A8 ?_
    by_cases e : x2 = y2
    · subst e
      refine W_icmp_eq_T d36_61 (pc' := 88) (by decide) (by decide) rfl ?_
      refine W_iinc d36_88 (pc' := 91) (v := 1) rfl (by decide) A6 S6 ?_
      refine W_goto d36_91 (pc' := 38) (by decide) (by decide) ?_
      refine W_iload d36_38 (pc' := 40) rfl A6 ?_
      refine W_iloadN d36_40 (pc' := 41) rfl A3 ?_
      refine W_icmp_ge_T d36_41 (pc' := 94) (by decide) (by decide) (by decide) ?_
      refine W_iconst d36_94 (pc' := 95) (v := 0) rfl (by decide) ?_
      exact W_ireturn d36_95 rfl (by simp) rfl (by first | decide | (dsimp only; omega) | omega) (by first | decide | (dsimp only; omega) | omega) ⟨by rw [cmpN_eq rfl], rfl⟩
    · have ne : uv x2 ≠ uv y2 := fun q => e (uv_inj q)
      refine W_icmp_eq_F d36_61 (pc' := 64) rfl e ?_
      refine W_iload d36_64 (pc' := 66) rfl A7 ?_
      refine W_i2l d36_66 (pc' := 67) rfl ?_
      refine W_ldc2 d36_67 (pc' := 70) rfl (v := 4294967295) (w246 K) ?_
      refine W_land d36_70 (pc' := 71) rfl ?_
      refine W_iload d36_71 (pc' := 73) rfl A8 ?_
      refine W_i2l d36_73 (pc' := 74) rfl ?_
      refine W_ldc2 d36_74 (pc' := 77) rfl (v := 4294967295) (w246 K) ?_
      refine W_land d36_77 (pc' := 78) rfl ?_
      refine W_lcmp d36_78 (pc' := 79) rfl ?_
      by_cases g : uv x2 < uv y2
      · refine W_if_ge_F d36_79 (pc' := 82) rfl (msk_lt g) ?_
        refine W_iconst d36_82 (pc' := 83) (v := (-1)) rfl (by decide) ?_
        refine W_goto d36_83 (pc' := 87) (by decide) (by decide) ?_
        exact W_ireturn d36_87 rfl (by simp) rfl (by first | decide | (dsimp only; omega) | omega) (by first | decide | (dsimp only; omega) | omega) ⟨by rw [cmpN_lt (by unfold v2; omega)], rfl⟩
      · refine W_if_ge_T d36_79 (pc' := 86) (by decide) (by decide) (msk_nlt g) ?_
        refine W_iconst d36_86 (pc' := 87) (v := 1) rfl (by decide) ?_
        exact W_ireturn d36_87 rfl (by simp) rfl (by first | decide | (dsimp only; omega) | omega) (by first | decide | (dsimp only; omega) | omega) ⟨by rw [cmpN_gt (by unfold v2; omega)], rfl⟩
  · have ne : uv x ≠ uv y := fun q => e (uv_inj q)
    refine W_icmp_eq_F d36_61 (pc' := 64) rfl e ?_
    refine W_iload d36_64 (pc' := 66) rfl A7 ?_
    refine W_i2l d36_66 (pc' := 67) rfl ?_
    refine W_ldc2 d36_67 (pc' := 70) rfl (v := 4294967295) (w246 K) ?_
    refine W_land d36_70 (pc' := 71) rfl ?_
    refine W_iload d36_71 (pc' := 73) rfl A8 ?_
    refine W_i2l d36_73 (pc' := 74) rfl ?_
    refine W_ldc2 d36_74 (pc' := 77) rfl (v := 4294967295) (w246 K) ?_
    refine W_land d36_77 (pc' := 78) rfl ?_
    refine W_lcmp d36_78 (pc' := 79) rfl ?_
    by_cases g : uv x < uv y
    · refine W_if_ge_F d36_79 (pc' := 82) rfl (msk_lt g) ?_
      refine W_iconst d36_82 (pc' := 83) (v := (-1)) rfl (by decide) ?_
      refine W_goto d36_83 (pc' := 87) (by decide) (by decide) ?_
      exact W_ireturn d36_87 rfl (by simp) rfl (by first | decide | (dsimp only; omega) | omega) (by first | decide | (dsimp only; omega) | omega) ⟨by rw [cmpN_lt (v2_lt g)], rfl⟩
    · refine W_if_ge_T d36_79 (pc' := 86) (by decide) (by decide) (msk_nlt g) ?_
      refine W_iconst d36_86 (pc' := 87) (v := 1) rfl (by decide) ?_
      exact W_ireturn d36_87 rfl (by simp) rfl (by first | decide | (dsimp only; omega) | omega) (by first | decide | (dsimp only; omega) | omega) ⟨by rw [cmpN_gt (v2_lt (by omega))], rfl⟩
theorem m_cmg {l : Launch} {Z : State} {a0 : Array Value} (K : Ok Z a0) {b t c t' : Addr} {s1 s2 : Value} {w1 w2 : List Int32} {L : List Atom} {i i2 j j2 : Nat} {f1 f2 f3 f4 : Bool} (hb : L[i]? = some (f1, b, IsObj Z "java/math/BigInteger" fl_BigInteger [s1, .ref t])) (ht : L[i2]? = some (f2, t, IsArrX Z "[I" .int (w1.map Value.int))) (hc : L[j]? = some (f3, c, IsObj Z "java/math/BigInteger" fl_BigInteger [s2, .ref t'])) (ht' : L[j2]? = some (f4, t', IsArrX Z "[I" .int (w2.map Value.int)))
    (h1 : (∃ x, w1 = [x] ∧ x ≠ 0) ∨ ∃ h l, w1 = [h, l] ∧ h ≠ 0) (h2 : (∃ x, w2 = [x] ∧ x ≠ 0) ∨ ∃ h l, w2 = [h, l] ∧ h ≠ 0) :
    Meth l Z a0 EL (⟨"java/math/BigInteger", "compareMagnitude", "(Ljava/math/BigInteger;)I"⟩ : MethodName) jdk_2097_method_122_code 9 (some .int) ({ frames := 0, cells := 0, slots := 0, locals := 0 } : Room) [.ref b, .ref c] L (fun v L' => v = some (.int (cmpN (mag w1) (mag w2))) ∧ L' = L) := by
  rcases h1 with ⟨x, rfl, hx⟩ | ⟨h, l', rfl, hx⟩ <;> rcases h2 with ⟨y, rfl, hy⟩ | ⟨g, m', rfl, hy⟩
  · exact m_cmg11 K hb ht hc ht'
  · exact m_cmg12 K hb ht hc ht' hy
  · exact m_cmg21 K hb ht hc ht' hx
  · exact m_cmg22 K hb ht hc ht'
theorem m_cto {l : Launch} {Z : State} {a0 : Array Value} (K : Ok Z a0) {b t c t' : Addr} {x y : Int} {L : List Atom} {i i2 j j2 : Nat} {f1 f2 f3 f4 : Bool} (hx : x.natAbs < 18446744073709551616) (hy : y.natAbs < 18446744073709551616) (hb : L[i]? = some (f1, b, IsObj Z "java/math/BigInteger" fl_BigInteger [.int (sgn x), .ref t])) (ht : L[i2]? = some (f2, t, IsArrX Z "[I" .int ((wds x.natAbs).map Value.int))) (hc : L[j]? = some (f3, c, IsObj Z "java/math/BigInteger" fl_BigInteger [.int (sgn y), .ref t'])) (ht' : L[j2]? = some (f4, t', IsArrX Z "[I" .int ((wds y.natAbs).map Value.int))) :
    Meth l Z a0 EL (⟨"java/math/BigInteger", "compareTo", "(Ljava/math/BigInteger;)I"⟩ : MethodName) jdk_2097_method_121_code 2 (some .int) ({ frames := 1, cells := 0, slots := 0, locals := 20 } : Room) [.ref b, .ref c] L (fun v L' => v = some (.int (cmpI x y)) ∧ L' = L) := by
  have hx1 := shp_of hx; have hy1 := shp_of hy
  have nx := mag_wds hx; have ny := mag_wds hy
  generalize hsx : sgn x = sx at *
  generalize hsy : sgn y = sy at *
  have ex : (sx = -1 ∧ x < 0) ∨ (sx = 0 ∧ x = 0) ∨ (sx = 1 ∧ 0 < x) := by
    rcases Int.lt_trichotomy x 0 with q | q | q
    · exact Or.inl ⟨hsx ▸ sgn_neg q, q⟩
    · exact Or.inr (Or.inl ⟨by rw [← hsx, q]; rfl, q⟩)
    · exact Or.inr (Or.inr ⟨hsx ▸ sgn_pos q, q⟩)
  have ey : (sy = -1 ∧ y < 0) ∨ (sy = 0 ∧ y = 0) ∨ (sy = 1 ∧ 0 < y) := by
    rcases Int.lt_trichotomy y 0 with q | q | q
    · exact Or.inl ⟨hsy ▸ sgn_neg q, q⟩
    · exact Or.inr (Or.inl ⟨by rw [← hsy, q]; rfl, q⟩)
    · exact Or.inr (Or.inr ⟨hsy ▸ sgn_pos q, q⟩)
  refine MethW.of_wp (Ls := [.val (.ref b), .val (.ref c)]) (plainFor_of_name pn1) (EWof K) (by first | rfl | (simp [argsToLocals, Value.category]; done)) (fun r => ?_)
  show WP _ _ _ _ _ _ _ _ _ _ _ _ _ _ _ _ _ _
  refine W_aloadN d37_0 (pc' := 1) rfl A0 rfl ?_
  refine W_getfield d37_1 (pc' := 4) rfl (w47 K) Via.refl (by first | assumption | exact A0 | exact A1 | exact A2 | exact A3 | exact A4 | exact A5 | exact A6 | exact A7 | exact Tl1 ‹_› | exact Tl2 ‹_› | exact Tl3 ‹_› | exact Tl4 ‹_› | exact Tl5 ‹_› | exact Tl6 ‹_› | exact Tl7 ‹_› | exact Tl8 ‹_›) A0 A0 ?_
  refine W_aloadN d37_4 (pc' := 5) rfl A1 rfl ?_
  refine W_getfield d37_5 (pc' := 8) rfl (w47 K) Via.refl (by first | assumption | exact A0 | exact A1 | exact A2 | exact A3 | exact A4 | exact A5 | exact A6 | exact A7 | exact Tl1 ‹_› | exact Tl2 ‹_› | exact Tl3 ‹_› | exact Tl4 ‹_› | exact Tl5 ‹_› | exact Tl6 ‹_› | exact Tl7 ‹_› | exact Tl8 ‹_›) A0 A0 ?_
  by_cases e : sx = sy
  · subst e
    refine W_icmp_ne_F d37_8 (pc' := 11) rfl rfl ?_
    refine W_aloadN d37_11 (pc' := 12) rfl A0 rfl ?_
    refine W_getfield d37_12 (pc' := 15) rfl (w47 K) Via.refl (by first | assumption | exact A0 | exact A1 | exact A2 | exact A3 | exact A4 | exact A5 | exact A6 | exact A7 | exact Tl1 ‹_› | exact Tl2 ‹_› | exact Tl3 ‹_› | exact Tl4 ‹_› | exact Tl5 ‹_› | exact Tl6 ‹_› | exact Tl7 ‹_› | exact Tl8 ‹_›) A0 A0 ?_
    rcases hx1 with ⟨rfl, hwx⟩ | ⟨hs, hwx⟩
    · have qx : x = 0 := by rcases ex with ⟨q, _⟩ | ⟨_, q⟩ | ⟨q, _⟩ <;> first | exact q | exact absurd q (by decide)
      have qy : y = 0 := by rcases ey with ⟨q, _⟩ | ⟨_, q⟩ | ⟨q, _⟩ <;> first | exact q | exact absurd q (by decide)
      refine W_lswMiss d37_15 (pc' := 56) (by decide) (by decide) (by decide) (by decide) ?_
      refine W_iconst d37_56 (pc' := 57) (v := 0) rfl (by decide) ?_
      exact W_ireturn d37_57 rfl (by simp) rfl (by first | decide | (dsimp only; omega) | omega) (by first | decide | (dsimp only; omega) | omega) ⟨by rw [cmpI_eq (by omega)], rfl⟩
    · rcases hy1 with ⟨rfl, hwy⟩ | ⟨-, hwy⟩
      · rcases hs with hs | hs <;> exact absurd hs (by decide)
      · rcases hs with rfl | rfl
        · have qx : 0 < x := by rcases ex with ⟨q, _⟩ | ⟨q, _⟩ | ⟨_, q⟩ <;> first | exact q | exact absurd q (by decide)
          have qy : 0 < y := by rcases ey with ⟨q, _⟩ | ⟨q, _⟩ | ⟨_, q⟩ <;> first | exact q | exact absurd q (by decide)
          refine W_lswHit d37_15 (pc' := 40) (by decide) (a' := 1) (off := 25) (by decide) (by decide) (by decide) ?_
          refine W_aloadN d37_40 (pc' := 41) rfl A0 rfl ?_
          refine W_aloadN d37_41 (pc' := 42) rfl A1 rfl ?_
          refine W_virtual d37_42 (pc' := 45) rfl rfl (w241 K) (w242 K) (NF.sel (w244 K)) (w244 K) (w243 K) (w8 K) (w245 K) (by decide) (m_cmg K hb ht hc ht' hwx hwy) ar19 rfl (by first | assumption | exact A0 | exact A1 | exact A2 | exact A3 | exact A4 | exact A5 | exact A6 | exact A7 | exact Tl1 ‹_› | exact Tl2 ‹_› | exact Tl3 ‹_› | exact Tl4 ‹_› | exact Tl5 ‹_› | exact Tl6 ‹_› | exact Tl7 ‹_› | exact Tl8 ‹_›) (by decide) (Nat.le_of_ble_eq_true rfl) (by first | decide | (dsimp only; omega) | omega) (by first | decide | (dsimp only; omega) | omega) ?_
          rintro _ _ ⟨rfl, rfl⟩
          simp only [Option.toList_some, Option.toList_none, List.cons_append, List.nil_append]
          refine W_goto d37_45 (pc' := 57) (by decide) (by decide) ?_
          exact W_ireturn d37_57 rfl (by simp) rfl (by first | decide | (dsimp only; omega) | omega) (by first | decide | (dsimp only; omega) | omega) ⟨by rw [nx, ny, cmpN_I, show ((x.natAbs : Nat) : Int) = x by omega, show ((y.natAbs : Nat) : Int) = y by omega], rfl⟩
        · have qx : x < 0 := by rcases ex with ⟨_, q⟩ | ⟨q, _⟩ | ⟨q, _⟩ <;> first | exact q | exact absurd q (by decide)
          have qy : y < 0 := by rcases ey with ⟨_, q⟩ | ⟨q, _⟩ | ⟨q, _⟩ <;> first | exact q | exact absurd q (by decide)
          refine W_lswHit d37_15 (pc' := 48) (by decide) (a' := -1) (off := 33) (by decide) (by decide) (by decide) ?_
          refine W_aloadN d37_48 (pc' := 49) rfl A1 rfl ?_
          refine W_aloadN d37_49 (pc' := 50) rfl A0 rfl ?_
          refine W_virtual d37_50 (pc' := 53) rfl rfl (w241 K) (w242 K) (NF.sel (w244 K)) (w244 K) (w243 K) (w8 K) (w245 K) (by decide) (m_cmg K hc ht' hb ht hwy hwx) ar19 rfl (by first | assumption | exact A0 | exact A1 | exact A2 | exact A3 | exact A4 | exact A5 | exact A6 | exact A7 | exact Tl1 ‹_› | exact Tl2 ‹_› | exact Tl3 ‹_› | exact Tl4 ‹_› | exact Tl5 ‹_› | exact Tl6 ‹_› | exact Tl7 ‹_› | exact Tl8 ‹_›) (by decide) (Nat.le_of_ble_eq_true rfl) (by first | decide | (dsimp only; omega) | omega) (by first | decide | (dsimp only; omega) | omega) ?_
          rintro _ _ ⟨rfl, rfl⟩
          simp only [Option.toList_some, Option.toList_none, List.cons_append, List.nil_append]
          refine W_goto d37_53 (pc' := 57) (by decide) (by decide) ?_
          exact W_ireturn d37_57 rfl (by simp) rfl (by first | decide | (dsimp only; omega) | omega) (by first | decide | (dsimp only; omega) | omega) ⟨by rw [nx, ny, cmpN_I, show ((x.natAbs : Nat) : Int) = -x by omega, show ((y.natAbs : Nat) : Int) = -y by omega, cmpI_neg], rfl⟩
  · refine W_icmp_ne_T d37_8 (pc' := 58) (by decide) (by decide) e ?_
    refine W_aloadN d37_58 (pc' := 59) rfl A0 rfl ?_
    refine W_getfield d37_59 (pc' := 62) rfl (w47 K) Via.refl (by first | assumption | exact A0 | exact A1 | exact A2 | exact A3 | exact A4 | exact A5 | exact A6 | exact A7 | exact Tl1 ‹_› | exact Tl2 ‹_› | exact Tl3 ‹_› | exact Tl4 ‹_› | exact Tl5 ‹_› | exact Tl6 ‹_› | exact Tl7 ‹_› | exact Tl8 ‹_›) A0 A0 ?_
    refine W_aloadN d37_62 (pc' := 63) rfl A1 rfl ?_
    refine W_getfield d37_63 (pc' := 66) rfl (w47 K) Via.refl (by first | assumption | exact A0 | exact A1 | exact A2 | exact A3 | exact A4 | exact A5 | exact A6 | exact A7 | exact Tl1 ‹_› | exact Tl2 ‹_› | exact Tl3 ‹_› | exact Tl4 ‹_› | exact Tl5 ‹_› | exact Tl6 ‹_› | exact Tl7 ‹_› | exact Tl8 ‹_›) A0 A0 ?_
    by_cases g : sy < sx
    · have q : y < x := by
        rcases ex with ⟨rfl, q⟩ | ⟨rfl, q⟩ | ⟨rfl, q⟩ <;> rcases ey with ⟨rfl, q'⟩ | ⟨rfl, q'⟩ | ⟨rfl, q'⟩ <;> first | omega | exact absurd g (by decide)
      refine W_icmp_le_F d37_66 (pc' := 69) rfl g ?_
      refine W_iconst d37_69 (pc' := 70) (v := 1) rfl (by decide) ?_
      refine W_goto d37_70 (pc' := 74) (by decide) (by decide) ?_
      exact W_ireturn d37_74 rfl (by simp) rfl (by first | decide | (dsimp only; omega) | omega) (by first | decide | (dsimp only; omega) | omega) ⟨by rw [cmpI_gt q], rfl⟩
    · have q : x < y := by
        rcases ex with ⟨rfl, q⟩ | ⟨rfl, q⟩ | ⟨rfl, q⟩ <;> rcases ey with ⟨rfl, q'⟩ | ⟨rfl, q'⟩ | ⟨rfl, q'⟩ <;> first | omega | exact absurd (by decide) g | exact absurd rfl e
      refine W_icmp_le_T d37_66 (pc' := 73) (by decide) (by decide) g ?_
      refine W_iconst d37_73 (pc' := 74) (v := (-1)) rfl (by decide) ?_
      exact W_ireturn d37_74 rfl (by simp) rfl (by first | decide | (dsimp only; omega) | omega) (by first | decide | (dsimp only; omega) | omega) ⟨by rw [cmpI_lt q], rfl⟩
theorem bil26 {l : Launch} {Z : State} {a0 : Array Value} (K : Ok Z a0) {g : Addr} {m : Int64} {n : Nat} {s : Int32} {F : List Atom} {r : Run} (hm : m.toInt % 18446744073709551616 = n) (h0 : n ≠ 0) :
    WP l ({ frames := 2, cells := 1, slots := 2, locals := 24 } : Room) Z a0 EL "java/math/BigInteger" "<init>" jdk_2097_method_30_code 4 none (fun v L' => ∃ t, v = none ∧ L' = (true, g, IsObj Z "java/math/BigInteger" fl_BigInteger [.int s, .ref t]) :: (true, t, IsArrX Z "[I" .int ((wds n).map Value.int)) :: F) r 0 0 ((true, g, IsObj Z "java/math/BigInteger" fl_BigInteger [.int s, .null]) :: F) 26 [.val (.ref g), .val (.long m), .second, .unset] [] := by
  refine W_lloadN d38_26 (pc' := 27) rfl A1 ?_
  refine W_bipush d38_27 (pc' := 29) (v := 32) rfl (by decide) ?_
  refine W_lushr d38_29 (pc' := 30) rfl ?_
  refine W_l2i d38_30 (pc' := 31) rfl ?_
  refine W_istoreN d38_31 (pc' := 32) rfl A3 rfl S3 ?_
  refine W_iloadN d38_32 (pc' := 33) rfl A3 ?_
  by_cases e : (XT.ushrL m 32).toInt32 = 0
  · rw [← words1 hm h0 e]
    refine W_if_ne_F d38_33 (pc' := 36) rfl e ?_
    refine W_aloadN d38_36 (pc' := 37) rfl A0 rfl ?_
    refine W_iconst d38_37 (pc' := 38) (v := 1) rfl (by decide) ?_
    refine W_newarrayX d38_38 (pc' := 40) rfl (w92 K) (k := 1) (cap := 1) (ty := .int) (vs := List.replicate (1) (.int 0)) (Ix.lit rfl) rfl (ad := "[I") (by decide +kernel) (by first | decide | omega) (by decide) rfl (by decide) (by first | decide | (dsimp only; omega) | omega) (fun t => ?_)
    refine W_putfield d38_40 (pc' := 43) rfl (w144 K) Via.refl (Or.inr ⟨w65 K, rfl, rfl⟩) (lay_BigInteger K) A1 pf1 rfl rfl S1 (by first | exact ⟨A0, S0⟩ | exact ⟨A1, S1⟩ | exact ⟨A2, S2⟩ | exact ⟨A3, S3⟩ | exact ⟨A4, S4⟩ | exact ⟨A5, S5⟩ | exact ⟨A6, S6⟩ | exact ⟨A7, S7⟩) ?_
    refine W_aloadN d38_43 (pc' := 44) rfl A0 rfl ?_
    refine W_getfield d38_44 (pc' := 47) rfl (w144 K) Via.refl (by first | assumption | exact A0 | exact A1 | exact A2 | exact A3 | exact A4 | exact A5 | exact A6 | exact A7 | exact Tl1 ‹_› | exact Tl2 ‹_› | exact Tl3 ‹_› | exact Tl4 ‹_› | exact Tl5 ‹_› | exact Tl6 ‹_› | exact Tl7 ‹_› | exact Tl8 ‹_›) A1 A1 ?_
    refine W_iconst d38_47 (pc' := 48) (v := 0) rfl (by decide) ?_
    refine W_lloadN d38_48 (pc' := 49) rfl A1 ?_
    refine W_l2i d38_49 (pc' := 50) rfl ?_
    refine W_iastoreX d38_50 (pc' := 51) rfl (k := 0) (Ix.lit rfl) (lt_ble rfl) S0 (by first | exact ⟨A0, S0⟩ | exact ⟨A1, S1⟩ | exact ⟨A2, S2⟩ | exact ⟨A3, S3⟩ | exact ⟨A4, S4⟩ | exact ⟨A5, S5⟩ | exact ⟨A6, S6⟩ | exact ⟨A7, S7⟩) ?_
    refine W_goto d38_51 (pc' := 76) (by decide) (by decide) ?_
    refine W_focus (a := g) (by first | exact ⟨A0, E0⟩ | exact ⟨A1, E1⟩ | exact ⟨A2, E2⟩ | exact ⟨A3, E3⟩ | exact ⟨A4, E4⟩ | exact ⟨A5, E5⟩ | exact ⟨A6, E6⟩ | exact ⟨A7, E7⟩) ?_
    exact W_return d38_76 rfl (by first | decide | (dsimp only; omega) | omega) (by first | decide | (dsimp only; omega) | omega) ⟨t, rfl, rfl⟩
  · rw [← words2 hm e]
    refine W_if_ne_T d38_33 (pc' := 54) (by decide) (by decide) e ?_
    refine W_aloadN d38_54 (pc' := 55) rfl A0 rfl ?_
    refine W_iconst d38_55 (pc' := 56) (v := 2) rfl (by decide) ?_
    refine W_newarrayX d38_56 (pc' := 58) rfl (w92 K) (k := 2) (cap := 2) (ty := .int) (vs := List.replicate (2) (.int 0)) (Ix.lit rfl) rfl (ad := "[I") (by decide +kernel) (by first | decide | omega) (by decide) rfl (by decide) (by first | decide | (dsimp only; omega) | omega) (fun t => ?_)
    refine W_putfield d38_58 (pc' := 61) rfl (w144 K) Via.refl (Or.inr ⟨w65 K, rfl, rfl⟩) (lay_BigInteger K) A1 pf1 rfl rfl S1 (by first | exact ⟨A0, S0⟩ | exact ⟨A1, S1⟩ | exact ⟨A2, S2⟩ | exact ⟨A3, S3⟩ | exact ⟨A4, S4⟩ | exact ⟨A5, S5⟩ | exact ⟨A6, S6⟩ | exact ⟨A7, S7⟩) ?_
    refine W_aloadN d38_61 (pc' := 62) rfl A0 rfl ?_
    refine W_getfield d38_62 (pc' := 65) rfl (w144 K) Via.refl (by first | assumption | exact A0 | exact A1 | exact A2 | exact A3 | exact A4 | exact A5 | exact A6 | exact A7 | exact Tl1 ‹_› | exact Tl2 ‹_› | exact Tl3 ‹_› | exact Tl4 ‹_› | exact Tl5 ‹_› | exact Tl6 ‹_› | exact Tl7 ‹_› | exact Tl8 ‹_›) A1 A1 ?_
    refine W_iconst d38_65 (pc' := 66) (v := 0) rfl (by decide) ?_
    refine W_iloadN d38_66 (pc' := 67) rfl A3 ?_
    refine W_iastoreX d38_67 (pc' := 68) rfl (k := 0) (Ix.lit rfl) (lt_ble rfl) S0 (by first | exact ⟨A0, S0⟩ | exact ⟨A1, S1⟩ | exact ⟨A2, S2⟩ | exact ⟨A3, S3⟩ | exact ⟨A4, S4⟩ | exact ⟨A5, S5⟩ | exact ⟨A6, S6⟩ | exact ⟨A7, S7⟩) ?_
    refine W_aloadN d38_68 (pc' := 69) rfl A0 rfl ?_
    refine W_getfield d38_69 (pc' := 72) rfl (w144 K) Via.refl (by first | assumption | exact A0 | exact A1 | exact A2 | exact A3 | exact A4 | exact A5 | exact A6 | exact A7 | exact Tl1 ‹_› | exact Tl2 ‹_› | exact Tl3 ‹_› | exact Tl4 ‹_› | exact Tl5 ‹_› | exact Tl6 ‹_› | exact Tl7 ‹_› | exact Tl8 ‹_›) A1 A1 ?_
    refine W_iconst d38_72 (pc' := 73) (v := 1) rfl (by decide) ?_
    refine W_lloadN d38_73 (pc' := 74) rfl A1 ?_
    refine W_l2i d38_74 (pc' := 75) rfl ?_
    refine W_iastoreX d38_75 (pc' := 76) rfl (k := 1) (Ix.lit rfl) (lt_ble rfl) S1 (by first | exact ⟨A0, S0⟩ | exact ⟨A1, S1⟩ | exact ⟨A2, S2⟩ | exact ⟨A3, S3⟩ | exact ⟨A4, S4⟩ | exact ⟨A5, S5⟩ | exact ⟨A6, S6⟩ | exact ⟨A7, S7⟩) ?_
    refine W_focus (a := g) (by first | exact ⟨A0, E0⟩ | exact ⟨A1, E1⟩ | exact ⟨A2, E2⟩ | exact ⟨A3, E3⟩ | exact ⟨A4, E4⟩ | exact ⟨A5, E5⟩ | exact ⟨A6, E6⟩ | exact ⟨A7, E7⟩) ?_
    exact W_return d38_76 rfl (by first | decide | (dsimp only; omega) | omega) (by first | decide | (dsimp only; omega) | omega) ⟨t, rfl, rfl⟩
theorem m_bil {l : Launch} {Z : State} {a0 : Array Value} (K : Ok Z a0) {g : Addr} {x : Int64} {F : List Atom} (h0 : x.toInt ≠ 0) :
    Meth l Z a0 EL (⟨"java/math/BigInteger", "<init>", "(J)V"⟩ : MethodName) jdk_2097_method_30_code 4 none ({ frames := 2, cells := 1, slots := 2, locals := 24 } : Room) [.ref g, .long x] ((true, g, IsObj Z "java/math/BigInteger" fl_BigInteger [.int 0, .null]) :: F) (fun v L' => ∃ t, v = none ∧ L' = (true, g, IsObj Z "java/math/BigInteger" fl_BigInteger [.int (sgn x.toInt), .ref t]) :: (true, t, IsArrX Z "[I" .int ((wds x.toInt.natAbs).map Value.int)) :: F) := by
  refine MethW.of_wp (Ls := [.val (.ref g), .val (.long x), .second, .unset]) (plainFor_of_name pn1) (EWof K) (by first | rfl | (simp [argsToLocals, Value.category]; done)) (fun r => ?_)
  show WP _ _ _ _ _ _ _ _ _ _ _ _ _ _ _ _ _ _
  refine W_aloadN d38_0 (pc' := 1) rfl A0 rfl ?_
  refine W_special d38_1 (pc' := 4) rfl rfl rfl (w137 K) (w138 K) (w141 K) (w142 K) (by decide) (m_nui K) ar3 rfl (by decide) (Nat.le_of_ble_eq_true rfl) (by first | decide | (dsimp only; omega) | omega) (by first | decide | (dsimp only; omega) | omega) ?_
  rintro _ _ ⟨rfl, rfl⟩
  simp only [Option.toList_some, Option.toList_none, List.cons_append, List.nil_append]
  refine W_lloadN d38_4 (pc' := 5) rfl A1 ?_
  refine W_lconst d38_5 (pc' := 6) (v := 0) rfl (by decide) ?_
  refine W_lcmp d38_6 (pc' := 7) rfl ?_
  rcases Int.lt_trichotomy x.toInt 0 with q | q | q
  · rw [sgn_neg q]
    refine W_if_ge_F d38_7 (pc' := 10) rfl (by rw [cmp_lt0 (by rw [tL0]; exact q)]; decide) ?_
    refine W_lloadN d38_10 (pc' := 11) rfl A1 ?_
    refine W_lneg d38_11 (pc' := 12) rfl ?_
    refine W_lstoreN d38_12 (pc' := 13) rfl A1 A2 rfl SS1 ?_
    refine W_aloadN d38_13 (pc' := 14) rfl A0 rfl ?_
    refine W_iconst d38_14 (pc' := 15) (v := (-1)) rfl (by decide) ?_
    refine W_putfield d38_15 (pc' := 18) rfl (w47 K) Via.refl (Or.inr ⟨w48 K, rfl, rfl⟩) (lay_BigInteger K) A0 pf0 rfl rfl S0 (by first | exact ⟨A0, S0⟩ | exact ⟨A1, S1⟩ | exact ⟨A2, S2⟩ | exact ⟨A3, S3⟩ | exact ⟨A4, S4⟩ | exact ⟨A5, S5⟩ | exact ⟨A6, S6⟩ | exact ⟨A7, S7⟩) ?_
    refine W_goto d38_18 (pc' := 26) (by decide) (by decide) ?_
    exact bil26 K (abs_neg q) (by omega)
  · exact absurd q h0
  · rw [sgn_pos q]
    refine W_if_ge_T d38_7 (pc' := 21) (by decide) (by decide) (by rw [cmp_gt0 (by rw [tL0]; exact q)]; decide) ?_
    refine W_aloadN d38_21 (pc' := 22) rfl A0 rfl ?_
    refine W_iconst d38_22 (pc' := 23) (v := 1) rfl (by decide) ?_
    refine W_putfield d38_23 (pc' := 26) rfl (w47 K) Via.refl (Or.inr ⟨w48 K, rfl, rfl⟩) (lay_BigInteger K) A0 pf0 rfl rfl S0 (by first | exact ⟨A0, S0⟩ | exact ⟨A1, S1⟩ | exact ⟨A2, S2⟩ | exact ⟨A3, S3⟩ | exact ⟨A4, S4⟩ | exact ⟨A5, S5⟩ | exact ⟨A6, S6⟩ | exact ⟨A7, S7⟩) ?_
    exact bil26 K (abs_pos (by omega)) (by omega)
theorem m_vof {l : Launch} {Z : State} {a0 : Array Value} (K : Ok Z a0) {x : Int64} {L : List Atom} :
    Meth l Z a0 EL (⟨"java/math/BigInteger", "valueOf", "(J)Ljava/math/BigInteger;"⟩ : MethodName) jdk_2097_method_29_code 2 (some (.object "java/math/BigInteger")) ({ frames := 3, cells := 2, slots := 8, locals := 40 } : Room) [.long x] L (fun v L' => ∃ b t, v = some (.ref b) ∧ L' = (false, b, IsObj Z "java/math/BigInteger" fl_BigInteger [.int (sgn x.toInt), .ref t]) :: (false, t, IsArrX Z "[I" .int ((wds x.toInt.natAbs).map Value.int)) :: L) := by
  have hnew : ∀ r : Run, x.toInt ≠ 0 → WP l ({ frames := 3, cells := 2, slots := 8, locals := 40 } : Room) Z a0 EL "java/math/BigInteger" "valueOf" jdk_2097_method_29_code 2 (some (.object "java/math/BigInteger")) (fun v L' => ∃ b t, v = some (.ref b) ∧ L' = (false, b, IsObj Z "java/math/BigInteger" fl_BigInteger [.int (sgn x.toInt), .ref t]) :: (false, t, IsArrX Z "[I" .int ((wds x.toInt.natAbs).map Value.int)) :: L) r 0 0 L 53 [.val (.long x), .second] [] := by
    intro r h0
    refine W_new d39_53 (pc' := 56) rfl (w200 K) (w127 K) (w8 K) (lay_BigInteger K) df_BigInteger (by decide) (by decide) (fun b => ?_)
    refine W_dup d39_56 (pc' := 57) rfl rfl ?_
    refine W_lloadN d39_57 (pc' := 58) rfl A0 ?_
    refine W_special d39_58 (pc' := 61) rfl rfl rfl (w248 K) (w249 K) (w8 K) (w250 K) (by decide) (m_bil K h0) ar20 rfl (by decide) (Nat.le_of_ble_eq_true rfl) (by first | decide | (dsimp only; omega) | omega) (by first | decide | (dsimp only; omega) | omega) ?_
    rintro _ _ ⟨t, rfl, rfl⟩
    simp only [Option.toList_some, Option.toList_none, List.cons_append, List.nil_append]
    refine W_frz (W_focus (a := t) (by first | exact ⟨A0, E0⟩ | exact ⟨A1, E1⟩ | exact ⟨A2, E2⟩ | exact ⟨A3, E3⟩ | exact ⟨A4, E4⟩ | exact ⟨A5, E5⟩ | exact ⟨A6, E6⟩ | exact ⟨A7, E7⟩) (W_frz (W_focus (a := b) (by first | exact ⟨A0, E0⟩ | exact ⟨A1, E1⟩ | exact ⟨A2, E2⟩ | exact ⟨A3, E3⟩ | exact ⟨A4, E4⟩ | exact ⟨A5, E5⟩ | exact ⟨A6, E6⟩ | exact ⟨A7, E7⟩) ?_)))
    exact W_areturn d39_61 rfl rfl rfl rfl (by first | decide | (dsimp only; omega) | omega) (by first | decide | (dsimp only; omega) | omega) ⟨b, t, rfl, rfl⟩
  refine MethW.of_wp (Ls := [.val (.long x), .second]) (plainFor_of_name pn1) (EWof K) (by first | rfl | (simp [argsToLocals, Value.category]; done)) (fun r => ?_)
  show WP _ _ _ _ _ _ _ _ _ _ _ _ _ _ _ _ _ _
  refine W_lloadN d39_0 (pc' := 1) rfl A0 ?_
  refine W_lconst d39_1 (pc' := 2) (v := 0) rfl (by decide) ?_
  refine W_lcmp d39_2 (pc' := 3) rfl ?_
  rcases Int.lt_trichotomy x.toInt 0 with q | q | q
  · refine W_if_ne_T d39_3 (pc' := 10) (by decide) (by decide) (by rw [cmp_lt0 (by rw [tL0]; exact q)]; decide) ?_
    refine W_lloadN d39_10 (pc' := 11) rfl A0 ?_
    refine W_lconst d39_11 (pc' := 12) (v := 0) rfl (by decide) ?_
    refine W_lcmp d39_12 (pc' := 13) rfl ?_
    refine W_if_le_T d39_13 (pc' := 31) (by decide) (by decide) (by rw [cmp_lt0 (by rw [tL0]; exact q)]; decide) ?_
    refine W_lloadN d39_31 (pc' := 32) rfl A0 ?_
    refine W_lconst d39_32 (pc' := 33) (v := 0) rfl (by decide) ?_
    refine W_lcmp d39_33 (pc' := 34) rfl ?_
    refine W_if_ge_F d39_34 (pc' := 37) rfl (by rw [cmp_lt0 (by rw [tL0]; exact q)]; decide) ?_
    refine W_lloadN d39_37 (pc' := 38) rfl A0 ?_
    refine W_ldc2 d39_38 (pc' := 41) rfl (v := (-16)) (w247 K) ?_
    refine W_lcmp d39_41 (pc' := 42) rfl ?_
    by_cases g : x.toInt < -16
    · refine W_if_lt_T d39_42 (pc' := 53) (by decide) (by decide) (by rw [cmp_lt0 (by rw [tLm16]; exact g)]; decide) ?_
      exact hnew r (by omega)
    · obtain ⟨p, c, vs, hp, p1, p2, p3⟩ := K.neg
      obtain ⟨b, hb, t, cb, ct, z1, z2, z3, z4⟩ := p3 x.toInt.natAbs (by omega) (by omega)
      have hneg : (-x).toInt = (x.toInt.natAbs : Nat) := by
        have u1 := c_lneg x; have := (-x).toInt_lt; have := (-x).le_toInt; omega
      rw [sgn_neg q, wds_one (by omega) (by omega)]
      refine W_if_lt_F d39_42 (pc' := 45) rfl (cmp_nlt (by rw [tLm16]; exact g)) ?_
      refine W_old z3 z4 (W_old z1 z2 (W_old p1 p2 ?_))
      refine W_getstatic d39_45 (pc' := 48) rfl (w278 K) Via.refl hp ?_
      refine W_lloadN d39_48 (pc' := 49) rfl A0 ?_
      refine W_lneg d39_49 (pc' := 50) rfl ?_
      refine W_l2i d39_50 (pc' := 51) rfl ?_
      refine W_aaload d39_51 (pc' := 52) rfl (k := x.toInt.natAbs) (small_ix hneg (by omega)) A0 rfl hb ?_
      refine W_drop ?_
      exact W_areturn d39_52 rfl rfl rfl rfl (by first | decide | (dsimp only; omega) | omega) (by first | decide | (dsimp only; omega) | omega) ⟨b, t, rfl, rfl⟩
  · obtain ⟨b, hz, t, cb, ct, z1, z2, z3, z4⟩ := K.zero
    rw [q]
    refine W_if_ne_F d39_3 (pc' := 6) rfl (by rw [cmp_eq0 (by rw [tL0]; exact q)]) ?_
    refine W_getstatic d39_6 (pc' := 9) rfl (w279 K) Via.refl hz ?_
    refine W_old z3 z4 (W_old z1 z2 ?_)
    exact W_areturn d39_9 rfl rfl rfl rfl (by first | decide | (dsimp only; omega) | omega) (by first | decide | (dsimp only; omega) | omega) ⟨b, t, rfl, rfl⟩
  · refine W_if_ne_T d39_3 (pc' := 10) (by decide) (by decide) (by rw [cmp_gt0 (by rw [tL0]; exact q)]; decide) ?_
    refine W_lloadN d39_10 (pc' := 11) rfl A0 ?_
    refine W_lconst d39_11 (pc' := 12) (v := 0) rfl (by decide) ?_
    refine W_lcmp d39_12 (pc' := 13) rfl ?_
    refine W_if_le_F d39_13 (pc' := 16) rfl (by rw [cmp_gt0 (by rw [tL0]; exact q)]; decide) ?_
    refine W_lloadN d39_16 (pc' := 17) rfl A0 ?_
    refine W_ldc2 d39_17 (pc' := 20) rfl (v := 16) (w10 K) ?_
    refine W_lcmp d39_20 (pc' := 21) rfl ?_
    by_cases g : 16 < x.toInt
    · refine W_if_gt_T d39_21 (pc' := 31) (by decide) (by decide) (by rw [cmp_gt0 (by rw [tL16]; exact g)]; decide) ?_
      refine W_lloadN d39_31 (pc' := 32) rfl A0 ?_
      refine W_lconst d39_32 (pc' := 33) (v := 0) rfl (by decide) ?_
      refine W_lcmp d39_33 (pc' := 34) rfl ?_
      refine W_if_ge_T d39_34 (pc' := 53) (by decide) (by decide) (by rw [cmp_gt0 (by rw [tL0]; exact q)]; decide) ?_
      exact hnew r (by omega)
    · obtain ⟨p, c, vs, hp, p1, p2, p3⟩ := K.pos
      obtain ⟨b, hb, t, cb, ct, z1, z2, z3, z4⟩ := p3 x.toInt.natAbs (by omega) (by omega)
      rw [sgn_pos q, wds_one (by omega) (by omega)]
      refine W_if_gt_F d39_21 (pc' := 24) rfl (cmp_ngt (by rw [tL16]; exact g)) ?_
      refine W_old z3 z4 (W_old z1 z2 (W_old p1 p2 ?_))
      refine W_getstatic d39_24 (pc' := 27) rfl (w11 K) Via.refl hp ?_
      refine W_lloadN d39_27 (pc' := 28) rfl A0 ?_
      refine W_l2i d39_28 (pc' := 29) rfl ?_
      refine W_aaload d39_29 (pc' := 30) rfl (k := x.toInt.natAbs) (small_ix (by omega) (by omega)) A0 rfl hb ?_
      refine W_drop ?_
      exact W_areturn d39_30 rfl rfl rfl rfl (by first | decide | (dsimp only; omega) | omega) (by first | decide | (dsimp only; omega) | omega) ⟨b, t, rfl, rfl⟩
theorem m_gcd {l : Launch} {Z : State} {a0 : Array Value} (K : Ok Z a0) {b t o t1 : Addr} {sg : Int32} {ws : List Int32} {F : List Atom} {i i2 j k : Nat} {f1 f2 : Bool} (hb : F[i]? = some (f1, b, IsObj Z "java/math/BigInteger" fl_BigInteger [.int sg, .ref t])) (ht : F[i2]? = some (f2, t, IsArrX Z "[I" .int (ws.map Value.int))) (hs : Shp sg ws) (ho : F[j]? = some (false, o, IsObj Z "java/math/BigInteger" fl_BigInteger [.int 1, .ref t1])) (ht1 : F[k]? = some (false, t1, IsArrX Z "[I" .int [.int 1])) :
    Meth l Z a0 EL (⟨"java/math/BigInteger", "gcd", "(Ljava/math/BigInteger;)Ljava/math/BigInteger;"⟩ : MethodName) jdk_2097_method_73_code 5 (some (.object "java/math/BigInteger")) ({ frames := 5, cells := 12, slots := 40, locals := 82 } : Room) [.ref b, .ref o] F (fun v L' => ∃ g tg, v = some (.ref g) ∧ L' = (false, g, IsObj Z "java/math/BigInteger" fl_BigInteger [.int 1, .ref tg]) :: (false, tg, IsArrX Z "[I" .int [.int 1]) :: F) := by
  rcases hs with ⟨rfl, rfl⟩ | ⟨hs, ⟨x, rfl, hx⟩ | ⟨h, l', rfl, hh⟩⟩
  · exact m_gcd0 K hb ho ht1
  · exact m_gcd1 K hb ht (by rcases hs with rfl | rfl <;> decide) hx ho ht1
  · exact m_gcd2 K hb ht (by rcases hs with rfl | rfl <;> decide) hh ho ht1
theorem m_rini {l : Launch} {Z : State} {a0 : Array Value} (K : Ok Z a0) {r n d : Addr} {F : List Atom} : Meth l Z a0 EL (⟨"com/example/locks_to_budgets/lockstobudgets/exact/Rational", "<init>", "(Ljava/math/BigInteger;Ljava/math/BigInteger;)V"⟩ : MethodName) prog_21_method_1_code 3 none ({ frames := 1, cells := 0, slots := 0, locals := 12 } : Room) [.ref r, .ref n, .ref d] ((true, r, IsObj Z "com/example/locks_to_budgets/lockstobudgets/exact/Rational" fl_Rational [.null, .null]) :: F) (fun v L' => v = none ∧ L' = (true, r, IsObj Z "com/example/locks_to_budgets/lockstobudgets/exact/Rational" fl_Rational [.ref n, .ref d]) :: F) := by
  refine MethW.of_wp (Ls := [.val (.ref r), .val (.ref n), .val (.ref d)]) (plainFor_of_name pn5) (EWof K) (by first | rfl | (simp [argsToLocals, Value.category]; done)) (fun r => ?_)
  show WP _ _ _ _ _ _ _ _ _ _ _ _ _ _ _ _ _ _
  refine W_aloadN d40_0 (pc' := 1) rfl A0 rfl ?_
  refine W_objInit d40_1 (pc' := 4) rfl rfl (w16 K) (w17 K) (w18 K) rfl (by decide) (Nat.le_of_ble_eq_true rfl) ?_
  refine W_aloadN d40_4 (pc' := 5) rfl A0 rfl ?_
  refine W_aloadN d40_5 (pc' := 6) rfl A1 rfl ?_
  refine W_putfield d40_6 (pc' := 9) rfl (w19 K) Via.refl (Or.inr ⟨w20 K, rfl, rfl⟩) (lay_Rational K) A0 pf2 rfl rfl S0 (by first | exact ⟨A0, S0⟩ | exact ⟨A1, S1⟩ | exact ⟨A2, S2⟩ | exact ⟨A3, S3⟩ | exact ⟨A4, S4⟩ | exact ⟨A5, S5⟩ | exact ⟨A6, S6⟩ | exact ⟨A7, S7⟩ | exact ⟨A8, S8⟩ | exact ⟨A9, S9⟩ | exact ⟨A10, S10⟩ | exact ⟨A11, S11⟩) ?_
  refine W_aloadN d40_9 (pc' := 10) rfl A0 rfl ?_
  refine W_aloadN d40_10 (pc' := 11) rfl A2 rfl ?_
  refine W_putfield d40_11 (pc' := 14) rfl (w21 K) Via.refl (Or.inr ⟨w22 K, rfl, rfl⟩) (lay_Rational K) A1 pf2 rfl rfl S1 (by first | exact ⟨A0, S0⟩ | exact ⟨A1, S1⟩ | exact ⟨A2, S2⟩ | exact ⟨A3, S3⟩ | exact ⟨A4, S4⟩ | exact ⟨A5, S5⟩ | exact ⟨A6, S6⟩ | exact ⟨A7, S7⟩ | exact ⟨A8, S8⟩ | exact ⟨A9, S9⟩ | exact ⟨A10, S10⟩ | exact ⟨A11, S11⟩) ?_
  exact W_return d40_14 rfl (by first | decide | (dsimp only; omega) | omega) (by first | decide | (dsimp only; omega) | omega) ⟨rfl, rfl⟩
theorem m_ofJ {l : Launch} {Z : State} {a0 : Array Value} (K : Ok Z a0) {x : Int64} {L : List Atom} : Meth l Z a0 EL (⟨"com/example/locks_to_budgets/lockstobudgets/exact/Rational", "of", "(J)Lcom/example/locks_to_budgets/lockstobudgets/exact/Rational;"⟩ : MethodName) prog_21_method_2_code 2 (some (.object "com/example/locks_to_budgets/lockstobudgets/exact/Rational")) ({ frames := 4, cells := 3, slots := 10, locals := 55 } : Room) [.long x] L (fun v L' => ∃ r n tn d td, v = some (.ref r) ∧ L' = ((false, r, IsObj Z "com/example/locks_to_budgets/lockstobudgets/exact/Rational" fl_Rational [.ref n, .ref d]) :: (false, n, IsObj Z "java/math/BigInteger" fl_BigInteger [.int (sgn x.toInt), .ref tn]) :: (false, tn, IsArrX Z "[I" .int ((wds x.toInt.natAbs).map Value.int)) :: (false, d, IsObj Z "java/math/BigInteger" fl_BigInteger [.int 1, .ref td]) :: (false, td, IsArrX Z "[I" .int [.int 1]) :: L)) := by
  obtain ⟨d, hz, td, cb, ct, z1, z2, z3, z4⟩ := K.one
  refine MethW.of_wp (Ls := [.val (.long x), .second]) (plainFor_of_name pn5) (EWof K) (by first | rfl | (simp [argsToLocals, Value.category]; done)) (fun r => ?_)
  show WP _ _ _ _ _ _ _ _ _ _ _ _ _ _ _ _ _ _
  refine W_new d41_0 (pc' := 3) rfl (w4 K) (w5 K) (w2 K) (lay_Rational K) df_Rational (by decide) (by decide) (fun r => ?_)
  refine W_dup d41_3 (pc' := 4) rfl rfl ?_
  refine W_lloadN d41_4 (pc' := 5) rfl A0 ?_
  refine W_static d41_5 (pc' := 8) rfl rfl (w6 K) (w7 K) (w8 K) (w9 K) (by decide) (m_vof K) ar21 rfl (by decide) (Nat.le_of_ble_eq_true rfl) (by first | decide | (dsimp only; omega) | omega) (by first | decide | (dsimp only; omega) | omega) ?_
  rintro _ _ ⟨n, tn, rfl, rfl⟩
  simp only [Option.toList_some, Option.toList_none, List.cons_append, List.nil_append]
  refine W_old z3 z4 (W_old z1 z2 ?_)
  refine W_getstatic d41_8 (pc' := 11) rfl (w12 K) Via.refl hz ?_
  refine W_focus (a := r) (by first | exact ⟨A0, E0⟩ | exact ⟨A1, E1⟩ | exact ⟨A2, E2⟩ | exact ⟨A3, E3⟩ | exact ⟨A4, E4⟩ | exact ⟨A5, E5⟩ | exact ⟨A6, E6⟩ | exact ⟨A7, E7⟩ | exact ⟨A8, E8⟩ | exact ⟨A9, E9⟩ | exact ⟨A10, E10⟩ | exact ⟨A11, E11⟩) ?_
  refine W_special d41_11 (pc' := 14) rfl rfl rfl (w13 K) (w14 K) (w2 K) (w15 K) (by decide) (m_rini K) ar22 rfl (by decide) (Nat.le_of_ble_eq_true rfl) (by first | decide | (dsimp only; omega) | omega) (by first | decide | (dsimp only; omega) | omega) ?_
  rintro _ _ ⟨rfl, rfl⟩
  simp only [Option.toList_some, Option.toList_none, List.cons_append, List.nil_append]
  refine W_frz (W_focus (a := tn) (by first | exact ⟨A0, E0⟩ | exact ⟨A1, E1⟩ | exact ⟨A2, E2⟩ | exact ⟨A3, E3⟩ | exact ⟨A4, E4⟩ | exact ⟨A5, E5⟩ | exact ⟨A6, E6⟩ | exact ⟨A7, E7⟩ | exact ⟨A8, E8⟩ | exact ⟨A9, E9⟩ | exact ⟨A10, E10⟩ | exact ⟨A11, E11⟩) (W_focus (a := n) (by first | exact ⟨A0, E0⟩ | exact ⟨A1, E1⟩ | exact ⟨A2, E2⟩ | exact ⟨A3, E3⟩ | exact ⟨A4, E4⟩ | exact ⟨A5, E5⟩ | exact ⟨A6, E6⟩ | exact ⟨A7, E7⟩ | exact ⟨A8, E8⟩ | exact ⟨A9, E9⟩ | exact ⟨A10, E10⟩ | exact ⟨A11, E11⟩) (W_focus (a := r) (by first | exact ⟨A0, E0⟩ | exact ⟨A1, E1⟩ | exact ⟨A2, E2⟩ | exact ⟨A3, E3⟩ | exact ⟨A4, E4⟩ | exact ⟨A5, E5⟩ | exact ⟨A6, E6⟩ | exact ⟨A7, E7⟩ | exact ⟨A8, E8⟩ | exact ⟨A9, E9⟩ | exact ⟨A10, E10⟩ | exact ⟨A11, E11⟩) ?_)))
  exact W_areturn d41_14 rfl rfl rfl rfl (by first | decide | (dsimp only; omega) | omega) (by first | decide | (dsimp only; omega) | omega) ⟨r, n, tn, d, td, rfl, rfl⟩
theorem m_rnn {l : Launch} {Z : State} {a0 : Array Value} (K : Ok Z a0) {a m : Addr} {L : List Atom} : Meth l Z a0 EL (⟨"java/util/Objects", "requireNonNull", "(Ljava/lang/Object;Ljava/lang/String;)Ljava/lang/Object;"⟩ : MethodName) jdk_31_method_11_code 2 (some (.object "java/lang/Object")) ({ frames := 0, cells := 0, slots := 0, locals := 0 } : Room) [.ref a, .ref m] L (fun v L' => v = some (.ref a) ∧ L' = L) := by
  refine MethW.of_wp (Ls := [.val (.ref a), .val (.ref m)]) (plainFor_of_name pn6) (EWof K) (by first | rfl | (simp [argsToLocals, Value.category]; done)) (fun r => ?_)
  show WP _ _ _ _ _ _ _ _ _ _ _ _ _ _ _ _ _ _
  refine W_aloadN d42_0 (pc' := 1) rfl A0 rfl ?_
  refine W_ifnonnull_T d42_1 (pc' := 13) (by decide) (by decide)  ?_
  refine W_aloadN d42_13 (pc' := 14) rfl A0 rfl ?_
  exact W_areturn d42_14 rfl rfl rfl rfl (by first | decide | (dsimp only; omega) | omega) (by first | decide | (dsimp only; omega) | omega) ⟨rfl, rfl⟩
theorem m_ofBB {l : Launch} {Z : State} {a0 : Array Value} (K : Ok Z a0) {b t o t1 : Addr} {x : Int} {F : List Atom} {i i2 j k : Nat} {f1 f2 : Bool} (hx : x.natAbs < 18446744073709551616) (hb : F[i]? = some (f1, b, IsObj Z "java/math/BigInteger" fl_BigInteger [.int (sgn x), .ref t])) (ht : F[i2]? = some (f2, t, IsArrX Z "[I" .int ((wds x.natAbs).map Value.int))) (ho : F[j]? = some (false, o, IsObj Z "java/math/BigInteger" fl_BigInteger [.int 1, .ref t1])) (ht1 : F[k]? = some (false, t1, IsArrX Z "[I" .int [.int 1])) :
    Meth l Z a0 EL (⟨"com/example/locks_to_budgets/lockstobudgets/exact/Rational", "of", "(Ljava/math/BigInteger;Ljava/math/BigInteger;)Lcom/example/locks_to_budgets/lockstobudgets/exact/Rational;"⟩ : MethodName) prog_21_method_5_code 4 (some (.object "com/example/locks_to_budgets/lockstobudgets/exact/Rational")) ({ frames := 6, cells := 35, slots := 190, locals := 101 } : Room) [.ref b, .ref o] F (fun v L' => ∃ r n tn d td, v = some (.ref r) ∧ L' = ((false, r, IsObj Z "com/example/locks_to_budgets/lockstobudgets/exact/Rational" fl_Rational [.ref n, .ref d]) :: (false, n, IsObj Z "java/math/BigInteger" fl_BigInteger [.int (sgn x), .ref tn]) :: (false, tn, IsArrX Z "[I" .int ((wds x.natAbs).map Value.int)) :: (false, d, IsObj Z "java/math/BigInteger" fl_BigInteger [.int 1, .ref td]) :: (false, td, IsArrX Z "[I" .int [.int 1]) :: F)) := by
  have hs := shp_of hx
  have hs1 : Shp 1 [1] := Or.inr ⟨Or.inl rfl, Or.inl ⟨1, rfl, by decide⟩⟩
  refine MethW.of_wp (Ls := [.val (.ref b), .val (.ref o), .unset, .unset]) (plainFor_of_name pn5) (EWof K) (by first | rfl | (simp [argsToLocals, Value.category]; done)) (fun r => ?_)
  show WP _ _ _ _ _ _ _ _ _ _ _ _ _ _ _ _ _ _
  refine W_aloadN d43_0 (pc' := 1) rfl A0 rfl ?_
  refine W_ldcO (nn := 36) (by decide) d43_1 (pc' := 3) rfl (w29 K) (wSof K) (by decide) (by decide) (by decide) (by decide) (fun m1 => ?_)
  refine W_static d43_3 (pc' := 6) rfl rfl (w37 K) (w38 K) (w39 K) (w40 K) (by decide) (m_rnn K) ar23 rfl (by decide) (Nat.le_of_ble_eq_true rfl) (by first | decide | (dsimp only; omega) | omega) (by first | decide | (dsimp only; omega) | omega) ?_
  rintro _ _ ⟨rfl, rfl⟩
  simp only [Option.toList_some, Option.toList_none, List.cons_append, List.nil_append]
  refine W_pop d43_6 (pc' := 7) rfl rfl ?_
  refine W_aloadN d43_7 (pc' := 8) rfl A1 rfl ?_
  refine W_ldcO (nn := 44) (by decide) d43_8 (pc' := 10) rfl (w41 K) (wSof K) (by decide) (by decide) (by decide) (by decide) (fun m2 => ?_)
  refine W_static d43_10 (pc' := 13) rfl rfl (w37 K) (w38 K) (w39 K) (w40 K) (by decide) (m_rnn K) ar23 rfl (by decide) (Nat.le_of_ble_eq_true rfl) (by first | decide | (dsimp only; omega) | omega) (by first | decide | (dsimp only; omega) | omega) ?_
  rintro _ _ ⟨rfl, rfl⟩
  simp only [Option.toList_some, Option.toList_none, List.cons_append, List.nil_append]
  refine W_pop d43_13 (pc' := 14) rfl rfl ?_
  refine W_aloadN d43_14 (pc' := 15) rfl A1 rfl ?_
  refine W_virtual d43_15 (pc' := 18) rfl rfl (w42 K) (w43 K) (NF.sel (w45 K)) (w45 K) (w44 K) (w8 K) (w46 K) (by decide) (m_bsg K ho) ar5 rfl (by first | assumption | exact A0 | exact A1 | exact A2 | exact A3 | exact A4 | exact A5 | exact A6 | exact A7 | exact A8 | exact A9 | exact A10 | exact A11 | exact Tl1 ‹_› | exact Tl2 ‹_› | exact Tl3 ‹_› | exact Tl4 ‹_› | exact Tl5 ‹_› | exact Tl6 ‹_› | exact Tl7 ‹_› | exact Tl8 ‹_›) (by decide) (Nat.le_of_ble_eq_true rfl) (by first | decide | (dsimp only; omega) | omega) (by first | decide | (dsimp only; omega) | omega) ?_
  rintro _ _ ⟨rfl, rfl⟩
  simp only [Option.toList_some, Option.toList_none, List.cons_append, List.nil_append]
  refine W_if_ne_T d43_18 (pc' := 31) (by decide) (by decide) (by decide) ?_
  refine W_aloadN d43_31 (pc' := 32) rfl A0 rfl ?_
  refine W_aloadN d43_32 (pc' := 33) rfl A1 rfl ?_
  refine W_virtual d43_33 (pc' := 36) rfl rfl (w49 K) (w50 K) (NF.sel (w52 K)) (w52 K) (w51 K) (w8 K) (w53 K) (by decide) (m_gcd K hb ht hs ho ht1) ar16 rfl (by first | assumption | exact A0 | exact A1 | exact A2 | exact A3 | exact A4 | exact A5 | exact A6 | exact A7 | exact A8 | exact A9 | exact A10 | exact A11 | exact Tl1 ‹_› | exact Tl2 ‹_› | exact Tl3 ‹_› | exact Tl4 ‹_› | exact Tl5 ‹_› | exact Tl6 ‹_› | exact Tl7 ‹_› | exact Tl8 ‹_›) (by decide) (Nat.le_of_ble_eq_true rfl) (by first | decide | (dsimp only; omega) | omega) (by first | decide | (dsimp only; omega) | omega) ?_
  rintro _ _ ⟨g, tg, rfl, rfl⟩
  simp only [Option.toList_some, Option.toList_none, List.cons_append, List.nil_append]
  refine W_astoreN d43_36 (pc' := 37) rfl A2 rfl rfl S2 ?_
  refine W_aloadN d43_37 (pc' := 38) rfl A1 rfl ?_
  refine W_virtual d43_38 (pc' := 41) rfl rfl (w42 K) (w43 K) (NF.sel (w45 K)) (w45 K) (w44 K) (w8 K) (w46 K) (by decide) (m_bsg K (Tl2 ho)) ar5 rfl (by first | assumption | exact A0 | exact A1 | exact A2 | exact A3 | exact A4 | exact A5 | exact A6 | exact A7 | exact A8 | exact A9 | exact A10 | exact A11 | exact Tl1 ‹_› | exact Tl2 ‹_› | exact Tl3 ‹_› | exact Tl4 ‹_› | exact Tl5 ‹_› | exact Tl6 ‹_› | exact Tl7 ‹_› | exact Tl8 ‹_›) (by decide) (Nat.le_of_ble_eq_true rfl) (by first | decide | (dsimp only; omega) | omega) (by first | decide | (dsimp only; omega) | omega) ?_
  rintro _ _ ⟨rfl, rfl⟩
  simp only [Option.toList_some, Option.toList_none, List.cons_append, List.nil_append]
  refine W_i2l d43_41 (pc' := 42) rfl ?_
  rw [i2l1]
  refine W_static d43_42 (pc' := 45) rfl rfl (w6 K) (w7 K) (w8 K) (w9 K) (by decide) (m_vof K) ar21 rfl (by decide) (Nat.le_of_ble_eq_true rfl) (by first | decide | (dsimp only; omega) | omega) (by first | decide | (dsimp only; omega) | omega) ?_
  rintro _ _ ⟨e, te, rfl, rfl⟩
  simp only [Option.toList_some, Option.toList_none, List.cons_append, List.nil_append]
  rw [vof1_s, vof1_w]
  refine W_astoreN d43_45 (pc' := 46) rfl A3 rfl rfl S3 ?_
  refine W_new d43_46 (pc' := 49) rfl (w4 K) (w5 K) (w2 K) (lay_Rational K) df_Rational (by decide) (by decide) (fun r => ?_)
  refine W_dup d43_49 (pc' := 50) rfl rfl ?_
  refine W_aloadN d43_50 (pc' := 51) rfl A0 rfl ?_
  refine W_aloadN d43_51 (pc' := 52) rfl A2 rfl ?_
  refine W_virtual d43_52 (pc' := 55) rfl rfl (w146 K) (w147 K) (NF.sel (w149 K)) (w149 K) (w148 K) (w8 K) (w150 K) (by decide) (m_div K (Tl5 hb) (Tl5 ht) hs A3 A4) ar16 rfl (by first | assumption | exact A0 | exact A1 | exact A2 | exact A3 | exact A4 | exact A5 | exact A6 | exact A7 | exact A8 | exact A9 | exact A10 | exact A11 | exact Tl1 ‹_› | exact Tl2 ‹_› | exact Tl3 ‹_› | exact Tl4 ‹_› | exact Tl5 ‹_› | exact Tl6 ‹_› | exact Tl7 ‹_› | exact Tl8 ‹_›) (by decide) (Nat.le_of_ble_eq_true rfl) (by first | decide | (dsimp only; omega) | omega) (by first | decide | (dsimp only; omega) | omega) ?_
  rintro _ _ ⟨n2, tn2, rfl, rfl⟩
  simp only [Option.toList_some, Option.toList_none, List.cons_append, List.nil_append]
  refine W_aloadN d43_55 (pc' := 56) rfl A3 rfl ?_
  refine W_virtual d43_56 (pc' := 59) rfl rfl (w181 K) (w182 K) (NF.sel (w184 K)) (w184 K) (w183 K) (w8 K) (w185 K) (by decide) (m_mul K A0 A1 hs A3 A4) ar16 rfl (by first | assumption | exact A0 | exact A1 | exact A2 | exact A3 | exact A4 | exact A5 | exact A6 | exact A7 | exact A8 | exact A9 | exact A10 | exact A11 | exact Tl1 ‹_› | exact Tl2 ‹_› | exact Tl3 ‹_› | exact Tl4 ‹_› | exact Tl5 ‹_› | exact Tl6 ‹_› | exact Tl7 ‹_› | exact Tl8 ‹_›) (by decide) (Nat.le_of_ble_eq_true rfl) (by first | decide | (dsimp only; omega) | omega) (by first | decide | (dsimp only; omega) | omega) ?_
  rintro _ _ ⟨n, tn, rfl, rfl⟩
  simp only [Option.toList_some, Option.toList_none, List.cons_append, List.nil_append]
  refine W_focus (a := n2) (by first | exact ⟨A0, E0⟩ | exact ⟨A1, E1⟩ | exact ⟨A2, E2⟩ | exact ⟨A3, E3⟩ | exact ⟨A4, E4⟩ | exact ⟨A5, E5⟩ | exact ⟨A6, E6⟩ | exact ⟨A7, E7⟩ | exact ⟨A8, E8⟩ | exact ⟨A9, E9⟩ | exact ⟨A10, E10⟩ | exact ⟨A11, E11⟩) (W_drop (W_focus (a := tn2) (by first | exact ⟨A0, E0⟩ | exact ⟨A1, E1⟩ | exact ⟨A2, E2⟩ | exact ⟨A3, E3⟩ | exact ⟨A4, E4⟩ | exact ⟨A5, E5⟩ | exact ⟨A6, E6⟩ | exact ⟨A7, E7⟩ | exact ⟨A8, E8⟩ | exact ⟨A9, E9⟩ | exact ⟨A10, E10⟩ | exact ⟨A11, E11⟩) (W_drop ?_)))
  refine W_aloadN d43_59 (pc' := 60) rfl A1 rfl ?_
  refine W_aloadN d43_60 (pc' := 61) rfl A2 rfl ?_
  refine W_virtual d43_61 (pc' := 64) rfl rfl (w146 K) (w147 K) (NF.sel (w149 K)) (w149 K) (w148 K) (w8 K) (w150 K) (by decide) (m_div K (Tl7 ho) (ws := [1]) (Tl7 ht1) hs1 A5 A6) ar16 rfl (by first | assumption | exact A0 | exact A1 | exact A2 | exact A3 | exact A4 | exact A5 | exact A6 | exact A7 | exact A8 | exact A9 | exact A10 | exact A11 | exact Tl1 ‹_› | exact Tl2 ‹_› | exact Tl3 ‹_› | exact Tl4 ‹_› | exact Tl5 ‹_› | exact Tl6 ‹_› | exact Tl7 ‹_› | exact Tl8 ‹_›) (by decide) (Nat.le_of_ble_eq_true rfl) (by first | decide | (dsimp only; omega) | omega) (by first | decide | (dsimp only; omega) | omega) ?_
  rintro _ _ ⟨d2, td2, rfl, rfl⟩
  simp only [Option.toList_some, Option.toList_none, List.cons_append, List.nil_append]
  refine W_aloadN d43_64 (pc' := 65) rfl A3 rfl ?_
  refine W_virtual d43_65 (pc' := 68) rfl rfl (w181 K) (w182 K) (NF.sel (w184 K)) (w184 K) (w183 K) (w8 K) (w185 K) (by decide) (m_mul K A0 (ws := [1]) A1 hs1 A5 A6) ar16 rfl (by first | assumption | exact A0 | exact A1 | exact A2 | exact A3 | exact A4 | exact A5 | exact A6 | exact A7 | exact A8 | exact A9 | exact A10 | exact A11 | exact Tl1 ‹_› | exact Tl2 ‹_› | exact Tl3 ‹_› | exact Tl4 ‹_› | exact Tl5 ‹_› | exact Tl6 ‹_› | exact Tl7 ‹_› | exact Tl8 ‹_›) (by decide) (Nat.le_of_ble_eq_true rfl) (by first | decide | (dsimp only; omega) | omega) (by first | decide | (dsimp only; omega) | omega) ?_
  rintro _ _ ⟨d, td, rfl, rfl⟩
  simp only [Option.toList_some, Option.toList_none, List.cons_append, List.nil_append]
  refine W_focus (a := d2) (by first | exact ⟨A0, E0⟩ | exact ⟨A1, E1⟩ | exact ⟨A2, E2⟩ | exact ⟨A3, E3⟩ | exact ⟨A4, E4⟩ | exact ⟨A5, E5⟩ | exact ⟨A6, E6⟩ | exact ⟨A7, E7⟩ | exact ⟨A8, E8⟩ | exact ⟨A9, E9⟩ | exact ⟨A10, E10⟩ | exact ⟨A11, E11⟩) (W_drop (W_focus (a := td2) (by first | exact ⟨A0, E0⟩ | exact ⟨A1, E1⟩ | exact ⟨A2, E2⟩ | exact ⟨A3, E3⟩ | exact ⟨A4, E4⟩ | exact ⟨A5, E5⟩ | exact ⟨A6, E6⟩ | exact ⟨A7, E7⟩ | exact ⟨A8, E8⟩ | exact ⟨A9, E9⟩ | exact ⟨A10, E10⟩ | exact ⟨A11, E11⟩) (W_drop (W_focus (a := g) (by first | exact ⟨A0, E0⟩ | exact ⟨A1, E1⟩ | exact ⟨A2, E2⟩ | exact ⟨A3, E3⟩ | exact ⟨A4, E4⟩ | exact ⟨A5, E5⟩ | exact ⟨A6, E6⟩ | exact ⟨A7, E7⟩ | exact ⟨A8, E8⟩ | exact ⟨A9, E9⟩ | exact ⟨A10, E10⟩ | exact ⟨A11, E11⟩) (W_drop (W_focus (a := tg) (by first | exact ⟨A0, E0⟩ | exact ⟨A1, E1⟩ | exact ⟨A2, E2⟩ | exact ⟨A3, E3⟩ | exact ⟨A4, E4⟩ | exact ⟨A5, E5⟩ | exact ⟨A6, E6⟩ | exact ⟨A7, E7⟩ | exact ⟨A8, E8⟩ | exact ⟨A9, E9⟩ | exact ⟨A10, E10⟩ | exact ⟨A11, E11⟩) (W_drop (W_focus (a := e) (by first | exact ⟨A0, E0⟩ | exact ⟨A1, E1⟩ | exact ⟨A2, E2⟩ | exact ⟨A3, E3⟩ | exact ⟨A4, E4⟩ | exact ⟨A5, E5⟩ | exact ⟨A6, E6⟩ | exact ⟨A7, E7⟩ | exact ⟨A8, E8⟩ | exact ⟨A9, E9⟩ | exact ⟨A10, E10⟩ | exact ⟨A11, E11⟩) (W_drop (W_focus (a := te) (by first | exact ⟨A0, E0⟩ | exact ⟨A1, E1⟩ | exact ⟨A2, E2⟩ | exact ⟨A3, E3⟩ | exact ⟨A4, E4⟩ | exact ⟨A5, E5⟩ | exact ⟨A6, E6⟩ | exact ⟨A7, E7⟩ | exact ⟨A8, E8⟩ | exact ⟨A9, E9⟩ | exact ⟨A10, E10⟩ | exact ⟨A11, E11⟩) (W_drop ?_)))))))))))
  refine W_focus (a := r) (by first | exact ⟨A0, E0⟩ | exact ⟨A1, E1⟩ | exact ⟨A2, E2⟩ | exact ⟨A3, E3⟩ | exact ⟨A4, E4⟩ | exact ⟨A5, E5⟩ | exact ⟨A6, E6⟩ | exact ⟨A7, E7⟩ | exact ⟨A8, E8⟩ | exact ⟨A9, E9⟩ | exact ⟨A10, E10⟩ | exact ⟨A11, E11⟩) ?_
  refine W_special d43_68 (pc' := 71) rfl rfl rfl (w13 K) (w14 K) (w2 K) (w15 K) (by decide) (m_rini K) ar22 rfl (by decide) (Nat.le_of_ble_eq_true rfl) (by first | decide | (dsimp only; omega) | omega) (by first | decide | (dsimp only; omega) | omega) ?_
  rintro _ _ ⟨rfl, rfl⟩
  simp only [Option.toList_some, Option.toList_none, List.cons_append, List.nil_append]
  refine W_frz (W_focus (a := tn) (by first | exact ⟨A0, E0⟩ | exact ⟨A1, E1⟩ | exact ⟨A2, E2⟩ | exact ⟨A3, E3⟩ | exact ⟨A4, E4⟩ | exact ⟨A5, E5⟩ | exact ⟨A6, E6⟩ | exact ⟨A7, E7⟩ | exact ⟨A8, E8⟩ | exact ⟨A9, E9⟩ | exact ⟨A10, E10⟩ | exact ⟨A11, E11⟩) (W_focus (a := n) (by first | exact ⟨A0, E0⟩ | exact ⟨A1, E1⟩ | exact ⟨A2, E2⟩ | exact ⟨A3, E3⟩ | exact ⟨A4, E4⟩ | exact ⟨A5, E5⟩ | exact ⟨A6, E6⟩ | exact ⟨A7, E7⟩ | exact ⟨A8, E8⟩ | exact ⟨A9, E9⟩ | exact ⟨A10, E10⟩ | exact ⟨A11, E11⟩) (W_focus (a := r) (by first | exact ⟨A0, E0⟩ | exact ⟨A1, E1⟩ | exact ⟨A2, E2⟩ | exact ⟨A3, E3⟩ | exact ⟨A4, E4⟩ | exact ⟨A5, E5⟩ | exact ⟨A6, E6⟩ | exact ⟨A7, E7⟩ | exact ⟨A8, E8⟩ | exact ⟨A9, E9⟩ | exact ⟨A10, E10⟩ | exact ⟨A11, E11⟩) ?_)))
  exact W_areturn d43_71 rfl rfl rfl rfl (by first | decide | (dsimp only; omega) | omega) (by first | decide | (dsimp only; omega) | omega) ⟨r, n, tn, d, td, rfl, rfl⟩
theorem m_ofJJ {l : Launch} {Z : State} {a0 : Array Value} (K : Ok Z a0) {x : Int64} {L : List Atom} : Meth l Z a0 EL (⟨"com/example/locks_to_budgets/lockstobudgets/exact/Rational", "of", "(JJ)Lcom/example/locks_to_budgets/lockstobudgets/exact/Rational;"⟩ : MethodName) prog_21_method_4_code 4 (some (.object "com/example/locks_to_budgets/lockstobudgets/exact/Rational")) ({ frames := 7, cells := 39, slots := 206, locals := 116 } : Room) [.long x, .long 1] L (fun v L' => ∃ r n tn d td, v = some (.ref r) ∧ L' = ((false, r, IsObj Z "com/example/locks_to_budgets/lockstobudgets/exact/Rational" fl_Rational [.ref n, .ref d]) :: (false, n, IsObj Z "java/math/BigInteger" fl_BigInteger [.int (sgn x.toInt), .ref tn]) :: (false, tn, IsArrX Z "[I" .int ((wds x.toInt.natAbs).map Value.int)) :: (false, d, IsObj Z "java/math/BigInteger" fl_BigInteger [.int 1, .ref td]) :: (false, td, IsArrX Z "[I" .int [.int 1]) :: L)) := by
  refine MethW.of_wp (Ls := [.val (.long x), .second, .val (.long 1), .second]) (plainFor_of_name pn5) (EWof K) (by first | rfl | (simp [argsToLocals, Value.category]; done)) (fun r => ?_)
  show WP _ _ _ _ _ _ _ _ _ _ _ _ _ _ _ _ _ _
  refine W_lloadN d44_0 (pc' := 1) rfl A0 ?_
  refine W_static d44_1 (pc' := 4) rfl rfl (w6 K) (w7 K) (w8 K) (w9 K) (by decide) (m_vof K) ar21 rfl (by decide) (Nat.le_of_ble_eq_true rfl) (by first | decide | (dsimp only; omega) | omega) (by first | decide | (dsimp only; omega) | omega) ?_
  rintro _ _ ⟨b, t, rfl, rfl⟩
  simp only [Option.toList_some, Option.toList_none, List.cons_append, List.nil_append]
  refine W_lloadN d44_4 (pc' := 5) rfl A2 ?_
  refine W_static d44_5 (pc' := 8) rfl rfl (w6 K) (w7 K) (w8 K) (w9 K) (by decide) (m_vof K) ar21 rfl (by decide) (Nat.le_of_ble_eq_true rfl) (by first | decide | (dsimp only; omega) | omega) (by first | decide | (dsimp only; omega) | omega) ?_
  rintro _ _ ⟨o, t1, rfl, rfl⟩
  simp only [Option.toList_some, Option.toList_none, List.cons_append, List.nil_append]
  rw [vof1_s, vof1_w]
  refine W_static d44_8 (pc' := 11) rfl rfl (w26 K) (w27 K) (w2 K) (w28 K) (by decide) (m_ofBB K (abs_lt x) A2 A3 A0 A1) ar24 rfl (by decide) (Nat.le_of_ble_eq_true rfl) (by first | decide | (dsimp only; omega) | omega) (by first | decide | (dsimp only; omega) | omega) ?_
  rintro _ _ ⟨r, n, tn, d, td, rfl, rfl⟩
  simp only [Option.toList_some, Option.toList_none, List.cons_append, List.nil_append]
  refine W_focus (a := b) (by first | exact ⟨A0, E0⟩ | exact ⟨A1, E1⟩ | exact ⟨A2, E2⟩ | exact ⟨A3, E3⟩ | exact ⟨A4, E4⟩ | exact ⟨A5, E5⟩ | exact ⟨A6, E6⟩ | exact ⟨A7, E7⟩ | exact ⟨A8, E8⟩ | exact ⟨A9, E9⟩ | exact ⟨A10, E10⟩ | exact ⟨A11, E11⟩) (W_drop (W_focus (a := t) (by first | exact ⟨A0, E0⟩ | exact ⟨A1, E1⟩ | exact ⟨A2, E2⟩ | exact ⟨A3, E3⟩ | exact ⟨A4, E4⟩ | exact ⟨A5, E5⟩ | exact ⟨A6, E6⟩ | exact ⟨A7, E7⟩ | exact ⟨A8, E8⟩ | exact ⟨A9, E9⟩ | exact ⟨A10, E10⟩ | exact ⟨A11, E11⟩) (W_drop (W_focus (a := o) (by first | exact ⟨A0, E0⟩ | exact ⟨A1, E1⟩ | exact ⟨A2, E2⟩ | exact ⟨A3, E3⟩ | exact ⟨A4, E4⟩ | exact ⟨A5, E5⟩ | exact ⟨A6, E6⟩ | exact ⟨A7, E7⟩ | exact ⟨A8, E8⟩ | exact ⟨A9, E9⟩ | exact ⟨A10, E10⟩ | exact ⟨A11, E11⟩) (W_drop (W_focus (a := t1) (by first | exact ⟨A0, E0⟩ | exact ⟨A1, E1⟩ | exact ⟨A2, E2⟩ | exact ⟨A3, E3⟩ | exact ⟨A4, E4⟩ | exact ⟨A5, E5⟩ | exact ⟨A6, E6⟩ | exact ⟨A7, E7⟩ | exact ⟨A8, E8⟩ | exact ⟨A9, E9⟩ | exact ⟨A10, E10⟩ | exact ⟨A11, E11⟩) (W_drop ?_)))))))
  exact W_areturn d44_11 rfl rfl rfl rfl (by first | decide | (dsimp only; omega) | omega) (by first | decide | (dsimp only; omega) | omega) ⟨r, n, tn, d, td, rfl, rfl⟩
theorem m_req {l : Launch} {Z : State} {a0 : Array Value} (K : Ok Z a0) {r n d r' n' d' tn td tn' td' : Addr} {x : Int} {L : List Atom} {i0 i1 i2 i3 i4 j0 j1 j2 j3 j4 : Nat} {f0 f1 f2 f3 f4 g0 g1 g2 g3 g4 : Bool} (hx : x.natAbs < 18446744073709551616)
    (h0 : L[i0]? = some (f0, r, IsObj Z "com/example/locks_to_budgets/lockstobudgets/exact/Rational" fl_Rational [.ref n, .ref d])) (h1 : L[i1]? = some (f1, n, IsObj Z "java/math/BigInteger" fl_BigInteger [.int (sgn x), .ref tn])) (h2 : L[i2]? = some (f2, tn, IsArrX Z "[I" .int ((wds x.natAbs).map Value.int))) (h3 : L[i3]? = some (f3, d, IsObj Z "java/math/BigInteger" fl_BigInteger [.int 1, .ref td])) (h4 : L[i4]? = some (f4, td, IsArrX Z "[I" .int [.int 1]))
    (k0 : L[j0]? = some (g0, r', IsObj Z "com/example/locks_to_budgets/lockstobudgets/exact/Rational" fl_Rational [.ref n', .ref d'])) (k1 : L[j1]? = some (g1, n', IsObj Z "java/math/BigInteger" fl_BigInteger [.int (sgn x), .ref tn'])) (k2 : L[j2]? = some (g2, tn', IsArrX Z "[I" .int ((wds x.natAbs).map Value.int))) (k3 : L[j3]? = some (g3, d', IsObj Z "java/math/BigInteger" fl_BigInteger [.int 1, .ref td'])) (k4 : L[j4]? = some (g4, td', IsArrX Z "[I" .int [.int 1])) :
    Meth l Z a0 EL (⟨"com/example/locks_to_budgets/lockstobudgets/exact/Rational", "equals", "(Ljava/lang/Object;)Z"⟩ : MethodName) prog_21_method_26_code 3 (some .boolean) ({ frames := 1, cells := 0, slots := 0, locals := 18 } : Room) [.ref r, .ref r'] L (fun v L' => v = some (.int 1) ∧ L' = L) := by
  have hs := shp_of hx
  have hs1 : Shp 1 [1] := Or.inr ⟨Or.inl rfl, Or.inl ⟨1, rfl, by decide⟩⟩
  refine MethW.of_wp (Ls := [.val (.ref r), .val (.ref r'), .unset]) (plainFor_of_name pn5) (EWof K) (by first | rfl | (simp [argsToLocals, Value.category]; done)) (fun r => ?_)
  show WP _ _ _ _ _ _ _ _ _ _ _ _ _ _ _ _ _ _
  refine W_aloadN d45_0 (pc' := 1) rfl A1 rfl ?_
  refine W_instanceof d45_1 (pc' := 4) rfl (w4 K) (w215 K) (by first | assumption | exact A0 | exact A1 | exact A2 | exact A3 | exact A4 | exact A5 | exact A6 | exact A7 | exact A8 | exact A9 | exact A10 | exact A11 | exact Tl1 ‹_› | exact Tl2 ‹_› | exact Tl3 ‹_› | exact Tl4 ‹_› | exact Tl5 ‹_› | exact Tl6 ‹_› | exact Tl7 ‹_› | exact Tl8 ‹_›) ?_
  refine W_if_eq_F d45_4 (pc' := 7) rfl (by decide) ?_
  refine W_aloadN d45_7 (pc' := 8) rfl A1 rfl ?_
  refine W_checkcast d45_8 (pc' := 11) rfl (w4 K) (w215 K) (by first | assumption | exact A0 | exact A1 | exact A2 | exact A3 | exact A4 | exact A5 | exact A6 | exact A7 | exact A8 | exact A9 | exact A10 | exact A11 | exact Tl1 ‹_› | exact Tl2 ‹_› | exact Tl3 ‹_› | exact Tl4 ‹_› | exact Tl5 ‹_› | exact Tl6 ‹_› | exact Tl7 ‹_› | exact Tl8 ‹_›) ?_
  refine W_astoreN d45_11 (pc' := 12) rfl A2 rfl rfl S2 ?_
  refine W_aloadN d45_12 (pc' := 13) rfl A0 rfl ?_
  refine W_getfield d45_13 (pc' := 16) rfl (w19 K) Via.refl (by first | assumption | exact A0 | exact A1 | exact A2 | exact A3 | exact A4 | exact A5 | exact A6 | exact A7 | exact A8 | exact A9 | exact A10 | exact A11 | exact Tl1 ‹_› | exact Tl2 ‹_› | exact Tl3 ‹_› | exact Tl4 ‹_› | exact Tl5 ‹_› | exact Tl6 ‹_› | exact Tl7 ‹_› | exact Tl8 ‹_›) A0 A0 ?_
  refine W_aloadN d45_16 (pc' := 17) rfl A2 rfl ?_
  refine W_getfield d45_17 (pc' := 20) rfl (w19 K) Via.refl (by first | assumption | exact A0 | exact A1 | exact A2 | exact A3 | exact A4 | exact A5 | exact A6 | exact A7 | exact A8 | exact A9 | exact A10 | exact A11 | exact Tl1 ‹_› | exact Tl2 ‹_› | exact Tl3 ‹_› | exact Tl4 ‹_› | exact Tl5 ‹_› | exact Tl6 ‹_› | exact Tl7 ‹_› | exact Tl8 ‹_›) A0 A0 ?_
  refine W_virtual d45_20 (pc' := 23) rfl rfl (w216 K) (w217 K) (NF.sel (w219 K)) (w219 K) (w218 K) (w8 K) (w220 K) (by decide) (m_beq K h1 h2 hs k1 k2) ar25 rfl (by first | assumption | exact A0 | exact A1 | exact A2 | exact A3 | exact A4 | exact A5 | exact A6 | exact A7 | exact A8 | exact A9 | exact A10 | exact A11 | exact Tl1 ‹_› | exact Tl2 ‹_› | exact Tl3 ‹_› | exact Tl4 ‹_› | exact Tl5 ‹_› | exact Tl6 ‹_› | exact Tl7 ‹_› | exact Tl8 ‹_›) (by decide) (Nat.le_of_ble_eq_true rfl) (by first | decide | (dsimp only; omega) | omega) (by first | decide | (dsimp only; omega) | omega) ?_
  rintro _ _ ⟨rfl, rfl⟩
  simp only [Option.toList_some, Option.toList_none, List.cons_append, List.nil_append]
  refine W_if_eq_F d45_23 (pc' := 26) rfl (by decide) ?_
  refine W_aloadN d45_26 (pc' := 27) rfl A0 rfl ?_
  refine W_getfield d45_27 (pc' := 30) rfl (w21 K) Via.refl (by first | assumption | exact A0 | exact A1 | exact A2 | exact A3 | exact A4 | exact A5 | exact A6 | exact A7 | exact A8 | exact A9 | exact A10 | exact A11 | exact Tl1 ‹_› | exact Tl2 ‹_› | exact Tl3 ‹_› | exact Tl4 ‹_› | exact Tl5 ‹_› | exact Tl6 ‹_› | exact Tl7 ‹_› | exact Tl8 ‹_›) A1 A1 ?_
  refine W_aloadN d45_30 (pc' := 31) rfl A2 rfl ?_
  refine W_getfield d45_31 (pc' := 34) rfl (w21 K) Via.refl (by first | assumption | exact A0 | exact A1 | exact A2 | exact A3 | exact A4 | exact A5 | exact A6 | exact A7 | exact A8 | exact A9 | exact A10 | exact A11 | exact Tl1 ‹_› | exact Tl2 ‹_› | exact Tl3 ‹_› | exact Tl4 ‹_› | exact Tl5 ‹_› | exact Tl6 ‹_› | exact Tl7 ‹_› | exact Tl8 ‹_›) A1 A1 ?_
  refine W_virtual d45_34 (pc' := 37) rfl rfl (w216 K) (w217 K) (NF.sel (w219 K)) (w219 K) (w218 K) (w8 K) (w220 K) (by decide) (m_beq K h3 (ws := [1]) h4 hs1 k3 k4) ar25 rfl (by first | assumption | exact A0 | exact A1 | exact A2 | exact A3 | exact A4 | exact A5 | exact A6 | exact A7 | exact A8 | exact A9 | exact A10 | exact A11 | exact Tl1 ‹_› | exact Tl2 ‹_› | exact Tl3 ‹_› | exact Tl4 ‹_› | exact Tl5 ‹_› | exact Tl6 ‹_› | exact Tl7 ‹_› | exact Tl8 ‹_›) (by decide) (Nat.le_of_ble_eq_true rfl) (by first | decide | (dsimp only; omega) | omega) (by first | decide | (dsimp only; omega) | omega) ?_
  rintro _ _ ⟨rfl, rfl⟩
  simp only [Option.toList_some, Option.toList_none, List.cons_append, List.nil_append]
  refine W_if_eq_F d45_37 (pc' := 40) rfl (by decide) ?_
  refine W_iconst d45_40 (pc' := 41) (v := 1) rfl (by decide) ?_
  refine W_goto d45_41 (pc' := 45) (by decide) (by decide) ?_
  exact W_ireturn d45_45 rfl (by simp) rfl (by first | decide | (dsimp only; omega) | omega) (by first | decide | (dsimp only; omega) | omega) ⟨rfl, rfl⟩
theorem m_rint {l : Launch} {Z : State} {a0 : Array Value} (K : Ok Z a0) {r d td : Addr} {nv : Value} {L : List Atom} {i0 i3 i4 : Nat} {f0 f3 f4 : Bool} (h0 : L[i0]? = some (f0, r, IsObj Z "com/example/locks_to_budgets/lockstobudgets/exact/Rational" fl_Rational [nv, .ref d])) (h3 : L[i3]? = some (f3, d, IsObj Z "java/math/BigInteger" fl_BigInteger [.int 1, .ref td])) (h4 : L[i4]? = some (f4, td, IsArrX Z "[I" .int [.int 1])) :
    Meth l Z a0 EL (⟨"com/example/locks_to_budgets/lockstobudgets/exact/Rational", "isInteger", "()Z"⟩ : MethodName) prog_21_method_17_code 1 (some .boolean) ({ frames := 1, cells := 0, slots := 0, locals := 18 } : Room) [.ref r] L (fun v L' => v = some (.int 1) ∧ L' = L) := by
  obtain ⟨o, hz, t1, cb, ct, z1, z2, z3, z4⟩ := K.one
  have hs1 : Shp 1 [1] := Or.inr ⟨Or.inl rfl, Or.inl ⟨1, rfl, by decide⟩⟩
  refine MethW.of_wp (Ls := [.val (.ref r)]) (plainFor_of_name pn5) (EWof K) (by first | rfl | (simp [argsToLocals, Value.category]; done)) (fun r => ?_)
  show WP _ _ _ _ _ _ _ _ _ _ _ _ _ _ _ _ _ _
  refine W_aloadN d46_0 (pc' := 1) rfl A0 rfl ?_
  refine W_getfield d46_1 (pc' := 4) rfl (w21 K) Via.refl (by first | assumption | exact A0 | exact A1 | exact A2 | exact A3 | exact A4 | exact A5 | exact A6 | exact A7 | exact A8 | exact A9 | exact A10 | exact A11 | exact Tl1 ‹_› | exact Tl2 ‹_› | exact Tl3 ‹_› | exact Tl4 ‹_› | exact Tl5 ‹_› | exact Tl6 ‹_› | exact Tl7 ‹_› | exact Tl8 ‹_›) A1 A1 ?_
  refine W_getstatic d46_4 (pc' := 7) rfl (w12 K) Via.refl hz ?_
  refine W_old z3 z4 (W_old z1 z2 ?_)
  refine W_virtual d46_7 (pc' := 10) rfl rfl (w216 K) (w217 K) (NF.sel (w219 K)) (w219 K) (w218 K) (w8 K) (w220 K) (by decide) (m_beq K (Tl2 h3) (ws := [1]) (Tl2 h4) hs1 A0 A1) ar25 rfl (by first | assumption | exact A0 | exact A1 | exact A2 | exact A3 | exact A4 | exact A5 | exact A6 | exact A7 | exact A8 | exact A9 | exact A10 | exact A11 | exact Tl1 ‹_› | exact Tl2 ‹_› | exact Tl3 ‹_› | exact Tl4 ‹_› | exact Tl5 ‹_› | exact Tl6 ‹_› | exact Tl7 ‹_› | exact Tl8 ‹_›) (by decide) (Nat.le_of_ble_eq_true rfl) (by first | decide | (dsimp only; omega) | omega) (by first | decide | (dsimp only; omega) | omega) ?_
  rintro _ _ ⟨rfl, rfl⟩
  simp only [Option.toList_some, Option.toList_none, List.cons_append, List.nil_append]
  refine W_drop (W_drop ?_)
  exact W_ireturn d46_10 rfl (by simp) rfl (by first | decide | (dsimp only; omega) | omega) (by first | decide | (dsimp only; omega) | omega) ⟨rfl, rfl⟩
theorem m_rsg {l : Launch} {Z : State} {a0 : Array Value} (K : Ok Z a0) {r n : Addr} {dv tv : Value} {sg : Int32} {L : List Atom} {i0 i1 : Nat} {f0 f1 : Bool} (h0 : L[i0]? = some (f0, r, IsObj Z "com/example/locks_to_budgets/lockstobudgets/exact/Rational" fl_Rational [.ref n, dv])) (h1 : L[i1]? = some (f1, n, IsObj Z "java/math/BigInteger" fl_BigInteger [.int sg, tv])) :
    Meth l Z a0 EL (⟨"com/example/locks_to_budgets/lockstobudgets/exact/Rational", "signum", "()I"⟩ : MethodName) prog_21_method_16_code 1 (some .int) ({ frames := 1, cells := 0, slots := 0, locals := 12 } : Room) [.ref r] L (fun v L' => v = some (.int sg) ∧ L' = L) := by
  refine MethW.of_wp (Ls := [.val (.ref r)]) (plainFor_of_name pn5) (EWof K) (by first | rfl | (simp [argsToLocals, Value.category]; done)) (fun r => ?_)
  show WP _ _ _ _ _ _ _ _ _ _ _ _ _ _ _ _ _ _
  refine W_aloadN d47_0 (pc' := 1) rfl A0 rfl ?_
  refine W_getfield d47_1 (pc' := 4) rfl (w19 K) Via.refl (by first | assumption | exact A0 | exact A1 | exact A2 | exact A3 | exact A4 | exact A5 | exact A6 | exact A7 | exact A8 | exact A9 | exact A10 | exact A11 | exact Tl1 ‹_› | exact Tl2 ‹_› | exact Tl3 ‹_› | exact Tl4 ‹_› | exact Tl5 ‹_› | exact Tl6 ‹_› | exact Tl7 ‹_› | exact Tl8 ‹_›) A0 A0 ?_
  refine W_virtual d47_4 (pc' := 7) rfl rfl (w42 K) (w43 K) (NF.sel (w45 K)) (w45 K) (w44 K) (w8 K) (w46 K) (by decide) (m_bsg K h1) ar5 rfl (by first | assumption | exact A0 | exact A1 | exact A2 | exact A3 | exact A4 | exact A5 | exact A6 | exact A7 | exact A8 | exact A9 | exact A10 | exact A11 | exact Tl1 ‹_› | exact Tl2 ‹_› | exact Tl3 ‹_› | exact Tl4 ‹_› | exact Tl5 ‹_› | exact Tl6 ‹_› | exact Tl7 ‹_› | exact Tl8 ‹_›) (by decide) (Nat.le_of_ble_eq_true rfl) (by first | decide | (dsimp only; omega) | omega) (by first | decide | (dsimp only; omega) | omega) ?_
  rintro _ _ ⟨rfl, rfl⟩
  simp only [Option.toList_some, Option.toList_none, List.cons_append, List.nil_append]
  exact W_ireturn d47_7 rfl (by simp) rfl (by first | decide | (dsimp only; omega) | omega) (by first | decide | (dsimp only; omega) | omega) ⟨rfl, rfl⟩
theorem m_rcmp {l : Launch} {Z : State} {a0 : Array Value} (K : Ok Z a0) {r n d r' n' d' tn td tn' td' : Addr} {x y : Int} {L : List Atom} {i0 i1 i2 i3 i4 j0 j1 j2 j3 j4 : Nat} {f0 f1 f2 f3 f4 g0 g1 g2 g3 g4 : Bool} (hx : x.natAbs < 18446744073709551616) (hy : y.natAbs < 18446744073709551616)
    (h0 : L[i0]? = some (f0, r, IsObj Z "com/example/locks_to_budgets/lockstobudgets/exact/Rational" fl_Rational [.ref n, .ref d])) (h1 : L[i1]? = some (f1, n, IsObj Z "java/math/BigInteger" fl_BigInteger [.int (sgn x), .ref tn])) (h2 : L[i2]? = some (f2, tn, IsArrX Z "[I" .int ((wds x.natAbs).map Value.int))) (h3 : L[i3]? = some (f3, d, IsObj Z "java/math/BigInteger" fl_BigInteger [.int 1, .ref td])) (h4 : L[i4]? = some (f4, td, IsArrX Z "[I" .int [.int 1]))
    (k0 : L[j0]? = some (g0, r', IsObj Z "com/example/locks_to_budgets/lockstobudgets/exact/Rational" fl_Rational [.ref n', .ref d'])) (k1 : L[j1]? = some (g1, n', IsObj Z "java/math/BigInteger" fl_BigInteger [.int (sgn y), .ref tn'])) (k2 : L[j2]? = some (g2, tn', IsArrX Z "[I" .int ((wds y.natAbs).map Value.int))) (k3 : L[j3]? = some (g3, d', IsObj Z "java/math/BigInteger" fl_BigInteger [.int 1, .ref td'])) (k4 : L[j4]? = some (g4, td', IsArrX Z "[I" .int [.int 1])) :
    Meth l Z a0 EL (⟨"com/example/locks_to_budgets/lockstobudgets/exact/Rational", "compareTo", "(Lcom/example/locks_to_budgets/lockstobudgets/exact/Rational;)I"⟩ : MethodName) prog_21_method_25_code 2 (some .int) ({ frames := 6, cells := 4, slots := 16, locals := 99 } : Room) [.ref r, .ref r'] L (fun v L' => v = some (.int (cmpI x y)) ∧ L' = L) := by
  refine MethW.of_wp (Ls := [.val (.ref r), .val (.ref r')]) (plainFor_of_name pn5) (EWof K) (by first | rfl | (simp [argsToLocals, Value.category]; done)) (fun r => ?_)
  show WP _ _ _ _ _ _ _ _ _ _ _ _ _ _ _ _ _ _
  refine W_aloadN d48_0 (pc' := 1) rfl A0 rfl ?_
  refine W_getfield d48_1 (pc' := 4) rfl (w19 K) Via.refl (by first | assumption | exact A0 | exact A1 | exact A2 | exact A3 | exact A4 | exact A5 | exact A6 | exact A7 | exact A8 | exact A9 | exact A10 | exact A11 | exact Tl1 ‹_› | exact Tl2 ‹_› | exact Tl3 ‹_› | exact Tl4 ‹_› | exact Tl5 ‹_› | exact Tl6 ‹_› | exact Tl7 ‹_› | exact Tl8 ‹_›) A0 A0 ?_
  refine W_aloadN d48_4 (pc' := 5) rfl A1 rfl ?_
  refine W_getfield d48_5 (pc' := 8) rfl (w21 K) Via.refl (by first | assumption | exact A0 | exact A1 | exact A2 | exact A3 | exact A4 | exact A5 | exact A6 | exact A7 | exact A8 | exact A9 | exact A10 | exact A11 | exact Tl1 ‹_› | exact Tl2 ‹_› | exact Tl3 ‹_› | exact Tl4 ‹_› | exact Tl5 ‹_› | exact Tl6 ‹_› | exact Tl7 ‹_› | exact Tl8 ‹_›) A1 A1 ?_
  refine W_virtual d48_8 (pc' := 11) rfl rfl (w181 K) (w182 K) (NF.sel (w184 K)) (w184 K) (w183 K) (w8 K) (w185 K) (by decide) (m_mul K h1 h2 (shp_of hx) k3 k4) ar16 rfl (by first | assumption | exact A0 | exact A1 | exact A2 | exact A3 | exact A4 | exact A5 | exact A6 | exact A7 | exact A8 | exact A9 | exact A10 | exact A11 | exact Tl1 ‹_› | exact Tl2 ‹_› | exact Tl3 ‹_› | exact Tl4 ‹_› | exact Tl5 ‹_› | exact Tl6 ‹_› | exact Tl7 ‹_› | exact Tl8 ‹_›) (by decide) (Nat.le_of_ble_eq_true rfl) (by first | decide | (dsimp only; omega) | omega) (by first | decide | (dsimp only; omega) | omega) ?_
  rintro _ _ ⟨p, tp, rfl, rfl⟩
  simp only [Option.toList_some, Option.toList_none, List.cons_append, List.nil_append]
  refine W_aloadN d48_11 (pc' := 12) rfl A1 rfl ?_
  refine W_getfield d48_12 (pc' := 15) rfl (w19 K) Via.refl (by first | assumption | exact A0 | exact A1 | exact A2 | exact A3 | exact A4 | exact A5 | exact A6 | exact A7 | exact A8 | exact A9 | exact A10 | exact A11 | exact Tl1 ‹_› | exact Tl2 ‹_› | exact Tl3 ‹_› | exact Tl4 ‹_› | exact Tl5 ‹_› | exact Tl6 ‹_› | exact Tl7 ‹_› | exact Tl8 ‹_›) A0 A0 ?_
  refine W_aloadN d48_15 (pc' := 16) rfl A0 rfl ?_
  refine W_getfield d48_16 (pc' := 19) rfl (w21 K) Via.refl (by first | assumption | exact A0 | exact A1 | exact A2 | exact A3 | exact A4 | exact A5 | exact A6 | exact A7 | exact A8 | exact A9 | exact A10 | exact A11 | exact Tl1 ‹_› | exact Tl2 ‹_› | exact Tl3 ‹_› | exact Tl4 ‹_› | exact Tl5 ‹_› | exact Tl6 ‹_› | exact Tl7 ‹_› | exact Tl8 ‹_›) A1 A1 ?_
  refine W_virtual d48_19 (pc' := 22) rfl rfl (w181 K) (w182 K) (NF.sel (w184 K)) (w184 K) (w183 K) (w8 K) (w185 K) (by decide) (m_mul K (Tl2 k1) (Tl2 k2) (shp_of hy) (Tl2 h3) (Tl2 h4)) ar16 rfl (by first | assumption | exact A0 | exact A1 | exact A2 | exact A3 | exact A4 | exact A5 | exact A6 | exact A7 | exact A8 | exact A9 | exact A10 | exact A11 | exact Tl1 ‹_› | exact Tl2 ‹_› | exact Tl3 ‹_› | exact Tl4 ‹_› | exact Tl5 ‹_› | exact Tl6 ‹_› | exact Tl7 ‹_› | exact Tl8 ‹_›) (by decide) (Nat.le_of_ble_eq_true rfl) (by first | decide | (dsimp only; omega) | omega) (by first | decide | (dsimp only; omega) | omega) ?_
  rintro _ _ ⟨q, tq, rfl, rfl⟩
  simp only [Option.toList_some, Option.toList_none, List.cons_append, List.nil_append]
  refine W_virtual d48_22 (pc' := 25) rfl rfl (w236 K) (w237 K) (NF.sel (w239 K)) (w239 K) (w238 K) (w8 K) (w240 K) (by decide) (m_cto K hx hy A2 A3 A0 A1) ar19 rfl (by first | assumption | exact A0 | exact A1 | exact A2 | exact A3 | exact A4 | exact A5 | exact A6 | exact A7 | exact A8 | exact A9 | exact A10 | exact A11 | exact Tl1 ‹_› | exact Tl2 ‹_› | exact Tl3 ‹_› | exact Tl4 ‹_› | exact Tl5 ‹_› | exact Tl6 ‹_› | exact Tl7 ‹_› | exact Tl8 ‹_›) (by decide) (Nat.le_of_ble_eq_true rfl) (by first | decide | (dsimp only; omega) | omega) (by first | decide | (dsimp only; omega) | omega) ?_
  rintro _ _ ⟨rfl, rfl⟩
  simp only [Option.toList_some, Option.toList_none, List.cons_append, List.nil_append]
  refine W_drop (W_drop (W_drop (W_drop ?_)))
  exact W_ireturn d48_25 rfl (by simp) rfl (by first | decide | (dsimp only; omega) | omega) (by first | decide | (dsimp only; omega) | omega) ⟨rfl, rfl⟩
theorem m_law {l : Launch} {Z : State} {a0 : Array Value} (K : Ok Z a0) {xa ya : Int64} : MethW l Z a0 EL x code maxLocals ret tables_1 room_1 [.long xa, .long ya] [] (fun v L' => v = some (.int 1)) := by
  have hx := abs_lt xa; have hy := abs_lt ya
  refine MethW.of_wp (Ls := [.val (.long xa), .second, .val (.long ya), .second, .unset, .unset, .unset, .unset, .unset, .unset, .unset, .unset, .unset]) (plainFor_of_name pn7) (EWof K) (by first | rfl | (simp [argsToLocals, Value.category]; done)) (fun r => ?_)
  show WP _ _ _ _ _ _ _ _ _ _ _ _ _ _ _ _ _ _
  refine W_lloadN at_0 (pc' := 1) rfl A0 ?_
  refine W_static at_1 (pc' := 4) rfl rfl (w0 K) (w1 K) (w2 K) (w3 K) (by decide) (m_ofJ K) ar26 rfl (by decide) (Nat.le_of_ble_eq_true rfl) (by first | decide | (dsimp only; omega) | omega) (by first | decide | (dsimp only; omega) | omega) ?_
  rintro _ _ ⟨r1, n1, tn1, d1, td1, rfl, rfl⟩
  simp only [Option.toList_some, Option.toList_none, List.cons_append, List.nil_append]
  refine W_astore at_4 (pc' := 6) rfl A4 rfl rfl S4 ?_
  refine W_lloadN at_6 (pc' := 7) rfl A2 ?_
  refine W_static at_7 (pc' := 10) rfl rfl (w0 K) (w1 K) (w2 K) (w3 K) (by decide) (m_ofJ K) ar26 rfl (by decide) (Nat.le_of_ble_eq_true rfl) (by first | decide | (dsimp only; omega) | omega) (by first | decide | (dsimp only; omega) | omega) ?_
  rintro _ _ ⟨r2, n2, tn2, d2, td2, rfl, rfl⟩
  simp only [Option.toList_some, Option.toList_none, List.cons_append, List.nil_append]
  refine W_astore at_10 (pc' := 12) rfl A5 rfl rfl S5 ?_
  refine W_lloadN at_12 (pc' := 13) rfl A0 ?_
  refine W_lconst at_13 (pc' := 14) (v := 1) rfl (by decide) ?_
  refine W_static at_14 (pc' := 17) rfl rfl (w23 K) (w24 K) (w2 K) (w25 K) (by decide) (m_ofJJ K) ar27 rfl (by decide) (Nat.le_of_ble_eq_true rfl) (by first | decide | (dsimp only; omega) | omega) (by first | decide | (dsimp only; omega) | omega) ?_
  rintro _ _ ⟨r3, n3, tn3, d3, td3, rfl, rfl⟩
  simp only [Option.toList_some, Option.toList_none, List.cons_append, List.nil_append]
  refine W_astore at_17 (pc' := 19) rfl A6 rfl rfl S6 ?_
  refine W_aload at_19 (pc' := 21) rfl A4 rfl ?_
  refine W_aload at_21 (pc' := 23) rfl A6 rfl ?_
  refine W_virtual at_23 (pc' := 26) rfl rfl (w210 K) (w211 K) (NF.sel (w213 K)) (w213 K) (w212 K) (w2 K) (w214 K) (by decide) (m_req K hx A10 A11 A12 A13 A14 A0 A1 A2 A3 A4) ar25 rfl (by first | assumption | exact A0 | exact A1 | exact A2 | exact A3 | exact A4 | exact A5 | exact A6 | exact A7 | exact A8 | exact A9 | exact A10 | exact A11 | exact A12 | exact A13 | exact A14 | exact A15 | exact Tl1 ‹_› | exact Tl2 ‹_› | exact Tl3 ‹_› | exact Tl4 ‹_› | exact Tl5 ‹_› | exact Tl6 ‹_› | exact Tl7 ‹_› | exact Tl8 ‹_›) (by decide) (Nat.le_of_ble_eq_true rfl) (by first | decide | (dsimp only; omega) | omega) (by first | decide | (dsimp only; omega) | omega) ?_
  rintro _ _ ⟨rfl, rfl⟩
  simp only [Option.toList_some, Option.toList_none, List.cons_append, List.nil_append]
  refine W_istore at_26 (pc' := 28) rfl A7 rfl S7 ?_
  refine W_aload at_28 (pc' := 30) rfl A4 rfl ?_
  refine W_virtual at_30 (pc' := 33) rfl rfl (w221 K) (w222 K) (NF.sel (w224 K)) (w224 K) (w223 K) (w2 K) (w225 K) (by decide) (m_rint K A10 A13 A14) ar28 rfl (by first | assumption | exact A0 | exact A1 | exact A2 | exact A3 | exact A4 | exact A5 | exact A6 | exact A7 | exact A8 | exact A9 | exact A10 | exact A11 | exact A12 | exact A13 | exact A14 | exact A15 | exact Tl1 ‹_› | exact Tl2 ‹_› | exact Tl3 ‹_› | exact Tl4 ‹_› | exact Tl5 ‹_› | exact Tl6 ‹_› | exact Tl7 ‹_› | exact Tl8 ‹_›) (by decide) (Nat.le_of_ble_eq_true rfl) (by first | decide | (dsimp only; omega) | omega) (by first | decide | (dsimp only; omega) | omega) ?_
  rintro _ _ ⟨rfl, rfl⟩
  simp only [Option.toList_some, Option.toList_none, List.cons_append, List.nil_append]
  refine W_istore at_33 (pc' := 35) rfl A8 rfl S8 ?_
  refine W_lloadN at_35 (pc' := 36) rfl A0 ?_
  refine W_lconst at_36 (pc' := 37) (v := 0) rfl (by decide) ?_
  refine W_lcmp at_37 (pc' := 38) rfl ?_
  have h58 : ∀ s9 : Int32, s9 = sgn xa.toInt → WP l room_1 Z a0 EL x.cls x.name code maxLocals ret (fun v L' => v = some (.int 1)) r 45 226 ((false, r3, IsObj Z "com/example/locks_to_budgets/lockstobudgets/exact/Rational" fl_Rational [.ref n3, .ref d3]) :: (false, n3, IsObj Z "java/math/BigInteger" fl_BigInteger [.int (sgn xa.toInt), .ref tn3]) :: (false, tn3, IsArrX Z "[I" .int ((wds xa.toInt.natAbs).map Value.int)) :: (false, d3, IsObj Z "java/math/BigInteger" fl_BigInteger [.int 1, .ref td3]) :: (false, td3, IsArrX Z "[I" .int [.int 1]) :: ((false, r2, IsObj Z "com/example/locks_to_budgets/lockstobudgets/exact/Rational" fl_Rational [.ref n2, .ref d2]) :: (false, n2, IsObj Z "java/math/BigInteger" fl_BigInteger [.int (sgn ya.toInt), .ref tn2]) :: (false, tn2, IsArrX Z "[I" .int ((wds ya.toInt.natAbs).map Value.int)) :: (false, d2, IsObj Z "java/math/BigInteger" fl_BigInteger [.int 1, .ref td2]) :: (false, td2, IsArrX Z "[I" .int [.int 1]) :: ((false, r1, IsObj Z "com/example/locks_to_budgets/lockstobudgets/exact/Rational" fl_Rational [.ref n1, .ref d1]) :: (false, n1, IsObj Z "java/math/BigInteger" fl_BigInteger [.int (sgn xa.toInt), .ref tn1]) :: (false, tn1, IsArrX Z "[I" .int ((wds xa.toInt.natAbs).map Value.int)) :: (false, d1, IsObj Z "java/math/BigInteger" fl_BigInteger [.int 1, .ref td1]) :: (false, td1, IsArrX Z "[I" .int [.int 1]) :: []))) 58 [.val (.long xa), .second, .val (.long ya), .second, .val (.ref r1), .val (.ref r2), .val (.ref r3), .val (.int 1), .val (.int 1), .val (.int s9), .unset, .unset, .unset] [] := by
    intro s9 h9
    refine W_aload at_58 (pc' := 60) rfl A4 rfl ?_
    refine W_virtual at_60 (pc' := 63) rfl rfl (w226 K) (w227 K) (NF.sel (w229 K)) (w229 K) (w228 K) (w2 K) (w230 K) (by decide) (m_rsg K A10 A11) ar5 rfl (by first | assumption | exact A0 | exact A1 | exact A2 | exact A3 | exact A4 | exact A5 | exact A6 | exact A7 | exact A8 | exact A9 | exact A10 | exact A11 | exact A12 | exact A13 | exact A14 | exact A15 | exact Tl1 ‹_› | exact Tl2 ‹_› | exact Tl3 ‹_› | exact Tl4 ‹_› | exact Tl5 ‹_› | exact Tl6 ‹_› | exact Tl7 ‹_› | exact Tl8 ‹_›) (by decide) (Nat.le_of_ble_eq_true rfl) (by first | decide | (dsimp only; omega) | omega) (by first | decide | (dsimp only; omega) | omega) ?_
    rintro _ _ ⟨rfl, rfl⟩
    simp only [Option.toList_some, Option.toList_none, List.cons_append, List.nil_append]
    refine W_iload at_63 (pc' := 65) rfl A9 ?_
    refine W_icmp_ne_F at_65 (pc' := 68) rfl h9.symm ?_
    refine W_iconst at_68 (pc' := 69) (v := 1) rfl (by decide) ?_
    refine W_goto at_69 (pc' := 73) (by decide) (by decide) ?_
    refine W_istore at_73 (pc' := 75) rfl A10 rfl S10 ?_
    refine W_lloadN at_75 (pc' := 76) rfl A0 ?_
    refine W_lloadN at_76 (pc' := 77) rfl A2 ?_
    refine W_lcmp at_77 (pc' := 78) rfl ?_
    have h98 : ∀ s11 : Int32, s11 = cmpI xa.toInt ya.toInt → WP l room_1 Z a0 EL x.cls x.name code maxLocals ret (fun v L' => v = some (.int 1)) r 45 226 ((false, r3, IsObj Z "com/example/locks_to_budgets/lockstobudgets/exact/Rational" fl_Rational [.ref n3, .ref d3]) :: (false, n3, IsObj Z "java/math/BigInteger" fl_BigInteger [.int (sgn xa.toInt), .ref tn3]) :: (false, tn3, IsArrX Z "[I" .int ((wds xa.toInt.natAbs).map Value.int)) :: (false, d3, IsObj Z "java/math/BigInteger" fl_BigInteger [.int 1, .ref td3]) :: (false, td3, IsArrX Z "[I" .int [.int 1]) :: ((false, r2, IsObj Z "com/example/locks_to_budgets/lockstobudgets/exact/Rational" fl_Rational [.ref n2, .ref d2]) :: (false, n2, IsObj Z "java/math/BigInteger" fl_BigInteger [.int (sgn ya.toInt), .ref tn2]) :: (false, tn2, IsArrX Z "[I" .int ((wds ya.toInt.natAbs).map Value.int)) :: (false, d2, IsObj Z "java/math/BigInteger" fl_BigInteger [.int 1, .ref td2]) :: (false, td2, IsArrX Z "[I" .int [.int 1]) :: ((false, r1, IsObj Z "com/example/locks_to_budgets/lockstobudgets/exact/Rational" fl_Rational [.ref n1, .ref d1]) :: (false, n1, IsObj Z "java/math/BigInteger" fl_BigInteger [.int (sgn xa.toInt), .ref tn1]) :: (false, tn1, IsArrX Z "[I" .int ((wds xa.toInt.natAbs).map Value.int)) :: (false, d1, IsObj Z "java/math/BigInteger" fl_BigInteger [.int 1, .ref td1]) :: (false, td1, IsArrX Z "[I" .int [.int 1]) :: []))) 98 [.val (.long xa), .second, .val (.long ya), .second, .val (.ref r1), .val (.ref r2), .val (.ref r3), .val (.int 1), .val (.int 1), .val (.int s9), .val (.int 1), .val (.int s11), .unset] [] := by
      intro s11 h11
      refine W_aload at_98 (pc' := 100) rfl A4 rfl ?_
      refine W_aload at_100 (pc' := 102) rfl A5 rfl ?_
      refine W_virtual at_102 (pc' := 105) rfl rfl (w231 K) (w232 K) (NF.sel (w234 K)) (w234 K) (w233 K) (w2 K) (w235 K) (by decide) (m_rcmp K hx hy A10 A11 A12 A13 A14 A5 A6 A7 A8 A9) ar29 rfl (by first | assumption | exact A0 | exact A1 | exact A2 | exact A3 | exact A4 | exact A5 | exact A6 | exact A7 | exact A8 | exact A9 | exact A10 | exact A11 | exact A12 | exact A13 | exact A14 | exact A15 | exact Tl1 ‹_› | exact Tl2 ‹_› | exact Tl3 ‹_› | exact Tl4 ‹_› | exact Tl5 ‹_› | exact Tl6 ‹_› | exact Tl7 ‹_› | exact Tl8 ‹_›) (by decide) (Nat.le_of_ble_eq_true rfl) (by first | decide | (dsimp only; omega) | omega) (by first | decide | (dsimp only; omega) | omega) ?_
      rintro _ _ ⟨rfl, rfl⟩
      simp only [Option.toList_some, Option.toList_none, List.cons_append, List.nil_append]
      refine W_istore at_105 (pc' := 107) rfl A12 rfl S12 ?_
      refine W_iload at_107 (pc' := 109) rfl A7 ?_
      refine W_if_eq_F at_109 (pc' := 112) rfl (by decide) ?_
      refine W_iload at_112 (pc' := 114) rfl A8 ?_
      refine W_if_eq_F at_114 (pc' := 117) rfl (by decide) ?_
      refine W_iload at_117 (pc' := 119) rfl A10 ?_
      refine W_if_eq_F at_119 (pc' := 122) rfl (by decide) ?_
      refine W_iload at_122 (pc' := 124) rfl A12 ?_
      refine W_iload at_124 (pc' := 126) rfl A11 ?_
      refine W_icmp_ne_F at_126 (pc' := 129) rfl h11.symm ?_
      refine W_iconst at_129 (pc' := 130) (v := 1) rfl (by decide) ?_
      refine W_goto at_130 (pc' := 134) (by decide) (by decide) ?_
      exact W_ireturn at_134 rfl (by simp) rfl (by first | decide | (dsimp only; omega) | omega) (by first | decide | (dsimp only; omega) | omega) rfl
    rcases Int.lt_trichotomy xa.toInt ya.toInt with q | q | q
    · refine W_if_ge_F at_78 (pc' := 81) rfl (by rw [cmp_lt0 q]; decide) ?_
      refine W_iconst at_81 (pc' := 82) (v := (-1)) rfl (by decide) ?_
      refine W_goto at_82 (pc' := 96) (by decide) (by decide) ?_
      refine W_istore at_96 (pc' := 98) rfl A11 rfl S11 ?_
      exact h98 _ (cmpI_lt q).symm
    · refine W_if_ge_T at_78 (pc' := 85) (by decide) (by decide) (by rw [cmp_eq0 q]; decide) ?_
      refine W_lloadN at_85 (pc' := 86) rfl A0 ?_
      refine W_lloadN at_86 (pc' := 87) rfl A2 ?_
      refine W_lcmp at_87 (pc' := 88) rfl ?_
      refine W_if_ne_F at_88 (pc' := 91) rfl (by rw [cmp_eq0 q]) ?_
      refine W_iconst at_91 (pc' := 92) (v := 0) rfl (by decide) ?_
      refine W_goto at_92 (pc' := 96) (by decide) (by decide) ?_
      refine W_istore at_96 (pc' := 98) rfl A11 rfl S11 ?_
      exact h98 _ (cmpI_eq q).symm
    · refine W_if_ge_T at_78 (pc' := 85) (by decide) (by decide) (by rw [cmp_gt0 q]; decide) ?_
      refine W_lloadN at_85 (pc' := 86) rfl A0 ?_
      refine W_lloadN at_86 (pc' := 87) rfl A2 ?_
      refine W_lcmp at_87 (pc' := 88) rfl ?_
      refine W_if_ne_T at_88 (pc' := 95) (by decide) (by decide) (by rw [cmp_gt0 q]; decide) ?_
      refine W_iconst at_95 (pc' := 96) (v := 1) rfl (by decide) ?_
      refine W_istore at_96 (pc' := 98) rfl A11 rfl S11 ?_
      exact h98 _ (cmpI_gt q).symm
  rcases Int.lt_trichotomy xa.toInt 0 with q | q | q
  · refine W_if_ge_F at_38 (pc' := 41) rfl (by rw [cmp_lt0 (by rw [tL0]; exact q)]; decide) ?_
    refine W_iconst at_41 (pc' := 42) (v := (-1)) rfl (by decide) ?_
    refine W_goto at_42 (pc' := 56) (by decide) (by decide) ?_
    refine W_istore at_56 (pc' := 58) rfl A9 rfl S9 ?_
    exact h58 _ (sgn_neg q).symm
  · refine W_if_ge_T at_38 (pc' := 45) (by decide) (by decide) (by rw [cmp_eq0 (by rw [tL0]; exact q)]; decide) ?_
    refine W_lloadN at_45 (pc' := 46) rfl A0 ?_
    refine W_lconst at_46 (pc' := 47) (v := 0) rfl (by decide) ?_
    refine W_lcmp at_47 (pc' := 48) rfl ?_
    refine W_if_ne_F at_48 (pc' := 51) rfl (by rw [cmp_eq0 (by rw [tL0]; exact q)]) ?_
    refine W_iconst at_51 (pc' := 52) (v := 0) rfl (by decide) ?_
    refine W_goto at_52 (pc' := 56) (by decide) (by decide) ?_
    refine W_istore at_56 (pc' := 58) rfl A9 rfl S9 ?_
    exact h58 _ (by rw [q]; rfl)
  · refine W_if_ge_T at_38 (pc' := 45) (by decide) (by decide) (by rw [cmp_gt0 (by rw [tL0]; exact q)]; decide) ?_
    refine W_lloadN at_45 (pc' := 46) rfl A0 ?_
    refine W_lconst at_46 (pc' := 47) (v := 0) rfl (by decide) ?_
    refine W_lcmp at_47 (pc' := 48) rfl ?_
    refine W_if_ne_T at_48 (pc' := 55) (by decide) (by decide) (by rw [cmp_gt0 (by rw [tL0]; exact q)]; decide) ?_
    refine W_iconst at_55 (pc' := 56) (v := 1) rfl (by decide) ?_
    refine W_istore at_56 (pc' := 58) rfl A9 rfl S9 ?_
    exact h58 _ (sgn_pos q).symm
section OkStart
variable {s : State} {args : Array Value}
theorem big_start {T : Term} {b : Addr} {sg x : Int32} (ev : T.eval args s none [] s = some (.ref b)) (h1 : (Jvm.Cond.exactly T "java/math/BigInteger").value args s none s [] = some true) (h2 : (Jvm.Cond.eq (.field T "java/math/BigInteger" "signum" "I") (.int sg)).value args s none s [] = some true) (h3 : (Jvm.Cond.arrayOf (.field T "java/math/BigInteger" "mag" "[I") .int).value args s none s [] = some true) (h4 : (Jvm.Cond.exactly (.field T "java/math/BigInteger" "mag" "[I") "[I").value args s none s [] = some true) (h5 : (Jvm.Cond.eq (.length (.field T "java/math/BigInteger" "mag" "[I")) (.int 1)).value args s none s [] = some true) (h6 : (Jvm.Cond.eq (.elem (.field T "java/math/BigInteger" "mag" "[I") (.int 0)) (.int x)).value args s none s [] = some true) : bigAt s b sg [x] := by
  obtain ⟨t, et⟩ := arr_v h3
  obtain ⟨cb, q1, q2⟩ := start_obj (C := "java/math/BigInteger") (fs := bigF) (vs := [.int sg, .ref t]) ev h1 rfl (fun i f v hi hv => by match i, hi, hv with | 0, hi, hv => (cases Option.some.inj hi; cases Option.some.inj hv; exact eqv_i (Term.int_eval _) h2) | 1, hi, hv => (cases Option.some.inj hi; cases Option.some.inj hv; exact et))
  obtain ⟨ct, q3, q4⟩ := start_arr (vs := [.int x]) et h3 (eqv_i (Term.int_eval _) h5) (Ix.lit rfl) (fun i v hv => by match i, hv with | 0, hv => (cases Option.some.inj hv; exact eqv_i (Term.int_eval _) h6)) (by intro v hv; simp only [List.mem_cons, List.not_mem_nil, or_false] at hv; subst hv; rfl)
  exact ⟨t, cb, ct, q1, q2, q3, q4, ExaC.of (Jvm.RoadKit.exa_at et h4) q3⟩
theorem big_start0 {T : Term} {b : Addr} {sg : Int32} (ev : T.eval args s none [] s = some (.ref b)) (h1 : (Jvm.Cond.exactly T "java/math/BigInteger").value args s none s [] = some true) (h2 : (Jvm.Cond.eq (.field T "java/math/BigInteger" "signum" "I") (.int sg)).value args s none s [] = some true) (h3 : (Jvm.Cond.arrayOf (.field T "java/math/BigInteger" "mag" "[I") .int).value args s none s [] = some true) (h4 : (Jvm.Cond.exactly (.field T "java/math/BigInteger" "mag" "[I") "[I").value args s none s [] = some true) (h5 : (Jvm.Cond.eq (.length (.field T "java/math/BigInteger" "mag" "[I")) (.int 0)).value args s none s [] = some true) : bigAt s b sg [] := by
  obtain ⟨t, et⟩ := arr_v h3
  obtain ⟨cb, q1, q2⟩ := start_obj (C := "java/math/BigInteger") (fs := bigF) (vs := [.int sg, .ref t]) ev h1 rfl (fun i f v hi hv => by match i, hi, hv with | 0, hi, hv => (cases Option.some.inj hi; cases Option.some.inj hv; exact eqv_i (Term.int_eval _) h2) | 1, hi, hv => (cases Option.some.inj hi; cases Option.some.inj hv; exact et))
  obtain ⟨ct, q3, q4⟩ := start_arr (vs := []) et h3 (eqv_i (Term.int_eval _) h5) (Ix.lit rfl) (fun i v hv => by cases hv) (fun v hv => absurd hv List.not_mem_nil)
  exact ⟨t, cb, ct, q1, q2, q3, q4, ExaC.of (Jvm.RoadKit.exa_at et h4) q3⟩
abbrev tabT (n : String) : Term := .static "java/math/BigInteger" n "[Ljava/math/BigInteger;"
def elOk (s : State) (args : Array Value) (n : String) (sg : Int32) (i : Nat) : Prop := ∃ b, (Term.elem (tabT n) (.int (Int32.ofNat i))).eval args s none [] s = some (.ref b) ∧ bigAt s b sg [Int32.ofNat i]
theorem el_start {n : String} {i : Nat} {sg : Int32} (h1 : (Jvm.Cond.exactly (.elem (tabT n) (.int (Int32.ofNat i))) "java/math/BigInteger").value args s none s [] = some true) (h2 : (Jvm.Cond.eq (.field (.elem (tabT n) (.int (Int32.ofNat i))) "java/math/BigInteger" "signum" "I") (.int sg)).value args s none s [] = some true) (h3 : (Jvm.Cond.arrayOf (.field (.elem (tabT n) (.int (Int32.ofNat i))) "java/math/BigInteger" "mag" "[I") .int).value args s none s [] = some true) (h4 : (Jvm.Cond.exactly (.field (.elem (tabT n) (.int (Int32.ofNat i))) "java/math/BigInteger" "mag" "[I") "[I").value args s none s [] = some true) (h5 : (Jvm.Cond.eq (.length (.field (.elem (tabT n) (.int (Int32.ofNat i))) "java/math/BigInteger" "mag" "[I")) (.int 1)).value args s none s [] = some true) (h6 : (Jvm.Cond.eq (.elem (.field (.elem (tabT n) (.int (Int32.ofNat i))) "java/math/BigInteger" "mag" "[I") (.int 0)) (.int (Int32.ofNat i))).value args s none s [] = some true) : elOk s args n sg i := by
  obtain ⟨b, ev⟩ := exa_v h1
  exact ⟨b, ev, big_start ev h1 h2 h3 h4 h5 h6⟩
theorem tab_start {n : String} {sg : Int32} (hfit : Fit s) (hi : (Jvm.Cond.initializedFor "java/math/BigInteger" n "[Ljava/math/BigInteger;").before args s = true) (h1 : (Jvm.Cond.arrayOf (tabT n) (.object "java/math/BigInteger")).value args s none s [] = some true) (h2 : (Jvm.Cond.exactly (tabT n) "[Ljava/math/BigInteger;").value args s none s [] = some true) (h3 : (Jvm.Cond.eq (.length (tabT n)) (.int 17)).value args s none s [] = some true) (he : ∀ i, 1 ≤ i → i ≤ 16 → elOk s args n sg i) : tabAt s n sg := by
  obtain ⟨p, ev⟩ := arr_v h1
  obtain ⟨c, A⟩ := Arr.start ev h1
  have hb := start_len ev A (eqv_i (Term.int_eval _) h3)
  refine ⟨p, c, c.slots.toList, Sta.start ev (Or.inl hi), A.1, ⟨⟨A.2.1, A.2.2, rfl, by simpa using hb, ?_⟩, ExaC.of (Jvm.RoadKit.exa_at ev h2) A.1⟩, ?_⟩
  · intro v hv
    obtain ⟨i, hi⟩ := List.mem_iff_getElem?.mp hv
    have hl := (List.getElem?_eq_some_iff.mp hi).1
    have ix := Ix.of (show i < 2147483648 by simp at hl; omega)
    exact elem_fits hfit A (j := Int32.ofNat i) (ix.in (by simpa using hl)) (by rw [ix.nat]; simpa using hi)
  · intro i i1 i2
    obtain ⟨b, e, hb⟩ := he i i1 i2
    refine ⟨b, ?_, hb⟩
    have := (elem_in e ev (Term.int_eval _) A.1).2
    rw [(Ix.of (show i < 2147483648 by omega)).nat] at this
    simpa using this
end OkStart
set_option maxRecDepth 65536 in
theorem comes_1 {Post : Tables → Env → Array Value → State → Outcome → State → Prop} (hpost : ∀ tb e args s v u, (limb_1_1.after args s (.returned v) u = true ∧ limb_1_2.after args s (.returned v) u = true ∧ True) → ReturnedEndW s (.returned v) u (Jvm.fieldLocs frame_1_writes args s ++ Jvm.arrayLocs frame_1_arrays args s ++ Jvm.staticLocs frame_1_statics s) 88 2368 → Post tb e args s (.returned v) u) :
    ArmFor flags0 classFile x code maxLocals ret World_1 tables_1 room_1 Calls_1 rest_1 Pre_1 Post := by
  intro l hfl _ _ p e ha hc hk s m args below hf hA hF happ hP
  obtain ⟨hcalls, hrest, hpre⟩ := hP
  obtain ⟨-, -, -, hnamed, -, -, -, hat⟩ := (Spec.applies_iff hf).mp happ
  obtain ⟨hg, hn⟩ := and_e (Cond.before_iff.mp (show (Jvm.Cond.and given_1 narrow_1).before args s = true from hpre))
  obtain ⟨g0, y0⟩ := and_e hg
  obtain ⟨g1, y1⟩ := and_e y0
  have g2 := y1
  obtain ⟨w0, w1, rfl⟩ : ∃ w0 w1 : Value, args = #[w0, w1] := by
    have hs : args.size = 2 := by simpa [Cond.value, given_1] using g0
    obtain ⟨L⟩ := args
    match L, hs with
    | [w0, w1], _ => exact ⟨w0, w1, rfl⟩
  have hw := fun d (hd : d ∈ tables_1) => atoms_spec (ws := Jvm.Cond.code x code maxLocals ret :: tables_1) hat d (List.mem_cons_of_mem _ hd)
  have hfit : Fit s := fun {y c} hc i hi => by
    obtain ⟨ha, rfl⟩ := Array.getElem?_eq_some_iff.mp hc
    have q := List.all_eq_true.mp ((Array.all_eq_true_iff_forall_mem.mp hF) _ (Array.getElem_mem ha)) i (List.mem_range.mpr hi)
    simpa [Array.getElem?_eq_getElem hi] using q
  obtain ⟨hsets, hown0⟩ := atoms_of _ (rest_1_c_eq ▸ (show rest_1_c.before _ s = true from hrest))
  obtain ⟨i0, ei0⟩ := isL_v g1
  obtain rfl : w0 = (.long i0) := Option.some.inj ei0
  obtain ⟨i1, ei1⟩ := isL_v g2
  obtain rfl : w1 = (.long i1) := Option.some.inj ei1
  obtain ⟨bONE, eONE⟩ := exa_v (Cond.before_iff.mp (hsets _ (List.mem_of_getElem? (i := 112) rfl)))
  have hONE := big_start eONE (Cond.before_iff.mp (hsets _ (List.mem_of_getElem? (i := 112) rfl))) (Cond.before_iff.mp (hsets _ (List.mem_of_getElem? (i := 113) rfl))) (Cond.before_iff.mp (hsets _ (List.mem_of_getElem? (i := 114) rfl))) (Cond.before_iff.mp (hsets _ (List.mem_of_getElem? (i := 115) rfl))) (Cond.before_iff.mp (hsets _ (List.mem_of_getElem? (i := 116) rfl))) (Cond.before_iff.mp (hsets _ (List.mem_of_getElem? (i := 117) rfl)))
  have SONE := Sta.start eONE (Or.inl (hsets _ (List.mem_of_getElem? (i := 3) rfl)))
  obtain ⟨bZERO, eZERO⟩ := exa_v (Cond.before_iff.mp (hsets _ (List.mem_of_getElem? (i := 224) rfl)))
  have hZERO := big_start0 eZERO (Cond.before_iff.mp (hsets _ (List.mem_of_getElem? (i := 224) rfl))) (Cond.before_iff.mp (hsets _ (List.mem_of_getElem? (i := 225) rfl))) (Cond.before_iff.mp (hsets _ (List.mem_of_getElem? (i := 226) rfl))) (Cond.before_iff.mp (hsets _ (List.mem_of_getElem? (i := 227) rfl))) (Cond.before_iff.mp (hsets _ (List.mem_of_getElem? (i := 228) rfl)))
  have SZERO := Sta.start eZERO (Or.inl (hsets _ (List.mem_of_getElem? (i := 223) rfl)))
  have p1 : elOk s _ "posConst" (1) 1 := el_start (Cond.before_iff.mp (hsets _ (List.mem_of_getElem? (i := 12) rfl))) (Cond.before_iff.mp (hsets _ (List.mem_of_getElem? (i := 13) rfl))) (Cond.before_iff.mp (hsets _ (List.mem_of_getElem? (i := 14) rfl))) (Cond.before_iff.mp (hsets _ (List.mem_of_getElem? (i := 15) rfl))) (Cond.before_iff.mp (hsets _ (List.mem_of_getElem? (i := 16) rfl))) (Cond.before_iff.mp (hsets _ (List.mem_of_getElem? (i := 17) rfl)))
  have p2 : elOk s _ "posConst" (1) 2 := el_start (Cond.before_iff.mp (hsets _ (List.mem_of_getElem? (i := 19) rfl))) (Cond.before_iff.mp (hsets _ (List.mem_of_getElem? (i := 20) rfl))) (Cond.before_iff.mp (hsets _ (List.mem_of_getElem? (i := 21) rfl))) (Cond.before_iff.mp (hsets _ (List.mem_of_getElem? (i := 22) rfl))) (Cond.before_iff.mp (hsets _ (List.mem_of_getElem? (i := 23) rfl))) (Cond.before_iff.mp (hsets _ (List.mem_of_getElem? (i := 24) rfl)))
  have p3 : elOk s _ "posConst" (1) 3 := el_start (Cond.before_iff.mp (hsets _ (List.mem_of_getElem? (i := 25) rfl))) (Cond.before_iff.mp (hsets _ (List.mem_of_getElem? (i := 26) rfl))) (Cond.before_iff.mp (hsets _ (List.mem_of_getElem? (i := 27) rfl))) (Cond.before_iff.mp (hsets _ (List.mem_of_getElem? (i := 28) rfl))) (Cond.before_iff.mp (hsets _ (List.mem_of_getElem? (i := 29) rfl))) (Cond.before_iff.mp (hsets _ (List.mem_of_getElem? (i := 30) rfl)))
  have p4 : elOk s _ "posConst" (1) 4 := el_start (Cond.before_iff.mp (hsets _ (List.mem_of_getElem? (i := 31) rfl))) (Cond.before_iff.mp (hsets _ (List.mem_of_getElem? (i := 32) rfl))) (Cond.before_iff.mp (hsets _ (List.mem_of_getElem? (i := 33) rfl))) (Cond.before_iff.mp (hsets _ (List.mem_of_getElem? (i := 34) rfl))) (Cond.before_iff.mp (hsets _ (List.mem_of_getElem? (i := 35) rfl))) (Cond.before_iff.mp (hsets _ (List.mem_of_getElem? (i := 36) rfl)))
  have p5 : elOk s _ "posConst" (1) 5 := el_start (Cond.before_iff.mp (hsets _ (List.mem_of_getElem? (i := 37) rfl))) (Cond.before_iff.mp (hsets _ (List.mem_of_getElem? (i := 38) rfl))) (Cond.before_iff.mp (hsets _ (List.mem_of_getElem? (i := 39) rfl))) (Cond.before_iff.mp (hsets _ (List.mem_of_getElem? (i := 40) rfl))) (Cond.before_iff.mp (hsets _ (List.mem_of_getElem? (i := 41) rfl))) (Cond.before_iff.mp (hsets _ (List.mem_of_getElem? (i := 42) rfl)))
  have p6 : elOk s _ "posConst" (1) 6 := el_start (Cond.before_iff.mp (hsets _ (List.mem_of_getElem? (i := 43) rfl))) (Cond.before_iff.mp (hsets _ (List.mem_of_getElem? (i := 44) rfl))) (Cond.before_iff.mp (hsets _ (List.mem_of_getElem? (i := 45) rfl))) (Cond.before_iff.mp (hsets _ (List.mem_of_getElem? (i := 46) rfl))) (Cond.before_iff.mp (hsets _ (List.mem_of_getElem? (i := 47) rfl))) (Cond.before_iff.mp (hsets _ (List.mem_of_getElem? (i := 48) rfl)))
  have p7 : elOk s _ "posConst" (1) 7 := el_start (Cond.before_iff.mp (hsets _ (List.mem_of_getElem? (i := 49) rfl))) (Cond.before_iff.mp (hsets _ (List.mem_of_getElem? (i := 50) rfl))) (Cond.before_iff.mp (hsets _ (List.mem_of_getElem? (i := 51) rfl))) (Cond.before_iff.mp (hsets _ (List.mem_of_getElem? (i := 52) rfl))) (Cond.before_iff.mp (hsets _ (List.mem_of_getElem? (i := 53) rfl))) (Cond.before_iff.mp (hsets _ (List.mem_of_getElem? (i := 54) rfl)))
  have p8 : elOk s _ "posConst" (1) 8 := el_start (Cond.before_iff.mp (hsets _ (List.mem_of_getElem? (i := 55) rfl))) (Cond.before_iff.mp (hsets _ (List.mem_of_getElem? (i := 56) rfl))) (Cond.before_iff.mp (hsets _ (List.mem_of_getElem? (i := 57) rfl))) (Cond.before_iff.mp (hsets _ (List.mem_of_getElem? (i := 58) rfl))) (Cond.before_iff.mp (hsets _ (List.mem_of_getElem? (i := 59) rfl))) (Cond.before_iff.mp (hsets _ (List.mem_of_getElem? (i := 60) rfl)))
  have p9 : elOk s _ "posConst" (1) 9 := el_start (Cond.before_iff.mp (hsets _ (List.mem_of_getElem? (i := 61) rfl))) (Cond.before_iff.mp (hsets _ (List.mem_of_getElem? (i := 62) rfl))) (Cond.before_iff.mp (hsets _ (List.mem_of_getElem? (i := 63) rfl))) (Cond.before_iff.mp (hsets _ (List.mem_of_getElem? (i := 64) rfl))) (Cond.before_iff.mp (hsets _ (List.mem_of_getElem? (i := 65) rfl))) (Cond.before_iff.mp (hsets _ (List.mem_of_getElem? (i := 66) rfl)))
  have p10 : elOk s _ "posConst" (1) 10 := el_start (Cond.before_iff.mp (hsets _ (List.mem_of_getElem? (i := 68) rfl))) (Cond.before_iff.mp (hsets _ (List.mem_of_getElem? (i := 69) rfl))) (Cond.before_iff.mp (hsets _ (List.mem_of_getElem? (i := 70) rfl))) (Cond.before_iff.mp (hsets _ (List.mem_of_getElem? (i := 71) rfl))) (Cond.before_iff.mp (hsets _ (List.mem_of_getElem? (i := 72) rfl))) (Cond.before_iff.mp (hsets _ (List.mem_of_getElem? (i := 73) rfl)))
  have p11 : elOk s _ "posConst" (1) 11 := el_start (Cond.before_iff.mp (hsets _ (List.mem_of_getElem? (i := 74) rfl))) (Cond.before_iff.mp (hsets _ (List.mem_of_getElem? (i := 75) rfl))) (Cond.before_iff.mp (hsets _ (List.mem_of_getElem? (i := 76) rfl))) (Cond.before_iff.mp (hsets _ (List.mem_of_getElem? (i := 77) rfl))) (Cond.before_iff.mp (hsets _ (List.mem_of_getElem? (i := 78) rfl))) (Cond.before_iff.mp (hsets _ (List.mem_of_getElem? (i := 79) rfl)))
  have p12 : elOk s _ "posConst" (1) 12 := el_start (Cond.before_iff.mp (hsets _ (List.mem_of_getElem? (i := 80) rfl))) (Cond.before_iff.mp (hsets _ (List.mem_of_getElem? (i := 81) rfl))) (Cond.before_iff.mp (hsets _ (List.mem_of_getElem? (i := 82) rfl))) (Cond.before_iff.mp (hsets _ (List.mem_of_getElem? (i := 83) rfl))) (Cond.before_iff.mp (hsets _ (List.mem_of_getElem? (i := 84) rfl))) (Cond.before_iff.mp (hsets _ (List.mem_of_getElem? (i := 85) rfl)))
  have p13 : elOk s _ "posConst" (1) 13 := el_start (Cond.before_iff.mp (hsets _ (List.mem_of_getElem? (i := 86) rfl))) (Cond.before_iff.mp (hsets _ (List.mem_of_getElem? (i := 87) rfl))) (Cond.before_iff.mp (hsets _ (List.mem_of_getElem? (i := 88) rfl))) (Cond.before_iff.mp (hsets _ (List.mem_of_getElem? (i := 89) rfl))) (Cond.before_iff.mp (hsets _ (List.mem_of_getElem? (i := 90) rfl))) (Cond.before_iff.mp (hsets _ (List.mem_of_getElem? (i := 91) rfl)))
  have p14 : elOk s _ "posConst" (1) 14 := el_start (Cond.before_iff.mp (hsets _ (List.mem_of_getElem? (i := 92) rfl))) (Cond.before_iff.mp (hsets _ (List.mem_of_getElem? (i := 93) rfl))) (Cond.before_iff.mp (hsets _ (List.mem_of_getElem? (i := 94) rfl))) (Cond.before_iff.mp (hsets _ (List.mem_of_getElem? (i := 95) rfl))) (Cond.before_iff.mp (hsets _ (List.mem_of_getElem? (i := 96) rfl))) (Cond.before_iff.mp (hsets _ (List.mem_of_getElem? (i := 97) rfl)))
  have p15 : elOk s _ "posConst" (1) 15 := el_start (Cond.before_iff.mp (hsets _ (List.mem_of_getElem? (i := 98) rfl))) (Cond.before_iff.mp (hsets _ (List.mem_of_getElem? (i := 99) rfl))) (Cond.before_iff.mp (hsets _ (List.mem_of_getElem? (i := 100) rfl))) (Cond.before_iff.mp (hsets _ (List.mem_of_getElem? (i := 101) rfl))) (Cond.before_iff.mp (hsets _ (List.mem_of_getElem? (i := 102) rfl))) (Cond.before_iff.mp (hsets _ (List.mem_of_getElem? (i := 103) rfl)))
  have p16 : elOk s _ "posConst" (1) 16 := el_start (Cond.before_iff.mp (hsets _ (List.mem_of_getElem? (i := 104) rfl))) (Cond.before_iff.mp (hsets _ (List.mem_of_getElem? (i := 105) rfl))) (Cond.before_iff.mp (hsets _ (List.mem_of_getElem? (i := 106) rfl))) (Cond.before_iff.mp (hsets _ (List.mem_of_getElem? (i := 107) rfl))) (Cond.before_iff.mp (hsets _ (List.mem_of_getElem? (i := 108) rfl))) (Cond.before_iff.mp (hsets _ (List.mem_of_getElem? (i := 109) rfl)))
  have TposConst : tabAt s "posConst" (1) := tab_start hfit (hsets _ (List.mem_of_getElem? (i := 1) rfl)) (Cond.before_iff.mp (hsets _ (List.mem_of_getElem? (i := 8) rfl))) (Cond.before_iff.mp (hsets _ (List.mem_of_getElem? (i := 9) rfl))) (Cond.before_iff.mp (hsets _ (List.mem_of_getElem? (i := 10) rfl))) (fun i h1 h2 => by
    match i, h1, h2 with
    | 1, _, _ => exact p1
    | 2, _, _ => exact p2
    | 3, _, _ => exact p3
    | 4, _, _ => exact p4
    | 5, _, _ => exact p5
    | 6, _, _ => exact p6
    | 7, _, _ => exact p7
    | 8, _, _ => exact p8
    | 9, _, _ => exact p9
    | 10, _, _ => exact p10
    | 11, _, _ => exact p11
    | 12, _, _ => exact p12
    | 13, _, _ => exact p13
    | 14, _, _ => exact p14
    | 15, _, _ => exact p15
    | 16, _, _ => exact p16
    | (k + 17), _, h => exact absurd h (by omega))
  have n1 : elOk s _ "negConst" (-1) 1 := el_start (Cond.before_iff.mp (hsets _ (List.mem_of_getElem? (i := 126) rfl))) (Cond.before_iff.mp (hsets _ (List.mem_of_getElem? (i := 127) rfl))) (Cond.before_iff.mp (hsets _ (List.mem_of_getElem? (i := 128) rfl))) (Cond.before_iff.mp (hsets _ (List.mem_of_getElem? (i := 129) rfl))) (Cond.before_iff.mp (hsets _ (List.mem_of_getElem? (i := 130) rfl))) (Cond.before_iff.mp (hsets _ (List.mem_of_getElem? (i := 131) rfl)))
  have n2 : elOk s _ "negConst" (-1) 2 := el_start (Cond.before_iff.mp (hsets _ (List.mem_of_getElem? (i := 132) rfl))) (Cond.before_iff.mp (hsets _ (List.mem_of_getElem? (i := 133) rfl))) (Cond.before_iff.mp (hsets _ (List.mem_of_getElem? (i := 134) rfl))) (Cond.before_iff.mp (hsets _ (List.mem_of_getElem? (i := 135) rfl))) (Cond.before_iff.mp (hsets _ (List.mem_of_getElem? (i := 136) rfl))) (Cond.before_iff.mp (hsets _ (List.mem_of_getElem? (i := 137) rfl)))
  have n3 : elOk s _ "negConst" (-1) 3 := el_start (Cond.before_iff.mp (hsets _ (List.mem_of_getElem? (i := 138) rfl))) (Cond.before_iff.mp (hsets _ (List.mem_of_getElem? (i := 139) rfl))) (Cond.before_iff.mp (hsets _ (List.mem_of_getElem? (i := 140) rfl))) (Cond.before_iff.mp (hsets _ (List.mem_of_getElem? (i := 141) rfl))) (Cond.before_iff.mp (hsets _ (List.mem_of_getElem? (i := 142) rfl))) (Cond.before_iff.mp (hsets _ (List.mem_of_getElem? (i := 143) rfl)))
  have n4 : elOk s _ "negConst" (-1) 4 := el_start (Cond.before_iff.mp (hsets _ (List.mem_of_getElem? (i := 144) rfl))) (Cond.before_iff.mp (hsets _ (List.mem_of_getElem? (i := 145) rfl))) (Cond.before_iff.mp (hsets _ (List.mem_of_getElem? (i := 146) rfl))) (Cond.before_iff.mp (hsets _ (List.mem_of_getElem? (i := 147) rfl))) (Cond.before_iff.mp (hsets _ (List.mem_of_getElem? (i := 148) rfl))) (Cond.before_iff.mp (hsets _ (List.mem_of_getElem? (i := 149) rfl)))
  have n5 : elOk s _ "negConst" (-1) 5 := el_start (Cond.before_iff.mp (hsets _ (List.mem_of_getElem? (i := 150) rfl))) (Cond.before_iff.mp (hsets _ (List.mem_of_getElem? (i := 151) rfl))) (Cond.before_iff.mp (hsets _ (List.mem_of_getElem? (i := 152) rfl))) (Cond.before_iff.mp (hsets _ (List.mem_of_getElem? (i := 153) rfl))) (Cond.before_iff.mp (hsets _ (List.mem_of_getElem? (i := 154) rfl))) (Cond.before_iff.mp (hsets _ (List.mem_of_getElem? (i := 155) rfl)))
  have n6 : elOk s _ "negConst" (-1) 6 := el_start (Cond.before_iff.mp (hsets _ (List.mem_of_getElem? (i := 156) rfl))) (Cond.before_iff.mp (hsets _ (List.mem_of_getElem? (i := 157) rfl))) (Cond.before_iff.mp (hsets _ (List.mem_of_getElem? (i := 158) rfl))) (Cond.before_iff.mp (hsets _ (List.mem_of_getElem? (i := 159) rfl))) (Cond.before_iff.mp (hsets _ (List.mem_of_getElem? (i := 160) rfl))) (Cond.before_iff.mp (hsets _ (List.mem_of_getElem? (i := 161) rfl)))
  have n7 : elOk s _ "negConst" (-1) 7 := el_start (Cond.before_iff.mp (hsets _ (List.mem_of_getElem? (i := 162) rfl))) (Cond.before_iff.mp (hsets _ (List.mem_of_getElem? (i := 163) rfl))) (Cond.before_iff.mp (hsets _ (List.mem_of_getElem? (i := 164) rfl))) (Cond.before_iff.mp (hsets _ (List.mem_of_getElem? (i := 165) rfl))) (Cond.before_iff.mp (hsets _ (List.mem_of_getElem? (i := 166) rfl))) (Cond.before_iff.mp (hsets _ (List.mem_of_getElem? (i := 167) rfl)))
  have n8 : elOk s _ "negConst" (-1) 8 := el_start (Cond.before_iff.mp (hsets _ (List.mem_of_getElem? (i := 168) rfl))) (Cond.before_iff.mp (hsets _ (List.mem_of_getElem? (i := 169) rfl))) (Cond.before_iff.mp (hsets _ (List.mem_of_getElem? (i := 170) rfl))) (Cond.before_iff.mp (hsets _ (List.mem_of_getElem? (i := 171) rfl))) (Cond.before_iff.mp (hsets _ (List.mem_of_getElem? (i := 172) rfl))) (Cond.before_iff.mp (hsets _ (List.mem_of_getElem? (i := 173) rfl)))
  have n9 : elOk s _ "negConst" (-1) 9 := el_start (Cond.before_iff.mp (hsets _ (List.mem_of_getElem? (i := 174) rfl))) (Cond.before_iff.mp (hsets _ (List.mem_of_getElem? (i := 175) rfl))) (Cond.before_iff.mp (hsets _ (List.mem_of_getElem? (i := 176) rfl))) (Cond.before_iff.mp (hsets _ (List.mem_of_getElem? (i := 177) rfl))) (Cond.before_iff.mp (hsets _ (List.mem_of_getElem? (i := 178) rfl))) (Cond.before_iff.mp (hsets _ (List.mem_of_getElem? (i := 179) rfl)))
  have n10 : elOk s _ "negConst" (-1) 10 := el_start (Cond.before_iff.mp (hsets _ (List.mem_of_getElem? (i := 180) rfl))) (Cond.before_iff.mp (hsets _ (List.mem_of_getElem? (i := 181) rfl))) (Cond.before_iff.mp (hsets _ (List.mem_of_getElem? (i := 182) rfl))) (Cond.before_iff.mp (hsets _ (List.mem_of_getElem? (i := 183) rfl))) (Cond.before_iff.mp (hsets _ (List.mem_of_getElem? (i := 184) rfl))) (Cond.before_iff.mp (hsets _ (List.mem_of_getElem? (i := 185) rfl)))
  have n11 : elOk s _ "negConst" (-1) 11 := el_start (Cond.before_iff.mp (hsets _ (List.mem_of_getElem? (i := 186) rfl))) (Cond.before_iff.mp (hsets _ (List.mem_of_getElem? (i := 187) rfl))) (Cond.before_iff.mp (hsets _ (List.mem_of_getElem? (i := 188) rfl))) (Cond.before_iff.mp (hsets _ (List.mem_of_getElem? (i := 189) rfl))) (Cond.before_iff.mp (hsets _ (List.mem_of_getElem? (i := 190) rfl))) (Cond.before_iff.mp (hsets _ (List.mem_of_getElem? (i := 191) rfl)))
  have n12 : elOk s _ "negConst" (-1) 12 := el_start (Cond.before_iff.mp (hsets _ (List.mem_of_getElem? (i := 192) rfl))) (Cond.before_iff.mp (hsets _ (List.mem_of_getElem? (i := 193) rfl))) (Cond.before_iff.mp (hsets _ (List.mem_of_getElem? (i := 194) rfl))) (Cond.before_iff.mp (hsets _ (List.mem_of_getElem? (i := 195) rfl))) (Cond.before_iff.mp (hsets _ (List.mem_of_getElem? (i := 196) rfl))) (Cond.before_iff.mp (hsets _ (List.mem_of_getElem? (i := 197) rfl)))
  have n13 : elOk s _ "negConst" (-1) 13 := el_start (Cond.before_iff.mp (hsets _ (List.mem_of_getElem? (i := 198) rfl))) (Cond.before_iff.mp (hsets _ (List.mem_of_getElem? (i := 199) rfl))) (Cond.before_iff.mp (hsets _ (List.mem_of_getElem? (i := 200) rfl))) (Cond.before_iff.mp (hsets _ (List.mem_of_getElem? (i := 201) rfl))) (Cond.before_iff.mp (hsets _ (List.mem_of_getElem? (i := 202) rfl))) (Cond.before_iff.mp (hsets _ (List.mem_of_getElem? (i := 203) rfl)))
  have n14 : elOk s _ "negConst" (-1) 14 := el_start (Cond.before_iff.mp (hsets _ (List.mem_of_getElem? (i := 204) rfl))) (Cond.before_iff.mp (hsets _ (List.mem_of_getElem? (i := 205) rfl))) (Cond.before_iff.mp (hsets _ (List.mem_of_getElem? (i := 206) rfl))) (Cond.before_iff.mp (hsets _ (List.mem_of_getElem? (i := 207) rfl))) (Cond.before_iff.mp (hsets _ (List.mem_of_getElem? (i := 208) rfl))) (Cond.before_iff.mp (hsets _ (List.mem_of_getElem? (i := 209) rfl)))
  have n15 : elOk s _ "negConst" (-1) 15 := el_start (Cond.before_iff.mp (hsets _ (List.mem_of_getElem? (i := 210) rfl))) (Cond.before_iff.mp (hsets _ (List.mem_of_getElem? (i := 211) rfl))) (Cond.before_iff.mp (hsets _ (List.mem_of_getElem? (i := 212) rfl))) (Cond.before_iff.mp (hsets _ (List.mem_of_getElem? (i := 213) rfl))) (Cond.before_iff.mp (hsets _ (List.mem_of_getElem? (i := 214) rfl))) (Cond.before_iff.mp (hsets _ (List.mem_of_getElem? (i := 215) rfl)))
  have n16 : elOk s _ "negConst" (-1) 16 := el_start (Cond.before_iff.mp (hsets _ (List.mem_of_getElem? (i := 216) rfl))) (Cond.before_iff.mp (hsets _ (List.mem_of_getElem? (i := 217) rfl))) (Cond.before_iff.mp (hsets _ (List.mem_of_getElem? (i := 218) rfl))) (Cond.before_iff.mp (hsets _ (List.mem_of_getElem? (i := 219) rfl))) (Cond.before_iff.mp (hsets _ (List.mem_of_getElem? (i := 220) rfl))) (Cond.before_iff.mp (hsets _ (List.mem_of_getElem? (i := 221) rfl)))
  have TnegConst : tabAt s "negConst" (-1) := tab_start hfit (hsets _ (List.mem_of_getElem? (i := 119) rfl)) (Cond.before_iff.mp (hsets _ (List.mem_of_getElem? (i := 122) rfl))) (Cond.before_iff.mp (hsets _ (List.mem_of_getElem? (i := 123) rfl))) (Cond.before_iff.mp (hsets _ (List.mem_of_getElem? (i := 124) rfl))) (fun i h1 h2 => by
    match i, h1, h2 with
    | 1, _, _ => exact n1
    | 2, _, _ => exact n2
    | 3, _, _ => exact n3
    | 4, _, _ => exact n4
    | 5, _, _ => exact n5
    | 6, _, _ => exact n6
    | 7, _, _ => exact n7
    | 8, _, _ => exact n8
    | 9, _, _ => exact n9
    | 10, _, _ => exact n10
    | 11, _, _ => exact n11
    | 12, _, _ => exact n12
    | 13, _, _ => exact n13
    | 14, _, _ => exact n14
    | 15, _, _ => exact n15
    | 16, _, _ => exact n16
    | (k + 17), _, h => exact absurd h (by omega))
  have hK : Ok s _ := ⟨hw, ⟨bONE, SONE, hONE⟩, ⟨bZERO, SZERO, hZERO⟩, TposConst, TnegConst⟩
  have hCH : CHv s EL s.vm s.heap := fun _ hp => nomatch hp
  have H0 : HP s EL s.vm s.heap [] := ⟨⟨Nat.le_refl _, fun _ _ q => q⟩, ⟨hCH, fun _ => State.WarmedH.refl s⟩, fun _ hx => absurd hx List.not_mem_nil, fun _ hx => absurd hx List.not_mem_nil, List.Pairwise.nil⟩
  obtain ⟨n, o, h1, h2, h3, v, L', locs, rfl, hQ, hHP, N, hq⟩ := m_law hK p e ha hc hk s m _ below hf ((Spec.applies_iff_loose hf).mp happ).1 ⟨rfl, State.Warmed39.refl s, H0⟩ trivial
  obtain rfl : v = some (.int 1) := hQ
  refine ⟨n, _, h1, h2, h3, hpost _ _ _ _ _ _ ⟨Cond.after_iff.mpr rfl, Cond.after_iff.mpr (eq_i res_at (Term.int_eval (1)) rfl), trivial⟩ ⟨hq.1, hq.2.1, hq.2.2.1, (hq.2.2.2.sift fun y hy => Or.inr (N y hy)).mono (by decide) (by decide)⟩⟩
theorem main_1_1 : Claimed_1_1 := comes_1 fun _ _ _ _ _ _ h hF => ⟨h.1, hF⟩
theorem main_1_2 : Claimed_1_2 := comes_1 fun _ _ _ _ _ _ h hF => ⟨h.2.1, hF⟩
end Jvm.Pilot.@@N@@
namespace Jvm.Pilot.@@N@@
open Jvm Jvm.ClassFile Sem Op Lib Jvm.Free Jvm.Stand Jvm.Pilot.@@N@@.Jvm.D
/-! MADE BY PROGRAM (witnessworld.py) out of the Statement's table words and the real class files: 23 classes; the members and pool entries that the words name. The judged class is class 1, her method 1. -/
namespace start1
open Jvm.ClassFile
def u (s : String) : CpInfo := .utf8 (stringToUtf16 s)
/-- a pool by its gaps: so many unusable entries, then the entry; so many at the end -/
def gap : Nat → List CpInfo → List CpInfo
  | 0, r => r
  | n + 1, r => .unusable :: gap n r
def poolList (es : List (Nat × CpInfo)) (last : Nat) : List CpInfo := es.foldr (fun e r => gap e.1 (e.2 :: r)) (gap last [])
def pool (es : List (Nat × CpInfo)) (last : Nat) : Array CpInfo := ⟨poolList es last⟩
def fileOf (pool : Array CpInfo) (this : Nat) (attrs : Array Attribute := #[]) (ms : Array MethodInfo := #[]) (fl : Nat := 33) (sup : Nat := 0) (ifs : Array Nat := #[]) (fds : Array FieldInfo := #[]) : ClassFile where
  minorVersion := 0
  majorVersion := 65
  constantPool := pool
  accessFlags := fl
  thisClass := this
  superClass := sup
  interfaces := ifs
  fields := fds
  methods := ms
  attributes := attrs
def plain (name : String) (sup : Option ClassId) : Class where
  name := name
  kind := .ordinary
  loader := none
  accessFlags := 33
  super := sup
  interfaces := #[]
  cf := none
  fields := #[]
  methods := #[]
  instanceTypes := #[]
  staticTypes := #[]
  resolved := #[]
  callSites := []
  init := .initialized
  statics := none
  mirror := none

def pool0 : Array CpInfo := pool [(5, u "<init>"), (0, u "()V"), (1, .class_ 10), (1, u "java/lang/Object"), (85, u "clone"), (0, u "()Ljava/lang/Object;")] 26

def k0c0 : Code := { maxStack := 0, maxLocals := 1, code := object_method_1_code, exceptionTable := #[], attributes := #[] }
def k0m0 : Method := { name := "<init>", desc := "()V", sig := { parameters := [], returnType := none }, accessFlags := 1, code := some k0c0 }
def k0m1 : Method := { name := "clone", desc := "()Ljava/lang/Object;", sig := { parameters := [], returnType := some (.object "java/lang/Object") }, accessFlags := 260, code := none }
/-- java/lang/Object -/
def k0 : Class := { plain "java/lang/Object" none with
  accessFlags := 33
  interfaces := #[]
  cf := some (fileOf pool0 8 #[] #[{ accessFlags := 1, nameIndex := 5, descriptorIndex := 6, attributes := #[] }, { accessFlags := 260, nameIndex := 96, descriptorIndex := 97, attributes := #[] }] 33 0 #[] #[])
  fields := #[]
  methods := #[k0m0, k0m1]
  instanceTypes := #[]
  staticTypes := #[]
  resolved := Array.replicate 124 none
  statics := none }

def pool1 : Array CpInfo := pool [(2, .class_ 4), (1, u "java/lang/Object"), (0, u "<init>"), (0, u "()V"), (0, .methodref 8 9), (0, .class_ 10), (0, .nameAndType 11 12), (0, u "com/example/locks_to_budgets/lockstobudgets/exact/Rational"), (0, u "of"), (0, u "(J)Lcom/example/locks_to_budgets/lockstobudgets/exact/Rational;"), (0, .methodref 8 14), (0, .nameAndType 11 15), (0, u "(JJ)Lcom/example/locks_to_budgets/lockstobudgets/exact/Rational;"), (0, .methodref 8 17), (0, .nameAndType 18 19), (0, u "equals"), (0, u "(Ljava/lang/Object;)Z"), (0, .methodref 8 21), (0, .nameAndType 22 23), (0, u "isInteger"), (0, u "()Z"), (0, .methodref 8 25), (0, .nameAndType 26 27), (0, u "signum"), (0, u "()I"), (0, .methodref 8 29), (0, .nameAndType 30 31), (0, u "compareTo"), (0, u "(Lcom/example/locks_to_budgets/lockstobudgets/exact/Rational;)I"), (0, .class_ 33), (0, u "com/example/locks_to_budgets/lockstobudgets/exact/RationalOfPinLaw"), (2, u "law"), (0, u "(JJ)Z")] 3

def k1m0 : Method := { name := "<init>", desc := "()V", sig := { parameters := [], returnType := none }, accessFlags := 2, code := none }
def k1c1 : Code := { maxStack := 4, maxLocals := 13, code := code, exceptionTable := #[], attributes := #[] }
def k1m1 : Method := { name := "law", desc := "(JJ)Z", sig := { parameters := [.long, .long], returnType := some .boolean }, accessFlags := 9, code := some k1c1 }
/-- com/example/locks_to_budgets/lockstobudgets/exact/RationalOfPinLaw -/
def k1 : Class := { plain "com/example/locks_to_budgets/lockstobudgets/exact/RationalOfPinLaw" (some 0) with
  accessFlags := 49
  interfaces := #[]
  cf := some (fileOf pool1 32 #[] #[{ accessFlags := 2, nameIndex := 5, descriptorIndex := 6, attributes := #[] }, { accessFlags := 9, nameIndex := 36, descriptorIndex := 37, attributes := #[] }] 49 2 #[] #[])
  fields := #[]
  methods := #[k1m0, k1m1]
  instanceTypes := #[]
  staticTypes := #[]
  resolved := Array.replicate 41 none
  statics := none }

def pool2 : Array CpInfo := pool [(1, .class_ 2), (0, u "java/lang/Comparable"), (0, .class_ 4), (0, u "java/lang/Object")] 7

/-- java/lang/Comparable -/
def k2 : Class := { plain "java/lang/Comparable" (some 0) with
  accessFlags := 1537
  interfaces := #[]
  cf := some (fileOf pool2 1 #[] #[] 1537 3 #[] #[])
  fields := #[]
  methods := #[]
  instanceTypes := #[]
  staticTypes := #[]
  resolved := Array.replicate 12 none
  statics := none }

def pool3 : Array CpInfo := pool [(1, .methodref 2 3), (0, .class_ 4), (0, .nameAndType 5 6), (0, u "java/lang/Object"), (0, u "<init>"), (0, u "()V"), (0, .fieldref 8 9), (0, .class_ 10), (0, .nameAndType 11 12), (0, u "com/example/locks_to_budgets/lockstobudgets/exact/Rational"), (0, u "numerator"), (0, u "Ljava/math/BigInteger;"), (0, .fieldref 8 14), (0, .nameAndType 15 12), (0, u "denominator"), (0, .methodref 17 18), (0, .class_ 19), (0, .nameAndType 20 21), (0, u "java/math/BigInteger"), (0, u "valueOf"), (0, u "(J)Ljava/math/BigInteger;"), (0, .fieldref 17 23), (0, .nameAndType 24 12), (0, u "ONE"), (0, .methodref 8 26), (0, .nameAndType 5 27), (0, u "(Ljava/math/BigInteger;Ljava/math/BigInteger;)V"), (2, .methodref 31 32), (0, .class_ 33), (0, .nameAndType 34 35), (0, u "java/util/Objects"), (0, u "requireNonNull"), (0, u "(Ljava/lang/Object;Ljava/lang/String;)Ljava/lang/Object;"), (0, .methodref 8 37), (0, .nameAndType 38 39), (0, u "of"), (0, u "(Ljava/math/BigInteger;Ljava/math/BigInteger;)Lcom/example/locks_to_budgets/lockstobudgets/exact/Rational;"), (0, .string 11), (0, .string 15), (0, .methodref 17 43), (0, .nameAndType 44 45), (0, u "signum"), (0, u "()I"), (7, .methodref 17 54), (0, .nameAndType 55 56), (0, u "gcd"), (0, u "(Ljava/math/BigInteger;)Ljava/math/BigInteger;"), (0, .methodref 17 58), (0, .nameAndType 59 56), (0, u "divide"), (0, .methodref 17 61), (0, .nameAndType 62 56), (0, u "multiply"), (41, u "DECIMAL"), (0, u "Ljava/util/regex/Pattern;"), (8, u "FRACTION"), (5, u "()Z"), (44, .methodref 17 166), (0, .nameAndType 167 168), (0, u "equals"), (0, u "(Ljava/lang/Object;)Z"), (13, u "compareTo"), (0, u "(Lcom/example/locks_to_budgets/lockstobudgets/exact/Rational;)I"), (21, .methodref 17 206), (0, .nameAndType 182 207), (0, u "(Ljava/math/BigInteger;)I"), (6, u "isInteger"), (7, u "ZERO"), (2, u "Lcom/example/locks_to_budgets/lockstobudgets/exact/Rational;"), (10, .class_ 237), (0, u "java/lang/Comparable"), (0, u "DECIMAL_PLACES"), (0, u "I"), (2, u "MAX_DIGITS"), (3, u "(J)Lcom/example/locks_to_budgets/lockstobudgets/exact/Rational;"), (0, u "(JJ)Lcom/example/locks_to_budgets/lockstobudgets/exact/Rational;")] 48

def k3c0 : Code := { maxStack := 2, maxLocals := 3, code := prog_21_method_1_code, exceptionTable := #[], attributes := #[] }
def k3m0 : Method := { name := "<init>", desc := "(Ljava/math/BigInteger;Ljava/math/BigInteger;)V", sig := { parameters := [(.object "java/math/BigInteger"), (.object "java/math/BigInteger")], returnType := none }, accessFlags := 2, code := some k3c0 }
def k3c1 : Code := { maxStack := 4, maxLocals := 2, code := prog_21_method_2_code, exceptionTable := #[], attributes := #[] }
def k3m1 : Method := { name := "of", desc := "(J)Lcom/example/locks_to_budgets/lockstobudgets/exact/Rational;", sig := { parameters := [.long], returnType := some (.object "com/example/locks_to_budgets/lockstobudgets/exact/Rational") }, accessFlags := 9, code := some k3c1 }
def k3c2 : Code := { maxStack := 3, maxLocals := 4, code := prog_21_method_4_code, exceptionTable := #[], attributes := #[] }
def k3m2 : Method := { name := "of", desc := "(JJ)Lcom/example/locks_to_budgets/lockstobudgets/exact/Rational;", sig := { parameters := [.long, .long], returnType := some (.object "com/example/locks_to_budgets/lockstobudgets/exact/Rational") }, accessFlags := 9, code := some k3c2 }
def k3c3 : Code := { maxStack := 5, maxLocals := 4, code := prog_21_method_5_code, exceptionTable := #[], attributes := #[] }
def k3m3 : Method := { name := "of", desc := "(Ljava/math/BigInteger;Ljava/math/BigInteger;)Lcom/example/locks_to_budgets/lockstobudgets/exact/Rational;", sig := { parameters := [(.object "java/math/BigInteger"), (.object "java/math/BigInteger")], returnType := some (.object "com/example/locks_to_budgets/lockstobudgets/exact/Rational") }, accessFlags := 9, code := some k3c3 }
def k3c4 : Code := { maxStack := 1, maxLocals := 1, code := prog_21_method_16_code, exceptionTable := #[], attributes := #[] }
def k3m4 : Method := { name := "signum", desc := "()I", sig := { parameters := [], returnType := some .int }, accessFlags := 1, code := some k3c4 }
def k3c5 : Code := { maxStack := 2, maxLocals := 1, code := prog_21_method_17_code, exceptionTable := #[], attributes := #[] }
def k3m5 : Method := { name := "isInteger", desc := "()Z", sig := { parameters := [], returnType := some .boolean }, accessFlags := 1, code := some k3c5 }
def k3c6 : Code := { maxStack := 3, maxLocals := 2, code := prog_21_method_25_code, exceptionTable := #[], attributes := #[] }
def k3m6 : Method := { name := "compareTo", desc := "(Lcom/example/locks_to_budgets/lockstobudgets/exact/Rational;)I", sig := { parameters := [(.object "com/example/locks_to_budgets/lockstobudgets/exact/Rational")], returnType := some .int }, accessFlags := 1, code := some k3c6 }
def k3c7 : Code := { maxStack := 2, maxLocals := 3, code := prog_21_method_26_code, exceptionTable := #[], attributes := #[] }
def k3m7 : Method := { name := "equals", desc := "(Ljava/lang/Object;)Z", sig := { parameters := [(.object "java/lang/Object")], returnType := some .boolean }, accessFlags := 1, code := some k3c7 }
/-- com/example/locks_to_budgets/lockstobudgets/exact/Rational -/
def k3 : Class := { plain "com/example/locks_to_budgets/lockstobudgets/exact/Rational" (some 0) with
  accessFlags := 33
  interfaces := #[2]
  cf := some (fileOf pool3 8 #[] #[{ accessFlags := 2, nameIndex := 5, descriptorIndex := 27, attributes := #[] }, { accessFlags := 9, nameIndex := 38, descriptorIndex := 246, attributes := #[] }, { accessFlags := 9, nameIndex := 38, descriptorIndex := 247, attributes := #[] }, { accessFlags := 9, nameIndex := 38, descriptorIndex := 39, attributes := #[] }, { accessFlags := 1, nameIndex := 44, descriptorIndex := 45, attributes := #[] }, { accessFlags := 1, nameIndex := 214, descriptorIndex := 120, attributes := #[] }, { accessFlags := 1, nameIndex := 182, descriptorIndex := 183, attributes := #[] }, { accessFlags := 1, nameIndex := 167, descriptorIndex := 168, attributes := #[] }] 33 2 #[236] #[{ accessFlags := 25, nameIndex := 222, descriptorIndex := 225, attributes := #[] }, { accessFlags := 25, nameIndex := 24, descriptorIndex := 225, attributes := #[] }, { accessFlags := 26, nameIndex := 238, descriptorIndex := 239, attributes := #[] }, { accessFlags := 25, nameIndex := 242, descriptorIndex := 239, attributes := #[] }, { accessFlags := 26, nameIndex := 104, descriptorIndex := 105, attributes := #[] }, { accessFlags := 26, nameIndex := 114, descriptorIndex := 105, attributes := #[] }, { accessFlags := 18, nameIndex := 11, descriptorIndex := 12, attributes := #[] }, { accessFlags := 18, nameIndex := 15, descriptorIndex := 12, attributes := #[] }])
  fields := #[{ name := "ZERO", type := (.object "com/example/locks_to_budgets/lockstobudgets/exact/Rational"), accessFlags := 25, slot := 0, constantValue := 0 }, { name := "ONE", type := (.object "com/example/locks_to_budgets/lockstobudgets/exact/Rational"), accessFlags := 25, slot := 1, constantValue := 0 }, { name := "DECIMAL_PLACES", type := .int, accessFlags := 26, slot := 2, constantValue := 0 }, { name := "MAX_DIGITS", type := .int, accessFlags := 25, slot := 3, constantValue := 0 }, { name := "DECIMAL", type := (.object "java/util/regex/Pattern"), accessFlags := 26, slot := 4, constantValue := 0 }, { name := "FRACTION", type := (.object "java/util/regex/Pattern"), accessFlags := 26, slot := 5, constantValue := 0 }, { name := "numerator", type := (.object "java/math/BigInteger"), accessFlags := 18, slot := 0, constantValue := 0 }, { name := "denominator", type := (.object "java/math/BigInteger"), accessFlags := 18, slot := 1, constantValue := 0 }]
  methods := #[k3m0, k3m1, k3m2, k3m3, k3m4, k3m5, k3m6, k3m7]
  instanceTypes := #[(.object "java/math/BigInteger"), (.object "java/math/BigInteger")]
  staticTypes := #[(.object "com/example/locks_to_budgets/lockstobudgets/exact/Rational"), (.object "com/example/locks_to_budgets/lockstobudgets/exact/Rational"), .int, .int, (.object "java/util/regex/Pattern"), (.object "java/util/regex/Pattern")]
  resolved := Array.replicate 296 none
  statics := none }

def pool4 : Array CpInfo := pool [(1, .class_ 2), (0, u "java/io/Serializable"), (0, .class_ 4), (0, u "java/lang/Object")] 2

/-- java/io/Serializable -/
def k4 : Class := { plain "java/io/Serializable" (some 0) with
  accessFlags := 1537
  interfaces := #[]
  cf := some (fileOf pool4 1 #[] #[] 1537 3 #[] #[])
  fields := #[]
  methods := #[]
  instanceTypes := #[]
  staticTypes := #[]
  resolved := Array.replicate 7 none
  statics := none }

def pool5 : Array CpInfo := pool [(1, .methodref 2 3), (0, .class_ 4), (0, .nameAndType 5 6), (0, u "java/lang/Object"), (0, u "<init>"), (0, u "()V"), (1, .class_ 10), (1, u "java/lang/Number"), (2, .class_ 14), (0, u "java/io/Serializable"), (0, u "serialVersionUID"), (0, u "J")] 20

def k5c0 : Code := { maxStack := 1, maxLocals := 1, code := jdk_18_method_1_code, exceptionTable := #[], attributes := #[] }
def k5m0 : Method := { name := "<init>", desc := "()V", sig := { parameters := [], returnType := none }, accessFlags := 1, code := some k5c0 }
/-- java/lang/Number -/
def k5 : Class := { plain "java/lang/Number" (some 0) with
  accessFlags := 1057
  interfaces := #[4]
  cf := some (fileOf pool5 8 #[] #[{ accessFlags := 1, nameIndex := 5, descriptorIndex := 6, attributes := #[] }] 1057 2 #[13] #[{ accessFlags := 26, nameIndex := 15, descriptorIndex := 16, attributes := #[] }])
  fields := #[{ name := "serialVersionUID", type := .long, accessFlags := 26, slot := 0, constantValue := 0 }]
  methods := #[k5m0]
  instanceTypes := #[]
  staticTypes := #[.long]
  resolved := Array.replicate 37 none
  statics := none }

def pool6 : Array CpInfo := pool [(1, .class_ 2), (0, u "java/lang/Integer"), (0, .methodref 4 5), (0, .class_ 6), (0, .nameAndType 7 8), (0, u "java/lang/Number"), (0, u "<init>"), (0, u "()V"), (13, .fieldref 23 24), (0, .class_ 25), (0, .nameAndType 26 27), (0, u "java/math/BigInteger"), (0, u "ZERO"), (0, u "Ljava/math/BigInteger;"), (0, .fieldref 23 29), (0, .nameAndType 30 31), (0, u "mag"), (0, u "[I"), (0, .fieldref 23 33), (0, .nameAndType 34 35), (0, u "signum"), (0, u "I"), (7, .integer 67108864), (30, u "()I"), (7, u "(I)I"), (12, u "bitsPerDigit"), (0, u "[J"), (9, u "digitsPerInt"), (12, u "intRadix"), (10, .long 4294967295), (44, .methodref 23 176), (0, .nameAndType 7 177), (0, u "([II)V"), (2, u "SMALL_PRIME_PRODUCT"), (3, u "(Ljava/math/BigInteger;)Ljava/math/BigInteger;"), (34, u "(I)Ljava/math/BigInteger;"), (17, u "valueOf"), (0, u "(J)Ljava/math/BigInteger;"), (21, u "ONE"), (2, u "equals"), (0, u "(Ljava/lang/Object;)Z"), (2, u "TWO"), (30, u "abs"), (12, u "$assertionsDisabled"), (0, u "Z"), (5, u "multiply"), (3, u "()Ljava/math/BigInteger;"), (14, u "compareTo"), (0, u "(Ljava/math/BigInteger;)I"), (6, .long 16), (1, .fieldref 23 348), (0, .nameAndType 349 350), (0, u "posConst"), (0, u "[Ljava/math/BigInteger;"), (0, .long 18446744073709551600), (1, .fieldref 23 354), (0, .nameAndType 355 350), (0, u "negConst"), (0, .methodref 23 357), (0, .nameAndType 7 358), (0, u "(J)V"), (1, .nameAndType 7 361), (0, u "([I)V"), (3, .methodref 23 366), (0, .nameAndType 367 338), (0, u "compareMagnitude"), (20, .methodref 389 390), (0, .class_ 391), (0, .nameAndType 392 393), (0, u "java/lang/System"), (0, u "arraycopy"), (0, u "(Ljava/lang/Object;ILjava/lang/Object;II)V"), (3, .methodref 23 398), (0, .nameAndType 318 399), (0, u "(Ljava/math/BigInteger;ZZI)Ljava/math/BigInteger;"), (3, .methodref 23 404), (0, .nameAndType 405 406), (0, u "multiplyByInt"), (0, u "([III)Ljava/math/BigInteger;"), (16, .methodref 1 424), (0, .nameAndType 425 82), (0, u "bitCount"), (0, .methodref 1 427), (0, .nameAndType 428 82), (0, u "numberOfTrailingZeros"), (0, .methodref 23 430), (0, .nameAndType 431 432), (0, u "shiftLeft"), (0, u "([II)[I"), (39, .class_ 474), (1, u "java/math/BigInteger$RecursiveOp"), (10, .methodref 23 486), (0, .nameAndType 298 322), (48, .methodref 23 536), (0, .nameAndType 537 184), (0, u "divideKnuth"), (3, .class_ 542), (0, u "java/math/MutableBigInteger"), (0, .methodref 541 5), (0, .methodref 541 360), (0, .methodref 541 546), (0, .nameAndType 537 547), (0, u "(Ljava/math/MutableBigInteger;Ljava/math/MutableBigInteger;Z)Ljava/math/MutableBigInteger;"), (0, .methodref 541 549), (0, .nameAndType 550 219), (0, u "toBigInteger"), (16, .methodref 541 568), (0, .nameAndType 7 569), (0, u "(Ljava/math/BigInteger;)V"), (11, u "NEGATIVE_ONE"), (16, .methodref 541 599), (0, .nameAndType 600 601), (0, u "hybridGCD"), (0, u "(Ljava/math/MutableBigInteger;)Ljava/math/MutableBigInteger;"), (0, .methodref 1 603), (0, .nameAndType 604 82), (0, u "numberOfLeadingZeros"), (2, u "bitLengthForInt"), (34, u "divide"), (30, u "bnExpModThreshTable"), (72, u "lowestSetBitPlusTwo"), (2, u "bitLengthPlusOne"), (2, u "bitCountPlusOne"), (6, u "LOG_TWO"), (0, u "D"), (2, u "logCache"), (0, u "[D"), (13, u "NUM_ZEROS"), (2, u "ZEROS"), (0, u "Ljava/lang/String;"), (9, u "longRadix"), (5, u "digitsPerLong"), (22, u "powerCache"), (0, u "[[Ljava/math/BigInteger;"), (45, u "firstNonzeroIntNumPlusTwo"), (38, .class_ 909), (1, u "java/math/BigInteger$UnsafeHolder"), (141, u "TEN"), (106, u "serialPersistentFields"), (0, u "[Ljava/io/ObjectStreamField;"), (0, .class_ 1161), (0, u "java/lang/Comparable"), (0, u "LONG_MASK"), (0, u "J"), (1, u "MAX_MAG_LENGTH"), (0, u "PRIME_SEARCH_BIT_LENGTH_LIMIT"), (1, u "KARATSUBA_THRESHOLD"), (1, u "TOOM_COOK_THRESHOLD"), (1, u "KARATSUBA_SQUARE_THRESHOLD"), (1, u "TOOM_COOK_SQUARE_THRESHOLD"), (1, u "BURNIKEL_ZIEGLER_THRESHOLD"), (0, u "BURNIKEL_ZIEGLER_OFFSET"), (1, u "SCHOENHAGE_BASE_CONVERSION_THRESHOLD"), (1, u "MULTIPLY_SQUARE_THRESHOLD"), (0, u "MONTGOMERY_INTRINSIC_THRESHOLD"), (1, u "SMALL_PRIME_THRESHOLD"), (1, u "DEFAULT_PRIME_CERTAINTY"), (1, u "MAX_CONSTANT"), (3, u "serialVersionUID"), (186, u "gcd"), (151, .class_ 1532), (0, u "java/math/BigInteger$RecursiveOp$RecursiveSquare"), (0, .class_ 1534), (0, u "java/math/BigInteger$RecursiveOp$RecursiveMultiply")] 7

def k6c0 : Code := { maxStack := 2, maxLocals := 3, code := jdk_2097_method_25_code, exceptionTable := #[], attributes := #[] }
def k6m0 : Method := { name := "<init>", desc := "([II)V", sig := { parameters := [(.array .int), .int], returnType := none }, accessFlags := 0, code := some k6c0 }
def k6c1 : Code := { maxStack := 4, maxLocals := 2, code := jdk_2097_method_29_code, exceptionTable := #[], attributes := #[] }
def k6m1 : Method := { name := "valueOf", desc := "(J)Ljava/math/BigInteger;", sig := { parameters := [.long], returnType := some (.object "java/math/BigInteger") }, accessFlags := 9, code := some k6c1 }
def k6c2 : Code := { maxStack := 4, maxLocals := 4, code := jdk_2097_method_30_code, exceptionTable := #[], attributes := #[] }
def k6m2 : Method := { name := "<init>", desc := "(J)V", sig := { parameters := [.long], returnType := none }, accessFlags := 2, code := some k6c2 }
def k6c3 : Code := { maxStack := 5, maxLocals := 2, code := jdk_2097_method_40_code, exceptionTable := #[], attributes := #[] }
def k6m3 : Method := { name := "multiply", desc := "(Ljava/math/BigInteger;)Ljava/math/BigInteger;", sig := { parameters := [(.object "java/math/BigInteger")], returnType := some (.object "java/math/BigInteger") }, accessFlags := 1, code := some k6c3 }
def k6c4 : Code := { maxStack := 5, maxLocals := 9, code := jdk_2097_method_42_code, exceptionTable := #[], attributes := #[] }
def k6m4 : Method := { name := "multiply", desc := "(Ljava/math/BigInteger;ZZI)Ljava/math/BigInteger;", sig := { parameters := [(.object "java/math/BigInteger"), .boolean, .boolean, .int], returnType := some (.object "java/math/BigInteger") }, accessFlags := 2, code := some k6c4 }
def k6c5 : Code := { maxStack := 4, maxLocals := 13, code := jdk_2097_method_43_code, exceptionTable := #[], attributes := #[] }
def k6m5 : Method := { name := "multiplyByInt", desc := "([III)Ljava/math/BigInteger;", sig := { parameters := [(.array .int), .int, .int], returnType := some (.object "java/math/BigInteger") }, accessFlags := 10, code := some k6c5 }
def k6c6 : Code := { maxStack := 2, maxLocals := 2, code := jdk_2097_method_61_code, exceptionTable := #[], attributes := #[] }
def k6m6 : Method := { name := "divide", desc := "(Ljava/math/BigInteger;)Ljava/math/BigInteger;", sig := { parameters := [(.object "java/math/BigInteger")], returnType := some (.object "java/math/BigInteger") }, accessFlags := 1, code := some k6c6 }
def k6c7 : Code := { maxStack := 4, maxLocals := 5, code := jdk_2097_method_62_code, exceptionTable := #[], attributes := #[] }
def k6m7 : Method := { name := "divideKnuth", desc := "(Ljava/math/BigInteger;)Ljava/math/BigInteger;", sig := { parameters := [(.object "java/math/BigInteger")], returnType := some (.object "java/math/BigInteger") }, accessFlags := 2, code := some k6c7 }
def k6c8 : Code := { maxStack := 3, maxLocals := 5, code := jdk_2097_method_73_code, exceptionTable := #[], attributes := #[] }
def k6m8 : Method := { name := "gcd", desc := "(Ljava/math/BigInteger;)Ljava/math/BigInteger;", sig := { parameters := [(.object "java/math/BigInteger")], returnType := some (.object "java/math/BigInteger") }, accessFlags := 1, code := some k6c8 }
def k6c9 : Code := { maxStack := 2, maxLocals := 1, code := jdk_2097_method_74_code, exceptionTable := #[], attributes := #[] }
def k6m9 : Method := { name := "bitLengthForInt", desc := "(I)I", sig := { parameters := [.int], returnType := some .int }, accessFlags := 8, code := some k6c9 }
def k6c10 : Code := { maxStack := 1, maxLocals := 1, code := jdk_2097_method_79_code, exceptionTable := #[], attributes := #[] }
def k6m10 : Method := { name := "abs", desc := "()Ljava/math/BigInteger;", sig := { parameters := [], returnType := some (.object "java/math/BigInteger") }, accessFlags := 1, code := some k6c10 }
def k6c11 : Code := { maxStack := 1, maxLocals := 1, code := jdk_2097_method_81_code, exceptionTable := #[], attributes := #[] }
def k6m11 : Method := { name := "signum", desc := "()I", sig := { parameters := [], returnType := some .int }, accessFlags := 1, code := some k6c11 }
def k6c12 : Code := { maxStack := 5, maxLocals := 10, code := jdk_2097_method_102_code, exceptionTable := #[], attributes := #[] }
def k6m12 : Method := { name := "shiftLeft", desc := "([II)[I", sig := { parameters := [(.array .int), .int], returnType := some (.array .int) }, accessFlags := 10, code := some k6c12 }
def k6c13 : Code := { maxStack := 2, maxLocals := 2, code := jdk_2097_method_121_code, exceptionTable := #[], attributes := #[] }
def k6m13 : Method := { name := "compareTo", desc := "(Ljava/math/BigInteger;)I", sig := { parameters := [(.object "java/math/BigInteger")], returnType := some .int }, accessFlags := 1, code := some k6c13 }
def k6c14 : Code := { maxStack := 6, maxLocals := 9, code := jdk_2097_method_122_code, exceptionTable := #[], attributes := #[] }
def k6m14 : Method := { name := "compareMagnitude", desc := "(Ljava/math/BigInteger;)I", sig := { parameters := [(.object "java/math/BigInteger")], returnType := some .int }, accessFlags := 16, code := some k6c14 }
def k6c15 : Code := { maxStack := 3, maxLocals := 7, code := jdk_2097_method_124_code, exceptionTable := #[], attributes := #[] }
def k6m15 : Method := { name := "equals", desc := "(Ljava/lang/Object;)Z", sig := { parameters := [(.object "java/lang/Object")], returnType := some .boolean }, accessFlags := 1, code := some k6c15 }
/-- java/math/BigInteger -/
def k6 : Class := { plain "java/math/BigInteger" (some 5) with
  accessFlags := 33
  interfaces := #[2]
  cf := some (fileOf pool6 23 #[.nestMembers #[907, 472, 1531, 1533]] #[{ accessFlags := 0, nameIndex := 7, descriptorIndex := 177, attributes := #[] }, { accessFlags := 9, nameIndex := 237, descriptorIndex := 238, attributes := #[] }, { accessFlags := 2, nameIndex := 7, descriptorIndex := 358, attributes := #[] }, { accessFlags := 1, nameIndex := 318, descriptorIndex := 184, attributes := #[] }, { accessFlags := 2, nameIndex := 318, descriptorIndex := 399, attributes := #[] }, { accessFlags := 10, nameIndex := 405, descriptorIndex := 406, attributes := #[] }, { accessFlags := 1, nameIndex := 642, descriptorIndex := 184, attributes := #[] }, { accessFlags := 2, nameIndex := 537, descriptorIndex := 184, attributes := #[] }, { accessFlags := 1, nameIndex := 1379, descriptorIndex := 184, attributes := #[] }, { accessFlags := 8, nameIndex := 607, descriptorIndex := 82, attributes := #[] }, { accessFlags := 1, nameIndex := 298, descriptorIndex := 322, attributes := #[] }, { accessFlags := 1, nameIndex := 34, descriptorIndex := 74, attributes := #[] }, { accessFlags := 10, nameIndex := 431, descriptorIndex := 432, attributes := #[] }, { accessFlags := 1, nameIndex := 337, descriptorIndex := 338, attributes := #[] }, { accessFlags := 16, nameIndex := 367, descriptorIndex := 338, attributes := #[] }, { accessFlags := 1, nameIndex := 263, descriptorIndex := 264, attributes := #[] }] 33 4 #[1160] #[{ accessFlags := 16, nameIndex := 34, descriptorIndex := 35, attributes := #[] }, { accessFlags := 16, nameIndex := 30, descriptorIndex := 31, attributes := #[] }, { accessFlags := 2, nameIndex := 752, descriptorIndex := 35, attributes := #[] }, { accessFlags := 2, nameIndex := 749, descriptorIndex := 35, attributes := #[] }, { accessFlags := 2, nameIndex := 746, descriptorIndex := 35, attributes := #[] }, { accessFlags := 2, nameIndex := 868, descriptorIndex := 35, attributes := #[] }, { accessFlags := 24, nameIndex := 1162, descriptorIndex := 1163, attributes := #[] }, { accessFlags := 26, nameIndex := 1165, descriptorIndex := 35, attributes := #[] }, { accessFlags := 26, nameIndex := 1166, descriptorIndex := 35, attributes := #[] }, { accessFlags := 26, nameIndex := 1168, descriptorIndex := 35, attributes := #[] }, { accessFlags := 26, nameIndex := 1170, descriptorIndex := 35, attributes := #[] }, { accessFlags := 26, nameIndex := 1172, descriptorIndex := 35, attributes := #[] }, { accessFlags := 26, nameIndex := 1174, descriptorIndex := 35, attributes := #[] }, { accessFlags := 24, nameIndex := 1176, descriptorIndex := 35, attributes := #[] }, { accessFlags := 24, nameIndex := 1177, descriptorIndex := 35, attributes := #[] }, { accessFlags := 26, nameIndex := 1179, descriptorIndex := 35, attributes := #[] }, { accessFlags := 26, nameIndex := 1181, descriptorIndex := 35, attributes := #[] }, { accessFlags := 26, nameIndex := 1182, descriptorIndex := 35, attributes := #[] }, { accessFlags := 10, nameIndex := 95, descriptorIndex := 96, attributes := #[] }, { accessFlags := 26, nameIndex := 1184, descriptorIndex := 35, attributes := #[] }, { accessFlags := 26, nameIndex := 1186, descriptorIndex := 35, attributes := #[] }, { accessFlags := 26, nameIndex := 180, descriptorIndex := 27, attributes := #[] }, { accessFlags := 26, nameIndex := 1188, descriptorIndex := 35, attributes := #[] }, { accessFlags := 26, nameIndex := 349, descriptorIndex := 350, attributes := #[] }, { accessFlags := 26, nameIndex := 355, descriptorIndex := 350, attributes := #[] }, { accessFlags := 74, nameIndex := 821, descriptorIndex := 822, attributes := #[] }, { accessFlags := 26, nameIndex := 763, descriptorIndex := 764, attributes := #[] }, { accessFlags := 26, nameIndex := 759, descriptorIndex := 760, attributes := #[] }, { accessFlags := 25, nameIndex := 26, descriptorIndex := 27, attributes := #[] }, { accessFlags := 25, nameIndex := 260, descriptorIndex := 27, attributes := #[] }, { accessFlags := 25, nameIndex := 267, descriptorIndex := 27, attributes := #[] }, { accessFlags := 26, nameIndex := 581, descriptorIndex := 27, attributes := #[] }, { accessFlags := 25, nameIndex := 1051, descriptorIndex := 27, attributes := #[] }, { accessFlags := 8, nameIndex := 673, descriptorIndex := 31, attributes := #[] }, { accessFlags := 10, nameIndex := 778, descriptorIndex := 35, attributes := #[] }, { accessFlags := 26, nameIndex := 781, descriptorIndex := 782, attributes := #[] }, { accessFlags := 10, nameIndex := 798, descriptorIndex := 31, attributes := #[] }, { accessFlags := 10, nameIndex := 792, descriptorIndex := 350, attributes := #[] }, { accessFlags := 10, nameIndex := 106, descriptorIndex := 31, attributes := #[] }, { accessFlags := 10, nameIndex := 119, descriptorIndex := 31, attributes := #[] }, { accessFlags := 26, nameIndex := 1192, descriptorIndex := 1163, attributes := #[] }, { accessFlags := 26, nameIndex := 1158, descriptorIndex := 1159, attributes := #[] }, { accessFlags := 4120, nameIndex := 311, descriptorIndex := 312, attributes := #[] }])
  fields := #[{ name := "signum", type := .int, accessFlags := 16, slot := 0, constantValue := 0 }, { name := "mag", type := (.array .int), accessFlags := 16, slot := 1, constantValue := 0 }, { name := "bitCountPlusOne", type := .int, accessFlags := 2, slot := 2, constantValue := 0 }, { name := "bitLengthPlusOne", type := .int, accessFlags := 2, slot := 3, constantValue := 0 }, { name := "lowestSetBitPlusTwo", type := .int, accessFlags := 2, slot := 4, constantValue := 0 }, { name := "firstNonzeroIntNumPlusTwo", type := .int, accessFlags := 2, slot := 5, constantValue := 0 }, { name := "LONG_MASK", type := .long, accessFlags := 24, slot := 0, constantValue := 0 }, { name := "MAX_MAG_LENGTH", type := .int, accessFlags := 26, slot := 1, constantValue := 0 }, { name := "PRIME_SEARCH_BIT_LENGTH_LIMIT", type := .int, accessFlags := 26, slot := 2, constantValue := 0 }, { name := "KARATSUBA_THRESHOLD", type := .int, accessFlags := 26, slot := 3, constantValue := 0 }, { name := "TOOM_COOK_THRESHOLD", type := .int, accessFlags := 26, slot := 4, constantValue := 0 }, { name := "KARATSUBA_SQUARE_THRESHOLD", type := .int, accessFlags := 26, slot := 5, constantValue := 0 }, { name := "TOOM_COOK_SQUARE_THRESHOLD", type := .int, accessFlags := 26, slot := 6, constantValue := 0 }, { name := "BURNIKEL_ZIEGLER_THRESHOLD", type := .int, accessFlags := 24, slot := 7, constantValue := 0 }, { name := "BURNIKEL_ZIEGLER_OFFSET", type := .int, accessFlags := 24, slot := 8, constantValue := 0 }, { name := "SCHOENHAGE_BASE_CONVERSION_THRESHOLD", type := .int, accessFlags := 26, slot := 9, constantValue := 0 }, { name := "MULTIPLY_SQUARE_THRESHOLD", type := .int, accessFlags := 26, slot := 10, constantValue := 0 }, { name := "MONTGOMERY_INTRINSIC_THRESHOLD", type := .int, accessFlags := 26, slot := 11, constantValue := 0 }, { name := "bitsPerDigit", type := (.array .long), accessFlags := 10, slot := 12, constantValue := 0 }, { name := "SMALL_PRIME_THRESHOLD", type := .int, accessFlags := 26, slot := 13, constantValue := 0 }, { name := "DEFAULT_PRIME_CERTAINTY", type := .int, accessFlags := 26, slot := 14, constantValue := 0 }, { name := "SMALL_PRIME_PRODUCT", type := (.object "java/math/BigInteger"), accessFlags := 26, slot := 15, constantValue := 0 }, { name := "MAX_CONSTANT", type := .int, accessFlags := 26, slot := 16, constantValue := 0 }, { name := "posConst", type := (.array (.object "java/math/BigInteger")), accessFlags := 26, slot := 17, constantValue := 0 }, { name := "negConst", type := (.array (.object "java/math/BigInteger")), accessFlags := 26, slot := 18, constantValue := 0 }, { name := "powerCache", type := (.array (.array (.object "java/math/BigInteger"))), accessFlags := 74, slot := 19, constantValue := 0 }, { name := "logCache", type := (.array .double), accessFlags := 26, slot := 20, constantValue := 0 }, { name := "LOG_TWO", type := .double, accessFlags := 26, slot := 21, constantValue := 0 }, { name := "ZERO", type := (.object "java/math/BigInteger"), accessFlags := 25, slot := 22, constantValue := 0 }, { name := "ONE", type := (.object "java/math/BigInteger"), accessFlags := 25, slot := 23, constantValue := 0 }, { name := "TWO", type := (.object "java/math/BigInteger"), accessFlags := 25, slot := 24, constantValue := 0 }, { name := "NEGATIVE_ONE", type := (.object "java/math/BigInteger"), accessFlags := 26, slot := 25, constantValue := 0 }, { name := "TEN", type := (.object "java/math/BigInteger"), accessFlags := 25, slot := 26, constantValue := 0 }, { name := "bnExpModThreshTable", type := (.array .int), accessFlags := 8, slot := 27, constantValue := 0 }, { name := "NUM_ZEROS", type := .int, accessFlags := 10, slot := 28, constantValue := 0 }, { name := "ZEROS", type := (.object "java/lang/String"), accessFlags := 26, slot := 29, constantValue := 0 }, { name := "digitsPerLong", type := (.array .int), accessFlags := 10, slot := 30, constantValue := 0 }, { name := "longRadix", type := (.array (.object "java/math/BigInteger")), accessFlags := 10, slot := 31, constantValue := 0 }, { name := "digitsPerInt", type := (.array .int), accessFlags := 10, slot := 32, constantValue := 0 }, { name := "intRadix", type := (.array .int), accessFlags := 10, slot := 33, constantValue := 0 }, { name := "serialVersionUID", type := .long, accessFlags := 26, slot := 34, constantValue := 0 }, { name := "serialPersistentFields", type := (.array (.object "java/io/ObjectStreamField")), accessFlags := 26, slot := 35, constantValue := 0 }, { name := "$assertionsDisabled", type := .boolean, accessFlags := 4120, slot := 36, constantValue := 0 }]
  methods := #[k6m0, k6m1, k6m2, k6m3, k6m4, k6m5, k6m6, k6m7, k6m8, k6m9, k6m10, k6m11, k6m12, k6m13, k6m14, k6m15]
  instanceTypes := #[.int, (.array .int), .int, .int, .int, .int]
  staticTypes := #[.long, .int, .int, .int, .int, .int, .int, .int, .int, .int, .int, .int, (.array .long), .int, .int, (.object "java/math/BigInteger"), .int, (.array (.object "java/math/BigInteger")), (.array (.object "java/math/BigInteger")), (.array (.array (.object "java/math/BigInteger"))), (.array .double), .double, (.object "java/math/BigInteger"), (.object "java/math/BigInteger"), (.object "java/math/BigInteger"), (.object "java/math/BigInteger"), (.object "java/math/BigInteger"), (.array .int), .int, (.object "java/lang/String"), (.array .int), (.array (.object "java/math/BigInteger")), (.array .int), (.array .int), .long, (.array (.object "java/io/ObjectStreamField")), .boolean]
  resolved := Array.replicate 1542 none
  statics := some 0 }

def pool7 : Array CpInfo := pool [(2, .class_ 4), (1, u "java/lang/CharSequence"), (42, .class_ 48), (0, u "java/lang/CharSequence$1CodePointIterator"), (10, .class_ 60), (0, u "java/lang/CharSequence$1CharIterator"), (5, .class_ 67), (0, u "java/lang/Object")] 63

/-- java/lang/CharSequence -/
def k7 : Class := { plain "java/lang/CharSequence" (some 0) with
  accessFlags := 1537
  interfaces := #[]
  cf := some (fileOf pool7 2 #[.nestMembers #[47, 59]] #[] 1537 66 #[] #[])
  fields := #[]
  methods := #[]
  instanceTypes := #[]
  staticTypes := #[]
  resolved := Array.replicate 131 none
  statics := none }

def pool8 : Array CpInfo := pool [(1, .class_ 2), (0, u "java/lang/constant/Constable"), (0, .class_ 4), (0, u "java/lang/Object")] 6

/-- java/lang/constant/Constable -/
def k8 : Class := { plain "java/lang/constant/Constable" (some 0) with
  accessFlags := 1537
  interfaces := #[]
  cf := some (fileOf pool8 1 #[] #[] 1537 3 #[] #[])
  fields := #[]
  methods := #[]
  instanceTypes := #[]
  staticTypes := #[]
  resolved := Array.replicate 11 none
  statics := none }

def pool9 : Array CpInfo := pool [(1, .class_ 2), (0, u "java/lang/constant/ConstantDesc"), (0, .class_ 4), (0, u "java/lang/Object")] 32

/-- java/lang/constant/ConstantDesc -/
def k9 : Class := { plain "java/lang/constant/ConstantDesc" (some 0) with
  accessFlags := 1537
  interfaces := #[]
  cf := some (fileOf pool9 1 #[] #[] 1537 3 #[] #[])
  fields := #[]
  methods := #[]
  instanceTypes := #[]
  staticTypes := #[]
  resolved := Array.replicate 37 none
  statics := none }

def pool10 : Array CpInfo := pool [(2, .class_ 4), (1, u "java/lang/Object"), (0, u "<init>"), (0, u "()V"), (3, .class_ 12), (1, u "java/lang/String"), (0, u "value"), (0, u "[B"), (2, u "coder"), (0, u "B"), (2, u "hash"), (0, u "I"), (2, u "hashIsZero"), (0, u "Z"), (13, u "COMPACT_STRINGS"), (534, .class_ 576), (0, u "java/lang/CharSequence"), (22, u "CASE_INSENSITIVE_ORDER"), (0, u "Ljava/util/Comparator;"), (500, u "serialPersistentFields"), (0, u "[Ljava/io/ObjectStreamField;"), (0, .class_ 1104), (0, u "java/lang/String$CaseInsensitiveComparator"), (1, .class_ 1107), (0, u "java/io/Serializable"), (0, .class_ 1109), (0, u "java/lang/Comparable"), (0, .class_ 1111), (0, u "java/lang/constant/Constable"), (0, .class_ 1113), (0, u "java/lang/constant/ConstantDesc"), (2, u "serialVersionUID"), (0, u "J"), (3, u "REPL"), (0, u "C"), (2, u "LATIN1"), (1, u "UTF16")] 323

def k10m0 : Method := { name := "<init>", desc := "()V", sig := { parameters := [], returnType := none }, accessFlags := 1, code := none }
/-- java/lang/String -/
def k10 : Class := { plain "java/lang/String" (some 0) with
  accessFlags := 49
  interfaces := #[4, 2, 7, 8, 9]
  cf := some (fileOf pool10 10 #[.nestMembers #[1103]] #[{ accessFlags := 1, nameIndex := 5, descriptorIndex := 6, attributes := #[] }] 49 2 #[1106, 1108, 575, 1110, 1112] #[{ accessFlags := 18, nameIndex := 13, descriptorIndex := 14, attributes := #[] }, { accessFlags := 18, nameIndex := 17, descriptorIndex := 18, attributes := #[] }, { accessFlags := 2, nameIndex := 21, descriptorIndex := 22, attributes := #[] }, { accessFlags := 2, nameIndex := 25, descriptorIndex := 26, attributes := #[] }, { accessFlags := 26, nameIndex := 1116, descriptorIndex := 1117, attributes := #[] }, { accessFlags := 24, nameIndex := 40, descriptorIndex := 26, attributes := #[] }, { accessFlags := 26, nameIndex := 1101, descriptorIndex := 1102, attributes := #[] }, { accessFlags := 26, nameIndex := 1121, descriptorIndex := 1122, attributes := #[] }, { accessFlags := 25, nameIndex := 599, descriptorIndex := 600, attributes := #[] }, { accessFlags := 24, nameIndex := 1125, descriptorIndex := 18, attributes := #[] }, { accessFlags := 24, nameIndex := 1127, descriptorIndex := 18, attributes := #[] }])
  fields := #[{ name := "value", type := (.array .byte), accessFlags := 18, slot := 0, constantValue := 0 }, { name := "coder", type := .byte, accessFlags := 18, slot := 1, constantValue := 0 }, { name := "hash", type := .int, accessFlags := 2, slot := 2, constantValue := 0 }, { name := "hashIsZero", type := .boolean, accessFlags := 2, slot := 3, constantValue := 0 }, { name := "serialVersionUID", type := .long, accessFlags := 26, slot := 0, constantValue := 0 }, { name := "COMPACT_STRINGS", type := .boolean, accessFlags := 24, slot := 1, constantValue := 0 }, { name := "serialPersistentFields", type := (.array (.object "java/io/ObjectStreamField")), accessFlags := 26, slot := 2, constantValue := 0 }, { name := "REPL", type := .char, accessFlags := 26, slot := 3, constantValue := 0 }, { name := "CASE_INSENSITIVE_ORDER", type := (.object "java/util/Comparator"), accessFlags := 25, slot := 4, constantValue := 0 }, { name := "LATIN1", type := .byte, accessFlags := 24, slot := 5, constantValue := 0 }, { name := "UTF16", type := .byte, accessFlags := 24, slot := 6, constantValue := 0 }]
  methods := #[k10m0]
  instanceTypes := #[(.array .byte), .byte, .int, .boolean]
  staticTypes := #[.long, .boolean, (.array (.object "java/io/ObjectStreamField")), .char, (.object "java/util/Comparator"), .byte, .byte]
  resolved := Array.replicate 1451 none
  statics := none }

def pool11 : Array CpInfo := pool [(2, .class_ 4), (1, u "java/lang/Object"), (0, u "<init>"), (0, u "()V"), (35, .class_ 44), (1, u "java/util/Objects"), (0, u "requireNonNull"), (48, u "(Ljava/lang/Object;Ljava/lang/String;)Ljava/lang/Object;")] 89

def k11m0 : Method := { name := "<init>", desc := "()V", sig := { parameters := [], returnType := none }, accessFlags := 2, code := none }
def k11c1 : Code := { maxStack := 3, maxLocals := 2, code := jdk_31_method_11_code, exceptionTable := #[], attributes := #[] }
def k11m1 : Method := { name := "requireNonNull", desc := "(Ljava/lang/Object;Ljava/lang/String;)Ljava/lang/Object;", sig := { parameters := [(.object "java/lang/Object"), (.object "java/lang/String")], returnType := some (.object "java/lang/Object") }, accessFlags := 9, code := some k11c1 }
/-- java/util/Objects -/
def k11 : Class := { plain "java/util/Objects" (some 0) with
  accessFlags := 49
  interfaces := #[]
  cf := some (fileOf pool11 42 #[] #[{ accessFlags := 2, nameIndex := 5, descriptorIndex := 6, attributes := #[] }, { accessFlags := 9, nameIndex := 45, descriptorIndex := 94, attributes := #[] }] 49 2 #[] #[])
  fields := #[]
  methods := #[k11m0, k11m1]
  instanceTypes := #[]
  staticTypes := #[]
  resolved := Array.replicate 184 none
  statics := none }

def pool12 : Array CpInfo := pool [(1, .class_ 2), (0, u "java/math/BigInteger"), (2, .methodref 6 7), (0, .class_ 8), (0, .nameAndType 9 10), (0, u "java/lang/Object"), (0, u "<init>"), (0, u "()V"), (0, .fieldref 12 13), (0, .class_ 14), (0, .nameAndType 15 16), (0, u "java/math/MutableBigInteger"), (0, u "offset"), (0, u "I"), (0, .fieldref 12 18), (0, .nameAndType 19 20), (0, u "value"), (0, u "[I"), (0, .fieldref 12 22), (0, .nameAndType 23 16), (0, u "intLen"), (0, .fieldref 1 25), (0, .nameAndType 26 20), (0, u "mag"), (0, .methodref 28 29), (0, .class_ 30), (0, .nameAndType 31 32), (0, u "java/util/Arrays"), (0, u "copyOf"), (0, u "([II)[I"), (7, u "([II)V"), (2, u "$assertionsDisabled"), (0, u "Z"), (7, .long 4294967295), (1, .fieldref 1 55), (0, .nameAndType 56 57), (0, u "ZERO"), (0, u "Ljava/math/BigInteger;"), (0, .methodref 12 59), (0, .nameAndType 60 61), (0, u "getMagnitudeArray"), (0, u "()[I"), (0, .methodref 1 63), (0, .nameAndType 9 40), (0, .methodref 12 65), (0, .nameAndType 66 10), (0, u "normalize"), (6, u "toBigInteger"), (0, u "(I)Ljava/math/BigInteger;"), (13, .integer 2147483648), (0, .methodref 90 91), (0, .class_ 92), (0, .nameAndType 93 94), (0, u "java/lang/Integer"), (0, u "numberOfTrailingZeros"), (0, u "(I)I"), (13, .methodref 12 109), (0, .nameAndType 110 111), (0, u "rightShift"), (0, u "(I)V"), (0, .methodref 1 113), (0, .nameAndType 114 94), (0, u "bitLengthForInt"), (0, .methodref 12 116), (0, .nameAndType 117 111), (0, u "primitiveLeftShift"), (0, .methodref 12 119), (0, .nameAndType 120 111), (0, u "primitiveRightShift"), (10, .class_ 133), (1, u "java/lang/Math"), (1, u "(II)I"), (6, .methodref 12 143), (0, .nameAndType 144 145), (0, u "compare"), (0, u "(Ljava/math/MutableBigInteger;)I"), (3, .methodref 12 150), (0, .nameAndType 151 10), (0, u "clear"), (0, .methodref 90 153), (0, .nameAndType 154 94), (0, u "numberOfLeadingZeros"), (7, u "(Ljava/math/MutableBigInteger;Ljava/math/MutableBigInteger;Z)Ljava/math/MutableBigInteger;"), (2, u "divideKnuth"), (11, .methodref 12 7), (0, .methodref 12 179), (0, .nameAndType 180 181), (0, u "divideOneWord"), (0, u "(ILjava/math/MutableBigInteger;)I"), (2, .methodref 12 185), (0, .nameAndType 186 187), (0, u "getLowestSetBit"), (0, u "()I"), (57, u "(Ljava/math/BigInteger;)V"), (11, u "ONE"), (0, u "Ljava/math/MutableBigInteger;"), (2, u "([I)V"), (67, .methodref 131 330), (0, .nameAndType 331 94), (0, u "abs"), (0, .methodref 12 333), (0, .nameAndType 334 335), (0, u "binaryGCD"), (0, u "(Ljava/math/MutableBigInteger;)Ljava/math/MutableBigInteger;"), (2, .methodref 12 339), (0, .nameAndType 340 135), (0, u "binaryGcd"), (0, .methodref 12 342), (0, .nameAndType 343 145), (0, u "difference"), (67, u "KNUTH_POW2_THRESH_LEN"), (2, u "KNUTH_POW2_THRESH_ZEROS"), (137, u "hybridGCD")] 37

def k12c0 : Code := { maxStack := 2, maxLocals := 1, code := jdk_2101_method_1_code, exceptionTable := #[], attributes := #[] }
def k12m0 : Method := { name := "<init>", desc := "()V", sig := { parameters := [], returnType := none }, accessFlags := 0, code := some k12c0 }
def k12c1 : Code := { maxStack := 2, maxLocals := 2, code := jdk_2101_method_3_code, exceptionTable := #[], attributes := #[] }
def k12m1 : Method := { name := "<init>", desc := "([I)V", sig := { parameters := [(.array .int)], returnType := none }, accessFlags := 0, code := some k12c1 }
def k12c2 : Code := { maxStack := 3, maxLocals := 2, code := jdk_2101_method_4_code, exceptionTable := #[], attributes := #[] }
def k12m2 : Method := { name := "<init>", desc := "(Ljava/math/BigInteger;)V", sig := { parameters := [(.object "java/math/BigInteger")], returnType := none }, accessFlags := 0, code := some k12c2 }
def k12c3 : Code := { maxStack := 4, maxLocals := 2, code := jdk_2101_method_7_code, exceptionTable := #[], attributes := #[] }
def k12m3 : Method := { name := "getMagnitudeArray", desc := "()[I", sig := { parameters := [], returnType := some (.array .int) }, accessFlags := 2, code := some k12c3 }
def k12c4 : Code := { maxStack := 4, maxLocals := 2, code := jdk_2101_method_9_code, exceptionTable := #[], attributes := #[] }
def k12m4 : Method := { name := "toBigInteger", desc := "(I)Ljava/math/BigInteger;", sig := { parameters := [.int], returnType := some (.object "java/math/BigInteger") }, accessFlags := 0, code := some k12c4 }
def k12c5 : Code := { maxStack := 4, maxLocals := 3, code := jdk_2101_method_13_code, exceptionTable := #[], attributes := #[] }
def k12m5 : Method := { name := "clear", desc := "()V", sig := { parameters := [], returnType := none }, accessFlags := 0, code := some k12c5 }
def k12c6 : Code := { maxStack := 3, maxLocals := 8, code := jdk_2101_method_15_code, exceptionTable := #[], attributes := #[] }
def k12m6 : Method := { name := "compare", desc := "(Ljava/math/MutableBigInteger;)I", sig := { parameters := [(.object "java/math/MutableBigInteger")], returnType := some .int }, accessFlags := 16, code := some k12c6 }
def k12c7 : Code := { maxStack := 3, maxLocals := 3, code := jdk_2101_method_18_code, exceptionTable := #[], attributes := #[] }
def k12m7 : Method := { name := "getLowestSetBit", desc := "()I", sig := { parameters := [], returnType := some .int }, accessFlags := 18, code := some k12c7 }
def k12c8 : Code := { maxStack := 3, maxLocals := 4, code := jdk_2101_method_21_code, exceptionTable := #[], attributes := #[] }
def k12m8 : Method := { name := "normalize", desc := "()V", sig := { parameters := [], returnType := none }, accessFlags := 16, code := some k12c8 }
def k12c9 : Code := { maxStack := 3, maxLocals := 5, code := jdk_2101_method_35_code, exceptionTable := #[], attributes := #[] }
def k12m9 : Method := { name := "rightShift", desc := "(I)V", sig := { parameters := [.int], returnType := none }, accessFlags := 0, code := some k12c9 }
def k12c10 : Code := { maxStack := 5, maxLocals := 7, code := jdk_2101_method_41_code, exceptionTable := #[], attributes := #[] }
def k12m10 : Method := { name := "primitiveRightShift", desc := "(I)V", sig := { parameters := [.int], returnType := none }, accessFlags := 18, code := some k12c10 }
def k12c11 : Code := { maxStack := 5, maxLocals := 8, code := jdk_2101_method_42_code, exceptionTable := #[], attributes := #[] }
def k12m11 : Method := { name := "primitiveLeftShift", desc := "(I)V", sig := { parameters := [.int], returnType := none }, accessFlags := 18, code := some k12c11 }
def k12c12 : Code := { maxStack := 6, maxLocals := 8, code := jdk_2101_method_50_code, exceptionTable := #[], attributes := #[] }
def k12m12 : Method := { name := "difference", desc := "(Ljava/math/MutableBigInteger;)I", sig := { parameters := [(.object "java/math/MutableBigInteger")], returnType := some .int }, accessFlags := 2, code := some k12c12 }
def k12c13 : Code := { maxStack := 6, maxLocals := 15, code := jdk_2101_method_53_code, exceptionTable := #[], attributes := #[] }
def k12m13 : Method := { name := "divideOneWord", desc := "(ILjava/math/MutableBigInteger;)I", sig := { parameters := [.int, (.object "java/math/MutableBigInteger")], returnType := some .int }, accessFlags := 0, code := some k12c13 }
def k12c14 : Code := { maxStack := 5, maxLocals := 8, code := jdk_2101_method_57_code, exceptionTable := #[], attributes := #[] }
def k12m14 : Method := { name := "divideKnuth", desc := "(Ljava/math/MutableBigInteger;Ljava/math/MutableBigInteger;Z)Ljava/math/MutableBigInteger;", sig := { parameters := [(.object "java/math/MutableBigInteger"), (.object "java/math/MutableBigInteger"), .boolean], returnType := some (.object "java/math/MutableBigInteger") }, accessFlags := 0, code := some k12c14 }
def k12c15 : Code := { maxStack := 3, maxLocals := 5, code := jdk_2101_method_72_code, exceptionTable := #[], attributes := #[] }
def k12m15 : Method := { name := "hybridGCD", desc := "(Ljava/math/MutableBigInteger;)Ljava/math/MutableBigInteger;", sig := { parameters := [(.object "java/math/MutableBigInteger")], returnType := some (.object "java/math/MutableBigInteger") }, accessFlags := 0, code := some k12c15 }
def k12c16 : Code := { maxStack := 3, maxLocals := 13, code := jdk_2101_method_73_code, exceptionTable := #[], attributes := #[] }
def k12m16 : Method := { name := "binaryGCD", desc := "(Ljava/math/MutableBigInteger;)Ljava/math/MutableBigInteger;", sig := { parameters := [(.object "java/math/MutableBigInteger")], returnType := some (.object "java/math/MutableBigInteger") }, accessFlags := 2, code := some k12c16 }
def k12c17 : Code := { maxStack := 3, maxLocals := 5, code := jdk_2101_method_74_code, exceptionTable := #[], attributes := #[] }
def k12m17 : Method := { name := "binaryGcd", desc := "(II)I", sig := { parameters := [.int, .int], returnType := some .int }, accessFlags := 8, code := some k12c17 }
/-- java/math/MutableBigInteger -/
def k12 : Class := { plain "java/math/MutableBigInteger" (some 0) with
  accessFlags := 32
  interfaces := #[]
  cf := some (fileOf pool12 12 #[] #[{ accessFlags := 0, nameIndex := 9, descriptorIndex := 10, attributes := #[] }, { accessFlags := 0, nameIndex := 9, descriptorIndex := 261, attributes := #[] }, { accessFlags := 0, nameIndex := 9, descriptorIndex := 245, attributes := #[] }, { accessFlags := 2, nameIndex := 60, descriptorIndex := 61, attributes := #[] }, { accessFlags := 0, nameIndex := 73, descriptorIndex := 74, attributes := #[] }, { accessFlags := 0, nameIndex := 151, descriptorIndex := 10, attributes := #[] }, { accessFlags := 16, nameIndex := 144, descriptorIndex := 145, attributes := #[] }, { accessFlags := 18, nameIndex := 186, descriptorIndex := 187, attributes := #[] }, { accessFlags := 16, nameIndex := 66, descriptorIndex := 10, attributes := #[] }, { accessFlags := 0, nameIndex := 110, descriptorIndex := 111, attributes := #[] }, { accessFlags := 18, nameIndex := 120, descriptorIndex := 111, attributes := #[] }, { accessFlags := 18, nameIndex := 117, descriptorIndex := 111, attributes := #[] }, { accessFlags := 2, nameIndex := 343, descriptorIndex := 145, attributes := #[] }, { accessFlags := 0, nameIndex := 180, descriptorIndex := 181, attributes := #[] }, { accessFlags := 0, nameIndex := 165, descriptorIndex := 162, attributes := #[] }, { accessFlags := 0, nameIndex := 552, descriptorIndex := 335, attributes := #[] }, { accessFlags := 2, nameIndex := 334, descriptorIndex := 335, attributes := #[] }, { accessFlags := 8, nameIndex := 340, descriptorIndex := 135, attributes := #[] }] 32 6 #[] #[{ accessFlags := 0, nameIndex := 19, descriptorIndex := 20, attributes := #[] }, { accessFlags := 0, nameIndex := 23, descriptorIndex := 16, attributes := #[] }, { accessFlags := 0, nameIndex := 15, descriptorIndex := 16, attributes := #[] }, { accessFlags := 24, nameIndex := 257, descriptorIndex := 258, attributes := #[] }, { accessFlags := 24, nameIndex := 411, descriptorIndex := 16, attributes := #[] }, { accessFlags := 24, nameIndex := 414, descriptorIndex := 16, attributes := #[] }, { accessFlags := 4120, nameIndex := 43, descriptorIndex := 44, attributes := #[] }])
  fields := #[{ name := "value", type := (.array .int), accessFlags := 0, slot := 0, constantValue := 0 }, { name := "intLen", type := .int, accessFlags := 0, slot := 1, constantValue := 0 }, { name := "offset", type := .int, accessFlags := 0, slot := 2, constantValue := 0 }, { name := "ONE", type := (.object "java/math/MutableBigInteger"), accessFlags := 24, slot := 0, constantValue := 0 }, { name := "KNUTH_POW2_THRESH_LEN", type := .int, accessFlags := 24, slot := 1, constantValue := 0 }, { name := "KNUTH_POW2_THRESH_ZEROS", type := .int, accessFlags := 24, slot := 2, constantValue := 0 }, { name := "$assertionsDisabled", type := .boolean, accessFlags := 4120, slot := 3, constantValue := 0 }]
  methods := #[k12m0, k12m1, k12m2, k12m3, k12m4, k12m5, k12m6, k12m7, k12m8, k12m9, k12m10, k12m11, k12m12, k12m13, k12m14, k12m15, k12m16, k12m17]
  instanceTypes := #[(.array .int), .int, .int]
  staticTypes := #[(.object "java/math/MutableBigInteger"), .int, .int, .boolean]
  resolved := Array.replicate 590 none
  statics := none }

def pool13 : Array CpInfo := pool [(2, .class_ 4), (1, u "java/lang/Object"), (0, u "<init>"), (0, u "()V"), (7, .class_ 16), (1, u "java/util/Arrays"), (57, .class_ 76), (1, u "java/util/Arrays$NaturalOrder"), (32, u "()Ljava/lang/Object;"), (3, .class_ 115), (1, u "java/util/Arrays$LegacyMergeSort"), (1, u "Z"), (10, .nameAndType 129 109), (0, u "clone"), (172, u "copyOf"), (13, .methodref 317 128), (0, .class_ 318), (0, u "[I"), (56, .class_ 376), (0, u "java/util/Arrays$ArrayList"), (68, u "$assertionsDisabled"), (269, u "MIN_ARRAY_SORT_GRAN"), (0, u "I"), (2, u "INSERTIONSORT_THRESHOLD"), (151, u "([II)[I"), (103, .class_ 976), (0, u "java/util/Arrays$ArrayItr")] 52

def k13m0 : Method := { name := "<init>", desc := "()V", sig := { parameters := [], returnType := none }, accessFlags := 2, code := none }
def k13c1 : Code := { maxStack := 6, maxLocals := 3, code := jdk_65_method_123_code, exceptionTable := #[], attributes := #[] }
def k13m1 : Method := { name := "copyOf", desc := "([II)[I", sig := { parameters := [(.array .int), .int], returnType := some (.array .int) }, accessFlags := 9, code := some k13c1 }
/-- java/util/Arrays -/
def k13 : Class := { plain "java/util/Arrays" (some 0) with
  accessFlags := 49
  interfaces := #[]
  cf := some (fileOf pool13 14 #[.nestMembers #[975, 375, 113, 74]] #[{ accessFlags := 2, nameIndex := 5, descriptorIndex := 6, attributes := #[] }, { accessFlags := 9, nameIndex := 302, descriptorIndex := 871, attributes := #[] }] 49 2 #[] #[{ accessFlags := 26, nameIndex := 715, descriptorIndex := 716, attributes := #[] }, { accessFlags := 26, nameIndex := 719, descriptorIndex := 716, attributes := #[] }, { accessFlags := 4120, nameIndex := 445, descriptorIndex := 117, attributes := #[] }])
  fields := #[{ name := "MIN_ARRAY_SORT_GRAN", type := .int, accessFlags := 26, slot := 0, constantValue := 0 }, { name := "INSERTIONSORT_THRESHOLD", type := .int, accessFlags := 26, slot := 1, constantValue := 0 }, { name := "$assertionsDisabled", type := .boolean, accessFlags := 4120, slot := 2, constantValue := 0 }]
  methods := #[k13m0, k13m1]
  instanceTypes := #[]
  staticTypes := #[.int, .int, .boolean]
  resolved := Array.replicate 1029 none
  statics := none }

def pool14 : Array CpInfo := pool [(1, .class_ 2), (0, u "java/lang/Cloneable"), (0, .class_ 4), (0, u "java/lang/Object")] 2

/-- java/lang/Cloneable -/
def k14 : Class := { plain "java/lang/Cloneable" (some 0) with
  accessFlags := 1537
  interfaces := #[]
  cf := some (fileOf pool14 1 #[] #[] 1537 3 #[] #[])
  fields := #[]
  methods := #[]
  instanceTypes := #[]
  staticTypes := #[]
  resolved := Array.replicate 7 none
  statics := none }

def pool15 : Array CpInfo := pool [(1, .class_ 2), (0, u "java/lang/Math"), (1, .class_ 6), (1, u "java/lang/Object"), (0, u "<init>"), (0, u "()V"), (89, .class_ 100), (1, u "java/lang/Math$RandomNumberGeneratorHolder"), (23, u "abs"), (34, u "(I)I"), (12, u "negativeZeroFloatBits"), (0, u "J"), (2, u "negativeZeroDoubleBits"), (68, u "$assertionsDisabled"), (0, u "Z"), (91, u "twoToTheDoubleScaleDown"), (0, u "D"), (4, u "twoToTheDoubleScaleUp"), (9, u "E"), (3, u "PI"), (2, u "TAU"), (2, u "DEGREES_TO_RADIANS"), (0, u "RADIANS_TO_DEGREES")] 94

def k15m0 : Method := { name := "<init>", desc := "()V", sig := { parameters := [], returnType := none }, accessFlags := 2, code := none }
def k15c1 : Code := { maxStack := 1, maxLocals := 1, code := jdk_29_method_59_code, exceptionTable := #[], attributes := #[] }
def k15m1 : Method := { name := "abs", desc := "(I)I", sig := { parameters := [.int], returnType := some .int }, accessFlags := 9, code := some k15c1 }
/-- java/lang/Math -/
def k15 : Class := { plain "java/lang/Math" (some 0) with
  accessFlags := 49
  interfaces := #[]
  cf := some (fileOf pool15 1 #[.nestMembers #[98]] #[{ accessFlags := 2, nameIndex := 7, descriptorIndex := 8, attributes := #[] }, { accessFlags := 9, nameIndex := 124, descriptorIndex := 159, attributes := #[] }] 49 4 #[] #[{ accessFlags := 25, nameIndex := 354, descriptorIndex := 339, attributes := #[] }, { accessFlags := 25, nameIndex := 358, descriptorIndex := 339, attributes := #[] }, { accessFlags := 25, nameIndex := 361, descriptorIndex := 339, attributes := #[] }, { accessFlags := 26, nameIndex := 364, descriptorIndex := 339, attributes := #[] }, { accessFlags := 26, nameIndex := 365, descriptorIndex := 339, attributes := #[] }, { accessFlags := 26, nameIndex := 172, descriptorIndex := 173, attributes := #[] }, { accessFlags := 26, nameIndex := 176, descriptorIndex := 173, attributes := #[] }, { accessFlags := 8, nameIndex := 344, descriptorIndex := 339, attributes := #[] }, { accessFlags := 8, nameIndex := 338, descriptorIndex := 339, attributes := #[] }, { accessFlags := 4120, nameIndex := 245, descriptorIndex := 246, attributes := #[] }])
  fields := #[{ name := "E", type := .double, accessFlags := 25, slot := 0, constantValue := 0 }, { name := "PI", type := .double, accessFlags := 25, slot := 1, constantValue := 0 }, { name := "TAU", type := .double, accessFlags := 25, slot := 2, constantValue := 0 }, { name := "DEGREES_TO_RADIANS", type := .double, accessFlags := 26, slot := 3, constantValue := 0 }, { name := "RADIANS_TO_DEGREES", type := .double, accessFlags := 26, slot := 4, constantValue := 0 }, { name := "negativeZeroFloatBits", type := .long, accessFlags := 26, slot := 5, constantValue := 0 }, { name := "negativeZeroDoubleBits", type := .long, accessFlags := 26, slot := 6, constantValue := 0 }, { name := "twoToTheDoubleScaleUp", type := .double, accessFlags := 8, slot := 7, constantValue := 0 }, { name := "twoToTheDoubleScaleDown", type := .double, accessFlags := 8, slot := 8, constantValue := 0 }, { name := "$assertionsDisabled", type := .boolean, accessFlags := 4120, slot := 9, constantValue := 0 }]
  methods := #[k15m0, k15m1]
  instanceTypes := #[]
  staticTypes := #[.double, .double, .double, .double, .double, .long, .long, .double, .double, .boolean]
  resolved := Array.replicate 460 none
  statics := none }

def pool16 : Array CpInfo := pool [(1, .class_ 2), (0, u "java/lang/Integer"), (16, u "digits"), (0, u "[C"), (32, u "numberOfLeadingZeros"), (0, u "(I)I"), (30, u "DigitOnes"), (0, u "[B"), (2, u "DigitTens"), (99, .class_ 190), (0, u "java/lang/Integer$IntegerCache"), (3, u "I"), (8, .class_ 204), (0, u "java/lang/Number"), (2, u "value"), (56, .integer 65536), (0, .integer 1431655765), (0, .integer 858993459), (0, .integer 252645135), (34, u "TYPE"), (0, u "Ljava/lang/Class;"), (0, .class_ 305), (0, u "java/lang/Comparable"), (0, .class_ 307), (0, u "java/lang/constant/Constable"), (0, .class_ 309), (0, u "java/lang/constant/ConstantDesc"), (0, u "MIN_VALUE"), (1, u "MAX_VALUE"), (3, u "SIZE"), (1, u "BYTES"), (1, u "serialVersionUID"), (0, u "J"), (84, u "numberOfTrailingZeros"), (0, u "bitCount")] 45

def k16c0 : Code := { maxStack := 3, maxLocals := 2, code := jdk_33_method_47_code, exceptionTable := #[], attributes := #[] }
def k16m0 : Method := { name := "numberOfLeadingZeros", desc := "(I)I", sig := { parameters := [.int], returnType := some .int }, accessFlags := 9, code := some k16c0 }
def k16c1 : Code := { maxStack := 3, maxLocals := 2, code := jdk_33_method_48_code, exceptionTable := #[], attributes := #[] }
def k16m1 : Method := { name := "numberOfTrailingZeros", desc := "(I)I", sig := { parameters := [.int], returnType := some .int }, accessFlags := 9, code := some k16c1 }
def k16c2 : Code := { maxStack := 3, maxLocals := 1, code := jdk_33_method_49_code, exceptionTable := #[], attributes := #[] }
def k16m2 : Method := { name := "bitCount", desc := "(I)I", sig := { parameters := [.int], returnType := some .int }, accessFlags := 9, code := some k16c2 }
/-- java/lang/Integer -/
def k16 : Class := { plain "java/lang/Integer" (some 5) with
  accessFlags := 49
  interfaces := #[2, 8, 9]
  cf := some (fileOf pool16 1 #[.nestMembers #[189]] #[{ accessFlags := 9, nameIndex := 53, descriptorIndex := 54, attributes := #[] }, { accessFlags := 9, nameIndex := 406, descriptorIndex := 54, attributes := #[] }, { accessFlags := 9, nameIndex := 407, descriptorIndex := 54, attributes := #[] }] 49 203 #[304, 306, 308] #[{ accessFlags := 25, nameIndex := 310, descriptorIndex := 194, attributes := #[] }, { accessFlags := 25, nameIndex := 312, descriptorIndex := 194, attributes := #[] }, { accessFlags := 25, nameIndex := 302, descriptorIndex := 303, attributes := #[] }, { accessFlags := 24, nameIndex := 19, descriptorIndex := 20, attributes := #[] }, { accessFlags := 24, nameIndex := 89, descriptorIndex := 86, attributes := #[] }, { accessFlags := 24, nameIndex := 85, descriptorIndex := 86, attributes := #[] }, { accessFlags := 18, nameIndex := 207, descriptorIndex := 194, attributes := #[] }, { accessFlags := 25, nameIndex := 316, descriptorIndex := 194, attributes := #[] }, { accessFlags := 25, nameIndex := 318, descriptorIndex := 194, attributes := #[] }, { accessFlags := 26, nameIndex := 320, descriptorIndex := 321, attributes := #[] }])
  fields := #[{ name := "MIN_VALUE", type := .int, accessFlags := 25, slot := 0, constantValue := 0 }, { name := "MAX_VALUE", type := .int, accessFlags := 25, slot := 1, constantValue := 0 }, { name := "TYPE", type := (.object "java/lang/Class"), accessFlags := 25, slot := 2, constantValue := 0 }, { name := "digits", type := (.array .char), accessFlags := 24, slot := 3, constantValue := 0 }, { name := "DigitTens", type := (.array .byte), accessFlags := 24, slot := 4, constantValue := 0 }, { name := "DigitOnes", type := (.array .byte), accessFlags := 24, slot := 5, constantValue := 0 }, { name := "value", type := .int, accessFlags := 18, slot := 0, constantValue := 0 }, { name := "SIZE", type := .int, accessFlags := 25, slot := 6, constantValue := 0 }, { name := "BYTES", type := .int, accessFlags := 25, slot := 7, constantValue := 0 }, { name := "serialVersionUID", type := .long, accessFlags := 26, slot := 8, constantValue := 0 }]
  methods := #[k16m0, k16m1, k16m2]
  instanceTypes := #[.int]
  staticTypes := #[.int, .int, (.object "java/lang/Class"), (.array .char), (.array .byte), (.array .byte), .int, .int, .long]
  resolved := Array.replicate 453 none
  statics := none }

def pool17 : Array CpInfo := pool [(2, .class_ 4), (1, u "java/lang/Object"), (0, u "<init>"), (0, u "()V"), (1, .class_ 10), (1, u "java/lang/System"), (0, u "allowSecurityManager"), (0, u "I"), (16, u "cons"), (0, u "Ljava/io/Console;"), (77, .class_ 110), (1, u "java/lang/System$CallersHolder"), (43, u "initialErrStream"), (0, u "Ljava/io/PrintStream;"), (19, u "security"), (0, u "Ljava/lang/SecurityManager;"), (31, .class_ 209), (0, u "java/lang/System$1"), (7, u "props"), (0, u "Ljava/util/Properties;"), (2, u "lineSeparator"), (0, u "Ljava/lang/String;"), (96, .class_ 321), (1, u "java/lang/System$LoggerFinder"), (5, .class_ 328), (0, u "java/lang/System$Logger"), (67, u "err"), (2, u "out"), (91, u "notSupportedJnuEncoding"), (15, u "in"), (17, u "initialIn"), (0, u "Ljava/io/InputStream;"), (35, u "bootLayer"), (0, u "Ljava/lang/ModuleLayer;"), (99, .class_ 664), (0, u "java/lang/System$2"), (9, u "NEVER"), (2, u "MAYBE"), (49, u "arraycopy"), (0, u "(Ljava/lang/Object;ILjava/lang/Object;II)V"), (72, .class_ 802), (0, u "java/lang/System$Logger$Level")] 31

def k17m0 : Method := { name := "<init>", desc := "()V", sig := { parameters := [], returnType := none }, accessFlags := 2, code := none }
def k17m1 : Method := { name := "arraycopy", desc := "(Ljava/lang/Object;ILjava/lang/Object;II)V", sig := { parameters := [(.object "java/lang/Object"), .int, (.object "java/lang/Object"), .int, .int], returnType := none }, accessFlags := 265, code := none }
/-- java/lang/System -/
def k17 : Class := { plain "java/lang/System" (some 0) with
  accessFlags := 49
  interfaces := #[]
  cf := some (fileOf pool17 8 #[.nestMembers #[319, 327, 801, 108, 663, 208]] #[{ accessFlags := 2, nameIndex := 5, descriptorIndex := 6, attributes := #[] }, { accessFlags := 265, nameIndex := 727, descriptorIndex := 728, attributes := #[] }] 49 2 #[] #[{ accessFlags := 25, nameIndex := 507, descriptorIndex := 526, attributes := #[] }, { accessFlags := 25, nameIndex := 399, descriptorIndex := 155, attributes := #[] }, { accessFlags := 25, nameIndex := 396, descriptorIndex := 155, attributes := #[] }, { accessFlags := 10, nameIndex := 525, descriptorIndex := 526, attributes := #[] }, { accessFlags := 26, nameIndex := 674, descriptorIndex := 12, attributes := #[] }, { accessFlags := 26, nameIndex := 677, descriptorIndex := 12, attributes := #[] }, { accessFlags := 10, nameIndex := 11, descriptorIndex := 12, attributes := #[] }, { accessFlags := 74, nameIndex := 175, descriptorIndex := 176, attributes := #[] }, { accessFlags := 10, nameIndex := 491, descriptorIndex := 222, attributes := #[] }, { accessFlags := 74, nameIndex := 29, descriptorIndex := 30, attributes := #[] }, { accessFlags := 74, nameIndex := 154, descriptorIndex := 155, attributes := #[] }, { accessFlags := 10, nameIndex := 217, descriptorIndex := 218, attributes := #[] }, { accessFlags := 10, nameIndex := 221, descriptorIndex := 222, attributes := #[] }, { accessFlags := 8, nameIndex := 562, descriptorIndex := 563, attributes := #[] }])
  fields := #[{ name := "in", type := (.object "java/io/InputStream"), accessFlags := 25, slot := 0, constantValue := 0 }, { name := "out", type := (.object "java/io/PrintStream"), accessFlags := 25, slot := 1, constantValue := 0 }, { name := "err", type := (.object "java/io/PrintStream"), accessFlags := 25, slot := 2, constantValue := 0 }, { name := "initialIn", type := (.object "java/io/InputStream"), accessFlags := 10, slot := 3, constantValue := 0 }, { name := "NEVER", type := .int, accessFlags := 26, slot := 4, constantValue := 0 }, { name := "MAYBE", type := .int, accessFlags := 26, slot := 5, constantValue := 0 }, { name := "allowSecurityManager", type := .int, accessFlags := 10, slot := 6, constantValue := 0 }, { name := "security", type := (.object "java/lang/SecurityManager"), accessFlags := 74, slot := 7, constantValue := 0 }, { name := "notSupportedJnuEncoding", type := (.object "java/lang/String"), accessFlags := 10, slot := 8, constantValue := 0 }, { name := "cons", type := (.object "java/io/Console"), accessFlags := 74, slot := 9, constantValue := 0 }, { name := "initialErrStream", type := (.object "java/io/PrintStream"), accessFlags := 74, slot := 10, constantValue := 0 }, { name := "props", type := (.object "java/util/Properties"), accessFlags := 10, slot := 11, constantValue := 0 }, { name := "lineSeparator", type := (.object "java/lang/String"), accessFlags := 10, slot := 12, constantValue := 0 }, { name := "bootLayer", type := (.object "java/lang/ModuleLayer"), accessFlags := 8, slot := 13, constantValue := 0 }]
  methods := #[k17m0, k17m1]
  instanceTypes := #[]
  staticTypes := #[(.object "java/io/InputStream"), (.object "java/io/PrintStream"), (.object "java/io/PrintStream"), (.object "java/io/InputStream"), .int, .int, .int, (.object "java/lang/SecurityManager"), (.object "java/lang/String"), (.object "java/io/Console"), (.object "java/io/PrintStream"), (.object "java/util/Properties"), (.object "java/lang/String"), (.object "java/lang/ModuleLayer")]
  resolved := Array.replicate 834 none
  statics := none }

/-- the primitive byte -/
def k18 : Class := { plain "byte" none with kind := .primitive 'B', accessFlags := 0x411 }
/-- [B -/
def k19 : Class := { plain "[B" (some 0) with kind := .array 18 .byte, interfaces := #[14, 4], accessFlags := 1041 }

/-- the primitive int -/
def k20 : Class := { plain "int" none with kind := .primitive 'I', accessFlags := 0x411 }
/-- [I -/
def k21 : Class := { plain "[I" (some 0) with kind := .array 20 .int, interfaces := #[14, 4], accessFlags := 1041 }

/-- [Ljava/math/BigInteger; -/
def k22 : Class := { plain "[Ljava/math/BigInteger;" (some 0) with kind := .array 6 (.object "java/math/BigInteger"), interfaces := #[14, 4], accessFlags := 1041 }

def heap : Heap := #[{ cls := 6, slots := #[.long 0, .int 0, .int 0, .int 0, .int 0, .int 0, .int 0, .int 0, .int 0, .int 0, .int 0, .int 0, .null, .int 0, .int 0, .null, .int 0, .ref 1, .ref 2, .null, .null, .double 0, .ref 35, .ref 3, .ref 4, .ref 19, .ref 12, .null, .int 0, .null, .null, .null, .null, .null, .long 0, .null, .int 0], vm := .statics 6 },
  { cls := 22, slots := #[.null, .ref 3, .ref 4, .ref 5, .ref 6, .ref 7, .ref 8, .ref 9, .ref 10, .ref 11, .ref 12, .ref 13, .ref 14, .ref 15, .ref 16, .ref 17, .ref 18], vm := .none },
  { cls := 22, slots := #[.null, .ref 19, .ref 20, .ref 21, .ref 22, .ref 23, .ref 24, .ref 25, .ref 26, .ref 27, .ref 28, .ref 29, .ref 30, .ref 31, .ref 32, .ref 33, .ref 34], vm := .none },
  { cls := 6, slots := #[.int 1, .ref 36, .int 0, .int 0, .int 0, .int 0], vm := .none },
  { cls := 6, slots := #[.int 1, .ref 37, .int 0, .int 0, .int 0, .int 0], vm := .none },
  { cls := 6, slots := #[.int 1, .ref 38, .int 0, .int 0, .int 0, .int 0], vm := .none },
  { cls := 6, slots := #[.int 1, .ref 39, .int 0, .int 0, .int 0, .int 0], vm := .none },
  { cls := 6, slots := #[.int 1, .ref 40, .int 0, .int 0, .int 0, .int 0], vm := .none },
  { cls := 6, slots := #[.int 1, .ref 41, .int 0, .int 0, .int 0, .int 0], vm := .none },
  { cls := 6, slots := #[.int 1, .ref 42, .int 0, .int 0, .int 0, .int 0], vm := .none },
  { cls := 6, slots := #[.int 1, .ref 43, .int 0, .int 0, .int 0, .int 0], vm := .none },
  { cls := 6, slots := #[.int 1, .ref 44, .int 0, .int 0, .int 0, .int 0], vm := .none },
  { cls := 6, slots := #[.int 1, .ref 45, .int 0, .int 0, .int 0, .int 0], vm := .none },
  { cls := 6, slots := #[.int 1, .ref 46, .int 0, .int 0, .int 0, .int 0], vm := .none },
  { cls := 6, slots := #[.int 1, .ref 47, .int 0, .int 0, .int 0, .int 0], vm := .none },
  { cls := 6, slots := #[.int 1, .ref 48, .int 0, .int 0, .int 0, .int 0], vm := .none },
  { cls := 6, slots := #[.int 1, .ref 49, .int 0, .int 0, .int 0, .int 0], vm := .none },
  { cls := 6, slots := #[.int 1, .ref 50, .int 0, .int 0, .int 0, .int 0], vm := .none },
  { cls := 6, slots := #[.int 1, .ref 51, .int 0, .int 0, .int 0, .int 0], vm := .none },
  { cls := 6, slots := #[.int (-1), .ref 36, .int 0, .int 0, .int 0, .int 0], vm := .none },
  { cls := 6, slots := #[.int (-1), .ref 37, .int 0, .int 0, .int 0, .int 0], vm := .none },
  { cls := 6, slots := #[.int (-1), .ref 38, .int 0, .int 0, .int 0, .int 0], vm := .none },
  { cls := 6, slots := #[.int (-1), .ref 39, .int 0, .int 0, .int 0, .int 0], vm := .none },
  { cls := 6, slots := #[.int (-1), .ref 40, .int 0, .int 0, .int 0, .int 0], vm := .none },
  { cls := 6, slots := #[.int (-1), .ref 41, .int 0, .int 0, .int 0, .int 0], vm := .none },
  { cls := 6, slots := #[.int (-1), .ref 42, .int 0, .int 0, .int 0, .int 0], vm := .none },
  { cls := 6, slots := #[.int (-1), .ref 43, .int 0, .int 0, .int 0, .int 0], vm := .none },
  { cls := 6, slots := #[.int (-1), .ref 44, .int 0, .int 0, .int 0, .int 0], vm := .none },
  { cls := 6, slots := #[.int (-1), .ref 45, .int 0, .int 0, .int 0, .int 0], vm := .none },
  { cls := 6, slots := #[.int (-1), .ref 46, .int 0, .int 0, .int 0, .int 0], vm := .none },
  { cls := 6, slots := #[.int (-1), .ref 47, .int 0, .int 0, .int 0, .int 0], vm := .none },
  { cls := 6, slots := #[.int (-1), .ref 48, .int 0, .int 0, .int 0, .int 0], vm := .none },
  { cls := 6, slots := #[.int (-1), .ref 49, .int 0, .int 0, .int 0, .int 0], vm := .none },
  { cls := 6, slots := #[.int (-1), .ref 50, .int 0, .int 0, .int 0, .int 0], vm := .none },
  { cls := 6, slots := #[.int (-1), .ref 51, .int 0, .int 0, .int 0, .int 0], vm := .none },
  { cls := 6, slots := #[.int 0, .ref 52, .int 0, .int 0, .int 0, .int 0], vm := .none },
  { cls := 21, slots := #[.int 1], vm := .none },
  { cls := 21, slots := #[.int 2], vm := .none },
  { cls := 21, slots := #[.int 3], vm := .none },
  { cls := 21, slots := #[.int 4], vm := .none },
  { cls := 21, slots := #[.int 5], vm := .none },
  { cls := 21, slots := #[.int 6], vm := .none },
  { cls := 21, slots := #[.int 7], vm := .none },
  { cls := 21, slots := #[.int 8], vm := .none },
  { cls := 21, slots := #[.int 9], vm := .none },
  { cls := 21, slots := #[.int 10], vm := .none },
  { cls := 21, slots := #[.int 11], vm := .none },
  { cls := 21, slots := #[.int 12], vm := .none },
  { cls := 21, slots := #[.int 13], vm := .none },
  { cls := 21, slots := #[.int 14], vm := .none },
  { cls := 21, slots := #[.int 15], vm := .none },
  { cls := 21, slots := #[.int 16], vm := .none },
  { cls := 21, slots := #[], vm := .none }]
def classes : Array Class := #[k0, k1, k2, k3, k4, k5, k6, k7, k8, k9, k10, k11, k12, k13, k14, k15, k16, k17, k18, k19, k20, k21, k22]
def interned : List (Array UInt16 × Addr) := []
def slotsUsed : Nat := 285
def theMethod : MethodId := ⟨1, 1⟩
def args0 : Array Value := #[.long 5, .long 7]
def aboutOver (below : List Frame) : State where
  vm := { classes := classes, interned := interned.toArray }
  heap := heap
  slotsUsed := slotsUsed
  threads := #[{ frames := .invoking theMethod args0 :: below }]
def below0 : List Frame := [.native { method := ⟨0, 0⟩, args := #[] }]
def about1 : State := aboutOver below0
def p0 : Program := .bare "" "" ""
def e0 : Env := launch0.env 0 0 0
theorem w_frames : about1.frames = Frame.invoking theMethod args0 :: below0 := rfl
set_option maxRecDepth 65536 in
theorem w_args : argsFit about1.vm theMethod args0 = true := by decide +kernel
set_option maxRecDepth 65536 in
theorem w_heap : heapFits about1 = true := by decide +kernel
set_option maxRecDepth 65536 in
theorem w_runnable : about1.curStatus? = some .runnable := by decide +kernel
set_option maxRecDepth 65536 in
theorem w_alone : about1.alone = true := by decide +kernel
set_option maxRecDepth 65536 in
theorem w_named : about1.methodNamed? x = some theMethod := by decide +kernel
set_option maxRecDepth 65536 in
theorem w_hears : about1.hears theMethod below0 = true := by decide +kernel
set_option maxRecDepth 65536 in
theorem w_ripe : about1.ripe theMethod args0 below0 = true := by decide +kernel
theorem w_running : about1.status = .running := rfl
set_option maxRecDepth 65536 in
theorem w_room : about1.hasRoom e0.platform room_1 = true :=
  launch0.hasRoom_least _ room_1 (by decide +kernel) (by decide +kernel) (by decide +kernel) (by decide +kernel) (by decide +kernel) (by decide +kernel)
theorem allAtoms_all (ts : List Jvm.Cond) (a : Array Jvm.Value) (st : Jvm.State) : (allAtoms ts).before a st = ts.all (fun c => c.before a st) := by
  induction ts with
  | nil => rfl
  | cons c t ih =>
    show (Jvm.Cond.and c (allAtoms t)).before a st = _
    rw [Jvm.Cond.before_and, ih, List.all_cons]
def words1 : List Jvm.Cond := Jvm.Cond.code x code maxLocals ret :: tables_1
/-- a 'code' word, met by the world's own term for the bytes: nothing is compared byte by byte -/
theorem code_word {y : MethodName} {bytes : ByteArray} {mx : Nat} {rt : Option FieldType} {a : Array Value} {s : State} {m : MethodId} {meth : Method} {c : Code} (h1 : s.methodNamed? y = some m) (h2 : s.vm.method? m = some meth) (h3 : meth.code = some c) (h4 : c.code = bytes)
    (h5 : (c.maxLocals == mx && c.exceptionTable.isEmpty && decide (c.maxStack ≤ mostOperands) && decide (meth.sig.returnType = rt) && !meth.locks && decide (parseMethodDescriptor y.desc = some meth.sig)) = true) : (Jvm.Cond.code y bytes mx rt).before a s = true := by
  simp only [Bool.and_eq_true, beq_iff_eq, Bool.not_eq_true', decide_eq_true_eq] at h5
  obtain ⟨⟨⟨⟨⟨g1, g2⟩, g3⟩, g4⟩, g5⟩, g6⟩ := h5
  simp [Cond.before, Cond.holds, Cond.value, h1, h2, h3, h4, g1, g2, g3, g4, g5, g6]
def isCode : Jvm.Cond → Bool
  | .code _ _ _ _ => true
  | _ => false
theorem all_split {L : List Jvm.Cond} {P : Jvm.Cond → Bool} (h1 : L.all (fun c => isCode c || P c) = true) (h2 : ∀ c ∈ L.filter isCode, P c = true) : L.all P = true := by
  refine List.all_eq_true.mpr fun c hc => ?_
  have h := List.all_eq_true.mp h1 c hc
  rcases Bool.eq_false_or_eq_true (isCode c) with hi | hi
  · exact h2 c (List.mem_filter.mpr ⟨hc, hi⟩)
  · simpa [hi] using h
set_option maxRecDepth 65536 in
theorem w_c0 : (Jvm.Cond.code x code maxLocals ret).before args0 about1 = true := code_word (m := ⟨1, 1⟩) (meth := k1m1) (c := k1c1) (by decide +kernel) rfl rfl rfl (by decide +kernel)
set_option maxRecDepth 65536 in
theorem w_c1 : (Jvm.Cond.code ({ cls := "com/example/locks_to_budgets/lockstobudgets/exact/Rational", name := "of", desc := "(J)Lcom/example/locks_to_budgets/lockstobudgets/exact/Rational;" } : Jvm.MethodName) prog_21_method_2_code (2 : Nat) (Option.some (Jvm.ClassFile.FieldType.object "com/example/locks_to_budgets/lockstobudgets/exact/Rational"))).before args0 about1 = true := code_word (m := ⟨3, 1⟩) (meth := k3m1) (c := k3c1) (by decide +kernel) rfl rfl rfl (by decide +kernel)
set_option maxRecDepth 65536 in
theorem w_c2 : (Jvm.Cond.code ({ cls := "java/math/BigInteger", name := "valueOf", desc := "(J)Ljava/math/BigInteger;" } : Jvm.MethodName) jdk_2097_method_29_code (2 : Nat) (Option.some (Jvm.ClassFile.FieldType.object "java/math/BigInteger"))).before args0 about1 = true := code_word (m := ⟨6, 1⟩) (meth := k6m1) (c := k6c1) (by decide +kernel) rfl rfl rfl (by decide +kernel)
set_option maxRecDepth 65536 in
theorem w_c3 : (Jvm.Cond.code ({ cls := "com/example/locks_to_budgets/lockstobudgets/exact/Rational", name := "<init>", desc := "(Ljava/math/BigInteger;Ljava/math/BigInteger;)V" } : Jvm.MethodName) prog_21_method_1_code (3 : Nat) (Option.none : Option Jvm.ClassFile.FieldType)).before args0 about1 = true := code_word (m := ⟨3, 0⟩) (meth := k3m0) (c := k3c0) (by decide +kernel) rfl rfl rfl (by decide +kernel)
set_option maxRecDepth 65536 in
theorem w_c4 : (Jvm.Cond.code ({ cls := "java/lang/Object", name := "<init>", desc := "()V" } : Jvm.MethodName) object_method_1_code (1 : Nat) (Option.none : Option Jvm.ClassFile.FieldType)).before args0 about1 = true := code_word (m := ⟨0, 0⟩) (meth := k0m0) (c := k0c0) (by decide +kernel) rfl rfl rfl (by decide +kernel)
set_option maxRecDepth 65536 in
theorem w_c5 : (Jvm.Cond.code ({ cls := "com/example/locks_to_budgets/lockstobudgets/exact/Rational", name := "of", desc := "(JJ)Lcom/example/locks_to_budgets/lockstobudgets/exact/Rational;" } : Jvm.MethodName) prog_21_method_4_code (4 : Nat) (Option.some (Jvm.ClassFile.FieldType.object "com/example/locks_to_budgets/lockstobudgets/exact/Rational"))).before args0 about1 = true := code_word (m := ⟨3, 2⟩) (meth := k3m2) (c := k3c2) (by decide +kernel) rfl rfl rfl (by decide +kernel)
set_option maxRecDepth 65536 in
theorem w_c6 : (Jvm.Cond.code ({ cls := "com/example/locks_to_budgets/lockstobudgets/exact/Rational", name := "of", desc := "(Ljava/math/BigInteger;Ljava/math/BigInteger;)Lcom/example/locks_to_budgets/lockstobudgets/exact/Rational;" } : Jvm.MethodName) prog_21_method_5_code (4 : Nat) (Option.some (Jvm.ClassFile.FieldType.object "com/example/locks_to_budgets/lockstobudgets/exact/Rational"))).before args0 about1 = true := code_word (m := ⟨3, 3⟩) (meth := k3m3) (c := k3c3) (by decide +kernel) rfl rfl rfl (by decide +kernel)
set_option maxRecDepth 65536 in
theorem w_c7 : (Jvm.Cond.code ({ cls := "java/util/Objects", name := "requireNonNull", desc := "(Ljava/lang/Object;Ljava/lang/String;)Ljava/lang/Object;" } : Jvm.MethodName) jdk_31_method_11_code (2 : Nat) (Option.some (Jvm.ClassFile.FieldType.object "java/lang/Object"))).before args0 about1 = true := code_word (m := ⟨11, 1⟩) (meth := k11m1) (c := k11c1) (by decide +kernel) rfl rfl rfl (by decide +kernel)
set_option maxRecDepth 65536 in
theorem w_c8 : (Jvm.Cond.code ({ cls := "java/math/BigInteger", name := "signum", desc := "()I" } : Jvm.MethodName) jdk_2097_method_81_code (1 : Nat) (Option.some Jvm.ClassFile.FieldType.int)).before args0 about1 = true := code_word (m := ⟨6, 11⟩) (meth := k6m11) (c := k6c11) (by decide +kernel) rfl rfl rfl (by decide +kernel)
set_option maxRecDepth 65536 in
theorem w_c9 : (Jvm.Cond.code ({ cls := "java/math/BigInteger", name := "gcd", desc := "(Ljava/math/BigInteger;)Ljava/math/BigInteger;" } : Jvm.MethodName) jdk_2097_method_73_code (5 : Nat) (Option.some (Jvm.ClassFile.FieldType.object "java/math/BigInteger"))).before args0 about1 = true := code_word (m := ⟨6, 8⟩) (meth := k6m8) (c := k6c8) (by decide +kernel) rfl rfl rfl (by decide +kernel)
set_option maxRecDepth 65536 in
theorem w_c10 : (Jvm.Cond.code ({ cls := "java/math/MutableBigInteger", name := "<init>", desc := "(Ljava/math/BigInteger;)V" } : Jvm.MethodName) jdk_2101_method_4_code (2 : Nat) (Option.none : Option Jvm.ClassFile.FieldType)).before args0 about1 = true := code_word (m := ⟨12, 2⟩) (meth := k12m2) (c := k12c2) (by decide +kernel) rfl rfl rfl (by decide +kernel)
set_option maxRecDepth 65536 in
theorem w_c11 : (Jvm.Cond.code ({ cls := "java/util/Arrays", name := "copyOf", desc := "([II)[I" } : Jvm.MethodName) jdk_65_method_123_code (3 : Nat) (Option.some (Jvm.ClassFile.FieldType.array Jvm.ClassFile.FieldType.int))).before args0 about1 = true := code_word (m := ⟨13, 1⟩) (meth := k13m1) (c := k13c1) (by decide +kernel) rfl rfl rfl (by decide +kernel)
set_option maxRecDepth 65536 in
theorem w_c12 : (Jvm.Cond.code ({ cls := "java/math/MutableBigInteger", name := "hybridGCD", desc := "(Ljava/math/MutableBigInteger;)Ljava/math/MutableBigInteger;" } : Jvm.MethodName) jdk_2101_method_72_code (5 : Nat) (Option.some (Jvm.ClassFile.FieldType.object "java/math/MutableBigInteger"))).before args0 about1 = true := code_word (m := ⟨12, 15⟩) (meth := k12m15) (c := k12c15) (by decide +kernel) rfl rfl rfl (by decide +kernel)
set_option maxRecDepth 65536 in
theorem w_c13 : (Jvm.Cond.code ({ cls := "java/math/MutableBigInteger", name := "<init>", desc := "()V" } : Jvm.MethodName) jdk_2101_method_1_code (1 : Nat) (Option.none : Option Jvm.ClassFile.FieldType)).before args0 about1 = true := code_word (m := ⟨12, 0⟩) (meth := k12m0) (c := k12c0) (by decide +kernel) rfl rfl rfl (by decide +kernel)
set_option maxRecDepth 65536 in
theorem w_c14 : (Jvm.Cond.code ({ cls := "java/lang/Math", name := "abs", desc := "(I)I" } : Jvm.MethodName) jdk_29_method_59_code (1 : Nat) (Option.some Jvm.ClassFile.FieldType.int)).before args0 about1 = true := code_word (m := ⟨15, 1⟩) (meth := k15m1) (c := k15c1) (by decide +kernel) rfl rfl rfl (by decide +kernel)
set_option maxRecDepth 65536 in
theorem w_c15 : (Jvm.Cond.code ({ cls := "java/math/MutableBigInteger", name := "binaryGCD", desc := "(Ljava/math/MutableBigInteger;)Ljava/math/MutableBigInteger;" } : Jvm.MethodName) jdk_2101_method_73_code (13 : Nat) (Option.some (Jvm.ClassFile.FieldType.object "java/math/MutableBigInteger"))).before args0 about1 = true := code_word (m := ⟨12, 16⟩) (meth := k12m16) (c := k12c16) (by decide +kernel) rfl rfl rfl (by decide +kernel)
set_option maxRecDepth 65536 in
theorem w_c16 : (Jvm.Cond.code ({ cls := "java/math/MutableBigInteger", name := "getLowestSetBit", desc := "()I" } : Jvm.MethodName) jdk_2101_method_18_code (3 : Nat) (Option.some Jvm.ClassFile.FieldType.int)).before args0 about1 = true := code_word (m := ⟨12, 7⟩) (meth := k12m7) (c := k12c7) (by decide +kernel) rfl rfl rfl (by decide +kernel)
set_option maxRecDepth 65536 in
theorem w_c17 : (Jvm.Cond.code ({ cls := "java/lang/Integer", name := "numberOfTrailingZeros", desc := "(I)I" } : Jvm.MethodName) jdk_33_method_48_code (2 : Nat) (Option.some Jvm.ClassFile.FieldType.int)).before args0 about1 = true := code_word (m := ⟨16, 1⟩) (meth := k16m1) (c := k16c1) (by decide +kernel) rfl rfl rfl (by decide +kernel)
set_option maxRecDepth 65536 in
theorem w_c18 : (Jvm.Cond.code ({ cls := "java/math/MutableBigInteger", name := "rightShift", desc := "(I)V" } : Jvm.MethodName) jdk_2101_method_35_code (5 : Nat) (Option.none : Option Jvm.ClassFile.FieldType)).before args0 about1 = true := code_word (m := ⟨12, 9⟩) (meth := k12m9) (c := k12c9) (by decide +kernel) rfl rfl rfl (by decide +kernel)
set_option maxRecDepth 65536 in
theorem w_c19 : (Jvm.Cond.code ({ cls := "java/math/MutableBigInteger", name := "binaryGcd", desc := "(II)I" } : Jvm.MethodName) jdk_2101_method_74_code (5 : Nat) (Option.some Jvm.ClassFile.FieldType.int)).before args0 about1 = true := code_word (m := ⟨12, 17⟩) (meth := k12m17) (c := k12c17) (by decide +kernel) rfl rfl rfl (by decide +kernel)
set_option maxRecDepth 65536 in
theorem w_c20 : (Jvm.Cond.code ({ cls := "java/math/MutableBigInteger", name := "toBigInteger", desc := "(I)Ljava/math/BigInteger;" } : Jvm.MethodName) jdk_2101_method_9_code (2 : Nat) (Option.some (Jvm.ClassFile.FieldType.object "java/math/BigInteger"))).before args0 about1 = true := code_word (m := ⟨12, 4⟩) (meth := k12m4) (c := k12c4) (by decide +kernel) rfl rfl rfl (by decide +kernel)
set_option maxRecDepth 65536 in
theorem w_c21 : (Jvm.Cond.code ({ cls := "java/math/MutableBigInteger", name := "getMagnitudeArray", desc := "()[I" } : Jvm.MethodName) jdk_2101_method_7_code (2 : Nat) (Option.some (Jvm.ClassFile.FieldType.array Jvm.ClassFile.FieldType.int))).before args0 about1 = true := code_word (m := ⟨12, 3⟩) (meth := k12m3) (c := k12c3) (by decide +kernel) rfl rfl rfl (by decide +kernel)
set_option maxRecDepth 65536 in
theorem w_c22 : (Jvm.Cond.code ({ cls := "java/math/BigInteger", name := "<init>", desc := "([II)V" } : Jvm.MethodName) jdk_2097_method_25_code (3 : Nat) (Option.none : Option Jvm.ClassFile.FieldType)).before args0 about1 = true := code_word (m := ⟨6, 0⟩) (meth := k6m0) (c := k6c0) (by decide +kernel) rfl rfl rfl (by decide +kernel)
set_option maxRecDepth 65536 in
theorem w_c23 : (Jvm.Cond.code ({ cls := "java/lang/Number", name := "<init>", desc := "()V" } : Jvm.MethodName) jdk_18_method_1_code (1 : Nat) (Option.none : Option Jvm.ClassFile.FieldType)).before args0 about1 = true := code_word (m := ⟨5, 0⟩) (meth := k5m0) (c := k5c0) (by decide +kernel) rfl rfl rfl (by decide +kernel)
set_option maxRecDepth 65536 in
theorem w_c24 : (Jvm.Cond.code ({ cls := "java/math/BigInteger", name := "divide", desc := "(Ljava/math/BigInteger;)Ljava/math/BigInteger;" } : Jvm.MethodName) jdk_2097_method_61_code (2 : Nat) (Option.some (Jvm.ClassFile.FieldType.object "java/math/BigInteger"))).before args0 about1 = true := code_word (m := ⟨6, 6⟩) (meth := k6m6) (c := k6c6) (by decide +kernel) rfl rfl rfl (by decide +kernel)
set_option maxRecDepth 65536 in
theorem w_c25 : (Jvm.Cond.code ({ cls := "java/math/BigInteger", name := "divideKnuth", desc := "(Ljava/math/BigInteger;)Ljava/math/BigInteger;" } : Jvm.MethodName) jdk_2097_method_62_code (5 : Nat) (Option.some (Jvm.ClassFile.FieldType.object "java/math/BigInteger"))).before args0 about1 = true := code_word (m := ⟨6, 7⟩) (meth := k6m7) (c := k6c7) (by decide +kernel) rfl rfl rfl (by decide +kernel)
set_option maxRecDepth 65536 in
theorem w_c26 : (Jvm.Cond.code ({ cls := "java/math/MutableBigInteger", name := "<init>", desc := "([I)V" } : Jvm.MethodName) jdk_2101_method_3_code (2 : Nat) (Option.none : Option Jvm.ClassFile.FieldType)).before args0 about1 = true := code_word (m := ⟨12, 1⟩) (meth := k12m1) (c := k12c1) (by decide +kernel) rfl rfl rfl (by decide +kernel)
set_option maxRecDepth 65536 in
theorem w_c27 : (Jvm.Cond.code ({ cls := "java/math/MutableBigInteger", name := "divideKnuth", desc := "(Ljava/math/MutableBigInteger;Ljava/math/MutableBigInteger;Z)Ljava/math/MutableBigInteger;" } : Jvm.MethodName) jdk_2101_method_57_code (8 : Nat) (Option.some (Jvm.ClassFile.FieldType.object "java/math/MutableBigInteger"))).before args0 about1 = true := code_word (m := ⟨12, 14⟩) (meth := k12m14) (c := k12c14) (by decide +kernel) rfl rfl rfl (by decide +kernel)
set_option maxRecDepth 65536 in
theorem w_c28 : (Jvm.Cond.code ({ cls := "java/math/MutableBigInteger", name := "compare", desc := "(Ljava/math/MutableBigInteger;)I" } : Jvm.MethodName) jdk_2101_method_15_code (8 : Nat) (Option.some Jvm.ClassFile.FieldType.int)).before args0 about1 = true := code_word (m := ⟨12, 6⟩) (meth := k12m6) (c := k12c6) (by decide +kernel) rfl rfl rfl (by decide +kernel)
set_option maxRecDepth 65536 in
theorem w_c29 : (Jvm.Cond.code ({ cls := "java/math/MutableBigInteger", name := "clear", desc := "()V" } : Jvm.MethodName) jdk_2101_method_13_code (3 : Nat) (Option.none : Option Jvm.ClassFile.FieldType)).before args0 about1 = true := code_word (m := ⟨12, 5⟩) (meth := k12m5) (c := k12c5) (by decide +kernel) rfl rfl rfl (by decide +kernel)
set_option maxRecDepth 65536 in
theorem w_c30 : (Jvm.Cond.code ({ cls := "java/math/MutableBigInteger", name := "divideOneWord", desc := "(ILjava/math/MutableBigInteger;)I" } : Jvm.MethodName) jdk_2101_method_53_code (15 : Nat) (Option.some Jvm.ClassFile.FieldType.int)).before args0 about1 = true := code_word (m := ⟨12, 13⟩) (meth := k12m13) (c := k12c13) (by decide +kernel) rfl rfl rfl (by decide +kernel)
set_option maxRecDepth 65536 in
theorem w_c31 : (Jvm.Cond.code ({ cls := "java/math/BigInteger", name := "multiply", desc := "(Ljava/math/BigInteger;)Ljava/math/BigInteger;" } : Jvm.MethodName) jdk_2097_method_40_code (2 : Nat) (Option.some (Jvm.ClassFile.FieldType.object "java/math/BigInteger"))).before args0 about1 = true := code_word (m := ⟨6, 3⟩) (meth := k6m3) (c := k6c3) (by decide +kernel) rfl rfl rfl (by decide +kernel)
set_option maxRecDepth 65536 in
theorem w_c32 : (Jvm.Cond.code ({ cls := "java/math/BigInteger", name := "multiply", desc := "(Ljava/math/BigInteger;ZZI)Ljava/math/BigInteger;" } : Jvm.MethodName) jdk_2097_method_42_code (9 : Nat) (Option.some (Jvm.ClassFile.FieldType.object "java/math/BigInteger"))).before args0 about1 = true := code_word (m := ⟨6, 4⟩) (meth := k6m4) (c := k6c4) (by decide +kernel) rfl rfl rfl (by decide +kernel)
set_option maxRecDepth 65536 in
theorem w_c33 : (Jvm.Cond.code ({ cls := "java/math/BigInteger", name := "multiplyByInt", desc := "([III)Ljava/math/BigInteger;" } : Jvm.MethodName) jdk_2097_method_43_code (13 : Nat) (Option.some (Jvm.ClassFile.FieldType.object "java/math/BigInteger"))).before args0 about1 = true := code_word (m := ⟨6, 5⟩) (meth := k6m5) (c := k6c5) (by decide +kernel) rfl rfl rfl (by decide +kernel)
set_option maxRecDepth 65536 in
theorem w_c34 : (Jvm.Cond.code ({ cls := "java/lang/Integer", name := "bitCount", desc := "(I)I" } : Jvm.MethodName) jdk_33_method_49_code (1 : Nat) (Option.some Jvm.ClassFile.FieldType.int)).before args0 about1 = true := code_word (m := ⟨16, 2⟩) (meth := k16m2) (c := k16c2) (by decide +kernel) rfl rfl rfl (by decide +kernel)
set_option maxRecDepth 65536 in
theorem w_c35 : (Jvm.Cond.code ({ cls := "java/math/BigInteger", name := "shiftLeft", desc := "([II)[I" } : Jvm.MethodName) jdk_2097_method_102_code (10 : Nat) (Option.some (Jvm.ClassFile.FieldType.array Jvm.ClassFile.FieldType.int))).before args0 about1 = true := code_word (m := ⟨6, 12⟩) (meth := k6m12) (c := k6c12) (by decide +kernel) rfl rfl rfl (by decide +kernel)
set_option maxRecDepth 65536 in
theorem w_c36 : (Jvm.Cond.code ({ cls := "com/example/locks_to_budgets/lockstobudgets/exact/Rational", name := "equals", desc := "(Ljava/lang/Object;)Z" } : Jvm.MethodName) prog_21_method_26_code (3 : Nat) (Option.some Jvm.ClassFile.FieldType.boolean)).before args0 about1 = true := code_word (m := ⟨3, 7⟩) (meth := k3m7) (c := k3c7) (by decide +kernel) rfl rfl rfl (by decide +kernel)
set_option maxRecDepth 65536 in
theorem w_c37 : (Jvm.Cond.code ({ cls := "java/math/BigInteger", name := "equals", desc := "(Ljava/lang/Object;)Z" } : Jvm.MethodName) jdk_2097_method_124_code (7 : Nat) (Option.some Jvm.ClassFile.FieldType.boolean)).before args0 about1 = true := code_word (m := ⟨6, 15⟩) (meth := k6m15) (c := k6c15) (by decide +kernel) rfl rfl rfl (by decide +kernel)
set_option maxRecDepth 65536 in
theorem w_c38 : (Jvm.Cond.code ({ cls := "com/example/locks_to_budgets/lockstobudgets/exact/Rational", name := "isInteger", desc := "()Z" } : Jvm.MethodName) prog_21_method_17_code (1 : Nat) (Option.some Jvm.ClassFile.FieldType.boolean)).before args0 about1 = true := code_word (m := ⟨3, 5⟩) (meth := k3m5) (c := k3c5) (by decide +kernel) rfl rfl rfl (by decide +kernel)
set_option maxRecDepth 65536 in
theorem w_c39 : (Jvm.Cond.code ({ cls := "com/example/locks_to_budgets/lockstobudgets/exact/Rational", name := "signum", desc := "()I" } : Jvm.MethodName) prog_21_method_16_code (1 : Nat) (Option.some Jvm.ClassFile.FieldType.int)).before args0 about1 = true := code_word (m := ⟨3, 4⟩) (meth := k3m4) (c := k3c4) (by decide +kernel) rfl rfl rfl (by decide +kernel)
set_option maxRecDepth 65536 in
theorem w_c40 : (Jvm.Cond.code ({ cls := "com/example/locks_to_budgets/lockstobudgets/exact/Rational", name := "compareTo", desc := "(Lcom/example/locks_to_budgets/lockstobudgets/exact/Rational;)I" } : Jvm.MethodName) prog_21_method_25_code (2 : Nat) (Option.some Jvm.ClassFile.FieldType.int)).before args0 about1 = true := code_word (m := ⟨3, 6⟩) (meth := k3m6) (c := k3c6) (by decide +kernel) rfl rfl rfl (by decide +kernel)
set_option maxRecDepth 65536 in
theorem w_c41 : (Jvm.Cond.code ({ cls := "java/math/BigInteger", name := "compareTo", desc := "(Ljava/math/BigInteger;)I" } : Jvm.MethodName) jdk_2097_method_121_code (2 : Nat) (Option.some Jvm.ClassFile.FieldType.int)).before args0 about1 = true := code_word (m := ⟨6, 13⟩) (meth := k6m13) (c := k6c13) (by decide +kernel) rfl rfl rfl (by decide +kernel)
set_option maxRecDepth 65536 in
theorem w_c42 : (Jvm.Cond.code ({ cls := "java/math/BigInteger", name := "compareMagnitude", desc := "(Ljava/math/BigInteger;)I" } : Jvm.MethodName) jdk_2097_method_122_code (9 : Nat) (Option.some Jvm.ClassFile.FieldType.int)).before args0 about1 = true := code_word (m := ⟨6, 14⟩) (meth := k6m14) (c := k6c14) (by decide +kernel) rfl rfl rfl (by decide +kernel)
set_option maxRecDepth 65536 in
theorem w_c43 : (Jvm.Cond.code ({ cls := "java/math/BigInteger", name := "<init>", desc := "(J)V" } : Jvm.MethodName) jdk_2097_method_30_code (4 : Nat) (Option.none : Option Jvm.ClassFile.FieldType)).before args0 about1 = true := code_word (m := ⟨6, 2⟩) (meth := k6m2) (c := k6c2) (by decide +kernel) rfl rfl rfl (by decide +kernel)
set_option maxRecDepth 65536 in
theorem w_c44 : (Jvm.Cond.code ({ cls := "java/math/BigInteger", name := "bitLengthForInt", desc := "(I)I" } : Jvm.MethodName) jdk_2097_method_74_code (1 : Nat) (Option.some Jvm.ClassFile.FieldType.int)).before args0 about1 = true := code_word (m := ⟨6, 9⟩) (meth := k6m9) (c := k6c9) (by decide +kernel) rfl rfl rfl (by decide +kernel)
set_option maxRecDepth 65536 in
theorem w_c45 : (Jvm.Cond.code ({ cls := "java/lang/Integer", name := "numberOfLeadingZeros", desc := "(I)I" } : Jvm.MethodName) jdk_33_method_47_code (2 : Nat) (Option.some Jvm.ClassFile.FieldType.int)).before args0 about1 = true := code_word (m := ⟨16, 0⟩) (meth := k16m0) (c := k16c0) (by decide +kernel) rfl rfl rfl (by decide +kernel)
set_option maxRecDepth 65536 in
theorem w_c46 : (Jvm.Cond.code ({ cls := "java/math/MutableBigInteger", name := "primitiveRightShift", desc := "(I)V" } : Jvm.MethodName) jdk_2101_method_41_code (7 : Nat) (Option.none : Option Jvm.ClassFile.FieldType)).before args0 about1 = true := code_word (m := ⟨12, 10⟩) (meth := k12m10) (c := k12c10) (by decide +kernel) rfl rfl rfl (by decide +kernel)
set_option maxRecDepth 65536 in
theorem w_c47 : (Jvm.Cond.code ({ cls := "java/math/MutableBigInteger", name := "difference", desc := "(Ljava/math/MutableBigInteger;)I" } : Jvm.MethodName) jdk_2101_method_50_code (8 : Nat) (Option.some Jvm.ClassFile.FieldType.int)).before args0 about1 = true := code_word (m := ⟨12, 12⟩) (meth := k12m12) (c := k12c12) (by decide +kernel) rfl rfl rfl (by decide +kernel)
set_option maxRecDepth 65536 in
theorem w_c48 : (Jvm.Cond.code ({ cls := "java/math/MutableBigInteger", name := "normalize", desc := "()V" } : Jvm.MethodName) jdk_2101_method_21_code (4 : Nat) (Option.none : Option Jvm.ClassFile.FieldType)).before args0 about1 = true := code_word (m := ⟨12, 8⟩) (meth := k12m8) (c := k12c8) (by decide +kernel) rfl rfl rfl (by decide +kernel)
set_option maxRecDepth 65536 in
theorem w_c49 : (Jvm.Cond.code ({ cls := "java/math/MutableBigInteger", name := "primitiveLeftShift", desc := "(I)V" } : Jvm.MethodName) jdk_2101_method_42_code (8 : Nat) (Option.none : Option Jvm.ClassFile.FieldType)).before args0 about1 = true := code_word (m := ⟨12, 11⟩) (meth := k12m11) (c := k12c11) (by decide +kernel) rfl rfl rfl (by decide +kernel)
set_option maxRecDepth 65536 in
theorem w_c50 : (Jvm.Cond.code ({ cls := "java/math/BigInteger", name := "abs", desc := "()Ljava/math/BigInteger;" } : Jvm.MethodName) jdk_2097_method_79_code (1 : Nat) (Option.some (Jvm.ClassFile.FieldType.object "java/math/BigInteger"))).before args0 about1 = true := code_word (m := ⟨6, 10⟩) (meth := k6m10) (c := k6c10) (by decide +kernel) rfl rfl rfl (by decide +kernel)
def codes1 : List Jvm.Cond := [Jvm.Cond.code x code maxLocals ret, Jvm.Cond.code ({ cls := "com/example/locks_to_budgets/lockstobudgets/exact/Rational", name := "of", desc := "(J)Lcom/example/locks_to_budgets/lockstobudgets/exact/Rational;" } : Jvm.MethodName) prog_21_method_2_code (2 : Nat) (Option.some (Jvm.ClassFile.FieldType.object "com/example/locks_to_budgets/lockstobudgets/exact/Rational")), Jvm.Cond.code ({ cls := "java/math/BigInteger", name := "valueOf", desc := "(J)Ljava/math/BigInteger;" } : Jvm.MethodName) jdk_2097_method_29_code (2 : Nat) (Option.some (Jvm.ClassFile.FieldType.object "java/math/BigInteger")), Jvm.Cond.code ({ cls := "com/example/locks_to_budgets/lockstobudgets/exact/Rational", name := "<init>", desc := "(Ljava/math/BigInteger;Ljava/math/BigInteger;)V" } : Jvm.MethodName) prog_21_method_1_code (3 : Nat) (Option.none : Option Jvm.ClassFile.FieldType), Jvm.Cond.code ({ cls := "java/lang/Object", name := "<init>", desc := "()V" } : Jvm.MethodName) object_method_1_code (1 : Nat) (Option.none : Option Jvm.ClassFile.FieldType), Jvm.Cond.code ({ cls := "com/example/locks_to_budgets/lockstobudgets/exact/Rational", name := "of", desc := "(JJ)Lcom/example/locks_to_budgets/lockstobudgets/exact/Rational;" } : Jvm.MethodName) prog_21_method_4_code (4 : Nat) (Option.some (Jvm.ClassFile.FieldType.object "com/example/locks_to_budgets/lockstobudgets/exact/Rational")), Jvm.Cond.code ({ cls := "com/example/locks_to_budgets/lockstobudgets/exact/Rational", name := "of", desc := "(Ljava/math/BigInteger;Ljava/math/BigInteger;)Lcom/example/locks_to_budgets/lockstobudgets/exact/Rational;" } : Jvm.MethodName) prog_21_method_5_code (4 : Nat) (Option.some (Jvm.ClassFile.FieldType.object "com/example/locks_to_budgets/lockstobudgets/exact/Rational")), Jvm.Cond.code ({ cls := "java/util/Objects", name := "requireNonNull", desc := "(Ljava/lang/Object;Ljava/lang/String;)Ljava/lang/Object;" } : Jvm.MethodName) jdk_31_method_11_code (2 : Nat) (Option.some (Jvm.ClassFile.FieldType.object "java/lang/Object")), Jvm.Cond.code ({ cls := "java/math/BigInteger", name := "signum", desc := "()I" } : Jvm.MethodName) jdk_2097_method_81_code (1 : Nat) (Option.some Jvm.ClassFile.FieldType.int), Jvm.Cond.code ({ cls := "java/math/BigInteger", name := "gcd", desc := "(Ljava/math/BigInteger;)Ljava/math/BigInteger;" } : Jvm.MethodName) jdk_2097_method_73_code (5 : Nat) (Option.some (Jvm.ClassFile.FieldType.object "java/math/BigInteger")), Jvm.Cond.code ({ cls := "java/math/MutableBigInteger", name := "<init>", desc := "(Ljava/math/BigInteger;)V" } : Jvm.MethodName) jdk_2101_method_4_code (2 : Nat) (Option.none : Option Jvm.ClassFile.FieldType), Jvm.Cond.code ({ cls := "java/util/Arrays", name := "copyOf", desc := "([II)[I" } : Jvm.MethodName) jdk_65_method_123_code (3 : Nat) (Option.some (Jvm.ClassFile.FieldType.array Jvm.ClassFile.FieldType.int)), Jvm.Cond.code ({ cls := "java/math/MutableBigInteger", name := "hybridGCD", desc := "(Ljava/math/MutableBigInteger;)Ljava/math/MutableBigInteger;" } : Jvm.MethodName) jdk_2101_method_72_code (5 : Nat) (Option.some (Jvm.ClassFile.FieldType.object "java/math/MutableBigInteger")), Jvm.Cond.code ({ cls := "java/math/MutableBigInteger", name := "<init>", desc := "()V" } : Jvm.MethodName) jdk_2101_method_1_code (1 : Nat) (Option.none : Option Jvm.ClassFile.FieldType), Jvm.Cond.code ({ cls := "java/lang/Math", name := "abs", desc := "(I)I" } : Jvm.MethodName) jdk_29_method_59_code (1 : Nat) (Option.some Jvm.ClassFile.FieldType.int), Jvm.Cond.code ({ cls := "java/math/MutableBigInteger", name := "binaryGCD", desc := "(Ljava/math/MutableBigInteger;)Ljava/math/MutableBigInteger;" } : Jvm.MethodName) jdk_2101_method_73_code (13 : Nat) (Option.some (Jvm.ClassFile.FieldType.object "java/math/MutableBigInteger")), Jvm.Cond.code ({ cls := "java/math/MutableBigInteger", name := "getLowestSetBit", desc := "()I" } : Jvm.MethodName) jdk_2101_method_18_code (3 : Nat) (Option.some Jvm.ClassFile.FieldType.int), Jvm.Cond.code ({ cls := "java/lang/Integer", name := "numberOfTrailingZeros", desc := "(I)I" } : Jvm.MethodName) jdk_33_method_48_code (2 : Nat) (Option.some Jvm.ClassFile.FieldType.int), Jvm.Cond.code ({ cls := "java/math/MutableBigInteger", name := "rightShift", desc := "(I)V" } : Jvm.MethodName) jdk_2101_method_35_code (5 : Nat) (Option.none : Option Jvm.ClassFile.FieldType), Jvm.Cond.code ({ cls := "java/math/MutableBigInteger", name := "binaryGcd", desc := "(II)I" } : Jvm.MethodName) jdk_2101_method_74_code (5 : Nat) (Option.some Jvm.ClassFile.FieldType.int), Jvm.Cond.code ({ cls := "java/math/MutableBigInteger", name := "toBigInteger", desc := "(I)Ljava/math/BigInteger;" } : Jvm.MethodName) jdk_2101_method_9_code (2 : Nat) (Option.some (Jvm.ClassFile.FieldType.object "java/math/BigInteger")), Jvm.Cond.code ({ cls := "java/math/MutableBigInteger", name := "getMagnitudeArray", desc := "()[I" } : Jvm.MethodName) jdk_2101_method_7_code (2 : Nat) (Option.some (Jvm.ClassFile.FieldType.array Jvm.ClassFile.FieldType.int)), Jvm.Cond.code ({ cls := "java/math/BigInteger", name := "<init>", desc := "([II)V" } : Jvm.MethodName) jdk_2097_method_25_code (3 : Nat) (Option.none : Option Jvm.ClassFile.FieldType), Jvm.Cond.code ({ cls := "java/lang/Number", name := "<init>", desc := "()V" } : Jvm.MethodName) jdk_18_method_1_code (1 : Nat) (Option.none : Option Jvm.ClassFile.FieldType), Jvm.Cond.code ({ cls := "java/math/BigInteger", name := "divide", desc := "(Ljava/math/BigInteger;)Ljava/math/BigInteger;" } : Jvm.MethodName) jdk_2097_method_61_code (2 : Nat) (Option.some (Jvm.ClassFile.FieldType.object "java/math/BigInteger")), Jvm.Cond.code ({ cls := "java/math/BigInteger", name := "divideKnuth", desc := "(Ljava/math/BigInteger;)Ljava/math/BigInteger;" } : Jvm.MethodName) jdk_2097_method_62_code (5 : Nat) (Option.some (Jvm.ClassFile.FieldType.object "java/math/BigInteger")), Jvm.Cond.code ({ cls := "java/math/MutableBigInteger", name := "<init>", desc := "([I)V" } : Jvm.MethodName) jdk_2101_method_3_code (2 : Nat) (Option.none : Option Jvm.ClassFile.FieldType), Jvm.Cond.code ({ cls := "java/math/MutableBigInteger", name := "divideKnuth", desc := "(Ljava/math/MutableBigInteger;Ljava/math/MutableBigInteger;Z)Ljava/math/MutableBigInteger;" } : Jvm.MethodName) jdk_2101_method_57_code (8 : Nat) (Option.some (Jvm.ClassFile.FieldType.object "java/math/MutableBigInteger")), Jvm.Cond.code ({ cls := "java/math/MutableBigInteger", name := "compare", desc := "(Ljava/math/MutableBigInteger;)I" } : Jvm.MethodName) jdk_2101_method_15_code (8 : Nat) (Option.some Jvm.ClassFile.FieldType.int), Jvm.Cond.code ({ cls := "java/math/MutableBigInteger", name := "clear", desc := "()V" } : Jvm.MethodName) jdk_2101_method_13_code (3 : Nat) (Option.none : Option Jvm.ClassFile.FieldType), Jvm.Cond.code ({ cls := "java/math/MutableBigInteger", name := "divideOneWord", desc := "(ILjava/math/MutableBigInteger;)I" } : Jvm.MethodName) jdk_2101_method_53_code (15 : Nat) (Option.some Jvm.ClassFile.FieldType.int), Jvm.Cond.code ({ cls := "java/math/BigInteger", name := "multiply", desc := "(Ljava/math/BigInteger;)Ljava/math/BigInteger;" } : Jvm.MethodName) jdk_2097_method_40_code (2 : Nat) (Option.some (Jvm.ClassFile.FieldType.object "java/math/BigInteger")), Jvm.Cond.code ({ cls := "java/math/BigInteger", name := "multiply", desc := "(Ljava/math/BigInteger;ZZI)Ljava/math/BigInteger;" } : Jvm.MethodName) jdk_2097_method_42_code (9 : Nat) (Option.some (Jvm.ClassFile.FieldType.object "java/math/BigInteger")), Jvm.Cond.code ({ cls := "java/math/BigInteger", name := "multiplyByInt", desc := "([III)Ljava/math/BigInteger;" } : Jvm.MethodName) jdk_2097_method_43_code (13 : Nat) (Option.some (Jvm.ClassFile.FieldType.object "java/math/BigInteger")), Jvm.Cond.code ({ cls := "java/lang/Integer", name := "bitCount", desc := "(I)I" } : Jvm.MethodName) jdk_33_method_49_code (1 : Nat) (Option.some Jvm.ClassFile.FieldType.int), Jvm.Cond.code ({ cls := "java/math/BigInteger", name := "shiftLeft", desc := "([II)[I" } : Jvm.MethodName) jdk_2097_method_102_code (10 : Nat) (Option.some (Jvm.ClassFile.FieldType.array Jvm.ClassFile.FieldType.int)), Jvm.Cond.code ({ cls := "com/example/locks_to_budgets/lockstobudgets/exact/Rational", name := "equals", desc := "(Ljava/lang/Object;)Z" } : Jvm.MethodName) prog_21_method_26_code (3 : Nat) (Option.some Jvm.ClassFile.FieldType.boolean), Jvm.Cond.code ({ cls := "java/math/BigInteger", name := "equals", desc := "(Ljava/lang/Object;)Z" } : Jvm.MethodName) jdk_2097_method_124_code (7 : Nat) (Option.some Jvm.ClassFile.FieldType.boolean), Jvm.Cond.code ({ cls := "com/example/locks_to_budgets/lockstobudgets/exact/Rational", name := "isInteger", desc := "()Z" } : Jvm.MethodName) prog_21_method_17_code (1 : Nat) (Option.some Jvm.ClassFile.FieldType.boolean), Jvm.Cond.code ({ cls := "com/example/locks_to_budgets/lockstobudgets/exact/Rational", name := "signum", desc := "()I" } : Jvm.MethodName) prog_21_method_16_code (1 : Nat) (Option.some Jvm.ClassFile.FieldType.int), Jvm.Cond.code ({ cls := "com/example/locks_to_budgets/lockstobudgets/exact/Rational", name := "compareTo", desc := "(Lcom/example/locks_to_budgets/lockstobudgets/exact/Rational;)I" } : Jvm.MethodName) prog_21_method_25_code (2 : Nat) (Option.some Jvm.ClassFile.FieldType.int), Jvm.Cond.code ({ cls := "java/math/BigInteger", name := "compareTo", desc := "(Ljava/math/BigInteger;)I" } : Jvm.MethodName) jdk_2097_method_121_code (2 : Nat) (Option.some Jvm.ClassFile.FieldType.int), Jvm.Cond.code ({ cls := "java/math/BigInteger", name := "compareMagnitude", desc := "(Ljava/math/BigInteger;)I" } : Jvm.MethodName) jdk_2097_method_122_code (9 : Nat) (Option.some Jvm.ClassFile.FieldType.int), Jvm.Cond.code ({ cls := "java/math/BigInteger", name := "<init>", desc := "(J)V" } : Jvm.MethodName) jdk_2097_method_30_code (4 : Nat) (Option.none : Option Jvm.ClassFile.FieldType), Jvm.Cond.code ({ cls := "java/math/BigInteger", name := "bitLengthForInt", desc := "(I)I" } : Jvm.MethodName) jdk_2097_method_74_code (1 : Nat) (Option.some Jvm.ClassFile.FieldType.int), Jvm.Cond.code ({ cls := "java/lang/Integer", name := "numberOfLeadingZeros", desc := "(I)I" } : Jvm.MethodName) jdk_33_method_47_code (2 : Nat) (Option.some Jvm.ClassFile.FieldType.int), Jvm.Cond.code ({ cls := "java/math/MutableBigInteger", name := "primitiveRightShift", desc := "(I)V" } : Jvm.MethodName) jdk_2101_method_41_code (7 : Nat) (Option.none : Option Jvm.ClassFile.FieldType), Jvm.Cond.code ({ cls := "java/math/MutableBigInteger", name := "difference", desc := "(Ljava/math/MutableBigInteger;)I" } : Jvm.MethodName) jdk_2101_method_50_code (8 : Nat) (Option.some Jvm.ClassFile.FieldType.int), Jvm.Cond.code ({ cls := "java/math/MutableBigInteger", name := "normalize", desc := "()V" } : Jvm.MethodName) jdk_2101_method_21_code (4 : Nat) (Option.none : Option Jvm.ClassFile.FieldType), Jvm.Cond.code ({ cls := "java/math/MutableBigInteger", name := "primitiveLeftShift", desc := "(I)V" } : Jvm.MethodName) jdk_2101_method_42_code (8 : Nat) (Option.none : Option Jvm.ClassFile.FieldType), Jvm.Cond.code ({ cls := "java/math/BigInteger", name := "abs", desc := "()Ljava/math/BigInteger;" } : Jvm.MethodName) jdk_2097_method_79_code (1 : Nat) (Option.some (Jvm.ClassFile.FieldType.object "java/math/BigInteger"))]
set_option maxRecDepth 65536 in
theorem codes_eq : words1.filter isCode = codes1 := rfl
theorem w_codes : ∀ c ∈ words1.filter isCode, c.before args0 about1 = true := by
  rw [codes_eq]
  intro c hc
  simp only [codes1, List.mem_cons, List.not_mem_nil, or_false] at hc
  rcases hc with rfl | rfl | rfl | rfl | rfl | rfl | rfl | rfl | rfl | rfl | rfl | rfl | rfl | rfl | rfl | rfl | rfl | rfl | rfl | rfl | rfl | rfl | rfl | rfl | rfl | rfl | rfl | rfl | rfl | rfl | rfl | rfl | rfl | rfl | rfl | rfl | rfl | rfl | rfl | rfl | rfl | rfl | rfl | rfl | rfl | rfl | rfl | rfl | rfl | rfl | rfl
  · exact w_c0
  · exact w_c1
  · exact w_c2
  · exact w_c3
  · exact w_c4
  · exact w_c5
  · exact w_c6
  · exact w_c7
  · exact w_c8
  · exact w_c9
  · exact w_c10
  · exact w_c11
  · exact w_c12
  · exact w_c13
  · exact w_c14
  · exact w_c15
  · exact w_c16
  · exact w_c17
  · exact w_c18
  · exact w_c19
  · exact w_c20
  · exact w_c21
  · exact w_c22
  · exact w_c23
  · exact w_c24
  · exact w_c25
  · exact w_c26
  · exact w_c27
  · exact w_c28
  · exact w_c29
  · exact w_c30
  · exact w_c31
  · exact w_c32
  · exact w_c33
  · exact w_c34
  · exact w_c35
  · exact w_c36
  · exact w_c37
  · exact w_c38
  · exact w_c39
  · exact w_c40
  · exact w_c41
  · exact w_c42
  · exact w_c43
  · exact w_c44
  · exact w_c45
  · exact w_c46
  · exact w_c47
  · exact w_c48
  · exact w_c49
  · exact w_c50
set_option maxRecDepth 65536 in
theorem w_t1 : (words1.take 24).all (fun c => isCode c || c.before args0 about1) = true := by decide +kernel
set_option maxRecDepth 65536 in
theorem w_t2 : ((words1.drop 24).take 24).all (fun c => isCode c || c.before args0 about1) = true := by decide +kernel
set_option maxRecDepth 65536 in
theorem w_t3 : (((words1.drop 24).drop 24).take 24).all (fun c => isCode c || c.before args0 about1) = true := by decide +kernel
set_option maxRecDepth 65536 in
theorem w_t4 : ((((words1.drop 24).drop 24).drop 24).take 24).all (fun c => isCode c || c.before args0 about1) = true := by decide +kernel
set_option maxRecDepth 65536 in
theorem w_t5 : (((((words1.drop 24).drop 24).drop 24).drop 24).take 24).all (fun c => isCode c || c.before args0 about1) = true := by decide +kernel
set_option maxRecDepth 65536 in
theorem w_t6 : ((((((words1.drop 24).drop 24).drop 24).drop 24).drop 24).take 24).all (fun c => isCode c || c.before args0 about1) = true := by decide +kernel
set_option maxRecDepth 65536 in
theorem w_t7 : (((((((words1.drop 24).drop 24).drop 24).drop 24).drop 24).drop 24).take 24).all (fun c => isCode c || c.before args0 about1) = true := by decide +kernel
set_option maxRecDepth 65536 in
theorem w_t8 : ((((((((words1.drop 24).drop 24).drop 24).drop 24).drop 24).drop 24).drop 24).take 24).all (fun c => isCode c || c.before args0 about1) = true := by decide +kernel
set_option maxRecDepth 65536 in
theorem w_t9 : (((((((((words1.drop 24).drop 24).drop 24).drop 24).drop 24).drop 24).drop 24).drop 24).take 24).all (fun c => isCode c || c.before args0 about1) = true := by decide +kernel
set_option maxRecDepth 65536 in
theorem w_t10 : ((((((((((words1.drop 24).drop 24).drop 24).drop 24).drop 24).drop 24).drop 24).drop 24).drop 24).take 24).all (fun c => isCode c || c.before args0 about1) = true := by decide +kernel
set_option maxRecDepth 65536 in
theorem w_t11 : (((((((((((words1.drop 24).drop 24).drop 24).drop 24).drop 24).drop 24).drop 24).drop 24).drop 24).drop 24).take 24).all (fun c => isCode c || c.before args0 about1) = true := by decide +kernel
set_option maxRecDepth 65536 in
theorem w_t12 : (((((((((((words1.drop 24).drop 24).drop 24).drop 24).drop 24).drop 24).drop 24).drop 24).drop 24).drop 24).drop 24).all (fun c => isCode c || c.before args0 about1) = true := by decide +kernel
theorem w_tables : (allAtoms (Jvm.Cond.code x code maxLocals ret :: tables_1)).before args0 about1 = true := by
  rw [allAtoms_all]
  show words1.all (fun c => c.before args0 about1) = true
  refine all_split ?_ w_codes
  rw [← List.take_append_drop 24 words1, List.all_append, w_t1, ← List.take_append_drop 24 (words1.drop 24), List.all_append, w_t2, ← List.take_append_drop 24 ((words1.drop 24).drop 24), List.all_append, w_t3, ← List.take_append_drop 24 (((words1.drop 24).drop 24).drop 24), List.all_append, w_t4, ← List.take_append_drop 24 ((((words1.drop 24).drop 24).drop 24).drop 24), List.all_append, w_t5, ← List.take_append_drop 24 (((((words1.drop 24).drop 24).drop 24).drop 24).drop 24), List.all_append, w_t6, ← List.take_append_drop 24 ((((((words1.drop 24).drop 24).drop 24).drop 24).drop 24).drop 24), List.all_append, w_t7, ← List.take_append_drop 24 (((((((words1.drop 24).drop 24).drop 24).drop 24).drop 24).drop 24).drop 24), List.all_append, w_t8, ← List.take_append_drop 24 ((((((((words1.drop 24).drop 24).drop 24).drop 24).drop 24).drop 24).drop 24).drop 24), List.all_append, w_t9, ← List.take_append_drop 24 (((((((((words1.drop 24).drop 24).drop 24).drop 24).drop 24).drop 24).drop 24).drop 24).drop 24), List.all_append, w_t10, ← List.take_append_drop 24 ((((((((((words1.drop 24).drop 24).drop 24).drop 24).drop 24).drop 24).drop 24).drop 24).drop 24).drop 24), List.all_append, w_t11, w_t12]
  rfl
set_option maxRecDepth 65536 in
theorem w_rest : rest_1_c.before args0 about1 = true := by decide +kernel
set_option maxRecDepth 65536 in
theorem w_case : (Jvm.Cond.and given_1 narrow_1).before args0 about1 = true := by decide +kernel
theorem w_applies : (headSpec (Jvm.Cond.code x code maxLocals ret :: tables_1) room_1).applies x e0.platform about1 = true :=
  (Spec.applies_iff w_frames).mpr ⟨w_running, w_runnable, w_alone, w_named, w_hears, w_ripe, w_room, w_tables⟩
theorem atStart : AtStart classFile x code maxLocals ret World_1 tables_1 room_1 Calls_1 rest_1 Pre_1 launch0 p0 e0 about1 theMethod args0 below0 :=
  ⟨lists_1, trivial, launch0.admits_env _ _ _, launch0.least_env, fairChoices_fair.cas, fairChoices_fair.clock, w_frames, w_args, w_heap, w_applies, trivial, w_rest, w_case⟩
end start1
theorem witness_1 : WitnessClaimed_1 := ⟨start1.p0, start1.e0, start1.about1, start1.theMethod, start1.args0, start1.below0, start1.atStart⟩
end Jvm.Pilot.@@N@@
