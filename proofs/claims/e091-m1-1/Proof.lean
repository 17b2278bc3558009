import JvmDerived
import JvmDerived.Pilot.@@N@@Statement
import JvmDerived.Pilot.@@N@@Code
set_option linter.unusedVariables false
set_option linter.unusedSimpArgs false
namespace Jvm.OwnKit
open Sem ClassFile Op Lib Jvm.Stand Jvm.Free Jvm.LawKit Jvm.RoadKit
/-! A layer of this workplace's own over the road kit: the heap made since the law began, as one list of cells by their places ('Wd'), and what is left to run ('Go'), step by step, backwards. -/
abbrev Fl := String × String × String × Value
abbrev Ob := (String × List Fl) ⊕ (FieldType × List Value)
abbrev Wd := List (Addr × Ob)
def Av (Z : State) (h : Heap) (a : Addr) (ty : FieldType) (vs : List Value) : Prop :=
  ∃ c : Cell, Arr Z h a c ty ∧ c.slots.toList = vs ∧ vs.length < 2 ^ 31 ∧ (∀ v ∈ vs, fits ty v = true) ∧ Exa Z h a ("[" ++ ty.toString)
def Hol (Z : State) (h : Heap) (a : Addr) : Ob → Prop
  | .inl (C, fs) => Exa Z h a C ∧ (∀ (i : Nat) (f : Fl), fs[i]? = some f → Fld Z h a f.1 f.2.1 f.2.2.1 f.2.2.2) ∧
      ∀ (i j : Nat) (f g : Fl), fs[i]? = some f → fs[j]? = some g → i ≠ j → Jvm.RoadKit.slotOf Z f.1 f.2.1 f.2.2.1 ≠ Jvm.RoadKit.slotOf Z g.1 g.2.1 g.2.2.1
  | .inr (ty, vs) => Av Z h a ty vs
def Wo (Z : State) (n0 : Nat) (h : Heap) (L : Wd) : Prop :=
  Old Z n0 h ∧ (∀ (i : Nat) (x : Addr × Ob), L[i]? = some x → n0 ≤ x.1 ∧ Hol Z h x.1 x.2) ∧
    ∀ (i j : Nat) (x y : Addr × Ob), L[i]? = some x → L[j]? = some y → x.1 = y.1 → i = j
section Facts
variable {Z : State} {h h' : Heap} {a b : Addr} {n0 : Nat} {L : Wd} {ty : FieldType} {vs : List Value} {o : Ob} {v : Value} {sl : Nat}
theorem Av.lt (A : Av Z h a ty vs) : a < h.size := by obtain ⟨c, h1, -⟩ := A; exact h1.lt
theorem Av.ext (A : Av Z h a ty vs) (E : Ext h h') : Av Z h' a ty vs := by
  obtain ⟨c, h1, h2, h3, h4, h5⟩ := A; exact ⟨c, h1.ext E, h2, h3, h4, h5.ext E⟩
theorem Av.other (A : Av Z h b ty vs) (W : Wr h h' a sl v) (q : b ≠ a) : Av Z h' b ty vs := by
  obtain ⟨c, h1, h2, h3, h4, h5⟩ := A; exact ⟨c, h1.other W q, h2, h3, h4, h5.wr W⟩
theorem Av.same (A : Av Z h a ty vs) {i : Nat} (W : Wr h h' a i v) (hv : fits ty v = true) : Av Z h' a ty (vs.set i v) := by
  obtain ⟨c, h1, h2, h3, h4, h5⟩ := A
  refine ⟨_, h1.same W, ?_, by simpa using h3, fun w hw => ?_, h5.wr W⟩
  · subst h2; simp [Cell.setSlot]
  · rcases List.mem_or_eq_of_mem_set hw with q | q
    · exact h4 w q
    · rw [q]; exact hv
theorem Av.keep {ws : List Addr} (A : Av Z h a ty vs) (K : Keep h h' ws) (q : a ∉ ws) : Av Z h' a ty vs := by
  obtain ⟨c, h1, h2, h3, h4, h5⟩ := A; exact ⟨c, ⟨K.2.1 a c h1.1 q, h1.2⟩, h2, h3, h4, h5.keep K⟩
theorem Hol.lt (H : Hol Z h a o) : a < h.size := by
  rcases o with ⟨C, fs⟩ | ⟨ty, vs⟩
  · exact H.1.lt
  · exact Av.lt H
theorem Hol.ext (H : Hol Z h a o) (E : Ext h h') : Hol Z h' a o := by
  rcases o with ⟨C, fs⟩ | ⟨ty, vs⟩
  · exact ⟨H.1.ext E, fun i f q => (H.2.1 i f q).ext E, H.2.2⟩
  · exact Av.ext H E
theorem Hol.other (H : Hol Z h b o) (W : Wr h h' a sl v) (q : b ≠ a) : Hol Z h' b o := by
  rcases o with ⟨C, fs⟩ | ⟨ty, vs⟩
  · exact ⟨H.1.wr W, fun i f r => (H.2.1 i f r).other W (Or.inl q), H.2.2⟩
  · exact Av.other H W q
theorem Hol.keep {ws : List Addr} (H : Hol Z h a o) (K : Keep h h' ws) (q : a ∉ ws) : Hol Z h' a o := by
  rcases o with ⟨C, fs⟩ | ⟨ty, vs⟩
  · exact ⟨H.1.keep K, fun i f r => (H.2.1 i f r).keep K q, H.2.2⟩
  · exact Av.keep H K q
theorem get_set {α : Type} {xs : List α} {k i : Nat} {x y : α} (h : (xs.set k y)[i]? = some x) : (i = k ∧ x = y) ∨ (i ≠ k ∧ xs[i]? = some x) := by
  by_cases q : k = i
  · subst q
    rw [List.getElem?_set_self'] at h
    left; refine ⟨rfl, ?_⟩
    cases hx : xs[k]? with
    | none => rw [hx] at h; cases h
    | some z => rw [hx] at h; exact (Option.some.inj h).symm
  · right; exact ⟨Ne.symm q, by rwa [List.getElem?_set_ne q] at h⟩
theorem nodup_inj {xs : List String} (h : xs.Nodup) {i j : Nat} {s : String} (hi : xs[i]? = some s) (hj : xs[j]? = some s) : i = j := by
  obtain ⟨i1, i2⟩ := List.getElem?_eq_some_iff.mp hi
  obtain ⟨j1, j2⟩ := List.getElem?_eq_some_iff.mp hj
  have p := List.pairwise_iff_getElem.mp h
  rcases Nat.lt_trichotomy i j with q | q | q
  · exact absurd (i2.trans j2.symm) (p i j i1 j1 q)
  · exact q
  · exact absurd (j2.trans i2.symm) (p j i j1 i1 q)
theorem gne {α : Type} {xs : List α} {k i : Nat} {y : α} {r : Option α} (q : k ≠ i) (h : xs[i]? = r) : (xs.set k y)[i]? = r := by rw [List.getElem?_set_ne q]; exact h
theorem gse {α : Type} {xs : List α} {k : Nat} {x y : α} (h : xs[k]? = some x) : (xs.set k y)[k]? = some y := by
  rw [List.getElem?_set_self (List.getElem?_eq_some_iff.mp h).1]
theorem Wo.ge (W : Wo Z n0 h L) {k : Nat} (hk : L[k]? = some (a, o)) : n0 ≤ a := (W.2.1 k _ hk).1
theorem Wo.at (W : Wo Z n0 h L) {k : Nat} (hk : L[k]? = some (a, o)) : Hol Z h a o := (W.2.1 k _ hk).2
theorem Wo.le (W : Wo Z n0 h L) : n0 ≤ h.size := Nat.le_trans (Nat.le_of_eq W.1.1.symm) W.1.2.1
theorem Wo.ext (W : Wo Z n0 h L) (E : Ext h h') : Wo Z n0 h' L := ⟨W.1.ext E, fun i x q => ⟨(W.2.1 i x q).1, (W.2.1 i x q).2.ext E⟩, W.2.2⟩
theorem Wo.set (W : Wo Z n0 h L) {k : Nat} {o' : Ob} (hk : L[k]? = some (a, o)) (hs : Old Z n0 h') (hn : Hol Z h' a o') (ho : ∀ b o1, b ≠ a → Hol Z h b o1 → Hol Z h' b o1) : Wo Z n0 h' (L.set k (a, o')) := by
  refine ⟨hs, fun i x q => ?_, fun i j x y q r e => ?_⟩
  · rcases get_set q with ⟨rfl, rfl⟩ | ⟨ne, q⟩
    · exact ⟨W.ge hk, hn⟩
    · refine ⟨(W.2.1 i x q).1, ho _ _ (fun z => ne (W.2.2 i k x _ q hk z)) (W.2.1 i x q).2⟩
  · rcases get_set q with ⟨ei, ex⟩ | ⟨ne, q⟩ <;> rcases get_set r with ⟨ej, ey⟩ | ⟨ne', r⟩
    · rw [ei, ej]
    · rw [ex] at e; rw [ei]; exact W.2.2 k j _ _ hk r e
    · rw [ey] at e; rw [ej]; exact W.2.2 i k _ _ q hk e
    · exact W.2.2 _ _ _ _ q r e
theorem Wo.fld (W : Wo Z n0 h L) {k j : Nat} {C O n d : String} {fs : List Fl} {old : Value} (hk : L[k]? = some (a, .inl (C, fs))) (hj : fs[j]? = some (O, n, d, old)) (w : Wr h h' a (Jvm.RoadKit.slotOf Z O n d) v) :
    Wo Z n0 h' (L.set k (a, .inl (C, fs.set j (O, n, d, v)))) := by
  refine W.set hk (W.1.wr w (W.ge hk)) ?_ (fun b o1 ne H => H.other w ne)
  obtain ⟨h1, h2, h3⟩ := W.at hk
  refine ⟨h1.wr w, fun i f q => ?_, fun i i' f g q r ne => ?_⟩
  · rcases get_set q with ⟨ei, ef⟩ | ⟨ne, q⟩
    · rw [ef]
      have q2 : Fld Z h a O n d old := h2 j (O, n, d, old) hj
      show Fld Z h' a O n d v
      exact Fld.same w q2
    · have q2 : Jvm.RoadKit.slotOf Z f.1 f.2.1 f.2.2.1 ≠ Jvm.RoadKit.slotOf Z O n d := h3 i j f (O, n, d, old) q hj ne
      exact Fld.other w (h2 i f q) (Or.inr q2)
  · rcases get_set q with ⟨ei, ef⟩ | ⟨n1, q⟩ <;> rcases get_set r with ⟨ej, eg⟩ | ⟨n2, r⟩
    · exact absurd (ei.trans ej.symm) ne
    · rw [ef]; exact h3 j i' (O, n, d, old) g hj r (fun z => ne (ei.trans z))
    · rw [eg]; exact h3 i j f (O, n, d, old) q hj (fun z => ne (z.trans ej.symm))
    · exact h3 _ _ _ _ q r ne
theorem Wo.arr (W : Wo Z n0 h L) {k i : Nat} (hk : L[k]? = some (a, .inr (ty, vs))) (hv : fits ty v = true) (w : Wr h h' a i v) : Wo Z n0 h' (L.set k (a, .inr (ty, vs.set i v))) :=
  W.set hk (W.1.wr w (W.ge hk)) (Av.same (W.at hk) w hv) (fun b o1 ne H => H.other w ne)
theorem Wo.add (W : Wo Z n0 h L) (E : Ext h h') (H : Hol Z h' h.size o) : Wo Z n0 h' ((h.size, o) :: L) := by
  have lt : ∀ (i : Nat) (x : Addr × Ob), L[i]? = some x → x.1 < h.size := fun i x q => (W.2.1 i x q).2.lt
  refine ⟨W.1.ext E, fun i x q => ?_, fun i j x y q r e => ?_⟩
  · cases i with
    | zero => cases q; exact ⟨W.le, H⟩
    | succ i => rw [List.getElem?_cons_succ] at q; exact ⟨(W.2.1 i x q).1, (W.2.1 i x q).2.ext E⟩
  · cases i with
    | zero =>
      cases j with
      | zero => rfl
      | succ j => rw [List.getElem?_cons_succ] at r; cases q; have := lt j y r; rw [← e] at this; exact absurd this (Nat.lt_irrefl _)
    | succ i =>
      rw [List.getElem?_cons_succ] at q
      cases j with
      | zero => cases r; have := lt i x q; rw [e] at this; exact absurd this (Nat.lt_irrefl _)
      | succ j => rw [List.getElem?_cons_succ] at r; exact congrArg (· + 1) (W.2.2 _ _ _ _ q r e)
theorem Wo.front (W : Wo Z n0 h L) {k : Nat} {x : Addr × Ob} (hk : L[k]? = some x) : Wo Z n0 h (x :: L.eraseIdx k) := by
  have f : ∀ (i : Nat) (y : Addr × Ob), (L.eraseIdx k)[i]? = some y → ∃ j, L[j]? = some y ∧ j ≠ k ∧ j = if i < k then i else i + 1 := fun i y q => by
    rw [List.getElem?_eraseIdx] at q
    by_cases z : i < k
    · rw [if_pos z] at q; exact ⟨i, q, Nat.ne_of_lt z, by rw [if_pos z]⟩
    · rw [if_neg z] at q; exact ⟨i + 1, q, by omega, by rw [if_neg z]⟩
  refine ⟨W.1, fun i y q => ?_, fun i j y z q r e => ?_⟩
  · cases i with
    | zero => cases q; exact W.2.1 k _ hk
    | succ i => rw [List.getElem?_cons_succ] at q; obtain ⟨j, q1, -⟩ := f i y q; exact W.2.1 j y q1
  · cases i with
    | zero =>
      cases j with
      | zero => rfl
      | succ j => rw [List.getElem?_cons_succ] at r; cases q; obtain ⟨j', q1, ne, -⟩ := f j z r; exact absurd (W.2.2 _ _ _ _ hk q1 e).symm ne
    | succ i =>
      rw [List.getElem?_cons_succ] at q
      obtain ⟨i', q1, ne, e1⟩ := f i y q
      cases j with
      | zero => cases r; exact absurd (W.2.2 _ _ _ _ q1 hk e) ne
      | succ j =>
        rw [List.getElem?_cons_succ] at r
        obtain ⟨j', r1, -, e2⟩ := f j z r
        have := W.2.2 _ _ _ _ q1 r1 e
        rw [e1, e2] at this
        split at this <;> split at this <;> omega
theorem Wo.drop (W : Wo Z n0 h L) (k : Nat) : Wo Z n0 h (L.eraseIdx k) := by
  cases hk : L[k]? with
  | none => rw [List.eraseIdx_of_length_le (List.getElem?_eq_none_iff.mp hk)]; exact W
  | some x =>
    have F := W.front hk
    exact ⟨F.1, fun i y q => F.2.1 (i + 1) y q, fun i j y z q r e => Nat.succ.inj (F.2.2 (i + 1) (j + 1) y z q r e)⟩
/-- the index j (an int) is the place i -/
def Ix (j : Int32) (i : Nat) : Prop := ¬ j < 0 ∧ j.toNatClampNeg = i
instance (j : Int32) (i : Nat) : Decidable (Ix j i) := by unfold Ix; exact inferInstance
theorem Ix.ofNat {i : Nat} (h : i < 2 ^ 31) : Ix (Int32.ofNat i) i := by
  have e : (Int32.ofNat i).toInt = i := Int32.toInt_ofNat_of_lt h
  refine ⟨?_, by simp only [Int32.toNatClampNeg, e]; rfl⟩
  rw [Int32.lt_iff_toInt_lt, e]; show ¬ (i : Int) < 0; omega
theorem ltB {i n : Nat} (h : Nat.blt i n = true) : i < n := by simpa using h
theorem Av.inb {c : Cell} {j : Int32} {i : Nat} (hc : c.slots.toList = vs) (hj : Ix j i) (hi : i < vs.length) : ¬ (j < 0 ∨ c.slots.size ≤ j.toNatClampNeg) := by
  rintro (q | q)
  · exact hj.1 q
  · rw [hj.2] at q; subst hc; rw [Array.length_toList] at hi; omega
theorem Av.val {c : Cell} {i : Nat} (hc : c.slots.toList = vs) (hi : vs[i]? = some v) : c.slots[i]? = some v := by
  subst hc; rw [← hi]; simp
end Facts
abbrev Ctx := Program × Env × State × MethodId × Array Value × List Frame × Method × Code
abbrev Ctx.p (κ : Ctx) : Program := κ.1
abbrev Ctx.e (κ : Ctx) : Env := κ.2.1
abbrev Ctx.s (κ : Ctx) : State := κ.2.2.1
abbrev Ctx.m (κ : Ctx) : MethodId := κ.2.2.2.1
abbrev Ctx.args (κ : Ctx) : Array Value := κ.2.2.2.2.1
abbrev Ctx.below (κ : Ctx) : List Frame := κ.2.2.2.2.2.1
abbrev Ctx.meth (κ : Ctx) : Method := κ.2.2.2.2.2.2.1
abbrev Ctx.c (κ : Ctx) : Code := κ.2.2.2.2.2.2.2
def Ok (Z : State) (κ : Ctx) (own : String) (bytes : ByteArray) (maxL : Nat) (ret : Option FieldType) (nm : String) : Prop :=
  κ.p.tables.exec = Jvm.exec ∧ Z.Warmed39 κ.s.vm ∧ κ.s.vm.findClass own = some κ.m.cls ∧ κ.c.code = bytes ∧ κ.c.maxLocals = maxL ∧ κ.meth.sig.returnType = ret ∧ κ.meth.locks = false ∧ κ.meth.name = nm
/-- from here (this heap, this frame) the body runs to its end, and returns what Q says -/
def Go (l : Launch) (Z : State) (n0 : Nat) (R : Room) (Q : Option Value → Wd → Prop) (κ : Ctx) (ce sl : Nat) (L : Wd) (pc : Nat) (Ls : Array Slot) (st : List Value) : Prop :=
  ∀ (T : State) (locs : List Loc), Stand κ.p l κ.e R κ.s κ.m κ.args κ.below κ.meth κ.c T locs ce sl → Fr n0 locs → Wo Z n0 T.heap L →
    ∃ (U : State) (o : Outcome), Steps κ.p.tables κ.e κ.below (T.setTop (mkF κ.m pc Ls st)) U ∧ U.status = .running ∧ Ended U κ.below o ∧
      ∃ (v : Option Value) (Lc : List Loc), o = .returned v ∧ (Fr n0 Lc ∧ ∃ L', Q v L' ∧ Wo Z n0 U.heap L') ∧ FrameEnd κ.s o U Lc R.cells R.slots
/-- the contract of a method, called with these arguments in this world -/
def Con (l : Launch) (Z : State) (n0 : Nat) (y : MethodName) (bytes : ByteArray) (maxL : Nat) (ret : Option FieldType) (rm : Room) (as : List Value) (L : Wd) (Q : Option Value → Wd → Prop) : Prop :=
  ∀ h0, Wo Z n0 h0 L → MetFree l y (head1 [Cond.code y bytes maxL ret] rm) (fun a U => a = as.toArray ∧ Z.Warmed39 U.vm ∧ U.heap = h0) (fun _ _ _ _ _ => True)
    (fun _ U o U' => ∃ (v : Option Value) (Lc : List Loc), o = .returned v ∧ (Fr n0 Lc ∧ ∃ L', Q v L' ∧ Wo Z n0 U'.heap L') ∧ FrameEnd U o U' Lc rm.cells rm.slots)
section Steps
variable {l : Launch} {Z : State} {n0 : Nat} {R : Room} {Q : Option Value → Wd → Prop} {κ : Ctx} {ce sl : Nat} {L : Wd} {pc pc' : Nat} {Ls Ls' : Array Slot} {st rest : List Value} {own : String} {bytes : ByteArray} {maxL : Nat} {ret : Option FieldType} {nm : String} {a0 : Array Value}
/-- what the body owes, over the words ws of its head: the law's own entry and a callee's -/
theorem enter {y : MethodName} {ws : List Cond} {rm : Room} {as : List Value} {h0 : Heap} (W0 : Wo Z n0 h0 L) (hn : plainFor y = true) (ef : ∀ m, entryFrame m as.toArray maxL = mkF m 0 Ls [])
    (body : ∀ κ : Ctx, Ok Z κ y.cls bytes maxL ret y.name → Go l Z n0 rm Q κ 0 0 L 0 Ls []) :
    MetFree l y (head1 (Cond.code y bytes maxL ret :: ws) rm) (fun a U => a = as.toArray ∧ Z.Warmed39 U.vm ∧ U.heap = h0) (fun _ _ _ _ _ => True)
      (fun _ U o U' => ∃ (v : Option Value) (Lc : List Loc), o = .returned v ∧ (Fr n0 Lc ∧ ∃ L', Q v L' ∧ Wo Z n0 U'.heap L') ∧ FrameEnd U o U' Lc rm.cells rm.slots) := by
  refine MetFree.of_bodySF hn hisR ?_
  intro p e s m args below meth c s₁ Bd hml0 hP hK
  obtain ⟨rfl, hZ, hh⟩ := hP
  have hown : s.vm.findClass y.cls = some m.cls := findClass_of_methodNamed Bd.named
  have hnm := (name_of_methodNamed Bd.named Bd.method).1
  have X0 : Stand p l e rm s m as.toArray below meth c s₁ [] 0 0 := Stand.of_body Bd
  have e0 : s₁.heap = h0 := by rw [← hh, Bd.state]; rfl
  obtain ⟨U, o, h1, h2⟩ := body (p, e, s, m, as.toArray, below, meth, c) ⟨Bd.exec, hZ, hown, Bd.bytes, hml0, Bd.returns, Bd.notSynchronized, hnm⟩ s₁ [] X0 (Fr.nil n0) (by rw [e0]; exact W0)
  exact ⟨U, o, castTop (ef m) h1, h2⟩
theorem Con.of {y : MethodName} {rm : Room} {as : List Value} (hn : plainFor y = true) (ef : ∀ m, entryFrame m as.toArray maxL = mkF m 0 Ls [])
    (body : ∀ κ : Ctx, Ok Z κ y.cls bytes maxL ret y.name → Go l Z n0 rm Q κ 0 0 L 0 Ls []) : Con l Z n0 y bytes maxL ret rm as L Q := fun h0 W0 => enter W0 hn ef body
theorem Con.mono {y : MethodName} {rm : Room} {as : List Value} {Q' : Option Value → Wd → Prop} (C : Con l Z n0 y bytes maxL ret rm as L Q) (hq : ∀ v L', Q v L' → Q' v L') : Con l Z n0 y bytes maxL ret rm as L Q' := fun h0 W0 p e h1 h2 h3 s m args below h4 h5 h6 h7 => by
  obtain ⟨n, o, g1, g2, g3, v, Lc, g4, ⟨g5, L', g6, g7⟩, g8⟩ := C h0 W0 p e h1 h2 h3 s m args below h4 h5 h6 h7
  exact ⟨n, o, g1, g2, g3, v, Lc, g4, ⟨g5, L', hq _ _ g6, g7⟩, g8⟩
theorem Go.more {ce' sl' : Nat} (hc : ce ≤ ce') (hs : sl ≤ sl') (nx : Go l Z n0 R Q κ ce' sl' L pc Ls st) : Go l Z n0 R Q κ ce sl L pc Ls st := fun T locs X N W => nx T locs (X.more hc hs) N W
theorem s_front {k : Nat} {x : Addr × Ob} {L' : Wd} (hk : L[k]? = some x) (hL : x :: L.eraseIdx k = L') (nx : Go l Z n0 R Q κ ce sl L' pc Ls st) : Go l Z n0 R Q κ ce sl L pc Ls st := by
  subst hL; exact fun T locs X N W => nx T locs X N (W.front hk)
theorem s_drop {k : Nat} {L' : Wd} (hL : L.eraseIdx k = L') (nx : Go l Z n0 R Q κ ce sl L' pc Ls st) : Go l Z n0 R Q κ ce sl L pc Ls st := by
  subst hL; exact fun T locs X N W => nx T locs X N (W.drop k)
theorem Go.step (nx : Go l Z n0 R Q κ ce sl L pc' Ls' rest) (h : ∀ (T : State) (locs : List Loc), Stand κ.p l κ.e R κ.s κ.m κ.args κ.below κ.meth κ.c T locs ce sl → ∀ target, Steps κ.p.tables κ.e κ.below (T.setTop (mkF κ.m pc' Ls' rest)) target → Steps κ.p.tables κ.e κ.below (T.setTop (mkF κ.m pc Ls st)) target) : Go l Z n0 R Q κ ce sl L pc Ls st :=
  fun T locs X N W => by obtain ⟨U, o, h1, h2⟩ := nx T locs X N W; exact ⟨U, o, h T locs X U h1, h2⟩
theorem Ok.dec {r : Except DecodeError (Instr × Nat)} (K : Ok Z κ own bytes maxL ret nm) (h : decode bytes pc = r) : decode κ.c.code pc = r := hb K.2.2.2.1 h
theorem Ok.ex (K : Ok Z κ own bytes maxL ret nm) : κ.p.tables.exec = Jvm.exec := K.1
theorem Ok.zw (K : Ok Z κ own bytes maxL ret nm) : Z.Warmed39 κ.s.vm := K.2.1
theorem Ok.ow (K : Ok Z κ own bytes maxL ret nm) : κ.s.vm.findClass own = some κ.m.cls := K.2.2.1
theorem s_aloadN (K : Ok Z κ own bytes maxL ret nm) {k : Fin 4} {v : Value} (hd : decode bytes pc = .ok (.aload_n k, 1)) (e : pc + 1 = pc') (hl : Ls[k.val]? = some (.val v)) (hv : v.isRef = true) (nx : Go l Z n0 R Q κ ce sl L pc' Ls (v :: st)) : Go l Z n0 R Q κ ce sl L pc Ls st := by
  subst e; exact nx.step fun T locs X target h => XS.aloadN X.here K.ex rfl (K.dec hd) hl hv h
theorem s_aload (K : Ok Z κ own bytes maxL ret nm) {k : Nat} {v : Value} (hd : decode bytes pc = .ok (.aload k, 2)) (e : pc + 2 = pc') (hl : Ls[k]? = some (.val v)) (hv : v.isRef = true) (nx : Go l Z n0 R Q κ ce sl L pc' Ls (v :: st)) : Go l Z n0 R Q κ ce sl L pc Ls st := by
  subst e; exact nx.step fun T locs X target h => XS.aload X.here K.ex rfl (K.dec hd) hl hv h
theorem s_iloadN (K : Ok Z κ own bytes maxL ret nm) {k : Fin 4} {v : Int32} (hd : decode bytes pc = .ok (.iload_n k, 1)) (e : pc + 1 = pc') (hl : Ls[k.val]? = some (.val (.int v))) (nx : Go l Z n0 R Q κ ce sl L pc' Ls (.int v :: st)) : Go l Z n0 R Q κ ce sl L pc Ls st := by
  subst e; exact nx.step fun T locs X target h => XS.iloadN X.here K.ex rfl (K.dec hd) hl h
theorem s_iload (K : Ok Z κ own bytes maxL ret nm) {k : Nat} {v : Int32} (hd : decode bytes pc = .ok (.iload k, 2)) (e : pc + 2 = pc') (hl : Ls[k]? = some (.val (.int v))) (nx : Go l Z n0 R Q κ ce sl L pc' Ls (.int v :: st)) : Go l Z n0 R Q κ ce sl L pc Ls st := by
  subst e; exact nx.step fun T locs X target h => XS.iload X.here K.ex rfl (K.dec hd) hl h
theorem s_lloadN (K : Ok Z κ own bytes maxL ret nm) {k : Fin 4} {v : Int64} (hd : decode bytes pc = .ok (.lload_n k, 1)) (e : pc + 1 = pc') (hl : Ls[k.val]? = some (.val (.long v))) (nx : Go l Z n0 R Q κ ce sl L pc' Ls (.long v :: st)) : Go l Z n0 R Q κ ce sl L pc Ls st := by
  subst e; exact nx.step fun T locs X target h => XT.lloadN X.here K.ex rfl (K.dec hd) hl h
theorem s_lload (K : Ok Z κ own bytes maxL ret nm) {k : Nat} {v : Int64} (hd : decode bytes pc = .ok (.lload k, 2)) (e : pc + 2 = pc') (hl : Ls[k]? = some (.val (.long v))) (nx : Go l Z n0 R Q κ ce sl L pc' Ls (.long v :: st)) : Go l Z n0 R Q κ ce sl L pc Ls st := by
  subst e; exact nx.step fun T locs X target h => XT.lload X.here K.ex rfl (K.dec hd) hl h
theorem s_iconst (K : Ok Z κ own bytes maxL ret nm) {i : Int} {z : Int32} (hd : decode bytes pc = .ok (.iconst i, 1)) (e : pc + 1 = pc') (hz : Int32.ofInt i = z) (nx : Go l Z n0 R Q κ ce sl L pc' Ls (.int z :: st)) : Go l Z n0 R Q κ ce sl L pc Ls st := by
  subst e hz; exact nx.step fun T locs X target h => XS.iconst X.here K.ex rfl (K.dec hd) h
theorem s_bipush (K : Ok Z κ own bytes maxL ret nm) {i : Int} {z : Int32} (hd : decode bytes pc = .ok (.bipush i, 2)) (e : pc + 2 = pc') (hz : (Int8.ofInt i).toInt32 = z) (nx : Go l Z n0 R Q κ ce sl L pc' Ls (.int z :: st)) : Go l Z n0 R Q κ ce sl L pc Ls st := by
  subst e hz; exact nx.step fun T locs X target h => XS.bipush X.here K.ex rfl (K.dec hd) h
theorem s_sipush (K : Ok Z κ own bytes maxL ret nm) {i : Int} {z : Int32} (hd : decode bytes pc = .ok (.sipush i, 3)) (e : pc + 3 = pc') (hz : (Int16.ofInt i).toInt32 = z) (nx : Go l Z n0 R Q κ ce sl L pc' Ls (.int z :: st)) : Go l Z n0 R Q κ ce sl L pc Ls st := by
  subst e hz; exact nx.step fun T locs X target h => XS.sipush X.here K.ex rfl (K.dec hd) h
theorem s_null (K : Ok Z κ own bytes maxL ret nm) (hd : decode bytes pc = .ok (.aconst_null, 1)) (e : pc + 1 = pc') (nx : Go l Z n0 R Q κ ce sl L pc' Ls (.null :: st)) : Go l Z n0 R Q κ ce sl L pc Ls st := by
  subst e; exact nx.step fun T locs X target h => XS.aconstNull X.here K.ex rfl (K.dec hd) h
theorem s_ldc (K : Ok Z κ own bytes maxL ret nm) {i : Nat} {z : Int32} (hd : decode bytes pc = .ok (.ldc i, 2)) (e : pc + 2 = pc') (w : (Cond.constant own i z).before a0 Z = true) (nx : Go l Z n0 R Q κ ce sl L pc' Ls (.int z :: st)) : Go l Z n0 R Q κ ce sl L pc Ls st := by
  subst e; exact nx.step fun T locs X target h => X.ldcInt K.ex K.ow (mvT K.zw w) (g := mkF κ.m pc Ls st) rfl (K.dec hd) target h
theorem s_iadd (K : Ok Z κ own bytes maxL ret nm) {z : Int32} {x y : Int32} (hd : decode bytes pc = .ok (.iadd, 1)) (e : pc + 1 = pc') (hz : x + y = z) (nx : Go l Z n0 R Q κ ce sl L pc' Ls (.int z :: st)) : Go l Z n0 R Q κ ce sl L pc Ls (.int y :: .int x :: st) := by
  subst e hz; exact nx.step fun T locs X target h => XS.iadd X.here K.ex rfl (K.dec hd) rfl h
theorem s_isub (K : Ok Z κ own bytes maxL ret nm) {z : Int32} {x y : Int32} (hd : decode bytes pc = .ok (.isub, 1)) (e : pc + 1 = pc') (hz : x - y = z) (nx : Go l Z n0 R Q κ ce sl L pc' Ls (.int z :: st)) : Go l Z n0 R Q κ ce sl L pc Ls (.int y :: .int x :: st) := by
  subst e hz; exact nx.step fun T locs X target h => XS.isub X.here K.ex rfl (K.dec hd) rfl h
theorem s_imul (K : Ok Z κ own bytes maxL ret nm) {z : Int32} {x y : Int32} (hd : decode bytes pc = .ok (.imul, 1)) (e : pc + 1 = pc') (hz : x * y = z) (nx : Go l Z n0 R Q κ ce sl L pc' Ls (.int z :: st)) : Go l Z n0 R Q κ ce sl L pc Ls (.int y :: .int x :: st) := by
  subst e hz; exact nx.step fun T locs X target h => XS.imul X.here K.ex rfl (K.dec hd) rfl h
theorem s_irem (K : Ok Z κ own bytes maxL ret nm) {z : Int32} {x y : Int32} (hd : decode bytes pc = .ok (.irem, 1)) (e : pc + 1 = pc') (hy : y ≠ 0) (hz : x % y = z) (nx : Go l Z n0 R Q κ ce sl L pc' Ls (.int z :: st)) : Go l Z n0 R Q κ ce sl L pc Ls (.int y :: .int x :: st) := by
  subst e hz; exact nx.step fun T locs X target h => iremM X K.ex rfl (K.dec hd) rfl hy h
theorem s_idiv (K : Ok Z κ own bytes maxL ret nm) {z : Int32} {x y : Int32} (hd : decode bytes pc = .ok (.idiv, 1)) (e : pc + 1 = pc') (hy : y ≠ 0) (hz : x / y = z) (nx : Go l Z n0 R Q κ ce sl L pc' Ls (.int z :: st)) : Go l Z n0 R Q κ ce sl L pc Ls (.int y :: .int x :: st) := by
  subst e hz; exact nx.step fun T locs X target h => XS.idiv X.here K.ex rfl (K.dec hd) rfl hy h
theorem s_iand (K : Ok Z κ own bytes maxL ret nm) {z : Int32} {x y : Int32} (hd : decode bytes pc = .ok (.iand, 1)) (e : pc + 1 = pc') (hz : x &&& y = z) (nx : Go l Z n0 R Q κ ce sl L pc' Ls (.int z :: st)) : Go l Z n0 R Q κ ce sl L pc Ls (.int y :: .int x :: st) := by
  subst e hz; exact nx.step fun T locs X target h => XS.iand X.here K.ex rfl (K.dec hd) rfl h
theorem s_dup (K : Ok Z κ own bytes maxL ret nm) {x : Value} (hd : decode bytes pc = .ok (.dup, 1)) (e : pc + 1 = pc') (hc : x.category = 1) (nx : Go l Z n0 R Q κ ce sl L pc' Ls (x :: x :: st)) : Go l Z n0 R Q κ ce sl L pc Ls (x :: st) := by
  subst e; exact nx.step fun T locs X target h => XS.dup X.here K.ex rfl (K.dec hd) rfl hc h
theorem s_istoreN (K : Ok Z κ own bytes maxL ret nm) {k : Fin 4} {x : Int32} (hd : decode bytes pc = .ok (.istore_n k, 1)) (e : pc + 1 = pc') (hl : storeLocals Ls k.val (.int x) = some Ls') (nx : Go l Z n0 R Q κ ce sl L pc' Ls' st) : Go l Z n0 R Q κ ce sl L pc Ls (.int x :: st) := by
  subst e; exact nx.step fun T locs X target h => XS.istoreN X.here K.ex rfl (K.dec hd) rfl hl h
theorem s_istore (K : Ok Z κ own bytes maxL ret nm) {k : Nat} {x : Int32} (hd : decode bytes pc = .ok (.istore k, 2)) (e : pc + 2 = pc') (hl : storeLocals Ls k (.int x) = some Ls') (nx : Go l Z n0 R Q κ ce sl L pc' Ls' st) : Go l Z n0 R Q κ ce sl L pc Ls (.int x :: st) := by
  subst e; exact nx.step fun T locs X target h => XS.istore X.here K.ex rfl (K.dec hd) rfl hl h
theorem s_astoreN (K : Ok Z κ own bytes maxL ret nm) {k : Fin 4} {x : Value} (hd : decode bytes pc = .ok (.astore_n k, 1)) (e : pc + 1 = pc') (hv : x.isRef = true) (hl : storeLocals Ls k.val x = some Ls') (nx : Go l Z n0 R Q κ ce sl L pc' Ls' st) : Go l Z n0 R Q κ ce sl L pc Ls (x :: st) := by
  subst e; exact nx.step fun T locs X target h => XS.astoreN X.here K.ex rfl (K.dec hd) rfl hv hl h
theorem s_astore (K : Ok Z κ own bytes maxL ret nm) {k : Nat} {x : Value} (hd : decode bytes pc = .ok (.astore k, 2)) (e : pc + 2 = pc') (hv : x.isRef = true) (hl : storeLocals Ls k x = some Ls') (nx : Go l Z n0 R Q κ ce sl L pc' Ls' st) : Go l Z n0 R Q κ ce sl L pc Ls (x :: st) := by
  subst e; exact nx.step fun T locs X target h => XS.astore X.here K.ex rfl (K.dec hd) rfl hv hl h
theorem s_lstoreN (K : Ok Z κ own bytes maxL ret nm) {k : Fin 4} {x : Int64} (hd : decode bytes pc = .ok (.lstore_n k, 1)) (e : pc + 1 = pc') (hl : storeLocals Ls k.val (.long x) = some Ls') (nx : Go l Z n0 R Q κ ce sl L pc' Ls' st) : Go l Z n0 R Q κ ce sl L pc Ls (.long x :: st) := by
  subst e; exact nx.step fun T locs X target h => XT.lstoreN X.here K.ex rfl (K.dec hd) rfl hl h
theorem s_lstore (K : Ok Z κ own bytes maxL ret nm) {k : Nat} {x : Int64} (hd : decode bytes pc = .ok (.lstore k, 2)) (e : pc + 2 = pc') (hl : storeLocals Ls k (.long x) = some Ls') (nx : Go l Z n0 R Q κ ce sl L pc' Ls' st) : Go l Z n0 R Q κ ce sl L pc Ls (.long x :: st) := by
  subst e; exact nx.step fun T locs X target h => XT.lstore X.here K.ex rfl (K.dec hd) rfl hl h
theorem s_iinc (K : Ok Z κ own bytes maxL ret nm) {k : Nat} {cst : Int} {x z : Int32} (hd : decode bytes pc = .ok (.iinc k cst, 3)) (e : pc + 3 = pc') (hl : Ls[k]? = some (.val (.int x))) (hz : x + Int32.ofInt cst = z) (hl' : storeLocals Ls k (.int z) = some Ls') (nx : Go l Z n0 R Q κ ce sl L pc' Ls' st) : Go l Z n0 R Q κ ce sl L pc Ls st := by
  subst e hz; exact nx.step fun T locs X target h => XS.iinc X.here K.ex rfl (K.dec hd) hl hl' h
theorem s_goto (K : Ok Z κ own bytes maxL ret nm) {o : Int} (hd : decode bytes pc = .ok (.goto o, 3)) (ho : 0 ≤ (pc : Int) + o) (hp : ((pc : Int) + o).toNat = pc') (nx : Go l Z n0 R Q κ ce sl L pc' Ls st) : Go l Z n0 R Q κ ce sl L pc Ls st :=
  nx.step fun T locs X target h => XS.goto X.here K.ex rfl rfl (K.dec hd) ho hp h
theorem s_ifY (K : Ok Z κ own bytes maxL ret nm) {cd : ClassFile.Cond} {x : Int32} {o : Int} (hd : decode bytes pc = .ok (.ifCond cd o, 3)) (hc : ifCond.holds cd x = true) (ho : 0 ≤ (pc : Int) + o) (hp : ((pc : Int) + o).toNat = pc') (nx : Go l Z n0 R Q κ ce sl L pc' Ls st) : Go l Z n0 R Q κ ce sl L pc Ls (.int x :: st) :=
  nx.step fun T locs X target h => XS.ifYes X.here K.ex rfl rfl (K.dec hd) rfl hc ho hp h
theorem s_ifN (K : Ok Z κ own bytes maxL ret nm) {cd : ClassFile.Cond} {x : Int32} {o : Int} (hd : decode bytes pc = .ok (.ifCond cd o, 3)) (e : pc + 3 = pc') (hc : ifCond.holds cd x = false) (nx : Go l Z n0 R Q κ ce sl L pc' Ls st) : Go l Z n0 R Q κ ce sl L pc Ls (.int x :: st) := by
  subst e; exact nx.step fun T locs X target h => XS.ifNo X.here K.ex rfl (K.dec hd) rfl hc h
theorem s_icY (K : Ok Z κ own bytes maxL ret nm) {cd : ClassFile.Cond} {x y : Int32} {o : Int} (hd : decode bytes pc = .ok (.if_icmp cd o, 3)) (hc : if_icmp.holds cd x y = true) (ho : 0 ≤ (pc : Int) + o) (hp : ((pc : Int) + o).toNat = pc') (nx : Go l Z n0 R Q κ ce sl L pc' Ls st) : Go l Z n0 R Q κ ce sl L pc Ls (.int y :: .int x :: st) :=
  nx.step fun T locs X target h => XS.icmpYes X.here K.ex rfl rfl (K.dec hd) rfl hc ho hp h
theorem s_icN (K : Ok Z κ own bytes maxL ret nm) {cd : ClassFile.Cond} {x y : Int32} {o : Int} (hd : decode bytes pc = .ok (.if_icmp cd o, 3)) (e : pc + 3 = pc') (hc : if_icmp.holds cd x y = false) (nx : Go l Z n0 R Q κ ce sl L pc' Ls st) : Go l Z n0 R Q κ ce sl L pc Ls (.int y :: .int x :: st) := by
  subst e; exact nx.step fun T locs X target h => XS.icmpNo X.here K.ex rfl (K.dec hd) rfl hc h
theorem s_nullY (K : Ok Z κ own bytes maxL ret nm) {o : Int} (hd : decode bytes pc = .ok (.ifnull o, 3)) (ho : 0 ≤ (pc : Int) + o) (hp : ((pc : Int) + o).toNat = pc') (nx : Go l Z n0 R Q κ ce sl L pc' Ls st) : Go l Z n0 R Q κ ce sl L pc Ls (.null :: st) :=
  nx.step fun T locs X target h => XS.ifnullYes X.here K.ex rfl rfl (K.dec hd) rfl ho hp h
theorem s_nullN (K : Ok Z κ own bytes maxL ret nm) {o : Int} {b : Addr} (hd : decode bytes pc = .ok (.ifnull o, 3)) (e : pc + 3 = pc') (nx : Go l Z n0 R Q κ ce sl L pc' Ls st) : Go l Z n0 R Q κ ce sl L pc Ls (.ref b :: st) := by
  subst e; exact nx.step fun T locs X target h => XS.ifnullNo X.here K.ex rfl (K.dec hd) rfl h
theorem s_nonnullY (K : Ok Z κ own bytes maxL ret nm) {o : Int} {b : Addr} (hd : decode bytes pc = .ok (.ifnonnull o, 3)) (ho : 0 ≤ (pc : Int) + o) (hp : ((pc : Int) + o).toNat = pc') (nx : Go l Z n0 R Q κ ce sl L pc' Ls st) : Go l Z n0 R Q κ ce sl L pc Ls (.ref b :: st) :=
  nx.step fun T locs X target h => XT.ifnonnullYes X.here K.ex rfl rfl (K.dec hd) rfl ho hp h
theorem s_nonnullN (K : Ok Z κ own bytes maxL ret nm) {o : Int} (hd : decode bytes pc = .ok (.ifnonnull o, 3)) (e : pc + 3 = pc') (nx : Go l Z n0 R Q κ ce sl L pc' Ls st) : Go l Z n0 R Q κ ce sl L pc Ls (.null :: st) := by
  subst e; exact nx.step fun T locs X target h => XT.ifnonnullNo X.here K.ex rfl (K.dec hd) rfl h
theorem s_iushr (K : Ok Z κ own bytes maxL ret nm) {x y z : Int32} (hd : decode bytes pc = .ok (.iushr, 1)) (e : pc + 1 = pc') (hz : XT.ushr x y = z) (nx : Go l Z n0 R Q κ ce sl L pc' Ls (.int z :: st)) : Go l Z n0 R Q κ ce sl L pc Ls (.int y :: .int x :: st) := by
  subst e hz; exact nx.step fun T locs X target h => XT.iushr X.here K.ex rfl (K.dec hd) rfl h
theorem s_i2b (K : Ok Z κ own bytes maxL ret nm) {z : Int32} {x : Int32} (hd : decode bytes pc = .ok (.i2b, 1)) (e : pc + 1 = pc') (hz : x.toInt8.toInt32 = z) (nx : Go l Z n0 R Q κ ce sl L pc' Ls (.int z :: st)) : Go l Z n0 R Q κ ce sl L pc Ls (.int x :: st) := by
  subst e hz; exact nx.step fun T locs X target h => XT.i2b X.here K.ex rfl (K.dec hd) rfl h
theorem s_dupx1 (K : Ok Z κ own bytes maxL ret nm) {x y : Value} (hd : decode bytes pc = .ok (.dup_x1, 1)) (e : pc + 1 = pc') (hc : x.category = 1) (hc' : y.category = 1) (nx : Go l Z n0 R Q κ ce sl L pc' Ls (x :: y :: x :: st)) : Go l Z n0 R Q κ ce sl L pc Ls (x :: y :: st) := by
  subst e; exact nx.step fun T locs X target h => XT.dupX1 X.here K.ex rfl (K.dec hd) rfl hc hc' h
theorem s_dup2 (K : Ok Z κ own bytes maxL ret nm) {x y : Value} (hd : decode bytes pc = .ok (.dup2, 1)) (e : pc + 1 = pc') (hc : x.category = 1) (hc' : y.category = 1) (nx : Go l Z n0 R Q κ ce sl L pc' Ls (x :: y :: x :: y :: st)) : Go l Z n0 R Q κ ce sl L pc Ls (x :: y :: st) := by
  subst e; exact nx.step fun T locs X target h => XT.dup2 X.here K.ex rfl (K.dec hd) rfl hc hc' h
theorem s_pop (K : Ok Z κ own bytes maxL ret nm) {x : Value} (hd : decode bytes pc = .ok (.pop, 1)) (e : pc + 1 = pc') (hc : x.category = 1) (nx : Go l Z n0 R Q κ ce sl L pc' Ls st) : Go l Z n0 R Q κ ce sl L pc Ls (x :: st) := by
  subst e; exact nx.step fun T locs X target h => XT.pop X.here K.ex rfl (K.dec hd) rfl hc h
theorem s_lcmp (K : Ok Z κ own bytes maxL ret nm) {x y : Int64} (hd : decode bytes pc = .ok (.lcmp, 1)) (e : pc + 1 = pc') (nx : Go l Z n0 R Q κ ce sl L pc' Ls (.int (XT.cmpL x y) :: st)) : Go l Z n0 R Q κ ce sl L pc Ls (.long y :: .long x :: st) := by
  subst e; exact nx.step fun T locs X target h => XT.lcmp X.here K.ex rfl (K.dec hd) rfl h
theorem s_ladd (K : Ok Z κ own bytes maxL ret nm) {z : Int64} {x y : Int64} (hd : decode bytes pc = .ok (.ladd, 1)) (e : pc + 1 = pc') (hz : x + y = z) (nx : Go l Z n0 R Q κ ce sl L pc' Ls (.long z :: st)) : Go l Z n0 R Q κ ce sl L pc Ls (.long y :: .long x :: st) := by
  subst e hz; exact nx.step fun T locs X target h => XT.ladd X.here K.ex rfl (K.dec hd) rfl h
theorem s_lxor (K : Ok Z κ own bytes maxL ret nm) {z : Int64} {x y : Int64} (hd : decode bytes pc = .ok (.lxor, 1)) (e : pc + 1 = pc') (hz : x ^^^ y = z) (nx : Go l Z n0 R Q κ ce sl L pc' Ls (.long z :: st)) : Go l Z n0 R Q κ ce sl L pc Ls (.long y :: .long x :: st) := by
  subst e hz; exact nx.step fun T locs X target h => XT.lxor X.here K.ex rfl (K.dec hd) rfl h
theorem s_lushr (K : Ok Z κ own bytes maxL ret nm) {z : Int64} {x : Int64} {y : Int32} (hd : decode bytes pc = .ok (.lushr, 1)) (e : pc + 1 = pc') (hz : XT.ushrL x y = z) (nx : Go l Z n0 R Q κ ce sl L pc' Ls (.long z :: st)) : Go l Z n0 R Q κ ce sl L pc Ls (.int y :: .long x :: st) := by
  subst e hz; exact nx.step fun T locs X target h => XT.lushr X.here K.ex rfl (K.dec hd) rfl h
theorem s_l2i (K : Ok Z κ own bytes maxL ret nm) {z : Int32} {x : Int64} (hd : decode bytes pc = .ok (.l2i, 1)) (e : pc + 1 = pc') (hz : x.toInt32 = z) (nx : Go l Z n0 R Q κ ce sl L pc' Ls (.int z :: st)) : Go l Z n0 R Q κ ce sl L pc Ls (.long x :: st) := by
  subst e hz; exact nx.step fun T locs X target h => XT.l2i X.here K.ex rfl (K.dec hd) rfl h
theorem s_dupx2 (K : Ok Z κ own bytes maxL ret nm) {x y z : Value} (hd : decode bytes pc = .ok (.dup_x2, 1)) (e : pc + 1 = pc') (hc : x.category = 1) (hc' : y.category = 1) (hc'' : z.category = 1) (nx : Go l Z n0 R Q κ ce sl L pc' Ls (x :: y :: z :: x :: st)) : Go l Z n0 R Q κ ce sl L pc Ls (x :: y :: z :: st) := by
  subst e; exact nx.step fun T locs X target h => by
    have hx := K.ex
    have hd' := K.dec hd
    jvm_step X.here [X.here.top, hx, hd', hc, hc', hc'']
    exact h
theorem s_if (K : Ok Z κ own bytes maxL ret nm) {cd : ClassFile.Cond} {x : Int32} {o : Int} {pn : Nat} (hd : decode bytes pc = .ok (.ifCond cd o, 3)) (e : pc + 3 = pn) (ho : 0 ≤ (pc : Int) + o) (hp : ((pc : Int) + o).toNat = pc') (yes : ifCond.holds cd x = true → Go l Z n0 R Q κ ce sl L pc' Ls st) (no : ifCond.holds cd x = false → Go l Z n0 R Q κ ce sl L pn Ls st) : Go l Z n0 R Q κ ce sl L pc Ls (.int x :: st) := by
  cases h : ifCond.holds cd x
  · exact s_ifN K hd e h (no h)
  · exact s_ifY K hd h ho hp (yes h)
theorem s_ic (K : Ok Z κ own bytes maxL ret nm) {cd : ClassFile.Cond} {x y : Int32} {o : Int} {pn : Nat} (hd : decode bytes pc = .ok (.if_icmp cd o, 3)) (e : pc + 3 = pn) (ho : 0 ≤ (pc : Int) + o) (hp : ((pc : Int) + o).toNat = pc') (yes : if_icmp.holds cd x y = true → Go l Z n0 R Q κ ce sl L pc' Ls st) (no : if_icmp.holds cd x y = false → Go l Z n0 R Q κ ce sl L pn Ls st) : Go l Z n0 R Q κ ce sl L pc Ls (.int y :: .int x :: st) := by
  cases h : if_icmp.holds cd x y
  · exact s_icN K hd e h (no h)
  · exact s_icY K hd h ho hp (yes h)
/-! the heap -/
theorem s_getf (K : Ok Z κ own bytes maxL ret nm) {idx k j : Nat} {O n d C : String} {a : Addr} {fs : List Fl} {v : Value} (hd : decode bytes pc = .ok (.getfield idx, 3)) (e : pc + 3 = pc') (w : (Cond.fieldLink own idx O n d).before a0 Z = true)
    (hk : L[k]? = some (a, .inl (C, fs))) (hj : fs[j]? = some (O, n, d, v)) (nx : Go l Z n0 R Q κ ce sl L pc' Ls (v :: st)) : Go l Z n0 R Q κ ce sl L pc Ls (.ref a :: st) := by
  subst e; intro T locs X N W
  obtain ⟨T', X', e', stp⟩ := getF X K.ex K.zw K.ow (host := "") (Or.inl w) Via.refl rfl ((W.at hk).2.1 _ _ hj) (g := mkF κ.m pc Ls (.ref a :: st)) rfl rfl (K.dec hd)
  obtain ⟨U, o, h1, h2⟩ := nx T' locs X' N (by rw [e']; exact W)
  exact ⟨U, o, stp U h1, h2⟩
theorem s_putf (K : Ok Z κ own bytes maxL ret nm) {idx k j kk : Nat} {O n d C : String} {a : Addr} {fs : List Fl} {v old : Value} {ty : FieldType} {L' : Wd} (hd : decode bytes pc = .ok (.putfield idx, 3)) (e : pc + 3 = pc') (w : (Cond.fieldLink own idx O n d).before a0 Z = true)
    (w2 : (Cond.lays C O n d).before a0 Z = true ∨ ((Cond.laysFinal C O n d).before a0 Z = true ∧ own = O ∧ nm = "<init>")) (w3 : (Cond.instantiable C kk).before a0 Z = true) (hty : parseFieldDescriptor d = some ty) (hn : narrow ty v = v) (hf : fits ty v = true)
    (hk : L[k]? = some (a, .inl (C, fs))) (hj : fs[j]? = some (O, n, d, old)) (hL : L.set k (a, .inl (C, fs.set j (O, n, d, v))) = L') (nx : Go l Z n0 R Q κ ce sl L' pc' Ls st) : Go l Z n0 R Q κ ce sl L pc Ls (v :: .ref a :: st) := by
  subst e hL; intro T locs X N W
  obtain ⟨T', h', X', e', Wr', stp⟩ := putF X K.ex K.zw K.ow (host := "") (Or.inl w) Via.refl rfl ((W.at hk).2.1 _ _ hj) (W.at hk).1 (w2.imp id fun q => ⟨q.1, q.2.1, K.2.2.2.2.2.2.2.trans q.2.2⟩) w3 hty hn hf (g := mkF κ.m pc Ls (v :: .ref a :: st)) rfl rfl (K.dec hd)
  obtain ⟨U, o, h1, h2⟩ := nx T' _ X' (Fr.snoc X' N (W.ge hk)) (by rw [e']; exact W.fld hk hj Wr')
  exact ⟨U, o, stp U h1, h2⟩
theorem s_len (K : Ok Z κ own bytes maxL ret nm) {k : Nat} {a : Addr} {ty : FieldType} {vs : List Value} {z : Int32} (hd : decode bytes pc = .ok (.arraylength, 1)) (e : pc + 1 = pc') (hk : L[k]? = some (a, .inr (ty, vs))) (hz : Int32.ofNat vs.length = z)
    (nx : Go l Z n0 R Q κ ce sl L pc' Ls (.int z :: st)) : Go l Z n0 R Q κ ce sl L pc Ls (.ref a :: st) := by
  subst e hz; intro T locs X N W
  obtain ⟨c, A, hc, -⟩ := W.at hk
  obtain ⟨U, o, h1, h2⟩ := nx T locs X N W
  refine ⟨U, o, ?_, h2⟩
  refine X.arraylength K.ex A.1 (State.isArrayOf_alike K.zw.alike A.2.1) (g := mkF κ.m pc Ls (.ref a :: st)) rfl rfl (K.dec hd) _ ?_
  have q : c.slots.size = vs.length := by rw [← hc, Array.length_toList]
  rw [q]; exact h1
theorem s_iaload (K : Ok Z κ own bytes maxL ret nm) {k i : Nat} {a : Addr} {j : Int32} {vs : List Value} {v : Value} (hd : decode bytes pc = .ok (.iaload, 1)) (e : pc + 1 = pc') (hk : L[k]? = some (a, .inr (.int, vs))) (hj : Ix j i) (hi : vs[i]? = some v)
    (nx : Go l Z n0 R Q κ ce sl L pc' Ls (v :: st)) : Go l Z n0 R Q κ ce sl L pc Ls (.int j :: .ref a :: st) := by
  subst e; intro T locs X N W
  obtain ⟨c, A, hc, -⟩ := W.at hk
  obtain ⟨U, o, h1, h2⟩ := nx T locs X N W
  exact ⟨U, o, X.iaload K.ex A.1 (State.isArrayOf_alike K.zw.alike A.2.1) A.2.2 (Av.inb hc hj (List.getElem?_eq_some_iff.mp hi).1) (by rw [hj.2]; exact Av.val hc hi) (g := mkF κ.m pc Ls (.int j :: .ref a :: st)) rfl rfl (K.dec hd) _ h1, h2⟩
theorem s_laload (K : Ok Z κ own bytes maxL ret nm) {k i : Nat} {a : Addr} {j : Int32} {vs : List Value} {v : Value} (hd : decode bytes pc = .ok (.laload, 1)) (e : pc + 1 = pc') (hk : L[k]? = some (a, .inr (.long, vs))) (hj : Ix j i) (hi : vs[i]? = some v)
    (nx : Go l Z n0 R Q κ ce sl L pc' Ls (v :: st)) : Go l Z n0 R Q κ ce sl L pc Ls (.int j :: .ref a :: st) := by
  subst e; intro T locs X N W
  obtain ⟨c, A, hc, -⟩ := W.at hk
  obtain ⟨U, o, h1, h2⟩ := nx T locs X N W
  exact ⟨U, o, X.laload K.ex A.1 (State.isArrayOf_alike K.zw.alike A.2.1) A.2.2 (Av.inb hc hj (List.getElem?_eq_some_iff.mp hi).1) (by rw [hj.2]; exact Av.val hc hi) (g := mkF κ.m pc Ls (.int j :: .ref a :: st)) rfl rfl (K.dec hd) _ h1, h2⟩
theorem s_baload (K : Ok Z κ own bytes maxL ret nm) {k i : Nat} {a : Addr} {j : Int32} {vs : List Value} {v : Value} (hd : decode bytes pc = .ok (.baload, 1)) (e : pc + 1 = pc') (hk : L[k]? = some (a, .inr (.byte, vs))) (hj : Ix j i) (hi : vs[i]? = some v)
    (nx : Go l Z n0 R Q κ ce sl L pc' Ls (v :: st)) : Go l Z n0 R Q κ ce sl L pc Ls (.int j :: .ref a :: st) := by
  subst e; intro T locs X N W
  obtain ⟨c, A, hc, -⟩ := W.at hk
  obtain ⟨U, o, h1, h2⟩ := nx T locs X N W
  exact ⟨U, o, X.baloadBytes K.ex A.1 (State.isArrayOf_alike K.zw.alike A.2.1) A.2.2 (Av.inb hc hj (List.getElem?_eq_some_iff.mp hi).1) (by rw [hj.2]; exact Av.val hc hi) (g := mkF κ.m pc Ls (.int j :: .ref a :: st)) rfl rfl (K.dec hd) _ h1, h2⟩
theorem s_aaload (K : Ok Z κ own bytes maxL ret nm) {k i : Nat} {a : Addr} {j : Int32} {ty : FieldType} {vs : List Value} {v : Value} (hd : decode bytes pc = .ok (.aaload, 1)) (e : pc + 1 = pc') (hk : L[k]? = some (a, .inr (ty, vs))) (hty : ty.isReference = true) (hj : Ix j i) (hi : vs[i]? = some v)
    (nx : Go l Z n0 R Q κ ce sl L pc' Ls (v :: st)) : Go l Z n0 R Q κ ce sl L pc Ls (.int j :: .ref a :: st) := by
  subst e; intro T locs X N W
  obtain ⟨c, A, hc, -⟩ := W.at hk
  obtain ⟨U, o, h1, h2⟩ := nx T locs X N W
  exact ⟨U, o, X.aaload K.ex A.1 (State.isArrayOf_alike K.zw.alike A.2.1) hty A.2.2 (Av.inb hc hj (List.getElem?_eq_some_iff.mp hi).1) (by rw [hj.2]; exact Av.val hc hi) (g := mkF κ.m pc Ls (.int j :: .ref a :: st)) rfl rfl (K.dec hd) _ h1, h2⟩
theorem s_iastore (K : Ok Z κ own bytes maxL ret nm) {k i : Nat} {a : Addr} {j x : Int32} {vs : List Value} {L' : Wd} (hd : decode bytes pc = .ok (.iastore, 1)) (e : pc + 1 = pc') (hk : L[k]? = some (a, .inr (.int, vs))) (hj : Ix j i) (hi : i < vs.length) (hL : L.set k (a, .inr (.int, vs.set i (.int x))) = L')
    (nx : Go l Z n0 R Q κ ce sl L' pc' Ls st) : Go l Z n0 R Q κ ce sl L pc Ls (.int x :: .int j :: .ref a :: st) := by
  subst e hL; intro T locs X N W
  obtain ⟨c, A, hc, -⟩ := W.at hk
  obtain ⟨T', h', X', e', Wr', stp⟩ := stI X K.ex K.zw rfl A (Av.inb hc hj hi) (g := mkF κ.m pc Ls (.int x :: .int j :: .ref a :: st)) rfl rfl (K.dec hd)
  rw [hj.2] at Wr'
  obtain ⟨U, o, h1, h2⟩ := nx T' _ X' (Fr.snoc X' N (W.ge hk)) (by rw [e']; exact W.arr hk rfl Wr')
  exact ⟨U, o, stp U h1, h2⟩
theorem s_lastore (K : Ok Z κ own bytes maxL ret nm) {k i : Nat} {a : Addr} {j : Int32} {x : Int64} {vs : List Value} {L' : Wd} (hd : decode bytes pc = .ok (.lastore, 1)) (e : pc + 1 = pc') (hk : L[k]? = some (a, .inr (.long, vs))) (hj : Ix j i) (hi : i < vs.length) (hL : L.set k (a, .inr (.long, vs.set i (.long x))) = L')
    (nx : Go l Z n0 R Q κ ce sl L' pc' Ls st) : Go l Z n0 R Q κ ce sl L pc Ls (.long x :: .int j :: .ref a :: st) := by
  subst e hL; intro T locs X N W
  obtain ⟨c, A, hc, -⟩ := W.at hk
  obtain ⟨T', h', X', e', Wr', stp⟩ := stJ X K.ex K.zw rfl A (Av.inb hc hj hi) (g := mkF κ.m pc Ls (.long x :: .int j :: .ref a :: st)) rfl rfl (K.dec hd)
  rw [hj.2] at Wr'
  obtain ⟨U, o, h1, h2⟩ := nx T' _ X' (Fr.snoc X' N (W.ge hk)) (by rw [e']; exact W.arr hk rfl Wr')
  exact ⟨U, o, stp U h1, h2⟩
theorem s_bastore (K : Ok Z κ own bytes maxL ret nm) {k i : Nat} {a : Addr} {j x : Int32} {vs : List Value} {L' : Wd} (hd : decode bytes pc = .ok (.bastore, 1)) (e : pc + 1 = pc') (hk : L[k]? = some (a, .inr (.byte, vs))) (hj : Ix j i) (hi : i < vs.length) (hL : L.set k (a, .inr (.byte, vs.set i (.int x.toInt8.toInt32))) = L')
    (nx : Go l Z n0 R Q κ ce sl L' pc' Ls st) : Go l Z n0 R Q κ ce sl L pc Ls (.int x :: .int j :: .ref a :: st) := by
  subst e hL; intro T locs X N W
  obtain ⟨c, A, hc, -⟩ := W.at hk
  obtain ⟨T', h', X', e', Wr', stp⟩ := stB X K.ex K.zw rfl A (Av.inb hc hj hi) (g := mkF κ.m pc Ls (.int x :: .int j :: .ref a :: st)) rfl rfl (K.dec hd)
  rw [hj.2] at Wr'
  obtain ⟨U, o, h1, h2⟩ := nx T' _ X' (Fr.snoc X' N (W.ge hk)) (by rw [e']; exact W.arr hk (fits_nar_byte x) Wr')
  exact ⟨U, o, stp U h1, h2⟩
theorem fits_default (ty : FieldType) : fits ty (defaultValue ty) = true := by cases ty <;> rfl
theorem s_newarr (K : Ok Z κ own bytes maxL ret nm) {aty : ArrayType} {ty : FieldType} {j : Int32} {n cap ce' sl' : Nat} {vs0 : List Value} (hd : decode bytes pc = .ok (.newarray aty, 2)) (e : pc + 2 = pc') (ht : newarray.typeOf aty = ty) (w : (Cond.arrayClass ty).before a0 Z = true) (hj : Ix j n) (hcap : n ≤ cap) (hb : cap ≤ 67108864) (hvs : List.replicate n (defaultValue ty) = vs0) (hce : ce + 1 = ce') (hsl : sl + cap = sl') (hc : ce' ≤ R.cells) (hs : sl' ≤ R.slots)
    (nx : ∀ b : Addr, Go l Z n0 R Q κ ce' sl' ((b, .inr (ty, vs0)) :: L) pc' Ls (.ref b :: st)) : Go l Z n0 R Q κ ce sl L pc Ls (.int j :: st) := by
  subst e hce hsl ht hvs; intro T locs X N W
  obtain ⟨T', h', cA, X', e', E, A, Ex, stp⟩ := newPE X K.ex K.zw w rfl (g := mkF κ.m pc Ls (.int j :: st)) rfl (K.dec hd) rfl hj.1 (by rw [hj.2]; exact hcap) (by omega) hc hs (ad := "[" ++ (newarray.typeOf aty).toString) rfl
  obtain ⟨U, o, h1, h2⟩ := nx T.heap.size T' locs X' N (by
    rw [e']
    refine W.add E ⟨_, A, ?_, ?_, fun v hv => ?_, Ex⟩
    · simp [newA, hj.2]
    · simp only [List.length_replicate]; omega
    · rw [(List.mem_replicate.mp hv).2]; exact fits_default _)
  exact ⟨U, o, stp U h1, h2⟩
/-- the fields of a class, as its words lay them -/
def OLay (Z : State) (a0 : Array Value) (C : String) (fs : List (String × String × String × FieldType)) : Prop := ∀ (i : Nat) (f : String × String × String × FieldType), fs[i]? = some f → Laid Z a0 C f.1 f.2.1 f.2.2.1 ∧ parseFieldDescriptor f.2.2.1 = some f.2.2.2
theorem OLay.nil {C : String} : OLay Z a0 C [] := fun _ _ q => by simp at q
theorem OLay.cons {C O n d : String} {ty : FieldType} {fs : List (String × String × String × FieldType)} (h : (Cond.lays C O n d).before a0 Z = true ∨ (Cond.laysFinal C O n d).before a0 Z = true) (ht : parseFieldDescriptor d = some ty) (r : OLay Z a0 C fs) : OLay Z a0 C ((O, n, d, ty) :: fs) := fun i f q => by
  cases i with
  | zero => cases q; exact ⟨h, ht⟩
  | succ i => exact r i f (by simpa using q)
def fresh (fs : List (String × String × String × FieldType)) : List Fl := fs.map fun f => (f.1, f.2.1, f.2.2.1, defaultValue f.2.2.2)
theorem s_new (K : Ok Z κ own bytes maxL ret nm) {idx n ce' sl' : Nat} {C : String} {fs : List (String × String × String × FieldType)} {gs : List Fl} (hd : decode bytes pc = .ok (.new idx, 3)) (e : pc + 3 = pc') (w1 : (Cond.classLink own idx C).before a0 Z = true) (w2 : (Cond.instantiable C n).before a0 Z = true) (w3 : (Cond.initialized C).before a0 Z = true)
    (ly : OLay Z a0 C fs) (nd : (fs.map fun f => f.2.1).Nodup) (hg : fresh fs = gs) (hce : ce + 1 = ce') (hsl : sl + n = sl') (hc : ce' ≤ R.cells) (hs : sl' ≤ R.slots)
    (nx : ∀ b : Addr, Go l Z n0 R Q κ ce' sl' ((b, .inl (C, gs)) :: L) pc' Ls (.ref b :: st)) : Go l Z n0 R Q κ ce sl L pc Ls st := by
  subst e hce hsl hg; intro T locs X N W
  obtain ⟨T', h', X', e', E, Ex, D, -, stp⟩ := newO X K.ex K.zw K.ow w1 w2 w3 rfl (g := mkF κ.m pc Ls st) rfl (K.dec hd) hc hs
  have fr : ∀ (i : Nat) (f : Fl), (fresh fs)[i]? = some f → ∃ g, fs[i]? = some g ∧ f = (g.1, g.2.1, g.2.2.1, defaultValue g.2.2.2) := fun i f q => by
    simp only [fresh, List.getElem?_map, Option.map_eq_some_iff] at q
    obtain ⟨g, q1, q2⟩ := q; exact ⟨g, q1, q2.symm⟩
  obtain ⟨U, o, h1, h2⟩ := nx T.heap.size T' locs X' N (by
    rw [e']
    refine W.add E ⟨Ex, fun i f q => ?_, fun i j f g q r ne => ?_⟩
    · obtain ⟨g, q1, rfl⟩ := fr i f q
      exact D (ly i g q1).1 (ly i g q1).2
    · obtain ⟨f', q1, rfl⟩ := fr i f q
      obtain ⟨g', r1, rfl⟩ := fr j g r
      refine slot_ne (ly i f' q1).1 (ly j g' r1).1 (fun en => ne (nodup_inj nd (s := f'.2.1) (by rw [List.getElem?_map, q1]; rfl) (by rw [List.getElem?_map, r1, en]; rfl))) (ly i f' q1).2 (ly j g' r1).2)
  exact ⟨U, o, stp U h1, h2⟩
/-! calls -/
theorem s_initO (K : Ok Z κ own bytes maxL ret nm) {idx W : Nat} {a : Addr} (hd : decode bytes pc = .ok (.invokespecial idx, 3)) (e : pc + 3 = pc') (w1 : (Cond.methodLink own idx Lib.objectInit).before a0 Z = true) (w2 : (Cond.instanceMethod Lib.objectInit).before a0 Z = true) (w3 : (Cond.code Lib.objectInit ⟨#[0xb1]⟩ 1 none).before a0 Z = true)
    (hsz : Ls.size = maxL) (hf : 1 ≤ R.frames) (hW : (st.map fun v => v.category).sum ≤ W) (hl : W + 12 ≤ R.locals) (nx : Go l Z n0 R Q κ ce sl L pc' Ls st) : Go l Z n0 R Q κ ce sl L pc Ls (.ref a :: st) := by
  subst e; intro T locs X N Wd
  obtain ⟨T', X', e', stp⟩ := initO X K.ex K.zw K.ow w1 w2 w3 rfl (g := mkF κ.m pc Ls (.ref a :: st)) rfl (hsz.trans K.2.2.2.2.1.symm) rfl (K.dec hd) hf (W := W) (by show 2 * 0 + _ ≤ _; omega) hl
  obtain ⟨U, o, h1, h2⟩ := nx T' locs X' N (by rw [e']; exact Wd)
  exact ⟨U, o, stp U h1, h2⟩
theorem s_static (K : Ok Z κ own bytes maxL ret nm) {idx W mx ce' sl' : Nat} {y : MethodName} {bs : ByteArray} {rt : Option FieldType} {rm : Room} {as : List Value} {Q2 : Option Value → Wd → Prop} {ps : List FieldType} {r : Option FieldType} (hd : decode bytes pc = .ok (.invokestatic idx, 3)) (e : pc + 3 = pc')
    (C : Con l Z n0 y bs mx rt rm as L Q2) (w1 : (Cond.methodLink own idx y).before a0 Z = true) (w2 : (Cond.static y).before a0 Z = true) (w3 : (Cond.initialized y.cls).before a0 Z = true) (w4 : (Cond.code y bs mx rt).before a0 Z = true) (hy : y.cls ≠ "java/lang/invoke/MethodHandle" ∧ y.cls ≠ "java/lang/invoke/VarHandle")
    (pd : parseMethodDescriptor y.desc = some ⟨ps, r⟩) (hlen : as.length = ps.length) (hst : st = as.reverse ++ rest) (hsz : Ls.size = maxL) (hW : (rest.map fun v => v.category).sum ≤ W) (hf : rm.frames + 1 ≤ R.frames) (hl : W + (mx + 11) + rm.locals ≤ R.locals) (hce : ce + rm.cells = ce') (hsl : sl + rm.slots = sl') (hc : ce' ≤ R.cells) (hs : sl' ≤ R.slots)
    (nx : ∀ v L', Q2 v L' → Go l Z n0 R Q κ ce' sl' L' pc' Ls (v.toList ++ rest)) : Go l Z n0 R Q κ ce sl L pc Ls st := by
  subst e hce hsl; intro T locs X N Wd
  obtain ⟨v, _, ⟨T1, L1, k1, n1⟩, -, X1, ⟨Lc, hQ, l1, y1, z1⟩, st1⟩ := Jvm.LawKit.callS X K.ex K.ow (mvT K.zw w1) (mvT K.zw w2) (mvT K.zw w3) (mvT K.zw w4) hy
    (backOf (W := W) (Q := fun v h Lc => Fr n0 Lc ∧ ∃ L', Q2 v L' ∧ Wo Z n0 h L') (C T.heap Wd) K.zw w4 w3 hf hl) (g := mkF κ.m pc Ls st) rfl (hsz.trans K.2.2.2.2.1.symm) (argsL := as) (rest := rest) (lenOf pd hlen) hst (by show 2 * 0 + _ ≤ _; omega) (K.dec hd) (fun _ _ => ⟨rfl, rfl, hc, hs⟩)
  dsimp only [Pt.U, Pt.locs, Pt.cells, Pt.slots] at X1 l1 y1 z1 st1 hQ
  subst l1 y1 z1
  obtain ⟨hN, L', hq, hW'⟩ := hQ
  obtain ⟨U, o, h1, h2⟩ := nx v L' hq T1 _ X1 (Fr.app N hN) hW'
  exact ⟨U, o, st1 U h1, h2⟩
theorem s_special (K : Ok Z κ own bytes maxL ret nm) {idx W mx ce' sl' : Nat} {y : MethodName} {bs : ByteArray} {rm : Room} {a : Addr} {as : List Value} {Q2 : Option Value → Wd → Prop} {ps : List FieldType} {r : Option FieldType} (hd : decode bytes pc = .ok (.invokespecial idx, 3)) (e : pc + 3 = pc') (hin : y.name = "<init>")
    (C : Con l Z n0 y bs mx none rm (.ref a :: as) L Q2) (w1 : (Cond.methodLink own idx y).before a0 Z = true) (w2 : (Cond.instanceMethod y).before a0 Z = true) (w3 : (Cond.initialized y.cls).before a0 Z = true) (w4 : (Cond.code y bs mx none).before a0 Z = true) (hy : y.cls ≠ "java/lang/invoke/MethodHandle" ∧ y.cls ≠ "java/lang/invoke/VarHandle")
    (pd : parseMethodDescriptor y.desc = some ⟨ps, r⟩) (hlen : as.length = ps.length) (hst : st = as.reverse ++ .ref a :: rest) (hsz : Ls.size = maxL) (hW : (rest.map fun v => v.category).sum ≤ W) (hf : rm.frames + 1 ≤ R.frames) (hl : W + (mx + 11) + rm.locals ≤ R.locals) (hce : ce + rm.cells = ce') (hsl : sl + rm.slots = sl') (hc : ce' ≤ R.cells) (hs : sl' ≤ R.slots)
    (nx : ∀ v L', Q2 v L' → Go l Z n0 R Q κ ce' sl' L' pc' Ls (v.toList ++ rest)) : Go l Z n0 R Q κ ce sl L pc Ls st := by
  subst e hce hsl; intro T locs X N Wd
  obtain ⟨v, _, ⟨T1, L1, k1, n1⟩, -, X1, ⟨Lc, hQ, l1, y1, z1⟩, st1⟩ := X.specialBack K.ex hin K.ow (mvT K.zw w1) (mvT K.zw w2) (mvT K.zw w4) hy
    (backOf (W := W) (Q := fun v h Lc => Fr n0 Lc ∧ ∃ L', Q2 v L' ∧ Wo Z n0 h L') (C T.heap Wd) K.zw w4 w3 hf hl) (g := mkF κ.m pc Ls st) rfl (hsz.trans K.2.2.2.2.1.symm) (Steps.refl _) (a := a) (argsL := as) (rest := rest) (lenOf pd hlen) hst (by show 2 * 0 + _ ≤ _; omega) (K.dec hd) (fun _ _ => ⟨rfl, rfl, hc, hs⟩)
  dsimp only [Pt.U, Pt.locs, Pt.cells, Pt.slots] at X1 l1 y1 z1 st1 hQ
  subst l1 y1 z1
  obtain ⟨hN, L', hq, hW'⟩ := hQ
  obtain ⟨U, o, h1, h2⟩ := nx v L' hq T1 _ X1 (Fr.app N hN) hW'
  exact ⟨U, o, st1.trans h1, h2⟩
theorem s_virtualE (K : Ok Z κ own bytes maxL ret nm) {idx W mx ce' sl' : Nat} {C : String} {y : MethodName} {bs : ByteArray} {rt : Option FieldType} {rm : Room} {a : Addr} {as : List Value} {Q2 : Option Value → Wd → Prop} {ps : List FieldType} {r : Option FieldType} (hd : decode bytes pc = .ok (.invokevirtual idx, 3)) (e : pc + 3 = pc')
    (hE : ∀ h, Wo Z n0 h L → Exa Z h a C) (Co : Con l Z n0 y bs mx rt rm (.ref a :: as) L Q2) (w1 : (Cond.methodLink own idx y).before a0 Z = true) (wd : (Cond.declares y).before a0 Z = true) (ws : (Cond.selects C y y).before a0 Z = true) (w2 : (Cond.instanceMethod y).before a0 Z = true) (w3 : (Cond.initialized y.cls).before a0 Z = true) (w4 : (Cond.code y bs mx rt).before a0 Z = true) (hy : y.cls ≠ "java/lang/invoke/MethodHandle" ∧ y.cls ≠ "java/lang/invoke/VarHandle")
    (pd : parseMethodDescriptor y.desc = some ⟨ps, r⟩) (hlen : as.length = ps.length) (hst : st = as.reverse ++ .ref a :: rest) (hsz : Ls.size = maxL) (hW : (rest.map fun v => v.category).sum ≤ W) (hf : rm.frames + 1 ≤ R.frames) (hl : W + (mx + 11) + rm.locals ≤ R.locals) (hce : ce + rm.cells = ce') (hsl : sl + rm.slots = sl') (hc : ce' ≤ R.cells) (hs : sl' ≤ R.slots)
    (nx : ∀ v L', Q2 v L' → Go l Z n0 R Q κ ce' sl' L' pc' Ls (v.toList ++ rest)) : Go l Z n0 R Q κ ce sl L pc Ls st := by
  subst e hce hsl; intro T locs X N Wd
  obtain ⟨cq, kq, qa, -, qc⟩ := isOf (T := T) K.zw rfl (hE _ Wd)
  obtain ⟨v, _, ⟨T1, L1, k1, n1⟩, -, X1, ⟨Lc, hQ, l1, y1, z1⟩, st1⟩ := X.virtualBack K.ex K.ow (mvT K.zw w1) (mvT K.zw wd) (notFace_of_selects (args := #[]) (mvT K.zw ws)) (mvT K.zw ws) (mvT K.zw w2) hy
    (backOf (W := W) (Q := fun v h Lc => Fr n0 Lc ∧ ∃ L', Q2 v L' ∧ Wo Z n0 h L') (Co T.heap Wd) K.zw w4 w3 hf hl) qa qc (g := mkF κ.m pc Ls st) rfl (hsz.trans K.2.2.2.2.1.symm) (Steps.refl _) (argsL := as) (rest := rest) (lenOf pd hlen) hst (by show 2 * 0 + _ ≤ _; omega) (K.dec hd) (fun _ _ => ⟨rfl, rfl, hc, hs⟩)
  dsimp only [Pt.U, Pt.locs, Pt.cells, Pt.slots] at X1 l1 y1 z1 st1 hQ
  subst l1 y1 z1
  obtain ⟨hN, L', hq, hW'⟩ := hQ
  obtain ⟨U, o, h1, h2⟩ := nx v L' hq T1 _ X1 (Fr.app N hN) hW'
  exact ⟨U, o, st1.trans h1, h2⟩
theorem s_virtual (K : Ok Z κ own bytes maxL ret nm) {idx W mx ce' sl' k : Nat} {C : String} {fs : List Fl} {y : MethodName} {bs : ByteArray} {rt : Option FieldType} {rm : Room} {a : Addr} {as : List Value} {Q2 : Option Value → Wd → Prop} {ps : List FieldType} {r : Option FieldType} (hd : decode bytes pc = .ok (.invokevirtual idx, 3)) (e : pc + 3 = pc')
    (hk : L[k]? = some (a, .inl (C, fs))) (Co : Con l Z n0 y bs mx rt rm (.ref a :: as) L Q2) (w1 : (Cond.methodLink own idx y).before a0 Z = true) (wd : (Cond.declares y).before a0 Z = true) (ws : (Cond.selects C y y).before a0 Z = true) (w2 : (Cond.instanceMethod y).before a0 Z = true) (w3 : (Cond.initialized y.cls).before a0 Z = true) (w4 : (Cond.code y bs mx rt).before a0 Z = true) (hy : y.cls ≠ "java/lang/invoke/MethodHandle" ∧ y.cls ≠ "java/lang/invoke/VarHandle")
    (pd : parseMethodDescriptor y.desc = some ⟨ps, r⟩) (hlen : as.length = ps.length) (hst : st = as.reverse ++ .ref a :: rest) (hsz : Ls.size = maxL) (hW : (rest.map fun v => v.category).sum ≤ W) (hf : rm.frames + 1 ≤ R.frames) (hl : W + (mx + 11) + rm.locals ≤ R.locals) (hce : ce + rm.cells = ce') (hsl : sl + rm.slots = sl') (hc : ce' ≤ R.cells) (hs : sl' ≤ R.slots)
    (nx : ∀ v L', Q2 v L' → Go l Z n0 R Q κ ce' sl' L' pc' Ls (v.toList ++ rest)) : Go l Z n0 R Q κ ce sl L pc Ls st :=
  s_virtualE K hd e (fun h W => (W.at hk).1) Co w1 wd ws w2 w3 w4 hy pd hlen hst hsz hW hf hl hce hsl hc hs nx
theorem s_virtualO (K : Ok Z κ own bytes maxL ret nm) {idx W mx ce' sl' : Nat} {C : String} {y : MethodName} {bs : ByteArray} {rt : Option FieldType} {rm : Room} {a : Addr} {as : List Value} {Q2 : Option Value → Wd → Prop} {ps : List FieldType} {r : Option FieldType} (hd : decode bytes pc = .ok (.invokevirtual idx, 3)) (e : pc + 3 = pc')
    (hE : Exa Z Z.heap a C) (Co : Con l Z n0 y bs mx rt rm (.ref a :: as) L Q2) (w1 : (Cond.methodLink own idx y).before a0 Z = true) (wd : (Cond.declares y).before a0 Z = true) (ws : (Cond.selects C y y).before a0 Z = true) (w2 : (Cond.instanceMethod y).before a0 Z = true) (w3 : (Cond.initialized y.cls).before a0 Z = true) (w4 : (Cond.code y bs mx rt).before a0 Z = true) (hy : y.cls ≠ "java/lang/invoke/MethodHandle" ∧ y.cls ≠ "java/lang/invoke/VarHandle")
    (pd : parseMethodDescriptor y.desc = some ⟨ps, r⟩) (hlen : as.length = ps.length) (hst : st = as.reverse ++ .ref a :: rest) (hsz : Ls.size = maxL) (hW : (rest.map fun v => v.category).sum ≤ W) (hf : rm.frames + 1 ≤ R.frames) (hl : W + (mx + 11) + rm.locals ≤ R.locals) (hce : ce + rm.cells = ce') (hsl : sl + rm.slots = sl') (hc : ce' ≤ R.cells) (hs : sl' ≤ R.slots)
    (nx : ∀ v L', Q2 v L' → Go l Z n0 R Q κ ce' sl' L' pc' Ls (v.toList ++ rest)) : Go l Z n0 R Q κ ce sl L pc Ls st :=
  s_virtualE K hd e (fun h W => hE.ext W.1.2) Co w1 wd ws w2 w3 w4 hy pd hlen hst hsz hW hf hl hce hsl hc hs nx
/-! what stood at the start -/
theorem s_gets (K : Ok Z κ own bytes maxL ret nm) {idx : Nat} {O n d : String} {v : Value} (hd : decode bytes pc = .ok (.getstatic idx, 3)) (e : pc + 3 = pc') (w : (Cond.fieldLink own idx O n d).before a0 Z = true) (S : Sta Z Z.heap O n d v) (nx : Go l Z n0 R Q κ ce sl L pc' Ls (v :: st)) : Go l Z n0 R Q κ ce sl L pc Ls st := by
  subst e; intro T locs X N W
  obtain ⟨T', X', e', stp⟩ := getS X K.ex K.zw K.ow (host := "") w Via.refl rfl (S.ext W.1.2) (g := mkF κ.m pc Ls st) rfl (K.dec hd)
  obtain ⟨U, o, h1, h2⟩ := nx T' locs X' N (by rw [e']; exact W)
  exact ⟨U, o, stp U h1, h2⟩
theorem s_getfO (K : Ok Z κ own bytes maxL ret nm) {idx : Nat} {O n d : String} {a : Addr} {v : Value} (hd : decode bytes pc = .ok (.getfield idx, 3)) (e : pc + 3 = pc') (w : (Cond.fieldLink own idx O n d).before a0 Z = true)
    (F : Fld Z Z.heap a O n d v) (nx : Go l Z n0 R Q κ ce sl L pc' Ls (v :: st)) : Go l Z n0 R Q κ ce sl L pc Ls (.ref a :: st) := by
  subst e; intro T locs X N W
  obtain ⟨T', X', e', stp⟩ := getF X K.ex K.zw K.ow (host := "") (Or.inl w) Via.refl rfl (F.ext W.1.2) (g := mkF κ.m pc Ls (.ref a :: st)) rfl rfl (K.dec hd)
  obtain ⟨U, o, h1, h2⟩ := nx T' locs X' N (by rw [e']; exact W)
  exact ⟨U, o, stp U h1, h2⟩
/-! arrays of arrays, clone, arraycopy, casts, private methods -/
theorem s_anewarr (K : Ok Z κ own bytes maxL ret nm) {ty : FieldType} {C : String} {idx : Nat} {j : Int32} {n cap ce' sl' : Nat} {vs0 : List Value} (hd : decode bytes pc = .ok (.anewarray idx, 3)) (e : pc + 3 = pc') (hC : (FieldType.array ty).toString = C) (w1 : (Cond.classLink own idx C).before a0 Z = true) (w2 : (Cond.arrayOver (.array ty)).before a0 Z = true) (hj : Ix j n) (hcap : n ≤ cap) (hb : cap ≤ 67108864) (hvs : List.replicate n Value.null = vs0) (hce : ce + 1 = ce') (hsl : sl + cap = sl') (hc : ce' ≤ R.cells) (hs : sl' ≤ R.slots)
    (nx : ∀ b : Addr, Go l Z n0 R Q κ ce' sl' ((b, .inr (.array ty, vs0)) :: L) pc' Ls (.ref b :: st)) : Go l Z n0 R Q κ ce sl L pc Ls (.int j :: st) := by
  subst e hce hsl hvs hC; intro T locs X N W
  obtain ⟨T', h', cA, X', e', E, A, Ex, -, stp⟩ := newRA X K.ex K.zw K.ow rfl w1 w2 rfl (g := mkF κ.m pc Ls (.int j :: st)) rfl (K.dec hd) rfl hj.1 (by rw [hj.2]; exact hcap) (by omega) hc hs (ad := "[" ++ (FieldType.array ty).toString) rfl
  obtain ⟨U, o, h1, h2⟩ := nx T.heap.size T' locs X' N (by
    rw [e']
    refine W.add E ⟨_, A, ?_, ?_, fun v hv => ?_, Ex⟩
    · simp [newA, hj.2, defaultValue]
    · simp only [List.length_replicate]; omega
    · rw [(List.mem_replicate.mp hv).2]; rfl)
  exact ⟨U, o, stp U h1, h2⟩
theorem s_aastore (K : Ok Z κ own bytes maxL ret nm) {k k2 i : Nat} {a b : Addr} {j : Int32} {ty : FieldType} {vs ws : List Value} {L' : Wd} (hd : decode bytes pc = .ok (.aastore, 1)) (e : pc + 1 = pc') (w : (Cond.arrayOver (.array ty)).before a0 Z = true) (hk : L[k]? = some (a, .inr (.array ty, vs))) (hk2 : L[k2]? = some (b, .inr (ty, ws))) (hj : Ix j i) (hi : i < vs.length) (hL : L.set k (a, .inr (.array ty, vs.set i (.ref b))) = L')
    (nx : Go l Z n0 R Q κ ce sl L' pc' Ls st) : Go l Z n0 R Q κ ce sl L pc Ls (.ref b :: .int j :: .ref a :: st) := by
  subst e hL; intro T locs X N W
  obtain ⟨c, A, hc, -, -, Ea⟩ := W.at hk
  obtain ⟨-, -, -, -, -, Eb⟩ := W.at hk2
  obtain ⟨comp, cA, kA, q1, -, q3, q4, q5⟩ := Jvm.Stand.arrayOver_specB (show (Cond.arrayOver (.array ty)).holds a0 Z none Z [] = true from w)
  obtain ⟨cell, kk, e1, e2, -⟩ := Ea
  cases A.1.symm.trans e1
  have ec : c.cls = cA := Option.some.inj (e2.symm.trans q5)
  have S : Sto Z T.heap a (.ref b) := Sto.ofVA (ty := ty) (C := (FieldType.array ty).toString) A ec ⟨kA, comp, q3, q4, q1⟩ (Ins.self (C := (FieldType.array ty).toString) Eb)
  obtain ⟨T', h', X', e', Wr', stp⟩ := stR X K.ex K.zw rfl A (Av.inb hc hj hi) rfl S (g := mkF κ.m pc Ls (.ref b :: .int j :: .ref a :: st)) rfl rfl (K.dec hd)
  rw [hj.2] at Wr'
  obtain ⟨U, o, h1, h2⟩ := nx T' _ X' (Fr.snoc X' N (W.ge hk)) (by rw [e']; exact W.arr hk rfl Wr')
  exact ⟨U, o, stp U h1, h2⟩
theorem s_castA (K : Ok Z κ own bytes maxL ret nm) {k idx : Nat} {a : Addr} {ty : FieldType} {vs : List Value} {C : String} (hd : decode bytes pc = .ok (.checkcast idx, 3)) (e : pc + 3 = pc') (hC : "[" ++ ty.toString = C) (w : (Cond.classLink own idx C).before a0 Z = true) (hk : L[k]? = some (a, .inr (ty, vs)))
    (nx : Go l Z n0 R Q κ ce sl L pc' Ls (.ref a :: st)) : Go l Z n0 R Q κ ce sl L pc Ls (.ref a :: st) := by
  subst e hC; intro T locs X N W
  obtain ⟨-, -, -, -, -, Ea⟩ := W.at hk
  obtain ⟨T', X', e', stp⟩ := castY X K.ex K.zw K.ow w rfl (Ins.self Ea) (g := mkF κ.m pc Ls (.ref a :: st)) rfl rfl (K.dec hd)
  obtain ⟨U, o, h1, h2⟩ := nx T' locs X' N (by rw [e']; exact W)
  exact ⟨U, o, stp U h1, h2⟩
theorem s_clone (K : Ok Z κ own bytes maxL ret nm) {k idx W cap ce' sl' : Nat} {a : Addr} {ty : FieldType} {vs : List Value} {C : String} (hd : decode bytes pc = .ok (.invokevirtual idx, 3)) (e : pc + 3 = pc') (hC : "[" ++ ty.toString = C)
    (w1 : (Cond.methodLink own idx ⟨C, "clone", "()Ljava/lang/Object;"⟩).before a0 Z = true) (w2 : (Cond.sameMethod C "java/lang/Object" "clone" "()Ljava/lang/Object;").before a0 Z = true) (w3 : (Cond.native ⟨"java/lang/Object", "clone", "()Ljava/lang/Object;"⟩).before a0 Z = true)
    (w4 : (Cond.instanceMethod ⟨"java/lang/Object", "clone", "()Ljava/lang/Object;"⟩).before a0 Z = true) (w5 : (Cond.selects C ⟨C, "clone", "()Ljava/lang/Object;"⟩ ⟨"java/lang/Object", "clone", "()Ljava/lang/Object;"⟩).before a0 Z = true) (w6 : (Cond.castable C "java/lang/Cloneable").before a0 Z = true)
    (hk : L[k]? = some (a, .inr (ty, vs))) (hsz : Ls.size = maxL) (hf : 1 ≤ R.frames) (hW : (st.map fun v => v.category).sum ≤ W) (hl : W + 14 ≤ R.locals) (hcap : vs.length ≤ cap) (hce : ce + 1 = ce') (hsl : sl + cap = sl') (hc : ce' ≤ R.cells) (hs : sl' ≤ R.slots)
    (nx : ∀ b : Addr, Go l Z n0 R Q κ ce' sl' ((b, .inr (ty, vs)) :: L) pc' Ls (.ref b :: st)) : Go l Z n0 R Q κ ce sl L pc Ls (.ref a :: st) := by
  subst e hC hce hsl; intro T locs X N Wd
  obtain ⟨c, A, hcs, hlen, hfit, Ea⟩ := Wd.at hk
  have F : FitC Z c := fun i v hv => by
    obtain ⟨hs', k', hk', comp, hkind⟩ := A.2.1
    have m : v ∈ vs := by rw [← hcs]; exact Array.mem_toList_iff.mpr (Array.mem_of_getElem? hv)
    simp [State.fitsSlot, State.slotType?, hk', hkind, hfit v m]
  obtain ⟨T', h', X', e', E, A', Ea', stp⟩ := cloneA X K.ex K.zw K.ow w1 w2 w3 w4 w5 w6 rfl A Ea F (g := mkF κ.m pc Ls (.ref a :: st)) rfl (hsz.trans K.2.2.2.2.1.symm) rfl (K.dec hd) hf (W := W) (by show 2 * 0 + _ ≤ _; omega) hl (cap := cap) (by rw [← Array.length_toList, hcs]; exact hcap) hc hs
  obtain ⟨U, o, h1, h2⟩ := nx T.heap.size T' locs X' N (by rw [e']; exact Wd.add E ⟨_, A', hcs, hlen, hfit, Ea'⟩)
  exact ⟨U, o, stp U h1, h2⟩
theorem s_private (K : Ok Z κ own bytes maxL ret nm) {idx W mx ce' sl' k kk : Nat} {fs : List Fl} {y : MethodName} {bs : ByteArray} {rt : Option FieldType} {rm : Room} {a : Addr} {as : List Value} {Q2 : Option Value → Wd → Prop} {ps : List FieldType} {r : Option FieldType} (hd : decode bytes pc = .ok (.invokevirtual idx, 3)) (e : pc + 3 = pc')
    (hk : L[k]? = some (a, .inl (y.cls, fs))) (Co : Con l Z n0 y bs mx rt rm (.ref a :: as) L Q2) (w1 : (Cond.methodLink own idx y).before a0 Z = true) {C' : String} {y1 z1 : MethodName} (ws : (Cond.selects C' y1 z1).before a0 Z = true) (hz1 : z1.cls = y.cls) (w2 : (Cond.instanceMethod y).before a0 Z = true) (wp : (Cond.privateMethod y).before a0 Z = true) (w3 : (Cond.initialized y.cls).before a0 Z = true) (w4 : (Cond.code y bs mx rt).before a0 Z = true) (hy : y.cls ≠ "java/lang/invoke/MethodHandle" ∧ y.cls ≠ "java/lang/invoke/VarHandle")
    (pd : parseMethodDescriptor y.desc = some ⟨ps, r⟩) (hlen : as.length = ps.length) (hst : st = as.reverse ++ .ref a :: rest) (hsz : Ls.size = maxL) (hW : (rest.map fun v => v.category).sum ≤ W) (hf : rm.frames + 1 ≤ R.frames) (hl : W + (mx + 11) + rm.locals ≤ R.locals) (hce : ce + rm.cells = ce') (hsl : sl + rm.slots = sl') (hc : ce' ≤ R.cells) (hs : sl' ≤ R.slots)
    (nx : ∀ v L', Q2 v L' → Go l Z n0 R Q κ ce' sl' L' pc' Ls (v.toList ++ rest)) : Go l Z n0 R Q κ ce sl L pc Ls st := by
  subst e hce hsl; intro T locs X N Wd
  obtain ⟨cq, q1, q2⟩ := (Wd.at hk).1.cell
  have hp := Cond.privateMethod_at (mvP K.zw wp (args := #[]))
  have hsel : (Cond.selects y.cls y y).before κ.args κ.s = true := by
    obtain ⟨_, _, mz, -, -, g3, -, kz, g4, g5⟩ := Cond.selects_spec (mvT (s := κ.s) (args := #[]) K.zw ws)
    have g6 := findClass_of_methodNamed g3
    rw [hz1] at g6
    exact selects_self_of_private g6 g4 g5 hp (mvT K.zw w2) hy
  obtain ⟨v, _, ⟨T1, L1, k1, n1⟩, -, X1, ⟨Lc, hQ, l1, y1, z1⟩, st1⟩ := X.privateBack K.ex K.ow (mvT K.zw w1) (mvT K.zw w2) hsel hp (mvT K.zw w4) hy
    (backOf (W := W) (Q := fun v h Lc => Fr n0 Lc ∧ ∃ L', Q2 v L' ∧ Wo Z n0 h L') (Co T.heap Wd) K.zw w4 w3 hf hl) (g := mkF κ.m pc Ls st) rfl (hsz.trans K.2.2.2.2.1.symm) (Steps.refl _) (a := a) q1 q2 (argsL := as) (rest := rest) (lenOf pd hlen) hst (by show 2 * 0 + _ ≤ _; omega) (K.dec hd) (fun _ _ => ⟨rfl, rfl, hc, hs⟩)
  dsimp only [Pt.U, Pt.locs, Pt.cells, Pt.slots] at X1 l1 y1 z1 st1 hQ
  subst l1 y1 z1
  obtain ⟨hN, L', hq, hW'⟩ := hQ
  obtain ⟨U, o, h1, h2⟩ := nx v L' hq T1 _ X1 (Fr.app N hN) hW'
  exact ⟨U, o, st1.trans h1, h2⟩
theorem Av.arv {h : Heap} {a : Addr} {ty : FieldType} {vs : List Value} (A : Av Z h a ty vs) : ∃ k, Arv Z h a k ty (Int32.ofNat vs.length) vs .null := by
  obtain ⟨c, h1, h2, h3, h4, -⟩ := A
  have q := Ix.ofNat h3
  have sz : c.slots.size = vs.length := by rw [← h2, Array.length_toList]
  refine ⟨c.cls, c, h1, rfl, by rw [q.2]; exact sz, q.1, fun i hi => ?_, fun i hi => ?_⟩
  · rw [sz] at hi
    rw [List.getD_eq_getElem?_getD, List.getElem?_eq_getElem hi]
    exact Av.val h2 (List.getElem?_eq_getElem hi)
  · rw [sz] at hi
    rw [List.getD_eq_getElem?_getD, List.getElem?_eq_getElem hi]
    exact h4 _ (List.getElem_mem hi)
theorem s_copy (K : Ok Z κ own bytes maxL ret nm) {idx W ka kb : Nat} {a b : Addr} {sp dp nn : Int32} {i j n : Nat} {ty : FieldType} {vs vd vd' : List Value} {L' : Wd} (hd : decode bytes pc = .ok (.invokestatic idx, 3)) (e : pc + 3 = pc') (w1 : (Cond.methodLink own idx Jvm.Stand.acN).before a0 Z = true) (w2 : (Cond.native Jvm.Stand.acN).before a0 Z = true) (w3 : (Cond.static Jvm.Stand.acN).before a0 Z = true) (w4 : (Cond.initialized "java/lang/System").before a0 Z = true)
    (hka : L[ka]? = some (a, .inr (ty, vs))) (hkb : L[kb]? = some (b, .inr (ty, vd))) (hty : refKind ty = false) (hsp : Ix sp i) (hdp : Ix dp j) (hnn : Ix nn n) (h4 : i + n ≤ vs.length) (h5 : j + n ≤ vd.length) (hv : vd.take j ++ ((List.range n).map fun x => vs.getD (i + x) .null) ++ vd.drop (j + n) = vd') (hL : L.set kb (b, .inr (ty, vd')) = L')
    (hsz : Ls.size = maxL) (hf : 1 ≤ R.frames) (hW : (st.map fun v => v.category).sum ≤ W) (hl : W + 18 ≤ R.locals) (nx : Go l Z n0 R Q κ ce sl L' pc' Ls st) : Go l Z n0 R Q κ ce sl L pc Ls (.int nn :: .int dp :: .ref b :: .int sp :: .ref a :: st) := by
  subst e hL hv; intro T locs X N Wd
  have Ha := Wd.at hka
  have Hb := Wd.at hkb
  obtain ⟨k1, A⟩ := Av.arv Ha
  obtain ⟨k2, B⟩ := Av.arv Hb
  obtain ⟨-, -, -, la, -, -⟩ := Ha
  obtain ⟨-, -, -, lb, -, Eb⟩ := Hb
  have ea := (Ix.ofNat la).2
  have eb := (Ix.ofNat lb).2
  obtain ⟨T', h', Lc, X', e', N', Kp, B', stp⟩ := cpA X K.ex K.zw K.ow w1 w2 w3 w4 rfl A B (Or.inl ⟨rfl, hty⟩) hsp.1 hdp.1 hnn.1 (by rw [hsp.2, hnn.2, ea]; exact h4) (by rw [hdp.2, hnn.2, eb]; exact h5) rfl (by rw [hdp.2, hnn.2]; exact h5) N (Wd.ge hkb) (g := mkF κ.m pc Ls (.int nn :: .int dp :: .ref b :: .int sp :: .ref a :: st)) rfl (hsz.trans K.2.2.2.2.1.symm) rfl (K.dec hd) hf (W := W) (by show 2 * 0 + _ ≤ _; omega) hl
  rw [hsp.2, hdp.2, hnn.2] at B'
  obtain ⟨U, o, h1, h2⟩ := nx T' Lc X' N' (by
    rw [e']
    refine Wd.set hkb (Wd.1.keep Kp (allS (Wd.ge hkb) all0)) ?_ (fun b1 o1 ne H => H.keep Kp (ninS ne nin0))
    obtain ⟨c, A', -, S', -, H', G'⟩ := B'
    have len : (vd.take j ++ ((List.range n).map fun x => vs.getD (i + x) .null) ++ vd.drop (j + n)).length = vd.length := by
      simp only [List.length_append, List.length_take, List.length_map, List.length_range, List.length_drop]; omega
    have sz : c.slots.size = vd.length := by rw [S', eb]
    have tl : c.slots.toList = (vd.take j ++ ((List.range n).map fun x => vs.getD (i + x) .null) ++ vd.drop (j + n)) := by
      apply List.ext_getElem?
      intro x
      by_cases q : x < vd.length
      · have := H' x (by rw [sz]; exact q)
        rw [Array.getElem?_toList, this, List.getD_eq_getElem?_getD, List.getElem?_eq_getElem (by rw [len]; exact q)]; rfl
      · rw [List.getElem?_eq_none (by rw [Array.length_toList, sz]; omega), List.getElem?_eq_none (by rw [len]; omega)]
    refine ⟨c, A', tl, by rw [len]; exact lb, fun v hv => ?_, Eb.keep Kp⟩
    obtain ⟨x, hx, rfl⟩ := List.getElem_of_mem hv
    have := G' x (by rw [sz, ← len]; exact hx)
    rwa [List.getD_eq_getElem?_getD, List.getElem?_eq_getElem hx] at this)
  exact ⟨U, o, stp U h1, h2⟩
/-! the end -/
theorem s_ret {t : FieldType} (K : Ok Z κ own bytes maxL (some t) nm) {i : Instr} {w : Value} (hd : decode bytes pc = .ok (i, 1)) (hn : narrow t w = w)
    (hi : (i = .ireturn ∧ (t = .int ∨ t = .boolean ∨ t = .byte ∨ t = .char ∨ t = .short) ∧ ∃ z, w = .int z) ∨ (i = .lreturn ∧ t = .long ∧ ∃ z, w = .long z) ∨ (i = .dreturn ∧ t = .double ∧ ∃ z, w = .double z) ∨ (i = .freturn ∧ t = .float ∧ ∃ z, w = .float z) ∨ (i = .areturn ∧ t.isReference = true ∧ w.isRef = true))
    (hc : ce ≤ R.cells) (hs : sl ≤ R.slots) (hq : Q (some w) L) : Go l Z n0 R Q κ ce sl L pc Ls (w :: st) := fun T locs X N W => by
  have hret := K.2.2.2.2.2.1
  obtain ⟨fs, hr, hrun, hended, hW, hsame⟩ := X.leave (v := some w) (fun h => by rw [hret] at h; cases h) K.2.2.2.2.2.2.1
  exact ⟨_, _, retOut X K.ex hret hn hi (K.dec hd) hr, hrun, hended, _, _, rfl, ⟨N, L, hq, W⟩, ⟨_, rfl⟩, hW, hsame.mono hc hs⟩
theorem s_ireturn (K : Ok Z κ own bytes maxL (some .int) nm) {z : Int32} (hd : decode bytes pc = .ok (.ireturn, 1)) (hc : ce ≤ R.cells) (hs : sl ≤ R.slots) (hq : Q (some (.int z)) L) : Go l Z n0 R Q κ ce sl L pc Ls (.int z :: st) := s_ret K hd rfl (Or.inl ⟨rfl, Or.inl rfl, _, rfl⟩) hc hs hq
theorem s_zreturn (K : Ok Z κ own bytes maxL (some .boolean) nm) {z : Int32} (hd : decode bytes pc = .ok (.ireturn, 1)) (hn : narrow .boolean (.int z) = .int z) (hc : ce ≤ R.cells) (hs : sl ≤ R.slots) (hq : Q (some (.int z)) L) : Go l Z n0 R Q κ ce sl L pc Ls (.int z :: st) := s_ret K hd hn (Or.inl ⟨rfl, Or.inr (Or.inl rfl), _, rfl⟩) hc hs hq
theorem s_lreturn (K : Ok Z κ own bytes maxL (some .long) nm) {z : Int64} (hd : decode bytes pc = .ok (.lreturn, 1)) (hc : ce ≤ R.cells) (hs : sl ≤ R.slots) (hq : Q (some (.long z)) L) : Go l Z n0 R Q κ ce sl L pc Ls (.long z :: st) := s_ret K hd rfl (Or.inr (Or.inl ⟨rfl, rfl, _, rfl⟩)) hc hs hq
theorem s_areturn {t : FieldType} (K : Ok Z κ own bytes maxL (some t) nm) {w : Value} (hd : decode bytes pc = .ok (.areturn, 1)) (ht : t.isReference = true) (hw : w.isRef = true) (hn : narrow t w = w) (hc : ce ≤ R.cells) (hs : sl ≤ R.slots) (hq : Q (some w) L) : Go l Z n0 R Q κ ce sl L pc Ls (w :: st) := s_ret K hd hn (Or.inr (Or.inr (Or.inr (Or.inr ⟨rfl, ht, hw⟩)))) hc hs hq
theorem s_return (K : Ok Z κ own bytes maxL none nm) (hd : decode bytes pc = .ok (.return_, 1)) (hc : ce ≤ R.cells) (hs : sl ≤ R.slots) (hq : Q none L) : Go l Z n0 R Q κ ce sl L pc Ls [] := fun T locs X N W => by
  have hret := K.2.2.2.2.2.1
  obtain ⟨fs, hr, hrun, hended, hW, hsame⟩ := X.leave (v := none) (fun _ => rfl) K.2.2.2.2.2.2.1
  exact ⟨_, _, X.returnOut K.ex hret (K.dec hd) hr, hrun, hended, _, _, rfl, ⟨N, L, hq, W⟩, ⟨_, rfl⟩, hW, hsame.mono hc hs⟩
end Steps
end Jvm.OwnKit
namespace Jvm.Pilot.@@N@@
open Jvm Jvm.ClassFile Sem Op Lib Jvm.Free Jvm.Stand Jvm.LawKit Jvm.RoadKit Bundle Jvm.OwnKit Jvm.Pilot.@@N@@.Jvm.D
def own_ints (ps : List Nat) : List Value := ps.map fun i => .int (Int32.ofNat i)
theorem own_len {ps : List Nat} : (own_ints ps).length = ps.length := by simp [own_ints]
theorem own_get {ps : List Nat} {i : Nat} (h : i < ps.length) : (own_ints ps)[i]? = some (.int (Int32.ofNat (ps.getD i 0))) := by
  simp [own_ints, List.getD_eq_getElem?_getD, h]
theorem own_set {ps : List Nat} {i x : Nat} : (own_ints ps).set i (.int (Int32.ofNat x)) = own_ints (ps.set i x) := by
  simp [own_ints, List.map_set]
theorem own_getset {ps : List Nat} {i x : Nat} (h : i < ps.length) : (own_ints (ps.set i x))[i]? = some (.int (Int32.ofNat x)) := by
  rw [← own_set, List.getElem?_set_self (by rw [own_len]; exact h)]
theorem own_inj {i j : Nat} (hi : i < 4) (hj : j < 4) (h : Int32.ofNat i = Int32.ofNat j) : i = j := by
  have := congrArg Int32.toInt h
  rw [Int32.toInt_ofNat_of_lt (by omega), Int32.toInt_ofNat_of_lt (by omega)] at this
  omega
theorem own_ne {i j : Nat} (hi : i < 4) (hj : j < 4) (h : ¬ i = j) : ¬ Int32.ofNat i = Int32.ofNat j := fun e => h (own_inj hi hj e)
theorem own_lt {i j : Nat} (hi : i < 4) (hj : j < 4) : Int32.ofNat i < Int32.ofNat j ↔ i < j := by
  rw [Int32.lt_iff_toInt_lt, Int32.toInt_ofNat_of_lt (by omega), Int32.toInt_ofNat_of_lt (by omega)]; omega
theorem own_maxY {i j : Nat} (hi : i < 4) (hj : j < 4) (h : if_icmp.holds .lt (Int32.ofNat i) (Int32.ofNat j) = true) : max i j = j := by
  have := (own_lt hi hj).mp (by simpa [if_icmp.holds] using h); omega
theorem own_maxN {i j : Nat} (hi : i < 4) (hj : j < 4) (h : if_icmp.holds .lt (Int32.ofNat i) (Int32.ofNat j) = false) : max i j = i := by
  have : ¬ i < j := fun q => by have := (own_lt hi hj).mpr q; simp [if_icmp.holds, this] at h
  omega
theorem own_minY {i j : Nat} (hi : i < 4) (hj : j < 4) (h : if_icmp.holds .gt (Int32.ofNat i) (Int32.ofNat j) = true) : min i j = j := by
  have := (own_lt hj hi).mp (by simpa [if_icmp.holds] using h); omega
theorem own_minN {i j : Nat} (hi : i < 4) (hj : j < 4) (h : if_icmp.holds .gt (Int32.ofNat i) (Int32.ofNat j) = false) : min i j = i := by
  have : ¬ j < i := fun q => by have := (own_lt hj hi).mpr q; simp [if_icmp.holds, this] at h
  omega
theorem own_max4 {i j : Nat} (hi : i < 4) (hj : j < 4) : max i j < 4 := by omega
theorem own_min4 {i j : Nat} (hi : i < 4) (hj : j < 4) : min i j < 4 := by omega
theorem own_max_lt {i j : Nat} (hi : i < 4) (hj : j < 4) : max i j < 2 ^ 31 := by omega
theorem own_neY {i j : Nat} (hi : i < 4) (hj : j < 4) (h : if_icmp.holds .ne (Int32.ofNat i) (Int32.ofNat j) = true) : ¬ i = j := fun e => by subst e; simp [if_icmp.holds] at h
theorem own_neN {i j : Nat} (hi : i < 4) (hj : j < 4) (h : if_icmp.holds .ne (Int32.ofNat i) (Int32.ofNat j) = false) : i = j := own_inj hi hj (by simpa [if_icmp.holds] using h)
theorem own_mask3 (x : Int32) : ∃ n : Nat, n < 4 ∧ x &&& (3 : Int32) = Int32.ofNat n := by
  have e : (x &&& (3 : Int32)).toInt.toNat < 4 ∧ 0 ≤ (x &&& (3 : Int32)).toInt := by
    have h := (c_andS x (3 : Int32)).2.2 (by decide)
    have h2 : (x &&& (3 : Int32)).toBitVec.toNat ≤ 3 := by
      show (x.toBitVec &&& (3 : Int32).toBitVec).toNat ≤ 3
      rw [BitVec.toNat_and]; exact Nat.and_le_right
    have h3 : (x &&& (3 : Int32)).toInt = ((x &&& (3 : Int32)).toBitVec.toNat : Int) := by
      show (x &&& (3 : Int32)).toBitVec.toInt = _
      rw [BitVec.toInt_eq_toNat_cond]; split <;> omega
    omega
  refine ⟨(x &&& (3 : Int32)).toInt.toNat, e.1, ?_⟩
  apply Int32.toInt_inj.mp
  rw [Int32.toInt_ofNat_of_lt (by omega)]; omega
theorem own_mask4 (x : Int32) : x &&& (3 : Int32) = 0 ∨ x &&& (3 : Int32) = 1 ∨ x &&& (3 : Int32) = 2 ∨ x &&& (3 : Int32) = 3 := by
  obtain ⟨n, h, e⟩ := own_mask3 x
  match n, h with
  | 0, _ => exact Or.inl e
  | 1, _ => exact Or.inr (Or.inl e)
  | 2, _ => exact Or.inr (Or.inr (Or.inl e))
  | 3, _ => exact Or.inr (Or.inr (Or.inr e))
def own_inv (ps : List Nat) : Prop := ps.length = 4 ∧ ∀ i, i < 4 → ps.getD i 0 ≤ i
def own_four (ps : List Nat) : Prop := ps.length = 4 ∧ ∀ i, i < 4 → ps.getD i 0 < 4
theorem own_getD_set {ps : List Nat} {i j x : Nat} (hi : i < ps.length) : (ps.set i x).getD j 0 = if i = j then x else ps.getD j 0 := by
  simp only [List.getD_eq_getElem?_getD]
  by_cases q : i = j
  · subst q; simp [hi]
  · rw [List.getElem?_set_ne q, if_neg q]
theorem own_inv_set {ps : List Nat} {i x : Nat} (hv : own_inv ps) (hi : i < 4) (hx : x ≤ i) : own_inv (ps.set i x) := by
  refine ⟨by rw [List.length_set]; exact hv.1, fun j hj => ?_⟩
  rw [own_getD_set (by rw [hv.1]; exact hi)]
  split
  · omega
  · exact hv.2 j hj
theorem own_four_set {ps : List Nat} {i x : Nat} (hv : own_four ps) (hx : x < 4) : own_four (ps.set i x) := by
  refine ⟨by rw [List.length_set]; exact hv.1, fun j hj => ?_⟩
  by_cases hi : i < ps.length
  · rw [own_getD_set hi]
    split
    · exact hx
    · exact hv.2 j hj
  · rw [List.set_eq_of_length_le (by omega)]; exact hv.2 j hj
def own_root : Nat → List Nat → Nat → List Nat × Nat
  | 0, ps, i => (ps, i)
  | f + 1, ps, i => if ps.getD i 0 = i then (ps, i) else own_root f (ps.set i (ps.getD (ps.getD i 0) 0)) (ps.getD (ps.getD i 0) 0)
theorem own_rootY {f : Nat} {ps : List Nat} {i : Nat} (h : ps.getD i 0 = i) : own_root (f + 1) ps i = (ps, i) := if_pos h
theorem own_rootN {f : Nat} {ps : List Nat} {i : Nat} (h : ¬ ps.getD i 0 = i) : own_root (f + 1) ps i = own_root f (ps.set i (ps.getD (ps.getD i 0) 0)) (ps.getD (ps.getD i 0) 0) := if_neg h
theorem own_root_invf : ∀ (f : Nat) (ps : List Nat) (i : Nat), own_inv ps → i < 4 → own_inv (own_root f ps i).1 ∧ (own_root f ps i).2 < 4 := by
  intro f
  induction f with
  | zero => intro ps i hv hi; exact ⟨hv, hi⟩
  | succ f ih =>
    intro ps i hv hi
    by_cases h : ps.getD i 0 = i
    · rw [own_rootY h]; exact ⟨hv, hi⟩
    · rw [own_rootN h]
      have hp := hv.2 i hi
      have hg := hv.2 (ps.getD i 0) (by omega)
      exact ih _ _ (own_inv_set hv hi (by omega)) (by omega)
theorem own_root_inv {ps : List Nat} {i : Nat} (hv : own_inv ps) (hi : i < 4) : own_inv (own_root 3 ps i).1 ∧ (own_root 3 ps i).2 < 4 := own_root_invf 3 ps i hv hi
theorem own_inv0 : own_inv [0, 1, 2, 3] := ⟨rfl, by decide⟩
def own_join (ps : List Nat) (i j : Nat) : List Nat := (own_root 3 (own_root 3 ps i).1 j).1.set (max (own_root 3 ps i).2 (own_root 3 (own_root 3 ps i).1 j).2) (min (own_root 3 ps i).2 (own_root 3 (own_root 3 ps i).1 j).2)
def own_mg (lo hi : Nat) (lab : List Nat) (k : Nat) : List Nat := if lab.getD k 0 = hi then lab.set k lo else lab
theorem own_mgY {lo hi k : Nat} {lab : List Nat} (h : lab.getD k 0 = hi) : own_mg lo hi lab k = lab.set k lo := if_pos h
theorem own_mgN {lo hi k : Nat} {lab : List Nat} (h : ¬ lab.getD k 0 = hi) : own_mg lo hi lab k = lab := if_neg h
def own_merge (lab : List Nat) (i j : Nat) : List Nat :=
  own_mg (min (lab.getD i 0) (lab.getD j 0)) (max (lab.getD i 0) (lab.getD j 0)) (own_mg (min (lab.getD i 0) (lab.getD j 0)) (max (lab.getD i 0) (lab.getD j 0)) (own_mg (min (lab.getD i 0) (lab.getD j 0)) (max (lab.getD i 0) (lab.getD j 0)) (own_mg (min (lab.getD i 0) (lab.getD j 0)) (max (lab.getD i 0) (lab.getD j 0)) lab 0) 1) 2) 3
def own_lab (ps : List Nat) : List Nat := [(own_root 3 ps 0).2, (own_root 3 ps 1).2, (own_root 3 ps 2).2, (own_root 3 ps 3).2]
def own_all : List (List Nat) := (List.range 24).map fun k => [0, k % 2, k / 2 % 3, k / 6]
theorem own_all0 : [0, 1, 2, 3] ∈ own_all := by decide
theorem own_all_d : ∀ ps ∈ own_all, ps.length = 4 ∧ ∀ i < 4, ps.getD i 0 ≤ i := by decide +kernel
theorem own_all_inv {ps : List Nat} (h : ps ∈ own_all) : own_inv ps := own_all_d ps h
theorem own_lab_d : ∀ ps ∈ own_all, (own_lab ps).length = 4 ∧ ∀ i < 4, (own_lab ps).getD i 0 < 4 := by decide +kernel
theorem own_lab4 {ps : List Nat} (h : ps ∈ own_all) : own_four (own_lab ps) := own_lab_d ps h
theorem own_step_d : ∀ ps ∈ own_all, ∀ i < 4, ∀ j < 4, own_merge (own_lab ps) i j = own_lab (own_join ps i j) ∧ own_join ps i j ∈ own_all := by decide +kernel
theorem own_step {ps : List Nat} {i j : Nat} (h : ps ∈ own_all) (hi : i < 4) (hj : j < 4) : own_merge (own_lab ps) i j = own_lab (own_join ps i j) := (own_step_d ps h i hi j hj).1
theorem own_join_all {ps : List Nat} {i j : Nat} (h : ps ∈ own_all) (hi : i < 4) (hj : j < 4) : own_join ps i j ∈ own_all := (own_step_d ps h i hi j hj).2
theorem own_e_d : ∀ ps ∈ own_all, ∀ q < 4, (own_root 3 ps q).2 = (own_lab ps).getD q 0 ∧ (own_root 3 (own_root 3 ps q).1 0).2 = (own_lab ps).getD 0 0 ∧ (own_root 3 (own_root 3 (own_root 3 ps q).1 0).1 1).2 = (own_lab ps).getD 1 0 ∧
    (own_root 3 (own_root 3 (own_root 3 (own_root 3 ps q).1 0).1 1).1 2).2 = (own_lab ps).getD 2 0 ∧ (own_root 3 (own_root 3 (own_root 3 (own_root 3 (own_root 3 ps q).1 0).1 1).1 2).1 3).2 = (own_lab ps).getD 3 0 := by decide +kernel
section
variable {ps : List Nat} {q : Nat}
theorem own_e0 (h : ps ∈ own_all) (hq : q < 4) : (own_root 3 ps q).2 = (own_lab ps).getD q 0 := (own_e_d ps h q hq).1
theorem own_e1 (h : ps ∈ own_all) (hq : q < 4) : (own_root 3 (own_root 3 ps q).1 0).2 = (own_lab ps).getD 0 0 := (own_e_d ps h q hq).2.1
theorem own_e2 (h : ps ∈ own_all) (hq : q < 4) : (own_root 3 (own_root 3 (own_root 3 ps q).1 0).1 1).2 = (own_lab ps).getD 1 0 := (own_e_d ps h q hq).2.2.1
theorem own_e3 (h : ps ∈ own_all) (hq : q < 4) : (own_root 3 (own_root 3 (own_root 3 (own_root 3 ps q).1 0).1 1).1 2).2 = (own_lab ps).getD 2 0 := (own_e_d ps h q hq).2.2.2.1
theorem own_e4 (h : ps ∈ own_all) (hq : q < 4) : (own_root 3 (own_root 3 (own_root 3 (own_root 3 (own_root 3 ps q).1 0).1 1).1 2).1 3).2 = (own_lab ps).getD 3 0 := (own_e_d ps h q hq).2.2.2.2
end
theorem own_n_d : ∀ q < 4, q = (own_lab [0, 1, 2, 3]).getD q 0 := by decide +kernel
theorem own_n0 {q : Nat} (hq : q < 4) : q = (own_lab [0, 1, 2, 3]).getD q 0 := own_n_d q hq
theorem own_n1 {q : Nat} (hq : q < 4) : 0 = (own_lab [0, 1, 2, 3]).getD 0 0 := own_n_d 0 (by decide)
theorem own_n2 {q : Nat} (hq : q < 4) : 1 = (own_lab [0, 1, 2, 3]).getD 1 0 := own_n_d 1 (by decide)
theorem own_n3 {q : Nat} (hq : q < 4) : 2 = (own_lab [0, 1, 2, 3]).getD 2 0 := own_n_d 2 (by decide)
theorem own_n4 {q : Nat} (hq : q < 4) : 3 = (own_lab [0, 1, 2, 3]).getD 3 0 := own_n_d 3 (by decide)

theorem d1_0 : decode prog_237_method_1_code 0 = .ok (.aload_n 0, 1) := by decide +kernel
theorem d1_1 : decode prog_237_method_1_code 1 = .ok (.invokespecial 1, 3) := by decide +kernel
theorem d1_4 : decode prog_237_method_1_code 4 = .ok (.aload_n 0, 1) := by decide +kernel
theorem d1_5 : decode prog_237_method_1_code 5 = .ok (.iload_n 1, 1) := by decide +kernel
theorem d1_6 : decode prog_237_method_1_code 6 = .ok (.putfield 7, 3) := by decide +kernel
theorem d1_9 : decode prog_237_method_1_code 9 = .ok (.return_, 1) := by decide +kernel
theorem d2_0 : decode object_method_1_code 0 = .ok (.return_, 1) := by decide +kernel
theorem d3_0 : decode prog_237_method_2_code 0 = .ok (.aload_n 0, 1) := by decide +kernel
theorem d3_1 : decode prog_237_method_2_code 1 = .ok (.getfield 13, 3) := by decide +kernel
theorem d3_4 : decode prog_237_method_2_code 4 = .ok (.ifnonnull 36, 3) := by decide +kernel
theorem d3_7 : decode prog_237_method_2_code 7 = .ok (.aload_n 0, 1) := by decide +kernel
theorem d3_8 : decode prog_237_method_2_code 8 = .ok (.aload_n 0, 1) := by decide +kernel
theorem d3_9 : decode prog_237_method_2_code 9 = .ok (.getfield 7, 3) := by decide +kernel
theorem d3_12 : decode prog_237_method_2_code 12 = .ok (.newarray .int, 2) := by decide +kernel
theorem d3_14 : decode prog_237_method_2_code 14 = .ok (.putfield 13, 3) := by decide +kernel
theorem d3_17 : decode prog_237_method_2_code 17 = .ok (.iconst 0, 1) := by decide +kernel
theorem d3_18 : decode prog_237_method_2_code 18 = .ok (.istore_n 3, 1) := by decide +kernel
theorem d3_19 : decode prog_237_method_2_code 19 = .ok (.iload_n 3, 1) := by decide +kernel
theorem d3_20 : decode prog_237_method_2_code 20 = .ok (.aload_n 0, 1) := by decide +kernel
theorem d3_21 : decode prog_237_method_2_code 21 = .ok (.getfield 7, 3) := by decide +kernel
theorem d3_24 : decode prog_237_method_2_code 24 = .ok (.if_icmp .ge 16, 3) := by decide +kernel
theorem d3_27 : decode prog_237_method_2_code 27 = .ok (.aload_n 0, 1) := by decide +kernel
theorem d3_28 : decode prog_237_method_2_code 28 = .ok (.getfield 13, 3) := by decide +kernel
theorem d3_31 : decode prog_237_method_2_code 31 = .ok (.iload_n 3, 1) := by decide +kernel
theorem d3_32 : decode prog_237_method_2_code 32 = .ok (.iload_n 3, 1) := by decide +kernel
theorem d3_33 : decode prog_237_method_2_code 33 = .ok (.iastore, 1) := by decide +kernel
theorem d3_34 : decode prog_237_method_2_code 34 = .ok (.iinc 3 1, 3) := by decide +kernel
theorem d3_37 : decode prog_237_method_2_code 37 = .ok (.goto (-18), 3) := by decide +kernel
theorem d3_40 : decode prog_237_method_2_code 40 = .ok (.aload_n 0, 1) := by decide +kernel
theorem d3_41 : decode prog_237_method_2_code 41 = .ok (.iload_n 1, 1) := by decide +kernel
theorem d3_42 : decode prog_237_method_2_code 42 = .ok (.invokevirtual 17, 3) := by decide +kernel
theorem d3_45 : decode prog_237_method_2_code 45 = .ok (.istore_n 3, 1) := by decide +kernel
theorem d3_46 : decode prog_237_method_2_code 46 = .ok (.aload_n 0, 1) := by decide +kernel
theorem d3_47 : decode prog_237_method_2_code 47 = .ok (.iload_n 2, 1) := by decide +kernel
theorem d3_48 : decode prog_237_method_2_code 48 = .ok (.invokevirtual 17, 3) := by decide +kernel
theorem d3_51 : decode prog_237_method_2_code 51 = .ok (.istore 4, 2) := by decide +kernel
theorem d3_53 : decode prog_237_method_2_code 53 = .ok (.aload_n 0, 1) := by decide +kernel
theorem d3_54 : decode prog_237_method_2_code 54 = .ok (.getfield 13, 3) := by decide +kernel
theorem d3_57 : decode prog_237_method_2_code 57 = .ok (.iload_n 3, 1) := by decide +kernel
theorem d3_58 : decode prog_237_method_2_code 58 = .ok (.iload 4, 2) := by decide +kernel
theorem d3_60 : decode prog_237_method_2_code 60 = .ok (.invokestatic 21, 3) := by decide +kernel
theorem d3_63 : decode prog_237_method_2_code 63 = .ok (.iload_n 3, 1) := by decide +kernel
theorem d3_64 : decode prog_237_method_2_code 64 = .ok (.iload 4, 2) := by decide +kernel
theorem d3_66 : decode prog_237_method_2_code 66 = .ok (.invokestatic 27, 3) := by decide +kernel
theorem d3_69 : decode prog_237_method_2_code 69 = .ok (.iastore, 1) := by decide +kernel
theorem d3_70 : decode prog_237_method_2_code 70 = .ok (.return_, 1) := by decide +kernel
theorem d4_0 : decode prog_237_method_3_code 0 = .ok (.aload_n 0, 1) := by decide +kernel
theorem d4_1 : decode prog_237_method_3_code 1 = .ok (.getfield 13, 3) := by decide +kernel
theorem d4_4 : decode prog_237_method_3_code 4 = .ok (.ifnonnull 5, 3) := by decide +kernel
theorem d4_7 : decode prog_237_method_3_code 7 = .ok (.iload_n 1, 1) := by decide +kernel
theorem d4_8 : decode prog_237_method_3_code 8 = .ok (.ireturn, 1) := by decide +kernel
theorem d4_9 : decode prog_237_method_3_code 9 = .ok (.iload_n 1, 1) := by decide +kernel
theorem d4_10 : decode prog_237_method_3_code 10 = .ok (.istore_n 2, 1) := by decide +kernel
theorem d4_11 : decode prog_237_method_3_code 11 = .ok (.aload_n 0, 1) := by decide +kernel
theorem d4_12 : decode prog_237_method_3_code 12 = .ok (.getfield 13, 3) := by decide +kernel
theorem d4_15 : decode prog_237_method_3_code 15 = .ok (.iload_n 2, 1) := by decide +kernel
theorem d4_16 : decode prog_237_method_3_code 16 = .ok (.iaload, 1) := by decide +kernel
theorem d4_17 : decode prog_237_method_3_code 17 = .ok (.iload_n 2, 1) := by decide +kernel
theorem d4_18 : decode prog_237_method_3_code 18 = .ok (.if_icmp .eq 30, 3) := by decide +kernel
theorem d4_21 : decode prog_237_method_3_code 21 = .ok (.aload_n 0, 1) := by decide +kernel
theorem d4_22 : decode prog_237_method_3_code 22 = .ok (.getfield 13, 3) := by decide +kernel
theorem d4_25 : decode prog_237_method_3_code 25 = .ok (.iload_n 2, 1) := by decide +kernel
theorem d4_26 : decode prog_237_method_3_code 26 = .ok (.aload_n 0, 1) := by decide +kernel
theorem d4_27 : decode prog_237_method_3_code 27 = .ok (.getfield 13, 3) := by decide +kernel
theorem d4_30 : decode prog_237_method_3_code 30 = .ok (.aload_n 0, 1) := by decide +kernel
theorem d4_31 : decode prog_237_method_3_code 31 = .ok (.getfield 13, 3) := by decide +kernel
theorem d4_34 : decode prog_237_method_3_code 34 = .ok (.iload_n 2, 1) := by decide +kernel
theorem d4_35 : decode prog_237_method_3_code 35 = .ok (.iaload, 1) := by decide +kernel
theorem d4_36 : decode prog_237_method_3_code 36 = .ok (.iaload, 1) := by decide +kernel
theorem d4_37 : decode prog_237_method_3_code 37 = .ok (.iastore, 1) := by decide +kernel
theorem d4_38 : decode prog_237_method_3_code 38 = .ok (.aload_n 0, 1) := by decide +kernel
theorem d4_39 : decode prog_237_method_3_code 39 = .ok (.getfield 13, 3) := by decide +kernel
theorem d4_42 : decode prog_237_method_3_code 42 = .ok (.iload_n 2, 1) := by decide +kernel
theorem d4_43 : decode prog_237_method_3_code 43 = .ok (.iaload, 1) := by decide +kernel
theorem d4_44 : decode prog_237_method_3_code 44 = .ok (.istore_n 2, 1) := by decide +kernel
theorem d4_45 : decode prog_237_method_3_code 45 = .ok (.goto (-34), 3) := by decide +kernel
theorem d4_48 : decode prog_237_method_3_code 48 = .ok (.iload_n 2, 1) := by decide +kernel
theorem d4_49 : decode prog_237_method_3_code 49 = .ok (.ireturn, 1) := by decide +kernel
theorem d5_0 : decode jdk_29_method_65_code 0 = .ok (.iload_n 0, 1) := by decide +kernel
theorem d5_1 : decode jdk_29_method_65_code 1 = .ok (.iload_n 1, 1) := by decide +kernel
theorem d5_2 : decode jdk_29_method_65_code 2 = .ok (.if_icmp .lt 7, 3) := by decide +kernel
theorem d5_5 : decode jdk_29_method_65_code 5 = .ok (.iload_n 0, 1) := by decide +kernel
theorem d5_6 : decode jdk_29_method_65_code 6 = .ok (.goto 4, 3) := by decide +kernel
theorem d5_9 : decode jdk_29_method_65_code 9 = .ok (.iload_n 1, 1) := by decide +kernel
theorem d5_10 : decode jdk_29_method_65_code 10 = .ok (.ireturn, 1) := by decide +kernel
theorem d6_0 : decode jdk_29_method_69_code 0 = .ok (.iload_n 0, 1) := by decide +kernel
theorem d6_1 : decode jdk_29_method_69_code 1 = .ok (.iload_n 1, 1) := by decide +kernel
theorem d6_2 : decode jdk_29_method_69_code 2 = .ok (.if_icmp .gt 7, 3) := by decide +kernel
theorem d6_5 : decode jdk_29_method_69_code 5 = .ok (.iload_n 0, 1) := by decide +kernel
theorem d6_6 : decode jdk_29_method_69_code 6 = .ok (.goto 4, 3) := by decide +kernel
theorem d6_9 : decode jdk_29_method_69_code 9 = .ok (.iload_n 1, 1) := by decide +kernel
theorem d6_10 : decode jdk_29_method_69_code 10 = .ok (.ireturn, 1) := by decide +kernel
theorem d7_0 : decode method_3_code 0 = .ok (.aload_n 0, 1) := by decide +kernel
theorem d7_1 : decode method_3_code 1 = .ok (.iload_n 1, 1) := by decide +kernel
theorem d7_2 : decode method_3_code 2 = .ok (.iaload, 1) := by decide +kernel
theorem d7_3 : decode method_3_code 3 = .ok (.istore_n 3, 1) := by decide +kernel
theorem d7_4 : decode method_3_code 4 = .ok (.aload_n 0, 1) := by decide +kernel
theorem d7_5 : decode method_3_code 5 = .ok (.iload_n 2, 1) := by decide +kernel
theorem d7_6 : decode method_3_code 6 = .ok (.iaload, 1) := by decide +kernel
theorem d7_7 : decode method_3_code 7 = .ok (.istore 4, 2) := by decide +kernel
theorem d7_9 : decode method_3_code 9 = .ok (.iload_n 3, 1) := by decide +kernel
theorem d7_10 : decode method_3_code 10 = .ok (.iload 4, 2) := by decide +kernel
theorem d7_12 : decode method_3_code 12 = .ok (.invokestatic 26, 3) := by decide +kernel
theorem d7_15 : decode method_3_code 15 = .ok (.istore 5, 2) := by decide +kernel
theorem d7_17 : decode method_3_code 17 = .ok (.iload_n 3, 1) := by decide +kernel
theorem d7_18 : decode method_3_code 18 = .ok (.iload 4, 2) := by decide +kernel
theorem d7_20 : decode method_3_code 20 = .ok (.invokestatic 32, 3) := by decide +kernel
theorem d7_23 : decode method_3_code 23 = .ok (.istore 6, 2) := by decide +kernel
theorem d7_25 : decode method_3_code 25 = .ok (.aload_n 0, 1) := by decide +kernel
theorem d7_26 : decode method_3_code 26 = .ok (.iconst 0, 1) := by decide +kernel
theorem d7_27 : decode method_3_code 27 = .ok (.iaload, 1) := by decide +kernel
theorem d7_28 : decode method_3_code 28 = .ok (.iload 6, 2) := by decide +kernel
theorem d7_30 : decode method_3_code 30 = .ok (.if_icmp .ne 8, 3) := by decide +kernel
theorem d7_33 : decode method_3_code 33 = .ok (.aload_n 0, 1) := by decide +kernel
theorem d7_34 : decode method_3_code 34 = .ok (.iconst 0, 1) := by decide +kernel
theorem d7_35 : decode method_3_code 35 = .ok (.iload 5, 2) := by decide +kernel
theorem d7_37 : decode method_3_code 37 = .ok (.iastore, 1) := by decide +kernel
theorem d7_38 : decode method_3_code 38 = .ok (.aload_n 0, 1) := by decide +kernel
theorem d7_39 : decode method_3_code 39 = .ok (.iconst 1, 1) := by decide +kernel
theorem d7_40 : decode method_3_code 40 = .ok (.iaload, 1) := by decide +kernel
theorem d7_41 : decode method_3_code 41 = .ok (.iload 6, 2) := by decide +kernel
theorem d7_43 : decode method_3_code 43 = .ok (.if_icmp .ne 8, 3) := by decide +kernel
theorem d7_46 : decode method_3_code 46 = .ok (.aload_n 0, 1) := by decide +kernel
theorem d7_47 : decode method_3_code 47 = .ok (.iconst 1, 1) := by decide +kernel
theorem d7_48 : decode method_3_code 48 = .ok (.iload 5, 2) := by decide +kernel
theorem d7_50 : decode method_3_code 50 = .ok (.iastore, 1) := by decide +kernel
theorem d7_51 : decode method_3_code 51 = .ok (.aload_n 0, 1) := by decide +kernel
theorem d7_52 : decode method_3_code 52 = .ok (.iconst 2, 1) := by decide +kernel
theorem d7_53 : decode method_3_code 53 = .ok (.iaload, 1) := by decide +kernel
theorem d7_54 : decode method_3_code 54 = .ok (.iload 6, 2) := by decide +kernel
theorem d7_56 : decode method_3_code 56 = .ok (.if_icmp .ne 8, 3) := by decide +kernel
theorem d7_59 : decode method_3_code 59 = .ok (.aload_n 0, 1) := by decide +kernel
theorem d7_60 : decode method_3_code 60 = .ok (.iconst 2, 1) := by decide +kernel
theorem d7_61 : decode method_3_code 61 = .ok (.iload 5, 2) := by decide +kernel
theorem d7_63 : decode method_3_code 63 = .ok (.iastore, 1) := by decide +kernel
theorem d7_64 : decode method_3_code 64 = .ok (.aload_n 0, 1) := by decide +kernel
theorem d7_65 : decode method_3_code 65 = .ok (.iconst 3, 1) := by decide +kernel
theorem d7_66 : decode method_3_code 66 = .ok (.iaload, 1) := by decide +kernel
theorem d7_67 : decode method_3_code 67 = .ok (.iload 6, 2) := by decide +kernel
theorem d7_69 : decode method_3_code 69 = .ok (.if_icmp .ne 8, 3) := by decide +kernel
theorem d7_72 : decode method_3_code 72 = .ok (.aload_n 0, 1) := by decide +kernel
theorem d7_73 : decode method_3_code 73 = .ok (.iconst 3, 1) := by decide +kernel
theorem d7_74 : decode method_3_code 74 = .ok (.iload 5, 2) := by decide +kernel
theorem d7_76 : decode method_3_code 76 = .ok (.iastore, 1) := by decide +kernel
theorem d7_77 : decode method_3_code 77 = .ok (.return_, 1) := by decide +kernel
abbrev HW (Z : State) (a0 : Array Value) : Prop := ∀ d ∈ tables_1, d.before a0 Z = true
section Words
variable {Z : State} {a0 : Array Value}
theorem w0 (hw : HW Z a0) : (Jvm.Cond.classLink "com/example/rising_prime/risingprime/value/ElementClassesClassOfPinLaw" (7 : Nat) "com/example/rising_prime/risingprime/value/ElementClasses").before a0 Z = true := hw _ (List.mem_of_getElem? (i := 0) rfl)
theorem w1 (hw : HW Z a0) : (Jvm.Cond.instantiable "com/example/rising_prime/risingprime/value/ElementClasses" (2 : Nat)).before a0 Z = true := hw _ (List.mem_of_getElem? (i := 1) rfl)
theorem w2 (hw : HW Z a0) : (Jvm.Cond.initialized "com/example/rising_prime/risingprime/value/ElementClasses").before a0 Z = true := hw _ (List.mem_of_getElem? (i := 2) rfl)
theorem w3 (hw : HW Z a0) : (Jvm.Cond.methodLink "com/example/rising_prime/risingprime/value/ElementClassesClassOfPinLaw" (9 : Nat) ({ cls := "com/example/rising_prime/risingprime/value/ElementClasses", name := "<init>", desc := "(I)V" } : Jvm.MethodName)).before a0 Z = true := hw _ (List.mem_of_getElem? (i := 3) rfl)
theorem w4 (hw : HW Z a0) : (Jvm.Cond.instanceMethod ({ cls := "com/example/rising_prime/risingprime/value/ElementClasses", name := "<init>", desc := "(I)V" } : Jvm.MethodName)).before a0 Z = true := hw _ (List.mem_of_getElem? (i := 4) rfl)
theorem w5 (hw : HW Z a0) : (Jvm.Cond.code ({ cls := "com/example/rising_prime/risingprime/value/ElementClasses", name := "<init>", desc := "(I)V" } : Jvm.MethodName) prog_237_method_1_code (2 : Nat) (Option.none : Option Jvm.ClassFile.FieldType)).before a0 Z = true := hw _ (List.mem_of_getElem? (i := 5) rfl)
theorem w6 (hw : HW Z a0) : (Jvm.Cond.methodLink "com/example/rising_prime/risingprime/value/ElementClasses" (1 : Nat) ({ cls := "java/lang/Object", name := "<init>", desc := "()V" } : Jvm.MethodName)).before a0 Z = true := hw _ (List.mem_of_getElem? (i := 6) rfl)
theorem w7 (hw : HW Z a0) : (Jvm.Cond.instanceMethod ({ cls := "java/lang/Object", name := "<init>", desc := "()V" } : Jvm.MethodName)).before a0 Z = true := hw _ (List.mem_of_getElem? (i := 7) rfl)
theorem w8 (hw : HW Z a0) : (Jvm.Cond.code ({ cls := "java/lang/Object", name := "<init>", desc := "()V" } : Jvm.MethodName) object_method_1_code (1 : Nat) (Option.none : Option Jvm.ClassFile.FieldType)).before a0 Z = true := hw _ (List.mem_of_getElem? (i := 8) rfl)
theorem w9 (hw : HW Z a0) : (Jvm.Cond.fieldLink "com/example/rising_prime/risingprime/value/ElementClasses" (7 : Nat) "com/example/rising_prime/risingprime/value/ElementClasses" "size" "I").before a0 Z = true := hw _ (List.mem_of_getElem? (i := 9) rfl)
theorem w10 (hw : HW Z a0) : (Jvm.Cond.laysFinal "com/example/rising_prime/risingprime/value/ElementClasses" "com/example/rising_prime/risingprime/value/ElementClasses" "size" "I").before a0 Z = true := hw _ (List.mem_of_getElem? (i := 10) rfl)
theorem w11 (hw : HW Z a0) : (Jvm.Cond.arrayClass Jvm.ClassFile.FieldType.int).before a0 Z = true := hw _ (List.mem_of_getElem? (i := 11) rfl)
theorem w12 (hw : HW Z a0) : (Jvm.Cond.methodLink "com/example/rising_prime/risingprime/value/ElementClassesClassOfPinLaw" (12 : Nat) ({ cls := "com/example/rising_prime/risingprime/value/ElementClasses", name := "join", desc := "(II)V" } : Jvm.MethodName)).before a0 Z = true := hw _ (List.mem_of_getElem? (i := 12) rfl)
theorem w13 (hw : HW Z a0) : (Jvm.Cond.declares ({ cls := "com/example/rising_prime/risingprime/value/ElementClasses", name := "join", desc := "(II)V" } : Jvm.MethodName)).before a0 Z = true := hw _ (List.mem_of_getElem? (i := 13) rfl)
theorem w14 (hw : HW Z a0) : (Jvm.Cond.instanceMethod ({ cls := "com/example/rising_prime/risingprime/value/ElementClasses", name := "join", desc := "(II)V" } : Jvm.MethodName)).before a0 Z = true := hw _ (List.mem_of_getElem? (i := 14) rfl)
theorem w15 (hw : HW Z a0) : (Jvm.Cond.selects "com/example/rising_prime/risingprime/value/ElementClasses" ({ cls := "com/example/rising_prime/risingprime/value/ElementClasses", name := "join", desc := "(II)V" } : Jvm.MethodName) ({ cls := "com/example/rising_prime/risingprime/value/ElementClasses", name := "join", desc := "(II)V" } : Jvm.MethodName)).before a0 Z = true := hw _ (List.mem_of_getElem? (i := 15) rfl)
theorem w16 (hw : HW Z a0) : (Jvm.Cond.code ({ cls := "com/example/rising_prime/risingprime/value/ElementClasses", name := "join", desc := "(II)V" } : Jvm.MethodName) prog_237_method_2_code (5 : Nat) (Option.none : Option Jvm.ClassFile.FieldType)).before a0 Z = true := hw _ (List.mem_of_getElem? (i := 16) rfl)
theorem w17 (hw : HW Z a0) : (Jvm.Cond.fieldLink "com/example/rising_prime/risingprime/value/ElementClasses" (13 : Nat) "com/example/rising_prime/risingprime/value/ElementClasses" "parents" "[I").before a0 Z = true := hw _ (List.mem_of_getElem? (i := 17) rfl)
theorem w18 (hw : HW Z a0) : (Jvm.Cond.lays "com/example/rising_prime/risingprime/value/ElementClasses" "com/example/rising_prime/risingprime/value/ElementClasses" "parents" "[I").before a0 Z = true := hw _ (List.mem_of_getElem? (i := 18) rfl)
theorem w19 (hw : HW Z a0) : (Jvm.Cond.methodLink "com/example/rising_prime/risingprime/value/ElementClasses" (17 : Nat) ({ cls := "com/example/rising_prime/risingprime/value/ElementClasses", name := "classOf", desc := "(I)I" } : Jvm.MethodName)).before a0 Z = true := hw _ (List.mem_of_getElem? (i := 19) rfl)
theorem w20 (hw : HW Z a0) : (Jvm.Cond.declares ({ cls := "com/example/rising_prime/risingprime/value/ElementClasses", name := "classOf", desc := "(I)I" } : Jvm.MethodName)).before a0 Z = true := hw _ (List.mem_of_getElem? (i := 20) rfl)
theorem w21 (hw : HW Z a0) : (Jvm.Cond.instanceMethod ({ cls := "com/example/rising_prime/risingprime/value/ElementClasses", name := "classOf", desc := "(I)I" } : Jvm.MethodName)).before a0 Z = true := hw _ (List.mem_of_getElem? (i := 21) rfl)
theorem w22 (hw : HW Z a0) : (Jvm.Cond.selects "com/example/rising_prime/risingprime/value/ElementClasses" ({ cls := "com/example/rising_prime/risingprime/value/ElementClasses", name := "classOf", desc := "(I)I" } : Jvm.MethodName) ({ cls := "com/example/rising_prime/risingprime/value/ElementClasses", name := "classOf", desc := "(I)I" } : Jvm.MethodName)).before a0 Z = true := hw _ (List.mem_of_getElem? (i := 22) rfl)
theorem w23 (hw : HW Z a0) : (Jvm.Cond.code ({ cls := "com/example/rising_prime/risingprime/value/ElementClasses", name := "classOf", desc := "(I)I" } : Jvm.MethodName) prog_237_method_3_code (3 : Nat) (Option.some Jvm.ClassFile.FieldType.int)).before a0 Z = true := hw _ (List.mem_of_getElem? (i := 23) rfl)
theorem w24 (hw : HW Z a0) : (Jvm.Cond.methodLink "com/example/rising_prime/risingprime/value/ElementClasses" (21 : Nat) ({ cls := "java/lang/Math", name := "max", desc := "(II)I" } : Jvm.MethodName)).before a0 Z = true := hw _ (List.mem_of_getElem? (i := 24) rfl)
theorem w25 (hw : HW Z a0) : (Jvm.Cond.static ({ cls := "java/lang/Math", name := "max", desc := "(II)I" } : Jvm.MethodName)).before a0 Z = true := hw _ (List.mem_of_getElem? (i := 25) rfl)
theorem w26 (hw : HW Z a0) : (Jvm.Cond.initialized "java/lang/Math").before a0 Z = true := hw _ (List.mem_of_getElem? (i := 26) rfl)
theorem w27 (hw : HW Z a0) : (Jvm.Cond.code ({ cls := "java/lang/Math", name := "max", desc := "(II)I" } : Jvm.MethodName) jdk_29_method_65_code (2 : Nat) (Option.some Jvm.ClassFile.FieldType.int)).before a0 Z = true := hw _ (List.mem_of_getElem? (i := 27) rfl)
theorem w28 (hw : HW Z a0) : (Jvm.Cond.methodLink "com/example/rising_prime/risingprime/value/ElementClasses" (27 : Nat) ({ cls := "java/lang/Math", name := "min", desc := "(II)I" } : Jvm.MethodName)).before a0 Z = true := hw _ (List.mem_of_getElem? (i := 28) rfl)
theorem w29 (hw : HW Z a0) : (Jvm.Cond.static ({ cls := "java/lang/Math", name := "min", desc := "(II)I" } : Jvm.MethodName)).before a0 Z = true := hw _ (List.mem_of_getElem? (i := 29) rfl)
theorem w30 (hw : HW Z a0) : (Jvm.Cond.code ({ cls := "java/lang/Math", name := "min", desc := "(II)I" } : Jvm.MethodName) jdk_29_method_69_code (2 : Nat) (Option.some Jvm.ClassFile.FieldType.int)).before a0 Z = true := hw _ (List.mem_of_getElem? (i := 30) rfl)
theorem w31 (hw : HW Z a0) : (Jvm.Cond.methodLink "com/example/rising_prime/risingprime/value/ElementClassesClassOfPinLaw" (16 : Nat) ({ cls := "com/example/rising_prime/risingprime/value/ElementClassesClassOfPinLaw", name := "merge", desc := "([III)V" } : Jvm.MethodName)).before a0 Z = true := hw _ (List.mem_of_getElem? (i := 31) rfl)
theorem w32 (hw : HW Z a0) : (Jvm.Cond.static ({ cls := "com/example/rising_prime/risingprime/value/ElementClassesClassOfPinLaw", name := "merge", desc := "([III)V" } : Jvm.MethodName)).before a0 Z = true := hw _ (List.mem_of_getElem? (i := 32) rfl)
theorem w33 (hw : HW Z a0) : (Jvm.Cond.initialized "com/example/rising_prime/risingprime/value/ElementClassesClassOfPinLaw").before a0 Z = true := hw _ (List.mem_of_getElem? (i := 33) rfl)
theorem w34 (hw : HW Z a0) : (Jvm.Cond.code ({ cls := "com/example/rising_prime/risingprime/value/ElementClassesClassOfPinLaw", name := "merge", desc := "([III)V" } : Jvm.MethodName) method_3_code (7 : Nat) (Option.none : Option Jvm.ClassFile.FieldType)).before a0 Z = true := hw _ (List.mem_of_getElem? (i := 34) rfl)
theorem w35 (hw : HW Z a0) : (Jvm.Cond.methodLink "com/example/rising_prime/risingprime/value/ElementClassesClassOfPinLaw" (26 : Nat) ({ cls := "java/lang/Math", name := "min", desc := "(II)I" } : Jvm.MethodName)).before a0 Z = true := hw _ (List.mem_of_getElem? (i := 35) rfl)
theorem w36 (hw : HW Z a0) : (Jvm.Cond.methodLink "com/example/rising_prime/risingprime/value/ElementClassesClassOfPinLaw" (32 : Nat) ({ cls := "java/lang/Math", name := "max", desc := "(II)I" } : Jvm.MethodName)).before a0 Z = true := hw _ (List.mem_of_getElem? (i := 36) rfl)
theorem w37 (hw : HW Z a0) : (Jvm.Cond.methodLink "com/example/rising_prime/risingprime/value/ElementClassesClassOfPinLaw" (22 : Nat) ({ cls := "com/example/rising_prime/risingprime/value/ElementClasses", name := "classOf", desc := "(I)I" } : Jvm.MethodName)).before a0 Z = true := hw _ (List.mem_of_getElem? (i := 37) rfl)
end Words
abbrev oEC (v0 : Value) (v1 : Value) : Ob := .inl ("com/example/rising_prime/risingprime/value/ElementClasses", [("com/example/rising_prime/risingprime/value/ElementClasses", "size", "I", v0), ("com/example/rising_prime/risingprime/value/ElementClasses", "parents", "[I", v1)])
theorem ly_oEC {Z : State} {a0 : Array Value} (hw : HW Z a0)   : OLay Z a0 "com/example/rising_prime/risingprime/value/ElementClasses" [("com/example/rising_prime/risingprime/value/ElementClasses", "size", "I", .int), ("com/example/rising_prime/risingprime/value/ElementClasses", "parents", "[I", (.array .int))] := (OLay.cons (Or.inr (w10 hw)) (by decide) (OLay.cons (Or.inl (w18 hw)) (by decide) OLay.nil))
theorem nd_oEC : (([("com/example/rising_prime/risingprime/value/ElementClasses", "size", "I", .int), ("com/example/rising_prime/risingprime/value/ElementClasses", "parents", "[I", (.array .int))] : List (String × String × String × FieldType)).map fun f => f.2.1).Nodup := by decide
theorem pd_0 : parseMethodDescriptor "(I)I" = some ⟨[.int], some .int⟩ := by decide +kernel
theorem pd_1 : parseMethodDescriptor "(II)I" = some ⟨[.int, .int], some .int⟩ := by decide +kernel
theorem pd_2 : parseMethodDescriptor "(I)V" = some ⟨[.int], none⟩ := by decide +kernel
theorem pd_3 : parseMethodDescriptor "(II)V" = some ⟨[.int, .int], none⟩ := by decide +kernel
theorem pd_4 : parseMethodDescriptor "([III)V" = some ⟨[(.array .int), .int, .int], none⟩ := by decide +kernel
set_option maxRecDepth 65536 in
set_option maxHeartbeats 400000000 in
theorem c_init {l : Launch} {Z : State} {a0 : Array Value} (hw : HW Z a0) {n0 : Nat} (F : Wd) (a : Addr) (x : Int32) :
    Con l Z n0 (⟨"com/example/rising_prime/risingprime/value/ElementClasses", "<init>", "(I)V"⟩ : MethodName) prog_237_method_1_code 2 none ({ frames := 1, cells := 0, slots := 0, locals := 12 } : Room) [.ref a, .int x] ((a, oEC (.int 0) .null) :: F) (fun v L' => v = none ∧ L' = (a, oEC (.int x) .null) :: F) := by
  refine Con.of (by decide +kernel) (Ls := #[.val (.ref a), .val (.int x)]) (fun m => by first | rfl | (simp [entryFrame, mkF, argsToLocals, Value.category]; done)) ?_
  intro κ K
  refine s_aloadN K d1_0 (pc' := 1) rfl rfl rfl ?_
  refine s_initO K d1_1 (pc' := 4) rfl (w6 hw) (w7 hw) (w8 hw) rfl (by decide) (W := 0) (Nat.le_of_eq rfl) (by decide) ?_
  refine s_aloadN K d1_4 (pc' := 5) rfl rfl rfl ?_
  refine s_iloadN K d1_5 (pc' := 6) rfl rfl ?_
  refine s_putf K d1_6 (pc' := 9) rfl (w9 hw) (Or.inr ⟨w10 hw, rfl, rfl⟩) (w1 hw) (ty := .int) (by decide) rfl rfl (k := 0) rfl (j := 0) rfl (L' := ((a, oEC (.int x) .null) :: F)) rfl ?_
  exact s_return K d1_9 (by decide) (by decide) ⟨rfl, rfl⟩
set_option maxRecDepth 65536 in
set_option maxHeartbeats 400000000 in
theorem c_max {l : Launch} {Z : State} {a0 : Array Value} (hw : HW Z a0) {n0 : Nat} (F : Wd) (i j : Nat) (hi : i < 4) (hj : j < 4) :
    Con l Z n0 (⟨"java/lang/Math", "max", "(II)I"⟩ : MethodName) jdk_29_method_65_code 2 (some .int) ({ frames := 0, cells := 0, slots := 0, locals := 0 } : Room) [.int (Int32.ofNat i), .int (Int32.ofNat j)] F (fun v L' => v = some (.int (Int32.ofNat (max i j))) ∧ L' = F) := by
  refine Con.of (by decide +kernel) (Ls := #[.val (.int (Int32.ofNat i)), .val (.int (Int32.ofNat j))]) (fun m => by first | rfl | (simp [entryFrame, mkF, argsToLocals, Value.category]; done)) ?_
  intro κ K
  refine s_iloadN K d5_0 (pc' := 1) rfl rfl ?_
  refine s_iloadN K d5_1 (pc' := 2) rfl rfl ?_
  refine s_ic K d5_2 (pn := 5) rfl (by decide) (pc' := 9) (by decide) (fun h => ?_) (fun h => ?_)
  · refine s_iloadN K d5_9 (pc' := 10) rfl rfl ?_
    exact s_ireturn K d5_10 (by decide) (by decide) ⟨by rw [own_maxY hi hj h], rfl⟩
  · refine s_iloadN K d5_5 (pc' := 6) rfl rfl ?_
    refine s_goto K d5_6 (by decide) (pc' := 10) (by decide) ?_
    exact s_ireturn K d5_10 (by decide) (by decide) ⟨by rw [own_maxN hi hj h], rfl⟩
set_option maxRecDepth 65536 in
set_option maxHeartbeats 400000000 in
theorem c_min {l : Launch} {Z : State} {a0 : Array Value} (hw : HW Z a0) {n0 : Nat} (F : Wd) (i j : Nat) (hi : i < 4) (hj : j < 4) :
    Con l Z n0 (⟨"java/lang/Math", "min", "(II)I"⟩ : MethodName) jdk_29_method_69_code 2 (some .int) ({ frames := 0, cells := 0, slots := 0, locals := 0 } : Room) [.int (Int32.ofNat i), .int (Int32.ofNat j)] F (fun v L' => v = some (.int (Int32.ofNat (min i j))) ∧ L' = F) := by
  refine Con.of (by decide +kernel) (Ls := #[.val (.int (Int32.ofNat i)), .val (.int (Int32.ofNat j))]) (fun m => by first | rfl | (simp [entryFrame, mkF, argsToLocals, Value.category]; done)) ?_
  intro κ K
  refine s_iloadN K d6_0 (pc' := 1) rfl rfl ?_
  refine s_iloadN K d6_1 (pc' := 2) rfl rfl ?_
  refine s_ic K d6_2 (pn := 5) rfl (by decide) (pc' := 9) (by decide) (fun h => ?_) (fun h => ?_)
  · refine s_iloadN K d6_9 (pc' := 10) rfl rfl ?_
    exact s_ireturn K d6_10 (by decide) (by decide) ⟨by rw [own_minY hi hj h], rfl⟩
  · refine s_iloadN K d6_5 (pc' := 6) rfl rfl ?_
    refine s_goto K d6_6 (by decide) (pc' := 10) (by decide) ?_
    exact s_ireturn K d6_10 (by decide) (by decide) ⟨by rw [own_minN hi hj h], rfl⟩
set_option maxRecDepth 65536 in
set_option maxHeartbeats 400000000 in
theorem c_cls0 {l : Launch} {Z : State} {a0 : Array Value} (hw : HW Z a0) {n0 : Nat} (F : Wd) (a : Addr) (x : Int32) :
    Con l Z n0 (⟨"com/example/rising_prime/risingprime/value/ElementClasses", "classOf", "(I)I"⟩ : MethodName) prog_237_method_3_code 3 (some .int) ({ frames := 0, cells := 0, slots := 0, locals := 0 } : Room) [.ref a, .int x] ((a, oEC (.int 4) .null) :: F) (fun v L' => v = some (.int x) ∧ L' = (a, oEC (.int 4) .null) :: F) := by
  refine Con.of (by decide +kernel) (Ls := #[.val (.ref a), .val (.int x), .unset]) (fun m => by first | rfl | (simp [entryFrame, mkF, argsToLocals, Value.category]; done)) ?_
  intro κ K
  refine s_aloadN K d4_0 (pc' := 1) rfl rfl rfl ?_
  refine s_getf K d4_1 (pc' := 4) rfl (w17 hw) (k := 0) rfl (j := 1) rfl ?_
  refine s_nonnullN K d4_4 (pc' := 7) rfl ?_
  refine s_iloadN K d4_7 (pc' := 8) rfl rfl ?_
  exact s_ireturn K d4_8 (by decide) (by decide) ⟨rfl, rfl⟩
set_option maxRecDepth 65536 in
set_option maxHeartbeats 400000000 in
theorem loop_cls {l : Launch} {Z : State} {a0 : Array Value} (hw : HW Z a0) {n0 : Nat} (F : Wd) (a b : Addr) (x : Int32) {R : Room} {Q : Option Value → Wd → Prop} {κ : Ctx} (K : Ok Z κ "com/example/rising_prime/risingprime/value/ElementClasses" prog_237_method_3_code 3 (some .int) "classOf") : ∀ (f : Nat) (ps : List Nat) (i : Nat), own_inv ps → i < 4 → i ≤ f →
    Q (some (.int (Int32.ofNat (own_root f ps i).2))) ((a, oEC (.int 4) (.ref b)) :: (b, .inr (.int, own_ints ((own_root f ps i).1))) :: F) → Go l Z n0 R Q κ 0 0 ((a, oEC (.int 4) (.ref b)) :: (b, .inr (.int, own_ints ps)) :: F) 11 #[.val (.ref a), .val (.int x), .val (.int (Int32.ofNat i))] [] := by
  intro f
  induction f with
  | zero =>
    intro ps i hv hi hf hq
    have he : ps.getD i 0 = i := by have := hv.2 i hi; omega
    refine s_aloadN K d4_11 (pc' := 12) rfl rfl rfl ?_
    refine s_getf K d4_12 (pc' := 15) rfl (w17 hw) (k := 0) rfl (j := 1) rfl ?_
    refine s_iloadN K d4_15 (pc' := 16) rfl rfl ?_
    refine s_iaload K d4_16 (pc' := 17) rfl (k := 1) rfl (i := i) (Ix.ofNat (by omega)) (own_get (by rw [hv.1]; exact hi)) ?_
    refine s_iloadN K d4_17 (pc' := 18) rfl rfl ?_
    refine s_icY K d4_18 (teq (congrArg Int32.ofNat he)).1 (by decide) (pc' := 48) (by decide) ?_
    refine s_iloadN K d4_48 (pc' := 49) rfl rfl ?_
    exact s_ireturn K d4_49 (Nat.zero_le _) (Nat.zero_le _) hq
  | succ f ih =>
    intro ps i hv hi hf hq
    by_cases he : ps.getD i 0 = i
    · rw [own_rootY he] at hq
      refine s_aloadN K d4_11 (pc' := 12) rfl rfl rfl ?_
      refine s_getf K d4_12 (pc' := 15) rfl (w17 hw) (k := 0) rfl (j := 1) rfl ?_
      refine s_iloadN K d4_15 (pc' := 16) rfl rfl ?_
      refine s_iaload K d4_16 (pc' := 17) rfl (k := 1) rfl (i := i) (Ix.ofNat (by omega)) (own_get (by rw [hv.1]; exact hi)) ?_
      refine s_iloadN K d4_17 (pc' := 18) rfl rfl ?_
      refine s_icY K d4_18 (teq (congrArg Int32.ofNat he)).1 (by decide) (pc' := 48) (by decide) ?_
      refine s_iloadN K d4_48 (pc' := 49) rfl rfl ?_
      exact s_ireturn K d4_49 (Nat.zero_le _) (Nat.zero_le _) hq
    · rw [own_rootN he] at hq
      have hp := hv.2 i hi
      have hg := hv.2 (ps.getD i 0) (by omega)
      refine s_aloadN K d4_11 (pc' := 12) rfl rfl rfl ?_
      refine s_getf K d4_12 (pc' := 15) rfl (w17 hw) (k := 0) rfl (j := 1) rfl ?_
      refine s_iloadN K d4_15 (pc' := 16) rfl rfl ?_
      refine s_iaload K d4_16 (pc' := 17) rfl (k := 1) rfl (i := i) (Ix.ofNat (by omega)) (own_get (by rw [hv.1]; exact hi)) ?_
      refine s_iloadN K d4_17 (pc' := 18) rfl rfl ?_
      refine s_icN K d4_18 (pc' := 21) rfl (feq (own_ne (by omega) (by omega) he)).1 ?_
      refine s_aloadN K d4_21 (pc' := 22) rfl rfl rfl ?_
      refine s_getf K d4_22 (pc' := 25) rfl (w17 hw) (k := 0) rfl (j := 1) rfl ?_
      refine s_iloadN K d4_25 (pc' := 26) rfl rfl ?_
      refine s_aloadN K d4_26 (pc' := 27) rfl rfl rfl ?_
      refine s_getf K d4_27 (pc' := 30) rfl (w17 hw) (k := 0) rfl (j := 1) rfl ?_
      refine s_aloadN K d4_30 (pc' := 31) rfl rfl rfl ?_
      refine s_getf K d4_31 (pc' := 34) rfl (w17 hw) (k := 0) rfl (j := 1) rfl ?_
      refine s_iloadN K d4_34 (pc' := 35) rfl rfl ?_
      refine s_iaload K d4_35 (pc' := 36) rfl (k := 1) rfl (i := i) (Ix.ofNat (by omega)) (own_get (by rw [hv.1]; exact hi)) ?_
      refine s_iaload K d4_36 (pc' := 37) rfl (k := 1) rfl (i := (ps.getD i 0)) (Ix.ofNat (by omega)) (own_get (by rw [hv.1]; omega)) ?_
      refine s_iastore K d4_37 (pc' := 38) rfl (k := 1) rfl (i := i) (Ix.ofNat (by omega)) (by rw [own_len, hv.1]; exact hi) (L' := ((a, oEC (.int 4) (.ref b)) :: (b, .inr (.int, own_ints (ps.set i (ps.getD (ps.getD i 0) 0)))) :: F)) (by rw [own_set]; rfl) ?_
      refine s_aloadN K d4_38 (pc' := 39) rfl rfl rfl ?_
      refine s_getf K d4_39 (pc' := 42) rfl (w17 hw) (k := 0) rfl (j := 1) rfl ?_
      refine s_iloadN K d4_42 (pc' := 43) rfl rfl ?_
      refine s_iaload K d4_43 (pc' := 44) rfl (k := 1) rfl (i := i) (Ix.ofNat (by omega)) (own_getset (by rw [hv.1]; exact hi)) ?_
      refine s_istoreN K d4_44 (pc' := 45) rfl (Ls' := #[.val (.ref a), .val (.int x), .val (.int (Int32.ofNat (ps.getD (ps.getD i 0) 0)))]) rfl ?_
      refine s_goto K d4_45 (by decide) (pc' := 11) (by decide) ?_
      exact ih _ _ (own_inv_set hv hi (by omega)) (by omega) (by omega) hq
set_option maxRecDepth 65536 in
set_option maxHeartbeats 400000000 in
theorem c_cls {l : Launch} {Z : State} {a0 : Array Value} (hw : HW Z a0) {n0 : Nat} (F : Wd) (a b : Addr) (ps : List Nat) (i : Nat) (hv : own_inv ps) (hi : i < 4) :
    Con l Z n0 (⟨"com/example/rising_prime/risingprime/value/ElementClasses", "classOf", "(I)I"⟩ : MethodName) prog_237_method_3_code 3 (some .int) ({ frames := 0, cells := 0, slots := 0, locals := 0 } : Room) [.ref a, .int (Int32.ofNat i)] ((a, oEC (.int 4) (.ref b)) :: (b, .inr (.int, own_ints ps)) :: F) (fun v L' => v = some (.int (Int32.ofNat (own_root 3 ps i).2)) ∧ L' = ((a, oEC (.int 4) (.ref b)) :: (b, .inr (.int, own_ints ((own_root 3 ps i).1))) :: F)) := by
  refine Con.of (by decide +kernel) (Ls := #[.val (.ref a), .val (.int (Int32.ofNat i)), .unset]) (fun m => by first | rfl | (simp [entryFrame, mkF, argsToLocals, Value.category]; done)) ?_
  intro κ K
  refine s_aloadN K d4_0 (pc' := 1) rfl rfl rfl ?_
  refine s_getf K d4_1 (pc' := 4) rfl (w17 hw) (k := 0) rfl (j := 1) rfl ?_
  refine s_nonnullY K d4_4 (by decide) (pc' := 9) (by decide) ?_
  refine s_iloadN K d4_9 (pc' := 10) rfl rfl ?_
  refine s_istoreN K d4_10 (pc' := 11) rfl (Ls' := #[.val (.ref a), .val (.int (Int32.ofNat i)), .val (.int (Int32.ofNat i))]) rfl ?_
  exact loop_cls hw F a b _ K 3 ps i hv hi (by omega) ⟨rfl, rfl⟩
set_option maxRecDepth 65536 in
set_option maxHeartbeats 400000000 in
theorem c_join1 {l : Launch} {Z : State} {a0 : Array Value} (hw : HW Z a0) {n0 : Nat} (F : Wd) (a b : Addr) (ps : List Nat) (i j : Nat) (hv : own_inv ps) (hi : i < 4) (hj : j < 4) :
    Con l Z n0 (⟨"com/example/rising_prime/risingprime/value/ElementClasses", "join", "(II)V"⟩ : MethodName) prog_237_method_2_code 5 none ({ frames := 1, cells := 0, slots := 0, locals := 16 } : Room) [.ref a, .int (Int32.ofNat i), .int (Int32.ofNat j)] ((a, oEC (.int 4) (.ref b)) :: (b, .inr (.int, own_ints ps)) :: F) (fun v L' => v = none ∧ L' = ((a, oEC (.int 4) (.ref b)) :: (b, .inr (.int, own_ints (own_join ps i j))) :: F)) := by
  refine Con.of (by decide +kernel) (Ls := #[.val (.ref a), .val (.int (Int32.ofNat i)), .val (.int (Int32.ofNat j)), .unset, .unset]) (fun m => by first | rfl | (simp [entryFrame, mkF, argsToLocals, Value.category]; done)) ?_
  intro κ K
  refine s_aloadN K d3_0 (pc' := 1) rfl rfl rfl ?_
  refine s_getf K d3_1 (pc' := 4) rfl (w17 hw) (k := 0) rfl (j := 1) rfl ?_
  refine s_nonnullY K d3_4 (by decide) (pc' := 40) (by decide) ?_
  refine s_aloadN K d3_40 (pc' := 41) rfl rfl rfl ?_
  refine s_iloadN K d3_41 (pc' := 42) rfl rfl ?_
  refine s_virtual K d3_42 (pc' := 45) rfl (k := 0) (a := a) rfl (as := [.int (Int32.ofNat i)]) (c_cls hw F a b ps i hv hi) (w19 hw) (w20 hw) (w22 hw) (w21 hw) (w2 hw) (w23 hw) (by decide) pd_0 rfl (rest := []) rfl rfl (W := 0) (Nat.le_of_eq rfl) (by decide) (by decide) (ce' := 0) rfl (sl' := 0) rfl (by decide) (by decide) ?_
  rintro v _ ⟨rfl, rfl⟩
  show Go l Z n0 _ _ κ 0 0 ((a, oEC (.int 4) (.ref b)) :: (b, .inr (.int, own_ints (own_root 3 ps i).1)) :: F) 45 #[.val (.ref a), .val (.int (Int32.ofNat i)), .val (.int (Int32.ofNat j)), .unset, .unset] [.int (Int32.ofNat ((own_root 3 ps i).2))]
  refine s_istoreN K d3_45 (pc' := 46) rfl (Ls' := #[.val (.ref a), .val (.int (Int32.ofNat i)), .val (.int (Int32.ofNat j)), .val (.int (Int32.ofNat ((own_root 3 ps i).2))), .unset]) rfl ?_
  refine s_aloadN K d3_46 (pc' := 47) rfl rfl rfl ?_
  refine s_iloadN K d3_47 (pc' := 48) rfl rfl ?_
  refine s_virtual K d3_48 (pc' := 51) rfl (k := 0) (a := a) rfl (as := [.int (Int32.ofNat j)]) (c_cls hw F a b (own_root 3 ps i).1 j (own_root_inv hv hi).1 hj) (w19 hw) (w20 hw) (w22 hw) (w21 hw) (w2 hw) (w23 hw) (by decide) pd_0 rfl (rest := []) rfl rfl (W := 0) (Nat.le_of_eq rfl) (by decide) (by decide) (ce' := 0) rfl (sl' := 0) rfl (by decide) (by decide) ?_
  rintro v _ ⟨rfl, rfl⟩
  show Go l Z n0 _ _ κ 0 0 ((a, oEC (.int 4) (.ref b)) :: (b, .inr (.int, own_ints (own_root 3 (own_root 3 ps i).1 j).1)) :: F) 51 #[.val (.ref a), .val (.int (Int32.ofNat i)), .val (.int (Int32.ofNat j)), .val (.int (Int32.ofNat ((own_root 3 ps i).2))), .unset] [.int (Int32.ofNat ((own_root 3 (own_root 3 ps i).1 j).2))]
  refine s_istore K d3_51 (pc' := 53) rfl (Ls' := #[.val (.ref a), .val (.int (Int32.ofNat i)), .val (.int (Int32.ofNat j)), .val (.int (Int32.ofNat ((own_root 3 ps i).2))), .val (.int (Int32.ofNat ((own_root 3 (own_root 3 ps i).1 j).2)))]) rfl ?_
  refine s_aloadN K d3_53 (pc' := 54) rfl rfl rfl ?_
  refine s_getf K d3_54 (pc' := 57) rfl (w17 hw) (k := 0) rfl (j := 1) rfl ?_
  refine s_iloadN K d3_57 (pc' := 58) rfl rfl ?_
  refine s_iload K d3_58 (pc' := 60) rfl rfl ?_
  refine s_static K d3_60 (pc' := 63) rfl (as := [.int (Int32.ofNat ((own_root 3 ps i).2)), .int (Int32.ofNat ((own_root 3 (own_root 3 ps i).1 j).2))]) (c_max hw ((a, oEC (.int 4) (.ref b)) :: (b, .inr (.int, own_ints (own_root 3 (own_root 3 ps i).1 j).1)) :: F) _ _ (own_root_inv hv hi).2 (own_root_inv (own_root_inv hv hi).1 hj).2) (w24 hw) (w25 hw) (w26 hw) (w27 hw) (by decide) pd_1 rfl (rest := [.ref b]) rfl rfl (W := 1) (Nat.le_of_eq rfl) (by decide) (by decide) (ce' := 0) rfl (sl' := 0) rfl (by decide) (by decide) ?_
  rintro v _ ⟨rfl, rfl⟩
  show Go l Z n0 _ _ κ 0 0 ((a, oEC (.int 4) (.ref b)) :: (b, .inr (.int, own_ints (own_root 3 (own_root 3 ps i).1 j).1)) :: F) 63 #[.val (.ref a), .val (.int (Int32.ofNat i)), .val (.int (Int32.ofNat j)), .val (.int (Int32.ofNat ((own_root 3 ps i).2))), .val (.int (Int32.ofNat ((own_root 3 (own_root 3 ps i).1 j).2)))] [.int (Int32.ofNat (max (own_root 3 ps i).2 (own_root 3 (own_root 3 ps i).1 j).2)), .ref b]
  refine s_iloadN K d3_63 (pc' := 64) rfl rfl ?_
  refine s_iload K d3_64 (pc' := 66) rfl rfl ?_
  refine s_static K d3_66 (pc' := 69) rfl (as := [.int (Int32.ofNat ((own_root 3 ps i).2)), .int (Int32.ofNat ((own_root 3 (own_root 3 ps i).1 j).2))]) (c_min hw ((a, oEC (.int 4) (.ref b)) :: (b, .inr (.int, own_ints (own_root 3 (own_root 3 ps i).1 j).1)) :: F) _ _ (own_root_inv hv hi).2 (own_root_inv (own_root_inv hv hi).1 hj).2) (w28 hw) (w29 hw) (w26 hw) (w30 hw) (by decide) pd_1 rfl (rest := [.int (Int32.ofNat (max (own_root 3 ps i).2 (own_root 3 (own_root 3 ps i).1 j).2)), .ref b]) rfl rfl (W := 2) (Nat.le_of_eq rfl) (by decide) (by decide) (ce' := 0) rfl (sl' := 0) rfl (by decide) (by decide) ?_
  rintro v _ ⟨rfl, rfl⟩
  show Go l Z n0 _ _ κ 0 0 ((a, oEC (.int 4) (.ref b)) :: (b, .inr (.int, own_ints (own_root 3 (own_root 3 ps i).1 j).1)) :: F) 69 #[.val (.ref a), .val (.int (Int32.ofNat i)), .val (.int (Int32.ofNat j)), .val (.int (Int32.ofNat ((own_root 3 ps i).2))), .val (.int (Int32.ofNat ((own_root 3 (own_root 3 ps i).1 j).2)))] [.int (Int32.ofNat (min (own_root 3 ps i).2 (own_root 3 (own_root 3 ps i).1 j).2)), .int (Int32.ofNat (max (own_root 3 ps i).2 (own_root 3 (own_root 3 ps i).1 j).2)), .ref b]
  refine s_iastore K d3_69 (pc' := 70) rfl (k := 1) rfl (i := (max (own_root 3 ps i).2 (own_root 3 (own_root 3 ps i).1 j).2)) (Ix.ofNat (own_max_lt (own_root_inv hv hi).2 (own_root_inv (own_root_inv hv hi).1 hj).2)) (by rw [own_len, (own_root_inv (own_root_inv hv hi).1 hj).1.1]; exact own_max4 (own_root_inv hv hi).2 (own_root_inv (own_root_inv hv hi).1 hj).2) (L' := ((a, oEC (.int 4) (.ref b)) :: (b, .inr (.int, own_ints (own_join ps i j))) :: F)) (by rw [own_set]; rfl) ?_
  exact s_return K d3_70 (by decide) (by decide) ⟨rfl, rfl⟩
set_option maxRecDepth 65536 in
set_option maxHeartbeats 400000000 in
theorem c_join0 {l : Launch} {Z : State} {a0 : Array Value} (hw : HW Z a0) {n0 : Nat} (F : Wd) (a : Addr) (i j : Nat) (hi : i < 4) (hj : j < 4) :
    Con l Z n0 (⟨"com/example/rising_prime/risingprime/value/ElementClasses", "join", "(II)V"⟩ : MethodName) prog_237_method_2_code 5 none ({ frames := 1, cells := 1, slots := 4, locals := 16 } : Room) [.ref a, .int (Int32.ofNat i), .int (Int32.ofNat j)] ((a, oEC (.int 4) .null) :: F) (fun v L' => v = none ∧ ∃ b, L' = (a, oEC (.int 4) (.ref b)) :: (b, .inr (.int, own_ints (own_join [0, 1, 2, 3] i j))) :: F) := by
  refine Con.of (by decide +kernel) (Ls := #[.val (.ref a), .val (.int (Int32.ofNat i)), .val (.int (Int32.ofNat j)), .unset, .unset]) (fun m => by first | rfl | (simp [entryFrame, mkF, argsToLocals, Value.category]; done)) ?_
  intro κ K
  refine s_aloadN K d3_0 (pc' := 1) rfl rfl rfl ?_
  refine s_getf K d3_1 (pc' := 4) rfl (w17 hw) (k := 0) rfl (j := 1) rfl ?_
  refine s_nonnullN K d3_4 (pc' := 7) rfl ?_
  refine s_aloadN K d3_7 (pc' := 8) rfl rfl rfl ?_
  refine s_aloadN K d3_8 (pc' := 9) rfl rfl rfl ?_
  refine s_getf K d3_9 (pc' := 12) rfl (w9 hw) (k := 0) rfl (j := 0) rfl ?_
  refine s_newarr K d3_12 (pc' := 14) rfl rfl (w11 hw) (n := 4) (by decide) (cap := 4) (by decide) (by decide) (vs0 := [.int 0, .int 0, .int 0, .int 0]) rfl (ce' := 1) rfl (sl' := 4) rfl (by decide) (by decide) ?_
  intro b1
  refine s_putf K d3_14 (pc' := 17) rfl (w17 hw) (Or.inl (w18 hw)) (w1 hw) (ty := (.array .int)) (by decide) rfl rfl (k := 1) rfl (j := 1) rfl (L' := ((b1, .inr (.int, [.int 0, .int 0, .int 0, .int 0])) :: (a, oEC (.int 4) (.ref b1)) :: F)) rfl ?_
  refine s_iconst K d3_17 (pc' := 18) rfl (z := (0 : Int32)) rfl ?_
  refine s_istoreN K d3_18 (pc' := 19) rfl (Ls' := #[.val (.ref a), .val (.int (Int32.ofNat i)), .val (.int (Int32.ofNat j)), .val (.int 0), .unset]) rfl ?_
  refine s_iloadN K d3_19 (pc' := 20) rfl rfl ?_
  refine s_aloadN K d3_20 (pc' := 21) rfl rfl rfl ?_
  refine s_getf K d3_21 (pc' := 24) rfl (w9 hw) (k := 1) rfl (j := 0) rfl ?_
  refine s_icN K d3_24 (pc' := 27) rfl rfl ?_
  refine s_aloadN K d3_27 (pc' := 28) rfl rfl rfl ?_
  refine s_getf K d3_28 (pc' := 31) rfl (w17 hw) (k := 1) rfl (j := 1) rfl ?_
  refine s_iloadN K d3_31 (pc' := 32) rfl rfl ?_
  refine s_iloadN K d3_32 (pc' := 33) rfl rfl ?_
  refine s_iastore K d3_33 (pc' := 34) rfl (k := 0) rfl (i := 0) (by decide) (ltB rfl) (L' := ((b1, .inr (.int, [.int 0, .int 0, .int 0, .int 0])) :: (a, oEC (.int 4) (.ref b1)) :: F)) rfl ?_
  refine s_iinc K d3_34 (pc' := 37) rfl rfl (z := (1 : Int32)) rfl (Ls' := #[.val (.ref a), .val (.int (Int32.ofNat i)), .val (.int (Int32.ofNat j)), .val (.int 1), .unset]) rfl ?_
  refine s_goto K d3_37 (by decide) (pc' := 19) (by decide) ?_
  refine s_iloadN K d3_19 (pc' := 20) rfl rfl ?_
  refine s_aloadN K d3_20 (pc' := 21) rfl rfl rfl ?_
  refine s_getf K d3_21 (pc' := 24) rfl (w9 hw) (k := 1) rfl (j := 0) rfl ?_
  refine s_icN K d3_24 (pc' := 27) rfl rfl ?_
  refine s_aloadN K d3_27 (pc' := 28) rfl rfl rfl ?_
  refine s_getf K d3_28 (pc' := 31) rfl (w17 hw) (k := 1) rfl (j := 1) rfl ?_
  refine s_iloadN K d3_31 (pc' := 32) rfl rfl ?_
  refine s_iloadN K d3_32 (pc' := 33) rfl rfl ?_
  refine s_iastore K d3_33 (pc' := 34) rfl (k := 0) rfl (i := 1) (by decide) (ltB rfl) (L' := ((b1, .inr (.int, [.int 0, .int 1, .int 0, .int 0])) :: (a, oEC (.int 4) (.ref b1)) :: F)) rfl ?_
  refine s_iinc K d3_34 (pc' := 37) rfl rfl (z := (2 : Int32)) rfl (Ls' := #[.val (.ref a), .val (.int (Int32.ofNat i)), .val (.int (Int32.ofNat j)), .val (.int 2), .unset]) rfl ?_
  refine s_goto K d3_37 (by decide) (pc' := 19) (by decide) ?_
  refine s_iloadN K d3_19 (pc' := 20) rfl rfl ?_
  refine s_aloadN K d3_20 (pc' := 21) rfl rfl rfl ?_
  refine s_getf K d3_21 (pc' := 24) rfl (w9 hw) (k := 1) rfl (j := 0) rfl ?_
  refine s_icN K d3_24 (pc' := 27) rfl rfl ?_
  refine s_aloadN K d3_27 (pc' := 28) rfl rfl rfl ?_
  refine s_getf K d3_28 (pc' := 31) rfl (w17 hw) (k := 1) rfl (j := 1) rfl ?_
  refine s_iloadN K d3_31 (pc' := 32) rfl rfl ?_
  refine s_iloadN K d3_32 (pc' := 33) rfl rfl ?_
  refine s_iastore K d3_33 (pc' := 34) rfl (k := 0) rfl (i := 2) (by decide) (ltB rfl) (L' := ((b1, .inr (.int, [.int 0, .int 1, .int 2, .int 0])) :: (a, oEC (.int 4) (.ref b1)) :: F)) rfl ?_
  refine s_iinc K d3_34 (pc' := 37) rfl rfl (z := (3 : Int32)) rfl (Ls' := #[.val (.ref a), .val (.int (Int32.ofNat i)), .val (.int (Int32.ofNat j)), .val (.int 3), .unset]) rfl ?_
  refine s_goto K d3_37 (by decide) (pc' := 19) (by decide) ?_
  refine s_iloadN K d3_19 (pc' := 20) rfl rfl ?_
  refine s_aloadN K d3_20 (pc' := 21) rfl rfl rfl ?_
  refine s_getf K d3_21 (pc' := 24) rfl (w9 hw) (k := 1) rfl (j := 0) rfl ?_
  refine s_icN K d3_24 (pc' := 27) rfl rfl ?_
  refine s_aloadN K d3_27 (pc' := 28) rfl rfl rfl ?_
  refine s_getf K d3_28 (pc' := 31) rfl (w17 hw) (k := 1) rfl (j := 1) rfl ?_
  refine s_iloadN K d3_31 (pc' := 32) rfl rfl ?_
  refine s_iloadN K d3_32 (pc' := 33) rfl rfl ?_
  refine s_iastore K d3_33 (pc' := 34) rfl (k := 0) rfl (i := 3) (by decide) (ltB rfl) (L' := ((b1, .inr (.int, [.int 0, .int 1, .int 2, .int 3])) :: (a, oEC (.int 4) (.ref b1)) :: F)) rfl ?_
  refine s_iinc K d3_34 (pc' := 37) rfl rfl (z := (4 : Int32)) rfl (Ls' := #[.val (.ref a), .val (.int (Int32.ofNat i)), .val (.int (Int32.ofNat j)), .val (.int 4), .unset]) rfl ?_
  refine s_goto K d3_37 (by decide) (pc' := 19) (by decide) ?_
  refine s_iloadN K d3_19 (pc' := 20) rfl rfl ?_
  refine s_aloadN K d3_20 (pc' := 21) rfl rfl rfl ?_
  refine s_getf K d3_21 (pc' := 24) rfl (w9 hw) (k := 1) rfl (j := 0) rfl ?_
  refine s_icY K d3_24 rfl (by decide) (pc' := 40) (by decide) ?_
  show Go l Z n0 _ _ κ 1 4 ((b1, .inr (.int, own_ints [0, 1, 2, 3])) :: (a, oEC (.int 4) (.ref b1)) :: F) 40 #[.val (.ref a), .val (.int (Int32.ofNat i)), .val (.int (Int32.ofNat j)), .val (.int 4), .unset] []
  refine s_aloadN K d3_40 (pc' := 41) rfl rfl rfl ?_
  refine s_iloadN K d3_41 (pc' := 42) rfl rfl ?_
  refine s_front (k := 1) rfl (L' := ((a, oEC (.int 4) (.ref b1)) :: (b1, .inr (.int, own_ints [0, 1, 2, 3])) :: F)) rfl ?_
  refine s_virtual K d3_42 (pc' := 45) rfl (k := 0) (a := a) rfl (as := [.int (Int32.ofNat i)]) (c_cls hw F a b1 [0, 1, 2, 3] i own_inv0 hi) (w19 hw) (w20 hw) (w22 hw) (w21 hw) (w2 hw) (w23 hw) (by decide) pd_0 rfl (rest := []) rfl rfl (W := 0) (Nat.le_of_eq rfl) (by decide) (by decide) (ce' := 1) rfl (sl' := 4) rfl (by decide) (by decide) ?_
  rintro v _ ⟨rfl, rfl⟩
  show Go l Z n0 _ _ κ 1 4 ((a, oEC (.int 4) (.ref b1)) :: (b1, .inr (.int, own_ints (own_root 3 [0, 1, 2, 3] i).1)) :: F) 45 #[.val (.ref a), .val (.int (Int32.ofNat i)), .val (.int (Int32.ofNat j)), .val (.int 4), .unset] [.int (Int32.ofNat ((own_root 3 [0, 1, 2, 3] i).2))]
  refine s_istoreN K d3_45 (pc' := 46) rfl (Ls' := #[.val (.ref a), .val (.int (Int32.ofNat i)), .val (.int (Int32.ofNat j)), .val (.int (Int32.ofNat ((own_root 3 [0, 1, 2, 3] i).2))), .unset]) rfl ?_
  refine s_aloadN K d3_46 (pc' := 47) rfl rfl rfl ?_
  refine s_iloadN K d3_47 (pc' := 48) rfl rfl ?_
  refine s_virtual K d3_48 (pc' := 51) rfl (k := 0) (a := a) rfl (as := [.int (Int32.ofNat j)]) (c_cls hw F a b1 (own_root 3 [0, 1, 2, 3] i).1 j (own_root_inv own_inv0 hi).1 hj) (w19 hw) (w20 hw) (w22 hw) (w21 hw) (w2 hw) (w23 hw) (by decide) pd_0 rfl (rest := []) rfl rfl (W := 0) (Nat.le_of_eq rfl) (by decide) (by decide) (ce' := 1) rfl (sl' := 4) rfl (by decide) (by decide) ?_
  rintro v _ ⟨rfl, rfl⟩
  show Go l Z n0 _ _ κ 1 4 ((a, oEC (.int 4) (.ref b1)) :: (b1, .inr (.int, own_ints (own_root 3 (own_root 3 [0, 1, 2, 3] i).1 j).1)) :: F) 51 #[.val (.ref a), .val (.int (Int32.ofNat i)), .val (.int (Int32.ofNat j)), .val (.int (Int32.ofNat ((own_root 3 [0, 1, 2, 3] i).2))), .unset] [.int (Int32.ofNat ((own_root 3 (own_root 3 [0, 1, 2, 3] i).1 j).2))]
  refine s_istore K d3_51 (pc' := 53) rfl (Ls' := #[.val (.ref a), .val (.int (Int32.ofNat i)), .val (.int (Int32.ofNat j)), .val (.int (Int32.ofNat ((own_root 3 [0, 1, 2, 3] i).2))), .val (.int (Int32.ofNat ((own_root 3 (own_root 3 [0, 1, 2, 3] i).1 j).2)))]) rfl ?_
  refine s_aloadN K d3_53 (pc' := 54) rfl rfl rfl ?_
  refine s_getf K d3_54 (pc' := 57) rfl (w17 hw) (k := 0) rfl (j := 1) rfl ?_
  refine s_iloadN K d3_57 (pc' := 58) rfl rfl ?_
  refine s_iload K d3_58 (pc' := 60) rfl rfl ?_
  refine s_static K d3_60 (pc' := 63) rfl (as := [.int (Int32.ofNat ((own_root 3 [0, 1, 2, 3] i).2)), .int (Int32.ofNat ((own_root 3 (own_root 3 [0, 1, 2, 3] i).1 j).2))]) (c_max hw ((a, oEC (.int 4) (.ref b1)) :: (b1, .inr (.int, own_ints (own_root 3 (own_root 3 [0, 1, 2, 3] i).1 j).1)) :: F) _ _ (own_root_inv own_inv0 hi).2 (own_root_inv (own_root_inv own_inv0 hi).1 hj).2) (w24 hw) (w25 hw) (w26 hw) (w27 hw) (by decide) pd_1 rfl (rest := [.ref b1]) rfl rfl (W := 1) (Nat.le_of_eq rfl) (by decide) (by decide) (ce' := 1) rfl (sl' := 4) rfl (by decide) (by decide) ?_
  rintro v _ ⟨rfl, rfl⟩
  show Go l Z n0 _ _ κ 1 4 ((a, oEC (.int 4) (.ref b1)) :: (b1, .inr (.int, own_ints (own_root 3 (own_root 3 [0, 1, 2, 3] i).1 j).1)) :: F) 63 #[.val (.ref a), .val (.int (Int32.ofNat i)), .val (.int (Int32.ofNat j)), .val (.int (Int32.ofNat ((own_root 3 [0, 1, 2, 3] i).2))), .val (.int (Int32.ofNat ((own_root 3 (own_root 3 [0, 1, 2, 3] i).1 j).2)))] [.int (Int32.ofNat (max (own_root 3 [0, 1, 2, 3] i).2 (own_root 3 (own_root 3 [0, 1, 2, 3] i).1 j).2)), .ref b1]
  refine s_iloadN K d3_63 (pc' := 64) rfl rfl ?_
  refine s_iload K d3_64 (pc' := 66) rfl rfl ?_
  refine s_static K d3_66 (pc' := 69) rfl (as := [.int (Int32.ofNat ((own_root 3 [0, 1, 2, 3] i).2)), .int (Int32.ofNat ((own_root 3 (own_root 3 [0, 1, 2, 3] i).1 j).2))]) (c_min hw ((a, oEC (.int 4) (.ref b1)) :: (b1, .inr (.int, own_ints (own_root 3 (own_root 3 [0, 1, 2, 3] i).1 j).1)) :: F) _ _ (own_root_inv own_inv0 hi).2 (own_root_inv (own_root_inv own_inv0 hi).1 hj).2) (w28 hw) (w29 hw) (w26 hw) (w30 hw) (by decide) pd_1 rfl (rest := [.int (Int32.ofNat (max (own_root 3 [0, 1, 2, 3] i).2 (own_root 3 (own_root 3 [0, 1, 2, 3] i).1 j).2)), .ref b1]) rfl rfl (W := 2) (Nat.le_of_eq rfl) (by decide) (by decide) (ce' := 1) rfl (sl' := 4) rfl (by decide) (by decide) ?_
  rintro v _ ⟨rfl, rfl⟩
  show Go l Z n0 _ _ κ 1 4 ((a, oEC (.int 4) (.ref b1)) :: (b1, .inr (.int, own_ints (own_root 3 (own_root 3 [0, 1, 2, 3] i).1 j).1)) :: F) 69 #[.val (.ref a), .val (.int (Int32.ofNat i)), .val (.int (Int32.ofNat j)), .val (.int (Int32.ofNat ((own_root 3 [0, 1, 2, 3] i).2))), .val (.int (Int32.ofNat ((own_root 3 (own_root 3 [0, 1, 2, 3] i).1 j).2)))] [.int (Int32.ofNat (min (own_root 3 [0, 1, 2, 3] i).2 (own_root 3 (own_root 3 [0, 1, 2, 3] i).1 j).2)), .int (Int32.ofNat (max (own_root 3 [0, 1, 2, 3] i).2 (own_root 3 (own_root 3 [0, 1, 2, 3] i).1 j).2)), .ref b1]
  refine s_iastore K d3_69 (pc' := 70) rfl (k := 1) rfl (i := (max (own_root 3 [0, 1, 2, 3] i).2 (own_root 3 (own_root 3 [0, 1, 2, 3] i).1 j).2)) (Ix.ofNat (own_max_lt (own_root_inv own_inv0 hi).2 (own_root_inv (own_root_inv own_inv0 hi).1 hj).2)) (by rw [own_len, (own_root_inv (own_root_inv own_inv0 hi).1 hj).1.1]; exact own_max4 (own_root_inv own_inv0 hi).2 (own_root_inv (own_root_inv own_inv0 hi).1 hj).2) (L' := ((a, oEC (.int 4) (.ref b1)) :: (b1, .inr (.int, own_ints (own_join [0, 1, 2, 3] i j))) :: F)) (by rw [own_set]; rfl) ?_
  exact s_return K d3_70 (by decide) (by decide) ⟨rfl, _, rfl⟩
set_option maxRecDepth 65536 in
set_option maxHeartbeats 400000000 in
theorem mg4 {l : Launch} {Z : State} {a0 : Array Value} (hw : HW Z a0) {n0 : Nat} (F : Wd) {R : Room} {Q : Option Value → Wd → Prop} {κ : Ctx} (K : Ok Z κ "com/example/rising_prime/risingprime/value/ElementClassesClassOfPinLaw" method_3_code 7 none "merge") (c : Addr) (x1 x2 x3 x4 : Int32) (lo hi : Nat) (hlo : lo < 4) (hhi : hi < 4) (lab : List Nat) (hq : Q none ((c, .inr (.int, own_ints lab)) :: F)) :
    Go l Z n0 R Q κ 0 0 ((c, .inr (.int, own_ints lab)) :: F) 77 #[.val (.ref c), .val (.int x1), .val (.int x2), .val (.int x3), .val (.int x4), .val (.int (Int32.ofNat lo)), .val (.int (Int32.ofNat hi))] [] := by
  exact s_return K d7_77 (Nat.zero_le _) (Nat.zero_le _) hq
set_option maxRecDepth 65536 in
set_option maxHeartbeats 400000000 in
theorem mg3 {l : Launch} {Z : State} {a0 : Array Value} (hw : HW Z a0) {n0 : Nat} (F : Wd) {R : Room} {Q : Option Value → Wd → Prop} {κ : Ctx} (K : Ok Z κ "com/example/rising_prime/risingprime/value/ElementClassesClassOfPinLaw" method_3_code 7 none "merge") (c : Addr) (x1 x2 x3 x4 : Int32) (lo hi : Nat) (hlo : lo < 4) (hhi : hi < 4) (lab : List Nat) (hl : own_four lab) (hq : Q none ((c, .inr (.int, own_ints (own_mg lo hi lab 3))) :: F)) :
    Go l Z n0 R Q κ 0 0 ((c, .inr (.int, own_ints lab)) :: F) 64 #[.val (.ref c), .val (.int x1), .val (.int x2), .val (.int x3), .val (.int x4), .val (.int (Int32.ofNat lo)), .val (.int (Int32.ofNat hi))] [] := by
  refine s_aloadN K d7_64 (pc' := 65) rfl rfl rfl ?_
  refine s_iconst K d7_65 (pc' := 66) rfl (z := (3 : Int32)) rfl ?_
  refine s_iaload K d7_66 (pc' := 67) rfl (k := 0) rfl (i := 3) (by decide) (own_get (by rw [hl.1]; decide)) ?_
  refine s_iload K d7_67 (pc' := 69) rfl rfl ?_
  refine s_ic K d7_69 (pn := 72) rfl (by decide) (pc' := 77) (by decide) (fun h => ?_) (fun h => ?_)
  · have he := own_neY (hl.2 3 (by decide)) hhi h
    exact mg4 hw F K c x1 x2 x3 x4 lo hi hlo hhi lab (by rw [own_mgN he] at hq; exact hq)
  · have he := own_neN (hl.2 3 (by decide)) hhi h
    refine s_aloadN K d7_72 (pc' := 73) rfl rfl rfl ?_
    refine s_iconst K d7_73 (pc' := 74) rfl (z := (3 : Int32)) rfl ?_
    refine s_iload K d7_74 (pc' := 76) rfl rfl ?_
    refine s_iastore K d7_76 (pc' := 77) rfl (k := 0) rfl (i := 3) (by decide) (by rw [own_len, hl.1]; decide) (L' := ((c, .inr (.int, own_ints (lab.set 3 lo))) :: F)) (by rw [own_set]; rfl) ?_
    exact mg4 hw F K c x1 x2 x3 x4 lo hi hlo hhi (lab.set 3 lo) (by rw [own_mgY he] at hq; exact hq)
set_option maxRecDepth 65536 in
set_option maxHeartbeats 400000000 in
theorem mg2 {l : Launch} {Z : State} {a0 : Array Value} (hw : HW Z a0) {n0 : Nat} (F : Wd) {R : Room} {Q : Option Value → Wd → Prop} {κ : Ctx} (K : Ok Z κ "com/example/rising_prime/risingprime/value/ElementClassesClassOfPinLaw" method_3_code 7 none "merge") (c : Addr) (x1 x2 x3 x4 : Int32) (lo hi : Nat) (hlo : lo < 4) (hhi : hi < 4) (lab : List Nat) (hl : own_four lab) (hq : Q none ((c, .inr (.int, own_ints (own_mg lo hi (own_mg lo hi lab 2) 3))) :: F)) :
    Go l Z n0 R Q κ 0 0 ((c, .inr (.int, own_ints lab)) :: F) 51 #[.val (.ref c), .val (.int x1), .val (.int x2), .val (.int x3), .val (.int x4), .val (.int (Int32.ofNat lo)), .val (.int (Int32.ofNat hi))] [] := by
  refine s_aloadN K d7_51 (pc' := 52) rfl rfl rfl ?_
  refine s_iconst K d7_52 (pc' := 53) rfl (z := (2 : Int32)) rfl ?_
  refine s_iaload K d7_53 (pc' := 54) rfl (k := 0) rfl (i := 2) (by decide) (own_get (by rw [hl.1]; decide)) ?_
  refine s_iload K d7_54 (pc' := 56) rfl rfl ?_
  refine s_ic K d7_56 (pn := 59) rfl (by decide) (pc' := 64) (by decide) (fun h => ?_) (fun h => ?_)
  · have he := own_neY (hl.2 2 (by decide)) hhi h
    exact mg3 hw F K c x1 x2 x3 x4 lo hi hlo hhi lab hl (by rw [own_mgN he] at hq; exact hq)
  · have he := own_neN (hl.2 2 (by decide)) hhi h
    refine s_aloadN K d7_59 (pc' := 60) rfl rfl rfl ?_
    refine s_iconst K d7_60 (pc' := 61) rfl (z := (2 : Int32)) rfl ?_
    refine s_iload K d7_61 (pc' := 63) rfl rfl ?_
    refine s_iastore K d7_63 (pc' := 64) rfl (k := 0) rfl (i := 2) (by decide) (by rw [own_len, hl.1]; decide) (L' := ((c, .inr (.int, own_ints (lab.set 2 lo))) :: F)) (by rw [own_set]; rfl) ?_
    exact mg3 hw F K c x1 x2 x3 x4 lo hi hlo hhi (lab.set 2 lo) (own_four_set hl hlo) (by rw [own_mgY he] at hq; exact hq)
set_option maxRecDepth 65536 in
set_option maxHeartbeats 400000000 in
theorem mg1 {l : Launch} {Z : State} {a0 : Array Value} (hw : HW Z a0) {n0 : Nat} (F : Wd) {R : Room} {Q : Option Value → Wd → Prop} {κ : Ctx} (K : Ok Z κ "com/example/rising_prime/risingprime/value/ElementClassesClassOfPinLaw" method_3_code 7 none "merge") (c : Addr) (x1 x2 x3 x4 : Int32) (lo hi : Nat) (hlo : lo < 4) (hhi : hi < 4) (lab : List Nat) (hl : own_four lab) (hq : Q none ((c, .inr (.int, own_ints (own_mg lo hi (own_mg lo hi (own_mg lo hi lab 1) 2) 3))) :: F)) :
    Go l Z n0 R Q κ 0 0 ((c, .inr (.int, own_ints lab)) :: F) 38 #[.val (.ref c), .val (.int x1), .val (.int x2), .val (.int x3), .val (.int x4), .val (.int (Int32.ofNat lo)), .val (.int (Int32.ofNat hi))] [] := by
  refine s_aloadN K d7_38 (pc' := 39) rfl rfl rfl ?_
  refine s_iconst K d7_39 (pc' := 40) rfl (z := (1 : Int32)) rfl ?_
  refine s_iaload K d7_40 (pc' := 41) rfl (k := 0) rfl (i := 1) (by decide) (own_get (by rw [hl.1]; decide)) ?_
  refine s_iload K d7_41 (pc' := 43) rfl rfl ?_
  refine s_ic K d7_43 (pn := 46) rfl (by decide) (pc' := 51) (by decide) (fun h => ?_) (fun h => ?_)
  · have he := own_neY (hl.2 1 (by decide)) hhi h
    exact mg2 hw F K c x1 x2 x3 x4 lo hi hlo hhi lab hl (by rw [own_mgN he] at hq; exact hq)
  · have he := own_neN (hl.2 1 (by decide)) hhi h
    refine s_aloadN K d7_46 (pc' := 47) rfl rfl rfl ?_
    refine s_iconst K d7_47 (pc' := 48) rfl (z := (1 : Int32)) rfl ?_
    refine s_iload K d7_48 (pc' := 50) rfl rfl ?_
    refine s_iastore K d7_50 (pc' := 51) rfl (k := 0) rfl (i := 1) (by decide) (by rw [own_len, hl.1]; decide) (L' := ((c, .inr (.int, own_ints (lab.set 1 lo))) :: F)) (by rw [own_set]; rfl) ?_
    exact mg2 hw F K c x1 x2 x3 x4 lo hi hlo hhi (lab.set 1 lo) (own_four_set hl hlo) (by rw [own_mgY he] at hq; exact hq)
set_option maxRecDepth 65536 in
set_option maxHeartbeats 400000000 in
theorem mg0 {l : Launch} {Z : State} {a0 : Array Value} (hw : HW Z a0) {n0 : Nat} (F : Wd) {R : Room} {Q : Option Value → Wd → Prop} {κ : Ctx} (K : Ok Z κ "com/example/rising_prime/risingprime/value/ElementClassesClassOfPinLaw" method_3_code 7 none "merge") (c : Addr) (x1 x2 x3 x4 : Int32) (lo hi : Nat) (hlo : lo < 4) (hhi : hi < 4) (lab : List Nat) (hl : own_four lab) (hq : Q none ((c, .inr (.int, own_ints (own_mg lo hi (own_mg lo hi (own_mg lo hi (own_mg lo hi lab 0) 1) 2) 3))) :: F)) :
    Go l Z n0 R Q κ 0 0 ((c, .inr (.int, own_ints lab)) :: F) 25 #[.val (.ref c), .val (.int x1), .val (.int x2), .val (.int x3), .val (.int x4), .val (.int (Int32.ofNat lo)), .val (.int (Int32.ofNat hi))] [] := by
  refine s_aloadN K d7_25 (pc' := 26) rfl rfl rfl ?_
  refine s_iconst K d7_26 (pc' := 27) rfl (z := (0 : Int32)) rfl ?_
  refine s_iaload K d7_27 (pc' := 28) rfl (k := 0) rfl (i := 0) (by decide) (own_get (by rw [hl.1]; decide)) ?_
  refine s_iload K d7_28 (pc' := 30) rfl rfl ?_
  refine s_ic K d7_30 (pn := 33) rfl (by decide) (pc' := 38) (by decide) (fun h => ?_) (fun h => ?_)
  · have he := own_neY (hl.2 0 (by decide)) hhi h
    exact mg1 hw F K c x1 x2 x3 x4 lo hi hlo hhi lab hl (by rw [own_mgN he] at hq; exact hq)
  · have he := own_neN (hl.2 0 (by decide)) hhi h
    refine s_aloadN K d7_33 (pc' := 34) rfl rfl rfl ?_
    refine s_iconst K d7_34 (pc' := 35) rfl (z := (0 : Int32)) rfl ?_
    refine s_iload K d7_35 (pc' := 37) rfl rfl ?_
    refine s_iastore K d7_37 (pc' := 38) rfl (k := 0) rfl (i := 0) (by decide) (by rw [own_len, hl.1]; decide) (L' := ((c, .inr (.int, own_ints (lab.set 0 lo))) :: F)) (by rw [own_set]; rfl) ?_
    exact mg1 hw F K c x1 x2 x3 x4 lo hi hlo hhi (lab.set 0 lo) (own_four_set hl hlo) (by rw [own_mgY he] at hq; exact hq)
set_option maxRecDepth 65536 in
set_option maxHeartbeats 400000000 in
theorem c_merge0 {l : Launch} {Z : State} {a0 : Array Value} (hw : HW Z a0) {n0 : Nat} (F : Wd) (c : Addr) (lab : List Nat) (i j : Nat) (hl : own_four lab) (hi : i < 4) (hj : j < 4) :
    Con l Z n0 (⟨"com/example/rising_prime/risingprime/value/ElementClassesClassOfPinLaw", "merge", "([III)V"⟩ : MethodName) method_3_code 7 none ({ frames := 1, cells := 0, slots := 0, locals := 13 } : Room) [.ref c, .int (Int32.ofNat i), .int (Int32.ofNat j)] ((c, .inr (.int, own_ints lab)) :: F) (fun v L' => v = none ∧ L' = ((c, .inr (.int, own_ints (own_merge lab i j))) :: F)) := by
  refine Con.of (by decide +kernel) (Ls := #[.val (.ref c), .val (.int (Int32.ofNat i)), .val (.int (Int32.ofNat j)), .unset, .unset, .unset, .unset]) (fun m => by first | rfl | (simp [entryFrame, mkF, argsToLocals, Value.category]; done)) ?_
  intro κ K
  refine s_aloadN K d7_0 (pc' := 1) rfl rfl rfl ?_
  refine s_iloadN K d7_1 (pc' := 2) rfl rfl ?_
  refine s_iaload K d7_2 (pc' := 3) rfl (k := 0) rfl (i := i) (Ix.ofNat (by omega)) (own_get (by rw [hl.1]; exact hi)) ?_
  refine s_istoreN K d7_3 (pc' := 4) rfl (Ls' := #[.val (.ref c), .val (.int (Int32.ofNat i)), .val (.int (Int32.ofNat j)), .val (.int (Int32.ofNat (lab.getD i 0))), .unset, .unset, .unset]) rfl ?_
  refine s_aloadN K d7_4 (pc' := 5) rfl rfl rfl ?_
  refine s_iloadN K d7_5 (pc' := 6) rfl rfl ?_
  refine s_iaload K d7_6 (pc' := 7) rfl (k := 0) rfl (i := j) (Ix.ofNat (by omega)) (own_get (by rw [hl.1]; exact hj)) ?_
  refine s_istore K d7_7 (pc' := 9) rfl (Ls' := #[.val (.ref c), .val (.int (Int32.ofNat i)), .val (.int (Int32.ofNat j)), .val (.int (Int32.ofNat (lab.getD i 0))), .val (.int (Int32.ofNat (lab.getD j 0))), .unset, .unset]) rfl ?_
  refine s_iloadN K d7_9 (pc' := 10) rfl rfl ?_
  refine s_iload K d7_10 (pc' := 12) rfl rfl ?_
  refine s_static K d7_12 (pc' := 15) rfl (as := [.int (Int32.ofNat (lab.getD i 0)), .int (Int32.ofNat (lab.getD j 0))]) (c_min hw ((c, .inr (.int, own_ints lab)) :: F) _ _ (hl.2 i hi) (hl.2 j hj)) (w35 hw) (w29 hw) (w26 hw) (w30 hw) (by decide) pd_1 rfl (rest := []) rfl rfl (W := 0) (Nat.le_of_eq rfl) (by decide) (by decide) (ce' := 0) rfl (sl' := 0) rfl (by decide) (by decide) ?_
  rintro v _ ⟨rfl, rfl⟩
  show Go l Z n0 _ _ κ 0 0 ((c, .inr (.int, own_ints lab)) :: F) 15 #[.val (.ref c), .val (.int (Int32.ofNat i)), .val (.int (Int32.ofNat j)), .val (.int (Int32.ofNat (lab.getD i 0))), .val (.int (Int32.ofNat (lab.getD j 0))), .unset, .unset] [.int (Int32.ofNat (min (lab.getD i 0) (lab.getD j 0)))]
  refine s_istore K d7_15 (pc' := 17) rfl (Ls' := #[.val (.ref c), .val (.int (Int32.ofNat i)), .val (.int (Int32.ofNat j)), .val (.int (Int32.ofNat (lab.getD i 0))), .val (.int (Int32.ofNat (lab.getD j 0))), .val (.int (Int32.ofNat (min (lab.getD i 0) (lab.getD j 0)))), .unset]) rfl ?_
  refine s_iloadN K d7_17 (pc' := 18) rfl rfl ?_
  refine s_iload K d7_18 (pc' := 20) rfl rfl ?_
  refine s_static K d7_20 (pc' := 23) rfl (as := [.int (Int32.ofNat (lab.getD i 0)), .int (Int32.ofNat (lab.getD j 0))]) (c_max hw ((c, .inr (.int, own_ints lab)) :: F) _ _ (hl.2 i hi) (hl.2 j hj)) (w36 hw) (w25 hw) (w26 hw) (w27 hw) (by decide) pd_1 rfl (rest := []) rfl rfl (W := 0) (Nat.le_of_eq rfl) (by decide) (by decide) (ce' := 0) rfl (sl' := 0) rfl (by decide) (by decide) ?_
  rintro v _ ⟨rfl, rfl⟩
  show Go l Z n0 _ _ κ 0 0 ((c, .inr (.int, own_ints lab)) :: F) 23 #[.val (.ref c), .val (.int (Int32.ofNat i)), .val (.int (Int32.ofNat j)), .val (.int (Int32.ofNat (lab.getD i 0))), .val (.int (Int32.ofNat (lab.getD j 0))), .val (.int (Int32.ofNat (min (lab.getD i 0) (lab.getD j 0)))), .unset] [.int (Int32.ofNat (max (lab.getD i 0) (lab.getD j 0)))]
  refine s_istore K d7_23 (pc' := 25) rfl (Ls' := #[.val (.ref c), .val (.int (Int32.ofNat i)), .val (.int (Int32.ofNat j)), .val (.int (Int32.ofNat (lab.getD i 0))), .val (.int (Int32.ofNat (lab.getD j 0))), .val (.int (Int32.ofNat (min (lab.getD i 0) (lab.getD j 0)))), .val (.int (Int32.ofNat (max (lab.getD i 0) (lab.getD j 0))))]) rfl ?_
  exact mg0 hw F K c _ _ _ _ _ _ (own_min4 (hl.2 i hi) (hl.2 j hj)) (own_max4 (hl.2 i hi) (hl.2 j hj)) lab hl ⟨rfl, rfl⟩
theorem c_merge {l : Launch} {Z : State} {a0 : Array Value} (hw : HW Z a0) {n0 : Nat} (F : Wd) (c : Addr) (ps : List Nat) (i j : Nat) (hp : ps ∈ own_all) (hi : i < 4) (hj : j < 4) : Con l Z n0 (⟨"com/example/rising_prime/risingprime/value/ElementClassesClassOfPinLaw", "merge", "([III)V"⟩ : MethodName) method_3_code 7 none ({ frames := 1, cells := 0, slots := 0, locals := 13 } : Room) [.ref c, .int (Int32.ofNat i), .int (Int32.ofNat j)] ((c, .inr (.int, own_ints (own_lab ps))) :: F) (fun v L' => v = none ∧ L' = ((c, .inr (.int, own_ints (own_lab (own_join ps i j)))) :: F)) :=
  (c_merge0 hw F c (own_lab ps) i j (own_lab4 hp) hi hj).mono fun v L' h => by rw [own_step hp hi hj] at h; exact h
set_option maxRecDepth 65536 in
set_option maxHeartbeats 400000000 in
theorem law_end {l : Launch} {Z : State} {a0 : Array Value} (hw : HW Z a0) {n0 : Nat} (p0 p1 p2 p3 p4 : Int32) (nI : Int32) (q : Nat) (hq4 : q < 4) (hq : p4 &&& (3 : Int32) = Int32.ofNat q) (a b c : Addr) (ps : List Nat) (hp : ps ∈ own_all) (κ : Ctx) (K : Ok Z κ x.cls code maxLocals ret x.name) :
    Go l Z n0 room_1 (fun v _ => v = some (.int 1)) κ 8 40 [(b, .inr (.int, own_ints ps)), (a, oEC (.int 4) (.ref b)), (c, .inr (.int, own_ints (own_lab ps)))] 136 #[.val (.int p0), .val (.int p1), .val (.int p2), .val (.int p3), .val (.int p4), .val (.int nI), .val (.ref a), .val (.ref c), .unset, .unset, .unset, .unset, .unset, .unset] [] := by
  refine s_iload K at_136 (pc' := 138) rfl rfl ?_
  refine s_iconst K at_138 (pc' := 139) rfl (z := (3 : Int32)) rfl ?_
  refine s_iand K at_139 (pc' := 140) rfl (z := Int32.ofNat q) hq ?_
  refine s_istore K at_140 (pc' := 142) rfl (Ls' := #[.val (.int p0), .val (.int p1), .val (.int p2), .val (.int p3), .val (.int p4), .val (.int nI), .val (.ref a), .val (.ref c), .val (.int (Int32.ofNat q)), .unset, .unset, .unset, .unset, .unset]) rfl ?_
  refine s_aload K at_142 (pc' := 144) rfl rfl rfl ?_
  refine s_iload K at_144 (pc' := 146) rfl rfl ?_
  refine s_front (k := 1) rfl (L' := [(a, oEC (.int 4) (.ref b)), (b, .inr (.int, own_ints ps)), (c, .inr (.int, own_ints (own_lab ps)))]) rfl ?_
  refine s_virtual K at_146 (pc' := 149) rfl (k := 0) (a := a) rfl (as := [.int (Int32.ofNat q)]) (c_cls hw [(c, .inr (.int, own_ints (own_lab ps)))] a b ps q (own_all_inv hp) hq4) (w37 hw) (w20 hw) (w22 hw) (w21 hw) (w2 hw) (w23 hw) (by decide) pd_0 rfl (rest := []) rfl rfl (W := 0) (Nat.le_of_eq rfl) (by decide) (by decide) (ce' := 8) rfl (sl' := 40) rfl (by decide) (by decide) ?_
  rintro v _ ⟨rfl, rfl⟩
  show Go l Z n0 _ _ κ 8 40 [(a, oEC (.int 4) (.ref b)), (b, .inr (.int, own_ints (own_root 3 ps q).1)), (c, .inr (.int, own_ints (own_lab ps)))] 149 #[.val (.int p0), .val (.int p1), .val (.int p2), .val (.int p3), .val (.int p4), .val (.int nI), .val (.ref a), .val (.ref c), .val (.int (Int32.ofNat q)), .unset, .unset, .unset, .unset, .unset] [.int (Int32.ofNat ((own_root 3 ps q).2))]
  refine s_istore K at_149 (pc' := 151) rfl (Ls' := #[.val (.int p0), .val (.int p1), .val (.int p2), .val (.int p3), .val (.int p4), .val (.int nI), .val (.ref a), .val (.ref c), .val (.int (Int32.ofNat q)), .val (.int (Int32.ofNat ((own_root 3 ps q).2))), .unset, .unset, .unset, .unset]) rfl ?_
  refine s_aload K at_151 (pc' := 153) rfl rfl rfl ?_
  refine s_iconst K at_153 (pc' := 154) rfl (z := (0 : Int32)) rfl ?_
  refine s_virtual K at_154 (pc' := 157) rfl (k := 0) (a := a) rfl (as := [.int 0]) (c_cls hw [(c, .inr (.int, own_ints (own_lab ps)))] a b (own_root 3 ps q).1 0 (own_root_inv (own_all_inv hp) hq4).1 (by decide)) (w37 hw) (w20 hw) (w22 hw) (w21 hw) (w2 hw) (w23 hw) (by decide) pd_0 rfl (rest := []) rfl rfl (W := 0) (Nat.le_of_eq rfl) (by decide) (by decide) (ce' := 8) rfl (sl' := 40) rfl (by decide) (by decide) ?_
  rintro v _ ⟨rfl, rfl⟩
  show Go l Z n0 _ _ κ 8 40 [(a, oEC (.int 4) (.ref b)), (b, .inr (.int, own_ints (own_root 3 (own_root 3 ps q).1 0).1)), (c, .inr (.int, own_ints (own_lab ps)))] 157 #[.val (.int p0), .val (.int p1), .val (.int p2), .val (.int p3), .val (.int p4), .val (.int nI), .val (.ref a), .val (.ref c), .val (.int (Int32.ofNat q)), .val (.int (Int32.ofNat ((own_root 3 ps q).2))), .unset, .unset, .unset, .unset] [.int (Int32.ofNat ((own_root 3 (own_root 3 ps q).1 0).2))]
  refine s_istore K at_157 (pc' := 159) rfl (Ls' := #[.val (.int p0), .val (.int p1), .val (.int p2), .val (.int p3), .val (.int p4), .val (.int nI), .val (.ref a), .val (.ref c), .val (.int (Int32.ofNat q)), .val (.int (Int32.ofNat ((own_root 3 ps q).2))), .val (.int (Int32.ofNat ((own_root 3 (own_root 3 ps q).1 0).2))), .unset, .unset, .unset]) rfl ?_
  refine s_aload K at_159 (pc' := 161) rfl rfl rfl ?_
  refine s_iconst K at_161 (pc' := 162) rfl (z := (1 : Int32)) rfl ?_
  refine s_virtual K at_162 (pc' := 165) rfl (k := 0) (a := a) rfl (as := [.int 1]) (c_cls hw [(c, .inr (.int, own_ints (own_lab ps)))] a b (own_root 3 (own_root 3 ps q).1 0).1 1 (own_root_inv (own_root_inv (own_all_inv hp) hq4).1 (by decide)).1 (by decide)) (w37 hw) (w20 hw) (w22 hw) (w21 hw) (w2 hw) (w23 hw) (by decide) pd_0 rfl (rest := []) rfl rfl (W := 0) (Nat.le_of_eq rfl) (by decide) (by decide) (ce' := 8) rfl (sl' := 40) rfl (by decide) (by decide) ?_
  rintro v _ ⟨rfl, rfl⟩
  show Go l Z n0 _ _ κ 8 40 [(a, oEC (.int 4) (.ref b)), (b, .inr (.int, own_ints (own_root 3 (own_root 3 (own_root 3 ps q).1 0).1 1).1)), (c, .inr (.int, own_ints (own_lab ps)))] 165 #[.val (.int p0), .val (.int p1), .val (.int p2), .val (.int p3), .val (.int p4), .val (.int nI), .val (.ref a), .val (.ref c), .val (.int (Int32.ofNat q)), .val (.int (Int32.ofNat ((own_root 3 ps q).2))), .val (.int (Int32.ofNat ((own_root 3 (own_root 3 ps q).1 0).2))), .unset, .unset, .unset] [.int (Int32.ofNat ((own_root 3 (own_root 3 (own_root 3 ps q).1 0).1 1).2))]
  refine s_istore K at_165 (pc' := 167) rfl (Ls' := #[.val (.int p0), .val (.int p1), .val (.int p2), .val (.int p3), .val (.int p4), .val (.int nI), .val (.ref a), .val (.ref c), .val (.int (Int32.ofNat q)), .val (.int (Int32.ofNat ((own_root 3 ps q).2))), .val (.int (Int32.ofNat ((own_root 3 (own_root 3 ps q).1 0).2))), .val (.int (Int32.ofNat ((own_root 3 (own_root 3 (own_root 3 ps q).1 0).1 1).2))), .unset, .unset]) rfl ?_
  refine s_aload K at_167 (pc' := 169) rfl rfl rfl ?_
  refine s_iconst K at_169 (pc' := 170) rfl (z := (2 : Int32)) rfl ?_
  refine s_virtual K at_170 (pc' := 173) rfl (k := 0) (a := a) rfl (as := [.int 2]) (c_cls hw [(c, .inr (.int, own_ints (own_lab ps)))] a b (own_root 3 (own_root 3 (own_root 3 ps q).1 0).1 1).1 2 (own_root_inv (own_root_inv (own_root_inv (own_all_inv hp) hq4).1 (by decide)).1 (by decide)).1 (by decide)) (w37 hw) (w20 hw) (w22 hw) (w21 hw) (w2 hw) (w23 hw) (by decide) pd_0 rfl (rest := []) rfl rfl (W := 0) (Nat.le_of_eq rfl) (by decide) (by decide) (ce' := 8) rfl (sl' := 40) rfl (by decide) (by decide) ?_
  rintro v _ ⟨rfl, rfl⟩
  show Go l Z n0 _ _ κ 8 40 [(a, oEC (.int 4) (.ref b)), (b, .inr (.int, own_ints (own_root 3 (own_root 3 (own_root 3 (own_root 3 ps q).1 0).1 1).1 2).1)), (c, .inr (.int, own_ints (own_lab ps)))] 173 #[.val (.int p0), .val (.int p1), .val (.int p2), .val (.int p3), .val (.int p4), .val (.int nI), .val (.ref a), .val (.ref c), .val (.int (Int32.ofNat q)), .val (.int (Int32.ofNat ((own_root 3 ps q).2))), .val (.int (Int32.ofNat ((own_root 3 (own_root 3 ps q).1 0).2))), .val (.int (Int32.ofNat ((own_root 3 (own_root 3 (own_root 3 ps q).1 0).1 1).2))), .unset, .unset] [.int (Int32.ofNat ((own_root 3 (own_root 3 (own_root 3 (own_root 3 ps q).1 0).1 1).1 2).2))]
  refine s_istore K at_173 (pc' := 175) rfl (Ls' := #[.val (.int p0), .val (.int p1), .val (.int p2), .val (.int p3), .val (.int p4), .val (.int nI), .val (.ref a), .val (.ref c), .val (.int (Int32.ofNat q)), .val (.int (Int32.ofNat ((own_root 3 ps q).2))), .val (.int (Int32.ofNat ((own_root 3 (own_root 3 ps q).1 0).2))), .val (.int (Int32.ofNat ((own_root 3 (own_root 3 (own_root 3 ps q).1 0).1 1).2))), .val (.int (Int32.ofNat ((own_root 3 (own_root 3 (own_root 3 (own_root 3 ps q).1 0).1 1).1 2).2))), .unset]) rfl ?_
  refine s_aload K at_175 (pc' := 177) rfl rfl rfl ?_
  refine s_iconst K at_177 (pc' := 178) rfl (z := (3 : Int32)) rfl ?_
  refine s_virtual K at_178 (pc' := 181) rfl (k := 0) (a := a) rfl (as := [.int 3]) (c_cls hw [(c, .inr (.int, own_ints (own_lab ps)))] a b (own_root 3 (own_root 3 (own_root 3 (own_root 3 ps q).1 0).1 1).1 2).1 3 (own_root_inv (own_root_inv (own_root_inv (own_root_inv (own_all_inv hp) hq4).1 (by decide)).1 (by decide)).1 (by decide)).1 (by decide)) (w37 hw) (w20 hw) (w22 hw) (w21 hw) (w2 hw) (w23 hw) (by decide) pd_0 rfl (rest := []) rfl rfl (W := 0) (Nat.le_of_eq rfl) (by decide) (by decide) (ce' := 8) rfl (sl' := 40) rfl (by decide) (by decide) ?_
  rintro v _ ⟨rfl, rfl⟩
  show Go l Z n0 _ _ κ 8 40 [(a, oEC (.int 4) (.ref b)), (b, .inr (.int, own_ints (own_root 3 (own_root 3 (own_root 3 (own_root 3 (own_root 3 ps q).1 0).1 1).1 2).1 3).1)), (c, .inr (.int, own_ints (own_lab ps)))] 181 #[.val (.int p0), .val (.int p1), .val (.int p2), .val (.int p3), .val (.int p4), .val (.int nI), .val (.ref a), .val (.ref c), .val (.int (Int32.ofNat q)), .val (.int (Int32.ofNat ((own_root 3 ps q).2))), .val (.int (Int32.ofNat ((own_root 3 (own_root 3 ps q).1 0).2))), .val (.int (Int32.ofNat ((own_root 3 (own_root 3 (own_root 3 ps q).1 0).1 1).2))), .val (.int (Int32.ofNat ((own_root 3 (own_root 3 (own_root 3 (own_root 3 ps q).1 0).1 1).1 2).2))), .unset] [.int (Int32.ofNat ((own_root 3 (own_root 3 (own_root 3 (own_root 3 (own_root 3 ps q).1 0).1 1).1 2).1 3).2))]
  refine s_istore K at_181 (pc' := 183) rfl (Ls' := #[.val (.int p0), .val (.int p1), .val (.int p2), .val (.int p3), .val (.int p4), .val (.int nI), .val (.ref a), .val (.ref c), .val (.int (Int32.ofNat q)), .val (.int (Int32.ofNat ((own_root 3 ps q).2))), .val (.int (Int32.ofNat ((own_root 3 (own_root 3 ps q).1 0).2))), .val (.int (Int32.ofNat ((own_root 3 (own_root 3 (own_root 3 ps q).1 0).1 1).2))), .val (.int (Int32.ofNat ((own_root 3 (own_root 3 (own_root 3 (own_root 3 ps q).1 0).1 1).1 2).2))), .val (.int (Int32.ofNat ((own_root 3 (own_root 3 (own_root 3 (own_root 3 (own_root 3 ps q).1 0).1 1).1 2).1 3).2)))]) rfl ?_
  refine s_iload K at_183 (pc' := 185) rfl rfl ?_
  refine s_aload K at_185 (pc' := 187) rfl rfl rfl ?_
  refine s_iload K at_187 (pc' := 189) rfl rfl ?_
  refine s_iaload K at_189 (pc' := 190) rfl (k := 2) rfl (i := q) (Ix.ofNat (by omega)) (own_get (by rw [(own_lab4 hp).1]; exact hq4)) ?_
  refine s_icN K at_190 (pc' := 193) rfl (teq (congrArg Int32.ofNat (own_e0 hp hq4))).2 ?_
  refine s_iload K at_193 (pc' := 195) rfl rfl ?_
  refine s_aload K at_195 (pc' := 197) rfl rfl rfl ?_
  refine s_iconst K at_197 (pc' := 198) rfl (z := (0 : Int32)) rfl ?_
  refine s_iaload K at_198 (pc' := 199) rfl (k := 2) rfl (i := 0) (by decide) (own_get (by rw [(own_lab4 hp).1]; decide)) ?_
  refine s_icN K at_199 (pc' := 202) rfl (teq (congrArg Int32.ofNat (own_e1 hp hq4))).2 ?_
  refine s_iload K at_202 (pc' := 204) rfl rfl ?_
  refine s_aload K at_204 (pc' := 206) rfl rfl rfl ?_
  refine s_iconst K at_206 (pc' := 207) rfl (z := (1 : Int32)) rfl ?_
  refine s_iaload K at_207 (pc' := 208) rfl (k := 2) rfl (i := 1) (by decide) (own_get (by rw [(own_lab4 hp).1]; decide)) ?_
  refine s_icN K at_208 (pc' := 211) rfl (teq (congrArg Int32.ofNat (own_e2 hp hq4))).2 ?_
  refine s_iload K at_211 (pc' := 213) rfl rfl ?_
  refine s_aload K at_213 (pc' := 215) rfl rfl rfl ?_
  refine s_iconst K at_215 (pc' := 216) rfl (z := (2 : Int32)) rfl ?_
  refine s_iaload K at_216 (pc' := 217) rfl (k := 2) rfl (i := 2) (by decide) (own_get (by rw [(own_lab4 hp).1]; decide)) ?_
  refine s_icN K at_217 (pc' := 220) rfl (teq (congrArg Int32.ofNat (own_e3 hp hq4))).2 ?_
  refine s_iload K at_220 (pc' := 222) rfl rfl ?_
  refine s_aload K at_222 (pc' := 224) rfl rfl rfl ?_
  refine s_iconst K at_224 (pc' := 225) rfl (z := (3 : Int32)) rfl ?_
  refine s_iaload K at_225 (pc' := 226) rfl (k := 2) rfl (i := 3) (by decide) (own_get (by rw [(own_lab4 hp).1]; decide)) ?_
  refine s_icN K at_226 (pc' := 229) rfl (teq (congrArg Int32.ofNat (own_e4 hp hq4))).2 ?_
  refine s_iconst K at_229 (pc' := 230) rfl (z := (1 : Int32)) rfl ?_
  refine s_goto K at_230 (by decide) (pc' := 234) (by decide) ?_
  exact s_zreturn K at_234 rfl (by decide) (by decide) rfl
set_option maxRecDepth 65536 in
set_option maxHeartbeats 400000000 in
theorem go_law {l : Launch} {Z : State} {a0 : Array Value} (hw : HW Z a0) {n0 : Nat} (p0 : Int32) (p1 : Int32) (p2 : Int32) (p3 : Int32) (p4 : Int32) (κ : Ctx) (K : Ok Z κ x.cls code maxLocals ret x.name) :
    Go l Z n0 room_1 (fun v _ => v = some (.int 1)) κ 0 0 [] 0 #[.val (.int p0), .val (.int p1), .val (.int p2), .val (.int p3), .val (.int p4), .unset, .unset, .unset, .unset, .unset, .unset, .unset, .unset, .unset] [] := by
  obtain ⟨q, hq4, hq⟩ := own_mask3 p4
  obtain ⟨i1, hi1, ei1⟩ := own_mask3 p0
  obtain ⟨j1, hj1, ej1⟩ := own_mask3 (XT.ushr p0 2)
  obtain ⟨i2, hi2, ei2⟩ := own_mask3 p1
  obtain ⟨j2, hj2, ej2⟩ := own_mask3 (XT.ushr p1 2)
  obtain ⟨i3, hi3, ei3⟩ := own_mask3 p2
  obtain ⟨j3, hj3, ej3⟩ := own_mask3 (XT.ushr p2 2)
  rcases own_mask4 p3 with hn | hn | hn | hn
  · refine s_iloadN K at_0 (pc' := 1) rfl rfl ?_
    refine s_iconst K at_1 (pc' := 2) rfl (z := (3 : Int32)) rfl ?_
    refine s_iand K at_2 (pc' := 3) rfl (z := (0 : Int32)) hn ?_
    refine s_istore K at_3 (pc' := 5) rfl (Ls' := #[.val (.int p0), .val (.int p1), .val (.int p2), .val (.int p3), .val (.int p4), .val (.int 0), .unset, .unset, .unset, .unset, .unset, .unset, .unset, .unset]) rfl ?_
    refine s_new K at_5 (pc' := 8) rfl (w0 hw) (w1 hw) (w2 hw) (ly_oEC hw) nd_oEC (gs := [("com/example/rising_prime/risingprime/value/ElementClasses", "size", "I", .int 0), ("com/example/rising_prime/risingprime/value/ElementClasses", "parents", "[I", .null)]) rfl (ce' := 1) rfl (sl' := 2) rfl (by decide) (by decide) ?_
    intro b1
    refine s_dup K at_8 (pc' := 9) rfl rfl ?_
    refine s_iconst K at_9 (pc' := 10) rfl (z := (4 : Int32)) rfl ?_
    refine s_special K at_10 (pc' := 13) rfl rfl (a := b1) (as := [.int 4]) (c_init hw [] b1 (4 : Int32)) (w3 hw) (w4 hw) (w2 hw) (w5 hw) (by decide) pd_2 rfl (rest := [.ref b1]) rfl rfl (W := 1) (Nat.le_of_eq rfl) (by decide) (by decide) (ce' := 1) rfl (sl' := 2) rfl (by decide) (by decide) ?_
    rintro v _ ⟨rfl, rfl⟩
    show Go l Z n0 _ _ κ 1 2 [(b1, oEC (.int 4) .null)] 13 #[.val (.int p0), .val (.int p1), .val (.int p2), .val (.int p3), .val (.int p4), .val (.int 0), .unset, .unset, .unset, .unset, .unset, .unset, .unset, .unset] [.ref b1]
    refine s_astore K at_13 (pc' := 15) rfl rfl (Ls' := #[.val (.int p0), .val (.int p1), .val (.int p2), .val (.int p3), .val (.int p4), .val (.int 0), .val (.ref b1), .unset, .unset, .unset, .unset, .unset, .unset, .unset]) rfl ?_
    refine s_iconst K at_15 (pc' := 16) rfl (z := (4 : Int32)) rfl ?_
    refine s_newarr K at_16 (pc' := 18) rfl rfl (w11 hw) (n := 4) (by decide) (cap := 4) (by decide) (by decide) (vs0 := [.int 0, .int 0, .int 0, .int 0]) rfl (ce' := 2) rfl (sl' := 6) rfl (by decide) (by decide) ?_
    intro b2
    refine s_astore K at_18 (pc' := 20) rfl rfl (Ls' := #[.val (.int p0), .val (.int p1), .val (.int p2), .val (.int p3), .val (.int p4), .val (.int 0), .val (.ref b1), .val (.ref b2), .unset, .unset, .unset, .unset, .unset, .unset]) rfl ?_
    refine s_aload K at_20 (pc' := 22) rfl rfl rfl ?_
    refine s_iconst K at_22 (pc' := 23) rfl (z := (0 : Int32)) rfl ?_
    refine s_iconst K at_23 (pc' := 24) rfl (z := (0 : Int32)) rfl ?_
    refine s_iastore K at_24 (pc' := 25) rfl (k := 0) rfl (i := 0) (by decide) (ltB rfl) (L' := [(b2, .inr (.int, [.int 0, .int 0, .int 0, .int 0])), (b1, oEC (.int 4) .null)]) rfl ?_
    refine s_aload K at_25 (pc' := 27) rfl rfl rfl ?_
    refine s_iconst K at_27 (pc' := 28) rfl (z := (1 : Int32)) rfl ?_
    refine s_iconst K at_28 (pc' := 29) rfl (z := (1 : Int32)) rfl ?_
    refine s_iastore K at_29 (pc' := 30) rfl (k := 0) rfl (i := 1) (by decide) (ltB rfl) (L' := [(b2, .inr (.int, [.int 0, .int 1, .int 0, .int 0])), (b1, oEC (.int 4) .null)]) rfl ?_
    refine s_aload K at_30 (pc' := 32) rfl rfl rfl ?_
    refine s_iconst K at_32 (pc' := 33) rfl (z := (2 : Int32)) rfl ?_
    refine s_iconst K at_33 (pc' := 34) rfl (z := (2 : Int32)) rfl ?_
    refine s_iastore K at_34 (pc' := 35) rfl (k := 0) rfl (i := 2) (by decide) (ltB rfl) (L' := [(b2, .inr (.int, [.int 0, .int 1, .int 2, .int 0])), (b1, oEC (.int 4) .null)]) rfl ?_
    refine s_aload K at_35 (pc' := 37) rfl rfl rfl ?_
    refine s_iconst K at_37 (pc' := 38) rfl (z := (3 : Int32)) rfl ?_
    refine s_iconst K at_38 (pc' := 39) rfl (z := (3 : Int32)) rfl ?_
    refine s_iastore K at_39 (pc' := 40) rfl (k := 0) rfl (i := 3) (by decide) (ltB rfl) (L' := [(b2, .inr (.int, [.int 0, .int 1, .int 2, .int 3])), (b1, oEC (.int 4) .null)]) rfl ?_
    show Go l Z n0 _ _ κ 2 6 [(b2, .inr (.int, own_ints (own_lab [0, 1, 2, 3]))), (b1, oEC (.int 4) .null)] 40 #[.val (.int p0), .val (.int p1), .val (.int p2), .val (.int p3), .val (.int p4), .val (.int 0), .val (.ref b1), .val (.ref b2), .unset, .unset, .unset, .unset, .unset, .unset] []
    refine s_iload K at_40 (pc' := 42) rfl rfl ?_
    refine s_iconst K at_42 (pc' := 43) rfl (z := (1 : Int32)) rfl ?_
    refine s_icY K at_43 rfl (by decide) (pc' := 72) (by decide) ?_
    refine s_iload K at_72 (pc' := 74) rfl rfl ?_
    refine s_iconst K at_74 (pc' := 75) rfl (z := (2 : Int32)) rfl ?_
    refine s_icY K at_75 rfl (by decide) (pc' := 104) (by decide) ?_
    refine s_iload K at_104 (pc' := 106) rfl rfl ?_
    refine s_iconst K at_106 (pc' := 107) rfl (z := (3 : Int32)) rfl ?_
    refine s_icY K at_107 rfl (by decide) (pc' := 136) (by decide) ?_
    refine s_iload K at_136 (pc' := 138) rfl rfl ?_
    refine s_iconst K at_138 (pc' := 139) rfl (z := (3 : Int32)) rfl ?_
    refine s_iand K at_139 (pc' := 140) rfl (z := Int32.ofNat q) hq ?_
    refine s_istore K at_140 (pc' := 142) rfl (Ls' := #[.val (.int p0), .val (.int p1), .val (.int p2), .val (.int p3), .val (.int p4), .val (.int 0), .val (.ref b1), .val (.ref b2), .val (.int (Int32.ofNat q)), .unset, .unset, .unset, .unset, .unset]) rfl ?_
    refine s_aload K at_142 (pc' := 144) rfl rfl rfl ?_
    refine s_iload K at_144 (pc' := 146) rfl rfl ?_
    refine s_front (k := 1) rfl (L' := [(b1, oEC (.int 4) .null), (b2, .inr (.int, own_ints (own_lab [0, 1, 2, 3])))]) rfl ?_
    refine s_virtual K at_146 (pc' := 149) rfl (k := 0) (a := b1) rfl (as := [.int (Int32.ofNat q)]) (c_cls0 hw [(b2, .inr (.int, own_ints (own_lab [0, 1, 2, 3])))] b1 (Int32.ofNat q)) (w37 hw) (w20 hw) (w22 hw) (w21 hw) (w2 hw) (w23 hw) (by decide) pd_0 rfl (rest := []) rfl rfl (W := 0) (Nat.le_of_eq rfl) (by decide) (by decide) (ce' := 2) rfl (sl' := 6) rfl (by decide) (by decide) ?_
    rintro v _ ⟨rfl, rfl⟩
    show Go l Z n0 _ _ κ 2 6 [(b1, oEC (.int 4) .null), (b2, .inr (.int, own_ints (own_lab [0, 1, 2, 3])))] 149 #[.val (.int p0), .val (.int p1), .val (.int p2), .val (.int p3), .val (.int p4), .val (.int 0), .val (.ref b1), .val (.ref b2), .val (.int (Int32.ofNat q)), .unset, .unset, .unset, .unset, .unset] [.int (Int32.ofNat q)]
    refine s_istore K at_149 (pc' := 151) rfl (Ls' := #[.val (.int p0), .val (.int p1), .val (.int p2), .val (.int p3), .val (.int p4), .val (.int 0), .val (.ref b1), .val (.ref b2), .val (.int (Int32.ofNat q)), .val (.int (Int32.ofNat q)), .unset, .unset, .unset, .unset]) rfl ?_
    refine s_aload K at_151 (pc' := 153) rfl rfl rfl ?_
    refine s_iconst K at_153 (pc' := 154) rfl (z := (0 : Int32)) rfl ?_
    refine s_virtual K at_154 (pc' := 157) rfl (k := 0) (a := b1) rfl (as := [.int 0]) (c_cls0 hw [(b2, .inr (.int, own_ints (own_lab [0, 1, 2, 3])))] b1 (0 : Int32)) (w37 hw) (w20 hw) (w22 hw) (w21 hw) (w2 hw) (w23 hw) (by decide) pd_0 rfl (rest := []) rfl rfl (W := 0) (Nat.le_of_eq rfl) (by decide) (by decide) (ce' := 2) rfl (sl' := 6) rfl (by decide) (by decide) ?_
    rintro v _ ⟨rfl, rfl⟩
    show Go l Z n0 _ _ κ 2 6 [(b1, oEC (.int 4) .null), (b2, .inr (.int, own_ints (own_lab [0, 1, 2, 3])))] 157 #[.val (.int p0), .val (.int p1), .val (.int p2), .val (.int p3), .val (.int p4), .val (.int 0), .val (.ref b1), .val (.ref b2), .val (.int (Int32.ofNat q)), .val (.int (Int32.ofNat q)), .unset, .unset, .unset, .unset] [.int 0]
    refine s_istore K at_157 (pc' := 159) rfl (Ls' := #[.val (.int p0), .val (.int p1), .val (.int p2), .val (.int p3), .val (.int p4), .val (.int 0), .val (.ref b1), .val (.ref b2), .val (.int (Int32.ofNat q)), .val (.int (Int32.ofNat q)), .val (.int 0), .unset, .unset, .unset]) rfl ?_
    refine s_aload K at_159 (pc' := 161) rfl rfl rfl ?_
    refine s_iconst K at_161 (pc' := 162) rfl (z := (1 : Int32)) rfl ?_
    refine s_virtual K at_162 (pc' := 165) rfl (k := 0) (a := b1) rfl (as := [.int 1]) (c_cls0 hw [(b2, .inr (.int, own_ints (own_lab [0, 1, 2, 3])))] b1 (1 : Int32)) (w37 hw) (w20 hw) (w22 hw) (w21 hw) (w2 hw) (w23 hw) (by decide) pd_0 rfl (rest := []) rfl rfl (W := 0) (Nat.le_of_eq rfl) (by decide) (by decide) (ce' := 2) rfl (sl' := 6) rfl (by decide) (by decide) ?_
    rintro v _ ⟨rfl, rfl⟩
    show Go l Z n0 _ _ κ 2 6 [(b1, oEC (.int 4) .null), (b2, .inr (.int, own_ints (own_lab [0, 1, 2, 3])))] 165 #[.val (.int p0), .val (.int p1), .val (.int p2), .val (.int p3), .val (.int p4), .val (.int 0), .val (.ref b1), .val (.ref b2), .val (.int (Int32.ofNat q)), .val (.int (Int32.ofNat q)), .val (.int 0), .unset, .unset, .unset] [.int 1]
    refine s_istore K at_165 (pc' := 167) rfl (Ls' := #[.val (.int p0), .val (.int p1), .val (.int p2), .val (.int p3), .val (.int p4), .val (.int 0), .val (.ref b1), .val (.ref b2), .val (.int (Int32.ofNat q)), .val (.int (Int32.ofNat q)), .val (.int 0), .val (.int 1), .unset, .unset]) rfl ?_
    refine s_aload K at_167 (pc' := 169) rfl rfl rfl ?_
    refine s_iconst K at_169 (pc' := 170) rfl (z := (2 : Int32)) rfl ?_
    refine s_virtual K at_170 (pc' := 173) rfl (k := 0) (a := b1) rfl (as := [.int 2]) (c_cls0 hw [(b2, .inr (.int, own_ints (own_lab [0, 1, 2, 3])))] b1 (2 : Int32)) (w37 hw) (w20 hw) (w22 hw) (w21 hw) (w2 hw) (w23 hw) (by decide) pd_0 rfl (rest := []) rfl rfl (W := 0) (Nat.le_of_eq rfl) (by decide) (by decide) (ce' := 2) rfl (sl' := 6) rfl (by decide) (by decide) ?_
    rintro v _ ⟨rfl, rfl⟩
    show Go l Z n0 _ _ κ 2 6 [(b1, oEC (.int 4) .null), (b2, .inr (.int, own_ints (own_lab [0, 1, 2, 3])))] 173 #[.val (.int p0), .val (.int p1), .val (.int p2), .val (.int p3), .val (.int p4), .val (.int 0), .val (.ref b1), .val (.ref b2), .val (.int (Int32.ofNat q)), .val (.int (Int32.ofNat q)), .val (.int 0), .val (.int 1), .unset, .unset] [.int 2]
    refine s_istore K at_173 (pc' := 175) rfl (Ls' := #[.val (.int p0), .val (.int p1), .val (.int p2), .val (.int p3), .val (.int p4), .val (.int 0), .val (.ref b1), .val (.ref b2), .val (.int (Int32.ofNat q)), .val (.int (Int32.ofNat q)), .val (.int 0), .val (.int 1), .val (.int 2), .unset]) rfl ?_
    refine s_aload K at_175 (pc' := 177) rfl rfl rfl ?_
    refine s_iconst K at_177 (pc' := 178) rfl (z := (3 : Int32)) rfl ?_
    refine s_virtual K at_178 (pc' := 181) rfl (k := 0) (a := b1) rfl (as := [.int 3]) (c_cls0 hw [(b2, .inr (.int, own_ints (own_lab [0, 1, 2, 3])))] b1 (3 : Int32)) (w37 hw) (w20 hw) (w22 hw) (w21 hw) (w2 hw) (w23 hw) (by decide) pd_0 rfl (rest := []) rfl rfl (W := 0) (Nat.le_of_eq rfl) (by decide) (by decide) (ce' := 2) rfl (sl' := 6) rfl (by decide) (by decide) ?_
    rintro v _ ⟨rfl, rfl⟩
    show Go l Z n0 _ _ κ 2 6 [(b1, oEC (.int 4) .null), (b2, .inr (.int, own_ints (own_lab [0, 1, 2, 3])))] 181 #[.val (.int p0), .val (.int p1), .val (.int p2), .val (.int p3), .val (.int p4), .val (.int 0), .val (.ref b1), .val (.ref b2), .val (.int (Int32.ofNat q)), .val (.int (Int32.ofNat q)), .val (.int 0), .val (.int 1), .val (.int 2), .unset] [.int 3]
    refine s_istore K at_181 (pc' := 183) rfl (Ls' := #[.val (.int p0), .val (.int p1), .val (.int p2), .val (.int p3), .val (.int p4), .val (.int 0), .val (.ref b1), .val (.ref b2), .val (.int (Int32.ofNat q)), .val (.int (Int32.ofNat q)), .val (.int 0), .val (.int 1), .val (.int 2), .val (.int 3)]) rfl ?_
    refine s_iload K at_183 (pc' := 185) rfl rfl ?_
    refine s_aload K at_185 (pc' := 187) rfl rfl rfl ?_
    refine s_iload K at_187 (pc' := 189) rfl rfl ?_
    refine s_iaload K at_189 (pc' := 190) rfl (k := 1) rfl (i := q) (Ix.ofNat (by omega)) (own_get (by rw [(own_lab4 own_all0).1]; exact hq4)) ?_
    refine s_icN K at_190 (pc' := 193) rfl (teq (congrArg Int32.ofNat (own_n0 hq4))).2 ?_
    refine s_iload K at_193 (pc' := 195) rfl rfl ?_
    refine s_aload K at_195 (pc' := 197) rfl rfl rfl ?_
    refine s_iconst K at_197 (pc' := 198) rfl (z := (0 : Int32)) rfl ?_
    refine s_iaload K at_198 (pc' := 199) rfl (k := 1) rfl (i := 0) (by decide) (own_get (by rw [(own_lab4 own_all0).1]; decide)) ?_
    refine s_icN K at_199 (pc' := 202) rfl (teq (congrArg Int32.ofNat (own_n1 hq4))).2 ?_
    refine s_iload K at_202 (pc' := 204) rfl rfl ?_
    refine s_aload K at_204 (pc' := 206) rfl rfl rfl ?_
    refine s_iconst K at_206 (pc' := 207) rfl (z := (1 : Int32)) rfl ?_
    refine s_iaload K at_207 (pc' := 208) rfl (k := 1) rfl (i := 1) (by decide) (own_get (by rw [(own_lab4 own_all0).1]; decide)) ?_
    refine s_icN K at_208 (pc' := 211) rfl (teq (congrArg Int32.ofNat (own_n2 hq4))).2 ?_
    refine s_iload K at_211 (pc' := 213) rfl rfl ?_
    refine s_aload K at_213 (pc' := 215) rfl rfl rfl ?_
    refine s_iconst K at_215 (pc' := 216) rfl (z := (2 : Int32)) rfl ?_
    refine s_iaload K at_216 (pc' := 217) rfl (k := 1) rfl (i := 2) (by decide) (own_get (by rw [(own_lab4 own_all0).1]; decide)) ?_
    refine s_icN K at_217 (pc' := 220) rfl (teq (congrArg Int32.ofNat (own_n3 hq4))).2 ?_
    refine s_iload K at_220 (pc' := 222) rfl rfl ?_
    refine s_aload K at_222 (pc' := 224) rfl rfl rfl ?_
    refine s_iconst K at_224 (pc' := 225) rfl (z := (3 : Int32)) rfl ?_
    refine s_iaload K at_225 (pc' := 226) rfl (k := 1) rfl (i := 3) (by decide) (own_get (by rw [(own_lab4 own_all0).1]; decide)) ?_
    refine s_icN K at_226 (pc' := 229) rfl (teq (congrArg Int32.ofNat (own_n4 hq4))).2 ?_
    refine s_iconst K at_229 (pc' := 230) rfl (z := (1 : Int32)) rfl ?_
    refine s_goto K at_230 (by decide) (pc' := 234) (by decide) ?_
    exact s_zreturn K at_234 rfl (by decide) (by decide) rfl
  · refine s_iloadN K at_0 (pc' := 1) rfl rfl ?_
    refine s_iconst K at_1 (pc' := 2) rfl (z := (3 : Int32)) rfl ?_
    refine s_iand K at_2 (pc' := 3) rfl (z := (1 : Int32)) hn ?_
    refine s_istore K at_3 (pc' := 5) rfl (Ls' := #[.val (.int p0), .val (.int p1), .val (.int p2), .val (.int p3), .val (.int p4), .val (.int 1), .unset, .unset, .unset, .unset, .unset, .unset, .unset, .unset]) rfl ?_
    refine s_new K at_5 (pc' := 8) rfl (w0 hw) (w1 hw) (w2 hw) (ly_oEC hw) nd_oEC (gs := [("com/example/rising_prime/risingprime/value/ElementClasses", "size", "I", .int 0), ("com/example/rising_prime/risingprime/value/ElementClasses", "parents", "[I", .null)]) rfl (ce' := 1) rfl (sl' := 2) rfl (by decide) (by decide) ?_
    intro b1
    refine s_dup K at_8 (pc' := 9) rfl rfl ?_
    refine s_iconst K at_9 (pc' := 10) rfl (z := (4 : Int32)) rfl ?_
    refine s_special K at_10 (pc' := 13) rfl rfl (a := b1) (as := [.int 4]) (c_init hw [] b1 (4 : Int32)) (w3 hw) (w4 hw) (w2 hw) (w5 hw) (by decide) pd_2 rfl (rest := [.ref b1]) rfl rfl (W := 1) (Nat.le_of_eq rfl) (by decide) (by decide) (ce' := 1) rfl (sl' := 2) rfl (by decide) (by decide) ?_
    rintro v _ ⟨rfl, rfl⟩
    show Go l Z n0 _ _ κ 1 2 [(b1, oEC (.int 4) .null)] 13 #[.val (.int p0), .val (.int p1), .val (.int p2), .val (.int p3), .val (.int p4), .val (.int 1), .unset, .unset, .unset, .unset, .unset, .unset, .unset, .unset] [.ref b1]
    refine s_astore K at_13 (pc' := 15) rfl rfl (Ls' := #[.val (.int p0), .val (.int p1), .val (.int p2), .val (.int p3), .val (.int p4), .val (.int 1), .val (.ref b1), .unset, .unset, .unset, .unset, .unset, .unset, .unset]) rfl ?_
    refine s_iconst K at_15 (pc' := 16) rfl (z := (4 : Int32)) rfl ?_
    refine s_newarr K at_16 (pc' := 18) rfl rfl (w11 hw) (n := 4) (by decide) (cap := 4) (by decide) (by decide) (vs0 := [.int 0, .int 0, .int 0, .int 0]) rfl (ce' := 2) rfl (sl' := 6) rfl (by decide) (by decide) ?_
    intro b2
    refine s_astore K at_18 (pc' := 20) rfl rfl (Ls' := #[.val (.int p0), .val (.int p1), .val (.int p2), .val (.int p3), .val (.int p4), .val (.int 1), .val (.ref b1), .val (.ref b2), .unset, .unset, .unset, .unset, .unset, .unset]) rfl ?_
    refine s_aload K at_20 (pc' := 22) rfl rfl rfl ?_
    refine s_iconst K at_22 (pc' := 23) rfl (z := (0 : Int32)) rfl ?_
    refine s_iconst K at_23 (pc' := 24) rfl (z := (0 : Int32)) rfl ?_
    refine s_iastore K at_24 (pc' := 25) rfl (k := 0) rfl (i := 0) (by decide) (ltB rfl) (L' := [(b2, .inr (.int, [.int 0, .int 0, .int 0, .int 0])), (b1, oEC (.int 4) .null)]) rfl ?_
    refine s_aload K at_25 (pc' := 27) rfl rfl rfl ?_
    refine s_iconst K at_27 (pc' := 28) rfl (z := (1 : Int32)) rfl ?_
    refine s_iconst K at_28 (pc' := 29) rfl (z := (1 : Int32)) rfl ?_
    refine s_iastore K at_29 (pc' := 30) rfl (k := 0) rfl (i := 1) (by decide) (ltB rfl) (L' := [(b2, .inr (.int, [.int 0, .int 1, .int 0, .int 0])), (b1, oEC (.int 4) .null)]) rfl ?_
    refine s_aload K at_30 (pc' := 32) rfl rfl rfl ?_
    refine s_iconst K at_32 (pc' := 33) rfl (z := (2 : Int32)) rfl ?_
    refine s_iconst K at_33 (pc' := 34) rfl (z := (2 : Int32)) rfl ?_
    refine s_iastore K at_34 (pc' := 35) rfl (k := 0) rfl (i := 2) (by decide) (ltB rfl) (L' := [(b2, .inr (.int, [.int 0, .int 1, .int 2, .int 0])), (b1, oEC (.int 4) .null)]) rfl ?_
    refine s_aload K at_35 (pc' := 37) rfl rfl rfl ?_
    refine s_iconst K at_37 (pc' := 38) rfl (z := (3 : Int32)) rfl ?_
    refine s_iconst K at_38 (pc' := 39) rfl (z := (3 : Int32)) rfl ?_
    refine s_iastore K at_39 (pc' := 40) rfl (k := 0) rfl (i := 3) (by decide) (ltB rfl) (L' := [(b2, .inr (.int, [.int 0, .int 1, .int 2, .int 3])), (b1, oEC (.int 4) .null)]) rfl ?_
    show Go l Z n0 _ _ κ 2 6 [(b2, .inr (.int, own_ints (own_lab [0, 1, 2, 3]))), (b1, oEC (.int 4) .null)] 40 #[.val (.int p0), .val (.int p1), .val (.int p2), .val (.int p3), .val (.int p4), .val (.int 1), .val (.ref b1), .val (.ref b2), .unset, .unset, .unset, .unset, .unset, .unset] []
    refine s_iload K at_40 (pc' := 42) rfl rfl ?_
    refine s_iconst K at_42 (pc' := 43) rfl (z := (1 : Int32)) rfl ?_
    refine s_icN K at_43 (pc' := 46) rfl rfl ?_
    refine s_aload K at_46 (pc' := 48) rfl rfl rfl ?_
    refine s_iloadN K at_48 (pc' := 49) rfl rfl ?_
    refine s_iconst K at_49 (pc' := 50) rfl (z := (3 : Int32)) rfl ?_
    refine s_iand K at_50 (pc' := 51) rfl (z := Int32.ofNat i1) ei1 ?_
    refine s_iloadN K at_51 (pc' := 52) rfl rfl ?_
    refine s_iconst K at_52 (pc' := 53) rfl (z := (2 : Int32)) rfl ?_
    refine s_iushr K at_53 (pc' := 54) rfl (z := XT.ushr p0 (2 : Int32)) rfl ?_
    refine s_iconst K at_54 (pc' := 55) rfl (z := (3 : Int32)) rfl ?_
    refine s_iand K at_55 (pc' := 56) rfl (z := Int32.ofNat j1) ej1 ?_
    refine s_front (k := 1) rfl (L' := [(b1, oEC (.int 4) .null), (b2, .inr (.int, own_ints (own_lab [0, 1, 2, 3])))]) rfl ?_
    refine s_virtual K at_56 (pc' := 59) rfl (k := 0) (a := b1) rfl (as := [.int (Int32.ofNat i1), .int (Int32.ofNat j1)]) (c_join0 hw [(b2, .inr (.int, own_ints (own_lab [0, 1, 2, 3])))] b1 i1 j1 hi1 hj1) (w12 hw) (w13 hw) (w15 hw) (w14 hw) (w2 hw) (w16 hw) (by decide) pd_3 rfl (rest := []) rfl rfl (W := 0) (Nat.le_of_eq rfl) (by decide) (by decide) (ce' := 3) rfl (sl' := 10) rfl (by decide) (by decide) ?_
    rintro v _ ⟨rfl, b9, rfl⟩
    show Go l Z n0 _ _ κ 3 10 [(b1, oEC (.int 4) (.ref b9)), (b9, .inr (.int, own_ints (own_join [0, 1, 2, 3] i1 j1))), (b2, .inr (.int, own_ints (own_lab [0, 1, 2, 3])))] 59 #[.val (.int p0), .val (.int p1), .val (.int p2), .val (.int p3), .val (.int p4), .val (.int 1), .val (.ref b1), .val (.ref b2), .unset, .unset, .unset, .unset, .unset, .unset] []
    refine s_aload K at_59 (pc' := 61) rfl rfl rfl ?_
    refine s_iloadN K at_61 (pc' := 62) rfl rfl ?_
    refine s_iconst K at_62 (pc' := 63) rfl (z := (3 : Int32)) rfl ?_
    refine s_iand K at_63 (pc' := 64) rfl (z := Int32.ofNat i1) ei1 ?_
    refine s_iloadN K at_64 (pc' := 65) rfl rfl ?_
    refine s_iconst K at_65 (pc' := 66) rfl (z := (2 : Int32)) rfl ?_
    refine s_iushr K at_66 (pc' := 67) rfl (z := XT.ushr p0 (2 : Int32)) rfl ?_
    refine s_iconst K at_67 (pc' := 68) rfl (z := (3 : Int32)) rfl ?_
    refine s_iand K at_68 (pc' := 69) rfl (z := Int32.ofNat j1) ej1 ?_
    refine s_front (k := 2) rfl (L' := [(b2, .inr (.int, own_ints (own_lab [0, 1, 2, 3]))), (b1, oEC (.int 4) (.ref b9)), (b9, .inr (.int, own_ints (own_join [0, 1, 2, 3] i1 j1)))]) rfl ?_
    refine s_static K at_69 (pc' := 72) rfl (as := [.ref b2, .int (Int32.ofNat i1), .int (Int32.ofNat j1)]) (c_merge hw [(b1, oEC (.int 4) (.ref b9)), (b9, .inr (.int, own_ints (own_join [0, 1, 2, 3] i1 j1)))] b2 [0, 1, 2, 3] i1 j1 own_all0 hi1 hj1) (w31 hw) (w32 hw) (w33 hw) (w34 hw) (by decide) pd_4 rfl (rest := []) rfl rfl (W := 0) (Nat.le_of_eq rfl) (by decide) (by decide) (ce' := 3) rfl (sl' := 10) rfl (by decide) (by decide) ?_
    rintro v _ ⟨rfl, rfl⟩
    show Go l Z n0 _ _ κ 3 10 [(b2, .inr (.int, own_ints (own_lab (own_join [0, 1, 2, 3] i1 j1)))), (b1, oEC (.int 4) (.ref b9)), (b9, .inr (.int, own_ints (own_join [0, 1, 2, 3] i1 j1)))] 72 #[.val (.int p0), .val (.int p1), .val (.int p2), .val (.int p3), .val (.int p4), .val (.int 1), .val (.ref b1), .val (.ref b2), .unset, .unset, .unset, .unset, .unset, .unset] []
    refine s_iload K at_72 (pc' := 74) rfl rfl ?_
    refine s_iconst K at_74 (pc' := 75) rfl (z := (2 : Int32)) rfl ?_
    refine s_icY K at_75 rfl (by decide) (pc' := 104) (by decide) ?_
    refine s_iload K at_104 (pc' := 106) rfl rfl ?_
    refine s_iconst K at_106 (pc' := 107) rfl (z := (3 : Int32)) rfl ?_
    refine s_icY K at_107 rfl (by decide) (pc' := 136) (by decide) ?_
    refine s_front (k := 1) rfl (L' := [(b1, oEC (.int 4) (.ref b9)), (b2, .inr (.int, own_ints (own_lab (own_join [0, 1, 2, 3] i1 j1)))), (b9, .inr (.int, own_ints (own_join [0, 1, 2, 3] i1 j1)))]) rfl ?_
    refine s_front (k := 2) rfl (L' := [(b9, .inr (.int, own_ints (own_join [0, 1, 2, 3] i1 j1))), (b1, oEC (.int 4) (.ref b9)), (b2, .inr (.int, own_ints (own_lab (own_join [0, 1, 2, 3] i1 j1))))]) rfl ?_
    refine Go.more (ce' := 8) (sl' := 40) (by decide) (by decide) ?_
    exact law_end hw p0 p1 p2 p3 p4 _ q hq4 hq _ _ _ (own_join [0, 1, 2, 3] i1 j1) (own_join_all own_all0 hi1 hj1) κ K
  · refine s_iloadN K at_0 (pc' := 1) rfl rfl ?_
    refine s_iconst K at_1 (pc' := 2) rfl (z := (3 : Int32)) rfl ?_
    refine s_iand K at_2 (pc' := 3) rfl (z := (2 : Int32)) hn ?_
    refine s_istore K at_3 (pc' := 5) rfl (Ls' := #[.val (.int p0), .val (.int p1), .val (.int p2), .val (.int p3), .val (.int p4), .val (.int 2), .unset, .unset, .unset, .unset, .unset, .unset, .unset, .unset]) rfl ?_
    refine s_new K at_5 (pc' := 8) rfl (w0 hw) (w1 hw) (w2 hw) (ly_oEC hw) nd_oEC (gs := [("com/example/rising_prime/risingprime/value/ElementClasses", "size", "I", .int 0), ("com/example/rising_prime/risingprime/value/ElementClasses", "parents", "[I", .null)]) rfl (ce' := 1) rfl (sl' := 2) rfl (by decide) (by decide) ?_
    intro b1
    refine s_dup K at_8 (pc' := 9) rfl rfl ?_
    refine s_iconst K at_9 (pc' := 10) rfl (z := (4 : Int32)) rfl ?_
    refine s_special K at_10 (pc' := 13) rfl rfl (a := b1) (as := [.int 4]) (c_init hw [] b1 (4 : Int32)) (w3 hw) (w4 hw) (w2 hw) (w5 hw) (by decide) pd_2 rfl (rest := [.ref b1]) rfl rfl (W := 1) (Nat.le_of_eq rfl) (by decide) (by decide) (ce' := 1) rfl (sl' := 2) rfl (by decide) (by decide) ?_
    rintro v _ ⟨rfl, rfl⟩
    show Go l Z n0 _ _ κ 1 2 [(b1, oEC (.int 4) .null)] 13 #[.val (.int p0), .val (.int p1), .val (.int p2), .val (.int p3), .val (.int p4), .val (.int 2), .unset, .unset, .unset, .unset, .unset, .unset, .unset, .unset] [.ref b1]
    refine s_astore K at_13 (pc' := 15) rfl rfl (Ls' := #[.val (.int p0), .val (.int p1), .val (.int p2), .val (.int p3), .val (.int p4), .val (.int 2), .val (.ref b1), .unset, .unset, .unset, .unset, .unset, .unset, .unset]) rfl ?_
    refine s_iconst K at_15 (pc' := 16) rfl (z := (4 : Int32)) rfl ?_
    refine s_newarr K at_16 (pc' := 18) rfl rfl (w11 hw) (n := 4) (by decide) (cap := 4) (by decide) (by decide) (vs0 := [.int 0, .int 0, .int 0, .int 0]) rfl (ce' := 2) rfl (sl' := 6) rfl (by decide) (by decide) ?_
    intro b2
    refine s_astore K at_18 (pc' := 20) rfl rfl (Ls' := #[.val (.int p0), .val (.int p1), .val (.int p2), .val (.int p3), .val (.int p4), .val (.int 2), .val (.ref b1), .val (.ref b2), .unset, .unset, .unset, .unset, .unset, .unset]) rfl ?_
    refine s_aload K at_20 (pc' := 22) rfl rfl rfl ?_
    refine s_iconst K at_22 (pc' := 23) rfl (z := (0 : Int32)) rfl ?_
    refine s_iconst K at_23 (pc' := 24) rfl (z := (0 : Int32)) rfl ?_
    refine s_iastore K at_24 (pc' := 25) rfl (k := 0) rfl (i := 0) (by decide) (ltB rfl) (L' := [(b2, .inr (.int, [.int 0, .int 0, .int 0, .int 0])), (b1, oEC (.int 4) .null)]) rfl ?_
    refine s_aload K at_25 (pc' := 27) rfl rfl rfl ?_
    refine s_iconst K at_27 (pc' := 28) rfl (z := (1 : Int32)) rfl ?_
    refine s_iconst K at_28 (pc' := 29) rfl (z := (1 : Int32)) rfl ?_
    refine s_iastore K at_29 (pc' := 30) rfl (k := 0) rfl (i := 1) (by decide) (ltB rfl) (L' := [(b2, .inr (.int, [.int 0, .int 1, .int 0, .int 0])), (b1, oEC (.int 4) .null)]) rfl ?_
    refine s_aload K at_30 (pc' := 32) rfl rfl rfl ?_
    refine s_iconst K at_32 (pc' := 33) rfl (z := (2 : Int32)) rfl ?_
    refine s_iconst K at_33 (pc' := 34) rfl (z := (2 : Int32)) rfl ?_
    refine s_iastore K at_34 (pc' := 35) rfl (k := 0) rfl (i := 2) (by decide) (ltB rfl) (L' := [(b2, .inr (.int, [.int 0, .int 1, .int 2, .int 0])), (b1, oEC (.int 4) .null)]) rfl ?_
    refine s_aload K at_35 (pc' := 37) rfl rfl rfl ?_
    refine s_iconst K at_37 (pc' := 38) rfl (z := (3 : Int32)) rfl ?_
    refine s_iconst K at_38 (pc' := 39) rfl (z := (3 : Int32)) rfl ?_
    refine s_iastore K at_39 (pc' := 40) rfl (k := 0) rfl (i := 3) (by decide) (ltB rfl) (L' := [(b2, .inr (.int, [.int 0, .int 1, .int 2, .int 3])), (b1, oEC (.int 4) .null)]) rfl ?_
    show Go l Z n0 _ _ κ 2 6 [(b2, .inr (.int, own_ints (own_lab [0, 1, 2, 3]))), (b1, oEC (.int 4) .null)] 40 #[.val (.int p0), .val (.int p1), .val (.int p2), .val (.int p3), .val (.int p4), .val (.int 2), .val (.ref b1), .val (.ref b2), .unset, .unset, .unset, .unset, .unset, .unset] []
    refine s_iload K at_40 (pc' := 42) rfl rfl ?_
    refine s_iconst K at_42 (pc' := 43) rfl (z := (1 : Int32)) rfl ?_
    refine s_icN K at_43 (pc' := 46) rfl rfl ?_
    refine s_aload K at_46 (pc' := 48) rfl rfl rfl ?_
    refine s_iloadN K at_48 (pc' := 49) rfl rfl ?_
    refine s_iconst K at_49 (pc' := 50) rfl (z := (3 : Int32)) rfl ?_
    refine s_iand K at_50 (pc' := 51) rfl (z := Int32.ofNat i1) ei1 ?_
    refine s_iloadN K at_51 (pc' := 52) rfl rfl ?_
    refine s_iconst K at_52 (pc' := 53) rfl (z := (2 : Int32)) rfl ?_
    refine s_iushr K at_53 (pc' := 54) rfl (z := XT.ushr p0 (2 : Int32)) rfl ?_
    refine s_iconst K at_54 (pc' := 55) rfl (z := (3 : Int32)) rfl ?_
    refine s_iand K at_55 (pc' := 56) rfl (z := Int32.ofNat j1) ej1 ?_
    refine s_front (k := 1) rfl (L' := [(b1, oEC (.int 4) .null), (b2, .inr (.int, own_ints (own_lab [0, 1, 2, 3])))]) rfl ?_
    refine s_virtual K at_56 (pc' := 59) rfl (k := 0) (a := b1) rfl (as := [.int (Int32.ofNat i1), .int (Int32.ofNat j1)]) (c_join0 hw [(b2, .inr (.int, own_ints (own_lab [0, 1, 2, 3])))] b1 i1 j1 hi1 hj1) (w12 hw) (w13 hw) (w15 hw) (w14 hw) (w2 hw) (w16 hw) (by decide) pd_3 rfl (rest := []) rfl rfl (W := 0) (Nat.le_of_eq rfl) (by decide) (by decide) (ce' := 3) rfl (sl' := 10) rfl (by decide) (by decide) ?_
    rintro v _ ⟨rfl, b9, rfl⟩
    show Go l Z n0 _ _ κ 3 10 [(b1, oEC (.int 4) (.ref b9)), (b9, .inr (.int, own_ints (own_join [0, 1, 2, 3] i1 j1))), (b2, .inr (.int, own_ints (own_lab [0, 1, 2, 3])))] 59 #[.val (.int p0), .val (.int p1), .val (.int p2), .val (.int p3), .val (.int p4), .val (.int 2), .val (.ref b1), .val (.ref b2), .unset, .unset, .unset, .unset, .unset, .unset] []
    refine s_aload K at_59 (pc' := 61) rfl rfl rfl ?_
    refine s_iloadN K at_61 (pc' := 62) rfl rfl ?_
    refine s_iconst K at_62 (pc' := 63) rfl (z := (3 : Int32)) rfl ?_
    refine s_iand K at_63 (pc' := 64) rfl (z := Int32.ofNat i1) ei1 ?_
    refine s_iloadN K at_64 (pc' := 65) rfl rfl ?_
    refine s_iconst K at_65 (pc' := 66) rfl (z := (2 : Int32)) rfl ?_
    refine s_iushr K at_66 (pc' := 67) rfl (z := XT.ushr p0 (2 : Int32)) rfl ?_
    refine s_iconst K at_67 (pc' := 68) rfl (z := (3 : Int32)) rfl ?_
    refine s_iand K at_68 (pc' := 69) rfl (z := Int32.ofNat j1) ej1 ?_
    refine s_front (k := 2) rfl (L' := [(b2, .inr (.int, own_ints (own_lab [0, 1, 2, 3]))), (b1, oEC (.int 4) (.ref b9)), (b9, .inr (.int, own_ints (own_join [0, 1, 2, 3] i1 j1)))]) rfl ?_
    refine s_static K at_69 (pc' := 72) rfl (as := [.ref b2, .int (Int32.ofNat i1), .int (Int32.ofNat j1)]) (c_merge hw [(b1, oEC (.int 4) (.ref b9)), (b9, .inr (.int, own_ints (own_join [0, 1, 2, 3] i1 j1)))] b2 [0, 1, 2, 3] i1 j1 own_all0 hi1 hj1) (w31 hw) (w32 hw) (w33 hw) (w34 hw) (by decide) pd_4 rfl (rest := []) rfl rfl (W := 0) (Nat.le_of_eq rfl) (by decide) (by decide) (ce' := 3) rfl (sl' := 10) rfl (by decide) (by decide) ?_
    rintro v _ ⟨rfl, rfl⟩
    show Go l Z n0 _ _ κ 3 10 [(b2, .inr (.int, own_ints (own_lab (own_join [0, 1, 2, 3] i1 j1)))), (b1, oEC (.int 4) (.ref b9)), (b9, .inr (.int, own_ints (own_join [0, 1, 2, 3] i1 j1)))] 72 #[.val (.int p0), .val (.int p1), .val (.int p2), .val (.int p3), .val (.int p4), .val (.int 2), .val (.ref b1), .val (.ref b2), .unset, .unset, .unset, .unset, .unset, .unset] []
    refine s_iload K at_72 (pc' := 74) rfl rfl ?_
    refine s_iconst K at_74 (pc' := 75) rfl (z := (2 : Int32)) rfl ?_
    refine s_icN K at_75 (pc' := 78) rfl rfl ?_
    refine s_aload K at_78 (pc' := 80) rfl rfl rfl ?_
    refine s_iloadN K at_80 (pc' := 81) rfl rfl ?_
    refine s_iconst K at_81 (pc' := 82) rfl (z := (3 : Int32)) rfl ?_
    refine s_iand K at_82 (pc' := 83) rfl (z := Int32.ofNat i2) ei2 ?_
    refine s_iloadN K at_83 (pc' := 84) rfl rfl ?_
    refine s_iconst K at_84 (pc' := 85) rfl (z := (2 : Int32)) rfl ?_
    refine s_iushr K at_85 (pc' := 86) rfl (z := XT.ushr p1 (2 : Int32)) rfl ?_
    refine s_iconst K at_86 (pc' := 87) rfl (z := (3 : Int32)) rfl ?_
    refine s_iand K at_87 (pc' := 88) rfl (z := Int32.ofNat j2) ej2 ?_
    refine s_front (k := 2) rfl (L' := [(b9, .inr (.int, own_ints (own_join [0, 1, 2, 3] i1 j1))), (b2, .inr (.int, own_ints (own_lab (own_join [0, 1, 2, 3] i1 j1)))), (b1, oEC (.int 4) (.ref b9))]) rfl ?_
    refine s_front (k := 2) rfl (L' := [(b1, oEC (.int 4) (.ref b9)), (b9, .inr (.int, own_ints (own_join [0, 1, 2, 3] i1 j1))), (b2, .inr (.int, own_ints (own_lab (own_join [0, 1, 2, 3] i1 j1))))]) rfl ?_
    refine s_virtual K at_88 (pc' := 91) rfl (k := 0) (a := b1) rfl (as := [.int (Int32.ofNat i2), .int (Int32.ofNat j2)]) (c_join1 hw [(b2, .inr (.int, own_ints (own_lab (own_join [0, 1, 2, 3] i1 j1))))] b1 b9 (own_join [0, 1, 2, 3] i1 j1) i2 j2 (own_all_inv (own_join_all own_all0 hi1 hj1)) hi2 hj2) (w12 hw) (w13 hw) (w15 hw) (w14 hw) (w2 hw) (w16 hw) (by decide) pd_3 rfl (rest := []) rfl rfl (W := 0) (Nat.le_of_eq rfl) (by decide) (by decide) (ce' := 3) rfl (sl' := 10) rfl (by decide) (by decide) ?_
    rintro v _ ⟨rfl, rfl⟩
    show Go l Z n0 _ _ κ 3 10 [(b1, oEC (.int 4) (.ref b9)), (b9, .inr (.int, own_ints (own_join (own_join [0, 1, 2, 3] i1 j1) i2 j2))), (b2, .inr (.int, own_ints (own_lab (own_join [0, 1, 2, 3] i1 j1))))] 91 #[.val (.int p0), .val (.int p1), .val (.int p2), .val (.int p3), .val (.int p4), .val (.int 2), .val (.ref b1), .val (.ref b2), .unset, .unset, .unset, .unset, .unset, .unset] []
    refine s_aload K at_91 (pc' := 93) rfl rfl rfl ?_
    refine s_iloadN K at_93 (pc' := 94) rfl rfl ?_
    refine s_iconst K at_94 (pc' := 95) rfl (z := (3 : Int32)) rfl ?_
    refine s_iand K at_95 (pc' := 96) rfl (z := Int32.ofNat i2) ei2 ?_
    refine s_iloadN K at_96 (pc' := 97) rfl rfl ?_
    refine s_iconst K at_97 (pc' := 98) rfl (z := (2 : Int32)) rfl ?_
    refine s_iushr K at_98 (pc' := 99) rfl (z := XT.ushr p1 (2 : Int32)) rfl ?_
    refine s_iconst K at_99 (pc' := 100) rfl (z := (3 : Int32)) rfl ?_
    refine s_iand K at_100 (pc' := 101) rfl (z := Int32.ofNat j2) ej2 ?_
    refine s_front (k := 2) rfl (L' := [(b2, .inr (.int, own_ints (own_lab (own_join [0, 1, 2, 3] i1 j1)))), (b1, oEC (.int 4) (.ref b9)), (b9, .inr (.int, own_ints (own_join (own_join [0, 1, 2, 3] i1 j1) i2 j2)))]) rfl ?_
    refine s_static K at_101 (pc' := 104) rfl (as := [.ref b2, .int (Int32.ofNat i2), .int (Int32.ofNat j2)]) (c_merge hw [(b1, oEC (.int 4) (.ref b9)), (b9, .inr (.int, own_ints (own_join (own_join [0, 1, 2, 3] i1 j1) i2 j2)))] b2 (own_join [0, 1, 2, 3] i1 j1) i2 j2 (own_join_all own_all0 hi1 hj1) hi2 hj2) (w31 hw) (w32 hw) (w33 hw) (w34 hw) (by decide) pd_4 rfl (rest := []) rfl rfl (W := 0) (Nat.le_of_eq rfl) (by decide) (by decide) (ce' := 3) rfl (sl' := 10) rfl (by decide) (by decide) ?_
    rintro v _ ⟨rfl, rfl⟩
    show Go l Z n0 _ _ κ 3 10 [(b2, .inr (.int, own_ints (own_lab (own_join (own_join [0, 1, 2, 3] i1 j1) i2 j2)))), (b1, oEC (.int 4) (.ref b9)), (b9, .inr (.int, own_ints (own_join (own_join [0, 1, 2, 3] i1 j1) i2 j2)))] 104 #[.val (.int p0), .val (.int p1), .val (.int p2), .val (.int p3), .val (.int p4), .val (.int 2), .val (.ref b1), .val (.ref b2), .unset, .unset, .unset, .unset, .unset, .unset] []
    refine s_iload K at_104 (pc' := 106) rfl rfl ?_
    refine s_iconst K at_106 (pc' := 107) rfl (z := (3 : Int32)) rfl ?_
    refine s_icY K at_107 rfl (by decide) (pc' := 136) (by decide) ?_
    refine s_front (k := 1) rfl (L' := [(b1, oEC (.int 4) (.ref b9)), (b2, .inr (.int, own_ints (own_lab (own_join (own_join [0, 1, 2, 3] i1 j1) i2 j2)))), (b9, .inr (.int, own_ints (own_join (own_join [0, 1, 2, 3] i1 j1) i2 j2)))]) rfl ?_
    refine s_front (k := 2) rfl (L' := [(b9, .inr (.int, own_ints (own_join (own_join [0, 1, 2, 3] i1 j1) i2 j2))), (b1, oEC (.int 4) (.ref b9)), (b2, .inr (.int, own_ints (own_lab (own_join (own_join [0, 1, 2, 3] i1 j1) i2 j2))))]) rfl ?_
    refine Go.more (ce' := 8) (sl' := 40) (by decide) (by decide) ?_
    exact law_end hw p0 p1 p2 p3 p4 _ q hq4 hq _ _ _ (own_join (own_join [0, 1, 2, 3] i1 j1) i2 j2) (own_join_all (own_join_all own_all0 hi1 hj1) hi2 hj2) κ K
  · refine s_iloadN K at_0 (pc' := 1) rfl rfl ?_
    refine s_iconst K at_1 (pc' := 2) rfl (z := (3 : Int32)) rfl ?_
    refine s_iand K at_2 (pc' := 3) rfl (z := (3 : Int32)) hn ?_
    refine s_istore K at_3 (pc' := 5) rfl (Ls' := #[.val (.int p0), .val (.int p1), .val (.int p2), .val (.int p3), .val (.int p4), .val (.int 3), .unset, .unset, .unset, .unset, .unset, .unset, .unset, .unset]) rfl ?_
    refine s_new K at_5 (pc' := 8) rfl (w0 hw) (w1 hw) (w2 hw) (ly_oEC hw) nd_oEC (gs := [("com/example/rising_prime/risingprime/value/ElementClasses", "size", "I", .int 0), ("com/example/rising_prime/risingprime/value/ElementClasses", "parents", "[I", .null)]) rfl (ce' := 1) rfl (sl' := 2) rfl (by decide) (by decide) ?_
    intro b1
    refine s_dup K at_8 (pc' := 9) rfl rfl ?_
    refine s_iconst K at_9 (pc' := 10) rfl (z := (4 : Int32)) rfl ?_
    refine s_special K at_10 (pc' := 13) rfl rfl (a := b1) (as := [.int 4]) (c_init hw [] b1 (4 : Int32)) (w3 hw) (w4 hw) (w2 hw) (w5 hw) (by decide) pd_2 rfl (rest := [.ref b1]) rfl rfl (W := 1) (Nat.le_of_eq rfl) (by decide) (by decide) (ce' := 1) rfl (sl' := 2) rfl (by decide) (by decide) ?_
    rintro v _ ⟨rfl, rfl⟩
    show Go l Z n0 _ _ κ 1 2 [(b1, oEC (.int 4) .null)] 13 #[.val (.int p0), .val (.int p1), .val (.int p2), .val (.int p3), .val (.int p4), .val (.int 3), .unset, .unset, .unset, .unset, .unset, .unset, .unset, .unset] [.ref b1]
    refine s_astore K at_13 (pc' := 15) rfl rfl (Ls' := #[.val (.int p0), .val (.int p1), .val (.int p2), .val (.int p3), .val (.int p4), .val (.int 3), .val (.ref b1), .unset, .unset, .unset, .unset, .unset, .unset, .unset]) rfl ?_
    refine s_iconst K at_15 (pc' := 16) rfl (z := (4 : Int32)) rfl ?_
    refine s_newarr K at_16 (pc' := 18) rfl rfl (w11 hw) (n := 4) (by decide) (cap := 4) (by decide) (by decide) (vs0 := [.int 0, .int 0, .int 0, .int 0]) rfl (ce' := 2) rfl (sl' := 6) rfl (by decide) (by decide) ?_
    intro b2
    refine s_astore K at_18 (pc' := 20) rfl rfl (Ls' := #[.val (.int p0), .val (.int p1), .val (.int p2), .val (.int p3), .val (.int p4), .val (.int 3), .val (.ref b1), .val (.ref b2), .unset, .unset, .unset, .unset, .unset, .unset]) rfl ?_
    refine s_aload K at_20 (pc' := 22) rfl rfl rfl ?_
    refine s_iconst K at_22 (pc' := 23) rfl (z := (0 : Int32)) rfl ?_
    refine s_iconst K at_23 (pc' := 24) rfl (z := (0 : Int32)) rfl ?_
    refine s_iastore K at_24 (pc' := 25) rfl (k := 0) rfl (i := 0) (by decide) (ltB rfl) (L' := [(b2, .inr (.int, [.int 0, .int 0, .int 0, .int 0])), (b1, oEC (.int 4) .null)]) rfl ?_
    refine s_aload K at_25 (pc' := 27) rfl rfl rfl ?_
    refine s_iconst K at_27 (pc' := 28) rfl (z := (1 : Int32)) rfl ?_
    refine s_iconst K at_28 (pc' := 29) rfl (z := (1 : Int32)) rfl ?_
    refine s_iastore K at_29 (pc' := 30) rfl (k := 0) rfl (i := 1) (by decide) (ltB rfl) (L' := [(b2, .inr (.int, [.int 0, .int 1, .int 0, .int 0])), (b1, oEC (.int 4) .null)]) rfl ?_
    refine s_aload K at_30 (pc' := 32) rfl rfl rfl ?_
    refine s_iconst K at_32 (pc' := 33) rfl (z := (2 : Int32)) rfl ?_
    refine s_iconst K at_33 (pc' := 34) rfl (z := (2 : Int32)) rfl ?_
    refine s_iastore K at_34 (pc' := 35) rfl (k := 0) rfl (i := 2) (by decide) (ltB rfl) (L' := [(b2, .inr (.int, [.int 0, .int 1, .int 2, .int 0])), (b1, oEC (.int 4) .null)]) rfl ?_
    refine s_aload K at_35 (pc' := 37) rfl rfl rfl ?_
    refine s_iconst K at_37 (pc' := 38) rfl (z := (3 : Int32)) rfl ?_
    refine s_iconst K at_38 (pc' := 39) rfl (z := (3 : Int32)) rfl ?_
    refine s_iastore K at_39 (pc' := 40) rfl (k := 0) rfl (i := 3) (by decide) (ltB rfl) (L' := [(b2, .inr (.int, [.int 0, .int 1, .int 2, .int 3])), (b1, oEC (.int 4) .null)]) rfl ?_
    show Go l Z n0 _ _ κ 2 6 [(b2, .inr (.int, own_ints (own_lab [0, 1, 2, 3]))), (b1, oEC (.int 4) .null)] 40 #[.val (.int p0), .val (.int p1), .val (.int p2), .val (.int p3), .val (.int p4), .val (.int 3), .val (.ref b1), .val (.ref b2), .unset, .unset, .unset, .unset, .unset, .unset] []
    refine s_iload K at_40 (pc' := 42) rfl rfl ?_
    refine s_iconst K at_42 (pc' := 43) rfl (z := (1 : Int32)) rfl ?_
    refine s_icN K at_43 (pc' := 46) rfl rfl ?_
    refine s_aload K at_46 (pc' := 48) rfl rfl rfl ?_
    refine s_iloadN K at_48 (pc' := 49) rfl rfl ?_
    refine s_iconst K at_49 (pc' := 50) rfl (z := (3 : Int32)) rfl ?_
    refine s_iand K at_50 (pc' := 51) rfl (z := Int32.ofNat i1) ei1 ?_
    refine s_iloadN K at_51 (pc' := 52) rfl rfl ?_
    refine s_iconst K at_52 (pc' := 53) rfl (z := (2 : Int32)) rfl ?_
    refine s_iushr K at_53 (pc' := 54) rfl (z := XT.ushr p0 (2 : Int32)) rfl ?_
    refine s_iconst K at_54 (pc' := 55) rfl (z := (3 : Int32)) rfl ?_
    refine s_iand K at_55 (pc' := 56) rfl (z := Int32.ofNat j1) ej1 ?_
    refine s_front (k := 1) rfl (L' := [(b1, oEC (.int 4) .null), (b2, .inr (.int, own_ints (own_lab [0, 1, 2, 3])))]) rfl ?_
    refine s_virtual K at_56 (pc' := 59) rfl (k := 0) (a := b1) rfl (as := [.int (Int32.ofNat i1), .int (Int32.ofNat j1)]) (c_join0 hw [(b2, .inr (.int, own_ints (own_lab [0, 1, 2, 3])))] b1 i1 j1 hi1 hj1) (w12 hw) (w13 hw) (w15 hw) (w14 hw) (w2 hw) (w16 hw) (by decide) pd_3 rfl (rest := []) rfl rfl (W := 0) (Nat.le_of_eq rfl) (by decide) (by decide) (ce' := 3) rfl (sl' := 10) rfl (by decide) (by decide) ?_
    rintro v _ ⟨rfl, b9, rfl⟩
    show Go l Z n0 _ _ κ 3 10 [(b1, oEC (.int 4) (.ref b9)), (b9, .inr (.int, own_ints (own_join [0, 1, 2, 3] i1 j1))), (b2, .inr (.int, own_ints (own_lab [0, 1, 2, 3])))] 59 #[.val (.int p0), .val (.int p1), .val (.int p2), .val (.int p3), .val (.int p4), .val (.int 3), .val (.ref b1), .val (.ref b2), .unset, .unset, .unset, .unset, .unset, .unset] []
    refine s_aload K at_59 (pc' := 61) rfl rfl rfl ?_
    refine s_iloadN K at_61 (pc' := 62) rfl rfl ?_
    refine s_iconst K at_62 (pc' := 63) rfl (z := (3 : Int32)) rfl ?_
    refine s_iand K at_63 (pc' := 64) rfl (z := Int32.ofNat i1) ei1 ?_
    refine s_iloadN K at_64 (pc' := 65) rfl rfl ?_
    refine s_iconst K at_65 (pc' := 66) rfl (z := (2 : Int32)) rfl ?_
    refine s_iushr K at_66 (pc' := 67) rfl (z := XT.ushr p0 (2 : Int32)) rfl ?_
    refine s_iconst K at_67 (pc' := 68) rfl (z := (3 : Int32)) rfl ?_
    refine s_iand K at_68 (pc' := 69) rfl (z := Int32.ofNat j1) ej1 ?_
    refine s_front (k := 2) rfl (L' := [(b2, .inr (.int, own_ints (own_lab [0, 1, 2, 3]))), (b1, oEC (.int 4) (.ref b9)), (b9, .inr (.int, own_ints (own_join [0, 1, 2, 3] i1 j1)))]) rfl ?_
    refine s_static K at_69 (pc' := 72) rfl (as := [.ref b2, .int (Int32.ofNat i1), .int (Int32.ofNat j1)]) (c_merge hw [(b1, oEC (.int 4) (.ref b9)), (b9, .inr (.int, own_ints (own_join [0, 1, 2, 3] i1 j1)))] b2 [0, 1, 2, 3] i1 j1 own_all0 hi1 hj1) (w31 hw) (w32 hw) (w33 hw) (w34 hw) (by decide) pd_4 rfl (rest := []) rfl rfl (W := 0) (Nat.le_of_eq rfl) (by decide) (by decide) (ce' := 3) rfl (sl' := 10) rfl (by decide) (by decide) ?_
    rintro v _ ⟨rfl, rfl⟩
    show Go l Z n0 _ _ κ 3 10 [(b2, .inr (.int, own_ints (own_lab (own_join [0, 1, 2, 3] i1 j1)))), (b1, oEC (.int 4) (.ref b9)), (b9, .inr (.int, own_ints (own_join [0, 1, 2, 3] i1 j1)))] 72 #[.val (.int p0), .val (.int p1), .val (.int p2), .val (.int p3), .val (.int p4), .val (.int 3), .val (.ref b1), .val (.ref b2), .unset, .unset, .unset, .unset, .unset, .unset] []
    refine s_iload K at_72 (pc' := 74) rfl rfl ?_
    refine s_iconst K at_74 (pc' := 75) rfl (z := (2 : Int32)) rfl ?_
    refine s_icN K at_75 (pc' := 78) rfl rfl ?_
    refine s_aload K at_78 (pc' := 80) rfl rfl rfl ?_
    refine s_iloadN K at_80 (pc' := 81) rfl rfl ?_
    refine s_iconst K at_81 (pc' := 82) rfl (z := (3 : Int32)) rfl ?_
    refine s_iand K at_82 (pc' := 83) rfl (z := Int32.ofNat i2) ei2 ?_
    refine s_iloadN K at_83 (pc' := 84) rfl rfl ?_
    refine s_iconst K at_84 (pc' := 85) rfl (z := (2 : Int32)) rfl ?_
    refine s_iushr K at_85 (pc' := 86) rfl (z := XT.ushr p1 (2 : Int32)) rfl ?_
    refine s_iconst K at_86 (pc' := 87) rfl (z := (3 : Int32)) rfl ?_
    refine s_iand K at_87 (pc' := 88) rfl (z := Int32.ofNat j2) ej2 ?_
    refine s_front (k := 2) rfl (L' := [(b9, .inr (.int, own_ints (own_join [0, 1, 2, 3] i1 j1))), (b2, .inr (.int, own_ints (own_lab (own_join [0, 1, 2, 3] i1 j1)))), (b1, oEC (.int 4) (.ref b9))]) rfl ?_
    refine s_front (k := 2) rfl (L' := [(b1, oEC (.int 4) (.ref b9)), (b9, .inr (.int, own_ints (own_join [0, 1, 2, 3] i1 j1))), (b2, .inr (.int, own_ints (own_lab (own_join [0, 1, 2, 3] i1 j1))))]) rfl ?_
    refine s_virtual K at_88 (pc' := 91) rfl (k := 0) (a := b1) rfl (as := [.int (Int32.ofNat i2), .int (Int32.ofNat j2)]) (c_join1 hw [(b2, .inr (.int, own_ints (own_lab (own_join [0, 1, 2, 3] i1 j1))))] b1 b9 (own_join [0, 1, 2, 3] i1 j1) i2 j2 (own_all_inv (own_join_all own_all0 hi1 hj1)) hi2 hj2) (w12 hw) (w13 hw) (w15 hw) (w14 hw) (w2 hw) (w16 hw) (by decide) pd_3 rfl (rest := []) rfl rfl (W := 0) (Nat.le_of_eq rfl) (by decide) (by decide) (ce' := 3) rfl (sl' := 10) rfl (by decide) (by decide) ?_
    rintro v _ ⟨rfl, rfl⟩
    show Go l Z n0 _ _ κ 3 10 [(b1, oEC (.int 4) (.ref b9)), (b9, .inr (.int, own_ints (own_join (own_join [0, 1, 2, 3] i1 j1) i2 j2))), (b2, .inr (.int, own_ints (own_lab (own_join [0, 1, 2, 3] i1 j1))))] 91 #[.val (.int p0), .val (.int p1), .val (.int p2), .val (.int p3), .val (.int p4), .val (.int 3), .val (.ref b1), .val (.ref b2), .unset, .unset, .unset, .unset, .unset, .unset] []
    refine s_aload K at_91 (pc' := 93) rfl rfl rfl ?_
    refine s_iloadN K at_93 (pc' := 94) rfl rfl ?_
    refine s_iconst K at_94 (pc' := 95) rfl (z := (3 : Int32)) rfl ?_
    refine s_iand K at_95 (pc' := 96) rfl (z := Int32.ofNat i2) ei2 ?_
    refine s_iloadN K at_96 (pc' := 97) rfl rfl ?_
    refine s_iconst K at_97 (pc' := 98) rfl (z := (2 : Int32)) rfl ?_
    refine s_iushr K at_98 (pc' := 99) rfl (z := XT.ushr p1 (2 : Int32)) rfl ?_
    refine s_iconst K at_99 (pc' := 100) rfl (z := (3 : Int32)) rfl ?_
    refine s_iand K at_100 (pc' := 101) rfl (z := Int32.ofNat j2) ej2 ?_
    refine s_front (k := 2) rfl (L' := [(b2, .inr (.int, own_ints (own_lab (own_join [0, 1, 2, 3] i1 j1)))), (b1, oEC (.int 4) (.ref b9)), (b9, .inr (.int, own_ints (own_join (own_join [0, 1, 2, 3] i1 j1) i2 j2)))]) rfl ?_
    refine s_static K at_101 (pc' := 104) rfl (as := [.ref b2, .int (Int32.ofNat i2), .int (Int32.ofNat j2)]) (c_merge hw [(b1, oEC (.int 4) (.ref b9)), (b9, .inr (.int, own_ints (own_join (own_join [0, 1, 2, 3] i1 j1) i2 j2)))] b2 (own_join [0, 1, 2, 3] i1 j1) i2 j2 (own_join_all own_all0 hi1 hj1) hi2 hj2) (w31 hw) (w32 hw) (w33 hw) (w34 hw) (by decide) pd_4 rfl (rest := []) rfl rfl (W := 0) (Nat.le_of_eq rfl) (by decide) (by decide) (ce' := 3) rfl (sl' := 10) rfl (by decide) (by decide) ?_
    rintro v _ ⟨rfl, rfl⟩
    show Go l Z n0 _ _ κ 3 10 [(b2, .inr (.int, own_ints (own_lab (own_join (own_join [0, 1, 2, 3] i1 j1) i2 j2)))), (b1, oEC (.int 4) (.ref b9)), (b9, .inr (.int, own_ints (own_join (own_join [0, 1, 2, 3] i1 j1) i2 j2)))] 104 #[.val (.int p0), .val (.int p1), .val (.int p2), .val (.int p3), .val (.int p4), .val (.int 3), .val (.ref b1), .val (.ref b2), .unset, .unset, .unset, .unset, .unset, .unset] []
    refine s_iload K at_104 (pc' := 106) rfl rfl ?_
    refine s_iconst K at_106 (pc' := 107) rfl (z := (3 : Int32)) rfl ?_
    refine s_icN K at_107 (pc' := 110) rfl rfl ?_
    refine s_aload K at_110 (pc' := 112) rfl rfl rfl ?_
    refine s_iloadN K at_112 (pc' := 113) rfl rfl ?_
    refine s_iconst K at_113 (pc' := 114) rfl (z := (3 : Int32)) rfl ?_
    refine s_iand K at_114 (pc' := 115) rfl (z := Int32.ofNat i3) ei3 ?_
    refine s_iloadN K at_115 (pc' := 116) rfl rfl ?_
    refine s_iconst K at_116 (pc' := 117) rfl (z := (2 : Int32)) rfl ?_
    refine s_iushr K at_117 (pc' := 118) rfl (z := XT.ushr p2 (2 : Int32)) rfl ?_
    refine s_iconst K at_118 (pc' := 119) rfl (z := (3 : Int32)) rfl ?_
    refine s_iand K at_119 (pc' := 120) rfl (z := Int32.ofNat j3) ej3 ?_
    refine s_front (k := 2) rfl (L' := [(b9, .inr (.int, own_ints (own_join (own_join [0, 1, 2, 3] i1 j1) i2 j2))), (b2, .inr (.int, own_ints (own_lab (own_join (own_join [0, 1, 2, 3] i1 j1) i2 j2)))), (b1, oEC (.int 4) (.ref b9))]) rfl ?_
    refine s_front (k := 2) rfl (L' := [(b1, oEC (.int 4) (.ref b9)), (b9, .inr (.int, own_ints (own_join (own_join [0, 1, 2, 3] i1 j1) i2 j2))), (b2, .inr (.int, own_ints (own_lab (own_join (own_join [0, 1, 2, 3] i1 j1) i2 j2))))]) rfl ?_
    refine s_virtual K at_120 (pc' := 123) rfl (k := 0) (a := b1) rfl (as := [.int (Int32.ofNat i3), .int (Int32.ofNat j3)]) (c_join1 hw [(b2, .inr (.int, own_ints (own_lab (own_join (own_join [0, 1, 2, 3] i1 j1) i2 j2))))] b1 b9 (own_join (own_join [0, 1, 2, 3] i1 j1) i2 j2) i3 j3 (own_all_inv (own_join_all (own_join_all own_all0 hi1 hj1) hi2 hj2)) hi3 hj3) (w12 hw) (w13 hw) (w15 hw) (w14 hw) (w2 hw) (w16 hw) (by decide) pd_3 rfl (rest := []) rfl rfl (W := 0) (Nat.le_of_eq rfl) (by decide) (by decide) (ce' := 3) rfl (sl' := 10) rfl (by decide) (by decide) ?_
    rintro v _ ⟨rfl, rfl⟩
    show Go l Z n0 _ _ κ 3 10 [(b1, oEC (.int 4) (.ref b9)), (b9, .inr (.int, own_ints (own_join (own_join (own_join [0, 1, 2, 3] i1 j1) i2 j2) i3 j3))), (b2, .inr (.int, own_ints (own_lab (own_join (own_join [0, 1, 2, 3] i1 j1) i2 j2))))] 123 #[.val (.int p0), .val (.int p1), .val (.int p2), .val (.int p3), .val (.int p4), .val (.int 3), .val (.ref b1), .val (.ref b2), .unset, .unset, .unset, .unset, .unset, .unset] []
    refine s_aload K at_123 (pc' := 125) rfl rfl rfl ?_
    refine s_iloadN K at_125 (pc' := 126) rfl rfl ?_
    refine s_iconst K at_126 (pc' := 127) rfl (z := (3 : Int32)) rfl ?_
    refine s_iand K at_127 (pc' := 128) rfl (z := Int32.ofNat i3) ei3 ?_
    refine s_iloadN K at_128 (pc' := 129) rfl rfl ?_
    refine s_iconst K at_129 (pc' := 130) rfl (z := (2 : Int32)) rfl ?_
    refine s_iushr K at_130 (pc' := 131) rfl (z := XT.ushr p2 (2 : Int32)) rfl ?_
    refine s_iconst K at_131 (pc' := 132) rfl (z := (3 : Int32)) rfl ?_
    refine s_iand K at_132 (pc' := 133) rfl (z := Int32.ofNat j3) ej3 ?_
    refine s_front (k := 2) rfl (L' := [(b2, .inr (.int, own_ints (own_lab (own_join (own_join [0, 1, 2, 3] i1 j1) i2 j2)))), (b1, oEC (.int 4) (.ref b9)), (b9, .inr (.int, own_ints (own_join (own_join (own_join [0, 1, 2, 3] i1 j1) i2 j2) i3 j3)))]) rfl ?_
    refine s_static K at_133 (pc' := 136) rfl (as := [.ref b2, .int (Int32.ofNat i3), .int (Int32.ofNat j3)]) (c_merge hw [(b1, oEC (.int 4) (.ref b9)), (b9, .inr (.int, own_ints (own_join (own_join (own_join [0, 1, 2, 3] i1 j1) i2 j2) i3 j3)))] b2 (own_join (own_join [0, 1, 2, 3] i1 j1) i2 j2) i3 j3 (own_join_all (own_join_all own_all0 hi1 hj1) hi2 hj2) hi3 hj3) (w31 hw) (w32 hw) (w33 hw) (w34 hw) (by decide) pd_4 rfl (rest := []) rfl rfl (W := 0) (Nat.le_of_eq rfl) (by decide) (by decide) (ce' := 3) rfl (sl' := 10) rfl (by decide) (by decide) ?_
    rintro v _ ⟨rfl, rfl⟩
    show Go l Z n0 _ _ κ 3 10 [(b2, .inr (.int, own_ints (own_lab (own_join (own_join (own_join [0, 1, 2, 3] i1 j1) i2 j2) i3 j3)))), (b1, oEC (.int 4) (.ref b9)), (b9, .inr (.int, own_ints (own_join (own_join (own_join [0, 1, 2, 3] i1 j1) i2 j2) i3 j3)))] 136 #[.val (.int p0), .val (.int p1), .val (.int p2), .val (.int p3), .val (.int p4), .val (.int 3), .val (.ref b1), .val (.ref b2), .unset, .unset, .unset, .unset, .unset, .unset] []
    refine s_front (k := 1) rfl (L' := [(b1, oEC (.int 4) (.ref b9)), (b2, .inr (.int, own_ints (own_lab (own_join (own_join (own_join [0, 1, 2, 3] i1 j1) i2 j2) i3 j3)))), (b9, .inr (.int, own_ints (own_join (own_join (own_join [0, 1, 2, 3] i1 j1) i2 j2) i3 j3)))]) rfl ?_
    refine s_front (k := 2) rfl (L' := [(b9, .inr (.int, own_ints (own_join (own_join (own_join [0, 1, 2, 3] i1 j1) i2 j2) i3 j3))), (b1, oEC (.int 4) (.ref b9)), (b2, .inr (.int, own_ints (own_lab (own_join (own_join (own_join [0, 1, 2, 3] i1 j1) i2 j2) i3 j3))))]) rfl ?_
    refine Go.more (ce' := 8) (sl' := 40) (by decide) (by decide) ?_
    exact law_end hw p0 p1 p2 p3 p4 _ q hq4 hq _ _ _ (own_join (own_join (own_join [0, 1, 2, 3] i1 j1) i2 j2) i3 j3) (own_join_all (own_join_all (own_join_all own_all0 hi1 hj1) hi2 hj2) hi3 hj3) κ K
set_option maxRecDepth 65536 in
set_option maxHeartbeats 400000000 in
theorem ef_law (m : MethodId) (p0 : Int32) (p1 : Int32) (p2 : Int32) (p3 : Int32) (p4 : Int32) : entryFrame m [.int p0, .int p1, .int p2, .int p3, .int p4].toArray maxLocals = mkF m 0 #[.val (.int p0), .val (.int p1), .val (.int p2), .val (.int p3), .val (.int p4), .unset, .unset, .unset, .unset, .unset, .unset, .unset, .unset, .unset] [] := by
  have e : argsToLocals [.int p0, .int p1, .int p2, .int p3, .int p4].toArray maxLocals = #[.val (.int p0), .val (.int p1), .val (.int p2), .val (.int p3), .val (.int p4)] ++ Array.replicate 9 .unset := rfl
  unfold entryFrame
  rw [e]
  rfl
set_option maxRecDepth 65536 in
set_option maxHeartbeats 40000000 in
theorem comes_1 {Post : Tables → Env → Array Value → State → Outcome → State → Prop} (hpost : ∀ tb e args s v u, (limb_1_1.after args s (.returned v) u = true ∧ limb_1_2.after args s (.returned v) u = true ∧ True) → FrameEnd s (.returned v) u (Jvm.fieldLocs frame_1_writes args s ++ Jvm.arrayLocs frame_1_arrays args s ++ Jvm.staticLocs frame_1_statics s) 16 128 → Post tb e args s (.returned v) u) :
    ArmFor flags0 classFile x code maxLocals ret World_1 tables_1 room_1 Calls_1 rest_1 Pre_1 Post := by
  intro l hfl _ _ p e ha hc hk s m args below hf hA hF happ hP
  obtain ⟨hcalls, hrest, hpre⟩ := hP
  obtain ⟨-, -, -, hnamed, -, -, -, hat⟩ := (Spec.applies_iff hf).mp happ
  obtain ⟨hg, hn⟩ := and_e (Cond.before_iff.mp (show (Jvm.Cond.and given_1 narrow_1).before args s = true from hpre))
  obtain ⟨g0, r0⟩ := and_e hg
  obtain ⟨g1, r1⟩ := and_e r0
  obtain ⟨g2, r2⟩ := and_e r1
  obtain ⟨g3, r3⟩ := and_e r2
  obtain ⟨g4, r4⟩ := and_e r3
  obtain ⟨v0, v1, v2, v3, v4, rfl⟩ : ∃ v0 v1 v2 v3 v4 : Value, args = #[v0, v1, v2, v3, v4] := by
    have hs : args.size = 5 := by simpa [Cond.value, given_1] using g0
    obtain ⟨L⟩ := args
    match L, hs with
    | [v0, v1, v2, v3, v4], _ => exact ⟨v0, v1, v2, v3, v4, rfl⟩
  obtain ⟨i0, e0⟩ := is_v g1
  obtain rfl : v0 = .int i0 := Option.some.inj e0
  obtain ⟨i1, e1⟩ := is_v g2
  obtain rfl : v1 = .int i1 := Option.some.inj e1
  obtain ⟨i2, e2⟩ := is_v g3
  obtain rfl : v2 = .int i2 := Option.some.inj e2
  obtain ⟨i3, e3⟩ := is_v g4
  obtain rfl : v3 = .int i3 := Option.some.inj e3
  obtain ⟨i4, e4⟩ := is_v r4
  obtain rfl : v4 = .int i4 := Option.some.inj e4
  have hw := fun d (hd : d ∈ tables_1) => atoms_spec (ws := Jvm.Cond.code x code maxLocals ret :: tables_1) hat d (List.mem_cons_of_mem _ hd)
  have W0 : Wo s s.heap.size s.heap [] := ⟨Old.start s, fun i x q => by simp at q, fun i j x y q => by simp at q⟩
  have M := enter (l := l) (ws := tables_1) (rm := room_1) (y := x) (bytes := code) (maxL := maxLocals) (ret := ret) (Q := fun v _ => v = some (.int 1)) (as := [.int i0, .int i1, .int i2, .int i3, .int i4]) W0 (by decide +kernel) (fun m => ef_law m i0 i1 i2 i3 i4) (fun κ K => go_law hw i0 i1 i2 i3 i4  κ K)
  obtain ⟨n, o, h1, h2, h3, _, Lc, rfl, ⟨N, L', rfl, -⟩, hq⟩ := M p e ha hc hk s m _ below hf ((Spec.applies_iff_loose hf).mp happ).1 ⟨rfl, State.Warmed39.refl s, rfl⟩ trivial
  refine ⟨n, _, h1, h2, h3, hpost _ _ _ _ _ _ ⟨Cond.after_iff.mpr rfl, Cond.after_iff.mpr (eq_i res_at (Term.int_eval (1)) rfl), trivial⟩ ⟨hq.1, hq.2.1, (hq.2.2.sift fun y hy => Or.inr (N y hy)).mono (by decide) (by decide)⟩⟩
theorem main_1_1 : Claimed_1_1 := comes_1 fun _ _ _ _ _ _ h hF => ⟨h.1, hF⟩
theorem main_1_2 : Claimed_1_2 := comes_1 fun _ _ _ _ _ _ h hF => ⟨h.2.1, hF⟩
end Jvm.Pilot.@@N@@
namespace Jvm.Pilot.@@N@@
open Jvm Jvm.ClassFile Sem Op Lib Jvm.Free Jvm.Stand Jvm.Pilot.@@N@@.Jvm.D
/-! MADE BY PROGRAM (witnessworld.py) out of the Statement's table words and the real class files: 10 classes; the members and pool entries that the words name. The judged class is class 1, her method 1. -/
namespace start1
open Jvm.ClassFile
def u (s : String) : CpInfo := .utf8 (stringToUtf16 s)
/-- a pool by its gaps: so many unusable entries, then the entry; so many at the end -/
def gap : Nat → List CpInfo → List CpInfo
  | 0, r => r
  | n + 1, r => .unusable :: gap n r
def poolList (es : List (Nat × CpInfo)) (last : Nat) : List CpInfo := es.foldr (fun e r => gap e.1 (e.2 :: r)) (gap last [])
def pool (es : List (Nat × CpInfo)) (last : Nat) : Array CpInfo := ⟨poolList es last⟩
def fileOf (pool : Array CpInfo) (this : Nat) (attrs : Array Attribute := #[]) (ms : Array MethodInfo := #[]) (fl : Nat := 33) (sup : Nat := 0) (ifs : Array Nat := #[]) (fds : Array FieldInfo := #[]) : ClassFile where
  minorVersion := 0
  majorVersion := 65
  constantPool := pool
  accessFlags := fl
  thisClass := this
  superClass := sup
  interfaces := ifs
  fields := fds
  methods := ms
  attributes := attrs
def plain (name : String) (sup : Option ClassId) : Class where
  name := name
  kind := .ordinary
  loader := none
  accessFlags := 33
  super := sup
  interfaces := #[]
  cf := none
  fields := #[]
  methods := #[]
  instanceTypes := #[]
  staticTypes := #[]
  resolved := #[]
  callSites := []
  init := .initialized
  statics := none
  mirror := none

def pool0 : Array CpInfo := pool [(5, u "<init>"), (0, u "()V"), (1, .class_ 10), (1, u "java/lang/Object")] 113

def k0c0 : Code := { maxStack := 0, maxLocals := 1, code := object_method_1_code, exceptionTable := #[], attributes := #[] }
def k0m0 : Method := { name := "<init>", desc := "()V", sig := { parameters := [], returnType := none }, accessFlags := 1, code := some k0c0 }
/-- java/lang/Object -/
def k0 : Class := { plain "java/lang/Object" none with
  accessFlags := 33
  interfaces := #[]
  cf := some (fileOf pool0 8 #[] #[{ accessFlags := 1, nameIndex := 5, descriptorIndex := 6, attributes := #[] }] 33 0 #[] #[])
  fields := #[]
  methods := #[k0m0]
  instanceTypes := #[]
  staticTypes := #[]
  resolved := Array.replicate 124 none
  statics := none }

def pool1 : Array CpInfo := pool [(2, .class_ 4), (1, u "java/lang/Object"), (0, u "<init>"), (0, u "()V"), (0, .class_ 8), (0, u "com/example/rising_prime/risingprime/value/ElementClasses"), (0, .methodref 7 10), (0, .nameAndType 5 11), (0, u "(I)V"), (0, .methodref 7 13), (0, .nameAndType 14 15), (0, u "join"), (0, u "(II)V"), (0, .methodref 17 18), (0, .class_ 19), (0, .nameAndType 20 21), (0, u "com/example/rising_prime/risingprime/value/ElementClassesClassOfPinLaw"), (0, u "merge"), (0, u "([III)V"), (0, .methodref 7 23), (0, .nameAndType 24 25), (0, u "classOf"), (0, u "(I)I"), (0, .methodref 27 28), (0, .class_ 29), (0, .nameAndType 30 31), (0, u "java/lang/Math"), (0, u "min"), (0, u "(II)I"), (0, .methodref 27 33), (0, .nameAndType 34 31), (0, u "max"), (2, u "law"), (0, u "(IIIII)Z")] 5

def k1m0 : Method := { name := "<init>", desc := "()V", sig := { parameters := [], returnType := none }, accessFlags := 1, code := none }
def k1c1 : Code := { maxStack := 4, maxLocals := 14, code := code, exceptionTable := #[], attributes := #[] }
def k1m1 : Method := { name := "law", desc := "(IIIII)Z", sig := { parameters := [.int, .int, .int, .int, .int], returnType := some .boolean }, accessFlags := 9, code := some k1c1 }
def k1c2 : Code := { maxStack := 3, maxLocals := 7, code := method_3_code, exceptionTable := #[], attributes := #[] }
def k1m2 : Method := { name := "merge", desc := "([III)V", sig := { parameters := [(.array .int), .int, .int], returnType := none }, accessFlags := 10, code := some k1c2 }
/-- com/example/rising_prime/risingprime/value/ElementClassesClassOfPinLaw -/
def k1 : Class := { plain "com/example/rising_prime/risingprime/value/ElementClassesClassOfPinLaw" (some 0) with
  accessFlags := 49
  interfaces := #[]
  cf := some (fileOf pool1 17 #[] #[{ accessFlags := 1, nameIndex := 5, descriptorIndex := 6, attributes := #[] }, { accessFlags := 9, nameIndex := 37, descriptorIndex := 38, attributes := #[] }, { accessFlags := 10, nameIndex := 20, descriptorIndex := 21, attributes := #[] }] 49 2 #[] #[])
  fields := #[]
  methods := #[k1m0, k1m1, k1m2]
  instanceTypes := #[]
  staticTypes := #[]
  resolved := Array.replicate 44 none
  statics := none }

def pool2 : Array CpInfo := pool [(1, .methodref 2 3), (0, .class_ 4), (0, .nameAndType 5 6), (0, u "java/lang/Object"), (0, u "<init>"), (0, u "()V"), (0, .fieldref 8 9), (0, .class_ 10), (0, .nameAndType 11 12), (0, u "com/example/rising_prime/risingprime/value/ElementClasses"), (0, u "size"), (0, u "I"), (0, .fieldref 8 14), (0, .nameAndType 15 16), (0, u "parents"), (0, u "[I"), (0, .methodref 8 18), (0, .nameAndType 19 20), (0, u "classOf"), (0, u "(I)I"), (0, .methodref 22 23), (0, .class_ 24), (0, .nameAndType 25 26), (0, u "java/lang/Math"), (0, u "max"), (0, u "(II)I"), (0, .methodref 22 28), (0, .nameAndType 29 26), (0, u "min"), (22, u "(I)V"), (2, u "join"), (0, u "(II)V")] 10

def k2c0 : Code := { maxStack := 2, maxLocals := 2, code := prog_237_method_1_code, exceptionTable := #[], attributes := #[] }
def k2m0 : Method := { name := "<init>", desc := "(I)V", sig := { parameters := [.int], returnType := none }, accessFlags := 0, code := some k2c0 }
def k2c1 : Code := { maxStack := 4, maxLocals := 5, code := prog_237_method_2_code, exceptionTable := #[], attributes := #[] }
def k2m1 : Method := { name := "join", desc := "(II)V", sig := { parameters := [.int, .int], returnType := none }, accessFlags := 0, code := some k2c1 }
def k2c2 : Code := { maxStack := 5, maxLocals := 3, code := prog_237_method_3_code, exceptionTable := #[], attributes := #[] }
def k2m2 : Method := { name := "classOf", desc := "(I)I", sig := { parameters := [.int], returnType := some .int }, accessFlags := 0, code := some k2c2 }
/-- com/example/rising_prime/risingprime/value/ElementClasses -/
def k2 : Class := { plain "com/example/rising_prime/risingprime/value/ElementClasses" (some 0) with
  accessFlags := 32
  interfaces := #[]
  cf := some (fileOf pool2 8 #[] #[{ accessFlags := 0, nameIndex := 5, descriptorIndex := 52, attributes := #[] }, { accessFlags := 0, nameIndex := 55, descriptorIndex := 56, attributes := #[] }, { accessFlags := 0, nameIndex := 19, descriptorIndex := 20, attributes := #[] }] 32 2 #[] #[{ accessFlags := 18, nameIndex := 11, descriptorIndex := 12, attributes := #[] }, { accessFlags := 2, nameIndex := 15, descriptorIndex := 16, attributes := #[] }])
  fields := #[{ name := "size", type := .int, accessFlags := 18, slot := 0, constantValue := 0 }, { name := "parents", type := (.array .int), accessFlags := 2, slot := 1, constantValue := 0 }]
  methods := #[k2m0, k2m1, k2m2]
  instanceTypes := #[.int, (.array .int)]
  staticTypes := #[]
  resolved := Array.replicate 67 none
  statics := none }

def pool3 : Array CpInfo := pool [(1, .class_ 2), (0, u "java/lang/Math"), (1, .class_ 6), (1, u "java/lang/Object"), (0, u "<init>"), (0, u "()V"), (89, .class_ 100), (1, u "java/lang/Math$RandomNumberGeneratorHolder"), (71, u "negativeZeroFloatBits"), (0, u "J"), (2, u "negativeZeroDoubleBits"), (21, u "max"), (2, u "min"), (43, u "$assertionsDisabled"), (0, u "Z"), (88, u "(II)I"), (2, u "twoToTheDoubleScaleDown"), (0, u "D"), (4, u "twoToTheDoubleScaleUp"), (9, u "E"), (3, u "PI"), (2, u "TAU"), (2, u "DEGREES_TO_RADIANS"), (0, u "RADIANS_TO_DEGREES")] 94

def k3m0 : Method := { name := "<init>", desc := "()V", sig := { parameters := [], returnType := none }, accessFlags := 2, code := none }
def k3c1 : Code := { maxStack := 2, maxLocals := 2, code := jdk_29_method_65_code, exceptionTable := #[], attributes := #[] }
def k3m1 : Method := { name := "max", desc := "(II)I", sig := { parameters := [.int, .int], returnType := some .int }, accessFlags := 9, code := some k3c1 }
def k3c2 : Code := { maxStack := 2, maxLocals := 2, code := jdk_29_method_69_code, exceptionTable := #[], attributes := #[] }
def k3m2 : Method := { name := "min", desc := "(II)I", sig := { parameters := [.int, .int], returnType := some .int }, accessFlags := 9, code := some k3c2 }
/-- java/lang/Math -/
def k3 : Class := { plain "java/lang/Math" (some 0) with
  accessFlags := 49
  interfaces := #[]
  cf := some (fileOf pool3 1 #[.nestMembers #[98]] #[{ accessFlags := 2, nameIndex := 7, descriptorIndex := 8, attributes := #[] }, { accessFlags := 9, nameIndex := 198, descriptorIndex := 335, attributes := #[] }, { accessFlags := 9, nameIndex := 201, descriptorIndex := 335, attributes := #[] }] 49 4 #[] #[{ accessFlags := 25, nameIndex := 354, descriptorIndex := 339, attributes := #[] }, { accessFlags := 25, nameIndex := 358, descriptorIndex := 339, attributes := #[] }, { accessFlags := 25, nameIndex := 361, descriptorIndex := 339, attributes := #[] }, { accessFlags := 26, nameIndex := 364, descriptorIndex := 339, attributes := #[] }, { accessFlags := 26, nameIndex := 365, descriptorIndex := 339, attributes := #[] }, { accessFlags := 26, nameIndex := 172, descriptorIndex := 173, attributes := #[] }, { accessFlags := 26, nameIndex := 176, descriptorIndex := 173, attributes := #[] }, { accessFlags := 8, nameIndex := 344, descriptorIndex := 339, attributes := #[] }, { accessFlags := 8, nameIndex := 338, descriptorIndex := 339, attributes := #[] }, { accessFlags := 4120, nameIndex := 245, descriptorIndex := 246, attributes := #[] }])
  fields := #[{ name := "E", type := .double, accessFlags := 25, slot := 0, constantValue := 0 }, { name := "PI", type := .double, accessFlags := 25, slot := 1, constantValue := 0 }, { name := "TAU", type := .double, accessFlags := 25, slot := 2, constantValue := 0 }, { name := "DEGREES_TO_RADIANS", type := .double, accessFlags := 26, slot := 3, constantValue := 0 }, { name := "RADIANS_TO_DEGREES", type := .double, accessFlags := 26, slot := 4, constantValue := 0 }, { name := "negativeZeroFloatBits", type := .long, accessFlags := 26, slot := 5, constantValue := 0 }, { name := "negativeZeroDoubleBits", type := .long, accessFlags := 26, slot := 6, constantValue := 0 }, { name := "twoToTheDoubleScaleUp", type := .double, accessFlags := 8, slot := 7, constantValue := 0 }, { name := "twoToTheDoubleScaleDown", type := .double, accessFlags := 8, slot := 8, constantValue := 0 }, { name := "$assertionsDisabled", type := .boolean, accessFlags := 4120, slot := 9, constantValue := 0 }]
  methods := #[k3m0, k3m1, k3m2]
  instanceTypes := #[]
  staticTypes := #[.double, .double, .double, .double, .double, .long, .long, .double, .double, .boolean]
  resolved := Array.replicate 460 none
  statics := none }

def pool4 : Array CpInfo := pool [(1, u "java/lang/Cloneable"), (0, .class_ 1), (0, u "java/lang/Object"), (0, .class_ 3)] 3

/-- java/lang/Cloneable -/
def k4 : Class := { plain "java/lang/Cloneable" (some 0) with
  accessFlags := 1537
  interfaces := #[]
  cf := some (fileOf pool4 2 #[] #[] 1537 4 #[] #[])
  fields := #[]
  methods := #[]
  instanceTypes := #[]
  staticTypes := #[]
  resolved := Array.replicate 8 none
  statics := none }

def pool5 : Array CpInfo := pool [(1, u "java/io/Serializable"), (0, .class_ 1), (0, u "java/lang/Object"), (0, .class_ 3)] 3

/-- java/io/Serializable -/
def k5 : Class := { plain "java/io/Serializable" (some 0) with
  accessFlags := 1537
  interfaces := #[]
  cf := some (fileOf pool5 2 #[] #[] 1537 4 #[] #[])
  fields := #[]
  methods := #[]
  instanceTypes := #[]
  staticTypes := #[]
  resolved := Array.replicate 8 none
  statics := none }

/-- the primitive byte -/
def k6 : Class := { plain "byte" none with kind := .primitive 'B', accessFlags := 0x411 }
/-- [B -/
def k7 : Class := { plain "[B" (some 0) with kind := .array 6 .byte, interfaces := #[4, 5], accessFlags := 1041 }

/-- the primitive int -/
def k8 : Class := { plain "int" none with kind := .primitive 'I', accessFlags := 0x411 }
/-- [I -/
def k9 : Class := { plain "[I" (some 0) with kind := .array 8 .int, interfaces := #[4, 5], accessFlags := 1041 }

def heap : Heap := #[]
def classes : Array Class := #[k0, k1, k2, k3, k4, k5, k6, k7, k8, k9]
def interned : List (Array UInt16 × Addr) := []
def slotsUsed : Nat := 0
def theMethod : MethodId := ⟨1, 1⟩
def args0 : Array Value := #[.int 7, .int 1, .int 2, .int 3, .int 4]
def aboutOver (below : List Frame) : State where
  vm := { classes := classes, interned := interned.toArray }
  heap := heap
  slotsUsed := slotsUsed
  threads := #[{ frames := .invoking theMethod args0 :: below }]
def below0 : List Frame := [.native { method := ⟨0, 0⟩, args := #[] }]
def about1 : State := aboutOver below0
def p0 : Program := .bare "" "" ""
def e0 : Env := launch0.env 0 0 0
theorem w_frames : about1.frames = Frame.invoking theMethod args0 :: below0 := rfl
set_option maxRecDepth 65536 in
theorem w_args : argsFit about1.vm theMethod args0 = true := by decide +kernel
set_option maxRecDepth 65536 in
theorem w_heap : heapFits about1 = true := by decide +kernel
set_option maxRecDepth 65536 in
theorem w_runnable : about1.curStatus? = some .runnable := by decide +kernel
set_option maxRecDepth 65536 in
theorem w_alone : about1.alone = true := by decide +kernel
set_option maxRecDepth 65536 in
theorem w_named : about1.methodNamed? x = some theMethod := by decide +kernel
set_option maxRecDepth 65536 in
theorem w_hears : about1.hears theMethod below0 = true := by decide +kernel
set_option maxRecDepth 65536 in
theorem w_ripe : about1.ripe theMethod args0 below0 = true := by decide +kernel
theorem w_running : about1.status = .running := rfl
set_option maxRecDepth 65536 in
theorem w_room : about1.hasRoom e0.platform room_1 = true :=
  launch0.hasRoom_least _ room_1 (by decide +kernel) (by decide +kernel) (by decide +kernel) (by decide +kernel) (by decide +kernel) (by decide +kernel)
theorem allAtoms_all (ts : List Jvm.Cond) (a : Array Jvm.Value) (st : Jvm.State) : (allAtoms ts).before a st = ts.all (fun c => c.before a st) := by
  induction ts with
  | nil => rfl
  | cons c t ih =>
    show (Jvm.Cond.and c (allAtoms t)).before a st = _
    rw [Jvm.Cond.before_and, ih, List.all_cons]
def words1 : List Jvm.Cond := Jvm.Cond.code x code maxLocals ret :: tables_1
/-- a 'code' word, met by the world's own term for the bytes: nothing is compared byte by byte -/
theorem code_word {y : MethodName} {bytes : ByteArray} {mx : Nat} {rt : Option FieldType} {a : Array Value} {s : State} {m : MethodId} {meth : Method} {c : Code} (h1 : s.methodNamed? y = some m) (h2 : s.vm.method? m = some meth) (h3 : meth.code = some c) (h4 : c.code = bytes)
    (h5 : (c.maxLocals == mx && c.exceptionTable.isEmpty && decide (c.maxStack ≤ mostOperands) && decide (meth.sig.returnType = rt) && !meth.locks && decide (parseMethodDescriptor y.desc = some meth.sig)) = true) : (Jvm.Cond.code y bytes mx rt).before a s = true := by
  simp only [Bool.and_eq_true, beq_iff_eq, Bool.not_eq_true', decide_eq_true_eq] at h5
  obtain ⟨⟨⟨⟨⟨g1, g2⟩, g3⟩, g4⟩, g5⟩, g6⟩ := h5
  simp [Cond.before, Cond.holds, Cond.value, h1, h2, h3, h4, g1, g2, g3, g4, g5, g6]
def isCode : Jvm.Cond → Bool
  | .code _ _ _ _ => true
  | _ => false
theorem all_split {L : List Jvm.Cond} {P : Jvm.Cond → Bool} (h1 : L.all (fun c => isCode c || P c) = true) (h2 : ∀ c ∈ L.filter isCode, P c = true) : L.all P = true := by
  refine List.all_eq_true.mpr fun c hc => ?_
  have h := List.all_eq_true.mp h1 c hc
  rcases Bool.eq_false_or_eq_true (isCode c) with hi | hi
  · exact h2 c (List.mem_filter.mpr ⟨hc, hi⟩)
  · simpa [hi] using h
set_option maxRecDepth 65536 in
theorem w_c0 : (Jvm.Cond.code x code maxLocals ret).before args0 about1 = true := code_word (m := ⟨1, 1⟩) (meth := k1m1) (c := k1c1) (by decide +kernel) rfl rfl rfl (by decide +kernel)
set_option maxRecDepth 65536 in
theorem w_c1 : (Jvm.Cond.code ({ cls := "com/example/rising_prime/risingprime/value/ElementClasses", name := "<init>", desc := "(I)V" } : Jvm.MethodName) prog_237_method_1_code (2 : Nat) (Option.none : Option Jvm.ClassFile.FieldType)).before args0 about1 = true := code_word (m := ⟨2, 0⟩) (meth := k2m0) (c := k2c0) (by decide +kernel) rfl rfl rfl (by decide +kernel)
set_option maxRecDepth 65536 in
theorem w_c2 : (Jvm.Cond.code ({ cls := "java/lang/Object", name := "<init>", desc := "()V" } : Jvm.MethodName) object_method_1_code (1 : Nat) (Option.none : Option Jvm.ClassFile.FieldType)).before args0 about1 = true := code_word (m := ⟨0, 0⟩) (meth := k0m0) (c := k0c0) (by decide +kernel) rfl rfl rfl (by decide +kernel)
set_option maxRecDepth 65536 in
theorem w_c3 : (Jvm.Cond.code ({ cls := "com/example/rising_prime/risingprime/value/ElementClasses", name := "join", desc := "(II)V" } : Jvm.MethodName) prog_237_method_2_code (5 : Nat) (Option.none : Option Jvm.ClassFile.FieldType)).before args0 about1 = true := code_word (m := ⟨2, 1⟩) (meth := k2m1) (c := k2c1) (by decide +kernel) rfl rfl rfl (by decide +kernel)
set_option maxRecDepth 65536 in
theorem w_c4 : (Jvm.Cond.code ({ cls := "com/example/rising_prime/risingprime/value/ElementClasses", name := "classOf", desc := "(I)I" } : Jvm.MethodName) prog_237_method_3_code (3 : Nat) (Option.some Jvm.ClassFile.FieldType.int)).before args0 about1 = true := code_word (m := ⟨2, 2⟩) (meth := k2m2) (c := k2c2) (by decide +kernel) rfl rfl rfl (by decide +kernel)
set_option maxRecDepth 65536 in
theorem w_c5 : (Jvm.Cond.code ({ cls := "java/lang/Math", name := "max", desc := "(II)I" } : Jvm.MethodName) jdk_29_method_65_code (2 : Nat) (Option.some Jvm.ClassFile.FieldType.int)).before args0 about1 = true := code_word (m := ⟨3, 1⟩) (meth := k3m1) (c := k3c1) (by decide +kernel) rfl rfl rfl (by decide +kernel)
set_option maxRecDepth 65536 in
theorem w_c6 : (Jvm.Cond.code ({ cls := "java/lang/Math", name := "min", desc := "(II)I" } : Jvm.MethodName) jdk_29_method_69_code (2 : Nat) (Option.some Jvm.ClassFile.FieldType.int)).before args0 about1 = true := code_word (m := ⟨3, 2⟩) (meth := k3m2) (c := k3c2) (by decide +kernel) rfl rfl rfl (by decide +kernel)
set_option maxRecDepth 65536 in
theorem w_c7 : (Jvm.Cond.code ({ cls := "com/example/rising_prime/risingprime/value/ElementClassesClassOfPinLaw", name := "merge", desc := "([III)V" } : Jvm.MethodName) method_3_code (7 : Nat) (Option.none : Option Jvm.ClassFile.FieldType)).before args0 about1 = true := code_word (m := ⟨1, 2⟩) (meth := k1m2) (c := k1c2) (by decide +kernel) rfl rfl rfl (by decide +kernel)
def codes1 : List Jvm.Cond := [Jvm.Cond.code x code maxLocals ret, Jvm.Cond.code ({ cls := "com/example/rising_prime/risingprime/value/ElementClasses", name := "<init>", desc := "(I)V" } : Jvm.MethodName) prog_237_method_1_code (2 : Nat) (Option.none : Option Jvm.ClassFile.FieldType), Jvm.Cond.code ({ cls := "java/lang/Object", name := "<init>", desc := "()V" } : Jvm.MethodName) object_method_1_code (1 : Nat) (Option.none : Option Jvm.ClassFile.FieldType), Jvm.Cond.code ({ cls := "com/example/rising_prime/risingprime/value/ElementClasses", name := "join", desc := "(II)V" } : Jvm.MethodName) prog_237_method_2_code (5 : Nat) (Option.none : Option Jvm.ClassFile.FieldType), Jvm.Cond.code ({ cls := "com/example/rising_prime/risingprime/value/ElementClasses", name := "classOf", desc := "(I)I" } : Jvm.MethodName) prog_237_method_3_code (3 : Nat) (Option.some Jvm.ClassFile.FieldType.int), Jvm.Cond.code ({ cls := "java/lang/Math", name := "max", desc := "(II)I" } : Jvm.MethodName) jdk_29_method_65_code (2 : Nat) (Option.some Jvm.ClassFile.FieldType.int), Jvm.Cond.code ({ cls := "java/lang/Math", name := "min", desc := "(II)I" } : Jvm.MethodName) jdk_29_method_69_code (2 : Nat) (Option.some Jvm.ClassFile.FieldType.int), Jvm.Cond.code ({ cls := "com/example/rising_prime/risingprime/value/ElementClassesClassOfPinLaw", name := "merge", desc := "([III)V" } : Jvm.MethodName) method_3_code (7 : Nat) (Option.none : Option Jvm.ClassFile.FieldType)]
set_option maxRecDepth 65536 in
theorem codes_eq : words1.filter isCode = codes1 := rfl
theorem w_codes : ∀ c ∈ words1.filter isCode, c.before args0 about1 = true := by
  rw [codes_eq]
  intro c hc
  simp only [codes1, List.mem_cons, List.not_mem_nil, or_false] at hc
  rcases hc with rfl | rfl | rfl | rfl | rfl | rfl | rfl | rfl
  · exact w_c0
  · exact w_c1
  · exact w_c2
  · exact w_c3
  · exact w_c4
  · exact w_c5
  · exact w_c6
  · exact w_c7
set_option maxRecDepth 65536 in
theorem w_t1 : (words1.take 24).all (fun c => isCode c || c.before args0 about1) = true := by decide +kernel
set_option maxRecDepth 65536 in
theorem w_t2 : (words1.drop 24).all (fun c => isCode c || c.before args0 about1) = true := by decide +kernel
theorem w_tables : (allAtoms (Jvm.Cond.code x code maxLocals ret :: tables_1)).before args0 about1 = true := by
  rw [allAtoms_all]
  show words1.all (fun c => c.before args0 about1) = true
  refine all_split ?_ w_codes
  rw [← List.take_append_drop 24 words1, List.all_append, w_t1, w_t2]
  rfl
set_option maxRecDepth 65536 in
theorem w_case : (Jvm.Cond.and given_1 narrow_1).before args0 about1 = true := by decide +kernel
theorem w_applies : (headSpec (Jvm.Cond.code x code maxLocals ret :: tables_1) room_1).applies x e0.platform about1 = true :=
  (Spec.applies_iff w_frames).mpr ⟨w_running, w_runnable, w_alone, w_named, w_hears, w_ripe, w_room, w_tables⟩
theorem atStart : AtStart classFile x code maxLocals ret World_1 tables_1 room_1 Calls_1 rest_1 Pre_1 launch0 p0 e0 about1 theMethod args0 below0 :=
  ⟨lists_1, trivial, launch0.admits_env _ _ _, launch0.least_env, fairChoices_fair.cas, fairChoices_fair.clock, w_frames, w_args, w_heap, w_applies, trivial, trivial, w_case⟩
end start1
theorem witness_1 : WitnessClaimed_1 := ⟨start1.p0, start1.e0, start1.about1, start1.theMethod, start1.args0, start1.below0, start1.atStart⟩
end Jvm.Pilot.@@N@@
