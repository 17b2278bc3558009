import JvmDerived
import JvmDerived.Pilot.@@N@@Statement
import JvmDerived.Pilot.@@N@@Code
set_option linter.unusedVariables false
set_option linter.unusedSimpArgs false
namespace Jvm.OwnKit
open Sem ClassFile Op Lib Jvm.Stand Jvm.Free Jvm.LawKit Jvm.RoadKit
/-! A layer of this workplace's own over the road kit: the heap made since the law began, as one list of cells by their places ('Wd'), and what is left to run ('Go'), step by step, backwards. -/
abbrev Fl := String × String × String × Value
abbrev Ob := (String × List Fl) ⊕ (FieldType × List Value)
abbrev Wd := List (Addr × Ob)
def Av (Z : State) (h : Heap) (a : Addr) (ty : FieldType) (vs : List Value) : Prop :=
  ∃ c : Cell, Arr Z h a c ty ∧ c.slots.toList = vs ∧ vs.length < 2 ^ 31 ∧ (∀ v ∈ vs, fits ty v = true) ∧ Exa Z h a ("[" ++ ty.toString)
def Hol (Z : State) (h : Heap) (a : Addr) : Ob → Prop
  | .inl (C, fs) => Exa Z h a C ∧ (∀ (i : Nat) (f : Fl), fs[i]? = some f → Fld Z h a f.1 f.2.1 f.2.2.1 f.2.2.2) ∧
      ∀ (i j : Nat) (f g : Fl), fs[i]? = some f → fs[j]? = some g → i ≠ j → Jvm.RoadKit.slotOf Z f.1 f.2.1 f.2.2.1 ≠ Jvm.RoadKit.slotOf Z g.1 g.2.1 g.2.2.1
  | .inr (ty, vs) => Av Z h a ty vs
def Wo (Z : State) (n0 : Nat) (h : Heap) (L : Wd) : Prop :=
  Old Z n0 h ∧ (∀ (i : Nat) (x : Addr × Ob), L[i]? = some x → n0 ≤ x.1 ∧ Hol Z h x.1 x.2) ∧
    ∀ (i j : Nat) (x y : Addr × Ob), L[i]? = some x → L[j]? = some y → x.1 = y.1 → i = j
section Facts
variable {Z : State} {h h' : Heap} {a b : Addr} {n0 : Nat} {L : Wd} {ty : FieldType} {vs : List Value} {o : Ob} {v : Value} {sl : Nat}
theorem Av.lt (A : Av Z h a ty vs) : a < h.size := by obtain ⟨c, h1, -⟩ := A; exact h1.lt
theorem Av.ext (A : Av Z h a ty vs) (E : Ext h h') : Av Z h' a ty vs := by
  obtain ⟨c, h1, h2, h3, h4, h5⟩ := A; exact ⟨c, h1.ext E, h2, h3, h4, h5.ext E⟩
theorem Av.other (A : Av Z h b ty vs) (W : Wr h h' a sl v) (q : b ≠ a) : Av Z h' b ty vs := by
  obtain ⟨c, h1, h2, h3, h4, h5⟩ := A; exact ⟨c, h1.other W q, h2, h3, h4, h5.wr W⟩
theorem Av.same (A : Av Z h a ty vs) {i : Nat} (W : Wr h h' a i v) (hv : fits ty v = true) : Av Z h' a ty (vs.set i v) := by
  obtain ⟨c, h1, h2, h3, h4, h5⟩ := A
  refine ⟨_, h1.same W, ?_, by simpa using h3, fun w hw => ?_, h5.wr W⟩
  · subst h2; simp [Cell.setSlot]
  · rcases List.mem_or_eq_of_mem_set hw with q | q
    · exact h4 w q
    · rw [q]; exact hv
theorem Av.keep {ws : List Addr} (A : Av Z h a ty vs) (K : Keep h h' ws) (q : a ∉ ws) : Av Z h' a ty vs := by
  obtain ⟨c, h1, h2, h3, h4, h5⟩ := A; exact ⟨c, ⟨K.2.1 a c h1.1 q, h1.2⟩, h2, h3, h4, h5.keep K⟩
theorem Hol.lt (H : Hol Z h a o) : a < h.size := by
  rcases o with ⟨C, fs⟩ | ⟨ty, vs⟩
  · exact H.1.lt
  · exact Av.lt H
theorem Hol.ext (H : Hol Z h a o) (E : Ext h h') : Hol Z h' a o := by
  rcases o with ⟨C, fs⟩ | ⟨ty, vs⟩
  · exact ⟨H.1.ext E, fun i f q => (H.2.1 i f q).ext E, H.2.2⟩
  · exact Av.ext H E
theorem Hol.other (H : Hol Z h b o) (W : Wr h h' a sl v) (q : b ≠ a) : Hol Z h' b o := by
  rcases o with ⟨C, fs⟩ | ⟨ty, vs⟩
  · exact ⟨H.1.wr W, fun i f r => (H.2.1 i f r).other W (Or.inl q), H.2.2⟩
  · exact Av.other H W q
theorem Hol.keep {ws : List Addr} (H : Hol Z h a o) (K : Keep h h' ws) (q : a ∉ ws) : Hol Z h' a o := by
  rcases o with ⟨C, fs⟩ | ⟨ty, vs⟩
  · exact ⟨H.1.keep K, fun i f r => (H.2.1 i f r).keep K q, H.2.2⟩
  · exact Av.keep H K q
theorem get_set {α : Type} {xs : List α} {k i : Nat} {x y : α} (h : (xs.set k y)[i]? = some x) : (i = k ∧ x = y) ∨ (i ≠ k ∧ xs[i]? = some x) := by
  by_cases q : k = i
  · subst q
    rw [List.getElem?_set_self'] at h
    left; refine ⟨rfl, ?_⟩
    cases hx : xs[k]? with
    | none => rw [hx] at h; cases h
    | some z => rw [hx] at h; exact (Option.some.inj h).symm
  · right; exact ⟨Ne.symm q, by rwa [List.getElem?_set_ne q] at h⟩
theorem nodup_inj {xs : List String} (h : xs.Nodup) {i j : Nat} {s : String} (hi : xs[i]? = some s) (hj : xs[j]? = some s) : i = j := by
  obtain ⟨i1, i2⟩ := List.getElem?_eq_some_iff.mp hi
  obtain ⟨j1, j2⟩ := List.getElem?_eq_some_iff.mp hj
  have p := List.pairwise_iff_getElem.mp h
  rcases Nat.lt_trichotomy i j with q | q | q
  · exact absurd (i2.trans j2.symm) (p i j i1 j1 q)
  · exact q
  · exact absurd (j2.trans i2.symm) (p j i j1 i1 q)
theorem gne {α : Type} {xs : List α} {k i : Nat} {y : α} {r : Option α} (q : k ≠ i) (h : xs[i]? = r) : (xs.set k y)[i]? = r := by rw [List.getElem?_set_ne q]; exact h
theorem gse {α : Type} {xs : List α} {k : Nat} {x y : α} (h : xs[k]? = some x) : (xs.set k y)[k]? = some y := by
  rw [List.getElem?_set_self (List.getElem?_eq_some_iff.mp h).1]
theorem Wo.ge (W : Wo Z n0 h L) {k : Nat} (hk : L[k]? = some (a, o)) : n0 ≤ a := (W.2.1 k _ hk).1
theorem Wo.at (W : Wo Z n0 h L) {k : Nat} (hk : L[k]? = some (a, o)) : Hol Z h a o := (W.2.1 k _ hk).2
theorem Wo.le (W : Wo Z n0 h L) : n0 ≤ h.size := Nat.le_trans (Nat.le_of_eq W.1.1.symm) W.1.2.1
theorem Wo.ext (W : Wo Z n0 h L) (E : Ext h h') : Wo Z n0 h' L := ⟨W.1.ext E, fun i x q => ⟨(W.2.1 i x q).1, (W.2.1 i x q).2.ext E⟩, W.2.2⟩
theorem Wo.set (W : Wo Z n0 h L) {k : Nat} {o' : Ob} (hk : L[k]? = some (a, o)) (hs : Old Z n0 h') (hn : Hol Z h' a o') (ho : ∀ b o1, b ≠ a → Hol Z h b o1 → Hol Z h' b o1) : Wo Z n0 h' (L.set k (a, o')) := by
  refine ⟨hs, fun i x q => ?_, fun i j x y q r e => ?_⟩
  · rcases get_set q with ⟨rfl, rfl⟩ | ⟨ne, q⟩
    · exact ⟨W.ge hk, hn⟩
    · refine ⟨(W.2.1 i x q).1, ho _ _ (fun z => ne (W.2.2 i k x _ q hk z)) (W.2.1 i x q).2⟩
  · rcases get_set q with ⟨ei, ex⟩ | ⟨ne, q⟩ <;> rcases get_set r with ⟨ej, ey⟩ | ⟨ne', r⟩
    · rw [ei, ej]
    · rw [ex] at e; rw [ei]; exact W.2.2 k j _ _ hk r e
    · rw [ey] at e; rw [ej]; exact W.2.2 i k _ _ q hk e
    · exact W.2.2 _ _ _ _ q r e
theorem Wo.fld (W : Wo Z n0 h L) {k j : Nat} {C O n d : String} {fs : List Fl} {old : Value} (hk : L[k]? = some (a, .inl (C, fs))) (hj : fs[j]? = some (O, n, d, old)) (w : Wr h h' a (Jvm.RoadKit.slotOf Z O n d) v) :
    Wo Z n0 h' (L.set k (a, .inl (C, fs.set j (O, n, d, v)))) := by
  refine W.set hk (W.1.wr w (W.ge hk)) ?_ (fun b o1 ne H => H.other w ne)
  obtain ⟨h1, h2, h3⟩ := W.at hk
  refine ⟨h1.wr w, fun i f q => ?_, fun i i' f g q r ne => ?_⟩
  · rcases get_set q with ⟨ei, ef⟩ | ⟨ne, q⟩
    · rw [ef]
      have q2 : Fld Z h a O n d old := h2 j (O, n, d, old) hj
      show Fld Z h' a O n d v
      exact Fld.same w q2
    · have q2 : Jvm.RoadKit.slotOf Z f.1 f.2.1 f.2.2.1 ≠ Jvm.RoadKit.slotOf Z O n d := h3 i j f (O, n, d, old) q hj ne
      exact Fld.other w (h2 i f q) (Or.inr q2)
  · rcases get_set q with ⟨ei, ef⟩ | ⟨n1, q⟩ <;> rcases get_set r with ⟨ej, eg⟩ | ⟨n2, r⟩
    · exact absurd (ei.trans ej.symm) ne
    · rw [ef]; exact h3 j i' (O, n, d, old) g hj r (fun z => ne (ei.trans z))
    · rw [eg]; exact h3 i j f (O, n, d, old) q hj (fun z => ne (z.trans ej.symm))
    · exact h3 _ _ _ _ q r ne
theorem Wo.arr (W : Wo Z n0 h L) {k i : Nat} (hk : L[k]? = some (a, .inr (ty, vs))) (hv : fits ty v = true) (w : Wr h h' a i v) : Wo Z n0 h' (L.set k (a, .inr (ty, vs.set i v))) :=
  W.set hk (W.1.wr w (W.ge hk)) (Av.same (W.at hk) w hv) (fun b o1 ne H => H.other w ne)
theorem Wo.add (W : Wo Z n0 h L) (E : Ext h h') (H : Hol Z h' h.size o) : Wo Z n0 h' ((h.size, o) :: L) := by
  have lt : ∀ (i : Nat) (x : Addr × Ob), L[i]? = some x → x.1 < h.size := fun i x q => (W.2.1 i x q).2.lt
  refine ⟨W.1.ext E, fun i x q => ?_, fun i j x y q r e => ?_⟩
  · cases i with
    | zero => cases q; exact ⟨W.le, H⟩
    | succ i => rw [List.getElem?_cons_succ] at q; exact ⟨(W.2.1 i x q).1, (W.2.1 i x q).2.ext E⟩
  · cases i with
    | zero =>
      cases j with
      | zero => rfl
      | succ j => rw [List.getElem?_cons_succ] at r; cases q; have := lt j y r; rw [← e] at this; exact absurd this (Nat.lt_irrefl _)
    | succ i =>
      rw [List.getElem?_cons_succ] at q
      cases j with
      | zero => cases r; have := lt i x q; rw [e] at this; exact absurd this (Nat.lt_irrefl _)
      | succ j => rw [List.getElem?_cons_succ] at r; exact congrArg (· + 1) (W.2.2 _ _ _ _ q r e)
theorem Wo.front (W : Wo Z n0 h L) {k : Nat} {x : Addr × Ob} (hk : L[k]? = some x) : Wo Z n0 h (x :: L.eraseIdx k) := by
  have f : ∀ (i : Nat) (y : Addr × Ob), (L.eraseIdx k)[i]? = some y → ∃ j, L[j]? = some y ∧ j ≠ k ∧ j = if i < k then i else i + 1 := fun i y q => by
    rw [List.getElem?_eraseIdx] at q
    by_cases z : i < k
    · rw [if_pos z] at q; exact ⟨i, q, Nat.ne_of_lt z, by rw [if_pos z]⟩
    · rw [if_neg z] at q; exact ⟨i + 1, q, by omega, by rw [if_neg z]⟩
  refine ⟨W.1, fun i y q => ?_, fun i j y z q r e => ?_⟩
  · cases i with
    | zero => cases q; exact W.2.1 k _ hk
    | succ i => rw [List.getElem?_cons_succ] at q; obtain ⟨j, q1, -⟩ := f i y q; exact W.2.1 j y q1
  · cases i with
    | zero =>
      cases j with
      | zero => rfl
      | succ j => rw [List.getElem?_cons_succ] at r; cases q; obtain ⟨j', q1, ne, -⟩ := f j z r; exact absurd (W.2.2 _ _ _ _ hk q1 e).symm ne
    | succ i =>
      rw [List.getElem?_cons_succ] at q
      obtain ⟨i', q1, ne, e1⟩ := f i y q
      cases j with
      | zero => cases r; exact absurd (W.2.2 _ _ _ _ q1 hk e) ne
      | succ j =>
        rw [List.getElem?_cons_succ] at r
        obtain ⟨j', r1, -, e2⟩ := f j z r
        have := W.2.2 _ _ _ _ q1 r1 e
        rw [e1, e2] at this
        split at this <;> split at this <;> omega
theorem Wo.drop (W : Wo Z n0 h L) (k : Nat) : Wo Z n0 h (L.eraseIdx k) := by
  cases hk : L[k]? with
  | none => rw [List.eraseIdx_of_length_le (List.getElem?_eq_none_iff.mp hk)]; exact W
  | some x =>
    have F := W.front hk
    exact ⟨F.1, fun i y q => F.2.1 (i + 1) y q, fun i j y z q r e => Nat.succ.inj (F.2.2 (i + 1) (j + 1) y z q r e)⟩
/-- the index j (an int) is the place i -/
def Ix (j : Int32) (i : Nat) : Prop := ¬ j < 0 ∧ j.toNatClampNeg = i
instance (j : Int32) (i : Nat) : Decidable (Ix j i) := by unfold Ix; exact inferInstance
theorem Ix.ofNat {i : Nat} (h : i < 2 ^ 31) : Ix (Int32.ofNat i) i := by
  have e : (Int32.ofNat i).toInt = i := Int32.toInt_ofNat_of_lt h
  refine ⟨?_, by simp only [Int32.toNatClampNeg, e]; rfl⟩
  rw [Int32.lt_iff_toInt_lt, e]; show ¬ (i : Int) < 0; omega
theorem ltB {i n : Nat} (h : Nat.blt i n = true) : i < n := by simpa using h
theorem Av.inb {c : Cell} {j : Int32} {i : Nat} (hc : c.slots.toList = vs) (hj : Ix j i) (hi : i < vs.length) : ¬ (j < 0 ∨ c.slots.size ≤ j.toNatClampNeg) := by
  rintro (q | q)
  · exact hj.1 q
  · rw [hj.2] at q; subst hc; rw [Array.length_toList] at hi; omega
theorem Av.val {c : Cell} {i : Nat} (hc : c.slots.toList = vs) (hi : vs[i]? = some v) : c.slots[i]? = some v := by
  subst hc; rw [← hi]; simp
end Facts
abbrev Ctx := Program × Env × State × MethodId × Array Value × List Frame × Method × Code
abbrev Ctx.p (κ : Ctx) : Program := κ.1
abbrev Ctx.e (κ : Ctx) : Env := κ.2.1
abbrev Ctx.s (κ : Ctx) : State := κ.2.2.1
abbrev Ctx.m (κ : Ctx) : MethodId := κ.2.2.2.1
abbrev Ctx.args (κ : Ctx) : Array Value := κ.2.2.2.2.1
abbrev Ctx.below (κ : Ctx) : List Frame := κ.2.2.2.2.2.1
abbrev Ctx.meth (κ : Ctx) : Method := κ.2.2.2.2.2.2.1
abbrev Ctx.c (κ : Ctx) : Code := κ.2.2.2.2.2.2.2
def Ok (Z : State) (κ : Ctx) (own : String) (bytes : ByteArray) (maxL : Nat) (ret : Option FieldType) (nm : String) : Prop :=
  κ.p.tables.exec = Jvm.exec ∧ Z.Warmed39 κ.s.vm ∧ κ.s.vm.findClass own = some κ.m.cls ∧ κ.c.code = bytes ∧ κ.c.maxLocals = maxL ∧ κ.meth.sig.returnType = ret ∧ κ.meth.locks = false ∧ κ.meth.name = nm
/-- from here (this heap, this frame) the body runs to its end, and returns what Q says -/
def Go (l : Launch) (Z : State) (n0 : Nat) (R : Room) (Q : Option Value → Wd → Prop) (κ : Ctx) (ce sl : Nat) (L : Wd) (pc : Nat) (Ls : Array Slot) (st : List Value) : Prop :=
  ∀ (T : State) (locs : List Loc), Stand κ.p l κ.e R κ.s κ.m κ.args κ.below κ.meth κ.c T locs ce sl → Fr n0 locs → Wo Z n0 T.heap L →
    ∃ (U : State) (o : Outcome), Steps κ.p.tables κ.e κ.below (T.setTop (mkF κ.m pc Ls st)) U ∧ U.status = .running ∧ Ended U κ.below o ∧
      ∃ (v : Option Value) (Lc : List Loc), o = .returned v ∧ (Fr n0 Lc ∧ ∃ L', Q v L' ∧ Wo Z n0 U.heap L') ∧ FrameEnd κ.s o U Lc R.cells R.slots
/-- the contract of a method, called with these arguments in this world -/
def Con (l : Launch) (Z : State) (n0 : Nat) (y : MethodName) (bytes : ByteArray) (maxL : Nat) (ret : Option FieldType) (rm : Room) (as : List Value) (L : Wd) (Q : Option Value → Wd → Prop) : Prop :=
  ∀ h0, Wo Z n0 h0 L → MetFree l y (head1 [Cond.code y bytes maxL ret] rm) (fun a U => a = as.toArray ∧ Z.Warmed39 U.vm ∧ U.heap = h0) (fun _ _ _ _ _ => True)
    (fun _ U o U' => ∃ (v : Option Value) (Lc : List Loc), o = .returned v ∧ (Fr n0 Lc ∧ ∃ L', Q v L' ∧ Wo Z n0 U'.heap L') ∧ FrameEnd U o U' Lc rm.cells rm.slots)
section Steps
variable {l : Launch} {Z : State} {n0 : Nat} {R : Room} {Q : Option Value → Wd → Prop} {κ : Ctx} {ce sl : Nat} {L : Wd} {pc pc' : Nat} {Ls Ls' : Array Slot} {st rest : List Value} {own : String} {bytes : ByteArray} {maxL : Nat} {ret : Option FieldType} {nm : String} {a0 : Array Value}
/-- what the body owes, over the words ws of its head: the law's own entry and a callee's -/
theorem enter {y : MethodName} {ws : List Cond} {rm : Room} {as : List Value} {h0 : Heap} (W0 : Wo Z n0 h0 L) (hn : plainFor y = true) (ef : ∀ m, entryFrame m as.toArray maxL = mkF m 0 Ls [])
    (body : ∀ κ : Ctx, Ok Z κ y.cls bytes maxL ret y.name → Go l Z n0 rm Q κ 0 0 L 0 Ls []) :
    MetFree l y (head1 (Cond.code y bytes maxL ret :: ws) rm) (fun a U => a = as.toArray ∧ Z.Warmed39 U.vm ∧ U.heap = h0) (fun _ _ _ _ _ => True)
      (fun _ U o U' => ∃ (v : Option Value) (Lc : List Loc), o = .returned v ∧ (Fr n0 Lc ∧ ∃ L', Q v L' ∧ Wo Z n0 U'.heap L') ∧ FrameEnd U o U' Lc rm.cells rm.slots) := by
  refine MetFree.of_bodySF hn hisR ?_
  intro p e s m args below meth c s₁ Bd hml0 hP hK
  obtain ⟨rfl, hZ, hh⟩ := hP
  have hown : s.vm.findClass y.cls = some m.cls := findClass_of_methodNamed Bd.named
  have hnm := (name_of_methodNamed Bd.named Bd.method).1
  have X0 : Stand p l e rm s m as.toArray below meth c s₁ [] 0 0 := Stand.of_body Bd
  have e0 : s₁.heap = h0 := by rw [← hh, Bd.state]; rfl
  obtain ⟨U, o, h1, h2⟩ := body (p, e, s, m, as.toArray, below, meth, c) ⟨Bd.exec, hZ, hown, Bd.bytes, hml0, Bd.returns, Bd.notSynchronized, hnm⟩ s₁ [] X0 (Fr.nil n0) (by rw [e0]; exact W0)
  exact ⟨U, o, castTop (ef m) h1, h2⟩
theorem Con.of {y : MethodName} {rm : Room} {as : List Value} (hn : plainFor y = true) (ef : ∀ m, entryFrame m as.toArray maxL = mkF m 0 Ls [])
    (body : ∀ κ : Ctx, Ok Z κ y.cls bytes maxL ret y.name → Go l Z n0 rm Q κ 0 0 L 0 Ls []) : Con l Z n0 y bytes maxL ret rm as L Q := fun h0 W0 => enter W0 hn ef body
theorem Con.mono {y : MethodName} {rm : Room} {as : List Value} {Q' : Option Value → Wd → Prop} (C : Con l Z n0 y bytes maxL ret rm as L Q) (hq : ∀ v L', Q v L' → Q' v L') : Con l Z n0 y bytes maxL ret rm as L Q' := fun h0 W0 p e h1 h2 h3 s m args below h4 h5 h6 h7 => by
  obtain ⟨n, o, g1, g2, g3, v, Lc, g4, ⟨g5, L', g6, g7⟩, g8⟩ := C h0 W0 p e h1 h2 h3 s m args below h4 h5 h6 h7
  exact ⟨n, o, g1, g2, g3, v, Lc, g4, ⟨g5, L', hq _ _ g6, g7⟩, g8⟩
theorem Go.more {ce' sl' : Nat} (hc : ce ≤ ce') (hs : sl ≤ sl') (nx : Go l Z n0 R Q κ ce' sl' L pc Ls st) : Go l Z n0 R Q κ ce sl L pc Ls st := fun T locs X N W => nx T locs (X.more hc hs) N W
theorem s_front {k : Nat} {x : Addr × Ob} {L' : Wd} (hk : L[k]? = some x) (hL : x :: L.eraseIdx k = L') (nx : Go l Z n0 R Q κ ce sl L' pc Ls st) : Go l Z n0 R Q κ ce sl L pc Ls st := by
  subst hL; exact fun T locs X N W => nx T locs X N (W.front hk)
theorem Go.conv {L' : Wd} (hL : L = L') (nx : Go l Z n0 R Q κ ce sl L' pc Ls st) : Go l Z n0 R Q κ ce sl L pc Ls st := by subst hL; exact nx
theorem s_drop {k : Nat} {L' : Wd} (hL : L.eraseIdx k = L') (nx : Go l Z n0 R Q κ ce sl L' pc Ls st) : Go l Z n0 R Q κ ce sl L pc Ls st := by
  subst hL; exact fun T locs X N W => nx T locs X N (W.drop k)
theorem Go.step (nx : Go l Z n0 R Q κ ce sl L pc' Ls' rest) (h : ∀ (T : State) (locs : List Loc), Stand κ.p l κ.e R κ.s κ.m κ.args κ.below κ.meth κ.c T locs ce sl → ∀ target, Steps κ.p.tables κ.e κ.below (T.setTop (mkF κ.m pc' Ls' rest)) target → Steps κ.p.tables κ.e κ.below (T.setTop (mkF κ.m pc Ls st)) target) : Go l Z n0 R Q κ ce sl L pc Ls st :=
  fun T locs X N W => by obtain ⟨U, o, h1, h2⟩ := nx T locs X N W; exact ⟨U, o, h T locs X U h1, h2⟩
theorem Ok.dec {r : Except DecodeError (Instr × Nat)} (K : Ok Z κ own bytes maxL ret nm) (h : decode bytes pc = r) : decode κ.c.code pc = r := hb K.2.2.2.1 h
theorem Ok.ex (K : Ok Z κ own bytes maxL ret nm) : κ.p.tables.exec = Jvm.exec := K.1
theorem Ok.zw (K : Ok Z κ own bytes maxL ret nm) : Z.Warmed39 κ.s.vm := K.2.1
theorem Ok.ow (K : Ok Z κ own bytes maxL ret nm) : κ.s.vm.findClass own = some κ.m.cls := K.2.2.1
theorem s_aloadN (K : Ok Z κ own bytes maxL ret nm) {k : Fin 4} {v : Value} (hd : decode bytes pc = .ok (.aload_n k, 1)) (e : pc + 1 = pc') (hl : Ls[k.val]? = some (.val v)) (hv : v.isRef = true) (nx : Go l Z n0 R Q κ ce sl L pc' Ls (v :: st)) : Go l Z n0 R Q κ ce sl L pc Ls st := by
  subst e; exact nx.step fun T locs X target h => XS.aloadN X.here K.ex rfl (K.dec hd) hl hv h
theorem s_aload (K : Ok Z κ own bytes maxL ret nm) {k : Nat} {v : Value} (hd : decode bytes pc = .ok (.aload k, 2)) (e : pc + 2 = pc') (hl : Ls[k]? = some (.val v)) (hv : v.isRef = true) (nx : Go l Z n0 R Q κ ce sl L pc' Ls (v :: st)) : Go l Z n0 R Q κ ce sl L pc Ls st := by
  subst e; exact nx.step fun T locs X target h => XS.aload X.here K.ex rfl (K.dec hd) hl hv h
theorem s_iloadN (K : Ok Z κ own bytes maxL ret nm) {k : Fin 4} {v : Int32} (hd : decode bytes pc = .ok (.iload_n k, 1)) (e : pc + 1 = pc') (hl : Ls[k.val]? = some (.val (.int v))) (nx : Go l Z n0 R Q κ ce sl L pc' Ls (.int v :: st)) : Go l Z n0 R Q κ ce sl L pc Ls st := by
  subst e; exact nx.step fun T locs X target h => XS.iloadN X.here K.ex rfl (K.dec hd) hl h
theorem s_iload (K : Ok Z κ own bytes maxL ret nm) {k : Nat} {v : Int32} (hd : decode bytes pc = .ok (.iload k, 2)) (e : pc + 2 = pc') (hl : Ls[k]? = some (.val (.int v))) (nx : Go l Z n0 R Q κ ce sl L pc' Ls (.int v :: st)) : Go l Z n0 R Q κ ce sl L pc Ls st := by
  subst e; exact nx.step fun T locs X target h => XS.iload X.here K.ex rfl (K.dec hd) hl h
theorem s_lloadN (K : Ok Z κ own bytes maxL ret nm) {k : Fin 4} {v : Int64} (hd : decode bytes pc = .ok (.lload_n k, 1)) (e : pc + 1 = pc') (hl : Ls[k.val]? = some (.val (.long v))) (nx : Go l Z n0 R Q κ ce sl L pc' Ls (.long v :: st)) : Go l Z n0 R Q κ ce sl L pc Ls st := by
  subst e; exact nx.step fun T locs X target h => XT.lloadN X.here K.ex rfl (K.dec hd) hl h
theorem s_lload (K : Ok Z κ own bytes maxL ret nm) {k : Nat} {v : Int64} (hd : decode bytes pc = .ok (.lload k, 2)) (e : pc + 2 = pc') (hl : Ls[k]? = some (.val (.long v))) (nx : Go l Z n0 R Q κ ce sl L pc' Ls (.long v :: st)) : Go l Z n0 R Q κ ce sl L pc Ls st := by
  subst e; exact nx.step fun T locs X target h => XT.lload X.here K.ex rfl (K.dec hd) hl h
theorem s_iconst (K : Ok Z κ own bytes maxL ret nm) {i : Int} {z : Int32} (hd : decode bytes pc = .ok (.iconst i, 1)) (e : pc + 1 = pc') (hz : Int32.ofInt i = z) (nx : Go l Z n0 R Q κ ce sl L pc' Ls (.int z :: st)) : Go l Z n0 R Q κ ce sl L pc Ls st := by
  subst e hz; exact nx.step fun T locs X target h => XS.iconst X.here K.ex rfl (K.dec hd) h
theorem s_bipush (K : Ok Z κ own bytes maxL ret nm) {i : Int} {z : Int32} (hd : decode bytes pc = .ok (.bipush i, 2)) (e : pc + 2 = pc') (hz : (Int8.ofInt i).toInt32 = z) (nx : Go l Z n0 R Q κ ce sl L pc' Ls (.int z :: st)) : Go l Z n0 R Q κ ce sl L pc Ls st := by
  subst e hz; exact nx.step fun T locs X target h => XS.bipush X.here K.ex rfl (K.dec hd) h
theorem s_sipush (K : Ok Z κ own bytes maxL ret nm) {i : Int} {z : Int32} (hd : decode bytes pc = .ok (.sipush i, 3)) (e : pc + 3 = pc') (hz : (Int16.ofInt i).toInt32 = z) (nx : Go l Z n0 R Q κ ce sl L pc' Ls (.int z :: st)) : Go l Z n0 R Q κ ce sl L pc Ls st := by
  subst e hz; exact nx.step fun T locs X target h => XS.sipush X.here K.ex rfl (K.dec hd) h
theorem s_null (K : Ok Z κ own bytes maxL ret nm) (hd : decode bytes pc = .ok (.aconst_null, 1)) (e : pc + 1 = pc') (nx : Go l Z n0 R Q κ ce sl L pc' Ls (.null :: st)) : Go l Z n0 R Q κ ce sl L pc Ls st := by
  subst e; exact nx.step fun T locs X target h => XS.aconstNull X.here K.ex rfl (K.dec hd) h
theorem s_ldc (K : Ok Z κ own bytes maxL ret nm) {i : Nat} {z : Int32} (hd : decode bytes pc = .ok (.ldc i, 2)) (e : pc + 2 = pc') (w : (Cond.constant own i z).before a0 Z = true) (nx : Go l Z n0 R Q κ ce sl L pc' Ls (.int z :: st)) : Go l Z n0 R Q κ ce sl L pc Ls st := by
  subst e; exact nx.step fun T locs X target h => X.ldcInt K.ex K.ow (mvT K.zw w) (g := mkF κ.m pc Ls st) rfl (K.dec hd) target h
theorem s_iadd (K : Ok Z κ own bytes maxL ret nm) {z : Int32} {x y : Int32} (hd : decode bytes pc = .ok (.iadd, 1)) (e : pc + 1 = pc') (hz : x + y = z) (nx : Go l Z n0 R Q κ ce sl L pc' Ls (.int z :: st)) : Go l Z n0 R Q κ ce sl L pc Ls (.int y :: .int x :: st) := by
  subst e hz; exact nx.step fun T locs X target h => XS.iadd X.here K.ex rfl (K.dec hd) rfl h
theorem s_isub (K : Ok Z κ own bytes maxL ret nm) {z : Int32} {x y : Int32} (hd : decode bytes pc = .ok (.isub, 1)) (e : pc + 1 = pc') (hz : x - y = z) (nx : Go l Z n0 R Q κ ce sl L pc' Ls (.int z :: st)) : Go l Z n0 R Q κ ce sl L pc Ls (.int y :: .int x :: st) := by
  subst e hz; exact nx.step fun T locs X target h => XS.isub X.here K.ex rfl (K.dec hd) rfl h
theorem s_imul (K : Ok Z κ own bytes maxL ret nm) {z : Int32} {x y : Int32} (hd : decode bytes pc = .ok (.imul, 1)) (e : pc + 1 = pc') (hz : x * y = z) (nx : Go l Z n0 R Q κ ce sl L pc' Ls (.int z :: st)) : Go l Z n0 R Q κ ce sl L pc Ls (.int y :: .int x :: st) := by
  subst e hz; exact nx.step fun T locs X target h => XS.imul X.here K.ex rfl (K.dec hd) rfl h
theorem s_irem (K : Ok Z κ own bytes maxL ret nm) {z : Int32} {x y : Int32} (hd : decode bytes pc = .ok (.irem, 1)) (e : pc + 1 = pc') (hy : y ≠ 0) (hz : x % y = z) (nx : Go l Z n0 R Q κ ce sl L pc' Ls (.int z :: st)) : Go l Z n0 R Q κ ce sl L pc Ls (.int y :: .int x :: st) := by
  subst e hz; exact nx.step fun T locs X target h => iremM X K.ex rfl (K.dec hd) rfl hy h
theorem s_idiv (K : Ok Z κ own bytes maxL ret nm) {z : Int32} {x y : Int32} (hd : decode bytes pc = .ok (.idiv, 1)) (e : pc + 1 = pc') (hy : y ≠ 0) (hz : x / y = z) (nx : Go l Z n0 R Q κ ce sl L pc' Ls (.int z :: st)) : Go l Z n0 R Q κ ce sl L pc Ls (.int y :: .int x :: st) := by
  subst e hz; exact nx.step fun T locs X target h => XS.idiv X.here K.ex rfl (K.dec hd) rfl hy h
theorem s_iand (K : Ok Z κ own bytes maxL ret nm) {z : Int32} {x y : Int32} (hd : decode bytes pc = .ok (.iand, 1)) (e : pc + 1 = pc') (hz : x &&& y = z) (nx : Go l Z n0 R Q κ ce sl L pc' Ls (.int z :: st)) : Go l Z n0 R Q κ ce sl L pc Ls (.int y :: .int x :: st) := by
  subst e hz; exact nx.step fun T locs X target h => XS.iand X.here K.ex rfl (K.dec hd) rfl h
theorem s_dup (K : Ok Z κ own bytes maxL ret nm) {x : Value} (hd : decode bytes pc = .ok (.dup, 1)) (e : pc + 1 = pc') (hc : x.category = 1) (nx : Go l Z n0 R Q κ ce sl L pc' Ls (x :: x :: st)) : Go l Z n0 R Q κ ce sl L pc Ls (x :: st) := by
  subst e; exact nx.step fun T locs X target h => XS.dup X.here K.ex rfl (K.dec hd) rfl hc h
theorem s_istoreN (K : Ok Z κ own bytes maxL ret nm) {k : Fin 4} {x : Int32} (hd : decode bytes pc = .ok (.istore_n k, 1)) (e : pc + 1 = pc') (hl : storeLocals Ls k.val (.int x) = some Ls') (nx : Go l Z n0 R Q κ ce sl L pc' Ls' st) : Go l Z n0 R Q κ ce sl L pc Ls (.int x :: st) := by
  subst e; exact nx.step fun T locs X target h => XS.istoreN X.here K.ex rfl (K.dec hd) rfl hl h
theorem s_istore (K : Ok Z κ own bytes maxL ret nm) {k : Nat} {x : Int32} (hd : decode bytes pc = .ok (.istore k, 2)) (e : pc + 2 = pc') (hl : storeLocals Ls k (.int x) = some Ls') (nx : Go l Z n0 R Q κ ce sl L pc' Ls' st) : Go l Z n0 R Q κ ce sl L pc Ls (.int x :: st) := by
  subst e; exact nx.step fun T locs X target h => XS.istore X.here K.ex rfl (K.dec hd) rfl hl h
theorem s_astoreN (K : Ok Z κ own bytes maxL ret nm) {k : Fin 4} {x : Value} (hd : decode bytes pc = .ok (.astore_n k, 1)) (e : pc + 1 = pc') (hv : x.isRef = true) (hl : storeLocals Ls k.val x = some Ls') (nx : Go l Z n0 R Q κ ce sl L pc' Ls' st) : Go l Z n0 R Q κ ce sl L pc Ls (x :: st) := by
  subst e; exact nx.step fun T locs X target h => XS.astoreN X.here K.ex rfl (K.dec hd) rfl hv hl h
theorem s_astore (K : Ok Z κ own bytes maxL ret nm) {k : Nat} {x : Value} (hd : decode bytes pc = .ok (.astore k, 2)) (e : pc + 2 = pc') (hv : x.isRef = true) (hl : storeLocals Ls k x = some Ls') (nx : Go l Z n0 R Q κ ce sl L pc' Ls' st) : Go l Z n0 R Q κ ce sl L pc Ls (x :: st) := by
  subst e; exact nx.step fun T locs X target h => XS.astore X.here K.ex rfl (K.dec hd) rfl hv hl h
theorem s_lstoreN (K : Ok Z κ own bytes maxL ret nm) {k : Fin 4} {x : Int64} (hd : decode bytes pc = .ok (.lstore_n k, 1)) (e : pc + 1 = pc') (hl : storeLocals Ls k.val (.long x) = some Ls') (nx : Go l Z n0 R Q κ ce sl L pc' Ls' st) : Go l Z n0 R Q κ ce sl L pc Ls (.long x :: st) := by
  subst e; exact nx.step fun T locs X target h => XT.lstoreN X.here K.ex rfl (K.dec hd) rfl hl h
theorem s_lstore (K : Ok Z κ own bytes maxL ret nm) {k : Nat} {x : Int64} (hd : decode bytes pc = .ok (.lstore k, 2)) (e : pc + 2 = pc') (hl : storeLocals Ls k (.long x) = some Ls') (nx : Go l Z n0 R Q κ ce sl L pc' Ls' st) : Go l Z n0 R Q κ ce sl L pc Ls (.long x :: st) := by
  subst e; exact nx.step fun T locs X target h => XT.lstore X.here K.ex rfl (K.dec hd) rfl hl h
theorem s_iinc (K : Ok Z κ own bytes maxL ret nm) {k : Nat} {cst : Int} {x z : Int32} (hd : decode bytes pc = .ok (.iinc k cst, 3)) (e : pc + 3 = pc') (hl : Ls[k]? = some (.val (.int x))) (hz : x + Int32.ofInt cst = z) (hl' : storeLocals Ls k (.int z) = some Ls') (nx : Go l Z n0 R Q κ ce sl L pc' Ls' st) : Go l Z n0 R Q κ ce sl L pc Ls st := by
  subst e hz; exact nx.step fun T locs X target h => XS.iinc X.here K.ex rfl (K.dec hd) hl hl' h
theorem s_goto (K : Ok Z κ own bytes maxL ret nm) {o : Int} (hd : decode bytes pc = .ok (.goto o, 3)) (ho : 0 ≤ (pc : Int) + o) (hp : ((pc : Int) + o).toNat = pc') (nx : Go l Z n0 R Q κ ce sl L pc' Ls st) : Go l Z n0 R Q κ ce sl L pc Ls st :=
  nx.step fun T locs X target h => XS.goto X.here K.ex rfl rfl (K.dec hd) ho hp h
theorem s_ifY (K : Ok Z κ own bytes maxL ret nm) {cd : ClassFile.Cond} {x : Int32} {o : Int} (hd : decode bytes pc = .ok (.ifCond cd o, 3)) (hc : ifCond.holds cd x = true) (ho : 0 ≤ (pc : Int) + o) (hp : ((pc : Int) + o).toNat = pc') (nx : Go l Z n0 R Q κ ce sl L pc' Ls st) : Go l Z n0 R Q κ ce sl L pc Ls (.int x :: st) :=
  nx.step fun T locs X target h => XS.ifYes X.here K.ex rfl rfl (K.dec hd) rfl hc ho hp h
theorem s_ifN (K : Ok Z κ own bytes maxL ret nm) {cd : ClassFile.Cond} {x : Int32} {o : Int} (hd : decode bytes pc = .ok (.ifCond cd o, 3)) (e : pc + 3 = pc') (hc : ifCond.holds cd x = false) (nx : Go l Z n0 R Q κ ce sl L pc' Ls st) : Go l Z n0 R Q κ ce sl L pc Ls (.int x :: st) := by
  subst e; exact nx.step fun T locs X target h => XS.ifNo X.here K.ex rfl (K.dec hd) rfl hc h
theorem s_icY (K : Ok Z κ own bytes maxL ret nm) {cd : ClassFile.Cond} {x y : Int32} {o : Int} (hd : decode bytes pc = .ok (.if_icmp cd o, 3)) (hc : if_icmp.holds cd x y = true) (ho : 0 ≤ (pc : Int) + o) (hp : ((pc : Int) + o).toNat = pc') (nx : Go l Z n0 R Q κ ce sl L pc' Ls st) : Go l Z n0 R Q κ ce sl L pc Ls (.int y :: .int x :: st) :=
  nx.step fun T locs X target h => XS.icmpYes X.here K.ex rfl rfl (K.dec hd) rfl hc ho hp h
theorem s_icN (K : Ok Z κ own bytes maxL ret nm) {cd : ClassFile.Cond} {x y : Int32} {o : Int} (hd : decode bytes pc = .ok (.if_icmp cd o, 3)) (e : pc + 3 = pc') (hc : if_icmp.holds cd x y = false) (nx : Go l Z n0 R Q κ ce sl L pc' Ls st) : Go l Z n0 R Q κ ce sl L pc Ls (.int y :: .int x :: st) := by
  subst e; exact nx.step fun T locs X target h => XS.icmpNo X.here K.ex rfl (K.dec hd) rfl hc h
theorem s_nullY (K : Ok Z κ own bytes maxL ret nm) {o : Int} (hd : decode bytes pc = .ok (.ifnull o, 3)) (ho : 0 ≤ (pc : Int) + o) (hp : ((pc : Int) + o).toNat = pc') (nx : Go l Z n0 R Q κ ce sl L pc' Ls st) : Go l Z n0 R Q κ ce sl L pc Ls (.null :: st) :=
  nx.step fun T locs X target h => XS.ifnullYes X.here K.ex rfl rfl (K.dec hd) rfl ho hp h
theorem s_nullN (K : Ok Z κ own bytes maxL ret nm) {o : Int} {b : Addr} (hd : decode bytes pc = .ok (.ifnull o, 3)) (e : pc + 3 = pc') (nx : Go l Z n0 R Q κ ce sl L pc' Ls st) : Go l Z n0 R Q κ ce sl L pc Ls (.ref b :: st) := by
  subst e; exact nx.step fun T locs X target h => XS.ifnullNo X.here K.ex rfl (K.dec hd) rfl h
theorem s_nonnullY (K : Ok Z κ own bytes maxL ret nm) {o : Int} {b : Addr} (hd : decode bytes pc = .ok (.ifnonnull o, 3)) (ho : 0 ≤ (pc : Int) + o) (hp : ((pc : Int) + o).toNat = pc') (nx : Go l Z n0 R Q κ ce sl L pc' Ls st) : Go l Z n0 R Q κ ce sl L pc Ls (.ref b :: st) :=
  nx.step fun T locs X target h => XT.ifnonnullYes X.here K.ex rfl rfl (K.dec hd) rfl ho hp h
theorem s_nonnullN (K : Ok Z κ own bytes maxL ret nm) {o : Int} (hd : decode bytes pc = .ok (.ifnonnull o, 3)) (e : pc + 3 = pc') (nx : Go l Z n0 R Q κ ce sl L pc' Ls st) : Go l Z n0 R Q κ ce sl L pc Ls (.null :: st) := by
  subst e; exact nx.step fun T locs X target h => XT.ifnonnullNo X.here K.ex rfl (K.dec hd) rfl h
theorem s_iushr (K : Ok Z κ own bytes maxL ret nm) {x y z : Int32} (hd : decode bytes pc = .ok (.iushr, 1)) (e : pc + 1 = pc') (hz : XT.ushr x y = z) (nx : Go l Z n0 R Q κ ce sl L pc' Ls (.int z :: st)) : Go l Z n0 R Q κ ce sl L pc Ls (.int y :: .int x :: st) := by
  subst e hz; exact nx.step fun T locs X target h => XT.iushr X.here K.ex rfl (K.dec hd) rfl h
theorem s_i2b (K : Ok Z κ own bytes maxL ret nm) {z : Int32} {x : Int32} (hd : decode bytes pc = .ok (.i2b, 1)) (e : pc + 1 = pc') (hz : x.toInt8.toInt32 = z) (nx : Go l Z n0 R Q κ ce sl L pc' Ls (.int z :: st)) : Go l Z n0 R Q κ ce sl L pc Ls (.int x :: st) := by
  subst e hz; exact nx.step fun T locs X target h => XT.i2b X.here K.ex rfl (K.dec hd) rfl h
theorem s_dupx1 (K : Ok Z κ own bytes maxL ret nm) {x y : Value} (hd : decode bytes pc = .ok (.dup_x1, 1)) (e : pc + 1 = pc') (hc : x.category = 1) (hc' : y.category = 1) (nx : Go l Z n0 R Q κ ce sl L pc' Ls (x :: y :: x :: st)) : Go l Z n0 R Q κ ce sl L pc Ls (x :: y :: st) := by
  subst e; exact nx.step fun T locs X target h => XT.dupX1 X.here K.ex rfl (K.dec hd) rfl hc hc' h
theorem s_dup2 (K : Ok Z κ own bytes maxL ret nm) {x y : Value} (hd : decode bytes pc = .ok (.dup2, 1)) (e : pc + 1 = pc') (hc : x.category = 1) (hc' : y.category = 1) (nx : Go l Z n0 R Q κ ce sl L pc' Ls (x :: y :: x :: y :: st)) : Go l Z n0 R Q κ ce sl L pc Ls (x :: y :: st) := by
  subst e; exact nx.step fun T locs X target h => XT.dup2 X.here K.ex rfl (K.dec hd) rfl hc hc' h
theorem s_pop (K : Ok Z κ own bytes maxL ret nm) {x : Value} (hd : decode bytes pc = .ok (.pop, 1)) (e : pc + 1 = pc') (hc : x.category = 1) (nx : Go l Z n0 R Q κ ce sl L pc' Ls st) : Go l Z n0 R Q κ ce sl L pc Ls (x :: st) := by
  subst e; exact nx.step fun T locs X target h => XT.pop X.here K.ex rfl (K.dec hd) rfl hc h
theorem s_lcmp (K : Ok Z κ own bytes maxL ret nm) {x y : Int64} (hd : decode bytes pc = .ok (.lcmp, 1)) (e : pc + 1 = pc') (nx : Go l Z n0 R Q κ ce sl L pc' Ls (.int (XT.cmpL x y) :: st)) : Go l Z n0 R Q κ ce sl L pc Ls (.long y :: .long x :: st) := by
  subst e; exact nx.step fun T locs X target h => XT.lcmp X.here K.ex rfl (K.dec hd) rfl h
theorem s_ladd (K : Ok Z κ own bytes maxL ret nm) {z : Int64} {x y : Int64} (hd : decode bytes pc = .ok (.ladd, 1)) (e : pc + 1 = pc') (hz : x + y = z) (nx : Go l Z n0 R Q κ ce sl L pc' Ls (.long z :: st)) : Go l Z n0 R Q κ ce sl L pc Ls (.long y :: .long x :: st) := by
  subst e hz; exact nx.step fun T locs X target h => XT.ladd X.here K.ex rfl (K.dec hd) rfl h
theorem s_lxor (K : Ok Z κ own bytes maxL ret nm) {z : Int64} {x y : Int64} (hd : decode bytes pc = .ok (.lxor, 1)) (e : pc + 1 = pc') (hz : x ^^^ y = z) (nx : Go l Z n0 R Q κ ce sl L pc' Ls (.long z :: st)) : Go l Z n0 R Q κ ce sl L pc Ls (.long y :: .long x :: st) := by
  subst e hz; exact nx.step fun T locs X target h => XT.lxor X.here K.ex rfl (K.dec hd) rfl h
theorem s_lushr (K : Ok Z κ own bytes maxL ret nm) {z : Int64} {x : Int64} {y : Int32} (hd : decode bytes pc = .ok (.lushr, 1)) (e : pc + 1 = pc') (hz : XT.ushrL x y = z) (nx : Go l Z n0 R Q κ ce sl L pc' Ls (.long z :: st)) : Go l Z n0 R Q κ ce sl L pc Ls (.int y :: .long x :: st) := by
  subst e hz; exact nx.step fun T locs X target h => XT.lushr X.here K.ex rfl (K.dec hd) rfl h
theorem s_l2i (K : Ok Z κ own bytes maxL ret nm) {z : Int32} {x : Int64} (hd : decode bytes pc = .ok (.l2i, 1)) (e : pc + 1 = pc') (hz : x.toInt32 = z) (nx : Go l Z n0 R Q κ ce sl L pc' Ls (.int z :: st)) : Go l Z n0 R Q κ ce sl L pc Ls (.long x :: st) := by
  subst e hz; exact nx.step fun T locs X target h => XT.l2i X.here K.ex rfl (K.dec hd) rfl h
theorem s_dupx2 (K : Ok Z κ own bytes maxL ret nm) {x y z : Value} (hd : decode bytes pc = .ok (.dup_x2, 1)) (e : pc + 1 = pc') (hc : x.category = 1) (hc' : y.category = 1) (hc'' : z.category = 1) (nx : Go l Z n0 R Q κ ce sl L pc' Ls (x :: y :: z :: x :: st)) : Go l Z n0 R Q κ ce sl L pc Ls (x :: y :: z :: st) := by
  subst e; exact nx.step fun T locs X target h => by
    have hx := K.ex
    have hd' := K.dec hd
    jvm_step X.here [X.here.top, hx, hd', hc, hc', hc'']
    exact h
theorem s_if (K : Ok Z κ own bytes maxL ret nm) {cd : ClassFile.Cond} {x : Int32} {o : Int} {pn : Nat} (hd : decode bytes pc = .ok (.ifCond cd o, 3)) (e : pc + 3 = pn) (ho : 0 ≤ (pc : Int) + o) (hp : ((pc : Int) + o).toNat = pc') (yes : ifCond.holds cd x = true → Go l Z n0 R Q κ ce sl L pc' Ls st) (no : ifCond.holds cd x = false → Go l Z n0 R Q κ ce sl L pn Ls st) : Go l Z n0 R Q κ ce sl L pc Ls (.int x :: st) := by
  cases h : ifCond.holds cd x
  · exact s_ifN K hd e h (no h)
  · exact s_ifY K hd h ho hp (yes h)
theorem s_ic (K : Ok Z κ own bytes maxL ret nm) {cd : ClassFile.Cond} {x y : Int32} {o : Int} {pn : Nat} (hd : decode bytes pc = .ok (.if_icmp cd o, 3)) (e : pc + 3 = pn) (ho : 0 ≤ (pc : Int) + o) (hp : ((pc : Int) + o).toNat = pc') (yes : if_icmp.holds cd x y = true → Go l Z n0 R Q κ ce sl L pc' Ls st) (no : if_icmp.holds cd x y = false → Go l Z n0 R Q κ ce sl L pn Ls st) : Go l Z n0 R Q κ ce sl L pc Ls (.int y :: .int x :: st) := by
  cases h : if_icmp.holds cd x y
  · exact s_icN K hd e h (no h)
  · exact s_icY K hd h ho hp (yes h)
/-! the heap -/
theorem s_getf (K : Ok Z κ own bytes maxL ret nm) {idx k j : Nat} {O n d C : String} {a : Addr} {fs : List Fl} {v : Value} (hd : decode bytes pc = .ok (.getfield idx, 3)) (e : pc + 3 = pc') (w : (Cond.fieldLink own idx O n d).before a0 Z = true)
    (hk : L[k]? = some (a, .inl (C, fs))) (hj : fs[j]? = some (O, n, d, v)) (nx : Go l Z n0 R Q κ ce sl L pc' Ls (v :: st)) : Go l Z n0 R Q κ ce sl L pc Ls (.ref a :: st) := by
  subst e; intro T locs X N W
  obtain ⟨T', X', e', stp⟩ := getF X K.ex K.zw K.ow (host := "") (Or.inl w) Via.refl rfl ((W.at hk).2.1 _ _ hj) (g := mkF κ.m pc Ls (.ref a :: st)) rfl rfl (K.dec hd)
  obtain ⟨U, o, h1, h2⟩ := nx T' locs X' N (by rw [e']; exact W)
  exact ⟨U, o, stp U h1, h2⟩
theorem s_putf (K : Ok Z κ own bytes maxL ret nm) {idx k j kk : Nat} {O n d C : String} {a : Addr} {fs : List Fl} {v old : Value} {ty : FieldType} {L' : Wd} (hd : decode bytes pc = .ok (.putfield idx, 3)) (e : pc + 3 = pc') (w : (Cond.fieldLink own idx O n d).before a0 Z = true)
    (w2 : (Cond.lays C O n d).before a0 Z = true ∨ ((Cond.laysFinal C O n d).before a0 Z = true ∧ own = O ∧ nm = "<init>")) (w3 : (Cond.instantiable C kk).before a0 Z = true) (hty : parseFieldDescriptor d = some ty) (hn : narrow ty v = v) (hf : fits ty v = true)
    (hk : L[k]? = some (a, .inl (C, fs))) (hj : fs[j]? = some (O, n, d, old)) (hL : L.set k (a, .inl (C, fs.set j (O, n, d, v))) = L') (nx : Go l Z n0 R Q κ ce sl L' pc' Ls st) : Go l Z n0 R Q κ ce sl L pc Ls (v :: .ref a :: st) := by
  subst e hL; intro T locs X N W
  obtain ⟨T', h', X', e', Wr', stp⟩ := putF X K.ex K.zw K.ow (host := "") (Or.inl w) Via.refl rfl ((W.at hk).2.1 _ _ hj) (W.at hk).1 (w2.imp id fun q => ⟨q.1, q.2.1, K.2.2.2.2.2.2.2.trans q.2.2⟩) w3 hty hn hf (g := mkF κ.m pc Ls (v :: .ref a :: st)) rfl rfl (K.dec hd)
  obtain ⟨U, o, h1, h2⟩ := nx T' _ X' (Fr.snoc X' N (W.ge hk)) (by rw [e']; exact W.fld hk hj Wr')
  exact ⟨U, o, stp U h1, h2⟩
theorem s_len (K : Ok Z κ own bytes maxL ret nm) {k : Nat} {a : Addr} {ty : FieldType} {vs : List Value} {z : Int32} (hd : decode bytes pc = .ok (.arraylength, 1)) (e : pc + 1 = pc') (hk : L[k]? = some (a, .inr (ty, vs))) (hz : Int32.ofNat vs.length = z)
    (nx : Go l Z n0 R Q κ ce sl L pc' Ls (.int z :: st)) : Go l Z n0 R Q κ ce sl L pc Ls (.ref a :: st) := by
  subst e hz; intro T locs X N W
  obtain ⟨c, A, hc, -⟩ := W.at hk
  obtain ⟨U, o, h1, h2⟩ := nx T locs X N W
  refine ⟨U, o, ?_, h2⟩
  refine X.arraylength K.ex A.1 (State.isArrayOf_alike K.zw.alike A.2.1) (g := mkF κ.m pc Ls (.ref a :: st)) rfl rfl (K.dec hd) _ ?_
  have q : c.slots.size = vs.length := by rw [← hc, Array.length_toList]
  rw [q]; exact h1
theorem s_iaload (K : Ok Z κ own bytes maxL ret nm) {k i : Nat} {a : Addr} {j : Int32} {vs : List Value} {v : Value} (hd : decode bytes pc = .ok (.iaload, 1)) (e : pc + 1 = pc') (hk : L[k]? = some (a, .inr (.int, vs))) (hj : Ix j i) (hi : vs[i]? = some v)
    (nx : Go l Z n0 R Q κ ce sl L pc' Ls (v :: st)) : Go l Z n0 R Q κ ce sl L pc Ls (.int j :: .ref a :: st) := by
  subst e; intro T locs X N W
  obtain ⟨c, A, hc, -⟩ := W.at hk
  obtain ⟨U, o, h1, h2⟩ := nx T locs X N W
  exact ⟨U, o, X.iaload K.ex A.1 (State.isArrayOf_alike K.zw.alike A.2.1) A.2.2 (Av.inb hc hj (List.getElem?_eq_some_iff.mp hi).1) (by rw [hj.2]; exact Av.val hc hi) (g := mkF κ.m pc Ls (.int j :: .ref a :: st)) rfl rfl (K.dec hd) _ h1, h2⟩
theorem s_laload (K : Ok Z κ own bytes maxL ret nm) {k i : Nat} {a : Addr} {j : Int32} {vs : List Value} {v : Value} (hd : decode bytes pc = .ok (.laload, 1)) (e : pc + 1 = pc') (hk : L[k]? = some (a, .inr (.long, vs))) (hj : Ix j i) (hi : vs[i]? = some v)
    (nx : Go l Z n0 R Q κ ce sl L pc' Ls (v :: st)) : Go l Z n0 R Q κ ce sl L pc Ls (.int j :: .ref a :: st) := by
  subst e; intro T locs X N W
  obtain ⟨c, A, hc, -⟩ := W.at hk
  obtain ⟨U, o, h1, h2⟩ := nx T locs X N W
  exact ⟨U, o, X.laload K.ex A.1 (State.isArrayOf_alike K.zw.alike A.2.1) A.2.2 (Av.inb hc hj (List.getElem?_eq_some_iff.mp hi).1) (by rw [hj.2]; exact Av.val hc hi) (g := mkF κ.m pc Ls (.int j :: .ref a :: st)) rfl rfl (K.dec hd) _ h1, h2⟩
theorem s_baload (K : Ok Z κ own bytes maxL ret nm) {k i : Nat} {a : Addr} {j : Int32} {vs : List Value} {v : Value} (hd : decode bytes pc = .ok (.baload, 1)) (e : pc + 1 = pc') (hk : L[k]? = some (a, .inr (.byte, vs))) (hj : Ix j i) (hi : vs[i]? = some v)
    (nx : Go l Z n0 R Q κ ce sl L pc' Ls (v :: st)) : Go l Z n0 R Q κ ce sl L pc Ls (.int j :: .ref a :: st) := by
  subst e; intro T locs X N W
  obtain ⟨c, A, hc, -⟩ := W.at hk
  obtain ⟨U, o, h1, h2⟩ := nx T locs X N W
  exact ⟨U, o, X.baloadBytes K.ex A.1 (State.isArrayOf_alike K.zw.alike A.2.1) A.2.2 (Av.inb hc hj (List.getElem?_eq_some_iff.mp hi).1) (by rw [hj.2]; exact Av.val hc hi) (g := mkF κ.m pc Ls (.int j :: .ref a :: st)) rfl rfl (K.dec hd) _ h1, h2⟩
theorem s_aaload (K : Ok Z κ own bytes maxL ret nm) {k i : Nat} {a : Addr} {j : Int32} {ty : FieldType} {vs : List Value} {v : Value} (hd : decode bytes pc = .ok (.aaload, 1)) (e : pc + 1 = pc') (hk : L[k]? = some (a, .inr (ty, vs))) (hty : ty.isReference = true) (hj : Ix j i) (hi : vs[i]? = some v)
    (nx : Go l Z n0 R Q κ ce sl L pc' Ls (v :: st)) : Go l Z n0 R Q κ ce sl L pc Ls (.int j :: .ref a :: st) := by
  subst e; intro T locs X N W
  obtain ⟨c, A, hc, -⟩ := W.at hk
  obtain ⟨U, o, h1, h2⟩ := nx T locs X N W
  exact ⟨U, o, X.aaload K.ex A.1 (State.isArrayOf_alike K.zw.alike A.2.1) hty A.2.2 (Av.inb hc hj (List.getElem?_eq_some_iff.mp hi).1) (by rw [hj.2]; exact Av.val hc hi) (g := mkF κ.m pc Ls (.int j :: .ref a :: st)) rfl rfl (K.dec hd) _ h1, h2⟩
theorem s_iastore (K : Ok Z κ own bytes maxL ret nm) {k i : Nat} {a : Addr} {j x : Int32} {vs : List Value} {L' : Wd} (hd : decode bytes pc = .ok (.iastore, 1)) (e : pc + 1 = pc') (hk : L[k]? = some (a, .inr (.int, vs))) (hj : Ix j i) (hi : i < vs.length) (hL : L.set k (a, .inr (.int, vs.set i (.int x))) = L')
    (nx : Go l Z n0 R Q κ ce sl L' pc' Ls st) : Go l Z n0 R Q κ ce sl L pc Ls (.int x :: .int j :: .ref a :: st) := by
  subst e hL; intro T locs X N W
  obtain ⟨c, A, hc, -⟩ := W.at hk
  obtain ⟨T', h', X', e', Wr', stp⟩ := stI X K.ex K.zw rfl A (Av.inb hc hj hi) (g := mkF κ.m pc Ls (.int x :: .int j :: .ref a :: st)) rfl rfl (K.dec hd)
  rw [hj.2] at Wr'
  obtain ⟨U, o, h1, h2⟩ := nx T' _ X' (Fr.snoc X' N (W.ge hk)) (by rw [e']; exact W.arr hk rfl Wr')
  exact ⟨U, o, stp U h1, h2⟩
theorem s_lastore (K : Ok Z κ own bytes maxL ret nm) {k i : Nat} {a : Addr} {j : Int32} {x : Int64} {vs : List Value} {L' : Wd} (hd : decode bytes pc = .ok (.lastore, 1)) (e : pc + 1 = pc') (hk : L[k]? = some (a, .inr (.long, vs))) (hj : Ix j i) (hi : i < vs.length) (hL : L.set k (a, .inr (.long, vs.set i (.long x))) = L')
    (nx : Go l Z n0 R Q κ ce sl L' pc' Ls st) : Go l Z n0 R Q κ ce sl L pc Ls (.long x :: .int j :: .ref a :: st) := by
  subst e hL; intro T locs X N W
  obtain ⟨c, A, hc, -⟩ := W.at hk
  obtain ⟨T', h', X', e', Wr', stp⟩ := stJ X K.ex K.zw rfl A (Av.inb hc hj hi) (g := mkF κ.m pc Ls (.long x :: .int j :: .ref a :: st)) rfl rfl (K.dec hd)
  rw [hj.2] at Wr'
  obtain ⟨U, o, h1, h2⟩ := nx T' _ X' (Fr.snoc X' N (W.ge hk)) (by rw [e']; exact W.arr hk rfl Wr')
  exact ⟨U, o, stp U h1, h2⟩
theorem s_bastore (K : Ok Z κ own bytes maxL ret nm) {k i : Nat} {a : Addr} {j x : Int32} {vs : List Value} {L' : Wd} (hd : decode bytes pc = .ok (.bastore, 1)) (e : pc + 1 = pc') (hk : L[k]? = some (a, .inr (.byte, vs))) (hj : Ix j i) (hi : i < vs.length) (hL : L.set k (a, .inr (.byte, vs.set i (.int x.toInt8.toInt32))) = L')
    (nx : Go l Z n0 R Q κ ce sl L' pc' Ls st) : Go l Z n0 R Q κ ce sl L pc Ls (.int x :: .int j :: .ref a :: st) := by
  subst e hL; intro T locs X N W
  obtain ⟨c, A, hc, -⟩ := W.at hk
  obtain ⟨T', h', X', e', Wr', stp⟩ := stB X K.ex K.zw rfl A (Av.inb hc hj hi) (g := mkF κ.m pc Ls (.int x :: .int j :: .ref a :: st)) rfl rfl (K.dec hd)
  rw [hj.2] at Wr'
  obtain ⟨U, o, h1, h2⟩ := nx T' _ X' (Fr.snoc X' N (W.ge hk)) (by rw [e']; exact W.arr hk (fits_nar_byte x) Wr')
  exact ⟨U, o, stp U h1, h2⟩
theorem fits_default (ty : FieldType) : fits ty (defaultValue ty) = true := by cases ty <;> rfl
theorem s_newarr (K : Ok Z κ own bytes maxL ret nm) {aty : ArrayType} {ty : FieldType} {j : Int32} {n cap ce' sl' : Nat} {vs0 : List Value} (hd : decode bytes pc = .ok (.newarray aty, 2)) (e : pc + 2 = pc') (ht : newarray.typeOf aty = ty) (w : (Cond.arrayClass ty).before a0 Z = true) (hj : Ix j n) (hcap : n ≤ cap) (hb : cap ≤ 67108864) (hvs : List.replicate n (defaultValue ty) = vs0) (hce : ce + 1 = ce') (hsl : sl + cap = sl') (hc : ce' ≤ R.cells) (hs : sl' ≤ R.slots)
    (nx : ∀ b : Addr, Go l Z n0 R Q κ ce' sl' ((b, .inr (ty, vs0)) :: L) pc' Ls (.ref b :: st)) : Go l Z n0 R Q κ ce sl L pc Ls (.int j :: st) := by
  subst e hce hsl ht hvs; intro T locs X N W
  obtain ⟨T', h', cA, X', e', E, A, Ex, stp⟩ := newPE X K.ex K.zw w rfl (g := mkF κ.m pc Ls (.int j :: st)) rfl (K.dec hd) rfl hj.1 (by rw [hj.2]; exact hcap) (by omega) hc hs (ad := "[" ++ (newarray.typeOf aty).toString) rfl
  obtain ⟨U, o, h1, h2⟩ := nx T.heap.size T' locs X' N (by
    rw [e']
    refine W.add E ⟨_, A, ?_, ?_, fun v hv => ?_, Ex⟩
    · simp [newA, hj.2]
    · simp only [List.length_replicate]; omega
    · rw [(List.mem_replicate.mp hv).2]; exact fits_default _)
  exact ⟨U, o, stp U h1, h2⟩
/-- the fields of a class, as its words lay them -/
def OLay (Z : State) (a0 : Array Value) (C : String) (fs : List (String × String × String × FieldType)) : Prop := ∀ (i : Nat) (f : String × String × String × FieldType), fs[i]? = some f → Laid Z a0 C f.1 f.2.1 f.2.2.1 ∧ parseFieldDescriptor f.2.2.1 = some f.2.2.2
theorem OLay.nil {C : String} : OLay Z a0 C [] := fun _ _ q => by simp at q
theorem OLay.cons {C O n d : String} {ty : FieldType} {fs : List (String × String × String × FieldType)} (h : (Cond.lays C O n d).before a0 Z = true ∨ (Cond.laysFinal C O n d).before a0 Z = true) (ht : parseFieldDescriptor d = some ty) (r : OLay Z a0 C fs) : OLay Z a0 C ((O, n, d, ty) :: fs) := fun i f q => by
  cases i with
  | zero => cases q; exact ⟨h, ht⟩
  | succ i => exact r i f (by simpa using q)
def fresh (fs : List (String × String × String × FieldType)) : List Fl := fs.map fun f => (f.1, f.2.1, f.2.2.1, defaultValue f.2.2.2)
theorem s_new (K : Ok Z κ own bytes maxL ret nm) {idx n ce' sl' : Nat} {C : String} {fs : List (String × String × String × FieldType)} {gs : List Fl} (hd : decode bytes pc = .ok (.new idx, 3)) (e : pc + 3 = pc') (w1 : (Cond.classLink own idx C).before a0 Z = true) (w2 : (Cond.instantiable C n).before a0 Z = true) (w3 : (Cond.initialized C).before a0 Z = true)
    (ly : OLay Z a0 C fs) (nd : (fs.map fun f => f.2.1).Nodup) (hg : fresh fs = gs) (hce : ce + 1 = ce') (hsl : sl + n = sl') (hc : ce' ≤ R.cells) (hs : sl' ≤ R.slots)
    (nx : ∀ b : Addr, Go l Z n0 R Q κ ce' sl' ((b, .inl (C, gs)) :: L) pc' Ls (.ref b :: st)) : Go l Z n0 R Q κ ce sl L pc Ls st := by
  subst e hce hsl hg; intro T locs X N W
  obtain ⟨T', h', X', e', E, Ex, D, -, stp⟩ := newO X K.ex K.zw K.ow w1 w2 w3 rfl (g := mkF κ.m pc Ls st) rfl (K.dec hd) hc hs
  have fr : ∀ (i : Nat) (f : Fl), (fresh fs)[i]? = some f → ∃ g, fs[i]? = some g ∧ f = (g.1, g.2.1, g.2.2.1, defaultValue g.2.2.2) := fun i f q => by
    simp only [fresh, List.getElem?_map, Option.map_eq_some_iff] at q
    obtain ⟨g, q1, q2⟩ := q; exact ⟨g, q1, q2.symm⟩
  obtain ⟨U, o, h1, h2⟩ := nx T.heap.size T' locs X' N (by
    rw [e']
    refine W.add E ⟨Ex, fun i f q => ?_, fun i j f g q r ne => ?_⟩
    · obtain ⟨g, q1, rfl⟩ := fr i f q
      exact D (ly i g q1).1 (ly i g q1).2
    · obtain ⟨f', q1, rfl⟩ := fr i f q
      obtain ⟨g', r1, rfl⟩ := fr j g r
      refine slot_ne (ly i f' q1).1 (ly j g' r1).1 (fun en => ne (nodup_inj nd (s := f'.2.1) (by rw [List.getElem?_map, q1]; rfl) (by rw [List.getElem?_map, r1, en]; rfl))) (ly i f' q1).2 (ly j g' r1).2)
  exact ⟨U, o, stp U h1, h2⟩
/-! calls -/
theorem s_initO (K : Ok Z κ own bytes maxL ret nm) {idx W : Nat} {a : Addr} (hd : decode bytes pc = .ok (.invokespecial idx, 3)) (e : pc + 3 = pc') (w1 : (Cond.methodLink own idx Lib.objectInit).before a0 Z = true) (w2 : (Cond.instanceMethod Lib.objectInit).before a0 Z = true) (w3 : (Cond.code Lib.objectInit ⟨#[0xb1]⟩ 1 none).before a0 Z = true)
    (hsz : Ls.size = maxL) (hf : 1 ≤ R.frames) (hW : (st.map fun v => v.category).sum ≤ W) (hl : W + 12 ≤ R.locals) (nx : Go l Z n0 R Q κ ce sl L pc' Ls st) : Go l Z n0 R Q κ ce sl L pc Ls (.ref a :: st) := by
  subst e; intro T locs X N Wd
  obtain ⟨T', X', e', stp⟩ := initO X K.ex K.zw K.ow w1 w2 w3 rfl (g := mkF κ.m pc Ls (.ref a :: st)) rfl (hsz.trans K.2.2.2.2.1.symm) rfl (K.dec hd) hf (W := W) (by show 2 * 0 + _ ≤ _; omega) hl
  obtain ⟨U, o, h1, h2⟩ := nx T' locs X' N (by rw [e']; exact Wd)
  exact ⟨U, o, stp U h1, h2⟩
theorem s_static (K : Ok Z κ own bytes maxL ret nm) {idx W mx ce' sl' : Nat} {y : MethodName} {bs : ByteArray} {rt : Option FieldType} {rm : Room} {as : List Value} {Q2 : Option Value → Wd → Prop} {ps : List FieldType} {r : Option FieldType} (hd : decode bytes pc = .ok (.invokestatic idx, 3)) (e : pc + 3 = pc')
    (C : Con l Z n0 y bs mx rt rm as L Q2) (w1 : (Cond.methodLink own idx y).before a0 Z = true) (w2 : (Cond.static y).before a0 Z = true) (w3 : (Cond.initialized y.cls).before a0 Z = true) (w4 : (Cond.code y bs mx rt).before a0 Z = true) (hy : y.cls ≠ "java/lang/invoke/MethodHandle" ∧ y.cls ≠ "java/lang/invoke/VarHandle")
    (pd : parseMethodDescriptor y.desc = some ⟨ps, r⟩) (hlen : as.length = ps.length) (hst : st = as.reverse ++ rest) (hsz : Ls.size = maxL) (hW : (rest.map fun v => v.category).sum ≤ W) (hf : rm.frames + 1 ≤ R.frames) (hl : W + (mx + 11) + rm.locals ≤ R.locals) (hce : ce + rm.cells = ce') (hsl : sl + rm.slots = sl') (hc : ce' ≤ R.cells) (hs : sl' ≤ R.slots)
    (nx : ∀ v L', Q2 v L' → Go l Z n0 R Q κ ce' sl' L' pc' Ls (v.toList ++ rest)) : Go l Z n0 R Q κ ce sl L pc Ls st := by
  subst e hce hsl; intro T locs X N Wd
  obtain ⟨v, _, ⟨T1, L1, k1, n1⟩, -, X1, ⟨Lc, hQ, l1, y1, z1⟩, st1⟩ := Jvm.LawKit.callS X K.ex K.ow (mvT K.zw w1) (mvT K.zw w2) (mvT K.zw w3) (mvT K.zw w4) hy
    (backOf (W := W) (Q := fun v h Lc => Fr n0 Lc ∧ ∃ L', Q2 v L' ∧ Wo Z n0 h L') (C T.heap Wd) K.zw w4 w3 hf hl) (g := mkF κ.m pc Ls st) rfl (hsz.trans K.2.2.2.2.1.symm) (argsL := as) (rest := rest) (lenOf pd hlen) hst (by show 2 * 0 + _ ≤ _; omega) (K.dec hd) (fun _ _ => ⟨rfl, rfl, hc, hs⟩)
  dsimp only [Pt.U, Pt.locs, Pt.cells, Pt.slots] at X1 l1 y1 z1 st1 hQ
  subst l1 y1 z1
  obtain ⟨hN, L', hq, hW'⟩ := hQ
  obtain ⟨U, o, h1, h2⟩ := nx v L' hq T1 _ X1 (Fr.app N hN) hW'
  exact ⟨U, o, st1 U h1, h2⟩
theorem s_special (K : Ok Z κ own bytes maxL ret nm) {idx W mx ce' sl' : Nat} {y : MethodName} {bs : ByteArray} {rm : Room} {a : Addr} {as : List Value} {Q2 : Option Value → Wd → Prop} {ps : List FieldType} {r : Option FieldType} (hd : decode bytes pc = .ok (.invokespecial idx, 3)) (e : pc + 3 = pc') (hin : y.name = "<init>")
    (C : Con l Z n0 y bs mx none rm (.ref a :: as) L Q2) (w1 : (Cond.methodLink own idx y).before a0 Z = true) (w2 : (Cond.instanceMethod y).before a0 Z = true) (w3 : (Cond.initialized y.cls).before a0 Z = true) (w4 : (Cond.code y bs mx none).before a0 Z = true) (hy : y.cls ≠ "java/lang/invoke/MethodHandle" ∧ y.cls ≠ "java/lang/invoke/VarHandle")
    (pd : parseMethodDescriptor y.desc = some ⟨ps, r⟩) (hlen : as.length = ps.length) (hst : st = as.reverse ++ .ref a :: rest) (hsz : Ls.size = maxL) (hW : (rest.map fun v => v.category).sum ≤ W) (hf : rm.frames + 1 ≤ R.frames) (hl : W + (mx + 11) + rm.locals ≤ R.locals) (hce : ce + rm.cells = ce') (hsl : sl + rm.slots = sl') (hc : ce' ≤ R.cells) (hs : sl' ≤ R.slots)
    (nx : ∀ v L', Q2 v L' → Go l Z n0 R Q κ ce' sl' L' pc' Ls (v.toList ++ rest)) : Go l Z n0 R Q κ ce sl L pc Ls st := by
  subst e hce hsl; intro T locs X N Wd
  obtain ⟨v, _, ⟨T1, L1, k1, n1⟩, -, X1, ⟨Lc, hQ, l1, y1, z1⟩, st1⟩ := X.specialBack K.ex hin K.ow (mvT K.zw w1) (mvT K.zw w2) (mvT K.zw w4) hy
    (backOf (W := W) (Q := fun v h Lc => Fr n0 Lc ∧ ∃ L', Q2 v L' ∧ Wo Z n0 h L') (C T.heap Wd) K.zw w4 w3 hf hl) (g := mkF κ.m pc Ls st) rfl (hsz.trans K.2.2.2.2.1.symm) (Steps.refl _) (a := a) (argsL := as) (rest := rest) (lenOf pd hlen) hst (by show 2 * 0 + _ ≤ _; omega) (K.dec hd) (fun _ _ => ⟨rfl, rfl, hc, hs⟩)
  dsimp only [Pt.U, Pt.locs, Pt.cells, Pt.slots] at X1 l1 y1 z1 st1 hQ
  subst l1 y1 z1
  obtain ⟨hN, L', hq, hW'⟩ := hQ
  obtain ⟨U, o, h1, h2⟩ := nx v L' hq T1 _ X1 (Fr.app N hN) hW'
  exact ⟨U, o, st1.trans h1, h2⟩
theorem s_virtualE (K : Ok Z κ own bytes maxL ret nm) {idx W mx ce' sl' : Nat} {C : String} {y : MethodName} {bs : ByteArray} {rt : Option FieldType} {rm : Room} {a : Addr} {as : List Value} {Q2 : Option Value → Wd → Prop} {ps : List FieldType} {r : Option FieldType} (hd : decode bytes pc = .ok (.invokevirtual idx, 3)) (e : pc + 3 = pc')
    (hE : ∀ h, Wo Z n0 h L → Exa Z h a C) (Co : Con l Z n0 y bs mx rt rm (.ref a :: as) L Q2) (w1 : (Cond.methodLink own idx y).before a0 Z = true) (wd : (Cond.declares y).before a0 Z = true) (ws : (Cond.selects C y y).before a0 Z = true) (w2 : (Cond.instanceMethod y).before a0 Z = true) (w3 : (Cond.initialized y.cls).before a0 Z = true) (w4 : (Cond.code y bs mx rt).before a0 Z = true) (hy : y.cls ≠ "java/lang/invoke/MethodHandle" ∧ y.cls ≠ "java/lang/invoke/VarHandle")
    (pd : parseMethodDescriptor y.desc = some ⟨ps, r⟩) (hlen : as.length = ps.length) (hst : st = as.reverse ++ .ref a :: rest) (hsz : Ls.size = maxL) (hW : (rest.map fun v => v.category).sum ≤ W) (hf : rm.frames + 1 ≤ R.frames) (hl : W + (mx + 11) + rm.locals ≤ R.locals) (hce : ce + rm.cells = ce') (hsl : sl + rm.slots = sl') (hc : ce' ≤ R.cells) (hs : sl' ≤ R.slots)
    (nx : ∀ v L', Q2 v L' → Go l Z n0 R Q κ ce' sl' L' pc' Ls (v.toList ++ rest)) : Go l Z n0 R Q κ ce sl L pc Ls st := by
  subst e hce hsl; intro T locs X N Wd
  obtain ⟨cq, kq, qa, -, qc⟩ := isOf (T := T) K.zw rfl (hE _ Wd)
  obtain ⟨v, _, ⟨T1, L1, k1, n1⟩, -, X1, ⟨Lc, hQ, l1, y1, z1⟩, st1⟩ := X.virtualBack K.ex K.ow (mvT K.zw w1) (mvT K.zw wd) (notFace_of_selects (args := #[]) (mvT K.zw ws)) (mvT K.zw ws) (mvT K.zw w2) hy
    (backOf (W := W) (Q := fun v h Lc => Fr n0 Lc ∧ ∃ L', Q2 v L' ∧ Wo Z n0 h L') (Co T.heap Wd) K.zw w4 w3 hf hl) qa qc (g := mkF κ.m pc Ls st) rfl (hsz.trans K.2.2.2.2.1.symm) (Steps.refl _) (argsL := as) (rest := rest) (lenOf pd hlen) hst (by show 2 * 0 + _ ≤ _; omega) (K.dec hd) (fun _ _ => ⟨rfl, rfl, hc, hs⟩)
  dsimp only [Pt.U, Pt.locs, Pt.cells, Pt.slots] at X1 l1 y1 z1 st1 hQ
  subst l1 y1 z1
  obtain ⟨hN, L', hq, hW'⟩ := hQ
  obtain ⟨U, o, h1, h2⟩ := nx v L' hq T1 _ X1 (Fr.app N hN) hW'
  exact ⟨U, o, st1.trans h1, h2⟩
theorem s_virtual (K : Ok Z κ own bytes maxL ret nm) {idx W mx ce' sl' k : Nat} {C : String} {fs : List Fl} {y : MethodName} {bs : ByteArray} {rt : Option FieldType} {rm : Room} {a : Addr} {as : List Value} {Q2 : Option Value → Wd → Prop} {ps : List FieldType} {r : Option FieldType} (hd : decode bytes pc = .ok (.invokevirtual idx, 3)) (e : pc + 3 = pc')
    (hk : L[k]? = some (a, .inl (C, fs))) (Co : Con l Z n0 y bs mx rt rm (.ref a :: as) L Q2) (w1 : (Cond.methodLink own idx y).before a0 Z = true) (wd : (Cond.declares y).before a0 Z = true) (ws : (Cond.selects C y y).before a0 Z = true) (w2 : (Cond.instanceMethod y).before a0 Z = true) (w3 : (Cond.initialized y.cls).before a0 Z = true) (w4 : (Cond.code y bs mx rt).before a0 Z = true) (hy : y.cls ≠ "java/lang/invoke/MethodHandle" ∧ y.cls ≠ "java/lang/invoke/VarHandle")
    (pd : parseMethodDescriptor y.desc = some ⟨ps, r⟩) (hlen : as.length = ps.length) (hst : st = as.reverse ++ .ref a :: rest) (hsz : Ls.size = maxL) (hW : (rest.map fun v => v.category).sum ≤ W) (hf : rm.frames + 1 ≤ R.frames) (hl : W + (mx + 11) + rm.locals ≤ R.locals) (hce : ce + rm.cells = ce') (hsl : sl + rm.slots = sl') (hc : ce' ≤ R.cells) (hs : sl' ≤ R.slots)
    (nx : ∀ v L', Q2 v L' → Go l Z n0 R Q κ ce' sl' L' pc' Ls (v.toList ++ rest)) : Go l Z n0 R Q κ ce sl L pc Ls st :=
  s_virtualE K hd e (fun h W => (W.at hk).1) Co w1 wd ws w2 w3 w4 hy pd hlen hst hsz hW hf hl hce hsl hc hs nx
theorem s_virtualO (K : Ok Z κ own bytes maxL ret nm) {idx W mx ce' sl' : Nat} {C : String} {y : MethodName} {bs : ByteArray} {rt : Option FieldType} {rm : Room} {a : Addr} {as : List Value} {Q2 : Option Value → Wd → Prop} {ps : List FieldType} {r : Option FieldType} (hd : decode bytes pc = .ok (.invokevirtual idx, 3)) (e : pc + 3 = pc')
    (hE : Exa Z Z.heap a C) (Co : Con l Z n0 y bs mx rt rm (.ref a :: as) L Q2) (w1 : (Cond.methodLink own idx y).before a0 Z = true) (wd : (Cond.declares y).before a0 Z = true) (ws : (Cond.selects C y y).before a0 Z = true) (w2 : (Cond.instanceMethod y).before a0 Z = true) (w3 : (Cond.initialized y.cls).before a0 Z = true) (w4 : (Cond.code y bs mx rt).before a0 Z = true) (hy : y.cls ≠ "java/lang/invoke/MethodHandle" ∧ y.cls ≠ "java/lang/invoke/VarHandle")
    (pd : parseMethodDescriptor y.desc = some ⟨ps, r⟩) (hlen : as.length = ps.length) (hst : st = as.reverse ++ .ref a :: rest) (hsz : Ls.size = maxL) (hW : (rest.map fun v => v.category).sum ≤ W) (hf : rm.frames + 1 ≤ R.frames) (hl : W + (mx + 11) + rm.locals ≤ R.locals) (hce : ce + rm.cells = ce') (hsl : sl + rm.slots = sl') (hc : ce' ≤ R.cells) (hs : sl' ≤ R.slots)
    (nx : ∀ v L', Q2 v L' → Go l Z n0 R Q κ ce' sl' L' pc' Ls (v.toList ++ rest)) : Go l Z n0 R Q κ ce sl L pc Ls st :=
  s_virtualE K hd e (fun h W => hE.ext W.1.2) Co w1 wd ws w2 w3 w4 hy pd hlen hst hsz hW hf hl hce hsl hc hs nx
/-! what stood at the start -/
theorem s_gets (K : Ok Z κ own bytes maxL ret nm) {idx : Nat} {O n d : String} {v : Value} (hd : decode bytes pc = .ok (.getstatic idx, 3)) (e : pc + 3 = pc') (w : (Cond.fieldLink own idx O n d).before a0 Z = true) (S : Sta Z Z.heap O n d v) (nx : Go l Z n0 R Q κ ce sl L pc' Ls (v :: st)) : Go l Z n0 R Q κ ce sl L pc Ls st := by
  subst e; intro T locs X N W
  obtain ⟨T', X', e', stp⟩ := getS X K.ex K.zw K.ow (host := "") w Via.refl rfl (S.ext W.1.2) (g := mkF κ.m pc Ls st) rfl (K.dec hd)
  obtain ⟨U, o, h1, h2⟩ := nx T' locs X' N (by rw [e']; exact W)
  exact ⟨U, o, stp U h1, h2⟩
theorem s_getfO (K : Ok Z κ own bytes maxL ret nm) {idx : Nat} {O n d : String} {a : Addr} {v : Value} (hd : decode bytes pc = .ok (.getfield idx, 3)) (e : pc + 3 = pc') (w : (Cond.fieldLink own idx O n d).before a0 Z = true)
    (F : Fld Z Z.heap a O n d v) (nx : Go l Z n0 R Q κ ce sl L pc' Ls (v :: st)) : Go l Z n0 R Q κ ce sl L pc Ls (.ref a :: st) := by
  subst e; intro T locs X N W
  obtain ⟨T', X', e', stp⟩ := getF X K.ex K.zw K.ow (host := "") (Or.inl w) Via.refl rfl (F.ext W.1.2) (g := mkF κ.m pc Ls (.ref a :: st)) rfl rfl (K.dec hd)
  obtain ⟨U, o, h1, h2⟩ := nx T' locs X' N (by rw [e']; exact W)
  exact ⟨U, o, stp U h1, h2⟩
/-! arrays of arrays, clone, arraycopy, casts, private methods -/
theorem s_anewarr (K : Ok Z κ own bytes maxL ret nm) {ty : FieldType} {C : String} {idx : Nat} {j : Int32} {n cap ce' sl' : Nat} {vs0 : List Value} (hd : decode bytes pc = .ok (.anewarray idx, 3)) (e : pc + 3 = pc') (hC : (FieldType.array ty).toString = C) (w1 : (Cond.classLink own idx C).before a0 Z = true) (w2 : (Cond.arrayOver (.array ty)).before a0 Z = true) (hj : Ix j n) (hcap : n ≤ cap) (hb : cap ≤ 67108864) (hvs : List.replicate n Value.null = vs0) (hce : ce + 1 = ce') (hsl : sl + cap = sl') (hc : ce' ≤ R.cells) (hs : sl' ≤ R.slots)
    (nx : ∀ b : Addr, Go l Z n0 R Q κ ce' sl' ((b, .inr (.array ty, vs0)) :: L) pc' Ls (.ref b :: st)) : Go l Z n0 R Q κ ce sl L pc Ls (.int j :: st) := by
  subst e hce hsl hvs hC; intro T locs X N W
  obtain ⟨T', h', cA, X', e', E, A, Ex, -, stp⟩ := newRA X K.ex K.zw K.ow rfl w1 w2 rfl (g := mkF κ.m pc Ls (.int j :: st)) rfl (K.dec hd) rfl hj.1 (by rw [hj.2]; exact hcap) (by omega) hc hs (ad := "[" ++ (FieldType.array ty).toString) rfl
  obtain ⟨U, o, h1, h2⟩ := nx T.heap.size T' locs X' N (by
    rw [e']
    refine W.add E ⟨_, A, ?_, ?_, fun v hv => ?_, Ex⟩
    · simp [newA, hj.2, defaultValue]
    · simp only [List.length_replicate]; omega
    · rw [(List.mem_replicate.mp hv).2]; rfl)
  exact ⟨U, o, stp U h1, h2⟩
theorem s_aastore (K : Ok Z κ own bytes maxL ret nm) {k k2 i : Nat} {a b : Addr} {j : Int32} {ty : FieldType} {vs ws : List Value} {L' : Wd} (hd : decode bytes pc = .ok (.aastore, 1)) (e : pc + 1 = pc') (w : (Cond.arrayOver (.array ty)).before a0 Z = true) (hk : L[k]? = some (a, .inr (.array ty, vs))) (hk2 : L[k2]? = some (b, .inr (ty, ws))) (hj : Ix j i) (hi : i < vs.length) (hL : L.set k (a, .inr (.array ty, vs.set i (.ref b))) = L')
    (nx : Go l Z n0 R Q κ ce sl L' pc' Ls st) : Go l Z n0 R Q κ ce sl L pc Ls (.ref b :: .int j :: .ref a :: st) := by
  subst e hL; intro T locs X N W
  obtain ⟨c, A, hc, -, -, Ea⟩ := W.at hk
  obtain ⟨-, -, -, -, -, Eb⟩ := W.at hk2
  obtain ⟨comp, cA, kA, q1, -, q3, q4, q5⟩ := Jvm.Stand.arrayOver_specB (show (Cond.arrayOver (.array ty)).holds a0 Z none Z [] = true from w)
  obtain ⟨cell, kk, e1, e2, -⟩ := Ea
  cases A.1.symm.trans e1
  have ec : c.cls = cA := Option.some.inj (e2.symm.trans q5)
  have S : Sto Z T.heap a (.ref b) := Sto.ofVA (ty := ty) (C := (FieldType.array ty).toString) A ec ⟨kA, comp, q3, q4, q1⟩ (Ins.self (C := (FieldType.array ty).toString) Eb)
  obtain ⟨T', h', X', e', Wr', stp⟩ := stR X K.ex K.zw rfl A (Av.inb hc hj hi) rfl S (g := mkF κ.m pc Ls (.ref b :: .int j :: .ref a :: st)) rfl rfl (K.dec hd)
  rw [hj.2] at Wr'
  obtain ⟨U, o, h1, h2⟩ := nx T' _ X' (Fr.snoc X' N (W.ge hk)) (by rw [e']; exact W.arr hk rfl Wr')
  exact ⟨U, o, stp U h1, h2⟩
theorem s_castA (K : Ok Z κ own bytes maxL ret nm) {k idx : Nat} {a : Addr} {ty : FieldType} {vs : List Value} {C : String} (hd : decode bytes pc = .ok (.checkcast idx, 3)) (e : pc + 3 = pc') (hC : "[" ++ ty.toString = C) (w : (Cond.classLink own idx C).before a0 Z = true) (hk : L[k]? = some (a, .inr (ty, vs)))
    (nx : Go l Z n0 R Q κ ce sl L pc' Ls (.ref a :: st)) : Go l Z n0 R Q κ ce sl L pc Ls (.ref a :: st) := by
  subst e hC; intro T locs X N W
  obtain ⟨-, -, -, -, -, Ea⟩ := W.at hk
  obtain ⟨T', X', e', stp⟩ := castY X K.ex K.zw K.ow w rfl (Ins.self Ea) (g := mkF κ.m pc Ls (.ref a :: st)) rfl rfl (K.dec hd)
  obtain ⟨U, o, h1, h2⟩ := nx T' locs X' N (by rw [e']; exact W)
  exact ⟨U, o, stp U h1, h2⟩
theorem s_clone (K : Ok Z κ own bytes maxL ret nm) {k idx W cap ce' sl' : Nat} {a : Addr} {ty : FieldType} {vs : List Value} {C : String} (hd : decode bytes pc = .ok (.invokevirtual idx, 3)) (e : pc + 3 = pc') (hC : "[" ++ ty.toString = C)
    (w1 : (Cond.methodLink own idx ⟨C, "clone", "()Ljava/lang/Object;"⟩).before a0 Z = true) (w2 : (Cond.sameMethod C "java/lang/Object" "clone" "()Ljava/lang/Object;").before a0 Z = true) (w3 : (Cond.native ⟨"java/lang/Object", "clone", "()Ljava/lang/Object;"⟩).before a0 Z = true)
    (w4 : (Cond.instanceMethod ⟨"java/lang/Object", "clone", "()Ljava/lang/Object;"⟩).before a0 Z = true) (w5 : (Cond.selects C ⟨C, "clone", "()Ljava/lang/Object;"⟩ ⟨"java/lang/Object", "clone", "()Ljava/lang/Object;"⟩).before a0 Z = true) (w6 : (Cond.castable C "java/lang/Cloneable").before a0 Z = true)
    (hk : L[k]? = some (a, .inr (ty, vs))) (hsz : Ls.size = maxL) (hf : 1 ≤ R.frames) (hW : (st.map fun v => v.category).sum ≤ W) (hl : W + 14 ≤ R.locals) (hcap : vs.length ≤ cap) (hce : ce + 1 = ce') (hsl : sl + cap = sl') (hc : ce' ≤ R.cells) (hs : sl' ≤ R.slots)
    (nx : ∀ b : Addr, Go l Z n0 R Q κ ce' sl' ((b, .inr (ty, vs)) :: L) pc' Ls (.ref b :: st)) : Go l Z n0 R Q κ ce sl L pc Ls (.ref a :: st) := by
  subst e hC hce hsl; intro T locs X N Wd
  obtain ⟨c, A, hcs, hlen, hfit, Ea⟩ := Wd.at hk
  have F : FitC Z c := fun i v hv => by
    obtain ⟨hs', k', hk', comp, hkind⟩ := A.2.1
    have m : v ∈ vs := by rw [← hcs]; exact Array.mem_toList_iff.mpr (Array.mem_of_getElem? hv)
    simp [State.fitsSlot, State.slotType?, hk', hkind, hfit v m]
  obtain ⟨T', h', X', e', E, A', Ea', stp⟩ := cloneA X K.ex K.zw K.ow w1 w2 w3 w4 w5 w6 rfl A Ea F (g := mkF κ.m pc Ls (.ref a :: st)) rfl (hsz.trans K.2.2.2.2.1.symm) rfl (K.dec hd) hf (W := W) (by show 2 * 0 + _ ≤ _; omega) hl (cap := cap) (by rw [← Array.length_toList, hcs]; exact hcap) hc hs
  obtain ⟨U, o, h1, h2⟩ := nx T.heap.size T' locs X' N (by rw [e']; exact Wd.add E ⟨_, A', hcs, hlen, hfit, Ea'⟩)
  exact ⟨U, o, stp U h1, h2⟩
theorem s_private (K : Ok Z κ own bytes maxL ret nm) {idx W mx ce' sl' k kk : Nat} {fs : List Fl} {y : MethodName} {bs : ByteArray} {rt : Option FieldType} {rm : Room} {a : Addr} {as : List Value} {Q2 : Option Value → Wd → Prop} {ps : List FieldType} {r : Option FieldType} (hd : decode bytes pc = .ok (.invokevirtual idx, 3)) (e : pc + 3 = pc')
    (hk : L[k]? = some (a, .inl (y.cls, fs))) (Co : Con l Z n0 y bs mx rt rm (.ref a :: as) L Q2) (w1 : (Cond.methodLink own idx y).before a0 Z = true) {C' : String} {y1 z1 : MethodName} (ws : (Cond.selects C' y1 z1).before a0 Z = true) (hz1 : z1.cls = y.cls) (w2 : (Cond.instanceMethod y).before a0 Z = true) (wp : (Cond.privateMethod y).before a0 Z = true) (w3 : (Cond.initialized y.cls).before a0 Z = true) (w4 : (Cond.code y bs mx rt).before a0 Z = true) (hy : y.cls ≠ "java/lang/invoke/MethodHandle" ∧ y.cls ≠ "java/lang/invoke/VarHandle")
    (pd : parseMethodDescriptor y.desc = some ⟨ps, r⟩) (hlen : as.length = ps.length) (hst : st = as.reverse ++ .ref a :: rest) (hsz : Ls.size = maxL) (hW : (rest.map fun v => v.category).sum ≤ W) (hf : rm.frames + 1 ≤ R.frames) (hl : W + (mx + 11) + rm.locals ≤ R.locals) (hce : ce + rm.cells = ce') (hsl : sl + rm.slots = sl') (hc : ce' ≤ R.cells) (hs : sl' ≤ R.slots)
    (nx : ∀ v L', Q2 v L' → Go l Z n0 R Q κ ce' sl' L' pc' Ls (v.toList ++ rest)) : Go l Z n0 R Q κ ce sl L pc Ls st := by
  subst e hce hsl; intro T locs X N Wd
  obtain ⟨cq, q1, q2⟩ := (Wd.at hk).1.cell
  have hp := Cond.privateMethod_at (mvP K.zw wp (args := #[]))
  have hsel : (Cond.selects y.cls y y).before κ.args κ.s = true := by
    obtain ⟨_, _, mz, -, -, g3, -, kz, g4, g5⟩ := Cond.selects_spec (mvT (s := κ.s) (args := #[]) K.zw ws)
    have g6 := findClass_of_methodNamed g3
    rw [hz1] at g6
    exact selects_self_of_private g6 g4 g5 hp (mvT K.zw w2) hy
  obtain ⟨v, _, ⟨T1, L1, k1, n1⟩, -, X1, ⟨Lc, hQ, l1, y1, z1⟩, st1⟩ := X.privateBack K.ex K.ow (mvT K.zw w1) (mvT K.zw w2) hsel hp (mvT K.zw w4) hy
    (backOf (W := W) (Q := fun v h Lc => Fr n0 Lc ∧ ∃ L', Q2 v L' ∧ Wo Z n0 h L') (Co T.heap Wd) K.zw w4 w3 hf hl) (g := mkF κ.m pc Ls st) rfl (hsz.trans K.2.2.2.2.1.symm) (Steps.refl _) (a := a) q1 q2 (argsL := as) (rest := rest) (lenOf pd hlen) hst (by show 2 * 0 + _ ≤ _; omega) (K.dec hd) (fun _ _ => ⟨rfl, rfl, hc, hs⟩)
  dsimp only [Pt.U, Pt.locs, Pt.cells, Pt.slots] at X1 l1 y1 z1 st1 hQ
  subst l1 y1 z1
  obtain ⟨hN, L', hq, hW'⟩ := hQ
  obtain ⟨U, o, h1, h2⟩ := nx v L' hq T1 _ X1 (Fr.app N hN) hW'
  exact ⟨U, o, st1.trans h1, h2⟩
theorem Av.arv {h : Heap} {a : Addr} {ty : FieldType} {vs : List Value} (A : Av Z h a ty vs) : ∃ k, Arv Z h a k ty (Int32.ofNat vs.length) vs .null := by
  obtain ⟨c, h1, h2, h3, h4, -⟩ := A
  have q := Ix.ofNat h3
  have sz : c.slots.size = vs.length := by rw [← h2, Array.length_toList]
  refine ⟨c.cls, c, h1, rfl, by rw [q.2]; exact sz, q.1, fun i hi => ?_, fun i hi => ?_⟩
  · rw [sz] at hi
    rw [List.getD_eq_getElem?_getD, List.getElem?_eq_getElem hi]
    exact Av.val h2 (List.getElem?_eq_getElem hi)
  · rw [sz] at hi
    rw [List.getD_eq_getElem?_getD, List.getElem?_eq_getElem hi]
    exact h4 _ (List.getElem_mem hi)
theorem s_copy (K : Ok Z κ own bytes maxL ret nm) {idx W ka kb : Nat} {a b : Addr} {sp dp nn : Int32} {i j n : Nat} {ty : FieldType} {vs vd vd' : List Value} {L' : Wd} (hd : decode bytes pc = .ok (.invokestatic idx, 3)) (e : pc + 3 = pc') (w1 : (Cond.methodLink own idx Jvm.Stand.acN).before a0 Z = true) (w2 : (Cond.native Jvm.Stand.acN).before a0 Z = true) (w3 : (Cond.static Jvm.Stand.acN).before a0 Z = true) (w4 : (Cond.initialized "java/lang/System").before a0 Z = true)
    (hka : L[ka]? = some (a, .inr (ty, vs))) (hkb : L[kb]? = some (b, .inr (ty, vd))) (hty : refKind ty = false) (hsp : Ix sp i) (hdp : Ix dp j) (hnn : Ix nn n) (h4 : i + n ≤ vs.length) (h5 : j + n ≤ vd.length) (hv : vd.take j ++ ((List.range n).map fun x => vs.getD (i + x) .null) ++ vd.drop (j + n) = vd') (hL : L.set kb (b, .inr (ty, vd')) = L')
    (hsz : Ls.size = maxL) (hf : 1 ≤ R.frames) (hW : (st.map fun v => v.category).sum ≤ W) (hl : W + 18 ≤ R.locals) (nx : Go l Z n0 R Q κ ce sl L' pc' Ls st) : Go l Z n0 R Q κ ce sl L pc Ls (.int nn :: .int dp :: .ref b :: .int sp :: .ref a :: st) := by
  subst e hL hv; intro T locs X N Wd
  have Ha := Wd.at hka
  have Hb := Wd.at hkb
  obtain ⟨k1, A⟩ := Av.arv Ha
  obtain ⟨k2, B⟩ := Av.arv Hb
  obtain ⟨-, -, -, la, -, -⟩ := Ha
  obtain ⟨-, -, -, lb, -, Eb⟩ := Hb
  have ea := (Ix.ofNat la).2
  have eb := (Ix.ofNat lb).2
  obtain ⟨T', h', Lc, X', e', N', Kp, B', stp⟩ := cpA X K.ex K.zw K.ow w1 w2 w3 w4 rfl A B (Or.inl ⟨rfl, hty⟩) hsp.1 hdp.1 hnn.1 (by rw [hsp.2, hnn.2, ea]; exact h4) (by rw [hdp.2, hnn.2, eb]; exact h5) rfl (by rw [hdp.2, hnn.2]; exact h5) N (Wd.ge hkb) (g := mkF κ.m pc Ls (.int nn :: .int dp :: .ref b :: .int sp :: .ref a :: st)) rfl (hsz.trans K.2.2.2.2.1.symm) rfl (K.dec hd) hf (W := W) (by show 2 * 0 + _ ≤ _; omega) hl
  rw [hsp.2, hdp.2, hnn.2] at B'
  obtain ⟨U, o, h1, h2⟩ := nx T' Lc X' N' (by
    rw [e']
    refine Wd.set hkb (Wd.1.keep Kp (allS (Wd.ge hkb) all0)) ?_ (fun b1 o1 ne H => H.keep Kp (ninS ne nin0))
    obtain ⟨c, A', -, S', -, H', G'⟩ := B'
    have len : (vd.take j ++ ((List.range n).map fun x => vs.getD (i + x) .null) ++ vd.drop (j + n)).length = vd.length := by
      simp only [List.length_append, List.length_take, List.length_map, List.length_range, List.length_drop]; omega
    have sz : c.slots.size = vd.length := by rw [S', eb]
    have tl : c.slots.toList = (vd.take j ++ ((List.range n).map fun x => vs.getD (i + x) .null) ++ vd.drop (j + n)) := by
      apply List.ext_getElem?
      intro x
      by_cases q : x < vd.length
      · have := H' x (by rw [sz]; exact q)
        rw [Array.getElem?_toList, this, List.getD_eq_getElem?_getD, List.getElem?_eq_getElem (by rw [len]; exact q)]; rfl
      · rw [List.getElem?_eq_none (by rw [Array.length_toList, sz]; omega), List.getElem?_eq_none (by rw [len]; omega)]
    refine ⟨c, A', tl, by rw [len]; exact lb, fun v hv => ?_, Eb.keep Kp⟩
    obtain ⟨x, hx, rfl⟩ := List.getElem_of_mem hv
    have := G' x (by rw [sz, ← len]; exact hx)
    rwa [List.getD_eq_getElem?_getD, List.getElem?_eq_getElem hx] at this)
  exact ⟨U, o, stp U h1, h2⟩
/-! the end -/
theorem s_ret {t : FieldType} (K : Ok Z κ own bytes maxL (some t) nm) {i : Instr} {w : Value} (hd : decode bytes pc = .ok (i, 1)) (hn : narrow t w = w)
    (hi : (i = .ireturn ∧ (t = .int ∨ t = .boolean ∨ t = .byte ∨ t = .char ∨ t = .short) ∧ ∃ z, w = .int z) ∨ (i = .lreturn ∧ t = .long ∧ ∃ z, w = .long z) ∨ (i = .dreturn ∧ t = .double ∧ ∃ z, w = .double z) ∨ (i = .freturn ∧ t = .float ∧ ∃ z, w = .float z) ∨ (i = .areturn ∧ t.isReference = true ∧ w.isRef = true))
    (hc : ce ≤ R.cells) (hs : sl ≤ R.slots) (hq : Q (some w) L) : Go l Z n0 R Q κ ce sl L pc Ls (w :: st) := fun T locs X N W => by
  have hret := K.2.2.2.2.2.1
  obtain ⟨fs, hr, hrun, hended, hW, hsame⟩ := X.leave (v := some w) (fun h => by rw [hret] at h; cases h) K.2.2.2.2.2.2.1
  exact ⟨_, _, retOut X K.ex hret hn hi (K.dec hd) hr, hrun, hended, _, _, rfl, ⟨N, L, hq, W⟩, ⟨_, rfl⟩, hW, hsame.mono hc hs⟩
theorem s_ireturn (K : Ok Z κ own bytes maxL (some .int) nm) {z : Int32} (hd : decode bytes pc = .ok (.ireturn, 1)) (hc : ce ≤ R.cells) (hs : sl ≤ R.slots) (hq : Q (some (.int z)) L) : Go l Z n0 R Q κ ce sl L pc Ls (.int z :: st) := s_ret K hd rfl (Or.inl ⟨rfl, Or.inl rfl, _, rfl⟩) hc hs hq
theorem s_zreturn (K : Ok Z κ own bytes maxL (some .boolean) nm) {z : Int32} (hd : decode bytes pc = .ok (.ireturn, 1)) (hn : narrow .boolean (.int z) = .int z) (hc : ce ≤ R.cells) (hs : sl ≤ R.slots) (hq : Q (some (.int z)) L) : Go l Z n0 R Q κ ce sl L pc Ls (.int z :: st) := s_ret K hd hn (Or.inl ⟨rfl, Or.inr (Or.inl rfl), _, rfl⟩) hc hs hq
theorem s_lreturn (K : Ok Z κ own bytes maxL (some .long) nm) {z : Int64} (hd : decode bytes pc = .ok (.lreturn, 1)) (hc : ce ≤ R.cells) (hs : sl ≤ R.slots) (hq : Q (some (.long z)) L) : Go l Z n0 R Q κ ce sl L pc Ls (.long z :: st) := s_ret K hd rfl (Or.inr (Or.inl ⟨rfl, rfl, _, rfl⟩)) hc hs hq
theorem s_areturn {t : FieldType} (K : Ok Z κ own bytes maxL (some t) nm) {w : Value} (hd : decode bytes pc = .ok (.areturn, 1)) (ht : t.isReference = true) (hw : w.isRef = true) (hn : narrow t w = w) (hc : ce ≤ R.cells) (hs : sl ≤ R.slots) (hq : Q (some w) L) : Go l Z n0 R Q κ ce sl L pc Ls (w :: st) := s_ret K hd hn (Or.inr (Or.inr (Or.inr (Or.inr ⟨rfl, ht, hw⟩)))) hc hs hq
theorem s_return (K : Ok Z κ own bytes maxL none nm) (hd : decode bytes pc = .ok (.return_, 1)) (hc : ce ≤ R.cells) (hs : sl ≤ R.slots) (hq : Q none L) : Go l Z n0 R Q κ ce sl L pc Ls [] := fun T locs X N W => by
  have hret := K.2.2.2.2.2.1
  obtain ⟨fs, hr, hrun, hended, hW, hsame⟩ := X.leave (v := none) (fun _ => rfl) K.2.2.2.2.2.2.1
  exact ⟨_, _, X.returnOut K.ex hret (K.dec hd) hr, hrun, hended, _, _, rfl, ⟨N, L, hq, W⟩, ⟨_, rfl⟩, hW, hsame.mono hc hs⟩
end Steps
end Jvm.OwnKit
namespace Jvm.Pilot.@@N@@
open Jvm Jvm.ClassFile Sem Op Lib Jvm.Free Jvm.Stand Jvm.LawKit Jvm.RoadKit Bundle Jvm.OwnKit Jvm.Pilot.@@N@@.Jvm.D
def own_val (x : Int64) : Int32 := (x ^^^ XT.ushrL x (32 : Int32)).toInt32
def own_mn (x y : Int64) : Int64 := if y.toInt < x.toInt then y else x
def own_mx (x y : Int64) : Int64 := if x.toInt < y.toInt then y else x
theorem own_mnY {x y : Int64} (h : y.toInt < x.toInt) : own_mn x y = y := if_pos h
theorem own_mnN {x y : Int64} (h : x.toInt ≤ y.toInt) : own_mn x y = x := if_neg (by omega)
theorem own_mxY {x y : Int64} (h : x.toInt < y.toInt) : own_mx x y = y := if_pos h
theorem own_mxN {x y : Int64} (h : y.toInt ≤ x.toInt) : own_mx x y = x := if_neg (by omega)
theorem own_cmp (x y : Int64) : (y.toInt < x.toInt ∧ XT.cmpL x y = 1) ∨ (x.toInt = y.toInt ∧ XT.cmpL x y = 0) ∨ (x.toInt < y.toInt ∧ XT.cmpL x y = -1) := by
  unfold XT.cmpL
  by_cases h : y < x
  · left; rw [if_pos h]; exact ⟨Int64.lt_iff_toInt_lt.mp h, rfl⟩
  · rw [if_neg h]
    rw [Int64.lt_iff_toInt_lt] at h
    by_cases e : x = y
    · right; left; rw [if_pos e]; exact ⟨by rw [e], rfl⟩
    · right; right; rw [if_neg e]
      have : x.toInt ≠ y.toInt := fun q => e (Int64.toInt_inj.mp q)
      exact ⟨by omega, rfl⟩
section
variable {x y : Int64}
theorem own_leY (h : ifCond.holds .le (XT.cmpL x y) = true) : x.toInt ≤ y.toInt := by
  rcases own_cmp x y with ⟨q, e⟩ | ⟨q, e⟩ | ⟨q, e⟩
  · rw [e] at h; exact absurd h (by decide)
  · omega
  · omega
theorem own_leN (h : ifCond.holds .le (XT.cmpL x y) = false) : y.toInt < x.toInt := by
  rcases own_cmp x y with ⟨q, e⟩ | ⟨q, e⟩ | ⟨q, e⟩
  · exact q
  · rw [e] at h; exact absurd h (by decide)
  · rw [e] at h; exact absurd h (by decide)
theorem own_gtY (h : ifCond.holds .gt (XT.cmpL x y) = true) : y.toInt < x.toInt := by
  rcases own_cmp x y with ⟨q, e⟩ | ⟨q, e⟩ | ⟨q, e⟩
  · exact q
  · rw [e] at h; exact absurd h (by decide)
  · rw [e] at h; exact absurd h (by decide)
theorem own_gtN (h : ifCond.holds .gt (XT.cmpL x y) = false) : x.toInt ≤ y.toInt := by
  rcases own_cmp x y with ⟨q, e⟩ | ⟨q, e⟩ | ⟨q, e⟩
  · rw [e] at h; exact absurd h (by decide)
  · omega
  · omega
theorem own_geY (h : ifCond.holds .ge (XT.cmpL x y) = true) : y.toInt ≤ x.toInt := by
  rcases own_cmp x y with ⟨q, e⟩ | ⟨q, e⟩ | ⟨q, e⟩
  · omega
  · omega
  · rw [e] at h; exact absurd h (by decide)
theorem own_geN (h : ifCond.holds .ge (XT.cmpL x y) = false) : x.toInt < y.toInt := by
  rcases own_cmp x y with ⟨q, e⟩ | ⟨q, e⟩ | ⟨q, e⟩
  · rw [e] at h; exact absurd h (by decide)
  · rw [e] at h; exact absurd h (by decide)
  · exact q
theorem own_ltY (h : ifCond.holds .lt (XT.cmpL x y) = true) : x.toInt < y.toInt := by
  rcases own_cmp x y with ⟨q, e⟩ | ⟨q, e⟩ | ⟨q, e⟩
  · rw [e] at h; exact absurd h (by decide)
  · rw [e] at h; exact absurd h (by decide)
  · exact q
theorem own_ltN (h : ifCond.holds .lt (XT.cmpL x y) = false) : y.toInt ≤ x.toInt := by
  rcases own_cmp x y with ⟨q, e⟩ | ⟨q, e⟩ | ⟨q, e⟩
  · omega
  · omega
  · rw [e] at h; exact absurd h (by decide)
theorem own_ne0 (h : x = y) : ifCond.holds .ne (XT.cmpL x y) = false := by
  rcases own_cmp x y with ⟨q, e⟩ | ⟨q, e⟩ | ⟨q, e⟩
  · rw [h] at q; omega
  · rw [e]; rfl
  · rw [h] at q; omega
end
theorem own_pair (x y : Int64) : (own_mn x y).toInt ≤ (own_mx x y).toInt ∧ [own_mn x y, own_mx x y].Perm [x, y] := by
  unfold own_mn own_mx
  by_cases h : y.toInt < x.toInt
  · rw [if_pos h, if_neg (by omega)]; exact ⟨by omega, List.Perm.swap _ _ _⟩
  · rw [if_neg h]
    by_cases q : x.toInt < y.toInt
    · rw [if_pos q]; exact ⟨by omega, List.Perm.refl _⟩
    · rw [if_neg q]
      have e : x = y := Int64.toInt_inj.mp (by omega)
      subst e; exact ⟨by omega, List.Perm.refl _⟩
theorem own_least {xs ys : List Int64} {x y : Int64} (h1 : ∀ z ∈ xs, x.toInt ≤ z.toInt) (h2 : ∀ z ∈ ys, y.toInt ≤ z.toInt) (p : (x :: xs).Perm (y :: ys)) : x = y := by
  have a : x ∈ y :: ys := p.mem_iff.mp (List.mem_cons_self ..)
  have b : y ∈ x :: xs := p.mem_iff.mpr (List.mem_cons_self ..)
  rcases List.mem_cons.mp a with e | a
  · exact e
  · rcases List.mem_cons.mp b with e | b
    · exact e.symm
    · exact Int64.toInt_inj.mp (Int.le_antisymm (h1 y b) (h2 x a))
theorem own_perm4 {a b c d e f : Int64} (h : [a, b].Perm [e, f]) : [a, b, c, d].Perm [e, f, c, d] := h.append_right [c, d]
/-- the sorted answer, and what the heap holds: the same four keys -/
theorem own_p0 {a b c d k A0_0 A1_0 A1_1 A2_0 A2_1 A2_2 A3_0 A3_1 A3_2 A3_3 R0 R1 R2 R3 q0 q1 q2 q3 q4 q5 q6 r1 r2 e0 t1 e1 t2 e2 e3 : Int64}
    (hA0 : [A0_0].Perm [a]) (hA1 : [A1_0, A1_1].Perm [b, A0_0]) (hA2 : [A2_0, A2_1, A2_2].Perm [c, A1_0, A1_1]) (hA3 : [A3_0, A3_1, A3_2, A3_3].Perm [d, A2_0, A2_1, A2_2])
    (o0 : A3_0.toInt ≤ A3_1.toInt) (o1 : A3_0.toInt ≤ A3_2.toInt) (o2 : A3_1.toInt ≤ A3_3.toInt) (hR : [R0, R1, R2, R3].Perm [k, A3_1, A3_2, A3_3])
    (hq0 : q0 = own_mn a b) (hq1 : q1 = own_mx a b) (hq2 : q2 = own_mn c d) (hq3 : q3 = own_mx c d) (hq4 : q4 = own_mn q1 q3) (hq5 : q5 = own_mx q0 q2) (hq6 : q6 = own_mx q1 q3) (hr1 : r1 = own_mn q4 q5) (hr2 : r2 = own_mx q4 q5)
    (he0 : e0 = own_mn k r1) (ht1 : t1 = own_mn k r2) (he1 : e1 = own_mx r1 t1) (ht2 : t2 = own_mn k q6) (he2 : e2 = own_mx r2 t2) (he3 : e3 = own_mx k q6) :
    e0.toInt ≤ e1.toInt ∧ e1.toInt ≤ e2.toInt ∧ e2.toInt ≤ e3.toInt ∧ [R0, R1, R2, R3].Perm [e0, e1, e2, e3] := by
  have count : ∀ {xs ys : List Int64}, xs.Perm ys → ∀ z, xs.count z = ys.count z := fun p z => p.count_eq z
  -- the four keys
  have pa : [A3_0, A3_1, A3_2, A3_3].Perm [a, b, c, d] := by
    rw [List.perm_iff_count]; intro z
    have h0 := count hA0 z; have h1 := count hA1 z; have h2 := count hA2 z; have h3 := count hA3 z
    simp only [List.count_cons, List.count_nil] at *; omega
  -- the network
  obtain ⟨s1, p1⟩ := own_pair a b
  obtain ⟨s2, p2⟩ := own_pair c d
  rw [← hq0, ← hq1] at s1 p1
  rw [← hq2, ← hq3] at s2 p2
  obtain ⟨s3, p3⟩ := own_pair q1 q3
  rw [← hq4, ← hq6] at s3 p3
  obtain ⟨s4, p4⟩ := own_pair q0 q2
  rw [← hq5] at s4 p4
  obtain ⟨lo, hlo⟩ : ∃ z, z = own_mn q0 q2 := ⟨_, rfl⟩
  rw [← hlo] at s4 p4
  obtain ⟨s5, p5⟩ := own_pair q4 q5
  rw [← hr1, ← hr2] at s5 p5
  have le_of : ∀ {x y u v : Int64}, [x, y].Perm [u, v] → x.toInt ≤ y.toInt → x.toInt ≤ u.toInt ∧ x.toInt ≤ v.toInt ∧ u.toInt ≤ y.toInt ∧ v.toInt ≤ y.toInt := fun {x y u v} p q => by
    have hu : u ∈ [x, y] := p.mem_iff.mpr (by simp)
    have hv : v ∈ [x, y] := p.mem_iff.mpr (by simp)
    simp only [List.mem_cons, List.not_mem_nil, or_false] at hu hv
    rcases hu with rfl | rfl <;> rcases hv with rfl | rfl <;> omega
  have l3 := le_of p3 s3
  have l4 := le_of p4 s4
  have l5 := le_of p5 s5
  have pn : [lo, r1, r2, q6].Perm [a, b, c, d] := by
    rw [List.perm_iff_count]; intro z
    have h1 := count p1 z; have h2 := count p2 z; have h3 := count p3 z; have h4 := count p4 z; have h5 := count p5 z
    simp only [List.count_cons, List.count_nil] at *; omega
  have in2 : ∀ {x y u v : Int64}, [x, y].Perm [u, v] → (x = u ∨ x = v) ∧ (y = u ∨ y = v) := fun {x y u v} p => by
    have hx : x ∈ [u, v] := p.mem_iff.mp (by simp)
    have hy : y ∈ [u, v] := p.mem_iff.mp (by simp)
    simp only [List.mem_cons, List.not_mem_nil, or_false] at hx hy
    exact ⟨hx, hy⟩
  have r26 : r2.toInt ≤ q6.toInt := by
    rcases (in2 p5).2 with e | e
    · rw [e]; omega
    · rw [e]; rcases (in2 p4).2 with e' | e' <;> rw [e'] <;> omega
  have lor : lo.toInt ≤ r1.toInt := by
    rcases (in2 p5).1 with e | e
    · rw [e]; rcases (in2 p3).1 with e' | e' <;> rw [e'] <;> omega
    · rw [e]; omega
  have e := own_least (x := A3_0) (y := lo) (xs := [A3_1, A3_2, A3_3]) (ys := [r1, r2, q6]) (by
    intro z hz; simp only [List.mem_cons, List.not_mem_nil, or_false] at hz; rcases hz with rfl | rfl | rfl <;> omega) (by
    intro z hz; simp only [List.mem_cons, List.not_mem_nil, or_false] at hz; rcases hz with rfl | rfl | rfl <;> omega) (pa.trans pn.symm)
  have pr : [A3_1, A3_2, A3_3].Perm [r1, r2, q6] := by
    have := pa.trans pn.symm; rw [e] at this; exact (List.perm_cons _).mp this
  have fin : e0.toInt ≤ e1.toInt ∧ e1.toInt ≤ e2.toInt ∧ e2.toInt ≤ e3.toInt ∧ [k, r1, r2, q6].Perm [e0, e1, e2, e3] := by
    subst he0 ht1 he1 ht2 he2 he3
    rcases Int.lt_or_le k.toInt r1.toInt with h | h
    · rw [own_mnN (x := k) (y := r1) (by omega), own_mnN (x := k) (y := r2) (by omega), own_mnN (x := k) (y := q6) (by omega), own_mxN (x := r1) (y := k) (by omega), own_mxN (x := r2) (y := k) (by omega)]
      rcases Int.lt_or_le k.toInt q6.toInt with h2 | h2
      · rw [own_mxY h2]; exact ⟨by omega, by omega, by omega, List.Perm.refl _⟩
      · exact absurd h2 (by omega)
    · have hk : own_mn k r1 = r1 := by
        by_cases q : r1.toInt < k.toInt
        · exact own_mnY q
        · rw [own_mnN (by omega)]; exact Int64.toInt_inj.mp (by omega)
      rw [hk]
      rcases Int.lt_or_le k.toInt r2.toInt with h2 | h2
      · rw [own_mnN (x := k) (y := r2) (by omega), own_mnN (x := k) (y := q6) (by omega), own_mxN (x := r2) (y := k) (by omega)]
        have h3 : own_mx r1 k = k := by
          by_cases q : r1.toInt < k.toInt
          · exact own_mxY q
          · rw [own_mxN (by omega)]; exact Int64.toInt_inj.mp (by omega)
        rw [h3, own_mxY (x := k) (y := q6) (by omega)]
        exact ⟨by omega, by omega, by omega, List.Perm.swap _ _ _⟩
      · have h3 : own_mn k r2 = r2 := by
          by_cases q : r2.toInt < k.toInt
          · exact own_mnY q
          · rw [own_mnN (by omega)]; exact Int64.toInt_inj.mp (by omega)
        have h4 : own_mx r1 r2 = r2 := by
          by_cases q : r1.toInt < r2.toInt
          · exact own_mxY q
          · rw [own_mxN (by omega)]; exact Int64.toInt_inj.mp (by omega)
        rw [h3, h4]
        obtain ⟨s6, p6⟩ := own_pair k q6
        have l6 := le_of p6 s6
        have h5 : own_mx r2 (own_mn k q6) = own_mn k q6 := by
          by_cases q : r2.toInt < (own_mn k q6).toInt
          · exact own_mxY q
          · rw [own_mxN (by omega)]; refine Int64.toInt_inj.mp ?_
            rcases (in2 p6).1 with e' | e' <;> rw [e'] at q ⊢ <;> omega
        rw [h5]
        refine ⟨by omega, ?_, s6, ?_⟩
        · rcases (in2 p6).1 with e' | e' <;> rw [e'] <;> omega
        · rw [List.perm_iff_count]; intro z
          have h6 := count p6 z
          simp only [List.count_cons, List.count_nil] at *; omega
  refine ⟨fin.1, fin.2.1, fin.2.2.1, hR.trans (List.Perm.trans ?_ fin.2.2.2)⟩
  exact List.Perm.cons _ pr
section
variable {m0 m1 m2 m3 e0 e1 e2 e3 n0 n1 n2 : Int64}
theorem own_l4 (o0 : m0.toInt ≤ m1.toInt) (o1 : m0.toInt ≤ m2.toInt) (o2 : m1.toInt ≤ m3.toInt) (s0 : e0.toInt ≤ e1.toInt) (s1 : e1.toInt ≤ e2.toInt) (s2 : e2.toInt ≤ e3.toInt) (p : [m0, m1, m2, m3].Perm [e0, e1, e2, e3]) : m0 = e0 :=
  own_least (by intro z hz; simp only [List.mem_cons, List.not_mem_nil, or_false] at hz; rcases hz with rfl | rfl | rfl <;> omega) (by intro z hz; simp only [List.mem_cons, List.not_mem_nil, or_false] at hz; rcases hz with rfl | rfl | rfl <;> omega) p
theorem own_s4 (e : m0 = e0) (p : [m0, m1, m2, m3].Perm [e0, e1, e2, e3]) (h : [n0, n1, n2].Perm [m3, m1, m2]) : [n0, n1, n2].Perm [e1, e2, e3] := by
  subst e
  have q := (List.perm_cons _).mp p
  rw [List.perm_iff_count] at *; intro z; have h1 := h z; have h2 := q z
  simp only [List.count_cons, List.count_nil] at *; omega
theorem own_l3 (o0 : m0.toInt ≤ m1.toInt) (o1 : m0.toInt ≤ m2.toInt) (s1 : e1.toInt ≤ e2.toInt) (s2 : e2.toInt ≤ e3.toInt) (p : [m0, m1, m2].Perm [e1, e2, e3]) : m0 = e1 :=
  own_least (by intro z hz; simp only [List.mem_cons, List.not_mem_nil, or_false] at hz; rcases hz with rfl | rfl <;> omega) (by intro z hz; simp only [List.mem_cons, List.not_mem_nil, or_false] at hz; rcases hz with rfl | rfl <;> omega) p
theorem own_s3 (e : m0 = e1) (p : [m0, m1, m2].Perm [e1, e2, e3]) (h : [n0, n1].Perm [m2, m1]) : [n0, n1].Perm [e2, e3] := by
  subst e
  exact h.trans ((List.Perm.swap _ _ _).trans ((List.perm_cons _).mp p))
theorem own_l2 (o0 : m0.toInt ≤ m1.toInt) (s2 : e2.toInt ≤ e3.toInt) (p : [m0, m1].Perm [e2, e3]) : m0 = e2 :=
  own_least (by intro z hz; simp only [List.mem_cons, List.not_mem_nil, or_false] at hz; rcases hz with rfl; omega) (by intro z hz; simp only [List.mem_cons, List.not_mem_nil, or_false] at hz; rcases hz with rfl; omega) p
theorem own_s2 (e : m0 = e2) (p : [m0, m1].Perm [e2, e3]) (h : [n0].Perm [m1]) : n0 = e3 := by
  subst e
  have q := h.trans ((List.perm_cons _).mp p)
  simpa using q
end

theorem d1_0 : decode prog_65_method_1_code 0 = .ok (.aload_n 0, 1) := by decide +kernel
theorem d1_1 : decode prog_65_method_1_code 1 = .ok (.invokespecial 1, 3) := by decide +kernel
theorem d1_4 : decode prog_65_method_1_code 4 = .ok (.aload_n 0, 1) := by decide +kernel
theorem d1_5 : decode prog_65_method_1_code 5 = .ok (.iload_n 1, 1) := by decide +kernel
theorem d1_6 : decode prog_65_method_1_code 6 = .ok (.iconst 1, 1) := by decide +kernel
theorem d1_7 : decode prog_65_method_1_code 7 = .ok (.invokestatic 7, 3) := by decide +kernel
theorem d1_10 : decode prog_65_method_1_code 10 = .ok (.newarray .long, 2) := by decide +kernel
theorem d1_12 : decode prog_65_method_1_code 12 = .ok (.putfield 13, 3) := by decide +kernel
theorem d1_15 : decode prog_65_method_1_code 15 = .ok (.aload_n 0, 1) := by decide +kernel
theorem d1_16 : decode prog_65_method_1_code 16 = .ok (.aload_n 0, 1) := by decide +kernel
theorem d1_17 : decode prog_65_method_1_code 17 = .ok (.getfield 13, 3) := by decide +kernel
theorem d1_20 : decode prog_65_method_1_code 20 = .ok (.arraylength, 1) := by decide +kernel
theorem d1_21 : decode prog_65_method_1_code 21 = .ok (.newarray .int, 2) := by decide +kernel
theorem d1_23 : decode prog_65_method_1_code 23 = .ok (.putfield 19, 3) := by decide +kernel
theorem d1_26 : decode prog_65_method_1_code 26 = .ok (.return_, 1) := by decide +kernel
theorem d2_0 : decode object_method_1_code 0 = .ok (.return_, 1) := by decide +kernel
theorem d3_0 : decode jdk_29_method_65_code 0 = .ok (.iload_n 0, 1) := by decide +kernel
theorem d3_1 : decode jdk_29_method_65_code 1 = .ok (.iload_n 1, 1) := by decide +kernel
theorem d3_2 : decode jdk_29_method_65_code 2 = .ok (.if_icmp .lt 7, 3) := by decide +kernel
theorem d3_5 : decode jdk_29_method_65_code 5 = .ok (.iload_n 0, 1) := by decide +kernel
theorem d3_6 : decode jdk_29_method_65_code 6 = .ok (.goto 4, 3) := by decide +kernel
theorem d3_9 : decode jdk_29_method_65_code 9 = .ok (.iload_n 1, 1) := by decide +kernel
theorem d3_10 : decode jdk_29_method_65_code 10 = .ok (.ireturn, 1) := by decide +kernel
theorem d4_0 : decode method_2_code 0 = .ok (.lload_n 0, 1) := by decide +kernel
theorem d4_1 : decode method_2_code 1 = .ok (.lload_n 0, 1) := by decide +kernel
theorem d4_2 : decode method_2_code 2 = .ok (.bipush 32, 2) := by decide +kernel
theorem d4_4 : decode method_2_code 4 = .ok (.lushr, 1) := by decide +kernel
theorem d4_5 : decode method_2_code 5 = .ok (.lxor, 1) := by decide +kernel
theorem d4_6 : decode method_2_code 6 = .ok (.l2i, 1) := by decide +kernel
theorem d4_7 : decode method_2_code 7 = .ok (.ireturn, 1) := by decide +kernel
theorem d5_0 : decode prog_65_method_5_code 0 = .ok (.aload_n 0, 1) := by decide +kernel
theorem d5_1 : decode prog_65_method_5_code 1 = .ok (.getfield 23, 3) := by decide +kernel
theorem d5_4 : decode prog_65_method_5_code 4 = .ok (.aload_n 0, 1) := by decide +kernel
theorem d5_5 : decode prog_65_method_5_code 5 = .ok (.getfield 13, 3) := by decide +kernel
theorem d5_8 : decode prog_65_method_5_code 8 = .ok (.arraylength, 1) := by decide +kernel
theorem d5_9 : decode prog_65_method_5_code 9 = .ok (.if_icmp .ne 37, 3) := by decide +kernel
theorem d5_12 : decode prog_65_method_5_code 12 = .ok (.aload_n 0, 1) := by decide +kernel
theorem d5_13 : decode prog_65_method_5_code 13 = .ok (.aload_n 0, 1) := by decide +kernel
theorem d5_14 : decode prog_65_method_5_code 14 = .ok (.getfield 13, 3) := by decide +kernel
theorem d5_17 : decode prog_65_method_5_code 17 = .ok (.iconst 2, 1) := by decide +kernel
theorem d5_18 : decode prog_65_method_5_code 18 = .ok (.aload_n 0, 1) := by decide +kernel
theorem d5_19 : decode prog_65_method_5_code 19 = .ok (.getfield 23, 3) := by decide +kernel
theorem d5_22 : decode prog_65_method_5_code 22 = .ok (.imul, 1) := by decide +kernel
theorem d5_23 : decode prog_65_method_5_code 23 = .ok (.invokestatic 27, 3) := by decide +kernel
theorem d5_26 : decode prog_65_method_5_code 26 = .ok (.putfield 13, 3) := by decide +kernel
theorem d5_29 : decode prog_65_method_5_code 29 = .ok (.aload_n 0, 1) := by decide +kernel
theorem d5_30 : decode prog_65_method_5_code 30 = .ok (.aload_n 0, 1) := by decide +kernel
theorem d5_31 : decode prog_65_method_5_code 31 = .ok (.getfield 19, 3) := by decide +kernel
theorem d5_34 : decode prog_65_method_5_code 34 = .ok (.iconst 2, 1) := by decide +kernel
theorem d5_35 : decode prog_65_method_5_code 35 = .ok (.aload_n 0, 1) := by decide +kernel
theorem d5_36 : decode prog_65_method_5_code 36 = .ok (.getfield 23, 3) := by decide +kernel
theorem d5_39 : decode prog_65_method_5_code 39 = .ok (.imul, 1) := by decide +kernel
theorem d5_40 : decode prog_65_method_5_code 40 = .ok (.invokestatic 33, 3) := by decide +kernel
theorem d5_43 : decode prog_65_method_5_code 43 = .ok (.putfield 19, 3) := by decide +kernel
theorem d5_46 : decode prog_65_method_5_code 46 = .ok (.aload_n 0, 1) := by decide +kernel
theorem d5_47 : decode prog_65_method_5_code 47 = .ok (.dup, 1) := by decide +kernel
theorem d5_48 : decode prog_65_method_5_code 48 = .ok (.getfield 23, 3) := by decide +kernel
theorem d5_51 : decode prog_65_method_5_code 51 = .ok (.dup_x1, 1) := by decide +kernel
theorem d5_52 : decode prog_65_method_5_code 52 = .ok (.iconst 1, 1) := by decide +kernel
theorem d5_53 : decode prog_65_method_5_code 53 = .ok (.iadd, 1) := by decide +kernel
theorem d5_54 : decode prog_65_method_5_code 54 = .ok (.putfield 23, 3) := by decide +kernel
theorem d5_57 : decode prog_65_method_5_code 57 = .ok (.istore 4, 2) := by decide +kernel
theorem d5_59 : decode prog_65_method_5_code 59 = .ok (.iload 4, 2) := by decide +kernel
theorem d5_61 : decode prog_65_method_5_code 61 = .ok (.ifCond .le 62, 3) := by decide +kernel
theorem d5_64 : decode prog_65_method_5_code 64 = .ok (.aload_n 0, 1) := by decide +kernel
theorem d5_65 : decode prog_65_method_5_code 65 = .ok (.getfield 13, 3) := by decide +kernel
theorem d5_68 : decode prog_65_method_5_code 68 = .ok (.iload 4, 2) := by decide +kernel
theorem d5_70 : decode prog_65_method_5_code 70 = .ok (.iconst 1, 1) := by decide +kernel
theorem d5_71 : decode prog_65_method_5_code 71 = .ok (.isub, 1) := by decide +kernel
theorem d5_72 : decode prog_65_method_5_code 72 = .ok (.iconst 1, 1) := by decide +kernel
theorem d5_73 : decode prog_65_method_5_code 73 = .ok (.iushr, 1) := by decide +kernel
theorem d5_74 : decode prog_65_method_5_code 74 = .ok (.laload, 1) := by decide +kernel
theorem d5_75 : decode prog_65_method_5_code 75 = .ok (.lload_n 1, 1) := by decide +kernel
theorem d5_76 : decode prog_65_method_5_code 76 = .ok (.lcmp, 1) := by decide +kernel
theorem d5_77 : decode prog_65_method_5_code 77 = .ok (.ifCond .le 46, 3) := by decide +kernel
theorem d5_80 : decode prog_65_method_5_code 80 = .ok (.iload 4, 2) := by decide +kernel
theorem d5_82 : decode prog_65_method_5_code 82 = .ok (.iconst 1, 1) := by decide +kernel
theorem d5_83 : decode prog_65_method_5_code 83 = .ok (.isub, 1) := by decide +kernel
theorem d5_84 : decode prog_65_method_5_code 84 = .ok (.iconst 1, 1) := by decide +kernel
theorem d5_85 : decode prog_65_method_5_code 85 = .ok (.iushr, 1) := by decide +kernel
theorem d5_86 : decode prog_65_method_5_code 86 = .ok (.istore 5, 2) := by decide +kernel
theorem d5_88 : decode prog_65_method_5_code 88 = .ok (.aload_n 0, 1) := by decide +kernel
theorem d5_89 : decode prog_65_method_5_code 89 = .ok (.getfield 13, 3) := by decide +kernel
theorem d5_92 : decode prog_65_method_5_code 92 = .ok (.iload 4, 2) := by decide +kernel
theorem d5_94 : decode prog_65_method_5_code 94 = .ok (.aload_n 0, 1) := by decide +kernel
theorem d5_95 : decode prog_65_method_5_code 95 = .ok (.getfield 13, 3) := by decide +kernel
theorem d5_98 : decode prog_65_method_5_code 98 = .ok (.iload 5, 2) := by decide +kernel
theorem d5_100 : decode prog_65_method_5_code 100 = .ok (.laload, 1) := by decide +kernel
theorem d5_101 : decode prog_65_method_5_code 101 = .ok (.lastore, 1) := by decide +kernel
theorem d5_102 : decode prog_65_method_5_code 102 = .ok (.aload_n 0, 1) := by decide +kernel
theorem d5_103 : decode prog_65_method_5_code 103 = .ok (.getfield 19, 3) := by decide +kernel
theorem d5_106 : decode prog_65_method_5_code 106 = .ok (.iload 4, 2) := by decide +kernel
theorem d5_108 : decode prog_65_method_5_code 108 = .ok (.aload_n 0, 1) := by decide +kernel
theorem d5_109 : decode prog_65_method_5_code 109 = .ok (.getfield 19, 3) := by decide +kernel
theorem d5_112 : decode prog_65_method_5_code 112 = .ok (.iload 5, 2) := by decide +kernel
theorem d5_114 : decode prog_65_method_5_code 114 = .ok (.iaload, 1) := by decide +kernel
theorem d5_115 : decode prog_65_method_5_code 115 = .ok (.iastore, 1) := by decide +kernel
theorem d5_116 : decode prog_65_method_5_code 116 = .ok (.iload 5, 2) := by decide +kernel
theorem d5_118 : decode prog_65_method_5_code 118 = .ok (.istore 4, 2) := by decide +kernel
theorem d5_120 : decode prog_65_method_5_code 120 = .ok (.goto (-61), 3) := by decide +kernel
theorem d5_123 : decode prog_65_method_5_code 123 = .ok (.aload_n 0, 1) := by decide +kernel
theorem d5_124 : decode prog_65_method_5_code 124 = .ok (.getfield 13, 3) := by decide +kernel
theorem d5_127 : decode prog_65_method_5_code 127 = .ok (.iload 4, 2) := by decide +kernel
theorem d5_129 : decode prog_65_method_5_code 129 = .ok (.lload_n 1, 1) := by decide +kernel
theorem d5_130 : decode prog_65_method_5_code 130 = .ok (.lastore, 1) := by decide +kernel
theorem d5_131 : decode prog_65_method_5_code 131 = .ok (.aload_n 0, 1) := by decide +kernel
theorem d5_132 : decode prog_65_method_5_code 132 = .ok (.getfield 19, 3) := by decide +kernel
theorem d5_135 : decode prog_65_method_5_code 135 = .ok (.iload 4, 2) := by decide +kernel
theorem d5_137 : decode prog_65_method_5_code 137 = .ok (.iload_n 3, 1) := by decide +kernel
theorem d5_138 : decode prog_65_method_5_code 138 = .ok (.iastore, 1) := by decide +kernel
theorem d5_139 : decode prog_65_method_5_code 139 = .ok (.return_, 1) := by decide +kernel
theorem d6_0 : decode prog_65_method_7_code 0 = .ok (.iconst 0, 1) := by decide +kernel
theorem d6_1 : decode prog_65_method_7_code 1 = .ok (.istore 4, 2) := by decide +kernel
theorem d6_3 : decode prog_65_method_7_code 3 = .ok (.iconst 2, 1) := by decide +kernel
theorem d6_4 : decode prog_65_method_7_code 4 = .ok (.iload 4, 2) := by decide +kernel
theorem d6_6 : decode prog_65_method_7_code 6 = .ok (.imul, 1) := by decide +kernel
theorem d6_7 : decode prog_65_method_7_code 7 = .ok (.iconst 1, 1) := by decide +kernel
theorem d6_8 : decode prog_65_method_7_code 8 = .ok (.iadd, 1) := by decide +kernel
theorem d6_9 : decode prog_65_method_7_code 9 = .ok (.aload_n 0, 1) := by decide +kernel
theorem d6_10 : decode prog_65_method_7_code 10 = .ok (.getfield 23, 3) := by decide +kernel
theorem d6_13 : decode prog_65_method_7_code 13 = .ok (.if_icmp .ge 95, 3) := by decide +kernel
theorem d6_16 : decode prog_65_method_7_code 16 = .ok (.iconst 2, 1) := by decide +kernel
theorem d6_17 : decode prog_65_method_7_code 17 = .ok (.iload 4, 2) := by decide +kernel
theorem d6_19 : decode prog_65_method_7_code 19 = .ok (.imul, 1) := by decide +kernel
theorem d6_20 : decode prog_65_method_7_code 20 = .ok (.iconst 1, 1) := by decide +kernel
theorem d6_21 : decode prog_65_method_7_code 21 = .ok (.iadd, 1) := by decide +kernel
theorem d6_22 : decode prog_65_method_7_code 22 = .ok (.istore 5, 2) := by decide +kernel
theorem d6_24 : decode prog_65_method_7_code 24 = .ok (.iload 5, 2) := by decide +kernel
theorem d6_26 : decode prog_65_method_7_code 26 = .ok (.iconst 1, 1) := by decide +kernel
theorem d6_27 : decode prog_65_method_7_code 27 = .ok (.iadd, 1) := by decide +kernel
theorem d6_28 : decode prog_65_method_7_code 28 = .ok (.aload_n 0, 1) := by decide +kernel
theorem d6_29 : decode prog_65_method_7_code 29 = .ok (.getfield 23, 3) := by decide +kernel
theorem d6_32 : decode prog_65_method_7_code 32 = .ok (.if_icmp .ge 26, 3) := by decide +kernel
theorem d6_35 : decode prog_65_method_7_code 35 = .ok (.aload_n 0, 1) := by decide +kernel
theorem d6_36 : decode prog_65_method_7_code 36 = .ok (.getfield 13, 3) := by decide +kernel
theorem d6_39 : decode prog_65_method_7_code 39 = .ok (.iload 5, 2) := by decide +kernel
theorem d6_41 : decode prog_65_method_7_code 41 = .ok (.iconst 1, 1) := by decide +kernel
theorem d6_42 : decode prog_65_method_7_code 42 = .ok (.iadd, 1) := by decide +kernel
theorem d6_43 : decode prog_65_method_7_code 43 = .ok (.laload, 1) := by decide +kernel
theorem d6_44 : decode prog_65_method_7_code 44 = .ok (.aload_n 0, 1) := by decide +kernel
theorem d6_45 : decode prog_65_method_7_code 45 = .ok (.getfield 13, 3) := by decide +kernel
theorem d6_48 : decode prog_65_method_7_code 48 = .ok (.iload 5, 2) := by decide +kernel
theorem d6_50 : decode prog_65_method_7_code 50 = .ok (.laload, 1) := by decide +kernel
theorem d6_51 : decode prog_65_method_7_code 51 = .ok (.lcmp, 1) := by decide +kernel
theorem d6_52 : decode prog_65_method_7_code 52 = .ok (.ifCond .ge 6, 3) := by decide +kernel
theorem d6_55 : decode prog_65_method_7_code 55 = .ok (.iinc 5 1, 3) := by decide +kernel
theorem d6_58 : decode prog_65_method_7_code 58 = .ok (.aload_n 0, 1) := by decide +kernel
theorem d6_59 : decode prog_65_method_7_code 59 = .ok (.getfield 13, 3) := by decide +kernel
theorem d6_62 : decode prog_65_method_7_code 62 = .ok (.iload 5, 2) := by decide +kernel
theorem d6_64 : decode prog_65_method_7_code 64 = .ok (.laload, 1) := by decide +kernel
theorem d6_65 : decode prog_65_method_7_code 65 = .ok (.lload_n 1, 1) := by decide +kernel
theorem d6_66 : decode prog_65_method_7_code 66 = .ok (.lcmp, 1) := by decide +kernel
theorem d6_67 : decode prog_65_method_7_code 67 = .ok (.ifCond .lt 6, 3) := by decide +kernel
theorem d6_70 : decode prog_65_method_7_code 70 = .ok (.goto 38, 3) := by decide +kernel
theorem d6_73 : decode prog_65_method_7_code 73 = .ok (.aload_n 0, 1) := by decide +kernel
theorem d6_74 : decode prog_65_method_7_code 74 = .ok (.getfield 13, 3) := by decide +kernel
theorem d6_77 : decode prog_65_method_7_code 77 = .ok (.iload 4, 2) := by decide +kernel
theorem d6_79 : decode prog_65_method_7_code 79 = .ok (.aload_n 0, 1) := by decide +kernel
theorem d6_80 : decode prog_65_method_7_code 80 = .ok (.getfield 13, 3) := by decide +kernel
theorem d6_83 : decode prog_65_method_7_code 83 = .ok (.iload 5, 2) := by decide +kernel
theorem d6_85 : decode prog_65_method_7_code 85 = .ok (.laload, 1) := by decide +kernel
theorem d6_86 : decode prog_65_method_7_code 86 = .ok (.lastore, 1) := by decide +kernel
theorem d6_87 : decode prog_65_method_7_code 87 = .ok (.aload_n 0, 1) := by decide +kernel
theorem d6_88 : decode prog_65_method_7_code 88 = .ok (.getfield 19, 3) := by decide +kernel
theorem d6_91 : decode prog_65_method_7_code 91 = .ok (.iload 4, 2) := by decide +kernel
theorem d6_93 : decode prog_65_method_7_code 93 = .ok (.aload_n 0, 1) := by decide +kernel
theorem d6_94 : decode prog_65_method_7_code 94 = .ok (.getfield 19, 3) := by decide +kernel
theorem d6_97 : decode prog_65_method_7_code 97 = .ok (.iload 5, 2) := by decide +kernel
theorem d6_99 : decode prog_65_method_7_code 99 = .ok (.iaload, 1) := by decide +kernel
theorem d6_100 : decode prog_65_method_7_code 100 = .ok (.iastore, 1) := by decide +kernel
theorem d6_101 : decode prog_65_method_7_code 101 = .ok (.iload 5, 2) := by decide +kernel
theorem d6_103 : decode prog_65_method_7_code 103 = .ok (.istore 4, 2) := by decide +kernel
theorem d6_105 : decode prog_65_method_7_code 105 = .ok (.goto (-102), 3) := by decide +kernel
theorem d6_108 : decode prog_65_method_7_code 108 = .ok (.aload_n 0, 1) := by decide +kernel
theorem d6_109 : decode prog_65_method_7_code 109 = .ok (.getfield 13, 3) := by decide +kernel
theorem d6_112 : decode prog_65_method_7_code 112 = .ok (.iload 4, 2) := by decide +kernel
theorem d6_114 : decode prog_65_method_7_code 114 = .ok (.lload_n 1, 1) := by decide +kernel
theorem d6_115 : decode prog_65_method_7_code 115 = .ok (.lastore, 1) := by decide +kernel
theorem d6_116 : decode prog_65_method_7_code 116 = .ok (.aload_n 0, 1) := by decide +kernel
theorem d6_117 : decode prog_65_method_7_code 117 = .ok (.getfield 19, 3) := by decide +kernel
theorem d6_120 : decode prog_65_method_7_code 120 = .ok (.iload 4, 2) := by decide +kernel
theorem d6_122 : decode prog_65_method_7_code 122 = .ok (.iload_n 3, 1) := by decide +kernel
theorem d6_123 : decode prog_65_method_7_code 123 = .ok (.iastore, 1) := by decide +kernel
theorem d6_124 : decode prog_65_method_7_code 124 = .ok (.return_, 1) := by decide +kernel
theorem d7_0 : decode jdk_29_method_70_code 0 = .ok (.lload_n 0, 1) := by decide +kernel
theorem d7_1 : decode jdk_29_method_70_code 1 = .ok (.lload_n 2, 1) := by decide +kernel
theorem d7_2 : decode jdk_29_method_70_code 2 = .ok (.lcmp, 1) := by decide +kernel
theorem d7_3 : decode jdk_29_method_70_code 3 = .ok (.ifCond .gt 7, 3) := by decide +kernel
theorem d7_6 : decode jdk_29_method_70_code 6 = .ok (.lload_n 0, 1) := by decide +kernel
theorem d7_7 : decode jdk_29_method_70_code 7 = .ok (.goto 4, 3) := by decide +kernel
theorem d7_10 : decode jdk_29_method_70_code 10 = .ok (.lload_n 2, 1) := by decide +kernel
theorem d7_11 : decode jdk_29_method_70_code 11 = .ok (.lreturn, 1) := by decide +kernel
theorem d8_0 : decode jdk_29_method_66_code 0 = .ok (.lload_n 0, 1) := by decide +kernel
theorem d8_1 : decode jdk_29_method_66_code 1 = .ok (.lload_n 2, 1) := by decide +kernel
theorem d8_2 : decode jdk_29_method_66_code 2 = .ok (.lcmp, 1) := by decide +kernel
theorem d8_3 : decode jdk_29_method_66_code 3 = .ok (.ifCond .lt 7, 3) := by decide +kernel
theorem d8_6 : decode jdk_29_method_66_code 6 = .ok (.lload_n 0, 1) := by decide +kernel
theorem d8_7 : decode jdk_29_method_66_code 7 = .ok (.goto 4, 3) := by decide +kernel
theorem d8_10 : decode jdk_29_method_66_code 10 = .ok (.lload_n 2, 1) := by decide +kernel
theorem d8_11 : decode jdk_29_method_66_code 11 = .ok (.lreturn, 1) := by decide +kernel
theorem d9_0 : decode prog_65_method_2_code 0 = .ok (.aload_n 0, 1) := by decide +kernel
theorem d9_1 : decode prog_65_method_2_code 1 = .ok (.getfield 23, 3) := by decide +kernel
theorem d9_4 : decode prog_65_method_2_code 4 = .ok (.ireturn, 1) := by decide +kernel
theorem d10_0 : decode prog_65_method_3_code 0 = .ok (.aload_n 0, 1) := by decide +kernel
theorem d10_1 : decode prog_65_method_3_code 1 = .ok (.getfield 13, 3) := by decide +kernel
theorem d10_4 : decode prog_65_method_3_code 4 = .ok (.iconst 0, 1) := by decide +kernel
theorem d10_5 : decode prog_65_method_3_code 5 = .ok (.laload, 1) := by decide +kernel
theorem d10_6 : decode prog_65_method_3_code 6 = .ok (.lreturn, 1) := by decide +kernel
theorem d11_0 : decode prog_65_method_4_code 0 = .ok (.aload_n 0, 1) := by decide +kernel
theorem d11_1 : decode prog_65_method_4_code 1 = .ok (.getfield 19, 3) := by decide +kernel
theorem d11_4 : decode prog_65_method_4_code 4 = .ok (.iconst 0, 1) := by decide +kernel
theorem d11_5 : decode prog_65_method_4_code 5 = .ok (.iaload, 1) := by decide +kernel
theorem d11_6 : decode prog_65_method_4_code 6 = .ok (.ireturn, 1) := by decide +kernel
theorem d12_0 : decode prog_65_method_6_code 0 = .ok (.aload_n 0, 1) := by decide +kernel
theorem d12_1 : decode prog_65_method_6_code 1 = .ok (.dup, 1) := by decide +kernel
theorem d12_2 : decode prog_65_method_6_code 2 = .ok (.getfield 23, 3) := by decide +kernel
theorem d12_5 : decode prog_65_method_6_code 5 = .ok (.iconst 1, 1) := by decide +kernel
theorem d12_6 : decode prog_65_method_6_code 6 = .ok (.isub, 1) := by decide +kernel
theorem d12_7 : decode prog_65_method_6_code 7 = .ok (.putfield 23, 3) := by decide +kernel
theorem d12_10 : decode prog_65_method_6_code 10 = .ok (.aload_n 0, 1) := by decide +kernel
theorem d12_11 : decode prog_65_method_6_code 11 = .ok (.getfield 23, 3) := by decide +kernel
theorem d12_14 : decode prog_65_method_6_code 14 = .ok (.ifCond .le 25, 3) := by decide +kernel
theorem d12_17 : decode prog_65_method_6_code 17 = .ok (.aload_n 0, 1) := by decide +kernel
theorem d12_18 : decode prog_65_method_6_code 18 = .ok (.aload_n 0, 1) := by decide +kernel
theorem d12_19 : decode prog_65_method_6_code 19 = .ok (.getfield 13, 3) := by decide +kernel
theorem d12_22 : decode prog_65_method_6_code 22 = .ok (.aload_n 0, 1) := by decide +kernel
theorem d12_23 : decode prog_65_method_6_code 23 = .ok (.getfield 23, 3) := by decide +kernel
theorem d12_26 : decode prog_65_method_6_code 26 = .ok (.laload, 1) := by decide +kernel
theorem d12_27 : decode prog_65_method_6_code 27 = .ok (.aload_n 0, 1) := by decide +kernel
theorem d12_28 : decode prog_65_method_6_code 28 = .ok (.getfield 19, 3) := by decide +kernel
theorem d12_31 : decode prog_65_method_6_code 31 = .ok (.aload_n 0, 1) := by decide +kernel
theorem d12_32 : decode prog_65_method_6_code 32 = .ok (.getfield 23, 3) := by decide +kernel
theorem d12_35 : decode prog_65_method_6_code 35 = .ok (.iaload, 1) := by decide +kernel
theorem d12_36 : decode prog_65_method_6_code 36 = .ok (.invokevirtual 36, 3) := by decide +kernel
theorem d12_39 : decode prog_65_method_6_code 39 = .ok (.return_, 1) := by decide +kernel
abbrev HW (Z : State) (a0 : Array Value) : Prop := ∀ d ∈ tables_1, d.before a0 Z = true
section Words
variable {Z : State} {a0 : Array Value}
theorem w0 (hw : HW Z a0) : (Jvm.Cond.classLink "com/example/evenkeel/evenkeel/LongHeapReplaceLeastPinLaw" (7 : Nat) "com/example/evenkeel/evenkeel/LongHeap").before a0 Z = true := hw _ (List.mem_of_getElem? (i := 0) rfl)
theorem w1 (hw : HW Z a0) : (Jvm.Cond.instantiable "com/example/evenkeel/evenkeel/LongHeap" (3 : Nat)).before a0 Z = true := hw _ (List.mem_of_getElem? (i := 1) rfl)
theorem w2 (hw : HW Z a0) : (Jvm.Cond.initialized "com/example/evenkeel/evenkeel/LongHeap").before a0 Z = true := hw _ (List.mem_of_getElem? (i := 2) rfl)
theorem w3 (hw : HW Z a0) : (Jvm.Cond.methodLink "com/example/evenkeel/evenkeel/LongHeapReplaceLeastPinLaw" (9 : Nat) ({ cls := "com/example/evenkeel/evenkeel/LongHeap", name := "<init>", desc := "(I)V" } : Jvm.MethodName)).before a0 Z = true := hw _ (List.mem_of_getElem? (i := 3) rfl)
theorem w4 (hw : HW Z a0) : (Jvm.Cond.instanceMethod ({ cls := "com/example/evenkeel/evenkeel/LongHeap", name := "<init>", desc := "(I)V" } : Jvm.MethodName)).before a0 Z = true := hw _ (List.mem_of_getElem? (i := 4) rfl)
theorem w5 (hw : HW Z a0) : (Jvm.Cond.code ({ cls := "com/example/evenkeel/evenkeel/LongHeap", name := "<init>", desc := "(I)V" } : Jvm.MethodName) prog_65_method_1_code (2 : Nat) (Option.none : Option Jvm.ClassFile.FieldType)).before a0 Z = true := hw _ (List.mem_of_getElem? (i := 5) rfl)
theorem w6 (hw : HW Z a0) : (Jvm.Cond.methodLink "com/example/evenkeel/evenkeel/LongHeap" (1 : Nat) ({ cls := "java/lang/Object", name := "<init>", desc := "()V" } : Jvm.MethodName)).before a0 Z = true := hw _ (List.mem_of_getElem? (i := 6) rfl)
theorem w7 (hw : HW Z a0) : (Jvm.Cond.instanceMethod ({ cls := "java/lang/Object", name := "<init>", desc := "()V" } : Jvm.MethodName)).before a0 Z = true := hw _ (List.mem_of_getElem? (i := 7) rfl)
theorem w8 (hw : HW Z a0) : (Jvm.Cond.code ({ cls := "java/lang/Object", name := "<init>", desc := "()V" } : Jvm.MethodName) object_method_1_code (1 : Nat) (Option.none : Option Jvm.ClassFile.FieldType)).before a0 Z = true := hw _ (List.mem_of_getElem? (i := 8) rfl)
theorem w9 (hw : HW Z a0) : (Jvm.Cond.methodLink "com/example/evenkeel/evenkeel/LongHeap" (7 : Nat) ({ cls := "java/lang/Math", name := "max", desc := "(II)I" } : Jvm.MethodName)).before a0 Z = true := hw _ (List.mem_of_getElem? (i := 9) rfl)
theorem w10 (hw : HW Z a0) : (Jvm.Cond.static ({ cls := "java/lang/Math", name := "max", desc := "(II)I" } : Jvm.MethodName)).before a0 Z = true := hw _ (List.mem_of_getElem? (i := 10) rfl)
theorem w11 (hw : HW Z a0) : (Jvm.Cond.initialized "java/lang/Math").before a0 Z = true := hw _ (List.mem_of_getElem? (i := 11) rfl)
theorem w12 (hw : HW Z a0) : (Jvm.Cond.code ({ cls := "java/lang/Math", name := "max", desc := "(II)I" } : Jvm.MethodName) jdk_29_method_65_code (2 : Nat) (Option.some Jvm.ClassFile.FieldType.int)).before a0 Z = true := hw _ (List.mem_of_getElem? (i := 12) rfl)
theorem w13 (hw : HW Z a0) : (Jvm.Cond.arrayClass Jvm.ClassFile.FieldType.long).before a0 Z = true := hw _ (List.mem_of_getElem? (i := 13) rfl)
theorem w14 (hw : HW Z a0) : (Jvm.Cond.fieldLink "com/example/evenkeel/evenkeel/LongHeap" (13 : Nat) "com/example/evenkeel/evenkeel/LongHeap" "keys" "[J").before a0 Z = true := hw _ (List.mem_of_getElem? (i := 14) rfl)
theorem w15 (hw : HW Z a0) : (Jvm.Cond.lays "com/example/evenkeel/evenkeel/LongHeap" "com/example/evenkeel/evenkeel/LongHeap" "keys" "[J").before a0 Z = true := hw _ (List.mem_of_getElem? (i := 15) rfl)
theorem w16 (hw : HW Z a0) : (Jvm.Cond.arrayClass Jvm.ClassFile.FieldType.int).before a0 Z = true := hw _ (List.mem_of_getElem? (i := 16) rfl)
theorem w17 (hw : HW Z a0) : (Jvm.Cond.fieldLink "com/example/evenkeel/evenkeel/LongHeap" (19 : Nat) "com/example/evenkeel/evenkeel/LongHeap" "values" "[I").before a0 Z = true := hw _ (List.mem_of_getElem? (i := 17) rfl)
theorem w18 (hw : HW Z a0) : (Jvm.Cond.lays "com/example/evenkeel/evenkeel/LongHeap" "com/example/evenkeel/evenkeel/LongHeap" "values" "[I").before a0 Z = true := hw _ (List.mem_of_getElem? (i := 18) rfl)
theorem w19 (hw : HW Z a0) : (Jvm.Cond.methodLink "com/example/evenkeel/evenkeel/LongHeapReplaceLeastPinLaw" (12 : Nat) ({ cls := "com/example/evenkeel/evenkeel/LongHeapReplaceLeastPinLaw", name := "val", desc := "(J)I" } : Jvm.MethodName)).before a0 Z = true := hw _ (List.mem_of_getElem? (i := 19) rfl)
theorem w20 (hw : HW Z a0) : (Jvm.Cond.static ({ cls := "com/example/evenkeel/evenkeel/LongHeapReplaceLeastPinLaw", name := "val", desc := "(J)I" } : Jvm.MethodName)).before a0 Z = true := hw _ (List.mem_of_getElem? (i := 20) rfl)
theorem w21 (hw : HW Z a0) : (Jvm.Cond.initialized "com/example/evenkeel/evenkeel/LongHeapReplaceLeastPinLaw").before a0 Z = true := hw _ (List.mem_of_getElem? (i := 21) rfl)
theorem w22 (hw : HW Z a0) : (Jvm.Cond.code ({ cls := "com/example/evenkeel/evenkeel/LongHeapReplaceLeastPinLaw", name := "val", desc := "(J)I" } : Jvm.MethodName) method_2_code (2 : Nat) (Option.some Jvm.ClassFile.FieldType.int)).before a0 Z = true := hw _ (List.mem_of_getElem? (i := 22) rfl)
theorem w23 (hw : HW Z a0) : (Jvm.Cond.methodLink "com/example/evenkeel/evenkeel/LongHeapReplaceLeastPinLaw" (18 : Nat) ({ cls := "com/example/evenkeel/evenkeel/LongHeap", name := "add", desc := "(JI)V" } : Jvm.MethodName)).before a0 Z = true := hw _ (List.mem_of_getElem? (i := 23) rfl)
theorem w24 (hw : HW Z a0) : (Jvm.Cond.declares ({ cls := "com/example/evenkeel/evenkeel/LongHeap", name := "add", desc := "(JI)V" } : Jvm.MethodName)).before a0 Z = true := hw _ (List.mem_of_getElem? (i := 24) rfl)
theorem w25 (hw : HW Z a0) : (Jvm.Cond.instanceMethod ({ cls := "com/example/evenkeel/evenkeel/LongHeap", name := "add", desc := "(JI)V" } : Jvm.MethodName)).before a0 Z = true := hw _ (List.mem_of_getElem? (i := 25) rfl)
theorem w26 (hw : HW Z a0) : (Jvm.Cond.selects "com/example/evenkeel/evenkeel/LongHeap" ({ cls := "com/example/evenkeel/evenkeel/LongHeap", name := "add", desc := "(JI)V" } : Jvm.MethodName) ({ cls := "com/example/evenkeel/evenkeel/LongHeap", name := "add", desc := "(JI)V" } : Jvm.MethodName)).before a0 Z = true := hw _ (List.mem_of_getElem? (i := 26) rfl)
theorem w27 (hw : HW Z a0) : (Jvm.Cond.code ({ cls := "com/example/evenkeel/evenkeel/LongHeap", name := "add", desc := "(JI)V" } : Jvm.MethodName) prog_65_method_5_code (6 : Nat) (Option.none : Option Jvm.ClassFile.FieldType)).before a0 Z = true := hw _ (List.mem_of_getElem? (i := 27) rfl)
theorem w28 (hw : HW Z a0) : (Jvm.Cond.fieldLink "com/example/evenkeel/evenkeel/LongHeap" (23 : Nat) "com/example/evenkeel/evenkeel/LongHeap" "size" "I").before a0 Z = true := hw _ (List.mem_of_getElem? (i := 28) rfl)
theorem w29 (hw : HW Z a0) : (Jvm.Cond.lays "com/example/evenkeel/evenkeel/LongHeap" "com/example/evenkeel/evenkeel/LongHeap" "size" "I").before a0 Z = true := hw _ (List.mem_of_getElem? (i := 29) rfl)
theorem w30 (hw : HW Z a0) : (Jvm.Cond.methodLink "com/example/evenkeel/evenkeel/LongHeapReplaceLeastPinLaw" (22 : Nat) ({ cls := "com/example/evenkeel/evenkeel/LongHeap", name := "replaceLeast", desc := "(JI)V" } : Jvm.MethodName)).before a0 Z = true := hw _ (List.mem_of_getElem? (i := 30) rfl)
theorem w31 (hw : HW Z a0) : (Jvm.Cond.declares ({ cls := "com/example/evenkeel/evenkeel/LongHeap", name := "replaceLeast", desc := "(JI)V" } : Jvm.MethodName)).before a0 Z = true := hw _ (List.mem_of_getElem? (i := 31) rfl)
theorem w32 (hw : HW Z a0) : (Jvm.Cond.instanceMethod ({ cls := "com/example/evenkeel/evenkeel/LongHeap", name := "replaceLeast", desc := "(JI)V" } : Jvm.MethodName)).before a0 Z = true := hw _ (List.mem_of_getElem? (i := 32) rfl)
theorem w33 (hw : HW Z a0) : (Jvm.Cond.selects "com/example/evenkeel/evenkeel/LongHeap" ({ cls := "com/example/evenkeel/evenkeel/LongHeap", name := "replaceLeast", desc := "(JI)V" } : Jvm.MethodName) ({ cls := "com/example/evenkeel/evenkeel/LongHeap", name := "replaceLeast", desc := "(JI)V" } : Jvm.MethodName)).before a0 Z = true := hw _ (List.mem_of_getElem? (i := 33) rfl)
theorem w34 (hw : HW Z a0) : (Jvm.Cond.code ({ cls := "com/example/evenkeel/evenkeel/LongHeap", name := "replaceLeast", desc := "(JI)V" } : Jvm.MethodName) prog_65_method_7_code (6 : Nat) (Option.none : Option Jvm.ClassFile.FieldType)).before a0 Z = true := hw _ (List.mem_of_getElem? (i := 34) rfl)
theorem w35 (hw : HW Z a0) : (Jvm.Cond.methodLink "com/example/evenkeel/evenkeel/LongHeapReplaceLeastPinLaw" (25 : Nat) ({ cls := "java/lang/Math", name := "min", desc := "(JJ)J" } : Jvm.MethodName)).before a0 Z = true := hw _ (List.mem_of_getElem? (i := 35) rfl)
theorem w36 (hw : HW Z a0) : (Jvm.Cond.static ({ cls := "java/lang/Math", name := "min", desc := "(JJ)J" } : Jvm.MethodName)).before a0 Z = true := hw _ (List.mem_of_getElem? (i := 36) rfl)
theorem w37 (hw : HW Z a0) : (Jvm.Cond.code ({ cls := "java/lang/Math", name := "min", desc := "(JJ)J" } : Jvm.MethodName) jdk_29_method_70_code (4 : Nat) (Option.some Jvm.ClassFile.FieldType.long)).before a0 Z = true := hw _ (List.mem_of_getElem? (i := 37) rfl)
theorem w38 (hw : HW Z a0) : (Jvm.Cond.methodLink "com/example/evenkeel/evenkeel/LongHeapReplaceLeastPinLaw" (31 : Nat) ({ cls := "java/lang/Math", name := "max", desc := "(JJ)J" } : Jvm.MethodName)).before a0 Z = true := hw _ (List.mem_of_getElem? (i := 38) rfl)
theorem w39 (hw : HW Z a0) : (Jvm.Cond.static ({ cls := "java/lang/Math", name := "max", desc := "(JJ)J" } : Jvm.MethodName)).before a0 Z = true := hw _ (List.mem_of_getElem? (i := 39) rfl)
theorem w40 (hw : HW Z a0) : (Jvm.Cond.code ({ cls := "java/lang/Math", name := "max", desc := "(JJ)J" } : Jvm.MethodName) jdk_29_method_66_code (4 : Nat) (Option.some Jvm.ClassFile.FieldType.long)).before a0 Z = true := hw _ (List.mem_of_getElem? (i := 40) rfl)
theorem w41 (hw : HW Z a0) : (Jvm.Cond.methodLink "com/example/evenkeel/evenkeel/LongHeapReplaceLeastPinLaw" (34 : Nat) ({ cls := "com/example/evenkeel/evenkeel/LongHeap", name := "size", desc := "()I" } : Jvm.MethodName)).before a0 Z = true := hw _ (List.mem_of_getElem? (i := 41) rfl)
theorem w42 (hw : HW Z a0) : (Jvm.Cond.declares ({ cls := "com/example/evenkeel/evenkeel/LongHeap", name := "size", desc := "()I" } : Jvm.MethodName)).before a0 Z = true := hw _ (List.mem_of_getElem? (i := 42) rfl)
theorem w43 (hw : HW Z a0) : (Jvm.Cond.instanceMethod ({ cls := "com/example/evenkeel/evenkeel/LongHeap", name := "size", desc := "()I" } : Jvm.MethodName)).before a0 Z = true := hw _ (List.mem_of_getElem? (i := 43) rfl)
theorem w44 (hw : HW Z a0) : (Jvm.Cond.selects "com/example/evenkeel/evenkeel/LongHeap" ({ cls := "com/example/evenkeel/evenkeel/LongHeap", name := "size", desc := "()I" } : Jvm.MethodName) ({ cls := "com/example/evenkeel/evenkeel/LongHeap", name := "size", desc := "()I" } : Jvm.MethodName)).before a0 Z = true := hw _ (List.mem_of_getElem? (i := 44) rfl)
theorem w45 (hw : HW Z a0) : (Jvm.Cond.code ({ cls := "com/example/evenkeel/evenkeel/LongHeap", name := "size", desc := "()I" } : Jvm.MethodName) prog_65_method_2_code (1 : Nat) (Option.some Jvm.ClassFile.FieldType.int)).before a0 Z = true := hw _ (List.mem_of_getElem? (i := 45) rfl)
theorem w46 (hw : HW Z a0) : (Jvm.Cond.methodLink "com/example/evenkeel/evenkeel/LongHeapReplaceLeastPinLaw" (38 : Nat) ({ cls := "com/example/evenkeel/evenkeel/LongHeap", name := "leastKey", desc := "()J" } : Jvm.MethodName)).before a0 Z = true := hw _ (List.mem_of_getElem? (i := 46) rfl)
theorem w47 (hw : HW Z a0) : (Jvm.Cond.declares ({ cls := "com/example/evenkeel/evenkeel/LongHeap", name := "leastKey", desc := "()J" } : Jvm.MethodName)).before a0 Z = true := hw _ (List.mem_of_getElem? (i := 47) rfl)
theorem w48 (hw : HW Z a0) : (Jvm.Cond.instanceMethod ({ cls := "com/example/evenkeel/evenkeel/LongHeap", name := "leastKey", desc := "()J" } : Jvm.MethodName)).before a0 Z = true := hw _ (List.mem_of_getElem? (i := 48) rfl)
theorem w49 (hw : HW Z a0) : (Jvm.Cond.selects "com/example/evenkeel/evenkeel/LongHeap" ({ cls := "com/example/evenkeel/evenkeel/LongHeap", name := "leastKey", desc := "()J" } : Jvm.MethodName) ({ cls := "com/example/evenkeel/evenkeel/LongHeap", name := "leastKey", desc := "()J" } : Jvm.MethodName)).before a0 Z = true := hw _ (List.mem_of_getElem? (i := 49) rfl)
theorem w50 (hw : HW Z a0) : (Jvm.Cond.code ({ cls := "com/example/evenkeel/evenkeel/LongHeap", name := "leastKey", desc := "()J" } : Jvm.MethodName) prog_65_method_3_code (1 : Nat) (Option.some Jvm.ClassFile.FieldType.long)).before a0 Z = true := hw _ (List.mem_of_getElem? (i := 50) rfl)
theorem w51 (hw : HW Z a0) : (Jvm.Cond.methodLink "com/example/evenkeel/evenkeel/LongHeapReplaceLeastPinLaw" (42 : Nat) ({ cls := "com/example/evenkeel/evenkeel/LongHeap", name := "leastValue", desc := "()I" } : Jvm.MethodName)).before a0 Z = true := hw _ (List.mem_of_getElem? (i := 51) rfl)
theorem w52 (hw : HW Z a0) : (Jvm.Cond.declares ({ cls := "com/example/evenkeel/evenkeel/LongHeap", name := "leastValue", desc := "()I" } : Jvm.MethodName)).before a0 Z = true := hw _ (List.mem_of_getElem? (i := 52) rfl)
theorem w53 (hw : HW Z a0) : (Jvm.Cond.instanceMethod ({ cls := "com/example/evenkeel/evenkeel/LongHeap", name := "leastValue", desc := "()I" } : Jvm.MethodName)).before a0 Z = true := hw _ (List.mem_of_getElem? (i := 53) rfl)
theorem w54 (hw : HW Z a0) : (Jvm.Cond.selects "com/example/evenkeel/evenkeel/LongHeap" ({ cls := "com/example/evenkeel/evenkeel/LongHeap", name := "leastValue", desc := "()I" } : Jvm.MethodName) ({ cls := "com/example/evenkeel/evenkeel/LongHeap", name := "leastValue", desc := "()I" } : Jvm.MethodName)).before a0 Z = true := hw _ (List.mem_of_getElem? (i := 54) rfl)
theorem w55 (hw : HW Z a0) : (Jvm.Cond.code ({ cls := "com/example/evenkeel/evenkeel/LongHeap", name := "leastValue", desc := "()I" } : Jvm.MethodName) prog_65_method_4_code (1 : Nat) (Option.some Jvm.ClassFile.FieldType.int)).before a0 Z = true := hw _ (List.mem_of_getElem? (i := 55) rfl)
theorem w56 (hw : HW Z a0) : (Jvm.Cond.methodLink "com/example/evenkeel/evenkeel/LongHeapReplaceLeastPinLaw" (45 : Nat) ({ cls := "com/example/evenkeel/evenkeel/LongHeap", name := "removeLeast", desc := "()V" } : Jvm.MethodName)).before a0 Z = true := hw _ (List.mem_of_getElem? (i := 56) rfl)
theorem w57 (hw : HW Z a0) : (Jvm.Cond.declares ({ cls := "com/example/evenkeel/evenkeel/LongHeap", name := "removeLeast", desc := "()V" } : Jvm.MethodName)).before a0 Z = true := hw _ (List.mem_of_getElem? (i := 57) rfl)
theorem w58 (hw : HW Z a0) : (Jvm.Cond.instanceMethod ({ cls := "com/example/evenkeel/evenkeel/LongHeap", name := "removeLeast", desc := "()V" } : Jvm.MethodName)).before a0 Z = true := hw _ (List.mem_of_getElem? (i := 58) rfl)
theorem w59 (hw : HW Z a0) : (Jvm.Cond.selects "com/example/evenkeel/evenkeel/LongHeap" ({ cls := "com/example/evenkeel/evenkeel/LongHeap", name := "removeLeast", desc := "()V" } : Jvm.MethodName) ({ cls := "com/example/evenkeel/evenkeel/LongHeap", name := "removeLeast", desc := "()V" } : Jvm.MethodName)).before a0 Z = true := hw _ (List.mem_of_getElem? (i := 59) rfl)
theorem w60 (hw : HW Z a0) : (Jvm.Cond.code ({ cls := "com/example/evenkeel/evenkeel/LongHeap", name := "removeLeast", desc := "()V" } : Jvm.MethodName) prog_65_method_6_code (1 : Nat) (Option.none : Option Jvm.ClassFile.FieldType)).before a0 Z = true := hw _ (List.mem_of_getElem? (i := 60) rfl)
theorem w61 (hw : HW Z a0) : (Jvm.Cond.methodLink "com/example/evenkeel/evenkeel/LongHeap" (36 : Nat) ({ cls := "com/example/evenkeel/evenkeel/LongHeap", name := "replaceLeast", desc := "(JI)V" } : Jvm.MethodName)).before a0 Z = true := hw _ (List.mem_of_getElem? (i := 61) rfl)
end Words
abbrev oLH (v0 : Value) (v1 : Value) (v2 : Value) : Ob := .inl ("com/example/evenkeel/evenkeel/LongHeap", [("com/example/evenkeel/evenkeel/LongHeap", "keys", "[J", v0), ("com/example/evenkeel/evenkeel/LongHeap", "values", "[I", v1), ("com/example/evenkeel/evenkeel/LongHeap", "size", "I", v2)])
theorem ly_oLH {Z : State} {a0 : Array Value} (hw : HW Z a0)   : OLay Z a0 "com/example/evenkeel/evenkeel/LongHeap" [("com/example/evenkeel/evenkeel/LongHeap", "keys", "[J", (.array .long)), ("com/example/evenkeel/evenkeel/LongHeap", "values", "[I", (.array .int)), ("com/example/evenkeel/evenkeel/LongHeap", "size", "I", .int)] := (OLay.cons (Or.inl (w15 hw)) (by decide) (OLay.cons (Or.inl (w18 hw)) (by decide) (OLay.cons (Or.inl (w29 hw)) (by decide) OLay.nil)))
theorem nd_oLH : (([("com/example/evenkeel/evenkeel/LongHeap", "keys", "[J", (.array .long)), ("com/example/evenkeel/evenkeel/LongHeap", "values", "[I", (.array .int)), ("com/example/evenkeel/evenkeel/LongHeap", "size", "I", .int)] : List (String × String × String × FieldType)).map fun f => f.2.1).Nodup := by decide
theorem pd_0 : parseMethodDescriptor "(II)I" = some ⟨[.int, .int], some .int⟩ := by decide +kernel
theorem pd_1 : parseMethodDescriptor "(JI)V" = some ⟨[.long, .int], none⟩ := by decide +kernel
theorem pd_2 : parseMethodDescriptor "(I)V" = some ⟨[.int], none⟩ := by decide +kernel
theorem pd_3 : parseMethodDescriptor "(J)I" = some ⟨[.long], some .int⟩ := by decide +kernel
theorem pd_4 : parseMethodDescriptor "(JJ)J" = some ⟨[.long, .long], some .long⟩ := by decide +kernel
theorem pd_5 : parseMethodDescriptor "()I" = some ⟨[], some .int⟩ := by decide +kernel
theorem pd_6 : parseMethodDescriptor "()J" = some ⟨[], some .long⟩ := by decide +kernel
theorem pd_7 : parseMethodDescriptor "()V" = some ⟨[], none⟩ := by decide +kernel
set_option maxRecDepth 65536 in
set_option maxHeartbeats 400000000 in
theorem c_max41 {l : Launch} {Z : State} {a0 : Array Value} (hw : HW Z a0) {n0 : Nat} (F : Wd)  :
    Con l Z n0 (⟨"java/lang/Math", "max", "(II)I"⟩ : MethodName) jdk_29_method_65_code 2 (some .int) ({ frames := 0, cells := 0, slots := 0, locals := 0 } : Room) [.int 4, .int 1] F (fun v L' => v = some (.int 4) ∧ L' = F) := by
  refine Con.of (by decide +kernel) (Ls := #[.val (.int 4), .val (.int 1)]) (fun m => by first | rfl | (simp [entryFrame, mkF, argsToLocals, Value.category]; done)) ?_
  intro κ K
  refine s_iloadN K d3_0 (pc' := 1) rfl rfl ?_
  refine s_iloadN K d3_1 (pc' := 2) rfl rfl ?_
  refine s_icN K d3_2 (pc' := 5) rfl rfl ?_
  refine s_iloadN K d3_5 (pc' := 6) rfl rfl ?_
  refine s_goto K d3_6 (by decide) (pc' := 10) (by decide) ?_
  exact s_ireturn K d3_10 (by decide) (by decide) ⟨rfl, rfl⟩
set_option maxRecDepth 65536 in
set_option maxHeartbeats 400000000 in
theorem c_mn {l : Launch} {Z : State} {a0 : Array Value} (hw : HW Z a0) {n0 : Nat} (F : Wd) (x y : Int64) :
    Con l Z n0 (⟨"java/lang/Math", "min", "(JJ)J"⟩ : MethodName) jdk_29_method_70_code 4 (some .long) ({ frames := 0, cells := 0, slots := 0, locals := 0 } : Room) [.long x, .long y] F (fun v L' => v = some (.long (own_mn x y)) ∧ L' = F) := by
  refine Con.of (by decide +kernel) (Ls := #[.val (.long x), .second, .val (.long y), .second]) (fun m => by first | rfl | (simp [entryFrame, mkF, argsToLocals, Value.category]; done)) ?_
  intro κ K
  refine s_lloadN K d7_0 (pc' := 1) rfl rfl ?_
  refine s_lloadN K d7_1 (pc' := 2) rfl rfl ?_
  refine s_lcmp K d7_2 (pc' := 3) rfl  ?_
  refine s_if K d7_3 (pn := 6) rfl (by decide) (pc' := 10) (by decide) (fun h => ?_) (fun h => ?_)
  · refine s_lloadN K d7_10 (pc' := 11) rfl rfl ?_
    exact s_lreturn K d7_11 (by decide) (by decide) ⟨by rw [own_mnY (own_gtY h)], rfl⟩
  · refine s_lloadN K d7_6 (pc' := 7) rfl rfl ?_
    refine s_goto K d7_7 (by decide) (pc' := 11) (by decide) ?_
    exact s_lreturn K d7_11 (by decide) (by decide) ⟨by rw [own_mnN (own_gtN h)], rfl⟩
set_option maxRecDepth 65536 in
set_option maxHeartbeats 400000000 in
theorem c_mx {l : Launch} {Z : State} {a0 : Array Value} (hw : HW Z a0) {n0 : Nat} (F : Wd) (x y : Int64) :
    Con l Z n0 (⟨"java/lang/Math", "max", "(JJ)J"⟩ : MethodName) jdk_29_method_66_code 4 (some .long) ({ frames := 0, cells := 0, slots := 0, locals := 0 } : Room) [.long x, .long y] F (fun v L' => v = some (.long (own_mx x y)) ∧ L' = F) := by
  refine Con.of (by decide +kernel) (Ls := #[.val (.long x), .second, .val (.long y), .second]) (fun m => by first | rfl | (simp [entryFrame, mkF, argsToLocals, Value.category]; done)) ?_
  intro κ K
  refine s_lloadN K d8_0 (pc' := 1) rfl rfl ?_
  refine s_lloadN K d8_1 (pc' := 2) rfl rfl ?_
  refine s_lcmp K d8_2 (pc' := 3) rfl  ?_
  refine s_if K d8_3 (pn := 6) rfl (by decide) (pc' := 10) (by decide) (fun h => ?_) (fun h => ?_)
  · refine s_lloadN K d8_10 (pc' := 11) rfl rfl ?_
    exact s_lreturn K d8_11 (by decide) (by decide) ⟨by rw [own_mxY (own_ltY h)], rfl⟩
  · refine s_lloadN K d8_6 (pc' := 7) rfl rfl ?_
    refine s_goto K d8_7 (by decide) (pc' := 11) (by decide) ?_
    exact s_lreturn K d8_11 (by decide) (by decide) ⟨by rw [own_mxN (own_ltN h)], rfl⟩
set_option maxRecDepth 65536 in
set_option maxHeartbeats 400000000 in
theorem c_val {l : Launch} {Z : State} {a0 : Array Value} (hw : HW Z a0) {n0 : Nat} (F : Wd) (x : Int64) :
    Con l Z n0 (⟨"com/example/evenkeel/evenkeel/LongHeapReplaceLeastPinLaw", "val", "(J)I"⟩ : MethodName) method_2_code 2 (some .int) ({ frames := 0, cells := 0, slots := 0, locals := 0 } : Room) [.long x] F (fun v L' => v = some (.int (own_val x)) ∧ L' = F) := by
  refine Con.of (by decide +kernel) (Ls := #[.val (.long x), .second]) (fun m => by first | rfl | (simp [entryFrame, mkF, argsToLocals, Value.category]; done)) ?_
  intro κ K
  refine s_lloadN K d4_0 (pc' := 1) rfl rfl ?_
  refine s_lloadN K d4_1 (pc' := 2) rfl rfl ?_
  refine s_bipush K d4_2 (pc' := 4) rfl (z := (32 : Int32)) rfl ?_
  refine s_lushr K d4_4 (pc' := 5) rfl (z := XT.ushrL x (32 : Int32)) rfl ?_
  refine s_lxor K d4_5 (pc' := 6) rfl (z := x ^^^ (XT.ushrL x (32 : Int32))) rfl ?_
  refine s_l2i K d4_6 (pc' := 7) rfl (z := (x ^^^ (XT.ushrL x (32 : Int32))).toInt32) rfl ?_
  exact s_ireturn K d4_7 (by decide) (by decide) ⟨rfl, rfl⟩
set_option maxRecDepth 65536 in
set_option maxHeartbeats 400000000 in
theorem c_init {l : Launch} {Z : State} {a0 : Array Value} (hw : HW Z a0) {n0 : Nat} (F : Wd) (a : Addr) :
    Con l Z n0 (⟨"com/example/evenkeel/evenkeel/LongHeap", "<init>", "(I)V"⟩ : MethodName) prog_65_method_1_code 2 none ({ frames := 1, cells := 2, slots := 8, locals := 14 } : Room) [.ref a, .int 4] ((a, oLH .null .null (.int 0)) :: F) (fun v L' => v = none ∧ ∃ k v, L' = ((a, oLH (.ref k) (.ref v) (.int 0)) :: (k, .inr (.long, [.long (0 : Int64), .long (0 : Int64), .long (0 : Int64), .long (0 : Int64)])) :: (v, .inr (.int, [.int (0 : Int32), .int (0 : Int32), .int (0 : Int32), .int (0 : Int32)])) :: F)) := by
  refine Con.of (by decide +kernel) (Ls := #[.val (.ref a), .val (.int 4)]) (fun m => by first | rfl | (simp [entryFrame, mkF, argsToLocals, Value.category]; done)) ?_
  intro κ K
  refine s_aloadN K d1_0 (pc' := 1) rfl rfl rfl ?_
  refine s_initO K d1_1 (pc' := 4) rfl (w6 hw) (w7 hw) (w8 hw) rfl (by decide) (W := 0) (Nat.le_of_eq rfl) (by decide) ?_
  refine s_aloadN K d1_4 (pc' := 5) rfl rfl rfl ?_
  refine s_iloadN K d1_5 (pc' := 6) rfl rfl ?_
  refine s_iconst K d1_6 (pc' := 7) rfl (z := (1 : Int32)) rfl ?_
  refine s_static K d1_7 (pc' := 10) rfl (as := [.int 4, .int 1]) (c_max41 hw ((a, oLH .null .null (.int 0)) :: F)) (w9 hw) (w10 hw) (w11 hw) (w12 hw) (by decide) pd_0 rfl (rest := [.ref a]) rfl rfl (W := 1) (Nat.le_of_eq rfl) (by decide) (by decide) (ce' := 0) rfl (sl' := 0) rfl (by decide) (by decide) ?_
  rintro v _ ⟨rfl, rfl⟩
  show Go l Z n0 _ _ κ 0 0 ((a, oLH .null .null (.int 0)) :: F) 10 #[.val (.ref a), .val (.int 4)] [.int 4, .ref a]
  refine s_newarr K d1_10 (pc' := 12) rfl rfl (w13 hw) (n := 4) (by decide) (cap := 4) (by decide) (by decide) (vs0 := [.long 0, .long 0, .long 0, .long 0]) rfl (ce' := 1) rfl (sl' := 4) rfl (by decide) (by decide) ?_
  intro b1
  refine s_putf K d1_12 (pc' := 15) rfl (w14 hw) (Or.inl (w15 hw)) (w1 hw) (ty := (.array .long)) (by decide) rfl rfl (k := 1) rfl (j := 0) rfl (L' := ((b1, .inr (.long, [.long 0, .long 0, .long 0, .long 0])) :: (a, oLH (.ref b1) .null (.int 0)) :: F)) rfl ?_
  refine s_aloadN K d1_15 (pc' := 16) rfl rfl rfl ?_
  refine s_aloadN K d1_16 (pc' := 17) rfl rfl rfl ?_
  refine s_getf K d1_17 (pc' := 20) rfl (w14 hw) (k := 1) rfl (j := 0) rfl ?_
  refine s_len K d1_20 (pc' := 21) rfl (k := 0) rfl (z := (4 : Int32)) rfl ?_
  refine s_newarr K d1_21 (pc' := 23) rfl rfl (w16 hw) (n := 4) (by decide) (cap := 4) (by decide) (by decide) (vs0 := [.int 0, .int 0, .int 0, .int 0]) rfl (ce' := 2) rfl (sl' := 8) rfl (by decide) (by decide) ?_
  intro b2
  refine s_putf K d1_23 (pc' := 26) rfl (w17 hw) (Or.inl (w18 hw)) (w1 hw) (ty := (.array .int)) (by decide) rfl rfl (k := 2) rfl (j := 1) rfl (L' := ((b2, .inr (.int, [.int 0, .int 0, .int 0, .int 0])) :: (b1, .inr (.long, [.long 0, .long 0, .long 0, .long 0])) :: (a, oLH (.ref b1) (.ref b2) (.int 0)) :: F)) rfl ?_
  refine s_front (k := 1) rfl (L' := ((b1, .inr (.long, [.long 0, .long 0, .long 0, .long 0])) :: (b2, .inr (.int, [.int 0, .int 0, .int 0, .int 0])) :: (a, oLH (.ref b1) (.ref b2) (.int 0)) :: F)) rfl ?_
  refine s_front (k := 2) rfl (L' := ((a, oLH (.ref b1) (.ref b2) (.int 0)) :: (b1, .inr (.long, [.long 0, .long 0, .long 0, .long 0])) :: (b2, .inr (.int, [.int 0, .int 0, .int 0, .int 0])) :: F)) rfl ?_
  exact s_return K d1_26 (by decide) (by decide) ⟨rfl, _, _, rfl⟩
set_option maxRecDepth 65536 in
set_option maxHeartbeats 400000000 in
theorem c_size {l : Launch} {Z : State} {a0 : Array Value} (hw : HW Z a0) {n0 : Nat} (F : Wd) (a k v' : Addr) (s : Int32) :
    Con l Z n0 (⟨"com/example/evenkeel/evenkeel/LongHeap", "size", "()I"⟩ : MethodName) prog_65_method_2_code 1 (some .int) ({ frames := 0, cells := 0, slots := 0, locals := 0 } : Room) [.ref a] ((a, oLH (.ref k) (.ref v') (.int s)) :: F) (fun v L' => v = some (.int s) ∧ L' = (a, oLH (.ref k) (.ref v') (.int s)) :: F) := by
  refine Con.of (by decide +kernel) (Ls := #[.val (.ref a)]) (fun m => by first | rfl | (simp [entryFrame, mkF, argsToLocals, Value.category]; done)) ?_
  intro κ K
  refine s_aloadN K d9_0 (pc' := 1) rfl rfl rfl ?_
  refine s_getf K d9_1 (pc' := 4) rfl (w28 hw) (k := 0) rfl (j := 2) rfl ?_
  exact s_ireturn K d9_4 (by decide) (by decide) ⟨rfl, rfl⟩
set_option maxRecDepth 65536 in
set_option maxHeartbeats 400000000 in
theorem c_lk {l : Launch} {Z : State} {a0 : Array Value} (hw : HW Z a0) {n0 : Nat} (F : Wd) (a k u : Addr) (k0 k1 k2 k3 : Int64) (y0 y1 y2 y3 : Int32) (s : Int32) :
    Con l Z n0 (⟨"com/example/evenkeel/evenkeel/LongHeap", "leastKey", "()J"⟩ : MethodName) prog_65_method_3_code 1 (some .long) ({ frames := 0, cells := 0, slots := 0, locals := 0 } : Room) [.ref a] ((a, oLH (.ref k) (.ref u) (.int s)) :: (k, .inr (.long, [.long k0, .long k1, .long k2, .long k3])) :: (u, .inr (.int, [.int y0, .int y1, .int y2, .int y3])) :: F) (fun v L' => v = some (.long k0) ∧ L' = ((a, oLH (.ref k) (.ref u) (.int s)) :: (k, .inr (.long, [.long k0, .long k1, .long k2, .long k3])) :: (u, .inr (.int, [.int y0, .int y1, .int y2, .int y3])) :: F)) := by
  refine Con.of (by decide +kernel) (Ls := #[.val (.ref a)]) (fun m => by first | rfl | (simp [entryFrame, mkF, argsToLocals, Value.category]; done)) ?_
  intro κ K
  refine s_aloadN K d10_0 (pc' := 1) rfl rfl rfl ?_
  refine s_getf K d10_1 (pc' := 4) rfl (w14 hw) (k := 0) rfl (j := 0) rfl ?_
  refine s_iconst K d10_4 (pc' := 5) rfl (z := (0 : Int32)) rfl ?_
  refine s_laload K d10_5 (pc' := 6) rfl (k := 1) rfl (i := 0) (by decide) rfl ?_
  exact s_lreturn K d10_6 (by decide) (by decide) ⟨rfl, rfl⟩
set_option maxRecDepth 65536 in
set_option maxHeartbeats 400000000 in
theorem c_lv {l : Launch} {Z : State} {a0 : Array Value} (hw : HW Z a0) {n0 : Nat} (F : Wd) (a k u : Addr) (k0 k1 k2 k3 : Int64) (y0 y1 y2 y3 : Int32) (s : Int32) :
    Con l Z n0 (⟨"com/example/evenkeel/evenkeel/LongHeap", "leastValue", "()I"⟩ : MethodName) prog_65_method_4_code 1 (some .int) ({ frames := 0, cells := 0, slots := 0, locals := 0 } : Room) [.ref a] ((a, oLH (.ref k) (.ref u) (.int s)) :: (k, .inr (.long, [.long k0, .long k1, .long k2, .long k3])) :: (u, .inr (.int, [.int y0, .int y1, .int y2, .int y3])) :: F) (fun v L' => v = some (.int y0) ∧ L' = ((a, oLH (.ref k) (.ref u) (.int s)) :: (k, .inr (.long, [.long k0, .long k1, .long k2, .long k3])) :: (u, .inr (.int, [.int y0, .int y1, .int y2, .int y3])) :: F)) := by
  refine Con.of (by decide +kernel) (Ls := #[.val (.ref a)]) (fun m => by first | rfl | (simp [entryFrame, mkF, argsToLocals, Value.category]; done)) ?_
  intro κ K
  refine s_aloadN K d11_0 (pc' := 1) rfl rfl rfl ?_
  refine s_getf K d11_1 (pc' := 4) rfl (w17 hw) (k := 0) rfl (j := 1) rfl ?_
  refine s_iconst K d11_4 (pc' := 5) rfl (z := (0 : Int32)) rfl ?_
  refine s_iaload K d11_5 (pc' := 6) rfl (k := 2) rfl (i := 0) (by decide) rfl ?_
  exact s_ireturn K d11_6 (by decide) (by decide) ⟨rfl, rfl⟩
set_option maxRecDepth 65536 in
set_option maxHeartbeats 400000000 in
theorem c_add0 {l : Launch} {Z : State} {a0 : Array Value} (hw : HW Z a0) {n0 : Nat} (F : Wd) (a k u : Addr) (x t0 t1 t2 t3 : Int64) (y0 y1 y2 y3 : Int32)  :
    Con l Z n0 (⟨"com/example/evenkeel/evenkeel/LongHeap", "add", "(JI)V"⟩ : MethodName) prog_65_method_5_code 6 none ({ frames := 0, cells := 0, slots := 0, locals := 0 } : Room) [.ref a, .long x, .int (own_val x)] ((a, oLH (.ref k) (.ref u) (.int 0)) :: (k, .inr (.long, [.long t0, .long t1, .long t2, .long t3])) :: (u, .inr (.int, [.int y0, .int y1, .int y2, .int y3])) :: F) (fun v L' => v = none ∧ ∃ m0 : Int64, [m0].Perm [x] ∧ L' = ((a, oLH (.ref k) (.ref u) (.int 1)) :: (k, .inr (.long, [.long m0, .long t1, .long t2, .long t3])) :: (u, .inr (.int, [.int (own_val m0), .int y1, .int y2, .int y3])) :: F)) := by
  refine Con.of (by decide +kernel) (Ls := #[.val (.ref a), .val (.long x), .second, .val (.int (own_val x)), .unset, .unset]) (fun m => by first | rfl | (simp [entryFrame, mkF, argsToLocals, Value.category]; done)) ?_
  intro κ K
  refine s_aloadN K d5_0 (pc' := 1) rfl rfl rfl ?_
  refine s_getf K d5_1 (pc' := 4) rfl (w28 hw) (k := 0) rfl (j := 2) rfl ?_
  refine s_aloadN K d5_4 (pc' := 5) rfl rfl rfl ?_
  refine s_getf K d5_5 (pc' := 8) rfl (w14 hw) (k := 0) rfl (j := 0) rfl ?_
  refine s_len K d5_8 (pc' := 9) rfl (k := 1) rfl (z := (4 : Int32)) rfl ?_
  refine s_icY K d5_9 rfl (by decide) (pc' := 46) (by decide) ?_
  refine s_aloadN K d5_46 (pc' := 47) rfl rfl rfl ?_
  refine s_dup K d5_47 (pc' := 48) rfl rfl ?_
  refine s_getf K d5_48 (pc' := 51) rfl (w28 hw) (k := 0) rfl (j := 2) rfl ?_
  refine s_dupx1 K d5_51 (pc' := 52) rfl rfl rfl ?_
  refine s_iconst K d5_52 (pc' := 53) rfl (z := (1 : Int32)) rfl ?_
  refine s_iadd K d5_53 (pc' := 54) rfl (z := (1 : Int32)) rfl ?_
  refine s_putf K d5_54 (pc' := 57) rfl (w28 hw) (Or.inl (w29 hw)) (w1 hw) (ty := .int) (by decide) rfl rfl (k := 0) rfl (j := 2) rfl (L' := ((a, oLH (.ref k) (.ref u) (.int 1)) :: (k, .inr (.long, [.long t0, .long t1, .long t2, .long t3])) :: (u, .inr (.int, [.int y0, .int y1, .int y2, .int y3])) :: F)) rfl ?_
  refine s_istore K d5_57 (pc' := 59) rfl (Ls' := #[.val (.ref a), .val (.long x), .second, .val (.int (own_val x)), .val (.int 0), .unset]) rfl ?_
  refine s_iload K d5_59 (pc' := 61) rfl rfl ?_
  refine s_ifY K d5_61 rfl (by decide) (pc' := 123) (by decide) ?_
  refine s_aloadN K d5_123 (pc' := 124) rfl rfl rfl ?_
  refine s_getf K d5_124 (pc' := 127) rfl (w14 hw) (k := 0) rfl (j := 0) rfl ?_
  refine s_iload K d5_127 (pc' := 129) rfl rfl ?_
  refine s_lloadN K d5_129 (pc' := 130) rfl rfl ?_
  refine s_lastore K d5_130 (pc' := 131) rfl (k := 1) rfl (i := 0) (by decide) (ltB rfl) (L' := ((a, oLH (.ref k) (.ref u) (.int 1)) :: (k, .inr (.long, [.long x, .long t1, .long t2, .long t3])) :: (u, .inr (.int, [.int y0, .int y1, .int y2, .int y3])) :: F)) rfl ?_
  refine s_aloadN K d5_131 (pc' := 132) rfl rfl rfl ?_
  refine s_getf K d5_132 (pc' := 135) rfl (w17 hw) (k := 0) rfl (j := 1) rfl ?_
  refine s_iload K d5_135 (pc' := 137) rfl rfl ?_
  refine s_iloadN K d5_137 (pc' := 138) rfl rfl ?_
  refine s_iastore K d5_138 (pc' := 139) rfl (k := 2) rfl (i := 0) (by decide) (ltB rfl) (L' := ((a, oLH (.ref k) (.ref u) (.int 1)) :: (k, .inr (.long, [.long x, .long t1, .long t2, .long t3])) :: (u, .inr (.int, [.int (own_val x), .int y1, .int y2, .int y3])) :: F)) rfl ?_
  exact s_return K d5_139 (by decide) (by decide) ⟨rfl, x, (by first | exact List.Perm.refl _ | (rw [List.perm_iff_count]; intro z; simp only [List.count_cons, List.count_nil]; omega)), rfl⟩
set_option maxRecDepth 65536 in
set_option maxHeartbeats 400000000 in
theorem c_add1 {l : Launch} {Z : State} {a0 : Array Value} (hw : HW Z a0) {n0 : Nat} (F : Wd) (a k u : Addr) (x k0 t1 t2 t3 : Int64) (y1 y2 y3 : Int32)  :
    Con l Z n0 (⟨"com/example/evenkeel/evenkeel/LongHeap", "add", "(JI)V"⟩ : MethodName) prog_65_method_5_code 6 none ({ frames := 0, cells := 0, slots := 0, locals := 0 } : Room) [.ref a, .long x, .int (own_val x)] ((a, oLH (.ref k) (.ref u) (.int 1)) :: (k, .inr (.long, [.long k0, .long t1, .long t2, .long t3])) :: (u, .inr (.int, [.int (own_val k0), .int y1, .int y2, .int y3])) :: F) (fun v L' => v = none ∧ ∃ m0 m1 : Int64, m0.toInt ≤ m1.toInt ∧ [m0, m1].Perm [x, k0] ∧ L' = ((a, oLH (.ref k) (.ref u) (.int 2)) :: (k, .inr (.long, [.long m0, .long m1, .long t2, .long t3])) :: (u, .inr (.int, [.int (own_val m0), .int (own_val m1), .int y2, .int y3])) :: F)) := by
  refine Con.of (by decide +kernel) (Ls := #[.val (.ref a), .val (.long x), .second, .val (.int (own_val x)), .unset, .unset]) (fun m => by first | rfl | (simp [entryFrame, mkF, argsToLocals, Value.category]; done)) ?_
  intro κ K
  refine s_aloadN K d5_0 (pc' := 1) rfl rfl rfl ?_
  refine s_getf K d5_1 (pc' := 4) rfl (w28 hw) (k := 0) rfl (j := 2) rfl ?_
  refine s_aloadN K d5_4 (pc' := 5) rfl rfl rfl ?_
  refine s_getf K d5_5 (pc' := 8) rfl (w14 hw) (k := 0) rfl (j := 0) rfl ?_
  refine s_len K d5_8 (pc' := 9) rfl (k := 1) rfl (z := (4 : Int32)) rfl ?_
  refine s_icY K d5_9 rfl (by decide) (pc' := 46) (by decide) ?_
  refine s_aloadN K d5_46 (pc' := 47) rfl rfl rfl ?_
  refine s_dup K d5_47 (pc' := 48) rfl rfl ?_
  refine s_getf K d5_48 (pc' := 51) rfl (w28 hw) (k := 0) rfl (j := 2) rfl ?_
  refine s_dupx1 K d5_51 (pc' := 52) rfl rfl rfl ?_
  refine s_iconst K d5_52 (pc' := 53) rfl (z := (1 : Int32)) rfl ?_
  refine s_iadd K d5_53 (pc' := 54) rfl (z := (2 : Int32)) rfl ?_
  refine s_putf K d5_54 (pc' := 57) rfl (w28 hw) (Or.inl (w29 hw)) (w1 hw) (ty := .int) (by decide) rfl rfl (k := 0) rfl (j := 2) rfl (L' := ((a, oLH (.ref k) (.ref u) (.int 2)) :: (k, .inr (.long, [.long k0, .long t1, .long t2, .long t3])) :: (u, .inr (.int, [.int (own_val k0), .int y1, .int y2, .int y3])) :: F)) rfl ?_
  refine s_istore K d5_57 (pc' := 59) rfl (Ls' := #[.val (.ref a), .val (.long x), .second, .val (.int (own_val x)), .val (.int 1), .unset]) rfl ?_
  refine s_iload K d5_59 (pc' := 61) rfl rfl ?_
  refine s_ifN K d5_61 (pc' := 64) rfl rfl ?_
  refine s_aloadN K d5_64 (pc' := 65) rfl rfl rfl ?_
  refine s_getf K d5_65 (pc' := 68) rfl (w14 hw) (k := 0) rfl (j := 0) rfl ?_
  refine s_iload K d5_68 (pc' := 70) rfl rfl ?_
  refine s_iconst K d5_70 (pc' := 71) rfl (z := (1 : Int32)) rfl ?_
  refine s_isub K d5_71 (pc' := 72) rfl (z := (0 : Int32)) rfl ?_
  refine s_iconst K d5_72 (pc' := 73) rfl (z := (1 : Int32)) rfl ?_
  refine s_iushr K d5_73 (pc' := 74) rfl (z := (0 : Int32)) rfl ?_
  refine s_laload K d5_74 (pc' := 75) rfl (k := 1) rfl (i := 0) (by decide) rfl ?_
  refine s_lloadN K d5_75 (pc' := 76) rfl rfl ?_
  refine s_lcmp K d5_76 (pc' := 77) rfl  ?_
  refine s_if K d5_77 (pn := 80) rfl (by decide) (pc' := 123) (by decide) (fun h1 => ?_) (fun h1 => ?_)
  · have g1 := own_leY h1
    refine s_aloadN K d5_123 (pc' := 124) rfl rfl rfl ?_
    refine s_getf K d5_124 (pc' := 127) rfl (w14 hw) (k := 0) rfl (j := 0) rfl ?_
    refine s_iload K d5_127 (pc' := 129) rfl rfl ?_
    refine s_lloadN K d5_129 (pc' := 130) rfl rfl ?_
    refine s_lastore K d5_130 (pc' := 131) rfl (k := 1) rfl (i := 1) (by decide) (ltB rfl) (L' := ((a, oLH (.ref k) (.ref u) (.int 2)) :: (k, .inr (.long, [.long k0, .long x, .long t2, .long t3])) :: (u, .inr (.int, [.int (own_val k0), .int y1, .int y2, .int y3])) :: F)) rfl ?_
    refine s_aloadN K d5_131 (pc' := 132) rfl rfl rfl ?_
    refine s_getf K d5_132 (pc' := 135) rfl (w17 hw) (k := 0) rfl (j := 1) rfl ?_
    refine s_iload K d5_135 (pc' := 137) rfl rfl ?_
    refine s_iloadN K d5_137 (pc' := 138) rfl rfl ?_
    refine s_iastore K d5_138 (pc' := 139) rfl (k := 2) rfl (i := 1) (by decide) (ltB rfl) (L' := ((a, oLH (.ref k) (.ref u) (.int 2)) :: (k, .inr (.long, [.long k0, .long x, .long t2, .long t3])) :: (u, .inr (.int, [.int (own_val k0), .int (own_val x), .int y2, .int y3])) :: F)) rfl ?_
    exact s_return K d5_139 (by decide) (by decide) ⟨rfl, k0, x, by omega, (by first | exact List.Perm.refl _ | (rw [List.perm_iff_count]; intro z; simp only [List.count_cons, List.count_nil]; omega)), rfl⟩
  · have g1 := own_leN h1
    refine s_iload K d5_80 (pc' := 82) rfl rfl ?_
    refine s_iconst K d5_82 (pc' := 83) rfl (z := (1 : Int32)) rfl ?_
    refine s_isub K d5_83 (pc' := 84) rfl (z := (0 : Int32)) rfl ?_
    refine s_iconst K d5_84 (pc' := 85) rfl (z := (1 : Int32)) rfl ?_
    refine s_iushr K d5_85 (pc' := 86) rfl (z := (0 : Int32)) rfl ?_
    refine s_istore K d5_86 (pc' := 88) rfl (Ls' := #[.val (.ref a), .val (.long x), .second, .val (.int (own_val x)), .val (.int 1), .val (.int 0)]) rfl ?_
    refine s_aloadN K d5_88 (pc' := 89) rfl rfl rfl ?_
    refine s_getf K d5_89 (pc' := 92) rfl (w14 hw) (k := 0) rfl (j := 0) rfl ?_
    refine s_iload K d5_92 (pc' := 94) rfl rfl ?_
    refine s_aloadN K d5_94 (pc' := 95) rfl rfl rfl ?_
    refine s_getf K d5_95 (pc' := 98) rfl (w14 hw) (k := 0) rfl (j := 0) rfl ?_
    refine s_iload K d5_98 (pc' := 100) rfl rfl ?_
    refine s_laload K d5_100 (pc' := 101) rfl (k := 1) rfl (i := 0) (by decide) rfl ?_
    refine s_lastore K d5_101 (pc' := 102) rfl (k := 1) rfl (i := 1) (by decide) (ltB rfl) (L' := ((a, oLH (.ref k) (.ref u) (.int 2)) :: (k, .inr (.long, [.long k0, .long k0, .long t2, .long t3])) :: (u, .inr (.int, [.int (own_val k0), .int y1, .int y2, .int y3])) :: F)) rfl ?_
    refine s_aloadN K d5_102 (pc' := 103) rfl rfl rfl ?_
    refine s_getf K d5_103 (pc' := 106) rfl (w17 hw) (k := 0) rfl (j := 1) rfl ?_
    refine s_iload K d5_106 (pc' := 108) rfl rfl ?_
    refine s_aloadN K d5_108 (pc' := 109) rfl rfl rfl ?_
    refine s_getf K d5_109 (pc' := 112) rfl (w17 hw) (k := 0) rfl (j := 1) rfl ?_
    refine s_iload K d5_112 (pc' := 114) rfl rfl ?_
    refine s_iaload K d5_114 (pc' := 115) rfl (k := 2) rfl (i := 0) (by decide) rfl ?_
    refine s_iastore K d5_115 (pc' := 116) rfl (k := 2) rfl (i := 1) (by decide) (ltB rfl) (L' := ((a, oLH (.ref k) (.ref u) (.int 2)) :: (k, .inr (.long, [.long k0, .long k0, .long t2, .long t3])) :: (u, .inr (.int, [.int (own_val k0), .int (own_val k0), .int y2, .int y3])) :: F)) rfl ?_
    refine s_iload K d5_116 (pc' := 118) rfl rfl ?_
    refine s_istore K d5_118 (pc' := 120) rfl (Ls' := #[.val (.ref a), .val (.long x), .second, .val (.int (own_val x)), .val (.int 0), .val (.int 0)]) rfl ?_
    refine s_goto K d5_120 (by decide) (pc' := 59) (by decide) ?_
    refine s_iload K d5_59 (pc' := 61) rfl rfl ?_
    refine s_ifY K d5_61 rfl (by decide) (pc' := 123) (by decide) ?_
    refine s_aloadN K d5_123 (pc' := 124) rfl rfl rfl ?_
    refine s_getf K d5_124 (pc' := 127) rfl (w14 hw) (k := 0) rfl (j := 0) rfl ?_
    refine s_iload K d5_127 (pc' := 129) rfl rfl ?_
    refine s_lloadN K d5_129 (pc' := 130) rfl rfl ?_
    refine s_lastore K d5_130 (pc' := 131) rfl (k := 1) rfl (i := 0) (by decide) (ltB rfl) (L' := ((a, oLH (.ref k) (.ref u) (.int 2)) :: (k, .inr (.long, [.long x, .long k0, .long t2, .long t3])) :: (u, .inr (.int, [.int (own_val k0), .int (own_val k0), .int y2, .int y3])) :: F)) rfl ?_
    refine s_aloadN K d5_131 (pc' := 132) rfl rfl rfl ?_
    refine s_getf K d5_132 (pc' := 135) rfl (w17 hw) (k := 0) rfl (j := 1) rfl ?_
    refine s_iload K d5_135 (pc' := 137) rfl rfl ?_
    refine s_iloadN K d5_137 (pc' := 138) rfl rfl ?_
    refine s_iastore K d5_138 (pc' := 139) rfl (k := 2) rfl (i := 0) (by decide) (ltB rfl) (L' := ((a, oLH (.ref k) (.ref u) (.int 2)) :: (k, .inr (.long, [.long x, .long k0, .long t2, .long t3])) :: (u, .inr (.int, [.int (own_val x), .int (own_val k0), .int y2, .int y3])) :: F)) rfl ?_
    exact s_return K d5_139 (by decide) (by decide) ⟨rfl, x, k0, by omega, (by first | exact List.Perm.refl _ | (rw [List.perm_iff_count]; intro z; simp only [List.count_cons, List.count_nil]; omega)), rfl⟩
set_option maxRecDepth 65536 in
set_option maxHeartbeats 400000000 in
theorem c_add2 {l : Launch} {Z : State} {a0 : Array Value} (hw : HW Z a0) {n0 : Nat} (F : Wd) (a k u : Addr) (x k0 k1 t2 t3 : Int64) (y2 y3 : Int32) (o1 : k0.toInt ≤ k1.toInt) :
    Con l Z n0 (⟨"com/example/evenkeel/evenkeel/LongHeap", "add", "(JI)V"⟩ : MethodName) prog_65_method_5_code 6 none ({ frames := 0, cells := 0, slots := 0, locals := 0 } : Room) [.ref a, .long x, .int (own_val x)] ((a, oLH (.ref k) (.ref u) (.int 2)) :: (k, .inr (.long, [.long k0, .long k1, .long t2, .long t3])) :: (u, .inr (.int, [.int (own_val k0), .int (own_val k1), .int y2, .int y3])) :: F) (fun v L' => v = none ∧ ∃ m0 m1 m2 : Int64, m0.toInt ≤ m1.toInt ∧ m0.toInt ≤ m2.toInt ∧ [m0, m1, m2].Perm [x, k0, k1] ∧ L' = ((a, oLH (.ref k) (.ref u) (.int 3)) :: (k, .inr (.long, [.long m0, .long m1, .long m2, .long t3])) :: (u, .inr (.int, [.int (own_val m0), .int (own_val m1), .int (own_val m2), .int y3])) :: F)) := by
  refine Con.of (by decide +kernel) (Ls := #[.val (.ref a), .val (.long x), .second, .val (.int (own_val x)), .unset, .unset]) (fun m => by first | rfl | (simp [entryFrame, mkF, argsToLocals, Value.category]; done)) ?_
  intro κ K
  refine s_aloadN K d5_0 (pc' := 1) rfl rfl rfl ?_
  refine s_getf K d5_1 (pc' := 4) rfl (w28 hw) (k := 0) rfl (j := 2) rfl ?_
  refine s_aloadN K d5_4 (pc' := 5) rfl rfl rfl ?_
  refine s_getf K d5_5 (pc' := 8) rfl (w14 hw) (k := 0) rfl (j := 0) rfl ?_
  refine s_len K d5_8 (pc' := 9) rfl (k := 1) rfl (z := (4 : Int32)) rfl ?_
  refine s_icY K d5_9 rfl (by decide) (pc' := 46) (by decide) ?_
  refine s_aloadN K d5_46 (pc' := 47) rfl rfl rfl ?_
  refine s_dup K d5_47 (pc' := 48) rfl rfl ?_
  refine s_getf K d5_48 (pc' := 51) rfl (w28 hw) (k := 0) rfl (j := 2) rfl ?_
  refine s_dupx1 K d5_51 (pc' := 52) rfl rfl rfl ?_
  refine s_iconst K d5_52 (pc' := 53) rfl (z := (1 : Int32)) rfl ?_
  refine s_iadd K d5_53 (pc' := 54) rfl (z := (3 : Int32)) rfl ?_
  refine s_putf K d5_54 (pc' := 57) rfl (w28 hw) (Or.inl (w29 hw)) (w1 hw) (ty := .int) (by decide) rfl rfl (k := 0) rfl (j := 2) rfl (L' := ((a, oLH (.ref k) (.ref u) (.int 3)) :: (k, .inr (.long, [.long k0, .long k1, .long t2, .long t3])) :: (u, .inr (.int, [.int (own_val k0), .int (own_val k1), .int y2, .int y3])) :: F)) rfl ?_
  refine s_istore K d5_57 (pc' := 59) rfl (Ls' := #[.val (.ref a), .val (.long x), .second, .val (.int (own_val x)), .val (.int 2), .unset]) rfl ?_
  refine s_iload K d5_59 (pc' := 61) rfl rfl ?_
  refine s_ifN K d5_61 (pc' := 64) rfl rfl ?_
  refine s_aloadN K d5_64 (pc' := 65) rfl rfl rfl ?_
  refine s_getf K d5_65 (pc' := 68) rfl (w14 hw) (k := 0) rfl (j := 0) rfl ?_
  refine s_iload K d5_68 (pc' := 70) rfl rfl ?_
  refine s_iconst K d5_70 (pc' := 71) rfl (z := (1 : Int32)) rfl ?_
  refine s_isub K d5_71 (pc' := 72) rfl (z := (1 : Int32)) rfl ?_
  refine s_iconst K d5_72 (pc' := 73) rfl (z := (1 : Int32)) rfl ?_
  refine s_iushr K d5_73 (pc' := 74) rfl (z := (0 : Int32)) rfl ?_
  refine s_laload K d5_74 (pc' := 75) rfl (k := 1) rfl (i := 0) (by decide) rfl ?_
  refine s_lloadN K d5_75 (pc' := 76) rfl rfl ?_
  refine s_lcmp K d5_76 (pc' := 77) rfl  ?_
  refine s_if K d5_77 (pn := 80) rfl (by decide) (pc' := 123) (by decide) (fun h2 => ?_) (fun h2 => ?_)
  · have g2 := own_leY h2
    refine s_aloadN K d5_123 (pc' := 124) rfl rfl rfl ?_
    refine s_getf K d5_124 (pc' := 127) rfl (w14 hw) (k := 0) rfl (j := 0) rfl ?_
    refine s_iload K d5_127 (pc' := 129) rfl rfl ?_
    refine s_lloadN K d5_129 (pc' := 130) rfl rfl ?_
    refine s_lastore K d5_130 (pc' := 131) rfl (k := 1) rfl (i := 2) (by decide) (ltB rfl) (L' := ((a, oLH (.ref k) (.ref u) (.int 3)) :: (k, .inr (.long, [.long k0, .long k1, .long x, .long t3])) :: (u, .inr (.int, [.int (own_val k0), .int (own_val k1), .int y2, .int y3])) :: F)) rfl ?_
    refine s_aloadN K d5_131 (pc' := 132) rfl rfl rfl ?_
    refine s_getf K d5_132 (pc' := 135) rfl (w17 hw) (k := 0) rfl (j := 1) rfl ?_
    refine s_iload K d5_135 (pc' := 137) rfl rfl ?_
    refine s_iloadN K d5_137 (pc' := 138) rfl rfl ?_
    refine s_iastore K d5_138 (pc' := 139) rfl (k := 2) rfl (i := 2) (by decide) (ltB rfl) (L' := ((a, oLH (.ref k) (.ref u) (.int 3)) :: (k, .inr (.long, [.long k0, .long k1, .long x, .long t3])) :: (u, .inr (.int, [.int (own_val k0), .int (own_val k1), .int (own_val x), .int y3])) :: F)) rfl ?_
    exact s_return K d5_139 (by decide) (by decide) ⟨rfl, k0, k1, x, by omega, by omega, (by first | exact List.Perm.refl _ | (rw [List.perm_iff_count]; intro z; simp only [List.count_cons, List.count_nil]; omega)), rfl⟩
  · have g2 := own_leN h2
    refine s_iload K d5_80 (pc' := 82) rfl rfl ?_
    refine s_iconst K d5_82 (pc' := 83) rfl (z := (1 : Int32)) rfl ?_
    refine s_isub K d5_83 (pc' := 84) rfl (z := (1 : Int32)) rfl ?_
    refine s_iconst K d5_84 (pc' := 85) rfl (z := (1 : Int32)) rfl ?_
    refine s_iushr K d5_85 (pc' := 86) rfl (z := (0 : Int32)) rfl ?_
    refine s_istore K d5_86 (pc' := 88) rfl (Ls' := #[.val (.ref a), .val (.long x), .second, .val (.int (own_val x)), .val (.int 2), .val (.int 0)]) rfl ?_
    refine s_aloadN K d5_88 (pc' := 89) rfl rfl rfl ?_
    refine s_getf K d5_89 (pc' := 92) rfl (w14 hw) (k := 0) rfl (j := 0) rfl ?_
    refine s_iload K d5_92 (pc' := 94) rfl rfl ?_
    refine s_aloadN K d5_94 (pc' := 95) rfl rfl rfl ?_
    refine s_getf K d5_95 (pc' := 98) rfl (w14 hw) (k := 0) rfl (j := 0) rfl ?_
    refine s_iload K d5_98 (pc' := 100) rfl rfl ?_
    refine s_laload K d5_100 (pc' := 101) rfl (k := 1) rfl (i := 0) (by decide) rfl ?_
    refine s_lastore K d5_101 (pc' := 102) rfl (k := 1) rfl (i := 2) (by decide) (ltB rfl) (L' := ((a, oLH (.ref k) (.ref u) (.int 3)) :: (k, .inr (.long, [.long k0, .long k1, .long k0, .long t3])) :: (u, .inr (.int, [.int (own_val k0), .int (own_val k1), .int y2, .int y3])) :: F)) rfl ?_
    refine s_aloadN K d5_102 (pc' := 103) rfl rfl rfl ?_
    refine s_getf K d5_103 (pc' := 106) rfl (w17 hw) (k := 0) rfl (j := 1) rfl ?_
    refine s_iload K d5_106 (pc' := 108) rfl rfl ?_
    refine s_aloadN K d5_108 (pc' := 109) rfl rfl rfl ?_
    refine s_getf K d5_109 (pc' := 112) rfl (w17 hw) (k := 0) rfl (j := 1) rfl ?_
    refine s_iload K d5_112 (pc' := 114) rfl rfl ?_
    refine s_iaload K d5_114 (pc' := 115) rfl (k := 2) rfl (i := 0) (by decide) rfl ?_
    refine s_iastore K d5_115 (pc' := 116) rfl (k := 2) rfl (i := 2) (by decide) (ltB rfl) (L' := ((a, oLH (.ref k) (.ref u) (.int 3)) :: (k, .inr (.long, [.long k0, .long k1, .long k0, .long t3])) :: (u, .inr (.int, [.int (own_val k0), .int (own_val k1), .int (own_val k0), .int y3])) :: F)) rfl ?_
    refine s_iload K d5_116 (pc' := 118) rfl rfl ?_
    refine s_istore K d5_118 (pc' := 120) rfl (Ls' := #[.val (.ref a), .val (.long x), .second, .val (.int (own_val x)), .val (.int 0), .val (.int 0)]) rfl ?_
    refine s_goto K d5_120 (by decide) (pc' := 59) (by decide) ?_
    refine s_iload K d5_59 (pc' := 61) rfl rfl ?_
    refine s_ifY K d5_61 rfl (by decide) (pc' := 123) (by decide) ?_
    refine s_aloadN K d5_123 (pc' := 124) rfl rfl rfl ?_
    refine s_getf K d5_124 (pc' := 127) rfl (w14 hw) (k := 0) rfl (j := 0) rfl ?_
    refine s_iload K d5_127 (pc' := 129) rfl rfl ?_
    refine s_lloadN K d5_129 (pc' := 130) rfl rfl ?_
    refine s_lastore K d5_130 (pc' := 131) rfl (k := 1) rfl (i := 0) (by decide) (ltB rfl) (L' := ((a, oLH (.ref k) (.ref u) (.int 3)) :: (k, .inr (.long, [.long x, .long k1, .long k0, .long t3])) :: (u, .inr (.int, [.int (own_val k0), .int (own_val k1), .int (own_val k0), .int y3])) :: F)) rfl ?_
    refine s_aloadN K d5_131 (pc' := 132) rfl rfl rfl ?_
    refine s_getf K d5_132 (pc' := 135) rfl (w17 hw) (k := 0) rfl (j := 1) rfl ?_
    refine s_iload K d5_135 (pc' := 137) rfl rfl ?_
    refine s_iloadN K d5_137 (pc' := 138) rfl rfl ?_
    refine s_iastore K d5_138 (pc' := 139) rfl (k := 2) rfl (i := 0) (by decide) (ltB rfl) (L' := ((a, oLH (.ref k) (.ref u) (.int 3)) :: (k, .inr (.long, [.long x, .long k1, .long k0, .long t3])) :: (u, .inr (.int, [.int (own_val x), .int (own_val k1), .int (own_val k0), .int y3])) :: F)) rfl ?_
    exact s_return K d5_139 (by decide) (by decide) ⟨rfl, x, k1, k0, by omega, by omega, (by first | exact List.Perm.refl _ | (rw [List.perm_iff_count]; intro z; simp only [List.count_cons, List.count_nil]; omega)), rfl⟩
set_option maxRecDepth 65536 in
set_option maxHeartbeats 400000000 in
theorem c_add3 {l : Launch} {Z : State} {a0 : Array Value} (hw : HW Z a0) {n0 : Nat} (F : Wd) (a k u : Addr) (x k0 k1 k2 t3 : Int64) (y3 : Int32) (o1 : k0.toInt ≤ k1.toInt) (o2 : k0.toInt ≤ k2.toInt) :
    Con l Z n0 (⟨"com/example/evenkeel/evenkeel/LongHeap", "add", "(JI)V"⟩ : MethodName) prog_65_method_5_code 6 none ({ frames := 0, cells := 0, slots := 0, locals := 0 } : Room) [.ref a, .long x, .int (own_val x)] ((a, oLH (.ref k) (.ref u) (.int 3)) :: (k, .inr (.long, [.long k0, .long k1, .long k2, .long t3])) :: (u, .inr (.int, [.int (own_val k0), .int (own_val k1), .int (own_val k2), .int y3])) :: F) (fun v L' => v = none ∧ ∃ m0 m1 m2 m3 : Int64, m0.toInt ≤ m1.toInt ∧ m0.toInt ≤ m2.toInt ∧ m1.toInt ≤ m3.toInt ∧ [m0, m1, m2, m3].Perm [x, k0, k1, k2] ∧ L' = ((a, oLH (.ref k) (.ref u) (.int 4)) :: (k, .inr (.long, [.long m0, .long m1, .long m2, .long m3])) :: (u, .inr (.int, [.int (own_val m0), .int (own_val m1), .int (own_val m2), .int (own_val m3)])) :: F)) := by
  refine Con.of (by decide +kernel) (Ls := #[.val (.ref a), .val (.long x), .second, .val (.int (own_val x)), .unset, .unset]) (fun m => by first | rfl | (simp [entryFrame, mkF, argsToLocals, Value.category]; done)) ?_
  intro κ K
  refine s_aloadN K d5_0 (pc' := 1) rfl rfl rfl ?_
  refine s_getf K d5_1 (pc' := 4) rfl (w28 hw) (k := 0) rfl (j := 2) rfl ?_
  refine s_aloadN K d5_4 (pc' := 5) rfl rfl rfl ?_
  refine s_getf K d5_5 (pc' := 8) rfl (w14 hw) (k := 0) rfl (j := 0) rfl ?_
  refine s_len K d5_8 (pc' := 9) rfl (k := 1) rfl (z := (4 : Int32)) rfl ?_
  refine s_icY K d5_9 rfl (by decide) (pc' := 46) (by decide) ?_
  refine s_aloadN K d5_46 (pc' := 47) rfl rfl rfl ?_
  refine s_dup K d5_47 (pc' := 48) rfl rfl ?_
  refine s_getf K d5_48 (pc' := 51) rfl (w28 hw) (k := 0) rfl (j := 2) rfl ?_
  refine s_dupx1 K d5_51 (pc' := 52) rfl rfl rfl ?_
  refine s_iconst K d5_52 (pc' := 53) rfl (z := (1 : Int32)) rfl ?_
  refine s_iadd K d5_53 (pc' := 54) rfl (z := (4 : Int32)) rfl ?_
  refine s_putf K d5_54 (pc' := 57) rfl (w28 hw) (Or.inl (w29 hw)) (w1 hw) (ty := .int) (by decide) rfl rfl (k := 0) rfl (j := 2) rfl (L' := ((a, oLH (.ref k) (.ref u) (.int 4)) :: (k, .inr (.long, [.long k0, .long k1, .long k2, .long t3])) :: (u, .inr (.int, [.int (own_val k0), .int (own_val k1), .int (own_val k2), .int y3])) :: F)) rfl ?_
  refine s_istore K d5_57 (pc' := 59) rfl (Ls' := #[.val (.ref a), .val (.long x), .second, .val (.int (own_val x)), .val (.int 3), .unset]) rfl ?_
  refine s_iload K d5_59 (pc' := 61) rfl rfl ?_
  refine s_ifN K d5_61 (pc' := 64) rfl rfl ?_
  refine s_aloadN K d5_64 (pc' := 65) rfl rfl rfl ?_
  refine s_getf K d5_65 (pc' := 68) rfl (w14 hw) (k := 0) rfl (j := 0) rfl ?_
  refine s_iload K d5_68 (pc' := 70) rfl rfl ?_
  refine s_iconst K d5_70 (pc' := 71) rfl (z := (1 : Int32)) rfl ?_
  refine s_isub K d5_71 (pc' := 72) rfl (z := (2 : Int32)) rfl ?_
  refine s_iconst K d5_72 (pc' := 73) rfl (z := (1 : Int32)) rfl ?_
  refine s_iushr K d5_73 (pc' := 74) rfl (z := (1 : Int32)) rfl ?_
  refine s_laload K d5_74 (pc' := 75) rfl (k := 1) rfl (i := 1) (by decide) rfl ?_
  refine s_lloadN K d5_75 (pc' := 76) rfl rfl ?_
  refine s_lcmp K d5_76 (pc' := 77) rfl  ?_
  refine s_if K d5_77 (pn := 80) rfl (by decide) (pc' := 123) (by decide) (fun h3 => ?_) (fun h3 => ?_)
  · have g3 := own_leY h3
    refine s_aloadN K d5_123 (pc' := 124) rfl rfl rfl ?_
    refine s_getf K d5_124 (pc' := 127) rfl (w14 hw) (k := 0) rfl (j := 0) rfl ?_
    refine s_iload K d5_127 (pc' := 129) rfl rfl ?_
    refine s_lloadN K d5_129 (pc' := 130) rfl rfl ?_
    refine s_lastore K d5_130 (pc' := 131) rfl (k := 1) rfl (i := 3) (by decide) (ltB rfl) (L' := ((a, oLH (.ref k) (.ref u) (.int 4)) :: (k, .inr (.long, [.long k0, .long k1, .long k2, .long x])) :: (u, .inr (.int, [.int (own_val k0), .int (own_val k1), .int (own_val k2), .int y3])) :: F)) rfl ?_
    refine s_aloadN K d5_131 (pc' := 132) rfl rfl rfl ?_
    refine s_getf K d5_132 (pc' := 135) rfl (w17 hw) (k := 0) rfl (j := 1) rfl ?_
    refine s_iload K d5_135 (pc' := 137) rfl rfl ?_
    refine s_iloadN K d5_137 (pc' := 138) rfl rfl ?_
    refine s_iastore K d5_138 (pc' := 139) rfl (k := 2) rfl (i := 3) (by decide) (ltB rfl) (L' := ((a, oLH (.ref k) (.ref u) (.int 4)) :: (k, .inr (.long, [.long k0, .long k1, .long k2, .long x])) :: (u, .inr (.int, [.int (own_val k0), .int (own_val k1), .int (own_val k2), .int (own_val x)])) :: F)) rfl ?_
    exact s_return K d5_139 (by decide) (by decide) ⟨rfl, k0, k1, k2, x, by omega, by omega, by omega, (by first | exact List.Perm.refl _ | (rw [List.perm_iff_count]; intro z; simp only [List.count_cons, List.count_nil]; omega)), rfl⟩
  · have g3 := own_leN h3
    refine s_iload K d5_80 (pc' := 82) rfl rfl ?_
    refine s_iconst K d5_82 (pc' := 83) rfl (z := (1 : Int32)) rfl ?_
    refine s_isub K d5_83 (pc' := 84) rfl (z := (2 : Int32)) rfl ?_
    refine s_iconst K d5_84 (pc' := 85) rfl (z := (1 : Int32)) rfl ?_
    refine s_iushr K d5_85 (pc' := 86) rfl (z := (1 : Int32)) rfl ?_
    refine s_istore K d5_86 (pc' := 88) rfl (Ls' := #[.val (.ref a), .val (.long x), .second, .val (.int (own_val x)), .val (.int 3), .val (.int 1)]) rfl ?_
    refine s_aloadN K d5_88 (pc' := 89) rfl rfl rfl ?_
    refine s_getf K d5_89 (pc' := 92) rfl (w14 hw) (k := 0) rfl (j := 0) rfl ?_
    refine s_iload K d5_92 (pc' := 94) rfl rfl ?_
    refine s_aloadN K d5_94 (pc' := 95) rfl rfl rfl ?_
    refine s_getf K d5_95 (pc' := 98) rfl (w14 hw) (k := 0) rfl (j := 0) rfl ?_
    refine s_iload K d5_98 (pc' := 100) rfl rfl ?_
    refine s_laload K d5_100 (pc' := 101) rfl (k := 1) rfl (i := 1) (by decide) rfl ?_
    refine s_lastore K d5_101 (pc' := 102) rfl (k := 1) rfl (i := 3) (by decide) (ltB rfl) (L' := ((a, oLH (.ref k) (.ref u) (.int 4)) :: (k, .inr (.long, [.long k0, .long k1, .long k2, .long k1])) :: (u, .inr (.int, [.int (own_val k0), .int (own_val k1), .int (own_val k2), .int y3])) :: F)) rfl ?_
    refine s_aloadN K d5_102 (pc' := 103) rfl rfl rfl ?_
    refine s_getf K d5_103 (pc' := 106) rfl (w17 hw) (k := 0) rfl (j := 1) rfl ?_
    refine s_iload K d5_106 (pc' := 108) rfl rfl ?_
    refine s_aloadN K d5_108 (pc' := 109) rfl rfl rfl ?_
    refine s_getf K d5_109 (pc' := 112) rfl (w17 hw) (k := 0) rfl (j := 1) rfl ?_
    refine s_iload K d5_112 (pc' := 114) rfl rfl ?_
    refine s_iaload K d5_114 (pc' := 115) rfl (k := 2) rfl (i := 1) (by decide) rfl ?_
    refine s_iastore K d5_115 (pc' := 116) rfl (k := 2) rfl (i := 3) (by decide) (ltB rfl) (L' := ((a, oLH (.ref k) (.ref u) (.int 4)) :: (k, .inr (.long, [.long k0, .long k1, .long k2, .long k1])) :: (u, .inr (.int, [.int (own_val k0), .int (own_val k1), .int (own_val k2), .int (own_val k1)])) :: F)) rfl ?_
    refine s_iload K d5_116 (pc' := 118) rfl rfl ?_
    refine s_istore K d5_118 (pc' := 120) rfl (Ls' := #[.val (.ref a), .val (.long x), .second, .val (.int (own_val x)), .val (.int 1), .val (.int 1)]) rfl ?_
    refine s_goto K d5_120 (by decide) (pc' := 59) (by decide) ?_
    refine s_iload K d5_59 (pc' := 61) rfl rfl ?_
    refine s_ifN K d5_61 (pc' := 64) rfl rfl ?_
    refine s_aloadN K d5_64 (pc' := 65) rfl rfl rfl ?_
    refine s_getf K d5_65 (pc' := 68) rfl (w14 hw) (k := 0) rfl (j := 0) rfl ?_
    refine s_iload K d5_68 (pc' := 70) rfl rfl ?_
    refine s_iconst K d5_70 (pc' := 71) rfl (z := (1 : Int32)) rfl ?_
    refine s_isub K d5_71 (pc' := 72) rfl (z := (0 : Int32)) rfl ?_
    refine s_iconst K d5_72 (pc' := 73) rfl (z := (1 : Int32)) rfl ?_
    refine s_iushr K d5_73 (pc' := 74) rfl (z := (0 : Int32)) rfl ?_
    refine s_laload K d5_74 (pc' := 75) rfl (k := 1) rfl (i := 0) (by decide) rfl ?_
    refine s_lloadN K d5_75 (pc' := 76) rfl rfl ?_
    refine s_lcmp K d5_76 (pc' := 77) rfl  ?_
    refine s_if K d5_77 (pn := 80) rfl (by decide) (pc' := 123) (by decide) (fun h4 => ?_) (fun h4 => ?_)
    · have g4 := own_leY h4
      refine s_aloadN K d5_123 (pc' := 124) rfl rfl rfl ?_
      refine s_getf K d5_124 (pc' := 127) rfl (w14 hw) (k := 0) rfl (j := 0) rfl ?_
      refine s_iload K d5_127 (pc' := 129) rfl rfl ?_
      refine s_lloadN K d5_129 (pc' := 130) rfl rfl ?_
      refine s_lastore K d5_130 (pc' := 131) rfl (k := 1) rfl (i := 1) (by decide) (ltB rfl) (L' := ((a, oLH (.ref k) (.ref u) (.int 4)) :: (k, .inr (.long, [.long k0, .long x, .long k2, .long k1])) :: (u, .inr (.int, [.int (own_val k0), .int (own_val k1), .int (own_val k2), .int (own_val k1)])) :: F)) rfl ?_
      refine s_aloadN K d5_131 (pc' := 132) rfl rfl rfl ?_
      refine s_getf K d5_132 (pc' := 135) rfl (w17 hw) (k := 0) rfl (j := 1) rfl ?_
      refine s_iload K d5_135 (pc' := 137) rfl rfl ?_
      refine s_iloadN K d5_137 (pc' := 138) rfl rfl ?_
      refine s_iastore K d5_138 (pc' := 139) rfl (k := 2) rfl (i := 1) (by decide) (ltB rfl) (L' := ((a, oLH (.ref k) (.ref u) (.int 4)) :: (k, .inr (.long, [.long k0, .long x, .long k2, .long k1])) :: (u, .inr (.int, [.int (own_val k0), .int (own_val x), .int (own_val k2), .int (own_val k1)])) :: F)) rfl ?_
      exact s_return K d5_139 (by decide) (by decide) ⟨rfl, k0, x, k2, k1, by omega, by omega, by omega, (by first | exact List.Perm.refl _ | (rw [List.perm_iff_count]; intro z; simp only [List.count_cons, List.count_nil]; omega)), rfl⟩
    · have g4 := own_leN h4
      refine s_iload K d5_80 (pc' := 82) rfl rfl ?_
      refine s_iconst K d5_82 (pc' := 83) rfl (z := (1 : Int32)) rfl ?_
      refine s_isub K d5_83 (pc' := 84) rfl (z := (0 : Int32)) rfl ?_
      refine s_iconst K d5_84 (pc' := 85) rfl (z := (1 : Int32)) rfl ?_
      refine s_iushr K d5_85 (pc' := 86) rfl (z := (0 : Int32)) rfl ?_
      refine s_istore K d5_86 (pc' := 88) rfl (Ls' := #[.val (.ref a), .val (.long x), .second, .val (.int (own_val x)), .val (.int 1), .val (.int 0)]) rfl ?_
      refine s_aloadN K d5_88 (pc' := 89) rfl rfl rfl ?_
      refine s_getf K d5_89 (pc' := 92) rfl (w14 hw) (k := 0) rfl (j := 0) rfl ?_
      refine s_iload K d5_92 (pc' := 94) rfl rfl ?_
      refine s_aloadN K d5_94 (pc' := 95) rfl rfl rfl ?_
      refine s_getf K d5_95 (pc' := 98) rfl (w14 hw) (k := 0) rfl (j := 0) rfl ?_
      refine s_iload K d5_98 (pc' := 100) rfl rfl ?_
      refine s_laload K d5_100 (pc' := 101) rfl (k := 1) rfl (i := 0) (by decide) rfl ?_
      refine s_lastore K d5_101 (pc' := 102) rfl (k := 1) rfl (i := 1) (by decide) (ltB rfl) (L' := ((a, oLH (.ref k) (.ref u) (.int 4)) :: (k, .inr (.long, [.long k0, .long k0, .long k2, .long k1])) :: (u, .inr (.int, [.int (own_val k0), .int (own_val k1), .int (own_val k2), .int (own_val k1)])) :: F)) rfl ?_
      refine s_aloadN K d5_102 (pc' := 103) rfl rfl rfl ?_
      refine s_getf K d5_103 (pc' := 106) rfl (w17 hw) (k := 0) rfl (j := 1) rfl ?_
      refine s_iload K d5_106 (pc' := 108) rfl rfl ?_
      refine s_aloadN K d5_108 (pc' := 109) rfl rfl rfl ?_
      refine s_getf K d5_109 (pc' := 112) rfl (w17 hw) (k := 0) rfl (j := 1) rfl ?_
      refine s_iload K d5_112 (pc' := 114) rfl rfl ?_
      refine s_iaload K d5_114 (pc' := 115) rfl (k := 2) rfl (i := 0) (by decide) rfl ?_
      refine s_iastore K d5_115 (pc' := 116) rfl (k := 2) rfl (i := 1) (by decide) (ltB rfl) (L' := ((a, oLH (.ref k) (.ref u) (.int 4)) :: (k, .inr (.long, [.long k0, .long k0, .long k2, .long k1])) :: (u, .inr (.int, [.int (own_val k0), .int (own_val k0), .int (own_val k2), .int (own_val k1)])) :: F)) rfl ?_
      refine s_iload K d5_116 (pc' := 118) rfl rfl ?_
      refine s_istore K d5_118 (pc' := 120) rfl (Ls' := #[.val (.ref a), .val (.long x), .second, .val (.int (own_val x)), .val (.int 0), .val (.int 0)]) rfl ?_
      refine s_goto K d5_120 (by decide) (pc' := 59) (by decide) ?_
      refine s_iload K d5_59 (pc' := 61) rfl rfl ?_
      refine s_ifY K d5_61 rfl (by decide) (pc' := 123) (by decide) ?_
      refine s_aloadN K d5_123 (pc' := 124) rfl rfl rfl ?_
      refine s_getf K d5_124 (pc' := 127) rfl (w14 hw) (k := 0) rfl (j := 0) rfl ?_
      refine s_iload K d5_127 (pc' := 129) rfl rfl ?_
      refine s_lloadN K d5_129 (pc' := 130) rfl rfl ?_
      refine s_lastore K d5_130 (pc' := 131) rfl (k := 1) rfl (i := 0) (by decide) (ltB rfl) (L' := ((a, oLH (.ref k) (.ref u) (.int 4)) :: (k, .inr (.long, [.long x, .long k0, .long k2, .long k1])) :: (u, .inr (.int, [.int (own_val k0), .int (own_val k0), .int (own_val k2), .int (own_val k1)])) :: F)) rfl ?_
      refine s_aloadN K d5_131 (pc' := 132) rfl rfl rfl ?_
      refine s_getf K d5_132 (pc' := 135) rfl (w17 hw) (k := 0) rfl (j := 1) rfl ?_
      refine s_iload K d5_135 (pc' := 137) rfl rfl ?_
      refine s_iloadN K d5_137 (pc' := 138) rfl rfl ?_
      refine s_iastore K d5_138 (pc' := 139) rfl (k := 2) rfl (i := 0) (by decide) (ltB rfl) (L' := ((a, oLH (.ref k) (.ref u) (.int 4)) :: (k, .inr (.long, [.long x, .long k0, .long k2, .long k1])) :: (u, .inr (.int, [.int (own_val x), .int (own_val k0), .int (own_val k2), .int (own_val k1)])) :: F)) rfl ?_
      exact s_return K d5_139 (by decide) (by decide) ⟨rfl, x, k0, k2, k1, by omega, by omega, by omega, (by first | exact List.Perm.refl _ | (rw [List.perm_iff_count]; intro z; simp only [List.count_cons, List.count_nil]; omega)), rfl⟩
set_option maxRecDepth 65536 in
set_option maxHeartbeats 400000000 in
theorem c_rep1 {l : Launch} {Z : State} {a0 : Array Value} (hw : HW Z a0) {n0 : Nat} (F : Wd) (a k u : Addr) (x k0 t1 t2 t3 : Int64) (y1 y2 y3 : Int32)  :
    Con l Z n0 (⟨"com/example/evenkeel/evenkeel/LongHeap", "replaceLeast", "(JI)V"⟩ : MethodName) prog_65_method_7_code 6 none ({ frames := 0, cells := 0, slots := 0, locals := 0 } : Room) [.ref a, .long x, .int (own_val x)] ((a, oLH (.ref k) (.ref u) (.int 1)) :: (k, .inr (.long, [.long k0, .long t1, .long t2, .long t3])) :: (u, .inr (.int, [.int (own_val k0), .int y1, .int y2, .int y3])) :: F) (fun v L' => v = none ∧ ∃ m0 : Int64, [m0].Perm [x] ∧ L' = ((a, oLH (.ref k) (.ref u) (.int 1)) :: (k, .inr (.long, [.long m0, .long t1, .long t2, .long t3])) :: (u, .inr (.int, [.int (own_val m0), .int y1, .int y2, .int y3])) :: F)) := by
  refine Con.of (by decide +kernel) (Ls := #[.val (.ref a), .val (.long x), .second, .val (.int (own_val x)), .unset, .unset]) (fun m => by first | rfl | (simp [entryFrame, mkF, argsToLocals, Value.category]; done)) ?_
  intro κ K
  refine s_iconst K d6_0 (pc' := 1) rfl (z := (0 : Int32)) rfl ?_
  refine s_istore K d6_1 (pc' := 3) rfl (Ls' := #[.val (.ref a), .val (.long x), .second, .val (.int (own_val x)), .val (.int 0), .unset]) rfl ?_
  refine s_iconst K d6_3 (pc' := 4) rfl (z := (2 : Int32)) rfl ?_
  refine s_iload K d6_4 (pc' := 6) rfl rfl ?_
  refine s_imul K d6_6 (pc' := 7) rfl (z := (0 : Int32)) rfl ?_
  refine s_iconst K d6_7 (pc' := 8) rfl (z := (1 : Int32)) rfl ?_
  refine s_iadd K d6_8 (pc' := 9) rfl (z := (1 : Int32)) rfl ?_
  refine s_aloadN K d6_9 (pc' := 10) rfl rfl rfl ?_
  refine s_getf K d6_10 (pc' := 13) rfl (w28 hw) (k := 0) rfl (j := 2) rfl ?_
  refine s_icY K d6_13 rfl (by decide) (pc' := 108) (by decide) ?_
  refine s_aloadN K d6_108 (pc' := 109) rfl rfl rfl ?_
  refine s_getf K d6_109 (pc' := 112) rfl (w14 hw) (k := 0) rfl (j := 0) rfl ?_
  refine s_iload K d6_112 (pc' := 114) rfl rfl ?_
  refine s_lloadN K d6_114 (pc' := 115) rfl rfl ?_
  refine s_lastore K d6_115 (pc' := 116) rfl (k := 1) rfl (i := 0) (by decide) (ltB rfl) (L' := ((a, oLH (.ref k) (.ref u) (.int 1)) :: (k, .inr (.long, [.long x, .long t1, .long t2, .long t3])) :: (u, .inr (.int, [.int (own_val k0), .int y1, .int y2, .int y3])) :: F)) rfl ?_
  refine s_aloadN K d6_116 (pc' := 117) rfl rfl rfl ?_
  refine s_getf K d6_117 (pc' := 120) rfl (w17 hw) (k := 0) rfl (j := 1) rfl ?_
  refine s_iload K d6_120 (pc' := 122) rfl rfl ?_
  refine s_iloadN K d6_122 (pc' := 123) rfl rfl ?_
  refine s_iastore K d6_123 (pc' := 124) rfl (k := 2) rfl (i := 0) (by decide) (ltB rfl) (L' := ((a, oLH (.ref k) (.ref u) (.int 1)) :: (k, .inr (.long, [.long x, .long t1, .long t2, .long t3])) :: (u, .inr (.int, [.int (own_val x), .int y1, .int y2, .int y3])) :: F)) rfl ?_
  exact s_return K d6_124 (by decide) (by decide) ⟨rfl, x, (by first | exact List.Perm.refl _ | (rw [List.perm_iff_count]; intro z; simp only [List.count_cons, List.count_nil]; omega)), rfl⟩
set_option maxRecDepth 65536 in
set_option maxHeartbeats 400000000 in
theorem c_rep2 {l : Launch} {Z : State} {a0 : Array Value} (hw : HW Z a0) {n0 : Nat} (F : Wd) (a k u : Addr) (x k0 k1 t2 t3 : Int64) (y2 y3 : Int32)  :
    Con l Z n0 (⟨"com/example/evenkeel/evenkeel/LongHeap", "replaceLeast", "(JI)V"⟩ : MethodName) prog_65_method_7_code 6 none ({ frames := 0, cells := 0, slots := 0, locals := 0 } : Room) [.ref a, .long x, .int (own_val x)] ((a, oLH (.ref k) (.ref u) (.int 2)) :: (k, .inr (.long, [.long k0, .long k1, .long t2, .long t3])) :: (u, .inr (.int, [.int (own_val k0), .int (own_val k1), .int y2, .int y3])) :: F) (fun v L' => v = none ∧ ∃ m0 m1 : Int64, m0.toInt ≤ m1.toInt ∧ [m0, m1].Perm [x, k1] ∧ L' = ((a, oLH (.ref k) (.ref u) (.int 2)) :: (k, .inr (.long, [.long m0, .long m1, .long t2, .long t3])) :: (u, .inr (.int, [.int (own_val m0), .int (own_val m1), .int y2, .int y3])) :: F)) := by
  refine Con.of (by decide +kernel) (Ls := #[.val (.ref a), .val (.long x), .second, .val (.int (own_val x)), .unset, .unset]) (fun m => by first | rfl | (simp [entryFrame, mkF, argsToLocals, Value.category]; done)) ?_
  intro κ K
  refine s_iconst K d6_0 (pc' := 1) rfl (z := (0 : Int32)) rfl ?_
  refine s_istore K d6_1 (pc' := 3) rfl (Ls' := #[.val (.ref a), .val (.long x), .second, .val (.int (own_val x)), .val (.int 0), .unset]) rfl ?_
  refine s_iconst K d6_3 (pc' := 4) rfl (z := (2 : Int32)) rfl ?_
  refine s_iload K d6_4 (pc' := 6) rfl rfl ?_
  refine s_imul K d6_6 (pc' := 7) rfl (z := (0 : Int32)) rfl ?_
  refine s_iconst K d6_7 (pc' := 8) rfl (z := (1 : Int32)) rfl ?_
  refine s_iadd K d6_8 (pc' := 9) rfl (z := (1 : Int32)) rfl ?_
  refine s_aloadN K d6_9 (pc' := 10) rfl rfl rfl ?_
  refine s_getf K d6_10 (pc' := 13) rfl (w28 hw) (k := 0) rfl (j := 2) rfl ?_
  refine s_icN K d6_13 (pc' := 16) rfl rfl ?_
  refine s_iconst K d6_16 (pc' := 17) rfl (z := (2 : Int32)) rfl ?_
  refine s_iload K d6_17 (pc' := 19) rfl rfl ?_
  refine s_imul K d6_19 (pc' := 20) rfl (z := (0 : Int32)) rfl ?_
  refine s_iconst K d6_20 (pc' := 21) rfl (z := (1 : Int32)) rfl ?_
  refine s_iadd K d6_21 (pc' := 22) rfl (z := (1 : Int32)) rfl ?_
  refine s_istore K d6_22 (pc' := 24) rfl (Ls' := #[.val (.ref a), .val (.long x), .second, .val (.int (own_val x)), .val (.int 0), .val (.int 1)]) rfl ?_
  refine s_iload K d6_24 (pc' := 26) rfl rfl ?_
  refine s_iconst K d6_26 (pc' := 27) rfl (z := (1 : Int32)) rfl ?_
  refine s_iadd K d6_27 (pc' := 28) rfl (z := (2 : Int32)) rfl ?_
  refine s_aloadN K d6_28 (pc' := 29) rfl rfl rfl ?_
  refine s_getf K d6_29 (pc' := 32) rfl (w28 hw) (k := 0) rfl (j := 2) rfl ?_
  refine s_icY K d6_32 rfl (by decide) (pc' := 58) (by decide) ?_
  refine s_aloadN K d6_58 (pc' := 59) rfl rfl rfl ?_
  refine s_getf K d6_59 (pc' := 62) rfl (w14 hw) (k := 0) rfl (j := 0) rfl ?_
  refine s_iload K d6_62 (pc' := 64) rfl rfl ?_
  refine s_laload K d6_64 (pc' := 65) rfl (k := 1) rfl (i := 1) (by decide) rfl ?_
  refine s_lloadN K d6_65 (pc' := 66) rfl rfl ?_
  refine s_lcmp K d6_66 (pc' := 67) rfl  ?_
  refine s_if K d6_67 (pn := 70) rfl (by decide) (pc' := 73) (by decide) (fun h5 => ?_) (fun h5 => ?_)
  · have g5 := own_ltY h5
    refine s_aloadN K d6_73 (pc' := 74) rfl rfl rfl ?_
    refine s_getf K d6_74 (pc' := 77) rfl (w14 hw) (k := 0) rfl (j := 0) rfl ?_
    refine s_iload K d6_77 (pc' := 79) rfl rfl ?_
    refine s_aloadN K d6_79 (pc' := 80) rfl rfl rfl ?_
    refine s_getf K d6_80 (pc' := 83) rfl (w14 hw) (k := 0) rfl (j := 0) rfl ?_
    refine s_iload K d6_83 (pc' := 85) rfl rfl ?_
    refine s_laload K d6_85 (pc' := 86) rfl (k := 1) rfl (i := 1) (by decide) rfl ?_
    refine s_lastore K d6_86 (pc' := 87) rfl (k := 1) rfl (i := 0) (by decide) (ltB rfl) (L' := ((a, oLH (.ref k) (.ref u) (.int 2)) :: (k, .inr (.long, [.long k1, .long k1, .long t2, .long t3])) :: (u, .inr (.int, [.int (own_val k0), .int (own_val k1), .int y2, .int y3])) :: F)) rfl ?_
    refine s_aloadN K d6_87 (pc' := 88) rfl rfl rfl ?_
    refine s_getf K d6_88 (pc' := 91) rfl (w17 hw) (k := 0) rfl (j := 1) rfl ?_
    refine s_iload K d6_91 (pc' := 93) rfl rfl ?_
    refine s_aloadN K d6_93 (pc' := 94) rfl rfl rfl ?_
    refine s_getf K d6_94 (pc' := 97) rfl (w17 hw) (k := 0) rfl (j := 1) rfl ?_
    refine s_iload K d6_97 (pc' := 99) rfl rfl ?_
    refine s_iaload K d6_99 (pc' := 100) rfl (k := 2) rfl (i := 1) (by decide) rfl ?_
    refine s_iastore K d6_100 (pc' := 101) rfl (k := 2) rfl (i := 0) (by decide) (ltB rfl) (L' := ((a, oLH (.ref k) (.ref u) (.int 2)) :: (k, .inr (.long, [.long k1, .long k1, .long t2, .long t3])) :: (u, .inr (.int, [.int (own_val k1), .int (own_val k1), .int y2, .int y3])) :: F)) rfl ?_
    refine s_iload K d6_101 (pc' := 103) rfl rfl ?_
    refine s_istore K d6_103 (pc' := 105) rfl (Ls' := #[.val (.ref a), .val (.long x), .second, .val (.int (own_val x)), .val (.int 1), .val (.int 1)]) rfl ?_
    refine s_goto K d6_105 (by decide) (pc' := 3) (by decide) ?_
    refine s_iconst K d6_3 (pc' := 4) rfl (z := (2 : Int32)) rfl ?_
    refine s_iload K d6_4 (pc' := 6) rfl rfl ?_
    refine s_imul K d6_6 (pc' := 7) rfl (z := (2 : Int32)) rfl ?_
    refine s_iconst K d6_7 (pc' := 8) rfl (z := (1 : Int32)) rfl ?_
    refine s_iadd K d6_8 (pc' := 9) rfl (z := (3 : Int32)) rfl ?_
    refine s_aloadN K d6_9 (pc' := 10) rfl rfl rfl ?_
    refine s_getf K d6_10 (pc' := 13) rfl (w28 hw) (k := 0) rfl (j := 2) rfl ?_
    refine s_icY K d6_13 rfl (by decide) (pc' := 108) (by decide) ?_
    refine s_aloadN K d6_108 (pc' := 109) rfl rfl rfl ?_
    refine s_getf K d6_109 (pc' := 112) rfl (w14 hw) (k := 0) rfl (j := 0) rfl ?_
    refine s_iload K d6_112 (pc' := 114) rfl rfl ?_
    refine s_lloadN K d6_114 (pc' := 115) rfl rfl ?_
    refine s_lastore K d6_115 (pc' := 116) rfl (k := 1) rfl (i := 1) (by decide) (ltB rfl) (L' := ((a, oLH (.ref k) (.ref u) (.int 2)) :: (k, .inr (.long, [.long k1, .long x, .long t2, .long t3])) :: (u, .inr (.int, [.int (own_val k1), .int (own_val k1), .int y2, .int y3])) :: F)) rfl ?_
    refine s_aloadN K d6_116 (pc' := 117) rfl rfl rfl ?_
    refine s_getf K d6_117 (pc' := 120) rfl (w17 hw) (k := 0) rfl (j := 1) rfl ?_
    refine s_iload K d6_120 (pc' := 122) rfl rfl ?_
    refine s_iloadN K d6_122 (pc' := 123) rfl rfl ?_
    refine s_iastore K d6_123 (pc' := 124) rfl (k := 2) rfl (i := 1) (by decide) (ltB rfl) (L' := ((a, oLH (.ref k) (.ref u) (.int 2)) :: (k, .inr (.long, [.long k1, .long x, .long t2, .long t3])) :: (u, .inr (.int, [.int (own_val k1), .int (own_val x), .int y2, .int y3])) :: F)) rfl ?_
    exact s_return K d6_124 (by decide) (by decide) ⟨rfl, k1, x, by omega, (by first | exact List.Perm.refl _ | (rw [List.perm_iff_count]; intro z; simp only [List.count_cons, List.count_nil]; omega)), rfl⟩
  · have g5 := own_ltN h5
    refine s_goto K d6_70 (by decide) (pc' := 108) (by decide) ?_
    refine s_aloadN K d6_108 (pc' := 109) rfl rfl rfl ?_
    refine s_getf K d6_109 (pc' := 112) rfl (w14 hw) (k := 0) rfl (j := 0) rfl ?_
    refine s_iload K d6_112 (pc' := 114) rfl rfl ?_
    refine s_lloadN K d6_114 (pc' := 115) rfl rfl ?_
    refine s_lastore K d6_115 (pc' := 116) rfl (k := 1) rfl (i := 0) (by decide) (ltB rfl) (L' := ((a, oLH (.ref k) (.ref u) (.int 2)) :: (k, .inr (.long, [.long x, .long k1, .long t2, .long t3])) :: (u, .inr (.int, [.int (own_val k0), .int (own_val k1), .int y2, .int y3])) :: F)) rfl ?_
    refine s_aloadN K d6_116 (pc' := 117) rfl rfl rfl ?_
    refine s_getf K d6_117 (pc' := 120) rfl (w17 hw) (k := 0) rfl (j := 1) rfl ?_
    refine s_iload K d6_120 (pc' := 122) rfl rfl ?_
    refine s_iloadN K d6_122 (pc' := 123) rfl rfl ?_
    refine s_iastore K d6_123 (pc' := 124) rfl (k := 2) rfl (i := 0) (by decide) (ltB rfl) (L' := ((a, oLH (.ref k) (.ref u) (.int 2)) :: (k, .inr (.long, [.long x, .long k1, .long t2, .long t3])) :: (u, .inr (.int, [.int (own_val x), .int (own_val k1), .int y2, .int y3])) :: F)) rfl ?_
    exact s_return K d6_124 (by decide) (by decide) ⟨rfl, x, k1, by omega, (by first | exact List.Perm.refl _ | (rw [List.perm_iff_count]; intro z; simp only [List.count_cons, List.count_nil]; omega)), rfl⟩
set_option maxRecDepth 65536 in
set_option maxHeartbeats 400000000 in
theorem c_rep3 {l : Launch} {Z : State} {a0 : Array Value} (hw : HW Z a0) {n0 : Nat} (F : Wd) (a k u : Addr) (x k0 k1 k2 t3 : Int64) (y3 : Int32)  :
    Con l Z n0 (⟨"com/example/evenkeel/evenkeel/LongHeap", "replaceLeast", "(JI)V"⟩ : MethodName) prog_65_method_7_code 6 none ({ frames := 0, cells := 0, slots := 0, locals := 0 } : Room) [.ref a, .long x, .int (own_val x)] ((a, oLH (.ref k) (.ref u) (.int 3)) :: (k, .inr (.long, [.long k0, .long k1, .long k2, .long t3])) :: (u, .inr (.int, [.int (own_val k0), .int (own_val k1), .int (own_val k2), .int y3])) :: F) (fun v L' => v = none ∧ ∃ m0 m1 m2 : Int64, m0.toInt ≤ m1.toInt ∧ m0.toInt ≤ m2.toInt ∧ [m0, m1, m2].Perm [x, k1, k2] ∧ L' = ((a, oLH (.ref k) (.ref u) (.int 3)) :: (k, .inr (.long, [.long m0, .long m1, .long m2, .long t3])) :: (u, .inr (.int, [.int (own_val m0), .int (own_val m1), .int (own_val m2), .int y3])) :: F)) := by
  refine Con.of (by decide +kernel) (Ls := #[.val (.ref a), .val (.long x), .second, .val (.int (own_val x)), .unset, .unset]) (fun m => by first | rfl | (simp [entryFrame, mkF, argsToLocals, Value.category]; done)) ?_
  intro κ K
  refine s_iconst K d6_0 (pc' := 1) rfl (z := (0 : Int32)) rfl ?_
  refine s_istore K d6_1 (pc' := 3) rfl (Ls' := #[.val (.ref a), .val (.long x), .second, .val (.int (own_val x)), .val (.int 0), .unset]) rfl ?_
  refine s_iconst K d6_3 (pc' := 4) rfl (z := (2 : Int32)) rfl ?_
  refine s_iload K d6_4 (pc' := 6) rfl rfl ?_
  refine s_imul K d6_6 (pc' := 7) rfl (z := (0 : Int32)) rfl ?_
  refine s_iconst K d6_7 (pc' := 8) rfl (z := (1 : Int32)) rfl ?_
  refine s_iadd K d6_8 (pc' := 9) rfl (z := (1 : Int32)) rfl ?_
  refine s_aloadN K d6_9 (pc' := 10) rfl rfl rfl ?_
  refine s_getf K d6_10 (pc' := 13) rfl (w28 hw) (k := 0) rfl (j := 2) rfl ?_
  refine s_icN K d6_13 (pc' := 16) rfl rfl ?_
  refine s_iconst K d6_16 (pc' := 17) rfl (z := (2 : Int32)) rfl ?_
  refine s_iload K d6_17 (pc' := 19) rfl rfl ?_
  refine s_imul K d6_19 (pc' := 20) rfl (z := (0 : Int32)) rfl ?_
  refine s_iconst K d6_20 (pc' := 21) rfl (z := (1 : Int32)) rfl ?_
  refine s_iadd K d6_21 (pc' := 22) rfl (z := (1 : Int32)) rfl ?_
  refine s_istore K d6_22 (pc' := 24) rfl (Ls' := #[.val (.ref a), .val (.long x), .second, .val (.int (own_val x)), .val (.int 0), .val (.int 1)]) rfl ?_
  refine s_iload K d6_24 (pc' := 26) rfl rfl ?_
  refine s_iconst K d6_26 (pc' := 27) rfl (z := (1 : Int32)) rfl ?_
  refine s_iadd K d6_27 (pc' := 28) rfl (z := (2 : Int32)) rfl ?_
  refine s_aloadN K d6_28 (pc' := 29) rfl rfl rfl ?_
  refine s_getf K d6_29 (pc' := 32) rfl (w28 hw) (k := 0) rfl (j := 2) rfl ?_
  refine s_icN K d6_32 (pc' := 35) rfl rfl ?_
  refine s_aloadN K d6_35 (pc' := 36) rfl rfl rfl ?_
  refine s_getf K d6_36 (pc' := 39) rfl (w14 hw) (k := 0) rfl (j := 0) rfl ?_
  refine s_iload K d6_39 (pc' := 41) rfl rfl ?_
  refine s_iconst K d6_41 (pc' := 42) rfl (z := (1 : Int32)) rfl ?_
  refine s_iadd K d6_42 (pc' := 43) rfl (z := (2 : Int32)) rfl ?_
  refine s_laload K d6_43 (pc' := 44) rfl (k := 1) rfl (i := 2) (by decide) rfl ?_
  refine s_aloadN K d6_44 (pc' := 45) rfl rfl rfl ?_
  refine s_getf K d6_45 (pc' := 48) rfl (w14 hw) (k := 0) rfl (j := 0) rfl ?_
  refine s_iload K d6_48 (pc' := 50) rfl rfl ?_
  refine s_laload K d6_50 (pc' := 51) rfl (k := 1) rfl (i := 1) (by decide) rfl ?_
  refine s_lcmp K d6_51 (pc' := 52) rfl  ?_
  refine s_if K d6_52 (pn := 55) rfl (by decide) (pc' := 58) (by decide) (fun h6 => ?_) (fun h6 => ?_)
  · have g6 := own_geY h6
    refine s_aloadN K d6_58 (pc' := 59) rfl rfl rfl ?_
    refine s_getf K d6_59 (pc' := 62) rfl (w14 hw) (k := 0) rfl (j := 0) rfl ?_
    refine s_iload K d6_62 (pc' := 64) rfl rfl ?_
    refine s_laload K d6_64 (pc' := 65) rfl (k := 1) rfl (i := 1) (by decide) rfl ?_
    refine s_lloadN K d6_65 (pc' := 66) rfl rfl ?_
    refine s_lcmp K d6_66 (pc' := 67) rfl  ?_
    refine s_if K d6_67 (pn := 70) rfl (by decide) (pc' := 73) (by decide) (fun h7 => ?_) (fun h7 => ?_)
    · have g7 := own_ltY h7
      refine s_aloadN K d6_73 (pc' := 74) rfl rfl rfl ?_
      refine s_getf K d6_74 (pc' := 77) rfl (w14 hw) (k := 0) rfl (j := 0) rfl ?_
      refine s_iload K d6_77 (pc' := 79) rfl rfl ?_
      refine s_aloadN K d6_79 (pc' := 80) rfl rfl rfl ?_
      refine s_getf K d6_80 (pc' := 83) rfl (w14 hw) (k := 0) rfl (j := 0) rfl ?_
      refine s_iload K d6_83 (pc' := 85) rfl rfl ?_
      refine s_laload K d6_85 (pc' := 86) rfl (k := 1) rfl (i := 1) (by decide) rfl ?_
      refine s_lastore K d6_86 (pc' := 87) rfl (k := 1) rfl (i := 0) (by decide) (ltB rfl) (L' := ((a, oLH (.ref k) (.ref u) (.int 3)) :: (k, .inr (.long, [.long k1, .long k1, .long k2, .long t3])) :: (u, .inr (.int, [.int (own_val k0), .int (own_val k1), .int (own_val k2), .int y3])) :: F)) rfl ?_
      refine s_aloadN K d6_87 (pc' := 88) rfl rfl rfl ?_
      refine s_getf K d6_88 (pc' := 91) rfl (w17 hw) (k := 0) rfl (j := 1) rfl ?_
      refine s_iload K d6_91 (pc' := 93) rfl rfl ?_
      refine s_aloadN K d6_93 (pc' := 94) rfl rfl rfl ?_
      refine s_getf K d6_94 (pc' := 97) rfl (w17 hw) (k := 0) rfl (j := 1) rfl ?_
      refine s_iload K d6_97 (pc' := 99) rfl rfl ?_
      refine s_iaload K d6_99 (pc' := 100) rfl (k := 2) rfl (i := 1) (by decide) rfl ?_
      refine s_iastore K d6_100 (pc' := 101) rfl (k := 2) rfl (i := 0) (by decide) (ltB rfl) (L' := ((a, oLH (.ref k) (.ref u) (.int 3)) :: (k, .inr (.long, [.long k1, .long k1, .long k2, .long t3])) :: (u, .inr (.int, [.int (own_val k1), .int (own_val k1), .int (own_val k2), .int y3])) :: F)) rfl ?_
      refine s_iload K d6_101 (pc' := 103) rfl rfl ?_
      refine s_istore K d6_103 (pc' := 105) rfl (Ls' := #[.val (.ref a), .val (.long x), .second, .val (.int (own_val x)), .val (.int 1), .val (.int 1)]) rfl ?_
      refine s_goto K d6_105 (by decide) (pc' := 3) (by decide) ?_
      refine s_iconst K d6_3 (pc' := 4) rfl (z := (2 : Int32)) rfl ?_
      refine s_iload K d6_4 (pc' := 6) rfl rfl ?_
      refine s_imul K d6_6 (pc' := 7) rfl (z := (2 : Int32)) rfl ?_
      refine s_iconst K d6_7 (pc' := 8) rfl (z := (1 : Int32)) rfl ?_
      refine s_iadd K d6_8 (pc' := 9) rfl (z := (3 : Int32)) rfl ?_
      refine s_aloadN K d6_9 (pc' := 10) rfl rfl rfl ?_
      refine s_getf K d6_10 (pc' := 13) rfl (w28 hw) (k := 0) rfl (j := 2) rfl ?_
      refine s_icY K d6_13 rfl (by decide) (pc' := 108) (by decide) ?_
      refine s_aloadN K d6_108 (pc' := 109) rfl rfl rfl ?_
      refine s_getf K d6_109 (pc' := 112) rfl (w14 hw) (k := 0) rfl (j := 0) rfl ?_
      refine s_iload K d6_112 (pc' := 114) rfl rfl ?_
      refine s_lloadN K d6_114 (pc' := 115) rfl rfl ?_
      refine s_lastore K d6_115 (pc' := 116) rfl (k := 1) rfl (i := 1) (by decide) (ltB rfl) (L' := ((a, oLH (.ref k) (.ref u) (.int 3)) :: (k, .inr (.long, [.long k1, .long x, .long k2, .long t3])) :: (u, .inr (.int, [.int (own_val k1), .int (own_val k1), .int (own_val k2), .int y3])) :: F)) rfl ?_
      refine s_aloadN K d6_116 (pc' := 117) rfl rfl rfl ?_
      refine s_getf K d6_117 (pc' := 120) rfl (w17 hw) (k := 0) rfl (j := 1) rfl ?_
      refine s_iload K d6_120 (pc' := 122) rfl rfl ?_
      refine s_iloadN K d6_122 (pc' := 123) rfl rfl ?_
      refine s_iastore K d6_123 (pc' := 124) rfl (k := 2) rfl (i := 1) (by decide) (ltB rfl) (L' := ((a, oLH (.ref k) (.ref u) (.int 3)) :: (k, .inr (.long, [.long k1, .long x, .long k2, .long t3])) :: (u, .inr (.int, [.int (own_val k1), .int (own_val x), .int (own_val k2), .int y3])) :: F)) rfl ?_
      exact s_return K d6_124 (by decide) (by decide) ⟨rfl, k1, x, k2, by omega, by omega, (by first | exact List.Perm.refl _ | (rw [List.perm_iff_count]; intro z; simp only [List.count_cons, List.count_nil]; omega)), rfl⟩
    · have g7 := own_ltN h7
      refine s_goto K d6_70 (by decide) (pc' := 108) (by decide) ?_
      refine s_aloadN K d6_108 (pc' := 109) rfl rfl rfl ?_
      refine s_getf K d6_109 (pc' := 112) rfl (w14 hw) (k := 0) rfl (j := 0) rfl ?_
      refine s_iload K d6_112 (pc' := 114) rfl rfl ?_
      refine s_lloadN K d6_114 (pc' := 115) rfl rfl ?_
      refine s_lastore K d6_115 (pc' := 116) rfl (k := 1) rfl (i := 0) (by decide) (ltB rfl) (L' := ((a, oLH (.ref k) (.ref u) (.int 3)) :: (k, .inr (.long, [.long x, .long k1, .long k2, .long t3])) :: (u, .inr (.int, [.int (own_val k0), .int (own_val k1), .int (own_val k2), .int y3])) :: F)) rfl ?_
      refine s_aloadN K d6_116 (pc' := 117) rfl rfl rfl ?_
      refine s_getf K d6_117 (pc' := 120) rfl (w17 hw) (k := 0) rfl (j := 1) rfl ?_
      refine s_iload K d6_120 (pc' := 122) rfl rfl ?_
      refine s_iloadN K d6_122 (pc' := 123) rfl rfl ?_
      refine s_iastore K d6_123 (pc' := 124) rfl (k := 2) rfl (i := 0) (by decide) (ltB rfl) (L' := ((a, oLH (.ref k) (.ref u) (.int 3)) :: (k, .inr (.long, [.long x, .long k1, .long k2, .long t3])) :: (u, .inr (.int, [.int (own_val x), .int (own_val k1), .int (own_val k2), .int y3])) :: F)) rfl ?_
      exact s_return K d6_124 (by decide) (by decide) ⟨rfl, x, k1, k2, by omega, by omega, (by first | exact List.Perm.refl _ | (rw [List.perm_iff_count]; intro z; simp only [List.count_cons, List.count_nil]; omega)), rfl⟩
  · have g6 := own_geN h6
    refine s_iinc K d6_55 (pc' := 58) rfl rfl (z := (2 : Int32)) rfl (Ls' := #[.val (.ref a), .val (.long x), .second, .val (.int (own_val x)), .val (.int 0), .val (.int 2)]) rfl ?_
    refine s_aloadN K d6_58 (pc' := 59) rfl rfl rfl ?_
    refine s_getf K d6_59 (pc' := 62) rfl (w14 hw) (k := 0) rfl (j := 0) rfl ?_
    refine s_iload K d6_62 (pc' := 64) rfl rfl ?_
    refine s_laload K d6_64 (pc' := 65) rfl (k := 1) rfl (i := 2) (by decide) rfl ?_
    refine s_lloadN K d6_65 (pc' := 66) rfl rfl ?_
    refine s_lcmp K d6_66 (pc' := 67) rfl  ?_
    refine s_if K d6_67 (pn := 70) rfl (by decide) (pc' := 73) (by decide) (fun h8 => ?_) (fun h8 => ?_)
    · have g8 := own_ltY h8
      refine s_aloadN K d6_73 (pc' := 74) rfl rfl rfl ?_
      refine s_getf K d6_74 (pc' := 77) rfl (w14 hw) (k := 0) rfl (j := 0) rfl ?_
      refine s_iload K d6_77 (pc' := 79) rfl rfl ?_
      refine s_aloadN K d6_79 (pc' := 80) rfl rfl rfl ?_
      refine s_getf K d6_80 (pc' := 83) rfl (w14 hw) (k := 0) rfl (j := 0) rfl ?_
      refine s_iload K d6_83 (pc' := 85) rfl rfl ?_
      refine s_laload K d6_85 (pc' := 86) rfl (k := 1) rfl (i := 2) (by decide) rfl ?_
      refine s_lastore K d6_86 (pc' := 87) rfl (k := 1) rfl (i := 0) (by decide) (ltB rfl) (L' := ((a, oLH (.ref k) (.ref u) (.int 3)) :: (k, .inr (.long, [.long k2, .long k1, .long k2, .long t3])) :: (u, .inr (.int, [.int (own_val k0), .int (own_val k1), .int (own_val k2), .int y3])) :: F)) rfl ?_
      refine s_aloadN K d6_87 (pc' := 88) rfl rfl rfl ?_
      refine s_getf K d6_88 (pc' := 91) rfl (w17 hw) (k := 0) rfl (j := 1) rfl ?_
      refine s_iload K d6_91 (pc' := 93) rfl rfl ?_
      refine s_aloadN K d6_93 (pc' := 94) rfl rfl rfl ?_
      refine s_getf K d6_94 (pc' := 97) rfl (w17 hw) (k := 0) rfl (j := 1) rfl ?_
      refine s_iload K d6_97 (pc' := 99) rfl rfl ?_
      refine s_iaload K d6_99 (pc' := 100) rfl (k := 2) rfl (i := 2) (by decide) rfl ?_
      refine s_iastore K d6_100 (pc' := 101) rfl (k := 2) rfl (i := 0) (by decide) (ltB rfl) (L' := ((a, oLH (.ref k) (.ref u) (.int 3)) :: (k, .inr (.long, [.long k2, .long k1, .long k2, .long t3])) :: (u, .inr (.int, [.int (own_val k2), .int (own_val k1), .int (own_val k2), .int y3])) :: F)) rfl ?_
      refine s_iload K d6_101 (pc' := 103) rfl rfl ?_
      refine s_istore K d6_103 (pc' := 105) rfl (Ls' := #[.val (.ref a), .val (.long x), .second, .val (.int (own_val x)), .val (.int 2), .val (.int 2)]) rfl ?_
      refine s_goto K d6_105 (by decide) (pc' := 3) (by decide) ?_
      refine s_iconst K d6_3 (pc' := 4) rfl (z := (2 : Int32)) rfl ?_
      refine s_iload K d6_4 (pc' := 6) rfl rfl ?_
      refine s_imul K d6_6 (pc' := 7) rfl (z := (4 : Int32)) rfl ?_
      refine s_iconst K d6_7 (pc' := 8) rfl (z := (1 : Int32)) rfl ?_
      refine s_iadd K d6_8 (pc' := 9) rfl (z := (5 : Int32)) rfl ?_
      refine s_aloadN K d6_9 (pc' := 10) rfl rfl rfl ?_
      refine s_getf K d6_10 (pc' := 13) rfl (w28 hw) (k := 0) rfl (j := 2) rfl ?_
      refine s_icY K d6_13 rfl (by decide) (pc' := 108) (by decide) ?_
      refine s_aloadN K d6_108 (pc' := 109) rfl rfl rfl ?_
      refine s_getf K d6_109 (pc' := 112) rfl (w14 hw) (k := 0) rfl (j := 0) rfl ?_
      refine s_iload K d6_112 (pc' := 114) rfl rfl ?_
      refine s_lloadN K d6_114 (pc' := 115) rfl rfl ?_
      refine s_lastore K d6_115 (pc' := 116) rfl (k := 1) rfl (i := 2) (by decide) (ltB rfl) (L' := ((a, oLH (.ref k) (.ref u) (.int 3)) :: (k, .inr (.long, [.long k2, .long k1, .long x, .long t3])) :: (u, .inr (.int, [.int (own_val k2), .int (own_val k1), .int (own_val k2), .int y3])) :: F)) rfl ?_
      refine s_aloadN K d6_116 (pc' := 117) rfl rfl rfl ?_
      refine s_getf K d6_117 (pc' := 120) rfl (w17 hw) (k := 0) rfl (j := 1) rfl ?_
      refine s_iload K d6_120 (pc' := 122) rfl rfl ?_
      refine s_iloadN K d6_122 (pc' := 123) rfl rfl ?_
      refine s_iastore K d6_123 (pc' := 124) rfl (k := 2) rfl (i := 2) (by decide) (ltB rfl) (L' := ((a, oLH (.ref k) (.ref u) (.int 3)) :: (k, .inr (.long, [.long k2, .long k1, .long x, .long t3])) :: (u, .inr (.int, [.int (own_val k2), .int (own_val k1), .int (own_val x), .int y3])) :: F)) rfl ?_
      exact s_return K d6_124 (by decide) (by decide) ⟨rfl, k2, k1, x, by omega, by omega, (by first | exact List.Perm.refl _ | (rw [List.perm_iff_count]; intro z; simp only [List.count_cons, List.count_nil]; omega)), rfl⟩
    · have g8 := own_ltN h8
      refine s_goto K d6_70 (by decide) (pc' := 108) (by decide) ?_
      refine s_aloadN K d6_108 (pc' := 109) rfl rfl rfl ?_
      refine s_getf K d6_109 (pc' := 112) rfl (w14 hw) (k := 0) rfl (j := 0) rfl ?_
      refine s_iload K d6_112 (pc' := 114) rfl rfl ?_
      refine s_lloadN K d6_114 (pc' := 115) rfl rfl ?_
      refine s_lastore K d6_115 (pc' := 116) rfl (k := 1) rfl (i := 0) (by decide) (ltB rfl) (L' := ((a, oLH (.ref k) (.ref u) (.int 3)) :: (k, .inr (.long, [.long x, .long k1, .long k2, .long t3])) :: (u, .inr (.int, [.int (own_val k0), .int (own_val k1), .int (own_val k2), .int y3])) :: F)) rfl ?_
      refine s_aloadN K d6_116 (pc' := 117) rfl rfl rfl ?_
      refine s_getf K d6_117 (pc' := 120) rfl (w17 hw) (k := 0) rfl (j := 1) rfl ?_
      refine s_iload K d6_120 (pc' := 122) rfl rfl ?_
      refine s_iloadN K d6_122 (pc' := 123) rfl rfl ?_
      refine s_iastore K d6_123 (pc' := 124) rfl (k := 2) rfl (i := 0) (by decide) (ltB rfl) (L' := ((a, oLH (.ref k) (.ref u) (.int 3)) :: (k, .inr (.long, [.long x, .long k1, .long k2, .long t3])) :: (u, .inr (.int, [.int (own_val x), .int (own_val k1), .int (own_val k2), .int y3])) :: F)) rfl ?_
      exact s_return K d6_124 (by decide) (by decide) ⟨rfl, x, k1, k2, by omega, by omega, (by first | exact List.Perm.refl _ | (rw [List.perm_iff_count]; intro z; simp only [List.count_cons, List.count_nil]; omega)), rfl⟩
set_option maxRecDepth 65536 in
set_option maxHeartbeats 400000000 in
theorem c_rep4 {l : Launch} {Z : State} {a0 : Array Value} (hw : HW Z a0) {n0 : Nat} (F : Wd) (a k u : Addr) (x k0 k1 k2 k3 : Int64)  (o1 : k1.toInt ≤ k3.toInt) :
    Con l Z n0 (⟨"com/example/evenkeel/evenkeel/LongHeap", "replaceLeast", "(JI)V"⟩ : MethodName) prog_65_method_7_code 6 none ({ frames := 0, cells := 0, slots := 0, locals := 0 } : Room) [.ref a, .long x, .int (own_val x)] ((a, oLH (.ref k) (.ref u) (.int 4)) :: (k, .inr (.long, [.long k0, .long k1, .long k2, .long k3])) :: (u, .inr (.int, [.int (own_val k0), .int (own_val k1), .int (own_val k2), .int (own_val k3)])) :: F) (fun v L' => v = none ∧ ∃ m0 m1 m2 m3 : Int64, m0.toInt ≤ m1.toInt ∧ m0.toInt ≤ m2.toInt ∧ m1.toInt ≤ m3.toInt ∧ [m0, m1, m2, m3].Perm [x, k1, k2, k3] ∧ L' = ((a, oLH (.ref k) (.ref u) (.int 4)) :: (k, .inr (.long, [.long m0, .long m1, .long m2, .long m3])) :: (u, .inr (.int, [.int (own_val m0), .int (own_val m1), .int (own_val m2), .int (own_val m3)])) :: F)) := by
  refine Con.of (by decide +kernel) (Ls := #[.val (.ref a), .val (.long x), .second, .val (.int (own_val x)), .unset, .unset]) (fun m => by first | rfl | (simp [entryFrame, mkF, argsToLocals, Value.category]; done)) ?_
  intro κ K
  refine s_iconst K d6_0 (pc' := 1) rfl (z := (0 : Int32)) rfl ?_
  refine s_istore K d6_1 (pc' := 3) rfl (Ls' := #[.val (.ref a), .val (.long x), .second, .val (.int (own_val x)), .val (.int 0), .unset]) rfl ?_
  refine s_iconst K d6_3 (pc' := 4) rfl (z := (2 : Int32)) rfl ?_
  refine s_iload K d6_4 (pc' := 6) rfl rfl ?_
  refine s_imul K d6_6 (pc' := 7) rfl (z := (0 : Int32)) rfl ?_
  refine s_iconst K d6_7 (pc' := 8) rfl (z := (1 : Int32)) rfl ?_
  refine s_iadd K d6_8 (pc' := 9) rfl (z := (1 : Int32)) rfl ?_
  refine s_aloadN K d6_9 (pc' := 10) rfl rfl rfl ?_
  refine s_getf K d6_10 (pc' := 13) rfl (w28 hw) (k := 0) rfl (j := 2) rfl ?_
  refine s_icN K d6_13 (pc' := 16) rfl rfl ?_
  refine s_iconst K d6_16 (pc' := 17) rfl (z := (2 : Int32)) rfl ?_
  refine s_iload K d6_17 (pc' := 19) rfl rfl ?_
  refine s_imul K d6_19 (pc' := 20) rfl (z := (0 : Int32)) rfl ?_
  refine s_iconst K d6_20 (pc' := 21) rfl (z := (1 : Int32)) rfl ?_
  refine s_iadd K d6_21 (pc' := 22) rfl (z := (1 : Int32)) rfl ?_
  refine s_istore K d6_22 (pc' := 24) rfl (Ls' := #[.val (.ref a), .val (.long x), .second, .val (.int (own_val x)), .val (.int 0), .val (.int 1)]) rfl ?_
  refine s_iload K d6_24 (pc' := 26) rfl rfl ?_
  refine s_iconst K d6_26 (pc' := 27) rfl (z := (1 : Int32)) rfl ?_
  refine s_iadd K d6_27 (pc' := 28) rfl (z := (2 : Int32)) rfl ?_
  refine s_aloadN K d6_28 (pc' := 29) rfl rfl rfl ?_
  refine s_getf K d6_29 (pc' := 32) rfl (w28 hw) (k := 0) rfl (j := 2) rfl ?_
  refine s_icN K d6_32 (pc' := 35) rfl rfl ?_
  refine s_aloadN K d6_35 (pc' := 36) rfl rfl rfl ?_
  refine s_getf K d6_36 (pc' := 39) rfl (w14 hw) (k := 0) rfl (j := 0) rfl ?_
  refine s_iload K d6_39 (pc' := 41) rfl rfl ?_
  refine s_iconst K d6_41 (pc' := 42) rfl (z := (1 : Int32)) rfl ?_
  refine s_iadd K d6_42 (pc' := 43) rfl (z := (2 : Int32)) rfl ?_
  refine s_laload K d6_43 (pc' := 44) rfl (k := 1) rfl (i := 2) (by decide) rfl ?_
  refine s_aloadN K d6_44 (pc' := 45) rfl rfl rfl ?_
  refine s_getf K d6_45 (pc' := 48) rfl (w14 hw) (k := 0) rfl (j := 0) rfl ?_
  refine s_iload K d6_48 (pc' := 50) rfl rfl ?_
  refine s_laload K d6_50 (pc' := 51) rfl (k := 1) rfl (i := 1) (by decide) rfl ?_
  refine s_lcmp K d6_51 (pc' := 52) rfl  ?_
  refine s_if K d6_52 (pn := 55) rfl (by decide) (pc' := 58) (by decide) (fun h9 => ?_) (fun h9 => ?_)
  · have g9 := own_geY h9
    refine s_aloadN K d6_58 (pc' := 59) rfl rfl rfl ?_
    refine s_getf K d6_59 (pc' := 62) rfl (w14 hw) (k := 0) rfl (j := 0) rfl ?_
    refine s_iload K d6_62 (pc' := 64) rfl rfl ?_
    refine s_laload K d6_64 (pc' := 65) rfl (k := 1) rfl (i := 1) (by decide) rfl ?_
    refine s_lloadN K d6_65 (pc' := 66) rfl rfl ?_
    refine s_lcmp K d6_66 (pc' := 67) rfl  ?_
    refine s_if K d6_67 (pn := 70) rfl (by decide) (pc' := 73) (by decide) (fun h10 => ?_) (fun h10 => ?_)
    · have g10 := own_ltY h10
      refine s_aloadN K d6_73 (pc' := 74) rfl rfl rfl ?_
      refine s_getf K d6_74 (pc' := 77) rfl (w14 hw) (k := 0) rfl (j := 0) rfl ?_
      refine s_iload K d6_77 (pc' := 79) rfl rfl ?_
      refine s_aloadN K d6_79 (pc' := 80) rfl rfl rfl ?_
      refine s_getf K d6_80 (pc' := 83) rfl (w14 hw) (k := 0) rfl (j := 0) rfl ?_
      refine s_iload K d6_83 (pc' := 85) rfl rfl ?_
      refine s_laload K d6_85 (pc' := 86) rfl (k := 1) rfl (i := 1) (by decide) rfl ?_
      refine s_lastore K d6_86 (pc' := 87) rfl (k := 1) rfl (i := 0) (by decide) (ltB rfl) (L' := ((a, oLH (.ref k) (.ref u) (.int 4)) :: (k, .inr (.long, [.long k1, .long k1, .long k2, .long k3])) :: (u, .inr (.int, [.int (own_val k0), .int (own_val k1), .int (own_val k2), .int (own_val k3)])) :: F)) rfl ?_
      refine s_aloadN K d6_87 (pc' := 88) rfl rfl rfl ?_
      refine s_getf K d6_88 (pc' := 91) rfl (w17 hw) (k := 0) rfl (j := 1) rfl ?_
      refine s_iload K d6_91 (pc' := 93) rfl rfl ?_
      refine s_aloadN K d6_93 (pc' := 94) rfl rfl rfl ?_
      refine s_getf K d6_94 (pc' := 97) rfl (w17 hw) (k := 0) rfl (j := 1) rfl ?_
      refine s_iload K d6_97 (pc' := 99) rfl rfl ?_
      refine s_iaload K d6_99 (pc' := 100) rfl (k := 2) rfl (i := 1) (by decide) rfl ?_
      refine s_iastore K d6_100 (pc' := 101) rfl (k := 2) rfl (i := 0) (by decide) (ltB rfl) (L' := ((a, oLH (.ref k) (.ref u) (.int 4)) :: (k, .inr (.long, [.long k1, .long k1, .long k2, .long k3])) :: (u, .inr (.int, [.int (own_val k1), .int (own_val k1), .int (own_val k2), .int (own_val k3)])) :: F)) rfl ?_
      refine s_iload K d6_101 (pc' := 103) rfl rfl ?_
      refine s_istore K d6_103 (pc' := 105) rfl (Ls' := #[.val (.ref a), .val (.long x), .second, .val (.int (own_val x)), .val (.int 1), .val (.int 1)]) rfl ?_
      refine s_goto K d6_105 (by decide) (pc' := 3) (by decide) ?_
      refine s_iconst K d6_3 (pc' := 4) rfl (z := (2 : Int32)) rfl ?_
      refine s_iload K d6_4 (pc' := 6) rfl rfl ?_
      refine s_imul K d6_6 (pc' := 7) rfl (z := (2 : Int32)) rfl ?_
      refine s_iconst K d6_7 (pc' := 8) rfl (z := (1 : Int32)) rfl ?_
      refine s_iadd K d6_8 (pc' := 9) rfl (z := (3 : Int32)) rfl ?_
      refine s_aloadN K d6_9 (pc' := 10) rfl rfl rfl ?_
      refine s_getf K d6_10 (pc' := 13) rfl (w28 hw) (k := 0) rfl (j := 2) rfl ?_
      refine s_icN K d6_13 (pc' := 16) rfl rfl ?_
      refine s_iconst K d6_16 (pc' := 17) rfl (z := (2 : Int32)) rfl ?_
      refine s_iload K d6_17 (pc' := 19) rfl rfl ?_
      refine s_imul K d6_19 (pc' := 20) rfl (z := (2 : Int32)) rfl ?_
      refine s_iconst K d6_20 (pc' := 21) rfl (z := (1 : Int32)) rfl ?_
      refine s_iadd K d6_21 (pc' := 22) rfl (z := (3 : Int32)) rfl ?_
      refine s_istore K d6_22 (pc' := 24) rfl (Ls' := #[.val (.ref a), .val (.long x), .second, .val (.int (own_val x)), .val (.int 1), .val (.int 3)]) rfl ?_
      refine s_iload K d6_24 (pc' := 26) rfl rfl ?_
      refine s_iconst K d6_26 (pc' := 27) rfl (z := (1 : Int32)) rfl ?_
      refine s_iadd K d6_27 (pc' := 28) rfl (z := (4 : Int32)) rfl ?_
      refine s_aloadN K d6_28 (pc' := 29) rfl rfl rfl ?_
      refine s_getf K d6_29 (pc' := 32) rfl (w28 hw) (k := 0) rfl (j := 2) rfl ?_
      refine s_icY K d6_32 rfl (by decide) (pc' := 58) (by decide) ?_
      refine s_aloadN K d6_58 (pc' := 59) rfl rfl rfl ?_
      refine s_getf K d6_59 (pc' := 62) rfl (w14 hw) (k := 0) rfl (j := 0) rfl ?_
      refine s_iload K d6_62 (pc' := 64) rfl rfl ?_
      refine s_laload K d6_64 (pc' := 65) rfl (k := 1) rfl (i := 3) (by decide) rfl ?_
      refine s_lloadN K d6_65 (pc' := 66) rfl rfl ?_
      refine s_lcmp K d6_66 (pc' := 67) rfl  ?_
      refine s_if K d6_67 (pn := 70) rfl (by decide) (pc' := 73) (by decide) (fun h11 => ?_) (fun h11 => ?_)
      · have g11 := own_ltY h11
        refine s_aloadN K d6_73 (pc' := 74) rfl rfl rfl ?_
        refine s_getf K d6_74 (pc' := 77) rfl (w14 hw) (k := 0) rfl (j := 0) rfl ?_
        refine s_iload K d6_77 (pc' := 79) rfl rfl ?_
        refine s_aloadN K d6_79 (pc' := 80) rfl rfl rfl ?_
        refine s_getf K d6_80 (pc' := 83) rfl (w14 hw) (k := 0) rfl (j := 0) rfl ?_
        refine s_iload K d6_83 (pc' := 85) rfl rfl ?_
        refine s_laload K d6_85 (pc' := 86) rfl (k := 1) rfl (i := 3) (by decide) rfl ?_
        refine s_lastore K d6_86 (pc' := 87) rfl (k := 1) rfl (i := 1) (by decide) (ltB rfl) (L' := ((a, oLH (.ref k) (.ref u) (.int 4)) :: (k, .inr (.long, [.long k1, .long k3, .long k2, .long k3])) :: (u, .inr (.int, [.int (own_val k1), .int (own_val k1), .int (own_val k2), .int (own_val k3)])) :: F)) rfl ?_
        refine s_aloadN K d6_87 (pc' := 88) rfl rfl rfl ?_
        refine s_getf K d6_88 (pc' := 91) rfl (w17 hw) (k := 0) rfl (j := 1) rfl ?_
        refine s_iload K d6_91 (pc' := 93) rfl rfl ?_
        refine s_aloadN K d6_93 (pc' := 94) rfl rfl rfl ?_
        refine s_getf K d6_94 (pc' := 97) rfl (w17 hw) (k := 0) rfl (j := 1) rfl ?_
        refine s_iload K d6_97 (pc' := 99) rfl rfl ?_
        refine s_iaload K d6_99 (pc' := 100) rfl (k := 2) rfl (i := 3) (by decide) rfl ?_
        refine s_iastore K d6_100 (pc' := 101) rfl (k := 2) rfl (i := 1) (by decide) (ltB rfl) (L' := ((a, oLH (.ref k) (.ref u) (.int 4)) :: (k, .inr (.long, [.long k1, .long k3, .long k2, .long k3])) :: (u, .inr (.int, [.int (own_val k1), .int (own_val k3), .int (own_val k2), .int (own_val k3)])) :: F)) rfl ?_
        refine s_iload K d6_101 (pc' := 103) rfl rfl ?_
        refine s_istore K d6_103 (pc' := 105) rfl (Ls' := #[.val (.ref a), .val (.long x), .second, .val (.int (own_val x)), .val (.int 3), .val (.int 3)]) rfl ?_
        refine s_goto K d6_105 (by decide) (pc' := 3) (by decide) ?_
        refine s_iconst K d6_3 (pc' := 4) rfl (z := (2 : Int32)) rfl ?_
        refine s_iload K d6_4 (pc' := 6) rfl rfl ?_
        refine s_imul K d6_6 (pc' := 7) rfl (z := (6 : Int32)) rfl ?_
        refine s_iconst K d6_7 (pc' := 8) rfl (z := (1 : Int32)) rfl ?_
        refine s_iadd K d6_8 (pc' := 9) rfl (z := (7 : Int32)) rfl ?_
        refine s_aloadN K d6_9 (pc' := 10) rfl rfl rfl ?_
        refine s_getf K d6_10 (pc' := 13) rfl (w28 hw) (k := 0) rfl (j := 2) rfl ?_
        refine s_icY K d6_13 rfl (by decide) (pc' := 108) (by decide) ?_
        refine s_aloadN K d6_108 (pc' := 109) rfl rfl rfl ?_
        refine s_getf K d6_109 (pc' := 112) rfl (w14 hw) (k := 0) rfl (j := 0) rfl ?_
        refine s_iload K d6_112 (pc' := 114) rfl rfl ?_
        refine s_lloadN K d6_114 (pc' := 115) rfl rfl ?_
        refine s_lastore K d6_115 (pc' := 116) rfl (k := 1) rfl (i := 3) (by decide) (ltB rfl) (L' := ((a, oLH (.ref k) (.ref u) (.int 4)) :: (k, .inr (.long, [.long k1, .long k3, .long k2, .long x])) :: (u, .inr (.int, [.int (own_val k1), .int (own_val k3), .int (own_val k2), .int (own_val k3)])) :: F)) rfl ?_
        refine s_aloadN K d6_116 (pc' := 117) rfl rfl rfl ?_
        refine s_getf K d6_117 (pc' := 120) rfl (w17 hw) (k := 0) rfl (j := 1) rfl ?_
        refine s_iload K d6_120 (pc' := 122) rfl rfl ?_
        refine s_iloadN K d6_122 (pc' := 123) rfl rfl ?_
        refine s_iastore K d6_123 (pc' := 124) rfl (k := 2) rfl (i := 3) (by decide) (ltB rfl) (L' := ((a, oLH (.ref k) (.ref u) (.int 4)) :: (k, .inr (.long, [.long k1, .long k3, .long k2, .long x])) :: (u, .inr (.int, [.int (own_val k1), .int (own_val k3), .int (own_val k2), .int (own_val x)])) :: F)) rfl ?_
        exact s_return K d6_124 (by decide) (by decide) ⟨rfl, k1, k3, k2, x, by omega, by omega, by omega, (by first | exact List.Perm.refl _ | (rw [List.perm_iff_count]; intro z; simp only [List.count_cons, List.count_nil]; omega)), rfl⟩
      · have g11 := own_ltN h11
        refine s_goto K d6_70 (by decide) (pc' := 108) (by decide) ?_
        refine s_aloadN K d6_108 (pc' := 109) rfl rfl rfl ?_
        refine s_getf K d6_109 (pc' := 112) rfl (w14 hw) (k := 0) rfl (j := 0) rfl ?_
        refine s_iload K d6_112 (pc' := 114) rfl rfl ?_
        refine s_lloadN K d6_114 (pc' := 115) rfl rfl ?_
        refine s_lastore K d6_115 (pc' := 116) rfl (k := 1) rfl (i := 1) (by decide) (ltB rfl) (L' := ((a, oLH (.ref k) (.ref u) (.int 4)) :: (k, .inr (.long, [.long k1, .long x, .long k2, .long k3])) :: (u, .inr (.int, [.int (own_val k1), .int (own_val k1), .int (own_val k2), .int (own_val k3)])) :: F)) rfl ?_
        refine s_aloadN K d6_116 (pc' := 117) rfl rfl rfl ?_
        refine s_getf K d6_117 (pc' := 120) rfl (w17 hw) (k := 0) rfl (j := 1) rfl ?_
        refine s_iload K d6_120 (pc' := 122) rfl rfl ?_
        refine s_iloadN K d6_122 (pc' := 123) rfl rfl ?_
        refine s_iastore K d6_123 (pc' := 124) rfl (k := 2) rfl (i := 1) (by decide) (ltB rfl) (L' := ((a, oLH (.ref k) (.ref u) (.int 4)) :: (k, .inr (.long, [.long k1, .long x, .long k2, .long k3])) :: (u, .inr (.int, [.int (own_val k1), .int (own_val x), .int (own_val k2), .int (own_val k3)])) :: F)) rfl ?_
        exact s_return K d6_124 (by decide) (by decide) ⟨rfl, k1, x, k2, k3, by omega, by omega, by omega, (by first | exact List.Perm.refl _ | (rw [List.perm_iff_count]; intro z; simp only [List.count_cons, List.count_nil]; omega)), rfl⟩
    · have g10 := own_ltN h10
      refine s_goto K d6_70 (by decide) (pc' := 108) (by decide) ?_
      refine s_aloadN K d6_108 (pc' := 109) rfl rfl rfl ?_
      refine s_getf K d6_109 (pc' := 112) rfl (w14 hw) (k := 0) rfl (j := 0) rfl ?_
      refine s_iload K d6_112 (pc' := 114) rfl rfl ?_
      refine s_lloadN K d6_114 (pc' := 115) rfl rfl ?_
      refine s_lastore K d6_115 (pc' := 116) rfl (k := 1) rfl (i := 0) (by decide) (ltB rfl) (L' := ((a, oLH (.ref k) (.ref u) (.int 4)) :: (k, .inr (.long, [.long x, .long k1, .long k2, .long k3])) :: (u, .inr (.int, [.int (own_val k0), .int (own_val k1), .int (own_val k2), .int (own_val k3)])) :: F)) rfl ?_
      refine s_aloadN K d6_116 (pc' := 117) rfl rfl rfl ?_
      refine s_getf K d6_117 (pc' := 120) rfl (w17 hw) (k := 0) rfl (j := 1) rfl ?_
      refine s_iload K d6_120 (pc' := 122) rfl rfl ?_
      refine s_iloadN K d6_122 (pc' := 123) rfl rfl ?_
      refine s_iastore K d6_123 (pc' := 124) rfl (k := 2) rfl (i := 0) (by decide) (ltB rfl) (L' := ((a, oLH (.ref k) (.ref u) (.int 4)) :: (k, .inr (.long, [.long x, .long k1, .long k2, .long k3])) :: (u, .inr (.int, [.int (own_val x), .int (own_val k1), .int (own_val k2), .int (own_val k3)])) :: F)) rfl ?_
      exact s_return K d6_124 (by decide) (by decide) ⟨rfl, x, k1, k2, k3, by omega, by omega, by omega, (by first | exact List.Perm.refl _ | (rw [List.perm_iff_count]; intro z; simp only [List.count_cons, List.count_nil]; omega)), rfl⟩
  · have g9 := own_geN h9
    refine s_iinc K d6_55 (pc' := 58) rfl rfl (z := (2 : Int32)) rfl (Ls' := #[.val (.ref a), .val (.long x), .second, .val (.int (own_val x)), .val (.int 0), .val (.int 2)]) rfl ?_
    refine s_aloadN K d6_58 (pc' := 59) rfl rfl rfl ?_
    refine s_getf K d6_59 (pc' := 62) rfl (w14 hw) (k := 0) rfl (j := 0) rfl ?_
    refine s_iload K d6_62 (pc' := 64) rfl rfl ?_
    refine s_laload K d6_64 (pc' := 65) rfl (k := 1) rfl (i := 2) (by decide) rfl ?_
    refine s_lloadN K d6_65 (pc' := 66) rfl rfl ?_
    refine s_lcmp K d6_66 (pc' := 67) rfl  ?_
    refine s_if K d6_67 (pn := 70) rfl (by decide) (pc' := 73) (by decide) (fun h12 => ?_) (fun h12 => ?_)
    · have g12 := own_ltY h12
      refine s_aloadN K d6_73 (pc' := 74) rfl rfl rfl ?_
      refine s_getf K d6_74 (pc' := 77) rfl (w14 hw) (k := 0) rfl (j := 0) rfl ?_
      refine s_iload K d6_77 (pc' := 79) rfl rfl ?_
      refine s_aloadN K d6_79 (pc' := 80) rfl rfl rfl ?_
      refine s_getf K d6_80 (pc' := 83) rfl (w14 hw) (k := 0) rfl (j := 0) rfl ?_
      refine s_iload K d6_83 (pc' := 85) rfl rfl ?_
      refine s_laload K d6_85 (pc' := 86) rfl (k := 1) rfl (i := 2) (by decide) rfl ?_
      refine s_lastore K d6_86 (pc' := 87) rfl (k := 1) rfl (i := 0) (by decide) (ltB rfl) (L' := ((a, oLH (.ref k) (.ref u) (.int 4)) :: (k, .inr (.long, [.long k2, .long k1, .long k2, .long k3])) :: (u, .inr (.int, [.int (own_val k0), .int (own_val k1), .int (own_val k2), .int (own_val k3)])) :: F)) rfl ?_
      refine s_aloadN K d6_87 (pc' := 88) rfl rfl rfl ?_
      refine s_getf K d6_88 (pc' := 91) rfl (w17 hw) (k := 0) rfl (j := 1) rfl ?_
      refine s_iload K d6_91 (pc' := 93) rfl rfl ?_
      refine s_aloadN K d6_93 (pc' := 94) rfl rfl rfl ?_
      refine s_getf K d6_94 (pc' := 97) rfl (w17 hw) (k := 0) rfl (j := 1) rfl ?_
      refine s_iload K d6_97 (pc' := 99) rfl rfl ?_
      refine s_iaload K d6_99 (pc' := 100) rfl (k := 2) rfl (i := 2) (by decide) rfl ?_
      refine s_iastore K d6_100 (pc' := 101) rfl (k := 2) rfl (i := 0) (by decide) (ltB rfl) (L' := ((a, oLH (.ref k) (.ref u) (.int 4)) :: (k, .inr (.long, [.long k2, .long k1, .long k2, .long k3])) :: (u, .inr (.int, [.int (own_val k2), .int (own_val k1), .int (own_val k2), .int (own_val k3)])) :: F)) rfl ?_
      refine s_iload K d6_101 (pc' := 103) rfl rfl ?_
      refine s_istore K d6_103 (pc' := 105) rfl (Ls' := #[.val (.ref a), .val (.long x), .second, .val (.int (own_val x)), .val (.int 2), .val (.int 2)]) rfl ?_
      refine s_goto K d6_105 (by decide) (pc' := 3) (by decide) ?_
      refine s_iconst K d6_3 (pc' := 4) rfl (z := (2 : Int32)) rfl ?_
      refine s_iload K d6_4 (pc' := 6) rfl rfl ?_
      refine s_imul K d6_6 (pc' := 7) rfl (z := (4 : Int32)) rfl ?_
      refine s_iconst K d6_7 (pc' := 8) rfl (z := (1 : Int32)) rfl ?_
      refine s_iadd K d6_8 (pc' := 9) rfl (z := (5 : Int32)) rfl ?_
      refine s_aloadN K d6_9 (pc' := 10) rfl rfl rfl ?_
      refine s_getf K d6_10 (pc' := 13) rfl (w28 hw) (k := 0) rfl (j := 2) rfl ?_
      refine s_icY K d6_13 rfl (by decide) (pc' := 108) (by decide) ?_
      refine s_aloadN K d6_108 (pc' := 109) rfl rfl rfl ?_
      refine s_getf K d6_109 (pc' := 112) rfl (w14 hw) (k := 0) rfl (j := 0) rfl ?_
      refine s_iload K d6_112 (pc' := 114) rfl rfl ?_
      refine s_lloadN K d6_114 (pc' := 115) rfl rfl ?_
      refine s_lastore K d6_115 (pc' := 116) rfl (k := 1) rfl (i := 2) (by decide) (ltB rfl) (L' := ((a, oLH (.ref k) (.ref u) (.int 4)) :: (k, .inr (.long, [.long k2, .long k1, .long x, .long k3])) :: (u, .inr (.int, [.int (own_val k2), .int (own_val k1), .int (own_val k2), .int (own_val k3)])) :: F)) rfl ?_
      refine s_aloadN K d6_116 (pc' := 117) rfl rfl rfl ?_
      refine s_getf K d6_117 (pc' := 120) rfl (w17 hw) (k := 0) rfl (j := 1) rfl ?_
      refine s_iload K d6_120 (pc' := 122) rfl rfl ?_
      refine s_iloadN K d6_122 (pc' := 123) rfl rfl ?_
      refine s_iastore K d6_123 (pc' := 124) rfl (k := 2) rfl (i := 2) (by decide) (ltB rfl) (L' := ((a, oLH (.ref k) (.ref u) (.int 4)) :: (k, .inr (.long, [.long k2, .long k1, .long x, .long k3])) :: (u, .inr (.int, [.int (own_val k2), .int (own_val k1), .int (own_val x), .int (own_val k3)])) :: F)) rfl ?_
      exact s_return K d6_124 (by decide) (by decide) ⟨rfl, k2, k1, x, k3, by omega, by omega, by omega, (by first | exact List.Perm.refl _ | (rw [List.perm_iff_count]; intro z; simp only [List.count_cons, List.count_nil]; omega)), rfl⟩
    · have g12 := own_ltN h12
      refine s_goto K d6_70 (by decide) (pc' := 108) (by decide) ?_
      refine s_aloadN K d6_108 (pc' := 109) rfl rfl rfl ?_
      refine s_getf K d6_109 (pc' := 112) rfl (w14 hw) (k := 0) rfl (j := 0) rfl ?_
      refine s_iload K d6_112 (pc' := 114) rfl rfl ?_
      refine s_lloadN K d6_114 (pc' := 115) rfl rfl ?_
      refine s_lastore K d6_115 (pc' := 116) rfl (k := 1) rfl (i := 0) (by decide) (ltB rfl) (L' := ((a, oLH (.ref k) (.ref u) (.int 4)) :: (k, .inr (.long, [.long x, .long k1, .long k2, .long k3])) :: (u, .inr (.int, [.int (own_val k0), .int (own_val k1), .int (own_val k2), .int (own_val k3)])) :: F)) rfl ?_
      refine s_aloadN K d6_116 (pc' := 117) rfl rfl rfl ?_
      refine s_getf K d6_117 (pc' := 120) rfl (w17 hw) (k := 0) rfl (j := 1) rfl ?_
      refine s_iload K d6_120 (pc' := 122) rfl rfl ?_
      refine s_iloadN K d6_122 (pc' := 123) rfl rfl ?_
      refine s_iastore K d6_123 (pc' := 124) rfl (k := 2) rfl (i := 0) (by decide) (ltB rfl) (L' := ((a, oLH (.ref k) (.ref u) (.int 4)) :: (k, .inr (.long, [.long x, .long k1, .long k2, .long k3])) :: (u, .inr (.int, [.int (own_val x), .int (own_val k1), .int (own_val k2), .int (own_val k3)])) :: F)) rfl ?_
      exact s_return K d6_124 (by decide) (by decide) ⟨rfl, x, k1, k2, k3, by omega, by omega, by omega, (by first | exact List.Perm.refl _ | (rw [List.perm_iff_count]; intro z; simp only [List.count_cons, List.count_nil]; omega)), rfl⟩
set_option maxRecDepth 65536 in
set_option maxHeartbeats 400000000 in
theorem c_rem4 {l : Launch} {Z : State} {a0 : Array Value} (hw : HW Z a0) {n0 : Nat} (F : Wd) (a k u : Addr) (k0 k1 k2 k3 : Int64)  :
    Con l Z n0 (⟨"com/example/evenkeel/evenkeel/LongHeap", "removeLeast", "()V"⟩ : MethodName) prog_65_method_6_code 1 none ({ frames := 1, cells := 0, slots := 0, locals := 17 } : Room) [.ref a] ((a, oLH (.ref k) (.ref u) (.int 4)) :: (k, .inr (.long, [.long k0, .long k1, .long k2, .long k3])) :: (u, .inr (.int, [.int (own_val k0), .int (own_val k1), .int (own_val k2), .int (own_val k3)])) :: F) (fun v L' => v = none ∧ ∃ m0 m1 m2 : Int64, m0.toInt ≤ m1.toInt ∧ m0.toInt ≤ m2.toInt ∧ [m0, m1, m2].Perm [k3, k1, k2] ∧ L' = ((a, oLH (.ref k) (.ref u) (.int 3)) :: (k, .inr (.long, [.long m0, .long m1, .long m2, .long k3])) :: (u, .inr (.int, [.int (own_val m0), .int (own_val m1), .int (own_val m2), .int (own_val k3)])) :: F)) := by
  refine Con.of (by decide +kernel) (Ls := #[.val (.ref a)]) (fun m => by first | rfl | (simp [entryFrame, mkF, argsToLocals, Value.category]; done)) ?_
  intro κ K
  refine s_aloadN K d12_0 (pc' := 1) rfl rfl rfl ?_
  refine s_dup K d12_1 (pc' := 2) rfl rfl ?_
  refine s_getf K d12_2 (pc' := 5) rfl (w28 hw) (k := 0) rfl (j := 2) rfl ?_
  refine s_iconst K d12_5 (pc' := 6) rfl (z := (1 : Int32)) rfl ?_
  refine s_isub K d12_6 (pc' := 7) rfl (z := (3 : Int32)) rfl ?_
  refine s_putf K d12_7 (pc' := 10) rfl (w28 hw) (Or.inl (w29 hw)) (w1 hw) (ty := .int) (by decide) rfl rfl (k := 0) rfl (j := 2) rfl (L' := ((a, oLH (.ref k) (.ref u) (.int 3)) :: (k, .inr (.long, [.long k0, .long k1, .long k2, .long k3])) :: (u, .inr (.int, [.int (own_val k0), .int (own_val k1), .int (own_val k2), .int (own_val k3)])) :: F)) rfl ?_
  refine s_aloadN K d12_10 (pc' := 11) rfl rfl rfl ?_
  refine s_getf K d12_11 (pc' := 14) rfl (w28 hw) (k := 0) rfl (j := 2) rfl ?_
  refine s_ifN K d12_14 (pc' := 17) rfl rfl ?_
  refine s_aloadN K d12_17 (pc' := 18) rfl rfl rfl ?_
  refine s_aloadN K d12_18 (pc' := 19) rfl rfl rfl ?_
  refine s_getf K d12_19 (pc' := 22) rfl (w14 hw) (k := 0) rfl (j := 0) rfl ?_
  refine s_aloadN K d12_22 (pc' := 23) rfl rfl rfl ?_
  refine s_getf K d12_23 (pc' := 26) rfl (w28 hw) (k := 0) rfl (j := 2) rfl ?_
  refine s_laload K d12_26 (pc' := 27) rfl (k := 1) rfl (i := 3) (by decide) rfl ?_
  refine s_aloadN K d12_27 (pc' := 28) rfl rfl rfl ?_
  refine s_getf K d12_28 (pc' := 31) rfl (w17 hw) (k := 0) rfl (j := 1) rfl ?_
  refine s_aloadN K d12_31 (pc' := 32) rfl rfl rfl ?_
  refine s_getf K d12_32 (pc' := 35) rfl (w28 hw) (k := 0) rfl (j := 2) rfl ?_
  refine s_iaload K d12_35 (pc' := 36) rfl (k := 2) rfl (i := 3) (by decide) rfl ?_
  refine s_virtual K d12_36 (pc' := 39) rfl (k := 0) (a := a) rfl (as := [.long k3, .int (own_val k3)]) (c_rep3 hw F a k u k3 k0 k1 k2 k3 (own_val k3) ) (w61 hw) (w31 hw) (w33 hw) (w32 hw) (w2 hw) (w34 hw) (by decide) pd_1 rfl (rest := []) rfl rfl (W := 0) (Nat.le_of_eq rfl) (by decide) (by decide) (ce' := 0) rfl (sl' := 0) rfl (by decide) (by decide) ?_
  rintro v _ ⟨rfl, m0, m1, m2, o0, o1, hp, rfl⟩
  show Go l Z n0 _ _ κ 0 0 ((a, oLH (.ref k) (.ref u) (.int 3)) :: (k, .inr (.long, [.long m0, .long m1, .long m2, .long k3])) :: (u, .inr (.int, [.int (own_val m0), .int (own_val m1), .int (own_val m2), .int (own_val k3)])) :: F) 39 #[.val (.ref a)] []
  exact s_return K d12_39 (by decide) (by decide) ⟨rfl, m0, m1, m2, o0, o1, hp, rfl⟩
set_option maxRecDepth 65536 in
set_option maxHeartbeats 400000000 in
theorem c_rem3 {l : Launch} {Z : State} {a0 : Array Value} (hw : HW Z a0) {n0 : Nat} (F : Wd) (a k u : Addr) (k0 k1 k2 t3 : Int64) (y3 : Int32) :
    Con l Z n0 (⟨"com/example/evenkeel/evenkeel/LongHeap", "removeLeast", "()V"⟩ : MethodName) prog_65_method_6_code 1 none ({ frames := 1, cells := 0, slots := 0, locals := 17 } : Room) [.ref a] ((a, oLH (.ref k) (.ref u) (.int 3)) :: (k, .inr (.long, [.long k0, .long k1, .long k2, .long t3])) :: (u, .inr (.int, [.int (own_val k0), .int (own_val k1), .int (own_val k2), .int y3])) :: F) (fun v L' => v = none ∧ ∃ m0 m1 : Int64, m0.toInt ≤ m1.toInt ∧ [m0, m1].Perm [k2, k1] ∧ L' = ((a, oLH (.ref k) (.ref u) (.int 2)) :: (k, .inr (.long, [.long m0, .long m1, .long k2, .long t3])) :: (u, .inr (.int, [.int (own_val m0), .int (own_val m1), .int (own_val k2), .int y3])) :: F)) := by
  refine Con.of (by decide +kernel) (Ls := #[.val (.ref a)]) (fun m => by first | rfl | (simp [entryFrame, mkF, argsToLocals, Value.category]; done)) ?_
  intro κ K
  refine s_aloadN K d12_0 (pc' := 1) rfl rfl rfl ?_
  refine s_dup K d12_1 (pc' := 2) rfl rfl ?_
  refine s_getf K d12_2 (pc' := 5) rfl (w28 hw) (k := 0) rfl (j := 2) rfl ?_
  refine s_iconst K d12_5 (pc' := 6) rfl (z := (1 : Int32)) rfl ?_
  refine s_isub K d12_6 (pc' := 7) rfl (z := (2 : Int32)) rfl ?_
  refine s_putf K d12_7 (pc' := 10) rfl (w28 hw) (Or.inl (w29 hw)) (w1 hw) (ty := .int) (by decide) rfl rfl (k := 0) rfl (j := 2) rfl (L' := ((a, oLH (.ref k) (.ref u) (.int 2)) :: (k, .inr (.long, [.long k0, .long k1, .long k2, .long t3])) :: (u, .inr (.int, [.int (own_val k0), .int (own_val k1), .int (own_val k2), .int y3])) :: F)) rfl ?_
  refine s_aloadN K d12_10 (pc' := 11) rfl rfl rfl ?_
  refine s_getf K d12_11 (pc' := 14) rfl (w28 hw) (k := 0) rfl (j := 2) rfl ?_
  refine s_ifN K d12_14 (pc' := 17) rfl rfl ?_
  refine s_aloadN K d12_17 (pc' := 18) rfl rfl rfl ?_
  refine s_aloadN K d12_18 (pc' := 19) rfl rfl rfl ?_
  refine s_getf K d12_19 (pc' := 22) rfl (w14 hw) (k := 0) rfl (j := 0) rfl ?_
  refine s_aloadN K d12_22 (pc' := 23) rfl rfl rfl ?_
  refine s_getf K d12_23 (pc' := 26) rfl (w28 hw) (k := 0) rfl (j := 2) rfl ?_
  refine s_laload K d12_26 (pc' := 27) rfl (k := 1) rfl (i := 2) (by decide) rfl ?_
  refine s_aloadN K d12_27 (pc' := 28) rfl rfl rfl ?_
  refine s_getf K d12_28 (pc' := 31) rfl (w17 hw) (k := 0) rfl (j := 1) rfl ?_
  refine s_aloadN K d12_31 (pc' := 32) rfl rfl rfl ?_
  refine s_getf K d12_32 (pc' := 35) rfl (w28 hw) (k := 0) rfl (j := 2) rfl ?_
  refine s_iaload K d12_35 (pc' := 36) rfl (k := 2) rfl (i := 2) (by decide) rfl ?_
  refine s_virtual K d12_36 (pc' := 39) rfl (k := 0) (a := a) rfl (as := [.long k2, .int (own_val k2)]) (c_rep2 hw F a k u k2 k0 k1 k2 t3 (own_val k2) y3) (w61 hw) (w31 hw) (w33 hw) (w32 hw) (w2 hw) (w34 hw) (by decide) pd_1 rfl (rest := []) rfl rfl (W := 0) (Nat.le_of_eq rfl) (by decide) (by decide) (ce' := 0) rfl (sl' := 0) rfl (by decide) (by decide) ?_
  rintro v _ ⟨rfl, m0, m1, o0, hp, rfl⟩
  show Go l Z n0 _ _ κ 0 0 ((a, oLH (.ref k) (.ref u) (.int 2)) :: (k, .inr (.long, [.long m0, .long m1, .long k2, .long t3])) :: (u, .inr (.int, [.int (own_val m0), .int (own_val m1), .int (own_val k2), .int y3])) :: F) 39 #[.val (.ref a)] []
  exact s_return K d12_39 (by decide) (by decide) ⟨rfl, m0, m1, o0, hp, rfl⟩
set_option maxRecDepth 65536 in
set_option maxHeartbeats 400000000 in
theorem c_rem2 {l : Launch} {Z : State} {a0 : Array Value} (hw : HW Z a0) {n0 : Nat} (F : Wd) (a k u : Addr) (k0 k1 t2 t3 : Int64) (y2 y3 : Int32) :
    Con l Z n0 (⟨"com/example/evenkeel/evenkeel/LongHeap", "removeLeast", "()V"⟩ : MethodName) prog_65_method_6_code 1 none ({ frames := 1, cells := 0, slots := 0, locals := 17 } : Room) [.ref a] ((a, oLH (.ref k) (.ref u) (.int 2)) :: (k, .inr (.long, [.long k0, .long k1, .long t2, .long t3])) :: (u, .inr (.int, [.int (own_val k0), .int (own_val k1), .int y2, .int y3])) :: F) (fun v L' => v = none ∧ ∃ m0 : Int64, [m0].Perm [k1] ∧ L' = ((a, oLH (.ref k) (.ref u) (.int 1)) :: (k, .inr (.long, [.long m0, .long k1, .long t2, .long t3])) :: (u, .inr (.int, [.int (own_val m0), .int (own_val k1), .int y2, .int y3])) :: F)) := by
  refine Con.of (by decide +kernel) (Ls := #[.val (.ref a)]) (fun m => by first | rfl | (simp [entryFrame, mkF, argsToLocals, Value.category]; done)) ?_
  intro κ K
  refine s_aloadN K d12_0 (pc' := 1) rfl rfl rfl ?_
  refine s_dup K d12_1 (pc' := 2) rfl rfl ?_
  refine s_getf K d12_2 (pc' := 5) rfl (w28 hw) (k := 0) rfl (j := 2) rfl ?_
  refine s_iconst K d12_5 (pc' := 6) rfl (z := (1 : Int32)) rfl ?_
  refine s_isub K d12_6 (pc' := 7) rfl (z := (1 : Int32)) rfl ?_
  refine s_putf K d12_7 (pc' := 10) rfl (w28 hw) (Or.inl (w29 hw)) (w1 hw) (ty := .int) (by decide) rfl rfl (k := 0) rfl (j := 2) rfl (L' := ((a, oLH (.ref k) (.ref u) (.int 1)) :: (k, .inr (.long, [.long k0, .long k1, .long t2, .long t3])) :: (u, .inr (.int, [.int (own_val k0), .int (own_val k1), .int y2, .int y3])) :: F)) rfl ?_
  refine s_aloadN K d12_10 (pc' := 11) rfl rfl rfl ?_
  refine s_getf K d12_11 (pc' := 14) rfl (w28 hw) (k := 0) rfl (j := 2) rfl ?_
  refine s_ifN K d12_14 (pc' := 17) rfl rfl ?_
  refine s_aloadN K d12_17 (pc' := 18) rfl rfl rfl ?_
  refine s_aloadN K d12_18 (pc' := 19) rfl rfl rfl ?_
  refine s_getf K d12_19 (pc' := 22) rfl (w14 hw) (k := 0) rfl (j := 0) rfl ?_
  refine s_aloadN K d12_22 (pc' := 23) rfl rfl rfl ?_
  refine s_getf K d12_23 (pc' := 26) rfl (w28 hw) (k := 0) rfl (j := 2) rfl ?_
  refine s_laload K d12_26 (pc' := 27) rfl (k := 1) rfl (i := 1) (by decide) rfl ?_
  refine s_aloadN K d12_27 (pc' := 28) rfl rfl rfl ?_
  refine s_getf K d12_28 (pc' := 31) rfl (w17 hw) (k := 0) rfl (j := 1) rfl ?_
  refine s_aloadN K d12_31 (pc' := 32) rfl rfl rfl ?_
  refine s_getf K d12_32 (pc' := 35) rfl (w28 hw) (k := 0) rfl (j := 2) rfl ?_
  refine s_iaload K d12_35 (pc' := 36) rfl (k := 2) rfl (i := 1) (by decide) rfl ?_
  refine s_virtual K d12_36 (pc' := 39) rfl (k := 0) (a := a) rfl (as := [.long k1, .int (own_val k1)]) (c_rep1 hw F a k u k1 k0 k1 t2 t3 (own_val k1) y2 y3) (w61 hw) (w31 hw) (w33 hw) (w32 hw) (w2 hw) (w34 hw) (by decide) pd_1 rfl (rest := []) rfl rfl (W := 0) (Nat.le_of_eq rfl) (by decide) (by decide) (ce' := 0) rfl (sl' := 0) rfl (by decide) (by decide) ?_
  rintro v _ ⟨rfl, m0, hp, rfl⟩
  show Go l Z n0 _ _ κ 0 0 ((a, oLH (.ref k) (.ref u) (.int 1)) :: (k, .inr (.long, [.long m0, .long k1, .long t2, .long t3])) :: (u, .inr (.int, [.int (own_val m0), .int (own_val k1), .int y2, .int y3])) :: F) 39 #[.val (.ref a)] []
  exact s_return K d12_39 (by decide) (by decide) ⟨rfl, m0, hp, rfl⟩
set_option maxRecDepth 65536 in
set_option maxHeartbeats 400000000 in
theorem go_law {l : Launch} {Z : State} {a0 : Array Value} (hw : HW Z a0) {n0 : Nat} (p0 : Int64) (p1 : Int64) (p2 : Int64) (p3 : Int64) (p4 : Int64) (κ : Ctx) (K : Ok Z κ x.cls code maxLocals ret x.name) :
    Go l Z n0 room_1 (fun v _ => v = some (.int 1)) κ 0 0 [] 0 #[.val (.long p0), .second, .val (.long p1), .second, .val (.long p2), .second, .val (.long p3), .second, .val (.long p4), .second, .unset, .unset, .unset, .unset, .unset, .unset, .unset, .unset, .unset, .unset, .unset, .unset, .unset, .unset, .unset, .unset, .unset, .unset, .unset, .unset, .unset, .unset, .unset, .unset, .unset, .unset, .unset, .unset, .unset, .unset] [] := by
  refine s_new K at_0 (pc' := 3) rfl (w0 hw) (w1 hw) (w2 hw) (ly_oLH hw) nd_oLH (gs := [("com/example/evenkeel/evenkeel/LongHeap", "keys", "[J", .null), ("com/example/evenkeel/evenkeel/LongHeap", "values", "[I", .null), ("com/example/evenkeel/evenkeel/LongHeap", "size", "I", .int 0)]) rfl (ce' := 1) rfl (sl' := 3) rfl (by decide) (by decide) ?_
  intro b1
  refine s_dup K at_3 (pc' := 4) rfl rfl ?_
  refine s_iconst K at_4 (pc' := 5) rfl (z := (4 : Int32)) rfl ?_
  refine s_special K at_5 (pc' := 8) rfl rfl (a := b1) (as := [.int 4]) (c_init hw [] b1) (w3 hw) (w4 hw) (w2 hw) (w5 hw) (by decide) pd_2 rfl (rest := [.ref b1]) rfl rfl (W := 1) (Nat.le_of_eq rfl) (by decide) (by decide) (ce' := 3) rfl (sl' := 11) rfl (by decide) (by decide) ?_
  rintro v _ ⟨rfl, k, u, rfl⟩
  show Go l Z n0 _ _ κ 3 11 [(b1, oLH (.ref k) (.ref u) (.int 0)), (k, .inr (.long, [.long 0, .long 0, .long 0, .long 0])), (u, .inr (.int, [.int (0 : Int32), .int (0 : Int32), .int (0 : Int32), .int (0 : Int32)]))] 8 #[.val (.long p0), .second, .val (.long p1), .second, .val (.long p2), .second, .val (.long p3), .second, .val (.long p4), .second, .unset, .unset, .unset, .unset, .unset, .unset, .unset, .unset, .unset, .unset, .unset, .unset, .unset, .unset, .unset, .unset, .unset, .unset, .unset, .unset, .unset, .unset, .unset, .unset, .unset, .unset, .unset, .unset, .unset, .unset] [.ref b1]
  refine s_astore K at_8 (pc' := 10) rfl rfl (Ls' := #[.val (.long p0), .second, .val (.long p1), .second, .val (.long p2), .second, .val (.long p3), .second, .val (.long p4), .second, .val (.ref b1), .unset, .unset, .unset, .unset, .unset, .unset, .unset, .unset, .unset, .unset, .unset, .unset, .unset, .unset, .unset, .unset, .unset, .unset, .unset, .unset, .unset, .unset, .unset, .unset, .unset, .unset, .unset, .unset, .unset]) rfl ?_
  refine s_aload K at_10 (pc' := 12) rfl rfl rfl ?_
  refine s_lloadN K at_12 (pc' := 13) rfl rfl ?_
  refine s_lloadN K at_13 (pc' := 14) rfl rfl ?_
  refine s_static K at_14 (pc' := 17) rfl (as := [.long p0]) (c_val hw [(b1, oLH (.ref k) (.ref u) (.int 0)), (k, .inr (.long, [.long 0, .long 0, .long 0, .long 0])), (u, .inr (.int, [.int (0 : Int32), .int (0 : Int32), .int (0 : Int32), .int (0 : Int32)]))] p0) (w19 hw) (w20 hw) (w21 hw) (w22 hw) (by decide) pd_3 rfl (rest := [.long p0, .ref b1]) rfl rfl (W := 3) (Nat.le_of_eq rfl) (by decide) (by decide) (ce' := 3) rfl (sl' := 11) rfl (by decide) (by decide) ?_
  rintro v _ ⟨rfl, rfl⟩
  show Go l Z n0 _ _ κ 3 11 [(b1, oLH (.ref k) (.ref u) (.int 0)), (k, .inr (.long, [.long 0, .long 0, .long 0, .long 0])), (u, .inr (.int, [.int (0 : Int32), .int (0 : Int32), .int (0 : Int32), .int (0 : Int32)]))] 17 #[.val (.long p0), .second, .val (.long p1), .second, .val (.long p2), .second, .val (.long p3), .second, .val (.long p4), .second, .val (.ref b1), .unset, .unset, .unset, .unset, .unset, .unset, .unset, .unset, .unset, .unset, .unset, .unset, .unset, .unset, .unset, .unset, .unset, .unset, .unset, .unset, .unset, .unset, .unset, .unset, .unset, .unset, .unset, .unset, .unset] [.int (own_val p0), .long p0, .ref b1]
  refine s_virtual K at_17 (pc' := 20) rfl (k := 0) (a := b1) rfl (as := [.long p0, .int (own_val p0)]) (c_add0 hw [] b1 k u p0 (0 : Int64) (0 : Int64) (0 : Int64) (0 : Int64) (0 : Int32) (0 : Int32) (0 : Int32) (0 : Int32) ) (w23 hw) (w24 hw) (w26 hw) (w25 hw) (w2 hw) (w27 hw) (by decide) pd_1 rfl (rest := []) rfl rfl (W := 0) (Nat.le_of_eq rfl) (by decide) (by decide) (ce' := 3) rfl (sl' := 11) rfl (by decide) (by decide) ?_
  rintro v _ ⟨rfl, A0_0, hA0, rfl⟩
  show Go l Z n0 _ _ κ 3 11 [(b1, oLH (.ref k) (.ref u) (.int 1)), (k, .inr (.long, [.long A0_0, .long 0, .long 0, .long 0])), (u, .inr (.int, [.int (own_val A0_0), .int (0 : Int32), .int (0 : Int32), .int (0 : Int32)]))] 20 #[.val (.long p0), .second, .val (.long p1), .second, .val (.long p2), .second, .val (.long p3), .second, .val (.long p4), .second, .val (.ref b1), .unset, .unset, .unset, .unset, .unset, .unset, .unset, .unset, .unset, .unset, .unset, .unset, .unset, .unset, .unset, .unset, .unset, .unset, .unset, .unset, .unset, .unset, .unset, .unset, .unset, .unset, .unset, .unset, .unset] []
  refine s_aload K at_20 (pc' := 22) rfl rfl rfl ?_
  refine s_lloadN K at_22 (pc' := 23) rfl rfl ?_
  refine s_lloadN K at_23 (pc' := 24) rfl rfl ?_
  refine s_static K at_24 (pc' := 27) rfl (as := [.long p1]) (c_val hw [(b1, oLH (.ref k) (.ref u) (.int 1)), (k, .inr (.long, [.long A0_0, .long 0, .long 0, .long 0])), (u, .inr (.int, [.int (own_val A0_0), .int (0 : Int32), .int (0 : Int32), .int (0 : Int32)]))] p1) (w19 hw) (w20 hw) (w21 hw) (w22 hw) (by decide) pd_3 rfl (rest := [.long p1, .ref b1]) rfl rfl (W := 3) (Nat.le_of_eq rfl) (by decide) (by decide) (ce' := 3) rfl (sl' := 11) rfl (by decide) (by decide) ?_
  rintro v _ ⟨rfl, rfl⟩
  show Go l Z n0 _ _ κ 3 11 [(b1, oLH (.ref k) (.ref u) (.int 1)), (k, .inr (.long, [.long A0_0, .long 0, .long 0, .long 0])), (u, .inr (.int, [.int (own_val A0_0), .int (0 : Int32), .int (0 : Int32), .int (0 : Int32)]))] 27 #[.val (.long p0), .second, .val (.long p1), .second, .val (.long p2), .second, .val (.long p3), .second, .val (.long p4), .second, .val (.ref b1), .unset, .unset, .unset, .unset, .unset, .unset, .unset, .unset, .unset, .unset, .unset, .unset, .unset, .unset, .unset, .unset, .unset, .unset, .unset, .unset, .unset, .unset, .unset, .unset, .unset, .unset, .unset, .unset, .unset] [.int (own_val p1), .long p1, .ref b1]
  refine s_virtual K at_27 (pc' := 30) rfl (k := 0) (a := b1) rfl (as := [.long p1, .int (own_val p1)]) (c_add1 hw [] b1 k u p1 A0_0 (0 : Int64) (0 : Int64) (0 : Int64) (0 : Int32) (0 : Int32) (0 : Int32) ) (w23 hw) (w24 hw) (w26 hw) (w25 hw) (w2 hw) (w27 hw) (by decide) pd_1 rfl (rest := []) rfl rfl (W := 0) (Nat.le_of_eq rfl) (by decide) (by decide) (ce' := 3) rfl (sl' := 11) rfl (by decide) (by decide) ?_
  rintro v _ ⟨rfl, A1_0, A1_1, oA1_0, hA1, rfl⟩
  show Go l Z n0 _ _ κ 3 11 [(b1, oLH (.ref k) (.ref u) (.int 2)), (k, .inr (.long, [.long A1_0, .long A1_1, .long 0, .long 0])), (u, .inr (.int, [.int (own_val A1_0), .int (own_val A1_1), .int (0 : Int32), .int (0 : Int32)]))] 30 #[.val (.long p0), .second, .val (.long p1), .second, .val (.long p2), .second, .val (.long p3), .second, .val (.long p4), .second, .val (.ref b1), .unset, .unset, .unset, .unset, .unset, .unset, .unset, .unset, .unset, .unset, .unset, .unset, .unset, .unset, .unset, .unset, .unset, .unset, .unset, .unset, .unset, .unset, .unset, .unset, .unset, .unset, .unset, .unset, .unset] []
  refine s_aload K at_30 (pc' := 32) rfl rfl rfl ?_
  refine s_lload K at_32 (pc' := 34) rfl rfl ?_
  refine s_lload K at_34 (pc' := 36) rfl rfl ?_
  refine s_static K at_36 (pc' := 39) rfl (as := [.long p2]) (c_val hw [(b1, oLH (.ref k) (.ref u) (.int 2)), (k, .inr (.long, [.long A1_0, .long A1_1, .long 0, .long 0])), (u, .inr (.int, [.int (own_val A1_0), .int (own_val A1_1), .int (0 : Int32), .int (0 : Int32)]))] p2) (w19 hw) (w20 hw) (w21 hw) (w22 hw) (by decide) pd_3 rfl (rest := [.long p2, .ref b1]) rfl rfl (W := 3) (Nat.le_of_eq rfl) (by decide) (by decide) (ce' := 3) rfl (sl' := 11) rfl (by decide) (by decide) ?_
  rintro v _ ⟨rfl, rfl⟩
  show Go l Z n0 _ _ κ 3 11 [(b1, oLH (.ref k) (.ref u) (.int 2)), (k, .inr (.long, [.long A1_0, .long A1_1, .long 0, .long 0])), (u, .inr (.int, [.int (own_val A1_0), .int (own_val A1_1), .int (0 : Int32), .int (0 : Int32)]))] 39 #[.val (.long p0), .second, .val (.long p1), .second, .val (.long p2), .second, .val (.long p3), .second, .val (.long p4), .second, .val (.ref b1), .unset, .unset, .unset, .unset, .unset, .unset, .unset, .unset, .unset, .unset, .unset, .unset, .unset, .unset, .unset, .unset, .unset, .unset, .unset, .unset, .unset, .unset, .unset, .unset, .unset, .unset, .unset, .unset, .unset] [.int (own_val p2), .long p2, .ref b1]
  refine s_virtual K at_39 (pc' := 42) rfl (k := 0) (a := b1) rfl (as := [.long p2, .int (own_val p2)]) (c_add2 hw [] b1 k u p2 A1_0 A1_1 (0 : Int64) (0 : Int64) (0 : Int32) (0 : Int32) oA1_0) (w23 hw) (w24 hw) (w26 hw) (w25 hw) (w2 hw) (w27 hw) (by decide) pd_1 rfl (rest := []) rfl rfl (W := 0) (Nat.le_of_eq rfl) (by decide) (by decide) (ce' := 3) rfl (sl' := 11) rfl (by decide) (by decide) ?_
  rintro v _ ⟨rfl, A2_0, A2_1, A2_2, oA2_0, oA2_1, hA2, rfl⟩
  show Go l Z n0 _ _ κ 3 11 [(b1, oLH (.ref k) (.ref u) (.int 3)), (k, .inr (.long, [.long A2_0, .long A2_1, .long A2_2, .long 0])), (u, .inr (.int, [.int (own_val A2_0), .int (own_val A2_1), .int (own_val A2_2), .int (0 : Int32)]))] 42 #[.val (.long p0), .second, .val (.long p1), .second, .val (.long p2), .second, .val (.long p3), .second, .val (.long p4), .second, .val (.ref b1), .unset, .unset, .unset, .unset, .unset, .unset, .unset, .unset, .unset, .unset, .unset, .unset, .unset, .unset, .unset, .unset, .unset, .unset, .unset, .unset, .unset, .unset, .unset, .unset, .unset, .unset, .unset, .unset, .unset] []
  refine s_aload K at_42 (pc' := 44) rfl rfl rfl ?_
  refine s_lload K at_44 (pc' := 46) rfl rfl ?_
  refine s_lload K at_46 (pc' := 48) rfl rfl ?_
  refine s_static K at_48 (pc' := 51) rfl (as := [.long p3]) (c_val hw [(b1, oLH (.ref k) (.ref u) (.int 3)), (k, .inr (.long, [.long A2_0, .long A2_1, .long A2_2, .long 0])), (u, .inr (.int, [.int (own_val A2_0), .int (own_val A2_1), .int (own_val A2_2), .int (0 : Int32)]))] p3) (w19 hw) (w20 hw) (w21 hw) (w22 hw) (by decide) pd_3 rfl (rest := [.long p3, .ref b1]) rfl rfl (W := 3) (Nat.le_of_eq rfl) (by decide) (by decide) (ce' := 3) rfl (sl' := 11) rfl (by decide) (by decide) ?_
  rintro v _ ⟨rfl, rfl⟩
  show Go l Z n0 _ _ κ 3 11 [(b1, oLH (.ref k) (.ref u) (.int 3)), (k, .inr (.long, [.long A2_0, .long A2_1, .long A2_2, .long 0])), (u, .inr (.int, [.int (own_val A2_0), .int (own_val A2_1), .int (own_val A2_2), .int (0 : Int32)]))] 51 #[.val (.long p0), .second, .val (.long p1), .second, .val (.long p2), .second, .val (.long p3), .second, .val (.long p4), .second, .val (.ref b1), .unset, .unset, .unset, .unset, .unset, .unset, .unset, .unset, .unset, .unset, .unset, .unset, .unset, .unset, .unset, .unset, .unset, .unset, .unset, .unset, .unset, .unset, .unset, .unset, .unset, .unset, .unset, .unset, .unset] [.int (own_val p3), .long p3, .ref b1]
  refine s_virtual K at_51 (pc' := 54) rfl (k := 0) (a := b1) rfl (as := [.long p3, .int (own_val p3)]) (c_add3 hw [] b1 k u p3 A2_0 A2_1 A2_2 (0 : Int64) (0 : Int32) oA2_0 oA2_1) (w23 hw) (w24 hw) (w26 hw) (w25 hw) (w2 hw) (w27 hw) (by decide) pd_1 rfl (rest := []) rfl rfl (W := 0) (Nat.le_of_eq rfl) (by decide) (by decide) (ce' := 3) rfl (sl' := 11) rfl (by decide) (by decide) ?_
  rintro v _ ⟨rfl, A3_0, A3_1, A3_2, A3_3, oA3_0, oA3_1, oA3_2, hA3, rfl⟩
  show Go l Z n0 _ _ κ 3 11 [(b1, oLH (.ref k) (.ref u) (.int 4)), (k, .inr (.long, [.long A3_0, .long A3_1, .long A3_2, .long A3_3])), (u, .inr (.int, [.int (own_val A3_0), .int (own_val A3_1), .int (own_val A3_2), .int (own_val A3_3)]))] 54 #[.val (.long p0), .second, .val (.long p1), .second, .val (.long p2), .second, .val (.long p3), .second, .val (.long p4), .second, .val (.ref b1), .unset, .unset, .unset, .unset, .unset, .unset, .unset, .unset, .unset, .unset, .unset, .unset, .unset, .unset, .unset, .unset, .unset, .unset, .unset, .unset, .unset, .unset, .unset, .unset, .unset, .unset, .unset, .unset, .unset] []
  refine s_aload K at_54 (pc' := 56) rfl rfl rfl ?_
  refine s_lload K at_56 (pc' := 58) rfl rfl ?_
  refine s_lload K at_58 (pc' := 60) rfl rfl ?_
  refine s_static K at_60 (pc' := 63) rfl (as := [.long p4]) (c_val hw [(b1, oLH (.ref k) (.ref u) (.int 4)), (k, .inr (.long, [.long A3_0, .long A3_1, .long A3_2, .long A3_3])), (u, .inr (.int, [.int (own_val A3_0), .int (own_val A3_1), .int (own_val A3_2), .int (own_val A3_3)]))] p4) (w19 hw) (w20 hw) (w21 hw) (w22 hw) (by decide) pd_3 rfl (rest := [.long p4, .ref b1]) rfl rfl (W := 3) (Nat.le_of_eq rfl) (by decide) (by decide) (ce' := 3) rfl (sl' := 11) rfl (by decide) (by decide) ?_
  rintro v _ ⟨rfl, rfl⟩
  show Go l Z n0 _ _ κ 3 11 [(b1, oLH (.ref k) (.ref u) (.int 4)), (k, .inr (.long, [.long A3_0, .long A3_1, .long A3_2, .long A3_3])), (u, .inr (.int, [.int (own_val A3_0), .int (own_val A3_1), .int (own_val A3_2), .int (own_val A3_3)]))] 63 #[.val (.long p0), .second, .val (.long p1), .second, .val (.long p2), .second, .val (.long p3), .second, .val (.long p4), .second, .val (.ref b1), .unset, .unset, .unset, .unset, .unset, .unset, .unset, .unset, .unset, .unset, .unset, .unset, .unset, .unset, .unset, .unset, .unset, .unset, .unset, .unset, .unset, .unset, .unset, .unset, .unset, .unset, .unset, .unset, .unset] [.int (own_val p4), .long p4, .ref b1]
  refine s_virtual K at_63 (pc' := 66) rfl (k := 0) (a := b1) rfl (as := [.long p4, .int (own_val p4)]) (c_rep4 hw [] b1 k u p4 A3_0 A3_1 A3_2 A3_3 oA3_2) (w30 hw) (w31 hw) (w33 hw) (w32 hw) (w2 hw) (w34 hw) (by decide) pd_1 rfl (rest := []) rfl rfl (W := 0) (Nat.le_of_eq rfl) (by decide) (by decide) (ce' := 3) rfl (sl' := 11) rfl (by decide) (by decide) ?_
  rintro v _ ⟨rfl, R0, R1, R2, R3, oR0, oR1, oR2, hR, rfl⟩
  show Go l Z n0 _ _ κ 3 11 [(b1, oLH (.ref k) (.ref u) (.int 4)), (k, .inr (.long, [.long R0, .long R1, .long R2, .long R3])), (u, .inr (.int, [.int (own_val R0), .int (own_val R1), .int (own_val R2), .int (own_val R3)]))] 66 #[.val (.long p0), .second, .val (.long p1), .second, .val (.long p2), .second, .val (.long p3), .second, .val (.long p4), .second, .val (.ref b1), .unset, .unset, .unset, .unset, .unset, .unset, .unset, .unset, .unset, .unset, .unset, .unset, .unset, .unset, .unset, .unset, .unset, .unset, .unset, .unset, .unset, .unset, .unset, .unset, .unset, .unset, .unset, .unset, .unset] []
  refine s_lloadN K at_66 (pc' := 67) rfl rfl ?_
  refine s_lloadN K at_67 (pc' := 68) rfl rfl ?_
  refine s_static K at_68 (pc' := 71) rfl (as := [.long p0, .long p1]) (c_mn hw [(b1, oLH (.ref k) (.ref u) (.int 4)), (k, .inr (.long, [.long R0, .long R1, .long R2, .long R3])), (u, .inr (.int, [.int (own_val R0), .int (own_val R1), .int (own_val R2), .int (own_val R3)]))] p0 p1) (w35 hw) (w36 hw) (w11 hw) (w37 hw) (by decide) pd_4 rfl (rest := []) rfl rfl (W := 0) (Nat.le_of_eq rfl) (by decide) (by decide) (ce' := 3) rfl (sl' := 11) rfl (by decide) (by decide) ?_
  rintro v _ ⟨rfl, rfl⟩
  obtain ⟨q0, hq0⟩ : ∃ z, z = own_mn p0 p1 := ⟨_, rfl⟩
  rw [← hq0]
  show Go l Z n0 _ _ κ 3 11 [(b1, oLH (.ref k) (.ref u) (.int 4)), (k, .inr (.long, [.long R0, .long R1, .long R2, .long R3])), (u, .inr (.int, [.int (own_val R0), .int (own_val R1), .int (own_val R2), .int (own_val R3)]))] 71 #[.val (.long p0), .second, .val (.long p1), .second, .val (.long p2), .second, .val (.long p3), .second, .val (.long p4), .second, .val (.ref b1), .unset, .unset, .unset, .unset, .unset, .unset, .unset, .unset, .unset, .unset, .unset, .unset, .unset, .unset, .unset, .unset, .unset, .unset, .unset, .unset, .unset, .unset, .unset, .unset, .unset, .unset, .unset, .unset, .unset] [.long q0]
  refine s_lstore K at_71 (pc' := 73) rfl (Ls' := #[.val (.long p0), .second, .val (.long p1), .second, .val (.long p2), .second, .val (.long p3), .second, .val (.long p4), .second, .val (.ref b1), .val (.long q0), .second, .unset, .unset, .unset, .unset, .unset, .unset, .unset, .unset, .unset, .unset, .unset, .unset, .unset, .unset, .unset, .unset, .unset, .unset, .unset, .unset, .unset, .unset, .unset, .unset, .unset, .unset, .unset]) rfl ?_
  refine s_lloadN K at_73 (pc' := 74) rfl rfl ?_
  refine s_lloadN K at_74 (pc' := 75) rfl rfl ?_
  refine s_static K at_75 (pc' := 78) rfl (as := [.long p0, .long p1]) (c_mx hw [(b1, oLH (.ref k) (.ref u) (.int 4)), (k, .inr (.long, [.long R0, .long R1, .long R2, .long R3])), (u, .inr (.int, [.int (own_val R0), .int (own_val R1), .int (own_val R2), .int (own_val R3)]))] p0 p1) (w38 hw) (w39 hw) (w11 hw) (w40 hw) (by decide) pd_4 rfl (rest := []) rfl rfl (W := 0) (Nat.le_of_eq rfl) (by decide) (by decide) (ce' := 3) rfl (sl' := 11) rfl (by decide) (by decide) ?_
  rintro v _ ⟨rfl, rfl⟩
  obtain ⟨q1, hq1⟩ : ∃ z, z = own_mx p0 p1 := ⟨_, rfl⟩
  rw [← hq1]
  show Go l Z n0 _ _ κ 3 11 [(b1, oLH (.ref k) (.ref u) (.int 4)), (k, .inr (.long, [.long R0, .long R1, .long R2, .long R3])), (u, .inr (.int, [.int (own_val R0), .int (own_val R1), .int (own_val R2), .int (own_val R3)]))] 78 #[.val (.long p0), .second, .val (.long p1), .second, .val (.long p2), .second, .val (.long p3), .second, .val (.long p4), .second, .val (.ref b1), .val (.long q0), .second, .unset, .unset, .unset, .unset, .unset, .unset, .unset, .unset, .unset, .unset, .unset, .unset, .unset, .unset, .unset, .unset, .unset, .unset, .unset, .unset, .unset, .unset, .unset, .unset, .unset, .unset, .unset] [.long q1]
  refine s_lstore K at_78 (pc' := 80) rfl (Ls' := #[.val (.long p0), .second, .val (.long p1), .second, .val (.long p2), .second, .val (.long p3), .second, .val (.long p4), .second, .val (.ref b1), .val (.long q0), .second, .val (.long q1), .second, .unset, .unset, .unset, .unset, .unset, .unset, .unset, .unset, .unset, .unset, .unset, .unset, .unset, .unset, .unset, .unset, .unset, .unset, .unset, .unset, .unset, .unset, .unset, .unset, .unset]) rfl ?_
  refine s_lload K at_80 (pc' := 82) rfl rfl ?_
  refine s_lload K at_82 (pc' := 84) rfl rfl ?_
  refine s_static K at_84 (pc' := 87) rfl (as := [.long p2, .long p3]) (c_mn hw [(b1, oLH (.ref k) (.ref u) (.int 4)), (k, .inr (.long, [.long R0, .long R1, .long R2, .long R3])), (u, .inr (.int, [.int (own_val R0), .int (own_val R1), .int (own_val R2), .int (own_val R3)]))] p2 p3) (w35 hw) (w36 hw) (w11 hw) (w37 hw) (by decide) pd_4 rfl (rest := []) rfl rfl (W := 0) (Nat.le_of_eq rfl) (by decide) (by decide) (ce' := 3) rfl (sl' := 11) rfl (by decide) (by decide) ?_
  rintro v _ ⟨rfl, rfl⟩
  obtain ⟨q2, hq2⟩ : ∃ z, z = own_mn p2 p3 := ⟨_, rfl⟩
  rw [← hq2]
  show Go l Z n0 _ _ κ 3 11 [(b1, oLH (.ref k) (.ref u) (.int 4)), (k, .inr (.long, [.long R0, .long R1, .long R2, .long R3])), (u, .inr (.int, [.int (own_val R0), .int (own_val R1), .int (own_val R2), .int (own_val R3)]))] 87 #[.val (.long p0), .second, .val (.long p1), .second, .val (.long p2), .second, .val (.long p3), .second, .val (.long p4), .second, .val (.ref b1), .val (.long q0), .second, .val (.long q1), .second, .unset, .unset, .unset, .unset, .unset, .unset, .unset, .unset, .unset, .unset, .unset, .unset, .unset, .unset, .unset, .unset, .unset, .unset, .unset, .unset, .unset, .unset, .unset, .unset, .unset] [.long q2]
  refine s_lstore K at_87 (pc' := 89) rfl (Ls' := #[.val (.long p0), .second, .val (.long p1), .second, .val (.long p2), .second, .val (.long p3), .second, .val (.long p4), .second, .val (.ref b1), .val (.long q0), .second, .val (.long q1), .second, .val (.long q2), .second, .unset, .unset, .unset, .unset, .unset, .unset, .unset, .unset, .unset, .unset, .unset, .unset, .unset, .unset, .unset, .unset, .unset, .unset, .unset, .unset, .unset, .unset, .unset]) rfl ?_
  refine s_lload K at_89 (pc' := 91) rfl rfl ?_
  refine s_lload K at_91 (pc' := 93) rfl rfl ?_
  refine s_static K at_93 (pc' := 96) rfl (as := [.long p2, .long p3]) (c_mx hw [(b1, oLH (.ref k) (.ref u) (.int 4)), (k, .inr (.long, [.long R0, .long R1, .long R2, .long R3])), (u, .inr (.int, [.int (own_val R0), .int (own_val R1), .int (own_val R2), .int (own_val R3)]))] p2 p3) (w38 hw) (w39 hw) (w11 hw) (w40 hw) (by decide) pd_4 rfl (rest := []) rfl rfl (W := 0) (Nat.le_of_eq rfl) (by decide) (by decide) (ce' := 3) rfl (sl' := 11) rfl (by decide) (by decide) ?_
  rintro v _ ⟨rfl, rfl⟩
  obtain ⟨q3, hq3⟩ : ∃ z, z = own_mx p2 p3 := ⟨_, rfl⟩
  rw [← hq3]
  show Go l Z n0 _ _ κ 3 11 [(b1, oLH (.ref k) (.ref u) (.int 4)), (k, .inr (.long, [.long R0, .long R1, .long R2, .long R3])), (u, .inr (.int, [.int (own_val R0), .int (own_val R1), .int (own_val R2), .int (own_val R3)]))] 96 #[.val (.long p0), .second, .val (.long p1), .second, .val (.long p2), .second, .val (.long p3), .second, .val (.long p4), .second, .val (.ref b1), .val (.long q0), .second, .val (.long q1), .second, .val (.long q2), .second, .unset, .unset, .unset, .unset, .unset, .unset, .unset, .unset, .unset, .unset, .unset, .unset, .unset, .unset, .unset, .unset, .unset, .unset, .unset, .unset, .unset, .unset, .unset] [.long q3]
  refine s_lstore K at_96 (pc' := 98) rfl (Ls' := #[.val (.long p0), .second, .val (.long p1), .second, .val (.long p2), .second, .val (.long p3), .second, .val (.long p4), .second, .val (.ref b1), .val (.long q0), .second, .val (.long q1), .second, .val (.long q2), .second, .val (.long q3), .second, .unset, .unset, .unset, .unset, .unset, .unset, .unset, .unset, .unset, .unset, .unset, .unset, .unset, .unset, .unset, .unset, .unset, .unset, .unset, .unset, .unset]) rfl ?_
  refine s_lload K at_98 (pc' := 100) rfl rfl ?_
  refine s_lload K at_100 (pc' := 102) rfl rfl ?_
  refine s_static K at_102 (pc' := 105) rfl (as := [.long q1, .long q3]) (c_mn hw [(b1, oLH (.ref k) (.ref u) (.int 4)), (k, .inr (.long, [.long R0, .long R1, .long R2, .long R3])), (u, .inr (.int, [.int (own_val R0), .int (own_val R1), .int (own_val R2), .int (own_val R3)]))] q1 q3) (w35 hw) (w36 hw) (w11 hw) (w37 hw) (by decide) pd_4 rfl (rest := []) rfl rfl (W := 0) (Nat.le_of_eq rfl) (by decide) (by decide) (ce' := 3) rfl (sl' := 11) rfl (by decide) (by decide) ?_
  rintro v _ ⟨rfl, rfl⟩
  obtain ⟨q4, hq4⟩ : ∃ z, z = own_mn q1 q3 := ⟨_, rfl⟩
  rw [← hq4]
  show Go l Z n0 _ _ κ 3 11 [(b1, oLH (.ref k) (.ref u) (.int 4)), (k, .inr (.long, [.long R0, .long R1, .long R2, .long R3])), (u, .inr (.int, [.int (own_val R0), .int (own_val R1), .int (own_val R2), .int (own_val R3)]))] 105 #[.val (.long p0), .second, .val (.long p1), .second, .val (.long p2), .second, .val (.long p3), .second, .val (.long p4), .second, .val (.ref b1), .val (.long q0), .second, .val (.long q1), .second, .val (.long q2), .second, .val (.long q3), .second, .unset, .unset, .unset, .unset, .unset, .unset, .unset, .unset, .unset, .unset, .unset, .unset, .unset, .unset, .unset, .unset, .unset, .unset, .unset, .unset, .unset] [.long q4]
  refine s_lstore K at_105 (pc' := 107) rfl (Ls' := #[.val (.long p0), .second, .val (.long p1), .second, .val (.long p2), .second, .val (.long p3), .second, .val (.long p4), .second, .val (.ref b1), .val (.long q0), .second, .val (.long q1), .second, .val (.long q2), .second, .val (.long q3), .second, .val (.long q4), .second, .unset, .unset, .unset, .unset, .unset, .unset, .unset, .unset, .unset, .unset, .unset, .unset, .unset, .unset, .unset, .unset, .unset, .unset, .unset]) rfl ?_
  refine s_lload K at_107 (pc' := 109) rfl rfl ?_
  refine s_lload K at_109 (pc' := 111) rfl rfl ?_
  refine s_static K at_111 (pc' := 114) rfl (as := [.long q0, .long q2]) (c_mx hw [(b1, oLH (.ref k) (.ref u) (.int 4)), (k, .inr (.long, [.long R0, .long R1, .long R2, .long R3])), (u, .inr (.int, [.int (own_val R0), .int (own_val R1), .int (own_val R2), .int (own_val R3)]))] q0 q2) (w38 hw) (w39 hw) (w11 hw) (w40 hw) (by decide) pd_4 rfl (rest := []) rfl rfl (W := 0) (Nat.le_of_eq rfl) (by decide) (by decide) (ce' := 3) rfl (sl' := 11) rfl (by decide) (by decide) ?_
  rintro v _ ⟨rfl, rfl⟩
  obtain ⟨q5, hq5⟩ : ∃ z, z = own_mx q0 q2 := ⟨_, rfl⟩
  rw [← hq5]
  show Go l Z n0 _ _ κ 3 11 [(b1, oLH (.ref k) (.ref u) (.int 4)), (k, .inr (.long, [.long R0, .long R1, .long R2, .long R3])), (u, .inr (.int, [.int (own_val R0), .int (own_val R1), .int (own_val R2), .int (own_val R3)]))] 114 #[.val (.long p0), .second, .val (.long p1), .second, .val (.long p2), .second, .val (.long p3), .second, .val (.long p4), .second, .val (.ref b1), .val (.long q0), .second, .val (.long q1), .second, .val (.long q2), .second, .val (.long q3), .second, .val (.long q4), .second, .unset, .unset, .unset, .unset, .unset, .unset, .unset, .unset, .unset, .unset, .unset, .unset, .unset, .unset, .unset, .unset, .unset, .unset, .unset] [.long q5]
  refine s_lstore K at_114 (pc' := 116) rfl (Ls' := #[.val (.long p0), .second, .val (.long p1), .second, .val (.long p2), .second, .val (.long p3), .second, .val (.long p4), .second, .val (.ref b1), .val (.long q0), .second, .val (.long q1), .second, .val (.long q2), .second, .val (.long q3), .second, .val (.long q4), .second, .val (.long q5), .second, .unset, .unset, .unset, .unset, .unset, .unset, .unset, .unset, .unset, .unset, .unset, .unset, .unset, .unset, .unset, .unset, .unset]) rfl ?_
  refine s_lload K at_116 (pc' := 118) rfl rfl ?_
  refine s_lload K at_118 (pc' := 120) rfl rfl ?_
  refine s_static K at_120 (pc' := 123) rfl (as := [.long q1, .long q3]) (c_mx hw [(b1, oLH (.ref k) (.ref u) (.int 4)), (k, .inr (.long, [.long R0, .long R1, .long R2, .long R3])), (u, .inr (.int, [.int (own_val R0), .int (own_val R1), .int (own_val R2), .int (own_val R3)]))] q1 q3) (w38 hw) (w39 hw) (w11 hw) (w40 hw) (by decide) pd_4 rfl (rest := []) rfl rfl (W := 0) (Nat.le_of_eq rfl) (by decide) (by decide) (ce' := 3) rfl (sl' := 11) rfl (by decide) (by decide) ?_
  rintro v _ ⟨rfl, rfl⟩
  obtain ⟨q6, hq6⟩ : ∃ z, z = own_mx q1 q3 := ⟨_, rfl⟩
  rw [← hq6]
  show Go l Z n0 _ _ κ 3 11 [(b1, oLH (.ref k) (.ref u) (.int 4)), (k, .inr (.long, [.long R0, .long R1, .long R2, .long R3])), (u, .inr (.int, [.int (own_val R0), .int (own_val R1), .int (own_val R2), .int (own_val R3)]))] 123 #[.val (.long p0), .second, .val (.long p1), .second, .val (.long p2), .second, .val (.long p3), .second, .val (.long p4), .second, .val (.ref b1), .val (.long q0), .second, .val (.long q1), .second, .val (.long q2), .second, .val (.long q3), .second, .val (.long q4), .second, .val (.long q5), .second, .unset, .unset, .unset, .unset, .unset, .unset, .unset, .unset, .unset, .unset, .unset, .unset, .unset, .unset, .unset, .unset, .unset] [.long q6]
  refine s_lstore K at_123 (pc' := 125) rfl (Ls' := #[.val (.long p0), .second, .val (.long p1), .second, .val (.long p2), .second, .val (.long p3), .second, .val (.long p4), .second, .val (.ref b1), .val (.long q0), .second, .val (.long q1), .second, .val (.long q2), .second, .val (.long q3), .second, .val (.long q4), .second, .val (.long q5), .second, .val (.long q6), .second, .unset, .unset, .unset, .unset, .unset, .unset, .unset, .unset, .unset, .unset, .unset, .unset, .unset, .unset, .unset]) rfl ?_
  refine s_lload K at_125 (pc' := 127) rfl rfl ?_
  refine s_lload K at_127 (pc' := 129) rfl rfl ?_
  refine s_static K at_129 (pc' := 132) rfl (as := [.long q4, .long q5]) (c_mn hw [(b1, oLH (.ref k) (.ref u) (.int 4)), (k, .inr (.long, [.long R0, .long R1, .long R2, .long R3])), (u, .inr (.int, [.int (own_val R0), .int (own_val R1), .int (own_val R2), .int (own_val R3)]))] q4 q5) (w35 hw) (w36 hw) (w11 hw) (w37 hw) (by decide) pd_4 rfl (rest := []) rfl rfl (W := 0) (Nat.le_of_eq rfl) (by decide) (by decide) (ce' := 3) rfl (sl' := 11) rfl (by decide) (by decide) ?_
  rintro v _ ⟨rfl, rfl⟩
  obtain ⟨r1, hr1⟩ : ∃ z, z = own_mn q4 q5 := ⟨_, rfl⟩
  rw [← hr1]
  show Go l Z n0 _ _ κ 3 11 [(b1, oLH (.ref k) (.ref u) (.int 4)), (k, .inr (.long, [.long R0, .long R1, .long R2, .long R3])), (u, .inr (.int, [.int (own_val R0), .int (own_val R1), .int (own_val R2), .int (own_val R3)]))] 132 #[.val (.long p0), .second, .val (.long p1), .second, .val (.long p2), .second, .val (.long p3), .second, .val (.long p4), .second, .val (.ref b1), .val (.long q0), .second, .val (.long q1), .second, .val (.long q2), .second, .val (.long q3), .second, .val (.long q4), .second, .val (.long q5), .second, .val (.long q6), .second, .unset, .unset, .unset, .unset, .unset, .unset, .unset, .unset, .unset, .unset, .unset, .unset, .unset, .unset, .unset] [.long r1]
  refine s_lstore K at_132 (pc' := 134) rfl (Ls' := #[.val (.long p0), .second, .val (.long p1), .second, .val (.long p2), .second, .val (.long p3), .second, .val (.long p4), .second, .val (.ref b1), .val (.long q0), .second, .val (.long q1), .second, .val (.long q2), .second, .val (.long q3), .second, .val (.long q4), .second, .val (.long q5), .second, .val (.long q6), .second, .val (.long r1), .second, .unset, .unset, .unset, .unset, .unset, .unset, .unset, .unset, .unset, .unset, .unset, .unset, .unset]) rfl ?_
  refine s_lload K at_134 (pc' := 136) rfl rfl ?_
  refine s_lload K at_136 (pc' := 138) rfl rfl ?_
  refine s_static K at_138 (pc' := 141) rfl (as := [.long q4, .long q5]) (c_mx hw [(b1, oLH (.ref k) (.ref u) (.int 4)), (k, .inr (.long, [.long R0, .long R1, .long R2, .long R3])), (u, .inr (.int, [.int (own_val R0), .int (own_val R1), .int (own_val R2), .int (own_val R3)]))] q4 q5) (w38 hw) (w39 hw) (w11 hw) (w40 hw) (by decide) pd_4 rfl (rest := []) rfl rfl (W := 0) (Nat.le_of_eq rfl) (by decide) (by decide) (ce' := 3) rfl (sl' := 11) rfl (by decide) (by decide) ?_
  rintro v _ ⟨rfl, rfl⟩
  obtain ⟨r2, hr2⟩ : ∃ z, z = own_mx q4 q5 := ⟨_, rfl⟩
  rw [← hr2]
  show Go l Z n0 _ _ κ 3 11 [(b1, oLH (.ref k) (.ref u) (.int 4)), (k, .inr (.long, [.long R0, .long R1, .long R2, .long R3])), (u, .inr (.int, [.int (own_val R0), .int (own_val R1), .int (own_val R2), .int (own_val R3)]))] 141 #[.val (.long p0), .second, .val (.long p1), .second, .val (.long p2), .second, .val (.long p3), .second, .val (.long p4), .second, .val (.ref b1), .val (.long q0), .second, .val (.long q1), .second, .val (.long q2), .second, .val (.long q3), .second, .val (.long q4), .second, .val (.long q5), .second, .val (.long q6), .second, .val (.long r1), .second, .unset, .unset, .unset, .unset, .unset, .unset, .unset, .unset, .unset, .unset, .unset, .unset, .unset] [.long r2]
  refine s_lstore K at_141 (pc' := 143) rfl (Ls' := #[.val (.long p0), .second, .val (.long p1), .second, .val (.long p2), .second, .val (.long p3), .second, .val (.long p4), .second, .val (.ref b1), .val (.long q0), .second, .val (.long q1), .second, .val (.long q2), .second, .val (.long q3), .second, .val (.long q4), .second, .val (.long q5), .second, .val (.long q6), .second, .val (.long r1), .second, .val (.long r2), .second, .unset, .unset, .unset, .unset, .unset, .unset, .unset, .unset, .unset, .unset, .unset]) rfl ?_
  refine s_lload K at_143 (pc' := 145) rfl rfl ?_
  refine s_lstore K at_145 (pc' := 147) rfl (Ls' := #[.val (.long p0), .second, .val (.long p1), .second, .val (.long p2), .second, .val (.long p3), .second, .val (.long p4), .second, .val (.ref b1), .val (.long q0), .second, .val (.long q1), .second, .val (.long q2), .second, .val (.long q3), .second, .val (.long q4), .second, .val (.long q5), .second, .val (.long q6), .second, .val (.long r1), .second, .val (.long r2), .second, .val (.long q6), .second, .unset, .unset, .unset, .unset, .unset, .unset, .unset, .unset, .unset]) rfl ?_
  refine s_lload K at_147 (pc' := 149) rfl rfl ?_
  refine s_lload K at_149 (pc' := 151) rfl rfl ?_
  refine s_static K at_151 (pc' := 154) rfl (as := [.long p4, .long r1]) (c_mn hw [(b1, oLH (.ref k) (.ref u) (.int 4)), (k, .inr (.long, [.long R0, .long R1, .long R2, .long R3])), (u, .inr (.int, [.int (own_val R0), .int (own_val R1), .int (own_val R2), .int (own_val R3)]))] p4 r1) (w35 hw) (w36 hw) (w11 hw) (w37 hw) (by decide) pd_4 rfl (rest := []) rfl rfl (W := 0) (Nat.le_of_eq rfl) (by decide) (by decide) (ce' := 3) rfl (sl' := 11) rfl (by decide) (by decide) ?_
  rintro v _ ⟨rfl, rfl⟩
  obtain ⟨e0, he0⟩ : ∃ z, z = own_mn p4 r1 := ⟨_, rfl⟩
  rw [← he0]
  show Go l Z n0 _ _ κ 3 11 [(b1, oLH (.ref k) (.ref u) (.int 4)), (k, .inr (.long, [.long R0, .long R1, .long R2, .long R3])), (u, .inr (.int, [.int (own_val R0), .int (own_val R1), .int (own_val R2), .int (own_val R3)]))] 154 #[.val (.long p0), .second, .val (.long p1), .second, .val (.long p2), .second, .val (.long p3), .second, .val (.long p4), .second, .val (.ref b1), .val (.long q0), .second, .val (.long q1), .second, .val (.long q2), .second, .val (.long q3), .second, .val (.long q4), .second, .val (.long q5), .second, .val (.long q6), .second, .val (.long r1), .second, .val (.long r2), .second, .val (.long q6), .second, .unset, .unset, .unset, .unset, .unset, .unset, .unset, .unset, .unset] [.long e0]
  refine s_lstore K at_154 (pc' := 156) rfl (Ls' := #[.val (.long p0), .second, .val (.long p1), .second, .val (.long p2), .second, .val (.long p3), .second, .val (.long p4), .second, .val (.ref b1), .val (.long q0), .second, .val (.long q1), .second, .val (.long q2), .second, .val (.long q3), .second, .val (.long q4), .second, .val (.long q5), .second, .val (.long q6), .second, .val (.long r1), .second, .val (.long r2), .second, .val (.long q6), .second, .val (.long e0), .second, .unset, .unset, .unset, .unset, .unset, .unset, .unset]) rfl ?_
  refine s_lload K at_156 (pc' := 158) rfl rfl ?_
  refine s_lload K at_158 (pc' := 160) rfl rfl ?_
  refine s_lload K at_160 (pc' := 162) rfl rfl ?_
  refine s_static K at_162 (pc' := 165) rfl (as := [.long p4, .long r2]) (c_mn hw [(b1, oLH (.ref k) (.ref u) (.int 4)), (k, .inr (.long, [.long R0, .long R1, .long R2, .long R3])), (u, .inr (.int, [.int (own_val R0), .int (own_val R1), .int (own_val R2), .int (own_val R3)]))] p4 r2) (w35 hw) (w36 hw) (w11 hw) (w37 hw) (by decide) pd_4 rfl (rest := [.long r1]) rfl rfl (W := 2) (Nat.le_of_eq rfl) (by decide) (by decide) (ce' := 3) rfl (sl' := 11) rfl (by decide) (by decide) ?_
  rintro v _ ⟨rfl, rfl⟩
  obtain ⟨t1, ht1⟩ : ∃ z, z = own_mn p4 r2 := ⟨_, rfl⟩
  rw [← ht1]
  show Go l Z n0 _ _ κ 3 11 [(b1, oLH (.ref k) (.ref u) (.int 4)), (k, .inr (.long, [.long R0, .long R1, .long R2, .long R3])), (u, .inr (.int, [.int (own_val R0), .int (own_val R1), .int (own_val R2), .int (own_val R3)]))] 165 #[.val (.long p0), .second, .val (.long p1), .second, .val (.long p2), .second, .val (.long p3), .second, .val (.long p4), .second, .val (.ref b1), .val (.long q0), .second, .val (.long q1), .second, .val (.long q2), .second, .val (.long q3), .second, .val (.long q4), .second, .val (.long q5), .second, .val (.long q6), .second, .val (.long r1), .second, .val (.long r2), .second, .val (.long q6), .second, .val (.long e0), .second, .unset, .unset, .unset, .unset, .unset, .unset, .unset] [.long t1, .long r1]
  refine s_static K at_165 (pc' := 168) rfl (as := [.long r1, .long t1]) (c_mx hw [(b1, oLH (.ref k) (.ref u) (.int 4)), (k, .inr (.long, [.long R0, .long R1, .long R2, .long R3])), (u, .inr (.int, [.int (own_val R0), .int (own_val R1), .int (own_val R2), .int (own_val R3)]))] r1 t1) (w38 hw) (w39 hw) (w11 hw) (w40 hw) (by decide) pd_4 rfl (rest := []) rfl rfl (W := 0) (Nat.le_of_eq rfl) (by decide) (by decide) (ce' := 3) rfl (sl' := 11) rfl (by decide) (by decide) ?_
  rintro v _ ⟨rfl, rfl⟩
  obtain ⟨e1, he1⟩ : ∃ z, z = own_mx r1 t1 := ⟨_, rfl⟩
  rw [← he1]
  show Go l Z n0 _ _ κ 3 11 [(b1, oLH (.ref k) (.ref u) (.int 4)), (k, .inr (.long, [.long R0, .long R1, .long R2, .long R3])), (u, .inr (.int, [.int (own_val R0), .int (own_val R1), .int (own_val R2), .int (own_val R3)]))] 168 #[.val (.long p0), .second, .val (.long p1), .second, .val (.long p2), .second, .val (.long p3), .second, .val (.long p4), .second, .val (.ref b1), .val (.long q0), .second, .val (.long q1), .second, .val (.long q2), .second, .val (.long q3), .second, .val (.long q4), .second, .val (.long q5), .second, .val (.long q6), .second, .val (.long r1), .second, .val (.long r2), .second, .val (.long q6), .second, .val (.long e0), .second, .unset, .unset, .unset, .unset, .unset, .unset, .unset] [.long e1]
  refine s_lstore K at_168 (pc' := 170) rfl (Ls' := #[.val (.long p0), .second, .val (.long p1), .second, .val (.long p2), .second, .val (.long p3), .second, .val (.long p4), .second, .val (.ref b1), .val (.long q0), .second, .val (.long q1), .second, .val (.long q2), .second, .val (.long q3), .second, .val (.long q4), .second, .val (.long q5), .second, .val (.long q6), .second, .val (.long r1), .second, .val (.long r2), .second, .val (.long q6), .second, .val (.long e0), .second, .val (.long e1), .second, .unset, .unset, .unset, .unset, .unset]) rfl ?_
  refine s_lload K at_170 (pc' := 172) rfl rfl ?_
  refine s_lload K at_172 (pc' := 174) rfl rfl ?_
  refine s_lload K at_174 (pc' := 176) rfl rfl ?_
  refine s_static K at_176 (pc' := 179) rfl (as := [.long p4, .long q6]) (c_mn hw [(b1, oLH (.ref k) (.ref u) (.int 4)), (k, .inr (.long, [.long R0, .long R1, .long R2, .long R3])), (u, .inr (.int, [.int (own_val R0), .int (own_val R1), .int (own_val R2), .int (own_val R3)]))] p4 q6) (w35 hw) (w36 hw) (w11 hw) (w37 hw) (by decide) pd_4 rfl (rest := [.long r2]) rfl rfl (W := 2) (Nat.le_of_eq rfl) (by decide) (by decide) (ce' := 3) rfl (sl' := 11) rfl (by decide) (by decide) ?_
  rintro v _ ⟨rfl, rfl⟩
  obtain ⟨t2, ht2⟩ : ∃ z, z = own_mn p4 q6 := ⟨_, rfl⟩
  rw [← ht2]
  show Go l Z n0 _ _ κ 3 11 [(b1, oLH (.ref k) (.ref u) (.int 4)), (k, .inr (.long, [.long R0, .long R1, .long R2, .long R3])), (u, .inr (.int, [.int (own_val R0), .int (own_val R1), .int (own_val R2), .int (own_val R3)]))] 179 #[.val (.long p0), .second, .val (.long p1), .second, .val (.long p2), .second, .val (.long p3), .second, .val (.long p4), .second, .val (.ref b1), .val (.long q0), .second, .val (.long q1), .second, .val (.long q2), .second, .val (.long q3), .second, .val (.long q4), .second, .val (.long q5), .second, .val (.long q6), .second, .val (.long r1), .second, .val (.long r2), .second, .val (.long q6), .second, .val (.long e0), .second, .val (.long e1), .second, .unset, .unset, .unset, .unset, .unset] [.long t2, .long r2]
  refine s_static K at_179 (pc' := 182) rfl (as := [.long r2, .long t2]) (c_mx hw [(b1, oLH (.ref k) (.ref u) (.int 4)), (k, .inr (.long, [.long R0, .long R1, .long R2, .long R3])), (u, .inr (.int, [.int (own_val R0), .int (own_val R1), .int (own_val R2), .int (own_val R3)]))] r2 t2) (w38 hw) (w39 hw) (w11 hw) (w40 hw) (by decide) pd_4 rfl (rest := []) rfl rfl (W := 0) (Nat.le_of_eq rfl) (by decide) (by decide) (ce' := 3) rfl (sl' := 11) rfl (by decide) (by decide) ?_
  rintro v _ ⟨rfl, rfl⟩
  obtain ⟨e2, he2⟩ : ∃ z, z = own_mx r2 t2 := ⟨_, rfl⟩
  rw [← he2]
  show Go l Z n0 _ _ κ 3 11 [(b1, oLH (.ref k) (.ref u) (.int 4)), (k, .inr (.long, [.long R0, .long R1, .long R2, .long R3])), (u, .inr (.int, [.int (own_val R0), .int (own_val R1), .int (own_val R2), .int (own_val R3)]))] 182 #[.val (.long p0), .second, .val (.long p1), .second, .val (.long p2), .second, .val (.long p3), .second, .val (.long p4), .second, .val (.ref b1), .val (.long q0), .second, .val (.long q1), .second, .val (.long q2), .second, .val (.long q3), .second, .val (.long q4), .second, .val (.long q5), .second, .val (.long q6), .second, .val (.long r1), .second, .val (.long r2), .second, .val (.long q6), .second, .val (.long e0), .second, .val (.long e1), .second, .unset, .unset, .unset, .unset, .unset] [.long e2]
  refine s_lstore K at_182 (pc' := 184) rfl (Ls' := #[.val (.long p0), .second, .val (.long p1), .second, .val (.long p2), .second, .val (.long p3), .second, .val (.long p4), .second, .val (.ref b1), .val (.long q0), .second, .val (.long q1), .second, .val (.long q2), .second, .val (.long q3), .second, .val (.long q4), .second, .val (.long q5), .second, .val (.long q6), .second, .val (.long r1), .second, .val (.long r2), .second, .val (.long q6), .second, .val (.long e0), .second, .val (.long e1), .second, .val (.long e2), .second, .unset, .unset, .unset]) rfl ?_
  refine s_lload K at_184 (pc' := 186) rfl rfl ?_
  refine s_lload K at_186 (pc' := 188) rfl rfl ?_
  refine s_static K at_188 (pc' := 191) rfl (as := [.long p4, .long q6]) (c_mx hw [(b1, oLH (.ref k) (.ref u) (.int 4)), (k, .inr (.long, [.long R0, .long R1, .long R2, .long R3])), (u, .inr (.int, [.int (own_val R0), .int (own_val R1), .int (own_val R2), .int (own_val R3)]))] p4 q6) (w38 hw) (w39 hw) (w11 hw) (w40 hw) (by decide) pd_4 rfl (rest := []) rfl rfl (W := 0) (Nat.le_of_eq rfl) (by decide) (by decide) (ce' := 3) rfl (sl' := 11) rfl (by decide) (by decide) ?_
  rintro v _ ⟨rfl, rfl⟩
  obtain ⟨e3, he3⟩ : ∃ z, z = own_mx p4 q6 := ⟨_, rfl⟩
  rw [← he3]
  show Go l Z n0 _ _ κ 3 11 [(b1, oLH (.ref k) (.ref u) (.int 4)), (k, .inr (.long, [.long R0, .long R1, .long R2, .long R3])), (u, .inr (.int, [.int (own_val R0), .int (own_val R1), .int (own_val R2), .int (own_val R3)]))] 191 #[.val (.long p0), .second, .val (.long p1), .second, .val (.long p2), .second, .val (.long p3), .second, .val (.long p4), .second, .val (.ref b1), .val (.long q0), .second, .val (.long q1), .second, .val (.long q2), .second, .val (.long q3), .second, .val (.long q4), .second, .val (.long q5), .second, .val (.long q6), .second, .val (.long r1), .second, .val (.long r2), .second, .val (.long q6), .second, .val (.long e0), .second, .val (.long e1), .second, .val (.long e2), .second, .unset, .unset, .unset] [.long e3]
  refine s_lstore K at_191 (pc' := 193) rfl (Ls' := #[.val (.long p0), .second, .val (.long p1), .second, .val (.long p2), .second, .val (.long p3), .second, .val (.long p4), .second, .val (.ref b1), .val (.long q0), .second, .val (.long q1), .second, .val (.long q2), .second, .val (.long q3), .second, .val (.long q4), .second, .val (.long q5), .second, .val (.long q6), .second, .val (.long r1), .second, .val (.long r2), .second, .val (.long q6), .second, .val (.long e0), .second, .val (.long e1), .second, .val (.long e2), .second, .val (.long e3), .second, .unset]) rfl ?_
  have P0 := own_p0 hA0 hA1 hA2 hA3 oA3_0 oA3_1 oA3_2 hR hq0 hq1 hq2 hq3 hq4 hq5 hq6 hr1 hr2 he0 ht1 he1 ht2 he2 he3
  obtain ⟨se0, se1, se2, P1⟩ := P0
  have E0 := own_l4 oR0 oR1 oR2 se0 se1 se2 P1
  refine s_aload K at_193 (pc' := 195) rfl rfl rfl ?_
  refine s_virtual K at_195 (pc' := 198) rfl (k := 0) (a := b1) rfl (as := []) (c_size hw [(k, .inr (.long, [.long R0, .long R1, .long R2, .long R3])), (u, .inr (.int, [.int (own_val R0), .int (own_val R1), .int (own_val R2), .int (own_val R3)]))] b1 k u (4 : Int32)) (w41 hw) (w42 hw) (w44 hw) (w43 hw) (w2 hw) (w45 hw) (by decide) pd_5 rfl (rest := []) rfl rfl (W := 0) (Nat.le_of_eq rfl) (by decide) (by decide) (ce' := 3) rfl (sl' := 11) rfl (by decide) (by decide) ?_
  rintro v _ ⟨rfl, rfl⟩
  show Go l Z n0 _ _ κ 3 11 [(b1, oLH (.ref k) (.ref u) (.int 4)), (k, .inr (.long, [.long R0, .long R1, .long R2, .long R3])), (u, .inr (.int, [.int (own_val R0), .int (own_val R1), .int (own_val R2), .int (own_val R3)]))] 198 #[.val (.long p0), .second, .val (.long p1), .second, .val (.long p2), .second, .val (.long p3), .second, .val (.long p4), .second, .val (.ref b1), .val (.long q0), .second, .val (.long q1), .second, .val (.long q2), .second, .val (.long q3), .second, .val (.long q4), .second, .val (.long q5), .second, .val (.long q6), .second, .val (.long r1), .second, .val (.long r2), .second, .val (.long q6), .second, .val (.long e0), .second, .val (.long e1), .second, .val (.long e2), .second, .val (.long e3), .second, .unset] [.int 4]
  refine s_iconst K at_198 (pc' := 199) rfl (z := (4 : Int32)) rfl ?_
  refine s_icN K at_199 (pc' := 202) rfl rfl ?_
  refine s_iconst K at_202 (pc' := 203) rfl (z := (1 : Int32)) rfl ?_
  refine s_goto K at_203 (by decide) (pc' := 207) (by decide) ?_
  refine s_istore K at_207 (pc' := 209) rfl (Ls' := #[.val (.long p0), .second, .val (.long p1), .second, .val (.long p2), .second, .val (.long p3), .second, .val (.long p4), .second, .val (.ref b1), .val (.long q0), .second, .val (.long q1), .second, .val (.long q2), .second, .val (.long q3), .second, .val (.long q4), .second, .val (.long q5), .second, .val (.long q6), .second, .val (.long r1), .second, .val (.long r2), .second, .val (.long q6), .second, .val (.long e0), .second, .val (.long e1), .second, .val (.long e2), .second, .val (.long e3), .second, .val (.int 1)]) rfl ?_
  refine s_iload K at_209 (pc' := 211) rfl rfl ?_
  refine s_ifN K at_211 (pc' := 214) rfl rfl ?_
  refine s_aload K at_214 (pc' := 216) rfl rfl rfl ?_
  refine s_virtual K at_216 (pc' := 219) rfl (k := 0) (a := b1) rfl (as := []) (c_lk hw [] b1 k u R0 R1 R2 R3 (own_val R0) (own_val R1) (own_val R2) (own_val R3) (4 : Int32)) (w46 hw) (w47 hw) (w49 hw) (w48 hw) (w2 hw) (w50 hw) (by decide) pd_6 rfl (rest := []) rfl rfl (W := 0) (Nat.le_of_eq rfl) (by decide) (by decide) (ce' := 3) rfl (sl' := 11) rfl (by decide) (by decide) ?_
  rintro v _ ⟨rfl, rfl⟩
  show Go l Z n0 _ _ κ 3 11 [(b1, oLH (.ref k) (.ref u) (.int 4)), (k, .inr (.long, [.long R0, .long R1, .long R2, .long R3])), (u, .inr (.int, [.int (own_val R0), .int (own_val R1), .int (own_val R2), .int (own_val R3)]))] 219 #[.val (.long p0), .second, .val (.long p1), .second, .val (.long p2), .second, .val (.long p3), .second, .val (.long p4), .second, .val (.ref b1), .val (.long q0), .second, .val (.long q1), .second, .val (.long q2), .second, .val (.long q3), .second, .val (.long q4), .second, .val (.long q5), .second, .val (.long q6), .second, .val (.long r1), .second, .val (.long r2), .second, .val (.long q6), .second, .val (.long e0), .second, .val (.long e1), .second, .val (.long e2), .second, .val (.long e3), .second, .val (.int 1)] [.long R0]
  refine s_lload K at_219 (pc' := 221) rfl rfl ?_
  refine s_lcmp K at_221 (pc' := 222) rfl  ?_
  refine s_ifN K at_222 (pc' := 225) rfl (own_ne0 E0) ?_
  refine s_aload K at_225 (pc' := 227) rfl rfl rfl ?_
  refine s_virtual K at_227 (pc' := 230) rfl (k := 0) (a := b1) rfl (as := []) (c_lv hw [] b1 k u R0 R1 R2 R3 (own_val R0) (own_val R1) (own_val R2) (own_val R3) (4 : Int32)) (w51 hw) (w52 hw) (w54 hw) (w53 hw) (w2 hw) (w55 hw) (by decide) pd_5 rfl (rest := []) rfl rfl (W := 0) (Nat.le_of_eq rfl) (by decide) (by decide) (ce' := 3) rfl (sl' := 11) rfl (by decide) (by decide) ?_
  rintro v _ ⟨rfl, rfl⟩
  show Go l Z n0 _ _ κ 3 11 [(b1, oLH (.ref k) (.ref u) (.int 4)), (k, .inr (.long, [.long R0, .long R1, .long R2, .long R3])), (u, .inr (.int, [.int (own_val R0), .int (own_val R1), .int (own_val R2), .int (own_val R3)]))] 230 #[.val (.long p0), .second, .val (.long p1), .second, .val (.long p2), .second, .val (.long p3), .second, .val (.long p4), .second, .val (.ref b1), .val (.long q0), .second, .val (.long q1), .second, .val (.long q2), .second, .val (.long q3), .second, .val (.long q4), .second, .val (.long q5), .second, .val (.long q6), .second, .val (.long r1), .second, .val (.long r2), .second, .val (.long q6), .second, .val (.long e0), .second, .val (.long e1), .second, .val (.long e2), .second, .val (.long e3), .second, .val (.int 1)] [.int (own_val R0)]
  refine s_lload K at_230 (pc' := 232) rfl rfl ?_
  refine s_static K at_232 (pc' := 235) rfl (as := [.long e0]) (c_val hw [(b1, oLH (.ref k) (.ref u) (.int 4)), (k, .inr (.long, [.long R0, .long R1, .long R2, .long R3])), (u, .inr (.int, [.int (own_val R0), .int (own_val R1), .int (own_val R2), .int (own_val R3)]))] e0) (w19 hw) (w20 hw) (w21 hw) (w22 hw) (by decide) pd_3 rfl (rest := [.int (own_val R0)]) rfl rfl (W := 1) (Nat.le_of_eq rfl) (by decide) (by decide) (ce' := 3) rfl (sl' := 11) rfl (by decide) (by decide) ?_
  rintro v _ ⟨rfl, rfl⟩
  show Go l Z n0 _ _ κ 3 11 [(b1, oLH (.ref k) (.ref u) (.int 4)), (k, .inr (.long, [.long R0, .long R1, .long R2, .long R3])), (u, .inr (.int, [.int (own_val R0), .int (own_val R1), .int (own_val R2), .int (own_val R3)]))] 235 #[.val (.long p0), .second, .val (.long p1), .second, .val (.long p2), .second, .val (.long p3), .second, .val (.long p4), .second, .val (.ref b1), .val (.long q0), .second, .val (.long q1), .second, .val (.long q2), .second, .val (.long q3), .second, .val (.long q4), .second, .val (.long q5), .second, .val (.long q6), .second, .val (.long r1), .second, .val (.long r2), .second, .val (.long q6), .second, .val (.long e0), .second, .val (.long e1), .second, .val (.long e2), .second, .val (.long e3), .second, .val (.int 1)] [.int (own_val e0), .int (own_val R0)]
  refine s_icN K at_235 (pc' := 238) rfl (teq (congrArg own_val E0)).2 ?_
  refine s_iconst K at_238 (pc' := 239) rfl (z := (1 : Int32)) rfl ?_
  refine s_goto K at_239 (by decide) (pc' := 243) (by decide) ?_
  refine s_istore K at_243 (pc' := 245) rfl (Ls' := #[.val (.long p0), .second, .val (.long p1), .second, .val (.long p2), .second, .val (.long p3), .second, .val (.long p4), .second, .val (.ref b1), .val (.long q0), .second, .val (.long q1), .second, .val (.long q2), .second, .val (.long q3), .second, .val (.long q4), .second, .val (.long q5), .second, .val (.long q6), .second, .val (.long r1), .second, .val (.long r2), .second, .val (.long q6), .second, .val (.long e0), .second, .val (.long e1), .second, .val (.long e2), .second, .val (.long e3), .second, .val (.int 1)]) rfl ?_
  refine s_iload K at_245 (pc' := 247) rfl rfl ?_
  refine s_ifY K at_247 rfl (by decide) (pc' := 252) (by decide) ?_
  refine s_aload K at_252 (pc' := 254) rfl rfl rfl ?_
  refine s_virtual K at_254 (pc' := 257) rfl (k := 0) (a := b1) rfl (as := []) (c_rem4 hw [] b1 k u R0 R1 R2 R3 ) (w56 hw) (w57 hw) (w59 hw) (w58 hw) (w2 hw) (w60 hw) (by decide) pd_7 rfl (rest := []) rfl rfl (W := 0) (Nat.le_of_eq rfl) (by decide) (by decide) (ce' := 3) rfl (sl' := 11) rfl (by decide) (by decide) ?_
  rintro v _ ⟨rfl, N0, N1, N2, oN0, oN1, hN, rfl⟩
  show Go l Z n0 _ _ κ 3 11 [(b1, oLH (.ref k) (.ref u) (.int 3)), (k, .inr (.long, [.long N0, .long N1, .long N2, .long R3])), (u, .inr (.int, [.int (own_val N0), .int (own_val N1), .int (own_val N2), .int (own_val R3)]))] 257 #[.val (.long p0), .second, .val (.long p1), .second, .val (.long p2), .second, .val (.long p3), .second, .val (.long p4), .second, .val (.ref b1), .val (.long q0), .second, .val (.long q1), .second, .val (.long q2), .second, .val (.long q3), .second, .val (.long q4), .second, .val (.long q5), .second, .val (.long q6), .second, .val (.long r1), .second, .val (.long r2), .second, .val (.long q6), .second, .val (.long e0), .second, .val (.long e1), .second, .val (.long e2), .second, .val (.long e3), .second, .val (.int 1)] []
  have P2 := own_s4 E0 P1 hN
  have E1 := own_l3 oN0 oN1 se1 se2 P2
  refine s_aload K at_257 (pc' := 259) rfl rfl rfl ?_
  refine s_virtual K at_259 (pc' := 262) rfl (k := 0) (a := b1) rfl (as := []) (c_lk hw [] b1 k u N0 N1 N2 R3 (own_val N0) (own_val N1) (own_val N2) (own_val R3) (3 : Int32)) (w46 hw) (w47 hw) (w49 hw) (w48 hw) (w2 hw) (w50 hw) (by decide) pd_6 rfl (rest := []) rfl rfl (W := 0) (Nat.le_of_eq rfl) (by decide) (by decide) (ce' := 3) rfl (sl' := 11) rfl (by decide) (by decide) ?_
  rintro v _ ⟨rfl, rfl⟩
  show Go l Z n0 _ _ κ 3 11 [(b1, oLH (.ref k) (.ref u) (.int 3)), (k, .inr (.long, [.long N0, .long N1, .long N2, .long R3])), (u, .inr (.int, [.int (own_val N0), .int (own_val N1), .int (own_val N2), .int (own_val R3)]))] 262 #[.val (.long p0), .second, .val (.long p1), .second, .val (.long p2), .second, .val (.long p3), .second, .val (.long p4), .second, .val (.ref b1), .val (.long q0), .second, .val (.long q1), .second, .val (.long q2), .second, .val (.long q3), .second, .val (.long q4), .second, .val (.long q5), .second, .val (.long q6), .second, .val (.long r1), .second, .val (.long r2), .second, .val (.long q6), .second, .val (.long e0), .second, .val (.long e1), .second, .val (.long e2), .second, .val (.long e3), .second, .val (.int 1)] [.long N0]
  refine s_lload K at_262 (pc' := 264) rfl rfl ?_
  refine s_lcmp K at_264 (pc' := 265) rfl  ?_
  refine s_ifN K at_265 (pc' := 268) rfl (own_ne0 E1) ?_
  refine s_aload K at_268 (pc' := 270) rfl rfl rfl ?_
  refine s_virtual K at_270 (pc' := 273) rfl (k := 0) (a := b1) rfl (as := []) (c_lv hw [] b1 k u N0 N1 N2 R3 (own_val N0) (own_val N1) (own_val N2) (own_val R3) (3 : Int32)) (w51 hw) (w52 hw) (w54 hw) (w53 hw) (w2 hw) (w55 hw) (by decide) pd_5 rfl (rest := []) rfl rfl (W := 0) (Nat.le_of_eq rfl) (by decide) (by decide) (ce' := 3) rfl (sl' := 11) rfl (by decide) (by decide) ?_
  rintro v _ ⟨rfl, rfl⟩
  show Go l Z n0 _ _ κ 3 11 [(b1, oLH (.ref k) (.ref u) (.int 3)), (k, .inr (.long, [.long N0, .long N1, .long N2, .long R3])), (u, .inr (.int, [.int (own_val N0), .int (own_val N1), .int (own_val N2), .int (own_val R3)]))] 273 #[.val (.long p0), .second, .val (.long p1), .second, .val (.long p2), .second, .val (.long p3), .second, .val (.long p4), .second, .val (.ref b1), .val (.long q0), .second, .val (.long q1), .second, .val (.long q2), .second, .val (.long q3), .second, .val (.long q4), .second, .val (.long q5), .second, .val (.long q6), .second, .val (.long r1), .second, .val (.long r2), .second, .val (.long q6), .second, .val (.long e0), .second, .val (.long e1), .second, .val (.long e2), .second, .val (.long e3), .second, .val (.int 1)] [.int (own_val N0)]
  refine s_lload K at_273 (pc' := 275) rfl rfl ?_
  refine s_static K at_275 (pc' := 278) rfl (as := [.long e1]) (c_val hw [(b1, oLH (.ref k) (.ref u) (.int 3)), (k, .inr (.long, [.long N0, .long N1, .long N2, .long R3])), (u, .inr (.int, [.int (own_val N0), .int (own_val N1), .int (own_val N2), .int (own_val R3)]))] e1) (w19 hw) (w20 hw) (w21 hw) (w22 hw) (by decide) pd_3 rfl (rest := [.int (own_val N0)]) rfl rfl (W := 1) (Nat.le_of_eq rfl) (by decide) (by decide) (ce' := 3) rfl (sl' := 11) rfl (by decide) (by decide) ?_
  rintro v _ ⟨rfl, rfl⟩
  show Go l Z n0 _ _ κ 3 11 [(b1, oLH (.ref k) (.ref u) (.int 3)), (k, .inr (.long, [.long N0, .long N1, .long N2, .long R3])), (u, .inr (.int, [.int (own_val N0), .int (own_val N1), .int (own_val N2), .int (own_val R3)]))] 278 #[.val (.long p0), .second, .val (.long p1), .second, .val (.long p2), .second, .val (.long p3), .second, .val (.long p4), .second, .val (.ref b1), .val (.long q0), .second, .val (.long q1), .second, .val (.long q2), .second, .val (.long q3), .second, .val (.long q4), .second, .val (.long q5), .second, .val (.long q6), .second, .val (.long r1), .second, .val (.long r2), .second, .val (.long q6), .second, .val (.long e0), .second, .val (.long e1), .second, .val (.long e2), .second, .val (.long e3), .second, .val (.int 1)] [.int (own_val e1), .int (own_val N0)]
  refine s_icN K at_278 (pc' := 281) rfl (teq (congrArg own_val E1)).2 ?_
  refine s_iconst K at_281 (pc' := 282) rfl (z := (1 : Int32)) rfl ?_
  refine s_goto K at_282 (by decide) (pc' := 286) (by decide) ?_
  refine s_istore K at_286 (pc' := 288) rfl (Ls' := #[.val (.long p0), .second, .val (.long p1), .second, .val (.long p2), .second, .val (.long p3), .second, .val (.long p4), .second, .val (.ref b1), .val (.long q0), .second, .val (.long q1), .second, .val (.long q2), .second, .val (.long q3), .second, .val (.long q4), .second, .val (.long q5), .second, .val (.long q6), .second, .val (.long r1), .second, .val (.long r2), .second, .val (.long q6), .second, .val (.long e0), .second, .val (.long e1), .second, .val (.long e2), .second, .val (.long e3), .second, .val (.int 1)]) rfl ?_
  refine s_iload K at_288 (pc' := 290) rfl rfl ?_
  refine s_ifY K at_290 rfl (by decide) (pc' := 295) (by decide) ?_
  refine s_aload K at_295 (pc' := 297) rfl rfl rfl ?_
  refine s_virtual K at_297 (pc' := 300) rfl (k := 0) (a := b1) rfl (as := []) (c_rem3 hw [] b1 k u N0 N1 N2 R3 (own_val R3)) (w56 hw) (w57 hw) (w59 hw) (w58 hw) (w2 hw) (w60 hw) (by decide) pd_7 rfl (rest := []) rfl rfl (W := 0) (Nat.le_of_eq rfl) (by decide) (by decide) (ce' := 3) rfl (sl' := 11) rfl (by decide) (by decide) ?_
  rintro v _ ⟨rfl, O0, O1, oO0, hO, rfl⟩
  show Go l Z n0 _ _ κ 3 11 [(b1, oLH (.ref k) (.ref u) (.int 2)), (k, .inr (.long, [.long O0, .long O1, .long N2, .long R3])), (u, .inr (.int, [.int (own_val O0), .int (own_val O1), .int (own_val N2), .int (own_val R3)]))] 300 #[.val (.long p0), .second, .val (.long p1), .second, .val (.long p2), .second, .val (.long p3), .second, .val (.long p4), .second, .val (.ref b1), .val (.long q0), .second, .val (.long q1), .second, .val (.long q2), .second, .val (.long q3), .second, .val (.long q4), .second, .val (.long q5), .second, .val (.long q6), .second, .val (.long r1), .second, .val (.long r2), .second, .val (.long q6), .second, .val (.long e0), .second, .val (.long e1), .second, .val (.long e2), .second, .val (.long e3), .second, .val (.int 1)] []
  have P3 := own_s3 E1 P2 hO
  have E2 := own_l2 oO0 se2 P3
  refine s_aload K at_300 (pc' := 302) rfl rfl rfl ?_
  refine s_virtual K at_302 (pc' := 305) rfl (k := 0) (a := b1) rfl (as := []) (c_lk hw [] b1 k u O0 O1 N2 R3 (own_val O0) (own_val O1) (own_val N2) (own_val R3) (2 : Int32)) (w46 hw) (w47 hw) (w49 hw) (w48 hw) (w2 hw) (w50 hw) (by decide) pd_6 rfl (rest := []) rfl rfl (W := 0) (Nat.le_of_eq rfl) (by decide) (by decide) (ce' := 3) rfl (sl' := 11) rfl (by decide) (by decide) ?_
  rintro v _ ⟨rfl, rfl⟩
  show Go l Z n0 _ _ κ 3 11 [(b1, oLH (.ref k) (.ref u) (.int 2)), (k, .inr (.long, [.long O0, .long O1, .long N2, .long R3])), (u, .inr (.int, [.int (own_val O0), .int (own_val O1), .int (own_val N2), .int (own_val R3)]))] 305 #[.val (.long p0), .second, .val (.long p1), .second, .val (.long p2), .second, .val (.long p3), .second, .val (.long p4), .second, .val (.ref b1), .val (.long q0), .second, .val (.long q1), .second, .val (.long q2), .second, .val (.long q3), .second, .val (.long q4), .second, .val (.long q5), .second, .val (.long q6), .second, .val (.long r1), .second, .val (.long r2), .second, .val (.long q6), .second, .val (.long e0), .second, .val (.long e1), .second, .val (.long e2), .second, .val (.long e3), .second, .val (.int 1)] [.long O0]
  refine s_lload K at_305 (pc' := 307) rfl rfl ?_
  refine s_lcmp K at_307 (pc' := 308) rfl  ?_
  refine s_ifN K at_308 (pc' := 311) rfl (own_ne0 E2) ?_
  refine s_aload K at_311 (pc' := 313) rfl rfl rfl ?_
  refine s_virtual K at_313 (pc' := 316) rfl (k := 0) (a := b1) rfl (as := []) (c_lv hw [] b1 k u O0 O1 N2 R3 (own_val O0) (own_val O1) (own_val N2) (own_val R3) (2 : Int32)) (w51 hw) (w52 hw) (w54 hw) (w53 hw) (w2 hw) (w55 hw) (by decide) pd_5 rfl (rest := []) rfl rfl (W := 0) (Nat.le_of_eq rfl) (by decide) (by decide) (ce' := 3) rfl (sl' := 11) rfl (by decide) (by decide) ?_
  rintro v _ ⟨rfl, rfl⟩
  show Go l Z n0 _ _ κ 3 11 [(b1, oLH (.ref k) (.ref u) (.int 2)), (k, .inr (.long, [.long O0, .long O1, .long N2, .long R3])), (u, .inr (.int, [.int (own_val O0), .int (own_val O1), .int (own_val N2), .int (own_val R3)]))] 316 #[.val (.long p0), .second, .val (.long p1), .second, .val (.long p2), .second, .val (.long p3), .second, .val (.long p4), .second, .val (.ref b1), .val (.long q0), .second, .val (.long q1), .second, .val (.long q2), .second, .val (.long q3), .second, .val (.long q4), .second, .val (.long q5), .second, .val (.long q6), .second, .val (.long r1), .second, .val (.long r2), .second, .val (.long q6), .second, .val (.long e0), .second, .val (.long e1), .second, .val (.long e2), .second, .val (.long e3), .second, .val (.int 1)] [.int (own_val O0)]
  refine s_lload K at_316 (pc' := 318) rfl rfl ?_
  refine s_static K at_318 (pc' := 321) rfl (as := [.long e2]) (c_val hw [(b1, oLH (.ref k) (.ref u) (.int 2)), (k, .inr (.long, [.long O0, .long O1, .long N2, .long R3])), (u, .inr (.int, [.int (own_val O0), .int (own_val O1), .int (own_val N2), .int (own_val R3)]))] e2) (w19 hw) (w20 hw) (w21 hw) (w22 hw) (by decide) pd_3 rfl (rest := [.int (own_val O0)]) rfl rfl (W := 1) (Nat.le_of_eq rfl) (by decide) (by decide) (ce' := 3) rfl (sl' := 11) rfl (by decide) (by decide) ?_
  rintro v _ ⟨rfl, rfl⟩
  show Go l Z n0 _ _ κ 3 11 [(b1, oLH (.ref k) (.ref u) (.int 2)), (k, .inr (.long, [.long O0, .long O1, .long N2, .long R3])), (u, .inr (.int, [.int (own_val O0), .int (own_val O1), .int (own_val N2), .int (own_val R3)]))] 321 #[.val (.long p0), .second, .val (.long p1), .second, .val (.long p2), .second, .val (.long p3), .second, .val (.long p4), .second, .val (.ref b1), .val (.long q0), .second, .val (.long q1), .second, .val (.long q2), .second, .val (.long q3), .second, .val (.long q4), .second, .val (.long q5), .second, .val (.long q6), .second, .val (.long r1), .second, .val (.long r2), .second, .val (.long q6), .second, .val (.long e0), .second, .val (.long e1), .second, .val (.long e2), .second, .val (.long e3), .second, .val (.int 1)] [.int (own_val e2), .int (own_val O0)]
  refine s_icN K at_321 (pc' := 324) rfl (teq (congrArg own_val E2)).2 ?_
  refine s_iconst K at_324 (pc' := 325) rfl (z := (1 : Int32)) rfl ?_
  refine s_goto K at_325 (by decide) (pc' := 329) (by decide) ?_
  refine s_istore K at_329 (pc' := 331) rfl (Ls' := #[.val (.long p0), .second, .val (.long p1), .second, .val (.long p2), .second, .val (.long p3), .second, .val (.long p4), .second, .val (.ref b1), .val (.long q0), .second, .val (.long q1), .second, .val (.long q2), .second, .val (.long q3), .second, .val (.long q4), .second, .val (.long q5), .second, .val (.long q6), .second, .val (.long r1), .second, .val (.long r2), .second, .val (.long q6), .second, .val (.long e0), .second, .val (.long e1), .second, .val (.long e2), .second, .val (.long e3), .second, .val (.int 1)]) rfl ?_
  refine s_iload K at_331 (pc' := 333) rfl rfl ?_
  refine s_ifY K at_333 rfl (by decide) (pc' := 338) (by decide) ?_
  refine s_aload K at_338 (pc' := 340) rfl rfl rfl ?_
  refine s_virtual K at_340 (pc' := 343) rfl (k := 0) (a := b1) rfl (as := []) (c_rem2 hw [] b1 k u O0 O1 N2 R3 (own_val N2) (own_val R3)) (w56 hw) (w57 hw) (w59 hw) (w58 hw) (w2 hw) (w60 hw) (by decide) pd_7 rfl (rest := []) rfl rfl (W := 0) (Nat.le_of_eq rfl) (by decide) (by decide) (ce' := 3) rfl (sl' := 11) rfl (by decide) (by decide) ?_
  rintro v _ ⟨rfl, U0, hU, rfl⟩
  show Go l Z n0 _ _ κ 3 11 [(b1, oLH (.ref k) (.ref u) (.int 1)), (k, .inr (.long, [.long U0, .long O1, .long N2, .long R3])), (u, .inr (.int, [.int (own_val U0), .int (own_val O1), .int (own_val N2), .int (own_val R3)]))] 343 #[.val (.long p0), .second, .val (.long p1), .second, .val (.long p2), .second, .val (.long p3), .second, .val (.long p4), .second, .val (.ref b1), .val (.long q0), .second, .val (.long q1), .second, .val (.long q2), .second, .val (.long q3), .second, .val (.long q4), .second, .val (.long q5), .second, .val (.long q6), .second, .val (.long r1), .second, .val (.long r2), .second, .val (.long q6), .second, .val (.long e0), .second, .val (.long e1), .second, .val (.long e2), .second, .val (.long e3), .second, .val (.int 1)] []
  have E3 := own_s2 E2 P3 hU
  refine s_aload K at_343 (pc' := 345) rfl rfl rfl ?_
  refine s_virtual K at_345 (pc' := 348) rfl (k := 0) (a := b1) rfl (as := []) (c_lk hw [] b1 k u U0 O1 N2 R3 (own_val U0) (own_val O1) (own_val N2) (own_val R3) (1 : Int32)) (w46 hw) (w47 hw) (w49 hw) (w48 hw) (w2 hw) (w50 hw) (by decide) pd_6 rfl (rest := []) rfl rfl (W := 0) (Nat.le_of_eq rfl) (by decide) (by decide) (ce' := 3) rfl (sl' := 11) rfl (by decide) (by decide) ?_
  rintro v _ ⟨rfl, rfl⟩
  show Go l Z n0 _ _ κ 3 11 [(b1, oLH (.ref k) (.ref u) (.int 1)), (k, .inr (.long, [.long U0, .long O1, .long N2, .long R3])), (u, .inr (.int, [.int (own_val U0), .int (own_val O1), .int (own_val N2), .int (own_val R3)]))] 348 #[.val (.long p0), .second, .val (.long p1), .second, .val (.long p2), .second, .val (.long p3), .second, .val (.long p4), .second, .val (.ref b1), .val (.long q0), .second, .val (.long q1), .second, .val (.long q2), .second, .val (.long q3), .second, .val (.long q4), .second, .val (.long q5), .second, .val (.long q6), .second, .val (.long r1), .second, .val (.long r2), .second, .val (.long q6), .second, .val (.long e0), .second, .val (.long e1), .second, .val (.long e2), .second, .val (.long e3), .second, .val (.int 1)] [.long U0]
  refine s_lload K at_348 (pc' := 350) rfl rfl ?_
  refine s_lcmp K at_350 (pc' := 351) rfl  ?_
  refine s_ifN K at_351 (pc' := 354) rfl (own_ne0 E3) ?_
  refine s_aload K at_354 (pc' := 356) rfl rfl rfl ?_
  refine s_virtual K at_356 (pc' := 359) rfl (k := 0) (a := b1) rfl (as := []) (c_lv hw [] b1 k u U0 O1 N2 R3 (own_val U0) (own_val O1) (own_val N2) (own_val R3) (1 : Int32)) (w51 hw) (w52 hw) (w54 hw) (w53 hw) (w2 hw) (w55 hw) (by decide) pd_5 rfl (rest := []) rfl rfl (W := 0) (Nat.le_of_eq rfl) (by decide) (by decide) (ce' := 3) rfl (sl' := 11) rfl (by decide) (by decide) ?_
  rintro v _ ⟨rfl, rfl⟩
  show Go l Z n0 _ _ κ 3 11 [(b1, oLH (.ref k) (.ref u) (.int 1)), (k, .inr (.long, [.long U0, .long O1, .long N2, .long R3])), (u, .inr (.int, [.int (own_val U0), .int (own_val O1), .int (own_val N2), .int (own_val R3)]))] 359 #[.val (.long p0), .second, .val (.long p1), .second, .val (.long p2), .second, .val (.long p3), .second, .val (.long p4), .second, .val (.ref b1), .val (.long q0), .second, .val (.long q1), .second, .val (.long q2), .second, .val (.long q3), .second, .val (.long q4), .second, .val (.long q5), .second, .val (.long q6), .second, .val (.long r1), .second, .val (.long r2), .second, .val (.long q6), .second, .val (.long e0), .second, .val (.long e1), .second, .val (.long e2), .second, .val (.long e3), .second, .val (.int 1)] [.int (own_val U0)]
  refine s_lload K at_359 (pc' := 361) rfl rfl ?_
  refine s_static K at_361 (pc' := 364) rfl (as := [.long e3]) (c_val hw [(b1, oLH (.ref k) (.ref u) (.int 1)), (k, .inr (.long, [.long U0, .long O1, .long N2, .long R3])), (u, .inr (.int, [.int (own_val U0), .int (own_val O1), .int (own_val N2), .int (own_val R3)]))] e3) (w19 hw) (w20 hw) (w21 hw) (w22 hw) (by decide) pd_3 rfl (rest := [.int (own_val U0)]) rfl rfl (W := 1) (Nat.le_of_eq rfl) (by decide) (by decide) (ce' := 3) rfl (sl' := 11) rfl (by decide) (by decide) ?_
  rintro v _ ⟨rfl, rfl⟩
  show Go l Z n0 _ _ κ 3 11 [(b1, oLH (.ref k) (.ref u) (.int 1)), (k, .inr (.long, [.long U0, .long O1, .long N2, .long R3])), (u, .inr (.int, [.int (own_val U0), .int (own_val O1), .int (own_val N2), .int (own_val R3)]))] 364 #[.val (.long p0), .second, .val (.long p1), .second, .val (.long p2), .second, .val (.long p3), .second, .val (.long p4), .second, .val (.ref b1), .val (.long q0), .second, .val (.long q1), .second, .val (.long q2), .second, .val (.long q3), .second, .val (.long q4), .second, .val (.long q5), .second, .val (.long q6), .second, .val (.long r1), .second, .val (.long r2), .second, .val (.long q6), .second, .val (.long e0), .second, .val (.long e1), .second, .val (.long e2), .second, .val (.long e3), .second, .val (.int 1)] [.int (own_val e3), .int (own_val U0)]
  refine s_icN K at_364 (pc' := 367) rfl (teq (congrArg own_val E3)).2 ?_
  refine s_iconst K at_367 (pc' := 368) rfl (z := (1 : Int32)) rfl ?_
  refine s_goto K at_368 (by decide) (pc' := 372) (by decide) ?_
  exact s_zreturn K at_372 rfl (by decide) (by decide) rfl
set_option maxRecDepth 65536 in
set_option maxHeartbeats 400000000 in
theorem ef_law (m : MethodId) (p0 : Int64) (p1 : Int64) (p2 : Int64) (p3 : Int64) (p4 : Int64) : entryFrame m [.long p0, .long p1, .long p2, .long p3, .long p4].toArray maxLocals = mkF m 0 #[.val (.long p0), .second, .val (.long p1), .second, .val (.long p2), .second, .val (.long p3), .second, .val (.long p4), .second, .unset, .unset, .unset, .unset, .unset, .unset, .unset, .unset, .unset, .unset, .unset, .unset, .unset, .unset, .unset, .unset, .unset, .unset, .unset, .unset, .unset, .unset, .unset, .unset, .unset, .unset, .unset, .unset, .unset, .unset] [] := by
  have e : argsToLocals [.long p0, .long p1, .long p2, .long p3, .long p4].toArray maxLocals = #[.val (.long p0), .second, .val (.long p1), .second, .val (.long p2), .second, .val (.long p3), .second, .val (.long p4), .second] ++ Array.replicate 30 .unset := by simp [argsToLocals, Value.category, maxLocals]
  have e2 : #[.val (.long p0), .second, .val (.long p1), .second, .val (.long p2), .second, .val (.long p3), .second, .val (.long p4), .second] ++ Array.replicate 30 Slot.unset = #[.val (.long p0), .second, .val (.long p1), .second, .val (.long p2), .second, .val (.long p3), .second, .val (.long p4), .second, .unset, .unset, .unset, .unset, .unset, .unset, .unset, .unset, .unset, .unset, .unset, .unset, .unset, .unset, .unset, .unset, .unset, .unset, .unset, .unset, .unset, .unset, .unset, .unset, .unset, .unset, .unset, .unset, .unset, .unset] := Array.ext' (by rw [Array.toList_append, Array.toList_replicate]; rfl)
  exact congrArg (fun a => ({ method := m, pc := 0, locals := a, stack := [], locked := none } : JFrame)) (e.trans e2)
set_option maxRecDepth 65536 in
set_option maxHeartbeats 40000000 in
theorem comes_1 {Post : Tables → Env → Array Value → State → Outcome → State → Prop} (hpost : ∀ tb e args s v u, (limb_1_1.after args s (.returned v) u = true ∧ limb_1_2.after args s (.returned v) u = true ∧ True) → FrameEnd s (.returned v) u (Jvm.fieldLocs frame_1_writes args s ++ Jvm.arrayLocs frame_1_arrays args s ++ Jvm.staticLocs frame_1_statics s) 16 128 → Post tb e args s (.returned v) u) :
    ArmFor flags0 classFile x code maxLocals ret World_1 tables_1 room_1 Calls_1 rest_1 Pre_1 Post := by
  intro l hfl _ _ p e ha hc hk s m args below hf hA hF happ hP
  obtain ⟨hcalls, hrest, hpre⟩ := hP
  obtain ⟨-, -, -, hnamed, -, -, -, hat⟩ := (Spec.applies_iff hf).mp happ
  obtain ⟨hg, hn⟩ := and_e (Cond.before_iff.mp (show (Jvm.Cond.and given_1 narrow_1).before args s = true from hpre))
  obtain ⟨g0, r0⟩ := and_e hg
  obtain ⟨g1, r1⟩ := and_e r0
  obtain ⟨g2, r2⟩ := and_e r1
  obtain ⟨g3, r3⟩ := and_e r2
  obtain ⟨g4, r4⟩ := and_e r3
  obtain ⟨v0, v1, v2, v3, v4, rfl⟩ : ∃ v0 v1 v2 v3 v4 : Value, args = #[v0, v1, v2, v3, v4] := by
    have hs : args.size = 5 := by simpa [Cond.value, given_1] using g0
    obtain ⟨L⟩ := args
    match L, hs with
    | [v0, v1, v2, v3, v4], _ => exact ⟨v0, v1, v2, v3, v4, rfl⟩
  obtain ⟨i0, e0⟩ := isL_v g1
  obtain rfl : v0 = .long i0 := Option.some.inj e0
  obtain ⟨i1, e1⟩ := isL_v g2
  obtain rfl : v1 = .long i1 := Option.some.inj e1
  obtain ⟨i2, e2⟩ := isL_v g3
  obtain rfl : v2 = .long i2 := Option.some.inj e2
  obtain ⟨i3, e3⟩ := isL_v g4
  obtain rfl : v3 = .long i3 := Option.some.inj e3
  obtain ⟨i4, e4⟩ := isL_v r4
  obtain rfl : v4 = .long i4 := Option.some.inj e4
  have hw := fun d (hd : d ∈ tables_1) => atoms_spec (ws := Jvm.Cond.code x code maxLocals ret :: tables_1) hat d (List.mem_cons_of_mem _ hd)
  have W0 : Wo s s.heap.size s.heap [] := ⟨Old.start s, fun i x q => by simp at q, fun i j x y q => by simp at q⟩
  have M := enter (l := l) (ws := tables_1) (rm := room_1) (y := x) (bytes := code) (maxL := maxLocals) (ret := ret) (Q := fun v _ => v = some (.int 1)) (as := [.long i0, .long i1, .long i2, .long i3, .long i4]) W0 (by decide +kernel) (fun m => ef_law m i0 i1 i2 i3 i4) (fun κ K => go_law hw i0 i1 i2 i3 i4  κ K)
  obtain ⟨n, o, h1, h2, h3, _, Lc, rfl, ⟨N, L', rfl, -⟩, hq⟩ := M p e ha hc hk s m _ below hf ((Spec.applies_iff_loose hf).mp happ).1 ⟨rfl, State.Warmed39.refl s, rfl⟩ trivial
  refine ⟨n, _, h1, h2, h3, hpost _ _ _ _ _ _ ⟨Cond.after_iff.mpr rfl, Cond.after_iff.mpr (eq_i res_at (Term.int_eval (1)) rfl), trivial⟩ ⟨hq.1, hq.2.1, (hq.2.2.sift fun y hy => Or.inr (N y hy)).mono (by decide) (by decide)⟩⟩
theorem main_1_1 : Claimed_1_1 := comes_1 fun _ _ _ _ _ _ h hF => ⟨h.1, hF⟩
theorem main_1_2 : Claimed_1_2 := comes_1 fun _ _ _ _ _ _ h hF => ⟨h.2.1, hF⟩
end Jvm.Pilot.@@N@@
namespace Jvm.Pilot.@@N@@
open Jvm Jvm.ClassFile Sem Op Lib Jvm.Free Jvm.Stand Jvm.Pilot.@@N@@.Jvm.D
/-! MADE BY PROGRAM (witnessworld.py) out of the Statement's table words and the real class files: 12 classes; the members and pool entries that the words name. The judged class is class 1, her method 2. -/
namespace start1
open Jvm.ClassFile
def u (s : String) : CpInfo := .utf8 (stringToUtf16 s)
/-- a pool by its gaps: so many unusable entries, then the entry; so many at the end -/
def gap : Nat → List CpInfo → List CpInfo
  | 0, r => r
  | n + 1, r => .unusable :: gap n r
def poolList (es : List (Nat × CpInfo)) (last : Nat) : List CpInfo := es.foldr (fun e r => gap e.1 (e.2 :: r)) (gap last [])
def pool (es : List (Nat × CpInfo)) (last : Nat) : Array CpInfo := ⟨poolList es last⟩
def fileOf (pool : Array CpInfo) (this : Nat) (attrs : Array Attribute := #[]) (ms : Array MethodInfo := #[]) (fl : Nat := 33) (sup : Nat := 0) (ifs : Array Nat := #[]) (fds : Array FieldInfo := #[]) : ClassFile where
  minorVersion := 0
  majorVersion := 65
  constantPool := pool
  accessFlags := fl
  thisClass := this
  superClass := sup
  interfaces := ifs
  fields := fds
  methods := ms
  attributes := attrs
def plain (name : String) (sup : Option ClassId) : Class where
  name := name
  kind := .ordinary
  loader := none
  accessFlags := 33
  super := sup
  interfaces := #[]
  cf := none
  fields := #[]
  methods := #[]
  instanceTypes := #[]
  staticTypes := #[]
  resolved := #[]
  callSites := []
  init := .initialized
  statics := none
  mirror := none

def pool0 : Array CpInfo := pool [(5, u "<init>"), (0, u "()V"), (1, .class_ 10), (1, u "java/lang/Object")] 113

def k0c0 : Code := { maxStack := 0, maxLocals := 1, code := object_method_1_code, exceptionTable := #[], attributes := #[] }
def k0m0 : Method := { name := "<init>", desc := "()V", sig := { parameters := [], returnType := none }, accessFlags := 1, code := some k0c0 }
/-- java/lang/Object -/
def k0 : Class := { plain "java/lang/Object" none with
  accessFlags := 33
  interfaces := #[]
  cf := some (fileOf pool0 8 #[] #[{ accessFlags := 1, nameIndex := 5, descriptorIndex := 6, attributes := #[] }] 33 0 #[] #[])
  fields := #[]
  methods := #[k0m0]
  instanceTypes := #[]
  staticTypes := #[]
  resolved := Array.replicate 124 none
  statics := none }

def pool1 : Array CpInfo := pool [(2, .class_ 4), (1, u "java/lang/Object"), (0, u "<init>"), (0, u "()V"), (0, .class_ 8), (0, u "com/example/evenkeel/evenkeel/LongHeap"), (0, .methodref 7 10), (0, .nameAndType 5 11), (0, u "(I)V"), (0, .methodref 13 14), (0, .class_ 15), (0, .nameAndType 16 17), (0, u "com/example/evenkeel/evenkeel/LongHeapReplaceLeastPinLaw"), (0, u "val"), (0, u "(J)I"), (0, .methodref 7 19), (0, .nameAndType 20 21), (0, u "add"), (0, u "(JI)V"), (0, .methodref 7 23), (0, .nameAndType 24 21), (0, u "replaceLeast"), (0, .methodref 26 27), (0, .class_ 28), (0, .nameAndType 29 30), (0, u "java/lang/Math"), (0, u "min"), (0, u "(JJ)J"), (0, .methodref 26 32), (0, .nameAndType 33 30), (0, u "max"), (0, .methodref 7 35), (0, .nameAndType 36 37), (0, u "size"), (0, u "()I"), (0, .methodref 7 39), (0, .nameAndType 40 41), (0, u "leastKey"), (0, u "()J"), (0, .methodref 7 43), (0, .nameAndType 44 37), (0, u "leastValue"), (0, .methodref 7 46), (0, .nameAndType 47 6), (0, u "removeLeast"), (2, u "law"), (0, u "(JJJJJ)Z")] 3

def k1m0 : Method := { name := "<init>", desc := "()V", sig := { parameters := [], returnType := none }, accessFlags := 1, code := none }
def k1c1 : Code := { maxStack := 5, maxLocals := 2, code := method_2_code, exceptionTable := #[], attributes := #[] }
def k1m1 : Method := { name := "val", desc := "(J)I", sig := { parameters := [.long], returnType := some .int }, accessFlags := 10, code := some k1c1 }
def k1c2 : Code := { maxStack := 6, maxLocals := 40, code := code, exceptionTable := #[], attributes := #[] }
def k1m2 : Method := { name := "law", desc := "(JJJJJ)Z", sig := { parameters := [.long, .long, .long, .long, .long], returnType := some .boolean }, accessFlags := 9, code := some k1c2 }
/-- com/example/evenkeel/evenkeel/LongHeapReplaceLeastPinLaw -/
def k1 : Class := { plain "com/example/evenkeel/evenkeel/LongHeapReplaceLeastPinLaw" (some 0) with
  accessFlags := 49
  interfaces := #[]
  cf := some (fileOf pool1 13 #[] #[{ accessFlags := 1, nameIndex := 5, descriptorIndex := 6, attributes := #[] }, { accessFlags := 10, nameIndex := 16, descriptorIndex := 17, attributes := #[] }, { accessFlags := 9, nameIndex := 50, descriptorIndex := 51, attributes := #[] }] 49 2 #[] #[])
  fields := #[]
  methods := #[k1m0, k1m1, k1m2]
  instanceTypes := #[]
  staticTypes := #[]
  resolved := Array.replicate 55 none
  statics := none }

def pool2 : Array CpInfo := pool [(1, .methodref 2 3), (0, .class_ 4), (0, .nameAndType 5 6), (0, u "java/lang/Object"), (0, u "<init>"), (0, u "()V"), (0, .methodref 8 9), (0, .class_ 10), (0, .nameAndType 11 12), (0, u "java/lang/Math"), (0, u "max"), (0, u "(II)I"), (0, .fieldref 14 15), (0, .class_ 16), (0, .nameAndType 17 18), (0, u "com/example/evenkeel/evenkeel/LongHeap"), (0, u "keys"), (0, u "[J"), (0, .fieldref 14 20), (0, .nameAndType 21 22), (0, u "values"), (0, u "[I"), (0, .fieldref 14 24), (0, .nameAndType 25 26), (0, u "size"), (0, u "I"), (9, .methodref 14 37), (0, .nameAndType 38 39), (0, u "replaceLeast"), (0, u "(JI)V"), (0, u "(I)V"), (2, u "()I"), (0, u "leastKey"), (0, u "()J"), (0, u "leastValue"), (0, u "add"), (1, u "removeLeast")] 2

def k2c0 : Code := { maxStack := 3, maxLocals := 2, code := prog_65_method_1_code, exceptionTable := #[], attributes := #[] }
def k2m0 : Method := { name := "<init>", desc := "(I)V", sig := { parameters := [.int], returnType := none }, accessFlags := 0, code := some k2c0 }
def k2c1 : Code := { maxStack := 1, maxLocals := 1, code := prog_65_method_2_code, exceptionTable := #[], attributes := #[] }
def k2m1 : Method := { name := "size", desc := "()I", sig := { parameters := [], returnType := some .int }, accessFlags := 0, code := some k2c1 }
def k2c2 : Code := { maxStack := 2, maxLocals := 1, code := prog_65_method_3_code, exceptionTable := #[], attributes := #[] }
def k2m2 : Method := { name := "leastKey", desc := "()J", sig := { parameters := [], returnType := some .long }, accessFlags := 0, code := some k2c2 }
def k2c3 : Code := { maxStack := 2, maxLocals := 1, code := prog_65_method_4_code, exceptionTable := #[], attributes := #[] }
def k2m3 : Method := { name := "leastValue", desc := "()I", sig := { parameters := [], returnType := some .int }, accessFlags := 0, code := some k2c3 }
def k2c4 : Code := { maxStack := 4, maxLocals := 6, code := prog_65_method_5_code, exceptionTable := #[], attributes := #[] }
def k2m4 : Method := { name := "add", desc := "(JI)V", sig := { parameters := [.long, .int], returnType := none }, accessFlags := 0, code := some k2c4 }
def k2c5 : Code := { maxStack := 5, maxLocals := 1, code := prog_65_method_6_code, exceptionTable := #[], attributes := #[] }
def k2m5 : Method := { name := "removeLeast", desc := "()V", sig := { parameters := [], returnType := none }, accessFlags := 0, code := some k2c5 }
def k2c6 : Code := { maxStack := 4, maxLocals := 6, code := prog_65_method_7_code, exceptionTable := #[], attributes := #[] }
def k2m6 : Method := { name := "replaceLeast", desc := "(JI)V", sig := { parameters := [.long, .int], returnType := none }, accessFlags := 0, code := some k2c6 }
/-- com/example/evenkeel/evenkeel/LongHeap -/
def k2 : Class := { plain "com/example/evenkeel/evenkeel/LongHeap" (some 0) with
  accessFlags := 48
  interfaces := #[]
  cf := some (fileOf pool2 14 #[] #[{ accessFlags := 0, nameIndex := 5, descriptorIndex := 40, attributes := #[] }, { accessFlags := 0, nameIndex := 25, descriptorIndex := 43, attributes := #[] }, { accessFlags := 0, nameIndex := 44, descriptorIndex := 45, attributes := #[] }, { accessFlags := 0, nameIndex := 46, descriptorIndex := 43, attributes := #[] }, { accessFlags := 0, nameIndex := 47, descriptorIndex := 39, attributes := #[] }, { accessFlags := 0, nameIndex := 49, descriptorIndex := 6, attributes := #[] }, { accessFlags := 0, nameIndex := 38, descriptorIndex := 39, attributes := #[] }] 48 2 #[] #[{ accessFlags := 2, nameIndex := 17, descriptorIndex := 18, attributes := #[] }, { accessFlags := 2, nameIndex := 21, descriptorIndex := 22, attributes := #[] }, { accessFlags := 2, nameIndex := 25, descriptorIndex := 26, attributes := #[] }])
  fields := #[{ name := "keys", type := (.array .long), accessFlags := 2, slot := 0, constantValue := 0 }, { name := "values", type := (.array .int), accessFlags := 2, slot := 1, constantValue := 0 }, { name := "size", type := .int, accessFlags := 2, slot := 2, constantValue := 0 }]
  methods := #[k2m0, k2m1, k2m2, k2m3, k2m4, k2m5, k2m6]
  instanceTypes := #[(.array .long), (.array .int), .int]
  staticTypes := #[]
  resolved := Array.replicate 52 none
  statics := none }

def pool3 : Array CpInfo := pool [(1, .class_ 2), (0, u "java/lang/Math"), (1, .class_ 6), (1, u "java/lang/Object"), (0, u "<init>"), (0, u "()V"), (89, .class_ 100), (1, u "java/lang/Math$RandomNumberGeneratorHolder"), (20, u "(JJ)J"), (50, u "negativeZeroFloatBits"), (0, u "J"), (2, u "negativeZeroDoubleBits"), (21, u "max"), (2, u "min"), (43, u "$assertionsDisabled"), (0, u "Z"), (88, u "(II)I"), (2, u "twoToTheDoubleScaleDown"), (0, u "D"), (4, u "twoToTheDoubleScaleUp"), (9, u "E"), (3, u "PI"), (2, u "TAU"), (2, u "DEGREES_TO_RADIANS"), (0, u "RADIANS_TO_DEGREES")] 94

def k3m0 : Method := { name := "<init>", desc := "()V", sig := { parameters := [], returnType := none }, accessFlags := 2, code := none }
def k3c1 : Code := { maxStack := 2, maxLocals := 2, code := jdk_29_method_65_code, exceptionTable := #[], attributes := #[] }
def k3m1 : Method := { name := "max", desc := "(II)I", sig := { parameters := [.int, .int], returnType := some .int }, accessFlags := 9, code := some k3c1 }
def k3c2 : Code := { maxStack := 4, maxLocals := 4, code := jdk_29_method_66_code, exceptionTable := #[], attributes := #[] }
def k3m2 : Method := { name := "max", desc := "(JJ)J", sig := { parameters := [.long, .long], returnType := some .long }, accessFlags := 9, code := some k3c2 }
def k3c3 : Code := { maxStack := 4, maxLocals := 4, code := jdk_29_method_70_code, exceptionTable := #[], attributes := #[] }
def k3m3 : Method := { name := "min", desc := "(JJ)J", sig := { parameters := [.long, .long], returnType := some .long }, accessFlags := 9, code := some k3c3 }
/-- java/lang/Math -/
def k3 : Class := { plain "java/lang/Math" (some 0) with
  accessFlags := 49
  interfaces := #[]
  cf := some (fileOf pool3 1 #[.nestMembers #[98]] #[{ accessFlags := 2, nameIndex := 7, descriptorIndex := 8, attributes := #[] }, { accessFlags := 9, nameIndex := 198, descriptorIndex := 335, attributes := #[] }, { accessFlags := 9, nameIndex := 198, descriptorIndex := 121, attributes := #[] }, { accessFlags := 9, nameIndex := 201, descriptorIndex := 121, attributes := #[] }] 49 4 #[] #[{ accessFlags := 25, nameIndex := 354, descriptorIndex := 339, attributes := #[] }, { accessFlags := 25, nameIndex := 358, descriptorIndex := 339, attributes := #[] }, { accessFlags := 25, nameIndex := 361, descriptorIndex := 339, attributes := #[] }, { accessFlags := 26, nameIndex := 364, descriptorIndex := 339, attributes := #[] }, { accessFlags := 26, nameIndex := 365, descriptorIndex := 339, attributes := #[] }, { accessFlags := 26, nameIndex := 172, descriptorIndex := 173, attributes := #[] }, { accessFlags := 26, nameIndex := 176, descriptorIndex := 173, attributes := #[] }, { accessFlags := 8, nameIndex := 344, descriptorIndex := 339, attributes := #[] }, { accessFlags := 8, nameIndex := 338, descriptorIndex := 339, attributes := #[] }, { accessFlags := 4120, nameIndex := 245, descriptorIndex := 246, attributes := #[] }])
  fields := #[{ name := "E", type := .double, accessFlags := 25, slot := 0, constantValue := 0 }, { name := "PI", type := .double, accessFlags := 25, slot := 1, constantValue := 0 }, { name := "TAU", type := .double, accessFlags := 25, slot := 2, constantValue := 0 }, { name := "DEGREES_TO_RADIANS", type := .double, accessFlags := 26, slot := 3, constantValue := 0 }, { name := "RADIANS_TO_DEGREES", type := .double, accessFlags := 26, slot := 4, constantValue := 0 }, { name := "negativeZeroFloatBits", type := .long, accessFlags := 26, slot := 5, constantValue := 0 }, { name := "negativeZeroDoubleBits", type := .long, accessFlags := 26, slot := 6, constantValue := 0 }, { name := "twoToTheDoubleScaleUp", type := .double, accessFlags := 8, slot := 7, constantValue := 0 }, { name := "twoToTheDoubleScaleDown", type := .double, accessFlags := 8, slot := 8, constantValue := 0 }, { name := "$assertionsDisabled", type := .boolean, accessFlags := 4120, slot := 9, constantValue := 0 }]
  methods := #[k3m0, k3m1, k3m2, k3m3]
  instanceTypes := #[]
  staticTypes := #[.double, .double, .double, .double, .double, .long, .long, .double, .double, .boolean]
  resolved := Array.replicate 460 none
  statics := none }

def pool4 : Array CpInfo := pool [(1, u "java/lang/Cloneable"), (0, .class_ 1), (0, u "java/lang/Object"), (0, .class_ 3)] 3

/-- java/lang/Cloneable -/
def k4 : Class := { plain "java/lang/Cloneable" (some 0) with
  accessFlags := 1537
  interfaces := #[]
  cf := some (fileOf pool4 2 #[] #[] 1537 4 #[] #[])
  fields := #[]
  methods := #[]
  instanceTypes := #[]
  staticTypes := #[]
  resolved := Array.replicate 8 none
  statics := none }

def pool5 : Array CpInfo := pool [(1, u "java/io/Serializable"), (0, .class_ 1), (0, u "java/lang/Object"), (0, .class_ 3)] 3

/-- java/io/Serializable -/
def k5 : Class := { plain "java/io/Serializable" (some 0) with
  accessFlags := 1537
  interfaces := #[]
  cf := some (fileOf pool5 2 #[] #[] 1537 4 #[] #[])
  fields := #[]
  methods := #[]
  instanceTypes := #[]
  staticTypes := #[]
  resolved := Array.replicate 8 none
  statics := none }

/-- the primitive byte -/
def k6 : Class := { plain "byte" none with kind := .primitive 'B', accessFlags := 0x411 }
/-- [B -/
def k7 : Class := { plain "[B" (some 0) with kind := .array 6 .byte, interfaces := #[4, 5], accessFlags := 1041 }

/-- the primitive int -/
def k8 : Class := { plain "int" none with kind := .primitive 'I', accessFlags := 0x411 }
/-- [I -/
def k9 : Class := { plain "[I" (some 0) with kind := .array 8 .int, interfaces := #[4, 5], accessFlags := 1041 }

/-- the primitive long -/
def k10 : Class := { plain "long" none with kind := .primitive 'J', accessFlags := 0x411 }
/-- [J -/
def k11 : Class := { plain "[J" (some 0) with kind := .array 10 .long, interfaces := #[4, 5], accessFlags := 1041 }

def heap : Heap := #[]
def classes : Array Class := #[k0, k1, k2, k3, k4, k5, k6, k7, k8, k9, k10, k11]
def interned : List (Array UInt16 × Addr) := []
def slotsUsed : Nat := 0
def theMethod : MethodId := ⟨1, 2⟩
def args0 : Array Value := #[.long 7, .long 1, .long 2, .long 3, .long 4]
def aboutOver (below : List Frame) : State where
  vm := { classes := classes, interned := interned.toArray }
  heap := heap
  slotsUsed := slotsUsed
  threads := #[{ frames := .invoking theMethod args0 :: below }]
def below0 : List Frame := [.native { method := ⟨0, 0⟩, args := #[] }]
def about1 : State := aboutOver below0
def p0 : Program := .bare "" "" ""
def e0 : Env := launch0.env 0 0 0
theorem w_frames : about1.frames = Frame.invoking theMethod args0 :: below0 := rfl
set_option maxRecDepth 65536 in
theorem w_args : argsFit about1.vm theMethod args0 = true := by decide +kernel
set_option maxRecDepth 65536 in
theorem w_heap : heapFits about1 = true := by decide +kernel
set_option maxRecDepth 65536 in
theorem w_runnable : about1.curStatus? = some .runnable := by decide +kernel
set_option maxRecDepth 65536 in
theorem w_alone : about1.alone = true := by decide +kernel
set_option maxRecDepth 65536 in
theorem w_named : about1.methodNamed? x = some theMethod := by decide +kernel
set_option maxRecDepth 65536 in
theorem w_hears : about1.hears theMethod below0 = true := by decide +kernel
set_option maxRecDepth 65536 in
theorem w_ripe : about1.ripe theMethod args0 below0 = true := by decide +kernel
theorem w_running : about1.status = .running := rfl
set_option maxRecDepth 65536 in
theorem w_room : about1.hasRoom e0.platform room_1 = true :=
  launch0.hasRoom_least _ room_1 (by decide +kernel) (by decide +kernel) (by decide +kernel) (by decide +kernel) (by decide +kernel) (by decide +kernel)
theorem allAtoms_all (ts : List Jvm.Cond) (a : Array Jvm.Value) (st : Jvm.State) : (allAtoms ts).before a st = ts.all (fun c => c.before a st) := by
  induction ts with
  | nil => rfl
  | cons c t ih =>
    show (Jvm.Cond.and c (allAtoms t)).before a st = _
    rw [Jvm.Cond.before_and, ih, List.all_cons]
def words1 : List Jvm.Cond := Jvm.Cond.code x code maxLocals ret :: tables_1
/-- a 'code' word, met by the world's own term for the bytes: nothing is compared byte by byte -/
theorem code_word {y : MethodName} {bytes : ByteArray} {mx : Nat} {rt : Option FieldType} {a : Array Value} {s : State} {m : MethodId} {meth : Method} {c : Code} (h1 : s.methodNamed? y = some m) (h2 : s.vm.method? m = some meth) (h3 : meth.code = some c) (h4 : c.code = bytes)
    (h5 : (c.maxLocals == mx && c.exceptionTable.isEmpty && decide (c.maxStack ≤ mostOperands) && decide (meth.sig.returnType = rt) && !meth.locks && decide (parseMethodDescriptor y.desc = some meth.sig)) = true) : (Jvm.Cond.code y bytes mx rt).before a s = true := by
  simp only [Bool.and_eq_true, beq_iff_eq, Bool.not_eq_true', decide_eq_true_eq] at h5
  obtain ⟨⟨⟨⟨⟨g1, g2⟩, g3⟩, g4⟩, g5⟩, g6⟩ := h5
  simp [Cond.before, Cond.holds, Cond.value, h1, h2, h3, h4, g1, g2, g3, g4, g5, g6]
def isCode : Jvm.Cond → Bool
  | .code _ _ _ _ => true
  | _ => false
theorem all_split {L : List Jvm.Cond} {P : Jvm.Cond → Bool} (h1 : L.all (fun c => isCode c || P c) = true) (h2 : ∀ c ∈ L.filter isCode, P c = true) : L.all P = true := by
  refine List.all_eq_true.mpr fun c hc => ?_
  have h := List.all_eq_true.mp h1 c hc
  rcases Bool.eq_false_or_eq_true (isCode c) with hi | hi
  · exact h2 c (List.mem_filter.mpr ⟨hc, hi⟩)
  · simpa [hi] using h
set_option maxRecDepth 65536 in
theorem w_c0 : (Jvm.Cond.code x code maxLocals ret).before args0 about1 = true := code_word (m := ⟨1, 2⟩) (meth := k1m2) (c := k1c2) (by decide +kernel) rfl rfl rfl (by decide +kernel)
set_option maxRecDepth 65536 in
theorem w_c1 : (Jvm.Cond.code ({ cls := "com/example/evenkeel/evenkeel/LongHeap", name := "<init>", desc := "(I)V" } : Jvm.MethodName) prog_65_method_1_code (2 : Nat) (Option.none : Option Jvm.ClassFile.FieldType)).before args0 about1 = true := code_word (m := ⟨2, 0⟩) (meth := k2m0) (c := k2c0) (by decide +kernel) rfl rfl rfl (by decide +kernel)
set_option maxRecDepth 65536 in
theorem w_c2 : (Jvm.Cond.code ({ cls := "java/lang/Object", name := "<init>", desc := "()V" } : Jvm.MethodName) object_method_1_code (1 : Nat) (Option.none : Option Jvm.ClassFile.FieldType)).before args0 about1 = true := code_word (m := ⟨0, 0⟩) (meth := k0m0) (c := k0c0) (by decide +kernel) rfl rfl rfl (by decide +kernel)
set_option maxRecDepth 65536 in
theorem w_c3 : (Jvm.Cond.code ({ cls := "java/lang/Math", name := "max", desc := "(II)I" } : Jvm.MethodName) jdk_29_method_65_code (2 : Nat) (Option.some Jvm.ClassFile.FieldType.int)).before args0 about1 = true := code_word (m := ⟨3, 1⟩) (meth := k3m1) (c := k3c1) (by decide +kernel) rfl rfl rfl (by decide +kernel)
set_option maxRecDepth 65536 in
theorem w_c4 : (Jvm.Cond.code ({ cls := "com/example/evenkeel/evenkeel/LongHeapReplaceLeastPinLaw", name := "val", desc := "(J)I" } : Jvm.MethodName) method_2_code (2 : Nat) (Option.some Jvm.ClassFile.FieldType.int)).before args0 about1 = true := code_word (m := ⟨1, 1⟩) (meth := k1m1) (c := k1c1) (by decide +kernel) rfl rfl rfl (by decide +kernel)
set_option maxRecDepth 65536 in
theorem w_c5 : (Jvm.Cond.code ({ cls := "com/example/evenkeel/evenkeel/LongHeap", name := "add", desc := "(JI)V" } : Jvm.MethodName) prog_65_method_5_code (6 : Nat) (Option.none : Option Jvm.ClassFile.FieldType)).before args0 about1 = true := code_word (m := ⟨2, 4⟩) (meth := k2m4) (c := k2c4) (by decide +kernel) rfl rfl rfl (by decide +kernel)
set_option maxRecDepth 65536 in
theorem w_c6 : (Jvm.Cond.code ({ cls := "com/example/evenkeel/evenkeel/LongHeap", name := "replaceLeast", desc := "(JI)V" } : Jvm.MethodName) prog_65_method_7_code (6 : Nat) (Option.none : Option Jvm.ClassFile.FieldType)).before args0 about1 = true := code_word (m := ⟨2, 6⟩) (meth := k2m6) (c := k2c6) (by decide +kernel) rfl rfl rfl (by decide +kernel)
set_option maxRecDepth 65536 in
theorem w_c7 : (Jvm.Cond.code ({ cls := "java/lang/Math", name := "min", desc := "(JJ)J" } : Jvm.MethodName) jdk_29_method_70_code (4 : Nat) (Option.some Jvm.ClassFile.FieldType.long)).before args0 about1 = true := code_word (m := ⟨3, 3⟩) (meth := k3m3) (c := k3c3) (by decide +kernel) rfl rfl rfl (by decide +kernel)
set_option maxRecDepth 65536 in
theorem w_c8 : (Jvm.Cond.code ({ cls := "java/lang/Math", name := "max", desc := "(JJ)J" } : Jvm.MethodName) jdk_29_method_66_code (4 : Nat) (Option.some Jvm.ClassFile.FieldType.long)).before args0 about1 = true := code_word (m := ⟨3, 2⟩) (meth := k3m2) (c := k3c2) (by decide +kernel) rfl rfl rfl (by decide +kernel)
set_option maxRecDepth 65536 in
theorem w_c9 : (Jvm.Cond.code ({ cls := "com/example/evenkeel/evenkeel/LongHeap", name := "size", desc := "()I" } : Jvm.MethodName) prog_65_method_2_code (1 : Nat) (Option.some Jvm.ClassFile.FieldType.int)).before args0 about1 = true := code_word (m := ⟨2, 1⟩) (meth := k2m1) (c := k2c1) (by decide +kernel) rfl rfl rfl (by decide +kernel)
set_option maxRecDepth 65536 in
theorem w_c10 : (Jvm.Cond.code ({ cls := "com/example/evenkeel/evenkeel/LongHeap", name := "leastKey", desc := "()J" } : Jvm.MethodName) prog_65_method_3_code (1 : Nat) (Option.some Jvm.ClassFile.FieldType.long)).before args0 about1 = true := code_word (m := ⟨2, 2⟩) (meth := k2m2) (c := k2c2) (by decide +kernel) rfl rfl rfl (by decide +kernel)
set_option maxRecDepth 65536 in
theorem w_c11 : (Jvm.Cond.code ({ cls := "com/example/evenkeel/evenkeel/LongHeap", name := "leastValue", desc := "()I" } : Jvm.MethodName) prog_65_method_4_code (1 : Nat) (Option.some Jvm.ClassFile.FieldType.int)).before args0 about1 = true := code_word (m := ⟨2, 3⟩) (meth := k2m3) (c := k2c3) (by decide +kernel) rfl rfl rfl (by decide +kernel)
set_option maxRecDepth 65536 in
theorem w_c12 : (Jvm.Cond.code ({ cls := "com/example/evenkeel/evenkeel/LongHeap", name := "removeLeast", desc := "()V" } : Jvm.MethodName) prog_65_method_6_code (1 : Nat) (Option.none : Option Jvm.ClassFile.FieldType)).before args0 about1 = true := code_word (m := ⟨2, 5⟩) (meth := k2m5) (c := k2c5) (by decide +kernel) rfl rfl rfl (by decide +kernel)
def codes1 : List Jvm.Cond := [Jvm.Cond.code x code maxLocals ret, Jvm.Cond.code ({ cls := "com/example/evenkeel/evenkeel/LongHeap", name := "<init>", desc := "(I)V" } : Jvm.MethodName) prog_65_method_1_code (2 : Nat) (Option.none : Option Jvm.ClassFile.FieldType), Jvm.Cond.code ({ cls := "java/lang/Object", name := "<init>", desc := "()V" } : Jvm.MethodName) object_method_1_code (1 : Nat) (Option.none : Option Jvm.ClassFile.FieldType), Jvm.Cond.code ({ cls := "java/lang/Math", name := "max", desc := "(II)I" } : Jvm.MethodName) jdk_29_method_65_code (2 : Nat) (Option.some Jvm.ClassFile.FieldType.int), Jvm.Cond.code ({ cls := "com/example/evenkeel/evenkeel/LongHeapReplaceLeastPinLaw", name := "val", desc := "(J)I" } : Jvm.MethodName) method_2_code (2 : Nat) (Option.some Jvm.ClassFile.FieldType.int), Jvm.Cond.code ({ cls := "com/example/evenkeel/evenkeel/LongHeap", name := "add", desc := "(JI)V" } : Jvm.MethodName) prog_65_method_5_code (6 : Nat) (Option.none : Option Jvm.ClassFile.FieldType), Jvm.Cond.code ({ cls := "com/example/evenkeel/evenkeel/LongHeap", name := "replaceLeast", desc := "(JI)V" } : Jvm.MethodName) prog_65_method_7_code (6 : Nat) (Option.none : Option Jvm.ClassFile.FieldType), Jvm.Cond.code ({ cls := "java/lang/Math", name := "min", desc := "(JJ)J" } : Jvm.MethodName) jdk_29_method_70_code (4 : Nat) (Option.some Jvm.ClassFile.FieldType.long), Jvm.Cond.code ({ cls := "java/lang/Math", name := "max", desc := "(JJ)J" } : Jvm.MethodName) jdk_29_method_66_code (4 : Nat) (Option.some Jvm.ClassFile.FieldType.long), Jvm.Cond.code ({ cls := "com/example/evenkeel/evenkeel/LongHeap", name := "size", desc := "()I" } : Jvm.MethodName) prog_65_method_2_code (1 : Nat) (Option.some Jvm.ClassFile.FieldType.int), Jvm.Cond.code ({ cls := "com/example/evenkeel/evenkeel/LongHeap", name := "leastKey", desc := "()J" } : Jvm.MethodName) prog_65_method_3_code (1 : Nat) (Option.some Jvm.ClassFile.FieldType.long), Jvm.Cond.code ({ cls := "com/example/evenkeel/evenkeel/LongHeap", name := "leastValue", desc := "()I" } : Jvm.MethodName) prog_65_method_4_code (1 : Nat) (Option.some Jvm.ClassFile.FieldType.int), Jvm.Cond.code ({ cls := "com/example/evenkeel/evenkeel/LongHeap", name := "removeLeast", desc := "()V" } : Jvm.MethodName) prog_65_method_6_code (1 : Nat) (Option.none : Option Jvm.ClassFile.FieldType)]
set_option maxRecDepth 65536 in
theorem codes_eq : words1.filter isCode = codes1 := rfl
theorem w_codes : ∀ c ∈ words1.filter isCode, c.before args0 about1 = true := by
  rw [codes_eq]
  intro c hc
  simp only [codes1, List.mem_cons, List.not_mem_nil, or_false] at hc
  rcases hc with rfl | rfl | rfl | rfl | rfl | rfl | rfl | rfl | rfl | rfl | rfl | rfl | rfl
  · exact w_c0
  · exact w_c1
  · exact w_c2
  · exact w_c3
  · exact w_c4
  · exact w_c5
  · exact w_c6
  · exact w_c7
  · exact w_c8
  · exact w_c9
  · exact w_c10
  · exact w_c11
  · exact w_c12
set_option maxRecDepth 65536 in
theorem w_t1 : (words1.take 24).all (fun c => isCode c || c.before args0 about1) = true := by decide +kernel
set_option maxRecDepth 65536 in
theorem w_t2 : ((words1.drop 24).take 24).all (fun c => isCode c || c.before args0 about1) = true := by decide +kernel
set_option maxRecDepth 65536 in
theorem w_t3 : ((words1.drop 24).drop 24).all (fun c => isCode c || c.before args0 about1) = true := by decide +kernel
theorem w_tables : (allAtoms (Jvm.Cond.code x code maxLocals ret :: tables_1)).before args0 about1 = true := by
  rw [allAtoms_all]
  show words1.all (fun c => c.before args0 about1) = true
  refine all_split ?_ w_codes
  rw [← List.take_append_drop 24 words1, List.all_append, w_t1, ← List.take_append_drop 24 (words1.drop 24), List.all_append, w_t2, w_t3]
  rfl
set_option maxRecDepth 65536 in
theorem w_case : (Jvm.Cond.and given_1 narrow_1).before args0 about1 = true := by decide +kernel
theorem w_applies : (headSpec (Jvm.Cond.code x code maxLocals ret :: tables_1) room_1).applies x e0.platform about1 = true :=
  (Spec.applies_iff w_frames).mpr ⟨w_running, w_runnable, w_alone, w_named, w_hears, w_ripe, w_room, w_tables⟩
theorem atStart : AtStart classFile x code maxLocals ret World_1 tables_1 room_1 Calls_1 rest_1 Pre_1 launch0 p0 e0 about1 theMethod args0 below0 :=
  ⟨lists_1, trivial, launch0.admits_env _ _ _, launch0.least_env, fairChoices_fair.cas, fairChoices_fair.clock, w_frames, w_args, w_heap, w_applies, trivial, trivial, w_case⟩
end start1
theorem witness_1 : WitnessClaimed_1 := ⟨start1.p0, start1.e0, start1.about1, start1.theMethod, start1.args0, start1.below0, start1.atStart⟩
end Jvm.Pilot.@@N@@
