import JvmDerived
import JvmDerived.Pilot.@@N@@Statement
import JvmDerived.Pilot.@@N@@Code
set_option linter.unusedVariables false
set_option linter.unusedSimpArgs false
namespace Jvm.OwnKit
open Sem ClassFile Op Lib Jvm.Stand Jvm.Free Jvm.LawKit Jvm.RoadKit
/-! A layer of this workplace's own over the road kit: the heap made since the law began, as one list of cells by their places ('Wd'), and what is left to run ('Go'), step by step, backwards. -/
abbrev Fl := String × String × String × Value
abbrev Ob := (String × List Fl) ⊕ (FieldType × List Value)
abbrev Wd := List (Addr × Ob)
def Av (Z : State) (h : Heap) (a : Addr) (ty : FieldType) (vs : List Value) : Prop :=
  ∃ c : Cell, Arr Z h a c ty ∧ c.slots.toList = vs ∧ vs.length < 2 ^ 31 ∧ (∀ v ∈ vs, fits ty v = true) ∧ Exa Z h a ("[" ++ ty.toString)
def Hol (Z : State) (h : Heap) (a : Addr) : Ob → Prop
  | .inl (C, fs) => Exa Z h a C ∧ (∀ (i : Nat) (f : Fl), fs[i]? = some f → Fld Z h a f.1 f.2.1 f.2.2.1 f.2.2.2) ∧
      ∀ (i j : Nat) (f g : Fl), fs[i]? = some f → fs[j]? = some g → i ≠ j → Jvm.RoadKit.slotOf Z f.1 f.2.1 f.2.2.1 ≠ Jvm.RoadKit.slotOf Z g.1 g.2.1 g.2.2.1
  | .inr (ty, vs) => Av Z h a ty vs
def Wo (Z : State) (n0 : Nat) (h : Heap) (L : Wd) : Prop :=
  Old Z n0 h ∧ (∀ (i : Nat) (x : Addr × Ob), L[i]? = some x → n0 ≤ x.1 ∧ Hol Z h x.1 x.2) ∧
    ∀ (i j : Nat) (x y : Addr × Ob), L[i]? = some x → L[j]? = some y → x.1 = y.1 → i = j
section Facts
variable {Z : State} {h h' : Heap} {a b : Addr} {n0 : Nat} {L : Wd} {ty : FieldType} {vs : List Value} {o : Ob} {v : Value} {sl : Nat}
theorem Av.lt (A : Av Z h a ty vs) : a < h.size := by obtain ⟨c, h1, -⟩ := A; exact h1.lt
theorem Av.ext (A : Av Z h a ty vs) (E : Ext h h') : Av Z h' a ty vs := by
  obtain ⟨c, h1, h2, h3, h4, h5⟩ := A; exact ⟨c, h1.ext E, h2, h3, h4, h5.ext E⟩
theorem Av.other (A : Av Z h b ty vs) (W : Wr h h' a sl v) (q : b ≠ a) : Av Z h' b ty vs := by
  obtain ⟨c, h1, h2, h3, h4, h5⟩ := A; exact ⟨c, h1.other W q, h2, h3, h4, h5.wr W⟩
theorem Av.same (A : Av Z h a ty vs) {i : Nat} (W : Wr h h' a i v) (hv : fits ty v = true) : Av Z h' a ty (vs.set i v) := by
  obtain ⟨c, h1, h2, h3, h4, h5⟩ := A
  refine ⟨_, h1.same W, ?_, by simpa using h3, fun w hw => ?_, h5.wr W⟩
  · subst h2; simp [Cell.setSlot]
  · rcases List.mem_or_eq_of_mem_set hw with q | q
    · exact h4 w q
    · rw [q]; exact hv
theorem Av.keep {ws : List Addr} (A : Av Z h a ty vs) (K : Keep h h' ws) (q : a ∉ ws) : Av Z h' a ty vs := by
  obtain ⟨c, h1, h2, h3, h4, h5⟩ := A; exact ⟨c, ⟨K.2.1 a c h1.1 q, h1.2⟩, h2, h3, h4, h5.keep K⟩
theorem Hol.lt (H : Hol Z h a o) : a < h.size := by
  rcases o with ⟨C, fs⟩ | ⟨ty, vs⟩
  · exact H.1.lt
  · exact Av.lt H
theorem Hol.ext (H : Hol Z h a o) (E : Ext h h') : Hol Z h' a o := by
  rcases o with ⟨C, fs⟩ | ⟨ty, vs⟩
  · exact ⟨H.1.ext E, fun i f q => (H.2.1 i f q).ext E, H.2.2⟩
  · exact Av.ext H E
theorem Hol.other (H : Hol Z h b o) (W : Wr h h' a sl v) (q : b ≠ a) : Hol Z h' b o := by
  rcases o with ⟨C, fs⟩ | ⟨ty, vs⟩
  · exact ⟨H.1.wr W, fun i f r => (H.2.1 i f r).other W (Or.inl q), H.2.2⟩
  · exact Av.other H W q
theorem Hol.keep {ws : List Addr} (H : Hol Z h a o) (K : Keep h h' ws) (q : a ∉ ws) : Hol Z h' a o := by
  rcases o with ⟨C, fs⟩ | ⟨ty, vs⟩
  · exact ⟨H.1.keep K, fun i f r => (H.2.1 i f r).keep K q, H.2.2⟩
  · exact Av.keep H K q
theorem get_set {α : Type} {xs : List α} {k i : Nat} {x y : α} (h : (xs.set k y)[i]? = some x) : (i = k ∧ x = y) ∨ (i ≠ k ∧ xs[i]? = some x) := by
  by_cases q : k = i
  · subst q
    rw [List.getElem?_set_self'] at h
    left; refine ⟨rfl, ?_⟩
    cases hx : xs[k]? with
    | none => rw [hx] at h; cases h
    | some z => rw [hx] at h; exact (Option.some.inj h).symm
  · right; exact ⟨Ne.symm q, by rwa [List.getElem?_set_ne q] at h⟩
theorem nodup_inj {xs : List String} (h : xs.Nodup) {i j : Nat} {s : String} (hi : xs[i]? = some s) (hj : xs[j]? = some s) : i = j := by
  obtain ⟨i1, i2⟩ := List.getElem?_eq_some_iff.mp hi
  obtain ⟨j1, j2⟩ := List.getElem?_eq_some_iff.mp hj
  have p := List.pairwise_iff_getElem.mp h
  rcases Nat.lt_trichotomy i j with q | q | q
  · exact absurd (i2.trans j2.symm) (p i j i1 j1 q)
  · exact q
  · exact absurd (j2.trans i2.symm) (p j i j1 i1 q)
theorem gne {α : Type} {xs : List α} {k i : Nat} {y : α} {r : Option α} (q : k ≠ i) (h : xs[i]? = r) : (xs.set k y)[i]? = r := by rw [List.getElem?_set_ne q]; exact h
theorem gse {α : Type} {xs : List α} {k : Nat} {x y : α} (h : xs[k]? = some x) : (xs.set k y)[k]? = some y := by
  rw [List.getElem?_set_self (List.getElem?_eq_some_iff.mp h).1]
theorem Wo.ge (W : Wo Z n0 h L) {k : Nat} (hk : L[k]? = some (a, o)) : n0 ≤ a := (W.2.1 k _ hk).1
theorem Wo.at (W : Wo Z n0 h L) {k : Nat} (hk : L[k]? = some (a, o)) : Hol Z h a o := (W.2.1 k _ hk).2
theorem Wo.le (W : Wo Z n0 h L) : n0 ≤ h.size := Nat.le_trans (Nat.le_of_eq W.1.1.symm) W.1.2.1
theorem Wo.ext (W : Wo Z n0 h L) (E : Ext h h') : Wo Z n0 h' L := ⟨W.1.ext E, fun i x q => ⟨(W.2.1 i x q).1, (W.2.1 i x q).2.ext E⟩, W.2.2⟩
theorem Wo.set (W : Wo Z n0 h L) {k : Nat} {o' : Ob} (hk : L[k]? = some (a, o)) (hs : Old Z n0 h') (hn : Hol Z h' a o') (ho : ∀ b o1, b ≠ a → Hol Z h b o1 → Hol Z h' b o1) : Wo Z n0 h' (L.set k (a, o')) := by
  refine ⟨hs, fun i x q => ?_, fun i j x y q r e => ?_⟩
  · rcases get_set q with ⟨rfl, rfl⟩ | ⟨ne, q⟩
    · exact ⟨W.ge hk, hn⟩
    · refine ⟨(W.2.1 i x q).1, ho _ _ (fun z => ne (W.2.2 i k x _ q hk z)) (W.2.1 i x q).2⟩
  · rcases get_set q with ⟨ei, ex⟩ | ⟨ne, q⟩ <;> rcases get_set r with ⟨ej, ey⟩ | ⟨ne', r⟩
    · rw [ei, ej]
    · rw [ex] at e; rw [ei]; exact W.2.2 k j _ _ hk r e
    · rw [ey] at e; rw [ej]; exact W.2.2 i k _ _ q hk e
    · exact W.2.2 _ _ _ _ q r e
theorem Wo.fld (W : Wo Z n0 h L) {k j : Nat} {C O n d : String} {fs : List Fl} {old : Value} (hk : L[k]? = some (a, .inl (C, fs))) (hj : fs[j]? = some (O, n, d, old)) (w : Wr h h' a (Jvm.RoadKit.slotOf Z O n d) v) :
    Wo Z n0 h' (L.set k (a, .inl (C, fs.set j (O, n, d, v)))) := by
  refine W.set hk (W.1.wr w (W.ge hk)) ?_ (fun b o1 ne H => H.other w ne)
  obtain ⟨h1, h2, h3⟩ := W.at hk
  refine ⟨h1.wr w, fun i f q => ?_, fun i i' f g q r ne => ?_⟩
  · rcases get_set q with ⟨ei, ef⟩ | ⟨ne, q⟩
    · rw [ef]
      have q2 : Fld Z h a O n d old := h2 j (O, n, d, old) hj
      show Fld Z h' a O n d v
      exact Fld.same w q2
    · have q2 : Jvm.RoadKit.slotOf Z f.1 f.2.1 f.2.2.1 ≠ Jvm.RoadKit.slotOf Z O n d := h3 i j f (O, n, d, old) q hj ne
      exact Fld.other w (h2 i f q) (Or.inr q2)
  · rcases get_set q with ⟨ei, ef⟩ | ⟨n1, q⟩ <;> rcases get_set r with ⟨ej, eg⟩ | ⟨n2, r⟩
    · exact absurd (ei.trans ej.symm) ne
    · rw [ef]; exact h3 j i' (O, n, d, old) g hj r (fun z => ne (ei.trans z))
    · rw [eg]; exact h3 i j f (O, n, d, old) q hj (fun z => ne (z.trans ej.symm))
    · exact h3 _ _ _ _ q r ne
theorem Wo.arr (W : Wo Z n0 h L) {k i : Nat} (hk : L[k]? = some (a, .inr (ty, vs))) (hv : fits ty v = true) (w : Wr h h' a i v) : Wo Z n0 h' (L.set k (a, .inr (ty, vs.set i v))) :=
  W.set hk (W.1.wr w (W.ge hk)) (Av.same (W.at hk) w hv) (fun b o1 ne H => H.other w ne)
theorem Wo.add (W : Wo Z n0 h L) (E : Ext h h') (H : Hol Z h' h.size o) : Wo Z n0 h' ((h.size, o) :: L) := by
  have lt : ∀ (i : Nat) (x : Addr × Ob), L[i]? = some x → x.1 < h.size := fun i x q => (W.2.1 i x q).2.lt
  refine ⟨W.1.ext E, fun i x q => ?_, fun i j x y q r e => ?_⟩
  · cases i with
    | zero => cases q; exact ⟨W.le, H⟩
    | succ i => rw [List.getElem?_cons_succ] at q; exact ⟨(W.2.1 i x q).1, (W.2.1 i x q).2.ext E⟩
  · cases i with
    | zero =>
      cases j with
      | zero => rfl
      | succ j => rw [List.getElem?_cons_succ] at r; cases q; have := lt j y r; rw [← e] at this; exact absurd this (Nat.lt_irrefl _)
    | succ i =>
      rw [List.getElem?_cons_succ] at q
      cases j with
      | zero => cases r; have := lt i x q; rw [e] at this; exact absurd this (Nat.lt_irrefl _)
      | succ j => rw [List.getElem?_cons_succ] at r; exact congrArg (· + 1) (W.2.2 _ _ _ _ q r e)
theorem Wo.front (W : Wo Z n0 h L) {k : Nat} {x : Addr × Ob} (hk : L[k]? = some x) : Wo Z n0 h (x :: L.eraseIdx k) := by
  have f : ∀ (i : Nat) (y : Addr × Ob), (L.eraseIdx k)[i]? = some y → ∃ j, L[j]? = some y ∧ j ≠ k ∧ j = if i < k then i else i + 1 := fun i y q => by
    rw [List.getElem?_eraseIdx] at q
    by_cases z : i < k
    · rw [if_pos z] at q; exact ⟨i, q, Nat.ne_of_lt z, by rw [if_pos z]⟩
    · rw [if_neg z] at q; exact ⟨i + 1, q, by omega, by rw [if_neg z]⟩
  refine ⟨W.1, fun i y q => ?_, fun i j y z q r e => ?_⟩
  · cases i with
    | zero => cases q; exact W.2.1 k _ hk
    | succ i => rw [List.getElem?_cons_succ] at q; obtain ⟨j, q1, -⟩ := f i y q; exact W.2.1 j y q1
  · cases i with
    | zero =>
      cases j with
      | zero => rfl
      | succ j => rw [List.getElem?_cons_succ] at r; cases q; obtain ⟨j', q1, ne, -⟩ := f j z r; exact absurd (W.2.2 _ _ _ _ hk q1 e).symm ne
    | succ i =>
      rw [List.getElem?_cons_succ] at q
      obtain ⟨i', q1, ne, e1⟩ := f i y q
      cases j with
      | zero => cases r; exact absurd (W.2.2 _ _ _ _ q1 hk e) ne
      | succ j =>
        rw [List.getElem?_cons_succ] at r
        obtain ⟨j', r1, -, e2⟩ := f j z r
        have := W.2.2 _ _ _ _ q1 r1 e
        rw [e1, e2] at this
        split at this <;> split at this <;> omega
theorem Wo.drop (W : Wo Z n0 h L) (k : Nat) : Wo Z n0 h (L.eraseIdx k) := by
  cases hk : L[k]? with
  | none => rw [List.eraseIdx_of_length_le (List.getElem?_eq_none_iff.mp hk)]; exact W
  | some x =>
    have F := W.front hk
    exact ⟨F.1, fun i y q => F.2.1 (i + 1) y q, fun i j y z q r e => Nat.succ.inj (F.2.2 (i + 1) (j + 1) y z q r e)⟩
/-- the index j (an int) is the place i -/
def Ix (j : Int32) (i : Nat) : Prop := ¬ j < 0 ∧ j.toNatClampNeg = i
instance (j : Int32) (i : Nat) : Decidable (Ix j i) := by unfold Ix; exact inferInstance
theorem Ix.ofNat {i : Nat} (h : i < 2 ^ 31) : Ix (Int32.ofNat i) i := by
  have e : (Int32.ofNat i).toInt = i := Int32.toInt_ofNat_of_lt h
  refine ⟨?_, by simp only [Int32.toNatClampNeg, e]; rfl⟩
  rw [Int32.lt_iff_toInt_lt, e]; show ¬ (i : Int) < 0; omega
theorem ltB {i n : Nat} (h : Nat.blt i n = true) : i < n := by simpa using h
theorem Av.inb {c : Cell} {j : Int32} {i : Nat} (hc : c.slots.toList = vs) (hj : Ix j i) (hi : i < vs.length) : ¬ (j < 0 ∨ c.slots.size ≤ j.toNatClampNeg) := by
  rintro (q | q)
  · exact hj.1 q
  · rw [hj.2] at q; subst hc; rw [Array.length_toList] at hi; omega
theorem Av.val {c : Cell} {i : Nat} (hc : c.slots.toList = vs) (hi : vs[i]? = some v) : c.slots[i]? = some v := by
  subst hc; rw [← hi]; simp
end Facts
abbrev Ctx := Program × Env × State × MethodId × Array Value × List Frame × Method × Code
abbrev Ctx.p (κ : Ctx) : Program := κ.1
abbrev Ctx.e (κ : Ctx) : Env := κ.2.1
abbrev Ctx.s (κ : Ctx) : State := κ.2.2.1
abbrev Ctx.m (κ : Ctx) : MethodId := κ.2.2.2.1
abbrev Ctx.args (κ : Ctx) : Array Value := κ.2.2.2.2.1
abbrev Ctx.below (κ : Ctx) : List Frame := κ.2.2.2.2.2.1
abbrev Ctx.meth (κ : Ctx) : Method := κ.2.2.2.2.2.2.1
abbrev Ctx.c (κ : Ctx) : Code := κ.2.2.2.2.2.2.2
def Ok (Z : State) (κ : Ctx) (own : String) (bytes : ByteArray) (maxL : Nat) (ret : Option FieldType) (nm : String) : Prop :=
  κ.p.tables.exec = Jvm.exec ∧ Z.Warmed39 κ.s.vm ∧ κ.s.vm.findClass own = some κ.m.cls ∧ κ.c.code = bytes ∧ κ.c.maxLocals = maxL ∧ κ.meth.sig.returnType = ret ∧ κ.meth.locks = false ∧ κ.meth.name = nm
/-- from here (this heap, this frame) the body runs to its end, and returns what Q says -/
def Go (l : Launch) (Z : State) (n0 : Nat) (R : Room) (Q : Option Value → Wd → Prop) (κ : Ctx) (ce sl : Nat) (L : Wd) (pc : Nat) (Ls : Array Slot) (st : List Value) : Prop :=
  ∀ (T : State) (locs : List Loc), Stand κ.p l κ.e R κ.s κ.m κ.args κ.below κ.meth κ.c T locs ce sl → Fr n0 locs → Wo Z n0 T.heap L →
    ∃ (U : State) (o : Outcome), Steps κ.p.tables κ.e κ.below (T.setTop (mkF κ.m pc Ls st)) U ∧ U.status = .running ∧ Ended U κ.below o ∧
      ∃ (v : Option Value) (Lc : List Loc), o = .returned v ∧ (Fr n0 Lc ∧ ∃ L', Q v L' ∧ Wo Z n0 U.heap L') ∧ FrameEnd κ.s o U Lc R.cells R.slots
/-- the contract of a method, called with these arguments in this world -/
def Con (l : Launch) (Z : State) (n0 : Nat) (y : MethodName) (bytes : ByteArray) (maxL : Nat) (ret : Option FieldType) (rm : Room) (as : List Value) (L : Wd) (Q : Option Value → Wd → Prop) : Prop :=
  ∀ h0, Wo Z n0 h0 L → MetFree l y (head1 [Cond.code y bytes maxL ret] rm) (fun a U => a = as.toArray ∧ Z.Warmed39 U.vm ∧ U.heap = h0) (fun _ _ _ _ _ => True)
    (fun _ U o U' => ∃ (v : Option Value) (Lc : List Loc), o = .returned v ∧ (Fr n0 Lc ∧ ∃ L', Q v L' ∧ Wo Z n0 U'.heap L') ∧ FrameEnd U o U' Lc rm.cells rm.slots)
section Steps
variable {l : Launch} {Z : State} {n0 : Nat} {R : Room} {Q : Option Value → Wd → Prop} {κ : Ctx} {ce sl : Nat} {L : Wd} {pc pc' : Nat} {Ls Ls' : Array Slot} {st rest : List Value} {own : String} {bytes : ByteArray} {maxL : Nat} {ret : Option FieldType} {nm : String} {a0 : Array Value}
/-- what the body owes, over the words ws of its head: the law's own entry and a callee's -/
theorem enter {y : MethodName} {ws : List Cond} {rm : Room} {as : List Value} {h0 : Heap} (W0 : Wo Z n0 h0 L) (hn : plainFor y = true) (ef : ∀ m, entryFrame m as.toArray maxL = mkF m 0 Ls [])
    (body : ∀ κ : Ctx, Ok Z κ y.cls bytes maxL ret y.name → Go l Z n0 rm Q κ 0 0 L 0 Ls []) :
    MetFree l y (head1 (Cond.code y bytes maxL ret :: ws) rm) (fun a U => a = as.toArray ∧ Z.Warmed39 U.vm ∧ U.heap = h0) (fun _ _ _ _ _ => True)
      (fun _ U o U' => ∃ (v : Option Value) (Lc : List Loc), o = .returned v ∧ (Fr n0 Lc ∧ ∃ L', Q v L' ∧ Wo Z n0 U'.heap L') ∧ FrameEnd U o U' Lc rm.cells rm.slots) := by
  refine MetFree.of_bodySF hn hisR ?_
  intro p e s m args below meth c s₁ Bd hml0 hP hK
  obtain ⟨rfl, hZ, hh⟩ := hP
  have hown : s.vm.findClass y.cls = some m.cls := findClass_of_methodNamed Bd.named
  have hnm := (name_of_methodNamed Bd.named Bd.method).1
  have X0 : Stand p l e rm s m as.toArray below meth c s₁ [] 0 0 := Stand.of_body Bd
  have e0 : s₁.heap = h0 := by rw [← hh, Bd.state]; rfl
  obtain ⟨U, o, h1, h2⟩ := body (p, e, s, m, as.toArray, below, meth, c) ⟨Bd.exec, hZ, hown, Bd.bytes, hml0, Bd.returns, Bd.notSynchronized, hnm⟩ s₁ [] X0 (Fr.nil n0) (by rw [e0]; exact W0)
  exact ⟨U, o, castTop (ef m) h1, h2⟩
theorem Con.of {y : MethodName} {rm : Room} {as : List Value} (hn : plainFor y = true) (ef : ∀ m, entryFrame m as.toArray maxL = mkF m 0 Ls [])
    (body : ∀ κ : Ctx, Ok Z κ y.cls bytes maxL ret y.name → Go l Z n0 rm Q κ 0 0 L 0 Ls []) : Con l Z n0 y bytes maxL ret rm as L Q := fun h0 W0 => enter W0 hn ef body
theorem Con.mono {y : MethodName} {rm : Room} {as : List Value} {Q' : Option Value → Wd → Prop} (C : Con l Z n0 y bytes maxL ret rm as L Q) (hq : ∀ v L', Q v L' → Q' v L') : Con l Z n0 y bytes maxL ret rm as L Q' := fun h0 W0 p e h1 h2 h3 s m args below h4 h5 h6 h7 => by
  obtain ⟨n, o, g1, g2, g3, v, Lc, g4, ⟨g5, L', g6, g7⟩, g8⟩ := C h0 W0 p e h1 h2 h3 s m args below h4 h5 h6 h7
  exact ⟨n, o, g1, g2, g3, v, Lc, g4, ⟨g5, L', hq _ _ g6, g7⟩, g8⟩
theorem Go.more {ce' sl' : Nat} (hc : ce ≤ ce') (hs : sl ≤ sl') (nx : Go l Z n0 R Q κ ce' sl' L pc Ls st) : Go l Z n0 R Q κ ce sl L pc Ls st := fun T locs X N W => nx T locs (X.more hc hs) N W
theorem s_front {k : Nat} {x : Addr × Ob} {L' : Wd} (hk : L[k]? = some x) (hL : x :: L.eraseIdx k = L') (nx : Go l Z n0 R Q κ ce sl L' pc Ls st) : Go l Z n0 R Q κ ce sl L pc Ls st := by
  subst hL; exact fun T locs X N W => nx T locs X N (W.front hk)
theorem Go.conv {L' : Wd} (hL : L = L') (nx : Go l Z n0 R Q κ ce sl L' pc Ls st) : Go l Z n0 R Q κ ce sl L pc Ls st := by subst hL; exact nx
theorem s_drop {k : Nat} {L' : Wd} (hL : L.eraseIdx k = L') (nx : Go l Z n0 R Q κ ce sl L' pc Ls st) : Go l Z n0 R Q κ ce sl L pc Ls st := by
  subst hL; exact fun T locs X N W => nx T locs X N (W.drop k)
theorem Go.step (nx : Go l Z n0 R Q κ ce sl L pc' Ls' rest) (h : ∀ (T : State) (locs : List Loc), Stand κ.p l κ.e R κ.s κ.m κ.args κ.below κ.meth κ.c T locs ce sl → ∀ target, Steps κ.p.tables κ.e κ.below (T.setTop (mkF κ.m pc' Ls' rest)) target → Steps κ.p.tables κ.e κ.below (T.setTop (mkF κ.m pc Ls st)) target) : Go l Z n0 R Q κ ce sl L pc Ls st :=
  fun T locs X N W => by obtain ⟨U, o, h1, h2⟩ := nx T locs X N W; exact ⟨U, o, h T locs X U h1, h2⟩
theorem Ok.dec {r : Except DecodeError (Instr × Nat)} (K : Ok Z κ own bytes maxL ret nm) (h : decode bytes pc = r) : decode κ.c.code pc = r := hb K.2.2.2.1 h
theorem Ok.ex (K : Ok Z κ own bytes maxL ret nm) : κ.p.tables.exec = Jvm.exec := K.1
theorem Ok.zw (K : Ok Z κ own bytes maxL ret nm) : Z.Warmed39 κ.s.vm := K.2.1
theorem Ok.ow (K : Ok Z κ own bytes maxL ret nm) : κ.s.vm.findClass own = some κ.m.cls := K.2.2.1
theorem s_aloadN (K : Ok Z κ own bytes maxL ret nm) {k : Fin 4} {v : Value} (hd : decode bytes pc = .ok (.aload_n k, 1)) (e : pc + 1 = pc') (hl : Ls[k.val]? = some (.val v)) (hv : v.isRef = true) (nx : Go l Z n0 R Q κ ce sl L pc' Ls (v :: st)) : Go l Z n0 R Q κ ce sl L pc Ls st := by
  subst e; exact nx.step fun T locs X target h => XS.aloadN X.here K.ex rfl (K.dec hd) hl hv h
theorem s_aload (K : Ok Z κ own bytes maxL ret nm) {k : Nat} {v : Value} (hd : decode bytes pc = .ok (.aload k, 2)) (e : pc + 2 = pc') (hl : Ls[k]? = some (.val v)) (hv : v.isRef = true) (nx : Go l Z n0 R Q κ ce sl L pc' Ls (v :: st)) : Go l Z n0 R Q κ ce sl L pc Ls st := by
  subst e; exact nx.step fun T locs X target h => XS.aload X.here K.ex rfl (K.dec hd) hl hv h
theorem s_iloadN (K : Ok Z κ own bytes maxL ret nm) {k : Fin 4} {v : Int32} (hd : decode bytes pc = .ok (.iload_n k, 1)) (e : pc + 1 = pc') (hl : Ls[k.val]? = some (.val (.int v))) (nx : Go l Z n0 R Q κ ce sl L pc' Ls (.int v :: st)) : Go l Z n0 R Q κ ce sl L pc Ls st := by
  subst e; exact nx.step fun T locs X target h => XS.iloadN X.here K.ex rfl (K.dec hd) hl h
theorem s_iload (K : Ok Z κ own bytes maxL ret nm) {k : Nat} {v : Int32} (hd : decode bytes pc = .ok (.iload k, 2)) (e : pc + 2 = pc') (hl : Ls[k]? = some (.val (.int v))) (nx : Go l Z n0 R Q κ ce sl L pc' Ls (.int v :: st)) : Go l Z n0 R Q κ ce sl L pc Ls st := by
  subst e; exact nx.step fun T locs X target h => XS.iload X.here K.ex rfl (K.dec hd) hl h
theorem s_lloadN (K : Ok Z κ own bytes maxL ret nm) {k : Fin 4} {v : Int64} (hd : decode bytes pc = .ok (.lload_n k, 1)) (e : pc + 1 = pc') (hl : Ls[k.val]? = some (.val (.long v))) (nx : Go l Z n0 R Q κ ce sl L pc' Ls (.long v :: st)) : Go l Z n0 R Q κ ce sl L pc Ls st := by
  subst e; exact nx.step fun T locs X target h => XT.lloadN X.here K.ex rfl (K.dec hd) hl h
theorem s_lload (K : Ok Z κ own bytes maxL ret nm) {k : Nat} {v : Int64} (hd : decode bytes pc = .ok (.lload k, 2)) (e : pc + 2 = pc') (hl : Ls[k]? = some (.val (.long v))) (nx : Go l Z n0 R Q κ ce sl L pc' Ls (.long v :: st)) : Go l Z n0 R Q κ ce sl L pc Ls st := by
  subst e; exact nx.step fun T locs X target h => XT.lload X.here K.ex rfl (K.dec hd) hl h
theorem s_iconst (K : Ok Z κ own bytes maxL ret nm) {i : Int} {z : Int32} (hd : decode bytes pc = .ok (.iconst i, 1)) (e : pc + 1 = pc') (hz : Int32.ofInt i = z) (nx : Go l Z n0 R Q κ ce sl L pc' Ls (.int z :: st)) : Go l Z n0 R Q κ ce sl L pc Ls st := by
  subst e hz; exact nx.step fun T locs X target h => XS.iconst X.here K.ex rfl (K.dec hd) h
theorem s_bipush (K : Ok Z κ own bytes maxL ret nm) {i : Int} {z : Int32} (hd : decode bytes pc = .ok (.bipush i, 2)) (e : pc + 2 = pc') (hz : (Int8.ofInt i).toInt32 = z) (nx : Go l Z n0 R Q κ ce sl L pc' Ls (.int z :: st)) : Go l Z n0 R Q κ ce sl L pc Ls st := by
  subst e hz; exact nx.step fun T locs X target h => XS.bipush X.here K.ex rfl (K.dec hd) h
theorem s_sipush (K : Ok Z κ own bytes maxL ret nm) {i : Int} {z : Int32} (hd : decode bytes pc = .ok (.sipush i, 3)) (e : pc + 3 = pc') (hz : (Int16.ofInt i).toInt32 = z) (nx : Go l Z n0 R Q κ ce sl L pc' Ls (.int z :: st)) : Go l Z n0 R Q κ ce sl L pc Ls st := by
  subst e hz; exact nx.step fun T locs X target h => XS.sipush X.here K.ex rfl (K.dec hd) h
theorem s_null (K : Ok Z κ own bytes maxL ret nm) (hd : decode bytes pc = .ok (.aconst_null, 1)) (e : pc + 1 = pc') (nx : Go l Z n0 R Q κ ce sl L pc' Ls (.null :: st)) : Go l Z n0 R Q κ ce sl L pc Ls st := by
  subst e; exact nx.step fun T locs X target h => XS.aconstNull X.here K.ex rfl (K.dec hd) h
theorem s_ldc (K : Ok Z κ own bytes maxL ret nm) {i : Nat} {z : Int32} (hd : decode bytes pc = .ok (.ldc i, 2)) (e : pc + 2 = pc') (w : (Cond.constant own i z).before a0 Z = true) (nx : Go l Z n0 R Q κ ce sl L pc' Ls (.int z :: st)) : Go l Z n0 R Q κ ce sl L pc Ls st := by
  subst e; exact nx.step fun T locs X target h => X.ldcInt K.ex K.ow (mvT K.zw w) (g := mkF κ.m pc Ls st) rfl (K.dec hd) target h
theorem s_iadd (K : Ok Z κ own bytes maxL ret nm) {z : Int32} {x y : Int32} (hd : decode bytes pc = .ok (.iadd, 1)) (e : pc + 1 = pc') (hz : x + y = z) (nx : Go l Z n0 R Q κ ce sl L pc' Ls (.int z :: st)) : Go l Z n0 R Q κ ce sl L pc Ls (.int y :: .int x :: st) := by
  subst e hz; exact nx.step fun T locs X target h => XS.iadd X.here K.ex rfl (K.dec hd) rfl h
theorem s_isub (K : Ok Z κ own bytes maxL ret nm) {z : Int32} {x y : Int32} (hd : decode bytes pc = .ok (.isub, 1)) (e : pc + 1 = pc') (hz : x - y = z) (nx : Go l Z n0 R Q κ ce sl L pc' Ls (.int z :: st)) : Go l Z n0 R Q κ ce sl L pc Ls (.int y :: .int x :: st) := by
  subst e hz; exact nx.step fun T locs X target h => XS.isub X.here K.ex rfl (K.dec hd) rfl h
theorem s_imul (K : Ok Z κ own bytes maxL ret nm) {z : Int32} {x y : Int32} (hd : decode bytes pc = .ok (.imul, 1)) (e : pc + 1 = pc') (hz : x * y = z) (nx : Go l Z n0 R Q κ ce sl L pc' Ls (.int z :: st)) : Go l Z n0 R Q κ ce sl L pc Ls (.int y :: .int x :: st) := by
  subst e hz; exact nx.step fun T locs X target h => XS.imul X.here K.ex rfl (K.dec hd) rfl h
theorem s_irem (K : Ok Z κ own bytes maxL ret nm) {z : Int32} {x y : Int32} (hd : decode bytes pc = .ok (.irem, 1)) (e : pc + 1 = pc') (hy : y ≠ 0) (hz : x % y = z) (nx : Go l Z n0 R Q κ ce sl L pc' Ls (.int z :: st)) : Go l Z n0 R Q κ ce sl L pc Ls (.int y :: .int x :: st) := by
  subst e hz; exact nx.step fun T locs X target h => iremM X K.ex rfl (K.dec hd) rfl hy h
theorem s_idiv (K : Ok Z κ own bytes maxL ret nm) {z : Int32} {x y : Int32} (hd : decode bytes pc = .ok (.idiv, 1)) (e : pc + 1 = pc') (hy : y ≠ 0) (hz : x / y = z) (nx : Go l Z n0 R Q κ ce sl L pc' Ls (.int z :: st)) : Go l Z n0 R Q κ ce sl L pc Ls (.int y :: .int x :: st) := by
  subst e hz; exact nx.step fun T locs X target h => XS.idiv X.here K.ex rfl (K.dec hd) rfl hy h
theorem s_iand (K : Ok Z κ own bytes maxL ret nm) {z : Int32} {x y : Int32} (hd : decode bytes pc = .ok (.iand, 1)) (e : pc + 1 = pc') (hz : x &&& y = z) (nx : Go l Z n0 R Q κ ce sl L pc' Ls (.int z :: st)) : Go l Z n0 R Q κ ce sl L pc Ls (.int y :: .int x :: st) := by
  subst e hz; exact nx.step fun T locs X target h => XS.iand X.here K.ex rfl (K.dec hd) rfl h
theorem s_dup (K : Ok Z κ own bytes maxL ret nm) {x : Value} (hd : decode bytes pc = .ok (.dup, 1)) (e : pc + 1 = pc') (hc : x.category = 1) (nx : Go l Z n0 R Q κ ce sl L pc' Ls (x :: x :: st)) : Go l Z n0 R Q κ ce sl L pc Ls (x :: st) := by
  subst e; exact nx.step fun T locs X target h => XS.dup X.here K.ex rfl (K.dec hd) rfl hc h
theorem s_istoreN (K : Ok Z κ own bytes maxL ret nm) {k : Fin 4} {x : Int32} (hd : decode bytes pc = .ok (.istore_n k, 1)) (e : pc + 1 = pc') (hl : storeLocals Ls k.val (.int x) = some Ls') (nx : Go l Z n0 R Q κ ce sl L pc' Ls' st) : Go l Z n0 R Q κ ce sl L pc Ls (.int x :: st) := by
  subst e; exact nx.step fun T locs X target h => XS.istoreN X.here K.ex rfl (K.dec hd) rfl hl h
theorem s_istore (K : Ok Z κ own bytes maxL ret nm) {k : Nat} {x : Int32} (hd : decode bytes pc = .ok (.istore k, 2)) (e : pc + 2 = pc') (hl : storeLocals Ls k (.int x) = some Ls') (nx : Go l Z n0 R Q κ ce sl L pc' Ls' st) : Go l Z n0 R Q κ ce sl L pc Ls (.int x :: st) := by
  subst e; exact nx.step fun T locs X target h => XS.istore X.here K.ex rfl (K.dec hd) rfl hl h
theorem s_astoreN (K : Ok Z κ own bytes maxL ret nm) {k : Fin 4} {x : Value} (hd : decode bytes pc = .ok (.astore_n k, 1)) (e : pc + 1 = pc') (hv : x.isRef = true) (hl : storeLocals Ls k.val x = some Ls') (nx : Go l Z n0 R Q κ ce sl L pc' Ls' st) : Go l Z n0 R Q κ ce sl L pc Ls (x :: st) := by
  subst e; exact nx.step fun T locs X target h => XS.astoreN X.here K.ex rfl (K.dec hd) rfl hv hl h
theorem s_astore (K : Ok Z κ own bytes maxL ret nm) {k : Nat} {x : Value} (hd : decode bytes pc = .ok (.astore k, 2)) (e : pc + 2 = pc') (hv : x.isRef = true) (hl : storeLocals Ls k x = some Ls') (nx : Go l Z n0 R Q κ ce sl L pc' Ls' st) : Go l Z n0 R Q κ ce sl L pc Ls (x :: st) := by
  subst e; exact nx.step fun T locs X target h => XS.astore X.here K.ex rfl (K.dec hd) rfl hv hl h
theorem s_lstoreN (K : Ok Z κ own bytes maxL ret nm) {k : Fin 4} {x : Int64} (hd : decode bytes pc = .ok (.lstore_n k, 1)) (e : pc + 1 = pc') (hl : storeLocals Ls k.val (.long x) = some Ls') (nx : Go l Z n0 R Q κ ce sl L pc' Ls' st) : Go l Z n0 R Q κ ce sl L pc Ls (.long x :: st) := by
  subst e; exact nx.step fun T locs X target h => XT.lstoreN X.here K.ex rfl (K.dec hd) rfl hl h
theorem s_lstore (K : Ok Z κ own bytes maxL ret nm) {k : Nat} {x : Int64} (hd : decode bytes pc = .ok (.lstore k, 2)) (e : pc + 2 = pc') (hl : storeLocals Ls k (.long x) = some Ls') (nx : Go l Z n0 R Q κ ce sl L pc' Ls' st) : Go l Z n0 R Q κ ce sl L pc Ls (.long x :: st) := by
  subst e; exact nx.step fun T locs X target h => XT.lstore X.here K.ex rfl (K.dec hd) rfl hl h
theorem s_iinc (K : Ok Z κ own bytes maxL ret nm) {k : Nat} {cst : Int} {x z : Int32} (hd : decode bytes pc = .ok (.iinc k cst, 3)) (e : pc + 3 = pc') (hl : Ls[k]? = some (.val (.int x))) (hz : x + Int32.ofInt cst = z) (hl' : storeLocals Ls k (.int z) = some Ls') (nx : Go l Z n0 R Q κ ce sl L pc' Ls' st) : Go l Z n0 R Q κ ce sl L pc Ls st := by
  subst e hz; exact nx.step fun T locs X target h => XS.iinc X.here K.ex rfl (K.dec hd) hl hl' h
theorem s_goto (K : Ok Z κ own bytes maxL ret nm) {o : Int} (hd : decode bytes pc = .ok (.goto o, 3)) (ho : 0 ≤ (pc : Int) + o) (hp : ((pc : Int) + o).toNat = pc') (nx : Go l Z n0 R Q κ ce sl L pc' Ls st) : Go l Z n0 R Q κ ce sl L pc Ls st :=
  nx.step fun T locs X target h => XS.goto X.here K.ex rfl rfl (K.dec hd) ho hp h
theorem s_ifY (K : Ok Z κ own bytes maxL ret nm) {cd : ClassFile.Cond} {x : Int32} {o : Int} (hd : decode bytes pc = .ok (.ifCond cd o, 3)) (hc : ifCond.holds cd x = true) (ho : 0 ≤ (pc : Int) + o) (hp : ((pc : Int) + o).toNat = pc') (nx : Go l Z n0 R Q κ ce sl L pc' Ls st) : Go l Z n0 R Q κ ce sl L pc Ls (.int x :: st) :=
  nx.step fun T locs X target h => XS.ifYes X.here K.ex rfl rfl (K.dec hd) rfl hc ho hp h
theorem s_ifN (K : Ok Z κ own bytes maxL ret nm) {cd : ClassFile.Cond} {x : Int32} {o : Int} (hd : decode bytes pc = .ok (.ifCond cd o, 3)) (e : pc + 3 = pc') (hc : ifCond.holds cd x = false) (nx : Go l Z n0 R Q κ ce sl L pc' Ls st) : Go l Z n0 R Q κ ce sl L pc Ls (.int x :: st) := by
  subst e; exact nx.step fun T locs X target h => XS.ifNo X.here K.ex rfl (K.dec hd) rfl hc h
theorem s_icY (K : Ok Z κ own bytes maxL ret nm) {cd : ClassFile.Cond} {x y : Int32} {o : Int} (hd : decode bytes pc = .ok (.if_icmp cd o, 3)) (hc : if_icmp.holds cd x y = true) (ho : 0 ≤ (pc : Int) + o) (hp : ((pc : Int) + o).toNat = pc') (nx : Go l Z n0 R Q κ ce sl L pc' Ls st) : Go l Z n0 R Q κ ce sl L pc Ls (.int y :: .int x :: st) :=
  nx.step fun T locs X target h => XS.icmpYes X.here K.ex rfl rfl (K.dec hd) rfl hc ho hp h
theorem s_icN (K : Ok Z κ own bytes maxL ret nm) {cd : ClassFile.Cond} {x y : Int32} {o : Int} (hd : decode bytes pc = .ok (.if_icmp cd o, 3)) (e : pc + 3 = pc') (hc : if_icmp.holds cd x y = false) (nx : Go l Z n0 R Q κ ce sl L pc' Ls st) : Go l Z n0 R Q κ ce sl L pc Ls (.int y :: .int x :: st) := by
  subst e; exact nx.step fun T locs X target h => XS.icmpNo X.here K.ex rfl (K.dec hd) rfl hc h
theorem s_nullY (K : Ok Z κ own bytes maxL ret nm) {o : Int} (hd : decode bytes pc = .ok (.ifnull o, 3)) (ho : 0 ≤ (pc : Int) + o) (hp : ((pc : Int) + o).toNat = pc') (nx : Go l Z n0 R Q κ ce sl L pc' Ls st) : Go l Z n0 R Q κ ce sl L pc Ls (.null :: st) :=
  nx.step fun T locs X target h => XS.ifnullYes X.here K.ex rfl rfl (K.dec hd) rfl ho hp h
theorem s_nullN (K : Ok Z κ own bytes maxL ret nm) {o : Int} {b : Addr} (hd : decode bytes pc = .ok (.ifnull o, 3)) (e : pc + 3 = pc') (nx : Go l Z n0 R Q κ ce sl L pc' Ls st) : Go l Z n0 R Q κ ce sl L pc Ls (.ref b :: st) := by
  subst e; exact nx.step fun T locs X target h => XS.ifnullNo X.here K.ex rfl (K.dec hd) rfl h
theorem s_nonnullY (K : Ok Z κ own bytes maxL ret nm) {o : Int} {b : Addr} (hd : decode bytes pc = .ok (.ifnonnull o, 3)) (ho : 0 ≤ (pc : Int) + o) (hp : ((pc : Int) + o).toNat = pc') (nx : Go l Z n0 R Q κ ce sl L pc' Ls st) : Go l Z n0 R Q κ ce sl L pc Ls (.ref b :: st) :=
  nx.step fun T locs X target h => XT.ifnonnullYes X.here K.ex rfl rfl (K.dec hd) rfl ho hp h
theorem s_nonnullN (K : Ok Z κ own bytes maxL ret nm) {o : Int} (hd : decode bytes pc = .ok (.ifnonnull o, 3)) (e : pc + 3 = pc') (nx : Go l Z n0 R Q κ ce sl L pc' Ls st) : Go l Z n0 R Q κ ce sl L pc Ls (.null :: st) := by
  subst e; exact nx.step fun T locs X target h => XT.ifnonnullNo X.here K.ex rfl (K.dec hd) rfl h
theorem s_iushr (K : Ok Z κ own bytes maxL ret nm) {x y z : Int32} (hd : decode bytes pc = .ok (.iushr, 1)) (e : pc + 1 = pc') (hz : XT.ushr x y = z) (nx : Go l Z n0 R Q κ ce sl L pc' Ls (.int z :: st)) : Go l Z n0 R Q κ ce sl L pc Ls (.int y :: .int x :: st) := by
  subst e hz; exact nx.step fun T locs X target h => XT.iushr X.here K.ex rfl (K.dec hd) rfl h
theorem s_i2b (K : Ok Z κ own bytes maxL ret nm) {z : Int32} {x : Int32} (hd : decode bytes pc = .ok (.i2b, 1)) (e : pc + 1 = pc') (hz : x.toInt8.toInt32 = z) (nx : Go l Z n0 R Q κ ce sl L pc' Ls (.int z :: st)) : Go l Z n0 R Q κ ce sl L pc Ls (.int x :: st) := by
  subst e hz; exact nx.step fun T locs X target h => XT.i2b X.here K.ex rfl (K.dec hd) rfl h
theorem s_dupx1 (K : Ok Z κ own bytes maxL ret nm) {x y : Value} (hd : decode bytes pc = .ok (.dup_x1, 1)) (e : pc + 1 = pc') (hc : x.category = 1) (hc' : y.category = 1) (nx : Go l Z n0 R Q κ ce sl L pc' Ls (x :: y :: x :: st)) : Go l Z n0 R Q κ ce sl L pc Ls (x :: y :: st) := by
  subst e; exact nx.step fun T locs X target h => XT.dupX1 X.here K.ex rfl (K.dec hd) rfl hc hc' h
theorem s_dup2 (K : Ok Z κ own bytes maxL ret nm) {x y : Value} (hd : decode bytes pc = .ok (.dup2, 1)) (e : pc + 1 = pc') (hc : x.category = 1) (hc' : y.category = 1) (nx : Go l Z n0 R Q κ ce sl L pc' Ls (x :: y :: x :: y :: st)) : Go l Z n0 R Q κ ce sl L pc Ls (x :: y :: st) := by
  subst e; exact nx.step fun T locs X target h => XT.dup2 X.here K.ex rfl (K.dec hd) rfl hc hc' h
theorem s_pop (K : Ok Z κ own bytes maxL ret nm) {x : Value} (hd : decode bytes pc = .ok (.pop, 1)) (e : pc + 1 = pc') (hc : x.category = 1) (nx : Go l Z n0 R Q κ ce sl L pc' Ls st) : Go l Z n0 R Q κ ce sl L pc Ls (x :: st) := by
  subst e; exact nx.step fun T locs X target h => XT.pop X.here K.ex rfl (K.dec hd) rfl hc h
theorem s_lcmp (K : Ok Z κ own bytes maxL ret nm) {x y : Int64} (hd : decode bytes pc = .ok (.lcmp, 1)) (e : pc + 1 = pc') (nx : Go l Z n0 R Q κ ce sl L pc' Ls (.int (XT.cmpL x y) :: st)) : Go l Z n0 R Q κ ce sl L pc Ls (.long y :: .long x :: st) := by
  subst e; exact nx.step fun T locs X target h => XT.lcmp X.here K.ex rfl (K.dec hd) rfl h
theorem s_ladd (K : Ok Z κ own bytes maxL ret nm) {z : Int64} {x y : Int64} (hd : decode bytes pc = .ok (.ladd, 1)) (e : pc + 1 = pc') (hz : x + y = z) (nx : Go l Z n0 R Q κ ce sl L pc' Ls (.long z :: st)) : Go l Z n0 R Q κ ce sl L pc Ls (.long y :: .long x :: st) := by
  subst e hz; exact nx.step fun T locs X target h => XT.ladd X.here K.ex rfl (K.dec hd) rfl h
theorem s_lxor (K : Ok Z κ own bytes maxL ret nm) {z : Int64} {x y : Int64} (hd : decode bytes pc = .ok (.lxor, 1)) (e : pc + 1 = pc') (hz : x ^^^ y = z) (nx : Go l Z n0 R Q κ ce sl L pc' Ls (.long z :: st)) : Go l Z n0 R Q κ ce sl L pc Ls (.long y :: .long x :: st) := by
  subst e hz; exact nx.step fun T locs X target h => XT.lxor X.here K.ex rfl (K.dec hd) rfl h
theorem s_lushr (K : Ok Z κ own bytes maxL ret nm) {z : Int64} {x : Int64} {y : Int32} (hd : decode bytes pc = .ok (.lushr, 1)) (e : pc + 1 = pc') (hz : XT.ushrL x y = z) (nx : Go l Z n0 R Q κ ce sl L pc' Ls (.long z :: st)) : Go l Z n0 R Q κ ce sl L pc Ls (.int y :: .long x :: st) := by
  subst e hz; exact nx.step fun T locs X target h => XT.lushr X.here K.ex rfl (K.dec hd) rfl h
theorem s_l2i (K : Ok Z κ own bytes maxL ret nm) {z : Int32} {x : Int64} (hd : decode bytes pc = .ok (.l2i, 1)) (e : pc + 1 = pc') (hz : x.toInt32 = z) (nx : Go l Z n0 R Q κ ce sl L pc' Ls (.int z :: st)) : Go l Z n0 R Q κ ce sl L pc Ls (.long x :: st) := by
  subst e hz; exact nx.step fun T locs X target h => XT.l2i X.here K.ex rfl (K.dec hd) rfl h
theorem s_dupx2 (K : Ok Z κ own bytes maxL ret nm) {x y z : Value} (hd : decode bytes pc = .ok (.dup_x2, 1)) (e : pc + 1 = pc') (hc : x.category = 1) (hc' : y.category = 1) (hc'' : z.category = 1) (nx : Go l Z n0 R Q κ ce sl L pc' Ls (x :: y :: z :: x :: st)) : Go l Z n0 R Q κ ce sl L pc Ls (x :: y :: z :: st) := by
  subst e; exact nx.step fun T locs X target h => by
    have hx := K.ex
    have hd' := K.dec hd
    jvm_step X.here [X.here.top, hx, hd', hc, hc', hc'']
    exact h
theorem s_if (K : Ok Z κ own bytes maxL ret nm) {cd : ClassFile.Cond} {x : Int32} {o : Int} {pn : Nat} (hd : decode bytes pc = .ok (.ifCond cd o, 3)) (e : pc + 3 = pn) (ho : 0 ≤ (pc : Int) + o) (hp : ((pc : Int) + o).toNat = pc') (yes : ifCond.holds cd x = true → Go l Z n0 R Q κ ce sl L pc' Ls st) (no : ifCond.holds cd x = false → Go l Z n0 R Q κ ce sl L pn Ls st) : Go l Z n0 R Q κ ce sl L pc Ls (.int x :: st) := by
  cases h : ifCond.holds cd x
  · exact s_ifN K hd e h (no h)
  · exact s_ifY K hd h ho hp (yes h)
theorem s_ic (K : Ok Z κ own bytes maxL ret nm) {cd : ClassFile.Cond} {x y : Int32} {o : Int} {pn : Nat} (hd : decode bytes pc = .ok (.if_icmp cd o, 3)) (e : pc + 3 = pn) (ho : 0 ≤ (pc : Int) + o) (hp : ((pc : Int) + o).toNat = pc') (yes : if_icmp.holds cd x y = true → Go l Z n0 R Q κ ce sl L pc' Ls st) (no : if_icmp.holds cd x y = false → Go l Z n0 R Q κ ce sl L pn Ls st) : Go l Z n0 R Q κ ce sl L pc Ls (.int y :: .int x :: st) := by
  cases h : if_icmp.holds cd x y
  · exact s_icN K hd e h (no h)
  · exact s_icY K hd h ho hp (yes h)
/-! the heap -/
theorem s_getf (K : Ok Z κ own bytes maxL ret nm) {idx k j : Nat} {O n d C : String} {a : Addr} {fs : List Fl} {v : Value} (hd : decode bytes pc = .ok (.getfield idx, 3)) (e : pc + 3 = pc') (w : (Cond.fieldLink own idx O n d).before a0 Z = true)
    (hk : L[k]? = some (a, .inl (C, fs))) (hj : fs[j]? = some (O, n, d, v)) (nx : Go l Z n0 R Q κ ce sl L pc' Ls (v :: st)) : Go l Z n0 R Q κ ce sl L pc Ls (.ref a :: st) := by
  subst e; intro T locs X N W
  obtain ⟨T', X', e', stp⟩ := getF X K.ex K.zw K.ow (host := "") (Or.inl w) Via.refl rfl ((W.at hk).2.1 _ _ hj) (g := mkF κ.m pc Ls (.ref a :: st)) rfl rfl (K.dec hd)
  obtain ⟨U, o, h1, h2⟩ := nx T' locs X' N (by rw [e']; exact W)
  exact ⟨U, o, stp U h1, h2⟩
theorem s_putf (K : Ok Z κ own bytes maxL ret nm) {idx k j kk : Nat} {O n d C : String} {a : Addr} {fs : List Fl} {v old : Value} {ty : FieldType} {L' : Wd} (hd : decode bytes pc = .ok (.putfield idx, 3)) (e : pc + 3 = pc') (w : (Cond.fieldLink own idx O n d).before a0 Z = true)
    (w2 : (Cond.lays C O n d).before a0 Z = true ∨ ((Cond.laysFinal C O n d).before a0 Z = true ∧ own = O ∧ nm = "<init>")) (w3 : (Cond.instantiable C kk).before a0 Z = true) (hty : parseFieldDescriptor d = some ty) (hn : narrow ty v = v) (hf : fits ty v = true)
    (hk : L[k]? = some (a, .inl (C, fs))) (hj : fs[j]? = some (O, n, d, old)) (hL : L.set k (a, .inl (C, fs.set j (O, n, d, v))) = L') (nx : Go l Z n0 R Q κ ce sl L' pc' Ls st) : Go l Z n0 R Q κ ce sl L pc Ls (v :: .ref a :: st) := by
  subst e hL; intro T locs X N W
  obtain ⟨T', h', X', e', Wr', stp⟩ := putF X K.ex K.zw K.ow (host := "") (Or.inl w) Via.refl rfl ((W.at hk).2.1 _ _ hj) (W.at hk).1 (w2.imp id fun q => ⟨q.1, q.2.1, K.2.2.2.2.2.2.2.trans q.2.2⟩) w3 hty hn hf (g := mkF κ.m pc Ls (v :: .ref a :: st)) rfl rfl (K.dec hd)
  obtain ⟨U, o, h1, h2⟩ := nx T' _ X' (Fr.snoc X' N (W.ge hk)) (by rw [e']; exact W.fld hk hj Wr')
  exact ⟨U, o, stp U h1, h2⟩
theorem s_len (K : Ok Z κ own bytes maxL ret nm) {k : Nat} {a : Addr} {ty : FieldType} {vs : List Value} {z : Int32} (hd : decode bytes pc = .ok (.arraylength, 1)) (e : pc + 1 = pc') (hk : L[k]? = some (a, .inr (ty, vs))) (hz : Int32.ofNat vs.length = z)
    (nx : Go l Z n0 R Q κ ce sl L pc' Ls (.int z :: st)) : Go l Z n0 R Q κ ce sl L pc Ls (.ref a :: st) := by
  subst e hz; intro T locs X N W
  obtain ⟨c, A, hc, -⟩ := W.at hk
  obtain ⟨U, o, h1, h2⟩ := nx T locs X N W
  refine ⟨U, o, ?_, h2⟩
  refine X.arraylength K.ex A.1 (State.isArrayOf_alike K.zw.alike A.2.1) (g := mkF κ.m pc Ls (.ref a :: st)) rfl rfl (K.dec hd) _ ?_
  have q : c.slots.size = vs.length := by rw [← hc, Array.length_toList]
  rw [q]; exact h1
theorem s_iaload (K : Ok Z κ own bytes maxL ret nm) {k i : Nat} {a : Addr} {j : Int32} {vs : List Value} {v : Value} (hd : decode bytes pc = .ok (.iaload, 1)) (e : pc + 1 = pc') (hk : L[k]? = some (a, .inr (.int, vs))) (hj : Ix j i) (hi : vs[i]? = some v)
    (nx : Go l Z n0 R Q κ ce sl L pc' Ls (v :: st)) : Go l Z n0 R Q κ ce sl L pc Ls (.int j :: .ref a :: st) := by
  subst e; intro T locs X N W
  obtain ⟨c, A, hc, -⟩ := W.at hk
  obtain ⟨U, o, h1, h2⟩ := nx T locs X N W
  exact ⟨U, o, X.iaload K.ex A.1 (State.isArrayOf_alike K.zw.alike A.2.1) A.2.2 (Av.inb hc hj (List.getElem?_eq_some_iff.mp hi).1) (by rw [hj.2]; exact Av.val hc hi) (g := mkF κ.m pc Ls (.int j :: .ref a :: st)) rfl rfl (K.dec hd) _ h1, h2⟩
theorem s_laload (K : Ok Z κ own bytes maxL ret nm) {k i : Nat} {a : Addr} {j : Int32} {vs : List Value} {v : Value} (hd : decode bytes pc = .ok (.laload, 1)) (e : pc + 1 = pc') (hk : L[k]? = some (a, .inr (.long, vs))) (hj : Ix j i) (hi : vs[i]? = some v)
    (nx : Go l Z n0 R Q κ ce sl L pc' Ls (v :: st)) : Go l Z n0 R Q κ ce sl L pc Ls (.int j :: .ref a :: st) := by
  subst e; intro T locs X N W
  obtain ⟨c, A, hc, -⟩ := W.at hk
  obtain ⟨U, o, h1, h2⟩ := nx T locs X N W
  exact ⟨U, o, X.laload K.ex A.1 (State.isArrayOf_alike K.zw.alike A.2.1) A.2.2 (Av.inb hc hj (List.getElem?_eq_some_iff.mp hi).1) (by rw [hj.2]; exact Av.val hc hi) (g := mkF κ.m pc Ls (.int j :: .ref a :: st)) rfl rfl (K.dec hd) _ h1, h2⟩
theorem s_baload (K : Ok Z κ own bytes maxL ret nm) {k i : Nat} {a : Addr} {j : Int32} {vs : List Value} {v : Value} (hd : decode bytes pc = .ok (.baload, 1)) (e : pc + 1 = pc') (hk : L[k]? = some (a, .inr (.byte, vs))) (hj : Ix j i) (hi : vs[i]? = some v)
    (nx : Go l Z n0 R Q κ ce sl L pc' Ls (v :: st)) : Go l Z n0 R Q κ ce sl L pc Ls (.int j :: .ref a :: st) := by
  subst e; intro T locs X N W
  obtain ⟨c, A, hc, -⟩ := W.at hk
  obtain ⟨U, o, h1, h2⟩ := nx T locs X N W
  exact ⟨U, o, X.baloadBytes K.ex A.1 (State.isArrayOf_alike K.zw.alike A.2.1) A.2.2 (Av.inb hc hj (List.getElem?_eq_some_iff.mp hi).1) (by rw [hj.2]; exact Av.val hc hi) (g := mkF κ.m pc Ls (.int j :: .ref a :: st)) rfl rfl (K.dec hd) _ h1, h2⟩
theorem s_aaload (K : Ok Z κ own bytes maxL ret nm) {k i : Nat} {a : Addr} {j : Int32} {ty : FieldType} {vs : List Value} {v : Value} (hd : decode bytes pc = .ok (.aaload, 1)) (e : pc + 1 = pc') (hk : L[k]? = some (a, .inr (ty, vs))) (hty : ty.isReference = true) (hj : Ix j i) (hi : vs[i]? = some v)
    (nx : Go l Z n0 R Q κ ce sl L pc' Ls (v :: st)) : Go l Z n0 R Q κ ce sl L pc Ls (.int j :: .ref a :: st) := by
  subst e; intro T locs X N W
  obtain ⟨c, A, hc, -⟩ := W.at hk
  obtain ⟨U, o, h1, h2⟩ := nx T locs X N W
  exact ⟨U, o, X.aaload K.ex A.1 (State.isArrayOf_alike K.zw.alike A.2.1) hty A.2.2 (Av.inb hc hj (List.getElem?_eq_some_iff.mp hi).1) (by rw [hj.2]; exact Av.val hc hi) (g := mkF κ.m pc Ls (.int j :: .ref a :: st)) rfl rfl (K.dec hd) _ h1, h2⟩
theorem s_iastore (K : Ok Z κ own bytes maxL ret nm) {k i : Nat} {a : Addr} {j x : Int32} {vs : List Value} {L' : Wd} (hd : decode bytes pc = .ok (.iastore, 1)) (e : pc + 1 = pc') (hk : L[k]? = some (a, .inr (.int, vs))) (hj : Ix j i) (hi : i < vs.length) (hL : L.set k (a, .inr (.int, vs.set i (.int x))) = L')
    (nx : Go l Z n0 R Q κ ce sl L' pc' Ls st) : Go l Z n0 R Q κ ce sl L pc Ls (.int x :: .int j :: .ref a :: st) := by
  subst e hL; intro T locs X N W
  obtain ⟨c, A, hc, -⟩ := W.at hk
  obtain ⟨T', h', X', e', Wr', stp⟩ := stI X K.ex K.zw rfl A (Av.inb hc hj hi) (g := mkF κ.m pc Ls (.int x :: .int j :: .ref a :: st)) rfl rfl (K.dec hd)
  rw [hj.2] at Wr'
  obtain ⟨U, o, h1, h2⟩ := nx T' _ X' (Fr.snoc X' N (W.ge hk)) (by rw [e']; exact W.arr hk rfl Wr')
  exact ⟨U, o, stp U h1, h2⟩
theorem s_lastore (K : Ok Z κ own bytes maxL ret nm) {k i : Nat} {a : Addr} {j : Int32} {x : Int64} {vs : List Value} {L' : Wd} (hd : decode bytes pc = .ok (.lastore, 1)) (e : pc + 1 = pc') (hk : L[k]? = some (a, .inr (.long, vs))) (hj : Ix j i) (hi : i < vs.length) (hL : L.set k (a, .inr (.long, vs.set i (.long x))) = L')
    (nx : Go l Z n0 R Q κ ce sl L' pc' Ls st) : Go l Z n0 R Q κ ce sl L pc Ls (.long x :: .int j :: .ref a :: st) := by
  subst e hL; intro T locs X N W
  obtain ⟨c, A, hc, -⟩ := W.at hk
  obtain ⟨T', h', X', e', Wr', stp⟩ := stJ X K.ex K.zw rfl A (Av.inb hc hj hi) (g := mkF κ.m pc Ls (.long x :: .int j :: .ref a :: st)) rfl rfl (K.dec hd)
  rw [hj.2] at Wr'
  obtain ⟨U, o, h1, h2⟩ := nx T' _ X' (Fr.snoc X' N (W.ge hk)) (by rw [e']; exact W.arr hk rfl Wr')
  exact ⟨U, o, stp U h1, h2⟩
theorem s_bastore (K : Ok Z κ own bytes maxL ret nm) {k i : Nat} {a : Addr} {j x : Int32} {vs : List Value} {L' : Wd} (hd : decode bytes pc = .ok (.bastore, 1)) (e : pc + 1 = pc') (hk : L[k]? = some (a, .inr (.byte, vs))) (hj : Ix j i) (hi : i < vs.length) (hL : L.set k (a, .inr (.byte, vs.set i (.int x.toInt8.toInt32))) = L')
    (nx : Go l Z n0 R Q κ ce sl L' pc' Ls st) : Go l Z n0 R Q κ ce sl L pc Ls (.int x :: .int j :: .ref a :: st) := by
  subst e hL; intro T locs X N W
  obtain ⟨c, A, hc, -⟩ := W.at hk
  obtain ⟨T', h', X', e', Wr', stp⟩ := stB X K.ex K.zw rfl A (Av.inb hc hj hi) (g := mkF κ.m pc Ls (.int x :: .int j :: .ref a :: st)) rfl rfl (K.dec hd)
  rw [hj.2] at Wr'
  obtain ⟨U, o, h1, h2⟩ := nx T' _ X' (Fr.snoc X' N (W.ge hk)) (by rw [e']; exact W.arr hk (fits_nar_byte x) Wr')
  exact ⟨U, o, stp U h1, h2⟩
theorem fits_default (ty : FieldType) : fits ty (defaultValue ty) = true := by cases ty <;> rfl
theorem s_newarr (K : Ok Z κ own bytes maxL ret nm) {aty : ArrayType} {ty : FieldType} {j : Int32} {n cap ce' sl' : Nat} {vs0 : List Value} (hd : decode bytes pc = .ok (.newarray aty, 2)) (e : pc + 2 = pc') (ht : newarray.typeOf aty = ty) (w : (Cond.arrayClass ty).before a0 Z = true) (hj : Ix j n) (hcap : n ≤ cap) (hb : cap ≤ 67108864) (hvs : List.replicate n (defaultValue ty) = vs0) (hce : ce + 1 = ce') (hsl : sl + cap = sl') (hc : ce' ≤ R.cells) (hs : sl' ≤ R.slots)
    (nx : ∀ b : Addr, Go l Z n0 R Q κ ce' sl' ((b, .inr (ty, vs0)) :: L) pc' Ls (.ref b :: st)) : Go l Z n0 R Q κ ce sl L pc Ls (.int j :: st) := by
  subst e hce hsl ht hvs; intro T locs X N W
  obtain ⟨T', h', cA, X', e', E, A, Ex, stp⟩ := newPE X K.ex K.zw w rfl (g := mkF κ.m pc Ls (.int j :: st)) rfl (K.dec hd) rfl hj.1 (by rw [hj.2]; exact hcap) (by omega) hc hs (ad := "[" ++ (newarray.typeOf aty).toString) rfl
  obtain ⟨U, o, h1, h2⟩ := nx T.heap.size T' locs X' N (by
    rw [e']
    refine W.add E ⟨_, A, ?_, ?_, fun v hv => ?_, Ex⟩
    · simp [newA, hj.2]
    · simp only [List.length_replicate]; omega
    · rw [(List.mem_replicate.mp hv).2]; exact fits_default _)
  exact ⟨U, o, stp U h1, h2⟩
/-- the fields of a class, as its words lay them -/
def OLay (Z : State) (a0 : Array Value) (C : String) (fs : List (String × String × String × FieldType)) : Prop := ∀ (i : Nat) (f : String × String × String × FieldType), fs[i]? = some f → Laid Z a0 C f.1 f.2.1 f.2.2.1 ∧ parseFieldDescriptor f.2.2.1 = some f.2.2.2
theorem OLay.nil {C : String} : OLay Z a0 C [] := fun _ _ q => by simp at q
theorem OLay.cons {C O n d : String} {ty : FieldType} {fs : List (String × String × String × FieldType)} (h : (Cond.lays C O n d).before a0 Z = true ∨ (Cond.laysFinal C O n d).before a0 Z = true) (ht : parseFieldDescriptor d = some ty) (r : OLay Z a0 C fs) : OLay Z a0 C ((O, n, d, ty) :: fs) := fun i f q => by
  cases i with
  | zero => cases q; exact ⟨h, ht⟩
  | succ i => exact r i f (by simpa using q)
def fresh (fs : List (String × String × String × FieldType)) : List Fl := fs.map fun f => (f.1, f.2.1, f.2.2.1, defaultValue f.2.2.2)
theorem s_new (K : Ok Z κ own bytes maxL ret nm) {idx n ce' sl' : Nat} {C : String} {fs : List (String × String × String × FieldType)} {gs : List Fl} (hd : decode bytes pc = .ok (.new idx, 3)) (e : pc + 3 = pc') (w1 : (Cond.classLink own idx C).before a0 Z = true) (w2 : (Cond.instantiable C n).before a0 Z = true) (w3 : (Cond.initialized C).before a0 Z = true)
    (ly : OLay Z a0 C fs) (nd : (fs.map fun f => f.2.1).Nodup) (hg : fresh fs = gs) (hce : ce + 1 = ce') (hsl : sl + n = sl') (hc : ce' ≤ R.cells) (hs : sl' ≤ R.slots)
    (nx : ∀ b : Addr, Go l Z n0 R Q κ ce' sl' ((b, .inl (C, gs)) :: L) pc' Ls (.ref b :: st)) : Go l Z n0 R Q κ ce sl L pc Ls st := by
  subst e hce hsl hg; intro T locs X N W
  obtain ⟨T', h', X', e', E, Ex, D, -, stp⟩ := newO X K.ex K.zw K.ow w1 w2 w3 rfl (g := mkF κ.m pc Ls st) rfl (K.dec hd) hc hs
  have fr : ∀ (i : Nat) (f : Fl), (fresh fs)[i]? = some f → ∃ g, fs[i]? = some g ∧ f = (g.1, g.2.1, g.2.2.1, defaultValue g.2.2.2) := fun i f q => by
    simp only [fresh, List.getElem?_map, Option.map_eq_some_iff] at q
    obtain ⟨g, q1, q2⟩ := q; exact ⟨g, q1, q2.symm⟩
  obtain ⟨U, o, h1, h2⟩ := nx T.heap.size T' locs X' N (by
    rw [e']
    refine W.add E ⟨Ex, fun i f q => ?_, fun i j f g q r ne => ?_⟩
    · obtain ⟨g, q1, rfl⟩ := fr i f q
      exact D (ly i g q1).1 (ly i g q1).2
    · obtain ⟨f', q1, rfl⟩ := fr i f q
      obtain ⟨g', r1, rfl⟩ := fr j g r
      refine slot_ne (ly i f' q1).1 (ly j g' r1).1 (fun en => ne (nodup_inj nd (s := f'.2.1) (by rw [List.getElem?_map, q1]; rfl) (by rw [List.getElem?_map, r1, en]; rfl))) (ly i f' q1).2 (ly j g' r1).2)
  exact ⟨U, o, stp U h1, h2⟩
/-! calls -/
theorem s_initO (K : Ok Z κ own bytes maxL ret nm) {idx W : Nat} {a : Addr} (hd : decode bytes pc = .ok (.invokespecial idx, 3)) (e : pc + 3 = pc') (w1 : (Cond.methodLink own idx Lib.objectInit).before a0 Z = true) (w2 : (Cond.instanceMethod Lib.objectInit).before a0 Z = true) (w3 : (Cond.code Lib.objectInit ⟨#[0xb1]⟩ 1 none).before a0 Z = true)
    (hsz : Ls.size = maxL) (hf : 1 ≤ R.frames) (hW : (st.map fun v => v.category).sum ≤ W) (hl : W + 12 ≤ R.locals) (nx : Go l Z n0 R Q κ ce sl L pc' Ls st) : Go l Z n0 R Q κ ce sl L pc Ls (.ref a :: st) := by
  subst e; intro T locs X N Wd
  obtain ⟨T', X', e', stp⟩ := initO X K.ex K.zw K.ow w1 w2 w3 rfl (g := mkF κ.m pc Ls (.ref a :: st)) rfl (hsz.trans K.2.2.2.2.1.symm) rfl (K.dec hd) hf (W := W) (by show 2 * 0 + _ ≤ _; omega) hl
  obtain ⟨U, o, h1, h2⟩ := nx T' locs X' N (by rw [e']; exact Wd)
  exact ⟨U, o, stp U h1, h2⟩
theorem s_static (K : Ok Z κ own bytes maxL ret nm) {idx W mx ce' sl' : Nat} {y : MethodName} {bs : ByteArray} {rt : Option FieldType} {rm : Room} {as : List Value} {Q2 : Option Value → Wd → Prop} {ps : List FieldType} {r : Option FieldType} (hd : decode bytes pc = .ok (.invokestatic idx, 3)) (e : pc + 3 = pc')
    (C : Con l Z n0 y bs mx rt rm as L Q2) (w1 : (Cond.methodLink own idx y).before a0 Z = true) (w2 : (Cond.static y).before a0 Z = true) (w3 : (Cond.initialized y.cls).before a0 Z = true) (w4 : (Cond.code y bs mx rt).before a0 Z = true) (hy : y.cls ≠ "java/lang/invoke/MethodHandle" ∧ y.cls ≠ "java/lang/invoke/VarHandle")
    (pd : parseMethodDescriptor y.desc = some ⟨ps, r⟩) (hlen : as.length = ps.length) (hst : st = as.reverse ++ rest) (hsz : Ls.size = maxL) (hW : (rest.map fun v => v.category).sum ≤ W) (hf : rm.frames + 1 ≤ R.frames) (hl : W + (mx + 11) + rm.locals ≤ R.locals) (hce : ce + rm.cells = ce') (hsl : sl + rm.slots = sl') (hc : ce' ≤ R.cells) (hs : sl' ≤ R.slots)
    (nx : ∀ v L', Q2 v L' → Go l Z n0 R Q κ ce' sl' L' pc' Ls (v.toList ++ rest)) : Go l Z n0 R Q κ ce sl L pc Ls st := by
  subst e hce hsl; intro T locs X N Wd
  obtain ⟨v, _, ⟨T1, L1, k1, n1⟩, -, X1, ⟨Lc, hQ, l1, y1, z1⟩, st1⟩ := Jvm.LawKit.callS X K.ex K.ow (mvT K.zw w1) (mvT K.zw w2) (mvT K.zw w3) (mvT K.zw w4) hy
    (backOf (W := W) (Q := fun v h Lc => Fr n0 Lc ∧ ∃ L', Q2 v L' ∧ Wo Z n0 h L') (C T.heap Wd) K.zw w4 w3 hf hl) (g := mkF κ.m pc Ls st) rfl (hsz.trans K.2.2.2.2.1.symm) (argsL := as) (rest := rest) (lenOf pd hlen) hst (by show 2 * 0 + _ ≤ _; omega) (K.dec hd) (fun _ _ => ⟨rfl, rfl, hc, hs⟩)
  dsimp only [Pt.U, Pt.locs, Pt.cells, Pt.slots] at X1 l1 y1 z1 st1 hQ
  subst l1 y1 z1
  obtain ⟨hN, L', hq, hW'⟩ := hQ
  obtain ⟨U, o, h1, h2⟩ := nx v L' hq T1 _ X1 (Fr.app N hN) hW'
  exact ⟨U, o, st1 U h1, h2⟩
theorem s_special (K : Ok Z κ own bytes maxL ret nm) {idx W mx ce' sl' : Nat} {y : MethodName} {bs : ByteArray} {rm : Room} {a : Addr} {as : List Value} {Q2 : Option Value → Wd → Prop} {ps : List FieldType} {r : Option FieldType} (hd : decode bytes pc = .ok (.invokespecial idx, 3)) (e : pc + 3 = pc') (hin : y.name = "<init>")
    (C : Con l Z n0 y bs mx none rm (.ref a :: as) L Q2) (w1 : (Cond.methodLink own idx y).before a0 Z = true) (w2 : (Cond.instanceMethod y).before a0 Z = true) (w3 : (Cond.initialized y.cls).before a0 Z = true) (w4 : (Cond.code y bs mx none).before a0 Z = true) (hy : y.cls ≠ "java/lang/invoke/MethodHandle" ∧ y.cls ≠ "java/lang/invoke/VarHandle")
    (pd : parseMethodDescriptor y.desc = some ⟨ps, r⟩) (hlen : as.length = ps.length) (hst : st = as.reverse ++ .ref a :: rest) (hsz : Ls.size = maxL) (hW : (rest.map fun v => v.category).sum ≤ W) (hf : rm.frames + 1 ≤ R.frames) (hl : W + (mx + 11) + rm.locals ≤ R.locals) (hce : ce + rm.cells = ce') (hsl : sl + rm.slots = sl') (hc : ce' ≤ R.cells) (hs : sl' ≤ R.slots)
    (nx : ∀ v L', Q2 v L' → Go l Z n0 R Q κ ce' sl' L' pc' Ls (v.toList ++ rest)) : Go l Z n0 R Q κ ce sl L pc Ls st := by
  subst e hce hsl; intro T locs X N Wd
  obtain ⟨v, _, ⟨T1, L1, k1, n1⟩, -, X1, ⟨Lc, hQ, l1, y1, z1⟩, st1⟩ := X.specialBack K.ex hin K.ow (mvT K.zw w1) (mvT K.zw w2) (mvT K.zw w4) hy
    (backOf (W := W) (Q := fun v h Lc => Fr n0 Lc ∧ ∃ L', Q2 v L' ∧ Wo Z n0 h L') (C T.heap Wd) K.zw w4 w3 hf hl) (g := mkF κ.m pc Ls st) rfl (hsz.trans K.2.2.2.2.1.symm) (Steps.refl _) (a := a) (argsL := as) (rest := rest) (lenOf pd hlen) hst (by show 2 * 0 + _ ≤ _; omega) (K.dec hd) (fun _ _ => ⟨rfl, rfl, hc, hs⟩)
  dsimp only [Pt.U, Pt.locs, Pt.cells, Pt.slots] at X1 l1 y1 z1 st1 hQ
  subst l1 y1 z1
  obtain ⟨hN, L', hq, hW'⟩ := hQ
  obtain ⟨U, o, h1, h2⟩ := nx v L' hq T1 _ X1 (Fr.app N hN) hW'
  exact ⟨U, o, st1.trans h1, h2⟩
theorem s_virtualE (K : Ok Z κ own bytes maxL ret nm) {idx W mx ce' sl' : Nat} {C : String} {y : MethodName} {bs : ByteArray} {rt : Option FieldType} {rm : Room} {a : Addr} {as : List Value} {Q2 : Option Value → Wd → Prop} {ps : List FieldType} {r : Option FieldType} (hd : decode bytes pc = .ok (.invokevirtual idx, 3)) (e : pc + 3 = pc')
    (hE : ∀ h, Wo Z n0 h L → Exa Z h a C) (Co : Con l Z n0 y bs mx rt rm (.ref a :: as) L Q2) (w1 : (Cond.methodLink own idx y).before a0 Z = true) (wd : (Cond.declares y).before a0 Z = true) (ws : (Cond.selects C y y).before a0 Z = true) (w2 : (Cond.instanceMethod y).before a0 Z = true) (w3 : (Cond.initialized y.cls).before a0 Z = true) (w4 : (Cond.code y bs mx rt).before a0 Z = true) (hy : y.cls ≠ "java/lang/invoke/MethodHandle" ∧ y.cls ≠ "java/lang/invoke/VarHandle")
    (pd : parseMethodDescriptor y.desc = some ⟨ps, r⟩) (hlen : as.length = ps.length) (hst : st = as.reverse ++ .ref a :: rest) (hsz : Ls.size = maxL) (hW : (rest.map fun v => v.category).sum ≤ W) (hf : rm.frames + 1 ≤ R.frames) (hl : W + (mx + 11) + rm.locals ≤ R.locals) (hce : ce + rm.cells = ce') (hsl : sl + rm.slots = sl') (hc : ce' ≤ R.cells) (hs : sl' ≤ R.slots)
    (nx : ∀ v L', Q2 v L' → Go l Z n0 R Q κ ce' sl' L' pc' Ls (v.toList ++ rest)) : Go l Z n0 R Q κ ce sl L pc Ls st := by
  subst e hce hsl; intro T locs X N Wd
  obtain ⟨cq, kq, qa, -, qc⟩ := isOf (T := T) K.zw rfl (hE _ Wd)
  obtain ⟨v, _, ⟨T1, L1, k1, n1⟩, -, X1, ⟨Lc, hQ, l1, y1, z1⟩, st1⟩ := X.virtualBack K.ex K.ow (mvT K.zw w1) (mvT K.zw wd) (notFace_of_selects (args := #[]) (mvT K.zw ws)) (mvT K.zw ws) (mvT K.zw w2) hy
    (backOf (W := W) (Q := fun v h Lc => Fr n0 Lc ∧ ∃ L', Q2 v L' ∧ Wo Z n0 h L') (Co T.heap Wd) K.zw w4 w3 hf hl) qa qc (g := mkF κ.m pc Ls st) rfl (hsz.trans K.2.2.2.2.1.symm) (Steps.refl _) (argsL := as) (rest := rest) (lenOf pd hlen) hst (by show 2 * 0 + _ ≤ _; omega) (K.dec hd) (fun _ _ => ⟨rfl, rfl, hc, hs⟩)
  dsimp only [Pt.U, Pt.locs, Pt.cells, Pt.slots] at X1 l1 y1 z1 st1 hQ
  subst l1 y1 z1
  obtain ⟨hN, L', hq, hW'⟩ := hQ
  obtain ⟨U, o, h1, h2⟩ := nx v L' hq T1 _ X1 (Fr.app N hN) hW'
  exact ⟨U, o, st1.trans h1, h2⟩
theorem s_virtual (K : Ok Z κ own bytes maxL ret nm) {idx W mx ce' sl' k : Nat} {C : String} {fs : List Fl} {y : MethodName} {bs : ByteArray} {rt : Option FieldType} {rm : Room} {a : Addr} {as : List Value} {Q2 : Option Value → Wd → Prop} {ps : List FieldType} {r : Option FieldType} (hd : decode bytes pc = .ok (.invokevirtual idx, 3)) (e : pc + 3 = pc')
    (hk : L[k]? = some (a, .inl (C, fs))) (Co : Con l Z n0 y bs mx rt rm (.ref a :: as) L Q2) (w1 : (Cond.methodLink own idx y).before a0 Z = true) (wd : (Cond.declares y).before a0 Z = true) (ws : (Cond.selects C y y).before a0 Z = true) (w2 : (Cond.instanceMethod y).before a0 Z = true) (w3 : (Cond.initialized y.cls).before a0 Z = true) (w4 : (Cond.code y bs mx rt).before a0 Z = true) (hy : y.cls ≠ "java/lang/invoke/MethodHandle" ∧ y.cls ≠ "java/lang/invoke/VarHandle")
    (pd : parseMethodDescriptor y.desc = some ⟨ps, r⟩) (hlen : as.length = ps.length) (hst : st = as.reverse ++ .ref a :: rest) (hsz : Ls.size = maxL) (hW : (rest.map fun v => v.category).sum ≤ W) (hf : rm.frames + 1 ≤ R.frames) (hl : W + (mx + 11) + rm.locals ≤ R.locals) (hce : ce + rm.cells = ce') (hsl : sl + rm.slots = sl') (hc : ce' ≤ R.cells) (hs : sl' ≤ R.slots)
    (nx : ∀ v L', Q2 v L' → Go l Z n0 R Q κ ce' sl' L' pc' Ls (v.toList ++ rest)) : Go l Z n0 R Q κ ce sl L pc Ls st :=
  s_virtualE K hd e (fun h W => (W.at hk).1) Co w1 wd ws w2 w3 w4 hy pd hlen hst hsz hW hf hl hce hsl hc hs nx
theorem s_virtualO (K : Ok Z κ own bytes maxL ret nm) {idx W mx ce' sl' : Nat} {C : String} {y : MethodName} {bs : ByteArray} {rt : Option FieldType} {rm : Room} {a : Addr} {as : List Value} {Q2 : Option Value → Wd → Prop} {ps : List FieldType} {r : Option FieldType} (hd : decode bytes pc = .ok (.invokevirtual idx, 3)) (e : pc + 3 = pc')
    (hE : Exa Z Z.heap a C) (Co : Con l Z n0 y bs mx rt rm (.ref a :: as) L Q2) (w1 : (Cond.methodLink own idx y).before a0 Z = true) (wd : (Cond.declares y).before a0 Z = true) (ws : (Cond.selects C y y).before a0 Z = true) (w2 : (Cond.instanceMethod y).before a0 Z = true) (w3 : (Cond.initialized y.cls).before a0 Z = true) (w4 : (Cond.code y bs mx rt).before a0 Z = true) (hy : y.cls ≠ "java/lang/invoke/MethodHandle" ∧ y.cls ≠ "java/lang/invoke/VarHandle")
    (pd : parseMethodDescriptor y.desc = some ⟨ps, r⟩) (hlen : as.length = ps.length) (hst : st = as.reverse ++ .ref a :: rest) (hsz : Ls.size = maxL) (hW : (rest.map fun v => v.category).sum ≤ W) (hf : rm.frames + 1 ≤ R.frames) (hl : W + (mx + 11) + rm.locals ≤ R.locals) (hce : ce + rm.cells = ce') (hsl : sl + rm.slots = sl') (hc : ce' ≤ R.cells) (hs : sl' ≤ R.slots)
    (nx : ∀ v L', Q2 v L' → Go l Z n0 R Q κ ce' sl' L' pc' Ls (v.toList ++ rest)) : Go l Z n0 R Q κ ce sl L pc Ls st :=
  s_virtualE K hd e (fun h W => hE.ext W.1.2) Co w1 wd ws w2 w3 w4 hy pd hlen hst hsz hW hf hl hce hsl hc hs nx
/-! what stood at the start -/
theorem s_gets (K : Ok Z κ own bytes maxL ret nm) {idx : Nat} {O n d : String} {v : Value} (hd : decode bytes pc = .ok (.getstatic idx, 3)) (e : pc + 3 = pc') (w : (Cond.fieldLink own idx O n d).before a0 Z = true) (S : Sta Z Z.heap O n d v) (nx : Go l Z n0 R Q κ ce sl L pc' Ls (v :: st)) : Go l Z n0 R Q κ ce sl L pc Ls st := by
  subst e; intro T locs X N W
  obtain ⟨T', X', e', stp⟩ := getS X K.ex K.zw K.ow (host := "") w Via.refl rfl (S.ext W.1.2) (g := mkF κ.m pc Ls st) rfl (K.dec hd)
  obtain ⟨U, o, h1, h2⟩ := nx T' locs X' N (by rw [e']; exact W)
  exact ⟨U, o, stp U h1, h2⟩
theorem s_getfO (K : Ok Z κ own bytes maxL ret nm) {idx : Nat} {O n d : String} {a : Addr} {v : Value} (hd : decode bytes pc = .ok (.getfield idx, 3)) (e : pc + 3 = pc') (w : (Cond.fieldLink own idx O n d).before a0 Z = true)
    (F : Fld Z Z.heap a O n d v) (nx : Go l Z n0 R Q κ ce sl L pc' Ls (v :: st)) : Go l Z n0 R Q κ ce sl L pc Ls (.ref a :: st) := by
  subst e; intro T locs X N W
  obtain ⟨T', X', e', stp⟩ := getF X K.ex K.zw K.ow (host := "") (Or.inl w) Via.refl rfl (F.ext W.1.2) (g := mkF κ.m pc Ls (.ref a :: st)) rfl rfl (K.dec hd)
  obtain ⟨U, o, h1, h2⟩ := nx T' locs X' N (by rw [e']; exact W)
  exact ⟨U, o, stp U h1, h2⟩
/-! arrays of arrays, clone, arraycopy, casts, private methods -/
theorem s_anewarr (K : Ok Z κ own bytes maxL ret nm) {ty : FieldType} {C : String} {idx : Nat} {j : Int32} {n cap ce' sl' : Nat} {vs0 : List Value} (hd : decode bytes pc = .ok (.anewarray idx, 3)) (e : pc + 3 = pc') (hC : (FieldType.array ty).toString = C) (w1 : (Cond.classLink own idx C).before a0 Z = true) (w2 : (Cond.arrayOver (.array ty)).before a0 Z = true) (hj : Ix j n) (hcap : n ≤ cap) (hb : cap ≤ 67108864) (hvs : List.replicate n Value.null = vs0) (hce : ce + 1 = ce') (hsl : sl + cap = sl') (hc : ce' ≤ R.cells) (hs : sl' ≤ R.slots)
    (nx : ∀ b : Addr, Go l Z n0 R Q κ ce' sl' ((b, .inr (.array ty, vs0)) :: L) pc' Ls (.ref b :: st)) : Go l Z n0 R Q κ ce sl L pc Ls (.int j :: st) := by
  subst e hce hsl hvs hC; intro T locs X N W
  obtain ⟨T', h', cA, X', e', E, A, Ex, -, stp⟩ := newRA X K.ex K.zw K.ow rfl w1 w2 rfl (g := mkF κ.m pc Ls (.int j :: st)) rfl (K.dec hd) rfl hj.1 (by rw [hj.2]; exact hcap) (by omega) hc hs (ad := "[" ++ (FieldType.array ty).toString) rfl
  obtain ⟨U, o, h1, h2⟩ := nx T.heap.size T' locs X' N (by
    rw [e']
    refine W.add E ⟨_, A, ?_, ?_, fun v hv => ?_, Ex⟩
    · simp [newA, hj.2, defaultValue]
    · simp only [List.length_replicate]; omega
    · rw [(List.mem_replicate.mp hv).2]; rfl)
  exact ⟨U, o, stp U h1, h2⟩
theorem s_aastore (K : Ok Z κ own bytes maxL ret nm) {k k2 i : Nat} {a b : Addr} {j : Int32} {ty : FieldType} {vs ws : List Value} {L' : Wd} (hd : decode bytes pc = .ok (.aastore, 1)) (e : pc + 1 = pc') (w : (Cond.arrayOver (.array ty)).before a0 Z = true) (hk : L[k]? = some (a, .inr (.array ty, vs))) (hk2 : L[k2]? = some (b, .inr (ty, ws))) (hj : Ix j i) (hi : i < vs.length) (hL : L.set k (a, .inr (.array ty, vs.set i (.ref b))) = L')
    (nx : Go l Z n0 R Q κ ce sl L' pc' Ls st) : Go l Z n0 R Q κ ce sl L pc Ls (.ref b :: .int j :: .ref a :: st) := by
  subst e hL; intro T locs X N W
  obtain ⟨c, A, hc, -, -, Ea⟩ := W.at hk
  obtain ⟨-, -, -, -, -, Eb⟩ := W.at hk2
  obtain ⟨comp, cA, kA, q1, -, q3, q4, q5⟩ := Jvm.Stand.arrayOver_specB (show (Cond.arrayOver (.array ty)).holds a0 Z none Z [] = true from w)
  obtain ⟨cell, kk, e1, e2, -⟩ := Ea
  cases A.1.symm.trans e1
  have ec : c.cls = cA := Option.some.inj (e2.symm.trans q5)
  have S : Sto Z T.heap a (.ref b) := Sto.ofVA (ty := ty) (C := (FieldType.array ty).toString) A ec ⟨kA, comp, q3, q4, q1⟩ (Ins.self (C := (FieldType.array ty).toString) Eb)
  obtain ⟨T', h', X', e', Wr', stp⟩ := stR X K.ex K.zw rfl A (Av.inb hc hj hi) rfl S (g := mkF κ.m pc Ls (.ref b :: .int j :: .ref a :: st)) rfl rfl (K.dec hd)
  rw [hj.2] at Wr'
  obtain ⟨U, o, h1, h2⟩ := nx T' _ X' (Fr.snoc X' N (W.ge hk)) (by rw [e']; exact W.arr hk rfl Wr')
  exact ⟨U, o, stp U h1, h2⟩
theorem s_castA (K : Ok Z κ own bytes maxL ret nm) {k idx : Nat} {a : Addr} {ty : FieldType} {vs : List Value} {C : String} (hd : decode bytes pc = .ok (.checkcast idx, 3)) (e : pc + 3 = pc') (hC : "[" ++ ty.toString = C) (w : (Cond.classLink own idx C).before a0 Z = true) (hk : L[k]? = some (a, .inr (ty, vs)))
    (nx : Go l Z n0 R Q κ ce sl L pc' Ls (.ref a :: st)) : Go l Z n0 R Q κ ce sl L pc Ls (.ref a :: st) := by
  subst e hC; intro T locs X N W
  obtain ⟨-, -, -, -, -, Ea⟩ := W.at hk
  obtain ⟨T', X', e', stp⟩ := castY X K.ex K.zw K.ow w rfl (Ins.self Ea) (g := mkF κ.m pc Ls (.ref a :: st)) rfl rfl (K.dec hd)
  obtain ⟨U, o, h1, h2⟩ := nx T' locs X' N (by rw [e']; exact W)
  exact ⟨U, o, stp U h1, h2⟩
theorem s_clone (K : Ok Z κ own bytes maxL ret nm) {k idx W cap ce' sl' : Nat} {a : Addr} {ty : FieldType} {vs : List Value} {C : String} (hd : decode bytes pc = .ok (.invokevirtual idx, 3)) (e : pc + 3 = pc') (hC : "[" ++ ty.toString = C)
    (w1 : (Cond.methodLink own idx ⟨C, "clone", "()Ljava/lang/Object;"⟩).before a0 Z = true) (w2 : (Cond.sameMethod C "java/lang/Object" "clone" "()Ljava/lang/Object;").before a0 Z = true) (w3 : (Cond.native ⟨"java/lang/Object", "clone", "()Ljava/lang/Object;"⟩).before a0 Z = true)
    (w4 : (Cond.instanceMethod ⟨"java/lang/Object", "clone", "()Ljava/lang/Object;"⟩).before a0 Z = true) (w5 : (Cond.selects C ⟨C, "clone", "()Ljava/lang/Object;"⟩ ⟨"java/lang/Object", "clone", "()Ljava/lang/Object;"⟩).before a0 Z = true) (w6 : (Cond.castable C "java/lang/Cloneable").before a0 Z = true)
    (hk : L[k]? = some (a, .inr (ty, vs))) (hsz : Ls.size = maxL) (hf : 1 ≤ R.frames) (hW : (st.map fun v => v.category).sum ≤ W) (hl : W + 14 ≤ R.locals) (hcap : vs.length ≤ cap) (hce : ce + 1 = ce') (hsl : sl + cap = sl') (hc : ce' ≤ R.cells) (hs : sl' ≤ R.slots)
    (nx : ∀ b : Addr, Go l Z n0 R Q κ ce' sl' ((b, .inr (ty, vs)) :: L) pc' Ls (.ref b :: st)) : Go l Z n0 R Q κ ce sl L pc Ls (.ref a :: st) := by
  subst e hC hce hsl; intro T locs X N Wd
  obtain ⟨c, A, hcs, hlen, hfit, Ea⟩ := Wd.at hk
  have F : FitC Z c := fun i v hv => by
    obtain ⟨hs', k', hk', comp, hkind⟩ := A.2.1
    have m : v ∈ vs := by rw [← hcs]; exact Array.mem_toList_iff.mpr (Array.mem_of_getElem? hv)
    simp [State.fitsSlot, State.slotType?, hk', hkind, hfit v m]
  obtain ⟨T', h', X', e', E, A', Ea', stp⟩ := cloneA X K.ex K.zw K.ow w1 w2 w3 w4 w5 w6 rfl A Ea F (g := mkF κ.m pc Ls (.ref a :: st)) rfl (hsz.trans K.2.2.2.2.1.symm) rfl (K.dec hd) hf (W := W) (by show 2 * 0 + _ ≤ _; omega) hl (cap := cap) (by rw [← Array.length_toList, hcs]; exact hcap) hc hs
  obtain ⟨U, o, h1, h2⟩ := nx T.heap.size T' locs X' N (by rw [e']; exact Wd.add E ⟨_, A', hcs, hlen, hfit, Ea'⟩)
  exact ⟨U, o, stp U h1, h2⟩
theorem s_private (K : Ok Z κ own bytes maxL ret nm) {idx W mx ce' sl' k kk : Nat} {fs : List Fl} {y : MethodName} {bs : ByteArray} {rt : Option FieldType} {rm : Room} {a : Addr} {as : List Value} {Q2 : Option Value → Wd → Prop} {ps : List FieldType} {r : Option FieldType} (hd : decode bytes pc = .ok (.invokevirtual idx, 3)) (e : pc + 3 = pc')
    (hk : L[k]? = some (a, .inl (y.cls, fs))) (Co : Con l Z n0 y bs mx rt rm (.ref a :: as) L Q2) (w1 : (Cond.methodLink own idx y).before a0 Z = true) {C' : String} {y1 z1 : MethodName} (ws : (Cond.selects C' y1 z1).before a0 Z = true) (hz1 : z1.cls = y.cls) (w2 : (Cond.instanceMethod y).before a0 Z = true) (wp : (Cond.privateMethod y).before a0 Z = true) (w3 : (Cond.initialized y.cls).before a0 Z = true) (w4 : (Cond.code y bs mx rt).before a0 Z = true) (hy : y.cls ≠ "java/lang/invoke/MethodHandle" ∧ y.cls ≠ "java/lang/invoke/VarHandle")
    (pd : parseMethodDescriptor y.desc = some ⟨ps, r⟩) (hlen : as.length = ps.length) (hst : st = as.reverse ++ .ref a :: rest) (hsz : Ls.size = maxL) (hW : (rest.map fun v => v.category).sum ≤ W) (hf : rm.frames + 1 ≤ R.frames) (hl : W + (mx + 11) + rm.locals ≤ R.locals) (hce : ce + rm.cells = ce') (hsl : sl + rm.slots = sl') (hc : ce' ≤ R.cells) (hs : sl' ≤ R.slots)
    (nx : ∀ v L', Q2 v L' → Go l Z n0 R Q κ ce' sl' L' pc' Ls (v.toList ++ rest)) : Go l Z n0 R Q κ ce sl L pc Ls st := by
  subst e hce hsl; intro T locs X N Wd
  obtain ⟨cq, q1, q2⟩ := (Wd.at hk).1.cell
  have hp := Cond.privateMethod_at (mvP K.zw wp (args := #[]))
  have hsel : (Cond.selects y.cls y y).before κ.args κ.s = true := by
    obtain ⟨_, _, mz, -, -, g3, -, kz, g4, g5⟩ := Cond.selects_spec (mvT (s := κ.s) (args := #[]) K.zw ws)
    have g6 := findClass_of_methodNamed g3
    rw [hz1] at g6
    exact selects_self_of_private g6 g4 g5 hp (mvT K.zw w2) hy
  obtain ⟨v, _, ⟨T1, L1, k1, n1⟩, -, X1, ⟨Lc, hQ, l1, y1, z1⟩, st1⟩ := X.privateBack K.ex K.ow (mvT K.zw w1) (mvT K.zw w2) hsel hp (mvT K.zw w4) hy
    (backOf (W := W) (Q := fun v h Lc => Fr n0 Lc ∧ ∃ L', Q2 v L' ∧ Wo Z n0 h L') (Co T.heap Wd) K.zw w4 w3 hf hl) (g := mkF κ.m pc Ls st) rfl (hsz.trans K.2.2.2.2.1.symm) (Steps.refl _) (a := a) q1 q2 (argsL := as) (rest := rest) (lenOf pd hlen) hst (by show 2 * 0 + _ ≤ _; omega) (K.dec hd) (fun _ _ => ⟨rfl, rfl, hc, hs⟩)
  dsimp only [Pt.U, Pt.locs, Pt.cells, Pt.slots] at X1 l1 y1 z1 st1 hQ
  subst l1 y1 z1
  obtain ⟨hN, L', hq, hW'⟩ := hQ
  obtain ⟨U, o, h1, h2⟩ := nx v L' hq T1 _ X1 (Fr.app N hN) hW'
  exact ⟨U, o, st1.trans h1, h2⟩
theorem Av.arv {h : Heap} {a : Addr} {ty : FieldType} {vs : List Value} (A : Av Z h a ty vs) : ∃ k, Arv Z h a k ty (Int32.ofNat vs.length) vs .null := by
  obtain ⟨c, h1, h2, h3, h4, -⟩ := A
  have q := Ix.ofNat h3
  have sz : c.slots.size = vs.length := by rw [← h2, Array.length_toList]
  refine ⟨c.cls, c, h1, rfl, by rw [q.2]; exact sz, q.1, fun i hi => ?_, fun i hi => ?_⟩
  · rw [sz] at hi
    rw [List.getD_eq_getElem?_getD, List.getElem?_eq_getElem hi]
    exact Av.val h2 (List.getElem?_eq_getElem hi)
  · rw [sz] at hi
    rw [List.getD_eq_getElem?_getD, List.getElem?_eq_getElem hi]
    exact h4 _ (List.getElem_mem hi)
theorem s_copy (K : Ok Z κ own bytes maxL ret nm) {idx W ka kb : Nat} {a b : Addr} {sp dp nn : Int32} {i j n : Nat} {ty : FieldType} {vs vd vd' : List Value} {L' : Wd} (hd : decode bytes pc = .ok (.invokestatic idx, 3)) (e : pc + 3 = pc') (w1 : (Cond.methodLink own idx Jvm.Stand.acN).before a0 Z = true) (w2 : (Cond.native Jvm.Stand.acN).before a0 Z = true) (w3 : (Cond.static Jvm.Stand.acN).before a0 Z = true) (w4 : (Cond.initialized "java/lang/System").before a0 Z = true)
    (hka : L[ka]? = some (a, .inr (ty, vs))) (hkb : L[kb]? = some (b, .inr (ty, vd))) (hty : refKind ty = false) (hsp : Ix sp i) (hdp : Ix dp j) (hnn : Ix nn n) (h4 : i + n ≤ vs.length) (h5 : j + n ≤ vd.length) (hv : vd.take j ++ ((List.range n).map fun x => vs.getD (i + x) .null) ++ vd.drop (j + n) = vd') (hL : L.set kb (b, .inr (ty, vd')) = L')
    (hsz : Ls.size = maxL) (hf : 1 ≤ R.frames) (hW : (st.map fun v => v.category).sum ≤ W) (hl : W + 18 ≤ R.locals) (nx : Go l Z n0 R Q κ ce sl L' pc' Ls st) : Go l Z n0 R Q κ ce sl L pc Ls (.int nn :: .int dp :: .ref b :: .int sp :: .ref a :: st) := by
  subst e hL hv; intro T locs X N Wd
  have Ha := Wd.at hka
  have Hb := Wd.at hkb
  obtain ⟨k1, A⟩ := Av.arv Ha
  obtain ⟨k2, B⟩ := Av.arv Hb
  obtain ⟨-, -, -, la, -, -⟩ := Ha
  obtain ⟨-, -, -, lb, -, Eb⟩ := Hb
  have ea := (Ix.ofNat la).2
  have eb := (Ix.ofNat lb).2
  obtain ⟨T', h', Lc, X', e', N', Kp, B', stp⟩ := cpA X K.ex K.zw K.ow w1 w2 w3 w4 rfl A B (Or.inl ⟨rfl, hty⟩) hsp.1 hdp.1 hnn.1 (by rw [hsp.2, hnn.2, ea]; exact h4) (by rw [hdp.2, hnn.2, eb]; exact h5) rfl (by rw [hdp.2, hnn.2]; exact h5) N (Wd.ge hkb) (g := mkF κ.m pc Ls (.int nn :: .int dp :: .ref b :: .int sp :: .ref a :: st)) rfl (hsz.trans K.2.2.2.2.1.symm) rfl (K.dec hd) hf (W := W) (by show 2 * 0 + _ ≤ _; omega) hl
  rw [hsp.2, hdp.2, hnn.2] at B'
  obtain ⟨U, o, h1, h2⟩ := nx T' Lc X' N' (by
    rw [e']
    refine Wd.set hkb (Wd.1.keep Kp (allS (Wd.ge hkb) all0)) ?_ (fun b1 o1 ne H => H.keep Kp (ninS ne nin0))
    obtain ⟨c, A', -, S', -, H', G'⟩ := B'
    have len : (vd.take j ++ ((List.range n).map fun x => vs.getD (i + x) .null) ++ vd.drop (j + n)).length = vd.length := by
      simp only [List.length_append, List.length_take, List.length_map, List.length_range, List.length_drop]; omega
    have sz : c.slots.size = vd.length := by rw [S', eb]
    have tl : c.slots.toList = (vd.take j ++ ((List.range n).map fun x => vs.getD (i + x) .null) ++ vd.drop (j + n)) := by
      apply List.ext_getElem?
      intro x
      by_cases q : x < vd.length
      · have := H' x (by rw [sz]; exact q)
        rw [Array.getElem?_toList, this, List.getD_eq_getElem?_getD, List.getElem?_eq_getElem (by rw [len]; exact q)]; rfl
      · rw [List.getElem?_eq_none (by rw [Array.length_toList, sz]; omega), List.getElem?_eq_none (by rw [len]; omega)]
    refine ⟨c, A', tl, by rw [len]; exact lb, fun v hv => ?_, Eb.keep Kp⟩
    obtain ⟨x, hx, rfl⟩ := List.getElem_of_mem hv
    have := G' x (by rw [sz, ← len]; exact hx)
    rwa [List.getD_eq_getElem?_getD, List.getElem?_eq_getElem hx] at this)
  exact ⟨U, o, stp U h1, h2⟩
/-! the end -/
theorem s_ret {t : FieldType} (K : Ok Z κ own bytes maxL (some t) nm) {i : Instr} {w : Value} (hd : decode bytes pc = .ok (i, 1)) (hn : narrow t w = w)
    (hi : (i = .ireturn ∧ (t = .int ∨ t = .boolean ∨ t = .byte ∨ t = .char ∨ t = .short) ∧ ∃ z, w = .int z) ∨ (i = .lreturn ∧ t = .long ∧ ∃ z, w = .long z) ∨ (i = .dreturn ∧ t = .double ∧ ∃ z, w = .double z) ∨ (i = .freturn ∧ t = .float ∧ ∃ z, w = .float z) ∨ (i = .areturn ∧ t.isReference = true ∧ w.isRef = true))
    (hc : ce ≤ R.cells) (hs : sl ≤ R.slots) (hq : Q (some w) L) : Go l Z n0 R Q κ ce sl L pc Ls (w :: st) := fun T locs X N W => by
  have hret := K.2.2.2.2.2.1
  obtain ⟨fs, hr, hrun, hended, hW, hsame⟩ := X.leave (v := some w) (fun h => by rw [hret] at h; cases h) K.2.2.2.2.2.2.1
  exact ⟨_, _, retOut X K.ex hret hn hi (K.dec hd) hr, hrun, hended, _, _, rfl, ⟨N, L, hq, W⟩, ⟨_, rfl⟩, hW, hsame.mono hc hs⟩
theorem s_ireturn (K : Ok Z κ own bytes maxL (some .int) nm) {z : Int32} (hd : decode bytes pc = .ok (.ireturn, 1)) (hc : ce ≤ R.cells) (hs : sl ≤ R.slots) (hq : Q (some (.int z)) L) : Go l Z n0 R Q κ ce sl L pc Ls (.int z :: st) := s_ret K hd rfl (Or.inl ⟨rfl, Or.inl rfl, _, rfl⟩) hc hs hq
theorem s_zreturn (K : Ok Z κ own bytes maxL (some .boolean) nm) {z : Int32} (hd : decode bytes pc = .ok (.ireturn, 1)) (hn : narrow .boolean (.int z) = .int z) (hc : ce ≤ R.cells) (hs : sl ≤ R.slots) (hq : Q (some (.int z)) L) : Go l Z n0 R Q κ ce sl L pc Ls (.int z :: st) := s_ret K hd hn (Or.inl ⟨rfl, Or.inr (Or.inl rfl), _, rfl⟩) hc hs hq
theorem s_lreturn (K : Ok Z κ own bytes maxL (some .long) nm) {z : Int64} (hd : decode bytes pc = .ok (.lreturn, 1)) (hc : ce ≤ R.cells) (hs : sl ≤ R.slots) (hq : Q (some (.long z)) L) : Go l Z n0 R Q κ ce sl L pc Ls (.long z :: st) := s_ret K hd rfl (Or.inr (Or.inl ⟨rfl, rfl, _, rfl⟩)) hc hs hq
theorem s_areturn {t : FieldType} (K : Ok Z κ own bytes maxL (some t) nm) {w : Value} (hd : decode bytes pc = .ok (.areturn, 1)) (ht : t.isReference = true) (hw : w.isRef = true) (hn : narrow t w = w) (hc : ce ≤ R.cells) (hs : sl ≤ R.slots) (hq : Q (some w) L) : Go l Z n0 R Q κ ce sl L pc Ls (w :: st) := s_ret K hd hn (Or.inr (Or.inr (Or.inr (Or.inr ⟨rfl, ht, hw⟩)))) hc hs hq
theorem s_return (K : Ok Z κ own bytes maxL none nm) (hd : decode bytes pc = .ok (.return_, 1)) (hc : ce ≤ R.cells) (hs : sl ≤ R.slots) (hq : Q none L) : Go l Z n0 R Q κ ce sl L pc Ls [] := fun T locs X N W => by
  have hret := K.2.2.2.2.2.1
  obtain ⟨fs, hr, hrun, hended, hW, hsame⟩ := X.leave (v := none) (fun _ => rfl) K.2.2.2.2.2.2.1
  exact ⟨_, _, X.returnOut K.ex hret (K.dec hd) hr, hrun, hended, _, _, rfl, ⟨N, L, hq, W⟩, ⟨_, rfl⟩, hW, hsame.mono hc hs⟩
end Steps
end Jvm.OwnKit
namespace Jvm.Pilot.@@N@@
open Jvm Jvm.ClassFile Sem Op Lib Jvm.Free Jvm.Stand Jvm.LawKit Jvm.RoadKit Bundle Jvm.OwnKit Jvm.Pilot.@@N@@.Jvm.D
def own_ints (ps : List Nat) : List Value := ps.map fun i => .int (Int32.ofNat i)
theorem own_len {ps : List Nat} : (own_ints ps).length = ps.length := by simp [own_ints]
theorem own_get {ps : List Nat} {i : Nat} (h : i < ps.length) : (own_ints ps)[i]? = some (.int (Int32.ofNat (ps.getD i 0))) := by
  simp [own_ints, List.getD_eq_getElem?_getD, h]
theorem own_set {ps : List Nat} {i x : Nat} : (own_ints ps).set i (.int (Int32.ofNat x)) = own_ints (ps.set i x) := by
  simp [own_ints, List.map_set]
theorem own_rep {n : Nat} : List.replicate n (defaultValue .int) = own_ints (List.replicate n 0) := by
  simp only [own_ints, List.map_replicate]; rfl
def own_refs (as : List Addr) : List Value := as.map .ref
theorem own_lenr {as : List Addr} : (own_refs as).length = as.length := by simp [own_refs]
theorem own_getr {as : List Addr} {i : Nat} (h : i < as.length) : (own_refs as)[i]? = some (.ref (as.getD i 0)) := by
  simp [own_refs, List.getD_eq_getElem?_getD, h]
def own_rows (as : List Addr) (rs : List (List Nat)) : Wd := List.zipWith (fun a r => (a, .inr (.int, own_ints r))) as rs
theorem own_row {as : List Addr} {rs : List (List Nat)} {F : Wd} {n : Nat} (h1 : n < as.length) (h2 : n < rs.length) : (own_rows as rs ++ F)[n]? = some (as.getD n 0, .inr (.int, own_ints (rs.getD n []))) := by
  rw [List.getElem?_append_left (by rw [own_rows, List.length_zipWith]; omega)]
  simp [own_rows, List.getElem?_zipWith, List.getD_eq_getElem?_getD, h1, h2]
theorem own_rowat {x y z : Addr × Ob} {as : List Addr} {rs : List (List Nat)} {F : Wd} {n : Nat} (h1 : n < as.length) (h2 : n < rs.length) : (x :: y :: z :: (own_rows as rs ++ F))[n + 3]? = some (as.getD n 0, .inr (.int, own_ints (rs.getD n []))) := own_row h1 h2
theorem own_rowat2 {x y : Addr × Ob} {as : List Addr} {rs : List (List Nat)} {F : Wd} {n : Nat} (h1 : n < as.length) (h2 : n < rs.length) : (x :: y :: (own_rows as rs ++ F))[n + 2]? = some (as.getD n 0, .inr (.int, own_ints (rs.getD n []))) := own_row h1 h2
theorem own_rowset {x y z : Addr × Ob} {as : List Addr} {rs : List (List Nat)} {F : Wd} {n s i : Nat} (h1 : n < as.length) (h2 : n < rs.length) :
    (x :: y :: z :: (own_rows as rs ++ F)).set (n + 3) (as.getD n 0, .inr (.int, (own_ints (rs.getD n [])).set s (.int (Int32.ofNat i)))) = x :: y :: z :: (own_rows as (rs.set n ((rs.getD n []).set s i)) ++ F) := by
  show x :: y :: z :: (own_rows as rs ++ F).set n _ = _
  congr 3
  rw [own_set]
  have hl : n < (own_rows as rs).length := by rw [own_rows, List.length_zipWith]; omega
  rw [List.set_append_left _ _ hl]
  congr 1
  apply List.ext_getElem?
  intro k
  by_cases q : n = k
  · subst q
    rw [List.getElem?_set_self hl]
    simp [own_rows, List.getElem?_zipWith, List.getD_eq_getElem?_getD, h1, h2]
  · rw [List.getElem?_set_ne q]
    simp only [own_rows, List.getElem?_zipWith]
    rw [List.getElem?_set_ne q]
theorem own_nmat {x y z w : Addr × Ob} {as : List Addr} {rs : List (List Nat)} {c : Nat} (ha : as.length = c) (hr : rs.length = c) : (x :: y :: z :: (own_rows as rs ++ [w]))[as.length + 3]? = some w := by
  show (own_rows as rs ++ [w])[as.length]? = some w
  have e : (own_rows as rs).length = as.length := by rw [own_rows, List.length_zipWith]; omega
  rw [List.getElem?_append_right (by omega), e, Nat.sub_self]; rfl
theorem own_nmerase {x y z w : Addr × Ob} {as : List Addr} {rs : List (List Nat)} {c : Nat} (ha : as.length = c) (hr : rs.length = c) : w :: (x :: y :: z :: (own_rows as rs ++ [w])).eraseIdx (as.length + 3) = w :: x :: y :: z :: (own_rows as rs ++ []) := by
  show w :: x :: y :: z :: (own_rows as rs ++ [w]).eraseIdx as.length = _
  have e : (own_rows as rs).length = as.length := by rw [own_rows, List.length_zipWith]; omega
  rw [List.eraseIdx_append_of_length_le (by omega), e, Nat.sub_self]; rfl
theorem own_st6 {a b c d e f s6 : Slot} {v : Int32} (h : s6 = .unset ∨ ∃ z, s6 = .val (.int z)) : storeLocals #[a, b, c, d, e, f, s6] 6 (.int v) = some #[a, b, c, d, e, f, .val (.int v)] :=
  XS.store1 (o := s6) rfl (h.imp id fun ⟨z, q⟩ => ⟨_, q, rfl⟩) rfl
section
variable {i j : Nat}
theorem own_i (h : i < 2 ^ 31) : (Int32.ofNat i).toInt = i := Int32.toInt_ofNat_of_lt h
theorem own_lt (h : i < j) (hj : j < 2 ^ 31) : Int32.ofNat i < Int32.ofNat j := by
  rw [Int32.lt_iff_toInt_lt, own_i (by omega), own_i hj]; omega
theorem own_geY (hi : i < 2 ^ 31) (hj : j < 2 ^ 31) (h : if_icmp.holds .ge (Int32.ofNat i) (Int32.ofNat j) = true) : j ≤ i := by
  simp only [if_icmp.holds, decide_eq_true_eq, ge_iff_le, Int32.le_iff_toInt_le, own_i hi, own_i hj] at h; omega
theorem own_geN (hi : i < 2 ^ 31) (hj : j < 2 ^ 31) (h : if_icmp.holds .ge (Int32.ofNat i) (Int32.ofNat j) = false) : i < j := by
  simp only [if_icmp.holds, decide_eq_false_iff_not, ge_iff_le, Int32.le_iff_toInt_le, own_i hi, own_i hj] at h; omega
theorem own_ltY (hi : i < 2 ^ 31) (hj : j < 2 ^ 31) (h : if_icmp.holds .lt (Int32.ofNat i) (Int32.ofNat j) = true) : i < j := by
  simp only [if_icmp.holds, decide_eq_true_eq, Int32.lt_iff_toInt_lt, own_i hi, own_i hj] at h; omega
theorem own_neY (hi : i < 2 ^ 31) (hj : j < 2 ^ 31) (h : if_icmp.holds .ne (Int32.ofNat i) (Int32.ofNat j) = true) : ¬ i = j := fun e => by subst e; simp [if_icmp.holds] at h
theorem own_neN (hi : i < 2 ^ 31) (hj : j < 2 ^ 31) (h : if_icmp.holds .ne (Int32.ofNat i) (Int32.ofNat j) = false) : i = j := by
  have e : Int32.ofNat i = Int32.ofNat j := by simpa [if_icmp.holds] using h
  have := congrArg Int32.toInt e; rw [own_i hi, own_i hj] at this; omega
end
def own_s1 (c : Nat) (nums : List Nat) : Nat → List Nat
  | 0 => List.replicate c 0
  | i + 1 => (own_s1 c nums i).set (nums.getD i 0) ((own_s1 c nums i).getD (nums.getD i 0) 0 + 1)
def own_rs (c : Nat) (nums : List Nat) : Nat → List (List Nat)
  | 0 => (own_s1 c nums nums.length).map fun s => List.replicate s 0
  | i + 1 => (own_rs c nums i).set (nums.getD i 0) (((own_rs c nums i).getD (nums.getD i 0) []).set ((own_s1 c nums i).getD (nums.getD i 0) 0) i)
theorem own_rs0 {c : Nat} {nums : List Nat} : own_rs c nums 0 = (own_s1 c nums nums.length).map fun s => List.replicate s 0 := rfl
def own_good (c : Nat) (nums : List Nat) : Prop :=
  (∀ i, i < nums.length → nums.getD i 0 < c ∧ (own_s1 c nums i).length = c ∧ (own_rs c nums i).length = c ∧ (own_s1 c nums i).getD (nums.getD i 0) 0 < ((own_rs c nums i).getD (nums.getD i 0) []).length ∧ (own_s1 c nums i).getD (nums.getD i 0) 0 ≤ 5) ∧
    (own_s1 c nums nums.length).length = c ∧ (own_rs c nums nums.length).length = c ∧ (∀ x ∈ own_s1 c nums nums.length, x ≤ 5) ∧ ∀ n, n < c → ((own_rs c nums nums.length).getD n []).length ≤ 5
theorem own_sizes0 {nums : List Nat} (h : own_good 0 nums) : own_s1 0 nums nums.length = [] := List.length_eq_zero_iff.mp h.2.1
theorem own_l1 {l : List Nat} (h : l.length = 1) (hb : ∀ x ∈ l, x ≤ 5) : ∃ s0, s0 ≤ 5 ∧ l = [s0] := by
  match l, h with
  | [a], _ => exact ⟨a, hb a (by simp), rfl⟩
theorem own_l2 {l : List Nat} (h : l.length = 2) (hb : ∀ x ∈ l, x ≤ 5) : ∃ s0 s1, s0 ≤ 5 ∧ s1 ≤ 5 ∧ l = [s0, s1] := by
  match l, h with
  | [a, b], _ => exact ⟨a, b, hb a (by simp), hb b (by simp), rfl⟩
theorem own_l3 {l : List Nat} (h : l.length = 3) (hb : ∀ x ∈ l, x ≤ 5) : ∃ s0 s1 s2, s0 ≤ 5 ∧ s1 ≤ 5 ∧ s2 ≤ 5 ∧ l = [s0, s1, s2] := by
  match l, h with
  | [a, b, c], _ => exact ⟨a, b, c, hb a (by simp), hb b (by simp), hb c (by simp), rfl⟩
theorem own_l4 {l : List Nat} (h : l.length = 4) (hb : ∀ x ∈ l, x ≤ 5) : ∃ s0 s1 s2 s3, s0 ≤ 5 ∧ s1 ≤ 5 ∧ s2 ≤ 5 ∧ s3 ≤ 5 ∧ l = [s0, s1, s2, s3] := by
  match l, h with
  | [a, b, c, d], _ => exact ⟨a, b, c, d, hb a (by simp), hb b (by simp), hb c (by simp), hb d (by simp), rfl⟩
theorem own_sizes1 {nums : List Nat} (h : own_good 1 nums) : ∃ s0, s0 ≤ 5 ∧ own_s1 1 nums nums.length = [s0] := own_l1 h.2.1 h.2.2.2.1
theorem own_sizes2 {nums : List Nat} (h : own_good 2 nums) : ∃ s0 s1, s0 ≤ 5 ∧ s1 ≤ 5 ∧ own_s1 2 nums nums.length = [s0, s1] := own_l2 h.2.1 h.2.2.2.1
theorem own_sizes3 {nums : List Nat} (h : own_good 3 nums) : ∃ s0 s1 s2, s0 ≤ 5 ∧ s1 ≤ 5 ∧ s2 ≤ 5 ∧ own_s1 3 nums nums.length = [s0, s1, s2] := own_l3 h.2.1 h.2.2.2.1
theorem own_sizes4 {nums : List Nat} (h : own_good 4 nums) : ∃ s0 s1 s2 s3, s0 ≤ 5 ∧ s1 ≤ 5 ∧ s2 ≤ 5 ∧ s3 ≤ 5 ∧ own_s1 4 nums nums.length = [s0, s1, s2, s3] := own_l4 h.2.1 h.2.2.2.1
theorem own_rs_len {c : Nat} {nums : List Nat} (h : own_good c nums) : (own_rs c nums nums.length).length = c := h.2.2.1
theorem own_row5 {c : Nat} {nums : List Nat} (h : own_good c nums) : ∀ n, n < c → ((own_rs c nums nums.length).getD n []).length ≤ 5 := h.2.2.2.2
def own_five (num : List Nat) : Prop := num.length = 5 ∧ ∀ i, num.getD i 0 < 5
theorem own_five5 {a b c d e : Nat} (ha : a < 5) (hb : b < 5) (hc : c < 5) (hd : d < 5) (he : e < 5) : own_five [a, b, c, d, e] := ⟨rfl, fun i => by
  match i with
  | 0 => exact ha
  | 1 => exact hb
  | 2 => exact hc
  | 3 => exact hd
  | 4 => exact he
  | k + 5 => exact (by decide : 0 < 5)⟩
theorem own_five0 : own_five [0, 0, 0, 0, 0] := own_five5 (by decide) (by decide) (by decide) (by decide) (by decide)
def own_hit (num : List Nat) (len i n : Nat) : Nat := if i < len ∧ num.getD i 0 = n then 1 else 0
theorem own_hit0 {num : List Nat} {len i n : Nat} (h : len ≤ i) : own_hit num len i n = 0 := if_neg fun q => by omega
theorem own_hit1 {num : List Nat} {len i n : Nat} (h : ¬ num.getD i 0 = n) : own_hit num len i n = 0 := if_neg fun q => h q.2
theorem own_hit2 {num : List Nat} {len i n : Nat} (h : i < len) (e : num.getD i 0 = n) : own_hit num len i n = 1 := if_pos ⟨h, e⟩
def own_size (num : List Nat) (len n : Nat) : Nat := own_hit num len 0 n + own_hit num len 1 n + own_hit num len 2 n + own_hit num len 3 n + own_hit num len 4 n
def own_bef (num : List Nat) (i j : Nat) : Nat := if j < i ∧ num.getD j 0 = num.getD i 0 then 1 else 0
theorem own_bef0 {num : List Nat} {i j : Nat} (h : i ≤ j) : own_bef num i j = 0 := if_neg fun q => by omega
theorem own_bef1 {num : List Nat} {i j : Nat} (h : ¬ num.getD j 0 = num.getD i 0) : own_bef num i j = 0 := if_neg fun q => h q.2
theorem own_bef2 {num : List Nat} {i j : Nat} (h : j < i) (e : num.getD j 0 = num.getD i 0) : own_bef num i j = 1 := if_pos ⟨h, e⟩
def own_rank (num : List Nat) (i : Nat) : Nat := own_bef num i 0 + own_bef num i 1 + own_bef num i 2 + own_bef num i 3
/-- all lists of k numbers below c -/
def own_lists (c : Nat) : Nat → List (List Nat)
  | 0 => [[]]
  | k + 1 => (List.range c).flatMap fun a => (own_lists c k).map fun r => a :: r
theorem own_mem {c : Nat} : ∀ {k : Nat} {nums : List Nat}, nums.length = k → (∀ m ∈ nums, m < c) → nums ∈ own_lists c k
  | 0, [], _, _ => by simp [own_lists]
  | k + 1, a :: r, h, hm => by
    have h1 := own_mem (k := k) (nums := r) (by simpa using h) fun m q => hm m (List.mem_cons_of_mem _ q)
    have h2 := hm a (List.mem_cons_self ..)
    simp only [own_lists, List.mem_flatMap, List.mem_range, List.mem_map]
    exact ⟨a, h2, r, h1, rfl⟩
def own_chk1 (c : Nat) (nums : List Nat) (i : Nat) : Bool :=
  let n := nums.getD i 0
  let S := own_s1 c nums i
  let rs := own_rs c nums i
  Nat.blt n c && Nat.beq S.length c && Nat.beq rs.length c && Nat.blt (S.getD n 0) (rs.getD n []).length && Nat.ble (S.getD n 0) 5
def own_chk (c : Nat) (nums : List Nat) : Bool :=
  let len := nums.length
  let S := own_s1 c nums len
  let rs := own_rs c nums len
  (List.range len).all (fun i => own_chk1 c nums i) && Nat.beq S.length c && Nat.beq rs.length c && S.all (fun x => Nat.ble x 5) && (List.range c).all (fun n => Nat.ble (rs.getD n []).length 5 && Nat.beq (rs.getD n []).length (own_size nums len n)) &&
    (List.range len).all (fun i => Nat.blt (nums.getD i 0) c && Nat.blt (own_rank nums i) (rs.getD (nums.getD i 0) []).length && Nat.beq ((rs.getD (nums.getD i 0) []).getD (own_rank nums i) 0) i)
theorem own_all : ∀ c < 5, ∀ k < 6, ∀ nums ∈ own_lists c k, own_chk c nums = true := by decide +kernel
def own_F (c : Nat) (num : List Nat) (len : Nat) (nums : List Nat) : Prop :=
  own_good c nums ∧ (∀ n, n < 5 → n < c → ((own_rs c nums nums.length).getD n []).length = own_size num len n) ∧
    ∀ i, i < 5 → i < len → num.getD i 0 < c ∧ own_rank num i < ((own_rs c nums nums.length).getD (num.getD i 0) []).length ∧ ((own_rs c nums nums.length).getD (num.getD i 0) []).getD (own_rank num i) 0 = i
theorem own_take {num : List Nat} {len i : Nat} (h : i < len) : (num.take len).getD i 0 = num.getD i 0 := by
  simp only [List.getD_eq_getElem?_getD, List.getElem?_take_of_lt h]
theorem own_hit_take {num : List Nat} {len i n : Nat} : own_hit (num.take len) len i n = own_hit num len i n := by
  unfold own_hit
  by_cases h : i < len
  · rw [own_take h]
  · rw [if_neg fun q => h q.1, if_neg fun q => h q.1]
theorem own_bef_take {num : List Nat} {len i j : Nat} (hi : i < len) : own_bef (num.take len) i j = own_bef num i j := by
  unfold own_bef
  by_cases h : j < i
  · rw [own_take hi, own_take (by omega)]
  · rw [if_neg fun q => h q.1, if_neg fun q => h q.1]
theorem own_fact {c : Nat} {num : List Nat} {len : Nat} {nums : List Nat} (hc : c ≤ 4) (hl : len ≤ 5) (h1 : num.take len = nums) (h2 : nums.length = len) (hm : ∀ m ∈ nums, m < c) : own_F c num len nums := by
  have q := own_all c (by omega) len (by omega) nums (own_mem h2 hm)
  have es : ∀ n, own_size nums len n = own_size num len n := fun n => by subst h1; simp only [own_size, own_hit_take]
  have er : ∀ i, i < len → own_rank nums i = own_rank num i := fun i hi => by subst h1; simp only [own_rank, own_bef_take hi]
  have eg : ∀ i, i < len → nums.getD i 0 = num.getD i 0 := fun i hi => by subst h1; exact own_take hi
  simp only [own_chk, own_chk1, Bool.and_eq_true, List.all_eq_true, List.mem_range, Nat.blt_eq, Nat.beq_eq, Nat.ble_eq, h2] at q
  obtain ⟨⟨⟨⟨⟨a1, a2⟩, a3⟩, a4⟩, a5⟩, a6⟩ := q
  refine ⟨⟨fun i hi => ?_, by rw [h2]; exact a2, by rw [h2]; exact a3, by rw [h2]; exact a4, fun n hn => by rw [h2]; exact (a5 n hn).1⟩, fun n _ hn => ?_, fun i _ hi => ?_⟩
  · rw [h2] at hi
    obtain ⟨⟨⟨⟨b1, b2⟩, b3⟩, b4⟩, b5⟩ := a1 i hi
    exact ⟨b1, b2, b3, b4, b5⟩
  · rw [h2, (a5 n hn).2, es]
  · obtain ⟨⟨b1, b2⟩, b3⟩ := a6 i hi
    rw [eg i hi] at b1 b2 b3
    rw [er i hi] at b2 b3
    rw [h2]
    exact ⟨b1, b2, b3⟩
theorem own_fact_good {c : Nat} {num : List Nat} {len : Nat} {nums : List Nat} (h : own_F c num len nums) : own_good c nums := h.1
theorem own_G {c : Nat} {num : List Nat} {len : Nat} {nums : List Nat} (h : own_F c num len nums) : ∀ n, n < 5 → n < c → ((own_rs c nums nums.length).getD n []).length = own_size num len n := h.2.1
theorem own_I {c : Nat} {num : List Nat} {len : Nat} {nums : List Nat} (h : own_F c num len nums) : ∀ i, i < 5 → i < len → num.getD i 0 < c ∧ own_rank num i < ((own_rs c nums nums.length).getD (num.getD i 0) []).length ∧ ((own_rs c nums nums.length).getD (num.getD i 0) []).getD (own_rank num i) 0 = i := h.2.2
theorem own_mask (m : Nat) (hm : m < 2 ^ 31) (x y : Int32) (hy : y = Int32.ofNat m) : ∃ n : Nat, n ≤ m ∧ x &&& y = Int32.ofNat n := by
  have e1 : y.toInt = m := by rw [hy]; exact own_i hm
  have h := (c_andS x y).2.2 (by rw [e1]; omega)
  have h2 : (x &&& y).toBitVec.toNat ≤ m := by
    show (x.toBitVec &&& y.toBitVec).toNat ≤ m
    rw [BitVec.toNat_and, hy]
    refine Nat.le_trans Nat.and_le_right ?_
    show (BitVec.ofNat 32 m).toNat ≤ m
    rw [BitVec.toNat_ofNat]; exact Nat.mod_le _ _
  have h3 : (x &&& y).toInt = ((x &&& y).toBitVec.toNat : Int) := by
    show (x &&& y).toBitVec.toInt = _
    rw [BitVec.toInt_eq_toNat_cond]; split <;> omega
  refine ⟨(x &&& y).toBitVec.toNat, h2, ?_⟩
  apply Int32.toInt_inj.mp
  rw [own_i (by omega)]; omega
theorem own_rem {n d : Nat} (hn : n < 2 ^ 31) (hd : d < 2 ^ 31) : Int32.ofNat n % Int32.ofNat d = Int32.ofNat (n % d) := by
  apply Int32.toInt_inj.mp
  have h1 := own_i hn
  have h2 := own_i hd
  have q := (c_irem (Int32.ofNat n) (Int32.ofNat d) d h2).1 (by rw [h1]; omega)
  have le : n % d ≤ n := Nat.mod_le _ _
  rw [q, h1, own_i (by omega)]; rfl
theorem own_count (p : Int32) : ∃ c : Nat, c ≤ 4 ∧ (XT.ushr p (3 : Int32) &&& (7 : Int32)) % (5 : Int32) = Int32.ofNat c := by
  obtain ⟨n, h, e⟩ := own_mask 7 (by decide) (XT.ushr p 3) 7 rfl
  refine ⟨n % 5, by omega, ?_⟩
  rw [e]; exact own_rem (d := 5) (by omega) (by decide)
theorem own_length (p : Int32) : ∃ c : Nat, c ≤ 5 ∧ (p &&& (7 : Int32)) % (6 : Int32) = Int32.ofNat c := by
  obtain ⟨n, h, e⟩ := own_mask 7 (by decide) p 7 rfl
  refine ⟨n % 6, by omega, ?_⟩
  rw [e]; exact own_rem (d := 6) (by omega) (by decide)
theorem own_mod (p : Int32) {c : Nat} (h1 : 0 < c) (hc : c ≤ 4) : ∃ m : Nat, m < c ∧ (p &&& (2147483647 : Int32)) % Int32.ofNat c = Int32.ofNat m := by
  obtain ⟨n, h, e⟩ := own_mask 2147483647 (by decide) p 2147483647 rfl
  refine ⟨n % c, Nat.mod_lt _ h1, ?_⟩
  rw [e]; exact own_rem (by omega) (by omega)
theorem own_nz {c : Nat} (h1 : 0 < c) (hc : c ≤ 4) : Int32.ofNat c ≠ 0 := fun e => by
  have q := congrArg Int32.toInt e; rw [own_i (by omega)] at q
  have e0 : (0 : Int32).toInt = 0 := rfl
  omega
theorem own_ne0 {c : Nat} (h1 : 0 < c) (hc : c ≤ 4) : ifCond.holds .ne (Int32.ofNat c) = true := by simp [ifCond.holds, own_nz h1 hc]
theorem own_nle0 {c : Nat} (h1 : 0 < c) (hc : c ≤ 4) : ifCond.holds .le (Int32.ofNat c) = false := by
  have := own_i (i := c) (by omega)
  simp only [ifCond.holds, decide_eq_false_iff_not, Int32.le_iff_toInt_le, this]; show ¬ (c : Int) ≤ 0; omega

theorem d1_0 : decode prog_95_method_11_code 0 = .ok (.iload_n 1, 1) := by decide +kernel
theorem d1_1 : decode prog_95_method_11_code 1 = .ok (.newarray .int, 2) := by decide +kernel
theorem d1_3 : decode prog_95_method_11_code 3 = .ok (.astore_n 2, 1) := by decide +kernel
theorem d1_4 : decode prog_95_method_11_code 4 = .ok (.aload_n 0, 1) := by decide +kernel
theorem d1_5 : decode prog_95_method_11_code 5 = .ok (.astore_n 3, 1) := by decide +kernel
theorem d1_6 : decode prog_95_method_11_code 6 = .ok (.aload_n 3, 1) := by decide +kernel
theorem d1_7 : decode prog_95_method_11_code 7 = .ok (.arraylength, 1) := by decide +kernel
theorem d1_8 : decode prog_95_method_11_code 8 = .ok (.istore 4, 2) := by decide +kernel
theorem d1_10 : decode prog_95_method_11_code 10 = .ok (.iconst 0, 1) := by decide +kernel
theorem d1_11 : decode prog_95_method_11_code 11 = .ok (.istore 5, 2) := by decide +kernel
theorem d1_13 : decode prog_95_method_11_code 13 = .ok (.iload 5, 2) := by decide +kernel
theorem d1_15 : decode prog_95_method_11_code 15 = .ok (.iload 4, 2) := by decide +kernel
theorem d1_17 : decode prog_95_method_11_code 17 = .ok (.if_icmp .ge 23, 3) := by decide +kernel
theorem d1_20 : decode prog_95_method_11_code 20 = .ok (.aload_n 3, 1) := by decide +kernel
theorem d1_21 : decode prog_95_method_11_code 21 = .ok (.iload 5, 2) := by decide +kernel
theorem d1_23 : decode prog_95_method_11_code 23 = .ok (.iaload, 1) := by decide +kernel
theorem d1_24 : decode prog_95_method_11_code 24 = .ok (.istore 6, 2) := by decide +kernel
theorem d1_26 : decode prog_95_method_11_code 26 = .ok (.aload_n 2, 1) := by decide +kernel
theorem d1_27 : decode prog_95_method_11_code 27 = .ok (.iload 6, 2) := by decide +kernel
theorem d1_29 : decode prog_95_method_11_code 29 = .ok (.dup2, 1) := by decide +kernel
theorem d1_30 : decode prog_95_method_11_code 30 = .ok (.iaload, 1) := by decide +kernel
theorem d1_31 : decode prog_95_method_11_code 31 = .ok (.iconst 1, 1) := by decide +kernel
theorem d1_32 : decode prog_95_method_11_code 32 = .ok (.iadd, 1) := by decide +kernel
theorem d1_33 : decode prog_95_method_11_code 33 = .ok (.iastore, 1) := by decide +kernel
theorem d1_34 : decode prog_95_method_11_code 34 = .ok (.iinc 5 1, 3) := by decide +kernel
theorem d1_37 : decode prog_95_method_11_code 37 = .ok (.goto (-24), 3) := by decide +kernel
theorem d1_40 : decode prog_95_method_11_code 40 = .ok (.iload_n 1, 1) := by decide +kernel
theorem d1_41 : decode prog_95_method_11_code 41 = .ok (.anewarray 85, 3) := by decide +kernel
theorem d1_44 : decode prog_95_method_11_code 44 = .ok (.astore_n 3, 1) := by decide +kernel
theorem d1_45 : decode prog_95_method_11_code 45 = .ok (.iconst 0, 1) := by decide +kernel
theorem d1_46 : decode prog_95_method_11_code 46 = .ok (.istore 4, 2) := by decide +kernel
theorem d1_48 : decode prog_95_method_11_code 48 = .ok (.iload 4, 2) := by decide +kernel
theorem d1_50 : decode prog_95_method_11_code 50 = .ok (.iload_n 1, 1) := by decide +kernel
theorem d1_51 : decode prog_95_method_11_code 51 = .ok (.if_icmp .ge 24, 3) := by decide +kernel
theorem d1_54 : decode prog_95_method_11_code 54 = .ok (.aload_n 3, 1) := by decide +kernel
theorem d1_55 : decode prog_95_method_11_code 55 = .ok (.iload 4, 2) := by decide +kernel
theorem d1_57 : decode prog_95_method_11_code 57 = .ok (.aload_n 2, 1) := by decide +kernel
theorem d1_58 : decode prog_95_method_11_code 58 = .ok (.iload 4, 2) := by decide +kernel
theorem d1_60 : decode prog_95_method_11_code 60 = .ok (.iaload, 1) := by decide +kernel
theorem d1_61 : decode prog_95_method_11_code 61 = .ok (.newarray .int, 2) := by decide +kernel
theorem d1_63 : decode prog_95_method_11_code 63 = .ok (.aastore, 1) := by decide +kernel
theorem d1_64 : decode prog_95_method_11_code 64 = .ok (.aload_n 2, 1) := by decide +kernel
theorem d1_65 : decode prog_95_method_11_code 65 = .ok (.iload 4, 2) := by decide +kernel
theorem d1_67 : decode prog_95_method_11_code 67 = .ok (.iconst 0, 1) := by decide +kernel
theorem d1_68 : decode prog_95_method_11_code 68 = .ok (.iastore, 1) := by decide +kernel
theorem d1_69 : decode prog_95_method_11_code 69 = .ok (.iinc 4 1, 3) := by decide +kernel
theorem d1_72 : decode prog_95_method_11_code 72 = .ok (.goto (-24), 3) := by decide +kernel
theorem d1_75 : decode prog_95_method_11_code 75 = .ok (.iconst 0, 1) := by decide +kernel
theorem d1_76 : decode prog_95_method_11_code 76 = .ok (.istore 4, 2) := by decide +kernel
theorem d1_78 : decode prog_95_method_11_code 78 = .ok (.iload 4, 2) := by decide +kernel
theorem d1_80 : decode prog_95_method_11_code 80 = .ok (.aload_n 0, 1) := by decide +kernel
theorem d1_81 : decode prog_95_method_11_code 81 = .ok (.arraylength, 1) := by decide +kernel
theorem d1_82 : decode prog_95_method_11_code 82 = .ok (.if_icmp .ge 31, 3) := by decide +kernel
theorem d1_85 : decode prog_95_method_11_code 85 = .ok (.aload_n 0, 1) := by decide +kernel
theorem d1_86 : decode prog_95_method_11_code 86 = .ok (.iload 4, 2) := by decide +kernel
theorem d1_88 : decode prog_95_method_11_code 88 = .ok (.iaload, 1) := by decide +kernel
theorem d1_89 : decode prog_95_method_11_code 89 = .ok (.istore 5, 2) := by decide +kernel
theorem d1_91 : decode prog_95_method_11_code 91 = .ok (.aload_n 3, 1) := by decide +kernel
theorem d1_92 : decode prog_95_method_11_code 92 = .ok (.iload 5, 2) := by decide +kernel
theorem d1_94 : decode prog_95_method_11_code 94 = .ok (.aaload, 1) := by decide +kernel
theorem d1_95 : decode prog_95_method_11_code 95 = .ok (.aload_n 2, 1) := by decide +kernel
theorem d1_96 : decode prog_95_method_11_code 96 = .ok (.iload 5, 2) := by decide +kernel
theorem d1_98 : decode prog_95_method_11_code 98 = .ok (.dup2, 1) := by decide +kernel
theorem d1_99 : decode prog_95_method_11_code 99 = .ok (.iaload, 1) := by decide +kernel
theorem d1_100 : decode prog_95_method_11_code 100 = .ok (.dup_x2, 1) := by decide +kernel
theorem d1_101 : decode prog_95_method_11_code 101 = .ok (.iconst 1, 1) := by decide +kernel
theorem d1_102 : decode prog_95_method_11_code 102 = .ok (.iadd, 1) := by decide +kernel
theorem d1_103 : decode prog_95_method_11_code 103 = .ok (.iastore, 1) := by decide +kernel
theorem d1_104 : decode prog_95_method_11_code 104 = .ok (.iload 4, 2) := by decide +kernel
theorem d1_106 : decode prog_95_method_11_code 106 = .ok (.iastore, 1) := by decide +kernel
theorem d1_107 : decode prog_95_method_11_code 107 = .ok (.iinc 4 1, 3) := by decide +kernel
theorem d1_110 : decode prog_95_method_11_code 110 = .ok (.goto (-32), 3) := by decide +kernel
theorem d1_113 : decode prog_95_method_11_code 113 = .ok (.aload_n 3, 1) := by decide +kernel
theorem d1_114 : decode prog_95_method_11_code 114 = .ok (.areturn, 1) := by decide +kernel
theorem d2_0 : decode method_5_code 0 = .ok (.iload 4, 2) := by decide +kernel
theorem d2_2 : decode method_5_code 2 = .ok (.iload_n 3, 1) := by decide +kernel
theorem d2_3 : decode method_5_code 3 = .ok (.if_icmp .lt 5, 3) := by decide +kernel
theorem d2_6 : decode method_5_code 6 = .ok (.iconst 1, 1) := by decide +kernel
theorem d2_7 : decode method_5_code 7 = .ok (.ireturn, 1) := by decide +kernel
theorem d2_8 : decode method_5_code 8 = .ok (.aload_n 0, 1) := by decide +kernel
theorem d2_9 : decode method_5_code 9 = .ok (.iload 4, 2) := by decide +kernel
theorem d2_11 : decode method_5_code 11 = .ok (.aaload, 1) := by decide +kernel
theorem d2_12 : decode method_5_code 12 = .ok (.ifnull 22, 3) := by decide +kernel
theorem d2_15 : decode method_5_code 15 = .ok (.aload_n 0, 1) := by decide +kernel
theorem d2_16 : decode method_5_code 16 = .ok (.iload 4, 2) := by decide +kernel
theorem d2_18 : decode method_5_code 18 = .ok (.aaload, 1) := by decide +kernel
theorem d2_19 : decode method_5_code 19 = .ok (.arraylength, 1) := by decide +kernel
theorem d2_20 : decode method_5_code 20 = .ok (.aload_n 1, 1) := by decide +kernel
theorem d2_21 : decode method_5_code 21 = .ok (.iload_n 2, 1) := by decide +kernel
theorem d2_22 : decode method_5_code 22 = .ok (.iload 4, 2) := by decide +kernel
theorem d2_24 : decode method_5_code 24 = .ok (.invokestatic 28, 3) := by decide +kernel
theorem d2_27 : decode method_5_code 27 = .ok (.if_icmp .ne 7, 3) := by decide +kernel
theorem d2_30 : decode method_5_code 30 = .ok (.iconst 1, 1) := by decide +kernel
theorem d2_31 : decode method_5_code 31 = .ok (.goto 4, 3) := by decide +kernel
theorem d2_34 : decode method_5_code 34 = .ok (.iconst 0, 1) := by decide +kernel
theorem d2_35 : decode method_5_code 35 = .ok (.ireturn, 1) := by decide +kernel
theorem d3_0 : decode method_8_code 0 = .ok (.iload_n 3, 1) := by decide +kernel
theorem d3_1 : decode method_8_code 1 = .ok (.iload_n 2, 1) := by decide +kernel
theorem d3_2 : decode method_8_code 2 = .ok (.if_icmp .lt 5, 3) := by decide +kernel
theorem d3_5 : decode method_8_code 5 = .ok (.iconst 1, 1) := by decide +kernel
theorem d3_6 : decode method_8_code 6 = .ok (.ireturn, 1) := by decide +kernel
theorem d3_7 : decode method_8_code 7 = .ok (.aload_n 0, 1) := by decide +kernel
theorem d3_8 : decode method_8_code 8 = .ok (.aload_n 1, 1) := by decide +kernel
theorem d3_9 : decode method_8_code 9 = .ok (.iload_n 3, 1) := by decide +kernel
theorem d3_10 : decode method_8_code 10 = .ok (.iaload, 1) := by decide +kernel
theorem d3_11 : decode method_8_code 11 = .ok (.aaload, 1) := by decide +kernel
theorem d3_12 : decode method_8_code 12 = .ok (.astore 4, 2) := by decide +kernel
theorem d3_14 : decode method_8_code 14 = .ok (.aload_n 1, 1) := by decide +kernel
theorem d3_15 : decode method_8_code 15 = .ok (.iload_n 3, 1) := by decide +kernel
theorem d3_16 : decode method_8_code 16 = .ok (.invokestatic 35, 3) := by decide +kernel
theorem d3_19 : decode method_8_code 19 = .ok (.istore 5, 2) := by decide +kernel
theorem d3_21 : decode method_8_code 21 = .ok (.aload 4, 2) := by decide +kernel
theorem d3_23 : decode method_8_code 23 = .ok (.ifnull 24, 3) := by decide +kernel
theorem d3_26 : decode method_8_code 26 = .ok (.iload 5, 2) := by decide +kernel
theorem d3_28 : decode method_8_code 28 = .ok (.aload 4, 2) := by decide +kernel
theorem d3_30 : decode method_8_code 30 = .ok (.arraylength, 1) := by decide +kernel
theorem d3_31 : decode method_8_code 31 = .ok (.if_icmp .ge 16, 3) := by decide +kernel
theorem d3_34 : decode method_8_code 34 = .ok (.aload 4, 2) := by decide +kernel
theorem d3_36 : decode method_8_code 36 = .ok (.iload 5, 2) := by decide +kernel
theorem d3_38 : decode method_8_code 38 = .ok (.iaload, 1) := by decide +kernel
theorem d3_39 : decode method_8_code 39 = .ok (.iload_n 3, 1) := by decide +kernel
theorem d3_40 : decode method_8_code 40 = .ok (.if_icmp .ne 7, 3) := by decide +kernel
theorem d3_43 : decode method_8_code 43 = .ok (.iconst 1, 1) := by decide +kernel
theorem d3_44 : decode method_8_code 44 = .ok (.goto 4, 3) := by decide +kernel
theorem d3_47 : decode method_8_code 47 = .ok (.iconst 0, 1) := by decide +kernel
theorem d3_48 : decode method_8_code 48 = .ok (.ireturn, 1) := by decide +kernel
theorem d4_0 : decode method_4_code 0 = .ok (.aload_n 0, 1) := by decide +kernel
theorem d4_1 : decode method_4_code 1 = .ok (.iload_n 1, 1) := by decide +kernel
theorem d4_2 : decode method_4_code 2 = .ok (.iconst 0, 1) := by decide +kernel
theorem d4_3 : decode method_4_code 3 = .ok (.iload_n 2, 1) := by decide +kernel
theorem d4_4 : decode method_4_code 4 = .ok (.invokestatic 24, 3) := by decide +kernel
theorem d4_7 : decode method_4_code 7 = .ok (.aload_n 0, 1) := by decide +kernel
theorem d4_8 : decode method_4_code 8 = .ok (.iload_n 1, 1) := by decide +kernel
theorem d4_9 : decode method_4_code 9 = .ok (.iconst 1, 1) := by decide +kernel
theorem d4_10 : decode method_4_code 10 = .ok (.iload_n 2, 1) := by decide +kernel
theorem d4_11 : decode method_4_code 11 = .ok (.invokestatic 24, 3) := by decide +kernel
theorem d4_14 : decode method_4_code 14 = .ok (.iadd, 1) := by decide +kernel
theorem d4_15 : decode method_4_code 15 = .ok (.aload_n 0, 1) := by decide +kernel
theorem d4_16 : decode method_4_code 16 = .ok (.iload_n 1, 1) := by decide +kernel
theorem d4_17 : decode method_4_code 17 = .ok (.iconst 2, 1) := by decide +kernel
theorem d4_18 : decode method_4_code 18 = .ok (.iload_n 2, 1) := by decide +kernel
theorem d4_19 : decode method_4_code 19 = .ok (.invokestatic 24, 3) := by decide +kernel
theorem d4_22 : decode method_4_code 22 = .ok (.iadd, 1) := by decide +kernel
theorem d4_23 : decode method_4_code 23 = .ok (.aload_n 0, 1) := by decide +kernel
theorem d4_24 : decode method_4_code 24 = .ok (.iload_n 1, 1) := by decide +kernel
theorem d4_25 : decode method_4_code 25 = .ok (.iconst 3, 1) := by decide +kernel
theorem d4_26 : decode method_4_code 26 = .ok (.iload_n 2, 1) := by decide +kernel
theorem d4_27 : decode method_4_code 27 = .ok (.invokestatic 24, 3) := by decide +kernel
theorem d4_30 : decode method_4_code 30 = .ok (.iadd, 1) := by decide +kernel
theorem d4_31 : decode method_4_code 31 = .ok (.aload_n 0, 1) := by decide +kernel
theorem d4_32 : decode method_4_code 32 = .ok (.iload_n 1, 1) := by decide +kernel
theorem d4_33 : decode method_4_code 33 = .ok (.iconst 4, 1) := by decide +kernel
theorem d4_34 : decode method_4_code 34 = .ok (.iload_n 2, 1) := by decide +kernel
theorem d4_35 : decode method_4_code 35 = .ok (.invokestatic 24, 3) := by decide +kernel
theorem d4_38 : decode method_4_code 38 = .ok (.iadd, 1) := by decide +kernel
theorem d4_39 : decode method_4_code 39 = .ok (.ireturn, 1) := by decide +kernel
theorem d5_0 : decode method_3_code 0 = .ok (.iload_n 2, 1) := by decide +kernel
theorem d5_1 : decode method_3_code 1 = .ok (.iload_n 1, 1) := by decide +kernel
theorem d5_2 : decode method_3_code 2 = .ok (.if_icmp .ge 14, 3) := by decide +kernel
theorem d5_5 : decode method_3_code 5 = .ok (.aload_n 0, 1) := by decide +kernel
theorem d5_6 : decode method_3_code 6 = .ok (.iload_n 2, 1) := by decide +kernel
theorem d5_7 : decode method_3_code 7 = .ok (.iaload, 1) := by decide +kernel
theorem d5_8 : decode method_3_code 8 = .ok (.iload_n 3, 1) := by decide +kernel
theorem d5_9 : decode method_3_code 9 = .ok (.if_icmp .ne 7, 3) := by decide +kernel
theorem d5_12 : decode method_3_code 12 = .ok (.iconst 1, 1) := by decide +kernel
theorem d5_13 : decode method_3_code 13 = .ok (.goto 4, 3) := by decide +kernel
theorem d5_16 : decode method_3_code 16 = .ok (.iconst 0, 1) := by decide +kernel
theorem d5_17 : decode method_3_code 17 = .ok (.ireturn, 1) := by decide +kernel
theorem d6_0 : decode method_7_code 0 = .ok (.aload_n 0, 1) := by decide +kernel
theorem d6_1 : decode method_7_code 1 = .ok (.iload_n 1, 1) := by decide +kernel
theorem d6_2 : decode method_7_code 2 = .ok (.iconst 0, 1) := by decide +kernel
theorem d6_3 : decode method_7_code 3 = .ok (.invokestatic 32, 3) := by decide +kernel
theorem d6_6 : decode method_7_code 6 = .ok (.aload_n 0, 1) := by decide +kernel
theorem d6_7 : decode method_7_code 7 = .ok (.iload_n 1, 1) := by decide +kernel
theorem d6_8 : decode method_7_code 8 = .ok (.iconst 1, 1) := by decide +kernel
theorem d6_9 : decode method_7_code 9 = .ok (.invokestatic 32, 3) := by decide +kernel
theorem d6_12 : decode method_7_code 12 = .ok (.iadd, 1) := by decide +kernel
theorem d6_13 : decode method_7_code 13 = .ok (.aload_n 0, 1) := by decide +kernel
theorem d6_14 : decode method_7_code 14 = .ok (.iload_n 1, 1) := by decide +kernel
theorem d6_15 : decode method_7_code 15 = .ok (.iconst 2, 1) := by decide +kernel
theorem d6_16 : decode method_7_code 16 = .ok (.invokestatic 32, 3) := by decide +kernel
theorem d6_19 : decode method_7_code 19 = .ok (.iadd, 1) := by decide +kernel
theorem d6_20 : decode method_7_code 20 = .ok (.aload_n 0, 1) := by decide +kernel
theorem d6_21 : decode method_7_code 21 = .ok (.iload_n 1, 1) := by decide +kernel
theorem d6_22 : decode method_7_code 22 = .ok (.iconst 3, 1) := by decide +kernel
theorem d6_23 : decode method_7_code 23 = .ok (.invokestatic 32, 3) := by decide +kernel
theorem d6_26 : decode method_7_code 26 = .ok (.iadd, 1) := by decide +kernel
theorem d6_27 : decode method_7_code 27 = .ok (.ireturn, 1) := by decide +kernel
theorem d7_0 : decode method_6_code 0 = .ok (.iload_n 2, 1) := by decide +kernel
theorem d7_1 : decode method_6_code 1 = .ok (.iload_n 1, 1) := by decide +kernel
theorem d7_2 : decode method_6_code 2 = .ok (.if_icmp .ge 16, 3) := by decide +kernel
theorem d7_5 : decode method_6_code 5 = .ok (.aload_n 0, 1) := by decide +kernel
theorem d7_6 : decode method_6_code 6 = .ok (.iload_n 2, 1) := by decide +kernel
theorem d7_7 : decode method_6_code 7 = .ok (.iaload, 1) := by decide +kernel
theorem d7_8 : decode method_6_code 8 = .ok (.aload_n 0, 1) := by decide +kernel
theorem d7_9 : decode method_6_code 9 = .ok (.iload_n 1, 1) := by decide +kernel
theorem d7_10 : decode method_6_code 10 = .ok (.iaload, 1) := by decide +kernel
theorem d7_11 : decode method_6_code 11 = .ok (.if_icmp .ne 7, 3) := by decide +kernel
theorem d7_14 : decode method_6_code 14 = .ok (.iconst 1, 1) := by decide +kernel
theorem d7_15 : decode method_6_code 15 = .ok (.goto 4, 3) := by decide +kernel
theorem d7_18 : decode method_6_code 18 = .ok (.iconst 0, 1) := by decide +kernel
theorem d7_19 : decode method_6_code 19 = .ok (.ireturn, 1) := by decide +kernel
abbrev HW (Z : State) (a0 : Array Value) : Prop := ∀ d ∈ tables_1, d.before a0 Z = true
section Words
variable {Z : State} {a0 : Array Value}
theorem w0 (hw : HW Z a0) : (Jvm.Cond.arrayClass Jvm.ClassFile.FieldType.int).before a0 Z = true := hw _ (List.mem_of_getElem? (i := 0) rfl)
theorem w1 (hw : HW Z a0) : (Jvm.Cond.methodLink "com/example/evenkeel/evenkeel/RunTableItemsByNumberPinLaw" (8 : Nat) ({ cls := "com/example/evenkeel/evenkeel/RunTable", name := "itemsByNumber", desc := "([II)[[I" } : Jvm.MethodName)).before a0 Z = true := hw _ (List.mem_of_getElem? (i := 1) rfl)
theorem w2 (hw : HW Z a0) : (Jvm.Cond.static ({ cls := "com/example/evenkeel/evenkeel/RunTable", name := "itemsByNumber", desc := "([II)[[I" } : Jvm.MethodName)).before a0 Z = true := hw _ (List.mem_of_getElem? (i := 2) rfl)
theorem w3 (hw : HW Z a0) : (Jvm.Cond.initialized "com/example/evenkeel/evenkeel/RunTable").before a0 Z = true := hw _ (List.mem_of_getElem? (i := 3) rfl)
theorem w4 (hw : HW Z a0) : (Jvm.Cond.code ({ cls := "com/example/evenkeel/evenkeel/RunTable", name := "itemsByNumber", desc := "([II)[[I" } : Jvm.MethodName) prog_95_method_11_code (7 : Nat) (Option.some (Jvm.ClassFile.FieldType.array (Jvm.ClassFile.FieldType.array Jvm.ClassFile.FieldType.int)))).before a0 Z = true := hw _ (List.mem_of_getElem? (i := 4) rfl)
theorem w5 (hw : HW Z a0) : (Jvm.Cond.classLink "com/example/evenkeel/evenkeel/RunTable" (85 : Nat) "[I").before a0 Z = true := hw _ (List.mem_of_getElem? (i := 5) rfl)
theorem w6 (hw : HW Z a0) : (Jvm.Cond.arrayOver (Jvm.ClassFile.FieldType.array Jvm.ClassFile.FieldType.int)).before a0 Z = true := hw _ (List.mem_of_getElem? (i := 6) rfl)
theorem w7 (hw : HW Z a0) : (Jvm.Cond.methodLink "com/example/evenkeel/evenkeel/RunTableItemsByNumberPinLaw" (14 : Nat) ({ cls := "com/example/evenkeel/evenkeel/RunTableItemsByNumberPinLaw", name := "group", desc := "([[I[IIII)Z" } : Jvm.MethodName)).before a0 Z = true := hw _ (List.mem_of_getElem? (i := 7) rfl)
theorem w8 (hw : HW Z a0) : (Jvm.Cond.static ({ cls := "com/example/evenkeel/evenkeel/RunTableItemsByNumberPinLaw", name := "group", desc := "([[I[IIII)Z" } : Jvm.MethodName)).before a0 Z = true := hw _ (List.mem_of_getElem? (i := 8) rfl)
theorem w9 (hw : HW Z a0) : (Jvm.Cond.initialized "com/example/evenkeel/evenkeel/RunTableItemsByNumberPinLaw").before a0 Z = true := hw _ (List.mem_of_getElem? (i := 9) rfl)
theorem w10 (hw : HW Z a0) : (Jvm.Cond.code ({ cls := "com/example/evenkeel/evenkeel/RunTableItemsByNumberPinLaw", name := "group", desc := "([[I[IIII)Z" } : Jvm.MethodName) method_5_code (5 : Nat) (Option.some Jvm.ClassFile.FieldType.boolean)).before a0 Z = true := hw _ (List.mem_of_getElem? (i := 10) rfl)
theorem w11 (hw : HW Z a0) : (Jvm.Cond.methodLink "com/example/evenkeel/evenkeel/RunTableItemsByNumberPinLaw" (20 : Nat) ({ cls := "com/example/evenkeel/evenkeel/RunTableItemsByNumberPinLaw", name := "item", desc := "([[I[III)Z" } : Jvm.MethodName)).before a0 Z = true := hw _ (List.mem_of_getElem? (i := 11) rfl)
theorem w12 (hw : HW Z a0) : (Jvm.Cond.static ({ cls := "com/example/evenkeel/evenkeel/RunTableItemsByNumberPinLaw", name := "item", desc := "([[I[III)Z" } : Jvm.MethodName)).before a0 Z = true := hw _ (List.mem_of_getElem? (i := 12) rfl)
theorem w13 (hw : HW Z a0) : (Jvm.Cond.code ({ cls := "com/example/evenkeel/evenkeel/RunTableItemsByNumberPinLaw", name := "item", desc := "([[I[III)Z" } : Jvm.MethodName) method_8_code (6 : Nat) (Option.some Jvm.ClassFile.FieldType.boolean)).before a0 Z = true := hw _ (List.mem_of_getElem? (i := 13) rfl)
theorem w14 (hw : HW Z a0) : (Jvm.Cond.constant "com/example/evenkeel/evenkeel/RunTableItemsByNumberPinLaw" (7 : Nat) (2147483647 : Int32)).before a0 Z = true := hw _ (List.mem_of_getElem? (i := 14) rfl)
theorem w15 (hw : HW Z a0) : (Jvm.Cond.castable "[I" "[I").before a0 Z = true := hw _ (List.mem_of_getElem? (i := 15) rfl)
theorem w16 (hw : HW Z a0) : (Jvm.Cond.methodLink "com/example/evenkeel/evenkeel/RunTableItemsByNumberPinLaw" (28 : Nat) ({ cls := "com/example/evenkeel/evenkeel/RunTableItemsByNumberPinLaw", name := "size", desc := "([III)I" } : Jvm.MethodName)).before a0 Z = true := hw _ (List.mem_of_getElem? (i := 16) rfl)
theorem w17 (hw : HW Z a0) : (Jvm.Cond.static ({ cls := "com/example/evenkeel/evenkeel/RunTableItemsByNumberPinLaw", name := "size", desc := "([III)I" } : Jvm.MethodName)).before a0 Z = true := hw _ (List.mem_of_getElem? (i := 17) rfl)
theorem w18 (hw : HW Z a0) : (Jvm.Cond.code ({ cls := "com/example/evenkeel/evenkeel/RunTableItemsByNumberPinLaw", name := "size", desc := "([III)I" } : Jvm.MethodName) method_4_code (3 : Nat) (Option.some Jvm.ClassFile.FieldType.int)).before a0 Z = true := hw _ (List.mem_of_getElem? (i := 18) rfl)
theorem w19 (hw : HW Z a0) : (Jvm.Cond.methodLink "com/example/evenkeel/evenkeel/RunTableItemsByNumberPinLaw" (24 : Nat) ({ cls := "com/example/evenkeel/evenkeel/RunTableItemsByNumberPinLaw", name := "hit", desc := "([IIII)I" } : Jvm.MethodName)).before a0 Z = true := hw _ (List.mem_of_getElem? (i := 19) rfl)
theorem w20 (hw : HW Z a0) : (Jvm.Cond.static ({ cls := "com/example/evenkeel/evenkeel/RunTableItemsByNumberPinLaw", name := "hit", desc := "([IIII)I" } : Jvm.MethodName)).before a0 Z = true := hw _ (List.mem_of_getElem? (i := 20) rfl)
theorem w21 (hw : HW Z a0) : (Jvm.Cond.code ({ cls := "com/example/evenkeel/evenkeel/RunTableItemsByNumberPinLaw", name := "hit", desc := "([IIII)I" } : Jvm.MethodName) method_3_code (4 : Nat) (Option.some Jvm.ClassFile.FieldType.int)).before a0 Z = true := hw _ (List.mem_of_getElem? (i := 21) rfl)
theorem w22 (hw : HW Z a0) : (Jvm.Cond.methodLink "com/example/evenkeel/evenkeel/RunTableItemsByNumberPinLaw" (35 : Nat) ({ cls := "com/example/evenkeel/evenkeel/RunTableItemsByNumberPinLaw", name := "rank", desc := "([II)I" } : Jvm.MethodName)).before a0 Z = true := hw _ (List.mem_of_getElem? (i := 22) rfl)
theorem w23 (hw : HW Z a0) : (Jvm.Cond.static ({ cls := "com/example/evenkeel/evenkeel/RunTableItemsByNumberPinLaw", name := "rank", desc := "([II)I" } : Jvm.MethodName)).before a0 Z = true := hw _ (List.mem_of_getElem? (i := 23) rfl)
theorem w24 (hw : HW Z a0) : (Jvm.Cond.code ({ cls := "com/example/evenkeel/evenkeel/RunTableItemsByNumberPinLaw", name := "rank", desc := "([II)I" } : Jvm.MethodName) method_7_code (2 : Nat) (Option.some Jvm.ClassFile.FieldType.int)).before a0 Z = true := hw _ (List.mem_of_getElem? (i := 24) rfl)
theorem w25 (hw : HW Z a0) : (Jvm.Cond.methodLink "com/example/evenkeel/evenkeel/RunTableItemsByNumberPinLaw" (32 : Nat) ({ cls := "com/example/evenkeel/evenkeel/RunTableItemsByNumberPinLaw", name := "before", desc := "([III)I" } : Jvm.MethodName)).before a0 Z = true := hw _ (List.mem_of_getElem? (i := 25) rfl)
theorem w26 (hw : HW Z a0) : (Jvm.Cond.static ({ cls := "com/example/evenkeel/evenkeel/RunTableItemsByNumberPinLaw", name := "before", desc := "([III)I" } : Jvm.MethodName)).before a0 Z = true := hw _ (List.mem_of_getElem? (i := 26) rfl)
theorem w27 (hw : HW Z a0) : (Jvm.Cond.code ({ cls := "com/example/evenkeel/evenkeel/RunTableItemsByNumberPinLaw", name := "before", desc := "([III)I" } : Jvm.MethodName) method_6_code (3 : Nat) (Option.some Jvm.ClassFile.FieldType.int)).before a0 Z = true := hw _ (List.mem_of_getElem? (i := 27) rfl)
end Words

theorem pd_0 : parseMethodDescriptor "([IIII)I" = some ⟨[(.array .int), .int, .int, .int], some .int⟩ := by decide +kernel
theorem pd_1 : parseMethodDescriptor "([III)I" = some ⟨[(.array .int), .int, .int], some .int⟩ := by decide +kernel
theorem pd_2 : parseMethodDescriptor "([II)I" = some ⟨[(.array .int), .int], some .int⟩ := by decide +kernel
theorem pd_3 : parseMethodDescriptor "([[I[IIII)Z" = some ⟨[(.array (.array .int)), (.array .int), .int, .int, .int], some .boolean⟩ := by decide +kernel
theorem pd_4 : parseMethodDescriptor "([[I[III)Z" = some ⟨[(.array (.array .int)), (.array .int), .int, .int], some .boolean⟩ := by decide +kernel
theorem pd_5 : parseMethodDescriptor "([II)[[I" = some ⟨[(.array .int), .int], some (.array (.array .int))⟩ := by decide +kernel
set_option maxRecDepth 65536 in
set_option maxHeartbeats 400000000 in
theorem loop1 {l : Launch} {Z : State} {a0 : Array Value} (hw : HW Z a0) {n0 : Nat} (F : Wd) (sz nb : Addr) (c : Nat) (nums : List Nat) (hn : nums.length ≤ 5) (hc : c ≤ 4) (hg : own_good c nums) {R : Room} {Q : Option Value → Wd → Prop} {κ : Ctx} (K : Ok Z κ "com/example/evenkeel/evenkeel/RunTable" prog_95_method_11_code 7 (some (.array (.array .int))) "itemsByNumber") {ce sl : Nat}
    (nx : ∀ s6, Go l Z n0 R Q κ ce sl ((sz, .inr (.int, own_ints (own_s1 c nums nums.length))) :: (nb, .inr (.int, own_ints nums)) :: F) 40 #[.val (.ref nb), .val (.int (Int32.ofNat c)), .val (.ref sz), .val (.ref nb), .val (.int (Int32.ofNat nums.length)), .val (.int (Int32.ofNat nums.length)), s6] []) : ∀ (k i : Nat) (s6 : Slot), (s6 = .unset ∨ ∃ z, s6 = .val (.int z)) → i + k = nums.length → Go l Z n0 R Q κ ce sl ((sz, .inr (.int, own_ints (own_s1 c nums i))) :: (nb, .inr (.int, own_ints nums)) :: F) 13 #[.val (.ref nb), .val (.int (Int32.ofNat c)), .val (.ref sz), .val (.ref nb), .val (.int (Int32.ofNat nums.length)), .val (.int (Int32.ofNat i)), s6] [] := by
  intro k
  induction k with
  | zero =>
    intro i s6 h6 hk
    have hi : i = nums.length := by omega
    subst hi
    refine s_iload K d1_13 (pc' := 15) rfl rfl ?_
    refine s_iload K d1_15 (pc' := 17) rfl rfl ?_
    refine s_icY K d1_17 (flt Int32.lt_irrefl).2.1 (by decide) (pc' := 40) (by decide) ?_
    exact nx s6
  | succ k ih =>
    intro i s6 h6 hk
    have hi : i < nums.length := by omega
    obtain ⟨g1, g2, g3, g4, g5⟩ := hg.1 i hi
    refine s_iload K d1_13 (pc' := 15) rfl rfl ?_
    refine s_iload K d1_15 (pc' := 17) rfl rfl ?_
    refine s_icN K d1_17 (pc' := 20) rfl (tlt (own_lt hi (by omega))).2.1 ?_
    refine s_aloadN K d1_20 (pc' := 21) rfl rfl rfl ?_
    refine s_iload K d1_21 (pc' := 23) rfl rfl ?_
    refine s_iaload K d1_23 (pc' := 24) rfl (k := 1) rfl (i := i) (Ix.ofNat (by omega)) (own_get hi) ?_
    refine s_istore K d1_24 (pc' := 26) rfl (Ls' := #[.val (.ref nb), .val (.int (Int32.ofNat c)), .val (.ref sz), .val (.ref nb), .val (.int (Int32.ofNat nums.length)), .val (.int (Int32.ofNat i)), .val (.int (Int32.ofNat (nums.getD i 0)))]) (own_st6 h6) ?_
    refine s_aloadN K d1_26 (pc' := 27) rfl rfl rfl ?_
    refine s_iload K d1_27 (pc' := 29) rfl rfl ?_
    refine s_dup2 K d1_29 (pc' := 30) rfl rfl rfl ?_
    refine s_iaload K d1_30 (pc' := 31) rfl (k := 0) rfl (i := (nums.getD i 0)) (Ix.ofNat (by omega)) (own_get (by omega)) ?_
    refine s_iconst K d1_31 (pc' := 32) rfl (z := (1 : Int32)) rfl ?_
    refine s_iadd K d1_32 (pc' := 33) rfl (z := Int32.ofNat (((own_s1 c nums i).getD (nums.getD i 0) 0) + 1)) (Int32.ofNat_add _ 1).symm ?_
    refine s_iastore K d1_33 (pc' := 34) rfl (k := 0) rfl (i := (nums.getD i 0)) (Ix.ofNat (by omega)) (by rw [own_len]; omega) (L' := ((sz, .inr (.int, own_ints (own_s1 c nums (i + 1)))) :: (nb, .inr (.int, own_ints nums)) :: F)) (by rw [own_set]; rfl) ?_
    refine s_iinc K d1_34 (pc' := 37) rfl rfl (z := Int32.ofNat (i + 1)) (Int32.ofNat_add i 1).symm (Ls' := #[.val (.ref nb), .val (.int (Int32.ofNat c)), .val (.ref sz), .val (.ref nb), .val (.int (Int32.ofNat nums.length)), .val (.int (Int32.ofNat (i + 1))), .val (.int (Int32.ofNat (nums.getD i 0)))]) rfl ?_
    refine s_goto K d1_37 (by decide) (pc' := 13) (by decide) ?_
    exact ih (i + 1) _ (Or.inr ⟨_, rfl⟩) (by omega)
set_option maxRecDepth 65536 in
set_option maxHeartbeats 400000000 in
theorem loop3 {l : Launch} {Z : State} {a0 : Array Value} (hw : HW Z a0) {n0 : Nat} (F : Wd) (sz it nb : Addr) (as : List Addr) (c : Nat) (nums : List Nat) (hn : nums.length ≤ 5) (hc : c ≤ 4) (ha : as.length = c) (hg : own_good c nums) {R : Room} {Q : Option Value → Wd → Prop} {κ : Ctx} (K : Ok Z κ "com/example/evenkeel/evenkeel/RunTable" prog_95_method_11_code 7 (some (.array (.array .int))) "itemsByNumber") {ce sl : Nat} (hce : ce ≤ R.cells) (hsl : sl ≤ R.slots) (s6 : Slot)
    (hq : Q (some (.ref it)) ((sz, .inr (.int, own_ints (own_s1 c nums nums.length))) :: (it, .inr (.array .int, own_refs as)) :: (nb, .inr (.int, own_ints nums)) :: (own_rows as (own_rs c nums nums.length) ++ F))) : ∀ (k i : Nat) (x5 : Int32), i + k = nums.length → Go l Z n0 R Q κ ce sl ((sz, .inr (.int, own_ints (own_s1 c nums i))) :: (it, .inr (.array .int, own_refs as)) :: (nb, .inr (.int, own_ints nums)) :: (own_rows as (own_rs c nums i) ++ F)) 78 #[.val (.ref nb), .val (.int (Int32.ofNat c)), .val (.ref sz), .val (.ref it), .val (.int (Int32.ofNat i)), .val (.int x5), s6] [] := by
  intro k
  induction k with
  | zero =>
    intro i x5 hk
    have hi : i = nums.length := by omega
    subst hi
    refine s_iload K d1_78 (pc' := 80) rfl rfl ?_
    refine s_aloadN K d1_80 (pc' := 81) rfl rfl rfl ?_
    refine s_len K d1_81 (pc' := 82) rfl (k := 2) rfl (z := Int32.ofNat nums.length) (congrArg Int32.ofNat own_len) ?_
    refine s_icY K d1_82 (flt Int32.lt_irrefl).2.1 (by decide) (pc' := 113) (by decide) ?_
    refine s_aloadN K d1_113 (pc' := 114) rfl rfl rfl ?_
    exact s_areturn K d1_114 rfl rfl rfl hce hsl hq
  | succ k ih =>
    intro i x5 hk
    have hi : i < nums.length := by omega
    obtain ⟨g1, g2, g3, g4, g5⟩ := hg.1 i hi
    refine s_iload K d1_78 (pc' := 80) rfl rfl ?_
    refine s_aloadN K d1_80 (pc' := 81) rfl rfl rfl ?_
    refine s_len K d1_81 (pc' := 82) rfl (k := 2) rfl (z := Int32.ofNat nums.length) (congrArg Int32.ofNat own_len) ?_
    refine s_icN K d1_82 (pc' := 85) rfl (tlt (own_lt hi (by omega))).2.1 ?_
    refine s_aloadN K d1_85 (pc' := 86) rfl rfl rfl ?_
    refine s_iload K d1_86 (pc' := 88) rfl rfl ?_
    refine s_iaload K d1_88 (pc' := 89) rfl (k := 2) rfl (i := i) (Ix.ofNat (by omega)) (own_get hi) ?_
    refine s_istore K d1_89 (pc' := 91) rfl (Ls' := #[.val (.ref nb), .val (.int (Int32.ofNat c)), .val (.ref sz), .val (.ref it), .val (.int (Int32.ofNat i)), .val (.int (Int32.ofNat (nums.getD i 0))), s6]) rfl ?_
    refine s_aloadN K d1_91 (pc' := 92) rfl rfl rfl ?_
    refine s_iload K d1_92 (pc' := 94) rfl rfl ?_
    refine s_aaload K d1_94 (pc' := 95) rfl (k := 1) rfl rfl (i := (nums.getD i 0)) (Ix.ofNat (by omega)) (own_getr (by omega)) ?_
    refine s_aloadN K d1_95 (pc' := 96) rfl rfl rfl ?_
    refine s_iload K d1_96 (pc' := 98) rfl rfl ?_
    refine s_dup2 K d1_98 (pc' := 99) rfl rfl rfl ?_
    refine s_iaload K d1_99 (pc' := 100) rfl (k := 0) rfl (i := (nums.getD i 0)) (Ix.ofNat (by omega)) (own_get (by omega)) ?_
    refine s_dupx2 K d1_100 (pc' := 101) rfl rfl rfl rfl ?_
    refine s_iconst K d1_101 (pc' := 102) rfl (z := (1 : Int32)) rfl ?_
    refine s_iadd K d1_102 (pc' := 103) rfl (z := Int32.ofNat (((own_s1 c nums i).getD (nums.getD i 0) 0) + 1)) (Int32.ofNat_add _ 1).symm ?_
    refine s_iastore K d1_103 (pc' := 104) rfl (k := 0) rfl (i := (nums.getD i 0)) (Ix.ofNat (by omega)) (by rw [own_len]; omega) (L' := ((sz, .inr (.int, own_ints (own_s1 c nums (i + 1)))) :: (it, .inr (.array .int, own_refs as)) :: (nb, .inr (.int, own_ints nums)) :: (own_rows as (own_rs c nums i) ++ F))) (by rw [own_set]; rfl) ?_
    refine s_iload K d1_104 (pc' := 106) rfl rfl ?_
    refine s_iastore K d1_106 (pc' := 107) rfl (k := (nums.getD i 0) + 3) (own_rowat (by omega) (by omega)) (i := ((own_s1 c nums i).getD (nums.getD i 0) 0)) (Ix.ofNat (by omega)) (by rw [own_len]; exact g4) (L' := ((sz, .inr (.int, own_ints (own_s1 c nums (i + 1)))) :: (it, .inr (.array .int, own_refs as)) :: (nb, .inr (.int, own_ints nums)) :: (own_rows as (own_rs c nums (i + 1)) ++ F))) (own_rowset (by omega) (by omega)) ?_
    refine s_iinc K d1_107 (pc' := 110) rfl rfl (z := Int32.ofNat (i + 1)) (Int32.ofNat_add i 1).symm (Ls' := #[.val (.ref nb), .val (.int (Int32.ofNat c)), .val (.ref sz), .val (.ref it), .val (.int (Int32.ofNat (i + 1))), .val (.int (Int32.ofNat (nums.getD i 0))), s6]) rfl ?_
    refine s_goto K d1_110 (by decide) (pc' := 78) (by decide) ?_
    exact ih (i + 1) _ (by omega)
set_option maxRecDepth 65536 in
set_option maxHeartbeats 400000000 in
theorem mid0 {l : Launch} {Z : State} {a0 : Array Value} (hw : HW Z a0) {n0 : Nat} (F : Wd) (sz nb : Addr) (nums : List Nat) (hn : nums.length ≤ 5) (hg : own_good 0 nums) (hS : own_s1 0 nums nums.length = []) {κ : Ctx} (K : Ok Z κ "com/example/evenkeel/evenkeel/RunTable" prog_95_method_11_code 7 (some (.array (.array .int))) "itemsByNumber") (s6 : Slot) :
    Go l Z n0 ({ frames := 0, cells := 6, slots := 28, locals := 0 } : Room) (fun v L' => ∃ it as sz, as.length = 0 ∧ v = some (.ref it) ∧ L' = ((sz, .inr (.int, own_ints (own_s1 0 nums nums.length))) :: (it, .inr (.array .int, own_refs as)) :: (nb, .inr (.int, own_ints nums)) :: (own_rows as (own_rs 0 nums nums.length) ++ F))) κ 1 0 ((sz, .inr (.int, own_ints [])) :: (nb, .inr (.int, own_ints nums)) :: F) 40 #[.val (.ref nb), .val (.int (Int32.ofNat 0)), .val (.ref sz), .val (.ref nb), .val (.int (Int32.ofNat nums.length)), .val (.int (Int32.ofNat nums.length)), s6] [] := by
  refine s_iloadN K d1_40 (pc' := 41) rfl rfl ?_
  refine s_anewarr K d1_41 (pc' := 44) rfl (ty := .int) rfl (w5 hw) (w6 hw) (n := 0) (by decide) (cap := 0) (by decide) (by decide) (vs0 := []) rfl (ce' := 2) rfl (sl' := 0) rfl (by decide) (by decide) ?_
  intro b1
  refine s_astoreN K d1_44 (pc' := 45) rfl rfl (Ls' := #[.val (.ref nb), .val (.int 0), .val (.ref sz), .val (.ref b1), .val (.int (Int32.ofNat nums.length)), .val (.int (Int32.ofNat nums.length)), s6]) rfl ?_
  refine s_iconst K d1_45 (pc' := 46) rfl (z := (0 : Int32)) rfl ?_
  refine s_istore K d1_46 (pc' := 48) rfl (Ls' := #[.val (.ref nb), .val (.int 0), .val (.ref sz), .val (.ref b1), .val (.int 0), .val (.int (Int32.ofNat nums.length)), s6]) rfl ?_
  refine s_iload K d1_48 (pc' := 50) rfl rfl ?_
  refine s_iloadN K d1_50 (pc' := 51) rfl rfl ?_
  refine s_icY K d1_51 rfl (by decide) (pc' := 75) (by decide) ?_
  refine s_iconst K d1_75 (pc' := 76) rfl (z := (0 : Int32)) rfl ?_
  refine s_istore K d1_76 (pc' := 78) rfl (Ls' := #[.val (.ref nb), .val (.int 0), .val (.ref sz), .val (.ref b1), .val (.int 0), .val (.int (Int32.ofNat nums.length)), s6]) rfl ?_
  refine s_front (k := 2) rfl (L' := ((nb, .inr (.int, own_ints nums)) :: (b1, .inr ((.array .int), [])) :: (sz, .inr (.int, [])) :: F)) rfl ?_
  refine s_front (k := 1) rfl (L' := ((b1, .inr ((.array .int), [])) :: (nb, .inr (.int, own_ints nums)) :: (sz, .inr (.int, [])) :: F)) rfl ?_
  refine s_front (k := 2) rfl (L' := ((sz, .inr (.int, [])) :: (b1, .inr ((.array .int), [])) :: (nb, .inr (.int, own_ints nums)) :: F)) rfl ?_
  have e0 : own_rs 0 nums 0 = [] := by rw [own_rs0, hS]; rfl
  have z : Go l Z n0 ({ frames := 0, cells := 6, slots := 28, locals := 0 } : Room) (fun v L' => ∃ it as sz, as.length = 0 ∧ v = some (.ref it) ∧ L' = ((sz, .inr (.int, own_ints (own_s1 0 nums nums.length))) :: (it, .inr (.array .int, own_refs as)) :: (nb, .inr (.int, own_ints nums)) :: (own_rows as (own_rs 0 nums nums.length) ++ F))) κ 2 0 ((sz, .inr (.int, own_ints (own_s1 0 nums 0))) :: (b1, .inr (.array .int, own_refs [])) :: (nb, .inr (.int, own_ints nums)) :: (own_rows [] (own_rs 0 nums 0) ++ F)) 78 #[.val (.ref nb), .val (.int (Int32.ofNat 0)), .val (.ref sz), .val (.ref b1), .val (.int (Int32.ofNat 0)), .val (.int (Int32.ofNat nums.length)), s6] [] := loop3 hw F sz b1 nb [] 0 nums hn (by decide) rfl hg K (by decide) (by decide) s6 ⟨b1, [], sz, rfl, rfl, rfl⟩ nums.length 0 (Int32.ofNat nums.length) (Nat.zero_add _)
  rw [e0] at z
  exact z
set_option maxRecDepth 65536 in
set_option maxHeartbeats 400000000 in
theorem c_items0 {l : Launch} {Z : State} {a0 : Array Value} (hw : HW Z a0) {n0 : Nat} (F : Wd) (nb : Addr) (nums : List Nat) (hn : nums.length ≤ 5) (hg : own_good 0 nums) :
    Con l Z n0 (⟨"com/example/evenkeel/evenkeel/RunTable", "itemsByNumber", "([II)[[I"⟩ : MethodName) prog_95_method_11_code 7 (some (.array (.array .int))) ({ frames := 0, cells := 6, slots := 28, locals := 0 } : Room) [.ref nb, .int (Int32.ofNat 0)] ((nb, .inr (.int, own_ints nums)) :: F) (fun v L' => ∃ it as sz, as.length = 0 ∧ v = some (.ref it) ∧ L' = ((sz, .inr (.int, own_ints (own_s1 0 nums nums.length))) :: (it, .inr (.array .int, own_refs as)) :: (nb, .inr (.int, own_ints nums)) :: (own_rows as (own_rs 0 nums nums.length) ++ F))) := by
  refine Con.of (by decide +kernel) (Ls := #[.val (.ref nb), .val (.int (Int32.ofNat 0)), .unset, .unset, .unset, .unset, .unset]) (fun m => by first | rfl | (simp [entryFrame, mkF, argsToLocals, Value.category]; done)) ?_
  intro κ K
  refine s_iloadN K d1_0 (pc' := 1) rfl rfl ?_
  refine s_newarr K d1_1 (pc' := 3) rfl rfl (w0 hw) (n := 0) (by decide) (cap := 0) (by decide) (by decide) (vs0 := []) rfl (ce' := 1) rfl (sl' := 0) rfl (by decide) (by decide) ?_
  intro b1
  refine s_astoreN K d1_3 (pc' := 4) rfl rfl (Ls' := #[.val (.ref nb), .val (.int 0), .val (.ref b1), .unset, .unset, .unset, .unset]) rfl ?_
  refine s_aloadN K d1_4 (pc' := 5) rfl rfl rfl ?_
  refine s_astoreN K d1_5 (pc' := 6) rfl rfl (Ls' := #[.val (.ref nb), .val (.int 0), .val (.ref b1), .val (.ref nb), .unset, .unset, .unset]) rfl ?_
  refine s_aloadN K d1_6 (pc' := 7) rfl rfl rfl ?_
  refine s_len K d1_7 (pc' := 8) rfl (k := 1) rfl (z := Int32.ofNat nums.length) (congrArg Int32.ofNat own_len) ?_
  refine s_istore K d1_8 (pc' := 10) rfl (Ls' := #[.val (.ref nb), .val (.int 0), .val (.ref b1), .val (.ref nb), .val (.int (Int32.ofNat nums.length)), .unset, .unset]) rfl ?_
  refine s_iconst K d1_10 (pc' := 11) rfl (z := (0 : Int32)) rfl ?_
  refine s_istore K d1_11 (pc' := 13) rfl (Ls' := #[.val (.ref nb), .val (.int 0), .val (.ref b1), .val (.ref nb), .val (.int (Int32.ofNat nums.length)), .val (.int 0), .unset]) rfl ?_
  have hS := own_sizes0 hg
  exact loop1 hw F b1 nb 0 nums hn (by decide) hg K (fun s6 => Go.conv (by rw [hS]) (mid0 hw F b1 nb nums hn hg  hS K s6)) nums.length 0 .unset (Or.inl rfl) (Nat.zero_add _)
set_option maxRecDepth 65536 in
set_option maxHeartbeats 400000000 in
theorem mid1 {l : Launch} {Z : State} {a0 : Array Value} (hw : HW Z a0) {n0 : Nat} (F : Wd) (sz nb : Addr) (nums : List Nat) (hn : nums.length ≤ 5) (hg : own_good 1 nums) (s0 : Nat) (hs0 : s0 ≤ 5) (hS : own_s1 1 nums nums.length = [s0]) {κ : Ctx} (K : Ok Z κ "com/example/evenkeel/evenkeel/RunTable" prog_95_method_11_code 7 (some (.array (.array .int))) "itemsByNumber") (s6 : Slot) :
    Go l Z n0 ({ frames := 0, cells := 6, slots := 28, locals := 0 } : Room) (fun v L' => ∃ it as sz, as.length = 1 ∧ v = some (.ref it) ∧ L' = ((sz, .inr (.int, own_ints (own_s1 1 nums nums.length))) :: (it, .inr (.array .int, own_refs as)) :: (nb, .inr (.int, own_ints nums)) :: (own_rows as (own_rs 1 nums nums.length) ++ F))) κ 1 1 ((sz, .inr (.int, own_ints [s0])) :: (nb, .inr (.int, own_ints nums)) :: F) 40 #[.val (.ref nb), .val (.int (Int32.ofNat 1)), .val (.ref sz), .val (.ref nb), .val (.int (Int32.ofNat nums.length)), .val (.int (Int32.ofNat nums.length)), s6] [] := by
  refine s_iloadN K d1_40 (pc' := 41) rfl rfl ?_
  refine s_anewarr K d1_41 (pc' := 44) rfl (ty := .int) rfl (w5 hw) (w6 hw) (n := 1) (by decide) (cap := 1) (by decide) (by decide) (vs0 := [.null]) rfl (ce' := 2) rfl (sl' := 2) rfl (by decide) (by decide) ?_
  intro b1
  refine s_astoreN K d1_44 (pc' := 45) rfl rfl (Ls' := #[.val (.ref nb), .val (.int 1), .val (.ref sz), .val (.ref b1), .val (.int (Int32.ofNat nums.length)), .val (.int (Int32.ofNat nums.length)), s6]) rfl ?_
  refine s_iconst K d1_45 (pc' := 46) rfl (z := (0 : Int32)) rfl ?_
  refine s_istore K d1_46 (pc' := 48) rfl (Ls' := #[.val (.ref nb), .val (.int 1), .val (.ref sz), .val (.ref b1), .val (.int 0), .val (.int (Int32.ofNat nums.length)), s6]) rfl ?_
  refine s_iload K d1_48 (pc' := 50) rfl rfl ?_
  refine s_iloadN K d1_50 (pc' := 51) rfl rfl ?_
  refine s_icN K d1_51 (pc' := 54) rfl rfl ?_
  refine s_aloadN K d1_54 (pc' := 55) rfl rfl rfl ?_
  refine s_iload K d1_55 (pc' := 57) rfl rfl ?_
  refine s_aloadN K d1_57 (pc' := 58) rfl rfl rfl ?_
  refine s_iload K d1_58 (pc' := 60) rfl rfl ?_
  refine s_iaload K d1_60 (pc' := 61) rfl (k := 1) rfl (i := 0) (by decide) rfl ?_
  refine s_newarr K d1_61 (pc' := 63) rfl rfl (w0 hw) (n := s0) (Ix.ofNat (by omega)) (cap := 5) (by omega) (by decide) (vs0 := own_ints (List.replicate s0 0)) own_rep (ce' := 3) rfl (sl' := 7) rfl (by decide) (by decide) ?_
  intro b2
  refine s_aastore K d1_63 (pc' := 64) rfl (w6 hw) (k := 1) rfl (k2 := 0) rfl (i := 0) (by decide) (ltB rfl) (L' := ((b2, .inr (.int, own_ints (List.replicate s0 0))) :: (b1, .inr ((.array .int), [.ref b2])) :: (sz, .inr (.int, [.int (Int32.ofNat s0)])) :: (nb, .inr (.int, own_ints nums)) :: F)) rfl ?_
  refine s_aloadN K d1_64 (pc' := 65) rfl rfl rfl ?_
  refine s_iload K d1_65 (pc' := 67) rfl rfl ?_
  refine s_iconst K d1_67 (pc' := 68) rfl (z := (0 : Int32)) rfl ?_
  refine s_iastore K d1_68 (pc' := 69) rfl (k := 2) rfl (i := 0) (by decide) (ltB rfl) (L' := ((b2, .inr (.int, own_ints (List.replicate s0 0))) :: (b1, .inr ((.array .int), [.ref b2])) :: (sz, .inr (.int, [.int 0])) :: (nb, .inr (.int, own_ints nums)) :: F)) rfl ?_
  refine s_iinc K d1_69 (pc' := 72) rfl rfl (z := (1 : Int32)) rfl (Ls' := #[.val (.ref nb), .val (.int 1), .val (.ref sz), .val (.ref b1), .val (.int 1), .val (.int (Int32.ofNat nums.length)), s6]) rfl ?_
  refine s_goto K d1_72 (by decide) (pc' := 48) (by decide) ?_
  refine s_iload K d1_48 (pc' := 50) rfl rfl ?_
  refine s_iloadN K d1_50 (pc' := 51) rfl rfl ?_
  refine s_icY K d1_51 rfl (by decide) (pc' := 75) (by decide) ?_
  refine s_iconst K d1_75 (pc' := 76) rfl (z := (0 : Int32)) rfl ?_
  refine s_istore K d1_76 (pc' := 78) rfl (Ls' := #[.val (.ref nb), .val (.int 1), .val (.ref sz), .val (.ref b1), .val (.int 0), .val (.int (Int32.ofNat nums.length)), s6]) rfl ?_
  refine s_front (k := 3) rfl (L' := ((nb, .inr (.int, own_ints nums)) :: (b2, .inr (.int, own_ints (List.replicate s0 0))) :: (b1, .inr ((.array .int), [.ref b2])) :: (sz, .inr (.int, [.int 0])) :: F)) rfl ?_
  refine s_front (k := 2) rfl (L' := ((b1, .inr ((.array .int), [.ref b2])) :: (nb, .inr (.int, own_ints nums)) :: (b2, .inr (.int, own_ints (List.replicate s0 0))) :: (sz, .inr (.int, [.int 0])) :: F)) rfl ?_
  refine s_front (k := 3) rfl (L' := ((sz, .inr (.int, [.int 0])) :: (b1, .inr ((.array .int), [.ref b2])) :: (nb, .inr (.int, own_ints nums)) :: (b2, .inr (.int, own_ints (List.replicate s0 0))) :: F)) rfl ?_
  have e0 : own_rs 1 nums 0 = [List.replicate s0 0] := by rw [own_rs0, hS]; rfl
  have z : Go l Z n0 ({ frames := 0, cells := 6, slots := 28, locals := 0 } : Room) (fun v L' => ∃ it as sz, as.length = 1 ∧ v = some (.ref it) ∧ L' = ((sz, .inr (.int, own_ints (own_s1 1 nums nums.length))) :: (it, .inr (.array .int, own_refs as)) :: (nb, .inr (.int, own_ints nums)) :: (own_rows as (own_rs 1 nums nums.length) ++ F))) κ 3 7 ((sz, .inr (.int, own_ints (own_s1 1 nums 0))) :: (b1, .inr (.array .int, own_refs [b2])) :: (nb, .inr (.int, own_ints nums)) :: (own_rows [b2] (own_rs 1 nums 0) ++ F)) 78 #[.val (.ref nb), .val (.int (Int32.ofNat 1)), .val (.ref sz), .val (.ref b1), .val (.int (Int32.ofNat 0)), .val (.int (Int32.ofNat nums.length)), s6] [] := loop3 hw F sz b1 nb [b2] 1 nums hn (by decide) rfl hg K (by decide) (by decide) s6 ⟨b1, [b2], sz, rfl, rfl, rfl⟩ nums.length 0 (Int32.ofNat nums.length) (Nat.zero_add _)
  rw [e0] at z
  exact z
set_option maxRecDepth 65536 in
set_option maxHeartbeats 400000000 in
theorem c_items1 {l : Launch} {Z : State} {a0 : Array Value} (hw : HW Z a0) {n0 : Nat} (F : Wd) (nb : Addr) (nums : List Nat) (hn : nums.length ≤ 5) (hg : own_good 1 nums) :
    Con l Z n0 (⟨"com/example/evenkeel/evenkeel/RunTable", "itemsByNumber", "([II)[[I"⟩ : MethodName) prog_95_method_11_code 7 (some (.array (.array .int))) ({ frames := 0, cells := 6, slots := 28, locals := 0 } : Room) [.ref nb, .int (Int32.ofNat 1)] ((nb, .inr (.int, own_ints nums)) :: F) (fun v L' => ∃ it as sz, as.length = 1 ∧ v = some (.ref it) ∧ L' = ((sz, .inr (.int, own_ints (own_s1 1 nums nums.length))) :: (it, .inr (.array .int, own_refs as)) :: (nb, .inr (.int, own_ints nums)) :: (own_rows as (own_rs 1 nums nums.length) ++ F))) := by
  refine Con.of (by decide +kernel) (Ls := #[.val (.ref nb), .val (.int (Int32.ofNat 1)), .unset, .unset, .unset, .unset, .unset]) (fun m => by first | rfl | (simp [entryFrame, mkF, argsToLocals, Value.category]; done)) ?_
  intro κ K
  refine s_iloadN K d1_0 (pc' := 1) rfl rfl ?_
  refine s_newarr K d1_1 (pc' := 3) rfl rfl (w0 hw) (n := 1) (by decide) (cap := 1) (by decide) (by decide) (vs0 := [.int 0]) rfl (ce' := 1) rfl (sl' := 1) rfl (by decide) (by decide) ?_
  intro b1
  refine s_astoreN K d1_3 (pc' := 4) rfl rfl (Ls' := #[.val (.ref nb), .val (.int 1), .val (.ref b1), .unset, .unset, .unset, .unset]) rfl ?_
  refine s_aloadN K d1_4 (pc' := 5) rfl rfl rfl ?_
  refine s_astoreN K d1_5 (pc' := 6) rfl rfl (Ls' := #[.val (.ref nb), .val (.int 1), .val (.ref b1), .val (.ref nb), .unset, .unset, .unset]) rfl ?_
  refine s_aloadN K d1_6 (pc' := 7) rfl rfl rfl ?_
  refine s_len K d1_7 (pc' := 8) rfl (k := 1) rfl (z := Int32.ofNat nums.length) (congrArg Int32.ofNat own_len) ?_
  refine s_istore K d1_8 (pc' := 10) rfl (Ls' := #[.val (.ref nb), .val (.int 1), .val (.ref b1), .val (.ref nb), .val (.int (Int32.ofNat nums.length)), .unset, .unset]) rfl ?_
  refine s_iconst K d1_10 (pc' := 11) rfl (z := (0 : Int32)) rfl ?_
  refine s_istore K d1_11 (pc' := 13) rfl (Ls' := #[.val (.ref nb), .val (.int 1), .val (.ref b1), .val (.ref nb), .val (.int (Int32.ofNat nums.length)), .val (.int 0), .unset]) rfl ?_
  obtain ⟨s0, hs0, hS⟩ := own_sizes1 hg
  exact loop1 hw F b1 nb 1 nums hn (by decide) hg K (fun s6 => Go.conv (by rw [hS]) (mid1 hw F b1 nb nums hn hg s0 hs0 hS K s6)) nums.length 0 .unset (Or.inl rfl) (Nat.zero_add _)
set_option maxRecDepth 65536 in
set_option maxHeartbeats 400000000 in
theorem mid2 {l : Launch} {Z : State} {a0 : Array Value} (hw : HW Z a0) {n0 : Nat} (F : Wd) (sz nb : Addr) (nums : List Nat) (hn : nums.length ≤ 5) (hg : own_good 2 nums) (s0 s1 : Nat) (hs0 : s0 ≤ 5) (hs1 : s1 ≤ 5) (hS : own_s1 2 nums nums.length = [s0, s1]) {κ : Ctx} (K : Ok Z κ "com/example/evenkeel/evenkeel/RunTable" prog_95_method_11_code 7 (some (.array (.array .int))) "itemsByNumber") (s6 : Slot) :
    Go l Z n0 ({ frames := 0, cells := 6, slots := 28, locals := 0 } : Room) (fun v L' => ∃ it as sz, as.length = 2 ∧ v = some (.ref it) ∧ L' = ((sz, .inr (.int, own_ints (own_s1 2 nums nums.length))) :: (it, .inr (.array .int, own_refs as)) :: (nb, .inr (.int, own_ints nums)) :: (own_rows as (own_rs 2 nums nums.length) ++ F))) κ 1 2 ((sz, .inr (.int, own_ints [s0, s1])) :: (nb, .inr (.int, own_ints nums)) :: F) 40 #[.val (.ref nb), .val (.int (Int32.ofNat 2)), .val (.ref sz), .val (.ref nb), .val (.int (Int32.ofNat nums.length)), .val (.int (Int32.ofNat nums.length)), s6] [] := by
  refine s_iloadN K d1_40 (pc' := 41) rfl rfl ?_
  refine s_anewarr K d1_41 (pc' := 44) rfl (ty := .int) rfl (w5 hw) (w6 hw) (n := 2) (by decide) (cap := 2) (by decide) (by decide) (vs0 := [.null, .null]) rfl (ce' := 2) rfl (sl' := 4) rfl (by decide) (by decide) ?_
  intro b1
  refine s_astoreN K d1_44 (pc' := 45) rfl rfl (Ls' := #[.val (.ref nb), .val (.int 2), .val (.ref sz), .val (.ref b1), .val (.int (Int32.ofNat nums.length)), .val (.int (Int32.ofNat nums.length)), s6]) rfl ?_
  refine s_iconst K d1_45 (pc' := 46) rfl (z := (0 : Int32)) rfl ?_
  refine s_istore K d1_46 (pc' := 48) rfl (Ls' := #[.val (.ref nb), .val (.int 2), .val (.ref sz), .val (.ref b1), .val (.int 0), .val (.int (Int32.ofNat nums.length)), s6]) rfl ?_
  refine s_iload K d1_48 (pc' := 50) rfl rfl ?_
  refine s_iloadN K d1_50 (pc' := 51) rfl rfl ?_
  refine s_icN K d1_51 (pc' := 54) rfl rfl ?_
  refine s_aloadN K d1_54 (pc' := 55) rfl rfl rfl ?_
  refine s_iload K d1_55 (pc' := 57) rfl rfl ?_
  refine s_aloadN K d1_57 (pc' := 58) rfl rfl rfl ?_
  refine s_iload K d1_58 (pc' := 60) rfl rfl ?_
  refine s_iaload K d1_60 (pc' := 61) rfl (k := 1) rfl (i := 0) (by decide) rfl ?_
  refine s_newarr K d1_61 (pc' := 63) rfl rfl (w0 hw) (n := s0) (Ix.ofNat (by omega)) (cap := 5) (by omega) (by decide) (vs0 := own_ints (List.replicate s0 0)) own_rep (ce' := 3) rfl (sl' := 9) rfl (by decide) (by decide) ?_
  intro b2
  refine s_aastore K d1_63 (pc' := 64) rfl (w6 hw) (k := 1) rfl (k2 := 0) rfl (i := 0) (by decide) (ltB rfl) (L' := ((b2, .inr (.int, own_ints (List.replicate s0 0))) :: (b1, .inr ((.array .int), [.ref b2, .null])) :: (sz, .inr (.int, [.int (Int32.ofNat s0), .int (Int32.ofNat s1)])) :: (nb, .inr (.int, own_ints nums)) :: F)) rfl ?_
  refine s_aloadN K d1_64 (pc' := 65) rfl rfl rfl ?_
  refine s_iload K d1_65 (pc' := 67) rfl rfl ?_
  refine s_iconst K d1_67 (pc' := 68) rfl (z := (0 : Int32)) rfl ?_
  refine s_iastore K d1_68 (pc' := 69) rfl (k := 2) rfl (i := 0) (by decide) (ltB rfl) (L' := ((b2, .inr (.int, own_ints (List.replicate s0 0))) :: (b1, .inr ((.array .int), [.ref b2, .null])) :: (sz, .inr (.int, [.int 0, .int (Int32.ofNat s1)])) :: (nb, .inr (.int, own_ints nums)) :: F)) rfl ?_
  refine s_iinc K d1_69 (pc' := 72) rfl rfl (z := (1 : Int32)) rfl (Ls' := #[.val (.ref nb), .val (.int 2), .val (.ref sz), .val (.ref b1), .val (.int 1), .val (.int (Int32.ofNat nums.length)), s6]) rfl ?_
  refine s_goto K d1_72 (by decide) (pc' := 48) (by decide) ?_
  refine s_iload K d1_48 (pc' := 50) rfl rfl ?_
  refine s_iloadN K d1_50 (pc' := 51) rfl rfl ?_
  refine s_icN K d1_51 (pc' := 54) rfl rfl ?_
  refine s_aloadN K d1_54 (pc' := 55) rfl rfl rfl ?_
  refine s_iload K d1_55 (pc' := 57) rfl rfl ?_
  refine s_aloadN K d1_57 (pc' := 58) rfl rfl rfl ?_
  refine s_iload K d1_58 (pc' := 60) rfl rfl ?_
  refine s_iaload K d1_60 (pc' := 61) rfl (k := 2) rfl (i := 1) (by decide) rfl ?_
  refine s_newarr K d1_61 (pc' := 63) rfl rfl (w0 hw) (n := s1) (Ix.ofNat (by omega)) (cap := 5) (by omega) (by decide) (vs0 := own_ints (List.replicate s1 0)) own_rep (ce' := 4) rfl (sl' := 14) rfl (by decide) (by decide) ?_
  intro b3
  refine s_aastore K d1_63 (pc' := 64) rfl (w6 hw) (k := 2) rfl (k2 := 0) rfl (i := 1) (by decide) (ltB rfl) (L' := ((b3, .inr (.int, own_ints (List.replicate s1 0))) :: (b2, .inr (.int, own_ints (List.replicate s0 0))) :: (b1, .inr ((.array .int), [.ref b2, .ref b3])) :: (sz, .inr (.int, [.int 0, .int (Int32.ofNat s1)])) :: (nb, .inr (.int, own_ints nums)) :: F)) rfl ?_
  refine s_aloadN K d1_64 (pc' := 65) rfl rfl rfl ?_
  refine s_iload K d1_65 (pc' := 67) rfl rfl ?_
  refine s_iconst K d1_67 (pc' := 68) rfl (z := (0 : Int32)) rfl ?_
  refine s_iastore K d1_68 (pc' := 69) rfl (k := 3) rfl (i := 1) (by decide) (ltB rfl) (L' := ((b3, .inr (.int, own_ints (List.replicate s1 0))) :: (b2, .inr (.int, own_ints (List.replicate s0 0))) :: (b1, .inr ((.array .int), [.ref b2, .ref b3])) :: (sz, .inr (.int, [.int 0, .int 0])) :: (nb, .inr (.int, own_ints nums)) :: F)) rfl ?_
  refine s_iinc K d1_69 (pc' := 72) rfl rfl (z := (2 : Int32)) rfl (Ls' := #[.val (.ref nb), .val (.int 2), .val (.ref sz), .val (.ref b1), .val (.int 2), .val (.int (Int32.ofNat nums.length)), s6]) rfl ?_
  refine s_goto K d1_72 (by decide) (pc' := 48) (by decide) ?_
  refine s_iload K d1_48 (pc' := 50) rfl rfl ?_
  refine s_iloadN K d1_50 (pc' := 51) rfl rfl ?_
  refine s_icY K d1_51 rfl (by decide) (pc' := 75) (by decide) ?_
  refine s_iconst K d1_75 (pc' := 76) rfl (z := (0 : Int32)) rfl ?_
  refine s_istore K d1_76 (pc' := 78) rfl (Ls' := #[.val (.ref nb), .val (.int 2), .val (.ref sz), .val (.ref b1), .val (.int 0), .val (.int (Int32.ofNat nums.length)), s6]) rfl ?_
  refine s_front (k := 1) rfl (L' := ((b2, .inr (.int, own_ints (List.replicate s0 0))) :: (b3, .inr (.int, own_ints (List.replicate s1 0))) :: (b1, .inr ((.array .int), [.ref b2, .ref b3])) :: (sz, .inr (.int, [.int 0, .int 0])) :: (nb, .inr (.int, own_ints nums)) :: F)) rfl ?_
  refine s_front (k := 4) rfl (L' := ((nb, .inr (.int, own_ints nums)) :: (b2, .inr (.int, own_ints (List.replicate s0 0))) :: (b3, .inr (.int, own_ints (List.replicate s1 0))) :: (b1, .inr ((.array .int), [.ref b2, .ref b3])) :: (sz, .inr (.int, [.int 0, .int 0])) :: F)) rfl ?_
  refine s_front (k := 3) rfl (L' := ((b1, .inr ((.array .int), [.ref b2, .ref b3])) :: (nb, .inr (.int, own_ints nums)) :: (b2, .inr (.int, own_ints (List.replicate s0 0))) :: (b3, .inr (.int, own_ints (List.replicate s1 0))) :: (sz, .inr (.int, [.int 0, .int 0])) :: F)) rfl ?_
  refine s_front (k := 4) rfl (L' := ((sz, .inr (.int, [.int 0, .int 0])) :: (b1, .inr ((.array .int), [.ref b2, .ref b3])) :: (nb, .inr (.int, own_ints nums)) :: (b2, .inr (.int, own_ints (List.replicate s0 0))) :: (b3, .inr (.int, own_ints (List.replicate s1 0))) :: F)) rfl ?_
  have e0 : own_rs 2 nums 0 = [List.replicate s0 0, List.replicate s1 0] := by rw [own_rs0, hS]; rfl
  have z : Go l Z n0 ({ frames := 0, cells := 6, slots := 28, locals := 0 } : Room) (fun v L' => ∃ it as sz, as.length = 2 ∧ v = some (.ref it) ∧ L' = ((sz, .inr (.int, own_ints (own_s1 2 nums nums.length))) :: (it, .inr (.array .int, own_refs as)) :: (nb, .inr (.int, own_ints nums)) :: (own_rows as (own_rs 2 nums nums.length) ++ F))) κ 4 14 ((sz, .inr (.int, own_ints (own_s1 2 nums 0))) :: (b1, .inr (.array .int, own_refs [b2, b3])) :: (nb, .inr (.int, own_ints nums)) :: (own_rows [b2, b3] (own_rs 2 nums 0) ++ F)) 78 #[.val (.ref nb), .val (.int (Int32.ofNat 2)), .val (.ref sz), .val (.ref b1), .val (.int (Int32.ofNat 0)), .val (.int (Int32.ofNat nums.length)), s6] [] := loop3 hw F sz b1 nb [b2, b3] 2 nums hn (by decide) rfl hg K (by decide) (by decide) s6 ⟨b1, [b2, b3], sz, rfl, rfl, rfl⟩ nums.length 0 (Int32.ofNat nums.length) (Nat.zero_add _)
  rw [e0] at z
  exact z
set_option maxRecDepth 65536 in
set_option maxHeartbeats 400000000 in
theorem c_items2 {l : Launch} {Z : State} {a0 : Array Value} (hw : HW Z a0) {n0 : Nat} (F : Wd) (nb : Addr) (nums : List Nat) (hn : nums.length ≤ 5) (hg : own_good 2 nums) :
    Con l Z n0 (⟨"com/example/evenkeel/evenkeel/RunTable", "itemsByNumber", "([II)[[I"⟩ : MethodName) prog_95_method_11_code 7 (some (.array (.array .int))) ({ frames := 0, cells := 6, slots := 28, locals := 0 } : Room) [.ref nb, .int (Int32.ofNat 2)] ((nb, .inr (.int, own_ints nums)) :: F) (fun v L' => ∃ it as sz, as.length = 2 ∧ v = some (.ref it) ∧ L' = ((sz, .inr (.int, own_ints (own_s1 2 nums nums.length))) :: (it, .inr (.array .int, own_refs as)) :: (nb, .inr (.int, own_ints nums)) :: (own_rows as (own_rs 2 nums nums.length) ++ F))) := by
  refine Con.of (by decide +kernel) (Ls := #[.val (.ref nb), .val (.int (Int32.ofNat 2)), .unset, .unset, .unset, .unset, .unset]) (fun m => by first | rfl | (simp [entryFrame, mkF, argsToLocals, Value.category]; done)) ?_
  intro κ K
  refine s_iloadN K d1_0 (pc' := 1) rfl rfl ?_
  refine s_newarr K d1_1 (pc' := 3) rfl rfl (w0 hw) (n := 2) (by decide) (cap := 2) (by decide) (by decide) (vs0 := [.int 0, .int 0]) rfl (ce' := 1) rfl (sl' := 2) rfl (by decide) (by decide) ?_
  intro b1
  refine s_astoreN K d1_3 (pc' := 4) rfl rfl (Ls' := #[.val (.ref nb), .val (.int 2), .val (.ref b1), .unset, .unset, .unset, .unset]) rfl ?_
  refine s_aloadN K d1_4 (pc' := 5) rfl rfl rfl ?_
  refine s_astoreN K d1_5 (pc' := 6) rfl rfl (Ls' := #[.val (.ref nb), .val (.int 2), .val (.ref b1), .val (.ref nb), .unset, .unset, .unset]) rfl ?_
  refine s_aloadN K d1_6 (pc' := 7) rfl rfl rfl ?_
  refine s_len K d1_7 (pc' := 8) rfl (k := 1) rfl (z := Int32.ofNat nums.length) (congrArg Int32.ofNat own_len) ?_
  refine s_istore K d1_8 (pc' := 10) rfl (Ls' := #[.val (.ref nb), .val (.int 2), .val (.ref b1), .val (.ref nb), .val (.int (Int32.ofNat nums.length)), .unset, .unset]) rfl ?_
  refine s_iconst K d1_10 (pc' := 11) rfl (z := (0 : Int32)) rfl ?_
  refine s_istore K d1_11 (pc' := 13) rfl (Ls' := #[.val (.ref nb), .val (.int 2), .val (.ref b1), .val (.ref nb), .val (.int (Int32.ofNat nums.length)), .val (.int 0), .unset]) rfl ?_
  obtain ⟨s0, s1, hs0, hs1, hS⟩ := own_sizes2 hg
  exact loop1 hw F b1 nb 2 nums hn (by decide) hg K (fun s6 => Go.conv (by rw [hS]) (mid2 hw F b1 nb nums hn hg s0 s1 hs0 hs1 hS K s6)) nums.length 0 .unset (Or.inl rfl) (Nat.zero_add _)
set_option maxRecDepth 65536 in
set_option maxHeartbeats 400000000 in
theorem mid3 {l : Launch} {Z : State} {a0 : Array Value} (hw : HW Z a0) {n0 : Nat} (F : Wd) (sz nb : Addr) (nums : List Nat) (hn : nums.length ≤ 5) (hg : own_good 3 nums) (s0 s1 s2 : Nat) (hs0 : s0 ≤ 5) (hs1 : s1 ≤ 5) (hs2 : s2 ≤ 5) (hS : own_s1 3 nums nums.length = [s0, s1, s2]) {κ : Ctx} (K : Ok Z κ "com/example/evenkeel/evenkeel/RunTable" prog_95_method_11_code 7 (some (.array (.array .int))) "itemsByNumber") (s6 : Slot) :
    Go l Z n0 ({ frames := 0, cells := 6, slots := 28, locals := 0 } : Room) (fun v L' => ∃ it as sz, as.length = 3 ∧ v = some (.ref it) ∧ L' = ((sz, .inr (.int, own_ints (own_s1 3 nums nums.length))) :: (it, .inr (.array .int, own_refs as)) :: (nb, .inr (.int, own_ints nums)) :: (own_rows as (own_rs 3 nums nums.length) ++ F))) κ 1 3 ((sz, .inr (.int, own_ints [s0, s1, s2])) :: (nb, .inr (.int, own_ints nums)) :: F) 40 #[.val (.ref nb), .val (.int (Int32.ofNat 3)), .val (.ref sz), .val (.ref nb), .val (.int (Int32.ofNat nums.length)), .val (.int (Int32.ofNat nums.length)), s6] [] := by
  refine s_iloadN K d1_40 (pc' := 41) rfl rfl ?_
  refine s_anewarr K d1_41 (pc' := 44) rfl (ty := .int) rfl (w5 hw) (w6 hw) (n := 3) (by decide) (cap := 3) (by decide) (by decide) (vs0 := [.null, .null, .null]) rfl (ce' := 2) rfl (sl' := 6) rfl (by decide) (by decide) ?_
  intro b1
  refine s_astoreN K d1_44 (pc' := 45) rfl rfl (Ls' := #[.val (.ref nb), .val (.int 3), .val (.ref sz), .val (.ref b1), .val (.int (Int32.ofNat nums.length)), .val (.int (Int32.ofNat nums.length)), s6]) rfl ?_
  refine s_iconst K d1_45 (pc' := 46) rfl (z := (0 : Int32)) rfl ?_
  refine s_istore K d1_46 (pc' := 48) rfl (Ls' := #[.val (.ref nb), .val (.int 3), .val (.ref sz), .val (.ref b1), .val (.int 0), .val (.int (Int32.ofNat nums.length)), s6]) rfl ?_
  refine s_iload K d1_48 (pc' := 50) rfl rfl ?_
  refine s_iloadN K d1_50 (pc' := 51) rfl rfl ?_
  refine s_icN K d1_51 (pc' := 54) rfl rfl ?_
  refine s_aloadN K d1_54 (pc' := 55) rfl rfl rfl ?_
  refine s_iload K d1_55 (pc' := 57) rfl rfl ?_
  refine s_aloadN K d1_57 (pc' := 58) rfl rfl rfl ?_
  refine s_iload K d1_58 (pc' := 60) rfl rfl ?_
  refine s_iaload K d1_60 (pc' := 61) rfl (k := 1) rfl (i := 0) (by decide) rfl ?_
  refine s_newarr K d1_61 (pc' := 63) rfl rfl (w0 hw) (n := s0) (Ix.ofNat (by omega)) (cap := 5) (by omega) (by decide) (vs0 := own_ints (List.replicate s0 0)) own_rep (ce' := 3) rfl (sl' := 11) rfl (by decide) (by decide) ?_
  intro b2
  refine s_aastore K d1_63 (pc' := 64) rfl (w6 hw) (k := 1) rfl (k2 := 0) rfl (i := 0) (by decide) (ltB rfl) (L' := ((b2, .inr (.int, own_ints (List.replicate s0 0))) :: (b1, .inr ((.array .int), [.ref b2, .null, .null])) :: (sz, .inr (.int, [.int (Int32.ofNat s0), .int (Int32.ofNat s1), .int (Int32.ofNat s2)])) :: (nb, .inr (.int, own_ints nums)) :: F)) rfl ?_
  refine s_aloadN K d1_64 (pc' := 65) rfl rfl rfl ?_
  refine s_iload K d1_65 (pc' := 67) rfl rfl ?_
  refine s_iconst K d1_67 (pc' := 68) rfl (z := (0 : Int32)) rfl ?_
  refine s_iastore K d1_68 (pc' := 69) rfl (k := 2) rfl (i := 0) (by decide) (ltB rfl) (L' := ((b2, .inr (.int, own_ints (List.replicate s0 0))) :: (b1, .inr ((.array .int), [.ref b2, .null, .null])) :: (sz, .inr (.int, [.int 0, .int (Int32.ofNat s1), .int (Int32.ofNat s2)])) :: (nb, .inr (.int, own_ints nums)) :: F)) rfl ?_
  refine s_iinc K d1_69 (pc' := 72) rfl rfl (z := (1 : Int32)) rfl (Ls' := #[.val (.ref nb), .val (.int 3), .val (.ref sz), .val (.ref b1), .val (.int 1), .val (.int (Int32.ofNat nums.length)), s6]) rfl ?_
  refine s_goto K d1_72 (by decide) (pc' := 48) (by decide) ?_
  refine s_iload K d1_48 (pc' := 50) rfl rfl ?_
  refine s_iloadN K d1_50 (pc' := 51) rfl rfl ?_
  refine s_icN K d1_51 (pc' := 54) rfl rfl ?_
  refine s_aloadN K d1_54 (pc' := 55) rfl rfl rfl ?_
  refine s_iload K d1_55 (pc' := 57) rfl rfl ?_
  refine s_aloadN K d1_57 (pc' := 58) rfl rfl rfl ?_
  refine s_iload K d1_58 (pc' := 60) rfl rfl ?_
  refine s_iaload K d1_60 (pc' := 61) rfl (k := 2) rfl (i := 1) (by decide) rfl ?_
  refine s_newarr K d1_61 (pc' := 63) rfl rfl (w0 hw) (n := s1) (Ix.ofNat (by omega)) (cap := 5) (by omega) (by decide) (vs0 := own_ints (List.replicate s1 0)) own_rep (ce' := 4) rfl (sl' := 16) rfl (by decide) (by decide) ?_
  intro b3
  refine s_aastore K d1_63 (pc' := 64) rfl (w6 hw) (k := 2) rfl (k2 := 0) rfl (i := 1) (by decide) (ltB rfl) (L' := ((b3, .inr (.int, own_ints (List.replicate s1 0))) :: (b2, .inr (.int, own_ints (List.replicate s0 0))) :: (b1, .inr ((.array .int), [.ref b2, .ref b3, .null])) :: (sz, .inr (.int, [.int 0, .int (Int32.ofNat s1), .int (Int32.ofNat s2)])) :: (nb, .inr (.int, own_ints nums)) :: F)) rfl ?_
  refine s_aloadN K d1_64 (pc' := 65) rfl rfl rfl ?_
  refine s_iload K d1_65 (pc' := 67) rfl rfl ?_
  refine s_iconst K d1_67 (pc' := 68) rfl (z := (0 : Int32)) rfl ?_
  refine s_iastore K d1_68 (pc' := 69) rfl (k := 3) rfl (i := 1) (by decide) (ltB rfl) (L' := ((b3, .inr (.int, own_ints (List.replicate s1 0))) :: (b2, .inr (.int, own_ints (List.replicate s0 0))) :: (b1, .inr ((.array .int), [.ref b2, .ref b3, .null])) :: (sz, .inr (.int, [.int 0, .int 0, .int (Int32.ofNat s2)])) :: (nb, .inr (.int, own_ints nums)) :: F)) rfl ?_
  refine s_iinc K d1_69 (pc' := 72) rfl rfl (z := (2 : Int32)) rfl (Ls' := #[.val (.ref nb), .val (.int 3), .val (.ref sz), .val (.ref b1), .val (.int 2), .val (.int (Int32.ofNat nums.length)), s6]) rfl ?_
  refine s_goto K d1_72 (by decide) (pc' := 48) (by decide) ?_
  refine s_iload K d1_48 (pc' := 50) rfl rfl ?_
  refine s_iloadN K d1_50 (pc' := 51) rfl rfl ?_
  refine s_icN K d1_51 (pc' := 54) rfl rfl ?_
  refine s_aloadN K d1_54 (pc' := 55) rfl rfl rfl ?_
  refine s_iload K d1_55 (pc' := 57) rfl rfl ?_
  refine s_aloadN K d1_57 (pc' := 58) rfl rfl rfl ?_
  refine s_iload K d1_58 (pc' := 60) rfl rfl ?_
  refine s_iaload K d1_60 (pc' := 61) rfl (k := 3) rfl (i := 2) (by decide) rfl ?_
  refine s_newarr K d1_61 (pc' := 63) rfl rfl (w0 hw) (n := s2) (Ix.ofNat (by omega)) (cap := 5) (by omega) (by decide) (vs0 := own_ints (List.replicate s2 0)) own_rep (ce' := 5) rfl (sl' := 21) rfl (by decide) (by decide) ?_
  intro b4
  refine s_aastore K d1_63 (pc' := 64) rfl (w6 hw) (k := 3) rfl (k2 := 0) rfl (i := 2) (by decide) (ltB rfl) (L' := ((b4, .inr (.int, own_ints (List.replicate s2 0))) :: (b3, .inr (.int, own_ints (List.replicate s1 0))) :: (b2, .inr (.int, own_ints (List.replicate s0 0))) :: (b1, .inr ((.array .int), [.ref b2, .ref b3, .ref b4])) :: (sz, .inr (.int, [.int 0, .int 0, .int (Int32.ofNat s2)])) :: (nb, .inr (.int, own_ints nums)) :: F)) rfl ?_
  refine s_aloadN K d1_64 (pc' := 65) rfl rfl rfl ?_
  refine s_iload K d1_65 (pc' := 67) rfl rfl ?_
  refine s_iconst K d1_67 (pc' := 68) rfl (z := (0 : Int32)) rfl ?_
  refine s_iastore K d1_68 (pc' := 69) rfl (k := 4) rfl (i := 2) (by decide) (ltB rfl) (L' := ((b4, .inr (.int, own_ints (List.replicate s2 0))) :: (b3, .inr (.int, own_ints (List.replicate s1 0))) :: (b2, .inr (.int, own_ints (List.replicate s0 0))) :: (b1, .inr ((.array .int), [.ref b2, .ref b3, .ref b4])) :: (sz, .inr (.int, [.int 0, .int 0, .int 0])) :: (nb, .inr (.int, own_ints nums)) :: F)) rfl ?_
  refine s_iinc K d1_69 (pc' := 72) rfl rfl (z := (3 : Int32)) rfl (Ls' := #[.val (.ref nb), .val (.int 3), .val (.ref sz), .val (.ref b1), .val (.int 3), .val (.int (Int32.ofNat nums.length)), s6]) rfl ?_
  refine s_goto K d1_72 (by decide) (pc' := 48) (by decide) ?_
  refine s_iload K d1_48 (pc' := 50) rfl rfl ?_
  refine s_iloadN K d1_50 (pc' := 51) rfl rfl ?_
  refine s_icY K d1_51 rfl (by decide) (pc' := 75) (by decide) ?_
  refine s_iconst K d1_75 (pc' := 76) rfl (z := (0 : Int32)) rfl ?_
  refine s_istore K d1_76 (pc' := 78) rfl (Ls' := #[.val (.ref nb), .val (.int 3), .val (.ref sz), .val (.ref b1), .val (.int 0), .val (.int (Int32.ofNat nums.length)), s6]) rfl ?_
  refine s_front (k := 1) rfl (L' := ((b3, .inr (.int, own_ints (List.replicate s1 0))) :: (b4, .inr (.int, own_ints (List.replicate s2 0))) :: (b2, .inr (.int, own_ints (List.replicate s0 0))) :: (b1, .inr ((.array .int), [.ref b2, .ref b3, .ref b4])) :: (sz, .inr (.int, [.int 0, .int 0, .int 0])) :: (nb, .inr (.int, own_ints nums)) :: F)) rfl ?_
  refine s_front (k := 2) rfl (L' := ((b2, .inr (.int, own_ints (List.replicate s0 0))) :: (b3, .inr (.int, own_ints (List.replicate s1 0))) :: (b4, .inr (.int, own_ints (List.replicate s2 0))) :: (b1, .inr ((.array .int), [.ref b2, .ref b3, .ref b4])) :: (sz, .inr (.int, [.int 0, .int 0, .int 0])) :: (nb, .inr (.int, own_ints nums)) :: F)) rfl ?_
  refine s_front (k := 5) rfl (L' := ((nb, .inr (.int, own_ints nums)) :: (b2, .inr (.int, own_ints (List.replicate s0 0))) :: (b3, .inr (.int, own_ints (List.replicate s1 0))) :: (b4, .inr (.int, own_ints (List.replicate s2 0))) :: (b1, .inr ((.array .int), [.ref b2, .ref b3, .ref b4])) :: (sz, .inr (.int, [.int 0, .int 0, .int 0])) :: F)) rfl ?_
  refine s_front (k := 4) rfl (L' := ((b1, .inr ((.array .int), [.ref b2, .ref b3, .ref b4])) :: (nb, .inr (.int, own_ints nums)) :: (b2, .inr (.int, own_ints (List.replicate s0 0))) :: (b3, .inr (.int, own_ints (List.replicate s1 0))) :: (b4, .inr (.int, own_ints (List.replicate s2 0))) :: (sz, .inr (.int, [.int 0, .int 0, .int 0])) :: F)) rfl ?_
  refine s_front (k := 5) rfl (L' := ((sz, .inr (.int, [.int 0, .int 0, .int 0])) :: (b1, .inr ((.array .int), [.ref b2, .ref b3, .ref b4])) :: (nb, .inr (.int, own_ints nums)) :: (b2, .inr (.int, own_ints (List.replicate s0 0))) :: (b3, .inr (.int, own_ints (List.replicate s1 0))) :: (b4, .inr (.int, own_ints (List.replicate s2 0))) :: F)) rfl ?_
  have e0 : own_rs 3 nums 0 = [List.replicate s0 0, List.replicate s1 0, List.replicate s2 0] := by rw [own_rs0, hS]; rfl
  have z : Go l Z n0 ({ frames := 0, cells := 6, slots := 28, locals := 0 } : Room) (fun v L' => ∃ it as sz, as.length = 3 ∧ v = some (.ref it) ∧ L' = ((sz, .inr (.int, own_ints (own_s1 3 nums nums.length))) :: (it, .inr (.array .int, own_refs as)) :: (nb, .inr (.int, own_ints nums)) :: (own_rows as (own_rs 3 nums nums.length) ++ F))) κ 5 21 ((sz, .inr (.int, own_ints (own_s1 3 nums 0))) :: (b1, .inr (.array .int, own_refs [b2, b3, b4])) :: (nb, .inr (.int, own_ints nums)) :: (own_rows [b2, b3, b4] (own_rs 3 nums 0) ++ F)) 78 #[.val (.ref nb), .val (.int (Int32.ofNat 3)), .val (.ref sz), .val (.ref b1), .val (.int (Int32.ofNat 0)), .val (.int (Int32.ofNat nums.length)), s6] [] := loop3 hw F sz b1 nb [b2, b3, b4] 3 nums hn (by decide) rfl hg K (by decide) (by decide) s6 ⟨b1, [b2, b3, b4], sz, rfl, rfl, rfl⟩ nums.length 0 (Int32.ofNat nums.length) (Nat.zero_add _)
  rw [e0] at z
  exact z
set_option maxRecDepth 65536 in
set_option maxHeartbeats 400000000 in
theorem c_items3 {l : Launch} {Z : State} {a0 : Array Value} (hw : HW Z a0) {n0 : Nat} (F : Wd) (nb : Addr) (nums : List Nat) (hn : nums.length ≤ 5) (hg : own_good 3 nums) :
    Con l Z n0 (⟨"com/example/evenkeel/evenkeel/RunTable", "itemsByNumber", "([II)[[I"⟩ : MethodName) prog_95_method_11_code 7 (some (.array (.array .int))) ({ frames := 0, cells := 6, slots := 28, locals := 0 } : Room) [.ref nb, .int (Int32.ofNat 3)] ((nb, .inr (.int, own_ints nums)) :: F) (fun v L' => ∃ it as sz, as.length = 3 ∧ v = some (.ref it) ∧ L' = ((sz, .inr (.int, own_ints (own_s1 3 nums nums.length))) :: (it, .inr (.array .int, own_refs as)) :: (nb, .inr (.int, own_ints nums)) :: (own_rows as (own_rs 3 nums nums.length) ++ F))) := by
  refine Con.of (by decide +kernel) (Ls := #[.val (.ref nb), .val (.int (Int32.ofNat 3)), .unset, .unset, .unset, .unset, .unset]) (fun m => by first | rfl | (simp [entryFrame, mkF, argsToLocals, Value.category]; done)) ?_
  intro κ K
  refine s_iloadN K d1_0 (pc' := 1) rfl rfl ?_
  refine s_newarr K d1_1 (pc' := 3) rfl rfl (w0 hw) (n := 3) (by decide) (cap := 3) (by decide) (by decide) (vs0 := [.int 0, .int 0, .int 0]) rfl (ce' := 1) rfl (sl' := 3) rfl (by decide) (by decide) ?_
  intro b1
  refine s_astoreN K d1_3 (pc' := 4) rfl rfl (Ls' := #[.val (.ref nb), .val (.int 3), .val (.ref b1), .unset, .unset, .unset, .unset]) rfl ?_
  refine s_aloadN K d1_4 (pc' := 5) rfl rfl rfl ?_
  refine s_astoreN K d1_5 (pc' := 6) rfl rfl (Ls' := #[.val (.ref nb), .val (.int 3), .val (.ref b1), .val (.ref nb), .unset, .unset, .unset]) rfl ?_
  refine s_aloadN K d1_6 (pc' := 7) rfl rfl rfl ?_
  refine s_len K d1_7 (pc' := 8) rfl (k := 1) rfl (z := Int32.ofNat nums.length) (congrArg Int32.ofNat own_len) ?_
  refine s_istore K d1_8 (pc' := 10) rfl (Ls' := #[.val (.ref nb), .val (.int 3), .val (.ref b1), .val (.ref nb), .val (.int (Int32.ofNat nums.length)), .unset, .unset]) rfl ?_
  refine s_iconst K d1_10 (pc' := 11) rfl (z := (0 : Int32)) rfl ?_
  refine s_istore K d1_11 (pc' := 13) rfl (Ls' := #[.val (.ref nb), .val (.int 3), .val (.ref b1), .val (.ref nb), .val (.int (Int32.ofNat nums.length)), .val (.int 0), .unset]) rfl ?_
  obtain ⟨s0, s1, s2, hs0, hs1, hs2, hS⟩ := own_sizes3 hg
  exact loop1 hw F b1 nb 3 nums hn (by decide) hg K (fun s6 => Go.conv (by rw [hS]) (mid3 hw F b1 nb nums hn hg s0 s1 s2 hs0 hs1 hs2 hS K s6)) nums.length 0 .unset (Or.inl rfl) (Nat.zero_add _)
set_option maxRecDepth 65536 in
set_option maxHeartbeats 400000000 in
theorem mid4 {l : Launch} {Z : State} {a0 : Array Value} (hw : HW Z a0) {n0 : Nat} (F : Wd) (sz nb : Addr) (nums : List Nat) (hn : nums.length ≤ 5) (hg : own_good 4 nums) (s0 s1 s2 s3 : Nat) (hs0 : s0 ≤ 5) (hs1 : s1 ≤ 5) (hs2 : s2 ≤ 5) (hs3 : s3 ≤ 5) (hS : own_s1 4 nums nums.length = [s0, s1, s2, s3]) {κ : Ctx} (K : Ok Z κ "com/example/evenkeel/evenkeel/RunTable" prog_95_method_11_code 7 (some (.array (.array .int))) "itemsByNumber") (s6 : Slot) :
    Go l Z n0 ({ frames := 0, cells := 6, slots := 28, locals := 0 } : Room) (fun v L' => ∃ it as sz, as.length = 4 ∧ v = some (.ref it) ∧ L' = ((sz, .inr (.int, own_ints (own_s1 4 nums nums.length))) :: (it, .inr (.array .int, own_refs as)) :: (nb, .inr (.int, own_ints nums)) :: (own_rows as (own_rs 4 nums nums.length) ++ F))) κ 1 4 ((sz, .inr (.int, own_ints [s0, s1, s2, s3])) :: (nb, .inr (.int, own_ints nums)) :: F) 40 #[.val (.ref nb), .val (.int (Int32.ofNat 4)), .val (.ref sz), .val (.ref nb), .val (.int (Int32.ofNat nums.length)), .val (.int (Int32.ofNat nums.length)), s6] [] := by
  refine s_iloadN K d1_40 (pc' := 41) rfl rfl ?_
  refine s_anewarr K d1_41 (pc' := 44) rfl (ty := .int) rfl (w5 hw) (w6 hw) (n := 4) (by decide) (cap := 4) (by decide) (by decide) (vs0 := [.null, .null, .null, .null]) rfl (ce' := 2) rfl (sl' := 8) rfl (by decide) (by decide) ?_
  intro b1
  refine s_astoreN K d1_44 (pc' := 45) rfl rfl (Ls' := #[.val (.ref nb), .val (.int 4), .val (.ref sz), .val (.ref b1), .val (.int (Int32.ofNat nums.length)), .val (.int (Int32.ofNat nums.length)), s6]) rfl ?_
  refine s_iconst K d1_45 (pc' := 46) rfl (z := (0 : Int32)) rfl ?_
  refine s_istore K d1_46 (pc' := 48) rfl (Ls' := #[.val (.ref nb), .val (.int 4), .val (.ref sz), .val (.ref b1), .val (.int 0), .val (.int (Int32.ofNat nums.length)), s6]) rfl ?_
  refine s_iload K d1_48 (pc' := 50) rfl rfl ?_
  refine s_iloadN K d1_50 (pc' := 51) rfl rfl ?_
  refine s_icN K d1_51 (pc' := 54) rfl rfl ?_
  refine s_aloadN K d1_54 (pc' := 55) rfl rfl rfl ?_
  refine s_iload K d1_55 (pc' := 57) rfl rfl ?_
  refine s_aloadN K d1_57 (pc' := 58) rfl rfl rfl ?_
  refine s_iload K d1_58 (pc' := 60) rfl rfl ?_
  refine s_iaload K d1_60 (pc' := 61) rfl (k := 1) rfl (i := 0) (by decide) rfl ?_
  refine s_newarr K d1_61 (pc' := 63) rfl rfl (w0 hw) (n := s0) (Ix.ofNat (by omega)) (cap := 5) (by omega) (by decide) (vs0 := own_ints (List.replicate s0 0)) own_rep (ce' := 3) rfl (sl' := 13) rfl (by decide) (by decide) ?_
  intro b2
  refine s_aastore K d1_63 (pc' := 64) rfl (w6 hw) (k := 1) rfl (k2 := 0) rfl (i := 0) (by decide) (ltB rfl) (L' := ((b2, .inr (.int, own_ints (List.replicate s0 0))) :: (b1, .inr ((.array .int), [.ref b2, .null, .null, .null])) :: (sz, .inr (.int, [.int (Int32.ofNat s0), .int (Int32.ofNat s1), .int (Int32.ofNat s2), .int (Int32.ofNat s3)])) :: (nb, .inr (.int, own_ints nums)) :: F)) rfl ?_
  refine s_aloadN K d1_64 (pc' := 65) rfl rfl rfl ?_
  refine s_iload K d1_65 (pc' := 67) rfl rfl ?_
  refine s_iconst K d1_67 (pc' := 68) rfl (z := (0 : Int32)) rfl ?_
  refine s_iastore K d1_68 (pc' := 69) rfl (k := 2) rfl (i := 0) (by decide) (ltB rfl) (L' := ((b2, .inr (.int, own_ints (List.replicate s0 0))) :: (b1, .inr ((.array .int), [.ref b2, .null, .null, .null])) :: (sz, .inr (.int, [.int 0, .int (Int32.ofNat s1), .int (Int32.ofNat s2), .int (Int32.ofNat s3)])) :: (nb, .inr (.int, own_ints nums)) :: F)) rfl ?_
  refine s_iinc K d1_69 (pc' := 72) rfl rfl (z := (1 : Int32)) rfl (Ls' := #[.val (.ref nb), .val (.int 4), .val (.ref sz), .val (.ref b1), .val (.int 1), .val (.int (Int32.ofNat nums.length)), s6]) rfl ?_
  refine s_goto K d1_72 (by decide) (pc' := 48) (by decide) ?_
  refine s_iload K d1_48 (pc' := 50) rfl rfl ?_
  refine s_iloadN K d1_50 (pc' := 51) rfl rfl ?_
  refine s_icN K d1_51 (pc' := 54) rfl rfl ?_
  refine s_aloadN K d1_54 (pc' := 55) rfl rfl rfl ?_
  refine s_iload K d1_55 (pc' := 57) rfl rfl ?_
  refine s_aloadN K d1_57 (pc' := 58) rfl rfl rfl ?_
  refine s_iload K d1_58 (pc' := 60) rfl rfl ?_
  refine s_iaload K d1_60 (pc' := 61) rfl (k := 2) rfl (i := 1) (by decide) rfl ?_
  refine s_newarr K d1_61 (pc' := 63) rfl rfl (w0 hw) (n := s1) (Ix.ofNat (by omega)) (cap := 5) (by omega) (by decide) (vs0 := own_ints (List.replicate s1 0)) own_rep (ce' := 4) rfl (sl' := 18) rfl (by decide) (by decide) ?_
  intro b3
  refine s_aastore K d1_63 (pc' := 64) rfl (w6 hw) (k := 2) rfl (k2 := 0) rfl (i := 1) (by decide) (ltB rfl) (L' := ((b3, .inr (.int, own_ints (List.replicate s1 0))) :: (b2, .inr (.int, own_ints (List.replicate s0 0))) :: (b1, .inr ((.array .int), [.ref b2, .ref b3, .null, .null])) :: (sz, .inr (.int, [.int 0, .int (Int32.ofNat s1), .int (Int32.ofNat s2), .int (Int32.ofNat s3)])) :: (nb, .inr (.int, own_ints nums)) :: F)) rfl ?_
  refine s_aloadN K d1_64 (pc' := 65) rfl rfl rfl ?_
  refine s_iload K d1_65 (pc' := 67) rfl rfl ?_
  refine s_iconst K d1_67 (pc' := 68) rfl (z := (0 : Int32)) rfl ?_
  refine s_iastore K d1_68 (pc' := 69) rfl (k := 3) rfl (i := 1) (by decide) (ltB rfl) (L' := ((b3, .inr (.int, own_ints (List.replicate s1 0))) :: (b2, .inr (.int, own_ints (List.replicate s0 0))) :: (b1, .inr ((.array .int), [.ref b2, .ref b3, .null, .null])) :: (sz, .inr (.int, [.int 0, .int 0, .int (Int32.ofNat s2), .int (Int32.ofNat s3)])) :: (nb, .inr (.int, own_ints nums)) :: F)) rfl ?_
  refine s_iinc K d1_69 (pc' := 72) rfl rfl (z := (2 : Int32)) rfl (Ls' := #[.val (.ref nb), .val (.int 4), .val (.ref sz), .val (.ref b1), .val (.int 2), .val (.int (Int32.ofNat nums.length)), s6]) rfl ?_
  refine s_goto K d1_72 (by decide) (pc' := 48) (by decide) ?_
  refine s_iload K d1_48 (pc' := 50) rfl rfl ?_
  refine s_iloadN K d1_50 (pc' := 51) rfl rfl ?_
  refine s_icN K d1_51 (pc' := 54) rfl rfl ?_
  refine s_aloadN K d1_54 (pc' := 55) rfl rfl rfl ?_
  refine s_iload K d1_55 (pc' := 57) rfl rfl ?_
  refine s_aloadN K d1_57 (pc' := 58) rfl rfl rfl ?_
  refine s_iload K d1_58 (pc' := 60) rfl rfl ?_
  refine s_iaload K d1_60 (pc' := 61) rfl (k := 3) rfl (i := 2) (by decide) rfl ?_
  refine s_newarr K d1_61 (pc' := 63) rfl rfl (w0 hw) (n := s2) (Ix.ofNat (by omega)) (cap := 5) (by omega) (by decide) (vs0 := own_ints (List.replicate s2 0)) own_rep (ce' := 5) rfl (sl' := 23) rfl (by decide) (by decide) ?_
  intro b4
  refine s_aastore K d1_63 (pc' := 64) rfl (w6 hw) (k := 3) rfl (k2 := 0) rfl (i := 2) (by decide) (ltB rfl) (L' := ((b4, .inr (.int, own_ints (List.replicate s2 0))) :: (b3, .inr (.int, own_ints (List.replicate s1 0))) :: (b2, .inr (.int, own_ints (List.replicate s0 0))) :: (b1, .inr ((.array .int), [.ref b2, .ref b3, .ref b4, .null])) :: (sz, .inr (.int, [.int 0, .int 0, .int (Int32.ofNat s2), .int (Int32.ofNat s3)])) :: (nb, .inr (.int, own_ints nums)) :: F)) rfl ?_
  refine s_aloadN K d1_64 (pc' := 65) rfl rfl rfl ?_
  refine s_iload K d1_65 (pc' := 67) rfl rfl ?_
  refine s_iconst K d1_67 (pc' := 68) rfl (z := (0 : Int32)) rfl ?_
  refine s_iastore K d1_68 (pc' := 69) rfl (k := 4) rfl (i := 2) (by decide) (ltB rfl) (L' := ((b4, .inr (.int, own_ints (List.replicate s2 0))) :: (b3, .inr (.int, own_ints (List.replicate s1 0))) :: (b2, .inr (.int, own_ints (List.replicate s0 0))) :: (b1, .inr ((.array .int), [.ref b2, .ref b3, .ref b4, .null])) :: (sz, .inr (.int, [.int 0, .int 0, .int 0, .int (Int32.ofNat s3)])) :: (nb, .inr (.int, own_ints nums)) :: F)) rfl ?_
  refine s_iinc K d1_69 (pc' := 72) rfl rfl (z := (3 : Int32)) rfl (Ls' := #[.val (.ref nb), .val (.int 4), .val (.ref sz), .val (.ref b1), .val (.int 3), .val (.int (Int32.ofNat nums.length)), s6]) rfl ?_
  refine s_goto K d1_72 (by decide) (pc' := 48) (by decide) ?_
  refine s_iload K d1_48 (pc' := 50) rfl rfl ?_
  refine s_iloadN K d1_50 (pc' := 51) rfl rfl ?_
  refine s_icN K d1_51 (pc' := 54) rfl rfl ?_
  refine s_aloadN K d1_54 (pc' := 55) rfl rfl rfl ?_
  refine s_iload K d1_55 (pc' := 57) rfl rfl ?_
  refine s_aloadN K d1_57 (pc' := 58) rfl rfl rfl ?_
  refine s_iload K d1_58 (pc' := 60) rfl rfl ?_
  refine s_iaload K d1_60 (pc' := 61) rfl (k := 4) rfl (i := 3) (by decide) rfl ?_
  refine s_newarr K d1_61 (pc' := 63) rfl rfl (w0 hw) (n := s3) (Ix.ofNat (by omega)) (cap := 5) (by omega) (by decide) (vs0 := own_ints (List.replicate s3 0)) own_rep (ce' := 6) rfl (sl' := 28) rfl (by decide) (by decide) ?_
  intro b5
  refine s_aastore K d1_63 (pc' := 64) rfl (w6 hw) (k := 4) rfl (k2 := 0) rfl (i := 3) (by decide) (ltB rfl) (L' := ((b5, .inr (.int, own_ints (List.replicate s3 0))) :: (b4, .inr (.int, own_ints (List.replicate s2 0))) :: (b3, .inr (.int, own_ints (List.replicate s1 0))) :: (b2, .inr (.int, own_ints (List.replicate s0 0))) :: (b1, .inr ((.array .int), [.ref b2, .ref b3, .ref b4, .ref b5])) :: (sz, .inr (.int, [.int 0, .int 0, .int 0, .int (Int32.ofNat s3)])) :: (nb, .inr (.int, own_ints nums)) :: F)) rfl ?_
  refine s_aloadN K d1_64 (pc' := 65) rfl rfl rfl ?_
  refine s_iload K d1_65 (pc' := 67) rfl rfl ?_
  refine s_iconst K d1_67 (pc' := 68) rfl (z := (0 : Int32)) rfl ?_
  refine s_iastore K d1_68 (pc' := 69) rfl (k := 5) rfl (i := 3) (by decide) (ltB rfl) (L' := ((b5, .inr (.int, own_ints (List.replicate s3 0))) :: (b4, .inr (.int, own_ints (List.replicate s2 0))) :: (b3, .inr (.int, own_ints (List.replicate s1 0))) :: (b2, .inr (.int, own_ints (List.replicate s0 0))) :: (b1, .inr ((.array .int), [.ref b2, .ref b3, .ref b4, .ref b5])) :: (sz, .inr (.int, [.int 0, .int 0, .int 0, .int 0])) :: (nb, .inr (.int, own_ints nums)) :: F)) rfl ?_
  refine s_iinc K d1_69 (pc' := 72) rfl rfl (z := (4 : Int32)) rfl (Ls' := #[.val (.ref nb), .val (.int 4), .val (.ref sz), .val (.ref b1), .val (.int 4), .val (.int (Int32.ofNat nums.length)), s6]) rfl ?_
  refine s_goto K d1_72 (by decide) (pc' := 48) (by decide) ?_
  refine s_iload K d1_48 (pc' := 50) rfl rfl ?_
  refine s_iloadN K d1_50 (pc' := 51) rfl rfl ?_
  refine s_icY K d1_51 rfl (by decide) (pc' := 75) (by decide) ?_
  refine s_iconst K d1_75 (pc' := 76) rfl (z := (0 : Int32)) rfl ?_
  refine s_istore K d1_76 (pc' := 78) rfl (Ls' := #[.val (.ref nb), .val (.int 4), .val (.ref sz), .val (.ref b1), .val (.int 0), .val (.int (Int32.ofNat nums.length)), s6]) rfl ?_
  refine s_front (k := 1) rfl (L' := ((b4, .inr (.int, own_ints (List.replicate s2 0))) :: (b5, .inr (.int, own_ints (List.replicate s3 0))) :: (b3, .inr (.int, own_ints (List.replicate s1 0))) :: (b2, .inr (.int, own_ints (List.replicate s0 0))) :: (b1, .inr ((.array .int), [.ref b2, .ref b3, .ref b4, .ref b5])) :: (sz, .inr (.int, [.int 0, .int 0, .int 0, .int 0])) :: (nb, .inr (.int, own_ints nums)) :: F)) rfl ?_
  refine s_front (k := 2) rfl (L' := ((b3, .inr (.int, own_ints (List.replicate s1 0))) :: (b4, .inr (.int, own_ints (List.replicate s2 0))) :: (b5, .inr (.int, own_ints (List.replicate s3 0))) :: (b2, .inr (.int, own_ints (List.replicate s0 0))) :: (b1, .inr ((.array .int), [.ref b2, .ref b3, .ref b4, .ref b5])) :: (sz, .inr (.int, [.int 0, .int 0, .int 0, .int 0])) :: (nb, .inr (.int, own_ints nums)) :: F)) rfl ?_
  refine s_front (k := 3) rfl (L' := ((b2, .inr (.int, own_ints (List.replicate s0 0))) :: (b3, .inr (.int, own_ints (List.replicate s1 0))) :: (b4, .inr (.int, own_ints (List.replicate s2 0))) :: (b5, .inr (.int, own_ints (List.replicate s3 0))) :: (b1, .inr ((.array .int), [.ref b2, .ref b3, .ref b4, .ref b5])) :: (sz, .inr (.int, [.int 0, .int 0, .int 0, .int 0])) :: (nb, .inr (.int, own_ints nums)) :: F)) rfl ?_
  refine s_front (k := 6) rfl (L' := ((nb, .inr (.int, own_ints nums)) :: (b2, .inr (.int, own_ints (List.replicate s0 0))) :: (b3, .inr (.int, own_ints (List.replicate s1 0))) :: (b4, .inr (.int, own_ints (List.replicate s2 0))) :: (b5, .inr (.int, own_ints (List.replicate s3 0))) :: (b1, .inr ((.array .int), [.ref b2, .ref b3, .ref b4, .ref b5])) :: (sz, .inr (.int, [.int 0, .int 0, .int 0, .int 0])) :: F)) rfl ?_
  refine s_front (k := 5) rfl (L' := ((b1, .inr ((.array .int), [.ref b2, .ref b3, .ref b4, .ref b5])) :: (nb, .inr (.int, own_ints nums)) :: (b2, .inr (.int, own_ints (List.replicate s0 0))) :: (b3, .inr (.int, own_ints (List.replicate s1 0))) :: (b4, .inr (.int, own_ints (List.replicate s2 0))) :: (b5, .inr (.int, own_ints (List.replicate s3 0))) :: (sz, .inr (.int, [.int 0, .int 0, .int 0, .int 0])) :: F)) rfl ?_
  refine s_front (k := 6) rfl (L' := ((sz, .inr (.int, [.int 0, .int 0, .int 0, .int 0])) :: (b1, .inr ((.array .int), [.ref b2, .ref b3, .ref b4, .ref b5])) :: (nb, .inr (.int, own_ints nums)) :: (b2, .inr (.int, own_ints (List.replicate s0 0))) :: (b3, .inr (.int, own_ints (List.replicate s1 0))) :: (b4, .inr (.int, own_ints (List.replicate s2 0))) :: (b5, .inr (.int, own_ints (List.replicate s3 0))) :: F)) rfl ?_
  have e0 : own_rs 4 nums 0 = [List.replicate s0 0, List.replicate s1 0, List.replicate s2 0, List.replicate s3 0] := by rw [own_rs0, hS]; rfl
  have z : Go l Z n0 ({ frames := 0, cells := 6, slots := 28, locals := 0 } : Room) (fun v L' => ∃ it as sz, as.length = 4 ∧ v = some (.ref it) ∧ L' = ((sz, .inr (.int, own_ints (own_s1 4 nums nums.length))) :: (it, .inr (.array .int, own_refs as)) :: (nb, .inr (.int, own_ints nums)) :: (own_rows as (own_rs 4 nums nums.length) ++ F))) κ 6 28 ((sz, .inr (.int, own_ints (own_s1 4 nums 0))) :: (b1, .inr (.array .int, own_refs [b2, b3, b4, b5])) :: (nb, .inr (.int, own_ints nums)) :: (own_rows [b2, b3, b4, b5] (own_rs 4 nums 0) ++ F)) 78 #[.val (.ref nb), .val (.int (Int32.ofNat 4)), .val (.ref sz), .val (.ref b1), .val (.int (Int32.ofNat 0)), .val (.int (Int32.ofNat nums.length)), s6] [] := loop3 hw F sz b1 nb [b2, b3, b4, b5] 4 nums hn (by decide) rfl hg K (by decide) (by decide) s6 ⟨b1, [b2, b3, b4, b5], sz, rfl, rfl, rfl⟩ nums.length 0 (Int32.ofNat nums.length) (Nat.zero_add _)
  rw [e0] at z
  exact z
set_option maxRecDepth 65536 in
set_option maxHeartbeats 400000000 in
theorem c_items4 {l : Launch} {Z : State} {a0 : Array Value} (hw : HW Z a0) {n0 : Nat} (F : Wd) (nb : Addr) (nums : List Nat) (hn : nums.length ≤ 5) (hg : own_good 4 nums) :
    Con l Z n0 (⟨"com/example/evenkeel/evenkeel/RunTable", "itemsByNumber", "([II)[[I"⟩ : MethodName) prog_95_method_11_code 7 (some (.array (.array .int))) ({ frames := 0, cells := 6, slots := 28, locals := 0 } : Room) [.ref nb, .int (Int32.ofNat 4)] ((nb, .inr (.int, own_ints nums)) :: F) (fun v L' => ∃ it as sz, as.length = 4 ∧ v = some (.ref it) ∧ L' = ((sz, .inr (.int, own_ints (own_s1 4 nums nums.length))) :: (it, .inr (.array .int, own_refs as)) :: (nb, .inr (.int, own_ints nums)) :: (own_rows as (own_rs 4 nums nums.length) ++ F))) := by
  refine Con.of (by decide +kernel) (Ls := #[.val (.ref nb), .val (.int (Int32.ofNat 4)), .unset, .unset, .unset, .unset, .unset]) (fun m => by first | rfl | (simp [entryFrame, mkF, argsToLocals, Value.category]; done)) ?_
  intro κ K
  refine s_iloadN K d1_0 (pc' := 1) rfl rfl ?_
  refine s_newarr K d1_1 (pc' := 3) rfl rfl (w0 hw) (n := 4) (by decide) (cap := 4) (by decide) (by decide) (vs0 := [.int 0, .int 0, .int 0, .int 0]) rfl (ce' := 1) rfl (sl' := 4) rfl (by decide) (by decide) ?_
  intro b1
  refine s_astoreN K d1_3 (pc' := 4) rfl rfl (Ls' := #[.val (.ref nb), .val (.int 4), .val (.ref b1), .unset, .unset, .unset, .unset]) rfl ?_
  refine s_aloadN K d1_4 (pc' := 5) rfl rfl rfl ?_
  refine s_astoreN K d1_5 (pc' := 6) rfl rfl (Ls' := #[.val (.ref nb), .val (.int 4), .val (.ref b1), .val (.ref nb), .unset, .unset, .unset]) rfl ?_
  refine s_aloadN K d1_6 (pc' := 7) rfl rfl rfl ?_
  refine s_len K d1_7 (pc' := 8) rfl (k := 1) rfl (z := Int32.ofNat nums.length) (congrArg Int32.ofNat own_len) ?_
  refine s_istore K d1_8 (pc' := 10) rfl (Ls' := #[.val (.ref nb), .val (.int 4), .val (.ref b1), .val (.ref nb), .val (.int (Int32.ofNat nums.length)), .unset, .unset]) rfl ?_
  refine s_iconst K d1_10 (pc' := 11) rfl (z := (0 : Int32)) rfl ?_
  refine s_istore K d1_11 (pc' := 13) rfl (Ls' := #[.val (.ref nb), .val (.int 4), .val (.ref b1), .val (.ref nb), .val (.int (Int32.ofNat nums.length)), .val (.int 0), .unset]) rfl ?_
  obtain ⟨s0, s1, s2, s3, hs0, hs1, hs2, hs3, hS⟩ := own_sizes4 hg
  exact loop1 hw F b1 nb 4 nums hn (by decide) hg K (fun s6 => Go.conv (by rw [hS]) (mid4 hw F b1 nb nums hn hg s0 s1 s2 s3 hs0 hs1 hs2 hs3 hS K s6)) nums.length 0 .unset (Or.inl rfl) (Nat.zero_add _)
theorem c_items {l : Launch} {Z : State} {a0 : Array Value} (hw : HW Z a0) {n0 : Nat} (F : Wd) (nb : Addr) (c : Nat) (nums : List Nat) (hc : c ≤ 4) (hn : nums.length ≤ 5) (hg : own_good c nums) : Con l Z n0 (⟨"com/example/evenkeel/evenkeel/RunTable", "itemsByNumber", "([II)[[I"⟩ : MethodName) prog_95_method_11_code 7 (some (.array (.array .int))) ({ frames := 0, cells := 6, slots := 28, locals := 0 } : Room) [.ref nb, .int (Int32.ofNat c)] ((nb, .inr (.int, own_ints nums)) :: F) (fun v L' => ∃ it as sz, as.length = c ∧ v = some (.ref it) ∧ L' = ((sz, .inr (.int, own_ints (own_s1 c nums nums.length))) :: (it, .inr (.array .int, own_refs as)) :: (nb, .inr (.int, own_ints nums)) :: (own_rows as (own_rs c nums nums.length) ++ F))) := by
  match c, hc with
  | 0, _ => exact c_items0 hw F nb nums hn hg
  | 1, _ => exact c_items1 hw F nb nums hn hg
  | 2, _ => exact c_items2 hw F nb nums hn hg
  | 3, _ => exact c_items3 hw F nb nums hn hg
  | 4, _ => exact c_items4 hw F nb nums hn hg
set_option maxRecDepth 65536 in
set_option maxHeartbeats 400000000 in
theorem c_hit {l : Launch} {Z : State} {a0 : Array Value} (hw : HW Z a0) {n0 : Nat} (F : Wd) (nm : Addr) (num : List Nat) (h5 : own_five num) (len i n : Nat) (hl : len ≤ 5) (hi : i < 5) (hn : n < 5) :
    Con l Z n0 (⟨"com/example/evenkeel/evenkeel/RunTableItemsByNumberPinLaw", "hit", "([IIII)I"⟩ : MethodName) method_3_code 4 (some .int) ({ frames := 0, cells := 0, slots := 0, locals := 0 } : Room) [.ref nm, .int (Int32.ofNat len), .int (Int32.ofNat i), .int (Int32.ofNat n)] ((nm, .inr (.int, own_ints num)) :: F) (fun v L' => v = some (.int (Int32.ofNat (own_hit num len i n))) ∧ L' = ((nm, .inr (.int, own_ints num)) :: F)) := by
  refine Con.of (by decide +kernel) (Ls := #[.val (.ref nm), .val (.int (Int32.ofNat len)), .val (.int (Int32.ofNat i)), .val (.int (Int32.ofNat n))]) (fun m => by first | rfl | (simp [entryFrame, mkF, argsToLocals, Value.category]; done)) ?_
  intro κ K
  refine s_iloadN K d5_0 (pc' := 1) rfl rfl ?_
  refine s_iloadN K d5_1 (pc' := 2) rfl rfl ?_
  refine s_ic K d5_2 (pn := 5) rfl (by decide) (pc' := 16) (by decide) (fun h => ?_) (fun h => ?_)
  · refine s_iconst K d5_16 (pc' := 17) rfl (z := (0 : Int32)) rfl ?_
    exact s_ireturn K d5_17 (by decide) (by decide) ⟨by rw [own_hit0 (own_geY (by omega) (by omega) h)]; rfl, rfl⟩
  · have q := own_geN (by omega) (by omega) h
    have r := h5.2 i
    refine s_aloadN K d5_5 (pc' := 6) rfl rfl rfl ?_
    refine s_iloadN K d5_6 (pc' := 7) rfl rfl ?_
    refine s_iaload K d5_7 (pc' := 8) rfl (k := 0) rfl (i := i) (Ix.ofNat (by omega)) (own_get (by rw [h5.1]; exact hi)) ?_
    refine s_iloadN K d5_8 (pc' := 9) rfl rfl ?_
    refine s_ic K d5_9 (pn := 12) rfl (by decide) (pc' := 16) (by decide) (fun h2 => ?_) (fun h2 => ?_)
    · refine s_iconst K d5_16 (pc' := 17) rfl (z := (0 : Int32)) rfl ?_
      exact s_ireturn K d5_17 (by decide) (by decide) ⟨by rw [own_hit1 (own_neY (by omega) (by omega) h2)]; rfl, rfl⟩
    · refine s_iconst K d5_12 (pc' := 13) rfl (z := (1 : Int32)) rfl ?_
      refine s_goto K d5_13 (by decide) (pc' := 17) (by decide) ?_
      exact s_ireturn K d5_17 (by decide) (by decide) ⟨by rw [own_hit2 q (own_neN (by omega) (by omega) h2)]; rfl, rfl⟩
set_option maxRecDepth 65536 in
set_option maxHeartbeats 400000000 in
theorem c_size {l : Launch} {Z : State} {a0 : Array Value} (hw : HW Z a0) {n0 : Nat} (F : Wd) (nm : Addr) (num : List Nat) (h5 : own_five num) (len n : Nat) (hl : len ≤ 5) (hn : n < 5) :
    Con l Z n0 (⟨"com/example/evenkeel/evenkeel/RunTableItemsByNumberPinLaw", "size", "([III)I"⟩ : MethodName) method_4_code 3 (some .int) ({ frames := 1, cells := 0, slots := 0, locals := 20 } : Room) [.ref nm, .int (Int32.ofNat len), .int (Int32.ofNat n)] ((nm, .inr (.int, own_ints num)) :: F) (fun v L' => v = some (.int (Int32.ofNat (own_size num len n))) ∧ L' = ((nm, .inr (.int, own_ints num)) :: F)) := by
  refine Con.of (by decide +kernel) (Ls := #[.val (.ref nm), .val (.int (Int32.ofNat len)), .val (.int (Int32.ofNat n))]) (fun m => by first | rfl | (simp [entryFrame, mkF, argsToLocals, Value.category]; done)) ?_
  intro κ K
  refine s_aloadN K d4_0 (pc' := 1) rfl rfl rfl ?_
  refine s_iloadN K d4_1 (pc' := 2) rfl rfl ?_
  refine s_iconst K d4_2 (pc' := 3) rfl (z := (0 : Int32)) rfl ?_
  refine s_iloadN K d4_3 (pc' := 4) rfl rfl ?_
  refine s_static K d4_4 (pc' := 7) rfl (as := [.ref nm, .int (Int32.ofNat len), .int 0, .int (Int32.ofNat n)]) (c_hit hw F nm num h5 len 0 n hl (by decide) hn) (w19 hw) (w20 hw) (w9 hw) (w21 hw) (by decide) pd_0 rfl (rest := []) rfl rfl (W := 0) (Nat.le_of_eq rfl) (by decide) (by decide) (ce' := 0) rfl (sl' := 0) rfl (by decide) (by decide) ?_
  rintro v _ ⟨rfl, rfl⟩
  show Go l Z n0 _ _ κ 0 0 ((nm, .inr (.int, own_ints num)) :: F) 7 #[.val (.ref nm), .val (.int (Int32.ofNat len)), .val (.int (Int32.ofNat n))] [.int (Int32.ofNat (own_hit num len 0 n))]
  refine s_aloadN K d4_7 (pc' := 8) rfl rfl rfl ?_
  refine s_iloadN K d4_8 (pc' := 9) rfl rfl ?_
  refine s_iconst K d4_9 (pc' := 10) rfl (z := (1 : Int32)) rfl ?_
  refine s_iloadN K d4_10 (pc' := 11) rfl rfl ?_
  refine s_static K d4_11 (pc' := 14) rfl (as := [.ref nm, .int (Int32.ofNat len), .int 1, .int (Int32.ofNat n)]) (c_hit hw F nm num h5 len 1 n hl (by decide) hn) (w19 hw) (w20 hw) (w9 hw) (w21 hw) (by decide) pd_0 rfl (rest := [.int (Int32.ofNat (own_hit num len 0 n))]) rfl rfl (W := 1) (Nat.le_of_eq rfl) (by decide) (by decide) (ce' := 0) rfl (sl' := 0) rfl (by decide) (by decide) ?_
  rintro v _ ⟨rfl, rfl⟩
  show Go l Z n0 _ _ κ 0 0 ((nm, .inr (.int, own_ints num)) :: F) 14 #[.val (.ref nm), .val (.int (Int32.ofNat len)), .val (.int (Int32.ofNat n))] [.int (Int32.ofNat (own_hit num len 1 n)), .int (Int32.ofNat (own_hit num len 0 n))]
  refine s_iadd K d4_14 (pc' := 15) rfl (z := Int32.ofNat (own_hit num len 0 n + own_hit num len 1 n)) (Int32.ofNat_add _ _).symm ?_
  refine s_aloadN K d4_15 (pc' := 16) rfl rfl rfl ?_
  refine s_iloadN K d4_16 (pc' := 17) rfl rfl ?_
  refine s_iconst K d4_17 (pc' := 18) rfl (z := (2 : Int32)) rfl ?_
  refine s_iloadN K d4_18 (pc' := 19) rfl rfl ?_
  refine s_static K d4_19 (pc' := 22) rfl (as := [.ref nm, .int (Int32.ofNat len), .int 2, .int (Int32.ofNat n)]) (c_hit hw F nm num h5 len 2 n hl (by decide) hn) (w19 hw) (w20 hw) (w9 hw) (w21 hw) (by decide) pd_0 rfl (rest := [.int (Int32.ofNat (own_hit num len 0 n + own_hit num len 1 n))]) rfl rfl (W := 1) (Nat.le_of_eq rfl) (by decide) (by decide) (ce' := 0) rfl (sl' := 0) rfl (by decide) (by decide) ?_
  rintro v _ ⟨rfl, rfl⟩
  show Go l Z n0 _ _ κ 0 0 ((nm, .inr (.int, own_ints num)) :: F) 22 #[.val (.ref nm), .val (.int (Int32.ofNat len)), .val (.int (Int32.ofNat n))] [.int (Int32.ofNat (own_hit num len 2 n)), .int (Int32.ofNat (own_hit num len 0 n + own_hit num len 1 n))]
  refine s_iadd K d4_22 (pc' := 23) rfl (z := Int32.ofNat ((own_hit num len 0 n + own_hit num len 1 n) + own_hit num len 2 n)) (Int32.ofNat_add _ _).symm ?_
  refine s_aloadN K d4_23 (pc' := 24) rfl rfl rfl ?_
  refine s_iloadN K d4_24 (pc' := 25) rfl rfl ?_
  refine s_iconst K d4_25 (pc' := 26) rfl (z := (3 : Int32)) rfl ?_
  refine s_iloadN K d4_26 (pc' := 27) rfl rfl ?_
  refine s_static K d4_27 (pc' := 30) rfl (as := [.ref nm, .int (Int32.ofNat len), .int 3, .int (Int32.ofNat n)]) (c_hit hw F nm num h5 len 3 n hl (by decide) hn) (w19 hw) (w20 hw) (w9 hw) (w21 hw) (by decide) pd_0 rfl (rest := [.int (Int32.ofNat ((own_hit num len 0 n + own_hit num len 1 n) + own_hit num len 2 n))]) rfl rfl (W := 1) (Nat.le_of_eq rfl) (by decide) (by decide) (ce' := 0) rfl (sl' := 0) rfl (by decide) (by decide) ?_
  rintro v _ ⟨rfl, rfl⟩
  show Go l Z n0 _ _ κ 0 0 ((nm, .inr (.int, own_ints num)) :: F) 30 #[.val (.ref nm), .val (.int (Int32.ofNat len)), .val (.int (Int32.ofNat n))] [.int (Int32.ofNat (own_hit num len 3 n)), .int (Int32.ofNat ((own_hit num len 0 n + own_hit num len 1 n) + own_hit num len 2 n))]
  refine s_iadd K d4_30 (pc' := 31) rfl (z := Int32.ofNat (((own_hit num len 0 n + own_hit num len 1 n) + own_hit num len 2 n) + own_hit num len 3 n)) (Int32.ofNat_add _ _).symm ?_
  refine s_aloadN K d4_31 (pc' := 32) rfl rfl rfl ?_
  refine s_iloadN K d4_32 (pc' := 33) rfl rfl ?_
  refine s_iconst K d4_33 (pc' := 34) rfl (z := (4 : Int32)) rfl ?_
  refine s_iloadN K d4_34 (pc' := 35) rfl rfl ?_
  refine s_static K d4_35 (pc' := 38) rfl (as := [.ref nm, .int (Int32.ofNat len), .int 4, .int (Int32.ofNat n)]) (c_hit hw F nm num h5 len 4 n hl (by decide) hn) (w19 hw) (w20 hw) (w9 hw) (w21 hw) (by decide) pd_0 rfl (rest := [.int (Int32.ofNat (((own_hit num len 0 n + own_hit num len 1 n) + own_hit num len 2 n) + own_hit num len 3 n))]) rfl rfl (W := 1) (Nat.le_of_eq rfl) (by decide) (by decide) (ce' := 0) rfl (sl' := 0) rfl (by decide) (by decide) ?_
  rintro v _ ⟨rfl, rfl⟩
  show Go l Z n0 _ _ κ 0 0 ((nm, .inr (.int, own_ints num)) :: F) 38 #[.val (.ref nm), .val (.int (Int32.ofNat len)), .val (.int (Int32.ofNat n))] [.int (Int32.ofNat (own_hit num len 4 n)), .int (Int32.ofNat (((own_hit num len 0 n + own_hit num len 1 n) + own_hit num len 2 n) + own_hit num len 3 n))]
  refine s_iadd K d4_38 (pc' := 39) rfl (z := Int32.ofNat ((((own_hit num len 0 n + own_hit num len 1 n) + own_hit num len 2 n) + own_hit num len 3 n) + own_hit num len 4 n)) (Int32.ofNat_add _ _).symm ?_
  exact s_ireturn K d4_39 (by decide) (by decide) ⟨rfl, rfl⟩
set_option maxRecDepth 65536 in
set_option maxHeartbeats 400000000 in
theorem c_before {l : Launch} {Z : State} {a0 : Array Value} (hw : HW Z a0) {n0 : Nat} (F : Wd) (nm : Addr) (num : List Nat) (h5 : own_five num) (i j : Nat) (hi : i < 5) (hj : j < 5) :
    Con l Z n0 (⟨"com/example/evenkeel/evenkeel/RunTableItemsByNumberPinLaw", "before", "([III)I"⟩ : MethodName) method_6_code 3 (some .int) ({ frames := 0, cells := 0, slots := 0, locals := 0 } : Room) [.ref nm, .int (Int32.ofNat i), .int (Int32.ofNat j)] ((nm, .inr (.int, own_ints num)) :: F) (fun v L' => v = some (.int (Int32.ofNat (own_bef num i j))) ∧ L' = ((nm, .inr (.int, own_ints num)) :: F)) := by
  refine Con.of (by decide +kernel) (Ls := #[.val (.ref nm), .val (.int (Int32.ofNat i)), .val (.int (Int32.ofNat j))]) (fun m => by first | rfl | (simp [entryFrame, mkF, argsToLocals, Value.category]; done)) ?_
  intro κ K
  refine s_iloadN K d7_0 (pc' := 1) rfl rfl ?_
  refine s_iloadN K d7_1 (pc' := 2) rfl rfl ?_
  refine s_ic K d7_2 (pn := 5) rfl (by decide) (pc' := 18) (by decide) (fun h => ?_) (fun h => ?_)
  · refine s_iconst K d7_18 (pc' := 19) rfl (z := (0 : Int32)) rfl ?_
    exact s_ireturn K d7_19 (by decide) (by decide) ⟨by rw [own_bef0 (own_geY (by omega) (by omega) h)]; rfl, rfl⟩
  · have q := own_geN (by omega) (by omega) h
    have r := h5.2 i
    have r2 := h5.2 j
    refine s_aloadN K d7_5 (pc' := 6) rfl rfl rfl ?_
    refine s_iloadN K d7_6 (pc' := 7) rfl rfl ?_
    refine s_iaload K d7_7 (pc' := 8) rfl (k := 0) rfl (i := j) (Ix.ofNat (by omega)) (own_get (by rw [h5.1]; exact hj)) ?_
    refine s_aloadN K d7_8 (pc' := 9) rfl rfl rfl ?_
    refine s_iloadN K d7_9 (pc' := 10) rfl rfl ?_
    refine s_iaload K d7_10 (pc' := 11) rfl (k := 0) rfl (i := i) (Ix.ofNat (by omega)) (own_get (by rw [h5.1]; exact hi)) ?_
    refine s_ic K d7_11 (pn := 14) rfl (by decide) (pc' := 18) (by decide) (fun h2 => ?_) (fun h2 => ?_)
    · refine s_iconst K d7_18 (pc' := 19) rfl (z := (0 : Int32)) rfl ?_
      exact s_ireturn K d7_19 (by decide) (by decide) ⟨by rw [own_bef1 (own_neY (by omega) (by omega) h2)]; rfl, rfl⟩
    · refine s_iconst K d7_14 (pc' := 15) rfl (z := (1 : Int32)) rfl ?_
      refine s_goto K d7_15 (by decide) (pc' := 19) (by decide) ?_
      exact s_ireturn K d7_19 (by decide) (by decide) ⟨by rw [own_bef2 q (own_neN (by omega) (by omega) h2)]; rfl, rfl⟩
set_option maxRecDepth 65536 in
set_option maxHeartbeats 400000000 in
theorem c_rank {l : Launch} {Z : State} {a0 : Array Value} (hw : HW Z a0) {n0 : Nat} (F : Wd) (nm : Addr) (num : List Nat) (h5 : own_five num) (i : Nat) (hi : i < 5) :
    Con l Z n0 (⟨"com/example/evenkeel/evenkeel/RunTableItemsByNumberPinLaw", "rank", "([II)I"⟩ : MethodName) method_7_code 2 (some .int) ({ frames := 1, cells := 0, slots := 0, locals := 18 } : Room) [.ref nm, .int (Int32.ofNat i)] ((nm, .inr (.int, own_ints num)) :: F) (fun v L' => v = some (.int (Int32.ofNat (own_rank num i))) ∧ L' = ((nm, .inr (.int, own_ints num)) :: F)) := by
  refine Con.of (by decide +kernel) (Ls := #[.val (.ref nm), .val (.int (Int32.ofNat i))]) (fun m => by first | rfl | (simp [entryFrame, mkF, argsToLocals, Value.category]; done)) ?_
  intro κ K
  refine s_aloadN K d6_0 (pc' := 1) rfl rfl rfl ?_
  refine s_iloadN K d6_1 (pc' := 2) rfl rfl ?_
  refine s_iconst K d6_2 (pc' := 3) rfl (z := (0 : Int32)) rfl ?_
  refine s_static K d6_3 (pc' := 6) rfl (as := [.ref nm, .int (Int32.ofNat i), .int 0]) (c_before hw F nm num h5 i 0 hi (by decide)) (w25 hw) (w26 hw) (w9 hw) (w27 hw) (by decide) pd_1 rfl (rest := []) rfl rfl (W := 0) (Nat.le_of_eq rfl) (by decide) (by decide) (ce' := 0) rfl (sl' := 0) rfl (by decide) (by decide) ?_
  rintro v _ ⟨rfl, rfl⟩
  show Go l Z n0 _ _ κ 0 0 ((nm, .inr (.int, own_ints num)) :: F) 6 #[.val (.ref nm), .val (.int (Int32.ofNat i))] [.int (Int32.ofNat (own_bef num i 0))]
  refine s_aloadN K d6_6 (pc' := 7) rfl rfl rfl ?_
  refine s_iloadN K d6_7 (pc' := 8) rfl rfl ?_
  refine s_iconst K d6_8 (pc' := 9) rfl (z := (1 : Int32)) rfl ?_
  refine s_static K d6_9 (pc' := 12) rfl (as := [.ref nm, .int (Int32.ofNat i), .int 1]) (c_before hw F nm num h5 i 1 hi (by decide)) (w25 hw) (w26 hw) (w9 hw) (w27 hw) (by decide) pd_1 rfl (rest := [.int (Int32.ofNat (own_bef num i 0))]) rfl rfl (W := 1) (Nat.le_of_eq rfl) (by decide) (by decide) (ce' := 0) rfl (sl' := 0) rfl (by decide) (by decide) ?_
  rintro v _ ⟨rfl, rfl⟩
  show Go l Z n0 _ _ κ 0 0 ((nm, .inr (.int, own_ints num)) :: F) 12 #[.val (.ref nm), .val (.int (Int32.ofNat i))] [.int (Int32.ofNat (own_bef num i 1)), .int (Int32.ofNat (own_bef num i 0))]
  refine s_iadd K d6_12 (pc' := 13) rfl (z := Int32.ofNat (own_bef num i 0 + own_bef num i 1)) (Int32.ofNat_add _ _).symm ?_
  refine s_aloadN K d6_13 (pc' := 14) rfl rfl rfl ?_
  refine s_iloadN K d6_14 (pc' := 15) rfl rfl ?_
  refine s_iconst K d6_15 (pc' := 16) rfl (z := (2 : Int32)) rfl ?_
  refine s_static K d6_16 (pc' := 19) rfl (as := [.ref nm, .int (Int32.ofNat i), .int 2]) (c_before hw F nm num h5 i 2 hi (by decide)) (w25 hw) (w26 hw) (w9 hw) (w27 hw) (by decide) pd_1 rfl (rest := [.int (Int32.ofNat (own_bef num i 0 + own_bef num i 1))]) rfl rfl (W := 1) (Nat.le_of_eq rfl) (by decide) (by decide) (ce' := 0) rfl (sl' := 0) rfl (by decide) (by decide) ?_
  rintro v _ ⟨rfl, rfl⟩
  show Go l Z n0 _ _ κ 0 0 ((nm, .inr (.int, own_ints num)) :: F) 19 #[.val (.ref nm), .val (.int (Int32.ofNat i))] [.int (Int32.ofNat (own_bef num i 2)), .int (Int32.ofNat (own_bef num i 0 + own_bef num i 1))]
  refine s_iadd K d6_19 (pc' := 20) rfl (z := Int32.ofNat ((own_bef num i 0 + own_bef num i 1) + own_bef num i 2)) (Int32.ofNat_add _ _).symm ?_
  refine s_aloadN K d6_20 (pc' := 21) rfl rfl rfl ?_
  refine s_iloadN K d6_21 (pc' := 22) rfl rfl ?_
  refine s_iconst K d6_22 (pc' := 23) rfl (z := (3 : Int32)) rfl ?_
  refine s_static K d6_23 (pc' := 26) rfl (as := [.ref nm, .int (Int32.ofNat i), .int 3]) (c_before hw F nm num h5 i 3 hi (by decide)) (w25 hw) (w26 hw) (w9 hw) (w27 hw) (by decide) pd_1 rfl (rest := [.int (Int32.ofNat ((own_bef num i 0 + own_bef num i 1) + own_bef num i 2))]) rfl rfl (W := 1) (Nat.le_of_eq rfl) (by decide) (by decide) (ce' := 0) rfl (sl' := 0) rfl (by decide) (by decide) ?_
  rintro v _ ⟨rfl, rfl⟩
  show Go l Z n0 _ _ κ 0 0 ((nm, .inr (.int, own_ints num)) :: F) 26 #[.val (.ref nm), .val (.int (Int32.ofNat i))] [.int (Int32.ofNat (own_bef num i 3)), .int (Int32.ofNat ((own_bef num i 0 + own_bef num i 1) + own_bef num i 2))]
  refine s_iadd K d6_26 (pc' := 27) rfl (z := Int32.ofNat (((own_bef num i 0 + own_bef num i 1) + own_bef num i 2) + own_bef num i 3)) (Int32.ofNat_add _ _).symm ?_
  exact s_ireturn K d6_27 (by decide) (by decide) ⟨rfl, rfl⟩
set_option maxRecDepth 65536 in
set_option maxHeartbeats 400000000 in
theorem c_group {l : Launch} {Z : State} {a0 : Array Value} (hw : HW Z a0) {n0 : Nat} (F : Wd) (it nm : Addr) (as : List Addr) (rs : List (List Nat)) (c : Nat) (ha : as.length = c) (hr : rs.length = c) (hc : c ≤ 4) (num : List Nat) (h5 : own_five num) (len n : Nat) (hl : len ≤ 5) (hn : n < 5) (hok : n < c → (rs.getD n []).length = own_size num len n) :
    Con l Z n0 (⟨"com/example/evenkeel/evenkeel/RunTableItemsByNumberPinLaw", "group", "([[I[IIII)Z"⟩ : MethodName) method_5_code 5 (some .boolean) ({ frames := 2, cells := 0, slots := 0, locals := 35 } : Room) [.ref it, .ref nm, .int (Int32.ofNat len), .int (Int32.ofNat c), .int (Int32.ofNat n)] ((it, .inr (.array .int, own_refs as)) :: (nm, .inr (.int, own_ints num)) :: (own_rows as rs ++ F)) (fun v L' => v = some (.int 1) ∧ L' = ((it, .inr (.array .int, own_refs as)) :: (nm, .inr (.int, own_ints num)) :: (own_rows as rs ++ F))) := by
  refine Con.of (by decide +kernel) (Ls := #[.val (.ref it), .val (.ref nm), .val (.int (Int32.ofNat len)), .val (.int (Int32.ofNat c)), .val (.int (Int32.ofNat n))]) (fun m => by first | rfl | (simp [entryFrame, mkF, argsToLocals, Value.category]; done)) ?_
  intro κ K
  refine s_iload K d2_0 (pc' := 2) rfl rfl ?_
  refine s_iloadN K d2_2 (pc' := 3) rfl rfl ?_
  refine s_ic K d2_3 (pn := 6) rfl (by decide) (pc' := 8) (by decide) (fun h => ?_) (fun h => ?_)
  · have q := own_ltY (by omega) (by omega) h
    refine s_aloadN K d2_8 (pc' := 9) rfl rfl rfl ?_
    refine s_iload K d2_9 (pc' := 11) rfl rfl ?_
    refine s_aaload K d2_11 (pc' := 12) rfl (k := 0) rfl rfl (i := n) (Ix.ofNat (by omega)) (own_getr (by omega)) ?_
    refine s_nullN K d2_12 (pc' := 15) rfl ?_
    refine s_aloadN K d2_15 (pc' := 16) rfl rfl rfl ?_
    refine s_iload K d2_16 (pc' := 18) rfl rfl ?_
    refine s_aaload K d2_18 (pc' := 19) rfl (k := 0) rfl rfl (i := n) (Ix.ofNat (by omega)) (own_getr (by omega)) ?_
    refine s_len K d2_19 (pc' := 20) rfl (k := n + 2) (own_rowat2 (by omega) (by omega)) (z := Int32.ofNat ((rs.getD n []).length)) (congrArg Int32.ofNat own_len) ?_
    refine s_aloadN K d2_20 (pc' := 21) rfl rfl rfl ?_
    refine s_iloadN K d2_21 (pc' := 22) rfl rfl ?_
    refine s_iload K d2_22 (pc' := 24) rfl rfl ?_
    refine s_front (k := 1) rfl (L' := ((nm, .inr (.int, own_ints num)) :: (it, .inr (.array .int, own_refs as)) :: (own_rows as rs ++ F))) rfl ?_
    refine s_static K d2_24 (pc' := 27) rfl (as := [.ref nm, .int (Int32.ofNat len), .int (Int32.ofNat n)]) (c_size hw ((it, .inr (.array .int, own_refs as)) :: (own_rows as rs ++ F)) nm num h5 len n hl hn) (w16 hw) (w17 hw) (w9 hw) (w18 hw) (by decide) pd_1 rfl (rest := [.int (Int32.ofNat ((rs.getD n []).length))]) rfl rfl (W := 1) (Nat.le_of_eq rfl) (by decide) (by decide) (ce' := 0) rfl (sl' := 0) rfl (by decide) (by decide) ?_
    rintro v _ ⟨rfl, rfl⟩
    show Go l Z n0 _ _ κ 0 0 ((nm, .inr (.int, own_ints num)) :: (it, .inr (.array .int, own_refs as)) :: (own_rows as rs ++ F)) 27 #[.val (.ref it), .val (.ref nm), .val (.int (Int32.ofNat len)), .val (.int (Int32.ofNat c)), .val (.int (Int32.ofNat n))] [.int (Int32.ofNat (own_size num len n)), .int (Int32.ofNat ((rs.getD n []).length))]
    refine s_icN K d2_27 (pc' := 30) rfl (teq (congrArg Int32.ofNat (hok q))).2 ?_
    refine s_iconst K d2_30 (pc' := 31) rfl (z := (1 : Int32)) rfl ?_
    refine s_goto K d2_31 (by decide) (pc' := 35) (by decide) ?_
    refine s_front (k := 1) rfl (L' := ((it, .inr (.array .int, own_refs as)) :: (nm, .inr (.int, own_ints num)) :: (own_rows as rs ++ F))) rfl ?_
    exact s_zreturn K d2_35 rfl (by decide) (by decide) ⟨rfl, rfl⟩
  · refine s_iconst K d2_6 (pc' := 7) rfl (z := (1 : Int32)) rfl ?_
    exact s_zreturn K d2_7 rfl (by decide) (by decide) ⟨rfl, rfl⟩
set_option maxRecDepth 65536 in
set_option maxHeartbeats 400000000 in
theorem c_item {l : Launch} {Z : State} {a0 : Array Value} (hw : HW Z a0) {n0 : Nat} (F : Wd) (it nm : Addr) (as : List Addr) (rs : List (List Nat)) (c : Nat) (ha : as.length = c) (hr : rs.length = c) (hc : c ≤ 4) (num : List Nat) (h5 : own_five num) (len i : Nat) (hl : len ≤ 5) (hi : i < 5) (hrow : ∀ n, n < c → (rs.getD n []).length ≤ 5) (hok : i < len → num.getD i 0 < c ∧ own_rank num i < (rs.getD (num.getD i 0) []).length ∧ (rs.getD (num.getD i 0) []).getD (own_rank num i) 0 = i) :
    Con l Z n0 (⟨"com/example/evenkeel/evenkeel/RunTableItemsByNumberPinLaw", "item", "([[I[III)Z"⟩ : MethodName) method_8_code 6 (some .boolean) ({ frames := 2, cells := 0, slots := 0, locals := 32 } : Room) [.ref it, .ref nm, .int (Int32.ofNat len), .int (Int32.ofNat i)] ((it, .inr (.array .int, own_refs as)) :: (nm, .inr (.int, own_ints num)) :: (own_rows as rs ++ F)) (fun v L' => v = some (.int 1) ∧ L' = ((it, .inr (.array .int, own_refs as)) :: (nm, .inr (.int, own_ints num)) :: (own_rows as rs ++ F))) := by
  refine Con.of (by decide +kernel) (Ls := #[.val (.ref it), .val (.ref nm), .val (.int (Int32.ofNat len)), .val (.int (Int32.ofNat i)), .unset, .unset]) (fun m => by first | rfl | (simp [entryFrame, mkF, argsToLocals, Value.category]; done)) ?_
  intro κ K
  refine s_iloadN K d3_0 (pc' := 1) rfl rfl ?_
  refine s_iloadN K d3_1 (pc' := 2) rfl rfl ?_
  refine s_ic K d3_2 (pn := 5) rfl (by decide) (pc' := 7) (by decide) (fun h => ?_) (fun h => ?_)
  · have q := own_ltY (by omega) (by omega) h
    obtain ⟨k1, k2, k3⟩ := hok q
    have k4 := hrow (num.getD i 0) k1
    refine s_aloadN K d3_7 (pc' := 8) rfl rfl rfl ?_
    refine s_aloadN K d3_8 (pc' := 9) rfl rfl rfl ?_
    refine s_iloadN K d3_9 (pc' := 10) rfl rfl ?_
    refine s_iaload K d3_10 (pc' := 11) rfl (k := 1) rfl (i := i) (Ix.ofNat (by omega)) (own_get (by rw [h5.1]; exact hi)) ?_
    refine s_aaload K d3_11 (pc' := 12) rfl (k := 0) rfl rfl (i := (num.getD i 0)) (Ix.ofNat (by omega)) (own_getr (by omega)) ?_
    refine s_astore K d3_12 (pc' := 14) rfl rfl (Ls' := #[.val (.ref it), .val (.ref nm), .val (.int (Int32.ofNat len)), .val (.int (Int32.ofNat i)), .val (.ref (as.getD (num.getD i 0) 0)), .unset]) rfl ?_
    refine s_aloadN K d3_14 (pc' := 15) rfl rfl rfl ?_
    refine s_iloadN K d3_15 (pc' := 16) rfl rfl ?_
    refine s_front (k := 1) rfl (L' := ((nm, .inr (.int, own_ints num)) :: (it, .inr (.array .int, own_refs as)) :: (own_rows as rs ++ F))) rfl ?_
    refine s_static K d3_16 (pc' := 19) rfl (as := [.ref nm, .int (Int32.ofNat i)]) (c_rank hw ((it, .inr (.array .int, own_refs as)) :: (own_rows as rs ++ F)) nm num h5 i hi) (w22 hw) (w23 hw) (w9 hw) (w24 hw) (by decide) pd_2 rfl (rest := []) rfl rfl (W := 0) (Nat.le_of_eq rfl) (by decide) (by decide) (ce' := 0) rfl (sl' := 0) rfl (by decide) (by decide) ?_
    rintro v _ ⟨rfl, rfl⟩
    show Go l Z n0 _ _ κ 0 0 ((nm, .inr (.int, own_ints num)) :: (it, .inr (.array .int, own_refs as)) :: (own_rows as rs ++ F)) 19 #[.val (.ref it), .val (.ref nm), .val (.int (Int32.ofNat len)), .val (.int (Int32.ofNat i)), .val (.ref (as.getD (num.getD i 0) 0)), .unset] [.int (Int32.ofNat (own_rank num i))]
    refine s_istore K d3_19 (pc' := 21) rfl (Ls' := #[.val (.ref it), .val (.ref nm), .val (.int (Int32.ofNat len)), .val (.int (Int32.ofNat i)), .val (.ref (as.getD (num.getD i 0) 0)), .val (.int (Int32.ofNat (own_rank num i)))]) rfl ?_
    refine s_aload K d3_21 (pc' := 23) rfl rfl rfl ?_
    refine s_nullN K d3_23 (pc' := 26) rfl ?_
    refine s_iload K d3_26 (pc' := 28) rfl rfl ?_
    refine s_aload K d3_28 (pc' := 30) rfl rfl rfl ?_
    refine s_len K d3_30 (pc' := 31) rfl (k := (num.getD i 0) + 2) (own_rowat2 (by omega) (by omega)) (z := Int32.ofNat ((rs.getD (num.getD i 0) []).length)) (congrArg Int32.ofNat own_len) ?_
    refine s_icN K d3_31 (pc' := 34) rfl (tlt (own_lt k2 (by omega))).2.1 ?_
    refine s_aload K d3_34 (pc' := 36) rfl rfl rfl ?_
    refine s_iload K d3_36 (pc' := 38) rfl rfl ?_
    refine s_iaload K d3_38 (pc' := 39) rfl (k := (num.getD i 0) + 2) (own_rowat2 (by omega) (by omega)) (i := (own_rank num i)) (Ix.ofNat (by omega)) (own_get k2) ?_
    refine s_iloadN K d3_39 (pc' := 40) rfl rfl ?_
    refine s_icN K d3_40 (pc' := 43) rfl (teq (congrArg Int32.ofNat k3)).2 ?_
    refine s_iconst K d3_43 (pc' := 44) rfl (z := (1 : Int32)) rfl ?_
    refine s_goto K d3_44 (by decide) (pc' := 48) (by decide) ?_
    refine s_front (k := 1) rfl (L' := ((it, .inr (.array .int, own_refs as)) :: (nm, .inr (.int, own_ints num)) :: (own_rows as rs ++ F))) rfl ?_
    exact s_zreturn K d3_48 rfl (by decide) (by decide) ⟨rfl, rfl⟩
  · refine s_iconst K d3_5 (pc' := 6) rfl (z := (1 : Int32)) rfl ?_
    exact s_zreturn K d3_6 rfl (by decide) (by decide) ⟨rfl, rfl⟩
set_option maxRecDepth 65536 in
set_option maxHeartbeats 400000000 in
theorem law_end {l : Launch} {Z : State} {a0 : Array Value} (hw : HW Z a0) {n0 : Nat} (F : Wd) (p0 p1 p2 p3 p4 p5 : Int32) (it nm : Addr) (as : List Addr) (rs : List (List Nat)) (c : Nat) (ha : as.length = c) (hr : rs.length = c) (hc : c ≤ 4) (num : List Nat) (h5 : own_five num) (nb : Addr) (len : Nat) (hl : len ≤ 5) (hrow : ∀ n, n < c → (rs.getD n []).length ≤ 5) (hG : ∀ n, n < 5 → n < c → (rs.getD n []).length = own_size num len n) (hI : ∀ i, i < 5 → i < len → num.getD i 0 < c ∧ own_rank num i < (rs.getD (num.getD i 0) []).length ∧ (rs.getD (num.getD i 0) []).getD (own_rank num i) 0 = i) (κ : Ctx) (K : Ok Z κ x.cls code maxLocals ret x.name) :
    Go l Z n0 room_1 (fun v _ => v = some (.int 1)) κ 8 40 ((it, .inr (.array .int, own_refs as)) :: (nm, .inr (.int, own_ints num)) :: (own_rows as rs ++ F)) 177 #[.val (.int p0), .val (.int p1), .val (.int p2), .val (.int p3), .val (.int p4), .val (.int p5), .val (.int (Int32.ofNat c)), .val (.int (Int32.ofNat len)), .val (.ref nm), .val (.ref nb), .unset] [.ref it] := by
  refine s_astore K at_177 (pc' := 179) rfl rfl (Ls' := #[.val (.int p0), .val (.int p1), .val (.int p2), .val (.int p3), .val (.int p4), .val (.int p5), .val (.int (Int32.ofNat c)), .val (.int (Int32.ofNat len)), .val (.ref nm), .val (.ref nb), .val (.ref it)]) rfl ?_
  refine s_aload K at_179 (pc' := 181) rfl rfl rfl ?_
  refine s_nullN K at_181 (pc' := 184) rfl ?_
  refine s_aload K at_184 (pc' := 186) rfl rfl rfl ?_
  refine s_len K at_186 (pc' := 187) rfl (k := 0) rfl (z := Int32.ofNat c) (by rw [own_lenr, ha]) ?_
  refine s_iload K at_187 (pc' := 189) rfl rfl ?_
  refine s_icY K at_189 (teq rfl).1 (by decide) (pc' := 194) (by decide) ?_
  refine s_aload K at_194 (pc' := 196) rfl rfl rfl ?_
  refine s_aload K at_196 (pc' := 198) rfl rfl rfl ?_
  refine s_iload K at_198 (pc' := 200) rfl rfl ?_
  refine s_iload K at_200 (pc' := 202) rfl rfl ?_
  refine s_iconst K at_202 (pc' := 203) rfl (z := (0 : Int32)) rfl ?_
  refine s_static K at_203 (pc' := 206) rfl (as := [.ref it, .ref nm, .int (Int32.ofNat len), .int (Int32.ofNat c), .int 0]) (c_group hw F it nm as rs c ha hr hc num h5 len 0 hl (by decide) (hG 0 (by decide))) (w7 hw) (w8 hw) (w9 hw) (w10 hw) (by decide) pd_3 rfl (rest := []) rfl rfl (W := 0) (Nat.le_of_eq rfl) (by decide) (by decide) (ce' := 8) rfl (sl' := 40) rfl (by decide) (by decide) ?_
  rintro v _ ⟨rfl, rfl⟩
  show Go l Z n0 _ _ κ 8 40 ((it, .inr (.array .int, own_refs as)) :: (nm, .inr (.int, own_ints num)) :: (own_rows as rs ++ F)) 206 #[.val (.int p0), .val (.int p1), .val (.int p2), .val (.int p3), .val (.int p4), .val (.int p5), .val (.int (Int32.ofNat c)), .val (.int (Int32.ofNat len)), .val (.ref nm), .val (.ref nb), .val (.ref it)] [.int 1]
  refine s_ifN K at_206 (pc' := 209) rfl rfl ?_
  refine s_aload K at_209 (pc' := 211) rfl rfl rfl ?_
  refine s_aload K at_211 (pc' := 213) rfl rfl rfl ?_
  refine s_iload K at_213 (pc' := 215) rfl rfl ?_
  refine s_iload K at_215 (pc' := 217) rfl rfl ?_
  refine s_iconst K at_217 (pc' := 218) rfl (z := (1 : Int32)) rfl ?_
  refine s_static K at_218 (pc' := 221) rfl (as := [.ref it, .ref nm, .int (Int32.ofNat len), .int (Int32.ofNat c), .int 1]) (c_group hw F it nm as rs c ha hr hc num h5 len 1 hl (by decide) (hG 1 (by decide))) (w7 hw) (w8 hw) (w9 hw) (w10 hw) (by decide) pd_3 rfl (rest := []) rfl rfl (W := 0) (Nat.le_of_eq rfl) (by decide) (by decide) (ce' := 8) rfl (sl' := 40) rfl (by decide) (by decide) ?_
  rintro v _ ⟨rfl, rfl⟩
  show Go l Z n0 _ _ κ 8 40 ((it, .inr (.array .int, own_refs as)) :: (nm, .inr (.int, own_ints num)) :: (own_rows as rs ++ F)) 221 #[.val (.int p0), .val (.int p1), .val (.int p2), .val (.int p3), .val (.int p4), .val (.int p5), .val (.int (Int32.ofNat c)), .val (.int (Int32.ofNat len)), .val (.ref nm), .val (.ref nb), .val (.ref it)] [.int 1]
  refine s_ifN K at_221 (pc' := 224) rfl rfl ?_
  refine s_aload K at_224 (pc' := 226) rfl rfl rfl ?_
  refine s_aload K at_226 (pc' := 228) rfl rfl rfl ?_
  refine s_iload K at_228 (pc' := 230) rfl rfl ?_
  refine s_iload K at_230 (pc' := 232) rfl rfl ?_
  refine s_iconst K at_232 (pc' := 233) rfl (z := (2 : Int32)) rfl ?_
  refine s_static K at_233 (pc' := 236) rfl (as := [.ref it, .ref nm, .int (Int32.ofNat len), .int (Int32.ofNat c), .int 2]) (c_group hw F it nm as rs c ha hr hc num h5 len 2 hl (by decide) (hG 2 (by decide))) (w7 hw) (w8 hw) (w9 hw) (w10 hw) (by decide) pd_3 rfl (rest := []) rfl rfl (W := 0) (Nat.le_of_eq rfl) (by decide) (by decide) (ce' := 8) rfl (sl' := 40) rfl (by decide) (by decide) ?_
  rintro v _ ⟨rfl, rfl⟩
  show Go l Z n0 _ _ κ 8 40 ((it, .inr (.array .int, own_refs as)) :: (nm, .inr (.int, own_ints num)) :: (own_rows as rs ++ F)) 236 #[.val (.int p0), .val (.int p1), .val (.int p2), .val (.int p3), .val (.int p4), .val (.int p5), .val (.int (Int32.ofNat c)), .val (.int (Int32.ofNat len)), .val (.ref nm), .val (.ref nb), .val (.ref it)] [.int 1]
  refine s_ifN K at_236 (pc' := 239) rfl rfl ?_
  refine s_aload K at_239 (pc' := 241) rfl rfl rfl ?_
  refine s_aload K at_241 (pc' := 243) rfl rfl rfl ?_
  refine s_iload K at_243 (pc' := 245) rfl rfl ?_
  refine s_iload K at_245 (pc' := 247) rfl rfl ?_
  refine s_iconst K at_247 (pc' := 248) rfl (z := (3 : Int32)) rfl ?_
  refine s_static K at_248 (pc' := 251) rfl (as := [.ref it, .ref nm, .int (Int32.ofNat len), .int (Int32.ofNat c), .int 3]) (c_group hw F it nm as rs c ha hr hc num h5 len 3 hl (by decide) (hG 3 (by decide))) (w7 hw) (w8 hw) (w9 hw) (w10 hw) (by decide) pd_3 rfl (rest := []) rfl rfl (W := 0) (Nat.le_of_eq rfl) (by decide) (by decide) (ce' := 8) rfl (sl' := 40) rfl (by decide) (by decide) ?_
  rintro v _ ⟨rfl, rfl⟩
  show Go l Z n0 _ _ κ 8 40 ((it, .inr (.array .int, own_refs as)) :: (nm, .inr (.int, own_ints num)) :: (own_rows as rs ++ F)) 251 #[.val (.int p0), .val (.int p1), .val (.int p2), .val (.int p3), .val (.int p4), .val (.int p5), .val (.int (Int32.ofNat c)), .val (.int (Int32.ofNat len)), .val (.ref nm), .val (.ref nb), .val (.ref it)] [.int 1]
  refine s_ifN K at_251 (pc' := 254) rfl rfl ?_
  refine s_aload K at_254 (pc' := 256) rfl rfl rfl ?_
  refine s_aload K at_256 (pc' := 258) rfl rfl rfl ?_
  refine s_iload K at_258 (pc' := 260) rfl rfl ?_
  refine s_iconst K at_260 (pc' := 261) rfl (z := (0 : Int32)) rfl ?_
  refine s_static K at_261 (pc' := 264) rfl (as := [.ref it, .ref nm, .int (Int32.ofNat len), .int 0]) (c_item hw F it nm as rs c ha hr hc num h5 len 0 hl (by decide) hrow (hI 0 (by decide))) (w11 hw) (w12 hw) (w9 hw) (w13 hw) (by decide) pd_4 rfl (rest := []) rfl rfl (W := 0) (Nat.le_of_eq rfl) (by decide) (by decide) (ce' := 8) rfl (sl' := 40) rfl (by decide) (by decide) ?_
  rintro v _ ⟨rfl, rfl⟩
  show Go l Z n0 _ _ κ 8 40 ((it, .inr (.array .int, own_refs as)) :: (nm, .inr (.int, own_ints num)) :: (own_rows as rs ++ F)) 264 #[.val (.int p0), .val (.int p1), .val (.int p2), .val (.int p3), .val (.int p4), .val (.int p5), .val (.int (Int32.ofNat c)), .val (.int (Int32.ofNat len)), .val (.ref nm), .val (.ref nb), .val (.ref it)] [.int 1]
  refine s_ifN K at_264 (pc' := 267) rfl rfl ?_
  refine s_aload K at_267 (pc' := 269) rfl rfl rfl ?_
  refine s_aload K at_269 (pc' := 271) rfl rfl rfl ?_
  refine s_iload K at_271 (pc' := 273) rfl rfl ?_
  refine s_iconst K at_273 (pc' := 274) rfl (z := (1 : Int32)) rfl ?_
  refine s_static K at_274 (pc' := 277) rfl (as := [.ref it, .ref nm, .int (Int32.ofNat len), .int 1]) (c_item hw F it nm as rs c ha hr hc num h5 len 1 hl (by decide) hrow (hI 1 (by decide))) (w11 hw) (w12 hw) (w9 hw) (w13 hw) (by decide) pd_4 rfl (rest := []) rfl rfl (W := 0) (Nat.le_of_eq rfl) (by decide) (by decide) (ce' := 8) rfl (sl' := 40) rfl (by decide) (by decide) ?_
  rintro v _ ⟨rfl, rfl⟩
  show Go l Z n0 _ _ κ 8 40 ((it, .inr (.array .int, own_refs as)) :: (nm, .inr (.int, own_ints num)) :: (own_rows as rs ++ F)) 277 #[.val (.int p0), .val (.int p1), .val (.int p2), .val (.int p3), .val (.int p4), .val (.int p5), .val (.int (Int32.ofNat c)), .val (.int (Int32.ofNat len)), .val (.ref nm), .val (.ref nb), .val (.ref it)] [.int 1]
  refine s_ifN K at_277 (pc' := 280) rfl rfl ?_
  refine s_aload K at_280 (pc' := 282) rfl rfl rfl ?_
  refine s_aload K at_282 (pc' := 284) rfl rfl rfl ?_
  refine s_iload K at_284 (pc' := 286) rfl rfl ?_
  refine s_iconst K at_286 (pc' := 287) rfl (z := (2 : Int32)) rfl ?_
  refine s_static K at_287 (pc' := 290) rfl (as := [.ref it, .ref nm, .int (Int32.ofNat len), .int 2]) (c_item hw F it nm as rs c ha hr hc num h5 len 2 hl (by decide) hrow (hI 2 (by decide))) (w11 hw) (w12 hw) (w9 hw) (w13 hw) (by decide) pd_4 rfl (rest := []) rfl rfl (W := 0) (Nat.le_of_eq rfl) (by decide) (by decide) (ce' := 8) rfl (sl' := 40) rfl (by decide) (by decide) ?_
  rintro v _ ⟨rfl, rfl⟩
  show Go l Z n0 _ _ κ 8 40 ((it, .inr (.array .int, own_refs as)) :: (nm, .inr (.int, own_ints num)) :: (own_rows as rs ++ F)) 290 #[.val (.int p0), .val (.int p1), .val (.int p2), .val (.int p3), .val (.int p4), .val (.int p5), .val (.int (Int32.ofNat c)), .val (.int (Int32.ofNat len)), .val (.ref nm), .val (.ref nb), .val (.ref it)] [.int 1]
  refine s_ifN K at_290 (pc' := 293) rfl rfl ?_
  refine s_aload K at_293 (pc' := 295) rfl rfl rfl ?_
  refine s_aload K at_295 (pc' := 297) rfl rfl rfl ?_
  refine s_iload K at_297 (pc' := 299) rfl rfl ?_
  refine s_iconst K at_299 (pc' := 300) rfl (z := (3 : Int32)) rfl ?_
  refine s_static K at_300 (pc' := 303) rfl (as := [.ref it, .ref nm, .int (Int32.ofNat len), .int 3]) (c_item hw F it nm as rs c ha hr hc num h5 len 3 hl (by decide) hrow (hI 3 (by decide))) (w11 hw) (w12 hw) (w9 hw) (w13 hw) (by decide) pd_4 rfl (rest := []) rfl rfl (W := 0) (Nat.le_of_eq rfl) (by decide) (by decide) (ce' := 8) rfl (sl' := 40) rfl (by decide) (by decide) ?_
  rintro v _ ⟨rfl, rfl⟩
  show Go l Z n0 _ _ κ 8 40 ((it, .inr (.array .int, own_refs as)) :: (nm, .inr (.int, own_ints num)) :: (own_rows as rs ++ F)) 303 #[.val (.int p0), .val (.int p1), .val (.int p2), .val (.int p3), .val (.int p4), .val (.int p5), .val (.int (Int32.ofNat c)), .val (.int (Int32.ofNat len)), .val (.ref nm), .val (.ref nb), .val (.ref it)] [.int 1]
  refine s_ifN K at_303 (pc' := 306) rfl rfl ?_
  refine s_aload K at_306 (pc' := 308) rfl rfl rfl ?_
  refine s_aload K at_308 (pc' := 310) rfl rfl rfl ?_
  refine s_iload K at_310 (pc' := 312) rfl rfl ?_
  refine s_iconst K at_312 (pc' := 313) rfl (z := (4 : Int32)) rfl ?_
  refine s_static K at_313 (pc' := 316) rfl (as := [.ref it, .ref nm, .int (Int32.ofNat len), .int 4]) (c_item hw F it nm as rs c ha hr hc num h5 len 4 hl (by decide) hrow (hI 4 (by decide))) (w11 hw) (w12 hw) (w9 hw) (w13 hw) (by decide) pd_4 rfl (rest := []) rfl rfl (W := 0) (Nat.le_of_eq rfl) (by decide) (by decide) (ce' := 8) rfl (sl' := 40) rfl (by decide) (by decide) ?_
  rintro v _ ⟨rfl, rfl⟩
  show Go l Z n0 _ _ κ 8 40 ((it, .inr (.array .int, own_refs as)) :: (nm, .inr (.int, own_ints num)) :: (own_rows as rs ++ F)) 316 #[.val (.int p0), .val (.int p1), .val (.int p2), .val (.int p3), .val (.int p4), .val (.int p5), .val (.int (Int32.ofNat c)), .val (.int (Int32.ofNat len)), .val (.ref nm), .val (.ref nb), .val (.ref it)] [.int 1]
  refine s_ifN K at_316 (pc' := 319) rfl rfl ?_
  refine s_iconst K at_319 (pc' := 320) rfl (z := (1 : Int32)) rfl ?_
  refine s_goto K at_320 (by decide) (pc' := 324) (by decide) ?_
  exact s_zreturn K at_324 rfl (by decide) (by decide) rfl
set_option maxRecDepth 65536 in
set_option maxHeartbeats 400000000 in
theorem law_len0 {l : Launch} {Z : State} {a0 : Array Value} (hw : HW Z a0) {n0 : Nat} (p0 p1 p2 p3 p4 p5 : Int32) (nm : Addr) (c m0 m1 m2 m3 m4 : Nat) (hc : c ≤ 4) (h5 : own_five [m0, m1, m2, m3, m4]) (hm : ∀ m ∈ [], m < c) (κ : Ctx) (K : Ok Z κ x.cls code maxLocals ret x.name) :
    Go l Z n0 room_1 (fun v _ => v = some (.int 1)) κ 1 5 [(nm, .inr (.int, own_ints [m0, m1, m2, m3, m4]))] 95 #[.val (.int p0), .val (.int p1), .val (.int p2), .val (.int p3), .val (.int p4), .val (.int p5), .val (.int (Int32.ofNat c)), .val (.int (Int32.ofNat 0)), .val (.ref nm), .unset, .unset] [] := by
  have hf := own_fact (num := [m0, m1, m2, m3, m4]) (len := 0) (nums := []) hc (by decide) rfl rfl hm
  have hg := own_fact_good hf
  refine s_iload K at_95 (pc' := 97) rfl rfl ?_
  refine s_newarr K at_97 (pc' := 99) rfl rfl (w0 hw) (n := 0) (by decide) (cap := 0) (by decide) (by decide) (vs0 := []) rfl (ce' := 2) rfl (sl' := 5) rfl (by decide) (by decide) ?_
  intro b1
  refine s_astore K at_99 (pc' := 101) rfl rfl (Ls' := #[.val (.int p0), .val (.int p1), .val (.int p2), .val (.int p3), .val (.int p4), .val (.int p5), .val (.int (Int32.ofNat c)), .val (.int 0), .val (.ref nm), .val (.ref b1), .unset]) rfl ?_
  refine s_iload K at_101 (pc' := 103) rfl rfl ?_
  refine s_ifY K at_103 rfl (by decide) (pc' := 114) (by decide) ?_
  refine s_iload K at_114 (pc' := 116) rfl rfl ?_
  refine s_iconst K at_116 (pc' := 117) rfl (z := (1 : Int32)) rfl ?_
  refine s_icY K at_117 rfl (by decide) (pc' := 128) (by decide) ?_
  refine s_iload K at_128 (pc' := 130) rfl rfl ?_
  refine s_iconst K at_130 (pc' := 131) rfl (z := (2 : Int32)) rfl ?_
  refine s_icY K at_131 rfl (by decide) (pc' := 142) (by decide) ?_
  refine s_iload K at_142 (pc' := 144) rfl rfl ?_
  refine s_iconst K at_144 (pc' := 145) rfl (z := (3 : Int32)) rfl ?_
  refine s_icY K at_145 rfl (by decide) (pc' := 156) (by decide) ?_
  refine s_iload K at_156 (pc' := 158) rfl rfl ?_
  refine s_iconst K at_158 (pc' := 159) rfl (z := (4 : Int32)) rfl ?_
  refine s_icY K at_159 rfl (by decide) (pc' := 170) (by decide) ?_
  refine s_aload K at_170 (pc' := 172) rfl rfl rfl ?_
  refine s_iload K at_172 (pc' := 174) rfl rfl ?_
  refine s_static K at_174 (pc' := 177) rfl (as := [.ref b1, .int (Int32.ofNat c)]) (c_items hw [(nm, .inr (.int, own_ints [m0, m1, m2, m3, m4]))] b1 c [] hc (Nat.le_of_ble_eq_true rfl) hg) (w1 hw) (w2 hw) (w3 hw) (w4 hw) (by decide) pd_5 rfl (rest := []) rfl rfl (W := 0) (Nat.le_of_eq rfl) (by decide) (by decide) (ce' := 8) rfl (sl' := 33) rfl (by decide) (by decide) ?_
  rintro v _ ⟨it, as, sz, ha, rfl, rfl⟩
  show Go l Z n0 _ _ κ 8 33 ((sz, .inr (.int, own_ints (own_s1 c [] 0))) :: (it, .inr (.array .int, own_refs as)) :: (b1, .inr (.int, own_ints [])) :: (own_rows as (own_rs c [] 0) ++ [(nm, .inr (.int, own_ints [m0, m1, m2, m3, m4]))])) 177 #[.val (.int p0), .val (.int p1), .val (.int p2), .val (.int p3), .val (.int p4), .val (.int p5), .val (.int (Int32.ofNat c)), .val (.int 0), .val (.ref nm), .val (.ref b1), .unset] [.ref it]
  refine s_front (k := as.length + 3) (own_nmat ha (own_rs_len hg)) (L' := ((nm, .inr (.int, own_ints [m0, m1, m2, m3, m4])) :: (sz, .inr (.int, own_ints (own_s1 c [] 0))) :: (it, .inr (.array .int, own_refs as)) :: (b1, .inr (.int, own_ints [])) :: (own_rows as (own_rs c [] 0) ++ []))) (own_nmerase ha (own_rs_len hg)) ?_
  refine s_front (k := 2) rfl (L' := ((it, .inr (.array .int, own_refs as)) :: (nm, .inr (.int, own_ints [m0, m1, m2, m3, m4])) :: (sz, .inr (.int, own_ints (own_s1 c [] 0))) :: (b1, .inr (.int, own_ints [])) :: (own_rows as (own_rs c [] 0) ++ []))) rfl ?_
  refine s_drop (k := 2) (L' := ((it, .inr (.array .int, own_refs as)) :: (nm, .inr (.int, own_ints [m0, m1, m2, m3, m4])) :: (b1, .inr (.int, own_ints [])) :: (own_rows as (own_rs c [] 0) ++ []))) rfl ?_
  refine s_drop (k := 2) (L' := ((it, .inr (.array .int, own_refs as)) :: (nm, .inr (.int, own_ints [m0, m1, m2, m3, m4])) :: (own_rows as (own_rs c [] 0) ++ []))) rfl ?_
  refine Go.more (ce' := 8) (sl' := 40) (by decide) (by decide) ?_
  exact law_end hw _ p0 p1 p2 p3 p4 p5 it nm as (own_rs c [] 0) c ha (own_rs_len hg) hc _ h5 _ 0 (by decide) (own_row5 hg) (own_G hf) (own_I hf) κ K
set_option maxRecDepth 65536 in
set_option maxHeartbeats 400000000 in
theorem law_len1 {l : Launch} {Z : State} {a0 : Array Value} (hw : HW Z a0) {n0 : Nat} (p0 p1 p2 p3 p4 p5 : Int32) (nm : Addr) (c m0 m1 m2 m3 m4 : Nat) (hc : c ≤ 4) (h5 : own_five [m0, m1, m2, m3, m4]) (hm : ∀ m ∈ [m0], m < c) (κ : Ctx) (K : Ok Z κ x.cls code maxLocals ret x.name) :
    Go l Z n0 room_1 (fun v _ => v = some (.int 1)) κ 1 5 [(nm, .inr (.int, own_ints [m0, m1, m2, m3, m4]))] 95 #[.val (.int p0), .val (.int p1), .val (.int p2), .val (.int p3), .val (.int p4), .val (.int p5), .val (.int (Int32.ofNat c)), .val (.int (Int32.ofNat 1)), .val (.ref nm), .unset, .unset] [] := by
  have hf := own_fact (num := [m0, m1, m2, m3, m4]) (len := 1) (nums := [m0]) hc (by decide) rfl rfl hm
  have hg := own_fact_good hf
  refine s_iload K at_95 (pc' := 97) rfl rfl ?_
  refine s_newarr K at_97 (pc' := 99) rfl rfl (w0 hw) (n := 1) (by decide) (cap := 1) (by decide) (by decide) (vs0 := [.int 0]) rfl (ce' := 2) rfl (sl' := 6) rfl (by decide) (by decide) ?_
  intro b1
  refine s_astore K at_99 (pc' := 101) rfl rfl (Ls' := #[.val (.int p0), .val (.int p1), .val (.int p2), .val (.int p3), .val (.int p4), .val (.int p5), .val (.int (Int32.ofNat c)), .val (.int 1), .val (.ref nm), .val (.ref b1), .unset]) rfl ?_
  refine s_iload K at_101 (pc' := 103) rfl rfl ?_
  refine s_ifN K at_103 (pc' := 106) rfl rfl ?_
  refine s_aload K at_106 (pc' := 108) rfl rfl rfl ?_
  refine s_iconst K at_108 (pc' := 109) rfl (z := (0 : Int32)) rfl ?_
  refine s_aload K at_109 (pc' := 111) rfl rfl rfl ?_
  refine s_iconst K at_111 (pc' := 112) rfl (z := (0 : Int32)) rfl ?_
  refine s_iaload K at_112 (pc' := 113) rfl (k := 1) rfl (i := 0) (by decide) rfl ?_
  refine s_iastore K at_113 (pc' := 114) rfl (k := 0) rfl (i := 0) (by decide) (ltB rfl) (L' := [(b1, .inr (.int, [.int (Int32.ofNat m0)])), (nm, .inr (.int, [.int (Int32.ofNat m0), .int (Int32.ofNat m1), .int (Int32.ofNat m2), .int (Int32.ofNat m3), .int (Int32.ofNat m4)]))]) rfl ?_
  refine s_iload K at_114 (pc' := 116) rfl rfl ?_
  refine s_iconst K at_116 (pc' := 117) rfl (z := (1 : Int32)) rfl ?_
  refine s_icY K at_117 rfl (by decide) (pc' := 128) (by decide) ?_
  refine s_iload K at_128 (pc' := 130) rfl rfl ?_
  refine s_iconst K at_130 (pc' := 131) rfl (z := (2 : Int32)) rfl ?_
  refine s_icY K at_131 rfl (by decide) (pc' := 142) (by decide) ?_
  refine s_iload K at_142 (pc' := 144) rfl rfl ?_
  refine s_iconst K at_144 (pc' := 145) rfl (z := (3 : Int32)) rfl ?_
  refine s_icY K at_145 rfl (by decide) (pc' := 156) (by decide) ?_
  refine s_iload K at_156 (pc' := 158) rfl rfl ?_
  refine s_iconst K at_158 (pc' := 159) rfl (z := (4 : Int32)) rfl ?_
  refine s_icY K at_159 rfl (by decide) (pc' := 170) (by decide) ?_
  refine s_aload K at_170 (pc' := 172) rfl rfl rfl ?_
  refine s_iload K at_172 (pc' := 174) rfl rfl ?_
  refine s_static K at_174 (pc' := 177) rfl (as := [.ref b1, .int (Int32.ofNat c)]) (c_items hw [(nm, .inr (.int, own_ints [m0, m1, m2, m3, m4]))] b1 c [m0] hc (Nat.le_of_ble_eq_true rfl) hg) (w1 hw) (w2 hw) (w3 hw) (w4 hw) (by decide) pd_5 rfl (rest := []) rfl rfl (W := 0) (Nat.le_of_eq rfl) (by decide) (by decide) (ce' := 8) rfl (sl' := 34) rfl (by decide) (by decide) ?_
  rintro v _ ⟨it, as, sz, ha, rfl, rfl⟩
  show Go l Z n0 _ _ κ 8 34 ((sz, .inr (.int, own_ints (own_s1 c [m0] 1))) :: (it, .inr (.array .int, own_refs as)) :: (b1, .inr (.int, own_ints [m0])) :: (own_rows as (own_rs c [m0] 1) ++ [(nm, .inr (.int, own_ints [m0, m1, m2, m3, m4]))])) 177 #[.val (.int p0), .val (.int p1), .val (.int p2), .val (.int p3), .val (.int p4), .val (.int p5), .val (.int (Int32.ofNat c)), .val (.int 1), .val (.ref nm), .val (.ref b1), .unset] [.ref it]
  refine s_front (k := as.length + 3) (own_nmat ha (own_rs_len hg)) (L' := ((nm, .inr (.int, own_ints [m0, m1, m2, m3, m4])) :: (sz, .inr (.int, own_ints (own_s1 c [m0] 1))) :: (it, .inr (.array .int, own_refs as)) :: (b1, .inr (.int, own_ints [m0])) :: (own_rows as (own_rs c [m0] 1) ++ []))) (own_nmerase ha (own_rs_len hg)) ?_
  refine s_front (k := 2) rfl (L' := ((it, .inr (.array .int, own_refs as)) :: (nm, .inr (.int, own_ints [m0, m1, m2, m3, m4])) :: (sz, .inr (.int, own_ints (own_s1 c [m0] 1))) :: (b1, .inr (.int, own_ints [m0])) :: (own_rows as (own_rs c [m0] 1) ++ []))) rfl ?_
  refine s_drop (k := 2) (L' := ((it, .inr (.array .int, own_refs as)) :: (nm, .inr (.int, own_ints [m0, m1, m2, m3, m4])) :: (b1, .inr (.int, own_ints [m0])) :: (own_rows as (own_rs c [m0] 1) ++ []))) rfl ?_
  refine s_drop (k := 2) (L' := ((it, .inr (.array .int, own_refs as)) :: (nm, .inr (.int, own_ints [m0, m1, m2, m3, m4])) :: (own_rows as (own_rs c [m0] 1) ++ []))) rfl ?_
  refine Go.more (ce' := 8) (sl' := 40) (by decide) (by decide) ?_
  exact law_end hw _ p0 p1 p2 p3 p4 p5 it nm as (own_rs c [m0] 1) c ha (own_rs_len hg) hc _ h5 _ 1 (by decide) (own_row5 hg) (own_G hf) (own_I hf) κ K
set_option maxRecDepth 65536 in
set_option maxHeartbeats 400000000 in
theorem law_len2 {l : Launch} {Z : State} {a0 : Array Value} (hw : HW Z a0) {n0 : Nat} (p0 p1 p2 p3 p4 p5 : Int32) (nm : Addr) (c m0 m1 m2 m3 m4 : Nat) (hc : c ≤ 4) (h5 : own_five [m0, m1, m2, m3, m4]) (hm : ∀ m ∈ [m0, m1], m < c) (κ : Ctx) (K : Ok Z κ x.cls code maxLocals ret x.name) :
    Go l Z n0 room_1 (fun v _ => v = some (.int 1)) κ 1 5 [(nm, .inr (.int, own_ints [m0, m1, m2, m3, m4]))] 95 #[.val (.int p0), .val (.int p1), .val (.int p2), .val (.int p3), .val (.int p4), .val (.int p5), .val (.int (Int32.ofNat c)), .val (.int (Int32.ofNat 2)), .val (.ref nm), .unset, .unset] [] := by
  have hf := own_fact (num := [m0, m1, m2, m3, m4]) (len := 2) (nums := [m0, m1]) hc (by decide) rfl rfl hm
  have hg := own_fact_good hf
  refine s_iload K at_95 (pc' := 97) rfl rfl ?_
  refine s_newarr K at_97 (pc' := 99) rfl rfl (w0 hw) (n := 2) (by decide) (cap := 2) (by decide) (by decide) (vs0 := [.int 0, .int 0]) rfl (ce' := 2) rfl (sl' := 7) rfl (by decide) (by decide) ?_
  intro b1
  refine s_astore K at_99 (pc' := 101) rfl rfl (Ls' := #[.val (.int p0), .val (.int p1), .val (.int p2), .val (.int p3), .val (.int p4), .val (.int p5), .val (.int (Int32.ofNat c)), .val (.int 2), .val (.ref nm), .val (.ref b1), .unset]) rfl ?_
  refine s_iload K at_101 (pc' := 103) rfl rfl ?_
  refine s_ifN K at_103 (pc' := 106) rfl rfl ?_
  refine s_aload K at_106 (pc' := 108) rfl rfl rfl ?_
  refine s_iconst K at_108 (pc' := 109) rfl (z := (0 : Int32)) rfl ?_
  refine s_aload K at_109 (pc' := 111) rfl rfl rfl ?_
  refine s_iconst K at_111 (pc' := 112) rfl (z := (0 : Int32)) rfl ?_
  refine s_iaload K at_112 (pc' := 113) rfl (k := 1) rfl (i := 0) (by decide) rfl ?_
  refine s_iastore K at_113 (pc' := 114) rfl (k := 0) rfl (i := 0) (by decide) (ltB rfl) (L' := [(b1, .inr (.int, [.int (Int32.ofNat m0), .int 0])), (nm, .inr (.int, [.int (Int32.ofNat m0), .int (Int32.ofNat m1), .int (Int32.ofNat m2), .int (Int32.ofNat m3), .int (Int32.ofNat m4)]))]) rfl ?_
  refine s_iload K at_114 (pc' := 116) rfl rfl ?_
  refine s_iconst K at_116 (pc' := 117) rfl (z := (1 : Int32)) rfl ?_
  refine s_icN K at_117 (pc' := 120) rfl rfl ?_
  refine s_aload K at_120 (pc' := 122) rfl rfl rfl ?_
  refine s_iconst K at_122 (pc' := 123) rfl (z := (1 : Int32)) rfl ?_
  refine s_aload K at_123 (pc' := 125) rfl rfl rfl ?_
  refine s_iconst K at_125 (pc' := 126) rfl (z := (1 : Int32)) rfl ?_
  refine s_iaload K at_126 (pc' := 127) rfl (k := 1) rfl (i := 1) (by decide) rfl ?_
  refine s_iastore K at_127 (pc' := 128) rfl (k := 0) rfl (i := 1) (by decide) (ltB rfl) (L' := [(b1, .inr (.int, [.int (Int32.ofNat m0), .int (Int32.ofNat m1)])), (nm, .inr (.int, [.int (Int32.ofNat m0), .int (Int32.ofNat m1), .int (Int32.ofNat m2), .int (Int32.ofNat m3), .int (Int32.ofNat m4)]))]) rfl ?_
  refine s_iload K at_128 (pc' := 130) rfl rfl ?_
  refine s_iconst K at_130 (pc' := 131) rfl (z := (2 : Int32)) rfl ?_
  refine s_icY K at_131 rfl (by decide) (pc' := 142) (by decide) ?_
  refine s_iload K at_142 (pc' := 144) rfl rfl ?_
  refine s_iconst K at_144 (pc' := 145) rfl (z := (3 : Int32)) rfl ?_
  refine s_icY K at_145 rfl (by decide) (pc' := 156) (by decide) ?_
  refine s_iload K at_156 (pc' := 158) rfl rfl ?_
  refine s_iconst K at_158 (pc' := 159) rfl (z := (4 : Int32)) rfl ?_
  refine s_icY K at_159 rfl (by decide) (pc' := 170) (by decide) ?_
  refine s_aload K at_170 (pc' := 172) rfl rfl rfl ?_
  refine s_iload K at_172 (pc' := 174) rfl rfl ?_
  refine s_static K at_174 (pc' := 177) rfl (as := [.ref b1, .int (Int32.ofNat c)]) (c_items hw [(nm, .inr (.int, own_ints [m0, m1, m2, m3, m4]))] b1 c [m0, m1] hc (Nat.le_of_ble_eq_true rfl) hg) (w1 hw) (w2 hw) (w3 hw) (w4 hw) (by decide) pd_5 rfl (rest := []) rfl rfl (W := 0) (Nat.le_of_eq rfl) (by decide) (by decide) (ce' := 8) rfl (sl' := 35) rfl (by decide) (by decide) ?_
  rintro v _ ⟨it, as, sz, ha, rfl, rfl⟩
  show Go l Z n0 _ _ κ 8 35 ((sz, .inr (.int, own_ints (own_s1 c [m0, m1] 2))) :: (it, .inr (.array .int, own_refs as)) :: (b1, .inr (.int, own_ints [m0, m1])) :: (own_rows as (own_rs c [m0, m1] 2) ++ [(nm, .inr (.int, own_ints [m0, m1, m2, m3, m4]))])) 177 #[.val (.int p0), .val (.int p1), .val (.int p2), .val (.int p3), .val (.int p4), .val (.int p5), .val (.int (Int32.ofNat c)), .val (.int 2), .val (.ref nm), .val (.ref b1), .unset] [.ref it]
  refine s_front (k := as.length + 3) (own_nmat ha (own_rs_len hg)) (L' := ((nm, .inr (.int, own_ints [m0, m1, m2, m3, m4])) :: (sz, .inr (.int, own_ints (own_s1 c [m0, m1] 2))) :: (it, .inr (.array .int, own_refs as)) :: (b1, .inr (.int, own_ints [m0, m1])) :: (own_rows as (own_rs c [m0, m1] 2) ++ []))) (own_nmerase ha (own_rs_len hg)) ?_
  refine s_front (k := 2) rfl (L' := ((it, .inr (.array .int, own_refs as)) :: (nm, .inr (.int, own_ints [m0, m1, m2, m3, m4])) :: (sz, .inr (.int, own_ints (own_s1 c [m0, m1] 2))) :: (b1, .inr (.int, own_ints [m0, m1])) :: (own_rows as (own_rs c [m0, m1] 2) ++ []))) rfl ?_
  refine s_drop (k := 2) (L' := ((it, .inr (.array .int, own_refs as)) :: (nm, .inr (.int, own_ints [m0, m1, m2, m3, m4])) :: (b1, .inr (.int, own_ints [m0, m1])) :: (own_rows as (own_rs c [m0, m1] 2) ++ []))) rfl ?_
  refine s_drop (k := 2) (L' := ((it, .inr (.array .int, own_refs as)) :: (nm, .inr (.int, own_ints [m0, m1, m2, m3, m4])) :: (own_rows as (own_rs c [m0, m1] 2) ++ []))) rfl ?_
  refine Go.more (ce' := 8) (sl' := 40) (by decide) (by decide) ?_
  exact law_end hw _ p0 p1 p2 p3 p4 p5 it nm as (own_rs c [m0, m1] 2) c ha (own_rs_len hg) hc _ h5 _ 2 (by decide) (own_row5 hg) (own_G hf) (own_I hf) κ K
set_option maxRecDepth 65536 in
set_option maxHeartbeats 400000000 in
theorem law_len3 {l : Launch} {Z : State} {a0 : Array Value} (hw : HW Z a0) {n0 : Nat} (p0 p1 p2 p3 p4 p5 : Int32) (nm : Addr) (c m0 m1 m2 m3 m4 : Nat) (hc : c ≤ 4) (h5 : own_five [m0, m1, m2, m3, m4]) (hm : ∀ m ∈ [m0, m1, m2], m < c) (κ : Ctx) (K : Ok Z κ x.cls code maxLocals ret x.name) :
    Go l Z n0 room_1 (fun v _ => v = some (.int 1)) κ 1 5 [(nm, .inr (.int, own_ints [m0, m1, m2, m3, m4]))] 95 #[.val (.int p0), .val (.int p1), .val (.int p2), .val (.int p3), .val (.int p4), .val (.int p5), .val (.int (Int32.ofNat c)), .val (.int (Int32.ofNat 3)), .val (.ref nm), .unset, .unset] [] := by
  have hf := own_fact (num := [m0, m1, m2, m3, m4]) (len := 3) (nums := [m0, m1, m2]) hc (by decide) rfl rfl hm
  have hg := own_fact_good hf
  refine s_iload K at_95 (pc' := 97) rfl rfl ?_
  refine s_newarr K at_97 (pc' := 99) rfl rfl (w0 hw) (n := 3) (by decide) (cap := 3) (by decide) (by decide) (vs0 := [.int 0, .int 0, .int 0]) rfl (ce' := 2) rfl (sl' := 8) rfl (by decide) (by decide) ?_
  intro b1
  refine s_astore K at_99 (pc' := 101) rfl rfl (Ls' := #[.val (.int p0), .val (.int p1), .val (.int p2), .val (.int p3), .val (.int p4), .val (.int p5), .val (.int (Int32.ofNat c)), .val (.int 3), .val (.ref nm), .val (.ref b1), .unset]) rfl ?_
  refine s_iload K at_101 (pc' := 103) rfl rfl ?_
  refine s_ifN K at_103 (pc' := 106) rfl rfl ?_
  refine s_aload K at_106 (pc' := 108) rfl rfl rfl ?_
  refine s_iconst K at_108 (pc' := 109) rfl (z := (0 : Int32)) rfl ?_
  refine s_aload K at_109 (pc' := 111) rfl rfl rfl ?_
  refine s_iconst K at_111 (pc' := 112) rfl (z := (0 : Int32)) rfl ?_
  refine s_iaload K at_112 (pc' := 113) rfl (k := 1) rfl (i := 0) (by decide) rfl ?_
  refine s_iastore K at_113 (pc' := 114) rfl (k := 0) rfl (i := 0) (by decide) (ltB rfl) (L' := [(b1, .inr (.int, [.int (Int32.ofNat m0), .int 0, .int 0])), (nm, .inr (.int, [.int (Int32.ofNat m0), .int (Int32.ofNat m1), .int (Int32.ofNat m2), .int (Int32.ofNat m3), .int (Int32.ofNat m4)]))]) rfl ?_
  refine s_iload K at_114 (pc' := 116) rfl rfl ?_
  refine s_iconst K at_116 (pc' := 117) rfl (z := (1 : Int32)) rfl ?_
  refine s_icN K at_117 (pc' := 120) rfl rfl ?_
  refine s_aload K at_120 (pc' := 122) rfl rfl rfl ?_
  refine s_iconst K at_122 (pc' := 123) rfl (z := (1 : Int32)) rfl ?_
  refine s_aload K at_123 (pc' := 125) rfl rfl rfl ?_
  refine s_iconst K at_125 (pc' := 126) rfl (z := (1 : Int32)) rfl ?_
  refine s_iaload K at_126 (pc' := 127) rfl (k := 1) rfl (i := 1) (by decide) rfl ?_
  refine s_iastore K at_127 (pc' := 128) rfl (k := 0) rfl (i := 1) (by decide) (ltB rfl) (L' := [(b1, .inr (.int, [.int (Int32.ofNat m0), .int (Int32.ofNat m1), .int 0])), (nm, .inr (.int, [.int (Int32.ofNat m0), .int (Int32.ofNat m1), .int (Int32.ofNat m2), .int (Int32.ofNat m3), .int (Int32.ofNat m4)]))]) rfl ?_
  refine s_iload K at_128 (pc' := 130) rfl rfl ?_
  refine s_iconst K at_130 (pc' := 131) rfl (z := (2 : Int32)) rfl ?_
  refine s_icN K at_131 (pc' := 134) rfl rfl ?_
  refine s_aload K at_134 (pc' := 136) rfl rfl rfl ?_
  refine s_iconst K at_136 (pc' := 137) rfl (z := (2 : Int32)) rfl ?_
  refine s_aload K at_137 (pc' := 139) rfl rfl rfl ?_
  refine s_iconst K at_139 (pc' := 140) rfl (z := (2 : Int32)) rfl ?_
  refine s_iaload K at_140 (pc' := 141) rfl (k := 1) rfl (i := 2) (by decide) rfl ?_
  refine s_iastore K at_141 (pc' := 142) rfl (k := 0) rfl (i := 2) (by decide) (ltB rfl) (L' := [(b1, .inr (.int, [.int (Int32.ofNat m0), .int (Int32.ofNat m1), .int (Int32.ofNat m2)])), (nm, .inr (.int, [.int (Int32.ofNat m0), .int (Int32.ofNat m1), .int (Int32.ofNat m2), .int (Int32.ofNat m3), .int (Int32.ofNat m4)]))]) rfl ?_
  refine s_iload K at_142 (pc' := 144) rfl rfl ?_
  refine s_iconst K at_144 (pc' := 145) rfl (z := (3 : Int32)) rfl ?_
  refine s_icY K at_145 rfl (by decide) (pc' := 156) (by decide) ?_
  refine s_iload K at_156 (pc' := 158) rfl rfl ?_
  refine s_iconst K at_158 (pc' := 159) rfl (z := (4 : Int32)) rfl ?_
  refine s_icY K at_159 rfl (by decide) (pc' := 170) (by decide) ?_
  refine s_aload K at_170 (pc' := 172) rfl rfl rfl ?_
  refine s_iload K at_172 (pc' := 174) rfl rfl ?_
  refine s_static K at_174 (pc' := 177) rfl (as := [.ref b1, .int (Int32.ofNat c)]) (c_items hw [(nm, .inr (.int, own_ints [m0, m1, m2, m3, m4]))] b1 c [m0, m1, m2] hc (Nat.le_of_ble_eq_true rfl) hg) (w1 hw) (w2 hw) (w3 hw) (w4 hw) (by decide) pd_5 rfl (rest := []) rfl rfl (W := 0) (Nat.le_of_eq rfl) (by decide) (by decide) (ce' := 8) rfl (sl' := 36) rfl (by decide) (by decide) ?_
  rintro v _ ⟨it, as, sz, ha, rfl, rfl⟩
  show Go l Z n0 _ _ κ 8 36 ((sz, .inr (.int, own_ints (own_s1 c [m0, m1, m2] 3))) :: (it, .inr (.array .int, own_refs as)) :: (b1, .inr (.int, own_ints [m0, m1, m2])) :: (own_rows as (own_rs c [m0, m1, m2] 3) ++ [(nm, .inr (.int, own_ints [m0, m1, m2, m3, m4]))])) 177 #[.val (.int p0), .val (.int p1), .val (.int p2), .val (.int p3), .val (.int p4), .val (.int p5), .val (.int (Int32.ofNat c)), .val (.int 3), .val (.ref nm), .val (.ref b1), .unset] [.ref it]
  refine s_front (k := as.length + 3) (own_nmat ha (own_rs_len hg)) (L' := ((nm, .inr (.int, own_ints [m0, m1, m2, m3, m4])) :: (sz, .inr (.int, own_ints (own_s1 c [m0, m1, m2] 3))) :: (it, .inr (.array .int, own_refs as)) :: (b1, .inr (.int, own_ints [m0, m1, m2])) :: (own_rows as (own_rs c [m0, m1, m2] 3) ++ []))) (own_nmerase ha (own_rs_len hg)) ?_
  refine s_front (k := 2) rfl (L' := ((it, .inr (.array .int, own_refs as)) :: (nm, .inr (.int, own_ints [m0, m1, m2, m3, m4])) :: (sz, .inr (.int, own_ints (own_s1 c [m0, m1, m2] 3))) :: (b1, .inr (.int, own_ints [m0, m1, m2])) :: (own_rows as (own_rs c [m0, m1, m2] 3) ++ []))) rfl ?_
  refine s_drop (k := 2) (L' := ((it, .inr (.array .int, own_refs as)) :: (nm, .inr (.int, own_ints [m0, m1, m2, m3, m4])) :: (b1, .inr (.int, own_ints [m0, m1, m2])) :: (own_rows as (own_rs c [m0, m1, m2] 3) ++ []))) rfl ?_
  refine s_drop (k := 2) (L' := ((it, .inr (.array .int, own_refs as)) :: (nm, .inr (.int, own_ints [m0, m1, m2, m3, m4])) :: (own_rows as (own_rs c [m0, m1, m2] 3) ++ []))) rfl ?_
  refine Go.more (ce' := 8) (sl' := 40) (by decide) (by decide) ?_
  exact law_end hw _ p0 p1 p2 p3 p4 p5 it nm as (own_rs c [m0, m1, m2] 3) c ha (own_rs_len hg) hc _ h5 _ 3 (by decide) (own_row5 hg) (own_G hf) (own_I hf) κ K
set_option maxRecDepth 65536 in
set_option maxHeartbeats 400000000 in
theorem law_len4 {l : Launch} {Z : State} {a0 : Array Value} (hw : HW Z a0) {n0 : Nat} (p0 p1 p2 p3 p4 p5 : Int32) (nm : Addr) (c m0 m1 m2 m3 m4 : Nat) (hc : c ≤ 4) (h5 : own_five [m0, m1, m2, m3, m4]) (hm : ∀ m ∈ [m0, m1, m2, m3], m < c) (κ : Ctx) (K : Ok Z κ x.cls code maxLocals ret x.name) :
    Go l Z n0 room_1 (fun v _ => v = some (.int 1)) κ 1 5 [(nm, .inr (.int, own_ints [m0, m1, m2, m3, m4]))] 95 #[.val (.int p0), .val (.int p1), .val (.int p2), .val (.int p3), .val (.int p4), .val (.int p5), .val (.int (Int32.ofNat c)), .val (.int (Int32.ofNat 4)), .val (.ref nm), .unset, .unset] [] := by
  have hf := own_fact (num := [m0, m1, m2, m3, m4]) (len := 4) (nums := [m0, m1, m2, m3]) hc (by decide) rfl rfl hm
  have hg := own_fact_good hf
  refine s_iload K at_95 (pc' := 97) rfl rfl ?_
  refine s_newarr K at_97 (pc' := 99) rfl rfl (w0 hw) (n := 4) (by decide) (cap := 4) (by decide) (by decide) (vs0 := [.int 0, .int 0, .int 0, .int 0]) rfl (ce' := 2) rfl (sl' := 9) rfl (by decide) (by decide) ?_
  intro b1
  refine s_astore K at_99 (pc' := 101) rfl rfl (Ls' := #[.val (.int p0), .val (.int p1), .val (.int p2), .val (.int p3), .val (.int p4), .val (.int p5), .val (.int (Int32.ofNat c)), .val (.int 4), .val (.ref nm), .val (.ref b1), .unset]) rfl ?_
  refine s_iload K at_101 (pc' := 103) rfl rfl ?_
  refine s_ifN K at_103 (pc' := 106) rfl rfl ?_
  refine s_aload K at_106 (pc' := 108) rfl rfl rfl ?_
  refine s_iconst K at_108 (pc' := 109) rfl (z := (0 : Int32)) rfl ?_
  refine s_aload K at_109 (pc' := 111) rfl rfl rfl ?_
  refine s_iconst K at_111 (pc' := 112) rfl (z := (0 : Int32)) rfl ?_
  refine s_iaload K at_112 (pc' := 113) rfl (k := 1) rfl (i := 0) (by decide) rfl ?_
  refine s_iastore K at_113 (pc' := 114) rfl (k := 0) rfl (i := 0) (by decide) (ltB rfl) (L' := [(b1, .inr (.int, [.int (Int32.ofNat m0), .int 0, .int 0, .int 0])), (nm, .inr (.int, [.int (Int32.ofNat m0), .int (Int32.ofNat m1), .int (Int32.ofNat m2), .int (Int32.ofNat m3), .int (Int32.ofNat m4)]))]) rfl ?_
  refine s_iload K at_114 (pc' := 116) rfl rfl ?_
  refine s_iconst K at_116 (pc' := 117) rfl (z := (1 : Int32)) rfl ?_
  refine s_icN K at_117 (pc' := 120) rfl rfl ?_
  refine s_aload K at_120 (pc' := 122) rfl rfl rfl ?_
  refine s_iconst K at_122 (pc' := 123) rfl (z := (1 : Int32)) rfl ?_
  refine s_aload K at_123 (pc' := 125) rfl rfl rfl ?_
  refine s_iconst K at_125 (pc' := 126) rfl (z := (1 : Int32)) rfl ?_
  refine s_iaload K at_126 (pc' := 127) rfl (k := 1) rfl (i := 1) (by decide) rfl ?_
  refine s_iastore K at_127 (pc' := 128) rfl (k := 0) rfl (i := 1) (by decide) (ltB rfl) (L' := [(b1, .inr (.int, [.int (Int32.ofNat m0), .int (Int32.ofNat m1), .int 0, .int 0])), (nm, .inr (.int, [.int (Int32.ofNat m0), .int (Int32.ofNat m1), .int (Int32.ofNat m2), .int (Int32.ofNat m3), .int (Int32.ofNat m4)]))]) rfl ?_
  refine s_iload K at_128 (pc' := 130) rfl rfl ?_
  refine s_iconst K at_130 (pc' := 131) rfl (z := (2 : Int32)) rfl ?_
  refine s_icN K at_131 (pc' := 134) rfl rfl ?_
  refine s_aload K at_134 (pc' := 136) rfl rfl rfl ?_
  refine s_iconst K at_136 (pc' := 137) rfl (z := (2 : Int32)) rfl ?_
  refine s_aload K at_137 (pc' := 139) rfl rfl rfl ?_
  refine s_iconst K at_139 (pc' := 140) rfl (z := (2 : Int32)) rfl ?_
  refine s_iaload K at_140 (pc' := 141) rfl (k := 1) rfl (i := 2) (by decide) rfl ?_
  refine s_iastore K at_141 (pc' := 142) rfl (k := 0) rfl (i := 2) (by decide) (ltB rfl) (L' := [(b1, .inr (.int, [.int (Int32.ofNat m0), .int (Int32.ofNat m1), .int (Int32.ofNat m2), .int 0])), (nm, .inr (.int, [.int (Int32.ofNat m0), .int (Int32.ofNat m1), .int (Int32.ofNat m2), .int (Int32.ofNat m3), .int (Int32.ofNat m4)]))]) rfl ?_
  refine s_iload K at_142 (pc' := 144) rfl rfl ?_
  refine s_iconst K at_144 (pc' := 145) rfl (z := (3 : Int32)) rfl ?_
  refine s_icN K at_145 (pc' := 148) rfl rfl ?_
  refine s_aload K at_148 (pc' := 150) rfl rfl rfl ?_
  refine s_iconst K at_150 (pc' := 151) rfl (z := (3 : Int32)) rfl ?_
  refine s_aload K at_151 (pc' := 153) rfl rfl rfl ?_
  refine s_iconst K at_153 (pc' := 154) rfl (z := (3 : Int32)) rfl ?_
  refine s_iaload K at_154 (pc' := 155) rfl (k := 1) rfl (i := 3) (by decide) rfl ?_
  refine s_iastore K at_155 (pc' := 156) rfl (k := 0) rfl (i := 3) (by decide) (ltB rfl) (L' := [(b1, .inr (.int, [.int (Int32.ofNat m0), .int (Int32.ofNat m1), .int (Int32.ofNat m2), .int (Int32.ofNat m3)])), (nm, .inr (.int, [.int (Int32.ofNat m0), .int (Int32.ofNat m1), .int (Int32.ofNat m2), .int (Int32.ofNat m3), .int (Int32.ofNat m4)]))]) rfl ?_
  refine s_iload K at_156 (pc' := 158) rfl rfl ?_
  refine s_iconst K at_158 (pc' := 159) rfl (z := (4 : Int32)) rfl ?_
  refine s_icY K at_159 rfl (by decide) (pc' := 170) (by decide) ?_
  refine s_aload K at_170 (pc' := 172) rfl rfl rfl ?_
  refine s_iload K at_172 (pc' := 174) rfl rfl ?_
  refine s_static K at_174 (pc' := 177) rfl (as := [.ref b1, .int (Int32.ofNat c)]) (c_items hw [(nm, .inr (.int, own_ints [m0, m1, m2, m3, m4]))] b1 c [m0, m1, m2, m3] hc (Nat.le_of_ble_eq_true rfl) hg) (w1 hw) (w2 hw) (w3 hw) (w4 hw) (by decide) pd_5 rfl (rest := []) rfl rfl (W := 0) (Nat.le_of_eq rfl) (by decide) (by decide) (ce' := 8) rfl (sl' := 37) rfl (by decide) (by decide) ?_
  rintro v _ ⟨it, as, sz, ha, rfl, rfl⟩
  show Go l Z n0 _ _ κ 8 37 ((sz, .inr (.int, own_ints (own_s1 c [m0, m1, m2, m3] 4))) :: (it, .inr (.array .int, own_refs as)) :: (b1, .inr (.int, own_ints [m0, m1, m2, m3])) :: (own_rows as (own_rs c [m0, m1, m2, m3] 4) ++ [(nm, .inr (.int, own_ints [m0, m1, m2, m3, m4]))])) 177 #[.val (.int p0), .val (.int p1), .val (.int p2), .val (.int p3), .val (.int p4), .val (.int p5), .val (.int (Int32.ofNat c)), .val (.int 4), .val (.ref nm), .val (.ref b1), .unset] [.ref it]
  refine s_front (k := as.length + 3) (own_nmat ha (own_rs_len hg)) (L' := ((nm, .inr (.int, own_ints [m0, m1, m2, m3, m4])) :: (sz, .inr (.int, own_ints (own_s1 c [m0, m1, m2, m3] 4))) :: (it, .inr (.array .int, own_refs as)) :: (b1, .inr (.int, own_ints [m0, m1, m2, m3])) :: (own_rows as (own_rs c [m0, m1, m2, m3] 4) ++ []))) (own_nmerase ha (own_rs_len hg)) ?_
  refine s_front (k := 2) rfl (L' := ((it, .inr (.array .int, own_refs as)) :: (nm, .inr (.int, own_ints [m0, m1, m2, m3, m4])) :: (sz, .inr (.int, own_ints (own_s1 c [m0, m1, m2, m3] 4))) :: (b1, .inr (.int, own_ints [m0, m1, m2, m3])) :: (own_rows as (own_rs c [m0, m1, m2, m3] 4) ++ []))) rfl ?_
  refine s_drop (k := 2) (L' := ((it, .inr (.array .int, own_refs as)) :: (nm, .inr (.int, own_ints [m0, m1, m2, m3, m4])) :: (b1, .inr (.int, own_ints [m0, m1, m2, m3])) :: (own_rows as (own_rs c [m0, m1, m2, m3] 4) ++ []))) rfl ?_
  refine s_drop (k := 2) (L' := ((it, .inr (.array .int, own_refs as)) :: (nm, .inr (.int, own_ints [m0, m1, m2, m3, m4])) :: (own_rows as (own_rs c [m0, m1, m2, m3] 4) ++ []))) rfl ?_
  refine Go.more (ce' := 8) (sl' := 40) (by decide) (by decide) ?_
  exact law_end hw _ p0 p1 p2 p3 p4 p5 it nm as (own_rs c [m0, m1, m2, m3] 4) c ha (own_rs_len hg) hc _ h5 _ 4 (by decide) (own_row5 hg) (own_G hf) (own_I hf) κ K
set_option maxRecDepth 65536 in
set_option maxHeartbeats 400000000 in
theorem law_len5 {l : Launch} {Z : State} {a0 : Array Value} (hw : HW Z a0) {n0 : Nat} (p0 p1 p2 p3 p4 p5 : Int32) (nm : Addr) (c m0 m1 m2 m3 m4 : Nat) (hc : c ≤ 4) (h5 : own_five [m0, m1, m2, m3, m4]) (hm : ∀ m ∈ [m0, m1, m2, m3, m4], m < c) (κ : Ctx) (K : Ok Z κ x.cls code maxLocals ret x.name) :
    Go l Z n0 room_1 (fun v _ => v = some (.int 1)) κ 1 5 [(nm, .inr (.int, own_ints [m0, m1, m2, m3, m4]))] 95 #[.val (.int p0), .val (.int p1), .val (.int p2), .val (.int p3), .val (.int p4), .val (.int p5), .val (.int (Int32.ofNat c)), .val (.int (Int32.ofNat 5)), .val (.ref nm), .unset, .unset] [] := by
  have hf := own_fact (num := [m0, m1, m2, m3, m4]) (len := 5) (nums := [m0, m1, m2, m3, m4]) hc (by decide) rfl rfl hm
  have hg := own_fact_good hf
  refine s_iload K at_95 (pc' := 97) rfl rfl ?_
  refine s_newarr K at_97 (pc' := 99) rfl rfl (w0 hw) (n := 5) (by decide) (cap := 5) (by decide) (by decide) (vs0 := [.int 0, .int 0, .int 0, .int 0, .int 0]) rfl (ce' := 2) rfl (sl' := 10) rfl (by decide) (by decide) ?_
  intro b1
  refine s_astore K at_99 (pc' := 101) rfl rfl (Ls' := #[.val (.int p0), .val (.int p1), .val (.int p2), .val (.int p3), .val (.int p4), .val (.int p5), .val (.int (Int32.ofNat c)), .val (.int 5), .val (.ref nm), .val (.ref b1), .unset]) rfl ?_
  refine s_iload K at_101 (pc' := 103) rfl rfl ?_
  refine s_ifN K at_103 (pc' := 106) rfl rfl ?_
  refine s_aload K at_106 (pc' := 108) rfl rfl rfl ?_
  refine s_iconst K at_108 (pc' := 109) rfl (z := (0 : Int32)) rfl ?_
  refine s_aload K at_109 (pc' := 111) rfl rfl rfl ?_
  refine s_iconst K at_111 (pc' := 112) rfl (z := (0 : Int32)) rfl ?_
  refine s_iaload K at_112 (pc' := 113) rfl (k := 1) rfl (i := 0) (by decide) rfl ?_
  refine s_iastore K at_113 (pc' := 114) rfl (k := 0) rfl (i := 0) (by decide) (ltB rfl) (L' := [(b1, .inr (.int, [.int (Int32.ofNat m0), .int 0, .int 0, .int 0, .int 0])), (nm, .inr (.int, [.int (Int32.ofNat m0), .int (Int32.ofNat m1), .int (Int32.ofNat m2), .int (Int32.ofNat m3), .int (Int32.ofNat m4)]))]) rfl ?_
  refine s_iload K at_114 (pc' := 116) rfl rfl ?_
  refine s_iconst K at_116 (pc' := 117) rfl (z := (1 : Int32)) rfl ?_
  refine s_icN K at_117 (pc' := 120) rfl rfl ?_
  refine s_aload K at_120 (pc' := 122) rfl rfl rfl ?_
  refine s_iconst K at_122 (pc' := 123) rfl (z := (1 : Int32)) rfl ?_
  refine s_aload K at_123 (pc' := 125) rfl rfl rfl ?_
  refine s_iconst K at_125 (pc' := 126) rfl (z := (1 : Int32)) rfl ?_
  refine s_iaload K at_126 (pc' := 127) rfl (k := 1) rfl (i := 1) (by decide) rfl ?_
  refine s_iastore K at_127 (pc' := 128) rfl (k := 0) rfl (i := 1) (by decide) (ltB rfl) (L' := [(b1, .inr (.int, [.int (Int32.ofNat m0), .int (Int32.ofNat m1), .int 0, .int 0, .int 0])), (nm, .inr (.int, [.int (Int32.ofNat m0), .int (Int32.ofNat m1), .int (Int32.ofNat m2), .int (Int32.ofNat m3), .int (Int32.ofNat m4)]))]) rfl ?_
  refine s_iload K at_128 (pc' := 130) rfl rfl ?_
  refine s_iconst K at_130 (pc' := 131) rfl (z := (2 : Int32)) rfl ?_
  refine s_icN K at_131 (pc' := 134) rfl rfl ?_
  refine s_aload K at_134 (pc' := 136) rfl rfl rfl ?_
  refine s_iconst K at_136 (pc' := 137) rfl (z := (2 : Int32)) rfl ?_
  refine s_aload K at_137 (pc' := 139) rfl rfl rfl ?_
  refine s_iconst K at_139 (pc' := 140) rfl (z := (2 : Int32)) rfl ?_
  refine s_iaload K at_140 (pc' := 141) rfl (k := 1) rfl (i := 2) (by decide) rfl ?_
  refine s_iastore K at_141 (pc' := 142) rfl (k := 0) rfl (i := 2) (by decide) (ltB rfl) (L' := [(b1, .inr (.int, [.int (Int32.ofNat m0), .int (Int32.ofNat m1), .int (Int32.ofNat m2), .int 0, .int 0])), (nm, .inr (.int, [.int (Int32.ofNat m0), .int (Int32.ofNat m1), .int (Int32.ofNat m2), .int (Int32.ofNat m3), .int (Int32.ofNat m4)]))]) rfl ?_
  refine s_iload K at_142 (pc' := 144) rfl rfl ?_
  refine s_iconst K at_144 (pc' := 145) rfl (z := (3 : Int32)) rfl ?_
  refine s_icN K at_145 (pc' := 148) rfl rfl ?_
  refine s_aload K at_148 (pc' := 150) rfl rfl rfl ?_
  refine s_iconst K at_150 (pc' := 151) rfl (z := (3 : Int32)) rfl ?_
  refine s_aload K at_151 (pc' := 153) rfl rfl rfl ?_
  refine s_iconst K at_153 (pc' := 154) rfl (z := (3 : Int32)) rfl ?_
  refine s_iaload K at_154 (pc' := 155) rfl (k := 1) rfl (i := 3) (by decide) rfl ?_
  refine s_iastore K at_155 (pc' := 156) rfl (k := 0) rfl (i := 3) (by decide) (ltB rfl) (L' := [(b1, .inr (.int, [.int (Int32.ofNat m0), .int (Int32.ofNat m1), .int (Int32.ofNat m2), .int (Int32.ofNat m3), .int 0])), (nm, .inr (.int, [.int (Int32.ofNat m0), .int (Int32.ofNat m1), .int (Int32.ofNat m2), .int (Int32.ofNat m3), .int (Int32.ofNat m4)]))]) rfl ?_
  refine s_iload K at_156 (pc' := 158) rfl rfl ?_
  refine s_iconst K at_158 (pc' := 159) rfl (z := (4 : Int32)) rfl ?_
  refine s_icN K at_159 (pc' := 162) rfl rfl ?_
  refine s_aload K at_162 (pc' := 164) rfl rfl rfl ?_
  refine s_iconst K at_164 (pc' := 165) rfl (z := (4 : Int32)) rfl ?_
  refine s_aload K at_165 (pc' := 167) rfl rfl rfl ?_
  refine s_iconst K at_167 (pc' := 168) rfl (z := (4 : Int32)) rfl ?_
  refine s_iaload K at_168 (pc' := 169) rfl (k := 1) rfl (i := 4) (by decide) rfl ?_
  refine s_iastore K at_169 (pc' := 170) rfl (k := 0) rfl (i := 4) (by decide) (ltB rfl) (L' := [(b1, .inr (.int, [.int (Int32.ofNat m0), .int (Int32.ofNat m1), .int (Int32.ofNat m2), .int (Int32.ofNat m3), .int (Int32.ofNat m4)])), (nm, .inr (.int, [.int (Int32.ofNat m0), .int (Int32.ofNat m1), .int (Int32.ofNat m2), .int (Int32.ofNat m3), .int (Int32.ofNat m4)]))]) rfl ?_
  refine s_aload K at_170 (pc' := 172) rfl rfl rfl ?_
  refine s_iload K at_172 (pc' := 174) rfl rfl ?_
  refine s_static K at_174 (pc' := 177) rfl (as := [.ref b1, .int (Int32.ofNat c)]) (c_items hw [(nm, .inr (.int, own_ints [m0, m1, m2, m3, m4]))] b1 c [m0, m1, m2, m3, m4] hc (Nat.le_of_ble_eq_true rfl) hg) (w1 hw) (w2 hw) (w3 hw) (w4 hw) (by decide) pd_5 rfl (rest := []) rfl rfl (W := 0) (Nat.le_of_eq rfl) (by decide) (by decide) (ce' := 8) rfl (sl' := 38) rfl (by decide) (by decide) ?_
  rintro v _ ⟨it, as, sz, ha, rfl, rfl⟩
  show Go l Z n0 _ _ κ 8 38 ((sz, .inr (.int, own_ints (own_s1 c [m0, m1, m2, m3, m4] 5))) :: (it, .inr (.array .int, own_refs as)) :: (b1, .inr (.int, own_ints [m0, m1, m2, m3, m4])) :: (own_rows as (own_rs c [m0, m1, m2, m3, m4] 5) ++ [(nm, .inr (.int, own_ints [m0, m1, m2, m3, m4]))])) 177 #[.val (.int p0), .val (.int p1), .val (.int p2), .val (.int p3), .val (.int p4), .val (.int p5), .val (.int (Int32.ofNat c)), .val (.int 5), .val (.ref nm), .val (.ref b1), .unset] [.ref it]
  refine s_front (k := as.length + 3) (own_nmat ha (own_rs_len hg)) (L' := ((nm, .inr (.int, own_ints [m0, m1, m2, m3, m4])) :: (sz, .inr (.int, own_ints (own_s1 c [m0, m1, m2, m3, m4] 5))) :: (it, .inr (.array .int, own_refs as)) :: (b1, .inr (.int, own_ints [m0, m1, m2, m3, m4])) :: (own_rows as (own_rs c [m0, m1, m2, m3, m4] 5) ++ []))) (own_nmerase ha (own_rs_len hg)) ?_
  refine s_front (k := 2) rfl (L' := ((it, .inr (.array .int, own_refs as)) :: (nm, .inr (.int, own_ints [m0, m1, m2, m3, m4])) :: (sz, .inr (.int, own_ints (own_s1 c [m0, m1, m2, m3, m4] 5))) :: (b1, .inr (.int, own_ints [m0, m1, m2, m3, m4])) :: (own_rows as (own_rs c [m0, m1, m2, m3, m4] 5) ++ []))) rfl ?_
  refine s_drop (k := 2) (L' := ((it, .inr (.array .int, own_refs as)) :: (nm, .inr (.int, own_ints [m0, m1, m2, m3, m4])) :: (b1, .inr (.int, own_ints [m0, m1, m2, m3, m4])) :: (own_rows as (own_rs c [m0, m1, m2, m3, m4] 5) ++ []))) rfl ?_
  refine s_drop (k := 2) (L' := ((it, .inr (.array .int, own_refs as)) :: (nm, .inr (.int, own_ints [m0, m1, m2, m3, m4])) :: (own_rows as (own_rs c [m0, m1, m2, m3, m4] 5) ++ []))) rfl ?_
  refine Go.more (ce' := 8) (sl' := 40) (by decide) (by decide) ?_
  exact law_end hw _ p0 p1 p2 p3 p4 p5 it nm as (own_rs c [m0, m1, m2, m3, m4] 5) c ha (own_rs_len hg) hc _ h5 _ 5 (by decide) (own_row5 hg) (own_G hf) (own_I hf) κ K
set_option maxRecDepth 65536 in
set_option maxHeartbeats 400000000 in
theorem go_law {l : Launch} {Z : State} {a0 : Array Value} (hw : HW Z a0) {n0 : Nat} (p0 : Int32) (p1 : Int32) (p2 : Int32) (p3 : Int32) (p4 : Int32) (p5 : Int32) (κ : Ctx) (K : Ok Z κ x.cls code maxLocals ret x.name) :
    Go l Z n0 room_1 (fun v _ => v = some (.int 1)) κ 0 0 [] 0 #[.val (.int p0), .val (.int p1), .val (.int p2), .val (.int p3), .val (.int p4), .val (.int p5), .unset, .unset, .unset, .unset, .unset] [] := by
  obtain ⟨c, hc, hcc⟩ := own_count p0
  rcases Nat.eq_zero_or_pos c with hz | h1
  · subst hz
    have hc0 : (XT.ushr p0 (3 : Int32) &&& (7 : Int32)) % (5 : Int32) = (0 : Int32) := hcc
    refine s_iloadN K at_0 (pc' := 1) rfl rfl ?_
    refine s_iconst K at_1 (pc' := 2) rfl (z := (3 : Int32)) rfl ?_
    refine s_iushr K at_2 (pc' := 3) rfl (z := XT.ushr p0 (3 : Int32)) rfl ?_
    refine s_bipush K at_3 (pc' := 5) rfl (z := (7 : Int32)) rfl ?_
    refine s_iand K at_5 (pc' := 6) rfl (z := (XT.ushr p0 (3 : Int32)) &&& (7 : Int32)) rfl ?_
    refine s_iconst K at_6 (pc' := 7) rfl (z := (5 : Int32)) rfl ?_
    refine s_irem K at_7 (pc' := 8) rfl (by decide) (z := (0 : Int32)) hc0 ?_
    refine s_istore K at_8 (pc' := 10) rfl (Ls' := #[.val (.int p0), .val (.int p1), .val (.int p2), .val (.int p3), .val (.int p4), .val (.int p5), .val (.int 0), .unset, .unset, .unset, .unset]) rfl ?_
    refine s_iload K at_10 (pc' := 12) rfl rfl ?_
    refine s_ifN K at_12 (pc' := 15) rfl rfl ?_
    refine s_iconst K at_15 (pc' := 16) rfl (z := (0 : Int32)) rfl ?_
    refine s_goto K at_16 (by decide) (pc' := 26) (by decide) ?_
    refine s_istore K at_26 (pc' := 28) rfl (Ls' := #[.val (.int p0), .val (.int p1), .val (.int p2), .val (.int p3), .val (.int p4), .val (.int p5), .val (.int 0), .val (.int 0), .unset, .unset, .unset]) rfl ?_
    refine s_iconst K at_28 (pc' := 29) rfl (z := (5 : Int32)) rfl ?_
    refine s_newarr K at_29 (pc' := 31) rfl rfl (w0 hw) (n := 5) (by decide) (cap := 5) (by decide) (by decide) (vs0 := [.int 0, .int 0, .int 0, .int 0, .int 0]) rfl (ce' := 1) rfl (sl' := 5) rfl (by decide) (by decide) ?_
    intro b1
    refine s_astore K at_31 (pc' := 33) rfl rfl (Ls' := #[.val (.int p0), .val (.int p1), .val (.int p2), .val (.int p3), .val (.int p4), .val (.int p5), .val (.int 0), .val (.int 0), .val (.ref b1), .unset, .unset]) rfl ?_
    refine s_iload K at_33 (pc' := 35) rfl rfl ?_
    refine s_ifY K at_35 rfl (by decide) (pc' := 95) (by decide) ?_
    exact law_len0 hw p0 p1 p2 p3 p4 p5 b1 0 0 0 0 0 0 (by decide) own_five0 (by decide) κ K
  · obtain ⟨len, hl, hle⟩ := own_length p0
    obtain ⟨m0, k0, e0⟩ := own_mod p1 h1 hc
    obtain ⟨m1, k1, e1⟩ := own_mod p2 h1 hc
    obtain ⟨m2, k2, e2⟩ := own_mod p3 h1 hc
    obtain ⟨m3, k3, e3⟩ := own_mod p4 h1 hc
    obtain ⟨m4, k4, e4⟩ := own_mod p5 h1 hc
    refine s_iloadN K at_0 (pc' := 1) rfl rfl ?_
    refine s_iconst K at_1 (pc' := 2) rfl (z := (3 : Int32)) rfl ?_
    refine s_iushr K at_2 (pc' := 3) rfl (z := XT.ushr p0 (3 : Int32)) rfl ?_
    refine s_bipush K at_3 (pc' := 5) rfl (z := (7 : Int32)) rfl ?_
    refine s_iand K at_5 (pc' := 6) rfl (z := (XT.ushr p0 (3 : Int32)) &&& (7 : Int32)) rfl ?_
    refine s_iconst K at_6 (pc' := 7) rfl (z := (5 : Int32)) rfl ?_
    refine s_irem K at_7 (pc' := 8) rfl (by decide) (z := Int32.ofNat c) hcc ?_
    refine s_istore K at_8 (pc' := 10) rfl (Ls' := #[.val (.int p0), .val (.int p1), .val (.int p2), .val (.int p3), .val (.int p4), .val (.int p5), .val (.int (Int32.ofNat c)), .unset, .unset, .unset, .unset]) rfl ?_
    refine s_iload K at_10 (pc' := 12) rfl rfl ?_
    refine s_ifY K at_12 (own_ne0 h1 hc) (by decide) (pc' := 19) (by decide) ?_
    refine s_iloadN K at_19 (pc' := 20) rfl rfl ?_
    refine s_bipush K at_20 (pc' := 22) rfl (z := (7 : Int32)) rfl ?_
    refine s_iand K at_22 (pc' := 23) rfl (z := p0 &&& (7 : Int32)) rfl ?_
    refine s_bipush K at_23 (pc' := 25) rfl (z := (6 : Int32)) rfl ?_
    refine s_irem K at_25 (pc' := 26) rfl (by decide) (z := Int32.ofNat len) hle ?_
    refine s_istore K at_26 (pc' := 28) rfl (Ls' := #[.val (.int p0), .val (.int p1), .val (.int p2), .val (.int p3), .val (.int p4), .val (.int p5), .val (.int (Int32.ofNat c)), .val (.int (Int32.ofNat len)), .unset, .unset, .unset]) rfl ?_
    refine s_iconst K at_28 (pc' := 29) rfl (z := (5 : Int32)) rfl ?_
    refine s_newarr K at_29 (pc' := 31) rfl rfl (w0 hw) (n := 5) (by decide) (cap := 5) (by decide) (by decide) (vs0 := [.int 0, .int 0, .int 0, .int 0, .int 0]) rfl (ce' := 1) rfl (sl' := 5) rfl (by decide) (by decide) ?_
    intro b1
    refine s_astore K at_31 (pc' := 33) rfl rfl (Ls' := #[.val (.int p0), .val (.int p1), .val (.int p2), .val (.int p3), .val (.int p4), .val (.int p5), .val (.int (Int32.ofNat c)), .val (.int (Int32.ofNat len)), .val (.ref b1), .unset, .unset]) rfl ?_
    refine s_iload K at_33 (pc' := 35) rfl rfl ?_
    refine s_ifN K at_35 (pc' := 38) rfl (own_nle0 h1 hc) ?_
    refine s_aload K at_38 (pc' := 40) rfl rfl rfl ?_
    refine s_iconst K at_40 (pc' := 41) rfl (z := (0 : Int32)) rfl ?_
    refine s_iloadN K at_41 (pc' := 42) rfl rfl ?_
    refine s_ldc K at_42 (pc' := 44) rfl (w14 hw) ?_
    refine s_iand K at_44 (pc' := 45) rfl (z := p1 &&& (2147483647 : Int32)) rfl ?_
    refine s_iload K at_45 (pc' := 47) rfl rfl ?_
    refine s_irem K at_47 (pc' := 48) rfl (own_nz h1 hc) (z := Int32.ofNat m0) e0 ?_
    refine s_iastore K at_48 (pc' := 49) rfl (k := 0) rfl (i := 0) (by decide) (ltB rfl) (L' := [(b1, .inr (.int, [.int (Int32.ofNat m0), .int 0, .int 0, .int 0, .int 0]))]) rfl ?_
    refine s_aload K at_49 (pc' := 51) rfl rfl rfl ?_
    refine s_iconst K at_51 (pc' := 52) rfl (z := (1 : Int32)) rfl ?_
    refine s_iloadN K at_52 (pc' := 53) rfl rfl ?_
    refine s_ldc K at_53 (pc' := 55) rfl (w14 hw) ?_
    refine s_iand K at_55 (pc' := 56) rfl (z := p2 &&& (2147483647 : Int32)) rfl ?_
    refine s_iload K at_56 (pc' := 58) rfl rfl ?_
    refine s_irem K at_58 (pc' := 59) rfl (own_nz h1 hc) (z := Int32.ofNat m1) e1 ?_
    refine s_iastore K at_59 (pc' := 60) rfl (k := 0) rfl (i := 1) (by decide) (ltB rfl) (L' := [(b1, .inr (.int, [.int (Int32.ofNat m0), .int (Int32.ofNat m1), .int 0, .int 0, .int 0]))]) rfl ?_
    refine s_aload K at_60 (pc' := 62) rfl rfl rfl ?_
    refine s_iconst K at_62 (pc' := 63) rfl (z := (2 : Int32)) rfl ?_
    refine s_iloadN K at_63 (pc' := 64) rfl rfl ?_
    refine s_ldc K at_64 (pc' := 66) rfl (w14 hw) ?_
    refine s_iand K at_66 (pc' := 67) rfl (z := p3 &&& (2147483647 : Int32)) rfl ?_
    refine s_iload K at_67 (pc' := 69) rfl rfl ?_
    refine s_irem K at_69 (pc' := 70) rfl (own_nz h1 hc) (z := Int32.ofNat m2) e2 ?_
    refine s_iastore K at_70 (pc' := 71) rfl (k := 0) rfl (i := 2) (by decide) (ltB rfl) (L' := [(b1, .inr (.int, [.int (Int32.ofNat m0), .int (Int32.ofNat m1), .int (Int32.ofNat m2), .int 0, .int 0]))]) rfl ?_
    refine s_aload K at_71 (pc' := 73) rfl rfl rfl ?_
    refine s_iconst K at_73 (pc' := 74) rfl (z := (3 : Int32)) rfl ?_
    refine s_iload K at_74 (pc' := 76) rfl rfl ?_
    refine s_ldc K at_76 (pc' := 78) rfl (w14 hw) ?_
    refine s_iand K at_78 (pc' := 79) rfl (z := p4 &&& (2147483647 : Int32)) rfl ?_
    refine s_iload K at_79 (pc' := 81) rfl rfl ?_
    refine s_irem K at_81 (pc' := 82) rfl (own_nz h1 hc) (z := Int32.ofNat m3) e3 ?_
    refine s_iastore K at_82 (pc' := 83) rfl (k := 0) rfl (i := 3) (by decide) (ltB rfl) (L' := [(b1, .inr (.int, [.int (Int32.ofNat m0), .int (Int32.ofNat m1), .int (Int32.ofNat m2), .int (Int32.ofNat m3), .int 0]))]) rfl ?_
    refine s_aload K at_83 (pc' := 85) rfl rfl rfl ?_
    refine s_iconst K at_85 (pc' := 86) rfl (z := (4 : Int32)) rfl ?_
    refine s_iload K at_86 (pc' := 88) rfl rfl ?_
    refine s_ldc K at_88 (pc' := 90) rfl (w14 hw) ?_
    refine s_iand K at_90 (pc' := 91) rfl (z := p5 &&& (2147483647 : Int32)) rfl ?_
    refine s_iload K at_91 (pc' := 93) rfl rfl ?_
    refine s_irem K at_93 (pc' := 94) rfl (own_nz h1 hc) (z := Int32.ofNat m4) e4 ?_
    refine s_iastore K at_94 (pc' := 95) rfl (k := 0) rfl (i := 4) (by decide) (ltB rfl) (L' := [(b1, .inr (.int, [.int (Int32.ofNat m0), .int (Int32.ofNat m1), .int (Int32.ofNat m2), .int (Int32.ofNat m3), .int (Int32.ofNat m4)]))]) rfl ?_
    have h5 : own_five [m0, m1, m2, m3, m4] := own_five5 (by omega) (by omega) (by omega) (by omega) (by omega)
    match len, hl with
    | 0, _ => exact law_len0 hw p0 p1 p2 p3 p4 p5 b1 c m0 m1 m2 m3 m4 hc h5 (by simp) κ K
    | 1, _ => exact law_len1 hw p0 p1 p2 p3 p4 p5 b1 c m0 m1 m2 m3 m4 hc h5 (by simp; omega) κ K
    | 2, _ => exact law_len2 hw p0 p1 p2 p3 p4 p5 b1 c m0 m1 m2 m3 m4 hc h5 (by simp; omega) κ K
    | 3, _ => exact law_len3 hw p0 p1 p2 p3 p4 p5 b1 c m0 m1 m2 m3 m4 hc h5 (by simp; omega) κ K
    | 4, _ => exact law_len4 hw p0 p1 p2 p3 p4 p5 b1 c m0 m1 m2 m3 m4 hc h5 (by simp; omega) κ K
    | 5, _ => exact law_len5 hw p0 p1 p2 p3 p4 p5 b1 c m0 m1 m2 m3 m4 hc h5 (by simp; omega) κ K
set_option maxRecDepth 65536 in
set_option maxHeartbeats 400000000 in
theorem ef_law (m : MethodId) (p0 : Int32) (p1 : Int32) (p2 : Int32) (p3 : Int32) (p4 : Int32) (p5 : Int32) : entryFrame m [.int p0, .int p1, .int p2, .int p3, .int p4, .int p5].toArray maxLocals = mkF m 0 #[.val (.int p0), .val (.int p1), .val (.int p2), .val (.int p3), .val (.int p4), .val (.int p5), .unset, .unset, .unset, .unset, .unset] [] := by
  have e : argsToLocals [.int p0, .int p1, .int p2, .int p3, .int p4, .int p5].toArray maxLocals = #[.val (.int p0), .val (.int p1), .val (.int p2), .val (.int p3), .val (.int p4), .val (.int p5)] ++ Array.replicate 5 .unset := by simp [argsToLocals, Value.category, maxLocals]
  have e2 : #[.val (.int p0), .val (.int p1), .val (.int p2), .val (.int p3), .val (.int p4), .val (.int p5)] ++ Array.replicate 5 Slot.unset = #[.val (.int p0), .val (.int p1), .val (.int p2), .val (.int p3), .val (.int p4), .val (.int p5), .unset, .unset, .unset, .unset, .unset] := Array.ext' (by rw [Array.toList_append, Array.toList_replicate]; rfl)
  exact congrArg (fun a => ({ method := m, pc := 0, locals := a, stack := [], locked := none } : JFrame)) (e.trans e2)
set_option maxRecDepth 65536 in
set_option maxHeartbeats 40000000 in
theorem comes_1 {Post : Tables → Env → Array Value → State → Outcome → State → Prop} (hpost : ∀ tb e args s v u, (limb_1_1.after args s (.returned v) u = true ∧ limb_1_2.after args s (.returned v) u = true ∧ True) → FrameEnd s (.returned v) u (Jvm.fieldLocs frame_1_writes args s ++ Jvm.arrayLocs frame_1_arrays args s ++ Jvm.staticLocs frame_1_statics s) 24 128 → Post tb e args s (.returned v) u) :
    ArmFor flags0 classFile x code maxLocals ret World_1 tables_1 room_1 Calls_1 rest_1 Pre_1 Post := by
  intro l hfl _ _ p e ha hc hk s m args below hf hA hF happ hP
  obtain ⟨hcalls, hrest, hpre⟩ := hP
  obtain ⟨-, -, -, hnamed, -, -, -, hat⟩ := (Spec.applies_iff hf).mp happ
  obtain ⟨hg, hn⟩ := and_e (Cond.before_iff.mp (show (Jvm.Cond.and given_1 narrow_1).before args s = true from hpre))
  obtain ⟨g0, r0⟩ := and_e hg
  obtain ⟨g1, r1⟩ := and_e r0
  obtain ⟨g2, r2⟩ := and_e r1
  obtain ⟨g3, r3⟩ := and_e r2
  obtain ⟨g4, r4⟩ := and_e r3
  obtain ⟨g5, r5⟩ := and_e r4
  obtain ⟨v0, v1, v2, v3, v4, v5, rfl⟩ : ∃ v0 v1 v2 v3 v4 v5 : Value, args = #[v0, v1, v2, v3, v4, v5] := by
    have hs : args.size = 6 := by simpa [Cond.value, given_1] using g0
    obtain ⟨L⟩ := args
    match L, hs with
    | [v0, v1, v2, v3, v4, v5], _ => exact ⟨v0, v1, v2, v3, v4, v5, rfl⟩
  obtain ⟨i0, e0⟩ := is_v g1
  obtain rfl : v0 = .int i0 := Option.some.inj e0
  obtain ⟨i1, e1⟩ := is_v g2
  obtain rfl : v1 = .int i1 := Option.some.inj e1
  obtain ⟨i2, e2⟩ := is_v g3
  obtain rfl : v2 = .int i2 := Option.some.inj e2
  obtain ⟨i3, e3⟩ := is_v g4
  obtain rfl : v3 = .int i3 := Option.some.inj e3
  obtain ⟨i4, e4⟩ := is_v g5
  obtain rfl : v4 = .int i4 := Option.some.inj e4
  obtain ⟨i5, e5⟩ := is_v r5
  obtain rfl : v5 = .int i5 := Option.some.inj e5
  have hw := fun d (hd : d ∈ tables_1) => atoms_spec (ws := Jvm.Cond.code x code maxLocals ret :: tables_1) hat d (List.mem_cons_of_mem _ hd)
  have W0 : Wo s s.heap.size s.heap [] := ⟨Old.start s, fun i x q => by simp at q, fun i j x y q => by simp at q⟩
  have M := enter (l := l) (ws := tables_1) (rm := room_1) (y := x) (bytes := code) (maxL := maxLocals) (ret := ret) (Q := fun v _ => v = some (.int 1)) (as := [.int i0, .int i1, .int i2, .int i3, .int i4, .int i5]) W0 (by decide +kernel) (fun m => ef_law m i0 i1 i2 i3 i4 i5) (fun κ K => go_law hw i0 i1 i2 i3 i4 i5  κ K)
  obtain ⟨n, o, h1, h2, h3, _, Lc, rfl, ⟨N, L', rfl, -⟩, hq⟩ := M p e ha hc hk s m _ below hf ((Spec.applies_iff_loose hf).mp happ).1 ⟨rfl, State.Warmed39.refl s, rfl⟩ trivial
  refine ⟨n, _, h1, h2, h3, hpost _ _ _ _ _ _ ⟨Cond.after_iff.mpr rfl, Cond.after_iff.mpr (eq_i res_at (Term.int_eval (1)) rfl), trivial⟩ ⟨hq.1, hq.2.1, (hq.2.2.sift fun y hy => Or.inr (N y hy)).mono (by decide) (by decide)⟩⟩
theorem main_1_1 : Claimed_1_1 := comes_1 fun _ _ _ _ _ _ h hF => ⟨h.1, hF⟩
theorem main_1_2 : Claimed_1_2 := comes_1 fun _ _ _ _ _ _ h hF => ⟨h.2.1, hF⟩
end Jvm.Pilot.@@N@@
namespace Jvm.Pilot.@@N@@
open Jvm Jvm.ClassFile Sem Op Lib Jvm.Free Jvm.Stand Jvm.Pilot.@@N@@.Jvm.D
/-! MADE BY PROGRAM (witnessworld.py) out of the Statement's table words and the real class files: 9 classes; the members and pool entries that the words name. The judged class is class 1, her method 1. -/
namespace start1
open Jvm.ClassFile
def u (s : String) : CpInfo := .utf8 (stringToUtf16 s)
/-- a pool by its gaps: so many unusable entries, then the entry; so many at the end -/
def gap : Nat → List CpInfo → List CpInfo
  | 0, r => r
  | n + 1, r => .unusable :: gap n r
def poolList (es : List (Nat × CpInfo)) (last : Nat) : List CpInfo := es.foldr (fun e r => gap e.1 (e.2 :: r)) (gap last [])
def pool (es : List (Nat × CpInfo)) (last : Nat) : Array CpInfo := ⟨poolList es last⟩
def fileOf (pool : Array CpInfo) (this : Nat) (attrs : Array Attribute := #[]) (ms : Array MethodInfo := #[]) (fl : Nat := 33) (sup : Nat := 0) (ifs : Array Nat := #[]) (fds : Array FieldInfo := #[]) : ClassFile where
  minorVersion := 0
  majorVersion := 65
  constantPool := pool
  accessFlags := fl
  thisClass := this
  superClass := sup
  interfaces := ifs
  fields := fds
  methods := ms
  attributes := attrs
def plain (name : String) (sup : Option ClassId) : Class where
  name := name
  kind := .ordinary
  loader := none
  accessFlags := 33
  super := sup
  interfaces := #[]
  cf := none
  fields := #[]
  methods := #[]
  instanceTypes := #[]
  staticTypes := #[]
  resolved := #[]
  callSites := []
  init := .initialized
  statics := none
  mirror := none

def pool0 : Array CpInfo := pool [(5, u "<init>"), (0, u "()V"), (1, .class_ 10), (1, u "java/lang/Object")] 113

def k0m0 : Method := { name := "<init>", desc := "()V", sig := { parameters := [], returnType := none }, accessFlags := 1, code := none }
/-- java/lang/Object -/
def k0 : Class := { plain "java/lang/Object" none with
  accessFlags := 33
  interfaces := #[]
  cf := some (fileOf pool0 8 #[] #[{ accessFlags := 1, nameIndex := 5, descriptorIndex := 6, attributes := #[] }] 33 0 #[] #[])
  fields := #[]
  methods := #[k0m0]
  instanceTypes := #[]
  staticTypes := #[]
  resolved := Array.replicate 124 none
  statics := none }

def pool1 : Array CpInfo := pool [(2, .class_ 4), (1, u "java/lang/Object"), (0, u "<init>"), (0, u "()V"), (0, .integer 2147483647), (0, .methodref 9 10), (0, .class_ 11), (0, .nameAndType 12 13), (0, u "com/example/evenkeel/evenkeel/RunTable"), (0, u "itemsByNumber"), (0, u "([II)[[I"), (0, .methodref 15 16), (0, .class_ 17), (0, .nameAndType 18 19), (0, u "com/example/evenkeel/evenkeel/RunTableItemsByNumberPinLaw"), (0, u "group"), (0, u "([[I[IIII)Z"), (0, .methodref 15 21), (0, .nameAndType 22 23), (0, u "item"), (0, u "([[I[III)Z"), (0, .methodref 15 25), (0, .nameAndType 26 27), (0, u "hit"), (0, u "([IIII)I"), (0, .methodref 15 29), (0, .nameAndType 30 31), (0, u "size"), (0, u "([III)I"), (0, .methodref 15 33), (0, .nameAndType 34 31), (0, u "before"), (0, .methodref 15 36), (0, .nameAndType 37 38), (0, u "rank"), (0, u "([II)I"), (2, u "law"), (0, u "(IIIIII)Z")] 7

def k1m0 : Method := { name := "<init>", desc := "()V", sig := { parameters := [], returnType := none }, accessFlags := 1, code := none }
def k1c1 : Code := { maxStack := 5, maxLocals := 11, code := code, exceptionTable := #[], attributes := #[] }
def k1m1 : Method := { name := "law", desc := "(IIIIII)Z", sig := { parameters := [.int, .int, .int, .int, .int, .int], returnType := some .boolean }, accessFlags := 9, code := some k1c1 }
def k1c2 : Code := { maxStack := 2, maxLocals := 4, code := method_3_code, exceptionTable := #[], attributes := #[] }
def k1m2 : Method := { name := "hit", desc := "([IIII)I", sig := { parameters := [(.array .int), .int, .int, .int], returnType := some .int }, accessFlags := 10, code := some k1c2 }
def k1c3 : Code := { maxStack := 5, maxLocals := 3, code := method_4_code, exceptionTable := #[], attributes := #[] }
def k1m3 : Method := { name := "size", desc := "([III)I", sig := { parameters := [(.array .int), .int, .int], returnType := some .int }, accessFlags := 10, code := some k1c3 }
def k1c4 : Code := { maxStack := 4, maxLocals := 5, code := method_5_code, exceptionTable := #[], attributes := #[] }
def k1m4 : Method := { name := "group", desc := "([[I[IIII)Z", sig := { parameters := [(.array (.array .int)), (.array .int), .int, .int, .int], returnType := some .boolean }, accessFlags := 10, code := some k1c4 }
def k1c5 : Code := { maxStack := 3, maxLocals := 3, code := method_6_code, exceptionTable := #[], attributes := #[] }
def k1m5 : Method := { name := "before", desc := "([III)I", sig := { parameters := [(.array .int), .int, .int], returnType := some .int }, accessFlags := 10, code := some k1c5 }
def k1c6 : Code := { maxStack := 4, maxLocals := 2, code := method_7_code, exceptionTable := #[], attributes := #[] }
def k1m6 : Method := { name := "rank", desc := "([II)I", sig := { parameters := [(.array .int), .int], returnType := some .int }, accessFlags := 10, code := some k1c6 }
def k1c7 : Code := { maxStack := 3, maxLocals := 6, code := method_8_code, exceptionTable := #[], attributes := #[] }
def k1m7 : Method := { name := "item", desc := "([[I[III)Z", sig := { parameters := [(.array (.array .int)), (.array .int), .int, .int], returnType := some .boolean }, accessFlags := 10, code := some k1c7 }
/-- com/example/evenkeel/evenkeel/RunTableItemsByNumberPinLaw -/
def k1 : Class := { plain "com/example/evenkeel/evenkeel/RunTableItemsByNumberPinLaw" (some 0) with
  accessFlags := 49
  interfaces := #[]
  cf := some (fileOf pool1 15 #[] #[{ accessFlags := 1, nameIndex := 5, descriptorIndex := 6, attributes := #[] }, { accessFlags := 9, nameIndex := 41, descriptorIndex := 42, attributes := #[] }, { accessFlags := 10, nameIndex := 26, descriptorIndex := 27, attributes := #[] }, { accessFlags := 10, nameIndex := 30, descriptorIndex := 31, attributes := #[] }, { accessFlags := 10, nameIndex := 18, descriptorIndex := 19, attributes := #[] }, { accessFlags := 10, nameIndex := 34, descriptorIndex := 31, attributes := #[] }, { accessFlags := 10, nameIndex := 37, descriptorIndex := 38, attributes := #[] }, { accessFlags := 10, nameIndex := 22, descriptorIndex := 23, attributes := #[] }] 49 2 #[] #[])
  fields := #[]
  methods := #[k1m0, k1m1, k1m2, k1m3, k1m4, k1m5, k1m6, k1m7]
  instanceTypes := #[]
  staticTypes := #[]
  resolved := Array.replicate 50 none
  statics := none }

def pool2 : Array CpInfo := pool [(2, .class_ 4), (1, u "com/example/evenkeel/evenkeel/RunTable"), (3, .class_ 10), (1, u "java/lang/Object"), (9, u "runs"), (0, u "[I"), (2, u "starts"), (16, u "slots"), (0, u "[J"), (10, u "length"), (0, u "I"), (17, u "count"), (12, .class_ 21), (9, u "itemsByNumber"), (0, u "([II)[[I")] 5

def k2c0 : Code := { maxStack := 6, maxLocals := 7, code := prog_95_method_11_code, exceptionTable := #[], attributes := #[] }
def k2m0 : Method := { name := "itemsByNumber", desc := "([II)[[I", sig := { parameters := [(.array .int), .int], returnType := some (.array (.array .int)) }, accessFlags := 8, code := some k2c0 }
/-- com/example/evenkeel/evenkeel/RunTable -/
def k2 : Class := { plain "com/example/evenkeel/evenkeel/RunTable" (some 0) with
  accessFlags := 48
  interfaces := #[]
  cf := some (fileOf pool2 2 #[] #[{ accessFlags := 8, nameIndex := 95, descriptorIndex := 96, attributes := #[] }] 48 8 #[] #[{ accessFlags := 2, nameIndex := 20, descriptorIndex := 21, attributes := #[] }, { accessFlags := 2, nameIndex := 53, descriptorIndex := 54, attributes := #[] }, { accessFlags := 2, nameIndex := 24, descriptorIndex := 21, attributes := #[] }, { accessFlags := 2, nameIndex := 72, descriptorIndex := 54, attributes := #[] }, { accessFlags := 2, nameIndex := 41, descriptorIndex := 42, attributes := #[] }])
  fields := #[{ name := "runs", type := (.array .int), accessFlags := 2, slot := 0, constantValue := 0 }, { name := "length", type := .int, accessFlags := 2, slot := 1, constantValue := 0 }, { name := "starts", type := (.array .int), accessFlags := 2, slot := 2, constantValue := 0 }, { name := "count", type := .int, accessFlags := 2, slot := 3, constantValue := 0 }, { name := "slots", type := (.array .long), accessFlags := 2, slot := 4, constantValue := 0 }]
  methods := #[k2m0]
  instanceTypes := #[(.array .int), .int, (.array .int), .int, (.array .long)]
  staticTypes := #[]
  resolved := Array.replicate 102 none
  statics := none }

def pool3 : Array CpInfo := pool [(1, u "java/lang/Cloneable"), (0, .class_ 1), (0, u "java/lang/Object"), (0, .class_ 3)] 3

/-- java/lang/Cloneable -/
def k3 : Class := { plain "java/lang/Cloneable" (some 0) with
  accessFlags := 1537
  interfaces := #[]
  cf := some (fileOf pool3 2 #[] #[] 1537 4 #[] #[])
  fields := #[]
  methods := #[]
  instanceTypes := #[]
  staticTypes := #[]
  resolved := Array.replicate 8 none
  statics := none }

def pool4 : Array CpInfo := pool [(1, u "java/io/Serializable"), (0, .class_ 1), (0, u "java/lang/Object"), (0, .class_ 3)] 3

/-- java/io/Serializable -/
def k4 : Class := { plain "java/io/Serializable" (some 0) with
  accessFlags := 1537
  interfaces := #[]
  cf := some (fileOf pool4 2 #[] #[] 1537 4 #[] #[])
  fields := #[]
  methods := #[]
  instanceTypes := #[]
  staticTypes := #[]
  resolved := Array.replicate 8 none
  statics := none }

/-- the primitive byte -/
def k5 : Class := { plain "byte" none with kind := .primitive 'B', accessFlags := 0x411 }
/-- [B -/
def k6 : Class := { plain "[B" (some 0) with kind := .array 5 .byte, interfaces := #[3, 4], accessFlags := 1041 }

/-- the primitive int -/
def k7 : Class := { plain "int" none with kind := .primitive 'I', accessFlags := 0x411 }
/-- [I -/
def k8 : Class := { plain "[I" (some 0) with kind := .array 7 .int, interfaces := #[3, 4], accessFlags := 1041 }
/-- [[I -/
def k9 : Class := { plain "[[I" (some 0) with kind := .array 8 (.array .int), interfaces := #[3, 4], accessFlags := 1041 }

def heap : Heap := #[]
def classes : Array Class := #[k0, k1, k2, k3, k4, k5, k6, k7, k8, k9]
def interned : List (Array UInt16 × Addr) := []
def slotsUsed : Nat := 0
def theMethod : MethodId := ⟨1, 1⟩
def args0 : Array Value := #[.int 28, .int 1, .int 2, .int 3, .int 4, .int 5]
def aboutOver (below : List Frame) : State where
  vm := { classes := classes, interned := interned.toArray }
  heap := heap
  slotsUsed := slotsUsed
  threads := #[{ frames := .invoking theMethod args0 :: below }]
def below0 : List Frame := [.native { method := ⟨0, 0⟩, args := #[] }]
def about1 : State := aboutOver below0
def p0 : Program := .bare "" "" ""
def e0 : Env := launch0.env 0 0 0
theorem w_frames : about1.frames = Frame.invoking theMethod args0 :: below0 := rfl
set_option maxRecDepth 65536 in
theorem w_args : argsFit about1.vm theMethod args0 = true := by decide +kernel
set_option maxRecDepth 65536 in
theorem w_heap : heapFits about1 = true := by decide +kernel
set_option maxRecDepth 65536 in
theorem w_runnable : about1.curStatus? = some .runnable := by decide +kernel
set_option maxRecDepth 65536 in
theorem w_alone : about1.alone = true := by decide +kernel
set_option maxRecDepth 65536 in
theorem w_named : about1.methodNamed? x = some theMethod := by decide +kernel
set_option maxRecDepth 65536 in
theorem w_hears : about1.hears theMethod below0 = true := by decide +kernel
set_option maxRecDepth 65536 in
theorem w_ripe : about1.ripe theMethod args0 below0 = true := by decide +kernel
theorem w_running : about1.status = .running := rfl
set_option maxRecDepth 65536 in
theorem w_room : about1.hasRoom e0.platform room_1 = true :=
  launch0.hasRoom_least _ room_1 (by decide +kernel) (by decide +kernel) (by decide +kernel) (by decide +kernel) (by decide +kernel) (by decide +kernel)
theorem allAtoms_all (ts : List Jvm.Cond) (a : Array Jvm.Value) (st : Jvm.State) : (allAtoms ts).before a st = ts.all (fun c => c.before a st) := by
  induction ts with
  | nil => rfl
  | cons c t ih =>
    show (Jvm.Cond.and c (allAtoms t)).before a st = _
    rw [Jvm.Cond.before_and, ih, List.all_cons]
def words1 : List Jvm.Cond := Jvm.Cond.code x code maxLocals ret :: tables_1
/-- a 'code' word, met by the world's own term for the bytes: nothing is compared byte by byte -/
theorem code_word {y : MethodName} {bytes : ByteArray} {mx : Nat} {rt : Option FieldType} {a : Array Value} {s : State} {m : MethodId} {meth : Method} {c : Code} (h1 : s.methodNamed? y = some m) (h2 : s.vm.method? m = some meth) (h3 : meth.code = some c) (h4 : c.code = bytes)
    (h5 : (c.maxLocals == mx && c.exceptionTable.isEmpty && decide (c.maxStack ≤ mostOperands) && decide (meth.sig.returnType = rt) && !meth.locks && decide (parseMethodDescriptor y.desc = some meth.sig)) = true) : (Jvm.Cond.code y bytes mx rt).before a s = true := by
  simp only [Bool.and_eq_true, beq_iff_eq, Bool.not_eq_true', decide_eq_true_eq] at h5
  obtain ⟨⟨⟨⟨⟨g1, g2⟩, g3⟩, g4⟩, g5⟩, g6⟩ := h5
  simp [Cond.before, Cond.holds, Cond.value, h1, h2, h3, h4, g1, g2, g3, g4, g5, g6]
def isCode : Jvm.Cond → Bool
  | .code _ _ _ _ => true
  | _ => false
theorem all_split {L : List Jvm.Cond} {P : Jvm.Cond → Bool} (h1 : L.all (fun c => isCode c || P c) = true) (h2 : ∀ c ∈ L.filter isCode, P c = true) : L.all P = true := by
  refine List.all_eq_true.mpr fun c hc => ?_
  have h := List.all_eq_true.mp h1 c hc
  rcases Bool.eq_false_or_eq_true (isCode c) with hi | hi
  · exact h2 c (List.mem_filter.mpr ⟨hc, hi⟩)
  · simpa [hi] using h
set_option maxRecDepth 65536 in
theorem w_c0 : (Jvm.Cond.code x code maxLocals ret).before args0 about1 = true := code_word (m := ⟨1, 1⟩) (meth := k1m1) (c := k1c1) (by decide +kernel) rfl rfl rfl (by decide +kernel)
set_option maxRecDepth 65536 in
theorem w_c1 : (Jvm.Cond.code ({ cls := "com/example/evenkeel/evenkeel/RunTable", name := "itemsByNumber", desc := "([II)[[I" } : Jvm.MethodName) prog_95_method_11_code (7 : Nat) (Option.some (Jvm.ClassFile.FieldType.array (Jvm.ClassFile.FieldType.array Jvm.ClassFile.FieldType.int)))).before args0 about1 = true := code_word (m := ⟨2, 0⟩) (meth := k2m0) (c := k2c0) (by decide +kernel) rfl rfl rfl (by decide +kernel)
set_option maxRecDepth 65536 in
theorem w_c2 : (Jvm.Cond.code ({ cls := "com/example/evenkeel/evenkeel/RunTableItemsByNumberPinLaw", name := "group", desc := "([[I[IIII)Z" } : Jvm.MethodName) method_5_code (5 : Nat) (Option.some Jvm.ClassFile.FieldType.boolean)).before args0 about1 = true := code_word (m := ⟨1, 4⟩) (meth := k1m4) (c := k1c4) (by decide +kernel) rfl rfl rfl (by decide +kernel)
set_option maxRecDepth 65536 in
theorem w_c3 : (Jvm.Cond.code ({ cls := "com/example/evenkeel/evenkeel/RunTableItemsByNumberPinLaw", name := "item", desc := "([[I[III)Z" } : Jvm.MethodName) method_8_code (6 : Nat) (Option.some Jvm.ClassFile.FieldType.boolean)).before args0 about1 = true := code_word (m := ⟨1, 7⟩) (meth := k1m7) (c := k1c7) (by decide +kernel) rfl rfl rfl (by decide +kernel)
set_option maxRecDepth 65536 in
theorem w_c4 : (Jvm.Cond.code ({ cls := "com/example/evenkeel/evenkeel/RunTableItemsByNumberPinLaw", name := "size", desc := "([III)I" } : Jvm.MethodName) method_4_code (3 : Nat) (Option.some Jvm.ClassFile.FieldType.int)).before args0 about1 = true := code_word (m := ⟨1, 3⟩) (meth := k1m3) (c := k1c3) (by decide +kernel) rfl rfl rfl (by decide +kernel)
set_option maxRecDepth 65536 in
theorem w_c5 : (Jvm.Cond.code ({ cls := "com/example/evenkeel/evenkeel/RunTableItemsByNumberPinLaw", name := "hit", desc := "([IIII)I" } : Jvm.MethodName) method_3_code (4 : Nat) (Option.some Jvm.ClassFile.FieldType.int)).before args0 about1 = true := code_word (m := ⟨1, 2⟩) (meth := k1m2) (c := k1c2) (by decide +kernel) rfl rfl rfl (by decide +kernel)
set_option maxRecDepth 65536 in
theorem w_c6 : (Jvm.Cond.code ({ cls := "com/example/evenkeel/evenkeel/RunTableItemsByNumberPinLaw", name := "rank", desc := "([II)I" } : Jvm.MethodName) method_7_code (2 : Nat) (Option.some Jvm.ClassFile.FieldType.int)).before args0 about1 = true := code_word (m := ⟨1, 6⟩) (meth := k1m6) (c := k1c6) (by decide +kernel) rfl rfl rfl (by decide +kernel)
set_option maxRecDepth 65536 in
theorem w_c7 : (Jvm.Cond.code ({ cls := "com/example/evenkeel/evenkeel/RunTableItemsByNumberPinLaw", name := "before", desc := "([III)I" } : Jvm.MethodName) method_6_code (3 : Nat) (Option.some Jvm.ClassFile.FieldType.int)).before args0 about1 = true := code_word (m := ⟨1, 5⟩) (meth := k1m5) (c := k1c5) (by decide +kernel) rfl rfl rfl (by decide +kernel)
def codes1 : List Jvm.Cond := [Jvm.Cond.code x code maxLocals ret, Jvm.Cond.code ({ cls := "com/example/evenkeel/evenkeel/RunTable", name := "itemsByNumber", desc := "([II)[[I" } : Jvm.MethodName) prog_95_method_11_code (7 : Nat) (Option.some (Jvm.ClassFile.FieldType.array (Jvm.ClassFile.FieldType.array Jvm.ClassFile.FieldType.int))), Jvm.Cond.code ({ cls := "com/example/evenkeel/evenkeel/RunTableItemsByNumberPinLaw", name := "group", desc := "([[I[IIII)Z" } : Jvm.MethodName) method_5_code (5 : Nat) (Option.some Jvm.ClassFile.FieldType.boolean), Jvm.Cond.code ({ cls := "com/example/evenkeel/evenkeel/RunTableItemsByNumberPinLaw", name := "item", desc := "([[I[III)Z" } : Jvm.MethodName) method_8_code (6 : Nat) (Option.some Jvm.ClassFile.FieldType.boolean), Jvm.Cond.code ({ cls := "com/example/evenkeel/evenkeel/RunTableItemsByNumberPinLaw", name := "size", desc := "([III)I" } : Jvm.MethodName) method_4_code (3 : Nat) (Option.some Jvm.ClassFile.FieldType.int), Jvm.Cond.code ({ cls := "com/example/evenkeel/evenkeel/RunTableItemsByNumberPinLaw", name := "hit", desc := "([IIII)I" } : Jvm.MethodName) method_3_code (4 : Nat) (Option.some Jvm.ClassFile.FieldType.int), Jvm.Cond.code ({ cls := "com/example/evenkeel/evenkeel/RunTableItemsByNumberPinLaw", name := "rank", desc := "([II)I" } : Jvm.MethodName) method_7_code (2 : Nat) (Option.some Jvm.ClassFile.FieldType.int), Jvm.Cond.code ({ cls := "com/example/evenkeel/evenkeel/RunTableItemsByNumberPinLaw", name := "before", desc := "([III)I" } : Jvm.MethodName) method_6_code (3 : Nat) (Option.some Jvm.ClassFile.FieldType.int)]
set_option maxRecDepth 65536 in
theorem codes_eq : words1.filter isCode = codes1 := rfl
theorem w_codes : ∀ c ∈ words1.filter isCode, c.before args0 about1 = true := by
  rw [codes_eq]
  intro c hc
  simp only [codes1, List.mem_cons, List.not_mem_nil, or_false] at hc
  rcases hc with rfl | rfl | rfl | rfl | rfl | rfl | rfl | rfl
  · exact w_c0
  · exact w_c1
  · exact w_c2
  · exact w_c3
  · exact w_c4
  · exact w_c5
  · exact w_c6
  · exact w_c7
set_option maxRecDepth 65536 in
theorem w_t1 : (words1.take 24).all (fun c => isCode c || c.before args0 about1) = true := by decide +kernel
set_option maxRecDepth 65536 in
theorem w_t2 : (words1.drop 24).all (fun c => isCode c || c.before args0 about1) = true := by decide +kernel
theorem w_tables : (allAtoms (Jvm.Cond.code x code maxLocals ret :: tables_1)).before args0 about1 = true := by
  rw [allAtoms_all]
  show words1.all (fun c => c.before args0 about1) = true
  refine all_split ?_ w_codes
  rw [← List.take_append_drop 24 words1, List.all_append, w_t1, w_t2]
  rfl
set_option maxRecDepth 65536 in
theorem w_case : (Jvm.Cond.and given_1 narrow_1).before args0 about1 = true := by decide +kernel
theorem w_applies : (headSpec (Jvm.Cond.code x code maxLocals ret :: tables_1) room_1).applies x e0.platform about1 = true :=
  (Spec.applies_iff w_frames).mpr ⟨w_running, w_runnable, w_alone, w_named, w_hears, w_ripe, w_room, w_tables⟩
theorem atStart : AtStart classFile x code maxLocals ret World_1 tables_1 room_1 Calls_1 rest_1 Pre_1 launch0 p0 e0 about1 theMethod args0 below0 :=
  ⟨lists_1, trivial, launch0.admits_env _ _ _, launch0.least_env, fairChoices_fair.cas, fairChoices_fair.clock, w_frames, w_args, w_heap, w_applies, trivial, trivial, w_case⟩
end start1
theorem witness_1 : WitnessClaimed_1 := ⟨start1.p0, start1.e0, start1.about1, start1.theMethod, start1.args0, start1.below0, start1.atStart⟩
end Jvm.Pilot.@@N@@
