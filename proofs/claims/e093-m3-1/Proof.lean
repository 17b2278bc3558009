import JvmDerived
import JvmDerived.Pilot.@@N@@Statement
import JvmDerived.Pilot.@@N@@Code
set_option linter.unusedVariables false
set_option linter.unusedSimpArgs false
namespace Jvm.OwnKit
open Sem ClassFile Op Lib Jvm.Stand Jvm.Free Jvm.LawKit Jvm.RoadKit
/-! A layer of this workplace's own over the road kit: the heap made since the law began, as one list of cells by their places ('Wd'), and what is left to run ('Go'), step by step, backwards. -/
abbrev Fl := String × String × String × Value
abbrev Ob := (String × List Fl) ⊕ (FieldType × List Value)
abbrev Wd := List (Addr × Ob)
def Av (Z : State) (h : Heap) (a : Addr) (ty : FieldType) (vs : List Value) : Prop :=
  ∃ c : Cell, Arr Z h a c ty ∧ c.slots.toList = vs ∧ vs.length < 2 ^ 31 ∧ (∀ v ∈ vs, fits ty v = true) ∧ Exa Z h a ("[" ++ ty.toString)
def Hol (Z : State) (h : Heap) (a : Addr) : Ob → Prop
  | .inl (C, fs) => Exa Z h a C ∧ (∀ (i : Nat) (f : Fl), fs[i]? = some f → Fld Z h a f.1 f.2.1 f.2.2.1 f.2.2.2) ∧
      ∀ (i j : Nat) (f g : Fl), fs[i]? = some f → fs[j]? = some g → i ≠ j → Jvm.RoadKit.slotOf Z f.1 f.2.1 f.2.2.1 ≠ Jvm.RoadKit.slotOf Z g.1 g.2.1 g.2.2.1
  | .inr (ty, vs) => Av Z h a ty vs
def Wo (Z : State) (n0 : Nat) (h : Heap) (L : Wd) : Prop :=
  Old Z n0 h ∧ (∀ (i : Nat) (x : Addr × Ob), L[i]? = some x → n0 ≤ x.1 ∧ Hol Z h x.1 x.2) ∧
    ∀ (i j : Nat) (x y : Addr × Ob), L[i]? = some x → L[j]? = some y → x.1 = y.1 → i = j
section Facts
variable {Z : State} {h h' : Heap} {a b : Addr} {n0 : Nat} {L : Wd} {ty : FieldType} {vs : List Value} {o : Ob} {v : Value} {sl : Nat}
theorem Av.lt (A : Av Z h a ty vs) : a < h.size := by obtain ⟨c, h1, -⟩ := A; exact h1.lt
theorem Av.ext (A : Av Z h a ty vs) (E : Ext h h') : Av Z h' a ty vs := by
  obtain ⟨c, h1, h2, h3, h4, h5⟩ := A; exact ⟨c, h1.ext E, h2, h3, h4, h5.ext E⟩
theorem Av.other (A : Av Z h b ty vs) (W : Wr h h' a sl v) (q : b ≠ a) : Av Z h' b ty vs := by
  obtain ⟨c, h1, h2, h3, h4, h5⟩ := A; exact ⟨c, h1.other W q, h2, h3, h4, h5.wr W⟩
theorem Av.same (A : Av Z h a ty vs) {i : Nat} (W : Wr h h' a i v) (hv : fits ty v = true) : Av Z h' a ty (vs.set i v) := by
  obtain ⟨c, h1, h2, h3, h4, h5⟩ := A
  refine ⟨_, h1.same W, ?_, by simpa using h3, fun w hw => ?_, h5.wr W⟩
  · subst h2; simp [Cell.setSlot]
  · rcases List.mem_or_eq_of_mem_set hw with q | q
    · exact h4 w q
    · rw [q]; exact hv
theorem Av.keep {ws : List Addr} (A : Av Z h a ty vs) (K : Keep h h' ws) (q : a ∉ ws) : Av Z h' a ty vs := by
  obtain ⟨c, h1, h2, h3, h4, h5⟩ := A; exact ⟨c, ⟨K.2.1 a c h1.1 q, h1.2⟩, h2, h3, h4, h5.keep K⟩
theorem Hol.lt (H : Hol Z h a o) : a < h.size := by
  rcases o with ⟨C, fs⟩ | ⟨ty, vs⟩
  · exact H.1.lt
  · exact Av.lt H
theorem Hol.ext (H : Hol Z h a o) (E : Ext h h') : Hol Z h' a o := by
  rcases o with ⟨C, fs⟩ | ⟨ty, vs⟩
  · exact ⟨H.1.ext E, fun i f q => (H.2.1 i f q).ext E, H.2.2⟩
  · exact Av.ext H E
theorem Hol.other (H : Hol Z h b o) (W : Wr h h' a sl v) (q : b ≠ a) : Hol Z h' b o := by
  rcases o with ⟨C, fs⟩ | ⟨ty, vs⟩
  · exact ⟨H.1.wr W, fun i f r => (H.2.1 i f r).other W (Or.inl q), H.2.2⟩
  · exact Av.other H W q
theorem Hol.keep {ws : List Addr} (H : Hol Z h a o) (K : Keep h h' ws) (q : a ∉ ws) : Hol Z h' a o := by
  rcases o with ⟨C, fs⟩ | ⟨ty, vs⟩
  · exact ⟨H.1.keep K, fun i f r => (H.2.1 i f r).keep K q, H.2.2⟩
  · exact Av.keep H K q
theorem get_set {α : Type} {xs : List α} {k i : Nat} {x y : α} (h : (xs.set k y)[i]? = some x) : (i = k ∧ x = y) ∨ (i ≠ k ∧ xs[i]? = some x) := by
  by_cases q : k = i
  · subst q
    rw [List.getElem?_set_self'] at h
    left; refine ⟨rfl, ?_⟩
    cases hx : xs[k]? with
    | none => rw [hx] at h; cases h
    | some z => rw [hx] at h; exact (Option.some.inj h).symm
  · right; exact ⟨Ne.symm q, by rwa [List.getElem?_set_ne q] at h⟩
theorem nodup_inj {xs : List String} (h : xs.Nodup) {i j : Nat} {s : String} (hi : xs[i]? = some s) (hj : xs[j]? = some s) : i = j := by
  obtain ⟨i1, i2⟩ := List.getElem?_eq_some_iff.mp hi
  obtain ⟨j1, j2⟩ := List.getElem?_eq_some_iff.mp hj
  have p := List.pairwise_iff_getElem.mp h
  rcases Nat.lt_trichotomy i j with q | q | q
  · exact absurd (i2.trans j2.symm) (p i j i1 j1 q)
  · exact q
  · exact absurd (j2.trans i2.symm) (p j i j1 i1 q)
theorem gne {α : Type} {xs : List α} {k i : Nat} {y : α} {r : Option α} (q : k ≠ i) (h : xs[i]? = r) : (xs.set k y)[i]? = r := by rw [List.getElem?_set_ne q]; exact h
theorem gse {α : Type} {xs : List α} {k : Nat} {x y : α} (h : xs[k]? = some x) : (xs.set k y)[k]? = some y := by
  rw [List.getElem?_set_self (List.getElem?_eq_some_iff.mp h).1]
theorem Wo.ge (W : Wo Z n0 h L) {k : Nat} (hk : L[k]? = some (a, o)) : n0 ≤ a := (W.2.1 k _ hk).1
theorem Wo.at (W : Wo Z n0 h L) {k : Nat} (hk : L[k]? = some (a, o)) : Hol Z h a o := (W.2.1 k _ hk).2
theorem Wo.le (W : Wo Z n0 h L) : n0 ≤ h.size := Nat.le_trans (Nat.le_of_eq W.1.1.symm) W.1.2.1
theorem Wo.ext (W : Wo Z n0 h L) (E : Ext h h') : Wo Z n0 h' L := ⟨W.1.ext E, fun i x q => ⟨(W.2.1 i x q).1, (W.2.1 i x q).2.ext E⟩, W.2.2⟩
theorem Wo.set (W : Wo Z n0 h L) {k : Nat} {o' : Ob} (hk : L[k]? = some (a, o)) (hs : Old Z n0 h') (hn : Hol Z h' a o') (ho : ∀ b o1, b ≠ a → Hol Z h b o1 → Hol Z h' b o1) : Wo Z n0 h' (L.set k (a, o')) := by
  refine ⟨hs, fun i x q => ?_, fun i j x y q r e => ?_⟩
  · rcases get_set q with ⟨rfl, rfl⟩ | ⟨ne, q⟩
    · exact ⟨W.ge hk, hn⟩
    · refine ⟨(W.2.1 i x q).1, ho _ _ (fun z => ne (W.2.2 i k x _ q hk z)) (W.2.1 i x q).2⟩
  · rcases get_set q with ⟨ei, ex⟩ | ⟨ne, q⟩ <;> rcases get_set r with ⟨ej, ey⟩ | ⟨ne', r⟩
    · rw [ei, ej]
    · rw [ex] at e; rw [ei]; exact W.2.2 k j _ _ hk r e
    · rw [ey] at e; rw [ej]; exact W.2.2 i k _ _ q hk e
    · exact W.2.2 _ _ _ _ q r e
theorem Wo.fld (W : Wo Z n0 h L) {k j : Nat} {C O n d : String} {fs : List Fl} {old : Value} (hk : L[k]? = some (a, .inl (C, fs))) (hj : fs[j]? = some (O, n, d, old)) (w : Wr h h' a (Jvm.RoadKit.slotOf Z O n d) v) :
    Wo Z n0 h' (L.set k (a, .inl (C, fs.set j (O, n, d, v)))) := by
  refine W.set hk (W.1.wr w (W.ge hk)) ?_ (fun b o1 ne H => H.other w ne)
  obtain ⟨h1, h2, h3⟩ := W.at hk
  refine ⟨h1.wr w, fun i f q => ?_, fun i i' f g q r ne => ?_⟩
  · rcases get_set q with ⟨ei, ef⟩ | ⟨ne, q⟩
    · rw [ef]
      have q2 : Fld Z h a O n d old := h2 j (O, n, d, old) hj
      show Fld Z h' a O n d v
      exact Fld.same w q2
    · have q2 : Jvm.RoadKit.slotOf Z f.1 f.2.1 f.2.2.1 ≠ Jvm.RoadKit.slotOf Z O n d := h3 i j f (O, n, d, old) q hj ne
      exact Fld.other w (h2 i f q) (Or.inr q2)
  · rcases get_set q with ⟨ei, ef⟩ | ⟨n1, q⟩ <;> rcases get_set r with ⟨ej, eg⟩ | ⟨n2, r⟩
    · exact absurd (ei.trans ej.symm) ne
    · rw [ef]; exact h3 j i' (O, n, d, old) g hj r (fun z => ne (ei.trans z))
    · rw [eg]; exact h3 i j f (O, n, d, old) q hj (fun z => ne (z.trans ej.symm))
    · exact h3 _ _ _ _ q r ne
theorem Wo.arr (W : Wo Z n0 h L) {k i : Nat} (hk : L[k]? = some (a, .inr (ty, vs))) (hv : fits ty v = true) (w : Wr h h' a i v) : Wo Z n0 h' (L.set k (a, .inr (ty, vs.set i v))) :=
  W.set hk (W.1.wr w (W.ge hk)) (Av.same (W.at hk) w hv) (fun b o1 ne H => H.other w ne)
theorem Wo.add (W : Wo Z n0 h L) (E : Ext h h') (H : Hol Z h' h.size o) : Wo Z n0 h' ((h.size, o) :: L) := by
  have lt : ∀ (i : Nat) (x : Addr × Ob), L[i]? = some x → x.1 < h.size := fun i x q => (W.2.1 i x q).2.lt
  refine ⟨W.1.ext E, fun i x q => ?_, fun i j x y q r e => ?_⟩
  · cases i with
    | zero => cases q; exact ⟨W.le, H⟩
    | succ i => rw [List.getElem?_cons_succ] at q; exact ⟨(W.2.1 i x q).1, (W.2.1 i x q).2.ext E⟩
  · cases i with
    | zero =>
      cases j with
      | zero => rfl
      | succ j => rw [List.getElem?_cons_succ] at r; cases q; have := lt j y r; rw [← e] at this; exact absurd this (Nat.lt_irrefl _)
    | succ i =>
      rw [List.getElem?_cons_succ] at q
      cases j with
      | zero => cases r; have := lt i x q; rw [e] at this; exact absurd this (Nat.lt_irrefl _)
      | succ j => rw [List.getElem?_cons_succ] at r; exact congrArg (· + 1) (W.2.2 _ _ _ _ q r e)
theorem Wo.front (W : Wo Z n0 h L) {k : Nat} {x : Addr × Ob} (hk : L[k]? = some x) : Wo Z n0 h (x :: L.eraseIdx k) := by
  have f : ∀ (i : Nat) (y : Addr × Ob), (L.eraseIdx k)[i]? = some y → ∃ j, L[j]? = some y ∧ j ≠ k ∧ j = if i < k then i else i + 1 := fun i y q => by
    rw [List.getElem?_eraseIdx] at q
    by_cases z : i < k
    · rw [if_pos z] at q; exact ⟨i, q, Nat.ne_of_lt z, by rw [if_pos z]⟩
    · rw [if_neg z] at q; exact ⟨i + 1, q, by omega, by rw [if_neg z]⟩
  refine ⟨W.1, fun i y q => ?_, fun i j y z q r e => ?_⟩
  · cases i with
    | zero => cases q; exact W.2.1 k _ hk
    | succ i => rw [List.getElem?_cons_succ] at q; obtain ⟨j, q1, -⟩ := f i y q; exact W.2.1 j y q1
  · cases i with
    | zero =>
      cases j with
      | zero => rfl
      | succ j => rw [List.getElem?_cons_succ] at r; cases q; obtain ⟨j', q1, ne, -⟩ := f j z r; exact absurd (W.2.2 _ _ _ _ hk q1 e).symm ne
    | succ i =>
      rw [List.getElem?_cons_succ] at q
      obtain ⟨i', q1, ne, e1⟩ := f i y q
      cases j with
      | zero => cases r; exact absurd (W.2.2 _ _ _ _ q1 hk e) ne
      | succ j =>
        rw [List.getElem?_cons_succ] at r
        obtain ⟨j', r1, -, e2⟩ := f j z r
        have := W.2.2 _ _ _ _ q1 r1 e
        rw [e1, e2] at this
        split at this <;> split at this <;> omega
theorem Wo.drop (W : Wo Z n0 h L) (k : Nat) : Wo Z n0 h (L.eraseIdx k) := by
  cases hk : L[k]? with
  | none => rw [List.eraseIdx_of_length_le (List.getElem?_eq_none_iff.mp hk)]; exact W
  | some x =>
    have F := W.front hk
    exact ⟨F.1, fun i y q => F.2.1 (i + 1) y q, fun i j y z q r e => Nat.succ.inj (F.2.2 (i + 1) (j + 1) y z q r e)⟩
/-- the index j (an int) is the place i -/
def Ix (j : Int32) (i : Nat) : Prop := ¬ j < 0 ∧ j.toNatClampNeg = i
instance (j : Int32) (i : Nat) : Decidable (Ix j i) := by unfold Ix; exact inferInstance
theorem Ix.ofNat {i : Nat} (h : i < 2 ^ 31) : Ix (Int32.ofNat i) i := by
  have e : (Int32.ofNat i).toInt = i := Int32.toInt_ofNat_of_lt h
  refine ⟨?_, by simp only [Int32.toNatClampNeg, e]; rfl⟩
  rw [Int32.lt_iff_toInt_lt, e]; show ¬ (i : Int) < 0; omega
theorem ltB {i n : Nat} (h : Nat.blt i n = true) : i < n := by simpa using h
theorem Av.inb {c : Cell} {j : Int32} {i : Nat} (hc : c.slots.toList = vs) (hj : Ix j i) (hi : i < vs.length) : ¬ (j < 0 ∨ c.slots.size ≤ j.toNatClampNeg) := by
  rintro (q | q)
  · exact hj.1 q
  · rw [hj.2] at q; subst hc; rw [Array.length_toList] at hi; omega
theorem Av.val {c : Cell} {i : Nat} (hc : c.slots.toList = vs) (hi : vs[i]? = some v) : c.slots[i]? = some v := by
  subst hc; rw [← hi]; simp
end Facts
abbrev Ctx := Program × Env × State × MethodId × Array Value × List Frame × Method × Code
abbrev Ctx.p (κ : Ctx) : Program := κ.1
abbrev Ctx.e (κ : Ctx) : Env := κ.2.1
abbrev Ctx.s (κ : Ctx) : State := κ.2.2.1
abbrev Ctx.m (κ : Ctx) : MethodId := κ.2.2.2.1
abbrev Ctx.args (κ : Ctx) : Array Value := κ.2.2.2.2.1
abbrev Ctx.below (κ : Ctx) : List Frame := κ.2.2.2.2.2.1
abbrev Ctx.meth (κ : Ctx) : Method := κ.2.2.2.2.2.2.1
abbrev Ctx.c (κ : Ctx) : Code := κ.2.2.2.2.2.2.2
def Ok (Z : State) (κ : Ctx) (own : String) (bytes : ByteArray) (maxL : Nat) (ret : Option FieldType) (nm : String) : Prop :=
  κ.p.tables.exec = Jvm.exec ∧ Z.Warmed39 κ.s.vm ∧ κ.s.vm.findClass own = some κ.m.cls ∧ κ.c.code = bytes ∧ κ.c.maxLocals = maxL ∧ κ.meth.sig.returnType = ret ∧ κ.meth.locks = false ∧ κ.meth.name = nm
/-- from here (this heap, this frame) the body runs to its end, and returns what Q says -/
def Go (l : Launch) (Z : State) (n0 : Nat) (R : Room) (Q : Option Value → Wd → Prop) (κ : Ctx) (ce sl : Nat) (L : Wd) (pc : Nat) (Ls : Array Slot) (st : List Value) : Prop :=
  ∀ (T : State) (locs : List Loc), Stand κ.p l κ.e R κ.s κ.m κ.args κ.below κ.meth κ.c T locs ce sl → Fr n0 locs → Wo Z n0 T.heap L →
    ∃ (U : State) (o : Outcome), Steps κ.p.tables κ.e κ.below (T.setTop (mkF κ.m pc Ls st)) U ∧ U.status = .running ∧ Ended U κ.below o ∧
      ∃ (v : Option Value) (Lc : List Loc), o = .returned v ∧ (Fr n0 Lc ∧ ∃ L', Q v L' ∧ Wo Z n0 U.heap L') ∧ FrameEnd κ.s o U Lc R.cells R.slots
/-- the contract of a method, called with these arguments in this world -/
def Con (l : Launch) (Z : State) (n0 : Nat) (y : MethodName) (bytes : ByteArray) (maxL : Nat) (ret : Option FieldType) (rm : Room) (as : List Value) (L : Wd) (Q : Option Value → Wd → Prop) : Prop :=
  ∀ h0, Wo Z n0 h0 L → MetFree l y (head1 [Cond.code y bytes maxL ret] rm) (fun a U => a = as.toArray ∧ Z.Warmed39 U.vm ∧ U.heap = h0) (fun _ _ _ _ _ => True)
    (fun _ U o U' => ∃ (v : Option Value) (Lc : List Loc), o = .returned v ∧ (Fr n0 Lc ∧ ∃ L', Q v L' ∧ Wo Z n0 U'.heap L') ∧ FrameEnd U o U' Lc rm.cells rm.slots)
section Steps
variable {l : Launch} {Z : State} {n0 : Nat} {R : Room} {Q : Option Value → Wd → Prop} {κ : Ctx} {ce sl : Nat} {L : Wd} {pc pc' : Nat} {Ls Ls' : Array Slot} {st rest : List Value} {own : String} {bytes : ByteArray} {maxL : Nat} {ret : Option FieldType} {nm : String} {a0 : Array Value}
/-- what the body owes, over the words ws of its head: the law's own entry and a callee's -/
theorem enter {y : MethodName} {ws : List Cond} {rm : Room} {as : List Value} {h0 : Heap} (W0 : Wo Z n0 h0 L) (hn : plainFor y = true) (ef : ∀ m, entryFrame m as.toArray maxL = mkF m 0 Ls [])
    (body : ∀ κ : Ctx, Ok Z κ y.cls bytes maxL ret y.name → Go l Z n0 rm Q κ 0 0 L 0 Ls []) :
    MetFree l y (head1 (Cond.code y bytes maxL ret :: ws) rm) (fun a U => a = as.toArray ∧ Z.Warmed39 U.vm ∧ U.heap = h0) (fun _ _ _ _ _ => True)
      (fun _ U o U' => ∃ (v : Option Value) (Lc : List Loc), o = .returned v ∧ (Fr n0 Lc ∧ ∃ L', Q v L' ∧ Wo Z n0 U'.heap L') ∧ FrameEnd U o U' Lc rm.cells rm.slots) := by
  refine MetFree.of_bodySF hn hisR ?_
  intro p e s m args below meth c s₁ Bd hml0 hP hK
  obtain ⟨rfl, hZ, hh⟩ := hP
  have hown : s.vm.findClass y.cls = some m.cls := findClass_of_methodNamed Bd.named
  have hnm := (name_of_methodNamed Bd.named Bd.method).1
  have X0 : Stand p l e rm s m as.toArray below meth c s₁ [] 0 0 := Stand.of_body Bd
  have e0 : s₁.heap = h0 := by rw [← hh, Bd.state]; rfl
  obtain ⟨U, o, h1, h2⟩ := body (p, e, s, m, as.toArray, below, meth, c) ⟨Bd.exec, hZ, hown, Bd.bytes, hml0, Bd.returns, Bd.notSynchronized, hnm⟩ s₁ [] X0 (Fr.nil n0) (by rw [e0]; exact W0)
  exact ⟨U, o, castTop (ef m) h1, h2⟩
theorem Con.of {y : MethodName} {rm : Room} {as : List Value} (hn : plainFor y = true) (ef : ∀ m, entryFrame m as.toArray maxL = mkF m 0 Ls [])
    (body : ∀ κ : Ctx, Ok Z κ y.cls bytes maxL ret y.name → Go l Z n0 rm Q κ 0 0 L 0 Ls []) : Con l Z n0 y bytes maxL ret rm as L Q := fun h0 W0 => enter W0 hn ef body
theorem Con.mono {y : MethodName} {rm : Room} {as : List Value} {Q' : Option Value → Wd → Prop} (C : Con l Z n0 y bytes maxL ret rm as L Q) (hq : ∀ v L', Q v L' → Q' v L') : Con l Z n0 y bytes maxL ret rm as L Q' := fun h0 W0 p e h1 h2 h3 s m args below h4 h5 h6 h7 => by
  obtain ⟨n, o, g1, g2, g3, v, Lc, g4, ⟨g5, L', g6, g7⟩, g8⟩ := C h0 W0 p e h1 h2 h3 s m args below h4 h5 h6 h7
  exact ⟨n, o, g1, g2, g3, v, Lc, g4, ⟨g5, L', hq _ _ g6, g7⟩, g8⟩
theorem Go.more {ce' sl' : Nat} (hc : ce ≤ ce') (hs : sl ≤ sl') (nx : Go l Z n0 R Q κ ce' sl' L pc Ls st) : Go l Z n0 R Q κ ce sl L pc Ls st := fun T locs X N W => nx T locs (X.more hc hs) N W
theorem s_front {k : Nat} {x : Addr × Ob} {L' : Wd} (hk : L[k]? = some x) (hL : x :: L.eraseIdx k = L') (nx : Go l Z n0 R Q κ ce sl L' pc Ls st) : Go l Z n0 R Q κ ce sl L pc Ls st := by
  subst hL; exact fun T locs X N W => nx T locs X N (W.front hk)
theorem Go.conv {L' : Wd} (hL : L = L') (nx : Go l Z n0 R Q κ ce sl L' pc Ls st) : Go l Z n0 R Q κ ce sl L pc Ls st := by subst hL; exact nx
theorem s_drop {k : Nat} {L' : Wd} (hL : L.eraseIdx k = L') (nx : Go l Z n0 R Q κ ce sl L' pc Ls st) : Go l Z n0 R Q κ ce sl L pc Ls st := by
  subst hL; exact fun T locs X N W => nx T locs X N (W.drop k)
theorem Go.step (nx : Go l Z n0 R Q κ ce sl L pc' Ls' rest) (h : ∀ (T : State) (locs : List Loc), Stand κ.p l κ.e R κ.s κ.m κ.args κ.below κ.meth κ.c T locs ce sl → ∀ target, Steps κ.p.tables κ.e κ.below (T.setTop (mkF κ.m pc' Ls' rest)) target → Steps κ.p.tables κ.e κ.below (T.setTop (mkF κ.m pc Ls st)) target) : Go l Z n0 R Q κ ce sl L pc Ls st :=
  fun T locs X N W => by obtain ⟨U, o, h1, h2⟩ := nx T locs X N W; exact ⟨U, o, h T locs X U h1, h2⟩
theorem Ok.dec {r : Except DecodeError (Instr × Nat)} (K : Ok Z κ own bytes maxL ret nm) (h : decode bytes pc = r) : decode κ.c.code pc = r := hb K.2.2.2.1 h
theorem Ok.ex (K : Ok Z κ own bytes maxL ret nm) : κ.p.tables.exec = Jvm.exec := K.1
theorem Ok.zw (K : Ok Z κ own bytes maxL ret nm) : Z.Warmed39 κ.s.vm := K.2.1
theorem Ok.ow (K : Ok Z κ own bytes maxL ret nm) : κ.s.vm.findClass own = some κ.m.cls := K.2.2.1
theorem s_aloadN (K : Ok Z κ own bytes maxL ret nm) {k : Fin 4} {v : Value} (hd : decode bytes pc = .ok (.aload_n k, 1)) (e : pc + 1 = pc') (hl : Ls[k.val]? = some (.val v)) (hv : v.isRef = true) (nx : Go l Z n0 R Q κ ce sl L pc' Ls (v :: st)) : Go l Z n0 R Q κ ce sl L pc Ls st := by
  subst e; exact nx.step fun T locs X target h => XS.aloadN X.here K.ex rfl (K.dec hd) hl hv h
theorem s_aload (K : Ok Z κ own bytes maxL ret nm) {k : Nat} {v : Value} (hd : decode bytes pc = .ok (.aload k, 2)) (e : pc + 2 = pc') (hl : Ls[k]? = some (.val v)) (hv : v.isRef = true) (nx : Go l Z n0 R Q κ ce sl L pc' Ls (v :: st)) : Go l Z n0 R Q κ ce sl L pc Ls st := by
  subst e; exact nx.step fun T locs X target h => XS.aload X.here K.ex rfl (K.dec hd) hl hv h
theorem s_iloadN (K : Ok Z κ own bytes maxL ret nm) {k : Fin 4} {v : Int32} (hd : decode bytes pc = .ok (.iload_n k, 1)) (e : pc + 1 = pc') (hl : Ls[k.val]? = some (.val (.int v))) (nx : Go l Z n0 R Q κ ce sl L pc' Ls (.int v :: st)) : Go l Z n0 R Q κ ce sl L pc Ls st := by
  subst e; exact nx.step fun T locs X target h => XS.iloadN X.here K.ex rfl (K.dec hd) hl h
theorem s_iload (K : Ok Z κ own bytes maxL ret nm) {k : Nat} {v : Int32} (hd : decode bytes pc = .ok (.iload k, 2)) (e : pc + 2 = pc') (hl : Ls[k]? = some (.val (.int v))) (nx : Go l Z n0 R Q κ ce sl L pc' Ls (.int v :: st)) : Go l Z n0 R Q κ ce sl L pc Ls st := by
  subst e; exact nx.step fun T locs X target h => XS.iload X.here K.ex rfl (K.dec hd) hl h
theorem s_lloadN (K : Ok Z κ own bytes maxL ret nm) {k : Fin 4} {v : Int64} (hd : decode bytes pc = .ok (.lload_n k, 1)) (e : pc + 1 = pc') (hl : Ls[k.val]? = some (.val (.long v))) (nx : Go l Z n0 R Q κ ce sl L pc' Ls (.long v :: st)) : Go l Z n0 R Q κ ce sl L pc Ls st := by
  subst e; exact nx.step fun T locs X target h => XT.lloadN X.here K.ex rfl (K.dec hd) hl h
theorem s_lload (K : Ok Z κ own bytes maxL ret nm) {k : Nat} {v : Int64} (hd : decode bytes pc = .ok (.lload k, 2)) (e : pc + 2 = pc') (hl : Ls[k]? = some (.val (.long v))) (nx : Go l Z n0 R Q κ ce sl L pc' Ls (.long v :: st)) : Go l Z n0 R Q κ ce sl L pc Ls st := by
  subst e; exact nx.step fun T locs X target h => XT.lload X.here K.ex rfl (K.dec hd) hl h
theorem s_iconst (K : Ok Z κ own bytes maxL ret nm) {i : Int} {z : Int32} (hd : decode bytes pc = .ok (.iconst i, 1)) (e : pc + 1 = pc') (hz : Int32.ofInt i = z) (nx : Go l Z n0 R Q κ ce sl L pc' Ls (.int z :: st)) : Go l Z n0 R Q κ ce sl L pc Ls st := by
  subst e hz; exact nx.step fun T locs X target h => XS.iconst X.here K.ex rfl (K.dec hd) h
theorem s_bipush (K : Ok Z κ own bytes maxL ret nm) {i : Int} {z : Int32} (hd : decode bytes pc = .ok (.bipush i, 2)) (e : pc + 2 = pc') (hz : (Int8.ofInt i).toInt32 = z) (nx : Go l Z n0 R Q κ ce sl L pc' Ls (.int z :: st)) : Go l Z n0 R Q κ ce sl L pc Ls st := by
  subst e hz; exact nx.step fun T locs X target h => XS.bipush X.here K.ex rfl (K.dec hd) h
theorem s_sipush (K : Ok Z κ own bytes maxL ret nm) {i : Int} {z : Int32} (hd : decode bytes pc = .ok (.sipush i, 3)) (e : pc + 3 = pc') (hz : (Int16.ofInt i).toInt32 = z) (nx : Go l Z n0 R Q κ ce sl L pc' Ls (.int z :: st)) : Go l Z n0 R Q κ ce sl L pc Ls st := by
  subst e hz; exact nx.step fun T locs X target h => XS.sipush X.here K.ex rfl (K.dec hd) h
theorem s_null (K : Ok Z κ own bytes maxL ret nm) (hd : decode bytes pc = .ok (.aconst_null, 1)) (e : pc + 1 = pc') (nx : Go l Z n0 R Q κ ce sl L pc' Ls (.null :: st)) : Go l Z n0 R Q κ ce sl L pc Ls st := by
  subst e; exact nx.step fun T locs X target h => XS.aconstNull X.here K.ex rfl (K.dec hd) h
theorem s_ldc (K : Ok Z κ own bytes maxL ret nm) {i : Nat} {z : Int32} (hd : decode bytes pc = .ok (.ldc i, 2)) (e : pc + 2 = pc') (w : (Cond.constant own i z).before a0 Z = true) (nx : Go l Z n0 R Q κ ce sl L pc' Ls (.int z :: st)) : Go l Z n0 R Q κ ce sl L pc Ls st := by
  subst e; exact nx.step fun T locs X target h => X.ldcInt K.ex K.ow (mvT K.zw w) (g := mkF κ.m pc Ls st) rfl (K.dec hd) target h
theorem s_iadd (K : Ok Z κ own bytes maxL ret nm) {z : Int32} {x y : Int32} (hd : decode bytes pc = .ok (.iadd, 1)) (e : pc + 1 = pc') (hz : x + y = z) (nx : Go l Z n0 R Q κ ce sl L pc' Ls (.int z :: st)) : Go l Z n0 R Q κ ce sl L pc Ls (.int y :: .int x :: st) := by
  subst e hz; exact nx.step fun T locs X target h => XS.iadd X.here K.ex rfl (K.dec hd) rfl h
theorem s_isub (K : Ok Z κ own bytes maxL ret nm) {z : Int32} {x y : Int32} (hd : decode bytes pc = .ok (.isub, 1)) (e : pc + 1 = pc') (hz : x - y = z) (nx : Go l Z n0 R Q κ ce sl L pc' Ls (.int z :: st)) : Go l Z n0 R Q κ ce sl L pc Ls (.int y :: .int x :: st) := by
  subst e hz; exact nx.step fun T locs X target h => XS.isub X.here K.ex rfl (K.dec hd) rfl h
theorem s_imul (K : Ok Z κ own bytes maxL ret nm) {z : Int32} {x y : Int32} (hd : decode bytes pc = .ok (.imul, 1)) (e : pc + 1 = pc') (hz : x * y = z) (nx : Go l Z n0 R Q κ ce sl L pc' Ls (.int z :: st)) : Go l Z n0 R Q κ ce sl L pc Ls (.int y :: .int x :: st) := by
  subst e hz; exact nx.step fun T locs X target h => XS.imul X.here K.ex rfl (K.dec hd) rfl h
theorem s_irem (K : Ok Z κ own bytes maxL ret nm) {z : Int32} {x y : Int32} (hd : decode bytes pc = .ok (.irem, 1)) (e : pc + 1 = pc') (hy : y ≠ 0) (hz : x % y = z) (nx : Go l Z n0 R Q κ ce sl L pc' Ls (.int z :: st)) : Go l Z n0 R Q κ ce sl L pc Ls (.int y :: .int x :: st) := by
  subst e hz; exact nx.step fun T locs X target h => iremM X K.ex rfl (K.dec hd) rfl hy h
theorem s_idiv (K : Ok Z κ own bytes maxL ret nm) {z : Int32} {x y : Int32} (hd : decode bytes pc = .ok (.idiv, 1)) (e : pc + 1 = pc') (hy : y ≠ 0) (hz : x / y = z) (nx : Go l Z n0 R Q κ ce sl L pc' Ls (.int z :: st)) : Go l Z n0 R Q κ ce sl L pc Ls (.int y :: .int x :: st) := by
  subst e hz; exact nx.step fun T locs X target h => XS.idiv X.here K.ex rfl (K.dec hd) rfl hy h
theorem s_iand (K : Ok Z κ own bytes maxL ret nm) {z : Int32} {x y : Int32} (hd : decode bytes pc = .ok (.iand, 1)) (e : pc + 1 = pc') (hz : x &&& y = z) (nx : Go l Z n0 R Q κ ce sl L pc' Ls (.int z :: st)) : Go l Z n0 R Q κ ce sl L pc Ls (.int y :: .int x :: st) := by
  subst e hz; exact nx.step fun T locs X target h => XS.iand X.here K.ex rfl (K.dec hd) rfl h
theorem s_dup (K : Ok Z κ own bytes maxL ret nm) {x : Value} (hd : decode bytes pc = .ok (.dup, 1)) (e : pc + 1 = pc') (hc : x.category = 1) (nx : Go l Z n0 R Q κ ce sl L pc' Ls (x :: x :: st)) : Go l Z n0 R Q κ ce sl L pc Ls (x :: st) := by
  subst e; exact nx.step fun T locs X target h => XS.dup X.here K.ex rfl (K.dec hd) rfl hc h
theorem s_istoreN (K : Ok Z κ own bytes maxL ret nm) {k : Fin 4} {x : Int32} (hd : decode bytes pc = .ok (.istore_n k, 1)) (e : pc + 1 = pc') (hl : storeLocals Ls k.val (.int x) = some Ls') (nx : Go l Z n0 R Q κ ce sl L pc' Ls' st) : Go l Z n0 R Q κ ce sl L pc Ls (.int x :: st) := by
  subst e; exact nx.step fun T locs X target h => XS.istoreN X.here K.ex rfl (K.dec hd) rfl hl h
theorem s_istore (K : Ok Z κ own bytes maxL ret nm) {k : Nat} {x : Int32} (hd : decode bytes pc = .ok (.istore k, 2)) (e : pc + 2 = pc') (hl : storeLocals Ls k (.int x) = some Ls') (nx : Go l Z n0 R Q κ ce sl L pc' Ls' st) : Go l Z n0 R Q κ ce sl L pc Ls (.int x :: st) := by
  subst e; exact nx.step fun T locs X target h => XS.istore X.here K.ex rfl (K.dec hd) rfl hl h
theorem s_astoreN (K : Ok Z κ own bytes maxL ret nm) {k : Fin 4} {x : Value} (hd : decode bytes pc = .ok (.astore_n k, 1)) (e : pc + 1 = pc') (hv : x.isRef = true) (hl : storeLocals Ls k.val x = some Ls') (nx : Go l Z n0 R Q κ ce sl L pc' Ls' st) : Go l Z n0 R Q κ ce sl L pc Ls (x :: st) := by
  subst e; exact nx.step fun T locs X target h => XS.astoreN X.here K.ex rfl (K.dec hd) rfl hv hl h
theorem s_astore (K : Ok Z κ own bytes maxL ret nm) {k : Nat} {x : Value} (hd : decode bytes pc = .ok (.astore k, 2)) (e : pc + 2 = pc') (hv : x.isRef = true) (hl : storeLocals Ls k x = some Ls') (nx : Go l Z n0 R Q κ ce sl L pc' Ls' st) : Go l Z n0 R Q κ ce sl L pc Ls (x :: st) := by
  subst e; exact nx.step fun T locs X target h => XS.astore X.here K.ex rfl (K.dec hd) rfl hv hl h
theorem s_lstoreN (K : Ok Z κ own bytes maxL ret nm) {k : Fin 4} {x : Int64} (hd : decode bytes pc = .ok (.lstore_n k, 1)) (e : pc + 1 = pc') (hl : storeLocals Ls k.val (.long x) = some Ls') (nx : Go l Z n0 R Q κ ce sl L pc' Ls' st) : Go l Z n0 R Q κ ce sl L pc Ls (.long x :: st) := by
  subst e; exact nx.step fun T locs X target h => XT.lstoreN X.here K.ex rfl (K.dec hd) rfl hl h
theorem s_lstore (K : Ok Z κ own bytes maxL ret nm) {k : Nat} {x : Int64} (hd : decode bytes pc = .ok (.lstore k, 2)) (e : pc + 2 = pc') (hl : storeLocals Ls k (.long x) = some Ls') (nx : Go l Z n0 R Q κ ce sl L pc' Ls' st) : Go l Z n0 R Q κ ce sl L pc Ls (.long x :: st) := by
  subst e; exact nx.step fun T locs X target h => XT.lstore X.here K.ex rfl (K.dec hd) rfl hl h
theorem s_iinc (K : Ok Z κ own bytes maxL ret nm) {k : Nat} {cst : Int} {x z : Int32} (hd : decode bytes pc = .ok (.iinc k cst, 3)) (e : pc + 3 = pc') (hl : Ls[k]? = some (.val (.int x))) (hz : x + Int32.ofInt cst = z) (hl' : storeLocals Ls k (.int z) = some Ls') (nx : Go l Z n0 R Q κ ce sl L pc' Ls' st) : Go l Z n0 R Q κ ce sl L pc Ls st := by
  subst e hz; exact nx.step fun T locs X target h => XS.iinc X.here K.ex rfl (K.dec hd) hl hl' h
theorem s_goto (K : Ok Z κ own bytes maxL ret nm) {o : Int} (hd : decode bytes pc = .ok (.goto o, 3)) (ho : 0 ≤ (pc : Int) + o) (hp : ((pc : Int) + o).toNat = pc') (nx : Go l Z n0 R Q κ ce sl L pc' Ls st) : Go l Z n0 R Q κ ce sl L pc Ls st :=
  nx.step fun T locs X target h => XS.goto X.here K.ex rfl rfl (K.dec hd) ho hp h
theorem s_ifY (K : Ok Z κ own bytes maxL ret nm) {cd : ClassFile.Cond} {x : Int32} {o : Int} (hd : decode bytes pc = .ok (.ifCond cd o, 3)) (hc : ifCond.holds cd x = true) (ho : 0 ≤ (pc : Int) + o) (hp : ((pc : Int) + o).toNat = pc') (nx : Go l Z n0 R Q κ ce sl L pc' Ls st) : Go l Z n0 R Q κ ce sl L pc Ls (.int x :: st) :=
  nx.step fun T locs X target h => XS.ifYes X.here K.ex rfl rfl (K.dec hd) rfl hc ho hp h
theorem s_ifN (K : Ok Z κ own bytes maxL ret nm) {cd : ClassFile.Cond} {x : Int32} {o : Int} (hd : decode bytes pc = .ok (.ifCond cd o, 3)) (e : pc + 3 = pc') (hc : ifCond.holds cd x = false) (nx : Go l Z n0 R Q κ ce sl L pc' Ls st) : Go l Z n0 R Q κ ce sl L pc Ls (.int x :: st) := by
  subst e; exact nx.step fun T locs X target h => XS.ifNo X.here K.ex rfl (K.dec hd) rfl hc h
theorem s_icY (K : Ok Z κ own bytes maxL ret nm) {cd : ClassFile.Cond} {x y : Int32} {o : Int} (hd : decode bytes pc = .ok (.if_icmp cd o, 3)) (hc : if_icmp.holds cd x y = true) (ho : 0 ≤ (pc : Int) + o) (hp : ((pc : Int) + o).toNat = pc') (nx : Go l Z n0 R Q κ ce sl L pc' Ls st) : Go l Z n0 R Q κ ce sl L pc Ls (.int y :: .int x :: st) :=
  nx.step fun T locs X target h => XS.icmpYes X.here K.ex rfl rfl (K.dec hd) rfl hc ho hp h
theorem s_icN (K : Ok Z κ own bytes maxL ret nm) {cd : ClassFile.Cond} {x y : Int32} {o : Int} (hd : decode bytes pc = .ok (.if_icmp cd o, 3)) (e : pc + 3 = pc') (hc : if_icmp.holds cd x y = false) (nx : Go l Z n0 R Q κ ce sl L pc' Ls st) : Go l Z n0 R Q κ ce sl L pc Ls (.int y :: .int x :: st) := by
  subst e; exact nx.step fun T locs X target h => XS.icmpNo X.here K.ex rfl (K.dec hd) rfl hc h
theorem s_nullY (K : Ok Z κ own bytes maxL ret nm) {o : Int} (hd : decode bytes pc = .ok (.ifnull o, 3)) (ho : 0 ≤ (pc : Int) + o) (hp : ((pc : Int) + o).toNat = pc') (nx : Go l Z n0 R Q κ ce sl L pc' Ls st) : Go l Z n0 R Q κ ce sl L pc Ls (.null :: st) :=
  nx.step fun T locs X target h => XS.ifnullYes X.here K.ex rfl rfl (K.dec hd) rfl ho hp h
theorem s_nullN (K : Ok Z κ own bytes maxL ret nm) {o : Int} {b : Addr} (hd : decode bytes pc = .ok (.ifnull o, 3)) (e : pc + 3 = pc') (nx : Go l Z n0 R Q κ ce sl L pc' Ls st) : Go l Z n0 R Q κ ce sl L pc Ls (.ref b :: st) := by
  subst e; exact nx.step fun T locs X target h => XS.ifnullNo X.here K.ex rfl (K.dec hd) rfl h
theorem s_nonnullY (K : Ok Z κ own bytes maxL ret nm) {o : Int} {b : Addr} (hd : decode bytes pc = .ok (.ifnonnull o, 3)) (ho : 0 ≤ (pc : Int) + o) (hp : ((pc : Int) + o).toNat = pc') (nx : Go l Z n0 R Q κ ce sl L pc' Ls st) : Go l Z n0 R Q κ ce sl L pc Ls (.ref b :: st) :=
  nx.step fun T locs X target h => XT.ifnonnullYes X.here K.ex rfl rfl (K.dec hd) rfl ho hp h
theorem s_nonnullN (K : Ok Z κ own bytes maxL ret nm) {o : Int} (hd : decode bytes pc = .ok (.ifnonnull o, 3)) (e : pc + 3 = pc') (nx : Go l Z n0 R Q κ ce sl L pc' Ls st) : Go l Z n0 R Q κ ce sl L pc Ls (.null :: st) := by
  subst e; exact nx.step fun T locs X target h => XT.ifnonnullNo X.here K.ex rfl (K.dec hd) rfl h
theorem s_iushr (K : Ok Z κ own bytes maxL ret nm) {x y z : Int32} (hd : decode bytes pc = .ok (.iushr, 1)) (e : pc + 1 = pc') (hz : XT.ushr x y = z) (nx : Go l Z n0 R Q κ ce sl L pc' Ls (.int z :: st)) : Go l Z n0 R Q κ ce sl L pc Ls (.int y :: .int x :: st) := by
  subst e hz; exact nx.step fun T locs X target h => XT.iushr X.here K.ex rfl (K.dec hd) rfl h
theorem s_i2b (K : Ok Z κ own bytes maxL ret nm) {z : Int32} {x : Int32} (hd : decode bytes pc = .ok (.i2b, 1)) (e : pc + 1 = pc') (hz : x.toInt8.toInt32 = z) (nx : Go l Z n0 R Q κ ce sl L pc' Ls (.int z :: st)) : Go l Z n0 R Q κ ce sl L pc Ls (.int x :: st) := by
  subst e hz; exact nx.step fun T locs X target h => XT.i2b X.here K.ex rfl (K.dec hd) rfl h
theorem s_dupx1 (K : Ok Z κ own bytes maxL ret nm) {x y : Value} (hd : decode bytes pc = .ok (.dup_x1, 1)) (e : pc + 1 = pc') (hc : x.category = 1) (hc' : y.category = 1) (nx : Go l Z n0 R Q κ ce sl L pc' Ls (x :: y :: x :: st)) : Go l Z n0 R Q κ ce sl L pc Ls (x :: y :: st) := by
  subst e; exact nx.step fun T locs X target h => XT.dupX1 X.here K.ex rfl (K.dec hd) rfl hc hc' h
theorem s_dup2 (K : Ok Z κ own bytes maxL ret nm) {x y : Value} (hd : decode bytes pc = .ok (.dup2, 1)) (e : pc + 1 = pc') (hc : x.category = 1) (hc' : y.category = 1) (nx : Go l Z n0 R Q κ ce sl L pc' Ls (x :: y :: x :: y :: st)) : Go l Z n0 R Q κ ce sl L pc Ls (x :: y :: st) := by
  subst e; exact nx.step fun T locs X target h => XT.dup2 X.here K.ex rfl (K.dec hd) rfl hc hc' h
theorem s_pop (K : Ok Z κ own bytes maxL ret nm) {x : Value} (hd : decode bytes pc = .ok (.pop, 1)) (e : pc + 1 = pc') (hc : x.category = 1) (nx : Go l Z n0 R Q κ ce sl L pc' Ls st) : Go l Z n0 R Q κ ce sl L pc Ls (x :: st) := by
  subst e; exact nx.step fun T locs X target h => XT.pop X.here K.ex rfl (K.dec hd) rfl hc h
theorem s_lcmp (K : Ok Z κ own bytes maxL ret nm) {x y : Int64} (hd : decode bytes pc = .ok (.lcmp, 1)) (e : pc + 1 = pc') (nx : Go l Z n0 R Q κ ce sl L pc' Ls (.int (XT.cmpL x y) :: st)) : Go l Z n0 R Q κ ce sl L pc Ls (.long y :: .long x :: st) := by
  subst e; exact nx.step fun T locs X target h => XT.lcmp X.here K.ex rfl (K.dec hd) rfl h
theorem s_ladd (K : Ok Z κ own bytes maxL ret nm) {z : Int64} {x y : Int64} (hd : decode bytes pc = .ok (.ladd, 1)) (e : pc + 1 = pc') (hz : x + y = z) (nx : Go l Z n0 R Q κ ce sl L pc' Ls (.long z :: st)) : Go l Z n0 R Q κ ce sl L pc Ls (.long y :: .long x :: st) := by
  subst e hz; exact nx.step fun T locs X target h => XT.ladd X.here K.ex rfl (K.dec hd) rfl h
theorem s_lxor (K : Ok Z κ own bytes maxL ret nm) {z : Int64} {x y : Int64} (hd : decode bytes pc = .ok (.lxor, 1)) (e : pc + 1 = pc') (hz : x ^^^ y = z) (nx : Go l Z n0 R Q κ ce sl L pc' Ls (.long z :: st)) : Go l Z n0 R Q κ ce sl L pc Ls (.long y :: .long x :: st) := by
  subst e hz; exact nx.step fun T locs X target h => XT.lxor X.here K.ex rfl (K.dec hd) rfl h
theorem s_lushr (K : Ok Z κ own bytes maxL ret nm) {z : Int64} {x : Int64} {y : Int32} (hd : decode bytes pc = .ok (.lushr, 1)) (e : pc + 1 = pc') (hz : XT.ushrL x y = z) (nx : Go l Z n0 R Q κ ce sl L pc' Ls (.long z :: st)) : Go l Z n0 R Q κ ce sl L pc Ls (.int y :: .long x :: st) := by
  subst e hz; exact nx.step fun T locs X target h => XT.lushr X.here K.ex rfl (K.dec hd) rfl h
theorem s_l2i (K : Ok Z κ own bytes maxL ret nm) {z : Int32} {x : Int64} (hd : decode bytes pc = .ok (.l2i, 1)) (e : pc + 1 = pc') (hz : x.toInt32 = z) (nx : Go l Z n0 R Q κ ce sl L pc' Ls (.int z :: st)) : Go l Z n0 R Q κ ce sl L pc Ls (.long x :: st) := by
  subst e hz; exact nx.step fun T locs X target h => XT.l2i X.here K.ex rfl (K.dec hd) rfl h
theorem s_dupx2 (K : Ok Z κ own bytes maxL ret nm) {x y z : Value} (hd : decode bytes pc = .ok (.dup_x2, 1)) (e : pc + 1 = pc') (hc : x.category = 1) (hc' : y.category = 1) (hc'' : z.category = 1) (nx : Go l Z n0 R Q κ ce sl L pc' Ls (x :: y :: z :: x :: st)) : Go l Z n0 R Q κ ce sl L pc Ls (x :: y :: z :: st) := by
  subst e; exact nx.step fun T locs X target h => by
    have hx := K.ex
    have hd' := K.dec hd
    jvm_step X.here [X.here.top, hx, hd', hc, hc', hc'']
    exact h
theorem s_if (K : Ok Z κ own bytes maxL ret nm) {cd : ClassFile.Cond} {x : Int32} {o : Int} {pn : Nat} (hd : decode bytes pc = .ok (.ifCond cd o, 3)) (e : pc + 3 = pn) (ho : 0 ≤ (pc : Int) + o) (hp : ((pc : Int) + o).toNat = pc') (yes : ifCond.holds cd x = true → Go l Z n0 R Q κ ce sl L pc' Ls st) (no : ifCond.holds cd x = false → Go l Z n0 R Q κ ce sl L pn Ls st) : Go l Z n0 R Q κ ce sl L pc Ls (.int x :: st) := by
  cases h : ifCond.holds cd x
  · exact s_ifN K hd e h (no h)
  · exact s_ifY K hd h ho hp (yes h)
theorem s_ic (K : Ok Z κ own bytes maxL ret nm) {cd : ClassFile.Cond} {x y : Int32} {o : Int} {pn : Nat} (hd : decode bytes pc = .ok (.if_icmp cd o, 3)) (e : pc + 3 = pn) (ho : 0 ≤ (pc : Int) + o) (hp : ((pc : Int) + o).toNat = pc') (yes : if_icmp.holds cd x y = true → Go l Z n0 R Q κ ce sl L pc' Ls st) (no : if_icmp.holds cd x y = false → Go l Z n0 R Q κ ce sl L pn Ls st) : Go l Z n0 R Q κ ce sl L pc Ls (.int y :: .int x :: st) := by
  cases h : if_icmp.holds cd x y
  · exact s_icN K hd e h (no h)
  · exact s_icY K hd h ho hp (yes h)
/-! the heap -/
theorem s_getf (K : Ok Z κ own bytes maxL ret nm) {idx k j : Nat} {O n d C : String} {a : Addr} {fs : List Fl} {v : Value} (hd : decode bytes pc = .ok (.getfield idx, 3)) (e : pc + 3 = pc') (w : (Cond.fieldLink own idx O n d).before a0 Z = true)
    (hk : L[k]? = some (a, .inl (C, fs))) (hj : fs[j]? = some (O, n, d, v)) (nx : Go l Z n0 R Q κ ce sl L pc' Ls (v :: st)) : Go l Z n0 R Q κ ce sl L pc Ls (.ref a :: st) := by
  subst e; intro T locs X N W
  obtain ⟨T', X', e', stp⟩ := getF X K.ex K.zw K.ow (host := "") (Or.inl w) Via.refl rfl ((W.at hk).2.1 _ _ hj) (g := mkF κ.m pc Ls (.ref a :: st)) rfl rfl (K.dec hd)
  obtain ⟨U, o, h1, h2⟩ := nx T' locs X' N (by rw [e']; exact W)
  exact ⟨U, o, stp U h1, h2⟩
theorem s_putf (K : Ok Z κ own bytes maxL ret nm) {idx k j kk : Nat} {O n d C : String} {a : Addr} {fs : List Fl} {v old : Value} {ty : FieldType} {L' : Wd} (hd : decode bytes pc = .ok (.putfield idx, 3)) (e : pc + 3 = pc') (w : (Cond.fieldLink own idx O n d).before a0 Z = true)
    (w2 : (Cond.lays C O n d).before a0 Z = true ∨ ((Cond.laysFinal C O n d).before a0 Z = true ∧ own = O ∧ nm = "<init>")) (w3 : (Cond.instantiable C kk).before a0 Z = true) (hty : parseFieldDescriptor d = some ty) (hn : narrow ty v = v) (hf : fits ty v = true)
    (hk : L[k]? = some (a, .inl (C, fs))) (hj : fs[j]? = some (O, n, d, old)) (hL : L.set k (a, .inl (C, fs.set j (O, n, d, v))) = L') (nx : Go l Z n0 R Q κ ce sl L' pc' Ls st) : Go l Z n0 R Q κ ce sl L pc Ls (v :: .ref a :: st) := by
  subst e hL; intro T locs X N W
  obtain ⟨T', h', X', e', Wr', stp⟩ := putF X K.ex K.zw K.ow (host := "") (Or.inl w) Via.refl rfl ((W.at hk).2.1 _ _ hj) (W.at hk).1 (w2.imp id fun q => ⟨q.1, q.2.1, K.2.2.2.2.2.2.2.trans q.2.2⟩) w3 hty hn hf (g := mkF κ.m pc Ls (v :: .ref a :: st)) rfl rfl (K.dec hd)
  obtain ⟨U, o, h1, h2⟩ := nx T' _ X' (Fr.snoc X' N (W.ge hk)) (by rw [e']; exact W.fld hk hj Wr')
  exact ⟨U, o, stp U h1, h2⟩
theorem s_len (K : Ok Z κ own bytes maxL ret nm) {k : Nat} {a : Addr} {ty : FieldType} {vs : List Value} {z : Int32} (hd : decode bytes pc = .ok (.arraylength, 1)) (e : pc + 1 = pc') (hk : L[k]? = some (a, .inr (ty, vs))) (hz : Int32.ofNat vs.length = z)
    (nx : Go l Z n0 R Q κ ce sl L pc' Ls (.int z :: st)) : Go l Z n0 R Q κ ce sl L pc Ls (.ref a :: st) := by
  subst e hz; intro T locs X N W
  obtain ⟨c, A, hc, -⟩ := W.at hk
  obtain ⟨U, o, h1, h2⟩ := nx T locs X N W
  refine ⟨U, o, ?_, h2⟩
  refine X.arraylength K.ex A.1 (State.isArrayOf_alike K.zw.alike A.2.1) (g := mkF κ.m pc Ls (.ref a :: st)) rfl rfl (K.dec hd) _ ?_
  have q : c.slots.size = vs.length := by rw [← hc, Array.length_toList]
  rw [q]; exact h1
theorem s_iaload (K : Ok Z κ own bytes maxL ret nm) {k i : Nat} {a : Addr} {j : Int32} {vs : List Value} {v : Value} (hd : decode bytes pc = .ok (.iaload, 1)) (e : pc + 1 = pc') (hk : L[k]? = some (a, .inr (.int, vs))) (hj : Ix j i) (hi : vs[i]? = some v)
    (nx : Go l Z n0 R Q κ ce sl L pc' Ls (v :: st)) : Go l Z n0 R Q κ ce sl L pc Ls (.int j :: .ref a :: st) := by
  subst e; intro T locs X N W
  obtain ⟨c, A, hc, -⟩ := W.at hk
  obtain ⟨U, o, h1, h2⟩ := nx T locs X N W
  exact ⟨U, o, X.iaload K.ex A.1 (State.isArrayOf_alike K.zw.alike A.2.1) A.2.2 (Av.inb hc hj (List.getElem?_eq_some_iff.mp hi).1) (by rw [hj.2]; exact Av.val hc hi) (g := mkF κ.m pc Ls (.int j :: .ref a :: st)) rfl rfl (K.dec hd) _ h1, h2⟩
theorem s_laload (K : Ok Z κ own bytes maxL ret nm) {k i : Nat} {a : Addr} {j : Int32} {vs : List Value} {v : Value} (hd : decode bytes pc = .ok (.laload, 1)) (e : pc + 1 = pc') (hk : L[k]? = some (a, .inr (.long, vs))) (hj : Ix j i) (hi : vs[i]? = some v)
    (nx : Go l Z n0 R Q κ ce sl L pc' Ls (v :: st)) : Go l Z n0 R Q κ ce sl L pc Ls (.int j :: .ref a :: st) := by
  subst e; intro T locs X N W
  obtain ⟨c, A, hc, -⟩ := W.at hk
  obtain ⟨U, o, h1, h2⟩ := nx T locs X N W
  exact ⟨U, o, X.laload K.ex A.1 (State.isArrayOf_alike K.zw.alike A.2.1) A.2.2 (Av.inb hc hj (List.getElem?_eq_some_iff.mp hi).1) (by rw [hj.2]; exact Av.val hc hi) (g := mkF κ.m pc Ls (.int j :: .ref a :: st)) rfl rfl (K.dec hd) _ h1, h2⟩
theorem s_baload (K : Ok Z κ own bytes maxL ret nm) {k i : Nat} {a : Addr} {j : Int32} {vs : List Value} {v : Value} (hd : decode bytes pc = .ok (.baload, 1)) (e : pc + 1 = pc') (hk : L[k]? = some (a, .inr (.byte, vs))) (hj : Ix j i) (hi : vs[i]? = some v)
    (nx : Go l Z n0 R Q κ ce sl L pc' Ls (v :: st)) : Go l Z n0 R Q κ ce sl L pc Ls (.int j :: .ref a :: st) := by
  subst e; intro T locs X N W
  obtain ⟨c, A, hc, -⟩ := W.at hk
  obtain ⟨U, o, h1, h2⟩ := nx T locs X N W
  exact ⟨U, o, X.baloadBytes K.ex A.1 (State.isArrayOf_alike K.zw.alike A.2.1) A.2.2 (Av.inb hc hj (List.getElem?_eq_some_iff.mp hi).1) (by rw [hj.2]; exact Av.val hc hi) (g := mkF κ.m pc Ls (.int j :: .ref a :: st)) rfl rfl (K.dec hd) _ h1, h2⟩
theorem s_aaload (K : Ok Z κ own bytes maxL ret nm) {k i : Nat} {a : Addr} {j : Int32} {ty : FieldType} {vs : List Value} {v : Value} (hd : decode bytes pc = .ok (.aaload, 1)) (e : pc + 1 = pc') (hk : L[k]? = some (a, .inr (ty, vs))) (hty : ty.isReference = true) (hj : Ix j i) (hi : vs[i]? = some v)
    (nx : Go l Z n0 R Q κ ce sl L pc' Ls (v :: st)) : Go l Z n0 R Q κ ce sl L pc Ls (.int j :: .ref a :: st) := by
  subst e; intro T locs X N W
  obtain ⟨c, A, hc, -⟩ := W.at hk
  obtain ⟨U, o, h1, h2⟩ := nx T locs X N W
  exact ⟨U, o, X.aaload K.ex A.1 (State.isArrayOf_alike K.zw.alike A.2.1) hty A.2.2 (Av.inb hc hj (List.getElem?_eq_some_iff.mp hi).1) (by rw [hj.2]; exact Av.val hc hi) (g := mkF κ.m pc Ls (.int j :: .ref a :: st)) rfl rfl (K.dec hd) _ h1, h2⟩
theorem s_iastore (K : Ok Z κ own bytes maxL ret nm) {k i : Nat} {a : Addr} {j x : Int32} {vs : List Value} {L' : Wd} (hd : decode bytes pc = .ok (.iastore, 1)) (e : pc + 1 = pc') (hk : L[k]? = some (a, .inr (.int, vs))) (hj : Ix j i) (hi : i < vs.length) (hL : L.set k (a, .inr (.int, vs.set i (.int x))) = L')
    (nx : Go l Z n0 R Q κ ce sl L' pc' Ls st) : Go l Z n0 R Q κ ce sl L pc Ls (.int x :: .int j :: .ref a :: st) := by
  subst e hL; intro T locs X N W
  obtain ⟨c, A, hc, -⟩ := W.at hk
  obtain ⟨T', h', X', e', Wr', stp⟩ := stI X K.ex K.zw rfl A (Av.inb hc hj hi) (g := mkF κ.m pc Ls (.int x :: .int j :: .ref a :: st)) rfl rfl (K.dec hd)
  rw [hj.2] at Wr'
  obtain ⟨U, o, h1, h2⟩ := nx T' _ X' (Fr.snoc X' N (W.ge hk)) (by rw [e']; exact W.arr hk rfl Wr')
  exact ⟨U, o, stp U h1, h2⟩
theorem s_lastore (K : Ok Z κ own bytes maxL ret nm) {k i : Nat} {a : Addr} {j : Int32} {x : Int64} {vs : List Value} {L' : Wd} (hd : decode bytes pc = .ok (.lastore, 1)) (e : pc + 1 = pc') (hk : L[k]? = some (a, .inr (.long, vs))) (hj : Ix j i) (hi : i < vs.length) (hL : L.set k (a, .inr (.long, vs.set i (.long x))) = L')
    (nx : Go l Z n0 R Q κ ce sl L' pc' Ls st) : Go l Z n0 R Q κ ce sl L pc Ls (.long x :: .int j :: .ref a :: st) := by
  subst e hL; intro T locs X N W
  obtain ⟨c, A, hc, -⟩ := W.at hk
  obtain ⟨T', h', X', e', Wr', stp⟩ := stJ X K.ex K.zw rfl A (Av.inb hc hj hi) (g := mkF κ.m pc Ls (.long x :: .int j :: .ref a :: st)) rfl rfl (K.dec hd)
  rw [hj.2] at Wr'
  obtain ⟨U, o, h1, h2⟩ := nx T' _ X' (Fr.snoc X' N (W.ge hk)) (by rw [e']; exact W.arr hk rfl Wr')
  exact ⟨U, o, stp U h1, h2⟩
theorem s_bastore (K : Ok Z κ own bytes maxL ret nm) {k i : Nat} {a : Addr} {j x : Int32} {vs : List Value} {L' : Wd} (hd : decode bytes pc = .ok (.bastore, 1)) (e : pc + 1 = pc') (hk : L[k]? = some (a, .inr (.byte, vs))) (hj : Ix j i) (hi : i < vs.length) (hL : L.set k (a, .inr (.byte, vs.set i (.int x.toInt8.toInt32))) = L')
    (nx : Go l Z n0 R Q κ ce sl L' pc' Ls st) : Go l Z n0 R Q κ ce sl L pc Ls (.int x :: .int j :: .ref a :: st) := by
  subst e hL; intro T locs X N W
  obtain ⟨c, A, hc, -⟩ := W.at hk
  obtain ⟨T', h', X', e', Wr', stp⟩ := stB X K.ex K.zw rfl A (Av.inb hc hj hi) (g := mkF κ.m pc Ls (.int x :: .int j :: .ref a :: st)) rfl rfl (K.dec hd)
  rw [hj.2] at Wr'
  obtain ⟨U, o, h1, h2⟩ := nx T' _ X' (Fr.snoc X' N (W.ge hk)) (by rw [e']; exact W.arr hk (fits_nar_byte x) Wr')
  exact ⟨U, o, stp U h1, h2⟩
theorem fits_default (ty : FieldType) : fits ty (defaultValue ty) = true := by cases ty <;> rfl
theorem s_newarr (K : Ok Z κ own bytes maxL ret nm) {aty : ArrayType} {ty : FieldType} {j : Int32} {n cap ce' sl' : Nat} {vs0 : List Value} (hd : decode bytes pc = .ok (.newarray aty, 2)) (e : pc + 2 = pc') (ht : newarray.typeOf aty = ty) (w : (Cond.arrayClass ty).before a0 Z = true) (hj : Ix j n) (hcap : n ≤ cap) (hb : cap ≤ 67108864) (hvs : List.replicate n (defaultValue ty) = vs0) (hce : ce + 1 = ce') (hsl : sl + cap = sl') (hc : ce' ≤ R.cells) (hs : sl' ≤ R.slots)
    (nx : ∀ b : Addr, Go l Z n0 R Q κ ce' sl' ((b, .inr (ty, vs0)) :: L) pc' Ls (.ref b :: st)) : Go l Z n0 R Q κ ce sl L pc Ls (.int j :: st) := by
  subst e hce hsl ht hvs; intro T locs X N W
  obtain ⟨T', h', cA, X', e', E, A, Ex, stp⟩ := newPE X K.ex K.zw w rfl (g := mkF κ.m pc Ls (.int j :: st)) rfl (K.dec hd) rfl hj.1 (by rw [hj.2]; exact hcap) (by omega) hc hs (ad := "[" ++ (newarray.typeOf aty).toString) rfl
  obtain ⟨U, o, h1, h2⟩ := nx T.heap.size T' locs X' N (by
    rw [e']
    refine W.add E ⟨_, A, ?_, ?_, fun v hv => ?_, Ex⟩
    · simp [newA, hj.2]
    · simp only [List.length_replicate]; omega
    · rw [(List.mem_replicate.mp hv).2]; exact fits_default _)
  exact ⟨U, o, stp U h1, h2⟩
/-- the fields of a class, as its words lay them -/
def OLay (Z : State) (a0 : Array Value) (C : String) (fs : List (String × String × String × FieldType)) : Prop := ∀ (i : Nat) (f : String × String × String × FieldType), fs[i]? = some f → Laid Z a0 C f.1 f.2.1 f.2.2.1 ∧ parseFieldDescriptor f.2.2.1 = some f.2.2.2
theorem OLay.nil {C : String} : OLay Z a0 C [] := fun _ _ q => by simp at q
theorem OLay.cons {C O n d : String} {ty : FieldType} {fs : List (String × String × String × FieldType)} (h : (Cond.lays C O n d).before a0 Z = true ∨ (Cond.laysFinal C O n d).before a0 Z = true) (ht : parseFieldDescriptor d = some ty) (r : OLay Z a0 C fs) : OLay Z a0 C ((O, n, d, ty) :: fs) := fun i f q => by
  cases i with
  | zero => cases q; exact ⟨h, ht⟩
  | succ i => exact r i f (by simpa using q)
def fresh (fs : List (String × String × String × FieldType)) : List Fl := fs.map fun f => (f.1, f.2.1, f.2.2.1, defaultValue f.2.2.2)
theorem s_new (K : Ok Z κ own bytes maxL ret nm) {idx n ce' sl' : Nat} {C : String} {fs : List (String × String × String × FieldType)} {gs : List Fl} (hd : decode bytes pc = .ok (.new idx, 3)) (e : pc + 3 = pc') (w1 : (Cond.classLink own idx C).before a0 Z = true) (w2 : (Cond.instantiable C n).before a0 Z = true) (w3 : (Cond.initialized C).before a0 Z = true)
    (ly : OLay Z a0 C fs) (nd : (fs.map fun f => f.2.1).Nodup) (hg : fresh fs = gs) (hce : ce + 1 = ce') (hsl : sl + n = sl') (hc : ce' ≤ R.cells) (hs : sl' ≤ R.slots)
    (nx : ∀ b : Addr, Go l Z n0 R Q κ ce' sl' ((b, .inl (C, gs)) :: L) pc' Ls (.ref b :: st)) : Go l Z n0 R Q κ ce sl L pc Ls st := by
  subst e hce hsl hg; intro T locs X N W
  obtain ⟨T', h', X', e', E, Ex, D, -, stp⟩ := newO X K.ex K.zw K.ow w1 w2 w3 rfl (g := mkF κ.m pc Ls st) rfl (K.dec hd) hc hs
  have fr : ∀ (i : Nat) (f : Fl), (fresh fs)[i]? = some f → ∃ g, fs[i]? = some g ∧ f = (g.1, g.2.1, g.2.2.1, defaultValue g.2.2.2) := fun i f q => by
    simp only [fresh, List.getElem?_map, Option.map_eq_some_iff] at q
    obtain ⟨g, q1, q2⟩ := q; exact ⟨g, q1, q2.symm⟩
  obtain ⟨U, o, h1, h2⟩ := nx T.heap.size T' locs X' N (by
    rw [e']
    refine W.add E ⟨Ex, fun i f q => ?_, fun i j f g q r ne => ?_⟩
    · obtain ⟨g, q1, rfl⟩ := fr i f q
      exact D (ly i g q1).1 (ly i g q1).2
    · obtain ⟨f', q1, rfl⟩ := fr i f q
      obtain ⟨g', r1, rfl⟩ := fr j g r
      refine slot_ne (ly i f' q1).1 (ly j g' r1).1 (fun en => ne (nodup_inj nd (s := f'.2.1) (by rw [List.getElem?_map, q1]; rfl) (by rw [List.getElem?_map, r1, en]; rfl))) (ly i f' q1).2 (ly j g' r1).2)
  exact ⟨U, o, stp U h1, h2⟩
/-! calls -/
theorem s_initO (K : Ok Z κ own bytes maxL ret nm) {idx W : Nat} {a : Addr} (hd : decode bytes pc = .ok (.invokespecial idx, 3)) (e : pc + 3 = pc') (w1 : (Cond.methodLink own idx Lib.objectInit).before a0 Z = true) (w2 : (Cond.instanceMethod Lib.objectInit).before a0 Z = true) (w3 : (Cond.code Lib.objectInit ⟨#[0xb1]⟩ 1 none).before a0 Z = true)
    (hsz : Ls.size = maxL) (hf : 1 ≤ R.frames) (hW : (st.map fun v => v.category).sum ≤ W) (hl : W + 12 ≤ R.locals) (nx : Go l Z n0 R Q κ ce sl L pc' Ls st) : Go l Z n0 R Q κ ce sl L pc Ls (.ref a :: st) := by
  subst e; intro T locs X N Wd
  obtain ⟨T', X', e', stp⟩ := initO X K.ex K.zw K.ow w1 w2 w3 rfl (g := mkF κ.m pc Ls (.ref a :: st)) rfl (hsz.trans K.2.2.2.2.1.symm) rfl (K.dec hd) hf (W := W) (by show 2 * 0 + _ ≤ _; omega) hl
  obtain ⟨U, o, h1, h2⟩ := nx T' locs X' N (by rw [e']; exact Wd)
  exact ⟨U, o, stp U h1, h2⟩
theorem s_static (K : Ok Z κ own bytes maxL ret nm) {idx W mx ce' sl' : Nat} {y : MethodName} {bs : ByteArray} {rt : Option FieldType} {rm : Room} {as : List Value} {Q2 : Option Value → Wd → Prop} {ps : List FieldType} {r : Option FieldType} (hd : decode bytes pc = .ok (.invokestatic idx, 3)) (e : pc + 3 = pc')
    (C : Con l Z n0 y bs mx rt rm as L Q2) (w1 : (Cond.methodLink own idx y).before a0 Z = true) (w2 : (Cond.static y).before a0 Z = true) (w3 : (Cond.initialized y.cls).before a0 Z = true) (w4 : (Cond.code y bs mx rt).before a0 Z = true) (hy : y.cls ≠ "java/lang/invoke/MethodHandle" ∧ y.cls ≠ "java/lang/invoke/VarHandle")
    (pd : parseMethodDescriptor y.desc = some ⟨ps, r⟩) (hlen : as.length = ps.length) (hst : st = as.reverse ++ rest) (hsz : Ls.size = maxL) (hW : (rest.map fun v => v.category).sum ≤ W) (hf : rm.frames + 1 ≤ R.frames) (hl : W + (mx + 11) + rm.locals ≤ R.locals) (hce : ce + rm.cells = ce') (hsl : sl + rm.slots = sl') (hc : ce' ≤ R.cells) (hs : sl' ≤ R.slots)
    (nx : ∀ v L', Q2 v L' → Go l Z n0 R Q κ ce' sl' L' pc' Ls (v.toList ++ rest)) : Go l Z n0 R Q κ ce sl L pc Ls st := by
  subst e hce hsl; intro T locs X N Wd
  obtain ⟨v, _, ⟨T1, L1, k1, n1⟩, -, X1, ⟨Lc, hQ, l1, y1, z1⟩, st1⟩ := Jvm.LawKit.callS X K.ex K.ow (mvT K.zw w1) (mvT K.zw w2) (mvT K.zw w3) (mvT K.zw w4) hy
    (backOf (W := W) (Q := fun v h Lc => Fr n0 Lc ∧ ∃ L', Q2 v L' ∧ Wo Z n0 h L') (C T.heap Wd) K.zw w4 w3 hf hl) (g := mkF κ.m pc Ls st) rfl (hsz.trans K.2.2.2.2.1.symm) (argsL := as) (rest := rest) (lenOf pd hlen) hst (by show 2 * 0 + _ ≤ _; omega) (K.dec hd) (fun _ _ => ⟨rfl, rfl, hc, hs⟩)
  dsimp only [Pt.U, Pt.locs, Pt.cells, Pt.slots] at X1 l1 y1 z1 st1 hQ
  subst l1 y1 z1
  obtain ⟨hN, L', hq, hW'⟩ := hQ
  obtain ⟨U, o, h1, h2⟩ := nx v L' hq T1 _ X1 (Fr.app N hN) hW'
  exact ⟨U, o, st1 U h1, h2⟩
theorem s_special (K : Ok Z κ own bytes maxL ret nm) {idx W mx ce' sl' : Nat} {y : MethodName} {bs : ByteArray} {rm : Room} {a : Addr} {as : List Value} {Q2 : Option Value → Wd → Prop} {ps : List FieldType} {r : Option FieldType} (hd : decode bytes pc = .ok (.invokespecial idx, 3)) (e : pc + 3 = pc') (hin : y.name = "<init>")
    (C : Con l Z n0 y bs mx none rm (.ref a :: as) L Q2) (w1 : (Cond.methodLink own idx y).before a0 Z = true) (w2 : (Cond.instanceMethod y).before a0 Z = true) (w3 : (Cond.initialized y.cls).before a0 Z = true) (w4 : (Cond.code y bs mx none).before a0 Z = true) (hy : y.cls ≠ "java/lang/invoke/MethodHandle" ∧ y.cls ≠ "java/lang/invoke/VarHandle")
    (pd : parseMethodDescriptor y.desc = some ⟨ps, r⟩) (hlen : as.length = ps.length) (hst : st = as.reverse ++ .ref a :: rest) (hsz : Ls.size = maxL) (hW : (rest.map fun v => v.category).sum ≤ W) (hf : rm.frames + 1 ≤ R.frames) (hl : W + (mx + 11) + rm.locals ≤ R.locals) (hce : ce + rm.cells = ce') (hsl : sl + rm.slots = sl') (hc : ce' ≤ R.cells) (hs : sl' ≤ R.slots)
    (nx : ∀ v L', Q2 v L' → Go l Z n0 R Q κ ce' sl' L' pc' Ls (v.toList ++ rest)) : Go l Z n0 R Q κ ce sl L pc Ls st := by
  subst e hce hsl; intro T locs X N Wd
  obtain ⟨v, _, ⟨T1, L1, k1, n1⟩, -, X1, ⟨Lc, hQ, l1, y1, z1⟩, st1⟩ := X.specialBack K.ex hin K.ow (mvT K.zw w1) (mvT K.zw w2) (mvT K.zw w4) hy
    (backOf (W := W) (Q := fun v h Lc => Fr n0 Lc ∧ ∃ L', Q2 v L' ∧ Wo Z n0 h L') (C T.heap Wd) K.zw w4 w3 hf hl) (g := mkF κ.m pc Ls st) rfl (hsz.trans K.2.2.2.2.1.symm) (Steps.refl _) (a := a) (argsL := as) (rest := rest) (lenOf pd hlen) hst (by show 2 * 0 + _ ≤ _; omega) (K.dec hd) (fun _ _ => ⟨rfl, rfl, hc, hs⟩)
  dsimp only [Pt.U, Pt.locs, Pt.cells, Pt.slots] at X1 l1 y1 z1 st1 hQ
  subst l1 y1 z1
  obtain ⟨hN, L', hq, hW'⟩ := hQ
  obtain ⟨U, o, h1, h2⟩ := nx v L' hq T1 _ X1 (Fr.app N hN) hW'
  exact ⟨U, o, st1.trans h1, h2⟩
theorem s_virtualE (K : Ok Z κ own bytes maxL ret nm) {idx W mx ce' sl' : Nat} {C : String} {y : MethodName} {bs : ByteArray} {rt : Option FieldType} {rm : Room} {a : Addr} {as : List Value} {Q2 : Option Value → Wd → Prop} {ps : List FieldType} {r : Option FieldType} (hd : decode bytes pc = .ok (.invokevirtual idx, 3)) (e : pc + 3 = pc')
    (hE : ∀ h, Wo Z n0 h L → Exa Z h a C) (Co : Con l Z n0 y bs mx rt rm (.ref a :: as) L Q2) (w1 : (Cond.methodLink own idx y).before a0 Z = true) (wd : (Cond.declares y).before a0 Z = true) (ws : (Cond.selects C y y).before a0 Z = true) (w2 : (Cond.instanceMethod y).before a0 Z = true) (w3 : (Cond.initialized y.cls).before a0 Z = true) (w4 : (Cond.code y bs mx rt).before a0 Z = true) (hy : y.cls ≠ "java/lang/invoke/MethodHandle" ∧ y.cls ≠ "java/lang/invoke/VarHandle")
    (pd : parseMethodDescriptor y.desc = some ⟨ps, r⟩) (hlen : as.length = ps.length) (hst : st = as.reverse ++ .ref a :: rest) (hsz : Ls.size = maxL) (hW : (rest.map fun v => v.category).sum ≤ W) (hf : rm.frames + 1 ≤ R.frames) (hl : W + (mx + 11) + rm.locals ≤ R.locals) (hce : ce + rm.cells = ce') (hsl : sl + rm.slots = sl') (hc : ce' ≤ R.cells) (hs : sl' ≤ R.slots)
    (nx : ∀ v L', Q2 v L' → Go l Z n0 R Q κ ce' sl' L' pc' Ls (v.toList ++ rest)) : Go l Z n0 R Q κ ce sl L pc Ls st := by
  subst e hce hsl; intro T locs X N Wd
  obtain ⟨cq, kq, qa, -, qc⟩ := isOf (T := T) K.zw rfl (hE _ Wd)
  obtain ⟨v, _, ⟨T1, L1, k1, n1⟩, -, X1, ⟨Lc, hQ, l1, y1, z1⟩, st1⟩ := X.virtualBack K.ex K.ow (mvT K.zw w1) (mvT K.zw wd) (notFace_of_selects (args := #[]) (mvT K.zw ws)) (mvT K.zw ws) (mvT K.zw w2) hy
    (backOf (W := W) (Q := fun v h Lc => Fr n0 Lc ∧ ∃ L', Q2 v L' ∧ Wo Z n0 h L') (Co T.heap Wd) K.zw w4 w3 hf hl) qa qc (g := mkF κ.m pc Ls st) rfl (hsz.trans K.2.2.2.2.1.symm) (Steps.refl _) (argsL := as) (rest := rest) (lenOf pd hlen) hst (by show 2 * 0 + _ ≤ _; omega) (K.dec hd) (fun _ _ => ⟨rfl, rfl, hc, hs⟩)
  dsimp only [Pt.U, Pt.locs, Pt.cells, Pt.slots] at X1 l1 y1 z1 st1 hQ
  subst l1 y1 z1
  obtain ⟨hN, L', hq, hW'⟩ := hQ
  obtain ⟨U, o, h1, h2⟩ := nx v L' hq T1 _ X1 (Fr.app N hN) hW'
  exact ⟨U, o, st1.trans h1, h2⟩
theorem s_virtual (K : Ok Z κ own bytes maxL ret nm) {idx W mx ce' sl' k : Nat} {C : String} {fs : List Fl} {y : MethodName} {bs : ByteArray} {rt : Option FieldType} {rm : Room} {a : Addr} {as : List Value} {Q2 : Option Value → Wd → Prop} {ps : List FieldType} {r : Option FieldType} (hd : decode bytes pc = .ok (.invokevirtual idx, 3)) (e : pc + 3 = pc')
    (hk : L[k]? = some (a, .inl (C, fs))) (Co : Con l Z n0 y bs mx rt rm (.ref a :: as) L Q2) (w1 : (Cond.methodLink own idx y).before a0 Z = true) (wd : (Cond.declares y).before a0 Z = true) (ws : (Cond.selects C y y).before a0 Z = true) (w2 : (Cond.instanceMethod y).before a0 Z = true) (w3 : (Cond.initialized y.cls).before a0 Z = true) (w4 : (Cond.code y bs mx rt).before a0 Z = true) (hy : y.cls ≠ "java/lang/invoke/MethodHandle" ∧ y.cls ≠ "java/lang/invoke/VarHandle")
    (pd : parseMethodDescriptor y.desc = some ⟨ps, r⟩) (hlen : as.length = ps.length) (hst : st = as.reverse ++ .ref a :: rest) (hsz : Ls.size = maxL) (hW : (rest.map fun v => v.category).sum ≤ W) (hf : rm.frames + 1 ≤ R.frames) (hl : W + (mx + 11) + rm.locals ≤ R.locals) (hce : ce + rm.cells = ce') (hsl : sl + rm.slots = sl') (hc : ce' ≤ R.cells) (hs : sl' ≤ R.slots)
    (nx : ∀ v L', Q2 v L' → Go l Z n0 R Q κ ce' sl' L' pc' Ls (v.toList ++ rest)) : Go l Z n0 R Q κ ce sl L pc Ls st :=
  s_virtualE K hd e (fun h W => (W.at hk).1) Co w1 wd ws w2 w3 w4 hy pd hlen hst hsz hW hf hl hce hsl hc hs nx
theorem s_virtualO (K : Ok Z κ own bytes maxL ret nm) {idx W mx ce' sl' : Nat} {C : String} {y : MethodName} {bs : ByteArray} {rt : Option FieldType} {rm : Room} {a : Addr} {as : List Value} {Q2 : Option Value → Wd → Prop} {ps : List FieldType} {r : Option FieldType} (hd : decode bytes pc = .ok (.invokevirtual idx, 3)) (e : pc + 3 = pc')
    (hE : Exa Z Z.heap a C) (Co : Con l Z n0 y bs mx rt rm (.ref a :: as) L Q2) (w1 : (Cond.methodLink own idx y).before a0 Z = true) (wd : (Cond.declares y).before a0 Z = true) (ws : (Cond.selects C y y).before a0 Z = true) (w2 : (Cond.instanceMethod y).before a0 Z = true) (w3 : (Cond.initialized y.cls).before a0 Z = true) (w4 : (Cond.code y bs mx rt).before a0 Z = true) (hy : y.cls ≠ "java/lang/invoke/MethodHandle" ∧ y.cls ≠ "java/lang/invoke/VarHandle")
    (pd : parseMethodDescriptor y.desc = some ⟨ps, r⟩) (hlen : as.length = ps.length) (hst : st = as.reverse ++ .ref a :: rest) (hsz : Ls.size = maxL) (hW : (rest.map fun v => v.category).sum ≤ W) (hf : rm.frames + 1 ≤ R.frames) (hl : W + (mx + 11) + rm.locals ≤ R.locals) (hce : ce + rm.cells = ce') (hsl : sl + rm.slots = sl') (hc : ce' ≤ R.cells) (hs : sl' ≤ R.slots)
    (nx : ∀ v L', Q2 v L' → Go l Z n0 R Q κ ce' sl' L' pc' Ls (v.toList ++ rest)) : Go l Z n0 R Q κ ce sl L pc Ls st :=
  s_virtualE K hd e (fun h W => hE.ext W.1.2) Co w1 wd ws w2 w3 w4 hy pd hlen hst hsz hW hf hl hce hsl hc hs nx
/-! what stood at the start -/
theorem s_gets (K : Ok Z κ own bytes maxL ret nm) {idx : Nat} {O n d : String} {v : Value} (hd : decode bytes pc = .ok (.getstatic idx, 3)) (e : pc + 3 = pc') (w : (Cond.fieldLink own idx O n d).before a0 Z = true) (S : Sta Z Z.heap O n d v) (nx : Go l Z n0 R Q κ ce sl L pc' Ls (v :: st)) : Go l Z n0 R Q κ ce sl L pc Ls st := by
  subst e; intro T locs X N W
  obtain ⟨T', X', e', stp⟩ := getS X K.ex K.zw K.ow (host := "") w Via.refl rfl (S.ext W.1.2) (g := mkF κ.m pc Ls st) rfl (K.dec hd)
  obtain ⟨U, o, h1, h2⟩ := nx T' locs X' N (by rw [e']; exact W)
  exact ⟨U, o, stp U h1, h2⟩
theorem s_getfO (K : Ok Z κ own bytes maxL ret nm) {idx : Nat} {O n d : String} {a : Addr} {v : Value} (hd : decode bytes pc = .ok (.getfield idx, 3)) (e : pc + 3 = pc') (w : (Cond.fieldLink own idx O n d).before a0 Z = true)
    (F : Fld Z Z.heap a O n d v) (nx : Go l Z n0 R Q κ ce sl L pc' Ls (v :: st)) : Go l Z n0 R Q κ ce sl L pc Ls (.ref a :: st) := by
  subst e; intro T locs X N W
  obtain ⟨T', X', e', stp⟩ := getF X K.ex K.zw K.ow (host := "") (Or.inl w) Via.refl rfl (F.ext W.1.2) (g := mkF κ.m pc Ls (.ref a :: st)) rfl rfl (K.dec hd)
  obtain ⟨U, o, h1, h2⟩ := nx T' locs X' N (by rw [e']; exact W)
  exact ⟨U, o, stp U h1, h2⟩
/-! arrays of arrays, clone, arraycopy, casts, private methods -/
theorem s_anewarr (K : Ok Z κ own bytes maxL ret nm) {ty : FieldType} {C : String} {idx : Nat} {j : Int32} {n cap ce' sl' : Nat} {vs0 : List Value} (hd : decode bytes pc = .ok (.anewarray idx, 3)) (e : pc + 3 = pc') (hC : (FieldType.array ty).toString = C) (w1 : (Cond.classLink own idx C).before a0 Z = true) (w2 : (Cond.arrayOver (.array ty)).before a0 Z = true) (hj : Ix j n) (hcap : n ≤ cap) (hb : cap ≤ 67108864) (hvs : List.replicate n Value.null = vs0) (hce : ce + 1 = ce') (hsl : sl + cap = sl') (hc : ce' ≤ R.cells) (hs : sl' ≤ R.slots)
    (nx : ∀ b : Addr, Go l Z n0 R Q κ ce' sl' ((b, .inr (.array ty, vs0)) :: L) pc' Ls (.ref b :: st)) : Go l Z n0 R Q κ ce sl L pc Ls (.int j :: st) := by
  subst e hce hsl hvs hC; intro T locs X N W
  obtain ⟨T', h', cA, X', e', E, A, Ex, -, stp⟩ := newRA X K.ex K.zw K.ow rfl w1 w2 rfl (g := mkF κ.m pc Ls (.int j :: st)) rfl (K.dec hd) rfl hj.1 (by rw [hj.2]; exact hcap) (by omega) hc hs (ad := "[" ++ (FieldType.array ty).toString) rfl
  obtain ⟨U, o, h1, h2⟩ := nx T.heap.size T' locs X' N (by
    rw [e']
    refine W.add E ⟨_, A, ?_, ?_, fun v hv => ?_, Ex⟩
    · simp [newA, hj.2, defaultValue]
    · simp only [List.length_replicate]; omega
    · rw [(List.mem_replicate.mp hv).2]; rfl)
  exact ⟨U, o, stp U h1, h2⟩
theorem s_aastore (K : Ok Z κ own bytes maxL ret nm) {k k2 i : Nat} {a b : Addr} {j : Int32} {ty : FieldType} {vs ws : List Value} {L' : Wd} (hd : decode bytes pc = .ok (.aastore, 1)) (e : pc + 1 = pc') (w : (Cond.arrayOver (.array ty)).before a0 Z = true) (hk : L[k]? = some (a, .inr (.array ty, vs))) (hk2 : L[k2]? = some (b, .inr (ty, ws))) (hj : Ix j i) (hi : i < vs.length) (hL : L.set k (a, .inr (.array ty, vs.set i (.ref b))) = L')
    (nx : Go l Z n0 R Q κ ce sl L' pc' Ls st) : Go l Z n0 R Q κ ce sl L pc Ls (.ref b :: .int j :: .ref a :: st) := by
  subst e hL; intro T locs X N W
  obtain ⟨c, A, hc, -, -, Ea⟩ := W.at hk
  obtain ⟨-, -, -, -, -, Eb⟩ := W.at hk2
  obtain ⟨comp, cA, kA, q1, -, q3, q4, q5⟩ := Jvm.Stand.arrayOver_specB (show (Cond.arrayOver (.array ty)).holds a0 Z none Z [] = true from w)
  obtain ⟨cell, kk, e1, e2, -⟩ := Ea
  cases A.1.symm.trans e1
  have ec : c.cls = cA := Option.some.inj (e2.symm.trans q5)
  have S : Sto Z T.heap a (.ref b) := Sto.ofVA (ty := ty) (C := (FieldType.array ty).toString) A ec ⟨kA, comp, q3, q4, q1⟩ (Ins.self (C := (FieldType.array ty).toString) Eb)
  obtain ⟨T', h', X', e', Wr', stp⟩ := stR X K.ex K.zw rfl A (Av.inb hc hj hi) rfl S (g := mkF κ.m pc Ls (.ref b :: .int j :: .ref a :: st)) rfl rfl (K.dec hd)
  rw [hj.2] at Wr'
  obtain ⟨U, o, h1, h2⟩ := nx T' _ X' (Fr.snoc X' N (W.ge hk)) (by rw [e']; exact W.arr hk rfl Wr')
  exact ⟨U, o, stp U h1, h2⟩
theorem s_castA (K : Ok Z κ own bytes maxL ret nm) {k idx : Nat} {a : Addr} {ty : FieldType} {vs : List Value} {C : String} (hd : decode bytes pc = .ok (.checkcast idx, 3)) (e : pc + 3 = pc') (hC : "[" ++ ty.toString = C) (w : (Cond.classLink own idx C).before a0 Z = true) (hk : L[k]? = some (a, .inr (ty, vs)))
    (nx : Go l Z n0 R Q κ ce sl L pc' Ls (.ref a :: st)) : Go l Z n0 R Q κ ce sl L pc Ls (.ref a :: st) := by
  subst e hC; intro T locs X N W
  obtain ⟨-, -, -, -, -, Ea⟩ := W.at hk
  obtain ⟨T', X', e', stp⟩ := castY X K.ex K.zw K.ow w rfl (Ins.self Ea) (g := mkF κ.m pc Ls (.ref a :: st)) rfl rfl (K.dec hd)
  obtain ⟨U, o, h1, h2⟩ := nx T' locs X' N (by rw [e']; exact W)
  exact ⟨U, o, stp U h1, h2⟩
theorem s_clone (K : Ok Z κ own bytes maxL ret nm) {k idx W cap ce' sl' : Nat} {a : Addr} {ty : FieldType} {vs : List Value} {C : String} (hd : decode bytes pc = .ok (.invokevirtual idx, 3)) (e : pc + 3 = pc') (hC : "[" ++ ty.toString = C)
    (w1 : (Cond.methodLink own idx ⟨C, "clone", "()Ljava/lang/Object;"⟩).before a0 Z = true) (w2 : (Cond.sameMethod C "java/lang/Object" "clone" "()Ljava/lang/Object;").before a0 Z = true) (w3 : (Cond.native ⟨"java/lang/Object", "clone", "()Ljava/lang/Object;"⟩).before a0 Z = true)
    (w4 : (Cond.instanceMethod ⟨"java/lang/Object", "clone", "()Ljava/lang/Object;"⟩).before a0 Z = true) (w5 : (Cond.selects C ⟨C, "clone", "()Ljava/lang/Object;"⟩ ⟨"java/lang/Object", "clone", "()Ljava/lang/Object;"⟩).before a0 Z = true) (w6 : (Cond.castable C "java/lang/Cloneable").before a0 Z = true)
    (hk : L[k]? = some (a, .inr (ty, vs))) (hsz : Ls.size = maxL) (hf : 1 ≤ R.frames) (hW : (st.map fun v => v.category).sum ≤ W) (hl : W + 14 ≤ R.locals) (hcap : vs.length ≤ cap) (hce : ce + 1 = ce') (hsl : sl + cap = sl') (hc : ce' ≤ R.cells) (hs : sl' ≤ R.slots)
    (nx : ∀ b : Addr, Go l Z n0 R Q κ ce' sl' ((b, .inr (ty, vs)) :: L) pc' Ls (.ref b :: st)) : Go l Z n0 R Q κ ce sl L pc Ls (.ref a :: st) := by
  subst e hC hce hsl; intro T locs X N Wd
  obtain ⟨c, A, hcs, hlen, hfit, Ea⟩ := Wd.at hk
  have F : FitC Z c := fun i v hv => by
    obtain ⟨hs', k', hk', comp, hkind⟩ := A.2.1
    have m : v ∈ vs := by rw [← hcs]; exact Array.mem_toList_iff.mpr (Array.mem_of_getElem? hv)
    simp [State.fitsSlot, State.slotType?, hk', hkind, hfit v m]
  obtain ⟨T', h', X', e', E, A', Ea', stp⟩ := cloneA X K.ex K.zw K.ow w1 w2 w3 w4 w5 w6 rfl A Ea F (g := mkF κ.m pc Ls (.ref a :: st)) rfl (hsz.trans K.2.2.2.2.1.symm) rfl (K.dec hd) hf (W := W) (by show 2 * 0 + _ ≤ _; omega) hl (cap := cap) (by rw [← Array.length_toList, hcs]; exact hcap) hc hs
  obtain ⟨U, o, h1, h2⟩ := nx T.heap.size T' locs X' N (by rw [e']; exact Wd.add E ⟨_, A', hcs, hlen, hfit, Ea'⟩)
  exact ⟨U, o, stp U h1, h2⟩
theorem s_private (K : Ok Z κ own bytes maxL ret nm) {idx W mx ce' sl' k : Nat} {fs : List Fl} {y : MethodName} {bs : ByteArray} {rt : Option FieldType} {rm : Room} {a : Addr} {as : List Value} {Q2 : Option Value → Wd → Prop} {ps : List FieldType} {r : Option FieldType} (hd : decode bytes pc = .ok (.invokevirtual idx, 3)) (e : pc + 3 = pc')
    (hk : L[k]? = some (a, .inl (y.cls, fs))) (Co : Con l Z n0 y bs mx rt rm (.ref a :: as) L Q2) (w1 : (Cond.methodLink own idx y).before a0 Z = true) {C' : String} {y1 z1 : MethodName} (ws : (Cond.selects C' y1 z1).before a0 Z = true) (hz1 : z1.cls = y.cls) (w2 : (Cond.instanceMethod y).before a0 Z = true) (wp : (Cond.privateMethod y).before a0 Z = true) (w3 : (Cond.initialized y.cls).before a0 Z = true) (w4 : (Cond.code y bs mx rt).before a0 Z = true) (hy : y.cls ≠ "java/lang/invoke/MethodHandle" ∧ y.cls ≠ "java/lang/invoke/VarHandle")
    (pd : parseMethodDescriptor y.desc = some ⟨ps, r⟩) (hlen : as.length = ps.length) (hst : st = as.reverse ++ .ref a :: rest) (hsz : Ls.size = maxL) (hW : (rest.map fun v => v.category).sum ≤ W) (hf : rm.frames + 1 ≤ R.frames) (hl : W + (mx + 11) + rm.locals ≤ R.locals) (hce : ce + rm.cells = ce') (hsl : sl + rm.slots = sl') (hc : ce' ≤ R.cells) (hs : sl' ≤ R.slots)
    (nx : ∀ v L', Q2 v L' → Go l Z n0 R Q κ ce' sl' L' pc' Ls (v.toList ++ rest)) : Go l Z n0 R Q κ ce sl L pc Ls st := by
  subst e hce hsl; intro T locs X N Wd
  obtain ⟨cq, q1, q2⟩ := (Wd.at hk).1.cell
  have hp := Cond.privateMethod_at (mvP K.zw wp (args := #[]))
  have hsel : (Cond.selects y.cls y y).before κ.args κ.s = true := by
    obtain ⟨_, _, mz, -, -, g3, -, kz, g4, g5⟩ := Cond.selects_spec (mvT (s := κ.s) (args := #[]) K.zw ws)
    have g6 := findClass_of_methodNamed g3
    rw [hz1] at g6
    exact selects_self_of_private g6 g4 g5 hp (mvT K.zw w2) hy
  obtain ⟨v, _, ⟨T1, L1, k1, n1⟩, -, X1, ⟨Lc, hQ, l1, y1, z1⟩, st1⟩ := X.privateBack K.ex K.ow (mvT K.zw w1) (mvT K.zw w2) hsel hp (mvT K.zw w4) hy
    (backOf (W := W) (Q := fun v h Lc => Fr n0 Lc ∧ ∃ L', Q2 v L' ∧ Wo Z n0 h L') (Co T.heap Wd) K.zw w4 w3 hf hl) (g := mkF κ.m pc Ls st) rfl (hsz.trans K.2.2.2.2.1.symm) (Steps.refl _) (a := a) q1 q2 (argsL := as) (rest := rest) (lenOf pd hlen) hst (by show 2 * 0 + _ ≤ _; omega) (K.dec hd) (fun _ _ => ⟨rfl, rfl, hc, hs⟩)
  dsimp only [Pt.U, Pt.locs, Pt.cells, Pt.slots] at X1 l1 y1 z1 st1 hQ
  subst l1 y1 z1
  obtain ⟨hN, L', hq, hW'⟩ := hQ
  obtain ⟨U, o, h1, h2⟩ := nx v L' hq T1 _ X1 (Fr.app N hN) hW'
  exact ⟨U, o, st1.trans h1, h2⟩
theorem Av.arv {h : Heap} {a : Addr} {ty : FieldType} {vs : List Value} (A : Av Z h a ty vs) : ∃ k, Arv Z h a k ty (Int32.ofNat vs.length) vs .null := by
  obtain ⟨c, h1, h2, h3, h4, -⟩ := A
  have q := Ix.ofNat h3
  have sz : c.slots.size = vs.length := by rw [← h2, Array.length_toList]
  refine ⟨c.cls, c, h1, rfl, by rw [q.2]; exact sz, q.1, fun i hi => ?_, fun i hi => ?_⟩
  · rw [sz] at hi
    rw [List.getD_eq_getElem?_getD, List.getElem?_eq_getElem hi]
    exact Av.val h2 (List.getElem?_eq_getElem hi)
  · rw [sz] at hi
    rw [List.getD_eq_getElem?_getD, List.getElem?_eq_getElem hi]
    exact h4 _ (List.getElem_mem hi)
theorem s_copy (K : Ok Z κ own bytes maxL ret nm) {idx W ka kb : Nat} {a b : Addr} {sp dp nn : Int32} {i j n : Nat} {ty : FieldType} {vs vd vd' : List Value} {L' : Wd} (hd : decode bytes pc = .ok (.invokestatic idx, 3)) (e : pc + 3 = pc') (w1 : (Cond.methodLink own idx Jvm.Stand.acN).before a0 Z = true) (w2 : (Cond.native Jvm.Stand.acN).before a0 Z = true) (w3 : (Cond.static Jvm.Stand.acN).before a0 Z = true) (w4 : (Cond.initialized "java/lang/System").before a0 Z = true)
    (hka : L[ka]? = some (a, .inr (ty, vs))) (hkb : L[kb]? = some (b, .inr (ty, vd))) (hty : refKind ty = false) (hsp : Ix sp i) (hdp : Ix dp j) (hnn : Ix nn n) (h4 : i + n ≤ vs.length) (h5 : j + n ≤ vd.length) (hv : vd.take j ++ ((List.range n).map fun x => vs.getD (i + x) .null) ++ vd.drop (j + n) = vd') (hL : L.set kb (b, .inr (ty, vd')) = L')
    (hsz : Ls.size = maxL) (hf : 1 ≤ R.frames) (hW : (st.map fun v => v.category).sum ≤ W) (hl : W + 18 ≤ R.locals) (nx : Go l Z n0 R Q κ ce sl L' pc' Ls st) : Go l Z n0 R Q κ ce sl L pc Ls (.int nn :: .int dp :: .ref b :: .int sp :: .ref a :: st) := by
  subst e hL hv; intro T locs X N Wd
  have Ha := Wd.at hka
  have Hb := Wd.at hkb
  obtain ⟨k1, A⟩ := Av.arv Ha
  obtain ⟨k2, B⟩ := Av.arv Hb
  obtain ⟨-, -, -, la, -, -⟩ := Ha
  obtain ⟨-, -, -, lb, -, Eb⟩ := Hb
  have ea := (Ix.ofNat la).2
  have eb := (Ix.ofNat lb).2
  obtain ⟨T', h', Lc, X', e', N', Kp, B', stp⟩ := cpA X K.ex K.zw K.ow w1 w2 w3 w4 rfl A B (Or.inl ⟨rfl, hty⟩) hsp.1 hdp.1 hnn.1 (by rw [hsp.2, hnn.2, ea]; exact h4) (by rw [hdp.2, hnn.2, eb]; exact h5) rfl (by rw [hdp.2, hnn.2]; exact h5) N (Wd.ge hkb) (g := mkF κ.m pc Ls (.int nn :: .int dp :: .ref b :: .int sp :: .ref a :: st)) rfl (hsz.trans K.2.2.2.2.1.symm) rfl (K.dec hd) hf (W := W) (by show 2 * 0 + _ ≤ _; omega) hl
  rw [hsp.2, hdp.2, hnn.2] at B'
  obtain ⟨U, o, h1, h2⟩ := nx T' Lc X' N' (by
    rw [e']
    refine Wd.set hkb (Wd.1.keep Kp (allS (Wd.ge hkb) all0)) ?_ (fun b1 o1 ne H => H.keep Kp (ninS ne nin0))
    obtain ⟨c, A', -, S', -, H', G'⟩ := B'
    have len : (vd.take j ++ ((List.range n).map fun x => vs.getD (i + x) .null) ++ vd.drop (j + n)).length = vd.length := by
      simp only [List.length_append, List.length_take, List.length_map, List.length_range, List.length_drop]; omega
    have sz : c.slots.size = vd.length := by rw [S', eb]
    have tl : c.slots.toList = (vd.take j ++ ((List.range n).map fun x => vs.getD (i + x) .null) ++ vd.drop (j + n)) := by
      apply List.ext_getElem?
      intro x
      by_cases q : x < vd.length
      · have := H' x (by rw [sz]; exact q)
        rw [Array.getElem?_toList, this, List.getD_eq_getElem?_getD, List.getElem?_eq_getElem (by rw [len]; exact q)]; rfl
      · rw [List.getElem?_eq_none (by rw [Array.length_toList, sz]; omega), List.getElem?_eq_none (by rw [len]; omega)]
    refine ⟨c, A', tl, by rw [len]; exact lb, fun v hv => ?_, Eb.keep Kp⟩
    obtain ⟨x, hx, rfl⟩ := List.getElem_of_mem hv
    have := G' x (by rw [sz, ← len]; exact hx)
    rwa [List.getD_eq_getElem?_getD, List.getElem?_eq_getElem hx] at this)
  exact ⟨U, o, stp U h1, h2⟩
/-! the end -/
theorem s_ret {t : FieldType} (K : Ok Z κ own bytes maxL (some t) nm) {i : Instr} {w : Value} (hd : decode bytes pc = .ok (i, 1)) (hn : narrow t w = w)
    (hi : (i = .ireturn ∧ (t = .int ∨ t = .boolean ∨ t = .byte ∨ t = .char ∨ t = .short) ∧ ∃ z, w = .int z) ∨ (i = .lreturn ∧ t = .long ∧ ∃ z, w = .long z) ∨ (i = .dreturn ∧ t = .double ∧ ∃ z, w = .double z) ∨ (i = .freturn ∧ t = .float ∧ ∃ z, w = .float z) ∨ (i = .areturn ∧ t.isReference = true ∧ w.isRef = true))
    (hc : ce ≤ R.cells) (hs : sl ≤ R.slots) (hq : Q (some w) L) : Go l Z n0 R Q κ ce sl L pc Ls (w :: st) := fun T locs X N W => by
  have hret := K.2.2.2.2.2.1
  obtain ⟨fs, hr, hrun, hended, hW, hsame⟩ := X.leave (v := some w) (fun h => by rw [hret] at h; cases h) K.2.2.2.2.2.2.1
  exact ⟨_, _, retOut X K.ex hret hn hi (K.dec hd) hr, hrun, hended, _, _, rfl, ⟨N, L, hq, W⟩, ⟨_, rfl⟩, hW, hsame.mono hc hs⟩
theorem s_ireturn (K : Ok Z κ own bytes maxL (some .int) nm) {z : Int32} (hd : decode bytes pc = .ok (.ireturn, 1)) (hc : ce ≤ R.cells) (hs : sl ≤ R.slots) (hq : Q (some (.int z)) L) : Go l Z n0 R Q κ ce sl L pc Ls (.int z :: st) := s_ret K hd rfl (Or.inl ⟨rfl, Or.inl rfl, _, rfl⟩) hc hs hq
theorem s_zreturn (K : Ok Z κ own bytes maxL (some .boolean) nm) {z : Int32} (hd : decode bytes pc = .ok (.ireturn, 1)) (hn : narrow .boolean (.int z) = .int z) (hc : ce ≤ R.cells) (hs : sl ≤ R.slots) (hq : Q (some (.int z)) L) : Go l Z n0 R Q κ ce sl L pc Ls (.int z :: st) := s_ret K hd hn (Or.inl ⟨rfl, Or.inr (Or.inl rfl), _, rfl⟩) hc hs hq
theorem s_lreturn (K : Ok Z κ own bytes maxL (some .long) nm) {z : Int64} (hd : decode bytes pc = .ok (.lreturn, 1)) (hc : ce ≤ R.cells) (hs : sl ≤ R.slots) (hq : Q (some (.long z)) L) : Go l Z n0 R Q κ ce sl L pc Ls (.long z :: st) := s_ret K hd rfl (Or.inr (Or.inl ⟨rfl, rfl, _, rfl⟩)) hc hs hq
theorem s_areturn {t : FieldType} (K : Ok Z κ own bytes maxL (some t) nm) {w : Value} (hd : decode bytes pc = .ok (.areturn, 1)) (ht : t.isReference = true) (hw : w.isRef = true) (hn : narrow t w = w) (hc : ce ≤ R.cells) (hs : sl ≤ R.slots) (hq : Q (some w) L) : Go l Z n0 R Q κ ce sl L pc Ls (w :: st) := s_ret K hd hn (Or.inr (Or.inr (Or.inr (Or.inr ⟨rfl, ht, hw⟩)))) hc hs hq
theorem s_return (K : Ok Z κ own bytes maxL none nm) (hd : decode bytes pc = .ok (.return_, 1)) (hc : ce ≤ R.cells) (hs : sl ≤ R.slots) (hq : Q none L) : Go l Z n0 R Q κ ce sl L pc Ls [] := fun T locs X N W => by
  have hret := K.2.2.2.2.2.1
  obtain ⟨fs, hr, hrun, hended, hW, hsame⟩ := X.leave (v := none) (fun _ => rfl) K.2.2.2.2.2.2.1
  exact ⟨_, _, X.returnOut K.ex hret (K.dec hd) hr, hrun, hended, _, _, rfl, ⟨N, L, hq, W⟩, ⟨_, rfl⟩, hW, hsame.mono hc hs⟩
end Steps
end Jvm.OwnKit
namespace Jvm.Pilot.@@N@@
open Jvm Jvm.ClassFile Sem Op Lib Jvm.Free Jvm.Stand Jvm.LawKit Jvm.RoadKit Bundle Jvm.OwnKit Jvm.Pilot.@@N@@.Jvm.D
def own_mn (x y : Int64) : Int64 := if y.toInt < x.toInt then y else x
def own_mx (x y : Int64) : Int64 := if x.toInt < y.toInt then y else x
theorem own_mnY {x y : Int64} (h : y.toInt < x.toInt) : own_mn x y = y := if_pos h
theorem own_mnN {x y : Int64} (h : x.toInt ≤ y.toInt) : own_mn x y = x := if_neg (by omega)
theorem own_mxY {x y : Int64} (h : x.toInt < y.toInt) : own_mx x y = y := if_pos h
theorem own_mxN {x y : Int64} (h : y.toInt ≤ x.toInt) : own_mx x y = x := if_neg (by omega)
theorem own_cmp (x y : Int64) : (y.toInt < x.toInt ∧ XT.cmpL x y = 1) ∨ (x.toInt = y.toInt ∧ XT.cmpL x y = 0) ∨ (x.toInt < y.toInt ∧ XT.cmpL x y = -1) := by
  unfold XT.cmpL
  by_cases h : y < x
  · left; rw [if_pos h]; exact ⟨Int64.lt_iff_toInt_lt.mp h, rfl⟩
  · rw [if_neg h]
    rw [Int64.lt_iff_toInt_lt] at h
    by_cases e : x = y
    · right; left; rw [if_pos e]; exact ⟨by rw [e], rfl⟩
    · right; right; rw [if_neg e]
      have : x.toInt ≠ y.toInt := fun q => e (Int64.toInt_inj.mp q)
      exact ⟨by omega, rfl⟩
section
variable {x y : Int64}
theorem own_leY (h : ifCond.holds .le (XT.cmpL x y) = true) : x.toInt ≤ y.toInt := by
  rcases own_cmp x y with ⟨q, e⟩ | ⟨q, e⟩ | ⟨q, e⟩
  · rw [e] at h; exact absurd h (by decide)
  · omega
  · omega
theorem own_leN (h : ifCond.holds .le (XT.cmpL x y) = false) : y.toInt < x.toInt := by
  rcases own_cmp x y with ⟨q, e⟩ | ⟨q, e⟩ | ⟨q, e⟩
  · exact q
  · rw [e] at h; exact absurd h (by decide)
  · rw [e] at h; exact absurd h (by decide)
theorem own_gtY (h : ifCond.holds .gt (XT.cmpL x y) = true) : y.toInt < x.toInt := by
  rcases own_cmp x y with ⟨q, e⟩ | ⟨q, e⟩ | ⟨q, e⟩
  · exact q
  · rw [e] at h; exact absurd h (by decide)
  · rw [e] at h; exact absurd h (by decide)
theorem own_gtN (h : ifCond.holds .gt (XT.cmpL x y) = false) : x.toInt ≤ y.toInt := by
  rcases own_cmp x y with ⟨q, e⟩ | ⟨q, e⟩ | ⟨q, e⟩
  · rw [e] at h; exact absurd h (by decide)
  · omega
  · omega
theorem own_geY (h : ifCond.holds .ge (XT.cmpL x y) = true) : y.toInt ≤ x.toInt := by
  rcases own_cmp x y with ⟨q, e⟩ | ⟨q, e⟩ | ⟨q, e⟩
  · omega
  · omega
  · rw [e] at h; exact absurd h (by decide)
theorem own_geN (h : ifCond.holds .ge (XT.cmpL x y) = false) : x.toInt < y.toInt := by
  rcases own_cmp x y with ⟨q, e⟩ | ⟨q, e⟩ | ⟨q, e⟩
  · rw [e] at h; exact absurd h (by decide)
  · rw [e] at h; exact absurd h (by decide)
  · exact q
theorem own_ltY (h : ifCond.holds .lt (XT.cmpL x y) = true) : x.toInt < y.toInt := by
  rcases own_cmp x y with ⟨q, e⟩ | ⟨q, e⟩ | ⟨q, e⟩
  · rw [e] at h; exact absurd h (by decide)
  · rw [e] at h; exact absurd h (by decide)
  · exact q
theorem own_ltN (h : ifCond.holds .lt (XT.cmpL x y) = false) : y.toInt ≤ x.toInt := by
  rcases own_cmp x y with ⟨q, e⟩ | ⟨q, e⟩ | ⟨q, e⟩
  · omega
  · omega
  · rw [e] at h; exact absurd h (by decide)
theorem own_ne0 (h : x = y) : ifCond.holds .ne (XT.cmpL x y) = false := by
  rcases own_cmp x y with ⟨q, e⟩ | ⟨q, e⟩ | ⟨q, e⟩
  · rw [h] at q; omega
  · rw [e]; rfl
  · rw [h] at q; omega
end
theorem own_mask (m : Nat) (hm : m < 2 ^ 31) (x y : Int32) (hy : y = Int32.ofNat m) : ∃ n : Nat, n ≤ m ∧ x &&& y = Int32.ofNat n := by
  have e1 : y.toInt = m := by rw [hy]; exact Int32.toInt_ofNat_of_lt hm
  have h := (c_andS x y).2.2 (by rw [e1]; omega)
  have h2 : (x &&& y).toBitVec.toNat ≤ m := by
    show (x.toBitVec &&& y.toBitVec).toNat ≤ m
    rw [BitVec.toNat_and, hy]
    refine Nat.le_trans Nat.and_le_right ?_
    show (BitVec.ofNat 32 m).toNat ≤ m
    rw [BitVec.toNat_ofNat]; exact Nat.mod_le _ _
  have h3 : (x &&& y).toInt = ((x &&& y).toBitVec.toNat : Int) := by
    show (x &&& y).toBitVec.toInt = _
    rw [BitVec.toInt_eq_toNat_cond]; split <;> omega
  refine ⟨(x &&& y).toBitVec.toNat, h2, ?_⟩
  apply Int32.toInt_inj.mp
  rw [Int32.toInt_ofNat_of_lt (by omega)]; omega
theorem own_mask4 (x : Int32) : x &&& (3 : Int32) = 0 ∨ x &&& (3 : Int32) = 1 ∨ x &&& (3 : Int32) = 2 ∨ x &&& (3 : Int32) = 3 := by
  obtain ⟨n, h, e⟩ := own_mask 3 (by decide) x 3 rfl
  match n, h with
  | 0, _ => exact Or.inl e
  | 1, _ => exact Or.inr (Or.inl e)
  | 2, _ => exact Or.inr (Or.inr (Or.inl e))
  | 3, _ => exact Or.inr (Or.inr (Or.inr e))
theorem own_bit (x : Int32) : x &&& (1 : Int32) = 0 ∨ x &&& (1 : Int32) = 1 := by
  obtain ⟨n, h, e⟩ := own_mask 1 (by decide) x 1 rfl
  match n, h with
  | 0, _ => exact Or.inl e
  | 1, _ => exact Or.inr e
theorem own_four (x : Int32) : ∃ y, x &&& (3 : Int32) = y ∧ (y = 0 ∨ y = 1 ∨ y = 2 ∨ y = 3) := ⟨_, rfl, own_mask4 x⟩
def own_b (x t : Int64) : Nat := if t.toInt < x.toInt then 1 else 0
theorem own_b1 {x t : Int64} (h : t.toInt < x.toInt) : own_b x t = 1 := if_pos h
theorem own_b0 {x t : Int64} (h : x.toInt ≤ t.toInt) : own_b x t = 0 := if_neg (by omega)
theorem own_mnle (x y : Int64) : ((own_mn x y).toInt = x.toInt ∧ x.toInt ≤ y.toInt) ∨ ((own_mn x y).toInt = y.toInt ∧ y.toInt ≤ x.toInt) := by
  unfold own_mn; split
  · right; exact ⟨rfl, by omega⟩
  · left; exact ⟨rfl, by omega⟩
theorem own_mxle (x y : Int64) : ((own_mx x y).toInt = x.toInt ∧ y.toInt ≤ x.toInt) ∨ ((own_mx x y).toInt = y.toInt ∧ x.toInt ≤ y.toInt) := by
  unfold own_mx; split
  · right; exact ⟨rfl, by omega⟩
  · left; exact ⟨rfl, by omega⟩
theorem own_sorted {a b c t1 hi t2 lo t3 t4 t5 mid : Int64} (h1 : t1 = own_mx b c) (h2 : hi = own_mx a t1) (h3 : t2 = own_mn b c) (h4 : lo = own_mn a t2) (h5 : t3 = own_mn a b) (h6 : t4 = own_mx a b) (h7 : t5 = own_mn t4 c) (h8 : mid = own_mx t3 t5) : mid.toInt ≤ hi.toInt ∧ lo.toInt ≤ mid.toInt := by
  have q1 := own_mxle b c; have q2 := own_mxle a t1; have q3 := own_mnle b c; have q4 := own_mnle a t2; have q5 := own_mnle a b; have q6 := own_mxle a b; have q7 := own_mnle t4 c; have q8 := own_mxle t3 t5
  rw [← h1] at q1; rw [← h2] at q2; rw [← h3] at q3; rw [← h4] at q4; rw [← h5] at q5; rw [← h6] at q6; rw [← h7] at q7; rw [← h8] at q8
  omega

theorem d1_0 : decode jdk_29_method_66_code 0 = .ok (.lload_n 0, 1) := by decide +kernel
theorem d1_1 : decode jdk_29_method_66_code 1 = .ok (.lload_n 2, 1) := by decide +kernel
theorem d1_2 : decode jdk_29_method_66_code 2 = .ok (.lcmp, 1) := by decide +kernel
theorem d1_3 : decode jdk_29_method_66_code 3 = .ok (.ifCond .lt 7, 3) := by decide +kernel
theorem d1_6 : decode jdk_29_method_66_code 6 = .ok (.lload_n 0, 1) := by decide +kernel
theorem d1_7 : decode jdk_29_method_66_code 7 = .ok (.goto 4, 3) := by decide +kernel
theorem d1_10 : decode jdk_29_method_66_code 10 = .ok (.lload_n 2, 1) := by decide +kernel
theorem d1_11 : decode jdk_29_method_66_code 11 = .ok (.lreturn, 1) := by decide +kernel
theorem d2_0 : decode jdk_29_method_70_code 0 = .ok (.lload_n 0, 1) := by decide +kernel
theorem d2_1 : decode jdk_29_method_70_code 1 = .ok (.lload_n 2, 1) := by decide +kernel
theorem d2_2 : decode jdk_29_method_70_code 2 = .ok (.lcmp, 1) := by decide +kernel
theorem d2_3 : decode jdk_29_method_70_code 3 = .ok (.ifCond .gt 7, 3) := by decide +kernel
theorem d2_6 : decode jdk_29_method_70_code 6 = .ok (.lload_n 0, 1) := by decide +kernel
theorem d2_7 : decode jdk_29_method_70_code 7 = .ok (.goto 4, 3) := by decide +kernel
theorem d2_10 : decode jdk_29_method_70_code 10 = .ok (.lload_n 2, 1) := by decide +kernel
theorem d2_11 : decode jdk_29_method_70_code 11 = .ok (.lreturn, 1) := by decide +kernel
theorem d3_0 : decode prog_61_method_1_code 0 = .ok (.aload_n 0, 1) := by decide +kernel
theorem d3_1 : decode prog_61_method_1_code 1 = .ok (.invokespecial 3, 3) := by decide +kernel
theorem d3_4 : decode prog_61_method_1_code 4 = .ok (.aload_n 0, 1) := by decide +kernel
theorem d3_5 : decode prog_61_method_1_code 5 = .ok (.iload_n 1, 1) := by decide +kernel
theorem d3_6 : decode prog_61_method_1_code 6 = .ok (.putfield 9, 3) := by decide +kernel
theorem d3_9 : decode prog_61_method_1_code 9 = .ok (.aload_n 0, 1) := by decide +kernel
theorem d3_10 : decode prog_61_method_1_code 10 = .ok (.iload_n 2, 1) := by decide +kernel
theorem d3_11 : decode prog_61_method_1_code 11 = .ok (.newarray .int, 2) := by decide +kernel
theorem d3_13 : decode prog_61_method_1_code 13 = .ok (.putfield 15, 3) := by decide +kernel
theorem d3_16 : decode prog_61_method_1_code 16 = .ok (.aload_n 0, 1) := by decide +kernel
theorem d3_17 : decode prog_61_method_1_code 17 = .ok (.iload_n 2, 1) := by decide +kernel
theorem d3_18 : decode prog_61_method_1_code 18 = .ok (.newarray .int, 2) := by decide +kernel
theorem d3_20 : decode prog_61_method_1_code 20 = .ok (.putfield 19, 3) := by decide +kernel
theorem d3_23 : decode prog_61_method_1_code 23 = .ok (.aload_n 0, 1) := by decide +kernel
theorem d3_24 : decode prog_61_method_1_code 24 = .ok (.iload_n 2, 1) := by decide +kernel
theorem d3_25 : decode prog_61_method_1_code 25 = .ok (.newarray .int, 2) := by decide +kernel
theorem d3_27 : decode prog_61_method_1_code 27 = .ok (.putfield 22, 3) := by decide +kernel
theorem d3_30 : decode prog_61_method_1_code 30 = .ok (.return_, 1) := by decide +kernel
theorem d4_0 : decode object_method_1_code 0 = .ok (.return_, 1) := by decide +kernel
theorem d5_0 : decode prog_61_method_10_code 0 = .ok (.aload_n 0, 1) := by decide +kernel
theorem d5_1 : decode prog_61_method_10_code 1 = .ok (.getfield 15, 3) := by decide +kernel
theorem d5_4 : decode prog_61_method_10_code 4 = .ok (.aload_n 0, 1) := by decide +kernel
theorem d5_5 : decode prog_61_method_10_code 5 = .ok (.getfield 25, 3) := by decide +kernel
theorem d5_8 : decode prog_61_method_10_code 8 = .ok (.iload_n 2, 1) := by decide +kernel
theorem d5_9 : decode prog_61_method_10_code 9 = .ok (.iastore, 1) := by decide +kernel
theorem d5_10 : decode prog_61_method_10_code 10 = .ok (.aload_n 0, 1) := by decide +kernel
theorem d5_11 : decode prog_61_method_10_code 11 = .ok (.getfield 19, 3) := by decide +kernel
theorem d5_14 : decode prog_61_method_10_code 14 = .ok (.aload_n 0, 1) := by decide +kernel
theorem d5_15 : decode prog_61_method_10_code 15 = .ok (.getfield 25, 3) := by decide +kernel
theorem d5_18 : decode prog_61_method_10_code 18 = .ok (.iload_n 1, 1) := by decide +kernel
theorem d5_19 : decode prog_61_method_10_code 19 = .ok (.iastore, 1) := by decide +kernel
theorem d5_20 : decode prog_61_method_10_code 20 = .ok (.aload_n 0, 1) := by decide +kernel
theorem d5_21 : decode prog_61_method_10_code 21 = .ok (.getfield 22, 3) := by decide +kernel
theorem d5_24 : decode prog_61_method_10_code 24 = .ok (.aload_n 0, 1) := by decide +kernel
theorem d5_25 : decode prog_61_method_10_code 25 = .ok (.getfield 25, 3) := by decide +kernel
theorem d5_28 : decode prog_61_method_10_code 28 = .ok (.iload_n 3, 1) := by decide +kernel
theorem d5_29 : decode prog_61_method_10_code 29 = .ok (.iastore, 1) := by decide +kernel
theorem d5_30 : decode prog_61_method_10_code 30 = .ok (.aload_n 0, 1) := by decide +kernel
theorem d5_31 : decode prog_61_method_10_code 31 = .ok (.dup, 1) := by decide +kernel
theorem d5_32 : decode prog_61_method_10_code 32 = .ok (.getfield 25, 3) := by decide +kernel
theorem d5_35 : decode prog_61_method_10_code 35 = .ok (.iconst 1, 1) := by decide +kernel
theorem d5_36 : decode prog_61_method_10_code 36 = .ok (.iadd, 1) := by decide +kernel
theorem d5_37 : decode prog_61_method_10_code 37 = .ok (.putfield 25, 3) := by decide +kernel
theorem d5_40 : decode prog_61_method_10_code 40 = .ok (.return_, 1) := by decide +kernel
theorem d6_0 : decode prog_60_method_1_code 0 = .ok (.aload_n 0, 1) := by decide +kernel
theorem d6_1 : decode prog_60_method_1_code 1 = .ok (.invokespecial 1, 3) := by decide +kernel
theorem d6_4 : decode prog_60_method_1_code 4 = .ok (.aload_n 0, 1) := by decide +kernel
theorem d6_5 : decode prog_60_method_1_code 5 = .ok (.iload_n 1, 1) := by decide +kernel
theorem d6_6 : decode prog_60_method_1_code 6 = .ok (.putfield 7, 3) := by decide +kernel
theorem d6_9 : decode prog_60_method_1_code 9 = .ok (.aload_n 0, 1) := by decide +kernel
theorem d6_10 : decode prog_60_method_1_code 10 = .ok (.iload_n 2, 1) := by decide +kernel
theorem d6_11 : decode prog_60_method_1_code 11 = .ok (.putfield 13, 3) := by decide +kernel
theorem d6_14 : decode prog_60_method_1_code 14 = .ok (.aload_n 0, 1) := by decide +kernel
theorem d6_15 : decode prog_60_method_1_code 15 = .ok (.aload_n 3, 1) := by decide +kernel
theorem d6_16 : decode prog_60_method_1_code 16 = .ok (.putfield 17, 3) := by decide +kernel
theorem d6_19 : decode prog_60_method_1_code 19 = .ok (.aload_n 0, 1) := by decide +kernel
theorem d6_20 : decode prog_60_method_1_code 20 = .ok (.iload 4, 2) := by decide +kernel
theorem d6_22 : decode prog_60_method_1_code 22 = .ok (.putfield 21, 3) := by decide +kernel
theorem d6_25 : decode prog_60_method_1_code 25 = .ok (.aload_n 0, 1) := by decide +kernel
theorem d6_26 : decode prog_60_method_1_code 26 = .ok (.iload 4, 2) := by decide +kernel
theorem d6_28 : decode prog_60_method_1_code 28 = .ok (.putfield 24, 3) := by decide +kernel
theorem d6_31 : decode prog_60_method_1_code 31 = .ok (.aload_n 0, 1) := by decide +kernel
theorem d6_32 : decode prog_60_method_1_code 32 = .ok (.aload 5, 2) := by decide +kernel
theorem d6_34 : decode prog_60_method_1_code 34 = .ok (.putfield 27, 3) := by decide +kernel
theorem d6_37 : decode prog_60_method_1_code 37 = .ok (.aload_n 0, 1) := by decide +kernel
theorem d6_38 : decode prog_60_method_1_code 38 = .ok (.aload 6, 2) := by decide +kernel
theorem d6_40 : decode prog_60_method_1_code 40 = .ok (.putfield 30, 3) := by decide +kernel
theorem d6_43 : decode prog_60_method_1_code 43 = .ok (.aload_n 0, 1) := by decide +kernel
theorem d6_44 : decode prog_60_method_1_code 44 = .ok (.aload 5, 2) := by decide +kernel
theorem d6_46 : decode prog_60_method_1_code 46 = .ok (.invokevirtual 34, 3) := by decide +kernel
theorem d6_49 : decode prog_60_method_1_code 49 = .ok (.checkcast 35, 3) := by decide +kernel
theorem d6_52 : decode prog_60_method_1_code 52 = .ok (.putfield 39, 3) := by decide +kernel
theorem d6_55 : decode prog_60_method_1_code 55 = .ok (.aload_n 0, 1) := by decide +kernel
theorem d6_56 : decode prog_60_method_1_code 56 = .ok (.aload 6, 2) := by decide +kernel
theorem d6_58 : decode prog_60_method_1_code 58 = .ok (.invokevirtual 42, 3) := by decide +kernel
theorem d6_61 : decode prog_60_method_1_code 61 = .ok (.checkcast 43, 3) := by decide +kernel
theorem d6_64 : decode prog_60_method_1_code 64 = .ok (.putfield 44, 3) := by decide +kernel
theorem d6_67 : decode prog_60_method_1_code 67 = .ok (.aload_n 0, 1) := by decide +kernel
theorem d6_68 : decode prog_60_method_1_code 68 = .ok (.aload 7, 2) := by decide +kernel
theorem d6_70 : decode prog_60_method_1_code 70 = .ok (.putfield 47, 3) := by decide +kernel
theorem d6_73 : decode prog_60_method_1_code 73 = .ok (.aload_n 0, 1) := by decide +kernel
theorem d6_74 : decode prog_60_method_1_code 74 = .ok (.aload 8, 2) := by decide +kernel
theorem d6_76 : decode prog_60_method_1_code 76 = .ok (.putfield 50, 3) := by decide +kernel
theorem d6_79 : decode prog_60_method_1_code 79 = .ok (.aload_n 0, 1) := by decide +kernel
theorem d6_80 : decode prog_60_method_1_code 80 = .ok (.aload 10, 2) := by decide +kernel
theorem d6_82 : decode prog_60_method_1_code 82 = .ok (.getfield 53, 3) := by decide +kernel
theorem d6_85 : decode prog_60_method_1_code 85 = .ok (.aload 10, 2) := by decide +kernel
theorem d6_87 : decode prog_60_method_1_code 87 = .ok (.getfield 58, 3) := by decide +kernel
theorem d6_90 : decode prog_60_method_1_code 90 = .ok (.invokestatic 61, 3) := by decide +kernel
theorem d6_93 : decode prog_60_method_1_code 93 = .ok (.putfield 65, 3) := by decide +kernel
theorem d6_96 : decode prog_60_method_1_code 96 = .ok (.aload_n 0, 1) := by decide +kernel
theorem d6_97 : decode prog_60_method_1_code 97 = .ok (.aload 10, 2) := by decide +kernel
theorem d6_99 : decode prog_60_method_1_code 99 = .ok (.getfield 68, 3) := by decide +kernel
theorem d6_102 : decode prog_60_method_1_code 102 = .ok (.putfield 71, 3) := by decide +kernel
theorem d6_105 : decode prog_60_method_1_code 105 = .ok (.aload_n 0, 1) := by decide +kernel
theorem d6_106 : decode prog_60_method_1_code 106 = .ok (.aload 10, 2) := by decide +kernel
theorem d6_108 : decode prog_60_method_1_code 108 = .ok (.getfield 53, 3) := by decide +kernel
theorem d6_111 : decode prog_60_method_1_code 111 = .ok (.putfield 74, 3) := by decide +kernel
theorem d6_114 : decode prog_60_method_1_code 114 = .ok (.aload_n 0, 1) := by decide +kernel
theorem d6_115 : decode prog_60_method_1_code 115 = .ok (.aload 10, 2) := by decide +kernel
theorem d6_117 : decode prog_60_method_1_code 117 = .ok (.getfield 68, 3) := by decide +kernel
theorem d6_120 : decode prog_60_method_1_code 120 = .ok (.aload 5, 2) := by decide +kernel
theorem d6_122 : decode prog_60_method_1_code 122 = .ok (.arraylength, 1) := by decide +kernel
theorem d6_123 : decode prog_60_method_1_code 123 = .ok (.invokestatic 61, 3) := by decide +kernel
theorem d6_126 : decode prog_60_method_1_code 126 = .ok (.putfield 77, 3) := by decide +kernel
theorem d6_129 : decode prog_60_method_1_code 129 = .ok (.aload_n 0, 1) := by decide +kernel
theorem d6_130 : decode prog_60_method_1_code 130 = .ok (.aload 10, 2) := by decide +kernel
theorem d6_132 : decode prog_60_method_1_code 132 = .ok (.getfield 80, 3) := by decide +kernel
theorem d6_135 : decode prog_60_method_1_code 135 = .ok (.newarray .int, 2) := by decide +kernel
theorem d6_137 : decode prog_60_method_1_code 137 = .ok (.putfield 83, 3) := by decide +kernel
theorem d6_140 : decode prog_60_method_1_code 140 = .ok (.aload_n 0, 1) := by decide +kernel
theorem d6_141 : decode prog_60_method_1_code 141 = .ok (.aload 10, 2) := by decide +kernel
theorem d6_143 : decode prog_60_method_1_code 143 = .ok (.getfield 80, 3) := by decide +kernel
theorem d6_146 : decode prog_60_method_1_code 146 = .ok (.newarray .int, 2) := by decide +kernel
theorem d6_148 : decode prog_60_method_1_code 148 = .ok (.putfield 86, 3) := by decide +kernel
theorem d6_151 : decode prog_60_method_1_code 151 = .ok (.aload_n 0, 1) := by decide +kernel
theorem d6_152 : decode prog_60_method_1_code 152 = .ok (.aload 10, 2) := by decide +kernel
theorem d6_154 : decode prog_60_method_1_code 154 = .ok (.getfield 80, 3) := by decide +kernel
theorem d6_157 : decode prog_60_method_1_code 157 = .ok (.iconst 1, 1) := by decide +kernel
theorem d6_158 : decode prog_60_method_1_code 158 = .ok (.iadd, 1) := by decide +kernel
theorem d6_159 : decode prog_60_method_1_code 159 = .ok (.newarray .int, 2) := by decide +kernel
theorem d6_161 : decode prog_60_method_1_code 161 = .ok (.putfield 89, 3) := by decide +kernel
theorem d6_164 : decode prog_60_method_1_code 164 = .ok (.aload 10, 2) := by decide +kernel
theorem d6_166 : decode prog_60_method_1_code 166 = .ok (.aload_n 0, 1) := by decide +kernel
theorem d6_167 : decode prog_60_method_1_code 167 = .ok (.getfield 89, 3) := by decide +kernel
theorem d6_170 : decode prog_60_method_1_code 170 = .ok (.invokevirtual 92, 3) := by decide +kernel
theorem d6_173 : decode prog_60_method_1_code 173 = .ok (.aload 10, 2) := by decide +kernel
theorem d6_175 : decode prog_60_method_1_code 175 = .ok (.aload_n 0, 1) := by decide +kernel
theorem d6_176 : decode prog_60_method_1_code 176 = .ok (.getfield 65, 3) := by decide +kernel
theorem d6_179 : decode prog_60_method_1_code 179 = .ok (.aload_n 0, 1) := by decide +kernel
theorem d6_180 : decode prog_60_method_1_code 180 = .ok (.getfield 77, 3) := by decide +kernel
theorem d6_183 : decode prog_60_method_1_code 183 = .ok (.aload_n 0, 1) := by decide +kernel
theorem d6_184 : decode prog_60_method_1_code 184 = .ok (.getfield 83, 3) := by decide +kernel
theorem d6_187 : decode prog_60_method_1_code 187 = .ok (.aload_n 0, 1) := by decide +kernel
theorem d6_188 : decode prog_60_method_1_code 188 = .ok (.getfield 86, 3) := by decide +kernel
theorem d6_191 : decode prog_60_method_1_code 191 = .ok (.invokevirtual 96, 3) := by decide +kernel
theorem d6_194 : decode prog_60_method_1_code 194 = .ok (.aload_n 0, 1) := by decide +kernel
theorem d6_195 : decode prog_60_method_1_code 195 = .ok (.aload 10, 2) := by decide +kernel
theorem d6_197 : decode prog_60_method_1_code 197 = .ok (.aload_n 0, 1) := by decide +kernel
theorem d6_198 : decode prog_60_method_1_code 198 = .ok (.getfield 77, 3) := by decide +kernel
theorem d6_201 : decode prog_60_method_1_code 201 = .ok (.aload_n 0, 1) := by decide +kernel
theorem d6_202 : decode prog_60_method_1_code 202 = .ok (.getfield 86, 3) := by decide +kernel
theorem d6_205 : decode prog_60_method_1_code 205 = .ok (.invokevirtual 100, 3) := by decide +kernel
theorem d6_208 : decode prog_60_method_1_code 208 = .ok (.putfield 104, 3) := by decide +kernel
theorem d6_211 : decode prog_60_method_1_code 211 = .ok (.aload_n 0, 1) := by decide +kernel
theorem d6_212 : decode prog_60_method_1_code 212 = .ok (.aload_n 0, 1) := by decide +kernel
theorem d6_213 : decode prog_60_method_1_code 213 = .ok (.getfield 89, 3) := by decide +kernel
theorem d6_216 : decode prog_60_method_1_code 216 = .ok (.aload 10, 2) := by decide +kernel
theorem d6_218 : decode prog_60_method_1_code 218 = .ok (.getfield 80, 3) := by decide +kernel
theorem d6_221 : decode prog_60_method_1_code 221 = .ok (.iaload, 1) := by decide +kernel
theorem d6_222 : decode prog_60_method_1_code 222 = .ok (.newarray .int, 2) := by decide +kernel
theorem d6_224 : decode prog_60_method_1_code 224 = .ok (.putfield 107, 3) := by decide +kernel
theorem d6_227 : decode prog_60_method_1_code 227 = .ok (.aload_n 0, 1) := by decide +kernel
theorem d6_228 : decode prog_60_method_1_code 228 = .ok (.aload_n 0, 1) := by decide +kernel
theorem d6_229 : decode prog_60_method_1_code 229 = .ok (.getfield 107, 3) := by decide +kernel
theorem d6_232 : decode prog_60_method_1_code 232 = .ok (.arraylength, 1) := by decide +kernel
theorem d6_233 : decode prog_60_method_1_code 233 = .ok (.newarray .long, 2) := by decide +kernel
theorem d6_235 : decode prog_60_method_1_code 235 = .ok (.putfield 110, 3) := by decide +kernel
theorem d6_238 : decode prog_60_method_1_code 238 = .ok (.aload_n 0, 1) := by decide +kernel
theorem d6_239 : decode prog_60_method_1_code 239 = .ok (.aload 10, 2) := by decide +kernel
theorem d6_241 : decode prog_60_method_1_code 241 = .ok (.getfield 80, 3) := by decide +kernel
theorem d6_244 : decode prog_60_method_1_code 244 = .ok (.newarray .int, 2) := by decide +kernel
theorem d6_246 : decode prog_60_method_1_code 246 = .ok (.putfield 113, 3) := by decide +kernel
theorem d6_249 : decode prog_60_method_1_code 249 = .ok (.aload 9, 2) := by decide +kernel
theorem d6_251 : decode prog_60_method_1_code 251 = .ok (.ifnull 183, 3) := by decide +kernel
theorem d6_254 : decode prog_60_method_1_code 254 = .ok (.aload_n 0, 1) := by decide +kernel
theorem d6_255 : decode prog_60_method_1_code 255 = .ok (.aload 7, 2) := by decide +kernel
theorem d6_257 : decode prog_60_method_1_code 257 = .ok (.arraylength, 1) := by decide +kernel
theorem d6_258 : decode prog_60_method_1_code 258 = .ok (.newarray .int, 2) := by decide +kernel
theorem d6_260 : decode prog_60_method_1_code 260 = .ok (.putfield 116, 3) := by decide +kernel
theorem d6_263 : decode prog_60_method_1_code 263 = .ok (.aload_n 0, 1) := by decide +kernel
theorem d6_264 : decode prog_60_method_1_code 264 = .ok (.aload 10, 2) := by decide +kernel
theorem d6_266 : decode prog_60_method_1_code 266 = .ok (.getfield 80, 3) := by decide +kernel
theorem d6_269 : decode prog_60_method_1_code 269 = .ok (.newarray .int, 2) := by decide +kernel
theorem d6_271 : decode prog_60_method_1_code 271 = .ok (.putfield 119, 3) := by decide +kernel
theorem d6_274 : decode prog_60_method_1_code 274 = .ok (.iconst 0, 1) := by decide +kernel
theorem d6_275 : decode prog_60_method_1_code 275 = .ok (.istore 11, 2) := by decide +kernel
theorem d6_277 : decode prog_60_method_1_code 277 = .ok (.iload 11, 2) := by decide +kernel
theorem d6_279 : decode prog_60_method_1_code 279 = .ok (.iconst 1, 1) := by decide +kernel
theorem d6_280 : decode prog_60_method_1_code 280 = .ok (.iadd, 1) := by decide +kernel
theorem d6_281 : decode prog_60_method_1_code 281 = .ok (.aload 8, 2) := by decide +kernel
theorem d6_283 : decode prog_60_method_1_code 283 = .ok (.arraylength, 1) := by decide +kernel
theorem d6_284 : decode prog_60_method_1_code 284 = .ok (.if_icmp .ge 17, 3) := by decide +kernel
theorem d6_287 : decode prog_60_method_1_code 287 = .ok (.aload_n 0, 1) := by decide +kernel
theorem d6_288 : decode prog_60_method_1_code 288 = .ok (.iload 11, 2) := by decide +kernel
theorem d6_290 : decode prog_60_method_1_code 290 = .ok (.aload 9, 2) := by decide +kernel
theorem d6_292 : decode prog_60_method_1_code 292 = .ok (.invokevirtual 122, 3) := by decide +kernel
theorem d6_295 : decode prog_60_method_1_code 295 = .ok (.iinc 11 1, 3) := by decide +kernel
theorem d6_298 : decode prog_60_method_1_code 298 = .ok (.goto (-21), 3) := by decide +kernel
theorem d6_301 : decode prog_60_method_1_code 301 = .ok (.aload_n 0, 1) := by decide +kernel
theorem d6_302 : decode prog_60_method_1_code 302 = .ok (.aload 10, 2) := by decide +kernel
theorem d6_304 : decode prog_60_method_1_code 304 = .ok (.getfield 80, 3) := by decide +kernel
theorem d6_307 : decode prog_60_method_1_code 307 = .ok (.iconst 1, 1) := by decide +kernel
theorem d6_308 : decode prog_60_method_1_code 308 = .ok (.iadd, 1) := by decide +kernel
theorem d6_309 : decode prog_60_method_1_code 309 = .ok (.newarray .int, 2) := by decide +kernel
theorem d6_311 : decode prog_60_method_1_code 311 = .ok (.putfield 126, 3) := by decide +kernel
theorem d6_314 : decode prog_60_method_1_code 314 = .ok (.iconst 0, 1) := by decide +kernel
theorem d6_315 : decode prog_60_method_1_code 315 = .ok (.istore 11, 2) := by decide +kernel
theorem d6_317 : decode prog_60_method_1_code 317 = .ok (.iload 11, 2) := by decide +kernel
theorem d6_319 : decode prog_60_method_1_code 319 = .ok (.aload 10, 2) := by decide +kernel
theorem d6_321 : decode prog_60_method_1_code 321 = .ok (.getfield 80, 3) := by decide +kernel
theorem d6_324 : decode prog_60_method_1_code 324 = .ok (.if_icmp .ge 60, 3) := by decide +kernel
theorem d6_327 : decode prog_60_method_1_code 327 = .ok (.aload_n 0, 1) := by decide +kernel
theorem d6_328 : decode prog_60_method_1_code 328 = .ok (.getfield 119, 3) := by decide +kernel
theorem d6_331 : decode prog_60_method_1_code 331 = .ok (.iload 11, 2) := by decide +kernel
theorem d6_333 : decode prog_60_method_1_code 333 = .ok (.iaload, 1) := by decide +kernel
theorem d6_334 : decode prog_60_method_1_code 334 = .ok (.ifCond .le 22, 3) := by decide +kernel
theorem d6_337 : decode prog_60_method_1_code 337 = .ok (.aload_n 0, 1) := by decide +kernel
theorem d6_338 : decode prog_60_method_1_code 338 = .ok (.getfield 119, 3) := by decide +kernel
theorem d6_341 : decode prog_60_method_1_code 341 = .ok (.iload 11, 2) := by decide +kernel
theorem d6_343 : decode prog_60_method_1_code 343 = .ok (.iaload, 1) := by decide +kernel
theorem d6_344 : decode prog_60_method_1_code 344 = .ok (.aload_n 0, 1) := by decide +kernel
theorem d6_345 : decode prog_60_method_1_code 345 = .ok (.iload 11, 2) := by decide +kernel
theorem d6_347 : decode prog_60_method_1_code 347 = .ok (.invokevirtual 129, 3) := by decide +kernel
theorem d6_350 : decode prog_60_method_1_code 350 = .ok (.isub, 1) := by decide +kernel
theorem d6_351 : decode prog_60_method_1_code 351 = .ok (.iconst 1, 1) := by decide +kernel
theorem d6_352 : decode prog_60_method_1_code 352 = .ok (.iadd, 1) := by decide +kernel
theorem d6_353 : decode prog_60_method_1_code 353 = .ok (.goto 4, 3) := by decide +kernel
theorem d6_356 : decode prog_60_method_1_code 356 = .ok (.iconst 0, 1) := by decide +kernel
theorem d6_357 : decode prog_60_method_1_code 357 = .ok (.istore 12, 2) := by decide +kernel
theorem d6_359 : decode prog_60_method_1_code 359 = .ok (.aload_n 0, 1) := by decide +kernel
theorem d6_360 : decode prog_60_method_1_code 360 = .ok (.getfield 126, 3) := by decide +kernel
theorem d6_363 : decode prog_60_method_1_code 363 = .ok (.iload 11, 2) := by decide +kernel
theorem d6_365 : decode prog_60_method_1_code 365 = .ok (.iconst 1, 1) := by decide +kernel
theorem d6_366 : decode prog_60_method_1_code 366 = .ok (.iadd, 1) := by decide +kernel
theorem d6_367 : decode prog_60_method_1_code 367 = .ok (.aload_n 0, 1) := by decide +kernel
theorem d6_368 : decode prog_60_method_1_code 368 = .ok (.getfield 126, 3) := by decide +kernel
theorem d6_371 : decode prog_60_method_1_code 371 = .ok (.iload 11, 2) := by decide +kernel
theorem d6_373 : decode prog_60_method_1_code 373 = .ok (.iaload, 1) := by decide +kernel
theorem d6_374 : decode prog_60_method_1_code 374 = .ok (.iload 12, 2) := by decide +kernel
theorem d6_376 : decode prog_60_method_1_code 376 = .ok (.iadd, 1) := by decide +kernel
theorem d6_377 : decode prog_60_method_1_code 377 = .ok (.iastore, 1) := by decide +kernel
theorem d6_378 : decode prog_60_method_1_code 378 = .ok (.iinc 11 1, 3) := by decide +kernel
theorem d6_381 : decode prog_60_method_1_code 381 = .ok (.goto (-64), 3) := by decide +kernel
theorem d6_384 : decode prog_60_method_1_code 384 = .ok (.aload_n 0, 1) := by decide +kernel
theorem d6_385 : decode prog_60_method_1_code 385 = .ok (.aload_n 0, 1) := by decide +kernel
theorem d6_386 : decode prog_60_method_1_code 386 = .ok (.getfield 126, 3) := by decide +kernel
theorem d6_389 : decode prog_60_method_1_code 389 = .ok (.aload 10, 2) := by decide +kernel
theorem d6_391 : decode prog_60_method_1_code 391 = .ok (.getfield 80, 3) := by decide +kernel
theorem d6_394 : decode prog_60_method_1_code 394 = .ok (.iaload, 1) := by decide +kernel
theorem d6_395 : decode prog_60_method_1_code 395 = .ok (.newarray .int, 2) := by decide +kernel
theorem d6_397 : decode prog_60_method_1_code 397 = .ok (.putfield 133, 3) := by decide +kernel
theorem d6_400 : decode prog_60_method_1_code 400 = .ok (.aload_n 0, 1) := by decide +kernel
theorem d6_401 : decode prog_60_method_1_code 401 = .ok (.aload_n 0, 1) := by decide +kernel
theorem d6_402 : decode prog_60_method_1_code 402 = .ok (.getfield 133, 3) := by decide +kernel
theorem d6_405 : decode prog_60_method_1_code 405 = .ok (.arraylength, 1) := by decide +kernel
theorem d6_406 : decode prog_60_method_1_code 406 = .ok (.newarray .int, 2) := by decide +kernel
theorem d6_408 : decode prog_60_method_1_code 408 = .ok (.putfield 136, 3) := by decide +kernel
theorem d6_411 : decode prog_60_method_1_code 411 = .ok (.aload_n 0, 1) := by decide +kernel
theorem d6_412 : decode prog_60_method_1_code 412 = .ok (.aload 10, 2) := by decide +kernel
theorem d6_414 : decode prog_60_method_1_code 414 = .ok (.getfield 80, 3) := by decide +kernel
theorem d6_417 : decode prog_60_method_1_code 417 = .ok (.newarray .int, 2) := by decide +kernel
theorem d6_419 : decode prog_60_method_1_code 419 = .ok (.putfield 139, 3) := by decide +kernel
theorem d6_422 : decode prog_60_method_1_code 422 = .ok (.aload_n 0, 1) := by decide +kernel
theorem d6_423 : decode prog_60_method_1_code 423 = .ok (.aload 7, 2) := by decide +kernel
theorem d6_425 : decode prog_60_method_1_code 425 = .ok (.arraylength, 1) := by decide +kernel
theorem d6_426 : decode prog_60_method_1_code 426 = .ok (.newarray .int, 2) := by decide +kernel
theorem d6_428 : decode prog_60_method_1_code 428 = .ok (.putfield 142, 3) := by decide +kernel
theorem d6_431 : decode prog_60_method_1_code 431 = .ok (.goto 38, 3) := by decide +kernel
theorem d6_434 : decode prog_60_method_1_code 434 = .ok (.aload_n 0, 1) := by decide +kernel
theorem d6_435 : decode prog_60_method_1_code 435 = .ok (.aconst_null, 1) := by decide +kernel
theorem d6_436 : decode prog_60_method_1_code 436 = .ok (.putfield 116, 3) := by decide +kernel
theorem d6_439 : decode prog_60_method_1_code 439 = .ok (.aload_n 0, 1) := by decide +kernel
theorem d6_440 : decode prog_60_method_1_code 440 = .ok (.aconst_null, 1) := by decide +kernel
theorem d6_441 : decode prog_60_method_1_code 441 = .ok (.putfield 119, 3) := by decide +kernel
theorem d6_444 : decode prog_60_method_1_code 444 = .ok (.aload_n 0, 1) := by decide +kernel
theorem d6_445 : decode prog_60_method_1_code 445 = .ok (.aconst_null, 1) := by decide +kernel
theorem d6_446 : decode prog_60_method_1_code 446 = .ok (.putfield 126, 3) := by decide +kernel
theorem d6_449 : decode prog_60_method_1_code 449 = .ok (.aload_n 0, 1) := by decide +kernel
theorem d6_450 : decode prog_60_method_1_code 450 = .ok (.aconst_null, 1) := by decide +kernel
theorem d6_451 : decode prog_60_method_1_code 451 = .ok (.putfield 133, 3) := by decide +kernel
theorem d6_454 : decode prog_60_method_1_code 454 = .ok (.aload_n 0, 1) := by decide +kernel
theorem d6_455 : decode prog_60_method_1_code 455 = .ok (.aconst_null, 1) := by decide +kernel
theorem d6_456 : decode prog_60_method_1_code 456 = .ok (.putfield 136, 3) := by decide +kernel
theorem d6_459 : decode prog_60_method_1_code 459 = .ok (.aload_n 0, 1) := by decide +kernel
theorem d6_460 : decode prog_60_method_1_code 460 = .ok (.aconst_null, 1) := by decide +kernel
theorem d6_461 : decode prog_60_method_1_code 461 = .ok (.putfield 139, 3) := by decide +kernel
theorem d6_464 : decode prog_60_method_1_code 464 = .ok (.aload_n 0, 1) := by decide +kernel
theorem d6_465 : decode prog_60_method_1_code 465 = .ok (.aconst_null, 1) := by decide +kernel
theorem d6_466 : decode prog_60_method_1_code 466 = .ok (.putfield 142, 3) := by decide +kernel
theorem d6_469 : decode prog_60_method_1_code 469 = .ok (.return_, 1) := by decide +kernel
theorem d7_0 : decode prog_60_method_4_code 0 = .ok (.iload_n 1, 1) := by decide +kernel
theorem d7_1 : decode prog_60_method_4_code 1 = .ok (.iconst 1, 1) := by decide +kernel
theorem d7_2 : decode prog_60_method_4_code 2 = .ok (.iadd, 1) := by decide +kernel
theorem d7_3 : decode prog_60_method_4_code 3 = .ok (.newarray .int, 2) := by decide +kernel
theorem d7_5 : decode prog_60_method_4_code 5 = .ok (.astore_n 2, 1) := by decide +kernel
theorem d7_6 : decode prog_60_method_4_code 6 = .ok (.aload_n 0, 1) := by decide +kernel
theorem d7_7 : decode prog_60_method_4_code 7 = .ok (.astore_n 3, 1) := by decide +kernel
theorem d7_8 : decode prog_60_method_4_code 8 = .ok (.aload_n 3, 1) := by decide +kernel
theorem d7_9 : decode prog_60_method_4_code 9 = .ok (.arraylength, 1) := by decide +kernel
theorem d7_10 : decode prog_60_method_4_code 10 = .ok (.istore 4, 2) := by decide +kernel
theorem d7_12 : decode prog_60_method_4_code 12 = .ok (.iconst 0, 1) := by decide +kernel
theorem d7_13 : decode prog_60_method_4_code 13 = .ok (.istore 5, 2) := by decide +kernel
theorem d7_15 : decode prog_60_method_4_code 15 = .ok (.iload 5, 2) := by decide +kernel
theorem d7_17 : decode prog_60_method_4_code 17 = .ok (.iload 4, 2) := by decide +kernel
theorem d7_19 : decode prog_60_method_4_code 19 = .ok (.if_icmp .ge 25, 3) := by decide +kernel
theorem d7_22 : decode prog_60_method_4_code 22 = .ok (.aload_n 3, 1) := by decide +kernel
theorem d7_23 : decode prog_60_method_4_code 23 = .ok (.iload 5, 2) := by decide +kernel
theorem d7_25 : decode prog_60_method_4_code 25 = .ok (.iaload, 1) := by decide +kernel
theorem d7_26 : decode prog_60_method_4_code 26 = .ok (.istore 6, 2) := by decide +kernel
theorem d7_28 : decode prog_60_method_4_code 28 = .ok (.aload_n 2, 1) := by decide +kernel
theorem d7_29 : decode prog_60_method_4_code 29 = .ok (.iload 6, 2) := by decide +kernel
theorem d7_31 : decode prog_60_method_4_code 31 = .ok (.iconst 1, 1) := by decide +kernel
theorem d7_32 : decode prog_60_method_4_code 32 = .ok (.iadd, 1) := by decide +kernel
theorem d7_33 : decode prog_60_method_4_code 33 = .ok (.dup2, 1) := by decide +kernel
theorem d7_34 : decode prog_60_method_4_code 34 = .ok (.iaload, 1) := by decide +kernel
theorem d7_35 : decode prog_60_method_4_code 35 = .ok (.iconst 1, 1) := by decide +kernel
theorem d7_36 : decode prog_60_method_4_code 36 = .ok (.iadd, 1) := by decide +kernel
theorem d7_37 : decode prog_60_method_4_code 37 = .ok (.iastore, 1) := by decide +kernel
theorem d7_38 : decode prog_60_method_4_code 38 = .ok (.iinc 5 1, 3) := by decide +kernel
theorem d7_41 : decode prog_60_method_4_code 41 = .ok (.goto (-26), 3) := by decide +kernel
theorem d7_44 : decode prog_60_method_4_code 44 = .ok (.iconst 0, 1) := by decide +kernel
theorem d7_45 : decode prog_60_method_4_code 45 = .ok (.istore_n 3, 1) := by decide +kernel
theorem d7_46 : decode prog_60_method_4_code 46 = .ok (.iload_n 3, 1) := by decide +kernel
theorem d7_47 : decode prog_60_method_4_code 47 = .ok (.iload_n 1, 1) := by decide +kernel
theorem d7_48 : decode prog_60_method_4_code 48 = .ok (.if_icmp .ge 20, 3) := by decide +kernel
theorem d7_51 : decode prog_60_method_4_code 51 = .ok (.aload_n 2, 1) := by decide +kernel
theorem d7_52 : decode prog_60_method_4_code 52 = .ok (.iload_n 3, 1) := by decide +kernel
theorem d7_53 : decode prog_60_method_4_code 53 = .ok (.iconst 1, 1) := by decide +kernel
theorem d7_54 : decode prog_60_method_4_code 54 = .ok (.iadd, 1) := by decide +kernel
theorem d7_55 : decode prog_60_method_4_code 55 = .ok (.dup2, 1) := by decide +kernel
theorem d7_56 : decode prog_60_method_4_code 56 = .ok (.iaload, 1) := by decide +kernel
theorem d7_57 : decode prog_60_method_4_code 57 = .ok (.aload_n 2, 1) := by decide +kernel
theorem d7_58 : decode prog_60_method_4_code 58 = .ok (.iload_n 3, 1) := by decide +kernel
theorem d7_59 : decode prog_60_method_4_code 59 = .ok (.iaload, 1) := by decide +kernel
theorem d7_60 : decode prog_60_method_4_code 60 = .ok (.iadd, 1) := by decide +kernel
theorem d7_61 : decode prog_60_method_4_code 61 = .ok (.iastore, 1) := by decide +kernel
theorem d7_62 : decode prog_60_method_4_code 62 = .ok (.iinc 3 1, 3) := by decide +kernel
theorem d7_65 : decode prog_60_method_4_code 65 = .ok (.goto (-19), 3) := by decide +kernel
theorem d7_68 : decode prog_60_method_4_code 68 = .ok (.aload_n 2, 1) := by decide +kernel
theorem d7_69 : decode prog_60_method_4_code 69 = .ok (.areturn, 1) := by decide +kernel
theorem d8_0 : decode prog_61_method_2_code 0 = .ok (.iconst 0, 1) := by decide +kernel
theorem d8_1 : decode prog_61_method_2_code 1 = .ok (.istore_n 2, 1) := by decide +kernel
theorem d8_2 : decode prog_61_method_2_code 2 = .ok (.iload_n 2, 1) := by decide +kernel
theorem d8_3 : decode prog_61_method_2_code 3 = .ok (.aload_n 0, 1) := by decide +kernel
theorem d8_4 : decode prog_61_method_2_code 4 = .ok (.getfield 25, 3) := by decide +kernel
theorem d8_7 : decode prog_61_method_2_code 7 = .ok (.if_icmp .ge 24, 3) := by decide +kernel
theorem d8_10 : decode prog_61_method_2_code 10 = .ok (.aload_n 1, 1) := by decide +kernel
theorem d8_11 : decode prog_61_method_2_code 11 = .ok (.iload_n 2, 1) := by decide +kernel
theorem d8_12 : decode prog_61_method_2_code 12 = .ok (.iconst 1, 1) := by decide +kernel
theorem d8_13 : decode prog_61_method_2_code 13 = .ok (.iadd, 1) := by decide +kernel
theorem d8_14 : decode prog_61_method_2_code 14 = .ok (.aload_n 1, 1) := by decide +kernel
theorem d8_15 : decode prog_61_method_2_code 15 = .ok (.iload_n 2, 1) := by decide +kernel
theorem d8_16 : decode prog_61_method_2_code 16 = .ok (.iaload, 1) := by decide +kernel
theorem d8_17 : decode prog_61_method_2_code 17 = .ok (.aload_n 0, 1) := by decide +kernel
theorem d8_18 : decode prog_61_method_2_code 18 = .ok (.getfield 22, 3) := by decide +kernel
theorem d8_21 : decode prog_61_method_2_code 21 = .ok (.iload_n 2, 1) := by decide +kernel
theorem d8_22 : decode prog_61_method_2_code 22 = .ok (.iaload, 1) := by decide +kernel
theorem d8_23 : decode prog_61_method_2_code 23 = .ok (.iadd, 1) := by decide +kernel
theorem d8_24 : decode prog_61_method_2_code 24 = .ok (.iastore, 1) := by decide +kernel
theorem d8_25 : decode prog_61_method_2_code 25 = .ok (.iinc 2 1, 3) := by decide +kernel
theorem d8_28 : decode prog_61_method_2_code 28 = .ok (.goto (-26), 3) := by decide +kernel
theorem d8_31 : decode prog_61_method_2_code 31 = .ok (.return_, 1) := by decide +kernel
theorem d9_0 : decode prog_61_method_7_code 0 = .ok (.aload_n 0, 1) := by decide +kernel
theorem d9_1 : decode prog_61_method_7_code 1 = .ok (.invokevirtual 58, 3) := by decide +kernel
theorem d9_4 : decode prog_61_method_7_code 4 = .ok (.astore 5, 2) := by decide +kernel
theorem d9_6 : decode prog_61_method_7_code 6 = .ok (.aload_n 0, 1) := by decide +kernel
theorem d9_7 : decode prog_61_method_7_code 7 = .ok (.aload_n 0, 1) := by decide +kernel
theorem d9_8 : decode prog_61_method_7_code 8 = .ok (.getfield 28, 3) := by decide +kernel
theorem d9_11 : decode prog_61_method_7_code 11 = .ok (.ifnull 11, 3) := by decide +kernel
theorem d9_14 : decode prog_61_method_7_code 14 = .ok (.aload 5, 2) := by decide +kernel
theorem d9_16 : decode prog_61_method_7_code 16 = .ok (.arraylength, 1) := by decide +kernel
theorem d9_17 : decode prog_61_method_7_code 17 = .ok (.newarray .int, 2) := by decide +kernel
theorem d9_19 : decode prog_61_method_7_code 19 = .ok (.goto 4, 3) := by decide +kernel
theorem d9_22 : decode prog_61_method_7_code 22 = .ok (.aconst_null, 1) := by decide +kernel
theorem d9_23 : decode prog_61_method_7_code 23 = .ok (.putfield 34, 3) := by decide +kernel
theorem d9_26 : decode prog_61_method_7_code 26 = .ok (.aload_n 2, 1) := by decide +kernel
theorem d9_27 : decode prog_61_method_7_code 27 = .ok (.aload_n 2, 1) := by decide +kernel
theorem d9_28 : decode prog_61_method_7_code 28 = .ok (.arraylength, 1) := by decide +kernel
theorem d9_29 : decode prog_61_method_7_code 29 = .ok (.iconst 1, 1) := by decide +kernel
theorem d9_30 : decode prog_61_method_7_code 30 = .ok (.isub, 1) := by decide +kernel
theorem d9_31 : decode prog_61_method_7_code 31 = .ok (.invokestatic 47, 3) := by decide +kernel
theorem d9_34 : decode prog_61_method_7_code 34 = .ok (.astore 6, 2) := by decide +kernel
theorem d9_36 : decode prog_61_method_7_code 36 = .ok (.iconst 0, 1) := by decide +kernel
theorem d9_37 : decode prog_61_method_7_code 37 = .ok (.istore 7, 2) := by decide +kernel
theorem d9_39 : decode prog_61_method_7_code 39 = .ok (.iload 7, 2) := by decide +kernel
theorem d9_41 : decode prog_61_method_7_code 41 = .ok (.aload 5, 2) := by decide +kernel
theorem d9_43 : decode prog_61_method_7_code 43 = .ok (.arraylength, 1) := by decide +kernel
theorem d9_44 : decode prog_61_method_7_code 44 = .ok (.if_icmp .ge 90, 3) := by decide +kernel
theorem d9_47 : decode prog_61_method_7_code 47 = .ok (.aload 5, 2) := by decide +kernel
theorem d9_49 : decode prog_61_method_7_code 49 = .ok (.iload 7, 2) := by decide +kernel
theorem d9_51 : decode prog_61_method_7_code 51 = .ok (.iaload, 1) := by decide +kernel
theorem d9_52 : decode prog_61_method_7_code 52 = .ok (.istore 8, 2) := by decide +kernel
theorem d9_54 : decode prog_61_method_7_code 54 = .ok (.aload_n 0, 1) := by decide +kernel
theorem d9_55 : decode prog_61_method_7_code 55 = .ok (.getfield 34, 3) := by decide +kernel
theorem d9_58 : decode prog_61_method_7_code 58 = .ok (.ifnull 17, 3) := by decide +kernel
theorem d9_61 : decode prog_61_method_7_code 61 = .ok (.aload_n 0, 1) := by decide +kernel
theorem d9_62 : decode prog_61_method_7_code 62 = .ok (.getfield 34, 3) := by decide +kernel
theorem d9_65 : decode prog_61_method_7_code 65 = .ok (.iload 7, 2) := by decide +kernel
theorem d9_67 : decode prog_61_method_7_code 67 = .ok (.aload_n 0, 1) := by decide +kernel
theorem d9_68 : decode prog_61_method_7_code 68 = .ok (.getfield 28, 3) := by decide +kernel
theorem d9_71 : decode prog_61_method_7_code 71 = .ok (.iload 8, 2) := by decide +kernel
theorem d9_73 : decode prog_61_method_7_code 73 = .ok (.iaload, 1) := by decide +kernel
theorem d9_74 : decode prog_61_method_7_code 74 = .ok (.iastore, 1) := by decide +kernel
theorem d9_75 : decode prog_61_method_7_code 75 = .ok (.aload_n 1, 1) := by decide +kernel
theorem d9_76 : decode prog_61_method_7_code 76 = .ok (.iload 8, 2) := by decide +kernel
theorem d9_78 : decode prog_61_method_7_code 78 = .ok (.iaload, 1) := by decide +kernel
theorem d9_79 : decode prog_61_method_7_code 79 = .ok (.istore 9, 2) := by decide +kernel
theorem d9_81 : decode prog_61_method_7_code 81 = .ok (.iload 9, 2) := by decide +kernel
theorem d9_83 : decode prog_61_method_7_code 83 = .ok (.aload_n 1, 1) := by decide +kernel
theorem d9_84 : decode prog_61_method_7_code 84 = .ok (.iload 8, 2) := by decide +kernel
theorem d9_86 : decode prog_61_method_7_code 86 = .ok (.iconst 1, 1) := by decide +kernel
theorem d9_87 : decode prog_61_method_7_code 87 = .ok (.iadd, 1) := by decide +kernel
theorem d9_88 : decode prog_61_method_7_code 88 = .ok (.iaload, 1) := by decide +kernel
theorem d9_89 : decode prog_61_method_7_code 89 = .ok (.if_icmp .ge 39, 3) := by decide +kernel
theorem d9_92 : decode prog_61_method_7_code 92 = .ok (.aload 6, 2) := by decide +kernel
theorem d9_94 : decode prog_61_method_7_code 94 = .ok (.aload_n 0, 1) := by decide +kernel
theorem d9_95 : decode prog_61_method_7_code 95 = .ok (.getfield 15, 3) := by decide +kernel
theorem d9_98 : decode prog_61_method_7_code 98 = .ok (.iload 9, 2) := by decide +kernel
theorem d9_100 : decode prog_61_method_7_code 100 = .ok (.iaload, 1) := by decide +kernel
theorem d9_101 : decode prog_61_method_7_code 101 = .ok (.dup2, 1) := by decide +kernel
theorem d9_102 : decode prog_61_method_7_code 102 = .ok (.iaload, 1) := by decide +kernel
theorem d9_103 : decode prog_61_method_7_code 103 = .ok (.dup_x2, 1) := by decide +kernel
theorem d9_104 : decode prog_61_method_7_code 104 = .ok (.iconst 1, 1) := by decide +kernel
theorem d9_105 : decode prog_61_method_7_code 105 = .ok (.iadd, 1) := by decide +kernel
theorem d9_106 : decode prog_61_method_7_code 106 = .ok (.iastore, 1) := by decide +kernel
theorem d9_107 : decode prog_61_method_7_code 107 = .ok (.istore 10, 2) := by decide +kernel
theorem d9_109 : decode prog_61_method_7_code 109 = .ok (.aload_n 3, 1) := by decide +kernel
theorem d9_110 : decode prog_61_method_7_code 110 = .ok (.iload 10, 2) := by decide +kernel
theorem d9_112 : decode prog_61_method_7_code 112 = .ok (.iload 9, 2) := by decide +kernel
theorem d9_114 : decode prog_61_method_7_code 114 = .ok (.iastore, 1) := by decide +kernel
theorem d9_115 : decode prog_61_method_7_code 115 = .ok (.aload 4, 2) := by decide +kernel
theorem d9_117 : decode prog_61_method_7_code 117 = .ok (.iload 10, 2) := by decide +kernel
theorem d9_119 : decode prog_61_method_7_code 119 = .ok (.iload 7, 2) := by decide +kernel
theorem d9_121 : decode prog_61_method_7_code 121 = .ok (.iastore, 1) := by decide +kernel
theorem d9_122 : decode prog_61_method_7_code 122 = .ok (.iinc 9 1, 3) := by decide +kernel
theorem d9_125 : decode prog_61_method_7_code 125 = .ok (.goto (-44), 3) := by decide +kernel
theorem d9_128 : decode prog_61_method_7_code 128 = .ok (.iinc 7 1, 3) := by decide +kernel
theorem d9_131 : decode prog_61_method_7_code 131 = .ok (.goto (-92), 3) := by decide +kernel
theorem d9_134 : decode prog_61_method_7_code 134 = .ok (.return_, 1) := by decide +kernel
theorem d10_0 : decode prog_61_method_8_code 0 = .ok (.aload_n 0, 1) := by decide +kernel
theorem d10_1 : decode prog_61_method_8_code 1 = .ok (.getfield 9, 3) := by decide +kernel
theorem d10_4 : decode prog_61_method_8_code 4 = .ok (.newarray .int, 2) := by decide +kernel
theorem d10_6 : decode prog_61_method_8_code 6 = .ok (.astore_n 1, 1) := by decide +kernel
theorem d10_7 : decode prog_61_method_8_code 7 = .ok (.iconst 0, 1) := by decide +kernel
theorem d10_8 : decode prog_61_method_8_code 8 = .ok (.istore_n 2, 1) := by decide +kernel
theorem d10_9 : decode prog_61_method_8_code 9 = .ok (.iload_n 2, 1) := by decide +kernel
theorem d10_10 : decode prog_61_method_8_code 10 = .ok (.aload_n 0, 1) := by decide +kernel
theorem d10_11 : decode prog_61_method_8_code 11 = .ok (.getfield 9, 3) := by decide +kernel
theorem d10_14 : decode prog_61_method_8_code 14 = .ok (.if_icmp .ge 13, 3) := by decide +kernel
theorem d10_17 : decode prog_61_method_8_code 17 = .ok (.aload_n 1, 1) := by decide +kernel
theorem d10_18 : decode prog_61_method_8_code 18 = .ok (.iload_n 2, 1) := by decide +kernel
theorem d10_19 : decode prog_61_method_8_code 19 = .ok (.iload_n 2, 1) := by decide +kernel
theorem d10_20 : decode prog_61_method_8_code 20 = .ok (.iastore, 1) := by decide +kernel
theorem d10_21 : decode prog_61_method_8_code 21 = .ok (.iinc 2 1, 3) := by decide +kernel
theorem d10_24 : decode prog_61_method_8_code 24 = .ok (.goto (-15), 3) := by decide +kernel
theorem d10_27 : decode prog_61_method_8_code 27 = .ok (.aload_n 0, 1) := by decide +kernel
theorem d10_28 : decode prog_61_method_8_code 28 = .ok (.getfield 28, 3) := by decide +kernel
theorem d10_31 : decode prog_61_method_8_code 31 = .ok (.ifnull 18, 3) := by decide +kernel
theorem d10_34 : decode prog_61_method_8_code 34 = .ok (.aload_n 1, 1) := by decide +kernel
theorem d10_35 : decode prog_61_method_8_code 35 = .ok (.aload_n 0, 1) := by decide +kernel
theorem d10_36 : decode prog_61_method_8_code 36 = .ok (.getfield 28, 3) := by decide +kernel
theorem d10_39 : decode prog_61_method_8_code 39 = .ok (.aload_n 0, 1) := by decide +kernel
theorem d10_40 : decode prog_61_method_8_code 40 = .ok (.getfield 31, 3) := by decide +kernel
theorem d10_43 : decode prog_61_method_8_code 43 = .ok (.invokestatic 62, 3) := by decide +kernel
theorem d10_46 : decode prog_61_method_8_code 46 = .ok (.goto 4, 3) := by decide +kernel
theorem d10_49 : decode prog_61_method_8_code 49 = .ok (.aload_n 1, 1) := by decide +kernel
theorem d10_50 : decode prog_61_method_8_code 50 = .ok (.areturn, 1) := by decide +kernel
theorem d11_0 : decode jdk_65_method_123_code 0 = .ok (.iload_n 1, 1) := by decide +kernel
theorem d11_1 : decode jdk_65_method_123_code 1 = .ok (.aload_n 0, 1) := by decide +kernel
theorem d11_2 : decode jdk_65_method_123_code 2 = .ok (.arraylength, 1) := by decide +kernel
theorem d11_3 : decode jdk_65_method_123_code 3 = .ok (.if_icmp .ne 11, 3) := by decide +kernel
theorem d11_6 : decode jdk_65_method_123_code 6 = .ok (.aload_n 0, 1) := by decide +kernel
theorem d11_7 : decode jdk_65_method_123_code 7 = .ok (.invokevirtual 316, 3) := by decide +kernel
theorem d11_10 : decode jdk_65_method_123_code 10 = .ok (.checkcast 317, 3) := by decide +kernel
theorem d11_13 : decode jdk_65_method_123_code 13 = .ok (.areturn, 1) := by decide +kernel
theorem d11_14 : decode jdk_65_method_123_code 14 = .ok (.iload_n 1, 1) := by decide +kernel
theorem d11_15 : decode jdk_65_method_123_code 15 = .ok (.newarray .int, 2) := by decide +kernel
theorem d11_17 : decode jdk_65_method_123_code 17 = .ok (.astore_n 2, 1) := by decide +kernel
theorem d11_18 : decode jdk_65_method_123_code 18 = .ok (.aload_n 0, 1) := by decide +kernel
theorem d11_19 : decode jdk_65_method_123_code 19 = .ok (.iconst 0, 1) := by decide +kernel
theorem d11_20 : decode jdk_65_method_123_code 20 = .ok (.aload_n 2, 1) := by decide +kernel
theorem d11_21 : decode jdk_65_method_123_code 21 = .ok (.iconst 0, 1) := by decide +kernel
theorem d11_22 : decode jdk_65_method_123_code 22 = .ok (.aload_n 0, 1) := by decide +kernel
theorem d11_23 : decode jdk_65_method_123_code 23 = .ok (.arraylength, 1) := by decide +kernel
theorem d11_24 : decode jdk_65_method_123_code 24 = .ok (.iload_n 1, 1) := by decide +kernel
theorem d11_25 : decode jdk_65_method_123_code 25 = .ok (.invokestatic 304, 3) := by decide +kernel
theorem d11_28 : decode jdk_65_method_123_code 28 = .ok (.invokestatic 150, 3) := by decide +kernel
theorem d11_31 : decode jdk_65_method_123_code 31 = .ok (.aload_n 2, 1) := by decide +kernel
theorem d11_32 : decode jdk_65_method_123_code 32 = .ok (.areturn, 1) := by decide +kernel
theorem d12_0 : decode jdk_29_method_69_code 0 = .ok (.iload_n 0, 1) := by decide +kernel
theorem d12_1 : decode jdk_29_method_69_code 1 = .ok (.iload_n 1, 1) := by decide +kernel
theorem d12_2 : decode jdk_29_method_69_code 2 = .ok (.if_icmp .gt 7, 3) := by decide +kernel
theorem d12_5 : decode jdk_29_method_69_code 5 = .ok (.iload_n 0, 1) := by decide +kernel
theorem d12_6 : decode jdk_29_method_69_code 6 = .ok (.goto 4, 3) := by decide +kernel
theorem d12_9 : decode jdk_29_method_69_code 9 = .ok (.iload_n 1, 1) := by decide +kernel
theorem d12_10 : decode jdk_29_method_69_code 10 = .ok (.ireturn, 1) := by decide +kernel
theorem d13_0 : decode prog_61_method_4_code 0 = .ok (.aconst_null, 1) := by decide +kernel
theorem d13_1 : decode prog_61_method_4_code 1 = .ok (.astore_n 3, 1) := by decide +kernel
theorem d13_2 : decode prog_61_method_4_code 2 = .ok (.aload_n 0, 1) := by decide +kernel
theorem d13_3 : decode prog_61_method_4_code 3 = .ok (.getfield 34, 3) := by decide +kernel
theorem d13_6 : decode prog_61_method_4_code 6 = .ok (.ifnull 146, 3) := by decide +kernel
theorem d13_9 : decode prog_61_method_4_code 9 = .ok (.aload_n 1, 1) := by decide +kernel
theorem d13_10 : decode prog_61_method_4_code 10 = .ok (.arraylength, 1) := by decide +kernel
theorem d13_11 : decode prog_61_method_4_code 11 = .ok (.iconst 1, 1) := by decide +kernel
theorem d13_12 : decode prog_61_method_4_code 12 = .ok (.isub, 1) := by decide +kernel
theorem d13_13 : decode prog_61_method_4_code 13 = .ok (.newarray .long, 2) := by decide +kernel
theorem d13_15 : decode prog_61_method_4_code 15 = .ok (.astore 4, 2) := by decide +kernel
theorem d13_17 : decode prog_61_method_4_code 17 = .ok (.aload_n 0, 1) := by decide +kernel
theorem d13_18 : decode prog_61_method_4_code 18 = .ok (.getfield 25, 3) := by decide +kernel
theorem d13_21 : decode prog_61_method_4_code 21 = .ok (.sipush 128, 3) := by decide +kernel
theorem d13_24 : decode prog_61_method_4_code 24 = .ok (.idiv, 1) := by decide +kernel
theorem d13_25 : decode prog_61_method_4_code 25 = .ok (.newarray .int, 2) := by decide +kernel
theorem d13_27 : decode prog_61_method_4_code 27 = .ok (.astore 5, 2) := by decide +kernel
theorem d13_29 : decode prog_61_method_4_code 29 = .ok (.aload 5, 2) := by decide +kernel
theorem d13_31 : decode prog_61_method_4_code 31 = .ok (.arraylength, 1) := by decide +kernel
theorem d13_32 : decode prog_61_method_4_code 32 = .ok (.newarray .int, 2) := by decide +kernel
theorem d13_34 : decode prog_61_method_4_code 34 = .ok (.astore 6, 2) := by decide +kernel
theorem d13_36 : decode prog_61_method_4_code 36 = .ok (.iconst 0, 1) := by decide +kernel
theorem d13_37 : decode prog_61_method_4_code 37 = .ok (.istore 7, 2) := by decide +kernel
theorem d13_39 : decode prog_61_method_4_code 39 = .ok (.iconst 0, 1) := by decide +kernel
theorem d13_40 : decode prog_61_method_4_code 40 = .ok (.istore 8, 2) := by decide +kernel
theorem d13_42 : decode prog_61_method_4_code 42 = .ok (.iload 8, 2) := by decide +kernel
theorem d13_44 : decode prog_61_method_4_code 44 = .ok (.aload 4, 2) := by decide +kernel
theorem d13_46 : decode prog_61_method_4_code 46 = .ok (.arraylength, 1) := by decide +kernel
theorem d13_47 : decode prog_61_method_4_code 47 = .ok (.if_icmp .ge 27, 3) := by decide +kernel
theorem d13_50 : decode prog_61_method_4_code 50 = .ok (.aload_n 0, 1) := by decide +kernel
theorem d13_51 : decode prog_61_method_4_code 51 = .ok (.iload 8, 2) := by decide +kernel
theorem d13_53 : decode prog_61_method_4_code 53 = .ok (.aload_n 1, 1) := by decide +kernel
theorem d13_54 : decode prog_61_method_4_code 54 = .ok (.aload_n 2, 1) := by decide +kernel
theorem d13_55 : decode prog_61_method_4_code 55 = .ok (.aload 4, 2) := by decide +kernel
theorem d13_57 : decode prog_61_method_4_code 57 = .ok (.aload 5, 2) := by decide +kernel
theorem d13_59 : decode prog_61_method_4_code 59 = .ok (.aload 6, 2) := by decide +kernel
theorem d13_61 : decode prog_61_method_4_code 61 = .ok (.iload 7, 2) := by decide +kernel
theorem d13_63 : decode prog_61_method_4_code 63 = .ok (.invokevirtual 37, 3) := by decide +kernel
theorem d13_66 : decode prog_61_method_4_code 66 = .ok (.istore 7, 2) := by decide +kernel
theorem d13_68 : decode prog_61_method_4_code 68 = .ok (.iinc 8 1, 3) := by decide +kernel
theorem d13_71 : decode prog_61_method_4_code 71 = .ok (.goto (-29), 3) := by decide +kernel
theorem d13_74 : decode prog_61_method_4_code 74 = .ok (.iload 7, 2) := by decide +kernel
theorem d13_76 : decode prog_61_method_4_code 76 = .ok (.ifCond .le 12, 3) := by decide +kernel
theorem d13_79 : decode prog_61_method_4_code 79 = .ok (.aload_n 0, 1) := by decide +kernel
theorem d13_80 : decode prog_61_method_4_code 80 = .ok (.getfield 25, 3) := by decide +kernel
theorem d13_83 : decode prog_61_method_4_code 83 = .ok (.newarray .int, 2) := by decide +kernel
theorem d13_85 : decode prog_61_method_4_code 85 = .ok (.goto 4, 3) := by decide +kernel
theorem d13_88 : decode prog_61_method_4_code 88 = .ok (.aconst_null, 1) := by decide +kernel
theorem d13_89 : decode prog_61_method_4_code 89 = .ok (.astore 8, 2) := by decide +kernel
theorem d13_91 : decode prog_61_method_4_code 91 = .ok (.iconst 0, 1) := by decide +kernel
theorem d13_92 : decode prog_61_method_4_code 92 = .ok (.istore 9, 2) := by decide +kernel
theorem d13_94 : decode prog_61_method_4_code 94 = .ok (.iload 9, 2) := by decide +kernel
theorem d13_96 : decode prog_61_method_4_code 96 = .ok (.iload 7, 2) := by decide +kernel
theorem d13_98 : decode prog_61_method_4_code 98 = .ok (.if_icmp .ge 28, 3) := by decide +kernel
theorem d13_101 : decode prog_61_method_4_code 101 = .ok (.aload 8, 2) := by decide +kernel
theorem d13_103 : decode prog_61_method_4_code 103 = .ok (.aload 5, 2) := by decide +kernel
theorem d13_105 : decode prog_61_method_4_code 105 = .ok (.iload 9, 2) := by decide +kernel
theorem d13_107 : decode prog_61_method_4_code 107 = .ok (.iaload, 1) := by decide +kernel
theorem d13_108 : decode prog_61_method_4_code 108 = .ok (.aload 6, 2) := by decide +kernel
theorem d13_110 : decode prog_61_method_4_code 110 = .ok (.iload 9, 2) := by decide +kernel
theorem d13_112 : decode prog_61_method_4_code 112 = .ok (.iaload, 1) := by decide +kernel
theorem d13_113 : decode prog_61_method_4_code 113 = .ok (.iload 9, 2) := by decide +kernel
theorem d13_115 : decode prog_61_method_4_code 115 = .ok (.iconst 1, 1) := by decide +kernel
theorem d13_116 : decode prog_61_method_4_code 116 = .ok (.iadd, 1) := by decide +kernel
theorem d13_117 : decode prog_61_method_4_code 117 = .ok (.invokestatic 41, 3) := by decide +kernel
theorem d13_120 : decode prog_61_method_4_code 120 = .ok (.iinc 9 1, 3) := by decide +kernel
theorem d13_123 : decode prog_61_method_4_code 123 = .ok (.goto (-29), 3) := by decide +kernel
theorem d13_126 : decode prog_61_method_4_code 126 = .ok (.new 45, 3) := by decide +kernel
theorem d13_129 : decode prog_61_method_4_code 129 = .ok (.dup, 1) := by decide +kernel
theorem d13_130 : decode prog_61_method_4_code 130 = .ok (.aload 4, 2) := by decide +kernel
theorem d13_132 : decode prog_61_method_4_code 132 = .ok (.aload 8, 2) := by decide +kernel
theorem d13_134 : decode prog_61_method_4_code 134 = .ok (.aload 5, 2) := by decide +kernel
theorem d13_136 : decode prog_61_method_4_code 136 = .ok (.iload 7, 2) := by decide +kernel
theorem d13_138 : decode prog_61_method_4_code 138 = .ok (.invokestatic 47, 3) := by decide +kernel
theorem d13_141 : decode prog_61_method_4_code 141 = .ok (.aload 6, 2) := by decide +kernel
theorem d13_143 : decode prog_61_method_4_code 143 = .ok (.iload 7, 2) := by decide +kernel
theorem d13_145 : decode prog_61_method_4_code 145 = .ok (.invokestatic 47, 3) := by decide +kernel
theorem d13_148 : decode prog_61_method_4_code 148 = .ok (.invokespecial 53, 3) := by decide +kernel
theorem d13_151 : decode prog_61_method_4_code 151 = .ok (.astore_n 3, 1) := by decide +kernel
theorem d13_152 : decode prog_61_method_4_code 152 = .ok (.aload_n 3, 1) := by decide +kernel
theorem d13_153 : decode prog_61_method_4_code 153 = .ok (.areturn, 1) := by decide +kernel
theorem d14_0 : decode prog_60_method_26_code 0 = .ok (.aload_n 0, 1) := by decide +kernel
theorem d14_1 : decode prog_60_method_26_code 1 = .ok (.aload_n 0, 1) := by decide +kernel
theorem d14_2 : decode prog_60_method_26_code 2 = .ok (.getfield 71, 3) := by decide +kernel
theorem d14_5 : decode prog_60_method_26_code 5 = .ok (.iload_n 1, 1) := by decide +kernel
theorem d14_6 : decode prog_60_method_26_code 6 = .ok (.iaload, 1) := by decide +kernel
theorem d14_7 : decode prog_60_method_26_code 7 = .ok (.iload_n 2, 1) := by decide +kernel
theorem d14_8 : decode prog_60_method_26_code 8 = .ok (.invokevirtual 183, 3) := by decide +kernel
theorem d14_11 : decode prog_60_method_26_code 11 = .ok (.aload_n 0, 1) := by decide +kernel
theorem d14_12 : decode prog_60_method_26_code 12 = .ok (.aload_n 0, 1) := by decide +kernel
theorem d14_13 : decode prog_60_method_26_code 13 = .ok (.getfield 89, 3) := by decide +kernel
theorem d14_16 : decode prog_60_method_26_code 16 = .ok (.iload_n 1, 1) := by decide +kernel
theorem d14_17 : decode prog_60_method_26_code 17 = .ok (.iaload, 1) := by decide +kernel
theorem d14_18 : decode prog_60_method_26_code 18 = .ok (.aload_n 0, 1) := by decide +kernel
theorem d14_19 : decode prog_60_method_26_code 19 = .ok (.getfield 113, 3) := by decide +kernel
theorem d14_22 : decode prog_60_method_26_code 22 = .ok (.iload_n 1, 1) := by decide +kernel
theorem d14_23 : decode prog_60_method_26_code 23 = .ok (.dup2, 1) := by decide +kernel
theorem d14_24 : decode prog_60_method_26_code 24 = .ok (.iaload, 1) := by decide +kernel
theorem d14_25 : decode prog_60_method_26_code 25 = .ok (.dup_x2, 1) := by decide +kernel
theorem d14_26 : decode prog_60_method_26_code 26 = .ok (.iconst 1, 1) := by decide +kernel
theorem d14_27 : decode prog_60_method_26_code 27 = .ok (.iadd, 1) := by decide +kernel
theorem d14_28 : decode prog_60_method_26_code 28 = .ok (.iastore, 1) := by decide +kernel
theorem d14_29 : decode prog_60_method_26_code 29 = .ok (.iadd, 1) := by decide +kernel
theorem d14_30 : decode prog_60_method_26_code 30 = .ok (.iload_n 2, 1) := by decide +kernel
theorem d14_31 : decode prog_60_method_26_code 31 = .ok (.invokevirtual 186, 3) := by decide +kernel
theorem d14_34 : decode prog_60_method_26_code 34 = .ok (.aload_n 0, 1) := by decide +kernel
theorem d14_35 : decode prog_60_method_26_code 35 = .ok (.getfield 116, 3) := by decide +kernel
theorem d14_38 : decode prog_60_method_26_code 38 = .ok (.ifnull 9, 3) := by decide +kernel
theorem d14_41 : decode prog_60_method_26_code 41 = .ok (.aload_n 0, 1) := by decide +kernel
theorem d14_42 : decode prog_60_method_26_code 42 = .ok (.iload_n 1, 1) := by decide +kernel
theorem d14_43 : decode prog_60_method_26_code 43 = .ok (.iload_n 2, 1) := by decide +kernel
theorem d14_44 : decode prog_60_method_26_code 44 = .ok (.invokevirtual 189, 3) := by decide +kernel
theorem d14_47 : decode prog_60_method_26_code 47 = .ok (.return_, 1) := by decide +kernel
theorem d15_0 : decode prog_60_method_27_code 0 = .ok (.aload_n 0, 1) := by decide +kernel
theorem d15_1 : decode prog_60_method_27_code 1 = .ok (.getfield 7, 3) := by decide +kernel
theorem d15_4 : decode prog_60_method_27_code 4 = .ok (.ifCond .eq 28, 3) := by decide +kernel
theorem d15_7 : decode prog_60_method_27_code 7 = .ok (.aload_n 0, 1) := by decide +kernel
theorem d15_8 : decode prog_60_method_27_code 8 = .ok (.getfield 39, 3) := by decide +kernel
theorem d15_11 : decode prog_60_method_27_code 11 = .ok (.iload_n 1, 1) := by decide +kernel
theorem d15_12 : decode prog_60_method_27_code 12 = .ok (.iaload, 1) := by decide +kernel
theorem d15_13 : decode prog_60_method_27_code 13 = .ok (.aload_n 0, 1) := by decide +kernel
theorem d15_14 : decode prog_60_method_27_code 14 = .ok (.getfield 17, 3) := by decide +kernel
theorem d15_17 : decode prog_60_method_27_code 17 = .ok (.iload_n 1, 1) := by decide +kernel
theorem d15_18 : decode prog_60_method_27_code 18 = .ok (.iaload, 1) := by decide +kernel
theorem d15_19 : decode prog_60_method_27_code 19 = .ok (.if_icmp .ne 13, 3) := by decide +kernel
theorem d15_22 : decode prog_60_method_27_code 22 = .ok (.aload_n 0, 1) := by decide +kernel
theorem d15_23 : decode prog_60_method_27_code 23 = .ok (.dup, 1) := by decide +kernel
theorem d15_24 : decode prog_60_method_27_code 24 = .ok (.getfield 21, 3) := by decide +kernel
theorem d15_27 : decode prog_60_method_27_code 27 = .ok (.iconst 1, 1) := by decide +kernel
theorem d15_28 : decode prog_60_method_27_code 28 = .ok (.isub, 1) := by decide +kernel
theorem d15_29 : decode prog_60_method_27_code 29 = .ok (.putfield 21, 3) := by decide +kernel
theorem d15_32 : decode prog_60_method_27_code 32 = .ok (.aload_n 0, 1) := by decide +kernel
theorem d15_33 : decode prog_60_method_27_code 33 = .ok (.getfield 39, 3) := by decide +kernel
theorem d15_36 : decode prog_60_method_27_code 36 = .ok (.iload_n 1, 1) := by decide +kernel
theorem d15_37 : decode prog_60_method_27_code 37 = .ok (.dup2, 1) := by decide +kernel
theorem d15_38 : decode prog_60_method_27_code 38 = .ok (.iaload, 1) := by decide +kernel
theorem d15_39 : decode prog_60_method_27_code 39 = .ok (.iconst 1, 1) := by decide +kernel
theorem d15_40 : decode prog_60_method_27_code 40 = .ok (.iadd, 1) := by decide +kernel
theorem d15_41 : decode prog_60_method_27_code 41 = .ok (.iastore, 1) := by decide +kernel
theorem d15_42 : decode prog_60_method_27_code 42 = .ok (.aload_n 0, 1) := by decide +kernel
theorem d15_43 : decode prog_60_method_27_code 43 = .ok (.getfield 44, 3) := by decide +kernel
theorem d15_46 : decode prog_60_method_27_code 46 = .ok (.iload_n 1, 1) := by decide +kernel
theorem d15_47 : decode prog_60_method_27_code 47 = .ok (.dup2, 1) := by decide +kernel
theorem d15_48 : decode prog_60_method_27_code 48 = .ok (.laload, 1) := by decide +kernel
theorem d15_49 : decode prog_60_method_27_code 49 = .ok (.aload_n 0, 1) := by decide +kernel
theorem d15_50 : decode prog_60_method_27_code 50 = .ok (.getfield 47, 3) := by decide +kernel
theorem d15_53 : decode prog_60_method_27_code 53 = .ok (.iload_n 2, 1) := by decide +kernel
theorem d15_54 : decode prog_60_method_27_code 54 = .ok (.laload, 1) := by decide +kernel
theorem d15_55 : decode prog_60_method_27_code 55 = .ok (.ladd, 1) := by decide +kernel
theorem d15_56 : decode prog_60_method_27_code 56 = .ok (.lastore, 1) := by decide +kernel
theorem d15_57 : decode prog_60_method_27_code 57 = .ok (.return_, 1) := by decide +kernel
theorem d16_0 : decode prog_60_method_30_code 0 = .ok (.aload_n 0, 1) := by decide +kernel
theorem d16_1 : decode prog_60_method_30_code 1 = .ok (.getfield 107, 3) := by decide +kernel
theorem d16_4 : decode prog_60_method_30_code 4 = .ok (.iload_n 1, 1) := by decide +kernel
theorem d16_5 : decode prog_60_method_30_code 5 = .ok (.iload_n 2, 1) := by decide +kernel
theorem d16_6 : decode prog_60_method_30_code 6 = .ok (.iastore, 1) := by decide +kernel
theorem d16_7 : decode prog_60_method_30_code 7 = .ok (.aload_n 0, 1) := by decide +kernel
theorem d16_8 : decode prog_60_method_30_code 8 = .ok (.getfield 110, 3) := by decide +kernel
theorem d16_11 : decode prog_60_method_30_code 11 = .ok (.iload_n 1, 1) := by decide +kernel
theorem d16_12 : decode prog_60_method_30_code 12 = .ok (.aload_n 0, 1) := by decide +kernel
theorem d16_13 : decode prog_60_method_30_code 13 = .ok (.getfield 47, 3) := by decide +kernel
theorem d16_16 : decode prog_60_method_30_code 16 = .ok (.iload_n 2, 1) := by decide +kernel
theorem d16_17 : decode prog_60_method_30_code 17 = .ok (.laload, 1) := by decide +kernel
theorem d16_18 : decode prog_60_method_30_code 18 = .ok (.lastore, 1) := by decide +kernel
theorem d16_19 : decode prog_60_method_30_code 19 = .ok (.return_, 1) := by decide +kernel
theorem d17_0 : decode prog_60_method_33_code 0 = .ok (.aload_n 0, 1) := by decide +kernel
theorem d17_1 : decode prog_60_method_33_code 1 = .ok (.getfield 89, 3) := by decide +kernel
theorem d17_4 : decode prog_60_method_33_code 4 = .ok (.iload_n 1, 1) := by decide +kernel
theorem d17_5 : decode prog_60_method_33_code 5 = .ok (.iaload, 1) := by decide +kernel
theorem d17_6 : decode prog_60_method_33_code 6 = .ok (.istore 4, 2) := by decide +kernel
theorem d17_8 : decode prog_60_method_33_code 8 = .ok (.iload 4, 2) := by decide +kernel
theorem d17_10 : decode prog_60_method_33_code 10 = .ok (.aload_n 0, 1) := by decide +kernel
theorem d17_11 : decode prog_60_method_33_code 11 = .ok (.getfield 113, 3) := by decide +kernel
theorem d17_14 : decode prog_60_method_33_code 14 = .ok (.iload_n 1, 1) := by decide +kernel
theorem d17_15 : decode prog_60_method_33_code 15 = .ok (.iaload, 1) := by decide +kernel
theorem d17_16 : decode prog_60_method_33_code 16 = .ok (.iadd, 1) := by decide +kernel
theorem d17_17 : decode prog_60_method_33_code 17 = .ok (.istore 5, 2) := by decide +kernel
theorem d17_19 : decode prog_60_method_33_code 19 = .ok (.iload 4, 2) := by decide +kernel
theorem d17_21 : decode prog_60_method_33_code 21 = .ok (.iload 5, 2) := by decide +kernel
theorem d17_23 : decode prog_60_method_33_code 23 = .ok (.if_icmp .ge 40, 3) := by decide +kernel
theorem d17_26 : decode prog_60_method_33_code 26 = .ok (.iload 4, 2) := by decide +kernel
theorem d17_28 : decode prog_60_method_33_code 28 = .ok (.iload 5, 2) := by decide +kernel
theorem d17_30 : decode prog_60_method_33_code 30 = .ok (.iadd, 1) := by decide +kernel
theorem d17_31 : decode prog_60_method_33_code 31 = .ok (.iconst 1, 1) := by decide +kernel
theorem d17_32 : decode prog_60_method_33_code 32 = .ok (.iushr, 1) := by decide +kernel
theorem d17_33 : decode prog_60_method_33_code 33 = .ok (.istore 6, 2) := by decide +kernel
theorem d17_35 : decode prog_60_method_33_code 35 = .ok (.aload_n 0, 1) := by decide +kernel
theorem d17_36 : decode prog_60_method_33_code 36 = .ok (.getfield 110, 3) := by decide +kernel
theorem d17_39 : decode prog_60_method_33_code 39 = .ok (.iload 6, 2) := by decide +kernel
theorem d17_41 : decode prog_60_method_33_code 41 = .ok (.laload, 1) := by decide +kernel
theorem d17_42 : decode prog_60_method_33_code 42 = .ok (.lload_n 2, 1) := by decide +kernel
theorem d17_43 : decode prog_60_method_33_code 43 = .ok (.lcmp, 1) := by decide +kernel
theorem d17_44 : decode prog_60_method_33_code 44 = .ok (.ifCond .le 12, 3) := by decide +kernel
theorem d17_47 : decode prog_60_method_33_code 47 = .ok (.iload 6, 2) := by decide +kernel
theorem d17_49 : decode prog_60_method_33_code 49 = .ok (.iconst 1, 1) := by decide +kernel
theorem d17_50 : decode prog_60_method_33_code 50 = .ok (.iadd, 1) := by decide +kernel
theorem d17_51 : decode prog_60_method_33_code 51 = .ok (.istore 4, 2) := by decide +kernel
theorem d17_53 : decode prog_60_method_33_code 53 = .ok (.goto 7, 3) := by decide +kernel
theorem d17_56 : decode prog_60_method_33_code 56 = .ok (.iload 6, 2) := by decide +kernel
theorem d17_58 : decode prog_60_method_33_code 58 = .ok (.istore 5, 2) := by decide +kernel
theorem d17_60 : decode prog_60_method_33_code 60 = .ok (.goto (-41), 3) := by decide +kernel
theorem d17_63 : decode prog_60_method_33_code 63 = .ok (.iload 4, 2) := by decide +kernel
theorem d17_65 : decode prog_60_method_33_code 65 = .ok (.ireturn, 1) := by decide +kernel
abbrev HW (Z : State) (a0 : Array Value) : Prop := ∀ d ∈ tables_1, d.before a0 Z = true
section Words
variable {Z : State} {a0 : Array Value}
theorem w0 (hw : HW Z a0) : (Jvm.Cond.methodLink "com/example/evenkeel/evenkeel/LagSeatsFirstAtMostPinLaw" (7 : Nat) ({ cls := "java/lang/Math", name := "max", desc := "(JJ)J" } : Jvm.MethodName)).before a0 Z = true := hw _ (List.mem_of_getElem? (i := 0) rfl)
theorem w1 (hw : HW Z a0) : (Jvm.Cond.static ({ cls := "java/lang/Math", name := "max", desc := "(JJ)J" } : Jvm.MethodName)).before a0 Z = true := hw _ (List.mem_of_getElem? (i := 1) rfl)
theorem w2 (hw : HW Z a0) : (Jvm.Cond.initialized "java/lang/Math").before a0 Z = true := hw _ (List.mem_of_getElem? (i := 2) rfl)
theorem w3 (hw : HW Z a0) : (Jvm.Cond.code ({ cls := "java/lang/Math", name := "max", desc := "(JJ)J" } : Jvm.MethodName) jdk_29_method_66_code (4 : Nat) (Option.some Jvm.ClassFile.FieldType.long)).before a0 Z = true := hw _ (List.mem_of_getElem? (i := 3) rfl)
theorem w4 (hw : HW Z a0) : (Jvm.Cond.methodLink "com/example/evenkeel/evenkeel/LagSeatsFirstAtMostPinLaw" (13 : Nat) ({ cls := "java/lang/Math", name := "min", desc := "(JJ)J" } : Jvm.MethodName)).before a0 Z = true := hw _ (List.mem_of_getElem? (i := 4) rfl)
theorem w5 (hw : HW Z a0) : (Jvm.Cond.static ({ cls := "java/lang/Math", name := "min", desc := "(JJ)J" } : Jvm.MethodName)).before a0 Z = true := hw _ (List.mem_of_getElem? (i := 5) rfl)
theorem w6 (hw : HW Z a0) : (Jvm.Cond.code ({ cls := "java/lang/Math", name := "min", desc := "(JJ)J" } : Jvm.MethodName) jdk_29_method_70_code (4 : Nat) (Option.some Jvm.ClassFile.FieldType.long)).before a0 Z = true := hw _ (List.mem_of_getElem? (i := 6) rfl)
theorem w7 (hw : HW Z a0) : (Jvm.Cond.classLink "com/example/evenkeel/evenkeel/LagSeatsFirstAtMostPinLaw" (16 : Nat) "com/example/evenkeel/evenkeel/LagSeats$Naming").before a0 Z = true := hw _ (List.mem_of_getElem? (i := 7) rfl)
theorem w8 (hw : HW Z a0) : (Jvm.Cond.instantiable "com/example/evenkeel/evenkeel/LagSeats$Naming" (9 : Nat)).before a0 Z = true := hw _ (List.mem_of_getElem? (i := 8) rfl)
theorem w9 (hw : HW Z a0) : (Jvm.Cond.initialized "com/example/evenkeel/evenkeel/LagSeats$Naming").before a0 Z = true := hw _ (List.mem_of_getElem? (i := 9) rfl)
theorem w10 (hw : HW Z a0) : (Jvm.Cond.methodLink "com/example/evenkeel/evenkeel/LagSeatsFirstAtMostPinLaw" (18 : Nat) ({ cls := "com/example/evenkeel/evenkeel/LagSeats$Naming", name := "<init>", desc := "(II)V" } : Jvm.MethodName)).before a0 Z = true := hw _ (List.mem_of_getElem? (i := 10) rfl)
theorem w11 (hw : HW Z a0) : (Jvm.Cond.instanceMethod ({ cls := "com/example/evenkeel/evenkeel/LagSeats$Naming", name := "<init>", desc := "(II)V" } : Jvm.MethodName)).before a0 Z = true := hw _ (List.mem_of_getElem? (i := 11) rfl)
theorem w12 (hw : HW Z a0) : (Jvm.Cond.code ({ cls := "com/example/evenkeel/evenkeel/LagSeats$Naming", name := "<init>", desc := "(II)V" } : Jvm.MethodName) prog_61_method_1_code (3 : Nat) (Option.none : Option Jvm.ClassFile.FieldType)).before a0 Z = true := hw _ (List.mem_of_getElem? (i := 12) rfl)
theorem w13 (hw : HW Z a0) : (Jvm.Cond.methodLink "com/example/evenkeel/evenkeel/LagSeats$Naming" (3 : Nat) ({ cls := "java/lang/Object", name := "<init>", desc := "()V" } : Jvm.MethodName)).before a0 Z = true := hw _ (List.mem_of_getElem? (i := 13) rfl)
theorem w14 (hw : HW Z a0) : (Jvm.Cond.instanceMethod ({ cls := "java/lang/Object", name := "<init>", desc := "()V" } : Jvm.MethodName)).before a0 Z = true := hw _ (List.mem_of_getElem? (i := 14) rfl)
theorem w15 (hw : HW Z a0) : (Jvm.Cond.code ({ cls := "java/lang/Object", name := "<init>", desc := "()V" } : Jvm.MethodName) object_method_1_code (1 : Nat) (Option.none : Option Jvm.ClassFile.FieldType)).before a0 Z = true := hw _ (List.mem_of_getElem? (i := 15) rfl)
theorem w16 (hw : HW Z a0) : (Jvm.Cond.fieldLink "com/example/evenkeel/evenkeel/LagSeats$Naming" (9 : Nat) "com/example/evenkeel/evenkeel/LagSeats$Naming" "kindCount" "I").before a0 Z = true := hw _ (List.mem_of_getElem? (i := 16) rfl)
theorem w17 (hw : HW Z a0) : (Jvm.Cond.laysFinal "com/example/evenkeel/evenkeel/LagSeats$Naming" "com/example/evenkeel/evenkeel/LagSeats$Naming" "kindCount" "I").before a0 Z = true := hw _ (List.mem_of_getElem? (i := 17) rfl)
theorem w18 (hw : HW Z a0) : (Jvm.Cond.arrayClass Jvm.ClassFile.FieldType.int).before a0 Z = true := hw _ (List.mem_of_getElem? (i := 18) rfl)
theorem w19 (hw : HW Z a0) : (Jvm.Cond.fieldLink "com/example/evenkeel/evenkeel/LagSeats$Naming" (15 : Nat) "com/example/evenkeel/evenkeel/LagSeats$Naming" "members" "[I").before a0 Z = true := hw _ (List.mem_of_getElem? (i := 19) rfl)
theorem w20 (hw : HW Z a0) : (Jvm.Cond.laysFinal "com/example/evenkeel/evenkeel/LagSeats$Naming" "com/example/evenkeel/evenkeel/LagSeats$Naming" "members" "[I").before a0 Z = true := hw _ (List.mem_of_getElem? (i := 20) rfl)
theorem w21 (hw : HW Z a0) : (Jvm.Cond.fieldLink "com/example/evenkeel/evenkeel/LagSeats$Naming" (19 : Nat) "com/example/evenkeel/evenkeel/LagSeats$Naming" "kinds" "[I").before a0 Z = true := hw _ (List.mem_of_getElem? (i := 21) rfl)
theorem w22 (hw : HW Z a0) : (Jvm.Cond.laysFinal "com/example/evenkeel/evenkeel/LagSeats$Naming" "com/example/evenkeel/evenkeel/LagSeats$Naming" "kinds" "[I").before a0 Z = true := hw _ (List.mem_of_getElem? (i := 22) rfl)
theorem w23 (hw : HW Z a0) : (Jvm.Cond.fieldLink "com/example/evenkeel/evenkeel/LagSeats$Naming" (22 : Nat) "com/example/evenkeel/evenkeel/LagSeats$Naming" "rooms" "[I").before a0 Z = true := hw _ (List.mem_of_getElem? (i := 23) rfl)
theorem w24 (hw : HW Z a0) : (Jvm.Cond.laysFinal "com/example/evenkeel/evenkeel/LagSeats$Naming" "com/example/evenkeel/evenkeel/LagSeats$Naming" "rooms" "[I").before a0 Z = true := hw _ (List.mem_of_getElem? (i := 24) rfl)
theorem w25 (hw : HW Z a0) : (Jvm.Cond.methodLink "com/example/evenkeel/evenkeel/LagSeatsFirstAtMostPinLaw" (21 : Nat) ({ cls := "com/example/evenkeel/evenkeel/LagSeats$Naming", name := "add", desc := "(III)V" } : Jvm.MethodName)).before a0 Z = true := hw _ (List.mem_of_getElem? (i := 25) rfl)
theorem w26 (hw : HW Z a0) : (Jvm.Cond.declares ({ cls := "com/example/evenkeel/evenkeel/LagSeats$Naming", name := "add", desc := "(III)V" } : Jvm.MethodName)).before a0 Z = true := hw _ (List.mem_of_getElem? (i := 26) rfl)
theorem w27 (hw : HW Z a0) : (Jvm.Cond.instanceMethod ({ cls := "com/example/evenkeel/evenkeel/LagSeats$Naming", name := "add", desc := "(III)V" } : Jvm.MethodName)).before a0 Z = true := hw _ (List.mem_of_getElem? (i := 27) rfl)
theorem w28 (hw : HW Z a0) : (Jvm.Cond.selects "com/example/evenkeel/evenkeel/LagSeats$Naming" ({ cls := "com/example/evenkeel/evenkeel/LagSeats$Naming", name := "add", desc := "(III)V" } : Jvm.MethodName) ({ cls := "com/example/evenkeel/evenkeel/LagSeats$Naming", name := "add", desc := "(III)V" } : Jvm.MethodName)).before a0 Z = true := hw _ (List.mem_of_getElem? (i := 28) rfl)
theorem w29 (hw : HW Z a0) : (Jvm.Cond.code ({ cls := "com/example/evenkeel/evenkeel/LagSeats$Naming", name := "add", desc := "(III)V" } : Jvm.MethodName) prog_61_method_10_code (4 : Nat) (Option.none : Option Jvm.ClassFile.FieldType)).before a0 Z = true := hw _ (List.mem_of_getElem? (i := 29) rfl)
theorem w30 (hw : HW Z a0) : (Jvm.Cond.fieldLink "com/example/evenkeel/evenkeel/LagSeats$Naming" (25 : Nat) "com/example/evenkeel/evenkeel/LagSeats$Naming" "count" "I").before a0 Z = true := hw _ (List.mem_of_getElem? (i := 30) rfl)
theorem w31 (hw : HW Z a0) : (Jvm.Cond.lays "com/example/evenkeel/evenkeel/LagSeats$Naming" "com/example/evenkeel/evenkeel/LagSeats$Naming" "count" "I").before a0 Z = true := hw _ (List.mem_of_getElem? (i := 31) rfl)
theorem w32 (hw : HW Z a0) : (Jvm.Cond.arrayClass Jvm.ClassFile.FieldType.long).before a0 Z = true := hw _ (List.mem_of_getElem? (i := 32) rfl)
theorem w33 (hw : HW Z a0) : (Jvm.Cond.classLink "com/example/evenkeel/evenkeel/LagSeatsFirstAtMostPinLaw" (25 : Nat) "com/example/evenkeel/evenkeel/LagSeats").before a0 Z = true := hw _ (List.mem_of_getElem? (i := 33) rfl)
theorem w34 (hw : HW Z a0) : (Jvm.Cond.instantiable "com/example/evenkeel/evenkeel/LagSeats" (29 : Nat)).before a0 Z = true := hw _ (List.mem_of_getElem? (i := 34) rfl)
theorem w35 (hw : HW Z a0) : (Jvm.Cond.initialized "com/example/evenkeel/evenkeel/LagSeats").before a0 Z = true := hw _ (List.mem_of_getElem? (i := 35) rfl)
theorem w36 (hw : HW Z a0) : (Jvm.Cond.methodLink "com/example/evenkeel/evenkeel/LagSeatsFirstAtMostPinLaw" (27 : Nat) ({ cls := "com/example/evenkeel/evenkeel/LagSeats", name := "<init>", desc := "(ZI[II[I[J[J[I[ILcom/example/evenkeel/evenkeel/LagSeats$Naming;)V" } : Jvm.MethodName)).before a0 Z = true := hw _ (List.mem_of_getElem? (i := 36) rfl)
theorem w37 (hw : HW Z a0) : (Jvm.Cond.instanceMethod ({ cls := "com/example/evenkeel/evenkeel/LagSeats", name := "<init>", desc := "(ZI[II[I[J[J[I[ILcom/example/evenkeel/evenkeel/LagSeats$Naming;)V" } : Jvm.MethodName)).before a0 Z = true := hw _ (List.mem_of_getElem? (i := 37) rfl)
theorem w38 (hw : HW Z a0) : (Jvm.Cond.code ({ cls := "com/example/evenkeel/evenkeel/LagSeats", name := "<init>", desc := "(ZI[II[I[J[J[I[ILcom/example/evenkeel/evenkeel/LagSeats$Naming;)V" } : Jvm.MethodName) prog_60_method_1_code (13 : Nat) (Option.none : Option Jvm.ClassFile.FieldType)).before a0 Z = true := hw _ (List.mem_of_getElem? (i := 38) rfl)
theorem w39 (hw : HW Z a0) : (Jvm.Cond.methodLink "com/example/evenkeel/evenkeel/LagSeats" (1 : Nat) ({ cls := "java/lang/Object", name := "<init>", desc := "()V" } : Jvm.MethodName)).before a0 Z = true := hw _ (List.mem_of_getElem? (i := 39) rfl)
theorem w40 (hw : HW Z a0) : (Jvm.Cond.fieldLink "com/example/evenkeel/evenkeel/LagSeats" (7 : Nat) "com/example/evenkeel/evenkeel/LagSeats" "alike" "Z").before a0 Z = true := hw _ (List.mem_of_getElem? (i := 40) rfl)
theorem w41 (hw : HW Z a0) : (Jvm.Cond.laysFinal "com/example/evenkeel/evenkeel/LagSeats" "com/example/evenkeel/evenkeel/LagSeats" "alike" "Z").before a0 Z = true := hw _ (List.mem_of_getElem? (i := 41) rfl)
theorem w42 (hw : HW Z a0) : (Jvm.Cond.fieldLink "com/example/evenkeel/evenkeel/LagSeats" (13 : Nat) "com/example/evenkeel/evenkeel/LagSeats" "share" "I").before a0 Z = true := hw _ (List.mem_of_getElem? (i := 42) rfl)
theorem w43 (hw : HW Z a0) : (Jvm.Cond.laysFinal "com/example/evenkeel/evenkeel/LagSeats" "com/example/evenkeel/evenkeel/LagSeats" "share" "I").before a0 Z = true := hw _ (List.mem_of_getElem? (i := 43) rfl)
theorem w44 (hw : HW Z a0) : (Jvm.Cond.fieldLink "com/example/evenkeel/evenkeel/LagSeats" (17 : Nat) "com/example/evenkeel/evenkeel/LagSeats" "floors" "[I").before a0 Z = true := hw _ (List.mem_of_getElem? (i := 44) rfl)
theorem w45 (hw : HW Z a0) : (Jvm.Cond.laysFinal "com/example/evenkeel/evenkeel/LagSeats" "com/example/evenkeel/evenkeel/LagSeats" "floors" "[I").before a0 Z = true := hw _ (List.mem_of_getElem? (i := 45) rfl)
theorem w46 (hw : HW Z a0) : (Jvm.Cond.fieldLink "com/example/evenkeel/evenkeel/LagSeats" (21 : Nat) "com/example/evenkeel/evenkeel/LagSeats" "extras" "I").before a0 Z = true := hw _ (List.mem_of_getElem? (i := 46) rfl)
theorem w47 (hw : HW Z a0) : (Jvm.Cond.lays "com/example/evenkeel/evenkeel/LagSeats" "com/example/evenkeel/evenkeel/LagSeats" "extras" "I").before a0 Z = true := hw _ (List.mem_of_getElem? (i := 47) rfl)
theorem w48 (hw : HW Z a0) : (Jvm.Cond.fieldLink "com/example/evenkeel/evenkeel/LagSeats" (24 : Nat) "com/example/evenkeel/evenkeel/LagSeats" "extrasAtStart" "I").before a0 Z = true := hw _ (List.mem_of_getElem? (i := 48) rfl)
theorem w49 (hw : HW Z a0) : (Jvm.Cond.laysFinal "com/example/evenkeel/evenkeel/LagSeats" "com/example/evenkeel/evenkeel/LagSeats" "extrasAtStart" "I").before a0 Z = true := hw _ (List.mem_of_getElem? (i := 49) rfl)
theorem w50 (hw : HW Z a0) : (Jvm.Cond.fieldLink "com/example/evenkeel/evenkeel/LagSeats" (27 : Nat) "com/example/evenkeel/evenkeel/LagSeats" "keptCounts" "[I").before a0 Z = true := hw _ (List.mem_of_getElem? (i := 50) rfl)
theorem w51 (hw : HW Z a0) : (Jvm.Cond.laysFinal "com/example/evenkeel/evenkeel/LagSeats" "com/example/evenkeel/evenkeel/LagSeats" "keptCounts" "[I").before a0 Z = true := hw _ (List.mem_of_getElem? (i := 51) rfl)
theorem w52 (hw : HW Z a0) : (Jvm.Cond.fieldLink "com/example/evenkeel/evenkeel/LagSeats" (30 : Nat) "com/example/evenkeel/evenkeel/LagSeats" "keptTotals" "[J").before a0 Z = true := hw _ (List.mem_of_getElem? (i := 52) rfl)
theorem w53 (hw : HW Z a0) : (Jvm.Cond.laysFinal "com/example/evenkeel/evenkeel/LagSeats" "com/example/evenkeel/evenkeel/LagSeats" "keptTotals" "[J").before a0 Z = true := hw _ (List.mem_of_getElem? (i := 53) rfl)
theorem w54 (hw : HW Z a0) : (Jvm.Cond.methodLink "com/example/evenkeel/evenkeel/LagSeats" (34 : Nat) ({ cls := "[I", name := "clone", desc := "()Ljava/lang/Object;" } : Jvm.MethodName)).before a0 Z = true := hw _ (List.mem_of_getElem? (i := 54) rfl)
theorem w55 (hw : HW Z a0) : (Jvm.Cond.sameMethod "[I" "java/lang/Object" "clone" "()Ljava/lang/Object;").before a0 Z = true := hw _ (List.mem_of_getElem? (i := 55) rfl)
theorem w56 (hw : HW Z a0) : (Jvm.Cond.declares ({ cls := "java/lang/Object", name := "clone", desc := "()Ljava/lang/Object;" } : Jvm.MethodName)).before a0 Z = true := hw _ (List.mem_of_getElem? (i := 56) rfl)
theorem w57 (hw : HW Z a0) : (Jvm.Cond.instanceMethod ({ cls := "java/lang/Object", name := "clone", desc := "()Ljava/lang/Object;" } : Jvm.MethodName)).before a0 Z = true := hw _ (List.mem_of_getElem? (i := 57) rfl)
theorem w58 (hw : HW Z a0) : (Jvm.Cond.selects "[I" ({ cls := "[I", name := "clone", desc := "()Ljava/lang/Object;" } : Jvm.MethodName) ({ cls := "java/lang/Object", name := "clone", desc := "()Ljava/lang/Object;" } : Jvm.MethodName)).before a0 Z = true := hw _ (List.mem_of_getElem? (i := 58) rfl)
theorem w59 (hw : HW Z a0) : (Jvm.Cond.native ({ cls := "java/lang/Object", name := "clone", desc := "()Ljava/lang/Object;" } : Jvm.MethodName)).before a0 Z = true := hw _ (List.mem_of_getElem? (i := 59) rfl)
theorem w60 (hw : HW Z a0) : (Jvm.Cond.castable "[I" "java/lang/Cloneable").before a0 Z = true := hw _ (List.mem_of_getElem? (i := 60) rfl)
theorem w61 (hw : HW Z a0) : (Jvm.Cond.classLink "com/example/evenkeel/evenkeel/LagSeats" (35 : Nat) "[I").before a0 Z = true := hw _ (List.mem_of_getElem? (i := 61) rfl)
theorem w62 (hw : HW Z a0) : (Jvm.Cond.castable "[I" "[I").before a0 Z = true := hw _ (List.mem_of_getElem? (i := 62) rfl)
theorem w63 (hw : HW Z a0) : (Jvm.Cond.fieldLink "com/example/evenkeel/evenkeel/LagSeats" (39 : Nat) "com/example/evenkeel/evenkeel/LagSeats" "counts" "[I").before a0 Z = true := hw _ (List.mem_of_getElem? (i := 63) rfl)
theorem w64 (hw : HW Z a0) : (Jvm.Cond.laysFinal "com/example/evenkeel/evenkeel/LagSeats" "com/example/evenkeel/evenkeel/LagSeats" "counts" "[I").before a0 Z = true := hw _ (List.mem_of_getElem? (i := 64) rfl)
theorem w65 (hw : HW Z a0) : (Jvm.Cond.methodLink "com/example/evenkeel/evenkeel/LagSeats" (42 : Nat) ({ cls := "[J", name := "clone", desc := "()Ljava/lang/Object;" } : Jvm.MethodName)).before a0 Z = true := hw _ (List.mem_of_getElem? (i := 65) rfl)
theorem w66 (hw : HW Z a0) : (Jvm.Cond.sameMethod "[J" "java/lang/Object" "clone" "()Ljava/lang/Object;").before a0 Z = true := hw _ (List.mem_of_getElem? (i := 66) rfl)
theorem w67 (hw : HW Z a0) : (Jvm.Cond.selects "[J" ({ cls := "[J", name := "clone", desc := "()Ljava/lang/Object;" } : Jvm.MethodName) ({ cls := "java/lang/Object", name := "clone", desc := "()Ljava/lang/Object;" } : Jvm.MethodName)).before a0 Z = true := hw _ (List.mem_of_getElem? (i := 67) rfl)
theorem w68 (hw : HW Z a0) : (Jvm.Cond.castable "[J" "java/lang/Cloneable").before a0 Z = true := hw _ (List.mem_of_getElem? (i := 68) rfl)
theorem w69 (hw : HW Z a0) : (Jvm.Cond.classLink "com/example/evenkeel/evenkeel/LagSeats" (43 : Nat) "[J").before a0 Z = true := hw _ (List.mem_of_getElem? (i := 69) rfl)
theorem w70 (hw : HW Z a0) : (Jvm.Cond.castable "[J" "[J").before a0 Z = true := hw _ (List.mem_of_getElem? (i := 70) rfl)
theorem w71 (hw : HW Z a0) : (Jvm.Cond.fieldLink "com/example/evenkeel/evenkeel/LagSeats" (44 : Nat) "com/example/evenkeel/evenkeel/LagSeats" "totals" "[J").before a0 Z = true := hw _ (List.mem_of_getElem? (i := 71) rfl)
theorem w72 (hw : HW Z a0) : (Jvm.Cond.laysFinal "com/example/evenkeel/evenkeel/LagSeats" "com/example/evenkeel/evenkeel/LagSeats" "totals" "[J").before a0 Z = true := hw _ (List.mem_of_getElem? (i := 72) rfl)
theorem w73 (hw : HW Z a0) : (Jvm.Cond.fieldLink "com/example/evenkeel/evenkeel/LagSeats" (47 : Nat) "com/example/evenkeel/evenkeel/LagSeats" "lags" "[J").before a0 Z = true := hw _ (List.mem_of_getElem? (i := 73) rfl)
theorem w74 (hw : HW Z a0) : (Jvm.Cond.laysFinal "com/example/evenkeel/evenkeel/LagSeats" "com/example/evenkeel/evenkeel/LagSeats" "lags" "[J").before a0 Z = true := hw _ (List.mem_of_getElem? (i := 74) rfl)
theorem w75 (hw : HW Z a0) : (Jvm.Cond.fieldLink "com/example/evenkeel/evenkeel/LagSeats" (50 : Nat) "com/example/evenkeel/evenkeel/LagSeats" "rankStarts" "[I").before a0 Z = true := hw _ (List.mem_of_getElem? (i := 75) rfl)
theorem w76 (hw : HW Z a0) : (Jvm.Cond.laysFinal "com/example/evenkeel/evenkeel/LagSeats" "com/example/evenkeel/evenkeel/LagSeats" "rankStarts" "[I").before a0 Z = true := hw _ (List.mem_of_getElem? (i := 76) rfl)
theorem w77 (hw : HW Z a0) : (Jvm.Cond.fieldLink "com/example/evenkeel/evenkeel/LagSeats" (53 : Nat) "com/example/evenkeel/evenkeel/LagSeats$Naming" "kinds" "[I").before a0 Z = true := hw _ (List.mem_of_getElem? (i := 77) rfl)
theorem w78 (hw : HW Z a0) : (Jvm.Cond.fieldLink "com/example/evenkeel/evenkeel/LagSeats" (58 : Nat) "com/example/evenkeel/evenkeel/LagSeats$Naming" "kindCount" "I").before a0 Z = true := hw _ (List.mem_of_getElem? (i := 78) rfl)
theorem w79 (hw : HW Z a0) : (Jvm.Cond.methodLink "com/example/evenkeel/evenkeel/LagSeats" (61 : Nat) ({ cls := "com/example/evenkeel/evenkeel/LagSeats", name := "starts", desc := "([II)[I" } : Jvm.MethodName)).before a0 Z = true := hw _ (List.mem_of_getElem? (i := 79) rfl)
theorem w80 (hw : HW Z a0) : (Jvm.Cond.static ({ cls := "com/example/evenkeel/evenkeel/LagSeats", name := "starts", desc := "([II)[I" } : Jvm.MethodName)).before a0 Z = true := hw _ (List.mem_of_getElem? (i := 80) rfl)
theorem w81 (hw : HW Z a0) : (Jvm.Cond.code ({ cls := "com/example/evenkeel/evenkeel/LagSeats", name := "starts", desc := "([II)[I" } : Jvm.MethodName) prog_60_method_4_code (7 : Nat) (Option.some (Jvm.ClassFile.FieldType.array Jvm.ClassFile.FieldType.int))).before a0 Z = true := hw _ (List.mem_of_getElem? (i := 81) rfl)
theorem w82 (hw : HW Z a0) : (Jvm.Cond.fieldLink "com/example/evenkeel/evenkeel/LagSeats" (65 : Nat) "com/example/evenkeel/evenkeel/LagSeats" "kindSeatStarts" "[I").before a0 Z = true := hw _ (List.mem_of_getElem? (i := 82) rfl)
theorem w83 (hw : HW Z a0) : (Jvm.Cond.laysFinal "com/example/evenkeel/evenkeel/LagSeats" "com/example/evenkeel/evenkeel/LagSeats" "kindSeatStarts" "[I").before a0 Z = true := hw _ (List.mem_of_getElem? (i := 83) rfl)
theorem w84 (hw : HW Z a0) : (Jvm.Cond.fieldLink "com/example/evenkeel/evenkeel/LagSeats" (68 : Nat) "com/example/evenkeel/evenkeel/LagSeats$Naming" "members" "[I").before a0 Z = true := hw _ (List.mem_of_getElem? (i := 84) rfl)
theorem w85 (hw : HW Z a0) : (Jvm.Cond.fieldLink "com/example/evenkeel/evenkeel/LagSeats" (71 : Nat) "com/example/evenkeel/evenkeel/LagSeats" "seatMembers" "[I").before a0 Z = true := hw _ (List.mem_of_getElem? (i := 85) rfl)
theorem w86 (hw : HW Z a0) : (Jvm.Cond.laysFinal "com/example/evenkeel/evenkeel/LagSeats" "com/example/evenkeel/evenkeel/LagSeats" "seatMembers" "[I").before a0 Z = true := hw _ (List.mem_of_getElem? (i := 86) rfl)
theorem w87 (hw : HW Z a0) : (Jvm.Cond.fieldLink "com/example/evenkeel/evenkeel/LagSeats" (74 : Nat) "com/example/evenkeel/evenkeel/LagSeats" "seatKinds" "[I").before a0 Z = true := hw _ (List.mem_of_getElem? (i := 87) rfl)
theorem w88 (hw : HW Z a0) : (Jvm.Cond.laysFinal "com/example/evenkeel/evenkeel/LagSeats" "com/example/evenkeel/evenkeel/LagSeats" "seatKinds" "[I").before a0 Z = true := hw _ (List.mem_of_getElem? (i := 88) rfl)
theorem w89 (hw : HW Z a0) : (Jvm.Cond.fieldLink "com/example/evenkeel/evenkeel/LagSeats" (77 : Nat) "com/example/evenkeel/evenkeel/LagSeats" "memberSeatStarts" "[I").before a0 Z = true := hw _ (List.mem_of_getElem? (i := 89) rfl)
theorem w90 (hw : HW Z a0) : (Jvm.Cond.laysFinal "com/example/evenkeel/evenkeel/LagSeats" "com/example/evenkeel/evenkeel/LagSeats" "memberSeatStarts" "[I").before a0 Z = true := hw _ (List.mem_of_getElem? (i := 90) rfl)
theorem w91 (hw : HW Z a0) : (Jvm.Cond.fieldLink "com/example/evenkeel/evenkeel/LagSeats" (80 : Nat) "com/example/evenkeel/evenkeel/LagSeats$Naming" "count" "I").before a0 Z = true := hw _ (List.mem_of_getElem? (i := 91) rfl)
theorem w92 (hw : HW Z a0) : (Jvm.Cond.fieldLink "com/example/evenkeel/evenkeel/LagSeats" (83 : Nat) "com/example/evenkeel/evenkeel/LagSeats" "memberSeats" "[I").before a0 Z = true := hw _ (List.mem_of_getElem? (i := 92) rfl)
theorem w93 (hw : HW Z a0) : (Jvm.Cond.laysFinal "com/example/evenkeel/evenkeel/LagSeats" "com/example/evenkeel/evenkeel/LagSeats" "memberSeats" "[I").before a0 Z = true := hw _ (List.mem_of_getElem? (i := 93) rfl)
theorem w94 (hw : HW Z a0) : (Jvm.Cond.fieldLink "com/example/evenkeel/evenkeel/LagSeats" (86 : Nat) "com/example/evenkeel/evenkeel/LagSeats" "memberSeatKeys" "[I").before a0 Z = true := hw _ (List.mem_of_getElem? (i := 94) rfl)
theorem w95 (hw : HW Z a0) : (Jvm.Cond.laysFinal "com/example/evenkeel/evenkeel/LagSeats" "com/example/evenkeel/evenkeel/LagSeats" "memberSeatKeys" "[I").before a0 Z = true := hw _ (List.mem_of_getElem? (i := 95) rfl)
theorem w96 (hw : HW Z a0) : (Jvm.Cond.fieldLink "com/example/evenkeel/evenkeel/LagSeats" (89 : Nat) "com/example/evenkeel/evenkeel/LagSeats" "rooms" "[I").before a0 Z = true := hw _ (List.mem_of_getElem? (i := 96) rfl)
theorem w97 (hw : HW Z a0) : (Jvm.Cond.laysFinal "com/example/evenkeel/evenkeel/LagSeats" "com/example/evenkeel/evenkeel/LagSeats" "rooms" "[I").before a0 Z = true := hw _ (List.mem_of_getElem? (i := 97) rfl)
theorem w98 (hw : HW Z a0) : (Jvm.Cond.methodLink "com/example/evenkeel/evenkeel/LagSeats" (92 : Nat) ({ cls := "com/example/evenkeel/evenkeel/LagSeats$Naming", name := "number", desc := "([I)V" } : Jvm.MethodName)).before a0 Z = true := hw _ (List.mem_of_getElem? (i := 98) rfl)
theorem w99 (hw : HW Z a0) : (Jvm.Cond.declares ({ cls := "com/example/evenkeel/evenkeel/LagSeats$Naming", name := "number", desc := "([I)V" } : Jvm.MethodName)).before a0 Z = true := hw _ (List.mem_of_getElem? (i := 99) rfl)
theorem w100 (hw : HW Z a0) : (Jvm.Cond.instanceMethod ({ cls := "com/example/evenkeel/evenkeel/LagSeats$Naming", name := "number", desc := "([I)V" } : Jvm.MethodName)).before a0 Z = true := hw _ (List.mem_of_getElem? (i := 100) rfl)
theorem w101 (hw : HW Z a0) : (Jvm.Cond.selects "com/example/evenkeel/evenkeel/LagSeats$Naming" ({ cls := "com/example/evenkeel/evenkeel/LagSeats$Naming", name := "number", desc := "([I)V" } : Jvm.MethodName) ({ cls := "com/example/evenkeel/evenkeel/LagSeats$Naming", name := "number", desc := "([I)V" } : Jvm.MethodName)).before a0 Z = true := hw _ (List.mem_of_getElem? (i := 101) rfl)
theorem w102 (hw : HW Z a0) : (Jvm.Cond.code ({ cls := "com/example/evenkeel/evenkeel/LagSeats$Naming", name := "number", desc := "([I)V" } : Jvm.MethodName) prog_61_method_2_code (3 : Nat) (Option.none : Option Jvm.ClassFile.FieldType)).before a0 Z = true := hw _ (List.mem_of_getElem? (i := 102) rfl)
theorem w103 (hw : HW Z a0) : (Jvm.Cond.methodLink "com/example/evenkeel/evenkeel/LagSeats" (96 : Nat) ({ cls := "com/example/evenkeel/evenkeel/LagSeats$Naming", name := "list", desc := "([I[I[I[I)V" } : Jvm.MethodName)).before a0 Z = true := hw _ (List.mem_of_getElem? (i := 103) rfl)
theorem w104 (hw : HW Z a0) : (Jvm.Cond.declares ({ cls := "com/example/evenkeel/evenkeel/LagSeats$Naming", name := "list", desc := "([I[I[I[I)V" } : Jvm.MethodName)).before a0 Z = true := hw _ (List.mem_of_getElem? (i := 104) rfl)
theorem w105 (hw : HW Z a0) : (Jvm.Cond.instanceMethod ({ cls := "com/example/evenkeel/evenkeel/LagSeats$Naming", name := "list", desc := "([I[I[I[I)V" } : Jvm.MethodName)).before a0 Z = true := hw _ (List.mem_of_getElem? (i := 105) rfl)
theorem w106 (hw : HW Z a0) : (Jvm.Cond.selects "com/example/evenkeel/evenkeel/LagSeats$Naming" ({ cls := "com/example/evenkeel/evenkeel/LagSeats$Naming", name := "list", desc := "([I[I[I[I)V" } : Jvm.MethodName) ({ cls := "com/example/evenkeel/evenkeel/LagSeats$Naming", name := "list", desc := "([I[I[I[I)V" } : Jvm.MethodName)).before a0 Z = true := hw _ (List.mem_of_getElem? (i := 106) rfl)
theorem w107 (hw : HW Z a0) : (Jvm.Cond.code ({ cls := "com/example/evenkeel/evenkeel/LagSeats$Naming", name := "list", desc := "([I[I[I[I)V" } : Jvm.MethodName) prog_61_method_7_code (11 : Nat) (Option.none : Option Jvm.ClassFile.FieldType)).before a0 Z = true := hw _ (List.mem_of_getElem? (i := 107) rfl)
theorem w108 (hw : HW Z a0) : (Jvm.Cond.methodLink "com/example/evenkeel/evenkeel/LagSeats$Naming" (58 : Nat) ({ cls := "com/example/evenkeel/evenkeel/LagSeats$Naming", name := "listing", desc := "()[I" } : Jvm.MethodName)).before a0 Z = true := hw _ (List.mem_of_getElem? (i := 108) rfl)
theorem w109 (hw : HW Z a0) : (Jvm.Cond.instanceMethod ({ cls := "com/example/evenkeel/evenkeel/LagSeats$Naming", name := "listing", desc := "()[I" } : Jvm.MethodName)).before a0 Z = true := hw _ (List.mem_of_getElem? (i := 109) rfl)
theorem w110 (hw : HW Z a0) : (Jvm.Cond.privateMethod ({ cls := "com/example/evenkeel/evenkeel/LagSeats$Naming", name := "listing", desc := "()[I" } : Jvm.MethodName)).before a0 Z = true := hw _ (List.mem_of_getElem? (i := 110) rfl)
theorem w111 (hw : HW Z a0) : (Jvm.Cond.code ({ cls := "com/example/evenkeel/evenkeel/LagSeats$Naming", name := "listing", desc := "()[I" } : Jvm.MethodName) prog_61_method_8_code (3 : Nat) (Option.some (Jvm.ClassFile.FieldType.array Jvm.ClassFile.FieldType.int))).before a0 Z = true := hw _ (List.mem_of_getElem? (i := 111) rfl)
theorem w112 (hw : HW Z a0) : (Jvm.Cond.fieldLink "com/example/evenkeel/evenkeel/LagSeats$Naming" (28 : Nat) "com/example/evenkeel/evenkeel/LagSeats$Naming" "kindHomes" "[I").before a0 Z = true := hw _ (List.mem_of_getElem? (i := 112) rfl)
theorem w113 (hw : HW Z a0) : (Jvm.Cond.lays "com/example/evenkeel/evenkeel/LagSeats$Naming" "com/example/evenkeel/evenkeel/LagSeats$Naming" "kindHomes" "[I").before a0 Z = true := hw _ (List.mem_of_getElem? (i := 113) rfl)
theorem w114 (hw : HW Z a0) : (Jvm.Cond.fieldLink "com/example/evenkeel/evenkeel/LagSeats$Naming" (34 : Nat) "com/example/evenkeel/evenkeel/LagSeats$Naming" "keyHomes" "[I").before a0 Z = true := hw _ (List.mem_of_getElem? (i := 114) rfl)
theorem w115 (hw : HW Z a0) : (Jvm.Cond.lays "com/example/evenkeel/evenkeel/LagSeats$Naming" "com/example/evenkeel/evenkeel/LagSeats$Naming" "keyHomes" "[I").before a0 Z = true := hw _ (List.mem_of_getElem? (i := 115) rfl)
theorem w116 (hw : HW Z a0) : (Jvm.Cond.methodLink "com/example/evenkeel/evenkeel/LagSeats$Naming" (47 : Nat) ({ cls := "java/util/Arrays", name := "copyOf", desc := "([II)[I" } : Jvm.MethodName)).before a0 Z = true := hw _ (List.mem_of_getElem? (i := 116) rfl)
theorem w117 (hw : HW Z a0) : (Jvm.Cond.static ({ cls := "java/util/Arrays", name := "copyOf", desc := "([II)[I" } : Jvm.MethodName)).before a0 Z = true := hw _ (List.mem_of_getElem? (i := 117) rfl)
theorem w118 (hw : HW Z a0) : (Jvm.Cond.initialized "java/util/Arrays").before a0 Z = true := hw _ (List.mem_of_getElem? (i := 118) rfl)
theorem w119 (hw : HW Z a0) : (Jvm.Cond.code ({ cls := "java/util/Arrays", name := "copyOf", desc := "([II)[I" } : Jvm.MethodName) jdk_65_method_123_code (3 : Nat) (Option.some (Jvm.ClassFile.FieldType.array Jvm.ClassFile.FieldType.int))).before a0 Z = true := hw _ (List.mem_of_getElem? (i := 119) rfl)
theorem w120 (hw : HW Z a0) : (Jvm.Cond.methodLink "java/util/Arrays" (304 : Nat) ({ cls := "java/lang/Math", name := "min", desc := "(II)I" } : Jvm.MethodName)).before a0 Z = true := hw _ (List.mem_of_getElem? (i := 120) rfl)
theorem w121 (hw : HW Z a0) : (Jvm.Cond.static ({ cls := "java/lang/Math", name := "min", desc := "(II)I" } : Jvm.MethodName)).before a0 Z = true := hw _ (List.mem_of_getElem? (i := 121) rfl)
theorem w122 (hw : HW Z a0) : (Jvm.Cond.code ({ cls := "java/lang/Math", name := "min", desc := "(II)I" } : Jvm.MethodName) jdk_29_method_69_code (2 : Nat) (Option.some Jvm.ClassFile.FieldType.int)).before a0 Z = true := hw _ (List.mem_of_getElem? (i := 122) rfl)
theorem w123 (hw : HW Z a0) : (Jvm.Cond.methodLink "java/util/Arrays" (150 : Nat) ({ cls := "java/lang/System", name := "arraycopy", desc := "(Ljava/lang/Object;ILjava/lang/Object;II)V" } : Jvm.MethodName)).before a0 Z = true := hw _ (List.mem_of_getElem? (i := 123) rfl)
theorem w124 (hw : HW Z a0) : (Jvm.Cond.static ({ cls := "java/lang/System", name := "arraycopy", desc := "(Ljava/lang/Object;ILjava/lang/Object;II)V" } : Jvm.MethodName)).before a0 Z = true := hw _ (List.mem_of_getElem? (i := 124) rfl)
theorem w125 (hw : HW Z a0) : (Jvm.Cond.initialized "java/lang/System").before a0 Z = true := hw _ (List.mem_of_getElem? (i := 125) rfl)
theorem w126 (hw : HW Z a0) : (Jvm.Cond.native ({ cls := "java/lang/System", name := "arraycopy", desc := "(Ljava/lang/Object;ILjava/lang/Object;II)V" } : Jvm.MethodName)).before a0 Z = true := hw _ (List.mem_of_getElem? (i := 126) rfl)
theorem w127 (hw : HW Z a0) : (Jvm.Cond.methodLink "com/example/evenkeel/evenkeel/LagSeats" (100 : Nat) ({ cls := "com/example/evenkeel/evenkeel/LagSeats$Naming", name := "runs", desc := "([I[I)Lcom/example/evenkeel/evenkeel/LagSeats$Runs;" } : Jvm.MethodName)).before a0 Z = true := hw _ (List.mem_of_getElem? (i := 127) rfl)
theorem w128 (hw : HW Z a0) : (Jvm.Cond.declares ({ cls := "com/example/evenkeel/evenkeel/LagSeats$Naming", name := "runs", desc := "([I[I)Lcom/example/evenkeel/evenkeel/LagSeats$Runs;" } : Jvm.MethodName)).before a0 Z = true := hw _ (List.mem_of_getElem? (i := 128) rfl)
theorem w129 (hw : HW Z a0) : (Jvm.Cond.instanceMethod ({ cls := "com/example/evenkeel/evenkeel/LagSeats$Naming", name := "runs", desc := "([I[I)Lcom/example/evenkeel/evenkeel/LagSeats$Runs;" } : Jvm.MethodName)).before a0 Z = true := hw _ (List.mem_of_getElem? (i := 129) rfl)
theorem w130 (hw : HW Z a0) : (Jvm.Cond.selects "com/example/evenkeel/evenkeel/LagSeats$Naming" ({ cls := "com/example/evenkeel/evenkeel/LagSeats$Naming", name := "runs", desc := "([I[I)Lcom/example/evenkeel/evenkeel/LagSeats$Runs;" } : Jvm.MethodName) ({ cls := "com/example/evenkeel/evenkeel/LagSeats$Naming", name := "runs", desc := "([I[I)Lcom/example/evenkeel/evenkeel/LagSeats$Runs;" } : Jvm.MethodName)).before a0 Z = true := hw _ (List.mem_of_getElem? (i := 130) rfl)
theorem w131 (hw : HW Z a0) : (Jvm.Cond.code ({ cls := "com/example/evenkeel/evenkeel/LagSeats$Naming", name := "runs", desc := "([I[I)Lcom/example/evenkeel/evenkeel/LagSeats$Runs;" } : Jvm.MethodName) prog_61_method_4_code (10 : Nat) (Option.some (Jvm.ClassFile.FieldType.object "com/example/evenkeel/evenkeel/LagSeats$Runs"))).before a0 Z = true := hw _ (List.mem_of_getElem? (i := 131) rfl)
theorem w132 (hw : HW Z a0) : (Jvm.Cond.fieldLink "com/example/evenkeel/evenkeel/LagSeats" (104 : Nat) "com/example/evenkeel/evenkeel/LagSeats" "runs" "Lcom/example/evenkeel/evenkeel/LagSeats$Runs;").before a0 Z = true := hw _ (List.mem_of_getElem? (i := 132) rfl)
theorem w133 (hw : HW Z a0) : (Jvm.Cond.laysFinal "com/example/evenkeel/evenkeel/LagSeats" "com/example/evenkeel/evenkeel/LagSeats" "runs" "Lcom/example/evenkeel/evenkeel/LagSeats$Runs;").before a0 Z = true := hw _ (List.mem_of_getElem? (i := 133) rfl)
theorem w134 (hw : HW Z a0) : (Jvm.Cond.fieldLink "com/example/evenkeel/evenkeel/LagSeats" (107 : Nat) "com/example/evenkeel/evenkeel/LagSeats" "slots" "[I").before a0 Z = true := hw _ (List.mem_of_getElem? (i := 134) rfl)
theorem w135 (hw : HW Z a0) : (Jvm.Cond.laysFinal "com/example/evenkeel/evenkeel/LagSeats" "com/example/evenkeel/evenkeel/LagSeats" "slots" "[I").before a0 Z = true := hw _ (List.mem_of_getElem? (i := 135) rfl)
theorem w136 (hw : HW Z a0) : (Jvm.Cond.fieldLink "com/example/evenkeel/evenkeel/LagSeats" (110 : Nat) "com/example/evenkeel/evenkeel/LagSeats" "slotLags" "[J").before a0 Z = true := hw _ (List.mem_of_getElem? (i := 136) rfl)
theorem w137 (hw : HW Z a0) : (Jvm.Cond.laysFinal "com/example/evenkeel/evenkeel/LagSeats" "com/example/evenkeel/evenkeel/LagSeats" "slotLags" "[J").before a0 Z = true := hw _ (List.mem_of_getElem? (i := 137) rfl)
theorem w138 (hw : HW Z a0) : (Jvm.Cond.fieldLink "com/example/evenkeel/evenkeel/LagSeats" (113 : Nat) "com/example/evenkeel/evenkeel/LagSeats" "filled" "[I").before a0 Z = true := hw _ (List.mem_of_getElem? (i := 138) rfl)
theorem w139 (hw : HW Z a0) : (Jvm.Cond.laysFinal "com/example/evenkeel/evenkeel/LagSeats" "com/example/evenkeel/evenkeel/LagSeats" "filled" "[I").before a0 Z = true := hw _ (List.mem_of_getElem? (i := 139) rfl)
theorem w140 (hw : HW Z a0) : (Jvm.Cond.fieldLink "com/example/evenkeel/evenkeel/LagSeats" (116 : Nat) "com/example/evenkeel/evenkeel/LagSeats" "rankOwners" "[I").before a0 Z = true := hw _ (List.mem_of_getElem? (i := 140) rfl)
theorem w141 (hw : HW Z a0) : (Jvm.Cond.laysFinal "com/example/evenkeel/evenkeel/LagSeats" "com/example/evenkeel/evenkeel/LagSeats" "rankOwners" "[I").before a0 Z = true := hw _ (List.mem_of_getElem? (i := 141) rfl)
theorem w142 (hw : HW Z a0) : (Jvm.Cond.fieldLink "com/example/evenkeel/evenkeel/LagSeats" (119 : Nat) "com/example/evenkeel/evenkeel/LagSeats" "ownedCounts" "[I").before a0 Z = true := hw _ (List.mem_of_getElem? (i := 142) rfl)
theorem w143 (hw : HW Z a0) : (Jvm.Cond.laysFinal "com/example/evenkeel/evenkeel/LagSeats" "com/example/evenkeel/evenkeel/LagSeats" "ownedCounts" "[I").before a0 Z = true := hw _ (List.mem_of_getElem? (i := 143) rfl)
theorem w144 (hw : HW Z a0) : (Jvm.Cond.fieldLink "com/example/evenkeel/evenkeel/LagSeats" (126 : Nat) "com/example/evenkeel/evenkeel/LagSeats" "awayStarts" "[I").before a0 Z = true := hw _ (List.mem_of_getElem? (i := 144) rfl)
theorem w145 (hw : HW Z a0) : (Jvm.Cond.laysFinal "com/example/evenkeel/evenkeel/LagSeats" "com/example/evenkeel/evenkeel/LagSeats" "awayStarts" "[I").before a0 Z = true := hw _ (List.mem_of_getElem? (i := 145) rfl)
theorem w146 (hw : HW Z a0) : (Jvm.Cond.fieldLink "com/example/evenkeel/evenkeel/LagSeats" (133 : Nat) "com/example/evenkeel/evenkeel/LagSeats" "awayRanks" "[I").before a0 Z = true := hw _ (List.mem_of_getElem? (i := 146) rfl)
theorem w147 (hw : HW Z a0) : (Jvm.Cond.laysFinal "com/example/evenkeel/evenkeel/LagSeats" "com/example/evenkeel/evenkeel/LagSeats" "awayRanks" "[I").before a0 Z = true := hw _ (List.mem_of_getElem? (i := 147) rfl)
theorem w148 (hw : HW Z a0) : (Jvm.Cond.fieldLink "com/example/evenkeel/evenkeel/LagSeats" (136 : Nat) "com/example/evenkeel/evenkeel/LagSeats" "awaySeats" "[I").before a0 Z = true := hw _ (List.mem_of_getElem? (i := 148) rfl)
theorem w149 (hw : HW Z a0) : (Jvm.Cond.laysFinal "com/example/evenkeel/evenkeel/LagSeats" "com/example/evenkeel/evenkeel/LagSeats" "awaySeats" "[I").before a0 Z = true := hw _ (List.mem_of_getElem? (i := 149) rfl)
theorem w150 (hw : HW Z a0) : (Jvm.Cond.fieldLink "com/example/evenkeel/evenkeel/LagSeats" (139 : Nat) "com/example/evenkeel/evenkeel/LagSeats" "awayCounts" "[I").before a0 Z = true := hw _ (List.mem_of_getElem? (i := 150) rfl)
theorem w151 (hw : HW Z a0) : (Jvm.Cond.laysFinal "com/example/evenkeel/evenkeel/LagSeats" "com/example/evenkeel/evenkeel/LagSeats" "awayCounts" "[I").before a0 Z = true := hw _ (List.mem_of_getElem? (i := 151) rfl)
theorem w152 (hw : HW Z a0) : (Jvm.Cond.fieldLink "com/example/evenkeel/evenkeel/LagSeats" (142 : Nat) "com/example/evenkeel/evenkeel/LagSeats" "awayPlaces" "[I").before a0 Z = true := hw _ (List.mem_of_getElem? (i := 152) rfl)
theorem w153 (hw : HW Z a0) : (Jvm.Cond.laysFinal "com/example/evenkeel/evenkeel/LagSeats" "com/example/evenkeel/evenkeel/LagSeats" "awayPlaces" "[I").before a0 Z = true := hw _ (List.mem_of_getElem? (i := 153) rfl)
theorem w154 (hw : HW Z a0) : (Jvm.Cond.methodLink "com/example/evenkeel/evenkeel/LagSeatsFirstAtMostPinLaw" (30 : Nat) ({ cls := "com/example/evenkeel/evenkeel/LagSeats", name := "place", desc := "(II)V" } : Jvm.MethodName)).before a0 Z = true := hw _ (List.mem_of_getElem? (i := 154) rfl)
theorem w155 (hw : HW Z a0) : (Jvm.Cond.declares ({ cls := "com/example/evenkeel/evenkeel/LagSeats", name := "place", desc := "(II)V" } : Jvm.MethodName)).before a0 Z = true := hw _ (List.mem_of_getElem? (i := 155) rfl)
theorem w156 (hw : HW Z a0) : (Jvm.Cond.instanceMethod ({ cls := "com/example/evenkeel/evenkeel/LagSeats", name := "place", desc := "(II)V" } : Jvm.MethodName)).before a0 Z = true := hw _ (List.mem_of_getElem? (i := 156) rfl)
theorem w157 (hw : HW Z a0) : (Jvm.Cond.selects "com/example/evenkeel/evenkeel/LagSeats" ({ cls := "com/example/evenkeel/evenkeel/LagSeats", name := "place", desc := "(II)V" } : Jvm.MethodName) ({ cls := "com/example/evenkeel/evenkeel/LagSeats", name := "place", desc := "(II)V" } : Jvm.MethodName)).before a0 Z = true := hw _ (List.mem_of_getElem? (i := 157) rfl)
theorem w158 (hw : HW Z a0) : (Jvm.Cond.code ({ cls := "com/example/evenkeel/evenkeel/LagSeats", name := "place", desc := "(II)V" } : Jvm.MethodName) prog_60_method_26_code (3 : Nat) (Option.none : Option Jvm.ClassFile.FieldType)).before a0 Z = true := hw _ (List.mem_of_getElem? (i := 158) rfl)
theorem w159 (hw : HW Z a0) : (Jvm.Cond.methodLink "com/example/evenkeel/evenkeel/LagSeats" (183 : Nat) ({ cls := "com/example/evenkeel/evenkeel/LagSeats", name := "take", desc := "(II)V" } : Jvm.MethodName)).before a0 Z = true := hw _ (List.mem_of_getElem? (i := 159) rfl)
theorem w160 (hw : HW Z a0) : (Jvm.Cond.declares ({ cls := "com/example/evenkeel/evenkeel/LagSeats", name := "take", desc := "(II)V" } : Jvm.MethodName)).before a0 Z = true := hw _ (List.mem_of_getElem? (i := 160) rfl)
theorem w161 (hw : HW Z a0) : (Jvm.Cond.instanceMethod ({ cls := "com/example/evenkeel/evenkeel/LagSeats", name := "take", desc := "(II)V" } : Jvm.MethodName)).before a0 Z = true := hw _ (List.mem_of_getElem? (i := 161) rfl)
theorem w162 (hw : HW Z a0) : (Jvm.Cond.selects "com/example/evenkeel/evenkeel/LagSeats" ({ cls := "com/example/evenkeel/evenkeel/LagSeats", name := "take", desc := "(II)V" } : Jvm.MethodName) ({ cls := "com/example/evenkeel/evenkeel/LagSeats", name := "take", desc := "(II)V" } : Jvm.MethodName)).before a0 Z = true := hw _ (List.mem_of_getElem? (i := 162) rfl)
theorem w163 (hw : HW Z a0) : (Jvm.Cond.code ({ cls := "com/example/evenkeel/evenkeel/LagSeats", name := "take", desc := "(II)V" } : Jvm.MethodName) prog_60_method_27_code (3 : Nat) (Option.none : Option Jvm.ClassFile.FieldType)).before a0 Z = true := hw _ (List.mem_of_getElem? (i := 163) rfl)
theorem w164 (hw : HW Z a0) : (Jvm.Cond.methodLink "com/example/evenkeel/evenkeel/LagSeats" (186 : Nat) ({ cls := "com/example/evenkeel/evenkeel/LagSeats", name := "put", desc := "(II)V" } : Jvm.MethodName)).before a0 Z = true := hw _ (List.mem_of_getElem? (i := 164) rfl)
theorem w165 (hw : HW Z a0) : (Jvm.Cond.instanceMethod ({ cls := "com/example/evenkeel/evenkeel/LagSeats", name := "put", desc := "(II)V" } : Jvm.MethodName)).before a0 Z = true := hw _ (List.mem_of_getElem? (i := 165) rfl)
theorem w166 (hw : HW Z a0) : (Jvm.Cond.privateMethod ({ cls := "com/example/evenkeel/evenkeel/LagSeats", name := "put", desc := "(II)V" } : Jvm.MethodName)).before a0 Z = true := hw _ (List.mem_of_getElem? (i := 166) rfl)
theorem w167 (hw : HW Z a0) : (Jvm.Cond.code ({ cls := "com/example/evenkeel/evenkeel/LagSeats", name := "put", desc := "(II)V" } : Jvm.MethodName) prog_60_method_30_code (3 : Nat) (Option.none : Option Jvm.ClassFile.FieldType)).before a0 Z = true := hw _ (List.mem_of_getElem? (i := 167) rfl)
theorem w168 (hw : HW Z a0) : (Jvm.Cond.methodLink "com/example/evenkeel/evenkeel/LagSeatsFirstAtMostPinLaw" (33 : Nat) ({ cls := "com/example/evenkeel/evenkeel/LagSeats", name := "firstAtMost", desc := "(IJ)I" } : Jvm.MethodName)).before a0 Z = true := hw _ (List.mem_of_getElem? (i := 168) rfl)
theorem w169 (hw : HW Z a0) : (Jvm.Cond.declares ({ cls := "com/example/evenkeel/evenkeel/LagSeats", name := "firstAtMost", desc := "(IJ)I" } : Jvm.MethodName)).before a0 Z = true := hw _ (List.mem_of_getElem? (i := 169) rfl)
theorem w170 (hw : HW Z a0) : (Jvm.Cond.instanceMethod ({ cls := "com/example/evenkeel/evenkeel/LagSeats", name := "firstAtMost", desc := "(IJ)I" } : Jvm.MethodName)).before a0 Z = true := hw _ (List.mem_of_getElem? (i := 170) rfl)
theorem w171 (hw : HW Z a0) : (Jvm.Cond.selects "com/example/evenkeel/evenkeel/LagSeats" ({ cls := "com/example/evenkeel/evenkeel/LagSeats", name := "firstAtMost", desc := "(IJ)I" } : Jvm.MethodName) ({ cls := "com/example/evenkeel/evenkeel/LagSeats", name := "firstAtMost", desc := "(IJ)I" } : Jvm.MethodName)).before a0 Z = true := hw _ (List.mem_of_getElem? (i := 171) rfl)
theorem w172 (hw : HW Z a0) : (Jvm.Cond.code ({ cls := "com/example/evenkeel/evenkeel/LagSeats", name := "firstAtMost", desc := "(IJ)I" } : Jvm.MethodName) prog_60_method_33_code (7 : Nat) (Option.some Jvm.ClassFile.FieldType.int)).before a0 Z = true := hw _ (List.mem_of_getElem? (i := 172) rfl)
theorem w173 (hw : HW Z a0) : (Jvm.Cond.fieldLink "com/example/evenkeel/evenkeel/LagSeats$Naming" (31 : Nat) "com/example/evenkeel/evenkeel/LagSeats$Naming" "homes" "I").before a0 Z = true := hw _ (List.mem_of_getElem? (i := 173) rfl)
theorem w174 (hw : HW Z a0) : (Jvm.Cond.lays "com/example/evenkeel/evenkeel/LagSeats$Naming" "com/example/evenkeel/evenkeel/LagSeats$Naming" "homes" "I").before a0 Z = true := hw _ (List.mem_of_getElem? (i := 174) rfl)
end Words
abbrev oNM (v0 : Value) (v1 : Value) (v2 : Value) (v3 : Value) (v4 : Value) (v5 : Value) (v6 : Value) (v7 : Value) : Ob := .inl ("com/example/evenkeel/evenkeel/LagSeats$Naming", [("com/example/evenkeel/evenkeel/LagSeats$Naming", "kindCount", "I", v0), ("com/example/evenkeel/evenkeel/LagSeats$Naming", "members", "[I", v1), ("com/example/evenkeel/evenkeel/LagSeats$Naming", "kinds", "[I", v2), ("com/example/evenkeel/evenkeel/LagSeats$Naming", "rooms", "[I", v3), ("com/example/evenkeel/evenkeel/LagSeats$Naming", "count", "I", v4), ("com/example/evenkeel/evenkeel/LagSeats$Naming", "kindHomes", "[I", v5), ("com/example/evenkeel/evenkeel/LagSeats$Naming", "keyHomes", "[I", v6), ("com/example/evenkeel/evenkeel/LagSeats$Naming", "homes", "I", v7)])
theorem ly_oNM {Z : State} {a0 : Array Value} (hw : HW Z a0)   : OLay Z a0 "com/example/evenkeel/evenkeel/LagSeats$Naming" [("com/example/evenkeel/evenkeel/LagSeats$Naming", "kindCount", "I", .int), ("com/example/evenkeel/evenkeel/LagSeats$Naming", "members", "[I", (.array .int)), ("com/example/evenkeel/evenkeel/LagSeats$Naming", "kinds", "[I", (.array .int)), ("com/example/evenkeel/evenkeel/LagSeats$Naming", "rooms", "[I", (.array .int)), ("com/example/evenkeel/evenkeel/LagSeats$Naming", "count", "I", .int), ("com/example/evenkeel/evenkeel/LagSeats$Naming", "kindHomes", "[I", (.array .int)), ("com/example/evenkeel/evenkeel/LagSeats$Naming", "keyHomes", "[I", (.array .int)), ("com/example/evenkeel/evenkeel/LagSeats$Naming", "homes", "I", .int)] := (OLay.cons (Or.inr (w17 hw)) (by decide) (OLay.cons (Or.inr (w20 hw)) (by decide) (OLay.cons (Or.inr (w22 hw)) (by decide) (OLay.cons (Or.inr (w24 hw)) (by decide) (OLay.cons (Or.inl (w31 hw)) (by decide) (OLay.cons (Or.inl (w113 hw)) (by decide) (OLay.cons (Or.inl (w115 hw)) (by decide) (OLay.cons (Or.inl (w174 hw)) (by decide) OLay.nil))))))))
theorem nd_oNM : (([("com/example/evenkeel/evenkeel/LagSeats$Naming", "kindCount", "I", .int), ("com/example/evenkeel/evenkeel/LagSeats$Naming", "members", "[I", (.array .int)), ("com/example/evenkeel/evenkeel/LagSeats$Naming", "kinds", "[I", (.array .int)), ("com/example/evenkeel/evenkeel/LagSeats$Naming", "rooms", "[I", (.array .int)), ("com/example/evenkeel/evenkeel/LagSeats$Naming", "count", "I", .int), ("com/example/evenkeel/evenkeel/LagSeats$Naming", "kindHomes", "[I", (.array .int)), ("com/example/evenkeel/evenkeel/LagSeats$Naming", "keyHomes", "[I", (.array .int)), ("com/example/evenkeel/evenkeel/LagSeats$Naming", "homes", "I", .int)] : List (String × String × String × FieldType)).map fun f => f.2.1).Nodup := by decide
abbrev oLS (v0 : Value) (v1 : Value) (v2 : Value) (v3 : Value) (v4 : Value) (v5 : Value) (v6 : Value) (v7 : Value) (v8 : Value) (v9 : Value) (v10 : Value) (v11 : Value) (v12 : Value) (v13 : Value) (v14 : Value) (v15 : Value) (v16 : Value) (v17 : Value) (v18 : Value) (v19 : Value) (v20 : Value) (v21 : Value) (v22 : Value) (v23 : Value) (v24 : Value) (v25 : Value) (v26 : Value) (v27 : Value) (v28 : Value) : Ob := .inl ("com/example/evenkeel/evenkeel/LagSeats", [("com/example/evenkeel/evenkeel/LagSeats", "alike", "Z", v0), ("com/example/evenkeel/evenkeel/LagSeats", "share", "I", v1), ("com/example/evenkeel/evenkeel/LagSeats", "floors", "[I", v2), ("com/example/evenkeel/evenkeel/LagSeats", "extras", "I", v3), ("com/example/evenkeel/evenkeel/LagSeats", "extrasAtStart", "I", v4), ("com/example/evenkeel/evenkeel/LagSeats", "keptCounts", "[I", v5), ("com/example/evenkeel/evenkeel/LagSeats", "keptTotals", "[J", v6), ("com/example/evenkeel/evenkeel/LagSeats", "counts", "[I", v7), ("com/example/evenkeel/evenkeel/LagSeats", "totals", "[J", v8), ("com/example/evenkeel/evenkeel/LagSeats", "lags", "[J", v9), ("com/example/evenkeel/evenkeel/LagSeats", "rankStarts", "[I", v10), ("com/example/evenkeel/evenkeel/LagSeats", "kindSeatStarts", "[I", v11), ("com/example/evenkeel/evenkeel/LagSeats", "seatMembers", "[I", v12), ("com/example/evenkeel/evenkeel/LagSeats", "seatKinds", "[I", v13), ("com/example/evenkeel/evenkeel/LagSeats", "memberSeatStarts", "[I", v14), ("com/example/evenkeel/evenkeel/LagSeats", "memberSeats", "[I", v15), ("com/example/evenkeel/evenkeel/LagSeats", "memberSeatKeys", "[I", v16), ("com/example/evenkeel/evenkeel/LagSeats", "rooms", "[I", v17), ("com/example/evenkeel/evenkeel/LagSeats", "runs", "Lcom/example/evenkeel/evenkeel/LagSeats$Runs;", v18), ("com/example/evenkeel/evenkeel/LagSeats", "slots", "[I", v19), ("com/example/evenkeel/evenkeel/LagSeats", "slotLags", "[J", v20), ("com/example/evenkeel/evenkeel/LagSeats", "filled", "[I", v21), ("com/example/evenkeel/evenkeel/LagSeats", "rankOwners", "[I", v22), ("com/example/evenkeel/evenkeel/LagSeats", "ownedCounts", "[I", v23), ("com/example/evenkeel/evenkeel/LagSeats", "awayStarts", "[I", v24), ("com/example/evenkeel/evenkeel/LagSeats", "awayRanks", "[I", v25), ("com/example/evenkeel/evenkeel/LagSeats", "awaySeats", "[I", v26), ("com/example/evenkeel/evenkeel/LagSeats", "awayCounts", "[I", v27), ("com/example/evenkeel/evenkeel/LagSeats", "awayPlaces", "[I", v28)])
theorem ly_oLS {Z : State} {a0 : Array Value} (hw : HW Z a0)   : OLay Z a0 "com/example/evenkeel/evenkeel/LagSeats" [("com/example/evenkeel/evenkeel/LagSeats", "alike", "Z", .boolean), ("com/example/evenkeel/evenkeel/LagSeats", "share", "I", .int), ("com/example/evenkeel/evenkeel/LagSeats", "floors", "[I", (.array .int)), ("com/example/evenkeel/evenkeel/LagSeats", "extras", "I", .int), ("com/example/evenkeel/evenkeel/LagSeats", "extrasAtStart", "I", .int), ("com/example/evenkeel/evenkeel/LagSeats", "keptCounts", "[I", (.array .int)), ("com/example/evenkeel/evenkeel/LagSeats", "keptTotals", "[J", (.array .long)), ("com/example/evenkeel/evenkeel/LagSeats", "counts", "[I", (.array .int)), ("com/example/evenkeel/evenkeel/LagSeats", "totals", "[J", (.array .long)), ("com/example/evenkeel/evenkeel/LagSeats", "lags", "[J", (.array .long)), ("com/example/evenkeel/evenkeel/LagSeats", "rankStarts", "[I", (.array .int)), ("com/example/evenkeel/evenkeel/LagSeats", "kindSeatStarts", "[I", (.array .int)), ("com/example/evenkeel/evenkeel/LagSeats", "seatMembers", "[I", (.array .int)), ("com/example/evenkeel/evenkeel/LagSeats", "seatKinds", "[I", (.array .int)), ("com/example/evenkeel/evenkeel/LagSeats", "memberSeatStarts", "[I", (.array .int)), ("com/example/evenkeel/evenkeel/LagSeats", "memberSeats", "[I", (.array .int)), ("com/example/evenkeel/evenkeel/LagSeats", "memberSeatKeys", "[I", (.array .int)), ("com/example/evenkeel/evenkeel/LagSeats", "rooms", "[I", (.array .int)), ("com/example/evenkeel/evenkeel/LagSeats", "runs", "Lcom/example/evenkeel/evenkeel/LagSeats$Runs;", (.object "com/example/evenkeel/evenkeel/LagSeats$Runs")), ("com/example/evenkeel/evenkeel/LagSeats", "slots", "[I", (.array .int)), ("com/example/evenkeel/evenkeel/LagSeats", "slotLags", "[J", (.array .long)), ("com/example/evenkeel/evenkeel/LagSeats", "filled", "[I", (.array .int)), ("com/example/evenkeel/evenkeel/LagSeats", "rankOwners", "[I", (.array .int)), ("com/example/evenkeel/evenkeel/LagSeats", "ownedCounts", "[I", (.array .int)), ("com/example/evenkeel/evenkeel/LagSeats", "awayStarts", "[I", (.array .int)), ("com/example/evenkeel/evenkeel/LagSeats", "awayRanks", "[I", (.array .int)), ("com/example/evenkeel/evenkeel/LagSeats", "awaySeats", "[I", (.array .int)), ("com/example/evenkeel/evenkeel/LagSeats", "awayCounts", "[I", (.array .int)), ("com/example/evenkeel/evenkeel/LagSeats", "awayPlaces", "[I", (.array .int))] := (OLay.cons (Or.inr (w41 hw)) (by decide) (OLay.cons (Or.inr (w43 hw)) (by decide) (OLay.cons (Or.inr (w45 hw)) (by decide) (OLay.cons (Or.inl (w47 hw)) (by decide) (OLay.cons (Or.inr (w49 hw)) (by decide) (OLay.cons (Or.inr (w51 hw)) (by decide) (OLay.cons (Or.inr (w53 hw)) (by decide) (OLay.cons (Or.inr (w64 hw)) (by decide) (OLay.cons (Or.inr (w72 hw)) (by decide) (OLay.cons (Or.inr (w74 hw)) (by decide) (OLay.cons (Or.inr (w76 hw)) (by decide) (OLay.cons (Or.inr (w83 hw)) (by decide) (OLay.cons (Or.inr (w86 hw)) (by decide) (OLay.cons (Or.inr (w88 hw)) (by decide) (OLay.cons (Or.inr (w90 hw)) (by decide) (OLay.cons (Or.inr (w93 hw)) (by decide) (OLay.cons (Or.inr (w95 hw)) (by decide) (OLay.cons (Or.inr (w97 hw)) (by decide) (OLay.cons (Or.inr (w133 hw)) (by decide) (OLay.cons (Or.inr (w135 hw)) (by decide) (OLay.cons (Or.inr (w137 hw)) (by decide) (OLay.cons (Or.inr (w139 hw)) (by decide) (OLay.cons (Or.inr (w141 hw)) (by decide) (OLay.cons (Or.inr (w143 hw)) (by decide) (OLay.cons (Or.inr (w145 hw)) (by decide) (OLay.cons (Or.inr (w147 hw)) (by decide) (OLay.cons (Or.inr (w149 hw)) (by decide) (OLay.cons (Or.inr (w151 hw)) (by decide) (OLay.cons (Or.inr (w153 hw)) (by decide) OLay.nil)))))))))))))))))))))))))))))
theorem nd_oLS : (([("com/example/evenkeel/evenkeel/LagSeats", "alike", "Z", .boolean), ("com/example/evenkeel/evenkeel/LagSeats", "share", "I", .int), ("com/example/evenkeel/evenkeel/LagSeats", "floors", "[I", (.array .int)), ("com/example/evenkeel/evenkeel/LagSeats", "extras", "I", .int), ("com/example/evenkeel/evenkeel/LagSeats", "extrasAtStart", "I", .int), ("com/example/evenkeel/evenkeel/LagSeats", "keptCounts", "[I", (.array .int)), ("com/example/evenkeel/evenkeel/LagSeats", "keptTotals", "[J", (.array .long)), ("com/example/evenkeel/evenkeel/LagSeats", "counts", "[I", (.array .int)), ("com/example/evenkeel/evenkeel/LagSeats", "totals", "[J", (.array .long)), ("com/example/evenkeel/evenkeel/LagSeats", "lags", "[J", (.array .long)), ("com/example/evenkeel/evenkeel/LagSeats", "rankStarts", "[I", (.array .int)), ("com/example/evenkeel/evenkeel/LagSeats", "kindSeatStarts", "[I", (.array .int)), ("com/example/evenkeel/evenkeel/LagSeats", "seatMembers", "[I", (.array .int)), ("com/example/evenkeel/evenkeel/LagSeats", "seatKinds", "[I", (.array .int)), ("com/example/evenkeel/evenkeel/LagSeats", "memberSeatStarts", "[I", (.array .int)), ("com/example/evenkeel/evenkeel/LagSeats", "memberSeats", "[I", (.array .int)), ("com/example/evenkeel/evenkeel/LagSeats", "memberSeatKeys", "[I", (.array .int)), ("com/example/evenkeel/evenkeel/LagSeats", "rooms", "[I", (.array .int)), ("com/example/evenkeel/evenkeel/LagSeats", "runs", "Lcom/example/evenkeel/evenkeel/LagSeats$Runs;", (.object "com/example/evenkeel/evenkeel/LagSeats$Runs")), ("com/example/evenkeel/evenkeel/LagSeats", "slots", "[I", (.array .int)), ("com/example/evenkeel/evenkeel/LagSeats", "slotLags", "[J", (.array .long)), ("com/example/evenkeel/evenkeel/LagSeats", "filled", "[I", (.array .int)), ("com/example/evenkeel/evenkeel/LagSeats", "rankOwners", "[I", (.array .int)), ("com/example/evenkeel/evenkeel/LagSeats", "ownedCounts", "[I", (.array .int)), ("com/example/evenkeel/evenkeel/LagSeats", "awayStarts", "[I", (.array .int)), ("com/example/evenkeel/evenkeel/LagSeats", "awayRanks", "[I", (.array .int)), ("com/example/evenkeel/evenkeel/LagSeats", "awaySeats", "[I", (.array .int)), ("com/example/evenkeel/evenkeel/LagSeats", "awayCounts", "[I", (.array .int)), ("com/example/evenkeel/evenkeel/LagSeats", "awayPlaces", "[I", (.array .int))] : List (String × String × String × FieldType)).map fun f => f.2.1).Nodup := by decide
theorem pd_0 : parseMethodDescriptor "(II)V" = some ⟨[.int, .int], none⟩ := by decide +kernel
theorem pd_1 : parseMethodDescriptor "(III)V" = some ⟨[.int, .int, .int], none⟩ := by decide +kernel
theorem pd_2 : parseMethodDescriptor "([II)[I" = some ⟨[(.array .int), .int], some (.array .int)⟩ := by decide +kernel
theorem pd_3 : parseMethodDescriptor "([I)V" = some ⟨[(.array .int)], none⟩ := by decide +kernel
theorem pd_4 : parseMethodDescriptor "()[I" = some ⟨[], some (.array .int)⟩ := by decide +kernel
theorem pd_5 : parseMethodDescriptor "(II)I" = some ⟨[.int, .int], some .int⟩ := by decide +kernel
theorem pd_6 : parseMethodDescriptor "([I[I[I[I)V" = some ⟨[(.array .int), (.array .int), (.array .int), (.array .int)], none⟩ := by decide +kernel
theorem pd_7 : parseMethodDescriptor "([I[I)Lcom/example/evenkeel/evenkeel/LagSeats$Runs;" = some ⟨[(.array .int), (.array .int)], some (.object "com/example/evenkeel/evenkeel/LagSeats$Runs")⟩ := by decide +kernel
theorem pd_8 : parseMethodDescriptor "(ZI[II[I[J[J[I[ILcom/example/evenkeel/evenkeel/LagSeats$Naming;)V" = some ⟨[.boolean, .int, (.array .int), .int, (.array .int), (.array .long), (.array .long), (.array .int), (.array .int), (.object "com/example/evenkeel/evenkeel/LagSeats$Naming")], none⟩ := by decide +kernel
theorem pd_9 : parseMethodDescriptor "(IJ)I" = some ⟨[.int, .long], some .int⟩ := by decide +kernel
theorem pd_10 : parseMethodDescriptor "(JJ)J" = some ⟨[.long, .long], some .long⟩ := by decide +kernel
set_option maxRecDepth 65536 in
set_option maxHeartbeats 400000000 in
theorem c_mn {l : Launch} {Z : State} {a0 : Array Value} (hw : HW Z a0) {n0 : Nat} (F : Wd) (x y : Int64) :
    Con l Z n0 (⟨"java/lang/Math", "min", "(JJ)J"⟩ : MethodName) jdk_29_method_70_code 4 (some .long) ({ frames := 0, cells := 0, slots := 0, locals := 0 } : Room) [.long x, .long y] F (fun v L' => v = some (.long (own_mn x y)) ∧ L' = F) := by
  refine Con.of (by decide +kernel) (Ls := #[.val (.long x), .second, .val (.long y), .second]) (fun m => by first | rfl | (simp [entryFrame, mkF, argsToLocals, Value.category]; done)) ?_
  intro κ K
  refine s_lloadN K d2_0 (pc' := 1) rfl rfl ?_
  refine s_lloadN K d2_1 (pc' := 2) rfl rfl ?_
  refine s_lcmp K d2_2 (pc' := 3) rfl  ?_
  refine s_if K d2_3 (pn := 6) rfl (by decide) (pc' := 10) (by decide) (fun h => ?_) (fun h => ?_)
  · refine s_lloadN K d2_10 (pc' := 11) rfl rfl ?_
    exact s_lreturn K d2_11 (by decide) (by decide) ⟨by rw [own_mnY (own_gtY h)], rfl⟩
  · refine s_lloadN K d2_6 (pc' := 7) rfl rfl ?_
    refine s_goto K d2_7 (by decide) (pc' := 11) (by decide) ?_
    exact s_lreturn K d2_11 (by decide) (by decide) ⟨by rw [own_mnN (own_gtN h)], rfl⟩
set_option maxRecDepth 65536 in
set_option maxHeartbeats 400000000 in
theorem c_mx {l : Launch} {Z : State} {a0 : Array Value} (hw : HW Z a0) {n0 : Nat} (F : Wd) (x y : Int64) :
    Con l Z n0 (⟨"java/lang/Math", "max", "(JJ)J"⟩ : MethodName) jdk_29_method_66_code 4 (some .long) ({ frames := 0, cells := 0, slots := 0, locals := 0 } : Room) [.long x, .long y] F (fun v L' => v = some (.long (own_mx x y)) ∧ L' = F) := by
  refine Con.of (by decide +kernel) (Ls := #[.val (.long x), .second, .val (.long y), .second]) (fun m => by first | rfl | (simp [entryFrame, mkF, argsToLocals, Value.category]; done)) ?_
  intro κ K
  refine s_lloadN K d1_0 (pc' := 1) rfl rfl ?_
  refine s_lloadN K d1_1 (pc' := 2) rfl rfl ?_
  refine s_lcmp K d1_2 (pc' := 3) rfl  ?_
  refine s_if K d1_3 (pn := 6) rfl (by decide) (pc' := 10) (by decide) (fun h => ?_) (fun h => ?_)
  · refine s_lloadN K d1_10 (pc' := 11) rfl rfl ?_
    exact s_lreturn K d1_11 (by decide) (by decide) ⟨by rw [own_mxY (own_ltY h)], rfl⟩
  · refine s_lloadN K d1_6 (pc' := 7) rfl rfl ?_
    refine s_goto K d1_7 (by decide) (pc' := 11) (by decide) ?_
    exact s_lreturn K d1_11 (by decide) (by decide) ⟨by rw [own_mxN (own_ltN h)], rfl⟩
set_option maxRecDepth 65536 in
set_option maxHeartbeats 400000000 in
theorem k1_init {l : Launch} {Z : State} {a0 : Array Value} (hw : HW Z a0) {n0 : Nat} (F : Wd) (b101 : Addr)  :
    Con l Z n0 (⟨"com/example/evenkeel/evenkeel/LagSeats$Naming", "<init>", "(II)V"⟩ : MethodName) prog_61_method_1_code 3 none ({ frames := 1, cells := 3, slots := 6, locals := 12 } : Room) [.ref b101, .int 1, .int 2] ((b101, oNM (.int 0) .null .null .null (.int 0) .null .null (.int 0)) :: F) (fun v L' => ∃ b104 b103 b102, v = none ∧ L' = ((b104, .inr (.int, [.int 0, .int 0])) :: (b103, .inr (.int, [.int 0, .int 0])) :: (b102, .inr (.int, [.int 0, .int 0])) :: (b101, oNM (.int 1) (.ref b102) (.ref b103) (.ref b104) (.int 0) .null .null (.int 0)) :: F)) := by
  refine Con.of (by decide +kernel) (Ls := #[.val (.ref b101), .val (.int 1), .val (.int 2)]) (fun m => by first | rfl | (simp [entryFrame, mkF, argsToLocals, Value.category]; done)) ?_
  intro κ K
  refine s_aloadN K d3_0 (pc' := 1) rfl rfl rfl ?_
  refine s_initO K d3_1 (pc' := 4) rfl (w13 hw) (w14 hw) (w15 hw) rfl (by decide) (W := 0) (Nat.le_of_eq rfl) (by decide) ?_
  refine s_aloadN K d3_4 (pc' := 5) rfl rfl rfl ?_
  refine s_iloadN K d3_5 (pc' := 6) rfl rfl ?_
  refine s_putf K d3_6 (pc' := 9) rfl (w16 hw) (Or.inr ⟨w17 hw, rfl, rfl⟩) (w8 hw) (ty := .int) (by decide) rfl rfl (k := 0) rfl (j := 0) rfl (L' := ((b101, oNM (.int 1) .null .null .null (.int 0) .null .null (.int 0)) :: F)) rfl ?_
  refine s_aloadN K d3_9 (pc' := 10) rfl rfl rfl ?_
  refine s_iloadN K d3_10 (pc' := 11) rfl rfl ?_
  refine s_newarr K d3_11 (pc' := 13) rfl rfl (w18 hw) (n := 2) (by decide) (cap := 2) (by decide) (by decide) (vs0 := [.int 0, .int 0]) rfl (ce' := 1) rfl (sl' := 2) rfl (by decide) (by decide) ?_
  intro b102
  refine s_putf K d3_13 (pc' := 16) rfl (w19 hw) (Or.inr ⟨w20 hw, rfl, rfl⟩) (w8 hw) (ty := (.array .int)) (by decide) rfl rfl (k := 1) rfl (j := 1) rfl (L' := ((b102, .inr (.int, [.int 0, .int 0])) :: (b101, oNM (.int 1) (.ref b102) .null .null (.int 0) .null .null (.int 0)) :: F)) rfl ?_
  refine s_aloadN K d3_16 (pc' := 17) rfl rfl rfl ?_
  refine s_iloadN K d3_17 (pc' := 18) rfl rfl ?_
  refine s_newarr K d3_18 (pc' := 20) rfl rfl (w18 hw) (n := 2) (by decide) (cap := 2) (by decide) (by decide) (vs0 := [.int 0, .int 0]) rfl (ce' := 2) rfl (sl' := 4) rfl (by decide) (by decide) ?_
  intro b103
  refine s_putf K d3_20 (pc' := 23) rfl (w21 hw) (Or.inr ⟨w22 hw, rfl, rfl⟩) (w8 hw) (ty := (.array .int)) (by decide) rfl rfl (k := 2) rfl (j := 2) rfl (L' := ((b103, .inr (.int, [.int 0, .int 0])) :: (b102, .inr (.int, [.int 0, .int 0])) :: (b101, oNM (.int 1) (.ref b102) (.ref b103) .null (.int 0) .null .null (.int 0)) :: F)) rfl ?_
  refine s_aloadN K d3_23 (pc' := 24) rfl rfl rfl ?_
  refine s_iloadN K d3_24 (pc' := 25) rfl rfl ?_
  refine s_newarr K d3_25 (pc' := 27) rfl rfl (w18 hw) (n := 2) (by decide) (cap := 2) (by decide) (by decide) (vs0 := [.int 0, .int 0]) rfl (ce' := 3) rfl (sl' := 6) rfl (by decide) (by decide) ?_
  intro b104
  refine s_putf K d3_27 (pc' := 30) rfl (w23 hw) (Or.inr ⟨w24 hw, rfl, rfl⟩) (w8 hw) (ty := (.array .int)) (by decide) rfl rfl (k := 3) rfl (j := 3) rfl (L' := ((b104, .inr (.int, [.int 0, .int 0])) :: (b103, .inr (.int, [.int 0, .int 0])) :: (b102, .inr (.int, [.int 0, .int 0])) :: (b101, oNM (.int 1) (.ref b102) (.ref b103) (.ref b104) (.int 0) .null .null (.int 0)) :: F)) rfl ?_
  exact s_return K d3_30 (by decide) (by decide) ⟨_, _, _, rfl, rfl⟩
set_option maxRecDepth 65536 in
set_option maxHeartbeats 400000000 in
theorem k2_add {l : Launch} {Z : State} {a0 : Array Value} (hw : HW Z a0) {n0 : Nat} (F : Wd) (b105 b106 b107 b101 : Addr)  :
    Con l Z n0 (⟨"com/example/evenkeel/evenkeel/LagSeats$Naming", "add", "(III)V"⟩ : MethodName) prog_61_method_10_code 4 none ({ frames := 0, cells := 0, slots := 0, locals := 0 } : Room) [.ref b101, .int 0, .int 0, .int 1] ((b105, .inr (.int, [.int 0, .int 0])) :: (b106, .inr (.int, [.int 0, .int 0])) :: (b107, .inr (.int, [.int 0, .int 0])) :: (b101, oNM (.int 1) (.ref b107) (.ref b106) (.ref b105) (.int 0) .null .null (.int 0)) :: F) (fun v L' => v = none ∧ L' = ((b105, .inr (.int, [.int 1, .int 0])) :: (b106, .inr (.int, [.int 0, .int 0])) :: (b107, .inr (.int, [.int 0, .int 0])) :: (b101, oNM (.int 1) (.ref b107) (.ref b106) (.ref b105) (.int 1) .null .null (.int 0)) :: F)) := by
  refine Con.of (by decide +kernel) (Ls := #[.val (.ref b101), .val (.int 0), .val (.int 0), .val (.int 1)]) (fun m => by first | rfl | (simp [entryFrame, mkF, argsToLocals, Value.category]; done)) ?_
  intro κ K
  refine s_aloadN K d5_0 (pc' := 1) rfl rfl rfl ?_
  refine s_getf K d5_1 (pc' := 4) rfl (w19 hw) (k := 3) rfl (j := 1) rfl ?_
  refine s_aloadN K d5_4 (pc' := 5) rfl rfl rfl ?_
  refine s_getf K d5_5 (pc' := 8) rfl (w30 hw) (k := 3) rfl (j := 4) rfl ?_
  refine s_iloadN K d5_8 (pc' := 9) rfl rfl ?_
  refine s_iastore K d5_9 (pc' := 10) rfl (k := 2) rfl (i := 0) (by decide) (ltB rfl) (L' := ((b105, .inr (.int, [.int 0, .int 0])) :: (b106, .inr (.int, [.int 0, .int 0])) :: (b107, .inr (.int, [.int 0, .int 0])) :: (b101, oNM (.int 1) (.ref b107) (.ref b106) (.ref b105) (.int 0) .null .null (.int 0)) :: F)) rfl ?_
  refine s_aloadN K d5_10 (pc' := 11) rfl rfl rfl ?_
  refine s_getf K d5_11 (pc' := 14) rfl (w21 hw) (k := 3) rfl (j := 2) rfl ?_
  refine s_aloadN K d5_14 (pc' := 15) rfl rfl rfl ?_
  refine s_getf K d5_15 (pc' := 18) rfl (w30 hw) (k := 3) rfl (j := 4) rfl ?_
  refine s_iloadN K d5_18 (pc' := 19) rfl rfl ?_
  refine s_iastore K d5_19 (pc' := 20) rfl (k := 1) rfl (i := 0) (by decide) (ltB rfl) (L' := ((b105, .inr (.int, [.int 0, .int 0])) :: (b106, .inr (.int, [.int 0, .int 0])) :: (b107, .inr (.int, [.int 0, .int 0])) :: (b101, oNM (.int 1) (.ref b107) (.ref b106) (.ref b105) (.int 0) .null .null (.int 0)) :: F)) rfl ?_
  refine s_aloadN K d5_20 (pc' := 21) rfl rfl rfl ?_
  refine s_getf K d5_21 (pc' := 24) rfl (w23 hw) (k := 3) rfl (j := 3) rfl ?_
  refine s_aloadN K d5_24 (pc' := 25) rfl rfl rfl ?_
  refine s_getf K d5_25 (pc' := 28) rfl (w30 hw) (k := 3) rfl (j := 4) rfl ?_
  refine s_iloadN K d5_28 (pc' := 29) rfl rfl ?_
  refine s_iastore K d5_29 (pc' := 30) rfl (k := 0) rfl (i := 0) (by decide) (ltB rfl) (L' := ((b105, .inr (.int, [.int 1, .int 0])) :: (b106, .inr (.int, [.int 0, .int 0])) :: (b107, .inr (.int, [.int 0, .int 0])) :: (b101, oNM (.int 1) (.ref b107) (.ref b106) (.ref b105) (.int 0) .null .null (.int 0)) :: F)) rfl ?_
  refine s_aloadN K d5_30 (pc' := 31) rfl rfl rfl ?_
  refine s_dup K d5_31 (pc' := 32) rfl rfl ?_
  refine s_getf K d5_32 (pc' := 35) rfl (w30 hw) (k := 3) rfl (j := 4) rfl ?_
  refine s_iconst K d5_35 (pc' := 36) rfl (z := (1 : Int32)) rfl ?_
  refine s_iadd K d5_36 (pc' := 37) rfl (z := (1 : Int32)) rfl ?_
  refine s_putf K d5_37 (pc' := 40) rfl (w30 hw) (Or.inl (w31 hw)) (w8 hw) (ty := .int) (by decide) rfl rfl (k := 3) rfl (j := 4) rfl (L' := ((b105, .inr (.int, [.int 1, .int 0])) :: (b106, .inr (.int, [.int 0, .int 0])) :: (b107, .inr (.int, [.int 0, .int 0])) :: (b101, oNM (.int 1) (.ref b107) (.ref b106) (.ref b105) (.int 1) .null .null (.int 0)) :: F)) rfl ?_
  exact s_return K d5_40 (by decide) (by decide) ⟨rfl, rfl⟩
set_option maxRecDepth 65536 in
set_option maxHeartbeats 400000000 in
theorem k3_add {l : Launch} {Z : State} {a0 : Array Value} (hw : HW Z a0) {n0 : Nat} (F : Wd) (b105 b106 b107 b101 : Addr)  :
    Con l Z n0 (⟨"com/example/evenkeel/evenkeel/LagSeats$Naming", "add", "(III)V"⟩ : MethodName) prog_61_method_10_code 4 none ({ frames := 0, cells := 0, slots := 0, locals := 0 } : Room) [.ref b101, .int 0, .int 1, .int 3] ((b105, .inr (.int, [.int 1, .int 0])) :: (b106, .inr (.int, [.int 0, .int 0])) :: (b107, .inr (.int, [.int 0, .int 0])) :: (b101, oNM (.int 1) (.ref b107) (.ref b106) (.ref b105) (.int 1) .null .null (.int 0)) :: F) (fun v L' => v = none ∧ L' = ((b105, .inr (.int, [.int 1, .int 3])) :: (b106, .inr (.int, [.int 0, .int 0])) :: (b107, .inr (.int, [.int 0, .int 1])) :: (b101, oNM (.int 1) (.ref b107) (.ref b106) (.ref b105) (.int 2) .null .null (.int 0)) :: F)) := by
  refine Con.of (by decide +kernel) (Ls := #[.val (.ref b101), .val (.int 0), .val (.int 1), .val (.int 3)]) (fun m => by first | rfl | (simp [entryFrame, mkF, argsToLocals, Value.category]; done)) ?_
  intro κ K
  refine s_aloadN K d5_0 (pc' := 1) rfl rfl rfl ?_
  refine s_getf K d5_1 (pc' := 4) rfl (w19 hw) (k := 3) rfl (j := 1) rfl ?_
  refine s_aloadN K d5_4 (pc' := 5) rfl rfl rfl ?_
  refine s_getf K d5_5 (pc' := 8) rfl (w30 hw) (k := 3) rfl (j := 4) rfl ?_
  refine s_iloadN K d5_8 (pc' := 9) rfl rfl ?_
  refine s_iastore K d5_9 (pc' := 10) rfl (k := 2) rfl (i := 1) (by decide) (ltB rfl) (L' := ((b105, .inr (.int, [.int 1, .int 0])) :: (b106, .inr (.int, [.int 0, .int 0])) :: (b107, .inr (.int, [.int 0, .int 1])) :: (b101, oNM (.int 1) (.ref b107) (.ref b106) (.ref b105) (.int 1) .null .null (.int 0)) :: F)) rfl ?_
  refine s_aloadN K d5_10 (pc' := 11) rfl rfl rfl ?_
  refine s_getf K d5_11 (pc' := 14) rfl (w21 hw) (k := 3) rfl (j := 2) rfl ?_
  refine s_aloadN K d5_14 (pc' := 15) rfl rfl rfl ?_
  refine s_getf K d5_15 (pc' := 18) rfl (w30 hw) (k := 3) rfl (j := 4) rfl ?_
  refine s_iloadN K d5_18 (pc' := 19) rfl rfl ?_
  refine s_iastore K d5_19 (pc' := 20) rfl (k := 1) rfl (i := 1) (by decide) (ltB rfl) (L' := ((b105, .inr (.int, [.int 1, .int 0])) :: (b106, .inr (.int, [.int 0, .int 0])) :: (b107, .inr (.int, [.int 0, .int 1])) :: (b101, oNM (.int 1) (.ref b107) (.ref b106) (.ref b105) (.int 1) .null .null (.int 0)) :: F)) rfl ?_
  refine s_aloadN K d5_20 (pc' := 21) rfl rfl rfl ?_
  refine s_getf K d5_21 (pc' := 24) rfl (w23 hw) (k := 3) rfl (j := 3) rfl ?_
  refine s_aloadN K d5_24 (pc' := 25) rfl rfl rfl ?_
  refine s_getf K d5_25 (pc' := 28) rfl (w30 hw) (k := 3) rfl (j := 4) rfl ?_
  refine s_iloadN K d5_28 (pc' := 29) rfl rfl ?_
  refine s_iastore K d5_29 (pc' := 30) rfl (k := 0) rfl (i := 1) (by decide) (ltB rfl) (L' := ((b105, .inr (.int, [.int 1, .int 3])) :: (b106, .inr (.int, [.int 0, .int 0])) :: (b107, .inr (.int, [.int 0, .int 1])) :: (b101, oNM (.int 1) (.ref b107) (.ref b106) (.ref b105) (.int 1) .null .null (.int 0)) :: F)) rfl ?_
  refine s_aloadN K d5_30 (pc' := 31) rfl rfl rfl ?_
  refine s_dup K d5_31 (pc' := 32) rfl rfl ?_
  refine s_getf K d5_32 (pc' := 35) rfl (w30 hw) (k := 3) rfl (j := 4) rfl ?_
  refine s_iconst K d5_35 (pc' := 36) rfl (z := (1 : Int32)) rfl ?_
  refine s_iadd K d5_36 (pc' := 37) rfl (z := (2 : Int32)) rfl ?_
  refine s_putf K d5_37 (pc' := 40) rfl (w30 hw) (Or.inl (w31 hw)) (w8 hw) (ty := .int) (by decide) rfl rfl (k := 3) rfl (j := 4) rfl (L' := ((b105, .inr (.int, [.int 1, .int 3])) :: (b106, .inr (.int, [.int 0, .int 0])) :: (b107, .inr (.int, [.int 0, .int 1])) :: (b101, oNM (.int 1) (.ref b107) (.ref b106) (.ref b105) (.int 2) .null .null (.int 0)) :: F)) rfl ?_
  exact s_return K d5_40 (by decide) (by decide) ⟨rfl, rfl⟩
set_option maxRecDepth 65536 in
set_option maxHeartbeats 400000000 in
theorem k5_starts {l : Launch} {Z : State} {a0 : Array Value} (hw : HW Z a0) {n0 : Nat} (F : Wd) (b106 : Addr)  :
    Con l Z n0 (⟨"com/example/evenkeel/evenkeel/LagSeats", "starts", "([II)[I"⟩ : MethodName) prog_60_method_4_code 7 (some (.array .int)) ({ frames := 0, cells := 1, slots := 2, locals := 0 } : Room) [.ref b106, .int 1] ((b106, .inr (.int, [.int 0, .int 0])) :: F) (fun v L' => ∃ b115, v = some (.ref b115) ∧ L' = ((b115, .inr (.int, [.int 0, .int 2])) :: (b106, .inr (.int, [.int 0, .int 0])) :: F)) := by
  refine Con.of (by decide +kernel) (Ls := #[.val (.ref b106), .val (.int 1), .unset, .unset, .unset, .unset, .unset]) (fun m => by first | rfl | (simp [entryFrame, mkF, argsToLocals, Value.category]; done)) ?_
  intro κ K
  refine s_iloadN K d7_0 (pc' := 1) rfl rfl ?_
  refine s_iconst K d7_1 (pc' := 2) rfl (z := (1 : Int32)) rfl ?_
  refine s_iadd K d7_2 (pc' := 3) rfl (z := (2 : Int32)) rfl ?_
  refine s_newarr K d7_3 (pc' := 5) rfl rfl (w18 hw) (n := 2) (by decide) (cap := 2) (by decide) (by decide) (vs0 := [.int 0, .int 0]) rfl (ce' := 1) rfl (sl' := 2) rfl (by decide) (by decide) ?_
  intro b115
  refine s_astoreN K d7_5 (pc' := 6) rfl rfl (Ls' := #[.val (.ref b106), .val (.int 1), .val (.ref b115), .unset, .unset, .unset, .unset]) rfl ?_
  refine s_aloadN K d7_6 (pc' := 7) rfl rfl rfl ?_
  refine s_astoreN K d7_7 (pc' := 8) rfl rfl (Ls' := #[.val (.ref b106), .val (.int 1), .val (.ref b115), .val (.ref b106), .unset, .unset, .unset]) rfl ?_
  refine s_aloadN K d7_8 (pc' := 9) rfl rfl rfl ?_
  refine s_len K d7_9 (pc' := 10) rfl (k := 1) rfl (z := (2 : Int32)) rfl ?_
  refine s_istore K d7_10 (pc' := 12) rfl (Ls' := #[.val (.ref b106), .val (.int 1), .val (.ref b115), .val (.ref b106), .val (.int 2), .unset, .unset]) rfl ?_
  refine s_iconst K d7_12 (pc' := 13) rfl (z := (0 : Int32)) rfl ?_
  refine s_istore K d7_13 (pc' := 15) rfl (Ls' := #[.val (.ref b106), .val (.int 1), .val (.ref b115), .val (.ref b106), .val (.int 2), .val (.int 0), .unset]) rfl ?_
  refine s_iload K d7_15 (pc' := 17) rfl rfl ?_
  refine s_iload K d7_17 (pc' := 19) rfl rfl ?_
  refine s_icN K d7_19 (pc' := 22) rfl rfl ?_
  refine s_aloadN K d7_22 (pc' := 23) rfl rfl rfl ?_
  refine s_iload K d7_23 (pc' := 25) rfl rfl ?_
  refine s_iaload K d7_25 (pc' := 26) rfl (k := 1) rfl (i := 0) (by decide) rfl ?_
  refine s_istore K d7_26 (pc' := 28) rfl (Ls' := #[.val (.ref b106), .val (.int 1), .val (.ref b115), .val (.ref b106), .val (.int 2), .val (.int 0), .val (.int 0)]) rfl ?_
  refine s_aloadN K d7_28 (pc' := 29) rfl rfl rfl ?_
  refine s_iload K d7_29 (pc' := 31) rfl rfl ?_
  refine s_iconst K d7_31 (pc' := 32) rfl (z := (1 : Int32)) rfl ?_
  refine s_iadd K d7_32 (pc' := 33) rfl (z := (1 : Int32)) rfl ?_
  refine s_dup2 K d7_33 (pc' := 34) rfl rfl rfl ?_
  refine s_iaload K d7_34 (pc' := 35) rfl (k := 0) rfl (i := 1) (by decide) rfl ?_
  refine s_iconst K d7_35 (pc' := 36) rfl (z := (1 : Int32)) rfl ?_
  refine s_iadd K d7_36 (pc' := 37) rfl (z := (1 : Int32)) rfl ?_
  refine s_iastore K d7_37 (pc' := 38) rfl (k := 0) rfl (i := 1) (by decide) (ltB rfl) (L' := ((b115, .inr (.int, [.int 0, .int 1])) :: (b106, .inr (.int, [.int 0, .int 0])) :: F)) rfl ?_
  refine s_iinc K d7_38 (pc' := 41) rfl rfl (z := (1 : Int32)) rfl (Ls' := #[.val (.ref b106), .val (.int 1), .val (.ref b115), .val (.ref b106), .val (.int 2), .val (.int 1), .val (.int 0)]) rfl ?_
  refine s_goto K d7_41 (by decide) (pc' := 15) (by decide) ?_
  refine s_iload K d7_15 (pc' := 17) rfl rfl ?_
  refine s_iload K d7_17 (pc' := 19) rfl rfl ?_
  refine s_icN K d7_19 (pc' := 22) rfl rfl ?_
  refine s_aloadN K d7_22 (pc' := 23) rfl rfl rfl ?_
  refine s_iload K d7_23 (pc' := 25) rfl rfl ?_
  refine s_iaload K d7_25 (pc' := 26) rfl (k := 1) rfl (i := 1) (by decide) rfl ?_
  refine s_istore K d7_26 (pc' := 28) rfl (Ls' := #[.val (.ref b106), .val (.int 1), .val (.ref b115), .val (.ref b106), .val (.int 2), .val (.int 1), .val (.int 0)]) rfl ?_
  refine s_aloadN K d7_28 (pc' := 29) rfl rfl rfl ?_
  refine s_iload K d7_29 (pc' := 31) rfl rfl ?_
  refine s_iconst K d7_31 (pc' := 32) rfl (z := (1 : Int32)) rfl ?_
  refine s_iadd K d7_32 (pc' := 33) rfl (z := (1 : Int32)) rfl ?_
  refine s_dup2 K d7_33 (pc' := 34) rfl rfl rfl ?_
  refine s_iaload K d7_34 (pc' := 35) rfl (k := 0) rfl (i := 1) (by decide) rfl ?_
  refine s_iconst K d7_35 (pc' := 36) rfl (z := (1 : Int32)) rfl ?_
  refine s_iadd K d7_36 (pc' := 37) rfl (z := (2 : Int32)) rfl ?_
  refine s_iastore K d7_37 (pc' := 38) rfl (k := 0) rfl (i := 1) (by decide) (ltB rfl) (L' := ((b115, .inr (.int, [.int 0, .int 2])) :: (b106, .inr (.int, [.int 0, .int 0])) :: F)) rfl ?_
  refine s_iinc K d7_38 (pc' := 41) rfl rfl (z := (2 : Int32)) rfl (Ls' := #[.val (.ref b106), .val (.int 1), .val (.ref b115), .val (.ref b106), .val (.int 2), .val (.int 2), .val (.int 0)]) rfl ?_
  refine s_goto K d7_41 (by decide) (pc' := 15) (by decide) ?_
  refine s_iload K d7_15 (pc' := 17) rfl rfl ?_
  refine s_iload K d7_17 (pc' := 19) rfl rfl ?_
  refine s_icY K d7_19 rfl (by decide) (pc' := 44) (by decide) ?_
  refine s_iconst K d7_44 (pc' := 45) rfl (z := (0 : Int32)) rfl ?_
  refine s_istoreN K d7_45 (pc' := 46) rfl (Ls' := #[.val (.ref b106), .val (.int 1), .val (.ref b115), .val (.int 0), .val (.int 2), .val (.int 2), .val (.int 0)]) rfl ?_
  refine s_iloadN K d7_46 (pc' := 47) rfl rfl ?_
  refine s_iloadN K d7_47 (pc' := 48) rfl rfl ?_
  refine s_icN K d7_48 (pc' := 51) rfl rfl ?_
  refine s_aloadN K d7_51 (pc' := 52) rfl rfl rfl ?_
  refine s_iloadN K d7_52 (pc' := 53) rfl rfl ?_
  refine s_iconst K d7_53 (pc' := 54) rfl (z := (1 : Int32)) rfl ?_
  refine s_iadd K d7_54 (pc' := 55) rfl (z := (1 : Int32)) rfl ?_
  refine s_dup2 K d7_55 (pc' := 56) rfl rfl rfl ?_
  refine s_iaload K d7_56 (pc' := 57) rfl (k := 0) rfl (i := 1) (by decide) rfl ?_
  refine s_aloadN K d7_57 (pc' := 58) rfl rfl rfl ?_
  refine s_iloadN K d7_58 (pc' := 59) rfl rfl ?_
  refine s_iaload K d7_59 (pc' := 60) rfl (k := 0) rfl (i := 0) (by decide) rfl ?_
  refine s_iadd K d7_60 (pc' := 61) rfl (z := (2 : Int32)) rfl ?_
  refine s_iastore K d7_61 (pc' := 62) rfl (k := 0) rfl (i := 1) (by decide) (ltB rfl) (L' := ((b115, .inr (.int, [.int 0, .int 2])) :: (b106, .inr (.int, [.int 0, .int 0])) :: F)) rfl ?_
  refine s_iinc K d7_62 (pc' := 65) rfl rfl (z := (1 : Int32)) rfl (Ls' := #[.val (.ref b106), .val (.int 1), .val (.ref b115), .val (.int 1), .val (.int 2), .val (.int 2), .val (.int 0)]) rfl ?_
  refine s_goto K d7_65 (by decide) (pc' := 46) (by decide) ?_
  refine s_iloadN K d7_46 (pc' := 47) rfl rfl ?_
  refine s_iloadN K d7_47 (pc' := 48) rfl rfl ?_
  refine s_icY K d7_48 rfl (by decide) (pc' := 68) (by decide) ?_
  refine s_aloadN K d7_68 (pc' := 69) rfl rfl rfl ?_
  exact s_areturn K d7_69 rfl rfl rfl (by decide) (by decide) ⟨_, rfl, rfl⟩
set_option maxRecDepth 65536 in
set_option maxHeartbeats 400000000 in
theorem k6_starts {l : Launch} {Z : State} {a0 : Array Value} (hw : HW Z a0) {n0 : Nat} (F : Wd) (b107 : Addr)  :
    Con l Z n0 (⟨"com/example/evenkeel/evenkeel/LagSeats", "starts", "([II)[I"⟩ : MethodName) prog_60_method_4_code 7 (some (.array .int)) ({ frames := 0, cells := 1, slots := 3, locals := 0 } : Room) [.ref b107, .int 2] ((b107, .inr (.int, [.int 0, .int 1])) :: F) (fun v L' => ∃ b117, v = some (.ref b117) ∧ L' = ((b117, .inr (.int, [.int 0, .int 1, .int 2])) :: (b107, .inr (.int, [.int 0, .int 1])) :: F)) := by
  refine Con.of (by decide +kernel) (Ls := #[.val (.ref b107), .val (.int 2), .unset, .unset, .unset, .unset, .unset]) (fun m => by first | rfl | (simp [entryFrame, mkF, argsToLocals, Value.category]; done)) ?_
  intro κ K
  refine s_iloadN K d7_0 (pc' := 1) rfl rfl ?_
  refine s_iconst K d7_1 (pc' := 2) rfl (z := (1 : Int32)) rfl ?_
  refine s_iadd K d7_2 (pc' := 3) rfl (z := (3 : Int32)) rfl ?_
  refine s_newarr K d7_3 (pc' := 5) rfl rfl (w18 hw) (n := 3) (by decide) (cap := 3) (by decide) (by decide) (vs0 := [.int 0, .int 0, .int 0]) rfl (ce' := 1) rfl (sl' := 3) rfl (by decide) (by decide) ?_
  intro b117
  refine s_astoreN K d7_5 (pc' := 6) rfl rfl (Ls' := #[.val (.ref b107), .val (.int 2), .val (.ref b117), .unset, .unset, .unset, .unset]) rfl ?_
  refine s_aloadN K d7_6 (pc' := 7) rfl rfl rfl ?_
  refine s_astoreN K d7_7 (pc' := 8) rfl rfl (Ls' := #[.val (.ref b107), .val (.int 2), .val (.ref b117), .val (.ref b107), .unset, .unset, .unset]) rfl ?_
  refine s_aloadN K d7_8 (pc' := 9) rfl rfl rfl ?_
  refine s_len K d7_9 (pc' := 10) rfl (k := 1) rfl (z := (2 : Int32)) rfl ?_
  refine s_istore K d7_10 (pc' := 12) rfl (Ls' := #[.val (.ref b107), .val (.int 2), .val (.ref b117), .val (.ref b107), .val (.int 2), .unset, .unset]) rfl ?_
  refine s_iconst K d7_12 (pc' := 13) rfl (z := (0 : Int32)) rfl ?_
  refine s_istore K d7_13 (pc' := 15) rfl (Ls' := #[.val (.ref b107), .val (.int 2), .val (.ref b117), .val (.ref b107), .val (.int 2), .val (.int 0), .unset]) rfl ?_
  refine s_iload K d7_15 (pc' := 17) rfl rfl ?_
  refine s_iload K d7_17 (pc' := 19) rfl rfl ?_
  refine s_icN K d7_19 (pc' := 22) rfl rfl ?_
  refine s_aloadN K d7_22 (pc' := 23) rfl rfl rfl ?_
  refine s_iload K d7_23 (pc' := 25) rfl rfl ?_
  refine s_iaload K d7_25 (pc' := 26) rfl (k := 1) rfl (i := 0) (by decide) rfl ?_
  refine s_istore K d7_26 (pc' := 28) rfl (Ls' := #[.val (.ref b107), .val (.int 2), .val (.ref b117), .val (.ref b107), .val (.int 2), .val (.int 0), .val (.int 0)]) rfl ?_
  refine s_aloadN K d7_28 (pc' := 29) rfl rfl rfl ?_
  refine s_iload K d7_29 (pc' := 31) rfl rfl ?_
  refine s_iconst K d7_31 (pc' := 32) rfl (z := (1 : Int32)) rfl ?_
  refine s_iadd K d7_32 (pc' := 33) rfl (z := (1 : Int32)) rfl ?_
  refine s_dup2 K d7_33 (pc' := 34) rfl rfl rfl ?_
  refine s_iaload K d7_34 (pc' := 35) rfl (k := 0) rfl (i := 1) (by decide) rfl ?_
  refine s_iconst K d7_35 (pc' := 36) rfl (z := (1 : Int32)) rfl ?_
  refine s_iadd K d7_36 (pc' := 37) rfl (z := (1 : Int32)) rfl ?_
  refine s_iastore K d7_37 (pc' := 38) rfl (k := 0) rfl (i := 1) (by decide) (ltB rfl) (L' := ((b117, .inr (.int, [.int 0, .int 1, .int 0])) :: (b107, .inr (.int, [.int 0, .int 1])) :: F)) rfl ?_
  refine s_iinc K d7_38 (pc' := 41) rfl rfl (z := (1 : Int32)) rfl (Ls' := #[.val (.ref b107), .val (.int 2), .val (.ref b117), .val (.ref b107), .val (.int 2), .val (.int 1), .val (.int 0)]) rfl ?_
  refine s_goto K d7_41 (by decide) (pc' := 15) (by decide) ?_
  refine s_iload K d7_15 (pc' := 17) rfl rfl ?_
  refine s_iload K d7_17 (pc' := 19) rfl rfl ?_
  refine s_icN K d7_19 (pc' := 22) rfl rfl ?_
  refine s_aloadN K d7_22 (pc' := 23) rfl rfl rfl ?_
  refine s_iload K d7_23 (pc' := 25) rfl rfl ?_
  refine s_iaload K d7_25 (pc' := 26) rfl (k := 1) rfl (i := 1) (by decide) rfl ?_
  refine s_istore K d7_26 (pc' := 28) rfl (Ls' := #[.val (.ref b107), .val (.int 2), .val (.ref b117), .val (.ref b107), .val (.int 2), .val (.int 1), .val (.int 1)]) rfl ?_
  refine s_aloadN K d7_28 (pc' := 29) rfl rfl rfl ?_
  refine s_iload K d7_29 (pc' := 31) rfl rfl ?_
  refine s_iconst K d7_31 (pc' := 32) rfl (z := (1 : Int32)) rfl ?_
  refine s_iadd K d7_32 (pc' := 33) rfl (z := (2 : Int32)) rfl ?_
  refine s_dup2 K d7_33 (pc' := 34) rfl rfl rfl ?_
  refine s_iaload K d7_34 (pc' := 35) rfl (k := 0) rfl (i := 2) (by decide) rfl ?_
  refine s_iconst K d7_35 (pc' := 36) rfl (z := (1 : Int32)) rfl ?_
  refine s_iadd K d7_36 (pc' := 37) rfl (z := (1 : Int32)) rfl ?_
  refine s_iastore K d7_37 (pc' := 38) rfl (k := 0) rfl (i := 2) (by decide) (ltB rfl) (L' := ((b117, .inr (.int, [.int 0, .int 1, .int 1])) :: (b107, .inr (.int, [.int 0, .int 1])) :: F)) rfl ?_
  refine s_iinc K d7_38 (pc' := 41) rfl rfl (z := (2 : Int32)) rfl (Ls' := #[.val (.ref b107), .val (.int 2), .val (.ref b117), .val (.ref b107), .val (.int 2), .val (.int 2), .val (.int 1)]) rfl ?_
  refine s_goto K d7_41 (by decide) (pc' := 15) (by decide) ?_
  refine s_iload K d7_15 (pc' := 17) rfl rfl ?_
  refine s_iload K d7_17 (pc' := 19) rfl rfl ?_
  refine s_icY K d7_19 rfl (by decide) (pc' := 44) (by decide) ?_
  refine s_iconst K d7_44 (pc' := 45) rfl (z := (0 : Int32)) rfl ?_
  refine s_istoreN K d7_45 (pc' := 46) rfl (Ls' := #[.val (.ref b107), .val (.int 2), .val (.ref b117), .val (.int 0), .val (.int 2), .val (.int 2), .val (.int 1)]) rfl ?_
  refine s_iloadN K d7_46 (pc' := 47) rfl rfl ?_
  refine s_iloadN K d7_47 (pc' := 48) rfl rfl ?_
  refine s_icN K d7_48 (pc' := 51) rfl rfl ?_
  refine s_aloadN K d7_51 (pc' := 52) rfl rfl rfl ?_
  refine s_iloadN K d7_52 (pc' := 53) rfl rfl ?_
  refine s_iconst K d7_53 (pc' := 54) rfl (z := (1 : Int32)) rfl ?_
  refine s_iadd K d7_54 (pc' := 55) rfl (z := (1 : Int32)) rfl ?_
  refine s_dup2 K d7_55 (pc' := 56) rfl rfl rfl ?_
  refine s_iaload K d7_56 (pc' := 57) rfl (k := 0) rfl (i := 1) (by decide) rfl ?_
  refine s_aloadN K d7_57 (pc' := 58) rfl rfl rfl ?_
  refine s_iloadN K d7_58 (pc' := 59) rfl rfl ?_
  refine s_iaload K d7_59 (pc' := 60) rfl (k := 0) rfl (i := 0) (by decide) rfl ?_
  refine s_iadd K d7_60 (pc' := 61) rfl (z := (1 : Int32)) rfl ?_
  refine s_iastore K d7_61 (pc' := 62) rfl (k := 0) rfl (i := 1) (by decide) (ltB rfl) (L' := ((b117, .inr (.int, [.int 0, .int 1, .int 1])) :: (b107, .inr (.int, [.int 0, .int 1])) :: F)) rfl ?_
  refine s_iinc K d7_62 (pc' := 65) rfl rfl (z := (1 : Int32)) rfl (Ls' := #[.val (.ref b107), .val (.int 2), .val (.ref b117), .val (.int 1), .val (.int 2), .val (.int 2), .val (.int 1)]) rfl ?_
  refine s_goto K d7_65 (by decide) (pc' := 46) (by decide) ?_
  refine s_iloadN K d7_46 (pc' := 47) rfl rfl ?_
  refine s_iloadN K d7_47 (pc' := 48) rfl rfl ?_
  refine s_icN K d7_48 (pc' := 51) rfl rfl ?_
  refine s_aloadN K d7_51 (pc' := 52) rfl rfl rfl ?_
  refine s_iloadN K d7_52 (pc' := 53) rfl rfl ?_
  refine s_iconst K d7_53 (pc' := 54) rfl (z := (1 : Int32)) rfl ?_
  refine s_iadd K d7_54 (pc' := 55) rfl (z := (2 : Int32)) rfl ?_
  refine s_dup2 K d7_55 (pc' := 56) rfl rfl rfl ?_
  refine s_iaload K d7_56 (pc' := 57) rfl (k := 0) rfl (i := 2) (by decide) rfl ?_
  refine s_aloadN K d7_57 (pc' := 58) rfl rfl rfl ?_
  refine s_iloadN K d7_58 (pc' := 59) rfl rfl ?_
  refine s_iaload K d7_59 (pc' := 60) rfl (k := 0) rfl (i := 1) (by decide) rfl ?_
  refine s_iadd K d7_60 (pc' := 61) rfl (z := (2 : Int32)) rfl ?_
  refine s_iastore K d7_61 (pc' := 62) rfl (k := 0) rfl (i := 2) (by decide) (ltB rfl) (L' := ((b117, .inr (.int, [.int 0, .int 1, .int 2])) :: (b107, .inr (.int, [.int 0, .int 1])) :: F)) rfl ?_
  refine s_iinc K d7_62 (pc' := 65) rfl rfl (z := (2 : Int32)) rfl (Ls' := #[.val (.ref b107), .val (.int 2), .val (.ref b117), .val (.int 2), .val (.int 2), .val (.int 2), .val (.int 1)]) rfl ?_
  refine s_goto K d7_65 (by decide) (pc' := 46) (by decide) ?_
  refine s_iloadN K d7_46 (pc' := 47) rfl rfl ?_
  refine s_iloadN K d7_47 (pc' := 48) rfl rfl ?_
  refine s_icY K d7_48 rfl (by decide) (pc' := 68) (by decide) ?_
  refine s_aloadN K d7_68 (pc' := 69) rfl rfl rfl ?_
  exact s_areturn K d7_69 rfl rfl rfl (by decide) (by decide) ⟨_, rfl, rfl⟩
set_option maxRecDepth 65536 in
set_option maxHeartbeats 400000000 in
theorem k7_number {l : Launch} {Z : State} {a0 : Array Value} (hw : HW Z a0) {n0 : Nat} (F : Wd) (b121 b107 b106 b105 b101 : Addr)  :
    Con l Z n0 (⟨"com/example/evenkeel/evenkeel/LagSeats$Naming", "number", "([I)V"⟩ : MethodName) prog_61_method_2_code 3 none ({ frames := 0, cells := 0, slots := 0, locals := 0 } : Room) [.ref b101, .ref b121] ((b121, .inr (.int, [.int 0, .int 0, .int 0])) :: (b107, .inr (.int, [.int 0, .int 1])) :: (b106, .inr (.int, [.int 0, .int 0])) :: (b105, .inr (.int, [.int 1, .int 3])) :: (b101, oNM (.int 1) (.ref b107) (.ref b106) (.ref b105) (.int 2) .null .null (.int 0)) :: F) (fun v L' => v = none ∧ L' = ((b121, .inr (.int, [.int 0, .int 1, .int 4])) :: (b107, .inr (.int, [.int 0, .int 1])) :: (b106, .inr (.int, [.int 0, .int 0])) :: (b105, .inr (.int, [.int 1, .int 3])) :: (b101, oNM (.int 1) (.ref b107) (.ref b106) (.ref b105) (.int 2) .null .null (.int 0)) :: F)) := by
  refine Con.of (by decide +kernel) (Ls := #[.val (.ref b101), .val (.ref b121), .unset]) (fun m => by first | rfl | (simp [entryFrame, mkF, argsToLocals, Value.category]; done)) ?_
  intro κ K
  refine s_iconst K d8_0 (pc' := 1) rfl (z := (0 : Int32)) rfl ?_
  refine s_istoreN K d8_1 (pc' := 2) rfl (Ls' := #[.val (.ref b101), .val (.ref b121), .val (.int 0)]) rfl ?_
  refine s_iloadN K d8_2 (pc' := 3) rfl rfl ?_
  refine s_aloadN K d8_3 (pc' := 4) rfl rfl rfl ?_
  refine s_getf K d8_4 (pc' := 7) rfl (w30 hw) (k := 4) rfl (j := 4) rfl ?_
  refine s_icN K d8_7 (pc' := 10) rfl rfl ?_
  refine s_aloadN K d8_10 (pc' := 11) rfl rfl rfl ?_
  refine s_iloadN K d8_11 (pc' := 12) rfl rfl ?_
  refine s_iconst K d8_12 (pc' := 13) rfl (z := (1 : Int32)) rfl ?_
  refine s_iadd K d8_13 (pc' := 14) rfl (z := (1 : Int32)) rfl ?_
  refine s_aloadN K d8_14 (pc' := 15) rfl rfl rfl ?_
  refine s_iloadN K d8_15 (pc' := 16) rfl rfl ?_
  refine s_iaload K d8_16 (pc' := 17) rfl (k := 0) rfl (i := 0) (by decide) rfl ?_
  refine s_aloadN K d8_17 (pc' := 18) rfl rfl rfl ?_
  refine s_getf K d8_18 (pc' := 21) rfl (w23 hw) (k := 4) rfl (j := 3) rfl ?_
  refine s_iloadN K d8_21 (pc' := 22) rfl rfl ?_
  refine s_iaload K d8_22 (pc' := 23) rfl (k := 3) rfl (i := 0) (by decide) rfl ?_
  refine s_iadd K d8_23 (pc' := 24) rfl (z := (1 : Int32)) rfl ?_
  refine s_iastore K d8_24 (pc' := 25) rfl (k := 0) rfl (i := 1) (by decide) (ltB rfl) (L' := ((b121, .inr (.int, [.int 0, .int 1, .int 0])) :: (b107, .inr (.int, [.int 0, .int 1])) :: (b106, .inr (.int, [.int 0, .int 0])) :: (b105, .inr (.int, [.int 1, .int 3])) :: (b101, oNM (.int 1) (.ref b107) (.ref b106) (.ref b105) (.int 2) .null .null (.int 0)) :: F)) rfl ?_
  refine s_iinc K d8_25 (pc' := 28) rfl rfl (z := (1 : Int32)) rfl (Ls' := #[.val (.ref b101), .val (.ref b121), .val (.int 1)]) rfl ?_
  refine s_goto K d8_28 (by decide) (pc' := 2) (by decide) ?_
  refine s_iloadN K d8_2 (pc' := 3) rfl rfl ?_
  refine s_aloadN K d8_3 (pc' := 4) rfl rfl rfl ?_
  refine s_getf K d8_4 (pc' := 7) rfl (w30 hw) (k := 4) rfl (j := 4) rfl ?_
  refine s_icN K d8_7 (pc' := 10) rfl rfl ?_
  refine s_aloadN K d8_10 (pc' := 11) rfl rfl rfl ?_
  refine s_iloadN K d8_11 (pc' := 12) rfl rfl ?_
  refine s_iconst K d8_12 (pc' := 13) rfl (z := (1 : Int32)) rfl ?_
  refine s_iadd K d8_13 (pc' := 14) rfl (z := (2 : Int32)) rfl ?_
  refine s_aloadN K d8_14 (pc' := 15) rfl rfl rfl ?_
  refine s_iloadN K d8_15 (pc' := 16) rfl rfl ?_
  refine s_iaload K d8_16 (pc' := 17) rfl (k := 0) rfl (i := 1) (by decide) rfl ?_
  refine s_aloadN K d8_17 (pc' := 18) rfl rfl rfl ?_
  refine s_getf K d8_18 (pc' := 21) rfl (w23 hw) (k := 4) rfl (j := 3) rfl ?_
  refine s_iloadN K d8_21 (pc' := 22) rfl rfl ?_
  refine s_iaload K d8_22 (pc' := 23) rfl (k := 3) rfl (i := 1) (by decide) rfl ?_
  refine s_iadd K d8_23 (pc' := 24) rfl (z := (4 : Int32)) rfl ?_
  refine s_iastore K d8_24 (pc' := 25) rfl (k := 0) rfl (i := 2) (by decide) (ltB rfl) (L' := ((b121, .inr (.int, [.int 0, .int 1, .int 4])) :: (b107, .inr (.int, [.int 0, .int 1])) :: (b106, .inr (.int, [.int 0, .int 0])) :: (b105, .inr (.int, [.int 1, .int 3])) :: (b101, oNM (.int 1) (.ref b107) (.ref b106) (.ref b105) (.int 2) .null .null (.int 0)) :: F)) rfl ?_
  refine s_iinc K d8_25 (pc' := 28) rfl rfl (z := (2 : Int32)) rfl (Ls' := #[.val (.ref b101), .val (.ref b121), .val (.int 2)]) rfl ?_
  refine s_goto K d8_28 (by decide) (pc' := 2) (by decide) ?_
  refine s_iloadN K d8_2 (pc' := 3) rfl rfl ?_
  refine s_aloadN K d8_3 (pc' := 4) rfl rfl rfl ?_
  refine s_getf K d8_4 (pc' := 7) rfl (w30 hw) (k := 4) rfl (j := 4) rfl ?_
  refine s_icY K d8_7 rfl (by decide) (pc' := 31) (by decide) ?_
  exact s_return K d8_31 (by decide) (by decide) ⟨rfl, rfl⟩
set_option maxRecDepth 65536 in
set_option maxHeartbeats 400000000 in
theorem k9_listing {l : Launch} {Z : State} {a0 : Array Value} (hw : HW Z a0) {n0 : Nat} (F : Wd) (b107 b106 b105 b101 : Addr)  :
    Con l Z n0 (⟨"com/example/evenkeel/evenkeel/LagSeats$Naming", "listing", "()[I"⟩ : MethodName) prog_61_method_8_code 3 (some (.array .int)) ({ frames := 0, cells := 1, slots := 1, locals := 0 } : Room) [.ref b101] ((b107, .inr (.int, [.int 0, .int 1])) :: (b106, .inr (.int, [.int 0, .int 0])) :: (b105, .inr (.int, [.int 1, .int 3])) :: (b101, oNM (.int 1) (.ref b107) (.ref b106) (.ref b105) (.int 2) .null .null (.int 0)) :: F) (fun v L' => ∃ b122, v = some (.ref b122) ∧ L' = ((b122, .inr (.int, [.int 0])) :: (b107, .inr (.int, [.int 0, .int 1])) :: (b106, .inr (.int, [.int 0, .int 0])) :: (b105, .inr (.int, [.int 1, .int 3])) :: (b101, oNM (.int 1) (.ref b107) (.ref b106) (.ref b105) (.int 2) .null .null (.int 0)) :: F)) := by
  refine Con.of (by decide +kernel) (Ls := #[.val (.ref b101), .unset, .unset]) (fun m => by first | rfl | (simp [entryFrame, mkF, argsToLocals, Value.category]; done)) ?_
  intro κ K
  refine s_aloadN K d10_0 (pc' := 1) rfl rfl rfl ?_
  refine s_getf K d10_1 (pc' := 4) rfl (w16 hw) (k := 3) rfl (j := 0) rfl ?_
  refine s_newarr K d10_4 (pc' := 6) rfl rfl (w18 hw) (n := 1) (by decide) (cap := 1) (by decide) (by decide) (vs0 := [.int 0]) rfl (ce' := 1) rfl (sl' := 1) rfl (by decide) (by decide) ?_
  intro b122
  refine s_astoreN K d10_6 (pc' := 7) rfl rfl (Ls' := #[.val (.ref b101), .val (.ref b122), .unset]) rfl ?_
  refine s_iconst K d10_7 (pc' := 8) rfl (z := (0 : Int32)) rfl ?_
  refine s_istoreN K d10_8 (pc' := 9) rfl (Ls' := #[.val (.ref b101), .val (.ref b122), .val (.int 0)]) rfl ?_
  refine s_iloadN K d10_9 (pc' := 10) rfl rfl ?_
  refine s_aloadN K d10_10 (pc' := 11) rfl rfl rfl ?_
  refine s_getf K d10_11 (pc' := 14) rfl (w16 hw) (k := 4) rfl (j := 0) rfl ?_
  refine s_icN K d10_14 (pc' := 17) rfl rfl ?_
  refine s_aloadN K d10_17 (pc' := 18) rfl rfl rfl ?_
  refine s_iloadN K d10_18 (pc' := 19) rfl rfl ?_
  refine s_iloadN K d10_19 (pc' := 20) rfl rfl ?_
  refine s_iastore K d10_20 (pc' := 21) rfl (k := 0) rfl (i := 0) (by decide) (ltB rfl) (L' := ((b122, .inr (.int, [.int 0])) :: (b107, .inr (.int, [.int 0, .int 1])) :: (b106, .inr (.int, [.int 0, .int 0])) :: (b105, .inr (.int, [.int 1, .int 3])) :: (b101, oNM (.int 1) (.ref b107) (.ref b106) (.ref b105) (.int 2) .null .null (.int 0)) :: F)) rfl ?_
  refine s_iinc K d10_21 (pc' := 24) rfl rfl (z := (1 : Int32)) rfl (Ls' := #[.val (.ref b101), .val (.ref b122), .val (.int 1)]) rfl ?_
  refine s_goto K d10_24 (by decide) (pc' := 9) (by decide) ?_
  refine s_iloadN K d10_9 (pc' := 10) rfl rfl ?_
  refine s_aloadN K d10_10 (pc' := 11) rfl rfl rfl ?_
  refine s_getf K d10_11 (pc' := 14) rfl (w16 hw) (k := 4) rfl (j := 0) rfl ?_
  refine s_icY K d10_14 rfl (by decide) (pc' := 27) (by decide) ?_
  refine s_aloadN K d10_27 (pc' := 28) rfl rfl rfl ?_
  refine s_getf K d10_28 (pc' := 31) rfl (w112 hw) (k := 4) rfl (j := 5) rfl ?_
  refine s_nullY K d10_31 (by decide) (pc' := 49) (by decide) ?_
  refine s_aloadN K d10_49 (pc' := 50) rfl rfl rfl ?_
  exact s_areturn K d10_50 rfl rfl rfl (by decide) (by decide) ⟨_, rfl, rfl⟩
set_option maxRecDepth 65536 in
set_option maxHeartbeats 400000000 in
theorem k11_min {l : Launch} {Z : State} {a0 : Array Value} (hw : HW Z a0) {n0 : Nat} (F : Wd)  :
    Con l Z n0 (⟨"java/lang/Math", "min", "(II)I"⟩ : MethodName) jdk_29_method_69_code 2 (some .int) ({ frames := 0, cells := 0, slots := 0, locals := 0 } : Room) [.int 3, .int 2] (F) (fun v L' => v = some (.int 2) ∧ L' = (F)) := by
  refine Con.of (by decide +kernel) (Ls := #[.val (.int 3), .val (.int 2)]) (fun m => by first | rfl | (simp [entryFrame, mkF, argsToLocals, Value.category]; done)) ?_
  intro κ K
  refine s_iloadN K d12_0 (pc' := 1) rfl rfl ?_
  refine s_iloadN K d12_1 (pc' := 2) rfl rfl ?_
  refine s_icY K d12_2 rfl (by decide) (pc' := 9) (by decide) ?_
  refine s_iloadN K d12_9 (pc' := 10) rfl rfl ?_
  exact s_ireturn K d12_10 (by decide) (by decide) ⟨rfl, rfl⟩
set_option maxRecDepth 65536 in
set_option maxHeartbeats 400000000 in
theorem k10_copyOf {l : Launch} {Z : State} {a0 : Array Value} (hw : HW Z a0) {n0 : Nat} (F : Wd) (b118 : Addr)  :
    Con l Z n0 (⟨"java/util/Arrays", "copyOf", "([II)[I"⟩ : MethodName) jdk_65_method_123_code 3 (some (.array .int)) ({ frames := 1, cells := 1, slots := 2, locals := 18 } : Room) [.ref b118, .int 2] ((b118, .inr (.int, [.int 0, .int 1, .int 2])) :: F) (fun v L' => ∃ b124, v = some (.ref b124) ∧ L' = ((b124, .inr (.int, [.int 0, .int 1])) :: (b118, .inr (.int, [.int 0, .int 1, .int 2])) :: F)) := by
  refine Con.of (by decide +kernel) (Ls := #[.val (.ref b118), .val (.int 2), .unset]) (fun m => by first | rfl | (simp [entryFrame, mkF, argsToLocals, Value.category]; done)) ?_
  intro κ K
  refine s_iloadN K d11_0 (pc' := 1) rfl rfl ?_
  refine s_aloadN K d11_1 (pc' := 2) rfl rfl rfl ?_
  refine s_len K d11_2 (pc' := 3) rfl (k := 0) rfl (z := (3 : Int32)) rfl ?_
  refine s_icY K d11_3 rfl (by decide) (pc' := 14) (by decide) ?_
  refine s_iloadN K d11_14 (pc' := 15) rfl rfl ?_
  refine s_newarr K d11_15 (pc' := 17) rfl rfl (w18 hw) (n := 2) (by decide) (cap := 2) (by decide) (by decide) (vs0 := [.int 0, .int 0]) rfl (ce' := 1) rfl (sl' := 2) rfl (by decide) (by decide) ?_
  intro b124
  refine s_astoreN K d11_17 (pc' := 18) rfl rfl (Ls' := #[.val (.ref b118), .val (.int 2), .val (.ref b124)]) rfl ?_
  refine s_aloadN K d11_18 (pc' := 19) rfl rfl rfl ?_
  refine s_iconst K d11_19 (pc' := 20) rfl (z := (0 : Int32)) rfl ?_
  refine s_aloadN K d11_20 (pc' := 21) rfl rfl rfl ?_
  refine s_iconst K d11_21 (pc' := 22) rfl (z := (0 : Int32)) rfl ?_
  refine s_aloadN K d11_22 (pc' := 23) rfl rfl rfl ?_
  refine s_len K d11_23 (pc' := 24) rfl (k := 1) rfl (z := (3 : Int32)) rfl ?_
  refine s_iloadN K d11_24 (pc' := 25) rfl rfl ?_
  refine s_static K d11_25 (pc' := 28) rfl (as := [.int 3, .int 2]) (k11_min hw _ ) (w120 hw) (w121 hw) (w2 hw) (w122 hw) (by decide) pd_5 rfl (rest := [.int 0, .ref b124, .int 0, .ref b118]) rfl rfl (W := 4) (Nat.le_of_eq rfl) (by decide) (by decide) (ce' := 1) rfl (sl' := 2) rfl (by decide) (by decide) ?_
  rintro v _ ⟨rfl, rfl⟩
  show Go l Z n0 _ _ κ 1 2 ((b124, .inr (.int, [.int 0, .int 0])) :: (b118, .inr (.int, [.int 0, .int 1, .int 2])) :: F) 28 #[.val (.ref b118), .val (.int 2), .val (.ref b124)] [.int 2, .int 0, .ref b124, .int 0, .ref b118]
  refine s_copy K d11_28 (pc' := 31) rfl (w123 hw) (w126 hw) (w124 hw) (w125 hw) (ka := 1) rfl (kb := 0) rfl rfl (i := 0) (by decide) (j := 0) (by decide) (n := 2) (by decide) (Nat.le_of_ble_eq_true rfl) (Nat.le_of_ble_eq_true rfl) (vd' := [.int 0, .int 1]) rfl (L' := ((b124, .inr (.int, [.int 0, .int 1])) :: (b118, .inr (.int, [.int 0, .int 1, .int 2])) :: F)) rfl rfl (by decide) (W := 0) (Nat.le_of_eq rfl) (by decide) ?_
  refine s_aloadN K d11_31 (pc' := 32) rfl rfl rfl ?_
  exact s_areturn K d11_32 rfl rfl rfl (by decide) (by decide) ⟨_, rfl, rfl⟩
set_option maxRecDepth 65536 in
set_option maxHeartbeats 400000000 in
theorem k8_list {l : Launch} {Z : State} {a0 : Array Value} (hw : HW Z a0) {n0 : Nat} (F : Wd) (b107 b106 b105 b101 b120 b119 b118 b116 : Addr)  :
    Con l Z n0 (⟨"com/example/evenkeel/evenkeel/LagSeats$Naming", "list", "([I[I[I[I)V"⟩ : MethodName) prog_61_method_7_code 11 none ({ frames := 2, cells := 2, slots := 3, locals := 32 } : Room) [.ref b101, .ref b116, .ref b118, .ref b119, .ref b120] ((b107, .inr (.int, [.int 0, .int 1])) :: (b106, .inr (.int, [.int 0, .int 0])) :: (b105, .inr (.int, [.int 1, .int 3])) :: (b101, oNM (.int 1) (.ref b107) (.ref b106) (.ref b105) (.int 2) .null .null (.int 0)) :: (b120, .inr (.int, [.int 0, .int 0])) :: (b119, .inr (.int, [.int 0, .int 0])) :: (b118, .inr (.int, [.int 0, .int 1, .int 2])) :: (b116, .inr (.int, [.int 0, .int 2])) :: F) (fun v L' => ∃ b125 b123, v = none ∧ L' = ((b125, .inr (.int, [.int 1, .int 2])) :: (b123, .inr (.int, [.int 0])) :: (b107, .inr (.int, [.int 0, .int 1])) :: (b106, .inr (.int, [.int 0, .int 0])) :: (b105, .inr (.int, [.int 1, .int 3])) :: (b101, oNM (.int 1) (.ref b107) (.ref b106) (.ref b105) (.int 2) .null .null (.int 0)) :: (b120, .inr (.int, [.int 0, .int 0])) :: (b119, .inr (.int, [.int 0, .int 1])) :: (b118, .inr (.int, [.int 0, .int 1, .int 2])) :: (b116, .inr (.int, [.int 0, .int 2])) :: F)) := by
  refine Con.of (by decide +kernel) (Ls := #[.val (.ref b101), .val (.ref b116), .val (.ref b118), .val (.ref b119), .val (.ref b120), .unset, .unset, .unset, .unset, .unset, .unset]) (fun m => by first | rfl | (simp [entryFrame, mkF, argsToLocals, Value.category]; done)) ?_
  intro κ K
  refine s_aloadN K d9_0 (pc' := 1) rfl rfl rfl ?_
  refine s_private K d9_1 (pc' := 4) rfl (k := 3) (a := b101) rfl (as := []) (k9_listing hw _ b107 b106 b105 b101) (w108 hw) (w28 hw) rfl (w109 hw) (w110 hw) (w9 hw) (w111 hw) (by decide) pd_4 rfl (rest := []) rfl rfl (W := 0) (Nat.le_of_eq rfl) (by decide) (by decide) (ce' := 1) rfl (sl' := 1) rfl (by decide) (by decide) ?_
  rintro v _ ⟨b123, rfl, rfl⟩
  show Go l Z n0 _ _ κ 1 1 ((b123, .inr (.int, [.int 0])) :: (b107, .inr (.int, [.int 0, .int 1])) :: (b106, .inr (.int, [.int 0, .int 0])) :: (b105, .inr (.int, [.int 1, .int 3])) :: (b101, oNM (.int 1) (.ref b107) (.ref b106) (.ref b105) (.int 2) .null .null (.int 0)) :: (b120, .inr (.int, [.int 0, .int 0])) :: (b119, .inr (.int, [.int 0, .int 0])) :: (b118, .inr (.int, [.int 0, .int 1, .int 2])) :: (b116, .inr (.int, [.int 0, .int 2])) :: F) 4 #[.val (.ref b101), .val (.ref b116), .val (.ref b118), .val (.ref b119), .val (.ref b120), .unset, .unset, .unset, .unset, .unset, .unset] [.ref b123]
  refine s_astore K d9_4 (pc' := 6) rfl rfl (Ls' := #[.val (.ref b101), .val (.ref b116), .val (.ref b118), .val (.ref b119), .val (.ref b120), .val (.ref b123), .unset, .unset, .unset, .unset, .unset]) rfl ?_
  refine s_aloadN K d9_6 (pc' := 7) rfl rfl rfl ?_
  refine s_aloadN K d9_7 (pc' := 8) rfl rfl rfl ?_
  refine s_getf K d9_8 (pc' := 11) rfl (w112 hw) (k := 4) rfl (j := 5) rfl ?_
  refine s_nullY K d9_11 (by decide) (pc' := 22) (by decide) ?_
  refine s_null K d9_22 (pc' := 23) rfl  ?_
  refine s_putf K d9_23 (pc' := 26) rfl (w114 hw) (Or.inl (w115 hw)) (w8 hw) (ty := (.array .int)) (by decide) rfl rfl (k := 4) rfl (j := 6) rfl (L' := ((b123, .inr (.int, [.int 0])) :: (b107, .inr (.int, [.int 0, .int 1])) :: (b106, .inr (.int, [.int 0, .int 0])) :: (b105, .inr (.int, [.int 1, .int 3])) :: (b101, oNM (.int 1) (.ref b107) (.ref b106) (.ref b105) (.int 2) .null .null (.int 0)) :: (b120, .inr (.int, [.int 0, .int 0])) :: (b119, .inr (.int, [.int 0, .int 0])) :: (b118, .inr (.int, [.int 0, .int 1, .int 2])) :: (b116, .inr (.int, [.int 0, .int 2])) :: F)) rfl ?_
  refine s_aloadN K d9_26 (pc' := 27) rfl rfl rfl ?_
  refine s_aloadN K d9_27 (pc' := 28) rfl rfl rfl ?_
  refine s_len K d9_28 (pc' := 29) rfl (k := 7) rfl (z := (3 : Int32)) rfl ?_
  refine s_iconst K d9_29 (pc' := 30) rfl (z := (1 : Int32)) rfl ?_
  refine s_isub K d9_30 (pc' := 31) rfl (z := (2 : Int32)) rfl ?_
  refine s_front (k := 7) rfl (L' := ((b118, .inr (.int, [.int 0, .int 1, .int 2])) :: (b123, .inr (.int, [.int 0])) :: (b107, .inr (.int, [.int 0, .int 1])) :: (b106, .inr (.int, [.int 0, .int 0])) :: (b105, .inr (.int, [.int 1, .int 3])) :: (b101, oNM (.int 1) (.ref b107) (.ref b106) (.ref b105) (.int 2) .null .null (.int 0)) :: (b120, .inr (.int, [.int 0, .int 0])) :: (b119, .inr (.int, [.int 0, .int 0])) :: (b116, .inr (.int, [.int 0, .int 2])) :: F)) rfl ?_
  refine s_static K d9_31 (pc' := 34) rfl (as := [.ref b118, .int 2]) (k10_copyOf hw _ b118) (w116 hw) (w117 hw) (w118 hw) (w119 hw) (by decide) pd_2 rfl (rest := []) rfl rfl (W := 0) (Nat.le_of_eq rfl) (by decide) (by decide) (ce' := 2) rfl (sl' := 3) rfl (by decide) (by decide) ?_
  rintro v _ ⟨b125, rfl, rfl⟩
  show Go l Z n0 _ _ κ 2 3 ((b125, .inr (.int, [.int 0, .int 1])) :: (b118, .inr (.int, [.int 0, .int 1, .int 2])) :: (b123, .inr (.int, [.int 0])) :: (b107, .inr (.int, [.int 0, .int 1])) :: (b106, .inr (.int, [.int 0, .int 0])) :: (b105, .inr (.int, [.int 1, .int 3])) :: (b101, oNM (.int 1) (.ref b107) (.ref b106) (.ref b105) (.int 2) .null .null (.int 0)) :: (b120, .inr (.int, [.int 0, .int 0])) :: (b119, .inr (.int, [.int 0, .int 0])) :: (b116, .inr (.int, [.int 0, .int 2])) :: F) 34 #[.val (.ref b101), .val (.ref b116), .val (.ref b118), .val (.ref b119), .val (.ref b120), .val (.ref b123), .unset, .unset, .unset, .unset, .unset] [.ref b125]
  refine s_astore K d9_34 (pc' := 36) rfl rfl (Ls' := #[.val (.ref b101), .val (.ref b116), .val (.ref b118), .val (.ref b119), .val (.ref b120), .val (.ref b123), .val (.ref b125), .unset, .unset, .unset, .unset]) rfl ?_
  refine s_iconst K d9_36 (pc' := 37) rfl (z := (0 : Int32)) rfl ?_
  refine s_istore K d9_37 (pc' := 39) rfl (Ls' := #[.val (.ref b101), .val (.ref b116), .val (.ref b118), .val (.ref b119), .val (.ref b120), .val (.ref b123), .val (.ref b125), .val (.int 0), .unset, .unset, .unset]) rfl ?_
  refine s_iload K d9_39 (pc' := 41) rfl rfl ?_
  refine s_aload K d9_41 (pc' := 43) rfl rfl rfl ?_
  refine s_len K d9_43 (pc' := 44) rfl (k := 2) rfl (z := (1 : Int32)) rfl ?_
  refine s_icN K d9_44 (pc' := 47) rfl rfl ?_
  refine s_aload K d9_47 (pc' := 49) rfl rfl rfl ?_
  refine s_iload K d9_49 (pc' := 51) rfl rfl ?_
  refine s_iaload K d9_51 (pc' := 52) rfl (k := 2) rfl (i := 0) (by decide) rfl ?_
  refine s_istore K d9_52 (pc' := 54) rfl (Ls' := #[.val (.ref b101), .val (.ref b116), .val (.ref b118), .val (.ref b119), .val (.ref b120), .val (.ref b123), .val (.ref b125), .val (.int 0), .val (.int 0), .unset, .unset]) rfl ?_
  refine s_aloadN K d9_54 (pc' := 55) rfl rfl rfl ?_
  refine s_getf K d9_55 (pc' := 58) rfl (w114 hw) (k := 6) rfl (j := 6) rfl ?_
  refine s_nullY K d9_58 (by decide) (pc' := 75) (by decide) ?_
  refine s_aloadN K d9_75 (pc' := 76) rfl rfl rfl ?_
  refine s_iload K d9_76 (pc' := 78) rfl rfl ?_
  refine s_iaload K d9_78 (pc' := 79) rfl (k := 9) rfl (i := 0) (by decide) rfl ?_
  refine s_istore K d9_79 (pc' := 81) rfl (Ls' := #[.val (.ref b101), .val (.ref b116), .val (.ref b118), .val (.ref b119), .val (.ref b120), .val (.ref b123), .val (.ref b125), .val (.int 0), .val (.int 0), .val (.int 0), .unset]) rfl ?_
  refine s_iload K d9_81 (pc' := 83) rfl rfl ?_
  refine s_aloadN K d9_83 (pc' := 84) rfl rfl rfl ?_
  refine s_iload K d9_84 (pc' := 86) rfl rfl ?_
  refine s_iconst K d9_86 (pc' := 87) rfl (z := (1 : Int32)) rfl ?_
  refine s_iadd K d9_87 (pc' := 88) rfl (z := (1 : Int32)) rfl ?_
  refine s_iaload K d9_88 (pc' := 89) rfl (k := 9) rfl (i := 1) (by decide) rfl ?_
  refine s_icN K d9_89 (pc' := 92) rfl rfl ?_
  refine s_aload K d9_92 (pc' := 94) rfl rfl rfl ?_
  refine s_aloadN K d9_94 (pc' := 95) rfl rfl rfl ?_
  refine s_getf K d9_95 (pc' := 98) rfl (w19 hw) (k := 6) rfl (j := 1) rfl ?_
  refine s_iload K d9_98 (pc' := 100) rfl rfl ?_
  refine s_iaload K d9_100 (pc' := 101) rfl (k := 3) rfl (i := 0) (by decide) rfl ?_
  refine s_dup2 K d9_101 (pc' := 102) rfl rfl rfl ?_
  refine s_iaload K d9_102 (pc' := 103) rfl (k := 0) rfl (i := 0) (by decide) rfl ?_
  refine s_dupx2 K d9_103 (pc' := 104) rfl rfl rfl rfl ?_
  refine s_iconst K d9_104 (pc' := 105) rfl (z := (1 : Int32)) rfl ?_
  refine s_iadd K d9_105 (pc' := 106) rfl (z := (1 : Int32)) rfl ?_
  refine s_iastore K d9_106 (pc' := 107) rfl (k := 0) rfl (i := 0) (by decide) (ltB rfl) (L' := ((b125, .inr (.int, [.int 1, .int 1])) :: (b118, .inr (.int, [.int 0, .int 1, .int 2])) :: (b123, .inr (.int, [.int 0])) :: (b107, .inr (.int, [.int 0, .int 1])) :: (b106, .inr (.int, [.int 0, .int 0])) :: (b105, .inr (.int, [.int 1, .int 3])) :: (b101, oNM (.int 1) (.ref b107) (.ref b106) (.ref b105) (.int 2) .null .null (.int 0)) :: (b120, .inr (.int, [.int 0, .int 0])) :: (b119, .inr (.int, [.int 0, .int 0])) :: (b116, .inr (.int, [.int 0, .int 2])) :: F)) rfl ?_
  refine s_istore K d9_107 (pc' := 109) rfl (Ls' := #[.val (.ref b101), .val (.ref b116), .val (.ref b118), .val (.ref b119), .val (.ref b120), .val (.ref b123), .val (.ref b125), .val (.int 0), .val (.int 0), .val (.int 0), .val (.int 0)]) rfl ?_
  refine s_aloadN K d9_109 (pc' := 110) rfl rfl rfl ?_
  refine s_iload K d9_110 (pc' := 112) rfl rfl ?_
  refine s_iload K d9_112 (pc' := 114) rfl rfl ?_
  refine s_iastore K d9_114 (pc' := 115) rfl (k := 8) rfl (i := 0) (by decide) (ltB rfl) (L' := ((b125, .inr (.int, [.int 1, .int 1])) :: (b118, .inr (.int, [.int 0, .int 1, .int 2])) :: (b123, .inr (.int, [.int 0])) :: (b107, .inr (.int, [.int 0, .int 1])) :: (b106, .inr (.int, [.int 0, .int 0])) :: (b105, .inr (.int, [.int 1, .int 3])) :: (b101, oNM (.int 1) (.ref b107) (.ref b106) (.ref b105) (.int 2) .null .null (.int 0)) :: (b120, .inr (.int, [.int 0, .int 0])) :: (b119, .inr (.int, [.int 0, .int 0])) :: (b116, .inr (.int, [.int 0, .int 2])) :: F)) rfl ?_
  refine s_aload K d9_115 (pc' := 117) rfl rfl rfl ?_
  refine s_iload K d9_117 (pc' := 119) rfl rfl ?_
  refine s_iload K d9_119 (pc' := 121) rfl rfl ?_
  refine s_iastore K d9_121 (pc' := 122) rfl (k := 7) rfl (i := 0) (by decide) (ltB rfl) (L' := ((b125, .inr (.int, [.int 1, .int 1])) :: (b118, .inr (.int, [.int 0, .int 1, .int 2])) :: (b123, .inr (.int, [.int 0])) :: (b107, .inr (.int, [.int 0, .int 1])) :: (b106, .inr (.int, [.int 0, .int 0])) :: (b105, .inr (.int, [.int 1, .int 3])) :: (b101, oNM (.int 1) (.ref b107) (.ref b106) (.ref b105) (.int 2) .null .null (.int 0)) :: (b120, .inr (.int, [.int 0, .int 0])) :: (b119, .inr (.int, [.int 0, .int 0])) :: (b116, .inr (.int, [.int 0, .int 2])) :: F)) rfl ?_
  refine s_iinc K d9_122 (pc' := 125) rfl rfl (z := (1 : Int32)) rfl (Ls' := #[.val (.ref b101), .val (.ref b116), .val (.ref b118), .val (.ref b119), .val (.ref b120), .val (.ref b123), .val (.ref b125), .val (.int 0), .val (.int 0), .val (.int 1), .val (.int 0)]) rfl ?_
  refine s_goto K d9_125 (by decide) (pc' := 81) (by decide) ?_
  refine s_iload K d9_81 (pc' := 83) rfl rfl ?_
  refine s_aloadN K d9_83 (pc' := 84) rfl rfl rfl ?_
  refine s_iload K d9_84 (pc' := 86) rfl rfl ?_
  refine s_iconst K d9_86 (pc' := 87) rfl (z := (1 : Int32)) rfl ?_
  refine s_iadd K d9_87 (pc' := 88) rfl (z := (1 : Int32)) rfl ?_
  refine s_iaload K d9_88 (pc' := 89) rfl (k := 9) rfl (i := 1) (by decide) rfl ?_
  refine s_icN K d9_89 (pc' := 92) rfl rfl ?_
  refine s_aload K d9_92 (pc' := 94) rfl rfl rfl ?_
  refine s_aloadN K d9_94 (pc' := 95) rfl rfl rfl ?_
  refine s_getf K d9_95 (pc' := 98) rfl (w19 hw) (k := 6) rfl (j := 1) rfl ?_
  refine s_iload K d9_98 (pc' := 100) rfl rfl ?_
  refine s_iaload K d9_100 (pc' := 101) rfl (k := 3) rfl (i := 1) (by decide) rfl ?_
  refine s_dup2 K d9_101 (pc' := 102) rfl rfl rfl ?_
  refine s_iaload K d9_102 (pc' := 103) rfl (k := 0) rfl (i := 1) (by decide) rfl ?_
  refine s_dupx2 K d9_103 (pc' := 104) rfl rfl rfl rfl ?_
  refine s_iconst K d9_104 (pc' := 105) rfl (z := (1 : Int32)) rfl ?_
  refine s_iadd K d9_105 (pc' := 106) rfl (z := (2 : Int32)) rfl ?_
  refine s_iastore K d9_106 (pc' := 107) rfl (k := 0) rfl (i := 1) (by decide) (ltB rfl) (L' := ((b125, .inr (.int, [.int 1, .int 2])) :: (b118, .inr (.int, [.int 0, .int 1, .int 2])) :: (b123, .inr (.int, [.int 0])) :: (b107, .inr (.int, [.int 0, .int 1])) :: (b106, .inr (.int, [.int 0, .int 0])) :: (b105, .inr (.int, [.int 1, .int 3])) :: (b101, oNM (.int 1) (.ref b107) (.ref b106) (.ref b105) (.int 2) .null .null (.int 0)) :: (b120, .inr (.int, [.int 0, .int 0])) :: (b119, .inr (.int, [.int 0, .int 0])) :: (b116, .inr (.int, [.int 0, .int 2])) :: F)) rfl ?_
  refine s_istore K d9_107 (pc' := 109) rfl (Ls' := #[.val (.ref b101), .val (.ref b116), .val (.ref b118), .val (.ref b119), .val (.ref b120), .val (.ref b123), .val (.ref b125), .val (.int 0), .val (.int 0), .val (.int 1), .val (.int 1)]) rfl ?_
  refine s_aloadN K d9_109 (pc' := 110) rfl rfl rfl ?_
  refine s_iload K d9_110 (pc' := 112) rfl rfl ?_
  refine s_iload K d9_112 (pc' := 114) rfl rfl ?_
  refine s_iastore K d9_114 (pc' := 115) rfl (k := 8) rfl (i := 1) (by decide) (ltB rfl) (L' := ((b125, .inr (.int, [.int 1, .int 2])) :: (b118, .inr (.int, [.int 0, .int 1, .int 2])) :: (b123, .inr (.int, [.int 0])) :: (b107, .inr (.int, [.int 0, .int 1])) :: (b106, .inr (.int, [.int 0, .int 0])) :: (b105, .inr (.int, [.int 1, .int 3])) :: (b101, oNM (.int 1) (.ref b107) (.ref b106) (.ref b105) (.int 2) .null .null (.int 0)) :: (b120, .inr (.int, [.int 0, .int 0])) :: (b119, .inr (.int, [.int 0, .int 1])) :: (b116, .inr (.int, [.int 0, .int 2])) :: F)) rfl ?_
  refine s_aload K d9_115 (pc' := 117) rfl rfl rfl ?_
  refine s_iload K d9_117 (pc' := 119) rfl rfl ?_
  refine s_iload K d9_119 (pc' := 121) rfl rfl ?_
  refine s_iastore K d9_121 (pc' := 122) rfl (k := 7) rfl (i := 1) (by decide) (ltB rfl) (L' := ((b125, .inr (.int, [.int 1, .int 2])) :: (b118, .inr (.int, [.int 0, .int 1, .int 2])) :: (b123, .inr (.int, [.int 0])) :: (b107, .inr (.int, [.int 0, .int 1])) :: (b106, .inr (.int, [.int 0, .int 0])) :: (b105, .inr (.int, [.int 1, .int 3])) :: (b101, oNM (.int 1) (.ref b107) (.ref b106) (.ref b105) (.int 2) .null .null (.int 0)) :: (b120, .inr (.int, [.int 0, .int 0])) :: (b119, .inr (.int, [.int 0, .int 1])) :: (b116, .inr (.int, [.int 0, .int 2])) :: F)) rfl ?_
  refine s_iinc K d9_122 (pc' := 125) rfl rfl (z := (2 : Int32)) rfl (Ls' := #[.val (.ref b101), .val (.ref b116), .val (.ref b118), .val (.ref b119), .val (.ref b120), .val (.ref b123), .val (.ref b125), .val (.int 0), .val (.int 0), .val (.int 2), .val (.int 1)]) rfl ?_
  refine s_goto K d9_125 (by decide) (pc' := 81) (by decide) ?_
  refine s_iload K d9_81 (pc' := 83) rfl rfl ?_
  refine s_aloadN K d9_83 (pc' := 84) rfl rfl rfl ?_
  refine s_iload K d9_84 (pc' := 86) rfl rfl ?_
  refine s_iconst K d9_86 (pc' := 87) rfl (z := (1 : Int32)) rfl ?_
  refine s_iadd K d9_87 (pc' := 88) rfl (z := (1 : Int32)) rfl ?_
  refine s_iaload K d9_88 (pc' := 89) rfl (k := 9) rfl (i := 1) (by decide) rfl ?_
  refine s_icY K d9_89 rfl (by decide) (pc' := 128) (by decide) ?_
  refine s_iinc K d9_128 (pc' := 131) rfl rfl (z := (1 : Int32)) rfl (Ls' := #[.val (.ref b101), .val (.ref b116), .val (.ref b118), .val (.ref b119), .val (.ref b120), .val (.ref b123), .val (.ref b125), .val (.int 1), .val (.int 0), .val (.int 2), .val (.int 1)]) rfl ?_
  refine s_goto K d9_131 (by decide) (pc' := 39) (by decide) ?_
  refine s_iload K d9_39 (pc' := 41) rfl rfl ?_
  refine s_aload K d9_41 (pc' := 43) rfl rfl rfl ?_
  refine s_len K d9_43 (pc' := 44) rfl (k := 2) rfl (z := (1 : Int32)) rfl ?_
  refine s_icY K d9_44 rfl (by decide) (pc' := 134) (by decide) ?_
  refine s_front (k := 9) rfl (L' := ((b116, .inr (.int, [.int 0, .int 2])) :: (b125, .inr (.int, [.int 1, .int 2])) :: (b118, .inr (.int, [.int 0, .int 1, .int 2])) :: (b123, .inr (.int, [.int 0])) :: (b107, .inr (.int, [.int 0, .int 1])) :: (b106, .inr (.int, [.int 0, .int 0])) :: (b105, .inr (.int, [.int 1, .int 3])) :: (b101, oNM (.int 1) (.ref b107) (.ref b106) (.ref b105) (.int 2) .null .null (.int 0)) :: (b120, .inr (.int, [.int 0, .int 0])) :: (b119, .inr (.int, [.int 0, .int 1])) :: F)) rfl ?_
  refine s_front (k := 2) rfl (L' := ((b118, .inr (.int, [.int 0, .int 1, .int 2])) :: (b116, .inr (.int, [.int 0, .int 2])) :: (b125, .inr (.int, [.int 1, .int 2])) :: (b123, .inr (.int, [.int 0])) :: (b107, .inr (.int, [.int 0, .int 1])) :: (b106, .inr (.int, [.int 0, .int 0])) :: (b105, .inr (.int, [.int 1, .int 3])) :: (b101, oNM (.int 1) (.ref b107) (.ref b106) (.ref b105) (.int 2) .null .null (.int 0)) :: (b120, .inr (.int, [.int 0, .int 0])) :: (b119, .inr (.int, [.int 0, .int 1])) :: F)) rfl ?_
  refine s_front (k := 9) rfl (L' := ((b119, .inr (.int, [.int 0, .int 1])) :: (b118, .inr (.int, [.int 0, .int 1, .int 2])) :: (b116, .inr (.int, [.int 0, .int 2])) :: (b125, .inr (.int, [.int 1, .int 2])) :: (b123, .inr (.int, [.int 0])) :: (b107, .inr (.int, [.int 0, .int 1])) :: (b106, .inr (.int, [.int 0, .int 0])) :: (b105, .inr (.int, [.int 1, .int 3])) :: (b101, oNM (.int 1) (.ref b107) (.ref b106) (.ref b105) (.int 2) .null .null (.int 0)) :: (b120, .inr (.int, [.int 0, .int 0])) :: F)) rfl ?_
  refine s_front (k := 9) rfl (L' := ((b120, .inr (.int, [.int 0, .int 0])) :: (b119, .inr (.int, [.int 0, .int 1])) :: (b118, .inr (.int, [.int 0, .int 1, .int 2])) :: (b116, .inr (.int, [.int 0, .int 2])) :: (b125, .inr (.int, [.int 1, .int 2])) :: (b123, .inr (.int, [.int 0])) :: (b107, .inr (.int, [.int 0, .int 1])) :: (b106, .inr (.int, [.int 0, .int 0])) :: (b105, .inr (.int, [.int 1, .int 3])) :: (b101, oNM (.int 1) (.ref b107) (.ref b106) (.ref b105) (.int 2) .null .null (.int 0)) :: F)) rfl ?_
  refine s_front (k := 9) rfl (L' := ((b101, oNM (.int 1) (.ref b107) (.ref b106) (.ref b105) (.int 2) .null .null (.int 0)) :: (b120, .inr (.int, [.int 0, .int 0])) :: (b119, .inr (.int, [.int 0, .int 1])) :: (b118, .inr (.int, [.int 0, .int 1, .int 2])) :: (b116, .inr (.int, [.int 0, .int 2])) :: (b125, .inr (.int, [.int 1, .int 2])) :: (b123, .inr (.int, [.int 0])) :: (b107, .inr (.int, [.int 0, .int 1])) :: (b106, .inr (.int, [.int 0, .int 0])) :: (b105, .inr (.int, [.int 1, .int 3])) :: F)) rfl ?_
  refine s_front (k := 9) rfl (L' := ((b105, .inr (.int, [.int 1, .int 3])) :: (b101, oNM (.int 1) (.ref b107) (.ref b106) (.ref b105) (.int 2) .null .null (.int 0)) :: (b120, .inr (.int, [.int 0, .int 0])) :: (b119, .inr (.int, [.int 0, .int 1])) :: (b118, .inr (.int, [.int 0, .int 1, .int 2])) :: (b116, .inr (.int, [.int 0, .int 2])) :: (b125, .inr (.int, [.int 1, .int 2])) :: (b123, .inr (.int, [.int 0])) :: (b107, .inr (.int, [.int 0, .int 1])) :: (b106, .inr (.int, [.int 0, .int 0])) :: F)) rfl ?_
  refine s_front (k := 9) rfl (L' := ((b106, .inr (.int, [.int 0, .int 0])) :: (b105, .inr (.int, [.int 1, .int 3])) :: (b101, oNM (.int 1) (.ref b107) (.ref b106) (.ref b105) (.int 2) .null .null (.int 0)) :: (b120, .inr (.int, [.int 0, .int 0])) :: (b119, .inr (.int, [.int 0, .int 1])) :: (b118, .inr (.int, [.int 0, .int 1, .int 2])) :: (b116, .inr (.int, [.int 0, .int 2])) :: (b125, .inr (.int, [.int 1, .int 2])) :: (b123, .inr (.int, [.int 0])) :: (b107, .inr (.int, [.int 0, .int 1])) :: F)) rfl ?_
  refine s_front (k := 9) rfl (L' := ((b107, .inr (.int, [.int 0, .int 1])) :: (b106, .inr (.int, [.int 0, .int 0])) :: (b105, .inr (.int, [.int 1, .int 3])) :: (b101, oNM (.int 1) (.ref b107) (.ref b106) (.ref b105) (.int 2) .null .null (.int 0)) :: (b120, .inr (.int, [.int 0, .int 0])) :: (b119, .inr (.int, [.int 0, .int 1])) :: (b118, .inr (.int, [.int 0, .int 1, .int 2])) :: (b116, .inr (.int, [.int 0, .int 2])) :: (b125, .inr (.int, [.int 1, .int 2])) :: (b123, .inr (.int, [.int 0])) :: F)) rfl ?_
  refine s_front (k := 9) rfl (L' := ((b123, .inr (.int, [.int 0])) :: (b107, .inr (.int, [.int 0, .int 1])) :: (b106, .inr (.int, [.int 0, .int 0])) :: (b105, .inr (.int, [.int 1, .int 3])) :: (b101, oNM (.int 1) (.ref b107) (.ref b106) (.ref b105) (.int 2) .null .null (.int 0)) :: (b120, .inr (.int, [.int 0, .int 0])) :: (b119, .inr (.int, [.int 0, .int 1])) :: (b118, .inr (.int, [.int 0, .int 1, .int 2])) :: (b116, .inr (.int, [.int 0, .int 2])) :: (b125, .inr (.int, [.int 1, .int 2])) :: F)) rfl ?_
  refine s_front (k := 9) rfl (L' := ((b125, .inr (.int, [.int 1, .int 2])) :: (b123, .inr (.int, [.int 0])) :: (b107, .inr (.int, [.int 0, .int 1])) :: (b106, .inr (.int, [.int 0, .int 0])) :: (b105, .inr (.int, [.int 1, .int 3])) :: (b101, oNM (.int 1) (.ref b107) (.ref b106) (.ref b105) (.int 2) .null .null (.int 0)) :: (b120, .inr (.int, [.int 0, .int 0])) :: (b119, .inr (.int, [.int 0, .int 1])) :: (b118, .inr (.int, [.int 0, .int 1, .int 2])) :: (b116, .inr (.int, [.int 0, .int 2])) :: F)) rfl ?_
  exact s_return K d9_134 (by decide) (by decide) ⟨_, _, rfl, rfl⟩
set_option maxRecDepth 65536 in
set_option maxHeartbeats 400000000 in
theorem k12_runs {l : Launch} {Z : State} {a0 : Array Value} (hw : HW Z a0) {n0 : Nat} (F : Wd) (b107 b106 b105 b101 b120 b118 : Addr)  :
    Con l Z n0 (⟨"com/example/evenkeel/evenkeel/LagSeats$Naming", "runs", "([I[I)Lcom/example/evenkeel/evenkeel/LagSeats$Runs;"⟩ : MethodName) prog_61_method_4_code 10 (some (.object "com/example/evenkeel/evenkeel/LagSeats$Runs")) ({ frames := 0, cells := 0, slots := 0, locals := 0 } : Room) [.ref b101, .ref b118, .ref b120] ((b107, .inr (.int, [.int 0, .int 1])) :: (b106, .inr (.int, [.int 0, .int 0])) :: (b105, .inr (.int, [.int 1, .int 3])) :: (b101, oNM (.int 1) (.ref b107) (.ref b106) (.ref b105) (.int 2) .null .null (.int 0)) :: (b120, .inr (.int, [.int 0, .int 0])) :: (b118, .inr (.int, [.int 0, .int 1, .int 2])) :: F) (fun v L' => v = some (.null) ∧ L' = ((b107, .inr (.int, [.int 0, .int 1])) :: (b106, .inr (.int, [.int 0, .int 0])) :: (b105, .inr (.int, [.int 1, .int 3])) :: (b101, oNM (.int 1) (.ref b107) (.ref b106) (.ref b105) (.int 2) .null .null (.int 0)) :: (b120, .inr (.int, [.int 0, .int 0])) :: (b118, .inr (.int, [.int 0, .int 1, .int 2])) :: F)) := by
  refine Con.of (by decide +kernel) (Ls := #[.val (.ref b101), .val (.ref b118), .val (.ref b120), .unset, .unset, .unset, .unset, .unset, .unset, .unset]) (fun m => by first | rfl | (simp [entryFrame, mkF, argsToLocals, Value.category]; done)) ?_
  intro κ K
  refine s_null K d13_0 (pc' := 1) rfl  ?_
  refine s_astoreN K d13_1 (pc' := 2) rfl rfl (Ls' := #[.val (.ref b101), .val (.ref b118), .val (.ref b120), .val .null, .unset, .unset, .unset, .unset, .unset, .unset]) rfl ?_
  refine s_aloadN K d13_2 (pc' := 3) rfl rfl rfl ?_
  refine s_getf K d13_3 (pc' := 6) rfl (w114 hw) (k := 3) rfl (j := 6) rfl ?_
  refine s_nullY K d13_6 (by decide) (pc' := 152) (by decide) ?_
  refine s_aloadN K d13_152 (pc' := 153) rfl rfl rfl ?_
  exact s_areturn K d13_153 rfl rfl rfl (by decide) (by decide) ⟨rfl, rfl⟩
set_option maxRecDepth 65536 in
set_option maxHeartbeats 400000000 in
theorem k4_init {l : Launch} {Z : State} {a0 : Array Value} (hw : HW Z a0) {n0 : Nat} (F : Wd) (b112 b111 b110 b109 b108 b105 b106 b107 b101 : Addr) (hi : Int64) (mid : Int64) (lo : Int64) (p0 : Int64) :
    Con l Z n0 (⟨"com/example/evenkeel/evenkeel/LagSeats", "<init>", "(ZI[II[I[J[J[I[ILcom/example/evenkeel/evenkeel/LagSeats$Naming;)V"⟩ : MethodName) prog_60_method_1_code 13 none ({ frames := 3, cells := 12, slots := 29, locals := 54 } : Room) [.ref b110, .int 0, .int 0, .null, .int 0, .ref b111, .ref b112, .ref b108, .ref b109, .null, .ref b101] ((b112, .inr (.long, [.long 0, .long 0])) :: (b111, .inr (.int, [.int 0, .int 0])) :: (b110, oLS (.int 0) (.int 0) .null (.int 0) (.int 0) .null .null .null .null .null .null .null .null .null .null .null .null .null .null .null .null .null .null .null .null .null .null .null .null) :: (b109, .inr (.int, [.int 0, .int 4])) :: (b108, .inr (.long, [.long hi, .long mid, .long lo, .long p0])) :: (b105, .inr (.int, [.int 1, .int 3])) :: (b106, .inr (.int, [.int 0, .int 0])) :: (b107, .inr (.int, [.int 0, .int 1])) :: (b101, oNM (.int 1) (.ref b107) (.ref b106) (.ref b105) (.int 2) .null .null (.int 0)) :: F) (fun v L' => ∃ b130 b129 b128 b120 b118 b126 b127 b119 b116 b121 b114 b113, v = none ∧ L' = ((b130, .inr (.int, [.int 0, .int 0])) :: (b129, .inr (.long, [.long 0, .long 0, .long 0, .long 0])) :: (b128, .inr (.int, [.int 0, .int 0, .int 0, .int 0])) :: (b120, .inr (.int, [.int 0, .int 0])) :: (b118, .inr (.int, [.int 0, .int 1, .int 2])) :: (b126, .inr (.int, [.int 1, .int 2])) :: (b127, .inr (.int, [.int 0])) :: (b119, .inr (.int, [.int 0, .int 1])) :: (b116, .inr (.int, [.int 0, .int 2])) :: (b121, .inr (.int, [.int 0, .int 1, .int 4])) :: (b114, .inr (.long, [.long 0, .long 0])) :: (b113, .inr (.int, [.int 0, .int 0])) :: (b112, .inr (.long, [.long 0, .long 0])) :: (b111, .inr (.int, [.int 0, .int 0])) :: (b110, oLS (.int 0) (.int 0) .null (.int 0) (.int 0) (.ref b111) (.ref b112) (.ref b113) (.ref b114) (.ref b108) (.ref b109) (.ref b116) (.ref b107) (.ref b106) (.ref b118) (.ref b119) (.ref b120) (.ref b121) .null (.ref b128) (.ref b129) (.ref b130) .null .null .null .null .null .null .null) :: (b109, .inr (.int, [.int 0, .int 4])) :: (b108, .inr (.long, [.long hi, .long mid, .long lo, .long p0])) :: (b105, .inr (.int, [.int 1, .int 3])) :: (b106, .inr (.int, [.int 0, .int 0])) :: (b107, .inr (.int, [.int 0, .int 1])) :: (b101, oNM (.int 1) (.ref b107) (.ref b106) (.ref b105) (.int 2) .null .null (.int 0)) :: F)) := by
  refine Con.of (by decide +kernel) (Ls := #[.val (.ref b110), .val (.int 0), .val (.int 0), .val .null, .val (.int 0), .val (.ref b111), .val (.ref b112), .val (.ref b108), .val (.ref b109), .val .null, .val (.ref b101), .unset, .unset]) (fun m => by first | rfl | (simp [entryFrame, mkF, argsToLocals, Value.category]; done)) ?_
  intro κ K
  refine s_aloadN K d6_0 (pc' := 1) rfl rfl rfl ?_
  refine s_initO K d6_1 (pc' := 4) rfl (w39 hw) (w14 hw) (w15 hw) rfl (by decide) (W := 0) (Nat.le_of_eq rfl) (by decide) ?_
  refine s_aloadN K d6_4 (pc' := 5) rfl rfl rfl ?_
  refine s_iloadN K d6_5 (pc' := 6) rfl rfl ?_
  refine s_putf K d6_6 (pc' := 9) rfl (w40 hw) (Or.inr ⟨w41 hw, rfl, rfl⟩) (w34 hw) (ty := .boolean) (by decide) rfl rfl (k := 2) rfl (j := 0) rfl (L' := ((b112, .inr (.long, [.long 0, .long 0])) :: (b111, .inr (.int, [.int 0, .int 0])) :: (b110, oLS (.int 0) (.int 0) .null (.int 0) (.int 0) .null .null .null .null .null .null .null .null .null .null .null .null .null .null .null .null .null .null .null .null .null .null .null .null) :: (b109, .inr (.int, [.int 0, .int 4])) :: (b108, .inr (.long, [.long hi, .long mid, .long lo, .long p0])) :: (b105, .inr (.int, [.int 1, .int 3])) :: (b106, .inr (.int, [.int 0, .int 0])) :: (b107, .inr (.int, [.int 0, .int 1])) :: (b101, oNM (.int 1) (.ref b107) (.ref b106) (.ref b105) (.int 2) .null .null (.int 0)) :: F)) rfl ?_
  refine s_aloadN K d6_9 (pc' := 10) rfl rfl rfl ?_
  refine s_iloadN K d6_10 (pc' := 11) rfl rfl ?_
  refine s_putf K d6_11 (pc' := 14) rfl (w42 hw) (Or.inr ⟨w43 hw, rfl, rfl⟩) (w34 hw) (ty := .int) (by decide) rfl rfl (k := 2) rfl (j := 1) rfl (L' := ((b112, .inr (.long, [.long 0, .long 0])) :: (b111, .inr (.int, [.int 0, .int 0])) :: (b110, oLS (.int 0) (.int 0) .null (.int 0) (.int 0) .null .null .null .null .null .null .null .null .null .null .null .null .null .null .null .null .null .null .null .null .null .null .null .null) :: (b109, .inr (.int, [.int 0, .int 4])) :: (b108, .inr (.long, [.long hi, .long mid, .long lo, .long p0])) :: (b105, .inr (.int, [.int 1, .int 3])) :: (b106, .inr (.int, [.int 0, .int 0])) :: (b107, .inr (.int, [.int 0, .int 1])) :: (b101, oNM (.int 1) (.ref b107) (.ref b106) (.ref b105) (.int 2) .null .null (.int 0)) :: F)) rfl ?_
  refine s_aloadN K d6_14 (pc' := 15) rfl rfl rfl ?_
  refine s_aloadN K d6_15 (pc' := 16) rfl rfl rfl ?_
  refine s_putf K d6_16 (pc' := 19) rfl (w44 hw) (Or.inr ⟨w45 hw, rfl, rfl⟩) (w34 hw) (ty := (.array .int)) (by decide) rfl rfl (k := 2) rfl (j := 2) rfl (L' := ((b112, .inr (.long, [.long 0, .long 0])) :: (b111, .inr (.int, [.int 0, .int 0])) :: (b110, oLS (.int 0) (.int 0) .null (.int 0) (.int 0) .null .null .null .null .null .null .null .null .null .null .null .null .null .null .null .null .null .null .null .null .null .null .null .null) :: (b109, .inr (.int, [.int 0, .int 4])) :: (b108, .inr (.long, [.long hi, .long mid, .long lo, .long p0])) :: (b105, .inr (.int, [.int 1, .int 3])) :: (b106, .inr (.int, [.int 0, .int 0])) :: (b107, .inr (.int, [.int 0, .int 1])) :: (b101, oNM (.int 1) (.ref b107) (.ref b106) (.ref b105) (.int 2) .null .null (.int 0)) :: F)) rfl ?_
  refine s_aloadN K d6_19 (pc' := 20) rfl rfl rfl ?_
  refine s_iload K d6_20 (pc' := 22) rfl rfl ?_
  refine s_putf K d6_22 (pc' := 25) rfl (w46 hw) (Or.inl (w47 hw)) (w34 hw) (ty := .int) (by decide) rfl rfl (k := 2) rfl (j := 3) rfl (L' := ((b112, .inr (.long, [.long 0, .long 0])) :: (b111, .inr (.int, [.int 0, .int 0])) :: (b110, oLS (.int 0) (.int 0) .null (.int 0) (.int 0) .null .null .null .null .null .null .null .null .null .null .null .null .null .null .null .null .null .null .null .null .null .null .null .null) :: (b109, .inr (.int, [.int 0, .int 4])) :: (b108, .inr (.long, [.long hi, .long mid, .long lo, .long p0])) :: (b105, .inr (.int, [.int 1, .int 3])) :: (b106, .inr (.int, [.int 0, .int 0])) :: (b107, .inr (.int, [.int 0, .int 1])) :: (b101, oNM (.int 1) (.ref b107) (.ref b106) (.ref b105) (.int 2) .null .null (.int 0)) :: F)) rfl ?_
  refine s_aloadN K d6_25 (pc' := 26) rfl rfl rfl ?_
  refine s_iload K d6_26 (pc' := 28) rfl rfl ?_
  refine s_putf K d6_28 (pc' := 31) rfl (w48 hw) (Or.inr ⟨w49 hw, rfl, rfl⟩) (w34 hw) (ty := .int) (by decide) rfl rfl (k := 2) rfl (j := 4) rfl (L' := ((b112, .inr (.long, [.long 0, .long 0])) :: (b111, .inr (.int, [.int 0, .int 0])) :: (b110, oLS (.int 0) (.int 0) .null (.int 0) (.int 0) .null .null .null .null .null .null .null .null .null .null .null .null .null .null .null .null .null .null .null .null .null .null .null .null) :: (b109, .inr (.int, [.int 0, .int 4])) :: (b108, .inr (.long, [.long hi, .long mid, .long lo, .long p0])) :: (b105, .inr (.int, [.int 1, .int 3])) :: (b106, .inr (.int, [.int 0, .int 0])) :: (b107, .inr (.int, [.int 0, .int 1])) :: (b101, oNM (.int 1) (.ref b107) (.ref b106) (.ref b105) (.int 2) .null .null (.int 0)) :: F)) rfl ?_
  refine s_aloadN K d6_31 (pc' := 32) rfl rfl rfl ?_
  refine s_aload K d6_32 (pc' := 34) rfl rfl rfl ?_
  refine s_putf K d6_34 (pc' := 37) rfl (w50 hw) (Or.inr ⟨w51 hw, rfl, rfl⟩) (w34 hw) (ty := (.array .int)) (by decide) rfl rfl (k := 2) rfl (j := 5) rfl (L' := ((b112, .inr (.long, [.long 0, .long 0])) :: (b111, .inr (.int, [.int 0, .int 0])) :: (b110, oLS (.int 0) (.int 0) .null (.int 0) (.int 0) (.ref b111) .null .null .null .null .null .null .null .null .null .null .null .null .null .null .null .null .null .null .null .null .null .null .null) :: (b109, .inr (.int, [.int 0, .int 4])) :: (b108, .inr (.long, [.long hi, .long mid, .long lo, .long p0])) :: (b105, .inr (.int, [.int 1, .int 3])) :: (b106, .inr (.int, [.int 0, .int 0])) :: (b107, .inr (.int, [.int 0, .int 1])) :: (b101, oNM (.int 1) (.ref b107) (.ref b106) (.ref b105) (.int 2) .null .null (.int 0)) :: F)) rfl ?_
  refine s_aloadN K d6_37 (pc' := 38) rfl rfl rfl ?_
  refine s_aload K d6_38 (pc' := 40) rfl rfl rfl ?_
  refine s_putf K d6_40 (pc' := 43) rfl (w52 hw) (Or.inr ⟨w53 hw, rfl, rfl⟩) (w34 hw) (ty := (.array .long)) (by decide) rfl rfl (k := 2) rfl (j := 6) rfl (L' := ((b112, .inr (.long, [.long 0, .long 0])) :: (b111, .inr (.int, [.int 0, .int 0])) :: (b110, oLS (.int 0) (.int 0) .null (.int 0) (.int 0) (.ref b111) (.ref b112) .null .null .null .null .null .null .null .null .null .null .null .null .null .null .null .null .null .null .null .null .null .null) :: (b109, .inr (.int, [.int 0, .int 4])) :: (b108, .inr (.long, [.long hi, .long mid, .long lo, .long p0])) :: (b105, .inr (.int, [.int 1, .int 3])) :: (b106, .inr (.int, [.int 0, .int 0])) :: (b107, .inr (.int, [.int 0, .int 1])) :: (b101, oNM (.int 1) (.ref b107) (.ref b106) (.ref b105) (.int 2) .null .null (.int 0)) :: F)) rfl ?_
  refine s_aloadN K d6_43 (pc' := 44) rfl rfl rfl ?_
  refine s_aload K d6_44 (pc' := 46) rfl rfl rfl ?_
  refine s_clone K d6_46 (pc' := 49) rfl (ty := .int) (C := "[I") (by decide) (w54 hw) (w55 hw) (w59 hw) (w57 hw) (w58 hw) (w60 hw) (k := 1) rfl rfl (by decide) (W := 1) (Nat.le_of_eq rfl) (by decide) (cap := 2) (Nat.le_of_eq rfl) (ce' := 1) rfl (sl' := 2) rfl (by decide) (by decide) ?_
  intro b113
  refine s_castA K d6_49 (pc' := 52) rfl (ty := .int) (C := "[I") (by decide) (w61 hw) (k := 0) rfl ?_
  refine s_putf K d6_52 (pc' := 55) rfl (w63 hw) (Or.inr ⟨w64 hw, rfl, rfl⟩) (w34 hw) (ty := (.array .int)) (by decide) rfl rfl (k := 3) rfl (j := 7) rfl (L' := ((b113, .inr (.int, [.int 0, .int 0])) :: (b112, .inr (.long, [.long 0, .long 0])) :: (b111, .inr (.int, [.int 0, .int 0])) :: (b110, oLS (.int 0) (.int 0) .null (.int 0) (.int 0) (.ref b111) (.ref b112) (.ref b113) .null .null .null .null .null .null .null .null .null .null .null .null .null .null .null .null .null .null .null .null .null) :: (b109, .inr (.int, [.int 0, .int 4])) :: (b108, .inr (.long, [.long hi, .long mid, .long lo, .long p0])) :: (b105, .inr (.int, [.int 1, .int 3])) :: (b106, .inr (.int, [.int 0, .int 0])) :: (b107, .inr (.int, [.int 0, .int 1])) :: (b101, oNM (.int 1) (.ref b107) (.ref b106) (.ref b105) (.int 2) .null .null (.int 0)) :: F)) rfl ?_
  refine s_aloadN K d6_55 (pc' := 56) rfl rfl rfl ?_
  refine s_aload K d6_56 (pc' := 58) rfl rfl rfl ?_
  refine s_clone K d6_58 (pc' := 61) rfl (ty := .long) (C := "[J") (by decide) (w65 hw) (w66 hw) (w59 hw) (w57 hw) (w67 hw) (w68 hw) (k := 1) rfl rfl (by decide) (W := 1) (Nat.le_of_eq rfl) (by decide) (cap := 2) (Nat.le_of_eq rfl) (ce' := 2) rfl (sl' := 4) rfl (by decide) (by decide) ?_
  intro b114
  refine s_castA K d6_61 (pc' := 64) rfl (ty := .long) (C := "[J") (by decide) (w69 hw) (k := 0) rfl ?_
  refine s_putf K d6_64 (pc' := 67) rfl (w71 hw) (Or.inr ⟨w72 hw, rfl, rfl⟩) (w34 hw) (ty := (.array .long)) (by decide) rfl rfl (k := 4) rfl (j := 8) rfl (L' := ((b114, .inr (.long, [.long 0, .long 0])) :: (b113, .inr (.int, [.int 0, .int 0])) :: (b112, .inr (.long, [.long 0, .long 0])) :: (b111, .inr (.int, [.int 0, .int 0])) :: (b110, oLS (.int 0) (.int 0) .null (.int 0) (.int 0) (.ref b111) (.ref b112) (.ref b113) (.ref b114) .null .null .null .null .null .null .null .null .null .null .null .null .null .null .null .null .null .null .null .null) :: (b109, .inr (.int, [.int 0, .int 4])) :: (b108, .inr (.long, [.long hi, .long mid, .long lo, .long p0])) :: (b105, .inr (.int, [.int 1, .int 3])) :: (b106, .inr (.int, [.int 0, .int 0])) :: (b107, .inr (.int, [.int 0, .int 1])) :: (b101, oNM (.int 1) (.ref b107) (.ref b106) (.ref b105) (.int 2) .null .null (.int 0)) :: F)) rfl ?_
  refine s_aloadN K d6_67 (pc' := 68) rfl rfl rfl ?_
  refine s_aload K d6_68 (pc' := 70) rfl rfl rfl ?_
  refine s_putf K d6_70 (pc' := 73) rfl (w73 hw) (Or.inr ⟨w74 hw, rfl, rfl⟩) (w34 hw) (ty := (.array .long)) (by decide) rfl rfl (k := 4) rfl (j := 9) rfl (L' := ((b114, .inr (.long, [.long 0, .long 0])) :: (b113, .inr (.int, [.int 0, .int 0])) :: (b112, .inr (.long, [.long 0, .long 0])) :: (b111, .inr (.int, [.int 0, .int 0])) :: (b110, oLS (.int 0) (.int 0) .null (.int 0) (.int 0) (.ref b111) (.ref b112) (.ref b113) (.ref b114) (.ref b108) .null .null .null .null .null .null .null .null .null .null .null .null .null .null .null .null .null .null .null) :: (b109, .inr (.int, [.int 0, .int 4])) :: (b108, .inr (.long, [.long hi, .long mid, .long lo, .long p0])) :: (b105, .inr (.int, [.int 1, .int 3])) :: (b106, .inr (.int, [.int 0, .int 0])) :: (b107, .inr (.int, [.int 0, .int 1])) :: (b101, oNM (.int 1) (.ref b107) (.ref b106) (.ref b105) (.int 2) .null .null (.int 0)) :: F)) rfl ?_
  refine s_aloadN K d6_73 (pc' := 74) rfl rfl rfl ?_
  refine s_aload K d6_74 (pc' := 76) rfl rfl rfl ?_
  refine s_putf K d6_76 (pc' := 79) rfl (w75 hw) (Or.inr ⟨w76 hw, rfl, rfl⟩) (w34 hw) (ty := (.array .int)) (by decide) rfl rfl (k := 4) rfl (j := 10) rfl (L' := ((b114, .inr (.long, [.long 0, .long 0])) :: (b113, .inr (.int, [.int 0, .int 0])) :: (b112, .inr (.long, [.long 0, .long 0])) :: (b111, .inr (.int, [.int 0, .int 0])) :: (b110, oLS (.int 0) (.int 0) .null (.int 0) (.int 0) (.ref b111) (.ref b112) (.ref b113) (.ref b114) (.ref b108) (.ref b109) .null .null .null .null .null .null .null .null .null .null .null .null .null .null .null .null .null .null) :: (b109, .inr (.int, [.int 0, .int 4])) :: (b108, .inr (.long, [.long hi, .long mid, .long lo, .long p0])) :: (b105, .inr (.int, [.int 1, .int 3])) :: (b106, .inr (.int, [.int 0, .int 0])) :: (b107, .inr (.int, [.int 0, .int 1])) :: (b101, oNM (.int 1) (.ref b107) (.ref b106) (.ref b105) (.int 2) .null .null (.int 0)) :: F)) rfl ?_
  refine s_aloadN K d6_79 (pc' := 80) rfl rfl rfl ?_
  refine s_aload K d6_80 (pc' := 82) rfl rfl rfl ?_
  refine s_getf K d6_82 (pc' := 85) rfl (w77 hw) (k := 10) rfl (j := 2) rfl ?_
  refine s_aload K d6_85 (pc' := 87) rfl rfl rfl ?_
  refine s_getf K d6_87 (pc' := 90) rfl (w78 hw) (k := 10) rfl (j := 0) rfl ?_
  refine s_front (k := 8) rfl (L' := ((b106, .inr (.int, [.int 0, .int 0])) :: (b114, .inr (.long, [.long 0, .long 0])) :: (b113, .inr (.int, [.int 0, .int 0])) :: (b112, .inr (.long, [.long 0, .long 0])) :: (b111, .inr (.int, [.int 0, .int 0])) :: (b110, oLS (.int 0) (.int 0) .null (.int 0) (.int 0) (.ref b111) (.ref b112) (.ref b113) (.ref b114) (.ref b108) (.ref b109) .null .null .null .null .null .null .null .null .null .null .null .null .null .null .null .null .null .null) :: (b109, .inr (.int, [.int 0, .int 4])) :: (b108, .inr (.long, [.long hi, .long mid, .long lo, .long p0])) :: (b105, .inr (.int, [.int 1, .int 3])) :: (b107, .inr (.int, [.int 0, .int 1])) :: (b101, oNM (.int 1) (.ref b107) (.ref b106) (.ref b105) (.int 2) .null .null (.int 0)) :: F)) rfl ?_
  refine s_static K d6_90 (pc' := 93) rfl (as := [.ref b106, .int 1]) (k5_starts hw _ b106) (w79 hw) (w80 hw) (w35 hw) (w81 hw) (by decide) pd_2 rfl (rest := [.ref b110]) rfl rfl (W := 1) (Nat.le_of_eq rfl) (by decide) (by decide) (ce' := 3) rfl (sl' := 6) rfl (by decide) (by decide) ?_
  rintro v _ ⟨b116, rfl, rfl⟩
  show Go l Z n0 _ _ κ 3 6 ((b116, .inr (.int, [.int 0, .int 2])) :: (b106, .inr (.int, [.int 0, .int 0])) :: (b114, .inr (.long, [.long 0, .long 0])) :: (b113, .inr (.int, [.int 0, .int 0])) :: (b112, .inr (.long, [.long 0, .long 0])) :: (b111, .inr (.int, [.int 0, .int 0])) :: (b110, oLS (.int 0) (.int 0) .null (.int 0) (.int 0) (.ref b111) (.ref b112) (.ref b113) (.ref b114) (.ref b108) (.ref b109) .null .null .null .null .null .null .null .null .null .null .null .null .null .null .null .null .null .null) :: (b109, .inr (.int, [.int 0, .int 4])) :: (b108, .inr (.long, [.long hi, .long mid, .long lo, .long p0])) :: (b105, .inr (.int, [.int 1, .int 3])) :: (b107, .inr (.int, [.int 0, .int 1])) :: (b101, oNM (.int 1) (.ref b107) (.ref b106) (.ref b105) (.int 2) .null .null (.int 0)) :: F) 93 #[.val (.ref b110), .val (.int 0), .val (.int 0), .val .null, .val (.int 0), .val (.ref b111), .val (.ref b112), .val (.ref b108), .val (.ref b109), .val .null, .val (.ref b101), .unset, .unset] [.ref b116, .ref b110]
  refine s_putf K d6_93 (pc' := 96) rfl (w82 hw) (Or.inr ⟨w83 hw, rfl, rfl⟩) (w34 hw) (ty := (.array .int)) (by decide) rfl rfl (k := 6) rfl (j := 11) rfl (L' := ((b116, .inr (.int, [.int 0, .int 2])) :: (b106, .inr (.int, [.int 0, .int 0])) :: (b114, .inr (.long, [.long 0, .long 0])) :: (b113, .inr (.int, [.int 0, .int 0])) :: (b112, .inr (.long, [.long 0, .long 0])) :: (b111, .inr (.int, [.int 0, .int 0])) :: (b110, oLS (.int 0) (.int 0) .null (.int 0) (.int 0) (.ref b111) (.ref b112) (.ref b113) (.ref b114) (.ref b108) (.ref b109) (.ref b116) .null .null .null .null .null .null .null .null .null .null .null .null .null .null .null .null .null) :: (b109, .inr (.int, [.int 0, .int 4])) :: (b108, .inr (.long, [.long hi, .long mid, .long lo, .long p0])) :: (b105, .inr (.int, [.int 1, .int 3])) :: (b107, .inr (.int, [.int 0, .int 1])) :: (b101, oNM (.int 1) (.ref b107) (.ref b106) (.ref b105) (.int 2) .null .null (.int 0)) :: F)) rfl ?_
  refine s_aloadN K d6_96 (pc' := 97) rfl rfl rfl ?_
  refine s_aload K d6_97 (pc' := 99) rfl rfl rfl ?_
  refine s_getf K d6_99 (pc' := 102) rfl (w84 hw) (k := 11) rfl (j := 1) rfl ?_
  refine s_putf K d6_102 (pc' := 105) rfl (w85 hw) (Or.inr ⟨w86 hw, rfl, rfl⟩) (w34 hw) (ty := (.array .int)) (by decide) rfl rfl (k := 6) rfl (j := 12) rfl (L' := ((b116, .inr (.int, [.int 0, .int 2])) :: (b106, .inr (.int, [.int 0, .int 0])) :: (b114, .inr (.long, [.long 0, .long 0])) :: (b113, .inr (.int, [.int 0, .int 0])) :: (b112, .inr (.long, [.long 0, .long 0])) :: (b111, .inr (.int, [.int 0, .int 0])) :: (b110, oLS (.int 0) (.int 0) .null (.int 0) (.int 0) (.ref b111) (.ref b112) (.ref b113) (.ref b114) (.ref b108) (.ref b109) (.ref b116) (.ref b107) .null .null .null .null .null .null .null .null .null .null .null .null .null .null .null .null) :: (b109, .inr (.int, [.int 0, .int 4])) :: (b108, .inr (.long, [.long hi, .long mid, .long lo, .long p0])) :: (b105, .inr (.int, [.int 1, .int 3])) :: (b107, .inr (.int, [.int 0, .int 1])) :: (b101, oNM (.int 1) (.ref b107) (.ref b106) (.ref b105) (.int 2) .null .null (.int 0)) :: F)) rfl ?_
  refine s_aloadN K d6_105 (pc' := 106) rfl rfl rfl ?_
  refine s_aload K d6_106 (pc' := 108) rfl rfl rfl ?_
  refine s_getf K d6_108 (pc' := 111) rfl (w77 hw) (k := 11) rfl (j := 2) rfl ?_
  refine s_putf K d6_111 (pc' := 114) rfl (w87 hw) (Or.inr ⟨w88 hw, rfl, rfl⟩) (w34 hw) (ty := (.array .int)) (by decide) rfl rfl (k := 6) rfl (j := 13) rfl (L' := ((b116, .inr (.int, [.int 0, .int 2])) :: (b106, .inr (.int, [.int 0, .int 0])) :: (b114, .inr (.long, [.long 0, .long 0])) :: (b113, .inr (.int, [.int 0, .int 0])) :: (b112, .inr (.long, [.long 0, .long 0])) :: (b111, .inr (.int, [.int 0, .int 0])) :: (b110, oLS (.int 0) (.int 0) .null (.int 0) (.int 0) (.ref b111) (.ref b112) (.ref b113) (.ref b114) (.ref b108) (.ref b109) (.ref b116) (.ref b107) (.ref b106) .null .null .null .null .null .null .null .null .null .null .null .null .null .null .null) :: (b109, .inr (.int, [.int 0, .int 4])) :: (b108, .inr (.long, [.long hi, .long mid, .long lo, .long p0])) :: (b105, .inr (.int, [.int 1, .int 3])) :: (b107, .inr (.int, [.int 0, .int 1])) :: (b101, oNM (.int 1) (.ref b107) (.ref b106) (.ref b105) (.int 2) .null .null (.int 0)) :: F)) rfl ?_
  refine s_aloadN K d6_114 (pc' := 115) rfl rfl rfl ?_
  refine s_aload K d6_115 (pc' := 117) rfl rfl rfl ?_
  refine s_getf K d6_117 (pc' := 120) rfl (w84 hw) (k := 11) rfl (j := 1) rfl ?_
  refine s_aload K d6_120 (pc' := 122) rfl rfl rfl ?_
  refine s_len K d6_122 (pc' := 123) rfl (k := 5) rfl (z := (2 : Int32)) rfl ?_
  refine s_front (k := 10) rfl (L' := ((b107, .inr (.int, [.int 0, .int 1])) :: (b116, .inr (.int, [.int 0, .int 2])) :: (b106, .inr (.int, [.int 0, .int 0])) :: (b114, .inr (.long, [.long 0, .long 0])) :: (b113, .inr (.int, [.int 0, .int 0])) :: (b112, .inr (.long, [.long 0, .long 0])) :: (b111, .inr (.int, [.int 0, .int 0])) :: (b110, oLS (.int 0) (.int 0) .null (.int 0) (.int 0) (.ref b111) (.ref b112) (.ref b113) (.ref b114) (.ref b108) (.ref b109) (.ref b116) (.ref b107) (.ref b106) .null .null .null .null .null .null .null .null .null .null .null .null .null .null .null) :: (b109, .inr (.int, [.int 0, .int 4])) :: (b108, .inr (.long, [.long hi, .long mid, .long lo, .long p0])) :: (b105, .inr (.int, [.int 1, .int 3])) :: (b101, oNM (.int 1) (.ref b107) (.ref b106) (.ref b105) (.int 2) .null .null (.int 0)) :: F)) rfl ?_
  refine s_static K d6_123 (pc' := 126) rfl (as := [.ref b107, .int 2]) (k6_starts hw _ b107) (w79 hw) (w80 hw) (w35 hw) (w81 hw) (by decide) pd_2 rfl (rest := [.ref b110]) rfl rfl (W := 1) (Nat.le_of_eq rfl) (by decide) (by decide) (ce' := 4) rfl (sl' := 9) rfl (by decide) (by decide) ?_
  rintro v _ ⟨b118, rfl, rfl⟩
  show Go l Z n0 _ _ κ 4 9 ((b118, .inr (.int, [.int 0, .int 1, .int 2])) :: (b107, .inr (.int, [.int 0, .int 1])) :: (b116, .inr (.int, [.int 0, .int 2])) :: (b106, .inr (.int, [.int 0, .int 0])) :: (b114, .inr (.long, [.long 0, .long 0])) :: (b113, .inr (.int, [.int 0, .int 0])) :: (b112, .inr (.long, [.long 0, .long 0])) :: (b111, .inr (.int, [.int 0, .int 0])) :: (b110, oLS (.int 0) (.int 0) .null (.int 0) (.int 0) (.ref b111) (.ref b112) (.ref b113) (.ref b114) (.ref b108) (.ref b109) (.ref b116) (.ref b107) (.ref b106) .null .null .null .null .null .null .null .null .null .null .null .null .null .null .null) :: (b109, .inr (.int, [.int 0, .int 4])) :: (b108, .inr (.long, [.long hi, .long mid, .long lo, .long p0])) :: (b105, .inr (.int, [.int 1, .int 3])) :: (b101, oNM (.int 1) (.ref b107) (.ref b106) (.ref b105) (.int 2) .null .null (.int 0)) :: F) 126 #[.val (.ref b110), .val (.int 0), .val (.int 0), .val .null, .val (.int 0), .val (.ref b111), .val (.ref b112), .val (.ref b108), .val (.ref b109), .val .null, .val (.ref b101), .unset, .unset] [.ref b118, .ref b110]
  refine s_putf K d6_126 (pc' := 129) rfl (w89 hw) (Or.inr ⟨w90 hw, rfl, rfl⟩) (w34 hw) (ty := (.array .int)) (by decide) rfl rfl (k := 8) rfl (j := 14) rfl (L' := ((b118, .inr (.int, [.int 0, .int 1, .int 2])) :: (b107, .inr (.int, [.int 0, .int 1])) :: (b116, .inr (.int, [.int 0, .int 2])) :: (b106, .inr (.int, [.int 0, .int 0])) :: (b114, .inr (.long, [.long 0, .long 0])) :: (b113, .inr (.int, [.int 0, .int 0])) :: (b112, .inr (.long, [.long 0, .long 0])) :: (b111, .inr (.int, [.int 0, .int 0])) :: (b110, oLS (.int 0) (.int 0) .null (.int 0) (.int 0) (.ref b111) (.ref b112) (.ref b113) (.ref b114) (.ref b108) (.ref b109) (.ref b116) (.ref b107) (.ref b106) (.ref b118) .null .null .null .null .null .null .null .null .null .null .null .null .null .null) :: (b109, .inr (.int, [.int 0, .int 4])) :: (b108, .inr (.long, [.long hi, .long mid, .long lo, .long p0])) :: (b105, .inr (.int, [.int 1, .int 3])) :: (b101, oNM (.int 1) (.ref b107) (.ref b106) (.ref b105) (.int 2) .null .null (.int 0)) :: F)) rfl ?_
  refine s_aloadN K d6_129 (pc' := 130) rfl rfl rfl ?_
  refine s_aload K d6_130 (pc' := 132) rfl rfl rfl ?_
  refine s_getf K d6_132 (pc' := 135) rfl (w91 hw) (k := 12) rfl (j := 4) rfl ?_
  refine s_newarr K d6_135 (pc' := 137) rfl rfl (w18 hw) (n := 2) (by decide) (cap := 2) (by decide) (by decide) (vs0 := [.int 0, .int 0]) rfl (ce' := 5) rfl (sl' := 11) rfl (by decide) (by decide) ?_
  intro b119
  refine s_putf K d6_137 (pc' := 140) rfl (w92 hw) (Or.inr ⟨w93 hw, rfl, rfl⟩) (w34 hw) (ty := (.array .int)) (by decide) rfl rfl (k := 9) rfl (j := 15) rfl (L' := ((b119, .inr (.int, [.int 0, .int 0])) :: (b118, .inr (.int, [.int 0, .int 1, .int 2])) :: (b107, .inr (.int, [.int 0, .int 1])) :: (b116, .inr (.int, [.int 0, .int 2])) :: (b106, .inr (.int, [.int 0, .int 0])) :: (b114, .inr (.long, [.long 0, .long 0])) :: (b113, .inr (.int, [.int 0, .int 0])) :: (b112, .inr (.long, [.long 0, .long 0])) :: (b111, .inr (.int, [.int 0, .int 0])) :: (b110, oLS (.int 0) (.int 0) .null (.int 0) (.int 0) (.ref b111) (.ref b112) (.ref b113) (.ref b114) (.ref b108) (.ref b109) (.ref b116) (.ref b107) (.ref b106) (.ref b118) (.ref b119) .null .null .null .null .null .null .null .null .null .null .null .null .null) :: (b109, .inr (.int, [.int 0, .int 4])) :: (b108, .inr (.long, [.long hi, .long mid, .long lo, .long p0])) :: (b105, .inr (.int, [.int 1, .int 3])) :: (b101, oNM (.int 1) (.ref b107) (.ref b106) (.ref b105) (.int 2) .null .null (.int 0)) :: F)) rfl ?_
  refine s_aloadN K d6_140 (pc' := 141) rfl rfl rfl ?_
  refine s_aload K d6_141 (pc' := 143) rfl rfl rfl ?_
  refine s_getf K d6_143 (pc' := 146) rfl (w91 hw) (k := 13) rfl (j := 4) rfl ?_
  refine s_newarr K d6_146 (pc' := 148) rfl rfl (w18 hw) (n := 2) (by decide) (cap := 2) (by decide) (by decide) (vs0 := [.int 0, .int 0]) rfl (ce' := 6) rfl (sl' := 13) rfl (by decide) (by decide) ?_
  intro b120
  refine s_putf K d6_148 (pc' := 151) rfl (w94 hw) (Or.inr ⟨w95 hw, rfl, rfl⟩) (w34 hw) (ty := (.array .int)) (by decide) rfl rfl (k := 10) rfl (j := 16) rfl (L' := ((b120, .inr (.int, [.int 0, .int 0])) :: (b119, .inr (.int, [.int 0, .int 0])) :: (b118, .inr (.int, [.int 0, .int 1, .int 2])) :: (b107, .inr (.int, [.int 0, .int 1])) :: (b116, .inr (.int, [.int 0, .int 2])) :: (b106, .inr (.int, [.int 0, .int 0])) :: (b114, .inr (.long, [.long 0, .long 0])) :: (b113, .inr (.int, [.int 0, .int 0])) :: (b112, .inr (.long, [.long 0, .long 0])) :: (b111, .inr (.int, [.int 0, .int 0])) :: (b110, oLS (.int 0) (.int 0) .null (.int 0) (.int 0) (.ref b111) (.ref b112) (.ref b113) (.ref b114) (.ref b108) (.ref b109) (.ref b116) (.ref b107) (.ref b106) (.ref b118) (.ref b119) (.ref b120) .null .null .null .null .null .null .null .null .null .null .null .null) :: (b109, .inr (.int, [.int 0, .int 4])) :: (b108, .inr (.long, [.long hi, .long mid, .long lo, .long p0])) :: (b105, .inr (.int, [.int 1, .int 3])) :: (b101, oNM (.int 1) (.ref b107) (.ref b106) (.ref b105) (.int 2) .null .null (.int 0)) :: F)) rfl ?_
  refine s_aloadN K d6_151 (pc' := 152) rfl rfl rfl ?_
  refine s_aload K d6_152 (pc' := 154) rfl rfl rfl ?_
  refine s_getf K d6_154 (pc' := 157) rfl (w91 hw) (k := 14) rfl (j := 4) rfl ?_
  refine s_iconst K d6_157 (pc' := 158) rfl (z := (1 : Int32)) rfl ?_
  refine s_iadd K d6_158 (pc' := 159) rfl (z := (3 : Int32)) rfl ?_
  refine s_newarr K d6_159 (pc' := 161) rfl rfl (w18 hw) (n := 3) (by decide) (cap := 3) (by decide) (by decide) (vs0 := [.int 0, .int 0, .int 0]) rfl (ce' := 7) rfl (sl' := 16) rfl (by decide) (by decide) ?_
  intro b121
  refine s_putf K d6_161 (pc' := 164) rfl (w96 hw) (Or.inr ⟨w97 hw, rfl, rfl⟩) (w34 hw) (ty := (.array .int)) (by decide) rfl rfl (k := 11) rfl (j := 17) rfl (L' := ((b121, .inr (.int, [.int 0, .int 0, .int 0])) :: (b120, .inr (.int, [.int 0, .int 0])) :: (b119, .inr (.int, [.int 0, .int 0])) :: (b118, .inr (.int, [.int 0, .int 1, .int 2])) :: (b107, .inr (.int, [.int 0, .int 1])) :: (b116, .inr (.int, [.int 0, .int 2])) :: (b106, .inr (.int, [.int 0, .int 0])) :: (b114, .inr (.long, [.long 0, .long 0])) :: (b113, .inr (.int, [.int 0, .int 0])) :: (b112, .inr (.long, [.long 0, .long 0])) :: (b111, .inr (.int, [.int 0, .int 0])) :: (b110, oLS (.int 0) (.int 0) .null (.int 0) (.int 0) (.ref b111) (.ref b112) (.ref b113) (.ref b114) (.ref b108) (.ref b109) (.ref b116) (.ref b107) (.ref b106) (.ref b118) (.ref b119) (.ref b120) (.ref b121) .null .null .null .null .null .null .null .null .null .null .null) :: (b109, .inr (.int, [.int 0, .int 4])) :: (b108, .inr (.long, [.long hi, .long mid, .long lo, .long p0])) :: (b105, .inr (.int, [.int 1, .int 3])) :: (b101, oNM (.int 1) (.ref b107) (.ref b106) (.ref b105) (.int 2) .null .null (.int 0)) :: F)) rfl ?_
  refine s_aload K d6_164 (pc' := 166) rfl rfl rfl ?_
  refine s_aloadN K d6_166 (pc' := 167) rfl rfl rfl ?_
  refine s_getf K d6_167 (pc' := 170) rfl (w96 hw) (k := 11) rfl (j := 17) rfl ?_
  refine s_front (k := 15) rfl (L' := ((b101, oNM (.int 1) (.ref b107) (.ref b106) (.ref b105) (.int 2) .null .null (.int 0)) :: (b121, .inr (.int, [.int 0, .int 0, .int 0])) :: (b120, .inr (.int, [.int 0, .int 0])) :: (b119, .inr (.int, [.int 0, .int 0])) :: (b118, .inr (.int, [.int 0, .int 1, .int 2])) :: (b107, .inr (.int, [.int 0, .int 1])) :: (b116, .inr (.int, [.int 0, .int 2])) :: (b106, .inr (.int, [.int 0, .int 0])) :: (b114, .inr (.long, [.long 0, .long 0])) :: (b113, .inr (.int, [.int 0, .int 0])) :: (b112, .inr (.long, [.long 0, .long 0])) :: (b111, .inr (.int, [.int 0, .int 0])) :: (b110, oLS (.int 0) (.int 0) .null (.int 0) (.int 0) (.ref b111) (.ref b112) (.ref b113) (.ref b114) (.ref b108) (.ref b109) (.ref b116) (.ref b107) (.ref b106) (.ref b118) (.ref b119) (.ref b120) (.ref b121) .null .null .null .null .null .null .null .null .null .null .null) :: (b109, .inr (.int, [.int 0, .int 4])) :: (b108, .inr (.long, [.long hi, .long mid, .long lo, .long p0])) :: (b105, .inr (.int, [.int 1, .int 3])) :: F)) rfl ?_
  refine s_front (k := 15) rfl (L' := ((b105, .inr (.int, [.int 1, .int 3])) :: (b101, oNM (.int 1) (.ref b107) (.ref b106) (.ref b105) (.int 2) .null .null (.int 0)) :: (b121, .inr (.int, [.int 0, .int 0, .int 0])) :: (b120, .inr (.int, [.int 0, .int 0])) :: (b119, .inr (.int, [.int 0, .int 0])) :: (b118, .inr (.int, [.int 0, .int 1, .int 2])) :: (b107, .inr (.int, [.int 0, .int 1])) :: (b116, .inr (.int, [.int 0, .int 2])) :: (b106, .inr (.int, [.int 0, .int 0])) :: (b114, .inr (.long, [.long 0, .long 0])) :: (b113, .inr (.int, [.int 0, .int 0])) :: (b112, .inr (.long, [.long 0, .long 0])) :: (b111, .inr (.int, [.int 0, .int 0])) :: (b110, oLS (.int 0) (.int 0) .null (.int 0) (.int 0) (.ref b111) (.ref b112) (.ref b113) (.ref b114) (.ref b108) (.ref b109) (.ref b116) (.ref b107) (.ref b106) (.ref b118) (.ref b119) (.ref b120) (.ref b121) .null .null .null .null .null .null .null .null .null .null .null) :: (b109, .inr (.int, [.int 0, .int 4])) :: (b108, .inr (.long, [.long hi, .long mid, .long lo, .long p0])) :: F)) rfl ?_
  refine s_front (k := 8) rfl (L' := ((b106, .inr (.int, [.int 0, .int 0])) :: (b105, .inr (.int, [.int 1, .int 3])) :: (b101, oNM (.int 1) (.ref b107) (.ref b106) (.ref b105) (.int 2) .null .null (.int 0)) :: (b121, .inr (.int, [.int 0, .int 0, .int 0])) :: (b120, .inr (.int, [.int 0, .int 0])) :: (b119, .inr (.int, [.int 0, .int 0])) :: (b118, .inr (.int, [.int 0, .int 1, .int 2])) :: (b107, .inr (.int, [.int 0, .int 1])) :: (b116, .inr (.int, [.int 0, .int 2])) :: (b114, .inr (.long, [.long 0, .long 0])) :: (b113, .inr (.int, [.int 0, .int 0])) :: (b112, .inr (.long, [.long 0, .long 0])) :: (b111, .inr (.int, [.int 0, .int 0])) :: (b110, oLS (.int 0) (.int 0) .null (.int 0) (.int 0) (.ref b111) (.ref b112) (.ref b113) (.ref b114) (.ref b108) (.ref b109) (.ref b116) (.ref b107) (.ref b106) (.ref b118) (.ref b119) (.ref b120) (.ref b121) .null .null .null .null .null .null .null .null .null .null .null) :: (b109, .inr (.int, [.int 0, .int 4])) :: (b108, .inr (.long, [.long hi, .long mid, .long lo, .long p0])) :: F)) rfl ?_
  refine s_front (k := 7) rfl (L' := ((b107, .inr (.int, [.int 0, .int 1])) :: (b106, .inr (.int, [.int 0, .int 0])) :: (b105, .inr (.int, [.int 1, .int 3])) :: (b101, oNM (.int 1) (.ref b107) (.ref b106) (.ref b105) (.int 2) .null .null (.int 0)) :: (b121, .inr (.int, [.int 0, .int 0, .int 0])) :: (b120, .inr (.int, [.int 0, .int 0])) :: (b119, .inr (.int, [.int 0, .int 0])) :: (b118, .inr (.int, [.int 0, .int 1, .int 2])) :: (b116, .inr (.int, [.int 0, .int 2])) :: (b114, .inr (.long, [.long 0, .long 0])) :: (b113, .inr (.int, [.int 0, .int 0])) :: (b112, .inr (.long, [.long 0, .long 0])) :: (b111, .inr (.int, [.int 0, .int 0])) :: (b110, oLS (.int 0) (.int 0) .null (.int 0) (.int 0) (.ref b111) (.ref b112) (.ref b113) (.ref b114) (.ref b108) (.ref b109) (.ref b116) (.ref b107) (.ref b106) (.ref b118) (.ref b119) (.ref b120) (.ref b121) .null .null .null .null .null .null .null .null .null .null .null) :: (b109, .inr (.int, [.int 0, .int 4])) :: (b108, .inr (.long, [.long hi, .long mid, .long lo, .long p0])) :: F)) rfl ?_
  refine s_front (k := 4) rfl (L' := ((b121, .inr (.int, [.int 0, .int 0, .int 0])) :: (b107, .inr (.int, [.int 0, .int 1])) :: (b106, .inr (.int, [.int 0, .int 0])) :: (b105, .inr (.int, [.int 1, .int 3])) :: (b101, oNM (.int 1) (.ref b107) (.ref b106) (.ref b105) (.int 2) .null .null (.int 0)) :: (b120, .inr (.int, [.int 0, .int 0])) :: (b119, .inr (.int, [.int 0, .int 0])) :: (b118, .inr (.int, [.int 0, .int 1, .int 2])) :: (b116, .inr (.int, [.int 0, .int 2])) :: (b114, .inr (.long, [.long 0, .long 0])) :: (b113, .inr (.int, [.int 0, .int 0])) :: (b112, .inr (.long, [.long 0, .long 0])) :: (b111, .inr (.int, [.int 0, .int 0])) :: (b110, oLS (.int 0) (.int 0) .null (.int 0) (.int 0) (.ref b111) (.ref b112) (.ref b113) (.ref b114) (.ref b108) (.ref b109) (.ref b116) (.ref b107) (.ref b106) (.ref b118) (.ref b119) (.ref b120) (.ref b121) .null .null .null .null .null .null .null .null .null .null .null) :: (b109, .inr (.int, [.int 0, .int 4])) :: (b108, .inr (.long, [.long hi, .long mid, .long lo, .long p0])) :: F)) rfl ?_
  refine s_virtual K d6_170 (pc' := 173) rfl (k := 4) (a := b101) rfl (as := [.ref b121]) (k7_number hw _ b121 b107 b106 b105 b101) (w98 hw) (w99 hw) (w101 hw) (w100 hw) (w9 hw) (w102 hw) (by decide) pd_3 rfl (rest := []) rfl rfl (W := 0) (Nat.le_of_eq rfl) (by decide) (by decide) (ce' := 7) rfl (sl' := 16) rfl (by decide) (by decide) ?_
  rintro v _ ⟨rfl, rfl⟩
  show Go l Z n0 _ _ κ 7 16 ((b121, .inr (.int, [.int 0, .int 1, .int 4])) :: (b107, .inr (.int, [.int 0, .int 1])) :: (b106, .inr (.int, [.int 0, .int 0])) :: (b105, .inr (.int, [.int 1, .int 3])) :: (b101, oNM (.int 1) (.ref b107) (.ref b106) (.ref b105) (.int 2) .null .null (.int 0)) :: (b120, .inr (.int, [.int 0, .int 0])) :: (b119, .inr (.int, [.int 0, .int 0])) :: (b118, .inr (.int, [.int 0, .int 1, .int 2])) :: (b116, .inr (.int, [.int 0, .int 2])) :: (b114, .inr (.long, [.long 0, .long 0])) :: (b113, .inr (.int, [.int 0, .int 0])) :: (b112, .inr (.long, [.long 0, .long 0])) :: (b111, .inr (.int, [.int 0, .int 0])) :: (b110, oLS (.int 0) (.int 0) .null (.int 0) (.int 0) (.ref b111) (.ref b112) (.ref b113) (.ref b114) (.ref b108) (.ref b109) (.ref b116) (.ref b107) (.ref b106) (.ref b118) (.ref b119) (.ref b120) (.ref b121) .null .null .null .null .null .null .null .null .null .null .null) :: (b109, .inr (.int, [.int 0, .int 4])) :: (b108, .inr (.long, [.long hi, .long mid, .long lo, .long p0])) :: F) 173 #[.val (.ref b110), .val (.int 0), .val (.int 0), .val .null, .val (.int 0), .val (.ref b111), .val (.ref b112), .val (.ref b108), .val (.ref b109), .val .null, .val (.ref b101), .unset, .unset] []
  refine s_aload K d6_173 (pc' := 175) rfl rfl rfl ?_
  refine s_aloadN K d6_175 (pc' := 176) rfl rfl rfl ?_
  refine s_getf K d6_176 (pc' := 179) rfl (w82 hw) (k := 13) rfl (j := 11) rfl ?_
  refine s_aloadN K d6_179 (pc' := 180) rfl rfl rfl ?_
  refine s_getf K d6_180 (pc' := 183) rfl (w89 hw) (k := 13) rfl (j := 14) rfl ?_
  refine s_aloadN K d6_183 (pc' := 184) rfl rfl rfl ?_
  refine s_getf K d6_184 (pc' := 187) rfl (w92 hw) (k := 13) rfl (j := 15) rfl ?_
  refine s_aloadN K d6_187 (pc' := 188) rfl rfl rfl ?_
  refine s_getf K d6_188 (pc' := 191) rfl (w94 hw) (k := 13) rfl (j := 16) rfl ?_
  refine s_front (k := 8) rfl (L' := ((b116, .inr (.int, [.int 0, .int 2])) :: (b121, .inr (.int, [.int 0, .int 1, .int 4])) :: (b107, .inr (.int, [.int 0, .int 1])) :: (b106, .inr (.int, [.int 0, .int 0])) :: (b105, .inr (.int, [.int 1, .int 3])) :: (b101, oNM (.int 1) (.ref b107) (.ref b106) (.ref b105) (.int 2) .null .null (.int 0)) :: (b120, .inr (.int, [.int 0, .int 0])) :: (b119, .inr (.int, [.int 0, .int 0])) :: (b118, .inr (.int, [.int 0, .int 1, .int 2])) :: (b114, .inr (.long, [.long 0, .long 0])) :: (b113, .inr (.int, [.int 0, .int 0])) :: (b112, .inr (.long, [.long 0, .long 0])) :: (b111, .inr (.int, [.int 0, .int 0])) :: (b110, oLS (.int 0) (.int 0) .null (.int 0) (.int 0) (.ref b111) (.ref b112) (.ref b113) (.ref b114) (.ref b108) (.ref b109) (.ref b116) (.ref b107) (.ref b106) (.ref b118) (.ref b119) (.ref b120) (.ref b121) .null .null .null .null .null .null .null .null .null .null .null) :: (b109, .inr (.int, [.int 0, .int 4])) :: (b108, .inr (.long, [.long hi, .long mid, .long lo, .long p0])) :: F)) rfl ?_
  refine s_front (k := 8) rfl (L' := ((b118, .inr (.int, [.int 0, .int 1, .int 2])) :: (b116, .inr (.int, [.int 0, .int 2])) :: (b121, .inr (.int, [.int 0, .int 1, .int 4])) :: (b107, .inr (.int, [.int 0, .int 1])) :: (b106, .inr (.int, [.int 0, .int 0])) :: (b105, .inr (.int, [.int 1, .int 3])) :: (b101, oNM (.int 1) (.ref b107) (.ref b106) (.ref b105) (.int 2) .null .null (.int 0)) :: (b120, .inr (.int, [.int 0, .int 0])) :: (b119, .inr (.int, [.int 0, .int 0])) :: (b114, .inr (.long, [.long 0, .long 0])) :: (b113, .inr (.int, [.int 0, .int 0])) :: (b112, .inr (.long, [.long 0, .long 0])) :: (b111, .inr (.int, [.int 0, .int 0])) :: (b110, oLS (.int 0) (.int 0) .null (.int 0) (.int 0) (.ref b111) (.ref b112) (.ref b113) (.ref b114) (.ref b108) (.ref b109) (.ref b116) (.ref b107) (.ref b106) (.ref b118) (.ref b119) (.ref b120) (.ref b121) .null .null .null .null .null .null .null .null .null .null .null) :: (b109, .inr (.int, [.int 0, .int 4])) :: (b108, .inr (.long, [.long hi, .long mid, .long lo, .long p0])) :: F)) rfl ?_
  refine s_front (k := 8) rfl (L' := ((b119, .inr (.int, [.int 0, .int 0])) :: (b118, .inr (.int, [.int 0, .int 1, .int 2])) :: (b116, .inr (.int, [.int 0, .int 2])) :: (b121, .inr (.int, [.int 0, .int 1, .int 4])) :: (b107, .inr (.int, [.int 0, .int 1])) :: (b106, .inr (.int, [.int 0, .int 0])) :: (b105, .inr (.int, [.int 1, .int 3])) :: (b101, oNM (.int 1) (.ref b107) (.ref b106) (.ref b105) (.int 2) .null .null (.int 0)) :: (b120, .inr (.int, [.int 0, .int 0])) :: (b114, .inr (.long, [.long 0, .long 0])) :: (b113, .inr (.int, [.int 0, .int 0])) :: (b112, .inr (.long, [.long 0, .long 0])) :: (b111, .inr (.int, [.int 0, .int 0])) :: (b110, oLS (.int 0) (.int 0) .null (.int 0) (.int 0) (.ref b111) (.ref b112) (.ref b113) (.ref b114) (.ref b108) (.ref b109) (.ref b116) (.ref b107) (.ref b106) (.ref b118) (.ref b119) (.ref b120) (.ref b121) .null .null .null .null .null .null .null .null .null .null .null) :: (b109, .inr (.int, [.int 0, .int 4])) :: (b108, .inr (.long, [.long hi, .long mid, .long lo, .long p0])) :: F)) rfl ?_
  refine s_front (k := 8) rfl (L' := ((b120, .inr (.int, [.int 0, .int 0])) :: (b119, .inr (.int, [.int 0, .int 0])) :: (b118, .inr (.int, [.int 0, .int 1, .int 2])) :: (b116, .inr (.int, [.int 0, .int 2])) :: (b121, .inr (.int, [.int 0, .int 1, .int 4])) :: (b107, .inr (.int, [.int 0, .int 1])) :: (b106, .inr (.int, [.int 0, .int 0])) :: (b105, .inr (.int, [.int 1, .int 3])) :: (b101, oNM (.int 1) (.ref b107) (.ref b106) (.ref b105) (.int 2) .null .null (.int 0)) :: (b114, .inr (.long, [.long 0, .long 0])) :: (b113, .inr (.int, [.int 0, .int 0])) :: (b112, .inr (.long, [.long 0, .long 0])) :: (b111, .inr (.int, [.int 0, .int 0])) :: (b110, oLS (.int 0) (.int 0) .null (.int 0) (.int 0) (.ref b111) (.ref b112) (.ref b113) (.ref b114) (.ref b108) (.ref b109) (.ref b116) (.ref b107) (.ref b106) (.ref b118) (.ref b119) (.ref b120) (.ref b121) .null .null .null .null .null .null .null .null .null .null .null) :: (b109, .inr (.int, [.int 0, .int 4])) :: (b108, .inr (.long, [.long hi, .long mid, .long lo, .long p0])) :: F)) rfl ?_
  refine s_front (k := 8) rfl (L' := ((b101, oNM (.int 1) (.ref b107) (.ref b106) (.ref b105) (.int 2) .null .null (.int 0)) :: (b120, .inr (.int, [.int 0, .int 0])) :: (b119, .inr (.int, [.int 0, .int 0])) :: (b118, .inr (.int, [.int 0, .int 1, .int 2])) :: (b116, .inr (.int, [.int 0, .int 2])) :: (b121, .inr (.int, [.int 0, .int 1, .int 4])) :: (b107, .inr (.int, [.int 0, .int 1])) :: (b106, .inr (.int, [.int 0, .int 0])) :: (b105, .inr (.int, [.int 1, .int 3])) :: (b114, .inr (.long, [.long 0, .long 0])) :: (b113, .inr (.int, [.int 0, .int 0])) :: (b112, .inr (.long, [.long 0, .long 0])) :: (b111, .inr (.int, [.int 0, .int 0])) :: (b110, oLS (.int 0) (.int 0) .null (.int 0) (.int 0) (.ref b111) (.ref b112) (.ref b113) (.ref b114) (.ref b108) (.ref b109) (.ref b116) (.ref b107) (.ref b106) (.ref b118) (.ref b119) (.ref b120) (.ref b121) .null .null .null .null .null .null .null .null .null .null .null) :: (b109, .inr (.int, [.int 0, .int 4])) :: (b108, .inr (.long, [.long hi, .long mid, .long lo, .long p0])) :: F)) rfl ?_
  refine s_front (k := 8) rfl (L' := ((b105, .inr (.int, [.int 1, .int 3])) :: (b101, oNM (.int 1) (.ref b107) (.ref b106) (.ref b105) (.int 2) .null .null (.int 0)) :: (b120, .inr (.int, [.int 0, .int 0])) :: (b119, .inr (.int, [.int 0, .int 0])) :: (b118, .inr (.int, [.int 0, .int 1, .int 2])) :: (b116, .inr (.int, [.int 0, .int 2])) :: (b121, .inr (.int, [.int 0, .int 1, .int 4])) :: (b107, .inr (.int, [.int 0, .int 1])) :: (b106, .inr (.int, [.int 0, .int 0])) :: (b114, .inr (.long, [.long 0, .long 0])) :: (b113, .inr (.int, [.int 0, .int 0])) :: (b112, .inr (.long, [.long 0, .long 0])) :: (b111, .inr (.int, [.int 0, .int 0])) :: (b110, oLS (.int 0) (.int 0) .null (.int 0) (.int 0) (.ref b111) (.ref b112) (.ref b113) (.ref b114) (.ref b108) (.ref b109) (.ref b116) (.ref b107) (.ref b106) (.ref b118) (.ref b119) (.ref b120) (.ref b121) .null .null .null .null .null .null .null .null .null .null .null) :: (b109, .inr (.int, [.int 0, .int 4])) :: (b108, .inr (.long, [.long hi, .long mid, .long lo, .long p0])) :: F)) rfl ?_
  refine s_front (k := 8) rfl (L' := ((b106, .inr (.int, [.int 0, .int 0])) :: (b105, .inr (.int, [.int 1, .int 3])) :: (b101, oNM (.int 1) (.ref b107) (.ref b106) (.ref b105) (.int 2) .null .null (.int 0)) :: (b120, .inr (.int, [.int 0, .int 0])) :: (b119, .inr (.int, [.int 0, .int 0])) :: (b118, .inr (.int, [.int 0, .int 1, .int 2])) :: (b116, .inr (.int, [.int 0, .int 2])) :: (b121, .inr (.int, [.int 0, .int 1, .int 4])) :: (b107, .inr (.int, [.int 0, .int 1])) :: (b114, .inr (.long, [.long 0, .long 0])) :: (b113, .inr (.int, [.int 0, .int 0])) :: (b112, .inr (.long, [.long 0, .long 0])) :: (b111, .inr (.int, [.int 0, .int 0])) :: (b110, oLS (.int 0) (.int 0) .null (.int 0) (.int 0) (.ref b111) (.ref b112) (.ref b113) (.ref b114) (.ref b108) (.ref b109) (.ref b116) (.ref b107) (.ref b106) (.ref b118) (.ref b119) (.ref b120) (.ref b121) .null .null .null .null .null .null .null .null .null .null .null) :: (b109, .inr (.int, [.int 0, .int 4])) :: (b108, .inr (.long, [.long hi, .long mid, .long lo, .long p0])) :: F)) rfl ?_
  refine s_front (k := 8) rfl (L' := ((b107, .inr (.int, [.int 0, .int 1])) :: (b106, .inr (.int, [.int 0, .int 0])) :: (b105, .inr (.int, [.int 1, .int 3])) :: (b101, oNM (.int 1) (.ref b107) (.ref b106) (.ref b105) (.int 2) .null .null (.int 0)) :: (b120, .inr (.int, [.int 0, .int 0])) :: (b119, .inr (.int, [.int 0, .int 0])) :: (b118, .inr (.int, [.int 0, .int 1, .int 2])) :: (b116, .inr (.int, [.int 0, .int 2])) :: (b121, .inr (.int, [.int 0, .int 1, .int 4])) :: (b114, .inr (.long, [.long 0, .long 0])) :: (b113, .inr (.int, [.int 0, .int 0])) :: (b112, .inr (.long, [.long 0, .long 0])) :: (b111, .inr (.int, [.int 0, .int 0])) :: (b110, oLS (.int 0) (.int 0) .null (.int 0) (.int 0) (.ref b111) (.ref b112) (.ref b113) (.ref b114) (.ref b108) (.ref b109) (.ref b116) (.ref b107) (.ref b106) (.ref b118) (.ref b119) (.ref b120) (.ref b121) .null .null .null .null .null .null .null .null .null .null .null) :: (b109, .inr (.int, [.int 0, .int 4])) :: (b108, .inr (.long, [.long hi, .long mid, .long lo, .long p0])) :: F)) rfl ?_
  refine s_virtual K d6_191 (pc' := 194) rfl (k := 3) (a := b101) rfl (as := [.ref b116, .ref b118, .ref b119, .ref b120]) (k8_list hw _ b107 b106 b105 b101 b120 b119 b118 b116) (w103 hw) (w104 hw) (w106 hw) (w105 hw) (w9 hw) (w107 hw) (by decide) pd_6 rfl (rest := []) rfl rfl (W := 0) (Nat.le_of_eq rfl) (by decide) (by decide) (ce' := 9) rfl (sl' := 19) rfl (by decide) (by decide) ?_
  rintro v _ ⟨b126, b127, rfl, rfl⟩
  show Go l Z n0 _ _ κ 9 19 ((b126, .inr (.int, [.int 1, .int 2])) :: (b127, .inr (.int, [.int 0])) :: (b107, .inr (.int, [.int 0, .int 1])) :: (b106, .inr (.int, [.int 0, .int 0])) :: (b105, .inr (.int, [.int 1, .int 3])) :: (b101, oNM (.int 1) (.ref b107) (.ref b106) (.ref b105) (.int 2) .null .null (.int 0)) :: (b120, .inr (.int, [.int 0, .int 0])) :: (b119, .inr (.int, [.int 0, .int 1])) :: (b118, .inr (.int, [.int 0, .int 1, .int 2])) :: (b116, .inr (.int, [.int 0, .int 2])) :: (b121, .inr (.int, [.int 0, .int 1, .int 4])) :: (b114, .inr (.long, [.long 0, .long 0])) :: (b113, .inr (.int, [.int 0, .int 0])) :: (b112, .inr (.long, [.long 0, .long 0])) :: (b111, .inr (.int, [.int 0, .int 0])) :: (b110, oLS (.int 0) (.int 0) .null (.int 0) (.int 0) (.ref b111) (.ref b112) (.ref b113) (.ref b114) (.ref b108) (.ref b109) (.ref b116) (.ref b107) (.ref b106) (.ref b118) (.ref b119) (.ref b120) (.ref b121) .null .null .null .null .null .null .null .null .null .null .null) :: (b109, .inr (.int, [.int 0, .int 4])) :: (b108, .inr (.long, [.long hi, .long mid, .long lo, .long p0])) :: F) 194 #[.val (.ref b110), .val (.int 0), .val (.int 0), .val .null, .val (.int 0), .val (.ref b111), .val (.ref b112), .val (.ref b108), .val (.ref b109), .val .null, .val (.ref b101), .unset, .unset] []
  refine s_aloadN K d6_194 (pc' := 195) rfl rfl rfl ?_
  refine s_aload K d6_195 (pc' := 197) rfl rfl rfl ?_
  refine s_aloadN K d6_197 (pc' := 198) rfl rfl rfl ?_
  refine s_getf K d6_198 (pc' := 201) rfl (w89 hw) (k := 15) rfl (j := 14) rfl ?_
  refine s_aloadN K d6_201 (pc' := 202) rfl rfl rfl ?_
  refine s_getf K d6_202 (pc' := 205) rfl (w94 hw) (k := 15) rfl (j := 16) rfl ?_
  refine s_front (k := 8) rfl (L' := ((b118, .inr (.int, [.int 0, .int 1, .int 2])) :: (b126, .inr (.int, [.int 1, .int 2])) :: (b127, .inr (.int, [.int 0])) :: (b107, .inr (.int, [.int 0, .int 1])) :: (b106, .inr (.int, [.int 0, .int 0])) :: (b105, .inr (.int, [.int 1, .int 3])) :: (b101, oNM (.int 1) (.ref b107) (.ref b106) (.ref b105) (.int 2) .null .null (.int 0)) :: (b120, .inr (.int, [.int 0, .int 0])) :: (b119, .inr (.int, [.int 0, .int 1])) :: (b116, .inr (.int, [.int 0, .int 2])) :: (b121, .inr (.int, [.int 0, .int 1, .int 4])) :: (b114, .inr (.long, [.long 0, .long 0])) :: (b113, .inr (.int, [.int 0, .int 0])) :: (b112, .inr (.long, [.long 0, .long 0])) :: (b111, .inr (.int, [.int 0, .int 0])) :: (b110, oLS (.int 0) (.int 0) .null (.int 0) (.int 0) (.ref b111) (.ref b112) (.ref b113) (.ref b114) (.ref b108) (.ref b109) (.ref b116) (.ref b107) (.ref b106) (.ref b118) (.ref b119) (.ref b120) (.ref b121) .null .null .null .null .null .null .null .null .null .null .null) :: (b109, .inr (.int, [.int 0, .int 4])) :: (b108, .inr (.long, [.long hi, .long mid, .long lo, .long p0])) :: F)) rfl ?_
  refine s_front (k := 7) rfl (L' := ((b120, .inr (.int, [.int 0, .int 0])) :: (b118, .inr (.int, [.int 0, .int 1, .int 2])) :: (b126, .inr (.int, [.int 1, .int 2])) :: (b127, .inr (.int, [.int 0])) :: (b107, .inr (.int, [.int 0, .int 1])) :: (b106, .inr (.int, [.int 0, .int 0])) :: (b105, .inr (.int, [.int 1, .int 3])) :: (b101, oNM (.int 1) (.ref b107) (.ref b106) (.ref b105) (.int 2) .null .null (.int 0)) :: (b119, .inr (.int, [.int 0, .int 1])) :: (b116, .inr (.int, [.int 0, .int 2])) :: (b121, .inr (.int, [.int 0, .int 1, .int 4])) :: (b114, .inr (.long, [.long 0, .long 0])) :: (b113, .inr (.int, [.int 0, .int 0])) :: (b112, .inr (.long, [.long 0, .long 0])) :: (b111, .inr (.int, [.int 0, .int 0])) :: (b110, oLS (.int 0) (.int 0) .null (.int 0) (.int 0) (.ref b111) (.ref b112) (.ref b113) (.ref b114) (.ref b108) (.ref b109) (.ref b116) (.ref b107) (.ref b106) (.ref b118) (.ref b119) (.ref b120) (.ref b121) .null .null .null .null .null .null .null .null .null .null .null) :: (b109, .inr (.int, [.int 0, .int 4])) :: (b108, .inr (.long, [.long hi, .long mid, .long lo, .long p0])) :: F)) rfl ?_
  refine s_front (k := 7) rfl (L' := ((b101, oNM (.int 1) (.ref b107) (.ref b106) (.ref b105) (.int 2) .null .null (.int 0)) :: (b120, .inr (.int, [.int 0, .int 0])) :: (b118, .inr (.int, [.int 0, .int 1, .int 2])) :: (b126, .inr (.int, [.int 1, .int 2])) :: (b127, .inr (.int, [.int 0])) :: (b107, .inr (.int, [.int 0, .int 1])) :: (b106, .inr (.int, [.int 0, .int 0])) :: (b105, .inr (.int, [.int 1, .int 3])) :: (b119, .inr (.int, [.int 0, .int 1])) :: (b116, .inr (.int, [.int 0, .int 2])) :: (b121, .inr (.int, [.int 0, .int 1, .int 4])) :: (b114, .inr (.long, [.long 0, .long 0])) :: (b113, .inr (.int, [.int 0, .int 0])) :: (b112, .inr (.long, [.long 0, .long 0])) :: (b111, .inr (.int, [.int 0, .int 0])) :: (b110, oLS (.int 0) (.int 0) .null (.int 0) (.int 0) (.ref b111) (.ref b112) (.ref b113) (.ref b114) (.ref b108) (.ref b109) (.ref b116) (.ref b107) (.ref b106) (.ref b118) (.ref b119) (.ref b120) (.ref b121) .null .null .null .null .null .null .null .null .null .null .null) :: (b109, .inr (.int, [.int 0, .int 4])) :: (b108, .inr (.long, [.long hi, .long mid, .long lo, .long p0])) :: F)) rfl ?_
  refine s_front (k := 7) rfl (L' := ((b105, .inr (.int, [.int 1, .int 3])) :: (b101, oNM (.int 1) (.ref b107) (.ref b106) (.ref b105) (.int 2) .null .null (.int 0)) :: (b120, .inr (.int, [.int 0, .int 0])) :: (b118, .inr (.int, [.int 0, .int 1, .int 2])) :: (b126, .inr (.int, [.int 1, .int 2])) :: (b127, .inr (.int, [.int 0])) :: (b107, .inr (.int, [.int 0, .int 1])) :: (b106, .inr (.int, [.int 0, .int 0])) :: (b119, .inr (.int, [.int 0, .int 1])) :: (b116, .inr (.int, [.int 0, .int 2])) :: (b121, .inr (.int, [.int 0, .int 1, .int 4])) :: (b114, .inr (.long, [.long 0, .long 0])) :: (b113, .inr (.int, [.int 0, .int 0])) :: (b112, .inr (.long, [.long 0, .long 0])) :: (b111, .inr (.int, [.int 0, .int 0])) :: (b110, oLS (.int 0) (.int 0) .null (.int 0) (.int 0) (.ref b111) (.ref b112) (.ref b113) (.ref b114) (.ref b108) (.ref b109) (.ref b116) (.ref b107) (.ref b106) (.ref b118) (.ref b119) (.ref b120) (.ref b121) .null .null .null .null .null .null .null .null .null .null .null) :: (b109, .inr (.int, [.int 0, .int 4])) :: (b108, .inr (.long, [.long hi, .long mid, .long lo, .long p0])) :: F)) rfl ?_
  refine s_front (k := 7) rfl (L' := ((b106, .inr (.int, [.int 0, .int 0])) :: (b105, .inr (.int, [.int 1, .int 3])) :: (b101, oNM (.int 1) (.ref b107) (.ref b106) (.ref b105) (.int 2) .null .null (.int 0)) :: (b120, .inr (.int, [.int 0, .int 0])) :: (b118, .inr (.int, [.int 0, .int 1, .int 2])) :: (b126, .inr (.int, [.int 1, .int 2])) :: (b127, .inr (.int, [.int 0])) :: (b107, .inr (.int, [.int 0, .int 1])) :: (b119, .inr (.int, [.int 0, .int 1])) :: (b116, .inr (.int, [.int 0, .int 2])) :: (b121, .inr (.int, [.int 0, .int 1, .int 4])) :: (b114, .inr (.long, [.long 0, .long 0])) :: (b113, .inr (.int, [.int 0, .int 0])) :: (b112, .inr (.long, [.long 0, .long 0])) :: (b111, .inr (.int, [.int 0, .int 0])) :: (b110, oLS (.int 0) (.int 0) .null (.int 0) (.int 0) (.ref b111) (.ref b112) (.ref b113) (.ref b114) (.ref b108) (.ref b109) (.ref b116) (.ref b107) (.ref b106) (.ref b118) (.ref b119) (.ref b120) (.ref b121) .null .null .null .null .null .null .null .null .null .null .null) :: (b109, .inr (.int, [.int 0, .int 4])) :: (b108, .inr (.long, [.long hi, .long mid, .long lo, .long p0])) :: F)) rfl ?_
  refine s_front (k := 7) rfl (L' := ((b107, .inr (.int, [.int 0, .int 1])) :: (b106, .inr (.int, [.int 0, .int 0])) :: (b105, .inr (.int, [.int 1, .int 3])) :: (b101, oNM (.int 1) (.ref b107) (.ref b106) (.ref b105) (.int 2) .null .null (.int 0)) :: (b120, .inr (.int, [.int 0, .int 0])) :: (b118, .inr (.int, [.int 0, .int 1, .int 2])) :: (b126, .inr (.int, [.int 1, .int 2])) :: (b127, .inr (.int, [.int 0])) :: (b119, .inr (.int, [.int 0, .int 1])) :: (b116, .inr (.int, [.int 0, .int 2])) :: (b121, .inr (.int, [.int 0, .int 1, .int 4])) :: (b114, .inr (.long, [.long 0, .long 0])) :: (b113, .inr (.int, [.int 0, .int 0])) :: (b112, .inr (.long, [.long 0, .long 0])) :: (b111, .inr (.int, [.int 0, .int 0])) :: (b110, oLS (.int 0) (.int 0) .null (.int 0) (.int 0) (.ref b111) (.ref b112) (.ref b113) (.ref b114) (.ref b108) (.ref b109) (.ref b116) (.ref b107) (.ref b106) (.ref b118) (.ref b119) (.ref b120) (.ref b121) .null .null .null .null .null .null .null .null .null .null .null) :: (b109, .inr (.int, [.int 0, .int 4])) :: (b108, .inr (.long, [.long hi, .long mid, .long lo, .long p0])) :: F)) rfl ?_
  refine s_virtual K d6_205 (pc' := 208) rfl (k := 3) (a := b101) rfl (as := [.ref b118, .ref b120]) (k12_runs hw _ b107 b106 b105 b101 b120 b118) (w127 hw) (w128 hw) (w130 hw) (w129 hw) (w9 hw) (w131 hw) (by decide) pd_7 rfl (rest := [.ref b110]) rfl rfl (W := 1) (Nat.le_of_eq rfl) (by decide) (by decide) (ce' := 9) rfl (sl' := 19) rfl (by decide) (by decide) ?_
  rintro v _ ⟨rfl, rfl⟩
  show Go l Z n0 _ _ κ 9 19 ((b107, .inr (.int, [.int 0, .int 1])) :: (b106, .inr (.int, [.int 0, .int 0])) :: (b105, .inr (.int, [.int 1, .int 3])) :: (b101, oNM (.int 1) (.ref b107) (.ref b106) (.ref b105) (.int 2) .null .null (.int 0)) :: (b120, .inr (.int, [.int 0, .int 0])) :: (b118, .inr (.int, [.int 0, .int 1, .int 2])) :: (b126, .inr (.int, [.int 1, .int 2])) :: (b127, .inr (.int, [.int 0])) :: (b119, .inr (.int, [.int 0, .int 1])) :: (b116, .inr (.int, [.int 0, .int 2])) :: (b121, .inr (.int, [.int 0, .int 1, .int 4])) :: (b114, .inr (.long, [.long 0, .long 0])) :: (b113, .inr (.int, [.int 0, .int 0])) :: (b112, .inr (.long, [.long 0, .long 0])) :: (b111, .inr (.int, [.int 0, .int 0])) :: (b110, oLS (.int 0) (.int 0) .null (.int 0) (.int 0) (.ref b111) (.ref b112) (.ref b113) (.ref b114) (.ref b108) (.ref b109) (.ref b116) (.ref b107) (.ref b106) (.ref b118) (.ref b119) (.ref b120) (.ref b121) .null .null .null .null .null .null .null .null .null .null .null) :: (b109, .inr (.int, [.int 0, .int 4])) :: (b108, .inr (.long, [.long hi, .long mid, .long lo, .long p0])) :: F) 208 #[.val (.ref b110), .val (.int 0), .val (.int 0), .val .null, .val (.int 0), .val (.ref b111), .val (.ref b112), .val (.ref b108), .val (.ref b109), .val .null, .val (.ref b101), .unset, .unset] [.null, .ref b110]
  refine s_putf K d6_208 (pc' := 211) rfl (w132 hw) (Or.inr ⟨w133 hw, rfl, rfl⟩) (w34 hw) (ty := (.object "com/example/evenkeel/evenkeel/LagSeats$Runs")) (by decide) rfl rfl (k := 15) rfl (j := 18) rfl (L' := ((b107, .inr (.int, [.int 0, .int 1])) :: (b106, .inr (.int, [.int 0, .int 0])) :: (b105, .inr (.int, [.int 1, .int 3])) :: (b101, oNM (.int 1) (.ref b107) (.ref b106) (.ref b105) (.int 2) .null .null (.int 0)) :: (b120, .inr (.int, [.int 0, .int 0])) :: (b118, .inr (.int, [.int 0, .int 1, .int 2])) :: (b126, .inr (.int, [.int 1, .int 2])) :: (b127, .inr (.int, [.int 0])) :: (b119, .inr (.int, [.int 0, .int 1])) :: (b116, .inr (.int, [.int 0, .int 2])) :: (b121, .inr (.int, [.int 0, .int 1, .int 4])) :: (b114, .inr (.long, [.long 0, .long 0])) :: (b113, .inr (.int, [.int 0, .int 0])) :: (b112, .inr (.long, [.long 0, .long 0])) :: (b111, .inr (.int, [.int 0, .int 0])) :: (b110, oLS (.int 0) (.int 0) .null (.int 0) (.int 0) (.ref b111) (.ref b112) (.ref b113) (.ref b114) (.ref b108) (.ref b109) (.ref b116) (.ref b107) (.ref b106) (.ref b118) (.ref b119) (.ref b120) (.ref b121) .null .null .null .null .null .null .null .null .null .null .null) :: (b109, .inr (.int, [.int 0, .int 4])) :: (b108, .inr (.long, [.long hi, .long mid, .long lo, .long p0])) :: F)) rfl ?_
  refine s_aloadN K d6_211 (pc' := 212) rfl rfl rfl ?_
  refine s_aloadN K d6_212 (pc' := 213) rfl rfl rfl ?_
  refine s_getf K d6_213 (pc' := 216) rfl (w96 hw) (k := 15) rfl (j := 17) rfl ?_
  refine s_aload K d6_216 (pc' := 218) rfl rfl rfl ?_
  refine s_getf K d6_218 (pc' := 221) rfl (w91 hw) (k := 3) rfl (j := 4) rfl ?_
  refine s_iaload K d6_221 (pc' := 222) rfl (k := 10) rfl (i := 2) (by decide) rfl ?_
  refine s_newarr K d6_222 (pc' := 224) rfl rfl (w18 hw) (n := 4) (by decide) (cap := 4) (by decide) (by decide) (vs0 := [.int 0, .int 0, .int 0, .int 0]) rfl (ce' := 10) rfl (sl' := 23) rfl (by decide) (by decide) ?_
  intro b128
  refine s_putf K d6_224 (pc' := 227) rfl (w134 hw) (Or.inr ⟨w135 hw, rfl, rfl⟩) (w34 hw) (ty := (.array .int)) (by decide) rfl rfl (k := 16) rfl (j := 19) rfl (L' := ((b128, .inr (.int, [.int 0, .int 0, .int 0, .int 0])) :: (b107, .inr (.int, [.int 0, .int 1])) :: (b106, .inr (.int, [.int 0, .int 0])) :: (b105, .inr (.int, [.int 1, .int 3])) :: (b101, oNM (.int 1) (.ref b107) (.ref b106) (.ref b105) (.int 2) .null .null (.int 0)) :: (b120, .inr (.int, [.int 0, .int 0])) :: (b118, .inr (.int, [.int 0, .int 1, .int 2])) :: (b126, .inr (.int, [.int 1, .int 2])) :: (b127, .inr (.int, [.int 0])) :: (b119, .inr (.int, [.int 0, .int 1])) :: (b116, .inr (.int, [.int 0, .int 2])) :: (b121, .inr (.int, [.int 0, .int 1, .int 4])) :: (b114, .inr (.long, [.long 0, .long 0])) :: (b113, .inr (.int, [.int 0, .int 0])) :: (b112, .inr (.long, [.long 0, .long 0])) :: (b111, .inr (.int, [.int 0, .int 0])) :: (b110, oLS (.int 0) (.int 0) .null (.int 0) (.int 0) (.ref b111) (.ref b112) (.ref b113) (.ref b114) (.ref b108) (.ref b109) (.ref b116) (.ref b107) (.ref b106) (.ref b118) (.ref b119) (.ref b120) (.ref b121) .null (.ref b128) .null .null .null .null .null .null .null .null .null) :: (b109, .inr (.int, [.int 0, .int 4])) :: (b108, .inr (.long, [.long hi, .long mid, .long lo, .long p0])) :: F)) rfl ?_
  refine s_aloadN K d6_227 (pc' := 228) rfl rfl rfl ?_
  refine s_aloadN K d6_228 (pc' := 229) rfl rfl rfl ?_
  refine s_getf K d6_229 (pc' := 232) rfl (w134 hw) (k := 16) rfl (j := 19) rfl ?_
  refine s_len K d6_232 (pc' := 233) rfl (k := 0) rfl (z := (4 : Int32)) rfl ?_
  refine s_newarr K d6_233 (pc' := 235) rfl rfl (w32 hw) (n := 4) (by decide) (cap := 4) (by decide) (by decide) (vs0 := [.long 0, .long 0, .long 0, .long 0]) rfl (ce' := 11) rfl (sl' := 27) rfl (by decide) (by decide) ?_
  intro b129
  refine s_putf K d6_235 (pc' := 238) rfl (w136 hw) (Or.inr ⟨w137 hw, rfl, rfl⟩) (w34 hw) (ty := (.array .long)) (by decide) rfl rfl (k := 17) rfl (j := 20) rfl (L' := ((b129, .inr (.long, [.long 0, .long 0, .long 0, .long 0])) :: (b128, .inr (.int, [.int 0, .int 0, .int 0, .int 0])) :: (b107, .inr (.int, [.int 0, .int 1])) :: (b106, .inr (.int, [.int 0, .int 0])) :: (b105, .inr (.int, [.int 1, .int 3])) :: (b101, oNM (.int 1) (.ref b107) (.ref b106) (.ref b105) (.int 2) .null .null (.int 0)) :: (b120, .inr (.int, [.int 0, .int 0])) :: (b118, .inr (.int, [.int 0, .int 1, .int 2])) :: (b126, .inr (.int, [.int 1, .int 2])) :: (b127, .inr (.int, [.int 0])) :: (b119, .inr (.int, [.int 0, .int 1])) :: (b116, .inr (.int, [.int 0, .int 2])) :: (b121, .inr (.int, [.int 0, .int 1, .int 4])) :: (b114, .inr (.long, [.long 0, .long 0])) :: (b113, .inr (.int, [.int 0, .int 0])) :: (b112, .inr (.long, [.long 0, .long 0])) :: (b111, .inr (.int, [.int 0, .int 0])) :: (b110, oLS (.int 0) (.int 0) .null (.int 0) (.int 0) (.ref b111) (.ref b112) (.ref b113) (.ref b114) (.ref b108) (.ref b109) (.ref b116) (.ref b107) (.ref b106) (.ref b118) (.ref b119) (.ref b120) (.ref b121) .null (.ref b128) (.ref b129) .null .null .null .null .null .null .null .null) :: (b109, .inr (.int, [.int 0, .int 4])) :: (b108, .inr (.long, [.long hi, .long mid, .long lo, .long p0])) :: F)) rfl ?_
  refine s_aloadN K d6_238 (pc' := 239) rfl rfl rfl ?_
  refine s_aload K d6_239 (pc' := 241) rfl rfl rfl ?_
  refine s_getf K d6_241 (pc' := 244) rfl (w91 hw) (k := 5) rfl (j := 4) rfl ?_
  refine s_newarr K d6_244 (pc' := 246) rfl rfl (w18 hw) (n := 2) (by decide) (cap := 2) (by decide) (by decide) (vs0 := [.int 0, .int 0]) rfl (ce' := 12) rfl (sl' := 29) rfl (by decide) (by decide) ?_
  intro b130
  refine s_putf K d6_246 (pc' := 249) rfl (w138 hw) (Or.inr ⟨w139 hw, rfl, rfl⟩) (w34 hw) (ty := (.array .int)) (by decide) rfl rfl (k := 18) rfl (j := 21) rfl (L' := ((b130, .inr (.int, [.int 0, .int 0])) :: (b129, .inr (.long, [.long 0, .long 0, .long 0, .long 0])) :: (b128, .inr (.int, [.int 0, .int 0, .int 0, .int 0])) :: (b107, .inr (.int, [.int 0, .int 1])) :: (b106, .inr (.int, [.int 0, .int 0])) :: (b105, .inr (.int, [.int 1, .int 3])) :: (b101, oNM (.int 1) (.ref b107) (.ref b106) (.ref b105) (.int 2) .null .null (.int 0)) :: (b120, .inr (.int, [.int 0, .int 0])) :: (b118, .inr (.int, [.int 0, .int 1, .int 2])) :: (b126, .inr (.int, [.int 1, .int 2])) :: (b127, .inr (.int, [.int 0])) :: (b119, .inr (.int, [.int 0, .int 1])) :: (b116, .inr (.int, [.int 0, .int 2])) :: (b121, .inr (.int, [.int 0, .int 1, .int 4])) :: (b114, .inr (.long, [.long 0, .long 0])) :: (b113, .inr (.int, [.int 0, .int 0])) :: (b112, .inr (.long, [.long 0, .long 0])) :: (b111, .inr (.int, [.int 0, .int 0])) :: (b110, oLS (.int 0) (.int 0) .null (.int 0) (.int 0) (.ref b111) (.ref b112) (.ref b113) (.ref b114) (.ref b108) (.ref b109) (.ref b116) (.ref b107) (.ref b106) (.ref b118) (.ref b119) (.ref b120) (.ref b121) .null (.ref b128) (.ref b129) (.ref b130) .null .null .null .null .null .null .null) :: (b109, .inr (.int, [.int 0, .int 4])) :: (b108, .inr (.long, [.long hi, .long mid, .long lo, .long p0])) :: F)) rfl ?_
  refine s_aload K d6_249 (pc' := 251) rfl rfl rfl ?_
  refine s_nullY K d6_251 (by decide) (pc' := 434) (by decide) ?_
  refine s_aloadN K d6_434 (pc' := 435) rfl rfl rfl ?_
  refine s_null K d6_435 (pc' := 436) rfl  ?_
  refine s_putf K d6_436 (pc' := 439) rfl (w140 hw) (Or.inr ⟨w141 hw, rfl, rfl⟩) (w34 hw) (ty := (.array .int)) (by decide) rfl rfl (k := 18) rfl (j := 22) rfl (L' := ((b130, .inr (.int, [.int 0, .int 0])) :: (b129, .inr (.long, [.long 0, .long 0, .long 0, .long 0])) :: (b128, .inr (.int, [.int 0, .int 0, .int 0, .int 0])) :: (b107, .inr (.int, [.int 0, .int 1])) :: (b106, .inr (.int, [.int 0, .int 0])) :: (b105, .inr (.int, [.int 1, .int 3])) :: (b101, oNM (.int 1) (.ref b107) (.ref b106) (.ref b105) (.int 2) .null .null (.int 0)) :: (b120, .inr (.int, [.int 0, .int 0])) :: (b118, .inr (.int, [.int 0, .int 1, .int 2])) :: (b126, .inr (.int, [.int 1, .int 2])) :: (b127, .inr (.int, [.int 0])) :: (b119, .inr (.int, [.int 0, .int 1])) :: (b116, .inr (.int, [.int 0, .int 2])) :: (b121, .inr (.int, [.int 0, .int 1, .int 4])) :: (b114, .inr (.long, [.long 0, .long 0])) :: (b113, .inr (.int, [.int 0, .int 0])) :: (b112, .inr (.long, [.long 0, .long 0])) :: (b111, .inr (.int, [.int 0, .int 0])) :: (b110, oLS (.int 0) (.int 0) .null (.int 0) (.int 0) (.ref b111) (.ref b112) (.ref b113) (.ref b114) (.ref b108) (.ref b109) (.ref b116) (.ref b107) (.ref b106) (.ref b118) (.ref b119) (.ref b120) (.ref b121) .null (.ref b128) (.ref b129) (.ref b130) .null .null .null .null .null .null .null) :: (b109, .inr (.int, [.int 0, .int 4])) :: (b108, .inr (.long, [.long hi, .long mid, .long lo, .long p0])) :: F)) rfl ?_
  refine s_aloadN K d6_439 (pc' := 440) rfl rfl rfl ?_
  refine s_null K d6_440 (pc' := 441) rfl  ?_
  refine s_putf K d6_441 (pc' := 444) rfl (w142 hw) (Or.inr ⟨w143 hw, rfl, rfl⟩) (w34 hw) (ty := (.array .int)) (by decide) rfl rfl (k := 18) rfl (j := 23) rfl (L' := ((b130, .inr (.int, [.int 0, .int 0])) :: (b129, .inr (.long, [.long 0, .long 0, .long 0, .long 0])) :: (b128, .inr (.int, [.int 0, .int 0, .int 0, .int 0])) :: (b107, .inr (.int, [.int 0, .int 1])) :: (b106, .inr (.int, [.int 0, .int 0])) :: (b105, .inr (.int, [.int 1, .int 3])) :: (b101, oNM (.int 1) (.ref b107) (.ref b106) (.ref b105) (.int 2) .null .null (.int 0)) :: (b120, .inr (.int, [.int 0, .int 0])) :: (b118, .inr (.int, [.int 0, .int 1, .int 2])) :: (b126, .inr (.int, [.int 1, .int 2])) :: (b127, .inr (.int, [.int 0])) :: (b119, .inr (.int, [.int 0, .int 1])) :: (b116, .inr (.int, [.int 0, .int 2])) :: (b121, .inr (.int, [.int 0, .int 1, .int 4])) :: (b114, .inr (.long, [.long 0, .long 0])) :: (b113, .inr (.int, [.int 0, .int 0])) :: (b112, .inr (.long, [.long 0, .long 0])) :: (b111, .inr (.int, [.int 0, .int 0])) :: (b110, oLS (.int 0) (.int 0) .null (.int 0) (.int 0) (.ref b111) (.ref b112) (.ref b113) (.ref b114) (.ref b108) (.ref b109) (.ref b116) (.ref b107) (.ref b106) (.ref b118) (.ref b119) (.ref b120) (.ref b121) .null (.ref b128) (.ref b129) (.ref b130) .null .null .null .null .null .null .null) :: (b109, .inr (.int, [.int 0, .int 4])) :: (b108, .inr (.long, [.long hi, .long mid, .long lo, .long p0])) :: F)) rfl ?_
  refine s_aloadN K d6_444 (pc' := 445) rfl rfl rfl ?_
  refine s_null K d6_445 (pc' := 446) rfl  ?_
  refine s_putf K d6_446 (pc' := 449) rfl (w144 hw) (Or.inr ⟨w145 hw, rfl, rfl⟩) (w34 hw) (ty := (.array .int)) (by decide) rfl rfl (k := 18) rfl (j := 24) rfl (L' := ((b130, .inr (.int, [.int 0, .int 0])) :: (b129, .inr (.long, [.long 0, .long 0, .long 0, .long 0])) :: (b128, .inr (.int, [.int 0, .int 0, .int 0, .int 0])) :: (b107, .inr (.int, [.int 0, .int 1])) :: (b106, .inr (.int, [.int 0, .int 0])) :: (b105, .inr (.int, [.int 1, .int 3])) :: (b101, oNM (.int 1) (.ref b107) (.ref b106) (.ref b105) (.int 2) .null .null (.int 0)) :: (b120, .inr (.int, [.int 0, .int 0])) :: (b118, .inr (.int, [.int 0, .int 1, .int 2])) :: (b126, .inr (.int, [.int 1, .int 2])) :: (b127, .inr (.int, [.int 0])) :: (b119, .inr (.int, [.int 0, .int 1])) :: (b116, .inr (.int, [.int 0, .int 2])) :: (b121, .inr (.int, [.int 0, .int 1, .int 4])) :: (b114, .inr (.long, [.long 0, .long 0])) :: (b113, .inr (.int, [.int 0, .int 0])) :: (b112, .inr (.long, [.long 0, .long 0])) :: (b111, .inr (.int, [.int 0, .int 0])) :: (b110, oLS (.int 0) (.int 0) .null (.int 0) (.int 0) (.ref b111) (.ref b112) (.ref b113) (.ref b114) (.ref b108) (.ref b109) (.ref b116) (.ref b107) (.ref b106) (.ref b118) (.ref b119) (.ref b120) (.ref b121) .null (.ref b128) (.ref b129) (.ref b130) .null .null .null .null .null .null .null) :: (b109, .inr (.int, [.int 0, .int 4])) :: (b108, .inr (.long, [.long hi, .long mid, .long lo, .long p0])) :: F)) rfl ?_
  refine s_aloadN K d6_449 (pc' := 450) rfl rfl rfl ?_
  refine s_null K d6_450 (pc' := 451) rfl  ?_
  refine s_putf K d6_451 (pc' := 454) rfl (w146 hw) (Or.inr ⟨w147 hw, rfl, rfl⟩) (w34 hw) (ty := (.array .int)) (by decide) rfl rfl (k := 18) rfl (j := 25) rfl (L' := ((b130, .inr (.int, [.int 0, .int 0])) :: (b129, .inr (.long, [.long 0, .long 0, .long 0, .long 0])) :: (b128, .inr (.int, [.int 0, .int 0, .int 0, .int 0])) :: (b107, .inr (.int, [.int 0, .int 1])) :: (b106, .inr (.int, [.int 0, .int 0])) :: (b105, .inr (.int, [.int 1, .int 3])) :: (b101, oNM (.int 1) (.ref b107) (.ref b106) (.ref b105) (.int 2) .null .null (.int 0)) :: (b120, .inr (.int, [.int 0, .int 0])) :: (b118, .inr (.int, [.int 0, .int 1, .int 2])) :: (b126, .inr (.int, [.int 1, .int 2])) :: (b127, .inr (.int, [.int 0])) :: (b119, .inr (.int, [.int 0, .int 1])) :: (b116, .inr (.int, [.int 0, .int 2])) :: (b121, .inr (.int, [.int 0, .int 1, .int 4])) :: (b114, .inr (.long, [.long 0, .long 0])) :: (b113, .inr (.int, [.int 0, .int 0])) :: (b112, .inr (.long, [.long 0, .long 0])) :: (b111, .inr (.int, [.int 0, .int 0])) :: (b110, oLS (.int 0) (.int 0) .null (.int 0) (.int 0) (.ref b111) (.ref b112) (.ref b113) (.ref b114) (.ref b108) (.ref b109) (.ref b116) (.ref b107) (.ref b106) (.ref b118) (.ref b119) (.ref b120) (.ref b121) .null (.ref b128) (.ref b129) (.ref b130) .null .null .null .null .null .null .null) :: (b109, .inr (.int, [.int 0, .int 4])) :: (b108, .inr (.long, [.long hi, .long mid, .long lo, .long p0])) :: F)) rfl ?_
  refine s_aloadN K d6_454 (pc' := 455) rfl rfl rfl ?_
  refine s_null K d6_455 (pc' := 456) rfl  ?_
  refine s_putf K d6_456 (pc' := 459) rfl (w148 hw) (Or.inr ⟨w149 hw, rfl, rfl⟩) (w34 hw) (ty := (.array .int)) (by decide) rfl rfl (k := 18) rfl (j := 26) rfl (L' := ((b130, .inr (.int, [.int 0, .int 0])) :: (b129, .inr (.long, [.long 0, .long 0, .long 0, .long 0])) :: (b128, .inr (.int, [.int 0, .int 0, .int 0, .int 0])) :: (b107, .inr (.int, [.int 0, .int 1])) :: (b106, .inr (.int, [.int 0, .int 0])) :: (b105, .inr (.int, [.int 1, .int 3])) :: (b101, oNM (.int 1) (.ref b107) (.ref b106) (.ref b105) (.int 2) .null .null (.int 0)) :: (b120, .inr (.int, [.int 0, .int 0])) :: (b118, .inr (.int, [.int 0, .int 1, .int 2])) :: (b126, .inr (.int, [.int 1, .int 2])) :: (b127, .inr (.int, [.int 0])) :: (b119, .inr (.int, [.int 0, .int 1])) :: (b116, .inr (.int, [.int 0, .int 2])) :: (b121, .inr (.int, [.int 0, .int 1, .int 4])) :: (b114, .inr (.long, [.long 0, .long 0])) :: (b113, .inr (.int, [.int 0, .int 0])) :: (b112, .inr (.long, [.long 0, .long 0])) :: (b111, .inr (.int, [.int 0, .int 0])) :: (b110, oLS (.int 0) (.int 0) .null (.int 0) (.int 0) (.ref b111) (.ref b112) (.ref b113) (.ref b114) (.ref b108) (.ref b109) (.ref b116) (.ref b107) (.ref b106) (.ref b118) (.ref b119) (.ref b120) (.ref b121) .null (.ref b128) (.ref b129) (.ref b130) .null .null .null .null .null .null .null) :: (b109, .inr (.int, [.int 0, .int 4])) :: (b108, .inr (.long, [.long hi, .long mid, .long lo, .long p0])) :: F)) rfl ?_
  refine s_aloadN K d6_459 (pc' := 460) rfl rfl rfl ?_
  refine s_null K d6_460 (pc' := 461) rfl  ?_
  refine s_putf K d6_461 (pc' := 464) rfl (w150 hw) (Or.inr ⟨w151 hw, rfl, rfl⟩) (w34 hw) (ty := (.array .int)) (by decide) rfl rfl (k := 18) rfl (j := 27) rfl (L' := ((b130, .inr (.int, [.int 0, .int 0])) :: (b129, .inr (.long, [.long 0, .long 0, .long 0, .long 0])) :: (b128, .inr (.int, [.int 0, .int 0, .int 0, .int 0])) :: (b107, .inr (.int, [.int 0, .int 1])) :: (b106, .inr (.int, [.int 0, .int 0])) :: (b105, .inr (.int, [.int 1, .int 3])) :: (b101, oNM (.int 1) (.ref b107) (.ref b106) (.ref b105) (.int 2) .null .null (.int 0)) :: (b120, .inr (.int, [.int 0, .int 0])) :: (b118, .inr (.int, [.int 0, .int 1, .int 2])) :: (b126, .inr (.int, [.int 1, .int 2])) :: (b127, .inr (.int, [.int 0])) :: (b119, .inr (.int, [.int 0, .int 1])) :: (b116, .inr (.int, [.int 0, .int 2])) :: (b121, .inr (.int, [.int 0, .int 1, .int 4])) :: (b114, .inr (.long, [.long 0, .long 0])) :: (b113, .inr (.int, [.int 0, .int 0])) :: (b112, .inr (.long, [.long 0, .long 0])) :: (b111, .inr (.int, [.int 0, .int 0])) :: (b110, oLS (.int 0) (.int 0) .null (.int 0) (.int 0) (.ref b111) (.ref b112) (.ref b113) (.ref b114) (.ref b108) (.ref b109) (.ref b116) (.ref b107) (.ref b106) (.ref b118) (.ref b119) (.ref b120) (.ref b121) .null (.ref b128) (.ref b129) (.ref b130) .null .null .null .null .null .null .null) :: (b109, .inr (.int, [.int 0, .int 4])) :: (b108, .inr (.long, [.long hi, .long mid, .long lo, .long p0])) :: F)) rfl ?_
  refine s_aloadN K d6_464 (pc' := 465) rfl rfl rfl ?_
  refine s_null K d6_465 (pc' := 466) rfl  ?_
  refine s_putf K d6_466 (pc' := 469) rfl (w152 hw) (Or.inr ⟨w153 hw, rfl, rfl⟩) (w34 hw) (ty := (.array .int)) (by decide) rfl rfl (k := 18) rfl (j := 28) rfl (L' := ((b130, .inr (.int, [.int 0, .int 0])) :: (b129, .inr (.long, [.long 0, .long 0, .long 0, .long 0])) :: (b128, .inr (.int, [.int 0, .int 0, .int 0, .int 0])) :: (b107, .inr (.int, [.int 0, .int 1])) :: (b106, .inr (.int, [.int 0, .int 0])) :: (b105, .inr (.int, [.int 1, .int 3])) :: (b101, oNM (.int 1) (.ref b107) (.ref b106) (.ref b105) (.int 2) .null .null (.int 0)) :: (b120, .inr (.int, [.int 0, .int 0])) :: (b118, .inr (.int, [.int 0, .int 1, .int 2])) :: (b126, .inr (.int, [.int 1, .int 2])) :: (b127, .inr (.int, [.int 0])) :: (b119, .inr (.int, [.int 0, .int 1])) :: (b116, .inr (.int, [.int 0, .int 2])) :: (b121, .inr (.int, [.int 0, .int 1, .int 4])) :: (b114, .inr (.long, [.long 0, .long 0])) :: (b113, .inr (.int, [.int 0, .int 0])) :: (b112, .inr (.long, [.long 0, .long 0])) :: (b111, .inr (.int, [.int 0, .int 0])) :: (b110, oLS (.int 0) (.int 0) .null (.int 0) (.int 0) (.ref b111) (.ref b112) (.ref b113) (.ref b114) (.ref b108) (.ref b109) (.ref b116) (.ref b107) (.ref b106) (.ref b118) (.ref b119) (.ref b120) (.ref b121) .null (.ref b128) (.ref b129) (.ref b130) .null .null .null .null .null .null .null) :: (b109, .inr (.int, [.int 0, .int 4])) :: (b108, .inr (.long, [.long hi, .long mid, .long lo, .long p0])) :: F)) rfl ?_
  refine s_front (k := 6) rfl (L' := ((b101, oNM (.int 1) (.ref b107) (.ref b106) (.ref b105) (.int 2) .null .null (.int 0)) :: (b130, .inr (.int, [.int 0, .int 0])) :: (b129, .inr (.long, [.long 0, .long 0, .long 0, .long 0])) :: (b128, .inr (.int, [.int 0, .int 0, .int 0, .int 0])) :: (b107, .inr (.int, [.int 0, .int 1])) :: (b106, .inr (.int, [.int 0, .int 0])) :: (b105, .inr (.int, [.int 1, .int 3])) :: (b120, .inr (.int, [.int 0, .int 0])) :: (b118, .inr (.int, [.int 0, .int 1, .int 2])) :: (b126, .inr (.int, [.int 1, .int 2])) :: (b127, .inr (.int, [.int 0])) :: (b119, .inr (.int, [.int 0, .int 1])) :: (b116, .inr (.int, [.int 0, .int 2])) :: (b121, .inr (.int, [.int 0, .int 1, .int 4])) :: (b114, .inr (.long, [.long 0, .long 0])) :: (b113, .inr (.int, [.int 0, .int 0])) :: (b112, .inr (.long, [.long 0, .long 0])) :: (b111, .inr (.int, [.int 0, .int 0])) :: (b110, oLS (.int 0) (.int 0) .null (.int 0) (.int 0) (.ref b111) (.ref b112) (.ref b113) (.ref b114) (.ref b108) (.ref b109) (.ref b116) (.ref b107) (.ref b106) (.ref b118) (.ref b119) (.ref b120) (.ref b121) .null (.ref b128) (.ref b129) (.ref b130) .null .null .null .null .null .null .null) :: (b109, .inr (.int, [.int 0, .int 4])) :: (b108, .inr (.long, [.long hi, .long mid, .long lo, .long p0])) :: F)) rfl ?_
  refine s_front (k := 4) rfl (L' := ((b107, .inr (.int, [.int 0, .int 1])) :: (b101, oNM (.int 1) (.ref b107) (.ref b106) (.ref b105) (.int 2) .null .null (.int 0)) :: (b130, .inr (.int, [.int 0, .int 0])) :: (b129, .inr (.long, [.long 0, .long 0, .long 0, .long 0])) :: (b128, .inr (.int, [.int 0, .int 0, .int 0, .int 0])) :: (b106, .inr (.int, [.int 0, .int 0])) :: (b105, .inr (.int, [.int 1, .int 3])) :: (b120, .inr (.int, [.int 0, .int 0])) :: (b118, .inr (.int, [.int 0, .int 1, .int 2])) :: (b126, .inr (.int, [.int 1, .int 2])) :: (b127, .inr (.int, [.int 0])) :: (b119, .inr (.int, [.int 0, .int 1])) :: (b116, .inr (.int, [.int 0, .int 2])) :: (b121, .inr (.int, [.int 0, .int 1, .int 4])) :: (b114, .inr (.long, [.long 0, .long 0])) :: (b113, .inr (.int, [.int 0, .int 0])) :: (b112, .inr (.long, [.long 0, .long 0])) :: (b111, .inr (.int, [.int 0, .int 0])) :: (b110, oLS (.int 0) (.int 0) .null (.int 0) (.int 0) (.ref b111) (.ref b112) (.ref b113) (.ref b114) (.ref b108) (.ref b109) (.ref b116) (.ref b107) (.ref b106) (.ref b118) (.ref b119) (.ref b120) (.ref b121) .null (.ref b128) (.ref b129) (.ref b130) .null .null .null .null .null .null .null) :: (b109, .inr (.int, [.int 0, .int 4])) :: (b108, .inr (.long, [.long hi, .long mid, .long lo, .long p0])) :: F)) rfl ?_
  refine s_front (k := 5) rfl (L' := ((b106, .inr (.int, [.int 0, .int 0])) :: (b107, .inr (.int, [.int 0, .int 1])) :: (b101, oNM (.int 1) (.ref b107) (.ref b106) (.ref b105) (.int 2) .null .null (.int 0)) :: (b130, .inr (.int, [.int 0, .int 0])) :: (b129, .inr (.long, [.long 0, .long 0, .long 0, .long 0])) :: (b128, .inr (.int, [.int 0, .int 0, .int 0, .int 0])) :: (b105, .inr (.int, [.int 1, .int 3])) :: (b120, .inr (.int, [.int 0, .int 0])) :: (b118, .inr (.int, [.int 0, .int 1, .int 2])) :: (b126, .inr (.int, [.int 1, .int 2])) :: (b127, .inr (.int, [.int 0])) :: (b119, .inr (.int, [.int 0, .int 1])) :: (b116, .inr (.int, [.int 0, .int 2])) :: (b121, .inr (.int, [.int 0, .int 1, .int 4])) :: (b114, .inr (.long, [.long 0, .long 0])) :: (b113, .inr (.int, [.int 0, .int 0])) :: (b112, .inr (.long, [.long 0, .long 0])) :: (b111, .inr (.int, [.int 0, .int 0])) :: (b110, oLS (.int 0) (.int 0) .null (.int 0) (.int 0) (.ref b111) (.ref b112) (.ref b113) (.ref b114) (.ref b108) (.ref b109) (.ref b116) (.ref b107) (.ref b106) (.ref b118) (.ref b119) (.ref b120) (.ref b121) .null (.ref b128) (.ref b129) (.ref b130) .null .null .null .null .null .null .null) :: (b109, .inr (.int, [.int 0, .int 4])) :: (b108, .inr (.long, [.long hi, .long mid, .long lo, .long p0])) :: F)) rfl ?_
  refine s_front (k := 6) rfl (L' := ((b105, .inr (.int, [.int 1, .int 3])) :: (b106, .inr (.int, [.int 0, .int 0])) :: (b107, .inr (.int, [.int 0, .int 1])) :: (b101, oNM (.int 1) (.ref b107) (.ref b106) (.ref b105) (.int 2) .null .null (.int 0)) :: (b130, .inr (.int, [.int 0, .int 0])) :: (b129, .inr (.long, [.long 0, .long 0, .long 0, .long 0])) :: (b128, .inr (.int, [.int 0, .int 0, .int 0, .int 0])) :: (b120, .inr (.int, [.int 0, .int 0])) :: (b118, .inr (.int, [.int 0, .int 1, .int 2])) :: (b126, .inr (.int, [.int 1, .int 2])) :: (b127, .inr (.int, [.int 0])) :: (b119, .inr (.int, [.int 0, .int 1])) :: (b116, .inr (.int, [.int 0, .int 2])) :: (b121, .inr (.int, [.int 0, .int 1, .int 4])) :: (b114, .inr (.long, [.long 0, .long 0])) :: (b113, .inr (.int, [.int 0, .int 0])) :: (b112, .inr (.long, [.long 0, .long 0])) :: (b111, .inr (.int, [.int 0, .int 0])) :: (b110, oLS (.int 0) (.int 0) .null (.int 0) (.int 0) (.ref b111) (.ref b112) (.ref b113) (.ref b114) (.ref b108) (.ref b109) (.ref b116) (.ref b107) (.ref b106) (.ref b118) (.ref b119) (.ref b120) (.ref b121) .null (.ref b128) (.ref b129) (.ref b130) .null .null .null .null .null .null .null) :: (b109, .inr (.int, [.int 0, .int 4])) :: (b108, .inr (.long, [.long hi, .long mid, .long lo, .long p0])) :: F)) rfl ?_
  refine s_front (k := 20) rfl (L' := ((b108, .inr (.long, [.long hi, .long mid, .long lo, .long p0])) :: (b105, .inr (.int, [.int 1, .int 3])) :: (b106, .inr (.int, [.int 0, .int 0])) :: (b107, .inr (.int, [.int 0, .int 1])) :: (b101, oNM (.int 1) (.ref b107) (.ref b106) (.ref b105) (.int 2) .null .null (.int 0)) :: (b130, .inr (.int, [.int 0, .int 0])) :: (b129, .inr (.long, [.long 0, .long 0, .long 0, .long 0])) :: (b128, .inr (.int, [.int 0, .int 0, .int 0, .int 0])) :: (b120, .inr (.int, [.int 0, .int 0])) :: (b118, .inr (.int, [.int 0, .int 1, .int 2])) :: (b126, .inr (.int, [.int 1, .int 2])) :: (b127, .inr (.int, [.int 0])) :: (b119, .inr (.int, [.int 0, .int 1])) :: (b116, .inr (.int, [.int 0, .int 2])) :: (b121, .inr (.int, [.int 0, .int 1, .int 4])) :: (b114, .inr (.long, [.long 0, .long 0])) :: (b113, .inr (.int, [.int 0, .int 0])) :: (b112, .inr (.long, [.long 0, .long 0])) :: (b111, .inr (.int, [.int 0, .int 0])) :: (b110, oLS (.int 0) (.int 0) .null (.int 0) (.int 0) (.ref b111) (.ref b112) (.ref b113) (.ref b114) (.ref b108) (.ref b109) (.ref b116) (.ref b107) (.ref b106) (.ref b118) (.ref b119) (.ref b120) (.ref b121) .null (.ref b128) (.ref b129) (.ref b130) .null .null .null .null .null .null .null) :: (b109, .inr (.int, [.int 0, .int 4])) :: F)) rfl ?_
  refine s_front (k := 20) rfl (L' := ((b109, .inr (.int, [.int 0, .int 4])) :: (b108, .inr (.long, [.long hi, .long mid, .long lo, .long p0])) :: (b105, .inr (.int, [.int 1, .int 3])) :: (b106, .inr (.int, [.int 0, .int 0])) :: (b107, .inr (.int, [.int 0, .int 1])) :: (b101, oNM (.int 1) (.ref b107) (.ref b106) (.ref b105) (.int 2) .null .null (.int 0)) :: (b130, .inr (.int, [.int 0, .int 0])) :: (b129, .inr (.long, [.long 0, .long 0, .long 0, .long 0])) :: (b128, .inr (.int, [.int 0, .int 0, .int 0, .int 0])) :: (b120, .inr (.int, [.int 0, .int 0])) :: (b118, .inr (.int, [.int 0, .int 1, .int 2])) :: (b126, .inr (.int, [.int 1, .int 2])) :: (b127, .inr (.int, [.int 0])) :: (b119, .inr (.int, [.int 0, .int 1])) :: (b116, .inr (.int, [.int 0, .int 2])) :: (b121, .inr (.int, [.int 0, .int 1, .int 4])) :: (b114, .inr (.long, [.long 0, .long 0])) :: (b113, .inr (.int, [.int 0, .int 0])) :: (b112, .inr (.long, [.long 0, .long 0])) :: (b111, .inr (.int, [.int 0, .int 0])) :: (b110, oLS (.int 0) (.int 0) .null (.int 0) (.int 0) (.ref b111) (.ref b112) (.ref b113) (.ref b114) (.ref b108) (.ref b109) (.ref b116) (.ref b107) (.ref b106) (.ref b118) (.ref b119) (.ref b120) (.ref b121) .null (.ref b128) (.ref b129) (.ref b130) .null .null .null .null .null .null .null) :: F)) rfl ?_
  refine s_front (k := 20) rfl (L' := ((b110, oLS (.int 0) (.int 0) .null (.int 0) (.int 0) (.ref b111) (.ref b112) (.ref b113) (.ref b114) (.ref b108) (.ref b109) (.ref b116) (.ref b107) (.ref b106) (.ref b118) (.ref b119) (.ref b120) (.ref b121) .null (.ref b128) (.ref b129) (.ref b130) .null .null .null .null .null .null .null) :: (b109, .inr (.int, [.int 0, .int 4])) :: (b108, .inr (.long, [.long hi, .long mid, .long lo, .long p0])) :: (b105, .inr (.int, [.int 1, .int 3])) :: (b106, .inr (.int, [.int 0, .int 0])) :: (b107, .inr (.int, [.int 0, .int 1])) :: (b101, oNM (.int 1) (.ref b107) (.ref b106) (.ref b105) (.int 2) .null .null (.int 0)) :: (b130, .inr (.int, [.int 0, .int 0])) :: (b129, .inr (.long, [.long 0, .long 0, .long 0, .long 0])) :: (b128, .inr (.int, [.int 0, .int 0, .int 0, .int 0])) :: (b120, .inr (.int, [.int 0, .int 0])) :: (b118, .inr (.int, [.int 0, .int 1, .int 2])) :: (b126, .inr (.int, [.int 1, .int 2])) :: (b127, .inr (.int, [.int 0])) :: (b119, .inr (.int, [.int 0, .int 1])) :: (b116, .inr (.int, [.int 0, .int 2])) :: (b121, .inr (.int, [.int 0, .int 1, .int 4])) :: (b114, .inr (.long, [.long 0, .long 0])) :: (b113, .inr (.int, [.int 0, .int 0])) :: (b112, .inr (.long, [.long 0, .long 0])) :: (b111, .inr (.int, [.int 0, .int 0])) :: F)) rfl ?_
  refine s_front (k := 20) rfl (L' := ((b111, .inr (.int, [.int 0, .int 0])) :: (b110, oLS (.int 0) (.int 0) .null (.int 0) (.int 0) (.ref b111) (.ref b112) (.ref b113) (.ref b114) (.ref b108) (.ref b109) (.ref b116) (.ref b107) (.ref b106) (.ref b118) (.ref b119) (.ref b120) (.ref b121) .null (.ref b128) (.ref b129) (.ref b130) .null .null .null .null .null .null .null) :: (b109, .inr (.int, [.int 0, .int 4])) :: (b108, .inr (.long, [.long hi, .long mid, .long lo, .long p0])) :: (b105, .inr (.int, [.int 1, .int 3])) :: (b106, .inr (.int, [.int 0, .int 0])) :: (b107, .inr (.int, [.int 0, .int 1])) :: (b101, oNM (.int 1) (.ref b107) (.ref b106) (.ref b105) (.int 2) .null .null (.int 0)) :: (b130, .inr (.int, [.int 0, .int 0])) :: (b129, .inr (.long, [.long 0, .long 0, .long 0, .long 0])) :: (b128, .inr (.int, [.int 0, .int 0, .int 0, .int 0])) :: (b120, .inr (.int, [.int 0, .int 0])) :: (b118, .inr (.int, [.int 0, .int 1, .int 2])) :: (b126, .inr (.int, [.int 1, .int 2])) :: (b127, .inr (.int, [.int 0])) :: (b119, .inr (.int, [.int 0, .int 1])) :: (b116, .inr (.int, [.int 0, .int 2])) :: (b121, .inr (.int, [.int 0, .int 1, .int 4])) :: (b114, .inr (.long, [.long 0, .long 0])) :: (b113, .inr (.int, [.int 0, .int 0])) :: (b112, .inr (.long, [.long 0, .long 0])) :: F)) rfl ?_
  refine s_front (k := 20) rfl (L' := ((b112, .inr (.long, [.long 0, .long 0])) :: (b111, .inr (.int, [.int 0, .int 0])) :: (b110, oLS (.int 0) (.int 0) .null (.int 0) (.int 0) (.ref b111) (.ref b112) (.ref b113) (.ref b114) (.ref b108) (.ref b109) (.ref b116) (.ref b107) (.ref b106) (.ref b118) (.ref b119) (.ref b120) (.ref b121) .null (.ref b128) (.ref b129) (.ref b130) .null .null .null .null .null .null .null) :: (b109, .inr (.int, [.int 0, .int 4])) :: (b108, .inr (.long, [.long hi, .long mid, .long lo, .long p0])) :: (b105, .inr (.int, [.int 1, .int 3])) :: (b106, .inr (.int, [.int 0, .int 0])) :: (b107, .inr (.int, [.int 0, .int 1])) :: (b101, oNM (.int 1) (.ref b107) (.ref b106) (.ref b105) (.int 2) .null .null (.int 0)) :: (b130, .inr (.int, [.int 0, .int 0])) :: (b129, .inr (.long, [.long 0, .long 0, .long 0, .long 0])) :: (b128, .inr (.int, [.int 0, .int 0, .int 0, .int 0])) :: (b120, .inr (.int, [.int 0, .int 0])) :: (b118, .inr (.int, [.int 0, .int 1, .int 2])) :: (b126, .inr (.int, [.int 1, .int 2])) :: (b127, .inr (.int, [.int 0])) :: (b119, .inr (.int, [.int 0, .int 1])) :: (b116, .inr (.int, [.int 0, .int 2])) :: (b121, .inr (.int, [.int 0, .int 1, .int 4])) :: (b114, .inr (.long, [.long 0, .long 0])) :: (b113, .inr (.int, [.int 0, .int 0])) :: F)) rfl ?_
  refine s_front (k := 20) rfl (L' := ((b113, .inr (.int, [.int 0, .int 0])) :: (b112, .inr (.long, [.long 0, .long 0])) :: (b111, .inr (.int, [.int 0, .int 0])) :: (b110, oLS (.int 0) (.int 0) .null (.int 0) (.int 0) (.ref b111) (.ref b112) (.ref b113) (.ref b114) (.ref b108) (.ref b109) (.ref b116) (.ref b107) (.ref b106) (.ref b118) (.ref b119) (.ref b120) (.ref b121) .null (.ref b128) (.ref b129) (.ref b130) .null .null .null .null .null .null .null) :: (b109, .inr (.int, [.int 0, .int 4])) :: (b108, .inr (.long, [.long hi, .long mid, .long lo, .long p0])) :: (b105, .inr (.int, [.int 1, .int 3])) :: (b106, .inr (.int, [.int 0, .int 0])) :: (b107, .inr (.int, [.int 0, .int 1])) :: (b101, oNM (.int 1) (.ref b107) (.ref b106) (.ref b105) (.int 2) .null .null (.int 0)) :: (b130, .inr (.int, [.int 0, .int 0])) :: (b129, .inr (.long, [.long 0, .long 0, .long 0, .long 0])) :: (b128, .inr (.int, [.int 0, .int 0, .int 0, .int 0])) :: (b120, .inr (.int, [.int 0, .int 0])) :: (b118, .inr (.int, [.int 0, .int 1, .int 2])) :: (b126, .inr (.int, [.int 1, .int 2])) :: (b127, .inr (.int, [.int 0])) :: (b119, .inr (.int, [.int 0, .int 1])) :: (b116, .inr (.int, [.int 0, .int 2])) :: (b121, .inr (.int, [.int 0, .int 1, .int 4])) :: (b114, .inr (.long, [.long 0, .long 0])) :: F)) rfl ?_
  refine s_front (k := 20) rfl (L' := ((b114, .inr (.long, [.long 0, .long 0])) :: (b113, .inr (.int, [.int 0, .int 0])) :: (b112, .inr (.long, [.long 0, .long 0])) :: (b111, .inr (.int, [.int 0, .int 0])) :: (b110, oLS (.int 0) (.int 0) .null (.int 0) (.int 0) (.ref b111) (.ref b112) (.ref b113) (.ref b114) (.ref b108) (.ref b109) (.ref b116) (.ref b107) (.ref b106) (.ref b118) (.ref b119) (.ref b120) (.ref b121) .null (.ref b128) (.ref b129) (.ref b130) .null .null .null .null .null .null .null) :: (b109, .inr (.int, [.int 0, .int 4])) :: (b108, .inr (.long, [.long hi, .long mid, .long lo, .long p0])) :: (b105, .inr (.int, [.int 1, .int 3])) :: (b106, .inr (.int, [.int 0, .int 0])) :: (b107, .inr (.int, [.int 0, .int 1])) :: (b101, oNM (.int 1) (.ref b107) (.ref b106) (.ref b105) (.int 2) .null .null (.int 0)) :: (b130, .inr (.int, [.int 0, .int 0])) :: (b129, .inr (.long, [.long 0, .long 0, .long 0, .long 0])) :: (b128, .inr (.int, [.int 0, .int 0, .int 0, .int 0])) :: (b120, .inr (.int, [.int 0, .int 0])) :: (b118, .inr (.int, [.int 0, .int 1, .int 2])) :: (b126, .inr (.int, [.int 1, .int 2])) :: (b127, .inr (.int, [.int 0])) :: (b119, .inr (.int, [.int 0, .int 1])) :: (b116, .inr (.int, [.int 0, .int 2])) :: (b121, .inr (.int, [.int 0, .int 1, .int 4])) :: F)) rfl ?_
  refine s_front (k := 20) rfl (L' := ((b121, .inr (.int, [.int 0, .int 1, .int 4])) :: (b114, .inr (.long, [.long 0, .long 0])) :: (b113, .inr (.int, [.int 0, .int 0])) :: (b112, .inr (.long, [.long 0, .long 0])) :: (b111, .inr (.int, [.int 0, .int 0])) :: (b110, oLS (.int 0) (.int 0) .null (.int 0) (.int 0) (.ref b111) (.ref b112) (.ref b113) (.ref b114) (.ref b108) (.ref b109) (.ref b116) (.ref b107) (.ref b106) (.ref b118) (.ref b119) (.ref b120) (.ref b121) .null (.ref b128) (.ref b129) (.ref b130) .null .null .null .null .null .null .null) :: (b109, .inr (.int, [.int 0, .int 4])) :: (b108, .inr (.long, [.long hi, .long mid, .long lo, .long p0])) :: (b105, .inr (.int, [.int 1, .int 3])) :: (b106, .inr (.int, [.int 0, .int 0])) :: (b107, .inr (.int, [.int 0, .int 1])) :: (b101, oNM (.int 1) (.ref b107) (.ref b106) (.ref b105) (.int 2) .null .null (.int 0)) :: (b130, .inr (.int, [.int 0, .int 0])) :: (b129, .inr (.long, [.long 0, .long 0, .long 0, .long 0])) :: (b128, .inr (.int, [.int 0, .int 0, .int 0, .int 0])) :: (b120, .inr (.int, [.int 0, .int 0])) :: (b118, .inr (.int, [.int 0, .int 1, .int 2])) :: (b126, .inr (.int, [.int 1, .int 2])) :: (b127, .inr (.int, [.int 0])) :: (b119, .inr (.int, [.int 0, .int 1])) :: (b116, .inr (.int, [.int 0, .int 2])) :: F)) rfl ?_
  refine s_front (k := 20) rfl (L' := ((b116, .inr (.int, [.int 0, .int 2])) :: (b121, .inr (.int, [.int 0, .int 1, .int 4])) :: (b114, .inr (.long, [.long 0, .long 0])) :: (b113, .inr (.int, [.int 0, .int 0])) :: (b112, .inr (.long, [.long 0, .long 0])) :: (b111, .inr (.int, [.int 0, .int 0])) :: (b110, oLS (.int 0) (.int 0) .null (.int 0) (.int 0) (.ref b111) (.ref b112) (.ref b113) (.ref b114) (.ref b108) (.ref b109) (.ref b116) (.ref b107) (.ref b106) (.ref b118) (.ref b119) (.ref b120) (.ref b121) .null (.ref b128) (.ref b129) (.ref b130) .null .null .null .null .null .null .null) :: (b109, .inr (.int, [.int 0, .int 4])) :: (b108, .inr (.long, [.long hi, .long mid, .long lo, .long p0])) :: (b105, .inr (.int, [.int 1, .int 3])) :: (b106, .inr (.int, [.int 0, .int 0])) :: (b107, .inr (.int, [.int 0, .int 1])) :: (b101, oNM (.int 1) (.ref b107) (.ref b106) (.ref b105) (.int 2) .null .null (.int 0)) :: (b130, .inr (.int, [.int 0, .int 0])) :: (b129, .inr (.long, [.long 0, .long 0, .long 0, .long 0])) :: (b128, .inr (.int, [.int 0, .int 0, .int 0, .int 0])) :: (b120, .inr (.int, [.int 0, .int 0])) :: (b118, .inr (.int, [.int 0, .int 1, .int 2])) :: (b126, .inr (.int, [.int 1, .int 2])) :: (b127, .inr (.int, [.int 0])) :: (b119, .inr (.int, [.int 0, .int 1])) :: F)) rfl ?_
  refine s_front (k := 20) rfl (L' := ((b119, .inr (.int, [.int 0, .int 1])) :: (b116, .inr (.int, [.int 0, .int 2])) :: (b121, .inr (.int, [.int 0, .int 1, .int 4])) :: (b114, .inr (.long, [.long 0, .long 0])) :: (b113, .inr (.int, [.int 0, .int 0])) :: (b112, .inr (.long, [.long 0, .long 0])) :: (b111, .inr (.int, [.int 0, .int 0])) :: (b110, oLS (.int 0) (.int 0) .null (.int 0) (.int 0) (.ref b111) (.ref b112) (.ref b113) (.ref b114) (.ref b108) (.ref b109) (.ref b116) (.ref b107) (.ref b106) (.ref b118) (.ref b119) (.ref b120) (.ref b121) .null (.ref b128) (.ref b129) (.ref b130) .null .null .null .null .null .null .null) :: (b109, .inr (.int, [.int 0, .int 4])) :: (b108, .inr (.long, [.long hi, .long mid, .long lo, .long p0])) :: (b105, .inr (.int, [.int 1, .int 3])) :: (b106, .inr (.int, [.int 0, .int 0])) :: (b107, .inr (.int, [.int 0, .int 1])) :: (b101, oNM (.int 1) (.ref b107) (.ref b106) (.ref b105) (.int 2) .null .null (.int 0)) :: (b130, .inr (.int, [.int 0, .int 0])) :: (b129, .inr (.long, [.long 0, .long 0, .long 0, .long 0])) :: (b128, .inr (.int, [.int 0, .int 0, .int 0, .int 0])) :: (b120, .inr (.int, [.int 0, .int 0])) :: (b118, .inr (.int, [.int 0, .int 1, .int 2])) :: (b126, .inr (.int, [.int 1, .int 2])) :: (b127, .inr (.int, [.int 0])) :: F)) rfl ?_
  refine s_front (k := 20) rfl (L' := ((b127, .inr (.int, [.int 0])) :: (b119, .inr (.int, [.int 0, .int 1])) :: (b116, .inr (.int, [.int 0, .int 2])) :: (b121, .inr (.int, [.int 0, .int 1, .int 4])) :: (b114, .inr (.long, [.long 0, .long 0])) :: (b113, .inr (.int, [.int 0, .int 0])) :: (b112, .inr (.long, [.long 0, .long 0])) :: (b111, .inr (.int, [.int 0, .int 0])) :: (b110, oLS (.int 0) (.int 0) .null (.int 0) (.int 0) (.ref b111) (.ref b112) (.ref b113) (.ref b114) (.ref b108) (.ref b109) (.ref b116) (.ref b107) (.ref b106) (.ref b118) (.ref b119) (.ref b120) (.ref b121) .null (.ref b128) (.ref b129) (.ref b130) .null .null .null .null .null .null .null) :: (b109, .inr (.int, [.int 0, .int 4])) :: (b108, .inr (.long, [.long hi, .long mid, .long lo, .long p0])) :: (b105, .inr (.int, [.int 1, .int 3])) :: (b106, .inr (.int, [.int 0, .int 0])) :: (b107, .inr (.int, [.int 0, .int 1])) :: (b101, oNM (.int 1) (.ref b107) (.ref b106) (.ref b105) (.int 2) .null .null (.int 0)) :: (b130, .inr (.int, [.int 0, .int 0])) :: (b129, .inr (.long, [.long 0, .long 0, .long 0, .long 0])) :: (b128, .inr (.int, [.int 0, .int 0, .int 0, .int 0])) :: (b120, .inr (.int, [.int 0, .int 0])) :: (b118, .inr (.int, [.int 0, .int 1, .int 2])) :: (b126, .inr (.int, [.int 1, .int 2])) :: F)) rfl ?_
  refine s_front (k := 20) rfl (L' := ((b126, .inr (.int, [.int 1, .int 2])) :: (b127, .inr (.int, [.int 0])) :: (b119, .inr (.int, [.int 0, .int 1])) :: (b116, .inr (.int, [.int 0, .int 2])) :: (b121, .inr (.int, [.int 0, .int 1, .int 4])) :: (b114, .inr (.long, [.long 0, .long 0])) :: (b113, .inr (.int, [.int 0, .int 0])) :: (b112, .inr (.long, [.long 0, .long 0])) :: (b111, .inr (.int, [.int 0, .int 0])) :: (b110, oLS (.int 0) (.int 0) .null (.int 0) (.int 0) (.ref b111) (.ref b112) (.ref b113) (.ref b114) (.ref b108) (.ref b109) (.ref b116) (.ref b107) (.ref b106) (.ref b118) (.ref b119) (.ref b120) (.ref b121) .null (.ref b128) (.ref b129) (.ref b130) .null .null .null .null .null .null .null) :: (b109, .inr (.int, [.int 0, .int 4])) :: (b108, .inr (.long, [.long hi, .long mid, .long lo, .long p0])) :: (b105, .inr (.int, [.int 1, .int 3])) :: (b106, .inr (.int, [.int 0, .int 0])) :: (b107, .inr (.int, [.int 0, .int 1])) :: (b101, oNM (.int 1) (.ref b107) (.ref b106) (.ref b105) (.int 2) .null .null (.int 0)) :: (b130, .inr (.int, [.int 0, .int 0])) :: (b129, .inr (.long, [.long 0, .long 0, .long 0, .long 0])) :: (b128, .inr (.int, [.int 0, .int 0, .int 0, .int 0])) :: (b120, .inr (.int, [.int 0, .int 0])) :: (b118, .inr (.int, [.int 0, .int 1, .int 2])) :: F)) rfl ?_
  refine s_front (k := 20) rfl (L' := ((b118, .inr (.int, [.int 0, .int 1, .int 2])) :: (b126, .inr (.int, [.int 1, .int 2])) :: (b127, .inr (.int, [.int 0])) :: (b119, .inr (.int, [.int 0, .int 1])) :: (b116, .inr (.int, [.int 0, .int 2])) :: (b121, .inr (.int, [.int 0, .int 1, .int 4])) :: (b114, .inr (.long, [.long 0, .long 0])) :: (b113, .inr (.int, [.int 0, .int 0])) :: (b112, .inr (.long, [.long 0, .long 0])) :: (b111, .inr (.int, [.int 0, .int 0])) :: (b110, oLS (.int 0) (.int 0) .null (.int 0) (.int 0) (.ref b111) (.ref b112) (.ref b113) (.ref b114) (.ref b108) (.ref b109) (.ref b116) (.ref b107) (.ref b106) (.ref b118) (.ref b119) (.ref b120) (.ref b121) .null (.ref b128) (.ref b129) (.ref b130) .null .null .null .null .null .null .null) :: (b109, .inr (.int, [.int 0, .int 4])) :: (b108, .inr (.long, [.long hi, .long mid, .long lo, .long p0])) :: (b105, .inr (.int, [.int 1, .int 3])) :: (b106, .inr (.int, [.int 0, .int 0])) :: (b107, .inr (.int, [.int 0, .int 1])) :: (b101, oNM (.int 1) (.ref b107) (.ref b106) (.ref b105) (.int 2) .null .null (.int 0)) :: (b130, .inr (.int, [.int 0, .int 0])) :: (b129, .inr (.long, [.long 0, .long 0, .long 0, .long 0])) :: (b128, .inr (.int, [.int 0, .int 0, .int 0, .int 0])) :: (b120, .inr (.int, [.int 0, .int 0])) :: F)) rfl ?_
  refine s_front (k := 20) rfl (L' := ((b120, .inr (.int, [.int 0, .int 0])) :: (b118, .inr (.int, [.int 0, .int 1, .int 2])) :: (b126, .inr (.int, [.int 1, .int 2])) :: (b127, .inr (.int, [.int 0])) :: (b119, .inr (.int, [.int 0, .int 1])) :: (b116, .inr (.int, [.int 0, .int 2])) :: (b121, .inr (.int, [.int 0, .int 1, .int 4])) :: (b114, .inr (.long, [.long 0, .long 0])) :: (b113, .inr (.int, [.int 0, .int 0])) :: (b112, .inr (.long, [.long 0, .long 0])) :: (b111, .inr (.int, [.int 0, .int 0])) :: (b110, oLS (.int 0) (.int 0) .null (.int 0) (.int 0) (.ref b111) (.ref b112) (.ref b113) (.ref b114) (.ref b108) (.ref b109) (.ref b116) (.ref b107) (.ref b106) (.ref b118) (.ref b119) (.ref b120) (.ref b121) .null (.ref b128) (.ref b129) (.ref b130) .null .null .null .null .null .null .null) :: (b109, .inr (.int, [.int 0, .int 4])) :: (b108, .inr (.long, [.long hi, .long mid, .long lo, .long p0])) :: (b105, .inr (.int, [.int 1, .int 3])) :: (b106, .inr (.int, [.int 0, .int 0])) :: (b107, .inr (.int, [.int 0, .int 1])) :: (b101, oNM (.int 1) (.ref b107) (.ref b106) (.ref b105) (.int 2) .null .null (.int 0)) :: (b130, .inr (.int, [.int 0, .int 0])) :: (b129, .inr (.long, [.long 0, .long 0, .long 0, .long 0])) :: (b128, .inr (.int, [.int 0, .int 0, .int 0, .int 0])) :: F)) rfl ?_
  refine s_front (k := 20) rfl (L' := ((b128, .inr (.int, [.int 0, .int 0, .int 0, .int 0])) :: (b120, .inr (.int, [.int 0, .int 0])) :: (b118, .inr (.int, [.int 0, .int 1, .int 2])) :: (b126, .inr (.int, [.int 1, .int 2])) :: (b127, .inr (.int, [.int 0])) :: (b119, .inr (.int, [.int 0, .int 1])) :: (b116, .inr (.int, [.int 0, .int 2])) :: (b121, .inr (.int, [.int 0, .int 1, .int 4])) :: (b114, .inr (.long, [.long 0, .long 0])) :: (b113, .inr (.int, [.int 0, .int 0])) :: (b112, .inr (.long, [.long 0, .long 0])) :: (b111, .inr (.int, [.int 0, .int 0])) :: (b110, oLS (.int 0) (.int 0) .null (.int 0) (.int 0) (.ref b111) (.ref b112) (.ref b113) (.ref b114) (.ref b108) (.ref b109) (.ref b116) (.ref b107) (.ref b106) (.ref b118) (.ref b119) (.ref b120) (.ref b121) .null (.ref b128) (.ref b129) (.ref b130) .null .null .null .null .null .null .null) :: (b109, .inr (.int, [.int 0, .int 4])) :: (b108, .inr (.long, [.long hi, .long mid, .long lo, .long p0])) :: (b105, .inr (.int, [.int 1, .int 3])) :: (b106, .inr (.int, [.int 0, .int 0])) :: (b107, .inr (.int, [.int 0, .int 1])) :: (b101, oNM (.int 1) (.ref b107) (.ref b106) (.ref b105) (.int 2) .null .null (.int 0)) :: (b130, .inr (.int, [.int 0, .int 0])) :: (b129, .inr (.long, [.long 0, .long 0, .long 0, .long 0])) :: F)) rfl ?_
  refine s_front (k := 20) rfl (L' := ((b129, .inr (.long, [.long 0, .long 0, .long 0, .long 0])) :: (b128, .inr (.int, [.int 0, .int 0, .int 0, .int 0])) :: (b120, .inr (.int, [.int 0, .int 0])) :: (b118, .inr (.int, [.int 0, .int 1, .int 2])) :: (b126, .inr (.int, [.int 1, .int 2])) :: (b127, .inr (.int, [.int 0])) :: (b119, .inr (.int, [.int 0, .int 1])) :: (b116, .inr (.int, [.int 0, .int 2])) :: (b121, .inr (.int, [.int 0, .int 1, .int 4])) :: (b114, .inr (.long, [.long 0, .long 0])) :: (b113, .inr (.int, [.int 0, .int 0])) :: (b112, .inr (.long, [.long 0, .long 0])) :: (b111, .inr (.int, [.int 0, .int 0])) :: (b110, oLS (.int 0) (.int 0) .null (.int 0) (.int 0) (.ref b111) (.ref b112) (.ref b113) (.ref b114) (.ref b108) (.ref b109) (.ref b116) (.ref b107) (.ref b106) (.ref b118) (.ref b119) (.ref b120) (.ref b121) .null (.ref b128) (.ref b129) (.ref b130) .null .null .null .null .null .null .null) :: (b109, .inr (.int, [.int 0, .int 4])) :: (b108, .inr (.long, [.long hi, .long mid, .long lo, .long p0])) :: (b105, .inr (.int, [.int 1, .int 3])) :: (b106, .inr (.int, [.int 0, .int 0])) :: (b107, .inr (.int, [.int 0, .int 1])) :: (b101, oNM (.int 1) (.ref b107) (.ref b106) (.ref b105) (.int 2) .null .null (.int 0)) :: (b130, .inr (.int, [.int 0, .int 0])) :: F)) rfl ?_
  refine s_front (k := 20) rfl (L' := ((b130, .inr (.int, [.int 0, .int 0])) :: (b129, .inr (.long, [.long 0, .long 0, .long 0, .long 0])) :: (b128, .inr (.int, [.int 0, .int 0, .int 0, .int 0])) :: (b120, .inr (.int, [.int 0, .int 0])) :: (b118, .inr (.int, [.int 0, .int 1, .int 2])) :: (b126, .inr (.int, [.int 1, .int 2])) :: (b127, .inr (.int, [.int 0])) :: (b119, .inr (.int, [.int 0, .int 1])) :: (b116, .inr (.int, [.int 0, .int 2])) :: (b121, .inr (.int, [.int 0, .int 1, .int 4])) :: (b114, .inr (.long, [.long 0, .long 0])) :: (b113, .inr (.int, [.int 0, .int 0])) :: (b112, .inr (.long, [.long 0, .long 0])) :: (b111, .inr (.int, [.int 0, .int 0])) :: (b110, oLS (.int 0) (.int 0) .null (.int 0) (.int 0) (.ref b111) (.ref b112) (.ref b113) (.ref b114) (.ref b108) (.ref b109) (.ref b116) (.ref b107) (.ref b106) (.ref b118) (.ref b119) (.ref b120) (.ref b121) .null (.ref b128) (.ref b129) (.ref b130) .null .null .null .null .null .null .null) :: (b109, .inr (.int, [.int 0, .int 4])) :: (b108, .inr (.long, [.long hi, .long mid, .long lo, .long p0])) :: (b105, .inr (.int, [.int 1, .int 3])) :: (b106, .inr (.int, [.int 0, .int 0])) :: (b107, .inr (.int, [.int 0, .int 1])) :: (b101, oNM (.int 1) (.ref b107) (.ref b106) (.ref b105) (.int 2) .null .null (.int 0)) :: F)) rfl ?_
  exact s_return K d6_469 (by decide) (by decide) ⟨_, _, _, _, _, _, _, _, _, _, _, _, rfl, rfl⟩
set_option maxRecDepth 65536 in
set_option maxHeartbeats 400000000 in
theorem segA {l : Launch} {Z : State} {a0 : Array Value} (hw : HW Z a0) {n0 : Nat} (p0 p1 p2 p3 hi mid lo : Int64) (p4 nI qI fI : Int32) (κ : Ctx) (K : Ok Z κ x.cls code maxLocals ret x.name)
    (nx : ∀ b110 b107 b140 b131 b142 b141 b108 b133 b132 b101 b109 b111 b112 b139 b106 b135 b138 b134 : Addr, Go l Z n0 room_1 (fun v _ => v = some (.int 1)) κ 21 83 [(b110, oLS (.int 0) (.int 0) .null (.int 0) (.int 0) (.ref b111) (.ref b112) (.ref b142) (.ref b141) (.ref b108) (.ref b109) (.ref b139) (.ref b107) (.ref b106) (.ref b135) (.ref b138) (.ref b134) (.ref b140) .null (.ref b133) (.ref b132) (.ref b131) .null .null .null .null .null .null .null), (b107, .inr (.int, [.int 0, .int 1])), (b140, .inr (.int, [.int 0, .int 1, .int 4])), (b131, .inr (.int, [.int 0, .int 0])), (b142, .inr (.int, [.int 0, .int 0])), (b141, .inr (.long, [.long 0, .long 0])), (b108, .inr (.long, [.long hi, .long mid, .long lo, .long p0])), (b133, .inr (.int, [.int 0, .int 0, .int 0, .int 0])), (b132, .inr (.long, [.long 0, .long 0, .long 0, .long 0]))] 172 #[.val (.long p0), .second, .val (.long p1), .second, .val (.long p2), .second, .val (.long p3), .second, .val (.int p4), .val (.long hi), .second, .val (.long lo), .second, .val (.long mid), .second, .val (.int nI), .val (.int qI), .val (.int fI), .val (.ref b101), .val (.ref b108), .val (.ref b109), .val (.ref b110), .unset, .unset] []) :
    Go l Z n0 room_1 (fun v _ => v = some (.int 1)) κ 0 0 [] 82 #[.val (.long p0), .second, .val (.long p1), .second, .val (.long p2), .second, .val (.long p3), .second, .val (.int p4), .val (.long hi), .second, .val (.long lo), .second, .val (.long mid), .second, .val (.int nI), .val (.int qI), .val (.int fI), .unset, .unset, .unset, .unset, .unset, .unset] [] := by
  refine s_new K at_82 (pc' := 85) rfl (w7 hw) (w8 hw) (w9 hw) (ly_oNM hw) nd_oNM (gs := [("com/example/evenkeel/evenkeel/LagSeats$Naming", "kindCount", "I", .int 0), ("com/example/evenkeel/evenkeel/LagSeats$Naming", "members", "[I", .null), ("com/example/evenkeel/evenkeel/LagSeats$Naming", "kinds", "[I", .null), ("com/example/evenkeel/evenkeel/LagSeats$Naming", "rooms", "[I", .null), ("com/example/evenkeel/evenkeel/LagSeats$Naming", "count", "I", .int 0), ("com/example/evenkeel/evenkeel/LagSeats$Naming", "kindHomes", "[I", .null), ("com/example/evenkeel/evenkeel/LagSeats$Naming", "keyHomes", "[I", .null), ("com/example/evenkeel/evenkeel/LagSeats$Naming", "homes", "I", .int 0)]) rfl (ce' := 1) rfl (sl' := 9) rfl (by decide) (by decide) ?_
  intro b101
  refine s_dup K at_85 (pc' := 86) rfl rfl ?_
  refine s_iconst K at_86 (pc' := 87) rfl (z := (1 : Int32)) rfl ?_
  refine s_iconst K at_87 (pc' := 88) rfl (z := (2 : Int32)) rfl ?_
  refine s_special K at_88 (pc' := 91) rfl rfl (a := b101) (as := [.int 1, .int 2]) (k1_init hw _ b101) (w10 hw) (w11 hw) (w9 hw) (w12 hw) (by decide) pd_0 rfl (rest := [.ref b101]) rfl rfl (W := 1) (Nat.le_of_eq rfl) (by decide) (by decide) (ce' := 4) rfl (sl' := 15) rfl (by decide) (by decide) ?_
  rintro v _ ⟨b105, b106, b107, rfl, rfl⟩
  show Go l Z n0 _ _ κ 4 15 [(b105, .inr (.int, [.int 0, .int 0])), (b106, .inr (.int, [.int 0, .int 0])), (b107, .inr (.int, [.int 0, .int 0])), (b101, oNM (.int 1) (.ref b107) (.ref b106) (.ref b105) (.int 0) .null .null (.int 0))] 91 #[.val (.long p0), .second, .val (.long p1), .second, .val (.long p2), .second, .val (.long p3), .second, .val (.int p4), .val (.long hi), .second, .val (.long lo), .second, .val (.long mid), .second, .val (.int nI), .val (.int qI), .val (.int fI), .unset, .unset, .unset, .unset, .unset, .unset] [.ref b101]
  refine s_astore K at_91 (pc' := 93) rfl rfl (Ls' := #[.val (.long p0), .second, .val (.long p1), .second, .val (.long p2), .second, .val (.long p3), .second, .val (.int p4), .val (.long hi), .second, .val (.long lo), .second, .val (.long mid), .second, .val (.int nI), .val (.int qI), .val (.int fI), .val (.ref b101), .unset, .unset, .unset, .unset, .unset]) rfl ?_
  refine s_aload K at_93 (pc' := 95) rfl rfl rfl ?_
  refine s_iconst K at_95 (pc' := 96) rfl (z := (0 : Int32)) rfl ?_
  refine s_iconst K at_96 (pc' := 97) rfl (z := (0 : Int32)) rfl ?_
  refine s_iconst K at_97 (pc' := 98) rfl (z := (1 : Int32)) rfl ?_
  refine s_virtual K at_98 (pc' := 101) rfl (k := 3) (a := b101) rfl (as := [.int 0, .int 0, .int 1]) (k2_add hw _ b105 b106 b107 b101) (w25 hw) (w26 hw) (w28 hw) (w27 hw) (w9 hw) (w29 hw) (by decide) pd_1 rfl (rest := []) rfl rfl (W := 0) (Nat.le_of_eq rfl) (by decide) (by decide) (ce' := 4) rfl (sl' := 15) rfl (by decide) (by decide) ?_
  rintro v _ ⟨rfl, rfl⟩
  show Go l Z n0 _ _ κ 4 15 [(b105, .inr (.int, [.int 1, .int 0])), (b106, .inr (.int, [.int 0, .int 0])), (b107, .inr (.int, [.int 0, .int 0])), (b101, oNM (.int 1) (.ref b107) (.ref b106) (.ref b105) (.int 1) .null .null (.int 0))] 101 #[.val (.long p0), .second, .val (.long p1), .second, .val (.long p2), .second, .val (.long p3), .second, .val (.int p4), .val (.long hi), .second, .val (.long lo), .second, .val (.long mid), .second, .val (.int nI), .val (.int qI), .val (.int fI), .val (.ref b101), .unset, .unset, .unset, .unset, .unset] []
  refine s_aload K at_101 (pc' := 103) rfl rfl rfl ?_
  refine s_iconst K at_103 (pc' := 104) rfl (z := (0 : Int32)) rfl ?_
  refine s_iconst K at_104 (pc' := 105) rfl (z := (1 : Int32)) rfl ?_
  refine s_iconst K at_105 (pc' := 106) rfl (z := (3 : Int32)) rfl ?_
  refine s_virtual K at_106 (pc' := 109) rfl (k := 3) (a := b101) rfl (as := [.int 0, .int 1, .int 3]) (k3_add hw _ b105 b106 b107 b101) (w25 hw) (w26 hw) (w28 hw) (w27 hw) (w9 hw) (w29 hw) (by decide) pd_1 rfl (rest := []) rfl rfl (W := 0) (Nat.le_of_eq rfl) (by decide) (by decide) (ce' := 4) rfl (sl' := 15) rfl (by decide) (by decide) ?_
  rintro v _ ⟨rfl, rfl⟩
  show Go l Z n0 _ _ κ 4 15 [(b105, .inr (.int, [.int 1, .int 3])), (b106, .inr (.int, [.int 0, .int 0])), (b107, .inr (.int, [.int 0, .int 1])), (b101, oNM (.int 1) (.ref b107) (.ref b106) (.ref b105) (.int 2) .null .null (.int 0))] 109 #[.val (.long p0), .second, .val (.long p1), .second, .val (.long p2), .second, .val (.long p3), .second, .val (.int p4), .val (.long hi), .second, .val (.long lo), .second, .val (.long mid), .second, .val (.int nI), .val (.int qI), .val (.int fI), .val (.ref b101), .unset, .unset, .unset, .unset, .unset] []
  refine s_iconst K at_109 (pc' := 110) rfl (z := (4 : Int32)) rfl ?_
  refine s_newarr K at_110 (pc' := 112) rfl rfl (w32 hw) (n := 4) (by decide) (cap := 4) (by decide) (by decide) (vs0 := [.long 0, .long 0, .long 0, .long 0]) rfl (ce' := 5) rfl (sl' := 19) rfl (by decide) (by decide) ?_
  intro b108
  refine s_dup K at_112 (pc' := 113) rfl rfl ?_
  refine s_iconst K at_113 (pc' := 114) rfl (z := (0 : Int32)) rfl ?_
  refine s_lload K at_114 (pc' := 116) rfl rfl ?_
  refine s_lastore K at_116 (pc' := 117) rfl (k := 0) rfl (i := 0) (by decide) (ltB rfl) (L' := [(b108, .inr (.long, [.long hi, .long 0, .long 0, .long 0])), (b105, .inr (.int, [.int 1, .int 3])), (b106, .inr (.int, [.int 0, .int 0])), (b107, .inr (.int, [.int 0, .int 1])), (b101, oNM (.int 1) (.ref b107) (.ref b106) (.ref b105) (.int 2) .null .null (.int 0))]) rfl ?_
  refine s_dup K at_117 (pc' := 118) rfl rfl ?_
  refine s_iconst K at_118 (pc' := 119) rfl (z := (1 : Int32)) rfl ?_
  refine s_lload K at_119 (pc' := 121) rfl rfl ?_
  refine s_lastore K at_121 (pc' := 122) rfl (k := 0) rfl (i := 1) (by decide) (ltB rfl) (L' := [(b108, .inr (.long, [.long hi, .long mid, .long 0, .long 0])), (b105, .inr (.int, [.int 1, .int 3])), (b106, .inr (.int, [.int 0, .int 0])), (b107, .inr (.int, [.int 0, .int 1])), (b101, oNM (.int 1) (.ref b107) (.ref b106) (.ref b105) (.int 2) .null .null (.int 0))]) rfl ?_
  refine s_dup K at_122 (pc' := 123) rfl rfl ?_
  refine s_iconst K at_123 (pc' := 124) rfl (z := (2 : Int32)) rfl ?_
  refine s_lload K at_124 (pc' := 126) rfl rfl ?_
  refine s_lastore K at_126 (pc' := 127) rfl (k := 0) rfl (i := 2) (by decide) (ltB rfl) (L' := [(b108, .inr (.long, [.long hi, .long mid, .long lo, .long 0])), (b105, .inr (.int, [.int 1, .int 3])), (b106, .inr (.int, [.int 0, .int 0])), (b107, .inr (.int, [.int 0, .int 1])), (b101, oNM (.int 1) (.ref b107) (.ref b106) (.ref b105) (.int 2) .null .null (.int 0))]) rfl ?_
  refine s_dup K at_127 (pc' := 128) rfl rfl ?_
  refine s_iconst K at_128 (pc' := 129) rfl (z := (3 : Int32)) rfl ?_
  refine s_lloadN K at_129 (pc' := 130) rfl rfl ?_
  refine s_lastore K at_130 (pc' := 131) rfl (k := 0) rfl (i := 3) (by decide) (ltB rfl) (L' := [(b108, .inr (.long, [.long hi, .long mid, .long lo, .long p0])), (b105, .inr (.int, [.int 1, .int 3])), (b106, .inr (.int, [.int 0, .int 0])), (b107, .inr (.int, [.int 0, .int 1])), (b101, oNM (.int 1) (.ref b107) (.ref b106) (.ref b105) (.int 2) .null .null (.int 0))]) rfl ?_
  refine s_astore K at_131 (pc' := 133) rfl rfl (Ls' := #[.val (.long p0), .second, .val (.long p1), .second, .val (.long p2), .second, .val (.long p3), .second, .val (.int p4), .val (.long hi), .second, .val (.long lo), .second, .val (.long mid), .second, .val (.int nI), .val (.int qI), .val (.int fI), .val (.ref b101), .val (.ref b108), .unset, .unset, .unset, .unset]) rfl ?_
  refine s_iconst K at_133 (pc' := 134) rfl (z := (2 : Int32)) rfl ?_
  refine s_newarr K at_134 (pc' := 136) rfl rfl (w18 hw) (n := 2) (by decide) (cap := 2) (by decide) (by decide) (vs0 := [.int 0, .int 0]) rfl (ce' := 6) rfl (sl' := 21) rfl (by decide) (by decide) ?_
  intro b109
  refine s_dup K at_136 (pc' := 137) rfl rfl ?_
  refine s_iconst K at_137 (pc' := 138) rfl (z := (0 : Int32)) rfl ?_
  refine s_iconst K at_138 (pc' := 139) rfl (z := (0 : Int32)) rfl ?_
  refine s_iastore K at_139 (pc' := 140) rfl (k := 0) rfl (i := 0) (by decide) (ltB rfl) (L' := [(b109, .inr (.int, [.int 0, .int 0])), (b108, .inr (.long, [.long hi, .long mid, .long lo, .long p0])), (b105, .inr (.int, [.int 1, .int 3])), (b106, .inr (.int, [.int 0, .int 0])), (b107, .inr (.int, [.int 0, .int 1])), (b101, oNM (.int 1) (.ref b107) (.ref b106) (.ref b105) (.int 2) .null .null (.int 0))]) rfl ?_
  refine s_dup K at_140 (pc' := 141) rfl rfl ?_
  refine s_iconst K at_141 (pc' := 142) rfl (z := (1 : Int32)) rfl ?_
  refine s_iconst K at_142 (pc' := 143) rfl (z := (4 : Int32)) rfl ?_
  refine s_iastore K at_143 (pc' := 144) rfl (k := 0) rfl (i := 1) (by decide) (ltB rfl) (L' := [(b109, .inr (.int, [.int 0, .int 4])), (b108, .inr (.long, [.long hi, .long mid, .long lo, .long p0])), (b105, .inr (.int, [.int 1, .int 3])), (b106, .inr (.int, [.int 0, .int 0])), (b107, .inr (.int, [.int 0, .int 1])), (b101, oNM (.int 1) (.ref b107) (.ref b106) (.ref b105) (.int 2) .null .null (.int 0))]) rfl ?_
  refine s_astore K at_144 (pc' := 146) rfl rfl (Ls' := #[.val (.long p0), .second, .val (.long p1), .second, .val (.long p2), .second, .val (.long p3), .second, .val (.int p4), .val (.long hi), .second, .val (.long lo), .second, .val (.long mid), .second, .val (.int nI), .val (.int qI), .val (.int fI), .val (.ref b101), .val (.ref b108), .val (.ref b109), .unset, .unset, .unset]) rfl ?_
  refine s_new K at_146 (pc' := 149) rfl (w33 hw) (w34 hw) (w35 hw) (ly_oLS hw) nd_oLS (gs := [("com/example/evenkeel/evenkeel/LagSeats", "alike", "Z", .int 0), ("com/example/evenkeel/evenkeel/LagSeats", "share", "I", .int 0), ("com/example/evenkeel/evenkeel/LagSeats", "floors", "[I", .null), ("com/example/evenkeel/evenkeel/LagSeats", "extras", "I", .int 0), ("com/example/evenkeel/evenkeel/LagSeats", "extrasAtStart", "I", .int 0), ("com/example/evenkeel/evenkeel/LagSeats", "keptCounts", "[I", .null), ("com/example/evenkeel/evenkeel/LagSeats", "keptTotals", "[J", .null), ("com/example/evenkeel/evenkeel/LagSeats", "counts", "[I", .null), ("com/example/evenkeel/evenkeel/LagSeats", "totals", "[J", .null), ("com/example/evenkeel/evenkeel/LagSeats", "lags", "[J", .null), ("com/example/evenkeel/evenkeel/LagSeats", "rankStarts", "[I", .null), ("com/example/evenkeel/evenkeel/LagSeats", "kindSeatStarts", "[I", .null), ("com/example/evenkeel/evenkeel/LagSeats", "seatMembers", "[I", .null), ("com/example/evenkeel/evenkeel/LagSeats", "seatKinds", "[I", .null), ("com/example/evenkeel/evenkeel/LagSeats", "memberSeatStarts", "[I", .null), ("com/example/evenkeel/evenkeel/LagSeats", "memberSeats", "[I", .null), ("com/example/evenkeel/evenkeel/LagSeats", "memberSeatKeys", "[I", .null), ("com/example/evenkeel/evenkeel/LagSeats", "rooms", "[I", .null), ("com/example/evenkeel/evenkeel/LagSeats", "runs", "Lcom/example/evenkeel/evenkeel/LagSeats$Runs;", .null), ("com/example/evenkeel/evenkeel/LagSeats", "slots", "[I", .null), ("com/example/evenkeel/evenkeel/LagSeats", "slotLags", "[J", .null), ("com/example/evenkeel/evenkeel/LagSeats", "filled", "[I", .null), ("com/example/evenkeel/evenkeel/LagSeats", "rankOwners", "[I", .null), ("com/example/evenkeel/evenkeel/LagSeats", "ownedCounts", "[I", .null), ("com/example/evenkeel/evenkeel/LagSeats", "awayStarts", "[I", .null), ("com/example/evenkeel/evenkeel/LagSeats", "awayRanks", "[I", .null), ("com/example/evenkeel/evenkeel/LagSeats", "awaySeats", "[I", .null), ("com/example/evenkeel/evenkeel/LagSeats", "awayCounts", "[I", .null), ("com/example/evenkeel/evenkeel/LagSeats", "awayPlaces", "[I", .null)]) rfl (ce' := 7) rfl (sl' := 50) rfl (by decide) (by decide) ?_
  intro b110
  refine s_dup K at_149 (pc' := 150) rfl rfl ?_
  refine s_iconst K at_150 (pc' := 151) rfl (z := (0 : Int32)) rfl ?_
  refine s_iconst K at_151 (pc' := 152) rfl (z := (0 : Int32)) rfl ?_
  refine s_null K at_152 (pc' := 153) rfl  ?_
  refine s_iconst K at_153 (pc' := 154) rfl (z := (0 : Int32)) rfl ?_
  refine s_iconst K at_154 (pc' := 155) rfl (z := (2 : Int32)) rfl ?_
  refine s_newarr K at_155 (pc' := 157) rfl rfl (w18 hw) (n := 2) (by decide) (cap := 2) (by decide) (by decide) (vs0 := [.int 0, .int 0]) rfl (ce' := 8) rfl (sl' := 52) rfl (by decide) (by decide) ?_
  intro b111
  refine s_iconst K at_157 (pc' := 158) rfl (z := (2 : Int32)) rfl ?_
  refine s_newarr K at_158 (pc' := 160) rfl rfl (w32 hw) (n := 2) (by decide) (cap := 2) (by decide) (by decide) (vs0 := [.long 0, .long 0]) rfl (ce' := 9) rfl (sl' := 54) rfl (by decide) (by decide) ?_
  intro b112
  refine s_aload K at_160 (pc' := 162) rfl rfl rfl ?_
  refine s_aload K at_162 (pc' := 164) rfl rfl rfl ?_
  refine s_null K at_164 (pc' := 165) rfl  ?_
  refine s_aload K at_165 (pc' := 167) rfl rfl rfl ?_
  refine s_special K at_167 (pc' := 170) rfl rfl (a := b110) (as := [.int 0, .int 0, .null, .int 0, .ref b111, .ref b112, .ref b108, .ref b109, .null, .ref b101]) (k4_init hw _ b112 b111 b110 b109 b108 b105 b106 b107 b101 hi mid lo p0) (w36 hw) (w37 hw) (w35 hw) (w38 hw) (by decide) pd_8 rfl (rest := [.ref b110]) rfl rfl (W := 1) (Nat.le_of_eq rfl) (by decide) (by decide) (ce' := 21) rfl (sl' := 83) rfl (by decide) (by decide) ?_
  rintro v _ ⟨b131, b132, b133, b134, b135, b136, b137, b138, b139, b140, b141, b142, rfl, rfl⟩
  show Go l Z n0 _ _ κ 21 83 [(b131, .inr (.int, [.int 0, .int 0])), (b132, .inr (.long, [.long 0, .long 0, .long 0, .long 0])), (b133, .inr (.int, [.int 0, .int 0, .int 0, .int 0])), (b134, .inr (.int, [.int 0, .int 0])), (b135, .inr (.int, [.int 0, .int 1, .int 2])), (b136, .inr (.int, [.int 1, .int 2])), (b137, .inr (.int, [.int 0])), (b138, .inr (.int, [.int 0, .int 1])), (b139, .inr (.int, [.int 0, .int 2])), (b140, .inr (.int, [.int 0, .int 1, .int 4])), (b141, .inr (.long, [.long 0, .long 0])), (b142, .inr (.int, [.int 0, .int 0])), (b112, .inr (.long, [.long 0, .long 0])), (b111, .inr (.int, [.int 0, .int 0])), (b110, oLS (.int 0) (.int 0) .null (.int 0) (.int 0) (.ref b111) (.ref b112) (.ref b142) (.ref b141) (.ref b108) (.ref b109) (.ref b139) (.ref b107) (.ref b106) (.ref b135) (.ref b138) (.ref b134) (.ref b140) .null (.ref b133) (.ref b132) (.ref b131) .null .null .null .null .null .null .null), (b109, .inr (.int, [.int 0, .int 4])), (b108, .inr (.long, [.long hi, .long mid, .long lo, .long p0])), (b105, .inr (.int, [.int 1, .int 3])), (b106, .inr (.int, [.int 0, .int 0])), (b107, .inr (.int, [.int 0, .int 1])), (b101, oNM (.int 1) (.ref b107) (.ref b106) (.ref b105) (.int 2) .null .null (.int 0))] 170 #[.val (.long p0), .second, .val (.long p1), .second, .val (.long p2), .second, .val (.long p3), .second, .val (.int p4), .val (.long hi), .second, .val (.long lo), .second, .val (.long mid), .second, .val (.int nI), .val (.int qI), .val (.int fI), .val (.ref b101), .val (.ref b108), .val (.ref b109), .unset, .unset, .unset] [.ref b110]
  refine s_astore K at_170 (pc' := 172) rfl rfl (Ls' := #[.val (.long p0), .second, .val (.long p1), .second, .val (.long p2), .second, .val (.long p3), .second, .val (.int p4), .val (.long hi), .second, .val (.long lo), .second, .val (.long mid), .second, .val (.int nI), .val (.int qI), .val (.int fI), .val (.ref b101), .val (.ref b108), .val (.ref b109), .val (.ref b110), .unset, .unset]) rfl ?_
  refine s_front (k := 1) rfl (L' := [(b132, .inr (.long, [.long 0, .long 0, .long 0, .long 0])), (b131, .inr (.int, [.int 0, .int 0])), (b133, .inr (.int, [.int 0, .int 0, .int 0, .int 0])), (b134, .inr (.int, [.int 0, .int 0])), (b135, .inr (.int, [.int 0, .int 1, .int 2])), (b136, .inr (.int, [.int 1, .int 2])), (b137, .inr (.int, [.int 0])), (b138, .inr (.int, [.int 0, .int 1])), (b139, .inr (.int, [.int 0, .int 2])), (b140, .inr (.int, [.int 0, .int 1, .int 4])), (b141, .inr (.long, [.long 0, .long 0])), (b142, .inr (.int, [.int 0, .int 0])), (b112, .inr (.long, [.long 0, .long 0])), (b111, .inr (.int, [.int 0, .int 0])), (b110, oLS (.int 0) (.int 0) .null (.int 0) (.int 0) (.ref b111) (.ref b112) (.ref b142) (.ref b141) (.ref b108) (.ref b109) (.ref b139) (.ref b107) (.ref b106) (.ref b135) (.ref b138) (.ref b134) (.ref b140) .null (.ref b133) (.ref b132) (.ref b131) .null .null .null .null .null .null .null), (b109, .inr (.int, [.int 0, .int 4])), (b108, .inr (.long, [.long hi, .long mid, .long lo, .long p0])), (b105, .inr (.int, [.int 1, .int 3])), (b106, .inr (.int, [.int 0, .int 0])), (b107, .inr (.int, [.int 0, .int 1])), (b101, oNM (.int 1) (.ref b107) (.ref b106) (.ref b105) (.int 2) .null .null (.int 0))]) rfl ?_
  refine s_front (k := 2) rfl (L' := [(b133, .inr (.int, [.int 0, .int 0, .int 0, .int 0])), (b132, .inr (.long, [.long 0, .long 0, .long 0, .long 0])), (b131, .inr (.int, [.int 0, .int 0])), (b134, .inr (.int, [.int 0, .int 0])), (b135, .inr (.int, [.int 0, .int 1, .int 2])), (b136, .inr (.int, [.int 1, .int 2])), (b137, .inr (.int, [.int 0])), (b138, .inr (.int, [.int 0, .int 1])), (b139, .inr (.int, [.int 0, .int 2])), (b140, .inr (.int, [.int 0, .int 1, .int 4])), (b141, .inr (.long, [.long 0, .long 0])), (b142, .inr (.int, [.int 0, .int 0])), (b112, .inr (.long, [.long 0, .long 0])), (b111, .inr (.int, [.int 0, .int 0])), (b110, oLS (.int 0) (.int 0) .null (.int 0) (.int 0) (.ref b111) (.ref b112) (.ref b142) (.ref b141) (.ref b108) (.ref b109) (.ref b139) (.ref b107) (.ref b106) (.ref b135) (.ref b138) (.ref b134) (.ref b140) .null (.ref b133) (.ref b132) (.ref b131) .null .null .null .null .null .null .null), (b109, .inr (.int, [.int 0, .int 4])), (b108, .inr (.long, [.long hi, .long mid, .long lo, .long p0])), (b105, .inr (.int, [.int 1, .int 3])), (b106, .inr (.int, [.int 0, .int 0])), (b107, .inr (.int, [.int 0, .int 1])), (b101, oNM (.int 1) (.ref b107) (.ref b106) (.ref b105) (.int 2) .null .null (.int 0))]) rfl ?_
  refine s_front (k := 16) rfl (L' := [(b108, .inr (.long, [.long hi, .long mid, .long lo, .long p0])), (b133, .inr (.int, [.int 0, .int 0, .int 0, .int 0])), (b132, .inr (.long, [.long 0, .long 0, .long 0, .long 0])), (b131, .inr (.int, [.int 0, .int 0])), (b134, .inr (.int, [.int 0, .int 0])), (b135, .inr (.int, [.int 0, .int 1, .int 2])), (b136, .inr (.int, [.int 1, .int 2])), (b137, .inr (.int, [.int 0])), (b138, .inr (.int, [.int 0, .int 1])), (b139, .inr (.int, [.int 0, .int 2])), (b140, .inr (.int, [.int 0, .int 1, .int 4])), (b141, .inr (.long, [.long 0, .long 0])), (b142, .inr (.int, [.int 0, .int 0])), (b112, .inr (.long, [.long 0, .long 0])), (b111, .inr (.int, [.int 0, .int 0])), (b110, oLS (.int 0) (.int 0) .null (.int 0) (.int 0) (.ref b111) (.ref b112) (.ref b142) (.ref b141) (.ref b108) (.ref b109) (.ref b139) (.ref b107) (.ref b106) (.ref b135) (.ref b138) (.ref b134) (.ref b140) .null (.ref b133) (.ref b132) (.ref b131) .null .null .null .null .null .null .null), (b109, .inr (.int, [.int 0, .int 4])), (b105, .inr (.int, [.int 1, .int 3])), (b106, .inr (.int, [.int 0, .int 0])), (b107, .inr (.int, [.int 0, .int 1])), (b101, oNM (.int 1) (.ref b107) (.ref b106) (.ref b105) (.int 2) .null .null (.int 0))]) rfl ?_
  refine s_front (k := 11) rfl (L' := [(b141, .inr (.long, [.long 0, .long 0])), (b108, .inr (.long, [.long hi, .long mid, .long lo, .long p0])), (b133, .inr (.int, [.int 0, .int 0, .int 0, .int 0])), (b132, .inr (.long, [.long 0, .long 0, .long 0, .long 0])), (b131, .inr (.int, [.int 0, .int 0])), (b134, .inr (.int, [.int 0, .int 0])), (b135, .inr (.int, [.int 0, .int 1, .int 2])), (b136, .inr (.int, [.int 1, .int 2])), (b137, .inr (.int, [.int 0])), (b138, .inr (.int, [.int 0, .int 1])), (b139, .inr (.int, [.int 0, .int 2])), (b140, .inr (.int, [.int 0, .int 1, .int 4])), (b142, .inr (.int, [.int 0, .int 0])), (b112, .inr (.long, [.long 0, .long 0])), (b111, .inr (.int, [.int 0, .int 0])), (b110, oLS (.int 0) (.int 0) .null (.int 0) (.int 0) (.ref b111) (.ref b112) (.ref b142) (.ref b141) (.ref b108) (.ref b109) (.ref b139) (.ref b107) (.ref b106) (.ref b135) (.ref b138) (.ref b134) (.ref b140) .null (.ref b133) (.ref b132) (.ref b131) .null .null .null .null .null .null .null), (b109, .inr (.int, [.int 0, .int 4])), (b105, .inr (.int, [.int 1, .int 3])), (b106, .inr (.int, [.int 0, .int 0])), (b107, .inr (.int, [.int 0, .int 1])), (b101, oNM (.int 1) (.ref b107) (.ref b106) (.ref b105) (.int 2) .null .null (.int 0))]) rfl ?_
  refine s_front (k := 12) rfl (L' := [(b142, .inr (.int, [.int 0, .int 0])), (b141, .inr (.long, [.long 0, .long 0])), (b108, .inr (.long, [.long hi, .long mid, .long lo, .long p0])), (b133, .inr (.int, [.int 0, .int 0, .int 0, .int 0])), (b132, .inr (.long, [.long 0, .long 0, .long 0, .long 0])), (b131, .inr (.int, [.int 0, .int 0])), (b134, .inr (.int, [.int 0, .int 0])), (b135, .inr (.int, [.int 0, .int 1, .int 2])), (b136, .inr (.int, [.int 1, .int 2])), (b137, .inr (.int, [.int 0])), (b138, .inr (.int, [.int 0, .int 1])), (b139, .inr (.int, [.int 0, .int 2])), (b140, .inr (.int, [.int 0, .int 1, .int 4])), (b112, .inr (.long, [.long 0, .long 0])), (b111, .inr (.int, [.int 0, .int 0])), (b110, oLS (.int 0) (.int 0) .null (.int 0) (.int 0) (.ref b111) (.ref b112) (.ref b142) (.ref b141) (.ref b108) (.ref b109) (.ref b139) (.ref b107) (.ref b106) (.ref b135) (.ref b138) (.ref b134) (.ref b140) .null (.ref b133) (.ref b132) (.ref b131) .null .null .null .null .null .null .null), (b109, .inr (.int, [.int 0, .int 4])), (b105, .inr (.int, [.int 1, .int 3])), (b106, .inr (.int, [.int 0, .int 0])), (b107, .inr (.int, [.int 0, .int 1])), (b101, oNM (.int 1) (.ref b107) (.ref b106) (.ref b105) (.int 2) .null .null (.int 0))]) rfl ?_
  refine s_front (k := 5) rfl (L' := [(b131, .inr (.int, [.int 0, .int 0])), (b142, .inr (.int, [.int 0, .int 0])), (b141, .inr (.long, [.long 0, .long 0])), (b108, .inr (.long, [.long hi, .long mid, .long lo, .long p0])), (b133, .inr (.int, [.int 0, .int 0, .int 0, .int 0])), (b132, .inr (.long, [.long 0, .long 0, .long 0, .long 0])), (b134, .inr (.int, [.int 0, .int 0])), (b135, .inr (.int, [.int 0, .int 1, .int 2])), (b136, .inr (.int, [.int 1, .int 2])), (b137, .inr (.int, [.int 0])), (b138, .inr (.int, [.int 0, .int 1])), (b139, .inr (.int, [.int 0, .int 2])), (b140, .inr (.int, [.int 0, .int 1, .int 4])), (b112, .inr (.long, [.long 0, .long 0])), (b111, .inr (.int, [.int 0, .int 0])), (b110, oLS (.int 0) (.int 0) .null (.int 0) (.int 0) (.ref b111) (.ref b112) (.ref b142) (.ref b141) (.ref b108) (.ref b109) (.ref b139) (.ref b107) (.ref b106) (.ref b135) (.ref b138) (.ref b134) (.ref b140) .null (.ref b133) (.ref b132) (.ref b131) .null .null .null .null .null .null .null), (b109, .inr (.int, [.int 0, .int 4])), (b105, .inr (.int, [.int 1, .int 3])), (b106, .inr (.int, [.int 0, .int 0])), (b107, .inr (.int, [.int 0, .int 1])), (b101, oNM (.int 1) (.ref b107) (.ref b106) (.ref b105) (.int 2) .null .null (.int 0))]) rfl ?_
  refine s_front (k := 12) rfl (L' := [(b140, .inr (.int, [.int 0, .int 1, .int 4])), (b131, .inr (.int, [.int 0, .int 0])), (b142, .inr (.int, [.int 0, .int 0])), (b141, .inr (.long, [.long 0, .long 0])), (b108, .inr (.long, [.long hi, .long mid, .long lo, .long p0])), (b133, .inr (.int, [.int 0, .int 0, .int 0, .int 0])), (b132, .inr (.long, [.long 0, .long 0, .long 0, .long 0])), (b134, .inr (.int, [.int 0, .int 0])), (b135, .inr (.int, [.int 0, .int 1, .int 2])), (b136, .inr (.int, [.int 1, .int 2])), (b137, .inr (.int, [.int 0])), (b138, .inr (.int, [.int 0, .int 1])), (b139, .inr (.int, [.int 0, .int 2])), (b112, .inr (.long, [.long 0, .long 0])), (b111, .inr (.int, [.int 0, .int 0])), (b110, oLS (.int 0) (.int 0) .null (.int 0) (.int 0) (.ref b111) (.ref b112) (.ref b142) (.ref b141) (.ref b108) (.ref b109) (.ref b139) (.ref b107) (.ref b106) (.ref b135) (.ref b138) (.ref b134) (.ref b140) .null (.ref b133) (.ref b132) (.ref b131) .null .null .null .null .null .null .null), (b109, .inr (.int, [.int 0, .int 4])), (b105, .inr (.int, [.int 1, .int 3])), (b106, .inr (.int, [.int 0, .int 0])), (b107, .inr (.int, [.int 0, .int 1])), (b101, oNM (.int 1) (.ref b107) (.ref b106) (.ref b105) (.int 2) .null .null (.int 0))]) rfl ?_
  refine s_front (k := 19) rfl (L' := [(b107, .inr (.int, [.int 0, .int 1])), (b140, .inr (.int, [.int 0, .int 1, .int 4])), (b131, .inr (.int, [.int 0, .int 0])), (b142, .inr (.int, [.int 0, .int 0])), (b141, .inr (.long, [.long 0, .long 0])), (b108, .inr (.long, [.long hi, .long mid, .long lo, .long p0])), (b133, .inr (.int, [.int 0, .int 0, .int 0, .int 0])), (b132, .inr (.long, [.long 0, .long 0, .long 0, .long 0])), (b134, .inr (.int, [.int 0, .int 0])), (b135, .inr (.int, [.int 0, .int 1, .int 2])), (b136, .inr (.int, [.int 1, .int 2])), (b137, .inr (.int, [.int 0])), (b138, .inr (.int, [.int 0, .int 1])), (b139, .inr (.int, [.int 0, .int 2])), (b112, .inr (.long, [.long 0, .long 0])), (b111, .inr (.int, [.int 0, .int 0])), (b110, oLS (.int 0) (.int 0) .null (.int 0) (.int 0) (.ref b111) (.ref b112) (.ref b142) (.ref b141) (.ref b108) (.ref b109) (.ref b139) (.ref b107) (.ref b106) (.ref b135) (.ref b138) (.ref b134) (.ref b140) .null (.ref b133) (.ref b132) (.ref b131) .null .null .null .null .null .null .null), (b109, .inr (.int, [.int 0, .int 4])), (b105, .inr (.int, [.int 1, .int 3])), (b106, .inr (.int, [.int 0, .int 0])), (b101, oNM (.int 1) (.ref b107) (.ref b106) (.ref b105) (.int 2) .null .null (.int 0))]) rfl ?_
  refine s_front (k := 16) rfl (L' := [(b110, oLS (.int 0) (.int 0) .null (.int 0) (.int 0) (.ref b111) (.ref b112) (.ref b142) (.ref b141) (.ref b108) (.ref b109) (.ref b139) (.ref b107) (.ref b106) (.ref b135) (.ref b138) (.ref b134) (.ref b140) .null (.ref b133) (.ref b132) (.ref b131) .null .null .null .null .null .null .null), (b107, .inr (.int, [.int 0, .int 1])), (b140, .inr (.int, [.int 0, .int 1, .int 4])), (b131, .inr (.int, [.int 0, .int 0])), (b142, .inr (.int, [.int 0, .int 0])), (b141, .inr (.long, [.long 0, .long 0])), (b108, .inr (.long, [.long hi, .long mid, .long lo, .long p0])), (b133, .inr (.int, [.int 0, .int 0, .int 0, .int 0])), (b132, .inr (.long, [.long 0, .long 0, .long 0, .long 0])), (b134, .inr (.int, [.int 0, .int 0])), (b135, .inr (.int, [.int 0, .int 1, .int 2])), (b136, .inr (.int, [.int 1, .int 2])), (b137, .inr (.int, [.int 0])), (b138, .inr (.int, [.int 0, .int 1])), (b139, .inr (.int, [.int 0, .int 2])), (b112, .inr (.long, [.long 0, .long 0])), (b111, .inr (.int, [.int 0, .int 0])), (b109, .inr (.int, [.int 0, .int 4])), (b105, .inr (.int, [.int 1, .int 3])), (b106, .inr (.int, [.int 0, .int 0])), (b101, oNM (.int 1) (.ref b107) (.ref b106) (.ref b105) (.int 2) .null .null (.int 0))]) rfl ?_
  refine s_drop (k := 20) (L' := [(b110, oLS (.int 0) (.int 0) .null (.int 0) (.int 0) (.ref b111) (.ref b112) (.ref b142) (.ref b141) (.ref b108) (.ref b109) (.ref b139) (.ref b107) (.ref b106) (.ref b135) (.ref b138) (.ref b134) (.ref b140) .null (.ref b133) (.ref b132) (.ref b131) .null .null .null .null .null .null .null), (b107, .inr (.int, [.int 0, .int 1])), (b140, .inr (.int, [.int 0, .int 1, .int 4])), (b131, .inr (.int, [.int 0, .int 0])), (b142, .inr (.int, [.int 0, .int 0])), (b141, .inr (.long, [.long 0, .long 0])), (b108, .inr (.long, [.long hi, .long mid, .long lo, .long p0])), (b133, .inr (.int, [.int 0, .int 0, .int 0, .int 0])), (b132, .inr (.long, [.long 0, .long 0, .long 0, .long 0])), (b134, .inr (.int, [.int 0, .int 0])), (b135, .inr (.int, [.int 0, .int 1, .int 2])), (b136, .inr (.int, [.int 1, .int 2])), (b137, .inr (.int, [.int 0])), (b138, .inr (.int, [.int 0, .int 1])), (b139, .inr (.int, [.int 0, .int 2])), (b112, .inr (.long, [.long 0, .long 0])), (b111, .inr (.int, [.int 0, .int 0])), (b109, .inr (.int, [.int 0, .int 4])), (b105, .inr (.int, [.int 1, .int 3])), (b106, .inr (.int, [.int 0, .int 0]))]) rfl ?_
  refine s_drop (k := 19) (L' := [(b110, oLS (.int 0) (.int 0) .null (.int 0) (.int 0) (.ref b111) (.ref b112) (.ref b142) (.ref b141) (.ref b108) (.ref b109) (.ref b139) (.ref b107) (.ref b106) (.ref b135) (.ref b138) (.ref b134) (.ref b140) .null (.ref b133) (.ref b132) (.ref b131) .null .null .null .null .null .null .null), (b107, .inr (.int, [.int 0, .int 1])), (b140, .inr (.int, [.int 0, .int 1, .int 4])), (b131, .inr (.int, [.int 0, .int 0])), (b142, .inr (.int, [.int 0, .int 0])), (b141, .inr (.long, [.long 0, .long 0])), (b108, .inr (.long, [.long hi, .long mid, .long lo, .long p0])), (b133, .inr (.int, [.int 0, .int 0, .int 0, .int 0])), (b132, .inr (.long, [.long 0, .long 0, .long 0, .long 0])), (b134, .inr (.int, [.int 0, .int 0])), (b135, .inr (.int, [.int 0, .int 1, .int 2])), (b136, .inr (.int, [.int 1, .int 2])), (b137, .inr (.int, [.int 0])), (b138, .inr (.int, [.int 0, .int 1])), (b139, .inr (.int, [.int 0, .int 2])), (b112, .inr (.long, [.long 0, .long 0])), (b111, .inr (.int, [.int 0, .int 0])), (b109, .inr (.int, [.int 0, .int 4])), (b105, .inr (.int, [.int 1, .int 3]))]) rfl ?_
  refine s_drop (k := 18) (L' := [(b110, oLS (.int 0) (.int 0) .null (.int 0) (.int 0) (.ref b111) (.ref b112) (.ref b142) (.ref b141) (.ref b108) (.ref b109) (.ref b139) (.ref b107) (.ref b106) (.ref b135) (.ref b138) (.ref b134) (.ref b140) .null (.ref b133) (.ref b132) (.ref b131) .null .null .null .null .null .null .null), (b107, .inr (.int, [.int 0, .int 1])), (b140, .inr (.int, [.int 0, .int 1, .int 4])), (b131, .inr (.int, [.int 0, .int 0])), (b142, .inr (.int, [.int 0, .int 0])), (b141, .inr (.long, [.long 0, .long 0])), (b108, .inr (.long, [.long hi, .long mid, .long lo, .long p0])), (b133, .inr (.int, [.int 0, .int 0, .int 0, .int 0])), (b132, .inr (.long, [.long 0, .long 0, .long 0, .long 0])), (b134, .inr (.int, [.int 0, .int 0])), (b135, .inr (.int, [.int 0, .int 1, .int 2])), (b136, .inr (.int, [.int 1, .int 2])), (b137, .inr (.int, [.int 0])), (b138, .inr (.int, [.int 0, .int 1])), (b139, .inr (.int, [.int 0, .int 2])), (b112, .inr (.long, [.long 0, .long 0])), (b111, .inr (.int, [.int 0, .int 0])), (b109, .inr (.int, [.int 0, .int 4]))]) rfl ?_
  refine s_drop (k := 17) (L' := [(b110, oLS (.int 0) (.int 0) .null (.int 0) (.int 0) (.ref b111) (.ref b112) (.ref b142) (.ref b141) (.ref b108) (.ref b109) (.ref b139) (.ref b107) (.ref b106) (.ref b135) (.ref b138) (.ref b134) (.ref b140) .null (.ref b133) (.ref b132) (.ref b131) .null .null .null .null .null .null .null), (b107, .inr (.int, [.int 0, .int 1])), (b140, .inr (.int, [.int 0, .int 1, .int 4])), (b131, .inr (.int, [.int 0, .int 0])), (b142, .inr (.int, [.int 0, .int 0])), (b141, .inr (.long, [.long 0, .long 0])), (b108, .inr (.long, [.long hi, .long mid, .long lo, .long p0])), (b133, .inr (.int, [.int 0, .int 0, .int 0, .int 0])), (b132, .inr (.long, [.long 0, .long 0, .long 0, .long 0])), (b134, .inr (.int, [.int 0, .int 0])), (b135, .inr (.int, [.int 0, .int 1, .int 2])), (b136, .inr (.int, [.int 1, .int 2])), (b137, .inr (.int, [.int 0])), (b138, .inr (.int, [.int 0, .int 1])), (b139, .inr (.int, [.int 0, .int 2])), (b112, .inr (.long, [.long 0, .long 0])), (b111, .inr (.int, [.int 0, .int 0]))]) rfl ?_
  refine s_drop (k := 16) (L' := [(b110, oLS (.int 0) (.int 0) .null (.int 0) (.int 0) (.ref b111) (.ref b112) (.ref b142) (.ref b141) (.ref b108) (.ref b109) (.ref b139) (.ref b107) (.ref b106) (.ref b135) (.ref b138) (.ref b134) (.ref b140) .null (.ref b133) (.ref b132) (.ref b131) .null .null .null .null .null .null .null), (b107, .inr (.int, [.int 0, .int 1])), (b140, .inr (.int, [.int 0, .int 1, .int 4])), (b131, .inr (.int, [.int 0, .int 0])), (b142, .inr (.int, [.int 0, .int 0])), (b141, .inr (.long, [.long 0, .long 0])), (b108, .inr (.long, [.long hi, .long mid, .long lo, .long p0])), (b133, .inr (.int, [.int 0, .int 0, .int 0, .int 0])), (b132, .inr (.long, [.long 0, .long 0, .long 0, .long 0])), (b134, .inr (.int, [.int 0, .int 0])), (b135, .inr (.int, [.int 0, .int 1, .int 2])), (b136, .inr (.int, [.int 1, .int 2])), (b137, .inr (.int, [.int 0])), (b138, .inr (.int, [.int 0, .int 1])), (b139, .inr (.int, [.int 0, .int 2])), (b112, .inr (.long, [.long 0, .long 0]))]) rfl ?_
  refine s_drop (k := 15) (L' := [(b110, oLS (.int 0) (.int 0) .null (.int 0) (.int 0) (.ref b111) (.ref b112) (.ref b142) (.ref b141) (.ref b108) (.ref b109) (.ref b139) (.ref b107) (.ref b106) (.ref b135) (.ref b138) (.ref b134) (.ref b140) .null (.ref b133) (.ref b132) (.ref b131) .null .null .null .null .null .null .null), (b107, .inr (.int, [.int 0, .int 1])), (b140, .inr (.int, [.int 0, .int 1, .int 4])), (b131, .inr (.int, [.int 0, .int 0])), (b142, .inr (.int, [.int 0, .int 0])), (b141, .inr (.long, [.long 0, .long 0])), (b108, .inr (.long, [.long hi, .long mid, .long lo, .long p0])), (b133, .inr (.int, [.int 0, .int 0, .int 0, .int 0])), (b132, .inr (.long, [.long 0, .long 0, .long 0, .long 0])), (b134, .inr (.int, [.int 0, .int 0])), (b135, .inr (.int, [.int 0, .int 1, .int 2])), (b136, .inr (.int, [.int 1, .int 2])), (b137, .inr (.int, [.int 0])), (b138, .inr (.int, [.int 0, .int 1])), (b139, .inr (.int, [.int 0, .int 2]))]) rfl ?_
  refine s_drop (k := 14) (L' := [(b110, oLS (.int 0) (.int 0) .null (.int 0) (.int 0) (.ref b111) (.ref b112) (.ref b142) (.ref b141) (.ref b108) (.ref b109) (.ref b139) (.ref b107) (.ref b106) (.ref b135) (.ref b138) (.ref b134) (.ref b140) .null (.ref b133) (.ref b132) (.ref b131) .null .null .null .null .null .null .null), (b107, .inr (.int, [.int 0, .int 1])), (b140, .inr (.int, [.int 0, .int 1, .int 4])), (b131, .inr (.int, [.int 0, .int 0])), (b142, .inr (.int, [.int 0, .int 0])), (b141, .inr (.long, [.long 0, .long 0])), (b108, .inr (.long, [.long hi, .long mid, .long lo, .long p0])), (b133, .inr (.int, [.int 0, .int 0, .int 0, .int 0])), (b132, .inr (.long, [.long 0, .long 0, .long 0, .long 0])), (b134, .inr (.int, [.int 0, .int 0])), (b135, .inr (.int, [.int 0, .int 1, .int 2])), (b136, .inr (.int, [.int 1, .int 2])), (b137, .inr (.int, [.int 0])), (b138, .inr (.int, [.int 0, .int 1]))]) rfl ?_
  refine s_drop (k := 13) (L' := [(b110, oLS (.int 0) (.int 0) .null (.int 0) (.int 0) (.ref b111) (.ref b112) (.ref b142) (.ref b141) (.ref b108) (.ref b109) (.ref b139) (.ref b107) (.ref b106) (.ref b135) (.ref b138) (.ref b134) (.ref b140) .null (.ref b133) (.ref b132) (.ref b131) .null .null .null .null .null .null .null), (b107, .inr (.int, [.int 0, .int 1])), (b140, .inr (.int, [.int 0, .int 1, .int 4])), (b131, .inr (.int, [.int 0, .int 0])), (b142, .inr (.int, [.int 0, .int 0])), (b141, .inr (.long, [.long 0, .long 0])), (b108, .inr (.long, [.long hi, .long mid, .long lo, .long p0])), (b133, .inr (.int, [.int 0, .int 0, .int 0, .int 0])), (b132, .inr (.long, [.long 0, .long 0, .long 0, .long 0])), (b134, .inr (.int, [.int 0, .int 0])), (b135, .inr (.int, [.int 0, .int 1, .int 2])), (b136, .inr (.int, [.int 1, .int 2])), (b137, .inr (.int, [.int 0]))]) rfl ?_
  refine s_drop (k := 12) (L' := [(b110, oLS (.int 0) (.int 0) .null (.int 0) (.int 0) (.ref b111) (.ref b112) (.ref b142) (.ref b141) (.ref b108) (.ref b109) (.ref b139) (.ref b107) (.ref b106) (.ref b135) (.ref b138) (.ref b134) (.ref b140) .null (.ref b133) (.ref b132) (.ref b131) .null .null .null .null .null .null .null), (b107, .inr (.int, [.int 0, .int 1])), (b140, .inr (.int, [.int 0, .int 1, .int 4])), (b131, .inr (.int, [.int 0, .int 0])), (b142, .inr (.int, [.int 0, .int 0])), (b141, .inr (.long, [.long 0, .long 0])), (b108, .inr (.long, [.long hi, .long mid, .long lo, .long p0])), (b133, .inr (.int, [.int 0, .int 0, .int 0, .int 0])), (b132, .inr (.long, [.long 0, .long 0, .long 0, .long 0])), (b134, .inr (.int, [.int 0, .int 0])), (b135, .inr (.int, [.int 0, .int 1, .int 2])), (b136, .inr (.int, [.int 1, .int 2]))]) rfl ?_
  refine s_drop (k := 11) (L' := [(b110, oLS (.int 0) (.int 0) .null (.int 0) (.int 0) (.ref b111) (.ref b112) (.ref b142) (.ref b141) (.ref b108) (.ref b109) (.ref b139) (.ref b107) (.ref b106) (.ref b135) (.ref b138) (.ref b134) (.ref b140) .null (.ref b133) (.ref b132) (.ref b131) .null .null .null .null .null .null .null), (b107, .inr (.int, [.int 0, .int 1])), (b140, .inr (.int, [.int 0, .int 1, .int 4])), (b131, .inr (.int, [.int 0, .int 0])), (b142, .inr (.int, [.int 0, .int 0])), (b141, .inr (.long, [.long 0, .long 0])), (b108, .inr (.long, [.long hi, .long mid, .long lo, .long p0])), (b133, .inr (.int, [.int 0, .int 0, .int 0, .int 0])), (b132, .inr (.long, [.long 0, .long 0, .long 0, .long 0])), (b134, .inr (.int, [.int 0, .int 0])), (b135, .inr (.int, [.int 0, .int 1, .int 2]))]) rfl ?_
  refine s_drop (k := 10) (L' := [(b110, oLS (.int 0) (.int 0) .null (.int 0) (.int 0) (.ref b111) (.ref b112) (.ref b142) (.ref b141) (.ref b108) (.ref b109) (.ref b139) (.ref b107) (.ref b106) (.ref b135) (.ref b138) (.ref b134) (.ref b140) .null (.ref b133) (.ref b132) (.ref b131) .null .null .null .null .null .null .null), (b107, .inr (.int, [.int 0, .int 1])), (b140, .inr (.int, [.int 0, .int 1, .int 4])), (b131, .inr (.int, [.int 0, .int 0])), (b142, .inr (.int, [.int 0, .int 0])), (b141, .inr (.long, [.long 0, .long 0])), (b108, .inr (.long, [.long hi, .long mid, .long lo, .long p0])), (b133, .inr (.int, [.int 0, .int 0, .int 0, .int 0])), (b132, .inr (.long, [.long 0, .long 0, .long 0, .long 0])), (b134, .inr (.int, [.int 0, .int 0]))]) rfl ?_
  refine s_drop (k := 9) (L' := [(b110, oLS (.int 0) (.int 0) .null (.int 0) (.int 0) (.ref b111) (.ref b112) (.ref b142) (.ref b141) (.ref b108) (.ref b109) (.ref b139) (.ref b107) (.ref b106) (.ref b135) (.ref b138) (.ref b134) (.ref b140) .null (.ref b133) (.ref b132) (.ref b131) .null .null .null .null .null .null .null), (b107, .inr (.int, [.int 0, .int 1])), (b140, .inr (.int, [.int 0, .int 1, .int 4])), (b131, .inr (.int, [.int 0, .int 0])), (b142, .inr (.int, [.int 0, .int 0])), (b141, .inr (.long, [.long 0, .long 0])), (b108, .inr (.long, [.long hi, .long mid, .long lo, .long p0])), (b133, .inr (.int, [.int 0, .int 0, .int 0, .int 0])), (b132, .inr (.long, [.long 0, .long 0, .long 0, .long 0]))]) rfl ?_
  exact nx _ _ _ _ _ _ _ _ _ _ _ _ _ _ _ _ _ _
set_option maxRecDepth 65536 in
set_option maxHeartbeats 400000000 in
theorem first1 {l : Launch} {Z : State} {a0 : Array Value} (hw : HW Z a0) {n0 : Nat} (F : Wd) (b110 b107 b140 b131 b142 b141 b108 b133 b132 b111 b112 b109 b139 b106 b135 b138 b134 : Addr) (hi : Int64) (mid : Int64) (lo : Int64) (p0 : Int64) (p3 : Int64)  :
    Con l Z n0 (⟨"com/example/evenkeel/evenkeel/LagSeats", "firstAtMost", "(IJ)I"⟩ : MethodName) prog_60_method_33_code 7 (some .int) ({ frames := 0, cells := 0, slots := 0, locals := 0 } : Room) [.ref b110, .int (1 : Int32), .long p3] ((b110, oLS (.int 0) (.int 0) .null (.int 0) (.int 0) (.ref b111) (.ref b112) (.ref b142) (.ref b141) (.ref b108) (.ref b109) (.ref b139) (.ref b107) (.ref b106) (.ref b135) (.ref b138) (.ref b134) (.ref b140) .null (.ref b133) (.ref b132) (.ref b131) .null .null .null .null .null .null .null) :: (b107, .inr (.int, [.int 0, .int 1])) :: (b140, .inr (.int, [.int 0, .int 1, .int 4])) :: (b131, .inr (.int, [.int 0, .int 0])) :: (b142, .inr (.int, [.int 0, .int 0])) :: (b141, .inr (.long, [.long 0, .long 0])) :: (b108, .inr (.long, [.long hi, .long mid, .long lo, .long p0])) :: (b133, .inr (.int, [.int 0, .int 0, .int 0, .int 0])) :: (b132, .inr (.long, [.long 0, .long 0, .long 0, .long 0])) :: F) (fun v L' => v = some (.int (Int32.ofNat (1))) ∧ L' = ((b110, oLS (.int 0) (.int 0) .null (.int 0) (.int 0) (.ref b111) (.ref b112) (.ref b142) (.ref b141) (.ref b108) (.ref b109) (.ref b139) (.ref b107) (.ref b106) (.ref b135) (.ref b138) (.ref b134) (.ref b140) .null (.ref b133) (.ref b132) (.ref b131) .null .null .null .null .null .null .null) :: (b107, .inr (.int, [.int 0, .int 1])) :: (b140, .inr (.int, [.int 0, .int 1, .int 4])) :: (b131, .inr (.int, [.int 0, .int 0])) :: (b142, .inr (.int, [.int 0, .int 0])) :: (b141, .inr (.long, [.long 0, .long 0])) :: (b108, .inr (.long, [.long hi, .long mid, .long lo, .long p0])) :: (b133, .inr (.int, [.int 0, .int 0, .int 0, .int 0])) :: (b132, .inr (.long, [.long 0, .long 0, .long 0, .long 0])) :: F)) := by
  refine Con.of (by decide +kernel) (Ls := #[.val (.ref b110), .val (.int 1), .val (.long p3), .second, .unset, .unset, .unset]) (fun m => by first | rfl | (simp [entryFrame, mkF, argsToLocals, Value.category]; done)) ?_
  intro κ K
  refine s_aloadN K d17_0 (pc' := 1) rfl rfl rfl ?_
  refine s_getf K d17_1 (pc' := 4) rfl (w96 hw) (k := 0) rfl (j := 17) rfl ?_
  refine s_iloadN K d17_4 (pc' := 5) rfl rfl ?_
  refine s_iaload K d17_5 (pc' := 6) rfl (k := 2) rfl (i := 1) (by decide) rfl ?_
  refine s_istore K d17_6 (pc' := 8) rfl (Ls' := #[.val (.ref b110), .val (.int 1), .val (.long p3), .second, .val (.int 1), .unset, .unset]) rfl ?_
  refine s_iload K d17_8 (pc' := 10) rfl rfl ?_
  refine s_aloadN K d17_10 (pc' := 11) rfl rfl rfl ?_
  refine s_getf K d17_11 (pc' := 14) rfl (w138 hw) (k := 0) rfl (j := 21) rfl ?_
  refine s_iloadN K d17_14 (pc' := 15) rfl rfl ?_
  refine s_iaload K d17_15 (pc' := 16) rfl (k := 3) rfl (i := 1) (by decide) rfl ?_
  refine s_iadd K d17_16 (pc' := 17) rfl (z := (1 : Int32)) rfl ?_
  refine s_istore K d17_17 (pc' := 19) rfl (Ls' := #[.val (.ref b110), .val (.int 1), .val (.long p3), .second, .val (.int 1), .val (.int 1), .unset]) rfl ?_
  refine s_iload K d17_19 (pc' := 21) rfl rfl ?_
  refine s_iload K d17_21 (pc' := 23) rfl rfl ?_
  refine s_icY K d17_23 rfl (by decide) (pc' := 63) (by decide) ?_
  refine s_iload K d17_63 (pc' := 65) rfl rfl ?_
  exact s_ireturn K d17_65 (by decide) (by decide) ⟨rfl, rfl⟩
set_option maxRecDepth 65536 in
set_option maxHeartbeats 400000000 in
theorem segB_000 {l : Launch} {Z : State} {a0 : Array Value} (hw : HW Z a0) {n0 : Nat} (p0 p1 p2 p3 hi mid lo : Int64) (p4 : Int32) (b110 b107 b140 b131 b142 b141 b108 b133 b132 b101 b109 b111 b112 b139 b106 b135 b138 b134 : Addr) (o1 : mid.toInt ≤ hi.toInt) (o2 : lo.toInt ≤ mid.toInt) (κ : Ctx) (K : Ok Z κ x.cls code maxLocals ret x.name) :
    Go l Z n0 room_1 (fun v _ => v = some (.int 1)) κ 21 83 [(b110, oLS (.int 0) (.int 0) .null (.int 0) (.int 0) (.ref b111) (.ref b112) (.ref b142) (.ref b141) (.ref b108) (.ref b109) (.ref b139) (.ref b107) (.ref b106) (.ref b135) (.ref b138) (.ref b134) (.ref b140) .null (.ref b133) (.ref b132) (.ref b131) .null .null .null .null .null .null .null), (b107, .inr (.int, [.int 0, .int 1])), (b140, .inr (.int, [.int 0, .int 1, .int 4])), (b131, .inr (.int, [.int 0, .int 0])), (b142, .inr (.int, [.int 0, .int 0])), (b141, .inr (.long, [.long 0, .long 0])), (b108, .inr (.long, [.long hi, .long mid, .long lo, .long p0])), (b133, .inr (.int, [.int 0, .int 0, .int 0, .int 0])), (b132, .inr (.long, [.long 0, .long 0, .long 0, .long 0]))] 172 #[.val (.long p0), .second, .val (.long p1), .second, .val (.long p2), .second, .val (.long p3), .second, .val (.int p4), .val (.long hi), .second, .val (.long lo), .second, .val (.long mid), .second, .val (.int 0), .val (.int 0), .val (.int 0), .val (.ref b101), .val (.ref b108), .val (.ref b109), .val (.ref b110), .unset, .unset] [] := by
  refine s_iload K at_172 (pc' := 174) rfl rfl ?_
  refine s_ifY K at_174 rfl (by decide) (pc' := 184) (by decide) ?_
  refine s_iload K at_184 (pc' := 186) rfl rfl ?_
  refine s_iconst K at_186 (pc' := 187) rfl (z := (1 : Int32)) rfl ?_
  refine s_icY K at_187 rfl (by decide) (pc' := 197) (by decide) ?_
  refine s_iload K at_197 (pc' := 199) rfl rfl ?_
  refine s_iconst K at_199 (pc' := 200) rfl (z := (2 : Int32)) rfl ?_
  refine s_icY K at_200 rfl (by decide) (pc' := 210) (by decide) ?_
  refine s_iload K at_210 (pc' := 212) rfl rfl ?_
  refine s_iconst K at_212 (pc' := 213) rfl (z := (3 : Int32)) rfl ?_
  refine s_icY K at_213 rfl (by decide) (pc' := 223) (by decide) ?_
  refine s_iload K at_223 (pc' := 225) rfl rfl ?_
  refine s_ifY K at_225 rfl (by decide) (pc' := 260) (by decide) ?_
  refine s_aload K at_260 (pc' := 262) rfl rfl rfl ?_
  refine s_iconst K at_262 (pc' := 263) rfl (z := (1 : Int32)) rfl ?_
  refine s_lload K at_263 (pc' := 265) rfl rfl ?_
  refine s_virtual K at_265 (pc' := 268) rfl (k := 0) (a := b110) rfl (as := [.int 1, .long p3]) (first1 hw _ b110 b107 b140 b131 b142 b141 b108 b133 b132 b111 b112 b109 b139 b106 b135 b138 b134 hi mid lo p0 p3 ) (w168 hw) (w169 hw) (w171 hw) (w170 hw) (w35 hw) (w172 hw) (by decide) pd_9 rfl (rest := []) rfl rfl (W := 0) (Nat.le_of_eq rfl) (by decide) (by decide) (ce' := 21) rfl (sl' := 83) rfl (by decide) (by decide) ?_
  rintro v _ ⟨rfl, rfl⟩
  show Go l Z n0 _ _ κ 21 83 [(b110, oLS (.int 0) (.int 0) .null (.int 0) (.int 0) (.ref b111) (.ref b112) (.ref b142) (.ref b141) (.ref b108) (.ref b109) (.ref b139) (.ref b107) (.ref b106) (.ref b135) (.ref b138) (.ref b134) (.ref b140) .null (.ref b133) (.ref b132) (.ref b131) .null .null .null .null .null .null .null), (b107, .inr (.int, [.int 0, .int 1])), (b140, .inr (.int, [.int 0, .int 1, .int 4])), (b131, .inr (.int, [.int 0, .int 0])), (b142, .inr (.int, [.int 0, .int 0])), (b141, .inr (.long, [.long 0, .long 0])), (b108, .inr (.long, [.long hi, .long mid, .long lo, .long p0])), (b133, .inr (.int, [.int 0, .int 0, .int 0, .int 0])), (b132, .inr (.long, [.long 0, .long 0, .long 0, .long 0]))] 268 #[.val (.long p0), .second, .val (.long p1), .second, .val (.long p2), .second, .val (.long p3), .second, .val (.int p4), .val (.long hi), .second, .val (.long lo), .second, .val (.long mid), .second, .val (.int 0), .val (.int 0), .val (.int 0), .val (.ref b101), .val (.ref b108), .val (.ref b109), .val (.ref b110), .unset, .unset] [.int (Int32.ofNat (1))]
  refine s_istore K at_268 (pc' := 270) rfl (Ls' := #[.val (.long p0), .second, .val (.long p1), .second, .val (.long p2), .second, .val (.long p3), .second, .val (.int p4), .val (.long hi), .second, .val (.long lo), .second, .val (.long mid), .second, .val (.int 0), .val (.int 0), .val (.int 0), .val (.ref b101), .val (.ref b108), .val (.ref b109), .val (.ref b110), .val (.int (Int32.ofNat (1))), .unset]) rfl ?_
  refine s_iconst K at_270 (pc' := 271) rfl (z := (1 : Int32)) rfl ?_
  refine s_istore K at_271 (pc' := 273) rfl (Ls' := #[.val (.long p0), .second, .val (.long p1), .second, .val (.long p2), .second, .val (.long p3), .second, .val (.int p4), .val (.long hi), .second, .val (.long lo), .second, .val (.long mid), .second, .val (.int 0), .val (.int 0), .val (.int 0), .val (.ref b101), .val (.ref b108), .val (.ref b109), .val (.ref b110), .val (.int (Int32.ofNat (1))), .val (.int 1)]) rfl ?_
  refine s_iload K at_273 (pc' := 275) rfl rfl ?_
  refine s_iconst K at_275 (pc' := 276) rfl (z := (1 : Int32)) rfl ?_
  refine s_icY K at_276 rfl (by decide) (pc' := 293) (by decide) ?_
  refine s_iload K at_293 (pc' := 295) rfl rfl ?_
  refine s_iconst K at_295 (pc' := 296) rfl (z := (2 : Int32)) rfl ?_
  refine s_icY K at_296 rfl (by decide) (pc' := 313) (by decide) ?_
  refine s_iload K at_313 (pc' := 315) rfl rfl ?_
  refine s_iconst K at_315 (pc' := 316) rfl (z := (3 : Int32)) rfl ?_
  refine s_icY K at_316 rfl (by decide) (pc' := 333) (by decide) ?_
  refine s_iload K at_333 (pc' := 335) rfl rfl ?_
  refine s_iload K at_335 (pc' := 337) rfl rfl ?_
  refine s_icN K at_337 (pc' := 340) rfl (teq rfl).2 ?_
  refine s_iconst K at_340 (pc' := 341) rfl (z := (1 : Int32)) rfl ?_
  refine s_goto K at_341 (by decide) (pc' := 345) (by decide) ?_
  exact s_zreturn K at_345 rfl (by decide) (by decide) rfl
set_option maxRecDepth 65536 in
set_option maxHeartbeats 400000000 in
theorem first2 {l : Launch} {Z : State} {a0 : Array Value} (hw : HW Z a0) {n0 : Nat} (F : Wd) (b110 b107 b140 b131 b142 b141 b108 b133 b132 b111 b112 b109 b139 b106 b135 b138 b134 : Addr) (hi : Int64) (mid : Int64) (lo : Int64) (p0 : Int64) (p3 : Int64)  :
    Con l Z n0 (⟨"com/example/evenkeel/evenkeel/LagSeats", "firstAtMost", "(IJ)I"⟩ : MethodName) prog_60_method_33_code 7 (some .int) ({ frames := 0, cells := 0, slots := 0, locals := 0 } : Room) [.ref b110, .int (0 : Int32), .long p3] ((b110, oLS (.int 0) (.int 0) .null (.int 0) (.int 0) (.ref b111) (.ref b112) (.ref b142) (.ref b141) (.ref b108) (.ref b109) (.ref b139) (.ref b107) (.ref b106) (.ref b135) (.ref b138) (.ref b134) (.ref b140) .null (.ref b133) (.ref b132) (.ref b131) .null .null .null .null .null .null .null) :: (b107, .inr (.int, [.int 0, .int 1])) :: (b140, .inr (.int, [.int 0, .int 1, .int 4])) :: (b131, .inr (.int, [.int 0, .int 0])) :: (b142, .inr (.int, [.int 0, .int 0])) :: (b141, .inr (.long, [.long 0, .long 0])) :: (b108, .inr (.long, [.long hi, .long mid, .long lo, .long p0])) :: (b133, .inr (.int, [.int 0, .int 0, .int 0, .int 0])) :: (b132, .inr (.long, [.long 0, .long 0, .long 0, .long 0])) :: F) (fun v L' => v = some (.int (Int32.ofNat (0))) ∧ L' = ((b110, oLS (.int 0) (.int 0) .null (.int 0) (.int 0) (.ref b111) (.ref b112) (.ref b142) (.ref b141) (.ref b108) (.ref b109) (.ref b139) (.ref b107) (.ref b106) (.ref b135) (.ref b138) (.ref b134) (.ref b140) .null (.ref b133) (.ref b132) (.ref b131) .null .null .null .null .null .null .null) :: (b107, .inr (.int, [.int 0, .int 1])) :: (b140, .inr (.int, [.int 0, .int 1, .int 4])) :: (b131, .inr (.int, [.int 0, .int 0])) :: (b142, .inr (.int, [.int 0, .int 0])) :: (b141, .inr (.long, [.long 0, .long 0])) :: (b108, .inr (.long, [.long hi, .long mid, .long lo, .long p0])) :: (b133, .inr (.int, [.int 0, .int 0, .int 0, .int 0])) :: (b132, .inr (.long, [.long 0, .long 0, .long 0, .long 0])) :: F)) := by
  refine Con.of (by decide +kernel) (Ls := #[.val (.ref b110), .val (.int 0), .val (.long p3), .second, .unset, .unset, .unset]) (fun m => by first | rfl | (simp [entryFrame, mkF, argsToLocals, Value.category]; done)) ?_
  intro κ K
  refine s_aloadN K d17_0 (pc' := 1) rfl rfl rfl ?_
  refine s_getf K d17_1 (pc' := 4) rfl (w96 hw) (k := 0) rfl (j := 17) rfl ?_
  refine s_iloadN K d17_4 (pc' := 5) rfl rfl ?_
  refine s_iaload K d17_5 (pc' := 6) rfl (k := 2) rfl (i := 0) (by decide) rfl ?_
  refine s_istore K d17_6 (pc' := 8) rfl (Ls' := #[.val (.ref b110), .val (.int 0), .val (.long p3), .second, .val (.int 0), .unset, .unset]) rfl ?_
  refine s_iload K d17_8 (pc' := 10) rfl rfl ?_
  refine s_aloadN K d17_10 (pc' := 11) rfl rfl rfl ?_
  refine s_getf K d17_11 (pc' := 14) rfl (w138 hw) (k := 0) rfl (j := 21) rfl ?_
  refine s_iloadN K d17_14 (pc' := 15) rfl rfl ?_
  refine s_iaload K d17_15 (pc' := 16) rfl (k := 3) rfl (i := 0) (by decide) rfl ?_
  refine s_iadd K d17_16 (pc' := 17) rfl (z := (0 : Int32)) rfl ?_
  refine s_istore K d17_17 (pc' := 19) rfl (Ls' := #[.val (.ref b110), .val (.int 0), .val (.long p3), .second, .val (.int 0), .val (.int 0), .unset]) rfl ?_
  refine s_iload K d17_19 (pc' := 21) rfl rfl ?_
  refine s_iload K d17_21 (pc' := 23) rfl rfl ?_
  refine s_icY K d17_23 rfl (by decide) (pc' := 63) (by decide) ?_
  refine s_iload K d17_63 (pc' := 65) rfl rfl ?_
  exact s_ireturn K d17_65 (by decide) (by decide) ⟨rfl, rfl⟩
set_option maxRecDepth 65536 in
set_option maxHeartbeats 400000000 in
theorem segB_001 {l : Launch} {Z : State} {a0 : Array Value} (hw : HW Z a0) {n0 : Nat} (p0 p1 p2 p3 hi mid lo : Int64) (p4 : Int32) (b110 b107 b140 b131 b142 b141 b108 b133 b132 b101 b109 b111 b112 b139 b106 b135 b138 b134 : Addr) (o1 : mid.toInt ≤ hi.toInt) (o2 : lo.toInt ≤ mid.toInt) (κ : Ctx) (K : Ok Z κ x.cls code maxLocals ret x.name) :
    Go l Z n0 room_1 (fun v _ => v = some (.int 1)) κ 21 83 [(b110, oLS (.int 0) (.int 0) .null (.int 0) (.int 0) (.ref b111) (.ref b112) (.ref b142) (.ref b141) (.ref b108) (.ref b109) (.ref b139) (.ref b107) (.ref b106) (.ref b135) (.ref b138) (.ref b134) (.ref b140) .null (.ref b133) (.ref b132) (.ref b131) .null .null .null .null .null .null .null), (b107, .inr (.int, [.int 0, .int 1])), (b140, .inr (.int, [.int 0, .int 1, .int 4])), (b131, .inr (.int, [.int 0, .int 0])), (b142, .inr (.int, [.int 0, .int 0])), (b141, .inr (.long, [.long 0, .long 0])), (b108, .inr (.long, [.long hi, .long mid, .long lo, .long p0])), (b133, .inr (.int, [.int 0, .int 0, .int 0, .int 0])), (b132, .inr (.long, [.long 0, .long 0, .long 0, .long 0]))] 172 #[.val (.long p0), .second, .val (.long p1), .second, .val (.long p2), .second, .val (.long p3), .second, .val (.int p4), .val (.long hi), .second, .val (.long lo), .second, .val (.long mid), .second, .val (.int 0), .val (.int 1), .val (.int 0), .val (.ref b101), .val (.ref b108), .val (.ref b109), .val (.ref b110), .unset, .unset] [] := by
  refine s_iload K at_172 (pc' := 174) rfl rfl ?_
  refine s_ifY K at_174 rfl (by decide) (pc' := 184) (by decide) ?_
  refine s_iload K at_184 (pc' := 186) rfl rfl ?_
  refine s_iconst K at_186 (pc' := 187) rfl (z := (1 : Int32)) rfl ?_
  refine s_icY K at_187 rfl (by decide) (pc' := 197) (by decide) ?_
  refine s_iload K at_197 (pc' := 199) rfl rfl ?_
  refine s_iconst K at_199 (pc' := 200) rfl (z := (2 : Int32)) rfl ?_
  refine s_icY K at_200 rfl (by decide) (pc' := 210) (by decide) ?_
  refine s_iload K at_210 (pc' := 212) rfl rfl ?_
  refine s_iconst K at_212 (pc' := 213) rfl (z := (3 : Int32)) rfl ?_
  refine s_icY K at_213 rfl (by decide) (pc' := 223) (by decide) ?_
  refine s_iload K at_223 (pc' := 225) rfl rfl ?_
  refine s_ifN K at_225 (pc' := 228) rfl rfl ?_
  refine s_aload K at_228 (pc' := 230) rfl rfl rfl ?_
  refine s_iconst K at_230 (pc' := 231) rfl (z := (0 : Int32)) rfl ?_
  refine s_lload K at_231 (pc' := 233) rfl rfl ?_
  refine s_virtual K at_233 (pc' := 236) rfl (k := 0) (a := b110) rfl (as := [.int 0, .long p3]) (first2 hw _ b110 b107 b140 b131 b142 b141 b108 b133 b132 b111 b112 b109 b139 b106 b135 b138 b134 hi mid lo p0 p3 ) (w168 hw) (w169 hw) (w171 hw) (w170 hw) (w35 hw) (w172 hw) (by decide) pd_9 rfl (rest := []) rfl rfl (W := 0) (Nat.le_of_eq rfl) (by decide) (by decide) (ce' := 21) rfl (sl' := 83) rfl (by decide) (by decide) ?_
  rintro v _ ⟨rfl, rfl⟩
  show Go l Z n0 _ _ κ 21 83 [(b110, oLS (.int 0) (.int 0) .null (.int 0) (.int 0) (.ref b111) (.ref b112) (.ref b142) (.ref b141) (.ref b108) (.ref b109) (.ref b139) (.ref b107) (.ref b106) (.ref b135) (.ref b138) (.ref b134) (.ref b140) .null (.ref b133) (.ref b132) (.ref b131) .null .null .null .null .null .null .null), (b107, .inr (.int, [.int 0, .int 1])), (b140, .inr (.int, [.int 0, .int 1, .int 4])), (b131, .inr (.int, [.int 0, .int 0])), (b142, .inr (.int, [.int 0, .int 0])), (b141, .inr (.long, [.long 0, .long 0])), (b108, .inr (.long, [.long hi, .long mid, .long lo, .long p0])), (b133, .inr (.int, [.int 0, .int 0, .int 0, .int 0])), (b132, .inr (.long, [.long 0, .long 0, .long 0, .long 0]))] 236 #[.val (.long p0), .second, .val (.long p1), .second, .val (.long p2), .second, .val (.long p3), .second, .val (.int p4), .val (.long hi), .second, .val (.long lo), .second, .val (.long mid), .second, .val (.int 0), .val (.int 1), .val (.int 0), .val (.ref b101), .val (.ref b108), .val (.ref b109), .val (.ref b110), .unset, .unset] [.int (Int32.ofNat (0))]
  refine s_istore K at_236 (pc' := 238) rfl (Ls' := #[.val (.long p0), .second, .val (.long p1), .second, .val (.long p2), .second, .val (.long p3), .second, .val (.int p4), .val (.long hi), .second, .val (.long lo), .second, .val (.long mid), .second, .val (.int 0), .val (.int 1), .val (.int 0), .val (.ref b101), .val (.ref b108), .val (.ref b109), .val (.ref b110), .val (.int (Int32.ofNat (0))), .unset]) rfl ?_
  refine s_iload K at_238 (pc' := 240) rfl rfl ?_
  refine s_ifY K at_240 rfl (by decide) (pc' := 254) (by decide) ?_
  refine s_iconst K at_254 (pc' := 255) rfl (z := (0 : Int32)) rfl ?_
  refine s_istore K at_255 (pc' := 257) rfl (Ls' := #[.val (.long p0), .second, .val (.long p1), .second, .val (.long p2), .second, .val (.long p3), .second, .val (.int p4), .val (.long hi), .second, .val (.long lo), .second, .val (.long mid), .second, .val (.int 0), .val (.int 1), .val (.int 0), .val (.ref b101), .val (.ref b108), .val (.ref b109), .val (.ref b110), .val (.int (Int32.ofNat (0))), .val (.int 0)]) rfl ?_
  refine s_goto K at_257 (by decide) (pc' := 333) (by decide) ?_
  refine s_iload K at_333 (pc' := 335) rfl rfl ?_
  refine s_iload K at_335 (pc' := 337) rfl rfl ?_
  refine s_icN K at_337 (pc' := 340) rfl (teq rfl).2 ?_
  refine s_iconst K at_340 (pc' := 341) rfl (z := (1 : Int32)) rfl ?_
  refine s_goto K at_341 (by decide) (pc' := 345) (by decide) ?_
  exact s_zreturn K at_345 rfl (by decide) (by decide) rfl
set_option maxRecDepth 65536 in
set_option maxHeartbeats 400000000 in
theorem k14_take {l : Launch} {Z : State} {a0 : Array Value} (hw : HW Z a0) {n0 : Nat} (F : Wd) (b110 b107 b140 b131 b142 b141 b108 b133 b132 b111 b112 b109 b139 b106 b135 b138 b134 : Addr) (hi : Int64) (mid : Int64) (lo : Int64) (p0 : Int64) :
    Con l Z n0 (⟨"com/example/evenkeel/evenkeel/LagSeats", "take", "(II)V"⟩ : MethodName) prog_60_method_27_code 3 none ({ frames := 0, cells := 0, slots := 0, locals := 0 } : Room) [.ref b110, .int 1, .int 0] ((b110, oLS (.int 0) (.int 0) .null (.int 0) (.int 0) (.ref b111) (.ref b112) (.ref b142) (.ref b141) (.ref b108) (.ref b109) (.ref b139) (.ref b107) (.ref b106) (.ref b135) (.ref b138) (.ref b134) (.ref b140) .null (.ref b133) (.ref b132) (.ref b131) .null .null .null .null .null .null .null) :: (b107, .inr (.int, [.int 0, .int 1])) :: (b140, .inr (.int, [.int 0, .int 1, .int 4])) :: (b131, .inr (.int, [.int 0, .int 0])) :: (b142, .inr (.int, [.int 0, .int 0])) :: (b141, .inr (.long, [.long 0, .long 0])) :: (b108, .inr (.long, [.long hi, .long mid, .long lo, .long p0])) :: (b133, .inr (.int, [.int 0, .int 0, .int 0, .int 0])) :: (b132, .inr (.long, [.long 0, .long 0, .long 0, .long 0])) :: F) (fun v L' => v = none ∧ L' = ((b110, oLS (.int 0) (.int 0) .null (.int 0) (.int 0) (.ref b111) (.ref b112) (.ref b142) (.ref b141) (.ref b108) (.ref b109) (.ref b139) (.ref b107) (.ref b106) (.ref b135) (.ref b138) (.ref b134) (.ref b140) .null (.ref b133) (.ref b132) (.ref b131) .null .null .null .null .null .null .null) :: (b107, .inr (.int, [.int 0, .int 1])) :: (b140, .inr (.int, [.int 0, .int 1, .int 4])) :: (b131, .inr (.int, [.int 0, .int 0])) :: (b142, .inr (.int, [.int 0, .int 1])) :: (b141, .inr (.long, [.long 0, .long ((0 : Int64) + hi)])) :: (b108, .inr (.long, [.long hi, .long mid, .long lo, .long p0])) :: (b133, .inr (.int, [.int 0, .int 0, .int 0, .int 0])) :: (b132, .inr (.long, [.long 0, .long 0, .long 0, .long 0])) :: F)) := by
  refine Con.of (by decide +kernel) (Ls := #[.val (.ref b110), .val (.int 1), .val (.int 0)]) (fun m => by first | rfl | (simp [entryFrame, mkF, argsToLocals, Value.category]; done)) ?_
  intro κ K
  refine s_aloadN K d15_0 (pc' := 1) rfl rfl rfl ?_
  refine s_getf K d15_1 (pc' := 4) rfl (w40 hw) (k := 0) rfl (j := 0) rfl ?_
  refine s_ifY K d15_4 rfl (by decide) (pc' := 32) (by decide) ?_
  refine s_aloadN K d15_32 (pc' := 33) rfl rfl rfl ?_
  refine s_getf K d15_33 (pc' := 36) rfl (w63 hw) (k := 0) rfl (j := 7) rfl ?_
  refine s_iloadN K d15_36 (pc' := 37) rfl rfl ?_
  refine s_dup2 K d15_37 (pc' := 38) rfl rfl rfl ?_
  refine s_iaload K d15_38 (pc' := 39) rfl (k := 4) rfl (i := 1) (by decide) rfl ?_
  refine s_iconst K d15_39 (pc' := 40) rfl (z := (1 : Int32)) rfl ?_
  refine s_iadd K d15_40 (pc' := 41) rfl (z := (1 : Int32)) rfl ?_
  refine s_iastore K d15_41 (pc' := 42) rfl (k := 4) rfl (i := 1) (by decide) (ltB rfl) (L' := ((b110, oLS (.int 0) (.int 0) .null (.int 0) (.int 0) (.ref b111) (.ref b112) (.ref b142) (.ref b141) (.ref b108) (.ref b109) (.ref b139) (.ref b107) (.ref b106) (.ref b135) (.ref b138) (.ref b134) (.ref b140) .null (.ref b133) (.ref b132) (.ref b131) .null .null .null .null .null .null .null) :: (b107, .inr (.int, [.int 0, .int 1])) :: (b140, .inr (.int, [.int 0, .int 1, .int 4])) :: (b131, .inr (.int, [.int 0, .int 0])) :: (b142, .inr (.int, [.int 0, .int 1])) :: (b141, .inr (.long, [.long 0, .long 0])) :: (b108, .inr (.long, [.long hi, .long mid, .long lo, .long p0])) :: (b133, .inr (.int, [.int 0, .int 0, .int 0, .int 0])) :: (b132, .inr (.long, [.long 0, .long 0, .long 0, .long 0])) :: F)) rfl ?_
  refine s_aloadN K d15_42 (pc' := 43) rfl rfl rfl ?_
  refine s_getf K d15_43 (pc' := 46) rfl (w71 hw) (k := 0) rfl (j := 8) rfl ?_
  refine s_iloadN K d15_46 (pc' := 47) rfl rfl ?_
  refine s_dup2 K d15_47 (pc' := 48) rfl rfl rfl ?_
  refine s_laload K d15_48 (pc' := 49) rfl (k := 5) rfl (i := 1) (by decide) rfl ?_
  refine s_aloadN K d15_49 (pc' := 50) rfl rfl rfl ?_
  refine s_getf K d15_50 (pc' := 53) rfl (w73 hw) (k := 0) rfl (j := 9) rfl ?_
  refine s_iloadN K d15_53 (pc' := 54) rfl rfl ?_
  refine s_laload K d15_54 (pc' := 55) rfl (k := 6) rfl (i := 0) (by decide) rfl ?_
  refine s_ladd K d15_55 (pc' := 56) rfl (z := (0 : Int64) + hi) rfl ?_
  refine s_lastore K d15_56 (pc' := 57) rfl (k := 5) rfl (i := 1) (by decide) (ltB rfl) (L' := ((b110, oLS (.int 0) (.int 0) .null (.int 0) (.int 0) (.ref b111) (.ref b112) (.ref b142) (.ref b141) (.ref b108) (.ref b109) (.ref b139) (.ref b107) (.ref b106) (.ref b135) (.ref b138) (.ref b134) (.ref b140) .null (.ref b133) (.ref b132) (.ref b131) .null .null .null .null .null .null .null) :: (b107, .inr (.int, [.int 0, .int 1])) :: (b140, .inr (.int, [.int 0, .int 1, .int 4])) :: (b131, .inr (.int, [.int 0, .int 0])) :: (b142, .inr (.int, [.int 0, .int 1])) :: (b141, .inr (.long, [.long 0, .long ((0 : Int64) + hi)])) :: (b108, .inr (.long, [.long hi, .long mid, .long lo, .long p0])) :: (b133, .inr (.int, [.int 0, .int 0, .int 0, .int 0])) :: (b132, .inr (.long, [.long 0, .long 0, .long 0, .long 0])) :: F)) rfl ?_
  exact s_return K d15_57 (by decide) (by decide) ⟨rfl, rfl⟩
set_option maxRecDepth 65536 in
set_option maxHeartbeats 400000000 in
theorem k15_put {l : Launch} {Z : State} {a0 : Array Value} (hw : HW Z a0) {n0 : Nat} (F : Wd) (b110 b107 b140 b131 b142 b141 b108 b133 b132 b111 b112 b109 b139 b106 b135 b138 b134 : Addr) (hi : Int64) (mid : Int64) (lo : Int64) (p0 : Int64) :
    Con l Z n0 (⟨"com/example/evenkeel/evenkeel/LagSeats", "put", "(II)V"⟩ : MethodName) prog_60_method_30_code 3 none ({ frames := 0, cells := 0, slots := 0, locals := 0 } : Room) [.ref b110, .int 1, .int 0] ((b110, oLS (.int 0) (.int 0) .null (.int 0) (.int 0) (.ref b111) (.ref b112) (.ref b142) (.ref b141) (.ref b108) (.ref b109) (.ref b139) (.ref b107) (.ref b106) (.ref b135) (.ref b138) (.ref b134) (.ref b140) .null (.ref b133) (.ref b132) (.ref b131) .null .null .null .null .null .null .null) :: (b107, .inr (.int, [.int 0, .int 1])) :: (b140, .inr (.int, [.int 0, .int 1, .int 4])) :: (b131, .inr (.int, [.int 0, .int 1])) :: (b142, .inr (.int, [.int 0, .int 1])) :: (b141, .inr (.long, [.long 0, .long ((0 : Int64) + hi)])) :: (b108, .inr (.long, [.long hi, .long mid, .long lo, .long p0])) :: (b133, .inr (.int, [.int 0, .int 0, .int 0, .int 0])) :: (b132, .inr (.long, [.long 0, .long 0, .long 0, .long 0])) :: F) (fun v L' => v = none ∧ L' = ((b110, oLS (.int 0) (.int 0) .null (.int 0) (.int 0) (.ref b111) (.ref b112) (.ref b142) (.ref b141) (.ref b108) (.ref b109) (.ref b139) (.ref b107) (.ref b106) (.ref b135) (.ref b138) (.ref b134) (.ref b140) .null (.ref b133) (.ref b132) (.ref b131) .null .null .null .null .null .null .null) :: (b107, .inr (.int, [.int 0, .int 1])) :: (b140, .inr (.int, [.int 0, .int 1, .int 4])) :: (b131, .inr (.int, [.int 0, .int 1])) :: (b142, .inr (.int, [.int 0, .int 1])) :: (b141, .inr (.long, [.long 0, .long ((0 : Int64) + hi)])) :: (b108, .inr (.long, [.long hi, .long mid, .long lo, .long p0])) :: (b133, .inr (.int, [.int 0, .int 0, .int 0, .int 0])) :: (b132, .inr (.long, [.long 0, .long hi, .long 0, .long 0])) :: F)) := by
  refine Con.of (by decide +kernel) (Ls := #[.val (.ref b110), .val (.int 1), .val (.int 0)]) (fun m => by first | rfl | (simp [entryFrame, mkF, argsToLocals, Value.category]; done)) ?_
  intro κ K
  refine s_aloadN K d16_0 (pc' := 1) rfl rfl rfl ?_
  refine s_getf K d16_1 (pc' := 4) rfl (w134 hw) (k := 0) rfl (j := 19) rfl ?_
  refine s_iloadN K d16_4 (pc' := 5) rfl rfl ?_
  refine s_iloadN K d16_5 (pc' := 6) rfl rfl ?_
  refine s_iastore K d16_6 (pc' := 7) rfl (k := 7) rfl (i := 1) (by decide) (ltB rfl) (L' := ((b110, oLS (.int 0) (.int 0) .null (.int 0) (.int 0) (.ref b111) (.ref b112) (.ref b142) (.ref b141) (.ref b108) (.ref b109) (.ref b139) (.ref b107) (.ref b106) (.ref b135) (.ref b138) (.ref b134) (.ref b140) .null (.ref b133) (.ref b132) (.ref b131) .null .null .null .null .null .null .null) :: (b107, .inr (.int, [.int 0, .int 1])) :: (b140, .inr (.int, [.int 0, .int 1, .int 4])) :: (b131, .inr (.int, [.int 0, .int 1])) :: (b142, .inr (.int, [.int 0, .int 1])) :: (b141, .inr (.long, [.long 0, .long ((0 : Int64) + hi)])) :: (b108, .inr (.long, [.long hi, .long mid, .long lo, .long p0])) :: (b133, .inr (.int, [.int 0, .int 0, .int 0, .int 0])) :: (b132, .inr (.long, [.long 0, .long 0, .long 0, .long 0])) :: F)) rfl ?_
  refine s_aloadN K d16_7 (pc' := 8) rfl rfl rfl ?_
  refine s_getf K d16_8 (pc' := 11) rfl (w136 hw) (k := 0) rfl (j := 20) rfl ?_
  refine s_iloadN K d16_11 (pc' := 12) rfl rfl ?_
  refine s_aloadN K d16_12 (pc' := 13) rfl rfl rfl ?_
  refine s_getf K d16_13 (pc' := 16) rfl (w73 hw) (k := 0) rfl (j := 9) rfl ?_
  refine s_iloadN K d16_16 (pc' := 17) rfl rfl ?_
  refine s_laload K d16_17 (pc' := 18) rfl (k := 6) rfl (i := 0) (by decide) rfl ?_
  refine s_lastore K d16_18 (pc' := 19) rfl (k := 8) rfl (i := 1) (by decide) (ltB rfl) (L' := ((b110, oLS (.int 0) (.int 0) .null (.int 0) (.int 0) (.ref b111) (.ref b112) (.ref b142) (.ref b141) (.ref b108) (.ref b109) (.ref b139) (.ref b107) (.ref b106) (.ref b135) (.ref b138) (.ref b134) (.ref b140) .null (.ref b133) (.ref b132) (.ref b131) .null .null .null .null .null .null .null) :: (b107, .inr (.int, [.int 0, .int 1])) :: (b140, .inr (.int, [.int 0, .int 1, .int 4])) :: (b131, .inr (.int, [.int 0, .int 1])) :: (b142, .inr (.int, [.int 0, .int 1])) :: (b141, .inr (.long, [.long 0, .long ((0 : Int64) + hi)])) :: (b108, .inr (.long, [.long hi, .long mid, .long lo, .long p0])) :: (b133, .inr (.int, [.int 0, .int 0, .int 0, .int 0])) :: (b132, .inr (.long, [.long 0, .long hi, .long 0, .long 0])) :: F)) rfl ?_
  exact s_return K d16_19 (by decide) (by decide) ⟨rfl, rfl⟩
set_option maxRecDepth 65536 in
set_option maxHeartbeats 400000000 in
theorem k13_place {l : Launch} {Z : State} {a0 : Array Value} (hw : HW Z a0) {n0 : Nat} (F : Wd) (b110 b107 b140 b131 b142 b141 b108 b133 b132 b111 b112 b109 b139 b106 b135 b138 b134 : Addr) (hi : Int64) (mid : Int64) (lo : Int64) (p0 : Int64) :
    Con l Z n0 (⟨"com/example/evenkeel/evenkeel/LagSeats", "place", "(II)V"⟩ : MethodName) prog_60_method_26_code 3 none ({ frames := 1, cells := 0, slots := 0, locals := 14 } : Room) [.ref b110, .int 1, .int 0] ((b110, oLS (.int 0) (.int 0) .null (.int 0) (.int 0) (.ref b111) (.ref b112) (.ref b142) (.ref b141) (.ref b108) (.ref b109) (.ref b139) (.ref b107) (.ref b106) (.ref b135) (.ref b138) (.ref b134) (.ref b140) .null (.ref b133) (.ref b132) (.ref b131) .null .null .null .null .null .null .null) :: (b107, .inr (.int, [.int 0, .int 1])) :: (b140, .inr (.int, [.int 0, .int 1, .int 4])) :: (b131, .inr (.int, [.int 0, .int 0])) :: (b142, .inr (.int, [.int 0, .int 0])) :: (b141, .inr (.long, [.long 0, .long 0])) :: (b108, .inr (.long, [.long hi, .long mid, .long lo, .long p0])) :: (b133, .inr (.int, [.int 0, .int 0, .int 0, .int 0])) :: (b132, .inr (.long, [.long 0, .long 0, .long 0, .long 0])) :: F) (fun v L' => v = none ∧ L' = ((b110, oLS (.int 0) (.int 0) .null (.int 0) (.int 0) (.ref b111) (.ref b112) (.ref b142) (.ref b141) (.ref b108) (.ref b109) (.ref b139) (.ref b107) (.ref b106) (.ref b135) (.ref b138) (.ref b134) (.ref b140) .null (.ref b133) (.ref b132) (.ref b131) .null .null .null .null .null .null .null) :: (b107, .inr (.int, [.int 0, .int 1])) :: (b140, .inr (.int, [.int 0, .int 1, .int 4])) :: (b131, .inr (.int, [.int 0, .int 1])) :: (b142, .inr (.int, [.int 0, .int 1])) :: (b141, .inr (.long, [.long 0, .long ((0 : Int64) + hi)])) :: (b108, .inr (.long, [.long hi, .long mid, .long lo, .long p0])) :: (b133, .inr (.int, [.int 0, .int 0, .int 0, .int 0])) :: (b132, .inr (.long, [.long 0, .long hi, .long 0, .long 0])) :: F)) := by
  refine Con.of (by decide +kernel) (Ls := #[.val (.ref b110), .val (.int 1), .val (.int 0)]) (fun m => by first | rfl | (simp [entryFrame, mkF, argsToLocals, Value.category]; done)) ?_
  intro κ K
  refine s_aloadN K d14_0 (pc' := 1) rfl rfl rfl ?_
  refine s_aloadN K d14_1 (pc' := 2) rfl rfl rfl ?_
  refine s_getf K d14_2 (pc' := 5) rfl (w85 hw) (k := 0) rfl (j := 12) rfl ?_
  refine s_iloadN K d14_5 (pc' := 6) rfl rfl ?_
  refine s_iaload K d14_6 (pc' := 7) rfl (k := 1) rfl (i := 1) (by decide) rfl ?_
  refine s_iloadN K d14_7 (pc' := 8) rfl rfl ?_
  refine s_virtual K d14_8 (pc' := 11) rfl (k := 0) (a := b110) rfl (as := [.int 1, .int 0]) (k14_take hw _ b110 b107 b140 b131 b142 b141 b108 b133 b132 b111 b112 b109 b139 b106 b135 b138 b134 hi mid lo p0) (w159 hw) (w160 hw) (w162 hw) (w161 hw) (w35 hw) (w163 hw) (by decide) pd_0 rfl (rest := []) rfl rfl (W := 0) (Nat.le_of_eq rfl) (by decide) (by decide) (ce' := 0) rfl (sl' := 0) rfl (by decide) (by decide) ?_
  rintro v _ ⟨rfl, rfl⟩
  show Go l Z n0 _ _ κ 0 0 ((b110, oLS (.int 0) (.int 0) .null (.int 0) (.int 0) (.ref b111) (.ref b112) (.ref b142) (.ref b141) (.ref b108) (.ref b109) (.ref b139) (.ref b107) (.ref b106) (.ref b135) (.ref b138) (.ref b134) (.ref b140) .null (.ref b133) (.ref b132) (.ref b131) .null .null .null .null .null .null .null) :: (b107, .inr (.int, [.int 0, .int 1])) :: (b140, .inr (.int, [.int 0, .int 1, .int 4])) :: (b131, .inr (.int, [.int 0, .int 0])) :: (b142, .inr (.int, [.int 0, .int 1])) :: (b141, .inr (.long, [.long 0, .long ((0 : Int64) + hi)])) :: (b108, .inr (.long, [.long hi, .long mid, .long lo, .long p0])) :: (b133, .inr (.int, [.int 0, .int 0, .int 0, .int 0])) :: (b132, .inr (.long, [.long 0, .long 0, .long 0, .long 0])) :: F) 11 #[.val (.ref b110), .val (.int 1), .val (.int 0)] []
  refine s_aloadN K d14_11 (pc' := 12) rfl rfl rfl ?_
  refine s_aloadN K d14_12 (pc' := 13) rfl rfl rfl ?_
  refine s_getf K d14_13 (pc' := 16) rfl (w96 hw) (k := 0) rfl (j := 17) rfl ?_
  refine s_iloadN K d14_16 (pc' := 17) rfl rfl ?_
  refine s_iaload K d14_17 (pc' := 18) rfl (k := 2) rfl (i := 1) (by decide) rfl ?_
  refine s_aloadN K d14_18 (pc' := 19) rfl rfl rfl ?_
  refine s_getf K d14_19 (pc' := 22) rfl (w138 hw) (k := 0) rfl (j := 21) rfl ?_
  refine s_iloadN K d14_22 (pc' := 23) rfl rfl ?_
  refine s_dup2 K d14_23 (pc' := 24) rfl rfl rfl ?_
  refine s_iaload K d14_24 (pc' := 25) rfl (k := 3) rfl (i := 1) (by decide) rfl ?_
  refine s_dupx2 K d14_25 (pc' := 26) rfl rfl rfl rfl ?_
  refine s_iconst K d14_26 (pc' := 27) rfl (z := (1 : Int32)) rfl ?_
  refine s_iadd K d14_27 (pc' := 28) rfl (z := (1 : Int32)) rfl ?_
  refine s_iastore K d14_28 (pc' := 29) rfl (k := 3) rfl (i := 1) (by decide) (ltB rfl) (L' := ((b110, oLS (.int 0) (.int 0) .null (.int 0) (.int 0) (.ref b111) (.ref b112) (.ref b142) (.ref b141) (.ref b108) (.ref b109) (.ref b139) (.ref b107) (.ref b106) (.ref b135) (.ref b138) (.ref b134) (.ref b140) .null (.ref b133) (.ref b132) (.ref b131) .null .null .null .null .null .null .null) :: (b107, .inr (.int, [.int 0, .int 1])) :: (b140, .inr (.int, [.int 0, .int 1, .int 4])) :: (b131, .inr (.int, [.int 0, .int 1])) :: (b142, .inr (.int, [.int 0, .int 1])) :: (b141, .inr (.long, [.long 0, .long ((0 : Int64) + hi)])) :: (b108, .inr (.long, [.long hi, .long mid, .long lo, .long p0])) :: (b133, .inr (.int, [.int 0, .int 0, .int 0, .int 0])) :: (b132, .inr (.long, [.long 0, .long 0, .long 0, .long 0])) :: F)) rfl ?_
  refine s_iadd K d14_29 (pc' := 30) rfl (z := (1 : Int32)) rfl ?_
  refine s_iloadN K d14_30 (pc' := 31) rfl rfl ?_
  refine s_private K d14_31 (pc' := 34) rfl (k := 0) (a := b110) rfl (as := [.int 1, .int 0]) (k15_put hw _ b110 b107 b140 b131 b142 b141 b108 b133 b132 b111 b112 b109 b139 b106 b135 b138 b134 hi mid lo p0) (w164 hw) (w157 hw) rfl (w165 hw) (w166 hw) (w35 hw) (w167 hw) (by decide) pd_0 rfl (rest := []) rfl rfl (W := 0) (Nat.le_of_eq rfl) (by decide) (by decide) (ce' := 0) rfl (sl' := 0) rfl (by decide) (by decide) ?_
  rintro v _ ⟨rfl, rfl⟩
  show Go l Z n0 _ _ κ 0 0 ((b110, oLS (.int 0) (.int 0) .null (.int 0) (.int 0) (.ref b111) (.ref b112) (.ref b142) (.ref b141) (.ref b108) (.ref b109) (.ref b139) (.ref b107) (.ref b106) (.ref b135) (.ref b138) (.ref b134) (.ref b140) .null (.ref b133) (.ref b132) (.ref b131) .null .null .null .null .null .null .null) :: (b107, .inr (.int, [.int 0, .int 1])) :: (b140, .inr (.int, [.int 0, .int 1, .int 4])) :: (b131, .inr (.int, [.int 0, .int 1])) :: (b142, .inr (.int, [.int 0, .int 1])) :: (b141, .inr (.long, [.long 0, .long ((0 : Int64) + hi)])) :: (b108, .inr (.long, [.long hi, .long mid, .long lo, .long p0])) :: (b133, .inr (.int, [.int 0, .int 0, .int 0, .int 0])) :: (b132, .inr (.long, [.long 0, .long hi, .long 0, .long 0])) :: F) 34 #[.val (.ref b110), .val (.int 1), .val (.int 0)] []
  refine s_aloadN K d14_34 (pc' := 35) rfl rfl rfl ?_
  refine s_getf K d14_35 (pc' := 38) rfl (w140 hw) (k := 0) rfl (j := 22) rfl ?_
  refine s_nullY K d14_38 (by decide) (pc' := 47) (by decide) ?_
  exact s_return K d14_47 (by decide) (by decide) ⟨rfl, rfl⟩
set_option maxRecDepth 65536 in
set_option maxHeartbeats 400000000 in
theorem first3 {l : Launch} {Z : State} {a0 : Array Value} (hw : HW Z a0) {n0 : Nat} (F : Wd) (b110 b107 b140 b131 b142 b141 b108 b133 b132 b111 b112 b109 b139 b106 b135 b138 b134 : Addr) (hi : Int64) (mid : Int64) (lo : Int64) (p0 : Int64) (p3 : Int64)  :
    Con l Z n0 (⟨"com/example/evenkeel/evenkeel/LagSeats", "firstAtMost", "(IJ)I"⟩ : MethodName) prog_60_method_33_code 7 (some .int) ({ frames := 0, cells := 0, slots := 0, locals := 0 } : Room) [.ref b110, .int (1 : Int32), .long p3] ((b110, oLS (.int 0) (.int 0) .null (.int 0) (.int 0) (.ref b111) (.ref b112) (.ref b142) (.ref b141) (.ref b108) (.ref b109) (.ref b139) (.ref b107) (.ref b106) (.ref b135) (.ref b138) (.ref b134) (.ref b140) .null (.ref b133) (.ref b132) (.ref b131) .null .null .null .null .null .null .null) :: (b107, .inr (.int, [.int 0, .int 1])) :: (b140, .inr (.int, [.int 0, .int 1, .int 4])) :: (b131, .inr (.int, [.int 0, .int 1])) :: (b142, .inr (.int, [.int 0, .int 1])) :: (b141, .inr (.long, [.long 0, .long ((0 : Int64) + hi)])) :: (b108, .inr (.long, [.long hi, .long mid, .long lo, .long p0])) :: (b133, .inr (.int, [.int 0, .int 0, .int 0, .int 0])) :: (b132, .inr (.long, [.long 0, .long hi, .long 0, .long 0])) :: F) (fun v L' => v = some (.int (Int32.ofNat (1 + own_b hi p3))) ∧ L' = ((b110, oLS (.int 0) (.int 0) .null (.int 0) (.int 0) (.ref b111) (.ref b112) (.ref b142) (.ref b141) (.ref b108) (.ref b109) (.ref b139) (.ref b107) (.ref b106) (.ref b135) (.ref b138) (.ref b134) (.ref b140) .null (.ref b133) (.ref b132) (.ref b131) .null .null .null .null .null .null .null) :: (b107, .inr (.int, [.int 0, .int 1])) :: (b140, .inr (.int, [.int 0, .int 1, .int 4])) :: (b131, .inr (.int, [.int 0, .int 1])) :: (b142, .inr (.int, [.int 0, .int 1])) :: (b141, .inr (.long, [.long 0, .long ((0 : Int64) + hi)])) :: (b108, .inr (.long, [.long hi, .long mid, .long lo, .long p0])) :: (b133, .inr (.int, [.int 0, .int 0, .int 0, .int 0])) :: (b132, .inr (.long, [.long 0, .long hi, .long 0, .long 0])) :: F)) := by
  refine Con.of (by decide +kernel) (Ls := #[.val (.ref b110), .val (.int 1), .val (.long p3), .second, .unset, .unset, .unset]) (fun m => by first | rfl | (simp [entryFrame, mkF, argsToLocals, Value.category]; done)) ?_
  intro κ K
  refine s_aloadN K d17_0 (pc' := 1) rfl rfl rfl ?_
  refine s_getf K d17_1 (pc' := 4) rfl (w96 hw) (k := 0) rfl (j := 17) rfl ?_
  refine s_iloadN K d17_4 (pc' := 5) rfl rfl ?_
  refine s_iaload K d17_5 (pc' := 6) rfl (k := 2) rfl (i := 1) (by decide) rfl ?_
  refine s_istore K d17_6 (pc' := 8) rfl (Ls' := #[.val (.ref b110), .val (.int 1), .val (.long p3), .second, .val (.int 1), .unset, .unset]) rfl ?_
  refine s_iload K d17_8 (pc' := 10) rfl rfl ?_
  refine s_aloadN K d17_10 (pc' := 11) rfl rfl rfl ?_
  refine s_getf K d17_11 (pc' := 14) rfl (w138 hw) (k := 0) rfl (j := 21) rfl ?_
  refine s_iloadN K d17_14 (pc' := 15) rfl rfl ?_
  refine s_iaload K d17_15 (pc' := 16) rfl (k := 3) rfl (i := 1) (by decide) rfl ?_
  refine s_iadd K d17_16 (pc' := 17) rfl (z := (2 : Int32)) rfl ?_
  refine s_istore K d17_17 (pc' := 19) rfl (Ls' := #[.val (.ref b110), .val (.int 1), .val (.long p3), .second, .val (.int 1), .val (.int 2), .unset]) rfl ?_
  refine s_iload K d17_19 (pc' := 21) rfl rfl ?_
  refine s_iload K d17_21 (pc' := 23) rfl rfl ?_
  refine s_icN K d17_23 (pc' := 26) rfl rfl ?_
  refine s_iload K d17_26 (pc' := 28) rfl rfl ?_
  refine s_iload K d17_28 (pc' := 30) rfl rfl ?_
  refine s_iadd K d17_30 (pc' := 31) rfl (z := (3 : Int32)) rfl ?_
  refine s_iconst K d17_31 (pc' := 32) rfl (z := (1 : Int32)) rfl ?_
  refine s_iushr K d17_32 (pc' := 33) rfl (z := (1 : Int32)) rfl ?_
  refine s_istore K d17_33 (pc' := 35) rfl (Ls' := #[.val (.ref b110), .val (.int 1), .val (.long p3), .second, .val (.int 1), .val (.int 2), .val (.int 1)]) rfl ?_
  refine s_aloadN K d17_35 (pc' := 36) rfl rfl rfl ?_
  refine s_getf K d17_36 (pc' := 39) rfl (w136 hw) (k := 0) rfl (j := 20) rfl ?_
  refine s_iload K d17_39 (pc' := 41) rfl rfl ?_
  refine s_laload K d17_41 (pc' := 42) rfl (k := 8) rfl (i := 1) (by decide) rfl ?_
  refine s_lloadN K d17_42 (pc' := 43) rfl rfl ?_
  refine s_lcmp K d17_43 (pc' := 44) rfl  ?_
  refine s_if K d17_44 (pn := 47) rfl (by decide) (pc' := 56) (by decide) (fun h1 => ?_) (fun h1 => ?_)
  · have g1 := own_leY h1
    refine s_iload K d17_56 (pc' := 58) rfl rfl ?_
    refine s_istore K d17_58 (pc' := 60) rfl (Ls' := #[.val (.ref b110), .val (.int 1), .val (.long p3), .second, .val (.int 1), .val (.int 1), .val (.int 1)]) rfl ?_
    refine s_goto K d17_60 (by decide) (pc' := 19) (by decide) ?_
    refine s_iload K d17_19 (pc' := 21) rfl rfl ?_
    refine s_iload K d17_21 (pc' := 23) rfl rfl ?_
    refine s_icY K d17_23 rfl (by decide) (pc' := 63) (by decide) ?_
    refine s_iload K d17_63 (pc' := 65) rfl rfl ?_
    exact s_ireturn K d17_65 (by decide) (by decide) ⟨by rw [own_b0 (x := hi) (t := p3) (by omega)]; rfl, rfl⟩
  · have g1 := own_leN h1
    refine s_iload K d17_47 (pc' := 49) rfl rfl ?_
    refine s_iconst K d17_49 (pc' := 50) rfl (z := (1 : Int32)) rfl ?_
    refine s_iadd K d17_50 (pc' := 51) rfl (z := (2 : Int32)) rfl ?_
    refine s_istore K d17_51 (pc' := 53) rfl (Ls' := #[.val (.ref b110), .val (.int 1), .val (.long p3), .second, .val (.int 2), .val (.int 2), .val (.int 1)]) rfl ?_
    refine s_goto K d17_53 (by decide) (pc' := 60) (by decide) ?_
    refine s_goto K d17_60 (by decide) (pc' := 19) (by decide) ?_
    refine s_iload K d17_19 (pc' := 21) rfl rfl ?_
    refine s_iload K d17_21 (pc' := 23) rfl rfl ?_
    refine s_icY K d17_23 rfl (by decide) (pc' := 63) (by decide) ?_
    refine s_iload K d17_63 (pc' := 65) rfl rfl ?_
    exact s_ireturn K d17_65 (by decide) (by decide) ⟨by rw [own_b1 (x := hi) (t := p3) (by omega)]; rfl, rfl⟩
set_option maxRecDepth 65536 in
set_option maxHeartbeats 400000000 in
theorem segB_010 {l : Launch} {Z : State} {a0 : Array Value} (hw : HW Z a0) {n0 : Nat} (p0 p1 p2 p3 hi mid lo : Int64) (p4 : Int32) (b110 b107 b140 b131 b142 b141 b108 b133 b132 b101 b109 b111 b112 b139 b106 b135 b138 b134 : Addr) (o1 : mid.toInt ≤ hi.toInt) (o2 : lo.toInt ≤ mid.toInt) (κ : Ctx) (K : Ok Z κ x.cls code maxLocals ret x.name) :
    Go l Z n0 room_1 (fun v _ => v = some (.int 1)) κ 21 83 [(b110, oLS (.int 0) (.int 0) .null (.int 0) (.int 0) (.ref b111) (.ref b112) (.ref b142) (.ref b141) (.ref b108) (.ref b109) (.ref b139) (.ref b107) (.ref b106) (.ref b135) (.ref b138) (.ref b134) (.ref b140) .null (.ref b133) (.ref b132) (.ref b131) .null .null .null .null .null .null .null), (b107, .inr (.int, [.int 0, .int 1])), (b140, .inr (.int, [.int 0, .int 1, .int 4])), (b131, .inr (.int, [.int 0, .int 0])), (b142, .inr (.int, [.int 0, .int 0])), (b141, .inr (.long, [.long 0, .long 0])), (b108, .inr (.long, [.long hi, .long mid, .long lo, .long p0])), (b133, .inr (.int, [.int 0, .int 0, .int 0, .int 0])), (b132, .inr (.long, [.long 0, .long 0, .long 0, .long 0]))] 172 #[.val (.long p0), .second, .val (.long p1), .second, .val (.long p2), .second, .val (.long p3), .second, .val (.int p4), .val (.long hi), .second, .val (.long lo), .second, .val (.long mid), .second, .val (.int 1), .val (.int 0), .val (.int 0), .val (.ref b101), .val (.ref b108), .val (.ref b109), .val (.ref b110), .unset, .unset] [] := by
  refine s_iload K at_172 (pc' := 174) rfl rfl ?_
  refine s_ifY K at_174 rfl (by decide) (pc' := 184) (by decide) ?_
  refine s_iload K at_184 (pc' := 186) rfl rfl ?_
  refine s_iconst K at_186 (pc' := 187) rfl (z := (1 : Int32)) rfl ?_
  refine s_icN K at_187 (pc' := 190) rfl rfl ?_
  refine s_aload K at_190 (pc' := 192) rfl rfl rfl ?_
  refine s_iconst K at_192 (pc' := 193) rfl (z := (1 : Int32)) rfl ?_
  refine s_iconst K at_193 (pc' := 194) rfl (z := (0 : Int32)) rfl ?_
  refine s_virtual K at_194 (pc' := 197) rfl (k := 0) (a := b110) rfl (as := [.int 1, .int 0]) (k13_place hw _ b110 b107 b140 b131 b142 b141 b108 b133 b132 b111 b112 b109 b139 b106 b135 b138 b134 hi mid lo p0) (w154 hw) (w155 hw) (w157 hw) (w156 hw) (w35 hw) (w158 hw) (by decide) pd_0 rfl (rest := []) rfl rfl (W := 0) (Nat.le_of_eq rfl) (by decide) (by decide) (ce' := 21) rfl (sl' := 83) rfl (by decide) (by decide) ?_
  rintro v _ ⟨rfl, rfl⟩
  show Go l Z n0 _ _ κ 21 83 [(b110, oLS (.int 0) (.int 0) .null (.int 0) (.int 0) (.ref b111) (.ref b112) (.ref b142) (.ref b141) (.ref b108) (.ref b109) (.ref b139) (.ref b107) (.ref b106) (.ref b135) (.ref b138) (.ref b134) (.ref b140) .null (.ref b133) (.ref b132) (.ref b131) .null .null .null .null .null .null .null), (b107, .inr (.int, [.int 0, .int 1])), (b140, .inr (.int, [.int 0, .int 1, .int 4])), (b131, .inr (.int, [.int 0, .int 1])), (b142, .inr (.int, [.int 0, .int 1])), (b141, .inr (.long, [.long 0, .long ((0 : Int64) + hi)])), (b108, .inr (.long, [.long hi, .long mid, .long lo, .long p0])), (b133, .inr (.int, [.int 0, .int 0, .int 0, .int 0])), (b132, .inr (.long, [.long 0, .long hi, .long 0, .long 0]))] 197 #[.val (.long p0), .second, .val (.long p1), .second, .val (.long p2), .second, .val (.long p3), .second, .val (.int p4), .val (.long hi), .second, .val (.long lo), .second, .val (.long mid), .second, .val (.int 1), .val (.int 0), .val (.int 0), .val (.ref b101), .val (.ref b108), .val (.ref b109), .val (.ref b110), .unset, .unset] []
  refine s_iload K at_197 (pc' := 199) rfl rfl ?_
  refine s_iconst K at_199 (pc' := 200) rfl (z := (2 : Int32)) rfl ?_
  refine s_icY K at_200 rfl (by decide) (pc' := 210) (by decide) ?_
  refine s_iload K at_210 (pc' := 212) rfl rfl ?_
  refine s_iconst K at_212 (pc' := 213) rfl (z := (3 : Int32)) rfl ?_
  refine s_icY K at_213 rfl (by decide) (pc' := 223) (by decide) ?_
  refine s_iload K at_223 (pc' := 225) rfl rfl ?_
  refine s_ifY K at_225 rfl (by decide) (pc' := 260) (by decide) ?_
  refine s_aload K at_260 (pc' := 262) rfl rfl rfl ?_
  refine s_iconst K at_262 (pc' := 263) rfl (z := (1 : Int32)) rfl ?_
  refine s_lload K at_263 (pc' := 265) rfl rfl ?_
  refine s_virtual K at_265 (pc' := 268) rfl (k := 0) (a := b110) rfl (as := [.int 1, .long p3]) (first3 hw _ b110 b107 b140 b131 b142 b141 b108 b133 b132 b111 b112 b109 b139 b106 b135 b138 b134 hi mid lo p0 p3 ) (w168 hw) (w169 hw) (w171 hw) (w170 hw) (w35 hw) (w172 hw) (by decide) pd_9 rfl (rest := []) rfl rfl (W := 0) (Nat.le_of_eq rfl) (by decide) (by decide) (ce' := 21) rfl (sl' := 83) rfl (by decide) (by decide) ?_
  rintro v _ ⟨rfl, rfl⟩
  show Go l Z n0 _ _ κ 21 83 [(b110, oLS (.int 0) (.int 0) .null (.int 0) (.int 0) (.ref b111) (.ref b112) (.ref b142) (.ref b141) (.ref b108) (.ref b109) (.ref b139) (.ref b107) (.ref b106) (.ref b135) (.ref b138) (.ref b134) (.ref b140) .null (.ref b133) (.ref b132) (.ref b131) .null .null .null .null .null .null .null), (b107, .inr (.int, [.int 0, .int 1])), (b140, .inr (.int, [.int 0, .int 1, .int 4])), (b131, .inr (.int, [.int 0, .int 1])), (b142, .inr (.int, [.int 0, .int 1])), (b141, .inr (.long, [.long 0, .long ((0 : Int64) + hi)])), (b108, .inr (.long, [.long hi, .long mid, .long lo, .long p0])), (b133, .inr (.int, [.int 0, .int 0, .int 0, .int 0])), (b132, .inr (.long, [.long 0, .long hi, .long 0, .long 0]))] 268 #[.val (.long p0), .second, .val (.long p1), .second, .val (.long p2), .second, .val (.long p3), .second, .val (.int p4), .val (.long hi), .second, .val (.long lo), .second, .val (.long mid), .second, .val (.int 1), .val (.int 0), .val (.int 0), .val (.ref b101), .val (.ref b108), .val (.ref b109), .val (.ref b110), .unset, .unset] [.int (Int32.ofNat (1 + own_b hi p3))]
  refine s_istore K at_268 (pc' := 270) rfl (Ls' := #[.val (.long p0), .second, .val (.long p1), .second, .val (.long p2), .second, .val (.long p3), .second, .val (.int p4), .val (.long hi), .second, .val (.long lo), .second, .val (.long mid), .second, .val (.int 1), .val (.int 0), .val (.int 0), .val (.ref b101), .val (.ref b108), .val (.ref b109), .val (.ref b110), .val (.int (Int32.ofNat (1 + own_b hi p3))), .unset]) rfl ?_
  refine s_iconst K at_270 (pc' := 271) rfl (z := (1 : Int32)) rfl ?_
  refine s_istore K at_271 (pc' := 273) rfl (Ls' := #[.val (.long p0), .second, .val (.long p1), .second, .val (.long p2), .second, .val (.long p3), .second, .val (.int p4), .val (.long hi), .second, .val (.long lo), .second, .val (.long mid), .second, .val (.int 1), .val (.int 0), .val (.int 0), .val (.ref b101), .val (.ref b108), .val (.ref b109), .val (.ref b110), .val (.int (Int32.ofNat (1 + own_b hi p3))), .val (.int 1)]) rfl ?_
  refine s_iload K at_273 (pc' := 275) rfl rfl ?_
  refine s_iconst K at_275 (pc' := 276) rfl (z := (1 : Int32)) rfl ?_
  refine s_icN K at_276 (pc' := 279) rfl rfl ?_
  refine s_lload K at_279 (pc' := 281) rfl rfl ?_
  refine s_lload K at_281 (pc' := 283) rfl rfl ?_
  refine s_lcmp K at_283 (pc' := 284) rfl  ?_
  refine s_if K at_284 (pn := 287) rfl (by decide) (pc' := 293) (by decide) (fun h1 => ?_) (fun h1 => ?_)
  · have g1 := own_leY h1
    refine s_iload K at_293 (pc' := 295) rfl rfl ?_
    refine s_iconst K at_295 (pc' := 296) rfl (z := (2 : Int32)) rfl ?_
    refine s_icY K at_296 rfl (by decide) (pc' := 313) (by decide) ?_
    refine s_iload K at_313 (pc' := 315) rfl rfl ?_
    refine s_iconst K at_315 (pc' := 316) rfl (z := (3 : Int32)) rfl ?_
    refine s_icY K at_316 rfl (by decide) (pc' := 333) (by decide) ?_
    refine s_iload K at_333 (pc' := 335) rfl rfl ?_
    refine s_iload K at_335 (pc' := 337) rfl rfl ?_
    refine s_icN K at_337 (pc' := 340) rfl (teq (by rw [own_b0 (x := hi) (t := p3) g1]; rfl)).2 ?_
    refine s_iconst K at_340 (pc' := 341) rfl (z := (1 : Int32)) rfl ?_
    refine s_goto K at_341 (by decide) (pc' := 345) (by decide) ?_
    exact s_zreturn K at_345 rfl (by decide) (by decide) rfl
  · have g1 := own_leN h1
    refine s_iload K at_287 (pc' := 289) rfl rfl ?_
    refine s_iconst K at_289 (pc' := 290) rfl (z := (1 : Int32)) rfl ?_
    refine s_iadd K at_290 (pc' := 291) rfl (z := (2 : Int32)) rfl ?_
    refine s_istore K at_291 (pc' := 293) rfl (Ls' := #[.val (.long p0), .second, .val (.long p1), .second, .val (.long p2), .second, .val (.long p3), .second, .val (.int p4), .val (.long hi), .second, .val (.long lo), .second, .val (.long mid), .second, .val (.int 1), .val (.int 0), .val (.int 0), .val (.ref b101), .val (.ref b108), .val (.ref b109), .val (.ref b110), .val (.int (Int32.ofNat (1 + own_b hi p3))), .val (.int 2)]) rfl ?_
    refine s_iload K at_293 (pc' := 295) rfl rfl ?_
    refine s_iconst K at_295 (pc' := 296) rfl (z := (2 : Int32)) rfl ?_
    refine s_icY K at_296 rfl (by decide) (pc' := 313) (by decide) ?_
    refine s_iload K at_313 (pc' := 315) rfl rfl ?_
    refine s_iconst K at_315 (pc' := 316) rfl (z := (3 : Int32)) rfl ?_
    refine s_icY K at_316 rfl (by decide) (pc' := 333) (by decide) ?_
    refine s_iload K at_333 (pc' := 335) rfl rfl ?_
    refine s_iload K at_335 (pc' := 337) rfl rfl ?_
    refine s_icN K at_337 (pc' := 340) rfl (teq (by rw [own_b1 (x := hi) (t := p3) g1]; rfl)).2 ?_
    refine s_iconst K at_340 (pc' := 341) rfl (z := (1 : Int32)) rfl ?_
    refine s_goto K at_341 (by decide) (pc' := 345) (by decide) ?_
    exact s_zreturn K at_345 rfl (by decide) (by decide) rfl
set_option maxRecDepth 65536 in
set_option maxHeartbeats 400000000 in
theorem first4 {l : Launch} {Z : State} {a0 : Array Value} (hw : HW Z a0) {n0 : Nat} (F : Wd) (b110 b107 b140 b131 b142 b141 b108 b133 b132 b111 b112 b109 b139 b106 b135 b138 b134 : Addr) (hi : Int64) (mid : Int64) (lo : Int64) (p0 : Int64) (p3 : Int64)  :
    Con l Z n0 (⟨"com/example/evenkeel/evenkeel/LagSeats", "firstAtMost", "(IJ)I"⟩ : MethodName) prog_60_method_33_code 7 (some .int) ({ frames := 0, cells := 0, slots := 0, locals := 0 } : Room) [.ref b110, .int (0 : Int32), .long p3] ((b110, oLS (.int 0) (.int 0) .null (.int 0) (.int 0) (.ref b111) (.ref b112) (.ref b142) (.ref b141) (.ref b108) (.ref b109) (.ref b139) (.ref b107) (.ref b106) (.ref b135) (.ref b138) (.ref b134) (.ref b140) .null (.ref b133) (.ref b132) (.ref b131) .null .null .null .null .null .null .null) :: (b107, .inr (.int, [.int 0, .int 1])) :: (b140, .inr (.int, [.int 0, .int 1, .int 4])) :: (b131, .inr (.int, [.int 0, .int 1])) :: (b142, .inr (.int, [.int 0, .int 1])) :: (b141, .inr (.long, [.long 0, .long ((0 : Int64) + hi)])) :: (b108, .inr (.long, [.long hi, .long mid, .long lo, .long p0])) :: (b133, .inr (.int, [.int 0, .int 0, .int 0, .int 0])) :: (b132, .inr (.long, [.long 0, .long hi, .long 0, .long 0])) :: F) (fun v L' => v = some (.int (Int32.ofNat (0))) ∧ L' = ((b110, oLS (.int 0) (.int 0) .null (.int 0) (.int 0) (.ref b111) (.ref b112) (.ref b142) (.ref b141) (.ref b108) (.ref b109) (.ref b139) (.ref b107) (.ref b106) (.ref b135) (.ref b138) (.ref b134) (.ref b140) .null (.ref b133) (.ref b132) (.ref b131) .null .null .null .null .null .null .null) :: (b107, .inr (.int, [.int 0, .int 1])) :: (b140, .inr (.int, [.int 0, .int 1, .int 4])) :: (b131, .inr (.int, [.int 0, .int 1])) :: (b142, .inr (.int, [.int 0, .int 1])) :: (b141, .inr (.long, [.long 0, .long ((0 : Int64) + hi)])) :: (b108, .inr (.long, [.long hi, .long mid, .long lo, .long p0])) :: (b133, .inr (.int, [.int 0, .int 0, .int 0, .int 0])) :: (b132, .inr (.long, [.long 0, .long hi, .long 0, .long 0])) :: F)) := by
  refine Con.of (by decide +kernel) (Ls := #[.val (.ref b110), .val (.int 0), .val (.long p3), .second, .unset, .unset, .unset]) (fun m => by first | rfl | (simp [entryFrame, mkF, argsToLocals, Value.category]; done)) ?_
  intro κ K
  refine s_aloadN K d17_0 (pc' := 1) rfl rfl rfl ?_
  refine s_getf K d17_1 (pc' := 4) rfl (w96 hw) (k := 0) rfl (j := 17) rfl ?_
  refine s_iloadN K d17_4 (pc' := 5) rfl rfl ?_
  refine s_iaload K d17_5 (pc' := 6) rfl (k := 2) rfl (i := 0) (by decide) rfl ?_
  refine s_istore K d17_6 (pc' := 8) rfl (Ls' := #[.val (.ref b110), .val (.int 0), .val (.long p3), .second, .val (.int 0), .unset, .unset]) rfl ?_
  refine s_iload K d17_8 (pc' := 10) rfl rfl ?_
  refine s_aloadN K d17_10 (pc' := 11) rfl rfl rfl ?_
  refine s_getf K d17_11 (pc' := 14) rfl (w138 hw) (k := 0) rfl (j := 21) rfl ?_
  refine s_iloadN K d17_14 (pc' := 15) rfl rfl ?_
  refine s_iaload K d17_15 (pc' := 16) rfl (k := 3) rfl (i := 0) (by decide) rfl ?_
  refine s_iadd K d17_16 (pc' := 17) rfl (z := (0 : Int32)) rfl ?_
  refine s_istore K d17_17 (pc' := 19) rfl (Ls' := #[.val (.ref b110), .val (.int 0), .val (.long p3), .second, .val (.int 0), .val (.int 0), .unset]) rfl ?_
  refine s_iload K d17_19 (pc' := 21) rfl rfl ?_
  refine s_iload K d17_21 (pc' := 23) rfl rfl ?_
  refine s_icY K d17_23 rfl (by decide) (pc' := 63) (by decide) ?_
  refine s_iload K d17_63 (pc' := 65) rfl rfl ?_
  exact s_ireturn K d17_65 (by decide) (by decide) ⟨rfl, rfl⟩
set_option maxRecDepth 65536 in
set_option maxHeartbeats 400000000 in
theorem segB_011 {l : Launch} {Z : State} {a0 : Array Value} (hw : HW Z a0) {n0 : Nat} (p0 p1 p2 p3 hi mid lo : Int64) (p4 : Int32) (b110 b107 b140 b131 b142 b141 b108 b133 b132 b101 b109 b111 b112 b139 b106 b135 b138 b134 : Addr) (o1 : mid.toInt ≤ hi.toInt) (o2 : lo.toInt ≤ mid.toInt) (κ : Ctx) (K : Ok Z κ x.cls code maxLocals ret x.name) :
    Go l Z n0 room_1 (fun v _ => v = some (.int 1)) κ 21 83 [(b110, oLS (.int 0) (.int 0) .null (.int 0) (.int 0) (.ref b111) (.ref b112) (.ref b142) (.ref b141) (.ref b108) (.ref b109) (.ref b139) (.ref b107) (.ref b106) (.ref b135) (.ref b138) (.ref b134) (.ref b140) .null (.ref b133) (.ref b132) (.ref b131) .null .null .null .null .null .null .null), (b107, .inr (.int, [.int 0, .int 1])), (b140, .inr (.int, [.int 0, .int 1, .int 4])), (b131, .inr (.int, [.int 0, .int 0])), (b142, .inr (.int, [.int 0, .int 0])), (b141, .inr (.long, [.long 0, .long 0])), (b108, .inr (.long, [.long hi, .long mid, .long lo, .long p0])), (b133, .inr (.int, [.int 0, .int 0, .int 0, .int 0])), (b132, .inr (.long, [.long 0, .long 0, .long 0, .long 0]))] 172 #[.val (.long p0), .second, .val (.long p1), .second, .val (.long p2), .second, .val (.long p3), .second, .val (.int p4), .val (.long hi), .second, .val (.long lo), .second, .val (.long mid), .second, .val (.int 1), .val (.int 1), .val (.int 0), .val (.ref b101), .val (.ref b108), .val (.ref b109), .val (.ref b110), .unset, .unset] [] := by
  refine s_iload K at_172 (pc' := 174) rfl rfl ?_
  refine s_ifY K at_174 rfl (by decide) (pc' := 184) (by decide) ?_
  refine s_iload K at_184 (pc' := 186) rfl rfl ?_
  refine s_iconst K at_186 (pc' := 187) rfl (z := (1 : Int32)) rfl ?_
  refine s_icN K at_187 (pc' := 190) rfl rfl ?_
  refine s_aload K at_190 (pc' := 192) rfl rfl rfl ?_
  refine s_iconst K at_192 (pc' := 193) rfl (z := (1 : Int32)) rfl ?_
  refine s_iconst K at_193 (pc' := 194) rfl (z := (0 : Int32)) rfl ?_
  refine s_virtual K at_194 (pc' := 197) rfl (k := 0) (a := b110) rfl (as := [.int 1, .int 0]) (k13_place hw _ b110 b107 b140 b131 b142 b141 b108 b133 b132 b111 b112 b109 b139 b106 b135 b138 b134 hi mid lo p0) (w154 hw) (w155 hw) (w157 hw) (w156 hw) (w35 hw) (w158 hw) (by decide) pd_0 rfl (rest := []) rfl rfl (W := 0) (Nat.le_of_eq rfl) (by decide) (by decide) (ce' := 21) rfl (sl' := 83) rfl (by decide) (by decide) ?_
  rintro v _ ⟨rfl, rfl⟩
  show Go l Z n0 _ _ κ 21 83 [(b110, oLS (.int 0) (.int 0) .null (.int 0) (.int 0) (.ref b111) (.ref b112) (.ref b142) (.ref b141) (.ref b108) (.ref b109) (.ref b139) (.ref b107) (.ref b106) (.ref b135) (.ref b138) (.ref b134) (.ref b140) .null (.ref b133) (.ref b132) (.ref b131) .null .null .null .null .null .null .null), (b107, .inr (.int, [.int 0, .int 1])), (b140, .inr (.int, [.int 0, .int 1, .int 4])), (b131, .inr (.int, [.int 0, .int 1])), (b142, .inr (.int, [.int 0, .int 1])), (b141, .inr (.long, [.long 0, .long ((0 : Int64) + hi)])), (b108, .inr (.long, [.long hi, .long mid, .long lo, .long p0])), (b133, .inr (.int, [.int 0, .int 0, .int 0, .int 0])), (b132, .inr (.long, [.long 0, .long hi, .long 0, .long 0]))] 197 #[.val (.long p0), .second, .val (.long p1), .second, .val (.long p2), .second, .val (.long p3), .second, .val (.int p4), .val (.long hi), .second, .val (.long lo), .second, .val (.long mid), .second, .val (.int 1), .val (.int 1), .val (.int 0), .val (.ref b101), .val (.ref b108), .val (.ref b109), .val (.ref b110), .unset, .unset] []
  refine s_iload K at_197 (pc' := 199) rfl rfl ?_
  refine s_iconst K at_199 (pc' := 200) rfl (z := (2 : Int32)) rfl ?_
  refine s_icY K at_200 rfl (by decide) (pc' := 210) (by decide) ?_
  refine s_iload K at_210 (pc' := 212) rfl rfl ?_
  refine s_iconst K at_212 (pc' := 213) rfl (z := (3 : Int32)) rfl ?_
  refine s_icY K at_213 rfl (by decide) (pc' := 223) (by decide) ?_
  refine s_iload K at_223 (pc' := 225) rfl rfl ?_
  refine s_ifN K at_225 (pc' := 228) rfl rfl ?_
  refine s_aload K at_228 (pc' := 230) rfl rfl rfl ?_
  refine s_iconst K at_230 (pc' := 231) rfl (z := (0 : Int32)) rfl ?_
  refine s_lload K at_231 (pc' := 233) rfl rfl ?_
  refine s_virtual K at_233 (pc' := 236) rfl (k := 0) (a := b110) rfl (as := [.int 0, .long p3]) (first4 hw _ b110 b107 b140 b131 b142 b141 b108 b133 b132 b111 b112 b109 b139 b106 b135 b138 b134 hi mid lo p0 p3 ) (w168 hw) (w169 hw) (w171 hw) (w170 hw) (w35 hw) (w172 hw) (by decide) pd_9 rfl (rest := []) rfl rfl (W := 0) (Nat.le_of_eq rfl) (by decide) (by decide) (ce' := 21) rfl (sl' := 83) rfl (by decide) (by decide) ?_
  rintro v _ ⟨rfl, rfl⟩
  show Go l Z n0 _ _ κ 21 83 [(b110, oLS (.int 0) (.int 0) .null (.int 0) (.int 0) (.ref b111) (.ref b112) (.ref b142) (.ref b141) (.ref b108) (.ref b109) (.ref b139) (.ref b107) (.ref b106) (.ref b135) (.ref b138) (.ref b134) (.ref b140) .null (.ref b133) (.ref b132) (.ref b131) .null .null .null .null .null .null .null), (b107, .inr (.int, [.int 0, .int 1])), (b140, .inr (.int, [.int 0, .int 1, .int 4])), (b131, .inr (.int, [.int 0, .int 1])), (b142, .inr (.int, [.int 0, .int 1])), (b141, .inr (.long, [.long 0, .long ((0 : Int64) + hi)])), (b108, .inr (.long, [.long hi, .long mid, .long lo, .long p0])), (b133, .inr (.int, [.int 0, .int 0, .int 0, .int 0])), (b132, .inr (.long, [.long 0, .long hi, .long 0, .long 0]))] 236 #[.val (.long p0), .second, .val (.long p1), .second, .val (.long p2), .second, .val (.long p3), .second, .val (.int p4), .val (.long hi), .second, .val (.long lo), .second, .val (.long mid), .second, .val (.int 1), .val (.int 1), .val (.int 0), .val (.ref b101), .val (.ref b108), .val (.ref b109), .val (.ref b110), .unset, .unset] [.int (Int32.ofNat (0))]
  refine s_istore K at_236 (pc' := 238) rfl (Ls' := #[.val (.long p0), .second, .val (.long p1), .second, .val (.long p2), .second, .val (.long p3), .second, .val (.int p4), .val (.long hi), .second, .val (.long lo), .second, .val (.long mid), .second, .val (.int 1), .val (.int 1), .val (.int 0), .val (.ref b101), .val (.ref b108), .val (.ref b109), .val (.ref b110), .val (.int (Int32.ofNat (0))), .unset]) rfl ?_
  refine s_iload K at_238 (pc' := 240) rfl rfl ?_
  refine s_ifY K at_240 rfl (by decide) (pc' := 254) (by decide) ?_
  refine s_iconst K at_254 (pc' := 255) rfl (z := (0 : Int32)) rfl ?_
  refine s_istore K at_255 (pc' := 257) rfl (Ls' := #[.val (.long p0), .second, .val (.long p1), .second, .val (.long p2), .second, .val (.long p3), .second, .val (.int p4), .val (.long hi), .second, .val (.long lo), .second, .val (.long mid), .second, .val (.int 1), .val (.int 1), .val (.int 0), .val (.ref b101), .val (.ref b108), .val (.ref b109), .val (.ref b110), .val (.int (Int32.ofNat (0))), .val (.int 0)]) rfl ?_
  refine s_goto K at_257 (by decide) (pc' := 333) (by decide) ?_
  refine s_iload K at_333 (pc' := 335) rfl rfl ?_
  refine s_iload K at_335 (pc' := 337) rfl rfl ?_
  refine s_icN K at_337 (pc' := 340) rfl (teq rfl).2 ?_
  refine s_iconst K at_340 (pc' := 341) rfl (z := (1 : Int32)) rfl ?_
  refine s_goto K at_341 (by decide) (pc' := 345) (by decide) ?_
  exact s_zreturn K at_345 rfl (by decide) (by decide) rfl
set_option maxRecDepth 65536 in
set_option maxHeartbeats 400000000 in
theorem k17_take {l : Launch} {Z : State} {a0 : Array Value} (hw : HW Z a0) {n0 : Nat} (F : Wd) (b110 b107 b140 b131 b142 b141 b108 b133 b132 b111 b112 b109 b139 b106 b135 b138 b134 : Addr) (hi : Int64) (mid : Int64) (lo : Int64) (p0 : Int64) :
    Con l Z n0 (⟨"com/example/evenkeel/evenkeel/LagSeats", "take", "(II)V"⟩ : MethodName) prog_60_method_27_code 3 none ({ frames := 0, cells := 0, slots := 0, locals := 0 } : Room) [.ref b110, .int 1, .int 1] ((b110, oLS (.int 0) (.int 0) .null (.int 0) (.int 0) (.ref b111) (.ref b112) (.ref b142) (.ref b141) (.ref b108) (.ref b109) (.ref b139) (.ref b107) (.ref b106) (.ref b135) (.ref b138) (.ref b134) (.ref b140) .null (.ref b133) (.ref b132) (.ref b131) .null .null .null .null .null .null .null) :: (b107, .inr (.int, [.int 0, .int 1])) :: (b140, .inr (.int, [.int 0, .int 1, .int 4])) :: (b131, .inr (.int, [.int 0, .int 1])) :: (b142, .inr (.int, [.int 0, .int 1])) :: (b141, .inr (.long, [.long 0, .long ((0 : Int64) + hi)])) :: (b108, .inr (.long, [.long hi, .long mid, .long lo, .long p0])) :: (b133, .inr (.int, [.int 0, .int 0, .int 0, .int 0])) :: (b132, .inr (.long, [.long 0, .long hi, .long 0, .long 0])) :: F) (fun v L' => v = none ∧ L' = ((b110, oLS (.int 0) (.int 0) .null (.int 0) (.int 0) (.ref b111) (.ref b112) (.ref b142) (.ref b141) (.ref b108) (.ref b109) (.ref b139) (.ref b107) (.ref b106) (.ref b135) (.ref b138) (.ref b134) (.ref b140) .null (.ref b133) (.ref b132) (.ref b131) .null .null .null .null .null .null .null) :: (b107, .inr (.int, [.int 0, .int 1])) :: (b140, .inr (.int, [.int 0, .int 1, .int 4])) :: (b131, .inr (.int, [.int 0, .int 1])) :: (b142, .inr (.int, [.int 0, .int 2])) :: (b141, .inr (.long, [.long 0, .long (((0 : Int64) + hi) + mid)])) :: (b108, .inr (.long, [.long hi, .long mid, .long lo, .long p0])) :: (b133, .inr (.int, [.int 0, .int 0, .int 0, .int 0])) :: (b132, .inr (.long, [.long 0, .long hi, .long 0, .long 0])) :: F)) := by
  refine Con.of (by decide +kernel) (Ls := #[.val (.ref b110), .val (.int 1), .val (.int 1)]) (fun m => by first | rfl | (simp [entryFrame, mkF, argsToLocals, Value.category]; done)) ?_
  intro κ K
  refine s_aloadN K d15_0 (pc' := 1) rfl rfl rfl ?_
  refine s_getf K d15_1 (pc' := 4) rfl (w40 hw) (k := 0) rfl (j := 0) rfl ?_
  refine s_ifY K d15_4 rfl (by decide) (pc' := 32) (by decide) ?_
  refine s_aloadN K d15_32 (pc' := 33) rfl rfl rfl ?_
  refine s_getf K d15_33 (pc' := 36) rfl (w63 hw) (k := 0) rfl (j := 7) rfl ?_
  refine s_iloadN K d15_36 (pc' := 37) rfl rfl ?_
  refine s_dup2 K d15_37 (pc' := 38) rfl rfl rfl ?_
  refine s_iaload K d15_38 (pc' := 39) rfl (k := 4) rfl (i := 1) (by decide) rfl ?_
  refine s_iconst K d15_39 (pc' := 40) rfl (z := (1 : Int32)) rfl ?_
  refine s_iadd K d15_40 (pc' := 41) rfl (z := (2 : Int32)) rfl ?_
  refine s_iastore K d15_41 (pc' := 42) rfl (k := 4) rfl (i := 1) (by decide) (ltB rfl) (L' := ((b110, oLS (.int 0) (.int 0) .null (.int 0) (.int 0) (.ref b111) (.ref b112) (.ref b142) (.ref b141) (.ref b108) (.ref b109) (.ref b139) (.ref b107) (.ref b106) (.ref b135) (.ref b138) (.ref b134) (.ref b140) .null (.ref b133) (.ref b132) (.ref b131) .null .null .null .null .null .null .null) :: (b107, .inr (.int, [.int 0, .int 1])) :: (b140, .inr (.int, [.int 0, .int 1, .int 4])) :: (b131, .inr (.int, [.int 0, .int 1])) :: (b142, .inr (.int, [.int 0, .int 2])) :: (b141, .inr (.long, [.long 0, .long ((0 : Int64) + hi)])) :: (b108, .inr (.long, [.long hi, .long mid, .long lo, .long p0])) :: (b133, .inr (.int, [.int 0, .int 0, .int 0, .int 0])) :: (b132, .inr (.long, [.long 0, .long hi, .long 0, .long 0])) :: F)) rfl ?_
  refine s_aloadN K d15_42 (pc' := 43) rfl rfl rfl ?_
  refine s_getf K d15_43 (pc' := 46) rfl (w71 hw) (k := 0) rfl (j := 8) rfl ?_
  refine s_iloadN K d15_46 (pc' := 47) rfl rfl ?_
  refine s_dup2 K d15_47 (pc' := 48) rfl rfl rfl ?_
  refine s_laload K d15_48 (pc' := 49) rfl (k := 5) rfl (i := 1) (by decide) rfl ?_
  refine s_aloadN K d15_49 (pc' := 50) rfl rfl rfl ?_
  refine s_getf K d15_50 (pc' := 53) rfl (w73 hw) (k := 0) rfl (j := 9) rfl ?_
  refine s_iloadN K d15_53 (pc' := 54) rfl rfl ?_
  refine s_laload K d15_54 (pc' := 55) rfl (k := 6) rfl (i := 1) (by decide) rfl ?_
  refine s_ladd K d15_55 (pc' := 56) rfl (z := ((0 : Int64) + hi) + mid) rfl ?_
  refine s_lastore K d15_56 (pc' := 57) rfl (k := 5) rfl (i := 1) (by decide) (ltB rfl) (L' := ((b110, oLS (.int 0) (.int 0) .null (.int 0) (.int 0) (.ref b111) (.ref b112) (.ref b142) (.ref b141) (.ref b108) (.ref b109) (.ref b139) (.ref b107) (.ref b106) (.ref b135) (.ref b138) (.ref b134) (.ref b140) .null (.ref b133) (.ref b132) (.ref b131) .null .null .null .null .null .null .null) :: (b107, .inr (.int, [.int 0, .int 1])) :: (b140, .inr (.int, [.int 0, .int 1, .int 4])) :: (b131, .inr (.int, [.int 0, .int 1])) :: (b142, .inr (.int, [.int 0, .int 2])) :: (b141, .inr (.long, [.long 0, .long (((0 : Int64) + hi) + mid)])) :: (b108, .inr (.long, [.long hi, .long mid, .long lo, .long p0])) :: (b133, .inr (.int, [.int 0, .int 0, .int 0, .int 0])) :: (b132, .inr (.long, [.long 0, .long hi, .long 0, .long 0])) :: F)) rfl ?_
  exact s_return K d15_57 (by decide) (by decide) ⟨rfl, rfl⟩
set_option maxRecDepth 65536 in
set_option maxHeartbeats 400000000 in
theorem k18_put {l : Launch} {Z : State} {a0 : Array Value} (hw : HW Z a0) {n0 : Nat} (F : Wd) (b110 b107 b140 b131 b142 b141 b108 b133 b132 b111 b112 b109 b139 b106 b135 b138 b134 : Addr) (xx1 : Int64) (hi : Int64) (mid : Int64) (lo : Int64) (p0 : Int64) :
    Con l Z n0 (⟨"com/example/evenkeel/evenkeel/LagSeats", "put", "(II)V"⟩ : MethodName) prog_60_method_30_code 3 none ({ frames := 0, cells := 0, slots := 0, locals := 0 } : Room) [.ref b110, .int 2, .int 1] ((b110, oLS (.int 0) (.int 0) .null (.int 0) (.int 0) (.ref b111) (.ref b112) (.ref b142) (.ref b141) (.ref b108) (.ref b109) (.ref b139) (.ref b107) (.ref b106) (.ref b135) (.ref b138) (.ref b134) (.ref b140) .null (.ref b133) (.ref b132) (.ref b131) .null .null .null .null .null .null .null) :: (b107, .inr (.int, [.int 0, .int 1])) :: (b140, .inr (.int, [.int 0, .int 1, .int 4])) :: (b131, .inr (.int, [.int 0, .int 2])) :: (b142, .inr (.int, [.int 0, .int 2])) :: (b141, .inr (.long, [.long 0, .long xx1])) :: (b108, .inr (.long, [.long hi, .long mid, .long lo, .long p0])) :: (b133, .inr (.int, [.int 0, .int 0, .int 0, .int 0])) :: (b132, .inr (.long, [.long 0, .long hi, .long 0, .long 0])) :: F) (fun v L' => v = none ∧ L' = ((b110, oLS (.int 0) (.int 0) .null (.int 0) (.int 0) (.ref b111) (.ref b112) (.ref b142) (.ref b141) (.ref b108) (.ref b109) (.ref b139) (.ref b107) (.ref b106) (.ref b135) (.ref b138) (.ref b134) (.ref b140) .null (.ref b133) (.ref b132) (.ref b131) .null .null .null .null .null .null .null) :: (b107, .inr (.int, [.int 0, .int 1])) :: (b140, .inr (.int, [.int 0, .int 1, .int 4])) :: (b131, .inr (.int, [.int 0, .int 2])) :: (b142, .inr (.int, [.int 0, .int 2])) :: (b141, .inr (.long, [.long 0, .long xx1])) :: (b108, .inr (.long, [.long hi, .long mid, .long lo, .long p0])) :: (b133, .inr (.int, [.int 0, .int 0, .int 1, .int 0])) :: (b132, .inr (.long, [.long 0, .long hi, .long mid, .long 0])) :: F)) := by
  refine Con.of (by decide +kernel) (Ls := #[.val (.ref b110), .val (.int 2), .val (.int 1)]) (fun m => by first | rfl | (simp [entryFrame, mkF, argsToLocals, Value.category]; done)) ?_
  intro κ K
  refine s_aloadN K d16_0 (pc' := 1) rfl rfl rfl ?_
  refine s_getf K d16_1 (pc' := 4) rfl (w134 hw) (k := 0) rfl (j := 19) rfl ?_
  refine s_iloadN K d16_4 (pc' := 5) rfl rfl ?_
  refine s_iloadN K d16_5 (pc' := 6) rfl rfl ?_
  refine s_iastore K d16_6 (pc' := 7) rfl (k := 7) rfl (i := 2) (by decide) (ltB rfl) (L' := ((b110, oLS (.int 0) (.int 0) .null (.int 0) (.int 0) (.ref b111) (.ref b112) (.ref b142) (.ref b141) (.ref b108) (.ref b109) (.ref b139) (.ref b107) (.ref b106) (.ref b135) (.ref b138) (.ref b134) (.ref b140) .null (.ref b133) (.ref b132) (.ref b131) .null .null .null .null .null .null .null) :: (b107, .inr (.int, [.int 0, .int 1])) :: (b140, .inr (.int, [.int 0, .int 1, .int 4])) :: (b131, .inr (.int, [.int 0, .int 2])) :: (b142, .inr (.int, [.int 0, .int 2])) :: (b141, .inr (.long, [.long 0, .long xx1])) :: (b108, .inr (.long, [.long hi, .long mid, .long lo, .long p0])) :: (b133, .inr (.int, [.int 0, .int 0, .int 1, .int 0])) :: (b132, .inr (.long, [.long 0, .long hi, .long 0, .long 0])) :: F)) rfl ?_
  refine s_aloadN K d16_7 (pc' := 8) rfl rfl rfl ?_
  refine s_getf K d16_8 (pc' := 11) rfl (w136 hw) (k := 0) rfl (j := 20) rfl ?_
  refine s_iloadN K d16_11 (pc' := 12) rfl rfl ?_
  refine s_aloadN K d16_12 (pc' := 13) rfl rfl rfl ?_
  refine s_getf K d16_13 (pc' := 16) rfl (w73 hw) (k := 0) rfl (j := 9) rfl ?_
  refine s_iloadN K d16_16 (pc' := 17) rfl rfl ?_
  refine s_laload K d16_17 (pc' := 18) rfl (k := 6) rfl (i := 1) (by decide) rfl ?_
  refine s_lastore K d16_18 (pc' := 19) rfl (k := 8) rfl (i := 2) (by decide) (ltB rfl) (L' := ((b110, oLS (.int 0) (.int 0) .null (.int 0) (.int 0) (.ref b111) (.ref b112) (.ref b142) (.ref b141) (.ref b108) (.ref b109) (.ref b139) (.ref b107) (.ref b106) (.ref b135) (.ref b138) (.ref b134) (.ref b140) .null (.ref b133) (.ref b132) (.ref b131) .null .null .null .null .null .null .null) :: (b107, .inr (.int, [.int 0, .int 1])) :: (b140, .inr (.int, [.int 0, .int 1, .int 4])) :: (b131, .inr (.int, [.int 0, .int 2])) :: (b142, .inr (.int, [.int 0, .int 2])) :: (b141, .inr (.long, [.long 0, .long xx1])) :: (b108, .inr (.long, [.long hi, .long mid, .long lo, .long p0])) :: (b133, .inr (.int, [.int 0, .int 0, .int 1, .int 0])) :: (b132, .inr (.long, [.long 0, .long hi, .long mid, .long 0])) :: F)) rfl ?_
  exact s_return K d16_19 (by decide) (by decide) ⟨rfl, rfl⟩
set_option maxRecDepth 65536 in
set_option maxHeartbeats 400000000 in
theorem k16_place {l : Launch} {Z : State} {a0 : Array Value} (hw : HW Z a0) {n0 : Nat} (F : Wd) (b110 b107 b140 b131 b142 b141 b108 b133 b132 b111 b112 b109 b139 b106 b135 b138 b134 : Addr) (hi : Int64) (mid : Int64) (lo : Int64) (p0 : Int64) :
    Con l Z n0 (⟨"com/example/evenkeel/evenkeel/LagSeats", "place", "(II)V"⟩ : MethodName) prog_60_method_26_code 3 none ({ frames := 1, cells := 0, slots := 0, locals := 14 } : Room) [.ref b110, .int 1, .int 1] ((b110, oLS (.int 0) (.int 0) .null (.int 0) (.int 0) (.ref b111) (.ref b112) (.ref b142) (.ref b141) (.ref b108) (.ref b109) (.ref b139) (.ref b107) (.ref b106) (.ref b135) (.ref b138) (.ref b134) (.ref b140) .null (.ref b133) (.ref b132) (.ref b131) .null .null .null .null .null .null .null) :: (b107, .inr (.int, [.int 0, .int 1])) :: (b140, .inr (.int, [.int 0, .int 1, .int 4])) :: (b131, .inr (.int, [.int 0, .int 1])) :: (b142, .inr (.int, [.int 0, .int 1])) :: (b141, .inr (.long, [.long 0, .long ((0 : Int64) + hi)])) :: (b108, .inr (.long, [.long hi, .long mid, .long lo, .long p0])) :: (b133, .inr (.int, [.int 0, .int 0, .int 0, .int 0])) :: (b132, .inr (.long, [.long 0, .long hi, .long 0, .long 0])) :: F) (fun v L' => v = none ∧ L' = ((b110, oLS (.int 0) (.int 0) .null (.int 0) (.int 0) (.ref b111) (.ref b112) (.ref b142) (.ref b141) (.ref b108) (.ref b109) (.ref b139) (.ref b107) (.ref b106) (.ref b135) (.ref b138) (.ref b134) (.ref b140) .null (.ref b133) (.ref b132) (.ref b131) .null .null .null .null .null .null .null) :: (b107, .inr (.int, [.int 0, .int 1])) :: (b140, .inr (.int, [.int 0, .int 1, .int 4])) :: (b131, .inr (.int, [.int 0, .int 2])) :: (b142, .inr (.int, [.int 0, .int 2])) :: (b141, .inr (.long, [.long 0, .long (((0 : Int64) + hi) + mid)])) :: (b108, .inr (.long, [.long hi, .long mid, .long lo, .long p0])) :: (b133, .inr (.int, [.int 0, .int 0, .int 1, .int 0])) :: (b132, .inr (.long, [.long 0, .long hi, .long mid, .long 0])) :: F)) := by
  refine Con.of (by decide +kernel) (Ls := #[.val (.ref b110), .val (.int 1), .val (.int 1)]) (fun m => by first | rfl | (simp [entryFrame, mkF, argsToLocals, Value.category]; done)) ?_
  intro κ K
  refine s_aloadN K d14_0 (pc' := 1) rfl rfl rfl ?_
  refine s_aloadN K d14_1 (pc' := 2) rfl rfl rfl ?_
  refine s_getf K d14_2 (pc' := 5) rfl (w85 hw) (k := 0) rfl (j := 12) rfl ?_
  refine s_iloadN K d14_5 (pc' := 6) rfl rfl ?_
  refine s_iaload K d14_6 (pc' := 7) rfl (k := 1) rfl (i := 1) (by decide) rfl ?_
  refine s_iloadN K d14_7 (pc' := 8) rfl rfl ?_
  refine s_virtual K d14_8 (pc' := 11) rfl (k := 0) (a := b110) rfl (as := [.int 1, .int 1]) (k17_take hw _ b110 b107 b140 b131 b142 b141 b108 b133 b132 b111 b112 b109 b139 b106 b135 b138 b134 hi mid lo p0) (w159 hw) (w160 hw) (w162 hw) (w161 hw) (w35 hw) (w163 hw) (by decide) pd_0 rfl (rest := []) rfl rfl (W := 0) (Nat.le_of_eq rfl) (by decide) (by decide) (ce' := 0) rfl (sl' := 0) rfl (by decide) (by decide) ?_
  rintro v _ ⟨rfl, rfl⟩
  show Go l Z n0 _ _ κ 0 0 ((b110, oLS (.int 0) (.int 0) .null (.int 0) (.int 0) (.ref b111) (.ref b112) (.ref b142) (.ref b141) (.ref b108) (.ref b109) (.ref b139) (.ref b107) (.ref b106) (.ref b135) (.ref b138) (.ref b134) (.ref b140) .null (.ref b133) (.ref b132) (.ref b131) .null .null .null .null .null .null .null) :: (b107, .inr (.int, [.int 0, .int 1])) :: (b140, .inr (.int, [.int 0, .int 1, .int 4])) :: (b131, .inr (.int, [.int 0, .int 1])) :: (b142, .inr (.int, [.int 0, .int 2])) :: (b141, .inr (.long, [.long 0, .long (((0 : Int64) + hi) + mid)])) :: (b108, .inr (.long, [.long hi, .long mid, .long lo, .long p0])) :: (b133, .inr (.int, [.int 0, .int 0, .int 0, .int 0])) :: (b132, .inr (.long, [.long 0, .long hi, .long 0, .long 0])) :: F) 11 #[.val (.ref b110), .val (.int 1), .val (.int 1)] []
  refine s_aloadN K d14_11 (pc' := 12) rfl rfl rfl ?_
  refine s_aloadN K d14_12 (pc' := 13) rfl rfl rfl ?_
  refine s_getf K d14_13 (pc' := 16) rfl (w96 hw) (k := 0) rfl (j := 17) rfl ?_
  refine s_iloadN K d14_16 (pc' := 17) rfl rfl ?_
  refine s_iaload K d14_17 (pc' := 18) rfl (k := 2) rfl (i := 1) (by decide) rfl ?_
  refine s_aloadN K d14_18 (pc' := 19) rfl rfl rfl ?_
  refine s_getf K d14_19 (pc' := 22) rfl (w138 hw) (k := 0) rfl (j := 21) rfl ?_
  refine s_iloadN K d14_22 (pc' := 23) rfl rfl ?_
  refine s_dup2 K d14_23 (pc' := 24) rfl rfl rfl ?_
  refine s_iaload K d14_24 (pc' := 25) rfl (k := 3) rfl (i := 1) (by decide) rfl ?_
  refine s_dupx2 K d14_25 (pc' := 26) rfl rfl rfl rfl ?_
  refine s_iconst K d14_26 (pc' := 27) rfl (z := (1 : Int32)) rfl ?_
  refine s_iadd K d14_27 (pc' := 28) rfl (z := (2 : Int32)) rfl ?_
  refine s_iastore K d14_28 (pc' := 29) rfl (k := 3) rfl (i := 1) (by decide) (ltB rfl) (L' := ((b110, oLS (.int 0) (.int 0) .null (.int 0) (.int 0) (.ref b111) (.ref b112) (.ref b142) (.ref b141) (.ref b108) (.ref b109) (.ref b139) (.ref b107) (.ref b106) (.ref b135) (.ref b138) (.ref b134) (.ref b140) .null (.ref b133) (.ref b132) (.ref b131) .null .null .null .null .null .null .null) :: (b107, .inr (.int, [.int 0, .int 1])) :: (b140, .inr (.int, [.int 0, .int 1, .int 4])) :: (b131, .inr (.int, [.int 0, .int 2])) :: (b142, .inr (.int, [.int 0, .int 2])) :: (b141, .inr (.long, [.long 0, .long (((0 : Int64) + hi) + mid)])) :: (b108, .inr (.long, [.long hi, .long mid, .long lo, .long p0])) :: (b133, .inr (.int, [.int 0, .int 0, .int 0, .int 0])) :: (b132, .inr (.long, [.long 0, .long hi, .long 0, .long 0])) :: F)) rfl ?_
  refine s_iadd K d14_29 (pc' := 30) rfl (z := (2 : Int32)) rfl ?_
  refine s_iloadN K d14_30 (pc' := 31) rfl rfl ?_
  refine s_private K d14_31 (pc' := 34) rfl (k := 0) (a := b110) rfl (as := [.int 2, .int 1]) (k18_put hw _ b110 b107 b140 b131 b142 b141 b108 b133 b132 b111 b112 b109 b139 b106 b135 b138 b134 (((0 : Int64) + hi) + mid) hi mid lo p0) (w164 hw) (w157 hw) rfl (w165 hw) (w166 hw) (w35 hw) (w167 hw) (by decide) pd_0 rfl (rest := []) rfl rfl (W := 0) (Nat.le_of_eq rfl) (by decide) (by decide) (ce' := 0) rfl (sl' := 0) rfl (by decide) (by decide) ?_
  rintro v _ ⟨rfl, rfl⟩
  show Go l Z n0 _ _ κ 0 0 ((b110, oLS (.int 0) (.int 0) .null (.int 0) (.int 0) (.ref b111) (.ref b112) (.ref b142) (.ref b141) (.ref b108) (.ref b109) (.ref b139) (.ref b107) (.ref b106) (.ref b135) (.ref b138) (.ref b134) (.ref b140) .null (.ref b133) (.ref b132) (.ref b131) .null .null .null .null .null .null .null) :: (b107, .inr (.int, [.int 0, .int 1])) :: (b140, .inr (.int, [.int 0, .int 1, .int 4])) :: (b131, .inr (.int, [.int 0, .int 2])) :: (b142, .inr (.int, [.int 0, .int 2])) :: (b141, .inr (.long, [.long 0, .long (((0 : Int64) + hi) + mid)])) :: (b108, .inr (.long, [.long hi, .long mid, .long lo, .long p0])) :: (b133, .inr (.int, [.int 0, .int 0, .int 1, .int 0])) :: (b132, .inr (.long, [.long 0, .long hi, .long mid, .long 0])) :: F) 34 #[.val (.ref b110), .val (.int 1), .val (.int 1)] []
  refine s_aloadN K d14_34 (pc' := 35) rfl rfl rfl ?_
  refine s_getf K d14_35 (pc' := 38) rfl (w140 hw) (k := 0) rfl (j := 22) rfl ?_
  refine s_nullY K d14_38 (by decide) (pc' := 47) (by decide) ?_
  exact s_return K d14_47 (by decide) (by decide) ⟨rfl, rfl⟩
set_option maxRecDepth 65536 in
set_option maxHeartbeats 400000000 in
theorem first5 {l : Launch} {Z : State} {a0 : Array Value} (hw : HW Z a0) {n0 : Nat} (F : Wd) (b110 b107 b140 b131 b142 b141 b108 b133 b132 b111 b112 b109 b139 b106 b135 b138 b134 : Addr) (xx1 : Int64) (hi : Int64) (mid : Int64) (lo : Int64) (p0 : Int64) (p3 : Int64) (o0 : mid.toInt ≤ hi.toInt) :
    Con l Z n0 (⟨"com/example/evenkeel/evenkeel/LagSeats", "firstAtMost", "(IJ)I"⟩ : MethodName) prog_60_method_33_code 7 (some .int) ({ frames := 0, cells := 0, slots := 0, locals := 0 } : Room) [.ref b110, .int (1 : Int32), .long p3] ((b110, oLS (.int 0) (.int 0) .null (.int 0) (.int 0) (.ref b111) (.ref b112) (.ref b142) (.ref b141) (.ref b108) (.ref b109) (.ref b139) (.ref b107) (.ref b106) (.ref b135) (.ref b138) (.ref b134) (.ref b140) .null (.ref b133) (.ref b132) (.ref b131) .null .null .null .null .null .null .null) :: (b107, .inr (.int, [.int 0, .int 1])) :: (b140, .inr (.int, [.int 0, .int 1, .int 4])) :: (b131, .inr (.int, [.int 0, .int 2])) :: (b142, .inr (.int, [.int 0, .int 2])) :: (b141, .inr (.long, [.long 0, .long xx1])) :: (b108, .inr (.long, [.long hi, .long mid, .long lo, .long p0])) :: (b133, .inr (.int, [.int 0, .int 0, .int 1, .int 0])) :: (b132, .inr (.long, [.long 0, .long hi, .long mid, .long 0])) :: F) (fun v L' => v = some (.int (Int32.ofNat (1 + own_b hi p3 + own_b mid p3))) ∧ L' = ((b110, oLS (.int 0) (.int 0) .null (.int 0) (.int 0) (.ref b111) (.ref b112) (.ref b142) (.ref b141) (.ref b108) (.ref b109) (.ref b139) (.ref b107) (.ref b106) (.ref b135) (.ref b138) (.ref b134) (.ref b140) .null (.ref b133) (.ref b132) (.ref b131) .null .null .null .null .null .null .null) :: (b107, .inr (.int, [.int 0, .int 1])) :: (b140, .inr (.int, [.int 0, .int 1, .int 4])) :: (b131, .inr (.int, [.int 0, .int 2])) :: (b142, .inr (.int, [.int 0, .int 2])) :: (b141, .inr (.long, [.long 0, .long xx1])) :: (b108, .inr (.long, [.long hi, .long mid, .long lo, .long p0])) :: (b133, .inr (.int, [.int 0, .int 0, .int 1, .int 0])) :: (b132, .inr (.long, [.long 0, .long hi, .long mid, .long 0])) :: F)) := by
  refine Con.of (by decide +kernel) (Ls := #[.val (.ref b110), .val (.int 1), .val (.long p3), .second, .unset, .unset, .unset]) (fun m => by first | rfl | (simp [entryFrame, mkF, argsToLocals, Value.category]; done)) ?_
  intro κ K
  refine s_aloadN K d17_0 (pc' := 1) rfl rfl rfl ?_
  refine s_getf K d17_1 (pc' := 4) rfl (w96 hw) (k := 0) rfl (j := 17) rfl ?_
  refine s_iloadN K d17_4 (pc' := 5) rfl rfl ?_
  refine s_iaload K d17_5 (pc' := 6) rfl (k := 2) rfl (i := 1) (by decide) rfl ?_
  refine s_istore K d17_6 (pc' := 8) rfl (Ls' := #[.val (.ref b110), .val (.int 1), .val (.long p3), .second, .val (.int 1), .unset, .unset]) rfl ?_
  refine s_iload K d17_8 (pc' := 10) rfl rfl ?_
  refine s_aloadN K d17_10 (pc' := 11) rfl rfl rfl ?_
  refine s_getf K d17_11 (pc' := 14) rfl (w138 hw) (k := 0) rfl (j := 21) rfl ?_
  refine s_iloadN K d17_14 (pc' := 15) rfl rfl ?_
  refine s_iaload K d17_15 (pc' := 16) rfl (k := 3) rfl (i := 1) (by decide) rfl ?_
  refine s_iadd K d17_16 (pc' := 17) rfl (z := (3 : Int32)) rfl ?_
  refine s_istore K d17_17 (pc' := 19) rfl (Ls' := #[.val (.ref b110), .val (.int 1), .val (.long p3), .second, .val (.int 1), .val (.int 3), .unset]) rfl ?_
  refine s_iload K d17_19 (pc' := 21) rfl rfl ?_
  refine s_iload K d17_21 (pc' := 23) rfl rfl ?_
  refine s_icN K d17_23 (pc' := 26) rfl rfl ?_
  refine s_iload K d17_26 (pc' := 28) rfl rfl ?_
  refine s_iload K d17_28 (pc' := 30) rfl rfl ?_
  refine s_iadd K d17_30 (pc' := 31) rfl (z := (4 : Int32)) rfl ?_
  refine s_iconst K d17_31 (pc' := 32) rfl (z := (1 : Int32)) rfl ?_
  refine s_iushr K d17_32 (pc' := 33) rfl (z := (2 : Int32)) rfl ?_
  refine s_istore K d17_33 (pc' := 35) rfl (Ls' := #[.val (.ref b110), .val (.int 1), .val (.long p3), .second, .val (.int 1), .val (.int 3), .val (.int 2)]) rfl ?_
  refine s_aloadN K d17_35 (pc' := 36) rfl rfl rfl ?_
  refine s_getf K d17_36 (pc' := 39) rfl (w136 hw) (k := 0) rfl (j := 20) rfl ?_
  refine s_iload K d17_39 (pc' := 41) rfl rfl ?_
  refine s_laload K d17_41 (pc' := 42) rfl (k := 8) rfl (i := 2) (by decide) rfl ?_
  refine s_lloadN K d17_42 (pc' := 43) rfl rfl ?_
  refine s_lcmp K d17_43 (pc' := 44) rfl  ?_
  refine s_if K d17_44 (pn := 47) rfl (by decide) (pc' := 56) (by decide) (fun h1 => ?_) (fun h1 => ?_)
  · have g1 := own_leY h1
    refine s_iload K d17_56 (pc' := 58) rfl rfl ?_
    refine s_istore K d17_58 (pc' := 60) rfl (Ls' := #[.val (.ref b110), .val (.int 1), .val (.long p3), .second, .val (.int 1), .val (.int 2), .val (.int 2)]) rfl ?_
    refine s_goto K d17_60 (by decide) (pc' := 19) (by decide) ?_
    refine s_iload K d17_19 (pc' := 21) rfl rfl ?_
    refine s_iload K d17_21 (pc' := 23) rfl rfl ?_
    refine s_icN K d17_23 (pc' := 26) rfl rfl ?_
    refine s_iload K d17_26 (pc' := 28) rfl rfl ?_
    refine s_iload K d17_28 (pc' := 30) rfl rfl ?_
    refine s_iadd K d17_30 (pc' := 31) rfl (z := (3 : Int32)) rfl ?_
    refine s_iconst K d17_31 (pc' := 32) rfl (z := (1 : Int32)) rfl ?_
    refine s_iushr K d17_32 (pc' := 33) rfl (z := (1 : Int32)) rfl ?_
    refine s_istore K d17_33 (pc' := 35) rfl (Ls' := #[.val (.ref b110), .val (.int 1), .val (.long p3), .second, .val (.int 1), .val (.int 2), .val (.int 1)]) rfl ?_
    refine s_aloadN K d17_35 (pc' := 36) rfl rfl rfl ?_
    refine s_getf K d17_36 (pc' := 39) rfl (w136 hw) (k := 0) rfl (j := 20) rfl ?_
    refine s_iload K d17_39 (pc' := 41) rfl rfl ?_
    refine s_laload K d17_41 (pc' := 42) rfl (k := 8) rfl (i := 1) (by decide) rfl ?_
    refine s_lloadN K d17_42 (pc' := 43) rfl rfl ?_
    refine s_lcmp K d17_43 (pc' := 44) rfl  ?_
    refine s_if K d17_44 (pn := 47) rfl (by decide) (pc' := 56) (by decide) (fun h2 => ?_) (fun h2 => ?_)
    · have g2 := own_leY h2
      refine s_iload K d17_56 (pc' := 58) rfl rfl ?_
      refine s_istore K d17_58 (pc' := 60) rfl (Ls' := #[.val (.ref b110), .val (.int 1), .val (.long p3), .second, .val (.int 1), .val (.int 1), .val (.int 1)]) rfl ?_
      refine s_goto K d17_60 (by decide) (pc' := 19) (by decide) ?_
      refine s_iload K d17_19 (pc' := 21) rfl rfl ?_
      refine s_iload K d17_21 (pc' := 23) rfl rfl ?_
      refine s_icY K d17_23 rfl (by decide) (pc' := 63) (by decide) ?_
      refine s_iload K d17_63 (pc' := 65) rfl rfl ?_
      exact s_ireturn K d17_65 (by decide) (by decide) ⟨by rw [own_b0 (x := hi) (t := p3) (by omega), own_b0 (x := mid) (t := p3) (by omega)]; rfl, rfl⟩
    · have g2 := own_leN h2
      refine s_iload K d17_47 (pc' := 49) rfl rfl ?_
      refine s_iconst K d17_49 (pc' := 50) rfl (z := (1 : Int32)) rfl ?_
      refine s_iadd K d17_50 (pc' := 51) rfl (z := (2 : Int32)) rfl ?_
      refine s_istore K d17_51 (pc' := 53) rfl (Ls' := #[.val (.ref b110), .val (.int 1), .val (.long p3), .second, .val (.int 2), .val (.int 2), .val (.int 1)]) rfl ?_
      refine s_goto K d17_53 (by decide) (pc' := 60) (by decide) ?_
      refine s_goto K d17_60 (by decide) (pc' := 19) (by decide) ?_
      refine s_iload K d17_19 (pc' := 21) rfl rfl ?_
      refine s_iload K d17_21 (pc' := 23) rfl rfl ?_
      refine s_icY K d17_23 rfl (by decide) (pc' := 63) (by decide) ?_
      refine s_iload K d17_63 (pc' := 65) rfl rfl ?_
      exact s_ireturn K d17_65 (by decide) (by decide) ⟨by rw [own_b1 (x := hi) (t := p3) (by omega), own_b0 (x := mid) (t := p3) (by omega)]; rfl, rfl⟩
  · have g1 := own_leN h1
    refine s_iload K d17_47 (pc' := 49) rfl rfl ?_
    refine s_iconst K d17_49 (pc' := 50) rfl (z := (1 : Int32)) rfl ?_
    refine s_iadd K d17_50 (pc' := 51) rfl (z := (3 : Int32)) rfl ?_
    refine s_istore K d17_51 (pc' := 53) rfl (Ls' := #[.val (.ref b110), .val (.int 1), .val (.long p3), .second, .val (.int 3), .val (.int 3), .val (.int 2)]) rfl ?_
    refine s_goto K d17_53 (by decide) (pc' := 60) (by decide) ?_
    refine s_goto K d17_60 (by decide) (pc' := 19) (by decide) ?_
    refine s_iload K d17_19 (pc' := 21) rfl rfl ?_
    refine s_iload K d17_21 (pc' := 23) rfl rfl ?_
    refine s_icY K d17_23 rfl (by decide) (pc' := 63) (by decide) ?_
    refine s_iload K d17_63 (pc' := 65) rfl rfl ?_
    exact s_ireturn K d17_65 (by decide) (by decide) ⟨by rw [own_b1 (x := hi) (t := p3) (by omega), own_b1 (x := mid) (t := p3) (by omega)]; rfl, rfl⟩
set_option maxRecDepth 65536 in
set_option maxHeartbeats 400000000 in
theorem segB_020 {l : Launch} {Z : State} {a0 : Array Value} (hw : HW Z a0) {n0 : Nat} (p0 p1 p2 p3 hi mid lo : Int64) (p4 : Int32) (b110 b107 b140 b131 b142 b141 b108 b133 b132 b101 b109 b111 b112 b139 b106 b135 b138 b134 : Addr) (o1 : mid.toInt ≤ hi.toInt) (o2 : lo.toInt ≤ mid.toInt) (κ : Ctx) (K : Ok Z κ x.cls code maxLocals ret x.name) :
    Go l Z n0 room_1 (fun v _ => v = some (.int 1)) κ 21 83 [(b110, oLS (.int 0) (.int 0) .null (.int 0) (.int 0) (.ref b111) (.ref b112) (.ref b142) (.ref b141) (.ref b108) (.ref b109) (.ref b139) (.ref b107) (.ref b106) (.ref b135) (.ref b138) (.ref b134) (.ref b140) .null (.ref b133) (.ref b132) (.ref b131) .null .null .null .null .null .null .null), (b107, .inr (.int, [.int 0, .int 1])), (b140, .inr (.int, [.int 0, .int 1, .int 4])), (b131, .inr (.int, [.int 0, .int 0])), (b142, .inr (.int, [.int 0, .int 0])), (b141, .inr (.long, [.long 0, .long 0])), (b108, .inr (.long, [.long hi, .long mid, .long lo, .long p0])), (b133, .inr (.int, [.int 0, .int 0, .int 0, .int 0])), (b132, .inr (.long, [.long 0, .long 0, .long 0, .long 0]))] 172 #[.val (.long p0), .second, .val (.long p1), .second, .val (.long p2), .second, .val (.long p3), .second, .val (.int p4), .val (.long hi), .second, .val (.long lo), .second, .val (.long mid), .second, .val (.int 2), .val (.int 0), .val (.int 0), .val (.ref b101), .val (.ref b108), .val (.ref b109), .val (.ref b110), .unset, .unset] [] := by
  refine s_iload K at_172 (pc' := 174) rfl rfl ?_
  refine s_ifY K at_174 rfl (by decide) (pc' := 184) (by decide) ?_
  refine s_iload K at_184 (pc' := 186) rfl rfl ?_
  refine s_iconst K at_186 (pc' := 187) rfl (z := (1 : Int32)) rfl ?_
  refine s_icN K at_187 (pc' := 190) rfl rfl ?_
  refine s_aload K at_190 (pc' := 192) rfl rfl rfl ?_
  refine s_iconst K at_192 (pc' := 193) rfl (z := (1 : Int32)) rfl ?_
  refine s_iconst K at_193 (pc' := 194) rfl (z := (0 : Int32)) rfl ?_
  refine s_virtual K at_194 (pc' := 197) rfl (k := 0) (a := b110) rfl (as := [.int 1, .int 0]) (k13_place hw _ b110 b107 b140 b131 b142 b141 b108 b133 b132 b111 b112 b109 b139 b106 b135 b138 b134 hi mid lo p0) (w154 hw) (w155 hw) (w157 hw) (w156 hw) (w35 hw) (w158 hw) (by decide) pd_0 rfl (rest := []) rfl rfl (W := 0) (Nat.le_of_eq rfl) (by decide) (by decide) (ce' := 21) rfl (sl' := 83) rfl (by decide) (by decide) ?_
  rintro v _ ⟨rfl, rfl⟩
  show Go l Z n0 _ _ κ 21 83 [(b110, oLS (.int 0) (.int 0) .null (.int 0) (.int 0) (.ref b111) (.ref b112) (.ref b142) (.ref b141) (.ref b108) (.ref b109) (.ref b139) (.ref b107) (.ref b106) (.ref b135) (.ref b138) (.ref b134) (.ref b140) .null (.ref b133) (.ref b132) (.ref b131) .null .null .null .null .null .null .null), (b107, .inr (.int, [.int 0, .int 1])), (b140, .inr (.int, [.int 0, .int 1, .int 4])), (b131, .inr (.int, [.int 0, .int 1])), (b142, .inr (.int, [.int 0, .int 1])), (b141, .inr (.long, [.long 0, .long ((0 : Int64) + hi)])), (b108, .inr (.long, [.long hi, .long mid, .long lo, .long p0])), (b133, .inr (.int, [.int 0, .int 0, .int 0, .int 0])), (b132, .inr (.long, [.long 0, .long hi, .long 0, .long 0]))] 197 #[.val (.long p0), .second, .val (.long p1), .second, .val (.long p2), .second, .val (.long p3), .second, .val (.int p4), .val (.long hi), .second, .val (.long lo), .second, .val (.long mid), .second, .val (.int 2), .val (.int 0), .val (.int 0), .val (.ref b101), .val (.ref b108), .val (.ref b109), .val (.ref b110), .unset, .unset] []
  refine s_iload K at_197 (pc' := 199) rfl rfl ?_
  refine s_iconst K at_199 (pc' := 200) rfl (z := (2 : Int32)) rfl ?_
  refine s_icN K at_200 (pc' := 203) rfl rfl ?_
  refine s_aload K at_203 (pc' := 205) rfl rfl rfl ?_
  refine s_iconst K at_205 (pc' := 206) rfl (z := (1 : Int32)) rfl ?_
  refine s_iconst K at_206 (pc' := 207) rfl (z := (1 : Int32)) rfl ?_
  refine s_virtual K at_207 (pc' := 210) rfl (k := 0) (a := b110) rfl (as := [.int 1, .int 1]) (k16_place hw _ b110 b107 b140 b131 b142 b141 b108 b133 b132 b111 b112 b109 b139 b106 b135 b138 b134 hi mid lo p0) (w154 hw) (w155 hw) (w157 hw) (w156 hw) (w35 hw) (w158 hw) (by decide) pd_0 rfl (rest := []) rfl rfl (W := 0) (Nat.le_of_eq rfl) (by decide) (by decide) (ce' := 21) rfl (sl' := 83) rfl (by decide) (by decide) ?_
  rintro v _ ⟨rfl, rfl⟩
  show Go l Z n0 _ _ κ 21 83 [(b110, oLS (.int 0) (.int 0) .null (.int 0) (.int 0) (.ref b111) (.ref b112) (.ref b142) (.ref b141) (.ref b108) (.ref b109) (.ref b139) (.ref b107) (.ref b106) (.ref b135) (.ref b138) (.ref b134) (.ref b140) .null (.ref b133) (.ref b132) (.ref b131) .null .null .null .null .null .null .null), (b107, .inr (.int, [.int 0, .int 1])), (b140, .inr (.int, [.int 0, .int 1, .int 4])), (b131, .inr (.int, [.int 0, .int 2])), (b142, .inr (.int, [.int 0, .int 2])), (b141, .inr (.long, [.long 0, .long (((0 : Int64) + hi) + mid)])), (b108, .inr (.long, [.long hi, .long mid, .long lo, .long p0])), (b133, .inr (.int, [.int 0, .int 0, .int 1, .int 0])), (b132, .inr (.long, [.long 0, .long hi, .long mid, .long 0]))] 210 #[.val (.long p0), .second, .val (.long p1), .second, .val (.long p2), .second, .val (.long p3), .second, .val (.int p4), .val (.long hi), .second, .val (.long lo), .second, .val (.long mid), .second, .val (.int 2), .val (.int 0), .val (.int 0), .val (.ref b101), .val (.ref b108), .val (.ref b109), .val (.ref b110), .unset, .unset] []
  refine s_iload K at_210 (pc' := 212) rfl rfl ?_
  refine s_iconst K at_212 (pc' := 213) rfl (z := (3 : Int32)) rfl ?_
  refine s_icY K at_213 rfl (by decide) (pc' := 223) (by decide) ?_
  refine s_iload K at_223 (pc' := 225) rfl rfl ?_
  refine s_ifY K at_225 rfl (by decide) (pc' := 260) (by decide) ?_
  refine s_aload K at_260 (pc' := 262) rfl rfl rfl ?_
  refine s_iconst K at_262 (pc' := 263) rfl (z := (1 : Int32)) rfl ?_
  refine s_lload K at_263 (pc' := 265) rfl rfl ?_
  refine s_virtual K at_265 (pc' := 268) rfl (k := 0) (a := b110) rfl (as := [.int 1, .long p3]) (first5 hw _ b110 b107 b140 b131 b142 b141 b108 b133 b132 b111 b112 b109 b139 b106 b135 b138 b134 (((0 : Int64) + hi) + mid) hi mid lo p0 p3 o1) (w168 hw) (w169 hw) (w171 hw) (w170 hw) (w35 hw) (w172 hw) (by decide) pd_9 rfl (rest := []) rfl rfl (W := 0) (Nat.le_of_eq rfl) (by decide) (by decide) (ce' := 21) rfl (sl' := 83) rfl (by decide) (by decide) ?_
  rintro v _ ⟨rfl, rfl⟩
  show Go l Z n0 _ _ κ 21 83 [(b110, oLS (.int 0) (.int 0) .null (.int 0) (.int 0) (.ref b111) (.ref b112) (.ref b142) (.ref b141) (.ref b108) (.ref b109) (.ref b139) (.ref b107) (.ref b106) (.ref b135) (.ref b138) (.ref b134) (.ref b140) .null (.ref b133) (.ref b132) (.ref b131) .null .null .null .null .null .null .null), (b107, .inr (.int, [.int 0, .int 1])), (b140, .inr (.int, [.int 0, .int 1, .int 4])), (b131, .inr (.int, [.int 0, .int 2])), (b142, .inr (.int, [.int 0, .int 2])), (b141, .inr (.long, [.long 0, .long (((0 : Int64) + hi) + mid)])), (b108, .inr (.long, [.long hi, .long mid, .long lo, .long p0])), (b133, .inr (.int, [.int 0, .int 0, .int 1, .int 0])), (b132, .inr (.long, [.long 0, .long hi, .long mid, .long 0]))] 268 #[.val (.long p0), .second, .val (.long p1), .second, .val (.long p2), .second, .val (.long p3), .second, .val (.int p4), .val (.long hi), .second, .val (.long lo), .second, .val (.long mid), .second, .val (.int 2), .val (.int 0), .val (.int 0), .val (.ref b101), .val (.ref b108), .val (.ref b109), .val (.ref b110), .unset, .unset] [.int (Int32.ofNat (1 + own_b hi p3 + own_b mid p3))]
  refine s_istore K at_268 (pc' := 270) rfl (Ls' := #[.val (.long p0), .second, .val (.long p1), .second, .val (.long p2), .second, .val (.long p3), .second, .val (.int p4), .val (.long hi), .second, .val (.long lo), .second, .val (.long mid), .second, .val (.int 2), .val (.int 0), .val (.int 0), .val (.ref b101), .val (.ref b108), .val (.ref b109), .val (.ref b110), .val (.int (Int32.ofNat (1 + own_b hi p3 + own_b mid p3))), .unset]) rfl ?_
  refine s_iconst K at_270 (pc' := 271) rfl (z := (1 : Int32)) rfl ?_
  refine s_istore K at_271 (pc' := 273) rfl (Ls' := #[.val (.long p0), .second, .val (.long p1), .second, .val (.long p2), .second, .val (.long p3), .second, .val (.int p4), .val (.long hi), .second, .val (.long lo), .second, .val (.long mid), .second, .val (.int 2), .val (.int 0), .val (.int 0), .val (.ref b101), .val (.ref b108), .val (.ref b109), .val (.ref b110), .val (.int (Int32.ofNat (1 + own_b hi p3 + own_b mid p3))), .val (.int 1)]) rfl ?_
  refine s_iload K at_273 (pc' := 275) rfl rfl ?_
  refine s_iconst K at_275 (pc' := 276) rfl (z := (1 : Int32)) rfl ?_
  refine s_icN K at_276 (pc' := 279) rfl rfl ?_
  refine s_lload K at_279 (pc' := 281) rfl rfl ?_
  refine s_lload K at_281 (pc' := 283) rfl rfl ?_
  refine s_lcmp K at_283 (pc' := 284) rfl  ?_
  refine s_if K at_284 (pn := 287) rfl (by decide) (pc' := 293) (by decide) (fun h1 => ?_) (fun h1 => ?_)
  · have g1 := own_leY h1
    refine s_iload K at_293 (pc' := 295) rfl rfl ?_
    refine s_iconst K at_295 (pc' := 296) rfl (z := (2 : Int32)) rfl ?_
    refine s_icN K at_296 (pc' := 299) rfl rfl ?_
    refine s_lload K at_299 (pc' := 301) rfl rfl ?_
    refine s_lload K at_301 (pc' := 303) rfl rfl ?_
    refine s_lcmp K at_303 (pc' := 304) rfl  ?_
    refine s_if K at_304 (pn := 307) rfl (by decide) (pc' := 313) (by decide) (fun h2 => ?_) (fun h2 => ?_)
    · have g2 := own_leY h2
      refine s_iload K at_313 (pc' := 315) rfl rfl ?_
      refine s_iconst K at_315 (pc' := 316) rfl (z := (3 : Int32)) rfl ?_
      refine s_icY K at_316 rfl (by decide) (pc' := 333) (by decide) ?_
      refine s_iload K at_333 (pc' := 335) rfl rfl ?_
      refine s_iload K at_335 (pc' := 337) rfl rfl ?_
      refine s_icN K at_337 (pc' := 340) rfl (teq (by rw [own_b0 (x := hi) (t := p3) g1, own_b0 (x := mid) (t := p3) g2]; rfl)).2 ?_
      refine s_iconst K at_340 (pc' := 341) rfl (z := (1 : Int32)) rfl ?_
      refine s_goto K at_341 (by decide) (pc' := 345) (by decide) ?_
      exact s_zreturn K at_345 rfl (by decide) (by decide) rfl
    · have g2 := own_leN h2
      refine s_iload K at_307 (pc' := 309) rfl rfl ?_
      refine s_iconst K at_309 (pc' := 310) rfl (z := (1 : Int32)) rfl ?_
      refine s_iadd K at_310 (pc' := 311) rfl (z := (2 : Int32)) rfl ?_
      refine s_istore K at_311 (pc' := 313) rfl (Ls' := #[.val (.long p0), .second, .val (.long p1), .second, .val (.long p2), .second, .val (.long p3), .second, .val (.int p4), .val (.long hi), .second, .val (.long lo), .second, .val (.long mid), .second, .val (.int 2), .val (.int 0), .val (.int 0), .val (.ref b101), .val (.ref b108), .val (.ref b109), .val (.ref b110), .val (.int (Int32.ofNat (1 + own_b hi p3 + own_b mid p3))), .val (.int 2)]) rfl ?_
      refine s_iload K at_313 (pc' := 315) rfl rfl ?_
      refine s_iconst K at_315 (pc' := 316) rfl (z := (3 : Int32)) rfl ?_
      refine s_icY K at_316 rfl (by decide) (pc' := 333) (by decide) ?_
      refine s_iload K at_333 (pc' := 335) rfl rfl ?_
      refine s_iload K at_335 (pc' := 337) rfl rfl ?_
      refine s_icN K at_337 (pc' := 340) rfl (teq (by rw [own_b0 (x := hi) (t := p3) g1, own_b1 (x := mid) (t := p3) g2]; rfl)).2 ?_
      refine s_iconst K at_340 (pc' := 341) rfl (z := (1 : Int32)) rfl ?_
      refine s_goto K at_341 (by decide) (pc' := 345) (by decide) ?_
      exact s_zreturn K at_345 rfl (by decide) (by decide) rfl
  · have g1 := own_leN h1
    refine s_iload K at_287 (pc' := 289) rfl rfl ?_
    refine s_iconst K at_289 (pc' := 290) rfl (z := (1 : Int32)) rfl ?_
    refine s_iadd K at_290 (pc' := 291) rfl (z := (2 : Int32)) rfl ?_
    refine s_istore K at_291 (pc' := 293) rfl (Ls' := #[.val (.long p0), .second, .val (.long p1), .second, .val (.long p2), .second, .val (.long p3), .second, .val (.int p4), .val (.long hi), .second, .val (.long lo), .second, .val (.long mid), .second, .val (.int 2), .val (.int 0), .val (.int 0), .val (.ref b101), .val (.ref b108), .val (.ref b109), .val (.ref b110), .val (.int (Int32.ofNat (1 + own_b hi p3 + own_b mid p3))), .val (.int 2)]) rfl ?_
    refine s_iload K at_293 (pc' := 295) rfl rfl ?_
    refine s_iconst K at_295 (pc' := 296) rfl (z := (2 : Int32)) rfl ?_
    refine s_icN K at_296 (pc' := 299) rfl rfl ?_
    refine s_lload K at_299 (pc' := 301) rfl rfl ?_
    refine s_lload K at_301 (pc' := 303) rfl rfl ?_
    refine s_lcmp K at_303 (pc' := 304) rfl  ?_
    refine s_if K at_304 (pn := 307) rfl (by decide) (pc' := 313) (by decide) (fun h2 => ?_) (fun h2 => ?_)
    · have g2 := own_leY h2
      refine s_iload K at_313 (pc' := 315) rfl rfl ?_
      refine s_iconst K at_315 (pc' := 316) rfl (z := (3 : Int32)) rfl ?_
      refine s_icY K at_316 rfl (by decide) (pc' := 333) (by decide) ?_
      refine s_iload K at_333 (pc' := 335) rfl rfl ?_
      refine s_iload K at_335 (pc' := 337) rfl rfl ?_
      refine s_icN K at_337 (pc' := 340) rfl (teq (by rw [own_b1 (x := hi) (t := p3) g1, own_b0 (x := mid) (t := p3) g2]; rfl)).2 ?_
      refine s_iconst K at_340 (pc' := 341) rfl (z := (1 : Int32)) rfl ?_
      refine s_goto K at_341 (by decide) (pc' := 345) (by decide) ?_
      exact s_zreturn K at_345 rfl (by decide) (by decide) rfl
    · have g2 := own_leN h2
      refine s_iload K at_307 (pc' := 309) rfl rfl ?_
      refine s_iconst K at_309 (pc' := 310) rfl (z := (1 : Int32)) rfl ?_
      refine s_iadd K at_310 (pc' := 311) rfl (z := (3 : Int32)) rfl ?_
      refine s_istore K at_311 (pc' := 313) rfl (Ls' := #[.val (.long p0), .second, .val (.long p1), .second, .val (.long p2), .second, .val (.long p3), .second, .val (.int p4), .val (.long hi), .second, .val (.long lo), .second, .val (.long mid), .second, .val (.int 2), .val (.int 0), .val (.int 0), .val (.ref b101), .val (.ref b108), .val (.ref b109), .val (.ref b110), .val (.int (Int32.ofNat (1 + own_b hi p3 + own_b mid p3))), .val (.int 3)]) rfl ?_
      refine s_iload K at_313 (pc' := 315) rfl rfl ?_
      refine s_iconst K at_315 (pc' := 316) rfl (z := (3 : Int32)) rfl ?_
      refine s_icY K at_316 rfl (by decide) (pc' := 333) (by decide) ?_
      refine s_iload K at_333 (pc' := 335) rfl rfl ?_
      refine s_iload K at_335 (pc' := 337) rfl rfl ?_
      refine s_icN K at_337 (pc' := 340) rfl (teq (by rw [own_b1 (x := hi) (t := p3) g1, own_b1 (x := mid) (t := p3) g2]; rfl)).2 ?_
      refine s_iconst K at_340 (pc' := 341) rfl (z := (1 : Int32)) rfl ?_
      refine s_goto K at_341 (by decide) (pc' := 345) (by decide) ?_
      exact s_zreturn K at_345 rfl (by decide) (by decide) rfl
set_option maxRecDepth 65536 in
set_option maxHeartbeats 400000000 in
theorem first6 {l : Launch} {Z : State} {a0 : Array Value} (hw : HW Z a0) {n0 : Nat} (F : Wd) (b110 b107 b140 b131 b142 b141 b108 b133 b132 b111 b112 b109 b139 b106 b135 b138 b134 : Addr) (xx1 : Int64) (hi : Int64) (mid : Int64) (lo : Int64) (p0 : Int64) (p3 : Int64)  :
    Con l Z n0 (⟨"com/example/evenkeel/evenkeel/LagSeats", "firstAtMost", "(IJ)I"⟩ : MethodName) prog_60_method_33_code 7 (some .int) ({ frames := 0, cells := 0, slots := 0, locals := 0 } : Room) [.ref b110, .int (0 : Int32), .long p3] ((b110, oLS (.int 0) (.int 0) .null (.int 0) (.int 0) (.ref b111) (.ref b112) (.ref b142) (.ref b141) (.ref b108) (.ref b109) (.ref b139) (.ref b107) (.ref b106) (.ref b135) (.ref b138) (.ref b134) (.ref b140) .null (.ref b133) (.ref b132) (.ref b131) .null .null .null .null .null .null .null) :: (b107, .inr (.int, [.int 0, .int 1])) :: (b140, .inr (.int, [.int 0, .int 1, .int 4])) :: (b131, .inr (.int, [.int 0, .int 2])) :: (b142, .inr (.int, [.int 0, .int 2])) :: (b141, .inr (.long, [.long 0, .long xx1])) :: (b108, .inr (.long, [.long hi, .long mid, .long lo, .long p0])) :: (b133, .inr (.int, [.int 0, .int 0, .int 1, .int 0])) :: (b132, .inr (.long, [.long 0, .long hi, .long mid, .long 0])) :: F) (fun v L' => v = some (.int (Int32.ofNat (0))) ∧ L' = ((b110, oLS (.int 0) (.int 0) .null (.int 0) (.int 0) (.ref b111) (.ref b112) (.ref b142) (.ref b141) (.ref b108) (.ref b109) (.ref b139) (.ref b107) (.ref b106) (.ref b135) (.ref b138) (.ref b134) (.ref b140) .null (.ref b133) (.ref b132) (.ref b131) .null .null .null .null .null .null .null) :: (b107, .inr (.int, [.int 0, .int 1])) :: (b140, .inr (.int, [.int 0, .int 1, .int 4])) :: (b131, .inr (.int, [.int 0, .int 2])) :: (b142, .inr (.int, [.int 0, .int 2])) :: (b141, .inr (.long, [.long 0, .long xx1])) :: (b108, .inr (.long, [.long hi, .long mid, .long lo, .long p0])) :: (b133, .inr (.int, [.int 0, .int 0, .int 1, .int 0])) :: (b132, .inr (.long, [.long 0, .long hi, .long mid, .long 0])) :: F)) := by
  refine Con.of (by decide +kernel) (Ls := #[.val (.ref b110), .val (.int 0), .val (.long p3), .second, .unset, .unset, .unset]) (fun m => by first | rfl | (simp [entryFrame, mkF, argsToLocals, Value.category]; done)) ?_
  intro κ K
  refine s_aloadN K d17_0 (pc' := 1) rfl rfl rfl ?_
  refine s_getf K d17_1 (pc' := 4) rfl (w96 hw) (k := 0) rfl (j := 17) rfl ?_
  refine s_iloadN K d17_4 (pc' := 5) rfl rfl ?_
  refine s_iaload K d17_5 (pc' := 6) rfl (k := 2) rfl (i := 0) (by decide) rfl ?_
  refine s_istore K d17_6 (pc' := 8) rfl (Ls' := #[.val (.ref b110), .val (.int 0), .val (.long p3), .second, .val (.int 0), .unset, .unset]) rfl ?_
  refine s_iload K d17_8 (pc' := 10) rfl rfl ?_
  refine s_aloadN K d17_10 (pc' := 11) rfl rfl rfl ?_
  refine s_getf K d17_11 (pc' := 14) rfl (w138 hw) (k := 0) rfl (j := 21) rfl ?_
  refine s_iloadN K d17_14 (pc' := 15) rfl rfl ?_
  refine s_iaload K d17_15 (pc' := 16) rfl (k := 3) rfl (i := 0) (by decide) rfl ?_
  refine s_iadd K d17_16 (pc' := 17) rfl (z := (0 : Int32)) rfl ?_
  refine s_istore K d17_17 (pc' := 19) rfl (Ls' := #[.val (.ref b110), .val (.int 0), .val (.long p3), .second, .val (.int 0), .val (.int 0), .unset]) rfl ?_
  refine s_iload K d17_19 (pc' := 21) rfl rfl ?_
  refine s_iload K d17_21 (pc' := 23) rfl rfl ?_
  refine s_icY K d17_23 rfl (by decide) (pc' := 63) (by decide) ?_
  refine s_iload K d17_63 (pc' := 65) rfl rfl ?_
  exact s_ireturn K d17_65 (by decide) (by decide) ⟨rfl, rfl⟩
set_option maxRecDepth 65536 in
set_option maxHeartbeats 400000000 in
theorem segB_021 {l : Launch} {Z : State} {a0 : Array Value} (hw : HW Z a0) {n0 : Nat} (p0 p1 p2 p3 hi mid lo : Int64) (p4 : Int32) (b110 b107 b140 b131 b142 b141 b108 b133 b132 b101 b109 b111 b112 b139 b106 b135 b138 b134 : Addr) (o1 : mid.toInt ≤ hi.toInt) (o2 : lo.toInt ≤ mid.toInt) (κ : Ctx) (K : Ok Z κ x.cls code maxLocals ret x.name) :
    Go l Z n0 room_1 (fun v _ => v = some (.int 1)) κ 21 83 [(b110, oLS (.int 0) (.int 0) .null (.int 0) (.int 0) (.ref b111) (.ref b112) (.ref b142) (.ref b141) (.ref b108) (.ref b109) (.ref b139) (.ref b107) (.ref b106) (.ref b135) (.ref b138) (.ref b134) (.ref b140) .null (.ref b133) (.ref b132) (.ref b131) .null .null .null .null .null .null .null), (b107, .inr (.int, [.int 0, .int 1])), (b140, .inr (.int, [.int 0, .int 1, .int 4])), (b131, .inr (.int, [.int 0, .int 0])), (b142, .inr (.int, [.int 0, .int 0])), (b141, .inr (.long, [.long 0, .long 0])), (b108, .inr (.long, [.long hi, .long mid, .long lo, .long p0])), (b133, .inr (.int, [.int 0, .int 0, .int 0, .int 0])), (b132, .inr (.long, [.long 0, .long 0, .long 0, .long 0]))] 172 #[.val (.long p0), .second, .val (.long p1), .second, .val (.long p2), .second, .val (.long p3), .second, .val (.int p4), .val (.long hi), .second, .val (.long lo), .second, .val (.long mid), .second, .val (.int 2), .val (.int 1), .val (.int 0), .val (.ref b101), .val (.ref b108), .val (.ref b109), .val (.ref b110), .unset, .unset] [] := by
  refine s_iload K at_172 (pc' := 174) rfl rfl ?_
  refine s_ifY K at_174 rfl (by decide) (pc' := 184) (by decide) ?_
  refine s_iload K at_184 (pc' := 186) rfl rfl ?_
  refine s_iconst K at_186 (pc' := 187) rfl (z := (1 : Int32)) rfl ?_
  refine s_icN K at_187 (pc' := 190) rfl rfl ?_
  refine s_aload K at_190 (pc' := 192) rfl rfl rfl ?_
  refine s_iconst K at_192 (pc' := 193) rfl (z := (1 : Int32)) rfl ?_
  refine s_iconst K at_193 (pc' := 194) rfl (z := (0 : Int32)) rfl ?_
  refine s_virtual K at_194 (pc' := 197) rfl (k := 0) (a := b110) rfl (as := [.int 1, .int 0]) (k13_place hw _ b110 b107 b140 b131 b142 b141 b108 b133 b132 b111 b112 b109 b139 b106 b135 b138 b134 hi mid lo p0) (w154 hw) (w155 hw) (w157 hw) (w156 hw) (w35 hw) (w158 hw) (by decide) pd_0 rfl (rest := []) rfl rfl (W := 0) (Nat.le_of_eq rfl) (by decide) (by decide) (ce' := 21) rfl (sl' := 83) rfl (by decide) (by decide) ?_
  rintro v _ ⟨rfl, rfl⟩
  show Go l Z n0 _ _ κ 21 83 [(b110, oLS (.int 0) (.int 0) .null (.int 0) (.int 0) (.ref b111) (.ref b112) (.ref b142) (.ref b141) (.ref b108) (.ref b109) (.ref b139) (.ref b107) (.ref b106) (.ref b135) (.ref b138) (.ref b134) (.ref b140) .null (.ref b133) (.ref b132) (.ref b131) .null .null .null .null .null .null .null), (b107, .inr (.int, [.int 0, .int 1])), (b140, .inr (.int, [.int 0, .int 1, .int 4])), (b131, .inr (.int, [.int 0, .int 1])), (b142, .inr (.int, [.int 0, .int 1])), (b141, .inr (.long, [.long 0, .long ((0 : Int64) + hi)])), (b108, .inr (.long, [.long hi, .long mid, .long lo, .long p0])), (b133, .inr (.int, [.int 0, .int 0, .int 0, .int 0])), (b132, .inr (.long, [.long 0, .long hi, .long 0, .long 0]))] 197 #[.val (.long p0), .second, .val (.long p1), .second, .val (.long p2), .second, .val (.long p3), .second, .val (.int p4), .val (.long hi), .second, .val (.long lo), .second, .val (.long mid), .second, .val (.int 2), .val (.int 1), .val (.int 0), .val (.ref b101), .val (.ref b108), .val (.ref b109), .val (.ref b110), .unset, .unset] []
  refine s_iload K at_197 (pc' := 199) rfl rfl ?_
  refine s_iconst K at_199 (pc' := 200) rfl (z := (2 : Int32)) rfl ?_
  refine s_icN K at_200 (pc' := 203) rfl rfl ?_
  refine s_aload K at_203 (pc' := 205) rfl rfl rfl ?_
  refine s_iconst K at_205 (pc' := 206) rfl (z := (1 : Int32)) rfl ?_
  refine s_iconst K at_206 (pc' := 207) rfl (z := (1 : Int32)) rfl ?_
  refine s_virtual K at_207 (pc' := 210) rfl (k := 0) (a := b110) rfl (as := [.int 1, .int 1]) (k16_place hw _ b110 b107 b140 b131 b142 b141 b108 b133 b132 b111 b112 b109 b139 b106 b135 b138 b134 hi mid lo p0) (w154 hw) (w155 hw) (w157 hw) (w156 hw) (w35 hw) (w158 hw) (by decide) pd_0 rfl (rest := []) rfl rfl (W := 0) (Nat.le_of_eq rfl) (by decide) (by decide) (ce' := 21) rfl (sl' := 83) rfl (by decide) (by decide) ?_
  rintro v _ ⟨rfl, rfl⟩
  show Go l Z n0 _ _ κ 21 83 [(b110, oLS (.int 0) (.int 0) .null (.int 0) (.int 0) (.ref b111) (.ref b112) (.ref b142) (.ref b141) (.ref b108) (.ref b109) (.ref b139) (.ref b107) (.ref b106) (.ref b135) (.ref b138) (.ref b134) (.ref b140) .null (.ref b133) (.ref b132) (.ref b131) .null .null .null .null .null .null .null), (b107, .inr (.int, [.int 0, .int 1])), (b140, .inr (.int, [.int 0, .int 1, .int 4])), (b131, .inr (.int, [.int 0, .int 2])), (b142, .inr (.int, [.int 0, .int 2])), (b141, .inr (.long, [.long 0, .long (((0 : Int64) + hi) + mid)])), (b108, .inr (.long, [.long hi, .long mid, .long lo, .long p0])), (b133, .inr (.int, [.int 0, .int 0, .int 1, .int 0])), (b132, .inr (.long, [.long 0, .long hi, .long mid, .long 0]))] 210 #[.val (.long p0), .second, .val (.long p1), .second, .val (.long p2), .second, .val (.long p3), .second, .val (.int p4), .val (.long hi), .second, .val (.long lo), .second, .val (.long mid), .second, .val (.int 2), .val (.int 1), .val (.int 0), .val (.ref b101), .val (.ref b108), .val (.ref b109), .val (.ref b110), .unset, .unset] []
  refine s_iload K at_210 (pc' := 212) rfl rfl ?_
  refine s_iconst K at_212 (pc' := 213) rfl (z := (3 : Int32)) rfl ?_
  refine s_icY K at_213 rfl (by decide) (pc' := 223) (by decide) ?_
  refine s_iload K at_223 (pc' := 225) rfl rfl ?_
  refine s_ifN K at_225 (pc' := 228) rfl rfl ?_
  refine s_aload K at_228 (pc' := 230) rfl rfl rfl ?_
  refine s_iconst K at_230 (pc' := 231) rfl (z := (0 : Int32)) rfl ?_
  refine s_lload K at_231 (pc' := 233) rfl rfl ?_
  refine s_virtual K at_233 (pc' := 236) rfl (k := 0) (a := b110) rfl (as := [.int 0, .long p3]) (first6 hw _ b110 b107 b140 b131 b142 b141 b108 b133 b132 b111 b112 b109 b139 b106 b135 b138 b134 (((0 : Int64) + hi) + mid) hi mid lo p0 p3 ) (w168 hw) (w169 hw) (w171 hw) (w170 hw) (w35 hw) (w172 hw) (by decide) pd_9 rfl (rest := []) rfl rfl (W := 0) (Nat.le_of_eq rfl) (by decide) (by decide) (ce' := 21) rfl (sl' := 83) rfl (by decide) (by decide) ?_
  rintro v _ ⟨rfl, rfl⟩
  show Go l Z n0 _ _ κ 21 83 [(b110, oLS (.int 0) (.int 0) .null (.int 0) (.int 0) (.ref b111) (.ref b112) (.ref b142) (.ref b141) (.ref b108) (.ref b109) (.ref b139) (.ref b107) (.ref b106) (.ref b135) (.ref b138) (.ref b134) (.ref b140) .null (.ref b133) (.ref b132) (.ref b131) .null .null .null .null .null .null .null), (b107, .inr (.int, [.int 0, .int 1])), (b140, .inr (.int, [.int 0, .int 1, .int 4])), (b131, .inr (.int, [.int 0, .int 2])), (b142, .inr (.int, [.int 0, .int 2])), (b141, .inr (.long, [.long 0, .long (((0 : Int64) + hi) + mid)])), (b108, .inr (.long, [.long hi, .long mid, .long lo, .long p0])), (b133, .inr (.int, [.int 0, .int 0, .int 1, .int 0])), (b132, .inr (.long, [.long 0, .long hi, .long mid, .long 0]))] 236 #[.val (.long p0), .second, .val (.long p1), .second, .val (.long p2), .second, .val (.long p3), .second, .val (.int p4), .val (.long hi), .second, .val (.long lo), .second, .val (.long mid), .second, .val (.int 2), .val (.int 1), .val (.int 0), .val (.ref b101), .val (.ref b108), .val (.ref b109), .val (.ref b110), .unset, .unset] [.int (Int32.ofNat (0))]
  refine s_istore K at_236 (pc' := 238) rfl (Ls' := #[.val (.long p0), .second, .val (.long p1), .second, .val (.long p2), .second, .val (.long p3), .second, .val (.int p4), .val (.long hi), .second, .val (.long lo), .second, .val (.long mid), .second, .val (.int 2), .val (.int 1), .val (.int 0), .val (.ref b101), .val (.ref b108), .val (.ref b109), .val (.ref b110), .val (.int (Int32.ofNat (0))), .unset]) rfl ?_
  refine s_iload K at_238 (pc' := 240) rfl rfl ?_
  refine s_ifY K at_240 rfl (by decide) (pc' := 254) (by decide) ?_
  refine s_iconst K at_254 (pc' := 255) rfl (z := (0 : Int32)) rfl ?_
  refine s_istore K at_255 (pc' := 257) rfl (Ls' := #[.val (.long p0), .second, .val (.long p1), .second, .val (.long p2), .second, .val (.long p3), .second, .val (.int p4), .val (.long hi), .second, .val (.long lo), .second, .val (.long mid), .second, .val (.int 2), .val (.int 1), .val (.int 0), .val (.ref b101), .val (.ref b108), .val (.ref b109), .val (.ref b110), .val (.int (Int32.ofNat (0))), .val (.int 0)]) rfl ?_
  refine s_goto K at_257 (by decide) (pc' := 333) (by decide) ?_
  refine s_iload K at_333 (pc' := 335) rfl rfl ?_
  refine s_iload K at_335 (pc' := 337) rfl rfl ?_
  refine s_icN K at_337 (pc' := 340) rfl (teq rfl).2 ?_
  refine s_iconst K at_340 (pc' := 341) rfl (z := (1 : Int32)) rfl ?_
  refine s_goto K at_341 (by decide) (pc' := 345) (by decide) ?_
  exact s_zreturn K at_345 rfl (by decide) (by decide) rfl
set_option maxRecDepth 65536 in
set_option maxHeartbeats 400000000 in
theorem k20_take {l : Launch} {Z : State} {a0 : Array Value} (hw : HW Z a0) {n0 : Nat} (F : Wd) (b110 b107 b140 b131 b142 b141 b108 b133 b132 b111 b112 b109 b139 b106 b135 b138 b134 : Addr) (xx1 : Int64) (hi : Int64) (mid : Int64) (lo : Int64) (p0 : Int64) :
    Con l Z n0 (⟨"com/example/evenkeel/evenkeel/LagSeats", "take", "(II)V"⟩ : MethodName) prog_60_method_27_code 3 none ({ frames := 0, cells := 0, slots := 0, locals := 0 } : Room) [.ref b110, .int 1, .int 2] ((b110, oLS (.int 0) (.int 0) .null (.int 0) (.int 0) (.ref b111) (.ref b112) (.ref b142) (.ref b141) (.ref b108) (.ref b109) (.ref b139) (.ref b107) (.ref b106) (.ref b135) (.ref b138) (.ref b134) (.ref b140) .null (.ref b133) (.ref b132) (.ref b131) .null .null .null .null .null .null .null) :: (b107, .inr (.int, [.int 0, .int 1])) :: (b140, .inr (.int, [.int 0, .int 1, .int 4])) :: (b131, .inr (.int, [.int 0, .int 2])) :: (b142, .inr (.int, [.int 0, .int 2])) :: (b141, .inr (.long, [.long 0, .long xx1])) :: (b108, .inr (.long, [.long hi, .long mid, .long lo, .long p0])) :: (b133, .inr (.int, [.int 0, .int 0, .int 1, .int 0])) :: (b132, .inr (.long, [.long 0, .long hi, .long mid, .long 0])) :: F) (fun v L' => v = none ∧ L' = ((b110, oLS (.int 0) (.int 0) .null (.int 0) (.int 0) (.ref b111) (.ref b112) (.ref b142) (.ref b141) (.ref b108) (.ref b109) (.ref b139) (.ref b107) (.ref b106) (.ref b135) (.ref b138) (.ref b134) (.ref b140) .null (.ref b133) (.ref b132) (.ref b131) .null .null .null .null .null .null .null) :: (b107, .inr (.int, [.int 0, .int 1])) :: (b140, .inr (.int, [.int 0, .int 1, .int 4])) :: (b131, .inr (.int, [.int 0, .int 2])) :: (b142, .inr (.int, [.int 0, .int 3])) :: (b141, .inr (.long, [.long 0, .long (xx1 + lo)])) :: (b108, .inr (.long, [.long hi, .long mid, .long lo, .long p0])) :: (b133, .inr (.int, [.int 0, .int 0, .int 1, .int 0])) :: (b132, .inr (.long, [.long 0, .long hi, .long mid, .long 0])) :: F)) := by
  refine Con.of (by decide +kernel) (Ls := #[.val (.ref b110), .val (.int 1), .val (.int 2)]) (fun m => by first | rfl | (simp [entryFrame, mkF, argsToLocals, Value.category]; done)) ?_
  intro κ K
  refine s_aloadN K d15_0 (pc' := 1) rfl rfl rfl ?_
  refine s_getf K d15_1 (pc' := 4) rfl (w40 hw) (k := 0) rfl (j := 0) rfl ?_
  refine s_ifY K d15_4 rfl (by decide) (pc' := 32) (by decide) ?_
  refine s_aloadN K d15_32 (pc' := 33) rfl rfl rfl ?_
  refine s_getf K d15_33 (pc' := 36) rfl (w63 hw) (k := 0) rfl (j := 7) rfl ?_
  refine s_iloadN K d15_36 (pc' := 37) rfl rfl ?_
  refine s_dup2 K d15_37 (pc' := 38) rfl rfl rfl ?_
  refine s_iaload K d15_38 (pc' := 39) rfl (k := 4) rfl (i := 1) (by decide) rfl ?_
  refine s_iconst K d15_39 (pc' := 40) rfl (z := (1 : Int32)) rfl ?_
  refine s_iadd K d15_40 (pc' := 41) rfl (z := (3 : Int32)) rfl ?_
  refine s_iastore K d15_41 (pc' := 42) rfl (k := 4) rfl (i := 1) (by decide) (ltB rfl) (L' := ((b110, oLS (.int 0) (.int 0) .null (.int 0) (.int 0) (.ref b111) (.ref b112) (.ref b142) (.ref b141) (.ref b108) (.ref b109) (.ref b139) (.ref b107) (.ref b106) (.ref b135) (.ref b138) (.ref b134) (.ref b140) .null (.ref b133) (.ref b132) (.ref b131) .null .null .null .null .null .null .null) :: (b107, .inr (.int, [.int 0, .int 1])) :: (b140, .inr (.int, [.int 0, .int 1, .int 4])) :: (b131, .inr (.int, [.int 0, .int 2])) :: (b142, .inr (.int, [.int 0, .int 3])) :: (b141, .inr (.long, [.long 0, .long xx1])) :: (b108, .inr (.long, [.long hi, .long mid, .long lo, .long p0])) :: (b133, .inr (.int, [.int 0, .int 0, .int 1, .int 0])) :: (b132, .inr (.long, [.long 0, .long hi, .long mid, .long 0])) :: F)) rfl ?_
  refine s_aloadN K d15_42 (pc' := 43) rfl rfl rfl ?_
  refine s_getf K d15_43 (pc' := 46) rfl (w71 hw) (k := 0) rfl (j := 8) rfl ?_
  refine s_iloadN K d15_46 (pc' := 47) rfl rfl ?_
  refine s_dup2 K d15_47 (pc' := 48) rfl rfl rfl ?_
  refine s_laload K d15_48 (pc' := 49) rfl (k := 5) rfl (i := 1) (by decide) rfl ?_
  refine s_aloadN K d15_49 (pc' := 50) rfl rfl rfl ?_
  refine s_getf K d15_50 (pc' := 53) rfl (w73 hw) (k := 0) rfl (j := 9) rfl ?_
  refine s_iloadN K d15_53 (pc' := 54) rfl rfl ?_
  refine s_laload K d15_54 (pc' := 55) rfl (k := 6) rfl (i := 2) (by decide) rfl ?_
  refine s_ladd K d15_55 (pc' := 56) rfl (z := xx1 + lo) rfl ?_
  refine s_lastore K d15_56 (pc' := 57) rfl (k := 5) rfl (i := 1) (by decide) (ltB rfl) (L' := ((b110, oLS (.int 0) (.int 0) .null (.int 0) (.int 0) (.ref b111) (.ref b112) (.ref b142) (.ref b141) (.ref b108) (.ref b109) (.ref b139) (.ref b107) (.ref b106) (.ref b135) (.ref b138) (.ref b134) (.ref b140) .null (.ref b133) (.ref b132) (.ref b131) .null .null .null .null .null .null .null) :: (b107, .inr (.int, [.int 0, .int 1])) :: (b140, .inr (.int, [.int 0, .int 1, .int 4])) :: (b131, .inr (.int, [.int 0, .int 2])) :: (b142, .inr (.int, [.int 0, .int 3])) :: (b141, .inr (.long, [.long 0, .long (xx1 + lo)])) :: (b108, .inr (.long, [.long hi, .long mid, .long lo, .long p0])) :: (b133, .inr (.int, [.int 0, .int 0, .int 1, .int 0])) :: (b132, .inr (.long, [.long 0, .long hi, .long mid, .long 0])) :: F)) rfl ?_
  exact s_return K d15_57 (by decide) (by decide) ⟨rfl, rfl⟩
set_option maxRecDepth 65536 in
set_option maxHeartbeats 400000000 in
theorem k21_put {l : Launch} {Z : State} {a0 : Array Value} (hw : HW Z a0) {n0 : Nat} (F : Wd) (b110 b107 b140 b131 b142 b141 b108 b133 b132 b111 b112 b109 b139 b106 b135 b138 b134 : Addr) (xx1 : Int64) (hi : Int64) (mid : Int64) (lo : Int64) (p0 : Int64) :
    Con l Z n0 (⟨"com/example/evenkeel/evenkeel/LagSeats", "put", "(II)V"⟩ : MethodName) prog_60_method_30_code 3 none ({ frames := 0, cells := 0, slots := 0, locals := 0 } : Room) [.ref b110, .int 3, .int 2] ((b110, oLS (.int 0) (.int 0) .null (.int 0) (.int 0) (.ref b111) (.ref b112) (.ref b142) (.ref b141) (.ref b108) (.ref b109) (.ref b139) (.ref b107) (.ref b106) (.ref b135) (.ref b138) (.ref b134) (.ref b140) .null (.ref b133) (.ref b132) (.ref b131) .null .null .null .null .null .null .null) :: (b107, .inr (.int, [.int 0, .int 1])) :: (b140, .inr (.int, [.int 0, .int 1, .int 4])) :: (b131, .inr (.int, [.int 0, .int 3])) :: (b142, .inr (.int, [.int 0, .int 3])) :: (b141, .inr (.long, [.long 0, .long xx1])) :: (b108, .inr (.long, [.long hi, .long mid, .long lo, .long p0])) :: (b133, .inr (.int, [.int 0, .int 0, .int 1, .int 0])) :: (b132, .inr (.long, [.long 0, .long hi, .long mid, .long 0])) :: F) (fun v L' => v = none ∧ L' = ((b110, oLS (.int 0) (.int 0) .null (.int 0) (.int 0) (.ref b111) (.ref b112) (.ref b142) (.ref b141) (.ref b108) (.ref b109) (.ref b139) (.ref b107) (.ref b106) (.ref b135) (.ref b138) (.ref b134) (.ref b140) .null (.ref b133) (.ref b132) (.ref b131) .null .null .null .null .null .null .null) :: (b107, .inr (.int, [.int 0, .int 1])) :: (b140, .inr (.int, [.int 0, .int 1, .int 4])) :: (b131, .inr (.int, [.int 0, .int 3])) :: (b142, .inr (.int, [.int 0, .int 3])) :: (b141, .inr (.long, [.long 0, .long xx1])) :: (b108, .inr (.long, [.long hi, .long mid, .long lo, .long p0])) :: (b133, .inr (.int, [.int 0, .int 0, .int 1, .int 2])) :: (b132, .inr (.long, [.long 0, .long hi, .long mid, .long lo])) :: F)) := by
  refine Con.of (by decide +kernel) (Ls := #[.val (.ref b110), .val (.int 3), .val (.int 2)]) (fun m => by first | rfl | (simp [entryFrame, mkF, argsToLocals, Value.category]; done)) ?_
  intro κ K
  refine s_aloadN K d16_0 (pc' := 1) rfl rfl rfl ?_
  refine s_getf K d16_1 (pc' := 4) rfl (w134 hw) (k := 0) rfl (j := 19) rfl ?_
  refine s_iloadN K d16_4 (pc' := 5) rfl rfl ?_
  refine s_iloadN K d16_5 (pc' := 6) rfl rfl ?_
  refine s_iastore K d16_6 (pc' := 7) rfl (k := 7) rfl (i := 3) (by decide) (ltB rfl) (L' := ((b110, oLS (.int 0) (.int 0) .null (.int 0) (.int 0) (.ref b111) (.ref b112) (.ref b142) (.ref b141) (.ref b108) (.ref b109) (.ref b139) (.ref b107) (.ref b106) (.ref b135) (.ref b138) (.ref b134) (.ref b140) .null (.ref b133) (.ref b132) (.ref b131) .null .null .null .null .null .null .null) :: (b107, .inr (.int, [.int 0, .int 1])) :: (b140, .inr (.int, [.int 0, .int 1, .int 4])) :: (b131, .inr (.int, [.int 0, .int 3])) :: (b142, .inr (.int, [.int 0, .int 3])) :: (b141, .inr (.long, [.long 0, .long xx1])) :: (b108, .inr (.long, [.long hi, .long mid, .long lo, .long p0])) :: (b133, .inr (.int, [.int 0, .int 0, .int 1, .int 2])) :: (b132, .inr (.long, [.long 0, .long hi, .long mid, .long 0])) :: F)) rfl ?_
  refine s_aloadN K d16_7 (pc' := 8) rfl rfl rfl ?_
  refine s_getf K d16_8 (pc' := 11) rfl (w136 hw) (k := 0) rfl (j := 20) rfl ?_
  refine s_iloadN K d16_11 (pc' := 12) rfl rfl ?_
  refine s_aloadN K d16_12 (pc' := 13) rfl rfl rfl ?_
  refine s_getf K d16_13 (pc' := 16) rfl (w73 hw) (k := 0) rfl (j := 9) rfl ?_
  refine s_iloadN K d16_16 (pc' := 17) rfl rfl ?_
  refine s_laload K d16_17 (pc' := 18) rfl (k := 6) rfl (i := 2) (by decide) rfl ?_
  refine s_lastore K d16_18 (pc' := 19) rfl (k := 8) rfl (i := 3) (by decide) (ltB rfl) (L' := ((b110, oLS (.int 0) (.int 0) .null (.int 0) (.int 0) (.ref b111) (.ref b112) (.ref b142) (.ref b141) (.ref b108) (.ref b109) (.ref b139) (.ref b107) (.ref b106) (.ref b135) (.ref b138) (.ref b134) (.ref b140) .null (.ref b133) (.ref b132) (.ref b131) .null .null .null .null .null .null .null) :: (b107, .inr (.int, [.int 0, .int 1])) :: (b140, .inr (.int, [.int 0, .int 1, .int 4])) :: (b131, .inr (.int, [.int 0, .int 3])) :: (b142, .inr (.int, [.int 0, .int 3])) :: (b141, .inr (.long, [.long 0, .long xx1])) :: (b108, .inr (.long, [.long hi, .long mid, .long lo, .long p0])) :: (b133, .inr (.int, [.int 0, .int 0, .int 1, .int 2])) :: (b132, .inr (.long, [.long 0, .long hi, .long mid, .long lo])) :: F)) rfl ?_
  exact s_return K d16_19 (by decide) (by decide) ⟨rfl, rfl⟩
set_option maxRecDepth 65536 in
set_option maxHeartbeats 400000000 in
theorem k19_place {l : Launch} {Z : State} {a0 : Array Value} (hw : HW Z a0) {n0 : Nat} (F : Wd) (b110 b107 b140 b131 b142 b141 b108 b133 b132 b111 b112 b109 b139 b106 b135 b138 b134 : Addr) (xx1 : Int64) (hi : Int64) (mid : Int64) (lo : Int64) (p0 : Int64) :
    Con l Z n0 (⟨"com/example/evenkeel/evenkeel/LagSeats", "place", "(II)V"⟩ : MethodName) prog_60_method_26_code 3 none ({ frames := 1, cells := 0, slots := 0, locals := 14 } : Room) [.ref b110, .int 1, .int 2] ((b110, oLS (.int 0) (.int 0) .null (.int 0) (.int 0) (.ref b111) (.ref b112) (.ref b142) (.ref b141) (.ref b108) (.ref b109) (.ref b139) (.ref b107) (.ref b106) (.ref b135) (.ref b138) (.ref b134) (.ref b140) .null (.ref b133) (.ref b132) (.ref b131) .null .null .null .null .null .null .null) :: (b107, .inr (.int, [.int 0, .int 1])) :: (b140, .inr (.int, [.int 0, .int 1, .int 4])) :: (b131, .inr (.int, [.int 0, .int 2])) :: (b142, .inr (.int, [.int 0, .int 2])) :: (b141, .inr (.long, [.long 0, .long xx1])) :: (b108, .inr (.long, [.long hi, .long mid, .long lo, .long p0])) :: (b133, .inr (.int, [.int 0, .int 0, .int 1, .int 0])) :: (b132, .inr (.long, [.long 0, .long hi, .long mid, .long 0])) :: F) (fun v L' => v = none ∧ L' = ((b110, oLS (.int 0) (.int 0) .null (.int 0) (.int 0) (.ref b111) (.ref b112) (.ref b142) (.ref b141) (.ref b108) (.ref b109) (.ref b139) (.ref b107) (.ref b106) (.ref b135) (.ref b138) (.ref b134) (.ref b140) .null (.ref b133) (.ref b132) (.ref b131) .null .null .null .null .null .null .null) :: (b107, .inr (.int, [.int 0, .int 1])) :: (b140, .inr (.int, [.int 0, .int 1, .int 4])) :: (b131, .inr (.int, [.int 0, .int 3])) :: (b142, .inr (.int, [.int 0, .int 3])) :: (b141, .inr (.long, [.long 0, .long (xx1 + lo)])) :: (b108, .inr (.long, [.long hi, .long mid, .long lo, .long p0])) :: (b133, .inr (.int, [.int 0, .int 0, .int 1, .int 2])) :: (b132, .inr (.long, [.long 0, .long hi, .long mid, .long lo])) :: F)) := by
  refine Con.of (by decide +kernel) (Ls := #[.val (.ref b110), .val (.int 1), .val (.int 2)]) (fun m => by first | rfl | (simp [entryFrame, mkF, argsToLocals, Value.category]; done)) ?_
  intro κ K
  refine s_aloadN K d14_0 (pc' := 1) rfl rfl rfl ?_
  refine s_aloadN K d14_1 (pc' := 2) rfl rfl rfl ?_
  refine s_getf K d14_2 (pc' := 5) rfl (w85 hw) (k := 0) rfl (j := 12) rfl ?_
  refine s_iloadN K d14_5 (pc' := 6) rfl rfl ?_
  refine s_iaload K d14_6 (pc' := 7) rfl (k := 1) rfl (i := 1) (by decide) rfl ?_
  refine s_iloadN K d14_7 (pc' := 8) rfl rfl ?_
  refine s_virtual K d14_8 (pc' := 11) rfl (k := 0) (a := b110) rfl (as := [.int 1, .int 2]) (k20_take hw _ b110 b107 b140 b131 b142 b141 b108 b133 b132 b111 b112 b109 b139 b106 b135 b138 b134 xx1 hi mid lo p0) (w159 hw) (w160 hw) (w162 hw) (w161 hw) (w35 hw) (w163 hw) (by decide) pd_0 rfl (rest := []) rfl rfl (W := 0) (Nat.le_of_eq rfl) (by decide) (by decide) (ce' := 0) rfl (sl' := 0) rfl (by decide) (by decide) ?_
  rintro v _ ⟨rfl, rfl⟩
  show Go l Z n0 _ _ κ 0 0 ((b110, oLS (.int 0) (.int 0) .null (.int 0) (.int 0) (.ref b111) (.ref b112) (.ref b142) (.ref b141) (.ref b108) (.ref b109) (.ref b139) (.ref b107) (.ref b106) (.ref b135) (.ref b138) (.ref b134) (.ref b140) .null (.ref b133) (.ref b132) (.ref b131) .null .null .null .null .null .null .null) :: (b107, .inr (.int, [.int 0, .int 1])) :: (b140, .inr (.int, [.int 0, .int 1, .int 4])) :: (b131, .inr (.int, [.int 0, .int 2])) :: (b142, .inr (.int, [.int 0, .int 3])) :: (b141, .inr (.long, [.long 0, .long (xx1 + lo)])) :: (b108, .inr (.long, [.long hi, .long mid, .long lo, .long p0])) :: (b133, .inr (.int, [.int 0, .int 0, .int 1, .int 0])) :: (b132, .inr (.long, [.long 0, .long hi, .long mid, .long 0])) :: F) 11 #[.val (.ref b110), .val (.int 1), .val (.int 2)] []
  refine s_aloadN K d14_11 (pc' := 12) rfl rfl rfl ?_
  refine s_aloadN K d14_12 (pc' := 13) rfl rfl rfl ?_
  refine s_getf K d14_13 (pc' := 16) rfl (w96 hw) (k := 0) rfl (j := 17) rfl ?_
  refine s_iloadN K d14_16 (pc' := 17) rfl rfl ?_
  refine s_iaload K d14_17 (pc' := 18) rfl (k := 2) rfl (i := 1) (by decide) rfl ?_
  refine s_aloadN K d14_18 (pc' := 19) rfl rfl rfl ?_
  refine s_getf K d14_19 (pc' := 22) rfl (w138 hw) (k := 0) rfl (j := 21) rfl ?_
  refine s_iloadN K d14_22 (pc' := 23) rfl rfl ?_
  refine s_dup2 K d14_23 (pc' := 24) rfl rfl rfl ?_
  refine s_iaload K d14_24 (pc' := 25) rfl (k := 3) rfl (i := 1) (by decide) rfl ?_
  refine s_dupx2 K d14_25 (pc' := 26) rfl rfl rfl rfl ?_
  refine s_iconst K d14_26 (pc' := 27) rfl (z := (1 : Int32)) rfl ?_
  refine s_iadd K d14_27 (pc' := 28) rfl (z := (3 : Int32)) rfl ?_
  refine s_iastore K d14_28 (pc' := 29) rfl (k := 3) rfl (i := 1) (by decide) (ltB rfl) (L' := ((b110, oLS (.int 0) (.int 0) .null (.int 0) (.int 0) (.ref b111) (.ref b112) (.ref b142) (.ref b141) (.ref b108) (.ref b109) (.ref b139) (.ref b107) (.ref b106) (.ref b135) (.ref b138) (.ref b134) (.ref b140) .null (.ref b133) (.ref b132) (.ref b131) .null .null .null .null .null .null .null) :: (b107, .inr (.int, [.int 0, .int 1])) :: (b140, .inr (.int, [.int 0, .int 1, .int 4])) :: (b131, .inr (.int, [.int 0, .int 3])) :: (b142, .inr (.int, [.int 0, .int 3])) :: (b141, .inr (.long, [.long 0, .long (xx1 + lo)])) :: (b108, .inr (.long, [.long hi, .long mid, .long lo, .long p0])) :: (b133, .inr (.int, [.int 0, .int 0, .int 1, .int 0])) :: (b132, .inr (.long, [.long 0, .long hi, .long mid, .long 0])) :: F)) rfl ?_
  refine s_iadd K d14_29 (pc' := 30) rfl (z := (3 : Int32)) rfl ?_
  refine s_iloadN K d14_30 (pc' := 31) rfl rfl ?_
  refine s_private K d14_31 (pc' := 34) rfl (k := 0) (a := b110) rfl (as := [.int 3, .int 2]) (k21_put hw _ b110 b107 b140 b131 b142 b141 b108 b133 b132 b111 b112 b109 b139 b106 b135 b138 b134 (xx1 + lo) hi mid lo p0) (w164 hw) (w157 hw) rfl (w165 hw) (w166 hw) (w35 hw) (w167 hw) (by decide) pd_0 rfl (rest := []) rfl rfl (W := 0) (Nat.le_of_eq rfl) (by decide) (by decide) (ce' := 0) rfl (sl' := 0) rfl (by decide) (by decide) ?_
  rintro v _ ⟨rfl, rfl⟩
  show Go l Z n0 _ _ κ 0 0 ((b110, oLS (.int 0) (.int 0) .null (.int 0) (.int 0) (.ref b111) (.ref b112) (.ref b142) (.ref b141) (.ref b108) (.ref b109) (.ref b139) (.ref b107) (.ref b106) (.ref b135) (.ref b138) (.ref b134) (.ref b140) .null (.ref b133) (.ref b132) (.ref b131) .null .null .null .null .null .null .null) :: (b107, .inr (.int, [.int 0, .int 1])) :: (b140, .inr (.int, [.int 0, .int 1, .int 4])) :: (b131, .inr (.int, [.int 0, .int 3])) :: (b142, .inr (.int, [.int 0, .int 3])) :: (b141, .inr (.long, [.long 0, .long (xx1 + lo)])) :: (b108, .inr (.long, [.long hi, .long mid, .long lo, .long p0])) :: (b133, .inr (.int, [.int 0, .int 0, .int 1, .int 2])) :: (b132, .inr (.long, [.long 0, .long hi, .long mid, .long lo])) :: F) 34 #[.val (.ref b110), .val (.int 1), .val (.int 2)] []
  refine s_aloadN K d14_34 (pc' := 35) rfl rfl rfl ?_
  refine s_getf K d14_35 (pc' := 38) rfl (w140 hw) (k := 0) rfl (j := 22) rfl ?_
  refine s_nullY K d14_38 (by decide) (pc' := 47) (by decide) ?_
  exact s_return K d14_47 (by decide) (by decide) ⟨rfl, rfl⟩
set_option maxRecDepth 65536 in
set_option maxHeartbeats 400000000 in
theorem first7 {l : Launch} {Z : State} {a0 : Array Value} (hw : HW Z a0) {n0 : Nat} (F : Wd) (b110 b107 b140 b131 b142 b141 b108 b133 b132 b111 b112 b109 b139 b106 b135 b138 b134 : Addr) (xx1 : Int64) (hi : Int64) (mid : Int64) (lo : Int64) (p0 : Int64) (p3 : Int64) (o0 : mid.toInt ≤ hi.toInt) (o1 : lo.toInt ≤ mid.toInt) :
    Con l Z n0 (⟨"com/example/evenkeel/evenkeel/LagSeats", "firstAtMost", "(IJ)I"⟩ : MethodName) prog_60_method_33_code 7 (some .int) ({ frames := 0, cells := 0, slots := 0, locals := 0 } : Room) [.ref b110, .int (1 : Int32), .long p3] ((b110, oLS (.int 0) (.int 0) .null (.int 0) (.int 0) (.ref b111) (.ref b112) (.ref b142) (.ref b141) (.ref b108) (.ref b109) (.ref b139) (.ref b107) (.ref b106) (.ref b135) (.ref b138) (.ref b134) (.ref b140) .null (.ref b133) (.ref b132) (.ref b131) .null .null .null .null .null .null .null) :: (b107, .inr (.int, [.int 0, .int 1])) :: (b140, .inr (.int, [.int 0, .int 1, .int 4])) :: (b131, .inr (.int, [.int 0, .int 3])) :: (b142, .inr (.int, [.int 0, .int 3])) :: (b141, .inr (.long, [.long 0, .long xx1])) :: (b108, .inr (.long, [.long hi, .long mid, .long lo, .long p0])) :: (b133, .inr (.int, [.int 0, .int 0, .int 1, .int 2])) :: (b132, .inr (.long, [.long 0, .long hi, .long mid, .long lo])) :: F) (fun v L' => v = some (.int (Int32.ofNat (1 + own_b hi p3 + own_b mid p3 + own_b lo p3))) ∧ L' = ((b110, oLS (.int 0) (.int 0) .null (.int 0) (.int 0) (.ref b111) (.ref b112) (.ref b142) (.ref b141) (.ref b108) (.ref b109) (.ref b139) (.ref b107) (.ref b106) (.ref b135) (.ref b138) (.ref b134) (.ref b140) .null (.ref b133) (.ref b132) (.ref b131) .null .null .null .null .null .null .null) :: (b107, .inr (.int, [.int 0, .int 1])) :: (b140, .inr (.int, [.int 0, .int 1, .int 4])) :: (b131, .inr (.int, [.int 0, .int 3])) :: (b142, .inr (.int, [.int 0, .int 3])) :: (b141, .inr (.long, [.long 0, .long xx1])) :: (b108, .inr (.long, [.long hi, .long mid, .long lo, .long p0])) :: (b133, .inr (.int, [.int 0, .int 0, .int 1, .int 2])) :: (b132, .inr (.long, [.long 0, .long hi, .long mid, .long lo])) :: F)) := by
  refine Con.of (by decide +kernel) (Ls := #[.val (.ref b110), .val (.int 1), .val (.long p3), .second, .unset, .unset, .unset]) (fun m => by first | rfl | (simp [entryFrame, mkF, argsToLocals, Value.category]; done)) ?_
  intro κ K
  refine s_aloadN K d17_0 (pc' := 1) rfl rfl rfl ?_
  refine s_getf K d17_1 (pc' := 4) rfl (w96 hw) (k := 0) rfl (j := 17) rfl ?_
  refine s_iloadN K d17_4 (pc' := 5) rfl rfl ?_
  refine s_iaload K d17_5 (pc' := 6) rfl (k := 2) rfl (i := 1) (by decide) rfl ?_
  refine s_istore K d17_6 (pc' := 8) rfl (Ls' := #[.val (.ref b110), .val (.int 1), .val (.long p3), .second, .val (.int 1), .unset, .unset]) rfl ?_
  refine s_iload K d17_8 (pc' := 10) rfl rfl ?_
  refine s_aloadN K d17_10 (pc' := 11) rfl rfl rfl ?_
  refine s_getf K d17_11 (pc' := 14) rfl (w138 hw) (k := 0) rfl (j := 21) rfl ?_
  refine s_iloadN K d17_14 (pc' := 15) rfl rfl ?_
  refine s_iaload K d17_15 (pc' := 16) rfl (k := 3) rfl (i := 1) (by decide) rfl ?_
  refine s_iadd K d17_16 (pc' := 17) rfl (z := (4 : Int32)) rfl ?_
  refine s_istore K d17_17 (pc' := 19) rfl (Ls' := #[.val (.ref b110), .val (.int 1), .val (.long p3), .second, .val (.int 1), .val (.int 4), .unset]) rfl ?_
  refine s_iload K d17_19 (pc' := 21) rfl rfl ?_
  refine s_iload K d17_21 (pc' := 23) rfl rfl ?_
  refine s_icN K d17_23 (pc' := 26) rfl rfl ?_
  refine s_iload K d17_26 (pc' := 28) rfl rfl ?_
  refine s_iload K d17_28 (pc' := 30) rfl rfl ?_
  refine s_iadd K d17_30 (pc' := 31) rfl (z := (5 : Int32)) rfl ?_
  refine s_iconst K d17_31 (pc' := 32) rfl (z := (1 : Int32)) rfl ?_
  refine s_iushr K d17_32 (pc' := 33) rfl (z := (2 : Int32)) rfl ?_
  refine s_istore K d17_33 (pc' := 35) rfl (Ls' := #[.val (.ref b110), .val (.int 1), .val (.long p3), .second, .val (.int 1), .val (.int 4), .val (.int 2)]) rfl ?_
  refine s_aloadN K d17_35 (pc' := 36) rfl rfl rfl ?_
  refine s_getf K d17_36 (pc' := 39) rfl (w136 hw) (k := 0) rfl (j := 20) rfl ?_
  refine s_iload K d17_39 (pc' := 41) rfl rfl ?_
  refine s_laload K d17_41 (pc' := 42) rfl (k := 8) rfl (i := 2) (by decide) rfl ?_
  refine s_lloadN K d17_42 (pc' := 43) rfl rfl ?_
  refine s_lcmp K d17_43 (pc' := 44) rfl  ?_
  refine s_if K d17_44 (pn := 47) rfl (by decide) (pc' := 56) (by decide) (fun h1 => ?_) (fun h1 => ?_)
  · have g1 := own_leY h1
    refine s_iload K d17_56 (pc' := 58) rfl rfl ?_
    refine s_istore K d17_58 (pc' := 60) rfl (Ls' := #[.val (.ref b110), .val (.int 1), .val (.long p3), .second, .val (.int 1), .val (.int 2), .val (.int 2)]) rfl ?_
    refine s_goto K d17_60 (by decide) (pc' := 19) (by decide) ?_
    refine s_iload K d17_19 (pc' := 21) rfl rfl ?_
    refine s_iload K d17_21 (pc' := 23) rfl rfl ?_
    refine s_icN K d17_23 (pc' := 26) rfl rfl ?_
    refine s_iload K d17_26 (pc' := 28) rfl rfl ?_
    refine s_iload K d17_28 (pc' := 30) rfl rfl ?_
    refine s_iadd K d17_30 (pc' := 31) rfl (z := (3 : Int32)) rfl ?_
    refine s_iconst K d17_31 (pc' := 32) rfl (z := (1 : Int32)) rfl ?_
    refine s_iushr K d17_32 (pc' := 33) rfl (z := (1 : Int32)) rfl ?_
    refine s_istore K d17_33 (pc' := 35) rfl (Ls' := #[.val (.ref b110), .val (.int 1), .val (.long p3), .second, .val (.int 1), .val (.int 2), .val (.int 1)]) rfl ?_
    refine s_aloadN K d17_35 (pc' := 36) rfl rfl rfl ?_
    refine s_getf K d17_36 (pc' := 39) rfl (w136 hw) (k := 0) rfl (j := 20) rfl ?_
    refine s_iload K d17_39 (pc' := 41) rfl rfl ?_
    refine s_laload K d17_41 (pc' := 42) rfl (k := 8) rfl (i := 1) (by decide) rfl ?_
    refine s_lloadN K d17_42 (pc' := 43) rfl rfl ?_
    refine s_lcmp K d17_43 (pc' := 44) rfl  ?_
    refine s_if K d17_44 (pn := 47) rfl (by decide) (pc' := 56) (by decide) (fun h2 => ?_) (fun h2 => ?_)
    · have g2 := own_leY h2
      refine s_iload K d17_56 (pc' := 58) rfl rfl ?_
      refine s_istore K d17_58 (pc' := 60) rfl (Ls' := #[.val (.ref b110), .val (.int 1), .val (.long p3), .second, .val (.int 1), .val (.int 1), .val (.int 1)]) rfl ?_
      refine s_goto K d17_60 (by decide) (pc' := 19) (by decide) ?_
      refine s_iload K d17_19 (pc' := 21) rfl rfl ?_
      refine s_iload K d17_21 (pc' := 23) rfl rfl ?_
      refine s_icY K d17_23 rfl (by decide) (pc' := 63) (by decide) ?_
      refine s_iload K d17_63 (pc' := 65) rfl rfl ?_
      exact s_ireturn K d17_65 (by decide) (by decide) ⟨by rw [own_b0 (x := hi) (t := p3) (by omega), own_b0 (x := mid) (t := p3) (by omega), own_b0 (x := lo) (t := p3) (by omega)]; rfl, rfl⟩
    · have g2 := own_leN h2
      refine s_iload K d17_47 (pc' := 49) rfl rfl ?_
      refine s_iconst K d17_49 (pc' := 50) rfl (z := (1 : Int32)) rfl ?_
      refine s_iadd K d17_50 (pc' := 51) rfl (z := (2 : Int32)) rfl ?_
      refine s_istore K d17_51 (pc' := 53) rfl (Ls' := #[.val (.ref b110), .val (.int 1), .val (.long p3), .second, .val (.int 2), .val (.int 2), .val (.int 1)]) rfl ?_
      refine s_goto K d17_53 (by decide) (pc' := 60) (by decide) ?_
      refine s_goto K d17_60 (by decide) (pc' := 19) (by decide) ?_
      refine s_iload K d17_19 (pc' := 21) rfl rfl ?_
      refine s_iload K d17_21 (pc' := 23) rfl rfl ?_
      refine s_icY K d17_23 rfl (by decide) (pc' := 63) (by decide) ?_
      refine s_iload K d17_63 (pc' := 65) rfl rfl ?_
      exact s_ireturn K d17_65 (by decide) (by decide) ⟨by rw [own_b1 (x := hi) (t := p3) (by omega), own_b0 (x := mid) (t := p3) (by omega), own_b0 (x := lo) (t := p3) (by omega)]; rfl, rfl⟩
  · have g1 := own_leN h1
    refine s_iload K d17_47 (pc' := 49) rfl rfl ?_
    refine s_iconst K d17_49 (pc' := 50) rfl (z := (1 : Int32)) rfl ?_
    refine s_iadd K d17_50 (pc' := 51) rfl (z := (3 : Int32)) rfl ?_
    refine s_istore K d17_51 (pc' := 53) rfl (Ls' := #[.val (.ref b110), .val (.int 1), .val (.long p3), .second, .val (.int 3), .val (.int 4), .val (.int 2)]) rfl ?_
    refine s_goto K d17_53 (by decide) (pc' := 60) (by decide) ?_
    refine s_goto K d17_60 (by decide) (pc' := 19) (by decide) ?_
    refine s_iload K d17_19 (pc' := 21) rfl rfl ?_
    refine s_iload K d17_21 (pc' := 23) rfl rfl ?_
    refine s_icN K d17_23 (pc' := 26) rfl rfl ?_
    refine s_iload K d17_26 (pc' := 28) rfl rfl ?_
    refine s_iload K d17_28 (pc' := 30) rfl rfl ?_
    refine s_iadd K d17_30 (pc' := 31) rfl (z := (7 : Int32)) rfl ?_
    refine s_iconst K d17_31 (pc' := 32) rfl (z := (1 : Int32)) rfl ?_
    refine s_iushr K d17_32 (pc' := 33) rfl (z := (3 : Int32)) rfl ?_
    refine s_istore K d17_33 (pc' := 35) rfl (Ls' := #[.val (.ref b110), .val (.int 1), .val (.long p3), .second, .val (.int 3), .val (.int 4), .val (.int 3)]) rfl ?_
    refine s_aloadN K d17_35 (pc' := 36) rfl rfl rfl ?_
    refine s_getf K d17_36 (pc' := 39) rfl (w136 hw) (k := 0) rfl (j := 20) rfl ?_
    refine s_iload K d17_39 (pc' := 41) rfl rfl ?_
    refine s_laload K d17_41 (pc' := 42) rfl (k := 8) rfl (i := 3) (by decide) rfl ?_
    refine s_lloadN K d17_42 (pc' := 43) rfl rfl ?_
    refine s_lcmp K d17_43 (pc' := 44) rfl  ?_
    refine s_if K d17_44 (pn := 47) rfl (by decide) (pc' := 56) (by decide) (fun h2 => ?_) (fun h2 => ?_)
    · have g2 := own_leY h2
      refine s_iload K d17_56 (pc' := 58) rfl rfl ?_
      refine s_istore K d17_58 (pc' := 60) rfl (Ls' := #[.val (.ref b110), .val (.int 1), .val (.long p3), .second, .val (.int 3), .val (.int 3), .val (.int 3)]) rfl ?_
      refine s_goto K d17_60 (by decide) (pc' := 19) (by decide) ?_
      refine s_iload K d17_19 (pc' := 21) rfl rfl ?_
      refine s_iload K d17_21 (pc' := 23) rfl rfl ?_
      refine s_icY K d17_23 rfl (by decide) (pc' := 63) (by decide) ?_
      refine s_iload K d17_63 (pc' := 65) rfl rfl ?_
      exact s_ireturn K d17_65 (by decide) (by decide) ⟨by rw [own_b1 (x := hi) (t := p3) (by omega), own_b1 (x := mid) (t := p3) (by omega), own_b0 (x := lo) (t := p3) (by omega)]; rfl, rfl⟩
    · have g2 := own_leN h2
      refine s_iload K d17_47 (pc' := 49) rfl rfl ?_
      refine s_iconst K d17_49 (pc' := 50) rfl (z := (1 : Int32)) rfl ?_
      refine s_iadd K d17_50 (pc' := 51) rfl (z := (4 : Int32)) rfl ?_
      refine s_istore K d17_51 (pc' := 53) rfl (Ls' := #[.val (.ref b110), .val (.int 1), .val (.long p3), .second, .val (.int 4), .val (.int 4), .val (.int 3)]) rfl ?_
      refine s_goto K d17_53 (by decide) (pc' := 60) (by decide) ?_
      refine s_goto K d17_60 (by decide) (pc' := 19) (by decide) ?_
      refine s_iload K d17_19 (pc' := 21) rfl rfl ?_
      refine s_iload K d17_21 (pc' := 23) rfl rfl ?_
      refine s_icY K d17_23 rfl (by decide) (pc' := 63) (by decide) ?_
      refine s_iload K d17_63 (pc' := 65) rfl rfl ?_
      exact s_ireturn K d17_65 (by decide) (by decide) ⟨by rw [own_b1 (x := hi) (t := p3) (by omega), own_b1 (x := mid) (t := p3) (by omega), own_b1 (x := lo) (t := p3) (by omega)]; rfl, rfl⟩
set_option maxRecDepth 65536 in
set_option maxHeartbeats 400000000 in
theorem segB_030 {l : Launch} {Z : State} {a0 : Array Value} (hw : HW Z a0) {n0 : Nat} (p0 p1 p2 p3 hi mid lo : Int64) (p4 : Int32) (b110 b107 b140 b131 b142 b141 b108 b133 b132 b101 b109 b111 b112 b139 b106 b135 b138 b134 : Addr) (o1 : mid.toInt ≤ hi.toInt) (o2 : lo.toInt ≤ mid.toInt) (κ : Ctx) (K : Ok Z κ x.cls code maxLocals ret x.name) :
    Go l Z n0 room_1 (fun v _ => v = some (.int 1)) κ 21 83 [(b110, oLS (.int 0) (.int 0) .null (.int 0) (.int 0) (.ref b111) (.ref b112) (.ref b142) (.ref b141) (.ref b108) (.ref b109) (.ref b139) (.ref b107) (.ref b106) (.ref b135) (.ref b138) (.ref b134) (.ref b140) .null (.ref b133) (.ref b132) (.ref b131) .null .null .null .null .null .null .null), (b107, .inr (.int, [.int 0, .int 1])), (b140, .inr (.int, [.int 0, .int 1, .int 4])), (b131, .inr (.int, [.int 0, .int 0])), (b142, .inr (.int, [.int 0, .int 0])), (b141, .inr (.long, [.long 0, .long 0])), (b108, .inr (.long, [.long hi, .long mid, .long lo, .long p0])), (b133, .inr (.int, [.int 0, .int 0, .int 0, .int 0])), (b132, .inr (.long, [.long 0, .long 0, .long 0, .long 0]))] 172 #[.val (.long p0), .second, .val (.long p1), .second, .val (.long p2), .second, .val (.long p3), .second, .val (.int p4), .val (.long hi), .second, .val (.long lo), .second, .val (.long mid), .second, .val (.int 3), .val (.int 0), .val (.int 0), .val (.ref b101), .val (.ref b108), .val (.ref b109), .val (.ref b110), .unset, .unset] [] := by
  refine s_iload K at_172 (pc' := 174) rfl rfl ?_
  refine s_ifY K at_174 rfl (by decide) (pc' := 184) (by decide) ?_
  refine s_iload K at_184 (pc' := 186) rfl rfl ?_
  refine s_iconst K at_186 (pc' := 187) rfl (z := (1 : Int32)) rfl ?_
  refine s_icN K at_187 (pc' := 190) rfl rfl ?_
  refine s_aload K at_190 (pc' := 192) rfl rfl rfl ?_
  refine s_iconst K at_192 (pc' := 193) rfl (z := (1 : Int32)) rfl ?_
  refine s_iconst K at_193 (pc' := 194) rfl (z := (0 : Int32)) rfl ?_
  refine s_virtual K at_194 (pc' := 197) rfl (k := 0) (a := b110) rfl (as := [.int 1, .int 0]) (k13_place hw _ b110 b107 b140 b131 b142 b141 b108 b133 b132 b111 b112 b109 b139 b106 b135 b138 b134 hi mid lo p0) (w154 hw) (w155 hw) (w157 hw) (w156 hw) (w35 hw) (w158 hw) (by decide) pd_0 rfl (rest := []) rfl rfl (W := 0) (Nat.le_of_eq rfl) (by decide) (by decide) (ce' := 21) rfl (sl' := 83) rfl (by decide) (by decide) ?_
  rintro v _ ⟨rfl, rfl⟩
  show Go l Z n0 _ _ κ 21 83 [(b110, oLS (.int 0) (.int 0) .null (.int 0) (.int 0) (.ref b111) (.ref b112) (.ref b142) (.ref b141) (.ref b108) (.ref b109) (.ref b139) (.ref b107) (.ref b106) (.ref b135) (.ref b138) (.ref b134) (.ref b140) .null (.ref b133) (.ref b132) (.ref b131) .null .null .null .null .null .null .null), (b107, .inr (.int, [.int 0, .int 1])), (b140, .inr (.int, [.int 0, .int 1, .int 4])), (b131, .inr (.int, [.int 0, .int 1])), (b142, .inr (.int, [.int 0, .int 1])), (b141, .inr (.long, [.long 0, .long ((0 : Int64) + hi)])), (b108, .inr (.long, [.long hi, .long mid, .long lo, .long p0])), (b133, .inr (.int, [.int 0, .int 0, .int 0, .int 0])), (b132, .inr (.long, [.long 0, .long hi, .long 0, .long 0]))] 197 #[.val (.long p0), .second, .val (.long p1), .second, .val (.long p2), .second, .val (.long p3), .second, .val (.int p4), .val (.long hi), .second, .val (.long lo), .second, .val (.long mid), .second, .val (.int 3), .val (.int 0), .val (.int 0), .val (.ref b101), .val (.ref b108), .val (.ref b109), .val (.ref b110), .unset, .unset] []
  refine s_iload K at_197 (pc' := 199) rfl rfl ?_
  refine s_iconst K at_199 (pc' := 200) rfl (z := (2 : Int32)) rfl ?_
  refine s_icN K at_200 (pc' := 203) rfl rfl ?_
  refine s_aload K at_203 (pc' := 205) rfl rfl rfl ?_
  refine s_iconst K at_205 (pc' := 206) rfl (z := (1 : Int32)) rfl ?_
  refine s_iconst K at_206 (pc' := 207) rfl (z := (1 : Int32)) rfl ?_
  refine s_virtual K at_207 (pc' := 210) rfl (k := 0) (a := b110) rfl (as := [.int 1, .int 1]) (k16_place hw _ b110 b107 b140 b131 b142 b141 b108 b133 b132 b111 b112 b109 b139 b106 b135 b138 b134 hi mid lo p0) (w154 hw) (w155 hw) (w157 hw) (w156 hw) (w35 hw) (w158 hw) (by decide) pd_0 rfl (rest := []) rfl rfl (W := 0) (Nat.le_of_eq rfl) (by decide) (by decide) (ce' := 21) rfl (sl' := 83) rfl (by decide) (by decide) ?_
  rintro v _ ⟨rfl, rfl⟩
  show Go l Z n0 _ _ κ 21 83 [(b110, oLS (.int 0) (.int 0) .null (.int 0) (.int 0) (.ref b111) (.ref b112) (.ref b142) (.ref b141) (.ref b108) (.ref b109) (.ref b139) (.ref b107) (.ref b106) (.ref b135) (.ref b138) (.ref b134) (.ref b140) .null (.ref b133) (.ref b132) (.ref b131) .null .null .null .null .null .null .null), (b107, .inr (.int, [.int 0, .int 1])), (b140, .inr (.int, [.int 0, .int 1, .int 4])), (b131, .inr (.int, [.int 0, .int 2])), (b142, .inr (.int, [.int 0, .int 2])), (b141, .inr (.long, [.long 0, .long (((0 : Int64) + hi) + mid)])), (b108, .inr (.long, [.long hi, .long mid, .long lo, .long p0])), (b133, .inr (.int, [.int 0, .int 0, .int 1, .int 0])), (b132, .inr (.long, [.long 0, .long hi, .long mid, .long 0]))] 210 #[.val (.long p0), .second, .val (.long p1), .second, .val (.long p2), .second, .val (.long p3), .second, .val (.int p4), .val (.long hi), .second, .val (.long lo), .second, .val (.long mid), .second, .val (.int 3), .val (.int 0), .val (.int 0), .val (.ref b101), .val (.ref b108), .val (.ref b109), .val (.ref b110), .unset, .unset] []
  refine s_iload K at_210 (pc' := 212) rfl rfl ?_
  refine s_iconst K at_212 (pc' := 213) rfl (z := (3 : Int32)) rfl ?_
  refine s_icN K at_213 (pc' := 216) rfl rfl ?_
  refine s_aload K at_216 (pc' := 218) rfl rfl rfl ?_
  refine s_iconst K at_218 (pc' := 219) rfl (z := (1 : Int32)) rfl ?_
  refine s_iconst K at_219 (pc' := 220) rfl (z := (2 : Int32)) rfl ?_
  refine s_virtual K at_220 (pc' := 223) rfl (k := 0) (a := b110) rfl (as := [.int 1, .int 2]) (k19_place hw _ b110 b107 b140 b131 b142 b141 b108 b133 b132 b111 b112 b109 b139 b106 b135 b138 b134 (((0 : Int64) + hi) + mid) hi mid lo p0) (w154 hw) (w155 hw) (w157 hw) (w156 hw) (w35 hw) (w158 hw) (by decide) pd_0 rfl (rest := []) rfl rfl (W := 0) (Nat.le_of_eq rfl) (by decide) (by decide) (ce' := 21) rfl (sl' := 83) rfl (by decide) (by decide) ?_
  rintro v _ ⟨rfl, rfl⟩
  show Go l Z n0 _ _ κ 21 83 [(b110, oLS (.int 0) (.int 0) .null (.int 0) (.int 0) (.ref b111) (.ref b112) (.ref b142) (.ref b141) (.ref b108) (.ref b109) (.ref b139) (.ref b107) (.ref b106) (.ref b135) (.ref b138) (.ref b134) (.ref b140) .null (.ref b133) (.ref b132) (.ref b131) .null .null .null .null .null .null .null), (b107, .inr (.int, [.int 0, .int 1])), (b140, .inr (.int, [.int 0, .int 1, .int 4])), (b131, .inr (.int, [.int 0, .int 3])), (b142, .inr (.int, [.int 0, .int 3])), (b141, .inr (.long, [.long 0, .long ((((0 : Int64) + hi) + mid) + lo)])), (b108, .inr (.long, [.long hi, .long mid, .long lo, .long p0])), (b133, .inr (.int, [.int 0, .int 0, .int 1, .int 2])), (b132, .inr (.long, [.long 0, .long hi, .long mid, .long lo]))] 223 #[.val (.long p0), .second, .val (.long p1), .second, .val (.long p2), .second, .val (.long p3), .second, .val (.int p4), .val (.long hi), .second, .val (.long lo), .second, .val (.long mid), .second, .val (.int 3), .val (.int 0), .val (.int 0), .val (.ref b101), .val (.ref b108), .val (.ref b109), .val (.ref b110), .unset, .unset] []
  refine s_iload K at_223 (pc' := 225) rfl rfl ?_
  refine s_ifY K at_225 rfl (by decide) (pc' := 260) (by decide) ?_
  refine s_aload K at_260 (pc' := 262) rfl rfl rfl ?_
  refine s_iconst K at_262 (pc' := 263) rfl (z := (1 : Int32)) rfl ?_
  refine s_lload K at_263 (pc' := 265) rfl rfl ?_
  refine s_virtual K at_265 (pc' := 268) rfl (k := 0) (a := b110) rfl (as := [.int 1, .long p3]) (first7 hw _ b110 b107 b140 b131 b142 b141 b108 b133 b132 b111 b112 b109 b139 b106 b135 b138 b134 ((((0 : Int64) + hi) + mid) + lo) hi mid lo p0 p3 o1 o2) (w168 hw) (w169 hw) (w171 hw) (w170 hw) (w35 hw) (w172 hw) (by decide) pd_9 rfl (rest := []) rfl rfl (W := 0) (Nat.le_of_eq rfl) (by decide) (by decide) (ce' := 21) rfl (sl' := 83) rfl (by decide) (by decide) ?_
  rintro v _ ⟨rfl, rfl⟩
  show Go l Z n0 _ _ κ 21 83 [(b110, oLS (.int 0) (.int 0) .null (.int 0) (.int 0) (.ref b111) (.ref b112) (.ref b142) (.ref b141) (.ref b108) (.ref b109) (.ref b139) (.ref b107) (.ref b106) (.ref b135) (.ref b138) (.ref b134) (.ref b140) .null (.ref b133) (.ref b132) (.ref b131) .null .null .null .null .null .null .null), (b107, .inr (.int, [.int 0, .int 1])), (b140, .inr (.int, [.int 0, .int 1, .int 4])), (b131, .inr (.int, [.int 0, .int 3])), (b142, .inr (.int, [.int 0, .int 3])), (b141, .inr (.long, [.long 0, .long ((((0 : Int64) + hi) + mid) + lo)])), (b108, .inr (.long, [.long hi, .long mid, .long lo, .long p0])), (b133, .inr (.int, [.int 0, .int 0, .int 1, .int 2])), (b132, .inr (.long, [.long 0, .long hi, .long mid, .long lo]))] 268 #[.val (.long p0), .second, .val (.long p1), .second, .val (.long p2), .second, .val (.long p3), .second, .val (.int p4), .val (.long hi), .second, .val (.long lo), .second, .val (.long mid), .second, .val (.int 3), .val (.int 0), .val (.int 0), .val (.ref b101), .val (.ref b108), .val (.ref b109), .val (.ref b110), .unset, .unset] [.int (Int32.ofNat (1 + own_b hi p3 + own_b mid p3 + own_b lo p3))]
  refine s_istore K at_268 (pc' := 270) rfl (Ls' := #[.val (.long p0), .second, .val (.long p1), .second, .val (.long p2), .second, .val (.long p3), .second, .val (.int p4), .val (.long hi), .second, .val (.long lo), .second, .val (.long mid), .second, .val (.int 3), .val (.int 0), .val (.int 0), .val (.ref b101), .val (.ref b108), .val (.ref b109), .val (.ref b110), .val (.int (Int32.ofNat (1 + own_b hi p3 + own_b mid p3 + own_b lo p3))), .unset]) rfl ?_
  refine s_iconst K at_270 (pc' := 271) rfl (z := (1 : Int32)) rfl ?_
  refine s_istore K at_271 (pc' := 273) rfl (Ls' := #[.val (.long p0), .second, .val (.long p1), .second, .val (.long p2), .second, .val (.long p3), .second, .val (.int p4), .val (.long hi), .second, .val (.long lo), .second, .val (.long mid), .second, .val (.int 3), .val (.int 0), .val (.int 0), .val (.ref b101), .val (.ref b108), .val (.ref b109), .val (.ref b110), .val (.int (Int32.ofNat (1 + own_b hi p3 + own_b mid p3 + own_b lo p3))), .val (.int 1)]) rfl ?_
  refine s_iload K at_273 (pc' := 275) rfl rfl ?_
  refine s_iconst K at_275 (pc' := 276) rfl (z := (1 : Int32)) rfl ?_
  refine s_icN K at_276 (pc' := 279) rfl rfl ?_
  refine s_lload K at_279 (pc' := 281) rfl rfl ?_
  refine s_lload K at_281 (pc' := 283) rfl rfl ?_
  refine s_lcmp K at_283 (pc' := 284) rfl  ?_
  refine s_if K at_284 (pn := 287) rfl (by decide) (pc' := 293) (by decide) (fun h1 => ?_) (fun h1 => ?_)
  · have g1 := own_leY h1
    refine s_iload K at_293 (pc' := 295) rfl rfl ?_
    refine s_iconst K at_295 (pc' := 296) rfl (z := (2 : Int32)) rfl ?_
    refine s_icN K at_296 (pc' := 299) rfl rfl ?_
    refine s_lload K at_299 (pc' := 301) rfl rfl ?_
    refine s_lload K at_301 (pc' := 303) rfl rfl ?_
    refine s_lcmp K at_303 (pc' := 304) rfl  ?_
    refine s_if K at_304 (pn := 307) rfl (by decide) (pc' := 313) (by decide) (fun h2 => ?_) (fun h2 => ?_)
    · have g2 := own_leY h2
      refine s_iload K at_313 (pc' := 315) rfl rfl ?_
      refine s_iconst K at_315 (pc' := 316) rfl (z := (3 : Int32)) rfl ?_
      refine s_icN K at_316 (pc' := 319) rfl rfl ?_
      refine s_lload K at_319 (pc' := 321) rfl rfl ?_
      refine s_lload K at_321 (pc' := 323) rfl rfl ?_
      refine s_lcmp K at_323 (pc' := 324) rfl  ?_
      refine s_if K at_324 (pn := 327) rfl (by decide) (pc' := 333) (by decide) (fun h3 => ?_) (fun h3 => ?_)
      · have g3 := own_leY h3
        refine s_iload K at_333 (pc' := 335) rfl rfl ?_
        refine s_iload K at_335 (pc' := 337) rfl rfl ?_
        refine s_icN K at_337 (pc' := 340) rfl (teq (by rw [own_b0 (x := hi) (t := p3) g1, own_b0 (x := mid) (t := p3) g2, own_b0 (x := lo) (t := p3) g3]; rfl)).2 ?_
        refine s_iconst K at_340 (pc' := 341) rfl (z := (1 : Int32)) rfl ?_
        refine s_goto K at_341 (by decide) (pc' := 345) (by decide) ?_
        exact s_zreturn K at_345 rfl (by decide) (by decide) rfl
      · have g3 := own_leN h3
        refine s_iload K at_327 (pc' := 329) rfl rfl ?_
        refine s_iconst K at_329 (pc' := 330) rfl (z := (1 : Int32)) rfl ?_
        refine s_iadd K at_330 (pc' := 331) rfl (z := (2 : Int32)) rfl ?_
        refine s_istore K at_331 (pc' := 333) rfl (Ls' := #[.val (.long p0), .second, .val (.long p1), .second, .val (.long p2), .second, .val (.long p3), .second, .val (.int p4), .val (.long hi), .second, .val (.long lo), .second, .val (.long mid), .second, .val (.int 3), .val (.int 0), .val (.int 0), .val (.ref b101), .val (.ref b108), .val (.ref b109), .val (.ref b110), .val (.int (Int32.ofNat (1 + own_b hi p3 + own_b mid p3 + own_b lo p3))), .val (.int 2)]) rfl ?_
        refine s_iload K at_333 (pc' := 335) rfl rfl ?_
        refine s_iload K at_335 (pc' := 337) rfl rfl ?_
        refine s_icN K at_337 (pc' := 340) rfl (teq (by rw [own_b0 (x := hi) (t := p3) g1, own_b0 (x := mid) (t := p3) g2, own_b1 (x := lo) (t := p3) g3]; rfl)).2 ?_
        refine s_iconst K at_340 (pc' := 341) rfl (z := (1 : Int32)) rfl ?_
        refine s_goto K at_341 (by decide) (pc' := 345) (by decide) ?_
        exact s_zreturn K at_345 rfl (by decide) (by decide) rfl
    · have g2 := own_leN h2
      refine s_iload K at_307 (pc' := 309) rfl rfl ?_
      refine s_iconst K at_309 (pc' := 310) rfl (z := (1 : Int32)) rfl ?_
      refine s_iadd K at_310 (pc' := 311) rfl (z := (2 : Int32)) rfl ?_
      refine s_istore K at_311 (pc' := 313) rfl (Ls' := #[.val (.long p0), .second, .val (.long p1), .second, .val (.long p2), .second, .val (.long p3), .second, .val (.int p4), .val (.long hi), .second, .val (.long lo), .second, .val (.long mid), .second, .val (.int 3), .val (.int 0), .val (.int 0), .val (.ref b101), .val (.ref b108), .val (.ref b109), .val (.ref b110), .val (.int (Int32.ofNat (1 + own_b hi p3 + own_b mid p3 + own_b lo p3))), .val (.int 2)]) rfl ?_
      refine s_iload K at_313 (pc' := 315) rfl rfl ?_
      refine s_iconst K at_315 (pc' := 316) rfl (z := (3 : Int32)) rfl ?_
      refine s_icN K at_316 (pc' := 319) rfl rfl ?_
      refine s_lload K at_319 (pc' := 321) rfl rfl ?_
      refine s_lload K at_321 (pc' := 323) rfl rfl ?_
      refine s_lcmp K at_323 (pc' := 324) rfl  ?_
      refine s_if K at_324 (pn := 327) rfl (by decide) (pc' := 333) (by decide) (fun h3 => ?_) (fun h3 => ?_)
      · have g3 := own_leY h3
        refine s_iload K at_333 (pc' := 335) rfl rfl ?_
        refine s_iload K at_335 (pc' := 337) rfl rfl ?_
        refine s_icN K at_337 (pc' := 340) rfl (teq (by rw [own_b0 (x := hi) (t := p3) g1, own_b1 (x := mid) (t := p3) g2, own_b0 (x := lo) (t := p3) g3]; rfl)).2 ?_
        refine s_iconst K at_340 (pc' := 341) rfl (z := (1 : Int32)) rfl ?_
        refine s_goto K at_341 (by decide) (pc' := 345) (by decide) ?_
        exact s_zreturn K at_345 rfl (by decide) (by decide) rfl
      · have g3 := own_leN h3
        refine s_iload K at_327 (pc' := 329) rfl rfl ?_
        refine s_iconst K at_329 (pc' := 330) rfl (z := (1 : Int32)) rfl ?_
        refine s_iadd K at_330 (pc' := 331) rfl (z := (3 : Int32)) rfl ?_
        refine s_istore K at_331 (pc' := 333) rfl (Ls' := #[.val (.long p0), .second, .val (.long p1), .second, .val (.long p2), .second, .val (.long p3), .second, .val (.int p4), .val (.long hi), .second, .val (.long lo), .second, .val (.long mid), .second, .val (.int 3), .val (.int 0), .val (.int 0), .val (.ref b101), .val (.ref b108), .val (.ref b109), .val (.ref b110), .val (.int (Int32.ofNat (1 + own_b hi p3 + own_b mid p3 + own_b lo p3))), .val (.int 3)]) rfl ?_
        refine s_iload K at_333 (pc' := 335) rfl rfl ?_
        refine s_iload K at_335 (pc' := 337) rfl rfl ?_
        refine s_icN K at_337 (pc' := 340) rfl (teq (by rw [own_b0 (x := hi) (t := p3) g1, own_b1 (x := mid) (t := p3) g2, own_b1 (x := lo) (t := p3) g3]; rfl)).2 ?_
        refine s_iconst K at_340 (pc' := 341) rfl (z := (1 : Int32)) rfl ?_
        refine s_goto K at_341 (by decide) (pc' := 345) (by decide) ?_
        exact s_zreturn K at_345 rfl (by decide) (by decide) rfl
  · have g1 := own_leN h1
    refine s_iload K at_287 (pc' := 289) rfl rfl ?_
    refine s_iconst K at_289 (pc' := 290) rfl (z := (1 : Int32)) rfl ?_
    refine s_iadd K at_290 (pc' := 291) rfl (z := (2 : Int32)) rfl ?_
    refine s_istore K at_291 (pc' := 293) rfl (Ls' := #[.val (.long p0), .second, .val (.long p1), .second, .val (.long p2), .second, .val (.long p3), .second, .val (.int p4), .val (.long hi), .second, .val (.long lo), .second, .val (.long mid), .second, .val (.int 3), .val (.int 0), .val (.int 0), .val (.ref b101), .val (.ref b108), .val (.ref b109), .val (.ref b110), .val (.int (Int32.ofNat (1 + own_b hi p3 + own_b mid p3 + own_b lo p3))), .val (.int 2)]) rfl ?_
    refine s_iload K at_293 (pc' := 295) rfl rfl ?_
    refine s_iconst K at_295 (pc' := 296) rfl (z := (2 : Int32)) rfl ?_
    refine s_icN K at_296 (pc' := 299) rfl rfl ?_
    refine s_lload K at_299 (pc' := 301) rfl rfl ?_
    refine s_lload K at_301 (pc' := 303) rfl rfl ?_
    refine s_lcmp K at_303 (pc' := 304) rfl  ?_
    refine s_if K at_304 (pn := 307) rfl (by decide) (pc' := 313) (by decide) (fun h2 => ?_) (fun h2 => ?_)
    · have g2 := own_leY h2
      refine s_iload K at_313 (pc' := 315) rfl rfl ?_
      refine s_iconst K at_315 (pc' := 316) rfl (z := (3 : Int32)) rfl ?_
      refine s_icN K at_316 (pc' := 319) rfl rfl ?_
      refine s_lload K at_319 (pc' := 321) rfl rfl ?_
      refine s_lload K at_321 (pc' := 323) rfl rfl ?_
      refine s_lcmp K at_323 (pc' := 324) rfl  ?_
      refine s_if K at_324 (pn := 327) rfl (by decide) (pc' := 333) (by decide) (fun h3 => ?_) (fun h3 => ?_)
      · have g3 := own_leY h3
        refine s_iload K at_333 (pc' := 335) rfl rfl ?_
        refine s_iload K at_335 (pc' := 337) rfl rfl ?_
        refine s_icN K at_337 (pc' := 340) rfl (teq (by rw [own_b1 (x := hi) (t := p3) g1, own_b0 (x := mid) (t := p3) g2, own_b0 (x := lo) (t := p3) g3]; rfl)).2 ?_
        refine s_iconst K at_340 (pc' := 341) rfl (z := (1 : Int32)) rfl ?_
        refine s_goto K at_341 (by decide) (pc' := 345) (by decide) ?_
        exact s_zreturn K at_345 rfl (by decide) (by decide) rfl
      · have g3 := own_leN h3
        refine s_iload K at_327 (pc' := 329) rfl rfl ?_
        refine s_iconst K at_329 (pc' := 330) rfl (z := (1 : Int32)) rfl ?_
        refine s_iadd K at_330 (pc' := 331) rfl (z := (3 : Int32)) rfl ?_
        refine s_istore K at_331 (pc' := 333) rfl (Ls' := #[.val (.long p0), .second, .val (.long p1), .second, .val (.long p2), .second, .val (.long p3), .second, .val (.int p4), .val (.long hi), .second, .val (.long lo), .second, .val (.long mid), .second, .val (.int 3), .val (.int 0), .val (.int 0), .val (.ref b101), .val (.ref b108), .val (.ref b109), .val (.ref b110), .val (.int (Int32.ofNat (1 + own_b hi p3 + own_b mid p3 + own_b lo p3))), .val (.int 3)]) rfl ?_
        refine s_iload K at_333 (pc' := 335) rfl rfl ?_
        refine s_iload K at_335 (pc' := 337) rfl rfl ?_
        refine s_icN K at_337 (pc' := 340) rfl (teq (by rw [own_b1 (x := hi) (t := p3) g1, own_b0 (x := mid) (t := p3) g2, own_b1 (x := lo) (t := p3) g3]; rfl)).2 ?_
        refine s_iconst K at_340 (pc' := 341) rfl (z := (1 : Int32)) rfl ?_
        refine s_goto K at_341 (by decide) (pc' := 345) (by decide) ?_
        exact s_zreturn K at_345 rfl (by decide) (by decide) rfl
    · have g2 := own_leN h2
      refine s_iload K at_307 (pc' := 309) rfl rfl ?_
      refine s_iconst K at_309 (pc' := 310) rfl (z := (1 : Int32)) rfl ?_
      refine s_iadd K at_310 (pc' := 311) rfl (z := (3 : Int32)) rfl ?_
      refine s_istore K at_311 (pc' := 313) rfl (Ls' := #[.val (.long p0), .second, .val (.long p1), .second, .val (.long p2), .second, .val (.long p3), .second, .val (.int p4), .val (.long hi), .second, .val (.long lo), .second, .val (.long mid), .second, .val (.int 3), .val (.int 0), .val (.int 0), .val (.ref b101), .val (.ref b108), .val (.ref b109), .val (.ref b110), .val (.int (Int32.ofNat (1 + own_b hi p3 + own_b mid p3 + own_b lo p3))), .val (.int 3)]) rfl ?_
      refine s_iload K at_313 (pc' := 315) rfl rfl ?_
      refine s_iconst K at_315 (pc' := 316) rfl (z := (3 : Int32)) rfl ?_
      refine s_icN K at_316 (pc' := 319) rfl rfl ?_
      refine s_lload K at_319 (pc' := 321) rfl rfl ?_
      refine s_lload K at_321 (pc' := 323) rfl rfl ?_
      refine s_lcmp K at_323 (pc' := 324) rfl  ?_
      refine s_if K at_324 (pn := 327) rfl (by decide) (pc' := 333) (by decide) (fun h3 => ?_) (fun h3 => ?_)
      · have g3 := own_leY h3
        refine s_iload K at_333 (pc' := 335) rfl rfl ?_
        refine s_iload K at_335 (pc' := 337) rfl rfl ?_
        refine s_icN K at_337 (pc' := 340) rfl (teq (by rw [own_b1 (x := hi) (t := p3) g1, own_b1 (x := mid) (t := p3) g2, own_b0 (x := lo) (t := p3) g3]; rfl)).2 ?_
        refine s_iconst K at_340 (pc' := 341) rfl (z := (1 : Int32)) rfl ?_
        refine s_goto K at_341 (by decide) (pc' := 345) (by decide) ?_
        exact s_zreturn K at_345 rfl (by decide) (by decide) rfl
      · have g3 := own_leN h3
        refine s_iload K at_327 (pc' := 329) rfl rfl ?_
        refine s_iconst K at_329 (pc' := 330) rfl (z := (1 : Int32)) rfl ?_
        refine s_iadd K at_330 (pc' := 331) rfl (z := (4 : Int32)) rfl ?_
        refine s_istore K at_331 (pc' := 333) rfl (Ls' := #[.val (.long p0), .second, .val (.long p1), .second, .val (.long p2), .second, .val (.long p3), .second, .val (.int p4), .val (.long hi), .second, .val (.long lo), .second, .val (.long mid), .second, .val (.int 3), .val (.int 0), .val (.int 0), .val (.ref b101), .val (.ref b108), .val (.ref b109), .val (.ref b110), .val (.int (Int32.ofNat (1 + own_b hi p3 + own_b mid p3 + own_b lo p3))), .val (.int 4)]) rfl ?_
        refine s_iload K at_333 (pc' := 335) rfl rfl ?_
        refine s_iload K at_335 (pc' := 337) rfl rfl ?_
        refine s_icN K at_337 (pc' := 340) rfl (teq (by rw [own_b1 (x := hi) (t := p3) g1, own_b1 (x := mid) (t := p3) g2, own_b1 (x := lo) (t := p3) g3]; rfl)).2 ?_
        refine s_iconst K at_340 (pc' := 341) rfl (z := (1 : Int32)) rfl ?_
        refine s_goto K at_341 (by decide) (pc' := 345) (by decide) ?_
        exact s_zreturn K at_345 rfl (by decide) (by decide) rfl
set_option maxRecDepth 65536 in
set_option maxHeartbeats 400000000 in
theorem first8 {l : Launch} {Z : State} {a0 : Array Value} (hw : HW Z a0) {n0 : Nat} (F : Wd) (b110 b107 b140 b131 b142 b141 b108 b133 b132 b111 b112 b109 b139 b106 b135 b138 b134 : Addr) (xx1 : Int64) (hi : Int64) (mid : Int64) (lo : Int64) (p0 : Int64) (p3 : Int64)  :
    Con l Z n0 (⟨"com/example/evenkeel/evenkeel/LagSeats", "firstAtMost", "(IJ)I"⟩ : MethodName) prog_60_method_33_code 7 (some .int) ({ frames := 0, cells := 0, slots := 0, locals := 0 } : Room) [.ref b110, .int (0 : Int32), .long p3] ((b110, oLS (.int 0) (.int 0) .null (.int 0) (.int 0) (.ref b111) (.ref b112) (.ref b142) (.ref b141) (.ref b108) (.ref b109) (.ref b139) (.ref b107) (.ref b106) (.ref b135) (.ref b138) (.ref b134) (.ref b140) .null (.ref b133) (.ref b132) (.ref b131) .null .null .null .null .null .null .null) :: (b107, .inr (.int, [.int 0, .int 1])) :: (b140, .inr (.int, [.int 0, .int 1, .int 4])) :: (b131, .inr (.int, [.int 0, .int 3])) :: (b142, .inr (.int, [.int 0, .int 3])) :: (b141, .inr (.long, [.long 0, .long xx1])) :: (b108, .inr (.long, [.long hi, .long mid, .long lo, .long p0])) :: (b133, .inr (.int, [.int 0, .int 0, .int 1, .int 2])) :: (b132, .inr (.long, [.long 0, .long hi, .long mid, .long lo])) :: F) (fun v L' => v = some (.int (Int32.ofNat (0))) ∧ L' = ((b110, oLS (.int 0) (.int 0) .null (.int 0) (.int 0) (.ref b111) (.ref b112) (.ref b142) (.ref b141) (.ref b108) (.ref b109) (.ref b139) (.ref b107) (.ref b106) (.ref b135) (.ref b138) (.ref b134) (.ref b140) .null (.ref b133) (.ref b132) (.ref b131) .null .null .null .null .null .null .null) :: (b107, .inr (.int, [.int 0, .int 1])) :: (b140, .inr (.int, [.int 0, .int 1, .int 4])) :: (b131, .inr (.int, [.int 0, .int 3])) :: (b142, .inr (.int, [.int 0, .int 3])) :: (b141, .inr (.long, [.long 0, .long xx1])) :: (b108, .inr (.long, [.long hi, .long mid, .long lo, .long p0])) :: (b133, .inr (.int, [.int 0, .int 0, .int 1, .int 2])) :: (b132, .inr (.long, [.long 0, .long hi, .long mid, .long lo])) :: F)) := by
  refine Con.of (by decide +kernel) (Ls := #[.val (.ref b110), .val (.int 0), .val (.long p3), .second, .unset, .unset, .unset]) (fun m => by first | rfl | (simp [entryFrame, mkF, argsToLocals, Value.category]; done)) ?_
  intro κ K
  refine s_aloadN K d17_0 (pc' := 1) rfl rfl rfl ?_
  refine s_getf K d17_1 (pc' := 4) rfl (w96 hw) (k := 0) rfl (j := 17) rfl ?_
  refine s_iloadN K d17_4 (pc' := 5) rfl rfl ?_
  refine s_iaload K d17_5 (pc' := 6) rfl (k := 2) rfl (i := 0) (by decide) rfl ?_
  refine s_istore K d17_6 (pc' := 8) rfl (Ls' := #[.val (.ref b110), .val (.int 0), .val (.long p3), .second, .val (.int 0), .unset, .unset]) rfl ?_
  refine s_iload K d17_8 (pc' := 10) rfl rfl ?_
  refine s_aloadN K d17_10 (pc' := 11) rfl rfl rfl ?_
  refine s_getf K d17_11 (pc' := 14) rfl (w138 hw) (k := 0) rfl (j := 21) rfl ?_
  refine s_iloadN K d17_14 (pc' := 15) rfl rfl ?_
  refine s_iaload K d17_15 (pc' := 16) rfl (k := 3) rfl (i := 0) (by decide) rfl ?_
  refine s_iadd K d17_16 (pc' := 17) rfl (z := (0 : Int32)) rfl ?_
  refine s_istore K d17_17 (pc' := 19) rfl (Ls' := #[.val (.ref b110), .val (.int 0), .val (.long p3), .second, .val (.int 0), .val (.int 0), .unset]) rfl ?_
  refine s_iload K d17_19 (pc' := 21) rfl rfl ?_
  refine s_iload K d17_21 (pc' := 23) rfl rfl ?_
  refine s_icY K d17_23 rfl (by decide) (pc' := 63) (by decide) ?_
  refine s_iload K d17_63 (pc' := 65) rfl rfl ?_
  exact s_ireturn K d17_65 (by decide) (by decide) ⟨rfl, rfl⟩
set_option maxRecDepth 65536 in
set_option maxHeartbeats 400000000 in
theorem segB_031 {l : Launch} {Z : State} {a0 : Array Value} (hw : HW Z a0) {n0 : Nat} (p0 p1 p2 p3 hi mid lo : Int64) (p4 : Int32) (b110 b107 b140 b131 b142 b141 b108 b133 b132 b101 b109 b111 b112 b139 b106 b135 b138 b134 : Addr) (o1 : mid.toInt ≤ hi.toInt) (o2 : lo.toInt ≤ mid.toInt) (κ : Ctx) (K : Ok Z κ x.cls code maxLocals ret x.name) :
    Go l Z n0 room_1 (fun v _ => v = some (.int 1)) κ 21 83 [(b110, oLS (.int 0) (.int 0) .null (.int 0) (.int 0) (.ref b111) (.ref b112) (.ref b142) (.ref b141) (.ref b108) (.ref b109) (.ref b139) (.ref b107) (.ref b106) (.ref b135) (.ref b138) (.ref b134) (.ref b140) .null (.ref b133) (.ref b132) (.ref b131) .null .null .null .null .null .null .null), (b107, .inr (.int, [.int 0, .int 1])), (b140, .inr (.int, [.int 0, .int 1, .int 4])), (b131, .inr (.int, [.int 0, .int 0])), (b142, .inr (.int, [.int 0, .int 0])), (b141, .inr (.long, [.long 0, .long 0])), (b108, .inr (.long, [.long hi, .long mid, .long lo, .long p0])), (b133, .inr (.int, [.int 0, .int 0, .int 0, .int 0])), (b132, .inr (.long, [.long 0, .long 0, .long 0, .long 0]))] 172 #[.val (.long p0), .second, .val (.long p1), .second, .val (.long p2), .second, .val (.long p3), .second, .val (.int p4), .val (.long hi), .second, .val (.long lo), .second, .val (.long mid), .second, .val (.int 3), .val (.int 1), .val (.int 0), .val (.ref b101), .val (.ref b108), .val (.ref b109), .val (.ref b110), .unset, .unset] [] := by
  refine s_iload K at_172 (pc' := 174) rfl rfl ?_
  refine s_ifY K at_174 rfl (by decide) (pc' := 184) (by decide) ?_
  refine s_iload K at_184 (pc' := 186) rfl rfl ?_
  refine s_iconst K at_186 (pc' := 187) rfl (z := (1 : Int32)) rfl ?_
  refine s_icN K at_187 (pc' := 190) rfl rfl ?_
  refine s_aload K at_190 (pc' := 192) rfl rfl rfl ?_
  refine s_iconst K at_192 (pc' := 193) rfl (z := (1 : Int32)) rfl ?_
  refine s_iconst K at_193 (pc' := 194) rfl (z := (0 : Int32)) rfl ?_
  refine s_virtual K at_194 (pc' := 197) rfl (k := 0) (a := b110) rfl (as := [.int 1, .int 0]) (k13_place hw _ b110 b107 b140 b131 b142 b141 b108 b133 b132 b111 b112 b109 b139 b106 b135 b138 b134 hi mid lo p0) (w154 hw) (w155 hw) (w157 hw) (w156 hw) (w35 hw) (w158 hw) (by decide) pd_0 rfl (rest := []) rfl rfl (W := 0) (Nat.le_of_eq rfl) (by decide) (by decide) (ce' := 21) rfl (sl' := 83) rfl (by decide) (by decide) ?_
  rintro v _ ⟨rfl, rfl⟩
  show Go l Z n0 _ _ κ 21 83 [(b110, oLS (.int 0) (.int 0) .null (.int 0) (.int 0) (.ref b111) (.ref b112) (.ref b142) (.ref b141) (.ref b108) (.ref b109) (.ref b139) (.ref b107) (.ref b106) (.ref b135) (.ref b138) (.ref b134) (.ref b140) .null (.ref b133) (.ref b132) (.ref b131) .null .null .null .null .null .null .null), (b107, .inr (.int, [.int 0, .int 1])), (b140, .inr (.int, [.int 0, .int 1, .int 4])), (b131, .inr (.int, [.int 0, .int 1])), (b142, .inr (.int, [.int 0, .int 1])), (b141, .inr (.long, [.long 0, .long ((0 : Int64) + hi)])), (b108, .inr (.long, [.long hi, .long mid, .long lo, .long p0])), (b133, .inr (.int, [.int 0, .int 0, .int 0, .int 0])), (b132, .inr (.long, [.long 0, .long hi, .long 0, .long 0]))] 197 #[.val (.long p0), .second, .val (.long p1), .second, .val (.long p2), .second, .val (.long p3), .second, .val (.int p4), .val (.long hi), .second, .val (.long lo), .second, .val (.long mid), .second, .val (.int 3), .val (.int 1), .val (.int 0), .val (.ref b101), .val (.ref b108), .val (.ref b109), .val (.ref b110), .unset, .unset] []
  refine s_iload K at_197 (pc' := 199) rfl rfl ?_
  refine s_iconst K at_199 (pc' := 200) rfl (z := (2 : Int32)) rfl ?_
  refine s_icN K at_200 (pc' := 203) rfl rfl ?_
  refine s_aload K at_203 (pc' := 205) rfl rfl rfl ?_
  refine s_iconst K at_205 (pc' := 206) rfl (z := (1 : Int32)) rfl ?_
  refine s_iconst K at_206 (pc' := 207) rfl (z := (1 : Int32)) rfl ?_
  refine s_virtual K at_207 (pc' := 210) rfl (k := 0) (a := b110) rfl (as := [.int 1, .int 1]) (k16_place hw _ b110 b107 b140 b131 b142 b141 b108 b133 b132 b111 b112 b109 b139 b106 b135 b138 b134 hi mid lo p0) (w154 hw) (w155 hw) (w157 hw) (w156 hw) (w35 hw) (w158 hw) (by decide) pd_0 rfl (rest := []) rfl rfl (W := 0) (Nat.le_of_eq rfl) (by decide) (by decide) (ce' := 21) rfl (sl' := 83) rfl (by decide) (by decide) ?_
  rintro v _ ⟨rfl, rfl⟩
  show Go l Z n0 _ _ κ 21 83 [(b110, oLS (.int 0) (.int 0) .null (.int 0) (.int 0) (.ref b111) (.ref b112) (.ref b142) (.ref b141) (.ref b108) (.ref b109) (.ref b139) (.ref b107) (.ref b106) (.ref b135) (.ref b138) (.ref b134) (.ref b140) .null (.ref b133) (.ref b132) (.ref b131) .null .null .null .null .null .null .null), (b107, .inr (.int, [.int 0, .int 1])), (b140, .inr (.int, [.int 0, .int 1, .int 4])), (b131, .inr (.int, [.int 0, .int 2])), (b142, .inr (.int, [.int 0, .int 2])), (b141, .inr (.long, [.long 0, .long (((0 : Int64) + hi) + mid)])), (b108, .inr (.long, [.long hi, .long mid, .long lo, .long p0])), (b133, .inr (.int, [.int 0, .int 0, .int 1, .int 0])), (b132, .inr (.long, [.long 0, .long hi, .long mid, .long 0]))] 210 #[.val (.long p0), .second, .val (.long p1), .second, .val (.long p2), .second, .val (.long p3), .second, .val (.int p4), .val (.long hi), .second, .val (.long lo), .second, .val (.long mid), .second, .val (.int 3), .val (.int 1), .val (.int 0), .val (.ref b101), .val (.ref b108), .val (.ref b109), .val (.ref b110), .unset, .unset] []
  refine s_iload K at_210 (pc' := 212) rfl rfl ?_
  refine s_iconst K at_212 (pc' := 213) rfl (z := (3 : Int32)) rfl ?_
  refine s_icN K at_213 (pc' := 216) rfl rfl ?_
  refine s_aload K at_216 (pc' := 218) rfl rfl rfl ?_
  refine s_iconst K at_218 (pc' := 219) rfl (z := (1 : Int32)) rfl ?_
  refine s_iconst K at_219 (pc' := 220) rfl (z := (2 : Int32)) rfl ?_
  refine s_virtual K at_220 (pc' := 223) rfl (k := 0) (a := b110) rfl (as := [.int 1, .int 2]) (k19_place hw _ b110 b107 b140 b131 b142 b141 b108 b133 b132 b111 b112 b109 b139 b106 b135 b138 b134 (((0 : Int64) + hi) + mid) hi mid lo p0) (w154 hw) (w155 hw) (w157 hw) (w156 hw) (w35 hw) (w158 hw) (by decide) pd_0 rfl (rest := []) rfl rfl (W := 0) (Nat.le_of_eq rfl) (by decide) (by decide) (ce' := 21) rfl (sl' := 83) rfl (by decide) (by decide) ?_
  rintro v _ ⟨rfl, rfl⟩
  show Go l Z n0 _ _ κ 21 83 [(b110, oLS (.int 0) (.int 0) .null (.int 0) (.int 0) (.ref b111) (.ref b112) (.ref b142) (.ref b141) (.ref b108) (.ref b109) (.ref b139) (.ref b107) (.ref b106) (.ref b135) (.ref b138) (.ref b134) (.ref b140) .null (.ref b133) (.ref b132) (.ref b131) .null .null .null .null .null .null .null), (b107, .inr (.int, [.int 0, .int 1])), (b140, .inr (.int, [.int 0, .int 1, .int 4])), (b131, .inr (.int, [.int 0, .int 3])), (b142, .inr (.int, [.int 0, .int 3])), (b141, .inr (.long, [.long 0, .long ((((0 : Int64) + hi) + mid) + lo)])), (b108, .inr (.long, [.long hi, .long mid, .long lo, .long p0])), (b133, .inr (.int, [.int 0, .int 0, .int 1, .int 2])), (b132, .inr (.long, [.long 0, .long hi, .long mid, .long lo]))] 223 #[.val (.long p0), .second, .val (.long p1), .second, .val (.long p2), .second, .val (.long p3), .second, .val (.int p4), .val (.long hi), .second, .val (.long lo), .second, .val (.long mid), .second, .val (.int 3), .val (.int 1), .val (.int 0), .val (.ref b101), .val (.ref b108), .val (.ref b109), .val (.ref b110), .unset, .unset] []
  refine s_iload K at_223 (pc' := 225) rfl rfl ?_
  refine s_ifN K at_225 (pc' := 228) rfl rfl ?_
  refine s_aload K at_228 (pc' := 230) rfl rfl rfl ?_
  refine s_iconst K at_230 (pc' := 231) rfl (z := (0 : Int32)) rfl ?_
  refine s_lload K at_231 (pc' := 233) rfl rfl ?_
  refine s_virtual K at_233 (pc' := 236) rfl (k := 0) (a := b110) rfl (as := [.int 0, .long p3]) (first8 hw _ b110 b107 b140 b131 b142 b141 b108 b133 b132 b111 b112 b109 b139 b106 b135 b138 b134 ((((0 : Int64) + hi) + mid) + lo) hi mid lo p0 p3 ) (w168 hw) (w169 hw) (w171 hw) (w170 hw) (w35 hw) (w172 hw) (by decide) pd_9 rfl (rest := []) rfl rfl (W := 0) (Nat.le_of_eq rfl) (by decide) (by decide) (ce' := 21) rfl (sl' := 83) rfl (by decide) (by decide) ?_
  rintro v _ ⟨rfl, rfl⟩
  show Go l Z n0 _ _ κ 21 83 [(b110, oLS (.int 0) (.int 0) .null (.int 0) (.int 0) (.ref b111) (.ref b112) (.ref b142) (.ref b141) (.ref b108) (.ref b109) (.ref b139) (.ref b107) (.ref b106) (.ref b135) (.ref b138) (.ref b134) (.ref b140) .null (.ref b133) (.ref b132) (.ref b131) .null .null .null .null .null .null .null), (b107, .inr (.int, [.int 0, .int 1])), (b140, .inr (.int, [.int 0, .int 1, .int 4])), (b131, .inr (.int, [.int 0, .int 3])), (b142, .inr (.int, [.int 0, .int 3])), (b141, .inr (.long, [.long 0, .long ((((0 : Int64) + hi) + mid) + lo)])), (b108, .inr (.long, [.long hi, .long mid, .long lo, .long p0])), (b133, .inr (.int, [.int 0, .int 0, .int 1, .int 2])), (b132, .inr (.long, [.long 0, .long hi, .long mid, .long lo]))] 236 #[.val (.long p0), .second, .val (.long p1), .second, .val (.long p2), .second, .val (.long p3), .second, .val (.int p4), .val (.long hi), .second, .val (.long lo), .second, .val (.long mid), .second, .val (.int 3), .val (.int 1), .val (.int 0), .val (.ref b101), .val (.ref b108), .val (.ref b109), .val (.ref b110), .unset, .unset] [.int (Int32.ofNat (0))]
  refine s_istore K at_236 (pc' := 238) rfl (Ls' := #[.val (.long p0), .second, .val (.long p1), .second, .val (.long p2), .second, .val (.long p3), .second, .val (.int p4), .val (.long hi), .second, .val (.long lo), .second, .val (.long mid), .second, .val (.int 3), .val (.int 1), .val (.int 0), .val (.ref b101), .val (.ref b108), .val (.ref b109), .val (.ref b110), .val (.int (Int32.ofNat (0))), .unset]) rfl ?_
  refine s_iload K at_238 (pc' := 240) rfl rfl ?_
  refine s_ifY K at_240 rfl (by decide) (pc' := 254) (by decide) ?_
  refine s_iconst K at_254 (pc' := 255) rfl (z := (0 : Int32)) rfl ?_
  refine s_istore K at_255 (pc' := 257) rfl (Ls' := #[.val (.long p0), .second, .val (.long p1), .second, .val (.long p2), .second, .val (.long p3), .second, .val (.int p4), .val (.long hi), .second, .val (.long lo), .second, .val (.long mid), .second, .val (.int 3), .val (.int 1), .val (.int 0), .val (.ref b101), .val (.ref b108), .val (.ref b109), .val (.ref b110), .val (.int (Int32.ofNat (0))), .val (.int 0)]) rfl ?_
  refine s_goto K at_257 (by decide) (pc' := 333) (by decide) ?_
  refine s_iload K at_333 (pc' := 335) rfl rfl ?_
  refine s_iload K at_335 (pc' := 337) rfl rfl ?_
  refine s_icN K at_337 (pc' := 340) rfl (teq rfl).2 ?_
  refine s_iconst K at_340 (pc' := 341) rfl (z := (1 : Int32)) rfl ?_
  refine s_goto K at_341 (by decide) (pc' := 345) (by decide) ?_
  exact s_zreturn K at_345 rfl (by decide) (by decide) rfl
set_option maxRecDepth 65536 in
set_option maxHeartbeats 400000000 in
theorem k23_take {l : Launch} {Z : State} {a0 : Array Value} (hw : HW Z a0) {n0 : Nat} (F : Wd) (b110 b107 b140 b131 b142 b141 b108 b133 b132 b111 b112 b109 b139 b106 b135 b138 b134 : Addr) (hi : Int64) (mid : Int64) (lo : Int64) (p0 : Int64) :
    Con l Z n0 (⟨"com/example/evenkeel/evenkeel/LagSeats", "take", "(II)V"⟩ : MethodName) prog_60_method_27_code 3 none ({ frames := 0, cells := 0, slots := 0, locals := 0 } : Room) [.ref b110, .int 0, .int 3] ((b110, oLS (.int 0) (.int 0) .null (.int 0) (.int 0) (.ref b111) (.ref b112) (.ref b142) (.ref b141) (.ref b108) (.ref b109) (.ref b139) (.ref b107) (.ref b106) (.ref b135) (.ref b138) (.ref b134) (.ref b140) .null (.ref b133) (.ref b132) (.ref b131) .null .null .null .null .null .null .null) :: (b107, .inr (.int, [.int 0, .int 1])) :: (b140, .inr (.int, [.int 0, .int 1, .int 4])) :: (b131, .inr (.int, [.int 0, .int 0])) :: (b142, .inr (.int, [.int 0, .int 0])) :: (b141, .inr (.long, [.long 0, .long 0])) :: (b108, .inr (.long, [.long hi, .long mid, .long lo, .long p0])) :: (b133, .inr (.int, [.int 0, .int 0, .int 0, .int 0])) :: (b132, .inr (.long, [.long 0, .long 0, .long 0, .long 0])) :: F) (fun v L' => v = none ∧ L' = ((b110, oLS (.int 0) (.int 0) .null (.int 0) (.int 0) (.ref b111) (.ref b112) (.ref b142) (.ref b141) (.ref b108) (.ref b109) (.ref b139) (.ref b107) (.ref b106) (.ref b135) (.ref b138) (.ref b134) (.ref b140) .null (.ref b133) (.ref b132) (.ref b131) .null .null .null .null .null .null .null) :: (b107, .inr (.int, [.int 0, .int 1])) :: (b140, .inr (.int, [.int 0, .int 1, .int 4])) :: (b131, .inr (.int, [.int 0, .int 0])) :: (b142, .inr (.int, [.int 1, .int 0])) :: (b141, .inr (.long, [.long ((0 : Int64) + p0), .long 0])) :: (b108, .inr (.long, [.long hi, .long mid, .long lo, .long p0])) :: (b133, .inr (.int, [.int 0, .int 0, .int 0, .int 0])) :: (b132, .inr (.long, [.long 0, .long 0, .long 0, .long 0])) :: F)) := by
  refine Con.of (by decide +kernel) (Ls := #[.val (.ref b110), .val (.int 0), .val (.int 3)]) (fun m => by first | rfl | (simp [entryFrame, mkF, argsToLocals, Value.category]; done)) ?_
  intro κ K
  refine s_aloadN K d15_0 (pc' := 1) rfl rfl rfl ?_
  refine s_getf K d15_1 (pc' := 4) rfl (w40 hw) (k := 0) rfl (j := 0) rfl ?_
  refine s_ifY K d15_4 rfl (by decide) (pc' := 32) (by decide) ?_
  refine s_aloadN K d15_32 (pc' := 33) rfl rfl rfl ?_
  refine s_getf K d15_33 (pc' := 36) rfl (w63 hw) (k := 0) rfl (j := 7) rfl ?_
  refine s_iloadN K d15_36 (pc' := 37) rfl rfl ?_
  refine s_dup2 K d15_37 (pc' := 38) rfl rfl rfl ?_
  refine s_iaload K d15_38 (pc' := 39) rfl (k := 4) rfl (i := 0) (by decide) rfl ?_
  refine s_iconst K d15_39 (pc' := 40) rfl (z := (1 : Int32)) rfl ?_
  refine s_iadd K d15_40 (pc' := 41) rfl (z := (1 : Int32)) rfl ?_
  refine s_iastore K d15_41 (pc' := 42) rfl (k := 4) rfl (i := 0) (by decide) (ltB rfl) (L' := ((b110, oLS (.int 0) (.int 0) .null (.int 0) (.int 0) (.ref b111) (.ref b112) (.ref b142) (.ref b141) (.ref b108) (.ref b109) (.ref b139) (.ref b107) (.ref b106) (.ref b135) (.ref b138) (.ref b134) (.ref b140) .null (.ref b133) (.ref b132) (.ref b131) .null .null .null .null .null .null .null) :: (b107, .inr (.int, [.int 0, .int 1])) :: (b140, .inr (.int, [.int 0, .int 1, .int 4])) :: (b131, .inr (.int, [.int 0, .int 0])) :: (b142, .inr (.int, [.int 1, .int 0])) :: (b141, .inr (.long, [.long 0, .long 0])) :: (b108, .inr (.long, [.long hi, .long mid, .long lo, .long p0])) :: (b133, .inr (.int, [.int 0, .int 0, .int 0, .int 0])) :: (b132, .inr (.long, [.long 0, .long 0, .long 0, .long 0])) :: F)) rfl ?_
  refine s_aloadN K d15_42 (pc' := 43) rfl rfl rfl ?_
  refine s_getf K d15_43 (pc' := 46) rfl (w71 hw) (k := 0) rfl (j := 8) rfl ?_
  refine s_iloadN K d15_46 (pc' := 47) rfl rfl ?_
  refine s_dup2 K d15_47 (pc' := 48) rfl rfl rfl ?_
  refine s_laload K d15_48 (pc' := 49) rfl (k := 5) rfl (i := 0) (by decide) rfl ?_
  refine s_aloadN K d15_49 (pc' := 50) rfl rfl rfl ?_
  refine s_getf K d15_50 (pc' := 53) rfl (w73 hw) (k := 0) rfl (j := 9) rfl ?_
  refine s_iloadN K d15_53 (pc' := 54) rfl rfl ?_
  refine s_laload K d15_54 (pc' := 55) rfl (k := 6) rfl (i := 3) (by decide) rfl ?_
  refine s_ladd K d15_55 (pc' := 56) rfl (z := (0 : Int64) + p0) rfl ?_
  refine s_lastore K d15_56 (pc' := 57) rfl (k := 5) rfl (i := 0) (by decide) (ltB rfl) (L' := ((b110, oLS (.int 0) (.int 0) .null (.int 0) (.int 0) (.ref b111) (.ref b112) (.ref b142) (.ref b141) (.ref b108) (.ref b109) (.ref b139) (.ref b107) (.ref b106) (.ref b135) (.ref b138) (.ref b134) (.ref b140) .null (.ref b133) (.ref b132) (.ref b131) .null .null .null .null .null .null .null) :: (b107, .inr (.int, [.int 0, .int 1])) :: (b140, .inr (.int, [.int 0, .int 1, .int 4])) :: (b131, .inr (.int, [.int 0, .int 0])) :: (b142, .inr (.int, [.int 1, .int 0])) :: (b141, .inr (.long, [.long ((0 : Int64) + p0), .long 0])) :: (b108, .inr (.long, [.long hi, .long mid, .long lo, .long p0])) :: (b133, .inr (.int, [.int 0, .int 0, .int 0, .int 0])) :: (b132, .inr (.long, [.long 0, .long 0, .long 0, .long 0])) :: F)) rfl ?_
  exact s_return K d15_57 (by decide) (by decide) ⟨rfl, rfl⟩
set_option maxRecDepth 65536 in
set_option maxHeartbeats 400000000 in
theorem k24_put {l : Launch} {Z : State} {a0 : Array Value} (hw : HW Z a0) {n0 : Nat} (F : Wd) (b110 b107 b140 b131 b142 b141 b108 b133 b132 b111 b112 b109 b139 b106 b135 b138 b134 : Addr) (hi : Int64) (mid : Int64) (lo : Int64) (p0 : Int64) :
    Con l Z n0 (⟨"com/example/evenkeel/evenkeel/LagSeats", "put", "(II)V"⟩ : MethodName) prog_60_method_30_code 3 none ({ frames := 0, cells := 0, slots := 0, locals := 0 } : Room) [.ref b110, .int 0, .int 3] ((b110, oLS (.int 0) (.int 0) .null (.int 0) (.int 0) (.ref b111) (.ref b112) (.ref b142) (.ref b141) (.ref b108) (.ref b109) (.ref b139) (.ref b107) (.ref b106) (.ref b135) (.ref b138) (.ref b134) (.ref b140) .null (.ref b133) (.ref b132) (.ref b131) .null .null .null .null .null .null .null) :: (b107, .inr (.int, [.int 0, .int 1])) :: (b140, .inr (.int, [.int 0, .int 1, .int 4])) :: (b131, .inr (.int, [.int 1, .int 0])) :: (b142, .inr (.int, [.int 1, .int 0])) :: (b141, .inr (.long, [.long ((0 : Int64) + p0), .long 0])) :: (b108, .inr (.long, [.long hi, .long mid, .long lo, .long p0])) :: (b133, .inr (.int, [.int 0, .int 0, .int 0, .int 0])) :: (b132, .inr (.long, [.long 0, .long 0, .long 0, .long 0])) :: F) (fun v L' => v = none ∧ L' = ((b110, oLS (.int 0) (.int 0) .null (.int 0) (.int 0) (.ref b111) (.ref b112) (.ref b142) (.ref b141) (.ref b108) (.ref b109) (.ref b139) (.ref b107) (.ref b106) (.ref b135) (.ref b138) (.ref b134) (.ref b140) .null (.ref b133) (.ref b132) (.ref b131) .null .null .null .null .null .null .null) :: (b107, .inr (.int, [.int 0, .int 1])) :: (b140, .inr (.int, [.int 0, .int 1, .int 4])) :: (b131, .inr (.int, [.int 1, .int 0])) :: (b142, .inr (.int, [.int 1, .int 0])) :: (b141, .inr (.long, [.long ((0 : Int64) + p0), .long 0])) :: (b108, .inr (.long, [.long hi, .long mid, .long lo, .long p0])) :: (b133, .inr (.int, [.int 3, .int 0, .int 0, .int 0])) :: (b132, .inr (.long, [.long p0, .long 0, .long 0, .long 0])) :: F)) := by
  refine Con.of (by decide +kernel) (Ls := #[.val (.ref b110), .val (.int 0), .val (.int 3)]) (fun m => by first | rfl | (simp [entryFrame, mkF, argsToLocals, Value.category]; done)) ?_
  intro κ K
  refine s_aloadN K d16_0 (pc' := 1) rfl rfl rfl ?_
  refine s_getf K d16_1 (pc' := 4) rfl (w134 hw) (k := 0) rfl (j := 19) rfl ?_
  refine s_iloadN K d16_4 (pc' := 5) rfl rfl ?_
  refine s_iloadN K d16_5 (pc' := 6) rfl rfl ?_
  refine s_iastore K d16_6 (pc' := 7) rfl (k := 7) rfl (i := 0) (by decide) (ltB rfl) (L' := ((b110, oLS (.int 0) (.int 0) .null (.int 0) (.int 0) (.ref b111) (.ref b112) (.ref b142) (.ref b141) (.ref b108) (.ref b109) (.ref b139) (.ref b107) (.ref b106) (.ref b135) (.ref b138) (.ref b134) (.ref b140) .null (.ref b133) (.ref b132) (.ref b131) .null .null .null .null .null .null .null) :: (b107, .inr (.int, [.int 0, .int 1])) :: (b140, .inr (.int, [.int 0, .int 1, .int 4])) :: (b131, .inr (.int, [.int 1, .int 0])) :: (b142, .inr (.int, [.int 1, .int 0])) :: (b141, .inr (.long, [.long ((0 : Int64) + p0), .long 0])) :: (b108, .inr (.long, [.long hi, .long mid, .long lo, .long p0])) :: (b133, .inr (.int, [.int 3, .int 0, .int 0, .int 0])) :: (b132, .inr (.long, [.long 0, .long 0, .long 0, .long 0])) :: F)) rfl ?_
  refine s_aloadN K d16_7 (pc' := 8) rfl rfl rfl ?_
  refine s_getf K d16_8 (pc' := 11) rfl (w136 hw) (k := 0) rfl (j := 20) rfl ?_
  refine s_iloadN K d16_11 (pc' := 12) rfl rfl ?_
  refine s_aloadN K d16_12 (pc' := 13) rfl rfl rfl ?_
  refine s_getf K d16_13 (pc' := 16) rfl (w73 hw) (k := 0) rfl (j := 9) rfl ?_
  refine s_iloadN K d16_16 (pc' := 17) rfl rfl ?_
  refine s_laload K d16_17 (pc' := 18) rfl (k := 6) rfl (i := 3) (by decide) rfl ?_
  refine s_lastore K d16_18 (pc' := 19) rfl (k := 8) rfl (i := 0) (by decide) (ltB rfl) (L' := ((b110, oLS (.int 0) (.int 0) .null (.int 0) (.int 0) (.ref b111) (.ref b112) (.ref b142) (.ref b141) (.ref b108) (.ref b109) (.ref b139) (.ref b107) (.ref b106) (.ref b135) (.ref b138) (.ref b134) (.ref b140) .null (.ref b133) (.ref b132) (.ref b131) .null .null .null .null .null .null .null) :: (b107, .inr (.int, [.int 0, .int 1])) :: (b140, .inr (.int, [.int 0, .int 1, .int 4])) :: (b131, .inr (.int, [.int 1, .int 0])) :: (b142, .inr (.int, [.int 1, .int 0])) :: (b141, .inr (.long, [.long ((0 : Int64) + p0), .long 0])) :: (b108, .inr (.long, [.long hi, .long mid, .long lo, .long p0])) :: (b133, .inr (.int, [.int 3, .int 0, .int 0, .int 0])) :: (b132, .inr (.long, [.long p0, .long 0, .long 0, .long 0])) :: F)) rfl ?_
  exact s_return K d16_19 (by decide) (by decide) ⟨rfl, rfl⟩
set_option maxRecDepth 65536 in
set_option maxHeartbeats 400000000 in
theorem k22_place {l : Launch} {Z : State} {a0 : Array Value} (hw : HW Z a0) {n0 : Nat} (F : Wd) (b110 b107 b140 b131 b142 b141 b108 b133 b132 b111 b112 b109 b139 b106 b135 b138 b134 : Addr) (hi : Int64) (mid : Int64) (lo : Int64) (p0 : Int64) :
    Con l Z n0 (⟨"com/example/evenkeel/evenkeel/LagSeats", "place", "(II)V"⟩ : MethodName) prog_60_method_26_code 3 none ({ frames := 1, cells := 0, slots := 0, locals := 14 } : Room) [.ref b110, .int 0, .int 3] ((b110, oLS (.int 0) (.int 0) .null (.int 0) (.int 0) (.ref b111) (.ref b112) (.ref b142) (.ref b141) (.ref b108) (.ref b109) (.ref b139) (.ref b107) (.ref b106) (.ref b135) (.ref b138) (.ref b134) (.ref b140) .null (.ref b133) (.ref b132) (.ref b131) .null .null .null .null .null .null .null) :: (b107, .inr (.int, [.int 0, .int 1])) :: (b140, .inr (.int, [.int 0, .int 1, .int 4])) :: (b131, .inr (.int, [.int 0, .int 0])) :: (b142, .inr (.int, [.int 0, .int 0])) :: (b141, .inr (.long, [.long 0, .long 0])) :: (b108, .inr (.long, [.long hi, .long mid, .long lo, .long p0])) :: (b133, .inr (.int, [.int 0, .int 0, .int 0, .int 0])) :: (b132, .inr (.long, [.long 0, .long 0, .long 0, .long 0])) :: F) (fun v L' => v = none ∧ L' = ((b110, oLS (.int 0) (.int 0) .null (.int 0) (.int 0) (.ref b111) (.ref b112) (.ref b142) (.ref b141) (.ref b108) (.ref b109) (.ref b139) (.ref b107) (.ref b106) (.ref b135) (.ref b138) (.ref b134) (.ref b140) .null (.ref b133) (.ref b132) (.ref b131) .null .null .null .null .null .null .null) :: (b107, .inr (.int, [.int 0, .int 1])) :: (b140, .inr (.int, [.int 0, .int 1, .int 4])) :: (b131, .inr (.int, [.int 1, .int 0])) :: (b142, .inr (.int, [.int 1, .int 0])) :: (b141, .inr (.long, [.long ((0 : Int64) + p0), .long 0])) :: (b108, .inr (.long, [.long hi, .long mid, .long lo, .long p0])) :: (b133, .inr (.int, [.int 3, .int 0, .int 0, .int 0])) :: (b132, .inr (.long, [.long p0, .long 0, .long 0, .long 0])) :: F)) := by
  refine Con.of (by decide +kernel) (Ls := #[.val (.ref b110), .val (.int 0), .val (.int 3)]) (fun m => by first | rfl | (simp [entryFrame, mkF, argsToLocals, Value.category]; done)) ?_
  intro κ K
  refine s_aloadN K d14_0 (pc' := 1) rfl rfl rfl ?_
  refine s_aloadN K d14_1 (pc' := 2) rfl rfl rfl ?_
  refine s_getf K d14_2 (pc' := 5) rfl (w85 hw) (k := 0) rfl (j := 12) rfl ?_
  refine s_iloadN K d14_5 (pc' := 6) rfl rfl ?_
  refine s_iaload K d14_6 (pc' := 7) rfl (k := 1) rfl (i := 0) (by decide) rfl ?_
  refine s_iloadN K d14_7 (pc' := 8) rfl rfl ?_
  refine s_virtual K d14_8 (pc' := 11) rfl (k := 0) (a := b110) rfl (as := [.int 0, .int 3]) (k23_take hw _ b110 b107 b140 b131 b142 b141 b108 b133 b132 b111 b112 b109 b139 b106 b135 b138 b134 hi mid lo p0) (w159 hw) (w160 hw) (w162 hw) (w161 hw) (w35 hw) (w163 hw) (by decide) pd_0 rfl (rest := []) rfl rfl (W := 0) (Nat.le_of_eq rfl) (by decide) (by decide) (ce' := 0) rfl (sl' := 0) rfl (by decide) (by decide) ?_
  rintro v _ ⟨rfl, rfl⟩
  show Go l Z n0 _ _ κ 0 0 ((b110, oLS (.int 0) (.int 0) .null (.int 0) (.int 0) (.ref b111) (.ref b112) (.ref b142) (.ref b141) (.ref b108) (.ref b109) (.ref b139) (.ref b107) (.ref b106) (.ref b135) (.ref b138) (.ref b134) (.ref b140) .null (.ref b133) (.ref b132) (.ref b131) .null .null .null .null .null .null .null) :: (b107, .inr (.int, [.int 0, .int 1])) :: (b140, .inr (.int, [.int 0, .int 1, .int 4])) :: (b131, .inr (.int, [.int 0, .int 0])) :: (b142, .inr (.int, [.int 1, .int 0])) :: (b141, .inr (.long, [.long ((0 : Int64) + p0), .long 0])) :: (b108, .inr (.long, [.long hi, .long mid, .long lo, .long p0])) :: (b133, .inr (.int, [.int 0, .int 0, .int 0, .int 0])) :: (b132, .inr (.long, [.long 0, .long 0, .long 0, .long 0])) :: F) 11 #[.val (.ref b110), .val (.int 0), .val (.int 3)] []
  refine s_aloadN K d14_11 (pc' := 12) rfl rfl rfl ?_
  refine s_aloadN K d14_12 (pc' := 13) rfl rfl rfl ?_
  refine s_getf K d14_13 (pc' := 16) rfl (w96 hw) (k := 0) rfl (j := 17) rfl ?_
  refine s_iloadN K d14_16 (pc' := 17) rfl rfl ?_
  refine s_iaload K d14_17 (pc' := 18) rfl (k := 2) rfl (i := 0) (by decide) rfl ?_
  refine s_aloadN K d14_18 (pc' := 19) rfl rfl rfl ?_
  refine s_getf K d14_19 (pc' := 22) rfl (w138 hw) (k := 0) rfl (j := 21) rfl ?_
  refine s_iloadN K d14_22 (pc' := 23) rfl rfl ?_
  refine s_dup2 K d14_23 (pc' := 24) rfl rfl rfl ?_
  refine s_iaload K d14_24 (pc' := 25) rfl (k := 3) rfl (i := 0) (by decide) rfl ?_
  refine s_dupx2 K d14_25 (pc' := 26) rfl rfl rfl rfl ?_
  refine s_iconst K d14_26 (pc' := 27) rfl (z := (1 : Int32)) rfl ?_
  refine s_iadd K d14_27 (pc' := 28) rfl (z := (1 : Int32)) rfl ?_
  refine s_iastore K d14_28 (pc' := 29) rfl (k := 3) rfl (i := 0) (by decide) (ltB rfl) (L' := ((b110, oLS (.int 0) (.int 0) .null (.int 0) (.int 0) (.ref b111) (.ref b112) (.ref b142) (.ref b141) (.ref b108) (.ref b109) (.ref b139) (.ref b107) (.ref b106) (.ref b135) (.ref b138) (.ref b134) (.ref b140) .null (.ref b133) (.ref b132) (.ref b131) .null .null .null .null .null .null .null) :: (b107, .inr (.int, [.int 0, .int 1])) :: (b140, .inr (.int, [.int 0, .int 1, .int 4])) :: (b131, .inr (.int, [.int 1, .int 0])) :: (b142, .inr (.int, [.int 1, .int 0])) :: (b141, .inr (.long, [.long ((0 : Int64) + p0), .long 0])) :: (b108, .inr (.long, [.long hi, .long mid, .long lo, .long p0])) :: (b133, .inr (.int, [.int 0, .int 0, .int 0, .int 0])) :: (b132, .inr (.long, [.long 0, .long 0, .long 0, .long 0])) :: F)) rfl ?_
  refine s_iadd K d14_29 (pc' := 30) rfl (z := (0 : Int32)) rfl ?_
  refine s_iloadN K d14_30 (pc' := 31) rfl rfl ?_
  refine s_private K d14_31 (pc' := 34) rfl (k := 0) (a := b110) rfl (as := [.int 0, .int 3]) (k24_put hw _ b110 b107 b140 b131 b142 b141 b108 b133 b132 b111 b112 b109 b139 b106 b135 b138 b134 hi mid lo p0) (w164 hw) (w157 hw) rfl (w165 hw) (w166 hw) (w35 hw) (w167 hw) (by decide) pd_0 rfl (rest := []) rfl rfl (W := 0) (Nat.le_of_eq rfl) (by decide) (by decide) (ce' := 0) rfl (sl' := 0) rfl (by decide) (by decide) ?_
  rintro v _ ⟨rfl, rfl⟩
  show Go l Z n0 _ _ κ 0 0 ((b110, oLS (.int 0) (.int 0) .null (.int 0) (.int 0) (.ref b111) (.ref b112) (.ref b142) (.ref b141) (.ref b108) (.ref b109) (.ref b139) (.ref b107) (.ref b106) (.ref b135) (.ref b138) (.ref b134) (.ref b140) .null (.ref b133) (.ref b132) (.ref b131) .null .null .null .null .null .null .null) :: (b107, .inr (.int, [.int 0, .int 1])) :: (b140, .inr (.int, [.int 0, .int 1, .int 4])) :: (b131, .inr (.int, [.int 1, .int 0])) :: (b142, .inr (.int, [.int 1, .int 0])) :: (b141, .inr (.long, [.long ((0 : Int64) + p0), .long 0])) :: (b108, .inr (.long, [.long hi, .long mid, .long lo, .long p0])) :: (b133, .inr (.int, [.int 3, .int 0, .int 0, .int 0])) :: (b132, .inr (.long, [.long p0, .long 0, .long 0, .long 0])) :: F) 34 #[.val (.ref b110), .val (.int 0), .val (.int 3)] []
  refine s_aloadN K d14_34 (pc' := 35) rfl rfl rfl ?_
  refine s_getf K d14_35 (pc' := 38) rfl (w140 hw) (k := 0) rfl (j := 22) rfl ?_
  refine s_nullY K d14_38 (by decide) (pc' := 47) (by decide) ?_
  exact s_return K d14_47 (by decide) (by decide) ⟨rfl, rfl⟩
set_option maxRecDepth 65536 in
set_option maxHeartbeats 400000000 in
theorem first9 {l : Launch} {Z : State} {a0 : Array Value} (hw : HW Z a0) {n0 : Nat} (F : Wd) (b110 b107 b140 b131 b142 b141 b108 b133 b132 b111 b112 b109 b139 b106 b135 b138 b134 : Addr) (hi : Int64) (mid : Int64) (lo : Int64) (p0 : Int64) (p3 : Int64)  :
    Con l Z n0 (⟨"com/example/evenkeel/evenkeel/LagSeats", "firstAtMost", "(IJ)I"⟩ : MethodName) prog_60_method_33_code 7 (some .int) ({ frames := 0, cells := 0, slots := 0, locals := 0 } : Room) [.ref b110, .int (1 : Int32), .long p3] ((b110, oLS (.int 0) (.int 0) .null (.int 0) (.int 0) (.ref b111) (.ref b112) (.ref b142) (.ref b141) (.ref b108) (.ref b109) (.ref b139) (.ref b107) (.ref b106) (.ref b135) (.ref b138) (.ref b134) (.ref b140) .null (.ref b133) (.ref b132) (.ref b131) .null .null .null .null .null .null .null) :: (b107, .inr (.int, [.int 0, .int 1])) :: (b140, .inr (.int, [.int 0, .int 1, .int 4])) :: (b131, .inr (.int, [.int 1, .int 0])) :: (b142, .inr (.int, [.int 1, .int 0])) :: (b141, .inr (.long, [.long ((0 : Int64) + p0), .long 0])) :: (b108, .inr (.long, [.long hi, .long mid, .long lo, .long p0])) :: (b133, .inr (.int, [.int 3, .int 0, .int 0, .int 0])) :: (b132, .inr (.long, [.long p0, .long 0, .long 0, .long 0])) :: F) (fun v L' => v = some (.int (Int32.ofNat (1))) ∧ L' = ((b110, oLS (.int 0) (.int 0) .null (.int 0) (.int 0) (.ref b111) (.ref b112) (.ref b142) (.ref b141) (.ref b108) (.ref b109) (.ref b139) (.ref b107) (.ref b106) (.ref b135) (.ref b138) (.ref b134) (.ref b140) .null (.ref b133) (.ref b132) (.ref b131) .null .null .null .null .null .null .null) :: (b107, .inr (.int, [.int 0, .int 1])) :: (b140, .inr (.int, [.int 0, .int 1, .int 4])) :: (b131, .inr (.int, [.int 1, .int 0])) :: (b142, .inr (.int, [.int 1, .int 0])) :: (b141, .inr (.long, [.long ((0 : Int64) + p0), .long 0])) :: (b108, .inr (.long, [.long hi, .long mid, .long lo, .long p0])) :: (b133, .inr (.int, [.int 3, .int 0, .int 0, .int 0])) :: (b132, .inr (.long, [.long p0, .long 0, .long 0, .long 0])) :: F)) := by
  refine Con.of (by decide +kernel) (Ls := #[.val (.ref b110), .val (.int 1), .val (.long p3), .second, .unset, .unset, .unset]) (fun m => by first | rfl | (simp [entryFrame, mkF, argsToLocals, Value.category]; done)) ?_
  intro κ K
  refine s_aloadN K d17_0 (pc' := 1) rfl rfl rfl ?_
  refine s_getf K d17_1 (pc' := 4) rfl (w96 hw) (k := 0) rfl (j := 17) rfl ?_
  refine s_iloadN K d17_4 (pc' := 5) rfl rfl ?_
  refine s_iaload K d17_5 (pc' := 6) rfl (k := 2) rfl (i := 1) (by decide) rfl ?_
  refine s_istore K d17_6 (pc' := 8) rfl (Ls' := #[.val (.ref b110), .val (.int 1), .val (.long p3), .second, .val (.int 1), .unset, .unset]) rfl ?_
  refine s_iload K d17_8 (pc' := 10) rfl rfl ?_
  refine s_aloadN K d17_10 (pc' := 11) rfl rfl rfl ?_
  refine s_getf K d17_11 (pc' := 14) rfl (w138 hw) (k := 0) rfl (j := 21) rfl ?_
  refine s_iloadN K d17_14 (pc' := 15) rfl rfl ?_
  refine s_iaload K d17_15 (pc' := 16) rfl (k := 3) rfl (i := 1) (by decide) rfl ?_
  refine s_iadd K d17_16 (pc' := 17) rfl (z := (1 : Int32)) rfl ?_
  refine s_istore K d17_17 (pc' := 19) rfl (Ls' := #[.val (.ref b110), .val (.int 1), .val (.long p3), .second, .val (.int 1), .val (.int 1), .unset]) rfl ?_
  refine s_iload K d17_19 (pc' := 21) rfl rfl ?_
  refine s_iload K d17_21 (pc' := 23) rfl rfl ?_
  refine s_icY K d17_23 rfl (by decide) (pc' := 63) (by decide) ?_
  refine s_iload K d17_63 (pc' := 65) rfl rfl ?_
  exact s_ireturn K d17_65 (by decide) (by decide) ⟨rfl, rfl⟩
set_option maxRecDepth 65536 in
set_option maxHeartbeats 400000000 in
theorem segB_100 {l : Launch} {Z : State} {a0 : Array Value} (hw : HW Z a0) {n0 : Nat} (p0 p1 p2 p3 hi mid lo : Int64) (p4 : Int32) (b110 b107 b140 b131 b142 b141 b108 b133 b132 b101 b109 b111 b112 b139 b106 b135 b138 b134 : Addr) (o1 : mid.toInt ≤ hi.toInt) (o2 : lo.toInt ≤ mid.toInt) (κ : Ctx) (K : Ok Z κ x.cls code maxLocals ret x.name) :
    Go l Z n0 room_1 (fun v _ => v = some (.int 1)) κ 21 83 [(b110, oLS (.int 0) (.int 0) .null (.int 0) (.int 0) (.ref b111) (.ref b112) (.ref b142) (.ref b141) (.ref b108) (.ref b109) (.ref b139) (.ref b107) (.ref b106) (.ref b135) (.ref b138) (.ref b134) (.ref b140) .null (.ref b133) (.ref b132) (.ref b131) .null .null .null .null .null .null .null), (b107, .inr (.int, [.int 0, .int 1])), (b140, .inr (.int, [.int 0, .int 1, .int 4])), (b131, .inr (.int, [.int 0, .int 0])), (b142, .inr (.int, [.int 0, .int 0])), (b141, .inr (.long, [.long 0, .long 0])), (b108, .inr (.long, [.long hi, .long mid, .long lo, .long p0])), (b133, .inr (.int, [.int 0, .int 0, .int 0, .int 0])), (b132, .inr (.long, [.long 0, .long 0, .long 0, .long 0]))] 172 #[.val (.long p0), .second, .val (.long p1), .second, .val (.long p2), .second, .val (.long p3), .second, .val (.int p4), .val (.long hi), .second, .val (.long lo), .second, .val (.long mid), .second, .val (.int 0), .val (.int 0), .val (.int 1), .val (.ref b101), .val (.ref b108), .val (.ref b109), .val (.ref b110), .unset, .unset] [] := by
  refine s_iload K at_172 (pc' := 174) rfl rfl ?_
  refine s_ifN K at_174 (pc' := 177) rfl rfl ?_
  refine s_aload K at_177 (pc' := 179) rfl rfl rfl ?_
  refine s_iconst K at_179 (pc' := 180) rfl (z := (0 : Int32)) rfl ?_
  refine s_iconst K at_180 (pc' := 181) rfl (z := (3 : Int32)) rfl ?_
  refine s_virtual K at_181 (pc' := 184) rfl (k := 0) (a := b110) rfl (as := [.int 0, .int 3]) (k22_place hw _ b110 b107 b140 b131 b142 b141 b108 b133 b132 b111 b112 b109 b139 b106 b135 b138 b134 hi mid lo p0) (w154 hw) (w155 hw) (w157 hw) (w156 hw) (w35 hw) (w158 hw) (by decide) pd_0 rfl (rest := []) rfl rfl (W := 0) (Nat.le_of_eq rfl) (by decide) (by decide) (ce' := 21) rfl (sl' := 83) rfl (by decide) (by decide) ?_
  rintro v _ ⟨rfl, rfl⟩
  show Go l Z n0 _ _ κ 21 83 [(b110, oLS (.int 0) (.int 0) .null (.int 0) (.int 0) (.ref b111) (.ref b112) (.ref b142) (.ref b141) (.ref b108) (.ref b109) (.ref b139) (.ref b107) (.ref b106) (.ref b135) (.ref b138) (.ref b134) (.ref b140) .null (.ref b133) (.ref b132) (.ref b131) .null .null .null .null .null .null .null), (b107, .inr (.int, [.int 0, .int 1])), (b140, .inr (.int, [.int 0, .int 1, .int 4])), (b131, .inr (.int, [.int 1, .int 0])), (b142, .inr (.int, [.int 1, .int 0])), (b141, .inr (.long, [.long ((0 : Int64) + p0), .long 0])), (b108, .inr (.long, [.long hi, .long mid, .long lo, .long p0])), (b133, .inr (.int, [.int 3, .int 0, .int 0, .int 0])), (b132, .inr (.long, [.long p0, .long 0, .long 0, .long 0]))] 184 #[.val (.long p0), .second, .val (.long p1), .second, .val (.long p2), .second, .val (.long p3), .second, .val (.int p4), .val (.long hi), .second, .val (.long lo), .second, .val (.long mid), .second, .val (.int 0), .val (.int 0), .val (.int 1), .val (.ref b101), .val (.ref b108), .val (.ref b109), .val (.ref b110), .unset, .unset] []
  refine s_iload K at_184 (pc' := 186) rfl rfl ?_
  refine s_iconst K at_186 (pc' := 187) rfl (z := (1 : Int32)) rfl ?_
  refine s_icY K at_187 rfl (by decide) (pc' := 197) (by decide) ?_
  refine s_iload K at_197 (pc' := 199) rfl rfl ?_
  refine s_iconst K at_199 (pc' := 200) rfl (z := (2 : Int32)) rfl ?_
  refine s_icY K at_200 rfl (by decide) (pc' := 210) (by decide) ?_
  refine s_iload K at_210 (pc' := 212) rfl rfl ?_
  refine s_iconst K at_212 (pc' := 213) rfl (z := (3 : Int32)) rfl ?_
  refine s_icY K at_213 rfl (by decide) (pc' := 223) (by decide) ?_
  refine s_iload K at_223 (pc' := 225) rfl rfl ?_
  refine s_ifY K at_225 rfl (by decide) (pc' := 260) (by decide) ?_
  refine s_aload K at_260 (pc' := 262) rfl rfl rfl ?_
  refine s_iconst K at_262 (pc' := 263) rfl (z := (1 : Int32)) rfl ?_
  refine s_lload K at_263 (pc' := 265) rfl rfl ?_
  refine s_virtual K at_265 (pc' := 268) rfl (k := 0) (a := b110) rfl (as := [.int 1, .long p3]) (first9 hw _ b110 b107 b140 b131 b142 b141 b108 b133 b132 b111 b112 b109 b139 b106 b135 b138 b134 hi mid lo p0 p3 ) (w168 hw) (w169 hw) (w171 hw) (w170 hw) (w35 hw) (w172 hw) (by decide) pd_9 rfl (rest := []) rfl rfl (W := 0) (Nat.le_of_eq rfl) (by decide) (by decide) (ce' := 21) rfl (sl' := 83) rfl (by decide) (by decide) ?_
  rintro v _ ⟨rfl, rfl⟩
  show Go l Z n0 _ _ κ 21 83 [(b110, oLS (.int 0) (.int 0) .null (.int 0) (.int 0) (.ref b111) (.ref b112) (.ref b142) (.ref b141) (.ref b108) (.ref b109) (.ref b139) (.ref b107) (.ref b106) (.ref b135) (.ref b138) (.ref b134) (.ref b140) .null (.ref b133) (.ref b132) (.ref b131) .null .null .null .null .null .null .null), (b107, .inr (.int, [.int 0, .int 1])), (b140, .inr (.int, [.int 0, .int 1, .int 4])), (b131, .inr (.int, [.int 1, .int 0])), (b142, .inr (.int, [.int 1, .int 0])), (b141, .inr (.long, [.long ((0 : Int64) + p0), .long 0])), (b108, .inr (.long, [.long hi, .long mid, .long lo, .long p0])), (b133, .inr (.int, [.int 3, .int 0, .int 0, .int 0])), (b132, .inr (.long, [.long p0, .long 0, .long 0, .long 0]))] 268 #[.val (.long p0), .second, .val (.long p1), .second, .val (.long p2), .second, .val (.long p3), .second, .val (.int p4), .val (.long hi), .second, .val (.long lo), .second, .val (.long mid), .second, .val (.int 0), .val (.int 0), .val (.int 1), .val (.ref b101), .val (.ref b108), .val (.ref b109), .val (.ref b110), .unset, .unset] [.int (Int32.ofNat (1))]
  refine s_istore K at_268 (pc' := 270) rfl (Ls' := #[.val (.long p0), .second, .val (.long p1), .second, .val (.long p2), .second, .val (.long p3), .second, .val (.int p4), .val (.long hi), .second, .val (.long lo), .second, .val (.long mid), .second, .val (.int 0), .val (.int 0), .val (.int 1), .val (.ref b101), .val (.ref b108), .val (.ref b109), .val (.ref b110), .val (.int (Int32.ofNat (1))), .unset]) rfl ?_
  refine s_iconst K at_270 (pc' := 271) rfl (z := (1 : Int32)) rfl ?_
  refine s_istore K at_271 (pc' := 273) rfl (Ls' := #[.val (.long p0), .second, .val (.long p1), .second, .val (.long p2), .second, .val (.long p3), .second, .val (.int p4), .val (.long hi), .second, .val (.long lo), .second, .val (.long mid), .second, .val (.int 0), .val (.int 0), .val (.int 1), .val (.ref b101), .val (.ref b108), .val (.ref b109), .val (.ref b110), .val (.int (Int32.ofNat (1))), .val (.int 1)]) rfl ?_
  refine s_iload K at_273 (pc' := 275) rfl rfl ?_
  refine s_iconst K at_275 (pc' := 276) rfl (z := (1 : Int32)) rfl ?_
  refine s_icY K at_276 rfl (by decide) (pc' := 293) (by decide) ?_
  refine s_iload K at_293 (pc' := 295) rfl rfl ?_
  refine s_iconst K at_295 (pc' := 296) rfl (z := (2 : Int32)) rfl ?_
  refine s_icY K at_296 rfl (by decide) (pc' := 313) (by decide) ?_
  refine s_iload K at_313 (pc' := 315) rfl rfl ?_
  refine s_iconst K at_315 (pc' := 316) rfl (z := (3 : Int32)) rfl ?_
  refine s_icY K at_316 rfl (by decide) (pc' := 333) (by decide) ?_
  refine s_iload K at_333 (pc' := 335) rfl rfl ?_
  refine s_iload K at_335 (pc' := 337) rfl rfl ?_
  refine s_icN K at_337 (pc' := 340) rfl (teq rfl).2 ?_
  refine s_iconst K at_340 (pc' := 341) rfl (z := (1 : Int32)) rfl ?_
  refine s_goto K at_341 (by decide) (pc' := 345) (by decide) ?_
  exact s_zreturn K at_345 rfl (by decide) (by decide) rfl
set_option maxRecDepth 65536 in
set_option maxHeartbeats 400000000 in
theorem first10 {l : Launch} {Z : State} {a0 : Array Value} (hw : HW Z a0) {n0 : Nat} (F : Wd) (b110 b107 b140 b131 b142 b141 b108 b133 b132 b111 b112 b109 b139 b106 b135 b138 b134 : Addr) (hi : Int64) (mid : Int64) (lo : Int64) (p0 : Int64) (p3 : Int64)  :
    Con l Z n0 (⟨"com/example/evenkeel/evenkeel/LagSeats", "firstAtMost", "(IJ)I"⟩ : MethodName) prog_60_method_33_code 7 (some .int) ({ frames := 0, cells := 0, slots := 0, locals := 0 } : Room) [.ref b110, .int (0 : Int32), .long p3] ((b110, oLS (.int 0) (.int 0) .null (.int 0) (.int 0) (.ref b111) (.ref b112) (.ref b142) (.ref b141) (.ref b108) (.ref b109) (.ref b139) (.ref b107) (.ref b106) (.ref b135) (.ref b138) (.ref b134) (.ref b140) .null (.ref b133) (.ref b132) (.ref b131) .null .null .null .null .null .null .null) :: (b107, .inr (.int, [.int 0, .int 1])) :: (b140, .inr (.int, [.int 0, .int 1, .int 4])) :: (b131, .inr (.int, [.int 1, .int 0])) :: (b142, .inr (.int, [.int 1, .int 0])) :: (b141, .inr (.long, [.long ((0 : Int64) + p0), .long 0])) :: (b108, .inr (.long, [.long hi, .long mid, .long lo, .long p0])) :: (b133, .inr (.int, [.int 3, .int 0, .int 0, .int 0])) :: (b132, .inr (.long, [.long p0, .long 0, .long 0, .long 0])) :: F) (fun v L' => v = some (.int (Int32.ofNat (0 + own_b p0 p3))) ∧ L' = ((b110, oLS (.int 0) (.int 0) .null (.int 0) (.int 0) (.ref b111) (.ref b112) (.ref b142) (.ref b141) (.ref b108) (.ref b109) (.ref b139) (.ref b107) (.ref b106) (.ref b135) (.ref b138) (.ref b134) (.ref b140) .null (.ref b133) (.ref b132) (.ref b131) .null .null .null .null .null .null .null) :: (b107, .inr (.int, [.int 0, .int 1])) :: (b140, .inr (.int, [.int 0, .int 1, .int 4])) :: (b131, .inr (.int, [.int 1, .int 0])) :: (b142, .inr (.int, [.int 1, .int 0])) :: (b141, .inr (.long, [.long ((0 : Int64) + p0), .long 0])) :: (b108, .inr (.long, [.long hi, .long mid, .long lo, .long p0])) :: (b133, .inr (.int, [.int 3, .int 0, .int 0, .int 0])) :: (b132, .inr (.long, [.long p0, .long 0, .long 0, .long 0])) :: F)) := by
  refine Con.of (by decide +kernel) (Ls := #[.val (.ref b110), .val (.int 0), .val (.long p3), .second, .unset, .unset, .unset]) (fun m => by first | rfl | (simp [entryFrame, mkF, argsToLocals, Value.category]; done)) ?_
  intro κ K
  refine s_aloadN K d17_0 (pc' := 1) rfl rfl rfl ?_
  refine s_getf K d17_1 (pc' := 4) rfl (w96 hw) (k := 0) rfl (j := 17) rfl ?_
  refine s_iloadN K d17_4 (pc' := 5) rfl rfl ?_
  refine s_iaload K d17_5 (pc' := 6) rfl (k := 2) rfl (i := 0) (by decide) rfl ?_
  refine s_istore K d17_6 (pc' := 8) rfl (Ls' := #[.val (.ref b110), .val (.int 0), .val (.long p3), .second, .val (.int 0), .unset, .unset]) rfl ?_
  refine s_iload K d17_8 (pc' := 10) rfl rfl ?_
  refine s_aloadN K d17_10 (pc' := 11) rfl rfl rfl ?_
  refine s_getf K d17_11 (pc' := 14) rfl (w138 hw) (k := 0) rfl (j := 21) rfl ?_
  refine s_iloadN K d17_14 (pc' := 15) rfl rfl ?_
  refine s_iaload K d17_15 (pc' := 16) rfl (k := 3) rfl (i := 0) (by decide) rfl ?_
  refine s_iadd K d17_16 (pc' := 17) rfl (z := (1 : Int32)) rfl ?_
  refine s_istore K d17_17 (pc' := 19) rfl (Ls' := #[.val (.ref b110), .val (.int 0), .val (.long p3), .second, .val (.int 0), .val (.int 1), .unset]) rfl ?_
  refine s_iload K d17_19 (pc' := 21) rfl rfl ?_
  refine s_iload K d17_21 (pc' := 23) rfl rfl ?_
  refine s_icN K d17_23 (pc' := 26) rfl rfl ?_
  refine s_iload K d17_26 (pc' := 28) rfl rfl ?_
  refine s_iload K d17_28 (pc' := 30) rfl rfl ?_
  refine s_iadd K d17_30 (pc' := 31) rfl (z := (1 : Int32)) rfl ?_
  refine s_iconst K d17_31 (pc' := 32) rfl (z := (1 : Int32)) rfl ?_
  refine s_iushr K d17_32 (pc' := 33) rfl (z := (0 : Int32)) rfl ?_
  refine s_istore K d17_33 (pc' := 35) rfl (Ls' := #[.val (.ref b110), .val (.int 0), .val (.long p3), .second, .val (.int 0), .val (.int 1), .val (.int 0)]) rfl ?_
  refine s_aloadN K d17_35 (pc' := 36) rfl rfl rfl ?_
  refine s_getf K d17_36 (pc' := 39) rfl (w136 hw) (k := 0) rfl (j := 20) rfl ?_
  refine s_iload K d17_39 (pc' := 41) rfl rfl ?_
  refine s_laload K d17_41 (pc' := 42) rfl (k := 8) rfl (i := 0) (by decide) rfl ?_
  refine s_lloadN K d17_42 (pc' := 43) rfl rfl ?_
  refine s_lcmp K d17_43 (pc' := 44) rfl  ?_
  refine s_if K d17_44 (pn := 47) rfl (by decide) (pc' := 56) (by decide) (fun h1 => ?_) (fun h1 => ?_)
  · have g1 := own_leY h1
    refine s_iload K d17_56 (pc' := 58) rfl rfl ?_
    refine s_istore K d17_58 (pc' := 60) rfl (Ls' := #[.val (.ref b110), .val (.int 0), .val (.long p3), .second, .val (.int 0), .val (.int 0), .val (.int 0)]) rfl ?_
    refine s_goto K d17_60 (by decide) (pc' := 19) (by decide) ?_
    refine s_iload K d17_19 (pc' := 21) rfl rfl ?_
    refine s_iload K d17_21 (pc' := 23) rfl rfl ?_
    refine s_icY K d17_23 rfl (by decide) (pc' := 63) (by decide) ?_
    refine s_iload K d17_63 (pc' := 65) rfl rfl ?_
    exact s_ireturn K d17_65 (by decide) (by decide) ⟨by rw [own_b0 (x := p0) (t := p3) (by omega)]; rfl, rfl⟩
  · have g1 := own_leN h1
    refine s_iload K d17_47 (pc' := 49) rfl rfl ?_
    refine s_iconst K d17_49 (pc' := 50) rfl (z := (1 : Int32)) rfl ?_
    refine s_iadd K d17_50 (pc' := 51) rfl (z := (1 : Int32)) rfl ?_
    refine s_istore K d17_51 (pc' := 53) rfl (Ls' := #[.val (.ref b110), .val (.int 0), .val (.long p3), .second, .val (.int 1), .val (.int 1), .val (.int 0)]) rfl ?_
    refine s_goto K d17_53 (by decide) (pc' := 60) (by decide) ?_
    refine s_goto K d17_60 (by decide) (pc' := 19) (by decide) ?_
    refine s_iload K d17_19 (pc' := 21) rfl rfl ?_
    refine s_iload K d17_21 (pc' := 23) rfl rfl ?_
    refine s_icY K d17_23 rfl (by decide) (pc' := 63) (by decide) ?_
    refine s_iload K d17_63 (pc' := 65) rfl rfl ?_
    exact s_ireturn K d17_65 (by decide) (by decide) ⟨by rw [own_b1 (x := p0) (t := p3) (by omega)]; rfl, rfl⟩
set_option maxRecDepth 65536 in
set_option maxHeartbeats 400000000 in
theorem segB_101 {l : Launch} {Z : State} {a0 : Array Value} (hw : HW Z a0) {n0 : Nat} (p0 p1 p2 p3 hi mid lo : Int64) (p4 : Int32) (b110 b107 b140 b131 b142 b141 b108 b133 b132 b101 b109 b111 b112 b139 b106 b135 b138 b134 : Addr) (o1 : mid.toInt ≤ hi.toInt) (o2 : lo.toInt ≤ mid.toInt) (κ : Ctx) (K : Ok Z κ x.cls code maxLocals ret x.name) :
    Go l Z n0 room_1 (fun v _ => v = some (.int 1)) κ 21 83 [(b110, oLS (.int 0) (.int 0) .null (.int 0) (.int 0) (.ref b111) (.ref b112) (.ref b142) (.ref b141) (.ref b108) (.ref b109) (.ref b139) (.ref b107) (.ref b106) (.ref b135) (.ref b138) (.ref b134) (.ref b140) .null (.ref b133) (.ref b132) (.ref b131) .null .null .null .null .null .null .null), (b107, .inr (.int, [.int 0, .int 1])), (b140, .inr (.int, [.int 0, .int 1, .int 4])), (b131, .inr (.int, [.int 0, .int 0])), (b142, .inr (.int, [.int 0, .int 0])), (b141, .inr (.long, [.long 0, .long 0])), (b108, .inr (.long, [.long hi, .long mid, .long lo, .long p0])), (b133, .inr (.int, [.int 0, .int 0, .int 0, .int 0])), (b132, .inr (.long, [.long 0, .long 0, .long 0, .long 0]))] 172 #[.val (.long p0), .second, .val (.long p1), .second, .val (.long p2), .second, .val (.long p3), .second, .val (.int p4), .val (.long hi), .second, .val (.long lo), .second, .val (.long mid), .second, .val (.int 0), .val (.int 1), .val (.int 1), .val (.ref b101), .val (.ref b108), .val (.ref b109), .val (.ref b110), .unset, .unset] [] := by
  refine s_iload K at_172 (pc' := 174) rfl rfl ?_
  refine s_ifN K at_174 (pc' := 177) rfl rfl ?_
  refine s_aload K at_177 (pc' := 179) rfl rfl rfl ?_
  refine s_iconst K at_179 (pc' := 180) rfl (z := (0 : Int32)) rfl ?_
  refine s_iconst K at_180 (pc' := 181) rfl (z := (3 : Int32)) rfl ?_
  refine s_virtual K at_181 (pc' := 184) rfl (k := 0) (a := b110) rfl (as := [.int 0, .int 3]) (k22_place hw _ b110 b107 b140 b131 b142 b141 b108 b133 b132 b111 b112 b109 b139 b106 b135 b138 b134 hi mid lo p0) (w154 hw) (w155 hw) (w157 hw) (w156 hw) (w35 hw) (w158 hw) (by decide) pd_0 rfl (rest := []) rfl rfl (W := 0) (Nat.le_of_eq rfl) (by decide) (by decide) (ce' := 21) rfl (sl' := 83) rfl (by decide) (by decide) ?_
  rintro v _ ⟨rfl, rfl⟩
  show Go l Z n0 _ _ κ 21 83 [(b110, oLS (.int 0) (.int 0) .null (.int 0) (.int 0) (.ref b111) (.ref b112) (.ref b142) (.ref b141) (.ref b108) (.ref b109) (.ref b139) (.ref b107) (.ref b106) (.ref b135) (.ref b138) (.ref b134) (.ref b140) .null (.ref b133) (.ref b132) (.ref b131) .null .null .null .null .null .null .null), (b107, .inr (.int, [.int 0, .int 1])), (b140, .inr (.int, [.int 0, .int 1, .int 4])), (b131, .inr (.int, [.int 1, .int 0])), (b142, .inr (.int, [.int 1, .int 0])), (b141, .inr (.long, [.long ((0 : Int64) + p0), .long 0])), (b108, .inr (.long, [.long hi, .long mid, .long lo, .long p0])), (b133, .inr (.int, [.int 3, .int 0, .int 0, .int 0])), (b132, .inr (.long, [.long p0, .long 0, .long 0, .long 0]))] 184 #[.val (.long p0), .second, .val (.long p1), .second, .val (.long p2), .second, .val (.long p3), .second, .val (.int p4), .val (.long hi), .second, .val (.long lo), .second, .val (.long mid), .second, .val (.int 0), .val (.int 1), .val (.int 1), .val (.ref b101), .val (.ref b108), .val (.ref b109), .val (.ref b110), .unset, .unset] []
  refine s_iload K at_184 (pc' := 186) rfl rfl ?_
  refine s_iconst K at_186 (pc' := 187) rfl (z := (1 : Int32)) rfl ?_
  refine s_icY K at_187 rfl (by decide) (pc' := 197) (by decide) ?_
  refine s_iload K at_197 (pc' := 199) rfl rfl ?_
  refine s_iconst K at_199 (pc' := 200) rfl (z := (2 : Int32)) rfl ?_
  refine s_icY K at_200 rfl (by decide) (pc' := 210) (by decide) ?_
  refine s_iload K at_210 (pc' := 212) rfl rfl ?_
  refine s_iconst K at_212 (pc' := 213) rfl (z := (3 : Int32)) rfl ?_
  refine s_icY K at_213 rfl (by decide) (pc' := 223) (by decide) ?_
  refine s_iload K at_223 (pc' := 225) rfl rfl ?_
  refine s_ifN K at_225 (pc' := 228) rfl rfl ?_
  refine s_aload K at_228 (pc' := 230) rfl rfl rfl ?_
  refine s_iconst K at_230 (pc' := 231) rfl (z := (0 : Int32)) rfl ?_
  refine s_lload K at_231 (pc' := 233) rfl rfl ?_
  refine s_virtual K at_233 (pc' := 236) rfl (k := 0) (a := b110) rfl (as := [.int 0, .long p3]) (first10 hw _ b110 b107 b140 b131 b142 b141 b108 b133 b132 b111 b112 b109 b139 b106 b135 b138 b134 hi mid lo p0 p3 ) (w168 hw) (w169 hw) (w171 hw) (w170 hw) (w35 hw) (w172 hw) (by decide) pd_9 rfl (rest := []) rfl rfl (W := 0) (Nat.le_of_eq rfl) (by decide) (by decide) (ce' := 21) rfl (sl' := 83) rfl (by decide) (by decide) ?_
  rintro v _ ⟨rfl, rfl⟩
  show Go l Z n0 _ _ κ 21 83 [(b110, oLS (.int 0) (.int 0) .null (.int 0) (.int 0) (.ref b111) (.ref b112) (.ref b142) (.ref b141) (.ref b108) (.ref b109) (.ref b139) (.ref b107) (.ref b106) (.ref b135) (.ref b138) (.ref b134) (.ref b140) .null (.ref b133) (.ref b132) (.ref b131) .null .null .null .null .null .null .null), (b107, .inr (.int, [.int 0, .int 1])), (b140, .inr (.int, [.int 0, .int 1, .int 4])), (b131, .inr (.int, [.int 1, .int 0])), (b142, .inr (.int, [.int 1, .int 0])), (b141, .inr (.long, [.long ((0 : Int64) + p0), .long 0])), (b108, .inr (.long, [.long hi, .long mid, .long lo, .long p0])), (b133, .inr (.int, [.int 3, .int 0, .int 0, .int 0])), (b132, .inr (.long, [.long p0, .long 0, .long 0, .long 0]))] 236 #[.val (.long p0), .second, .val (.long p1), .second, .val (.long p2), .second, .val (.long p3), .second, .val (.int p4), .val (.long hi), .second, .val (.long lo), .second, .val (.long mid), .second, .val (.int 0), .val (.int 1), .val (.int 1), .val (.ref b101), .val (.ref b108), .val (.ref b109), .val (.ref b110), .unset, .unset] [.int (Int32.ofNat (0 + own_b p0 p3))]
  refine s_istore K at_236 (pc' := 238) rfl (Ls' := #[.val (.long p0), .second, .val (.long p1), .second, .val (.long p2), .second, .val (.long p3), .second, .val (.int p4), .val (.long hi), .second, .val (.long lo), .second, .val (.long mid), .second, .val (.int 0), .val (.int 1), .val (.int 1), .val (.ref b101), .val (.ref b108), .val (.ref b109), .val (.ref b110), .val (.int (Int32.ofNat (0 + own_b p0 p3))), .unset]) rfl ?_
  refine s_iload K at_238 (pc' := 240) rfl rfl ?_
  refine s_ifN K at_240 (pc' := 243) rfl rfl ?_
  refine s_lloadN K at_243 (pc' := 244) rfl rfl ?_
  refine s_lload K at_244 (pc' := 246) rfl rfl ?_
  refine s_lcmp K at_246 (pc' := 247) rfl  ?_
  refine s_if K at_247 (pn := 250) rfl (by decide) (pc' := 254) (by decide) (fun h1 => ?_) (fun h1 => ?_)
  · have g1 := own_leY h1
    refine s_iconst K at_254 (pc' := 255) rfl (z := (0 : Int32)) rfl ?_
    refine s_istore K at_255 (pc' := 257) rfl (Ls' := #[.val (.long p0), .second, .val (.long p1), .second, .val (.long p2), .second, .val (.long p3), .second, .val (.int p4), .val (.long hi), .second, .val (.long lo), .second, .val (.long mid), .second, .val (.int 0), .val (.int 1), .val (.int 1), .val (.ref b101), .val (.ref b108), .val (.ref b109), .val (.ref b110), .val (.int (Int32.ofNat (0 + own_b p0 p3))), .val (.int 0)]) rfl ?_
    refine s_goto K at_257 (by decide) (pc' := 333) (by decide) ?_
    refine s_iload K at_333 (pc' := 335) rfl rfl ?_
    refine s_iload K at_335 (pc' := 337) rfl rfl ?_
    refine s_icN K at_337 (pc' := 340) rfl (teq (by rw [own_b0 (x := p0) (t := p3) g1]; rfl)).2 ?_
    refine s_iconst K at_340 (pc' := 341) rfl (z := (1 : Int32)) rfl ?_
    refine s_goto K at_341 (by decide) (pc' := 345) (by decide) ?_
    exact s_zreturn K at_345 rfl (by decide) (by decide) rfl
  · have g1 := own_leN h1
    refine s_iconst K at_250 (pc' := 251) rfl (z := (1 : Int32)) rfl ?_
    refine s_goto K at_251 (by decide) (pc' := 255) (by decide) ?_
    refine s_istore K at_255 (pc' := 257) rfl (Ls' := #[.val (.long p0), .second, .val (.long p1), .second, .val (.long p2), .second, .val (.long p3), .second, .val (.int p4), .val (.long hi), .second, .val (.long lo), .second, .val (.long mid), .second, .val (.int 0), .val (.int 1), .val (.int 1), .val (.ref b101), .val (.ref b108), .val (.ref b109), .val (.ref b110), .val (.int (Int32.ofNat (0 + own_b p0 p3))), .val (.int 1)]) rfl ?_
    refine s_goto K at_257 (by decide) (pc' := 333) (by decide) ?_
    refine s_iload K at_333 (pc' := 335) rfl rfl ?_
    refine s_iload K at_335 (pc' := 337) rfl rfl ?_
    refine s_icN K at_337 (pc' := 340) rfl (teq (by rw [own_b1 (x := p0) (t := p3) g1]; rfl)).2 ?_
    refine s_iconst K at_340 (pc' := 341) rfl (z := (1 : Int32)) rfl ?_
    refine s_goto K at_341 (by decide) (pc' := 345) (by decide) ?_
    exact s_zreturn K at_345 rfl (by decide) (by decide) rfl
set_option maxRecDepth 65536 in
set_option maxHeartbeats 400000000 in
theorem k26_take {l : Launch} {Z : State} {a0 : Array Value} (hw : HW Z a0) {n0 : Nat} (F : Wd) (b110 b107 b140 b131 b142 b141 b108 b133 b132 b111 b112 b109 b139 b106 b135 b138 b134 : Addr) (hi : Int64) (mid : Int64) (lo : Int64) (p0 : Int64) :
    Con l Z n0 (⟨"com/example/evenkeel/evenkeel/LagSeats", "take", "(II)V"⟩ : MethodName) prog_60_method_27_code 3 none ({ frames := 0, cells := 0, slots := 0, locals := 0 } : Room) [.ref b110, .int 1, .int 0] ((b110, oLS (.int 0) (.int 0) .null (.int 0) (.int 0) (.ref b111) (.ref b112) (.ref b142) (.ref b141) (.ref b108) (.ref b109) (.ref b139) (.ref b107) (.ref b106) (.ref b135) (.ref b138) (.ref b134) (.ref b140) .null (.ref b133) (.ref b132) (.ref b131) .null .null .null .null .null .null .null) :: (b107, .inr (.int, [.int 0, .int 1])) :: (b140, .inr (.int, [.int 0, .int 1, .int 4])) :: (b131, .inr (.int, [.int 1, .int 0])) :: (b142, .inr (.int, [.int 1, .int 0])) :: (b141, .inr (.long, [.long ((0 : Int64) + p0), .long 0])) :: (b108, .inr (.long, [.long hi, .long mid, .long lo, .long p0])) :: (b133, .inr (.int, [.int 3, .int 0, .int 0, .int 0])) :: (b132, .inr (.long, [.long p0, .long 0, .long 0, .long 0])) :: F) (fun v L' => v = none ∧ L' = ((b110, oLS (.int 0) (.int 0) .null (.int 0) (.int 0) (.ref b111) (.ref b112) (.ref b142) (.ref b141) (.ref b108) (.ref b109) (.ref b139) (.ref b107) (.ref b106) (.ref b135) (.ref b138) (.ref b134) (.ref b140) .null (.ref b133) (.ref b132) (.ref b131) .null .null .null .null .null .null .null) :: (b107, .inr (.int, [.int 0, .int 1])) :: (b140, .inr (.int, [.int 0, .int 1, .int 4])) :: (b131, .inr (.int, [.int 1, .int 0])) :: (b142, .inr (.int, [.int 1, .int 1])) :: (b141, .inr (.long, [.long ((0 : Int64) + p0), .long ((0 : Int64) + hi)])) :: (b108, .inr (.long, [.long hi, .long mid, .long lo, .long p0])) :: (b133, .inr (.int, [.int 3, .int 0, .int 0, .int 0])) :: (b132, .inr (.long, [.long p0, .long 0, .long 0, .long 0])) :: F)) := by
  refine Con.of (by decide +kernel) (Ls := #[.val (.ref b110), .val (.int 1), .val (.int 0)]) (fun m => by first | rfl | (simp [entryFrame, mkF, argsToLocals, Value.category]; done)) ?_
  intro κ K
  refine s_aloadN K d15_0 (pc' := 1) rfl rfl rfl ?_
  refine s_getf K d15_1 (pc' := 4) rfl (w40 hw) (k := 0) rfl (j := 0) rfl ?_
  refine s_ifY K d15_4 rfl (by decide) (pc' := 32) (by decide) ?_
  refine s_aloadN K d15_32 (pc' := 33) rfl rfl rfl ?_
  refine s_getf K d15_33 (pc' := 36) rfl (w63 hw) (k := 0) rfl (j := 7) rfl ?_
  refine s_iloadN K d15_36 (pc' := 37) rfl rfl ?_
  refine s_dup2 K d15_37 (pc' := 38) rfl rfl rfl ?_
  refine s_iaload K d15_38 (pc' := 39) rfl (k := 4) rfl (i := 1) (by decide) rfl ?_
  refine s_iconst K d15_39 (pc' := 40) rfl (z := (1 : Int32)) rfl ?_
  refine s_iadd K d15_40 (pc' := 41) rfl (z := (1 : Int32)) rfl ?_
  refine s_iastore K d15_41 (pc' := 42) rfl (k := 4) rfl (i := 1) (by decide) (ltB rfl) (L' := ((b110, oLS (.int 0) (.int 0) .null (.int 0) (.int 0) (.ref b111) (.ref b112) (.ref b142) (.ref b141) (.ref b108) (.ref b109) (.ref b139) (.ref b107) (.ref b106) (.ref b135) (.ref b138) (.ref b134) (.ref b140) .null (.ref b133) (.ref b132) (.ref b131) .null .null .null .null .null .null .null) :: (b107, .inr (.int, [.int 0, .int 1])) :: (b140, .inr (.int, [.int 0, .int 1, .int 4])) :: (b131, .inr (.int, [.int 1, .int 0])) :: (b142, .inr (.int, [.int 1, .int 1])) :: (b141, .inr (.long, [.long ((0 : Int64) + p0), .long 0])) :: (b108, .inr (.long, [.long hi, .long mid, .long lo, .long p0])) :: (b133, .inr (.int, [.int 3, .int 0, .int 0, .int 0])) :: (b132, .inr (.long, [.long p0, .long 0, .long 0, .long 0])) :: F)) rfl ?_
  refine s_aloadN K d15_42 (pc' := 43) rfl rfl rfl ?_
  refine s_getf K d15_43 (pc' := 46) rfl (w71 hw) (k := 0) rfl (j := 8) rfl ?_
  refine s_iloadN K d15_46 (pc' := 47) rfl rfl ?_
  refine s_dup2 K d15_47 (pc' := 48) rfl rfl rfl ?_
  refine s_laload K d15_48 (pc' := 49) rfl (k := 5) rfl (i := 1) (by decide) rfl ?_
  refine s_aloadN K d15_49 (pc' := 50) rfl rfl rfl ?_
  refine s_getf K d15_50 (pc' := 53) rfl (w73 hw) (k := 0) rfl (j := 9) rfl ?_
  refine s_iloadN K d15_53 (pc' := 54) rfl rfl ?_
  refine s_laload K d15_54 (pc' := 55) rfl (k := 6) rfl (i := 0) (by decide) rfl ?_
  refine s_ladd K d15_55 (pc' := 56) rfl (z := (0 : Int64) + hi) rfl ?_
  refine s_lastore K d15_56 (pc' := 57) rfl (k := 5) rfl (i := 1) (by decide) (ltB rfl) (L' := ((b110, oLS (.int 0) (.int 0) .null (.int 0) (.int 0) (.ref b111) (.ref b112) (.ref b142) (.ref b141) (.ref b108) (.ref b109) (.ref b139) (.ref b107) (.ref b106) (.ref b135) (.ref b138) (.ref b134) (.ref b140) .null (.ref b133) (.ref b132) (.ref b131) .null .null .null .null .null .null .null) :: (b107, .inr (.int, [.int 0, .int 1])) :: (b140, .inr (.int, [.int 0, .int 1, .int 4])) :: (b131, .inr (.int, [.int 1, .int 0])) :: (b142, .inr (.int, [.int 1, .int 1])) :: (b141, .inr (.long, [.long ((0 : Int64) + p0), .long ((0 : Int64) + hi)])) :: (b108, .inr (.long, [.long hi, .long mid, .long lo, .long p0])) :: (b133, .inr (.int, [.int 3, .int 0, .int 0, .int 0])) :: (b132, .inr (.long, [.long p0, .long 0, .long 0, .long 0])) :: F)) rfl ?_
  exact s_return K d15_57 (by decide) (by decide) ⟨rfl, rfl⟩
set_option maxRecDepth 65536 in
set_option maxHeartbeats 400000000 in
theorem k27_put {l : Launch} {Z : State} {a0 : Array Value} (hw : HW Z a0) {n0 : Nat} (F : Wd) (b110 b107 b140 b131 b142 b141 b108 b133 b132 b111 b112 b109 b139 b106 b135 b138 b134 : Addr) (hi : Int64) (mid : Int64) (lo : Int64) (p0 : Int64) :
    Con l Z n0 (⟨"com/example/evenkeel/evenkeel/LagSeats", "put", "(II)V"⟩ : MethodName) prog_60_method_30_code 3 none ({ frames := 0, cells := 0, slots := 0, locals := 0 } : Room) [.ref b110, .int 1, .int 0] ((b110, oLS (.int 0) (.int 0) .null (.int 0) (.int 0) (.ref b111) (.ref b112) (.ref b142) (.ref b141) (.ref b108) (.ref b109) (.ref b139) (.ref b107) (.ref b106) (.ref b135) (.ref b138) (.ref b134) (.ref b140) .null (.ref b133) (.ref b132) (.ref b131) .null .null .null .null .null .null .null) :: (b107, .inr (.int, [.int 0, .int 1])) :: (b140, .inr (.int, [.int 0, .int 1, .int 4])) :: (b131, .inr (.int, [.int 1, .int 1])) :: (b142, .inr (.int, [.int 1, .int 1])) :: (b141, .inr (.long, [.long ((0 : Int64) + p0), .long ((0 : Int64) + hi)])) :: (b108, .inr (.long, [.long hi, .long mid, .long lo, .long p0])) :: (b133, .inr (.int, [.int 3, .int 0, .int 0, .int 0])) :: (b132, .inr (.long, [.long p0, .long 0, .long 0, .long 0])) :: F) (fun v L' => v = none ∧ L' = ((b110, oLS (.int 0) (.int 0) .null (.int 0) (.int 0) (.ref b111) (.ref b112) (.ref b142) (.ref b141) (.ref b108) (.ref b109) (.ref b139) (.ref b107) (.ref b106) (.ref b135) (.ref b138) (.ref b134) (.ref b140) .null (.ref b133) (.ref b132) (.ref b131) .null .null .null .null .null .null .null) :: (b107, .inr (.int, [.int 0, .int 1])) :: (b140, .inr (.int, [.int 0, .int 1, .int 4])) :: (b131, .inr (.int, [.int 1, .int 1])) :: (b142, .inr (.int, [.int 1, .int 1])) :: (b141, .inr (.long, [.long ((0 : Int64) + p0), .long ((0 : Int64) + hi)])) :: (b108, .inr (.long, [.long hi, .long mid, .long lo, .long p0])) :: (b133, .inr (.int, [.int 3, .int 0, .int 0, .int 0])) :: (b132, .inr (.long, [.long p0, .long hi, .long 0, .long 0])) :: F)) := by
  refine Con.of (by decide +kernel) (Ls := #[.val (.ref b110), .val (.int 1), .val (.int 0)]) (fun m => by first | rfl | (simp [entryFrame, mkF, argsToLocals, Value.category]; done)) ?_
  intro κ K
  refine s_aloadN K d16_0 (pc' := 1) rfl rfl rfl ?_
  refine s_getf K d16_1 (pc' := 4) rfl (w134 hw) (k := 0) rfl (j := 19) rfl ?_
  refine s_iloadN K d16_4 (pc' := 5) rfl rfl ?_
  refine s_iloadN K d16_5 (pc' := 6) rfl rfl ?_
  refine s_iastore K d16_6 (pc' := 7) rfl (k := 7) rfl (i := 1) (by decide) (ltB rfl) (L' := ((b110, oLS (.int 0) (.int 0) .null (.int 0) (.int 0) (.ref b111) (.ref b112) (.ref b142) (.ref b141) (.ref b108) (.ref b109) (.ref b139) (.ref b107) (.ref b106) (.ref b135) (.ref b138) (.ref b134) (.ref b140) .null (.ref b133) (.ref b132) (.ref b131) .null .null .null .null .null .null .null) :: (b107, .inr (.int, [.int 0, .int 1])) :: (b140, .inr (.int, [.int 0, .int 1, .int 4])) :: (b131, .inr (.int, [.int 1, .int 1])) :: (b142, .inr (.int, [.int 1, .int 1])) :: (b141, .inr (.long, [.long ((0 : Int64) + p0), .long ((0 : Int64) + hi)])) :: (b108, .inr (.long, [.long hi, .long mid, .long lo, .long p0])) :: (b133, .inr (.int, [.int 3, .int 0, .int 0, .int 0])) :: (b132, .inr (.long, [.long p0, .long 0, .long 0, .long 0])) :: F)) rfl ?_
  refine s_aloadN K d16_7 (pc' := 8) rfl rfl rfl ?_
  refine s_getf K d16_8 (pc' := 11) rfl (w136 hw) (k := 0) rfl (j := 20) rfl ?_
  refine s_iloadN K d16_11 (pc' := 12) rfl rfl ?_
  refine s_aloadN K d16_12 (pc' := 13) rfl rfl rfl ?_
  refine s_getf K d16_13 (pc' := 16) rfl (w73 hw) (k := 0) rfl (j := 9) rfl ?_
  refine s_iloadN K d16_16 (pc' := 17) rfl rfl ?_
  refine s_laload K d16_17 (pc' := 18) rfl (k := 6) rfl (i := 0) (by decide) rfl ?_
  refine s_lastore K d16_18 (pc' := 19) rfl (k := 8) rfl (i := 1) (by decide) (ltB rfl) (L' := ((b110, oLS (.int 0) (.int 0) .null (.int 0) (.int 0) (.ref b111) (.ref b112) (.ref b142) (.ref b141) (.ref b108) (.ref b109) (.ref b139) (.ref b107) (.ref b106) (.ref b135) (.ref b138) (.ref b134) (.ref b140) .null (.ref b133) (.ref b132) (.ref b131) .null .null .null .null .null .null .null) :: (b107, .inr (.int, [.int 0, .int 1])) :: (b140, .inr (.int, [.int 0, .int 1, .int 4])) :: (b131, .inr (.int, [.int 1, .int 1])) :: (b142, .inr (.int, [.int 1, .int 1])) :: (b141, .inr (.long, [.long ((0 : Int64) + p0), .long ((0 : Int64) + hi)])) :: (b108, .inr (.long, [.long hi, .long mid, .long lo, .long p0])) :: (b133, .inr (.int, [.int 3, .int 0, .int 0, .int 0])) :: (b132, .inr (.long, [.long p0, .long hi, .long 0, .long 0])) :: F)) rfl ?_
  exact s_return K d16_19 (by decide) (by decide) ⟨rfl, rfl⟩
set_option maxRecDepth 65536 in
set_option maxHeartbeats 400000000 in
theorem k25_place {l : Launch} {Z : State} {a0 : Array Value} (hw : HW Z a0) {n0 : Nat} (F : Wd) (b110 b107 b140 b131 b142 b141 b108 b133 b132 b111 b112 b109 b139 b106 b135 b138 b134 : Addr) (hi : Int64) (mid : Int64) (lo : Int64) (p0 : Int64) :
    Con l Z n0 (⟨"com/example/evenkeel/evenkeel/LagSeats", "place", "(II)V"⟩ : MethodName) prog_60_method_26_code 3 none ({ frames := 1, cells := 0, slots := 0, locals := 14 } : Room) [.ref b110, .int 1, .int 0] ((b110, oLS (.int 0) (.int 0) .null (.int 0) (.int 0) (.ref b111) (.ref b112) (.ref b142) (.ref b141) (.ref b108) (.ref b109) (.ref b139) (.ref b107) (.ref b106) (.ref b135) (.ref b138) (.ref b134) (.ref b140) .null (.ref b133) (.ref b132) (.ref b131) .null .null .null .null .null .null .null) :: (b107, .inr (.int, [.int 0, .int 1])) :: (b140, .inr (.int, [.int 0, .int 1, .int 4])) :: (b131, .inr (.int, [.int 1, .int 0])) :: (b142, .inr (.int, [.int 1, .int 0])) :: (b141, .inr (.long, [.long ((0 : Int64) + p0), .long 0])) :: (b108, .inr (.long, [.long hi, .long mid, .long lo, .long p0])) :: (b133, .inr (.int, [.int 3, .int 0, .int 0, .int 0])) :: (b132, .inr (.long, [.long p0, .long 0, .long 0, .long 0])) :: F) (fun v L' => v = none ∧ L' = ((b110, oLS (.int 0) (.int 0) .null (.int 0) (.int 0) (.ref b111) (.ref b112) (.ref b142) (.ref b141) (.ref b108) (.ref b109) (.ref b139) (.ref b107) (.ref b106) (.ref b135) (.ref b138) (.ref b134) (.ref b140) .null (.ref b133) (.ref b132) (.ref b131) .null .null .null .null .null .null .null) :: (b107, .inr (.int, [.int 0, .int 1])) :: (b140, .inr (.int, [.int 0, .int 1, .int 4])) :: (b131, .inr (.int, [.int 1, .int 1])) :: (b142, .inr (.int, [.int 1, .int 1])) :: (b141, .inr (.long, [.long ((0 : Int64) + p0), .long ((0 : Int64) + hi)])) :: (b108, .inr (.long, [.long hi, .long mid, .long lo, .long p0])) :: (b133, .inr (.int, [.int 3, .int 0, .int 0, .int 0])) :: (b132, .inr (.long, [.long p0, .long hi, .long 0, .long 0])) :: F)) := by
  refine Con.of (by decide +kernel) (Ls := #[.val (.ref b110), .val (.int 1), .val (.int 0)]) (fun m => by first | rfl | (simp [entryFrame, mkF, argsToLocals, Value.category]; done)) ?_
  intro κ K
  refine s_aloadN K d14_0 (pc' := 1) rfl rfl rfl ?_
  refine s_aloadN K d14_1 (pc' := 2) rfl rfl rfl ?_
  refine s_getf K d14_2 (pc' := 5) rfl (w85 hw) (k := 0) rfl (j := 12) rfl ?_
  refine s_iloadN K d14_5 (pc' := 6) rfl rfl ?_
  refine s_iaload K d14_6 (pc' := 7) rfl (k := 1) rfl (i := 1) (by decide) rfl ?_
  refine s_iloadN K d14_7 (pc' := 8) rfl rfl ?_
  refine s_virtual K d14_8 (pc' := 11) rfl (k := 0) (a := b110) rfl (as := [.int 1, .int 0]) (k26_take hw _ b110 b107 b140 b131 b142 b141 b108 b133 b132 b111 b112 b109 b139 b106 b135 b138 b134 hi mid lo p0) (w159 hw) (w160 hw) (w162 hw) (w161 hw) (w35 hw) (w163 hw) (by decide) pd_0 rfl (rest := []) rfl rfl (W := 0) (Nat.le_of_eq rfl) (by decide) (by decide) (ce' := 0) rfl (sl' := 0) rfl (by decide) (by decide) ?_
  rintro v _ ⟨rfl, rfl⟩
  show Go l Z n0 _ _ κ 0 0 ((b110, oLS (.int 0) (.int 0) .null (.int 0) (.int 0) (.ref b111) (.ref b112) (.ref b142) (.ref b141) (.ref b108) (.ref b109) (.ref b139) (.ref b107) (.ref b106) (.ref b135) (.ref b138) (.ref b134) (.ref b140) .null (.ref b133) (.ref b132) (.ref b131) .null .null .null .null .null .null .null) :: (b107, .inr (.int, [.int 0, .int 1])) :: (b140, .inr (.int, [.int 0, .int 1, .int 4])) :: (b131, .inr (.int, [.int 1, .int 0])) :: (b142, .inr (.int, [.int 1, .int 1])) :: (b141, .inr (.long, [.long ((0 : Int64) + p0), .long ((0 : Int64) + hi)])) :: (b108, .inr (.long, [.long hi, .long mid, .long lo, .long p0])) :: (b133, .inr (.int, [.int 3, .int 0, .int 0, .int 0])) :: (b132, .inr (.long, [.long p0, .long 0, .long 0, .long 0])) :: F) 11 #[.val (.ref b110), .val (.int 1), .val (.int 0)] []
  refine s_aloadN K d14_11 (pc' := 12) rfl rfl rfl ?_
  refine s_aloadN K d14_12 (pc' := 13) rfl rfl rfl ?_
  refine s_getf K d14_13 (pc' := 16) rfl (w96 hw) (k := 0) rfl (j := 17) rfl ?_
  refine s_iloadN K d14_16 (pc' := 17) rfl rfl ?_
  refine s_iaload K d14_17 (pc' := 18) rfl (k := 2) rfl (i := 1) (by decide) rfl ?_
  refine s_aloadN K d14_18 (pc' := 19) rfl rfl rfl ?_
  refine s_getf K d14_19 (pc' := 22) rfl (w138 hw) (k := 0) rfl (j := 21) rfl ?_
  refine s_iloadN K d14_22 (pc' := 23) rfl rfl ?_
  refine s_dup2 K d14_23 (pc' := 24) rfl rfl rfl ?_
  refine s_iaload K d14_24 (pc' := 25) rfl (k := 3) rfl (i := 1) (by decide) rfl ?_
  refine s_dupx2 K d14_25 (pc' := 26) rfl rfl rfl rfl ?_
  refine s_iconst K d14_26 (pc' := 27) rfl (z := (1 : Int32)) rfl ?_
  refine s_iadd K d14_27 (pc' := 28) rfl (z := (1 : Int32)) rfl ?_
  refine s_iastore K d14_28 (pc' := 29) rfl (k := 3) rfl (i := 1) (by decide) (ltB rfl) (L' := ((b110, oLS (.int 0) (.int 0) .null (.int 0) (.int 0) (.ref b111) (.ref b112) (.ref b142) (.ref b141) (.ref b108) (.ref b109) (.ref b139) (.ref b107) (.ref b106) (.ref b135) (.ref b138) (.ref b134) (.ref b140) .null (.ref b133) (.ref b132) (.ref b131) .null .null .null .null .null .null .null) :: (b107, .inr (.int, [.int 0, .int 1])) :: (b140, .inr (.int, [.int 0, .int 1, .int 4])) :: (b131, .inr (.int, [.int 1, .int 1])) :: (b142, .inr (.int, [.int 1, .int 1])) :: (b141, .inr (.long, [.long ((0 : Int64) + p0), .long ((0 : Int64) + hi)])) :: (b108, .inr (.long, [.long hi, .long mid, .long lo, .long p0])) :: (b133, .inr (.int, [.int 3, .int 0, .int 0, .int 0])) :: (b132, .inr (.long, [.long p0, .long 0, .long 0, .long 0])) :: F)) rfl ?_
  refine s_iadd K d14_29 (pc' := 30) rfl (z := (1 : Int32)) rfl ?_
  refine s_iloadN K d14_30 (pc' := 31) rfl rfl ?_
  refine s_private K d14_31 (pc' := 34) rfl (k := 0) (a := b110) rfl (as := [.int 1, .int 0]) (k27_put hw _ b110 b107 b140 b131 b142 b141 b108 b133 b132 b111 b112 b109 b139 b106 b135 b138 b134 hi mid lo p0) (w164 hw) (w157 hw) rfl (w165 hw) (w166 hw) (w35 hw) (w167 hw) (by decide) pd_0 rfl (rest := []) rfl rfl (W := 0) (Nat.le_of_eq rfl) (by decide) (by decide) (ce' := 0) rfl (sl' := 0) rfl (by decide) (by decide) ?_
  rintro v _ ⟨rfl, rfl⟩
  show Go l Z n0 _ _ κ 0 0 ((b110, oLS (.int 0) (.int 0) .null (.int 0) (.int 0) (.ref b111) (.ref b112) (.ref b142) (.ref b141) (.ref b108) (.ref b109) (.ref b139) (.ref b107) (.ref b106) (.ref b135) (.ref b138) (.ref b134) (.ref b140) .null (.ref b133) (.ref b132) (.ref b131) .null .null .null .null .null .null .null) :: (b107, .inr (.int, [.int 0, .int 1])) :: (b140, .inr (.int, [.int 0, .int 1, .int 4])) :: (b131, .inr (.int, [.int 1, .int 1])) :: (b142, .inr (.int, [.int 1, .int 1])) :: (b141, .inr (.long, [.long ((0 : Int64) + p0), .long ((0 : Int64) + hi)])) :: (b108, .inr (.long, [.long hi, .long mid, .long lo, .long p0])) :: (b133, .inr (.int, [.int 3, .int 0, .int 0, .int 0])) :: (b132, .inr (.long, [.long p0, .long hi, .long 0, .long 0])) :: F) 34 #[.val (.ref b110), .val (.int 1), .val (.int 0)] []
  refine s_aloadN K d14_34 (pc' := 35) rfl rfl rfl ?_
  refine s_getf K d14_35 (pc' := 38) rfl (w140 hw) (k := 0) rfl (j := 22) rfl ?_
  refine s_nullY K d14_38 (by decide) (pc' := 47) (by decide) ?_
  exact s_return K d14_47 (by decide) (by decide) ⟨rfl, rfl⟩
set_option maxRecDepth 65536 in
set_option maxHeartbeats 400000000 in
theorem first11 {l : Launch} {Z : State} {a0 : Array Value} (hw : HW Z a0) {n0 : Nat} (F : Wd) (b110 b107 b140 b131 b142 b141 b108 b133 b132 b111 b112 b109 b139 b106 b135 b138 b134 : Addr) (hi : Int64) (mid : Int64) (lo : Int64) (p0 : Int64) (p3 : Int64)  :
    Con l Z n0 (⟨"com/example/evenkeel/evenkeel/LagSeats", "firstAtMost", "(IJ)I"⟩ : MethodName) prog_60_method_33_code 7 (some .int) ({ frames := 0, cells := 0, slots := 0, locals := 0 } : Room) [.ref b110, .int (1 : Int32), .long p3] ((b110, oLS (.int 0) (.int 0) .null (.int 0) (.int 0) (.ref b111) (.ref b112) (.ref b142) (.ref b141) (.ref b108) (.ref b109) (.ref b139) (.ref b107) (.ref b106) (.ref b135) (.ref b138) (.ref b134) (.ref b140) .null (.ref b133) (.ref b132) (.ref b131) .null .null .null .null .null .null .null) :: (b107, .inr (.int, [.int 0, .int 1])) :: (b140, .inr (.int, [.int 0, .int 1, .int 4])) :: (b131, .inr (.int, [.int 1, .int 1])) :: (b142, .inr (.int, [.int 1, .int 1])) :: (b141, .inr (.long, [.long ((0 : Int64) + p0), .long ((0 : Int64) + hi)])) :: (b108, .inr (.long, [.long hi, .long mid, .long lo, .long p0])) :: (b133, .inr (.int, [.int 3, .int 0, .int 0, .int 0])) :: (b132, .inr (.long, [.long p0, .long hi, .long 0, .long 0])) :: F) (fun v L' => v = some (.int (Int32.ofNat (1 + own_b hi p3))) ∧ L' = ((b110, oLS (.int 0) (.int 0) .null (.int 0) (.int 0) (.ref b111) (.ref b112) (.ref b142) (.ref b141) (.ref b108) (.ref b109) (.ref b139) (.ref b107) (.ref b106) (.ref b135) (.ref b138) (.ref b134) (.ref b140) .null (.ref b133) (.ref b132) (.ref b131) .null .null .null .null .null .null .null) :: (b107, .inr (.int, [.int 0, .int 1])) :: (b140, .inr (.int, [.int 0, .int 1, .int 4])) :: (b131, .inr (.int, [.int 1, .int 1])) :: (b142, .inr (.int, [.int 1, .int 1])) :: (b141, .inr (.long, [.long ((0 : Int64) + p0), .long ((0 : Int64) + hi)])) :: (b108, .inr (.long, [.long hi, .long mid, .long lo, .long p0])) :: (b133, .inr (.int, [.int 3, .int 0, .int 0, .int 0])) :: (b132, .inr (.long, [.long p0, .long hi, .long 0, .long 0])) :: F)) := by
  refine Con.of (by decide +kernel) (Ls := #[.val (.ref b110), .val (.int 1), .val (.long p3), .second, .unset, .unset, .unset]) (fun m => by first | rfl | (simp [entryFrame, mkF, argsToLocals, Value.category]; done)) ?_
  intro κ K
  refine s_aloadN K d17_0 (pc' := 1) rfl rfl rfl ?_
  refine s_getf K d17_1 (pc' := 4) rfl (w96 hw) (k := 0) rfl (j := 17) rfl ?_
  refine s_iloadN K d17_4 (pc' := 5) rfl rfl ?_
  refine s_iaload K d17_5 (pc' := 6) rfl (k := 2) rfl (i := 1) (by decide) rfl ?_
  refine s_istore K d17_6 (pc' := 8) rfl (Ls' := #[.val (.ref b110), .val (.int 1), .val (.long p3), .second, .val (.int 1), .unset, .unset]) rfl ?_
  refine s_iload K d17_8 (pc' := 10) rfl rfl ?_
  refine s_aloadN K d17_10 (pc' := 11) rfl rfl rfl ?_
  refine s_getf K d17_11 (pc' := 14) rfl (w138 hw) (k := 0) rfl (j := 21) rfl ?_
  refine s_iloadN K d17_14 (pc' := 15) rfl rfl ?_
  refine s_iaload K d17_15 (pc' := 16) rfl (k := 3) rfl (i := 1) (by decide) rfl ?_
  refine s_iadd K d17_16 (pc' := 17) rfl (z := (2 : Int32)) rfl ?_
  refine s_istore K d17_17 (pc' := 19) rfl (Ls' := #[.val (.ref b110), .val (.int 1), .val (.long p3), .second, .val (.int 1), .val (.int 2), .unset]) rfl ?_
  refine s_iload K d17_19 (pc' := 21) rfl rfl ?_
  refine s_iload K d17_21 (pc' := 23) rfl rfl ?_
  refine s_icN K d17_23 (pc' := 26) rfl rfl ?_
  refine s_iload K d17_26 (pc' := 28) rfl rfl ?_
  refine s_iload K d17_28 (pc' := 30) rfl rfl ?_
  refine s_iadd K d17_30 (pc' := 31) rfl (z := (3 : Int32)) rfl ?_
  refine s_iconst K d17_31 (pc' := 32) rfl (z := (1 : Int32)) rfl ?_
  refine s_iushr K d17_32 (pc' := 33) rfl (z := (1 : Int32)) rfl ?_
  refine s_istore K d17_33 (pc' := 35) rfl (Ls' := #[.val (.ref b110), .val (.int 1), .val (.long p3), .second, .val (.int 1), .val (.int 2), .val (.int 1)]) rfl ?_
  refine s_aloadN K d17_35 (pc' := 36) rfl rfl rfl ?_
  refine s_getf K d17_36 (pc' := 39) rfl (w136 hw) (k := 0) rfl (j := 20) rfl ?_
  refine s_iload K d17_39 (pc' := 41) rfl rfl ?_
  refine s_laload K d17_41 (pc' := 42) rfl (k := 8) rfl (i := 1) (by decide) rfl ?_
  refine s_lloadN K d17_42 (pc' := 43) rfl rfl ?_
  refine s_lcmp K d17_43 (pc' := 44) rfl  ?_
  refine s_if K d17_44 (pn := 47) rfl (by decide) (pc' := 56) (by decide) (fun h1 => ?_) (fun h1 => ?_)
  · have g1 := own_leY h1
    refine s_iload K d17_56 (pc' := 58) rfl rfl ?_
    refine s_istore K d17_58 (pc' := 60) rfl (Ls' := #[.val (.ref b110), .val (.int 1), .val (.long p3), .second, .val (.int 1), .val (.int 1), .val (.int 1)]) rfl ?_
    refine s_goto K d17_60 (by decide) (pc' := 19) (by decide) ?_
    refine s_iload K d17_19 (pc' := 21) rfl rfl ?_
    refine s_iload K d17_21 (pc' := 23) rfl rfl ?_
    refine s_icY K d17_23 rfl (by decide) (pc' := 63) (by decide) ?_
    refine s_iload K d17_63 (pc' := 65) rfl rfl ?_
    exact s_ireturn K d17_65 (by decide) (by decide) ⟨by rw [own_b0 (x := hi) (t := p3) (by omega)]; rfl, rfl⟩
  · have g1 := own_leN h1
    refine s_iload K d17_47 (pc' := 49) rfl rfl ?_
    refine s_iconst K d17_49 (pc' := 50) rfl (z := (1 : Int32)) rfl ?_
    refine s_iadd K d17_50 (pc' := 51) rfl (z := (2 : Int32)) rfl ?_
    refine s_istore K d17_51 (pc' := 53) rfl (Ls' := #[.val (.ref b110), .val (.int 1), .val (.long p3), .second, .val (.int 2), .val (.int 2), .val (.int 1)]) rfl ?_
    refine s_goto K d17_53 (by decide) (pc' := 60) (by decide) ?_
    refine s_goto K d17_60 (by decide) (pc' := 19) (by decide) ?_
    refine s_iload K d17_19 (pc' := 21) rfl rfl ?_
    refine s_iload K d17_21 (pc' := 23) rfl rfl ?_
    refine s_icY K d17_23 rfl (by decide) (pc' := 63) (by decide) ?_
    refine s_iload K d17_63 (pc' := 65) rfl rfl ?_
    exact s_ireturn K d17_65 (by decide) (by decide) ⟨by rw [own_b1 (x := hi) (t := p3) (by omega)]; rfl, rfl⟩
set_option maxRecDepth 65536 in
set_option maxHeartbeats 400000000 in
theorem segB_110 {l : Launch} {Z : State} {a0 : Array Value} (hw : HW Z a0) {n0 : Nat} (p0 p1 p2 p3 hi mid lo : Int64) (p4 : Int32) (b110 b107 b140 b131 b142 b141 b108 b133 b132 b101 b109 b111 b112 b139 b106 b135 b138 b134 : Addr) (o1 : mid.toInt ≤ hi.toInt) (o2 : lo.toInt ≤ mid.toInt) (κ : Ctx) (K : Ok Z κ x.cls code maxLocals ret x.name) :
    Go l Z n0 room_1 (fun v _ => v = some (.int 1)) κ 21 83 [(b110, oLS (.int 0) (.int 0) .null (.int 0) (.int 0) (.ref b111) (.ref b112) (.ref b142) (.ref b141) (.ref b108) (.ref b109) (.ref b139) (.ref b107) (.ref b106) (.ref b135) (.ref b138) (.ref b134) (.ref b140) .null (.ref b133) (.ref b132) (.ref b131) .null .null .null .null .null .null .null), (b107, .inr (.int, [.int 0, .int 1])), (b140, .inr (.int, [.int 0, .int 1, .int 4])), (b131, .inr (.int, [.int 0, .int 0])), (b142, .inr (.int, [.int 0, .int 0])), (b141, .inr (.long, [.long 0, .long 0])), (b108, .inr (.long, [.long hi, .long mid, .long lo, .long p0])), (b133, .inr (.int, [.int 0, .int 0, .int 0, .int 0])), (b132, .inr (.long, [.long 0, .long 0, .long 0, .long 0]))] 172 #[.val (.long p0), .second, .val (.long p1), .second, .val (.long p2), .second, .val (.long p3), .second, .val (.int p4), .val (.long hi), .second, .val (.long lo), .second, .val (.long mid), .second, .val (.int 1), .val (.int 0), .val (.int 1), .val (.ref b101), .val (.ref b108), .val (.ref b109), .val (.ref b110), .unset, .unset] [] := by
  refine s_iload K at_172 (pc' := 174) rfl rfl ?_
  refine s_ifN K at_174 (pc' := 177) rfl rfl ?_
  refine s_aload K at_177 (pc' := 179) rfl rfl rfl ?_
  refine s_iconst K at_179 (pc' := 180) rfl (z := (0 : Int32)) rfl ?_
  refine s_iconst K at_180 (pc' := 181) rfl (z := (3 : Int32)) rfl ?_
  refine s_virtual K at_181 (pc' := 184) rfl (k := 0) (a := b110) rfl (as := [.int 0, .int 3]) (k22_place hw _ b110 b107 b140 b131 b142 b141 b108 b133 b132 b111 b112 b109 b139 b106 b135 b138 b134 hi mid lo p0) (w154 hw) (w155 hw) (w157 hw) (w156 hw) (w35 hw) (w158 hw) (by decide) pd_0 rfl (rest := []) rfl rfl (W := 0) (Nat.le_of_eq rfl) (by decide) (by decide) (ce' := 21) rfl (sl' := 83) rfl (by decide) (by decide) ?_
  rintro v _ ⟨rfl, rfl⟩
  show Go l Z n0 _ _ κ 21 83 [(b110, oLS (.int 0) (.int 0) .null (.int 0) (.int 0) (.ref b111) (.ref b112) (.ref b142) (.ref b141) (.ref b108) (.ref b109) (.ref b139) (.ref b107) (.ref b106) (.ref b135) (.ref b138) (.ref b134) (.ref b140) .null (.ref b133) (.ref b132) (.ref b131) .null .null .null .null .null .null .null), (b107, .inr (.int, [.int 0, .int 1])), (b140, .inr (.int, [.int 0, .int 1, .int 4])), (b131, .inr (.int, [.int 1, .int 0])), (b142, .inr (.int, [.int 1, .int 0])), (b141, .inr (.long, [.long ((0 : Int64) + p0), .long 0])), (b108, .inr (.long, [.long hi, .long mid, .long lo, .long p0])), (b133, .inr (.int, [.int 3, .int 0, .int 0, .int 0])), (b132, .inr (.long, [.long p0, .long 0, .long 0, .long 0]))] 184 #[.val (.long p0), .second, .val (.long p1), .second, .val (.long p2), .second, .val (.long p3), .second, .val (.int p4), .val (.long hi), .second, .val (.long lo), .second, .val (.long mid), .second, .val (.int 1), .val (.int 0), .val (.int 1), .val (.ref b101), .val (.ref b108), .val (.ref b109), .val (.ref b110), .unset, .unset] []
  refine s_iload K at_184 (pc' := 186) rfl rfl ?_
  refine s_iconst K at_186 (pc' := 187) rfl (z := (1 : Int32)) rfl ?_
  refine s_icN K at_187 (pc' := 190) rfl rfl ?_
  refine s_aload K at_190 (pc' := 192) rfl rfl rfl ?_
  refine s_iconst K at_192 (pc' := 193) rfl (z := (1 : Int32)) rfl ?_
  refine s_iconst K at_193 (pc' := 194) rfl (z := (0 : Int32)) rfl ?_
  refine s_virtual K at_194 (pc' := 197) rfl (k := 0) (a := b110) rfl (as := [.int 1, .int 0]) (k25_place hw _ b110 b107 b140 b131 b142 b141 b108 b133 b132 b111 b112 b109 b139 b106 b135 b138 b134 hi mid lo p0) (w154 hw) (w155 hw) (w157 hw) (w156 hw) (w35 hw) (w158 hw) (by decide) pd_0 rfl (rest := []) rfl rfl (W := 0) (Nat.le_of_eq rfl) (by decide) (by decide) (ce' := 21) rfl (sl' := 83) rfl (by decide) (by decide) ?_
  rintro v _ ⟨rfl, rfl⟩
  show Go l Z n0 _ _ κ 21 83 [(b110, oLS (.int 0) (.int 0) .null (.int 0) (.int 0) (.ref b111) (.ref b112) (.ref b142) (.ref b141) (.ref b108) (.ref b109) (.ref b139) (.ref b107) (.ref b106) (.ref b135) (.ref b138) (.ref b134) (.ref b140) .null (.ref b133) (.ref b132) (.ref b131) .null .null .null .null .null .null .null), (b107, .inr (.int, [.int 0, .int 1])), (b140, .inr (.int, [.int 0, .int 1, .int 4])), (b131, .inr (.int, [.int 1, .int 1])), (b142, .inr (.int, [.int 1, .int 1])), (b141, .inr (.long, [.long ((0 : Int64) + p0), .long ((0 : Int64) + hi)])), (b108, .inr (.long, [.long hi, .long mid, .long lo, .long p0])), (b133, .inr (.int, [.int 3, .int 0, .int 0, .int 0])), (b132, .inr (.long, [.long p0, .long hi, .long 0, .long 0]))] 197 #[.val (.long p0), .second, .val (.long p1), .second, .val (.long p2), .second, .val (.long p3), .second, .val (.int p4), .val (.long hi), .second, .val (.long lo), .second, .val (.long mid), .second, .val (.int 1), .val (.int 0), .val (.int 1), .val (.ref b101), .val (.ref b108), .val (.ref b109), .val (.ref b110), .unset, .unset] []
  refine s_iload K at_197 (pc' := 199) rfl rfl ?_
  refine s_iconst K at_199 (pc' := 200) rfl (z := (2 : Int32)) rfl ?_
  refine s_icY K at_200 rfl (by decide) (pc' := 210) (by decide) ?_
  refine s_iload K at_210 (pc' := 212) rfl rfl ?_
  refine s_iconst K at_212 (pc' := 213) rfl (z := (3 : Int32)) rfl ?_
  refine s_icY K at_213 rfl (by decide) (pc' := 223) (by decide) ?_
  refine s_iload K at_223 (pc' := 225) rfl rfl ?_
  refine s_ifY K at_225 rfl (by decide) (pc' := 260) (by decide) ?_
  refine s_aload K at_260 (pc' := 262) rfl rfl rfl ?_
  refine s_iconst K at_262 (pc' := 263) rfl (z := (1 : Int32)) rfl ?_
  refine s_lload K at_263 (pc' := 265) rfl rfl ?_
  refine s_virtual K at_265 (pc' := 268) rfl (k := 0) (a := b110) rfl (as := [.int 1, .long p3]) (first11 hw _ b110 b107 b140 b131 b142 b141 b108 b133 b132 b111 b112 b109 b139 b106 b135 b138 b134 hi mid lo p0 p3 ) (w168 hw) (w169 hw) (w171 hw) (w170 hw) (w35 hw) (w172 hw) (by decide) pd_9 rfl (rest := []) rfl rfl (W := 0) (Nat.le_of_eq rfl) (by decide) (by decide) (ce' := 21) rfl (sl' := 83) rfl (by decide) (by decide) ?_
  rintro v _ ⟨rfl, rfl⟩
  show Go l Z n0 _ _ κ 21 83 [(b110, oLS (.int 0) (.int 0) .null (.int 0) (.int 0) (.ref b111) (.ref b112) (.ref b142) (.ref b141) (.ref b108) (.ref b109) (.ref b139) (.ref b107) (.ref b106) (.ref b135) (.ref b138) (.ref b134) (.ref b140) .null (.ref b133) (.ref b132) (.ref b131) .null .null .null .null .null .null .null), (b107, .inr (.int, [.int 0, .int 1])), (b140, .inr (.int, [.int 0, .int 1, .int 4])), (b131, .inr (.int, [.int 1, .int 1])), (b142, .inr (.int, [.int 1, .int 1])), (b141, .inr (.long, [.long ((0 : Int64) + p0), .long ((0 : Int64) + hi)])), (b108, .inr (.long, [.long hi, .long mid, .long lo, .long p0])), (b133, .inr (.int, [.int 3, .int 0, .int 0, .int 0])), (b132, .inr (.long, [.long p0, .long hi, .long 0, .long 0]))] 268 #[.val (.long p0), .second, .val (.long p1), .second, .val (.long p2), .second, .val (.long p3), .second, .val (.int p4), .val (.long hi), .second, .val (.long lo), .second, .val (.long mid), .second, .val (.int 1), .val (.int 0), .val (.int 1), .val (.ref b101), .val (.ref b108), .val (.ref b109), .val (.ref b110), .unset, .unset] [.int (Int32.ofNat (1 + own_b hi p3))]
  refine s_istore K at_268 (pc' := 270) rfl (Ls' := #[.val (.long p0), .second, .val (.long p1), .second, .val (.long p2), .second, .val (.long p3), .second, .val (.int p4), .val (.long hi), .second, .val (.long lo), .second, .val (.long mid), .second, .val (.int 1), .val (.int 0), .val (.int 1), .val (.ref b101), .val (.ref b108), .val (.ref b109), .val (.ref b110), .val (.int (Int32.ofNat (1 + own_b hi p3))), .unset]) rfl ?_
  refine s_iconst K at_270 (pc' := 271) rfl (z := (1 : Int32)) rfl ?_
  refine s_istore K at_271 (pc' := 273) rfl (Ls' := #[.val (.long p0), .second, .val (.long p1), .second, .val (.long p2), .second, .val (.long p3), .second, .val (.int p4), .val (.long hi), .second, .val (.long lo), .second, .val (.long mid), .second, .val (.int 1), .val (.int 0), .val (.int 1), .val (.ref b101), .val (.ref b108), .val (.ref b109), .val (.ref b110), .val (.int (Int32.ofNat (1 + own_b hi p3))), .val (.int 1)]) rfl ?_
  refine s_iload K at_273 (pc' := 275) rfl rfl ?_
  refine s_iconst K at_275 (pc' := 276) rfl (z := (1 : Int32)) rfl ?_
  refine s_icN K at_276 (pc' := 279) rfl rfl ?_
  refine s_lload K at_279 (pc' := 281) rfl rfl ?_
  refine s_lload K at_281 (pc' := 283) rfl rfl ?_
  refine s_lcmp K at_283 (pc' := 284) rfl  ?_
  refine s_if K at_284 (pn := 287) rfl (by decide) (pc' := 293) (by decide) (fun h1 => ?_) (fun h1 => ?_)
  · have g1 := own_leY h1
    refine s_iload K at_293 (pc' := 295) rfl rfl ?_
    refine s_iconst K at_295 (pc' := 296) rfl (z := (2 : Int32)) rfl ?_
    refine s_icY K at_296 rfl (by decide) (pc' := 313) (by decide) ?_
    refine s_iload K at_313 (pc' := 315) rfl rfl ?_
    refine s_iconst K at_315 (pc' := 316) rfl (z := (3 : Int32)) rfl ?_
    refine s_icY K at_316 rfl (by decide) (pc' := 333) (by decide) ?_
    refine s_iload K at_333 (pc' := 335) rfl rfl ?_
    refine s_iload K at_335 (pc' := 337) rfl rfl ?_
    refine s_icN K at_337 (pc' := 340) rfl (teq (by rw [own_b0 (x := hi) (t := p3) g1]; rfl)).2 ?_
    refine s_iconst K at_340 (pc' := 341) rfl (z := (1 : Int32)) rfl ?_
    refine s_goto K at_341 (by decide) (pc' := 345) (by decide) ?_
    exact s_zreturn K at_345 rfl (by decide) (by decide) rfl
  · have g1 := own_leN h1
    refine s_iload K at_287 (pc' := 289) rfl rfl ?_
    refine s_iconst K at_289 (pc' := 290) rfl (z := (1 : Int32)) rfl ?_
    refine s_iadd K at_290 (pc' := 291) rfl (z := (2 : Int32)) rfl ?_
    refine s_istore K at_291 (pc' := 293) rfl (Ls' := #[.val (.long p0), .second, .val (.long p1), .second, .val (.long p2), .second, .val (.long p3), .second, .val (.int p4), .val (.long hi), .second, .val (.long lo), .second, .val (.long mid), .second, .val (.int 1), .val (.int 0), .val (.int 1), .val (.ref b101), .val (.ref b108), .val (.ref b109), .val (.ref b110), .val (.int (Int32.ofNat (1 + own_b hi p3))), .val (.int 2)]) rfl ?_
    refine s_iload K at_293 (pc' := 295) rfl rfl ?_
    refine s_iconst K at_295 (pc' := 296) rfl (z := (2 : Int32)) rfl ?_
    refine s_icY K at_296 rfl (by decide) (pc' := 313) (by decide) ?_
    refine s_iload K at_313 (pc' := 315) rfl rfl ?_
    refine s_iconst K at_315 (pc' := 316) rfl (z := (3 : Int32)) rfl ?_
    refine s_icY K at_316 rfl (by decide) (pc' := 333) (by decide) ?_
    refine s_iload K at_333 (pc' := 335) rfl rfl ?_
    refine s_iload K at_335 (pc' := 337) rfl rfl ?_
    refine s_icN K at_337 (pc' := 340) rfl (teq (by rw [own_b1 (x := hi) (t := p3) g1]; rfl)).2 ?_
    refine s_iconst K at_340 (pc' := 341) rfl (z := (1 : Int32)) rfl ?_
    refine s_goto K at_341 (by decide) (pc' := 345) (by decide) ?_
    exact s_zreturn K at_345 rfl (by decide) (by decide) rfl
set_option maxRecDepth 65536 in
set_option maxHeartbeats 400000000 in
theorem first12 {l : Launch} {Z : State} {a0 : Array Value} (hw : HW Z a0) {n0 : Nat} (F : Wd) (b110 b107 b140 b131 b142 b141 b108 b133 b132 b111 b112 b109 b139 b106 b135 b138 b134 : Addr) (hi : Int64) (mid : Int64) (lo : Int64) (p0 : Int64) (p3 : Int64)  :
    Con l Z n0 (⟨"com/example/evenkeel/evenkeel/LagSeats", "firstAtMost", "(IJ)I"⟩ : MethodName) prog_60_method_33_code 7 (some .int) ({ frames := 0, cells := 0, slots := 0, locals := 0 } : Room) [.ref b110, .int (0 : Int32), .long p3] ((b110, oLS (.int 0) (.int 0) .null (.int 0) (.int 0) (.ref b111) (.ref b112) (.ref b142) (.ref b141) (.ref b108) (.ref b109) (.ref b139) (.ref b107) (.ref b106) (.ref b135) (.ref b138) (.ref b134) (.ref b140) .null (.ref b133) (.ref b132) (.ref b131) .null .null .null .null .null .null .null) :: (b107, .inr (.int, [.int 0, .int 1])) :: (b140, .inr (.int, [.int 0, .int 1, .int 4])) :: (b131, .inr (.int, [.int 1, .int 1])) :: (b142, .inr (.int, [.int 1, .int 1])) :: (b141, .inr (.long, [.long ((0 : Int64) + p0), .long ((0 : Int64) + hi)])) :: (b108, .inr (.long, [.long hi, .long mid, .long lo, .long p0])) :: (b133, .inr (.int, [.int 3, .int 0, .int 0, .int 0])) :: (b132, .inr (.long, [.long p0, .long hi, .long 0, .long 0])) :: F) (fun v L' => v = some (.int (Int32.ofNat (0 + own_b p0 p3))) ∧ L' = ((b110, oLS (.int 0) (.int 0) .null (.int 0) (.int 0) (.ref b111) (.ref b112) (.ref b142) (.ref b141) (.ref b108) (.ref b109) (.ref b139) (.ref b107) (.ref b106) (.ref b135) (.ref b138) (.ref b134) (.ref b140) .null (.ref b133) (.ref b132) (.ref b131) .null .null .null .null .null .null .null) :: (b107, .inr (.int, [.int 0, .int 1])) :: (b140, .inr (.int, [.int 0, .int 1, .int 4])) :: (b131, .inr (.int, [.int 1, .int 1])) :: (b142, .inr (.int, [.int 1, .int 1])) :: (b141, .inr (.long, [.long ((0 : Int64) + p0), .long ((0 : Int64) + hi)])) :: (b108, .inr (.long, [.long hi, .long mid, .long lo, .long p0])) :: (b133, .inr (.int, [.int 3, .int 0, .int 0, .int 0])) :: (b132, .inr (.long, [.long p0, .long hi, .long 0, .long 0])) :: F)) := by
  refine Con.of (by decide +kernel) (Ls := #[.val (.ref b110), .val (.int 0), .val (.long p3), .second, .unset, .unset, .unset]) (fun m => by first | rfl | (simp [entryFrame, mkF, argsToLocals, Value.category]; done)) ?_
  intro κ K
  refine s_aloadN K d17_0 (pc' := 1) rfl rfl rfl ?_
  refine s_getf K d17_1 (pc' := 4) rfl (w96 hw) (k := 0) rfl (j := 17) rfl ?_
  refine s_iloadN K d17_4 (pc' := 5) rfl rfl ?_
  refine s_iaload K d17_5 (pc' := 6) rfl (k := 2) rfl (i := 0) (by decide) rfl ?_
  refine s_istore K d17_6 (pc' := 8) rfl (Ls' := #[.val (.ref b110), .val (.int 0), .val (.long p3), .second, .val (.int 0), .unset, .unset]) rfl ?_
  refine s_iload K d17_8 (pc' := 10) rfl rfl ?_
  refine s_aloadN K d17_10 (pc' := 11) rfl rfl rfl ?_
  refine s_getf K d17_11 (pc' := 14) rfl (w138 hw) (k := 0) rfl (j := 21) rfl ?_
  refine s_iloadN K d17_14 (pc' := 15) rfl rfl ?_
  refine s_iaload K d17_15 (pc' := 16) rfl (k := 3) rfl (i := 0) (by decide) rfl ?_
  refine s_iadd K d17_16 (pc' := 17) rfl (z := (1 : Int32)) rfl ?_
  refine s_istore K d17_17 (pc' := 19) rfl (Ls' := #[.val (.ref b110), .val (.int 0), .val (.long p3), .second, .val (.int 0), .val (.int 1), .unset]) rfl ?_
  refine s_iload K d17_19 (pc' := 21) rfl rfl ?_
  refine s_iload K d17_21 (pc' := 23) rfl rfl ?_
  refine s_icN K d17_23 (pc' := 26) rfl rfl ?_
  refine s_iload K d17_26 (pc' := 28) rfl rfl ?_
  refine s_iload K d17_28 (pc' := 30) rfl rfl ?_
  refine s_iadd K d17_30 (pc' := 31) rfl (z := (1 : Int32)) rfl ?_
  refine s_iconst K d17_31 (pc' := 32) rfl (z := (1 : Int32)) rfl ?_
  refine s_iushr K d17_32 (pc' := 33) rfl (z := (0 : Int32)) rfl ?_
  refine s_istore K d17_33 (pc' := 35) rfl (Ls' := #[.val (.ref b110), .val (.int 0), .val (.long p3), .second, .val (.int 0), .val (.int 1), .val (.int 0)]) rfl ?_
  refine s_aloadN K d17_35 (pc' := 36) rfl rfl rfl ?_
  refine s_getf K d17_36 (pc' := 39) rfl (w136 hw) (k := 0) rfl (j := 20) rfl ?_
  refine s_iload K d17_39 (pc' := 41) rfl rfl ?_
  refine s_laload K d17_41 (pc' := 42) rfl (k := 8) rfl (i := 0) (by decide) rfl ?_
  refine s_lloadN K d17_42 (pc' := 43) rfl rfl ?_
  refine s_lcmp K d17_43 (pc' := 44) rfl  ?_
  refine s_if K d17_44 (pn := 47) rfl (by decide) (pc' := 56) (by decide) (fun h1 => ?_) (fun h1 => ?_)
  · have g1 := own_leY h1
    refine s_iload K d17_56 (pc' := 58) rfl rfl ?_
    refine s_istore K d17_58 (pc' := 60) rfl (Ls' := #[.val (.ref b110), .val (.int 0), .val (.long p3), .second, .val (.int 0), .val (.int 0), .val (.int 0)]) rfl ?_
    refine s_goto K d17_60 (by decide) (pc' := 19) (by decide) ?_
    refine s_iload K d17_19 (pc' := 21) rfl rfl ?_
    refine s_iload K d17_21 (pc' := 23) rfl rfl ?_
    refine s_icY K d17_23 rfl (by decide) (pc' := 63) (by decide) ?_
    refine s_iload K d17_63 (pc' := 65) rfl rfl ?_
    exact s_ireturn K d17_65 (by decide) (by decide) ⟨by rw [own_b0 (x := p0) (t := p3) (by omega)]; rfl, rfl⟩
  · have g1 := own_leN h1
    refine s_iload K d17_47 (pc' := 49) rfl rfl ?_
    refine s_iconst K d17_49 (pc' := 50) rfl (z := (1 : Int32)) rfl ?_
    refine s_iadd K d17_50 (pc' := 51) rfl (z := (1 : Int32)) rfl ?_
    refine s_istore K d17_51 (pc' := 53) rfl (Ls' := #[.val (.ref b110), .val (.int 0), .val (.long p3), .second, .val (.int 1), .val (.int 1), .val (.int 0)]) rfl ?_
    refine s_goto K d17_53 (by decide) (pc' := 60) (by decide) ?_
    refine s_goto K d17_60 (by decide) (pc' := 19) (by decide) ?_
    refine s_iload K d17_19 (pc' := 21) rfl rfl ?_
    refine s_iload K d17_21 (pc' := 23) rfl rfl ?_
    refine s_icY K d17_23 rfl (by decide) (pc' := 63) (by decide) ?_
    refine s_iload K d17_63 (pc' := 65) rfl rfl ?_
    exact s_ireturn K d17_65 (by decide) (by decide) ⟨by rw [own_b1 (x := p0) (t := p3) (by omega)]; rfl, rfl⟩
set_option maxRecDepth 65536 in
set_option maxHeartbeats 400000000 in
theorem segB_111 {l : Launch} {Z : State} {a0 : Array Value} (hw : HW Z a0) {n0 : Nat} (p0 p1 p2 p3 hi mid lo : Int64) (p4 : Int32) (b110 b107 b140 b131 b142 b141 b108 b133 b132 b101 b109 b111 b112 b139 b106 b135 b138 b134 : Addr) (o1 : mid.toInt ≤ hi.toInt) (o2 : lo.toInt ≤ mid.toInt) (κ : Ctx) (K : Ok Z κ x.cls code maxLocals ret x.name) :
    Go l Z n0 room_1 (fun v _ => v = some (.int 1)) κ 21 83 [(b110, oLS (.int 0) (.int 0) .null (.int 0) (.int 0) (.ref b111) (.ref b112) (.ref b142) (.ref b141) (.ref b108) (.ref b109) (.ref b139) (.ref b107) (.ref b106) (.ref b135) (.ref b138) (.ref b134) (.ref b140) .null (.ref b133) (.ref b132) (.ref b131) .null .null .null .null .null .null .null), (b107, .inr (.int, [.int 0, .int 1])), (b140, .inr (.int, [.int 0, .int 1, .int 4])), (b131, .inr (.int, [.int 0, .int 0])), (b142, .inr (.int, [.int 0, .int 0])), (b141, .inr (.long, [.long 0, .long 0])), (b108, .inr (.long, [.long hi, .long mid, .long lo, .long p0])), (b133, .inr (.int, [.int 0, .int 0, .int 0, .int 0])), (b132, .inr (.long, [.long 0, .long 0, .long 0, .long 0]))] 172 #[.val (.long p0), .second, .val (.long p1), .second, .val (.long p2), .second, .val (.long p3), .second, .val (.int p4), .val (.long hi), .second, .val (.long lo), .second, .val (.long mid), .second, .val (.int 1), .val (.int 1), .val (.int 1), .val (.ref b101), .val (.ref b108), .val (.ref b109), .val (.ref b110), .unset, .unset] [] := by
  refine s_iload K at_172 (pc' := 174) rfl rfl ?_
  refine s_ifN K at_174 (pc' := 177) rfl rfl ?_
  refine s_aload K at_177 (pc' := 179) rfl rfl rfl ?_
  refine s_iconst K at_179 (pc' := 180) rfl (z := (0 : Int32)) rfl ?_
  refine s_iconst K at_180 (pc' := 181) rfl (z := (3 : Int32)) rfl ?_
  refine s_virtual K at_181 (pc' := 184) rfl (k := 0) (a := b110) rfl (as := [.int 0, .int 3]) (k22_place hw _ b110 b107 b140 b131 b142 b141 b108 b133 b132 b111 b112 b109 b139 b106 b135 b138 b134 hi mid lo p0) (w154 hw) (w155 hw) (w157 hw) (w156 hw) (w35 hw) (w158 hw) (by decide) pd_0 rfl (rest := []) rfl rfl (W := 0) (Nat.le_of_eq rfl) (by decide) (by decide) (ce' := 21) rfl (sl' := 83) rfl (by decide) (by decide) ?_
  rintro v _ ⟨rfl, rfl⟩
  show Go l Z n0 _ _ κ 21 83 [(b110, oLS (.int 0) (.int 0) .null (.int 0) (.int 0) (.ref b111) (.ref b112) (.ref b142) (.ref b141) (.ref b108) (.ref b109) (.ref b139) (.ref b107) (.ref b106) (.ref b135) (.ref b138) (.ref b134) (.ref b140) .null (.ref b133) (.ref b132) (.ref b131) .null .null .null .null .null .null .null), (b107, .inr (.int, [.int 0, .int 1])), (b140, .inr (.int, [.int 0, .int 1, .int 4])), (b131, .inr (.int, [.int 1, .int 0])), (b142, .inr (.int, [.int 1, .int 0])), (b141, .inr (.long, [.long ((0 : Int64) + p0), .long 0])), (b108, .inr (.long, [.long hi, .long mid, .long lo, .long p0])), (b133, .inr (.int, [.int 3, .int 0, .int 0, .int 0])), (b132, .inr (.long, [.long p0, .long 0, .long 0, .long 0]))] 184 #[.val (.long p0), .second, .val (.long p1), .second, .val (.long p2), .second, .val (.long p3), .second, .val (.int p4), .val (.long hi), .second, .val (.long lo), .second, .val (.long mid), .second, .val (.int 1), .val (.int 1), .val (.int 1), .val (.ref b101), .val (.ref b108), .val (.ref b109), .val (.ref b110), .unset, .unset] []
  refine s_iload K at_184 (pc' := 186) rfl rfl ?_
  refine s_iconst K at_186 (pc' := 187) rfl (z := (1 : Int32)) rfl ?_
  refine s_icN K at_187 (pc' := 190) rfl rfl ?_
  refine s_aload K at_190 (pc' := 192) rfl rfl rfl ?_
  refine s_iconst K at_192 (pc' := 193) rfl (z := (1 : Int32)) rfl ?_
  refine s_iconst K at_193 (pc' := 194) rfl (z := (0 : Int32)) rfl ?_
  refine s_virtual K at_194 (pc' := 197) rfl (k := 0) (a := b110) rfl (as := [.int 1, .int 0]) (k25_place hw _ b110 b107 b140 b131 b142 b141 b108 b133 b132 b111 b112 b109 b139 b106 b135 b138 b134 hi mid lo p0) (w154 hw) (w155 hw) (w157 hw) (w156 hw) (w35 hw) (w158 hw) (by decide) pd_0 rfl (rest := []) rfl rfl (W := 0) (Nat.le_of_eq rfl) (by decide) (by decide) (ce' := 21) rfl (sl' := 83) rfl (by decide) (by decide) ?_
  rintro v _ ⟨rfl, rfl⟩
  show Go l Z n0 _ _ κ 21 83 [(b110, oLS (.int 0) (.int 0) .null (.int 0) (.int 0) (.ref b111) (.ref b112) (.ref b142) (.ref b141) (.ref b108) (.ref b109) (.ref b139) (.ref b107) (.ref b106) (.ref b135) (.ref b138) (.ref b134) (.ref b140) .null (.ref b133) (.ref b132) (.ref b131) .null .null .null .null .null .null .null), (b107, .inr (.int, [.int 0, .int 1])), (b140, .inr (.int, [.int 0, .int 1, .int 4])), (b131, .inr (.int, [.int 1, .int 1])), (b142, .inr (.int, [.int 1, .int 1])), (b141, .inr (.long, [.long ((0 : Int64) + p0), .long ((0 : Int64) + hi)])), (b108, .inr (.long, [.long hi, .long mid, .long lo, .long p0])), (b133, .inr (.int, [.int 3, .int 0, .int 0, .int 0])), (b132, .inr (.long, [.long p0, .long hi, .long 0, .long 0]))] 197 #[.val (.long p0), .second, .val (.long p1), .second, .val (.long p2), .second, .val (.long p3), .second, .val (.int p4), .val (.long hi), .second, .val (.long lo), .second, .val (.long mid), .second, .val (.int 1), .val (.int 1), .val (.int 1), .val (.ref b101), .val (.ref b108), .val (.ref b109), .val (.ref b110), .unset, .unset] []
  refine s_iload K at_197 (pc' := 199) rfl rfl ?_
  refine s_iconst K at_199 (pc' := 200) rfl (z := (2 : Int32)) rfl ?_
  refine s_icY K at_200 rfl (by decide) (pc' := 210) (by decide) ?_
  refine s_iload K at_210 (pc' := 212) rfl rfl ?_
  refine s_iconst K at_212 (pc' := 213) rfl (z := (3 : Int32)) rfl ?_
  refine s_icY K at_213 rfl (by decide) (pc' := 223) (by decide) ?_
  refine s_iload K at_223 (pc' := 225) rfl rfl ?_
  refine s_ifN K at_225 (pc' := 228) rfl rfl ?_
  refine s_aload K at_228 (pc' := 230) rfl rfl rfl ?_
  refine s_iconst K at_230 (pc' := 231) rfl (z := (0 : Int32)) rfl ?_
  refine s_lload K at_231 (pc' := 233) rfl rfl ?_
  refine s_virtual K at_233 (pc' := 236) rfl (k := 0) (a := b110) rfl (as := [.int 0, .long p3]) (first12 hw _ b110 b107 b140 b131 b142 b141 b108 b133 b132 b111 b112 b109 b139 b106 b135 b138 b134 hi mid lo p0 p3 ) (w168 hw) (w169 hw) (w171 hw) (w170 hw) (w35 hw) (w172 hw) (by decide) pd_9 rfl (rest := []) rfl rfl (W := 0) (Nat.le_of_eq rfl) (by decide) (by decide) (ce' := 21) rfl (sl' := 83) rfl (by decide) (by decide) ?_
  rintro v _ ⟨rfl, rfl⟩
  show Go l Z n0 _ _ κ 21 83 [(b110, oLS (.int 0) (.int 0) .null (.int 0) (.int 0) (.ref b111) (.ref b112) (.ref b142) (.ref b141) (.ref b108) (.ref b109) (.ref b139) (.ref b107) (.ref b106) (.ref b135) (.ref b138) (.ref b134) (.ref b140) .null (.ref b133) (.ref b132) (.ref b131) .null .null .null .null .null .null .null), (b107, .inr (.int, [.int 0, .int 1])), (b140, .inr (.int, [.int 0, .int 1, .int 4])), (b131, .inr (.int, [.int 1, .int 1])), (b142, .inr (.int, [.int 1, .int 1])), (b141, .inr (.long, [.long ((0 : Int64) + p0), .long ((0 : Int64) + hi)])), (b108, .inr (.long, [.long hi, .long mid, .long lo, .long p0])), (b133, .inr (.int, [.int 3, .int 0, .int 0, .int 0])), (b132, .inr (.long, [.long p0, .long hi, .long 0, .long 0]))] 236 #[.val (.long p0), .second, .val (.long p1), .second, .val (.long p2), .second, .val (.long p3), .second, .val (.int p4), .val (.long hi), .second, .val (.long lo), .second, .val (.long mid), .second, .val (.int 1), .val (.int 1), .val (.int 1), .val (.ref b101), .val (.ref b108), .val (.ref b109), .val (.ref b110), .unset, .unset] [.int (Int32.ofNat (0 + own_b p0 p3))]
  refine s_istore K at_236 (pc' := 238) rfl (Ls' := #[.val (.long p0), .second, .val (.long p1), .second, .val (.long p2), .second, .val (.long p3), .second, .val (.int p4), .val (.long hi), .second, .val (.long lo), .second, .val (.long mid), .second, .val (.int 1), .val (.int 1), .val (.int 1), .val (.ref b101), .val (.ref b108), .val (.ref b109), .val (.ref b110), .val (.int (Int32.ofNat (0 + own_b p0 p3))), .unset]) rfl ?_
  refine s_iload K at_238 (pc' := 240) rfl rfl ?_
  refine s_ifN K at_240 (pc' := 243) rfl rfl ?_
  refine s_lloadN K at_243 (pc' := 244) rfl rfl ?_
  refine s_lload K at_244 (pc' := 246) rfl rfl ?_
  refine s_lcmp K at_246 (pc' := 247) rfl  ?_
  refine s_if K at_247 (pn := 250) rfl (by decide) (pc' := 254) (by decide) (fun h1 => ?_) (fun h1 => ?_)
  · have g1 := own_leY h1
    refine s_iconst K at_254 (pc' := 255) rfl (z := (0 : Int32)) rfl ?_
    refine s_istore K at_255 (pc' := 257) rfl (Ls' := #[.val (.long p0), .second, .val (.long p1), .second, .val (.long p2), .second, .val (.long p3), .second, .val (.int p4), .val (.long hi), .second, .val (.long lo), .second, .val (.long mid), .second, .val (.int 1), .val (.int 1), .val (.int 1), .val (.ref b101), .val (.ref b108), .val (.ref b109), .val (.ref b110), .val (.int (Int32.ofNat (0 + own_b p0 p3))), .val (.int 0)]) rfl ?_
    refine s_goto K at_257 (by decide) (pc' := 333) (by decide) ?_
    refine s_iload K at_333 (pc' := 335) rfl rfl ?_
    refine s_iload K at_335 (pc' := 337) rfl rfl ?_
    refine s_icN K at_337 (pc' := 340) rfl (teq (by rw [own_b0 (x := p0) (t := p3) g1]; rfl)).2 ?_
    refine s_iconst K at_340 (pc' := 341) rfl (z := (1 : Int32)) rfl ?_
    refine s_goto K at_341 (by decide) (pc' := 345) (by decide) ?_
    exact s_zreturn K at_345 rfl (by decide) (by decide) rfl
  · have g1 := own_leN h1
    refine s_iconst K at_250 (pc' := 251) rfl (z := (1 : Int32)) rfl ?_
    refine s_goto K at_251 (by decide) (pc' := 255) (by decide) ?_
    refine s_istore K at_255 (pc' := 257) rfl (Ls' := #[.val (.long p0), .second, .val (.long p1), .second, .val (.long p2), .second, .val (.long p3), .second, .val (.int p4), .val (.long hi), .second, .val (.long lo), .second, .val (.long mid), .second, .val (.int 1), .val (.int 1), .val (.int 1), .val (.ref b101), .val (.ref b108), .val (.ref b109), .val (.ref b110), .val (.int (Int32.ofNat (0 + own_b p0 p3))), .val (.int 1)]) rfl ?_
    refine s_goto K at_257 (by decide) (pc' := 333) (by decide) ?_
    refine s_iload K at_333 (pc' := 335) rfl rfl ?_
    refine s_iload K at_335 (pc' := 337) rfl rfl ?_
    refine s_icN K at_337 (pc' := 340) rfl (teq (by rw [own_b1 (x := p0) (t := p3) g1]; rfl)).2 ?_
    refine s_iconst K at_340 (pc' := 341) rfl (z := (1 : Int32)) rfl ?_
    refine s_goto K at_341 (by decide) (pc' := 345) (by decide) ?_
    exact s_zreturn K at_345 rfl (by decide) (by decide) rfl
set_option maxRecDepth 65536 in
set_option maxHeartbeats 400000000 in
theorem k29_take {l : Launch} {Z : State} {a0 : Array Value} (hw : HW Z a0) {n0 : Nat} (F : Wd) (b110 b107 b140 b131 b142 b141 b108 b133 b132 b111 b112 b109 b139 b106 b135 b138 b134 : Addr) (hi : Int64) (mid : Int64) (lo : Int64) (p0 : Int64) :
    Con l Z n0 (⟨"com/example/evenkeel/evenkeel/LagSeats", "take", "(II)V"⟩ : MethodName) prog_60_method_27_code 3 none ({ frames := 0, cells := 0, slots := 0, locals := 0 } : Room) [.ref b110, .int 1, .int 1] ((b110, oLS (.int 0) (.int 0) .null (.int 0) (.int 0) (.ref b111) (.ref b112) (.ref b142) (.ref b141) (.ref b108) (.ref b109) (.ref b139) (.ref b107) (.ref b106) (.ref b135) (.ref b138) (.ref b134) (.ref b140) .null (.ref b133) (.ref b132) (.ref b131) .null .null .null .null .null .null .null) :: (b107, .inr (.int, [.int 0, .int 1])) :: (b140, .inr (.int, [.int 0, .int 1, .int 4])) :: (b131, .inr (.int, [.int 1, .int 1])) :: (b142, .inr (.int, [.int 1, .int 1])) :: (b141, .inr (.long, [.long ((0 : Int64) + p0), .long ((0 : Int64) + hi)])) :: (b108, .inr (.long, [.long hi, .long mid, .long lo, .long p0])) :: (b133, .inr (.int, [.int 3, .int 0, .int 0, .int 0])) :: (b132, .inr (.long, [.long p0, .long hi, .long 0, .long 0])) :: F) (fun v L' => v = none ∧ L' = ((b110, oLS (.int 0) (.int 0) .null (.int 0) (.int 0) (.ref b111) (.ref b112) (.ref b142) (.ref b141) (.ref b108) (.ref b109) (.ref b139) (.ref b107) (.ref b106) (.ref b135) (.ref b138) (.ref b134) (.ref b140) .null (.ref b133) (.ref b132) (.ref b131) .null .null .null .null .null .null .null) :: (b107, .inr (.int, [.int 0, .int 1])) :: (b140, .inr (.int, [.int 0, .int 1, .int 4])) :: (b131, .inr (.int, [.int 1, .int 1])) :: (b142, .inr (.int, [.int 1, .int 2])) :: (b141, .inr (.long, [.long ((0 : Int64) + p0), .long (((0 : Int64) + hi) + mid)])) :: (b108, .inr (.long, [.long hi, .long mid, .long lo, .long p0])) :: (b133, .inr (.int, [.int 3, .int 0, .int 0, .int 0])) :: (b132, .inr (.long, [.long p0, .long hi, .long 0, .long 0])) :: F)) := by
  refine Con.of (by decide +kernel) (Ls := #[.val (.ref b110), .val (.int 1), .val (.int 1)]) (fun m => by first | rfl | (simp [entryFrame, mkF, argsToLocals, Value.category]; done)) ?_
  intro κ K
  refine s_aloadN K d15_0 (pc' := 1) rfl rfl rfl ?_
  refine s_getf K d15_1 (pc' := 4) rfl (w40 hw) (k := 0) rfl (j := 0) rfl ?_
  refine s_ifY K d15_4 rfl (by decide) (pc' := 32) (by decide) ?_
  refine s_aloadN K d15_32 (pc' := 33) rfl rfl rfl ?_
  refine s_getf K d15_33 (pc' := 36) rfl (w63 hw) (k := 0) rfl (j := 7) rfl ?_
  refine s_iloadN K d15_36 (pc' := 37) rfl rfl ?_
  refine s_dup2 K d15_37 (pc' := 38) rfl rfl rfl ?_
  refine s_iaload K d15_38 (pc' := 39) rfl (k := 4) rfl (i := 1) (by decide) rfl ?_
  refine s_iconst K d15_39 (pc' := 40) rfl (z := (1 : Int32)) rfl ?_
  refine s_iadd K d15_40 (pc' := 41) rfl (z := (2 : Int32)) rfl ?_
  refine s_iastore K d15_41 (pc' := 42) rfl (k := 4) rfl (i := 1) (by decide) (ltB rfl) (L' := ((b110, oLS (.int 0) (.int 0) .null (.int 0) (.int 0) (.ref b111) (.ref b112) (.ref b142) (.ref b141) (.ref b108) (.ref b109) (.ref b139) (.ref b107) (.ref b106) (.ref b135) (.ref b138) (.ref b134) (.ref b140) .null (.ref b133) (.ref b132) (.ref b131) .null .null .null .null .null .null .null) :: (b107, .inr (.int, [.int 0, .int 1])) :: (b140, .inr (.int, [.int 0, .int 1, .int 4])) :: (b131, .inr (.int, [.int 1, .int 1])) :: (b142, .inr (.int, [.int 1, .int 2])) :: (b141, .inr (.long, [.long ((0 : Int64) + p0), .long ((0 : Int64) + hi)])) :: (b108, .inr (.long, [.long hi, .long mid, .long lo, .long p0])) :: (b133, .inr (.int, [.int 3, .int 0, .int 0, .int 0])) :: (b132, .inr (.long, [.long p0, .long hi, .long 0, .long 0])) :: F)) rfl ?_
  refine s_aloadN K d15_42 (pc' := 43) rfl rfl rfl ?_
  refine s_getf K d15_43 (pc' := 46) rfl (w71 hw) (k := 0) rfl (j := 8) rfl ?_
  refine s_iloadN K d15_46 (pc' := 47) rfl rfl ?_
  refine s_dup2 K d15_47 (pc' := 48) rfl rfl rfl ?_
  refine s_laload K d15_48 (pc' := 49) rfl (k := 5) rfl (i := 1) (by decide) rfl ?_
  refine s_aloadN K d15_49 (pc' := 50) rfl rfl rfl ?_
  refine s_getf K d15_50 (pc' := 53) rfl (w73 hw) (k := 0) rfl (j := 9) rfl ?_
  refine s_iloadN K d15_53 (pc' := 54) rfl rfl ?_
  refine s_laload K d15_54 (pc' := 55) rfl (k := 6) rfl (i := 1) (by decide) rfl ?_
  refine s_ladd K d15_55 (pc' := 56) rfl (z := ((0 : Int64) + hi) + mid) rfl ?_
  refine s_lastore K d15_56 (pc' := 57) rfl (k := 5) rfl (i := 1) (by decide) (ltB rfl) (L' := ((b110, oLS (.int 0) (.int 0) .null (.int 0) (.int 0) (.ref b111) (.ref b112) (.ref b142) (.ref b141) (.ref b108) (.ref b109) (.ref b139) (.ref b107) (.ref b106) (.ref b135) (.ref b138) (.ref b134) (.ref b140) .null (.ref b133) (.ref b132) (.ref b131) .null .null .null .null .null .null .null) :: (b107, .inr (.int, [.int 0, .int 1])) :: (b140, .inr (.int, [.int 0, .int 1, .int 4])) :: (b131, .inr (.int, [.int 1, .int 1])) :: (b142, .inr (.int, [.int 1, .int 2])) :: (b141, .inr (.long, [.long ((0 : Int64) + p0), .long (((0 : Int64) + hi) + mid)])) :: (b108, .inr (.long, [.long hi, .long mid, .long lo, .long p0])) :: (b133, .inr (.int, [.int 3, .int 0, .int 0, .int 0])) :: (b132, .inr (.long, [.long p0, .long hi, .long 0, .long 0])) :: F)) rfl ?_
  exact s_return K d15_57 (by decide) (by decide) ⟨rfl, rfl⟩
set_option maxRecDepth 65536 in
set_option maxHeartbeats 400000000 in
theorem k30_put {l : Launch} {Z : State} {a0 : Array Value} (hw : HW Z a0) {n0 : Nat} (F : Wd) (b110 b107 b140 b131 b142 b141 b108 b133 b132 b111 b112 b109 b139 b106 b135 b138 b134 : Addr) (xx1 : Int64) (hi : Int64) (mid : Int64) (lo : Int64) (p0 : Int64) :
    Con l Z n0 (⟨"com/example/evenkeel/evenkeel/LagSeats", "put", "(II)V"⟩ : MethodName) prog_60_method_30_code 3 none ({ frames := 0, cells := 0, slots := 0, locals := 0 } : Room) [.ref b110, .int 2, .int 1] ((b110, oLS (.int 0) (.int 0) .null (.int 0) (.int 0) (.ref b111) (.ref b112) (.ref b142) (.ref b141) (.ref b108) (.ref b109) (.ref b139) (.ref b107) (.ref b106) (.ref b135) (.ref b138) (.ref b134) (.ref b140) .null (.ref b133) (.ref b132) (.ref b131) .null .null .null .null .null .null .null) :: (b107, .inr (.int, [.int 0, .int 1])) :: (b140, .inr (.int, [.int 0, .int 1, .int 4])) :: (b131, .inr (.int, [.int 1, .int 2])) :: (b142, .inr (.int, [.int 1, .int 2])) :: (b141, .inr (.long, [.long ((0 : Int64) + p0), .long xx1])) :: (b108, .inr (.long, [.long hi, .long mid, .long lo, .long p0])) :: (b133, .inr (.int, [.int 3, .int 0, .int 0, .int 0])) :: (b132, .inr (.long, [.long p0, .long hi, .long 0, .long 0])) :: F) (fun v L' => v = none ∧ L' = ((b110, oLS (.int 0) (.int 0) .null (.int 0) (.int 0) (.ref b111) (.ref b112) (.ref b142) (.ref b141) (.ref b108) (.ref b109) (.ref b139) (.ref b107) (.ref b106) (.ref b135) (.ref b138) (.ref b134) (.ref b140) .null (.ref b133) (.ref b132) (.ref b131) .null .null .null .null .null .null .null) :: (b107, .inr (.int, [.int 0, .int 1])) :: (b140, .inr (.int, [.int 0, .int 1, .int 4])) :: (b131, .inr (.int, [.int 1, .int 2])) :: (b142, .inr (.int, [.int 1, .int 2])) :: (b141, .inr (.long, [.long ((0 : Int64) + p0), .long xx1])) :: (b108, .inr (.long, [.long hi, .long mid, .long lo, .long p0])) :: (b133, .inr (.int, [.int 3, .int 0, .int 1, .int 0])) :: (b132, .inr (.long, [.long p0, .long hi, .long mid, .long 0])) :: F)) := by
  refine Con.of (by decide +kernel) (Ls := #[.val (.ref b110), .val (.int 2), .val (.int 1)]) (fun m => by first | rfl | (simp [entryFrame, mkF, argsToLocals, Value.category]; done)) ?_
  intro κ K
  refine s_aloadN K d16_0 (pc' := 1) rfl rfl rfl ?_
  refine s_getf K d16_1 (pc' := 4) rfl (w134 hw) (k := 0) rfl (j := 19) rfl ?_
  refine s_iloadN K d16_4 (pc' := 5) rfl rfl ?_
  refine s_iloadN K d16_5 (pc' := 6) rfl rfl ?_
  refine s_iastore K d16_6 (pc' := 7) rfl (k := 7) rfl (i := 2) (by decide) (ltB rfl) (L' := ((b110, oLS (.int 0) (.int 0) .null (.int 0) (.int 0) (.ref b111) (.ref b112) (.ref b142) (.ref b141) (.ref b108) (.ref b109) (.ref b139) (.ref b107) (.ref b106) (.ref b135) (.ref b138) (.ref b134) (.ref b140) .null (.ref b133) (.ref b132) (.ref b131) .null .null .null .null .null .null .null) :: (b107, .inr (.int, [.int 0, .int 1])) :: (b140, .inr (.int, [.int 0, .int 1, .int 4])) :: (b131, .inr (.int, [.int 1, .int 2])) :: (b142, .inr (.int, [.int 1, .int 2])) :: (b141, .inr (.long, [.long ((0 : Int64) + p0), .long xx1])) :: (b108, .inr (.long, [.long hi, .long mid, .long lo, .long p0])) :: (b133, .inr (.int, [.int 3, .int 0, .int 1, .int 0])) :: (b132, .inr (.long, [.long p0, .long hi, .long 0, .long 0])) :: F)) rfl ?_
  refine s_aloadN K d16_7 (pc' := 8) rfl rfl rfl ?_
  refine s_getf K d16_8 (pc' := 11) rfl (w136 hw) (k := 0) rfl (j := 20) rfl ?_
  refine s_iloadN K d16_11 (pc' := 12) rfl rfl ?_
  refine s_aloadN K d16_12 (pc' := 13) rfl rfl rfl ?_
  refine s_getf K d16_13 (pc' := 16) rfl (w73 hw) (k := 0) rfl (j := 9) rfl ?_
  refine s_iloadN K d16_16 (pc' := 17) rfl rfl ?_
  refine s_laload K d16_17 (pc' := 18) rfl (k := 6) rfl (i := 1) (by decide) rfl ?_
  refine s_lastore K d16_18 (pc' := 19) rfl (k := 8) rfl (i := 2) (by decide) (ltB rfl) (L' := ((b110, oLS (.int 0) (.int 0) .null (.int 0) (.int 0) (.ref b111) (.ref b112) (.ref b142) (.ref b141) (.ref b108) (.ref b109) (.ref b139) (.ref b107) (.ref b106) (.ref b135) (.ref b138) (.ref b134) (.ref b140) .null (.ref b133) (.ref b132) (.ref b131) .null .null .null .null .null .null .null) :: (b107, .inr (.int, [.int 0, .int 1])) :: (b140, .inr (.int, [.int 0, .int 1, .int 4])) :: (b131, .inr (.int, [.int 1, .int 2])) :: (b142, .inr (.int, [.int 1, .int 2])) :: (b141, .inr (.long, [.long ((0 : Int64) + p0), .long xx1])) :: (b108, .inr (.long, [.long hi, .long mid, .long lo, .long p0])) :: (b133, .inr (.int, [.int 3, .int 0, .int 1, .int 0])) :: (b132, .inr (.long, [.long p0, .long hi, .long mid, .long 0])) :: F)) rfl ?_
  exact s_return K d16_19 (by decide) (by decide) ⟨rfl, rfl⟩
set_option maxRecDepth 65536 in
set_option maxHeartbeats 400000000 in
theorem k28_place {l : Launch} {Z : State} {a0 : Array Value} (hw : HW Z a0) {n0 : Nat} (F : Wd) (b110 b107 b140 b131 b142 b141 b108 b133 b132 b111 b112 b109 b139 b106 b135 b138 b134 : Addr) (hi : Int64) (mid : Int64) (lo : Int64) (p0 : Int64) :
    Con l Z n0 (⟨"com/example/evenkeel/evenkeel/LagSeats", "place", "(II)V"⟩ : MethodName) prog_60_method_26_code 3 none ({ frames := 1, cells := 0, slots := 0, locals := 14 } : Room) [.ref b110, .int 1, .int 1] ((b110, oLS (.int 0) (.int 0) .null (.int 0) (.int 0) (.ref b111) (.ref b112) (.ref b142) (.ref b141) (.ref b108) (.ref b109) (.ref b139) (.ref b107) (.ref b106) (.ref b135) (.ref b138) (.ref b134) (.ref b140) .null (.ref b133) (.ref b132) (.ref b131) .null .null .null .null .null .null .null) :: (b107, .inr (.int, [.int 0, .int 1])) :: (b140, .inr (.int, [.int 0, .int 1, .int 4])) :: (b131, .inr (.int, [.int 1, .int 1])) :: (b142, .inr (.int, [.int 1, .int 1])) :: (b141, .inr (.long, [.long ((0 : Int64) + p0), .long ((0 : Int64) + hi)])) :: (b108, .inr (.long, [.long hi, .long mid, .long lo, .long p0])) :: (b133, .inr (.int, [.int 3, .int 0, .int 0, .int 0])) :: (b132, .inr (.long, [.long p0, .long hi, .long 0, .long 0])) :: F) (fun v L' => v = none ∧ L' = ((b110, oLS (.int 0) (.int 0) .null (.int 0) (.int 0) (.ref b111) (.ref b112) (.ref b142) (.ref b141) (.ref b108) (.ref b109) (.ref b139) (.ref b107) (.ref b106) (.ref b135) (.ref b138) (.ref b134) (.ref b140) .null (.ref b133) (.ref b132) (.ref b131) .null .null .null .null .null .null .null) :: (b107, .inr (.int, [.int 0, .int 1])) :: (b140, .inr (.int, [.int 0, .int 1, .int 4])) :: (b131, .inr (.int, [.int 1, .int 2])) :: (b142, .inr (.int, [.int 1, .int 2])) :: (b141, .inr (.long, [.long ((0 : Int64) + p0), .long (((0 : Int64) + hi) + mid)])) :: (b108, .inr (.long, [.long hi, .long mid, .long lo, .long p0])) :: (b133, .inr (.int, [.int 3, .int 0, .int 1, .int 0])) :: (b132, .inr (.long, [.long p0, .long hi, .long mid, .long 0])) :: F)) := by
  refine Con.of (by decide +kernel) (Ls := #[.val (.ref b110), .val (.int 1), .val (.int 1)]) (fun m => by first | rfl | (simp [entryFrame, mkF, argsToLocals, Value.category]; done)) ?_
  intro κ K
  refine s_aloadN K d14_0 (pc' := 1) rfl rfl rfl ?_
  refine s_aloadN K d14_1 (pc' := 2) rfl rfl rfl ?_
  refine s_getf K d14_2 (pc' := 5) rfl (w85 hw) (k := 0) rfl (j := 12) rfl ?_
  refine s_iloadN K d14_5 (pc' := 6) rfl rfl ?_
  refine s_iaload K d14_6 (pc' := 7) rfl (k := 1) rfl (i := 1) (by decide) rfl ?_
  refine s_iloadN K d14_7 (pc' := 8) rfl rfl ?_
  refine s_virtual K d14_8 (pc' := 11) rfl (k := 0) (a := b110) rfl (as := [.int 1, .int 1]) (k29_take hw _ b110 b107 b140 b131 b142 b141 b108 b133 b132 b111 b112 b109 b139 b106 b135 b138 b134 hi mid lo p0) (w159 hw) (w160 hw) (w162 hw) (w161 hw) (w35 hw) (w163 hw) (by decide) pd_0 rfl (rest := []) rfl rfl (W := 0) (Nat.le_of_eq rfl) (by decide) (by decide) (ce' := 0) rfl (sl' := 0) rfl (by decide) (by decide) ?_
  rintro v _ ⟨rfl, rfl⟩
  show Go l Z n0 _ _ κ 0 0 ((b110, oLS (.int 0) (.int 0) .null (.int 0) (.int 0) (.ref b111) (.ref b112) (.ref b142) (.ref b141) (.ref b108) (.ref b109) (.ref b139) (.ref b107) (.ref b106) (.ref b135) (.ref b138) (.ref b134) (.ref b140) .null (.ref b133) (.ref b132) (.ref b131) .null .null .null .null .null .null .null) :: (b107, .inr (.int, [.int 0, .int 1])) :: (b140, .inr (.int, [.int 0, .int 1, .int 4])) :: (b131, .inr (.int, [.int 1, .int 1])) :: (b142, .inr (.int, [.int 1, .int 2])) :: (b141, .inr (.long, [.long ((0 : Int64) + p0), .long (((0 : Int64) + hi) + mid)])) :: (b108, .inr (.long, [.long hi, .long mid, .long lo, .long p0])) :: (b133, .inr (.int, [.int 3, .int 0, .int 0, .int 0])) :: (b132, .inr (.long, [.long p0, .long hi, .long 0, .long 0])) :: F) 11 #[.val (.ref b110), .val (.int 1), .val (.int 1)] []
  refine s_aloadN K d14_11 (pc' := 12) rfl rfl rfl ?_
  refine s_aloadN K d14_12 (pc' := 13) rfl rfl rfl ?_
  refine s_getf K d14_13 (pc' := 16) rfl (w96 hw) (k := 0) rfl (j := 17) rfl ?_
  refine s_iloadN K d14_16 (pc' := 17) rfl rfl ?_
  refine s_iaload K d14_17 (pc' := 18) rfl (k := 2) rfl (i := 1) (by decide) rfl ?_
  refine s_aloadN K d14_18 (pc' := 19) rfl rfl rfl ?_
  refine s_getf K d14_19 (pc' := 22) rfl (w138 hw) (k := 0) rfl (j := 21) rfl ?_
  refine s_iloadN K d14_22 (pc' := 23) rfl rfl ?_
  refine s_dup2 K d14_23 (pc' := 24) rfl rfl rfl ?_
  refine s_iaload K d14_24 (pc' := 25) rfl (k := 3) rfl (i := 1) (by decide) rfl ?_
  refine s_dupx2 K d14_25 (pc' := 26) rfl rfl rfl rfl ?_
  refine s_iconst K d14_26 (pc' := 27) rfl (z := (1 : Int32)) rfl ?_
  refine s_iadd K d14_27 (pc' := 28) rfl (z := (2 : Int32)) rfl ?_
  refine s_iastore K d14_28 (pc' := 29) rfl (k := 3) rfl (i := 1) (by decide) (ltB rfl) (L' := ((b110, oLS (.int 0) (.int 0) .null (.int 0) (.int 0) (.ref b111) (.ref b112) (.ref b142) (.ref b141) (.ref b108) (.ref b109) (.ref b139) (.ref b107) (.ref b106) (.ref b135) (.ref b138) (.ref b134) (.ref b140) .null (.ref b133) (.ref b132) (.ref b131) .null .null .null .null .null .null .null) :: (b107, .inr (.int, [.int 0, .int 1])) :: (b140, .inr (.int, [.int 0, .int 1, .int 4])) :: (b131, .inr (.int, [.int 1, .int 2])) :: (b142, .inr (.int, [.int 1, .int 2])) :: (b141, .inr (.long, [.long ((0 : Int64) + p0), .long (((0 : Int64) + hi) + mid)])) :: (b108, .inr (.long, [.long hi, .long mid, .long lo, .long p0])) :: (b133, .inr (.int, [.int 3, .int 0, .int 0, .int 0])) :: (b132, .inr (.long, [.long p0, .long hi, .long 0, .long 0])) :: F)) rfl ?_
  refine s_iadd K d14_29 (pc' := 30) rfl (z := (2 : Int32)) rfl ?_
  refine s_iloadN K d14_30 (pc' := 31) rfl rfl ?_
  refine s_private K d14_31 (pc' := 34) rfl (k := 0) (a := b110) rfl (as := [.int 2, .int 1]) (k30_put hw _ b110 b107 b140 b131 b142 b141 b108 b133 b132 b111 b112 b109 b139 b106 b135 b138 b134 (((0 : Int64) + hi) + mid) hi mid lo p0) (w164 hw) (w157 hw) rfl (w165 hw) (w166 hw) (w35 hw) (w167 hw) (by decide) pd_0 rfl (rest := []) rfl rfl (W := 0) (Nat.le_of_eq rfl) (by decide) (by decide) (ce' := 0) rfl (sl' := 0) rfl (by decide) (by decide) ?_
  rintro v _ ⟨rfl, rfl⟩
  show Go l Z n0 _ _ κ 0 0 ((b110, oLS (.int 0) (.int 0) .null (.int 0) (.int 0) (.ref b111) (.ref b112) (.ref b142) (.ref b141) (.ref b108) (.ref b109) (.ref b139) (.ref b107) (.ref b106) (.ref b135) (.ref b138) (.ref b134) (.ref b140) .null (.ref b133) (.ref b132) (.ref b131) .null .null .null .null .null .null .null) :: (b107, .inr (.int, [.int 0, .int 1])) :: (b140, .inr (.int, [.int 0, .int 1, .int 4])) :: (b131, .inr (.int, [.int 1, .int 2])) :: (b142, .inr (.int, [.int 1, .int 2])) :: (b141, .inr (.long, [.long ((0 : Int64) + p0), .long (((0 : Int64) + hi) + mid)])) :: (b108, .inr (.long, [.long hi, .long mid, .long lo, .long p0])) :: (b133, .inr (.int, [.int 3, .int 0, .int 1, .int 0])) :: (b132, .inr (.long, [.long p0, .long hi, .long mid, .long 0])) :: F) 34 #[.val (.ref b110), .val (.int 1), .val (.int 1)] []
  refine s_aloadN K d14_34 (pc' := 35) rfl rfl rfl ?_
  refine s_getf K d14_35 (pc' := 38) rfl (w140 hw) (k := 0) rfl (j := 22) rfl ?_
  refine s_nullY K d14_38 (by decide) (pc' := 47) (by decide) ?_
  exact s_return K d14_47 (by decide) (by decide) ⟨rfl, rfl⟩
set_option maxRecDepth 65536 in
set_option maxHeartbeats 400000000 in
theorem first13 {l : Launch} {Z : State} {a0 : Array Value} (hw : HW Z a0) {n0 : Nat} (F : Wd) (b110 b107 b140 b131 b142 b141 b108 b133 b132 b111 b112 b109 b139 b106 b135 b138 b134 : Addr) (xx1 : Int64) (hi : Int64) (mid : Int64) (lo : Int64) (p0 : Int64) (p3 : Int64) (o0 : mid.toInt ≤ hi.toInt) :
    Con l Z n0 (⟨"com/example/evenkeel/evenkeel/LagSeats", "firstAtMost", "(IJ)I"⟩ : MethodName) prog_60_method_33_code 7 (some .int) ({ frames := 0, cells := 0, slots := 0, locals := 0 } : Room) [.ref b110, .int (1 : Int32), .long p3] ((b110, oLS (.int 0) (.int 0) .null (.int 0) (.int 0) (.ref b111) (.ref b112) (.ref b142) (.ref b141) (.ref b108) (.ref b109) (.ref b139) (.ref b107) (.ref b106) (.ref b135) (.ref b138) (.ref b134) (.ref b140) .null (.ref b133) (.ref b132) (.ref b131) .null .null .null .null .null .null .null) :: (b107, .inr (.int, [.int 0, .int 1])) :: (b140, .inr (.int, [.int 0, .int 1, .int 4])) :: (b131, .inr (.int, [.int 1, .int 2])) :: (b142, .inr (.int, [.int 1, .int 2])) :: (b141, .inr (.long, [.long ((0 : Int64) + p0), .long xx1])) :: (b108, .inr (.long, [.long hi, .long mid, .long lo, .long p0])) :: (b133, .inr (.int, [.int 3, .int 0, .int 1, .int 0])) :: (b132, .inr (.long, [.long p0, .long hi, .long mid, .long 0])) :: F) (fun v L' => v = some (.int (Int32.ofNat (1 + own_b hi p3 + own_b mid p3))) ∧ L' = ((b110, oLS (.int 0) (.int 0) .null (.int 0) (.int 0) (.ref b111) (.ref b112) (.ref b142) (.ref b141) (.ref b108) (.ref b109) (.ref b139) (.ref b107) (.ref b106) (.ref b135) (.ref b138) (.ref b134) (.ref b140) .null (.ref b133) (.ref b132) (.ref b131) .null .null .null .null .null .null .null) :: (b107, .inr (.int, [.int 0, .int 1])) :: (b140, .inr (.int, [.int 0, .int 1, .int 4])) :: (b131, .inr (.int, [.int 1, .int 2])) :: (b142, .inr (.int, [.int 1, .int 2])) :: (b141, .inr (.long, [.long ((0 : Int64) + p0), .long xx1])) :: (b108, .inr (.long, [.long hi, .long mid, .long lo, .long p0])) :: (b133, .inr (.int, [.int 3, .int 0, .int 1, .int 0])) :: (b132, .inr (.long, [.long p0, .long hi, .long mid, .long 0])) :: F)) := by
  refine Con.of (by decide +kernel) (Ls := #[.val (.ref b110), .val (.int 1), .val (.long p3), .second, .unset, .unset, .unset]) (fun m => by first | rfl | (simp [entryFrame, mkF, argsToLocals, Value.category]; done)) ?_
  intro κ K
  refine s_aloadN K d17_0 (pc' := 1) rfl rfl rfl ?_
  refine s_getf K d17_1 (pc' := 4) rfl (w96 hw) (k := 0) rfl (j := 17) rfl ?_
  refine s_iloadN K d17_4 (pc' := 5) rfl rfl ?_
  refine s_iaload K d17_5 (pc' := 6) rfl (k := 2) rfl (i := 1) (by decide) rfl ?_
  refine s_istore K d17_6 (pc' := 8) rfl (Ls' := #[.val (.ref b110), .val (.int 1), .val (.long p3), .second, .val (.int 1), .unset, .unset]) rfl ?_
  refine s_iload K d17_8 (pc' := 10) rfl rfl ?_
  refine s_aloadN K d17_10 (pc' := 11) rfl rfl rfl ?_
  refine s_getf K d17_11 (pc' := 14) rfl (w138 hw) (k := 0) rfl (j := 21) rfl ?_
  refine s_iloadN K d17_14 (pc' := 15) rfl rfl ?_
  refine s_iaload K d17_15 (pc' := 16) rfl (k := 3) rfl (i := 1) (by decide) rfl ?_
  refine s_iadd K d17_16 (pc' := 17) rfl (z := (3 : Int32)) rfl ?_
  refine s_istore K d17_17 (pc' := 19) rfl (Ls' := #[.val (.ref b110), .val (.int 1), .val (.long p3), .second, .val (.int 1), .val (.int 3), .unset]) rfl ?_
  refine s_iload K d17_19 (pc' := 21) rfl rfl ?_
  refine s_iload K d17_21 (pc' := 23) rfl rfl ?_
  refine s_icN K d17_23 (pc' := 26) rfl rfl ?_
  refine s_iload K d17_26 (pc' := 28) rfl rfl ?_
  refine s_iload K d17_28 (pc' := 30) rfl rfl ?_
  refine s_iadd K d17_30 (pc' := 31) rfl (z := (4 : Int32)) rfl ?_
  refine s_iconst K d17_31 (pc' := 32) rfl (z := (1 : Int32)) rfl ?_
  refine s_iushr K d17_32 (pc' := 33) rfl (z := (2 : Int32)) rfl ?_
  refine s_istore K d17_33 (pc' := 35) rfl (Ls' := #[.val (.ref b110), .val (.int 1), .val (.long p3), .second, .val (.int 1), .val (.int 3), .val (.int 2)]) rfl ?_
  refine s_aloadN K d17_35 (pc' := 36) rfl rfl rfl ?_
  refine s_getf K d17_36 (pc' := 39) rfl (w136 hw) (k := 0) rfl (j := 20) rfl ?_
  refine s_iload K d17_39 (pc' := 41) rfl rfl ?_
  refine s_laload K d17_41 (pc' := 42) rfl (k := 8) rfl (i := 2) (by decide) rfl ?_
  refine s_lloadN K d17_42 (pc' := 43) rfl rfl ?_
  refine s_lcmp K d17_43 (pc' := 44) rfl  ?_
  refine s_if K d17_44 (pn := 47) rfl (by decide) (pc' := 56) (by decide) (fun h1 => ?_) (fun h1 => ?_)
  · have g1 := own_leY h1
    refine s_iload K d17_56 (pc' := 58) rfl rfl ?_
    refine s_istore K d17_58 (pc' := 60) rfl (Ls' := #[.val (.ref b110), .val (.int 1), .val (.long p3), .second, .val (.int 1), .val (.int 2), .val (.int 2)]) rfl ?_
    refine s_goto K d17_60 (by decide) (pc' := 19) (by decide) ?_
    refine s_iload K d17_19 (pc' := 21) rfl rfl ?_
    refine s_iload K d17_21 (pc' := 23) rfl rfl ?_
    refine s_icN K d17_23 (pc' := 26) rfl rfl ?_
    refine s_iload K d17_26 (pc' := 28) rfl rfl ?_
    refine s_iload K d17_28 (pc' := 30) rfl rfl ?_
    refine s_iadd K d17_30 (pc' := 31) rfl (z := (3 : Int32)) rfl ?_
    refine s_iconst K d17_31 (pc' := 32) rfl (z := (1 : Int32)) rfl ?_
    refine s_iushr K d17_32 (pc' := 33) rfl (z := (1 : Int32)) rfl ?_
    refine s_istore K d17_33 (pc' := 35) rfl (Ls' := #[.val (.ref b110), .val (.int 1), .val (.long p3), .second, .val (.int 1), .val (.int 2), .val (.int 1)]) rfl ?_
    refine s_aloadN K d17_35 (pc' := 36) rfl rfl rfl ?_
    refine s_getf K d17_36 (pc' := 39) rfl (w136 hw) (k := 0) rfl (j := 20) rfl ?_
    refine s_iload K d17_39 (pc' := 41) rfl rfl ?_
    refine s_laload K d17_41 (pc' := 42) rfl (k := 8) rfl (i := 1) (by decide) rfl ?_
    refine s_lloadN K d17_42 (pc' := 43) rfl rfl ?_
    refine s_lcmp K d17_43 (pc' := 44) rfl  ?_
    refine s_if K d17_44 (pn := 47) rfl (by decide) (pc' := 56) (by decide) (fun h2 => ?_) (fun h2 => ?_)
    · have g2 := own_leY h2
      refine s_iload K d17_56 (pc' := 58) rfl rfl ?_
      refine s_istore K d17_58 (pc' := 60) rfl (Ls' := #[.val (.ref b110), .val (.int 1), .val (.long p3), .second, .val (.int 1), .val (.int 1), .val (.int 1)]) rfl ?_
      refine s_goto K d17_60 (by decide) (pc' := 19) (by decide) ?_
      refine s_iload K d17_19 (pc' := 21) rfl rfl ?_
      refine s_iload K d17_21 (pc' := 23) rfl rfl ?_
      refine s_icY K d17_23 rfl (by decide) (pc' := 63) (by decide) ?_
      refine s_iload K d17_63 (pc' := 65) rfl rfl ?_
      exact s_ireturn K d17_65 (by decide) (by decide) ⟨by rw [own_b0 (x := hi) (t := p3) (by omega), own_b0 (x := mid) (t := p3) (by omega)]; rfl, rfl⟩
    · have g2 := own_leN h2
      refine s_iload K d17_47 (pc' := 49) rfl rfl ?_
      refine s_iconst K d17_49 (pc' := 50) rfl (z := (1 : Int32)) rfl ?_
      refine s_iadd K d17_50 (pc' := 51) rfl (z := (2 : Int32)) rfl ?_
      refine s_istore K d17_51 (pc' := 53) rfl (Ls' := #[.val (.ref b110), .val (.int 1), .val (.long p3), .second, .val (.int 2), .val (.int 2), .val (.int 1)]) rfl ?_
      refine s_goto K d17_53 (by decide) (pc' := 60) (by decide) ?_
      refine s_goto K d17_60 (by decide) (pc' := 19) (by decide) ?_
      refine s_iload K d17_19 (pc' := 21) rfl rfl ?_
      refine s_iload K d17_21 (pc' := 23) rfl rfl ?_
      refine s_icY K d17_23 rfl (by decide) (pc' := 63) (by decide) ?_
      refine s_iload K d17_63 (pc' := 65) rfl rfl ?_
      exact s_ireturn K d17_65 (by decide) (by decide) ⟨by rw [own_b1 (x := hi) (t := p3) (by omega), own_b0 (x := mid) (t := p3) (by omega)]; rfl, rfl⟩
  · have g1 := own_leN h1
    refine s_iload K d17_47 (pc' := 49) rfl rfl ?_
    refine s_iconst K d17_49 (pc' := 50) rfl (z := (1 : Int32)) rfl ?_
    refine s_iadd K d17_50 (pc' := 51) rfl (z := (3 : Int32)) rfl ?_
    refine s_istore K d17_51 (pc' := 53) rfl (Ls' := #[.val (.ref b110), .val (.int 1), .val (.long p3), .second, .val (.int 3), .val (.int 3), .val (.int 2)]) rfl ?_
    refine s_goto K d17_53 (by decide) (pc' := 60) (by decide) ?_
    refine s_goto K d17_60 (by decide) (pc' := 19) (by decide) ?_
    refine s_iload K d17_19 (pc' := 21) rfl rfl ?_
    refine s_iload K d17_21 (pc' := 23) rfl rfl ?_
    refine s_icY K d17_23 rfl (by decide) (pc' := 63) (by decide) ?_
    refine s_iload K d17_63 (pc' := 65) rfl rfl ?_
    exact s_ireturn K d17_65 (by decide) (by decide) ⟨by rw [own_b1 (x := hi) (t := p3) (by omega), own_b1 (x := mid) (t := p3) (by omega)]; rfl, rfl⟩
set_option maxRecDepth 65536 in
set_option maxHeartbeats 400000000 in
theorem segB_120 {l : Launch} {Z : State} {a0 : Array Value} (hw : HW Z a0) {n0 : Nat} (p0 p1 p2 p3 hi mid lo : Int64) (p4 : Int32) (b110 b107 b140 b131 b142 b141 b108 b133 b132 b101 b109 b111 b112 b139 b106 b135 b138 b134 : Addr) (o1 : mid.toInt ≤ hi.toInt) (o2 : lo.toInt ≤ mid.toInt) (κ : Ctx) (K : Ok Z κ x.cls code maxLocals ret x.name) :
    Go l Z n0 room_1 (fun v _ => v = some (.int 1)) κ 21 83 [(b110, oLS (.int 0) (.int 0) .null (.int 0) (.int 0) (.ref b111) (.ref b112) (.ref b142) (.ref b141) (.ref b108) (.ref b109) (.ref b139) (.ref b107) (.ref b106) (.ref b135) (.ref b138) (.ref b134) (.ref b140) .null (.ref b133) (.ref b132) (.ref b131) .null .null .null .null .null .null .null), (b107, .inr (.int, [.int 0, .int 1])), (b140, .inr (.int, [.int 0, .int 1, .int 4])), (b131, .inr (.int, [.int 0, .int 0])), (b142, .inr (.int, [.int 0, .int 0])), (b141, .inr (.long, [.long 0, .long 0])), (b108, .inr (.long, [.long hi, .long mid, .long lo, .long p0])), (b133, .inr (.int, [.int 0, .int 0, .int 0, .int 0])), (b132, .inr (.long, [.long 0, .long 0, .long 0, .long 0]))] 172 #[.val (.long p0), .second, .val (.long p1), .second, .val (.long p2), .second, .val (.long p3), .second, .val (.int p4), .val (.long hi), .second, .val (.long lo), .second, .val (.long mid), .second, .val (.int 2), .val (.int 0), .val (.int 1), .val (.ref b101), .val (.ref b108), .val (.ref b109), .val (.ref b110), .unset, .unset] [] := by
  refine s_iload K at_172 (pc' := 174) rfl rfl ?_
  refine s_ifN K at_174 (pc' := 177) rfl rfl ?_
  refine s_aload K at_177 (pc' := 179) rfl rfl rfl ?_
  refine s_iconst K at_179 (pc' := 180) rfl (z := (0 : Int32)) rfl ?_
  refine s_iconst K at_180 (pc' := 181) rfl (z := (3 : Int32)) rfl ?_
  refine s_virtual K at_181 (pc' := 184) rfl (k := 0) (a := b110) rfl (as := [.int 0, .int 3]) (k22_place hw _ b110 b107 b140 b131 b142 b141 b108 b133 b132 b111 b112 b109 b139 b106 b135 b138 b134 hi mid lo p0) (w154 hw) (w155 hw) (w157 hw) (w156 hw) (w35 hw) (w158 hw) (by decide) pd_0 rfl (rest := []) rfl rfl (W := 0) (Nat.le_of_eq rfl) (by decide) (by decide) (ce' := 21) rfl (sl' := 83) rfl (by decide) (by decide) ?_
  rintro v _ ⟨rfl, rfl⟩
  show Go l Z n0 _ _ κ 21 83 [(b110, oLS (.int 0) (.int 0) .null (.int 0) (.int 0) (.ref b111) (.ref b112) (.ref b142) (.ref b141) (.ref b108) (.ref b109) (.ref b139) (.ref b107) (.ref b106) (.ref b135) (.ref b138) (.ref b134) (.ref b140) .null (.ref b133) (.ref b132) (.ref b131) .null .null .null .null .null .null .null), (b107, .inr (.int, [.int 0, .int 1])), (b140, .inr (.int, [.int 0, .int 1, .int 4])), (b131, .inr (.int, [.int 1, .int 0])), (b142, .inr (.int, [.int 1, .int 0])), (b141, .inr (.long, [.long ((0 : Int64) + p0), .long 0])), (b108, .inr (.long, [.long hi, .long mid, .long lo, .long p0])), (b133, .inr (.int, [.int 3, .int 0, .int 0, .int 0])), (b132, .inr (.long, [.long p0, .long 0, .long 0, .long 0]))] 184 #[.val (.long p0), .second, .val (.long p1), .second, .val (.long p2), .second, .val (.long p3), .second, .val (.int p4), .val (.long hi), .second, .val (.long lo), .second, .val (.long mid), .second, .val (.int 2), .val (.int 0), .val (.int 1), .val (.ref b101), .val (.ref b108), .val (.ref b109), .val (.ref b110), .unset, .unset] []
  refine s_iload K at_184 (pc' := 186) rfl rfl ?_
  refine s_iconst K at_186 (pc' := 187) rfl (z := (1 : Int32)) rfl ?_
  refine s_icN K at_187 (pc' := 190) rfl rfl ?_
  refine s_aload K at_190 (pc' := 192) rfl rfl rfl ?_
  refine s_iconst K at_192 (pc' := 193) rfl (z := (1 : Int32)) rfl ?_
  refine s_iconst K at_193 (pc' := 194) rfl (z := (0 : Int32)) rfl ?_
  refine s_virtual K at_194 (pc' := 197) rfl (k := 0) (a := b110) rfl (as := [.int 1, .int 0]) (k25_place hw _ b110 b107 b140 b131 b142 b141 b108 b133 b132 b111 b112 b109 b139 b106 b135 b138 b134 hi mid lo p0) (w154 hw) (w155 hw) (w157 hw) (w156 hw) (w35 hw) (w158 hw) (by decide) pd_0 rfl (rest := []) rfl rfl (W := 0) (Nat.le_of_eq rfl) (by decide) (by decide) (ce' := 21) rfl (sl' := 83) rfl (by decide) (by decide) ?_
  rintro v _ ⟨rfl, rfl⟩
  show Go l Z n0 _ _ κ 21 83 [(b110, oLS (.int 0) (.int 0) .null (.int 0) (.int 0) (.ref b111) (.ref b112) (.ref b142) (.ref b141) (.ref b108) (.ref b109) (.ref b139) (.ref b107) (.ref b106) (.ref b135) (.ref b138) (.ref b134) (.ref b140) .null (.ref b133) (.ref b132) (.ref b131) .null .null .null .null .null .null .null), (b107, .inr (.int, [.int 0, .int 1])), (b140, .inr (.int, [.int 0, .int 1, .int 4])), (b131, .inr (.int, [.int 1, .int 1])), (b142, .inr (.int, [.int 1, .int 1])), (b141, .inr (.long, [.long ((0 : Int64) + p0), .long ((0 : Int64) + hi)])), (b108, .inr (.long, [.long hi, .long mid, .long lo, .long p0])), (b133, .inr (.int, [.int 3, .int 0, .int 0, .int 0])), (b132, .inr (.long, [.long p0, .long hi, .long 0, .long 0]))] 197 #[.val (.long p0), .second, .val (.long p1), .second, .val (.long p2), .second, .val (.long p3), .second, .val (.int p4), .val (.long hi), .second, .val (.long lo), .second, .val (.long mid), .second, .val (.int 2), .val (.int 0), .val (.int 1), .val (.ref b101), .val (.ref b108), .val (.ref b109), .val (.ref b110), .unset, .unset] []
  refine s_iload K at_197 (pc' := 199) rfl rfl ?_
  refine s_iconst K at_199 (pc' := 200) rfl (z := (2 : Int32)) rfl ?_
  refine s_icN K at_200 (pc' := 203) rfl rfl ?_
  refine s_aload K at_203 (pc' := 205) rfl rfl rfl ?_
  refine s_iconst K at_205 (pc' := 206) rfl (z := (1 : Int32)) rfl ?_
  refine s_iconst K at_206 (pc' := 207) rfl (z := (1 : Int32)) rfl ?_
  refine s_virtual K at_207 (pc' := 210) rfl (k := 0) (a := b110) rfl (as := [.int 1, .int 1]) (k28_place hw _ b110 b107 b140 b131 b142 b141 b108 b133 b132 b111 b112 b109 b139 b106 b135 b138 b134 hi mid lo p0) (w154 hw) (w155 hw) (w157 hw) (w156 hw) (w35 hw) (w158 hw) (by decide) pd_0 rfl (rest := []) rfl rfl (W := 0) (Nat.le_of_eq rfl) (by decide) (by decide) (ce' := 21) rfl (sl' := 83) rfl (by decide) (by decide) ?_
  rintro v _ ⟨rfl, rfl⟩
  show Go l Z n0 _ _ κ 21 83 [(b110, oLS (.int 0) (.int 0) .null (.int 0) (.int 0) (.ref b111) (.ref b112) (.ref b142) (.ref b141) (.ref b108) (.ref b109) (.ref b139) (.ref b107) (.ref b106) (.ref b135) (.ref b138) (.ref b134) (.ref b140) .null (.ref b133) (.ref b132) (.ref b131) .null .null .null .null .null .null .null), (b107, .inr (.int, [.int 0, .int 1])), (b140, .inr (.int, [.int 0, .int 1, .int 4])), (b131, .inr (.int, [.int 1, .int 2])), (b142, .inr (.int, [.int 1, .int 2])), (b141, .inr (.long, [.long ((0 : Int64) + p0), .long (((0 : Int64) + hi) + mid)])), (b108, .inr (.long, [.long hi, .long mid, .long lo, .long p0])), (b133, .inr (.int, [.int 3, .int 0, .int 1, .int 0])), (b132, .inr (.long, [.long p0, .long hi, .long mid, .long 0]))] 210 #[.val (.long p0), .second, .val (.long p1), .second, .val (.long p2), .second, .val (.long p3), .second, .val (.int p4), .val (.long hi), .second, .val (.long lo), .second, .val (.long mid), .second, .val (.int 2), .val (.int 0), .val (.int 1), .val (.ref b101), .val (.ref b108), .val (.ref b109), .val (.ref b110), .unset, .unset] []
  refine s_iload K at_210 (pc' := 212) rfl rfl ?_
  refine s_iconst K at_212 (pc' := 213) rfl (z := (3 : Int32)) rfl ?_
  refine s_icY K at_213 rfl (by decide) (pc' := 223) (by decide) ?_
  refine s_iload K at_223 (pc' := 225) rfl rfl ?_
  refine s_ifY K at_225 rfl (by decide) (pc' := 260) (by decide) ?_
  refine s_aload K at_260 (pc' := 262) rfl rfl rfl ?_
  refine s_iconst K at_262 (pc' := 263) rfl (z := (1 : Int32)) rfl ?_
  refine s_lload K at_263 (pc' := 265) rfl rfl ?_
  refine s_virtual K at_265 (pc' := 268) rfl (k := 0) (a := b110) rfl (as := [.int 1, .long p3]) (first13 hw _ b110 b107 b140 b131 b142 b141 b108 b133 b132 b111 b112 b109 b139 b106 b135 b138 b134 (((0 : Int64) + hi) + mid) hi mid lo p0 p3 o1) (w168 hw) (w169 hw) (w171 hw) (w170 hw) (w35 hw) (w172 hw) (by decide) pd_9 rfl (rest := []) rfl rfl (W := 0) (Nat.le_of_eq rfl) (by decide) (by decide) (ce' := 21) rfl (sl' := 83) rfl (by decide) (by decide) ?_
  rintro v _ ⟨rfl, rfl⟩
  show Go l Z n0 _ _ κ 21 83 [(b110, oLS (.int 0) (.int 0) .null (.int 0) (.int 0) (.ref b111) (.ref b112) (.ref b142) (.ref b141) (.ref b108) (.ref b109) (.ref b139) (.ref b107) (.ref b106) (.ref b135) (.ref b138) (.ref b134) (.ref b140) .null (.ref b133) (.ref b132) (.ref b131) .null .null .null .null .null .null .null), (b107, .inr (.int, [.int 0, .int 1])), (b140, .inr (.int, [.int 0, .int 1, .int 4])), (b131, .inr (.int, [.int 1, .int 2])), (b142, .inr (.int, [.int 1, .int 2])), (b141, .inr (.long, [.long ((0 : Int64) + p0), .long (((0 : Int64) + hi) + mid)])), (b108, .inr (.long, [.long hi, .long mid, .long lo, .long p0])), (b133, .inr (.int, [.int 3, .int 0, .int 1, .int 0])), (b132, .inr (.long, [.long p0, .long hi, .long mid, .long 0]))] 268 #[.val (.long p0), .second, .val (.long p1), .second, .val (.long p2), .second, .val (.long p3), .second, .val (.int p4), .val (.long hi), .second, .val (.long lo), .second, .val (.long mid), .second, .val (.int 2), .val (.int 0), .val (.int 1), .val (.ref b101), .val (.ref b108), .val (.ref b109), .val (.ref b110), .unset, .unset] [.int (Int32.ofNat (1 + own_b hi p3 + own_b mid p3))]
  refine s_istore K at_268 (pc' := 270) rfl (Ls' := #[.val (.long p0), .second, .val (.long p1), .second, .val (.long p2), .second, .val (.long p3), .second, .val (.int p4), .val (.long hi), .second, .val (.long lo), .second, .val (.long mid), .second, .val (.int 2), .val (.int 0), .val (.int 1), .val (.ref b101), .val (.ref b108), .val (.ref b109), .val (.ref b110), .val (.int (Int32.ofNat (1 + own_b hi p3 + own_b mid p3))), .unset]) rfl ?_
  refine s_iconst K at_270 (pc' := 271) rfl (z := (1 : Int32)) rfl ?_
  refine s_istore K at_271 (pc' := 273) rfl (Ls' := #[.val (.long p0), .second, .val (.long p1), .second, .val (.long p2), .second, .val (.long p3), .second, .val (.int p4), .val (.long hi), .second, .val (.long lo), .second, .val (.long mid), .second, .val (.int 2), .val (.int 0), .val (.int 1), .val (.ref b101), .val (.ref b108), .val (.ref b109), .val (.ref b110), .val (.int (Int32.ofNat (1 + own_b hi p3 + own_b mid p3))), .val (.int 1)]) rfl ?_
  refine s_iload K at_273 (pc' := 275) rfl rfl ?_
  refine s_iconst K at_275 (pc' := 276) rfl (z := (1 : Int32)) rfl ?_
  refine s_icN K at_276 (pc' := 279) rfl rfl ?_
  refine s_lload K at_279 (pc' := 281) rfl rfl ?_
  refine s_lload K at_281 (pc' := 283) rfl rfl ?_
  refine s_lcmp K at_283 (pc' := 284) rfl  ?_
  refine s_if K at_284 (pn := 287) rfl (by decide) (pc' := 293) (by decide) (fun h1 => ?_) (fun h1 => ?_)
  · have g1 := own_leY h1
    refine s_iload K at_293 (pc' := 295) rfl rfl ?_
    refine s_iconst K at_295 (pc' := 296) rfl (z := (2 : Int32)) rfl ?_
    refine s_icN K at_296 (pc' := 299) rfl rfl ?_
    refine s_lload K at_299 (pc' := 301) rfl rfl ?_
    refine s_lload K at_301 (pc' := 303) rfl rfl ?_
    refine s_lcmp K at_303 (pc' := 304) rfl  ?_
    refine s_if K at_304 (pn := 307) rfl (by decide) (pc' := 313) (by decide) (fun h2 => ?_) (fun h2 => ?_)
    · have g2 := own_leY h2
      refine s_iload K at_313 (pc' := 315) rfl rfl ?_
      refine s_iconst K at_315 (pc' := 316) rfl (z := (3 : Int32)) rfl ?_
      refine s_icY K at_316 rfl (by decide) (pc' := 333) (by decide) ?_
      refine s_iload K at_333 (pc' := 335) rfl rfl ?_
      refine s_iload K at_335 (pc' := 337) rfl rfl ?_
      refine s_icN K at_337 (pc' := 340) rfl (teq (by rw [own_b0 (x := hi) (t := p3) g1, own_b0 (x := mid) (t := p3) g2]; rfl)).2 ?_
      refine s_iconst K at_340 (pc' := 341) rfl (z := (1 : Int32)) rfl ?_
      refine s_goto K at_341 (by decide) (pc' := 345) (by decide) ?_
      exact s_zreturn K at_345 rfl (by decide) (by decide) rfl
    · have g2 := own_leN h2
      refine s_iload K at_307 (pc' := 309) rfl rfl ?_
      refine s_iconst K at_309 (pc' := 310) rfl (z := (1 : Int32)) rfl ?_
      refine s_iadd K at_310 (pc' := 311) rfl (z := (2 : Int32)) rfl ?_
      refine s_istore K at_311 (pc' := 313) rfl (Ls' := #[.val (.long p0), .second, .val (.long p1), .second, .val (.long p2), .second, .val (.long p3), .second, .val (.int p4), .val (.long hi), .second, .val (.long lo), .second, .val (.long mid), .second, .val (.int 2), .val (.int 0), .val (.int 1), .val (.ref b101), .val (.ref b108), .val (.ref b109), .val (.ref b110), .val (.int (Int32.ofNat (1 + own_b hi p3 + own_b mid p3))), .val (.int 2)]) rfl ?_
      refine s_iload K at_313 (pc' := 315) rfl rfl ?_
      refine s_iconst K at_315 (pc' := 316) rfl (z := (3 : Int32)) rfl ?_
      refine s_icY K at_316 rfl (by decide) (pc' := 333) (by decide) ?_
      refine s_iload K at_333 (pc' := 335) rfl rfl ?_
      refine s_iload K at_335 (pc' := 337) rfl rfl ?_
      refine s_icN K at_337 (pc' := 340) rfl (teq (by rw [own_b0 (x := hi) (t := p3) g1, own_b1 (x := mid) (t := p3) g2]; rfl)).2 ?_
      refine s_iconst K at_340 (pc' := 341) rfl (z := (1 : Int32)) rfl ?_
      refine s_goto K at_341 (by decide) (pc' := 345) (by decide) ?_
      exact s_zreturn K at_345 rfl (by decide) (by decide) rfl
  · have g1 := own_leN h1
    refine s_iload K at_287 (pc' := 289) rfl rfl ?_
    refine s_iconst K at_289 (pc' := 290) rfl (z := (1 : Int32)) rfl ?_
    refine s_iadd K at_290 (pc' := 291) rfl (z := (2 : Int32)) rfl ?_
    refine s_istore K at_291 (pc' := 293) rfl (Ls' := #[.val (.long p0), .second, .val (.long p1), .second, .val (.long p2), .second, .val (.long p3), .second, .val (.int p4), .val (.long hi), .second, .val (.long lo), .second, .val (.long mid), .second, .val (.int 2), .val (.int 0), .val (.int 1), .val (.ref b101), .val (.ref b108), .val (.ref b109), .val (.ref b110), .val (.int (Int32.ofNat (1 + own_b hi p3 + own_b mid p3))), .val (.int 2)]) rfl ?_
    refine s_iload K at_293 (pc' := 295) rfl rfl ?_
    refine s_iconst K at_295 (pc' := 296) rfl (z := (2 : Int32)) rfl ?_
    refine s_icN K at_296 (pc' := 299) rfl rfl ?_
    refine s_lload K at_299 (pc' := 301) rfl rfl ?_
    refine s_lload K at_301 (pc' := 303) rfl rfl ?_
    refine s_lcmp K at_303 (pc' := 304) rfl  ?_
    refine s_if K at_304 (pn := 307) rfl (by decide) (pc' := 313) (by decide) (fun h2 => ?_) (fun h2 => ?_)
    · have g2 := own_leY h2
      refine s_iload K at_313 (pc' := 315) rfl rfl ?_
      refine s_iconst K at_315 (pc' := 316) rfl (z := (3 : Int32)) rfl ?_
      refine s_icY K at_316 rfl (by decide) (pc' := 333) (by decide) ?_
      refine s_iload K at_333 (pc' := 335) rfl rfl ?_
      refine s_iload K at_335 (pc' := 337) rfl rfl ?_
      refine s_icN K at_337 (pc' := 340) rfl (teq (by rw [own_b1 (x := hi) (t := p3) g1, own_b0 (x := mid) (t := p3) g2]; rfl)).2 ?_
      refine s_iconst K at_340 (pc' := 341) rfl (z := (1 : Int32)) rfl ?_
      refine s_goto K at_341 (by decide) (pc' := 345) (by decide) ?_
      exact s_zreturn K at_345 rfl (by decide) (by decide) rfl
    · have g2 := own_leN h2
      refine s_iload K at_307 (pc' := 309) rfl rfl ?_
      refine s_iconst K at_309 (pc' := 310) rfl (z := (1 : Int32)) rfl ?_
      refine s_iadd K at_310 (pc' := 311) rfl (z := (3 : Int32)) rfl ?_
      refine s_istore K at_311 (pc' := 313) rfl (Ls' := #[.val (.long p0), .second, .val (.long p1), .second, .val (.long p2), .second, .val (.long p3), .second, .val (.int p4), .val (.long hi), .second, .val (.long lo), .second, .val (.long mid), .second, .val (.int 2), .val (.int 0), .val (.int 1), .val (.ref b101), .val (.ref b108), .val (.ref b109), .val (.ref b110), .val (.int (Int32.ofNat (1 + own_b hi p3 + own_b mid p3))), .val (.int 3)]) rfl ?_
      refine s_iload K at_313 (pc' := 315) rfl rfl ?_
      refine s_iconst K at_315 (pc' := 316) rfl (z := (3 : Int32)) rfl ?_
      refine s_icY K at_316 rfl (by decide) (pc' := 333) (by decide) ?_
      refine s_iload K at_333 (pc' := 335) rfl rfl ?_
      refine s_iload K at_335 (pc' := 337) rfl rfl ?_
      refine s_icN K at_337 (pc' := 340) rfl (teq (by rw [own_b1 (x := hi) (t := p3) g1, own_b1 (x := mid) (t := p3) g2]; rfl)).2 ?_
      refine s_iconst K at_340 (pc' := 341) rfl (z := (1 : Int32)) rfl ?_
      refine s_goto K at_341 (by decide) (pc' := 345) (by decide) ?_
      exact s_zreturn K at_345 rfl (by decide) (by decide) rfl
set_option maxRecDepth 65536 in
set_option maxHeartbeats 400000000 in
theorem first14 {l : Launch} {Z : State} {a0 : Array Value} (hw : HW Z a0) {n0 : Nat} (F : Wd) (b110 b107 b140 b131 b142 b141 b108 b133 b132 b111 b112 b109 b139 b106 b135 b138 b134 : Addr) (xx1 : Int64) (hi : Int64) (mid : Int64) (lo : Int64) (p0 : Int64) (p3 : Int64)  :
    Con l Z n0 (⟨"com/example/evenkeel/evenkeel/LagSeats", "firstAtMost", "(IJ)I"⟩ : MethodName) prog_60_method_33_code 7 (some .int) ({ frames := 0, cells := 0, slots := 0, locals := 0 } : Room) [.ref b110, .int (0 : Int32), .long p3] ((b110, oLS (.int 0) (.int 0) .null (.int 0) (.int 0) (.ref b111) (.ref b112) (.ref b142) (.ref b141) (.ref b108) (.ref b109) (.ref b139) (.ref b107) (.ref b106) (.ref b135) (.ref b138) (.ref b134) (.ref b140) .null (.ref b133) (.ref b132) (.ref b131) .null .null .null .null .null .null .null) :: (b107, .inr (.int, [.int 0, .int 1])) :: (b140, .inr (.int, [.int 0, .int 1, .int 4])) :: (b131, .inr (.int, [.int 1, .int 2])) :: (b142, .inr (.int, [.int 1, .int 2])) :: (b141, .inr (.long, [.long ((0 : Int64) + p0), .long xx1])) :: (b108, .inr (.long, [.long hi, .long mid, .long lo, .long p0])) :: (b133, .inr (.int, [.int 3, .int 0, .int 1, .int 0])) :: (b132, .inr (.long, [.long p0, .long hi, .long mid, .long 0])) :: F) (fun v L' => v = some (.int (Int32.ofNat (0 + own_b p0 p3))) ∧ L' = ((b110, oLS (.int 0) (.int 0) .null (.int 0) (.int 0) (.ref b111) (.ref b112) (.ref b142) (.ref b141) (.ref b108) (.ref b109) (.ref b139) (.ref b107) (.ref b106) (.ref b135) (.ref b138) (.ref b134) (.ref b140) .null (.ref b133) (.ref b132) (.ref b131) .null .null .null .null .null .null .null) :: (b107, .inr (.int, [.int 0, .int 1])) :: (b140, .inr (.int, [.int 0, .int 1, .int 4])) :: (b131, .inr (.int, [.int 1, .int 2])) :: (b142, .inr (.int, [.int 1, .int 2])) :: (b141, .inr (.long, [.long ((0 : Int64) + p0), .long xx1])) :: (b108, .inr (.long, [.long hi, .long mid, .long lo, .long p0])) :: (b133, .inr (.int, [.int 3, .int 0, .int 1, .int 0])) :: (b132, .inr (.long, [.long p0, .long hi, .long mid, .long 0])) :: F)) := by
  refine Con.of (by decide +kernel) (Ls := #[.val (.ref b110), .val (.int 0), .val (.long p3), .second, .unset, .unset, .unset]) (fun m => by first | rfl | (simp [entryFrame, mkF, argsToLocals, Value.category]; done)) ?_
  intro κ K
  refine s_aloadN K d17_0 (pc' := 1) rfl rfl rfl ?_
  refine s_getf K d17_1 (pc' := 4) rfl (w96 hw) (k := 0) rfl (j := 17) rfl ?_
  refine s_iloadN K d17_4 (pc' := 5) rfl rfl ?_
  refine s_iaload K d17_5 (pc' := 6) rfl (k := 2) rfl (i := 0) (by decide) rfl ?_
  refine s_istore K d17_6 (pc' := 8) rfl (Ls' := #[.val (.ref b110), .val (.int 0), .val (.long p3), .second, .val (.int 0), .unset, .unset]) rfl ?_
  refine s_iload K d17_8 (pc' := 10) rfl rfl ?_
  refine s_aloadN K d17_10 (pc' := 11) rfl rfl rfl ?_
  refine s_getf K d17_11 (pc' := 14) rfl (w138 hw) (k := 0) rfl (j := 21) rfl ?_
  refine s_iloadN K d17_14 (pc' := 15) rfl rfl ?_
  refine s_iaload K d17_15 (pc' := 16) rfl (k := 3) rfl (i := 0) (by decide) rfl ?_
  refine s_iadd K d17_16 (pc' := 17) rfl (z := (1 : Int32)) rfl ?_
  refine s_istore K d17_17 (pc' := 19) rfl (Ls' := #[.val (.ref b110), .val (.int 0), .val (.long p3), .second, .val (.int 0), .val (.int 1), .unset]) rfl ?_
  refine s_iload K d17_19 (pc' := 21) rfl rfl ?_
  refine s_iload K d17_21 (pc' := 23) rfl rfl ?_
  refine s_icN K d17_23 (pc' := 26) rfl rfl ?_
  refine s_iload K d17_26 (pc' := 28) rfl rfl ?_
  refine s_iload K d17_28 (pc' := 30) rfl rfl ?_
  refine s_iadd K d17_30 (pc' := 31) rfl (z := (1 : Int32)) rfl ?_
  refine s_iconst K d17_31 (pc' := 32) rfl (z := (1 : Int32)) rfl ?_
  refine s_iushr K d17_32 (pc' := 33) rfl (z := (0 : Int32)) rfl ?_
  refine s_istore K d17_33 (pc' := 35) rfl (Ls' := #[.val (.ref b110), .val (.int 0), .val (.long p3), .second, .val (.int 0), .val (.int 1), .val (.int 0)]) rfl ?_
  refine s_aloadN K d17_35 (pc' := 36) rfl rfl rfl ?_
  refine s_getf K d17_36 (pc' := 39) rfl (w136 hw) (k := 0) rfl (j := 20) rfl ?_
  refine s_iload K d17_39 (pc' := 41) rfl rfl ?_
  refine s_laload K d17_41 (pc' := 42) rfl (k := 8) rfl (i := 0) (by decide) rfl ?_
  refine s_lloadN K d17_42 (pc' := 43) rfl rfl ?_
  refine s_lcmp K d17_43 (pc' := 44) rfl  ?_
  refine s_if K d17_44 (pn := 47) rfl (by decide) (pc' := 56) (by decide) (fun h1 => ?_) (fun h1 => ?_)
  · have g1 := own_leY h1
    refine s_iload K d17_56 (pc' := 58) rfl rfl ?_
    refine s_istore K d17_58 (pc' := 60) rfl (Ls' := #[.val (.ref b110), .val (.int 0), .val (.long p3), .second, .val (.int 0), .val (.int 0), .val (.int 0)]) rfl ?_
    refine s_goto K d17_60 (by decide) (pc' := 19) (by decide) ?_
    refine s_iload K d17_19 (pc' := 21) rfl rfl ?_
    refine s_iload K d17_21 (pc' := 23) rfl rfl ?_
    refine s_icY K d17_23 rfl (by decide) (pc' := 63) (by decide) ?_
    refine s_iload K d17_63 (pc' := 65) rfl rfl ?_
    exact s_ireturn K d17_65 (by decide) (by decide) ⟨by rw [own_b0 (x := p0) (t := p3) (by omega)]; rfl, rfl⟩
  · have g1 := own_leN h1
    refine s_iload K d17_47 (pc' := 49) rfl rfl ?_
    refine s_iconst K d17_49 (pc' := 50) rfl (z := (1 : Int32)) rfl ?_
    refine s_iadd K d17_50 (pc' := 51) rfl (z := (1 : Int32)) rfl ?_
    refine s_istore K d17_51 (pc' := 53) rfl (Ls' := #[.val (.ref b110), .val (.int 0), .val (.long p3), .second, .val (.int 1), .val (.int 1), .val (.int 0)]) rfl ?_
    refine s_goto K d17_53 (by decide) (pc' := 60) (by decide) ?_
    refine s_goto K d17_60 (by decide) (pc' := 19) (by decide) ?_
    refine s_iload K d17_19 (pc' := 21) rfl rfl ?_
    refine s_iload K d17_21 (pc' := 23) rfl rfl ?_
    refine s_icY K d17_23 rfl (by decide) (pc' := 63) (by decide) ?_
    refine s_iload K d17_63 (pc' := 65) rfl rfl ?_
    exact s_ireturn K d17_65 (by decide) (by decide) ⟨by rw [own_b1 (x := p0) (t := p3) (by omega)]; rfl, rfl⟩
set_option maxRecDepth 65536 in
set_option maxHeartbeats 400000000 in
theorem segB_121 {l : Launch} {Z : State} {a0 : Array Value} (hw : HW Z a0) {n0 : Nat} (p0 p1 p2 p3 hi mid lo : Int64) (p4 : Int32) (b110 b107 b140 b131 b142 b141 b108 b133 b132 b101 b109 b111 b112 b139 b106 b135 b138 b134 : Addr) (o1 : mid.toInt ≤ hi.toInt) (o2 : lo.toInt ≤ mid.toInt) (κ : Ctx) (K : Ok Z κ x.cls code maxLocals ret x.name) :
    Go l Z n0 room_1 (fun v _ => v = some (.int 1)) κ 21 83 [(b110, oLS (.int 0) (.int 0) .null (.int 0) (.int 0) (.ref b111) (.ref b112) (.ref b142) (.ref b141) (.ref b108) (.ref b109) (.ref b139) (.ref b107) (.ref b106) (.ref b135) (.ref b138) (.ref b134) (.ref b140) .null (.ref b133) (.ref b132) (.ref b131) .null .null .null .null .null .null .null), (b107, .inr (.int, [.int 0, .int 1])), (b140, .inr (.int, [.int 0, .int 1, .int 4])), (b131, .inr (.int, [.int 0, .int 0])), (b142, .inr (.int, [.int 0, .int 0])), (b141, .inr (.long, [.long 0, .long 0])), (b108, .inr (.long, [.long hi, .long mid, .long lo, .long p0])), (b133, .inr (.int, [.int 0, .int 0, .int 0, .int 0])), (b132, .inr (.long, [.long 0, .long 0, .long 0, .long 0]))] 172 #[.val (.long p0), .second, .val (.long p1), .second, .val (.long p2), .second, .val (.long p3), .second, .val (.int p4), .val (.long hi), .second, .val (.long lo), .second, .val (.long mid), .second, .val (.int 2), .val (.int 1), .val (.int 1), .val (.ref b101), .val (.ref b108), .val (.ref b109), .val (.ref b110), .unset, .unset] [] := by
  refine s_iload K at_172 (pc' := 174) rfl rfl ?_
  refine s_ifN K at_174 (pc' := 177) rfl rfl ?_
  refine s_aload K at_177 (pc' := 179) rfl rfl rfl ?_
  refine s_iconst K at_179 (pc' := 180) rfl (z := (0 : Int32)) rfl ?_
  refine s_iconst K at_180 (pc' := 181) rfl (z := (3 : Int32)) rfl ?_
  refine s_virtual K at_181 (pc' := 184) rfl (k := 0) (a := b110) rfl (as := [.int 0, .int 3]) (k22_place hw _ b110 b107 b140 b131 b142 b141 b108 b133 b132 b111 b112 b109 b139 b106 b135 b138 b134 hi mid lo p0) (w154 hw) (w155 hw) (w157 hw) (w156 hw) (w35 hw) (w158 hw) (by decide) pd_0 rfl (rest := []) rfl rfl (W := 0) (Nat.le_of_eq rfl) (by decide) (by decide) (ce' := 21) rfl (sl' := 83) rfl (by decide) (by decide) ?_
  rintro v _ ⟨rfl, rfl⟩
  show Go l Z n0 _ _ κ 21 83 [(b110, oLS (.int 0) (.int 0) .null (.int 0) (.int 0) (.ref b111) (.ref b112) (.ref b142) (.ref b141) (.ref b108) (.ref b109) (.ref b139) (.ref b107) (.ref b106) (.ref b135) (.ref b138) (.ref b134) (.ref b140) .null (.ref b133) (.ref b132) (.ref b131) .null .null .null .null .null .null .null), (b107, .inr (.int, [.int 0, .int 1])), (b140, .inr (.int, [.int 0, .int 1, .int 4])), (b131, .inr (.int, [.int 1, .int 0])), (b142, .inr (.int, [.int 1, .int 0])), (b141, .inr (.long, [.long ((0 : Int64) + p0), .long 0])), (b108, .inr (.long, [.long hi, .long mid, .long lo, .long p0])), (b133, .inr (.int, [.int 3, .int 0, .int 0, .int 0])), (b132, .inr (.long, [.long p0, .long 0, .long 0, .long 0]))] 184 #[.val (.long p0), .second, .val (.long p1), .second, .val (.long p2), .second, .val (.long p3), .second, .val (.int p4), .val (.long hi), .second, .val (.long lo), .second, .val (.long mid), .second, .val (.int 2), .val (.int 1), .val (.int 1), .val (.ref b101), .val (.ref b108), .val (.ref b109), .val (.ref b110), .unset, .unset] []
  refine s_iload K at_184 (pc' := 186) rfl rfl ?_
  refine s_iconst K at_186 (pc' := 187) rfl (z := (1 : Int32)) rfl ?_
  refine s_icN K at_187 (pc' := 190) rfl rfl ?_
  refine s_aload K at_190 (pc' := 192) rfl rfl rfl ?_
  refine s_iconst K at_192 (pc' := 193) rfl (z := (1 : Int32)) rfl ?_
  refine s_iconst K at_193 (pc' := 194) rfl (z := (0 : Int32)) rfl ?_
  refine s_virtual K at_194 (pc' := 197) rfl (k := 0) (a := b110) rfl (as := [.int 1, .int 0]) (k25_place hw _ b110 b107 b140 b131 b142 b141 b108 b133 b132 b111 b112 b109 b139 b106 b135 b138 b134 hi mid lo p0) (w154 hw) (w155 hw) (w157 hw) (w156 hw) (w35 hw) (w158 hw) (by decide) pd_0 rfl (rest := []) rfl rfl (W := 0) (Nat.le_of_eq rfl) (by decide) (by decide) (ce' := 21) rfl (sl' := 83) rfl (by decide) (by decide) ?_
  rintro v _ ⟨rfl, rfl⟩
  show Go l Z n0 _ _ κ 21 83 [(b110, oLS (.int 0) (.int 0) .null (.int 0) (.int 0) (.ref b111) (.ref b112) (.ref b142) (.ref b141) (.ref b108) (.ref b109) (.ref b139) (.ref b107) (.ref b106) (.ref b135) (.ref b138) (.ref b134) (.ref b140) .null (.ref b133) (.ref b132) (.ref b131) .null .null .null .null .null .null .null), (b107, .inr (.int, [.int 0, .int 1])), (b140, .inr (.int, [.int 0, .int 1, .int 4])), (b131, .inr (.int, [.int 1, .int 1])), (b142, .inr (.int, [.int 1, .int 1])), (b141, .inr (.long, [.long ((0 : Int64) + p0), .long ((0 : Int64) + hi)])), (b108, .inr (.long, [.long hi, .long mid, .long lo, .long p0])), (b133, .inr (.int, [.int 3, .int 0, .int 0, .int 0])), (b132, .inr (.long, [.long p0, .long hi, .long 0, .long 0]))] 197 #[.val (.long p0), .second, .val (.long p1), .second, .val (.long p2), .second, .val (.long p3), .second, .val (.int p4), .val (.long hi), .second, .val (.long lo), .second, .val (.long mid), .second, .val (.int 2), .val (.int 1), .val (.int 1), .val (.ref b101), .val (.ref b108), .val (.ref b109), .val (.ref b110), .unset, .unset] []
  refine s_iload K at_197 (pc' := 199) rfl rfl ?_
  refine s_iconst K at_199 (pc' := 200) rfl (z := (2 : Int32)) rfl ?_
  refine s_icN K at_200 (pc' := 203) rfl rfl ?_
  refine s_aload K at_203 (pc' := 205) rfl rfl rfl ?_
  refine s_iconst K at_205 (pc' := 206) rfl (z := (1 : Int32)) rfl ?_
  refine s_iconst K at_206 (pc' := 207) rfl (z := (1 : Int32)) rfl ?_
  refine s_virtual K at_207 (pc' := 210) rfl (k := 0) (a := b110) rfl (as := [.int 1, .int 1]) (k28_place hw _ b110 b107 b140 b131 b142 b141 b108 b133 b132 b111 b112 b109 b139 b106 b135 b138 b134 hi mid lo p0) (w154 hw) (w155 hw) (w157 hw) (w156 hw) (w35 hw) (w158 hw) (by decide) pd_0 rfl (rest := []) rfl rfl (W := 0) (Nat.le_of_eq rfl) (by decide) (by decide) (ce' := 21) rfl (sl' := 83) rfl (by decide) (by decide) ?_
  rintro v _ ⟨rfl, rfl⟩
  show Go l Z n0 _ _ κ 21 83 [(b110, oLS (.int 0) (.int 0) .null (.int 0) (.int 0) (.ref b111) (.ref b112) (.ref b142) (.ref b141) (.ref b108) (.ref b109) (.ref b139) (.ref b107) (.ref b106) (.ref b135) (.ref b138) (.ref b134) (.ref b140) .null (.ref b133) (.ref b132) (.ref b131) .null .null .null .null .null .null .null), (b107, .inr (.int, [.int 0, .int 1])), (b140, .inr (.int, [.int 0, .int 1, .int 4])), (b131, .inr (.int, [.int 1, .int 2])), (b142, .inr (.int, [.int 1, .int 2])), (b141, .inr (.long, [.long ((0 : Int64) + p0), .long (((0 : Int64) + hi) + mid)])), (b108, .inr (.long, [.long hi, .long mid, .long lo, .long p0])), (b133, .inr (.int, [.int 3, .int 0, .int 1, .int 0])), (b132, .inr (.long, [.long p0, .long hi, .long mid, .long 0]))] 210 #[.val (.long p0), .second, .val (.long p1), .second, .val (.long p2), .second, .val (.long p3), .second, .val (.int p4), .val (.long hi), .second, .val (.long lo), .second, .val (.long mid), .second, .val (.int 2), .val (.int 1), .val (.int 1), .val (.ref b101), .val (.ref b108), .val (.ref b109), .val (.ref b110), .unset, .unset] []
  refine s_iload K at_210 (pc' := 212) rfl rfl ?_
  refine s_iconst K at_212 (pc' := 213) rfl (z := (3 : Int32)) rfl ?_
  refine s_icY K at_213 rfl (by decide) (pc' := 223) (by decide) ?_
  refine s_iload K at_223 (pc' := 225) rfl rfl ?_
  refine s_ifN K at_225 (pc' := 228) rfl rfl ?_
  refine s_aload K at_228 (pc' := 230) rfl rfl rfl ?_
  refine s_iconst K at_230 (pc' := 231) rfl (z := (0 : Int32)) rfl ?_
  refine s_lload K at_231 (pc' := 233) rfl rfl ?_
  refine s_virtual K at_233 (pc' := 236) rfl (k := 0) (a := b110) rfl (as := [.int 0, .long p3]) (first14 hw _ b110 b107 b140 b131 b142 b141 b108 b133 b132 b111 b112 b109 b139 b106 b135 b138 b134 (((0 : Int64) + hi) + mid) hi mid lo p0 p3 ) (w168 hw) (w169 hw) (w171 hw) (w170 hw) (w35 hw) (w172 hw) (by decide) pd_9 rfl (rest := []) rfl rfl (W := 0) (Nat.le_of_eq rfl) (by decide) (by decide) (ce' := 21) rfl (sl' := 83) rfl (by decide) (by decide) ?_
  rintro v _ ⟨rfl, rfl⟩
  show Go l Z n0 _ _ κ 21 83 [(b110, oLS (.int 0) (.int 0) .null (.int 0) (.int 0) (.ref b111) (.ref b112) (.ref b142) (.ref b141) (.ref b108) (.ref b109) (.ref b139) (.ref b107) (.ref b106) (.ref b135) (.ref b138) (.ref b134) (.ref b140) .null (.ref b133) (.ref b132) (.ref b131) .null .null .null .null .null .null .null), (b107, .inr (.int, [.int 0, .int 1])), (b140, .inr (.int, [.int 0, .int 1, .int 4])), (b131, .inr (.int, [.int 1, .int 2])), (b142, .inr (.int, [.int 1, .int 2])), (b141, .inr (.long, [.long ((0 : Int64) + p0), .long (((0 : Int64) + hi) + mid)])), (b108, .inr (.long, [.long hi, .long mid, .long lo, .long p0])), (b133, .inr (.int, [.int 3, .int 0, .int 1, .int 0])), (b132, .inr (.long, [.long p0, .long hi, .long mid, .long 0]))] 236 #[.val (.long p0), .second, .val (.long p1), .second, .val (.long p2), .second, .val (.long p3), .second, .val (.int p4), .val (.long hi), .second, .val (.long lo), .second, .val (.long mid), .second, .val (.int 2), .val (.int 1), .val (.int 1), .val (.ref b101), .val (.ref b108), .val (.ref b109), .val (.ref b110), .unset, .unset] [.int (Int32.ofNat (0 + own_b p0 p3))]
  refine s_istore K at_236 (pc' := 238) rfl (Ls' := #[.val (.long p0), .second, .val (.long p1), .second, .val (.long p2), .second, .val (.long p3), .second, .val (.int p4), .val (.long hi), .second, .val (.long lo), .second, .val (.long mid), .second, .val (.int 2), .val (.int 1), .val (.int 1), .val (.ref b101), .val (.ref b108), .val (.ref b109), .val (.ref b110), .val (.int (Int32.ofNat (0 + own_b p0 p3))), .unset]) rfl ?_
  refine s_iload K at_238 (pc' := 240) rfl rfl ?_
  refine s_ifN K at_240 (pc' := 243) rfl rfl ?_
  refine s_lloadN K at_243 (pc' := 244) rfl rfl ?_
  refine s_lload K at_244 (pc' := 246) rfl rfl ?_
  refine s_lcmp K at_246 (pc' := 247) rfl  ?_
  refine s_if K at_247 (pn := 250) rfl (by decide) (pc' := 254) (by decide) (fun h1 => ?_) (fun h1 => ?_)
  · have g1 := own_leY h1
    refine s_iconst K at_254 (pc' := 255) rfl (z := (0 : Int32)) rfl ?_
    refine s_istore K at_255 (pc' := 257) rfl (Ls' := #[.val (.long p0), .second, .val (.long p1), .second, .val (.long p2), .second, .val (.long p3), .second, .val (.int p4), .val (.long hi), .second, .val (.long lo), .second, .val (.long mid), .second, .val (.int 2), .val (.int 1), .val (.int 1), .val (.ref b101), .val (.ref b108), .val (.ref b109), .val (.ref b110), .val (.int (Int32.ofNat (0 + own_b p0 p3))), .val (.int 0)]) rfl ?_
    refine s_goto K at_257 (by decide) (pc' := 333) (by decide) ?_
    refine s_iload K at_333 (pc' := 335) rfl rfl ?_
    refine s_iload K at_335 (pc' := 337) rfl rfl ?_
    refine s_icN K at_337 (pc' := 340) rfl (teq (by rw [own_b0 (x := p0) (t := p3) g1]; rfl)).2 ?_
    refine s_iconst K at_340 (pc' := 341) rfl (z := (1 : Int32)) rfl ?_
    refine s_goto K at_341 (by decide) (pc' := 345) (by decide) ?_
    exact s_zreturn K at_345 rfl (by decide) (by decide) rfl
  · have g1 := own_leN h1
    refine s_iconst K at_250 (pc' := 251) rfl (z := (1 : Int32)) rfl ?_
    refine s_goto K at_251 (by decide) (pc' := 255) (by decide) ?_
    refine s_istore K at_255 (pc' := 257) rfl (Ls' := #[.val (.long p0), .second, .val (.long p1), .second, .val (.long p2), .second, .val (.long p3), .second, .val (.int p4), .val (.long hi), .second, .val (.long lo), .second, .val (.long mid), .second, .val (.int 2), .val (.int 1), .val (.int 1), .val (.ref b101), .val (.ref b108), .val (.ref b109), .val (.ref b110), .val (.int (Int32.ofNat (0 + own_b p0 p3))), .val (.int 1)]) rfl ?_
    refine s_goto K at_257 (by decide) (pc' := 333) (by decide) ?_
    refine s_iload K at_333 (pc' := 335) rfl rfl ?_
    refine s_iload K at_335 (pc' := 337) rfl rfl ?_
    refine s_icN K at_337 (pc' := 340) rfl (teq (by rw [own_b1 (x := p0) (t := p3) g1]; rfl)).2 ?_
    refine s_iconst K at_340 (pc' := 341) rfl (z := (1 : Int32)) rfl ?_
    refine s_goto K at_341 (by decide) (pc' := 345) (by decide) ?_
    exact s_zreturn K at_345 rfl (by decide) (by decide) rfl
set_option maxRecDepth 65536 in
set_option maxHeartbeats 400000000 in
theorem k32_take {l : Launch} {Z : State} {a0 : Array Value} (hw : HW Z a0) {n0 : Nat} (F : Wd) (b110 b107 b140 b131 b142 b141 b108 b133 b132 b111 b112 b109 b139 b106 b135 b138 b134 : Addr) (xx1 : Int64) (hi : Int64) (mid : Int64) (lo : Int64) (p0 : Int64) :
    Con l Z n0 (⟨"com/example/evenkeel/evenkeel/LagSeats", "take", "(II)V"⟩ : MethodName) prog_60_method_27_code 3 none ({ frames := 0, cells := 0, slots := 0, locals := 0 } : Room) [.ref b110, .int 1, .int 2] ((b110, oLS (.int 0) (.int 0) .null (.int 0) (.int 0) (.ref b111) (.ref b112) (.ref b142) (.ref b141) (.ref b108) (.ref b109) (.ref b139) (.ref b107) (.ref b106) (.ref b135) (.ref b138) (.ref b134) (.ref b140) .null (.ref b133) (.ref b132) (.ref b131) .null .null .null .null .null .null .null) :: (b107, .inr (.int, [.int 0, .int 1])) :: (b140, .inr (.int, [.int 0, .int 1, .int 4])) :: (b131, .inr (.int, [.int 1, .int 2])) :: (b142, .inr (.int, [.int 1, .int 2])) :: (b141, .inr (.long, [.long ((0 : Int64) + p0), .long xx1])) :: (b108, .inr (.long, [.long hi, .long mid, .long lo, .long p0])) :: (b133, .inr (.int, [.int 3, .int 0, .int 1, .int 0])) :: (b132, .inr (.long, [.long p0, .long hi, .long mid, .long 0])) :: F) (fun v L' => v = none ∧ L' = ((b110, oLS (.int 0) (.int 0) .null (.int 0) (.int 0) (.ref b111) (.ref b112) (.ref b142) (.ref b141) (.ref b108) (.ref b109) (.ref b139) (.ref b107) (.ref b106) (.ref b135) (.ref b138) (.ref b134) (.ref b140) .null (.ref b133) (.ref b132) (.ref b131) .null .null .null .null .null .null .null) :: (b107, .inr (.int, [.int 0, .int 1])) :: (b140, .inr (.int, [.int 0, .int 1, .int 4])) :: (b131, .inr (.int, [.int 1, .int 2])) :: (b142, .inr (.int, [.int 1, .int 3])) :: (b141, .inr (.long, [.long ((0 : Int64) + p0), .long (xx1 + lo)])) :: (b108, .inr (.long, [.long hi, .long mid, .long lo, .long p0])) :: (b133, .inr (.int, [.int 3, .int 0, .int 1, .int 0])) :: (b132, .inr (.long, [.long p0, .long hi, .long mid, .long 0])) :: F)) := by
  refine Con.of (by decide +kernel) (Ls := #[.val (.ref b110), .val (.int 1), .val (.int 2)]) (fun m => by first | rfl | (simp [entryFrame, mkF, argsToLocals, Value.category]; done)) ?_
  intro κ K
  refine s_aloadN K d15_0 (pc' := 1) rfl rfl rfl ?_
  refine s_getf K d15_1 (pc' := 4) rfl (w40 hw) (k := 0) rfl (j := 0) rfl ?_
  refine s_ifY K d15_4 rfl (by decide) (pc' := 32) (by decide) ?_
  refine s_aloadN K d15_32 (pc' := 33) rfl rfl rfl ?_
  refine s_getf K d15_33 (pc' := 36) rfl (w63 hw) (k := 0) rfl (j := 7) rfl ?_
  refine s_iloadN K d15_36 (pc' := 37) rfl rfl ?_
  refine s_dup2 K d15_37 (pc' := 38) rfl rfl rfl ?_
  refine s_iaload K d15_38 (pc' := 39) rfl (k := 4) rfl (i := 1) (by decide) rfl ?_
  refine s_iconst K d15_39 (pc' := 40) rfl (z := (1 : Int32)) rfl ?_
  refine s_iadd K d15_40 (pc' := 41) rfl (z := (3 : Int32)) rfl ?_
  refine s_iastore K d15_41 (pc' := 42) rfl (k := 4) rfl (i := 1) (by decide) (ltB rfl) (L' := ((b110, oLS (.int 0) (.int 0) .null (.int 0) (.int 0) (.ref b111) (.ref b112) (.ref b142) (.ref b141) (.ref b108) (.ref b109) (.ref b139) (.ref b107) (.ref b106) (.ref b135) (.ref b138) (.ref b134) (.ref b140) .null (.ref b133) (.ref b132) (.ref b131) .null .null .null .null .null .null .null) :: (b107, .inr (.int, [.int 0, .int 1])) :: (b140, .inr (.int, [.int 0, .int 1, .int 4])) :: (b131, .inr (.int, [.int 1, .int 2])) :: (b142, .inr (.int, [.int 1, .int 3])) :: (b141, .inr (.long, [.long ((0 : Int64) + p0), .long xx1])) :: (b108, .inr (.long, [.long hi, .long mid, .long lo, .long p0])) :: (b133, .inr (.int, [.int 3, .int 0, .int 1, .int 0])) :: (b132, .inr (.long, [.long p0, .long hi, .long mid, .long 0])) :: F)) rfl ?_
  refine s_aloadN K d15_42 (pc' := 43) rfl rfl rfl ?_
  refine s_getf K d15_43 (pc' := 46) rfl (w71 hw) (k := 0) rfl (j := 8) rfl ?_
  refine s_iloadN K d15_46 (pc' := 47) rfl rfl ?_
  refine s_dup2 K d15_47 (pc' := 48) rfl rfl rfl ?_
  refine s_laload K d15_48 (pc' := 49) rfl (k := 5) rfl (i := 1) (by decide) rfl ?_
  refine s_aloadN K d15_49 (pc' := 50) rfl rfl rfl ?_
  refine s_getf K d15_50 (pc' := 53) rfl (w73 hw) (k := 0) rfl (j := 9) rfl ?_
  refine s_iloadN K d15_53 (pc' := 54) rfl rfl ?_
  refine s_laload K d15_54 (pc' := 55) rfl (k := 6) rfl (i := 2) (by decide) rfl ?_
  refine s_ladd K d15_55 (pc' := 56) rfl (z := xx1 + lo) rfl ?_
  refine s_lastore K d15_56 (pc' := 57) rfl (k := 5) rfl (i := 1) (by decide) (ltB rfl) (L' := ((b110, oLS (.int 0) (.int 0) .null (.int 0) (.int 0) (.ref b111) (.ref b112) (.ref b142) (.ref b141) (.ref b108) (.ref b109) (.ref b139) (.ref b107) (.ref b106) (.ref b135) (.ref b138) (.ref b134) (.ref b140) .null (.ref b133) (.ref b132) (.ref b131) .null .null .null .null .null .null .null) :: (b107, .inr (.int, [.int 0, .int 1])) :: (b140, .inr (.int, [.int 0, .int 1, .int 4])) :: (b131, .inr (.int, [.int 1, .int 2])) :: (b142, .inr (.int, [.int 1, .int 3])) :: (b141, .inr (.long, [.long ((0 : Int64) + p0), .long (xx1 + lo)])) :: (b108, .inr (.long, [.long hi, .long mid, .long lo, .long p0])) :: (b133, .inr (.int, [.int 3, .int 0, .int 1, .int 0])) :: (b132, .inr (.long, [.long p0, .long hi, .long mid, .long 0])) :: F)) rfl ?_
  exact s_return K d15_57 (by decide) (by decide) ⟨rfl, rfl⟩
set_option maxRecDepth 65536 in
set_option maxHeartbeats 400000000 in
theorem k33_put {l : Launch} {Z : State} {a0 : Array Value} (hw : HW Z a0) {n0 : Nat} (F : Wd) (b110 b107 b140 b131 b142 b141 b108 b133 b132 b111 b112 b109 b139 b106 b135 b138 b134 : Addr) (xx1 : Int64) (hi : Int64) (mid : Int64) (lo : Int64) (p0 : Int64) :
    Con l Z n0 (⟨"com/example/evenkeel/evenkeel/LagSeats", "put", "(II)V"⟩ : MethodName) prog_60_method_30_code 3 none ({ frames := 0, cells := 0, slots := 0, locals := 0 } : Room) [.ref b110, .int 3, .int 2] ((b110, oLS (.int 0) (.int 0) .null (.int 0) (.int 0) (.ref b111) (.ref b112) (.ref b142) (.ref b141) (.ref b108) (.ref b109) (.ref b139) (.ref b107) (.ref b106) (.ref b135) (.ref b138) (.ref b134) (.ref b140) .null (.ref b133) (.ref b132) (.ref b131) .null .null .null .null .null .null .null) :: (b107, .inr (.int, [.int 0, .int 1])) :: (b140, .inr (.int, [.int 0, .int 1, .int 4])) :: (b131, .inr (.int, [.int 1, .int 3])) :: (b142, .inr (.int, [.int 1, .int 3])) :: (b141, .inr (.long, [.long ((0 : Int64) + p0), .long xx1])) :: (b108, .inr (.long, [.long hi, .long mid, .long lo, .long p0])) :: (b133, .inr (.int, [.int 3, .int 0, .int 1, .int 0])) :: (b132, .inr (.long, [.long p0, .long hi, .long mid, .long 0])) :: F) (fun v L' => v = none ∧ L' = ((b110, oLS (.int 0) (.int 0) .null (.int 0) (.int 0) (.ref b111) (.ref b112) (.ref b142) (.ref b141) (.ref b108) (.ref b109) (.ref b139) (.ref b107) (.ref b106) (.ref b135) (.ref b138) (.ref b134) (.ref b140) .null (.ref b133) (.ref b132) (.ref b131) .null .null .null .null .null .null .null) :: (b107, .inr (.int, [.int 0, .int 1])) :: (b140, .inr (.int, [.int 0, .int 1, .int 4])) :: (b131, .inr (.int, [.int 1, .int 3])) :: (b142, .inr (.int, [.int 1, .int 3])) :: (b141, .inr (.long, [.long ((0 : Int64) + p0), .long xx1])) :: (b108, .inr (.long, [.long hi, .long mid, .long lo, .long p0])) :: (b133, .inr (.int, [.int 3, .int 0, .int 1, .int 2])) :: (b132, .inr (.long, [.long p0, .long hi, .long mid, .long lo])) :: F)) := by
  refine Con.of (by decide +kernel) (Ls := #[.val (.ref b110), .val (.int 3), .val (.int 2)]) (fun m => by first | rfl | (simp [entryFrame, mkF, argsToLocals, Value.category]; done)) ?_
  intro κ K
  refine s_aloadN K d16_0 (pc' := 1) rfl rfl rfl ?_
  refine s_getf K d16_1 (pc' := 4) rfl (w134 hw) (k := 0) rfl (j := 19) rfl ?_
  refine s_iloadN K d16_4 (pc' := 5) rfl rfl ?_
  refine s_iloadN K d16_5 (pc' := 6) rfl rfl ?_
  refine s_iastore K d16_6 (pc' := 7) rfl (k := 7) rfl (i := 3) (by decide) (ltB rfl) (L' := ((b110, oLS (.int 0) (.int 0) .null (.int 0) (.int 0) (.ref b111) (.ref b112) (.ref b142) (.ref b141) (.ref b108) (.ref b109) (.ref b139) (.ref b107) (.ref b106) (.ref b135) (.ref b138) (.ref b134) (.ref b140) .null (.ref b133) (.ref b132) (.ref b131) .null .null .null .null .null .null .null) :: (b107, .inr (.int, [.int 0, .int 1])) :: (b140, .inr (.int, [.int 0, .int 1, .int 4])) :: (b131, .inr (.int, [.int 1, .int 3])) :: (b142, .inr (.int, [.int 1, .int 3])) :: (b141, .inr (.long, [.long ((0 : Int64) + p0), .long xx1])) :: (b108, .inr (.long, [.long hi, .long mid, .long lo, .long p0])) :: (b133, .inr (.int, [.int 3, .int 0, .int 1, .int 2])) :: (b132, .inr (.long, [.long p0, .long hi, .long mid, .long 0])) :: F)) rfl ?_
  refine s_aloadN K d16_7 (pc' := 8) rfl rfl rfl ?_
  refine s_getf K d16_8 (pc' := 11) rfl (w136 hw) (k := 0) rfl (j := 20) rfl ?_
  refine s_iloadN K d16_11 (pc' := 12) rfl rfl ?_
  refine s_aloadN K d16_12 (pc' := 13) rfl rfl rfl ?_
  refine s_getf K d16_13 (pc' := 16) rfl (w73 hw) (k := 0) rfl (j := 9) rfl ?_
  refine s_iloadN K d16_16 (pc' := 17) rfl rfl ?_
  refine s_laload K d16_17 (pc' := 18) rfl (k := 6) rfl (i := 2) (by decide) rfl ?_
  refine s_lastore K d16_18 (pc' := 19) rfl (k := 8) rfl (i := 3) (by decide) (ltB rfl) (L' := ((b110, oLS (.int 0) (.int 0) .null (.int 0) (.int 0) (.ref b111) (.ref b112) (.ref b142) (.ref b141) (.ref b108) (.ref b109) (.ref b139) (.ref b107) (.ref b106) (.ref b135) (.ref b138) (.ref b134) (.ref b140) .null (.ref b133) (.ref b132) (.ref b131) .null .null .null .null .null .null .null) :: (b107, .inr (.int, [.int 0, .int 1])) :: (b140, .inr (.int, [.int 0, .int 1, .int 4])) :: (b131, .inr (.int, [.int 1, .int 3])) :: (b142, .inr (.int, [.int 1, .int 3])) :: (b141, .inr (.long, [.long ((0 : Int64) + p0), .long xx1])) :: (b108, .inr (.long, [.long hi, .long mid, .long lo, .long p0])) :: (b133, .inr (.int, [.int 3, .int 0, .int 1, .int 2])) :: (b132, .inr (.long, [.long p0, .long hi, .long mid, .long lo])) :: F)) rfl ?_
  exact s_return K d16_19 (by decide) (by decide) ⟨rfl, rfl⟩
set_option maxRecDepth 65536 in
set_option maxHeartbeats 400000000 in
theorem k31_place {l : Launch} {Z : State} {a0 : Array Value} (hw : HW Z a0) {n0 : Nat} (F : Wd) (b110 b107 b140 b131 b142 b141 b108 b133 b132 b111 b112 b109 b139 b106 b135 b138 b134 : Addr) (xx1 : Int64) (hi : Int64) (mid : Int64) (lo : Int64) (p0 : Int64) :
    Con l Z n0 (⟨"com/example/evenkeel/evenkeel/LagSeats", "place", "(II)V"⟩ : MethodName) prog_60_method_26_code 3 none ({ frames := 1, cells := 0, slots := 0, locals := 14 } : Room) [.ref b110, .int 1, .int 2] ((b110, oLS (.int 0) (.int 0) .null (.int 0) (.int 0) (.ref b111) (.ref b112) (.ref b142) (.ref b141) (.ref b108) (.ref b109) (.ref b139) (.ref b107) (.ref b106) (.ref b135) (.ref b138) (.ref b134) (.ref b140) .null (.ref b133) (.ref b132) (.ref b131) .null .null .null .null .null .null .null) :: (b107, .inr (.int, [.int 0, .int 1])) :: (b140, .inr (.int, [.int 0, .int 1, .int 4])) :: (b131, .inr (.int, [.int 1, .int 2])) :: (b142, .inr (.int, [.int 1, .int 2])) :: (b141, .inr (.long, [.long ((0 : Int64) + p0), .long xx1])) :: (b108, .inr (.long, [.long hi, .long mid, .long lo, .long p0])) :: (b133, .inr (.int, [.int 3, .int 0, .int 1, .int 0])) :: (b132, .inr (.long, [.long p0, .long hi, .long mid, .long 0])) :: F) (fun v L' => v = none ∧ L' = ((b110, oLS (.int 0) (.int 0) .null (.int 0) (.int 0) (.ref b111) (.ref b112) (.ref b142) (.ref b141) (.ref b108) (.ref b109) (.ref b139) (.ref b107) (.ref b106) (.ref b135) (.ref b138) (.ref b134) (.ref b140) .null (.ref b133) (.ref b132) (.ref b131) .null .null .null .null .null .null .null) :: (b107, .inr (.int, [.int 0, .int 1])) :: (b140, .inr (.int, [.int 0, .int 1, .int 4])) :: (b131, .inr (.int, [.int 1, .int 3])) :: (b142, .inr (.int, [.int 1, .int 3])) :: (b141, .inr (.long, [.long ((0 : Int64) + p0), .long (xx1 + lo)])) :: (b108, .inr (.long, [.long hi, .long mid, .long lo, .long p0])) :: (b133, .inr (.int, [.int 3, .int 0, .int 1, .int 2])) :: (b132, .inr (.long, [.long p0, .long hi, .long mid, .long lo])) :: F)) := by
  refine Con.of (by decide +kernel) (Ls := #[.val (.ref b110), .val (.int 1), .val (.int 2)]) (fun m => by first | rfl | (simp [entryFrame, mkF, argsToLocals, Value.category]; done)) ?_
  intro κ K
  refine s_aloadN K d14_0 (pc' := 1) rfl rfl rfl ?_
  refine s_aloadN K d14_1 (pc' := 2) rfl rfl rfl ?_
  refine s_getf K d14_2 (pc' := 5) rfl (w85 hw) (k := 0) rfl (j := 12) rfl ?_
  refine s_iloadN K d14_5 (pc' := 6) rfl rfl ?_
  refine s_iaload K d14_6 (pc' := 7) rfl (k := 1) rfl (i := 1) (by decide) rfl ?_
  refine s_iloadN K d14_7 (pc' := 8) rfl rfl ?_
  refine s_virtual K d14_8 (pc' := 11) rfl (k := 0) (a := b110) rfl (as := [.int 1, .int 2]) (k32_take hw _ b110 b107 b140 b131 b142 b141 b108 b133 b132 b111 b112 b109 b139 b106 b135 b138 b134 xx1 hi mid lo p0) (w159 hw) (w160 hw) (w162 hw) (w161 hw) (w35 hw) (w163 hw) (by decide) pd_0 rfl (rest := []) rfl rfl (W := 0) (Nat.le_of_eq rfl) (by decide) (by decide) (ce' := 0) rfl (sl' := 0) rfl (by decide) (by decide) ?_
  rintro v _ ⟨rfl, rfl⟩
  show Go l Z n0 _ _ κ 0 0 ((b110, oLS (.int 0) (.int 0) .null (.int 0) (.int 0) (.ref b111) (.ref b112) (.ref b142) (.ref b141) (.ref b108) (.ref b109) (.ref b139) (.ref b107) (.ref b106) (.ref b135) (.ref b138) (.ref b134) (.ref b140) .null (.ref b133) (.ref b132) (.ref b131) .null .null .null .null .null .null .null) :: (b107, .inr (.int, [.int 0, .int 1])) :: (b140, .inr (.int, [.int 0, .int 1, .int 4])) :: (b131, .inr (.int, [.int 1, .int 2])) :: (b142, .inr (.int, [.int 1, .int 3])) :: (b141, .inr (.long, [.long ((0 : Int64) + p0), .long (xx1 + lo)])) :: (b108, .inr (.long, [.long hi, .long mid, .long lo, .long p0])) :: (b133, .inr (.int, [.int 3, .int 0, .int 1, .int 0])) :: (b132, .inr (.long, [.long p0, .long hi, .long mid, .long 0])) :: F) 11 #[.val (.ref b110), .val (.int 1), .val (.int 2)] []
  refine s_aloadN K d14_11 (pc' := 12) rfl rfl rfl ?_
  refine s_aloadN K d14_12 (pc' := 13) rfl rfl rfl ?_
  refine s_getf K d14_13 (pc' := 16) rfl (w96 hw) (k := 0) rfl (j := 17) rfl ?_
  refine s_iloadN K d14_16 (pc' := 17) rfl rfl ?_
  refine s_iaload K d14_17 (pc' := 18) rfl (k := 2) rfl (i := 1) (by decide) rfl ?_
  refine s_aloadN K d14_18 (pc' := 19) rfl rfl rfl ?_
  refine s_getf K d14_19 (pc' := 22) rfl (w138 hw) (k := 0) rfl (j := 21) rfl ?_
  refine s_iloadN K d14_22 (pc' := 23) rfl rfl ?_
  refine s_dup2 K d14_23 (pc' := 24) rfl rfl rfl ?_
  refine s_iaload K d14_24 (pc' := 25) rfl (k := 3) rfl (i := 1) (by decide) rfl ?_
  refine s_dupx2 K d14_25 (pc' := 26) rfl rfl rfl rfl ?_
  refine s_iconst K d14_26 (pc' := 27) rfl (z := (1 : Int32)) rfl ?_
  refine s_iadd K d14_27 (pc' := 28) rfl (z := (3 : Int32)) rfl ?_
  refine s_iastore K d14_28 (pc' := 29) rfl (k := 3) rfl (i := 1) (by decide) (ltB rfl) (L' := ((b110, oLS (.int 0) (.int 0) .null (.int 0) (.int 0) (.ref b111) (.ref b112) (.ref b142) (.ref b141) (.ref b108) (.ref b109) (.ref b139) (.ref b107) (.ref b106) (.ref b135) (.ref b138) (.ref b134) (.ref b140) .null (.ref b133) (.ref b132) (.ref b131) .null .null .null .null .null .null .null) :: (b107, .inr (.int, [.int 0, .int 1])) :: (b140, .inr (.int, [.int 0, .int 1, .int 4])) :: (b131, .inr (.int, [.int 1, .int 3])) :: (b142, .inr (.int, [.int 1, .int 3])) :: (b141, .inr (.long, [.long ((0 : Int64) + p0), .long (xx1 + lo)])) :: (b108, .inr (.long, [.long hi, .long mid, .long lo, .long p0])) :: (b133, .inr (.int, [.int 3, .int 0, .int 1, .int 0])) :: (b132, .inr (.long, [.long p0, .long hi, .long mid, .long 0])) :: F)) rfl ?_
  refine s_iadd K d14_29 (pc' := 30) rfl (z := (3 : Int32)) rfl ?_
  refine s_iloadN K d14_30 (pc' := 31) rfl rfl ?_
  refine s_private K d14_31 (pc' := 34) rfl (k := 0) (a := b110) rfl (as := [.int 3, .int 2]) (k33_put hw _ b110 b107 b140 b131 b142 b141 b108 b133 b132 b111 b112 b109 b139 b106 b135 b138 b134 (xx1 + lo) hi mid lo p0) (w164 hw) (w157 hw) rfl (w165 hw) (w166 hw) (w35 hw) (w167 hw) (by decide) pd_0 rfl (rest := []) rfl rfl (W := 0) (Nat.le_of_eq rfl) (by decide) (by decide) (ce' := 0) rfl (sl' := 0) rfl (by decide) (by decide) ?_
  rintro v _ ⟨rfl, rfl⟩
  show Go l Z n0 _ _ κ 0 0 ((b110, oLS (.int 0) (.int 0) .null (.int 0) (.int 0) (.ref b111) (.ref b112) (.ref b142) (.ref b141) (.ref b108) (.ref b109) (.ref b139) (.ref b107) (.ref b106) (.ref b135) (.ref b138) (.ref b134) (.ref b140) .null (.ref b133) (.ref b132) (.ref b131) .null .null .null .null .null .null .null) :: (b107, .inr (.int, [.int 0, .int 1])) :: (b140, .inr (.int, [.int 0, .int 1, .int 4])) :: (b131, .inr (.int, [.int 1, .int 3])) :: (b142, .inr (.int, [.int 1, .int 3])) :: (b141, .inr (.long, [.long ((0 : Int64) + p0), .long (xx1 + lo)])) :: (b108, .inr (.long, [.long hi, .long mid, .long lo, .long p0])) :: (b133, .inr (.int, [.int 3, .int 0, .int 1, .int 2])) :: (b132, .inr (.long, [.long p0, .long hi, .long mid, .long lo])) :: F) 34 #[.val (.ref b110), .val (.int 1), .val (.int 2)] []
  refine s_aloadN K d14_34 (pc' := 35) rfl rfl rfl ?_
  refine s_getf K d14_35 (pc' := 38) rfl (w140 hw) (k := 0) rfl (j := 22) rfl ?_
  refine s_nullY K d14_38 (by decide) (pc' := 47) (by decide) ?_
  exact s_return K d14_47 (by decide) (by decide) ⟨rfl, rfl⟩
set_option maxRecDepth 65536 in
set_option maxHeartbeats 400000000 in
theorem first15 {l : Launch} {Z : State} {a0 : Array Value} (hw : HW Z a0) {n0 : Nat} (F : Wd) (b110 b107 b140 b131 b142 b141 b108 b133 b132 b111 b112 b109 b139 b106 b135 b138 b134 : Addr) (xx1 : Int64) (hi : Int64) (mid : Int64) (lo : Int64) (p0 : Int64) (p3 : Int64) (o0 : mid.toInt ≤ hi.toInt) (o1 : lo.toInt ≤ mid.toInt) :
    Con l Z n0 (⟨"com/example/evenkeel/evenkeel/LagSeats", "firstAtMost", "(IJ)I"⟩ : MethodName) prog_60_method_33_code 7 (some .int) ({ frames := 0, cells := 0, slots := 0, locals := 0 } : Room) [.ref b110, .int (1 : Int32), .long p3] ((b110, oLS (.int 0) (.int 0) .null (.int 0) (.int 0) (.ref b111) (.ref b112) (.ref b142) (.ref b141) (.ref b108) (.ref b109) (.ref b139) (.ref b107) (.ref b106) (.ref b135) (.ref b138) (.ref b134) (.ref b140) .null (.ref b133) (.ref b132) (.ref b131) .null .null .null .null .null .null .null) :: (b107, .inr (.int, [.int 0, .int 1])) :: (b140, .inr (.int, [.int 0, .int 1, .int 4])) :: (b131, .inr (.int, [.int 1, .int 3])) :: (b142, .inr (.int, [.int 1, .int 3])) :: (b141, .inr (.long, [.long ((0 : Int64) + p0), .long xx1])) :: (b108, .inr (.long, [.long hi, .long mid, .long lo, .long p0])) :: (b133, .inr (.int, [.int 3, .int 0, .int 1, .int 2])) :: (b132, .inr (.long, [.long p0, .long hi, .long mid, .long lo])) :: F) (fun v L' => v = some (.int (Int32.ofNat (1 + own_b hi p3 + own_b mid p3 + own_b lo p3))) ∧ L' = ((b110, oLS (.int 0) (.int 0) .null (.int 0) (.int 0) (.ref b111) (.ref b112) (.ref b142) (.ref b141) (.ref b108) (.ref b109) (.ref b139) (.ref b107) (.ref b106) (.ref b135) (.ref b138) (.ref b134) (.ref b140) .null (.ref b133) (.ref b132) (.ref b131) .null .null .null .null .null .null .null) :: (b107, .inr (.int, [.int 0, .int 1])) :: (b140, .inr (.int, [.int 0, .int 1, .int 4])) :: (b131, .inr (.int, [.int 1, .int 3])) :: (b142, .inr (.int, [.int 1, .int 3])) :: (b141, .inr (.long, [.long ((0 : Int64) + p0), .long xx1])) :: (b108, .inr (.long, [.long hi, .long mid, .long lo, .long p0])) :: (b133, .inr (.int, [.int 3, .int 0, .int 1, .int 2])) :: (b132, .inr (.long, [.long p0, .long hi, .long mid, .long lo])) :: F)) := by
  refine Con.of (by decide +kernel) (Ls := #[.val (.ref b110), .val (.int 1), .val (.long p3), .second, .unset, .unset, .unset]) (fun m => by first | rfl | (simp [entryFrame, mkF, argsToLocals, Value.category]; done)) ?_
  intro κ K
  refine s_aloadN K d17_0 (pc' := 1) rfl rfl rfl ?_
  refine s_getf K d17_1 (pc' := 4) rfl (w96 hw) (k := 0) rfl (j := 17) rfl ?_
  refine s_iloadN K d17_4 (pc' := 5) rfl rfl ?_
  refine s_iaload K d17_5 (pc' := 6) rfl (k := 2) rfl (i := 1) (by decide) rfl ?_
  refine s_istore K d17_6 (pc' := 8) rfl (Ls' := #[.val (.ref b110), .val (.int 1), .val (.long p3), .second, .val (.int 1), .unset, .unset]) rfl ?_
  refine s_iload K d17_8 (pc' := 10) rfl rfl ?_
  refine s_aloadN K d17_10 (pc' := 11) rfl rfl rfl ?_
  refine s_getf K d17_11 (pc' := 14) rfl (w138 hw) (k := 0) rfl (j := 21) rfl ?_
  refine s_iloadN K d17_14 (pc' := 15) rfl rfl ?_
  refine s_iaload K d17_15 (pc' := 16) rfl (k := 3) rfl (i := 1) (by decide) rfl ?_
  refine s_iadd K d17_16 (pc' := 17) rfl (z := (4 : Int32)) rfl ?_
  refine s_istore K d17_17 (pc' := 19) rfl (Ls' := #[.val (.ref b110), .val (.int 1), .val (.long p3), .second, .val (.int 1), .val (.int 4), .unset]) rfl ?_
  refine s_iload K d17_19 (pc' := 21) rfl rfl ?_
  refine s_iload K d17_21 (pc' := 23) rfl rfl ?_
  refine s_icN K d17_23 (pc' := 26) rfl rfl ?_
  refine s_iload K d17_26 (pc' := 28) rfl rfl ?_
  refine s_iload K d17_28 (pc' := 30) rfl rfl ?_
  refine s_iadd K d17_30 (pc' := 31) rfl (z := (5 : Int32)) rfl ?_
  refine s_iconst K d17_31 (pc' := 32) rfl (z := (1 : Int32)) rfl ?_
  refine s_iushr K d17_32 (pc' := 33) rfl (z := (2 : Int32)) rfl ?_
  refine s_istore K d17_33 (pc' := 35) rfl (Ls' := #[.val (.ref b110), .val (.int 1), .val (.long p3), .second, .val (.int 1), .val (.int 4), .val (.int 2)]) rfl ?_
  refine s_aloadN K d17_35 (pc' := 36) rfl rfl rfl ?_
  refine s_getf K d17_36 (pc' := 39) rfl (w136 hw) (k := 0) rfl (j := 20) rfl ?_
  refine s_iload K d17_39 (pc' := 41) rfl rfl ?_
  refine s_laload K d17_41 (pc' := 42) rfl (k := 8) rfl (i := 2) (by decide) rfl ?_
  refine s_lloadN K d17_42 (pc' := 43) rfl rfl ?_
  refine s_lcmp K d17_43 (pc' := 44) rfl  ?_
  refine s_if K d17_44 (pn := 47) rfl (by decide) (pc' := 56) (by decide) (fun h1 => ?_) (fun h1 => ?_)
  · have g1 := own_leY h1
    refine s_iload K d17_56 (pc' := 58) rfl rfl ?_
    refine s_istore K d17_58 (pc' := 60) rfl (Ls' := #[.val (.ref b110), .val (.int 1), .val (.long p3), .second, .val (.int 1), .val (.int 2), .val (.int 2)]) rfl ?_
    refine s_goto K d17_60 (by decide) (pc' := 19) (by decide) ?_
    refine s_iload K d17_19 (pc' := 21) rfl rfl ?_
    refine s_iload K d17_21 (pc' := 23) rfl rfl ?_
    refine s_icN K d17_23 (pc' := 26) rfl rfl ?_
    refine s_iload K d17_26 (pc' := 28) rfl rfl ?_
    refine s_iload K d17_28 (pc' := 30) rfl rfl ?_
    refine s_iadd K d17_30 (pc' := 31) rfl (z := (3 : Int32)) rfl ?_
    refine s_iconst K d17_31 (pc' := 32) rfl (z := (1 : Int32)) rfl ?_
    refine s_iushr K d17_32 (pc' := 33) rfl (z := (1 : Int32)) rfl ?_
    refine s_istore K d17_33 (pc' := 35) rfl (Ls' := #[.val (.ref b110), .val (.int 1), .val (.long p3), .second, .val (.int 1), .val (.int 2), .val (.int 1)]) rfl ?_
    refine s_aloadN K d17_35 (pc' := 36) rfl rfl rfl ?_
    refine s_getf K d17_36 (pc' := 39) rfl (w136 hw) (k := 0) rfl (j := 20) rfl ?_
    refine s_iload K d17_39 (pc' := 41) rfl rfl ?_
    refine s_laload K d17_41 (pc' := 42) rfl (k := 8) rfl (i := 1) (by decide) rfl ?_
    refine s_lloadN K d17_42 (pc' := 43) rfl rfl ?_
    refine s_lcmp K d17_43 (pc' := 44) rfl  ?_
    refine s_if K d17_44 (pn := 47) rfl (by decide) (pc' := 56) (by decide) (fun h2 => ?_) (fun h2 => ?_)
    · have g2 := own_leY h2
      refine s_iload K d17_56 (pc' := 58) rfl rfl ?_
      refine s_istore K d17_58 (pc' := 60) rfl (Ls' := #[.val (.ref b110), .val (.int 1), .val (.long p3), .second, .val (.int 1), .val (.int 1), .val (.int 1)]) rfl ?_
      refine s_goto K d17_60 (by decide) (pc' := 19) (by decide) ?_
      refine s_iload K d17_19 (pc' := 21) rfl rfl ?_
      refine s_iload K d17_21 (pc' := 23) rfl rfl ?_
      refine s_icY K d17_23 rfl (by decide) (pc' := 63) (by decide) ?_
      refine s_iload K d17_63 (pc' := 65) rfl rfl ?_
      exact s_ireturn K d17_65 (by decide) (by decide) ⟨by rw [own_b0 (x := hi) (t := p3) (by omega), own_b0 (x := mid) (t := p3) (by omega), own_b0 (x := lo) (t := p3) (by omega)]; rfl, rfl⟩
    · have g2 := own_leN h2
      refine s_iload K d17_47 (pc' := 49) rfl rfl ?_
      refine s_iconst K d17_49 (pc' := 50) rfl (z := (1 : Int32)) rfl ?_
      refine s_iadd K d17_50 (pc' := 51) rfl (z := (2 : Int32)) rfl ?_
      refine s_istore K d17_51 (pc' := 53) rfl (Ls' := #[.val (.ref b110), .val (.int 1), .val (.long p3), .second, .val (.int 2), .val (.int 2), .val (.int 1)]) rfl ?_
      refine s_goto K d17_53 (by decide) (pc' := 60) (by decide) ?_
      refine s_goto K d17_60 (by decide) (pc' := 19) (by decide) ?_
      refine s_iload K d17_19 (pc' := 21) rfl rfl ?_
      refine s_iload K d17_21 (pc' := 23) rfl rfl ?_
      refine s_icY K d17_23 rfl (by decide) (pc' := 63) (by decide) ?_
      refine s_iload K d17_63 (pc' := 65) rfl rfl ?_
      exact s_ireturn K d17_65 (by decide) (by decide) ⟨by rw [own_b1 (x := hi) (t := p3) (by omega), own_b0 (x := mid) (t := p3) (by omega), own_b0 (x := lo) (t := p3) (by omega)]; rfl, rfl⟩
  · have g1 := own_leN h1
    refine s_iload K d17_47 (pc' := 49) rfl rfl ?_
    refine s_iconst K d17_49 (pc' := 50) rfl (z := (1 : Int32)) rfl ?_
    refine s_iadd K d17_50 (pc' := 51) rfl (z := (3 : Int32)) rfl ?_
    refine s_istore K d17_51 (pc' := 53) rfl (Ls' := #[.val (.ref b110), .val (.int 1), .val (.long p3), .second, .val (.int 3), .val (.int 4), .val (.int 2)]) rfl ?_
    refine s_goto K d17_53 (by decide) (pc' := 60) (by decide) ?_
    refine s_goto K d17_60 (by decide) (pc' := 19) (by decide) ?_
    refine s_iload K d17_19 (pc' := 21) rfl rfl ?_
    refine s_iload K d17_21 (pc' := 23) rfl rfl ?_
    refine s_icN K d17_23 (pc' := 26) rfl rfl ?_
    refine s_iload K d17_26 (pc' := 28) rfl rfl ?_
    refine s_iload K d17_28 (pc' := 30) rfl rfl ?_
    refine s_iadd K d17_30 (pc' := 31) rfl (z := (7 : Int32)) rfl ?_
    refine s_iconst K d17_31 (pc' := 32) rfl (z := (1 : Int32)) rfl ?_
    refine s_iushr K d17_32 (pc' := 33) rfl (z := (3 : Int32)) rfl ?_
    refine s_istore K d17_33 (pc' := 35) rfl (Ls' := #[.val (.ref b110), .val (.int 1), .val (.long p3), .second, .val (.int 3), .val (.int 4), .val (.int 3)]) rfl ?_
    refine s_aloadN K d17_35 (pc' := 36) rfl rfl rfl ?_
    refine s_getf K d17_36 (pc' := 39) rfl (w136 hw) (k := 0) rfl (j := 20) rfl ?_
    refine s_iload K d17_39 (pc' := 41) rfl rfl ?_
    refine s_laload K d17_41 (pc' := 42) rfl (k := 8) rfl (i := 3) (by decide) rfl ?_
    refine s_lloadN K d17_42 (pc' := 43) rfl rfl ?_
    refine s_lcmp K d17_43 (pc' := 44) rfl  ?_
    refine s_if K d17_44 (pn := 47) rfl (by decide) (pc' := 56) (by decide) (fun h2 => ?_) (fun h2 => ?_)
    · have g2 := own_leY h2
      refine s_iload K d17_56 (pc' := 58) rfl rfl ?_
      refine s_istore K d17_58 (pc' := 60) rfl (Ls' := #[.val (.ref b110), .val (.int 1), .val (.long p3), .second, .val (.int 3), .val (.int 3), .val (.int 3)]) rfl ?_
      refine s_goto K d17_60 (by decide) (pc' := 19) (by decide) ?_
      refine s_iload K d17_19 (pc' := 21) rfl rfl ?_
      refine s_iload K d17_21 (pc' := 23) rfl rfl ?_
      refine s_icY K d17_23 rfl (by decide) (pc' := 63) (by decide) ?_
      refine s_iload K d17_63 (pc' := 65) rfl rfl ?_
      exact s_ireturn K d17_65 (by decide) (by decide) ⟨by rw [own_b1 (x := hi) (t := p3) (by omega), own_b1 (x := mid) (t := p3) (by omega), own_b0 (x := lo) (t := p3) (by omega)]; rfl, rfl⟩
    · have g2 := own_leN h2
      refine s_iload K d17_47 (pc' := 49) rfl rfl ?_
      refine s_iconst K d17_49 (pc' := 50) rfl (z := (1 : Int32)) rfl ?_
      refine s_iadd K d17_50 (pc' := 51) rfl (z := (4 : Int32)) rfl ?_
      refine s_istore K d17_51 (pc' := 53) rfl (Ls' := #[.val (.ref b110), .val (.int 1), .val (.long p3), .second, .val (.int 4), .val (.int 4), .val (.int 3)]) rfl ?_
      refine s_goto K d17_53 (by decide) (pc' := 60) (by decide) ?_
      refine s_goto K d17_60 (by decide) (pc' := 19) (by decide) ?_
      refine s_iload K d17_19 (pc' := 21) rfl rfl ?_
      refine s_iload K d17_21 (pc' := 23) rfl rfl ?_
      refine s_icY K d17_23 rfl (by decide) (pc' := 63) (by decide) ?_
      refine s_iload K d17_63 (pc' := 65) rfl rfl ?_
      exact s_ireturn K d17_65 (by decide) (by decide) ⟨by rw [own_b1 (x := hi) (t := p3) (by omega), own_b1 (x := mid) (t := p3) (by omega), own_b1 (x := lo) (t := p3) (by omega)]; rfl, rfl⟩
set_option maxRecDepth 65536 in
set_option maxHeartbeats 400000000 in
theorem segB_130 {l : Launch} {Z : State} {a0 : Array Value} (hw : HW Z a0) {n0 : Nat} (p0 p1 p2 p3 hi mid lo : Int64) (p4 : Int32) (b110 b107 b140 b131 b142 b141 b108 b133 b132 b101 b109 b111 b112 b139 b106 b135 b138 b134 : Addr) (o1 : mid.toInt ≤ hi.toInt) (o2 : lo.toInt ≤ mid.toInt) (κ : Ctx) (K : Ok Z κ x.cls code maxLocals ret x.name) :
    Go l Z n0 room_1 (fun v _ => v = some (.int 1)) κ 21 83 [(b110, oLS (.int 0) (.int 0) .null (.int 0) (.int 0) (.ref b111) (.ref b112) (.ref b142) (.ref b141) (.ref b108) (.ref b109) (.ref b139) (.ref b107) (.ref b106) (.ref b135) (.ref b138) (.ref b134) (.ref b140) .null (.ref b133) (.ref b132) (.ref b131) .null .null .null .null .null .null .null), (b107, .inr (.int, [.int 0, .int 1])), (b140, .inr (.int, [.int 0, .int 1, .int 4])), (b131, .inr (.int, [.int 0, .int 0])), (b142, .inr (.int, [.int 0, .int 0])), (b141, .inr (.long, [.long 0, .long 0])), (b108, .inr (.long, [.long hi, .long mid, .long lo, .long p0])), (b133, .inr (.int, [.int 0, .int 0, .int 0, .int 0])), (b132, .inr (.long, [.long 0, .long 0, .long 0, .long 0]))] 172 #[.val (.long p0), .second, .val (.long p1), .second, .val (.long p2), .second, .val (.long p3), .second, .val (.int p4), .val (.long hi), .second, .val (.long lo), .second, .val (.long mid), .second, .val (.int 3), .val (.int 0), .val (.int 1), .val (.ref b101), .val (.ref b108), .val (.ref b109), .val (.ref b110), .unset, .unset] [] := by
  refine s_iload K at_172 (pc' := 174) rfl rfl ?_
  refine s_ifN K at_174 (pc' := 177) rfl rfl ?_
  refine s_aload K at_177 (pc' := 179) rfl rfl rfl ?_
  refine s_iconst K at_179 (pc' := 180) rfl (z := (0 : Int32)) rfl ?_
  refine s_iconst K at_180 (pc' := 181) rfl (z := (3 : Int32)) rfl ?_
  refine s_virtual K at_181 (pc' := 184) rfl (k := 0) (a := b110) rfl (as := [.int 0, .int 3]) (k22_place hw _ b110 b107 b140 b131 b142 b141 b108 b133 b132 b111 b112 b109 b139 b106 b135 b138 b134 hi mid lo p0) (w154 hw) (w155 hw) (w157 hw) (w156 hw) (w35 hw) (w158 hw) (by decide) pd_0 rfl (rest := []) rfl rfl (W := 0) (Nat.le_of_eq rfl) (by decide) (by decide) (ce' := 21) rfl (sl' := 83) rfl (by decide) (by decide) ?_
  rintro v _ ⟨rfl, rfl⟩
  show Go l Z n0 _ _ κ 21 83 [(b110, oLS (.int 0) (.int 0) .null (.int 0) (.int 0) (.ref b111) (.ref b112) (.ref b142) (.ref b141) (.ref b108) (.ref b109) (.ref b139) (.ref b107) (.ref b106) (.ref b135) (.ref b138) (.ref b134) (.ref b140) .null (.ref b133) (.ref b132) (.ref b131) .null .null .null .null .null .null .null), (b107, .inr (.int, [.int 0, .int 1])), (b140, .inr (.int, [.int 0, .int 1, .int 4])), (b131, .inr (.int, [.int 1, .int 0])), (b142, .inr (.int, [.int 1, .int 0])), (b141, .inr (.long, [.long ((0 : Int64) + p0), .long 0])), (b108, .inr (.long, [.long hi, .long mid, .long lo, .long p0])), (b133, .inr (.int, [.int 3, .int 0, .int 0, .int 0])), (b132, .inr (.long, [.long p0, .long 0, .long 0, .long 0]))] 184 #[.val (.long p0), .second, .val (.long p1), .second, .val (.long p2), .second, .val (.long p3), .second, .val (.int p4), .val (.long hi), .second, .val (.long lo), .second, .val (.long mid), .second, .val (.int 3), .val (.int 0), .val (.int 1), .val (.ref b101), .val (.ref b108), .val (.ref b109), .val (.ref b110), .unset, .unset] []
  refine s_iload K at_184 (pc' := 186) rfl rfl ?_
  refine s_iconst K at_186 (pc' := 187) rfl (z := (1 : Int32)) rfl ?_
  refine s_icN K at_187 (pc' := 190) rfl rfl ?_
  refine s_aload K at_190 (pc' := 192) rfl rfl rfl ?_
  refine s_iconst K at_192 (pc' := 193) rfl (z := (1 : Int32)) rfl ?_
  refine s_iconst K at_193 (pc' := 194) rfl (z := (0 : Int32)) rfl ?_
  refine s_virtual K at_194 (pc' := 197) rfl (k := 0) (a := b110) rfl (as := [.int 1, .int 0]) (k25_place hw _ b110 b107 b140 b131 b142 b141 b108 b133 b132 b111 b112 b109 b139 b106 b135 b138 b134 hi mid lo p0) (w154 hw) (w155 hw) (w157 hw) (w156 hw) (w35 hw) (w158 hw) (by decide) pd_0 rfl (rest := []) rfl rfl (W := 0) (Nat.le_of_eq rfl) (by decide) (by decide) (ce' := 21) rfl (sl' := 83) rfl (by decide) (by decide) ?_
  rintro v _ ⟨rfl, rfl⟩
  show Go l Z n0 _ _ κ 21 83 [(b110, oLS (.int 0) (.int 0) .null (.int 0) (.int 0) (.ref b111) (.ref b112) (.ref b142) (.ref b141) (.ref b108) (.ref b109) (.ref b139) (.ref b107) (.ref b106) (.ref b135) (.ref b138) (.ref b134) (.ref b140) .null (.ref b133) (.ref b132) (.ref b131) .null .null .null .null .null .null .null), (b107, .inr (.int, [.int 0, .int 1])), (b140, .inr (.int, [.int 0, .int 1, .int 4])), (b131, .inr (.int, [.int 1, .int 1])), (b142, .inr (.int, [.int 1, .int 1])), (b141, .inr (.long, [.long ((0 : Int64) + p0), .long ((0 : Int64) + hi)])), (b108, .inr (.long, [.long hi, .long mid, .long lo, .long p0])), (b133, .inr (.int, [.int 3, .int 0, .int 0, .int 0])), (b132, .inr (.long, [.long p0, .long hi, .long 0, .long 0]))] 197 #[.val (.long p0), .second, .val (.long p1), .second, .val (.long p2), .second, .val (.long p3), .second, .val (.int p4), .val (.long hi), .second, .val (.long lo), .second, .val (.long mid), .second, .val (.int 3), .val (.int 0), .val (.int 1), .val (.ref b101), .val (.ref b108), .val (.ref b109), .val (.ref b110), .unset, .unset] []
  refine s_iload K at_197 (pc' := 199) rfl rfl ?_
  refine s_iconst K at_199 (pc' := 200) rfl (z := (2 : Int32)) rfl ?_
  refine s_icN K at_200 (pc' := 203) rfl rfl ?_
  refine s_aload K at_203 (pc' := 205) rfl rfl rfl ?_
  refine s_iconst K at_205 (pc' := 206) rfl (z := (1 : Int32)) rfl ?_
  refine s_iconst K at_206 (pc' := 207) rfl (z := (1 : Int32)) rfl ?_
  refine s_virtual K at_207 (pc' := 210) rfl (k := 0) (a := b110) rfl (as := [.int 1, .int 1]) (k28_place hw _ b110 b107 b140 b131 b142 b141 b108 b133 b132 b111 b112 b109 b139 b106 b135 b138 b134 hi mid lo p0) (w154 hw) (w155 hw) (w157 hw) (w156 hw) (w35 hw) (w158 hw) (by decide) pd_0 rfl (rest := []) rfl rfl (W := 0) (Nat.le_of_eq rfl) (by decide) (by decide) (ce' := 21) rfl (sl' := 83) rfl (by decide) (by decide) ?_
  rintro v _ ⟨rfl, rfl⟩
  show Go l Z n0 _ _ κ 21 83 [(b110, oLS (.int 0) (.int 0) .null (.int 0) (.int 0) (.ref b111) (.ref b112) (.ref b142) (.ref b141) (.ref b108) (.ref b109) (.ref b139) (.ref b107) (.ref b106) (.ref b135) (.ref b138) (.ref b134) (.ref b140) .null (.ref b133) (.ref b132) (.ref b131) .null .null .null .null .null .null .null), (b107, .inr (.int, [.int 0, .int 1])), (b140, .inr (.int, [.int 0, .int 1, .int 4])), (b131, .inr (.int, [.int 1, .int 2])), (b142, .inr (.int, [.int 1, .int 2])), (b141, .inr (.long, [.long ((0 : Int64) + p0), .long (((0 : Int64) + hi) + mid)])), (b108, .inr (.long, [.long hi, .long mid, .long lo, .long p0])), (b133, .inr (.int, [.int 3, .int 0, .int 1, .int 0])), (b132, .inr (.long, [.long p0, .long hi, .long mid, .long 0]))] 210 #[.val (.long p0), .second, .val (.long p1), .second, .val (.long p2), .second, .val (.long p3), .second, .val (.int p4), .val (.long hi), .second, .val (.long lo), .second, .val (.long mid), .second, .val (.int 3), .val (.int 0), .val (.int 1), .val (.ref b101), .val (.ref b108), .val (.ref b109), .val (.ref b110), .unset, .unset] []
  refine s_iload K at_210 (pc' := 212) rfl rfl ?_
  refine s_iconst K at_212 (pc' := 213) rfl (z := (3 : Int32)) rfl ?_
  refine s_icN K at_213 (pc' := 216) rfl rfl ?_
  refine s_aload K at_216 (pc' := 218) rfl rfl rfl ?_
  refine s_iconst K at_218 (pc' := 219) rfl (z := (1 : Int32)) rfl ?_
  refine s_iconst K at_219 (pc' := 220) rfl (z := (2 : Int32)) rfl ?_
  refine s_virtual K at_220 (pc' := 223) rfl (k := 0) (a := b110) rfl (as := [.int 1, .int 2]) (k31_place hw _ b110 b107 b140 b131 b142 b141 b108 b133 b132 b111 b112 b109 b139 b106 b135 b138 b134 (((0 : Int64) + hi) + mid) hi mid lo p0) (w154 hw) (w155 hw) (w157 hw) (w156 hw) (w35 hw) (w158 hw) (by decide) pd_0 rfl (rest := []) rfl rfl (W := 0) (Nat.le_of_eq rfl) (by decide) (by decide) (ce' := 21) rfl (sl' := 83) rfl (by decide) (by decide) ?_
  rintro v _ ⟨rfl, rfl⟩
  show Go l Z n0 _ _ κ 21 83 [(b110, oLS (.int 0) (.int 0) .null (.int 0) (.int 0) (.ref b111) (.ref b112) (.ref b142) (.ref b141) (.ref b108) (.ref b109) (.ref b139) (.ref b107) (.ref b106) (.ref b135) (.ref b138) (.ref b134) (.ref b140) .null (.ref b133) (.ref b132) (.ref b131) .null .null .null .null .null .null .null), (b107, .inr (.int, [.int 0, .int 1])), (b140, .inr (.int, [.int 0, .int 1, .int 4])), (b131, .inr (.int, [.int 1, .int 3])), (b142, .inr (.int, [.int 1, .int 3])), (b141, .inr (.long, [.long ((0 : Int64) + p0), .long ((((0 : Int64) + hi) + mid) + lo)])), (b108, .inr (.long, [.long hi, .long mid, .long lo, .long p0])), (b133, .inr (.int, [.int 3, .int 0, .int 1, .int 2])), (b132, .inr (.long, [.long p0, .long hi, .long mid, .long lo]))] 223 #[.val (.long p0), .second, .val (.long p1), .second, .val (.long p2), .second, .val (.long p3), .second, .val (.int p4), .val (.long hi), .second, .val (.long lo), .second, .val (.long mid), .second, .val (.int 3), .val (.int 0), .val (.int 1), .val (.ref b101), .val (.ref b108), .val (.ref b109), .val (.ref b110), .unset, .unset] []
  refine s_iload K at_223 (pc' := 225) rfl rfl ?_
  refine s_ifY K at_225 rfl (by decide) (pc' := 260) (by decide) ?_
  refine s_aload K at_260 (pc' := 262) rfl rfl rfl ?_
  refine s_iconst K at_262 (pc' := 263) rfl (z := (1 : Int32)) rfl ?_
  refine s_lload K at_263 (pc' := 265) rfl rfl ?_
  refine s_virtual K at_265 (pc' := 268) rfl (k := 0) (a := b110) rfl (as := [.int 1, .long p3]) (first15 hw _ b110 b107 b140 b131 b142 b141 b108 b133 b132 b111 b112 b109 b139 b106 b135 b138 b134 ((((0 : Int64) + hi) + mid) + lo) hi mid lo p0 p3 o1 o2) (w168 hw) (w169 hw) (w171 hw) (w170 hw) (w35 hw) (w172 hw) (by decide) pd_9 rfl (rest := []) rfl rfl (W := 0) (Nat.le_of_eq rfl) (by decide) (by decide) (ce' := 21) rfl (sl' := 83) rfl (by decide) (by decide) ?_
  rintro v _ ⟨rfl, rfl⟩
  show Go l Z n0 _ _ κ 21 83 [(b110, oLS (.int 0) (.int 0) .null (.int 0) (.int 0) (.ref b111) (.ref b112) (.ref b142) (.ref b141) (.ref b108) (.ref b109) (.ref b139) (.ref b107) (.ref b106) (.ref b135) (.ref b138) (.ref b134) (.ref b140) .null (.ref b133) (.ref b132) (.ref b131) .null .null .null .null .null .null .null), (b107, .inr (.int, [.int 0, .int 1])), (b140, .inr (.int, [.int 0, .int 1, .int 4])), (b131, .inr (.int, [.int 1, .int 3])), (b142, .inr (.int, [.int 1, .int 3])), (b141, .inr (.long, [.long ((0 : Int64) + p0), .long ((((0 : Int64) + hi) + mid) + lo)])), (b108, .inr (.long, [.long hi, .long mid, .long lo, .long p0])), (b133, .inr (.int, [.int 3, .int 0, .int 1, .int 2])), (b132, .inr (.long, [.long p0, .long hi, .long mid, .long lo]))] 268 #[.val (.long p0), .second, .val (.long p1), .second, .val (.long p2), .second, .val (.long p3), .second, .val (.int p4), .val (.long hi), .second, .val (.long lo), .second, .val (.long mid), .second, .val (.int 3), .val (.int 0), .val (.int 1), .val (.ref b101), .val (.ref b108), .val (.ref b109), .val (.ref b110), .unset, .unset] [.int (Int32.ofNat (1 + own_b hi p3 + own_b mid p3 + own_b lo p3))]
  refine s_istore K at_268 (pc' := 270) rfl (Ls' := #[.val (.long p0), .second, .val (.long p1), .second, .val (.long p2), .second, .val (.long p3), .second, .val (.int p4), .val (.long hi), .second, .val (.long lo), .second, .val (.long mid), .second, .val (.int 3), .val (.int 0), .val (.int 1), .val (.ref b101), .val (.ref b108), .val (.ref b109), .val (.ref b110), .val (.int (Int32.ofNat (1 + own_b hi p3 + own_b mid p3 + own_b lo p3))), .unset]) rfl ?_
  refine s_iconst K at_270 (pc' := 271) rfl (z := (1 : Int32)) rfl ?_
  refine s_istore K at_271 (pc' := 273) rfl (Ls' := #[.val (.long p0), .second, .val (.long p1), .second, .val (.long p2), .second, .val (.long p3), .second, .val (.int p4), .val (.long hi), .second, .val (.long lo), .second, .val (.long mid), .second, .val (.int 3), .val (.int 0), .val (.int 1), .val (.ref b101), .val (.ref b108), .val (.ref b109), .val (.ref b110), .val (.int (Int32.ofNat (1 + own_b hi p3 + own_b mid p3 + own_b lo p3))), .val (.int 1)]) rfl ?_
  refine s_iload K at_273 (pc' := 275) rfl rfl ?_
  refine s_iconst K at_275 (pc' := 276) rfl (z := (1 : Int32)) rfl ?_
  refine s_icN K at_276 (pc' := 279) rfl rfl ?_
  refine s_lload K at_279 (pc' := 281) rfl rfl ?_
  refine s_lload K at_281 (pc' := 283) rfl rfl ?_
  refine s_lcmp K at_283 (pc' := 284) rfl  ?_
  refine s_if K at_284 (pn := 287) rfl (by decide) (pc' := 293) (by decide) (fun h1 => ?_) (fun h1 => ?_)
  · have g1 := own_leY h1
    refine s_iload K at_293 (pc' := 295) rfl rfl ?_
    refine s_iconst K at_295 (pc' := 296) rfl (z := (2 : Int32)) rfl ?_
    refine s_icN K at_296 (pc' := 299) rfl rfl ?_
    refine s_lload K at_299 (pc' := 301) rfl rfl ?_
    refine s_lload K at_301 (pc' := 303) rfl rfl ?_
    refine s_lcmp K at_303 (pc' := 304) rfl  ?_
    refine s_if K at_304 (pn := 307) rfl (by decide) (pc' := 313) (by decide) (fun h2 => ?_) (fun h2 => ?_)
    · have g2 := own_leY h2
      refine s_iload K at_313 (pc' := 315) rfl rfl ?_
      refine s_iconst K at_315 (pc' := 316) rfl (z := (3 : Int32)) rfl ?_
      refine s_icN K at_316 (pc' := 319) rfl rfl ?_
      refine s_lload K at_319 (pc' := 321) rfl rfl ?_
      refine s_lload K at_321 (pc' := 323) rfl rfl ?_
      refine s_lcmp K at_323 (pc' := 324) rfl  ?_
      refine s_if K at_324 (pn := 327) rfl (by decide) (pc' := 333) (by decide) (fun h3 => ?_) (fun h3 => ?_)
      · have g3 := own_leY h3
        refine s_iload K at_333 (pc' := 335) rfl rfl ?_
        refine s_iload K at_335 (pc' := 337) rfl rfl ?_
        refine s_icN K at_337 (pc' := 340) rfl (teq (by rw [own_b0 (x := hi) (t := p3) g1, own_b0 (x := mid) (t := p3) g2, own_b0 (x := lo) (t := p3) g3]; rfl)).2 ?_
        refine s_iconst K at_340 (pc' := 341) rfl (z := (1 : Int32)) rfl ?_
        refine s_goto K at_341 (by decide) (pc' := 345) (by decide) ?_
        exact s_zreturn K at_345 rfl (by decide) (by decide) rfl
      · have g3 := own_leN h3
        refine s_iload K at_327 (pc' := 329) rfl rfl ?_
        refine s_iconst K at_329 (pc' := 330) rfl (z := (1 : Int32)) rfl ?_
        refine s_iadd K at_330 (pc' := 331) rfl (z := (2 : Int32)) rfl ?_
        refine s_istore K at_331 (pc' := 333) rfl (Ls' := #[.val (.long p0), .second, .val (.long p1), .second, .val (.long p2), .second, .val (.long p3), .second, .val (.int p4), .val (.long hi), .second, .val (.long lo), .second, .val (.long mid), .second, .val (.int 3), .val (.int 0), .val (.int 1), .val (.ref b101), .val (.ref b108), .val (.ref b109), .val (.ref b110), .val (.int (Int32.ofNat (1 + own_b hi p3 + own_b mid p3 + own_b lo p3))), .val (.int 2)]) rfl ?_
        refine s_iload K at_333 (pc' := 335) rfl rfl ?_
        refine s_iload K at_335 (pc' := 337) rfl rfl ?_
        refine s_icN K at_337 (pc' := 340) rfl (teq (by rw [own_b0 (x := hi) (t := p3) g1, own_b0 (x := mid) (t := p3) g2, own_b1 (x := lo) (t := p3) g3]; rfl)).2 ?_
        refine s_iconst K at_340 (pc' := 341) rfl (z := (1 : Int32)) rfl ?_
        refine s_goto K at_341 (by decide) (pc' := 345) (by decide) ?_
        exact s_zreturn K at_345 rfl (by decide) (by decide) rfl
    · have g2 := own_leN h2
      refine s_iload K at_307 (pc' := 309) rfl rfl ?_
      refine s_iconst K at_309 (pc' := 310) rfl (z := (1 : Int32)) rfl ?_
      refine s_iadd K at_310 (pc' := 311) rfl (z := (2 : Int32)) rfl ?_
      refine s_istore K at_311 (pc' := 313) rfl (Ls' := #[.val (.long p0), .second, .val (.long p1), .second, .val (.long p2), .second, .val (.long p3), .second, .val (.int p4), .val (.long hi), .second, .val (.long lo), .second, .val (.long mid), .second, .val (.int 3), .val (.int 0), .val (.int 1), .val (.ref b101), .val (.ref b108), .val (.ref b109), .val (.ref b110), .val (.int (Int32.ofNat (1 + own_b hi p3 + own_b mid p3 + own_b lo p3))), .val (.int 2)]) rfl ?_
      refine s_iload K at_313 (pc' := 315) rfl rfl ?_
      refine s_iconst K at_315 (pc' := 316) rfl (z := (3 : Int32)) rfl ?_
      refine s_icN K at_316 (pc' := 319) rfl rfl ?_
      refine s_lload K at_319 (pc' := 321) rfl rfl ?_
      refine s_lload K at_321 (pc' := 323) rfl rfl ?_
      refine s_lcmp K at_323 (pc' := 324) rfl  ?_
      refine s_if K at_324 (pn := 327) rfl (by decide) (pc' := 333) (by decide) (fun h3 => ?_) (fun h3 => ?_)
      · have g3 := own_leY h3
        refine s_iload K at_333 (pc' := 335) rfl rfl ?_
        refine s_iload K at_335 (pc' := 337) rfl rfl ?_
        refine s_icN K at_337 (pc' := 340) rfl (teq (by rw [own_b0 (x := hi) (t := p3) g1, own_b1 (x := mid) (t := p3) g2, own_b0 (x := lo) (t := p3) g3]; rfl)).2 ?_
        refine s_iconst K at_340 (pc' := 341) rfl (z := (1 : Int32)) rfl ?_
        refine s_goto K at_341 (by decide) (pc' := 345) (by decide) ?_
        exact s_zreturn K at_345 rfl (by decide) (by decide) rfl
      · have g3 := own_leN h3
        refine s_iload K at_327 (pc' := 329) rfl rfl ?_
        refine s_iconst K at_329 (pc' := 330) rfl (z := (1 : Int32)) rfl ?_
        refine s_iadd K at_330 (pc' := 331) rfl (z := (3 : Int32)) rfl ?_
        refine s_istore K at_331 (pc' := 333) rfl (Ls' := #[.val (.long p0), .second, .val (.long p1), .second, .val (.long p2), .second, .val (.long p3), .second, .val (.int p4), .val (.long hi), .second, .val (.long lo), .second, .val (.long mid), .second, .val (.int 3), .val (.int 0), .val (.int 1), .val (.ref b101), .val (.ref b108), .val (.ref b109), .val (.ref b110), .val (.int (Int32.ofNat (1 + own_b hi p3 + own_b mid p3 + own_b lo p3))), .val (.int 3)]) rfl ?_
        refine s_iload K at_333 (pc' := 335) rfl rfl ?_
        refine s_iload K at_335 (pc' := 337) rfl rfl ?_
        refine s_icN K at_337 (pc' := 340) rfl (teq (by rw [own_b0 (x := hi) (t := p3) g1, own_b1 (x := mid) (t := p3) g2, own_b1 (x := lo) (t := p3) g3]; rfl)).2 ?_
        refine s_iconst K at_340 (pc' := 341) rfl (z := (1 : Int32)) rfl ?_
        refine s_goto K at_341 (by decide) (pc' := 345) (by decide) ?_
        exact s_zreturn K at_345 rfl (by decide) (by decide) rfl
  · have g1 := own_leN h1
    refine s_iload K at_287 (pc' := 289) rfl rfl ?_
    refine s_iconst K at_289 (pc' := 290) rfl (z := (1 : Int32)) rfl ?_
    refine s_iadd K at_290 (pc' := 291) rfl (z := (2 : Int32)) rfl ?_
    refine s_istore K at_291 (pc' := 293) rfl (Ls' := #[.val (.long p0), .second, .val (.long p1), .second, .val (.long p2), .second, .val (.long p3), .second, .val (.int p4), .val (.long hi), .second, .val (.long lo), .second, .val (.long mid), .second, .val (.int 3), .val (.int 0), .val (.int 1), .val (.ref b101), .val (.ref b108), .val (.ref b109), .val (.ref b110), .val (.int (Int32.ofNat (1 + own_b hi p3 + own_b mid p3 + own_b lo p3))), .val (.int 2)]) rfl ?_
    refine s_iload K at_293 (pc' := 295) rfl rfl ?_
    refine s_iconst K at_295 (pc' := 296) rfl (z := (2 : Int32)) rfl ?_
    refine s_icN K at_296 (pc' := 299) rfl rfl ?_
    refine s_lload K at_299 (pc' := 301) rfl rfl ?_
    refine s_lload K at_301 (pc' := 303) rfl rfl ?_
    refine s_lcmp K at_303 (pc' := 304) rfl  ?_
    refine s_if K at_304 (pn := 307) rfl (by decide) (pc' := 313) (by decide) (fun h2 => ?_) (fun h2 => ?_)
    · have g2 := own_leY h2
      refine s_iload K at_313 (pc' := 315) rfl rfl ?_
      refine s_iconst K at_315 (pc' := 316) rfl (z := (3 : Int32)) rfl ?_
      refine s_icN K at_316 (pc' := 319) rfl rfl ?_
      refine s_lload K at_319 (pc' := 321) rfl rfl ?_
      refine s_lload K at_321 (pc' := 323) rfl rfl ?_
      refine s_lcmp K at_323 (pc' := 324) rfl  ?_
      refine s_if K at_324 (pn := 327) rfl (by decide) (pc' := 333) (by decide) (fun h3 => ?_) (fun h3 => ?_)
      · have g3 := own_leY h3
        refine s_iload K at_333 (pc' := 335) rfl rfl ?_
        refine s_iload K at_335 (pc' := 337) rfl rfl ?_
        refine s_icN K at_337 (pc' := 340) rfl (teq (by rw [own_b1 (x := hi) (t := p3) g1, own_b0 (x := mid) (t := p3) g2, own_b0 (x := lo) (t := p3) g3]; rfl)).2 ?_
        refine s_iconst K at_340 (pc' := 341) rfl (z := (1 : Int32)) rfl ?_
        refine s_goto K at_341 (by decide) (pc' := 345) (by decide) ?_
        exact s_zreturn K at_345 rfl (by decide) (by decide) rfl
      · have g3 := own_leN h3
        refine s_iload K at_327 (pc' := 329) rfl rfl ?_
        refine s_iconst K at_329 (pc' := 330) rfl (z := (1 : Int32)) rfl ?_
        refine s_iadd K at_330 (pc' := 331) rfl (z := (3 : Int32)) rfl ?_
        refine s_istore K at_331 (pc' := 333) rfl (Ls' := #[.val (.long p0), .second, .val (.long p1), .second, .val (.long p2), .second, .val (.long p3), .second, .val (.int p4), .val (.long hi), .second, .val (.long lo), .second, .val (.long mid), .second, .val (.int 3), .val (.int 0), .val (.int 1), .val (.ref b101), .val (.ref b108), .val (.ref b109), .val (.ref b110), .val (.int (Int32.ofNat (1 + own_b hi p3 + own_b mid p3 + own_b lo p3))), .val (.int 3)]) rfl ?_
        refine s_iload K at_333 (pc' := 335) rfl rfl ?_
        refine s_iload K at_335 (pc' := 337) rfl rfl ?_
        refine s_icN K at_337 (pc' := 340) rfl (teq (by rw [own_b1 (x := hi) (t := p3) g1, own_b0 (x := mid) (t := p3) g2, own_b1 (x := lo) (t := p3) g3]; rfl)).2 ?_
        refine s_iconst K at_340 (pc' := 341) rfl (z := (1 : Int32)) rfl ?_
        refine s_goto K at_341 (by decide) (pc' := 345) (by decide) ?_
        exact s_zreturn K at_345 rfl (by decide) (by decide) rfl
    · have g2 := own_leN h2
      refine s_iload K at_307 (pc' := 309) rfl rfl ?_
      refine s_iconst K at_309 (pc' := 310) rfl (z := (1 : Int32)) rfl ?_
      refine s_iadd K at_310 (pc' := 311) rfl (z := (3 : Int32)) rfl ?_
      refine s_istore K at_311 (pc' := 313) rfl (Ls' := #[.val (.long p0), .second, .val (.long p1), .second, .val (.long p2), .second, .val (.long p3), .second, .val (.int p4), .val (.long hi), .second, .val (.long lo), .second, .val (.long mid), .second, .val (.int 3), .val (.int 0), .val (.int 1), .val (.ref b101), .val (.ref b108), .val (.ref b109), .val (.ref b110), .val (.int (Int32.ofNat (1 + own_b hi p3 + own_b mid p3 + own_b lo p3))), .val (.int 3)]) rfl ?_
      refine s_iload K at_313 (pc' := 315) rfl rfl ?_
      refine s_iconst K at_315 (pc' := 316) rfl (z := (3 : Int32)) rfl ?_
      refine s_icN K at_316 (pc' := 319) rfl rfl ?_
      refine s_lload K at_319 (pc' := 321) rfl rfl ?_
      refine s_lload K at_321 (pc' := 323) rfl rfl ?_
      refine s_lcmp K at_323 (pc' := 324) rfl  ?_
      refine s_if K at_324 (pn := 327) rfl (by decide) (pc' := 333) (by decide) (fun h3 => ?_) (fun h3 => ?_)
      · have g3 := own_leY h3
        refine s_iload K at_333 (pc' := 335) rfl rfl ?_
        refine s_iload K at_335 (pc' := 337) rfl rfl ?_
        refine s_icN K at_337 (pc' := 340) rfl (teq (by rw [own_b1 (x := hi) (t := p3) g1, own_b1 (x := mid) (t := p3) g2, own_b0 (x := lo) (t := p3) g3]; rfl)).2 ?_
        refine s_iconst K at_340 (pc' := 341) rfl (z := (1 : Int32)) rfl ?_
        refine s_goto K at_341 (by decide) (pc' := 345) (by decide) ?_
        exact s_zreturn K at_345 rfl (by decide) (by decide) rfl
      · have g3 := own_leN h3
        refine s_iload K at_327 (pc' := 329) rfl rfl ?_
        refine s_iconst K at_329 (pc' := 330) rfl (z := (1 : Int32)) rfl ?_
        refine s_iadd K at_330 (pc' := 331) rfl (z := (4 : Int32)) rfl ?_
        refine s_istore K at_331 (pc' := 333) rfl (Ls' := #[.val (.long p0), .second, .val (.long p1), .second, .val (.long p2), .second, .val (.long p3), .second, .val (.int p4), .val (.long hi), .second, .val (.long lo), .second, .val (.long mid), .second, .val (.int 3), .val (.int 0), .val (.int 1), .val (.ref b101), .val (.ref b108), .val (.ref b109), .val (.ref b110), .val (.int (Int32.ofNat (1 + own_b hi p3 + own_b mid p3 + own_b lo p3))), .val (.int 4)]) rfl ?_
        refine s_iload K at_333 (pc' := 335) rfl rfl ?_
        refine s_iload K at_335 (pc' := 337) rfl rfl ?_
        refine s_icN K at_337 (pc' := 340) rfl (teq (by rw [own_b1 (x := hi) (t := p3) g1, own_b1 (x := mid) (t := p3) g2, own_b1 (x := lo) (t := p3) g3]; rfl)).2 ?_
        refine s_iconst K at_340 (pc' := 341) rfl (z := (1 : Int32)) rfl ?_
        refine s_goto K at_341 (by decide) (pc' := 345) (by decide) ?_
        exact s_zreturn K at_345 rfl (by decide) (by decide) rfl
set_option maxRecDepth 65536 in
set_option maxHeartbeats 400000000 in
theorem first16 {l : Launch} {Z : State} {a0 : Array Value} (hw : HW Z a0) {n0 : Nat} (F : Wd) (b110 b107 b140 b131 b142 b141 b108 b133 b132 b111 b112 b109 b139 b106 b135 b138 b134 : Addr) (xx1 : Int64) (hi : Int64) (mid : Int64) (lo : Int64) (p0 : Int64) (p3 : Int64)  :
    Con l Z n0 (⟨"com/example/evenkeel/evenkeel/LagSeats", "firstAtMost", "(IJ)I"⟩ : MethodName) prog_60_method_33_code 7 (some .int) ({ frames := 0, cells := 0, slots := 0, locals := 0 } : Room) [.ref b110, .int (0 : Int32), .long p3] ((b110, oLS (.int 0) (.int 0) .null (.int 0) (.int 0) (.ref b111) (.ref b112) (.ref b142) (.ref b141) (.ref b108) (.ref b109) (.ref b139) (.ref b107) (.ref b106) (.ref b135) (.ref b138) (.ref b134) (.ref b140) .null (.ref b133) (.ref b132) (.ref b131) .null .null .null .null .null .null .null) :: (b107, .inr (.int, [.int 0, .int 1])) :: (b140, .inr (.int, [.int 0, .int 1, .int 4])) :: (b131, .inr (.int, [.int 1, .int 3])) :: (b142, .inr (.int, [.int 1, .int 3])) :: (b141, .inr (.long, [.long ((0 : Int64) + p0), .long xx1])) :: (b108, .inr (.long, [.long hi, .long mid, .long lo, .long p0])) :: (b133, .inr (.int, [.int 3, .int 0, .int 1, .int 2])) :: (b132, .inr (.long, [.long p0, .long hi, .long mid, .long lo])) :: F) (fun v L' => v = some (.int (Int32.ofNat (0 + own_b p0 p3))) ∧ L' = ((b110, oLS (.int 0) (.int 0) .null (.int 0) (.int 0) (.ref b111) (.ref b112) (.ref b142) (.ref b141) (.ref b108) (.ref b109) (.ref b139) (.ref b107) (.ref b106) (.ref b135) (.ref b138) (.ref b134) (.ref b140) .null (.ref b133) (.ref b132) (.ref b131) .null .null .null .null .null .null .null) :: (b107, .inr (.int, [.int 0, .int 1])) :: (b140, .inr (.int, [.int 0, .int 1, .int 4])) :: (b131, .inr (.int, [.int 1, .int 3])) :: (b142, .inr (.int, [.int 1, .int 3])) :: (b141, .inr (.long, [.long ((0 : Int64) + p0), .long xx1])) :: (b108, .inr (.long, [.long hi, .long mid, .long lo, .long p0])) :: (b133, .inr (.int, [.int 3, .int 0, .int 1, .int 2])) :: (b132, .inr (.long, [.long p0, .long hi, .long mid, .long lo])) :: F)) := by
  refine Con.of (by decide +kernel) (Ls := #[.val (.ref b110), .val (.int 0), .val (.long p3), .second, .unset, .unset, .unset]) (fun m => by first | rfl | (simp [entryFrame, mkF, argsToLocals, Value.category]; done)) ?_
  intro κ K
  refine s_aloadN K d17_0 (pc' := 1) rfl rfl rfl ?_
  refine s_getf K d17_1 (pc' := 4) rfl (w96 hw) (k := 0) rfl (j := 17) rfl ?_
  refine s_iloadN K d17_4 (pc' := 5) rfl rfl ?_
  refine s_iaload K d17_5 (pc' := 6) rfl (k := 2) rfl (i := 0) (by decide) rfl ?_
  refine s_istore K d17_6 (pc' := 8) rfl (Ls' := #[.val (.ref b110), .val (.int 0), .val (.long p3), .second, .val (.int 0), .unset, .unset]) rfl ?_
  refine s_iload K d17_8 (pc' := 10) rfl rfl ?_
  refine s_aloadN K d17_10 (pc' := 11) rfl rfl rfl ?_
  refine s_getf K d17_11 (pc' := 14) rfl (w138 hw) (k := 0) rfl (j := 21) rfl ?_
  refine s_iloadN K d17_14 (pc' := 15) rfl rfl ?_
  refine s_iaload K d17_15 (pc' := 16) rfl (k := 3) rfl (i := 0) (by decide) rfl ?_
  refine s_iadd K d17_16 (pc' := 17) rfl (z := (1 : Int32)) rfl ?_
  refine s_istore K d17_17 (pc' := 19) rfl (Ls' := #[.val (.ref b110), .val (.int 0), .val (.long p3), .second, .val (.int 0), .val (.int 1), .unset]) rfl ?_
  refine s_iload K d17_19 (pc' := 21) rfl rfl ?_
  refine s_iload K d17_21 (pc' := 23) rfl rfl ?_
  refine s_icN K d17_23 (pc' := 26) rfl rfl ?_
  refine s_iload K d17_26 (pc' := 28) rfl rfl ?_
  refine s_iload K d17_28 (pc' := 30) rfl rfl ?_
  refine s_iadd K d17_30 (pc' := 31) rfl (z := (1 : Int32)) rfl ?_
  refine s_iconst K d17_31 (pc' := 32) rfl (z := (1 : Int32)) rfl ?_
  refine s_iushr K d17_32 (pc' := 33) rfl (z := (0 : Int32)) rfl ?_
  refine s_istore K d17_33 (pc' := 35) rfl (Ls' := #[.val (.ref b110), .val (.int 0), .val (.long p3), .second, .val (.int 0), .val (.int 1), .val (.int 0)]) rfl ?_
  refine s_aloadN K d17_35 (pc' := 36) rfl rfl rfl ?_
  refine s_getf K d17_36 (pc' := 39) rfl (w136 hw) (k := 0) rfl (j := 20) rfl ?_
  refine s_iload K d17_39 (pc' := 41) rfl rfl ?_
  refine s_laload K d17_41 (pc' := 42) rfl (k := 8) rfl (i := 0) (by decide) rfl ?_
  refine s_lloadN K d17_42 (pc' := 43) rfl rfl ?_
  refine s_lcmp K d17_43 (pc' := 44) rfl  ?_
  refine s_if K d17_44 (pn := 47) rfl (by decide) (pc' := 56) (by decide) (fun h1 => ?_) (fun h1 => ?_)
  · have g1 := own_leY h1
    refine s_iload K d17_56 (pc' := 58) rfl rfl ?_
    refine s_istore K d17_58 (pc' := 60) rfl (Ls' := #[.val (.ref b110), .val (.int 0), .val (.long p3), .second, .val (.int 0), .val (.int 0), .val (.int 0)]) rfl ?_
    refine s_goto K d17_60 (by decide) (pc' := 19) (by decide) ?_
    refine s_iload K d17_19 (pc' := 21) rfl rfl ?_
    refine s_iload K d17_21 (pc' := 23) rfl rfl ?_
    refine s_icY K d17_23 rfl (by decide) (pc' := 63) (by decide) ?_
    refine s_iload K d17_63 (pc' := 65) rfl rfl ?_
    exact s_ireturn K d17_65 (by decide) (by decide) ⟨by rw [own_b0 (x := p0) (t := p3) (by omega)]; rfl, rfl⟩
  · have g1 := own_leN h1
    refine s_iload K d17_47 (pc' := 49) rfl rfl ?_
    refine s_iconst K d17_49 (pc' := 50) rfl (z := (1 : Int32)) rfl ?_
    refine s_iadd K d17_50 (pc' := 51) rfl (z := (1 : Int32)) rfl ?_
    refine s_istore K d17_51 (pc' := 53) rfl (Ls' := #[.val (.ref b110), .val (.int 0), .val (.long p3), .second, .val (.int 1), .val (.int 1), .val (.int 0)]) rfl ?_
    refine s_goto K d17_53 (by decide) (pc' := 60) (by decide) ?_
    refine s_goto K d17_60 (by decide) (pc' := 19) (by decide) ?_
    refine s_iload K d17_19 (pc' := 21) rfl rfl ?_
    refine s_iload K d17_21 (pc' := 23) rfl rfl ?_
    refine s_icY K d17_23 rfl (by decide) (pc' := 63) (by decide) ?_
    refine s_iload K d17_63 (pc' := 65) rfl rfl ?_
    exact s_ireturn K d17_65 (by decide) (by decide) ⟨by rw [own_b1 (x := p0) (t := p3) (by omega)]; rfl, rfl⟩
set_option maxRecDepth 65536 in
set_option maxHeartbeats 400000000 in
theorem segB_131 {l : Launch} {Z : State} {a0 : Array Value} (hw : HW Z a0) {n0 : Nat} (p0 p1 p2 p3 hi mid lo : Int64) (p4 : Int32) (b110 b107 b140 b131 b142 b141 b108 b133 b132 b101 b109 b111 b112 b139 b106 b135 b138 b134 : Addr) (o1 : mid.toInt ≤ hi.toInt) (o2 : lo.toInt ≤ mid.toInt) (κ : Ctx) (K : Ok Z κ x.cls code maxLocals ret x.name) :
    Go l Z n0 room_1 (fun v _ => v = some (.int 1)) κ 21 83 [(b110, oLS (.int 0) (.int 0) .null (.int 0) (.int 0) (.ref b111) (.ref b112) (.ref b142) (.ref b141) (.ref b108) (.ref b109) (.ref b139) (.ref b107) (.ref b106) (.ref b135) (.ref b138) (.ref b134) (.ref b140) .null (.ref b133) (.ref b132) (.ref b131) .null .null .null .null .null .null .null), (b107, .inr (.int, [.int 0, .int 1])), (b140, .inr (.int, [.int 0, .int 1, .int 4])), (b131, .inr (.int, [.int 0, .int 0])), (b142, .inr (.int, [.int 0, .int 0])), (b141, .inr (.long, [.long 0, .long 0])), (b108, .inr (.long, [.long hi, .long mid, .long lo, .long p0])), (b133, .inr (.int, [.int 0, .int 0, .int 0, .int 0])), (b132, .inr (.long, [.long 0, .long 0, .long 0, .long 0]))] 172 #[.val (.long p0), .second, .val (.long p1), .second, .val (.long p2), .second, .val (.long p3), .second, .val (.int p4), .val (.long hi), .second, .val (.long lo), .second, .val (.long mid), .second, .val (.int 3), .val (.int 1), .val (.int 1), .val (.ref b101), .val (.ref b108), .val (.ref b109), .val (.ref b110), .unset, .unset] [] := by
  refine s_iload K at_172 (pc' := 174) rfl rfl ?_
  refine s_ifN K at_174 (pc' := 177) rfl rfl ?_
  refine s_aload K at_177 (pc' := 179) rfl rfl rfl ?_
  refine s_iconst K at_179 (pc' := 180) rfl (z := (0 : Int32)) rfl ?_
  refine s_iconst K at_180 (pc' := 181) rfl (z := (3 : Int32)) rfl ?_
  refine s_virtual K at_181 (pc' := 184) rfl (k := 0) (a := b110) rfl (as := [.int 0, .int 3]) (k22_place hw _ b110 b107 b140 b131 b142 b141 b108 b133 b132 b111 b112 b109 b139 b106 b135 b138 b134 hi mid lo p0) (w154 hw) (w155 hw) (w157 hw) (w156 hw) (w35 hw) (w158 hw) (by decide) pd_0 rfl (rest := []) rfl rfl (W := 0) (Nat.le_of_eq rfl) (by decide) (by decide) (ce' := 21) rfl (sl' := 83) rfl (by decide) (by decide) ?_
  rintro v _ ⟨rfl, rfl⟩
  show Go l Z n0 _ _ κ 21 83 [(b110, oLS (.int 0) (.int 0) .null (.int 0) (.int 0) (.ref b111) (.ref b112) (.ref b142) (.ref b141) (.ref b108) (.ref b109) (.ref b139) (.ref b107) (.ref b106) (.ref b135) (.ref b138) (.ref b134) (.ref b140) .null (.ref b133) (.ref b132) (.ref b131) .null .null .null .null .null .null .null), (b107, .inr (.int, [.int 0, .int 1])), (b140, .inr (.int, [.int 0, .int 1, .int 4])), (b131, .inr (.int, [.int 1, .int 0])), (b142, .inr (.int, [.int 1, .int 0])), (b141, .inr (.long, [.long ((0 : Int64) + p0), .long 0])), (b108, .inr (.long, [.long hi, .long mid, .long lo, .long p0])), (b133, .inr (.int, [.int 3, .int 0, .int 0, .int 0])), (b132, .inr (.long, [.long p0, .long 0, .long 0, .long 0]))] 184 #[.val (.long p0), .second, .val (.long p1), .second, .val (.long p2), .second, .val (.long p3), .second, .val (.int p4), .val (.long hi), .second, .val (.long lo), .second, .val (.long mid), .second, .val (.int 3), .val (.int 1), .val (.int 1), .val (.ref b101), .val (.ref b108), .val (.ref b109), .val (.ref b110), .unset, .unset] []
  refine s_iload K at_184 (pc' := 186) rfl rfl ?_
  refine s_iconst K at_186 (pc' := 187) rfl (z := (1 : Int32)) rfl ?_
  refine s_icN K at_187 (pc' := 190) rfl rfl ?_
  refine s_aload K at_190 (pc' := 192) rfl rfl rfl ?_
  refine s_iconst K at_192 (pc' := 193) rfl (z := (1 : Int32)) rfl ?_
  refine s_iconst K at_193 (pc' := 194) rfl (z := (0 : Int32)) rfl ?_
  refine s_virtual K at_194 (pc' := 197) rfl (k := 0) (a := b110) rfl (as := [.int 1, .int 0]) (k25_place hw _ b110 b107 b140 b131 b142 b141 b108 b133 b132 b111 b112 b109 b139 b106 b135 b138 b134 hi mid lo p0) (w154 hw) (w155 hw) (w157 hw) (w156 hw) (w35 hw) (w158 hw) (by decide) pd_0 rfl (rest := []) rfl rfl (W := 0) (Nat.le_of_eq rfl) (by decide) (by decide) (ce' := 21) rfl (sl' := 83) rfl (by decide) (by decide) ?_
  rintro v _ ⟨rfl, rfl⟩
  show Go l Z n0 _ _ κ 21 83 [(b110, oLS (.int 0) (.int 0) .null (.int 0) (.int 0) (.ref b111) (.ref b112) (.ref b142) (.ref b141) (.ref b108) (.ref b109) (.ref b139) (.ref b107) (.ref b106) (.ref b135) (.ref b138) (.ref b134) (.ref b140) .null (.ref b133) (.ref b132) (.ref b131) .null .null .null .null .null .null .null), (b107, .inr (.int, [.int 0, .int 1])), (b140, .inr (.int, [.int 0, .int 1, .int 4])), (b131, .inr (.int, [.int 1, .int 1])), (b142, .inr (.int, [.int 1, .int 1])), (b141, .inr (.long, [.long ((0 : Int64) + p0), .long ((0 : Int64) + hi)])), (b108, .inr (.long, [.long hi, .long mid, .long lo, .long p0])), (b133, .inr (.int, [.int 3, .int 0, .int 0, .int 0])), (b132, .inr (.long, [.long p0, .long hi, .long 0, .long 0]))] 197 #[.val (.long p0), .second, .val (.long p1), .second, .val (.long p2), .second, .val (.long p3), .second, .val (.int p4), .val (.long hi), .second, .val (.long lo), .second, .val (.long mid), .second, .val (.int 3), .val (.int 1), .val (.int 1), .val (.ref b101), .val (.ref b108), .val (.ref b109), .val (.ref b110), .unset, .unset] []
  refine s_iload K at_197 (pc' := 199) rfl rfl ?_
  refine s_iconst K at_199 (pc' := 200) rfl (z := (2 : Int32)) rfl ?_
  refine s_icN K at_200 (pc' := 203) rfl rfl ?_
  refine s_aload K at_203 (pc' := 205) rfl rfl rfl ?_
  refine s_iconst K at_205 (pc' := 206) rfl (z := (1 : Int32)) rfl ?_
  refine s_iconst K at_206 (pc' := 207) rfl (z := (1 : Int32)) rfl ?_
  refine s_virtual K at_207 (pc' := 210) rfl (k := 0) (a := b110) rfl (as := [.int 1, .int 1]) (k28_place hw _ b110 b107 b140 b131 b142 b141 b108 b133 b132 b111 b112 b109 b139 b106 b135 b138 b134 hi mid lo p0) (w154 hw) (w155 hw) (w157 hw) (w156 hw) (w35 hw) (w158 hw) (by decide) pd_0 rfl (rest := []) rfl rfl (W := 0) (Nat.le_of_eq rfl) (by decide) (by decide) (ce' := 21) rfl (sl' := 83) rfl (by decide) (by decide) ?_
  rintro v _ ⟨rfl, rfl⟩
  show Go l Z n0 _ _ κ 21 83 [(b110, oLS (.int 0) (.int 0) .null (.int 0) (.int 0) (.ref b111) (.ref b112) (.ref b142) (.ref b141) (.ref b108) (.ref b109) (.ref b139) (.ref b107) (.ref b106) (.ref b135) (.ref b138) (.ref b134) (.ref b140) .null (.ref b133) (.ref b132) (.ref b131) .null .null .null .null .null .null .null), (b107, .inr (.int, [.int 0, .int 1])), (b140, .inr (.int, [.int 0, .int 1, .int 4])), (b131, .inr (.int, [.int 1, .int 2])), (b142, .inr (.int, [.int 1, .int 2])), (b141, .inr (.long, [.long ((0 : Int64) + p0), .long (((0 : Int64) + hi) + mid)])), (b108, .inr (.long, [.long hi, .long mid, .long lo, .long p0])), (b133, .inr (.int, [.int 3, .int 0, .int 1, .int 0])), (b132, .inr (.long, [.long p0, .long hi, .long mid, .long 0]))] 210 #[.val (.long p0), .second, .val (.long p1), .second, .val (.long p2), .second, .val (.long p3), .second, .val (.int p4), .val (.long hi), .second, .val (.long lo), .second, .val (.long mid), .second, .val (.int 3), .val (.int 1), .val (.int 1), .val (.ref b101), .val (.ref b108), .val (.ref b109), .val (.ref b110), .unset, .unset] []
  refine s_iload K at_210 (pc' := 212) rfl rfl ?_
  refine s_iconst K at_212 (pc' := 213) rfl (z := (3 : Int32)) rfl ?_
  refine s_icN K at_213 (pc' := 216) rfl rfl ?_
  refine s_aload K at_216 (pc' := 218) rfl rfl rfl ?_
  refine s_iconst K at_218 (pc' := 219) rfl (z := (1 : Int32)) rfl ?_
  refine s_iconst K at_219 (pc' := 220) rfl (z := (2 : Int32)) rfl ?_
  refine s_virtual K at_220 (pc' := 223) rfl (k := 0) (a := b110) rfl (as := [.int 1, .int 2]) (k31_place hw _ b110 b107 b140 b131 b142 b141 b108 b133 b132 b111 b112 b109 b139 b106 b135 b138 b134 (((0 : Int64) + hi) + mid) hi mid lo p0) (w154 hw) (w155 hw) (w157 hw) (w156 hw) (w35 hw) (w158 hw) (by decide) pd_0 rfl (rest := []) rfl rfl (W := 0) (Nat.le_of_eq rfl) (by decide) (by decide) (ce' := 21) rfl (sl' := 83) rfl (by decide) (by decide) ?_
  rintro v _ ⟨rfl, rfl⟩
  show Go l Z n0 _ _ κ 21 83 [(b110, oLS (.int 0) (.int 0) .null (.int 0) (.int 0) (.ref b111) (.ref b112) (.ref b142) (.ref b141) (.ref b108) (.ref b109) (.ref b139) (.ref b107) (.ref b106) (.ref b135) (.ref b138) (.ref b134) (.ref b140) .null (.ref b133) (.ref b132) (.ref b131) .null .null .null .null .null .null .null), (b107, .inr (.int, [.int 0, .int 1])), (b140, .inr (.int, [.int 0, .int 1, .int 4])), (b131, .inr (.int, [.int 1, .int 3])), (b142, .inr (.int, [.int 1, .int 3])), (b141, .inr (.long, [.long ((0 : Int64) + p0), .long ((((0 : Int64) + hi) + mid) + lo)])), (b108, .inr (.long, [.long hi, .long mid, .long lo, .long p0])), (b133, .inr (.int, [.int 3, .int 0, .int 1, .int 2])), (b132, .inr (.long, [.long p0, .long hi, .long mid, .long lo]))] 223 #[.val (.long p0), .second, .val (.long p1), .second, .val (.long p2), .second, .val (.long p3), .second, .val (.int p4), .val (.long hi), .second, .val (.long lo), .second, .val (.long mid), .second, .val (.int 3), .val (.int 1), .val (.int 1), .val (.ref b101), .val (.ref b108), .val (.ref b109), .val (.ref b110), .unset, .unset] []
  refine s_iload K at_223 (pc' := 225) rfl rfl ?_
  refine s_ifN K at_225 (pc' := 228) rfl rfl ?_
  refine s_aload K at_228 (pc' := 230) rfl rfl rfl ?_
  refine s_iconst K at_230 (pc' := 231) rfl (z := (0 : Int32)) rfl ?_
  refine s_lload K at_231 (pc' := 233) rfl rfl ?_
  refine s_virtual K at_233 (pc' := 236) rfl (k := 0) (a := b110) rfl (as := [.int 0, .long p3]) (first16 hw _ b110 b107 b140 b131 b142 b141 b108 b133 b132 b111 b112 b109 b139 b106 b135 b138 b134 ((((0 : Int64) + hi) + mid) + lo) hi mid lo p0 p3 ) (w168 hw) (w169 hw) (w171 hw) (w170 hw) (w35 hw) (w172 hw) (by decide) pd_9 rfl (rest := []) rfl rfl (W := 0) (Nat.le_of_eq rfl) (by decide) (by decide) (ce' := 21) rfl (sl' := 83) rfl (by decide) (by decide) ?_
  rintro v _ ⟨rfl, rfl⟩
  show Go l Z n0 _ _ κ 21 83 [(b110, oLS (.int 0) (.int 0) .null (.int 0) (.int 0) (.ref b111) (.ref b112) (.ref b142) (.ref b141) (.ref b108) (.ref b109) (.ref b139) (.ref b107) (.ref b106) (.ref b135) (.ref b138) (.ref b134) (.ref b140) .null (.ref b133) (.ref b132) (.ref b131) .null .null .null .null .null .null .null), (b107, .inr (.int, [.int 0, .int 1])), (b140, .inr (.int, [.int 0, .int 1, .int 4])), (b131, .inr (.int, [.int 1, .int 3])), (b142, .inr (.int, [.int 1, .int 3])), (b141, .inr (.long, [.long ((0 : Int64) + p0), .long ((((0 : Int64) + hi) + mid) + lo)])), (b108, .inr (.long, [.long hi, .long mid, .long lo, .long p0])), (b133, .inr (.int, [.int 3, .int 0, .int 1, .int 2])), (b132, .inr (.long, [.long p0, .long hi, .long mid, .long lo]))] 236 #[.val (.long p0), .second, .val (.long p1), .second, .val (.long p2), .second, .val (.long p3), .second, .val (.int p4), .val (.long hi), .second, .val (.long lo), .second, .val (.long mid), .second, .val (.int 3), .val (.int 1), .val (.int 1), .val (.ref b101), .val (.ref b108), .val (.ref b109), .val (.ref b110), .unset, .unset] [.int (Int32.ofNat (0 + own_b p0 p3))]
  refine s_istore K at_236 (pc' := 238) rfl (Ls' := #[.val (.long p0), .second, .val (.long p1), .second, .val (.long p2), .second, .val (.long p3), .second, .val (.int p4), .val (.long hi), .second, .val (.long lo), .second, .val (.long mid), .second, .val (.int 3), .val (.int 1), .val (.int 1), .val (.ref b101), .val (.ref b108), .val (.ref b109), .val (.ref b110), .val (.int (Int32.ofNat (0 + own_b p0 p3))), .unset]) rfl ?_
  refine s_iload K at_238 (pc' := 240) rfl rfl ?_
  refine s_ifN K at_240 (pc' := 243) rfl rfl ?_
  refine s_lloadN K at_243 (pc' := 244) rfl rfl ?_
  refine s_lload K at_244 (pc' := 246) rfl rfl ?_
  refine s_lcmp K at_246 (pc' := 247) rfl  ?_
  refine s_if K at_247 (pn := 250) rfl (by decide) (pc' := 254) (by decide) (fun h1 => ?_) (fun h1 => ?_)
  · have g1 := own_leY h1
    refine s_iconst K at_254 (pc' := 255) rfl (z := (0 : Int32)) rfl ?_
    refine s_istore K at_255 (pc' := 257) rfl (Ls' := #[.val (.long p0), .second, .val (.long p1), .second, .val (.long p2), .second, .val (.long p3), .second, .val (.int p4), .val (.long hi), .second, .val (.long lo), .second, .val (.long mid), .second, .val (.int 3), .val (.int 1), .val (.int 1), .val (.ref b101), .val (.ref b108), .val (.ref b109), .val (.ref b110), .val (.int (Int32.ofNat (0 + own_b p0 p3))), .val (.int 0)]) rfl ?_
    refine s_goto K at_257 (by decide) (pc' := 333) (by decide) ?_
    refine s_iload K at_333 (pc' := 335) rfl rfl ?_
    refine s_iload K at_335 (pc' := 337) rfl rfl ?_
    refine s_icN K at_337 (pc' := 340) rfl (teq (by rw [own_b0 (x := p0) (t := p3) g1]; rfl)).2 ?_
    refine s_iconst K at_340 (pc' := 341) rfl (z := (1 : Int32)) rfl ?_
    refine s_goto K at_341 (by decide) (pc' := 345) (by decide) ?_
    exact s_zreturn K at_345 rfl (by decide) (by decide) rfl
  · have g1 := own_leN h1
    refine s_iconst K at_250 (pc' := 251) rfl (z := (1 : Int32)) rfl ?_
    refine s_goto K at_251 (by decide) (pc' := 255) (by decide) ?_
    refine s_istore K at_255 (pc' := 257) rfl (Ls' := #[.val (.long p0), .second, .val (.long p1), .second, .val (.long p2), .second, .val (.long p3), .second, .val (.int p4), .val (.long hi), .second, .val (.long lo), .second, .val (.long mid), .second, .val (.int 3), .val (.int 1), .val (.int 1), .val (.ref b101), .val (.ref b108), .val (.ref b109), .val (.ref b110), .val (.int (Int32.ofNat (0 + own_b p0 p3))), .val (.int 1)]) rfl ?_
    refine s_goto K at_257 (by decide) (pc' := 333) (by decide) ?_
    refine s_iload K at_333 (pc' := 335) rfl rfl ?_
    refine s_iload K at_335 (pc' := 337) rfl rfl ?_
    refine s_icN K at_337 (pc' := 340) rfl (teq (by rw [own_b1 (x := p0) (t := p3) g1]; rfl)).2 ?_
    refine s_iconst K at_340 (pc' := 341) rfl (z := (1 : Int32)) rfl ?_
    refine s_goto K at_341 (by decide) (pc' := 345) (by decide) ?_
    exact s_zreturn K at_345 rfl (by decide) (by decide) rfl
set_option maxRecDepth 65536 in
set_option maxHeartbeats 400000000 in
theorem go_law {l : Launch} {Z : State} {a0 : Array Value} (hw : HW Z a0) {n0 : Nat} (p0 : Int64) (p1 : Int64) (p2 : Int64) (p3 : Int64) (p4 : Int32) (κ : Ctx) (K : Ok Z κ x.cls code maxLocals ret x.name) :
    Go l Z n0 room_1 (fun v _ => v = some (.int 1)) κ 0 0 [] 0 #[.val (.long p0), .second, .val (.long p1), .second, .val (.long p2), .second, .val (.long p3), .second, .val (.int p4), .unset, .unset, .unset, .unset, .unset, .unset, .unset, .unset, .unset, .unset, .unset, .unset, .unset, .unset, .unset] [] := by
  obtain ⟨nI, hnI, hn4⟩ := own_four p4
  rcases own_bit (XT.ushr p4 2) with hq | hq <;> rcases own_bit (XT.ushr p4 3) with hf | hf
  · refine s_lloadN K at_0 (pc' := 1) rfl rfl ?_
    refine s_lloadN K at_1 (pc' := 2) rfl rfl ?_
    refine s_lload K at_2 (pc' := 4) rfl rfl ?_
    refine s_static K at_4 (pc' := 7) rfl (as := [.long p1, .long p2]) (c_mx hw [] p1 p2) (w0 hw) (w1 hw) (w2 hw) (w3 hw) (by decide) pd_10 rfl (rest := [.long p0]) rfl rfl (W := 2) (Nat.le_of_eq rfl) (by decide) (by decide) (ce' := 0) rfl (sl' := 0) rfl (by decide) (by decide) ?_
    rintro v _ ⟨rfl, rfl⟩
    obtain ⟨t1, ht1⟩ : ∃ z, z = own_mx p1 p2 := ⟨_, rfl⟩
    rw [← ht1]
    show Go l Z n0 _ _ κ 0 0 [] 7 #[.val (.long p0), .second, .val (.long p1), .second, .val (.long p2), .second, .val (.long p3), .second, .val (.int p4), .unset, .unset, .unset, .unset, .unset, .unset, .unset, .unset, .unset, .unset, .unset, .unset, .unset, .unset, .unset] [.long t1, .long p0]
    refine s_static K at_7 (pc' := 10) rfl (as := [.long p0, .long t1]) (c_mx hw [] p0 t1) (w0 hw) (w1 hw) (w2 hw) (w3 hw) (by decide) pd_10 rfl (rest := []) rfl rfl (W := 0) (Nat.le_of_eq rfl) (by decide) (by decide) (ce' := 0) rfl (sl' := 0) rfl (by decide) (by decide) ?_
    rintro v _ ⟨rfl, rfl⟩
    obtain ⟨hi, hhi⟩ : ∃ z, z = own_mx p0 t1 := ⟨_, rfl⟩
    rw [← hhi]
    show Go l Z n0 _ _ κ 0 0 [] 10 #[.val (.long p0), .second, .val (.long p1), .second, .val (.long p2), .second, .val (.long p3), .second, .val (.int p4), .unset, .unset, .unset, .unset, .unset, .unset, .unset, .unset, .unset, .unset, .unset, .unset, .unset, .unset, .unset] [.long hi]
    refine s_lstore K at_10 (pc' := 12) rfl (Ls' := #[.val (.long p0), .second, .val (.long p1), .second, .val (.long p2), .second, .val (.long p3), .second, .val (.int p4), .val (.long hi), .second, .unset, .unset, .unset, .unset, .unset, .unset, .unset, .unset, .unset, .unset, .unset, .unset, .unset]) rfl ?_
    refine s_lloadN K at_12 (pc' := 13) rfl rfl ?_
    refine s_lloadN K at_13 (pc' := 14) rfl rfl ?_
    refine s_lload K at_14 (pc' := 16) rfl rfl ?_
    refine s_static K at_16 (pc' := 19) rfl (as := [.long p1, .long p2]) (c_mn hw [] p1 p2) (w4 hw) (w5 hw) (w2 hw) (w6 hw) (by decide) pd_10 rfl (rest := [.long p0]) rfl rfl (W := 2) (Nat.le_of_eq rfl) (by decide) (by decide) (ce' := 0) rfl (sl' := 0) rfl (by decide) (by decide) ?_
    rintro v _ ⟨rfl, rfl⟩
    obtain ⟨t2, ht2⟩ : ∃ z, z = own_mn p1 p2 := ⟨_, rfl⟩
    rw [← ht2]
    show Go l Z n0 _ _ κ 0 0 [] 19 #[.val (.long p0), .second, .val (.long p1), .second, .val (.long p2), .second, .val (.long p3), .second, .val (.int p4), .val (.long hi), .second, .unset, .unset, .unset, .unset, .unset, .unset, .unset, .unset, .unset, .unset, .unset, .unset, .unset] [.long t2, .long p0]
    refine s_static K at_19 (pc' := 22) rfl (as := [.long p0, .long t2]) (c_mn hw [] p0 t2) (w4 hw) (w5 hw) (w2 hw) (w6 hw) (by decide) pd_10 rfl (rest := []) rfl rfl (W := 0) (Nat.le_of_eq rfl) (by decide) (by decide) (ce' := 0) rfl (sl' := 0) rfl (by decide) (by decide) ?_
    rintro v _ ⟨rfl, rfl⟩
    obtain ⟨lo, hlo⟩ : ∃ z, z = own_mn p0 t2 := ⟨_, rfl⟩
    rw [← hlo]
    show Go l Z n0 _ _ κ 0 0 [] 22 #[.val (.long p0), .second, .val (.long p1), .second, .val (.long p2), .second, .val (.long p3), .second, .val (.int p4), .val (.long hi), .second, .unset, .unset, .unset, .unset, .unset, .unset, .unset, .unset, .unset, .unset, .unset, .unset, .unset] [.long lo]
    refine s_lstore K at_22 (pc' := 24) rfl (Ls' := #[.val (.long p0), .second, .val (.long p1), .second, .val (.long p2), .second, .val (.long p3), .second, .val (.int p4), .val (.long hi), .second, .val (.long lo), .second, .unset, .unset, .unset, .unset, .unset, .unset, .unset, .unset, .unset, .unset, .unset]) rfl ?_
    refine s_lloadN K at_24 (pc' := 25) rfl rfl ?_
    refine s_lloadN K at_25 (pc' := 26) rfl rfl ?_
    refine s_static K at_26 (pc' := 29) rfl (as := [.long p0, .long p1]) (c_mn hw [] p0 p1) (w4 hw) (w5 hw) (w2 hw) (w6 hw) (by decide) pd_10 rfl (rest := []) rfl rfl (W := 0) (Nat.le_of_eq rfl) (by decide) (by decide) (ce' := 0) rfl (sl' := 0) rfl (by decide) (by decide) ?_
    rintro v _ ⟨rfl, rfl⟩
    obtain ⟨t3, ht3⟩ : ∃ z, z = own_mn p0 p1 := ⟨_, rfl⟩
    rw [← ht3]
    show Go l Z n0 _ _ κ 0 0 [] 29 #[.val (.long p0), .second, .val (.long p1), .second, .val (.long p2), .second, .val (.long p3), .second, .val (.int p4), .val (.long hi), .second, .val (.long lo), .second, .unset, .unset, .unset, .unset, .unset, .unset, .unset, .unset, .unset, .unset, .unset] [.long t3]
    refine s_lloadN K at_29 (pc' := 30) rfl rfl ?_
    refine s_lloadN K at_30 (pc' := 31) rfl rfl ?_
    refine s_static K at_31 (pc' := 34) rfl (as := [.long p0, .long p1]) (c_mx hw [] p0 p1) (w0 hw) (w1 hw) (w2 hw) (w3 hw) (by decide) pd_10 rfl (rest := [.long t3]) rfl rfl (W := 2) (Nat.le_of_eq rfl) (by decide) (by decide) (ce' := 0) rfl (sl' := 0) rfl (by decide) (by decide) ?_
    rintro v _ ⟨rfl, rfl⟩
    obtain ⟨t4, ht4⟩ : ∃ z, z = own_mx p0 p1 := ⟨_, rfl⟩
    rw [← ht4]
    show Go l Z n0 _ _ κ 0 0 [] 34 #[.val (.long p0), .second, .val (.long p1), .second, .val (.long p2), .second, .val (.long p3), .second, .val (.int p4), .val (.long hi), .second, .val (.long lo), .second, .unset, .unset, .unset, .unset, .unset, .unset, .unset, .unset, .unset, .unset, .unset] [.long t4, .long t3]
    refine s_lload K at_34 (pc' := 36) rfl rfl ?_
    refine s_static K at_36 (pc' := 39) rfl (as := [.long t4, .long p2]) (c_mn hw [] t4 p2) (w4 hw) (w5 hw) (w2 hw) (w6 hw) (by decide) pd_10 rfl (rest := [.long t3]) rfl rfl (W := 2) (Nat.le_of_eq rfl) (by decide) (by decide) (ce' := 0) rfl (sl' := 0) rfl (by decide) (by decide) ?_
    rintro v _ ⟨rfl, rfl⟩
    obtain ⟨t5, ht5⟩ : ∃ z, z = own_mn t4 p2 := ⟨_, rfl⟩
    rw [← ht5]
    show Go l Z n0 _ _ κ 0 0 [] 39 #[.val (.long p0), .second, .val (.long p1), .second, .val (.long p2), .second, .val (.long p3), .second, .val (.int p4), .val (.long hi), .second, .val (.long lo), .second, .unset, .unset, .unset, .unset, .unset, .unset, .unset, .unset, .unset, .unset, .unset] [.long t5, .long t3]
    refine s_static K at_39 (pc' := 42) rfl (as := [.long t3, .long t5]) (c_mx hw [] t3 t5) (w0 hw) (w1 hw) (w2 hw) (w3 hw) (by decide) pd_10 rfl (rest := []) rfl rfl (W := 0) (Nat.le_of_eq rfl) (by decide) (by decide) (ce' := 0) rfl (sl' := 0) rfl (by decide) (by decide) ?_
    rintro v _ ⟨rfl, rfl⟩
    obtain ⟨mid, hmid⟩ : ∃ z, z = own_mx t3 t5 := ⟨_, rfl⟩
    rw [← hmid]
    show Go l Z n0 _ _ κ 0 0 [] 42 #[.val (.long p0), .second, .val (.long p1), .second, .val (.long p2), .second, .val (.long p3), .second, .val (.int p4), .val (.long hi), .second, .val (.long lo), .second, .unset, .unset, .unset, .unset, .unset, .unset, .unset, .unset, .unset, .unset, .unset] [.long mid]
    refine s_lstore K at_42 (pc' := 44) rfl (Ls' := #[.val (.long p0), .second, .val (.long p1), .second, .val (.long p2), .second, .val (.long p3), .second, .val (.int p4), .val (.long hi), .second, .val (.long lo), .second, .val (.long mid), .second, .unset, .unset, .unset, .unset, .unset, .unset, .unset, .unset, .unset]) rfl ?_
    refine s_iload K at_44 (pc' := 46) rfl rfl ?_
    refine s_iconst K at_46 (pc' := 47) rfl (z := (3 : Int32)) rfl ?_
    refine s_iand K at_47 (pc' := 48) rfl (z := nI) hnI ?_
    refine s_istore K at_48 (pc' := 50) rfl (Ls' := #[.val (.long p0), .second, .val (.long p1), .second, .val (.long p2), .second, .val (.long p3), .second, .val (.int p4), .val (.long hi), .second, .val (.long lo), .second, .val (.long mid), .second, .val (.int nI), .unset, .unset, .unset, .unset, .unset, .unset, .unset, .unset]) rfl ?_
    refine s_iload K at_50 (pc' := 52) rfl rfl ?_
    refine s_iconst K at_52 (pc' := 53) rfl (z := (2 : Int32)) rfl ?_
    refine s_iushr K at_53 (pc' := 54) rfl (z := XT.ushr p4 (2 : Int32)) rfl ?_
    refine s_iconst K at_54 (pc' := 55) rfl (z := (1 : Int32)) rfl ?_
    refine s_iand K at_55 (pc' := 56) rfl (z := (0 : Int32)) hq ?_
    refine s_ifY K at_56 rfl (by decide) (pc' := 63) (by decide) ?_
    refine s_iconst K at_63 (pc' := 64) rfl (z := (0 : Int32)) rfl ?_
    refine s_istore K at_64 (pc' := 66) rfl (Ls' := #[.val (.long p0), .second, .val (.long p1), .second, .val (.long p2), .second, .val (.long p3), .second, .val (.int p4), .val (.long hi), .second, .val (.long lo), .second, .val (.long mid), .second, .val (.int nI), .val (.int 0), .unset, .unset, .unset, .unset, .unset, .unset, .unset]) rfl ?_
    refine s_iload K at_66 (pc' := 68) rfl rfl ?_
    refine s_iconst K at_68 (pc' := 69) rfl (z := (3 : Int32)) rfl ?_
    refine s_iushr K at_69 (pc' := 70) rfl (z := XT.ushr p4 (3 : Int32)) rfl ?_
    refine s_iconst K at_70 (pc' := 71) rfl (z := (1 : Int32)) rfl ?_
    refine s_iand K at_71 (pc' := 72) rfl (z := (0 : Int32)) hf ?_
    refine s_ifY K at_72 rfl (by decide) (pc' := 79) (by decide) ?_
    refine s_iconst K at_79 (pc' := 80) rfl (z := (0 : Int32)) rfl ?_
    refine s_istore K at_80 (pc' := 82) rfl (Ls' := #[.val (.long p0), .second, .val (.long p1), .second, .val (.long p2), .second, .val (.long p3), .second, .val (.int p4), .val (.long hi), .second, .val (.long lo), .second, .val (.long mid), .second, .val (.int nI), .val (.int 0), .val (.int 0), .unset, .unset, .unset, .unset, .unset, .unset]) rfl ?_
    obtain ⟨o1, o2⟩ := own_sorted ht1 hhi ht2 hlo ht3 ht4 ht5 hmid
    refine segA hw p0 p1 p2 p3 hi mid lo p4 nI (0 : Int32) (0 : Int32) κ K ?_
    intro b110 b107 b140 b131 b142 b141 b108 b133 b132 b101 b109 b111 b112 b139 b106 b135 b138 b134
    rcases hn4 with hn | hn | hn | hn
    · rw [hn]; exact segB_000 hw p0 p1 p2 p3 hi mid lo p4 b110 b107 b140 b131 b142 b141 b108 b133 b132 b101 b109 b111 b112 b139 b106 b135 b138 b134 o1 o2 κ K
    · rw [hn]; exact segB_010 hw p0 p1 p2 p3 hi mid lo p4 b110 b107 b140 b131 b142 b141 b108 b133 b132 b101 b109 b111 b112 b139 b106 b135 b138 b134 o1 o2 κ K
    · rw [hn]; exact segB_020 hw p0 p1 p2 p3 hi mid lo p4 b110 b107 b140 b131 b142 b141 b108 b133 b132 b101 b109 b111 b112 b139 b106 b135 b138 b134 o1 o2 κ K
    · rw [hn]; exact segB_030 hw p0 p1 p2 p3 hi mid lo p4 b110 b107 b140 b131 b142 b141 b108 b133 b132 b101 b109 b111 b112 b139 b106 b135 b138 b134 o1 o2 κ K
  · refine s_lloadN K at_0 (pc' := 1) rfl rfl ?_
    refine s_lloadN K at_1 (pc' := 2) rfl rfl ?_
    refine s_lload K at_2 (pc' := 4) rfl rfl ?_
    refine s_static K at_4 (pc' := 7) rfl (as := [.long p1, .long p2]) (c_mx hw [] p1 p2) (w0 hw) (w1 hw) (w2 hw) (w3 hw) (by decide) pd_10 rfl (rest := [.long p0]) rfl rfl (W := 2) (Nat.le_of_eq rfl) (by decide) (by decide) (ce' := 0) rfl (sl' := 0) rfl (by decide) (by decide) ?_
    rintro v _ ⟨rfl, rfl⟩
    obtain ⟨t1, ht1⟩ : ∃ z, z = own_mx p1 p2 := ⟨_, rfl⟩
    rw [← ht1]
    show Go l Z n0 _ _ κ 0 0 [] 7 #[.val (.long p0), .second, .val (.long p1), .second, .val (.long p2), .second, .val (.long p3), .second, .val (.int p4), .unset, .unset, .unset, .unset, .unset, .unset, .unset, .unset, .unset, .unset, .unset, .unset, .unset, .unset, .unset] [.long t1, .long p0]
    refine s_static K at_7 (pc' := 10) rfl (as := [.long p0, .long t1]) (c_mx hw [] p0 t1) (w0 hw) (w1 hw) (w2 hw) (w3 hw) (by decide) pd_10 rfl (rest := []) rfl rfl (W := 0) (Nat.le_of_eq rfl) (by decide) (by decide) (ce' := 0) rfl (sl' := 0) rfl (by decide) (by decide) ?_
    rintro v _ ⟨rfl, rfl⟩
    obtain ⟨hi, hhi⟩ : ∃ z, z = own_mx p0 t1 := ⟨_, rfl⟩
    rw [← hhi]
    show Go l Z n0 _ _ κ 0 0 [] 10 #[.val (.long p0), .second, .val (.long p1), .second, .val (.long p2), .second, .val (.long p3), .second, .val (.int p4), .unset, .unset, .unset, .unset, .unset, .unset, .unset, .unset, .unset, .unset, .unset, .unset, .unset, .unset, .unset] [.long hi]
    refine s_lstore K at_10 (pc' := 12) rfl (Ls' := #[.val (.long p0), .second, .val (.long p1), .second, .val (.long p2), .second, .val (.long p3), .second, .val (.int p4), .val (.long hi), .second, .unset, .unset, .unset, .unset, .unset, .unset, .unset, .unset, .unset, .unset, .unset, .unset, .unset]) rfl ?_
    refine s_lloadN K at_12 (pc' := 13) rfl rfl ?_
    refine s_lloadN K at_13 (pc' := 14) rfl rfl ?_
    refine s_lload K at_14 (pc' := 16) rfl rfl ?_
    refine s_static K at_16 (pc' := 19) rfl (as := [.long p1, .long p2]) (c_mn hw [] p1 p2) (w4 hw) (w5 hw) (w2 hw) (w6 hw) (by decide) pd_10 rfl (rest := [.long p0]) rfl rfl (W := 2) (Nat.le_of_eq rfl) (by decide) (by decide) (ce' := 0) rfl (sl' := 0) rfl (by decide) (by decide) ?_
    rintro v _ ⟨rfl, rfl⟩
    obtain ⟨t2, ht2⟩ : ∃ z, z = own_mn p1 p2 := ⟨_, rfl⟩
    rw [← ht2]
    show Go l Z n0 _ _ κ 0 0 [] 19 #[.val (.long p0), .second, .val (.long p1), .second, .val (.long p2), .second, .val (.long p3), .second, .val (.int p4), .val (.long hi), .second, .unset, .unset, .unset, .unset, .unset, .unset, .unset, .unset, .unset, .unset, .unset, .unset, .unset] [.long t2, .long p0]
    refine s_static K at_19 (pc' := 22) rfl (as := [.long p0, .long t2]) (c_mn hw [] p0 t2) (w4 hw) (w5 hw) (w2 hw) (w6 hw) (by decide) pd_10 rfl (rest := []) rfl rfl (W := 0) (Nat.le_of_eq rfl) (by decide) (by decide) (ce' := 0) rfl (sl' := 0) rfl (by decide) (by decide) ?_
    rintro v _ ⟨rfl, rfl⟩
    obtain ⟨lo, hlo⟩ : ∃ z, z = own_mn p0 t2 := ⟨_, rfl⟩
    rw [← hlo]
    show Go l Z n0 _ _ κ 0 0 [] 22 #[.val (.long p0), .second, .val (.long p1), .second, .val (.long p2), .second, .val (.long p3), .second, .val (.int p4), .val (.long hi), .second, .unset, .unset, .unset, .unset, .unset, .unset, .unset, .unset, .unset, .unset, .unset, .unset, .unset] [.long lo]
    refine s_lstore K at_22 (pc' := 24) rfl (Ls' := #[.val (.long p0), .second, .val (.long p1), .second, .val (.long p2), .second, .val (.long p3), .second, .val (.int p4), .val (.long hi), .second, .val (.long lo), .second, .unset, .unset, .unset, .unset, .unset, .unset, .unset, .unset, .unset, .unset, .unset]) rfl ?_
    refine s_lloadN K at_24 (pc' := 25) rfl rfl ?_
    refine s_lloadN K at_25 (pc' := 26) rfl rfl ?_
    refine s_static K at_26 (pc' := 29) rfl (as := [.long p0, .long p1]) (c_mn hw [] p0 p1) (w4 hw) (w5 hw) (w2 hw) (w6 hw) (by decide) pd_10 rfl (rest := []) rfl rfl (W := 0) (Nat.le_of_eq rfl) (by decide) (by decide) (ce' := 0) rfl (sl' := 0) rfl (by decide) (by decide) ?_
    rintro v _ ⟨rfl, rfl⟩
    obtain ⟨t3, ht3⟩ : ∃ z, z = own_mn p0 p1 := ⟨_, rfl⟩
    rw [← ht3]
    show Go l Z n0 _ _ κ 0 0 [] 29 #[.val (.long p0), .second, .val (.long p1), .second, .val (.long p2), .second, .val (.long p3), .second, .val (.int p4), .val (.long hi), .second, .val (.long lo), .second, .unset, .unset, .unset, .unset, .unset, .unset, .unset, .unset, .unset, .unset, .unset] [.long t3]
    refine s_lloadN K at_29 (pc' := 30) rfl rfl ?_
    refine s_lloadN K at_30 (pc' := 31) rfl rfl ?_
    refine s_static K at_31 (pc' := 34) rfl (as := [.long p0, .long p1]) (c_mx hw [] p0 p1) (w0 hw) (w1 hw) (w2 hw) (w3 hw) (by decide) pd_10 rfl (rest := [.long t3]) rfl rfl (W := 2) (Nat.le_of_eq rfl) (by decide) (by decide) (ce' := 0) rfl (sl' := 0) rfl (by decide) (by decide) ?_
    rintro v _ ⟨rfl, rfl⟩
    obtain ⟨t4, ht4⟩ : ∃ z, z = own_mx p0 p1 := ⟨_, rfl⟩
    rw [← ht4]
    show Go l Z n0 _ _ κ 0 0 [] 34 #[.val (.long p0), .second, .val (.long p1), .second, .val (.long p2), .second, .val (.long p3), .second, .val (.int p4), .val (.long hi), .second, .val (.long lo), .second, .unset, .unset, .unset, .unset, .unset, .unset, .unset, .unset, .unset, .unset, .unset] [.long t4, .long t3]
    refine s_lload K at_34 (pc' := 36) rfl rfl ?_
    refine s_static K at_36 (pc' := 39) rfl (as := [.long t4, .long p2]) (c_mn hw [] t4 p2) (w4 hw) (w5 hw) (w2 hw) (w6 hw) (by decide) pd_10 rfl (rest := [.long t3]) rfl rfl (W := 2) (Nat.le_of_eq rfl) (by decide) (by decide) (ce' := 0) rfl (sl' := 0) rfl (by decide) (by decide) ?_
    rintro v _ ⟨rfl, rfl⟩
    obtain ⟨t5, ht5⟩ : ∃ z, z = own_mn t4 p2 := ⟨_, rfl⟩
    rw [← ht5]
    show Go l Z n0 _ _ κ 0 0 [] 39 #[.val (.long p0), .second, .val (.long p1), .second, .val (.long p2), .second, .val (.long p3), .second, .val (.int p4), .val (.long hi), .second, .val (.long lo), .second, .unset, .unset, .unset, .unset, .unset, .unset, .unset, .unset, .unset, .unset, .unset] [.long t5, .long t3]
    refine s_static K at_39 (pc' := 42) rfl (as := [.long t3, .long t5]) (c_mx hw [] t3 t5) (w0 hw) (w1 hw) (w2 hw) (w3 hw) (by decide) pd_10 rfl (rest := []) rfl rfl (W := 0) (Nat.le_of_eq rfl) (by decide) (by decide) (ce' := 0) rfl (sl' := 0) rfl (by decide) (by decide) ?_
    rintro v _ ⟨rfl, rfl⟩
    obtain ⟨mid, hmid⟩ : ∃ z, z = own_mx t3 t5 := ⟨_, rfl⟩
    rw [← hmid]
    show Go l Z n0 _ _ κ 0 0 [] 42 #[.val (.long p0), .second, .val (.long p1), .second, .val (.long p2), .second, .val (.long p3), .second, .val (.int p4), .val (.long hi), .second, .val (.long lo), .second, .unset, .unset, .unset, .unset, .unset, .unset, .unset, .unset, .unset, .unset, .unset] [.long mid]
    refine s_lstore K at_42 (pc' := 44) rfl (Ls' := #[.val (.long p0), .second, .val (.long p1), .second, .val (.long p2), .second, .val (.long p3), .second, .val (.int p4), .val (.long hi), .second, .val (.long lo), .second, .val (.long mid), .second, .unset, .unset, .unset, .unset, .unset, .unset, .unset, .unset, .unset]) rfl ?_
    refine s_iload K at_44 (pc' := 46) rfl rfl ?_
    refine s_iconst K at_46 (pc' := 47) rfl (z := (3 : Int32)) rfl ?_
    refine s_iand K at_47 (pc' := 48) rfl (z := nI) hnI ?_
    refine s_istore K at_48 (pc' := 50) rfl (Ls' := #[.val (.long p0), .second, .val (.long p1), .second, .val (.long p2), .second, .val (.long p3), .second, .val (.int p4), .val (.long hi), .second, .val (.long lo), .second, .val (.long mid), .second, .val (.int nI), .unset, .unset, .unset, .unset, .unset, .unset, .unset, .unset]) rfl ?_
    refine s_iload K at_50 (pc' := 52) rfl rfl ?_
    refine s_iconst K at_52 (pc' := 53) rfl (z := (2 : Int32)) rfl ?_
    refine s_iushr K at_53 (pc' := 54) rfl (z := XT.ushr p4 (2 : Int32)) rfl ?_
    refine s_iconst K at_54 (pc' := 55) rfl (z := (1 : Int32)) rfl ?_
    refine s_iand K at_55 (pc' := 56) rfl (z := (0 : Int32)) hq ?_
    refine s_ifY K at_56 rfl (by decide) (pc' := 63) (by decide) ?_
    refine s_iconst K at_63 (pc' := 64) rfl (z := (0 : Int32)) rfl ?_
    refine s_istore K at_64 (pc' := 66) rfl (Ls' := #[.val (.long p0), .second, .val (.long p1), .second, .val (.long p2), .second, .val (.long p3), .second, .val (.int p4), .val (.long hi), .second, .val (.long lo), .second, .val (.long mid), .second, .val (.int nI), .val (.int 0), .unset, .unset, .unset, .unset, .unset, .unset, .unset]) rfl ?_
    refine s_iload K at_66 (pc' := 68) rfl rfl ?_
    refine s_iconst K at_68 (pc' := 69) rfl (z := (3 : Int32)) rfl ?_
    refine s_iushr K at_69 (pc' := 70) rfl (z := XT.ushr p4 (3 : Int32)) rfl ?_
    refine s_iconst K at_70 (pc' := 71) rfl (z := (1 : Int32)) rfl ?_
    refine s_iand K at_71 (pc' := 72) rfl (z := (1 : Int32)) hf ?_
    refine s_ifN K at_72 (pc' := 75) rfl rfl ?_
    refine s_iconst K at_75 (pc' := 76) rfl (z := (1 : Int32)) rfl ?_
    refine s_goto K at_76 (by decide) (pc' := 80) (by decide) ?_
    refine s_istore K at_80 (pc' := 82) rfl (Ls' := #[.val (.long p0), .second, .val (.long p1), .second, .val (.long p2), .second, .val (.long p3), .second, .val (.int p4), .val (.long hi), .second, .val (.long lo), .second, .val (.long mid), .second, .val (.int nI), .val (.int 0), .val (.int 1), .unset, .unset, .unset, .unset, .unset, .unset]) rfl ?_
    obtain ⟨o1, o2⟩ := own_sorted ht1 hhi ht2 hlo ht3 ht4 ht5 hmid
    refine segA hw p0 p1 p2 p3 hi mid lo p4 nI (0 : Int32) (1 : Int32) κ K ?_
    intro b110 b107 b140 b131 b142 b141 b108 b133 b132 b101 b109 b111 b112 b139 b106 b135 b138 b134
    rcases hn4 with hn | hn | hn | hn
    · rw [hn]; exact segB_100 hw p0 p1 p2 p3 hi mid lo p4 b110 b107 b140 b131 b142 b141 b108 b133 b132 b101 b109 b111 b112 b139 b106 b135 b138 b134 o1 o2 κ K
    · rw [hn]; exact segB_110 hw p0 p1 p2 p3 hi mid lo p4 b110 b107 b140 b131 b142 b141 b108 b133 b132 b101 b109 b111 b112 b139 b106 b135 b138 b134 o1 o2 κ K
    · rw [hn]; exact segB_120 hw p0 p1 p2 p3 hi mid lo p4 b110 b107 b140 b131 b142 b141 b108 b133 b132 b101 b109 b111 b112 b139 b106 b135 b138 b134 o1 o2 κ K
    · rw [hn]; exact segB_130 hw p0 p1 p2 p3 hi mid lo p4 b110 b107 b140 b131 b142 b141 b108 b133 b132 b101 b109 b111 b112 b139 b106 b135 b138 b134 o1 o2 κ K
  · refine s_lloadN K at_0 (pc' := 1) rfl rfl ?_
    refine s_lloadN K at_1 (pc' := 2) rfl rfl ?_
    refine s_lload K at_2 (pc' := 4) rfl rfl ?_
    refine s_static K at_4 (pc' := 7) rfl (as := [.long p1, .long p2]) (c_mx hw [] p1 p2) (w0 hw) (w1 hw) (w2 hw) (w3 hw) (by decide) pd_10 rfl (rest := [.long p0]) rfl rfl (W := 2) (Nat.le_of_eq rfl) (by decide) (by decide) (ce' := 0) rfl (sl' := 0) rfl (by decide) (by decide) ?_
    rintro v _ ⟨rfl, rfl⟩
    obtain ⟨t1, ht1⟩ : ∃ z, z = own_mx p1 p2 := ⟨_, rfl⟩
    rw [← ht1]
    show Go l Z n0 _ _ κ 0 0 [] 7 #[.val (.long p0), .second, .val (.long p1), .second, .val (.long p2), .second, .val (.long p3), .second, .val (.int p4), .unset, .unset, .unset, .unset, .unset, .unset, .unset, .unset, .unset, .unset, .unset, .unset, .unset, .unset, .unset] [.long t1, .long p0]
    refine s_static K at_7 (pc' := 10) rfl (as := [.long p0, .long t1]) (c_mx hw [] p0 t1) (w0 hw) (w1 hw) (w2 hw) (w3 hw) (by decide) pd_10 rfl (rest := []) rfl rfl (W := 0) (Nat.le_of_eq rfl) (by decide) (by decide) (ce' := 0) rfl (sl' := 0) rfl (by decide) (by decide) ?_
    rintro v _ ⟨rfl, rfl⟩
    obtain ⟨hi, hhi⟩ : ∃ z, z = own_mx p0 t1 := ⟨_, rfl⟩
    rw [← hhi]
    show Go l Z n0 _ _ κ 0 0 [] 10 #[.val (.long p0), .second, .val (.long p1), .second, .val (.long p2), .second, .val (.long p3), .second, .val (.int p4), .unset, .unset, .unset, .unset, .unset, .unset, .unset, .unset, .unset, .unset, .unset, .unset, .unset, .unset, .unset] [.long hi]
    refine s_lstore K at_10 (pc' := 12) rfl (Ls' := #[.val (.long p0), .second, .val (.long p1), .second, .val (.long p2), .second, .val (.long p3), .second, .val (.int p4), .val (.long hi), .second, .unset, .unset, .unset, .unset, .unset, .unset, .unset, .unset, .unset, .unset, .unset, .unset, .unset]) rfl ?_
    refine s_lloadN K at_12 (pc' := 13) rfl rfl ?_
    refine s_lloadN K at_13 (pc' := 14) rfl rfl ?_
    refine s_lload K at_14 (pc' := 16) rfl rfl ?_
    refine s_static K at_16 (pc' := 19) rfl (as := [.long p1, .long p2]) (c_mn hw [] p1 p2) (w4 hw) (w5 hw) (w2 hw) (w6 hw) (by decide) pd_10 rfl (rest := [.long p0]) rfl rfl (W := 2) (Nat.le_of_eq rfl) (by decide) (by decide) (ce' := 0) rfl (sl' := 0) rfl (by decide) (by decide) ?_
    rintro v _ ⟨rfl, rfl⟩
    obtain ⟨t2, ht2⟩ : ∃ z, z = own_mn p1 p2 := ⟨_, rfl⟩
    rw [← ht2]
    show Go l Z n0 _ _ κ 0 0 [] 19 #[.val (.long p0), .second, .val (.long p1), .second, .val (.long p2), .second, .val (.long p3), .second, .val (.int p4), .val (.long hi), .second, .unset, .unset, .unset, .unset, .unset, .unset, .unset, .unset, .unset, .unset, .unset, .unset, .unset] [.long t2, .long p0]
    refine s_static K at_19 (pc' := 22) rfl (as := [.long p0, .long t2]) (c_mn hw [] p0 t2) (w4 hw) (w5 hw) (w2 hw) (w6 hw) (by decide) pd_10 rfl (rest := []) rfl rfl (W := 0) (Nat.le_of_eq rfl) (by decide) (by decide) (ce' := 0) rfl (sl' := 0) rfl (by decide) (by decide) ?_
    rintro v _ ⟨rfl, rfl⟩
    obtain ⟨lo, hlo⟩ : ∃ z, z = own_mn p0 t2 := ⟨_, rfl⟩
    rw [← hlo]
    show Go l Z n0 _ _ κ 0 0 [] 22 #[.val (.long p0), .second, .val (.long p1), .second, .val (.long p2), .second, .val (.long p3), .second, .val (.int p4), .val (.long hi), .second, .unset, .unset, .unset, .unset, .unset, .unset, .unset, .unset, .unset, .unset, .unset, .unset, .unset] [.long lo]
    refine s_lstore K at_22 (pc' := 24) rfl (Ls' := #[.val (.long p0), .second, .val (.long p1), .second, .val (.long p2), .second, .val (.long p3), .second, .val (.int p4), .val (.long hi), .second, .val (.long lo), .second, .unset, .unset, .unset, .unset, .unset, .unset, .unset, .unset, .unset, .unset, .unset]) rfl ?_
    refine s_lloadN K at_24 (pc' := 25) rfl rfl ?_
    refine s_lloadN K at_25 (pc' := 26) rfl rfl ?_
    refine s_static K at_26 (pc' := 29) rfl (as := [.long p0, .long p1]) (c_mn hw [] p0 p1) (w4 hw) (w5 hw) (w2 hw) (w6 hw) (by decide) pd_10 rfl (rest := []) rfl rfl (W := 0) (Nat.le_of_eq rfl) (by decide) (by decide) (ce' := 0) rfl (sl' := 0) rfl (by decide) (by decide) ?_
    rintro v _ ⟨rfl, rfl⟩
    obtain ⟨t3, ht3⟩ : ∃ z, z = own_mn p0 p1 := ⟨_, rfl⟩
    rw [← ht3]
    show Go l Z n0 _ _ κ 0 0 [] 29 #[.val (.long p0), .second, .val (.long p1), .second, .val (.long p2), .second, .val (.long p3), .second, .val (.int p4), .val (.long hi), .second, .val (.long lo), .second, .unset, .unset, .unset, .unset, .unset, .unset, .unset, .unset, .unset, .unset, .unset] [.long t3]
    refine s_lloadN K at_29 (pc' := 30) rfl rfl ?_
    refine s_lloadN K at_30 (pc' := 31) rfl rfl ?_
    refine s_static K at_31 (pc' := 34) rfl (as := [.long p0, .long p1]) (c_mx hw [] p0 p1) (w0 hw) (w1 hw) (w2 hw) (w3 hw) (by decide) pd_10 rfl (rest := [.long t3]) rfl rfl (W := 2) (Nat.le_of_eq rfl) (by decide) (by decide) (ce' := 0) rfl (sl' := 0) rfl (by decide) (by decide) ?_
    rintro v _ ⟨rfl, rfl⟩
    obtain ⟨t4, ht4⟩ : ∃ z, z = own_mx p0 p1 := ⟨_, rfl⟩
    rw [← ht4]
    show Go l Z n0 _ _ κ 0 0 [] 34 #[.val (.long p0), .second, .val (.long p1), .second, .val (.long p2), .second, .val (.long p3), .second, .val (.int p4), .val (.long hi), .second, .val (.long lo), .second, .unset, .unset, .unset, .unset, .unset, .unset, .unset, .unset, .unset, .unset, .unset] [.long t4, .long t3]
    refine s_lload K at_34 (pc' := 36) rfl rfl ?_
    refine s_static K at_36 (pc' := 39) rfl (as := [.long t4, .long p2]) (c_mn hw [] t4 p2) (w4 hw) (w5 hw) (w2 hw) (w6 hw) (by decide) pd_10 rfl (rest := [.long t3]) rfl rfl (W := 2) (Nat.le_of_eq rfl) (by decide) (by decide) (ce' := 0) rfl (sl' := 0) rfl (by decide) (by decide) ?_
    rintro v _ ⟨rfl, rfl⟩
    obtain ⟨t5, ht5⟩ : ∃ z, z = own_mn t4 p2 := ⟨_, rfl⟩
    rw [← ht5]
    show Go l Z n0 _ _ κ 0 0 [] 39 #[.val (.long p0), .second, .val (.long p1), .second, .val (.long p2), .second, .val (.long p3), .second, .val (.int p4), .val (.long hi), .second, .val (.long lo), .second, .unset, .unset, .unset, .unset, .unset, .unset, .unset, .unset, .unset, .unset, .unset] [.long t5, .long t3]
    refine s_static K at_39 (pc' := 42) rfl (as := [.long t3, .long t5]) (c_mx hw [] t3 t5) (w0 hw) (w1 hw) (w2 hw) (w3 hw) (by decide) pd_10 rfl (rest := []) rfl rfl (W := 0) (Nat.le_of_eq rfl) (by decide) (by decide) (ce' := 0) rfl (sl' := 0) rfl (by decide) (by decide) ?_
    rintro v _ ⟨rfl, rfl⟩
    obtain ⟨mid, hmid⟩ : ∃ z, z = own_mx t3 t5 := ⟨_, rfl⟩
    rw [← hmid]
    show Go l Z n0 _ _ κ 0 0 [] 42 #[.val (.long p0), .second, .val (.long p1), .second, .val (.long p2), .second, .val (.long p3), .second, .val (.int p4), .val (.long hi), .second, .val (.long lo), .second, .unset, .unset, .unset, .unset, .unset, .unset, .unset, .unset, .unset, .unset, .unset] [.long mid]
    refine s_lstore K at_42 (pc' := 44) rfl (Ls' := #[.val (.long p0), .second, .val (.long p1), .second, .val (.long p2), .second, .val (.long p3), .second, .val (.int p4), .val (.long hi), .second, .val (.long lo), .second, .val (.long mid), .second, .unset, .unset, .unset, .unset, .unset, .unset, .unset, .unset, .unset]) rfl ?_
    refine s_iload K at_44 (pc' := 46) rfl rfl ?_
    refine s_iconst K at_46 (pc' := 47) rfl (z := (3 : Int32)) rfl ?_
    refine s_iand K at_47 (pc' := 48) rfl (z := nI) hnI ?_
    refine s_istore K at_48 (pc' := 50) rfl (Ls' := #[.val (.long p0), .second, .val (.long p1), .second, .val (.long p2), .second, .val (.long p3), .second, .val (.int p4), .val (.long hi), .second, .val (.long lo), .second, .val (.long mid), .second, .val (.int nI), .unset, .unset, .unset, .unset, .unset, .unset, .unset, .unset]) rfl ?_
    refine s_iload K at_50 (pc' := 52) rfl rfl ?_
    refine s_iconst K at_52 (pc' := 53) rfl (z := (2 : Int32)) rfl ?_
    refine s_iushr K at_53 (pc' := 54) rfl (z := XT.ushr p4 (2 : Int32)) rfl ?_
    refine s_iconst K at_54 (pc' := 55) rfl (z := (1 : Int32)) rfl ?_
    refine s_iand K at_55 (pc' := 56) rfl (z := (1 : Int32)) hq ?_
    refine s_ifN K at_56 (pc' := 59) rfl rfl ?_
    refine s_iconst K at_59 (pc' := 60) rfl (z := (1 : Int32)) rfl ?_
    refine s_goto K at_60 (by decide) (pc' := 64) (by decide) ?_
    refine s_istore K at_64 (pc' := 66) rfl (Ls' := #[.val (.long p0), .second, .val (.long p1), .second, .val (.long p2), .second, .val (.long p3), .second, .val (.int p4), .val (.long hi), .second, .val (.long lo), .second, .val (.long mid), .second, .val (.int nI), .val (.int 1), .unset, .unset, .unset, .unset, .unset, .unset, .unset]) rfl ?_
    refine s_iload K at_66 (pc' := 68) rfl rfl ?_
    refine s_iconst K at_68 (pc' := 69) rfl (z := (3 : Int32)) rfl ?_
    refine s_iushr K at_69 (pc' := 70) rfl (z := XT.ushr p4 (3 : Int32)) rfl ?_
    refine s_iconst K at_70 (pc' := 71) rfl (z := (1 : Int32)) rfl ?_
    refine s_iand K at_71 (pc' := 72) rfl (z := (0 : Int32)) hf ?_
    refine s_ifY K at_72 rfl (by decide) (pc' := 79) (by decide) ?_
    refine s_iconst K at_79 (pc' := 80) rfl (z := (0 : Int32)) rfl ?_
    refine s_istore K at_80 (pc' := 82) rfl (Ls' := #[.val (.long p0), .second, .val (.long p1), .second, .val (.long p2), .second, .val (.long p3), .second, .val (.int p4), .val (.long hi), .second, .val (.long lo), .second, .val (.long mid), .second, .val (.int nI), .val (.int 1), .val (.int 0), .unset, .unset, .unset, .unset, .unset, .unset]) rfl ?_
    obtain ⟨o1, o2⟩ := own_sorted ht1 hhi ht2 hlo ht3 ht4 ht5 hmid
    refine segA hw p0 p1 p2 p3 hi mid lo p4 nI (1 : Int32) (0 : Int32) κ K ?_
    intro b110 b107 b140 b131 b142 b141 b108 b133 b132 b101 b109 b111 b112 b139 b106 b135 b138 b134
    rcases hn4 with hn | hn | hn | hn
    · rw [hn]; exact segB_001 hw p0 p1 p2 p3 hi mid lo p4 b110 b107 b140 b131 b142 b141 b108 b133 b132 b101 b109 b111 b112 b139 b106 b135 b138 b134 o1 o2 κ K
    · rw [hn]; exact segB_011 hw p0 p1 p2 p3 hi mid lo p4 b110 b107 b140 b131 b142 b141 b108 b133 b132 b101 b109 b111 b112 b139 b106 b135 b138 b134 o1 o2 κ K
    · rw [hn]; exact segB_021 hw p0 p1 p2 p3 hi mid lo p4 b110 b107 b140 b131 b142 b141 b108 b133 b132 b101 b109 b111 b112 b139 b106 b135 b138 b134 o1 o2 κ K
    · rw [hn]; exact segB_031 hw p0 p1 p2 p3 hi mid lo p4 b110 b107 b140 b131 b142 b141 b108 b133 b132 b101 b109 b111 b112 b139 b106 b135 b138 b134 o1 o2 κ K
  · refine s_lloadN K at_0 (pc' := 1) rfl rfl ?_
    refine s_lloadN K at_1 (pc' := 2) rfl rfl ?_
    refine s_lload K at_2 (pc' := 4) rfl rfl ?_
    refine s_static K at_4 (pc' := 7) rfl (as := [.long p1, .long p2]) (c_mx hw [] p1 p2) (w0 hw) (w1 hw) (w2 hw) (w3 hw) (by decide) pd_10 rfl (rest := [.long p0]) rfl rfl (W := 2) (Nat.le_of_eq rfl) (by decide) (by decide) (ce' := 0) rfl (sl' := 0) rfl (by decide) (by decide) ?_
    rintro v _ ⟨rfl, rfl⟩
    obtain ⟨t1, ht1⟩ : ∃ z, z = own_mx p1 p2 := ⟨_, rfl⟩
    rw [← ht1]
    show Go l Z n0 _ _ κ 0 0 [] 7 #[.val (.long p0), .second, .val (.long p1), .second, .val (.long p2), .second, .val (.long p3), .second, .val (.int p4), .unset, .unset, .unset, .unset, .unset, .unset, .unset, .unset, .unset, .unset, .unset, .unset, .unset, .unset, .unset] [.long t1, .long p0]
    refine s_static K at_7 (pc' := 10) rfl (as := [.long p0, .long t1]) (c_mx hw [] p0 t1) (w0 hw) (w1 hw) (w2 hw) (w3 hw) (by decide) pd_10 rfl (rest := []) rfl rfl (W := 0) (Nat.le_of_eq rfl) (by decide) (by decide) (ce' := 0) rfl (sl' := 0) rfl (by decide) (by decide) ?_
    rintro v _ ⟨rfl, rfl⟩
    obtain ⟨hi, hhi⟩ : ∃ z, z = own_mx p0 t1 := ⟨_, rfl⟩
    rw [← hhi]
    show Go l Z n0 _ _ κ 0 0 [] 10 #[.val (.long p0), .second, .val (.long p1), .second, .val (.long p2), .second, .val (.long p3), .second, .val (.int p4), .unset, .unset, .unset, .unset, .unset, .unset, .unset, .unset, .unset, .unset, .unset, .unset, .unset, .unset, .unset] [.long hi]
    refine s_lstore K at_10 (pc' := 12) rfl (Ls' := #[.val (.long p0), .second, .val (.long p1), .second, .val (.long p2), .second, .val (.long p3), .second, .val (.int p4), .val (.long hi), .second, .unset, .unset, .unset, .unset, .unset, .unset, .unset, .unset, .unset, .unset, .unset, .unset, .unset]) rfl ?_
    refine s_lloadN K at_12 (pc' := 13) rfl rfl ?_
    refine s_lloadN K at_13 (pc' := 14) rfl rfl ?_
    refine s_lload K at_14 (pc' := 16) rfl rfl ?_
    refine s_static K at_16 (pc' := 19) rfl (as := [.long p1, .long p2]) (c_mn hw [] p1 p2) (w4 hw) (w5 hw) (w2 hw) (w6 hw) (by decide) pd_10 rfl (rest := [.long p0]) rfl rfl (W := 2) (Nat.le_of_eq rfl) (by decide) (by decide) (ce' := 0) rfl (sl' := 0) rfl (by decide) (by decide) ?_
    rintro v _ ⟨rfl, rfl⟩
    obtain ⟨t2, ht2⟩ : ∃ z, z = own_mn p1 p2 := ⟨_, rfl⟩
    rw [← ht2]
    show Go l Z n0 _ _ κ 0 0 [] 19 #[.val (.long p0), .second, .val (.long p1), .second, .val (.long p2), .second, .val (.long p3), .second, .val (.int p4), .val (.long hi), .second, .unset, .unset, .unset, .unset, .unset, .unset, .unset, .unset, .unset, .unset, .unset, .unset, .unset] [.long t2, .long p0]
    refine s_static K at_19 (pc' := 22) rfl (as := [.long p0, .long t2]) (c_mn hw [] p0 t2) (w4 hw) (w5 hw) (w2 hw) (w6 hw) (by decide) pd_10 rfl (rest := []) rfl rfl (W := 0) (Nat.le_of_eq rfl) (by decide) (by decide) (ce' := 0) rfl (sl' := 0) rfl (by decide) (by decide) ?_
    rintro v _ ⟨rfl, rfl⟩
    obtain ⟨lo, hlo⟩ : ∃ z, z = own_mn p0 t2 := ⟨_, rfl⟩
    rw [← hlo]
    show Go l Z n0 _ _ κ 0 0 [] 22 #[.val (.long p0), .second, .val (.long p1), .second, .val (.long p2), .second, .val (.long p3), .second, .val (.int p4), .val (.long hi), .second, .unset, .unset, .unset, .unset, .unset, .unset, .unset, .unset, .unset, .unset, .unset, .unset, .unset] [.long lo]
    refine s_lstore K at_22 (pc' := 24) rfl (Ls' := #[.val (.long p0), .second, .val (.long p1), .second, .val (.long p2), .second, .val (.long p3), .second, .val (.int p4), .val (.long hi), .second, .val (.long lo), .second, .unset, .unset, .unset, .unset, .unset, .unset, .unset, .unset, .unset, .unset, .unset]) rfl ?_
    refine s_lloadN K at_24 (pc' := 25) rfl rfl ?_
    refine s_lloadN K at_25 (pc' := 26) rfl rfl ?_
    refine s_static K at_26 (pc' := 29) rfl (as := [.long p0, .long p1]) (c_mn hw [] p0 p1) (w4 hw) (w5 hw) (w2 hw) (w6 hw) (by decide) pd_10 rfl (rest := []) rfl rfl (W := 0) (Nat.le_of_eq rfl) (by decide) (by decide) (ce' := 0) rfl (sl' := 0) rfl (by decide) (by decide) ?_
    rintro v _ ⟨rfl, rfl⟩
    obtain ⟨t3, ht3⟩ : ∃ z, z = own_mn p0 p1 := ⟨_, rfl⟩
    rw [← ht3]
    show Go l Z n0 _ _ κ 0 0 [] 29 #[.val (.long p0), .second, .val (.long p1), .second, .val (.long p2), .second, .val (.long p3), .second, .val (.int p4), .val (.long hi), .second, .val (.long lo), .second, .unset, .unset, .unset, .unset, .unset, .unset, .unset, .unset, .unset, .unset, .unset] [.long t3]
    refine s_lloadN K at_29 (pc' := 30) rfl rfl ?_
    refine s_lloadN K at_30 (pc' := 31) rfl rfl ?_
    refine s_static K at_31 (pc' := 34) rfl (as := [.long p0, .long p1]) (c_mx hw [] p0 p1) (w0 hw) (w1 hw) (w2 hw) (w3 hw) (by decide) pd_10 rfl (rest := [.long t3]) rfl rfl (W := 2) (Nat.le_of_eq rfl) (by decide) (by decide) (ce' := 0) rfl (sl' := 0) rfl (by decide) (by decide) ?_
    rintro v _ ⟨rfl, rfl⟩
    obtain ⟨t4, ht4⟩ : ∃ z, z = own_mx p0 p1 := ⟨_, rfl⟩
    rw [← ht4]
    show Go l Z n0 _ _ κ 0 0 [] 34 #[.val (.long p0), .second, .val (.long p1), .second, .val (.long p2), .second, .val (.long p3), .second, .val (.int p4), .val (.long hi), .second, .val (.long lo), .second, .unset, .unset, .unset, .unset, .unset, .unset, .unset, .unset, .unset, .unset, .unset] [.long t4, .long t3]
    refine s_lload K at_34 (pc' := 36) rfl rfl ?_
    refine s_static K at_36 (pc' := 39) rfl (as := [.long t4, .long p2]) (c_mn hw [] t4 p2) (w4 hw) (w5 hw) (w2 hw) (w6 hw) (by decide) pd_10 rfl (rest := [.long t3]) rfl rfl (W := 2) (Nat.le_of_eq rfl) (by decide) (by decide) (ce' := 0) rfl (sl' := 0) rfl (by decide) (by decide) ?_
    rintro v _ ⟨rfl, rfl⟩
    obtain ⟨t5, ht5⟩ : ∃ z, z = own_mn t4 p2 := ⟨_, rfl⟩
    rw [← ht5]
    show Go l Z n0 _ _ κ 0 0 [] 39 #[.val (.long p0), .second, .val (.long p1), .second, .val (.long p2), .second, .val (.long p3), .second, .val (.int p4), .val (.long hi), .second, .val (.long lo), .second, .unset, .unset, .unset, .unset, .unset, .unset, .unset, .unset, .unset, .unset, .unset] [.long t5, .long t3]
    refine s_static K at_39 (pc' := 42) rfl (as := [.long t3, .long t5]) (c_mx hw [] t3 t5) (w0 hw) (w1 hw) (w2 hw) (w3 hw) (by decide) pd_10 rfl (rest := []) rfl rfl (W := 0) (Nat.le_of_eq rfl) (by decide) (by decide) (ce' := 0) rfl (sl' := 0) rfl (by decide) (by decide) ?_
    rintro v _ ⟨rfl, rfl⟩
    obtain ⟨mid, hmid⟩ : ∃ z, z = own_mx t3 t5 := ⟨_, rfl⟩
    rw [← hmid]
    show Go l Z n0 _ _ κ 0 0 [] 42 #[.val (.long p0), .second, .val (.long p1), .second, .val (.long p2), .second, .val (.long p3), .second, .val (.int p4), .val (.long hi), .second, .val (.long lo), .second, .unset, .unset, .unset, .unset, .unset, .unset, .unset, .unset, .unset, .unset, .unset] [.long mid]
    refine s_lstore K at_42 (pc' := 44) rfl (Ls' := #[.val (.long p0), .second, .val (.long p1), .second, .val (.long p2), .second, .val (.long p3), .second, .val (.int p4), .val (.long hi), .second, .val (.long lo), .second, .val (.long mid), .second, .unset, .unset, .unset, .unset, .unset, .unset, .unset, .unset, .unset]) rfl ?_
    refine s_iload K at_44 (pc' := 46) rfl rfl ?_
    refine s_iconst K at_46 (pc' := 47) rfl (z := (3 : Int32)) rfl ?_
    refine s_iand K at_47 (pc' := 48) rfl (z := nI) hnI ?_
    refine s_istore K at_48 (pc' := 50) rfl (Ls' := #[.val (.long p0), .second, .val (.long p1), .second, .val (.long p2), .second, .val (.long p3), .second, .val (.int p4), .val (.long hi), .second, .val (.long lo), .second, .val (.long mid), .second, .val (.int nI), .unset, .unset, .unset, .unset, .unset, .unset, .unset, .unset]) rfl ?_
    refine s_iload K at_50 (pc' := 52) rfl rfl ?_
    refine s_iconst K at_52 (pc' := 53) rfl (z := (2 : Int32)) rfl ?_
    refine s_iushr K at_53 (pc' := 54) rfl (z := XT.ushr p4 (2 : Int32)) rfl ?_
    refine s_iconst K at_54 (pc' := 55) rfl (z := (1 : Int32)) rfl ?_
    refine s_iand K at_55 (pc' := 56) rfl (z := (1 : Int32)) hq ?_
    refine s_ifN K at_56 (pc' := 59) rfl rfl ?_
    refine s_iconst K at_59 (pc' := 60) rfl (z := (1 : Int32)) rfl ?_
    refine s_goto K at_60 (by decide) (pc' := 64) (by decide) ?_
    refine s_istore K at_64 (pc' := 66) rfl (Ls' := #[.val (.long p0), .second, .val (.long p1), .second, .val (.long p2), .second, .val (.long p3), .second, .val (.int p4), .val (.long hi), .second, .val (.long lo), .second, .val (.long mid), .second, .val (.int nI), .val (.int 1), .unset, .unset, .unset, .unset, .unset, .unset, .unset]) rfl ?_
    refine s_iload K at_66 (pc' := 68) rfl rfl ?_
    refine s_iconst K at_68 (pc' := 69) rfl (z := (3 : Int32)) rfl ?_
    refine s_iushr K at_69 (pc' := 70) rfl (z := XT.ushr p4 (3 : Int32)) rfl ?_
    refine s_iconst K at_70 (pc' := 71) rfl (z := (1 : Int32)) rfl ?_
    refine s_iand K at_71 (pc' := 72) rfl (z := (1 : Int32)) hf ?_
    refine s_ifN K at_72 (pc' := 75) rfl rfl ?_
    refine s_iconst K at_75 (pc' := 76) rfl (z := (1 : Int32)) rfl ?_
    refine s_goto K at_76 (by decide) (pc' := 80) (by decide) ?_
    refine s_istore K at_80 (pc' := 82) rfl (Ls' := #[.val (.long p0), .second, .val (.long p1), .second, .val (.long p2), .second, .val (.long p3), .second, .val (.int p4), .val (.long hi), .second, .val (.long lo), .second, .val (.long mid), .second, .val (.int nI), .val (.int 1), .val (.int 1), .unset, .unset, .unset, .unset, .unset, .unset]) rfl ?_
    obtain ⟨o1, o2⟩ := own_sorted ht1 hhi ht2 hlo ht3 ht4 ht5 hmid
    refine segA hw p0 p1 p2 p3 hi mid lo p4 nI (1 : Int32) (1 : Int32) κ K ?_
    intro b110 b107 b140 b131 b142 b141 b108 b133 b132 b101 b109 b111 b112 b139 b106 b135 b138 b134
    rcases hn4 with hn | hn | hn | hn
    · rw [hn]; exact segB_101 hw p0 p1 p2 p3 hi mid lo p4 b110 b107 b140 b131 b142 b141 b108 b133 b132 b101 b109 b111 b112 b139 b106 b135 b138 b134 o1 o2 κ K
    · rw [hn]; exact segB_111 hw p0 p1 p2 p3 hi mid lo p4 b110 b107 b140 b131 b142 b141 b108 b133 b132 b101 b109 b111 b112 b139 b106 b135 b138 b134 o1 o2 κ K
    · rw [hn]; exact segB_121 hw p0 p1 p2 p3 hi mid lo p4 b110 b107 b140 b131 b142 b141 b108 b133 b132 b101 b109 b111 b112 b139 b106 b135 b138 b134 o1 o2 κ K
    · rw [hn]; exact segB_131 hw p0 p1 p2 p3 hi mid lo p4 b110 b107 b140 b131 b142 b141 b108 b133 b132 b101 b109 b111 b112 b139 b106 b135 b138 b134 o1 o2 κ K
set_option maxRecDepth 65536 in
set_option maxHeartbeats 400000000 in
theorem ef_law (m : MethodId) (p0 : Int64) (p1 : Int64) (p2 : Int64) (p3 : Int64) (p4 : Int32) : entryFrame m [.long p0, .long p1, .long p2, .long p3, .int p4].toArray maxLocals = mkF m 0 #[.val (.long p0), .second, .val (.long p1), .second, .val (.long p2), .second, .val (.long p3), .second, .val (.int p4), .unset, .unset, .unset, .unset, .unset, .unset, .unset, .unset, .unset, .unset, .unset, .unset, .unset, .unset, .unset] [] := by
  have e : argsToLocals [.long p0, .long p1, .long p2, .long p3, .int p4].toArray maxLocals = #[.val (.long p0), .second, .val (.long p1), .second, .val (.long p2), .second, .val (.long p3), .second, .val (.int p4)] ++ Array.replicate 15 .unset := by simp [argsToLocals, Value.category, maxLocals]
  have e2 : #[.val (.long p0), .second, .val (.long p1), .second, .val (.long p2), .second, .val (.long p3), .second, .val (.int p4)] ++ Array.replicate 15 Slot.unset = #[.val (.long p0), .second, .val (.long p1), .second, .val (.long p2), .second, .val (.long p3), .second, .val (.int p4), .unset, .unset, .unset, .unset, .unset, .unset, .unset, .unset, .unset, .unset, .unset, .unset, .unset, .unset, .unset] := Array.ext' (by rw [Array.toList_append, Array.toList_replicate]; rfl)
  exact congrArg (fun a => ({ method := m, pc := 0, locals := a, stack := [], locked := none } : JFrame)) (e.trans e2)
set_option maxRecDepth 65536 in
set_option maxHeartbeats 40000000 in
theorem comes_1 {Post : Tables → Env → Array Value → State → Outcome → State → Prop} (hpost : ∀ tb e args s v u, (limb_1_1.after args s (.returned v) u = true ∧ limb_1_2.after args s (.returned v) u = true ∧ True) → FrameEnd s (.returned v) u (Jvm.fieldLocs frame_1_writes args s ++ Jvm.arrayLocs frame_1_arrays args s ++ Jvm.staticLocs frame_1_statics s) 56 256 → Post tb e args s (.returned v) u) :
    ArmFor flags0 classFile x code maxLocals ret World_1 tables_1 room_1 Calls_1 rest_1 Pre_1 Post := by
  intro l hfl _ _ p e ha hc hk s m args below hf hA hF happ hP
  obtain ⟨hcalls, hrest, hpre⟩ := hP
  obtain ⟨-, -, -, hnamed, -, -, -, hat⟩ := (Spec.applies_iff hf).mp happ
  obtain ⟨hg, hn⟩ := and_e (Cond.before_iff.mp (show (Jvm.Cond.and given_1 narrow_1).before args s = true from hpre))
  obtain ⟨g0, r0⟩ := and_e hg
  obtain ⟨g1, r1⟩ := and_e r0
  obtain ⟨g2, r2⟩ := and_e r1
  obtain ⟨g3, r3⟩ := and_e r2
  obtain ⟨g4, r4⟩ := and_e r3
  obtain ⟨v0, v1, v2, v3, v4, rfl⟩ : ∃ v0 v1 v2 v3 v4 : Value, args = #[v0, v1, v2, v3, v4] := by
    have hs : args.size = 5 := by simpa [Cond.value, given_1] using g0
    obtain ⟨L⟩ := args
    match L, hs with
    | [v0, v1, v2, v3, v4], _ => exact ⟨v0, v1, v2, v3, v4, rfl⟩
  obtain ⟨i0, e0⟩ := isL_v g1
  obtain rfl : v0 = .long i0 := Option.some.inj e0
  obtain ⟨i1, e1⟩ := isL_v g2
  obtain rfl : v1 = .long i1 := Option.some.inj e1
  obtain ⟨i2, e2⟩ := isL_v g3
  obtain rfl : v2 = .long i2 := Option.some.inj e2
  obtain ⟨i3, e3⟩ := isL_v g4
  obtain rfl : v3 = .long i3 := Option.some.inj e3
  obtain ⟨i4, e4⟩ := is_v r4
  obtain rfl : v4 = .int i4 := Option.some.inj e4
  have hw := fun d (hd : d ∈ tables_1) => atoms_spec (ws := Jvm.Cond.code x code maxLocals ret :: tables_1) hat d (List.mem_cons_of_mem _ hd)
  have W0 : Wo s s.heap.size s.heap [] := ⟨Old.start s, fun i x q => by simp at q, fun i j x y q => by simp at q⟩
  have M := enter (l := l) (ws := tables_1) (rm := room_1) (y := x) (bytes := code) (maxL := maxLocals) (ret := ret) (Q := fun v _ => v = some (.int 1)) (as := [.long i0, .long i1, .long i2, .long i3, .int i4]) W0 (by decide +kernel) (fun m => ef_law m i0 i1 i2 i3 i4) (fun κ K => go_law hw i0 i1 i2 i3 i4  κ K)
  obtain ⟨n, o, h1, h2, h3, _, Lc, rfl, ⟨N, L', rfl, -⟩, hq⟩ := M p e ha hc hk s m _ below hf ((Spec.applies_iff_loose hf).mp happ).1 ⟨rfl, State.Warmed39.refl s, rfl⟩ trivial
  refine ⟨n, _, h1, h2, h3, hpost _ _ _ _ _ _ ⟨Cond.after_iff.mpr rfl, Cond.after_iff.mpr (eq_i res_at (Term.int_eval (1)) rfl), trivial⟩ ⟨hq.1, hq.2.1, (hq.2.2.sift fun y hy => Or.inr (N y hy)).mono (by decide) (by decide)⟩⟩
theorem main_1_1 : Claimed_1_1 := comes_1 fun _ _ _ _ _ _ h hF => ⟨h.1, hF⟩
theorem main_1_2 : Claimed_1_2 := comes_1 fun _ _ _ _ _ _ h hF => ⟨h.2.1, hF⟩
end Jvm.Pilot.@@N@@
namespace Jvm.Pilot.@@N@@
open Jvm Jvm.ClassFile Sem Op Lib Jvm.Free Jvm.Stand Jvm.Pilot.@@N@@.Jvm.D
/-! MADE BY PROGRAM (witnessworld.py) out of the Statement's table words and the real class files: 15 classes; the members and pool entries that the words name. The judged class is class 1, her method 1. -/
namespace start1
open Jvm.ClassFile
def u (s : String) : CpInfo := .utf8 (stringToUtf16 s)
/-- a pool by its gaps: so many unusable entries, then the entry; so many at the end -/
def gap : Nat → List CpInfo → List CpInfo
  | 0, r => r
  | n + 1, r => .unusable :: gap n r
def poolList (es : List (Nat × CpInfo)) (last : Nat) : List CpInfo := es.foldr (fun e r => gap e.1 (e.2 :: r)) (gap last [])
def pool (es : List (Nat × CpInfo)) (last : Nat) : Array CpInfo := ⟨poolList es last⟩
def fileOf (pool : Array CpInfo) (this : Nat) (attrs : Array Attribute := #[]) (ms : Array MethodInfo := #[]) (fl : Nat := 33) (sup : Nat := 0) (ifs : Array Nat := #[]) (fds : Array FieldInfo := #[]) : ClassFile where
  minorVersion := 0
  majorVersion := 65
  constantPool := pool
  accessFlags := fl
  thisClass := this
  superClass := sup
  interfaces := ifs
  fields := fds
  methods := ms
  attributes := attrs
def plain (name : String) (sup : Option ClassId) : Class where
  name := name
  kind := .ordinary
  loader := none
  accessFlags := 33
  super := sup
  interfaces := #[]
  cf := none
  fields := #[]
  methods := #[]
  instanceTypes := #[]
  staticTypes := #[]
  resolved := #[]
  callSites := []
  init := .initialized
  statics := none
  mirror := none

def pool0 : Array CpInfo := pool [(5, u "<init>"), (0, u "()V"), (1, .class_ 10), (1, u "java/lang/Object"), (85, u "clone"), (0, u "()Ljava/lang/Object;")] 26

def k0c0 : Code := { maxStack := 0, maxLocals := 1, code := object_method_1_code, exceptionTable := #[], attributes := #[] }
def k0m0 : Method := { name := "<init>", desc := "()V", sig := { parameters := [], returnType := none }, accessFlags := 1, code := some k0c0 }
def k0m1 : Method := { name := "clone", desc := "()Ljava/lang/Object;", sig := { parameters := [], returnType := some (.object "java/lang/Object") }, accessFlags := 260, code := none }
/-- java/lang/Object -/
def k0 : Class := { plain "java/lang/Object" none with
  accessFlags := 33
  interfaces := #[]
  cf := some (fileOf pool0 8 #[] #[{ accessFlags := 1, nameIndex := 5, descriptorIndex := 6, attributes := #[] }, { accessFlags := 260, nameIndex := 96, descriptorIndex := 97, attributes := #[] }] 33 0 #[] #[])
  fields := #[]
  methods := #[k0m0, k0m1]
  instanceTypes := #[]
  staticTypes := #[]
  resolved := Array.replicate 124 none
  statics := none }

def pool1 : Array CpInfo := pool [(2, .class_ 4), (1, u "java/lang/Object"), (0, u "<init>"), (0, u "()V"), (0, .methodref 8 9), (0, .class_ 10), (0, .nameAndType 11 12), (0, u "java/lang/Math"), (0, u "max"), (0, u "(JJ)J"), (0, .methodref 8 14), (0, .nameAndType 15 12), (0, u "min"), (0, .class_ 17), (0, u "com/example/evenkeel/evenkeel/LagSeats$Naming"), (0, .methodref 16 19), (0, .nameAndType 5 20), (0, u "(II)V"), (0, .methodref 16 22), (0, .nameAndType 23 24), (0, u "add"), (0, u "(III)V"), (0, .class_ 26), (0, u "com/example/evenkeel/evenkeel/LagSeats"), (0, .methodref 25 28), (0, .nameAndType 5 29), (0, u "(ZI[II[I[J[J[I[ILcom/example/evenkeel/evenkeel/LagSeats$Naming;)V"), (0, .methodref 25 31), (0, .nameAndType 32 20), (0, u "place"), (0, .methodref 25 34), (0, .nameAndType 35 36), (0, u "firstAtMost"), (0, u "(IJ)I"), (0, .class_ 38), (0, u "com/example/evenkeel/evenkeel/LagSeatsFirstAtMostPinLaw"), (2, u "law"), (0, u "(JJJJI)Z")] 9

def k1m0 : Method := { name := "<init>", desc := "()V", sig := { parameters := [], returnType := none }, accessFlags := 2, code := none }
def k1c1 : Code := { maxStack := 12, maxLocals := 24, code := code, exceptionTable := #[], attributes := #[] }
def k1m1 : Method := { name := "law", desc := "(JJJJI)Z", sig := { parameters := [.long, .long, .long, .long, .int], returnType := some .boolean }, accessFlags := 9, code := some k1c1 }
/-- com/example/evenkeel/evenkeel/LagSeatsFirstAtMostPinLaw -/
def k1 : Class := { plain "com/example/evenkeel/evenkeel/LagSeatsFirstAtMostPinLaw" (some 0) with
  accessFlags := 49
  interfaces := #[]
  cf := some (fileOf pool1 37 #[] #[{ accessFlags := 2, nameIndex := 5, descriptorIndex := 6, attributes := #[] }, { accessFlags := 9, nameIndex := 41, descriptorIndex := 42, attributes := #[] }] 49 2 #[] #[])
  fields := #[]
  methods := #[k1m0, k1m1]
  instanceTypes := #[]
  staticTypes := #[]
  resolved := Array.replicate 52 none
  statics := none }

def pool2 : Array CpInfo := pool [(1, .class_ 2), (0, u "java/lang/Math"), (1, .class_ 6), (1, u "java/lang/Object"), (0, u "<init>"), (0, u "()V"), (89, .class_ 100), (1, u "java/lang/Math$RandomNumberGeneratorHolder"), (20, u "(JJ)J"), (50, u "negativeZeroFloatBits"), (0, u "J"), (2, u "negativeZeroDoubleBits"), (21, u "max"), (2, u "min"), (43, u "$assertionsDisabled"), (0, u "Z"), (88, u "(II)I"), (2, u "twoToTheDoubleScaleDown"), (0, u "D"), (4, u "twoToTheDoubleScaleUp"), (9, u "E"), (3, u "PI"), (2, u "TAU"), (2, u "DEGREES_TO_RADIANS"), (0, u "RADIANS_TO_DEGREES")] 94

def k2m0 : Method := { name := "<init>", desc := "()V", sig := { parameters := [], returnType := none }, accessFlags := 2, code := none }
def k2c1 : Code := { maxStack := 4, maxLocals := 4, code := jdk_29_method_66_code, exceptionTable := #[], attributes := #[] }
def k2m1 : Method := { name := "max", desc := "(JJ)J", sig := { parameters := [.long, .long], returnType := some .long }, accessFlags := 9, code := some k2c1 }
def k2c2 : Code := { maxStack := 2, maxLocals := 2, code := jdk_29_method_69_code, exceptionTable := #[], attributes := #[] }
def k2m2 : Method := { name := "min", desc := "(II)I", sig := { parameters := [.int, .int], returnType := some .int }, accessFlags := 9, code := some k2c2 }
def k2c3 : Code := { maxStack := 4, maxLocals := 4, code := jdk_29_method_70_code, exceptionTable := #[], attributes := #[] }
def k2m3 : Method := { name := "min", desc := "(JJ)J", sig := { parameters := [.long, .long], returnType := some .long }, accessFlags := 9, code := some k2c3 }
/-- java/lang/Math -/
def k2 : Class := { plain "java/lang/Math" (some 0) with
  accessFlags := 49
  interfaces := #[]
  cf := some (fileOf pool2 1 #[.nestMembers #[98]] #[{ accessFlags := 2, nameIndex := 7, descriptorIndex := 8, attributes := #[] }, { accessFlags := 9, nameIndex := 198, descriptorIndex := 121, attributes := #[] }, { accessFlags := 9, nameIndex := 201, descriptorIndex := 335, attributes := #[] }, { accessFlags := 9, nameIndex := 201, descriptorIndex := 121, attributes := #[] }] 49 4 #[] #[{ accessFlags := 25, nameIndex := 354, descriptorIndex := 339, attributes := #[] }, { accessFlags := 25, nameIndex := 358, descriptorIndex := 339, attributes := #[] }, { accessFlags := 25, nameIndex := 361, descriptorIndex := 339, attributes := #[] }, { accessFlags := 26, nameIndex := 364, descriptorIndex := 339, attributes := #[] }, { accessFlags := 26, nameIndex := 365, descriptorIndex := 339, attributes := #[] }, { accessFlags := 26, nameIndex := 172, descriptorIndex := 173, attributes := #[] }, { accessFlags := 26, nameIndex := 176, descriptorIndex := 173, attributes := #[] }, { accessFlags := 8, nameIndex := 344, descriptorIndex := 339, attributes := #[] }, { accessFlags := 8, nameIndex := 338, descriptorIndex := 339, attributes := #[] }, { accessFlags := 4120, nameIndex := 245, descriptorIndex := 246, attributes := #[] }])
  fields := #[{ name := "E", type := .double, accessFlags := 25, slot := 0, constantValue := 0 }, { name := "PI", type := .double, accessFlags := 25, slot := 1, constantValue := 0 }, { name := "TAU", type := .double, accessFlags := 25, slot := 2, constantValue := 0 }, { name := "DEGREES_TO_RADIANS", type := .double, accessFlags := 26, slot := 3, constantValue := 0 }, { name := "RADIANS_TO_DEGREES", type := .double, accessFlags := 26, slot := 4, constantValue := 0 }, { name := "negativeZeroFloatBits", type := .long, accessFlags := 26, slot := 5, constantValue := 0 }, { name := "negativeZeroDoubleBits", type := .long, accessFlags := 26, slot := 6, constantValue := 0 }, { name := "twoToTheDoubleScaleUp", type := .double, accessFlags := 8, slot := 7, constantValue := 0 }, { name := "twoToTheDoubleScaleDown", type := .double, accessFlags := 8, slot := 8, constantValue := 0 }, { name := "$assertionsDisabled", type := .boolean, accessFlags := 4120, slot := 9, constantValue := 0 }]
  methods := #[k2m0, k2m1, k2m2, k2m3]
  instanceTypes := #[]
  staticTypes := #[.double, .double, .double, .double, .double, .long, .long, .double, .double, .boolean]
  resolved := Array.replicate 460 none
  statics := none }

def pool3 : Array CpInfo := pool [(1, .class_ 2), (0, u "com/example/evenkeel/evenkeel/LagSeats"), (0, .methodref 4 5), (0, .class_ 6), (0, .nameAndType 7 8), (0, u "java/lang/Object"), (0, u "<init>"), (0, u "()V"), (0, .fieldref 10 11), (0, .class_ 12), (0, .nameAndType 13 14), (0, u "com/example/evenkeel/evenkeel/LagSeats$Naming"), (0, u "kindCount"), (0, u "I"), (0, .fieldref 10 16), (0, .nameAndType 17 18), (0, u "members"), (0, u "[I"), (0, .fieldref 10 20), (0, .nameAndType 21 18), (0, u "kinds"), (0, .fieldref 10 23), (0, .nameAndType 24 18), (0, u "rooms"), (0, .fieldref 10 26), (0, .nameAndType 27 14), (0, u "count"), (0, .fieldref 10 29), (0, .nameAndType 30 18), (0, u "kindHomes"), (0, .fieldref 10 32), (0, .nameAndType 33 14), (0, u "homes"), (0, .fieldref 10 35), (0, .nameAndType 36 18), (0, u "keyHomes"), (10, .methodref 48 49), (0, .class_ 50), (0, .nameAndType 51 52), (0, u "java/util/Arrays"), (0, u "copyOf"), (0, u "([II)[I"), (5, .methodref 10 59), (0, .nameAndType 60 61), (0, u "listing"), (0, u "()[I"), (8, u "ofLeft"), (2, u "add"), (0, u "(III)V"), (0, u "(II)V"), (2, u "number"), (0, u "([I)V"), (3, u "runs"), (0, u "([I[I)Lcom/example/evenkeel/evenkeel/LagSeats$Runs;"), (3, u "list"), (0, u "([I[I[I[I)V")] 8

def k3c0 : Code := { maxStack := 2, maxLocals := 3, code := prog_61_method_1_code, exceptionTable := #[], attributes := #[] }
def k3m0 : Method := { name := "<init>", desc := "(II)V", sig := { parameters := [.int, .int], returnType := none }, accessFlags := 0, code := some k3c0 }
def k3c1 : Code := { maxStack := 5, maxLocals := 3, code := prog_61_method_2_code, exceptionTable := #[], attributes := #[] }
def k3m1 : Method := { name := "number", desc := "([I)V", sig := { parameters := [(.array .int)], returnType := none }, accessFlags := 0, code := some k3c1 }
def k3c2 : Code := { maxStack := 8, maxLocals := 10, code := prog_61_method_4_code, exceptionTable := #[], attributes := #[] }
def k3m2 : Method := { name := "runs", desc := "([I[I)Lcom/example/evenkeel/evenkeel/LagSeats$Runs;", sig := { parameters := [(.array .int), (.array .int)], returnType := some (.object "com/example/evenkeel/evenkeel/LagSeats$Runs") }, accessFlags := 0, code := some k3c2 }
def k3c3 : Code := { maxStack := 5, maxLocals := 11, code := prog_61_method_7_code, exceptionTable := #[], attributes := #[] }
def k3m3 : Method := { name := "list", desc := "([I[I[I[I)V", sig := { parameters := [(.array .int), (.array .int), (.array .int), (.array .int)], returnType := none }, accessFlags := 0, code := some k3c3 }
def k3c4 : Code := { maxStack := 3, maxLocals := 3, code := prog_61_method_8_code, exceptionTable := #[], attributes := #[] }
def k3m4 : Method := { name := "listing", desc := "()[I", sig := { parameters := [], returnType := some (.array .int) }, accessFlags := 2, code := some k3c4 }
def k3c5 : Code := { maxStack := 3, maxLocals := 4, code := prog_61_method_10_code, exceptionTable := #[], attributes := #[] }
def k3m5 : Method := { name := "add", desc := "(III)V", sig := { parameters := [.int, .int, .int], returnType := none }, accessFlags := 0, code := some k3c5 }
/-- com/example/evenkeel/evenkeel/LagSeats$Naming -/
def k3 : Class := { plain "com/example/evenkeel/evenkeel/LagSeats$Naming" (some 0) with
  accessFlags := 48
  interfaces := #[]
  cf := some (fileOf pool3 10 #[.nestHost 1] #[{ accessFlags := 0, nameIndex := 7, descriptorIndex := 75, attributes := #[] }, { accessFlags := 0, nameIndex := 78, descriptorIndex := 79, attributes := #[] }, { accessFlags := 0, nameIndex := 83, descriptorIndex := 84, attributes := #[] }, { accessFlags := 0, nameIndex := 88, descriptorIndex := 89, attributes := #[] }, { accessFlags := 2, nameIndex := 60, descriptorIndex := 61, attributes := #[] }, { accessFlags := 0, nameIndex := 73, descriptorIndex := 74, attributes := #[] }] 48 4 #[] #[{ accessFlags := 16, nameIndex := 17, descriptorIndex := 18, attributes := #[] }, { accessFlags := 16, nameIndex := 21, descriptorIndex := 18, attributes := #[] }, { accessFlags := 16, nameIndex := 24, descriptorIndex := 18, attributes := #[] }, { accessFlags := 16, nameIndex := 13, descriptorIndex := 14, attributes := #[] }, { accessFlags := 0, nameIndex := 70, descriptorIndex := 18, attributes := #[] }, { accessFlags := 0, nameIndex := 27, descriptorIndex := 14, attributes := #[] }, { accessFlags := 2, nameIndex := 30, descriptorIndex := 18, attributes := #[] }, { accessFlags := 2, nameIndex := 33, descriptorIndex := 14, attributes := #[] }, { accessFlags := 2, nameIndex := 36, descriptorIndex := 18, attributes := #[] }])
  fields := #[{ name := "members", type := (.array .int), accessFlags := 16, slot := 0, constantValue := 0 }, { name := "kinds", type := (.array .int), accessFlags := 16, slot := 1, constantValue := 0 }, { name := "rooms", type := (.array .int), accessFlags := 16, slot := 2, constantValue := 0 }, { name := "kindCount", type := .int, accessFlags := 16, slot := 3, constantValue := 0 }, { name := "ofLeft", type := (.array .int), accessFlags := 0, slot := 4, constantValue := 0 }, { name := "count", type := .int, accessFlags := 0, slot := 5, constantValue := 0 }, { name := "kindHomes", type := (.array .int), accessFlags := 2, slot := 6, constantValue := 0 }, { name := "homes", type := .int, accessFlags := 2, slot := 7, constantValue := 0 }, { name := "keyHomes", type := (.array .int), accessFlags := 2, slot := 8, constantValue := 0 }]
  methods := #[k3m0, k3m1, k3m2, k3m3, k3m4, k3m5]
  instanceTypes := #[(.array .int), (.array .int), (.array .int), .int, (.array .int), .int, (.array .int), .int, (.array .int)]
  staticTypes := #[]
  resolved := Array.replicate 98 none
  statics := none }

def pool4 : Array CpInfo := pool [(1, .methodref 2 3), (0, .class_ 4), (0, .nameAndType 5 6), (0, u "java/lang/Object"), (0, u "<init>"), (0, u "()V"), (0, .fieldref 8 9), (0, .class_ 10), (0, .nameAndType 11 12), (0, u "com/example/evenkeel/evenkeel/LagSeats"), (0, u "alike"), (0, u "Z"), (0, .fieldref 8 14), (0, .nameAndType 15 16), (0, u "share"), (0, u "I"), (0, .fieldref 8 18), (0, .nameAndType 19 20), (0, u "floors"), (0, u "[I"), (0, .fieldref 8 22), (0, .nameAndType 23 16), (0, u "extras"), (0, .fieldref 8 25), (0, .nameAndType 26 16), (0, u "extrasAtStart"), (0, .fieldref 8 28), (0, .nameAndType 29 20), (0, u "keptCounts"), (0, .fieldref 8 31), (0, .nameAndType 32 33), (0, u "keptTotals"), (0, u "[J"), (0, .methodref 35 36), (0, .class_ 20), (0, .nameAndType 37 38), (0, u "clone"), (0, u "()Ljava/lang/Object;"), (0, .fieldref 8 40), (0, .nameAndType 41 20), (0, u "counts"), (0, .methodref 43 36), (0, .class_ 33), (0, .fieldref 8 45), (0, .nameAndType 46 33), (0, u "totals"), (0, .fieldref 8 48), (0, .nameAndType 49 33), (0, u "lags"), (0, .fieldref 8 51), (0, .nameAndType 52 20), (0, u "rankStarts"), (0, .fieldref 54 55), (0, .class_ 56), (0, .nameAndType 57 20), (0, u "com/example/evenkeel/evenkeel/LagSeats$Naming"), (0, u "kinds"), (0, .fieldref 54 59), (0, .nameAndType 60 16), (0, u "kindCount"), (0, .methodref 8 62), (0, .nameAndType 63 64), (0, u "starts"), (0, u "([II)[I"), (0, .fieldref 8 66), (0, .nameAndType 67 20), (0, u "kindSeatStarts"), (0, .fieldref 54 69), (0, .nameAndType 70 20), (0, u "members"), (0, .fieldref 8 72), (0, .nameAndType 73 20), (0, u "seatMembers"), (0, .fieldref 8 75), (0, .nameAndType 76 20), (0, u "seatKinds"), (0, .fieldref 8 78), (0, .nameAndType 79 20), (0, u "memberSeatStarts"), (0, .fieldref 54 81), (0, .nameAndType 82 16), (0, u "count"), (0, .fieldref 8 84), (0, .nameAndType 85 20), (0, u "memberSeats"), (0, .fieldref 8 87), (0, .nameAndType 88 20), (0, u "memberSeatKeys"), (0, .fieldref 8 90), (0, .nameAndType 91 20), (0, u "rooms"), (0, .methodref 54 93), (0, .nameAndType 94 95), (0, u "number"), (0, u "([I)V"), (0, .methodref 54 97), (0, .nameAndType 98 99), (0, u "list"), (0, u "([I[I[I[I)V"), (0, .methodref 54 101), (0, .nameAndType 102 103), (0, u "runs"), (0, u "([I[I)Lcom/example/evenkeel/evenkeel/LagSeats$Runs;"), (0, .fieldref 8 105), (0, .nameAndType 102 106), (0, u "Lcom/example/evenkeel/evenkeel/LagSeats$Runs;"), (0, .fieldref 8 108), (0, .nameAndType 109 20), (0, u "slots"), (0, .fieldref 8 111), (0, .nameAndType 112 33), (0, u "slotLags"), (0, .fieldref 8 114), (0, .nameAndType 115 20), (0, u "filled"), (0, .fieldref 8 117), (0, .nameAndType 118 20), (0, u "rankOwners"), (0, .fieldref 8 120), (0, .nameAndType 121 20), (0, u "ownedCounts"), (4, .fieldref 8 127), (0, .nameAndType 128 20), (0, u "awayStarts"), (4, .fieldref 8 134), (0, .nameAndType 135 20), (0, u "awayRanks"), (0, .fieldref 8 137), (0, .nameAndType 138 20), (0, u "awaySeats"), (0, .fieldref 8 140), (0, .nameAndType 141 20), (0, u "awayCounts"), (0, .fieldref 8 143), (0, .nameAndType 144 20), (0, u "awayPlaces"), (23, u "place"), (0, u "(II)V"), (13, .methodref 8 184), (0, .nameAndType 185 169), (0, u "take"), (0, .methodref 8 187), (0, .nameAndType 188 169), (0, u "put"), (3, u "LONG_RUN"), (2, u "(ZI[II[I[J[J[I[ILcom/example/evenkeel/evenkeel/LagSeats$Naming;)V"), (30, u "firstAtMost"), (0, u "(IJ)I"), (4, .class_ 233), (0, u "com/example/evenkeel/evenkeel/LagSeats$Runs")] 3

def k4c0 : Code := { maxStack := 5, maxLocals := 13, code := prog_60_method_1_code, exceptionTable := #[], attributes := #[] }
def k4m0 : Method := { name := "<init>", desc := "(ZI[II[I[J[J[I[ILcom/example/evenkeel/evenkeel/LagSeats$Naming;)V", sig := { parameters := [.boolean, .int, (.array .int), .int, (.array .int), (.array .long), (.array .long), (.array .int), (.array .int), (.object "com/example/evenkeel/evenkeel/LagSeats$Naming")], returnType := none }, accessFlags := 0, code := some k4c0 }
def k4c1 : Code := { maxStack := 5, maxLocals := 7, code := prog_60_method_4_code, exceptionTable := #[], attributes := #[] }
def k4m1 : Method := { name := "starts", desc := "([II)[I", sig := { parameters := [(.array .int), .int], returnType := some (.array .int) }, accessFlags := 10, code := some k4c1 }
def k4c2 : Code := { maxStack := 7, maxLocals := 3, code := prog_60_method_26_code, exceptionTable := #[], attributes := #[] }
def k4m2 : Method := { name := "place", desc := "(II)V", sig := { parameters := [.int, .int], returnType := none }, accessFlags := 0, code := some k4c2 }
def k4c3 : Code := { maxStack := 6, maxLocals := 3, code := prog_60_method_27_code, exceptionTable := #[], attributes := #[] }
def k4m3 : Method := { name := "take", desc := "(II)V", sig := { parameters := [.int, .int], returnType := none }, accessFlags := 0, code := some k4c3 }
def k4c4 : Code := { maxStack := 4, maxLocals := 3, code := prog_60_method_30_code, exceptionTable := #[], attributes := #[] }
def k4m4 : Method := { name := "put", desc := "(II)V", sig := { parameters := [.int, .int], returnType := none }, accessFlags := 2, code := some k4c4 }
def k4c5 : Code := { maxStack := 4, maxLocals := 7, code := prog_60_method_33_code, exceptionTable := #[], attributes := #[] }
def k4m5 : Method := { name := "firstAtMost", desc := "(IJ)I", sig := { parameters := [.int, .long], returnType := some .int }, accessFlags := 0, code := some k4c5 }
/-- com/example/evenkeel/evenkeel/LagSeats -/
def k4 : Class := { plain "com/example/evenkeel/evenkeel/LagSeats" (some 0) with
  accessFlags := 48
  interfaces := #[]
  cf := some (fileOf pool4 8 #[.nestMembers #[54, 232]] #[{ accessFlags := 0, nameIndex := 5, descriptorIndex := 195, attributes := #[] }, { accessFlags := 10, nameIndex := 63, descriptorIndex := 64, attributes := #[] }, { accessFlags := 0, nameIndex := 168, descriptorIndex := 169, attributes := #[] }, { accessFlags := 0, nameIndex := 185, descriptorIndex := 169, attributes := #[] }, { accessFlags := 2, nameIndex := 188, descriptorIndex := 169, attributes := #[] }, { accessFlags := 0, nameIndex := 226, descriptorIndex := 227, attributes := #[] }] 48 2 #[] #[{ accessFlags := 24, nameIndex := 192, descriptorIndex := 16, attributes := #[] }, { accessFlags := 16, nameIndex := 11, descriptorIndex := 12, attributes := #[] }, { accessFlags := 16, nameIndex := 15, descriptorIndex := 16, attributes := #[] }, { accessFlags := 16, nameIndex := 19, descriptorIndex := 20, attributes := #[] }, { accessFlags := 2, nameIndex := 23, descriptorIndex := 16, attributes := #[] }, { accessFlags := 18, nameIndex := 26, descriptorIndex := 16, attributes := #[] }, { accessFlags := 16, nameIndex := 29, descriptorIndex := 20, attributes := #[] }, { accessFlags := 16, nameIndex := 32, descriptorIndex := 33, attributes := #[] }, { accessFlags := 16, nameIndex := 41, descriptorIndex := 20, attributes := #[] }, { accessFlags := 16, nameIndex := 46, descriptorIndex := 33, attributes := #[] }, { accessFlags := 16, nameIndex := 49, descriptorIndex := 33, attributes := #[] }, { accessFlags := 16, nameIndex := 52, descriptorIndex := 20, attributes := #[] }, { accessFlags := 16, nameIndex := 67, descriptorIndex := 20, attributes := #[] }, { accessFlags := 16, nameIndex := 73, descriptorIndex := 20, attributes := #[] }, { accessFlags := 16, nameIndex := 76, descriptorIndex := 20, attributes := #[] }, { accessFlags := 16, nameIndex := 79, descriptorIndex := 20, attributes := #[] }, { accessFlags := 16, nameIndex := 85, descriptorIndex := 20, attributes := #[] }, { accessFlags := 16, nameIndex := 88, descriptorIndex := 20, attributes := #[] }, { accessFlags := 16, nameIndex := 102, descriptorIndex := 106, attributes := #[] }, { accessFlags := 16, nameIndex := 109, descriptorIndex := 20, attributes := #[] }, { accessFlags := 16, nameIndex := 112, descriptorIndex := 33, attributes := #[] }, { accessFlags := 16, nameIndex := 91, descriptorIndex := 20, attributes := #[] }, { accessFlags := 16, nameIndex := 115, descriptorIndex := 20, attributes := #[] }, { accessFlags := 18, nameIndex := 118, descriptorIndex := 20, attributes := #[] }, { accessFlags := 18, nameIndex := 121, descriptorIndex := 20, attributes := #[] }, { accessFlags := 18, nameIndex := 128, descriptorIndex := 20, attributes := #[] }, { accessFlags := 18, nameIndex := 135, descriptorIndex := 20, attributes := #[] }, { accessFlags := 18, nameIndex := 138, descriptorIndex := 20, attributes := #[] }, { accessFlags := 18, nameIndex := 141, descriptorIndex := 20, attributes := #[] }, { accessFlags := 18, nameIndex := 144, descriptorIndex := 20, attributes := #[] }])
  fields := #[{ name := "LONG_RUN", type := .int, accessFlags := 24, slot := 0, constantValue := 0 }, { name := "alike", type := .boolean, accessFlags := 16, slot := 0, constantValue := 0 }, { name := "share", type := .int, accessFlags := 16, slot := 1, constantValue := 0 }, { name := "floors", type := (.array .int), accessFlags := 16, slot := 2, constantValue := 0 }, { name := "extras", type := .int, accessFlags := 2, slot := 3, constantValue := 0 }, { name := "extrasAtStart", type := .int, accessFlags := 18, slot := 4, constantValue := 0 }, { name := "keptCounts", type := (.array .int), accessFlags := 16, slot := 5, constantValue := 0 }, { name := "keptTotals", type := (.array .long), accessFlags := 16, slot := 6, constantValue := 0 }, { name := "counts", type := (.array .int), accessFlags := 16, slot := 7, constantValue := 0 }, { name := "totals", type := (.array .long), accessFlags := 16, slot := 8, constantValue := 0 }, { name := "lags", type := (.array .long), accessFlags := 16, slot := 9, constantValue := 0 }, { name := "rankStarts", type := (.array .int), accessFlags := 16, slot := 10, constantValue := 0 }, { name := "kindSeatStarts", type := (.array .int), accessFlags := 16, slot := 11, constantValue := 0 }, { name := "seatMembers", type := (.array .int), accessFlags := 16, slot := 12, constantValue := 0 }, { name := "seatKinds", type := (.array .int), accessFlags := 16, slot := 13, constantValue := 0 }, { name := "memberSeatStarts", type := (.array .int), accessFlags := 16, slot := 14, constantValue := 0 }, { name := "memberSeats", type := (.array .int), accessFlags := 16, slot := 15, constantValue := 0 }, { name := "memberSeatKeys", type := (.array .int), accessFlags := 16, slot := 16, constantValue := 0 }, { name := "runs", type := (.object "com/example/evenkeel/evenkeel/LagSeats$Runs"), accessFlags := 16, slot := 17, constantValue := 0 }, { name := "slots", type := (.array .int), accessFlags := 16, slot := 18, constantValue := 0 }, { name := "slotLags", type := (.array .long), accessFlags := 16, slot := 19, constantValue := 0 }, { name := "rooms", type := (.array .int), accessFlags := 16, slot := 20, constantValue := 0 }, { name := "filled", type := (.array .int), accessFlags := 16, slot := 21, constantValue := 0 }, { name := "rankOwners", type := (.array .int), accessFlags := 18, slot := 22, constantValue := 0 }, { name := "ownedCounts", type := (.array .int), accessFlags := 18, slot := 23, constantValue := 0 }, { name := "awayStarts", type := (.array .int), accessFlags := 18, slot := 24, constantValue := 0 }, { name := "awayRanks", type := (.array .int), accessFlags := 18, slot := 25, constantValue := 0 }, { name := "awaySeats", type := (.array .int), accessFlags := 18, slot := 26, constantValue := 0 }, { name := "awayCounts", type := (.array .int), accessFlags := 18, slot := 27, constantValue := 0 }, { name := "awayPlaces", type := (.array .int), accessFlags := 18, slot := 28, constantValue := 0 }]
  methods := #[k4m0, k4m1, k4m2, k4m3, k4m4, k4m5]
  instanceTypes := #[.boolean, .int, (.array .int), .int, .int, (.array .int), (.array .long), (.array .int), (.array .long), (.array .long), (.array .int), (.array .int), (.array .int), (.array .int), (.array .int), (.array .int), (.array .int), (.object "com/example/evenkeel/evenkeel/LagSeats$Runs"), (.array .int), (.array .long), (.array .int), (.array .int), (.array .int), (.array .int), (.array .int), (.array .int), (.array .int), (.array .int), (.array .int)]
  staticTypes := #[.int]
  resolved := Array.replicate 237 none
  statics := none }

def pool5 : Array CpInfo := pool [(1, .class_ 2), (0, u "java/lang/Cloneable"), (0, .class_ 4), (0, u "java/lang/Object")] 2

/-- java/lang/Cloneable -/
def k5 : Class := { plain "java/lang/Cloneable" (some 0) with
  accessFlags := 1537
  interfaces := #[]
  cf := some (fileOf pool5 1 #[] #[] 1537 3 #[] #[])
  fields := #[]
  methods := #[]
  instanceTypes := #[]
  staticTypes := #[]
  resolved := Array.replicate 7 none
  statics := none }

def pool6 : Array CpInfo := pool [(2, .class_ 4), (1, u "java/lang/Object"), (0, u "<init>"), (0, u "()V"), (7, .class_ 16), (1, u "java/util/Arrays"), (57, .class_ 76), (1, u "java/util/Arrays$NaturalOrder"), (36, .class_ 115), (1, u "java/util/Arrays$LegacyMergeSort"), (1, u "Z"), (32, .methodref 151 152), (0, .class_ 153), (0, .nameAndType 154 155), (0, u "java/lang/System"), (0, u "arraycopy"), (0, u "(Ljava/lang/Object;ILjava/lang/Object;II)V"), (146, u "copyOf"), (1, .methodref 305 306), (0, .class_ 307), (0, .nameAndType 308 309), (0, u "java/lang/Math"), (0, u "min"), (0, u "(II)I"), (65, .class_ 376), (0, u "java/util/Arrays$ArrayList"), (68, u "$assertionsDisabled"), (269, u "MIN_ARRAY_SORT_GRAN"), (0, u "I"), (2, u "INSERTIONSORT_THRESHOLD"), (151, u "([II)[I"), (103, .class_ 976), (0, u "java/util/Arrays$ArrayItr")] 52

def k6m0 : Method := { name := "<init>", desc := "()V", sig := { parameters := [], returnType := none }, accessFlags := 2, code := none }
def k6c1 : Code := { maxStack := 6, maxLocals := 3, code := jdk_65_method_123_code, exceptionTable := #[], attributes := #[] }
def k6m1 : Method := { name := "copyOf", desc := "([II)[I", sig := { parameters := [(.array .int), .int], returnType := some (.array .int) }, accessFlags := 9, code := some k6c1 }
/-- java/util/Arrays -/
def k6 : Class := { plain "java/util/Arrays" (some 0) with
  accessFlags := 49
  interfaces := #[]
  cf := some (fileOf pool6 14 #[.nestMembers #[975, 375, 113, 74]] #[{ accessFlags := 2, nameIndex := 5, descriptorIndex := 6, attributes := #[] }, { accessFlags := 9, nameIndex := 302, descriptorIndex := 871, attributes := #[] }] 49 2 #[] #[{ accessFlags := 26, nameIndex := 715, descriptorIndex := 716, attributes := #[] }, { accessFlags := 26, nameIndex := 719, descriptorIndex := 716, attributes := #[] }, { accessFlags := 4120, nameIndex := 445, descriptorIndex := 117, attributes := #[] }])
  fields := #[{ name := "MIN_ARRAY_SORT_GRAN", type := .int, accessFlags := 26, slot := 0, constantValue := 0 }, { name := "INSERTIONSORT_THRESHOLD", type := .int, accessFlags := 26, slot := 1, constantValue := 0 }, { name := "$assertionsDisabled", type := .boolean, accessFlags := 4120, slot := 2, constantValue := 0 }]
  methods := #[k6m0, k6m1]
  instanceTypes := #[]
  staticTypes := #[.int, .int, .boolean]
  resolved := Array.replicate 1029 none
  statics := none }

def pool7 : Array CpInfo := pool [(2, .class_ 4), (1, u "java/lang/Object"), (0, u "<init>"), (0, u "()V"), (1, .class_ 10), (1, u "java/lang/System"), (0, u "allowSecurityManager"), (0, u "I"), (16, u "cons"), (0, u "Ljava/io/Console;"), (77, .class_ 110), (1, u "java/lang/System$CallersHolder"), (43, u "initialErrStream"), (0, u "Ljava/io/PrintStream;"), (19, u "security"), (0, u "Ljava/lang/SecurityManager;"), (31, .class_ 209), (0, u "java/lang/System$1"), (7, u "props"), (0, u "Ljava/util/Properties;"), (2, u "lineSeparator"), (0, u "Ljava/lang/String;"), (96, .class_ 321), (1, u "java/lang/System$LoggerFinder"), (5, .class_ 328), (0, u "java/lang/System$Logger"), (67, u "err"), (2, u "out"), (91, u "notSupportedJnuEncoding"), (15, u "in"), (17, u "initialIn"), (0, u "Ljava/io/InputStream;"), (35, u "bootLayer"), (0, u "Ljava/lang/ModuleLayer;"), (99, .class_ 664), (0, u "java/lang/System$2"), (9, u "NEVER"), (2, u "MAYBE"), (49, u "arraycopy"), (0, u "(Ljava/lang/Object;ILjava/lang/Object;II)V"), (72, .class_ 802), (0, u "java/lang/System$Logger$Level")] 31

def k7m0 : Method := { name := "<init>", desc := "()V", sig := { parameters := [], returnType := none }, accessFlags := 2, code := none }
def k7m1 : Method := { name := "arraycopy", desc := "(Ljava/lang/Object;ILjava/lang/Object;II)V", sig := { parameters := [(.object "java/lang/Object"), .int, (.object "java/lang/Object"), .int, .int], returnType := none }, accessFlags := 265, code := none }
/-- java/lang/System -/
def k7 : Class := { plain "java/lang/System" (some 0) with
  accessFlags := 49
  interfaces := #[]
  cf := some (fileOf pool7 8 #[.nestMembers #[319, 327, 801, 108, 663, 208]] #[{ accessFlags := 2, nameIndex := 5, descriptorIndex := 6, attributes := #[] }, { accessFlags := 265, nameIndex := 727, descriptorIndex := 728, attributes := #[] }] 49 2 #[] #[{ accessFlags := 25, nameIndex := 507, descriptorIndex := 526, attributes := #[] }, { accessFlags := 25, nameIndex := 399, descriptorIndex := 155, attributes := #[] }, { accessFlags := 25, nameIndex := 396, descriptorIndex := 155, attributes := #[] }, { accessFlags := 10, nameIndex := 525, descriptorIndex := 526, attributes := #[] }, { accessFlags := 26, nameIndex := 674, descriptorIndex := 12, attributes := #[] }, { accessFlags := 26, nameIndex := 677, descriptorIndex := 12, attributes := #[] }, { accessFlags := 10, nameIndex := 11, descriptorIndex := 12, attributes := #[] }, { accessFlags := 74, nameIndex := 175, descriptorIndex := 176, attributes := #[] }, { accessFlags := 10, nameIndex := 491, descriptorIndex := 222, attributes := #[] }, { accessFlags := 74, nameIndex := 29, descriptorIndex := 30, attributes := #[] }, { accessFlags := 74, nameIndex := 154, descriptorIndex := 155, attributes := #[] }, { accessFlags := 10, nameIndex := 217, descriptorIndex := 218, attributes := #[] }, { accessFlags := 10, nameIndex := 221, descriptorIndex := 222, attributes := #[] }, { accessFlags := 8, nameIndex := 562, descriptorIndex := 563, attributes := #[] }])
  fields := #[{ name := "in", type := (.object "java/io/InputStream"), accessFlags := 25, slot := 0, constantValue := 0 }, { name := "out", type := (.object "java/io/PrintStream"), accessFlags := 25, slot := 1, constantValue := 0 }, { name := "err", type := (.object "java/io/PrintStream"), accessFlags := 25, slot := 2, constantValue := 0 }, { name := "initialIn", type := (.object "java/io/InputStream"), accessFlags := 10, slot := 3, constantValue := 0 }, { name := "NEVER", type := .int, accessFlags := 26, slot := 4, constantValue := 0 }, { name := "MAYBE", type := .int, accessFlags := 26, slot := 5, constantValue := 0 }, { name := "allowSecurityManager", type := .int, accessFlags := 10, slot := 6, constantValue := 0 }, { name := "security", type := (.object "java/lang/SecurityManager"), accessFlags := 74, slot := 7, constantValue := 0 }, { name := "notSupportedJnuEncoding", type := (.object "java/lang/String"), accessFlags := 10, slot := 8, constantValue := 0 }, { name := "cons", type := (.object "java/io/Console"), accessFlags := 74, slot := 9, constantValue := 0 }, { name := "initialErrStream", type := (.object "java/io/PrintStream"), accessFlags := 74, slot := 10, constantValue := 0 }, { name := "props", type := (.object "java/util/Properties"), accessFlags := 10, slot := 11, constantValue := 0 }, { name := "lineSeparator", type := (.object "java/lang/String"), accessFlags := 10, slot := 12, constantValue := 0 }, { name := "bootLayer", type := (.object "java/lang/ModuleLayer"), accessFlags := 8, slot := 13, constantValue := 0 }]
  methods := #[k7m0, k7m1]
  instanceTypes := #[]
  staticTypes := #[(.object "java/io/InputStream"), (.object "java/io/PrintStream"), (.object "java/io/PrintStream"), (.object "java/io/InputStream"), .int, .int, .int, (.object "java/lang/SecurityManager"), (.object "java/lang/String"), (.object "java/io/Console"), (.object "java/io/PrintStream"), (.object "java/util/Properties"), (.object "java/lang/String"), (.object "java/lang/ModuleLayer")]
  resolved := Array.replicate 834 none
  statics := none }

def pool8 : Array CpInfo := pool [(1, u "java/io/Serializable"), (0, .class_ 1), (0, u "java/lang/Object"), (0, .class_ 3)] 3

/-- java/io/Serializable -/
def k8 : Class := { plain "java/io/Serializable" (some 0) with
  accessFlags := 1537
  interfaces := #[]
  cf := some (fileOf pool8 2 #[] #[] 1537 4 #[] #[])
  fields := #[]
  methods := #[]
  instanceTypes := #[]
  staticTypes := #[]
  resolved := Array.replicate 8 none
  statics := none }

/-- the primitive byte -/
def k9 : Class := { plain "byte" none with kind := .primitive 'B', accessFlags := 0x411 }
/-- [B -/
def k10 : Class := { plain "[B" (some 0) with kind := .array 9 .byte, interfaces := #[5, 8], accessFlags := 1041 }

/-- the primitive int -/
def k11 : Class := { plain "int" none with kind := .primitive 'I', accessFlags := 0x411 }
/-- [I -/
def k12 : Class := { plain "[I" (some 0) with kind := .array 11 .int, interfaces := #[5, 8], accessFlags := 1041 }

/-- the primitive long -/
def k13 : Class := { plain "long" none with kind := .primitive 'J', accessFlags := 0x411 }
/-- [J -/
def k14 : Class := { plain "[J" (some 0) with kind := .array 13 .long, interfaces := #[5, 8], accessFlags := 1041 }

def heap : Heap := #[]
def classes : Array Class := #[k0, k1, k2, k3, k4, k5, k6, k7, k8, k9, k10, k11, k12, k13, k14]
def interned : List (Array UInt16 × Addr) := []
def slotsUsed : Nat := 0
def theMethod : MethodId := ⟨1, 1⟩
def args0 : Array Value := #[.long 7, .long 1, .long 2, .long 3, .int 4]
def aboutOver (below : List Frame) : State where
  vm := { classes := classes, interned := interned.toArray }
  heap := heap
  slotsUsed := slotsUsed
  threads := #[{ frames := .invoking theMethod args0 :: below }]
def below0 : List Frame := [.native { method := ⟨0, 0⟩, args := #[] }]
def about1 : State := aboutOver below0
def p0 : Program := .bare "" "" ""
def e0 : Env := launch0.env 0 0 0
theorem w_frames : about1.frames = Frame.invoking theMethod args0 :: below0 := rfl
set_option maxRecDepth 65536 in
theorem w_args : argsFit about1.vm theMethod args0 = true := by decide +kernel
set_option maxRecDepth 65536 in
theorem w_heap : heapFits about1 = true := by decide +kernel
set_option maxRecDepth 65536 in
theorem w_runnable : about1.curStatus? = some .runnable := by decide +kernel
set_option maxRecDepth 65536 in
theorem w_alone : about1.alone = true := by decide +kernel
set_option maxRecDepth 65536 in
theorem w_named : about1.methodNamed? x = some theMethod := by decide +kernel
set_option maxRecDepth 65536 in
theorem w_hears : about1.hears theMethod below0 = true := by decide +kernel
set_option maxRecDepth 65536 in
theorem w_ripe : about1.ripe theMethod args0 below0 = true := by decide +kernel
theorem w_running : about1.status = .running := rfl
set_option maxRecDepth 65536 in
theorem w_room : about1.hasRoom e0.platform room_1 = true :=
  launch0.hasRoom_least _ room_1 (by decide +kernel) (by decide +kernel) (by decide +kernel) (by decide +kernel) (by decide +kernel) (by decide +kernel)
theorem allAtoms_all (ts : List Jvm.Cond) (a : Array Jvm.Value) (st : Jvm.State) : (allAtoms ts).before a st = ts.all (fun c => c.before a st) := by
  induction ts with
  | nil => rfl
  | cons c t ih =>
    show (Jvm.Cond.and c (allAtoms t)).before a st = _
    rw [Jvm.Cond.before_and, ih, List.all_cons]
def words1 : List Jvm.Cond := Jvm.Cond.code x code maxLocals ret :: tables_1
/-- a 'code' word, met by the world's own term for the bytes: nothing is compared byte by byte -/
theorem code_word {y : MethodName} {bytes : ByteArray} {mx : Nat} {rt : Option FieldType} {a : Array Value} {s : State} {m : MethodId} {meth : Method} {c : Code} (h1 : s.methodNamed? y = some m) (h2 : s.vm.method? m = some meth) (h3 : meth.code = some c) (h4 : c.code = bytes)
    (h5 : (c.maxLocals == mx && c.exceptionTable.isEmpty && decide (c.maxStack ≤ mostOperands) && decide (meth.sig.returnType = rt) && !meth.locks && decide (parseMethodDescriptor y.desc = some meth.sig)) = true) : (Jvm.Cond.code y bytes mx rt).before a s = true := by
  simp only [Bool.and_eq_true, beq_iff_eq, Bool.not_eq_true', decide_eq_true_eq] at h5
  obtain ⟨⟨⟨⟨⟨g1, g2⟩, g3⟩, g4⟩, g5⟩, g6⟩ := h5
  simp [Cond.before, Cond.holds, Cond.value, h1, h2, h3, h4, g1, g2, g3, g4, g5, g6]
def isCode : Jvm.Cond → Bool
  | .code _ _ _ _ => true
  | _ => false
theorem all_split {L : List Jvm.Cond} {P : Jvm.Cond → Bool} (h1 : L.all (fun c => isCode c || P c) = true) (h2 : ∀ c ∈ L.filter isCode, P c = true) : L.all P = true := by
  refine List.all_eq_true.mpr fun c hc => ?_
  have h := List.all_eq_true.mp h1 c hc
  rcases Bool.eq_false_or_eq_true (isCode c) with hi | hi
  · exact h2 c (List.mem_filter.mpr ⟨hc, hi⟩)
  · simpa [hi] using h
set_option maxRecDepth 65536 in
theorem w_c0 : (Jvm.Cond.code x code maxLocals ret).before args0 about1 = true := code_word (m := ⟨1, 1⟩) (meth := k1m1) (c := k1c1) (by decide +kernel) rfl rfl rfl (by decide +kernel)
set_option maxRecDepth 65536 in
theorem w_c1 : (Jvm.Cond.code ({ cls := "java/lang/Math", name := "max", desc := "(JJ)J" } : Jvm.MethodName) jdk_29_method_66_code (4 : Nat) (Option.some Jvm.ClassFile.FieldType.long)).before args0 about1 = true := code_word (m := ⟨2, 1⟩) (meth := k2m1) (c := k2c1) (by decide +kernel) rfl rfl rfl (by decide +kernel)
set_option maxRecDepth 65536 in
theorem w_c2 : (Jvm.Cond.code ({ cls := "java/lang/Math", name := "min", desc := "(JJ)J" } : Jvm.MethodName) jdk_29_method_70_code (4 : Nat) (Option.some Jvm.ClassFile.FieldType.long)).before args0 about1 = true := code_word (m := ⟨2, 3⟩) (meth := k2m3) (c := k2c3) (by decide +kernel) rfl rfl rfl (by decide +kernel)
set_option maxRecDepth 65536 in
theorem w_c3 : (Jvm.Cond.code ({ cls := "com/example/evenkeel/evenkeel/LagSeats$Naming", name := "<init>", desc := "(II)V" } : Jvm.MethodName) prog_61_method_1_code (3 : Nat) (Option.none : Option Jvm.ClassFile.FieldType)).before args0 about1 = true := code_word (m := ⟨3, 0⟩) (meth := k3m0) (c := k3c0) (by decide +kernel) rfl rfl rfl (by decide +kernel)
set_option maxRecDepth 65536 in
theorem w_c4 : (Jvm.Cond.code ({ cls := "java/lang/Object", name := "<init>", desc := "()V" } : Jvm.MethodName) object_method_1_code (1 : Nat) (Option.none : Option Jvm.ClassFile.FieldType)).before args0 about1 = true := code_word (m := ⟨0, 0⟩) (meth := k0m0) (c := k0c0) (by decide +kernel) rfl rfl rfl (by decide +kernel)
set_option maxRecDepth 65536 in
theorem w_c5 : (Jvm.Cond.code ({ cls := "com/example/evenkeel/evenkeel/LagSeats$Naming", name := "add", desc := "(III)V" } : Jvm.MethodName) prog_61_method_10_code (4 : Nat) (Option.none : Option Jvm.ClassFile.FieldType)).before args0 about1 = true := code_word (m := ⟨3, 5⟩) (meth := k3m5) (c := k3c5) (by decide +kernel) rfl rfl rfl (by decide +kernel)
set_option maxRecDepth 65536 in
theorem w_c6 : (Jvm.Cond.code ({ cls := "com/example/evenkeel/evenkeel/LagSeats", name := "<init>", desc := "(ZI[II[I[J[J[I[ILcom/example/evenkeel/evenkeel/LagSeats$Naming;)V" } : Jvm.MethodName) prog_60_method_1_code (13 : Nat) (Option.none : Option Jvm.ClassFile.FieldType)).before args0 about1 = true := code_word (m := ⟨4, 0⟩) (meth := k4m0) (c := k4c0) (by decide +kernel) rfl rfl rfl (by decide +kernel)
set_option maxRecDepth 65536 in
theorem w_c7 : (Jvm.Cond.code ({ cls := "com/example/evenkeel/evenkeel/LagSeats", name := "starts", desc := "([II)[I" } : Jvm.MethodName) prog_60_method_4_code (7 : Nat) (Option.some (Jvm.ClassFile.FieldType.array Jvm.ClassFile.FieldType.int))).before args0 about1 = true := code_word (m := ⟨4, 1⟩) (meth := k4m1) (c := k4c1) (by decide +kernel) rfl rfl rfl (by decide +kernel)
set_option maxRecDepth 65536 in
theorem w_c8 : (Jvm.Cond.code ({ cls := "com/example/evenkeel/evenkeel/LagSeats$Naming", name := "number", desc := "([I)V" } : Jvm.MethodName) prog_61_method_2_code (3 : Nat) (Option.none : Option Jvm.ClassFile.FieldType)).before args0 about1 = true := code_word (m := ⟨3, 1⟩) (meth := k3m1) (c := k3c1) (by decide +kernel) rfl rfl rfl (by decide +kernel)
set_option maxRecDepth 65536 in
theorem w_c9 : (Jvm.Cond.code ({ cls := "com/example/evenkeel/evenkeel/LagSeats$Naming", name := "list", desc := "([I[I[I[I)V" } : Jvm.MethodName) prog_61_method_7_code (11 : Nat) (Option.none : Option Jvm.ClassFile.FieldType)).before args0 about1 = true := code_word (m := ⟨3, 3⟩) (meth := k3m3) (c := k3c3) (by decide +kernel) rfl rfl rfl (by decide +kernel)
set_option maxRecDepth 65536 in
theorem w_c10 : (Jvm.Cond.code ({ cls := "com/example/evenkeel/evenkeel/LagSeats$Naming", name := "listing", desc := "()[I" } : Jvm.MethodName) prog_61_method_8_code (3 : Nat) (Option.some (Jvm.ClassFile.FieldType.array Jvm.ClassFile.FieldType.int))).before args0 about1 = true := code_word (m := ⟨3, 4⟩) (meth := k3m4) (c := k3c4) (by decide +kernel) rfl rfl rfl (by decide +kernel)
set_option maxRecDepth 65536 in
theorem w_c11 : (Jvm.Cond.code ({ cls := "java/util/Arrays", name := "copyOf", desc := "([II)[I" } : Jvm.MethodName) jdk_65_method_123_code (3 : Nat) (Option.some (Jvm.ClassFile.FieldType.array Jvm.ClassFile.FieldType.int))).before args0 about1 = true := code_word (m := ⟨6, 1⟩) (meth := k6m1) (c := k6c1) (by decide +kernel) rfl rfl rfl (by decide +kernel)
set_option maxRecDepth 65536 in
theorem w_c12 : (Jvm.Cond.code ({ cls := "java/lang/Math", name := "min", desc := "(II)I" } : Jvm.MethodName) jdk_29_method_69_code (2 : Nat) (Option.some Jvm.ClassFile.FieldType.int)).before args0 about1 = true := code_word (m := ⟨2, 2⟩) (meth := k2m2) (c := k2c2) (by decide +kernel) rfl rfl rfl (by decide +kernel)
set_option maxRecDepth 65536 in
theorem w_c13 : (Jvm.Cond.code ({ cls := "com/example/evenkeel/evenkeel/LagSeats$Naming", name := "runs", desc := "([I[I)Lcom/example/evenkeel/evenkeel/LagSeats$Runs;" } : Jvm.MethodName) prog_61_method_4_code (10 : Nat) (Option.some (Jvm.ClassFile.FieldType.object "com/example/evenkeel/evenkeel/LagSeats$Runs"))).before args0 about1 = true := code_word (m := ⟨3, 2⟩) (meth := k3m2) (c := k3c2) (by decide +kernel) rfl rfl rfl (by decide +kernel)
set_option maxRecDepth 65536 in
theorem w_c14 : (Jvm.Cond.code ({ cls := "com/example/evenkeel/evenkeel/LagSeats", name := "place", desc := "(II)V" } : Jvm.MethodName) prog_60_method_26_code (3 : Nat) (Option.none : Option Jvm.ClassFile.FieldType)).before args0 about1 = true := code_word (m := ⟨4, 2⟩) (meth := k4m2) (c := k4c2) (by decide +kernel) rfl rfl rfl (by decide +kernel)
set_option maxRecDepth 65536 in
theorem w_c15 : (Jvm.Cond.code ({ cls := "com/example/evenkeel/evenkeel/LagSeats", name := "take", desc := "(II)V" } : Jvm.MethodName) prog_60_method_27_code (3 : Nat) (Option.none : Option Jvm.ClassFile.FieldType)).before args0 about1 = true := code_word (m := ⟨4, 3⟩) (meth := k4m3) (c := k4c3) (by decide +kernel) rfl rfl rfl (by decide +kernel)
set_option maxRecDepth 65536 in
theorem w_c16 : (Jvm.Cond.code ({ cls := "com/example/evenkeel/evenkeel/LagSeats", name := "put", desc := "(II)V" } : Jvm.MethodName) prog_60_method_30_code (3 : Nat) (Option.none : Option Jvm.ClassFile.FieldType)).before args0 about1 = true := code_word (m := ⟨4, 4⟩) (meth := k4m4) (c := k4c4) (by decide +kernel) rfl rfl rfl (by decide +kernel)
set_option maxRecDepth 65536 in
theorem w_c17 : (Jvm.Cond.code ({ cls := "com/example/evenkeel/evenkeel/LagSeats", name := "firstAtMost", desc := "(IJ)I" } : Jvm.MethodName) prog_60_method_33_code (7 : Nat) (Option.some Jvm.ClassFile.FieldType.int)).before args0 about1 = true := code_word (m := ⟨4, 5⟩) (meth := k4m5) (c := k4c5) (by decide +kernel) rfl rfl rfl (by decide +kernel)
def codes1 : List Jvm.Cond := [Jvm.Cond.code x code maxLocals ret, Jvm.Cond.code ({ cls := "java/lang/Math", name := "max", desc := "(JJ)J" } : Jvm.MethodName) jdk_29_method_66_code (4 : Nat) (Option.some Jvm.ClassFile.FieldType.long), Jvm.Cond.code ({ cls := "java/lang/Math", name := "min", desc := "(JJ)J" } : Jvm.MethodName) jdk_29_method_70_code (4 : Nat) (Option.some Jvm.ClassFile.FieldType.long), Jvm.Cond.code ({ cls := "com/example/evenkeel/evenkeel/LagSeats$Naming", name := "<init>", desc := "(II)V" } : Jvm.MethodName) prog_61_method_1_code (3 : Nat) (Option.none : Option Jvm.ClassFile.FieldType), Jvm.Cond.code ({ cls := "java/lang/Object", name := "<init>", desc := "()V" } : Jvm.MethodName) object_method_1_code (1 : Nat) (Option.none : Option Jvm.ClassFile.FieldType), Jvm.Cond.code ({ cls := "com/example/evenkeel/evenkeel/LagSeats$Naming", name := "add", desc := "(III)V" } : Jvm.MethodName) prog_61_method_10_code (4 : Nat) (Option.none : Option Jvm.ClassFile.FieldType), Jvm.Cond.code ({ cls := "com/example/evenkeel/evenkeel/LagSeats", name := "<init>", desc := "(ZI[II[I[J[J[I[ILcom/example/evenkeel/evenkeel/LagSeats$Naming;)V" } : Jvm.MethodName) prog_60_method_1_code (13 : Nat) (Option.none : Option Jvm.ClassFile.FieldType), Jvm.Cond.code ({ cls := "com/example/evenkeel/evenkeel/LagSeats", name := "starts", desc := "([II)[I" } : Jvm.MethodName) prog_60_method_4_code (7 : Nat) (Option.some (Jvm.ClassFile.FieldType.array Jvm.ClassFile.FieldType.int)), Jvm.Cond.code ({ cls := "com/example/evenkeel/evenkeel/LagSeats$Naming", name := "number", desc := "([I)V" } : Jvm.MethodName) prog_61_method_2_code (3 : Nat) (Option.none : Option Jvm.ClassFile.FieldType), Jvm.Cond.code ({ cls := "com/example/evenkeel/evenkeel/LagSeats$Naming", name := "list", desc := "([I[I[I[I)V" } : Jvm.MethodName) prog_61_method_7_code (11 : Nat) (Option.none : Option Jvm.ClassFile.FieldType), Jvm.Cond.code ({ cls := "com/example/evenkeel/evenkeel/LagSeats$Naming", name := "listing", desc := "()[I" } : Jvm.MethodName) prog_61_method_8_code (3 : Nat) (Option.some (Jvm.ClassFile.FieldType.array Jvm.ClassFile.FieldType.int)), Jvm.Cond.code ({ cls := "java/util/Arrays", name := "copyOf", desc := "([II)[I" } : Jvm.MethodName) jdk_65_method_123_code (3 : Nat) (Option.some (Jvm.ClassFile.FieldType.array Jvm.ClassFile.FieldType.int)), Jvm.Cond.code ({ cls := "java/lang/Math", name := "min", desc := "(II)I" } : Jvm.MethodName) jdk_29_method_69_code (2 : Nat) (Option.some Jvm.ClassFile.FieldType.int), Jvm.Cond.code ({ cls := "com/example/evenkeel/evenkeel/LagSeats$Naming", name := "runs", desc := "([I[I)Lcom/example/evenkeel/evenkeel/LagSeats$Runs;" } : Jvm.MethodName) prog_61_method_4_code (10 : Nat) (Option.some (Jvm.ClassFile.FieldType.object "com/example/evenkeel/evenkeel/LagSeats$Runs")), Jvm.Cond.code ({ cls := "com/example/evenkeel/evenkeel/LagSeats", name := "place", desc := "(II)V" } : Jvm.MethodName) prog_60_method_26_code (3 : Nat) (Option.none : Option Jvm.ClassFile.FieldType), Jvm.Cond.code ({ cls := "com/example/evenkeel/evenkeel/LagSeats", name := "take", desc := "(II)V" } : Jvm.MethodName) prog_60_method_27_code (3 : Nat) (Option.none : Option Jvm.ClassFile.FieldType), Jvm.Cond.code ({ cls := "com/example/evenkeel/evenkeel/LagSeats", name := "put", desc := "(II)V" } : Jvm.MethodName) prog_60_method_30_code (3 : Nat) (Option.none : Option Jvm.ClassFile.FieldType), Jvm.Cond.code ({ cls := "com/example/evenkeel/evenkeel/LagSeats", name := "firstAtMost", desc := "(IJ)I" } : Jvm.MethodName) prog_60_method_33_code (7 : Nat) (Option.some Jvm.ClassFile.FieldType.int)]
set_option maxRecDepth 65536 in
theorem codes_eq : words1.filter isCode = codes1 := rfl
theorem w_codes : ∀ c ∈ words1.filter isCode, c.before args0 about1 = true := by
  rw [codes_eq]
  intro c hc
  simp only [codes1, List.mem_cons, List.not_mem_nil, or_false] at hc
  rcases hc with rfl | rfl | rfl | rfl | rfl | rfl | rfl | rfl | rfl | rfl | rfl | rfl | rfl | rfl | rfl | rfl | rfl | rfl
  · exact w_c0
  · exact w_c1
  · exact w_c2
  · exact w_c3
  · exact w_c4
  · exact w_c5
  · exact w_c6
  · exact w_c7
  · exact w_c8
  · exact w_c9
  · exact w_c10
  · exact w_c11
  · exact w_c12
  · exact w_c13
  · exact w_c14
  · exact w_c15
  · exact w_c16
  · exact w_c17
set_option maxRecDepth 65536 in
theorem w_t1 : (words1.take 24).all (fun c => isCode c || c.before args0 about1) = true := by decide +kernel
set_option maxRecDepth 65536 in
theorem w_t2 : ((words1.drop 24).take 24).all (fun c => isCode c || c.before args0 about1) = true := by decide +kernel
set_option maxRecDepth 65536 in
theorem w_t3 : (((words1.drop 24).drop 24).take 24).all (fun c => isCode c || c.before args0 about1) = true := by decide +kernel
set_option maxRecDepth 65536 in
theorem w_t4 : ((((words1.drop 24).drop 24).drop 24).take 24).all (fun c => isCode c || c.before args0 about1) = true := by decide +kernel
set_option maxRecDepth 65536 in
theorem w_t5 : (((((words1.drop 24).drop 24).drop 24).drop 24).take 24).all (fun c => isCode c || c.before args0 about1) = true := by decide +kernel
set_option maxRecDepth 65536 in
theorem w_t6 : ((((((words1.drop 24).drop 24).drop 24).drop 24).drop 24).take 24).all (fun c => isCode c || c.before args0 about1) = true := by decide +kernel
set_option maxRecDepth 65536 in
theorem w_t7 : (((((((words1.drop 24).drop 24).drop 24).drop 24).drop 24).drop 24).take 24).all (fun c => isCode c || c.before args0 about1) = true := by decide +kernel
set_option maxRecDepth 65536 in
theorem w_t8 : (((((((words1.drop 24).drop 24).drop 24).drop 24).drop 24).drop 24).drop 24).all (fun c => isCode c || c.before args0 about1) = true := by decide +kernel
theorem w_tables : (allAtoms (Jvm.Cond.code x code maxLocals ret :: tables_1)).before args0 about1 = true := by
  rw [allAtoms_all]
  show words1.all (fun c => c.before args0 about1) = true
  refine all_split ?_ w_codes
  rw [← List.take_append_drop 24 words1, List.all_append, w_t1, ← List.take_append_drop 24 (words1.drop 24), List.all_append, w_t2, ← List.take_append_drop 24 ((words1.drop 24).drop 24), List.all_append, w_t3, ← List.take_append_drop 24 (((words1.drop 24).drop 24).drop 24), List.all_append, w_t4, ← List.take_append_drop 24 ((((words1.drop 24).drop 24).drop 24).drop 24), List.all_append, w_t5, ← List.take_append_drop 24 (((((words1.drop 24).drop 24).drop 24).drop 24).drop 24), List.all_append, w_t6, ← List.take_append_drop 24 ((((((words1.drop 24).drop 24).drop 24).drop 24).drop 24).drop 24), List.all_append, w_t7, w_t8]
  rfl
set_option maxRecDepth 65536 in
theorem w_case : (Jvm.Cond.and given_1 narrow_1).before args0 about1 = true := by decide +kernel
theorem w_applies : (headSpec (Jvm.Cond.code x code maxLocals ret :: tables_1) room_1).applies x e0.platform about1 = true :=
  (Spec.applies_iff w_frames).mpr ⟨w_running, w_runnable, w_alone, w_named, w_hears, w_ripe, w_room, w_tables⟩
theorem atStart : AtStart classFile x code maxLocals ret World_1 tables_1 room_1 Calls_1 rest_1 Pre_1 launch0 p0 e0 about1 theMethod args0 below0 :=
  ⟨lists_1, trivial, launch0.admits_env _ _ _, launch0.least_env, fairChoices_fair.cas, fairChoices_fair.clock, w_frames, w_args, w_heap, w_applies, trivial, trivial, w_case⟩
end start1
theorem witness_1 : WitnessClaimed_1 := ⟨start1.p0, start1.e0, start1.about1, start1.theMethod, start1.args0, start1.below0, start1.atStart⟩
end Jvm.Pilot.@@N@@
