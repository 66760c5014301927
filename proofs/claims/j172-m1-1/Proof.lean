import JvmDerived
import JvmDerived.Pilot.@@N@@Statement
import JvmDerived.Pilot.@@N@@Code
set_option linter.unusedVariables false
set_option linter.unusedSimpArgs false
@@BLOCK:HandJ.lean.txt@@
@@BLOCK:NumsL.lean.txt@@
@@BLOCK:SymMore.lean.txt@@
namespace Jvm.Pilot.@@N@@
open Jvm Jvm.ClassFile Sem Op Lib Jvm.Free Jvm.Stand Jvm.LawKit Jvm.RoadKit Bundle Jvm.Pilot.@@N@@.Jvm.D
/-! small laws of this text's own: returns, lrem as %, lcmp and the branch behind it -/
section Own
variable {p : Program} {l : Launch} {e : Env} {R : Room} {s : State} {m : MethodId} {args : Array Value} {below : List Frame} {meth : Method} {c : Code} {T : State} {locs : List Loc} {cells slots : Nat}
theorem own_retI (X : Stand p l e R s m args below meth c T locs cells slots) (hx : p.tables.exec = Jvm.exec) {pc : Nat} {Ls : Array Slot} {z : Int32} {rest : List Value} (hret : meth.sig.returnType = some .int) (hd : decode c.code pc = .ok (.ireturn, 1)) {fs : List Frame}
    (hl : ∀ (f : JFrame) (acts : List Action), f.method = m → f.locked = none → f.entered = [] → (doReturn e (T.setTop f) acts (some (.int z))).1 = T.setFrames fs) : Steps p.tables e below (T.setTop (mkF m pc Ls (.int z :: rest))) (T.setFrames fs) :=
  retOut X hx hret rfl (Or.inl ⟨rfl, Or.inl rfl, z, rfl⟩) hd hl
theorem own_retJ (X : Stand p l e R s m args below meth c T locs cells slots) (hx : p.tables.exec = Jvm.exec) {pc : Nat} {Ls : Array Slot} {z : Int64} {rest : List Value} (hret : meth.sig.returnType = some .long) (hd : decode c.code pc = .ok (.lreturn, 1)) {fs : List Frame}
    (hl : ∀ (f : JFrame) (acts : List Action), f.method = m → f.locked = none → f.entered = [] → (doReturn e (T.setTop f) acts (some (.long z))).1 = T.setFrames fs) : Steps p.tables e below (T.setTop (mkF m pc Ls (.long z :: rest))) (T.setFrames fs) :=
  retOut X hx hret rfl (Or.inr (Or.inl ⟨rfl, rfl, z, rfl⟩)) hd hl
theorem own_retR (X : Stand p l e R s m args below meth c T locs cells slots) (hx : p.tables.exec = Jvm.exec) {pc : Nat} {Ls : Array Slot} {b : Addr} {rest : List Value} {t : FieldType} (hret : meth.sig.returnType = some t) (ht : t.isReference = true) (hn : narrow t (.ref b) = .ref b) (hd : decode c.code pc = .ok (.areturn, 1)) {fs : List Frame}
    (hl : ∀ (f : JFrame) (acts : List Action), f.method = m → f.locked = none → f.entered = [] → (doReturn e (T.setTop f) acts (some (.ref b))).1 = T.setFrames fs) : Steps p.tables e below (T.setTop (mkF m pc Ls (.ref b :: rest))) (T.setFrames fs) :=
  retOut X hx hret hn (Or.inr (Or.inr (Or.inr (Or.inr ⟨rfl, ht, rfl⟩)))) hd hl
theorem own_lrem_mod (x y : Int64) : x - (x / y) * y = x % y := by
  apply Int64.toInt_inj.mp
  have h1 := Int64.le_toInt (x % y)
  have h2 := Int64.toInt_lt (x % y)
  rw [Int64.toInt_sub, Int64.toInt_mul, Int64.toInt_div, Int.bmod_mul_bmod, Int.sub_bmod_bmod, Int.mul_comm (x.toInt.tdiv y.toInt), ← Int.tmod_def, ← Int64.toInt_mod]
  exact Int.bmod_eq_of_le_mul_two (by omega) (by omega)
theorem own_lremM {tb : Tables} [Ours tb] {e : Env} {below : List Frame} {T target : State} {m : MethodId} {c : Code} {g : JFrame} (h : At T m c below) (hx : tb.exec = Jvm.exec) (hg : g.method = m) {x y : Int64} {rest : List Value} (hd : decode c.code g.pc = .ok (.lrem, 1)) (hs : g.stack = .long y :: .long x :: rest) (hy : y ≠ 0)
    (hr : Steps tb e below (T.setTop { g with pc := g.pc + 1, stack := .long (x % y) :: rest }) target) : Steps tb e below (T.setTop g) target :=
  XS.lrem h hx hg hd hs hy (by rw [own_lrem_mod]; exact hr)
end Own
theorem own_hgt (z : Int32) : ifCond.holds .gt z = decide (z > 0) := rfl
theorem own_hlt (z : Int32) : ifCond.holds .lt z = decide (z < 0) := rfl
theorem own_heq (z : Int32) : ifCond.holds .eq z = (z == 0) := rfl
theorem own_hge (z : Int32) : ifCond.holds .ge z = decide (z ≥ 0) := rfl
theorem own_hle (z : Int32) : ifCond.holds .le z = decide (z ≤ 0) := rfl
theorem own_hne (z : Int32) : ifCond.holds .ne z = (z != 0) := rfl
theorem own_lc1 {x y : Int64} (h : y < x) : lcmpW x y = 1 := if_pos h
theorem own_lc0 {x y : Int64} (h : x = y) : lcmpW x y = 0 := by
  have h1 : ¬ y < x := by rw [h, Int64.lt_iff_toInt_lt]; omega
  exact (if_neg h1).trans (if_pos h)
theorem own_lcm {x y : Int64} (h : x < y) : lcmpW x y = -1 := by
  have h1 : ¬ y < x := by rw [Int64.lt_iff_toInt_lt] at *; omega
  have h2 : ¬ x = y := fun q => by rw [q, Int64.lt_iff_toInt_lt] at h; omega
  exact (if_neg h1).trans (if_neg h2)
theorem own_tri (x y : Int64) : x < y ∨ x = y ∨ y < x := by
  rw [Int64.lt_iff_toInt_lt, Int64.lt_iff_toInt_lt, ← Int64.toInt_inj]; omega
theorem own_nlt {x y : Int64} (h : x < y) : ¬ y < x ∧ ¬ x = y := by
  rw [Int64.lt_iff_toInt_lt] at *
  exact ⟨by omega, fun q => by rw [q] at h; omega⟩
theorem own_Tlt {x y : Int64} (h : x < y) : ifCond.holds .lt (lcmpW x y) = true ∧ ifCond.holds .ge (lcmpW x y) = false := by rw [own_lcm h]; decide
theorem own_Flt {x y : Int64} (h : ¬ x < y) : ifCond.holds .lt (lcmpW x y) = false ∧ ifCond.holds .ge (lcmpW x y) = true := by
  rcases own_tri x y with q | q | q
  · exact absurd q h
  · rw [own_lc0 q]; decide
  · rw [own_lc1 q]; decide
theorem own_Tgt {x y : Int64} (h : y < x) : ifCond.holds .gt (lcmpW x y) = true ∧ ifCond.holds .le (lcmpW x y) = false := by rw [own_lc1 h]; decide
theorem own_Fgt {x y : Int64} (h : ¬ y < x) : ifCond.holds .gt (lcmpW x y) = false ∧ ifCond.holds .le (lcmpW x y) = true := by
  rcases own_tri x y with q | q | q
  · rw [own_lcm q]; decide
  · rw [own_lc0 q]; decide
  · exact absurd q h
theorem own_Teq {x y : Int64} (h : x = y) : ifCond.holds .eq (lcmpW x y) = true ∧ ifCond.holds .ne (lcmpW x y) = false := by rw [own_lc0 h]; decide
theorem own_Feq {x y : Int64} (h : ¬ x = y) : ifCond.holds .eq (lcmpW x y) = false ∧ ifCond.holds .ne (lcmpW x y) = true := by
  rcases own_tri x y with q | q | q
  · rw [own_lcm q]; decide
  · exact absurd q h
  · rw [own_lc1 q]; decide
/-! arrays as functions: what place i of the array holds -/
section OwnH
variable {p : Program} {l : Launch} {e : Env} {R : Room} {s : State} {m : MethodId} {args : Array Value} {below : List Frame} {meth : Method} {c : Code} {T : State} {locs : List Loc} {cells slots : Nat} {Z : State} {h h' : Heap} {a b : Addr} {z j : Int32} {ty : FieldType} {ws : List Addr} {sl : Nat} {w : Value}
def own_AI (Z : State) (h : Heap) (a : Addr) (ty : FieldType) (z : Int32) (f : Nat → Int32) : Prop := ∃ c : Cell, Arr Z h a c ty ∧ c.slots.size = z.toNatClampNeg ∧ ¬ z < 0 ∧ ∀ i, i < c.slots.size → c.slots[i]? = some (.int (f i))
def own_AJ (Z : State) (h : Heap) (a : Addr) (z : Int32) (f : Nat → Int64) : Prop := ∃ c : Cell, Arr Z h a c .long ∧ c.slots.size = z.toNatClampNeg ∧ ¬ z < 0 ∧ ∀ i, i < c.slots.size → c.slots[i]? = some (.long (f i))
def own_upd {α : Type} (f : Nat → α) (k : Nat) (v : α) : Nat → α := fun i => if i = k then v else f i
theorem own_slots (c : Cell) (k : Nat) (v : Value) : (c.setSlot k v).slots = c.slots.setIfInBounds k v := rfl
theorem own_AI.ext {f : Nat → Int32} (A : own_AI Z h a ty z f) (E : Ext h h') : own_AI Z h' a ty z f := by obtain ⟨c, A1, r⟩ := A; exact ⟨c, A1.ext E, r⟩
theorem own_AI.other {f : Nat → Int32} (A : own_AI Z h a ty z f) (W : Wr h h' b sl w) (q : a ≠ b) : own_AI Z h' a ty z f := by obtain ⟨c, A1, r⟩ := A; exact ⟨c, A1.other W q, r⟩
theorem own_AI.keep {f : Nat → Int32} (A : own_AI Z h a ty z f) (K : Keep h h' ws) (q : a ∉ ws) : own_AI Z h' a ty z f := by obtain ⟨c, A1, r⟩ := A; exact ⟨c, ⟨K.2.1 a c A1.1 q, A1.2⟩, r⟩
theorem own_AI.lt {f : Nat → Int32} (A : own_AI Z h a ty z f) : a < h.size := by obtain ⟨c, A1, -⟩ := A; exact A1.lt
theorem own_AI.set {f : Nat → Int32} {k : Nat} {v : Int32} (A : own_AI Z h a ty z f) (W : Wr h h' a k (.int v)) : own_AI Z h' a ty z (own_upd f k v) := by
  obtain ⟨c, A1, S, M, H⟩ := A
  refine ⟨_, A1.same W, by rw [sz_set]; exact S, M, fun i hi => ?_⟩
  rw [sz_set] at hi
  rw [own_slots]
  by_cases q : i = k
  · subst q
    rw [Array.getElem?_setIfInBounds_self_of_lt hi]
    exact congrArg (fun u => some (Value.int u)) (if_pos rfl).symm
  · rw [Array.getElem?_setIfInBounds_ne (fun u => q u.symm), H i hi]
    exact congrArg (fun u => some (Value.int u)) (if_neg q).symm
theorem own_AI.new {k : ClassId} (A : Arr Z h a (newA k ty z) ty) (q : ¬ z < 0) (hd : defaultValue ty = .int 0) : own_AI Z h a ty z (fun _ => 0) := by
  obtain ⟨c, A1, -, S, M, H, -⟩ := Arv.new A q
  refine ⟨c, A1, S, M, fun i hi => ?_⟩
  rw [H i hi, ← hd]; rfl
theorem own_AI.congr {f f' : Nat → Int32} (A : own_AI Z h a ty z f) (q : ∀ i, i < z.toNatClampNeg → f i = f' i) : own_AI Z h a ty z f' := by
  obtain ⟨c, A1, S, M, H⟩ := A
  exact ⟨c, A1, S, M, fun i hi => by rw [H i hi, q i (S ▸ hi)]⟩
theorem own_AJ.ext {f : Nat → Int64} (A : own_AJ Z h a z f) (E : Ext h h') : own_AJ Z h' a z f := by obtain ⟨c, A1, r⟩ := A; exact ⟨c, A1.ext E, r⟩
theorem own_AJ.other {f : Nat → Int64} (A : own_AJ Z h a z f) (W : Wr h h' b sl w) (q : a ≠ b) : own_AJ Z h' a z f := by obtain ⟨c, A1, r⟩ := A; exact ⟨c, A1.other W q, r⟩
theorem own_AJ.keep {f : Nat → Int64} (A : own_AJ Z h a z f) (K : Keep h h' ws) (q : a ∉ ws) : own_AJ Z h' a z f := by obtain ⟨c, A1, r⟩ := A; exact ⟨c, ⟨K.2.1 a c A1.1 q, A1.2⟩, r⟩
theorem own_AJ.lt {f : Nat → Int64} (A : own_AJ Z h a z f) : a < h.size := by obtain ⟨c, A1, -⟩ := A; exact A1.lt
theorem own_AJ.set {f : Nat → Int64} {k : Nat} {v : Int64} (A : own_AJ Z h a z f) (W : Wr h h' a k (.long v)) : own_AJ Z h' a z (own_upd f k v) := by
  obtain ⟨c, A1, S, M, H⟩ := A
  refine ⟨_, A1.same W, by rw [sz_set]; exact S, M, fun i hi => ?_⟩
  rw [sz_set] at hi
  rw [own_slots]
  by_cases q : i = k
  · subst q
    rw [Array.getElem?_setIfInBounds_self_of_lt hi]
    exact congrArg (fun u => some (Value.long u)) (if_pos rfl).symm
  · rw [Array.getElem?_setIfInBounds_ne (fun u => q u.symm), H i hi]
    exact congrArg (fun u => some (Value.long u)) (if_neg q).symm
theorem own_AJ.new {k : ClassId} (A : Arr Z h a (newA k .long z) .long) (q : ¬ z < 0) : own_AJ Z h a z (fun _ => 0) := by
  obtain ⟨c, A1, -, S, M, H, -⟩ := Arv.new A q
  refine ⟨c, A1, S, M, fun i hi => ?_⟩
  rw [H i hi]; rfl
theorem own_ldI {f : Nat → Int32} (X : Stand p l e R s m args below meth c T locs cells slots) (hx : p.tables.exec = Jvm.exec) (hZ : Z.Warmed39 s.vm) (eT : T.heap = h) (A : own_AI Z h a .int z f) (h0 : ¬ j < 0) (h1 : j < z) {g : JFrame} (hg : g.method = m) {rest : List Value} (hs : g.stack = .int j :: .ref a :: rest) (hd : decode c.code g.pc = .ok (.iaload, 1)) :
    ∀ t, Steps p.tables e below (T.setTop { g with pc := g.pc + 1, stack := .int (f j.toNatClampNeg) :: rest }) t → Steps p.tables e below (T.setTop g) t := by
  obtain ⟨c, A1, S, M, H⟩ := A
  have hin := inb_of S ⟨h0, h1⟩
  exact fun t k => X.iaload hx (by rw [eT]; exact A1.1) (State.isArrayOf_alike hZ.alike A1.2.1) A1.2.2 hin (H _ (Nat.lt_of_not_le fun q => hin (Or.inr q))) hg hs hd t k
theorem own_ldB {f : Nat → Int32} (X : Stand p l e R s m args below meth c T locs cells slots) (hx : p.tables.exec = Jvm.exec) (hZ : Z.Warmed39 s.vm) (eT : T.heap = h) (A : own_AI Z h a .byte z f) (h0 : ¬ j < 0) (h1 : j < z) {g : JFrame} (hg : g.method = m) {rest : List Value} (hs : g.stack = .int j :: .ref a :: rest) (hd : decode c.code g.pc = .ok (.baload, 1)) :
    ∀ t, Steps p.tables e below (T.setTop { g with pc := g.pc + 1, stack := .int (f j.toNatClampNeg) :: rest }) t → Steps p.tables e below (T.setTop g) t := by
  obtain ⟨c, A1, S, M, H⟩ := A
  have hin := inb_of S ⟨h0, h1⟩
  exact fun t k => X.baloadBytes hx (by rw [eT]; exact A1.1) (State.isArrayOf_alike hZ.alike A1.2.1) A1.2.2 hin (H _ (Nat.lt_of_not_le fun q => hin (Or.inr q))) hg hs hd t k
theorem own_ldJ {f : Nat → Int64} (X : Stand p l e R s m args below meth c T locs cells slots) (hx : p.tables.exec = Jvm.exec) (hZ : Z.Warmed39 s.vm) (eT : T.heap = h) (A : own_AJ Z h a z f) (h0 : ¬ j < 0) (h1 : j < z) {g : JFrame} (hg : g.method = m) {rest : List Value} (hs : g.stack = .int j :: .ref a :: rest) (hd : decode c.code g.pc = .ok (.laload, 1)) :
    ∀ t, Steps p.tables e below (T.setTop { g with pc := g.pc + 1, stack := .long (f j.toNatClampNeg) :: rest }) t → Steps p.tables e below (T.setTop g) t := by
  obtain ⟨c, A1, S, M, H⟩ := A
  have hin := inb_of S ⟨h0, h1⟩
  exact fun t k => X.laload hx (by rw [eT]; exact A1.1) (State.isArrayOf_alike hZ.alike A1.2.1) A1.2.2 hin (H _ (Nat.lt_of_not_le fun q => hin (Or.inr q))) hg hs hd t k
theorem own_lenI {f : Nat → Int32} (X : Stand p l e R s m args below meth c T locs cells slots) (hx : p.tables.exec = Jvm.exec) (hZ : Z.Warmed39 s.vm) (eT : T.heap = h) (A : own_AI Z h a ty z f) {g : JFrame} (hg : g.method = m) {rest : List Value} (hs : g.stack = .ref a :: rest) (hd : decode c.code g.pc = .ok (.arraylength, 1)) :
    ∀ t, Steps p.tables e below (T.setTop { g with pc := g.pc + 1, stack := .int z :: rest }) t → Steps p.tables e below (T.setTop g) t := by
  obtain ⟨c, A1, S, M, H⟩ := A
  exact fun t k => X.arraylength hx (by rw [eT]; exact A1.1) (State.isArrayOf_alike hZ.alike A1.2.1) hg hs hd t (by rw [len_of S M]; exact k)
theorem own_lenJ {f : Nat → Int64} (X : Stand p l e R s m args below meth c T locs cells slots) (hx : p.tables.exec = Jvm.exec) (hZ : Z.Warmed39 s.vm) (eT : T.heap = h) (A : own_AJ Z h a z f) {g : JFrame} (hg : g.method = m) {rest : List Value} (hs : g.stack = .ref a :: rest) (hd : decode c.code g.pc = .ok (.arraylength, 1)) :
    ∀ t, Steps p.tables e below (T.setTop { g with pc := g.pc + 1, stack := .int z :: rest }) t → Steps p.tables e below (T.setTop g) t := by
  obtain ⟨c, A1, S, M, H⟩ := A
  exact fun t k => X.arraylength hx (by rw [eT]; exact A1.1) (State.isArrayOf_alike hZ.alike A1.2.1) hg hs hd t (by rw [len_of S M]; exact k)
theorem own_stI {f : Nat → Int32} {x : Int32} (X : Stand p l e R s m args below meth c T locs cells slots) (hx : p.tables.exec = Jvm.exec) (hZ : Z.Warmed39 s.vm) (eT : T.heap = h) (A : own_AI Z h a .int z f) (h0 : ¬ j < 0) (h1 : j < z) {g : JFrame} (hg : g.method = m) {rest : List Value} (hs : g.stack = .int x :: .int j :: .ref a :: rest) (hd : decode c.code g.pc = .ok (.iastore, 1)) :
    ∃ T' h', Stand p l e R s m args below meth c T' (locs ++ [⟨a, j.toNatClampNeg⟩]) cells slots ∧ T'.heap = h' ∧ Wr h h' a j.toNatClampNeg (.int x) ∧ own_AI Z h' a .int z (own_upd f j.toNatClampNeg x) ∧ ∀ t, Steps p.tables e below (T'.setTop { g with pc := g.pc + 1, stack := rest }) t → Steps p.tables e below (T.setTop g) t := by
  obtain ⟨c, A1, S, M, H⟩ := A
  obtain ⟨T', h', X', e', W, st⟩ := stI X hx hZ eT A1 (inb_of S ⟨h0, h1⟩) hg hs hd
  exact ⟨T', h', X', e', W, own_AI.set ⟨c, A1, S, M, H⟩ W, st⟩
theorem own_stB {f : Nat → Int32} {x : Int32} (X : Stand p l e R s m args below meth c T locs cells slots) (hx : p.tables.exec = Jvm.exec) (hZ : Z.Warmed39 s.vm) (eT : T.heap = h) (A : own_AI Z h a .byte z f) (h0 : ¬ j < 0) (h1 : j < z) {g : JFrame} (hg : g.method = m) {rest : List Value} (hs : g.stack = .int x :: .int j :: .ref a :: rest) (hd : decode c.code g.pc = .ok (.bastore, 1)) :
    ∃ T' h', Stand p l e R s m args below meth c T' (locs ++ [⟨a, j.toNatClampNeg⟩]) cells slots ∧ T'.heap = h' ∧ Wr h h' a j.toNatClampNeg (.int (nar .byte x)) ∧ own_AI Z h' a .byte z (own_upd f j.toNatClampNeg (nar .byte x)) ∧ ∀ t, Steps p.tables e below (T'.setTop { g with pc := g.pc + 1, stack := rest }) t → Steps p.tables e below (T.setTop g) t := by
  obtain ⟨c, A1, S, M, H⟩ := A
  obtain ⟨T', h', X', e', W, st⟩ := stB X hx hZ eT A1 (inb_of S ⟨h0, h1⟩) hg hs hd
  exact ⟨T', h', X', e', W, own_AI.set ⟨c, A1, S, M, H⟩ W, st⟩
theorem own_stJ {f : Nat → Int64} {x : Int64} (X : Stand p l e R s m args below meth c T locs cells slots) (hx : p.tables.exec = Jvm.exec) (hZ : Z.Warmed39 s.vm) (eT : T.heap = h) (A : own_AJ Z h a z f) (h0 : ¬ j < 0) (h1 : j < z) {g : JFrame} (hg : g.method = m) {rest : List Value} (hs : g.stack = .long x :: .int j :: .ref a :: rest) (hd : decode c.code g.pc = .ok (.lastore, 1)) :
    ∃ T' h', Stand p l e R s m args below meth c T' (locs ++ [⟨a, j.toNatClampNeg⟩]) cells slots ∧ T'.heap = h' ∧ Wr h h' a j.toNatClampNeg (.long x) ∧ own_AJ Z h' a z (own_upd f j.toNatClampNeg x) ∧ ∀ t, Steps p.tables e below (T'.setTop { g with pc := g.pc + 1, stack := rest }) t → Steps p.tables e below (T.setTop g) t := by
  obtain ⟨c, A1, S, M, H⟩ := A
  obtain ⟨T', h', X', e', W, st⟩ := stJ X hx hZ eT A1 (inb_of S ⟨h0, h1⟩) hg hs hd
  exact ⟨T', h', X', e', W, own_AJ.set ⟨c, A1, S, M, H⟩ W, st⟩
end OwnH
theorem own_clamp {n : Nat} (h : n < 2147483648) : (Int32.ofNat n).toNatClampNeg = n := by
  have e : (Int32.ofNat n).toInt = n := Int32.toInt_ofNat_of_lt (by omega)
  show (Int32.ofNat n).toInt.toNat = n
  rw [e]; rfl
theorem own_ofNat {n : Nat} (h : n < 2147483648) : (Int32.ofNat n).toInt = n := Int32.toInt_ofNat_of_lt (by omega)
theorem own_nn {n : Nat} (h : n < 2147483648) : ¬ Int32.ofNat n < 0 := by
  have e0 : (0 : Int32).toInt = 0 := by decide
  rw [Int32.lt_iff_toInt_lt, own_ofNat h, e0]; omega
theorem own_ltN {i n : Nat} (h : i < n) (hn : n < 2147483648) : Int32.ofNat i < Int32.ofNat n := by
  rw [Int32.lt_iff_toInt_lt, own_ofNat (by omega), own_ofNat hn]; omega
theorem own_succ (i : Nat) : Int32.ofNat i + (1 : Int32) = Int32.ofNat (i + 1) := (Int32.ofNat_add i 1).symm
/-! arrays of two places -/
section OwnP
variable {Z : State} {h : Heap} {a : Addr} {ty : FieldType}
def own_2 {α : Type} (x y : α) : Nat → α := fun i => if i = 0 then x else y
theorem own_AJ.congr {z : Int32} {f f' : Nat → Int64} (A : own_AJ Z h a z f) (q : ∀ i, i < z.toNatClampNeg → f i = f' i) : own_AJ Z h a z f' := by
  obtain ⟨c, A1, S, M, H⟩ := A
  exact ⟨c, A1, S, M, fun i hi => by rw [H i hi, q i (S ▸ hi)]⟩
theorem own_lt2 {P : Nat → Prop} (h0 : P 0) (h1 : P 1) : ∀ i, i < (2 : Int32).toNatClampNeg → P i := fun i hi => by
  have q : i < 2 := hi
  rcases (by omega : i = 0 ∨ i = 1) with rfl | rfl
  · exact h0
  · exact h1
theorem own_AI.z2 (A : own_AI Z h a ty (2 : Int32) (fun _ => 0)) : own_AI Z h a ty (2 : Int32) (own_2 (0 : Int32) (0 : Int32)) := A.congr (own_lt2 rfl rfl)
theorem own_AI.st0 {x y v : Int32} (A : own_AI Z h a ty (2 : Int32) (own_upd (own_2 x y) (0 : Int32).toNatClampNeg v)) : own_AI Z h a ty (2 : Int32) (own_2 v y) := A.congr (own_lt2 rfl rfl)
theorem own_AI.st1 {x y v : Int32} (A : own_AI Z h a ty (2 : Int32) (own_upd (own_2 x y) (1 : Int32).toNatClampNeg v)) : own_AI Z h a ty (2 : Int32) (own_2 x v) := A.congr (own_lt2 rfl rfl)
theorem own_AJ.z2 (A : own_AJ Z h a (2 : Int32) (fun _ => 0)) : own_AJ Z h a (2 : Int32) (own_2 (0 : Int64) (0 : Int64)) := A.congr (own_lt2 rfl rfl)
theorem own_AJ.st0 {x y v : Int64} (A : own_AJ Z h a (2 : Int32) (own_upd (own_2 x y) (0 : Int32).toNatClampNeg v)) : own_AJ Z h a (2 : Int32) (own_2 v y) := A.congr (own_lt2 rfl rfl)
theorem own_AJ.st1 {x y v : Int64} (A : own_AJ Z h a (2 : Int32) (own_upd (own_2 x y) (1 : Int32).toNatClampNeg v)) : own_AJ Z h a (2 : Int32) (own_2 x v) := A.congr (own_lt2 rfl rfl)
end OwnP
def own_W (Z : State) (h : Heap) (n0 : Nat) (a bm bs bl : Addr) (m0 m1 lw : Int64) (s0 s1 l0 l1 o : Int32) : Prop :=
  Exa Z h a "sluice/stream/Watermarks" ∧ Fld Z h a "sluice/stream/Watermarks" "lowest" "J" (.long lw) ∧ Fld Z h a "sluice/stream/Watermarks" "marks" "[J" (.ref bm) ∧ Fld Z h a "sluice/stream/Watermarks" "states" "[B" (.ref bs) ∧ Fld Z h a "sluice/stream/Watermarks" "live" "[I" (.ref bl) ∧ Fld Z h a "sluice/stream/Watermarks" "open" "I" (.int o) ∧
  own_AJ Z h bm (2 : Int32) (own_2 m0 m1) ∧ own_AI Z h bs .byte (2 : Int32) (own_2 s0 s1) ∧ own_AI Z h bl .int (2 : Int32) (own_2 l0 l1) ∧ n0 ≤ a ∧ n0 ≤ bm ∧ n0 ≤ bs ∧ n0 ≤ bl ∧ a ≠ bm ∧ a ≠ bs ∧ a ≠ bl ∧ bm ≠ bs ∧ bm ≠ bl ∧ bs ≠ bl
/-! body 6: min -/
theorem d6_0 : decode jdk_29_method_70_code 0 = .ok (.lload_n 0, 1) := by decide +kernel
theorem d6_1 : decode jdk_29_method_70_code 1 = .ok (.lload_n 2, 1) := by decide +kernel
theorem d6_2 : decode jdk_29_method_70_code 2 = .ok (.lcmp, 1) := by decide +kernel
theorem d6_3 : decode jdk_29_method_70_code 3 = .ok (.ifCond .gt 7, 3) := by decide +kernel
theorem d6_6 : decode jdk_29_method_70_code 6 = .ok (.lload_n 0, 1) := by decide +kernel
theorem d6_7 : decode jdk_29_method_70_code 7 = .ok (.goto 4, 3) := by decide +kernel
theorem d6_10 : decode jdk_29_method_70_code 10 = .ok (.lload_n 2, 1) := by decide +kernel
theorem d6_11 : decode jdk_29_method_70_code 11 = .ok (.lreturn, 1) := by decide +kernel
theorem ef6 (m : MethodId) (q1 : Int64) (q2 : Int64) : entryFrame m #[(.long q1), (.long q2)] 4 = mkF m 0 #[.val (.long q1), .second, .val (.long q2), .second] [] := by first | (simp [entryFrame, mkF, argsToLocals, Value.category]; done) | rfl
def fn6 (q1 : Int64) (q2 : Int64) : Int64 :=
  let u11s0 : Int64 := (if q2 < q1 then q2 else q1)
  u11s0
def Q6 (Z : State) (q1 : Int64) (q2 : Int64) (h0 : Heap) (n0 : Nat) (v : Option Value) (h : Heap) (L : List Loc) : Prop := v = some (.long (fn6 q1 q2)) ∧ Fr n0 L ∧ h = h0
set_option maxRecDepth 65536 in
set_option maxHeartbeats 40000000 in
theorem rm6 (l : Launch) (Z : State) (a0 : Array Value) (hw : ∀ d ∈ tables_1, d.before a0 Z = true) (ws : List Jvm.Cond) (q1 : Int64) (q2 : Int64) (h0 : Heap) (n0 : Nat) (Z0 : n0 ≤ h0.size) :
    MetFree l (⟨"java/lang/Math", "min", "(JJ)J"⟩ : MethodName) (head1 (Jvm.Cond.code (⟨"java/lang/Math", "min", "(JJ)J"⟩ : MethodName) jdk_29_method_70_code 4 (some .long) :: ws) ({ frames := 0, cells := 0, slots := 0, locals := 0 } : Room)) (fun a U => a = #[(.long q1), (.long q2)] ∧ Z.Warmed39 U.vm ∧ U.heap = h0) (fun _ _ _ _ _ => True) (fun _ U o U' => ∃ v L, o = .returned v ∧ Q6 Z q1 q2 h0 n0 v U'.heap L ∧ FrameEnd U o U' L ({ frames := 0, cells := 0, slots := 0, locals := 0 } : Room).cells ({ frames := 0, cells := 0, slots := 0, locals := 0 } : Room).slots) := by
  refine MetFree.of_bodySF (Jvm.Free.JP.mathPlain rfl (by decide +kernel)) hisR ?_
  intro p e s m args below meth c s₁ Bd hml0 hP hK
  obtain ⟨rfl, hZ, hh⟩ := hP
  have hx := Bd.exec
  have hby := Bd.bytes
  have hml : c.maxLocals = 4 := hml0
  have hown : s.vm.findClass "java/lang/Math" = some m.cls := findClass_of_methodNamed Bd.named
  have hnm := (name_of_methodNamed Bd.named Bd.method).1
  have X0 : Stand p l e ({ frames := 0, cells := 0, slots := 0, locals := 0 } : Room) s m #[(.long q1), (.long q2)] below meth c s₁ [] 0 0 := Stand.of_body Bd
  have e0 : s₁.heap = h0 := by rw [← hh, Bd.state]; rfl
  have N0 := Fr.nil n0
  have pre0 : ∀ t, Steps p.tables e below (s₁.setTop (mkF m 0 #[.val (.long q1), .second, .val (.long q2), .second] [])) t → Steps p.tables e below (s₁.setTop (entryFrame m #[(.long q1), (.long q2)] 4)) t := fun t k => castTop (ef6 m q1 q2) k
  obtain ⟨u11s0, hu11s0⟩ : ∃ z : Int64, z = (if q2 < q1 then q2 else q1) := ⟨_, rfl⟩
  have pre1 : ∀ t, Steps p.tables e below (s₁.setTop (mkF m 11 #[.val (.long q1), .second, .val (.long q2), .second] [(.long u11s0)])) t → Steps p.tables e below (s₁.setTop (entryFrame m #[(.long q1), (.long q2)] 4)) t := by
    intro t k
    subst hu11s0
    refine pre0 t ?_
    show Steps p.tables e below (s₁.setTop (mkF m 0 #[.val (.long q1), .second, .val (.long q2), .second] [])) _
    refine XS.lloadN X0.here hx rfl (hb hby d6_0) rfl ?_
    show Steps p.tables e below (s₁.setTop (mkF m 1 #[.val (.long q1), .second, .val (.long q2), .second] [(.long q1)])) _
    refine XS.lloadN X0.here hx rfl (hb hby d6_1) rfl ?_
    show Steps p.tables e below (s₁.setTop (mkF m 2 #[.val (.long q1), .second, .val (.long q2), .second] [(.long q2), (.long q1)])) _
    refine XS.lcmp X0.here hx rfl (hb hby d6_2) rfl ?_
    show Steps p.tables e below (s₁.setTop (mkF m 3 #[.val (.long q1), .second, .val (.long q2), .second] [(.int (lcmpW q1 q2))])) _
    by_cases hb3 : q2 < q1
    · simp only [if_pos hb3] at k
      refine XS.ifYes X0.here hx rfl (pc0 := 3) (pc' := 10) rfl (hb hby d6_3) rfl (own_Tgt hb3).1 (by decide) (by decide) ?_
      show Steps p.tables e below (s₁.setTop (mkF m 10 #[.val (.long q1), .second, .val (.long q2), .second] [])) _
      refine XS.lloadN X0.here hx rfl (hb hby d6_10) rfl ?_
      show Steps p.tables e below (s₁.setTop (mkF m 11 #[.val (.long q1), .second, .val (.long q2), .second] [(.long q2)])) _
      exact k
    · simp only [if_neg hb3] at k
      refine XS.ifNo X0.here hx rfl (hb hby d6_3) rfl (own_Fgt hb3).1 ?_
      show Steps p.tables e below (s₁.setTop (mkF m 6 #[.val (.long q1), .second, .val (.long q2), .second] [])) _
      refine XS.lloadN X0.here hx rfl (hb hby d6_6) rfl ?_
      show Steps p.tables e below (s₁.setTop (mkF m 7 #[.val (.long q1), .second, .val (.long q2), .second] [(.long q1)])) _
      refine XS.goto X0.here hx rfl (pc0 := 7) (pc' := 11) rfl (hb hby d6_7) (by decide) (by decide) ?_
      show Steps p.tables e below (s₁.setTop (mkF m 11 #[.val (.long q1), .second, .val (.long q2), .second] [(.long q1)])) _
      exact k
  obtain ⟨fs, hr, hrun, hended, hW, hsame⟩ := X0.leave (v := some (.long u11s0)) (fun h => by rw [Bd.returns] at h; cases h)
  refine ⟨_, _, pre1 _ ?_, hrun, hended, _, _, rfl, ?_, ⟨_, rfl⟩, hW, hsame.mono (by decide) (by decide)⟩
  · show Steps p.tables e below (s₁.setTop (mkF m 11 #[.val (.long q1), .second, .val (.long q2), .second] [(.long u11s0)])) _
    exact own_retJ X0 hx Bd.returns (hb hby d6_11) hr
  · show Q6 Z q1 q2 h0 n0 _ s₁.heap _
    rw [e0]
    refine ⟨?_, N0, rfl⟩
    subst hu11s0
    simp only [fn6]
/-! body 11: max -/
theorem d11_0 : decode jdk_29_method_66_code 0 = .ok (.lload_n 0, 1) := by decide +kernel
theorem d11_1 : decode jdk_29_method_66_code 1 = .ok (.lload_n 2, 1) := by decide +kernel
theorem d11_2 : decode jdk_29_method_66_code 2 = .ok (.lcmp, 1) := by decide +kernel
theorem d11_3 : decode jdk_29_method_66_code 3 = .ok (.ifCond .lt 7, 3) := by decide +kernel
theorem d11_6 : decode jdk_29_method_66_code 6 = .ok (.lload_n 0, 1) := by decide +kernel
theorem d11_7 : decode jdk_29_method_66_code 7 = .ok (.goto 4, 3) := by decide +kernel
theorem d11_10 : decode jdk_29_method_66_code 10 = .ok (.lload_n 2, 1) := by decide +kernel
theorem d11_11 : decode jdk_29_method_66_code 11 = .ok (.lreturn, 1) := by decide +kernel
theorem ef11 (m : MethodId) (q1 : Int64) (q2 : Int64) : entryFrame m #[(.long q1), (.long q2)] 4 = mkF m 0 #[.val (.long q1), .second, .val (.long q2), .second] [] := by first | (simp [entryFrame, mkF, argsToLocals, Value.category]; done) | rfl
def fn11 (q1 : Int64) (q2 : Int64) : Int64 :=
  let u11s0 : Int64 := (if q1 < q2 then q2 else q1)
  u11s0
def Q11 (Z : State) (q1 : Int64) (q2 : Int64) (h0 : Heap) (n0 : Nat) (v : Option Value) (h : Heap) (L : List Loc) : Prop := v = some (.long (fn11 q1 q2)) ∧ Fr n0 L ∧ h = h0
set_option maxRecDepth 65536 in
set_option maxHeartbeats 40000000 in
theorem rm11 (l : Launch) (Z : State) (a0 : Array Value) (hw : ∀ d ∈ tables_1, d.before a0 Z = true) (ws : List Jvm.Cond) (q1 : Int64) (q2 : Int64) (h0 : Heap) (n0 : Nat) (Z0 : n0 ≤ h0.size) :
    MetFree l (⟨"java/lang/Math", "max", "(JJ)J"⟩ : MethodName) (head1 (Jvm.Cond.code (⟨"java/lang/Math", "max", "(JJ)J"⟩ : MethodName) jdk_29_method_66_code 4 (some .long) :: ws) ({ frames := 0, cells := 0, slots := 0, locals := 0 } : Room)) (fun a U => a = #[(.long q1), (.long q2)] ∧ Z.Warmed39 U.vm ∧ U.heap = h0) (fun _ _ _ _ _ => True) (fun _ U o U' => ∃ v L, o = .returned v ∧ Q11 Z q1 q2 h0 n0 v U'.heap L ∧ FrameEnd U o U' L ({ frames := 0, cells := 0, slots := 0, locals := 0 } : Room).cells ({ frames := 0, cells := 0, slots := 0, locals := 0 } : Room).slots) := by
  refine MetFree.of_bodySF (Jvm.Free.JP.mathPlain rfl (by decide +kernel)) hisR ?_
  intro p e s m args below meth c s₁ Bd hml0 hP hK
  obtain ⟨rfl, hZ, hh⟩ := hP
  have hx := Bd.exec
  have hby := Bd.bytes
  have hml : c.maxLocals = 4 := hml0
  have hown : s.vm.findClass "java/lang/Math" = some m.cls := findClass_of_methodNamed Bd.named
  have hnm := (name_of_methodNamed Bd.named Bd.method).1
  have X0 : Stand p l e ({ frames := 0, cells := 0, slots := 0, locals := 0 } : Room) s m #[(.long q1), (.long q2)] below meth c s₁ [] 0 0 := Stand.of_body Bd
  have e0 : s₁.heap = h0 := by rw [← hh, Bd.state]; rfl
  have N0 := Fr.nil n0
  have pre0 : ∀ t, Steps p.tables e below (s₁.setTop (mkF m 0 #[.val (.long q1), .second, .val (.long q2), .second] [])) t → Steps p.tables e below (s₁.setTop (entryFrame m #[(.long q1), (.long q2)] 4)) t := fun t k => castTop (ef11 m q1 q2) k
  obtain ⟨u11s0, hu11s0⟩ : ∃ z : Int64, z = (if q1 < q2 then q2 else q1) := ⟨_, rfl⟩
  have pre1 : ∀ t, Steps p.tables e below (s₁.setTop (mkF m 11 #[.val (.long q1), .second, .val (.long q2), .second] [(.long u11s0)])) t → Steps p.tables e below (s₁.setTop (entryFrame m #[(.long q1), (.long q2)] 4)) t := by
    intro t k
    subst hu11s0
    refine pre0 t ?_
    show Steps p.tables e below (s₁.setTop (mkF m 0 #[.val (.long q1), .second, .val (.long q2), .second] [])) _
    refine XS.lloadN X0.here hx rfl (hb hby d11_0) rfl ?_
    show Steps p.tables e below (s₁.setTop (mkF m 1 #[.val (.long q1), .second, .val (.long q2), .second] [(.long q1)])) _
    refine XS.lloadN X0.here hx rfl (hb hby d11_1) rfl ?_
    show Steps p.tables e below (s₁.setTop (mkF m 2 #[.val (.long q1), .second, .val (.long q2), .second] [(.long q2), (.long q1)])) _
    refine XS.lcmp X0.here hx rfl (hb hby d11_2) rfl ?_
    show Steps p.tables e below (s₁.setTop (mkF m 3 #[.val (.long q1), .second, .val (.long q2), .second] [(.int (lcmpW q1 q2))])) _
    by_cases hb3 : q1 < q2
    · simp only [if_pos hb3] at k
      refine XS.ifYes X0.here hx rfl (pc0 := 3) (pc' := 10) rfl (hb hby d11_3) rfl (own_Tlt hb3).1 (by decide) (by decide) ?_
      show Steps p.tables e below (s₁.setTop (mkF m 10 #[.val (.long q1), .second, .val (.long q2), .second] [])) _
      refine XS.lloadN X0.here hx rfl (hb hby d11_10) rfl ?_
      show Steps p.tables e below (s₁.setTop (mkF m 11 #[.val (.long q1), .second, .val (.long q2), .second] [(.long q2)])) _
      exact k
    · simp only [if_neg hb3] at k
      refine XS.ifNo X0.here hx rfl (hb hby d11_3) rfl (own_Flt hb3).1 ?_
      show Steps p.tables e below (s₁.setTop (mkF m 6 #[.val (.long q1), .second, .val (.long q2), .second] [])) _
      refine XS.lloadN X0.here hx rfl (hb hby d11_6) rfl ?_
      show Steps p.tables e below (s₁.setTop (mkF m 7 #[.val (.long q1), .second, .val (.long q2), .second] [(.long q1)])) _
      refine XS.goto X0.here hx rfl (pc0 := 7) (pc' := 11) rfl (hb hby d11_7) (by decide) (by decide) ?_
      show Steps p.tables e below (s₁.setTop (mkF m 11 #[.val (.long q1), .second, .val (.long q2), .second] [(.long q1)])) _
      exact k
  obtain ⟨fs, hr, hrun, hended, hW, hsame⟩ := X0.leave (v := some (.long u11s0)) (fun h => by rw [Bd.returns] at h; cases h)
  refine ⟨_, _, pre1 _ ?_, hrun, hended, _, _, rfl, ?_, ⟨_, rfl⟩, hW, hsame.mono (by decide) (by decide)⟩
  · show Steps p.tables e below (s₁.setTop (mkF m 11 #[.val (.long q1), .second, .val (.long q2), .second] [(.long u11s0)])) _
    exact own_retJ X0 hx Bd.returns (hb hby d11_11) hr
  · show Q11 Z q1 q2 h0 n0 _ s₁.heap _
    rw [e0]
    refine ⟨?_, N0, rfl⟩
    subst hu11s0
    simp only [fn11]
/-! body 3: fill -/
theorem d3_0 : decode jdk_65_method_101_code 0 = .ok (.iconst 0, 1) := by decide +kernel
theorem d3_1 : decode jdk_65_method_101_code 1 = .ok (.istore_n 3, 1) := by decide +kernel
theorem d3_2 : decode jdk_65_method_101_code 2 = .ok (.aload_n 0, 1) := by decide +kernel
theorem d3_3 : decode jdk_65_method_101_code 3 = .ok (.arraylength, 1) := by decide +kernel
theorem d3_4 : decode jdk_65_method_101_code 4 = .ok (.istore 4, 2) := by decide +kernel
theorem d3_6 : decode jdk_65_method_101_code 6 = .ok (.iload_n 3, 1) := by decide +kernel
theorem d3_7 : decode jdk_65_method_101_code 7 = .ok (.iload 4, 2) := by decide +kernel
theorem d3_9 : decode jdk_65_method_101_code 9 = .ok (.if_icmp .ge 13, 3) := by decide +kernel
theorem d3_12 : decode jdk_65_method_101_code 12 = .ok (.aload_n 0, 1) := by decide +kernel
theorem d3_13 : decode jdk_65_method_101_code 13 = .ok (.iload_n 3, 1) := by decide +kernel
theorem d3_14 : decode jdk_65_method_101_code 14 = .ok (.lload_n 1, 1) := by decide +kernel
theorem d3_15 : decode jdk_65_method_101_code 15 = .ok (.lastore, 1) := by decide +kernel
theorem d3_16 : decode jdk_65_method_101_code 16 = .ok (.iinc 3 1, 3) := by decide +kernel
theorem d3_19 : decode jdk_65_method_101_code 19 = .ok (.goto (-13), 3) := by decide +kernel
theorem d3_22 : decode jdk_65_method_101_code 22 = .ok (.return_, 1) := by decide +kernel
theorem pn3 : plainName "java/util/Arrays" = true := by first | (simp [plainName, overriddenIn]; done) | decide +kernel
theorem ef3 (m : MethodId) (a1 : Addr) (q2 : Int64) : entryFrame m #[(.ref a1), (.long q2)] 5 = mkF m 0 #[.val (.ref a1), .val (.long q2), .second, .unset, .unset] [] := by first | (simp [entryFrame, mkF, argsToLocals, Value.category]; done) | rfl
def Q3 (Z : State) (a1 : Addr) (q2 : Int64) (h0 : Heap) (n0 : Nat) (v : Option Value) (h : Heap) (L : List Loc) : Prop := v = none ∧ Fr n0 L ∧ Keep h0 h [a1] ∧ own_AJ Z h a1 (2 : Int32) (own_2 q2 q2)
set_option maxRecDepth 65536 in
set_option maxHeartbeats 40000000 in
theorem rm3 (l : Launch) (Z : State) (a0 : Array Value) (hw : ∀ d ∈ tables_1, d.before a0 Z = true) (ws : List Jvm.Cond) (a1 : Addr) (q2 : Int64) (h0 : Heap) (n0 : Nat) (Z0 : n0 ≤ h0.size) (A0 : own_AJ Z h0 a1 (2 : Int32) (own_2 (0 : Int64) (0 : Int64))) (g_a1 : n0 ≤ a1) :
    MetFree l (⟨"java/util/Arrays", "fill", "([JJ)V"⟩ : MethodName) (head1 (Jvm.Cond.code (⟨"java/util/Arrays", "fill", "([JJ)V"⟩ : MethodName) jdk_65_method_101_code 5 none :: ws) ({ frames := 0, cells := 0, slots := 0, locals := 0 } : Room)) (fun a U => a = #[(.ref a1), (.long q2)] ∧ Z.Warmed39 U.vm ∧ U.heap = h0) (fun _ _ _ _ _ => True) (fun _ U o U' => ∃ v L, o = .returned v ∧ Q3 Z a1 q2 h0 n0 v U'.heap L ∧ FrameEnd U o U' L ({ frames := 0, cells := 0, slots := 0, locals := 0 } : Room).cells ({ frames := 0, cells := 0, slots := 0, locals := 0 } : Room).slots) := by
  refine MetFree.of_bodySF (plainFor_of_name pn3) hisR ?_
  intro p e s m args below meth c s₁ Bd hml0 hP hK
  obtain ⟨rfl, hZ, hh⟩ := hP
  have hx := Bd.exec
  have hby := Bd.bytes
  have hml : c.maxLocals = 5 := hml0
  have hown : s.vm.findClass "java/util/Arrays" = some m.cls := findClass_of_methodNamed Bd.named
  have hnm := (name_of_methodNamed Bd.named Bd.method).1
  have X0 : Stand p l e ({ frames := 0, cells := 0, slots := 0, locals := 0 } : Room) s m #[(.ref a1), (.long q2)] below meth c s₁ [] 0 0 := Stand.of_body Bd
  have e0 : s₁.heap = h0 := by rw [← hh, Bd.state]; rfl
  have N0 := Fr.nil n0
  have pre0 : ∀ t, Steps p.tables e below (s₁.setTop (mkF m 0 #[.val (.ref a1), .val (.long q2), .second, .unset, .unset] [])) t → Steps p.tables e below (s₁.setTop (entryFrame m #[(.ref a1), (.long q2)] 5)) t := fun t k => castTop (ef3 m a1 q2) k
  have K0 := Keep.refl h0 [a1]
  have pre1 : ∀ t, Steps p.tables e below (s₁.setTop (mkF m 15 #[.val (.ref a1), .val (.long q2), .second, .val (.int (0 : Int32)), .val (.int (2 : Int32))] [(.long q2), (.int (0 : Int32)), (.ref a1)])) t → Steps p.tables e below (s₁.setTop (entryFrame m #[(.ref a1), (.long q2)] 5)) t := by
    intro t k
    refine pre0 t ?_
    show Steps p.tables e below (s₁.setTop (mkF m 0 #[.val (.ref a1), .val (.long q2), .second, .unset, .unset] [])) _
    refine XS.iconst X0.here hx rfl (hb hby d3_0) ?_
    show Steps p.tables e below (s₁.setTop (mkF m 1 #[.val (.ref a1), .val (.long q2), .second, .unset, .unset] [(.int (0 : Int32))])) _
    refine XS.istoreN X0.here hx rfl (hb hby d3_1) rfl (l' := #[.val (.ref a1), .val (.long q2), .second, .val (.int (0 : Int32)), .unset]) rfl ?_
    show Steps p.tables e below (s₁.setTop (mkF m 2 #[.val (.ref a1), .val (.long q2), .second, .val (.int (0 : Int32)), .unset] [])) _
    refine XS.aloadN X0.here hx rfl (hb hby d3_2) rfl rfl ?_
    show Steps p.tables e below (s₁.setTop (mkF m 3 #[.val (.ref a1), .val (.long q2), .second, .val (.int (0 : Int32)), .unset] [(.ref a1)])) _
    refine own_lenJ X0 hx hZ e0 A0 (g := (mkF m 3 #[.val (.ref a1), .val (.long q2), .second, .val (.int (0 : Int32)), .unset] [(.ref a1)])) rfl rfl (hb hby d3_3) _ ?_
    show Steps p.tables e below (s₁.setTop (mkF m 4 #[.val (.ref a1), .val (.long q2), .second, .val (.int (0 : Int32)), .unset] [(.int (2 : Int32))])) _
    refine XS.istore X0.here hx rfl (hb hby d3_4) rfl (l' := #[.val (.ref a1), .val (.long q2), .second, .val (.int (0 : Int32)), .val (.int (2 : Int32))]) rfl ?_
    show Steps p.tables e below (s₁.setTop (mkF m 6 #[.val (.ref a1), .val (.long q2), .second, .val (.int (0 : Int32)), .val (.int (2 : Int32))] [])) _
    refine XS.iloadN X0.here hx rfl (hb hby d3_6) rfl ?_
    show Steps p.tables e below (s₁.setTop (mkF m 7 #[.val (.ref a1), .val (.long q2), .second, .val (.int (0 : Int32)), .val (.int (2 : Int32))] [(.int (0 : Int32))])) _
    refine XS.iload X0.here hx rfl (hb hby d3_7) rfl ?_
    show Steps p.tables e below (s₁.setTop (mkF m 9 #[.val (.ref a1), .val (.long q2), .second, .val (.int (0 : Int32)), .val (.int (2 : Int32))] [(.int (2 : Int32)), (.int (0 : Int32))])) _
    refine XS.icmpNo X0.here hx rfl (hb hby d3_9) rfl (tlt (by decide : (0 : Int32) < (2 : Int32))).2.1 ?_
    show Steps p.tables e below (s₁.setTop (mkF m 12 #[.val (.ref a1), .val (.long q2), .second, .val (.int (0 : Int32)), .val (.int (2 : Int32))] [])) _
    refine XS.aloadN X0.here hx rfl (hb hby d3_12) rfl rfl ?_
    show Steps p.tables e below (s₁.setTop (mkF m 13 #[.val (.ref a1), .val (.long q2), .second, .val (.int (0 : Int32)), .val (.int (2 : Int32))] [(.ref a1)])) _
    refine XS.iloadN X0.here hx rfl (hb hby d3_13) rfl ?_
    show Steps p.tables e below (s₁.setTop (mkF m 14 #[.val (.ref a1), .val (.long q2), .second, .val (.int (0 : Int32)), .val (.int (2 : Int32))] [(.int (0 : Int32)), (.ref a1)])) _
    refine XS.lloadN X0.here hx rfl (hb hby d3_14) rfl ?_
    show Steps p.tables e below (s₁.setTop (mkF m 15 #[.val (.ref a1), .val (.long q2), .second, .val (.int (0 : Int32)), .val (.int (2 : Int32))] [(.long q2), (.int (0 : Int32)), (.ref a1)])) _
    exact k
  obtain ⟨T2, h2, X2, e2, W2, V2, st2⟩ := own_stJ X0 hx hZ e0 A0 (by decide) (by decide) (g := (mkF m 15 #[.val (.ref a1), .val (.long q2), .second, .val (.int (0 : Int32)), .val (.int (2 : Int32))] [(.long q2), (.int (0 : Int32)), (.ref a1)])) rfl rfl (hb hby d3_15)
  have F2_0 := V2
  have Z2 : n0 ≤ h2.size := Nat.le_trans Z0 (Keep.of_wr W2).1
  have K2 := Keep.wr K0 W2 (Or.inl (List.mem_of_getElem? (i := 0) rfl))
  have N2 := Fr.snoc X2 N0 g_a1
  have U2 : own_AJ Z h2 a1 (2 : Int32) (own_2 q2 (0 : Int64)) := own_AJ.st0 F2_0
  have pre2 : ∀ t, Steps p.tables e below (T2.setTop (mkF m 16 #[.val (.ref a1), .val (.long q2), .second, .val (.int (0 : Int32)), .val (.int (2 : Int32))] [])) t → Steps p.tables e below (s₁.setTop (entryFrame m #[(.ref a1), (.long q2)] 5)) t := fun t k => pre1 t (st2 _ k)
  have pre3 : ∀ t, Steps p.tables e below (T2.setTop (mkF m 15 #[.val (.ref a1), .val (.long q2), .second, .val (.int (1 : Int32)), .val (.int (2 : Int32))] [(.long q2), (.int (1 : Int32)), (.ref a1)])) t → Steps p.tables e below (s₁.setTop (entryFrame m #[(.ref a1), (.long q2)] 5)) t := by
    intro t k
    refine pre2 t ?_
    refine XS.iinc X2.here hx rfl (hb hby d3_16) rfl (l' := #[.val (.ref a1), .val (.long q2), .second, .val (.int (1 : Int32)), .val (.int (2 : Int32))]) rfl ?_
    show Steps p.tables e below (T2.setTop (mkF m 19 #[.val (.ref a1), .val (.long q2), .second, .val (.int (1 : Int32)), .val (.int (2 : Int32))] [])) _
    refine XS.goto X2.here hx rfl (pc0 := 19) (pc' := 6) rfl (hb hby d3_19) (by decide) (by decide) ?_
    show Steps p.tables e below (T2.setTop (mkF m 6 #[.val (.ref a1), .val (.long q2), .second, .val (.int (1 : Int32)), .val (.int (2 : Int32))] [])) _
    refine XS.iloadN X2.here hx rfl (hb hby d3_6) rfl ?_
    show Steps p.tables e below (T2.setTop (mkF m 7 #[.val (.ref a1), .val (.long q2), .second, .val (.int (1 : Int32)), .val (.int (2 : Int32))] [(.int (1 : Int32))])) _
    refine XS.iload X2.here hx rfl (hb hby d3_7) rfl ?_
    show Steps p.tables e below (T2.setTop (mkF m 9 #[.val (.ref a1), .val (.long q2), .second, .val (.int (1 : Int32)), .val (.int (2 : Int32))] [(.int (2 : Int32)), (.int (1 : Int32))])) _
    refine XS.icmpNo X2.here hx rfl (hb hby d3_9) rfl (tlt (by decide : (1 : Int32) < (2 : Int32))).2.1 ?_
    show Steps p.tables e below (T2.setTop (mkF m 12 #[.val (.ref a1), .val (.long q2), .second, .val (.int (1 : Int32)), .val (.int (2 : Int32))] [])) _
    refine XS.aloadN X2.here hx rfl (hb hby d3_12) rfl rfl ?_
    show Steps p.tables e below (T2.setTop (mkF m 13 #[.val (.ref a1), .val (.long q2), .second, .val (.int (1 : Int32)), .val (.int (2 : Int32))] [(.ref a1)])) _
    refine XS.iloadN X2.here hx rfl (hb hby d3_13) rfl ?_
    show Steps p.tables e below (T2.setTop (mkF m 14 #[.val (.ref a1), .val (.long q2), .second, .val (.int (1 : Int32)), .val (.int (2 : Int32))] [(.int (1 : Int32)), (.ref a1)])) _
    refine XS.lloadN X2.here hx rfl (hb hby d3_14) rfl ?_
    show Steps p.tables e below (T2.setTop (mkF m 15 #[.val (.ref a1), .val (.long q2), .second, .val (.int (1 : Int32)), .val (.int (2 : Int32))] [(.long q2), (.int (1 : Int32)), (.ref a1)])) _
    exact k
  obtain ⟨T4, h4, X4, e4, W4, V4, st4⟩ := own_stJ X2 hx hZ e2 U2 (by decide) (by decide) (g := (mkF m 15 #[.val (.ref a1), .val (.long q2), .second, .val (.int (1 : Int32)), .val (.int (2 : Int32))] [(.long q2), (.int (1 : Int32)), (.ref a1)])) rfl rfl (hb hby d3_15)
  have F4_0 := V4
  have Z4 : n0 ≤ h4.size := Nat.le_trans Z2 (Keep.of_wr W4).1
  have K4 := Keep.wr K2 W4 (Or.inl (List.mem_of_getElem? (i := 0) rfl))
  have N4 := Fr.snoc X4 N2 g_a1
  have U4 : own_AJ Z h4 a1 (2 : Int32) (own_2 q2 q2) := own_AJ.st1 F4_0
  have pre4 : ∀ t, Steps p.tables e below (T4.setTop (mkF m 16 #[.val (.ref a1), .val (.long q2), .second, .val (.int (1 : Int32)), .val (.int (2 : Int32))] [])) t → Steps p.tables e below (s₁.setTop (entryFrame m #[(.ref a1), (.long q2)] 5)) t := fun t k => pre3 t (st4 _ k)
  have pre5 : ∀ t, Steps p.tables e below (T4.setTop (mkF m 22 #[.val (.ref a1), .val (.long q2), .second, .val (.int (2 : Int32)), .val (.int (2 : Int32))] [])) t → Steps p.tables e below (s₁.setTop (entryFrame m #[(.ref a1), (.long q2)] 5)) t := by
    intro t k
    refine pre4 t ?_
    refine XS.iinc X4.here hx rfl (hb hby d3_16) rfl (l' := #[.val (.ref a1), .val (.long q2), .second, .val (.int (2 : Int32)), .val (.int (2 : Int32))]) rfl ?_
    show Steps p.tables e below (T4.setTop (mkF m 19 #[.val (.ref a1), .val (.long q2), .second, .val (.int (2 : Int32)), .val (.int (2 : Int32))] [])) _
    refine XS.goto X4.here hx rfl (pc0 := 19) (pc' := 6) rfl (hb hby d3_19) (by decide) (by decide) ?_
    show Steps p.tables e below (T4.setTop (mkF m 6 #[.val (.ref a1), .val (.long q2), .second, .val (.int (2 : Int32)), .val (.int (2 : Int32))] [])) _
    refine XS.iloadN X4.here hx rfl (hb hby d3_6) rfl ?_
    show Steps p.tables e below (T4.setTop (mkF m 7 #[.val (.ref a1), .val (.long q2), .second, .val (.int (2 : Int32)), .val (.int (2 : Int32))] [(.int (2 : Int32))])) _
    refine XS.iload X4.here hx rfl (hb hby d3_7) rfl ?_
    show Steps p.tables e below (T4.setTop (mkF m 9 #[.val (.ref a1), .val (.long q2), .second, .val (.int (2 : Int32)), .val (.int (2 : Int32))] [(.int (2 : Int32)), (.int (2 : Int32))])) _
    refine XS.icmpYes X4.here hx rfl (pc0 := 9) (pc' := 22) rfl (hb hby d3_9) rfl (flt (by decide : ¬ (2 : Int32) < (2 : Int32))).2.1 (by decide) (by decide) ?_
    show Steps p.tables e below (T4.setTop (mkF m 22 #[.val (.ref a1), .val (.long q2), .second, .val (.int (2 : Int32)), .val (.int (2 : Int32))] [])) _
    exact k
  obtain ⟨fs, hr, hrun, hended, hW, hsame⟩ := X4.leave (v := none) (fun _ => rfl)
  refine ⟨_, _, pre5 _ ?_, hrun, hended, _, _, rfl, ?_, ⟨_, rfl⟩, hW, hsame.mono (by decide) (by decide)⟩
  · show Steps p.tables e below (T4.setTop (mkF m 22 #[.val (.ref a1), .val (.long q2), .second, .val (.int (2 : Int32)), .val (.int (2 : Int32))] [])) _
    exact X4.returnOut hx Bd.returns (hb hby d3_22) hr
  · show Q3 Z a1 q2 h0 n0 _ T4.heap _
    rw [e4]
    exact ⟨rfl, N4, K4, U4⟩
/-! body 1: init -/
theorem d1_0 : decode prog_183_method_1_code 0 = .ok (.aload_n 0, 1) := by decide +kernel
theorem d1_1 : decode prog_183_method_1_code 1 = .ok (.invokespecial 1, 3) := by decide +kernel
theorem d1_4 : decode prog_183_method_1_code 4 = .ok (.aload_n 0, 1) := by decide +kernel
theorem d1_5 : decode prog_183_method_1_code 5 = .ok (.ldc2_w 9, 3) := by decide +kernel
theorem d1_8 : decode prog_183_method_1_code 8 = .ok (.putfield 11, 3) := by decide +kernel
theorem d1_11 : decode prog_183_method_1_code 11 = .ok (.aload_n 0, 1) := by decide +kernel
theorem d1_12 : decode prog_183_method_1_code 12 = .ok (.iload_n 1, 1) := by decide +kernel
theorem d1_13 : decode prog_183_method_1_code 13 = .ok (.newarray .long, 2) := by decide +kernel
theorem d1_15 : decode prog_183_method_1_code 15 = .ok (.putfield 17, 3) := by decide +kernel
theorem d1_18 : decode prog_183_method_1_code 18 = .ok (.aload_n 0, 1) := by decide +kernel
theorem d1_19 : decode prog_183_method_1_code 19 = .ok (.iload_n 1, 1) := by decide +kernel
theorem d1_20 : decode prog_183_method_1_code 20 = .ok (.newarray .byte, 2) := by decide +kernel
theorem d1_22 : decode prog_183_method_1_code 22 = .ok (.putfield 21, 3) := by decide +kernel
theorem d1_25 : decode prog_183_method_1_code 25 = .ok (.aload_n 0, 1) := by decide +kernel
theorem d1_26 : decode prog_183_method_1_code 26 = .ok (.iload_n 1, 1) := by decide +kernel
theorem d1_27 : decode prog_183_method_1_code 27 = .ok (.newarray .int, 2) := by decide +kernel
theorem d1_29 : decode prog_183_method_1_code 29 = .ok (.putfield 25, 3) := by decide +kernel
theorem d1_32 : decode prog_183_method_1_code 32 = .ok (.aload_n 0, 1) := by decide +kernel
theorem d1_33 : decode prog_183_method_1_code 33 = .ok (.getfield 17, 3) := by decide +kernel
theorem d1_36 : decode prog_183_method_1_code 36 = .ok (.ldc2_w 9, 3) := by decide +kernel
theorem d1_39 : decode prog_183_method_1_code 39 = .ok (.invokestatic 29, 3) := by decide +kernel
theorem d1_42 : decode prog_183_method_1_code 42 = .ok (.iconst 0, 1) := by decide +kernel
theorem d1_43 : decode prog_183_method_1_code 43 = .ok (.istore_n 2, 1) := by decide +kernel
theorem d1_44 : decode prog_183_method_1_code 44 = .ok (.iload_n 2, 1) := by decide +kernel
theorem d1_45 : decode prog_183_method_1_code 45 = .ok (.iload_n 1, 1) := by decide +kernel
theorem d1_46 : decode prog_183_method_1_code 46 = .ok (.if_icmp .ge 16, 3) := by decide +kernel
theorem d1_49 : decode prog_183_method_1_code 49 = .ok (.aload_n 0, 1) := by decide +kernel
theorem d1_50 : decode prog_183_method_1_code 50 = .ok (.getfield 25, 3) := by decide +kernel
theorem d1_53 : decode prog_183_method_1_code 53 = .ok (.iload_n 2, 1) := by decide +kernel
theorem d1_54 : decode prog_183_method_1_code 54 = .ok (.iload_n 2, 1) := by decide +kernel
theorem d1_55 : decode prog_183_method_1_code 55 = .ok (.iastore, 1) := by decide +kernel
theorem d1_56 : decode prog_183_method_1_code 56 = .ok (.iinc 2 1, 3) := by decide +kernel
theorem d1_59 : decode prog_183_method_1_code 59 = .ok (.goto (-15), 3) := by decide +kernel
theorem d1_62 : decode prog_183_method_1_code 62 = .ok (.aload_n 0, 1) := by decide +kernel
theorem d1_63 : decode prog_183_method_1_code 63 = .ok (.iload_n 1, 1) := by decide +kernel
theorem d1_64 : decode prog_183_method_1_code 64 = .ok (.putfield 35, 3) := by decide +kernel
theorem d1_67 : decode prog_183_method_1_code 67 = .ok (.return_, 1) := by decide +kernel
theorem pd1_0 : parseMethodDescriptor "([JJ)V" = some ⟨[(.array .long), .long], none⟩ := by decide +kernel
theorem pn1 : plainName "sluice/stream/Watermarks" = true := by first | (simp [plainName, overriddenIn]; done) | decide +kernel
theorem ef1 (m : MethodId) (a1 : Addr) : entryFrame m #[(.ref a1), (.int (2 : Int32))] 3 = mkF m 0 #[.val (.ref a1), .val (.int (2 : Int32)), .unset] [] := by first | (simp [entryFrame, mkF, argsToLocals, Value.category]; done) | rfl
def Q1 (Z : State) (a1 : Addr) (h0 : Heap) (n0 : Nat) (v : Option Value) (h : Heap) (L : List Loc) : Prop := ∃ bm bs bl : Addr, v = none ∧ Fr n0 L ∧ own_W Z h n0 a1 bm bs bl (-9223372036854775808 : Int64) (-9223372036854775808 : Int64) (-9223372036854775808 : Int64) (0 : Int32) (0 : Int32) (0 : Int32) (1 : Int32) (2 : Int32)
set_option maxRecDepth 65536 in
set_option maxHeartbeats 40000000 in
theorem rm1 (l : Launch) (Z : State) (a0 : Array Value) (hw : ∀ d ∈ tables_1, d.before a0 Z = true) (ws : List Jvm.Cond) (a1 : Addr) (h0 : Heap) (n0 : Nat) (Z0 : n0 ≤ h0.size) (E_a1 : Exa Z h0 a1 "sluice/stream/Watermarks") (F_lowest : Fld Z h0 a1 "sluice/stream/Watermarks" "lowest" "J" (.long (0 : Int64))) (F_marks : Fld Z h0 a1 "sluice/stream/Watermarks" "marks" "[J" .null) (F_states : Fld Z h0 a1 "sluice/stream/Watermarks" "states" "[B" .null) (F_live : Fld Z h0 a1 "sluice/stream/Watermarks" "live" "[I" .null) (F_open : Fld Z h0 a1 "sluice/stream/Watermarks" "open" "I" (.int (0 : Int32))) (g_a1 : n0 ≤ a1) :
    MetFree l (⟨"sluice/stream/Watermarks", "<init>", "(I)V"⟩ : MethodName) (head1 (Jvm.Cond.code (⟨"sluice/stream/Watermarks", "<init>", "(I)V"⟩ : MethodName) prog_183_method_1_code 3 none :: ws) ({ frames := 1, cells := 3, slots := 6, locals := 16 } : Room)) (fun a U => a = #[(.ref a1), (.int (2 : Int32))] ∧ Z.Warmed39 U.vm ∧ U.heap = h0) (fun _ _ _ _ _ => True) (fun _ U o U' => ∃ v L, o = .returned v ∧ Q1 Z a1 h0 n0 v U'.heap L ∧ FrameEnd U o U' L ({ frames := 1, cells := 3, slots := 6, locals := 16 } : Room).cells ({ frames := 1, cells := 3, slots := 6, locals := 16 } : Room).slots) := by
  refine MetFree.of_bodySF (plainFor_of_name pn1) hisR ?_
  intro p e s m args below meth c s₁ Bd hml0 hP hK
  obtain ⟨rfl, hZ, hh⟩ := hP
  have hx := Bd.exec
  have hby := Bd.bytes
  have hml : c.maxLocals = 3 := hml0
  have hown : s.vm.findClass "sluice/stream/Watermarks" = some m.cls := findClass_of_methodNamed Bd.named
  have hnm := (name_of_methodNamed Bd.named Bd.method).1
  have X0 : Stand p l e ({ frames := 1, cells := 3, slots := 6, locals := 16 } : Room) s m #[(.ref a1), (.int (2 : Int32))] below meth c s₁ [] 0 0 := Stand.of_body Bd
  have e0 : s₁.heap = h0 := by rw [← hh, Bd.state]; rfl
  have N0 := Fr.nil n0
  have pre0 : ∀ t, Steps p.tables e below (s₁.setTop (mkF m 0 #[.val (.ref a1), .val (.int (2 : Int32)), .unset] [])) t → Steps p.tables e below (s₁.setTop (entryFrame m #[(.ref a1), (.int (2 : Int32))] 3)) t := fun t k => castTop (ef1 m a1) k
  have K0 := Keep.refl h0 [a1]
  have pre1 : ∀ t, Steps p.tables e below (s₁.setTop (mkF m 1 #[.val (.ref a1), .val (.int (2 : Int32)), .unset] [(.ref a1)])) t → Steps p.tables e below (s₁.setTop (entryFrame m #[(.ref a1), (.int (2 : Int32))] 3)) t := by
    intro t k
    refine pre0 t ?_
    show Steps p.tables e below (s₁.setTop (mkF m 0 #[.val (.ref a1), .val (.int (2 : Int32)), .unset] [])) _
    refine XS.aloadN X0.here hx rfl (hb hby d1_0) rfl rfl ?_
    show Steps p.tables e below (s₁.setTop (mkF m 1 #[.val (.ref a1), .val (.int (2 : Int32)), .unset] [(.ref a1)])) _
    exact k
  obtain ⟨T2, X2, e2, st2⟩ := initO X0 hx hZ hown (hw _ (List.mem_of_getElem? (i := 7) rfl)) (hw _ (List.mem_of_getElem? (i := 8) rfl)) (hw _ (List.mem_of_getElem? (i := 9) rfl)) e0 (g := (mkF m 1 #[.val (.ref a1), .val (.int (2 : Int32)), .unset] [(.ref a1)])) rfl (by rw [hml]; rfl) rfl (hb hby d1_1) (by decide) (W := 0) (by show 2 * 0 + _ ≤ _; exact Nat.le_of_eq rfl) (by decide)
  have pre2 : ∀ t, Steps p.tables e below (T2.setTop (mkF m 4 #[.val (.ref a1), .val (.int (2 : Int32)), .unset] [])) t → Steps p.tables e below (s₁.setTop (entryFrame m #[(.ref a1), (.int (2 : Int32))] 3)) t := fun t k => pre1 t (st2 _ k)
  have pre3 : ∀ t, Steps p.tables e below (T2.setTop (mkF m 8 #[.val (.ref a1), .val (.int (2 : Int32)), .unset] [(.long (-9223372036854775808 : Int64)), (.ref a1)])) t → Steps p.tables e below (s₁.setTop (entryFrame m #[(.ref a1), (.int (2 : Int32))] 3)) t := by
    intro t k
    refine pre2 t ?_
    refine XS.aloadN X2.here hx rfl (hb hby d1_4) rfl rfl ?_
    show Steps p.tables e below (T2.setTop (mkF m 5 #[.val (.ref a1), .val (.int (2 : Int32)), .unset] [(.ref a1)])) _
    refine X2.ldc2Long hx hown (mvT hZ (hw _ (List.mem_of_getElem? (i := 10) rfl))) (g := (mkF m 5 #[.val (.ref a1), .val (.int (2 : Int32)), .unset] [(.ref a1)])) rfl (hb hby d1_5) _ ?_
    show Steps p.tables e below (T2.setTop (mkF m 8 #[.val (.ref a1), .val (.int (2 : Int32)), .unset] [(.long (-9223372036854775808 : Int64)), (.ref a1)])) _
    exact k
  obtain ⟨T4, h4, X4, e4, W4, st4⟩ := putF X2 hx hZ hown (host := "") (Or.inl (hw _ (List.mem_of_getElem? (i := 11) rfl))) Via.refl e2 F_lowest E_a1 (Or.inl (hw _ (List.mem_of_getElem? (i := 12) rfl))) (hw _ (List.mem_of_getElem? (i := 2) rfl)) (ty := .long) (by decide) rfl rfl (g := (mkF m 8 #[.val (.ref a1), .val (.int (2 : Int32)), .unset] [(.long (-9223372036854775808 : Int64)), (.ref a1)])) rfl rfl (hb hby d1_8)
  have F4_0 := F_lowest.same W4
  have F4_1 := F_marks.other W4 (Or.inr (slot_ne (Or.inl (hw _ (List.mem_of_getElem? (i := 15) rfl))) (Or.inl (hw _ (List.mem_of_getElem? (i := 12) rfl))) (by decide) (t := (.array .long)) (t' := .long) (by decide) (by decide)))
  have F4_2 := F_states.other W4 (Or.inr (slot_ne (Or.inl (hw _ (List.mem_of_getElem? (i := 18) rfl))) (Or.inl (hw _ (List.mem_of_getElem? (i := 12) rfl))) (by decide) (t := (.array .byte)) (t' := .long) (by decide) (by decide)))
  have F4_3 := F_live.other W4 (Or.inr (slot_ne (Or.inl (hw _ (List.mem_of_getElem? (i := 21) rfl))) (Or.inl (hw _ (List.mem_of_getElem? (i := 12) rfl))) (by decide) (t := (.array .int)) (t' := .long) (by decide) (by decide)))
  have F4_4 := F_open.other W4 (Or.inr (slot_ne (Or.inl (hw _ (List.mem_of_getElem? (i := 27) rfl))) (Or.inl (hw _ (List.mem_of_getElem? (i := 12) rfl))) (by decide) (t := .int) (t' := .long) (by decide) (by decide)))
  have F4_5 := E_a1.wr W4
  have Z4 : n0 ≤ h4.size := Nat.le_trans Z0 (Keep.of_wr W4).1
  have K4 := Keep.wr K0 W4 (Or.inl (List.mem_of_getElem? (i := 0) rfl))
  have N4 := Fr.snoc X4 N0 g_a1
  have pre4 : ∀ t, Steps p.tables e below (T4.setTop (mkF m 11 #[.val (.ref a1), .val (.int (2 : Int32)), .unset] [])) t → Steps p.tables e below (s₁.setTop (entryFrame m #[(.ref a1), (.int (2 : Int32))] 3)) t := fun t k => pre3 t (st4 _ k)
  have pre5 : ∀ t, Steps p.tables e below (T4.setTop (mkF m 13 #[.val (.ref a1), .val (.int (2 : Int32)), .unset] [(.int (2 : Int32)), (.ref a1)])) t → Steps p.tables e below (s₁.setTop (entryFrame m #[(.ref a1), (.int (2 : Int32))] 3)) t := by
    intro t k
    refine pre4 t ?_
    refine XS.aloadN X4.here hx rfl (hb hby d1_11) rfl rfl ?_
    show Steps p.tables e below (T4.setTop (mkF m 12 #[.val (.ref a1), .val (.int (2 : Int32)), .unset] [(.ref a1)])) _
    refine XS.iloadN X4.here hx rfl (hb hby d1_12) rfl ?_
    show Steps p.tables e below (T4.setTop (mkF m 13 #[.val (.ref a1), .val (.int (2 : Int32)), .unset] [(.int (2 : Int32)), (.ref a1)])) _
    exact k
  obtain ⟨T6, h6, k6, X6, e6, E6, A6, st6⟩ := newP X4 hx hZ (hw _ (List.mem_of_getElem? (i := 13) rfl)) e4 (g := (mkF m 13 #[.val (.ref a1), .val (.int (2 : Int32)), .unset] [(.int (2 : Int32)), (.ref a1)])) rfl (hb hby d1_13) rfl (by decide) (cap := 2) (by decide) (by decide) (by decide) (by decide)
  obtain ⟨b6, g6⟩ : ∃ z, z = h4.size := ⟨_, rfl⟩
  rw [← g6] at A6 st6
  have ne6_a1 : a1 ≠ b6 := Nat.ne_of_lt (Nat.lt_of_lt_of_le F4_0.lt (Nat.le_of_eq g6.symm))
  have gg6 : n0 ≤ b6 := Nat.le_trans Z4 (Nat.le_of_eq g6.symm)
  have sz6 : h0.size ≤ b6 := Nat.le_trans K4.1 (Nat.le_of_eq g6.symm)
  have F6_0 := F4_0.ext E6
  have F6_1 := F4_1.ext E6
  have F6_2 := F4_2.ext E6
  have F6_3 := F4_3.ext E6
  have F6_4 := F4_4.ext E6
  have F6_5 := F4_5.ext E6
  have Z6 : n0 ≤ h6.size := Nat.le_trans Z4 E6.1
  have K6 := Keep.ext K4 E6
  have V6 : own_AJ Z h6 b6 (2 : Int32) (fun _ => 0) := own_AJ.new A6 (by decide)
  have V6' := own_AJ.z2 V6
  have pre6 : ∀ t, Steps p.tables e below (T6.setTop (mkF m 15 #[.val (.ref a1), .val (.int (2 : Int32)), .unset] [(.ref b6), (.ref a1)])) t → Steps p.tables e below (s₁.setTop (entryFrame m #[(.ref a1), (.int (2 : Int32))] 3)) t := fun t k => pre5 t (st6 _ k)
  obtain ⟨T7, h7, X7, e7, W7, st7⟩ := putF X6 hx hZ hown (host := "") (Or.inl (hw _ (List.mem_of_getElem? (i := 14) rfl))) Via.refl e6 F6_1 F6_5 (Or.inl (hw _ (List.mem_of_getElem? (i := 15) rfl))) (hw _ (List.mem_of_getElem? (i := 2) rfl)) (ty := (.array .long)) (by decide) rfl rfl (g := (mkF m 15 #[.val (.ref a1), .val (.int (2 : Int32)), .unset] [(.ref b6), (.ref a1)])) rfl rfl (hb hby d1_15)
  have F7_0 := F6_0.other W7 (Or.inr (slot_ne (Or.inl (hw _ (List.mem_of_getElem? (i := 12) rfl))) (Or.inl (hw _ (List.mem_of_getElem? (i := 15) rfl))) (by decide) (t := .long) (t' := (.array .long)) (by decide) (by decide)))
  have F7_1 := F6_1.same W7
  have F7_2 := F6_2.other W7 (Or.inr (slot_ne (Or.inl (hw _ (List.mem_of_getElem? (i := 18) rfl))) (Or.inl (hw _ (List.mem_of_getElem? (i := 15) rfl))) (by decide) (t := (.array .byte)) (t' := (.array .long)) (by decide) (by decide)))
  have F7_3 := F6_3.other W7 (Or.inr (slot_ne (Or.inl (hw _ (List.mem_of_getElem? (i := 21) rfl))) (Or.inl (hw _ (List.mem_of_getElem? (i := 15) rfl))) (by decide) (t := (.array .int)) (t' := (.array .long)) (by decide) (by decide)))
  have F7_4 := F6_4.other W7 (Or.inr (slot_ne (Or.inl (hw _ (List.mem_of_getElem? (i := 27) rfl))) (Or.inl (hw _ (List.mem_of_getElem? (i := 15) rfl))) (by decide) (t := .int) (t' := (.array .long)) (by decide) (by decide)))
  have F7_5 := F6_5.wr W7
  have F7_6 := V6'.other W7 (Ne.symm ne6_a1)
  have Z7 : n0 ≤ h7.size := Nat.le_trans Z6 (Keep.of_wr W7).1
  have K7 := Keep.wr K6 W7 (Or.inl (List.mem_of_getElem? (i := 0) rfl))
  have N7 := Fr.snoc X7 N4 g_a1
  have pre7 : ∀ t, Steps p.tables e below (T7.setTop (mkF m 18 #[.val (.ref a1), .val (.int (2 : Int32)), .unset] [])) t → Steps p.tables e below (s₁.setTop (entryFrame m #[(.ref a1), (.int (2 : Int32))] 3)) t := fun t k => pre6 t (st7 _ k)
  have pre8 : ∀ t, Steps p.tables e below (T7.setTop (mkF m 20 #[.val (.ref a1), .val (.int (2 : Int32)), .unset] [(.int (2 : Int32)), (.ref a1)])) t → Steps p.tables e below (s₁.setTop (entryFrame m #[(.ref a1), (.int (2 : Int32))] 3)) t := by
    intro t k
    refine pre7 t ?_
    refine XS.aloadN X7.here hx rfl (hb hby d1_18) rfl rfl ?_
    show Steps p.tables e below (T7.setTop (mkF m 19 #[.val (.ref a1), .val (.int (2 : Int32)), .unset] [(.ref a1)])) _
    refine XS.iloadN X7.here hx rfl (hb hby d1_19) rfl ?_
    show Steps p.tables e below (T7.setTop (mkF m 20 #[.val (.ref a1), .val (.int (2 : Int32)), .unset] [(.int (2 : Int32)), (.ref a1)])) _
    exact k
  obtain ⟨T9, h9, k9, X9, e9, E9, A9, st9⟩ := newP X7 hx hZ (hw _ (List.mem_of_getElem? (i := 16) rfl)) e7 (g := (mkF m 20 #[.val (.ref a1), .val (.int (2 : Int32)), .unset] [(.int (2 : Int32)), (.ref a1)])) rfl (hb hby d1_20) rfl (by decide) (cap := 2) (by decide) (by decide) (by decide) (by decide)
  obtain ⟨b9, g9⟩ : ∃ z, z = h7.size := ⟨_, rfl⟩
  rw [← g9] at A9 st9
  have ne9_a1 : a1 ≠ b9 := Nat.ne_of_lt (Nat.lt_of_lt_of_le F7_0.lt (Nat.le_of_eq g9.symm))
  have ne9_b6 : b6 ≠ b9 := Nat.ne_of_lt (Nat.lt_of_lt_of_le F7_6.lt (Nat.le_of_eq g9.symm))
  have gg9 : n0 ≤ b9 := Nat.le_trans Z7 (Nat.le_of_eq g9.symm)
  have sz9 : h0.size ≤ b9 := Nat.le_trans K7.1 (Nat.le_of_eq g9.symm)
  have F9_0 := F7_0.ext E9
  have F9_1 := F7_1.ext E9
  have F9_2 := F7_2.ext E9
  have F9_3 := F7_3.ext E9
  have F9_4 := F7_4.ext E9
  have F9_5 := F7_5.ext E9
  have F9_6 := F7_6.ext E9
  have Z9 : n0 ≤ h9.size := Nat.le_trans Z7 E9.1
  have K9 := Keep.ext K7 E9
  have V9 : own_AI Z h9 b9 .byte (2 : Int32) (fun _ => 0) := own_AI.new A9 (by decide) rfl
  have V9' := own_AI.z2 V9
  have pre9 : ∀ t, Steps p.tables e below (T9.setTop (mkF m 22 #[.val (.ref a1), .val (.int (2 : Int32)), .unset] [(.ref b9), (.ref a1)])) t → Steps p.tables e below (s₁.setTop (entryFrame m #[(.ref a1), (.int (2 : Int32))] 3)) t := fun t k => pre8 t (st9 _ k)
  obtain ⟨T10, h10, X10, e10, W10, st10⟩ := putF X9 hx hZ hown (host := "") (Or.inl (hw _ (List.mem_of_getElem? (i := 17) rfl))) Via.refl e9 F9_2 F9_5 (Or.inl (hw _ (List.mem_of_getElem? (i := 18) rfl))) (hw _ (List.mem_of_getElem? (i := 2) rfl)) (ty := (.array .byte)) (by decide) rfl rfl (g := (mkF m 22 #[.val (.ref a1), .val (.int (2 : Int32)), .unset] [(.ref b9), (.ref a1)])) rfl rfl (hb hby d1_22)
  have F10_0 := F9_0.other W10 (Or.inr (slot_ne (Or.inl (hw _ (List.mem_of_getElem? (i := 12) rfl))) (Or.inl (hw _ (List.mem_of_getElem? (i := 18) rfl))) (by decide) (t := .long) (t' := (.array .byte)) (by decide) (by decide)))
  have F10_1 := F9_1.other W10 (Or.inr (slot_ne (Or.inl (hw _ (List.mem_of_getElem? (i := 15) rfl))) (Or.inl (hw _ (List.mem_of_getElem? (i := 18) rfl))) (by decide) (t := (.array .long)) (t' := (.array .byte)) (by decide) (by decide)))
  have F10_2 := F9_2.same W10
  have F10_3 := F9_3.other W10 (Or.inr (slot_ne (Or.inl (hw _ (List.mem_of_getElem? (i := 21) rfl))) (Or.inl (hw _ (List.mem_of_getElem? (i := 18) rfl))) (by decide) (t := (.array .int)) (t' := (.array .byte)) (by decide) (by decide)))
  have F10_4 := F9_4.other W10 (Or.inr (slot_ne (Or.inl (hw _ (List.mem_of_getElem? (i := 27) rfl))) (Or.inl (hw _ (List.mem_of_getElem? (i := 18) rfl))) (by decide) (t := .int) (t' := (.array .byte)) (by decide) (by decide)))
  have F10_5 := F9_5.wr W10
  have F10_6 := F9_6.other W10 (Ne.symm ne6_a1)
  have F10_7 := V9'.other W10 (Ne.symm ne9_a1)
  have Z10 : n0 ≤ h10.size := Nat.le_trans Z9 (Keep.of_wr W10).1
  have K10 := Keep.wr K9 W10 (Or.inl (List.mem_of_getElem? (i := 0) rfl))
  have N10 := Fr.snoc X10 N7 g_a1
  have pre10 : ∀ t, Steps p.tables e below (T10.setTop (mkF m 25 #[.val (.ref a1), .val (.int (2 : Int32)), .unset] [])) t → Steps p.tables e below (s₁.setTop (entryFrame m #[(.ref a1), (.int (2 : Int32))] 3)) t := fun t k => pre9 t (st10 _ k)
  have pre11 : ∀ t, Steps p.tables e below (T10.setTop (mkF m 27 #[.val (.ref a1), .val (.int (2 : Int32)), .unset] [(.int (2 : Int32)), (.ref a1)])) t → Steps p.tables e below (s₁.setTop (entryFrame m #[(.ref a1), (.int (2 : Int32))] 3)) t := by
    intro t k
    refine pre10 t ?_
    refine XS.aloadN X10.here hx rfl (hb hby d1_25) rfl rfl ?_
    show Steps p.tables e below (T10.setTop (mkF m 26 #[.val (.ref a1), .val (.int (2 : Int32)), .unset] [(.ref a1)])) _
    refine XS.iloadN X10.here hx rfl (hb hby d1_26) rfl ?_
    show Steps p.tables e below (T10.setTop (mkF m 27 #[.val (.ref a1), .val (.int (2 : Int32)), .unset] [(.int (2 : Int32)), (.ref a1)])) _
    exact k
  obtain ⟨T12, h12, k12, X12, e12, E12, A12, st12⟩ := newP X10 hx hZ (hw _ (List.mem_of_getElem? (i := 19) rfl)) e10 (g := (mkF m 27 #[.val (.ref a1), .val (.int (2 : Int32)), .unset] [(.int (2 : Int32)), (.ref a1)])) rfl (hb hby d1_27) rfl (by decide) (cap := 2) (by decide) (by decide) (by decide) (by decide)
  obtain ⟨b12, g12⟩ : ∃ z, z = h10.size := ⟨_, rfl⟩
  rw [← g12] at A12 st12
  have ne12_a1 : a1 ≠ b12 := Nat.ne_of_lt (Nat.lt_of_lt_of_le F10_0.lt (Nat.le_of_eq g12.symm))
  have ne12_b6 : b6 ≠ b12 := Nat.ne_of_lt (Nat.lt_of_lt_of_le F10_6.lt (Nat.le_of_eq g12.symm))
  have ne12_b9 : b9 ≠ b12 := Nat.ne_of_lt (Nat.lt_of_lt_of_le F10_7.lt (Nat.le_of_eq g12.symm))
  have gg12 : n0 ≤ b12 := Nat.le_trans Z10 (Nat.le_of_eq g12.symm)
  have sz12 : h0.size ≤ b12 := Nat.le_trans K10.1 (Nat.le_of_eq g12.symm)
  have F12_0 := F10_0.ext E12
  have F12_1 := F10_1.ext E12
  have F12_2 := F10_2.ext E12
  have F12_3 := F10_3.ext E12
  have F12_4 := F10_4.ext E12
  have F12_5 := F10_5.ext E12
  have F12_6 := F10_6.ext E12
  have F12_7 := F10_7.ext E12
  have Z12 : n0 ≤ h12.size := Nat.le_trans Z10 E12.1
  have K12 := Keep.ext K10 E12
  have V12 : own_AI Z h12 b12 .int (2 : Int32) (fun _ => 0) := own_AI.new A12 (by decide) rfl
  have V12' := own_AI.z2 V12
  have pre12 : ∀ t, Steps p.tables e below (T12.setTop (mkF m 29 #[.val (.ref a1), .val (.int (2 : Int32)), .unset] [(.ref b12), (.ref a1)])) t → Steps p.tables e below (s₁.setTop (entryFrame m #[(.ref a1), (.int (2 : Int32))] 3)) t := fun t k => pre11 t (st12 _ k)
  obtain ⟨T13, h13, X13, e13, W13, st13⟩ := putF X12 hx hZ hown (host := "") (Or.inl (hw _ (List.mem_of_getElem? (i := 20) rfl))) Via.refl e12 F12_3 F12_5 (Or.inl (hw _ (List.mem_of_getElem? (i := 21) rfl))) (hw _ (List.mem_of_getElem? (i := 2) rfl)) (ty := (.array .int)) (by decide) rfl rfl (g := (mkF m 29 #[.val (.ref a1), .val (.int (2 : Int32)), .unset] [(.ref b12), (.ref a1)])) rfl rfl (hb hby d1_29)
  have F13_0 := F12_0.other W13 (Or.inr (slot_ne (Or.inl (hw _ (List.mem_of_getElem? (i := 12) rfl))) (Or.inl (hw _ (List.mem_of_getElem? (i := 21) rfl))) (by decide) (t := .long) (t' := (.array .int)) (by decide) (by decide)))
  have F13_1 := F12_1.other W13 (Or.inr (slot_ne (Or.inl (hw _ (List.mem_of_getElem? (i := 15) rfl))) (Or.inl (hw _ (List.mem_of_getElem? (i := 21) rfl))) (by decide) (t := (.array .long)) (t' := (.array .int)) (by decide) (by decide)))
  have F13_2 := F12_2.other W13 (Or.inr (slot_ne (Or.inl (hw _ (List.mem_of_getElem? (i := 18) rfl))) (Or.inl (hw _ (List.mem_of_getElem? (i := 21) rfl))) (by decide) (t := (.array .byte)) (t' := (.array .int)) (by decide) (by decide)))
  have F13_3 := F12_3.same W13
  have F13_4 := F12_4.other W13 (Or.inr (slot_ne (Or.inl (hw _ (List.mem_of_getElem? (i := 27) rfl))) (Or.inl (hw _ (List.mem_of_getElem? (i := 21) rfl))) (by decide) (t := .int) (t' := (.array .int)) (by decide) (by decide)))
  have F13_5 := F12_5.wr W13
  have F13_6 := F12_6.other W13 (Ne.symm ne6_a1)
  have F13_7 := F12_7.other W13 (Ne.symm ne9_a1)
  have F13_8 := V12'.other W13 (Ne.symm ne12_a1)
  have Z13 : n0 ≤ h13.size := Nat.le_trans Z12 (Keep.of_wr W13).1
  have K13 := Keep.wr K12 W13 (Or.inl (List.mem_of_getElem? (i := 0) rfl))
  have N13 := Fr.snoc X13 N10 g_a1
  have pre13 : ∀ t, Steps p.tables e below (T13.setTop (mkF m 32 #[.val (.ref a1), .val (.int (2 : Int32)), .unset] [])) t → Steps p.tables e below (s₁.setTop (entryFrame m #[(.ref a1), (.int (2 : Int32))] 3)) t := fun t k => pre12 t (st13 _ k)
  have pre14 : ∀ t, Steps p.tables e below (T13.setTop (mkF m 33 #[.val (.ref a1), .val (.int (2 : Int32)), .unset] [(.ref a1)])) t → Steps p.tables e below (s₁.setTop (entryFrame m #[(.ref a1), (.int (2 : Int32))] 3)) t := by
    intro t k
    refine pre13 t ?_
    refine XS.aloadN X13.here hx rfl (hb hby d1_32) rfl rfl ?_
    show Steps p.tables e below (T13.setTop (mkF m 33 #[.val (.ref a1), .val (.int (2 : Int32)), .unset] [(.ref a1)])) _
    exact k
  obtain ⟨T15, X15, e15, st15⟩ := getF X13 hx hZ hown (host := "") (Or.inl (hw _ (List.mem_of_getElem? (i := 14) rfl))) Via.refl e13 F13_1 (g := (mkF m 33 #[.val (.ref a1), .val (.int (2 : Int32)), .unset] [(.ref a1)])) rfl rfl (hb hby d1_33)
  have pre15 : ∀ t, Steps p.tables e below (T15.setTop (mkF m 36 #[.val (.ref a1), .val (.int (2 : Int32)), .unset] [(.ref b6)])) t → Steps p.tables e below (s₁.setTop (entryFrame m #[(.ref a1), (.int (2 : Int32))] 3)) t := fun t k => pre14 t (st15 _ k)
  have pre16 : ∀ t, Steps p.tables e below (T15.setTop (mkF m 39 #[.val (.ref a1), .val (.int (2 : Int32)), .unset] [(.long (-9223372036854775808 : Int64)), (.ref b6)])) t → Steps p.tables e below (s₁.setTop (entryFrame m #[(.ref a1), (.int (2 : Int32))] 3)) t := by
    intro t k
    refine pre15 t ?_
    refine X15.ldc2Long hx hown (mvT hZ (hw _ (List.mem_of_getElem? (i := 10) rfl))) (g := (mkF m 36 #[.val (.ref a1), .val (.int (2 : Int32)), .unset] [(.ref b6)])) rfl (hb hby d1_36) _ ?_
    show Steps p.tables e below (T15.setTop (mkF m 39 #[.val (.ref a1), .val (.int (2 : Int32)), .unset] [(.long (-9223372036854775808 : Int64)), (.ref b6)])) _
    exact k
  obtain ⟨_, _, ⟨T17, L17, k17, n17⟩, -, X17, ⟨Lc17, hQ17, l17, y17, z17⟩, st17⟩ := Jvm.LawKit.callS X15 hx (y := (⟨"java/util/Arrays", "fill", "([JJ)V"⟩ : MethodName)) hown (mvT hZ (hw _ (List.mem_of_getElem? (i := 22) rfl))) (mvT hZ (hw _ (List.mem_of_getElem? (i := 23) rfl))) (mvT hZ (hw _ (List.mem_of_getElem? (i := 24) rfl))) (mvT hZ (hw _ (List.mem_of_getElem? (i := 25) rfl))) (by decide) (backOf (W := 0) (rm3 l Z a0 hw [] b6 (-9223372036854775808 : Int64) h13 n0 Z13 F13_6 gg6) hZ (hw _ (List.mem_of_getElem? (i := 25) rfl)) (hw _ (List.mem_of_getElem? (i := 24) rfl)) (by decide) (by decide)) (g := (mkF m 39 #[.val (.ref a1), .val (.int (2 : Int32)), .unset] [(.long (-9223372036854775808 : Int64)), (.ref b6)])) rfl (by rw [hml]; rfl) (argsL := [(.ref b6), (.long (-9223372036854775808 : Int64))]) (rest := []) (lenOf pd1_0 rfl) rfl (by show 2 * 0 + _ ≤ _; exact Nat.le_of_eq rfl) (hb hby d1_39) (fun _ _ => ⟨rfl, e15, (by decide : 3 + 0 ≤ _), (by decide : 6 + 0 ≤ _)⟩)
  dsimp only [Pt.U, Pt.locs, Pt.cells, Pt.slots] at X17 l17 y17 z17 st17 hQ17
  subst l17 y17 z17
  obtain ⟨rfl, Nq17, Kc17, V17⟩ := hQ17
  have F17_0 := F13_0.keep Kc17 (ninS ne6_a1 nin0)
  have F17_1 := F13_1.keep Kc17 (ninS ne6_a1 nin0)
  have F17_2 := F13_2.keep Kc17 (ninS ne6_a1 nin0)
  have F17_3 := F13_3.keep Kc17 (ninS ne6_a1 nin0)
  have F17_4 := F13_4.keep Kc17 (ninS ne6_a1 nin0)
  have F17_5 := F13_5.keep Kc17
  have F17_6 := F13_7.keep Kc17 (ninS (Ne.symm ne9_b6) nin0)
  have F17_7 := F13_8.keep Kc17 (ninS (Ne.symm ne12_b6) nin0)
  have Z17 : n0 ≤ T17.heap.size := Nat.le_trans Z13 Kc17.1
  have K17 := Keep.trans K13 Kc17 (allS (Or.inr sz6) all0)
  have N17 := Fr.app N13 Nq17
  have pre17 : ∀ t, Steps p.tables e below (T17.setTop (mkF m 42 #[.val (.ref a1), .val (.int (2 : Int32)), .unset] [])) t → Steps p.tables e below (s₁.setTop (entryFrame m #[(.ref a1), (.int (2 : Int32))] 3)) t := fun t k => pre16 t (st17 _ k)
  have pre18 : ∀ t, Steps p.tables e below (T17.setTop (mkF m 50 #[.val (.ref a1), .val (.int (2 : Int32)), .val (.int (0 : Int32))] [(.ref a1)])) t → Steps p.tables e below (s₁.setTop (entryFrame m #[(.ref a1), (.int (2 : Int32))] 3)) t := by
    intro t k
    refine pre17 t ?_
    refine XS.iconst X17.here hx rfl (hb hby d1_42) ?_
    show Steps p.tables e below (T17.setTop (mkF m 43 #[.val (.ref a1), .val (.int (2 : Int32)), .unset] [(.int (0 : Int32))])) _
    refine XS.istoreN X17.here hx rfl (hb hby d1_43) rfl (l' := #[.val (.ref a1), .val (.int (2 : Int32)), .val (.int (0 : Int32))]) rfl ?_
    show Steps p.tables e below (T17.setTop (mkF m 44 #[.val (.ref a1), .val (.int (2 : Int32)), .val (.int (0 : Int32))] [])) _
    refine XS.iloadN X17.here hx rfl (hb hby d1_44) rfl ?_
    show Steps p.tables e below (T17.setTop (mkF m 45 #[.val (.ref a1), .val (.int (2 : Int32)), .val (.int (0 : Int32))] [(.int (0 : Int32))])) _
    refine XS.iloadN X17.here hx rfl (hb hby d1_45) rfl ?_
    show Steps p.tables e below (T17.setTop (mkF m 46 #[.val (.ref a1), .val (.int (2 : Int32)), .val (.int (0 : Int32))] [(.int (2 : Int32)), (.int (0 : Int32))])) _
    refine XS.icmpNo X17.here hx rfl (hb hby d1_46) rfl (tlt (by decide : (0 : Int32) < (2 : Int32))).2.1 ?_
    show Steps p.tables e below (T17.setTop (mkF m 49 #[.val (.ref a1), .val (.int (2 : Int32)), .val (.int (0 : Int32))] [])) _
    refine XS.aloadN X17.here hx rfl (hb hby d1_49) rfl rfl ?_
    show Steps p.tables e below (T17.setTop (mkF m 50 #[.val (.ref a1), .val (.int (2 : Int32)), .val (.int (0 : Int32))] [(.ref a1)])) _
    exact k
  obtain ⟨T19, X19, e19, st19⟩ := getF X17 hx hZ hown (host := "") (Or.inl (hw _ (List.mem_of_getElem? (i := 20) rfl))) Via.refl rfl F17_3 (g := (mkF m 50 #[.val (.ref a1), .val (.int (2 : Int32)), .val (.int (0 : Int32))] [(.ref a1)])) rfl rfl (hb hby d1_50)
  have pre19 : ∀ t, Steps p.tables e below (T19.setTop (mkF m 53 #[.val (.ref a1), .val (.int (2 : Int32)), .val (.int (0 : Int32))] [(.ref b12)])) t → Steps p.tables e below (s₁.setTop (entryFrame m #[(.ref a1), (.int (2 : Int32))] 3)) t := fun t k => pre18 t (st19 _ k)
  have pre20 : ∀ t, Steps p.tables e below (T19.setTop (mkF m 55 #[.val (.ref a1), .val (.int (2 : Int32)), .val (.int (0 : Int32))] [(.int (0 : Int32)), (.int (0 : Int32)), (.ref b12)])) t → Steps p.tables e below (s₁.setTop (entryFrame m #[(.ref a1), (.int (2 : Int32))] 3)) t := by
    intro t k
    refine pre19 t ?_
    refine XS.iloadN X19.here hx rfl (hb hby d1_53) rfl ?_
    show Steps p.tables e below (T19.setTop (mkF m 54 #[.val (.ref a1), .val (.int (2 : Int32)), .val (.int (0 : Int32))] [(.int (0 : Int32)), (.ref b12)])) _
    refine XS.iloadN X19.here hx rfl (hb hby d1_54) rfl ?_
    show Steps p.tables e below (T19.setTop (mkF m 55 #[.val (.ref a1), .val (.int (2 : Int32)), .val (.int (0 : Int32))] [(.int (0 : Int32)), (.int (0 : Int32)), (.ref b12)])) _
    exact k
  obtain ⟨T21, h21, X21, e21, W21, V21, st21⟩ := own_stI X19 hx hZ e19 F17_7 (by decide) (by decide) (g := (mkF m 55 #[.val (.ref a1), .val (.int (2 : Int32)), .val (.int (0 : Int32))] [(.int (0 : Int32)), (.int (0 : Int32)), (.ref b12)])) rfl rfl (hb hby d1_55)
  have F21_0 := F17_0.other W21 (Or.inl ne12_a1)
  have F21_1 := F17_1.other W21 (Or.inl ne12_a1)
  have F21_2 := F17_2.other W21 (Or.inl ne12_a1)
  have F21_3 := F17_3.other W21 (Or.inl ne12_a1)
  have F21_4 := F17_4.other W21 (Or.inl ne12_a1)
  have F21_5 := F17_5.wr W21
  have F21_6 := F17_6.other W21 ne12_b9
  have F21_7 := V21
  have F21_8 := V17.other W21 ne12_b6
  have Z21 : n0 ≤ h21.size := Nat.le_trans Z17 (Keep.of_wr W21).1
  have K21 := Keep.wr K17 W21 (Or.inr sz12)
  have N21 := Fr.snoc X21 N17 gg12
  have U21 : own_AI Z h21 b12 .int (2 : Int32) (own_2 (0 : Int32) (0 : Int32)) := own_AI.st0 F21_7
  have pre21 : ∀ t, Steps p.tables e below (T21.setTop (mkF m 56 #[.val (.ref a1), .val (.int (2 : Int32)), .val (.int (0 : Int32))] [])) t → Steps p.tables e below (s₁.setTop (entryFrame m #[(.ref a1), (.int (2 : Int32))] 3)) t := fun t k => pre20 t (st21 _ k)
  have pre22 : ∀ t, Steps p.tables e below (T21.setTop (mkF m 50 #[.val (.ref a1), .val (.int (2 : Int32)), .val (.int (1 : Int32))] [(.ref a1)])) t → Steps p.tables e below (s₁.setTop (entryFrame m #[(.ref a1), (.int (2 : Int32))] 3)) t := by
    intro t k
    refine pre21 t ?_
    refine XS.iinc X21.here hx rfl (hb hby d1_56) rfl (l' := #[.val (.ref a1), .val (.int (2 : Int32)), .val (.int (1 : Int32))]) rfl ?_
    show Steps p.tables e below (T21.setTop (mkF m 59 #[.val (.ref a1), .val (.int (2 : Int32)), .val (.int (1 : Int32))] [])) _
    refine XS.goto X21.here hx rfl (pc0 := 59) (pc' := 44) rfl (hb hby d1_59) (by decide) (by decide) ?_
    show Steps p.tables e below (T21.setTop (mkF m 44 #[.val (.ref a1), .val (.int (2 : Int32)), .val (.int (1 : Int32))] [])) _
    refine XS.iloadN X21.here hx rfl (hb hby d1_44) rfl ?_
    show Steps p.tables e below (T21.setTop (mkF m 45 #[.val (.ref a1), .val (.int (2 : Int32)), .val (.int (1 : Int32))] [(.int (1 : Int32))])) _
    refine XS.iloadN X21.here hx rfl (hb hby d1_45) rfl ?_
    show Steps p.tables e below (T21.setTop (mkF m 46 #[.val (.ref a1), .val (.int (2 : Int32)), .val (.int (1 : Int32))] [(.int (2 : Int32)), (.int (1 : Int32))])) _
    refine XS.icmpNo X21.here hx rfl (hb hby d1_46) rfl (tlt (by decide : (1 : Int32) < (2 : Int32))).2.1 ?_
    show Steps p.tables e below (T21.setTop (mkF m 49 #[.val (.ref a1), .val (.int (2 : Int32)), .val (.int (1 : Int32))] [])) _
    refine XS.aloadN X21.here hx rfl (hb hby d1_49) rfl rfl ?_
    show Steps p.tables e below (T21.setTop (mkF m 50 #[.val (.ref a1), .val (.int (2 : Int32)), .val (.int (1 : Int32))] [(.ref a1)])) _
    exact k
  obtain ⟨T23, X23, e23, st23⟩ := getF X21 hx hZ hown (host := "") (Or.inl (hw _ (List.mem_of_getElem? (i := 20) rfl))) Via.refl e21 F21_3 (g := (mkF m 50 #[.val (.ref a1), .val (.int (2 : Int32)), .val (.int (1 : Int32))] [(.ref a1)])) rfl rfl (hb hby d1_50)
  have pre23 : ∀ t, Steps p.tables e below (T23.setTop (mkF m 53 #[.val (.ref a1), .val (.int (2 : Int32)), .val (.int (1 : Int32))] [(.ref b12)])) t → Steps p.tables e below (s₁.setTop (entryFrame m #[(.ref a1), (.int (2 : Int32))] 3)) t := fun t k => pre22 t (st23 _ k)
  have pre24 : ∀ t, Steps p.tables e below (T23.setTop (mkF m 55 #[.val (.ref a1), .val (.int (2 : Int32)), .val (.int (1 : Int32))] [(.int (1 : Int32)), (.int (1 : Int32)), (.ref b12)])) t → Steps p.tables e below (s₁.setTop (entryFrame m #[(.ref a1), (.int (2 : Int32))] 3)) t := by
    intro t k
    refine pre23 t ?_
    refine XS.iloadN X23.here hx rfl (hb hby d1_53) rfl ?_
    show Steps p.tables e below (T23.setTop (mkF m 54 #[.val (.ref a1), .val (.int (2 : Int32)), .val (.int (1 : Int32))] [(.int (1 : Int32)), (.ref b12)])) _
    refine XS.iloadN X23.here hx rfl (hb hby d1_54) rfl ?_
    show Steps p.tables e below (T23.setTop (mkF m 55 #[.val (.ref a1), .val (.int (2 : Int32)), .val (.int (1 : Int32))] [(.int (1 : Int32)), (.int (1 : Int32)), (.ref b12)])) _
    exact k
  obtain ⟨T25, h25, X25, e25, W25, V25, st25⟩ := own_stI X23 hx hZ e23 U21 (by decide) (by decide) (g := (mkF m 55 #[.val (.ref a1), .val (.int (2 : Int32)), .val (.int (1 : Int32))] [(.int (1 : Int32)), (.int (1 : Int32)), (.ref b12)])) rfl rfl (hb hby d1_55)
  have F25_0 := F21_0.other W25 (Or.inl ne12_a1)
  have F25_1 := F21_1.other W25 (Or.inl ne12_a1)
  have F25_2 := F21_2.other W25 (Or.inl ne12_a1)
  have F25_3 := F21_3.other W25 (Or.inl ne12_a1)
  have F25_4 := F21_4.other W25 (Or.inl ne12_a1)
  have F25_5 := F21_5.wr W25
  have F25_6 := F21_6.other W25 ne12_b9
  have F25_7 := V25
  have F25_8 := F21_8.other W25 ne12_b6
  have Z25 : n0 ≤ h25.size := Nat.le_trans Z21 (Keep.of_wr W25).1
  have K25 := Keep.wr K21 W25 (Or.inr sz12)
  have N25 := Fr.snoc X25 N21 gg12
  have U25 : own_AI Z h25 b12 .int (2 : Int32) (own_2 (0 : Int32) (1 : Int32)) := own_AI.st1 F25_7
  have pre25 : ∀ t, Steps p.tables e below (T25.setTop (mkF m 56 #[.val (.ref a1), .val (.int (2 : Int32)), .val (.int (1 : Int32))] [])) t → Steps p.tables e below (s₁.setTop (entryFrame m #[(.ref a1), (.int (2 : Int32))] 3)) t := fun t k => pre24 t (st25 _ k)
  have pre26 : ∀ t, Steps p.tables e below (T25.setTop (mkF m 64 #[.val (.ref a1), .val (.int (2 : Int32)), .val (.int (2 : Int32))] [(.int (2 : Int32)), (.ref a1)])) t → Steps p.tables e below (s₁.setTop (entryFrame m #[(.ref a1), (.int (2 : Int32))] 3)) t := by
    intro t k
    refine pre25 t ?_
    refine XS.iinc X25.here hx rfl (hb hby d1_56) rfl (l' := #[.val (.ref a1), .val (.int (2 : Int32)), .val (.int (2 : Int32))]) rfl ?_
    show Steps p.tables e below (T25.setTop (mkF m 59 #[.val (.ref a1), .val (.int (2 : Int32)), .val (.int (2 : Int32))] [])) _
    refine XS.goto X25.here hx rfl (pc0 := 59) (pc' := 44) rfl (hb hby d1_59) (by decide) (by decide) ?_
    show Steps p.tables e below (T25.setTop (mkF m 44 #[.val (.ref a1), .val (.int (2 : Int32)), .val (.int (2 : Int32))] [])) _
    refine XS.iloadN X25.here hx rfl (hb hby d1_44) rfl ?_
    show Steps p.tables e below (T25.setTop (mkF m 45 #[.val (.ref a1), .val (.int (2 : Int32)), .val (.int (2 : Int32))] [(.int (2 : Int32))])) _
    refine XS.iloadN X25.here hx rfl (hb hby d1_45) rfl ?_
    show Steps p.tables e below (T25.setTop (mkF m 46 #[.val (.ref a1), .val (.int (2 : Int32)), .val (.int (2 : Int32))] [(.int (2 : Int32)), (.int (2 : Int32))])) _
    refine XS.icmpYes X25.here hx rfl (pc0 := 46) (pc' := 62) rfl (hb hby d1_46) rfl (flt (by decide : ¬ (2 : Int32) < (2 : Int32))).2.1 (by decide) (by decide) ?_
    show Steps p.tables e below (T25.setTop (mkF m 62 #[.val (.ref a1), .val (.int (2 : Int32)), .val (.int (2 : Int32))] [])) _
    refine XS.aloadN X25.here hx rfl (hb hby d1_62) rfl rfl ?_
    show Steps p.tables e below (T25.setTop (mkF m 63 #[.val (.ref a1), .val (.int (2 : Int32)), .val (.int (2 : Int32))] [(.ref a1)])) _
    refine XS.iloadN X25.here hx rfl (hb hby d1_63) rfl ?_
    show Steps p.tables e below (T25.setTop (mkF m 64 #[.val (.ref a1), .val (.int (2 : Int32)), .val (.int (2 : Int32))] [(.int (2 : Int32)), (.ref a1)])) _
    exact k
  obtain ⟨T27, h27, X27, e27, W27, st27⟩ := putF X25 hx hZ hown (host := "") (Or.inl (hw _ (List.mem_of_getElem? (i := 26) rfl))) Via.refl e25 F25_4 F25_5 (Or.inl (hw _ (List.mem_of_getElem? (i := 27) rfl))) (hw _ (List.mem_of_getElem? (i := 2) rfl)) (ty := .int) (by decide) rfl rfl (g := (mkF m 64 #[.val (.ref a1), .val (.int (2 : Int32)), .val (.int (2 : Int32))] [(.int (2 : Int32)), (.ref a1)])) rfl rfl (hb hby d1_64)
  have F27_0 := F25_0.other W27 (Or.inr (slot_ne (Or.inl (hw _ (List.mem_of_getElem? (i := 12) rfl))) (Or.inl (hw _ (List.mem_of_getElem? (i := 27) rfl))) (by decide) (t := .long) (t' := .int) (by decide) (by decide)))
  have F27_1 := F25_1.other W27 (Or.inr (slot_ne (Or.inl (hw _ (List.mem_of_getElem? (i := 15) rfl))) (Or.inl (hw _ (List.mem_of_getElem? (i := 27) rfl))) (by decide) (t := (.array .long)) (t' := .int) (by decide) (by decide)))
  have F27_2 := F25_2.other W27 (Or.inr (slot_ne (Or.inl (hw _ (List.mem_of_getElem? (i := 18) rfl))) (Or.inl (hw _ (List.mem_of_getElem? (i := 27) rfl))) (by decide) (t := (.array .byte)) (t' := .int) (by decide) (by decide)))
  have F27_3 := F25_3.other W27 (Or.inr (slot_ne (Or.inl (hw _ (List.mem_of_getElem? (i := 21) rfl))) (Or.inl (hw _ (List.mem_of_getElem? (i := 27) rfl))) (by decide) (t := (.array .int)) (t' := .int) (by decide) (by decide)))
  have F27_4 := F25_4.same W27
  have F27_5 := F25_5.wr W27
  have F27_6 := F25_6.other W27 (Ne.symm ne9_a1)
  have F27_7 := U25.other W27 (Ne.symm ne12_a1)
  have F27_8 := F25_8.other W27 (Ne.symm ne6_a1)
  have Z27 : n0 ≤ h27.size := Nat.le_trans Z25 (Keep.of_wr W27).1
  have K27 := Keep.wr K25 W27 (Or.inl (List.mem_of_getElem? (i := 0) rfl))
  have N27 := Fr.snoc X27 N25 g_a1
  have pre27 : ∀ t, Steps p.tables e below (T27.setTop (mkF m 67 #[.val (.ref a1), .val (.int (2 : Int32)), .val (.int (2 : Int32))] [])) t → Steps p.tables e below (s₁.setTop (entryFrame m #[(.ref a1), (.int (2 : Int32))] 3)) t := fun t k => pre26 t (st27 _ k)
  obtain ⟨fs, hr, hrun, hended, hW, hsame⟩ := X27.leave (v := none) (fun _ => rfl)
  refine ⟨_, _, pre27 _ ?_, hrun, hended, _, _, rfl, ?_, ⟨_, rfl⟩, hW, hsame.mono (by decide) (by decide)⟩
  · show Steps p.tables e below (T27.setTop (mkF m 67 #[.val (.ref a1), .val (.int (2 : Int32)), .val (.int (2 : Int32))] [])) _
    exact X27.returnOut hx Bd.returns (hb hby d1_67) hr
  · show Q1 Z a1 h0 n0 _ T27.heap _
    rw [e27]
    exact ⟨b6, b9, b12, rfl, N27, ⟨F27_5, F27_0, F27_1, F27_2, F27_3, F27_4, F27_8, F27_6, F27_7, g_a1, gg6, gg9, gg12, ne6_a1, ne9_a1, ne12_a1, ne9_b6, ne12_b6, ne12_b9⟩⟩
/-! body 5: rise -/
theorem d5_0 : decode prog_183_method_13_code 0 = .ok (.ldc2_w 55, 3) := by decide +kernel
theorem d5_3 : decode prog_183_method_13_code 3 = .ok (.lstore_n 1, 1) := by decide +kernel
theorem d5_4 : decode prog_183_method_13_code 4 = .ok (.ldc2_w 9, 3) := by decide +kernel
theorem d5_7 : decode prog_183_method_13_code 7 = .ok (.lstore_n 3, 1) := by decide +kernel
theorem d5_8 : decode prog_183_method_13_code 8 = .ok (.iconst 0, 1) := by decide +kernel
theorem d5_9 : decode prog_183_method_13_code 9 = .ok (.istore 5, 2) := by decide +kernel
theorem d5_11 : decode prog_183_method_13_code 11 = .ok (.aload_n 0, 1) := by decide +kernel
theorem d5_12 : decode prog_183_method_13_code 12 = .ok (.getfield 35, 3) := by decide +kernel
theorem d5_15 : decode prog_183_method_13_code 15 = .ok (.aload_n 0, 1) := by decide +kernel
theorem d5_16 : decode prog_183_method_13_code 16 = .ok (.getfield 17, 3) := by decide +kernel
theorem d5_19 : decode prog_183_method_13_code 19 = .ok (.arraylength, 1) := by decide +kernel
theorem d5_20 : decode prog_183_method_13_code 20 = .ok (.if_icmp .ne 7, 3) := by decide +kernel
theorem d5_23 : decode prog_183_method_13_code 23 = .ok (.iconst 1, 1) := by decide +kernel
theorem d5_24 : decode prog_183_method_13_code 24 = .ok (.goto 4, 3) := by decide +kernel
theorem d5_28 : decode prog_183_method_13_code 28 = .ok (.istore 6, 2) := by decide +kernel
theorem d5_30 : decode prog_183_method_13_code 30 = .ok (.iconst 0, 1) := by decide +kernel
theorem d5_31 : decode prog_183_method_13_code 31 = .ok (.istore 7, 2) := by decide +kernel
theorem d5_33 : decode prog_183_method_13_code 33 = .ok (.iload 7, 2) := by decide +kernel
theorem d5_35 : decode prog_183_method_13_code 35 = .ok (.aload_n 0, 1) := by decide +kernel
theorem d5_36 : decode prog_183_method_13_code 36 = .ok (.getfield 35, 3) := by decide +kernel
theorem d5_39 : decode prog_183_method_13_code 39 = .ok (.if_icmp .ge 68, 3) := by decide +kernel
theorem d5_42 : decode prog_183_method_13_code 42 = .ok (.iload 6, 2) := by decide +kernel
theorem d5_44 : decode prog_183_method_13_code 44 = .ok (.ifCond .eq 8, 3) := by decide +kernel
theorem d5_47 : decode prog_183_method_13_code 47 = .ok (.iload 7, 2) := by decide +kernel
theorem d5_49 : decode prog_183_method_13_code 49 = .ok (.goto 10, 3) := by decide +kernel
theorem d5_59 : decode prog_183_method_13_code 59 = .ok (.istore 8, 2) := by decide +kernel
theorem d5_61 : decode prog_183_method_13_code 61 = .ok (.aload_n 0, 1) := by decide +kernel
theorem d5_62 : decode prog_183_method_13_code 62 = .ok (.getfield 21, 3) := by decide +kernel
theorem d5_65 : decode prog_183_method_13_code 65 = .ok (.iload 8, 2) := by decide +kernel
theorem d5_67 : decode prog_183_method_13_code 67 = .ok (.baload, 1) := by decide +kernel
theorem d5_68 : decode prog_183_method_13_code 68 = .ok (.ifCond .ne 21, 3) := by decide +kernel
theorem d5_71 : decode prog_183_method_13_code 71 = .ok (.lload_n 1, 1) := by decide +kernel
theorem d5_72 : decode prog_183_method_13_code 72 = .ok (.aload_n 0, 1) := by decide +kernel
theorem d5_73 : decode prog_183_method_13_code 73 = .ok (.getfield 17, 3) := by decide +kernel
theorem d5_76 : decode prog_183_method_13_code 76 = .ok (.iload 8, 2) := by decide +kernel
theorem d5_78 : decode prog_183_method_13_code 78 = .ok (.laload, 1) := by decide +kernel
theorem d5_79 : decode prog_183_method_13_code 79 = .ok (.invokestatic 57, 3) := by decide +kernel
theorem d5_82 : decode prog_183_method_13_code 82 = .ok (.lstore_n 1, 1) := by decide +kernel
theorem d5_83 : decode prog_183_method_13_code 83 = .ok (.iconst 1, 1) := by decide +kernel
theorem d5_84 : decode prog_183_method_13_code 84 = .ok (.istore 5, 2) := by decide +kernel
theorem d5_86 : decode prog_183_method_13_code 86 = .ok (.goto 15, 3) := by decide +kernel
theorem d5_101 : decode prog_183_method_13_code 101 = .ok (.iinc 7 1, 3) := by decide +kernel
theorem d5_104 : decode prog_183_method_13_code 104 = .ok (.goto (-71), 3) := by decide +kernel
theorem d5_107 : decode prog_183_method_13_code 107 = .ok (.iload 5, 2) := by decide +kernel
theorem d5_109 : decode prog_183_method_13_code 109 = .ok (.ifCond .ne 10, 3) := by decide +kernel
theorem d5_119 : decode prog_183_method_13_code 119 = .ok (.lload_n 1, 1) := by decide +kernel
theorem d5_120 : decode prog_183_method_13_code 120 = .ok (.goto 4, 3) := by decide +kernel
theorem d5_124 : decode prog_183_method_13_code 124 = .ok (.lstore 7, 2) := by decide +kernel
theorem d5_126 : decode prog_183_method_13_code 126 = .ok (.lload 7, 2) := by decide +kernel
theorem d5_128 : decode prog_183_method_13_code 128 = .ok (.aload_n 0, 1) := by decide +kernel
theorem d5_129 : decode prog_183_method_13_code 129 = .ok (.getfield 11, 3) := by decide +kernel
theorem d5_132 : decode prog_183_method_13_code 132 = .ok (.lcmp, 1) := by decide +kernel
theorem d5_133 : decode prog_183_method_13_code 133 = .ok (.ifCond .gt 5, 3) := by decide +kernel
theorem d5_136 : decode prog_183_method_13_code 136 = .ok (.iconst 0, 1) := by decide +kernel
theorem d5_137 : decode prog_183_method_13_code 137 = .ok (.ireturn, 1) := by decide +kernel
theorem d5_138 : decode prog_183_method_13_code 138 = .ok (.aload_n 0, 1) := by decide +kernel
theorem d5_139 : decode prog_183_method_13_code 139 = .ok (.lload 7, 2) := by decide +kernel
theorem d5_141 : decode prog_183_method_13_code 141 = .ok (.putfield 11, 3) := by decide +kernel
theorem d5_144 : decode prog_183_method_13_code 144 = .ok (.iconst 1, 1) := by decide +kernel
theorem d5_145 : decode prog_183_method_13_code 145 = .ok (.ireturn, 1) := by decide +kernel
theorem pdrA_0 : parseMethodDescriptor "(JJ)J" = some ⟨[.long, .long], some .long⟩ := by decide +kernel
theorem pnrA : plainName "sluice/stream/Watermarks" = true := by first | (simp [plainName, overriddenIn]; done) | decide +kernel
theorem efrA (m : MethodId) (a1 : Addr) : entryFrame m #[(.ref a1)] 9 = mkF m 0 #[.val (.ref a1), .unset, .unset, .unset, .unset, .unset, .unset, .unset, .unset] [] := by first | (simp [entryFrame, mkF, argsToLocals, Value.category]; done) | rfl
def fnrA (m0 m1 lw : Int64) : Int32 × Int64 × Int64 × Int64 :=
  let v82 : Int64 := (fn6 (9223372036854775807 : Int64) m0)
  let v82_1 : Int64 := (fn6 v82 m1)
  if lw < v82_1 then
    ((nar .boolean (1 : Int32)), m0, m1, v82_1)
  else
    ((nar .boolean (0 : Int32)), m0, m1, lw)
def QrA (Z : State) (a1 : Addr) (bm bs bl : Addr) (m0 m1 lw : Int64) (l0 l1 : Int32) (h0 : Heap) (n0 : Nat) (v : Option Value) (h : Heap) (L : List Loc) : Prop := v = some (.int (fnrA m0 m1 lw).1) ∧ Fr n0 L ∧ own_W Z h n0 a1 bm bs bl (fnrA m0 m1 lw).2.1 (fnrA m0 m1 lw).2.2.1 (fnrA m0 m1 lw).2.2.2 (0 : Int32) (0 : Int32) l0 l1 (2 : Int32)
set_option maxRecDepth 65536 in
set_option maxHeartbeats 40000000 in
theorem rmrA (l : Launch) (Z : State) (a0 : Array Value) (hw : ∀ d ∈ tables_1, d.before a0 Z = true) (ws : List Jvm.Cond) (a1 : Addr) (bm bs bl : Addr) (m0 m1 lw : Int64) (l0 l1 : Int32) (h0 : Heap) (n0 : Nat) (Z0 : n0 ≤ h0.size) (I0 : own_W Z h0 n0 a1 bm bs bl m0 m1 lw (0 : Int32) (0 : Int32) l0 l1 (2 : Int32)) :
    MetFree l (⟨"sluice/stream/Watermarks", "rise", "()Z"⟩ : MethodName) (head1 (Jvm.Cond.code (⟨"sluice/stream/Watermarks", "rise", "()Z"⟩ : MethodName) prog_183_method_13_code 9 (some .boolean) :: ws) ({ frames := 1, cells := 0, slots := 0, locals := 15 } : Room)) (fun a U => a = #[(.ref a1)] ∧ Z.Warmed39 U.vm ∧ U.heap = h0) (fun _ _ _ _ _ => True) (fun _ U o U' => ∃ v L, o = .returned v ∧ QrA Z a1 bm bs bl m0 m1 lw l0 l1 h0 n0 v U'.heap L ∧ FrameEnd U o U' L ({ frames := 1, cells := 0, slots := 0, locals := 15 } : Room).cells ({ frames := 1, cells := 0, slots := 0, locals := 15 } : Room).slots) := by
  refine MetFree.of_bodySF (plainFor_of_name pnrA) hisR ?_
  intro p e s m args below meth c s₁ Bd hml0 hP hK
  obtain ⟨rfl, hZ, hh⟩ := hP
  have hx := Bd.exec
  have hby := Bd.bytes
  have hml : c.maxLocals = 9 := hml0
  have hown : s.vm.findClass "sluice/stream/Watermarks" = some m.cls := findClass_of_methodNamed Bd.named
  have hnm := (name_of_methodNamed Bd.named Bd.method).1
  have X0 : Stand p l e ({ frames := 1, cells := 0, slots := 0, locals := 15 } : Room) s m #[(.ref a1)] below meth c s₁ [] 0 0 := Stand.of_body Bd
  have e0 : s₁.heap = h0 := by rw [← hh, Bd.state]; rfl
  have N0 := Fr.nil n0
  have pre0 : ∀ t, Steps p.tables e below (s₁.setTop (mkF m 0 #[.val (.ref a1), .unset, .unset, .unset, .unset, .unset, .unset, .unset, .unset] [])) t → Steps p.tables e below (s₁.setTop (entryFrame m #[(.ref a1)] 9)) t := fun t k => castTop (efrA m a1) k
  obtain ⟨w_e, w_lowest, w_marks, w_states, w_live, w_open, w_am, w_as, w_al, w_ga, w_gm, w_gs, w_gl, w_1, w_2, w_3, w_4, w_5, w_6⟩ := I0
  have pre1 : ∀ t, Steps p.tables e below (s₁.setTop (mkF m 12 #[.val (.ref a1), .val (.long (9223372036854775807 : Int64)), .second, .val (.long (-9223372036854775808 : Int64)), .second, .val (.int (0 : Int32)), .unset, .unset, .unset] [(.ref a1)])) t → Steps p.tables e below (s₁.setTop (entryFrame m #[(.ref a1)] 9)) t := by
    intro t k
    refine pre0 t ?_
    show Steps p.tables e below (s₁.setTop (mkF m 0 #[.val (.ref a1), .unset, .unset, .unset, .unset, .unset, .unset, .unset, .unset] [])) _
    refine X0.ldc2Long hx hown (mvT hZ (hw _ (List.mem_of_getElem? (i := 37) rfl))) (g := (mkF m 0 #[.val (.ref a1), .unset, .unset, .unset, .unset, .unset, .unset, .unset, .unset] [])) rfl (hb hby d5_0) _ ?_
    show Steps p.tables e below (s₁.setTop (mkF m 3 #[.val (.ref a1), .unset, .unset, .unset, .unset, .unset, .unset, .unset, .unset] [(.long (9223372036854775807 : Int64))])) _
    refine XS.lstoreN X0.here hx rfl (hb hby d5_3) rfl (l' := #[.val (.ref a1), .val (.long (9223372036854775807 : Int64)), .second, .unset, .unset, .unset, .unset, .unset, .unset]) rfl ?_
    show Steps p.tables e below (s₁.setTop (mkF m 4 #[.val (.ref a1), .val (.long (9223372036854775807 : Int64)), .second, .unset, .unset, .unset, .unset, .unset, .unset] [])) _
    refine X0.ldc2Long hx hown (mvT hZ (hw _ (List.mem_of_getElem? (i := 10) rfl))) (g := (mkF m 4 #[.val (.ref a1), .val (.long (9223372036854775807 : Int64)), .second, .unset, .unset, .unset, .unset, .unset, .unset] [])) rfl (hb hby d5_4) _ ?_
    show Steps p.tables e below (s₁.setTop (mkF m 7 #[.val (.ref a1), .val (.long (9223372036854775807 : Int64)), .second, .unset, .unset, .unset, .unset, .unset, .unset] [(.long (-9223372036854775808 : Int64))])) _
    refine XS.lstoreN X0.here hx rfl (hb hby d5_7) rfl (l' := #[.val (.ref a1), .val (.long (9223372036854775807 : Int64)), .second, .val (.long (-9223372036854775808 : Int64)), .second, .unset, .unset, .unset, .unset]) rfl ?_
    show Steps p.tables e below (s₁.setTop (mkF m 8 #[.val (.ref a1), .val (.long (9223372036854775807 : Int64)), .second, .val (.long (-9223372036854775808 : Int64)), .second, .unset, .unset, .unset, .unset] [])) _
    refine XS.iconst X0.here hx rfl (hb hby d5_8) ?_
    show Steps p.tables e below (s₁.setTop (mkF m 9 #[.val (.ref a1), .val (.long (9223372036854775807 : Int64)), .second, .val (.long (-9223372036854775808 : Int64)), .second, .unset, .unset, .unset, .unset] [(.int (0 : Int32))])) _
    refine XS.istore X0.here hx rfl (hb hby d5_9) rfl (l' := #[.val (.ref a1), .val (.long (9223372036854775807 : Int64)), .second, .val (.long (-9223372036854775808 : Int64)), .second, .val (.int (0 : Int32)), .unset, .unset, .unset]) rfl ?_
    show Steps p.tables e below (s₁.setTop (mkF m 11 #[.val (.ref a1), .val (.long (9223372036854775807 : Int64)), .second, .val (.long (-9223372036854775808 : Int64)), .second, .val (.int (0 : Int32)), .unset, .unset, .unset] [])) _
    refine XS.aloadN X0.here hx rfl (hb hby d5_11) rfl rfl ?_
    show Steps p.tables e below (s₁.setTop (mkF m 12 #[.val (.ref a1), .val (.long (9223372036854775807 : Int64)), .second, .val (.long (-9223372036854775808 : Int64)), .second, .val (.int (0 : Int32)), .unset, .unset, .unset] [(.ref a1)])) _
    exact k
  obtain ⟨T2, X2, e2, st2⟩ := getF X0 hx hZ hown (host := "") (Or.inl (hw _ (List.mem_of_getElem? (i := 26) rfl))) Via.refl e0 w_open (g := (mkF m 12 #[.val (.ref a1), .val (.long (9223372036854775807 : Int64)), .second, .val (.long (-9223372036854775808 : Int64)), .second, .val (.int (0 : Int32)), .unset, .unset, .unset] [(.ref a1)])) rfl rfl (hb hby d5_12)
  have pre2 : ∀ t, Steps p.tables e below (T2.setTop (mkF m 15 #[.val (.ref a1), .val (.long (9223372036854775807 : Int64)), .second, .val (.long (-9223372036854775808 : Int64)), .second, .val (.int (0 : Int32)), .unset, .unset, .unset] [(.int (2 : Int32))])) t → Steps p.tables e below (s₁.setTop (entryFrame m #[(.ref a1)] 9)) t := fun t k => pre1 t (st2 _ k)
  have pre3 : ∀ t, Steps p.tables e below (T2.setTop (mkF m 16 #[.val (.ref a1), .val (.long (9223372036854775807 : Int64)), .second, .val (.long (-9223372036854775808 : Int64)), .second, .val (.int (0 : Int32)), .unset, .unset, .unset] [(.ref a1), (.int (2 : Int32))])) t → Steps p.tables e below (s₁.setTop (entryFrame m #[(.ref a1)] 9)) t := by
    intro t k
    refine pre2 t ?_
    refine XS.aloadN X2.here hx rfl (hb hby d5_15) rfl rfl ?_
    show Steps p.tables e below (T2.setTop (mkF m 16 #[.val (.ref a1), .val (.long (9223372036854775807 : Int64)), .second, .val (.long (-9223372036854775808 : Int64)), .second, .val (.int (0 : Int32)), .unset, .unset, .unset] [(.ref a1), (.int (2 : Int32))])) _
    exact k
  obtain ⟨T4, X4, e4, st4⟩ := getF X2 hx hZ hown (host := "") (Or.inl (hw _ (List.mem_of_getElem? (i := 14) rfl))) Via.refl e2 w_marks (g := (mkF m 16 #[.val (.ref a1), .val (.long (9223372036854775807 : Int64)), .second, .val (.long (-9223372036854775808 : Int64)), .second, .val (.int (0 : Int32)), .unset, .unset, .unset] [(.ref a1), (.int (2 : Int32))])) rfl rfl (hb hby d5_16)
  have pre4 : ∀ t, Steps p.tables e below (T4.setTop (mkF m 19 #[.val (.ref a1), .val (.long (9223372036854775807 : Int64)), .second, .val (.long (-9223372036854775808 : Int64)), .second, .val (.int (0 : Int32)), .unset, .unset, .unset] [(.ref bm), (.int (2 : Int32))])) t → Steps p.tables e below (s₁.setTop (entryFrame m #[(.ref a1)] 9)) t := fun t k => pre3 t (st4 _ k)
  have pre5 : ∀ t, Steps p.tables e below (T4.setTop (mkF m 36 #[.val (.ref a1), .val (.long (9223372036854775807 : Int64)), .second, .val (.long (-9223372036854775808 : Int64)), .second, .val (.int (0 : Int32)), .val (.int (1 : Int32)), .val (.int (0 : Int32)), .unset] [(.ref a1), (.int (0 : Int32))])) t → Steps p.tables e below (s₁.setTop (entryFrame m #[(.ref a1)] 9)) t := by
    intro t k
    refine pre4 t ?_
    refine own_lenJ X4 hx hZ e4 w_am (g := (mkF m 19 #[.val (.ref a1), .val (.long (9223372036854775807 : Int64)), .second, .val (.long (-9223372036854775808 : Int64)), .second, .val (.int (0 : Int32)), .unset, .unset, .unset] [(.ref bm), (.int (2 : Int32))])) rfl rfl (hb hby d5_19) _ ?_
    show Steps p.tables e below (T4.setTop (mkF m 20 #[.val (.ref a1), .val (.long (9223372036854775807 : Int64)), .second, .val (.long (-9223372036854775808 : Int64)), .second, .val (.int (0 : Int32)), .unset, .unset, .unset] [(.int (2 : Int32)), (.int (2 : Int32))])) _
    refine XS.icmpNo X4.here hx rfl (hb hby d5_20) rfl (teq (by decide : (2 : Int32) = (2 : Int32))).2 ?_
    show Steps p.tables e below (T4.setTop (mkF m 23 #[.val (.ref a1), .val (.long (9223372036854775807 : Int64)), .second, .val (.long (-9223372036854775808 : Int64)), .second, .val (.int (0 : Int32)), .unset, .unset, .unset] [])) _
    refine XS.iconst X4.here hx rfl (hb hby d5_23) ?_
    show Steps p.tables e below (T4.setTop (mkF m 24 #[.val (.ref a1), .val (.long (9223372036854775807 : Int64)), .second, .val (.long (-9223372036854775808 : Int64)), .second, .val (.int (0 : Int32)), .unset, .unset, .unset] [(.int (1 : Int32))])) _
    refine XS.goto X4.here hx rfl (pc0 := 24) (pc' := 28) rfl (hb hby d5_24) (by decide) (by decide) ?_
    show Steps p.tables e below (T4.setTop (mkF m 28 #[.val (.ref a1), .val (.long (9223372036854775807 : Int64)), .second, .val (.long (-9223372036854775808 : Int64)), .second, .val (.int (0 : Int32)), .unset, .unset, .unset] [(.int (1 : Int32))])) _
    refine XS.istore X4.here hx rfl (hb hby d5_28) rfl (l' := #[.val (.ref a1), .val (.long (9223372036854775807 : Int64)), .second, .val (.long (-9223372036854775808 : Int64)), .second, .val (.int (0 : Int32)), .val (.int (1 : Int32)), .unset, .unset]) rfl ?_
    show Steps p.tables e below (T4.setTop (mkF m 30 #[.val (.ref a1), .val (.long (9223372036854775807 : Int64)), .second, .val (.long (-9223372036854775808 : Int64)), .second, .val (.int (0 : Int32)), .val (.int (1 : Int32)), .unset, .unset] [])) _
    refine XS.iconst X4.here hx rfl (hb hby d5_30) ?_
    show Steps p.tables e below (T4.setTop (mkF m 31 #[.val (.ref a1), .val (.long (9223372036854775807 : Int64)), .second, .val (.long (-9223372036854775808 : Int64)), .second, .val (.int (0 : Int32)), .val (.int (1 : Int32)), .unset, .unset] [(.int (0 : Int32))])) _
    refine XS.istore X4.here hx rfl (hb hby d5_31) rfl (l' := #[.val (.ref a1), .val (.long (9223372036854775807 : Int64)), .second, .val (.long (-9223372036854775808 : Int64)), .second, .val (.int (0 : Int32)), .val (.int (1 : Int32)), .val (.int (0 : Int32)), .unset]) rfl ?_
    show Steps p.tables e below (T4.setTop (mkF m 33 #[.val (.ref a1), .val (.long (9223372036854775807 : Int64)), .second, .val (.long (-9223372036854775808 : Int64)), .second, .val (.int (0 : Int32)), .val (.int (1 : Int32)), .val (.int (0 : Int32)), .unset] [])) _
    refine XS.iload X4.here hx rfl (hb hby d5_33) rfl ?_
    show Steps p.tables e below (T4.setTop (mkF m 35 #[.val (.ref a1), .val (.long (9223372036854775807 : Int64)), .second, .val (.long (-9223372036854775808 : Int64)), .second, .val (.int (0 : Int32)), .val (.int (1 : Int32)), .val (.int (0 : Int32)), .unset] [(.int (0 : Int32))])) _
    refine XS.aloadN X4.here hx rfl (hb hby d5_35) rfl rfl ?_
    show Steps p.tables e below (T4.setTop (mkF m 36 #[.val (.ref a1), .val (.long (9223372036854775807 : Int64)), .second, .val (.long (-9223372036854775808 : Int64)), .second, .val (.int (0 : Int32)), .val (.int (1 : Int32)), .val (.int (0 : Int32)), .unset] [(.ref a1), (.int (0 : Int32))])) _
    exact k
  obtain ⟨T6, X6, e6, st6⟩ := getF X4 hx hZ hown (host := "") (Or.inl (hw _ (List.mem_of_getElem? (i := 26) rfl))) Via.refl e4 w_open (g := (mkF m 36 #[.val (.ref a1), .val (.long (9223372036854775807 : Int64)), .second, .val (.long (-9223372036854775808 : Int64)), .second, .val (.int (0 : Int32)), .val (.int (1 : Int32)), .val (.int (0 : Int32)), .unset] [(.ref a1), (.int (0 : Int32))])) rfl rfl (hb hby d5_36)
  have pre6 : ∀ t, Steps p.tables e below (T6.setTop (mkF m 39 #[.val (.ref a1), .val (.long (9223372036854775807 : Int64)), .second, .val (.long (-9223372036854775808 : Int64)), .second, .val (.int (0 : Int32)), .val (.int (1 : Int32)), .val (.int (0 : Int32)), .unset] [(.int (2 : Int32)), (.int (0 : Int32))])) t → Steps p.tables e below (s₁.setTop (entryFrame m #[(.ref a1)] 9)) t := fun t k => pre5 t (st6 _ k)
  have pre7 : ∀ t, Steps p.tables e below (T6.setTop (mkF m 62 #[.val (.ref a1), .val (.long (9223372036854775807 : Int64)), .second, .val (.long (-9223372036854775808 : Int64)), .second, .val (.int (0 : Int32)), .val (.int (1 : Int32)), .val (.int (0 : Int32)), .val (.int (0 : Int32))] [(.ref a1)])) t → Steps p.tables e below (s₁.setTop (entryFrame m #[(.ref a1)] 9)) t := by
    intro t k
    refine pre6 t ?_
    refine XS.icmpNo X6.here hx rfl (hb hby d5_39) rfl (tlt (by decide : (0 : Int32) < (2 : Int32))).2.1 ?_
    show Steps p.tables e below (T6.setTop (mkF m 42 #[.val (.ref a1), .val (.long (9223372036854775807 : Int64)), .second, .val (.long (-9223372036854775808 : Int64)), .second, .val (.int (0 : Int32)), .val (.int (1 : Int32)), .val (.int (0 : Int32)), .unset] [])) _
    refine XS.iload X6.here hx rfl (hb hby d5_42) rfl ?_
    show Steps p.tables e below (T6.setTop (mkF m 44 #[.val (.ref a1), .val (.long (9223372036854775807 : Int64)), .second, .val (.long (-9223372036854775808 : Int64)), .second, .val (.int (0 : Int32)), .val (.int (1 : Int32)), .val (.int (0 : Int32)), .unset] [(.int (1 : Int32))])) _
    refine XS.ifNo X6.here hx rfl (hb hby d5_44) rfl ((if0 _ _).trans (feq (by decide : ¬ (1 : Int32) = (0 : Int32))).1) ?_
    show Steps p.tables e below (T6.setTop (mkF m 47 #[.val (.ref a1), .val (.long (9223372036854775807 : Int64)), .second, .val (.long (-9223372036854775808 : Int64)), .second, .val (.int (0 : Int32)), .val (.int (1 : Int32)), .val (.int (0 : Int32)), .unset] [])) _
    refine XS.iload X6.here hx rfl (hb hby d5_47) rfl ?_
    show Steps p.tables e below (T6.setTop (mkF m 49 #[.val (.ref a1), .val (.long (9223372036854775807 : Int64)), .second, .val (.long (-9223372036854775808 : Int64)), .second, .val (.int (0 : Int32)), .val (.int (1 : Int32)), .val (.int (0 : Int32)), .unset] [(.int (0 : Int32))])) _
    refine XS.goto X6.here hx rfl (pc0 := 49) (pc' := 59) rfl (hb hby d5_49) (by decide) (by decide) ?_
    show Steps p.tables e below (T6.setTop (mkF m 59 #[.val (.ref a1), .val (.long (9223372036854775807 : Int64)), .second, .val (.long (-9223372036854775808 : Int64)), .second, .val (.int (0 : Int32)), .val (.int (1 : Int32)), .val (.int (0 : Int32)), .unset] [(.int (0 : Int32))])) _
    refine XS.istore X6.here hx rfl (hb hby d5_59) rfl (l' := #[.val (.ref a1), .val (.long (9223372036854775807 : Int64)), .second, .val (.long (-9223372036854775808 : Int64)), .second, .val (.int (0 : Int32)), .val (.int (1 : Int32)), .val (.int (0 : Int32)), .val (.int (0 : Int32))]) rfl ?_
    show Steps p.tables e below (T6.setTop (mkF m 61 #[.val (.ref a1), .val (.long (9223372036854775807 : Int64)), .second, .val (.long (-9223372036854775808 : Int64)), .second, .val (.int (0 : Int32)), .val (.int (1 : Int32)), .val (.int (0 : Int32)), .val (.int (0 : Int32))] [])) _
    refine XS.aloadN X6.here hx rfl (hb hby d5_61) rfl rfl ?_
    show Steps p.tables e below (T6.setTop (mkF m 62 #[.val (.ref a1), .val (.long (9223372036854775807 : Int64)), .second, .val (.long (-9223372036854775808 : Int64)), .second, .val (.int (0 : Int32)), .val (.int (1 : Int32)), .val (.int (0 : Int32)), .val (.int (0 : Int32))] [(.ref a1)])) _
    exact k
  obtain ⟨T8, X8, e8, st8⟩ := getF X6 hx hZ hown (host := "") (Or.inl (hw _ (List.mem_of_getElem? (i := 17) rfl))) Via.refl e6 w_states (g := (mkF m 62 #[.val (.ref a1), .val (.long (9223372036854775807 : Int64)), .second, .val (.long (-9223372036854775808 : Int64)), .second, .val (.int (0 : Int32)), .val (.int (1 : Int32)), .val (.int (0 : Int32)), .val (.int (0 : Int32))] [(.ref a1)])) rfl rfl (hb hby d5_62)
  have pre8 : ∀ t, Steps p.tables e below (T8.setTop (mkF m 65 #[.val (.ref a1), .val (.long (9223372036854775807 : Int64)), .second, .val (.long (-9223372036854775808 : Int64)), .second, .val (.int (0 : Int32)), .val (.int (1 : Int32)), .val (.int (0 : Int32)), .val (.int (0 : Int32))] [(.ref bs)])) t → Steps p.tables e below (s₁.setTop (entryFrame m #[(.ref a1)] 9)) t := fun t k => pre7 t (st8 _ k)
  have pre9 : ∀ t, Steps p.tables e below (T8.setTop (mkF m 73 #[.val (.ref a1), .val (.long (9223372036854775807 : Int64)), .second, .val (.long (-9223372036854775808 : Int64)), .second, .val (.int (0 : Int32)), .val (.int (1 : Int32)), .val (.int (0 : Int32)), .val (.int (0 : Int32))] [(.ref a1), (.long (9223372036854775807 : Int64))])) t → Steps p.tables e below (s₁.setTop (entryFrame m #[(.ref a1)] 9)) t := by
    intro t k
    refine pre8 t ?_
    refine XS.iload X8.here hx rfl (hb hby d5_65) rfl ?_
    show Steps p.tables e below (T8.setTop (mkF m 67 #[.val (.ref a1), .val (.long (9223372036854775807 : Int64)), .second, .val (.long (-9223372036854775808 : Int64)), .second, .val (.int (0 : Int32)), .val (.int (1 : Int32)), .val (.int (0 : Int32)), .val (.int (0 : Int32))] [(.int (0 : Int32)), (.ref bs)])) _
    refine own_ldB X8 hx hZ e8 w_as (by decide) (by decide) (g := (mkF m 67 #[.val (.ref a1), .val (.long (9223372036854775807 : Int64)), .second, .val (.long (-9223372036854775808 : Int64)), .second, .val (.int (0 : Int32)), .val (.int (1 : Int32)), .val (.int (0 : Int32)), .val (.int (0 : Int32))] [(.int (0 : Int32)), (.ref bs)])) rfl rfl (hb hby d5_67) _ ?_
    show Steps p.tables e below (T8.setTop (mkF m 68 #[.val (.ref a1), .val (.long (9223372036854775807 : Int64)), .second, .val (.long (-9223372036854775808 : Int64)), .second, .val (.int (0 : Int32)), .val (.int (1 : Int32)), .val (.int (0 : Int32)), .val (.int (0 : Int32))] [(.int (0 : Int32))])) _
    refine XS.ifNo X8.here hx rfl (hb hby d5_68) rfl ((if0 _ _).trans (teq (by decide : (0 : Int32) = (0 : Int32))).2) ?_
    show Steps p.tables e below (T8.setTop (mkF m 71 #[.val (.ref a1), .val (.long (9223372036854775807 : Int64)), .second, .val (.long (-9223372036854775808 : Int64)), .second, .val (.int (0 : Int32)), .val (.int (1 : Int32)), .val (.int (0 : Int32)), .val (.int (0 : Int32))] [])) _
    refine XS.lloadN X8.here hx rfl (hb hby d5_71) rfl ?_
    show Steps p.tables e below (T8.setTop (mkF m 72 #[.val (.ref a1), .val (.long (9223372036854775807 : Int64)), .second, .val (.long (-9223372036854775808 : Int64)), .second, .val (.int (0 : Int32)), .val (.int (1 : Int32)), .val (.int (0 : Int32)), .val (.int (0 : Int32))] [(.long (9223372036854775807 : Int64))])) _
    refine XS.aloadN X8.here hx rfl (hb hby d5_72) rfl rfl ?_
    show Steps p.tables e below (T8.setTop (mkF m 73 #[.val (.ref a1), .val (.long (9223372036854775807 : Int64)), .second, .val (.long (-9223372036854775808 : Int64)), .second, .val (.int (0 : Int32)), .val (.int (1 : Int32)), .val (.int (0 : Int32)), .val (.int (0 : Int32))] [(.ref a1), (.long (9223372036854775807 : Int64))])) _
    exact k
  obtain ⟨T10, X10, e10, st10⟩ := getF X8 hx hZ hown (host := "") (Or.inl (hw _ (List.mem_of_getElem? (i := 14) rfl))) Via.refl e8 w_marks (g := (mkF m 73 #[.val (.ref a1), .val (.long (9223372036854775807 : Int64)), .second, .val (.long (-9223372036854775808 : Int64)), .second, .val (.int (0 : Int32)), .val (.int (1 : Int32)), .val (.int (0 : Int32)), .val (.int (0 : Int32))] [(.ref a1), (.long (9223372036854775807 : Int64))])) rfl rfl (hb hby d5_73)
  have pre10 : ∀ t, Steps p.tables e below (T10.setTop (mkF m 76 #[.val (.ref a1), .val (.long (9223372036854775807 : Int64)), .second, .val (.long (-9223372036854775808 : Int64)), .second, .val (.int (0 : Int32)), .val (.int (1 : Int32)), .val (.int (0 : Int32)), .val (.int (0 : Int32))] [(.ref bm), (.long (9223372036854775807 : Int64))])) t → Steps p.tables e below (s₁.setTop (entryFrame m #[(.ref a1)] 9)) t := fun t k => pre9 t (st10 _ k)
  have pre11 : ∀ t, Steps p.tables e below (T10.setTop (mkF m 79 #[.val (.ref a1), .val (.long (9223372036854775807 : Int64)), .second, .val (.long (-9223372036854775808 : Int64)), .second, .val (.int (0 : Int32)), .val (.int (1 : Int32)), .val (.int (0 : Int32)), .val (.int (0 : Int32))] [(.long m0), (.long (9223372036854775807 : Int64))])) t → Steps p.tables e below (s₁.setTop (entryFrame m #[(.ref a1)] 9)) t := by
    intro t k
    refine pre10 t ?_
    refine XS.iload X10.here hx rfl (hb hby d5_76) rfl ?_
    show Steps p.tables e below (T10.setTop (mkF m 78 #[.val (.ref a1), .val (.long (9223372036854775807 : Int64)), .second, .val (.long (-9223372036854775808 : Int64)), .second, .val (.int (0 : Int32)), .val (.int (1 : Int32)), .val (.int (0 : Int32)), .val (.int (0 : Int32))] [(.int (0 : Int32)), (.ref bm), (.long (9223372036854775807 : Int64))])) _
    refine own_ldJ X10 hx hZ e10 w_am (by decide) (by decide) (g := (mkF m 78 #[.val (.ref a1), .val (.long (9223372036854775807 : Int64)), .second, .val (.long (-9223372036854775808 : Int64)), .second, .val (.int (0 : Int32)), .val (.int (1 : Int32)), .val (.int (0 : Int32)), .val (.int (0 : Int32))] [(.int (0 : Int32)), (.ref bm), (.long (9223372036854775807 : Int64))])) rfl rfl (hb hby d5_78) _ ?_
    show Steps p.tables e below (T10.setTop (mkF m 79 #[.val (.ref a1), .val (.long (9223372036854775807 : Int64)), .second, .val (.long (-9223372036854775808 : Int64)), .second, .val (.int (0 : Int32)), .val (.int (1 : Int32)), .val (.int (0 : Int32)), .val (.int (0 : Int32))] [(.long m0), (.long (9223372036854775807 : Int64))])) _
    exact k
  obtain ⟨_, _, ⟨T12, L12, k12, n12⟩, -, X12, ⟨Lc12, hQ12, l12, y12, z12⟩, st12⟩ := Jvm.LawKit.callS X10 hx (y := (⟨"java/lang/Math", "min", "(JJ)J"⟩ : MethodName)) hown (mvT hZ (hw _ (List.mem_of_getElem? (i := 38) rfl))) (mvT hZ (hw _ (List.mem_of_getElem? (i := 39) rfl))) (mvT hZ (hw _ (List.mem_of_getElem? (i := 40) rfl))) (mvT hZ (hw _ (List.mem_of_getElem? (i := 41) rfl))) (by decide) (backOf (W := 0) (rm6 l Z a0 hw [] (9223372036854775807 : Int64) m0 h0 n0 Z0) hZ (hw _ (List.mem_of_getElem? (i := 41) rfl)) (hw _ (List.mem_of_getElem? (i := 40) rfl)) (by decide) (by decide)) (g := (mkF m 79 #[.val (.ref a1), .val (.long (9223372036854775807 : Int64)), .second, .val (.long (-9223372036854775808 : Int64)), .second, .val (.int (0 : Int32)), .val (.int (1 : Int32)), .val (.int (0 : Int32)), .val (.int (0 : Int32))] [(.long m0), (.long (9223372036854775807 : Int64))])) rfl (by rw [hml]; rfl) (argsL := [(.long (9223372036854775807 : Int64)), (.long m0)]) (rest := []) (lenOf pdrA_0 rfl) rfl (by show 2 * 0 + _ ≤ _; exact Nat.le_of_eq rfl) (hb hby d5_79) (fun _ _ => ⟨rfl, e10, (by decide : 0 + 0 ≤ _), (by decide : 0 + 0 ≤ _)⟩)
  dsimp only [Pt.U, Pt.locs, Pt.cells, Pt.slots] at X12 l12 y12 z12 st12 hQ12
  subst l12 y12 z12
  obtain ⟨rfl, Nq12, e12⟩ := hQ12
  have N12 := Fr.app N0 Nq12
  have pre12 : ∀ t, Steps p.tables e below (T12.setTop (mkF m 82 #[.val (.ref a1), .val (.long (9223372036854775807 : Int64)), .second, .val (.long (-9223372036854775808 : Int64)), .second, .val (.int (0 : Int32)), .val (.int (1 : Int32)), .val (.int (0 : Int32)), .val (.int (0 : Int32))] [(.long (fn6 (9223372036854775807 : Int64) m0))])) t → Steps p.tables e below (s₁.setTop (entryFrame m #[(.ref a1)] 9)) t := fun t k => pre11 t (st12 _ k)
  obtain ⟨v82, hv82⟩ : ∃ z : Int64, z = (fn6 (9223372036854775807 : Int64) m0) := ⟨_, rfl⟩
  have pre13 : ∀ t, Steps p.tables e below (T12.setTop (mkF m 83 #[.val (.ref a1), .val (.long v82), .second, .val (.long (-9223372036854775808 : Int64)), .second, .val (.int (0 : Int32)), .val (.int (1 : Int32)), .val (.int (0 : Int32)), .val (.int (0 : Int32))] [])) t → Steps p.tables e below (s₁.setTop (entryFrame m #[(.ref a1)] 9)) t := by
    intro t k
    subst hv82
    refine pre12 t ?_
    refine XS.lstoreN X12.here hx rfl (hb hby d5_82) rfl (l' := #[.val (.ref a1), .val (.long (fn6 (9223372036854775807 : Int64) m0)), .second, .val (.long (-9223372036854775808 : Int64)), .second, .val (.int (0 : Int32)), .val (.int (1 : Int32)), .val (.int (0 : Int32)), .val (.int (0 : Int32))]) rfl ?_
    show Steps p.tables e below (T12.setTop (mkF m 83 #[.val (.ref a1), .val (.long (fn6 (9223372036854775807 : Int64) m0)), .second, .val (.long (-9223372036854775808 : Int64)), .second, .val (.int (0 : Int32)), .val (.int (1 : Int32)), .val (.int (0 : Int32)), .val (.int (0 : Int32))] [])) _
    exact k
  have pre14 : ∀ t, Steps p.tables e below (T12.setTop (mkF m 36 #[.val (.ref a1), .val (.long v82), .second, .val (.long (-9223372036854775808 : Int64)), .second, .val (.int (1 : Int32)), .val (.int (1 : Int32)), .val (.int (1 : Int32)), .val (.int (0 : Int32))] [(.ref a1), (.int (1 : Int32))])) t → Steps p.tables e below (s₁.setTop (entryFrame m #[(.ref a1)] 9)) t := by
    intro t k
    refine pre13 t ?_
    refine XS.iconst X12.here hx rfl (hb hby d5_83) ?_
    show Steps p.tables e below (T12.setTop (mkF m 84 #[.val (.ref a1), .val (.long v82), .second, .val (.long (-9223372036854775808 : Int64)), .second, .val (.int (0 : Int32)), .val (.int (1 : Int32)), .val (.int (0 : Int32)), .val (.int (0 : Int32))] [(.int (1 : Int32))])) _
    refine XS.istore X12.here hx rfl (hb hby d5_84) rfl (l' := #[.val (.ref a1), .val (.long v82), .second, .val (.long (-9223372036854775808 : Int64)), .second, .val (.int (1 : Int32)), .val (.int (1 : Int32)), .val (.int (0 : Int32)), .val (.int (0 : Int32))]) rfl ?_
    show Steps p.tables e below (T12.setTop (mkF m 86 #[.val (.ref a1), .val (.long v82), .second, .val (.long (-9223372036854775808 : Int64)), .second, .val (.int (1 : Int32)), .val (.int (1 : Int32)), .val (.int (0 : Int32)), .val (.int (0 : Int32))] [])) _
    refine XS.goto X12.here hx rfl (pc0 := 86) (pc' := 101) rfl (hb hby d5_86) (by decide) (by decide) ?_
    show Steps p.tables e below (T12.setTop (mkF m 101 #[.val (.ref a1), .val (.long v82), .second, .val (.long (-9223372036854775808 : Int64)), .second, .val (.int (1 : Int32)), .val (.int (1 : Int32)), .val (.int (0 : Int32)), .val (.int (0 : Int32))] [])) _
    refine XS.iinc X12.here hx rfl (hb hby d5_101) rfl (l' := #[.val (.ref a1), .val (.long v82), .second, .val (.long (-9223372036854775808 : Int64)), .second, .val (.int (1 : Int32)), .val (.int (1 : Int32)), .val (.int (1 : Int32)), .val (.int (0 : Int32))]) rfl ?_
    show Steps p.tables e below (T12.setTop (mkF m 104 #[.val (.ref a1), .val (.long v82), .second, .val (.long (-9223372036854775808 : Int64)), .second, .val (.int (1 : Int32)), .val (.int (1 : Int32)), .val (.int (1 : Int32)), .val (.int (0 : Int32))] [])) _
    refine XS.goto X12.here hx rfl (pc0 := 104) (pc' := 33) rfl (hb hby d5_104) (by decide) (by decide) ?_
    show Steps p.tables e below (T12.setTop (mkF m 33 #[.val (.ref a1), .val (.long v82), .second, .val (.long (-9223372036854775808 : Int64)), .second, .val (.int (1 : Int32)), .val (.int (1 : Int32)), .val (.int (1 : Int32)), .val (.int (0 : Int32))] [])) _
    refine XS.iload X12.here hx rfl (hb hby d5_33) rfl ?_
    show Steps p.tables e below (T12.setTop (mkF m 35 #[.val (.ref a1), .val (.long v82), .second, .val (.long (-9223372036854775808 : Int64)), .second, .val (.int (1 : Int32)), .val (.int (1 : Int32)), .val (.int (1 : Int32)), .val (.int (0 : Int32))] [(.int (1 : Int32))])) _
    refine XS.aloadN X12.here hx rfl (hb hby d5_35) rfl rfl ?_
    show Steps p.tables e below (T12.setTop (mkF m 36 #[.val (.ref a1), .val (.long v82), .second, .val (.long (-9223372036854775808 : Int64)), .second, .val (.int (1 : Int32)), .val (.int (1 : Int32)), .val (.int (1 : Int32)), .val (.int (0 : Int32))] [(.ref a1), (.int (1 : Int32))])) _
    exact k
  obtain ⟨T15, X15, e15, st15⟩ := getF X12 hx hZ hown (host := "") (Or.inl (hw _ (List.mem_of_getElem? (i := 26) rfl))) Via.refl e12 w_open (g := (mkF m 36 #[.val (.ref a1), .val (.long v82), .second, .val (.long (-9223372036854775808 : Int64)), .second, .val (.int (1 : Int32)), .val (.int (1 : Int32)), .val (.int (1 : Int32)), .val (.int (0 : Int32))] [(.ref a1), (.int (1 : Int32))])) rfl rfl (hb hby d5_36)
  have pre15 : ∀ t, Steps p.tables e below (T15.setTop (mkF m 39 #[.val (.ref a1), .val (.long v82), .second, .val (.long (-9223372036854775808 : Int64)), .second, .val (.int (1 : Int32)), .val (.int (1 : Int32)), .val (.int (1 : Int32)), .val (.int (0 : Int32))] [(.int (2 : Int32)), (.int (1 : Int32))])) t → Steps p.tables e below (s₁.setTop (entryFrame m #[(.ref a1)] 9)) t := fun t k => pre14 t (st15 _ k)
  have pre16 : ∀ t, Steps p.tables e below (T15.setTop (mkF m 62 #[.val (.ref a1), .val (.long v82), .second, .val (.long (-9223372036854775808 : Int64)), .second, .val (.int (1 : Int32)), .val (.int (1 : Int32)), .val (.int (1 : Int32)), .val (.int (1 : Int32))] [(.ref a1)])) t → Steps p.tables e below (s₁.setTop (entryFrame m #[(.ref a1)] 9)) t := by
    intro t k
    refine pre15 t ?_
    refine XS.icmpNo X15.here hx rfl (hb hby d5_39) rfl (tlt (by decide : (1 : Int32) < (2 : Int32))).2.1 ?_
    show Steps p.tables e below (T15.setTop (mkF m 42 #[.val (.ref a1), .val (.long v82), .second, .val (.long (-9223372036854775808 : Int64)), .second, .val (.int (1 : Int32)), .val (.int (1 : Int32)), .val (.int (1 : Int32)), .val (.int (0 : Int32))] [])) _
    refine XS.iload X15.here hx rfl (hb hby d5_42) rfl ?_
    show Steps p.tables e below (T15.setTop (mkF m 44 #[.val (.ref a1), .val (.long v82), .second, .val (.long (-9223372036854775808 : Int64)), .second, .val (.int (1 : Int32)), .val (.int (1 : Int32)), .val (.int (1 : Int32)), .val (.int (0 : Int32))] [(.int (1 : Int32))])) _
    refine XS.ifNo X15.here hx rfl (hb hby d5_44) rfl ((if0 _ _).trans (feq (by decide : ¬ (1 : Int32) = (0 : Int32))).1) ?_
    show Steps p.tables e below (T15.setTop (mkF m 47 #[.val (.ref a1), .val (.long v82), .second, .val (.long (-9223372036854775808 : Int64)), .second, .val (.int (1 : Int32)), .val (.int (1 : Int32)), .val (.int (1 : Int32)), .val (.int (0 : Int32))] [])) _
    refine XS.iload X15.here hx rfl (hb hby d5_47) rfl ?_
    show Steps p.tables e below (T15.setTop (mkF m 49 #[.val (.ref a1), .val (.long v82), .second, .val (.long (-9223372036854775808 : Int64)), .second, .val (.int (1 : Int32)), .val (.int (1 : Int32)), .val (.int (1 : Int32)), .val (.int (0 : Int32))] [(.int (1 : Int32))])) _
    refine XS.goto X15.here hx rfl (pc0 := 49) (pc' := 59) rfl (hb hby d5_49) (by decide) (by decide) ?_
    show Steps p.tables e below (T15.setTop (mkF m 59 #[.val (.ref a1), .val (.long v82), .second, .val (.long (-9223372036854775808 : Int64)), .second, .val (.int (1 : Int32)), .val (.int (1 : Int32)), .val (.int (1 : Int32)), .val (.int (0 : Int32))] [(.int (1 : Int32))])) _
    refine XS.istore X15.here hx rfl (hb hby d5_59) rfl (l' := #[.val (.ref a1), .val (.long v82), .second, .val (.long (-9223372036854775808 : Int64)), .second, .val (.int (1 : Int32)), .val (.int (1 : Int32)), .val (.int (1 : Int32)), .val (.int (1 : Int32))]) rfl ?_
    show Steps p.tables e below (T15.setTop (mkF m 61 #[.val (.ref a1), .val (.long v82), .second, .val (.long (-9223372036854775808 : Int64)), .second, .val (.int (1 : Int32)), .val (.int (1 : Int32)), .val (.int (1 : Int32)), .val (.int (1 : Int32))] [])) _
    refine XS.aloadN X15.here hx rfl (hb hby d5_61) rfl rfl ?_
    show Steps p.tables e below (T15.setTop (mkF m 62 #[.val (.ref a1), .val (.long v82), .second, .val (.long (-9223372036854775808 : Int64)), .second, .val (.int (1 : Int32)), .val (.int (1 : Int32)), .val (.int (1 : Int32)), .val (.int (1 : Int32))] [(.ref a1)])) _
    exact k
  obtain ⟨T17, X17, e17, st17⟩ := getF X15 hx hZ hown (host := "") (Or.inl (hw _ (List.mem_of_getElem? (i := 17) rfl))) Via.refl e15 w_states (g := (mkF m 62 #[.val (.ref a1), .val (.long v82), .second, .val (.long (-9223372036854775808 : Int64)), .second, .val (.int (1 : Int32)), .val (.int (1 : Int32)), .val (.int (1 : Int32)), .val (.int (1 : Int32))] [(.ref a1)])) rfl rfl (hb hby d5_62)
  have pre17 : ∀ t, Steps p.tables e below (T17.setTop (mkF m 65 #[.val (.ref a1), .val (.long v82), .second, .val (.long (-9223372036854775808 : Int64)), .second, .val (.int (1 : Int32)), .val (.int (1 : Int32)), .val (.int (1 : Int32)), .val (.int (1 : Int32))] [(.ref bs)])) t → Steps p.tables e below (s₁.setTop (entryFrame m #[(.ref a1)] 9)) t := fun t k => pre16 t (st17 _ k)
  have pre18 : ∀ t, Steps p.tables e below (T17.setTop (mkF m 73 #[.val (.ref a1), .val (.long v82), .second, .val (.long (-9223372036854775808 : Int64)), .second, .val (.int (1 : Int32)), .val (.int (1 : Int32)), .val (.int (1 : Int32)), .val (.int (1 : Int32))] [(.ref a1), (.long v82)])) t → Steps p.tables e below (s₁.setTop (entryFrame m #[(.ref a1)] 9)) t := by
    intro t k
    refine pre17 t ?_
    refine XS.iload X17.here hx rfl (hb hby d5_65) rfl ?_
    show Steps p.tables e below (T17.setTop (mkF m 67 #[.val (.ref a1), .val (.long v82), .second, .val (.long (-9223372036854775808 : Int64)), .second, .val (.int (1 : Int32)), .val (.int (1 : Int32)), .val (.int (1 : Int32)), .val (.int (1 : Int32))] [(.int (1 : Int32)), (.ref bs)])) _
    refine own_ldB X17 hx hZ e17 w_as (by decide) (by decide) (g := (mkF m 67 #[.val (.ref a1), .val (.long v82), .second, .val (.long (-9223372036854775808 : Int64)), .second, .val (.int (1 : Int32)), .val (.int (1 : Int32)), .val (.int (1 : Int32)), .val (.int (1 : Int32))] [(.int (1 : Int32)), (.ref bs)])) rfl rfl (hb hby d5_67) _ ?_
    show Steps p.tables e below (T17.setTop (mkF m 68 #[.val (.ref a1), .val (.long v82), .second, .val (.long (-9223372036854775808 : Int64)), .second, .val (.int (1 : Int32)), .val (.int (1 : Int32)), .val (.int (1 : Int32)), .val (.int (1 : Int32))] [(.int (0 : Int32))])) _
    refine XS.ifNo X17.here hx rfl (hb hby d5_68) rfl ((if0 _ _).trans (teq (by decide : (0 : Int32) = (0 : Int32))).2) ?_
    show Steps p.tables e below (T17.setTop (mkF m 71 #[.val (.ref a1), .val (.long v82), .second, .val (.long (-9223372036854775808 : Int64)), .second, .val (.int (1 : Int32)), .val (.int (1 : Int32)), .val (.int (1 : Int32)), .val (.int (1 : Int32))] [])) _
    refine XS.lloadN X17.here hx rfl (hb hby d5_71) rfl ?_
    show Steps p.tables e below (T17.setTop (mkF m 72 #[.val (.ref a1), .val (.long v82), .second, .val (.long (-9223372036854775808 : Int64)), .second, .val (.int (1 : Int32)), .val (.int (1 : Int32)), .val (.int (1 : Int32)), .val (.int (1 : Int32))] [(.long v82)])) _
    refine XS.aloadN X17.here hx rfl (hb hby d5_72) rfl rfl ?_
    show Steps p.tables e below (T17.setTop (mkF m 73 #[.val (.ref a1), .val (.long v82), .second, .val (.long (-9223372036854775808 : Int64)), .second, .val (.int (1 : Int32)), .val (.int (1 : Int32)), .val (.int (1 : Int32)), .val (.int (1 : Int32))] [(.ref a1), (.long v82)])) _
    exact k
  obtain ⟨T19, X19, e19, st19⟩ := getF X17 hx hZ hown (host := "") (Or.inl (hw _ (List.mem_of_getElem? (i := 14) rfl))) Via.refl e17 w_marks (g := (mkF m 73 #[.val (.ref a1), .val (.long v82), .second, .val (.long (-9223372036854775808 : Int64)), .second, .val (.int (1 : Int32)), .val (.int (1 : Int32)), .val (.int (1 : Int32)), .val (.int (1 : Int32))] [(.ref a1), (.long v82)])) rfl rfl (hb hby d5_73)
  have pre19 : ∀ t, Steps p.tables e below (T19.setTop (mkF m 76 #[.val (.ref a1), .val (.long v82), .second, .val (.long (-9223372036854775808 : Int64)), .second, .val (.int (1 : Int32)), .val (.int (1 : Int32)), .val (.int (1 : Int32)), .val (.int (1 : Int32))] [(.ref bm), (.long v82)])) t → Steps p.tables e below (s₁.setTop (entryFrame m #[(.ref a1)] 9)) t := fun t k => pre18 t (st19 _ k)
  have pre20 : ∀ t, Steps p.tables e below (T19.setTop (mkF m 79 #[.val (.ref a1), .val (.long v82), .second, .val (.long (-9223372036854775808 : Int64)), .second, .val (.int (1 : Int32)), .val (.int (1 : Int32)), .val (.int (1 : Int32)), .val (.int (1 : Int32))] [(.long m1), (.long v82)])) t → Steps p.tables e below (s₁.setTop (entryFrame m #[(.ref a1)] 9)) t := by
    intro t k
    refine pre19 t ?_
    refine XS.iload X19.here hx rfl (hb hby d5_76) rfl ?_
    show Steps p.tables e below (T19.setTop (mkF m 78 #[.val (.ref a1), .val (.long v82), .second, .val (.long (-9223372036854775808 : Int64)), .second, .val (.int (1 : Int32)), .val (.int (1 : Int32)), .val (.int (1 : Int32)), .val (.int (1 : Int32))] [(.int (1 : Int32)), (.ref bm), (.long v82)])) _
    refine own_ldJ X19 hx hZ e19 w_am (by decide) (by decide) (g := (mkF m 78 #[.val (.ref a1), .val (.long v82), .second, .val (.long (-9223372036854775808 : Int64)), .second, .val (.int (1 : Int32)), .val (.int (1 : Int32)), .val (.int (1 : Int32)), .val (.int (1 : Int32))] [(.int (1 : Int32)), (.ref bm), (.long v82)])) rfl rfl (hb hby d5_78) _ ?_
    show Steps p.tables e below (T19.setTop (mkF m 79 #[.val (.ref a1), .val (.long v82), .second, .val (.long (-9223372036854775808 : Int64)), .second, .val (.int (1 : Int32)), .val (.int (1 : Int32)), .val (.int (1 : Int32)), .val (.int (1 : Int32))] [(.long m1), (.long v82)])) _
    exact k
  obtain ⟨_, _, ⟨T21, L21, k21, n21⟩, -, X21, ⟨Lc21, hQ21, l21, y21, z21⟩, st21⟩ := Jvm.LawKit.callS X19 hx (y := (⟨"java/lang/Math", "min", "(JJ)J"⟩ : MethodName)) hown (mvT hZ (hw _ (List.mem_of_getElem? (i := 38) rfl))) (mvT hZ (hw _ (List.mem_of_getElem? (i := 39) rfl))) (mvT hZ (hw _ (List.mem_of_getElem? (i := 40) rfl))) (mvT hZ (hw _ (List.mem_of_getElem? (i := 41) rfl))) (by decide) (backOf (W := 0) (rm6 l Z a0 hw [] v82 m1 h0 n0 Z0) hZ (hw _ (List.mem_of_getElem? (i := 41) rfl)) (hw _ (List.mem_of_getElem? (i := 40) rfl)) (by decide) (by decide)) (g := (mkF m 79 #[.val (.ref a1), .val (.long v82), .second, .val (.long (-9223372036854775808 : Int64)), .second, .val (.int (1 : Int32)), .val (.int (1 : Int32)), .val (.int (1 : Int32)), .val (.int (1 : Int32))] [(.long m1), (.long v82)])) rfl (by rw [hml]; rfl) (argsL := [(.long v82), (.long m1)]) (rest := []) (lenOf pdrA_0 rfl) rfl (by show 2 * 0 + _ ≤ _; exact Nat.le_of_eq rfl) (hb hby d5_79) (fun _ _ => ⟨rfl, e19, (by decide : 0 + 0 ≤ _), (by decide : 0 + 0 ≤ _)⟩)
  dsimp only [Pt.U, Pt.locs, Pt.cells, Pt.slots] at X21 l21 y21 z21 st21 hQ21
  subst l21 y21 z21
  obtain ⟨rfl, Nq21, e21⟩ := hQ21
  have N21 := Fr.app N12 Nq21
  have pre21 : ∀ t, Steps p.tables e below (T21.setTop (mkF m 82 #[.val (.ref a1), .val (.long v82), .second, .val (.long (-9223372036854775808 : Int64)), .second, .val (.int (1 : Int32)), .val (.int (1 : Int32)), .val (.int (1 : Int32)), .val (.int (1 : Int32))] [(.long (fn6 v82 m1))])) t → Steps p.tables e below (s₁.setTop (entryFrame m #[(.ref a1)] 9)) t := fun t k => pre20 t (st21 _ k)
  obtain ⟨v82_1, hv82_1⟩ : ∃ z : Int64, z = (fn6 v82 m1) := ⟨_, rfl⟩
  have pre22 : ∀ t, Steps p.tables e below (T21.setTop (mkF m 83 #[.val (.ref a1), .val (.long v82_1), .second, .val (.long (-9223372036854775808 : Int64)), .second, .val (.int (1 : Int32)), .val (.int (1 : Int32)), .val (.int (1 : Int32)), .val (.int (1 : Int32))] [])) t → Steps p.tables e below (s₁.setTop (entryFrame m #[(.ref a1)] 9)) t := by
    intro t k
    subst hv82_1
    refine pre21 t ?_
    refine XS.lstoreN X21.here hx rfl (hb hby d5_82) rfl (l' := #[.val (.ref a1), .val (.long (fn6 v82 m1)), .second, .val (.long (-9223372036854775808 : Int64)), .second, .val (.int (1 : Int32)), .val (.int (1 : Int32)), .val (.int (1 : Int32)), .val (.int (1 : Int32))]) rfl ?_
    show Steps p.tables e below (T21.setTop (mkF m 83 #[.val (.ref a1), .val (.long (fn6 v82 m1)), .second, .val (.long (-9223372036854775808 : Int64)), .second, .val (.int (1 : Int32)), .val (.int (1 : Int32)), .val (.int (1 : Int32)), .val (.int (1 : Int32))] [])) _
    exact k
  have pre23 : ∀ t, Steps p.tables e below (T21.setTop (mkF m 36 #[.val (.ref a1), .val (.long v82_1), .second, .val (.long (-9223372036854775808 : Int64)), .second, .val (.int (1 : Int32)), .val (.int (1 : Int32)), .val (.int (2 : Int32)), .val (.int (1 : Int32))] [(.ref a1), (.int (2 : Int32))])) t → Steps p.tables e below (s₁.setTop (entryFrame m #[(.ref a1)] 9)) t := by
    intro t k
    refine pre22 t ?_
    refine XS.iconst X21.here hx rfl (hb hby d5_83) ?_
    show Steps p.tables e below (T21.setTop (mkF m 84 #[.val (.ref a1), .val (.long v82_1), .second, .val (.long (-9223372036854775808 : Int64)), .second, .val (.int (1 : Int32)), .val (.int (1 : Int32)), .val (.int (1 : Int32)), .val (.int (1 : Int32))] [(.int (1 : Int32))])) _
    refine XS.istore X21.here hx rfl (hb hby d5_84) rfl (l' := #[.val (.ref a1), .val (.long v82_1), .second, .val (.long (-9223372036854775808 : Int64)), .second, .val (.int (1 : Int32)), .val (.int (1 : Int32)), .val (.int (1 : Int32)), .val (.int (1 : Int32))]) rfl ?_
    show Steps p.tables e below (T21.setTop (mkF m 86 #[.val (.ref a1), .val (.long v82_1), .second, .val (.long (-9223372036854775808 : Int64)), .second, .val (.int (1 : Int32)), .val (.int (1 : Int32)), .val (.int (1 : Int32)), .val (.int (1 : Int32))] [])) _
    refine XS.goto X21.here hx rfl (pc0 := 86) (pc' := 101) rfl (hb hby d5_86) (by decide) (by decide) ?_
    show Steps p.tables e below (T21.setTop (mkF m 101 #[.val (.ref a1), .val (.long v82_1), .second, .val (.long (-9223372036854775808 : Int64)), .second, .val (.int (1 : Int32)), .val (.int (1 : Int32)), .val (.int (1 : Int32)), .val (.int (1 : Int32))] [])) _
    refine XS.iinc X21.here hx rfl (hb hby d5_101) rfl (l' := #[.val (.ref a1), .val (.long v82_1), .second, .val (.long (-9223372036854775808 : Int64)), .second, .val (.int (1 : Int32)), .val (.int (1 : Int32)), .val (.int (2 : Int32)), .val (.int (1 : Int32))]) rfl ?_
    show Steps p.tables e below (T21.setTop (mkF m 104 #[.val (.ref a1), .val (.long v82_1), .second, .val (.long (-9223372036854775808 : Int64)), .second, .val (.int (1 : Int32)), .val (.int (1 : Int32)), .val (.int (2 : Int32)), .val (.int (1 : Int32))] [])) _
    refine XS.goto X21.here hx rfl (pc0 := 104) (pc' := 33) rfl (hb hby d5_104) (by decide) (by decide) ?_
    show Steps p.tables e below (T21.setTop (mkF m 33 #[.val (.ref a1), .val (.long v82_1), .second, .val (.long (-9223372036854775808 : Int64)), .second, .val (.int (1 : Int32)), .val (.int (1 : Int32)), .val (.int (2 : Int32)), .val (.int (1 : Int32))] [])) _
    refine XS.iload X21.here hx rfl (hb hby d5_33) rfl ?_
    show Steps p.tables e below (T21.setTop (mkF m 35 #[.val (.ref a1), .val (.long v82_1), .second, .val (.long (-9223372036854775808 : Int64)), .second, .val (.int (1 : Int32)), .val (.int (1 : Int32)), .val (.int (2 : Int32)), .val (.int (1 : Int32))] [(.int (2 : Int32))])) _
    refine XS.aloadN X21.here hx rfl (hb hby d5_35) rfl rfl ?_
    show Steps p.tables e below (T21.setTop (mkF m 36 #[.val (.ref a1), .val (.long v82_1), .second, .val (.long (-9223372036854775808 : Int64)), .second, .val (.int (1 : Int32)), .val (.int (1 : Int32)), .val (.int (2 : Int32)), .val (.int (1 : Int32))] [(.ref a1), (.int (2 : Int32))])) _
    exact k
  obtain ⟨T24, X24, e24, st24⟩ := getF X21 hx hZ hown (host := "") (Or.inl (hw _ (List.mem_of_getElem? (i := 26) rfl))) Via.refl e21 w_open (g := (mkF m 36 #[.val (.ref a1), .val (.long v82_1), .second, .val (.long (-9223372036854775808 : Int64)), .second, .val (.int (1 : Int32)), .val (.int (1 : Int32)), .val (.int (2 : Int32)), .val (.int (1 : Int32))] [(.ref a1), (.int (2 : Int32))])) rfl rfl (hb hby d5_36)
  have pre24 : ∀ t, Steps p.tables e below (T24.setTop (mkF m 39 #[.val (.ref a1), .val (.long v82_1), .second, .val (.long (-9223372036854775808 : Int64)), .second, .val (.int (1 : Int32)), .val (.int (1 : Int32)), .val (.int (2 : Int32)), .val (.int (1 : Int32))] [(.int (2 : Int32)), (.int (2 : Int32))])) t → Steps p.tables e below (s₁.setTop (entryFrame m #[(.ref a1)] 9)) t := fun t k => pre23 t (st24 _ k)
  have pre25 : ∀ t, Steps p.tables e below (T24.setTop (mkF m 129 #[.val (.ref a1), .val (.long v82_1), .second, .val (.long (-9223372036854775808 : Int64)), .second, .val (.int (1 : Int32)), .val (.int (1 : Int32)), .val (.long v82_1), .second] [(.ref a1), (.long v82_1)])) t → Steps p.tables e below (s₁.setTop (entryFrame m #[(.ref a1)] 9)) t := by
    intro t k
    refine pre24 t ?_
    refine XS.icmpYes X24.here hx rfl (pc0 := 39) (pc' := 107) rfl (hb hby d5_39) rfl (flt (by decide : ¬ (2 : Int32) < (2 : Int32))).2.1 (by decide) (by decide) ?_
    show Steps p.tables e below (T24.setTop (mkF m 107 #[.val (.ref a1), .val (.long v82_1), .second, .val (.long (-9223372036854775808 : Int64)), .second, .val (.int (1 : Int32)), .val (.int (1 : Int32)), .val (.int (2 : Int32)), .val (.int (1 : Int32))] [])) _
    refine XS.iload X24.here hx rfl (hb hby d5_107) rfl ?_
    show Steps p.tables e below (T24.setTop (mkF m 109 #[.val (.ref a1), .val (.long v82_1), .second, .val (.long (-9223372036854775808 : Int64)), .second, .val (.int (1 : Int32)), .val (.int (1 : Int32)), .val (.int (2 : Int32)), .val (.int (1 : Int32))] [(.int (1 : Int32))])) _
    refine XS.ifYes X24.here hx rfl (pc0 := 109) (pc' := 119) rfl (hb hby d5_109) rfl ((if0 _ _).trans (feq (by decide : ¬ (1 : Int32) = (0 : Int32))).2) (by decide) (by decide) ?_
    show Steps p.tables e below (T24.setTop (mkF m 119 #[.val (.ref a1), .val (.long v82_1), .second, .val (.long (-9223372036854775808 : Int64)), .second, .val (.int (1 : Int32)), .val (.int (1 : Int32)), .val (.int (2 : Int32)), .val (.int (1 : Int32))] [])) _
    refine XS.lloadN X24.here hx rfl (hb hby d5_119) rfl ?_
    show Steps p.tables e below (T24.setTop (mkF m 120 #[.val (.ref a1), .val (.long v82_1), .second, .val (.long (-9223372036854775808 : Int64)), .second, .val (.int (1 : Int32)), .val (.int (1 : Int32)), .val (.int (2 : Int32)), .val (.int (1 : Int32))] [(.long v82_1)])) _
    refine XS.goto X24.here hx rfl (pc0 := 120) (pc' := 124) rfl (hb hby d5_120) (by decide) (by decide) ?_
    show Steps p.tables e below (T24.setTop (mkF m 124 #[.val (.ref a1), .val (.long v82_1), .second, .val (.long (-9223372036854775808 : Int64)), .second, .val (.int (1 : Int32)), .val (.int (1 : Int32)), .val (.int (2 : Int32)), .val (.int (1 : Int32))] [(.long v82_1)])) _
    refine XS.lstore X24.here hx rfl (hb hby d5_124) rfl (l' := #[.val (.ref a1), .val (.long v82_1), .second, .val (.long (-9223372036854775808 : Int64)), .second, .val (.int (1 : Int32)), .val (.int (1 : Int32)), .val (.long v82_1), .second]) rfl ?_
    show Steps p.tables e below (T24.setTop (mkF m 126 #[.val (.ref a1), .val (.long v82_1), .second, .val (.long (-9223372036854775808 : Int64)), .second, .val (.int (1 : Int32)), .val (.int (1 : Int32)), .val (.long v82_1), .second] [])) _
    refine XS.lload X24.here hx rfl (hb hby d5_126) rfl ?_
    show Steps p.tables e below (T24.setTop (mkF m 128 #[.val (.ref a1), .val (.long v82_1), .second, .val (.long (-9223372036854775808 : Int64)), .second, .val (.int (1 : Int32)), .val (.int (1 : Int32)), .val (.long v82_1), .second] [(.long v82_1)])) _
    refine XS.aloadN X24.here hx rfl (hb hby d5_128) rfl rfl ?_
    show Steps p.tables e below (T24.setTop (mkF m 129 #[.val (.ref a1), .val (.long v82_1), .second, .val (.long (-9223372036854775808 : Int64)), .second, .val (.int (1 : Int32)), .val (.int (1 : Int32)), .val (.long v82_1), .second] [(.ref a1), (.long v82_1)])) _
    exact k
  obtain ⟨T26, X26, e26, st26⟩ := getF X24 hx hZ hown (host := "") (Or.inl (hw _ (List.mem_of_getElem? (i := 11) rfl))) Via.refl e24 w_lowest (g := (mkF m 129 #[.val (.ref a1), .val (.long v82_1), .second, .val (.long (-9223372036854775808 : Int64)), .second, .val (.int (1 : Int32)), .val (.int (1 : Int32)), .val (.long v82_1), .second] [(.ref a1), (.long v82_1)])) rfl rfl (hb hby d5_129)
  have pre26 : ∀ t, Steps p.tables e below (T26.setTop (mkF m 132 #[.val (.ref a1), .val (.long v82_1), .second, .val (.long (-9223372036854775808 : Int64)), .second, .val (.int (1 : Int32)), .val (.int (1 : Int32)), .val (.long v82_1), .second] [(.long lw), (.long v82_1)])) t → Steps p.tables e below (s₁.setTop (entryFrame m #[(.ref a1)] 9)) t := fun t k => pre25 t (st26 _ k)
  have pre27 : ∀ t, Steps p.tables e below (T26.setTop (mkF m 133 #[.val (.ref a1), .val (.long v82_1), .second, .val (.long (-9223372036854775808 : Int64)), .second, .val (.int (1 : Int32)), .val (.int (1 : Int32)), .val (.long v82_1), .second] [(.int (lcmpW v82_1 lw))])) t → Steps p.tables e below (s₁.setTop (entryFrame m #[(.ref a1)] 9)) t := by
    intro t k
    refine pre26 t ?_
    refine XS.lcmp X26.here hx rfl (hb hby d5_132) rfl ?_
    show Steps p.tables e below (T26.setTop (mkF m 133 #[.val (.ref a1), .val (.long v82_1), .second, .val (.long (-9223372036854775808 : Int64)), .second, .val (.int (1 : Int32)), .val (.int (1 : Int32)), .val (.long v82_1), .second] [(.int (lcmpW v82_1 lw))])) _
    exact k
  by_cases hc133 : lw < v82_1
  · have pre28 : ∀ t, Steps p.tables e below (T26.setTop (mkF m 141 #[.val (.ref a1), .val (.long v82_1), .second, .val (.long (-9223372036854775808 : Int64)), .second, .val (.int (1 : Int32)), .val (.int (1 : Int32)), .val (.long v82_1), .second] [(.long v82_1), (.ref a1)])) t → Steps p.tables e below (s₁.setTop (entryFrame m #[(.ref a1)] 9)) t := by
      intro t k
      refine pre27 t ?_
      refine XS.ifYes X26.here hx rfl (pc0 := 133) (pc' := 138) rfl (hb hby d5_133) rfl (own_Tgt hc133).1 (by decide) (by decide) ?_
      show Steps p.tables e below (T26.setTop (mkF m 138 #[.val (.ref a1), .val (.long v82_1), .second, .val (.long (-9223372036854775808 : Int64)), .second, .val (.int (1 : Int32)), .val (.int (1 : Int32)), .val (.long v82_1), .second] [])) _
      refine XS.aloadN X26.here hx rfl (hb hby d5_138) rfl rfl ?_
      show Steps p.tables e below (T26.setTop (mkF m 139 #[.val (.ref a1), .val (.long v82_1), .second, .val (.long (-9223372036854775808 : Int64)), .second, .val (.int (1 : Int32)), .val (.int (1 : Int32)), .val (.long v82_1), .second] [(.ref a1)])) _
      refine XS.lload X26.here hx rfl (hb hby d5_139) rfl ?_
      show Steps p.tables e below (T26.setTop (mkF m 141 #[.val (.ref a1), .val (.long v82_1), .second, .val (.long (-9223372036854775808 : Int64)), .second, .val (.int (1 : Int32)), .val (.int (1 : Int32)), .val (.long v82_1), .second] [(.long v82_1), (.ref a1)])) _
      exact k
    obtain ⟨T29, h29, X29, e29, W29, st29⟩ := putF X26 hx hZ hown (host := "") (Or.inl (hw _ (List.mem_of_getElem? (i := 11) rfl))) Via.refl e26 w_lowest w_e (Or.inl (hw _ (List.mem_of_getElem? (i := 12) rfl))) (hw _ (List.mem_of_getElem? (i := 2) rfl)) (ty := .long) (by decide) rfl rfl (g := (mkF m 141 #[.val (.ref a1), .val (.long v82_1), .second, .val (.long (-9223372036854775808 : Int64)), .second, .val (.int (1 : Int32)), .val (.int (1 : Int32)), .val (.long v82_1), .second] [(.long v82_1), (.ref a1)])) rfl rfl (hb hby d5_141)
    have F29_0 := w_lowest.same W29
    have F29_1 := w_marks.other W29 (Or.inr (slot_ne (Or.inl (hw _ (List.mem_of_getElem? (i := 15) rfl))) (Or.inl (hw _ (List.mem_of_getElem? (i := 12) rfl))) (by decide) (t := (.array .long)) (t' := .long) (by decide) (by decide)))
    have F29_2 := w_states.other W29 (Or.inr (slot_ne (Or.inl (hw _ (List.mem_of_getElem? (i := 18) rfl))) (Or.inl (hw _ (List.mem_of_getElem? (i := 12) rfl))) (by decide) (t := (.array .byte)) (t' := .long) (by decide) (by decide)))
    have F29_3 := w_live.other W29 (Or.inr (slot_ne (Or.inl (hw _ (List.mem_of_getElem? (i := 21) rfl))) (Or.inl (hw _ (List.mem_of_getElem? (i := 12) rfl))) (by decide) (t := (.array .int)) (t' := .long) (by decide) (by decide)))
    have F29_4 := w_open.other W29 (Or.inr (slot_ne (Or.inl (hw _ (List.mem_of_getElem? (i := 27) rfl))) (Or.inl (hw _ (List.mem_of_getElem? (i := 12) rfl))) (by decide) (t := .int) (t' := .long) (by decide) (by decide)))
    have F29_5 := w_e.wr W29
    have F29_6 := w_am.other W29 (Ne.symm w_1)
    have F29_7 := w_as.other W29 (Ne.symm w_2)
    have F29_8 := w_al.other W29 (Ne.symm w_3)
    have Z29 : n0 ≤ h29.size := Nat.le_trans Z0 (Keep.of_wr W29).1
    have N29 := Fr.snoc X29 N21 w_ga
    have pre29 : ∀ t, Steps p.tables e below (T29.setTop (mkF m 144 #[.val (.ref a1), .val (.long v82_1), .second, .val (.long (-9223372036854775808 : Int64)), .second, .val (.int (1 : Int32)), .val (.int (1 : Int32)), .val (.long v82_1), .second] [])) t → Steps p.tables e below (s₁.setTop (entryFrame m #[(.ref a1)] 9)) t := fun t k => pre28 t (st29 _ k)
    have pre30 : ∀ t, Steps p.tables e below (T29.setTop (mkF m 145 #[.val (.ref a1), .val (.long v82_1), .second, .val (.long (-9223372036854775808 : Int64)), .second, .val (.int (1 : Int32)), .val (.int (1 : Int32)), .val (.long v82_1), .second] [(.int (1 : Int32))])) t → Steps p.tables e below (s₁.setTop (entryFrame m #[(.ref a1)] 9)) t := by
      intro t k
      refine pre29 t ?_
      refine XS.iconst X29.here hx rfl (hb hby d5_144) ?_
      show Steps p.tables e below (T29.setTop (mkF m 145 #[.val (.ref a1), .val (.long v82_1), .second, .val (.long (-9223372036854775808 : Int64)), .second, .val (.int (1 : Int32)), .val (.int (1 : Int32)), .val (.long v82_1), .second] [(.int (1 : Int32))])) _
      exact k
    obtain ⟨fs, hr, hrun, hended, hW, hsame⟩ := X29.leave (v := some (.int (nar .boolean (1 : Int32)))) (fun h => by rw [Bd.returns] at h; cases h)
    refine ⟨_, _, pre30 _ ?_, hrun, hended, _, _, rfl, ?_, ⟨_, rfl⟩, hW, hsame.mono (by decide) (by decide)⟩
    · show Steps p.tables e below (T29.setTop (mkF m 145 #[.val (.ref a1), .val (.long v82_1), .second, .val (.long (-9223372036854775808 : Int64)), .second, .val (.int (1 : Int32)), .val (.int (1 : Int32)), .val (.long v82_1), .second] [(.int (1 : Int32))])) _
      exact retN X29 hx (t := .boolean) Bd.returns (by simp) (hb hby d5_145) hr
    · show QrA Z a1 bm bs bl m0 m1 lw l0 l1 h0 n0 _ T29.heap _
      rw [e29]
      have hfn : fnrA m0 m1 lw = ((nar .boolean (1 : Int32)), m0, m1, v82_1) := by
        subst hv82_1 hv82
        simp only [fnrA, if_pos hc133]
      unfold QrA
      rw [hfn]
      exact ⟨rfl, N29, ⟨F29_5, F29_0, F29_1, F29_2, F29_3, F29_4, F29_6, F29_7, F29_8, w_ga, w_gm, w_gs, w_gl, w_1, w_2, w_3, w_4, w_5, w_6⟩⟩
  · have pre31 : ∀ t, Steps p.tables e below (T26.setTop (mkF m 137 #[.val (.ref a1), .val (.long v82_1), .second, .val (.long (-9223372036854775808 : Int64)), .second, .val (.int (1 : Int32)), .val (.int (1 : Int32)), .val (.long v82_1), .second] [(.int (0 : Int32))])) t → Steps p.tables e below (s₁.setTop (entryFrame m #[(.ref a1)] 9)) t := by
      intro t k
      refine pre27 t ?_
      refine XS.ifNo X26.here hx rfl (hb hby d5_133) rfl (own_Fgt hc133).1 ?_
      show Steps p.tables e below (T26.setTop (mkF m 136 #[.val (.ref a1), .val (.long v82_1), .second, .val (.long (-9223372036854775808 : Int64)), .second, .val (.int (1 : Int32)), .val (.int (1 : Int32)), .val (.long v82_1), .second] [])) _
      refine XS.iconst X26.here hx rfl (hb hby d5_136) ?_
      show Steps p.tables e below (T26.setTop (mkF m 137 #[.val (.ref a1), .val (.long v82_1), .second, .val (.long (-9223372036854775808 : Int64)), .second, .val (.int (1 : Int32)), .val (.int (1 : Int32)), .val (.long v82_1), .second] [(.int (0 : Int32))])) _
      exact k
    obtain ⟨fs, hr, hrun, hended, hW, hsame⟩ := X26.leave (v := some (.int (nar .boolean (0 : Int32)))) (fun h => by rw [Bd.returns] at h; cases h)
    refine ⟨_, _, pre31 _ ?_, hrun, hended, _, _, rfl, ?_, ⟨_, rfl⟩, hW, hsame.mono (by decide) (by decide)⟩
    · show Steps p.tables e below (T26.setTop (mkF m 137 #[.val (.ref a1), .val (.long v82_1), .second, .val (.long (-9223372036854775808 : Int64)), .second, .val (.int (1 : Int32)), .val (.int (1 : Int32)), .val (.long v82_1), .second] [(.int (0 : Int32))])) _
      exact retN X26 hx (t := .boolean) Bd.returns (by simp) (hb hby d5_137) hr
    · show QrA Z a1 bm bs bl m0 m1 lw l0 l1 h0 n0 _ T26.heap _
      rw [e26]
      have hfn : fnrA m0 m1 lw = ((nar .boolean (0 : Int32)), m0, m1, lw) := by
        subst hv82_1 hv82
        simp only [fnrA, if_neg hc133]
      unfold QrA
      rw [hfn]
      exact ⟨rfl, N21, ⟨w_e, w_lowest, w_marks, w_states, w_live, w_open, w_am, w_as, w_al, w_ga, w_gm, w_gs, w_gl, w_1, w_2, w_3, w_4, w_5, w_6⟩⟩
/-! body 5: rise -/
theorem d5_89 : decode prog_183_method_13_code 89 = .ok (.lload_n 3, 1) := by decide +kernel
theorem d5_90 : decode prog_183_method_13_code 90 = .ok (.aload_n 0, 1) := by decide +kernel
theorem d5_91 : decode prog_183_method_13_code 91 = .ok (.getfield 17, 3) := by decide +kernel
theorem d5_94 : decode prog_183_method_13_code 94 = .ok (.iload 8, 2) := by decide +kernel
theorem d5_96 : decode prog_183_method_13_code 96 = .ok (.laload, 1) := by decide +kernel
theorem d5_97 : decode prog_183_method_13_code 97 = .ok (.invokestatic 63, 3) := by decide +kernel
theorem d5_100 : decode prog_183_method_13_code 100 = .ok (.lstore_n 3, 1) := by decide +kernel
theorem pdrB_0 : parseMethodDescriptor "(JJ)J" = some ⟨[.long, .long], some .long⟩ := by decide +kernel
theorem pnrB : plainName "sluice/stream/Watermarks" = true := by first | (simp [plainName, overriddenIn]; done) | decide +kernel
theorem efrB (m : MethodId) (a1 : Addr) : entryFrame m #[(.ref a1)] 9 = mkF m 0 #[.val (.ref a1), .unset, .unset, .unset, .unset, .unset, .unset, .unset, .unset] [] := by first | (simp [entryFrame, mkF, argsToLocals, Value.category]; done) | rfl
def fnrB (m0 m1 lw : Int64) : Int32 × Int64 × Int64 × Int64 :=
  let v100 : Int64 := (fn11 (-9223372036854775808 : Int64) m0)
  let v82 : Int64 := (fn6 (9223372036854775807 : Int64) m1)
  if lw < v82 then
    ((nar .boolean (1 : Int32)), m0, m1, v82)
  else
    ((nar .boolean (0 : Int32)), m0, m1, lw)
def QrB (Z : State) (a1 : Addr) (bm bs bl : Addr) (m0 m1 lw : Int64) (l0 l1 : Int32) (h0 : Heap) (n0 : Nat) (v : Option Value) (h : Heap) (L : List Loc) : Prop := v = some (.int (fnrB m0 m1 lw).1) ∧ Fr n0 L ∧ own_W Z h n0 a1 bm bs bl (fnrB m0 m1 lw).2.1 (fnrB m0 m1 lw).2.2.1 (fnrB m0 m1 lw).2.2.2 (1 : Int32) (0 : Int32) l0 l1 (2 : Int32)
set_option maxRecDepth 65536 in
set_option maxHeartbeats 40000000 in
theorem rmrB (l : Launch) (Z : State) (a0 : Array Value) (hw : ∀ d ∈ tables_1, d.before a0 Z = true) (ws : List Jvm.Cond) (a1 : Addr) (bm bs bl : Addr) (m0 m1 lw : Int64) (l0 l1 : Int32) (h0 : Heap) (n0 : Nat) (Z0 : n0 ≤ h0.size) (I0 : own_W Z h0 n0 a1 bm bs bl m0 m1 lw (1 : Int32) (0 : Int32) l0 l1 (2 : Int32)) :
    MetFree l (⟨"sluice/stream/Watermarks", "rise", "()Z"⟩ : MethodName) (head1 (Jvm.Cond.code (⟨"sluice/stream/Watermarks", "rise", "()Z"⟩ : MethodName) prog_183_method_13_code 9 (some .boolean) :: ws) ({ frames := 1, cells := 0, slots := 0, locals := 15 } : Room)) (fun a U => a = #[(.ref a1)] ∧ Z.Warmed39 U.vm ∧ U.heap = h0) (fun _ _ _ _ _ => True) (fun _ U o U' => ∃ v L, o = .returned v ∧ QrB Z a1 bm bs bl m0 m1 lw l0 l1 h0 n0 v U'.heap L ∧ FrameEnd U o U' L ({ frames := 1, cells := 0, slots := 0, locals := 15 } : Room).cells ({ frames := 1, cells := 0, slots := 0, locals := 15 } : Room).slots) := by
  refine MetFree.of_bodySF (plainFor_of_name pnrB) hisR ?_
  intro p e s m args below meth c s₁ Bd hml0 hP hK
  obtain ⟨rfl, hZ, hh⟩ := hP
  have hx := Bd.exec
  have hby := Bd.bytes
  have hml : c.maxLocals = 9 := hml0
  have hown : s.vm.findClass "sluice/stream/Watermarks" = some m.cls := findClass_of_methodNamed Bd.named
  have hnm := (name_of_methodNamed Bd.named Bd.method).1
  have X0 : Stand p l e ({ frames := 1, cells := 0, slots := 0, locals := 15 } : Room) s m #[(.ref a1)] below meth c s₁ [] 0 0 := Stand.of_body Bd
  have e0 : s₁.heap = h0 := by rw [← hh, Bd.state]; rfl
  have N0 := Fr.nil n0
  have pre0 : ∀ t, Steps p.tables e below (s₁.setTop (mkF m 0 #[.val (.ref a1), .unset, .unset, .unset, .unset, .unset, .unset, .unset, .unset] [])) t → Steps p.tables e below (s₁.setTop (entryFrame m #[(.ref a1)] 9)) t := fun t k => castTop (efrB m a1) k
  obtain ⟨w_e, w_lowest, w_marks, w_states, w_live, w_open, w_am, w_as, w_al, w_ga, w_gm, w_gs, w_gl, w_1, w_2, w_3, w_4, w_5, w_6⟩ := I0
  have pre1 : ∀ t, Steps p.tables e below (s₁.setTop (mkF m 12 #[.val (.ref a1), .val (.long (9223372036854775807 : Int64)), .second, .val (.long (-9223372036854775808 : Int64)), .second, .val (.int (0 : Int32)), .unset, .unset, .unset] [(.ref a1)])) t → Steps p.tables e below (s₁.setTop (entryFrame m #[(.ref a1)] 9)) t := by
    intro t k
    refine pre0 t ?_
    show Steps p.tables e below (s₁.setTop (mkF m 0 #[.val (.ref a1), .unset, .unset, .unset, .unset, .unset, .unset, .unset, .unset] [])) _
    refine X0.ldc2Long hx hown (mvT hZ (hw _ (List.mem_of_getElem? (i := 37) rfl))) (g := (mkF m 0 #[.val (.ref a1), .unset, .unset, .unset, .unset, .unset, .unset, .unset, .unset] [])) rfl (hb hby d5_0) _ ?_
    show Steps p.tables e below (s₁.setTop (mkF m 3 #[.val (.ref a1), .unset, .unset, .unset, .unset, .unset, .unset, .unset, .unset] [(.long (9223372036854775807 : Int64))])) _
    refine XS.lstoreN X0.here hx rfl (hb hby d5_3) rfl (l' := #[.val (.ref a1), .val (.long (9223372036854775807 : Int64)), .second, .unset, .unset, .unset, .unset, .unset, .unset]) rfl ?_
    show Steps p.tables e below (s₁.setTop (mkF m 4 #[.val (.ref a1), .val (.long (9223372036854775807 : Int64)), .second, .unset, .unset, .unset, .unset, .unset, .unset] [])) _
    refine X0.ldc2Long hx hown (mvT hZ (hw _ (List.mem_of_getElem? (i := 10) rfl))) (g := (mkF m 4 #[.val (.ref a1), .val (.long (9223372036854775807 : Int64)), .second, .unset, .unset, .unset, .unset, .unset, .unset] [])) rfl (hb hby d5_4) _ ?_
    show Steps p.tables e below (s₁.setTop (mkF m 7 #[.val (.ref a1), .val (.long (9223372036854775807 : Int64)), .second, .unset, .unset, .unset, .unset, .unset, .unset] [(.long (-9223372036854775808 : Int64))])) _
    refine XS.lstoreN X0.here hx rfl (hb hby d5_7) rfl (l' := #[.val (.ref a1), .val (.long (9223372036854775807 : Int64)), .second, .val (.long (-9223372036854775808 : Int64)), .second, .unset, .unset, .unset, .unset]) rfl ?_
    show Steps p.tables e below (s₁.setTop (mkF m 8 #[.val (.ref a1), .val (.long (9223372036854775807 : Int64)), .second, .val (.long (-9223372036854775808 : Int64)), .second, .unset, .unset, .unset, .unset] [])) _
    refine XS.iconst X0.here hx rfl (hb hby d5_8) ?_
    show Steps p.tables e below (s₁.setTop (mkF m 9 #[.val (.ref a1), .val (.long (9223372036854775807 : Int64)), .second, .val (.long (-9223372036854775808 : Int64)), .second, .unset, .unset, .unset, .unset] [(.int (0 : Int32))])) _
    refine XS.istore X0.here hx rfl (hb hby d5_9) rfl (l' := #[.val (.ref a1), .val (.long (9223372036854775807 : Int64)), .second, .val (.long (-9223372036854775808 : Int64)), .second, .val (.int (0 : Int32)), .unset, .unset, .unset]) rfl ?_
    show Steps p.tables e below (s₁.setTop (mkF m 11 #[.val (.ref a1), .val (.long (9223372036854775807 : Int64)), .second, .val (.long (-9223372036854775808 : Int64)), .second, .val (.int (0 : Int32)), .unset, .unset, .unset] [])) _
    refine XS.aloadN X0.here hx rfl (hb hby d5_11) rfl rfl ?_
    show Steps p.tables e below (s₁.setTop (mkF m 12 #[.val (.ref a1), .val (.long (9223372036854775807 : Int64)), .second, .val (.long (-9223372036854775808 : Int64)), .second, .val (.int (0 : Int32)), .unset, .unset, .unset] [(.ref a1)])) _
    exact k
  obtain ⟨T2, X2, e2, st2⟩ := getF X0 hx hZ hown (host := "") (Or.inl (hw _ (List.mem_of_getElem? (i := 26) rfl))) Via.refl e0 w_open (g := (mkF m 12 #[.val (.ref a1), .val (.long (9223372036854775807 : Int64)), .second, .val (.long (-9223372036854775808 : Int64)), .second, .val (.int (0 : Int32)), .unset, .unset, .unset] [(.ref a1)])) rfl rfl (hb hby d5_12)
  have pre2 : ∀ t, Steps p.tables e below (T2.setTop (mkF m 15 #[.val (.ref a1), .val (.long (9223372036854775807 : Int64)), .second, .val (.long (-9223372036854775808 : Int64)), .second, .val (.int (0 : Int32)), .unset, .unset, .unset] [(.int (2 : Int32))])) t → Steps p.tables e below (s₁.setTop (entryFrame m #[(.ref a1)] 9)) t := fun t k => pre1 t (st2 _ k)
  have pre3 : ∀ t, Steps p.tables e below (T2.setTop (mkF m 16 #[.val (.ref a1), .val (.long (9223372036854775807 : Int64)), .second, .val (.long (-9223372036854775808 : Int64)), .second, .val (.int (0 : Int32)), .unset, .unset, .unset] [(.ref a1), (.int (2 : Int32))])) t → Steps p.tables e below (s₁.setTop (entryFrame m #[(.ref a1)] 9)) t := by
    intro t k
    refine pre2 t ?_
    refine XS.aloadN X2.here hx rfl (hb hby d5_15) rfl rfl ?_
    show Steps p.tables e below (T2.setTop (mkF m 16 #[.val (.ref a1), .val (.long (9223372036854775807 : Int64)), .second, .val (.long (-9223372036854775808 : Int64)), .second, .val (.int (0 : Int32)), .unset, .unset, .unset] [(.ref a1), (.int (2 : Int32))])) _
    exact k
  obtain ⟨T4, X4, e4, st4⟩ := getF X2 hx hZ hown (host := "") (Or.inl (hw _ (List.mem_of_getElem? (i := 14) rfl))) Via.refl e2 w_marks (g := (mkF m 16 #[.val (.ref a1), .val (.long (9223372036854775807 : Int64)), .second, .val (.long (-9223372036854775808 : Int64)), .second, .val (.int (0 : Int32)), .unset, .unset, .unset] [(.ref a1), (.int (2 : Int32))])) rfl rfl (hb hby d5_16)
  have pre4 : ∀ t, Steps p.tables e below (T4.setTop (mkF m 19 #[.val (.ref a1), .val (.long (9223372036854775807 : Int64)), .second, .val (.long (-9223372036854775808 : Int64)), .second, .val (.int (0 : Int32)), .unset, .unset, .unset] [(.ref bm), (.int (2 : Int32))])) t → Steps p.tables e below (s₁.setTop (entryFrame m #[(.ref a1)] 9)) t := fun t k => pre3 t (st4 _ k)
  have pre5 : ∀ t, Steps p.tables e below (T4.setTop (mkF m 36 #[.val (.ref a1), .val (.long (9223372036854775807 : Int64)), .second, .val (.long (-9223372036854775808 : Int64)), .second, .val (.int (0 : Int32)), .val (.int (1 : Int32)), .val (.int (0 : Int32)), .unset] [(.ref a1), (.int (0 : Int32))])) t → Steps p.tables e below (s₁.setTop (entryFrame m #[(.ref a1)] 9)) t := by
    intro t k
    refine pre4 t ?_
    refine own_lenJ X4 hx hZ e4 w_am (g := (mkF m 19 #[.val (.ref a1), .val (.long (9223372036854775807 : Int64)), .second, .val (.long (-9223372036854775808 : Int64)), .second, .val (.int (0 : Int32)), .unset, .unset, .unset] [(.ref bm), (.int (2 : Int32))])) rfl rfl (hb hby d5_19) _ ?_
    show Steps p.tables e below (T4.setTop (mkF m 20 #[.val (.ref a1), .val (.long (9223372036854775807 : Int64)), .second, .val (.long (-9223372036854775808 : Int64)), .second, .val (.int (0 : Int32)), .unset, .unset, .unset] [(.int (2 : Int32)), (.int (2 : Int32))])) _
    refine XS.icmpNo X4.here hx rfl (hb hby d5_20) rfl (teq (by decide : (2 : Int32) = (2 : Int32))).2 ?_
    show Steps p.tables e below (T4.setTop (mkF m 23 #[.val (.ref a1), .val (.long (9223372036854775807 : Int64)), .second, .val (.long (-9223372036854775808 : Int64)), .second, .val (.int (0 : Int32)), .unset, .unset, .unset] [])) _
    refine XS.iconst X4.here hx rfl (hb hby d5_23) ?_
    show Steps p.tables e below (T4.setTop (mkF m 24 #[.val (.ref a1), .val (.long (9223372036854775807 : Int64)), .second, .val (.long (-9223372036854775808 : Int64)), .second, .val (.int (0 : Int32)), .unset, .unset, .unset] [(.int (1 : Int32))])) _
    refine XS.goto X4.here hx rfl (pc0 := 24) (pc' := 28) rfl (hb hby d5_24) (by decide) (by decide) ?_
    show Steps p.tables e below (T4.setTop (mkF m 28 #[.val (.ref a1), .val (.long (9223372036854775807 : Int64)), .second, .val (.long (-9223372036854775808 : Int64)), .second, .val (.int (0 : Int32)), .unset, .unset, .unset] [(.int (1 : Int32))])) _
    refine XS.istore X4.here hx rfl (hb hby d5_28) rfl (l' := #[.val (.ref a1), .val (.long (9223372036854775807 : Int64)), .second, .val (.long (-9223372036854775808 : Int64)), .second, .val (.int (0 : Int32)), .val (.int (1 : Int32)), .unset, .unset]) rfl ?_
    show Steps p.tables e below (T4.setTop (mkF m 30 #[.val (.ref a1), .val (.long (9223372036854775807 : Int64)), .second, .val (.long (-9223372036854775808 : Int64)), .second, .val (.int (0 : Int32)), .val (.int (1 : Int32)), .unset, .unset] [])) _
    refine XS.iconst X4.here hx rfl (hb hby d5_30) ?_
    show Steps p.tables e below (T4.setTop (mkF m 31 #[.val (.ref a1), .val (.long (9223372036854775807 : Int64)), .second, .val (.long (-9223372036854775808 : Int64)), .second, .val (.int (0 : Int32)), .val (.int (1 : Int32)), .unset, .unset] [(.int (0 : Int32))])) _
    refine XS.istore X4.here hx rfl (hb hby d5_31) rfl (l' := #[.val (.ref a1), .val (.long (9223372036854775807 : Int64)), .second, .val (.long (-9223372036854775808 : Int64)), .second, .val (.int (0 : Int32)), .val (.int (1 : Int32)), .val (.int (0 : Int32)), .unset]) rfl ?_
    show Steps p.tables e below (T4.setTop (mkF m 33 #[.val (.ref a1), .val (.long (9223372036854775807 : Int64)), .second, .val (.long (-9223372036854775808 : Int64)), .second, .val (.int (0 : Int32)), .val (.int (1 : Int32)), .val (.int (0 : Int32)), .unset] [])) _
    refine XS.iload X4.here hx rfl (hb hby d5_33) rfl ?_
    show Steps p.tables e below (T4.setTop (mkF m 35 #[.val (.ref a1), .val (.long (9223372036854775807 : Int64)), .second, .val (.long (-9223372036854775808 : Int64)), .second, .val (.int (0 : Int32)), .val (.int (1 : Int32)), .val (.int (0 : Int32)), .unset] [(.int (0 : Int32))])) _
    refine XS.aloadN X4.here hx rfl (hb hby d5_35) rfl rfl ?_
    show Steps p.tables e below (T4.setTop (mkF m 36 #[.val (.ref a1), .val (.long (9223372036854775807 : Int64)), .second, .val (.long (-9223372036854775808 : Int64)), .second, .val (.int (0 : Int32)), .val (.int (1 : Int32)), .val (.int (0 : Int32)), .unset] [(.ref a1), (.int (0 : Int32))])) _
    exact k
  obtain ⟨T6, X6, e6, st6⟩ := getF X4 hx hZ hown (host := "") (Or.inl (hw _ (List.mem_of_getElem? (i := 26) rfl))) Via.refl e4 w_open (g := (mkF m 36 #[.val (.ref a1), .val (.long (9223372036854775807 : Int64)), .second, .val (.long (-9223372036854775808 : Int64)), .second, .val (.int (0 : Int32)), .val (.int (1 : Int32)), .val (.int (0 : Int32)), .unset] [(.ref a1), (.int (0 : Int32))])) rfl rfl (hb hby d5_36)
  have pre6 : ∀ t, Steps p.tables e below (T6.setTop (mkF m 39 #[.val (.ref a1), .val (.long (9223372036854775807 : Int64)), .second, .val (.long (-9223372036854775808 : Int64)), .second, .val (.int (0 : Int32)), .val (.int (1 : Int32)), .val (.int (0 : Int32)), .unset] [(.int (2 : Int32)), (.int (0 : Int32))])) t → Steps p.tables e below (s₁.setTop (entryFrame m #[(.ref a1)] 9)) t := fun t k => pre5 t (st6 _ k)
  have pre7 : ∀ t, Steps p.tables e below (T6.setTop (mkF m 62 #[.val (.ref a1), .val (.long (9223372036854775807 : Int64)), .second, .val (.long (-9223372036854775808 : Int64)), .second, .val (.int (0 : Int32)), .val (.int (1 : Int32)), .val (.int (0 : Int32)), .val (.int (0 : Int32))] [(.ref a1)])) t → Steps p.tables e below (s₁.setTop (entryFrame m #[(.ref a1)] 9)) t := by
    intro t k
    refine pre6 t ?_
    refine XS.icmpNo X6.here hx rfl (hb hby d5_39) rfl (tlt (by decide : (0 : Int32) < (2 : Int32))).2.1 ?_
    show Steps p.tables e below (T6.setTop (mkF m 42 #[.val (.ref a1), .val (.long (9223372036854775807 : Int64)), .second, .val (.long (-9223372036854775808 : Int64)), .second, .val (.int (0 : Int32)), .val (.int (1 : Int32)), .val (.int (0 : Int32)), .unset] [])) _
    refine XS.iload X6.here hx rfl (hb hby d5_42) rfl ?_
    show Steps p.tables e below (T6.setTop (mkF m 44 #[.val (.ref a1), .val (.long (9223372036854775807 : Int64)), .second, .val (.long (-9223372036854775808 : Int64)), .second, .val (.int (0 : Int32)), .val (.int (1 : Int32)), .val (.int (0 : Int32)), .unset] [(.int (1 : Int32))])) _
    refine XS.ifNo X6.here hx rfl (hb hby d5_44) rfl ((if0 _ _).trans (feq (by decide : ¬ (1 : Int32) = (0 : Int32))).1) ?_
    show Steps p.tables e below (T6.setTop (mkF m 47 #[.val (.ref a1), .val (.long (9223372036854775807 : Int64)), .second, .val (.long (-9223372036854775808 : Int64)), .second, .val (.int (0 : Int32)), .val (.int (1 : Int32)), .val (.int (0 : Int32)), .unset] [])) _
    refine XS.iload X6.here hx rfl (hb hby d5_47) rfl ?_
    show Steps p.tables e below (T6.setTop (mkF m 49 #[.val (.ref a1), .val (.long (9223372036854775807 : Int64)), .second, .val (.long (-9223372036854775808 : Int64)), .second, .val (.int (0 : Int32)), .val (.int (1 : Int32)), .val (.int (0 : Int32)), .unset] [(.int (0 : Int32))])) _
    refine XS.goto X6.here hx rfl (pc0 := 49) (pc' := 59) rfl (hb hby d5_49) (by decide) (by decide) ?_
    show Steps p.tables e below (T6.setTop (mkF m 59 #[.val (.ref a1), .val (.long (9223372036854775807 : Int64)), .second, .val (.long (-9223372036854775808 : Int64)), .second, .val (.int (0 : Int32)), .val (.int (1 : Int32)), .val (.int (0 : Int32)), .unset] [(.int (0 : Int32))])) _
    refine XS.istore X6.here hx rfl (hb hby d5_59) rfl (l' := #[.val (.ref a1), .val (.long (9223372036854775807 : Int64)), .second, .val (.long (-9223372036854775808 : Int64)), .second, .val (.int (0 : Int32)), .val (.int (1 : Int32)), .val (.int (0 : Int32)), .val (.int (0 : Int32))]) rfl ?_
    show Steps p.tables e below (T6.setTop (mkF m 61 #[.val (.ref a1), .val (.long (9223372036854775807 : Int64)), .second, .val (.long (-9223372036854775808 : Int64)), .second, .val (.int (0 : Int32)), .val (.int (1 : Int32)), .val (.int (0 : Int32)), .val (.int (0 : Int32))] [])) _
    refine XS.aloadN X6.here hx rfl (hb hby d5_61) rfl rfl ?_
    show Steps p.tables e below (T6.setTop (mkF m 62 #[.val (.ref a1), .val (.long (9223372036854775807 : Int64)), .second, .val (.long (-9223372036854775808 : Int64)), .second, .val (.int (0 : Int32)), .val (.int (1 : Int32)), .val (.int (0 : Int32)), .val (.int (0 : Int32))] [(.ref a1)])) _
    exact k
  obtain ⟨T8, X8, e8, st8⟩ := getF X6 hx hZ hown (host := "") (Or.inl (hw _ (List.mem_of_getElem? (i := 17) rfl))) Via.refl e6 w_states (g := (mkF m 62 #[.val (.ref a1), .val (.long (9223372036854775807 : Int64)), .second, .val (.long (-9223372036854775808 : Int64)), .second, .val (.int (0 : Int32)), .val (.int (1 : Int32)), .val (.int (0 : Int32)), .val (.int (0 : Int32))] [(.ref a1)])) rfl rfl (hb hby d5_62)
  have pre8 : ∀ t, Steps p.tables e below (T8.setTop (mkF m 65 #[.val (.ref a1), .val (.long (9223372036854775807 : Int64)), .second, .val (.long (-9223372036854775808 : Int64)), .second, .val (.int (0 : Int32)), .val (.int (1 : Int32)), .val (.int (0 : Int32)), .val (.int (0 : Int32))] [(.ref bs)])) t → Steps p.tables e below (s₁.setTop (entryFrame m #[(.ref a1)] 9)) t := fun t k => pre7 t (st8 _ k)
  have pre9 : ∀ t, Steps p.tables e below (T8.setTop (mkF m 91 #[.val (.ref a1), .val (.long (9223372036854775807 : Int64)), .second, .val (.long (-9223372036854775808 : Int64)), .second, .val (.int (0 : Int32)), .val (.int (1 : Int32)), .val (.int (0 : Int32)), .val (.int (0 : Int32))] [(.ref a1), (.long (-9223372036854775808 : Int64))])) t → Steps p.tables e below (s₁.setTop (entryFrame m #[(.ref a1)] 9)) t := by
    intro t k
    refine pre8 t ?_
    refine XS.iload X8.here hx rfl (hb hby d5_65) rfl ?_
    show Steps p.tables e below (T8.setTop (mkF m 67 #[.val (.ref a1), .val (.long (9223372036854775807 : Int64)), .second, .val (.long (-9223372036854775808 : Int64)), .second, .val (.int (0 : Int32)), .val (.int (1 : Int32)), .val (.int (0 : Int32)), .val (.int (0 : Int32))] [(.int (0 : Int32)), (.ref bs)])) _
    refine own_ldB X8 hx hZ e8 w_as (by decide) (by decide) (g := (mkF m 67 #[.val (.ref a1), .val (.long (9223372036854775807 : Int64)), .second, .val (.long (-9223372036854775808 : Int64)), .second, .val (.int (0 : Int32)), .val (.int (1 : Int32)), .val (.int (0 : Int32)), .val (.int (0 : Int32))] [(.int (0 : Int32)), (.ref bs)])) rfl rfl (hb hby d5_67) _ ?_
    show Steps p.tables e below (T8.setTop (mkF m 68 #[.val (.ref a1), .val (.long (9223372036854775807 : Int64)), .second, .val (.long (-9223372036854775808 : Int64)), .second, .val (.int (0 : Int32)), .val (.int (1 : Int32)), .val (.int (0 : Int32)), .val (.int (0 : Int32))] [(.int (1 : Int32))])) _
    refine XS.ifYes X8.here hx rfl (pc0 := 68) (pc' := 89) rfl (hb hby d5_68) rfl ((if0 _ _).trans (feq (by decide : ¬ (1 : Int32) = (0 : Int32))).2) (by decide) (by decide) ?_
    show Steps p.tables e below (T8.setTop (mkF m 89 #[.val (.ref a1), .val (.long (9223372036854775807 : Int64)), .second, .val (.long (-9223372036854775808 : Int64)), .second, .val (.int (0 : Int32)), .val (.int (1 : Int32)), .val (.int (0 : Int32)), .val (.int (0 : Int32))] [])) _
    refine XS.lloadN X8.here hx rfl (hb hby d5_89) rfl ?_
    show Steps p.tables e below (T8.setTop (mkF m 90 #[.val (.ref a1), .val (.long (9223372036854775807 : Int64)), .second, .val (.long (-9223372036854775808 : Int64)), .second, .val (.int (0 : Int32)), .val (.int (1 : Int32)), .val (.int (0 : Int32)), .val (.int (0 : Int32))] [(.long (-9223372036854775808 : Int64))])) _
    refine XS.aloadN X8.here hx rfl (hb hby d5_90) rfl rfl ?_
    show Steps p.tables e below (T8.setTop (mkF m 91 #[.val (.ref a1), .val (.long (9223372036854775807 : Int64)), .second, .val (.long (-9223372036854775808 : Int64)), .second, .val (.int (0 : Int32)), .val (.int (1 : Int32)), .val (.int (0 : Int32)), .val (.int (0 : Int32))] [(.ref a1), (.long (-9223372036854775808 : Int64))])) _
    exact k
  obtain ⟨T10, X10, e10, st10⟩ := getF X8 hx hZ hown (host := "") (Or.inl (hw _ (List.mem_of_getElem? (i := 14) rfl))) Via.refl e8 w_marks (g := (mkF m 91 #[.val (.ref a1), .val (.long (9223372036854775807 : Int64)), .second, .val (.long (-9223372036854775808 : Int64)), .second, .val (.int (0 : Int32)), .val (.int (1 : Int32)), .val (.int (0 : Int32)), .val (.int (0 : Int32))] [(.ref a1), (.long (-9223372036854775808 : Int64))])) rfl rfl (hb hby d5_91)
  have pre10 : ∀ t, Steps p.tables e below (T10.setTop (mkF m 94 #[.val (.ref a1), .val (.long (9223372036854775807 : Int64)), .second, .val (.long (-9223372036854775808 : Int64)), .second, .val (.int (0 : Int32)), .val (.int (1 : Int32)), .val (.int (0 : Int32)), .val (.int (0 : Int32))] [(.ref bm), (.long (-9223372036854775808 : Int64))])) t → Steps p.tables e below (s₁.setTop (entryFrame m #[(.ref a1)] 9)) t := fun t k => pre9 t (st10 _ k)
  have pre11 : ∀ t, Steps p.tables e below (T10.setTop (mkF m 97 #[.val (.ref a1), .val (.long (9223372036854775807 : Int64)), .second, .val (.long (-9223372036854775808 : Int64)), .second, .val (.int (0 : Int32)), .val (.int (1 : Int32)), .val (.int (0 : Int32)), .val (.int (0 : Int32))] [(.long m0), (.long (-9223372036854775808 : Int64))])) t → Steps p.tables e below (s₁.setTop (entryFrame m #[(.ref a1)] 9)) t := by
    intro t k
    refine pre10 t ?_
    refine XS.iload X10.here hx rfl (hb hby d5_94) rfl ?_
    show Steps p.tables e below (T10.setTop (mkF m 96 #[.val (.ref a1), .val (.long (9223372036854775807 : Int64)), .second, .val (.long (-9223372036854775808 : Int64)), .second, .val (.int (0 : Int32)), .val (.int (1 : Int32)), .val (.int (0 : Int32)), .val (.int (0 : Int32))] [(.int (0 : Int32)), (.ref bm), (.long (-9223372036854775808 : Int64))])) _
    refine own_ldJ X10 hx hZ e10 w_am (by decide) (by decide) (g := (mkF m 96 #[.val (.ref a1), .val (.long (9223372036854775807 : Int64)), .second, .val (.long (-9223372036854775808 : Int64)), .second, .val (.int (0 : Int32)), .val (.int (1 : Int32)), .val (.int (0 : Int32)), .val (.int (0 : Int32))] [(.int (0 : Int32)), (.ref bm), (.long (-9223372036854775808 : Int64))])) rfl rfl (hb hby d5_96) _ ?_
    show Steps p.tables e below (T10.setTop (mkF m 97 #[.val (.ref a1), .val (.long (9223372036854775807 : Int64)), .second, .val (.long (-9223372036854775808 : Int64)), .second, .val (.int (0 : Int32)), .val (.int (1 : Int32)), .val (.int (0 : Int32)), .val (.int (0 : Int32))] [(.long m0), (.long (-9223372036854775808 : Int64))])) _
    exact k
  obtain ⟨_, _, ⟨T12, L12, k12, n12⟩, -, X12, ⟨Lc12, hQ12, l12, y12, z12⟩, st12⟩ := Jvm.LawKit.callS X10 hx (y := (⟨"java/lang/Math", "max", "(JJ)J"⟩ : MethodName)) hown (mvT hZ (hw _ (List.mem_of_getElem? (i := 71) rfl))) (mvT hZ (hw _ (List.mem_of_getElem? (i := 63) rfl))) (mvT hZ (hw _ (List.mem_of_getElem? (i := 40) rfl))) (mvT hZ (hw _ (List.mem_of_getElem? (i := 64) rfl))) (by decide) (backOf (W := 0) (rm11 l Z a0 hw [] (-9223372036854775808 : Int64) m0 h0 n0 Z0) hZ (hw _ (List.mem_of_getElem? (i := 64) rfl)) (hw _ (List.mem_of_getElem? (i := 40) rfl)) (by decide) (by decide)) (g := (mkF m 97 #[.val (.ref a1), .val (.long (9223372036854775807 : Int64)), .second, .val (.long (-9223372036854775808 : Int64)), .second, .val (.int (0 : Int32)), .val (.int (1 : Int32)), .val (.int (0 : Int32)), .val (.int (0 : Int32))] [(.long m0), (.long (-9223372036854775808 : Int64))])) rfl (by rw [hml]; rfl) (argsL := [(.long (-9223372036854775808 : Int64)), (.long m0)]) (rest := []) (lenOf pdrB_0 rfl) rfl (by show 2 * 0 + _ ≤ _; exact Nat.le_of_eq rfl) (hb hby d5_97) (fun _ _ => ⟨rfl, e10, (by decide : 0 + 0 ≤ _), (by decide : 0 + 0 ≤ _)⟩)
  dsimp only [Pt.U, Pt.locs, Pt.cells, Pt.slots] at X12 l12 y12 z12 st12 hQ12
  subst l12 y12 z12
  obtain ⟨rfl, Nq12, e12⟩ := hQ12
  have N12 := Fr.app N0 Nq12
  have pre12 : ∀ t, Steps p.tables e below (T12.setTop (mkF m 100 #[.val (.ref a1), .val (.long (9223372036854775807 : Int64)), .second, .val (.long (-9223372036854775808 : Int64)), .second, .val (.int (0 : Int32)), .val (.int (1 : Int32)), .val (.int (0 : Int32)), .val (.int (0 : Int32))] [(.long (fn11 (-9223372036854775808 : Int64) m0))])) t → Steps p.tables e below (s₁.setTop (entryFrame m #[(.ref a1)] 9)) t := fun t k => pre11 t (st12 _ k)
  obtain ⟨v100, hv100⟩ : ∃ z : Int64, z = (fn11 (-9223372036854775808 : Int64) m0) := ⟨_, rfl⟩
  have pre13 : ∀ t, Steps p.tables e below (T12.setTop (mkF m 101 #[.val (.ref a1), .val (.long (9223372036854775807 : Int64)), .second, .val (.long v100), .second, .val (.int (0 : Int32)), .val (.int (1 : Int32)), .val (.int (0 : Int32)), .val (.int (0 : Int32))] [])) t → Steps p.tables e below (s₁.setTop (entryFrame m #[(.ref a1)] 9)) t := by
    intro t k
    subst hv100
    refine pre12 t ?_
    refine XS.lstoreN X12.here hx rfl (hb hby d5_100) rfl (l' := #[.val (.ref a1), .val (.long (9223372036854775807 : Int64)), .second, .val (.long (fn11 (-9223372036854775808 : Int64) m0)), .second, .val (.int (0 : Int32)), .val (.int (1 : Int32)), .val (.int (0 : Int32)), .val (.int (0 : Int32))]) rfl ?_
    show Steps p.tables e below (T12.setTop (mkF m 101 #[.val (.ref a1), .val (.long (9223372036854775807 : Int64)), .second, .val (.long (fn11 (-9223372036854775808 : Int64) m0)), .second, .val (.int (0 : Int32)), .val (.int (1 : Int32)), .val (.int (0 : Int32)), .val (.int (0 : Int32))] [])) _
    exact k
  have pre14 : ∀ t, Steps p.tables e below (T12.setTop (mkF m 36 #[.val (.ref a1), .val (.long (9223372036854775807 : Int64)), .second, .val (.long v100), .second, .val (.int (0 : Int32)), .val (.int (1 : Int32)), .val (.int (1 : Int32)), .val (.int (0 : Int32))] [(.ref a1), (.int (1 : Int32))])) t → Steps p.tables e below (s₁.setTop (entryFrame m #[(.ref a1)] 9)) t := by
    intro t k
    refine pre13 t ?_
    refine XS.iinc X12.here hx rfl (hb hby d5_101) rfl (l' := #[.val (.ref a1), .val (.long (9223372036854775807 : Int64)), .second, .val (.long v100), .second, .val (.int (0 : Int32)), .val (.int (1 : Int32)), .val (.int (1 : Int32)), .val (.int (0 : Int32))]) rfl ?_
    show Steps p.tables e below (T12.setTop (mkF m 104 #[.val (.ref a1), .val (.long (9223372036854775807 : Int64)), .second, .val (.long v100), .second, .val (.int (0 : Int32)), .val (.int (1 : Int32)), .val (.int (1 : Int32)), .val (.int (0 : Int32))] [])) _
    refine XS.goto X12.here hx rfl (pc0 := 104) (pc' := 33) rfl (hb hby d5_104) (by decide) (by decide) ?_
    show Steps p.tables e below (T12.setTop (mkF m 33 #[.val (.ref a1), .val (.long (9223372036854775807 : Int64)), .second, .val (.long v100), .second, .val (.int (0 : Int32)), .val (.int (1 : Int32)), .val (.int (1 : Int32)), .val (.int (0 : Int32))] [])) _
    refine XS.iload X12.here hx rfl (hb hby d5_33) rfl ?_
    show Steps p.tables e below (T12.setTop (mkF m 35 #[.val (.ref a1), .val (.long (9223372036854775807 : Int64)), .second, .val (.long v100), .second, .val (.int (0 : Int32)), .val (.int (1 : Int32)), .val (.int (1 : Int32)), .val (.int (0 : Int32))] [(.int (1 : Int32))])) _
    refine XS.aloadN X12.here hx rfl (hb hby d5_35) rfl rfl ?_
    show Steps p.tables e below (T12.setTop (mkF m 36 #[.val (.ref a1), .val (.long (9223372036854775807 : Int64)), .second, .val (.long v100), .second, .val (.int (0 : Int32)), .val (.int (1 : Int32)), .val (.int (1 : Int32)), .val (.int (0 : Int32))] [(.ref a1), (.int (1 : Int32))])) _
    exact k
  obtain ⟨T15, X15, e15, st15⟩ := getF X12 hx hZ hown (host := "") (Or.inl (hw _ (List.mem_of_getElem? (i := 26) rfl))) Via.refl e12 w_open (g := (mkF m 36 #[.val (.ref a1), .val (.long (9223372036854775807 : Int64)), .second, .val (.long v100), .second, .val (.int (0 : Int32)), .val (.int (1 : Int32)), .val (.int (1 : Int32)), .val (.int (0 : Int32))] [(.ref a1), (.int (1 : Int32))])) rfl rfl (hb hby d5_36)
  have pre15 : ∀ t, Steps p.tables e below (T15.setTop (mkF m 39 #[.val (.ref a1), .val (.long (9223372036854775807 : Int64)), .second, .val (.long v100), .second, .val (.int (0 : Int32)), .val (.int (1 : Int32)), .val (.int (1 : Int32)), .val (.int (0 : Int32))] [(.int (2 : Int32)), (.int (1 : Int32))])) t → Steps p.tables e below (s₁.setTop (entryFrame m #[(.ref a1)] 9)) t := fun t k => pre14 t (st15 _ k)
  have pre16 : ∀ t, Steps p.tables e below (T15.setTop (mkF m 62 #[.val (.ref a1), .val (.long (9223372036854775807 : Int64)), .second, .val (.long v100), .second, .val (.int (0 : Int32)), .val (.int (1 : Int32)), .val (.int (1 : Int32)), .val (.int (1 : Int32))] [(.ref a1)])) t → Steps p.tables e below (s₁.setTop (entryFrame m #[(.ref a1)] 9)) t := by
    intro t k
    refine pre15 t ?_
    refine XS.icmpNo X15.here hx rfl (hb hby d5_39) rfl (tlt (by decide : (1 : Int32) < (2 : Int32))).2.1 ?_
    show Steps p.tables e below (T15.setTop (mkF m 42 #[.val (.ref a1), .val (.long (9223372036854775807 : Int64)), .second, .val (.long v100), .second, .val (.int (0 : Int32)), .val (.int (1 : Int32)), .val (.int (1 : Int32)), .val (.int (0 : Int32))] [])) _
    refine XS.iload X15.here hx rfl (hb hby d5_42) rfl ?_
    show Steps p.tables e below (T15.setTop (mkF m 44 #[.val (.ref a1), .val (.long (9223372036854775807 : Int64)), .second, .val (.long v100), .second, .val (.int (0 : Int32)), .val (.int (1 : Int32)), .val (.int (1 : Int32)), .val (.int (0 : Int32))] [(.int (1 : Int32))])) _
    refine XS.ifNo X15.here hx rfl (hb hby d5_44) rfl ((if0 _ _).trans (feq (by decide : ¬ (1 : Int32) = (0 : Int32))).1) ?_
    show Steps p.tables e below (T15.setTop (mkF m 47 #[.val (.ref a1), .val (.long (9223372036854775807 : Int64)), .second, .val (.long v100), .second, .val (.int (0 : Int32)), .val (.int (1 : Int32)), .val (.int (1 : Int32)), .val (.int (0 : Int32))] [])) _
    refine XS.iload X15.here hx rfl (hb hby d5_47) rfl ?_
    show Steps p.tables e below (T15.setTop (mkF m 49 #[.val (.ref a1), .val (.long (9223372036854775807 : Int64)), .second, .val (.long v100), .second, .val (.int (0 : Int32)), .val (.int (1 : Int32)), .val (.int (1 : Int32)), .val (.int (0 : Int32))] [(.int (1 : Int32))])) _
    refine XS.goto X15.here hx rfl (pc0 := 49) (pc' := 59) rfl (hb hby d5_49) (by decide) (by decide) ?_
    show Steps p.tables e below (T15.setTop (mkF m 59 #[.val (.ref a1), .val (.long (9223372036854775807 : Int64)), .second, .val (.long v100), .second, .val (.int (0 : Int32)), .val (.int (1 : Int32)), .val (.int (1 : Int32)), .val (.int (0 : Int32))] [(.int (1 : Int32))])) _
    refine XS.istore X15.here hx rfl (hb hby d5_59) rfl (l' := #[.val (.ref a1), .val (.long (9223372036854775807 : Int64)), .second, .val (.long v100), .second, .val (.int (0 : Int32)), .val (.int (1 : Int32)), .val (.int (1 : Int32)), .val (.int (1 : Int32))]) rfl ?_
    show Steps p.tables e below (T15.setTop (mkF m 61 #[.val (.ref a1), .val (.long (9223372036854775807 : Int64)), .second, .val (.long v100), .second, .val (.int (0 : Int32)), .val (.int (1 : Int32)), .val (.int (1 : Int32)), .val (.int (1 : Int32))] [])) _
    refine XS.aloadN X15.here hx rfl (hb hby d5_61) rfl rfl ?_
    show Steps p.tables e below (T15.setTop (mkF m 62 #[.val (.ref a1), .val (.long (9223372036854775807 : Int64)), .second, .val (.long v100), .second, .val (.int (0 : Int32)), .val (.int (1 : Int32)), .val (.int (1 : Int32)), .val (.int (1 : Int32))] [(.ref a1)])) _
    exact k
  obtain ⟨T17, X17, e17, st17⟩ := getF X15 hx hZ hown (host := "") (Or.inl (hw _ (List.mem_of_getElem? (i := 17) rfl))) Via.refl e15 w_states (g := (mkF m 62 #[.val (.ref a1), .val (.long (9223372036854775807 : Int64)), .second, .val (.long v100), .second, .val (.int (0 : Int32)), .val (.int (1 : Int32)), .val (.int (1 : Int32)), .val (.int (1 : Int32))] [(.ref a1)])) rfl rfl (hb hby d5_62)
  have pre17 : ∀ t, Steps p.tables e below (T17.setTop (mkF m 65 #[.val (.ref a1), .val (.long (9223372036854775807 : Int64)), .second, .val (.long v100), .second, .val (.int (0 : Int32)), .val (.int (1 : Int32)), .val (.int (1 : Int32)), .val (.int (1 : Int32))] [(.ref bs)])) t → Steps p.tables e below (s₁.setTop (entryFrame m #[(.ref a1)] 9)) t := fun t k => pre16 t (st17 _ k)
  have pre18 : ∀ t, Steps p.tables e below (T17.setTop (mkF m 73 #[.val (.ref a1), .val (.long (9223372036854775807 : Int64)), .second, .val (.long v100), .second, .val (.int (0 : Int32)), .val (.int (1 : Int32)), .val (.int (1 : Int32)), .val (.int (1 : Int32))] [(.ref a1), (.long (9223372036854775807 : Int64))])) t → Steps p.tables e below (s₁.setTop (entryFrame m #[(.ref a1)] 9)) t := by
    intro t k
    refine pre17 t ?_
    refine XS.iload X17.here hx rfl (hb hby d5_65) rfl ?_
    show Steps p.tables e below (T17.setTop (mkF m 67 #[.val (.ref a1), .val (.long (9223372036854775807 : Int64)), .second, .val (.long v100), .second, .val (.int (0 : Int32)), .val (.int (1 : Int32)), .val (.int (1 : Int32)), .val (.int (1 : Int32))] [(.int (1 : Int32)), (.ref bs)])) _
    refine own_ldB X17 hx hZ e17 w_as (by decide) (by decide) (g := (mkF m 67 #[.val (.ref a1), .val (.long (9223372036854775807 : Int64)), .second, .val (.long v100), .second, .val (.int (0 : Int32)), .val (.int (1 : Int32)), .val (.int (1 : Int32)), .val (.int (1 : Int32))] [(.int (1 : Int32)), (.ref bs)])) rfl rfl (hb hby d5_67) _ ?_
    show Steps p.tables e below (T17.setTop (mkF m 68 #[.val (.ref a1), .val (.long (9223372036854775807 : Int64)), .second, .val (.long v100), .second, .val (.int (0 : Int32)), .val (.int (1 : Int32)), .val (.int (1 : Int32)), .val (.int (1 : Int32))] [(.int (0 : Int32))])) _
    refine XS.ifNo X17.here hx rfl (hb hby d5_68) rfl ((if0 _ _).trans (teq (by decide : (0 : Int32) = (0 : Int32))).2) ?_
    show Steps p.tables e below (T17.setTop (mkF m 71 #[.val (.ref a1), .val (.long (9223372036854775807 : Int64)), .second, .val (.long v100), .second, .val (.int (0 : Int32)), .val (.int (1 : Int32)), .val (.int (1 : Int32)), .val (.int (1 : Int32))] [])) _
    refine XS.lloadN X17.here hx rfl (hb hby d5_71) rfl ?_
    show Steps p.tables e below (T17.setTop (mkF m 72 #[.val (.ref a1), .val (.long (9223372036854775807 : Int64)), .second, .val (.long v100), .second, .val (.int (0 : Int32)), .val (.int (1 : Int32)), .val (.int (1 : Int32)), .val (.int (1 : Int32))] [(.long (9223372036854775807 : Int64))])) _
    refine XS.aloadN X17.here hx rfl (hb hby d5_72) rfl rfl ?_
    show Steps p.tables e below (T17.setTop (mkF m 73 #[.val (.ref a1), .val (.long (9223372036854775807 : Int64)), .second, .val (.long v100), .second, .val (.int (0 : Int32)), .val (.int (1 : Int32)), .val (.int (1 : Int32)), .val (.int (1 : Int32))] [(.ref a1), (.long (9223372036854775807 : Int64))])) _
    exact k
  obtain ⟨T19, X19, e19, st19⟩ := getF X17 hx hZ hown (host := "") (Or.inl (hw _ (List.mem_of_getElem? (i := 14) rfl))) Via.refl e17 w_marks (g := (mkF m 73 #[.val (.ref a1), .val (.long (9223372036854775807 : Int64)), .second, .val (.long v100), .second, .val (.int (0 : Int32)), .val (.int (1 : Int32)), .val (.int (1 : Int32)), .val (.int (1 : Int32))] [(.ref a1), (.long (9223372036854775807 : Int64))])) rfl rfl (hb hby d5_73)
  have pre19 : ∀ t, Steps p.tables e below (T19.setTop (mkF m 76 #[.val (.ref a1), .val (.long (9223372036854775807 : Int64)), .second, .val (.long v100), .second, .val (.int (0 : Int32)), .val (.int (1 : Int32)), .val (.int (1 : Int32)), .val (.int (1 : Int32))] [(.ref bm), (.long (9223372036854775807 : Int64))])) t → Steps p.tables e below (s₁.setTop (entryFrame m #[(.ref a1)] 9)) t := fun t k => pre18 t (st19 _ k)
  have pre20 : ∀ t, Steps p.tables e below (T19.setTop (mkF m 79 #[.val (.ref a1), .val (.long (9223372036854775807 : Int64)), .second, .val (.long v100), .second, .val (.int (0 : Int32)), .val (.int (1 : Int32)), .val (.int (1 : Int32)), .val (.int (1 : Int32))] [(.long m1), (.long (9223372036854775807 : Int64))])) t → Steps p.tables e below (s₁.setTop (entryFrame m #[(.ref a1)] 9)) t := by
    intro t k
    refine pre19 t ?_
    refine XS.iload X19.here hx rfl (hb hby d5_76) rfl ?_
    show Steps p.tables e below (T19.setTop (mkF m 78 #[.val (.ref a1), .val (.long (9223372036854775807 : Int64)), .second, .val (.long v100), .second, .val (.int (0 : Int32)), .val (.int (1 : Int32)), .val (.int (1 : Int32)), .val (.int (1 : Int32))] [(.int (1 : Int32)), (.ref bm), (.long (9223372036854775807 : Int64))])) _
    refine own_ldJ X19 hx hZ e19 w_am (by decide) (by decide) (g := (mkF m 78 #[.val (.ref a1), .val (.long (9223372036854775807 : Int64)), .second, .val (.long v100), .second, .val (.int (0 : Int32)), .val (.int (1 : Int32)), .val (.int (1 : Int32)), .val (.int (1 : Int32))] [(.int (1 : Int32)), (.ref bm), (.long (9223372036854775807 : Int64))])) rfl rfl (hb hby d5_78) _ ?_
    show Steps p.tables e below (T19.setTop (mkF m 79 #[.val (.ref a1), .val (.long (9223372036854775807 : Int64)), .second, .val (.long v100), .second, .val (.int (0 : Int32)), .val (.int (1 : Int32)), .val (.int (1 : Int32)), .val (.int (1 : Int32))] [(.long m1), (.long (9223372036854775807 : Int64))])) _
    exact k
  obtain ⟨_, _, ⟨T21, L21, k21, n21⟩, -, X21, ⟨Lc21, hQ21, l21, y21, z21⟩, st21⟩ := Jvm.LawKit.callS X19 hx (y := (⟨"java/lang/Math", "min", "(JJ)J"⟩ : MethodName)) hown (mvT hZ (hw _ (List.mem_of_getElem? (i := 38) rfl))) (mvT hZ (hw _ (List.mem_of_getElem? (i := 39) rfl))) (mvT hZ (hw _ (List.mem_of_getElem? (i := 40) rfl))) (mvT hZ (hw _ (List.mem_of_getElem? (i := 41) rfl))) (by decide) (backOf (W := 0) (rm6 l Z a0 hw [] (9223372036854775807 : Int64) m1 h0 n0 Z0) hZ (hw _ (List.mem_of_getElem? (i := 41) rfl)) (hw _ (List.mem_of_getElem? (i := 40) rfl)) (by decide) (by decide)) (g := (mkF m 79 #[.val (.ref a1), .val (.long (9223372036854775807 : Int64)), .second, .val (.long v100), .second, .val (.int (0 : Int32)), .val (.int (1 : Int32)), .val (.int (1 : Int32)), .val (.int (1 : Int32))] [(.long m1), (.long (9223372036854775807 : Int64))])) rfl (by rw [hml]; rfl) (argsL := [(.long (9223372036854775807 : Int64)), (.long m1)]) (rest := []) (lenOf pdrB_0 rfl) rfl (by show 2 * 0 + _ ≤ _; exact Nat.le_of_eq rfl) (hb hby d5_79) (fun _ _ => ⟨rfl, e19, (by decide : 0 + 0 ≤ _), (by decide : 0 + 0 ≤ _)⟩)
  dsimp only [Pt.U, Pt.locs, Pt.cells, Pt.slots] at X21 l21 y21 z21 st21 hQ21
  subst l21 y21 z21
  obtain ⟨rfl, Nq21, e21⟩ := hQ21
  have N21 := Fr.app N12 Nq21
  have pre21 : ∀ t, Steps p.tables e below (T21.setTop (mkF m 82 #[.val (.ref a1), .val (.long (9223372036854775807 : Int64)), .second, .val (.long v100), .second, .val (.int (0 : Int32)), .val (.int (1 : Int32)), .val (.int (1 : Int32)), .val (.int (1 : Int32))] [(.long (fn6 (9223372036854775807 : Int64) m1))])) t → Steps p.tables e below (s₁.setTop (entryFrame m #[(.ref a1)] 9)) t := fun t k => pre20 t (st21 _ k)
  obtain ⟨v82, hv82⟩ : ∃ z : Int64, z = (fn6 (9223372036854775807 : Int64) m1) := ⟨_, rfl⟩
  have pre22 : ∀ t, Steps p.tables e below (T21.setTop (mkF m 83 #[.val (.ref a1), .val (.long v82), .second, .val (.long v100), .second, .val (.int (0 : Int32)), .val (.int (1 : Int32)), .val (.int (1 : Int32)), .val (.int (1 : Int32))] [])) t → Steps p.tables e below (s₁.setTop (entryFrame m #[(.ref a1)] 9)) t := by
    intro t k
    subst hv82
    refine pre21 t ?_
    refine XS.lstoreN X21.here hx rfl (hb hby d5_82) rfl (l' := #[.val (.ref a1), .val (.long (fn6 (9223372036854775807 : Int64) m1)), .second, .val (.long v100), .second, .val (.int (0 : Int32)), .val (.int (1 : Int32)), .val (.int (1 : Int32)), .val (.int (1 : Int32))]) rfl ?_
    show Steps p.tables e below (T21.setTop (mkF m 83 #[.val (.ref a1), .val (.long (fn6 (9223372036854775807 : Int64) m1)), .second, .val (.long v100), .second, .val (.int (0 : Int32)), .val (.int (1 : Int32)), .val (.int (1 : Int32)), .val (.int (1 : Int32))] [])) _
    exact k
  have pre23 : ∀ t, Steps p.tables e below (T21.setTop (mkF m 36 #[.val (.ref a1), .val (.long v82), .second, .val (.long v100), .second, .val (.int (1 : Int32)), .val (.int (1 : Int32)), .val (.int (2 : Int32)), .val (.int (1 : Int32))] [(.ref a1), (.int (2 : Int32))])) t → Steps p.tables e below (s₁.setTop (entryFrame m #[(.ref a1)] 9)) t := by
    intro t k
    refine pre22 t ?_
    refine XS.iconst X21.here hx rfl (hb hby d5_83) ?_
    show Steps p.tables e below (T21.setTop (mkF m 84 #[.val (.ref a1), .val (.long v82), .second, .val (.long v100), .second, .val (.int (0 : Int32)), .val (.int (1 : Int32)), .val (.int (1 : Int32)), .val (.int (1 : Int32))] [(.int (1 : Int32))])) _
    refine XS.istore X21.here hx rfl (hb hby d5_84) rfl (l' := #[.val (.ref a1), .val (.long v82), .second, .val (.long v100), .second, .val (.int (1 : Int32)), .val (.int (1 : Int32)), .val (.int (1 : Int32)), .val (.int (1 : Int32))]) rfl ?_
    show Steps p.tables e below (T21.setTop (mkF m 86 #[.val (.ref a1), .val (.long v82), .second, .val (.long v100), .second, .val (.int (1 : Int32)), .val (.int (1 : Int32)), .val (.int (1 : Int32)), .val (.int (1 : Int32))] [])) _
    refine XS.goto X21.here hx rfl (pc0 := 86) (pc' := 101) rfl (hb hby d5_86) (by decide) (by decide) ?_
    show Steps p.tables e below (T21.setTop (mkF m 101 #[.val (.ref a1), .val (.long v82), .second, .val (.long v100), .second, .val (.int (1 : Int32)), .val (.int (1 : Int32)), .val (.int (1 : Int32)), .val (.int (1 : Int32))] [])) _
    refine XS.iinc X21.here hx rfl (hb hby d5_101) rfl (l' := #[.val (.ref a1), .val (.long v82), .second, .val (.long v100), .second, .val (.int (1 : Int32)), .val (.int (1 : Int32)), .val (.int (2 : Int32)), .val (.int (1 : Int32))]) rfl ?_
    show Steps p.tables e below (T21.setTop (mkF m 104 #[.val (.ref a1), .val (.long v82), .second, .val (.long v100), .second, .val (.int (1 : Int32)), .val (.int (1 : Int32)), .val (.int (2 : Int32)), .val (.int (1 : Int32))] [])) _
    refine XS.goto X21.here hx rfl (pc0 := 104) (pc' := 33) rfl (hb hby d5_104) (by decide) (by decide) ?_
    show Steps p.tables e below (T21.setTop (mkF m 33 #[.val (.ref a1), .val (.long v82), .second, .val (.long v100), .second, .val (.int (1 : Int32)), .val (.int (1 : Int32)), .val (.int (2 : Int32)), .val (.int (1 : Int32))] [])) _
    refine XS.iload X21.here hx rfl (hb hby d5_33) rfl ?_
    show Steps p.tables e below (T21.setTop (mkF m 35 #[.val (.ref a1), .val (.long v82), .second, .val (.long v100), .second, .val (.int (1 : Int32)), .val (.int (1 : Int32)), .val (.int (2 : Int32)), .val (.int (1 : Int32))] [(.int (2 : Int32))])) _
    refine XS.aloadN X21.here hx rfl (hb hby d5_35) rfl rfl ?_
    show Steps p.tables e below (T21.setTop (mkF m 36 #[.val (.ref a1), .val (.long v82), .second, .val (.long v100), .second, .val (.int (1 : Int32)), .val (.int (1 : Int32)), .val (.int (2 : Int32)), .val (.int (1 : Int32))] [(.ref a1), (.int (2 : Int32))])) _
    exact k
  obtain ⟨T24, X24, e24, st24⟩ := getF X21 hx hZ hown (host := "") (Or.inl (hw _ (List.mem_of_getElem? (i := 26) rfl))) Via.refl e21 w_open (g := (mkF m 36 #[.val (.ref a1), .val (.long v82), .second, .val (.long v100), .second, .val (.int (1 : Int32)), .val (.int (1 : Int32)), .val (.int (2 : Int32)), .val (.int (1 : Int32))] [(.ref a1), (.int (2 : Int32))])) rfl rfl (hb hby d5_36)
  have pre24 : ∀ t, Steps p.tables e below (T24.setTop (mkF m 39 #[.val (.ref a1), .val (.long v82), .second, .val (.long v100), .second, .val (.int (1 : Int32)), .val (.int (1 : Int32)), .val (.int (2 : Int32)), .val (.int (1 : Int32))] [(.int (2 : Int32)), (.int (2 : Int32))])) t → Steps p.tables e below (s₁.setTop (entryFrame m #[(.ref a1)] 9)) t := fun t k => pre23 t (st24 _ k)
  have pre25 : ∀ t, Steps p.tables e below (T24.setTop (mkF m 129 #[.val (.ref a1), .val (.long v82), .second, .val (.long v100), .second, .val (.int (1 : Int32)), .val (.int (1 : Int32)), .val (.long v82), .second] [(.ref a1), (.long v82)])) t → Steps p.tables e below (s₁.setTop (entryFrame m #[(.ref a1)] 9)) t := by
    intro t k
    refine pre24 t ?_
    refine XS.icmpYes X24.here hx rfl (pc0 := 39) (pc' := 107) rfl (hb hby d5_39) rfl (flt (by decide : ¬ (2 : Int32) < (2 : Int32))).2.1 (by decide) (by decide) ?_
    show Steps p.tables e below (T24.setTop (mkF m 107 #[.val (.ref a1), .val (.long v82), .second, .val (.long v100), .second, .val (.int (1 : Int32)), .val (.int (1 : Int32)), .val (.int (2 : Int32)), .val (.int (1 : Int32))] [])) _
    refine XS.iload X24.here hx rfl (hb hby d5_107) rfl ?_
    show Steps p.tables e below (T24.setTop (mkF m 109 #[.val (.ref a1), .val (.long v82), .second, .val (.long v100), .second, .val (.int (1 : Int32)), .val (.int (1 : Int32)), .val (.int (2 : Int32)), .val (.int (1 : Int32))] [(.int (1 : Int32))])) _
    refine XS.ifYes X24.here hx rfl (pc0 := 109) (pc' := 119) rfl (hb hby d5_109) rfl ((if0 _ _).trans (feq (by decide : ¬ (1 : Int32) = (0 : Int32))).2) (by decide) (by decide) ?_
    show Steps p.tables e below (T24.setTop (mkF m 119 #[.val (.ref a1), .val (.long v82), .second, .val (.long v100), .second, .val (.int (1 : Int32)), .val (.int (1 : Int32)), .val (.int (2 : Int32)), .val (.int (1 : Int32))] [])) _
    refine XS.lloadN X24.here hx rfl (hb hby d5_119) rfl ?_
    show Steps p.tables e below (T24.setTop (mkF m 120 #[.val (.ref a1), .val (.long v82), .second, .val (.long v100), .second, .val (.int (1 : Int32)), .val (.int (1 : Int32)), .val (.int (2 : Int32)), .val (.int (1 : Int32))] [(.long v82)])) _
    refine XS.goto X24.here hx rfl (pc0 := 120) (pc' := 124) rfl (hb hby d5_120) (by decide) (by decide) ?_
    show Steps p.tables e below (T24.setTop (mkF m 124 #[.val (.ref a1), .val (.long v82), .second, .val (.long v100), .second, .val (.int (1 : Int32)), .val (.int (1 : Int32)), .val (.int (2 : Int32)), .val (.int (1 : Int32))] [(.long v82)])) _
    refine XS.lstore X24.here hx rfl (hb hby d5_124) rfl (l' := #[.val (.ref a1), .val (.long v82), .second, .val (.long v100), .second, .val (.int (1 : Int32)), .val (.int (1 : Int32)), .val (.long v82), .second]) rfl ?_
    show Steps p.tables e below (T24.setTop (mkF m 126 #[.val (.ref a1), .val (.long v82), .second, .val (.long v100), .second, .val (.int (1 : Int32)), .val (.int (1 : Int32)), .val (.long v82), .second] [])) _
    refine XS.lload X24.here hx rfl (hb hby d5_126) rfl ?_
    show Steps p.tables e below (T24.setTop (mkF m 128 #[.val (.ref a1), .val (.long v82), .second, .val (.long v100), .second, .val (.int (1 : Int32)), .val (.int (1 : Int32)), .val (.long v82), .second] [(.long v82)])) _
    refine XS.aloadN X24.here hx rfl (hb hby d5_128) rfl rfl ?_
    show Steps p.tables e below (T24.setTop (mkF m 129 #[.val (.ref a1), .val (.long v82), .second, .val (.long v100), .second, .val (.int (1 : Int32)), .val (.int (1 : Int32)), .val (.long v82), .second] [(.ref a1), (.long v82)])) _
    exact k
  obtain ⟨T26, X26, e26, st26⟩ := getF X24 hx hZ hown (host := "") (Or.inl (hw _ (List.mem_of_getElem? (i := 11) rfl))) Via.refl e24 w_lowest (g := (mkF m 129 #[.val (.ref a1), .val (.long v82), .second, .val (.long v100), .second, .val (.int (1 : Int32)), .val (.int (1 : Int32)), .val (.long v82), .second] [(.ref a1), (.long v82)])) rfl rfl (hb hby d5_129)
  have pre26 : ∀ t, Steps p.tables e below (T26.setTop (mkF m 132 #[.val (.ref a1), .val (.long v82), .second, .val (.long v100), .second, .val (.int (1 : Int32)), .val (.int (1 : Int32)), .val (.long v82), .second] [(.long lw), (.long v82)])) t → Steps p.tables e below (s₁.setTop (entryFrame m #[(.ref a1)] 9)) t := fun t k => pre25 t (st26 _ k)
  have pre27 : ∀ t, Steps p.tables e below (T26.setTop (mkF m 133 #[.val (.ref a1), .val (.long v82), .second, .val (.long v100), .second, .val (.int (1 : Int32)), .val (.int (1 : Int32)), .val (.long v82), .second] [(.int (lcmpW v82 lw))])) t → Steps p.tables e below (s₁.setTop (entryFrame m #[(.ref a1)] 9)) t := by
    intro t k
    refine pre26 t ?_
    refine XS.lcmp X26.here hx rfl (hb hby d5_132) rfl ?_
    show Steps p.tables e below (T26.setTop (mkF m 133 #[.val (.ref a1), .val (.long v82), .second, .val (.long v100), .second, .val (.int (1 : Int32)), .val (.int (1 : Int32)), .val (.long v82), .second] [(.int (lcmpW v82 lw))])) _
    exact k
  by_cases hc133 : lw < v82
  · have pre28 : ∀ t, Steps p.tables e below (T26.setTop (mkF m 141 #[.val (.ref a1), .val (.long v82), .second, .val (.long v100), .second, .val (.int (1 : Int32)), .val (.int (1 : Int32)), .val (.long v82), .second] [(.long v82), (.ref a1)])) t → Steps p.tables e below (s₁.setTop (entryFrame m #[(.ref a1)] 9)) t := by
      intro t k
      refine pre27 t ?_
      refine XS.ifYes X26.here hx rfl (pc0 := 133) (pc' := 138) rfl (hb hby d5_133) rfl (own_Tgt hc133).1 (by decide) (by decide) ?_
      show Steps p.tables e below (T26.setTop (mkF m 138 #[.val (.ref a1), .val (.long v82), .second, .val (.long v100), .second, .val (.int (1 : Int32)), .val (.int (1 : Int32)), .val (.long v82), .second] [])) _
      refine XS.aloadN X26.here hx rfl (hb hby d5_138) rfl rfl ?_
      show Steps p.tables e below (T26.setTop (mkF m 139 #[.val (.ref a1), .val (.long v82), .second, .val (.long v100), .second, .val (.int (1 : Int32)), .val (.int (1 : Int32)), .val (.long v82), .second] [(.ref a1)])) _
      refine XS.lload X26.here hx rfl (hb hby d5_139) rfl ?_
      show Steps p.tables e below (T26.setTop (mkF m 141 #[.val (.ref a1), .val (.long v82), .second, .val (.long v100), .second, .val (.int (1 : Int32)), .val (.int (1 : Int32)), .val (.long v82), .second] [(.long v82), (.ref a1)])) _
      exact k
    obtain ⟨T29, h29, X29, e29, W29, st29⟩ := putF X26 hx hZ hown (host := "") (Or.inl (hw _ (List.mem_of_getElem? (i := 11) rfl))) Via.refl e26 w_lowest w_e (Or.inl (hw _ (List.mem_of_getElem? (i := 12) rfl))) (hw _ (List.mem_of_getElem? (i := 2) rfl)) (ty := .long) (by decide) rfl rfl (g := (mkF m 141 #[.val (.ref a1), .val (.long v82), .second, .val (.long v100), .second, .val (.int (1 : Int32)), .val (.int (1 : Int32)), .val (.long v82), .second] [(.long v82), (.ref a1)])) rfl rfl (hb hby d5_141)
    have F29_0 := w_lowest.same W29
    have F29_1 := w_marks.other W29 (Or.inr (slot_ne (Or.inl (hw _ (List.mem_of_getElem? (i := 15) rfl))) (Or.inl (hw _ (List.mem_of_getElem? (i := 12) rfl))) (by decide) (t := (.array .long)) (t' := .long) (by decide) (by decide)))
    have F29_2 := w_states.other W29 (Or.inr (slot_ne (Or.inl (hw _ (List.mem_of_getElem? (i := 18) rfl))) (Or.inl (hw _ (List.mem_of_getElem? (i := 12) rfl))) (by decide) (t := (.array .byte)) (t' := .long) (by decide) (by decide)))
    have F29_3 := w_live.other W29 (Or.inr (slot_ne (Or.inl (hw _ (List.mem_of_getElem? (i := 21) rfl))) (Or.inl (hw _ (List.mem_of_getElem? (i := 12) rfl))) (by decide) (t := (.array .int)) (t' := .long) (by decide) (by decide)))
    have F29_4 := w_open.other W29 (Or.inr (slot_ne (Or.inl (hw _ (List.mem_of_getElem? (i := 27) rfl))) (Or.inl (hw _ (List.mem_of_getElem? (i := 12) rfl))) (by decide) (t := .int) (t' := .long) (by decide) (by decide)))
    have F29_5 := w_e.wr W29
    have F29_6 := w_am.other W29 (Ne.symm w_1)
    have F29_7 := w_as.other W29 (Ne.symm w_2)
    have F29_8 := w_al.other W29 (Ne.symm w_3)
    have Z29 : n0 ≤ h29.size := Nat.le_trans Z0 (Keep.of_wr W29).1
    have N29 := Fr.snoc X29 N21 w_ga
    have pre29 : ∀ t, Steps p.tables e below (T29.setTop (mkF m 144 #[.val (.ref a1), .val (.long v82), .second, .val (.long v100), .second, .val (.int (1 : Int32)), .val (.int (1 : Int32)), .val (.long v82), .second] [])) t → Steps p.tables e below (s₁.setTop (entryFrame m #[(.ref a1)] 9)) t := fun t k => pre28 t (st29 _ k)
    have pre30 : ∀ t, Steps p.tables e below (T29.setTop (mkF m 145 #[.val (.ref a1), .val (.long v82), .second, .val (.long v100), .second, .val (.int (1 : Int32)), .val (.int (1 : Int32)), .val (.long v82), .second] [(.int (1 : Int32))])) t → Steps p.tables e below (s₁.setTop (entryFrame m #[(.ref a1)] 9)) t := by
      intro t k
      refine pre29 t ?_
      refine XS.iconst X29.here hx rfl (hb hby d5_144) ?_
      show Steps p.tables e below (T29.setTop (mkF m 145 #[.val (.ref a1), .val (.long v82), .second, .val (.long v100), .second, .val (.int (1 : Int32)), .val (.int (1 : Int32)), .val (.long v82), .second] [(.int (1 : Int32))])) _
      exact k
    obtain ⟨fs, hr, hrun, hended, hW, hsame⟩ := X29.leave (v := some (.int (nar .boolean (1 : Int32)))) (fun h => by rw [Bd.returns] at h; cases h)
    refine ⟨_, _, pre30 _ ?_, hrun, hended, _, _, rfl, ?_, ⟨_, rfl⟩, hW, hsame.mono (by decide) (by decide)⟩
    · show Steps p.tables e below (T29.setTop (mkF m 145 #[.val (.ref a1), .val (.long v82), .second, .val (.long v100), .second, .val (.int (1 : Int32)), .val (.int (1 : Int32)), .val (.long v82), .second] [(.int (1 : Int32))])) _
      exact retN X29 hx (t := .boolean) Bd.returns (by simp) (hb hby d5_145) hr
    · show QrB Z a1 bm bs bl m0 m1 lw l0 l1 h0 n0 _ T29.heap _
      rw [e29]
      have hfn : fnrB m0 m1 lw = ((nar .boolean (1 : Int32)), m0, m1, v82) := by
        subst hv82 hv100
        simp only [fnrB, if_pos hc133]
      unfold QrB
      rw [hfn]
      exact ⟨rfl, N29, ⟨F29_5, F29_0, F29_1, F29_2, F29_3, F29_4, F29_6, F29_7, F29_8, w_ga, w_gm, w_gs, w_gl, w_1, w_2, w_3, w_4, w_5, w_6⟩⟩
  · have pre31 : ∀ t, Steps p.tables e below (T26.setTop (mkF m 137 #[.val (.ref a1), .val (.long v82), .second, .val (.long v100), .second, .val (.int (1 : Int32)), .val (.int (1 : Int32)), .val (.long v82), .second] [(.int (0 : Int32))])) t → Steps p.tables e below (s₁.setTop (entryFrame m #[(.ref a1)] 9)) t := by
      intro t k
      refine pre27 t ?_
      refine XS.ifNo X26.here hx rfl (hb hby d5_133) rfl (own_Fgt hc133).1 ?_
      show Steps p.tables e below (T26.setTop (mkF m 136 #[.val (.ref a1), .val (.long v82), .second, .val (.long v100), .second, .val (.int (1 : Int32)), .val (.int (1 : Int32)), .val (.long v82), .second] [])) _
      refine XS.iconst X26.here hx rfl (hb hby d5_136) ?_
      show Steps p.tables e below (T26.setTop (mkF m 137 #[.val (.ref a1), .val (.long v82), .second, .val (.long v100), .second, .val (.int (1 : Int32)), .val (.int (1 : Int32)), .val (.long v82), .second] [(.int (0 : Int32))])) _
      exact k
    obtain ⟨fs, hr, hrun, hended, hW, hsame⟩ := X26.leave (v := some (.int (nar .boolean (0 : Int32)))) (fun h => by rw [Bd.returns] at h; cases h)
    refine ⟨_, _, pre31 _ ?_, hrun, hended, _, _, rfl, ?_, ⟨_, rfl⟩, hW, hsame.mono (by decide) (by decide)⟩
    · show Steps p.tables e below (T26.setTop (mkF m 137 #[.val (.ref a1), .val (.long v82), .second, .val (.long v100), .second, .val (.int (1 : Int32)), .val (.int (1 : Int32)), .val (.long v82), .second] [(.int (0 : Int32))])) _
      exact retN X26 hx (t := .boolean) Bd.returns (by simp) (hb hby d5_137) hr
    · show QrB Z a1 bm bs bl m0 m1 lw l0 l1 h0 n0 _ T26.heap _
      rw [e26]
      have hfn : fnrB m0 m1 lw = ((nar .boolean (0 : Int32)), m0, m1, lw) := by
        subst hv82 hv100
        simp only [fnrB, if_neg hc133]
      unfold QrB
      rw [hfn]
      exact ⟨rfl, N21, ⟨w_e, w_lowest, w_marks, w_states, w_live, w_open, w_am, w_as, w_al, w_ga, w_gm, w_gs, w_gl, w_1, w_2, w_3, w_4, w_5, w_6⟩⟩
/-! body 5: rise -/
theorem d5_27 : decode prog_183_method_13_code 27 = .ok (.iconst 0, 1) := by decide +kernel
theorem d5_52 : decode prog_183_method_13_code 52 = .ok (.aload_n 0, 1) := by decide +kernel
theorem d5_53 : decode prog_183_method_13_code 53 = .ok (.getfield 25, 3) := by decide +kernel
theorem d5_56 : decode prog_183_method_13_code 56 = .ok (.iload 7, 2) := by decide +kernel
theorem d5_58 : decode prog_183_method_13_code 58 = .ok (.iaload, 1) := by decide +kernel
theorem pdrC_0 : parseMethodDescriptor "(JJ)J" = some ⟨[.long, .long], some .long⟩ := by decide +kernel
theorem pnrC : plainName "sluice/stream/Watermarks" = true := by first | (simp [plainName, overriddenIn]; done) | decide +kernel
theorem efrC (m : MethodId) (a1 : Addr) : entryFrame m #[(.ref a1)] 9 = mkF m 0 #[.val (.ref a1), .unset, .unset, .unset, .unset, .unset, .unset, .unset, .unset] [] := by first | (simp [entryFrame, mkF, argsToLocals, Value.category]; done) | rfl
def fnrC (m0 m1 lw : Int64) : Int32 × Int64 × Int64 × Int64 :=
  let v82 : Int64 := (fn6 (9223372036854775807 : Int64) m1)
  if lw < v82 then
    ((nar .boolean (1 : Int32)), m0, m1, v82)
  else
    ((nar .boolean (0 : Int32)), m0, m1, lw)
def QrC (Z : State) (a1 : Addr) (bm bs bl : Addr) (m0 m1 lw : Int64) (l1 : Int32) (h0 : Heap) (n0 : Nat) (v : Option Value) (h : Heap) (L : List Loc) : Prop := v = some (.int (fnrC m0 m1 lw).1) ∧ Fr n0 L ∧ own_W Z h n0 a1 bm bs bl (fnrC m0 m1 lw).2.1 (fnrC m0 m1 lw).2.2.1 (fnrC m0 m1 lw).2.2.2 (2 : Int32) (0 : Int32) (1 : Int32) l1 (1 : Int32)
set_option maxRecDepth 65536 in
set_option maxHeartbeats 40000000 in
theorem rmrC (l : Launch) (Z : State) (a0 : Array Value) (hw : ∀ d ∈ tables_1, d.before a0 Z = true) (ws : List Jvm.Cond) (a1 : Addr) (bm bs bl : Addr) (m0 m1 lw : Int64) (l1 : Int32) (h0 : Heap) (n0 : Nat) (Z0 : n0 ≤ h0.size) (I0 : own_W Z h0 n0 a1 bm bs bl m0 m1 lw (2 : Int32) (0 : Int32) (1 : Int32) l1 (1 : Int32)) :
    MetFree l (⟨"sluice/stream/Watermarks", "rise", "()Z"⟩ : MethodName) (head1 (Jvm.Cond.code (⟨"sluice/stream/Watermarks", "rise", "()Z"⟩ : MethodName) prog_183_method_13_code 9 (some .boolean) :: ws) ({ frames := 1, cells := 0, slots := 0, locals := 15 } : Room)) (fun a U => a = #[(.ref a1)] ∧ Z.Warmed39 U.vm ∧ U.heap = h0) (fun _ _ _ _ _ => True) (fun _ U o U' => ∃ v L, o = .returned v ∧ QrC Z a1 bm bs bl m0 m1 lw l1 h0 n0 v U'.heap L ∧ FrameEnd U o U' L ({ frames := 1, cells := 0, slots := 0, locals := 15 } : Room).cells ({ frames := 1, cells := 0, slots := 0, locals := 15 } : Room).slots) := by
  refine MetFree.of_bodySF (plainFor_of_name pnrC) hisR ?_
  intro p e s m args below meth c s₁ Bd hml0 hP hK
  obtain ⟨rfl, hZ, hh⟩ := hP
  have hx := Bd.exec
  have hby := Bd.bytes
  have hml : c.maxLocals = 9 := hml0
  have hown : s.vm.findClass "sluice/stream/Watermarks" = some m.cls := findClass_of_methodNamed Bd.named
  have hnm := (name_of_methodNamed Bd.named Bd.method).1
  have X0 : Stand p l e ({ frames := 1, cells := 0, slots := 0, locals := 15 } : Room) s m #[(.ref a1)] below meth c s₁ [] 0 0 := Stand.of_body Bd
  have e0 : s₁.heap = h0 := by rw [← hh, Bd.state]; rfl
  have N0 := Fr.nil n0
  have pre0 : ∀ t, Steps p.tables e below (s₁.setTop (mkF m 0 #[.val (.ref a1), .unset, .unset, .unset, .unset, .unset, .unset, .unset, .unset] [])) t → Steps p.tables e below (s₁.setTop (entryFrame m #[(.ref a1)] 9)) t := fun t k => castTop (efrC m a1) k
  obtain ⟨w_e, w_lowest, w_marks, w_states, w_live, w_open, w_am, w_as, w_al, w_ga, w_gm, w_gs, w_gl, w_1, w_2, w_3, w_4, w_5, w_6⟩ := I0
  have pre1 : ∀ t, Steps p.tables e below (s₁.setTop (mkF m 12 #[.val (.ref a1), .val (.long (9223372036854775807 : Int64)), .second, .val (.long (-9223372036854775808 : Int64)), .second, .val (.int (0 : Int32)), .unset, .unset, .unset] [(.ref a1)])) t → Steps p.tables e below (s₁.setTop (entryFrame m #[(.ref a1)] 9)) t := by
    intro t k
    refine pre0 t ?_
    show Steps p.tables e below (s₁.setTop (mkF m 0 #[.val (.ref a1), .unset, .unset, .unset, .unset, .unset, .unset, .unset, .unset] [])) _
    refine X0.ldc2Long hx hown (mvT hZ (hw _ (List.mem_of_getElem? (i := 37) rfl))) (g := (mkF m 0 #[.val (.ref a1), .unset, .unset, .unset, .unset, .unset, .unset, .unset, .unset] [])) rfl (hb hby d5_0) _ ?_
    show Steps p.tables e below (s₁.setTop (mkF m 3 #[.val (.ref a1), .unset, .unset, .unset, .unset, .unset, .unset, .unset, .unset] [(.long (9223372036854775807 : Int64))])) _
    refine XS.lstoreN X0.here hx rfl (hb hby d5_3) rfl (l' := #[.val (.ref a1), .val (.long (9223372036854775807 : Int64)), .second, .unset, .unset, .unset, .unset, .unset, .unset]) rfl ?_
    show Steps p.tables e below (s₁.setTop (mkF m 4 #[.val (.ref a1), .val (.long (9223372036854775807 : Int64)), .second, .unset, .unset, .unset, .unset, .unset, .unset] [])) _
    refine X0.ldc2Long hx hown (mvT hZ (hw _ (List.mem_of_getElem? (i := 10) rfl))) (g := (mkF m 4 #[.val (.ref a1), .val (.long (9223372036854775807 : Int64)), .second, .unset, .unset, .unset, .unset, .unset, .unset] [])) rfl (hb hby d5_4) _ ?_
    show Steps p.tables e below (s₁.setTop (mkF m 7 #[.val (.ref a1), .val (.long (9223372036854775807 : Int64)), .second, .unset, .unset, .unset, .unset, .unset, .unset] [(.long (-9223372036854775808 : Int64))])) _
    refine XS.lstoreN X0.here hx rfl (hb hby d5_7) rfl (l' := #[.val (.ref a1), .val (.long (9223372036854775807 : Int64)), .second, .val (.long (-9223372036854775808 : Int64)), .second, .unset, .unset, .unset, .unset]) rfl ?_
    show Steps p.tables e below (s₁.setTop (mkF m 8 #[.val (.ref a1), .val (.long (9223372036854775807 : Int64)), .second, .val (.long (-9223372036854775808 : Int64)), .second, .unset, .unset, .unset, .unset] [])) _
    refine XS.iconst X0.here hx rfl (hb hby d5_8) ?_
    show Steps p.tables e below (s₁.setTop (mkF m 9 #[.val (.ref a1), .val (.long (9223372036854775807 : Int64)), .second, .val (.long (-9223372036854775808 : Int64)), .second, .unset, .unset, .unset, .unset] [(.int (0 : Int32))])) _
    refine XS.istore X0.here hx rfl (hb hby d5_9) rfl (l' := #[.val (.ref a1), .val (.long (9223372036854775807 : Int64)), .second, .val (.long (-9223372036854775808 : Int64)), .second, .val (.int (0 : Int32)), .unset, .unset, .unset]) rfl ?_
    show Steps p.tables e below (s₁.setTop (mkF m 11 #[.val (.ref a1), .val (.long (9223372036854775807 : Int64)), .second, .val (.long (-9223372036854775808 : Int64)), .second, .val (.int (0 : Int32)), .unset, .unset, .unset] [])) _
    refine XS.aloadN X0.here hx rfl (hb hby d5_11) rfl rfl ?_
    show Steps p.tables e below (s₁.setTop (mkF m 12 #[.val (.ref a1), .val (.long (9223372036854775807 : Int64)), .second, .val (.long (-9223372036854775808 : Int64)), .second, .val (.int (0 : Int32)), .unset, .unset, .unset] [(.ref a1)])) _
    exact k
  obtain ⟨T2, X2, e2, st2⟩ := getF X0 hx hZ hown (host := "") (Or.inl (hw _ (List.mem_of_getElem? (i := 26) rfl))) Via.refl e0 w_open (g := (mkF m 12 #[.val (.ref a1), .val (.long (9223372036854775807 : Int64)), .second, .val (.long (-9223372036854775808 : Int64)), .second, .val (.int (0 : Int32)), .unset, .unset, .unset] [(.ref a1)])) rfl rfl (hb hby d5_12)
  have pre2 : ∀ t, Steps p.tables e below (T2.setTop (mkF m 15 #[.val (.ref a1), .val (.long (9223372036854775807 : Int64)), .second, .val (.long (-9223372036854775808 : Int64)), .second, .val (.int (0 : Int32)), .unset, .unset, .unset] [(.int (1 : Int32))])) t → Steps p.tables e below (s₁.setTop (entryFrame m #[(.ref a1)] 9)) t := fun t k => pre1 t (st2 _ k)
  have pre3 : ∀ t, Steps p.tables e below (T2.setTop (mkF m 16 #[.val (.ref a1), .val (.long (9223372036854775807 : Int64)), .second, .val (.long (-9223372036854775808 : Int64)), .second, .val (.int (0 : Int32)), .unset, .unset, .unset] [(.ref a1), (.int (1 : Int32))])) t → Steps p.tables e below (s₁.setTop (entryFrame m #[(.ref a1)] 9)) t := by
    intro t k
    refine pre2 t ?_
    refine XS.aloadN X2.here hx rfl (hb hby d5_15) rfl rfl ?_
    show Steps p.tables e below (T2.setTop (mkF m 16 #[.val (.ref a1), .val (.long (9223372036854775807 : Int64)), .second, .val (.long (-9223372036854775808 : Int64)), .second, .val (.int (0 : Int32)), .unset, .unset, .unset] [(.ref a1), (.int (1 : Int32))])) _
    exact k
  obtain ⟨T4, X4, e4, st4⟩ := getF X2 hx hZ hown (host := "") (Or.inl (hw _ (List.mem_of_getElem? (i := 14) rfl))) Via.refl e2 w_marks (g := (mkF m 16 #[.val (.ref a1), .val (.long (9223372036854775807 : Int64)), .second, .val (.long (-9223372036854775808 : Int64)), .second, .val (.int (0 : Int32)), .unset, .unset, .unset] [(.ref a1), (.int (1 : Int32))])) rfl rfl (hb hby d5_16)
  have pre4 : ∀ t, Steps p.tables e below (T4.setTop (mkF m 19 #[.val (.ref a1), .val (.long (9223372036854775807 : Int64)), .second, .val (.long (-9223372036854775808 : Int64)), .second, .val (.int (0 : Int32)), .unset, .unset, .unset] [(.ref bm), (.int (1 : Int32))])) t → Steps p.tables e below (s₁.setTop (entryFrame m #[(.ref a1)] 9)) t := fun t k => pre3 t (st4 _ k)
  have pre5 : ∀ t, Steps p.tables e below (T4.setTop (mkF m 36 #[.val (.ref a1), .val (.long (9223372036854775807 : Int64)), .second, .val (.long (-9223372036854775808 : Int64)), .second, .val (.int (0 : Int32)), .val (.int (0 : Int32)), .val (.int (0 : Int32)), .unset] [(.ref a1), (.int (0 : Int32))])) t → Steps p.tables e below (s₁.setTop (entryFrame m #[(.ref a1)] 9)) t := by
    intro t k
    refine pre4 t ?_
    refine own_lenJ X4 hx hZ e4 w_am (g := (mkF m 19 #[.val (.ref a1), .val (.long (9223372036854775807 : Int64)), .second, .val (.long (-9223372036854775808 : Int64)), .second, .val (.int (0 : Int32)), .unset, .unset, .unset] [(.ref bm), (.int (1 : Int32))])) rfl rfl (hb hby d5_19) _ ?_
    show Steps p.tables e below (T4.setTop (mkF m 20 #[.val (.ref a1), .val (.long (9223372036854775807 : Int64)), .second, .val (.long (-9223372036854775808 : Int64)), .second, .val (.int (0 : Int32)), .unset, .unset, .unset] [(.int (2 : Int32)), (.int (1 : Int32))])) _
    refine XS.icmpYes X4.here hx rfl (pc0 := 20) (pc' := 27) rfl (hb hby d5_20) rfl (feq (by decide : ¬ (1 : Int32) = (2 : Int32))).2 (by decide) (by decide) ?_
    show Steps p.tables e below (T4.setTop (mkF m 27 #[.val (.ref a1), .val (.long (9223372036854775807 : Int64)), .second, .val (.long (-9223372036854775808 : Int64)), .second, .val (.int (0 : Int32)), .unset, .unset, .unset] [])) _
    refine XS.iconst X4.here hx rfl (hb hby d5_27) ?_
    show Steps p.tables e below (T4.setTop (mkF m 28 #[.val (.ref a1), .val (.long (9223372036854775807 : Int64)), .second, .val (.long (-9223372036854775808 : Int64)), .second, .val (.int (0 : Int32)), .unset, .unset, .unset] [(.int (0 : Int32))])) _
    refine XS.istore X4.here hx rfl (hb hby d5_28) rfl (l' := #[.val (.ref a1), .val (.long (9223372036854775807 : Int64)), .second, .val (.long (-9223372036854775808 : Int64)), .second, .val (.int (0 : Int32)), .val (.int (0 : Int32)), .unset, .unset]) rfl ?_
    show Steps p.tables e below (T4.setTop (mkF m 30 #[.val (.ref a1), .val (.long (9223372036854775807 : Int64)), .second, .val (.long (-9223372036854775808 : Int64)), .second, .val (.int (0 : Int32)), .val (.int (0 : Int32)), .unset, .unset] [])) _
    refine XS.iconst X4.here hx rfl (hb hby d5_30) ?_
    show Steps p.tables e below (T4.setTop (mkF m 31 #[.val (.ref a1), .val (.long (9223372036854775807 : Int64)), .second, .val (.long (-9223372036854775808 : Int64)), .second, .val (.int (0 : Int32)), .val (.int (0 : Int32)), .unset, .unset] [(.int (0 : Int32))])) _
    refine XS.istore X4.here hx rfl (hb hby d5_31) rfl (l' := #[.val (.ref a1), .val (.long (9223372036854775807 : Int64)), .second, .val (.long (-9223372036854775808 : Int64)), .second, .val (.int (0 : Int32)), .val (.int (0 : Int32)), .val (.int (0 : Int32)), .unset]) rfl ?_
    show Steps p.tables e below (T4.setTop (mkF m 33 #[.val (.ref a1), .val (.long (9223372036854775807 : Int64)), .second, .val (.long (-9223372036854775808 : Int64)), .second, .val (.int (0 : Int32)), .val (.int (0 : Int32)), .val (.int (0 : Int32)), .unset] [])) _
    refine XS.iload X4.here hx rfl (hb hby d5_33) rfl ?_
    show Steps p.tables e below (T4.setTop (mkF m 35 #[.val (.ref a1), .val (.long (9223372036854775807 : Int64)), .second, .val (.long (-9223372036854775808 : Int64)), .second, .val (.int (0 : Int32)), .val (.int (0 : Int32)), .val (.int (0 : Int32)), .unset] [(.int (0 : Int32))])) _
    refine XS.aloadN X4.here hx rfl (hb hby d5_35) rfl rfl ?_
    show Steps p.tables e below (T4.setTop (mkF m 36 #[.val (.ref a1), .val (.long (9223372036854775807 : Int64)), .second, .val (.long (-9223372036854775808 : Int64)), .second, .val (.int (0 : Int32)), .val (.int (0 : Int32)), .val (.int (0 : Int32)), .unset] [(.ref a1), (.int (0 : Int32))])) _
    exact k
  obtain ⟨T6, X6, e6, st6⟩ := getF X4 hx hZ hown (host := "") (Or.inl (hw _ (List.mem_of_getElem? (i := 26) rfl))) Via.refl e4 w_open (g := (mkF m 36 #[.val (.ref a1), .val (.long (9223372036854775807 : Int64)), .second, .val (.long (-9223372036854775808 : Int64)), .second, .val (.int (0 : Int32)), .val (.int (0 : Int32)), .val (.int (0 : Int32)), .unset] [(.ref a1), (.int (0 : Int32))])) rfl rfl (hb hby d5_36)
  have pre6 : ∀ t, Steps p.tables e below (T6.setTop (mkF m 39 #[.val (.ref a1), .val (.long (9223372036854775807 : Int64)), .second, .val (.long (-9223372036854775808 : Int64)), .second, .val (.int (0 : Int32)), .val (.int (0 : Int32)), .val (.int (0 : Int32)), .unset] [(.int (1 : Int32)), (.int (0 : Int32))])) t → Steps p.tables e below (s₁.setTop (entryFrame m #[(.ref a1)] 9)) t := fun t k => pre5 t (st6 _ k)
  have pre7 : ∀ t, Steps p.tables e below (T6.setTop (mkF m 53 #[.val (.ref a1), .val (.long (9223372036854775807 : Int64)), .second, .val (.long (-9223372036854775808 : Int64)), .second, .val (.int (0 : Int32)), .val (.int (0 : Int32)), .val (.int (0 : Int32)), .unset] [(.ref a1)])) t → Steps p.tables e below (s₁.setTop (entryFrame m #[(.ref a1)] 9)) t := by
    intro t k
    refine pre6 t ?_
    refine XS.icmpNo X6.here hx rfl (hb hby d5_39) rfl (tlt (by decide : (0 : Int32) < (1 : Int32))).2.1 ?_
    show Steps p.tables e below (T6.setTop (mkF m 42 #[.val (.ref a1), .val (.long (9223372036854775807 : Int64)), .second, .val (.long (-9223372036854775808 : Int64)), .second, .val (.int (0 : Int32)), .val (.int (0 : Int32)), .val (.int (0 : Int32)), .unset] [])) _
    refine XS.iload X6.here hx rfl (hb hby d5_42) rfl ?_
    show Steps p.tables e below (T6.setTop (mkF m 44 #[.val (.ref a1), .val (.long (9223372036854775807 : Int64)), .second, .val (.long (-9223372036854775808 : Int64)), .second, .val (.int (0 : Int32)), .val (.int (0 : Int32)), .val (.int (0 : Int32)), .unset] [(.int (0 : Int32))])) _
    refine XS.ifYes X6.here hx rfl (pc0 := 44) (pc' := 52) rfl (hb hby d5_44) rfl ((if0 _ _).trans (teq (by decide : (0 : Int32) = (0 : Int32))).1) (by decide) (by decide) ?_
    show Steps p.tables e below (T6.setTop (mkF m 52 #[.val (.ref a1), .val (.long (9223372036854775807 : Int64)), .second, .val (.long (-9223372036854775808 : Int64)), .second, .val (.int (0 : Int32)), .val (.int (0 : Int32)), .val (.int (0 : Int32)), .unset] [])) _
    refine XS.aloadN X6.here hx rfl (hb hby d5_52) rfl rfl ?_
    show Steps p.tables e below (T6.setTop (mkF m 53 #[.val (.ref a1), .val (.long (9223372036854775807 : Int64)), .second, .val (.long (-9223372036854775808 : Int64)), .second, .val (.int (0 : Int32)), .val (.int (0 : Int32)), .val (.int (0 : Int32)), .unset] [(.ref a1)])) _
    exact k
  obtain ⟨T8, X8, e8, st8⟩ := getF X6 hx hZ hown (host := "") (Or.inl (hw _ (List.mem_of_getElem? (i := 20) rfl))) Via.refl e6 w_live (g := (mkF m 53 #[.val (.ref a1), .val (.long (9223372036854775807 : Int64)), .second, .val (.long (-9223372036854775808 : Int64)), .second, .val (.int (0 : Int32)), .val (.int (0 : Int32)), .val (.int (0 : Int32)), .unset] [(.ref a1)])) rfl rfl (hb hby d5_53)
  have pre8 : ∀ t, Steps p.tables e below (T8.setTop (mkF m 56 #[.val (.ref a1), .val (.long (9223372036854775807 : Int64)), .second, .val (.long (-9223372036854775808 : Int64)), .second, .val (.int (0 : Int32)), .val (.int (0 : Int32)), .val (.int (0 : Int32)), .unset] [(.ref bl)])) t → Steps p.tables e below (s₁.setTop (entryFrame m #[(.ref a1)] 9)) t := fun t k => pre7 t (st8 _ k)
  have pre9 : ∀ t, Steps p.tables e below (T8.setTop (mkF m 62 #[.val (.ref a1), .val (.long (9223372036854775807 : Int64)), .second, .val (.long (-9223372036854775808 : Int64)), .second, .val (.int (0 : Int32)), .val (.int (0 : Int32)), .val (.int (0 : Int32)), .val (.int (1 : Int32))] [(.ref a1)])) t → Steps p.tables e below (s₁.setTop (entryFrame m #[(.ref a1)] 9)) t := by
    intro t k
    refine pre8 t ?_
    refine XS.iload X8.here hx rfl (hb hby d5_56) rfl ?_
    show Steps p.tables e below (T8.setTop (mkF m 58 #[.val (.ref a1), .val (.long (9223372036854775807 : Int64)), .second, .val (.long (-9223372036854775808 : Int64)), .second, .val (.int (0 : Int32)), .val (.int (0 : Int32)), .val (.int (0 : Int32)), .unset] [(.int (0 : Int32)), (.ref bl)])) _
    refine own_ldI X8 hx hZ e8 w_al (by decide) (by decide) (g := (mkF m 58 #[.val (.ref a1), .val (.long (9223372036854775807 : Int64)), .second, .val (.long (-9223372036854775808 : Int64)), .second, .val (.int (0 : Int32)), .val (.int (0 : Int32)), .val (.int (0 : Int32)), .unset] [(.int (0 : Int32)), (.ref bl)])) rfl rfl (hb hby d5_58) _ ?_
    show Steps p.tables e below (T8.setTop (mkF m 59 #[.val (.ref a1), .val (.long (9223372036854775807 : Int64)), .second, .val (.long (-9223372036854775808 : Int64)), .second, .val (.int (0 : Int32)), .val (.int (0 : Int32)), .val (.int (0 : Int32)), .unset] [(.int (1 : Int32))])) _
    refine XS.istore X8.here hx rfl (hb hby d5_59) rfl (l' := #[.val (.ref a1), .val (.long (9223372036854775807 : Int64)), .second, .val (.long (-9223372036854775808 : Int64)), .second, .val (.int (0 : Int32)), .val (.int (0 : Int32)), .val (.int (0 : Int32)), .val (.int (1 : Int32))]) rfl ?_
    show Steps p.tables e below (T8.setTop (mkF m 61 #[.val (.ref a1), .val (.long (9223372036854775807 : Int64)), .second, .val (.long (-9223372036854775808 : Int64)), .second, .val (.int (0 : Int32)), .val (.int (0 : Int32)), .val (.int (0 : Int32)), .val (.int (1 : Int32))] [])) _
    refine XS.aloadN X8.here hx rfl (hb hby d5_61) rfl rfl ?_
    show Steps p.tables e below (T8.setTop (mkF m 62 #[.val (.ref a1), .val (.long (9223372036854775807 : Int64)), .second, .val (.long (-9223372036854775808 : Int64)), .second, .val (.int (0 : Int32)), .val (.int (0 : Int32)), .val (.int (0 : Int32)), .val (.int (1 : Int32))] [(.ref a1)])) _
    exact k
  obtain ⟨T10, X10, e10, st10⟩ := getF X8 hx hZ hown (host := "") (Or.inl (hw _ (List.mem_of_getElem? (i := 17) rfl))) Via.refl e8 w_states (g := (mkF m 62 #[.val (.ref a1), .val (.long (9223372036854775807 : Int64)), .second, .val (.long (-9223372036854775808 : Int64)), .second, .val (.int (0 : Int32)), .val (.int (0 : Int32)), .val (.int (0 : Int32)), .val (.int (1 : Int32))] [(.ref a1)])) rfl rfl (hb hby d5_62)
  have pre10 : ∀ t, Steps p.tables e below (T10.setTop (mkF m 65 #[.val (.ref a1), .val (.long (9223372036854775807 : Int64)), .second, .val (.long (-9223372036854775808 : Int64)), .second, .val (.int (0 : Int32)), .val (.int (0 : Int32)), .val (.int (0 : Int32)), .val (.int (1 : Int32))] [(.ref bs)])) t → Steps p.tables e below (s₁.setTop (entryFrame m #[(.ref a1)] 9)) t := fun t k => pre9 t (st10 _ k)
  have pre11 : ∀ t, Steps p.tables e below (T10.setTop (mkF m 73 #[.val (.ref a1), .val (.long (9223372036854775807 : Int64)), .second, .val (.long (-9223372036854775808 : Int64)), .second, .val (.int (0 : Int32)), .val (.int (0 : Int32)), .val (.int (0 : Int32)), .val (.int (1 : Int32))] [(.ref a1), (.long (9223372036854775807 : Int64))])) t → Steps p.tables e below (s₁.setTop (entryFrame m #[(.ref a1)] 9)) t := by
    intro t k
    refine pre10 t ?_
    refine XS.iload X10.here hx rfl (hb hby d5_65) rfl ?_
    show Steps p.tables e below (T10.setTop (mkF m 67 #[.val (.ref a1), .val (.long (9223372036854775807 : Int64)), .second, .val (.long (-9223372036854775808 : Int64)), .second, .val (.int (0 : Int32)), .val (.int (0 : Int32)), .val (.int (0 : Int32)), .val (.int (1 : Int32))] [(.int (1 : Int32)), (.ref bs)])) _
    refine own_ldB X10 hx hZ e10 w_as (by decide) (by decide) (g := (mkF m 67 #[.val (.ref a1), .val (.long (9223372036854775807 : Int64)), .second, .val (.long (-9223372036854775808 : Int64)), .second, .val (.int (0 : Int32)), .val (.int (0 : Int32)), .val (.int (0 : Int32)), .val (.int (1 : Int32))] [(.int (1 : Int32)), (.ref bs)])) rfl rfl (hb hby d5_67) _ ?_
    show Steps p.tables e below (T10.setTop (mkF m 68 #[.val (.ref a1), .val (.long (9223372036854775807 : Int64)), .second, .val (.long (-9223372036854775808 : Int64)), .second, .val (.int (0 : Int32)), .val (.int (0 : Int32)), .val (.int (0 : Int32)), .val (.int (1 : Int32))] [(.int (0 : Int32))])) _
    refine XS.ifNo X10.here hx rfl (hb hby d5_68) rfl ((if0 _ _).trans (teq (by decide : (0 : Int32) = (0 : Int32))).2) ?_
    show Steps p.tables e below (T10.setTop (mkF m 71 #[.val (.ref a1), .val (.long (9223372036854775807 : Int64)), .second, .val (.long (-9223372036854775808 : Int64)), .second, .val (.int (0 : Int32)), .val (.int (0 : Int32)), .val (.int (0 : Int32)), .val (.int (1 : Int32))] [])) _
    refine XS.lloadN X10.here hx rfl (hb hby d5_71) rfl ?_
    show Steps p.tables e below (T10.setTop (mkF m 72 #[.val (.ref a1), .val (.long (9223372036854775807 : Int64)), .second, .val (.long (-9223372036854775808 : Int64)), .second, .val (.int (0 : Int32)), .val (.int (0 : Int32)), .val (.int (0 : Int32)), .val (.int (1 : Int32))] [(.long (9223372036854775807 : Int64))])) _
    refine XS.aloadN X10.here hx rfl (hb hby d5_72) rfl rfl ?_
    show Steps p.tables e below (T10.setTop (mkF m 73 #[.val (.ref a1), .val (.long (9223372036854775807 : Int64)), .second, .val (.long (-9223372036854775808 : Int64)), .second, .val (.int (0 : Int32)), .val (.int (0 : Int32)), .val (.int (0 : Int32)), .val (.int (1 : Int32))] [(.ref a1), (.long (9223372036854775807 : Int64))])) _
    exact k
  obtain ⟨T12, X12, e12, st12⟩ := getF X10 hx hZ hown (host := "") (Or.inl (hw _ (List.mem_of_getElem? (i := 14) rfl))) Via.refl e10 w_marks (g := (mkF m 73 #[.val (.ref a1), .val (.long (9223372036854775807 : Int64)), .second, .val (.long (-9223372036854775808 : Int64)), .second, .val (.int (0 : Int32)), .val (.int (0 : Int32)), .val (.int (0 : Int32)), .val (.int (1 : Int32))] [(.ref a1), (.long (9223372036854775807 : Int64))])) rfl rfl (hb hby d5_73)
  have pre12 : ∀ t, Steps p.tables e below (T12.setTop (mkF m 76 #[.val (.ref a1), .val (.long (9223372036854775807 : Int64)), .second, .val (.long (-9223372036854775808 : Int64)), .second, .val (.int (0 : Int32)), .val (.int (0 : Int32)), .val (.int (0 : Int32)), .val (.int (1 : Int32))] [(.ref bm), (.long (9223372036854775807 : Int64))])) t → Steps p.tables e below (s₁.setTop (entryFrame m #[(.ref a1)] 9)) t := fun t k => pre11 t (st12 _ k)
  have pre13 : ∀ t, Steps p.tables e below (T12.setTop (mkF m 79 #[.val (.ref a1), .val (.long (9223372036854775807 : Int64)), .second, .val (.long (-9223372036854775808 : Int64)), .second, .val (.int (0 : Int32)), .val (.int (0 : Int32)), .val (.int (0 : Int32)), .val (.int (1 : Int32))] [(.long m1), (.long (9223372036854775807 : Int64))])) t → Steps p.tables e below (s₁.setTop (entryFrame m #[(.ref a1)] 9)) t := by
    intro t k
    refine pre12 t ?_
    refine XS.iload X12.here hx rfl (hb hby d5_76) rfl ?_
    show Steps p.tables e below (T12.setTop (mkF m 78 #[.val (.ref a1), .val (.long (9223372036854775807 : Int64)), .second, .val (.long (-9223372036854775808 : Int64)), .second, .val (.int (0 : Int32)), .val (.int (0 : Int32)), .val (.int (0 : Int32)), .val (.int (1 : Int32))] [(.int (1 : Int32)), (.ref bm), (.long (9223372036854775807 : Int64))])) _
    refine own_ldJ X12 hx hZ e12 w_am (by decide) (by decide) (g := (mkF m 78 #[.val (.ref a1), .val (.long (9223372036854775807 : Int64)), .second, .val (.long (-9223372036854775808 : Int64)), .second, .val (.int (0 : Int32)), .val (.int (0 : Int32)), .val (.int (0 : Int32)), .val (.int (1 : Int32))] [(.int (1 : Int32)), (.ref bm), (.long (9223372036854775807 : Int64))])) rfl rfl (hb hby d5_78) _ ?_
    show Steps p.tables e below (T12.setTop (mkF m 79 #[.val (.ref a1), .val (.long (9223372036854775807 : Int64)), .second, .val (.long (-9223372036854775808 : Int64)), .second, .val (.int (0 : Int32)), .val (.int (0 : Int32)), .val (.int (0 : Int32)), .val (.int (1 : Int32))] [(.long m1), (.long (9223372036854775807 : Int64))])) _
    exact k
  obtain ⟨_, _, ⟨T14, L14, k14, n14⟩, -, X14, ⟨Lc14, hQ14, l14, y14, z14⟩, st14⟩ := Jvm.LawKit.callS X12 hx (y := (⟨"java/lang/Math", "min", "(JJ)J"⟩ : MethodName)) hown (mvT hZ (hw _ (List.mem_of_getElem? (i := 38) rfl))) (mvT hZ (hw _ (List.mem_of_getElem? (i := 39) rfl))) (mvT hZ (hw _ (List.mem_of_getElem? (i := 40) rfl))) (mvT hZ (hw _ (List.mem_of_getElem? (i := 41) rfl))) (by decide) (backOf (W := 0) (rm6 l Z a0 hw [] (9223372036854775807 : Int64) m1 h0 n0 Z0) hZ (hw _ (List.mem_of_getElem? (i := 41) rfl)) (hw _ (List.mem_of_getElem? (i := 40) rfl)) (by decide) (by decide)) (g := (mkF m 79 #[.val (.ref a1), .val (.long (9223372036854775807 : Int64)), .second, .val (.long (-9223372036854775808 : Int64)), .second, .val (.int (0 : Int32)), .val (.int (0 : Int32)), .val (.int (0 : Int32)), .val (.int (1 : Int32))] [(.long m1), (.long (9223372036854775807 : Int64))])) rfl (by rw [hml]; rfl) (argsL := [(.long (9223372036854775807 : Int64)), (.long m1)]) (rest := []) (lenOf pdrC_0 rfl) rfl (by show 2 * 0 + _ ≤ _; exact Nat.le_of_eq rfl) (hb hby d5_79) (fun _ _ => ⟨rfl, e12, (by decide : 0 + 0 ≤ _), (by decide : 0 + 0 ≤ _)⟩)
  dsimp only [Pt.U, Pt.locs, Pt.cells, Pt.slots] at X14 l14 y14 z14 st14 hQ14
  subst l14 y14 z14
  obtain ⟨rfl, Nq14, e14⟩ := hQ14
  have N14 := Fr.app N0 Nq14
  have pre14 : ∀ t, Steps p.tables e below (T14.setTop (mkF m 82 #[.val (.ref a1), .val (.long (9223372036854775807 : Int64)), .second, .val (.long (-9223372036854775808 : Int64)), .second, .val (.int (0 : Int32)), .val (.int (0 : Int32)), .val (.int (0 : Int32)), .val (.int (1 : Int32))] [(.long (fn6 (9223372036854775807 : Int64) m1))])) t → Steps p.tables e below (s₁.setTop (entryFrame m #[(.ref a1)] 9)) t := fun t k => pre13 t (st14 _ k)
  obtain ⟨v82, hv82⟩ : ∃ z : Int64, z = (fn6 (9223372036854775807 : Int64) m1) := ⟨_, rfl⟩
  have pre15 : ∀ t, Steps p.tables e below (T14.setTop (mkF m 83 #[.val (.ref a1), .val (.long v82), .second, .val (.long (-9223372036854775808 : Int64)), .second, .val (.int (0 : Int32)), .val (.int (0 : Int32)), .val (.int (0 : Int32)), .val (.int (1 : Int32))] [])) t → Steps p.tables e below (s₁.setTop (entryFrame m #[(.ref a1)] 9)) t := by
    intro t k
    subst hv82
    refine pre14 t ?_
    refine XS.lstoreN X14.here hx rfl (hb hby d5_82) rfl (l' := #[.val (.ref a1), .val (.long (fn6 (9223372036854775807 : Int64) m1)), .second, .val (.long (-9223372036854775808 : Int64)), .second, .val (.int (0 : Int32)), .val (.int (0 : Int32)), .val (.int (0 : Int32)), .val (.int (1 : Int32))]) rfl ?_
    show Steps p.tables e below (T14.setTop (mkF m 83 #[.val (.ref a1), .val (.long (fn6 (9223372036854775807 : Int64) m1)), .second, .val (.long (-9223372036854775808 : Int64)), .second, .val (.int (0 : Int32)), .val (.int (0 : Int32)), .val (.int (0 : Int32)), .val (.int (1 : Int32))] [])) _
    exact k
  have pre16 : ∀ t, Steps p.tables e below (T14.setTop (mkF m 36 #[.val (.ref a1), .val (.long v82), .second, .val (.long (-9223372036854775808 : Int64)), .second, .val (.int (1 : Int32)), .val (.int (0 : Int32)), .val (.int (1 : Int32)), .val (.int (1 : Int32))] [(.ref a1), (.int (1 : Int32))])) t → Steps p.tables e below (s₁.setTop (entryFrame m #[(.ref a1)] 9)) t := by
    intro t k
    refine pre15 t ?_
    refine XS.iconst X14.here hx rfl (hb hby d5_83) ?_
    show Steps p.tables e below (T14.setTop (mkF m 84 #[.val (.ref a1), .val (.long v82), .second, .val (.long (-9223372036854775808 : Int64)), .second, .val (.int (0 : Int32)), .val (.int (0 : Int32)), .val (.int (0 : Int32)), .val (.int (1 : Int32))] [(.int (1 : Int32))])) _
    refine XS.istore X14.here hx rfl (hb hby d5_84) rfl (l' := #[.val (.ref a1), .val (.long v82), .second, .val (.long (-9223372036854775808 : Int64)), .second, .val (.int (1 : Int32)), .val (.int (0 : Int32)), .val (.int (0 : Int32)), .val (.int (1 : Int32))]) rfl ?_
    show Steps p.tables e below (T14.setTop (mkF m 86 #[.val (.ref a1), .val (.long v82), .second, .val (.long (-9223372036854775808 : Int64)), .second, .val (.int (1 : Int32)), .val (.int (0 : Int32)), .val (.int (0 : Int32)), .val (.int (1 : Int32))] [])) _
    refine XS.goto X14.here hx rfl (pc0 := 86) (pc' := 101) rfl (hb hby d5_86) (by decide) (by decide) ?_
    show Steps p.tables e below (T14.setTop (mkF m 101 #[.val (.ref a1), .val (.long v82), .second, .val (.long (-9223372036854775808 : Int64)), .second, .val (.int (1 : Int32)), .val (.int (0 : Int32)), .val (.int (0 : Int32)), .val (.int (1 : Int32))] [])) _
    refine XS.iinc X14.here hx rfl (hb hby d5_101) rfl (l' := #[.val (.ref a1), .val (.long v82), .second, .val (.long (-9223372036854775808 : Int64)), .second, .val (.int (1 : Int32)), .val (.int (0 : Int32)), .val (.int (1 : Int32)), .val (.int (1 : Int32))]) rfl ?_
    show Steps p.tables e below (T14.setTop (mkF m 104 #[.val (.ref a1), .val (.long v82), .second, .val (.long (-9223372036854775808 : Int64)), .second, .val (.int (1 : Int32)), .val (.int (0 : Int32)), .val (.int (1 : Int32)), .val (.int (1 : Int32))] [])) _
    refine XS.goto X14.here hx rfl (pc0 := 104) (pc' := 33) rfl (hb hby d5_104) (by decide) (by decide) ?_
    show Steps p.tables e below (T14.setTop (mkF m 33 #[.val (.ref a1), .val (.long v82), .second, .val (.long (-9223372036854775808 : Int64)), .second, .val (.int (1 : Int32)), .val (.int (0 : Int32)), .val (.int (1 : Int32)), .val (.int (1 : Int32))] [])) _
    refine XS.iload X14.here hx rfl (hb hby d5_33) rfl ?_
    show Steps p.tables e below (T14.setTop (mkF m 35 #[.val (.ref a1), .val (.long v82), .second, .val (.long (-9223372036854775808 : Int64)), .second, .val (.int (1 : Int32)), .val (.int (0 : Int32)), .val (.int (1 : Int32)), .val (.int (1 : Int32))] [(.int (1 : Int32))])) _
    refine XS.aloadN X14.here hx rfl (hb hby d5_35) rfl rfl ?_
    show Steps p.tables e below (T14.setTop (mkF m 36 #[.val (.ref a1), .val (.long v82), .second, .val (.long (-9223372036854775808 : Int64)), .second, .val (.int (1 : Int32)), .val (.int (0 : Int32)), .val (.int (1 : Int32)), .val (.int (1 : Int32))] [(.ref a1), (.int (1 : Int32))])) _
    exact k
  obtain ⟨T17, X17, e17, st17⟩ := getF X14 hx hZ hown (host := "") (Or.inl (hw _ (List.mem_of_getElem? (i := 26) rfl))) Via.refl e14 w_open (g := (mkF m 36 #[.val (.ref a1), .val (.long v82), .second, .val (.long (-9223372036854775808 : Int64)), .second, .val (.int (1 : Int32)), .val (.int (0 : Int32)), .val (.int (1 : Int32)), .val (.int (1 : Int32))] [(.ref a1), (.int (1 : Int32))])) rfl rfl (hb hby d5_36)
  have pre17 : ∀ t, Steps p.tables e below (T17.setTop (mkF m 39 #[.val (.ref a1), .val (.long v82), .second, .val (.long (-9223372036854775808 : Int64)), .second, .val (.int (1 : Int32)), .val (.int (0 : Int32)), .val (.int (1 : Int32)), .val (.int (1 : Int32))] [(.int (1 : Int32)), (.int (1 : Int32))])) t → Steps p.tables e below (s₁.setTop (entryFrame m #[(.ref a1)] 9)) t := fun t k => pre16 t (st17 _ k)
  have pre18 : ∀ t, Steps p.tables e below (T17.setTop (mkF m 129 #[.val (.ref a1), .val (.long v82), .second, .val (.long (-9223372036854775808 : Int64)), .second, .val (.int (1 : Int32)), .val (.int (0 : Int32)), .val (.long v82), .second] [(.ref a1), (.long v82)])) t → Steps p.tables e below (s₁.setTop (entryFrame m #[(.ref a1)] 9)) t := by
    intro t k
    refine pre17 t ?_
    refine XS.icmpYes X17.here hx rfl (pc0 := 39) (pc' := 107) rfl (hb hby d5_39) rfl (flt (by decide : ¬ (1 : Int32) < (1 : Int32))).2.1 (by decide) (by decide) ?_
    show Steps p.tables e below (T17.setTop (mkF m 107 #[.val (.ref a1), .val (.long v82), .second, .val (.long (-9223372036854775808 : Int64)), .second, .val (.int (1 : Int32)), .val (.int (0 : Int32)), .val (.int (1 : Int32)), .val (.int (1 : Int32))] [])) _
    refine XS.iload X17.here hx rfl (hb hby d5_107) rfl ?_
    show Steps p.tables e below (T17.setTop (mkF m 109 #[.val (.ref a1), .val (.long v82), .second, .val (.long (-9223372036854775808 : Int64)), .second, .val (.int (1 : Int32)), .val (.int (0 : Int32)), .val (.int (1 : Int32)), .val (.int (1 : Int32))] [(.int (1 : Int32))])) _
    refine XS.ifYes X17.here hx rfl (pc0 := 109) (pc' := 119) rfl (hb hby d5_109) rfl ((if0 _ _).trans (feq (by decide : ¬ (1 : Int32) = (0 : Int32))).2) (by decide) (by decide) ?_
    show Steps p.tables e below (T17.setTop (mkF m 119 #[.val (.ref a1), .val (.long v82), .second, .val (.long (-9223372036854775808 : Int64)), .second, .val (.int (1 : Int32)), .val (.int (0 : Int32)), .val (.int (1 : Int32)), .val (.int (1 : Int32))] [])) _
    refine XS.lloadN X17.here hx rfl (hb hby d5_119) rfl ?_
    show Steps p.tables e below (T17.setTop (mkF m 120 #[.val (.ref a1), .val (.long v82), .second, .val (.long (-9223372036854775808 : Int64)), .second, .val (.int (1 : Int32)), .val (.int (0 : Int32)), .val (.int (1 : Int32)), .val (.int (1 : Int32))] [(.long v82)])) _
    refine XS.goto X17.here hx rfl (pc0 := 120) (pc' := 124) rfl (hb hby d5_120) (by decide) (by decide) ?_
    show Steps p.tables e below (T17.setTop (mkF m 124 #[.val (.ref a1), .val (.long v82), .second, .val (.long (-9223372036854775808 : Int64)), .second, .val (.int (1 : Int32)), .val (.int (0 : Int32)), .val (.int (1 : Int32)), .val (.int (1 : Int32))] [(.long v82)])) _
    refine XS.lstore X17.here hx rfl (hb hby d5_124) rfl (l' := #[.val (.ref a1), .val (.long v82), .second, .val (.long (-9223372036854775808 : Int64)), .second, .val (.int (1 : Int32)), .val (.int (0 : Int32)), .val (.long v82), .second]) rfl ?_
    show Steps p.tables e below (T17.setTop (mkF m 126 #[.val (.ref a1), .val (.long v82), .second, .val (.long (-9223372036854775808 : Int64)), .second, .val (.int (1 : Int32)), .val (.int (0 : Int32)), .val (.long v82), .second] [])) _
    refine XS.lload X17.here hx rfl (hb hby d5_126) rfl ?_
    show Steps p.tables e below (T17.setTop (mkF m 128 #[.val (.ref a1), .val (.long v82), .second, .val (.long (-9223372036854775808 : Int64)), .second, .val (.int (1 : Int32)), .val (.int (0 : Int32)), .val (.long v82), .second] [(.long v82)])) _
    refine XS.aloadN X17.here hx rfl (hb hby d5_128) rfl rfl ?_
    show Steps p.tables e below (T17.setTop (mkF m 129 #[.val (.ref a1), .val (.long v82), .second, .val (.long (-9223372036854775808 : Int64)), .second, .val (.int (1 : Int32)), .val (.int (0 : Int32)), .val (.long v82), .second] [(.ref a1), (.long v82)])) _
    exact k
  obtain ⟨T19, X19, e19, st19⟩ := getF X17 hx hZ hown (host := "") (Or.inl (hw _ (List.mem_of_getElem? (i := 11) rfl))) Via.refl e17 w_lowest (g := (mkF m 129 #[.val (.ref a1), .val (.long v82), .second, .val (.long (-9223372036854775808 : Int64)), .second, .val (.int (1 : Int32)), .val (.int (0 : Int32)), .val (.long v82), .second] [(.ref a1), (.long v82)])) rfl rfl (hb hby d5_129)
  have pre19 : ∀ t, Steps p.tables e below (T19.setTop (mkF m 132 #[.val (.ref a1), .val (.long v82), .second, .val (.long (-9223372036854775808 : Int64)), .second, .val (.int (1 : Int32)), .val (.int (0 : Int32)), .val (.long v82), .second] [(.long lw), (.long v82)])) t → Steps p.tables e below (s₁.setTop (entryFrame m #[(.ref a1)] 9)) t := fun t k => pre18 t (st19 _ k)
  have pre20 : ∀ t, Steps p.tables e below (T19.setTop (mkF m 133 #[.val (.ref a1), .val (.long v82), .second, .val (.long (-9223372036854775808 : Int64)), .second, .val (.int (1 : Int32)), .val (.int (0 : Int32)), .val (.long v82), .second] [(.int (lcmpW v82 lw))])) t → Steps p.tables e below (s₁.setTop (entryFrame m #[(.ref a1)] 9)) t := by
    intro t k
    refine pre19 t ?_
    refine XS.lcmp X19.here hx rfl (hb hby d5_132) rfl ?_
    show Steps p.tables e below (T19.setTop (mkF m 133 #[.val (.ref a1), .val (.long v82), .second, .val (.long (-9223372036854775808 : Int64)), .second, .val (.int (1 : Int32)), .val (.int (0 : Int32)), .val (.long v82), .second] [(.int (lcmpW v82 lw))])) _
    exact k
  by_cases hc133 : lw < v82
  · have pre21 : ∀ t, Steps p.tables e below (T19.setTop (mkF m 141 #[.val (.ref a1), .val (.long v82), .second, .val (.long (-9223372036854775808 : Int64)), .second, .val (.int (1 : Int32)), .val (.int (0 : Int32)), .val (.long v82), .second] [(.long v82), (.ref a1)])) t → Steps p.tables e below (s₁.setTop (entryFrame m #[(.ref a1)] 9)) t := by
      intro t k
      refine pre20 t ?_
      refine XS.ifYes X19.here hx rfl (pc0 := 133) (pc' := 138) rfl (hb hby d5_133) rfl (own_Tgt hc133).1 (by decide) (by decide) ?_
      show Steps p.tables e below (T19.setTop (mkF m 138 #[.val (.ref a1), .val (.long v82), .second, .val (.long (-9223372036854775808 : Int64)), .second, .val (.int (1 : Int32)), .val (.int (0 : Int32)), .val (.long v82), .second] [])) _
      refine XS.aloadN X19.here hx rfl (hb hby d5_138) rfl rfl ?_
      show Steps p.tables e below (T19.setTop (mkF m 139 #[.val (.ref a1), .val (.long v82), .second, .val (.long (-9223372036854775808 : Int64)), .second, .val (.int (1 : Int32)), .val (.int (0 : Int32)), .val (.long v82), .second] [(.ref a1)])) _
      refine XS.lload X19.here hx rfl (hb hby d5_139) rfl ?_
      show Steps p.tables e below (T19.setTop (mkF m 141 #[.val (.ref a1), .val (.long v82), .second, .val (.long (-9223372036854775808 : Int64)), .second, .val (.int (1 : Int32)), .val (.int (0 : Int32)), .val (.long v82), .second] [(.long v82), (.ref a1)])) _
      exact k
    obtain ⟨T22, h22, X22, e22, W22, st22⟩ := putF X19 hx hZ hown (host := "") (Or.inl (hw _ (List.mem_of_getElem? (i := 11) rfl))) Via.refl e19 w_lowest w_e (Or.inl (hw _ (List.mem_of_getElem? (i := 12) rfl))) (hw _ (List.mem_of_getElem? (i := 2) rfl)) (ty := .long) (by decide) rfl rfl (g := (mkF m 141 #[.val (.ref a1), .val (.long v82), .second, .val (.long (-9223372036854775808 : Int64)), .second, .val (.int (1 : Int32)), .val (.int (0 : Int32)), .val (.long v82), .second] [(.long v82), (.ref a1)])) rfl rfl (hb hby d5_141)
    have F22_0 := w_lowest.same W22
    have F22_1 := w_marks.other W22 (Or.inr (slot_ne (Or.inl (hw _ (List.mem_of_getElem? (i := 15) rfl))) (Or.inl (hw _ (List.mem_of_getElem? (i := 12) rfl))) (by decide) (t := (.array .long)) (t' := .long) (by decide) (by decide)))
    have F22_2 := w_states.other W22 (Or.inr (slot_ne (Or.inl (hw _ (List.mem_of_getElem? (i := 18) rfl))) (Or.inl (hw _ (List.mem_of_getElem? (i := 12) rfl))) (by decide) (t := (.array .byte)) (t' := .long) (by decide) (by decide)))
    have F22_3 := w_live.other W22 (Or.inr (slot_ne (Or.inl (hw _ (List.mem_of_getElem? (i := 21) rfl))) (Or.inl (hw _ (List.mem_of_getElem? (i := 12) rfl))) (by decide) (t := (.array .int)) (t' := .long) (by decide) (by decide)))
    have F22_4 := w_open.other W22 (Or.inr (slot_ne (Or.inl (hw _ (List.mem_of_getElem? (i := 27) rfl))) (Or.inl (hw _ (List.mem_of_getElem? (i := 12) rfl))) (by decide) (t := .int) (t' := .long) (by decide) (by decide)))
    have F22_5 := w_e.wr W22
    have F22_6 := w_am.other W22 (Ne.symm w_1)
    have F22_7 := w_as.other W22 (Ne.symm w_2)
    have F22_8 := w_al.other W22 (Ne.symm w_3)
    have Z22 : n0 ≤ h22.size := Nat.le_trans Z0 (Keep.of_wr W22).1
    have N22 := Fr.snoc X22 N14 w_ga
    have pre22 : ∀ t, Steps p.tables e below (T22.setTop (mkF m 144 #[.val (.ref a1), .val (.long v82), .second, .val (.long (-9223372036854775808 : Int64)), .second, .val (.int (1 : Int32)), .val (.int (0 : Int32)), .val (.long v82), .second] [])) t → Steps p.tables e below (s₁.setTop (entryFrame m #[(.ref a1)] 9)) t := fun t k => pre21 t (st22 _ k)
    have pre23 : ∀ t, Steps p.tables e below (T22.setTop (mkF m 145 #[.val (.ref a1), .val (.long v82), .second, .val (.long (-9223372036854775808 : Int64)), .second, .val (.int (1 : Int32)), .val (.int (0 : Int32)), .val (.long v82), .second] [(.int (1 : Int32))])) t → Steps p.tables e below (s₁.setTop (entryFrame m #[(.ref a1)] 9)) t := by
      intro t k
      refine pre22 t ?_
      refine XS.iconst X22.here hx rfl (hb hby d5_144) ?_
      show Steps p.tables e below (T22.setTop (mkF m 145 #[.val (.ref a1), .val (.long v82), .second, .val (.long (-9223372036854775808 : Int64)), .second, .val (.int (1 : Int32)), .val (.int (0 : Int32)), .val (.long v82), .second] [(.int (1 : Int32))])) _
      exact k
    obtain ⟨fs, hr, hrun, hended, hW, hsame⟩ := X22.leave (v := some (.int (nar .boolean (1 : Int32)))) (fun h => by rw [Bd.returns] at h; cases h)
    refine ⟨_, _, pre23 _ ?_, hrun, hended, _, _, rfl, ?_, ⟨_, rfl⟩, hW, hsame.mono (by decide) (by decide)⟩
    · show Steps p.tables e below (T22.setTop (mkF m 145 #[.val (.ref a1), .val (.long v82), .second, .val (.long (-9223372036854775808 : Int64)), .second, .val (.int (1 : Int32)), .val (.int (0 : Int32)), .val (.long v82), .second] [(.int (1 : Int32))])) _
      exact retN X22 hx (t := .boolean) Bd.returns (by simp) (hb hby d5_145) hr
    · show QrC Z a1 bm bs bl m0 m1 lw l1 h0 n0 _ T22.heap _
      rw [e22]
      have hfn : fnrC m0 m1 lw = ((nar .boolean (1 : Int32)), m0, m1, v82) := by
        subst hv82
        simp only [fnrC, if_pos hc133]
      unfold QrC
      rw [hfn]
      exact ⟨rfl, N22, ⟨F22_5, F22_0, F22_1, F22_2, F22_3, F22_4, F22_6, F22_7, F22_8, w_ga, w_gm, w_gs, w_gl, w_1, w_2, w_3, w_4, w_5, w_6⟩⟩
  · have pre24 : ∀ t, Steps p.tables e below (T19.setTop (mkF m 137 #[.val (.ref a1), .val (.long v82), .second, .val (.long (-9223372036854775808 : Int64)), .second, .val (.int (1 : Int32)), .val (.int (0 : Int32)), .val (.long v82), .second] [(.int (0 : Int32))])) t → Steps p.tables e below (s₁.setTop (entryFrame m #[(.ref a1)] 9)) t := by
      intro t k
      refine pre20 t ?_
      refine XS.ifNo X19.here hx rfl (hb hby d5_133) rfl (own_Fgt hc133).1 ?_
      show Steps p.tables e below (T19.setTop (mkF m 136 #[.val (.ref a1), .val (.long v82), .second, .val (.long (-9223372036854775808 : Int64)), .second, .val (.int (1 : Int32)), .val (.int (0 : Int32)), .val (.long v82), .second] [])) _
      refine XS.iconst X19.here hx rfl (hb hby d5_136) ?_
      show Steps p.tables e below (T19.setTop (mkF m 137 #[.val (.ref a1), .val (.long v82), .second, .val (.long (-9223372036854775808 : Int64)), .second, .val (.int (1 : Int32)), .val (.int (0 : Int32)), .val (.long v82), .second] [(.int (0 : Int32))])) _
      exact k
    obtain ⟨fs, hr, hrun, hended, hW, hsame⟩ := X19.leave (v := some (.int (nar .boolean (0 : Int32)))) (fun h => by rw [Bd.returns] at h; cases h)
    refine ⟨_, _, pre24 _ ?_, hrun, hended, _, _, rfl, ?_, ⟨_, rfl⟩, hW, hsame.mono (by decide) (by decide)⟩
    · show Steps p.tables e below (T19.setTop (mkF m 137 #[.val (.ref a1), .val (.long v82), .second, .val (.long (-9223372036854775808 : Int64)), .second, .val (.int (1 : Int32)), .val (.int (0 : Int32)), .val (.long v82), .second] [(.int (0 : Int32))])) _
      exact retN X19 hx (t := .boolean) Bd.returns (by simp) (hb hby d5_137) hr
    · show QrC Z a1 bm bs bl m0 m1 lw l1 h0 n0 _ T19.heap _
      rw [e19]
      have hfn : fnrC m0 m1 lw = ((nar .boolean (0 : Int32)), m0, m1, lw) := by
        subst hv82
        simp only [fnrC, if_neg hc133]
      unfold QrC
      rw [hfn]
      exact ⟨rfl, N14, ⟨w_e, w_lowest, w_marks, w_states, w_live, w_open, w_am, w_as, w_al, w_ga, w_gm, w_gs, w_gl, w_1, w_2, w_3, w_4, w_5, w_6⟩⟩
/-! body 5: rise -/
theorem pdrD_0 : parseMethodDescriptor "(JJ)J" = some ⟨[.long, .long], some .long⟩ := by decide +kernel
theorem pnrD : plainName "sluice/stream/Watermarks" = true := by first | (simp [plainName, overriddenIn]; done) | decide +kernel
theorem efrD (m : MethodId) (a1 : Addr) : entryFrame m #[(.ref a1)] 9 = mkF m 0 #[.val (.ref a1), .unset, .unset, .unset, .unset, .unset, .unset, .unset, .unset] [] := by first | (simp [entryFrame, mkF, argsToLocals, Value.category]; done) | rfl
def fnrD (m0 m1 lw : Int64) : Int32 × Int64 × Int64 × Int64 :=
  let v82 : Int64 := (fn6 (9223372036854775807 : Int64) m0)
  if lw < v82 then
    ((nar .boolean (1 : Int32)), m0, m1, v82)
  else
    ((nar .boolean (0 : Int32)), m0, m1, lw)
def QrD (Z : State) (a1 : Addr) (bm bs bl : Addr) (m0 m1 lw : Int64) (l1 : Int32) (h0 : Heap) (n0 : Nat) (v : Option Value) (h : Heap) (L : List Loc) : Prop := v = some (.int (fnrD m0 m1 lw).1) ∧ Fr n0 L ∧ own_W Z h n0 a1 bm bs bl (fnrD m0 m1 lw).2.1 (fnrD m0 m1 lw).2.2.1 (fnrD m0 m1 lw).2.2.2 (0 : Int32) (2 : Int32) (0 : Int32) l1 (1 : Int32)
set_option maxRecDepth 65536 in
set_option maxHeartbeats 40000000 in
theorem rmrD (l : Launch) (Z : State) (a0 : Array Value) (hw : ∀ d ∈ tables_1, d.before a0 Z = true) (ws : List Jvm.Cond) (a1 : Addr) (bm bs bl : Addr) (m0 m1 lw : Int64) (l1 : Int32) (h0 : Heap) (n0 : Nat) (Z0 : n0 ≤ h0.size) (I0 : own_W Z h0 n0 a1 bm bs bl m0 m1 lw (0 : Int32) (2 : Int32) (0 : Int32) l1 (1 : Int32)) :
    MetFree l (⟨"sluice/stream/Watermarks", "rise", "()Z"⟩ : MethodName) (head1 (Jvm.Cond.code (⟨"sluice/stream/Watermarks", "rise", "()Z"⟩ : MethodName) prog_183_method_13_code 9 (some .boolean) :: ws) ({ frames := 1, cells := 0, slots := 0, locals := 15 } : Room)) (fun a U => a = #[(.ref a1)] ∧ Z.Warmed39 U.vm ∧ U.heap = h0) (fun _ _ _ _ _ => True) (fun _ U o U' => ∃ v L, o = .returned v ∧ QrD Z a1 bm bs bl m0 m1 lw l1 h0 n0 v U'.heap L ∧ FrameEnd U o U' L ({ frames := 1, cells := 0, slots := 0, locals := 15 } : Room).cells ({ frames := 1, cells := 0, slots := 0, locals := 15 } : Room).slots) := by
  refine MetFree.of_bodySF (plainFor_of_name pnrD) hisR ?_
  intro p e s m args below meth c s₁ Bd hml0 hP hK
  obtain ⟨rfl, hZ, hh⟩ := hP
  have hx := Bd.exec
  have hby := Bd.bytes
  have hml : c.maxLocals = 9 := hml0
  have hown : s.vm.findClass "sluice/stream/Watermarks" = some m.cls := findClass_of_methodNamed Bd.named
  have hnm := (name_of_methodNamed Bd.named Bd.method).1
  have X0 : Stand p l e ({ frames := 1, cells := 0, slots := 0, locals := 15 } : Room) s m #[(.ref a1)] below meth c s₁ [] 0 0 := Stand.of_body Bd
  have e0 : s₁.heap = h0 := by rw [← hh, Bd.state]; rfl
  have N0 := Fr.nil n0
  have pre0 : ∀ t, Steps p.tables e below (s₁.setTop (mkF m 0 #[.val (.ref a1), .unset, .unset, .unset, .unset, .unset, .unset, .unset, .unset] [])) t → Steps p.tables e below (s₁.setTop (entryFrame m #[(.ref a1)] 9)) t := fun t k => castTop (efrD m a1) k
  obtain ⟨w_e, w_lowest, w_marks, w_states, w_live, w_open, w_am, w_as, w_al, w_ga, w_gm, w_gs, w_gl, w_1, w_2, w_3, w_4, w_5, w_6⟩ := I0
  have pre1 : ∀ t, Steps p.tables e below (s₁.setTop (mkF m 12 #[.val (.ref a1), .val (.long (9223372036854775807 : Int64)), .second, .val (.long (-9223372036854775808 : Int64)), .second, .val (.int (0 : Int32)), .unset, .unset, .unset] [(.ref a1)])) t → Steps p.tables e below (s₁.setTop (entryFrame m #[(.ref a1)] 9)) t := by
    intro t k
    refine pre0 t ?_
    show Steps p.tables e below (s₁.setTop (mkF m 0 #[.val (.ref a1), .unset, .unset, .unset, .unset, .unset, .unset, .unset, .unset] [])) _
    refine X0.ldc2Long hx hown (mvT hZ (hw _ (List.mem_of_getElem? (i := 37) rfl))) (g := (mkF m 0 #[.val (.ref a1), .unset, .unset, .unset, .unset, .unset, .unset, .unset, .unset] [])) rfl (hb hby d5_0) _ ?_
    show Steps p.tables e below (s₁.setTop (mkF m 3 #[.val (.ref a1), .unset, .unset, .unset, .unset, .unset, .unset, .unset, .unset] [(.long (9223372036854775807 : Int64))])) _
    refine XS.lstoreN X0.here hx rfl (hb hby d5_3) rfl (l' := #[.val (.ref a1), .val (.long (9223372036854775807 : Int64)), .second, .unset, .unset, .unset, .unset, .unset, .unset]) rfl ?_
    show Steps p.tables e below (s₁.setTop (mkF m 4 #[.val (.ref a1), .val (.long (9223372036854775807 : Int64)), .second, .unset, .unset, .unset, .unset, .unset, .unset] [])) _
    refine X0.ldc2Long hx hown (mvT hZ (hw _ (List.mem_of_getElem? (i := 10) rfl))) (g := (mkF m 4 #[.val (.ref a1), .val (.long (9223372036854775807 : Int64)), .second, .unset, .unset, .unset, .unset, .unset, .unset] [])) rfl (hb hby d5_4) _ ?_
    show Steps p.tables e below (s₁.setTop (mkF m 7 #[.val (.ref a1), .val (.long (9223372036854775807 : Int64)), .second, .unset, .unset, .unset, .unset, .unset, .unset] [(.long (-9223372036854775808 : Int64))])) _
    refine XS.lstoreN X0.here hx rfl (hb hby d5_7) rfl (l' := #[.val (.ref a1), .val (.long (9223372036854775807 : Int64)), .second, .val (.long (-9223372036854775808 : Int64)), .second, .unset, .unset, .unset, .unset]) rfl ?_
    show Steps p.tables e below (s₁.setTop (mkF m 8 #[.val (.ref a1), .val (.long (9223372036854775807 : Int64)), .second, .val (.long (-9223372036854775808 : Int64)), .second, .unset, .unset, .unset, .unset] [])) _
    refine XS.iconst X0.here hx rfl (hb hby d5_8) ?_
    show Steps p.tables e below (s₁.setTop (mkF m 9 #[.val (.ref a1), .val (.long (9223372036854775807 : Int64)), .second, .val (.long (-9223372036854775808 : Int64)), .second, .unset, .unset, .unset, .unset] [(.int (0 : Int32))])) _
    refine XS.istore X0.here hx rfl (hb hby d5_9) rfl (l' := #[.val (.ref a1), .val (.long (9223372036854775807 : Int64)), .second, .val (.long (-9223372036854775808 : Int64)), .second, .val (.int (0 : Int32)), .unset, .unset, .unset]) rfl ?_
    show Steps p.tables e below (s₁.setTop (mkF m 11 #[.val (.ref a1), .val (.long (9223372036854775807 : Int64)), .second, .val (.long (-9223372036854775808 : Int64)), .second, .val (.int (0 : Int32)), .unset, .unset, .unset] [])) _
    refine XS.aloadN X0.here hx rfl (hb hby d5_11) rfl rfl ?_
    show Steps p.tables e below (s₁.setTop (mkF m 12 #[.val (.ref a1), .val (.long (9223372036854775807 : Int64)), .second, .val (.long (-9223372036854775808 : Int64)), .second, .val (.int (0 : Int32)), .unset, .unset, .unset] [(.ref a1)])) _
    exact k
  obtain ⟨T2, X2, e2, st2⟩ := getF X0 hx hZ hown (host := "") (Or.inl (hw _ (List.mem_of_getElem? (i := 26) rfl))) Via.refl e0 w_open (g := (mkF m 12 #[.val (.ref a1), .val (.long (9223372036854775807 : Int64)), .second, .val (.long (-9223372036854775808 : Int64)), .second, .val (.int (0 : Int32)), .unset, .unset, .unset] [(.ref a1)])) rfl rfl (hb hby d5_12)
  have pre2 : ∀ t, Steps p.tables e below (T2.setTop (mkF m 15 #[.val (.ref a1), .val (.long (9223372036854775807 : Int64)), .second, .val (.long (-9223372036854775808 : Int64)), .second, .val (.int (0 : Int32)), .unset, .unset, .unset] [(.int (1 : Int32))])) t → Steps p.tables e below (s₁.setTop (entryFrame m #[(.ref a1)] 9)) t := fun t k => pre1 t (st2 _ k)
  have pre3 : ∀ t, Steps p.tables e below (T2.setTop (mkF m 16 #[.val (.ref a1), .val (.long (9223372036854775807 : Int64)), .second, .val (.long (-9223372036854775808 : Int64)), .second, .val (.int (0 : Int32)), .unset, .unset, .unset] [(.ref a1), (.int (1 : Int32))])) t → Steps p.tables e below (s₁.setTop (entryFrame m #[(.ref a1)] 9)) t := by
    intro t k
    refine pre2 t ?_
    refine XS.aloadN X2.here hx rfl (hb hby d5_15) rfl rfl ?_
    show Steps p.tables e below (T2.setTop (mkF m 16 #[.val (.ref a1), .val (.long (9223372036854775807 : Int64)), .second, .val (.long (-9223372036854775808 : Int64)), .second, .val (.int (0 : Int32)), .unset, .unset, .unset] [(.ref a1), (.int (1 : Int32))])) _
    exact k
  obtain ⟨T4, X4, e4, st4⟩ := getF X2 hx hZ hown (host := "") (Or.inl (hw _ (List.mem_of_getElem? (i := 14) rfl))) Via.refl e2 w_marks (g := (mkF m 16 #[.val (.ref a1), .val (.long (9223372036854775807 : Int64)), .second, .val (.long (-9223372036854775808 : Int64)), .second, .val (.int (0 : Int32)), .unset, .unset, .unset] [(.ref a1), (.int (1 : Int32))])) rfl rfl (hb hby d5_16)
  have pre4 : ∀ t, Steps p.tables e below (T4.setTop (mkF m 19 #[.val (.ref a1), .val (.long (9223372036854775807 : Int64)), .second, .val (.long (-9223372036854775808 : Int64)), .second, .val (.int (0 : Int32)), .unset, .unset, .unset] [(.ref bm), (.int (1 : Int32))])) t → Steps p.tables e below (s₁.setTop (entryFrame m #[(.ref a1)] 9)) t := fun t k => pre3 t (st4 _ k)
  have pre5 : ∀ t, Steps p.tables e below (T4.setTop (mkF m 36 #[.val (.ref a1), .val (.long (9223372036854775807 : Int64)), .second, .val (.long (-9223372036854775808 : Int64)), .second, .val (.int (0 : Int32)), .val (.int (0 : Int32)), .val (.int (0 : Int32)), .unset] [(.ref a1), (.int (0 : Int32))])) t → Steps p.tables e below (s₁.setTop (entryFrame m #[(.ref a1)] 9)) t := by
    intro t k
    refine pre4 t ?_
    refine own_lenJ X4 hx hZ e4 w_am (g := (mkF m 19 #[.val (.ref a1), .val (.long (9223372036854775807 : Int64)), .second, .val (.long (-9223372036854775808 : Int64)), .second, .val (.int (0 : Int32)), .unset, .unset, .unset] [(.ref bm), (.int (1 : Int32))])) rfl rfl (hb hby d5_19) _ ?_
    show Steps p.tables e below (T4.setTop (mkF m 20 #[.val (.ref a1), .val (.long (9223372036854775807 : Int64)), .second, .val (.long (-9223372036854775808 : Int64)), .second, .val (.int (0 : Int32)), .unset, .unset, .unset] [(.int (2 : Int32)), (.int (1 : Int32))])) _
    refine XS.icmpYes X4.here hx rfl (pc0 := 20) (pc' := 27) rfl (hb hby d5_20) rfl (feq (by decide : ¬ (1 : Int32) = (2 : Int32))).2 (by decide) (by decide) ?_
    show Steps p.tables e below (T4.setTop (mkF m 27 #[.val (.ref a1), .val (.long (9223372036854775807 : Int64)), .second, .val (.long (-9223372036854775808 : Int64)), .second, .val (.int (0 : Int32)), .unset, .unset, .unset] [])) _
    refine XS.iconst X4.here hx rfl (hb hby d5_27) ?_
    show Steps p.tables e below (T4.setTop (mkF m 28 #[.val (.ref a1), .val (.long (9223372036854775807 : Int64)), .second, .val (.long (-9223372036854775808 : Int64)), .second, .val (.int (0 : Int32)), .unset, .unset, .unset] [(.int (0 : Int32))])) _
    refine XS.istore X4.here hx rfl (hb hby d5_28) rfl (l' := #[.val (.ref a1), .val (.long (9223372036854775807 : Int64)), .second, .val (.long (-9223372036854775808 : Int64)), .second, .val (.int (0 : Int32)), .val (.int (0 : Int32)), .unset, .unset]) rfl ?_
    show Steps p.tables e below (T4.setTop (mkF m 30 #[.val (.ref a1), .val (.long (9223372036854775807 : Int64)), .second, .val (.long (-9223372036854775808 : Int64)), .second, .val (.int (0 : Int32)), .val (.int (0 : Int32)), .unset, .unset] [])) _
    refine XS.iconst X4.here hx rfl (hb hby d5_30) ?_
    show Steps p.tables e below (T4.setTop (mkF m 31 #[.val (.ref a1), .val (.long (9223372036854775807 : Int64)), .second, .val (.long (-9223372036854775808 : Int64)), .second, .val (.int (0 : Int32)), .val (.int (0 : Int32)), .unset, .unset] [(.int (0 : Int32))])) _
    refine XS.istore X4.here hx rfl (hb hby d5_31) rfl (l' := #[.val (.ref a1), .val (.long (9223372036854775807 : Int64)), .second, .val (.long (-9223372036854775808 : Int64)), .second, .val (.int (0 : Int32)), .val (.int (0 : Int32)), .val (.int (0 : Int32)), .unset]) rfl ?_
    show Steps p.tables e below (T4.setTop (mkF m 33 #[.val (.ref a1), .val (.long (9223372036854775807 : Int64)), .second, .val (.long (-9223372036854775808 : Int64)), .second, .val (.int (0 : Int32)), .val (.int (0 : Int32)), .val (.int (0 : Int32)), .unset] [])) _
    refine XS.iload X4.here hx rfl (hb hby d5_33) rfl ?_
    show Steps p.tables e below (T4.setTop (mkF m 35 #[.val (.ref a1), .val (.long (9223372036854775807 : Int64)), .second, .val (.long (-9223372036854775808 : Int64)), .second, .val (.int (0 : Int32)), .val (.int (0 : Int32)), .val (.int (0 : Int32)), .unset] [(.int (0 : Int32))])) _
    refine XS.aloadN X4.here hx rfl (hb hby d5_35) rfl rfl ?_
    show Steps p.tables e below (T4.setTop (mkF m 36 #[.val (.ref a1), .val (.long (9223372036854775807 : Int64)), .second, .val (.long (-9223372036854775808 : Int64)), .second, .val (.int (0 : Int32)), .val (.int (0 : Int32)), .val (.int (0 : Int32)), .unset] [(.ref a1), (.int (0 : Int32))])) _
    exact k
  obtain ⟨T6, X6, e6, st6⟩ := getF X4 hx hZ hown (host := "") (Or.inl (hw _ (List.mem_of_getElem? (i := 26) rfl))) Via.refl e4 w_open (g := (mkF m 36 #[.val (.ref a1), .val (.long (9223372036854775807 : Int64)), .second, .val (.long (-9223372036854775808 : Int64)), .second, .val (.int (0 : Int32)), .val (.int (0 : Int32)), .val (.int (0 : Int32)), .unset] [(.ref a1), (.int (0 : Int32))])) rfl rfl (hb hby d5_36)
  have pre6 : ∀ t, Steps p.tables e below (T6.setTop (mkF m 39 #[.val (.ref a1), .val (.long (9223372036854775807 : Int64)), .second, .val (.long (-9223372036854775808 : Int64)), .second, .val (.int (0 : Int32)), .val (.int (0 : Int32)), .val (.int (0 : Int32)), .unset] [(.int (1 : Int32)), (.int (0 : Int32))])) t → Steps p.tables e below (s₁.setTop (entryFrame m #[(.ref a1)] 9)) t := fun t k => pre5 t (st6 _ k)
  have pre7 : ∀ t, Steps p.tables e below (T6.setTop (mkF m 53 #[.val (.ref a1), .val (.long (9223372036854775807 : Int64)), .second, .val (.long (-9223372036854775808 : Int64)), .second, .val (.int (0 : Int32)), .val (.int (0 : Int32)), .val (.int (0 : Int32)), .unset] [(.ref a1)])) t → Steps p.tables e below (s₁.setTop (entryFrame m #[(.ref a1)] 9)) t := by
    intro t k
    refine pre6 t ?_
    refine XS.icmpNo X6.here hx rfl (hb hby d5_39) rfl (tlt (by decide : (0 : Int32) < (1 : Int32))).2.1 ?_
    show Steps p.tables e below (T6.setTop (mkF m 42 #[.val (.ref a1), .val (.long (9223372036854775807 : Int64)), .second, .val (.long (-9223372036854775808 : Int64)), .second, .val (.int (0 : Int32)), .val (.int (0 : Int32)), .val (.int (0 : Int32)), .unset] [])) _
    refine XS.iload X6.here hx rfl (hb hby d5_42) rfl ?_
    show Steps p.tables e below (T6.setTop (mkF m 44 #[.val (.ref a1), .val (.long (9223372036854775807 : Int64)), .second, .val (.long (-9223372036854775808 : Int64)), .second, .val (.int (0 : Int32)), .val (.int (0 : Int32)), .val (.int (0 : Int32)), .unset] [(.int (0 : Int32))])) _
    refine XS.ifYes X6.here hx rfl (pc0 := 44) (pc' := 52) rfl (hb hby d5_44) rfl ((if0 _ _).trans (teq (by decide : (0 : Int32) = (0 : Int32))).1) (by decide) (by decide) ?_
    show Steps p.tables e below (T6.setTop (mkF m 52 #[.val (.ref a1), .val (.long (9223372036854775807 : Int64)), .second, .val (.long (-9223372036854775808 : Int64)), .second, .val (.int (0 : Int32)), .val (.int (0 : Int32)), .val (.int (0 : Int32)), .unset] [])) _
    refine XS.aloadN X6.here hx rfl (hb hby d5_52) rfl rfl ?_
    show Steps p.tables e below (T6.setTop (mkF m 53 #[.val (.ref a1), .val (.long (9223372036854775807 : Int64)), .second, .val (.long (-9223372036854775808 : Int64)), .second, .val (.int (0 : Int32)), .val (.int (0 : Int32)), .val (.int (0 : Int32)), .unset] [(.ref a1)])) _
    exact k
  obtain ⟨T8, X8, e8, st8⟩ := getF X6 hx hZ hown (host := "") (Or.inl (hw _ (List.mem_of_getElem? (i := 20) rfl))) Via.refl e6 w_live (g := (mkF m 53 #[.val (.ref a1), .val (.long (9223372036854775807 : Int64)), .second, .val (.long (-9223372036854775808 : Int64)), .second, .val (.int (0 : Int32)), .val (.int (0 : Int32)), .val (.int (0 : Int32)), .unset] [(.ref a1)])) rfl rfl (hb hby d5_53)
  have pre8 : ∀ t, Steps p.tables e below (T8.setTop (mkF m 56 #[.val (.ref a1), .val (.long (9223372036854775807 : Int64)), .second, .val (.long (-9223372036854775808 : Int64)), .second, .val (.int (0 : Int32)), .val (.int (0 : Int32)), .val (.int (0 : Int32)), .unset] [(.ref bl)])) t → Steps p.tables e below (s₁.setTop (entryFrame m #[(.ref a1)] 9)) t := fun t k => pre7 t (st8 _ k)
  have pre9 : ∀ t, Steps p.tables e below (T8.setTop (mkF m 62 #[.val (.ref a1), .val (.long (9223372036854775807 : Int64)), .second, .val (.long (-9223372036854775808 : Int64)), .second, .val (.int (0 : Int32)), .val (.int (0 : Int32)), .val (.int (0 : Int32)), .val (.int (0 : Int32))] [(.ref a1)])) t → Steps p.tables e below (s₁.setTop (entryFrame m #[(.ref a1)] 9)) t := by
    intro t k
    refine pre8 t ?_
    refine XS.iload X8.here hx rfl (hb hby d5_56) rfl ?_
    show Steps p.tables e below (T8.setTop (mkF m 58 #[.val (.ref a1), .val (.long (9223372036854775807 : Int64)), .second, .val (.long (-9223372036854775808 : Int64)), .second, .val (.int (0 : Int32)), .val (.int (0 : Int32)), .val (.int (0 : Int32)), .unset] [(.int (0 : Int32)), (.ref bl)])) _
    refine own_ldI X8 hx hZ e8 w_al (by decide) (by decide) (g := (mkF m 58 #[.val (.ref a1), .val (.long (9223372036854775807 : Int64)), .second, .val (.long (-9223372036854775808 : Int64)), .second, .val (.int (0 : Int32)), .val (.int (0 : Int32)), .val (.int (0 : Int32)), .unset] [(.int (0 : Int32)), (.ref bl)])) rfl rfl (hb hby d5_58) _ ?_
    show Steps p.tables e below (T8.setTop (mkF m 59 #[.val (.ref a1), .val (.long (9223372036854775807 : Int64)), .second, .val (.long (-9223372036854775808 : Int64)), .second, .val (.int (0 : Int32)), .val (.int (0 : Int32)), .val (.int (0 : Int32)), .unset] [(.int (0 : Int32))])) _
    refine XS.istore X8.here hx rfl (hb hby d5_59) rfl (l' := #[.val (.ref a1), .val (.long (9223372036854775807 : Int64)), .second, .val (.long (-9223372036854775808 : Int64)), .second, .val (.int (0 : Int32)), .val (.int (0 : Int32)), .val (.int (0 : Int32)), .val (.int (0 : Int32))]) rfl ?_
    show Steps p.tables e below (T8.setTop (mkF m 61 #[.val (.ref a1), .val (.long (9223372036854775807 : Int64)), .second, .val (.long (-9223372036854775808 : Int64)), .second, .val (.int (0 : Int32)), .val (.int (0 : Int32)), .val (.int (0 : Int32)), .val (.int (0 : Int32))] [])) _
    refine XS.aloadN X8.here hx rfl (hb hby d5_61) rfl rfl ?_
    show Steps p.tables e below (T8.setTop (mkF m 62 #[.val (.ref a1), .val (.long (9223372036854775807 : Int64)), .second, .val (.long (-9223372036854775808 : Int64)), .second, .val (.int (0 : Int32)), .val (.int (0 : Int32)), .val (.int (0 : Int32)), .val (.int (0 : Int32))] [(.ref a1)])) _
    exact k
  obtain ⟨T10, X10, e10, st10⟩ := getF X8 hx hZ hown (host := "") (Or.inl (hw _ (List.mem_of_getElem? (i := 17) rfl))) Via.refl e8 w_states (g := (mkF m 62 #[.val (.ref a1), .val (.long (9223372036854775807 : Int64)), .second, .val (.long (-9223372036854775808 : Int64)), .second, .val (.int (0 : Int32)), .val (.int (0 : Int32)), .val (.int (0 : Int32)), .val (.int (0 : Int32))] [(.ref a1)])) rfl rfl (hb hby d5_62)
  have pre10 : ∀ t, Steps p.tables e below (T10.setTop (mkF m 65 #[.val (.ref a1), .val (.long (9223372036854775807 : Int64)), .second, .val (.long (-9223372036854775808 : Int64)), .second, .val (.int (0 : Int32)), .val (.int (0 : Int32)), .val (.int (0 : Int32)), .val (.int (0 : Int32))] [(.ref bs)])) t → Steps p.tables e below (s₁.setTop (entryFrame m #[(.ref a1)] 9)) t := fun t k => pre9 t (st10 _ k)
  have pre11 : ∀ t, Steps p.tables e below (T10.setTop (mkF m 73 #[.val (.ref a1), .val (.long (9223372036854775807 : Int64)), .second, .val (.long (-9223372036854775808 : Int64)), .second, .val (.int (0 : Int32)), .val (.int (0 : Int32)), .val (.int (0 : Int32)), .val (.int (0 : Int32))] [(.ref a1), (.long (9223372036854775807 : Int64))])) t → Steps p.tables e below (s₁.setTop (entryFrame m #[(.ref a1)] 9)) t := by
    intro t k
    refine pre10 t ?_
    refine XS.iload X10.here hx rfl (hb hby d5_65) rfl ?_
    show Steps p.tables e below (T10.setTop (mkF m 67 #[.val (.ref a1), .val (.long (9223372036854775807 : Int64)), .second, .val (.long (-9223372036854775808 : Int64)), .second, .val (.int (0 : Int32)), .val (.int (0 : Int32)), .val (.int (0 : Int32)), .val (.int (0 : Int32))] [(.int (0 : Int32)), (.ref bs)])) _
    refine own_ldB X10 hx hZ e10 w_as (by decide) (by decide) (g := (mkF m 67 #[.val (.ref a1), .val (.long (9223372036854775807 : Int64)), .second, .val (.long (-9223372036854775808 : Int64)), .second, .val (.int (0 : Int32)), .val (.int (0 : Int32)), .val (.int (0 : Int32)), .val (.int (0 : Int32))] [(.int (0 : Int32)), (.ref bs)])) rfl rfl (hb hby d5_67) _ ?_
    show Steps p.tables e below (T10.setTop (mkF m 68 #[.val (.ref a1), .val (.long (9223372036854775807 : Int64)), .second, .val (.long (-9223372036854775808 : Int64)), .second, .val (.int (0 : Int32)), .val (.int (0 : Int32)), .val (.int (0 : Int32)), .val (.int (0 : Int32))] [(.int (0 : Int32))])) _
    refine XS.ifNo X10.here hx rfl (hb hby d5_68) rfl ((if0 _ _).trans (teq (by decide : (0 : Int32) = (0 : Int32))).2) ?_
    show Steps p.tables e below (T10.setTop (mkF m 71 #[.val (.ref a1), .val (.long (9223372036854775807 : Int64)), .second, .val (.long (-9223372036854775808 : Int64)), .second, .val (.int (0 : Int32)), .val (.int (0 : Int32)), .val (.int (0 : Int32)), .val (.int (0 : Int32))] [])) _
    refine XS.lloadN X10.here hx rfl (hb hby d5_71) rfl ?_
    show Steps p.tables e below (T10.setTop (mkF m 72 #[.val (.ref a1), .val (.long (9223372036854775807 : Int64)), .second, .val (.long (-9223372036854775808 : Int64)), .second, .val (.int (0 : Int32)), .val (.int (0 : Int32)), .val (.int (0 : Int32)), .val (.int (0 : Int32))] [(.long (9223372036854775807 : Int64))])) _
    refine XS.aloadN X10.here hx rfl (hb hby d5_72) rfl rfl ?_
    show Steps p.tables e below (T10.setTop (mkF m 73 #[.val (.ref a1), .val (.long (9223372036854775807 : Int64)), .second, .val (.long (-9223372036854775808 : Int64)), .second, .val (.int (0 : Int32)), .val (.int (0 : Int32)), .val (.int (0 : Int32)), .val (.int (0 : Int32))] [(.ref a1), (.long (9223372036854775807 : Int64))])) _
    exact k
  obtain ⟨T12, X12, e12, st12⟩ := getF X10 hx hZ hown (host := "") (Or.inl (hw _ (List.mem_of_getElem? (i := 14) rfl))) Via.refl e10 w_marks (g := (mkF m 73 #[.val (.ref a1), .val (.long (9223372036854775807 : Int64)), .second, .val (.long (-9223372036854775808 : Int64)), .second, .val (.int (0 : Int32)), .val (.int (0 : Int32)), .val (.int (0 : Int32)), .val (.int (0 : Int32))] [(.ref a1), (.long (9223372036854775807 : Int64))])) rfl rfl (hb hby d5_73)
  have pre12 : ∀ t, Steps p.tables e below (T12.setTop (mkF m 76 #[.val (.ref a1), .val (.long (9223372036854775807 : Int64)), .second, .val (.long (-9223372036854775808 : Int64)), .second, .val (.int (0 : Int32)), .val (.int (0 : Int32)), .val (.int (0 : Int32)), .val (.int (0 : Int32))] [(.ref bm), (.long (9223372036854775807 : Int64))])) t → Steps p.tables e below (s₁.setTop (entryFrame m #[(.ref a1)] 9)) t := fun t k => pre11 t (st12 _ k)
  have pre13 : ∀ t, Steps p.tables e below (T12.setTop (mkF m 79 #[.val (.ref a1), .val (.long (9223372036854775807 : Int64)), .second, .val (.long (-9223372036854775808 : Int64)), .second, .val (.int (0 : Int32)), .val (.int (0 : Int32)), .val (.int (0 : Int32)), .val (.int (0 : Int32))] [(.long m0), (.long (9223372036854775807 : Int64))])) t → Steps p.tables e below (s₁.setTop (entryFrame m #[(.ref a1)] 9)) t := by
    intro t k
    refine pre12 t ?_
    refine XS.iload X12.here hx rfl (hb hby d5_76) rfl ?_
    show Steps p.tables e below (T12.setTop (mkF m 78 #[.val (.ref a1), .val (.long (9223372036854775807 : Int64)), .second, .val (.long (-9223372036854775808 : Int64)), .second, .val (.int (0 : Int32)), .val (.int (0 : Int32)), .val (.int (0 : Int32)), .val (.int (0 : Int32))] [(.int (0 : Int32)), (.ref bm), (.long (9223372036854775807 : Int64))])) _
    refine own_ldJ X12 hx hZ e12 w_am (by decide) (by decide) (g := (mkF m 78 #[.val (.ref a1), .val (.long (9223372036854775807 : Int64)), .second, .val (.long (-9223372036854775808 : Int64)), .second, .val (.int (0 : Int32)), .val (.int (0 : Int32)), .val (.int (0 : Int32)), .val (.int (0 : Int32))] [(.int (0 : Int32)), (.ref bm), (.long (9223372036854775807 : Int64))])) rfl rfl (hb hby d5_78) _ ?_
    show Steps p.tables e below (T12.setTop (mkF m 79 #[.val (.ref a1), .val (.long (9223372036854775807 : Int64)), .second, .val (.long (-9223372036854775808 : Int64)), .second, .val (.int (0 : Int32)), .val (.int (0 : Int32)), .val (.int (0 : Int32)), .val (.int (0 : Int32))] [(.long m0), (.long (9223372036854775807 : Int64))])) _
    exact k
  obtain ⟨_, _, ⟨T14, L14, k14, n14⟩, -, X14, ⟨Lc14, hQ14, l14, y14, z14⟩, st14⟩ := Jvm.LawKit.callS X12 hx (y := (⟨"java/lang/Math", "min", "(JJ)J"⟩ : MethodName)) hown (mvT hZ (hw _ (List.mem_of_getElem? (i := 38) rfl))) (mvT hZ (hw _ (List.mem_of_getElem? (i := 39) rfl))) (mvT hZ (hw _ (List.mem_of_getElem? (i := 40) rfl))) (mvT hZ (hw _ (List.mem_of_getElem? (i := 41) rfl))) (by decide) (backOf (W := 0) (rm6 l Z a0 hw [] (9223372036854775807 : Int64) m0 h0 n0 Z0) hZ (hw _ (List.mem_of_getElem? (i := 41) rfl)) (hw _ (List.mem_of_getElem? (i := 40) rfl)) (by decide) (by decide)) (g := (mkF m 79 #[.val (.ref a1), .val (.long (9223372036854775807 : Int64)), .second, .val (.long (-9223372036854775808 : Int64)), .second, .val (.int (0 : Int32)), .val (.int (0 : Int32)), .val (.int (0 : Int32)), .val (.int (0 : Int32))] [(.long m0), (.long (9223372036854775807 : Int64))])) rfl (by rw [hml]; rfl) (argsL := [(.long (9223372036854775807 : Int64)), (.long m0)]) (rest := []) (lenOf pdrD_0 rfl) rfl (by show 2 * 0 + _ ≤ _; exact Nat.le_of_eq rfl) (hb hby d5_79) (fun _ _ => ⟨rfl, e12, (by decide : 0 + 0 ≤ _), (by decide : 0 + 0 ≤ _)⟩)
  dsimp only [Pt.U, Pt.locs, Pt.cells, Pt.slots] at X14 l14 y14 z14 st14 hQ14
  subst l14 y14 z14
  obtain ⟨rfl, Nq14, e14⟩ := hQ14
  have N14 := Fr.app N0 Nq14
  have pre14 : ∀ t, Steps p.tables e below (T14.setTop (mkF m 82 #[.val (.ref a1), .val (.long (9223372036854775807 : Int64)), .second, .val (.long (-9223372036854775808 : Int64)), .second, .val (.int (0 : Int32)), .val (.int (0 : Int32)), .val (.int (0 : Int32)), .val (.int (0 : Int32))] [(.long (fn6 (9223372036854775807 : Int64) m0))])) t → Steps p.tables e below (s₁.setTop (entryFrame m #[(.ref a1)] 9)) t := fun t k => pre13 t (st14 _ k)
  obtain ⟨v82, hv82⟩ : ∃ z : Int64, z = (fn6 (9223372036854775807 : Int64) m0) := ⟨_, rfl⟩
  have pre15 : ∀ t, Steps p.tables e below (T14.setTop (mkF m 83 #[.val (.ref a1), .val (.long v82), .second, .val (.long (-9223372036854775808 : Int64)), .second, .val (.int (0 : Int32)), .val (.int (0 : Int32)), .val (.int (0 : Int32)), .val (.int (0 : Int32))] [])) t → Steps p.tables e below (s₁.setTop (entryFrame m #[(.ref a1)] 9)) t := by
    intro t k
    subst hv82
    refine pre14 t ?_
    refine XS.lstoreN X14.here hx rfl (hb hby d5_82) rfl (l' := #[.val (.ref a1), .val (.long (fn6 (9223372036854775807 : Int64) m0)), .second, .val (.long (-9223372036854775808 : Int64)), .second, .val (.int (0 : Int32)), .val (.int (0 : Int32)), .val (.int (0 : Int32)), .val (.int (0 : Int32))]) rfl ?_
    show Steps p.tables e below (T14.setTop (mkF m 83 #[.val (.ref a1), .val (.long (fn6 (9223372036854775807 : Int64) m0)), .second, .val (.long (-9223372036854775808 : Int64)), .second, .val (.int (0 : Int32)), .val (.int (0 : Int32)), .val (.int (0 : Int32)), .val (.int (0 : Int32))] [])) _
    exact k
  have pre16 : ∀ t, Steps p.tables e below (T14.setTop (mkF m 36 #[.val (.ref a1), .val (.long v82), .second, .val (.long (-9223372036854775808 : Int64)), .second, .val (.int (1 : Int32)), .val (.int (0 : Int32)), .val (.int (1 : Int32)), .val (.int (0 : Int32))] [(.ref a1), (.int (1 : Int32))])) t → Steps p.tables e below (s₁.setTop (entryFrame m #[(.ref a1)] 9)) t := by
    intro t k
    refine pre15 t ?_
    refine XS.iconst X14.here hx rfl (hb hby d5_83) ?_
    show Steps p.tables e below (T14.setTop (mkF m 84 #[.val (.ref a1), .val (.long v82), .second, .val (.long (-9223372036854775808 : Int64)), .second, .val (.int (0 : Int32)), .val (.int (0 : Int32)), .val (.int (0 : Int32)), .val (.int (0 : Int32))] [(.int (1 : Int32))])) _
    refine XS.istore X14.here hx rfl (hb hby d5_84) rfl (l' := #[.val (.ref a1), .val (.long v82), .second, .val (.long (-9223372036854775808 : Int64)), .second, .val (.int (1 : Int32)), .val (.int (0 : Int32)), .val (.int (0 : Int32)), .val (.int (0 : Int32))]) rfl ?_
    show Steps p.tables e below (T14.setTop (mkF m 86 #[.val (.ref a1), .val (.long v82), .second, .val (.long (-9223372036854775808 : Int64)), .second, .val (.int (1 : Int32)), .val (.int (0 : Int32)), .val (.int (0 : Int32)), .val (.int (0 : Int32))] [])) _
    refine XS.goto X14.here hx rfl (pc0 := 86) (pc' := 101) rfl (hb hby d5_86) (by decide) (by decide) ?_
    show Steps p.tables e below (T14.setTop (mkF m 101 #[.val (.ref a1), .val (.long v82), .second, .val (.long (-9223372036854775808 : Int64)), .second, .val (.int (1 : Int32)), .val (.int (0 : Int32)), .val (.int (0 : Int32)), .val (.int (0 : Int32))] [])) _
    refine XS.iinc X14.here hx rfl (hb hby d5_101) rfl (l' := #[.val (.ref a1), .val (.long v82), .second, .val (.long (-9223372036854775808 : Int64)), .second, .val (.int (1 : Int32)), .val (.int (0 : Int32)), .val (.int (1 : Int32)), .val (.int (0 : Int32))]) rfl ?_
    show Steps p.tables e below (T14.setTop (mkF m 104 #[.val (.ref a1), .val (.long v82), .second, .val (.long (-9223372036854775808 : Int64)), .second, .val (.int (1 : Int32)), .val (.int (0 : Int32)), .val (.int (1 : Int32)), .val (.int (0 : Int32))] [])) _
    refine XS.goto X14.here hx rfl (pc0 := 104) (pc' := 33) rfl (hb hby d5_104) (by decide) (by decide) ?_
    show Steps p.tables e below (T14.setTop (mkF m 33 #[.val (.ref a1), .val (.long v82), .second, .val (.long (-9223372036854775808 : Int64)), .second, .val (.int (1 : Int32)), .val (.int (0 : Int32)), .val (.int (1 : Int32)), .val (.int (0 : Int32))] [])) _
    refine XS.iload X14.here hx rfl (hb hby d5_33) rfl ?_
    show Steps p.tables e below (T14.setTop (mkF m 35 #[.val (.ref a1), .val (.long v82), .second, .val (.long (-9223372036854775808 : Int64)), .second, .val (.int (1 : Int32)), .val (.int (0 : Int32)), .val (.int (1 : Int32)), .val (.int (0 : Int32))] [(.int (1 : Int32))])) _
    refine XS.aloadN X14.here hx rfl (hb hby d5_35) rfl rfl ?_
    show Steps p.tables e below (T14.setTop (mkF m 36 #[.val (.ref a1), .val (.long v82), .second, .val (.long (-9223372036854775808 : Int64)), .second, .val (.int (1 : Int32)), .val (.int (0 : Int32)), .val (.int (1 : Int32)), .val (.int (0 : Int32))] [(.ref a1), (.int (1 : Int32))])) _
    exact k
  obtain ⟨T17, X17, e17, st17⟩ := getF X14 hx hZ hown (host := "") (Or.inl (hw _ (List.mem_of_getElem? (i := 26) rfl))) Via.refl e14 w_open (g := (mkF m 36 #[.val (.ref a1), .val (.long v82), .second, .val (.long (-9223372036854775808 : Int64)), .second, .val (.int (1 : Int32)), .val (.int (0 : Int32)), .val (.int (1 : Int32)), .val (.int (0 : Int32))] [(.ref a1), (.int (1 : Int32))])) rfl rfl (hb hby d5_36)
  have pre17 : ∀ t, Steps p.tables e below (T17.setTop (mkF m 39 #[.val (.ref a1), .val (.long v82), .second, .val (.long (-9223372036854775808 : Int64)), .second, .val (.int (1 : Int32)), .val (.int (0 : Int32)), .val (.int (1 : Int32)), .val (.int (0 : Int32))] [(.int (1 : Int32)), (.int (1 : Int32))])) t → Steps p.tables e below (s₁.setTop (entryFrame m #[(.ref a1)] 9)) t := fun t k => pre16 t (st17 _ k)
  have pre18 : ∀ t, Steps p.tables e below (T17.setTop (mkF m 129 #[.val (.ref a1), .val (.long v82), .second, .val (.long (-9223372036854775808 : Int64)), .second, .val (.int (1 : Int32)), .val (.int (0 : Int32)), .val (.long v82), .second] [(.ref a1), (.long v82)])) t → Steps p.tables e below (s₁.setTop (entryFrame m #[(.ref a1)] 9)) t := by
    intro t k
    refine pre17 t ?_
    refine XS.icmpYes X17.here hx rfl (pc0 := 39) (pc' := 107) rfl (hb hby d5_39) rfl (flt (by decide : ¬ (1 : Int32) < (1 : Int32))).2.1 (by decide) (by decide) ?_
    show Steps p.tables e below (T17.setTop (mkF m 107 #[.val (.ref a1), .val (.long v82), .second, .val (.long (-9223372036854775808 : Int64)), .second, .val (.int (1 : Int32)), .val (.int (0 : Int32)), .val (.int (1 : Int32)), .val (.int (0 : Int32))] [])) _
    refine XS.iload X17.here hx rfl (hb hby d5_107) rfl ?_
    show Steps p.tables e below (T17.setTop (mkF m 109 #[.val (.ref a1), .val (.long v82), .second, .val (.long (-9223372036854775808 : Int64)), .second, .val (.int (1 : Int32)), .val (.int (0 : Int32)), .val (.int (1 : Int32)), .val (.int (0 : Int32))] [(.int (1 : Int32))])) _
    refine XS.ifYes X17.here hx rfl (pc0 := 109) (pc' := 119) rfl (hb hby d5_109) rfl ((if0 _ _).trans (feq (by decide : ¬ (1 : Int32) = (0 : Int32))).2) (by decide) (by decide) ?_
    show Steps p.tables e below (T17.setTop (mkF m 119 #[.val (.ref a1), .val (.long v82), .second, .val (.long (-9223372036854775808 : Int64)), .second, .val (.int (1 : Int32)), .val (.int (0 : Int32)), .val (.int (1 : Int32)), .val (.int (0 : Int32))] [])) _
    refine XS.lloadN X17.here hx rfl (hb hby d5_119) rfl ?_
    show Steps p.tables e below (T17.setTop (mkF m 120 #[.val (.ref a1), .val (.long v82), .second, .val (.long (-9223372036854775808 : Int64)), .second, .val (.int (1 : Int32)), .val (.int (0 : Int32)), .val (.int (1 : Int32)), .val (.int (0 : Int32))] [(.long v82)])) _
    refine XS.goto X17.here hx rfl (pc0 := 120) (pc' := 124) rfl (hb hby d5_120) (by decide) (by decide) ?_
    show Steps p.tables e below (T17.setTop (mkF m 124 #[.val (.ref a1), .val (.long v82), .second, .val (.long (-9223372036854775808 : Int64)), .second, .val (.int (1 : Int32)), .val (.int (0 : Int32)), .val (.int (1 : Int32)), .val (.int (0 : Int32))] [(.long v82)])) _
    refine XS.lstore X17.here hx rfl (hb hby d5_124) rfl (l' := #[.val (.ref a1), .val (.long v82), .second, .val (.long (-9223372036854775808 : Int64)), .second, .val (.int (1 : Int32)), .val (.int (0 : Int32)), .val (.long v82), .second]) rfl ?_
    show Steps p.tables e below (T17.setTop (mkF m 126 #[.val (.ref a1), .val (.long v82), .second, .val (.long (-9223372036854775808 : Int64)), .second, .val (.int (1 : Int32)), .val (.int (0 : Int32)), .val (.long v82), .second] [])) _
    refine XS.lload X17.here hx rfl (hb hby d5_126) rfl ?_
    show Steps p.tables e below (T17.setTop (mkF m 128 #[.val (.ref a1), .val (.long v82), .second, .val (.long (-9223372036854775808 : Int64)), .second, .val (.int (1 : Int32)), .val (.int (0 : Int32)), .val (.long v82), .second] [(.long v82)])) _
    refine XS.aloadN X17.here hx rfl (hb hby d5_128) rfl rfl ?_
    show Steps p.tables e below (T17.setTop (mkF m 129 #[.val (.ref a1), .val (.long v82), .second, .val (.long (-9223372036854775808 : Int64)), .second, .val (.int (1 : Int32)), .val (.int (0 : Int32)), .val (.long v82), .second] [(.ref a1), (.long v82)])) _
    exact k
  obtain ⟨T19, X19, e19, st19⟩ := getF X17 hx hZ hown (host := "") (Or.inl (hw _ (List.mem_of_getElem? (i := 11) rfl))) Via.refl e17 w_lowest (g := (mkF m 129 #[.val (.ref a1), .val (.long v82), .second, .val (.long (-9223372036854775808 : Int64)), .second, .val (.int (1 : Int32)), .val (.int (0 : Int32)), .val (.long v82), .second] [(.ref a1), (.long v82)])) rfl rfl (hb hby d5_129)
  have pre19 : ∀ t, Steps p.tables e below (T19.setTop (mkF m 132 #[.val (.ref a1), .val (.long v82), .second, .val (.long (-9223372036854775808 : Int64)), .second, .val (.int (1 : Int32)), .val (.int (0 : Int32)), .val (.long v82), .second] [(.long lw), (.long v82)])) t → Steps p.tables e below (s₁.setTop (entryFrame m #[(.ref a1)] 9)) t := fun t k => pre18 t (st19 _ k)
  have pre20 : ∀ t, Steps p.tables e below (T19.setTop (mkF m 133 #[.val (.ref a1), .val (.long v82), .second, .val (.long (-9223372036854775808 : Int64)), .second, .val (.int (1 : Int32)), .val (.int (0 : Int32)), .val (.long v82), .second] [(.int (lcmpW v82 lw))])) t → Steps p.tables e below (s₁.setTop (entryFrame m #[(.ref a1)] 9)) t := by
    intro t k
    refine pre19 t ?_
    refine XS.lcmp X19.here hx rfl (hb hby d5_132) rfl ?_
    show Steps p.tables e below (T19.setTop (mkF m 133 #[.val (.ref a1), .val (.long v82), .second, .val (.long (-9223372036854775808 : Int64)), .second, .val (.int (1 : Int32)), .val (.int (0 : Int32)), .val (.long v82), .second] [(.int (lcmpW v82 lw))])) _
    exact k
  by_cases hc133 : lw < v82
  · have pre21 : ∀ t, Steps p.tables e below (T19.setTop (mkF m 141 #[.val (.ref a1), .val (.long v82), .second, .val (.long (-9223372036854775808 : Int64)), .second, .val (.int (1 : Int32)), .val (.int (0 : Int32)), .val (.long v82), .second] [(.long v82), (.ref a1)])) t → Steps p.tables e below (s₁.setTop (entryFrame m #[(.ref a1)] 9)) t := by
      intro t k
      refine pre20 t ?_
      refine XS.ifYes X19.here hx rfl (pc0 := 133) (pc' := 138) rfl (hb hby d5_133) rfl (own_Tgt hc133).1 (by decide) (by decide) ?_
      show Steps p.tables e below (T19.setTop (mkF m 138 #[.val (.ref a1), .val (.long v82), .second, .val (.long (-9223372036854775808 : Int64)), .second, .val (.int (1 : Int32)), .val (.int (0 : Int32)), .val (.long v82), .second] [])) _
      refine XS.aloadN X19.here hx rfl (hb hby d5_138) rfl rfl ?_
      show Steps p.tables e below (T19.setTop (mkF m 139 #[.val (.ref a1), .val (.long v82), .second, .val (.long (-9223372036854775808 : Int64)), .second, .val (.int (1 : Int32)), .val (.int (0 : Int32)), .val (.long v82), .second] [(.ref a1)])) _
      refine XS.lload X19.here hx rfl (hb hby d5_139) rfl ?_
      show Steps p.tables e below (T19.setTop (mkF m 141 #[.val (.ref a1), .val (.long v82), .second, .val (.long (-9223372036854775808 : Int64)), .second, .val (.int (1 : Int32)), .val (.int (0 : Int32)), .val (.long v82), .second] [(.long v82), (.ref a1)])) _
      exact k
    obtain ⟨T22, h22, X22, e22, W22, st22⟩ := putF X19 hx hZ hown (host := "") (Or.inl (hw _ (List.mem_of_getElem? (i := 11) rfl))) Via.refl e19 w_lowest w_e (Or.inl (hw _ (List.mem_of_getElem? (i := 12) rfl))) (hw _ (List.mem_of_getElem? (i := 2) rfl)) (ty := .long) (by decide) rfl rfl (g := (mkF m 141 #[.val (.ref a1), .val (.long v82), .second, .val (.long (-9223372036854775808 : Int64)), .second, .val (.int (1 : Int32)), .val (.int (0 : Int32)), .val (.long v82), .second] [(.long v82), (.ref a1)])) rfl rfl (hb hby d5_141)
    have F22_0 := w_lowest.same W22
    have F22_1 := w_marks.other W22 (Or.inr (slot_ne (Or.inl (hw _ (List.mem_of_getElem? (i := 15) rfl))) (Or.inl (hw _ (List.mem_of_getElem? (i := 12) rfl))) (by decide) (t := (.array .long)) (t' := .long) (by decide) (by decide)))
    have F22_2 := w_states.other W22 (Or.inr (slot_ne (Or.inl (hw _ (List.mem_of_getElem? (i := 18) rfl))) (Or.inl (hw _ (List.mem_of_getElem? (i := 12) rfl))) (by decide) (t := (.array .byte)) (t' := .long) (by decide) (by decide)))
    have F22_3 := w_live.other W22 (Or.inr (slot_ne (Or.inl (hw _ (List.mem_of_getElem? (i := 21) rfl))) (Or.inl (hw _ (List.mem_of_getElem? (i := 12) rfl))) (by decide) (t := (.array .int)) (t' := .long) (by decide) (by decide)))
    have F22_4 := w_open.other W22 (Or.inr (slot_ne (Or.inl (hw _ (List.mem_of_getElem? (i := 27) rfl))) (Or.inl (hw _ (List.mem_of_getElem? (i := 12) rfl))) (by decide) (t := .int) (t' := .long) (by decide) (by decide)))
    have F22_5 := w_e.wr W22
    have F22_6 := w_am.other W22 (Ne.symm w_1)
    have F22_7 := w_as.other W22 (Ne.symm w_2)
    have F22_8 := w_al.other W22 (Ne.symm w_3)
    have Z22 : n0 ≤ h22.size := Nat.le_trans Z0 (Keep.of_wr W22).1
    have N22 := Fr.snoc X22 N14 w_ga
    have pre22 : ∀ t, Steps p.tables e below (T22.setTop (mkF m 144 #[.val (.ref a1), .val (.long v82), .second, .val (.long (-9223372036854775808 : Int64)), .second, .val (.int (1 : Int32)), .val (.int (0 : Int32)), .val (.long v82), .second] [])) t → Steps p.tables e below (s₁.setTop (entryFrame m #[(.ref a1)] 9)) t := fun t k => pre21 t (st22 _ k)
    have pre23 : ∀ t, Steps p.tables e below (T22.setTop (mkF m 145 #[.val (.ref a1), .val (.long v82), .second, .val (.long (-9223372036854775808 : Int64)), .second, .val (.int (1 : Int32)), .val (.int (0 : Int32)), .val (.long v82), .second] [(.int (1 : Int32))])) t → Steps p.tables e below (s₁.setTop (entryFrame m #[(.ref a1)] 9)) t := by
      intro t k
      refine pre22 t ?_
      refine XS.iconst X22.here hx rfl (hb hby d5_144) ?_
      show Steps p.tables e below (T22.setTop (mkF m 145 #[.val (.ref a1), .val (.long v82), .second, .val (.long (-9223372036854775808 : Int64)), .second, .val (.int (1 : Int32)), .val (.int (0 : Int32)), .val (.long v82), .second] [(.int (1 : Int32))])) _
      exact k
    obtain ⟨fs, hr, hrun, hended, hW, hsame⟩ := X22.leave (v := some (.int (nar .boolean (1 : Int32)))) (fun h => by rw [Bd.returns] at h; cases h)
    refine ⟨_, _, pre23 _ ?_, hrun, hended, _, _, rfl, ?_, ⟨_, rfl⟩, hW, hsame.mono (by decide) (by decide)⟩
    · show Steps p.tables e below (T22.setTop (mkF m 145 #[.val (.ref a1), .val (.long v82), .second, .val (.long (-9223372036854775808 : Int64)), .second, .val (.int (1 : Int32)), .val (.int (0 : Int32)), .val (.long v82), .second] [(.int (1 : Int32))])) _
      exact retN X22 hx (t := .boolean) Bd.returns (by simp) (hb hby d5_145) hr
    · show QrD Z a1 bm bs bl m0 m1 lw l1 h0 n0 _ T22.heap _
      rw [e22]
      have hfn : fnrD m0 m1 lw = ((nar .boolean (1 : Int32)), m0, m1, v82) := by
        subst hv82
        simp only [fnrD, if_pos hc133]
      unfold QrD
      rw [hfn]
      exact ⟨rfl, N22, ⟨F22_5, F22_0, F22_1, F22_2, F22_3, F22_4, F22_6, F22_7, F22_8, w_ga, w_gm, w_gs, w_gl, w_1, w_2, w_3, w_4, w_5, w_6⟩⟩
  · have pre24 : ∀ t, Steps p.tables e below (T19.setTop (mkF m 137 #[.val (.ref a1), .val (.long v82), .second, .val (.long (-9223372036854775808 : Int64)), .second, .val (.int (1 : Int32)), .val (.int (0 : Int32)), .val (.long v82), .second] [(.int (0 : Int32))])) t → Steps p.tables e below (s₁.setTop (entryFrame m #[(.ref a1)] 9)) t := by
      intro t k
      refine pre20 t ?_
      refine XS.ifNo X19.here hx rfl (hb hby d5_133) rfl (own_Fgt hc133).1 ?_
      show Steps p.tables e below (T19.setTop (mkF m 136 #[.val (.ref a1), .val (.long v82), .second, .val (.long (-9223372036854775808 : Int64)), .second, .val (.int (1 : Int32)), .val (.int (0 : Int32)), .val (.long v82), .second] [])) _
      refine XS.iconst X19.here hx rfl (hb hby d5_136) ?_
      show Steps p.tables e below (T19.setTop (mkF m 137 #[.val (.ref a1), .val (.long v82), .second, .val (.long (-9223372036854775808 : Int64)), .second, .val (.int (1 : Int32)), .val (.int (0 : Int32)), .val (.long v82), .second] [(.int (0 : Int32))])) _
      exact k
    obtain ⟨fs, hr, hrun, hended, hW, hsame⟩ := X19.leave (v := some (.int (nar .boolean (0 : Int32)))) (fun h => by rw [Bd.returns] at h; cases h)
    refine ⟨_, _, pre24 _ ?_, hrun, hended, _, _, rfl, ?_, ⟨_, rfl⟩, hW, hsame.mono (by decide) (by decide)⟩
    · show Steps p.tables e below (T19.setTop (mkF m 137 #[.val (.ref a1), .val (.long v82), .second, .val (.long (-9223372036854775808 : Int64)), .second, .val (.int (1 : Int32)), .val (.int (0 : Int32)), .val (.long v82), .second] [(.int (0 : Int32))])) _
      exact retN X19 hx (t := .boolean) Bd.returns (by simp) (hb hby d5_137) hr
    · show QrD Z a1 bm bs bl m0 m1 lw l1 h0 n0 _ T19.heap _
      rw [e19]
      have hfn : fnrD m0 m1 lw = ((nar .boolean (0 : Int32)), m0, m1, lw) := by
        subst hv82
        simp only [fnrD, if_neg hc133]
      unfold QrD
      rw [hfn]
      exact ⟨rfl, N14, ⟨w_e, w_lowest, w_marks, w_states, w_live, w_open, w_am, w_as, w_al, w_ga, w_gm, w_gs, w_gl, w_1, w_2, w_3, w_4, w_5, w_6⟩⟩
/-! body 5: rise -/
theorem d5_112 : decode prog_183_method_13_code 112 = .ok (.aload_n 0, 1) := by decide +kernel
theorem d5_113 : decode prog_183_method_13_code 113 = .ok (.getfield 35, 3) := by decide +kernel
theorem d5_116 : decode prog_183_method_13_code 116 = .ok (.ifCond .ne 7, 3) := by decide +kernel
theorem d5_123 : decode prog_183_method_13_code 123 = .ok (.lload_n 3, 1) := by decide +kernel
theorem pdrE_0 : parseMethodDescriptor "(JJ)J" = some ⟨[.long, .long], some .long⟩ := by decide +kernel
theorem pnrE : plainName "sluice/stream/Watermarks" = true := by first | (simp [plainName, overriddenIn]; done) | decide +kernel
theorem efrE (m : MethodId) (a1 : Addr) : entryFrame m #[(.ref a1)] 9 = mkF m 0 #[.val (.ref a1), .unset, .unset, .unset, .unset, .unset, .unset, .unset, .unset] [] := by first | (simp [entryFrame, mkF, argsToLocals, Value.category]; done) | rfl
def fnrE (m0 m1 lw : Int64) : Int32 × Int64 × Int64 × Int64 :=
  let v100 : Int64 := (fn11 (-9223372036854775808 : Int64) m0)
  if lw < v100 then
    ((nar .boolean (1 : Int32)), m0, m1, v100)
  else
    ((nar .boolean (0 : Int32)), m0, m1, lw)
def QrE (Z : State) (a1 : Addr) (bm bs bl : Addr) (m0 m1 lw : Int64) (l1 : Int32) (h0 : Heap) (n0 : Nat) (v : Option Value) (h : Heap) (L : List Loc) : Prop := v = some (.int (fnrE m0 m1 lw).1) ∧ Fr n0 L ∧ own_W Z h n0 a1 bm bs bl (fnrE m0 m1 lw).2.1 (fnrE m0 m1 lw).2.2.1 (fnrE m0 m1 lw).2.2.2 (1 : Int32) (2 : Int32) (0 : Int32) l1 (1 : Int32)
set_option maxRecDepth 65536 in
set_option maxHeartbeats 40000000 in
theorem rmrE (l : Launch) (Z : State) (a0 : Array Value) (hw : ∀ d ∈ tables_1, d.before a0 Z = true) (ws : List Jvm.Cond) (a1 : Addr) (bm bs bl : Addr) (m0 m1 lw : Int64) (l1 : Int32) (h0 : Heap) (n0 : Nat) (Z0 : n0 ≤ h0.size) (I0 : own_W Z h0 n0 a1 bm bs bl m0 m1 lw (1 : Int32) (2 : Int32) (0 : Int32) l1 (1 : Int32)) :
    MetFree l (⟨"sluice/stream/Watermarks", "rise", "()Z"⟩ : MethodName) (head1 (Jvm.Cond.code (⟨"sluice/stream/Watermarks", "rise", "()Z"⟩ : MethodName) prog_183_method_13_code 9 (some .boolean) :: ws) ({ frames := 1, cells := 0, slots := 0, locals := 15 } : Room)) (fun a U => a = #[(.ref a1)] ∧ Z.Warmed39 U.vm ∧ U.heap = h0) (fun _ _ _ _ _ => True) (fun _ U o U' => ∃ v L, o = .returned v ∧ QrE Z a1 bm bs bl m0 m1 lw l1 h0 n0 v U'.heap L ∧ FrameEnd U o U' L ({ frames := 1, cells := 0, slots := 0, locals := 15 } : Room).cells ({ frames := 1, cells := 0, slots := 0, locals := 15 } : Room).slots) := by
  refine MetFree.of_bodySF (plainFor_of_name pnrE) hisR ?_
  intro p e s m args below meth c s₁ Bd hml0 hP hK
  obtain ⟨rfl, hZ, hh⟩ := hP
  have hx := Bd.exec
  have hby := Bd.bytes
  have hml : c.maxLocals = 9 := hml0
  have hown : s.vm.findClass "sluice/stream/Watermarks" = some m.cls := findClass_of_methodNamed Bd.named
  have hnm := (name_of_methodNamed Bd.named Bd.method).1
  have X0 : Stand p l e ({ frames := 1, cells := 0, slots := 0, locals := 15 } : Room) s m #[(.ref a1)] below meth c s₁ [] 0 0 := Stand.of_body Bd
  have e0 : s₁.heap = h0 := by rw [← hh, Bd.state]; rfl
  have N0 := Fr.nil n0
  have pre0 : ∀ t, Steps p.tables e below (s₁.setTop (mkF m 0 #[.val (.ref a1), .unset, .unset, .unset, .unset, .unset, .unset, .unset, .unset] [])) t → Steps p.tables e below (s₁.setTop (entryFrame m #[(.ref a1)] 9)) t := fun t k => castTop (efrE m a1) k
  obtain ⟨w_e, w_lowest, w_marks, w_states, w_live, w_open, w_am, w_as, w_al, w_ga, w_gm, w_gs, w_gl, w_1, w_2, w_3, w_4, w_5, w_6⟩ := I0
  have pre1 : ∀ t, Steps p.tables e below (s₁.setTop (mkF m 12 #[.val (.ref a1), .val (.long (9223372036854775807 : Int64)), .second, .val (.long (-9223372036854775808 : Int64)), .second, .val (.int (0 : Int32)), .unset, .unset, .unset] [(.ref a1)])) t → Steps p.tables e below (s₁.setTop (entryFrame m #[(.ref a1)] 9)) t := by
    intro t k
    refine pre0 t ?_
    show Steps p.tables e below (s₁.setTop (mkF m 0 #[.val (.ref a1), .unset, .unset, .unset, .unset, .unset, .unset, .unset, .unset] [])) _
    refine X0.ldc2Long hx hown (mvT hZ (hw _ (List.mem_of_getElem? (i := 37) rfl))) (g := (mkF m 0 #[.val (.ref a1), .unset, .unset, .unset, .unset, .unset, .unset, .unset, .unset] [])) rfl (hb hby d5_0) _ ?_
    show Steps p.tables e below (s₁.setTop (mkF m 3 #[.val (.ref a1), .unset, .unset, .unset, .unset, .unset, .unset, .unset, .unset] [(.long (9223372036854775807 : Int64))])) _
    refine XS.lstoreN X0.here hx rfl (hb hby d5_3) rfl (l' := #[.val (.ref a1), .val (.long (9223372036854775807 : Int64)), .second, .unset, .unset, .unset, .unset, .unset, .unset]) rfl ?_
    show Steps p.tables e below (s₁.setTop (mkF m 4 #[.val (.ref a1), .val (.long (9223372036854775807 : Int64)), .second, .unset, .unset, .unset, .unset, .unset, .unset] [])) _
    refine X0.ldc2Long hx hown (mvT hZ (hw _ (List.mem_of_getElem? (i := 10) rfl))) (g := (mkF m 4 #[.val (.ref a1), .val (.long (9223372036854775807 : Int64)), .second, .unset, .unset, .unset, .unset, .unset, .unset] [])) rfl (hb hby d5_4) _ ?_
    show Steps p.tables e below (s₁.setTop (mkF m 7 #[.val (.ref a1), .val (.long (9223372036854775807 : Int64)), .second, .unset, .unset, .unset, .unset, .unset, .unset] [(.long (-9223372036854775808 : Int64))])) _
    refine XS.lstoreN X0.here hx rfl (hb hby d5_7) rfl (l' := #[.val (.ref a1), .val (.long (9223372036854775807 : Int64)), .second, .val (.long (-9223372036854775808 : Int64)), .second, .unset, .unset, .unset, .unset]) rfl ?_
    show Steps p.tables e below (s₁.setTop (mkF m 8 #[.val (.ref a1), .val (.long (9223372036854775807 : Int64)), .second, .val (.long (-9223372036854775808 : Int64)), .second, .unset, .unset, .unset, .unset] [])) _
    refine XS.iconst X0.here hx rfl (hb hby d5_8) ?_
    show Steps p.tables e below (s₁.setTop (mkF m 9 #[.val (.ref a1), .val (.long (9223372036854775807 : Int64)), .second, .val (.long (-9223372036854775808 : Int64)), .second, .unset, .unset, .unset, .unset] [(.int (0 : Int32))])) _
    refine XS.istore X0.here hx rfl (hb hby d5_9) rfl (l' := #[.val (.ref a1), .val (.long (9223372036854775807 : Int64)), .second, .val (.long (-9223372036854775808 : Int64)), .second, .val (.int (0 : Int32)), .unset, .unset, .unset]) rfl ?_
    show Steps p.tables e below (s₁.setTop (mkF m 11 #[.val (.ref a1), .val (.long (9223372036854775807 : Int64)), .second, .val (.long (-9223372036854775808 : Int64)), .second, .val (.int (0 : Int32)), .unset, .unset, .unset] [])) _
    refine XS.aloadN X0.here hx rfl (hb hby d5_11) rfl rfl ?_
    show Steps p.tables e below (s₁.setTop (mkF m 12 #[.val (.ref a1), .val (.long (9223372036854775807 : Int64)), .second, .val (.long (-9223372036854775808 : Int64)), .second, .val (.int (0 : Int32)), .unset, .unset, .unset] [(.ref a1)])) _
    exact k
  obtain ⟨T2, X2, e2, st2⟩ := getF X0 hx hZ hown (host := "") (Or.inl (hw _ (List.mem_of_getElem? (i := 26) rfl))) Via.refl e0 w_open (g := (mkF m 12 #[.val (.ref a1), .val (.long (9223372036854775807 : Int64)), .second, .val (.long (-9223372036854775808 : Int64)), .second, .val (.int (0 : Int32)), .unset, .unset, .unset] [(.ref a1)])) rfl rfl (hb hby d5_12)
  have pre2 : ∀ t, Steps p.tables e below (T2.setTop (mkF m 15 #[.val (.ref a1), .val (.long (9223372036854775807 : Int64)), .second, .val (.long (-9223372036854775808 : Int64)), .second, .val (.int (0 : Int32)), .unset, .unset, .unset] [(.int (1 : Int32))])) t → Steps p.tables e below (s₁.setTop (entryFrame m #[(.ref a1)] 9)) t := fun t k => pre1 t (st2 _ k)
  have pre3 : ∀ t, Steps p.tables e below (T2.setTop (mkF m 16 #[.val (.ref a1), .val (.long (9223372036854775807 : Int64)), .second, .val (.long (-9223372036854775808 : Int64)), .second, .val (.int (0 : Int32)), .unset, .unset, .unset] [(.ref a1), (.int (1 : Int32))])) t → Steps p.tables e below (s₁.setTop (entryFrame m #[(.ref a1)] 9)) t := by
    intro t k
    refine pre2 t ?_
    refine XS.aloadN X2.here hx rfl (hb hby d5_15) rfl rfl ?_
    show Steps p.tables e below (T2.setTop (mkF m 16 #[.val (.ref a1), .val (.long (9223372036854775807 : Int64)), .second, .val (.long (-9223372036854775808 : Int64)), .second, .val (.int (0 : Int32)), .unset, .unset, .unset] [(.ref a1), (.int (1 : Int32))])) _
    exact k
  obtain ⟨T4, X4, e4, st4⟩ := getF X2 hx hZ hown (host := "") (Or.inl (hw _ (List.mem_of_getElem? (i := 14) rfl))) Via.refl e2 w_marks (g := (mkF m 16 #[.val (.ref a1), .val (.long (9223372036854775807 : Int64)), .second, .val (.long (-9223372036854775808 : Int64)), .second, .val (.int (0 : Int32)), .unset, .unset, .unset] [(.ref a1), (.int (1 : Int32))])) rfl rfl (hb hby d5_16)
  have pre4 : ∀ t, Steps p.tables e below (T4.setTop (mkF m 19 #[.val (.ref a1), .val (.long (9223372036854775807 : Int64)), .second, .val (.long (-9223372036854775808 : Int64)), .second, .val (.int (0 : Int32)), .unset, .unset, .unset] [(.ref bm), (.int (1 : Int32))])) t → Steps p.tables e below (s₁.setTop (entryFrame m #[(.ref a1)] 9)) t := fun t k => pre3 t (st4 _ k)
  have pre5 : ∀ t, Steps p.tables e below (T4.setTop (mkF m 36 #[.val (.ref a1), .val (.long (9223372036854775807 : Int64)), .second, .val (.long (-9223372036854775808 : Int64)), .second, .val (.int (0 : Int32)), .val (.int (0 : Int32)), .val (.int (0 : Int32)), .unset] [(.ref a1), (.int (0 : Int32))])) t → Steps p.tables e below (s₁.setTop (entryFrame m #[(.ref a1)] 9)) t := by
    intro t k
    refine pre4 t ?_
    refine own_lenJ X4 hx hZ e4 w_am (g := (mkF m 19 #[.val (.ref a1), .val (.long (9223372036854775807 : Int64)), .second, .val (.long (-9223372036854775808 : Int64)), .second, .val (.int (0 : Int32)), .unset, .unset, .unset] [(.ref bm), (.int (1 : Int32))])) rfl rfl (hb hby d5_19) _ ?_
    show Steps p.tables e below (T4.setTop (mkF m 20 #[.val (.ref a1), .val (.long (9223372036854775807 : Int64)), .second, .val (.long (-9223372036854775808 : Int64)), .second, .val (.int (0 : Int32)), .unset, .unset, .unset] [(.int (2 : Int32)), (.int (1 : Int32))])) _
    refine XS.icmpYes X4.here hx rfl (pc0 := 20) (pc' := 27) rfl (hb hby d5_20) rfl (feq (by decide : ¬ (1 : Int32) = (2 : Int32))).2 (by decide) (by decide) ?_
    show Steps p.tables e below (T4.setTop (mkF m 27 #[.val (.ref a1), .val (.long (9223372036854775807 : Int64)), .second, .val (.long (-9223372036854775808 : Int64)), .second, .val (.int (0 : Int32)), .unset, .unset, .unset] [])) _
    refine XS.iconst X4.here hx rfl (hb hby d5_27) ?_
    show Steps p.tables e below (T4.setTop (mkF m 28 #[.val (.ref a1), .val (.long (9223372036854775807 : Int64)), .second, .val (.long (-9223372036854775808 : Int64)), .second, .val (.int (0 : Int32)), .unset, .unset, .unset] [(.int (0 : Int32))])) _
    refine XS.istore X4.here hx rfl (hb hby d5_28) rfl (l' := #[.val (.ref a1), .val (.long (9223372036854775807 : Int64)), .second, .val (.long (-9223372036854775808 : Int64)), .second, .val (.int (0 : Int32)), .val (.int (0 : Int32)), .unset, .unset]) rfl ?_
    show Steps p.tables e below (T4.setTop (mkF m 30 #[.val (.ref a1), .val (.long (9223372036854775807 : Int64)), .second, .val (.long (-9223372036854775808 : Int64)), .second, .val (.int (0 : Int32)), .val (.int (0 : Int32)), .unset, .unset] [])) _
    refine XS.iconst X4.here hx rfl (hb hby d5_30) ?_
    show Steps p.tables e below (T4.setTop (mkF m 31 #[.val (.ref a1), .val (.long (9223372036854775807 : Int64)), .second, .val (.long (-9223372036854775808 : Int64)), .second, .val (.int (0 : Int32)), .val (.int (0 : Int32)), .unset, .unset] [(.int (0 : Int32))])) _
    refine XS.istore X4.here hx rfl (hb hby d5_31) rfl (l' := #[.val (.ref a1), .val (.long (9223372036854775807 : Int64)), .second, .val (.long (-9223372036854775808 : Int64)), .second, .val (.int (0 : Int32)), .val (.int (0 : Int32)), .val (.int (0 : Int32)), .unset]) rfl ?_
    show Steps p.tables e below (T4.setTop (mkF m 33 #[.val (.ref a1), .val (.long (9223372036854775807 : Int64)), .second, .val (.long (-9223372036854775808 : Int64)), .second, .val (.int (0 : Int32)), .val (.int (0 : Int32)), .val (.int (0 : Int32)), .unset] [])) _
    refine XS.iload X4.here hx rfl (hb hby d5_33) rfl ?_
    show Steps p.tables e below (T4.setTop (mkF m 35 #[.val (.ref a1), .val (.long (9223372036854775807 : Int64)), .second, .val (.long (-9223372036854775808 : Int64)), .second, .val (.int (0 : Int32)), .val (.int (0 : Int32)), .val (.int (0 : Int32)), .unset] [(.int (0 : Int32))])) _
    refine XS.aloadN X4.here hx rfl (hb hby d5_35) rfl rfl ?_
    show Steps p.tables e below (T4.setTop (mkF m 36 #[.val (.ref a1), .val (.long (9223372036854775807 : Int64)), .second, .val (.long (-9223372036854775808 : Int64)), .second, .val (.int (0 : Int32)), .val (.int (0 : Int32)), .val (.int (0 : Int32)), .unset] [(.ref a1), (.int (0 : Int32))])) _
    exact k
  obtain ⟨T6, X6, e6, st6⟩ := getF X4 hx hZ hown (host := "") (Or.inl (hw _ (List.mem_of_getElem? (i := 26) rfl))) Via.refl e4 w_open (g := (mkF m 36 #[.val (.ref a1), .val (.long (9223372036854775807 : Int64)), .second, .val (.long (-9223372036854775808 : Int64)), .second, .val (.int (0 : Int32)), .val (.int (0 : Int32)), .val (.int (0 : Int32)), .unset] [(.ref a1), (.int (0 : Int32))])) rfl rfl (hb hby d5_36)
  have pre6 : ∀ t, Steps p.tables e below (T6.setTop (mkF m 39 #[.val (.ref a1), .val (.long (9223372036854775807 : Int64)), .second, .val (.long (-9223372036854775808 : Int64)), .second, .val (.int (0 : Int32)), .val (.int (0 : Int32)), .val (.int (0 : Int32)), .unset] [(.int (1 : Int32)), (.int (0 : Int32))])) t → Steps p.tables e below (s₁.setTop (entryFrame m #[(.ref a1)] 9)) t := fun t k => pre5 t (st6 _ k)
  have pre7 : ∀ t, Steps p.tables e below (T6.setTop (mkF m 53 #[.val (.ref a1), .val (.long (9223372036854775807 : Int64)), .second, .val (.long (-9223372036854775808 : Int64)), .second, .val (.int (0 : Int32)), .val (.int (0 : Int32)), .val (.int (0 : Int32)), .unset] [(.ref a1)])) t → Steps p.tables e below (s₁.setTop (entryFrame m #[(.ref a1)] 9)) t := by
    intro t k
    refine pre6 t ?_
    refine XS.icmpNo X6.here hx rfl (hb hby d5_39) rfl (tlt (by decide : (0 : Int32) < (1 : Int32))).2.1 ?_
    show Steps p.tables e below (T6.setTop (mkF m 42 #[.val (.ref a1), .val (.long (9223372036854775807 : Int64)), .second, .val (.long (-9223372036854775808 : Int64)), .second, .val (.int (0 : Int32)), .val (.int (0 : Int32)), .val (.int (0 : Int32)), .unset] [])) _
    refine XS.iload X6.here hx rfl (hb hby d5_42) rfl ?_
    show Steps p.tables e below (T6.setTop (mkF m 44 #[.val (.ref a1), .val (.long (9223372036854775807 : Int64)), .second, .val (.long (-9223372036854775808 : Int64)), .second, .val (.int (0 : Int32)), .val (.int (0 : Int32)), .val (.int (0 : Int32)), .unset] [(.int (0 : Int32))])) _
    refine XS.ifYes X6.here hx rfl (pc0 := 44) (pc' := 52) rfl (hb hby d5_44) rfl ((if0 _ _).trans (teq (by decide : (0 : Int32) = (0 : Int32))).1) (by decide) (by decide) ?_
    show Steps p.tables e below (T6.setTop (mkF m 52 #[.val (.ref a1), .val (.long (9223372036854775807 : Int64)), .second, .val (.long (-9223372036854775808 : Int64)), .second, .val (.int (0 : Int32)), .val (.int (0 : Int32)), .val (.int (0 : Int32)), .unset] [])) _
    refine XS.aloadN X6.here hx rfl (hb hby d5_52) rfl rfl ?_
    show Steps p.tables e below (T6.setTop (mkF m 53 #[.val (.ref a1), .val (.long (9223372036854775807 : Int64)), .second, .val (.long (-9223372036854775808 : Int64)), .second, .val (.int (0 : Int32)), .val (.int (0 : Int32)), .val (.int (0 : Int32)), .unset] [(.ref a1)])) _
    exact k
  obtain ⟨T8, X8, e8, st8⟩ := getF X6 hx hZ hown (host := "") (Or.inl (hw _ (List.mem_of_getElem? (i := 20) rfl))) Via.refl e6 w_live (g := (mkF m 53 #[.val (.ref a1), .val (.long (9223372036854775807 : Int64)), .second, .val (.long (-9223372036854775808 : Int64)), .second, .val (.int (0 : Int32)), .val (.int (0 : Int32)), .val (.int (0 : Int32)), .unset] [(.ref a1)])) rfl rfl (hb hby d5_53)
  have pre8 : ∀ t, Steps p.tables e below (T8.setTop (mkF m 56 #[.val (.ref a1), .val (.long (9223372036854775807 : Int64)), .second, .val (.long (-9223372036854775808 : Int64)), .second, .val (.int (0 : Int32)), .val (.int (0 : Int32)), .val (.int (0 : Int32)), .unset] [(.ref bl)])) t → Steps p.tables e below (s₁.setTop (entryFrame m #[(.ref a1)] 9)) t := fun t k => pre7 t (st8 _ k)
  have pre9 : ∀ t, Steps p.tables e below (T8.setTop (mkF m 62 #[.val (.ref a1), .val (.long (9223372036854775807 : Int64)), .second, .val (.long (-9223372036854775808 : Int64)), .second, .val (.int (0 : Int32)), .val (.int (0 : Int32)), .val (.int (0 : Int32)), .val (.int (0 : Int32))] [(.ref a1)])) t → Steps p.tables e below (s₁.setTop (entryFrame m #[(.ref a1)] 9)) t := by
    intro t k
    refine pre8 t ?_
    refine XS.iload X8.here hx rfl (hb hby d5_56) rfl ?_
    show Steps p.tables e below (T8.setTop (mkF m 58 #[.val (.ref a1), .val (.long (9223372036854775807 : Int64)), .second, .val (.long (-9223372036854775808 : Int64)), .second, .val (.int (0 : Int32)), .val (.int (0 : Int32)), .val (.int (0 : Int32)), .unset] [(.int (0 : Int32)), (.ref bl)])) _
    refine own_ldI X8 hx hZ e8 w_al (by decide) (by decide) (g := (mkF m 58 #[.val (.ref a1), .val (.long (9223372036854775807 : Int64)), .second, .val (.long (-9223372036854775808 : Int64)), .second, .val (.int (0 : Int32)), .val (.int (0 : Int32)), .val (.int (0 : Int32)), .unset] [(.int (0 : Int32)), (.ref bl)])) rfl rfl (hb hby d5_58) _ ?_
    show Steps p.tables e below (T8.setTop (mkF m 59 #[.val (.ref a1), .val (.long (9223372036854775807 : Int64)), .second, .val (.long (-9223372036854775808 : Int64)), .second, .val (.int (0 : Int32)), .val (.int (0 : Int32)), .val (.int (0 : Int32)), .unset] [(.int (0 : Int32))])) _
    refine XS.istore X8.here hx rfl (hb hby d5_59) rfl (l' := #[.val (.ref a1), .val (.long (9223372036854775807 : Int64)), .second, .val (.long (-9223372036854775808 : Int64)), .second, .val (.int (0 : Int32)), .val (.int (0 : Int32)), .val (.int (0 : Int32)), .val (.int (0 : Int32))]) rfl ?_
    show Steps p.tables e below (T8.setTop (mkF m 61 #[.val (.ref a1), .val (.long (9223372036854775807 : Int64)), .second, .val (.long (-9223372036854775808 : Int64)), .second, .val (.int (0 : Int32)), .val (.int (0 : Int32)), .val (.int (0 : Int32)), .val (.int (0 : Int32))] [])) _
    refine XS.aloadN X8.here hx rfl (hb hby d5_61) rfl rfl ?_
    show Steps p.tables e below (T8.setTop (mkF m 62 #[.val (.ref a1), .val (.long (9223372036854775807 : Int64)), .second, .val (.long (-9223372036854775808 : Int64)), .second, .val (.int (0 : Int32)), .val (.int (0 : Int32)), .val (.int (0 : Int32)), .val (.int (0 : Int32))] [(.ref a1)])) _
    exact k
  obtain ⟨T10, X10, e10, st10⟩ := getF X8 hx hZ hown (host := "") (Or.inl (hw _ (List.mem_of_getElem? (i := 17) rfl))) Via.refl e8 w_states (g := (mkF m 62 #[.val (.ref a1), .val (.long (9223372036854775807 : Int64)), .second, .val (.long (-9223372036854775808 : Int64)), .second, .val (.int (0 : Int32)), .val (.int (0 : Int32)), .val (.int (0 : Int32)), .val (.int (0 : Int32))] [(.ref a1)])) rfl rfl (hb hby d5_62)
  have pre10 : ∀ t, Steps p.tables e below (T10.setTop (mkF m 65 #[.val (.ref a1), .val (.long (9223372036854775807 : Int64)), .second, .val (.long (-9223372036854775808 : Int64)), .second, .val (.int (0 : Int32)), .val (.int (0 : Int32)), .val (.int (0 : Int32)), .val (.int (0 : Int32))] [(.ref bs)])) t → Steps p.tables e below (s₁.setTop (entryFrame m #[(.ref a1)] 9)) t := fun t k => pre9 t (st10 _ k)
  have pre11 : ∀ t, Steps p.tables e below (T10.setTop (mkF m 91 #[.val (.ref a1), .val (.long (9223372036854775807 : Int64)), .second, .val (.long (-9223372036854775808 : Int64)), .second, .val (.int (0 : Int32)), .val (.int (0 : Int32)), .val (.int (0 : Int32)), .val (.int (0 : Int32))] [(.ref a1), (.long (-9223372036854775808 : Int64))])) t → Steps p.tables e below (s₁.setTop (entryFrame m #[(.ref a1)] 9)) t := by
    intro t k
    refine pre10 t ?_
    refine XS.iload X10.here hx rfl (hb hby d5_65) rfl ?_
    show Steps p.tables e below (T10.setTop (mkF m 67 #[.val (.ref a1), .val (.long (9223372036854775807 : Int64)), .second, .val (.long (-9223372036854775808 : Int64)), .second, .val (.int (0 : Int32)), .val (.int (0 : Int32)), .val (.int (0 : Int32)), .val (.int (0 : Int32))] [(.int (0 : Int32)), (.ref bs)])) _
    refine own_ldB X10 hx hZ e10 w_as (by decide) (by decide) (g := (mkF m 67 #[.val (.ref a1), .val (.long (9223372036854775807 : Int64)), .second, .val (.long (-9223372036854775808 : Int64)), .second, .val (.int (0 : Int32)), .val (.int (0 : Int32)), .val (.int (0 : Int32)), .val (.int (0 : Int32))] [(.int (0 : Int32)), (.ref bs)])) rfl rfl (hb hby d5_67) _ ?_
    show Steps p.tables e below (T10.setTop (mkF m 68 #[.val (.ref a1), .val (.long (9223372036854775807 : Int64)), .second, .val (.long (-9223372036854775808 : Int64)), .second, .val (.int (0 : Int32)), .val (.int (0 : Int32)), .val (.int (0 : Int32)), .val (.int (0 : Int32))] [(.int (1 : Int32))])) _
    refine XS.ifYes X10.here hx rfl (pc0 := 68) (pc' := 89) rfl (hb hby d5_68) rfl ((if0 _ _).trans (feq (by decide : ¬ (1 : Int32) = (0 : Int32))).2) (by decide) (by decide) ?_
    show Steps p.tables e below (T10.setTop (mkF m 89 #[.val (.ref a1), .val (.long (9223372036854775807 : Int64)), .second, .val (.long (-9223372036854775808 : Int64)), .second, .val (.int (0 : Int32)), .val (.int (0 : Int32)), .val (.int (0 : Int32)), .val (.int (0 : Int32))] [])) _
    refine XS.lloadN X10.here hx rfl (hb hby d5_89) rfl ?_
    show Steps p.tables e below (T10.setTop (mkF m 90 #[.val (.ref a1), .val (.long (9223372036854775807 : Int64)), .second, .val (.long (-9223372036854775808 : Int64)), .second, .val (.int (0 : Int32)), .val (.int (0 : Int32)), .val (.int (0 : Int32)), .val (.int (0 : Int32))] [(.long (-9223372036854775808 : Int64))])) _
    refine XS.aloadN X10.here hx rfl (hb hby d5_90) rfl rfl ?_
    show Steps p.tables e below (T10.setTop (mkF m 91 #[.val (.ref a1), .val (.long (9223372036854775807 : Int64)), .second, .val (.long (-9223372036854775808 : Int64)), .second, .val (.int (0 : Int32)), .val (.int (0 : Int32)), .val (.int (0 : Int32)), .val (.int (0 : Int32))] [(.ref a1), (.long (-9223372036854775808 : Int64))])) _
    exact k
  obtain ⟨T12, X12, e12, st12⟩ := getF X10 hx hZ hown (host := "") (Or.inl (hw _ (List.mem_of_getElem? (i := 14) rfl))) Via.refl e10 w_marks (g := (mkF m 91 #[.val (.ref a1), .val (.long (9223372036854775807 : Int64)), .second, .val (.long (-9223372036854775808 : Int64)), .second, .val (.int (0 : Int32)), .val (.int (0 : Int32)), .val (.int (0 : Int32)), .val (.int (0 : Int32))] [(.ref a1), (.long (-9223372036854775808 : Int64))])) rfl rfl (hb hby d5_91)
  have pre12 : ∀ t, Steps p.tables e below (T12.setTop (mkF m 94 #[.val (.ref a1), .val (.long (9223372036854775807 : Int64)), .second, .val (.long (-9223372036854775808 : Int64)), .second, .val (.int (0 : Int32)), .val (.int (0 : Int32)), .val (.int (0 : Int32)), .val (.int (0 : Int32))] [(.ref bm), (.long (-9223372036854775808 : Int64))])) t → Steps p.tables e below (s₁.setTop (entryFrame m #[(.ref a1)] 9)) t := fun t k => pre11 t (st12 _ k)
  have pre13 : ∀ t, Steps p.tables e below (T12.setTop (mkF m 97 #[.val (.ref a1), .val (.long (9223372036854775807 : Int64)), .second, .val (.long (-9223372036854775808 : Int64)), .second, .val (.int (0 : Int32)), .val (.int (0 : Int32)), .val (.int (0 : Int32)), .val (.int (0 : Int32))] [(.long m0), (.long (-9223372036854775808 : Int64))])) t → Steps p.tables e below (s₁.setTop (entryFrame m #[(.ref a1)] 9)) t := by
    intro t k
    refine pre12 t ?_
    refine XS.iload X12.here hx rfl (hb hby d5_94) rfl ?_
    show Steps p.tables e below (T12.setTop (mkF m 96 #[.val (.ref a1), .val (.long (9223372036854775807 : Int64)), .second, .val (.long (-9223372036854775808 : Int64)), .second, .val (.int (0 : Int32)), .val (.int (0 : Int32)), .val (.int (0 : Int32)), .val (.int (0 : Int32))] [(.int (0 : Int32)), (.ref bm), (.long (-9223372036854775808 : Int64))])) _
    refine own_ldJ X12 hx hZ e12 w_am (by decide) (by decide) (g := (mkF m 96 #[.val (.ref a1), .val (.long (9223372036854775807 : Int64)), .second, .val (.long (-9223372036854775808 : Int64)), .second, .val (.int (0 : Int32)), .val (.int (0 : Int32)), .val (.int (0 : Int32)), .val (.int (0 : Int32))] [(.int (0 : Int32)), (.ref bm), (.long (-9223372036854775808 : Int64))])) rfl rfl (hb hby d5_96) _ ?_
    show Steps p.tables e below (T12.setTop (mkF m 97 #[.val (.ref a1), .val (.long (9223372036854775807 : Int64)), .second, .val (.long (-9223372036854775808 : Int64)), .second, .val (.int (0 : Int32)), .val (.int (0 : Int32)), .val (.int (0 : Int32)), .val (.int (0 : Int32))] [(.long m0), (.long (-9223372036854775808 : Int64))])) _
    exact k
  obtain ⟨_, _, ⟨T14, L14, k14, n14⟩, -, X14, ⟨Lc14, hQ14, l14, y14, z14⟩, st14⟩ := Jvm.LawKit.callS X12 hx (y := (⟨"java/lang/Math", "max", "(JJ)J"⟩ : MethodName)) hown (mvT hZ (hw _ (List.mem_of_getElem? (i := 71) rfl))) (mvT hZ (hw _ (List.mem_of_getElem? (i := 63) rfl))) (mvT hZ (hw _ (List.mem_of_getElem? (i := 40) rfl))) (mvT hZ (hw _ (List.mem_of_getElem? (i := 64) rfl))) (by decide) (backOf (W := 0) (rm11 l Z a0 hw [] (-9223372036854775808 : Int64) m0 h0 n0 Z0) hZ (hw _ (List.mem_of_getElem? (i := 64) rfl)) (hw _ (List.mem_of_getElem? (i := 40) rfl)) (by decide) (by decide)) (g := (mkF m 97 #[.val (.ref a1), .val (.long (9223372036854775807 : Int64)), .second, .val (.long (-9223372036854775808 : Int64)), .second, .val (.int (0 : Int32)), .val (.int (0 : Int32)), .val (.int (0 : Int32)), .val (.int (0 : Int32))] [(.long m0), (.long (-9223372036854775808 : Int64))])) rfl (by rw [hml]; rfl) (argsL := [(.long (-9223372036854775808 : Int64)), (.long m0)]) (rest := []) (lenOf pdrE_0 rfl) rfl (by show 2 * 0 + _ ≤ _; exact Nat.le_of_eq rfl) (hb hby d5_97) (fun _ _ => ⟨rfl, e12, (by decide : 0 + 0 ≤ _), (by decide : 0 + 0 ≤ _)⟩)
  dsimp only [Pt.U, Pt.locs, Pt.cells, Pt.slots] at X14 l14 y14 z14 st14 hQ14
  subst l14 y14 z14
  obtain ⟨rfl, Nq14, e14⟩ := hQ14
  have N14 := Fr.app N0 Nq14
  have pre14 : ∀ t, Steps p.tables e below (T14.setTop (mkF m 100 #[.val (.ref a1), .val (.long (9223372036854775807 : Int64)), .second, .val (.long (-9223372036854775808 : Int64)), .second, .val (.int (0 : Int32)), .val (.int (0 : Int32)), .val (.int (0 : Int32)), .val (.int (0 : Int32))] [(.long (fn11 (-9223372036854775808 : Int64) m0))])) t → Steps p.tables e below (s₁.setTop (entryFrame m #[(.ref a1)] 9)) t := fun t k => pre13 t (st14 _ k)
  obtain ⟨v100, hv100⟩ : ∃ z : Int64, z = (fn11 (-9223372036854775808 : Int64) m0) := ⟨_, rfl⟩
  have pre15 : ∀ t, Steps p.tables e below (T14.setTop (mkF m 101 #[.val (.ref a1), .val (.long (9223372036854775807 : Int64)), .second, .val (.long v100), .second, .val (.int (0 : Int32)), .val (.int (0 : Int32)), .val (.int (0 : Int32)), .val (.int (0 : Int32))] [])) t → Steps p.tables e below (s₁.setTop (entryFrame m #[(.ref a1)] 9)) t := by
    intro t k
    subst hv100
    refine pre14 t ?_
    refine XS.lstoreN X14.here hx rfl (hb hby d5_100) rfl (l' := #[.val (.ref a1), .val (.long (9223372036854775807 : Int64)), .second, .val (.long (fn11 (-9223372036854775808 : Int64) m0)), .second, .val (.int (0 : Int32)), .val (.int (0 : Int32)), .val (.int (0 : Int32)), .val (.int (0 : Int32))]) rfl ?_
    show Steps p.tables e below (T14.setTop (mkF m 101 #[.val (.ref a1), .val (.long (9223372036854775807 : Int64)), .second, .val (.long (fn11 (-9223372036854775808 : Int64) m0)), .second, .val (.int (0 : Int32)), .val (.int (0 : Int32)), .val (.int (0 : Int32)), .val (.int (0 : Int32))] [])) _
    exact k
  have pre16 : ∀ t, Steps p.tables e below (T14.setTop (mkF m 36 #[.val (.ref a1), .val (.long (9223372036854775807 : Int64)), .second, .val (.long v100), .second, .val (.int (0 : Int32)), .val (.int (0 : Int32)), .val (.int (1 : Int32)), .val (.int (0 : Int32))] [(.ref a1), (.int (1 : Int32))])) t → Steps p.tables e below (s₁.setTop (entryFrame m #[(.ref a1)] 9)) t := by
    intro t k
    refine pre15 t ?_
    refine XS.iinc X14.here hx rfl (hb hby d5_101) rfl (l' := #[.val (.ref a1), .val (.long (9223372036854775807 : Int64)), .second, .val (.long v100), .second, .val (.int (0 : Int32)), .val (.int (0 : Int32)), .val (.int (1 : Int32)), .val (.int (0 : Int32))]) rfl ?_
    show Steps p.tables e below (T14.setTop (mkF m 104 #[.val (.ref a1), .val (.long (9223372036854775807 : Int64)), .second, .val (.long v100), .second, .val (.int (0 : Int32)), .val (.int (0 : Int32)), .val (.int (1 : Int32)), .val (.int (0 : Int32))] [])) _
    refine XS.goto X14.here hx rfl (pc0 := 104) (pc' := 33) rfl (hb hby d5_104) (by decide) (by decide) ?_
    show Steps p.tables e below (T14.setTop (mkF m 33 #[.val (.ref a1), .val (.long (9223372036854775807 : Int64)), .second, .val (.long v100), .second, .val (.int (0 : Int32)), .val (.int (0 : Int32)), .val (.int (1 : Int32)), .val (.int (0 : Int32))] [])) _
    refine XS.iload X14.here hx rfl (hb hby d5_33) rfl ?_
    show Steps p.tables e below (T14.setTop (mkF m 35 #[.val (.ref a1), .val (.long (9223372036854775807 : Int64)), .second, .val (.long v100), .second, .val (.int (0 : Int32)), .val (.int (0 : Int32)), .val (.int (1 : Int32)), .val (.int (0 : Int32))] [(.int (1 : Int32))])) _
    refine XS.aloadN X14.here hx rfl (hb hby d5_35) rfl rfl ?_
    show Steps p.tables e below (T14.setTop (mkF m 36 #[.val (.ref a1), .val (.long (9223372036854775807 : Int64)), .second, .val (.long v100), .second, .val (.int (0 : Int32)), .val (.int (0 : Int32)), .val (.int (1 : Int32)), .val (.int (0 : Int32))] [(.ref a1), (.int (1 : Int32))])) _
    exact k
  obtain ⟨T17, X17, e17, st17⟩ := getF X14 hx hZ hown (host := "") (Or.inl (hw _ (List.mem_of_getElem? (i := 26) rfl))) Via.refl e14 w_open (g := (mkF m 36 #[.val (.ref a1), .val (.long (9223372036854775807 : Int64)), .second, .val (.long v100), .second, .val (.int (0 : Int32)), .val (.int (0 : Int32)), .val (.int (1 : Int32)), .val (.int (0 : Int32))] [(.ref a1), (.int (1 : Int32))])) rfl rfl (hb hby d5_36)
  have pre17 : ∀ t, Steps p.tables e below (T17.setTop (mkF m 39 #[.val (.ref a1), .val (.long (9223372036854775807 : Int64)), .second, .val (.long v100), .second, .val (.int (0 : Int32)), .val (.int (0 : Int32)), .val (.int (1 : Int32)), .val (.int (0 : Int32))] [(.int (1 : Int32)), (.int (1 : Int32))])) t → Steps p.tables e below (s₁.setTop (entryFrame m #[(.ref a1)] 9)) t := fun t k => pre16 t (st17 _ k)
  have pre18 : ∀ t, Steps p.tables e below (T17.setTop (mkF m 113 #[.val (.ref a1), .val (.long (9223372036854775807 : Int64)), .second, .val (.long v100), .second, .val (.int (0 : Int32)), .val (.int (0 : Int32)), .val (.int (1 : Int32)), .val (.int (0 : Int32))] [(.ref a1)])) t → Steps p.tables e below (s₁.setTop (entryFrame m #[(.ref a1)] 9)) t := by
    intro t k
    refine pre17 t ?_
    refine XS.icmpYes X17.here hx rfl (pc0 := 39) (pc' := 107) rfl (hb hby d5_39) rfl (flt (by decide : ¬ (1 : Int32) < (1 : Int32))).2.1 (by decide) (by decide) ?_
    show Steps p.tables e below (T17.setTop (mkF m 107 #[.val (.ref a1), .val (.long (9223372036854775807 : Int64)), .second, .val (.long v100), .second, .val (.int (0 : Int32)), .val (.int (0 : Int32)), .val (.int (1 : Int32)), .val (.int (0 : Int32))] [])) _
    refine XS.iload X17.here hx rfl (hb hby d5_107) rfl ?_
    show Steps p.tables e below (T17.setTop (mkF m 109 #[.val (.ref a1), .val (.long (9223372036854775807 : Int64)), .second, .val (.long v100), .second, .val (.int (0 : Int32)), .val (.int (0 : Int32)), .val (.int (1 : Int32)), .val (.int (0 : Int32))] [(.int (0 : Int32))])) _
    refine XS.ifNo X17.here hx rfl (hb hby d5_109) rfl ((if0 _ _).trans (teq (by decide : (0 : Int32) = (0 : Int32))).2) ?_
    show Steps p.tables e below (T17.setTop (mkF m 112 #[.val (.ref a1), .val (.long (9223372036854775807 : Int64)), .second, .val (.long v100), .second, .val (.int (0 : Int32)), .val (.int (0 : Int32)), .val (.int (1 : Int32)), .val (.int (0 : Int32))] [])) _
    refine XS.aloadN X17.here hx rfl (hb hby d5_112) rfl rfl ?_
    show Steps p.tables e below (T17.setTop (mkF m 113 #[.val (.ref a1), .val (.long (9223372036854775807 : Int64)), .second, .val (.long v100), .second, .val (.int (0 : Int32)), .val (.int (0 : Int32)), .val (.int (1 : Int32)), .val (.int (0 : Int32))] [(.ref a1)])) _
    exact k
  obtain ⟨T19, X19, e19, st19⟩ := getF X17 hx hZ hown (host := "") (Or.inl (hw _ (List.mem_of_getElem? (i := 26) rfl))) Via.refl e17 w_open (g := (mkF m 113 #[.val (.ref a1), .val (.long (9223372036854775807 : Int64)), .second, .val (.long v100), .second, .val (.int (0 : Int32)), .val (.int (0 : Int32)), .val (.int (1 : Int32)), .val (.int (0 : Int32))] [(.ref a1)])) rfl rfl (hb hby d5_113)
  have pre19 : ∀ t, Steps p.tables e below (T19.setTop (mkF m 116 #[.val (.ref a1), .val (.long (9223372036854775807 : Int64)), .second, .val (.long v100), .second, .val (.int (0 : Int32)), .val (.int (0 : Int32)), .val (.int (1 : Int32)), .val (.int (0 : Int32))] [(.int (1 : Int32))])) t → Steps p.tables e below (s₁.setTop (entryFrame m #[(.ref a1)] 9)) t := fun t k => pre18 t (st19 _ k)
  have pre20 : ∀ t, Steps p.tables e below (T19.setTop (mkF m 129 #[.val (.ref a1), .val (.long (9223372036854775807 : Int64)), .second, .val (.long v100), .second, .val (.int (0 : Int32)), .val (.int (0 : Int32)), .val (.long v100), .second] [(.ref a1), (.long v100)])) t → Steps p.tables e below (s₁.setTop (entryFrame m #[(.ref a1)] 9)) t := by
    intro t k
    refine pre19 t ?_
    refine XS.ifYes X19.here hx rfl (pc0 := 116) (pc' := 123) rfl (hb hby d5_116) rfl ((if0 _ _).trans (feq (by decide : ¬ (1 : Int32) = (0 : Int32))).2) (by decide) (by decide) ?_
    show Steps p.tables e below (T19.setTop (mkF m 123 #[.val (.ref a1), .val (.long (9223372036854775807 : Int64)), .second, .val (.long v100), .second, .val (.int (0 : Int32)), .val (.int (0 : Int32)), .val (.int (1 : Int32)), .val (.int (0 : Int32))] [])) _
    refine XS.lloadN X19.here hx rfl (hb hby d5_123) rfl ?_
    show Steps p.tables e below (T19.setTop (mkF m 124 #[.val (.ref a1), .val (.long (9223372036854775807 : Int64)), .second, .val (.long v100), .second, .val (.int (0 : Int32)), .val (.int (0 : Int32)), .val (.int (1 : Int32)), .val (.int (0 : Int32))] [(.long v100)])) _
    refine XS.lstore X19.here hx rfl (hb hby d5_124) rfl (l' := #[.val (.ref a1), .val (.long (9223372036854775807 : Int64)), .second, .val (.long v100), .second, .val (.int (0 : Int32)), .val (.int (0 : Int32)), .val (.long v100), .second]) rfl ?_
    show Steps p.tables e below (T19.setTop (mkF m 126 #[.val (.ref a1), .val (.long (9223372036854775807 : Int64)), .second, .val (.long v100), .second, .val (.int (0 : Int32)), .val (.int (0 : Int32)), .val (.long v100), .second] [])) _
    refine XS.lload X19.here hx rfl (hb hby d5_126) rfl ?_
    show Steps p.tables e below (T19.setTop (mkF m 128 #[.val (.ref a1), .val (.long (9223372036854775807 : Int64)), .second, .val (.long v100), .second, .val (.int (0 : Int32)), .val (.int (0 : Int32)), .val (.long v100), .second] [(.long v100)])) _
    refine XS.aloadN X19.here hx rfl (hb hby d5_128) rfl rfl ?_
    show Steps p.tables e below (T19.setTop (mkF m 129 #[.val (.ref a1), .val (.long (9223372036854775807 : Int64)), .second, .val (.long v100), .second, .val (.int (0 : Int32)), .val (.int (0 : Int32)), .val (.long v100), .second] [(.ref a1), (.long v100)])) _
    exact k
  obtain ⟨T21, X21, e21, st21⟩ := getF X19 hx hZ hown (host := "") (Or.inl (hw _ (List.mem_of_getElem? (i := 11) rfl))) Via.refl e19 w_lowest (g := (mkF m 129 #[.val (.ref a1), .val (.long (9223372036854775807 : Int64)), .second, .val (.long v100), .second, .val (.int (0 : Int32)), .val (.int (0 : Int32)), .val (.long v100), .second] [(.ref a1), (.long v100)])) rfl rfl (hb hby d5_129)
  have pre21 : ∀ t, Steps p.tables e below (T21.setTop (mkF m 132 #[.val (.ref a1), .val (.long (9223372036854775807 : Int64)), .second, .val (.long v100), .second, .val (.int (0 : Int32)), .val (.int (0 : Int32)), .val (.long v100), .second] [(.long lw), (.long v100)])) t → Steps p.tables e below (s₁.setTop (entryFrame m #[(.ref a1)] 9)) t := fun t k => pre20 t (st21 _ k)
  have pre22 : ∀ t, Steps p.tables e below (T21.setTop (mkF m 133 #[.val (.ref a1), .val (.long (9223372036854775807 : Int64)), .second, .val (.long v100), .second, .val (.int (0 : Int32)), .val (.int (0 : Int32)), .val (.long v100), .second] [(.int (lcmpW v100 lw))])) t → Steps p.tables e below (s₁.setTop (entryFrame m #[(.ref a1)] 9)) t := by
    intro t k
    refine pre21 t ?_
    refine XS.lcmp X21.here hx rfl (hb hby d5_132) rfl ?_
    show Steps p.tables e below (T21.setTop (mkF m 133 #[.val (.ref a1), .val (.long (9223372036854775807 : Int64)), .second, .val (.long v100), .second, .val (.int (0 : Int32)), .val (.int (0 : Int32)), .val (.long v100), .second] [(.int (lcmpW v100 lw))])) _
    exact k
  by_cases hc133 : lw < v100
  · have pre23 : ∀ t, Steps p.tables e below (T21.setTop (mkF m 141 #[.val (.ref a1), .val (.long (9223372036854775807 : Int64)), .second, .val (.long v100), .second, .val (.int (0 : Int32)), .val (.int (0 : Int32)), .val (.long v100), .second] [(.long v100), (.ref a1)])) t → Steps p.tables e below (s₁.setTop (entryFrame m #[(.ref a1)] 9)) t := by
      intro t k
      refine pre22 t ?_
      refine XS.ifYes X21.here hx rfl (pc0 := 133) (pc' := 138) rfl (hb hby d5_133) rfl (own_Tgt hc133).1 (by decide) (by decide) ?_
      show Steps p.tables e below (T21.setTop (mkF m 138 #[.val (.ref a1), .val (.long (9223372036854775807 : Int64)), .second, .val (.long v100), .second, .val (.int (0 : Int32)), .val (.int (0 : Int32)), .val (.long v100), .second] [])) _
      refine XS.aloadN X21.here hx rfl (hb hby d5_138) rfl rfl ?_
      show Steps p.tables e below (T21.setTop (mkF m 139 #[.val (.ref a1), .val (.long (9223372036854775807 : Int64)), .second, .val (.long v100), .second, .val (.int (0 : Int32)), .val (.int (0 : Int32)), .val (.long v100), .second] [(.ref a1)])) _
      refine XS.lload X21.here hx rfl (hb hby d5_139) rfl ?_
      show Steps p.tables e below (T21.setTop (mkF m 141 #[.val (.ref a1), .val (.long (9223372036854775807 : Int64)), .second, .val (.long v100), .second, .val (.int (0 : Int32)), .val (.int (0 : Int32)), .val (.long v100), .second] [(.long v100), (.ref a1)])) _
      exact k
    obtain ⟨T24, h24, X24, e24, W24, st24⟩ := putF X21 hx hZ hown (host := "") (Or.inl (hw _ (List.mem_of_getElem? (i := 11) rfl))) Via.refl e21 w_lowest w_e (Or.inl (hw _ (List.mem_of_getElem? (i := 12) rfl))) (hw _ (List.mem_of_getElem? (i := 2) rfl)) (ty := .long) (by decide) rfl rfl (g := (mkF m 141 #[.val (.ref a1), .val (.long (9223372036854775807 : Int64)), .second, .val (.long v100), .second, .val (.int (0 : Int32)), .val (.int (0 : Int32)), .val (.long v100), .second] [(.long v100), (.ref a1)])) rfl rfl (hb hby d5_141)
    have F24_0 := w_lowest.same W24
    have F24_1 := w_marks.other W24 (Or.inr (slot_ne (Or.inl (hw _ (List.mem_of_getElem? (i := 15) rfl))) (Or.inl (hw _ (List.mem_of_getElem? (i := 12) rfl))) (by decide) (t := (.array .long)) (t' := .long) (by decide) (by decide)))
    have F24_2 := w_states.other W24 (Or.inr (slot_ne (Or.inl (hw _ (List.mem_of_getElem? (i := 18) rfl))) (Or.inl (hw _ (List.mem_of_getElem? (i := 12) rfl))) (by decide) (t := (.array .byte)) (t' := .long) (by decide) (by decide)))
    have F24_3 := w_live.other W24 (Or.inr (slot_ne (Or.inl (hw _ (List.mem_of_getElem? (i := 21) rfl))) (Or.inl (hw _ (List.mem_of_getElem? (i := 12) rfl))) (by decide) (t := (.array .int)) (t' := .long) (by decide) (by decide)))
    have F24_4 := w_open.other W24 (Or.inr (slot_ne (Or.inl (hw _ (List.mem_of_getElem? (i := 27) rfl))) (Or.inl (hw _ (List.mem_of_getElem? (i := 12) rfl))) (by decide) (t := .int) (t' := .long) (by decide) (by decide)))
    have F24_5 := w_e.wr W24
    have F24_6 := w_am.other W24 (Ne.symm w_1)
    have F24_7 := w_as.other W24 (Ne.symm w_2)
    have F24_8 := w_al.other W24 (Ne.symm w_3)
    have Z24 : n0 ≤ h24.size := Nat.le_trans Z0 (Keep.of_wr W24).1
    have N24 := Fr.snoc X24 N14 w_ga
    have pre24 : ∀ t, Steps p.tables e below (T24.setTop (mkF m 144 #[.val (.ref a1), .val (.long (9223372036854775807 : Int64)), .second, .val (.long v100), .second, .val (.int (0 : Int32)), .val (.int (0 : Int32)), .val (.long v100), .second] [])) t → Steps p.tables e below (s₁.setTop (entryFrame m #[(.ref a1)] 9)) t := fun t k => pre23 t (st24 _ k)
    have pre25 : ∀ t, Steps p.tables e below (T24.setTop (mkF m 145 #[.val (.ref a1), .val (.long (9223372036854775807 : Int64)), .second, .val (.long v100), .second, .val (.int (0 : Int32)), .val (.int (0 : Int32)), .val (.long v100), .second] [(.int (1 : Int32))])) t → Steps p.tables e below (s₁.setTop (entryFrame m #[(.ref a1)] 9)) t := by
      intro t k
      refine pre24 t ?_
      refine XS.iconst X24.here hx rfl (hb hby d5_144) ?_
      show Steps p.tables e below (T24.setTop (mkF m 145 #[.val (.ref a1), .val (.long (9223372036854775807 : Int64)), .second, .val (.long v100), .second, .val (.int (0 : Int32)), .val (.int (0 : Int32)), .val (.long v100), .second] [(.int (1 : Int32))])) _
      exact k
    obtain ⟨fs, hr, hrun, hended, hW, hsame⟩ := X24.leave (v := some (.int (nar .boolean (1 : Int32)))) (fun h => by rw [Bd.returns] at h; cases h)
    refine ⟨_, _, pre25 _ ?_, hrun, hended, _, _, rfl, ?_, ⟨_, rfl⟩, hW, hsame.mono (by decide) (by decide)⟩
    · show Steps p.tables e below (T24.setTop (mkF m 145 #[.val (.ref a1), .val (.long (9223372036854775807 : Int64)), .second, .val (.long v100), .second, .val (.int (0 : Int32)), .val (.int (0 : Int32)), .val (.long v100), .second] [(.int (1 : Int32))])) _
      exact retN X24 hx (t := .boolean) Bd.returns (by simp) (hb hby d5_145) hr
    · show QrE Z a1 bm bs bl m0 m1 lw l1 h0 n0 _ T24.heap _
      rw [e24]
      have hfn : fnrE m0 m1 lw = ((nar .boolean (1 : Int32)), m0, m1, v100) := by
        subst hv100
        simp only [fnrE, if_pos hc133]
      unfold QrE
      rw [hfn]
      exact ⟨rfl, N24, ⟨F24_5, F24_0, F24_1, F24_2, F24_3, F24_4, F24_6, F24_7, F24_8, w_ga, w_gm, w_gs, w_gl, w_1, w_2, w_3, w_4, w_5, w_6⟩⟩
  · have pre26 : ∀ t, Steps p.tables e below (T21.setTop (mkF m 137 #[.val (.ref a1), .val (.long (9223372036854775807 : Int64)), .second, .val (.long v100), .second, .val (.int (0 : Int32)), .val (.int (0 : Int32)), .val (.long v100), .second] [(.int (0 : Int32))])) t → Steps p.tables e below (s₁.setTop (entryFrame m #[(.ref a1)] 9)) t := by
      intro t k
      refine pre22 t ?_
      refine XS.ifNo X21.here hx rfl (hb hby d5_133) rfl (own_Fgt hc133).1 ?_
      show Steps p.tables e below (T21.setTop (mkF m 136 #[.val (.ref a1), .val (.long (9223372036854775807 : Int64)), .second, .val (.long v100), .second, .val (.int (0 : Int32)), .val (.int (0 : Int32)), .val (.long v100), .second] [])) _
      refine XS.iconst X21.here hx rfl (hb hby d5_136) ?_
      show Steps p.tables e below (T21.setTop (mkF m 137 #[.val (.ref a1), .val (.long (9223372036854775807 : Int64)), .second, .val (.long v100), .second, .val (.int (0 : Int32)), .val (.int (0 : Int32)), .val (.long v100), .second] [(.int (0 : Int32))])) _
      exact k
    obtain ⟨fs, hr, hrun, hended, hW, hsame⟩ := X21.leave (v := some (.int (nar .boolean (0 : Int32)))) (fun h => by rw [Bd.returns] at h; cases h)
    refine ⟨_, _, pre26 _ ?_, hrun, hended, _, _, rfl, ?_, ⟨_, rfl⟩, hW, hsame.mono (by decide) (by decide)⟩
    · show Steps p.tables e below (T21.setTop (mkF m 137 #[.val (.ref a1), .val (.long (9223372036854775807 : Int64)), .second, .val (.long v100), .second, .val (.int (0 : Int32)), .val (.int (0 : Int32)), .val (.long v100), .second] [(.int (0 : Int32))])) _
      exact retN X21 hx (t := .boolean) Bd.returns (by simp) (hb hby d5_137) hr
    · show QrE Z a1 bm bs bl m0 m1 lw l1 h0 n0 _ T21.heap _
      rw [e21]
      have hfn : fnrE m0 m1 lw = ((nar .boolean (0 : Int32)), m0, m1, lw) := by
        subst hv100
        simp only [fnrE, if_neg hc133]
      unfold QrE
      rw [hfn]
      exact ⟨rfl, N14, ⟨w_e, w_lowest, w_marks, w_states, w_live, w_open, w_am, w_as, w_al, w_ga, w_gm, w_gs, w_gl, w_1, w_2, w_3, w_4, w_5, w_6⟩⟩
/-! body 4: raise -/
theorem d4_0 : decode prog_183_method_5_code 0 = .ok (.aload_n 0, 1) := by decide +kernel
theorem d4_1 : decode prog_183_method_5_code 1 = .ok (.getfield 17, 3) := by decide +kernel
theorem d4_4 : decode prog_183_method_5_code 4 = .ok (.iload_n 1, 1) := by decide +kernel
theorem d4_5 : decode prog_183_method_5_code 5 = .ok (.laload, 1) := by decide +kernel
theorem d4_6 : decode prog_183_method_5_code 6 = .ok (.lstore 4, 2) := by decide +kernel
theorem d4_8 : decode prog_183_method_5_code 8 = .ok (.lload_n 2, 1) := by decide +kernel
theorem d4_9 : decode prog_183_method_5_code 9 = .ok (.lload 4, 2) := by decide +kernel
theorem d4_11 : decode prog_183_method_5_code 11 = .ok (.lcmp, 1) := by decide +kernel
theorem d4_12 : decode prog_183_method_5_code 12 = .ok (.ifCond .gt 5, 3) := by decide +kernel
theorem d4_15 : decode prog_183_method_5_code 15 = .ok (.iconst 0, 1) := by decide +kernel
theorem d4_16 : decode prog_183_method_5_code 16 = .ok (.ireturn, 1) := by decide +kernel
theorem d4_17 : decode prog_183_method_5_code 17 = .ok (.aload_n 0, 1) := by decide +kernel
theorem d4_18 : decode prog_183_method_5_code 18 = .ok (.getfield 17, 3) := by decide +kernel
theorem d4_21 : decode prog_183_method_5_code 21 = .ok (.iload_n 1, 1) := by decide +kernel
theorem d4_22 : decode prog_183_method_5_code 22 = .ok (.lload_n 2, 1) := by decide +kernel
theorem d4_23 : decode prog_183_method_5_code 23 = .ok (.lastore, 1) := by decide +kernel
theorem d4_24 : decode prog_183_method_5_code 24 = .ok (.lload 4, 2) := by decide +kernel
theorem d4_26 : decode prog_183_method_5_code 26 = .ok (.aload_n 0, 1) := by decide +kernel
theorem d4_27 : decode prog_183_method_5_code 27 = .ok (.getfield 11, 3) := by decide +kernel
theorem d4_30 : decode prog_183_method_5_code 30 = .ok (.lcmp, 1) := by decide +kernel
theorem d4_31 : decode prog_183_method_5_code 31 = .ok (.ifCond .gt 14, 3) := by decide +kernel
theorem d4_34 : decode prog_183_method_5_code 34 = .ok (.aload_n 0, 1) := by decide +kernel
theorem d4_35 : decode prog_183_method_5_code 35 = .ok (.invokevirtual 39, 3) := by decide +kernel
theorem d4_38 : decode prog_183_method_5_code 38 = .ok (.ifCond .eq 7, 3) := by decide +kernel
theorem d4_41 : decode prog_183_method_5_code 41 = .ok (.iconst 1, 1) := by decide +kernel
theorem d4_42 : decode prog_183_method_5_code 42 = .ok (.goto 4, 3) := by decide +kernel
theorem d4_45 : decode prog_183_method_5_code 45 = .ok (.iconst 0, 1) := by decide +kernel
theorem d4_46 : decode prog_183_method_5_code 46 = .ok (.ireturn, 1) := by decide +kernel
theorem pda0_0 : parseMethodDescriptor "()Z" = some ⟨[], some .boolean⟩ := by decide +kernel
theorem pna0 : plainName "sluice/stream/Watermarks" = true := by first | (simp [plainName, overriddenIn]; done) | decide +kernel
theorem efa0 (m : MethodId) (a1 : Addr) (q3 : Int64) : entryFrame m #[(.ref a1), (.int (0 : Int32)), (.long q3)] 6 = mkF m 0 #[.val (.ref a1), .val (.int (0 : Int32)), .val (.long q3), .second, .unset, .unset] [] := by first | (simp [entryFrame, mkF, argsToLocals, Value.category]; done) | rfl
def fna0 (q3 : Int64) (m0 m1 lw : Int64) : Int32 × Int64 × Int64 × Int64 :=
  if m0 < q3 then
    if lw < m0 then
      ((nar .boolean (0 : Int32)), q3, m1, lw)
    else
      let x13 : Int32 × Int64 × Int64 × Int64 := (fnrA q3 m1 lw)
      let u46s0 : Int32 := (if x13.1 = (0 : Int32) then (0 : Int32) else (1 : Int32))
      ((nar .boolean u46s0), x13.2.1, x13.2.2.1, x13.2.2.2)
  else
    ((nar .boolean (0 : Int32)), m0, m1, lw)
def Qa0 (Z : State) (a1 : Addr) (q3 : Int64) (bm bs bl : Addr) (m0 m1 lw : Int64) (l0 l1 : Int32) (h0 : Heap) (n0 : Nat) (v : Option Value) (h : Heap) (L : List Loc) : Prop := v = some (.int (fna0 q3 m0 m1 lw).1) ∧ Fr n0 L ∧ own_W Z h n0 a1 bm bs bl (fna0 q3 m0 m1 lw).2.1 (fna0 q3 m0 m1 lw).2.2.1 (fna0 q3 m0 m1 lw).2.2.2 (0 : Int32) (0 : Int32) l0 l1 (2 : Int32)
set_option maxRecDepth 65536 in
set_option maxHeartbeats 40000000 in
theorem rma0 (l : Launch) (Z : State) (a0 : Array Value) (hw : ∀ d ∈ tables_1, d.before a0 Z = true) (ws : List Jvm.Cond) (a1 : Addr) (q3 : Int64) (bm bs bl : Addr) (m0 m1 lw : Int64) (l0 l1 : Int32) (h0 : Heap) (n0 : Nat) (Z0 : n0 ≤ h0.size) (I0 : own_W Z h0 n0 a1 bm bs bl m0 m1 lw (0 : Int32) (0 : Int32) l0 l1 (2 : Int32)) :
    MetFree l (⟨"sluice/stream/Watermarks", "raise", "(IJ)Z"⟩ : MethodName) (head1 (Jvm.Cond.code (⟨"sluice/stream/Watermarks", "raise", "(IJ)Z"⟩ : MethodName) prog_183_method_5_code 6 (some .boolean) :: ws) ({ frames := 2, cells := 0, slots := 0, locals := 35 } : Room)) (fun a U => a = #[(.ref a1), (.int (0 : Int32)), (.long q3)] ∧ Z.Warmed39 U.vm ∧ U.heap = h0) (fun _ _ _ _ _ => True) (fun _ U o U' => ∃ v L, o = .returned v ∧ Qa0 Z a1 q3 bm bs bl m0 m1 lw l0 l1 h0 n0 v U'.heap L ∧ FrameEnd U o U' L ({ frames := 2, cells := 0, slots := 0, locals := 35 } : Room).cells ({ frames := 2, cells := 0, slots := 0, locals := 35 } : Room).slots) := by
  refine MetFree.of_bodySF (plainFor_of_name pna0) hisR ?_
  intro p e s m args below meth c s₁ Bd hml0 hP hK
  obtain ⟨rfl, hZ, hh⟩ := hP
  have hx := Bd.exec
  have hby := Bd.bytes
  have hml : c.maxLocals = 6 := hml0
  have hown : s.vm.findClass "sluice/stream/Watermarks" = some m.cls := findClass_of_methodNamed Bd.named
  have hnm := (name_of_methodNamed Bd.named Bd.method).1
  have X0 : Stand p l e ({ frames := 2, cells := 0, slots := 0, locals := 35 } : Room) s m #[(.ref a1), (.int (0 : Int32)), (.long q3)] below meth c s₁ [] 0 0 := Stand.of_body Bd
  have e0 : s₁.heap = h0 := by rw [← hh, Bd.state]; rfl
  have N0 := Fr.nil n0
  have pre0 : ∀ t, Steps p.tables e below (s₁.setTop (mkF m 0 #[.val (.ref a1), .val (.int (0 : Int32)), .val (.long q3), .second, .unset, .unset] [])) t → Steps p.tables e below (s₁.setTop (entryFrame m #[(.ref a1), (.int (0 : Int32)), (.long q3)] 6)) t := fun t k => castTop (efa0 m a1 q3) k
  obtain ⟨w_e, w_lowest, w_marks, w_states, w_live, w_open, w_am, w_as, w_al, w_ga, w_gm, w_gs, w_gl, w_1, w_2, w_3, w_4, w_5, w_6⟩ := I0
  have pre1 : ∀ t, Steps p.tables e below (s₁.setTop (mkF m 1 #[.val (.ref a1), .val (.int (0 : Int32)), .val (.long q3), .second, .unset, .unset] [(.ref a1)])) t → Steps p.tables e below (s₁.setTop (entryFrame m #[(.ref a1), (.int (0 : Int32)), (.long q3)] 6)) t := by
    intro t k
    refine pre0 t ?_
    show Steps p.tables e below (s₁.setTop (mkF m 0 #[.val (.ref a1), .val (.int (0 : Int32)), .val (.long q3), .second, .unset, .unset] [])) _
    refine XS.aloadN X0.here hx rfl (hb hby d4_0) rfl rfl ?_
    show Steps p.tables e below (s₁.setTop (mkF m 1 #[.val (.ref a1), .val (.int (0 : Int32)), .val (.long q3), .second, .unset, .unset] [(.ref a1)])) _
    exact k
  obtain ⟨T2, X2, e2, st2⟩ := getF X0 hx hZ hown (host := "") (Or.inl (hw _ (List.mem_of_getElem? (i := 14) rfl))) Via.refl e0 w_marks (g := (mkF m 1 #[.val (.ref a1), .val (.int (0 : Int32)), .val (.long q3), .second, .unset, .unset] [(.ref a1)])) rfl rfl (hb hby d4_1)
  have pre2 : ∀ t, Steps p.tables e below (T2.setTop (mkF m 4 #[.val (.ref a1), .val (.int (0 : Int32)), .val (.long q3), .second, .unset, .unset] [(.ref bm)])) t → Steps p.tables e below (s₁.setTop (entryFrame m #[(.ref a1), (.int (0 : Int32)), (.long q3)] 6)) t := fun t k => pre1 t (st2 _ k)
  have pre3 : ∀ t, Steps p.tables e below (T2.setTop (mkF m 12 #[.val (.ref a1), .val (.int (0 : Int32)), .val (.long q3), .second, .val (.long m0), .second] [(.int (lcmpW q3 m0))])) t → Steps p.tables e below (s₁.setTop (entryFrame m #[(.ref a1), (.int (0 : Int32)), (.long q3)] 6)) t := by
    intro t k
    refine pre2 t ?_
    refine XS.iloadN X2.here hx rfl (hb hby d4_4) rfl ?_
    show Steps p.tables e below (T2.setTop (mkF m 5 #[.val (.ref a1), .val (.int (0 : Int32)), .val (.long q3), .second, .unset, .unset] [(.int (0 : Int32)), (.ref bm)])) _
    refine own_ldJ X2 hx hZ e2 w_am (by decide) (by decide) (g := (mkF m 5 #[.val (.ref a1), .val (.int (0 : Int32)), .val (.long q3), .second, .unset, .unset] [(.int (0 : Int32)), (.ref bm)])) rfl rfl (hb hby d4_5) _ ?_
    show Steps p.tables e below (T2.setTop (mkF m 6 #[.val (.ref a1), .val (.int (0 : Int32)), .val (.long q3), .second, .unset, .unset] [(.long m0)])) _
    refine XS.lstore X2.here hx rfl (hb hby d4_6) rfl (l' := #[.val (.ref a1), .val (.int (0 : Int32)), .val (.long q3), .second, .val (.long m0), .second]) rfl ?_
    show Steps p.tables e below (T2.setTop (mkF m 8 #[.val (.ref a1), .val (.int (0 : Int32)), .val (.long q3), .second, .val (.long m0), .second] [])) _
    refine XS.lloadN X2.here hx rfl (hb hby d4_8) rfl ?_
    show Steps p.tables e below (T2.setTop (mkF m 9 #[.val (.ref a1), .val (.int (0 : Int32)), .val (.long q3), .second, .val (.long m0), .second] [(.long q3)])) _
    refine XS.lload X2.here hx rfl (hb hby d4_9) rfl ?_
    show Steps p.tables e below (T2.setTop (mkF m 11 #[.val (.ref a1), .val (.int (0 : Int32)), .val (.long q3), .second, .val (.long m0), .second] [(.long m0), (.long q3)])) _
    refine XS.lcmp X2.here hx rfl (hb hby d4_11) rfl ?_
    show Steps p.tables e below (T2.setTop (mkF m 12 #[.val (.ref a1), .val (.int (0 : Int32)), .val (.long q3), .second, .val (.long m0), .second] [(.int (lcmpW q3 m0))])) _
    exact k
  by_cases hc12 : m0 < q3
  · have pre4 : ∀ t, Steps p.tables e below (T2.setTop (mkF m 18 #[.val (.ref a1), .val (.int (0 : Int32)), .val (.long q3), .second, .val (.long m0), .second] [(.ref a1)])) t → Steps p.tables e below (s₁.setTop (entryFrame m #[(.ref a1), (.int (0 : Int32)), (.long q3)] 6)) t := by
      intro t k
      refine pre3 t ?_
      refine XS.ifYes X2.here hx rfl (pc0 := 12) (pc' := 17) rfl (hb hby d4_12) rfl (own_Tgt hc12).1 (by decide) (by decide) ?_
      show Steps p.tables e below (T2.setTop (mkF m 17 #[.val (.ref a1), .val (.int (0 : Int32)), .val (.long q3), .second, .val (.long m0), .second] [])) _
      refine XS.aloadN X2.here hx rfl (hb hby d4_17) rfl rfl ?_
      show Steps p.tables e below (T2.setTop (mkF m 18 #[.val (.ref a1), .val (.int (0 : Int32)), .val (.long q3), .second, .val (.long m0), .second] [(.ref a1)])) _
      exact k
    obtain ⟨T5, X5, e5, st5⟩ := getF X2 hx hZ hown (host := "") (Or.inl (hw _ (List.mem_of_getElem? (i := 14) rfl))) Via.refl e2 w_marks (g := (mkF m 18 #[.val (.ref a1), .val (.int (0 : Int32)), .val (.long q3), .second, .val (.long m0), .second] [(.ref a1)])) rfl rfl (hb hby d4_18)
    have pre5 : ∀ t, Steps p.tables e below (T5.setTop (mkF m 21 #[.val (.ref a1), .val (.int (0 : Int32)), .val (.long q3), .second, .val (.long m0), .second] [(.ref bm)])) t → Steps p.tables e below (s₁.setTop (entryFrame m #[(.ref a1), (.int (0 : Int32)), (.long q3)] 6)) t := fun t k => pre4 t (st5 _ k)
    have pre6 : ∀ t, Steps p.tables e below (T5.setTop (mkF m 23 #[.val (.ref a1), .val (.int (0 : Int32)), .val (.long q3), .second, .val (.long m0), .second] [(.long q3), (.int (0 : Int32)), (.ref bm)])) t → Steps p.tables e below (s₁.setTop (entryFrame m #[(.ref a1), (.int (0 : Int32)), (.long q3)] 6)) t := by
      intro t k
      refine pre5 t ?_
      refine XS.iloadN X5.here hx rfl (hb hby d4_21) rfl ?_
      show Steps p.tables e below (T5.setTop (mkF m 22 #[.val (.ref a1), .val (.int (0 : Int32)), .val (.long q3), .second, .val (.long m0), .second] [(.int (0 : Int32)), (.ref bm)])) _
      refine XS.lloadN X5.here hx rfl (hb hby d4_22) rfl ?_
      show Steps p.tables e below (T5.setTop (mkF m 23 #[.val (.ref a1), .val (.int (0 : Int32)), .val (.long q3), .second, .val (.long m0), .second] [(.long q3), (.int (0 : Int32)), (.ref bm)])) _
      exact k
    obtain ⟨T7, h7, X7, e7, W7, V7, st7⟩ := own_stJ X5 hx hZ e5 w_am (by decide) (by decide) (g := (mkF m 23 #[.val (.ref a1), .val (.int (0 : Int32)), .val (.long q3), .second, .val (.long m0), .second] [(.long q3), (.int (0 : Int32)), (.ref bm)])) rfl rfl (hb hby d4_23)
    have F7_0 := w_lowest.other W7 (Or.inl w_1)
    have F7_1 := w_marks.other W7 (Or.inl w_1)
    have F7_2 := w_states.other W7 (Or.inl w_1)
    have F7_3 := w_live.other W7 (Or.inl w_1)
    have F7_4 := w_open.other W7 (Or.inl w_1)
    have F7_5 := w_e.wr W7
    have F7_6 := V7
    have F7_7 := w_as.other W7 (Ne.symm w_4)
    have F7_8 := w_al.other W7 (Ne.symm w_5)
    have Z7 : n0 ≤ h7.size := Nat.le_trans Z0 (Keep.of_wr W7).1
    have N7 := Fr.snoc X7 N0 w_gm
    have U7 : own_AJ Z h7 bm (2 : Int32) (own_2 q3 m1) := own_AJ.st0 F7_6
    have pre7 : ∀ t, Steps p.tables e below (T7.setTop (mkF m 24 #[.val (.ref a1), .val (.int (0 : Int32)), .val (.long q3), .second, .val (.long m0), .second] [])) t → Steps p.tables e below (s₁.setTop (entryFrame m #[(.ref a1), (.int (0 : Int32)), (.long q3)] 6)) t := fun t k => pre6 t (st7 _ k)
    have pre8 : ∀ t, Steps p.tables e below (T7.setTop (mkF m 27 #[.val (.ref a1), .val (.int (0 : Int32)), .val (.long q3), .second, .val (.long m0), .second] [(.ref a1), (.long m0)])) t → Steps p.tables e below (s₁.setTop (entryFrame m #[(.ref a1), (.int (0 : Int32)), (.long q3)] 6)) t := by
      intro t k
      refine pre7 t ?_
      refine XS.lload X7.here hx rfl (hb hby d4_24) rfl ?_
      show Steps p.tables e below (T7.setTop (mkF m 26 #[.val (.ref a1), .val (.int (0 : Int32)), .val (.long q3), .second, .val (.long m0), .second] [(.long m0)])) _
      refine XS.aloadN X7.here hx rfl (hb hby d4_26) rfl rfl ?_
      show Steps p.tables e below (T7.setTop (mkF m 27 #[.val (.ref a1), .val (.int (0 : Int32)), .val (.long q3), .second, .val (.long m0), .second] [(.ref a1), (.long m0)])) _
      exact k
    obtain ⟨T9, X9, e9, st9⟩ := getF X7 hx hZ hown (host := "") (Or.inl (hw _ (List.mem_of_getElem? (i := 11) rfl))) Via.refl e7 F7_0 (g := (mkF m 27 #[.val (.ref a1), .val (.int (0 : Int32)), .val (.long q3), .second, .val (.long m0), .second] [(.ref a1), (.long m0)])) rfl rfl (hb hby d4_27)
    have pre9 : ∀ t, Steps p.tables e below (T9.setTop (mkF m 30 #[.val (.ref a1), .val (.int (0 : Int32)), .val (.long q3), .second, .val (.long m0), .second] [(.long lw), (.long m0)])) t → Steps p.tables e below (s₁.setTop (entryFrame m #[(.ref a1), (.int (0 : Int32)), (.long q3)] 6)) t := fun t k => pre8 t (st9 _ k)
    have pre10 : ∀ t, Steps p.tables e below (T9.setTop (mkF m 31 #[.val (.ref a1), .val (.int (0 : Int32)), .val (.long q3), .second, .val (.long m0), .second] [(.int (lcmpW m0 lw))])) t → Steps p.tables e below (s₁.setTop (entryFrame m #[(.ref a1), (.int (0 : Int32)), (.long q3)] 6)) t := by
      intro t k
      refine pre9 t ?_
      refine XS.lcmp X9.here hx rfl (hb hby d4_30) rfl ?_
      show Steps p.tables e below (T9.setTop (mkF m 31 #[.val (.ref a1), .val (.int (0 : Int32)), .val (.long q3), .second, .val (.long m0), .second] [(.int (lcmpW m0 lw))])) _
      exact k
    by_cases hc31 : lw < m0
    · have pre11 : ∀ t, Steps p.tables e below (T9.setTop (mkF m 46 #[.val (.ref a1), .val (.int (0 : Int32)), .val (.long q3), .second, .val (.long m0), .second] [(.int (0 : Int32))])) t → Steps p.tables e below (s₁.setTop (entryFrame m #[(.ref a1), (.int (0 : Int32)), (.long q3)] 6)) t := by
        intro t k
        refine pre10 t ?_
        refine XS.ifYes X9.here hx rfl (pc0 := 31) (pc' := 45) rfl (hb hby d4_31) rfl (own_Tgt hc31).1 (by decide) (by decide) ?_
        show Steps p.tables e below (T9.setTop (mkF m 45 #[.val (.ref a1), .val (.int (0 : Int32)), .val (.long q3), .second, .val (.long m0), .second] [])) _
        refine XS.iconst X9.here hx rfl (hb hby d4_45) ?_
        show Steps p.tables e below (T9.setTop (mkF m 46 #[.val (.ref a1), .val (.int (0 : Int32)), .val (.long q3), .second, .val (.long m0), .second] [(.int (0 : Int32))])) _
        exact k
      obtain ⟨fs, hr, hrun, hended, hW, hsame⟩ := X9.leave (v := some (.int (nar .boolean (0 : Int32)))) (fun h => by rw [Bd.returns] at h; cases h)
      refine ⟨_, _, pre11 _ ?_, hrun, hended, _, _, rfl, ?_, ⟨_, rfl⟩, hW, hsame.mono (by decide) (by decide)⟩
      · show Steps p.tables e below (T9.setTop (mkF m 46 #[.val (.ref a1), .val (.int (0 : Int32)), .val (.long q3), .second, .val (.long m0), .second] [(.int (0 : Int32))])) _
        exact retN X9 hx (t := .boolean) Bd.returns (by simp) (hb hby d4_46) hr
      · show Qa0 Z a1 q3 bm bs bl m0 m1 lw l0 l1 h0 n0 _ T9.heap _
        rw [e9]
        have hfn : fna0 q3 m0 m1 lw = ((nar .boolean (0 : Int32)), q3, m1, lw) := by
          simp only [fna0, if_pos hc12, if_pos hc31]
        unfold Qa0
        rw [hfn]
        exact ⟨rfl, N7, ⟨F7_5, F7_0, F7_1, F7_2, F7_3, F7_4, U7, F7_7, F7_8, w_ga, w_gm, w_gs, w_gl, w_1, w_2, w_3, w_4, w_5, w_6⟩⟩
    · have pre12 : ∀ t, Steps p.tables e below (T9.setTop (mkF m 35 #[.val (.ref a1), .val (.int (0 : Int32)), .val (.long q3), .second, .val (.long m0), .second] [(.ref a1)])) t → Steps p.tables e below (s₁.setTop (entryFrame m #[(.ref a1), (.int (0 : Int32)), (.long q3)] 6)) t := by
        intro t k
        refine pre10 t ?_
        refine XS.ifNo X9.here hx rfl (hb hby d4_31) rfl (own_Fgt hc31).1 ?_
        show Steps p.tables e below (T9.setTop (mkF m 34 #[.val (.ref a1), .val (.int (0 : Int32)), .val (.long q3), .second, .val (.long m0), .second] [])) _
        refine XS.aloadN X9.here hx rfl (hb hby d4_34) rfl rfl ?_
        show Steps p.tables e below (T9.setTop (mkF m 35 #[.val (.ref a1), .val (.int (0 : Int32)), .val (.long q3), .second, .val (.long m0), .second] [(.ref a1)])) _
        exact k
      obtain ⟨cq13, q13, q13'⟩ := F7_5.cell
      obtain ⟨_, _, ⟨T13, L13, k13, n13⟩, -, X13, ⟨Lc13, hQ13, l13, y13, z13⟩, st13⟩ := X9.privateBack hx (y := (⟨"sluice/stream/Watermarks", "rise", "()Z"⟩ : MethodName)) hown (mvT hZ (hw _ (List.mem_of_getElem? (i := 33) rfl))) (mvT hZ (hw _ (List.mem_of_getElem? (i := 34) rfl))) (mvT hZ (Jvm.Kit.selects_private (by decide) (hw _ (List.mem_of_getElem? (i := 2) rfl)) (hw _ (List.mem_of_getElem? (i := 35) rfl)) (hw _ (List.mem_of_getElem? (i := 34) rfl)))) (Cond.privateMethod_at (mvP hZ (hw _ (List.mem_of_getElem? (i := 35) rfl)) (args := #[]))) (mvT hZ (hw _ (List.mem_of_getElem? (i := 36) rfl))) (by decide) (backOf (W := 0) (rmrA l Z a0 hw [] a1 bm bs bl q3 m1 lw l0 l1 h7 n0 Z7 ⟨F7_5, F7_0, F7_1, F7_2, F7_3, F7_4, U7, F7_7, F7_8, w_ga, w_gm, w_gs, w_gl, w_1, w_2, w_3, w_4, w_5, w_6⟩) hZ (hw _ (List.mem_of_getElem? (i := 36) rfl)) (hw _ (List.mem_of_getElem? (i := 3) rfl)) (by decide) (by decide)) (g := (mkF m 35 #[.val (.ref a1), .val (.int (0 : Int32)), .val (.long q3), .second, .val (.long m0), .second] [(.ref a1)])) rfl (by rw [hml]; rfl) (Steps.refl _) (a := a1) (by rw [e9]; exact q13) q13' (argsL := []) (rest := []) (lenOf pda0_0 rfl) rfl (by show 2 * 0 + _ ≤ _; exact Nat.le_of_eq rfl) (hb hby d4_35) (fun _ _ => ⟨rfl, e9, (by decide : 0 + 0 ≤ _), (by decide : 0 + 0 ≤ _)⟩)
      dsimp only [Pt.U, Pt.locs, Pt.cells, Pt.slots] at X13 l13 y13 z13 st13 hQ13
      subst l13 y13 z13
      unfold QrA at hQ13
      obtain ⟨x13, hx13⟩ : ∃ z : Int32 × Int64 × Int64 × Int64, z = (fnrA q3 m1 lw) := ⟨_, rfl⟩
      rw [← hx13] at hQ13
      obtain ⟨rfl, Nq13, J13⟩ := hQ13
      obtain ⟨w13_e, w13_lowest, w13_marks, w13_states, w13_live, w13_open, w13_am, w13_as, w13_al, w13_ga, w13_gm, w13_gs, w13_gl, w13_1, w13_2, w13_3, w13_4, w13_5, w13_6⟩ := J13
      have Z13 : n0 ≤ T13.heap.size := Nat.le_of_lt (Nat.lt_of_le_of_lt w13_ga w13_e.lt)
      have N13 := Fr.app N7 Nq13
      have pre13 : ∀ t, Steps p.tables e below (T13.setTop (mkF m 38 #[.val (.ref a1), .val (.int (0 : Int32)), .val (.long q3), .second, .val (.long m0), .second] [(.int x13.1)])) t → Steps p.tables e below (s₁.setTop (entryFrame m #[(.ref a1), (.int (0 : Int32)), (.long q3)] 6)) t := fun t k => pre12 t (st13.trans k)
      obtain ⟨u46s0, hu46s0⟩ : ∃ z : Int32, z = (if x13.1 = (0 : Int32) then (0 : Int32) else (1 : Int32)) := ⟨_, rfl⟩
      have pre14 : ∀ t, Steps p.tables e below (T13.setTop (mkF m 46 #[.val (.ref a1), .val (.int (0 : Int32)), .val (.long q3), .second, .val (.long m0), .second] [(.int u46s0)])) t → Steps p.tables e below (s₁.setTop (entryFrame m #[(.ref a1), (.int (0 : Int32)), (.long q3)] 6)) t := by
        intro t k
        subst hu46s0
        refine pre13 t ?_
        by_cases hb38 : x13.1 = (0 : Int32)
        · simp only [if_pos hb38] at k
          refine XS.ifYes X13.here hx rfl (pc0 := 38) (pc' := 45) rfl (hb hby d4_38) rfl ((if0 _ _).trans (teq hb38).1) (by decide) (by decide) ?_
          show Steps p.tables e below (T13.setTop (mkF m 45 #[.val (.ref a1), .val (.int (0 : Int32)), .val (.long q3), .second, .val (.long m0), .second] [])) _
          refine XS.iconst X13.here hx rfl (hb hby d4_45) ?_
          show Steps p.tables e below (T13.setTop (mkF m 46 #[.val (.ref a1), .val (.int (0 : Int32)), .val (.long q3), .second, .val (.long m0), .second] [(.int (0 : Int32))])) _
          exact k
        · simp only [if_neg hb38] at k
          refine XS.ifNo X13.here hx rfl (hb hby d4_38) rfl ((if0 _ _).trans (feq hb38).1) ?_
          show Steps p.tables e below (T13.setTop (mkF m 41 #[.val (.ref a1), .val (.int (0 : Int32)), .val (.long q3), .second, .val (.long m0), .second] [])) _
          refine XS.iconst X13.here hx rfl (hb hby d4_41) ?_
          show Steps p.tables e below (T13.setTop (mkF m 42 #[.val (.ref a1), .val (.int (0 : Int32)), .val (.long q3), .second, .val (.long m0), .second] [(.int (1 : Int32))])) _
          refine XS.goto X13.here hx rfl (pc0 := 42) (pc' := 46) rfl (hb hby d4_42) (by decide) (by decide) ?_
          show Steps p.tables e below (T13.setTop (mkF m 46 #[.val (.ref a1), .val (.int (0 : Int32)), .val (.long q3), .second, .val (.long m0), .second] [(.int (1 : Int32))])) _
          exact k
      obtain ⟨fs, hr, hrun, hended, hW, hsame⟩ := X13.leave (v := some (.int (nar .boolean u46s0))) (fun h => by rw [Bd.returns] at h; cases h)
      refine ⟨_, _, pre14 _ ?_, hrun, hended, _, _, rfl, ?_, ⟨_, rfl⟩, hW, hsame.mono (by decide) (by decide)⟩
      · show Steps p.tables e below (T13.setTop (mkF m 46 #[.val (.ref a1), .val (.int (0 : Int32)), .val (.long q3), .second, .val (.long m0), .second] [(.int u46s0)])) _
        exact retN X13 hx (t := .boolean) Bd.returns (by simp) (hb hby d4_46) hr
      · show Qa0 Z a1 q3 bm bs bl m0 m1 lw l0 l1 h0 n0 _ T13.heap _
        have hfn : fna0 q3 m0 m1 lw = ((nar .boolean u46s0), x13.2.1, x13.2.2.1, x13.2.2.2) := by
          subst hu46s0 hx13
          simp only [fna0, if_pos hc12, if_neg hc31]
        unfold Qa0
        rw [hfn]
        exact ⟨rfl, N13, ⟨w13_e, w13_lowest, w13_marks, w13_states, w13_live, w13_open, w13_am, w13_as, w13_al, w13_ga, w13_gm, w13_gs, w13_gl, w13_1, w13_2, w13_3, w13_4, w13_5, w13_6⟩⟩
  · have pre15 : ∀ t, Steps p.tables e below (T2.setTop (mkF m 16 #[.val (.ref a1), .val (.int (0 : Int32)), .val (.long q3), .second, .val (.long m0), .second] [(.int (0 : Int32))])) t → Steps p.tables e below (s₁.setTop (entryFrame m #[(.ref a1), (.int (0 : Int32)), (.long q3)] 6)) t := by
      intro t k
      refine pre3 t ?_
      refine XS.ifNo X2.here hx rfl (hb hby d4_12) rfl (own_Fgt hc12).1 ?_
      show Steps p.tables e below (T2.setTop (mkF m 15 #[.val (.ref a1), .val (.int (0 : Int32)), .val (.long q3), .second, .val (.long m0), .second] [])) _
      refine XS.iconst X2.here hx rfl (hb hby d4_15) ?_
      show Steps p.tables e below (T2.setTop (mkF m 16 #[.val (.ref a1), .val (.int (0 : Int32)), .val (.long q3), .second, .val (.long m0), .second] [(.int (0 : Int32))])) _
      exact k
    obtain ⟨fs, hr, hrun, hended, hW, hsame⟩ := X2.leave (v := some (.int (nar .boolean (0 : Int32)))) (fun h => by rw [Bd.returns] at h; cases h)
    refine ⟨_, _, pre15 _ ?_, hrun, hended, _, _, rfl, ?_, ⟨_, rfl⟩, hW, hsame.mono (by decide) (by decide)⟩
    · show Steps p.tables e below (T2.setTop (mkF m 16 #[.val (.ref a1), .val (.int (0 : Int32)), .val (.long q3), .second, .val (.long m0), .second] [(.int (0 : Int32))])) _
      exact retN X2 hx (t := .boolean) Bd.returns (by simp) (hb hby d4_16) hr
    · show Qa0 Z a1 q3 bm bs bl m0 m1 lw l0 l1 h0 n0 _ T2.heap _
      rw [e2]
      have hfn : fna0 q3 m0 m1 lw = ((nar .boolean (0 : Int32)), m0, m1, lw) := by
        simp only [fna0, if_neg hc12]
      unfold Qa0
      rw [hfn]
      exact ⟨rfl, N0, ⟨w_e, w_lowest, w_marks, w_states, w_live, w_open, w_am, w_as, w_al, w_ga, w_gm, w_gs, w_gl, w_1, w_2, w_3, w_4, w_5, w_6⟩⟩
/-! body 4: raise -/
theorem pda1_0 : parseMethodDescriptor "()Z" = some ⟨[], some .boolean⟩ := by decide +kernel
theorem pna1 : plainName "sluice/stream/Watermarks" = true := by first | (simp [plainName, overriddenIn]; done) | decide +kernel
theorem efa1 (m : MethodId) (a1 : Addr) (q3 : Int64) : entryFrame m #[(.ref a1), (.int (1 : Int32)), (.long q3)] 6 = mkF m 0 #[.val (.ref a1), .val (.int (1 : Int32)), .val (.long q3), .second, .unset, .unset] [] := by first | (simp [entryFrame, mkF, argsToLocals, Value.category]; done) | rfl
def fna1 (q3 : Int64) (m0 m1 lw : Int64) : Int32 × Int64 × Int64 × Int64 :=
  if m1 < q3 then
    if lw < m1 then
      ((nar .boolean (0 : Int32)), m0, q3, lw)
    else
      let x13 : Int32 × Int64 × Int64 × Int64 := (fnrA m0 q3 lw)
      let u46s0 : Int32 := (if x13.1 = (0 : Int32) then (0 : Int32) else (1 : Int32))
      ((nar .boolean u46s0), x13.2.1, x13.2.2.1, x13.2.2.2)
  else
    ((nar .boolean (0 : Int32)), m0, m1, lw)
def Qa1 (Z : State) (a1 : Addr) (q3 : Int64) (bm bs bl : Addr) (m0 m1 lw : Int64) (l0 l1 : Int32) (h0 : Heap) (n0 : Nat) (v : Option Value) (h : Heap) (L : List Loc) : Prop := v = some (.int (fna1 q3 m0 m1 lw).1) ∧ Fr n0 L ∧ own_W Z h n0 a1 bm bs bl (fna1 q3 m0 m1 lw).2.1 (fna1 q3 m0 m1 lw).2.2.1 (fna1 q3 m0 m1 lw).2.2.2 (0 : Int32) (0 : Int32) l0 l1 (2 : Int32)
set_option maxRecDepth 65536 in
set_option maxHeartbeats 40000000 in
theorem rma1 (l : Launch) (Z : State) (a0 : Array Value) (hw : ∀ d ∈ tables_1, d.before a0 Z = true) (ws : List Jvm.Cond) (a1 : Addr) (q3 : Int64) (bm bs bl : Addr) (m0 m1 lw : Int64) (l0 l1 : Int32) (h0 : Heap) (n0 : Nat) (Z0 : n0 ≤ h0.size) (I0 : own_W Z h0 n0 a1 bm bs bl m0 m1 lw (0 : Int32) (0 : Int32) l0 l1 (2 : Int32)) :
    MetFree l (⟨"sluice/stream/Watermarks", "raise", "(IJ)Z"⟩ : MethodName) (head1 (Jvm.Cond.code (⟨"sluice/stream/Watermarks", "raise", "(IJ)Z"⟩ : MethodName) prog_183_method_5_code 6 (some .boolean) :: ws) ({ frames := 2, cells := 0, slots := 0, locals := 35 } : Room)) (fun a U => a = #[(.ref a1), (.int (1 : Int32)), (.long q3)] ∧ Z.Warmed39 U.vm ∧ U.heap = h0) (fun _ _ _ _ _ => True) (fun _ U o U' => ∃ v L, o = .returned v ∧ Qa1 Z a1 q3 bm bs bl m0 m1 lw l0 l1 h0 n0 v U'.heap L ∧ FrameEnd U o U' L ({ frames := 2, cells := 0, slots := 0, locals := 35 } : Room).cells ({ frames := 2, cells := 0, slots := 0, locals := 35 } : Room).slots) := by
  refine MetFree.of_bodySF (plainFor_of_name pna1) hisR ?_
  intro p e s m args below meth c s₁ Bd hml0 hP hK
  obtain ⟨rfl, hZ, hh⟩ := hP
  have hx := Bd.exec
  have hby := Bd.bytes
  have hml : c.maxLocals = 6 := hml0
  have hown : s.vm.findClass "sluice/stream/Watermarks" = some m.cls := findClass_of_methodNamed Bd.named
  have hnm := (name_of_methodNamed Bd.named Bd.method).1
  have X0 : Stand p l e ({ frames := 2, cells := 0, slots := 0, locals := 35 } : Room) s m #[(.ref a1), (.int (1 : Int32)), (.long q3)] below meth c s₁ [] 0 0 := Stand.of_body Bd
  have e0 : s₁.heap = h0 := by rw [← hh, Bd.state]; rfl
  have N0 := Fr.nil n0
  have pre0 : ∀ t, Steps p.tables e below (s₁.setTop (mkF m 0 #[.val (.ref a1), .val (.int (1 : Int32)), .val (.long q3), .second, .unset, .unset] [])) t → Steps p.tables e below (s₁.setTop (entryFrame m #[(.ref a1), (.int (1 : Int32)), (.long q3)] 6)) t := fun t k => castTop (efa1 m a1 q3) k
  obtain ⟨w_e, w_lowest, w_marks, w_states, w_live, w_open, w_am, w_as, w_al, w_ga, w_gm, w_gs, w_gl, w_1, w_2, w_3, w_4, w_5, w_6⟩ := I0
  have pre1 : ∀ t, Steps p.tables e below (s₁.setTop (mkF m 1 #[.val (.ref a1), .val (.int (1 : Int32)), .val (.long q3), .second, .unset, .unset] [(.ref a1)])) t → Steps p.tables e below (s₁.setTop (entryFrame m #[(.ref a1), (.int (1 : Int32)), (.long q3)] 6)) t := by
    intro t k
    refine pre0 t ?_
    show Steps p.tables e below (s₁.setTop (mkF m 0 #[.val (.ref a1), .val (.int (1 : Int32)), .val (.long q3), .second, .unset, .unset] [])) _
    refine XS.aloadN X0.here hx rfl (hb hby d4_0) rfl rfl ?_
    show Steps p.tables e below (s₁.setTop (mkF m 1 #[.val (.ref a1), .val (.int (1 : Int32)), .val (.long q3), .second, .unset, .unset] [(.ref a1)])) _
    exact k
  obtain ⟨T2, X2, e2, st2⟩ := getF X0 hx hZ hown (host := "") (Or.inl (hw _ (List.mem_of_getElem? (i := 14) rfl))) Via.refl e0 w_marks (g := (mkF m 1 #[.val (.ref a1), .val (.int (1 : Int32)), .val (.long q3), .second, .unset, .unset] [(.ref a1)])) rfl rfl (hb hby d4_1)
  have pre2 : ∀ t, Steps p.tables e below (T2.setTop (mkF m 4 #[.val (.ref a1), .val (.int (1 : Int32)), .val (.long q3), .second, .unset, .unset] [(.ref bm)])) t → Steps p.tables e below (s₁.setTop (entryFrame m #[(.ref a1), (.int (1 : Int32)), (.long q3)] 6)) t := fun t k => pre1 t (st2 _ k)
  have pre3 : ∀ t, Steps p.tables e below (T2.setTop (mkF m 12 #[.val (.ref a1), .val (.int (1 : Int32)), .val (.long q3), .second, .val (.long m1), .second] [(.int (lcmpW q3 m1))])) t → Steps p.tables e below (s₁.setTop (entryFrame m #[(.ref a1), (.int (1 : Int32)), (.long q3)] 6)) t := by
    intro t k
    refine pre2 t ?_
    refine XS.iloadN X2.here hx rfl (hb hby d4_4) rfl ?_
    show Steps p.tables e below (T2.setTop (mkF m 5 #[.val (.ref a1), .val (.int (1 : Int32)), .val (.long q3), .second, .unset, .unset] [(.int (1 : Int32)), (.ref bm)])) _
    refine own_ldJ X2 hx hZ e2 w_am (by decide) (by decide) (g := (mkF m 5 #[.val (.ref a1), .val (.int (1 : Int32)), .val (.long q3), .second, .unset, .unset] [(.int (1 : Int32)), (.ref bm)])) rfl rfl (hb hby d4_5) _ ?_
    show Steps p.tables e below (T2.setTop (mkF m 6 #[.val (.ref a1), .val (.int (1 : Int32)), .val (.long q3), .second, .unset, .unset] [(.long m1)])) _
    refine XS.lstore X2.here hx rfl (hb hby d4_6) rfl (l' := #[.val (.ref a1), .val (.int (1 : Int32)), .val (.long q3), .second, .val (.long m1), .second]) rfl ?_
    show Steps p.tables e below (T2.setTop (mkF m 8 #[.val (.ref a1), .val (.int (1 : Int32)), .val (.long q3), .second, .val (.long m1), .second] [])) _
    refine XS.lloadN X2.here hx rfl (hb hby d4_8) rfl ?_
    show Steps p.tables e below (T2.setTop (mkF m 9 #[.val (.ref a1), .val (.int (1 : Int32)), .val (.long q3), .second, .val (.long m1), .second] [(.long q3)])) _
    refine XS.lload X2.here hx rfl (hb hby d4_9) rfl ?_
    show Steps p.tables e below (T2.setTop (mkF m 11 #[.val (.ref a1), .val (.int (1 : Int32)), .val (.long q3), .second, .val (.long m1), .second] [(.long m1), (.long q3)])) _
    refine XS.lcmp X2.here hx rfl (hb hby d4_11) rfl ?_
    show Steps p.tables e below (T2.setTop (mkF m 12 #[.val (.ref a1), .val (.int (1 : Int32)), .val (.long q3), .second, .val (.long m1), .second] [(.int (lcmpW q3 m1))])) _
    exact k
  by_cases hc12 : m1 < q3
  · have pre4 : ∀ t, Steps p.tables e below (T2.setTop (mkF m 18 #[.val (.ref a1), .val (.int (1 : Int32)), .val (.long q3), .second, .val (.long m1), .second] [(.ref a1)])) t → Steps p.tables e below (s₁.setTop (entryFrame m #[(.ref a1), (.int (1 : Int32)), (.long q3)] 6)) t := by
      intro t k
      refine pre3 t ?_
      refine XS.ifYes X2.here hx rfl (pc0 := 12) (pc' := 17) rfl (hb hby d4_12) rfl (own_Tgt hc12).1 (by decide) (by decide) ?_
      show Steps p.tables e below (T2.setTop (mkF m 17 #[.val (.ref a1), .val (.int (1 : Int32)), .val (.long q3), .second, .val (.long m1), .second] [])) _
      refine XS.aloadN X2.here hx rfl (hb hby d4_17) rfl rfl ?_
      show Steps p.tables e below (T2.setTop (mkF m 18 #[.val (.ref a1), .val (.int (1 : Int32)), .val (.long q3), .second, .val (.long m1), .second] [(.ref a1)])) _
      exact k
    obtain ⟨T5, X5, e5, st5⟩ := getF X2 hx hZ hown (host := "") (Or.inl (hw _ (List.mem_of_getElem? (i := 14) rfl))) Via.refl e2 w_marks (g := (mkF m 18 #[.val (.ref a1), .val (.int (1 : Int32)), .val (.long q3), .second, .val (.long m1), .second] [(.ref a1)])) rfl rfl (hb hby d4_18)
    have pre5 : ∀ t, Steps p.tables e below (T5.setTop (mkF m 21 #[.val (.ref a1), .val (.int (1 : Int32)), .val (.long q3), .second, .val (.long m1), .second] [(.ref bm)])) t → Steps p.tables e below (s₁.setTop (entryFrame m #[(.ref a1), (.int (1 : Int32)), (.long q3)] 6)) t := fun t k => pre4 t (st5 _ k)
    have pre6 : ∀ t, Steps p.tables e below (T5.setTop (mkF m 23 #[.val (.ref a1), .val (.int (1 : Int32)), .val (.long q3), .second, .val (.long m1), .second] [(.long q3), (.int (1 : Int32)), (.ref bm)])) t → Steps p.tables e below (s₁.setTop (entryFrame m #[(.ref a1), (.int (1 : Int32)), (.long q3)] 6)) t := by
      intro t k
      refine pre5 t ?_
      refine XS.iloadN X5.here hx rfl (hb hby d4_21) rfl ?_
      show Steps p.tables e below (T5.setTop (mkF m 22 #[.val (.ref a1), .val (.int (1 : Int32)), .val (.long q3), .second, .val (.long m1), .second] [(.int (1 : Int32)), (.ref bm)])) _
      refine XS.lloadN X5.here hx rfl (hb hby d4_22) rfl ?_
      show Steps p.tables e below (T5.setTop (mkF m 23 #[.val (.ref a1), .val (.int (1 : Int32)), .val (.long q3), .second, .val (.long m1), .second] [(.long q3), (.int (1 : Int32)), (.ref bm)])) _
      exact k
    obtain ⟨T7, h7, X7, e7, W7, V7, st7⟩ := own_stJ X5 hx hZ e5 w_am (by decide) (by decide) (g := (mkF m 23 #[.val (.ref a1), .val (.int (1 : Int32)), .val (.long q3), .second, .val (.long m1), .second] [(.long q3), (.int (1 : Int32)), (.ref bm)])) rfl rfl (hb hby d4_23)
    have F7_0 := w_lowest.other W7 (Or.inl w_1)
    have F7_1 := w_marks.other W7 (Or.inl w_1)
    have F7_2 := w_states.other W7 (Or.inl w_1)
    have F7_3 := w_live.other W7 (Or.inl w_1)
    have F7_4 := w_open.other W7 (Or.inl w_1)
    have F7_5 := w_e.wr W7
    have F7_6 := V7
    have F7_7 := w_as.other W7 (Ne.symm w_4)
    have F7_8 := w_al.other W7 (Ne.symm w_5)
    have Z7 : n0 ≤ h7.size := Nat.le_trans Z0 (Keep.of_wr W7).1
    have N7 := Fr.snoc X7 N0 w_gm
    have U7 : own_AJ Z h7 bm (2 : Int32) (own_2 m0 q3) := own_AJ.st1 F7_6
    have pre7 : ∀ t, Steps p.tables e below (T7.setTop (mkF m 24 #[.val (.ref a1), .val (.int (1 : Int32)), .val (.long q3), .second, .val (.long m1), .second] [])) t → Steps p.tables e below (s₁.setTop (entryFrame m #[(.ref a1), (.int (1 : Int32)), (.long q3)] 6)) t := fun t k => pre6 t (st7 _ k)
    have pre8 : ∀ t, Steps p.tables e below (T7.setTop (mkF m 27 #[.val (.ref a1), .val (.int (1 : Int32)), .val (.long q3), .second, .val (.long m1), .second] [(.ref a1), (.long m1)])) t → Steps p.tables e below (s₁.setTop (entryFrame m #[(.ref a1), (.int (1 : Int32)), (.long q3)] 6)) t := by
      intro t k
      refine pre7 t ?_
      refine XS.lload X7.here hx rfl (hb hby d4_24) rfl ?_
      show Steps p.tables e below (T7.setTop (mkF m 26 #[.val (.ref a1), .val (.int (1 : Int32)), .val (.long q3), .second, .val (.long m1), .second] [(.long m1)])) _
      refine XS.aloadN X7.here hx rfl (hb hby d4_26) rfl rfl ?_
      show Steps p.tables e below (T7.setTop (mkF m 27 #[.val (.ref a1), .val (.int (1 : Int32)), .val (.long q3), .second, .val (.long m1), .second] [(.ref a1), (.long m1)])) _
      exact k
    obtain ⟨T9, X9, e9, st9⟩ := getF X7 hx hZ hown (host := "") (Or.inl (hw _ (List.mem_of_getElem? (i := 11) rfl))) Via.refl e7 F7_0 (g := (mkF m 27 #[.val (.ref a1), .val (.int (1 : Int32)), .val (.long q3), .second, .val (.long m1), .second] [(.ref a1), (.long m1)])) rfl rfl (hb hby d4_27)
    have pre9 : ∀ t, Steps p.tables e below (T9.setTop (mkF m 30 #[.val (.ref a1), .val (.int (1 : Int32)), .val (.long q3), .second, .val (.long m1), .second] [(.long lw), (.long m1)])) t → Steps p.tables e below (s₁.setTop (entryFrame m #[(.ref a1), (.int (1 : Int32)), (.long q3)] 6)) t := fun t k => pre8 t (st9 _ k)
    have pre10 : ∀ t, Steps p.tables e below (T9.setTop (mkF m 31 #[.val (.ref a1), .val (.int (1 : Int32)), .val (.long q3), .second, .val (.long m1), .second] [(.int (lcmpW m1 lw))])) t → Steps p.tables e below (s₁.setTop (entryFrame m #[(.ref a1), (.int (1 : Int32)), (.long q3)] 6)) t := by
      intro t k
      refine pre9 t ?_
      refine XS.lcmp X9.here hx rfl (hb hby d4_30) rfl ?_
      show Steps p.tables e below (T9.setTop (mkF m 31 #[.val (.ref a1), .val (.int (1 : Int32)), .val (.long q3), .second, .val (.long m1), .second] [(.int (lcmpW m1 lw))])) _
      exact k
    by_cases hc31 : lw < m1
    · have pre11 : ∀ t, Steps p.tables e below (T9.setTop (mkF m 46 #[.val (.ref a1), .val (.int (1 : Int32)), .val (.long q3), .second, .val (.long m1), .second] [(.int (0 : Int32))])) t → Steps p.tables e below (s₁.setTop (entryFrame m #[(.ref a1), (.int (1 : Int32)), (.long q3)] 6)) t := by
        intro t k
        refine pre10 t ?_
        refine XS.ifYes X9.here hx rfl (pc0 := 31) (pc' := 45) rfl (hb hby d4_31) rfl (own_Tgt hc31).1 (by decide) (by decide) ?_
        show Steps p.tables e below (T9.setTop (mkF m 45 #[.val (.ref a1), .val (.int (1 : Int32)), .val (.long q3), .second, .val (.long m1), .second] [])) _
        refine XS.iconst X9.here hx rfl (hb hby d4_45) ?_
        show Steps p.tables e below (T9.setTop (mkF m 46 #[.val (.ref a1), .val (.int (1 : Int32)), .val (.long q3), .second, .val (.long m1), .second] [(.int (0 : Int32))])) _
        exact k
      obtain ⟨fs, hr, hrun, hended, hW, hsame⟩ := X9.leave (v := some (.int (nar .boolean (0 : Int32)))) (fun h => by rw [Bd.returns] at h; cases h)
      refine ⟨_, _, pre11 _ ?_, hrun, hended, _, _, rfl, ?_, ⟨_, rfl⟩, hW, hsame.mono (by decide) (by decide)⟩
      · show Steps p.tables e below (T9.setTop (mkF m 46 #[.val (.ref a1), .val (.int (1 : Int32)), .val (.long q3), .second, .val (.long m1), .second] [(.int (0 : Int32))])) _
        exact retN X9 hx (t := .boolean) Bd.returns (by simp) (hb hby d4_46) hr
      · show Qa1 Z a1 q3 bm bs bl m0 m1 lw l0 l1 h0 n0 _ T9.heap _
        rw [e9]
        have hfn : fna1 q3 m0 m1 lw = ((nar .boolean (0 : Int32)), m0, q3, lw) := by
          simp only [fna1, if_pos hc12, if_pos hc31]
        unfold Qa1
        rw [hfn]
        exact ⟨rfl, N7, ⟨F7_5, F7_0, F7_1, F7_2, F7_3, F7_4, U7, F7_7, F7_8, w_ga, w_gm, w_gs, w_gl, w_1, w_2, w_3, w_4, w_5, w_6⟩⟩
    · have pre12 : ∀ t, Steps p.tables e below (T9.setTop (mkF m 35 #[.val (.ref a1), .val (.int (1 : Int32)), .val (.long q3), .second, .val (.long m1), .second] [(.ref a1)])) t → Steps p.tables e below (s₁.setTop (entryFrame m #[(.ref a1), (.int (1 : Int32)), (.long q3)] 6)) t := by
        intro t k
        refine pre10 t ?_
        refine XS.ifNo X9.here hx rfl (hb hby d4_31) rfl (own_Fgt hc31).1 ?_
        show Steps p.tables e below (T9.setTop (mkF m 34 #[.val (.ref a1), .val (.int (1 : Int32)), .val (.long q3), .second, .val (.long m1), .second] [])) _
        refine XS.aloadN X9.here hx rfl (hb hby d4_34) rfl rfl ?_
        show Steps p.tables e below (T9.setTop (mkF m 35 #[.val (.ref a1), .val (.int (1 : Int32)), .val (.long q3), .second, .val (.long m1), .second] [(.ref a1)])) _
        exact k
      obtain ⟨cq13, q13, q13'⟩ := F7_5.cell
      obtain ⟨_, _, ⟨T13, L13, k13, n13⟩, -, X13, ⟨Lc13, hQ13, l13, y13, z13⟩, st13⟩ := X9.privateBack hx (y := (⟨"sluice/stream/Watermarks", "rise", "()Z"⟩ : MethodName)) hown (mvT hZ (hw _ (List.mem_of_getElem? (i := 33) rfl))) (mvT hZ (hw _ (List.mem_of_getElem? (i := 34) rfl))) (mvT hZ (Jvm.Kit.selects_private (by decide) (hw _ (List.mem_of_getElem? (i := 2) rfl)) (hw _ (List.mem_of_getElem? (i := 35) rfl)) (hw _ (List.mem_of_getElem? (i := 34) rfl)))) (Cond.privateMethod_at (mvP hZ (hw _ (List.mem_of_getElem? (i := 35) rfl)) (args := #[]))) (mvT hZ (hw _ (List.mem_of_getElem? (i := 36) rfl))) (by decide) (backOf (W := 0) (rmrA l Z a0 hw [] a1 bm bs bl m0 q3 lw l0 l1 h7 n0 Z7 ⟨F7_5, F7_0, F7_1, F7_2, F7_3, F7_4, U7, F7_7, F7_8, w_ga, w_gm, w_gs, w_gl, w_1, w_2, w_3, w_4, w_5, w_6⟩) hZ (hw _ (List.mem_of_getElem? (i := 36) rfl)) (hw _ (List.mem_of_getElem? (i := 3) rfl)) (by decide) (by decide)) (g := (mkF m 35 #[.val (.ref a1), .val (.int (1 : Int32)), .val (.long q3), .second, .val (.long m1), .second] [(.ref a1)])) rfl (by rw [hml]; rfl) (Steps.refl _) (a := a1) (by rw [e9]; exact q13) q13' (argsL := []) (rest := []) (lenOf pda1_0 rfl) rfl (by show 2 * 0 + _ ≤ _; exact Nat.le_of_eq rfl) (hb hby d4_35) (fun _ _ => ⟨rfl, e9, (by decide : 0 + 0 ≤ _), (by decide : 0 + 0 ≤ _)⟩)
      dsimp only [Pt.U, Pt.locs, Pt.cells, Pt.slots] at X13 l13 y13 z13 st13 hQ13
      subst l13 y13 z13
      unfold QrA at hQ13
      obtain ⟨x13, hx13⟩ : ∃ z : Int32 × Int64 × Int64 × Int64, z = (fnrA m0 q3 lw) := ⟨_, rfl⟩
      rw [← hx13] at hQ13
      obtain ⟨rfl, Nq13, J13⟩ := hQ13
      obtain ⟨w13_e, w13_lowest, w13_marks, w13_states, w13_live, w13_open, w13_am, w13_as, w13_al, w13_ga, w13_gm, w13_gs, w13_gl, w13_1, w13_2, w13_3, w13_4, w13_5, w13_6⟩ := J13
      have Z13 : n0 ≤ T13.heap.size := Nat.le_of_lt (Nat.lt_of_le_of_lt w13_ga w13_e.lt)
      have N13 := Fr.app N7 Nq13
      have pre13 : ∀ t, Steps p.tables e below (T13.setTop (mkF m 38 #[.val (.ref a1), .val (.int (1 : Int32)), .val (.long q3), .second, .val (.long m1), .second] [(.int x13.1)])) t → Steps p.tables e below (s₁.setTop (entryFrame m #[(.ref a1), (.int (1 : Int32)), (.long q3)] 6)) t := fun t k => pre12 t (st13.trans k)
      obtain ⟨u46s0, hu46s0⟩ : ∃ z : Int32, z = (if x13.1 = (0 : Int32) then (0 : Int32) else (1 : Int32)) := ⟨_, rfl⟩
      have pre14 : ∀ t, Steps p.tables e below (T13.setTop (mkF m 46 #[.val (.ref a1), .val (.int (1 : Int32)), .val (.long q3), .second, .val (.long m1), .second] [(.int u46s0)])) t → Steps p.tables e below (s₁.setTop (entryFrame m #[(.ref a1), (.int (1 : Int32)), (.long q3)] 6)) t := by
        intro t k
        subst hu46s0
        refine pre13 t ?_
        by_cases hb38 : x13.1 = (0 : Int32)
        · simp only [if_pos hb38] at k
          refine XS.ifYes X13.here hx rfl (pc0 := 38) (pc' := 45) rfl (hb hby d4_38) rfl ((if0 _ _).trans (teq hb38).1) (by decide) (by decide) ?_
          show Steps p.tables e below (T13.setTop (mkF m 45 #[.val (.ref a1), .val (.int (1 : Int32)), .val (.long q3), .second, .val (.long m1), .second] [])) _
          refine XS.iconst X13.here hx rfl (hb hby d4_45) ?_
          show Steps p.tables e below (T13.setTop (mkF m 46 #[.val (.ref a1), .val (.int (1 : Int32)), .val (.long q3), .second, .val (.long m1), .second] [(.int (0 : Int32))])) _
          exact k
        · simp only [if_neg hb38] at k
          refine XS.ifNo X13.here hx rfl (hb hby d4_38) rfl ((if0 _ _).trans (feq hb38).1) ?_
          show Steps p.tables e below (T13.setTop (mkF m 41 #[.val (.ref a1), .val (.int (1 : Int32)), .val (.long q3), .second, .val (.long m1), .second] [])) _
          refine XS.iconst X13.here hx rfl (hb hby d4_41) ?_
          show Steps p.tables e below (T13.setTop (mkF m 42 #[.val (.ref a1), .val (.int (1 : Int32)), .val (.long q3), .second, .val (.long m1), .second] [(.int (1 : Int32))])) _
          refine XS.goto X13.here hx rfl (pc0 := 42) (pc' := 46) rfl (hb hby d4_42) (by decide) (by decide) ?_
          show Steps p.tables e below (T13.setTop (mkF m 46 #[.val (.ref a1), .val (.int (1 : Int32)), .val (.long q3), .second, .val (.long m1), .second] [(.int (1 : Int32))])) _
          exact k
      obtain ⟨fs, hr, hrun, hended, hW, hsame⟩ := X13.leave (v := some (.int (nar .boolean u46s0))) (fun h => by rw [Bd.returns] at h; cases h)
      refine ⟨_, _, pre14 _ ?_, hrun, hended, _, _, rfl, ?_, ⟨_, rfl⟩, hW, hsame.mono (by decide) (by decide)⟩
      · show Steps p.tables e below (T13.setTop (mkF m 46 #[.val (.ref a1), .val (.int (1 : Int32)), .val (.long q3), .second, .val (.long m1), .second] [(.int u46s0)])) _
        exact retN X13 hx (t := .boolean) Bd.returns (by simp) (hb hby d4_46) hr
      · show Qa1 Z a1 q3 bm bs bl m0 m1 lw l0 l1 h0 n0 _ T13.heap _
        have hfn : fna1 q3 m0 m1 lw = ((nar .boolean u46s0), x13.2.1, x13.2.2.1, x13.2.2.2) := by
          subst hu46s0 hx13
          simp only [fna1, if_pos hc12, if_neg hc31]
        unfold Qa1
        rw [hfn]
        exact ⟨rfl, N13, ⟨w13_e, w13_lowest, w13_marks, w13_states, w13_live, w13_open, w13_am, w13_as, w13_al, w13_ga, w13_gm, w13_gs, w13_gl, w13_1, w13_2, w13_3, w13_4, w13_5, w13_6⟩⟩
  · have pre15 : ∀ t, Steps p.tables e below (T2.setTop (mkF m 16 #[.val (.ref a1), .val (.int (1 : Int32)), .val (.long q3), .second, .val (.long m1), .second] [(.int (0 : Int32))])) t → Steps p.tables e below (s₁.setTop (entryFrame m #[(.ref a1), (.int (1 : Int32)), (.long q3)] 6)) t := by
      intro t k
      refine pre3 t ?_
      refine XS.ifNo X2.here hx rfl (hb hby d4_12) rfl (own_Fgt hc12).1 ?_
      show Steps p.tables e below (T2.setTop (mkF m 15 #[.val (.ref a1), .val (.int (1 : Int32)), .val (.long q3), .second, .val (.long m1), .second] [])) _
      refine XS.iconst X2.here hx rfl (hb hby d4_15) ?_
      show Steps p.tables e below (T2.setTop (mkF m 16 #[.val (.ref a1), .val (.int (1 : Int32)), .val (.long q3), .second, .val (.long m1), .second] [(.int (0 : Int32))])) _
      exact k
    obtain ⟨fs, hr, hrun, hended, hW, hsame⟩ := X2.leave (v := some (.int (nar .boolean (0 : Int32)))) (fun h => by rw [Bd.returns] at h; cases h)
    refine ⟨_, _, pre15 _ ?_, hrun, hended, _, _, rfl, ?_, ⟨_, rfl⟩, hW, hsame.mono (by decide) (by decide)⟩
    · show Steps p.tables e below (T2.setTop (mkF m 16 #[.val (.ref a1), .val (.int (1 : Int32)), .val (.long q3), .second, .val (.long m1), .second] [(.int (0 : Int32))])) _
      exact retN X2 hx (t := .boolean) Bd.returns (by simp) (hb hby d4_16) hr
    · show Qa1 Z a1 q3 bm bs bl m0 m1 lw l0 l1 h0 n0 _ T2.heap _
      rw [e2]
      have hfn : fna1 q3 m0 m1 lw = ((nar .boolean (0 : Int32)), m0, m1, lw) := by
        simp only [fna1, if_neg hc12]
      unfold Qa1
      rw [hfn]
      exact ⟨rfl, N0, ⟨w_e, w_lowest, w_marks, w_states, w_live, w_open, w_am, w_as, w_al, w_ga, w_gm, w_gs, w_gl, w_1, w_2, w_3, w_4, w_5, w_6⟩⟩
/-! body 4: raise -/
theorem pda2_0 : parseMethodDescriptor "()Z" = some ⟨[], some .boolean⟩ := by decide +kernel
theorem pna2 : plainName "sluice/stream/Watermarks" = true := by first | (simp [plainName, overriddenIn]; done) | decide +kernel
theorem efa2 (m : MethodId) (a1 : Addr) (q3 : Int64) : entryFrame m #[(.ref a1), (.int (1 : Int32)), (.long q3)] 6 = mkF m 0 #[.val (.ref a1), .val (.int (1 : Int32)), .val (.long q3), .second, .unset, .unset] [] := by first | (simp [entryFrame, mkF, argsToLocals, Value.category]; done) | rfl
def fna2 (q3 : Int64) (m0 m1 lw : Int64) : Int32 × Int64 × Int64 × Int64 :=
  if m1 < q3 then
    if lw < m1 then
      ((nar .boolean (0 : Int32)), m0, q3, lw)
    else
      let x13 : Int32 × Int64 × Int64 × Int64 := (fnrB m0 q3 lw)
      let u46s0 : Int32 := (if x13.1 = (0 : Int32) then (0 : Int32) else (1 : Int32))
      ((nar .boolean u46s0), x13.2.1, x13.2.2.1, x13.2.2.2)
  else
    ((nar .boolean (0 : Int32)), m0, m1, lw)
def Qa2 (Z : State) (a1 : Addr) (q3 : Int64) (bm bs bl : Addr) (m0 m1 lw : Int64) (l0 l1 : Int32) (h0 : Heap) (n0 : Nat) (v : Option Value) (h : Heap) (L : List Loc) : Prop := v = some (.int (fna2 q3 m0 m1 lw).1) ∧ Fr n0 L ∧ own_W Z h n0 a1 bm bs bl (fna2 q3 m0 m1 lw).2.1 (fna2 q3 m0 m1 lw).2.2.1 (fna2 q3 m0 m1 lw).2.2.2 (1 : Int32) (0 : Int32) l0 l1 (2 : Int32)
set_option maxRecDepth 65536 in
set_option maxHeartbeats 40000000 in
theorem rma2 (l : Launch) (Z : State) (a0 : Array Value) (hw : ∀ d ∈ tables_1, d.before a0 Z = true) (ws : List Jvm.Cond) (a1 : Addr) (q3 : Int64) (bm bs bl : Addr) (m0 m1 lw : Int64) (l0 l1 : Int32) (h0 : Heap) (n0 : Nat) (Z0 : n0 ≤ h0.size) (I0 : own_W Z h0 n0 a1 bm bs bl m0 m1 lw (1 : Int32) (0 : Int32) l0 l1 (2 : Int32)) :
    MetFree l (⟨"sluice/stream/Watermarks", "raise", "(IJ)Z"⟩ : MethodName) (head1 (Jvm.Cond.code (⟨"sluice/stream/Watermarks", "raise", "(IJ)Z"⟩ : MethodName) prog_183_method_5_code 6 (some .boolean) :: ws) ({ frames := 2, cells := 0, slots := 0, locals := 35 } : Room)) (fun a U => a = #[(.ref a1), (.int (1 : Int32)), (.long q3)] ∧ Z.Warmed39 U.vm ∧ U.heap = h0) (fun _ _ _ _ _ => True) (fun _ U o U' => ∃ v L, o = .returned v ∧ Qa2 Z a1 q3 bm bs bl m0 m1 lw l0 l1 h0 n0 v U'.heap L ∧ FrameEnd U o U' L ({ frames := 2, cells := 0, slots := 0, locals := 35 } : Room).cells ({ frames := 2, cells := 0, slots := 0, locals := 35 } : Room).slots) := by
  refine MetFree.of_bodySF (plainFor_of_name pna2) hisR ?_
  intro p e s m args below meth c s₁ Bd hml0 hP hK
  obtain ⟨rfl, hZ, hh⟩ := hP
  have hx := Bd.exec
  have hby := Bd.bytes
  have hml : c.maxLocals = 6 := hml0
  have hown : s.vm.findClass "sluice/stream/Watermarks" = some m.cls := findClass_of_methodNamed Bd.named
  have hnm := (name_of_methodNamed Bd.named Bd.method).1
  have X0 : Stand p l e ({ frames := 2, cells := 0, slots := 0, locals := 35 } : Room) s m #[(.ref a1), (.int (1 : Int32)), (.long q3)] below meth c s₁ [] 0 0 := Stand.of_body Bd
  have e0 : s₁.heap = h0 := by rw [← hh, Bd.state]; rfl
  have N0 := Fr.nil n0
  have pre0 : ∀ t, Steps p.tables e below (s₁.setTop (mkF m 0 #[.val (.ref a1), .val (.int (1 : Int32)), .val (.long q3), .second, .unset, .unset] [])) t → Steps p.tables e below (s₁.setTop (entryFrame m #[(.ref a1), (.int (1 : Int32)), (.long q3)] 6)) t := fun t k => castTop (efa2 m a1 q3) k
  obtain ⟨w_e, w_lowest, w_marks, w_states, w_live, w_open, w_am, w_as, w_al, w_ga, w_gm, w_gs, w_gl, w_1, w_2, w_3, w_4, w_5, w_6⟩ := I0
  have pre1 : ∀ t, Steps p.tables e below (s₁.setTop (mkF m 1 #[.val (.ref a1), .val (.int (1 : Int32)), .val (.long q3), .second, .unset, .unset] [(.ref a1)])) t → Steps p.tables e below (s₁.setTop (entryFrame m #[(.ref a1), (.int (1 : Int32)), (.long q3)] 6)) t := by
    intro t k
    refine pre0 t ?_
    show Steps p.tables e below (s₁.setTop (mkF m 0 #[.val (.ref a1), .val (.int (1 : Int32)), .val (.long q3), .second, .unset, .unset] [])) _
    refine XS.aloadN X0.here hx rfl (hb hby d4_0) rfl rfl ?_
    show Steps p.tables e below (s₁.setTop (mkF m 1 #[.val (.ref a1), .val (.int (1 : Int32)), .val (.long q3), .second, .unset, .unset] [(.ref a1)])) _
    exact k
  obtain ⟨T2, X2, e2, st2⟩ := getF X0 hx hZ hown (host := "") (Or.inl (hw _ (List.mem_of_getElem? (i := 14) rfl))) Via.refl e0 w_marks (g := (mkF m 1 #[.val (.ref a1), .val (.int (1 : Int32)), .val (.long q3), .second, .unset, .unset] [(.ref a1)])) rfl rfl (hb hby d4_1)
  have pre2 : ∀ t, Steps p.tables e below (T2.setTop (mkF m 4 #[.val (.ref a1), .val (.int (1 : Int32)), .val (.long q3), .second, .unset, .unset] [(.ref bm)])) t → Steps p.tables e below (s₁.setTop (entryFrame m #[(.ref a1), (.int (1 : Int32)), (.long q3)] 6)) t := fun t k => pre1 t (st2 _ k)
  have pre3 : ∀ t, Steps p.tables e below (T2.setTop (mkF m 12 #[.val (.ref a1), .val (.int (1 : Int32)), .val (.long q3), .second, .val (.long m1), .second] [(.int (lcmpW q3 m1))])) t → Steps p.tables e below (s₁.setTop (entryFrame m #[(.ref a1), (.int (1 : Int32)), (.long q3)] 6)) t := by
    intro t k
    refine pre2 t ?_
    refine XS.iloadN X2.here hx rfl (hb hby d4_4) rfl ?_
    show Steps p.tables e below (T2.setTop (mkF m 5 #[.val (.ref a1), .val (.int (1 : Int32)), .val (.long q3), .second, .unset, .unset] [(.int (1 : Int32)), (.ref bm)])) _
    refine own_ldJ X2 hx hZ e2 w_am (by decide) (by decide) (g := (mkF m 5 #[.val (.ref a1), .val (.int (1 : Int32)), .val (.long q3), .second, .unset, .unset] [(.int (1 : Int32)), (.ref bm)])) rfl rfl (hb hby d4_5) _ ?_
    show Steps p.tables e below (T2.setTop (mkF m 6 #[.val (.ref a1), .val (.int (1 : Int32)), .val (.long q3), .second, .unset, .unset] [(.long m1)])) _
    refine XS.lstore X2.here hx rfl (hb hby d4_6) rfl (l' := #[.val (.ref a1), .val (.int (1 : Int32)), .val (.long q3), .second, .val (.long m1), .second]) rfl ?_
    show Steps p.tables e below (T2.setTop (mkF m 8 #[.val (.ref a1), .val (.int (1 : Int32)), .val (.long q3), .second, .val (.long m1), .second] [])) _
    refine XS.lloadN X2.here hx rfl (hb hby d4_8) rfl ?_
    show Steps p.tables e below (T2.setTop (mkF m 9 #[.val (.ref a1), .val (.int (1 : Int32)), .val (.long q3), .second, .val (.long m1), .second] [(.long q3)])) _
    refine XS.lload X2.here hx rfl (hb hby d4_9) rfl ?_
    show Steps p.tables e below (T2.setTop (mkF m 11 #[.val (.ref a1), .val (.int (1 : Int32)), .val (.long q3), .second, .val (.long m1), .second] [(.long m1), (.long q3)])) _
    refine XS.lcmp X2.here hx rfl (hb hby d4_11) rfl ?_
    show Steps p.tables e below (T2.setTop (mkF m 12 #[.val (.ref a1), .val (.int (1 : Int32)), .val (.long q3), .second, .val (.long m1), .second] [(.int (lcmpW q3 m1))])) _
    exact k
  by_cases hc12 : m1 < q3
  · have pre4 : ∀ t, Steps p.tables e below (T2.setTop (mkF m 18 #[.val (.ref a1), .val (.int (1 : Int32)), .val (.long q3), .second, .val (.long m1), .second] [(.ref a1)])) t → Steps p.tables e below (s₁.setTop (entryFrame m #[(.ref a1), (.int (1 : Int32)), (.long q3)] 6)) t := by
      intro t k
      refine pre3 t ?_
      refine XS.ifYes X2.here hx rfl (pc0 := 12) (pc' := 17) rfl (hb hby d4_12) rfl (own_Tgt hc12).1 (by decide) (by decide) ?_
      show Steps p.tables e below (T2.setTop (mkF m 17 #[.val (.ref a1), .val (.int (1 : Int32)), .val (.long q3), .second, .val (.long m1), .second] [])) _
      refine XS.aloadN X2.here hx rfl (hb hby d4_17) rfl rfl ?_
      show Steps p.tables e below (T2.setTop (mkF m 18 #[.val (.ref a1), .val (.int (1 : Int32)), .val (.long q3), .second, .val (.long m1), .second] [(.ref a1)])) _
      exact k
    obtain ⟨T5, X5, e5, st5⟩ := getF X2 hx hZ hown (host := "") (Or.inl (hw _ (List.mem_of_getElem? (i := 14) rfl))) Via.refl e2 w_marks (g := (mkF m 18 #[.val (.ref a1), .val (.int (1 : Int32)), .val (.long q3), .second, .val (.long m1), .second] [(.ref a1)])) rfl rfl (hb hby d4_18)
    have pre5 : ∀ t, Steps p.tables e below (T5.setTop (mkF m 21 #[.val (.ref a1), .val (.int (1 : Int32)), .val (.long q3), .second, .val (.long m1), .second] [(.ref bm)])) t → Steps p.tables e below (s₁.setTop (entryFrame m #[(.ref a1), (.int (1 : Int32)), (.long q3)] 6)) t := fun t k => pre4 t (st5 _ k)
    have pre6 : ∀ t, Steps p.tables e below (T5.setTop (mkF m 23 #[.val (.ref a1), .val (.int (1 : Int32)), .val (.long q3), .second, .val (.long m1), .second] [(.long q3), (.int (1 : Int32)), (.ref bm)])) t → Steps p.tables e below (s₁.setTop (entryFrame m #[(.ref a1), (.int (1 : Int32)), (.long q3)] 6)) t := by
      intro t k
      refine pre5 t ?_
      refine XS.iloadN X5.here hx rfl (hb hby d4_21) rfl ?_
      show Steps p.tables e below (T5.setTop (mkF m 22 #[.val (.ref a1), .val (.int (1 : Int32)), .val (.long q3), .second, .val (.long m1), .second] [(.int (1 : Int32)), (.ref bm)])) _
      refine XS.lloadN X5.here hx rfl (hb hby d4_22) rfl ?_
      show Steps p.tables e below (T5.setTop (mkF m 23 #[.val (.ref a1), .val (.int (1 : Int32)), .val (.long q3), .second, .val (.long m1), .second] [(.long q3), (.int (1 : Int32)), (.ref bm)])) _
      exact k
    obtain ⟨T7, h7, X7, e7, W7, V7, st7⟩ := own_stJ X5 hx hZ e5 w_am (by decide) (by decide) (g := (mkF m 23 #[.val (.ref a1), .val (.int (1 : Int32)), .val (.long q3), .second, .val (.long m1), .second] [(.long q3), (.int (1 : Int32)), (.ref bm)])) rfl rfl (hb hby d4_23)
    have F7_0 := w_lowest.other W7 (Or.inl w_1)
    have F7_1 := w_marks.other W7 (Or.inl w_1)
    have F7_2 := w_states.other W7 (Or.inl w_1)
    have F7_3 := w_live.other W7 (Or.inl w_1)
    have F7_4 := w_open.other W7 (Or.inl w_1)
    have F7_5 := w_e.wr W7
    have F7_6 := V7
    have F7_7 := w_as.other W7 (Ne.symm w_4)
    have F7_8 := w_al.other W7 (Ne.symm w_5)
    have Z7 : n0 ≤ h7.size := Nat.le_trans Z0 (Keep.of_wr W7).1
    have N7 := Fr.snoc X7 N0 w_gm
    have U7 : own_AJ Z h7 bm (2 : Int32) (own_2 m0 q3) := own_AJ.st1 F7_6
    have pre7 : ∀ t, Steps p.tables e below (T7.setTop (mkF m 24 #[.val (.ref a1), .val (.int (1 : Int32)), .val (.long q3), .second, .val (.long m1), .second] [])) t → Steps p.tables e below (s₁.setTop (entryFrame m #[(.ref a1), (.int (1 : Int32)), (.long q3)] 6)) t := fun t k => pre6 t (st7 _ k)
    have pre8 : ∀ t, Steps p.tables e below (T7.setTop (mkF m 27 #[.val (.ref a1), .val (.int (1 : Int32)), .val (.long q3), .second, .val (.long m1), .second] [(.ref a1), (.long m1)])) t → Steps p.tables e below (s₁.setTop (entryFrame m #[(.ref a1), (.int (1 : Int32)), (.long q3)] 6)) t := by
      intro t k
      refine pre7 t ?_
      refine XS.lload X7.here hx rfl (hb hby d4_24) rfl ?_
      show Steps p.tables e below (T7.setTop (mkF m 26 #[.val (.ref a1), .val (.int (1 : Int32)), .val (.long q3), .second, .val (.long m1), .second] [(.long m1)])) _
      refine XS.aloadN X7.here hx rfl (hb hby d4_26) rfl rfl ?_
      show Steps p.tables e below (T7.setTop (mkF m 27 #[.val (.ref a1), .val (.int (1 : Int32)), .val (.long q3), .second, .val (.long m1), .second] [(.ref a1), (.long m1)])) _
      exact k
    obtain ⟨T9, X9, e9, st9⟩ := getF X7 hx hZ hown (host := "") (Or.inl (hw _ (List.mem_of_getElem? (i := 11) rfl))) Via.refl e7 F7_0 (g := (mkF m 27 #[.val (.ref a1), .val (.int (1 : Int32)), .val (.long q3), .second, .val (.long m1), .second] [(.ref a1), (.long m1)])) rfl rfl (hb hby d4_27)
    have pre9 : ∀ t, Steps p.tables e below (T9.setTop (mkF m 30 #[.val (.ref a1), .val (.int (1 : Int32)), .val (.long q3), .second, .val (.long m1), .second] [(.long lw), (.long m1)])) t → Steps p.tables e below (s₁.setTop (entryFrame m #[(.ref a1), (.int (1 : Int32)), (.long q3)] 6)) t := fun t k => pre8 t (st9 _ k)
    have pre10 : ∀ t, Steps p.tables e below (T9.setTop (mkF m 31 #[.val (.ref a1), .val (.int (1 : Int32)), .val (.long q3), .second, .val (.long m1), .second] [(.int (lcmpW m1 lw))])) t → Steps p.tables e below (s₁.setTop (entryFrame m #[(.ref a1), (.int (1 : Int32)), (.long q3)] 6)) t := by
      intro t k
      refine pre9 t ?_
      refine XS.lcmp X9.here hx rfl (hb hby d4_30) rfl ?_
      show Steps p.tables e below (T9.setTop (mkF m 31 #[.val (.ref a1), .val (.int (1 : Int32)), .val (.long q3), .second, .val (.long m1), .second] [(.int (lcmpW m1 lw))])) _
      exact k
    by_cases hc31 : lw < m1
    · have pre11 : ∀ t, Steps p.tables e below (T9.setTop (mkF m 46 #[.val (.ref a1), .val (.int (1 : Int32)), .val (.long q3), .second, .val (.long m1), .second] [(.int (0 : Int32))])) t → Steps p.tables e below (s₁.setTop (entryFrame m #[(.ref a1), (.int (1 : Int32)), (.long q3)] 6)) t := by
        intro t k
        refine pre10 t ?_
        refine XS.ifYes X9.here hx rfl (pc0 := 31) (pc' := 45) rfl (hb hby d4_31) rfl (own_Tgt hc31).1 (by decide) (by decide) ?_
        show Steps p.tables e below (T9.setTop (mkF m 45 #[.val (.ref a1), .val (.int (1 : Int32)), .val (.long q3), .second, .val (.long m1), .second] [])) _
        refine XS.iconst X9.here hx rfl (hb hby d4_45) ?_
        show Steps p.tables e below (T9.setTop (mkF m 46 #[.val (.ref a1), .val (.int (1 : Int32)), .val (.long q3), .second, .val (.long m1), .second] [(.int (0 : Int32))])) _
        exact k
      obtain ⟨fs, hr, hrun, hended, hW, hsame⟩ := X9.leave (v := some (.int (nar .boolean (0 : Int32)))) (fun h => by rw [Bd.returns] at h; cases h)
      refine ⟨_, _, pre11 _ ?_, hrun, hended, _, _, rfl, ?_, ⟨_, rfl⟩, hW, hsame.mono (by decide) (by decide)⟩
      · show Steps p.tables e below (T9.setTop (mkF m 46 #[.val (.ref a1), .val (.int (1 : Int32)), .val (.long q3), .second, .val (.long m1), .second] [(.int (0 : Int32))])) _
        exact retN X9 hx (t := .boolean) Bd.returns (by simp) (hb hby d4_46) hr
      · show Qa2 Z a1 q3 bm bs bl m0 m1 lw l0 l1 h0 n0 _ T9.heap _
        rw [e9]
        have hfn : fna2 q3 m0 m1 lw = ((nar .boolean (0 : Int32)), m0, q3, lw) := by
          simp only [fna2, if_pos hc12, if_pos hc31]
        unfold Qa2
        rw [hfn]
        exact ⟨rfl, N7, ⟨F7_5, F7_0, F7_1, F7_2, F7_3, F7_4, U7, F7_7, F7_8, w_ga, w_gm, w_gs, w_gl, w_1, w_2, w_3, w_4, w_5, w_6⟩⟩
    · have pre12 : ∀ t, Steps p.tables e below (T9.setTop (mkF m 35 #[.val (.ref a1), .val (.int (1 : Int32)), .val (.long q3), .second, .val (.long m1), .second] [(.ref a1)])) t → Steps p.tables e below (s₁.setTop (entryFrame m #[(.ref a1), (.int (1 : Int32)), (.long q3)] 6)) t := by
        intro t k
        refine pre10 t ?_
        refine XS.ifNo X9.here hx rfl (hb hby d4_31) rfl (own_Fgt hc31).1 ?_
        show Steps p.tables e below (T9.setTop (mkF m 34 #[.val (.ref a1), .val (.int (1 : Int32)), .val (.long q3), .second, .val (.long m1), .second] [])) _
        refine XS.aloadN X9.here hx rfl (hb hby d4_34) rfl rfl ?_
        show Steps p.tables e below (T9.setTop (mkF m 35 #[.val (.ref a1), .val (.int (1 : Int32)), .val (.long q3), .second, .val (.long m1), .second] [(.ref a1)])) _
        exact k
      obtain ⟨cq13, q13, q13'⟩ := F7_5.cell
      obtain ⟨_, _, ⟨T13, L13, k13, n13⟩, -, X13, ⟨Lc13, hQ13, l13, y13, z13⟩, st13⟩ := X9.privateBack hx (y := (⟨"sluice/stream/Watermarks", "rise", "()Z"⟩ : MethodName)) hown (mvT hZ (hw _ (List.mem_of_getElem? (i := 33) rfl))) (mvT hZ (hw _ (List.mem_of_getElem? (i := 34) rfl))) (mvT hZ (Jvm.Kit.selects_private (by decide) (hw _ (List.mem_of_getElem? (i := 2) rfl)) (hw _ (List.mem_of_getElem? (i := 35) rfl)) (hw _ (List.mem_of_getElem? (i := 34) rfl)))) (Cond.privateMethod_at (mvP hZ (hw _ (List.mem_of_getElem? (i := 35) rfl)) (args := #[]))) (mvT hZ (hw _ (List.mem_of_getElem? (i := 36) rfl))) (by decide) (backOf (W := 0) (rmrB l Z a0 hw [] a1 bm bs bl m0 q3 lw l0 l1 h7 n0 Z7 ⟨F7_5, F7_0, F7_1, F7_2, F7_3, F7_4, U7, F7_7, F7_8, w_ga, w_gm, w_gs, w_gl, w_1, w_2, w_3, w_4, w_5, w_6⟩) hZ (hw _ (List.mem_of_getElem? (i := 36) rfl)) (hw _ (List.mem_of_getElem? (i := 3) rfl)) (by decide) (by decide)) (g := (mkF m 35 #[.val (.ref a1), .val (.int (1 : Int32)), .val (.long q3), .second, .val (.long m1), .second] [(.ref a1)])) rfl (by rw [hml]; rfl) (Steps.refl _) (a := a1) (by rw [e9]; exact q13) q13' (argsL := []) (rest := []) (lenOf pda2_0 rfl) rfl (by show 2 * 0 + _ ≤ _; exact Nat.le_of_eq rfl) (hb hby d4_35) (fun _ _ => ⟨rfl, e9, (by decide : 0 + 0 ≤ _), (by decide : 0 + 0 ≤ _)⟩)
      dsimp only [Pt.U, Pt.locs, Pt.cells, Pt.slots] at X13 l13 y13 z13 st13 hQ13
      subst l13 y13 z13
      unfold QrB at hQ13
      obtain ⟨x13, hx13⟩ : ∃ z : Int32 × Int64 × Int64 × Int64, z = (fnrB m0 q3 lw) := ⟨_, rfl⟩
      rw [← hx13] at hQ13
      obtain ⟨rfl, Nq13, J13⟩ := hQ13
      obtain ⟨w13_e, w13_lowest, w13_marks, w13_states, w13_live, w13_open, w13_am, w13_as, w13_al, w13_ga, w13_gm, w13_gs, w13_gl, w13_1, w13_2, w13_3, w13_4, w13_5, w13_6⟩ := J13
      have Z13 : n0 ≤ T13.heap.size := Nat.le_of_lt (Nat.lt_of_le_of_lt w13_ga w13_e.lt)
      have N13 := Fr.app N7 Nq13
      have pre13 : ∀ t, Steps p.tables e below (T13.setTop (mkF m 38 #[.val (.ref a1), .val (.int (1 : Int32)), .val (.long q3), .second, .val (.long m1), .second] [(.int x13.1)])) t → Steps p.tables e below (s₁.setTop (entryFrame m #[(.ref a1), (.int (1 : Int32)), (.long q3)] 6)) t := fun t k => pre12 t (st13.trans k)
      obtain ⟨u46s0, hu46s0⟩ : ∃ z : Int32, z = (if x13.1 = (0 : Int32) then (0 : Int32) else (1 : Int32)) := ⟨_, rfl⟩
      have pre14 : ∀ t, Steps p.tables e below (T13.setTop (mkF m 46 #[.val (.ref a1), .val (.int (1 : Int32)), .val (.long q3), .second, .val (.long m1), .second] [(.int u46s0)])) t → Steps p.tables e below (s₁.setTop (entryFrame m #[(.ref a1), (.int (1 : Int32)), (.long q3)] 6)) t := by
        intro t k
        subst hu46s0
        refine pre13 t ?_
        by_cases hb38 : x13.1 = (0 : Int32)
        · simp only [if_pos hb38] at k
          refine XS.ifYes X13.here hx rfl (pc0 := 38) (pc' := 45) rfl (hb hby d4_38) rfl ((if0 _ _).trans (teq hb38).1) (by decide) (by decide) ?_
          show Steps p.tables e below (T13.setTop (mkF m 45 #[.val (.ref a1), .val (.int (1 : Int32)), .val (.long q3), .second, .val (.long m1), .second] [])) _
          refine XS.iconst X13.here hx rfl (hb hby d4_45) ?_
          show Steps p.tables e below (T13.setTop (mkF m 46 #[.val (.ref a1), .val (.int (1 : Int32)), .val (.long q3), .second, .val (.long m1), .second] [(.int (0 : Int32))])) _
          exact k
        · simp only [if_neg hb38] at k
          refine XS.ifNo X13.here hx rfl (hb hby d4_38) rfl ((if0 _ _).trans (feq hb38).1) ?_
          show Steps p.tables e below (T13.setTop (mkF m 41 #[.val (.ref a1), .val (.int (1 : Int32)), .val (.long q3), .second, .val (.long m1), .second] [])) _
          refine XS.iconst X13.here hx rfl (hb hby d4_41) ?_
          show Steps p.tables e below (T13.setTop (mkF m 42 #[.val (.ref a1), .val (.int (1 : Int32)), .val (.long q3), .second, .val (.long m1), .second] [(.int (1 : Int32))])) _
          refine XS.goto X13.here hx rfl (pc0 := 42) (pc' := 46) rfl (hb hby d4_42) (by decide) (by decide) ?_
          show Steps p.tables e below (T13.setTop (mkF m 46 #[.val (.ref a1), .val (.int (1 : Int32)), .val (.long q3), .second, .val (.long m1), .second] [(.int (1 : Int32))])) _
          exact k
      obtain ⟨fs, hr, hrun, hended, hW, hsame⟩ := X13.leave (v := some (.int (nar .boolean u46s0))) (fun h => by rw [Bd.returns] at h; cases h)
      refine ⟨_, _, pre14 _ ?_, hrun, hended, _, _, rfl, ?_, ⟨_, rfl⟩, hW, hsame.mono (by decide) (by decide)⟩
      · show Steps p.tables e below (T13.setTop (mkF m 46 #[.val (.ref a1), .val (.int (1 : Int32)), .val (.long q3), .second, .val (.long m1), .second] [(.int u46s0)])) _
        exact retN X13 hx (t := .boolean) Bd.returns (by simp) (hb hby d4_46) hr
      · show Qa2 Z a1 q3 bm bs bl m0 m1 lw l0 l1 h0 n0 _ T13.heap _
        have hfn : fna2 q3 m0 m1 lw = ((nar .boolean u46s0), x13.2.1, x13.2.2.1, x13.2.2.2) := by
          subst hu46s0 hx13
          simp only [fna2, if_pos hc12, if_neg hc31]
        unfold Qa2
        rw [hfn]
        exact ⟨rfl, N13, ⟨w13_e, w13_lowest, w13_marks, w13_states, w13_live, w13_open, w13_am, w13_as, w13_al, w13_ga, w13_gm, w13_gs, w13_gl, w13_1, w13_2, w13_3, w13_4, w13_5, w13_6⟩⟩
  · have pre15 : ∀ t, Steps p.tables e below (T2.setTop (mkF m 16 #[.val (.ref a1), .val (.int (1 : Int32)), .val (.long q3), .second, .val (.long m1), .second] [(.int (0 : Int32))])) t → Steps p.tables e below (s₁.setTop (entryFrame m #[(.ref a1), (.int (1 : Int32)), (.long q3)] 6)) t := by
      intro t k
      refine pre3 t ?_
      refine XS.ifNo X2.here hx rfl (hb hby d4_12) rfl (own_Fgt hc12).1 ?_
      show Steps p.tables e below (T2.setTop (mkF m 15 #[.val (.ref a1), .val (.int (1 : Int32)), .val (.long q3), .second, .val (.long m1), .second] [])) _
      refine XS.iconst X2.here hx rfl (hb hby d4_15) ?_
      show Steps p.tables e below (T2.setTop (mkF m 16 #[.val (.ref a1), .val (.int (1 : Int32)), .val (.long q3), .second, .val (.long m1), .second] [(.int (0 : Int32))])) _
      exact k
    obtain ⟨fs, hr, hrun, hended, hW, hsame⟩ := X2.leave (v := some (.int (nar .boolean (0 : Int32)))) (fun h => by rw [Bd.returns] at h; cases h)
    refine ⟨_, _, pre15 _ ?_, hrun, hended, _, _, rfl, ?_, ⟨_, rfl⟩, hW, hsame.mono (by decide) (by decide)⟩
    · show Steps p.tables e below (T2.setTop (mkF m 16 #[.val (.ref a1), .val (.int (1 : Int32)), .val (.long q3), .second, .val (.long m1), .second] [(.int (0 : Int32))])) _
      exact retN X2 hx (t := .boolean) Bd.returns (by simp) (hb hby d4_16) hr
    · show Qa2 Z a1 q3 bm bs bl m0 m1 lw l0 l1 h0 n0 _ T2.heap _
      rw [e2]
      have hfn : fna2 q3 m0 m1 lw = ((nar .boolean (0 : Int32)), m0, m1, lw) := by
        simp only [fna2, if_neg hc12]
      unfold Qa2
      rw [hfn]
      exact ⟨rfl, N0, ⟨w_e, w_lowest, w_marks, w_states, w_live, w_open, w_am, w_as, w_al, w_ga, w_gm, w_gs, w_gl, w_1, w_2, w_3, w_4, w_5, w_6⟩⟩
/-! body 12: idle -/
theorem d12_0 : decode prog_183_method_7_code 0 = .ok (.aload_n 0, 1) := by decide +kernel
theorem d12_1 : decode prog_183_method_7_code 1 = .ok (.getfield 21, 3) := by decide +kernel
theorem d12_4 : decode prog_183_method_7_code 4 = .ok (.iload_n 1, 1) := by decide +kernel
theorem d12_5 : decode prog_183_method_7_code 5 = .ok (.baload, 1) := by decide +kernel
theorem d12_6 : decode prog_183_method_7_code 6 = .ok (.ifCond .eq 5, 3) := by decide +kernel
theorem d12_11 : decode prog_183_method_7_code 11 = .ok (.aload_n 0, 1) := by decide +kernel
theorem d12_12 : decode prog_183_method_7_code 12 = .ok (.getfield 21, 3) := by decide +kernel
theorem d12_15 : decode prog_183_method_7_code 15 = .ok (.iload_n 1, 1) := by decide +kernel
theorem d12_16 : decode prog_183_method_7_code 16 = .ok (.iconst 1, 1) := by decide +kernel
theorem d12_17 : decode prog_183_method_7_code 17 = .ok (.bastore, 1) := by decide +kernel
theorem d12_18 : decode prog_183_method_7_code 18 = .ok (.aload_n 0, 1) := by decide +kernel
theorem d12_19 : decode prog_183_method_7_code 19 = .ok (.invokevirtual 39, 3) := by decide +kernel
theorem d12_22 : decode prog_183_method_7_code 22 = .ok (.ireturn, 1) := by decide +kernel
theorem pdi0_0 : parseMethodDescriptor "()Z" = some ⟨[], some .boolean⟩ := by decide +kernel
theorem pni0 : plainName "sluice/stream/Watermarks" = true := by first | (simp [plainName, overriddenIn]; done) | decide +kernel
theorem efi0 (m : MethodId) (a1 : Addr) : entryFrame m #[(.ref a1), (.int (0 : Int32))] 2 = mkF m 0 #[.val (.ref a1), .val (.int (0 : Int32))] [] := by first | (simp [entryFrame, mkF, argsToLocals, Value.category]; done) | rfl
def fni0 (m0 m1 lw : Int64) : Int32 × Int64 × Int64 × Int64 :=
  let x8 : Int32 × Int64 × Int64 × Int64 := (fnrB m0 m1 lw)
  ((nar .boolean x8.1), x8.2.1, x8.2.2.1, x8.2.2.2)
def Qi0 (Z : State) (a1 : Addr) (bm bs bl : Addr) (m0 m1 lw : Int64) (l0 l1 : Int32) (h0 : Heap) (n0 : Nat) (v : Option Value) (h : Heap) (L : List Loc) : Prop := v = some (.int (fni0 m0 m1 lw).1) ∧ Fr n0 L ∧ own_W Z h n0 a1 bm bs bl (fni0 m0 m1 lw).2.1 (fni0 m0 m1 lw).2.2.1 (fni0 m0 m1 lw).2.2.2 (1 : Int32) (0 : Int32) l0 l1 (2 : Int32)
set_option maxRecDepth 65536 in
set_option maxHeartbeats 40000000 in
theorem rmi0 (l : Launch) (Z : State) (a0 : Array Value) (hw : ∀ d ∈ tables_1, d.before a0 Z = true) (ws : List Jvm.Cond) (a1 : Addr) (bm bs bl : Addr) (m0 m1 lw : Int64) (l0 l1 : Int32) (h0 : Heap) (n0 : Nat) (Z0 : n0 ≤ h0.size) (I0 : own_W Z h0 n0 a1 bm bs bl m0 m1 lw (0 : Int32) (0 : Int32) l0 l1 (2 : Int32)) :
    MetFree l (⟨"sluice/stream/Watermarks", "idle", "(I)Z"⟩ : MethodName) (head1 (Jvm.Cond.code (⟨"sluice/stream/Watermarks", "idle", "(I)Z"⟩ : MethodName) prog_183_method_7_code 2 (some .boolean) :: ws) ({ frames := 2, cells := 0, slots := 0, locals := 35 } : Room)) (fun a U => a = #[(.ref a1), (.int (0 : Int32))] ∧ Z.Warmed39 U.vm ∧ U.heap = h0) (fun _ _ _ _ _ => True) (fun _ U o U' => ∃ v L, o = .returned v ∧ Qi0 Z a1 bm bs bl m0 m1 lw l0 l1 h0 n0 v U'.heap L ∧ FrameEnd U o U' L ({ frames := 2, cells := 0, slots := 0, locals := 35 } : Room).cells ({ frames := 2, cells := 0, slots := 0, locals := 35 } : Room).slots) := by
  refine MetFree.of_bodySF (plainFor_of_name pni0) hisR ?_
  intro p e s m args below meth c s₁ Bd hml0 hP hK
  obtain ⟨rfl, hZ, hh⟩ := hP
  have hx := Bd.exec
  have hby := Bd.bytes
  have hml : c.maxLocals = 2 := hml0
  have hown : s.vm.findClass "sluice/stream/Watermarks" = some m.cls := findClass_of_methodNamed Bd.named
  have hnm := (name_of_methodNamed Bd.named Bd.method).1
  have X0 : Stand p l e ({ frames := 2, cells := 0, slots := 0, locals := 35 } : Room) s m #[(.ref a1), (.int (0 : Int32))] below meth c s₁ [] 0 0 := Stand.of_body Bd
  have e0 : s₁.heap = h0 := by rw [← hh, Bd.state]; rfl
  have N0 := Fr.nil n0
  have pre0 : ∀ t, Steps p.tables e below (s₁.setTop (mkF m 0 #[.val (.ref a1), .val (.int (0 : Int32))] [])) t → Steps p.tables e below (s₁.setTop (entryFrame m #[(.ref a1), (.int (0 : Int32))] 2)) t := fun t k => castTop (efi0 m a1) k
  obtain ⟨w_e, w_lowest, w_marks, w_states, w_live, w_open, w_am, w_as, w_al, w_ga, w_gm, w_gs, w_gl, w_1, w_2, w_3, w_4, w_5, w_6⟩ := I0
  have pre1 : ∀ t, Steps p.tables e below (s₁.setTop (mkF m 1 #[.val (.ref a1), .val (.int (0 : Int32))] [(.ref a1)])) t → Steps p.tables e below (s₁.setTop (entryFrame m #[(.ref a1), (.int (0 : Int32))] 2)) t := by
    intro t k
    refine pre0 t ?_
    show Steps p.tables e below (s₁.setTop (mkF m 0 #[.val (.ref a1), .val (.int (0 : Int32))] [])) _
    refine XS.aloadN X0.here hx rfl (hb hby d12_0) rfl rfl ?_
    show Steps p.tables e below (s₁.setTop (mkF m 1 #[.val (.ref a1), .val (.int (0 : Int32))] [(.ref a1)])) _
    exact k
  obtain ⟨T2, X2, e2, st2⟩ := getF X0 hx hZ hown (host := "") (Or.inl (hw _ (List.mem_of_getElem? (i := 17) rfl))) Via.refl e0 w_states (g := (mkF m 1 #[.val (.ref a1), .val (.int (0 : Int32))] [(.ref a1)])) rfl rfl (hb hby d12_1)
  have pre2 : ∀ t, Steps p.tables e below (T2.setTop (mkF m 4 #[.val (.ref a1), .val (.int (0 : Int32))] [(.ref bs)])) t → Steps p.tables e below (s₁.setTop (entryFrame m #[(.ref a1), (.int (0 : Int32))] 2)) t := fun t k => pre1 t (st2 _ k)
  have pre3 : ∀ t, Steps p.tables e below (T2.setTop (mkF m 12 #[.val (.ref a1), .val (.int (0 : Int32))] [(.ref a1)])) t → Steps p.tables e below (s₁.setTop (entryFrame m #[(.ref a1), (.int (0 : Int32))] 2)) t := by
    intro t k
    refine pre2 t ?_
    refine XS.iloadN X2.here hx rfl (hb hby d12_4) rfl ?_
    show Steps p.tables e below (T2.setTop (mkF m 5 #[.val (.ref a1), .val (.int (0 : Int32))] [(.int (0 : Int32)), (.ref bs)])) _
    refine own_ldB X2 hx hZ e2 w_as (by decide) (by decide) (g := (mkF m 5 #[.val (.ref a1), .val (.int (0 : Int32))] [(.int (0 : Int32)), (.ref bs)])) rfl rfl (hb hby d12_5) _ ?_
    show Steps p.tables e below (T2.setTop (mkF m 6 #[.val (.ref a1), .val (.int (0 : Int32))] [(.int (0 : Int32))])) _
    refine XS.ifYes X2.here hx rfl (pc0 := 6) (pc' := 11) rfl (hb hby d12_6) rfl ((if0 _ _).trans (teq (by decide : (0 : Int32) = (0 : Int32))).1) (by decide) (by decide) ?_
    show Steps p.tables e below (T2.setTop (mkF m 11 #[.val (.ref a1), .val (.int (0 : Int32))] [])) _
    refine XS.aloadN X2.here hx rfl (hb hby d12_11) rfl rfl ?_
    show Steps p.tables e below (T2.setTop (mkF m 12 #[.val (.ref a1), .val (.int (0 : Int32))] [(.ref a1)])) _
    exact k
  obtain ⟨T4, X4, e4, st4⟩ := getF X2 hx hZ hown (host := "") (Or.inl (hw _ (List.mem_of_getElem? (i := 17) rfl))) Via.refl e2 w_states (g := (mkF m 12 #[.val (.ref a1), .val (.int (0 : Int32))] [(.ref a1)])) rfl rfl (hb hby d12_12)
  have pre4 : ∀ t, Steps p.tables e below (T4.setTop (mkF m 15 #[.val (.ref a1), .val (.int (0 : Int32))] [(.ref bs)])) t → Steps p.tables e below (s₁.setTop (entryFrame m #[(.ref a1), (.int (0 : Int32))] 2)) t := fun t k => pre3 t (st4 _ k)
  have pre5 : ∀ t, Steps p.tables e below (T4.setTop (mkF m 17 #[.val (.ref a1), .val (.int (0 : Int32))] [(.int (1 : Int32)), (.int (0 : Int32)), (.ref bs)])) t → Steps p.tables e below (s₁.setTop (entryFrame m #[(.ref a1), (.int (0 : Int32))] 2)) t := by
    intro t k
    refine pre4 t ?_
    refine XS.iloadN X4.here hx rfl (hb hby d12_15) rfl ?_
    show Steps p.tables e below (T4.setTop (mkF m 16 #[.val (.ref a1), .val (.int (0 : Int32))] [(.int (0 : Int32)), (.ref bs)])) _
    refine XS.iconst X4.here hx rfl (hb hby d12_16) ?_
    show Steps p.tables e below (T4.setTop (mkF m 17 #[.val (.ref a1), .val (.int (0 : Int32))] [(.int (1 : Int32)), (.int (0 : Int32)), (.ref bs)])) _
    exact k
  obtain ⟨T6, h6, X6, e6, W6, V6, st6⟩ := own_stB X4 hx hZ e4 w_as (by decide) (by decide) (g := (mkF m 17 #[.val (.ref a1), .val (.int (0 : Int32))] [(.int (1 : Int32)), (.int (0 : Int32)), (.ref bs)])) rfl rfl (hb hby d12_17)
  have F6_0 := w_lowest.other W6 (Or.inl w_2)
  have F6_1 := w_marks.other W6 (Or.inl w_2)
  have F6_2 := w_states.other W6 (Or.inl w_2)
  have F6_3 := w_live.other W6 (Or.inl w_2)
  have F6_4 := w_open.other W6 (Or.inl w_2)
  have F6_5 := w_e.wr W6
  have F6_6 := w_am.other W6 w_4
  have F6_7 := V6
  have F6_8 := w_al.other W6 (Ne.symm w_6)
  have Z6 : n0 ≤ h6.size := Nat.le_trans Z0 (Keep.of_wr W6).1
  have N6 := Fr.snoc X6 N0 w_gs
  have U6 : own_AI Z h6 bs .byte (2 : Int32) (own_2 (1 : Int32) (0 : Int32)) := own_AI.st0 F6_7
  have pre6 : ∀ t, Steps p.tables e below (T6.setTop (mkF m 18 #[.val (.ref a1), .val (.int (0 : Int32))] [])) t → Steps p.tables e below (s₁.setTop (entryFrame m #[(.ref a1), (.int (0 : Int32))] 2)) t := fun t k => pre5 t (st6 _ k)
  have pre7 : ∀ t, Steps p.tables e below (T6.setTop (mkF m 19 #[.val (.ref a1), .val (.int (0 : Int32))] [(.ref a1)])) t → Steps p.tables e below (s₁.setTop (entryFrame m #[(.ref a1), (.int (0 : Int32))] 2)) t := by
    intro t k
    refine pre6 t ?_
    refine XS.aloadN X6.here hx rfl (hb hby d12_18) rfl rfl ?_
    show Steps p.tables e below (T6.setTop (mkF m 19 #[.val (.ref a1), .val (.int (0 : Int32))] [(.ref a1)])) _
    exact k
  obtain ⟨cq8, q8, q8'⟩ := F6_5.cell
  obtain ⟨_, _, ⟨T8, L8, k8, n8⟩, -, X8, ⟨Lc8, hQ8, l8, y8, z8⟩, st8⟩ := X6.privateBack hx (y := (⟨"sluice/stream/Watermarks", "rise", "()Z"⟩ : MethodName)) hown (mvT hZ (hw _ (List.mem_of_getElem? (i := 33) rfl))) (mvT hZ (hw _ (List.mem_of_getElem? (i := 34) rfl))) (mvT hZ (Jvm.Kit.selects_private (by decide) (hw _ (List.mem_of_getElem? (i := 2) rfl)) (hw _ (List.mem_of_getElem? (i := 35) rfl)) (hw _ (List.mem_of_getElem? (i := 34) rfl)))) (Cond.privateMethod_at (mvP hZ (hw _ (List.mem_of_getElem? (i := 35) rfl)) (args := #[]))) (mvT hZ (hw _ (List.mem_of_getElem? (i := 36) rfl))) (by decide) (backOf (W := 0) (rmrB l Z a0 hw [] a1 bm bs bl m0 m1 lw l0 l1 h6 n0 Z6 ⟨F6_5, F6_0, F6_1, F6_2, F6_3, F6_4, F6_6, U6, F6_8, w_ga, w_gm, w_gs, w_gl, w_1, w_2, w_3, w_4, w_5, w_6⟩) hZ (hw _ (List.mem_of_getElem? (i := 36) rfl)) (hw _ (List.mem_of_getElem? (i := 3) rfl)) (by decide) (by decide)) (g := (mkF m 19 #[.val (.ref a1), .val (.int (0 : Int32))] [(.ref a1)])) rfl (by rw [hml]; rfl) (Steps.refl _) (a := a1) (by rw [e6]; exact q8) q8' (argsL := []) (rest := []) (lenOf pdi0_0 rfl) rfl (by show 2 * 0 + _ ≤ _; exact Nat.le_of_eq rfl) (hb hby d12_19) (fun _ _ => ⟨rfl, e6, (by decide : 0 + 0 ≤ _), (by decide : 0 + 0 ≤ _)⟩)
  dsimp only [Pt.U, Pt.locs, Pt.cells, Pt.slots] at X8 l8 y8 z8 st8 hQ8
  subst l8 y8 z8
  unfold QrB at hQ8
  obtain ⟨x8, hx8⟩ : ∃ z : Int32 × Int64 × Int64 × Int64, z = (fnrB m0 m1 lw) := ⟨_, rfl⟩
  rw [← hx8] at hQ8
  obtain ⟨rfl, Nq8, J8⟩ := hQ8
  obtain ⟨w8_e, w8_lowest, w8_marks, w8_states, w8_live, w8_open, w8_am, w8_as, w8_al, w8_ga, w8_gm, w8_gs, w8_gl, w8_1, w8_2, w8_3, w8_4, w8_5, w8_6⟩ := J8
  have Z8 : n0 ≤ T8.heap.size := Nat.le_of_lt (Nat.lt_of_le_of_lt w8_ga w8_e.lt)
  have N8 := Fr.app N6 Nq8
  have pre8 : ∀ t, Steps p.tables e below (T8.setTop (mkF m 22 #[.val (.ref a1), .val (.int (0 : Int32))] [(.int x8.1)])) t → Steps p.tables e below (s₁.setTop (entryFrame m #[(.ref a1), (.int (0 : Int32))] 2)) t := fun t k => pre7 t (st8.trans k)
  obtain ⟨fs, hr, hrun, hended, hW, hsame⟩ := X8.leave (v := some (.int (nar .boolean x8.1))) (fun h => by rw [Bd.returns] at h; cases h)
  refine ⟨_, _, pre8 _ ?_, hrun, hended, _, _, rfl, ?_, ⟨_, rfl⟩, hW, hsame.mono (by decide) (by decide)⟩
  · show Steps p.tables e below (T8.setTop (mkF m 22 #[.val (.ref a1), .val (.int (0 : Int32))] [(.int x8.1)])) _
    exact retN X8 hx (t := .boolean) Bd.returns (by simp) (hb hby d12_22) hr
  · show Qi0 Z a1 bm bs bl m0 m1 lw l0 l1 h0 n0 _ T8.heap _
    have hfn : fni0 m0 m1 lw = ((nar .boolean x8.1), x8.2.1, x8.2.2.1, x8.2.2.2) := by
      subst hx8
      simp only [fni0]
    unfold Qi0
    rw [hfn]
    exact ⟨rfl, N8, ⟨w8_e, w8_lowest, w8_marks, w8_states, w8_live, w8_open, w8_am, w8_as, w8_al, w8_ga, w8_gm, w8_gs, w8_gl, w8_1, w8_2, w8_3, w8_4, w8_5, w8_6⟩⟩
/-! body 7: end -/
theorem d7_0 : decode prog_183_method_6_code 0 = .ok (.aload_n 0, 1) := by decide +kernel
theorem d7_1 : decode prog_183_method_6_code 1 = .ok (.getfield 21, 3) := by decide +kernel
theorem d7_4 : decode prog_183_method_6_code 4 = .ok (.iload_n 1, 1) := by decide +kernel
theorem d7_5 : decode prog_183_method_6_code 5 = .ok (.baload, 1) := by decide +kernel
theorem d7_6 : decode prog_183_method_6_code 6 = .ok (.iconst 2, 1) := by decide +kernel
theorem d7_7 : decode prog_183_method_6_code 7 = .ok (.if_icmp .ne 5, 3) := by decide +kernel
theorem d7_12 : decode prog_183_method_6_code 12 = .ok (.aload_n 0, 1) := by decide +kernel
theorem d7_13 : decode prog_183_method_6_code 13 = .ok (.getfield 21, 3) := by decide +kernel
theorem d7_16 : decode prog_183_method_6_code 16 = .ok (.iload_n 1, 1) := by decide +kernel
theorem d7_17 : decode prog_183_method_6_code 17 = .ok (.iconst 2, 1) := by decide +kernel
theorem d7_18 : decode prog_183_method_6_code 18 = .ok (.bastore, 1) := by decide +kernel
theorem d7_19 : decode prog_183_method_6_code 19 = .ok (.iconst 0, 1) := by decide +kernel
theorem d7_20 : decode prog_183_method_6_code 20 = .ok (.istore_n 2, 1) := by decide +kernel
theorem d7_21 : decode prog_183_method_6_code 21 = .ok (.aload_n 0, 1) := by decide +kernel
theorem d7_22 : decode prog_183_method_6_code 22 = .ok (.getfield 25, 3) := by decide +kernel
theorem d7_25 : decode prog_183_method_6_code 25 = .ok (.iload_n 2, 1) := by decide +kernel
theorem d7_26 : decode prog_183_method_6_code 26 = .ok (.iaload, 1) := by decide +kernel
theorem d7_27 : decode prog_183_method_6_code 27 = .ok (.iload_n 1, 1) := by decide +kernel
theorem d7_28 : decode prog_183_method_6_code 28 = .ok (.if_icmp .eq 9, 3) := by decide +kernel
theorem d7_37 : decode prog_183_method_6_code 37 = .ok (.aload_n 0, 1) := by decide +kernel
theorem d7_38 : decode prog_183_method_6_code 38 = .ok (.getfield 25, 3) := by decide +kernel
theorem d7_41 : decode prog_183_method_6_code 41 = .ok (.iload_n 2, 1) := by decide +kernel
theorem d7_42 : decode prog_183_method_6_code 42 = .ok (.aload_n 0, 1) := by decide +kernel
theorem d7_43 : decode prog_183_method_6_code 43 = .ok (.getfield 25, 3) := by decide +kernel
theorem d7_46 : decode prog_183_method_6_code 46 = .ok (.aload_n 0, 1) := by decide +kernel
theorem d7_47 : decode prog_183_method_6_code 47 = .ok (.dup, 1) := by decide +kernel
theorem d7_48 : decode prog_183_method_6_code 48 = .ok (.getfield 35, 3) := by decide +kernel
theorem d7_51 : decode prog_183_method_6_code 51 = .ok (.iconst 1, 1) := by decide +kernel
theorem d7_52 : decode prog_183_method_6_code 52 = .ok (.isub, 1) := by decide +kernel
theorem d7_53 : decode prog_183_method_6_code 53 = .ok (.dup_x1, 1) := by decide +kernel
theorem d7_54 : decode prog_183_method_6_code 54 = .ok (.putfield 35, 3) := by decide +kernel
theorem d7_57 : decode prog_183_method_6_code 57 = .ok (.iaload, 1) := by decide +kernel
theorem d7_58 : decode prog_183_method_6_code 58 = .ok (.iastore, 1) := by decide +kernel
theorem d7_59 : decode prog_183_method_6_code 59 = .ok (.aload_n 0, 1) := by decide +kernel
theorem d7_60 : decode prog_183_method_6_code 60 = .ok (.invokevirtual 39, 3) := by decide +kernel
theorem d7_63 : decode prog_183_method_6_code 63 = .ok (.ireturn, 1) := by decide +kernel
theorem pde0_0 : parseMethodDescriptor "()Z" = some ⟨[], some .boolean⟩ := by decide +kernel
theorem pne0 : plainName "sluice/stream/Watermarks" = true := by first | (simp [plainName, overriddenIn]; done) | decide +kernel
theorem efe0 (m : MethodId) (a1 : Addr) : entryFrame m #[(.ref a1), (.int (0 : Int32))] 3 = mkF m 0 #[.val (.ref a1), .val (.int (0 : Int32)), .unset] [] := by first | (simp [entryFrame, mkF, argsToLocals, Value.category]; done) | rfl
def fne0 (m0 m1 lw : Int64) : Int32 × Int64 × Int64 × Int64 :=
  let x20 : Int32 × Int64 × Int64 × Int64 := (fnrC m0 m1 lw)
  ((nar .boolean x20.1), x20.2.1, x20.2.2.1, x20.2.2.2)
def Qe0 (Z : State) (a1 : Addr) (bm bs bl : Addr) (m0 m1 lw : Int64) (h0 : Heap) (n0 : Nat) (v : Option Value) (h : Heap) (L : List Loc) : Prop := v = some (.int (fne0 m0 m1 lw).1) ∧ Fr n0 L ∧ own_W Z h n0 a1 bm bs bl (fne0 m0 m1 lw).2.1 (fne0 m0 m1 lw).2.2.1 (fne0 m0 m1 lw).2.2.2 (2 : Int32) (0 : Int32) (1 : Int32) (1 : Int32) (1 : Int32)
set_option maxRecDepth 65536 in
set_option maxHeartbeats 40000000 in
theorem rme0 (l : Launch) (Z : State) (a0 : Array Value) (hw : ∀ d ∈ tables_1, d.before a0 Z = true) (ws : List Jvm.Cond) (a1 : Addr) (bm bs bl : Addr) (m0 m1 lw : Int64) (h0 : Heap) (n0 : Nat) (Z0 : n0 ≤ h0.size) (I0 : own_W Z h0 n0 a1 bm bs bl m0 m1 lw (0 : Int32) (0 : Int32) (0 : Int32) (1 : Int32) (2 : Int32)) :
    MetFree l (⟨"sluice/stream/Watermarks", "end", "(I)Z"⟩ : MethodName) (head1 (Jvm.Cond.code (⟨"sluice/stream/Watermarks", "end", "(I)Z"⟩ : MethodName) prog_183_method_6_code 3 (some .boolean) :: ws) ({ frames := 2, cells := 0, slots := 0, locals := 35 } : Room)) (fun a U => a = #[(.ref a1), (.int (0 : Int32))] ∧ Z.Warmed39 U.vm ∧ U.heap = h0) (fun _ _ _ _ _ => True) (fun _ U o U' => ∃ v L, o = .returned v ∧ Qe0 Z a1 bm bs bl m0 m1 lw h0 n0 v U'.heap L ∧ FrameEnd U o U' L ({ frames := 2, cells := 0, slots := 0, locals := 35 } : Room).cells ({ frames := 2, cells := 0, slots := 0, locals := 35 } : Room).slots) := by
  refine MetFree.of_bodySF (plainFor_of_name pne0) hisR ?_
  intro p e s m args below meth c s₁ Bd hml0 hP hK
  obtain ⟨rfl, hZ, hh⟩ := hP
  have hx := Bd.exec
  have hby := Bd.bytes
  have hml : c.maxLocals = 3 := hml0
  have hown : s.vm.findClass "sluice/stream/Watermarks" = some m.cls := findClass_of_methodNamed Bd.named
  have hnm := (name_of_methodNamed Bd.named Bd.method).1
  have X0 : Stand p l e ({ frames := 2, cells := 0, slots := 0, locals := 35 } : Room) s m #[(.ref a1), (.int (0 : Int32))] below meth c s₁ [] 0 0 := Stand.of_body Bd
  have e0 : s₁.heap = h0 := by rw [← hh, Bd.state]; rfl
  have N0 := Fr.nil n0
  have pre0 : ∀ t, Steps p.tables e below (s₁.setTop (mkF m 0 #[.val (.ref a1), .val (.int (0 : Int32)), .unset] [])) t → Steps p.tables e below (s₁.setTop (entryFrame m #[(.ref a1), (.int (0 : Int32))] 3)) t := fun t k => castTop (efe0 m a1) k
  obtain ⟨w_e, w_lowest, w_marks, w_states, w_live, w_open, w_am, w_as, w_al, w_ga, w_gm, w_gs, w_gl, w_1, w_2, w_3, w_4, w_5, w_6⟩ := I0
  have pre1 : ∀ t, Steps p.tables e below (s₁.setTop (mkF m 1 #[.val (.ref a1), .val (.int (0 : Int32)), .unset] [(.ref a1)])) t → Steps p.tables e below (s₁.setTop (entryFrame m #[(.ref a1), (.int (0 : Int32))] 3)) t := by
    intro t k
    refine pre0 t ?_
    show Steps p.tables e below (s₁.setTop (mkF m 0 #[.val (.ref a1), .val (.int (0 : Int32)), .unset] [])) _
    refine XS.aloadN X0.here hx rfl (hb hby d7_0) rfl rfl ?_
    show Steps p.tables e below (s₁.setTop (mkF m 1 #[.val (.ref a1), .val (.int (0 : Int32)), .unset] [(.ref a1)])) _
    exact k
  obtain ⟨T2, X2, e2, st2⟩ := getF X0 hx hZ hown (host := "") (Or.inl (hw _ (List.mem_of_getElem? (i := 17) rfl))) Via.refl e0 w_states (g := (mkF m 1 #[.val (.ref a1), .val (.int (0 : Int32)), .unset] [(.ref a1)])) rfl rfl (hb hby d7_1)
  have pre2 : ∀ t, Steps p.tables e below (T2.setTop (mkF m 4 #[.val (.ref a1), .val (.int (0 : Int32)), .unset] [(.ref bs)])) t → Steps p.tables e below (s₁.setTop (entryFrame m #[(.ref a1), (.int (0 : Int32))] 3)) t := fun t k => pre1 t (st2 _ k)
  have pre3 : ∀ t, Steps p.tables e below (T2.setTop (mkF m 13 #[.val (.ref a1), .val (.int (0 : Int32)), .unset] [(.ref a1)])) t → Steps p.tables e below (s₁.setTop (entryFrame m #[(.ref a1), (.int (0 : Int32))] 3)) t := by
    intro t k
    refine pre2 t ?_
    refine XS.iloadN X2.here hx rfl (hb hby d7_4) rfl ?_
    show Steps p.tables e below (T2.setTop (mkF m 5 #[.val (.ref a1), .val (.int (0 : Int32)), .unset] [(.int (0 : Int32)), (.ref bs)])) _
    refine own_ldB X2 hx hZ e2 w_as (by decide) (by decide) (g := (mkF m 5 #[.val (.ref a1), .val (.int (0 : Int32)), .unset] [(.int (0 : Int32)), (.ref bs)])) rfl rfl (hb hby d7_5) _ ?_
    show Steps p.tables e below (T2.setTop (mkF m 6 #[.val (.ref a1), .val (.int (0 : Int32)), .unset] [(.int (0 : Int32))])) _
    refine XS.iconst X2.here hx rfl (hb hby d7_6) ?_
    show Steps p.tables e below (T2.setTop (mkF m 7 #[.val (.ref a1), .val (.int (0 : Int32)), .unset] [(.int (2 : Int32)), (.int (0 : Int32))])) _
    refine XS.icmpYes X2.here hx rfl (pc0 := 7) (pc' := 12) rfl (hb hby d7_7) rfl (feq (by decide : ¬ (0 : Int32) = (2 : Int32))).2 (by decide) (by decide) ?_
    show Steps p.tables e below (T2.setTop (mkF m 12 #[.val (.ref a1), .val (.int (0 : Int32)), .unset] [])) _
    refine XS.aloadN X2.here hx rfl (hb hby d7_12) rfl rfl ?_
    show Steps p.tables e below (T2.setTop (mkF m 13 #[.val (.ref a1), .val (.int (0 : Int32)), .unset] [(.ref a1)])) _
    exact k
  obtain ⟨T4, X4, e4, st4⟩ := getF X2 hx hZ hown (host := "") (Or.inl (hw _ (List.mem_of_getElem? (i := 17) rfl))) Via.refl e2 w_states (g := (mkF m 13 #[.val (.ref a1), .val (.int (0 : Int32)), .unset] [(.ref a1)])) rfl rfl (hb hby d7_13)
  have pre4 : ∀ t, Steps p.tables e below (T4.setTop (mkF m 16 #[.val (.ref a1), .val (.int (0 : Int32)), .unset] [(.ref bs)])) t → Steps p.tables e below (s₁.setTop (entryFrame m #[(.ref a1), (.int (0 : Int32))] 3)) t := fun t k => pre3 t (st4 _ k)
  have pre5 : ∀ t, Steps p.tables e below (T4.setTop (mkF m 18 #[.val (.ref a1), .val (.int (0 : Int32)), .unset] [(.int (2 : Int32)), (.int (0 : Int32)), (.ref bs)])) t → Steps p.tables e below (s₁.setTop (entryFrame m #[(.ref a1), (.int (0 : Int32))] 3)) t := by
    intro t k
    refine pre4 t ?_
    refine XS.iloadN X4.here hx rfl (hb hby d7_16) rfl ?_
    show Steps p.tables e below (T4.setTop (mkF m 17 #[.val (.ref a1), .val (.int (0 : Int32)), .unset] [(.int (0 : Int32)), (.ref bs)])) _
    refine XS.iconst X4.here hx rfl (hb hby d7_17) ?_
    show Steps p.tables e below (T4.setTop (mkF m 18 #[.val (.ref a1), .val (.int (0 : Int32)), .unset] [(.int (2 : Int32)), (.int (0 : Int32)), (.ref bs)])) _
    exact k
  obtain ⟨T6, h6, X6, e6, W6, V6, st6⟩ := own_stB X4 hx hZ e4 w_as (by decide) (by decide) (g := (mkF m 18 #[.val (.ref a1), .val (.int (0 : Int32)), .unset] [(.int (2 : Int32)), (.int (0 : Int32)), (.ref bs)])) rfl rfl (hb hby d7_18)
  have F6_0 := w_lowest.other W6 (Or.inl w_2)
  have F6_1 := w_marks.other W6 (Or.inl w_2)
  have F6_2 := w_states.other W6 (Or.inl w_2)
  have F6_3 := w_live.other W6 (Or.inl w_2)
  have F6_4 := w_open.other W6 (Or.inl w_2)
  have F6_5 := w_e.wr W6
  have F6_6 := w_am.other W6 w_4
  have F6_7 := V6
  have F6_8 := w_al.other W6 (Ne.symm w_6)
  have Z6 : n0 ≤ h6.size := Nat.le_trans Z0 (Keep.of_wr W6).1
  have N6 := Fr.snoc X6 N0 w_gs
  have U6 : own_AI Z h6 bs .byte (2 : Int32) (own_2 (2 : Int32) (0 : Int32)) := own_AI.st0 F6_7
  have pre6 : ∀ t, Steps p.tables e below (T6.setTop (mkF m 19 #[.val (.ref a1), .val (.int (0 : Int32)), .unset] [])) t → Steps p.tables e below (s₁.setTop (entryFrame m #[(.ref a1), (.int (0 : Int32))] 3)) t := fun t k => pre5 t (st6 _ k)
  have pre7 : ∀ t, Steps p.tables e below (T6.setTop (mkF m 22 #[.val (.ref a1), .val (.int (0 : Int32)), .val (.int (0 : Int32))] [(.ref a1)])) t → Steps p.tables e below (s₁.setTop (entryFrame m #[(.ref a1), (.int (0 : Int32))] 3)) t := by
    intro t k
    refine pre6 t ?_
    refine XS.iconst X6.here hx rfl (hb hby d7_19) ?_
    show Steps p.tables e below (T6.setTop (mkF m 20 #[.val (.ref a1), .val (.int (0 : Int32)), .unset] [(.int (0 : Int32))])) _
    refine XS.istoreN X6.here hx rfl (hb hby d7_20) rfl (l' := #[.val (.ref a1), .val (.int (0 : Int32)), .val (.int (0 : Int32))]) rfl ?_
    show Steps p.tables e below (T6.setTop (mkF m 21 #[.val (.ref a1), .val (.int (0 : Int32)), .val (.int (0 : Int32))] [])) _
    refine XS.aloadN X6.here hx rfl (hb hby d7_21) rfl rfl ?_
    show Steps p.tables e below (T6.setTop (mkF m 22 #[.val (.ref a1), .val (.int (0 : Int32)), .val (.int (0 : Int32))] [(.ref a1)])) _
    exact k
  obtain ⟨T8, X8, e8, st8⟩ := getF X6 hx hZ hown (host := "") (Or.inl (hw _ (List.mem_of_getElem? (i := 20) rfl))) Via.refl e6 F6_3 (g := (mkF m 22 #[.val (.ref a1), .val (.int (0 : Int32)), .val (.int (0 : Int32))] [(.ref a1)])) rfl rfl (hb hby d7_22)
  have pre8 : ∀ t, Steps p.tables e below (T8.setTop (mkF m 25 #[.val (.ref a1), .val (.int (0 : Int32)), .val (.int (0 : Int32))] [(.ref bl)])) t → Steps p.tables e below (s₁.setTop (entryFrame m #[(.ref a1), (.int (0 : Int32))] 3)) t := fun t k => pre7 t (st8 _ k)
  have pre9 : ∀ t, Steps p.tables e below (T8.setTop (mkF m 38 #[.val (.ref a1), .val (.int (0 : Int32)), .val (.int (0 : Int32))] [(.ref a1)])) t → Steps p.tables e below (s₁.setTop (entryFrame m #[(.ref a1), (.int (0 : Int32))] 3)) t := by
    intro t k
    refine pre8 t ?_
    refine XS.iloadN X8.here hx rfl (hb hby d7_25) rfl ?_
    show Steps p.tables e below (T8.setTop (mkF m 26 #[.val (.ref a1), .val (.int (0 : Int32)), .val (.int (0 : Int32))] [(.int (0 : Int32)), (.ref bl)])) _
    refine own_ldI X8 hx hZ e8 F6_8 (by decide) (by decide) (g := (mkF m 26 #[.val (.ref a1), .val (.int (0 : Int32)), .val (.int (0 : Int32))] [(.int (0 : Int32)), (.ref bl)])) rfl rfl (hb hby d7_26) _ ?_
    show Steps p.tables e below (T8.setTop (mkF m 27 #[.val (.ref a1), .val (.int (0 : Int32)), .val (.int (0 : Int32))] [(.int (0 : Int32))])) _
    refine XS.iloadN X8.here hx rfl (hb hby d7_27) rfl ?_
    show Steps p.tables e below (T8.setTop (mkF m 28 #[.val (.ref a1), .val (.int (0 : Int32)), .val (.int (0 : Int32))] [(.int (0 : Int32)), (.int (0 : Int32))])) _
    refine XS.icmpYes X8.here hx rfl (pc0 := 28) (pc' := 37) rfl (hb hby d7_28) rfl (teq (by decide : (0 : Int32) = (0 : Int32))).1 (by decide) (by decide) ?_
    show Steps p.tables e below (T8.setTop (mkF m 37 #[.val (.ref a1), .val (.int (0 : Int32)), .val (.int (0 : Int32))] [])) _
    refine XS.aloadN X8.here hx rfl (hb hby d7_37) rfl rfl ?_
    show Steps p.tables e below (T8.setTop (mkF m 38 #[.val (.ref a1), .val (.int (0 : Int32)), .val (.int (0 : Int32))] [(.ref a1)])) _
    exact k
  obtain ⟨T10, X10, e10, st10⟩ := getF X8 hx hZ hown (host := "") (Or.inl (hw _ (List.mem_of_getElem? (i := 20) rfl))) Via.refl e8 F6_3 (g := (mkF m 38 #[.val (.ref a1), .val (.int (0 : Int32)), .val (.int (0 : Int32))] [(.ref a1)])) rfl rfl (hb hby d7_38)
  have pre10 : ∀ t, Steps p.tables e below (T10.setTop (mkF m 41 #[.val (.ref a1), .val (.int (0 : Int32)), .val (.int (0 : Int32))] [(.ref bl)])) t → Steps p.tables e below (s₁.setTop (entryFrame m #[(.ref a1), (.int (0 : Int32))] 3)) t := fun t k => pre9 t (st10 _ k)
  have pre11 : ∀ t, Steps p.tables e below (T10.setTop (mkF m 43 #[.val (.ref a1), .val (.int (0 : Int32)), .val (.int (0 : Int32))] [(.ref a1), (.int (0 : Int32)), (.ref bl)])) t → Steps p.tables e below (s₁.setTop (entryFrame m #[(.ref a1), (.int (0 : Int32))] 3)) t := by
    intro t k
    refine pre10 t ?_
    refine XS.iloadN X10.here hx rfl (hb hby d7_41) rfl ?_
    show Steps p.tables e below (T10.setTop (mkF m 42 #[.val (.ref a1), .val (.int (0 : Int32)), .val (.int (0 : Int32))] [(.int (0 : Int32)), (.ref bl)])) _
    refine XS.aloadN X10.here hx rfl (hb hby d7_42) rfl rfl ?_
    show Steps p.tables e below (T10.setTop (mkF m 43 #[.val (.ref a1), .val (.int (0 : Int32)), .val (.int (0 : Int32))] [(.ref a1), (.int (0 : Int32)), (.ref bl)])) _
    exact k
  obtain ⟨T12, X12, e12, st12⟩ := getF X10 hx hZ hown (host := "") (Or.inl (hw _ (List.mem_of_getElem? (i := 20) rfl))) Via.refl e10 F6_3 (g := (mkF m 43 #[.val (.ref a1), .val (.int (0 : Int32)), .val (.int (0 : Int32))] [(.ref a1), (.int (0 : Int32)), (.ref bl)])) rfl rfl (hb hby d7_43)
  have pre12 : ∀ t, Steps p.tables e below (T12.setTop (mkF m 46 #[.val (.ref a1), .val (.int (0 : Int32)), .val (.int (0 : Int32))] [(.ref bl), (.int (0 : Int32)), (.ref bl)])) t → Steps p.tables e below (s₁.setTop (entryFrame m #[(.ref a1), (.int (0 : Int32))] 3)) t := fun t k => pre11 t (st12 _ k)
  have pre13 : ∀ t, Steps p.tables e below (T12.setTop (mkF m 48 #[.val (.ref a1), .val (.int (0 : Int32)), .val (.int (0 : Int32))] [(.ref a1), (.ref a1), (.ref bl), (.int (0 : Int32)), (.ref bl)])) t → Steps p.tables e below (s₁.setTop (entryFrame m #[(.ref a1), (.int (0 : Int32))] 3)) t := by
    intro t k
    refine pre12 t ?_
    refine XS.aloadN X12.here hx rfl (hb hby d7_46) rfl rfl ?_
    show Steps p.tables e below (T12.setTop (mkF m 47 #[.val (.ref a1), .val (.int (0 : Int32)), .val (.int (0 : Int32))] [(.ref a1), (.ref bl), (.int (0 : Int32)), (.ref bl)])) _
    refine XS.dup X12.here hx rfl (hb hby d7_47) rfl rfl ?_
    show Steps p.tables e below (T12.setTop (mkF m 48 #[.val (.ref a1), .val (.int (0 : Int32)), .val (.int (0 : Int32))] [(.ref a1), (.ref a1), (.ref bl), (.int (0 : Int32)), (.ref bl)])) _
    exact k
  obtain ⟨T14, X14, e14, st14⟩ := getF X12 hx hZ hown (host := "") (Or.inl (hw _ (List.mem_of_getElem? (i := 26) rfl))) Via.refl e12 F6_4 (g := (mkF m 48 #[.val (.ref a1), .val (.int (0 : Int32)), .val (.int (0 : Int32))] [(.ref a1), (.ref a1), (.ref bl), (.int (0 : Int32)), (.ref bl)])) rfl rfl (hb hby d7_48)
  have pre14 : ∀ t, Steps p.tables e below (T14.setTop (mkF m 51 #[.val (.ref a1), .val (.int (0 : Int32)), .val (.int (0 : Int32))] [(.int (2 : Int32)), (.ref a1), (.ref bl), (.int (0 : Int32)), (.ref bl)])) t → Steps p.tables e below (s₁.setTop (entryFrame m #[(.ref a1), (.int (0 : Int32))] 3)) t := fun t k => pre13 t (st14 _ k)
  have pre15 : ∀ t, Steps p.tables e below (T14.setTop (mkF m 54 #[.val (.ref a1), .val (.int (0 : Int32)), .val (.int (0 : Int32))] [(.int (1 : Int32)), (.ref a1), (.int (1 : Int32)), (.ref bl), (.int (0 : Int32)), (.ref bl)])) t → Steps p.tables e below (s₁.setTop (entryFrame m #[(.ref a1), (.int (0 : Int32))] 3)) t := by
    intro t k
    refine pre14 t ?_
    refine XS.iconst X14.here hx rfl (hb hby d7_51) ?_
    show Steps p.tables e below (T14.setTop (mkF m 52 #[.val (.ref a1), .val (.int (0 : Int32)), .val (.int (0 : Int32))] [(.int (1 : Int32)), (.int (2 : Int32)), (.ref a1), (.ref bl), (.int (0 : Int32)), (.ref bl)])) _
    refine XS.isub X14.here hx rfl (hb hby d7_52) rfl ?_
    show Steps p.tables e below (T14.setTop (mkF m 53 #[.val (.ref a1), .val (.int (0 : Int32)), .val (.int (0 : Int32))] [(.int (1 : Int32)), (.ref a1), (.ref bl), (.int (0 : Int32)), (.ref bl)])) _
    refine XS.dupX1 X14.here hx rfl (hb hby d7_53) rfl rfl rfl ?_
    show Steps p.tables e below (T14.setTop (mkF m 54 #[.val (.ref a1), .val (.int (0 : Int32)), .val (.int (0 : Int32))] [(.int (1 : Int32)), (.ref a1), (.int (1 : Int32)), (.ref bl), (.int (0 : Int32)), (.ref bl)])) _
    exact k
  obtain ⟨T16, h16, X16, e16, W16, st16⟩ := putF X14 hx hZ hown (host := "") (Or.inl (hw _ (List.mem_of_getElem? (i := 26) rfl))) Via.refl e14 F6_4 F6_5 (Or.inl (hw _ (List.mem_of_getElem? (i := 27) rfl))) (hw _ (List.mem_of_getElem? (i := 2) rfl)) (ty := .int) (by decide) rfl rfl (g := (mkF m 54 #[.val (.ref a1), .val (.int (0 : Int32)), .val (.int (0 : Int32))] [(.int (1 : Int32)), (.ref a1), (.int (1 : Int32)), (.ref bl), (.int (0 : Int32)), (.ref bl)])) rfl rfl (hb hby d7_54)
  have F16_0 := F6_0.other W16 (Or.inr (slot_ne (Or.inl (hw _ (List.mem_of_getElem? (i := 12) rfl))) (Or.inl (hw _ (List.mem_of_getElem? (i := 27) rfl))) (by decide) (t := .long) (t' := .int) (by decide) (by decide)))
  have F16_1 := F6_1.other W16 (Or.inr (slot_ne (Or.inl (hw _ (List.mem_of_getElem? (i := 15) rfl))) (Or.inl (hw _ (List.mem_of_getElem? (i := 27) rfl))) (by decide) (t := (.array .long)) (t' := .int) (by decide) (by decide)))
  have F16_2 := F6_2.other W16 (Or.inr (slot_ne (Or.inl (hw _ (List.mem_of_getElem? (i := 18) rfl))) (Or.inl (hw _ (List.mem_of_getElem? (i := 27) rfl))) (by decide) (t := (.array .byte)) (t' := .int) (by decide) (by decide)))
  have F16_3 := F6_3.other W16 (Or.inr (slot_ne (Or.inl (hw _ (List.mem_of_getElem? (i := 21) rfl))) (Or.inl (hw _ (List.mem_of_getElem? (i := 27) rfl))) (by decide) (t := (.array .int)) (t' := .int) (by decide) (by decide)))
  have F16_4 := F6_4.same W16
  have F16_5 := F6_5.wr W16
  have F16_6 := F6_6.other W16 (Ne.symm w_1)
  have F16_7 := U6.other W16 (Ne.symm w_2)
  have F16_8 := F6_8.other W16 (Ne.symm w_3)
  have Z16 : n0 ≤ h16.size := Nat.le_trans Z6 (Keep.of_wr W16).1
  have N16 := Fr.snoc X16 N6 w_ga
  have pre16 : ∀ t, Steps p.tables e below (T16.setTop (mkF m 57 #[.val (.ref a1), .val (.int (0 : Int32)), .val (.int (0 : Int32))] [(.int (1 : Int32)), (.ref bl), (.int (0 : Int32)), (.ref bl)])) t → Steps p.tables e below (s₁.setTop (entryFrame m #[(.ref a1), (.int (0 : Int32))] 3)) t := fun t k => pre15 t (st16 _ k)
  have pre17 : ∀ t, Steps p.tables e below (T16.setTop (mkF m 58 #[.val (.ref a1), .val (.int (0 : Int32)), .val (.int (0 : Int32))] [(.int (1 : Int32)), (.int (0 : Int32)), (.ref bl)])) t → Steps p.tables e below (s₁.setTop (entryFrame m #[(.ref a1), (.int (0 : Int32))] 3)) t := by
    intro t k
    refine pre16 t ?_
    refine own_ldI X16 hx hZ e16 F16_8 (by decide) (by decide) (g := (mkF m 57 #[.val (.ref a1), .val (.int (0 : Int32)), .val (.int (0 : Int32))] [(.int (1 : Int32)), (.ref bl), (.int (0 : Int32)), (.ref bl)])) rfl rfl (hb hby d7_57) _ ?_
    show Steps p.tables e below (T16.setTop (mkF m 58 #[.val (.ref a1), .val (.int (0 : Int32)), .val (.int (0 : Int32))] [(.int (1 : Int32)), (.int (0 : Int32)), (.ref bl)])) _
    exact k
  obtain ⟨T18, h18, X18, e18, W18, V18, st18⟩ := own_stI X16 hx hZ e16 F16_8 (by decide) (by decide) (g := (mkF m 58 #[.val (.ref a1), .val (.int (0 : Int32)), .val (.int (0 : Int32))] [(.int (1 : Int32)), (.int (0 : Int32)), (.ref bl)])) rfl rfl (hb hby d7_58)
  have F18_0 := F16_0.other W18 (Or.inl w_3)
  have F18_1 := F16_1.other W18 (Or.inl w_3)
  have F18_2 := F16_2.other W18 (Or.inl w_3)
  have F18_3 := F16_3.other W18 (Or.inl w_3)
  have F18_4 := F16_4.other W18 (Or.inl w_3)
  have F18_5 := F16_5.wr W18
  have F18_6 := F16_6.other W18 w_5
  have F18_7 := F16_7.other W18 w_6
  have F18_8 := V18
  have Z18 : n0 ≤ h18.size := Nat.le_trans Z16 (Keep.of_wr W18).1
  have N18 := Fr.snoc X18 N16 w_gl
  have U18 : own_AI Z h18 bl .int (2 : Int32) (own_2 (1 : Int32) (1 : Int32)) := own_AI.st0 F18_8
  have pre18 : ∀ t, Steps p.tables e below (T18.setTop (mkF m 59 #[.val (.ref a1), .val (.int (0 : Int32)), .val (.int (0 : Int32))] [])) t → Steps p.tables e below (s₁.setTop (entryFrame m #[(.ref a1), (.int (0 : Int32))] 3)) t := fun t k => pre17 t (st18 _ k)
  have pre19 : ∀ t, Steps p.tables e below (T18.setTop (mkF m 60 #[.val (.ref a1), .val (.int (0 : Int32)), .val (.int (0 : Int32))] [(.ref a1)])) t → Steps p.tables e below (s₁.setTop (entryFrame m #[(.ref a1), (.int (0 : Int32))] 3)) t := by
    intro t k
    refine pre18 t ?_
    refine XS.aloadN X18.here hx rfl (hb hby d7_59) rfl rfl ?_
    show Steps p.tables e below (T18.setTop (mkF m 60 #[.val (.ref a1), .val (.int (0 : Int32)), .val (.int (0 : Int32))] [(.ref a1)])) _
    exact k
  obtain ⟨cq20, q20, q20'⟩ := F18_5.cell
  obtain ⟨_, _, ⟨T20, L20, k20, n20⟩, -, X20, ⟨Lc20, hQ20, l20, y20, z20⟩, st20⟩ := X18.privateBack hx (y := (⟨"sluice/stream/Watermarks", "rise", "()Z"⟩ : MethodName)) hown (mvT hZ (hw _ (List.mem_of_getElem? (i := 33) rfl))) (mvT hZ (hw _ (List.mem_of_getElem? (i := 34) rfl))) (mvT hZ (Jvm.Kit.selects_private (by decide) (hw _ (List.mem_of_getElem? (i := 2) rfl)) (hw _ (List.mem_of_getElem? (i := 35) rfl)) (hw _ (List.mem_of_getElem? (i := 34) rfl)))) (Cond.privateMethod_at (mvP hZ (hw _ (List.mem_of_getElem? (i := 35) rfl)) (args := #[]))) (mvT hZ (hw _ (List.mem_of_getElem? (i := 36) rfl))) (by decide) (backOf (W := 0) (rmrC l Z a0 hw [] a1 bm bs bl m0 m1 lw (1 : Int32) h18 n0 Z18 ⟨F18_5, F18_0, F18_1, F18_2, F18_3, F18_4, F18_6, F18_7, U18, w_ga, w_gm, w_gs, w_gl, w_1, w_2, w_3, w_4, w_5, w_6⟩) hZ (hw _ (List.mem_of_getElem? (i := 36) rfl)) (hw _ (List.mem_of_getElem? (i := 3) rfl)) (by decide) (by decide)) (g := (mkF m 60 #[.val (.ref a1), .val (.int (0 : Int32)), .val (.int (0 : Int32))] [(.ref a1)])) rfl (by rw [hml]; rfl) (Steps.refl _) (a := a1) (by rw [e18]; exact q20) q20' (argsL := []) (rest := []) (lenOf pde0_0 rfl) rfl (by show 2 * 0 + _ ≤ _; exact Nat.le_of_eq rfl) (hb hby d7_60) (fun _ _ => ⟨rfl, e18, (by decide : 0 + 0 ≤ _), (by decide : 0 + 0 ≤ _)⟩)
  dsimp only [Pt.U, Pt.locs, Pt.cells, Pt.slots] at X20 l20 y20 z20 st20 hQ20
  subst l20 y20 z20
  unfold QrC at hQ20
  obtain ⟨x20, hx20⟩ : ∃ z : Int32 × Int64 × Int64 × Int64, z = (fnrC m0 m1 lw) := ⟨_, rfl⟩
  rw [← hx20] at hQ20
  obtain ⟨rfl, Nq20, J20⟩ := hQ20
  obtain ⟨w20_e, w20_lowest, w20_marks, w20_states, w20_live, w20_open, w20_am, w20_as, w20_al, w20_ga, w20_gm, w20_gs, w20_gl, w20_1, w20_2, w20_3, w20_4, w20_5, w20_6⟩ := J20
  have Z20 : n0 ≤ T20.heap.size := Nat.le_of_lt (Nat.lt_of_le_of_lt w20_ga w20_e.lt)
  have N20 := Fr.app N18 Nq20
  have pre20 : ∀ t, Steps p.tables e below (T20.setTop (mkF m 63 #[.val (.ref a1), .val (.int (0 : Int32)), .val (.int (0 : Int32))] [(.int x20.1)])) t → Steps p.tables e below (s₁.setTop (entryFrame m #[(.ref a1), (.int (0 : Int32))] 3)) t := fun t k => pre19 t (st20.trans k)
  obtain ⟨fs, hr, hrun, hended, hW, hsame⟩ := X20.leave (v := some (.int (nar .boolean x20.1))) (fun h => by rw [Bd.returns] at h; cases h)
  refine ⟨_, _, pre20 _ ?_, hrun, hended, _, _, rfl, ?_, ⟨_, rfl⟩, hW, hsame.mono (by decide) (by decide)⟩
  · show Steps p.tables e below (T20.setTop (mkF m 63 #[.val (.ref a1), .val (.int (0 : Int32)), .val (.int (0 : Int32))] [(.int x20.1)])) _
    exact retN X20 hx (t := .boolean) Bd.returns (by simp) (hb hby d7_63) hr
  · show Qe0 Z a1 bm bs bl m0 m1 lw h0 n0 _ T20.heap _
    have hfn : fne0 m0 m1 lw = ((nar .boolean x20.1), x20.2.1, x20.2.2.1, x20.2.2.2) := by
      subst hx20
      simp only [fne0]
    unfold Qe0
    rw [hfn]
    exact ⟨rfl, N20, ⟨w20_e, w20_lowest, w20_marks, w20_states, w20_live, w20_open, w20_am, w20_as, w20_al, w20_ga, w20_gm, w20_gs, w20_gl, w20_1, w20_2, w20_3, w20_4, w20_5, w20_6⟩⟩
/-! body 7: end -/
theorem d7_31 : decode prog_183_method_6_code 31 = .ok (.iinc 2 1, 3) := by decide +kernel
theorem d7_34 : decode prog_183_method_6_code 34 = .ok (.goto (-13), 3) := by decide +kernel
theorem pde1_0 : parseMethodDescriptor "()Z" = some ⟨[], some .boolean⟩ := by decide +kernel
theorem pne1 : plainName "sluice/stream/Watermarks" = true := by first | (simp [plainName, overriddenIn]; done) | decide +kernel
theorem efe1 (m : MethodId) (a1 : Addr) : entryFrame m #[(.ref a1), (.int (1 : Int32))] 3 = mkF m 0 #[.val (.ref a1), .val (.int (1 : Int32)), .unset] [] := by first | (simp [entryFrame, mkF, argsToLocals, Value.category]; done) | rfl
def fne1 (m0 m1 lw : Int64) : Int32 × Int64 × Int64 × Int64 :=
  let x22 : Int32 × Int64 × Int64 × Int64 := (fnrD m0 m1 lw)
  ((nar .boolean x22.1), x22.2.1, x22.2.2.1, x22.2.2.2)
def Qe1 (Z : State) (a1 : Addr) (bm bs bl : Addr) (m0 m1 lw : Int64) (h0 : Heap) (n0 : Nat) (v : Option Value) (h : Heap) (L : List Loc) : Prop := v = some (.int (fne1 m0 m1 lw).1) ∧ Fr n0 L ∧ own_W Z h n0 a1 bm bs bl (fne1 m0 m1 lw).2.1 (fne1 m0 m1 lw).2.2.1 (fne1 m0 m1 lw).2.2.2 (0 : Int32) (2 : Int32) (0 : Int32) (1 : Int32) (1 : Int32)
set_option maxRecDepth 65536 in
set_option maxHeartbeats 40000000 in
theorem rme1 (l : Launch) (Z : State) (a0 : Array Value) (hw : ∀ d ∈ tables_1, d.before a0 Z = true) (ws : List Jvm.Cond) (a1 : Addr) (bm bs bl : Addr) (m0 m1 lw : Int64) (h0 : Heap) (n0 : Nat) (Z0 : n0 ≤ h0.size) (I0 : own_W Z h0 n0 a1 bm bs bl m0 m1 lw (0 : Int32) (0 : Int32) (0 : Int32) (1 : Int32) (2 : Int32)) :
    MetFree l (⟨"sluice/stream/Watermarks", "end", "(I)Z"⟩ : MethodName) (head1 (Jvm.Cond.code (⟨"sluice/stream/Watermarks", "end", "(I)Z"⟩ : MethodName) prog_183_method_6_code 3 (some .boolean) :: ws) ({ frames := 2, cells := 0, slots := 0, locals := 35 } : Room)) (fun a U => a = #[(.ref a1), (.int (1 : Int32))] ∧ Z.Warmed39 U.vm ∧ U.heap = h0) (fun _ _ _ _ _ => True) (fun _ U o U' => ∃ v L, o = .returned v ∧ Qe1 Z a1 bm bs bl m0 m1 lw h0 n0 v U'.heap L ∧ FrameEnd U o U' L ({ frames := 2, cells := 0, slots := 0, locals := 35 } : Room).cells ({ frames := 2, cells := 0, slots := 0, locals := 35 } : Room).slots) := by
  refine MetFree.of_bodySF (plainFor_of_name pne1) hisR ?_
  intro p e s m args below meth c s₁ Bd hml0 hP hK
  obtain ⟨rfl, hZ, hh⟩ := hP
  have hx := Bd.exec
  have hby := Bd.bytes
  have hml : c.maxLocals = 3 := hml0
  have hown : s.vm.findClass "sluice/stream/Watermarks" = some m.cls := findClass_of_methodNamed Bd.named
  have hnm := (name_of_methodNamed Bd.named Bd.method).1
  have X0 : Stand p l e ({ frames := 2, cells := 0, slots := 0, locals := 35 } : Room) s m #[(.ref a1), (.int (1 : Int32))] below meth c s₁ [] 0 0 := Stand.of_body Bd
  have e0 : s₁.heap = h0 := by rw [← hh, Bd.state]; rfl
  have N0 := Fr.nil n0
  have pre0 : ∀ t, Steps p.tables e below (s₁.setTop (mkF m 0 #[.val (.ref a1), .val (.int (1 : Int32)), .unset] [])) t → Steps p.tables e below (s₁.setTop (entryFrame m #[(.ref a1), (.int (1 : Int32))] 3)) t := fun t k => castTop (efe1 m a1) k
  obtain ⟨w_e, w_lowest, w_marks, w_states, w_live, w_open, w_am, w_as, w_al, w_ga, w_gm, w_gs, w_gl, w_1, w_2, w_3, w_4, w_5, w_6⟩ := I0
  have pre1 : ∀ t, Steps p.tables e below (s₁.setTop (mkF m 1 #[.val (.ref a1), .val (.int (1 : Int32)), .unset] [(.ref a1)])) t → Steps p.tables e below (s₁.setTop (entryFrame m #[(.ref a1), (.int (1 : Int32))] 3)) t := by
    intro t k
    refine pre0 t ?_
    show Steps p.tables e below (s₁.setTop (mkF m 0 #[.val (.ref a1), .val (.int (1 : Int32)), .unset] [])) _
    refine XS.aloadN X0.here hx rfl (hb hby d7_0) rfl rfl ?_
    show Steps p.tables e below (s₁.setTop (mkF m 1 #[.val (.ref a1), .val (.int (1 : Int32)), .unset] [(.ref a1)])) _
    exact k
  obtain ⟨T2, X2, e2, st2⟩ := getF X0 hx hZ hown (host := "") (Or.inl (hw _ (List.mem_of_getElem? (i := 17) rfl))) Via.refl e0 w_states (g := (mkF m 1 #[.val (.ref a1), .val (.int (1 : Int32)), .unset] [(.ref a1)])) rfl rfl (hb hby d7_1)
  have pre2 : ∀ t, Steps p.tables e below (T2.setTop (mkF m 4 #[.val (.ref a1), .val (.int (1 : Int32)), .unset] [(.ref bs)])) t → Steps p.tables e below (s₁.setTop (entryFrame m #[(.ref a1), (.int (1 : Int32))] 3)) t := fun t k => pre1 t (st2 _ k)
  have pre3 : ∀ t, Steps p.tables e below (T2.setTop (mkF m 13 #[.val (.ref a1), .val (.int (1 : Int32)), .unset] [(.ref a1)])) t → Steps p.tables e below (s₁.setTop (entryFrame m #[(.ref a1), (.int (1 : Int32))] 3)) t := by
    intro t k
    refine pre2 t ?_
    refine XS.iloadN X2.here hx rfl (hb hby d7_4) rfl ?_
    show Steps p.tables e below (T2.setTop (mkF m 5 #[.val (.ref a1), .val (.int (1 : Int32)), .unset] [(.int (1 : Int32)), (.ref bs)])) _
    refine own_ldB X2 hx hZ e2 w_as (by decide) (by decide) (g := (mkF m 5 #[.val (.ref a1), .val (.int (1 : Int32)), .unset] [(.int (1 : Int32)), (.ref bs)])) rfl rfl (hb hby d7_5) _ ?_
    show Steps p.tables e below (T2.setTop (mkF m 6 #[.val (.ref a1), .val (.int (1 : Int32)), .unset] [(.int (0 : Int32))])) _
    refine XS.iconst X2.here hx rfl (hb hby d7_6) ?_
    show Steps p.tables e below (T2.setTop (mkF m 7 #[.val (.ref a1), .val (.int (1 : Int32)), .unset] [(.int (2 : Int32)), (.int (0 : Int32))])) _
    refine XS.icmpYes X2.here hx rfl (pc0 := 7) (pc' := 12) rfl (hb hby d7_7) rfl (feq (by decide : ¬ (0 : Int32) = (2 : Int32))).2 (by decide) (by decide) ?_
    show Steps p.tables e below (T2.setTop (mkF m 12 #[.val (.ref a1), .val (.int (1 : Int32)), .unset] [])) _
    refine XS.aloadN X2.here hx rfl (hb hby d7_12) rfl rfl ?_
    show Steps p.tables e below (T2.setTop (mkF m 13 #[.val (.ref a1), .val (.int (1 : Int32)), .unset] [(.ref a1)])) _
    exact k
  obtain ⟨T4, X4, e4, st4⟩ := getF X2 hx hZ hown (host := "") (Or.inl (hw _ (List.mem_of_getElem? (i := 17) rfl))) Via.refl e2 w_states (g := (mkF m 13 #[.val (.ref a1), .val (.int (1 : Int32)), .unset] [(.ref a1)])) rfl rfl (hb hby d7_13)
  have pre4 : ∀ t, Steps p.tables e below (T4.setTop (mkF m 16 #[.val (.ref a1), .val (.int (1 : Int32)), .unset] [(.ref bs)])) t → Steps p.tables e below (s₁.setTop (entryFrame m #[(.ref a1), (.int (1 : Int32))] 3)) t := fun t k => pre3 t (st4 _ k)
  have pre5 : ∀ t, Steps p.tables e below (T4.setTop (mkF m 18 #[.val (.ref a1), .val (.int (1 : Int32)), .unset] [(.int (2 : Int32)), (.int (1 : Int32)), (.ref bs)])) t → Steps p.tables e below (s₁.setTop (entryFrame m #[(.ref a1), (.int (1 : Int32))] 3)) t := by
    intro t k
    refine pre4 t ?_
    refine XS.iloadN X4.here hx rfl (hb hby d7_16) rfl ?_
    show Steps p.tables e below (T4.setTop (mkF m 17 #[.val (.ref a1), .val (.int (1 : Int32)), .unset] [(.int (1 : Int32)), (.ref bs)])) _
    refine XS.iconst X4.here hx rfl (hb hby d7_17) ?_
    show Steps p.tables e below (T4.setTop (mkF m 18 #[.val (.ref a1), .val (.int (1 : Int32)), .unset] [(.int (2 : Int32)), (.int (1 : Int32)), (.ref bs)])) _
    exact k
  obtain ⟨T6, h6, X6, e6, W6, V6, st6⟩ := own_stB X4 hx hZ e4 w_as (by decide) (by decide) (g := (mkF m 18 #[.val (.ref a1), .val (.int (1 : Int32)), .unset] [(.int (2 : Int32)), (.int (1 : Int32)), (.ref bs)])) rfl rfl (hb hby d7_18)
  have F6_0 := w_lowest.other W6 (Or.inl w_2)
  have F6_1 := w_marks.other W6 (Or.inl w_2)
  have F6_2 := w_states.other W6 (Or.inl w_2)
  have F6_3 := w_live.other W6 (Or.inl w_2)
  have F6_4 := w_open.other W6 (Or.inl w_2)
  have F6_5 := w_e.wr W6
  have F6_6 := w_am.other W6 w_4
  have F6_7 := V6
  have F6_8 := w_al.other W6 (Ne.symm w_6)
  have Z6 : n0 ≤ h6.size := Nat.le_trans Z0 (Keep.of_wr W6).1
  have N6 := Fr.snoc X6 N0 w_gs
  have U6 : own_AI Z h6 bs .byte (2 : Int32) (own_2 (0 : Int32) (2 : Int32)) := own_AI.st1 F6_7
  have pre6 : ∀ t, Steps p.tables e below (T6.setTop (mkF m 19 #[.val (.ref a1), .val (.int (1 : Int32)), .unset] [])) t → Steps p.tables e below (s₁.setTop (entryFrame m #[(.ref a1), (.int (1 : Int32))] 3)) t := fun t k => pre5 t (st6 _ k)
  have pre7 : ∀ t, Steps p.tables e below (T6.setTop (mkF m 22 #[.val (.ref a1), .val (.int (1 : Int32)), .val (.int (0 : Int32))] [(.ref a1)])) t → Steps p.tables e below (s₁.setTop (entryFrame m #[(.ref a1), (.int (1 : Int32))] 3)) t := by
    intro t k
    refine pre6 t ?_
    refine XS.iconst X6.here hx rfl (hb hby d7_19) ?_
    show Steps p.tables e below (T6.setTop (mkF m 20 #[.val (.ref a1), .val (.int (1 : Int32)), .unset] [(.int (0 : Int32))])) _
    refine XS.istoreN X6.here hx rfl (hb hby d7_20) rfl (l' := #[.val (.ref a1), .val (.int (1 : Int32)), .val (.int (0 : Int32))]) rfl ?_
    show Steps p.tables e below (T6.setTop (mkF m 21 #[.val (.ref a1), .val (.int (1 : Int32)), .val (.int (0 : Int32))] [])) _
    refine XS.aloadN X6.here hx rfl (hb hby d7_21) rfl rfl ?_
    show Steps p.tables e below (T6.setTop (mkF m 22 #[.val (.ref a1), .val (.int (1 : Int32)), .val (.int (0 : Int32))] [(.ref a1)])) _
    exact k
  obtain ⟨T8, X8, e8, st8⟩ := getF X6 hx hZ hown (host := "") (Or.inl (hw _ (List.mem_of_getElem? (i := 20) rfl))) Via.refl e6 F6_3 (g := (mkF m 22 #[.val (.ref a1), .val (.int (1 : Int32)), .val (.int (0 : Int32))] [(.ref a1)])) rfl rfl (hb hby d7_22)
  have pre8 : ∀ t, Steps p.tables e below (T8.setTop (mkF m 25 #[.val (.ref a1), .val (.int (1 : Int32)), .val (.int (0 : Int32))] [(.ref bl)])) t → Steps p.tables e below (s₁.setTop (entryFrame m #[(.ref a1), (.int (1 : Int32))] 3)) t := fun t k => pre7 t (st8 _ k)
  have pre9 : ∀ t, Steps p.tables e below (T8.setTop (mkF m 22 #[.val (.ref a1), .val (.int (1 : Int32)), .val (.int (1 : Int32))] [(.ref a1)])) t → Steps p.tables e below (s₁.setTop (entryFrame m #[(.ref a1), (.int (1 : Int32))] 3)) t := by
    intro t k
    refine pre8 t ?_
    refine XS.iloadN X8.here hx rfl (hb hby d7_25) rfl ?_
    show Steps p.tables e below (T8.setTop (mkF m 26 #[.val (.ref a1), .val (.int (1 : Int32)), .val (.int (0 : Int32))] [(.int (0 : Int32)), (.ref bl)])) _
    refine own_ldI X8 hx hZ e8 F6_8 (by decide) (by decide) (g := (mkF m 26 #[.val (.ref a1), .val (.int (1 : Int32)), .val (.int (0 : Int32))] [(.int (0 : Int32)), (.ref bl)])) rfl rfl (hb hby d7_26) _ ?_
    show Steps p.tables e below (T8.setTop (mkF m 27 #[.val (.ref a1), .val (.int (1 : Int32)), .val (.int (0 : Int32))] [(.int (0 : Int32))])) _
    refine XS.iloadN X8.here hx rfl (hb hby d7_27) rfl ?_
    show Steps p.tables e below (T8.setTop (mkF m 28 #[.val (.ref a1), .val (.int (1 : Int32)), .val (.int (0 : Int32))] [(.int (1 : Int32)), (.int (0 : Int32))])) _
    refine XS.icmpNo X8.here hx rfl (hb hby d7_28) rfl (feq (by decide : ¬ (0 : Int32) = (1 : Int32))).1 ?_
    show Steps p.tables e below (T8.setTop (mkF m 31 #[.val (.ref a1), .val (.int (1 : Int32)), .val (.int (0 : Int32))] [])) _
    refine XS.iinc X8.here hx rfl (hb hby d7_31) rfl (l' := #[.val (.ref a1), .val (.int (1 : Int32)), .val (.int (1 : Int32))]) rfl ?_
    show Steps p.tables e below (T8.setTop (mkF m 34 #[.val (.ref a1), .val (.int (1 : Int32)), .val (.int (1 : Int32))] [])) _
    refine XS.goto X8.here hx rfl (pc0 := 34) (pc' := 21) rfl (hb hby d7_34) (by decide) (by decide) ?_
    show Steps p.tables e below (T8.setTop (mkF m 21 #[.val (.ref a1), .val (.int (1 : Int32)), .val (.int (1 : Int32))] [])) _
    refine XS.aloadN X8.here hx rfl (hb hby d7_21) rfl rfl ?_
    show Steps p.tables e below (T8.setTop (mkF m 22 #[.val (.ref a1), .val (.int (1 : Int32)), .val (.int (1 : Int32))] [(.ref a1)])) _
    exact k
  obtain ⟨T10, X10, e10, st10⟩ := getF X8 hx hZ hown (host := "") (Or.inl (hw _ (List.mem_of_getElem? (i := 20) rfl))) Via.refl e8 F6_3 (g := (mkF m 22 #[.val (.ref a1), .val (.int (1 : Int32)), .val (.int (1 : Int32))] [(.ref a1)])) rfl rfl (hb hby d7_22)
  have pre10 : ∀ t, Steps p.tables e below (T10.setTop (mkF m 25 #[.val (.ref a1), .val (.int (1 : Int32)), .val (.int (1 : Int32))] [(.ref bl)])) t → Steps p.tables e below (s₁.setTop (entryFrame m #[(.ref a1), (.int (1 : Int32))] 3)) t := fun t k => pre9 t (st10 _ k)
  have pre11 : ∀ t, Steps p.tables e below (T10.setTop (mkF m 38 #[.val (.ref a1), .val (.int (1 : Int32)), .val (.int (1 : Int32))] [(.ref a1)])) t → Steps p.tables e below (s₁.setTop (entryFrame m #[(.ref a1), (.int (1 : Int32))] 3)) t := by
    intro t k
    refine pre10 t ?_
    refine XS.iloadN X10.here hx rfl (hb hby d7_25) rfl ?_
    show Steps p.tables e below (T10.setTop (mkF m 26 #[.val (.ref a1), .val (.int (1 : Int32)), .val (.int (1 : Int32))] [(.int (1 : Int32)), (.ref bl)])) _
    refine own_ldI X10 hx hZ e10 F6_8 (by decide) (by decide) (g := (mkF m 26 #[.val (.ref a1), .val (.int (1 : Int32)), .val (.int (1 : Int32))] [(.int (1 : Int32)), (.ref bl)])) rfl rfl (hb hby d7_26) _ ?_
    show Steps p.tables e below (T10.setTop (mkF m 27 #[.val (.ref a1), .val (.int (1 : Int32)), .val (.int (1 : Int32))] [(.int (1 : Int32))])) _
    refine XS.iloadN X10.here hx rfl (hb hby d7_27) rfl ?_
    show Steps p.tables e below (T10.setTop (mkF m 28 #[.val (.ref a1), .val (.int (1 : Int32)), .val (.int (1 : Int32))] [(.int (1 : Int32)), (.int (1 : Int32))])) _
    refine XS.icmpYes X10.here hx rfl (pc0 := 28) (pc' := 37) rfl (hb hby d7_28) rfl (teq (by decide : (1 : Int32) = (1 : Int32))).1 (by decide) (by decide) ?_
    show Steps p.tables e below (T10.setTop (mkF m 37 #[.val (.ref a1), .val (.int (1 : Int32)), .val (.int (1 : Int32))] [])) _
    refine XS.aloadN X10.here hx rfl (hb hby d7_37) rfl rfl ?_
    show Steps p.tables e below (T10.setTop (mkF m 38 #[.val (.ref a1), .val (.int (1 : Int32)), .val (.int (1 : Int32))] [(.ref a1)])) _
    exact k
  obtain ⟨T12, X12, e12, st12⟩ := getF X10 hx hZ hown (host := "") (Or.inl (hw _ (List.mem_of_getElem? (i := 20) rfl))) Via.refl e10 F6_3 (g := (mkF m 38 #[.val (.ref a1), .val (.int (1 : Int32)), .val (.int (1 : Int32))] [(.ref a1)])) rfl rfl (hb hby d7_38)
  have pre12 : ∀ t, Steps p.tables e below (T12.setTop (mkF m 41 #[.val (.ref a1), .val (.int (1 : Int32)), .val (.int (1 : Int32))] [(.ref bl)])) t → Steps p.tables e below (s₁.setTop (entryFrame m #[(.ref a1), (.int (1 : Int32))] 3)) t := fun t k => pre11 t (st12 _ k)
  have pre13 : ∀ t, Steps p.tables e below (T12.setTop (mkF m 43 #[.val (.ref a1), .val (.int (1 : Int32)), .val (.int (1 : Int32))] [(.ref a1), (.int (1 : Int32)), (.ref bl)])) t → Steps p.tables e below (s₁.setTop (entryFrame m #[(.ref a1), (.int (1 : Int32))] 3)) t := by
    intro t k
    refine pre12 t ?_
    refine XS.iloadN X12.here hx rfl (hb hby d7_41) rfl ?_
    show Steps p.tables e below (T12.setTop (mkF m 42 #[.val (.ref a1), .val (.int (1 : Int32)), .val (.int (1 : Int32))] [(.int (1 : Int32)), (.ref bl)])) _
    refine XS.aloadN X12.here hx rfl (hb hby d7_42) rfl rfl ?_
    show Steps p.tables e below (T12.setTop (mkF m 43 #[.val (.ref a1), .val (.int (1 : Int32)), .val (.int (1 : Int32))] [(.ref a1), (.int (1 : Int32)), (.ref bl)])) _
    exact k
  obtain ⟨T14, X14, e14, st14⟩ := getF X12 hx hZ hown (host := "") (Or.inl (hw _ (List.mem_of_getElem? (i := 20) rfl))) Via.refl e12 F6_3 (g := (mkF m 43 #[.val (.ref a1), .val (.int (1 : Int32)), .val (.int (1 : Int32))] [(.ref a1), (.int (1 : Int32)), (.ref bl)])) rfl rfl (hb hby d7_43)
  have pre14 : ∀ t, Steps p.tables e below (T14.setTop (mkF m 46 #[.val (.ref a1), .val (.int (1 : Int32)), .val (.int (1 : Int32))] [(.ref bl), (.int (1 : Int32)), (.ref bl)])) t → Steps p.tables e below (s₁.setTop (entryFrame m #[(.ref a1), (.int (1 : Int32))] 3)) t := fun t k => pre13 t (st14 _ k)
  have pre15 : ∀ t, Steps p.tables e below (T14.setTop (mkF m 48 #[.val (.ref a1), .val (.int (1 : Int32)), .val (.int (1 : Int32))] [(.ref a1), (.ref a1), (.ref bl), (.int (1 : Int32)), (.ref bl)])) t → Steps p.tables e below (s₁.setTop (entryFrame m #[(.ref a1), (.int (1 : Int32))] 3)) t := by
    intro t k
    refine pre14 t ?_
    refine XS.aloadN X14.here hx rfl (hb hby d7_46) rfl rfl ?_
    show Steps p.tables e below (T14.setTop (mkF m 47 #[.val (.ref a1), .val (.int (1 : Int32)), .val (.int (1 : Int32))] [(.ref a1), (.ref bl), (.int (1 : Int32)), (.ref bl)])) _
    refine XS.dup X14.here hx rfl (hb hby d7_47) rfl rfl ?_
    show Steps p.tables e below (T14.setTop (mkF m 48 #[.val (.ref a1), .val (.int (1 : Int32)), .val (.int (1 : Int32))] [(.ref a1), (.ref a1), (.ref bl), (.int (1 : Int32)), (.ref bl)])) _
    exact k
  obtain ⟨T16, X16, e16, st16⟩ := getF X14 hx hZ hown (host := "") (Or.inl (hw _ (List.mem_of_getElem? (i := 26) rfl))) Via.refl e14 F6_4 (g := (mkF m 48 #[.val (.ref a1), .val (.int (1 : Int32)), .val (.int (1 : Int32))] [(.ref a1), (.ref a1), (.ref bl), (.int (1 : Int32)), (.ref bl)])) rfl rfl (hb hby d7_48)
  have pre16 : ∀ t, Steps p.tables e below (T16.setTop (mkF m 51 #[.val (.ref a1), .val (.int (1 : Int32)), .val (.int (1 : Int32))] [(.int (2 : Int32)), (.ref a1), (.ref bl), (.int (1 : Int32)), (.ref bl)])) t → Steps p.tables e below (s₁.setTop (entryFrame m #[(.ref a1), (.int (1 : Int32))] 3)) t := fun t k => pre15 t (st16 _ k)
  have pre17 : ∀ t, Steps p.tables e below (T16.setTop (mkF m 54 #[.val (.ref a1), .val (.int (1 : Int32)), .val (.int (1 : Int32))] [(.int (1 : Int32)), (.ref a1), (.int (1 : Int32)), (.ref bl), (.int (1 : Int32)), (.ref bl)])) t → Steps p.tables e below (s₁.setTop (entryFrame m #[(.ref a1), (.int (1 : Int32))] 3)) t := by
    intro t k
    refine pre16 t ?_
    refine XS.iconst X16.here hx rfl (hb hby d7_51) ?_
    show Steps p.tables e below (T16.setTop (mkF m 52 #[.val (.ref a1), .val (.int (1 : Int32)), .val (.int (1 : Int32))] [(.int (1 : Int32)), (.int (2 : Int32)), (.ref a1), (.ref bl), (.int (1 : Int32)), (.ref bl)])) _
    refine XS.isub X16.here hx rfl (hb hby d7_52) rfl ?_
    show Steps p.tables e below (T16.setTop (mkF m 53 #[.val (.ref a1), .val (.int (1 : Int32)), .val (.int (1 : Int32))] [(.int (1 : Int32)), (.ref a1), (.ref bl), (.int (1 : Int32)), (.ref bl)])) _
    refine XS.dupX1 X16.here hx rfl (hb hby d7_53) rfl rfl rfl ?_
    show Steps p.tables e below (T16.setTop (mkF m 54 #[.val (.ref a1), .val (.int (1 : Int32)), .val (.int (1 : Int32))] [(.int (1 : Int32)), (.ref a1), (.int (1 : Int32)), (.ref bl), (.int (1 : Int32)), (.ref bl)])) _
    exact k
  obtain ⟨T18, h18, X18, e18, W18, st18⟩ := putF X16 hx hZ hown (host := "") (Or.inl (hw _ (List.mem_of_getElem? (i := 26) rfl))) Via.refl e16 F6_4 F6_5 (Or.inl (hw _ (List.mem_of_getElem? (i := 27) rfl))) (hw _ (List.mem_of_getElem? (i := 2) rfl)) (ty := .int) (by decide) rfl rfl (g := (mkF m 54 #[.val (.ref a1), .val (.int (1 : Int32)), .val (.int (1 : Int32))] [(.int (1 : Int32)), (.ref a1), (.int (1 : Int32)), (.ref bl), (.int (1 : Int32)), (.ref bl)])) rfl rfl (hb hby d7_54)
  have F18_0 := F6_0.other W18 (Or.inr (slot_ne (Or.inl (hw _ (List.mem_of_getElem? (i := 12) rfl))) (Or.inl (hw _ (List.mem_of_getElem? (i := 27) rfl))) (by decide) (t := .long) (t' := .int) (by decide) (by decide)))
  have F18_1 := F6_1.other W18 (Or.inr (slot_ne (Or.inl (hw _ (List.mem_of_getElem? (i := 15) rfl))) (Or.inl (hw _ (List.mem_of_getElem? (i := 27) rfl))) (by decide) (t := (.array .long)) (t' := .int) (by decide) (by decide)))
  have F18_2 := F6_2.other W18 (Or.inr (slot_ne (Or.inl (hw _ (List.mem_of_getElem? (i := 18) rfl))) (Or.inl (hw _ (List.mem_of_getElem? (i := 27) rfl))) (by decide) (t := (.array .byte)) (t' := .int) (by decide) (by decide)))
  have F18_3 := F6_3.other W18 (Or.inr (slot_ne (Or.inl (hw _ (List.mem_of_getElem? (i := 21) rfl))) (Or.inl (hw _ (List.mem_of_getElem? (i := 27) rfl))) (by decide) (t := (.array .int)) (t' := .int) (by decide) (by decide)))
  have F18_4 := F6_4.same W18
  have F18_5 := F6_5.wr W18
  have F18_6 := F6_6.other W18 (Ne.symm w_1)
  have F18_7 := U6.other W18 (Ne.symm w_2)
  have F18_8 := F6_8.other W18 (Ne.symm w_3)
  have Z18 : n0 ≤ h18.size := Nat.le_trans Z6 (Keep.of_wr W18).1
  have N18 := Fr.snoc X18 N6 w_ga
  have pre18 : ∀ t, Steps p.tables e below (T18.setTop (mkF m 57 #[.val (.ref a1), .val (.int (1 : Int32)), .val (.int (1 : Int32))] [(.int (1 : Int32)), (.ref bl), (.int (1 : Int32)), (.ref bl)])) t → Steps p.tables e below (s₁.setTop (entryFrame m #[(.ref a1), (.int (1 : Int32))] 3)) t := fun t k => pre17 t (st18 _ k)
  have pre19 : ∀ t, Steps p.tables e below (T18.setTop (mkF m 58 #[.val (.ref a1), .val (.int (1 : Int32)), .val (.int (1 : Int32))] [(.int (1 : Int32)), (.int (1 : Int32)), (.ref bl)])) t → Steps p.tables e below (s₁.setTop (entryFrame m #[(.ref a1), (.int (1 : Int32))] 3)) t := by
    intro t k
    refine pre18 t ?_
    refine own_ldI X18 hx hZ e18 F18_8 (by decide) (by decide) (g := (mkF m 57 #[.val (.ref a1), .val (.int (1 : Int32)), .val (.int (1 : Int32))] [(.int (1 : Int32)), (.ref bl), (.int (1 : Int32)), (.ref bl)])) rfl rfl (hb hby d7_57) _ ?_
    show Steps p.tables e below (T18.setTop (mkF m 58 #[.val (.ref a1), .val (.int (1 : Int32)), .val (.int (1 : Int32))] [(.int (1 : Int32)), (.int (1 : Int32)), (.ref bl)])) _
    exact k
  obtain ⟨T20, h20, X20, e20, W20, V20, st20⟩ := own_stI X18 hx hZ e18 F18_8 (by decide) (by decide) (g := (mkF m 58 #[.val (.ref a1), .val (.int (1 : Int32)), .val (.int (1 : Int32))] [(.int (1 : Int32)), (.int (1 : Int32)), (.ref bl)])) rfl rfl (hb hby d7_58)
  have F20_0 := F18_0.other W20 (Or.inl w_3)
  have F20_1 := F18_1.other W20 (Or.inl w_3)
  have F20_2 := F18_2.other W20 (Or.inl w_3)
  have F20_3 := F18_3.other W20 (Or.inl w_3)
  have F20_4 := F18_4.other W20 (Or.inl w_3)
  have F20_5 := F18_5.wr W20
  have F20_6 := F18_6.other W20 w_5
  have F20_7 := F18_7.other W20 w_6
  have F20_8 := V20
  have Z20 : n0 ≤ h20.size := Nat.le_trans Z18 (Keep.of_wr W20).1
  have N20 := Fr.snoc X20 N18 w_gl
  have U20 : own_AI Z h20 bl .int (2 : Int32) (own_2 (0 : Int32) (1 : Int32)) := own_AI.st1 F20_8
  have pre20 : ∀ t, Steps p.tables e below (T20.setTop (mkF m 59 #[.val (.ref a1), .val (.int (1 : Int32)), .val (.int (1 : Int32))] [])) t → Steps p.tables e below (s₁.setTop (entryFrame m #[(.ref a1), (.int (1 : Int32))] 3)) t := fun t k => pre19 t (st20 _ k)
  have pre21 : ∀ t, Steps p.tables e below (T20.setTop (mkF m 60 #[.val (.ref a1), .val (.int (1 : Int32)), .val (.int (1 : Int32))] [(.ref a1)])) t → Steps p.tables e below (s₁.setTop (entryFrame m #[(.ref a1), (.int (1 : Int32))] 3)) t := by
    intro t k
    refine pre20 t ?_
    refine XS.aloadN X20.here hx rfl (hb hby d7_59) rfl rfl ?_
    show Steps p.tables e below (T20.setTop (mkF m 60 #[.val (.ref a1), .val (.int (1 : Int32)), .val (.int (1 : Int32))] [(.ref a1)])) _
    exact k
  obtain ⟨cq22, q22, q22'⟩ := F20_5.cell
  obtain ⟨_, _, ⟨T22, L22, k22, n22⟩, -, X22, ⟨Lc22, hQ22, l22, y22, z22⟩, st22⟩ := X20.privateBack hx (y := (⟨"sluice/stream/Watermarks", "rise", "()Z"⟩ : MethodName)) hown (mvT hZ (hw _ (List.mem_of_getElem? (i := 33) rfl))) (mvT hZ (hw _ (List.mem_of_getElem? (i := 34) rfl))) (mvT hZ (Jvm.Kit.selects_private (by decide) (hw _ (List.mem_of_getElem? (i := 2) rfl)) (hw _ (List.mem_of_getElem? (i := 35) rfl)) (hw _ (List.mem_of_getElem? (i := 34) rfl)))) (Cond.privateMethod_at (mvP hZ (hw _ (List.mem_of_getElem? (i := 35) rfl)) (args := #[]))) (mvT hZ (hw _ (List.mem_of_getElem? (i := 36) rfl))) (by decide) (backOf (W := 0) (rmrD l Z a0 hw [] a1 bm bs bl m0 m1 lw (1 : Int32) h20 n0 Z20 ⟨F20_5, F20_0, F20_1, F20_2, F20_3, F20_4, F20_6, F20_7, U20, w_ga, w_gm, w_gs, w_gl, w_1, w_2, w_3, w_4, w_5, w_6⟩) hZ (hw _ (List.mem_of_getElem? (i := 36) rfl)) (hw _ (List.mem_of_getElem? (i := 3) rfl)) (by decide) (by decide)) (g := (mkF m 60 #[.val (.ref a1), .val (.int (1 : Int32)), .val (.int (1 : Int32))] [(.ref a1)])) rfl (by rw [hml]; rfl) (Steps.refl _) (a := a1) (by rw [e20]; exact q22) q22' (argsL := []) (rest := []) (lenOf pde1_0 rfl) rfl (by show 2 * 0 + _ ≤ _; exact Nat.le_of_eq rfl) (hb hby d7_60) (fun _ _ => ⟨rfl, e20, (by decide : 0 + 0 ≤ _), (by decide : 0 + 0 ≤ _)⟩)
  dsimp only [Pt.U, Pt.locs, Pt.cells, Pt.slots] at X22 l22 y22 z22 st22 hQ22
  subst l22 y22 z22
  unfold QrD at hQ22
  obtain ⟨x22, hx22⟩ : ∃ z : Int32 × Int64 × Int64 × Int64, z = (fnrD m0 m1 lw) := ⟨_, rfl⟩
  rw [← hx22] at hQ22
  obtain ⟨rfl, Nq22, J22⟩ := hQ22
  obtain ⟨w22_e, w22_lowest, w22_marks, w22_states, w22_live, w22_open, w22_am, w22_as, w22_al, w22_ga, w22_gm, w22_gs, w22_gl, w22_1, w22_2, w22_3, w22_4, w22_5, w22_6⟩ := J22
  have Z22 : n0 ≤ T22.heap.size := Nat.le_of_lt (Nat.lt_of_le_of_lt w22_ga w22_e.lt)
  have N22 := Fr.app N20 Nq22
  have pre22 : ∀ t, Steps p.tables e below (T22.setTop (mkF m 63 #[.val (.ref a1), .val (.int (1 : Int32)), .val (.int (1 : Int32))] [(.int x22.1)])) t → Steps p.tables e below (s₁.setTop (entryFrame m #[(.ref a1), (.int (1 : Int32))] 3)) t := fun t k => pre21 t (st22.trans k)
  obtain ⟨fs, hr, hrun, hended, hW, hsame⟩ := X22.leave (v := some (.int (nar .boolean x22.1))) (fun h => by rw [Bd.returns] at h; cases h)
  refine ⟨_, _, pre22 _ ?_, hrun, hended, _, _, rfl, ?_, ⟨_, rfl⟩, hW, hsame.mono (by decide) (by decide)⟩
  · show Steps p.tables e below (T22.setTop (mkF m 63 #[.val (.ref a1), .val (.int (1 : Int32)), .val (.int (1 : Int32))] [(.int x22.1)])) _
    exact retN X22 hx (t := .boolean) Bd.returns (by simp) (hb hby d7_63) hr
  · show Qe1 Z a1 bm bs bl m0 m1 lw h0 n0 _ T22.heap _
    have hfn : fne1 m0 m1 lw = ((nar .boolean x22.1), x22.2.1, x22.2.2.1, x22.2.2.2) := by
      subst hx22
      simp only [fne1]
    unfold Qe1
    rw [hfn]
    exact ⟨rfl, N22, ⟨w22_e, w22_lowest, w22_marks, w22_states, w22_live, w22_open, w22_am, w22_as, w22_al, w22_ga, w22_gm, w22_gs, w22_gl, w22_1, w22_2, w22_3, w22_4, w22_5, w22_6⟩⟩
/-! body 7: end -/
theorem pde2_0 : parseMethodDescriptor "()Z" = some ⟨[], some .boolean⟩ := by decide +kernel
theorem pne2 : plainName "sluice/stream/Watermarks" = true := by first | (simp [plainName, overriddenIn]; done) | decide +kernel
theorem efe2 (m : MethodId) (a1 : Addr) : entryFrame m #[(.ref a1), (.int (1 : Int32))] 3 = mkF m 0 #[.val (.ref a1), .val (.int (1 : Int32)), .unset] [] := by first | (simp [entryFrame, mkF, argsToLocals, Value.category]; done) | rfl
def fne2 (m0 m1 lw : Int64) : Int32 × Int64 × Int64 × Int64 :=
  let x22 : Int32 × Int64 × Int64 × Int64 := (fnrE m0 m1 lw)
  ((nar .boolean x22.1), x22.2.1, x22.2.2.1, x22.2.2.2)
def Qe2 (Z : State) (a1 : Addr) (bm bs bl : Addr) (m0 m1 lw : Int64) (h0 : Heap) (n0 : Nat) (v : Option Value) (h : Heap) (L : List Loc) : Prop := v = some (.int (fne2 m0 m1 lw).1) ∧ Fr n0 L ∧ own_W Z h n0 a1 bm bs bl (fne2 m0 m1 lw).2.1 (fne2 m0 m1 lw).2.2.1 (fne2 m0 m1 lw).2.2.2 (1 : Int32) (2 : Int32) (0 : Int32) (1 : Int32) (1 : Int32)
set_option maxRecDepth 65536 in
set_option maxHeartbeats 40000000 in
theorem rme2 (l : Launch) (Z : State) (a0 : Array Value) (hw : ∀ d ∈ tables_1, d.before a0 Z = true) (ws : List Jvm.Cond) (a1 : Addr) (bm bs bl : Addr) (m0 m1 lw : Int64) (h0 : Heap) (n0 : Nat) (Z0 : n0 ≤ h0.size) (I0 : own_W Z h0 n0 a1 bm bs bl m0 m1 lw (1 : Int32) (0 : Int32) (0 : Int32) (1 : Int32) (2 : Int32)) :
    MetFree l (⟨"sluice/stream/Watermarks", "end", "(I)Z"⟩ : MethodName) (head1 (Jvm.Cond.code (⟨"sluice/stream/Watermarks", "end", "(I)Z"⟩ : MethodName) prog_183_method_6_code 3 (some .boolean) :: ws) ({ frames := 2, cells := 0, slots := 0, locals := 35 } : Room)) (fun a U => a = #[(.ref a1), (.int (1 : Int32))] ∧ Z.Warmed39 U.vm ∧ U.heap = h0) (fun _ _ _ _ _ => True) (fun _ U o U' => ∃ v L, o = .returned v ∧ Qe2 Z a1 bm bs bl m0 m1 lw h0 n0 v U'.heap L ∧ FrameEnd U o U' L ({ frames := 2, cells := 0, slots := 0, locals := 35 } : Room).cells ({ frames := 2, cells := 0, slots := 0, locals := 35 } : Room).slots) := by
  refine MetFree.of_bodySF (plainFor_of_name pne2) hisR ?_
  intro p e s m args below meth c s₁ Bd hml0 hP hK
  obtain ⟨rfl, hZ, hh⟩ := hP
  have hx := Bd.exec
  have hby := Bd.bytes
  have hml : c.maxLocals = 3 := hml0
  have hown : s.vm.findClass "sluice/stream/Watermarks" = some m.cls := findClass_of_methodNamed Bd.named
  have hnm := (name_of_methodNamed Bd.named Bd.method).1
  have X0 : Stand p l e ({ frames := 2, cells := 0, slots := 0, locals := 35 } : Room) s m #[(.ref a1), (.int (1 : Int32))] below meth c s₁ [] 0 0 := Stand.of_body Bd
  have e0 : s₁.heap = h0 := by rw [← hh, Bd.state]; rfl
  have N0 := Fr.nil n0
  have pre0 : ∀ t, Steps p.tables e below (s₁.setTop (mkF m 0 #[.val (.ref a1), .val (.int (1 : Int32)), .unset] [])) t → Steps p.tables e below (s₁.setTop (entryFrame m #[(.ref a1), (.int (1 : Int32))] 3)) t := fun t k => castTop (efe2 m a1) k
  obtain ⟨w_e, w_lowest, w_marks, w_states, w_live, w_open, w_am, w_as, w_al, w_ga, w_gm, w_gs, w_gl, w_1, w_2, w_3, w_4, w_5, w_6⟩ := I0
  have pre1 : ∀ t, Steps p.tables e below (s₁.setTop (mkF m 1 #[.val (.ref a1), .val (.int (1 : Int32)), .unset] [(.ref a1)])) t → Steps p.tables e below (s₁.setTop (entryFrame m #[(.ref a1), (.int (1 : Int32))] 3)) t := by
    intro t k
    refine pre0 t ?_
    show Steps p.tables e below (s₁.setTop (mkF m 0 #[.val (.ref a1), .val (.int (1 : Int32)), .unset] [])) _
    refine XS.aloadN X0.here hx rfl (hb hby d7_0) rfl rfl ?_
    show Steps p.tables e below (s₁.setTop (mkF m 1 #[.val (.ref a1), .val (.int (1 : Int32)), .unset] [(.ref a1)])) _
    exact k
  obtain ⟨T2, X2, e2, st2⟩ := getF X0 hx hZ hown (host := "") (Or.inl (hw _ (List.mem_of_getElem? (i := 17) rfl))) Via.refl e0 w_states (g := (mkF m 1 #[.val (.ref a1), .val (.int (1 : Int32)), .unset] [(.ref a1)])) rfl rfl (hb hby d7_1)
  have pre2 : ∀ t, Steps p.tables e below (T2.setTop (mkF m 4 #[.val (.ref a1), .val (.int (1 : Int32)), .unset] [(.ref bs)])) t → Steps p.tables e below (s₁.setTop (entryFrame m #[(.ref a1), (.int (1 : Int32))] 3)) t := fun t k => pre1 t (st2 _ k)
  have pre3 : ∀ t, Steps p.tables e below (T2.setTop (mkF m 13 #[.val (.ref a1), .val (.int (1 : Int32)), .unset] [(.ref a1)])) t → Steps p.tables e below (s₁.setTop (entryFrame m #[(.ref a1), (.int (1 : Int32))] 3)) t := by
    intro t k
    refine pre2 t ?_
    refine XS.iloadN X2.here hx rfl (hb hby d7_4) rfl ?_
    show Steps p.tables e below (T2.setTop (mkF m 5 #[.val (.ref a1), .val (.int (1 : Int32)), .unset] [(.int (1 : Int32)), (.ref bs)])) _
    refine own_ldB X2 hx hZ e2 w_as (by decide) (by decide) (g := (mkF m 5 #[.val (.ref a1), .val (.int (1 : Int32)), .unset] [(.int (1 : Int32)), (.ref bs)])) rfl rfl (hb hby d7_5) _ ?_
    show Steps p.tables e below (T2.setTop (mkF m 6 #[.val (.ref a1), .val (.int (1 : Int32)), .unset] [(.int (0 : Int32))])) _
    refine XS.iconst X2.here hx rfl (hb hby d7_6) ?_
    show Steps p.tables e below (T2.setTop (mkF m 7 #[.val (.ref a1), .val (.int (1 : Int32)), .unset] [(.int (2 : Int32)), (.int (0 : Int32))])) _
    refine XS.icmpYes X2.here hx rfl (pc0 := 7) (pc' := 12) rfl (hb hby d7_7) rfl (feq (by decide : ¬ (0 : Int32) = (2 : Int32))).2 (by decide) (by decide) ?_
    show Steps p.tables e below (T2.setTop (mkF m 12 #[.val (.ref a1), .val (.int (1 : Int32)), .unset] [])) _
    refine XS.aloadN X2.here hx rfl (hb hby d7_12) rfl rfl ?_
    show Steps p.tables e below (T2.setTop (mkF m 13 #[.val (.ref a1), .val (.int (1 : Int32)), .unset] [(.ref a1)])) _
    exact k
  obtain ⟨T4, X4, e4, st4⟩ := getF X2 hx hZ hown (host := "") (Or.inl (hw _ (List.mem_of_getElem? (i := 17) rfl))) Via.refl e2 w_states (g := (mkF m 13 #[.val (.ref a1), .val (.int (1 : Int32)), .unset] [(.ref a1)])) rfl rfl (hb hby d7_13)
  have pre4 : ∀ t, Steps p.tables e below (T4.setTop (mkF m 16 #[.val (.ref a1), .val (.int (1 : Int32)), .unset] [(.ref bs)])) t → Steps p.tables e below (s₁.setTop (entryFrame m #[(.ref a1), (.int (1 : Int32))] 3)) t := fun t k => pre3 t (st4 _ k)
  have pre5 : ∀ t, Steps p.tables e below (T4.setTop (mkF m 18 #[.val (.ref a1), .val (.int (1 : Int32)), .unset] [(.int (2 : Int32)), (.int (1 : Int32)), (.ref bs)])) t → Steps p.tables e below (s₁.setTop (entryFrame m #[(.ref a1), (.int (1 : Int32))] 3)) t := by
    intro t k
    refine pre4 t ?_
    refine XS.iloadN X4.here hx rfl (hb hby d7_16) rfl ?_
    show Steps p.tables e below (T4.setTop (mkF m 17 #[.val (.ref a1), .val (.int (1 : Int32)), .unset] [(.int (1 : Int32)), (.ref bs)])) _
    refine XS.iconst X4.here hx rfl (hb hby d7_17) ?_
    show Steps p.tables e below (T4.setTop (mkF m 18 #[.val (.ref a1), .val (.int (1 : Int32)), .unset] [(.int (2 : Int32)), (.int (1 : Int32)), (.ref bs)])) _
    exact k
  obtain ⟨T6, h6, X6, e6, W6, V6, st6⟩ := own_stB X4 hx hZ e4 w_as (by decide) (by decide) (g := (mkF m 18 #[.val (.ref a1), .val (.int (1 : Int32)), .unset] [(.int (2 : Int32)), (.int (1 : Int32)), (.ref bs)])) rfl rfl (hb hby d7_18)
  have F6_0 := w_lowest.other W6 (Or.inl w_2)
  have F6_1 := w_marks.other W6 (Or.inl w_2)
  have F6_2 := w_states.other W6 (Or.inl w_2)
  have F6_3 := w_live.other W6 (Or.inl w_2)
  have F6_4 := w_open.other W6 (Or.inl w_2)
  have F6_5 := w_e.wr W6
  have F6_6 := w_am.other W6 w_4
  have F6_7 := V6
  have F6_8 := w_al.other W6 (Ne.symm w_6)
  have Z6 : n0 ≤ h6.size := Nat.le_trans Z0 (Keep.of_wr W6).1
  have N6 := Fr.snoc X6 N0 w_gs
  have U6 : own_AI Z h6 bs .byte (2 : Int32) (own_2 (1 : Int32) (2 : Int32)) := own_AI.st1 F6_7
  have pre6 : ∀ t, Steps p.tables e below (T6.setTop (mkF m 19 #[.val (.ref a1), .val (.int (1 : Int32)), .unset] [])) t → Steps p.tables e below (s₁.setTop (entryFrame m #[(.ref a1), (.int (1 : Int32))] 3)) t := fun t k => pre5 t (st6 _ k)
  have pre7 : ∀ t, Steps p.tables e below (T6.setTop (mkF m 22 #[.val (.ref a1), .val (.int (1 : Int32)), .val (.int (0 : Int32))] [(.ref a1)])) t → Steps p.tables e below (s₁.setTop (entryFrame m #[(.ref a1), (.int (1 : Int32))] 3)) t := by
    intro t k
    refine pre6 t ?_
    refine XS.iconst X6.here hx rfl (hb hby d7_19) ?_
    show Steps p.tables e below (T6.setTop (mkF m 20 #[.val (.ref a1), .val (.int (1 : Int32)), .unset] [(.int (0 : Int32))])) _
    refine XS.istoreN X6.here hx rfl (hb hby d7_20) rfl (l' := #[.val (.ref a1), .val (.int (1 : Int32)), .val (.int (0 : Int32))]) rfl ?_
    show Steps p.tables e below (T6.setTop (mkF m 21 #[.val (.ref a1), .val (.int (1 : Int32)), .val (.int (0 : Int32))] [])) _
    refine XS.aloadN X6.here hx rfl (hb hby d7_21) rfl rfl ?_
    show Steps p.tables e below (T6.setTop (mkF m 22 #[.val (.ref a1), .val (.int (1 : Int32)), .val (.int (0 : Int32))] [(.ref a1)])) _
    exact k
  obtain ⟨T8, X8, e8, st8⟩ := getF X6 hx hZ hown (host := "") (Or.inl (hw _ (List.mem_of_getElem? (i := 20) rfl))) Via.refl e6 F6_3 (g := (mkF m 22 #[.val (.ref a1), .val (.int (1 : Int32)), .val (.int (0 : Int32))] [(.ref a1)])) rfl rfl (hb hby d7_22)
  have pre8 : ∀ t, Steps p.tables e below (T8.setTop (mkF m 25 #[.val (.ref a1), .val (.int (1 : Int32)), .val (.int (0 : Int32))] [(.ref bl)])) t → Steps p.tables e below (s₁.setTop (entryFrame m #[(.ref a1), (.int (1 : Int32))] 3)) t := fun t k => pre7 t (st8 _ k)
  have pre9 : ∀ t, Steps p.tables e below (T8.setTop (mkF m 22 #[.val (.ref a1), .val (.int (1 : Int32)), .val (.int (1 : Int32))] [(.ref a1)])) t → Steps p.tables e below (s₁.setTop (entryFrame m #[(.ref a1), (.int (1 : Int32))] 3)) t := by
    intro t k
    refine pre8 t ?_
    refine XS.iloadN X8.here hx rfl (hb hby d7_25) rfl ?_
    show Steps p.tables e below (T8.setTop (mkF m 26 #[.val (.ref a1), .val (.int (1 : Int32)), .val (.int (0 : Int32))] [(.int (0 : Int32)), (.ref bl)])) _
    refine own_ldI X8 hx hZ e8 F6_8 (by decide) (by decide) (g := (mkF m 26 #[.val (.ref a1), .val (.int (1 : Int32)), .val (.int (0 : Int32))] [(.int (0 : Int32)), (.ref bl)])) rfl rfl (hb hby d7_26) _ ?_
    show Steps p.tables e below (T8.setTop (mkF m 27 #[.val (.ref a1), .val (.int (1 : Int32)), .val (.int (0 : Int32))] [(.int (0 : Int32))])) _
    refine XS.iloadN X8.here hx rfl (hb hby d7_27) rfl ?_
    show Steps p.tables e below (T8.setTop (mkF m 28 #[.val (.ref a1), .val (.int (1 : Int32)), .val (.int (0 : Int32))] [(.int (1 : Int32)), (.int (0 : Int32))])) _
    refine XS.icmpNo X8.here hx rfl (hb hby d7_28) rfl (feq (by decide : ¬ (0 : Int32) = (1 : Int32))).1 ?_
    show Steps p.tables e below (T8.setTop (mkF m 31 #[.val (.ref a1), .val (.int (1 : Int32)), .val (.int (0 : Int32))] [])) _
    refine XS.iinc X8.here hx rfl (hb hby d7_31) rfl (l' := #[.val (.ref a1), .val (.int (1 : Int32)), .val (.int (1 : Int32))]) rfl ?_
    show Steps p.tables e below (T8.setTop (mkF m 34 #[.val (.ref a1), .val (.int (1 : Int32)), .val (.int (1 : Int32))] [])) _
    refine XS.goto X8.here hx rfl (pc0 := 34) (pc' := 21) rfl (hb hby d7_34) (by decide) (by decide) ?_
    show Steps p.tables e below (T8.setTop (mkF m 21 #[.val (.ref a1), .val (.int (1 : Int32)), .val (.int (1 : Int32))] [])) _
    refine XS.aloadN X8.here hx rfl (hb hby d7_21) rfl rfl ?_
    show Steps p.tables e below (T8.setTop (mkF m 22 #[.val (.ref a1), .val (.int (1 : Int32)), .val (.int (1 : Int32))] [(.ref a1)])) _
    exact k
  obtain ⟨T10, X10, e10, st10⟩ := getF X8 hx hZ hown (host := "") (Or.inl (hw _ (List.mem_of_getElem? (i := 20) rfl))) Via.refl e8 F6_3 (g := (mkF m 22 #[.val (.ref a1), .val (.int (1 : Int32)), .val (.int (1 : Int32))] [(.ref a1)])) rfl rfl (hb hby d7_22)
  have pre10 : ∀ t, Steps p.tables e below (T10.setTop (mkF m 25 #[.val (.ref a1), .val (.int (1 : Int32)), .val (.int (1 : Int32))] [(.ref bl)])) t → Steps p.tables e below (s₁.setTop (entryFrame m #[(.ref a1), (.int (1 : Int32))] 3)) t := fun t k => pre9 t (st10 _ k)
  have pre11 : ∀ t, Steps p.tables e below (T10.setTop (mkF m 38 #[.val (.ref a1), .val (.int (1 : Int32)), .val (.int (1 : Int32))] [(.ref a1)])) t → Steps p.tables e below (s₁.setTop (entryFrame m #[(.ref a1), (.int (1 : Int32))] 3)) t := by
    intro t k
    refine pre10 t ?_
    refine XS.iloadN X10.here hx rfl (hb hby d7_25) rfl ?_
    show Steps p.tables e below (T10.setTop (mkF m 26 #[.val (.ref a1), .val (.int (1 : Int32)), .val (.int (1 : Int32))] [(.int (1 : Int32)), (.ref bl)])) _
    refine own_ldI X10 hx hZ e10 F6_8 (by decide) (by decide) (g := (mkF m 26 #[.val (.ref a1), .val (.int (1 : Int32)), .val (.int (1 : Int32))] [(.int (1 : Int32)), (.ref bl)])) rfl rfl (hb hby d7_26) _ ?_
    show Steps p.tables e below (T10.setTop (mkF m 27 #[.val (.ref a1), .val (.int (1 : Int32)), .val (.int (1 : Int32))] [(.int (1 : Int32))])) _
    refine XS.iloadN X10.here hx rfl (hb hby d7_27) rfl ?_
    show Steps p.tables e below (T10.setTop (mkF m 28 #[.val (.ref a1), .val (.int (1 : Int32)), .val (.int (1 : Int32))] [(.int (1 : Int32)), (.int (1 : Int32))])) _
    refine XS.icmpYes X10.here hx rfl (pc0 := 28) (pc' := 37) rfl (hb hby d7_28) rfl (teq (by decide : (1 : Int32) = (1 : Int32))).1 (by decide) (by decide) ?_
    show Steps p.tables e below (T10.setTop (mkF m 37 #[.val (.ref a1), .val (.int (1 : Int32)), .val (.int (1 : Int32))] [])) _
    refine XS.aloadN X10.here hx rfl (hb hby d7_37) rfl rfl ?_
    show Steps p.tables e below (T10.setTop (mkF m 38 #[.val (.ref a1), .val (.int (1 : Int32)), .val (.int (1 : Int32))] [(.ref a1)])) _
    exact k
  obtain ⟨T12, X12, e12, st12⟩ := getF X10 hx hZ hown (host := "") (Or.inl (hw _ (List.mem_of_getElem? (i := 20) rfl))) Via.refl e10 F6_3 (g := (mkF m 38 #[.val (.ref a1), .val (.int (1 : Int32)), .val (.int (1 : Int32))] [(.ref a1)])) rfl rfl (hb hby d7_38)
  have pre12 : ∀ t, Steps p.tables e below (T12.setTop (mkF m 41 #[.val (.ref a1), .val (.int (1 : Int32)), .val (.int (1 : Int32))] [(.ref bl)])) t → Steps p.tables e below (s₁.setTop (entryFrame m #[(.ref a1), (.int (1 : Int32))] 3)) t := fun t k => pre11 t (st12 _ k)
  have pre13 : ∀ t, Steps p.tables e below (T12.setTop (mkF m 43 #[.val (.ref a1), .val (.int (1 : Int32)), .val (.int (1 : Int32))] [(.ref a1), (.int (1 : Int32)), (.ref bl)])) t → Steps p.tables e below (s₁.setTop (entryFrame m #[(.ref a1), (.int (1 : Int32))] 3)) t := by
    intro t k
    refine pre12 t ?_
    refine XS.iloadN X12.here hx rfl (hb hby d7_41) rfl ?_
    show Steps p.tables e below (T12.setTop (mkF m 42 #[.val (.ref a1), .val (.int (1 : Int32)), .val (.int (1 : Int32))] [(.int (1 : Int32)), (.ref bl)])) _
    refine XS.aloadN X12.here hx rfl (hb hby d7_42) rfl rfl ?_
    show Steps p.tables e below (T12.setTop (mkF m 43 #[.val (.ref a1), .val (.int (1 : Int32)), .val (.int (1 : Int32))] [(.ref a1), (.int (1 : Int32)), (.ref bl)])) _
    exact k
  obtain ⟨T14, X14, e14, st14⟩ := getF X12 hx hZ hown (host := "") (Or.inl (hw _ (List.mem_of_getElem? (i := 20) rfl))) Via.refl e12 F6_3 (g := (mkF m 43 #[.val (.ref a1), .val (.int (1 : Int32)), .val (.int (1 : Int32))] [(.ref a1), (.int (1 : Int32)), (.ref bl)])) rfl rfl (hb hby d7_43)
  have pre14 : ∀ t, Steps p.tables e below (T14.setTop (mkF m 46 #[.val (.ref a1), .val (.int (1 : Int32)), .val (.int (1 : Int32))] [(.ref bl), (.int (1 : Int32)), (.ref bl)])) t → Steps p.tables e below (s₁.setTop (entryFrame m #[(.ref a1), (.int (1 : Int32))] 3)) t := fun t k => pre13 t (st14 _ k)
  have pre15 : ∀ t, Steps p.tables e below (T14.setTop (mkF m 48 #[.val (.ref a1), .val (.int (1 : Int32)), .val (.int (1 : Int32))] [(.ref a1), (.ref a1), (.ref bl), (.int (1 : Int32)), (.ref bl)])) t → Steps p.tables e below (s₁.setTop (entryFrame m #[(.ref a1), (.int (1 : Int32))] 3)) t := by
    intro t k
    refine pre14 t ?_
    refine XS.aloadN X14.here hx rfl (hb hby d7_46) rfl rfl ?_
    show Steps p.tables e below (T14.setTop (mkF m 47 #[.val (.ref a1), .val (.int (1 : Int32)), .val (.int (1 : Int32))] [(.ref a1), (.ref bl), (.int (1 : Int32)), (.ref bl)])) _
    refine XS.dup X14.here hx rfl (hb hby d7_47) rfl rfl ?_
    show Steps p.tables e below (T14.setTop (mkF m 48 #[.val (.ref a1), .val (.int (1 : Int32)), .val (.int (1 : Int32))] [(.ref a1), (.ref a1), (.ref bl), (.int (1 : Int32)), (.ref bl)])) _
    exact k
  obtain ⟨T16, X16, e16, st16⟩ := getF X14 hx hZ hown (host := "") (Or.inl (hw _ (List.mem_of_getElem? (i := 26) rfl))) Via.refl e14 F6_4 (g := (mkF m 48 #[.val (.ref a1), .val (.int (1 : Int32)), .val (.int (1 : Int32))] [(.ref a1), (.ref a1), (.ref bl), (.int (1 : Int32)), (.ref bl)])) rfl rfl (hb hby d7_48)
  have pre16 : ∀ t, Steps p.tables e below (T16.setTop (mkF m 51 #[.val (.ref a1), .val (.int (1 : Int32)), .val (.int (1 : Int32))] [(.int (2 : Int32)), (.ref a1), (.ref bl), (.int (1 : Int32)), (.ref bl)])) t → Steps p.tables e below (s₁.setTop (entryFrame m #[(.ref a1), (.int (1 : Int32))] 3)) t := fun t k => pre15 t (st16 _ k)
  have pre17 : ∀ t, Steps p.tables e below (T16.setTop (mkF m 54 #[.val (.ref a1), .val (.int (1 : Int32)), .val (.int (1 : Int32))] [(.int (1 : Int32)), (.ref a1), (.int (1 : Int32)), (.ref bl), (.int (1 : Int32)), (.ref bl)])) t → Steps p.tables e below (s₁.setTop (entryFrame m #[(.ref a1), (.int (1 : Int32))] 3)) t := by
    intro t k
    refine pre16 t ?_
    refine XS.iconst X16.here hx rfl (hb hby d7_51) ?_
    show Steps p.tables e below (T16.setTop (mkF m 52 #[.val (.ref a1), .val (.int (1 : Int32)), .val (.int (1 : Int32))] [(.int (1 : Int32)), (.int (2 : Int32)), (.ref a1), (.ref bl), (.int (1 : Int32)), (.ref bl)])) _
    refine XS.isub X16.here hx rfl (hb hby d7_52) rfl ?_
    show Steps p.tables e below (T16.setTop (mkF m 53 #[.val (.ref a1), .val (.int (1 : Int32)), .val (.int (1 : Int32))] [(.int (1 : Int32)), (.ref a1), (.ref bl), (.int (1 : Int32)), (.ref bl)])) _
    refine XS.dupX1 X16.here hx rfl (hb hby d7_53) rfl rfl rfl ?_
    show Steps p.tables e below (T16.setTop (mkF m 54 #[.val (.ref a1), .val (.int (1 : Int32)), .val (.int (1 : Int32))] [(.int (1 : Int32)), (.ref a1), (.int (1 : Int32)), (.ref bl), (.int (1 : Int32)), (.ref bl)])) _
    exact k
  obtain ⟨T18, h18, X18, e18, W18, st18⟩ := putF X16 hx hZ hown (host := "") (Or.inl (hw _ (List.mem_of_getElem? (i := 26) rfl))) Via.refl e16 F6_4 F6_5 (Or.inl (hw _ (List.mem_of_getElem? (i := 27) rfl))) (hw _ (List.mem_of_getElem? (i := 2) rfl)) (ty := .int) (by decide) rfl rfl (g := (mkF m 54 #[.val (.ref a1), .val (.int (1 : Int32)), .val (.int (1 : Int32))] [(.int (1 : Int32)), (.ref a1), (.int (1 : Int32)), (.ref bl), (.int (1 : Int32)), (.ref bl)])) rfl rfl (hb hby d7_54)
  have F18_0 := F6_0.other W18 (Or.inr (slot_ne (Or.inl (hw _ (List.mem_of_getElem? (i := 12) rfl))) (Or.inl (hw _ (List.mem_of_getElem? (i := 27) rfl))) (by decide) (t := .long) (t' := .int) (by decide) (by decide)))
  have F18_1 := F6_1.other W18 (Or.inr (slot_ne (Or.inl (hw _ (List.mem_of_getElem? (i := 15) rfl))) (Or.inl (hw _ (List.mem_of_getElem? (i := 27) rfl))) (by decide) (t := (.array .long)) (t' := .int) (by decide) (by decide)))
  have F18_2 := F6_2.other W18 (Or.inr (slot_ne (Or.inl (hw _ (List.mem_of_getElem? (i := 18) rfl))) (Or.inl (hw _ (List.mem_of_getElem? (i := 27) rfl))) (by decide) (t := (.array .byte)) (t' := .int) (by decide) (by decide)))
  have F18_3 := F6_3.other W18 (Or.inr (slot_ne (Or.inl (hw _ (List.mem_of_getElem? (i := 21) rfl))) (Or.inl (hw _ (List.mem_of_getElem? (i := 27) rfl))) (by decide) (t := (.array .int)) (t' := .int) (by decide) (by decide)))
  have F18_4 := F6_4.same W18
  have F18_5 := F6_5.wr W18
  have F18_6 := F6_6.other W18 (Ne.symm w_1)
  have F18_7 := U6.other W18 (Ne.symm w_2)
  have F18_8 := F6_8.other W18 (Ne.symm w_3)
  have Z18 : n0 ≤ h18.size := Nat.le_trans Z6 (Keep.of_wr W18).1
  have N18 := Fr.snoc X18 N6 w_ga
  have pre18 : ∀ t, Steps p.tables e below (T18.setTop (mkF m 57 #[.val (.ref a1), .val (.int (1 : Int32)), .val (.int (1 : Int32))] [(.int (1 : Int32)), (.ref bl), (.int (1 : Int32)), (.ref bl)])) t → Steps p.tables e below (s₁.setTop (entryFrame m #[(.ref a1), (.int (1 : Int32))] 3)) t := fun t k => pre17 t (st18 _ k)
  have pre19 : ∀ t, Steps p.tables e below (T18.setTop (mkF m 58 #[.val (.ref a1), .val (.int (1 : Int32)), .val (.int (1 : Int32))] [(.int (1 : Int32)), (.int (1 : Int32)), (.ref bl)])) t → Steps p.tables e below (s₁.setTop (entryFrame m #[(.ref a1), (.int (1 : Int32))] 3)) t := by
    intro t k
    refine pre18 t ?_
    refine own_ldI X18 hx hZ e18 F18_8 (by decide) (by decide) (g := (mkF m 57 #[.val (.ref a1), .val (.int (1 : Int32)), .val (.int (1 : Int32))] [(.int (1 : Int32)), (.ref bl), (.int (1 : Int32)), (.ref bl)])) rfl rfl (hb hby d7_57) _ ?_
    show Steps p.tables e below (T18.setTop (mkF m 58 #[.val (.ref a1), .val (.int (1 : Int32)), .val (.int (1 : Int32))] [(.int (1 : Int32)), (.int (1 : Int32)), (.ref bl)])) _
    exact k
  obtain ⟨T20, h20, X20, e20, W20, V20, st20⟩ := own_stI X18 hx hZ e18 F18_8 (by decide) (by decide) (g := (mkF m 58 #[.val (.ref a1), .val (.int (1 : Int32)), .val (.int (1 : Int32))] [(.int (1 : Int32)), (.int (1 : Int32)), (.ref bl)])) rfl rfl (hb hby d7_58)
  have F20_0 := F18_0.other W20 (Or.inl w_3)
  have F20_1 := F18_1.other W20 (Or.inl w_3)
  have F20_2 := F18_2.other W20 (Or.inl w_3)
  have F20_3 := F18_3.other W20 (Or.inl w_3)
  have F20_4 := F18_4.other W20 (Or.inl w_3)
  have F20_5 := F18_5.wr W20
  have F20_6 := F18_6.other W20 w_5
  have F20_7 := F18_7.other W20 w_6
  have F20_8 := V20
  have Z20 : n0 ≤ h20.size := Nat.le_trans Z18 (Keep.of_wr W20).1
  have N20 := Fr.snoc X20 N18 w_gl
  have U20 : own_AI Z h20 bl .int (2 : Int32) (own_2 (0 : Int32) (1 : Int32)) := own_AI.st1 F20_8
  have pre20 : ∀ t, Steps p.tables e below (T20.setTop (mkF m 59 #[.val (.ref a1), .val (.int (1 : Int32)), .val (.int (1 : Int32))] [])) t → Steps p.tables e below (s₁.setTop (entryFrame m #[(.ref a1), (.int (1 : Int32))] 3)) t := fun t k => pre19 t (st20 _ k)
  have pre21 : ∀ t, Steps p.tables e below (T20.setTop (mkF m 60 #[.val (.ref a1), .val (.int (1 : Int32)), .val (.int (1 : Int32))] [(.ref a1)])) t → Steps p.tables e below (s₁.setTop (entryFrame m #[(.ref a1), (.int (1 : Int32))] 3)) t := by
    intro t k
    refine pre20 t ?_
    refine XS.aloadN X20.here hx rfl (hb hby d7_59) rfl rfl ?_
    show Steps p.tables e below (T20.setTop (mkF m 60 #[.val (.ref a1), .val (.int (1 : Int32)), .val (.int (1 : Int32))] [(.ref a1)])) _
    exact k
  obtain ⟨cq22, q22, q22'⟩ := F20_5.cell
  obtain ⟨_, _, ⟨T22, L22, k22, n22⟩, -, X22, ⟨Lc22, hQ22, l22, y22, z22⟩, st22⟩ := X20.privateBack hx (y := (⟨"sluice/stream/Watermarks", "rise", "()Z"⟩ : MethodName)) hown (mvT hZ (hw _ (List.mem_of_getElem? (i := 33) rfl))) (mvT hZ (hw _ (List.mem_of_getElem? (i := 34) rfl))) (mvT hZ (Jvm.Kit.selects_private (by decide) (hw _ (List.mem_of_getElem? (i := 2) rfl)) (hw _ (List.mem_of_getElem? (i := 35) rfl)) (hw _ (List.mem_of_getElem? (i := 34) rfl)))) (Cond.privateMethod_at (mvP hZ (hw _ (List.mem_of_getElem? (i := 35) rfl)) (args := #[]))) (mvT hZ (hw _ (List.mem_of_getElem? (i := 36) rfl))) (by decide) (backOf (W := 0) (rmrE l Z a0 hw [] a1 bm bs bl m0 m1 lw (1 : Int32) h20 n0 Z20 ⟨F20_5, F20_0, F20_1, F20_2, F20_3, F20_4, F20_6, F20_7, U20, w_ga, w_gm, w_gs, w_gl, w_1, w_2, w_3, w_4, w_5, w_6⟩) hZ (hw _ (List.mem_of_getElem? (i := 36) rfl)) (hw _ (List.mem_of_getElem? (i := 3) rfl)) (by decide) (by decide)) (g := (mkF m 60 #[.val (.ref a1), .val (.int (1 : Int32)), .val (.int (1 : Int32))] [(.ref a1)])) rfl (by rw [hml]; rfl) (Steps.refl _) (a := a1) (by rw [e20]; exact q22) q22' (argsL := []) (rest := []) (lenOf pde2_0 rfl) rfl (by show 2 * 0 + _ ≤ _; exact Nat.le_of_eq rfl) (hb hby d7_60) (fun _ _ => ⟨rfl, e20, (by decide : 0 + 0 ≤ _), (by decide : 0 + 0 ≤ _)⟩)
  dsimp only [Pt.U, Pt.locs, Pt.cells, Pt.slots] at X22 l22 y22 z22 st22 hQ22
  subst l22 y22 z22
  unfold QrE at hQ22
  obtain ⟨x22, hx22⟩ : ∃ z : Int32 × Int64 × Int64 × Int64, z = (fnrE m0 m1 lw) := ⟨_, rfl⟩
  rw [← hx22] at hQ22
  obtain ⟨rfl, Nq22, J22⟩ := hQ22
  obtain ⟨w22_e, w22_lowest, w22_marks, w22_states, w22_live, w22_open, w22_am, w22_as, w22_al, w22_ga, w22_gm, w22_gs, w22_gl, w22_1, w22_2, w22_3, w22_4, w22_5, w22_6⟩ := J22
  have Z22 : n0 ≤ T22.heap.size := Nat.le_of_lt (Nat.lt_of_le_of_lt w22_ga w22_e.lt)
  have N22 := Fr.app N20 Nq22
  have pre22 : ∀ t, Steps p.tables e below (T22.setTop (mkF m 63 #[.val (.ref a1), .val (.int (1 : Int32)), .val (.int (1 : Int32))] [(.int x22.1)])) t → Steps p.tables e below (s₁.setTop (entryFrame m #[(.ref a1), (.int (1 : Int32))] 3)) t := fun t k => pre21 t (st22.trans k)
  obtain ⟨fs, hr, hrun, hended, hW, hsame⟩ := X22.leave (v := some (.int (nar .boolean x22.1))) (fun h => by rw [Bd.returns] at h; cases h)
  refine ⟨_, _, pre22 _ ?_, hrun, hended, _, _, rfl, ?_, ⟨_, rfl⟩, hW, hsame.mono (by decide) (by decide)⟩
  · show Steps p.tables e below (T22.setTop (mkF m 63 #[.val (.ref a1), .val (.int (1 : Int32)), .val (.int (1 : Int32))] [(.int x22.1)])) _
    exact retN X22 hx (t := .boolean) Bd.returns (by simp) (hb hby d7_63) hr
  · show Qe2 Z a1 bm bs bl m0 m1 lw h0 n0 _ T22.heap _
    have hfn : fne2 m0 m1 lw = ((nar .boolean x22.1), x22.2.1, x22.2.2.1, x22.2.2.2) := by
      subst hx22
      simp only [fne2]
    unfold Qe2
    rw [hfn]
    exact ⟨rfl, N22, ⟨w22_e, w22_lowest, w22_marks, w22_states, w22_live, w22_open, w22_am, w22_as, w22_al, w22_ga, w22_gm, w22_gs, w22_gl, w22_1, w22_2, w22_3, w22_4, w22_5, w22_6⟩⟩
/-! body 7: end -/
theorem pde3_0 : parseMethodDescriptor "()Z" = some ⟨[], some .boolean⟩ := by decide +kernel
theorem pne3 : plainName "sluice/stream/Watermarks" = true := by first | (simp [plainName, overriddenIn]; done) | decide +kernel
theorem efe3 (m : MethodId) (a1 : Addr) : entryFrame m #[(.ref a1), (.int (1 : Int32))] 3 = mkF m 0 #[.val (.ref a1), .val (.int (1 : Int32)), .unset] [] := by first | (simp [entryFrame, mkF, argsToLocals, Value.category]; done) | rfl
def fne3 (m0 m1 lw : Int64) : Int32 × Int64 × Int64 × Int64 :=
  let x20 : Int32 × Int64 × Int64 × Int64 := (fnrD m0 m1 lw)
  ((nar .boolean x20.1), x20.2.1, x20.2.2.1, x20.2.2.2)
def Qe3 (Z : State) (a1 : Addr) (bm bs bl : Addr) (m0 m1 lw : Int64) (h0 : Heap) (n0 : Nat) (v : Option Value) (h : Heap) (L : List Loc) : Prop := v = some (.int (fne3 m0 m1 lw).1) ∧ Fr n0 L ∧ own_W Z h n0 a1 bm bs bl (fne3 m0 m1 lw).2.1 (fne3 m0 m1 lw).2.2.1 (fne3 m0 m1 lw).2.2.2 (0 : Int32) (2 : Int32) (0 : Int32) (0 : Int32) (1 : Int32)
set_option maxRecDepth 65536 in
set_option maxHeartbeats 40000000 in
theorem rme3 (l : Launch) (Z : State) (a0 : Array Value) (hw : ∀ d ∈ tables_1, d.before a0 Z = true) (ws : List Jvm.Cond) (a1 : Addr) (bm bs bl : Addr) (m0 m1 lw : Int64) (h0 : Heap) (n0 : Nat) (Z0 : n0 ≤ h0.size) (I0 : own_W Z h0 n0 a1 bm bs bl m0 m1 lw (0 : Int32) (0 : Int32) (1 : Int32) (0 : Int32) (2 : Int32)) :
    MetFree l (⟨"sluice/stream/Watermarks", "end", "(I)Z"⟩ : MethodName) (head1 (Jvm.Cond.code (⟨"sluice/stream/Watermarks", "end", "(I)Z"⟩ : MethodName) prog_183_method_6_code 3 (some .boolean) :: ws) ({ frames := 2, cells := 0, slots := 0, locals := 35 } : Room)) (fun a U => a = #[(.ref a1), (.int (1 : Int32))] ∧ Z.Warmed39 U.vm ∧ U.heap = h0) (fun _ _ _ _ _ => True) (fun _ U o U' => ∃ v L, o = .returned v ∧ Qe3 Z a1 bm bs bl m0 m1 lw h0 n0 v U'.heap L ∧ FrameEnd U o U' L ({ frames := 2, cells := 0, slots := 0, locals := 35 } : Room).cells ({ frames := 2, cells := 0, slots := 0, locals := 35 } : Room).slots) := by
  refine MetFree.of_bodySF (plainFor_of_name pne3) hisR ?_
  intro p e s m args below meth c s₁ Bd hml0 hP hK
  obtain ⟨rfl, hZ, hh⟩ := hP
  have hx := Bd.exec
  have hby := Bd.bytes
  have hml : c.maxLocals = 3 := hml0
  have hown : s.vm.findClass "sluice/stream/Watermarks" = some m.cls := findClass_of_methodNamed Bd.named
  have hnm := (name_of_methodNamed Bd.named Bd.method).1
  have X0 : Stand p l e ({ frames := 2, cells := 0, slots := 0, locals := 35 } : Room) s m #[(.ref a1), (.int (1 : Int32))] below meth c s₁ [] 0 0 := Stand.of_body Bd
  have e0 : s₁.heap = h0 := by rw [← hh, Bd.state]; rfl
  have N0 := Fr.nil n0
  have pre0 : ∀ t, Steps p.tables e below (s₁.setTop (mkF m 0 #[.val (.ref a1), .val (.int (1 : Int32)), .unset] [])) t → Steps p.tables e below (s₁.setTop (entryFrame m #[(.ref a1), (.int (1 : Int32))] 3)) t := fun t k => castTop (efe3 m a1) k
  obtain ⟨w_e, w_lowest, w_marks, w_states, w_live, w_open, w_am, w_as, w_al, w_ga, w_gm, w_gs, w_gl, w_1, w_2, w_3, w_4, w_5, w_6⟩ := I0
  have pre1 : ∀ t, Steps p.tables e below (s₁.setTop (mkF m 1 #[.val (.ref a1), .val (.int (1 : Int32)), .unset] [(.ref a1)])) t → Steps p.tables e below (s₁.setTop (entryFrame m #[(.ref a1), (.int (1 : Int32))] 3)) t := by
    intro t k
    refine pre0 t ?_
    show Steps p.tables e below (s₁.setTop (mkF m 0 #[.val (.ref a1), .val (.int (1 : Int32)), .unset] [])) _
    refine XS.aloadN X0.here hx rfl (hb hby d7_0) rfl rfl ?_
    show Steps p.tables e below (s₁.setTop (mkF m 1 #[.val (.ref a1), .val (.int (1 : Int32)), .unset] [(.ref a1)])) _
    exact k
  obtain ⟨T2, X2, e2, st2⟩ := getF X0 hx hZ hown (host := "") (Or.inl (hw _ (List.mem_of_getElem? (i := 17) rfl))) Via.refl e0 w_states (g := (mkF m 1 #[.val (.ref a1), .val (.int (1 : Int32)), .unset] [(.ref a1)])) rfl rfl (hb hby d7_1)
  have pre2 : ∀ t, Steps p.tables e below (T2.setTop (mkF m 4 #[.val (.ref a1), .val (.int (1 : Int32)), .unset] [(.ref bs)])) t → Steps p.tables e below (s₁.setTop (entryFrame m #[(.ref a1), (.int (1 : Int32))] 3)) t := fun t k => pre1 t (st2 _ k)
  have pre3 : ∀ t, Steps p.tables e below (T2.setTop (mkF m 13 #[.val (.ref a1), .val (.int (1 : Int32)), .unset] [(.ref a1)])) t → Steps p.tables e below (s₁.setTop (entryFrame m #[(.ref a1), (.int (1 : Int32))] 3)) t := by
    intro t k
    refine pre2 t ?_
    refine XS.iloadN X2.here hx rfl (hb hby d7_4) rfl ?_
    show Steps p.tables e below (T2.setTop (mkF m 5 #[.val (.ref a1), .val (.int (1 : Int32)), .unset] [(.int (1 : Int32)), (.ref bs)])) _
    refine own_ldB X2 hx hZ e2 w_as (by decide) (by decide) (g := (mkF m 5 #[.val (.ref a1), .val (.int (1 : Int32)), .unset] [(.int (1 : Int32)), (.ref bs)])) rfl rfl (hb hby d7_5) _ ?_
    show Steps p.tables e below (T2.setTop (mkF m 6 #[.val (.ref a1), .val (.int (1 : Int32)), .unset] [(.int (0 : Int32))])) _
    refine XS.iconst X2.here hx rfl (hb hby d7_6) ?_
    show Steps p.tables e below (T2.setTop (mkF m 7 #[.val (.ref a1), .val (.int (1 : Int32)), .unset] [(.int (2 : Int32)), (.int (0 : Int32))])) _
    refine XS.icmpYes X2.here hx rfl (pc0 := 7) (pc' := 12) rfl (hb hby d7_7) rfl (feq (by decide : ¬ (0 : Int32) = (2 : Int32))).2 (by decide) (by decide) ?_
    show Steps p.tables e below (T2.setTop (mkF m 12 #[.val (.ref a1), .val (.int (1 : Int32)), .unset] [])) _
    refine XS.aloadN X2.here hx rfl (hb hby d7_12) rfl rfl ?_
    show Steps p.tables e below (T2.setTop (mkF m 13 #[.val (.ref a1), .val (.int (1 : Int32)), .unset] [(.ref a1)])) _
    exact k
  obtain ⟨T4, X4, e4, st4⟩ := getF X2 hx hZ hown (host := "") (Or.inl (hw _ (List.mem_of_getElem? (i := 17) rfl))) Via.refl e2 w_states (g := (mkF m 13 #[.val (.ref a1), .val (.int (1 : Int32)), .unset] [(.ref a1)])) rfl rfl (hb hby d7_13)
  have pre4 : ∀ t, Steps p.tables e below (T4.setTop (mkF m 16 #[.val (.ref a1), .val (.int (1 : Int32)), .unset] [(.ref bs)])) t → Steps p.tables e below (s₁.setTop (entryFrame m #[(.ref a1), (.int (1 : Int32))] 3)) t := fun t k => pre3 t (st4 _ k)
  have pre5 : ∀ t, Steps p.tables e below (T4.setTop (mkF m 18 #[.val (.ref a1), .val (.int (1 : Int32)), .unset] [(.int (2 : Int32)), (.int (1 : Int32)), (.ref bs)])) t → Steps p.tables e below (s₁.setTop (entryFrame m #[(.ref a1), (.int (1 : Int32))] 3)) t := by
    intro t k
    refine pre4 t ?_
    refine XS.iloadN X4.here hx rfl (hb hby d7_16) rfl ?_
    show Steps p.tables e below (T4.setTop (mkF m 17 #[.val (.ref a1), .val (.int (1 : Int32)), .unset] [(.int (1 : Int32)), (.ref bs)])) _
    refine XS.iconst X4.here hx rfl (hb hby d7_17) ?_
    show Steps p.tables e below (T4.setTop (mkF m 18 #[.val (.ref a1), .val (.int (1 : Int32)), .unset] [(.int (2 : Int32)), (.int (1 : Int32)), (.ref bs)])) _
    exact k
  obtain ⟨T6, h6, X6, e6, W6, V6, st6⟩ := own_stB X4 hx hZ e4 w_as (by decide) (by decide) (g := (mkF m 18 #[.val (.ref a1), .val (.int (1 : Int32)), .unset] [(.int (2 : Int32)), (.int (1 : Int32)), (.ref bs)])) rfl rfl (hb hby d7_18)
  have F6_0 := w_lowest.other W6 (Or.inl w_2)
  have F6_1 := w_marks.other W6 (Or.inl w_2)
  have F6_2 := w_states.other W6 (Or.inl w_2)
  have F6_3 := w_live.other W6 (Or.inl w_2)
  have F6_4 := w_open.other W6 (Or.inl w_2)
  have F6_5 := w_e.wr W6
  have F6_6 := w_am.other W6 w_4
  have F6_7 := V6
  have F6_8 := w_al.other W6 (Ne.symm w_6)
  have Z6 : n0 ≤ h6.size := Nat.le_trans Z0 (Keep.of_wr W6).1
  have N6 := Fr.snoc X6 N0 w_gs
  have U6 : own_AI Z h6 bs .byte (2 : Int32) (own_2 (0 : Int32) (2 : Int32)) := own_AI.st1 F6_7
  have pre6 : ∀ t, Steps p.tables e below (T6.setTop (mkF m 19 #[.val (.ref a1), .val (.int (1 : Int32)), .unset] [])) t → Steps p.tables e below (s₁.setTop (entryFrame m #[(.ref a1), (.int (1 : Int32))] 3)) t := fun t k => pre5 t (st6 _ k)
  have pre7 : ∀ t, Steps p.tables e below (T6.setTop (mkF m 22 #[.val (.ref a1), .val (.int (1 : Int32)), .val (.int (0 : Int32))] [(.ref a1)])) t → Steps p.tables e below (s₁.setTop (entryFrame m #[(.ref a1), (.int (1 : Int32))] 3)) t := by
    intro t k
    refine pre6 t ?_
    refine XS.iconst X6.here hx rfl (hb hby d7_19) ?_
    show Steps p.tables e below (T6.setTop (mkF m 20 #[.val (.ref a1), .val (.int (1 : Int32)), .unset] [(.int (0 : Int32))])) _
    refine XS.istoreN X6.here hx rfl (hb hby d7_20) rfl (l' := #[.val (.ref a1), .val (.int (1 : Int32)), .val (.int (0 : Int32))]) rfl ?_
    show Steps p.tables e below (T6.setTop (mkF m 21 #[.val (.ref a1), .val (.int (1 : Int32)), .val (.int (0 : Int32))] [])) _
    refine XS.aloadN X6.here hx rfl (hb hby d7_21) rfl rfl ?_
    show Steps p.tables e below (T6.setTop (mkF m 22 #[.val (.ref a1), .val (.int (1 : Int32)), .val (.int (0 : Int32))] [(.ref a1)])) _
    exact k
  obtain ⟨T8, X8, e8, st8⟩ := getF X6 hx hZ hown (host := "") (Or.inl (hw _ (List.mem_of_getElem? (i := 20) rfl))) Via.refl e6 F6_3 (g := (mkF m 22 #[.val (.ref a1), .val (.int (1 : Int32)), .val (.int (0 : Int32))] [(.ref a1)])) rfl rfl (hb hby d7_22)
  have pre8 : ∀ t, Steps p.tables e below (T8.setTop (mkF m 25 #[.val (.ref a1), .val (.int (1 : Int32)), .val (.int (0 : Int32))] [(.ref bl)])) t → Steps p.tables e below (s₁.setTop (entryFrame m #[(.ref a1), (.int (1 : Int32))] 3)) t := fun t k => pre7 t (st8 _ k)
  have pre9 : ∀ t, Steps p.tables e below (T8.setTop (mkF m 38 #[.val (.ref a1), .val (.int (1 : Int32)), .val (.int (0 : Int32))] [(.ref a1)])) t → Steps p.tables e below (s₁.setTop (entryFrame m #[(.ref a1), (.int (1 : Int32))] 3)) t := by
    intro t k
    refine pre8 t ?_
    refine XS.iloadN X8.here hx rfl (hb hby d7_25) rfl ?_
    show Steps p.tables e below (T8.setTop (mkF m 26 #[.val (.ref a1), .val (.int (1 : Int32)), .val (.int (0 : Int32))] [(.int (0 : Int32)), (.ref bl)])) _
    refine own_ldI X8 hx hZ e8 F6_8 (by decide) (by decide) (g := (mkF m 26 #[.val (.ref a1), .val (.int (1 : Int32)), .val (.int (0 : Int32))] [(.int (0 : Int32)), (.ref bl)])) rfl rfl (hb hby d7_26) _ ?_
    show Steps p.tables e below (T8.setTop (mkF m 27 #[.val (.ref a1), .val (.int (1 : Int32)), .val (.int (0 : Int32))] [(.int (1 : Int32))])) _
    refine XS.iloadN X8.here hx rfl (hb hby d7_27) rfl ?_
    show Steps p.tables e below (T8.setTop (mkF m 28 #[.val (.ref a1), .val (.int (1 : Int32)), .val (.int (0 : Int32))] [(.int (1 : Int32)), (.int (1 : Int32))])) _
    refine XS.icmpYes X8.here hx rfl (pc0 := 28) (pc' := 37) rfl (hb hby d7_28) rfl (teq (by decide : (1 : Int32) = (1 : Int32))).1 (by decide) (by decide) ?_
    show Steps p.tables e below (T8.setTop (mkF m 37 #[.val (.ref a1), .val (.int (1 : Int32)), .val (.int (0 : Int32))] [])) _
    refine XS.aloadN X8.here hx rfl (hb hby d7_37) rfl rfl ?_
    show Steps p.tables e below (T8.setTop (mkF m 38 #[.val (.ref a1), .val (.int (1 : Int32)), .val (.int (0 : Int32))] [(.ref a1)])) _
    exact k
  obtain ⟨T10, X10, e10, st10⟩ := getF X8 hx hZ hown (host := "") (Or.inl (hw _ (List.mem_of_getElem? (i := 20) rfl))) Via.refl e8 F6_3 (g := (mkF m 38 #[.val (.ref a1), .val (.int (1 : Int32)), .val (.int (0 : Int32))] [(.ref a1)])) rfl rfl (hb hby d7_38)
  have pre10 : ∀ t, Steps p.tables e below (T10.setTop (mkF m 41 #[.val (.ref a1), .val (.int (1 : Int32)), .val (.int (0 : Int32))] [(.ref bl)])) t → Steps p.tables e below (s₁.setTop (entryFrame m #[(.ref a1), (.int (1 : Int32))] 3)) t := fun t k => pre9 t (st10 _ k)
  have pre11 : ∀ t, Steps p.tables e below (T10.setTop (mkF m 43 #[.val (.ref a1), .val (.int (1 : Int32)), .val (.int (0 : Int32))] [(.ref a1), (.int (0 : Int32)), (.ref bl)])) t → Steps p.tables e below (s₁.setTop (entryFrame m #[(.ref a1), (.int (1 : Int32))] 3)) t := by
    intro t k
    refine pre10 t ?_
    refine XS.iloadN X10.here hx rfl (hb hby d7_41) rfl ?_
    show Steps p.tables e below (T10.setTop (mkF m 42 #[.val (.ref a1), .val (.int (1 : Int32)), .val (.int (0 : Int32))] [(.int (0 : Int32)), (.ref bl)])) _
    refine XS.aloadN X10.here hx rfl (hb hby d7_42) rfl rfl ?_
    show Steps p.tables e below (T10.setTop (mkF m 43 #[.val (.ref a1), .val (.int (1 : Int32)), .val (.int (0 : Int32))] [(.ref a1), (.int (0 : Int32)), (.ref bl)])) _
    exact k
  obtain ⟨T12, X12, e12, st12⟩ := getF X10 hx hZ hown (host := "") (Or.inl (hw _ (List.mem_of_getElem? (i := 20) rfl))) Via.refl e10 F6_3 (g := (mkF m 43 #[.val (.ref a1), .val (.int (1 : Int32)), .val (.int (0 : Int32))] [(.ref a1), (.int (0 : Int32)), (.ref bl)])) rfl rfl (hb hby d7_43)
  have pre12 : ∀ t, Steps p.tables e below (T12.setTop (mkF m 46 #[.val (.ref a1), .val (.int (1 : Int32)), .val (.int (0 : Int32))] [(.ref bl), (.int (0 : Int32)), (.ref bl)])) t → Steps p.tables e below (s₁.setTop (entryFrame m #[(.ref a1), (.int (1 : Int32))] 3)) t := fun t k => pre11 t (st12 _ k)
  have pre13 : ∀ t, Steps p.tables e below (T12.setTop (mkF m 48 #[.val (.ref a1), .val (.int (1 : Int32)), .val (.int (0 : Int32))] [(.ref a1), (.ref a1), (.ref bl), (.int (0 : Int32)), (.ref bl)])) t → Steps p.tables e below (s₁.setTop (entryFrame m #[(.ref a1), (.int (1 : Int32))] 3)) t := by
    intro t k
    refine pre12 t ?_
    refine XS.aloadN X12.here hx rfl (hb hby d7_46) rfl rfl ?_
    show Steps p.tables e below (T12.setTop (mkF m 47 #[.val (.ref a1), .val (.int (1 : Int32)), .val (.int (0 : Int32))] [(.ref a1), (.ref bl), (.int (0 : Int32)), (.ref bl)])) _
    refine XS.dup X12.here hx rfl (hb hby d7_47) rfl rfl ?_
    show Steps p.tables e below (T12.setTop (mkF m 48 #[.val (.ref a1), .val (.int (1 : Int32)), .val (.int (0 : Int32))] [(.ref a1), (.ref a1), (.ref bl), (.int (0 : Int32)), (.ref bl)])) _
    exact k
  obtain ⟨T14, X14, e14, st14⟩ := getF X12 hx hZ hown (host := "") (Or.inl (hw _ (List.mem_of_getElem? (i := 26) rfl))) Via.refl e12 F6_4 (g := (mkF m 48 #[.val (.ref a1), .val (.int (1 : Int32)), .val (.int (0 : Int32))] [(.ref a1), (.ref a1), (.ref bl), (.int (0 : Int32)), (.ref bl)])) rfl rfl (hb hby d7_48)
  have pre14 : ∀ t, Steps p.tables e below (T14.setTop (mkF m 51 #[.val (.ref a1), .val (.int (1 : Int32)), .val (.int (0 : Int32))] [(.int (2 : Int32)), (.ref a1), (.ref bl), (.int (0 : Int32)), (.ref bl)])) t → Steps p.tables e below (s₁.setTop (entryFrame m #[(.ref a1), (.int (1 : Int32))] 3)) t := fun t k => pre13 t (st14 _ k)
  have pre15 : ∀ t, Steps p.tables e below (T14.setTop (mkF m 54 #[.val (.ref a1), .val (.int (1 : Int32)), .val (.int (0 : Int32))] [(.int (1 : Int32)), (.ref a1), (.int (1 : Int32)), (.ref bl), (.int (0 : Int32)), (.ref bl)])) t → Steps p.tables e below (s₁.setTop (entryFrame m #[(.ref a1), (.int (1 : Int32))] 3)) t := by
    intro t k
    refine pre14 t ?_
    refine XS.iconst X14.here hx rfl (hb hby d7_51) ?_
    show Steps p.tables e below (T14.setTop (mkF m 52 #[.val (.ref a1), .val (.int (1 : Int32)), .val (.int (0 : Int32))] [(.int (1 : Int32)), (.int (2 : Int32)), (.ref a1), (.ref bl), (.int (0 : Int32)), (.ref bl)])) _
    refine XS.isub X14.here hx rfl (hb hby d7_52) rfl ?_
    show Steps p.tables e below (T14.setTop (mkF m 53 #[.val (.ref a1), .val (.int (1 : Int32)), .val (.int (0 : Int32))] [(.int (1 : Int32)), (.ref a1), (.ref bl), (.int (0 : Int32)), (.ref bl)])) _
    refine XS.dupX1 X14.here hx rfl (hb hby d7_53) rfl rfl rfl ?_
    show Steps p.tables e below (T14.setTop (mkF m 54 #[.val (.ref a1), .val (.int (1 : Int32)), .val (.int (0 : Int32))] [(.int (1 : Int32)), (.ref a1), (.int (1 : Int32)), (.ref bl), (.int (0 : Int32)), (.ref bl)])) _
    exact k
  obtain ⟨T16, h16, X16, e16, W16, st16⟩ := putF X14 hx hZ hown (host := "") (Or.inl (hw _ (List.mem_of_getElem? (i := 26) rfl))) Via.refl e14 F6_4 F6_5 (Or.inl (hw _ (List.mem_of_getElem? (i := 27) rfl))) (hw _ (List.mem_of_getElem? (i := 2) rfl)) (ty := .int) (by decide) rfl rfl (g := (mkF m 54 #[.val (.ref a1), .val (.int (1 : Int32)), .val (.int (0 : Int32))] [(.int (1 : Int32)), (.ref a1), (.int (1 : Int32)), (.ref bl), (.int (0 : Int32)), (.ref bl)])) rfl rfl (hb hby d7_54)
  have F16_0 := F6_0.other W16 (Or.inr (slot_ne (Or.inl (hw _ (List.mem_of_getElem? (i := 12) rfl))) (Or.inl (hw _ (List.mem_of_getElem? (i := 27) rfl))) (by decide) (t := .long) (t' := .int) (by decide) (by decide)))
  have F16_1 := F6_1.other W16 (Or.inr (slot_ne (Or.inl (hw _ (List.mem_of_getElem? (i := 15) rfl))) (Or.inl (hw _ (List.mem_of_getElem? (i := 27) rfl))) (by decide) (t := (.array .long)) (t' := .int) (by decide) (by decide)))
  have F16_2 := F6_2.other W16 (Or.inr (slot_ne (Or.inl (hw _ (List.mem_of_getElem? (i := 18) rfl))) (Or.inl (hw _ (List.mem_of_getElem? (i := 27) rfl))) (by decide) (t := (.array .byte)) (t' := .int) (by decide) (by decide)))
  have F16_3 := F6_3.other W16 (Or.inr (slot_ne (Or.inl (hw _ (List.mem_of_getElem? (i := 21) rfl))) (Or.inl (hw _ (List.mem_of_getElem? (i := 27) rfl))) (by decide) (t := (.array .int)) (t' := .int) (by decide) (by decide)))
  have F16_4 := F6_4.same W16
  have F16_5 := F6_5.wr W16
  have F16_6 := F6_6.other W16 (Ne.symm w_1)
  have F16_7 := U6.other W16 (Ne.symm w_2)
  have F16_8 := F6_8.other W16 (Ne.symm w_3)
  have Z16 : n0 ≤ h16.size := Nat.le_trans Z6 (Keep.of_wr W16).1
  have N16 := Fr.snoc X16 N6 w_ga
  have pre16 : ∀ t, Steps p.tables e below (T16.setTop (mkF m 57 #[.val (.ref a1), .val (.int (1 : Int32)), .val (.int (0 : Int32))] [(.int (1 : Int32)), (.ref bl), (.int (0 : Int32)), (.ref bl)])) t → Steps p.tables e below (s₁.setTop (entryFrame m #[(.ref a1), (.int (1 : Int32))] 3)) t := fun t k => pre15 t (st16 _ k)
  have pre17 : ∀ t, Steps p.tables e below (T16.setTop (mkF m 58 #[.val (.ref a1), .val (.int (1 : Int32)), .val (.int (0 : Int32))] [(.int (0 : Int32)), (.int (0 : Int32)), (.ref bl)])) t → Steps p.tables e below (s₁.setTop (entryFrame m #[(.ref a1), (.int (1 : Int32))] 3)) t := by
    intro t k
    refine pre16 t ?_
    refine own_ldI X16 hx hZ e16 F16_8 (by decide) (by decide) (g := (mkF m 57 #[.val (.ref a1), .val (.int (1 : Int32)), .val (.int (0 : Int32))] [(.int (1 : Int32)), (.ref bl), (.int (0 : Int32)), (.ref bl)])) rfl rfl (hb hby d7_57) _ ?_
    show Steps p.tables e below (T16.setTop (mkF m 58 #[.val (.ref a1), .val (.int (1 : Int32)), .val (.int (0 : Int32))] [(.int (0 : Int32)), (.int (0 : Int32)), (.ref bl)])) _
    exact k
  obtain ⟨T18, h18, X18, e18, W18, V18, st18⟩ := own_stI X16 hx hZ e16 F16_8 (by decide) (by decide) (g := (mkF m 58 #[.val (.ref a1), .val (.int (1 : Int32)), .val (.int (0 : Int32))] [(.int (0 : Int32)), (.int (0 : Int32)), (.ref bl)])) rfl rfl (hb hby d7_58)
  have F18_0 := F16_0.other W18 (Or.inl w_3)
  have F18_1 := F16_1.other W18 (Or.inl w_3)
  have F18_2 := F16_2.other W18 (Or.inl w_3)
  have F18_3 := F16_3.other W18 (Or.inl w_3)
  have F18_4 := F16_4.other W18 (Or.inl w_3)
  have F18_5 := F16_5.wr W18
  have F18_6 := F16_6.other W18 w_5
  have F18_7 := F16_7.other W18 w_6
  have F18_8 := V18
  have Z18 : n0 ≤ h18.size := Nat.le_trans Z16 (Keep.of_wr W18).1
  have N18 := Fr.snoc X18 N16 w_gl
  have U18 : own_AI Z h18 bl .int (2 : Int32) (own_2 (0 : Int32) (0 : Int32)) := own_AI.st0 F18_8
  have pre18 : ∀ t, Steps p.tables e below (T18.setTop (mkF m 59 #[.val (.ref a1), .val (.int (1 : Int32)), .val (.int (0 : Int32))] [])) t → Steps p.tables e below (s₁.setTop (entryFrame m #[(.ref a1), (.int (1 : Int32))] 3)) t := fun t k => pre17 t (st18 _ k)
  have pre19 : ∀ t, Steps p.tables e below (T18.setTop (mkF m 60 #[.val (.ref a1), .val (.int (1 : Int32)), .val (.int (0 : Int32))] [(.ref a1)])) t → Steps p.tables e below (s₁.setTop (entryFrame m #[(.ref a1), (.int (1 : Int32))] 3)) t := by
    intro t k
    refine pre18 t ?_
    refine XS.aloadN X18.here hx rfl (hb hby d7_59) rfl rfl ?_
    show Steps p.tables e below (T18.setTop (mkF m 60 #[.val (.ref a1), .val (.int (1 : Int32)), .val (.int (0 : Int32))] [(.ref a1)])) _
    exact k
  obtain ⟨cq20, q20, q20'⟩ := F18_5.cell
  obtain ⟨_, _, ⟨T20, L20, k20, n20⟩, -, X20, ⟨Lc20, hQ20, l20, y20, z20⟩, st20⟩ := X18.privateBack hx (y := (⟨"sluice/stream/Watermarks", "rise", "()Z"⟩ : MethodName)) hown (mvT hZ (hw _ (List.mem_of_getElem? (i := 33) rfl))) (mvT hZ (hw _ (List.mem_of_getElem? (i := 34) rfl))) (mvT hZ (Jvm.Kit.selects_private (by decide) (hw _ (List.mem_of_getElem? (i := 2) rfl)) (hw _ (List.mem_of_getElem? (i := 35) rfl)) (hw _ (List.mem_of_getElem? (i := 34) rfl)))) (Cond.privateMethod_at (mvP hZ (hw _ (List.mem_of_getElem? (i := 35) rfl)) (args := #[]))) (mvT hZ (hw _ (List.mem_of_getElem? (i := 36) rfl))) (by decide) (backOf (W := 0) (rmrD l Z a0 hw [] a1 bm bs bl m0 m1 lw (0 : Int32) h18 n0 Z18 ⟨F18_5, F18_0, F18_1, F18_2, F18_3, F18_4, F18_6, F18_7, U18, w_ga, w_gm, w_gs, w_gl, w_1, w_2, w_3, w_4, w_5, w_6⟩) hZ (hw _ (List.mem_of_getElem? (i := 36) rfl)) (hw _ (List.mem_of_getElem? (i := 3) rfl)) (by decide) (by decide)) (g := (mkF m 60 #[.val (.ref a1), .val (.int (1 : Int32)), .val (.int (0 : Int32))] [(.ref a1)])) rfl (by rw [hml]; rfl) (Steps.refl _) (a := a1) (by rw [e18]; exact q20) q20' (argsL := []) (rest := []) (lenOf pde3_0 rfl) rfl (by show 2 * 0 + _ ≤ _; exact Nat.le_of_eq rfl) (hb hby d7_60) (fun _ _ => ⟨rfl, e18, (by decide : 0 + 0 ≤ _), (by decide : 0 + 0 ≤ _)⟩)
  dsimp only [Pt.U, Pt.locs, Pt.cells, Pt.slots] at X20 l20 y20 z20 st20 hQ20
  subst l20 y20 z20
  unfold QrD at hQ20
  obtain ⟨x20, hx20⟩ : ∃ z : Int32 × Int64 × Int64 × Int64, z = (fnrD m0 m1 lw) := ⟨_, rfl⟩
  rw [← hx20] at hQ20
  obtain ⟨rfl, Nq20, J20⟩ := hQ20
  obtain ⟨w20_e, w20_lowest, w20_marks, w20_states, w20_live, w20_open, w20_am, w20_as, w20_al, w20_ga, w20_gm, w20_gs, w20_gl, w20_1, w20_2, w20_3, w20_4, w20_5, w20_6⟩ := J20
  have Z20 : n0 ≤ T20.heap.size := Nat.le_of_lt (Nat.lt_of_le_of_lt w20_ga w20_e.lt)
  have N20 := Fr.app N18 Nq20
  have pre20 : ∀ t, Steps p.tables e below (T20.setTop (mkF m 63 #[.val (.ref a1), .val (.int (1 : Int32)), .val (.int (0 : Int32))] [(.int x20.1)])) t → Steps p.tables e below (s₁.setTop (entryFrame m #[(.ref a1), (.int (1 : Int32))] 3)) t := fun t k => pre19 t (st20.trans k)
  obtain ⟨fs, hr, hrun, hended, hW, hsame⟩ := X20.leave (v := some (.int (nar .boolean x20.1))) (fun h => by rw [Bd.returns] at h; cases h)
  refine ⟨_, _, pre20 _ ?_, hrun, hended, _, _, rfl, ?_, ⟨_, rfl⟩, hW, hsame.mono (by decide) (by decide)⟩
  · show Steps p.tables e below (T20.setTop (mkF m 63 #[.val (.ref a1), .val (.int (1 : Int32)), .val (.int (0 : Int32))] [(.int x20.1)])) _
    exact retN X20 hx (t := .boolean) Bd.returns (by simp) (hb hby d7_63) hr
  · show Qe3 Z a1 bm bs bl m0 m1 lw h0 n0 _ T20.heap _
    have hfn : fne3 m0 m1 lw = ((nar .boolean x20.1), x20.2.1, x20.2.2.1, x20.2.2.2) := by
      subst hx20
      simp only [fne3]
    unfold Qe3
    rw [hfn]
    exact ⟨rfl, N20, ⟨w20_e, w20_lowest, w20_marks, w20_states, w20_live, w20_open, w20_am, w20_as, w20_al, w20_ga, w20_gm, w20_gs, w20_gl, w20_1, w20_2, w20_3, w20_4, w20_5, w20_6⟩⟩
/-! body 8: reopen -/
theorem d8_0 : decode prog_183_method_9_code 0 = .ok (.aload_n 0, 1) := by decide +kernel
theorem d8_1 : decode prog_183_method_9_code 1 = .ok (.getfield 21, 3) := by decide +kernel
theorem d8_4 : decode prog_183_method_9_code 4 = .ok (.iload_n 1, 1) := by decide +kernel
theorem d8_5 : decode prog_183_method_9_code 5 = .ok (.baload, 1) := by decide +kernel
theorem d8_6 : decode prog_183_method_9_code 6 = .ok (.iconst 2, 1) := by decide +kernel
theorem d8_7 : decode prog_183_method_9_code 7 = .ok (.if_icmp .eq 4, 3) := by decide +kernel
theorem d8_10 : decode prog_183_method_9_code 10 = .ok (.return_, 1) := by decide +kernel
theorem pnp0 : plainName "sluice/stream/Watermarks" = true := by first | (simp [plainName, overriddenIn]; done) | decide +kernel
theorem efp0 (m : MethodId) (a1 : Addr) : entryFrame m #[(.ref a1), (.int (0 : Int32))] 2 = mkF m 0 #[.val (.ref a1), .val (.int (0 : Int32))] [] := by first | (simp [entryFrame, mkF, argsToLocals, Value.category]; done) | rfl
def fnp0 (m0 m1 lw : Int64) : Int64 × Int64 × Int64 :=
  (m0, m1, lw)
def Qp0 (Z : State) (a1 : Addr) (bm bs bl : Addr) (m0 m1 lw : Int64) (l0 l1 : Int32) (h0 : Heap) (n0 : Nat) (v : Option Value) (h : Heap) (L : List Loc) : Prop := v = none ∧ Fr n0 L ∧ own_W Z h n0 a1 bm bs bl (fnp0 m0 m1 lw).1 (fnp0 m0 m1 lw).2.1 (fnp0 m0 m1 lw).2.2 (0 : Int32) (0 : Int32) l0 l1 (2 : Int32)
set_option maxRecDepth 65536 in
set_option maxHeartbeats 40000000 in
theorem rmp0 (l : Launch) (Z : State) (a0 : Array Value) (hw : ∀ d ∈ tables_1, d.before a0 Z = true) (ws : List Jvm.Cond) (a1 : Addr) (bm bs bl : Addr) (m0 m1 lw : Int64) (l0 l1 : Int32) (h0 : Heap) (n0 : Nat) (Z0 : n0 ≤ h0.size) (I0 : own_W Z h0 n0 a1 bm bs bl m0 m1 lw (0 : Int32) (0 : Int32) l0 l1 (2 : Int32)) :
    MetFree l (⟨"sluice/stream/Watermarks", "reopen", "(I)V"⟩ : MethodName) (head1 (Jvm.Cond.code (⟨"sluice/stream/Watermarks", "reopen", "(I)V"⟩ : MethodName) prog_183_method_9_code 2 none :: ws) ({ frames := 0, cells := 0, slots := 0, locals := 0 } : Room)) (fun a U => a = #[(.ref a1), (.int (0 : Int32))] ∧ Z.Warmed39 U.vm ∧ U.heap = h0) (fun _ _ _ _ _ => True) (fun _ U o U' => ∃ v L, o = .returned v ∧ Qp0 Z a1 bm bs bl m0 m1 lw l0 l1 h0 n0 v U'.heap L ∧ FrameEnd U o U' L ({ frames := 0, cells := 0, slots := 0, locals := 0 } : Room).cells ({ frames := 0, cells := 0, slots := 0, locals := 0 } : Room).slots) := by
  refine MetFree.of_bodySF (plainFor_of_name pnp0) hisR ?_
  intro p e s m args below meth c s₁ Bd hml0 hP hK
  obtain ⟨rfl, hZ, hh⟩ := hP
  have hx := Bd.exec
  have hby := Bd.bytes
  have hml : c.maxLocals = 2 := hml0
  have hown : s.vm.findClass "sluice/stream/Watermarks" = some m.cls := findClass_of_methodNamed Bd.named
  have hnm := (name_of_methodNamed Bd.named Bd.method).1
  have X0 : Stand p l e ({ frames := 0, cells := 0, slots := 0, locals := 0 } : Room) s m #[(.ref a1), (.int (0 : Int32))] below meth c s₁ [] 0 0 := Stand.of_body Bd
  have e0 : s₁.heap = h0 := by rw [← hh, Bd.state]; rfl
  have N0 := Fr.nil n0
  have pre0 : ∀ t, Steps p.tables e below (s₁.setTop (mkF m 0 #[.val (.ref a1), .val (.int (0 : Int32))] [])) t → Steps p.tables e below (s₁.setTop (entryFrame m #[(.ref a1), (.int (0 : Int32))] 2)) t := fun t k => castTop (efp0 m a1) k
  obtain ⟨w_e, w_lowest, w_marks, w_states, w_live, w_open, w_am, w_as, w_al, w_ga, w_gm, w_gs, w_gl, w_1, w_2, w_3, w_4, w_5, w_6⟩ := I0
  have pre1 : ∀ t, Steps p.tables e below (s₁.setTop (mkF m 1 #[.val (.ref a1), .val (.int (0 : Int32))] [(.ref a1)])) t → Steps p.tables e below (s₁.setTop (entryFrame m #[(.ref a1), (.int (0 : Int32))] 2)) t := by
    intro t k
    refine pre0 t ?_
    show Steps p.tables e below (s₁.setTop (mkF m 0 #[.val (.ref a1), .val (.int (0 : Int32))] [])) _
    refine XS.aloadN X0.here hx rfl (hb hby d8_0) rfl rfl ?_
    show Steps p.tables e below (s₁.setTop (mkF m 1 #[.val (.ref a1), .val (.int (0 : Int32))] [(.ref a1)])) _
    exact k
  obtain ⟨T2, X2, e2, st2⟩ := getF X0 hx hZ hown (host := "") (Or.inl (hw _ (List.mem_of_getElem? (i := 17) rfl))) Via.refl e0 w_states (g := (mkF m 1 #[.val (.ref a1), .val (.int (0 : Int32))] [(.ref a1)])) rfl rfl (hb hby d8_1)
  have pre2 : ∀ t, Steps p.tables e below (T2.setTop (mkF m 4 #[.val (.ref a1), .val (.int (0 : Int32))] [(.ref bs)])) t → Steps p.tables e below (s₁.setTop (entryFrame m #[(.ref a1), (.int (0 : Int32))] 2)) t := fun t k => pre1 t (st2 _ k)
  have pre3 : ∀ t, Steps p.tables e below (T2.setTop (mkF m 10 #[.val (.ref a1), .val (.int (0 : Int32))] [])) t → Steps p.tables e below (s₁.setTop (entryFrame m #[(.ref a1), (.int (0 : Int32))] 2)) t := by
    intro t k
    refine pre2 t ?_
    refine XS.iloadN X2.here hx rfl (hb hby d8_4) rfl ?_
    show Steps p.tables e below (T2.setTop (mkF m 5 #[.val (.ref a1), .val (.int (0 : Int32))] [(.int (0 : Int32)), (.ref bs)])) _
    refine own_ldB X2 hx hZ e2 w_as (by decide) (by decide) (g := (mkF m 5 #[.val (.ref a1), .val (.int (0 : Int32))] [(.int (0 : Int32)), (.ref bs)])) rfl rfl (hb hby d8_5) _ ?_
    show Steps p.tables e below (T2.setTop (mkF m 6 #[.val (.ref a1), .val (.int (0 : Int32))] [(.int (0 : Int32))])) _
    refine XS.iconst X2.here hx rfl (hb hby d8_6) ?_
    show Steps p.tables e below (T2.setTop (mkF m 7 #[.val (.ref a1), .val (.int (0 : Int32))] [(.int (2 : Int32)), (.int (0 : Int32))])) _
    refine XS.icmpNo X2.here hx rfl (hb hby d8_7) rfl (feq (by decide : ¬ (0 : Int32) = (2 : Int32))).1 ?_
    show Steps p.tables e below (T2.setTop (mkF m 10 #[.val (.ref a1), .val (.int (0 : Int32))] [])) _
    exact k
  obtain ⟨fs, hr, hrun, hended, hW, hsame⟩ := X2.leave (v := none) (fun _ => rfl)
  refine ⟨_, _, pre3 _ ?_, hrun, hended, _, _, rfl, ?_, ⟨_, rfl⟩, hW, hsame.mono (by decide) (by decide)⟩
  · show Steps p.tables e below (T2.setTop (mkF m 10 #[.val (.ref a1), .val (.int (0 : Int32))] [])) _
    exact X2.returnOut hx Bd.returns (hb hby d8_10) hr
  · show Qp0 Z a1 bm bs bl m0 m1 lw l0 l1 h0 n0 _ T2.heap _
    rw [e2]
    have hfn : fnp0 m0 m1 lw = (m0, m1, lw) := by
      simp only [fnp0]
    unfold Qp0
    rw [hfn]
    exact ⟨rfl, N0, ⟨w_e, w_lowest, w_marks, w_states, w_live, w_open, w_am, w_as, w_al, w_ga, w_gm, w_gs, w_gl, w_1, w_2, w_3, w_4, w_5, w_6⟩⟩
/-! body 8: reopen -/
theorem pnp1 : plainName "sluice/stream/Watermarks" = true := by first | (simp [plainName, overriddenIn]; done) | decide +kernel
theorem efp1 (m : MethodId) (a1 : Addr) : entryFrame m #[(.ref a1), (.int (0 : Int32))] 2 = mkF m 0 #[.val (.ref a1), .val (.int (0 : Int32))] [] := by first | (simp [entryFrame, mkF, argsToLocals, Value.category]; done) | rfl
def fnp1 (m0 m1 lw : Int64) : Int64 × Int64 × Int64 :=
  (m0, m1, lw)
def Qp1 (Z : State) (a1 : Addr) (bm bs bl : Addr) (m0 m1 lw : Int64) (l0 l1 : Int32) (h0 : Heap) (n0 : Nat) (v : Option Value) (h : Heap) (L : List Loc) : Prop := v = none ∧ Fr n0 L ∧ own_W Z h n0 a1 bm bs bl (fnp1 m0 m1 lw).1 (fnp1 m0 m1 lw).2.1 (fnp1 m0 m1 lw).2.2 (1 : Int32) (0 : Int32) l0 l1 (2 : Int32)
set_option maxRecDepth 65536 in
set_option maxHeartbeats 40000000 in
theorem rmp1 (l : Launch) (Z : State) (a0 : Array Value) (hw : ∀ d ∈ tables_1, d.before a0 Z = true) (ws : List Jvm.Cond) (a1 : Addr) (bm bs bl : Addr) (m0 m1 lw : Int64) (l0 l1 : Int32) (h0 : Heap) (n0 : Nat) (Z0 : n0 ≤ h0.size) (I0 : own_W Z h0 n0 a1 bm bs bl m0 m1 lw (1 : Int32) (0 : Int32) l0 l1 (2 : Int32)) :
    MetFree l (⟨"sluice/stream/Watermarks", "reopen", "(I)V"⟩ : MethodName) (head1 (Jvm.Cond.code (⟨"sluice/stream/Watermarks", "reopen", "(I)V"⟩ : MethodName) prog_183_method_9_code 2 none :: ws) ({ frames := 0, cells := 0, slots := 0, locals := 0 } : Room)) (fun a U => a = #[(.ref a1), (.int (0 : Int32))] ∧ Z.Warmed39 U.vm ∧ U.heap = h0) (fun _ _ _ _ _ => True) (fun _ U o U' => ∃ v L, o = .returned v ∧ Qp1 Z a1 bm bs bl m0 m1 lw l0 l1 h0 n0 v U'.heap L ∧ FrameEnd U o U' L ({ frames := 0, cells := 0, slots := 0, locals := 0 } : Room).cells ({ frames := 0, cells := 0, slots := 0, locals := 0 } : Room).slots) := by
  refine MetFree.of_bodySF (plainFor_of_name pnp1) hisR ?_
  intro p e s m args below meth c s₁ Bd hml0 hP hK
  obtain ⟨rfl, hZ, hh⟩ := hP
  have hx := Bd.exec
  have hby := Bd.bytes
  have hml : c.maxLocals = 2 := hml0
  have hown : s.vm.findClass "sluice/stream/Watermarks" = some m.cls := findClass_of_methodNamed Bd.named
  have hnm := (name_of_methodNamed Bd.named Bd.method).1
  have X0 : Stand p l e ({ frames := 0, cells := 0, slots := 0, locals := 0 } : Room) s m #[(.ref a1), (.int (0 : Int32))] below meth c s₁ [] 0 0 := Stand.of_body Bd
  have e0 : s₁.heap = h0 := by rw [← hh, Bd.state]; rfl
  have N0 := Fr.nil n0
  have pre0 : ∀ t, Steps p.tables e below (s₁.setTop (mkF m 0 #[.val (.ref a1), .val (.int (0 : Int32))] [])) t → Steps p.tables e below (s₁.setTop (entryFrame m #[(.ref a1), (.int (0 : Int32))] 2)) t := fun t k => castTop (efp1 m a1) k
  obtain ⟨w_e, w_lowest, w_marks, w_states, w_live, w_open, w_am, w_as, w_al, w_ga, w_gm, w_gs, w_gl, w_1, w_2, w_3, w_4, w_5, w_6⟩ := I0
  have pre1 : ∀ t, Steps p.tables e below (s₁.setTop (mkF m 1 #[.val (.ref a1), .val (.int (0 : Int32))] [(.ref a1)])) t → Steps p.tables e below (s₁.setTop (entryFrame m #[(.ref a1), (.int (0 : Int32))] 2)) t := by
    intro t k
    refine pre0 t ?_
    show Steps p.tables e below (s₁.setTop (mkF m 0 #[.val (.ref a1), .val (.int (0 : Int32))] [])) _
    refine XS.aloadN X0.here hx rfl (hb hby d8_0) rfl rfl ?_
    show Steps p.tables e below (s₁.setTop (mkF m 1 #[.val (.ref a1), .val (.int (0 : Int32))] [(.ref a1)])) _
    exact k
  obtain ⟨T2, X2, e2, st2⟩ := getF X0 hx hZ hown (host := "") (Or.inl (hw _ (List.mem_of_getElem? (i := 17) rfl))) Via.refl e0 w_states (g := (mkF m 1 #[.val (.ref a1), .val (.int (0 : Int32))] [(.ref a1)])) rfl rfl (hb hby d8_1)
  have pre2 : ∀ t, Steps p.tables e below (T2.setTop (mkF m 4 #[.val (.ref a1), .val (.int (0 : Int32))] [(.ref bs)])) t → Steps p.tables e below (s₁.setTop (entryFrame m #[(.ref a1), (.int (0 : Int32))] 2)) t := fun t k => pre1 t (st2 _ k)
  have pre3 : ∀ t, Steps p.tables e below (T2.setTop (mkF m 10 #[.val (.ref a1), .val (.int (0 : Int32))] [])) t → Steps p.tables e below (s₁.setTop (entryFrame m #[(.ref a1), (.int (0 : Int32))] 2)) t := by
    intro t k
    refine pre2 t ?_
    refine XS.iloadN X2.here hx rfl (hb hby d8_4) rfl ?_
    show Steps p.tables e below (T2.setTop (mkF m 5 #[.val (.ref a1), .val (.int (0 : Int32))] [(.int (0 : Int32)), (.ref bs)])) _
    refine own_ldB X2 hx hZ e2 w_as (by decide) (by decide) (g := (mkF m 5 #[.val (.ref a1), .val (.int (0 : Int32))] [(.int (0 : Int32)), (.ref bs)])) rfl rfl (hb hby d8_5) _ ?_
    show Steps p.tables e below (T2.setTop (mkF m 6 #[.val (.ref a1), .val (.int (0 : Int32))] [(.int (1 : Int32))])) _
    refine XS.iconst X2.here hx rfl (hb hby d8_6) ?_
    show Steps p.tables e below (T2.setTop (mkF m 7 #[.val (.ref a1), .val (.int (0 : Int32))] [(.int (2 : Int32)), (.int (1 : Int32))])) _
    refine XS.icmpNo X2.here hx rfl (hb hby d8_7) rfl (feq (by decide : ¬ (1 : Int32) = (2 : Int32))).1 ?_
    show Steps p.tables e below (T2.setTop (mkF m 10 #[.val (.ref a1), .val (.int (0 : Int32))] [])) _
    exact k
  obtain ⟨fs, hr, hrun, hended, hW, hsame⟩ := X2.leave (v := none) (fun _ => rfl)
  refine ⟨_, _, pre3 _ ?_, hrun, hended, _, _, rfl, ?_, ⟨_, rfl⟩, hW, hsame.mono (by decide) (by decide)⟩
  · show Steps p.tables e below (T2.setTop (mkF m 10 #[.val (.ref a1), .val (.int (0 : Int32))] [])) _
    exact X2.returnOut hx Bd.returns (hb hby d8_10) hr
  · show Qp1 Z a1 bm bs bl m0 m1 lw l0 l1 h0 n0 _ T2.heap _
    rw [e2]
    have hfn : fnp1 m0 m1 lw = (m0, m1, lw) := by
      simp only [fnp1]
    unfold Qp1
    rw [hfn]
    exact ⟨rfl, N0, ⟨w_e, w_lowest, w_marks, w_states, w_live, w_open, w_am, w_as, w_al, w_ga, w_gm, w_gs, w_gl, w_1, w_2, w_3, w_4, w_5, w_6⟩⟩
/-! body 8: reopen -/
theorem d8_11 : decode prog_183_method_9_code 11 = .ok (.aload_n 0, 1) := by decide +kernel
theorem d8_12 : decode prog_183_method_9_code 12 = .ok (.getfield 21, 3) := by decide +kernel
theorem d8_15 : decode prog_183_method_9_code 15 = .ok (.iload_n 1, 1) := by decide +kernel
theorem d8_16 : decode prog_183_method_9_code 16 = .ok (.iconst 0, 1) := by decide +kernel
theorem d8_17 : decode prog_183_method_9_code 17 = .ok (.bastore, 1) := by decide +kernel
theorem d8_18 : decode prog_183_method_9_code 18 = .ok (.aload_n 0, 1) := by decide +kernel
theorem d8_19 : decode prog_183_method_9_code 19 = .ok (.getfield 25, 3) := by decide +kernel
theorem d8_22 : decode prog_183_method_9_code 22 = .ok (.aload_n 0, 1) := by decide +kernel
theorem d8_23 : decode prog_183_method_9_code 23 = .ok (.dup, 1) := by decide +kernel
theorem d8_24 : decode prog_183_method_9_code 24 = .ok (.getfield 35, 3) := by decide +kernel
theorem d8_27 : decode prog_183_method_9_code 27 = .ok (.dup_x1, 1) := by decide +kernel
theorem d8_28 : decode prog_183_method_9_code 28 = .ok (.iconst 1, 1) := by decide +kernel
theorem d8_29 : decode prog_183_method_9_code 29 = .ok (.iadd, 1) := by decide +kernel
theorem d8_30 : decode prog_183_method_9_code 30 = .ok (.putfield 35, 3) := by decide +kernel
theorem d8_33 : decode prog_183_method_9_code 33 = .ok (.iload_n 1, 1) := by decide +kernel
theorem d8_34 : decode prog_183_method_9_code 34 = .ok (.iastore, 1) := by decide +kernel
theorem d8_35 : decode prog_183_method_9_code 35 = .ok (.return_, 1) := by decide +kernel
theorem pnp2 : plainName "sluice/stream/Watermarks" = true := by first | (simp [plainName, overriddenIn]; done) | decide +kernel
theorem efp2 (m : MethodId) (a1 : Addr) : entryFrame m #[(.ref a1), (.int (0 : Int32))] 2 = mkF m 0 #[.val (.ref a1), .val (.int (0 : Int32))] [] := by first | (simp [entryFrame, mkF, argsToLocals, Value.category]; done) | rfl
def fnp2 (m0 m1 lw : Int64) : Int64 × Int64 × Int64 :=
  (m0, m1, lw)
def Qp2 (Z : State) (a1 : Addr) (bm bs bl : Addr) (m0 m1 lw : Int64) (h0 : Heap) (n0 : Nat) (v : Option Value) (h : Heap) (L : List Loc) : Prop := v = none ∧ Fr n0 L ∧ own_W Z h n0 a1 bm bs bl (fnp2 m0 m1 lw).1 (fnp2 m0 m1 lw).2.1 (fnp2 m0 m1 lw).2.2 (0 : Int32) (0 : Int32) (1 : Int32) (0 : Int32) (2 : Int32)
set_option maxRecDepth 65536 in
set_option maxHeartbeats 40000000 in
theorem rmp2 (l : Launch) (Z : State) (a0 : Array Value) (hw : ∀ d ∈ tables_1, d.before a0 Z = true) (ws : List Jvm.Cond) (a1 : Addr) (bm bs bl : Addr) (m0 m1 lw : Int64) (h0 : Heap) (n0 : Nat) (Z0 : n0 ≤ h0.size) (I0 : own_W Z h0 n0 a1 bm bs bl m0 m1 lw (2 : Int32) (0 : Int32) (1 : Int32) (1 : Int32) (1 : Int32)) :
    MetFree l (⟨"sluice/stream/Watermarks", "reopen", "(I)V"⟩ : MethodName) (head1 (Jvm.Cond.code (⟨"sluice/stream/Watermarks", "reopen", "(I)V"⟩ : MethodName) prog_183_method_9_code 2 none :: ws) ({ frames := 0, cells := 0, slots := 0, locals := 0 } : Room)) (fun a U => a = #[(.ref a1), (.int (0 : Int32))] ∧ Z.Warmed39 U.vm ∧ U.heap = h0) (fun _ _ _ _ _ => True) (fun _ U o U' => ∃ v L, o = .returned v ∧ Qp2 Z a1 bm bs bl m0 m1 lw h0 n0 v U'.heap L ∧ FrameEnd U o U' L ({ frames := 0, cells := 0, slots := 0, locals := 0 } : Room).cells ({ frames := 0, cells := 0, slots := 0, locals := 0 } : Room).slots) := by
  refine MetFree.of_bodySF (plainFor_of_name pnp2) hisR ?_
  intro p e s m args below meth c s₁ Bd hml0 hP hK
  obtain ⟨rfl, hZ, hh⟩ := hP
  have hx := Bd.exec
  have hby := Bd.bytes
  have hml : c.maxLocals = 2 := hml0
  have hown : s.vm.findClass "sluice/stream/Watermarks" = some m.cls := findClass_of_methodNamed Bd.named
  have hnm := (name_of_methodNamed Bd.named Bd.method).1
  have X0 : Stand p l e ({ frames := 0, cells := 0, slots := 0, locals := 0 } : Room) s m #[(.ref a1), (.int (0 : Int32))] below meth c s₁ [] 0 0 := Stand.of_body Bd
  have e0 : s₁.heap = h0 := by rw [← hh, Bd.state]; rfl
  have N0 := Fr.nil n0
  have pre0 : ∀ t, Steps p.tables e below (s₁.setTop (mkF m 0 #[.val (.ref a1), .val (.int (0 : Int32))] [])) t → Steps p.tables e below (s₁.setTop (entryFrame m #[(.ref a1), (.int (0 : Int32))] 2)) t := fun t k => castTop (efp2 m a1) k
  obtain ⟨w_e, w_lowest, w_marks, w_states, w_live, w_open, w_am, w_as, w_al, w_ga, w_gm, w_gs, w_gl, w_1, w_2, w_3, w_4, w_5, w_6⟩ := I0
  have pre1 : ∀ t, Steps p.tables e below (s₁.setTop (mkF m 1 #[.val (.ref a1), .val (.int (0 : Int32))] [(.ref a1)])) t → Steps p.tables e below (s₁.setTop (entryFrame m #[(.ref a1), (.int (0 : Int32))] 2)) t := by
    intro t k
    refine pre0 t ?_
    show Steps p.tables e below (s₁.setTop (mkF m 0 #[.val (.ref a1), .val (.int (0 : Int32))] [])) _
    refine XS.aloadN X0.here hx rfl (hb hby d8_0) rfl rfl ?_
    show Steps p.tables e below (s₁.setTop (mkF m 1 #[.val (.ref a1), .val (.int (0 : Int32))] [(.ref a1)])) _
    exact k
  obtain ⟨T2, X2, e2, st2⟩ := getF X0 hx hZ hown (host := "") (Or.inl (hw _ (List.mem_of_getElem? (i := 17) rfl))) Via.refl e0 w_states (g := (mkF m 1 #[.val (.ref a1), .val (.int (0 : Int32))] [(.ref a1)])) rfl rfl (hb hby d8_1)
  have pre2 : ∀ t, Steps p.tables e below (T2.setTop (mkF m 4 #[.val (.ref a1), .val (.int (0 : Int32))] [(.ref bs)])) t → Steps p.tables e below (s₁.setTop (entryFrame m #[(.ref a1), (.int (0 : Int32))] 2)) t := fun t k => pre1 t (st2 _ k)
  have pre3 : ∀ t, Steps p.tables e below (T2.setTop (mkF m 12 #[.val (.ref a1), .val (.int (0 : Int32))] [(.ref a1)])) t → Steps p.tables e below (s₁.setTop (entryFrame m #[(.ref a1), (.int (0 : Int32))] 2)) t := by
    intro t k
    refine pre2 t ?_
    refine XS.iloadN X2.here hx rfl (hb hby d8_4) rfl ?_
    show Steps p.tables e below (T2.setTop (mkF m 5 #[.val (.ref a1), .val (.int (0 : Int32))] [(.int (0 : Int32)), (.ref bs)])) _
    refine own_ldB X2 hx hZ e2 w_as (by decide) (by decide) (g := (mkF m 5 #[.val (.ref a1), .val (.int (0 : Int32))] [(.int (0 : Int32)), (.ref bs)])) rfl rfl (hb hby d8_5) _ ?_
    show Steps p.tables e below (T2.setTop (mkF m 6 #[.val (.ref a1), .val (.int (0 : Int32))] [(.int (2 : Int32))])) _
    refine XS.iconst X2.here hx rfl (hb hby d8_6) ?_
    show Steps p.tables e below (T2.setTop (mkF m 7 #[.val (.ref a1), .val (.int (0 : Int32))] [(.int (2 : Int32)), (.int (2 : Int32))])) _
    refine XS.icmpYes X2.here hx rfl (pc0 := 7) (pc' := 11) rfl (hb hby d8_7) rfl (teq (by decide : (2 : Int32) = (2 : Int32))).1 (by decide) (by decide) ?_
    show Steps p.tables e below (T2.setTop (mkF m 11 #[.val (.ref a1), .val (.int (0 : Int32))] [])) _
    refine XS.aloadN X2.here hx rfl (hb hby d8_11) rfl rfl ?_
    show Steps p.tables e below (T2.setTop (mkF m 12 #[.val (.ref a1), .val (.int (0 : Int32))] [(.ref a1)])) _
    exact k
  obtain ⟨T4, X4, e4, st4⟩ := getF X2 hx hZ hown (host := "") (Or.inl (hw _ (List.mem_of_getElem? (i := 17) rfl))) Via.refl e2 w_states (g := (mkF m 12 #[.val (.ref a1), .val (.int (0 : Int32))] [(.ref a1)])) rfl rfl (hb hby d8_12)
  have pre4 : ∀ t, Steps p.tables e below (T4.setTop (mkF m 15 #[.val (.ref a1), .val (.int (0 : Int32))] [(.ref bs)])) t → Steps p.tables e below (s₁.setTop (entryFrame m #[(.ref a1), (.int (0 : Int32))] 2)) t := fun t k => pre3 t (st4 _ k)
  have pre5 : ∀ t, Steps p.tables e below (T4.setTop (mkF m 17 #[.val (.ref a1), .val (.int (0 : Int32))] [(.int (0 : Int32)), (.int (0 : Int32)), (.ref bs)])) t → Steps p.tables e below (s₁.setTop (entryFrame m #[(.ref a1), (.int (0 : Int32))] 2)) t := by
    intro t k
    refine pre4 t ?_
    refine XS.iloadN X4.here hx rfl (hb hby d8_15) rfl ?_
    show Steps p.tables e below (T4.setTop (mkF m 16 #[.val (.ref a1), .val (.int (0 : Int32))] [(.int (0 : Int32)), (.ref bs)])) _
    refine XS.iconst X4.here hx rfl (hb hby d8_16) ?_
    show Steps p.tables e below (T4.setTop (mkF m 17 #[.val (.ref a1), .val (.int (0 : Int32))] [(.int (0 : Int32)), (.int (0 : Int32)), (.ref bs)])) _
    exact k
  obtain ⟨T6, h6, X6, e6, W6, V6, st6⟩ := own_stB X4 hx hZ e4 w_as (by decide) (by decide) (g := (mkF m 17 #[.val (.ref a1), .val (.int (0 : Int32))] [(.int (0 : Int32)), (.int (0 : Int32)), (.ref bs)])) rfl rfl (hb hby d8_17)
  have F6_0 := w_lowest.other W6 (Or.inl w_2)
  have F6_1 := w_marks.other W6 (Or.inl w_2)
  have F6_2 := w_states.other W6 (Or.inl w_2)
  have F6_3 := w_live.other W6 (Or.inl w_2)
  have F6_4 := w_open.other W6 (Or.inl w_2)
  have F6_5 := w_e.wr W6
  have F6_6 := w_am.other W6 w_4
  have F6_7 := V6
  have F6_8 := w_al.other W6 (Ne.symm w_6)
  have Z6 : n0 ≤ h6.size := Nat.le_trans Z0 (Keep.of_wr W6).1
  have N6 := Fr.snoc X6 N0 w_gs
  have U6 : own_AI Z h6 bs .byte (2 : Int32) (own_2 (0 : Int32) (0 : Int32)) := own_AI.st0 F6_7
  have pre6 : ∀ t, Steps p.tables e below (T6.setTop (mkF m 18 #[.val (.ref a1), .val (.int (0 : Int32))] [])) t → Steps p.tables e below (s₁.setTop (entryFrame m #[(.ref a1), (.int (0 : Int32))] 2)) t := fun t k => pre5 t (st6 _ k)
  have pre7 : ∀ t, Steps p.tables e below (T6.setTop (mkF m 19 #[.val (.ref a1), .val (.int (0 : Int32))] [(.ref a1)])) t → Steps p.tables e below (s₁.setTop (entryFrame m #[(.ref a1), (.int (0 : Int32))] 2)) t := by
    intro t k
    refine pre6 t ?_
    refine XS.aloadN X6.here hx rfl (hb hby d8_18) rfl rfl ?_
    show Steps p.tables e below (T6.setTop (mkF m 19 #[.val (.ref a1), .val (.int (0 : Int32))] [(.ref a1)])) _
    exact k
  obtain ⟨T8, X8, e8, st8⟩ := getF X6 hx hZ hown (host := "") (Or.inl (hw _ (List.mem_of_getElem? (i := 20) rfl))) Via.refl e6 F6_3 (g := (mkF m 19 #[.val (.ref a1), .val (.int (0 : Int32))] [(.ref a1)])) rfl rfl (hb hby d8_19)
  have pre8 : ∀ t, Steps p.tables e below (T8.setTop (mkF m 22 #[.val (.ref a1), .val (.int (0 : Int32))] [(.ref bl)])) t → Steps p.tables e below (s₁.setTop (entryFrame m #[(.ref a1), (.int (0 : Int32))] 2)) t := fun t k => pre7 t (st8 _ k)
  have pre9 : ∀ t, Steps p.tables e below (T8.setTop (mkF m 24 #[.val (.ref a1), .val (.int (0 : Int32))] [(.ref a1), (.ref a1), (.ref bl)])) t → Steps p.tables e below (s₁.setTop (entryFrame m #[(.ref a1), (.int (0 : Int32))] 2)) t := by
    intro t k
    refine pre8 t ?_
    refine XS.aloadN X8.here hx rfl (hb hby d8_22) rfl rfl ?_
    show Steps p.tables e below (T8.setTop (mkF m 23 #[.val (.ref a1), .val (.int (0 : Int32))] [(.ref a1), (.ref bl)])) _
    refine XS.dup X8.here hx rfl (hb hby d8_23) rfl rfl ?_
    show Steps p.tables e below (T8.setTop (mkF m 24 #[.val (.ref a1), .val (.int (0 : Int32))] [(.ref a1), (.ref a1), (.ref bl)])) _
    exact k
  obtain ⟨T10, X10, e10, st10⟩ := getF X8 hx hZ hown (host := "") (Or.inl (hw _ (List.mem_of_getElem? (i := 26) rfl))) Via.refl e8 F6_4 (g := (mkF m 24 #[.val (.ref a1), .val (.int (0 : Int32))] [(.ref a1), (.ref a1), (.ref bl)])) rfl rfl (hb hby d8_24)
  have pre10 : ∀ t, Steps p.tables e below (T10.setTop (mkF m 27 #[.val (.ref a1), .val (.int (0 : Int32))] [(.int (1 : Int32)), (.ref a1), (.ref bl)])) t → Steps p.tables e below (s₁.setTop (entryFrame m #[(.ref a1), (.int (0 : Int32))] 2)) t := fun t k => pre9 t (st10 _ k)
  have pre11 : ∀ t, Steps p.tables e below (T10.setTop (mkF m 30 #[.val (.ref a1), .val (.int (0 : Int32))] [(.int (2 : Int32)), (.ref a1), (.int (1 : Int32)), (.ref bl)])) t → Steps p.tables e below (s₁.setTop (entryFrame m #[(.ref a1), (.int (0 : Int32))] 2)) t := by
    intro t k
    refine pre10 t ?_
    refine XS.dupX1 X10.here hx rfl (hb hby d8_27) rfl rfl rfl ?_
    show Steps p.tables e below (T10.setTop (mkF m 28 #[.val (.ref a1), .val (.int (0 : Int32))] [(.int (1 : Int32)), (.ref a1), (.int (1 : Int32)), (.ref bl)])) _
    refine XS.iconst X10.here hx rfl (hb hby d8_28) ?_
    show Steps p.tables e below (T10.setTop (mkF m 29 #[.val (.ref a1), .val (.int (0 : Int32))] [(.int (1 : Int32)), (.int (1 : Int32)), (.ref a1), (.int (1 : Int32)), (.ref bl)])) _
    refine XS.iadd X10.here hx rfl (hb hby d8_29) rfl ?_
    show Steps p.tables e below (T10.setTop (mkF m 30 #[.val (.ref a1), .val (.int (0 : Int32))] [(.int (2 : Int32)), (.ref a1), (.int (1 : Int32)), (.ref bl)])) _
    exact k
  obtain ⟨T12, h12, X12, e12, W12, st12⟩ := putF X10 hx hZ hown (host := "") (Or.inl (hw _ (List.mem_of_getElem? (i := 26) rfl))) Via.refl e10 F6_4 F6_5 (Or.inl (hw _ (List.mem_of_getElem? (i := 27) rfl))) (hw _ (List.mem_of_getElem? (i := 2) rfl)) (ty := .int) (by decide) rfl rfl (g := (mkF m 30 #[.val (.ref a1), .val (.int (0 : Int32))] [(.int (2 : Int32)), (.ref a1), (.int (1 : Int32)), (.ref bl)])) rfl rfl (hb hby d8_30)
  have F12_0 := F6_0.other W12 (Or.inr (slot_ne (Or.inl (hw _ (List.mem_of_getElem? (i := 12) rfl))) (Or.inl (hw _ (List.mem_of_getElem? (i := 27) rfl))) (by decide) (t := .long) (t' := .int) (by decide) (by decide)))
  have F12_1 := F6_1.other W12 (Or.inr (slot_ne (Or.inl (hw _ (List.mem_of_getElem? (i := 15) rfl))) (Or.inl (hw _ (List.mem_of_getElem? (i := 27) rfl))) (by decide) (t := (.array .long)) (t' := .int) (by decide) (by decide)))
  have F12_2 := F6_2.other W12 (Or.inr (slot_ne (Or.inl (hw _ (List.mem_of_getElem? (i := 18) rfl))) (Or.inl (hw _ (List.mem_of_getElem? (i := 27) rfl))) (by decide) (t := (.array .byte)) (t' := .int) (by decide) (by decide)))
  have F12_3 := F6_3.other W12 (Or.inr (slot_ne (Or.inl (hw _ (List.mem_of_getElem? (i := 21) rfl))) (Or.inl (hw _ (List.mem_of_getElem? (i := 27) rfl))) (by decide) (t := (.array .int)) (t' := .int) (by decide) (by decide)))
  have F12_4 := F6_4.same W12
  have F12_5 := F6_5.wr W12
  have F12_6 := F6_6.other W12 (Ne.symm w_1)
  have F12_7 := U6.other W12 (Ne.symm w_2)
  have F12_8 := F6_8.other W12 (Ne.symm w_3)
  have Z12 : n0 ≤ h12.size := Nat.le_trans Z6 (Keep.of_wr W12).1
  have N12 := Fr.snoc X12 N6 w_ga
  have pre12 : ∀ t, Steps p.tables e below (T12.setTop (mkF m 33 #[.val (.ref a1), .val (.int (0 : Int32))] [(.int (1 : Int32)), (.ref bl)])) t → Steps p.tables e below (s₁.setTop (entryFrame m #[(.ref a1), (.int (0 : Int32))] 2)) t := fun t k => pre11 t (st12 _ k)
  have pre13 : ∀ t, Steps p.tables e below (T12.setTop (mkF m 34 #[.val (.ref a1), .val (.int (0 : Int32))] [(.int (0 : Int32)), (.int (1 : Int32)), (.ref bl)])) t → Steps p.tables e below (s₁.setTop (entryFrame m #[(.ref a1), (.int (0 : Int32))] 2)) t := by
    intro t k
    refine pre12 t ?_
    refine XS.iloadN X12.here hx rfl (hb hby d8_33) rfl ?_
    show Steps p.tables e below (T12.setTop (mkF m 34 #[.val (.ref a1), .val (.int (0 : Int32))] [(.int (0 : Int32)), (.int (1 : Int32)), (.ref bl)])) _
    exact k
  obtain ⟨T14, h14, X14, e14, W14, V14, st14⟩ := own_stI X12 hx hZ e12 F12_8 (by decide) (by decide) (g := (mkF m 34 #[.val (.ref a1), .val (.int (0 : Int32))] [(.int (0 : Int32)), (.int (1 : Int32)), (.ref bl)])) rfl rfl (hb hby d8_34)
  have F14_0 := F12_0.other W14 (Or.inl w_3)
  have F14_1 := F12_1.other W14 (Or.inl w_3)
  have F14_2 := F12_2.other W14 (Or.inl w_3)
  have F14_3 := F12_3.other W14 (Or.inl w_3)
  have F14_4 := F12_4.other W14 (Or.inl w_3)
  have F14_5 := F12_5.wr W14
  have F14_6 := F12_6.other W14 w_5
  have F14_7 := F12_7.other W14 w_6
  have F14_8 := V14
  have Z14 : n0 ≤ h14.size := Nat.le_trans Z12 (Keep.of_wr W14).1
  have N14 := Fr.snoc X14 N12 w_gl
  have U14 : own_AI Z h14 bl .int (2 : Int32) (own_2 (1 : Int32) (0 : Int32)) := own_AI.st1 F14_8
  have pre14 : ∀ t, Steps p.tables e below (T14.setTop (mkF m 35 #[.val (.ref a1), .val (.int (0 : Int32))] [])) t → Steps p.tables e below (s₁.setTop (entryFrame m #[(.ref a1), (.int (0 : Int32))] 2)) t := fun t k => pre13 t (st14 _ k)
  obtain ⟨fs, hr, hrun, hended, hW, hsame⟩ := X14.leave (v := none) (fun _ => rfl)
  refine ⟨_, _, pre14 _ ?_, hrun, hended, _, _, rfl, ?_, ⟨_, rfl⟩, hW, hsame.mono (by decide) (by decide)⟩
  · show Steps p.tables e below (T14.setTop (mkF m 35 #[.val (.ref a1), .val (.int (0 : Int32))] [])) _
    exact X14.returnOut hx Bd.returns (hb hby d8_35) hr
  · show Qp2 Z a1 bm bs bl m0 m1 lw h0 n0 _ T14.heap _
    rw [e14]
    have hfn : fnp2 m0 m1 lw = (m0, m1, lw) := by
      simp only [fnp2]
    unfold Qp2
    rw [hfn]
    exact ⟨rfl, N14, ⟨F14_5, F14_0, F14_1, F14_2, F14_3, F14_4, F14_6, F14_7, U14, w_ga, w_gm, w_gs, w_gl, w_1, w_2, w_3, w_4, w_5, w_6⟩⟩
/-! body 9: lowest -/
theorem d9_0 : decode prog_183_method_2_code 0 = .ok (.aload_n 0, 1) := by decide +kernel
theorem d9_1 : decode prog_183_method_2_code 1 = .ok (.getfield 11, 3) := by decide +kernel
theorem d9_4 : decode prog_183_method_2_code 4 = .ok (.lreturn, 1) := by decide +kernel
theorem pnlo : plainName "sluice/stream/Watermarks" = true := by first | (simp [plainName, overriddenIn]; done) | decide +kernel
theorem eflo (m : MethodId) (a1 : Addr) : entryFrame m #[(.ref a1)] 1 = mkF m 0 #[.val (.ref a1)] [] := by first | (simp [entryFrame, mkF, argsToLocals, Value.category]; done) | rfl
def fnlo (m0 m1 lw : Int64) : Int64 × Int64 × Int64 × Int64 :=
  (lw, m0, m1, lw)
def Qlo (Z : State) (a1 : Addr) (bm bs bl : Addr) (m0 m1 lw : Int64) (s0 s1 l0 l1 oo : Int32) (h0 : Heap) (n0 : Nat) (v : Option Value) (h : Heap) (L : List Loc) : Prop := v = some (.long (fnlo m0 m1 lw).1) ∧ Fr n0 L ∧ own_W Z h n0 a1 bm bs bl (fnlo m0 m1 lw).2.1 (fnlo m0 m1 lw).2.2.1 (fnlo m0 m1 lw).2.2.2 s0 s1 l0 l1 oo
set_option maxRecDepth 65536 in
set_option maxHeartbeats 40000000 in
theorem rmlo (l : Launch) (Z : State) (a0 : Array Value) (hw : ∀ d ∈ tables_1, d.before a0 Z = true) (ws : List Jvm.Cond) (a1 : Addr) (bm bs bl : Addr) (m0 m1 lw : Int64) (s0 s1 l0 l1 oo : Int32) (h0 : Heap) (n0 : Nat) (Z0 : n0 ≤ h0.size) (I0 : own_W Z h0 n0 a1 bm bs bl m0 m1 lw s0 s1 l0 l1 oo) :
    MetFree l (⟨"sluice/stream/Watermarks", "lowest", "()J"⟩ : MethodName) (head1 (Jvm.Cond.code (⟨"sluice/stream/Watermarks", "lowest", "()J"⟩ : MethodName) prog_183_method_2_code 1 (some .long) :: ws) ({ frames := 0, cells := 0, slots := 0, locals := 0 } : Room)) (fun a U => a = #[(.ref a1)] ∧ Z.Warmed39 U.vm ∧ U.heap = h0) (fun _ _ _ _ _ => True) (fun _ U o U' => ∃ v L, o = .returned v ∧ Qlo Z a1 bm bs bl m0 m1 lw s0 s1 l0 l1 oo h0 n0 v U'.heap L ∧ FrameEnd U o U' L ({ frames := 0, cells := 0, slots := 0, locals := 0 } : Room).cells ({ frames := 0, cells := 0, slots := 0, locals := 0 } : Room).slots) := by
  refine MetFree.of_bodySF (plainFor_of_name pnlo) hisR ?_
  intro p e s m args below meth c s₁ Bd hml0 hP hK
  obtain ⟨rfl, hZ, hh⟩ := hP
  have hx := Bd.exec
  have hby := Bd.bytes
  have hml : c.maxLocals = 1 := hml0
  have hown : s.vm.findClass "sluice/stream/Watermarks" = some m.cls := findClass_of_methodNamed Bd.named
  have hnm := (name_of_methodNamed Bd.named Bd.method).1
  have X0 : Stand p l e ({ frames := 0, cells := 0, slots := 0, locals := 0 } : Room) s m #[(.ref a1)] below meth c s₁ [] 0 0 := Stand.of_body Bd
  have e0 : s₁.heap = h0 := by rw [← hh, Bd.state]; rfl
  have N0 := Fr.nil n0
  have pre0 : ∀ t, Steps p.tables e below (s₁.setTop (mkF m 0 #[.val (.ref a1)] [])) t → Steps p.tables e below (s₁.setTop (entryFrame m #[(.ref a1)] 1)) t := fun t k => castTop (eflo m a1) k
  obtain ⟨w_e, w_lowest, w_marks, w_states, w_live, w_open, w_am, w_as, w_al, w_ga, w_gm, w_gs, w_gl, w_1, w_2, w_3, w_4, w_5, w_6⟩ := I0
  have pre1 : ∀ t, Steps p.tables e below (s₁.setTop (mkF m 1 #[.val (.ref a1)] [(.ref a1)])) t → Steps p.tables e below (s₁.setTop (entryFrame m #[(.ref a1)] 1)) t := by
    intro t k
    refine pre0 t ?_
    show Steps p.tables e below (s₁.setTop (mkF m 0 #[.val (.ref a1)] [])) _
    refine XS.aloadN X0.here hx rfl (hb hby d9_0) rfl rfl ?_
    show Steps p.tables e below (s₁.setTop (mkF m 1 #[.val (.ref a1)] [(.ref a1)])) _
    exact k
  obtain ⟨T2, X2, e2, st2⟩ := getF X0 hx hZ hown (host := "") (Or.inl (hw _ (List.mem_of_getElem? (i := 11) rfl))) Via.refl e0 w_lowest (g := (mkF m 1 #[.val (.ref a1)] [(.ref a1)])) rfl rfl (hb hby d9_1)
  have pre2 : ∀ t, Steps p.tables e below (T2.setTop (mkF m 4 #[.val (.ref a1)] [(.long lw)])) t → Steps p.tables e below (s₁.setTop (entryFrame m #[(.ref a1)] 1)) t := fun t k => pre1 t (st2 _ k)
  obtain ⟨fs, hr, hrun, hended, hW, hsame⟩ := X2.leave (v := some (.long lw)) (fun h => by rw [Bd.returns] at h; cases h)
  refine ⟨_, _, pre2 _ ?_, hrun, hended, _, _, rfl, ?_, ⟨_, rfl⟩, hW, hsame.mono (by decide) (by decide)⟩
  · show Steps p.tables e below (T2.setTop (mkF m 4 #[.val (.ref a1)] [(.long lw)])) _
    exact own_retJ X2 hx Bd.returns (hb hby d9_4) hr
  · show Qlo Z a1 bm bs bl m0 m1 lw s0 s1 l0 l1 oo h0 n0 _ T2.heap _
    rw [e2]
    have hfn : fnlo m0 m1 lw = (lw, m0, m1, lw) := by
      simp only [fnlo]
    unfold Qlo
    rw [hfn]
    exact ⟨rfl, N0, ⟨w_e, w_lowest, w_marks, w_states, w_live, w_open, w_am, w_as, w_al, w_ga, w_gm, w_gs, w_gl, w_1, w_2, w_3, w_4, w_5, w_6⟩⟩
/-! body 10: open -/
theorem d10_0 : decode prog_183_method_3_code 0 = .ok (.aload_n 0, 1) := by decide +kernel
theorem d10_1 : decode prog_183_method_3_code 1 = .ok (.getfield 35, 3) := by decide +kernel
theorem d10_4 : decode prog_183_method_3_code 4 = .ok (.ireturn, 1) := by decide +kernel
theorem pnop : plainName "sluice/stream/Watermarks" = true := by first | (simp [plainName, overriddenIn]; done) | decide +kernel
theorem efop (m : MethodId) (a1 : Addr) : entryFrame m #[(.ref a1)] 1 = mkF m 0 #[.val (.ref a1)] [] := by first | (simp [entryFrame, mkF, argsToLocals, Value.category]; done) | rfl
def fnop (m0 m1 lw : Int64) : Int32 × Int64 × Int64 × Int64 :=
  ((2 : Int32), m0, m1, lw)
def Qop (Z : State) (a1 : Addr) (bm bs bl : Addr) (m0 m1 lw : Int64) (s0 s1 l0 l1 : Int32) (h0 : Heap) (n0 : Nat) (v : Option Value) (h : Heap) (L : List Loc) : Prop := v = some (.int (fnop m0 m1 lw).1) ∧ Fr n0 L ∧ own_W Z h n0 a1 bm bs bl (fnop m0 m1 lw).2.1 (fnop m0 m1 lw).2.2.1 (fnop m0 m1 lw).2.2.2 s0 s1 l0 l1 (2 : Int32)
set_option maxRecDepth 65536 in
set_option maxHeartbeats 40000000 in
theorem rmop (l : Launch) (Z : State) (a0 : Array Value) (hw : ∀ d ∈ tables_1, d.before a0 Z = true) (ws : List Jvm.Cond) (a1 : Addr) (bm bs bl : Addr) (m0 m1 lw : Int64) (s0 s1 l0 l1 : Int32) (h0 : Heap) (n0 : Nat) (Z0 : n0 ≤ h0.size) (I0 : own_W Z h0 n0 a1 bm bs bl m0 m1 lw s0 s1 l0 l1 (2 : Int32)) :
    MetFree l (⟨"sluice/stream/Watermarks", "open", "()I"⟩ : MethodName) (head1 (Jvm.Cond.code (⟨"sluice/stream/Watermarks", "open", "()I"⟩ : MethodName) prog_183_method_3_code 1 (some .int) :: ws) ({ frames := 0, cells := 0, slots := 0, locals := 0 } : Room)) (fun a U => a = #[(.ref a1)] ∧ Z.Warmed39 U.vm ∧ U.heap = h0) (fun _ _ _ _ _ => True) (fun _ U o U' => ∃ v L, o = .returned v ∧ Qop Z a1 bm bs bl m0 m1 lw s0 s1 l0 l1 h0 n0 v U'.heap L ∧ FrameEnd U o U' L ({ frames := 0, cells := 0, slots := 0, locals := 0 } : Room).cells ({ frames := 0, cells := 0, slots := 0, locals := 0 } : Room).slots) := by
  refine MetFree.of_bodySF (plainFor_of_name pnop) hisR ?_
  intro p e s m args below meth c s₁ Bd hml0 hP hK
  obtain ⟨rfl, hZ, hh⟩ := hP
  have hx := Bd.exec
  have hby := Bd.bytes
  have hml : c.maxLocals = 1 := hml0
  have hown : s.vm.findClass "sluice/stream/Watermarks" = some m.cls := findClass_of_methodNamed Bd.named
  have hnm := (name_of_methodNamed Bd.named Bd.method).1
  have X0 : Stand p l e ({ frames := 0, cells := 0, slots := 0, locals := 0 } : Room) s m #[(.ref a1)] below meth c s₁ [] 0 0 := Stand.of_body Bd
  have e0 : s₁.heap = h0 := by rw [← hh, Bd.state]; rfl
  have N0 := Fr.nil n0
  have pre0 : ∀ t, Steps p.tables e below (s₁.setTop (mkF m 0 #[.val (.ref a1)] [])) t → Steps p.tables e below (s₁.setTop (entryFrame m #[(.ref a1)] 1)) t := fun t k => castTop (efop m a1) k
  obtain ⟨w_e, w_lowest, w_marks, w_states, w_live, w_open, w_am, w_as, w_al, w_ga, w_gm, w_gs, w_gl, w_1, w_2, w_3, w_4, w_5, w_6⟩ := I0
  have pre1 : ∀ t, Steps p.tables e below (s₁.setTop (mkF m 1 #[.val (.ref a1)] [(.ref a1)])) t → Steps p.tables e below (s₁.setTop (entryFrame m #[(.ref a1)] 1)) t := by
    intro t k
    refine pre0 t ?_
    show Steps p.tables e below (s₁.setTop (mkF m 0 #[.val (.ref a1)] [])) _
    refine XS.aloadN X0.here hx rfl (hb hby d10_0) rfl rfl ?_
    show Steps p.tables e below (s₁.setTop (mkF m 1 #[.val (.ref a1)] [(.ref a1)])) _
    exact k
  obtain ⟨T2, X2, e2, st2⟩ := getF X0 hx hZ hown (host := "") (Or.inl (hw _ (List.mem_of_getElem? (i := 26) rfl))) Via.refl e0 w_open (g := (mkF m 1 #[.val (.ref a1)] [(.ref a1)])) rfl rfl (hb hby d10_1)
  have pre2 : ∀ t, Steps p.tables e below (T2.setTop (mkF m 4 #[.val (.ref a1)] [(.int (2 : Int32))])) t → Steps p.tables e below (s₁.setTop (entryFrame m #[(.ref a1)] 1)) t := fun t k => pre1 t (st2 _ k)
  obtain ⟨fs, hr, hrun, hended, hW, hsame⟩ := X2.leave (v := some (.int (2 : Int32))) (fun h => by rw [Bd.returns] at h; cases h)
  refine ⟨_, _, pre2 _ ?_, hrun, hended, _, _, rfl, ?_, ⟨_, rfl⟩, hW, hsame.mono (by decide) (by decide)⟩
  · show Steps p.tables e below (T2.setTop (mkF m 4 #[.val (.ref a1)] [(.int (2 : Int32))])) _
    exact own_retI X2 hx Bd.returns (hb hby d10_4) hr
  · show Qop Z a1 bm bs bl m0 m1 lw s0 s1 l0 l1 h0 n0 _ T2.heap _
    rw [e2]
    have hfn : fnop m0 m1 lw = ((2 : Int32), m0, m1, lw) := by
      simp only [fnop]
    unfold Qop
    rw [hfn]
    exact ⟨rfl, N0, ⟨w_e, w_lowest, w_marks, w_states, w_live, w_open, w_am, w_as, w_al, w_ga, w_gm, w_gs, w_gl, w_1, w_2, w_3, w_4, w_5, w_6⟩⟩
/-! body 0: law -/
theorem pd0_0 : parseMethodDescriptor "(I)V" = some ⟨[.int], none⟩ := by decide +kernel
theorem pd0_1 : parseMethodDescriptor "(IJ)Z" = some ⟨[.int, .long], some .boolean⟩ := by decide +kernel
theorem pd0_2 : parseMethodDescriptor "(I)Z" = some ⟨[.int], some .boolean⟩ := by decide +kernel
theorem pd0_3 : parseMethodDescriptor "()J" = some ⟨[], some .long⟩ := by decide +kernel
theorem pd0_4 : parseMethodDescriptor "()I" = some ⟨[], some .int⟩ := by decide +kernel
theorem pd0_5 : parseMethodDescriptor "(JJ)J" = some ⟨[.long, .long], some .long⟩ := by decide +kernel
theorem pn0 : plainName "sluice/stream/WatermarksReopenPinLaw" = true := by first | (simp [plainName, overriddenIn]; done) | decide +kernel
theorem ef0 (m : MethodId) (q1 : Int64) (q2 : Int64) (q3 : Int64) (p4 : Int32) : entryFrame m #[(.long q1), (.long q2), (.long q3), (.int p4)] maxLocals = mkF m 0 #[.val (.long q1), .second, .val (.long q2), .second, .val (.long q3), .second, .val (.int p4), .unset, .unset, .unset, .unset, .unset, .unset, .unset, .unset, .unset] [] := by first | (simp [entryFrame, mkF, argsToLocals, Value.category, maxLocals]; done) | rfl
/-! the plain law -/
theorem own_min (x y : Int64) : (fn6 x y).toInt = min x.toInt y.toInt := by
  by_cases h : y < x
  · have : fn6 x y = y := if_pos h
    rw [this]; rw [Int64.lt_iff_toInt_lt] at h; omega
  · have : fn6 x y = x := if_neg h
    rw [this]; rw [Int64.lt_iff_toInt_lt] at h; omega
theorem own_max (x y : Int64) : (fn11 x y).toInt = max x.toInt y.toInt := by
  by_cases h : x < y
  · have : fn11 x y = y := if_pos h
    rw [this]; rw [Int64.lt_iff_toInt_lt] at h; omega
  · have : fn11 x y = x := if_neg h
    rw [this]; rw [Int64.lt_iff_toInt_lt] at h; omega
theorem own_MX : (9223372036854775807 : Int64).toInt = 9223372036854775807 := by decide
theorem own_MN : (-9223372036854775808 : Int64).toInt = -9223372036854775808 := by decide
theorem own_up (lw v : Int64) : (if lw < v then v else lw).toInt = max lw.toInt v.toInt := by
  split
  · rename_i h; rw [Int64.lt_iff_toInt_lt] at h; omega
  · rename_i h; rw [Int64.lt_iff_toInt_lt] at h; omega
def own_st (r : Int32) (m0 m1 lw v : Int64) : Int32 × Int64 × Int64 × Int64 := if lw < v then ((nar .boolean (1 : Int32)), m0, m1, v) else ((nar .boolean (0 : Int32)), m0, m1, lw)
theorem own_st_p (r : Int32) (m0 m1 lw v : Int64) : (own_st r m0 m1 lw v).2.1 = m0 ∧ (own_st r m0 m1 lw v).2.2.1 = m1 ∧ (own_st r m0 m1 lw v).2.2.2.toInt = max lw.toInt v.toInt := by
  have h := own_up lw v
  by_cases q : lw < v
  · have e : own_st r m0 m1 lw v = ((nar .boolean (1 : Int32)), m0, m1, v) := if_pos q
    rw [if_pos q] at h
    rw [e]; exact ⟨rfl, rfl, h⟩
  · have e : own_st r m0 m1 lw v = ((nar .boolean (0 : Int32)), m0, m1, lw) := if_neg q
    rw [if_neg q] at h
    rw [e]; exact ⟨rfl, rfl, h⟩
theorem own_rA (m0 m1 lw : Int64) : (fnrA m0 m1 lw).2.1 = m0 ∧ (fnrA m0 m1 lw).2.2.1 = m1 ∧ (fnrA m0 m1 lw).2.2.2.toInt = max lw.toInt (min m0.toInt m1.toInt) := by
  have h := own_st_p 0 m0 m1 lw (fn6 (fn6 (9223372036854775807 : Int64) m0) m1)
  rw [own_min, own_min, own_MX] at h
  have := m0.toInt_lt
  refine ⟨h.1, h.2.1, h.2.2.trans (by omega)⟩
theorem own_rB (m0 m1 lw : Int64) : (fnrB m0 m1 lw).2.1 = m0 ∧ (fnrB m0 m1 lw).2.2.1 = m1 ∧ (fnrB m0 m1 lw).2.2.2.toInt = max lw.toInt m1.toInt := by
  have h := own_st_p 0 m0 m1 lw (fn6 (9223372036854775807 : Int64) m1)
  rw [own_min, own_MX] at h
  have := m1.toInt_lt
  refine ⟨h.1, h.2.1, h.2.2.trans (by omega)⟩
theorem own_rC (m0 m1 lw : Int64) : (fnrC m0 m1 lw).2.1 = m0 ∧ (fnrC m0 m1 lw).2.2.1 = m1 ∧ (fnrC m0 m1 lw).2.2.2.toInt = max lw.toInt m1.toInt := by
  have h := own_st_p 0 m0 m1 lw (fn6 (9223372036854775807 : Int64) m1)
  rw [own_min, own_MX] at h
  have := m1.toInt_lt
  refine ⟨h.1, h.2.1, h.2.2.trans (by omega)⟩
theorem own_rD (m0 m1 lw : Int64) : (fnrD m0 m1 lw).2.1 = m0 ∧ (fnrD m0 m1 lw).2.2.1 = m1 ∧ (fnrD m0 m1 lw).2.2.2.toInt = max lw.toInt m0.toInt := by
  have h := own_st_p 0 m0 m1 lw (fn6 (9223372036854775807 : Int64) m0)
  rw [own_min, own_MX] at h
  have := m0.toInt_lt
  refine ⟨h.1, h.2.1, h.2.2.trans (by omega)⟩
theorem own_rE (m0 m1 lw : Int64) : (fnrE m0 m1 lw).2.1 = m0 ∧ (fnrE m0 m1 lw).2.2.1 = m1 ∧ (fnrE m0 m1 lw).2.2.2.toInt = max lw.toInt m0.toInt := by
  have h := own_st_p 0 m0 m1 lw (fn11 (-9223372036854775808 : Int64) m0)
  rw [own_max, own_MN] at h
  have := m0.le_toInt
  refine ⟨h.1, h.2.1, h.2.2.trans (by omega)⟩
theorem own_a0 (a m0 m1 lw : Int64) (h1 : ¬ lw < m0) : (fna0 a m0 m1 lw).2.1.toInt = max m0.toInt a.toInt ∧ (fna0 a m0 m1 lw).2.2.1 = m1 ∧ (m0 < a → (fna0 a m0 m1 lw).2.2.2.toInt = max lw.toInt (min a.toInt m1.toInt)) ∧ (¬ m0 < a → (fna0 a m0 m1 lw).2.2.2 = lw) := by
  by_cases h : m0 < a
  · have e : (fna0 a m0 m1 lw).2 = (fnrA a m1 lw).2 := by simp only [fna0, if_pos h, if_neg h1]
    rw [e]; have q := own_rA a m1 lw
    have h' := h
    rw [Int64.lt_iff_toInt_lt] at h'
    exact ⟨by rw [q.1]; omega, q.2.1, fun _ => q.2.2, fun z => absurd h z⟩
  · have e : (fna0 a m0 m1 lw).2 = (m0, m1, lw) := by simp only [fna0, if_neg h]
    rw [e]; have h' := h
    rw [Int64.lt_iff_toInt_lt] at h'
    exact ⟨by show m0.toInt = _; omega, rfl, fun z => absurd z h, fun _ => rfl⟩
theorem own_a1 (a m0 m1 lw : Int64) : (fna1 a m0 m1 lw).2.1 = m0 ∧ (fna1 a m0 m1 lw).2.2.1.toInt = max m1.toInt a.toInt ∧ (m1 < a → ¬ lw < m1 → (fna1 a m0 m1 lw).2.2.2.toInt = max lw.toInt (min m0.toInt a.toInt)) ∧ (m1 < a → lw < m1 → (fna1 a m0 m1 lw).2.2.2 = lw) ∧ (¬ m1 < a → (fna1 a m0 m1 lw).2.2.2 = lw) := by
  by_cases h : m1 < a
  · have h' := h
    rw [Int64.lt_iff_toInt_lt] at h'
    by_cases h1 : lw < m1
    · have e : (fna1 a m0 m1 lw).2 = (m0, a, lw) := by simp only [fna1, if_pos h, if_pos h1]
      rw [e]
      exact ⟨rfl, by show a.toInt = _; omega, fun _ z => absurd h1 z, fun _ _ => rfl, fun z => absurd h z⟩
    · have e : (fna1 a m0 m1 lw).2 = (fnrA m0 a lw).2 := by simp only [fna1, if_pos h, if_neg h1]
      rw [e]; have q := own_rA m0 a lw
      exact ⟨q.1, by rw [q.2.1]; omega, fun _ _ => q.2.2, fun _ z => absurd z h1, fun z => absurd h z⟩
  · have h' := h
    rw [Int64.lt_iff_toInt_lt] at h'
    have e : (fna1 a m0 m1 lw).2 = (m0, m1, lw) := by simp only [fna1, if_neg h]
    rw [e]
    exact ⟨rfl, by show m1.toInt = _; omega, fun z => absurd z h, fun z => absurd z h, fun _ => rfl⟩
theorem own_a2 (a m0 m1 lw : Int64) (h1 : ¬ lw < m1) : (fna2 a m0 m1 lw).2.1 = m0 ∧ (fna2 a m0 m1 lw).2.2.1.toInt = max m1.toInt a.toInt ∧ (m1 < a → (fna2 a m0 m1 lw).2.2.2.toInt = max lw.toInt a.toInt) ∧ (¬ m1 < a → (fna2 a m0 m1 lw).2.2.2 = lw) := by
  by_cases h : m1 < a
  · have h' := h
    rw [Int64.lt_iff_toInt_lt] at h'
    have e : (fna2 a m0 m1 lw).2 = (fnrB m0 a lw).2 := by simp only [fna2, if_pos h, if_neg h1]
    rw [e]; have q := own_rB m0 a lw
    exact ⟨q.1, by rw [q.2.1]; omega, fun _ => q.2.2, fun z => absurd h z⟩
  · have h' := h
    rw [Int64.lt_iff_toInt_lt] at h'
    have e : (fna2 a m0 m1 lw).2 = (m0, m1, lw) := by simp only [fna2, if_neg h]
    rw [e]
    exact ⟨rfl, by show m1.toInt = _; omega, fun z => absurd z h, fun _ => rfl⟩
theorem own_m0 {v p : Int32} (h : v = ((p &&& (2147483647 : Int32)) % (3 : Int32))) (h1 : ¬ v = 1) (h2 : ¬ v = 2) : v = 0 := by
  have e3 : (3 : Int32).toInt = 3 := by decide
  have hm := Jvm.Kit.i32_mask p 2147483647 (k := 31) (by decide) (by decide)
  have hr : 0 ≤ v.toInt ∧ v.toInt ≤ 2 := by rw [h, Jvm.Kit.i32_rem_nonneg (by omega), e3]; omega
  have z0 : (0 : Int32).toInt = 0 := by decide
  have z1 : (1 : Int32).toInt = 1 := by decide
  have z2 : (2 : Int32).toInt = 2 := by decide
  rw [← Int32.toInt_inj] at *
  omega
theorem own_m1 {v : Int32} (h : v = 1) : ¬ v = 0 := by rw [h]; decide
theorem own_m2 {v : Int32} (h : v = 2) : ¬ v = 0 := by rw [h]; decide
section Modes
variable {a b c u v w : Int64} {x6 x8 x11 x18 x21 x30 : Int32 × Int64 × Int64 × Int64} {x15 x27 x33 : Int64 × Int64 × Int64 × Int64} {x13 : Int64 × Int64 × Int64} {r : Int32}
theorem own_x8p (h6 : x6 = fna0 a (-9223372036854775808 : Int64) (-9223372036854775808 : Int64) (-9223372036854775808 : Int64)) (h8 : x8 = fna1 b x6.2.1 x6.2.2.1 x6.2.2.2) : x8.2.1 = a ∧ x8.2.2.1 = b ∧ x8.2.2.2.toInt = min a.toInt b.toInt := by
  have ha := a.le_toInt
  have hb := b.le_toInt
  have q := own_a0 a (-9223372036854775808 : Int64) (-9223372036854775808 : Int64) (-9223372036854775808 : Int64) (by decide)
  rw [← h6] at q
  have e0 : x6.2.1 = a := Int64.toInt_inj.mp (q.1.trans (by rw [own_MN]; omega))
  have e1 : x6.2.2.1 = (-9223372036854775808 : Int64) := q.2.1
  have e2 : x6.2.2.2 = (-9223372036854775808 : Int64) := by
    by_cases h : (-9223372036854775808 : Int64) < a
    · exact Int64.toInt_inj.mp ((q.2.2.1 h).trans (by rw [own_MN]; omega))
    · exact q.2.2.2 h
  rw [e0, e1, e2] at h8
  have q2 := own_a1 b a (-9223372036854775808 : Int64) (-9223372036854775808 : Int64)
  rw [← h8] at q2
  refine ⟨q2.1, Int64.toInt_inj.mp (q2.2.1.trans (by rw [own_MN]; omega)), ?_⟩
  by_cases h : (-9223372036854775808 : Int64) < b
  · rw [q2.2.2.1 h (by decide), own_MN]; omega
  · rw [q2.2.2.2.2 h]
    rw [Int64.lt_iff_toInt_lt, own_MN] at h
    rw [own_MN]; omega
theorem own_lo (h : x15 = fnlo u v w) : x15.1 = w ∧ x15.2.1 = u ∧ x15.2.2.1 = v ∧ x15.2.2.2 = w := by rw [h]; exact ⟨rfl, rfl, rfl, rfl⟩
theorem own_op (h : x18 = fnop u v w) : x18.1 = 2 ∧ x18.2.1 = u ∧ x18.2.2.1 = v ∧ x18.2.2.2 = w := by rw [h]; exact ⟨rfl, rfl, rfl, rfl⟩
theorem own_p0 (h : x13 = fnp0 u v w) : x13.1 = u ∧ x13.2.1 = v ∧ x13.2.2 = w := by rw [h]; exact ⟨rfl, rfl, rfl⟩
theorem own_p1 (h : x13 = fnp1 u v w) : x13.1 = u ∧ x13.2.1 = v ∧ x13.2.2 = w := by rw [h]; exact ⟨rfl, rfl, rfl⟩
theorem own_p2 (h : x13 = fnp2 u v w) : x13.1 = u ∧ x13.2.1 = v ∧ x13.2.2 = w := by rw [h]; exact ⟨rfl, rfl, rfl⟩
theorem own_i0 (h : x11 = fni0 u v w) : x11.2.1 = u ∧ x11.2.2.1 = v ∧ x11.2.2.2.toInt = max w.toInt v.toInt := by rw [h]; exact own_rB u v w
theorem own_e0 (h : x11 = fne0 u v w) : x11.2.1 = u ∧ x11.2.2.1 = v ∧ x11.2.2.2.toInt = max w.toInt v.toInt := by rw [h]; exact own_rC u v w
theorem own_e1 (h : x30 = fne1 u v w) : x30.2.2.2.toInt = max w.toInt u.toInt := by rw [h]; exact (own_rD u v w).2.2
theorem own_e2 (h : x30 = fne2 u v w) : x30.2.2.2.toInt = max w.toInt u.toInt := by rw [h]; exact (own_rE u v w).2.2
theorem own_e3 (h : x30 = fne3 u v w) : x30.2.2.2.toInt = max w.toInt u.toInt := by rw [h]; exact (own_rD u v w).2.2
theorem own_ok {p : Prop} [Decidable p] (hr : r = (if p then (1 : Int32) else (0 : Int32))) (h : p) : ¬ r = 0 := by rw [hr, if_pos h]; decide
theorem own_one {p : Prop} [Decidable p] (hr : r = (if p then (1 : Int32) else (0 : Int32))) (h : p) : r = 1 := by rw [hr, if_pos h]
/-- the start of each mode: what stands behind reopen -/
theorem own_y1 (X : x8.2.1 = a ∧ x8.2.2.1 = b ∧ x8.2.2.2.toInt = min a.toInt b.toInt) (h11 : x11 = fni0 x8.2.1 x8.2.2.1 x8.2.2.2) (h13 : x13 = fnp1 x11.2.1 x11.2.2.1 x11.2.2.2) (h15 : x15 = fnlo x13.1 x13.2.1 x13.2.2) : x15.1 = b ∧ x15.2.1 = a ∧ x15.2.2.1 = b ∧ x15.2.2.2 = b := by
  have q := own_i0 h11; have p := own_p1 h13; have l := own_lo h15
  rw [p.1, p.2.1, p.2.2, q.1, q.2.1, X.1, X.2.1] at l
  have z : x11.2.2.2 = b := Int64.toInt_inj.mp (q.2.2.trans (by rw [X.2.2, X.2.1]; omega))
  rw [z] at l; exact l
theorem own_y2 (X : x8.2.1 = a ∧ x8.2.2.1 = b ∧ x8.2.2.2.toInt = min a.toInt b.toInt) (h11 : x11 = fne0 x8.2.1 x8.2.2.1 x8.2.2.2) (h13 : x13 = fnp2 x11.2.1 x11.2.2.1 x11.2.2.2) (h15 : x15 = fnlo x13.1 x13.2.1 x13.2.2) : x15.1 = b ∧ x15.2.1 = a ∧ x15.2.2.1 = b ∧ x15.2.2.2 = b := by
  have q := own_e0 h11; have p := own_p2 h13; have l := own_lo h15
  rw [p.1, p.2.1, p.2.2, q.1, q.2.1, X.1, X.2.1] at l
  have z : x11.2.2.2 = b := Int64.toInt_inj.mp (q.2.2.trans (by rw [X.2.2, X.2.1]; omega))
  rw [z] at l; exact l
theorem own_y0 (X : x8.2.1 = a ∧ x8.2.2.1 = b ∧ x8.2.2.2.toInt = min a.toInt b.toInt) (hv : v = fn6 a b) (h13 : x13 = fnp0 x8.2.1 x8.2.2.1 x8.2.2.2) (h15 : x15 = fnlo x13.1 x13.2.1 x13.2.2) : x15.1 = v ∧ x15.2.1 = a ∧ x15.2.2.1 = b ∧ x15.2.2.2 = v := by
  have p := own_p0 h13; have l := own_lo h15
  rw [p.1, p.2.1, p.2.2, X.1, X.2.1] at l
  have z : x8.2.2.2 = v := Int64.toInt_inj.mp (X.2.2.trans (by rw [hv, own_min]))
  rw [z] at l; exact l
/-- behind open() and raise(1, c) -/
theorem own_z1 (Y : x15.1 = b ∧ x15.2.1 = a ∧ x15.2.2.1 = b ∧ x15.2.2.2 = b) (h18 : x18 = fnop x15.2.1 x15.2.2.1 x15.2.2.2) (h21 : x21 = fna2 c x18.2.1 x18.2.2.1 x18.2.2.2) (hv : v = fn11 b c) (h27 : x27 = fnlo x21.2.1 x21.2.2.1 x21.2.2.2) : x27.1 = v ∧ x27.2.1 = a ∧ x27.2.2.2 = v := by
  have o := own_op h18; have l := own_lo h27
  rw [o.2.1, o.2.2.1, o.2.2.2, Y.2.1, Y.2.2.1, Y.2.2.2] at h21
  have q := own_a2 c a b b (by rw [Int64.lt_iff_toInt_lt]; omega)
  rw [← h21] at q
  have z : x21.2.2.2 = v := by
    refine Int64.toInt_inj.mp ?_
    rw [hv, own_max]
    by_cases h : b < c
    · exact q.2.2.1 h
    · rw [q.2.2.2 h]; rw [Int64.lt_iff_toInt_lt] at h; omega
  rw [z, q.1] at l
  exact ⟨l.1, l.2.1, l.2.2.2⟩
theorem own_z2 (Y : x15.1 = b ∧ x15.2.1 = a ∧ x15.2.2.1 = b ∧ x15.2.2.2 = b) (h18 : x18 = fnop x15.2.1 x15.2.2.1 x15.2.2.2) (h21 : x21 = fna1 c x18.2.1 x18.2.2.1 x18.2.2.2) (hv : v = fn11 b c) (hw : w = fn11 b (fn6 a v)) (h27 : x27 = fnlo x21.2.1 x21.2.2.1 x21.2.2.2) : x27.1 = w ∧ x27.2.1 = a ∧ x27.2.2.2 = w := by
  have o := own_op h18; have l := own_lo h27
  rw [o.2.1, o.2.2.1, o.2.2.2, Y.2.1, Y.2.2.1, Y.2.2.2] at h21
  have q := own_a1 c a b b
  rw [← h21] at q
  have z : x21.2.2.2 = w := by
    refine Int64.toInt_inj.mp ?_
    rw [hw, hv, own_max, own_min, own_max]
    by_cases h : b < c
    · rw [q.2.2.1 h (by rw [Int64.lt_iff_toInt_lt]; omega)]; rw [Int64.lt_iff_toInt_lt] at h; omega
    · rw [q.2.2.2.2 h]; rw [Int64.lt_iff_toInt_lt] at h; omega
  rw [z, q.1] at l
  exact ⟨l.1, l.2.1, l.2.2.2⟩
theorem own_z0 (hu : u = fn6 a b) (Y : x15.1 = u ∧ x15.2.1 = a ∧ x15.2.2.1 = b ∧ x15.2.2.2 = u) (h18 : x18 = fnop x15.2.1 x15.2.2.1 x15.2.2.2) (h21 : x21 = fna1 c x18.2.1 x18.2.2.1 x18.2.2.2) (hv : v = fn11 b c) (hw : w = fn6 a v) (h27 : x27 = fnlo x21.2.1 x21.2.2.1 x21.2.2.2) : x27.1 = w ∧ x27.2.1 = a ∧ x27.2.2.2 = w := by
  have o := own_op h18; have l := own_lo h27
  rw [o.2.1, o.2.2.1, o.2.2.2, Y.2.1, Y.2.2.1, Y.2.2.2] at h21
  have q := own_a1 c a b u
  rw [← h21] at q
  have m := own_min a b
  rw [← hu] at m
  have z : x21.2.2.2 = w := by
    refine Int64.toInt_inj.mp ?_
    rw [hw, hv, own_min, own_max]
    by_cases h : b < c
    · by_cases h2 : u < b
      · rw [q.2.2.2.1 h h2, m]; rw [Int64.lt_iff_toInt_lt] at h h2; omega
      · rw [q.2.2.1 h h2, m]; rw [Int64.lt_iff_toInt_lt] at h h2; omega
    · rw [q.2.2.2.2 h, m]; rw [Int64.lt_iff_toInt_lt] at h; omega
  rw [z, q.1] at l
  exact ⟨l.1, l.2.1, l.2.2.2⟩
/-- behind end(1) -/
theorem own_f (Y : x27.1 = w ∧ x27.2.1 = a ∧ x27.2.2.2 = w) (E : x30.2.2.2.toInt = max x27.2.2.2.toInt x27.2.1.toInt) (h33 : x33 = fnlo x30.2.1 x30.2.2.1 x30.2.2.2) : x33.1 = fn11 w a := by
  rw [(own_lo h33).1]
  refine Int64.toInt_inj.mp (E.trans ?_)
  rw [Y.2.1, Y.2.2, own_max]
end Modes
def Q0 (Z : State) (q1 : Int64) (q2 : Int64) (q3 : Int64) (p4 : Int32) (h0 : Heap) (n0 : Nat) (v : Option Value) (h : Heap) (L : List Loc) : Prop := v = some (.int 1) ∧ Fr n0 L
set_option maxRecDepth 65536 in
set_option maxHeartbeats 40000000 in
theorem rm0 (l : Launch) (Z : State) (a0 : Array Value) (hw : ∀ d ∈ tables_1, d.before a0 Z = true) (ws : List Jvm.Cond) (q1 : Int64) (q2 : Int64) (q3 : Int64) (p4 : Int32) (h0 : Heap) (n0 : Nat) (Z0 : n0 ≤ h0.size) :
    MetFree l x (head1 (Jvm.Cond.code x code maxLocals ret :: ws) room_1) (fun a U => a = #[(.long q1), (.long q2), (.long q3), (.int p4)] ∧ Z.Warmed39 U.vm ∧ U.heap = h0) (fun _ _ _ _ _ => True) (fun _ U o U' => ∃ v L, o = .returned v ∧ Q0 Z q1 q2 q3 p4 h0 n0 v U'.heap L ∧ FrameEnd U o U' L room_1.cells room_1.slots) := by
  refine MetFree.of_bodySF (plainFor_of_name pn0) hisR ?_
  intro p e s m args below meth c s₁ Bd hml0 hP hK
  obtain ⟨rfl, hZ, hh⟩ := hP
  have hx := Bd.exec
  have hby := Bd.bytes
  have hml : c.maxLocals = 16 := hml0
  have hown : s.vm.findClass "sluice/stream/WatermarksReopenPinLaw" = some m.cls := findClass_of_methodNamed Bd.named
  have hnm := (name_of_methodNamed Bd.named Bd.method).1
  have X0 : Stand p l e room_1 s m #[(.long q1), (.long q2), (.long q3), (.int p4)] below meth c s₁ [] 0 0 := Stand.of_body Bd
  have e0 : s₁.heap = h0 := by rw [← hh, Bd.state]; rfl
  have N0 := Fr.nil n0
  have pre0 : ∀ t, Steps p.tables e below (s₁.setTop (mkF m 0 #[.val (.long q1), .second, .val (.long q2), .second, .val (.long q3), .second, .val (.int p4), .unset, .unset, .unset, .unset, .unset, .unset, .unset, .unset, .unset] [])) t → Steps p.tables e below (s₁.setTop (entryFrame m #[(.long q1), (.long q2), (.long q3), (.int p4)] maxLocals)) t := fun t k => castTop (ef0 m q1 q2 q3 p4) k
  obtain ⟨v7, hv7⟩ : ∃ z : Int32, z = ((p4 &&& (2147483647 : Int32)) % (3 : Int32)) := ⟨_, rfl⟩
  have pre1 : ∀ t, Steps p.tables e below (s₁.setTop (mkF m 9 #[.val (.long q1), .second, .val (.long q2), .second, .val (.long q3), .second, .val (.int p4), .val (.int v7), .unset, .unset, .unset, .unset, .unset, .unset, .unset, .unset] [])) t → Steps p.tables e below (s₁.setTop (entryFrame m #[(.long q1), (.long q2), (.long q3), (.int p4)] maxLocals)) t := by
    intro t k
    subst hv7
    refine pre0 t ?_
    show Steps p.tables e below (s₁.setTop (mkF m 0 #[.val (.long q1), .second, .val (.long q2), .second, .val (.long q3), .second, .val (.int p4), .unset, .unset, .unset, .unset, .unset, .unset, .unset, .unset, .unset] [])) _
    refine XS.iload X0.here hx rfl (hb hby at_0) rfl ?_
    show Steps p.tables e below (s₁.setTop (mkF m 2 #[.val (.long q1), .second, .val (.long q2), .second, .val (.long q3), .second, .val (.int p4), .unset, .unset, .unset, .unset, .unset, .unset, .unset, .unset, .unset] [(.int p4)])) _
    refine X0.ldcInt hx hown (mvT hZ (hw _ (List.mem_of_getElem? (i := 0) rfl))) (g := (mkF m 2 #[.val (.long q1), .second, .val (.long q2), .second, .val (.long q3), .second, .val (.int p4), .unset, .unset, .unset, .unset, .unset, .unset, .unset, .unset, .unset] [(.int p4)])) rfl (hb hby at_2) _ ?_
    show Steps p.tables e below (s₁.setTop (mkF m 4 #[.val (.long q1), .second, .val (.long q2), .second, .val (.long q3), .second, .val (.int p4), .unset, .unset, .unset, .unset, .unset, .unset, .unset, .unset, .unset] [(.int (2147483647 : Int32)), (.int p4)])) _
    refine XS.iand X0.here hx rfl (hb hby at_4) rfl ?_
    show Steps p.tables e below (s₁.setTop (mkF m 5 #[.val (.long q1), .second, .val (.long q2), .second, .val (.long q3), .second, .val (.int p4), .unset, .unset, .unset, .unset, .unset, .unset, .unset, .unset, .unset] [(.int (p4 &&& (2147483647 : Int32)))])) _
    refine XS.iconst X0.here hx rfl (hb hby at_5) ?_
    show Steps p.tables e below (s₁.setTop (mkF m 6 #[.val (.long q1), .second, .val (.long q2), .second, .val (.long q3), .second, .val (.int p4), .unset, .unset, .unset, .unset, .unset, .unset, .unset, .unset, .unset] [(.int (3 : Int32)), (.int (p4 &&& (2147483647 : Int32)))])) _
    refine iremM X0 hx rfl (hb hby at_6) rfl (by decide) ?_
    show Steps p.tables e below (s₁.setTop (mkF m 7 #[.val (.long q1), .second, .val (.long q2), .second, .val (.long q3), .second, .val (.int p4), .unset, .unset, .unset, .unset, .unset, .unset, .unset, .unset, .unset] [(.int ((p4 &&& (2147483647 : Int32)) % (3 : Int32)))])) _
    refine XS.istore X0.here hx rfl (hb hby at_7) rfl (l' := #[.val (.long q1), .second, .val (.long q2), .second, .val (.long q3), .second, .val (.int p4), .val (.int ((p4 &&& (2147483647 : Int32)) % (3 : Int32))), .unset, .unset, .unset, .unset, .unset, .unset, .unset, .unset]) rfl ?_
    show Steps p.tables e below (s₁.setTop (mkF m 9 #[.val (.long q1), .second, .val (.long q2), .second, .val (.long q3), .second, .val (.int p4), .val (.int ((p4 &&& (2147483647 : Int32)) % (3 : Int32))), .unset, .unset, .unset, .unset, .unset, .unset, .unset, .unset] [])) _
    exact k
  obtain ⟨T2, h2, X2, e2, E2, A2, D2, -, st2⟩ := newO X0 hx hZ hown (hw _ (List.mem_of_getElem? (i := 1) rfl)) (hw _ (List.mem_of_getElem? (i := 2) rfl)) (hw _ (List.mem_of_getElem? (i := 3) rfl)) e0 (g := (mkF m 9 #[.val (.long q1), .second, .val (.long q2), .second, .val (.long q3), .second, .val (.int p4), .val (.int v7), .unset, .unset, .unset, .unset, .unset, .unset, .unset, .unset] [])) rfl (hb hby at_9) (by decide) (by decide)
  obtain ⟨b2, g2⟩ : ∃ z, z = h0.size := ⟨_, rfl⟩
  rw [← g2] at A2 D2 st2
  have gg2 : n0 ≤ b2 := Nat.le_trans Z0 (Nat.le_of_eq g2.symm)
  have Z2 : n0 ≤ h2.size := Nat.le_trans Z0 E2.1
  have F2_lowest : Fld Z h2 b2 "sluice/stream/Watermarks" "lowest" "J" (.long (0 : Int64)) := D2 (Or.inl (hw _ (List.mem_of_getElem? (i := 12) rfl))) (ty := .long) (by decide)
  have F2_marks : Fld Z h2 b2 "sluice/stream/Watermarks" "marks" "[J" .null := D2 (Or.inl (hw _ (List.mem_of_getElem? (i := 15) rfl))) (ty := (.array .long)) (by decide)
  have F2_states : Fld Z h2 b2 "sluice/stream/Watermarks" "states" "[B" .null := D2 (Or.inl (hw _ (List.mem_of_getElem? (i := 18) rfl))) (ty := (.array .byte)) (by decide)
  have F2_live : Fld Z h2 b2 "sluice/stream/Watermarks" "live" "[I" .null := D2 (Or.inl (hw _ (List.mem_of_getElem? (i := 21) rfl))) (ty := (.array .int)) (by decide)
  have F2_open : Fld Z h2 b2 "sluice/stream/Watermarks" "open" "I" (.int (0 : Int32)) := D2 (Or.inl (hw _ (List.mem_of_getElem? (i := 27) rfl))) (ty := .int) (by decide)
  have pre2 : ∀ t, Steps p.tables e below (T2.setTop (mkF m 12 #[.val (.long q1), .second, .val (.long q2), .second, .val (.long q3), .second, .val (.int p4), .val (.int v7), .unset, .unset, .unset, .unset, .unset, .unset, .unset, .unset] [(.ref b2)])) t → Steps p.tables e below (s₁.setTop (entryFrame m #[(.long q1), (.long q2), (.long q3), (.int p4)] maxLocals)) t := fun t k => pre1 t (st2 _ k)
  have pre3 : ∀ t, Steps p.tables e below (T2.setTop (mkF m 14 #[.val (.long q1), .second, .val (.long q2), .second, .val (.long q3), .second, .val (.int p4), .val (.int v7), .unset, .unset, .unset, .unset, .unset, .unset, .unset, .unset] [(.int (2 : Int32)), (.ref b2), (.ref b2)])) t → Steps p.tables e below (s₁.setTop (entryFrame m #[(.long q1), (.long q2), (.long q3), (.int p4)] maxLocals)) t := by
    intro t k
    refine pre2 t ?_
    refine XS.dup X2.here hx rfl (hb hby at_12) rfl rfl ?_
    show Steps p.tables e below (T2.setTop (mkF m 13 #[.val (.long q1), .second, .val (.long q2), .second, .val (.long q3), .second, .val (.int p4), .val (.int v7), .unset, .unset, .unset, .unset, .unset, .unset, .unset, .unset] [(.ref b2), (.ref b2)])) _
    refine XS.iconst X2.here hx rfl (hb hby at_13) ?_
    show Steps p.tables e below (T2.setTop (mkF m 14 #[.val (.long q1), .second, .val (.long q2), .second, .val (.long q3), .second, .val (.int p4), .val (.int v7), .unset, .unset, .unset, .unset, .unset, .unset, .unset, .unset] [(.int (2 : Int32)), (.ref b2), (.ref b2)])) _
    exact k
  obtain ⟨_, _, ⟨T4, L4, k4, n4⟩, -, X4, ⟨Lc4, hQ4, l4, y4, z4⟩, st4⟩ := X2.specialBack hx (y := (⟨"sluice/stream/Watermarks", "<init>", "(I)V"⟩ : MethodName)) rfl hown (mvT hZ (hw _ (List.mem_of_getElem? (i := 4) rfl))) (mvT hZ (hw _ (List.mem_of_getElem? (i := 5) rfl))) (mvT hZ (hw _ (List.mem_of_getElem? (i := 6) rfl))) (by decide) (backOf (W := 1) (rm1 l Z a0 hw [] b2 h2 n0 Z2 A2 F2_lowest F2_marks F2_states F2_live F2_open gg2) hZ (hw _ (List.mem_of_getElem? (i := 6) rfl)) (hw _ (List.mem_of_getElem? (i := 3) rfl)) (by decide) (by decide)) (g := (mkF m 14 #[.val (.long q1), .second, .val (.long q2), .second, .val (.long q3), .second, .val (.int p4), .val (.int v7), .unset, .unset, .unset, .unset, .unset, .unset, .unset, .unset] [(.int (2 : Int32)), (.ref b2), (.ref b2)])) rfl (by rw [hml]; rfl) (Steps.refl _) (a := b2) (argsL := [(.int (2 : Int32))]) (rest := [(.ref b2)]) (lenOf pd0_0 rfl) rfl (by show 2 * 0 + _ ≤ _; exact Nat.le_of_eq rfl) (hb hby at_14) (fun _ _ => ⟨rfl, e2, (by decide : 1 + 3 ≤ _), (by decide : 5 + 6 ≤ _)⟩)
  dsimp only [Pt.U, Pt.locs, Pt.cells, Pt.slots] at X4 l4 y4 z4 st4 hQ4
  subst l4 y4 z4
  obtain ⟨bm4, bs4, bl4, rfl, Nq4, J4⟩ := hQ4
  obtain ⟨w4_e, w4_lowest, w4_marks, w4_states, w4_live, w4_open, w4_am, w4_as, w4_al, w4_ga, w4_gm, w4_gs, w4_gl, w4_1, w4_2, w4_3, w4_4, w4_5, w4_6⟩ := J4
  have Z4 : n0 ≤ T4.heap.size := Nat.le_of_lt (Nat.lt_of_le_of_lt w4_ga w4_e.lt)
  have N4 := Fr.app N0 Nq4
  have pre4 : ∀ t, Steps p.tables e below (T4.setTop (mkF m 17 #[.val (.long q1), .second, .val (.long q2), .second, .val (.long q3), .second, .val (.int p4), .val (.int v7), .unset, .unset, .unset, .unset, .unset, .unset, .unset, .unset] [(.ref b2)])) t → Steps p.tables e below (s₁.setTop (entryFrame m #[(.long q1), (.long q2), (.long q3), (.int p4)] maxLocals)) t := fun t k => pre3 t (st4.trans k)
  have pre5 : ∀ t, Steps p.tables e below (T4.setTop (mkF m 23 #[.val (.long q1), .second, .val (.long q2), .second, .val (.long q3), .second, .val (.int p4), .val (.int v7), .val (.ref b2), .unset, .unset, .unset, .unset, .unset, .unset, .unset] [(.long q1), (.int (0 : Int32)), (.ref b2)])) t → Steps p.tables e below (s₁.setTop (entryFrame m #[(.long q1), (.long q2), (.long q3), (.int p4)] maxLocals)) t := by
    intro t k
    refine pre4 t ?_
    refine XS.astore X4.here hx rfl (hb hby at_17) rfl rfl (l' := #[.val (.long q1), .second, .val (.long q2), .second, .val (.long q3), .second, .val (.int p4), .val (.int v7), .val (.ref b2), .unset, .unset, .unset, .unset, .unset, .unset, .unset]) rfl ?_
    show Steps p.tables e below (T4.setTop (mkF m 19 #[.val (.long q1), .second, .val (.long q2), .second, .val (.long q3), .second, .val (.int p4), .val (.int v7), .val (.ref b2), .unset, .unset, .unset, .unset, .unset, .unset, .unset] [])) _
    refine XS.aload X4.here hx rfl (hb hby at_19) rfl rfl ?_
    show Steps p.tables e below (T4.setTop (mkF m 21 #[.val (.long q1), .second, .val (.long q2), .second, .val (.long q3), .second, .val (.int p4), .val (.int v7), .val (.ref b2), .unset, .unset, .unset, .unset, .unset, .unset, .unset] [(.ref b2)])) _
    refine XS.iconst X4.here hx rfl (hb hby at_21) ?_
    show Steps p.tables e below (T4.setTop (mkF m 22 #[.val (.long q1), .second, .val (.long q2), .second, .val (.long q3), .second, .val (.int p4), .val (.int v7), .val (.ref b2), .unset, .unset, .unset, .unset, .unset, .unset, .unset] [(.int (0 : Int32)), (.ref b2)])) _
    refine XS.lloadN X4.here hx rfl (hb hby at_22) rfl ?_
    show Steps p.tables e below (T4.setTop (mkF m 23 #[.val (.long q1), .second, .val (.long q2), .second, .val (.long q3), .second, .val (.int p4), .val (.int v7), .val (.ref b2), .unset, .unset, .unset, .unset, .unset, .unset, .unset] [(.long q1), (.int (0 : Int32)), (.ref b2)])) _
    exact k
  obtain ⟨cq6, kq6, qa6, qb6, qc6⟩ := isOf hZ rfl w4_e
  obtain ⟨_, _, ⟨T6, L6, k6, n6⟩, -, X6, ⟨Lc6, hQ6, l6, y6, z6⟩, st6⟩ := X4.virtualBack hx (y := (⟨"sluice/stream/Watermarks", "raise", "(IJ)Z"⟩ : MethodName)) (z := (⟨"sluice/stream/Watermarks", "raise", "(IJ)Z"⟩ : MethodName)) hown (mvT hZ (hw _ (List.mem_of_getElem? (i := 28) rfl))) (mvT hZ (hw _ (List.mem_of_getElem? (i := 29) rfl))) (notFace_of_selects (args := #[]) (mvT hZ (hw _ (List.mem_of_getElem? (i := 31) rfl)))) (mvT hZ (hw _ (List.mem_of_getElem? (i := 31) rfl))) (mvT hZ (hw _ (List.mem_of_getElem? (i := 30) rfl))) (by decide) (backOf (W := 0) (rma0 l Z a0 hw [] b2 q1 bm4 bs4 bl4 (-9223372036854775808 : Int64) (-9223372036854775808 : Int64) (-9223372036854775808 : Int64) (0 : Int32) (1 : Int32) T4.heap n0 Z4 ⟨w4_e, w4_lowest, w4_marks, w4_states, w4_live, w4_open, w4_am, w4_as, w4_al, w4_ga, w4_gm, w4_gs, w4_gl, w4_1, w4_2, w4_3, w4_4, w4_5, w4_6⟩) hZ (hw _ (List.mem_of_getElem? (i := 32) rfl)) (hw _ (List.mem_of_getElem? (i := 3) rfl)) (by decide) (by decide)) qa6 qc6 (g := (mkF m 23 #[.val (.long q1), .second, .val (.long q2), .second, .val (.long q3), .second, .val (.int p4), .val (.int v7), .val (.ref b2), .unset, .unset, .unset, .unset, .unset, .unset, .unset] [(.long q1), (.int (0 : Int32)), (.ref b2)])) rfl (by rw [hml]; rfl) (Steps.refl _) (argsL := [(.int (0 : Int32)), (.long q1)]) (rest := []) (lenOf pd0_1 rfl) rfl (by show 2 * 0 + _ ≤ _; exact Nat.le_of_eq rfl) (hb hby at_23) (fun _ _ => ⟨rfl, rfl, (by decide : 4 + 0 ≤ _), (by decide : 11 + 0 ≤ _)⟩)
  dsimp only [Pt.U, Pt.locs, Pt.cells, Pt.slots] at X6 l6 y6 z6 st6 hQ6
  subst l6 y6 z6
  unfold Qa0 at hQ6
  obtain ⟨x6, hx6⟩ : ∃ z : Int32 × Int64 × Int64 × Int64, z = (fna0 q1 (-9223372036854775808 : Int64) (-9223372036854775808 : Int64) (-9223372036854775808 : Int64)) := ⟨_, rfl⟩
  rw [← hx6] at hQ6
  obtain ⟨rfl, Nq6, J6⟩ := hQ6
  obtain ⟨w6_e, w6_lowest, w6_marks, w6_states, w6_live, w6_open, w6_am, w6_as, w6_al, w6_ga, w6_gm, w6_gs, w6_gl, w6_1, w6_2, w6_3, w6_4, w6_5, w6_6⟩ := J6
  have Z6 : n0 ≤ T6.heap.size := Nat.le_of_lt (Nat.lt_of_le_of_lt w6_ga w6_e.lt)
  have N6 := Fr.app N4 Nq6
  have pre6 : ∀ t, Steps p.tables e below (T6.setTop (mkF m 26 #[.val (.long q1), .second, .val (.long q2), .second, .val (.long q3), .second, .val (.int p4), .val (.int v7), .val (.ref b2), .unset, .unset, .unset, .unset, .unset, .unset, .unset] [(.int x6.1)])) t → Steps p.tables e below (s₁.setTop (entryFrame m #[(.long q1), (.long q2), (.long q3), (.int p4)] maxLocals)) t := fun t k => pre5 t (st6.trans k)
  have pre7 : ∀ t, Steps p.tables e below (T6.setTop (mkF m 31 #[.val (.long q1), .second, .val (.long q2), .second, .val (.long q3), .second, .val (.int p4), .val (.int v7), .val (.ref b2), .unset, .unset, .unset, .unset, .unset, .unset, .unset] [(.long q2), (.int (1 : Int32)), (.ref b2)])) t → Steps p.tables e below (s₁.setTop (entryFrame m #[(.long q1), (.long q2), (.long q3), (.int p4)] maxLocals)) t := by
    intro t k
    refine pre6 t ?_
    refine XS.pop X6.here hx rfl (hb hby at_26) rfl rfl ?_
    show Steps p.tables e below (T6.setTop (mkF m 27 #[.val (.long q1), .second, .val (.long q2), .second, .val (.long q3), .second, .val (.int p4), .val (.int v7), .val (.ref b2), .unset, .unset, .unset, .unset, .unset, .unset, .unset] [])) _
    refine XS.aload X6.here hx rfl (hb hby at_27) rfl rfl ?_
    show Steps p.tables e below (T6.setTop (mkF m 29 #[.val (.long q1), .second, .val (.long q2), .second, .val (.long q3), .second, .val (.int p4), .val (.int v7), .val (.ref b2), .unset, .unset, .unset, .unset, .unset, .unset, .unset] [(.ref b2)])) _
    refine XS.iconst X6.here hx rfl (hb hby at_29) ?_
    show Steps p.tables e below (T6.setTop (mkF m 30 #[.val (.long q1), .second, .val (.long q2), .second, .val (.long q3), .second, .val (.int p4), .val (.int v7), .val (.ref b2), .unset, .unset, .unset, .unset, .unset, .unset, .unset] [(.int (1 : Int32)), (.ref b2)])) _
    refine XS.lloadN X6.here hx rfl (hb hby at_30) rfl ?_
    show Steps p.tables e below (T6.setTop (mkF m 31 #[.val (.long q1), .second, .val (.long q2), .second, .val (.long q3), .second, .val (.int p4), .val (.int v7), .val (.ref b2), .unset, .unset, .unset, .unset, .unset, .unset, .unset] [(.long q2), (.int (1 : Int32)), (.ref b2)])) _
    exact k
  obtain ⟨cq8, kq8, qa8, qb8, qc8⟩ := isOf hZ rfl w6_e
  obtain ⟨_, _, ⟨T8, L8, k8, n8⟩, -, X8, ⟨Lc8, hQ8, l8, y8, z8⟩, st8⟩ := X6.virtualBack hx (y := (⟨"sluice/stream/Watermarks", "raise", "(IJ)Z"⟩ : MethodName)) (z := (⟨"sluice/stream/Watermarks", "raise", "(IJ)Z"⟩ : MethodName)) hown (mvT hZ (hw _ (List.mem_of_getElem? (i := 28) rfl))) (mvT hZ (hw _ (List.mem_of_getElem? (i := 29) rfl))) (notFace_of_selects (args := #[]) (mvT hZ (hw _ (List.mem_of_getElem? (i := 31) rfl)))) (mvT hZ (hw _ (List.mem_of_getElem? (i := 31) rfl))) (mvT hZ (hw _ (List.mem_of_getElem? (i := 30) rfl))) (by decide) (backOf (W := 0) (rma1 l Z a0 hw [] b2 q2 bm4 bs4 bl4 x6.2.1 x6.2.2.1 x6.2.2.2 (0 : Int32) (1 : Int32) T6.heap n0 Z6 ⟨w6_e, w6_lowest, w6_marks, w6_states, w6_live, w6_open, w6_am, w6_as, w6_al, w6_ga, w6_gm, w6_gs, w6_gl, w6_1, w6_2, w6_3, w6_4, w6_5, w6_6⟩) hZ (hw _ (List.mem_of_getElem? (i := 32) rfl)) (hw _ (List.mem_of_getElem? (i := 3) rfl)) (by decide) (by decide)) qa8 qc8 (g := (mkF m 31 #[.val (.long q1), .second, .val (.long q2), .second, .val (.long q3), .second, .val (.int p4), .val (.int v7), .val (.ref b2), .unset, .unset, .unset, .unset, .unset, .unset, .unset] [(.long q2), (.int (1 : Int32)), (.ref b2)])) rfl (by rw [hml]; rfl) (Steps.refl _) (argsL := [(.int (1 : Int32)), (.long q2)]) (rest := []) (lenOf pd0_1 rfl) rfl (by show 2 * 0 + _ ≤ _; exact Nat.le_of_eq rfl) (hb hby at_31) (fun _ _ => ⟨rfl, rfl, (by decide : 4 + 0 ≤ _), (by decide : 11 + 0 ≤ _)⟩)
  dsimp only [Pt.U, Pt.locs, Pt.cells, Pt.slots] at X8 l8 y8 z8 st8 hQ8
  subst l8 y8 z8
  unfold Qa1 at hQ8
  obtain ⟨x8, hx8⟩ : ∃ z : Int32 × Int64 × Int64 × Int64, z = (fna1 q2 x6.2.1 x6.2.2.1 x6.2.2.2) := ⟨_, rfl⟩
  rw [← hx8] at hQ8
  obtain ⟨rfl, Nq8, J8⟩ := hQ8
  obtain ⟨w8_e, w8_lowest, w8_marks, w8_states, w8_live, w8_open, w8_am, w8_as, w8_al, w8_ga, w8_gm, w8_gs, w8_gl, w8_1, w8_2, w8_3, w8_4, w8_5, w8_6⟩ := J8
  have Z8 : n0 ≤ T8.heap.size := Nat.le_of_lt (Nat.lt_of_le_of_lt w8_ga w8_e.lt)
  have N8 := Fr.app N6 Nq8
  have pre8 : ∀ t, Steps p.tables e below (T8.setTop (mkF m 34 #[.val (.long q1), .second, .val (.long q2), .second, .val (.long q3), .second, .val (.int p4), .val (.int v7), .val (.ref b2), .unset, .unset, .unset, .unset, .unset, .unset, .unset] [(.int x8.1)])) t → Steps p.tables e below (s₁.setTop (entryFrame m #[(.long q1), (.long q2), (.long q3), (.int p4)] maxLocals)) t := fun t k => pre7 t (st8.trans k)
  have pre9 : ∀ t, Steps p.tables e below (T8.setTop (mkF m 38 #[.val (.long q1), .second, .val (.long q2), .second, .val (.long q3), .second, .val (.int p4), .val (.int v7), .val (.ref b2), .unset, .unset, .unset, .unset, .unset, .unset, .unset] [(.int (1 : Int32)), (.int v7)])) t → Steps p.tables e below (s₁.setTop (entryFrame m #[(.long q1), (.long q2), (.long q3), (.int p4)] maxLocals)) t := by
    intro t k
    refine pre8 t ?_
    refine XS.pop X8.here hx rfl (hb hby at_34) rfl rfl ?_
    show Steps p.tables e below (T8.setTop (mkF m 35 #[.val (.long q1), .second, .val (.long q2), .second, .val (.long q3), .second, .val (.int p4), .val (.int v7), .val (.ref b2), .unset, .unset, .unset, .unset, .unset, .unset, .unset] [])) _
    refine XS.iload X8.here hx rfl (hb hby at_35) rfl ?_
    show Steps p.tables e below (T8.setTop (mkF m 37 #[.val (.long q1), .second, .val (.long q2), .second, .val (.long q3), .second, .val (.int p4), .val (.int v7), .val (.ref b2), .unset, .unset, .unset, .unset, .unset, .unset, .unset] [(.int v7)])) _
    refine XS.iconst X8.here hx rfl (hb hby at_37) ?_
    show Steps p.tables e below (T8.setTop (mkF m 38 #[.val (.long q1), .second, .val (.long q2), .second, .val (.long q3), .second, .val (.int p4), .val (.int v7), .val (.ref b2), .unset, .unset, .unset, .unset, .unset, .unset, .unset] [(.int (1 : Int32)), (.int v7)])) _
    exact k
  by_cases hc38 : v7 = (1 : Int32)
  · have pre10 : ∀ t, Steps p.tables e below (T8.setTop (mkF m 44 #[.val (.long q1), .second, .val (.long q2), .second, .val (.long q3), .second, .val (.int p4), .val (.int v7), .val (.ref b2), .unset, .unset, .unset, .unset, .unset, .unset, .unset] [(.int (0 : Int32)), (.ref b2)])) t → Steps p.tables e below (s₁.setTop (entryFrame m #[(.long q1), (.long q2), (.long q3), (.int p4)] maxLocals)) t := by
      intro t k
      refine pre9 t ?_
      refine XS.icmpNo X8.here hx rfl (hb hby at_38) rfl (teq hc38).2 ?_
      show Steps p.tables e below (T8.setTop (mkF m 41 #[.val (.long q1), .second, .val (.long q2), .second, .val (.long q3), .second, .val (.int p4), .val (.int v7), .val (.ref b2), .unset, .unset, .unset, .unset, .unset, .unset, .unset] [])) _
      refine XS.aload X8.here hx rfl (hb hby at_41) rfl rfl ?_
      show Steps p.tables e below (T8.setTop (mkF m 43 #[.val (.long q1), .second, .val (.long q2), .second, .val (.long q3), .second, .val (.int p4), .val (.int v7), .val (.ref b2), .unset, .unset, .unset, .unset, .unset, .unset, .unset] [(.ref b2)])) _
      refine XS.iconst X8.here hx rfl (hb hby at_43) ?_
      show Steps p.tables e below (T8.setTop (mkF m 44 #[.val (.long q1), .second, .val (.long q2), .second, .val (.long q3), .second, .val (.int p4), .val (.int v7), .val (.ref b2), .unset, .unset, .unset, .unset, .unset, .unset, .unset] [(.int (0 : Int32)), (.ref b2)])) _
      exact k
    obtain ⟨cq11, kq11, qa11, qb11, qc11⟩ := isOf hZ rfl w8_e
    obtain ⟨_, _, ⟨T11, L11, k11, n11⟩, -, X11, ⟨Lc11, hQ11, l11, y11, z11⟩, st11⟩ := X8.virtualBack hx (y := (⟨"sluice/stream/Watermarks", "idle", "(I)Z"⟩ : MethodName)) (z := (⟨"sluice/stream/Watermarks", "idle", "(I)Z"⟩ : MethodName)) hown (mvT hZ (hw _ (List.mem_of_getElem? (i := 66) rfl))) (mvT hZ (hw _ (List.mem_of_getElem? (i := 67) rfl))) (notFace_of_selects (args := #[]) (mvT hZ (hw _ (List.mem_of_getElem? (i := 69) rfl)))) (mvT hZ (hw _ (List.mem_of_getElem? (i := 69) rfl))) (mvT hZ (hw _ (List.mem_of_getElem? (i := 68) rfl))) (by decide) (backOf (W := 0) (rmi0 l Z a0 hw [] b2 bm4 bs4 bl4 x8.2.1 x8.2.2.1 x8.2.2.2 (0 : Int32) (1 : Int32) T8.heap n0 Z8 ⟨w8_e, w8_lowest, w8_marks, w8_states, w8_live, w8_open, w8_am, w8_as, w8_al, w8_ga, w8_gm, w8_gs, w8_gl, w8_1, w8_2, w8_3, w8_4, w8_5, w8_6⟩) hZ (hw _ (List.mem_of_getElem? (i := 70) rfl)) (hw _ (List.mem_of_getElem? (i := 3) rfl)) (by decide) (by decide)) qa11 qc11 (g := (mkF m 44 #[.val (.long q1), .second, .val (.long q2), .second, .val (.long q3), .second, .val (.int p4), .val (.int v7), .val (.ref b2), .unset, .unset, .unset, .unset, .unset, .unset, .unset] [(.int (0 : Int32)), (.ref b2)])) rfl (by rw [hml]; rfl) (Steps.refl _) (argsL := [(.int (0 : Int32))]) (rest := []) (lenOf pd0_2 rfl) rfl (by show 2 * 0 + _ ≤ _; exact Nat.le_of_eq rfl) (hb hby at_44) (fun _ _ => ⟨rfl, rfl, (by decide : 4 + 0 ≤ _), (by decide : 11 + 0 ≤ _)⟩)
    dsimp only [Pt.U, Pt.locs, Pt.cells, Pt.slots] at X11 l11 y11 z11 st11 hQ11
    subst l11 y11 z11
    unfold Qi0 at hQ11
    obtain ⟨x11, hx11⟩ : ∃ z : Int32 × Int64 × Int64 × Int64, z = (fni0 x8.2.1 x8.2.2.1 x8.2.2.2) := ⟨_, rfl⟩
    rw [← hx11] at hQ11
    obtain ⟨rfl, Nq11, J11⟩ := hQ11
    obtain ⟨w11_e, w11_lowest, w11_marks, w11_states, w11_live, w11_open, w11_am, w11_as, w11_al, w11_ga, w11_gm, w11_gs, w11_gl, w11_1, w11_2, w11_3, w11_4, w11_5, w11_6⟩ := J11
    have Z11 : n0 ≤ T11.heap.size := Nat.le_of_lt (Nat.lt_of_le_of_lt w11_ga w11_e.lt)
    have N11 := Fr.app N8 Nq11
    have pre11 : ∀ t, Steps p.tables e below (T11.setTop (mkF m 47 #[.val (.long q1), .second, .val (.long q2), .second, .val (.long q3), .second, .val (.int p4), .val (.int v7), .val (.ref b2), .unset, .unset, .unset, .unset, .unset, .unset, .unset] [(.int x11.1)])) t → Steps p.tables e below (s₁.setTop (entryFrame m #[(.long q1), (.long q2), (.long q3), (.int p4)] maxLocals)) t := fun t k => pre10 t (st11.trans k)
    have pre12 : ∀ t, Steps p.tables e below (T11.setTop (mkF m 83 #[.val (.long q1), .second, .val (.long q2), .second, .val (.long q3), .second, .val (.int p4), .val (.int v7), .val (.ref b2), .val (.long q2), .second, .unset, .unset, .unset, .unset, .unset] [(.int (0 : Int32)), (.ref b2)])) t → Steps p.tables e below (s₁.setTop (entryFrame m #[(.long q1), (.long q2), (.long q3), (.int p4)] maxLocals)) t := by
      intro t k
      refine pre11 t ?_
      refine XS.pop X11.here hx rfl (hb hby at_47) rfl rfl ?_
      show Steps p.tables e below (T11.setTop (mkF m 48 #[.val (.long q1), .second, .val (.long q2), .second, .val (.long q3), .second, .val (.int p4), .val (.int v7), .val (.ref b2), .unset, .unset, .unset, .unset, .unset, .unset, .unset] [])) _
      refine XS.goto X11.here hx rfl (pc0 := 48) (pc' := 64) rfl (hb hby at_48) (by decide) (by decide) ?_
      show Steps p.tables e below (T11.setTop (mkF m 64 #[.val (.long q1), .second, .val (.long q2), .second, .val (.long q3), .second, .val (.int p4), .val (.int v7), .val (.ref b2), .unset, .unset, .unset, .unset, .unset, .unset, .unset] [])) _
      refine XS.iload X11.here hx rfl (hb hby at_64) rfl ?_
      show Steps p.tables e below (T11.setTop (mkF m 66 #[.val (.long q1), .second, .val (.long q2), .second, .val (.long q3), .second, .val (.int p4), .val (.int v7), .val (.ref b2), .unset, .unset, .unset, .unset, .unset, .unset, .unset] [(.int v7)])) _
      refine XS.ifYes X11.here hx rfl (pc0 := 66) (pc' := 77) rfl (hb hby at_66) rfl ((if0 _ _).trans (feq (own_m1 hc38)).2) (by decide) (by decide) ?_
      show Steps p.tables e below (T11.setTop (mkF m 77 #[.val (.long q1), .second, .val (.long q2), .second, .val (.long q3), .second, .val (.int p4), .val (.int v7), .val (.ref b2), .unset, .unset, .unset, .unset, .unset, .unset, .unset] [])) _
      refine XS.lloadN X11.here hx rfl (hb hby at_77) rfl ?_
      show Steps p.tables e below (T11.setTop (mkF m 78 #[.val (.long q1), .second, .val (.long q2), .second, .val (.long q3), .second, .val (.int p4), .val (.int v7), .val (.ref b2), .unset, .unset, .unset, .unset, .unset, .unset, .unset] [(.long q2)])) _
      refine XS.lstore X11.here hx rfl (hb hby at_78) rfl (l' := #[.val (.long q1), .second, .val (.long q2), .second, .val (.long q3), .second, .val (.int p4), .val (.int v7), .val (.ref b2), .val (.long q2), .second, .unset, .unset, .unset, .unset, .unset]) rfl ?_
      show Steps p.tables e below (T11.setTop (mkF m 80 #[.val (.long q1), .second, .val (.long q2), .second, .val (.long q3), .second, .val (.int p4), .val (.int v7), .val (.ref b2), .val (.long q2), .second, .unset, .unset, .unset, .unset, .unset] [])) _
      refine XS.aload X11.here hx rfl (hb hby at_80) rfl rfl ?_
      show Steps p.tables e below (T11.setTop (mkF m 82 #[.val (.long q1), .second, .val (.long q2), .second, .val (.long q3), .second, .val (.int p4), .val (.int v7), .val (.ref b2), .val (.long q2), .second, .unset, .unset, .unset, .unset, .unset] [(.ref b2)])) _
      refine XS.iconst X11.here hx rfl (hb hby at_82) ?_
      show Steps p.tables e below (T11.setTop (mkF m 83 #[.val (.long q1), .second, .val (.long q2), .second, .val (.long q3), .second, .val (.int p4), .val (.int v7), .val (.ref b2), .val (.long q2), .second, .unset, .unset, .unset, .unset, .unset] [(.int (0 : Int32)), (.ref b2)])) _
      exact k
    obtain ⟨cq13, kq13, qa13, qb13, qc13⟩ := isOf hZ rfl w11_e
    obtain ⟨_, _, ⟨T13, L13, k13, n13⟩, -, X13, ⟨Lc13, hQ13, l13, y13, z13⟩, st13⟩ := X11.virtualBack hx (y := (⟨"sluice/stream/Watermarks", "reopen", "(I)V"⟩ : MethodName)) (z := (⟨"sluice/stream/Watermarks", "reopen", "(I)V"⟩ : MethodName)) hown (mvT hZ (hw _ (List.mem_of_getElem? (i := 47) rfl))) (mvT hZ (hw _ (List.mem_of_getElem? (i := 48) rfl))) (notFace_of_selects (args := #[]) (mvT hZ (hw _ (List.mem_of_getElem? (i := 50) rfl)))) (mvT hZ (hw _ (List.mem_of_getElem? (i := 50) rfl))) (mvT hZ (hw _ (List.mem_of_getElem? (i := 49) rfl))) (by decide) (backOf (W := 0) (rmp1 l Z a0 hw [] b2 bm4 bs4 bl4 x11.2.1 x11.2.2.1 x11.2.2.2 (0 : Int32) (1 : Int32) T11.heap n0 Z11 ⟨w11_e, w11_lowest, w11_marks, w11_states, w11_live, w11_open, w11_am, w11_as, w11_al, w11_ga, w11_gm, w11_gs, w11_gl, w11_1, w11_2, w11_3, w11_4, w11_5, w11_6⟩) hZ (hw _ (List.mem_of_getElem? (i := 51) rfl)) (hw _ (List.mem_of_getElem? (i := 3) rfl)) (by decide) (by decide)) qa13 qc13 (g := (mkF m 83 #[.val (.long q1), .second, .val (.long q2), .second, .val (.long q3), .second, .val (.int p4), .val (.int v7), .val (.ref b2), .val (.long q2), .second, .unset, .unset, .unset, .unset, .unset] [(.int (0 : Int32)), (.ref b2)])) rfl (by rw [hml]; rfl) (Steps.refl _) (argsL := [(.int (0 : Int32))]) (rest := []) (lenOf pd0_0 rfl) rfl (by show 2 * 0 + _ ≤ _; exact Nat.le_of_eq rfl) (hb hby at_83) (fun _ _ => ⟨rfl, rfl, (by decide : 4 + 0 ≤ _), (by decide : 11 + 0 ≤ _)⟩)
    dsimp only [Pt.U, Pt.locs, Pt.cells, Pt.slots] at X13 l13 y13 z13 st13 hQ13
    subst l13 y13 z13
    unfold Qp1 at hQ13
    obtain ⟨x13, hx13⟩ : ∃ z : Int64 × Int64 × Int64, z = (fnp1 x11.2.1 x11.2.2.1 x11.2.2.2) := ⟨_, rfl⟩
    rw [← hx13] at hQ13
    obtain ⟨rfl, Nq13, J13⟩ := hQ13
    obtain ⟨w13_e, w13_lowest, w13_marks, w13_states, w13_live, w13_open, w13_am, w13_as, w13_al, w13_ga, w13_gm, w13_gs, w13_gl, w13_1, w13_2, w13_3, w13_4, w13_5, w13_6⟩ := J13
    have Z13 : n0 ≤ T13.heap.size := Nat.le_of_lt (Nat.lt_of_le_of_lt w13_ga w13_e.lt)
    have N13 := Fr.app N11 Nq13
    have pre13 : ∀ t, Steps p.tables e below (T13.setTop (mkF m 86 #[.val (.long q1), .second, .val (.long q2), .second, .val (.long q3), .second, .val (.int p4), .val (.int v7), .val (.ref b2), .val (.long q2), .second, .unset, .unset, .unset, .unset, .unset] [])) t → Steps p.tables e below (s₁.setTop (entryFrame m #[(.long q1), (.long q2), (.long q3), (.int p4)] maxLocals)) t := fun t k => pre12 t (st13.trans k)
    have pre14 : ∀ t, Steps p.tables e below (T13.setTop (mkF m 88 #[.val (.long q1), .second, .val (.long q2), .second, .val (.long q3), .second, .val (.int p4), .val (.int v7), .val (.ref b2), .val (.long q2), .second, .unset, .unset, .unset, .unset, .unset] [(.ref b2)])) t → Steps p.tables e below (s₁.setTop (entryFrame m #[(.long q1), (.long q2), (.long q3), (.int p4)] maxLocals)) t := by
      intro t k
      refine pre13 t ?_
      refine XS.aload X13.here hx rfl (hb hby at_86) rfl rfl ?_
      show Steps p.tables e below (T13.setTop (mkF m 88 #[.val (.long q1), .second, .val (.long q2), .second, .val (.long q3), .second, .val (.int p4), .val (.int v7), .val (.ref b2), .val (.long q2), .second, .unset, .unset, .unset, .unset, .unset] [(.ref b2)])) _
      exact k
    obtain ⟨cq15, kq15, qa15, qb15, qc15⟩ := isOf hZ rfl w13_e
    obtain ⟨_, _, ⟨T15, L15, k15, n15⟩, -, X15, ⟨Lc15, hQ15, l15, y15, z15⟩, st15⟩ := X13.virtualBack hx (y := (⟨"sluice/stream/Watermarks", "lowest", "()J"⟩ : MethodName)) (z := (⟨"sluice/stream/Watermarks", "lowest", "()J"⟩ : MethodName)) hown (mvT hZ (hw _ (List.mem_of_getElem? (i := 52) rfl))) (mvT hZ (hw _ (List.mem_of_getElem? (i := 53) rfl))) (notFace_of_selects (args := #[]) (mvT hZ (hw _ (List.mem_of_getElem? (i := 55) rfl)))) (mvT hZ (hw _ (List.mem_of_getElem? (i := 55) rfl))) (mvT hZ (hw _ (List.mem_of_getElem? (i := 54) rfl))) (by decide) (backOf (W := 0) (rmlo l Z a0 hw [] b2 bm4 bs4 bl4 x13.1 x13.2.1 x13.2.2 (1 : Int32) (0 : Int32) (0 : Int32) (1 : Int32) (2 : Int32) T13.heap n0 Z13 ⟨w13_e, w13_lowest, w13_marks, w13_states, w13_live, w13_open, w13_am, w13_as, w13_al, w13_ga, w13_gm, w13_gs, w13_gl, w13_1, w13_2, w13_3, w13_4, w13_5, w13_6⟩) hZ (hw _ (List.mem_of_getElem? (i := 56) rfl)) (hw _ (List.mem_of_getElem? (i := 3) rfl)) (by decide) (by decide)) qa15 qc15 (g := (mkF m 88 #[.val (.long q1), .second, .val (.long q2), .second, .val (.long q3), .second, .val (.int p4), .val (.int v7), .val (.ref b2), .val (.long q2), .second, .unset, .unset, .unset, .unset, .unset] [(.ref b2)])) rfl (by rw [hml]; rfl) (Steps.refl _) (argsL := []) (rest := []) (lenOf pd0_3 rfl) rfl (by show 2 * 0 + _ ≤ _; exact Nat.le_of_eq rfl) (hb hby at_88) (fun _ _ => ⟨rfl, rfl, (by decide : 4 + 0 ≤ _), (by decide : 11 + 0 ≤ _)⟩)
    dsimp only [Pt.U, Pt.locs, Pt.cells, Pt.slots] at X15 l15 y15 z15 st15 hQ15
    subst l15 y15 z15
    unfold Qlo at hQ15
    obtain ⟨x15, hx15⟩ : ∃ z : Int64 × Int64 × Int64 × Int64, z = (fnlo x13.1 x13.2.1 x13.2.2) := ⟨_, rfl⟩
    rw [← hx15] at hQ15
    obtain ⟨rfl, Nq15, J15⟩ := hQ15
    obtain ⟨w15_e, w15_lowest, w15_marks, w15_states, w15_live, w15_open, w15_am, w15_as, w15_al, w15_ga, w15_gm, w15_gs, w15_gl, w15_1, w15_2, w15_3, w15_4, w15_5, w15_6⟩ := J15
    have Z15 : n0 ≤ T15.heap.size := Nat.le_of_lt (Nat.lt_of_le_of_lt w15_ga w15_e.lt)
    have N15 := Fr.app N13 Nq15
    have pre15 : ∀ t, Steps p.tables e below (T15.setTop (mkF m 91 #[.val (.long q1), .second, .val (.long q2), .second, .val (.long q3), .second, .val (.int p4), .val (.int v7), .val (.ref b2), .val (.long q2), .second, .unset, .unset, .unset, .unset, .unset] [(.long x15.1)])) t → Steps p.tables e below (s₁.setTop (entryFrame m #[(.long q1), (.long q2), (.long q3), (.int p4)] maxLocals)) t := fun t k => pre14 t (st15.trans k)
    have pre16 : ∀ t, Steps p.tables e below (T15.setTop (mkF m 94 #[.val (.long q1), .second, .val (.long q2), .second, .val (.long q3), .second, .val (.int p4), .val (.int v7), .val (.ref b2), .val (.long q2), .second, .unset, .unset, .unset, .unset, .unset] [(.int (lcmpW x15.1 q2))])) t → Steps p.tables e below (s₁.setTop (entryFrame m #[(.long q1), (.long q2), (.long q3), (.int p4)] maxLocals)) t := by
      intro t k
      refine pre15 t ?_
      refine XS.lload X15.here hx rfl (hb hby at_91) rfl ?_
      show Steps p.tables e below (T15.setTop (mkF m 93 #[.val (.long q1), .second, .val (.long q2), .second, .val (.long q3), .second, .val (.int p4), .val (.int v7), .val (.ref b2), .val (.long q2), .second, .unset, .unset, .unset, .unset, .unset] [(.long q2), (.long x15.1)])) _
      refine XS.lcmp X15.here hx rfl (hb hby at_93) rfl ?_
      show Steps p.tables e below (T15.setTop (mkF m 94 #[.val (.long q1), .second, .val (.long q2), .second, .val (.long q3), .second, .val (.int p4), .val (.int v7), .val (.ref b2), .val (.long q2), .second, .unset, .unset, .unset, .unset, .unset] [(.int (lcmpW x15.1 q2))])) _
      exact k
    have yX := own_x8p hx6 hx8
    have yY := own_y1 yX hx11 hx13 hx15
    have hd94 : x15.1 = q2 := yY.1
    have pre17 : ∀ t, Steps p.tables e below (T15.setTop (mkF m 99 #[.val (.long q1), .second, .val (.long q2), .second, .val (.long q3), .second, .val (.int p4), .val (.int v7), .val (.ref b2), .val (.long q2), .second, .unset, .unset, .unset, .unset, .unset] [(.ref b2)])) t → Steps p.tables e below (s₁.setTop (entryFrame m #[(.long q1), (.long q2), (.long q3), (.int p4)] maxLocals)) t := by
      intro t k
      refine pre16 t ?_
      refine XS.ifNo X15.here hx rfl (hb hby at_94) rfl (own_Teq hd94).2 ?_
      show Steps p.tables e below (T15.setTop (mkF m 97 #[.val (.long q1), .second, .val (.long q2), .second, .val (.long q3), .second, .val (.int p4), .val (.int v7), .val (.ref b2), .val (.long q2), .second, .unset, .unset, .unset, .unset, .unset] [])) _
      refine XS.aload X15.here hx rfl (hb hby at_97) rfl rfl ?_
      show Steps p.tables e below (T15.setTop (mkF m 99 #[.val (.long q1), .second, .val (.long q2), .second, .val (.long q3), .second, .val (.int p4), .val (.int v7), .val (.ref b2), .val (.long q2), .second, .unset, .unset, .unset, .unset, .unset] [(.ref b2)])) _
      exact k
    obtain ⟨cq18, kq18, qa18, qb18, qc18⟩ := isOf hZ rfl w15_e
    obtain ⟨_, _, ⟨T18, L18, k18, n18⟩, -, X18, ⟨Lc18, hQ18, l18, y18, z18⟩, st18⟩ := X15.virtualBack hx (y := (⟨"sluice/stream/Watermarks", "open", "()I"⟩ : MethodName)) (z := (⟨"sluice/stream/Watermarks", "open", "()I"⟩ : MethodName)) hown (mvT hZ (hw _ (List.mem_of_getElem? (i := 57) rfl))) (mvT hZ (hw _ (List.mem_of_getElem? (i := 58) rfl))) (notFace_of_selects (args := #[]) (mvT hZ (hw _ (List.mem_of_getElem? (i := 60) rfl)))) (mvT hZ (hw _ (List.mem_of_getElem? (i := 60) rfl))) (mvT hZ (hw _ (List.mem_of_getElem? (i := 59) rfl))) (by decide) (backOf (W := 0) (rmop l Z a0 hw [] b2 bm4 bs4 bl4 x15.2.1 x15.2.2.1 x15.2.2.2 (1 : Int32) (0 : Int32) (0 : Int32) (1 : Int32) T15.heap n0 Z15 ⟨w15_e, w15_lowest, w15_marks, w15_states, w15_live, w15_open, w15_am, w15_as, w15_al, w15_ga, w15_gm, w15_gs, w15_gl, w15_1, w15_2, w15_3, w15_4, w15_5, w15_6⟩) hZ (hw _ (List.mem_of_getElem? (i := 61) rfl)) (hw _ (List.mem_of_getElem? (i := 3) rfl)) (by decide) (by decide)) qa18 qc18 (g := (mkF m 99 #[.val (.long q1), .second, .val (.long q2), .second, .val (.long q3), .second, .val (.int p4), .val (.int v7), .val (.ref b2), .val (.long q2), .second, .unset, .unset, .unset, .unset, .unset] [(.ref b2)])) rfl (by rw [hml]; rfl) (Steps.refl _) (argsL := []) (rest := []) (lenOf pd0_4 rfl) rfl (by show 2 * 0 + _ ≤ _; exact Nat.le_of_eq rfl) (hb hby at_99) (fun _ _ => ⟨rfl, rfl, (by decide : 4 + 0 ≤ _), (by decide : 11 + 0 ≤ _)⟩)
    dsimp only [Pt.U, Pt.locs, Pt.cells, Pt.slots] at X18 l18 y18 z18 st18 hQ18
    subst l18 y18 z18
    unfold Qop at hQ18
    obtain ⟨x18, hx18⟩ : ∃ z : Int32 × Int64 × Int64 × Int64, z = (fnop x15.2.1 x15.2.2.1 x15.2.2.2) := ⟨_, rfl⟩
    rw [← hx18] at hQ18
    obtain ⟨rfl, Nq18, J18⟩ := hQ18
    obtain ⟨w18_e, w18_lowest, w18_marks, w18_states, w18_live, w18_open, w18_am, w18_as, w18_al, w18_ga, w18_gm, w18_gs, w18_gl, w18_1, w18_2, w18_3, w18_4, w18_5, w18_6⟩ := J18
    have Z18 : n0 ≤ T18.heap.size := Nat.le_of_lt (Nat.lt_of_le_of_lt w18_ga w18_e.lt)
    have N18 := Fr.app N15 Nq18
    have pre18 : ∀ t, Steps p.tables e below (T18.setTop (mkF m 102 #[.val (.long q1), .second, .val (.long q2), .second, .val (.long q3), .second, .val (.int p4), .val (.int v7), .val (.ref b2), .val (.long q2), .second, .unset, .unset, .unset, .unset, .unset] [(.int x18.1)])) t → Steps p.tables e below (s₁.setTop (entryFrame m #[(.long q1), (.long q2), (.long q3), (.int p4)] maxLocals)) t := fun t k => pre17 t (st18.trans k)
    obtain ⟨u111s0, hu111s0⟩ : ∃ z : Int32, z = (if x18.1 = (2 : Int32) then (1 : Int32) else (0 : Int32)) := ⟨_, rfl⟩
    have pre19 : ∀ t, Steps p.tables e below (T18.setTop (mkF m 111 #[.val (.long q1), .second, .val (.long q2), .second, .val (.long q3), .second, .val (.int p4), .val (.int v7), .val (.ref b2), .val (.long q2), .second, .unset, .unset, .unset, .unset, .unset] [(.int u111s0)])) t → Steps p.tables e below (s₁.setTop (entryFrame m #[(.long q1), (.long q2), (.long q3), (.int p4)] maxLocals)) t := by
      intro t k
      subst hu111s0
      refine pre18 t ?_
      refine XS.iconst X18.here hx rfl (hb hby at_102) ?_
      show Steps p.tables e below (T18.setTop (mkF m 103 #[.val (.long q1), .second, .val (.long q2), .second, .val (.long q3), .second, .val (.int p4), .val (.int v7), .val (.ref b2), .val (.long q2), .second, .unset, .unset, .unset, .unset, .unset] [(.int (2 : Int32)), (.int x18.1)])) _
      by_cases hb103 : x18.1 = (2 : Int32)
      · simp only [if_pos hb103] at k
        refine XS.icmpNo X18.here hx rfl (hb hby at_103) rfl (teq hb103).2 ?_
        show Steps p.tables e below (T18.setTop (mkF m 106 #[.val (.long q1), .second, .val (.long q2), .second, .val (.long q3), .second, .val (.int p4), .val (.int v7), .val (.ref b2), .val (.long q2), .second, .unset, .unset, .unset, .unset, .unset] [])) _
        refine XS.iconst X18.here hx rfl (hb hby at_106) ?_
        show Steps p.tables e below (T18.setTop (mkF m 107 #[.val (.long q1), .second, .val (.long q2), .second, .val (.long q3), .second, .val (.int p4), .val (.int v7), .val (.ref b2), .val (.long q2), .second, .unset, .unset, .unset, .unset, .unset] [(.int (1 : Int32))])) _
        refine XS.goto X18.here hx rfl (pc0 := 107) (pc' := 111) rfl (hb hby at_107) (by decide) (by decide) ?_
        show Steps p.tables e below (T18.setTop (mkF m 111 #[.val (.long q1), .second, .val (.long q2), .second, .val (.long q3), .second, .val (.int p4), .val (.int v7), .val (.ref b2), .val (.long q2), .second, .unset, .unset, .unset, .unset, .unset] [(.int (1 : Int32))])) _
        exact k
      · simp only [if_neg hb103] at k
        refine XS.icmpYes X18.here hx rfl (pc0 := 103) (pc' := 110) rfl (hb hby at_103) rfl (feq hb103).2 (by decide) (by decide) ?_
        show Steps p.tables e below (T18.setTop (mkF m 110 #[.val (.long q1), .second, .val (.long q2), .second, .val (.long q3), .second, .val (.int p4), .val (.int v7), .val (.ref b2), .val (.long q2), .second, .unset, .unset, .unset, .unset, .unset] [])) _
        refine XS.iconst X18.here hx rfl (hb hby at_110) ?_
        show Steps p.tables e below (T18.setTop (mkF m 111 #[.val (.long q1), .second, .val (.long q2), .second, .val (.long q3), .second, .val (.int p4), .val (.int v7), .val (.ref b2), .val (.long q2), .second, .unset, .unset, .unset, .unset, .unset] [(.int (0 : Int32))])) _
        exact k
    have pre20 : ∀ t, Steps p.tables e below (T18.setTop (mkF m 118 #[.val (.long q1), .second, .val (.long q2), .second, .val (.long q3), .second, .val (.int p4), .val (.int v7), .val (.ref b2), .val (.long q2), .second, .val (.int u111s0), .unset, .unset, .unset, .unset] [(.long q3), (.int (1 : Int32)), (.ref b2)])) t → Steps p.tables e below (s₁.setTop (entryFrame m #[(.long q1), (.long q2), (.long q3), (.int p4)] maxLocals)) t := by
      intro t k
      refine pre19 t ?_
      refine XS.istore X18.here hx rfl (hb hby at_111) rfl (l' := #[.val (.long q1), .second, .val (.long q2), .second, .val (.long q3), .second, .val (.int p4), .val (.int v7), .val (.ref b2), .val (.long q2), .second, .val (.int u111s0), .unset, .unset, .unset, .unset]) rfl ?_
      show Steps p.tables e below (T18.setTop (mkF m 113 #[.val (.long q1), .second, .val (.long q2), .second, .val (.long q3), .second, .val (.int p4), .val (.int v7), .val (.ref b2), .val (.long q2), .second, .val (.int u111s0), .unset, .unset, .unset, .unset] [])) _
      refine XS.aload X18.here hx rfl (hb hby at_113) rfl rfl ?_
      show Steps p.tables e below (T18.setTop (mkF m 115 #[.val (.long q1), .second, .val (.long q2), .second, .val (.long q3), .second, .val (.int p4), .val (.int v7), .val (.ref b2), .val (.long q2), .second, .val (.int u111s0), .unset, .unset, .unset, .unset] [(.ref b2)])) _
      refine XS.iconst X18.here hx rfl (hb hby at_115) ?_
      show Steps p.tables e below (T18.setTop (mkF m 116 #[.val (.long q1), .second, .val (.long q2), .second, .val (.long q3), .second, .val (.int p4), .val (.int v7), .val (.ref b2), .val (.long q2), .second, .val (.int u111s0), .unset, .unset, .unset, .unset] [(.int (1 : Int32)), (.ref b2)])) _
      refine XS.lload X18.here hx rfl (hb hby at_116) rfl ?_
      show Steps p.tables e below (T18.setTop (mkF m 118 #[.val (.long q1), .second, .val (.long q2), .second, .val (.long q3), .second, .val (.int p4), .val (.int v7), .val (.ref b2), .val (.long q2), .second, .val (.int u111s0), .unset, .unset, .unset, .unset] [(.long q3), (.int (1 : Int32)), (.ref b2)])) _
      exact k
    obtain ⟨cq21, kq21, qa21, qb21, qc21⟩ := isOf hZ rfl w18_e
    obtain ⟨_, _, ⟨T21, L21, k21, n21⟩, -, X21, ⟨Lc21, hQ21, l21, y21, z21⟩, st21⟩ := X18.virtualBack hx (y := (⟨"sluice/stream/Watermarks", "raise", "(IJ)Z"⟩ : MethodName)) (z := (⟨"sluice/stream/Watermarks", "raise", "(IJ)Z"⟩ : MethodName)) hown (mvT hZ (hw _ (List.mem_of_getElem? (i := 28) rfl))) (mvT hZ (hw _ (List.mem_of_getElem? (i := 29) rfl))) (notFace_of_selects (args := #[]) (mvT hZ (hw _ (List.mem_of_getElem? (i := 31) rfl)))) (mvT hZ (hw _ (List.mem_of_getElem? (i := 31) rfl))) (mvT hZ (hw _ (List.mem_of_getElem? (i := 30) rfl))) (by decide) (backOf (W := 0) (rma2 l Z a0 hw [] b2 q3 bm4 bs4 bl4 x18.2.1 x18.2.2.1 x18.2.2.2 (0 : Int32) (1 : Int32) T18.heap n0 Z18 ⟨w18_e, w18_lowest, w18_marks, w18_states, w18_live, w18_open, w18_am, w18_as, w18_al, w18_ga, w18_gm, w18_gs, w18_gl, w18_1, w18_2, w18_3, w18_4, w18_5, w18_6⟩) hZ (hw _ (List.mem_of_getElem? (i := 32) rfl)) (hw _ (List.mem_of_getElem? (i := 3) rfl)) (by decide) (by decide)) qa21 qc21 (g := (mkF m 118 #[.val (.long q1), .second, .val (.long q2), .second, .val (.long q3), .second, .val (.int p4), .val (.int v7), .val (.ref b2), .val (.long q2), .second, .val (.int u111s0), .unset, .unset, .unset, .unset] [(.long q3), (.int (1 : Int32)), (.ref b2)])) rfl (by rw [hml]; rfl) (Steps.refl _) (argsL := [(.int (1 : Int32)), (.long q3)]) (rest := []) (lenOf pd0_1 rfl) rfl (by show 2 * 0 + _ ≤ _; exact Nat.le_of_eq rfl) (hb hby at_118) (fun _ _ => ⟨rfl, rfl, (by decide : 4 + 0 ≤ _), (by decide : 11 + 0 ≤ _)⟩)
    dsimp only [Pt.U, Pt.locs, Pt.cells, Pt.slots] at X21 l21 y21 z21 st21 hQ21
    subst l21 y21 z21
    unfold Qa2 at hQ21
    obtain ⟨x21, hx21⟩ : ∃ z : Int32 × Int64 × Int64 × Int64, z = (fna2 q3 x18.2.1 x18.2.2.1 x18.2.2.2) := ⟨_, rfl⟩
    rw [← hx21] at hQ21
    obtain ⟨rfl, Nq21, J21⟩ := hQ21
    obtain ⟨w21_e, w21_lowest, w21_marks, w21_states, w21_live, w21_open, w21_am, w21_as, w21_al, w21_ga, w21_gm, w21_gs, w21_gl, w21_1, w21_2, w21_3, w21_4, w21_5, w21_6⟩ := J21
    have Z21 : n0 ≤ T21.heap.size := Nat.le_of_lt (Nat.lt_of_le_of_lt w21_ga w21_e.lt)
    have N21 := Fr.app N18 Nq21
    have pre21 : ∀ t, Steps p.tables e below (T21.setTop (mkF m 121 #[.val (.long q1), .second, .val (.long q2), .second, .val (.long q3), .second, .val (.int p4), .val (.int v7), .val (.ref b2), .val (.long q2), .second, .val (.int u111s0), .unset, .unset, .unset, .unset] [(.int x21.1)])) t → Steps p.tables e below (s₁.setTop (entryFrame m #[(.long q1), (.long q2), (.long q3), (.int p4)] maxLocals)) t := fun t k => pre20 t (st21.trans k)
    have pre22 : ∀ t, Steps p.tables e below (T21.setTop (mkF m 125 #[.val (.long q1), .second, .val (.long q2), .second, .val (.long q3), .second, .val (.int p4), .val (.int v7), .val (.ref b2), .val (.long q2), .second, .val (.int u111s0), .unset, .unset, .unset, .unset] [(.long q3), (.long q2)])) t → Steps p.tables e below (s₁.setTop (entryFrame m #[(.long q1), (.long q2), (.long q3), (.int p4)] maxLocals)) t := by
      intro t k
      refine pre21 t ?_
      refine XS.pop X21.here hx rfl (hb hby at_121) rfl rfl ?_
      show Steps p.tables e below (T21.setTop (mkF m 122 #[.val (.long q1), .second, .val (.long q2), .second, .val (.long q3), .second, .val (.int p4), .val (.int v7), .val (.ref b2), .val (.long q2), .second, .val (.int u111s0), .unset, .unset, .unset, .unset] [])) _
      refine XS.lloadN X21.here hx rfl (hb hby at_122) rfl ?_
      show Steps p.tables e below (T21.setTop (mkF m 123 #[.val (.long q1), .second, .val (.long q2), .second, .val (.long q3), .second, .val (.int p4), .val (.int v7), .val (.ref b2), .val (.long q2), .second, .val (.int u111s0), .unset, .unset, .unset, .unset] [(.long q2)])) _
      refine XS.lload X21.here hx rfl (hb hby at_123) rfl ?_
      show Steps p.tables e below (T21.setTop (mkF m 125 #[.val (.long q1), .second, .val (.long q2), .second, .val (.long q3), .second, .val (.int p4), .val (.int v7), .val (.ref b2), .val (.long q2), .second, .val (.int u111s0), .unset, .unset, .unset, .unset] [(.long q3), (.long q2)])) _
      exact k
    obtain ⟨_, _, ⟨T23, L23, k23, n23⟩, -, X23, ⟨Lc23, hQ23, l23, y23, z23⟩, st23⟩ := Jvm.LawKit.callS X21 hx (y := (⟨"java/lang/Math", "max", "(JJ)J"⟩ : MethodName)) hown (mvT hZ (hw _ (List.mem_of_getElem? (i := 62) rfl))) (mvT hZ (hw _ (List.mem_of_getElem? (i := 63) rfl))) (mvT hZ (hw _ (List.mem_of_getElem? (i := 40) rfl))) (mvT hZ (hw _ (List.mem_of_getElem? (i := 64) rfl))) (by decide) (backOf (W := 0) (rm11 l Z a0 hw [] q2 q3 T21.heap n0 Z21) hZ (hw _ (List.mem_of_getElem? (i := 64) rfl)) (hw _ (List.mem_of_getElem? (i := 40) rfl)) (by decide) (by decide)) (g := (mkF m 125 #[.val (.long q1), .second, .val (.long q2), .second, .val (.long q3), .second, .val (.int p4), .val (.int v7), .val (.ref b2), .val (.long q2), .second, .val (.int u111s0), .unset, .unset, .unset, .unset] [(.long q3), (.long q2)])) rfl (by rw [hml]; rfl) (argsL := [(.long q2), (.long q3)]) (rest := []) (lenOf pd0_5 rfl) rfl (by show 2 * 0 + _ ≤ _; exact Nat.le_of_eq rfl) (hb hby at_125) (fun _ _ => ⟨rfl, rfl, (by decide : 4 + 0 ≤ _), (by decide : 11 + 0 ≤ _)⟩)
    dsimp only [Pt.U, Pt.locs, Pt.cells, Pt.slots] at X23 l23 y23 z23 st23 hQ23
    subst l23 y23 z23
    obtain ⟨rfl, Nq23, e23⟩ := hQ23
    have N23 := Fr.app N21 Nq23
    have pre23 : ∀ t, Steps p.tables e below (T23.setTop (mkF m 128 #[.val (.long q1), .second, .val (.long q2), .second, .val (.long q3), .second, .val (.int p4), .val (.int v7), .val (.ref b2), .val (.long q2), .second, .val (.int u111s0), .unset, .unset, .unset, .unset] [(.long (fn11 q2 q3))])) t → Steps p.tables e below (s₁.setTop (entryFrame m #[(.long q1), (.long q2), (.long q3), (.int p4)] maxLocals)) t := fun t k => pre22 t (st23 _ k)
    obtain ⟨v128, hv128⟩ : ∃ z : Int64, z = (fn11 q2 q3) := ⟨_, rfl⟩
    have pre24 : ∀ t, Steps p.tables e below (T23.setTop (mkF m 130 #[.val (.long q1), .second, .val (.long q2), .second, .val (.long q3), .second, .val (.int p4), .val (.int v7), .val (.ref b2), .val (.long q2), .second, .val (.int u111s0), .val (.long v128), .second, .unset, .unset] [])) t → Steps p.tables e below (s₁.setTop (entryFrame m #[(.long q1), (.long q2), (.long q3), (.int p4)] maxLocals)) t := by
      intro t k
      subst hv128
      refine pre23 t ?_
      refine XS.lstore X23.here hx rfl (hb hby at_128) rfl (l' := #[.val (.long q1), .second, .val (.long q2), .second, .val (.long q3), .second, .val (.int p4), .val (.int v7), .val (.ref b2), .val (.long q2), .second, .val (.int u111s0), .val (.long (fn11 q2 q3)), .second, .unset, .unset]) rfl ?_
      show Steps p.tables e below (T23.setTop (mkF m 130 #[.val (.long q1), .second, .val (.long q2), .second, .val (.long q3), .second, .val (.int p4), .val (.int v7), .val (.ref b2), .val (.long q2), .second, .val (.int u111s0), .val (.long (fn11 q2 q3)), .second, .unset, .unset] [])) _
      exact k
    have pre25 : ∀ t, Steps p.tables e below (T23.setTop (mkF m 173 #[.val (.long q1), .second, .val (.long q2), .second, .val (.long q3), .second, .val (.int p4), .val (.int v7), .val (.ref b2), .val (.long q2), .second, .val (.int u111s0), .val (.long v128), .second, .val (.long v128), .second] [(.int u111s0)])) t → Steps p.tables e below (s₁.setTop (entryFrame m #[(.long q1), (.long q2), (.long q3), (.int p4)] maxLocals)) t := by
      intro t k
      refine pre24 t ?_
      refine XS.iload X23.here hx rfl (hb hby at_130) rfl ?_
      show Steps p.tables e below (T23.setTop (mkF m 132 #[.val (.long q1), .second, .val (.long q2), .second, .val (.long q3), .second, .val (.int p4), .val (.int v7), .val (.ref b2), .val (.long q2), .second, .val (.int u111s0), .val (.long v128), .second, .unset, .unset] [(.int v7)])) _
      refine XS.ifYes X23.here hx rfl (pc0 := 132) (pc' := 146) rfl (hb hby at_132) rfl ((if0 _ _).trans (feq (own_m1 hc38)).2) (by decide) (by decide) ?_
      show Steps p.tables e below (T23.setTop (mkF m 146 #[.val (.long q1), .second, .val (.long q2), .second, .val (.long q3), .second, .val (.int p4), .val (.int v7), .val (.ref b2), .val (.long q2), .second, .val (.int u111s0), .val (.long v128), .second, .unset, .unset] [])) _
      refine XS.iload X23.here hx rfl (hb hby at_146) rfl ?_
      show Steps p.tables e below (T23.setTop (mkF m 148 #[.val (.long q1), .second, .val (.long q2), .second, .val (.long q3), .second, .val (.int p4), .val (.int v7), .val (.ref b2), .val (.long q2), .second, .val (.int u111s0), .val (.long v128), .second, .unset, .unset] [(.int v7)])) _
      refine XS.iconst X23.here hx rfl (hb hby at_148) ?_
      show Steps p.tables e below (T23.setTop (mkF m 149 #[.val (.long q1), .second, .val (.long q2), .second, .val (.long q3), .second, .val (.int p4), .val (.int v7), .val (.ref b2), .val (.long q2), .second, .val (.int u111s0), .val (.long v128), .second, .unset, .unset] [(.int (1 : Int32)), (.int v7)])) _
      refine XS.icmpNo X23.here hx rfl (hb hby at_149) rfl (teq hc38).2 ?_
      show Steps p.tables e below (T23.setTop (mkF m 152 #[.val (.long q1), .second, .val (.long q2), .second, .val (.long q3), .second, .val (.int p4), .val (.int v7), .val (.ref b2), .val (.long q2), .second, .val (.int u111s0), .val (.long v128), .second, .unset, .unset] [])) _
      refine XS.lload X23.here hx rfl (hb hby at_152) rfl ?_
      show Steps p.tables e below (T23.setTop (mkF m 154 #[.val (.long q1), .second, .val (.long q2), .second, .val (.long q3), .second, .val (.int p4), .val (.int v7), .val (.ref b2), .val (.long q2), .second, .val (.int u111s0), .val (.long v128), .second, .unset, .unset] [(.long v128)])) _
      refine XS.lstore X23.here hx rfl (hb hby at_154) rfl (l' := #[.val (.long q1), .second, .val (.long q2), .second, .val (.long q3), .second, .val (.int p4), .val (.int v7), .val (.ref b2), .val (.long q2), .second, .val (.int u111s0), .val (.long v128), .second, .val (.long v128), .second]) rfl ?_
      show Steps p.tables e below (T23.setTop (mkF m 156 #[.val (.long q1), .second, .val (.long q2), .second, .val (.long q3), .second, .val (.int p4), .val (.int v7), .val (.ref b2), .val (.long q2), .second, .val (.int u111s0), .val (.long v128), .second, .val (.long v128), .second] [])) _
      refine XS.goto X23.here hx rfl (pc0 := 156) (pc' := 171) rfl (hb hby at_156) (by decide) (by decide) ?_
      show Steps p.tables e below (T23.setTop (mkF m 171 #[.val (.long q1), .second, .val (.long q2), .second, .val (.long q3), .second, .val (.int p4), .val (.int v7), .val (.ref b2), .val (.long q2), .second, .val (.int u111s0), .val (.long v128), .second, .val (.long v128), .second] [])) _
      refine XS.iload X23.here hx rfl (hb hby at_171) rfl ?_
      show Steps p.tables e below (T23.setTop (mkF m 173 #[.val (.long q1), .second, .val (.long q2), .second, .val (.long q3), .second, .val (.int p4), .val (.int v7), .val (.ref b2), .val (.long q2), .second, .val (.int u111s0), .val (.long v128), .second, .val (.long v128), .second] [(.int u111s0)])) _
      exact k
    have hd173 : ¬ u111s0 = (0 : Int32) := own_ok hu111s0 (own_op hx18).1
    have pre26 : ∀ t, Steps p.tables e below (T23.setTop (mkF m 178 #[.val (.long q1), .second, .val (.long q2), .second, .val (.long q3), .second, .val (.int p4), .val (.int v7), .val (.ref b2), .val (.long q2), .second, .val (.int u111s0), .val (.long v128), .second, .val (.long v128), .second] [(.ref b2)])) t → Steps p.tables e below (s₁.setTop (entryFrame m #[(.long q1), (.long q2), (.long q3), (.int p4)] maxLocals)) t := by
      intro t k
      refine pre25 t ?_
      refine XS.ifNo X23.here hx rfl (hb hby at_173) rfl ((if0 _ _).trans (feq hd173).1) ?_
      show Steps p.tables e below (T23.setTop (mkF m 176 #[.val (.long q1), .second, .val (.long q2), .second, .val (.long q3), .second, .val (.int p4), .val (.int v7), .val (.ref b2), .val (.long q2), .second, .val (.int u111s0), .val (.long v128), .second, .val (.long v128), .second] [])) _
      refine XS.aload X23.here hx rfl (hb hby at_176) rfl rfl ?_
      show Steps p.tables e below (T23.setTop (mkF m 178 #[.val (.long q1), .second, .val (.long q2), .second, .val (.long q3), .second, .val (.int p4), .val (.int v7), .val (.ref b2), .val (.long q2), .second, .val (.int u111s0), .val (.long v128), .second, .val (.long v128), .second] [(.ref b2)])) _
      exact k
    obtain ⟨cq27, kq27, qa27, qb27, qc27⟩ := isOf hZ e23 w21_e
    obtain ⟨_, _, ⟨T27, L27, k27, n27⟩, -, X27, ⟨Lc27, hQ27, l27, y27, z27⟩, st27⟩ := X23.virtualBack hx (y := (⟨"sluice/stream/Watermarks", "lowest", "()J"⟩ : MethodName)) (z := (⟨"sluice/stream/Watermarks", "lowest", "()J"⟩ : MethodName)) hown (mvT hZ (hw _ (List.mem_of_getElem? (i := 52) rfl))) (mvT hZ (hw _ (List.mem_of_getElem? (i := 53) rfl))) (notFace_of_selects (args := #[]) (mvT hZ (hw _ (List.mem_of_getElem? (i := 55) rfl)))) (mvT hZ (hw _ (List.mem_of_getElem? (i := 55) rfl))) (mvT hZ (hw _ (List.mem_of_getElem? (i := 54) rfl))) (by decide) (backOf (W := 0) (rmlo l Z a0 hw [] b2 bm4 bs4 bl4 x21.2.1 x21.2.2.1 x21.2.2.2 (1 : Int32) (0 : Int32) (0 : Int32) (1 : Int32) (2 : Int32) T21.heap n0 Z21 ⟨w21_e, w21_lowest, w21_marks, w21_states, w21_live, w21_open, w21_am, w21_as, w21_al, w21_ga, w21_gm, w21_gs, w21_gl, w21_1, w21_2, w21_3, w21_4, w21_5, w21_6⟩) hZ (hw _ (List.mem_of_getElem? (i := 56) rfl)) (hw _ (List.mem_of_getElem? (i := 3) rfl)) (by decide) (by decide)) qa27 qc27 (g := (mkF m 178 #[.val (.long q1), .second, .val (.long q2), .second, .val (.long q3), .second, .val (.int p4), .val (.int v7), .val (.ref b2), .val (.long q2), .second, .val (.int u111s0), .val (.long v128), .second, .val (.long v128), .second] [(.ref b2)])) rfl (by rw [hml]; rfl) (Steps.refl _) (argsL := []) (rest := []) (lenOf pd0_3 rfl) rfl (by show 2 * 0 + _ ≤ _; exact Nat.le_of_eq rfl) (hb hby at_178) (fun _ _ => ⟨rfl, e23, (by decide : 4 + 0 ≤ _), (by decide : 11 + 0 ≤ _)⟩)
    dsimp only [Pt.U, Pt.locs, Pt.cells, Pt.slots] at X27 l27 y27 z27 st27 hQ27
    subst l27 y27 z27
    unfold Qlo at hQ27
    obtain ⟨x27, hx27⟩ : ∃ z : Int64 × Int64 × Int64 × Int64, z = (fnlo x21.2.1 x21.2.2.1 x21.2.2.2) := ⟨_, rfl⟩
    rw [← hx27] at hQ27
    obtain ⟨rfl, Nq27, J27⟩ := hQ27
    obtain ⟨w27_e, w27_lowest, w27_marks, w27_states, w27_live, w27_open, w27_am, w27_as, w27_al, w27_ga, w27_gm, w27_gs, w27_gl, w27_1, w27_2, w27_3, w27_4, w27_5, w27_6⟩ := J27
    have Z27 : n0 ≤ T27.heap.size := Nat.le_of_lt (Nat.lt_of_le_of_lt w27_ga w27_e.lt)
    have N27 := Fr.app N23 Nq27
    have pre27 : ∀ t, Steps p.tables e below (T27.setTop (mkF m 181 #[.val (.long q1), .second, .val (.long q2), .second, .val (.long q3), .second, .val (.int p4), .val (.int v7), .val (.ref b2), .val (.long q2), .second, .val (.int u111s0), .val (.long v128), .second, .val (.long v128), .second] [(.long x27.1)])) t → Steps p.tables e below (s₁.setTop (entryFrame m #[(.long q1), (.long q2), (.long q3), (.int p4)] maxLocals)) t := fun t k => pre26 t (st27.trans k)
    obtain ⟨u192s0, hu192s0⟩ : ∃ z : Int32, z = (if x27.1 = v128 then (1 : Int32) else (0 : Int32)) := ⟨_, rfl⟩
    have pre28 : ∀ t, Steps p.tables e below (T27.setTop (mkF m 192 #[.val (.long q1), .second, .val (.long q2), .second, .val (.long q3), .second, .val (.int p4), .val (.int v7), .val (.ref b2), .val (.long q2), .second, .val (.int u111s0), .val (.long v128), .second, .val (.long v128), .second] [(.int u192s0)])) t → Steps p.tables e below (s₁.setTop (entryFrame m #[(.long q1), (.long q2), (.long q3), (.int p4)] maxLocals)) t := by
      intro t k
      subst hu192s0
      refine pre27 t ?_
      refine XS.lload X27.here hx rfl (hb hby at_181) rfl ?_
      show Steps p.tables e below (T27.setTop (mkF m 183 #[.val (.long q1), .second, .val (.long q2), .second, .val (.long q3), .second, .val (.int p4), .val (.int v7), .val (.ref b2), .val (.long q2), .second, .val (.int u111s0), .val (.long v128), .second, .val (.long v128), .second] [(.long v128), (.long x27.1)])) _
      refine XS.lcmp X27.here hx rfl (hb hby at_183) rfl ?_
      show Steps p.tables e below (T27.setTop (mkF m 184 #[.val (.long q1), .second, .val (.long q2), .second, .val (.long q3), .second, .val (.int p4), .val (.int v7), .val (.ref b2), .val (.long q2), .second, .val (.int u111s0), .val (.long v128), .second, .val (.long v128), .second] [(.int (lcmpW x27.1 v128))])) _
      by_cases hb184 : x27.1 = v128
      · simp only [if_pos hb184] at k
        refine XS.ifNo X27.here hx rfl (hb hby at_184) rfl (own_Teq hb184).2 ?_
        show Steps p.tables e below (T27.setTop (mkF m 187 #[.val (.long q1), .second, .val (.long q2), .second, .val (.long q3), .second, .val (.int p4), .val (.int v7), .val (.ref b2), .val (.long q2), .second, .val (.int u111s0), .val (.long v128), .second, .val (.long v128), .second] [])) _
        refine XS.iconst X27.here hx rfl (hb hby at_187) ?_
        show Steps p.tables e below (T27.setTop (mkF m 188 #[.val (.long q1), .second, .val (.long q2), .second, .val (.long q3), .second, .val (.int p4), .val (.int v7), .val (.ref b2), .val (.long q2), .second, .val (.int u111s0), .val (.long v128), .second, .val (.long v128), .second] [(.int (1 : Int32))])) _
        refine XS.goto X27.here hx rfl (pc0 := 188) (pc' := 192) rfl (hb hby at_188) (by decide) (by decide) ?_
        show Steps p.tables e below (T27.setTop (mkF m 192 #[.val (.long q1), .second, .val (.long q2), .second, .val (.long q3), .second, .val (.int p4), .val (.int v7), .val (.ref b2), .val (.long q2), .second, .val (.int u111s0), .val (.long v128), .second, .val (.long v128), .second] [(.int (1 : Int32))])) _
        exact k
      · simp only [if_neg hb184] at k
        refine XS.ifYes X27.here hx rfl (pc0 := 184) (pc' := 191) rfl (hb hby at_184) rfl (own_Feq hb184).2 (by decide) (by decide) ?_
        show Steps p.tables e below (T27.setTop (mkF m 191 #[.val (.long q1), .second, .val (.long q2), .second, .val (.long q3), .second, .val (.int p4), .val (.int v7), .val (.ref b2), .val (.long q2), .second, .val (.int u111s0), .val (.long v128), .second, .val (.long v128), .second] [])) _
        refine XS.iconst X27.here hx rfl (hb hby at_191) ?_
        show Steps p.tables e below (T27.setTop (mkF m 192 #[.val (.long q1), .second, .val (.long q2), .second, .val (.long q3), .second, .val (.int p4), .val (.int v7), .val (.ref b2), .val (.long q2), .second, .val (.int u111s0), .val (.long v128), .second, .val (.long v128), .second] [(.int (0 : Int32))])) _
        exact k
    have pre29 : ∀ t, Steps p.tables e below (T27.setTop (mkF m 197 #[.val (.long q1), .second, .val (.long q2), .second, .val (.long q3), .second, .val (.int p4), .val (.int v7), .val (.ref b2), .val (.long q2), .second, .val (.int u192s0), .val (.long v128), .second, .val (.long v128), .second] [(.int (1 : Int32)), (.ref b2)])) t → Steps p.tables e below (s₁.setTop (entryFrame m #[(.long q1), (.long q2), (.long q3), (.int p4)] maxLocals)) t := by
      intro t k
      refine pre28 t ?_
      refine XS.istore X27.here hx rfl (hb hby at_192) rfl (l' := #[.val (.long q1), .second, .val (.long q2), .second, .val (.long q3), .second, .val (.int p4), .val (.int v7), .val (.ref b2), .val (.long q2), .second, .val (.int u192s0), .val (.long v128), .second, .val (.long v128), .second]) rfl ?_
      show Steps p.tables e below (T27.setTop (mkF m 194 #[.val (.long q1), .second, .val (.long q2), .second, .val (.long q3), .second, .val (.int p4), .val (.int v7), .val (.ref b2), .val (.long q2), .second, .val (.int u192s0), .val (.long v128), .second, .val (.long v128), .second] [])) _
      refine XS.aload X27.here hx rfl (hb hby at_194) rfl rfl ?_
      show Steps p.tables e below (T27.setTop (mkF m 196 #[.val (.long q1), .second, .val (.long q2), .second, .val (.long q3), .second, .val (.int p4), .val (.int v7), .val (.ref b2), .val (.long q2), .second, .val (.int u192s0), .val (.long v128), .second, .val (.long v128), .second] [(.ref b2)])) _
      refine XS.iconst X27.here hx rfl (hb hby at_196) ?_
      show Steps p.tables e below (T27.setTop (mkF m 197 #[.val (.long q1), .second, .val (.long q2), .second, .val (.long q3), .second, .val (.int p4), .val (.int v7), .val (.ref b2), .val (.long q2), .second, .val (.int u192s0), .val (.long v128), .second, .val (.long v128), .second] [(.int (1 : Int32)), (.ref b2)])) _
      exact k
    obtain ⟨cq30, kq30, qa30, qb30, qc30⟩ := isOf hZ rfl w27_e
    obtain ⟨_, _, ⟨T30, L30, k30, n30⟩, -, X30, ⟨Lc30, hQ30, l30, y30, z30⟩, st30⟩ := X27.virtualBack hx (y := (⟨"sluice/stream/Watermarks", "end", "(I)Z"⟩ : MethodName)) (z := (⟨"sluice/stream/Watermarks", "end", "(I)Z"⟩ : MethodName)) hown (mvT hZ (hw _ (List.mem_of_getElem? (i := 42) rfl))) (mvT hZ (hw _ (List.mem_of_getElem? (i := 43) rfl))) (notFace_of_selects (args := #[]) (mvT hZ (hw _ (List.mem_of_getElem? (i := 45) rfl)))) (mvT hZ (hw _ (List.mem_of_getElem? (i := 45) rfl))) (mvT hZ (hw _ (List.mem_of_getElem? (i := 44) rfl))) (by decide) (backOf (W := 0) (rme2 l Z a0 hw [] b2 bm4 bs4 bl4 x27.2.1 x27.2.2.1 x27.2.2.2 T27.heap n0 Z27 ⟨w27_e, w27_lowest, w27_marks, w27_states, w27_live, w27_open, w27_am, w27_as, w27_al, w27_ga, w27_gm, w27_gs, w27_gl, w27_1, w27_2, w27_3, w27_4, w27_5, w27_6⟩) hZ (hw _ (List.mem_of_getElem? (i := 46) rfl)) (hw _ (List.mem_of_getElem? (i := 3) rfl)) (by decide) (by decide)) qa30 qc30 (g := (mkF m 197 #[.val (.long q1), .second, .val (.long q2), .second, .val (.long q3), .second, .val (.int p4), .val (.int v7), .val (.ref b2), .val (.long q2), .second, .val (.int u192s0), .val (.long v128), .second, .val (.long v128), .second] [(.int (1 : Int32)), (.ref b2)])) rfl (by rw [hml]; rfl) (Steps.refl _) (argsL := [(.int (1 : Int32))]) (rest := []) (lenOf pd0_2 rfl) rfl (by show 2 * 0 + _ ≤ _; exact Nat.le_of_eq rfl) (hb hby at_197) (fun _ _ => ⟨rfl, rfl, (by decide : 4 + 0 ≤ _), (by decide : 11 + 0 ≤ _)⟩)
    dsimp only [Pt.U, Pt.locs, Pt.cells, Pt.slots] at X30 l30 y30 z30 st30 hQ30
    subst l30 y30 z30
    unfold Qe2 at hQ30
    obtain ⟨x30, hx30⟩ : ∃ z : Int32 × Int64 × Int64 × Int64, z = (fne2 x27.2.1 x27.2.2.1 x27.2.2.2) := ⟨_, rfl⟩
    rw [← hx30] at hQ30
    obtain ⟨rfl, Nq30, J30⟩ := hQ30
    obtain ⟨w30_e, w30_lowest, w30_marks, w30_states, w30_live, w30_open, w30_am, w30_as, w30_al, w30_ga, w30_gm, w30_gs, w30_gl, w30_1, w30_2, w30_3, w30_4, w30_5, w30_6⟩ := J30
    have Z30 : n0 ≤ T30.heap.size := Nat.le_of_lt (Nat.lt_of_le_of_lt w30_ga w30_e.lt)
    have N30 := Fr.app N27 Nq30
    have pre30 : ∀ t, Steps p.tables e below (T30.setTop (mkF m 200 #[.val (.long q1), .second, .val (.long q2), .second, .val (.long q3), .second, .val (.int p4), .val (.int v7), .val (.ref b2), .val (.long q2), .second, .val (.int u192s0), .val (.long v128), .second, .val (.long v128), .second] [(.int x30.1)])) t → Steps p.tables e below (s₁.setTop (entryFrame m #[(.long q1), (.long q2), (.long q3), (.int p4)] maxLocals)) t := fun t k => pre29 t (st30.trans k)
    have pre31 : ∀ t, Steps p.tables e below (T30.setTop (mkF m 203 #[.val (.long q1), .second, .val (.long q2), .second, .val (.long q3), .second, .val (.int p4), .val (.int v7), .val (.ref b2), .val (.long q2), .second, .val (.int u192s0), .val (.long v128), .second, .val (.long v128), .second] [(.int u192s0)])) t → Steps p.tables e below (s₁.setTop (entryFrame m #[(.long q1), (.long q2), (.long q3), (.int p4)] maxLocals)) t := by
      intro t k
      refine pre30 t ?_
      refine XS.pop X30.here hx rfl (hb hby at_200) rfl rfl ?_
      show Steps p.tables e below (T30.setTop (mkF m 201 #[.val (.long q1), .second, .val (.long q2), .second, .val (.long q3), .second, .val (.int p4), .val (.int v7), .val (.ref b2), .val (.long q2), .second, .val (.int u192s0), .val (.long v128), .second, .val (.long v128), .second] [])) _
      refine XS.iload X30.here hx rfl (hb hby at_201) rfl ?_
      show Steps p.tables e below (T30.setTop (mkF m 203 #[.val (.long q1), .second, .val (.long q2), .second, .val (.long q3), .second, .val (.int p4), .val (.int v7), .val (.ref b2), .val (.long q2), .second, .val (.int u192s0), .val (.long v128), .second, .val (.long v128), .second] [(.int u192s0)])) _
      exact k
    have yZ := own_z1 yY hx18 hx21 hv128 hx27
    have hd203 : ¬ u192s0 = (0 : Int32) := own_ok hu192s0 yZ.1
    have pre32 : ∀ t, Steps p.tables e below (T30.setTop (mkF m 208 #[.val (.long q1), .second, .val (.long q2), .second, .val (.long q3), .second, .val (.int p4), .val (.int v7), .val (.ref b2), .val (.long q2), .second, .val (.int u192s0), .val (.long v128), .second, .val (.long v128), .second] [(.ref b2)])) t → Steps p.tables e below (s₁.setTop (entryFrame m #[(.long q1), (.long q2), (.long q3), (.int p4)] maxLocals)) t := by
      intro t k
      refine pre31 t ?_
      refine XS.ifNo X30.here hx rfl (hb hby at_203) rfl ((if0 _ _).trans (feq hd203).1) ?_
      show Steps p.tables e below (T30.setTop (mkF m 206 #[.val (.long q1), .second, .val (.long q2), .second, .val (.long q3), .second, .val (.int p4), .val (.int v7), .val (.ref b2), .val (.long q2), .second, .val (.int u192s0), .val (.long v128), .second, .val (.long v128), .second] [])) _
      refine XS.aload X30.here hx rfl (hb hby at_206) rfl rfl ?_
      show Steps p.tables e below (T30.setTop (mkF m 208 #[.val (.long q1), .second, .val (.long q2), .second, .val (.long q3), .second, .val (.int p4), .val (.int v7), .val (.ref b2), .val (.long q2), .second, .val (.int u192s0), .val (.long v128), .second, .val (.long v128), .second] [(.ref b2)])) _
      exact k
    obtain ⟨cq33, kq33, qa33, qb33, qc33⟩ := isOf hZ rfl w30_e
    obtain ⟨_, _, ⟨T33, L33, k33, n33⟩, -, X33, ⟨Lc33, hQ33, l33, y33, z33⟩, st33⟩ := X30.virtualBack hx (y := (⟨"sluice/stream/Watermarks", "lowest", "()J"⟩ : MethodName)) (z := (⟨"sluice/stream/Watermarks", "lowest", "()J"⟩ : MethodName)) hown (mvT hZ (hw _ (List.mem_of_getElem? (i := 52) rfl))) (mvT hZ (hw _ (List.mem_of_getElem? (i := 53) rfl))) (notFace_of_selects (args := #[]) (mvT hZ (hw _ (List.mem_of_getElem? (i := 55) rfl)))) (mvT hZ (hw _ (List.mem_of_getElem? (i := 55) rfl))) (mvT hZ (hw _ (List.mem_of_getElem? (i := 54) rfl))) (by decide) (backOf (W := 0) (rmlo l Z a0 hw [] b2 bm4 bs4 bl4 x30.2.1 x30.2.2.1 x30.2.2.2 (1 : Int32) (2 : Int32) (0 : Int32) (1 : Int32) (1 : Int32) T30.heap n0 Z30 ⟨w30_e, w30_lowest, w30_marks, w30_states, w30_live, w30_open, w30_am, w30_as, w30_al, w30_ga, w30_gm, w30_gs, w30_gl, w30_1, w30_2, w30_3, w30_4, w30_5, w30_6⟩) hZ (hw _ (List.mem_of_getElem? (i := 56) rfl)) (hw _ (List.mem_of_getElem? (i := 3) rfl)) (by decide) (by decide)) qa33 qc33 (g := (mkF m 208 #[.val (.long q1), .second, .val (.long q2), .second, .val (.long q3), .second, .val (.int p4), .val (.int v7), .val (.ref b2), .val (.long q2), .second, .val (.int u192s0), .val (.long v128), .second, .val (.long v128), .second] [(.ref b2)])) rfl (by rw [hml]; rfl) (Steps.refl _) (argsL := []) (rest := []) (lenOf pd0_3 rfl) rfl (by show 2 * 0 + _ ≤ _; exact Nat.le_of_eq rfl) (hb hby at_208) (fun _ _ => ⟨rfl, rfl, (by decide : 4 + 0 ≤ _), (by decide : 11 + 0 ≤ _)⟩)
    dsimp only [Pt.U, Pt.locs, Pt.cells, Pt.slots] at X33 l33 y33 z33 st33 hQ33
    subst l33 y33 z33
    unfold Qlo at hQ33
    obtain ⟨x33, hx33⟩ : ∃ z : Int64 × Int64 × Int64 × Int64, z = (fnlo x30.2.1 x30.2.2.1 x30.2.2.2) := ⟨_, rfl⟩
    rw [← hx33] at hQ33
    obtain ⟨rfl, Nq33, J33⟩ := hQ33
    obtain ⟨w33_e, w33_lowest, w33_marks, w33_states, w33_live, w33_open, w33_am, w33_as, w33_al, w33_ga, w33_gm, w33_gs, w33_gl, w33_1, w33_2, w33_3, w33_4, w33_5, w33_6⟩ := J33
    have Z33 : n0 ≤ T33.heap.size := Nat.le_of_lt (Nat.lt_of_le_of_lt w33_ga w33_e.lt)
    have N33 := Fr.app N30 Nq33
    have pre33 : ∀ t, Steps p.tables e below (T33.setTop (mkF m 211 #[.val (.long q1), .second, .val (.long q2), .second, .val (.long q3), .second, .val (.int p4), .val (.int v7), .val (.ref b2), .val (.long q2), .second, .val (.int u192s0), .val (.long v128), .second, .val (.long v128), .second] [(.long x33.1)])) t → Steps p.tables e below (s₁.setTop (entryFrame m #[(.long q1), (.long q2), (.long q3), (.int p4)] maxLocals)) t := fun t k => pre32 t (st33.trans k)
    have pre34 : ∀ t, Steps p.tables e below (T33.setTop (mkF m 214 #[.val (.long q1), .second, .val (.long q2), .second, .val (.long q3), .second, .val (.int p4), .val (.int v7), .val (.ref b2), .val (.long q2), .second, .val (.int u192s0), .val (.long v128), .second, .val (.long v128), .second] [(.long q1), (.long v128), (.long x33.1)])) t → Steps p.tables e below (s₁.setTop (entryFrame m #[(.long q1), (.long q2), (.long q3), (.int p4)] maxLocals)) t := by
      intro t k
      refine pre33 t ?_
      refine XS.lload X33.here hx rfl (hb hby at_211) rfl ?_
      show Steps p.tables e below (T33.setTop (mkF m 213 #[.val (.long q1), .second, .val (.long q2), .second, .val (.long q3), .second, .val (.int p4), .val (.int v7), .val (.ref b2), .val (.long q2), .second, .val (.int u192s0), .val (.long v128), .second, .val (.long v128), .second] [(.long v128), (.long x33.1)])) _
      refine XS.lloadN X33.here hx rfl (hb hby at_213) rfl ?_
      show Steps p.tables e below (T33.setTop (mkF m 214 #[.val (.long q1), .second, .val (.long q2), .second, .val (.long q3), .second, .val (.int p4), .val (.int v7), .val (.ref b2), .val (.long q2), .second, .val (.int u192s0), .val (.long v128), .second, .val (.long v128), .second] [(.long q1), (.long v128), (.long x33.1)])) _
      exact k
    obtain ⟨_, _, ⟨T35, L35, k35, n35⟩, -, X35, ⟨Lc35, hQ35, l35, y35, z35⟩, st35⟩ := Jvm.LawKit.callS X33 hx (y := (⟨"java/lang/Math", "max", "(JJ)J"⟩ : MethodName)) hown (mvT hZ (hw _ (List.mem_of_getElem? (i := 62) rfl))) (mvT hZ (hw _ (List.mem_of_getElem? (i := 63) rfl))) (mvT hZ (hw _ (List.mem_of_getElem? (i := 40) rfl))) (mvT hZ (hw _ (List.mem_of_getElem? (i := 64) rfl))) (by decide) (backOf (W := 2) (rm11 l Z a0 hw [] v128 q1 T33.heap n0 Z33) hZ (hw _ (List.mem_of_getElem? (i := 64) rfl)) (hw _ (List.mem_of_getElem? (i := 40) rfl)) (by decide) (by decide)) (g := (mkF m 214 #[.val (.long q1), .second, .val (.long q2), .second, .val (.long q3), .second, .val (.int p4), .val (.int v7), .val (.ref b2), .val (.long q2), .second, .val (.int u192s0), .val (.long v128), .second, .val (.long v128), .second] [(.long q1), (.long v128), (.long x33.1)])) rfl (by rw [hml]; rfl) (argsL := [(.long v128), (.long q1)]) (rest := [(.long x33.1)]) (lenOf pd0_5 rfl) rfl (by show 2 * 0 + _ ≤ _; exact Nat.le_of_eq rfl) (hb hby at_214) (fun _ _ => ⟨rfl, rfl, (by decide : 4 + 0 ≤ _), (by decide : 11 + 0 ≤ _)⟩)
    dsimp only [Pt.U, Pt.locs, Pt.cells, Pt.slots] at X35 l35 y35 z35 st35 hQ35
    subst l35 y35 z35
    obtain ⟨rfl, Nq35, e35⟩ := hQ35
    have N35 := Fr.app N33 Nq35
    have pre35 : ∀ t, Steps p.tables e below (T35.setTop (mkF m 217 #[.val (.long q1), .second, .val (.long q2), .second, .val (.long q3), .second, .val (.int p4), .val (.int v7), .val (.ref b2), .val (.long q2), .second, .val (.int u192s0), .val (.long v128), .second, .val (.long v128), .second] [(.long (fn11 v128 q1)), (.long x33.1)])) t → Steps p.tables e below (s₁.setTop (entryFrame m #[(.long q1), (.long q2), (.long q3), (.int p4)] maxLocals)) t := fun t k => pre34 t (st35 _ k)
    obtain ⟨u226s0, hu226s0⟩ : ∃ z : Int32, z = (if x33.1 = (fn11 v128 q1) then (1 : Int32) else (0 : Int32)) := ⟨_, rfl⟩
    have pre36 : ∀ t, Steps p.tables e below (T35.setTop (mkF m 226 #[.val (.long q1), .second, .val (.long q2), .second, .val (.long q3), .second, .val (.int p4), .val (.int v7), .val (.ref b2), .val (.long q2), .second, .val (.int u192s0), .val (.long v128), .second, .val (.long v128), .second] [(.int u226s0)])) t → Steps p.tables e below (s₁.setTop (entryFrame m #[(.long q1), (.long q2), (.long q3), (.int p4)] maxLocals)) t := by
      intro t k
      subst hu226s0
      refine pre35 t ?_
      refine XS.lcmp X35.here hx rfl (hb hby at_217) rfl ?_
      show Steps p.tables e below (T35.setTop (mkF m 218 #[.val (.long q1), .second, .val (.long q2), .second, .val (.long q3), .second, .val (.int p4), .val (.int v7), .val (.ref b2), .val (.long q2), .second, .val (.int u192s0), .val (.long v128), .second, .val (.long v128), .second] [(.int (lcmpW x33.1 (fn11 v128 q1)))])) _
      by_cases hb218 : x33.1 = (fn11 v128 q1)
      · simp only [if_pos hb218] at k
        refine XS.ifNo X35.here hx rfl (hb hby at_218) rfl (own_Teq hb218).2 ?_
        show Steps p.tables e below (T35.setTop (mkF m 221 #[.val (.long q1), .second, .val (.long q2), .second, .val (.long q3), .second, .val (.int p4), .val (.int v7), .val (.ref b2), .val (.long q2), .second, .val (.int u192s0), .val (.long v128), .second, .val (.long v128), .second] [])) _
        refine XS.iconst X35.here hx rfl (hb hby at_221) ?_
        show Steps p.tables e below (T35.setTop (mkF m 222 #[.val (.long q1), .second, .val (.long q2), .second, .val (.long q3), .second, .val (.int p4), .val (.int v7), .val (.ref b2), .val (.long q2), .second, .val (.int u192s0), .val (.long v128), .second, .val (.long v128), .second] [(.int (1 : Int32))])) _
        refine XS.goto X35.here hx rfl (pc0 := 222) (pc' := 226) rfl (hb hby at_222) (by decide) (by decide) ?_
        show Steps p.tables e below (T35.setTop (mkF m 226 #[.val (.long q1), .second, .val (.long q2), .second, .val (.long q3), .second, .val (.int p4), .val (.int v7), .val (.ref b2), .val (.long q2), .second, .val (.int u192s0), .val (.long v128), .second, .val (.long v128), .second] [(.int (1 : Int32))])) _
        exact k
      · simp only [if_neg hb218] at k
        refine XS.ifYes X35.here hx rfl (pc0 := 218) (pc' := 225) rfl (hb hby at_218) rfl (own_Feq hb218).2 (by decide) (by decide) ?_
        show Steps p.tables e below (T35.setTop (mkF m 225 #[.val (.long q1), .second, .val (.long q2), .second, .val (.long q3), .second, .val (.int p4), .val (.int v7), .val (.ref b2), .val (.long q2), .second, .val (.int u192s0), .val (.long v128), .second, .val (.long v128), .second] [])) _
        refine XS.iconst X35.here hx rfl (hb hby at_225) ?_
        show Steps p.tables e below (T35.setTop (mkF m 226 #[.val (.long q1), .second, .val (.long q2), .second, .val (.long q3), .second, .val (.int p4), .val (.int v7), .val (.ref b2), .val (.long q2), .second, .val (.int u192s0), .val (.long v128), .second, .val (.long v128), .second] [(.int (0 : Int32))])) _
        exact k
    have pre37 : ∀ t, Steps p.tables e below (T35.setTop (mkF m 230 #[.val (.long q1), .second, .val (.long q2), .second, .val (.long q3), .second, .val (.int p4), .val (.int v7), .val (.ref b2), .val (.long q2), .second, .val (.int u226s0), .val (.long v128), .second, .val (.long v128), .second] [(.int u226s0)])) t → Steps p.tables e below (s₁.setTop (entryFrame m #[(.long q1), (.long q2), (.long q3), (.int p4)] maxLocals)) t := by
      intro t k
      refine pre36 t ?_
      refine XS.istore X35.here hx rfl (hb hby at_226) rfl (l' := #[.val (.long q1), .second, .val (.long q2), .second, .val (.long q3), .second, .val (.int p4), .val (.int v7), .val (.ref b2), .val (.long q2), .second, .val (.int u226s0), .val (.long v128), .second, .val (.long v128), .second]) rfl ?_
      show Steps p.tables e below (T35.setTop (mkF m 228 #[.val (.long q1), .second, .val (.long q2), .second, .val (.long q3), .second, .val (.int p4), .val (.int v7), .val (.ref b2), .val (.long q2), .second, .val (.int u226s0), .val (.long v128), .second, .val (.long v128), .second] [])) _
      refine XS.iload X35.here hx rfl (hb hby at_228) rfl ?_
      show Steps p.tables e below (T35.setTop (mkF m 230 #[.val (.long q1), .second, .val (.long q2), .second, .val (.long q3), .second, .val (.int p4), .val (.int v7), .val (.ref b2), .val (.long q2), .second, .val (.int u226s0), .val (.long v128), .second, .val (.long v128), .second] [(.int u226s0)])) _
      exact k
    obtain ⟨fs, hr, hrun, hended, hW, hsame⟩ := X35.leave (v := some (.int (nar .boolean u226s0))) (fun h => by rw [Bd.returns] at h; cases h)
    refine ⟨_, _, pre37 _ ?_, hrun, hended, _, _, rfl, ?_, ⟨_, rfl⟩, hW, hsame.mono (by decide) (by decide)⟩
    · show Steps p.tables e below (T35.setTop (mkF m 230 #[.val (.long q1), .second, .val (.long q2), .second, .val (.long q3), .second, .val (.int p4), .val (.int v7), .val (.ref b2), .val (.long q2), .second, .val (.int u226s0), .val (.long v128), .second, .val (.long v128), .second] [(.int u226s0)])) _
      exact retN X35 hx (t := .boolean) Bd.returns (by simp) (hb hby at_230) hr
    · show Q0 Z q1 q2 q3 p4 h0 n0 _ T35.heap _
      have yF := own_one hu226s0 (own_f yZ (own_e2 hx30) hx33)
      refine ⟨?_, N35⟩
      rw [yF]; rfl
  · have pre38 : ∀ t, Steps p.tables e below (T8.setTop (mkF m 54 #[.val (.long q1), .second, .val (.long q2), .second, .val (.long q3), .second, .val (.int p4), .val (.int v7), .val (.ref b2), .unset, .unset, .unset, .unset, .unset, .unset, .unset] [(.int (2 : Int32)), (.int v7)])) t → Steps p.tables e below (s₁.setTop (entryFrame m #[(.long q1), (.long q2), (.long q3), (.int p4)] maxLocals)) t := by
      intro t k
      refine pre9 t ?_
      refine XS.icmpYes X8.here hx rfl (pc0 := 38) (pc' := 51) rfl (hb hby at_38) rfl (feq hc38).2 (by decide) (by decide) ?_
      show Steps p.tables e below (T8.setTop (mkF m 51 #[.val (.long q1), .second, .val (.long q2), .second, .val (.long q3), .second, .val (.int p4), .val (.int v7), .val (.ref b2), .unset, .unset, .unset, .unset, .unset, .unset, .unset] [])) _
      refine XS.iload X8.here hx rfl (hb hby at_51) rfl ?_
      show Steps p.tables e below (T8.setTop (mkF m 53 #[.val (.long q1), .second, .val (.long q2), .second, .val (.long q3), .second, .val (.int p4), .val (.int v7), .val (.ref b2), .unset, .unset, .unset, .unset, .unset, .unset, .unset] [(.int v7)])) _
      refine XS.iconst X8.here hx rfl (hb hby at_53) ?_
      show Steps p.tables e below (T8.setTop (mkF m 54 #[.val (.long q1), .second, .val (.long q2), .second, .val (.long q3), .second, .val (.int p4), .val (.int v7), .val (.ref b2), .unset, .unset, .unset, .unset, .unset, .unset, .unset] [(.int (2 : Int32)), (.int v7)])) _
      exact k
    by_cases hc54 : v7 = (2 : Int32)
    · have pre39 : ∀ t, Steps p.tables e below (T8.setTop (mkF m 60 #[.val (.long q1), .second, .val (.long q2), .second, .val (.long q3), .second, .val (.int p4), .val (.int v7), .val (.ref b2), .unset, .unset, .unset, .unset, .unset, .unset, .unset] [(.int (0 : Int32)), (.ref b2)])) t → Steps p.tables e below (s₁.setTop (entryFrame m #[(.long q1), (.long q2), (.long q3), (.int p4)] maxLocals)) t := by
        intro t k
        refine pre38 t ?_
        refine XS.icmpNo X8.here hx rfl (hb hby at_54) rfl (teq hc54).2 ?_
        show Steps p.tables e below (T8.setTop (mkF m 57 #[.val (.long q1), .second, .val (.long q2), .second, .val (.long q3), .second, .val (.int p4), .val (.int v7), .val (.ref b2), .unset, .unset, .unset, .unset, .unset, .unset, .unset] [])) _
        refine XS.aload X8.here hx rfl (hb hby at_57) rfl rfl ?_
        show Steps p.tables e below (T8.setTop (mkF m 59 #[.val (.long q1), .second, .val (.long q2), .second, .val (.long q3), .second, .val (.int p4), .val (.int v7), .val (.ref b2), .unset, .unset, .unset, .unset, .unset, .unset, .unset] [(.ref b2)])) _
        refine XS.iconst X8.here hx rfl (hb hby at_59) ?_
        show Steps p.tables e below (T8.setTop (mkF m 60 #[.val (.long q1), .second, .val (.long q2), .second, .val (.long q3), .second, .val (.int p4), .val (.int v7), .val (.ref b2), .unset, .unset, .unset, .unset, .unset, .unset, .unset] [(.int (0 : Int32)), (.ref b2)])) _
        exact k
      obtain ⟨cq40, kq40, qa40, qb40, qc40⟩ := isOf hZ rfl w8_e
      obtain ⟨_, _, ⟨T40, L40, k40, n40⟩, -, X40, ⟨Lc40, hQ40, l40, y40, z40⟩, st40⟩ := X8.virtualBack hx (y := (⟨"sluice/stream/Watermarks", "end", "(I)Z"⟩ : MethodName)) (z := (⟨"sluice/stream/Watermarks", "end", "(I)Z"⟩ : MethodName)) hown (mvT hZ (hw _ (List.mem_of_getElem? (i := 42) rfl))) (mvT hZ (hw _ (List.mem_of_getElem? (i := 43) rfl))) (notFace_of_selects (args := #[]) (mvT hZ (hw _ (List.mem_of_getElem? (i := 45) rfl)))) (mvT hZ (hw _ (List.mem_of_getElem? (i := 45) rfl))) (mvT hZ (hw _ (List.mem_of_getElem? (i := 44) rfl))) (by decide) (backOf (W := 0) (rme0 l Z a0 hw [] b2 bm4 bs4 bl4 x8.2.1 x8.2.2.1 x8.2.2.2 T8.heap n0 Z8 ⟨w8_e, w8_lowest, w8_marks, w8_states, w8_live, w8_open, w8_am, w8_as, w8_al, w8_ga, w8_gm, w8_gs, w8_gl, w8_1, w8_2, w8_3, w8_4, w8_5, w8_6⟩) hZ (hw _ (List.mem_of_getElem? (i := 46) rfl)) (hw _ (List.mem_of_getElem? (i := 3) rfl)) (by decide) (by decide)) qa40 qc40 (g := (mkF m 60 #[.val (.long q1), .second, .val (.long q2), .second, .val (.long q3), .second, .val (.int p4), .val (.int v7), .val (.ref b2), .unset, .unset, .unset, .unset, .unset, .unset, .unset] [(.int (0 : Int32)), (.ref b2)])) rfl (by rw [hml]; rfl) (Steps.refl _) (argsL := [(.int (0 : Int32))]) (rest := []) (lenOf pd0_2 rfl) rfl (by show 2 * 0 + _ ≤ _; exact Nat.le_of_eq rfl) (hb hby at_60) (fun _ _ => ⟨rfl, rfl, (by decide : 4 + 0 ≤ _), (by decide : 11 + 0 ≤ _)⟩)
      dsimp only [Pt.U, Pt.locs, Pt.cells, Pt.slots] at X40 l40 y40 z40 st40 hQ40
      subst l40 y40 z40
      unfold Qe0 at hQ40
      obtain ⟨x40, hx40⟩ : ∃ z : Int32 × Int64 × Int64 × Int64, z = (fne0 x8.2.1 x8.2.2.1 x8.2.2.2) := ⟨_, rfl⟩
      rw [← hx40] at hQ40
      obtain ⟨rfl, Nq40, J40⟩ := hQ40
      obtain ⟨w40_e, w40_lowest, w40_marks, w40_states, w40_live, w40_open, w40_am, w40_as, w40_al, w40_ga, w40_gm, w40_gs, w40_gl, w40_1, w40_2, w40_3, w40_4, w40_5, w40_6⟩ := J40
      have Z40 : n0 ≤ T40.heap.size := Nat.le_of_lt (Nat.lt_of_le_of_lt w40_ga w40_e.lt)
      have N40 := Fr.app N8 Nq40
      have pre40 : ∀ t, Steps p.tables e below (T40.setTop (mkF m 63 #[.val (.long q1), .second, .val (.long q2), .second, .val (.long q3), .second, .val (.int p4), .val (.int v7), .val (.ref b2), .unset, .unset, .unset, .unset, .unset, .unset, .unset] [(.int x40.1)])) t → Steps p.tables e below (s₁.setTop (entryFrame m #[(.long q1), (.long q2), (.long q3), (.int p4)] maxLocals)) t := fun t k => pre39 t (st40.trans k)
      have pre41 : ∀ t, Steps p.tables e below (T40.setTop (mkF m 83 #[.val (.long q1), .second, .val (.long q2), .second, .val (.long q3), .second, .val (.int p4), .val (.int v7), .val (.ref b2), .val (.long q2), .second, .unset, .unset, .unset, .unset, .unset] [(.int (0 : Int32)), (.ref b2)])) t → Steps p.tables e below (s₁.setTop (entryFrame m #[(.long q1), (.long q2), (.long q3), (.int p4)] maxLocals)) t := by
        intro t k
        refine pre40 t ?_
        refine XS.pop X40.here hx rfl (hb hby at_63) rfl rfl ?_
        show Steps p.tables e below (T40.setTop (mkF m 64 #[.val (.long q1), .second, .val (.long q2), .second, .val (.long q3), .second, .val (.int p4), .val (.int v7), .val (.ref b2), .unset, .unset, .unset, .unset, .unset, .unset, .unset] [])) _
        refine XS.iload X40.here hx rfl (hb hby at_64) rfl ?_
        show Steps p.tables e below (T40.setTop (mkF m 66 #[.val (.long q1), .second, .val (.long q2), .second, .val (.long q3), .second, .val (.int p4), .val (.int v7), .val (.ref b2), .unset, .unset, .unset, .unset, .unset, .unset, .unset] [(.int v7)])) _
        refine XS.ifYes X40.here hx rfl (pc0 := 66) (pc' := 77) rfl (hb hby at_66) rfl ((if0 _ _).trans (feq (own_m2 hc54)).2) (by decide) (by decide) ?_
        show Steps p.tables e below (T40.setTop (mkF m 77 #[.val (.long q1), .second, .val (.long q2), .second, .val (.long q3), .second, .val (.int p4), .val (.int v7), .val (.ref b2), .unset, .unset, .unset, .unset, .unset, .unset, .unset] [])) _
        refine XS.lloadN X40.here hx rfl (hb hby at_77) rfl ?_
        show Steps p.tables e below (T40.setTop (mkF m 78 #[.val (.long q1), .second, .val (.long q2), .second, .val (.long q3), .second, .val (.int p4), .val (.int v7), .val (.ref b2), .unset, .unset, .unset, .unset, .unset, .unset, .unset] [(.long q2)])) _
        refine XS.lstore X40.here hx rfl (hb hby at_78) rfl (l' := #[.val (.long q1), .second, .val (.long q2), .second, .val (.long q3), .second, .val (.int p4), .val (.int v7), .val (.ref b2), .val (.long q2), .second, .unset, .unset, .unset, .unset, .unset]) rfl ?_
        show Steps p.tables e below (T40.setTop (mkF m 80 #[.val (.long q1), .second, .val (.long q2), .second, .val (.long q3), .second, .val (.int p4), .val (.int v7), .val (.ref b2), .val (.long q2), .second, .unset, .unset, .unset, .unset, .unset] [])) _
        refine XS.aload X40.here hx rfl (hb hby at_80) rfl rfl ?_
        show Steps p.tables e below (T40.setTop (mkF m 82 #[.val (.long q1), .second, .val (.long q2), .second, .val (.long q3), .second, .val (.int p4), .val (.int v7), .val (.ref b2), .val (.long q2), .second, .unset, .unset, .unset, .unset, .unset] [(.ref b2)])) _
        refine XS.iconst X40.here hx rfl (hb hby at_82) ?_
        show Steps p.tables e below (T40.setTop (mkF m 83 #[.val (.long q1), .second, .val (.long q2), .second, .val (.long q3), .second, .val (.int p4), .val (.int v7), .val (.ref b2), .val (.long q2), .second, .unset, .unset, .unset, .unset, .unset] [(.int (0 : Int32)), (.ref b2)])) _
        exact k
      obtain ⟨cq42, kq42, qa42, qb42, qc42⟩ := isOf hZ rfl w40_e
      obtain ⟨_, _, ⟨T42, L42, k42, n42⟩, -, X42, ⟨Lc42, hQ42, l42, y42, z42⟩, st42⟩ := X40.virtualBack hx (y := (⟨"sluice/stream/Watermarks", "reopen", "(I)V"⟩ : MethodName)) (z := (⟨"sluice/stream/Watermarks", "reopen", "(I)V"⟩ : MethodName)) hown (mvT hZ (hw _ (List.mem_of_getElem? (i := 47) rfl))) (mvT hZ (hw _ (List.mem_of_getElem? (i := 48) rfl))) (notFace_of_selects (args := #[]) (mvT hZ (hw _ (List.mem_of_getElem? (i := 50) rfl)))) (mvT hZ (hw _ (List.mem_of_getElem? (i := 50) rfl))) (mvT hZ (hw _ (List.mem_of_getElem? (i := 49) rfl))) (by decide) (backOf (W := 0) (rmp2 l Z a0 hw [] b2 bm4 bs4 bl4 x40.2.1 x40.2.2.1 x40.2.2.2 T40.heap n0 Z40 ⟨w40_e, w40_lowest, w40_marks, w40_states, w40_live, w40_open, w40_am, w40_as, w40_al, w40_ga, w40_gm, w40_gs, w40_gl, w40_1, w40_2, w40_3, w40_4, w40_5, w40_6⟩) hZ (hw _ (List.mem_of_getElem? (i := 51) rfl)) (hw _ (List.mem_of_getElem? (i := 3) rfl)) (by decide) (by decide)) qa42 qc42 (g := (mkF m 83 #[.val (.long q1), .second, .val (.long q2), .second, .val (.long q3), .second, .val (.int p4), .val (.int v7), .val (.ref b2), .val (.long q2), .second, .unset, .unset, .unset, .unset, .unset] [(.int (0 : Int32)), (.ref b2)])) rfl (by rw [hml]; rfl) (Steps.refl _) (argsL := [(.int (0 : Int32))]) (rest := []) (lenOf pd0_0 rfl) rfl (by show 2 * 0 + _ ≤ _; exact Nat.le_of_eq rfl) (hb hby at_83) (fun _ _ => ⟨rfl, rfl, (by decide : 4 + 0 ≤ _), (by decide : 11 + 0 ≤ _)⟩)
      dsimp only [Pt.U, Pt.locs, Pt.cells, Pt.slots] at X42 l42 y42 z42 st42 hQ42
      subst l42 y42 z42
      unfold Qp2 at hQ42
      obtain ⟨x42, hx42⟩ : ∃ z : Int64 × Int64 × Int64, z = (fnp2 x40.2.1 x40.2.2.1 x40.2.2.2) := ⟨_, rfl⟩
      rw [← hx42] at hQ42
      obtain ⟨rfl, Nq42, J42⟩ := hQ42
      obtain ⟨w42_e, w42_lowest, w42_marks, w42_states, w42_live, w42_open, w42_am, w42_as, w42_al, w42_ga, w42_gm, w42_gs, w42_gl, w42_1, w42_2, w42_3, w42_4, w42_5, w42_6⟩ := J42
      have Z42 : n0 ≤ T42.heap.size := Nat.le_of_lt (Nat.lt_of_le_of_lt w42_ga w42_e.lt)
      have N42 := Fr.app N40 Nq42
      have pre42 : ∀ t, Steps p.tables e below (T42.setTop (mkF m 86 #[.val (.long q1), .second, .val (.long q2), .second, .val (.long q3), .second, .val (.int p4), .val (.int v7), .val (.ref b2), .val (.long q2), .second, .unset, .unset, .unset, .unset, .unset] [])) t → Steps p.tables e below (s₁.setTop (entryFrame m #[(.long q1), (.long q2), (.long q3), (.int p4)] maxLocals)) t := fun t k => pre41 t (st42.trans k)
      have pre43 : ∀ t, Steps p.tables e below (T42.setTop (mkF m 88 #[.val (.long q1), .second, .val (.long q2), .second, .val (.long q3), .second, .val (.int p4), .val (.int v7), .val (.ref b2), .val (.long q2), .second, .unset, .unset, .unset, .unset, .unset] [(.ref b2)])) t → Steps p.tables e below (s₁.setTop (entryFrame m #[(.long q1), (.long q2), (.long q3), (.int p4)] maxLocals)) t := by
        intro t k
        refine pre42 t ?_
        refine XS.aload X42.here hx rfl (hb hby at_86) rfl rfl ?_
        show Steps p.tables e below (T42.setTop (mkF m 88 #[.val (.long q1), .second, .val (.long q2), .second, .val (.long q3), .second, .val (.int p4), .val (.int v7), .val (.ref b2), .val (.long q2), .second, .unset, .unset, .unset, .unset, .unset] [(.ref b2)])) _
        exact k
      obtain ⟨cq44, kq44, qa44, qb44, qc44⟩ := isOf hZ rfl w42_e
      obtain ⟨_, _, ⟨T44, L44, k44, n44⟩, -, X44, ⟨Lc44, hQ44, l44, y44, z44⟩, st44⟩ := X42.virtualBack hx (y := (⟨"sluice/stream/Watermarks", "lowest", "()J"⟩ : MethodName)) (z := (⟨"sluice/stream/Watermarks", "lowest", "()J"⟩ : MethodName)) hown (mvT hZ (hw _ (List.mem_of_getElem? (i := 52) rfl))) (mvT hZ (hw _ (List.mem_of_getElem? (i := 53) rfl))) (notFace_of_selects (args := #[]) (mvT hZ (hw _ (List.mem_of_getElem? (i := 55) rfl)))) (mvT hZ (hw _ (List.mem_of_getElem? (i := 55) rfl))) (mvT hZ (hw _ (List.mem_of_getElem? (i := 54) rfl))) (by decide) (backOf (W := 0) (rmlo l Z a0 hw [] b2 bm4 bs4 bl4 x42.1 x42.2.1 x42.2.2 (0 : Int32) (0 : Int32) (1 : Int32) (0 : Int32) (2 : Int32) T42.heap n0 Z42 ⟨w42_e, w42_lowest, w42_marks, w42_states, w42_live, w42_open, w42_am, w42_as, w42_al, w42_ga, w42_gm, w42_gs, w42_gl, w42_1, w42_2, w42_3, w42_4, w42_5, w42_6⟩) hZ (hw _ (List.mem_of_getElem? (i := 56) rfl)) (hw _ (List.mem_of_getElem? (i := 3) rfl)) (by decide) (by decide)) qa44 qc44 (g := (mkF m 88 #[.val (.long q1), .second, .val (.long q2), .second, .val (.long q3), .second, .val (.int p4), .val (.int v7), .val (.ref b2), .val (.long q2), .second, .unset, .unset, .unset, .unset, .unset] [(.ref b2)])) rfl (by rw [hml]; rfl) (Steps.refl _) (argsL := []) (rest := []) (lenOf pd0_3 rfl) rfl (by show 2 * 0 + _ ≤ _; exact Nat.le_of_eq rfl) (hb hby at_88) (fun _ _ => ⟨rfl, rfl, (by decide : 4 + 0 ≤ _), (by decide : 11 + 0 ≤ _)⟩)
      dsimp only [Pt.U, Pt.locs, Pt.cells, Pt.slots] at X44 l44 y44 z44 st44 hQ44
      subst l44 y44 z44
      unfold Qlo at hQ44
      obtain ⟨x44, hx44⟩ : ∃ z : Int64 × Int64 × Int64 × Int64, z = (fnlo x42.1 x42.2.1 x42.2.2) := ⟨_, rfl⟩
      rw [← hx44] at hQ44
      obtain ⟨rfl, Nq44, J44⟩ := hQ44
      obtain ⟨w44_e, w44_lowest, w44_marks, w44_states, w44_live, w44_open, w44_am, w44_as, w44_al, w44_ga, w44_gm, w44_gs, w44_gl, w44_1, w44_2, w44_3, w44_4, w44_5, w44_6⟩ := J44
      have Z44 : n0 ≤ T44.heap.size := Nat.le_of_lt (Nat.lt_of_le_of_lt w44_ga w44_e.lt)
      have N44 := Fr.app N42 Nq44
      have pre44 : ∀ t, Steps p.tables e below (T44.setTop (mkF m 91 #[.val (.long q1), .second, .val (.long q2), .second, .val (.long q3), .second, .val (.int p4), .val (.int v7), .val (.ref b2), .val (.long q2), .second, .unset, .unset, .unset, .unset, .unset] [(.long x44.1)])) t → Steps p.tables e below (s₁.setTop (entryFrame m #[(.long q1), (.long q2), (.long q3), (.int p4)] maxLocals)) t := fun t k => pre43 t (st44.trans k)
      have pre45 : ∀ t, Steps p.tables e below (T44.setTop (mkF m 94 #[.val (.long q1), .second, .val (.long q2), .second, .val (.long q3), .second, .val (.int p4), .val (.int v7), .val (.ref b2), .val (.long q2), .second, .unset, .unset, .unset, .unset, .unset] [(.int (lcmpW x44.1 q2))])) t → Steps p.tables e below (s₁.setTop (entryFrame m #[(.long q1), (.long q2), (.long q3), (.int p4)] maxLocals)) t := by
        intro t k
        refine pre44 t ?_
        refine XS.lload X44.here hx rfl (hb hby at_91) rfl ?_
        show Steps p.tables e below (T44.setTop (mkF m 93 #[.val (.long q1), .second, .val (.long q2), .second, .val (.long q3), .second, .val (.int p4), .val (.int v7), .val (.ref b2), .val (.long q2), .second, .unset, .unset, .unset, .unset, .unset] [(.long q2), (.long x44.1)])) _
        refine XS.lcmp X44.here hx rfl (hb hby at_93) rfl ?_
        show Steps p.tables e below (T44.setTop (mkF m 94 #[.val (.long q1), .second, .val (.long q2), .second, .val (.long q3), .second, .val (.int p4), .val (.int v7), .val (.ref b2), .val (.long q2), .second, .unset, .unset, .unset, .unset, .unset] [(.int (lcmpW x44.1 q2))])) _
        exact k
      have yX := own_x8p hx6 hx8
      have yY := own_y2 yX hx40 hx42 hx44
      have hd94 : x44.1 = q2 := yY.1
      have pre46 : ∀ t, Steps p.tables e below (T44.setTop (mkF m 99 #[.val (.long q1), .second, .val (.long q2), .second, .val (.long q3), .second, .val (.int p4), .val (.int v7), .val (.ref b2), .val (.long q2), .second, .unset, .unset, .unset, .unset, .unset] [(.ref b2)])) t → Steps p.tables e below (s₁.setTop (entryFrame m #[(.long q1), (.long q2), (.long q3), (.int p4)] maxLocals)) t := by
        intro t k
        refine pre45 t ?_
        refine XS.ifNo X44.here hx rfl (hb hby at_94) rfl (own_Teq hd94).2 ?_
        show Steps p.tables e below (T44.setTop (mkF m 97 #[.val (.long q1), .second, .val (.long q2), .second, .val (.long q3), .second, .val (.int p4), .val (.int v7), .val (.ref b2), .val (.long q2), .second, .unset, .unset, .unset, .unset, .unset] [])) _
        refine XS.aload X44.here hx rfl (hb hby at_97) rfl rfl ?_
        show Steps p.tables e below (T44.setTop (mkF m 99 #[.val (.long q1), .second, .val (.long q2), .second, .val (.long q3), .second, .val (.int p4), .val (.int v7), .val (.ref b2), .val (.long q2), .second, .unset, .unset, .unset, .unset, .unset] [(.ref b2)])) _
        exact k
      obtain ⟨cq47, kq47, qa47, qb47, qc47⟩ := isOf hZ rfl w44_e
      obtain ⟨_, _, ⟨T47, L47, k47, n47⟩, -, X47, ⟨Lc47, hQ47, l47, y47, z47⟩, st47⟩ := X44.virtualBack hx (y := (⟨"sluice/stream/Watermarks", "open", "()I"⟩ : MethodName)) (z := (⟨"sluice/stream/Watermarks", "open", "()I"⟩ : MethodName)) hown (mvT hZ (hw _ (List.mem_of_getElem? (i := 57) rfl))) (mvT hZ (hw _ (List.mem_of_getElem? (i := 58) rfl))) (notFace_of_selects (args := #[]) (mvT hZ (hw _ (List.mem_of_getElem? (i := 60) rfl)))) (mvT hZ (hw _ (List.mem_of_getElem? (i := 60) rfl))) (mvT hZ (hw _ (List.mem_of_getElem? (i := 59) rfl))) (by decide) (backOf (W := 0) (rmop l Z a0 hw [] b2 bm4 bs4 bl4 x44.2.1 x44.2.2.1 x44.2.2.2 (0 : Int32) (0 : Int32) (1 : Int32) (0 : Int32) T44.heap n0 Z44 ⟨w44_e, w44_lowest, w44_marks, w44_states, w44_live, w44_open, w44_am, w44_as, w44_al, w44_ga, w44_gm, w44_gs, w44_gl, w44_1, w44_2, w44_3, w44_4, w44_5, w44_6⟩) hZ (hw _ (List.mem_of_getElem? (i := 61) rfl)) (hw _ (List.mem_of_getElem? (i := 3) rfl)) (by decide) (by decide)) qa47 qc47 (g := (mkF m 99 #[.val (.long q1), .second, .val (.long q2), .second, .val (.long q3), .second, .val (.int p4), .val (.int v7), .val (.ref b2), .val (.long q2), .second, .unset, .unset, .unset, .unset, .unset] [(.ref b2)])) rfl (by rw [hml]; rfl) (Steps.refl _) (argsL := []) (rest := []) (lenOf pd0_4 rfl) rfl (by show 2 * 0 + _ ≤ _; exact Nat.le_of_eq rfl) (hb hby at_99) (fun _ _ => ⟨rfl, rfl, (by decide : 4 + 0 ≤ _), (by decide : 11 + 0 ≤ _)⟩)
      dsimp only [Pt.U, Pt.locs, Pt.cells, Pt.slots] at X47 l47 y47 z47 st47 hQ47
      subst l47 y47 z47
      unfold Qop at hQ47
      obtain ⟨x47, hx47⟩ : ∃ z : Int32 × Int64 × Int64 × Int64, z = (fnop x44.2.1 x44.2.2.1 x44.2.2.2) := ⟨_, rfl⟩
      rw [← hx47] at hQ47
      obtain ⟨rfl, Nq47, J47⟩ := hQ47
      obtain ⟨w47_e, w47_lowest, w47_marks, w47_states, w47_live, w47_open, w47_am, w47_as, w47_al, w47_ga, w47_gm, w47_gs, w47_gl, w47_1, w47_2, w47_3, w47_4, w47_5, w47_6⟩ := J47
      have Z47 : n0 ≤ T47.heap.size := Nat.le_of_lt (Nat.lt_of_le_of_lt w47_ga w47_e.lt)
      have N47 := Fr.app N44 Nq47
      have pre47 : ∀ t, Steps p.tables e below (T47.setTop (mkF m 102 #[.val (.long q1), .second, .val (.long q2), .second, .val (.long q3), .second, .val (.int p4), .val (.int v7), .val (.ref b2), .val (.long q2), .second, .unset, .unset, .unset, .unset, .unset] [(.int x47.1)])) t → Steps p.tables e below (s₁.setTop (entryFrame m #[(.long q1), (.long q2), (.long q3), (.int p4)] maxLocals)) t := fun t k => pre46 t (st47.trans k)
      obtain ⟨u111s0_1, hu111s0_1⟩ : ∃ z : Int32, z = (if x47.1 = (2 : Int32) then (1 : Int32) else (0 : Int32)) := ⟨_, rfl⟩
      have pre48 : ∀ t, Steps p.tables e below (T47.setTop (mkF m 111 #[.val (.long q1), .second, .val (.long q2), .second, .val (.long q3), .second, .val (.int p4), .val (.int v7), .val (.ref b2), .val (.long q2), .second, .unset, .unset, .unset, .unset, .unset] [(.int u111s0_1)])) t → Steps p.tables e below (s₁.setTop (entryFrame m #[(.long q1), (.long q2), (.long q3), (.int p4)] maxLocals)) t := by
        intro t k
        subst hu111s0_1
        refine pre47 t ?_
        refine XS.iconst X47.here hx rfl (hb hby at_102) ?_
        show Steps p.tables e below (T47.setTop (mkF m 103 #[.val (.long q1), .second, .val (.long q2), .second, .val (.long q3), .second, .val (.int p4), .val (.int v7), .val (.ref b2), .val (.long q2), .second, .unset, .unset, .unset, .unset, .unset] [(.int (2 : Int32)), (.int x47.1)])) _
        by_cases hb103 : x47.1 = (2 : Int32)
        · simp only [if_pos hb103] at k
          refine XS.icmpNo X47.here hx rfl (hb hby at_103) rfl (teq hb103).2 ?_
          show Steps p.tables e below (T47.setTop (mkF m 106 #[.val (.long q1), .second, .val (.long q2), .second, .val (.long q3), .second, .val (.int p4), .val (.int v7), .val (.ref b2), .val (.long q2), .second, .unset, .unset, .unset, .unset, .unset] [])) _
          refine XS.iconst X47.here hx rfl (hb hby at_106) ?_
          show Steps p.tables e below (T47.setTop (mkF m 107 #[.val (.long q1), .second, .val (.long q2), .second, .val (.long q3), .second, .val (.int p4), .val (.int v7), .val (.ref b2), .val (.long q2), .second, .unset, .unset, .unset, .unset, .unset] [(.int (1 : Int32))])) _
          refine XS.goto X47.here hx rfl (pc0 := 107) (pc' := 111) rfl (hb hby at_107) (by decide) (by decide) ?_
          show Steps p.tables e below (T47.setTop (mkF m 111 #[.val (.long q1), .second, .val (.long q2), .second, .val (.long q3), .second, .val (.int p4), .val (.int v7), .val (.ref b2), .val (.long q2), .second, .unset, .unset, .unset, .unset, .unset] [(.int (1 : Int32))])) _
          exact k
        · simp only [if_neg hb103] at k
          refine XS.icmpYes X47.here hx rfl (pc0 := 103) (pc' := 110) rfl (hb hby at_103) rfl (feq hb103).2 (by decide) (by decide) ?_
          show Steps p.tables e below (T47.setTop (mkF m 110 #[.val (.long q1), .second, .val (.long q2), .second, .val (.long q3), .second, .val (.int p4), .val (.int v7), .val (.ref b2), .val (.long q2), .second, .unset, .unset, .unset, .unset, .unset] [])) _
          refine XS.iconst X47.here hx rfl (hb hby at_110) ?_
          show Steps p.tables e below (T47.setTop (mkF m 111 #[.val (.long q1), .second, .val (.long q2), .second, .val (.long q3), .second, .val (.int p4), .val (.int v7), .val (.ref b2), .val (.long q2), .second, .unset, .unset, .unset, .unset, .unset] [(.int (0 : Int32))])) _
          exact k
      have pre49 : ∀ t, Steps p.tables e below (T47.setTop (mkF m 118 #[.val (.long q1), .second, .val (.long q2), .second, .val (.long q3), .second, .val (.int p4), .val (.int v7), .val (.ref b2), .val (.long q2), .second, .val (.int u111s0_1), .unset, .unset, .unset, .unset] [(.long q3), (.int (1 : Int32)), (.ref b2)])) t → Steps p.tables e below (s₁.setTop (entryFrame m #[(.long q1), (.long q2), (.long q3), (.int p4)] maxLocals)) t := by
        intro t k
        refine pre48 t ?_
        refine XS.istore X47.here hx rfl (hb hby at_111) rfl (l' := #[.val (.long q1), .second, .val (.long q2), .second, .val (.long q3), .second, .val (.int p4), .val (.int v7), .val (.ref b2), .val (.long q2), .second, .val (.int u111s0_1), .unset, .unset, .unset, .unset]) rfl ?_
        show Steps p.tables e below (T47.setTop (mkF m 113 #[.val (.long q1), .second, .val (.long q2), .second, .val (.long q3), .second, .val (.int p4), .val (.int v7), .val (.ref b2), .val (.long q2), .second, .val (.int u111s0_1), .unset, .unset, .unset, .unset] [])) _
        refine XS.aload X47.here hx rfl (hb hby at_113) rfl rfl ?_
        show Steps p.tables e below (T47.setTop (mkF m 115 #[.val (.long q1), .second, .val (.long q2), .second, .val (.long q3), .second, .val (.int p4), .val (.int v7), .val (.ref b2), .val (.long q2), .second, .val (.int u111s0_1), .unset, .unset, .unset, .unset] [(.ref b2)])) _
        refine XS.iconst X47.here hx rfl (hb hby at_115) ?_
        show Steps p.tables e below (T47.setTop (mkF m 116 #[.val (.long q1), .second, .val (.long q2), .second, .val (.long q3), .second, .val (.int p4), .val (.int v7), .val (.ref b2), .val (.long q2), .second, .val (.int u111s0_1), .unset, .unset, .unset, .unset] [(.int (1 : Int32)), (.ref b2)])) _
        refine XS.lload X47.here hx rfl (hb hby at_116) rfl ?_
        show Steps p.tables e below (T47.setTop (mkF m 118 #[.val (.long q1), .second, .val (.long q2), .second, .val (.long q3), .second, .val (.int p4), .val (.int v7), .val (.ref b2), .val (.long q2), .second, .val (.int u111s0_1), .unset, .unset, .unset, .unset] [(.long q3), (.int (1 : Int32)), (.ref b2)])) _
        exact k
      obtain ⟨cq50, kq50, qa50, qb50, qc50⟩ := isOf hZ rfl w47_e
      obtain ⟨_, _, ⟨T50, L50, k50, n50⟩, -, X50, ⟨Lc50, hQ50, l50, y50, z50⟩, st50⟩ := X47.virtualBack hx (y := (⟨"sluice/stream/Watermarks", "raise", "(IJ)Z"⟩ : MethodName)) (z := (⟨"sluice/stream/Watermarks", "raise", "(IJ)Z"⟩ : MethodName)) hown (mvT hZ (hw _ (List.mem_of_getElem? (i := 28) rfl))) (mvT hZ (hw _ (List.mem_of_getElem? (i := 29) rfl))) (notFace_of_selects (args := #[]) (mvT hZ (hw _ (List.mem_of_getElem? (i := 31) rfl)))) (mvT hZ (hw _ (List.mem_of_getElem? (i := 31) rfl))) (mvT hZ (hw _ (List.mem_of_getElem? (i := 30) rfl))) (by decide) (backOf (W := 0) (rma1 l Z a0 hw [] b2 q3 bm4 bs4 bl4 x47.2.1 x47.2.2.1 x47.2.2.2 (1 : Int32) (0 : Int32) T47.heap n0 Z47 ⟨w47_e, w47_lowest, w47_marks, w47_states, w47_live, w47_open, w47_am, w47_as, w47_al, w47_ga, w47_gm, w47_gs, w47_gl, w47_1, w47_2, w47_3, w47_4, w47_5, w47_6⟩) hZ (hw _ (List.mem_of_getElem? (i := 32) rfl)) (hw _ (List.mem_of_getElem? (i := 3) rfl)) (by decide) (by decide)) qa50 qc50 (g := (mkF m 118 #[.val (.long q1), .second, .val (.long q2), .second, .val (.long q3), .second, .val (.int p4), .val (.int v7), .val (.ref b2), .val (.long q2), .second, .val (.int u111s0_1), .unset, .unset, .unset, .unset] [(.long q3), (.int (1 : Int32)), (.ref b2)])) rfl (by rw [hml]; rfl) (Steps.refl _) (argsL := [(.int (1 : Int32)), (.long q3)]) (rest := []) (lenOf pd0_1 rfl) rfl (by show 2 * 0 + _ ≤ _; exact Nat.le_of_eq rfl) (hb hby at_118) (fun _ _ => ⟨rfl, rfl, (by decide : 4 + 0 ≤ _), (by decide : 11 + 0 ≤ _)⟩)
      dsimp only [Pt.U, Pt.locs, Pt.cells, Pt.slots] at X50 l50 y50 z50 st50 hQ50
      subst l50 y50 z50
      unfold Qa1 at hQ50
      obtain ⟨x50, hx50⟩ : ∃ z : Int32 × Int64 × Int64 × Int64, z = (fna1 q3 x47.2.1 x47.2.2.1 x47.2.2.2) := ⟨_, rfl⟩
      rw [← hx50] at hQ50
      obtain ⟨rfl, Nq50, J50⟩ := hQ50
      obtain ⟨w50_e, w50_lowest, w50_marks, w50_states, w50_live, w50_open, w50_am, w50_as, w50_al, w50_ga, w50_gm, w50_gs, w50_gl, w50_1, w50_2, w50_3, w50_4, w50_5, w50_6⟩ := J50
      have Z50 : n0 ≤ T50.heap.size := Nat.le_of_lt (Nat.lt_of_le_of_lt w50_ga w50_e.lt)
      have N50 := Fr.app N47 Nq50
      have pre50 : ∀ t, Steps p.tables e below (T50.setTop (mkF m 121 #[.val (.long q1), .second, .val (.long q2), .second, .val (.long q3), .second, .val (.int p4), .val (.int v7), .val (.ref b2), .val (.long q2), .second, .val (.int u111s0_1), .unset, .unset, .unset, .unset] [(.int x50.1)])) t → Steps p.tables e below (s₁.setTop (entryFrame m #[(.long q1), (.long q2), (.long q3), (.int p4)] maxLocals)) t := fun t k => pre49 t (st50.trans k)
      have pre51 : ∀ t, Steps p.tables e below (T50.setTop (mkF m 125 #[.val (.long q1), .second, .val (.long q2), .second, .val (.long q3), .second, .val (.int p4), .val (.int v7), .val (.ref b2), .val (.long q2), .second, .val (.int u111s0_1), .unset, .unset, .unset, .unset] [(.long q3), (.long q2)])) t → Steps p.tables e below (s₁.setTop (entryFrame m #[(.long q1), (.long q2), (.long q3), (.int p4)] maxLocals)) t := by
        intro t k
        refine pre50 t ?_
        refine XS.pop X50.here hx rfl (hb hby at_121) rfl rfl ?_
        show Steps p.tables e below (T50.setTop (mkF m 122 #[.val (.long q1), .second, .val (.long q2), .second, .val (.long q3), .second, .val (.int p4), .val (.int v7), .val (.ref b2), .val (.long q2), .second, .val (.int u111s0_1), .unset, .unset, .unset, .unset] [])) _
        refine XS.lloadN X50.here hx rfl (hb hby at_122) rfl ?_
        show Steps p.tables e below (T50.setTop (mkF m 123 #[.val (.long q1), .second, .val (.long q2), .second, .val (.long q3), .second, .val (.int p4), .val (.int v7), .val (.ref b2), .val (.long q2), .second, .val (.int u111s0_1), .unset, .unset, .unset, .unset] [(.long q2)])) _
        refine XS.lload X50.here hx rfl (hb hby at_123) rfl ?_
        show Steps p.tables e below (T50.setTop (mkF m 125 #[.val (.long q1), .second, .val (.long q2), .second, .val (.long q3), .second, .val (.int p4), .val (.int v7), .val (.ref b2), .val (.long q2), .second, .val (.int u111s0_1), .unset, .unset, .unset, .unset] [(.long q3), (.long q2)])) _
        exact k
      obtain ⟨_, _, ⟨T52, L52, k52, n52⟩, -, X52, ⟨Lc52, hQ52, l52, y52, z52⟩, st52⟩ := Jvm.LawKit.callS X50 hx (y := (⟨"java/lang/Math", "max", "(JJ)J"⟩ : MethodName)) hown (mvT hZ (hw _ (List.mem_of_getElem? (i := 62) rfl))) (mvT hZ (hw _ (List.mem_of_getElem? (i := 63) rfl))) (mvT hZ (hw _ (List.mem_of_getElem? (i := 40) rfl))) (mvT hZ (hw _ (List.mem_of_getElem? (i := 64) rfl))) (by decide) (backOf (W := 0) (rm11 l Z a0 hw [] q2 q3 T50.heap n0 Z50) hZ (hw _ (List.mem_of_getElem? (i := 64) rfl)) (hw _ (List.mem_of_getElem? (i := 40) rfl)) (by decide) (by decide)) (g := (mkF m 125 #[.val (.long q1), .second, .val (.long q2), .second, .val (.long q3), .second, .val (.int p4), .val (.int v7), .val (.ref b2), .val (.long q2), .second, .val (.int u111s0_1), .unset, .unset, .unset, .unset] [(.long q3), (.long q2)])) rfl (by rw [hml]; rfl) (argsL := [(.long q2), (.long q3)]) (rest := []) (lenOf pd0_5 rfl) rfl (by show 2 * 0 + _ ≤ _; exact Nat.le_of_eq rfl) (hb hby at_125) (fun _ _ => ⟨rfl, rfl, (by decide : 4 + 0 ≤ _), (by decide : 11 + 0 ≤ _)⟩)
      dsimp only [Pt.U, Pt.locs, Pt.cells, Pt.slots] at X52 l52 y52 z52 st52 hQ52
      subst l52 y52 z52
      obtain ⟨rfl, Nq52, e52⟩ := hQ52
      have N52 := Fr.app N50 Nq52
      have pre52 : ∀ t, Steps p.tables e below (T52.setTop (mkF m 128 #[.val (.long q1), .second, .val (.long q2), .second, .val (.long q3), .second, .val (.int p4), .val (.int v7), .val (.ref b2), .val (.long q2), .second, .val (.int u111s0_1), .unset, .unset, .unset, .unset] [(.long (fn11 q2 q3))])) t → Steps p.tables e below (s₁.setTop (entryFrame m #[(.long q1), (.long q2), (.long q3), (.int p4)] maxLocals)) t := fun t k => pre51 t (st52 _ k)
      obtain ⟨v128_1, hv128_1⟩ : ∃ z : Int64, z = (fn11 q2 q3) := ⟨_, rfl⟩
      have pre53 : ∀ t, Steps p.tables e below (T52.setTop (mkF m 130 #[.val (.long q1), .second, .val (.long q2), .second, .val (.long q3), .second, .val (.int p4), .val (.int v7), .val (.ref b2), .val (.long q2), .second, .val (.int u111s0_1), .val (.long v128_1), .second, .unset, .unset] [])) t → Steps p.tables e below (s₁.setTop (entryFrame m #[(.long q1), (.long q2), (.long q3), (.int p4)] maxLocals)) t := by
        intro t k
        subst hv128_1
        refine pre52 t ?_
        refine XS.lstore X52.here hx rfl (hb hby at_128) rfl (l' := #[.val (.long q1), .second, .val (.long q2), .second, .val (.long q3), .second, .val (.int p4), .val (.int v7), .val (.ref b2), .val (.long q2), .second, .val (.int u111s0_1), .val (.long (fn11 q2 q3)), .second, .unset, .unset]) rfl ?_
        show Steps p.tables e below (T52.setTop (mkF m 130 #[.val (.long q1), .second, .val (.long q2), .second, .val (.long q3), .second, .val (.int p4), .val (.int v7), .val (.ref b2), .val (.long q2), .second, .val (.int u111s0_1), .val (.long (fn11 q2 q3)), .second, .unset, .unset] [])) _
        exact k
      have pre54 : ∀ t, Steps p.tables e below (T52.setTop (mkF m 163 #[.val (.long q1), .second, .val (.long q2), .second, .val (.long q3), .second, .val (.int p4), .val (.int v7), .val (.ref b2), .val (.long q2), .second, .val (.int u111s0_1), .val (.long v128_1), .second, .unset, .unset] [(.long v128_1), (.long q1), (.long q2)])) t → Steps p.tables e below (s₁.setTop (entryFrame m #[(.long q1), (.long q2), (.long q3), (.int p4)] maxLocals)) t := by
        intro t k
        refine pre53 t ?_
        refine XS.iload X52.here hx rfl (hb hby at_130) rfl ?_
        show Steps p.tables e below (T52.setTop (mkF m 132 #[.val (.long q1), .second, .val (.long q2), .second, .val (.long q3), .second, .val (.int p4), .val (.int v7), .val (.ref b2), .val (.long q2), .second, .val (.int u111s0_1), .val (.long v128_1), .second, .unset, .unset] [(.int v7)])) _
        refine XS.ifYes X52.here hx rfl (pc0 := 132) (pc' := 146) rfl (hb hby at_132) rfl ((if0 _ _).trans (feq (own_m2 hc54)).2) (by decide) (by decide) ?_
        show Steps p.tables e below (T52.setTop (mkF m 146 #[.val (.long q1), .second, .val (.long q2), .second, .val (.long q3), .second, .val (.int p4), .val (.int v7), .val (.ref b2), .val (.long q2), .second, .val (.int u111s0_1), .val (.long v128_1), .second, .unset, .unset] [])) _
        refine XS.iload X52.here hx rfl (hb hby at_146) rfl ?_
        show Steps p.tables e below (T52.setTop (mkF m 148 #[.val (.long q1), .second, .val (.long q2), .second, .val (.long q3), .second, .val (.int p4), .val (.int v7), .val (.ref b2), .val (.long q2), .second, .val (.int u111s0_1), .val (.long v128_1), .second, .unset, .unset] [(.int v7)])) _
        refine XS.iconst X52.here hx rfl (hb hby at_148) ?_
        show Steps p.tables e below (T52.setTop (mkF m 149 #[.val (.long q1), .second, .val (.long q2), .second, .val (.long q3), .second, .val (.int p4), .val (.int v7), .val (.ref b2), .val (.long q2), .second, .val (.int u111s0_1), .val (.long v128_1), .second, .unset, .unset] [(.int (1 : Int32)), (.int v7)])) _
        refine XS.icmpYes X52.here hx rfl (pc0 := 149) (pc' := 159) rfl (hb hby at_149) rfl (feq hc38).2 (by decide) (by decide) ?_
        show Steps p.tables e below (T52.setTop (mkF m 159 #[.val (.long q1), .second, .val (.long q2), .second, .val (.long q3), .second, .val (.int p4), .val (.int v7), .val (.ref b2), .val (.long q2), .second, .val (.int u111s0_1), .val (.long v128_1), .second, .unset, .unset] [])) _
        refine XS.lloadN X52.here hx rfl (hb hby at_159) rfl ?_
        show Steps p.tables e below (T52.setTop (mkF m 160 #[.val (.long q1), .second, .val (.long q2), .second, .val (.long q3), .second, .val (.int p4), .val (.int v7), .val (.ref b2), .val (.long q2), .second, .val (.int u111s0_1), .val (.long v128_1), .second, .unset, .unset] [(.long q2)])) _
        refine XS.lloadN X52.here hx rfl (hb hby at_160) rfl ?_
        show Steps p.tables e below (T52.setTop (mkF m 161 #[.val (.long q1), .second, .val (.long q2), .second, .val (.long q3), .second, .val (.int p4), .val (.int v7), .val (.ref b2), .val (.long q2), .second, .val (.int u111s0_1), .val (.long v128_1), .second, .unset, .unset] [(.long q1), (.long q2)])) _
        refine XS.lload X52.here hx rfl (hb hby at_161) rfl ?_
        show Steps p.tables e below (T52.setTop (mkF m 163 #[.val (.long q1), .second, .val (.long q2), .second, .val (.long q3), .second, .val (.int p4), .val (.int v7), .val (.ref b2), .val (.long q2), .second, .val (.int u111s0_1), .val (.long v128_1), .second, .unset, .unset] [(.long v128_1), (.long q1), (.long q2)])) _
        exact k
      obtain ⟨_, _, ⟨T55, L55, k55, n55⟩, -, X55, ⟨Lc55, hQ55, l55, y55, z55⟩, st55⟩ := Jvm.LawKit.callS X52 hx (y := (⟨"java/lang/Math", "min", "(JJ)J"⟩ : MethodName)) hown (mvT hZ (hw _ (List.mem_of_getElem? (i := 65) rfl))) (mvT hZ (hw _ (List.mem_of_getElem? (i := 39) rfl))) (mvT hZ (hw _ (List.mem_of_getElem? (i := 40) rfl))) (mvT hZ (hw _ (List.mem_of_getElem? (i := 41) rfl))) (by decide) (backOf (W := 2) (rm6 l Z a0 hw [] q1 v128_1 T50.heap n0 Z50) hZ (hw _ (List.mem_of_getElem? (i := 41) rfl)) (hw _ (List.mem_of_getElem? (i := 40) rfl)) (by decide) (by decide)) (g := (mkF m 163 #[.val (.long q1), .second, .val (.long q2), .second, .val (.long q3), .second, .val (.int p4), .val (.int v7), .val (.ref b2), .val (.long q2), .second, .val (.int u111s0_1), .val (.long v128_1), .second, .unset, .unset] [(.long v128_1), (.long q1), (.long q2)])) rfl (by rw [hml]; rfl) (argsL := [(.long q1), (.long v128_1)]) (rest := [(.long q2)]) (lenOf pd0_5 rfl) rfl (by show 2 * 0 + _ ≤ _; exact Nat.le_of_eq rfl) (hb hby at_163) (fun _ _ => ⟨rfl, e52, (by decide : 4 + 0 ≤ _), (by decide : 11 + 0 ≤ _)⟩)
      dsimp only [Pt.U, Pt.locs, Pt.cells, Pt.slots] at X55 l55 y55 z55 st55 hQ55
      subst l55 y55 z55
      obtain ⟨rfl, Nq55, e55⟩ := hQ55
      have N55 := Fr.app N52 Nq55
      have pre55 : ∀ t, Steps p.tables e below (T55.setTop (mkF m 166 #[.val (.long q1), .second, .val (.long q2), .second, .val (.long q3), .second, .val (.int p4), .val (.int v7), .val (.ref b2), .val (.long q2), .second, .val (.int u111s0_1), .val (.long v128_1), .second, .unset, .unset] [(.long (fn6 q1 v128_1)), (.long q2)])) t → Steps p.tables e below (s₁.setTop (entryFrame m #[(.long q1), (.long q2), (.long q3), (.int p4)] maxLocals)) t := fun t k => pre54 t (st55 _ k)
      obtain ⟨_, _, ⟨T56, L56, k56, n56⟩, -, X56, ⟨Lc56, hQ56, l56, y56, z56⟩, st56⟩ := Jvm.LawKit.callS X55 hx (y := (⟨"java/lang/Math", "max", "(JJ)J"⟩ : MethodName)) hown (mvT hZ (hw _ (List.mem_of_getElem? (i := 62) rfl))) (mvT hZ (hw _ (List.mem_of_getElem? (i := 63) rfl))) (mvT hZ (hw _ (List.mem_of_getElem? (i := 40) rfl))) (mvT hZ (hw _ (List.mem_of_getElem? (i := 64) rfl))) (by decide) (backOf (W := 0) (rm11 l Z a0 hw [] q2 (fn6 q1 v128_1) T50.heap n0 Z50) hZ (hw _ (List.mem_of_getElem? (i := 64) rfl)) (hw _ (List.mem_of_getElem? (i := 40) rfl)) (by decide) (by decide)) (g := (mkF m 166 #[.val (.long q1), .second, .val (.long q2), .second, .val (.long q3), .second, .val (.int p4), .val (.int v7), .val (.ref b2), .val (.long q2), .second, .val (.int u111s0_1), .val (.long v128_1), .second, .unset, .unset] [(.long (fn6 q1 v128_1)), (.long q2)])) rfl (by rw [hml]; rfl) (argsL := [(.long q2), (.long (fn6 q1 v128_1))]) (rest := []) (lenOf pd0_5 rfl) rfl (by show 2 * 0 + _ ≤ _; exact Nat.le_of_eq rfl) (hb hby at_166) (fun _ _ => ⟨rfl, e55, (by decide : 4 + 0 ≤ _), (by decide : 11 + 0 ≤ _)⟩)
      dsimp only [Pt.U, Pt.locs, Pt.cells, Pt.slots] at X56 l56 y56 z56 st56 hQ56
      subst l56 y56 z56
      obtain ⟨rfl, Nq56, e56⟩ := hQ56
      have N56 := Fr.app N55 Nq56
      have pre56 : ∀ t, Steps p.tables e below (T56.setTop (mkF m 169 #[.val (.long q1), .second, .val (.long q2), .second, .val (.long q3), .second, .val (.int p4), .val (.int v7), .val (.ref b2), .val (.long q2), .second, .val (.int u111s0_1), .val (.long v128_1), .second, .unset, .unset] [(.long (fn11 q2 (fn6 q1 v128_1)))])) t → Steps p.tables e below (s₁.setTop (entryFrame m #[(.long q1), (.long q2), (.long q3), (.int p4)] maxLocals)) t := fun t k => pre55 t (st56 _ k)
      obtain ⟨v169, hv169⟩ : ∃ z : Int64, z = (fn11 q2 (fn6 q1 v128_1)) := ⟨_, rfl⟩
      have pre57 : ∀ t, Steps p.tables e below (T56.setTop (mkF m 171 #[.val (.long q1), .second, .val (.long q2), .second, .val (.long q3), .second, .val (.int p4), .val (.int v7), .val (.ref b2), .val (.long q2), .second, .val (.int u111s0_1), .val (.long v128_1), .second, .val (.long v169), .second] [])) t → Steps p.tables e below (s₁.setTop (entryFrame m #[(.long q1), (.long q2), (.long q3), (.int p4)] maxLocals)) t := by
        intro t k
        subst hv169
        refine pre56 t ?_
        refine XS.lstore X56.here hx rfl (hb hby at_169) rfl (l' := #[.val (.long q1), .second, .val (.long q2), .second, .val (.long q3), .second, .val (.int p4), .val (.int v7), .val (.ref b2), .val (.long q2), .second, .val (.int u111s0_1), .val (.long v128_1), .second, .val (.long (fn11 q2 (fn6 q1 v128_1))), .second]) rfl ?_
        show Steps p.tables e below (T56.setTop (mkF m 171 #[.val (.long q1), .second, .val (.long q2), .second, .val (.long q3), .second, .val (.int p4), .val (.int v7), .val (.ref b2), .val (.long q2), .second, .val (.int u111s0_1), .val (.long v128_1), .second, .val (.long (fn11 q2 (fn6 q1 v128_1))), .second] [])) _
        exact k
      have pre58 : ∀ t, Steps p.tables e below (T56.setTop (mkF m 173 #[.val (.long q1), .second, .val (.long q2), .second, .val (.long q3), .second, .val (.int p4), .val (.int v7), .val (.ref b2), .val (.long q2), .second, .val (.int u111s0_1), .val (.long v128_1), .second, .val (.long v169), .second] [(.int u111s0_1)])) t → Steps p.tables e below (s₁.setTop (entryFrame m #[(.long q1), (.long q2), (.long q3), (.int p4)] maxLocals)) t := by
        intro t k
        refine pre57 t ?_
        refine XS.iload X56.here hx rfl (hb hby at_171) rfl ?_
        show Steps p.tables e below (T56.setTop (mkF m 173 #[.val (.long q1), .second, .val (.long q2), .second, .val (.long q3), .second, .val (.int p4), .val (.int v7), .val (.ref b2), .val (.long q2), .second, .val (.int u111s0_1), .val (.long v128_1), .second, .val (.long v169), .second] [(.int u111s0_1)])) _
        exact k
      have hd173 : ¬ u111s0_1 = (0 : Int32) := own_ok hu111s0_1 (own_op hx47).1
      have pre59 : ∀ t, Steps p.tables e below (T56.setTop (mkF m 178 #[.val (.long q1), .second, .val (.long q2), .second, .val (.long q3), .second, .val (.int p4), .val (.int v7), .val (.ref b2), .val (.long q2), .second, .val (.int u111s0_1), .val (.long v128_1), .second, .val (.long v169), .second] [(.ref b2)])) t → Steps p.tables e below (s₁.setTop (entryFrame m #[(.long q1), (.long q2), (.long q3), (.int p4)] maxLocals)) t := by
        intro t k
        refine pre58 t ?_
        refine XS.ifNo X56.here hx rfl (hb hby at_173) rfl ((if0 _ _).trans (feq hd173).1) ?_
        show Steps p.tables e below (T56.setTop (mkF m 176 #[.val (.long q1), .second, .val (.long q2), .second, .val (.long q3), .second, .val (.int p4), .val (.int v7), .val (.ref b2), .val (.long q2), .second, .val (.int u111s0_1), .val (.long v128_1), .second, .val (.long v169), .second] [])) _
        refine XS.aload X56.here hx rfl (hb hby at_176) rfl rfl ?_
        show Steps p.tables e below (T56.setTop (mkF m 178 #[.val (.long q1), .second, .val (.long q2), .second, .val (.long q3), .second, .val (.int p4), .val (.int v7), .val (.ref b2), .val (.long q2), .second, .val (.int u111s0_1), .val (.long v128_1), .second, .val (.long v169), .second] [(.ref b2)])) _
        exact k
      obtain ⟨cq60, kq60, qa60, qb60, qc60⟩ := isOf hZ e56 w50_e
      obtain ⟨_, _, ⟨T60, L60, k60, n60⟩, -, X60, ⟨Lc60, hQ60, l60, y60, z60⟩, st60⟩ := X56.virtualBack hx (y := (⟨"sluice/stream/Watermarks", "lowest", "()J"⟩ : MethodName)) (z := (⟨"sluice/stream/Watermarks", "lowest", "()J"⟩ : MethodName)) hown (mvT hZ (hw _ (List.mem_of_getElem? (i := 52) rfl))) (mvT hZ (hw _ (List.mem_of_getElem? (i := 53) rfl))) (notFace_of_selects (args := #[]) (mvT hZ (hw _ (List.mem_of_getElem? (i := 55) rfl)))) (mvT hZ (hw _ (List.mem_of_getElem? (i := 55) rfl))) (mvT hZ (hw _ (List.mem_of_getElem? (i := 54) rfl))) (by decide) (backOf (W := 0) (rmlo l Z a0 hw [] b2 bm4 bs4 bl4 x50.2.1 x50.2.2.1 x50.2.2.2 (0 : Int32) (0 : Int32) (1 : Int32) (0 : Int32) (2 : Int32) T50.heap n0 Z50 ⟨w50_e, w50_lowest, w50_marks, w50_states, w50_live, w50_open, w50_am, w50_as, w50_al, w50_ga, w50_gm, w50_gs, w50_gl, w50_1, w50_2, w50_3, w50_4, w50_5, w50_6⟩) hZ (hw _ (List.mem_of_getElem? (i := 56) rfl)) (hw _ (List.mem_of_getElem? (i := 3) rfl)) (by decide) (by decide)) qa60 qc60 (g := (mkF m 178 #[.val (.long q1), .second, .val (.long q2), .second, .val (.long q3), .second, .val (.int p4), .val (.int v7), .val (.ref b2), .val (.long q2), .second, .val (.int u111s0_1), .val (.long v128_1), .second, .val (.long v169), .second] [(.ref b2)])) rfl (by rw [hml]; rfl) (Steps.refl _) (argsL := []) (rest := []) (lenOf pd0_3 rfl) rfl (by show 2 * 0 + _ ≤ _; exact Nat.le_of_eq rfl) (hb hby at_178) (fun _ _ => ⟨rfl, e56, (by decide : 4 + 0 ≤ _), (by decide : 11 + 0 ≤ _)⟩)
      dsimp only [Pt.U, Pt.locs, Pt.cells, Pt.slots] at X60 l60 y60 z60 st60 hQ60
      subst l60 y60 z60
      unfold Qlo at hQ60
      obtain ⟨x60, hx60⟩ : ∃ z : Int64 × Int64 × Int64 × Int64, z = (fnlo x50.2.1 x50.2.2.1 x50.2.2.2) := ⟨_, rfl⟩
      rw [← hx60] at hQ60
      obtain ⟨rfl, Nq60, J60⟩ := hQ60
      obtain ⟨w60_e, w60_lowest, w60_marks, w60_states, w60_live, w60_open, w60_am, w60_as, w60_al, w60_ga, w60_gm, w60_gs, w60_gl, w60_1, w60_2, w60_3, w60_4, w60_5, w60_6⟩ := J60
      have Z60 : n0 ≤ T60.heap.size := Nat.le_of_lt (Nat.lt_of_le_of_lt w60_ga w60_e.lt)
      have N60 := Fr.app N56 Nq60
      have pre60 : ∀ t, Steps p.tables e below (T60.setTop (mkF m 181 #[.val (.long q1), .second, .val (.long q2), .second, .val (.long q3), .second, .val (.int p4), .val (.int v7), .val (.ref b2), .val (.long q2), .second, .val (.int u111s0_1), .val (.long v128_1), .second, .val (.long v169), .second] [(.long x60.1)])) t → Steps p.tables e below (s₁.setTop (entryFrame m #[(.long q1), (.long q2), (.long q3), (.int p4)] maxLocals)) t := fun t k => pre59 t (st60.trans k)
      obtain ⟨u192s0_1, hu192s0_1⟩ : ∃ z : Int32, z = (if x60.1 = v169 then (1 : Int32) else (0 : Int32)) := ⟨_, rfl⟩
      have pre61 : ∀ t, Steps p.tables e below (T60.setTop (mkF m 192 #[.val (.long q1), .second, .val (.long q2), .second, .val (.long q3), .second, .val (.int p4), .val (.int v7), .val (.ref b2), .val (.long q2), .second, .val (.int u111s0_1), .val (.long v128_1), .second, .val (.long v169), .second] [(.int u192s0_1)])) t → Steps p.tables e below (s₁.setTop (entryFrame m #[(.long q1), (.long q2), (.long q3), (.int p4)] maxLocals)) t := by
        intro t k
        subst hu192s0_1
        refine pre60 t ?_
        refine XS.lload X60.here hx rfl (hb hby at_181) rfl ?_
        show Steps p.tables e below (T60.setTop (mkF m 183 #[.val (.long q1), .second, .val (.long q2), .second, .val (.long q3), .second, .val (.int p4), .val (.int v7), .val (.ref b2), .val (.long q2), .second, .val (.int u111s0_1), .val (.long v128_1), .second, .val (.long v169), .second] [(.long v169), (.long x60.1)])) _
        refine XS.lcmp X60.here hx rfl (hb hby at_183) rfl ?_
        show Steps p.tables e below (T60.setTop (mkF m 184 #[.val (.long q1), .second, .val (.long q2), .second, .val (.long q3), .second, .val (.int p4), .val (.int v7), .val (.ref b2), .val (.long q2), .second, .val (.int u111s0_1), .val (.long v128_1), .second, .val (.long v169), .second] [(.int (lcmpW x60.1 v169))])) _
        by_cases hb184 : x60.1 = v169
        · simp only [if_pos hb184] at k
          refine XS.ifNo X60.here hx rfl (hb hby at_184) rfl (own_Teq hb184).2 ?_
          show Steps p.tables e below (T60.setTop (mkF m 187 #[.val (.long q1), .second, .val (.long q2), .second, .val (.long q3), .second, .val (.int p4), .val (.int v7), .val (.ref b2), .val (.long q2), .second, .val (.int u111s0_1), .val (.long v128_1), .second, .val (.long v169), .second] [])) _
          refine XS.iconst X60.here hx rfl (hb hby at_187) ?_
          show Steps p.tables e below (T60.setTop (mkF m 188 #[.val (.long q1), .second, .val (.long q2), .second, .val (.long q3), .second, .val (.int p4), .val (.int v7), .val (.ref b2), .val (.long q2), .second, .val (.int u111s0_1), .val (.long v128_1), .second, .val (.long v169), .second] [(.int (1 : Int32))])) _
          refine XS.goto X60.here hx rfl (pc0 := 188) (pc' := 192) rfl (hb hby at_188) (by decide) (by decide) ?_
          show Steps p.tables e below (T60.setTop (mkF m 192 #[.val (.long q1), .second, .val (.long q2), .second, .val (.long q3), .second, .val (.int p4), .val (.int v7), .val (.ref b2), .val (.long q2), .second, .val (.int u111s0_1), .val (.long v128_1), .second, .val (.long v169), .second] [(.int (1 : Int32))])) _
          exact k
        · simp only [if_neg hb184] at k
          refine XS.ifYes X60.here hx rfl (pc0 := 184) (pc' := 191) rfl (hb hby at_184) rfl (own_Feq hb184).2 (by decide) (by decide) ?_
          show Steps p.tables e below (T60.setTop (mkF m 191 #[.val (.long q1), .second, .val (.long q2), .second, .val (.long q3), .second, .val (.int p4), .val (.int v7), .val (.ref b2), .val (.long q2), .second, .val (.int u111s0_1), .val (.long v128_1), .second, .val (.long v169), .second] [])) _
          refine XS.iconst X60.here hx rfl (hb hby at_191) ?_
          show Steps p.tables e below (T60.setTop (mkF m 192 #[.val (.long q1), .second, .val (.long q2), .second, .val (.long q3), .second, .val (.int p4), .val (.int v7), .val (.ref b2), .val (.long q2), .second, .val (.int u111s0_1), .val (.long v128_1), .second, .val (.long v169), .second] [(.int (0 : Int32))])) _
          exact k
      have pre62 : ∀ t, Steps p.tables e below (T60.setTop (mkF m 197 #[.val (.long q1), .second, .val (.long q2), .second, .val (.long q3), .second, .val (.int p4), .val (.int v7), .val (.ref b2), .val (.long q2), .second, .val (.int u192s0_1), .val (.long v128_1), .second, .val (.long v169), .second] [(.int (1 : Int32)), (.ref b2)])) t → Steps p.tables e below (s₁.setTop (entryFrame m #[(.long q1), (.long q2), (.long q3), (.int p4)] maxLocals)) t := by
        intro t k
        refine pre61 t ?_
        refine XS.istore X60.here hx rfl (hb hby at_192) rfl (l' := #[.val (.long q1), .second, .val (.long q2), .second, .val (.long q3), .second, .val (.int p4), .val (.int v7), .val (.ref b2), .val (.long q2), .second, .val (.int u192s0_1), .val (.long v128_1), .second, .val (.long v169), .second]) rfl ?_
        show Steps p.tables e below (T60.setTop (mkF m 194 #[.val (.long q1), .second, .val (.long q2), .second, .val (.long q3), .second, .val (.int p4), .val (.int v7), .val (.ref b2), .val (.long q2), .second, .val (.int u192s0_1), .val (.long v128_1), .second, .val (.long v169), .second] [])) _
        refine XS.aload X60.here hx rfl (hb hby at_194) rfl rfl ?_
        show Steps p.tables e below (T60.setTop (mkF m 196 #[.val (.long q1), .second, .val (.long q2), .second, .val (.long q3), .second, .val (.int p4), .val (.int v7), .val (.ref b2), .val (.long q2), .second, .val (.int u192s0_1), .val (.long v128_1), .second, .val (.long v169), .second] [(.ref b2)])) _
        refine XS.iconst X60.here hx rfl (hb hby at_196) ?_
        show Steps p.tables e below (T60.setTop (mkF m 197 #[.val (.long q1), .second, .val (.long q2), .second, .val (.long q3), .second, .val (.int p4), .val (.int v7), .val (.ref b2), .val (.long q2), .second, .val (.int u192s0_1), .val (.long v128_1), .second, .val (.long v169), .second] [(.int (1 : Int32)), (.ref b2)])) _
        exact k
      obtain ⟨cq63, kq63, qa63, qb63, qc63⟩ := isOf hZ rfl w60_e
      obtain ⟨_, _, ⟨T63, L63, k63, n63⟩, -, X63, ⟨Lc63, hQ63, l63, y63, z63⟩, st63⟩ := X60.virtualBack hx (y := (⟨"sluice/stream/Watermarks", "end", "(I)Z"⟩ : MethodName)) (z := (⟨"sluice/stream/Watermarks", "end", "(I)Z"⟩ : MethodName)) hown (mvT hZ (hw _ (List.mem_of_getElem? (i := 42) rfl))) (mvT hZ (hw _ (List.mem_of_getElem? (i := 43) rfl))) (notFace_of_selects (args := #[]) (mvT hZ (hw _ (List.mem_of_getElem? (i := 45) rfl)))) (mvT hZ (hw _ (List.mem_of_getElem? (i := 45) rfl))) (mvT hZ (hw _ (List.mem_of_getElem? (i := 44) rfl))) (by decide) (backOf (W := 0) (rme3 l Z a0 hw [] b2 bm4 bs4 bl4 x60.2.1 x60.2.2.1 x60.2.2.2 T60.heap n0 Z60 ⟨w60_e, w60_lowest, w60_marks, w60_states, w60_live, w60_open, w60_am, w60_as, w60_al, w60_ga, w60_gm, w60_gs, w60_gl, w60_1, w60_2, w60_3, w60_4, w60_5, w60_6⟩) hZ (hw _ (List.mem_of_getElem? (i := 46) rfl)) (hw _ (List.mem_of_getElem? (i := 3) rfl)) (by decide) (by decide)) qa63 qc63 (g := (mkF m 197 #[.val (.long q1), .second, .val (.long q2), .second, .val (.long q3), .second, .val (.int p4), .val (.int v7), .val (.ref b2), .val (.long q2), .second, .val (.int u192s0_1), .val (.long v128_1), .second, .val (.long v169), .second] [(.int (1 : Int32)), (.ref b2)])) rfl (by rw [hml]; rfl) (Steps.refl _) (argsL := [(.int (1 : Int32))]) (rest := []) (lenOf pd0_2 rfl) rfl (by show 2 * 0 + _ ≤ _; exact Nat.le_of_eq rfl) (hb hby at_197) (fun _ _ => ⟨rfl, rfl, (by decide : 4 + 0 ≤ _), (by decide : 11 + 0 ≤ _)⟩)
      dsimp only [Pt.U, Pt.locs, Pt.cells, Pt.slots] at X63 l63 y63 z63 st63 hQ63
      subst l63 y63 z63
      unfold Qe3 at hQ63
      obtain ⟨x63, hx63⟩ : ∃ z : Int32 × Int64 × Int64 × Int64, z = (fne3 x60.2.1 x60.2.2.1 x60.2.2.2) := ⟨_, rfl⟩
      rw [← hx63] at hQ63
      obtain ⟨rfl, Nq63, J63⟩ := hQ63
      obtain ⟨w63_e, w63_lowest, w63_marks, w63_states, w63_live, w63_open, w63_am, w63_as, w63_al, w63_ga, w63_gm, w63_gs, w63_gl, w63_1, w63_2, w63_3, w63_4, w63_5, w63_6⟩ := J63
      have Z63 : n0 ≤ T63.heap.size := Nat.le_of_lt (Nat.lt_of_le_of_lt w63_ga w63_e.lt)
      have N63 := Fr.app N60 Nq63
      have pre63 : ∀ t, Steps p.tables e below (T63.setTop (mkF m 200 #[.val (.long q1), .second, .val (.long q2), .second, .val (.long q3), .second, .val (.int p4), .val (.int v7), .val (.ref b2), .val (.long q2), .second, .val (.int u192s0_1), .val (.long v128_1), .second, .val (.long v169), .second] [(.int x63.1)])) t → Steps p.tables e below (s₁.setTop (entryFrame m #[(.long q1), (.long q2), (.long q3), (.int p4)] maxLocals)) t := fun t k => pre62 t (st63.trans k)
      have pre64 : ∀ t, Steps p.tables e below (T63.setTop (mkF m 203 #[.val (.long q1), .second, .val (.long q2), .second, .val (.long q3), .second, .val (.int p4), .val (.int v7), .val (.ref b2), .val (.long q2), .second, .val (.int u192s0_1), .val (.long v128_1), .second, .val (.long v169), .second] [(.int u192s0_1)])) t → Steps p.tables e below (s₁.setTop (entryFrame m #[(.long q1), (.long q2), (.long q3), (.int p4)] maxLocals)) t := by
        intro t k
        refine pre63 t ?_
        refine XS.pop X63.here hx rfl (hb hby at_200) rfl rfl ?_
        show Steps p.tables e below (T63.setTop (mkF m 201 #[.val (.long q1), .second, .val (.long q2), .second, .val (.long q3), .second, .val (.int p4), .val (.int v7), .val (.ref b2), .val (.long q2), .second, .val (.int u192s0_1), .val (.long v128_1), .second, .val (.long v169), .second] [])) _
        refine XS.iload X63.here hx rfl (hb hby at_201) rfl ?_
        show Steps p.tables e below (T63.setTop (mkF m 203 #[.val (.long q1), .second, .val (.long q2), .second, .val (.long q3), .second, .val (.int p4), .val (.int v7), .val (.ref b2), .val (.long q2), .second, .val (.int u192s0_1), .val (.long v128_1), .second, .val (.long v169), .second] [(.int u192s0_1)])) _
        exact k
      have yZ := own_z2 yY hx47 hx50 hv128_1 hv169 hx60
      have hd203 : ¬ u192s0_1 = (0 : Int32) := own_ok hu192s0_1 yZ.1
      have pre65 : ∀ t, Steps p.tables e below (T63.setTop (mkF m 208 #[.val (.long q1), .second, .val (.long q2), .second, .val (.long q3), .second, .val (.int p4), .val (.int v7), .val (.ref b2), .val (.long q2), .second, .val (.int u192s0_1), .val (.long v128_1), .second, .val (.long v169), .second] [(.ref b2)])) t → Steps p.tables e below (s₁.setTop (entryFrame m #[(.long q1), (.long q2), (.long q3), (.int p4)] maxLocals)) t := by
        intro t k
        refine pre64 t ?_
        refine XS.ifNo X63.here hx rfl (hb hby at_203) rfl ((if0 _ _).trans (feq hd203).1) ?_
        show Steps p.tables e below (T63.setTop (mkF m 206 #[.val (.long q1), .second, .val (.long q2), .second, .val (.long q3), .second, .val (.int p4), .val (.int v7), .val (.ref b2), .val (.long q2), .second, .val (.int u192s0_1), .val (.long v128_1), .second, .val (.long v169), .second] [])) _
        refine XS.aload X63.here hx rfl (hb hby at_206) rfl rfl ?_
        show Steps p.tables e below (T63.setTop (mkF m 208 #[.val (.long q1), .second, .val (.long q2), .second, .val (.long q3), .second, .val (.int p4), .val (.int v7), .val (.ref b2), .val (.long q2), .second, .val (.int u192s0_1), .val (.long v128_1), .second, .val (.long v169), .second] [(.ref b2)])) _
        exact k
      obtain ⟨cq66, kq66, qa66, qb66, qc66⟩ := isOf hZ rfl w63_e
      obtain ⟨_, _, ⟨T66, L66, k66, n66⟩, -, X66, ⟨Lc66, hQ66, l66, y66, z66⟩, st66⟩ := X63.virtualBack hx (y := (⟨"sluice/stream/Watermarks", "lowest", "()J"⟩ : MethodName)) (z := (⟨"sluice/stream/Watermarks", "lowest", "()J"⟩ : MethodName)) hown (mvT hZ (hw _ (List.mem_of_getElem? (i := 52) rfl))) (mvT hZ (hw _ (List.mem_of_getElem? (i := 53) rfl))) (notFace_of_selects (args := #[]) (mvT hZ (hw _ (List.mem_of_getElem? (i := 55) rfl)))) (mvT hZ (hw _ (List.mem_of_getElem? (i := 55) rfl))) (mvT hZ (hw _ (List.mem_of_getElem? (i := 54) rfl))) (by decide) (backOf (W := 0) (rmlo l Z a0 hw [] b2 bm4 bs4 bl4 x63.2.1 x63.2.2.1 x63.2.2.2 (0 : Int32) (2 : Int32) (0 : Int32) (0 : Int32) (1 : Int32) T63.heap n0 Z63 ⟨w63_e, w63_lowest, w63_marks, w63_states, w63_live, w63_open, w63_am, w63_as, w63_al, w63_ga, w63_gm, w63_gs, w63_gl, w63_1, w63_2, w63_3, w63_4, w63_5, w63_6⟩) hZ (hw _ (List.mem_of_getElem? (i := 56) rfl)) (hw _ (List.mem_of_getElem? (i := 3) rfl)) (by decide) (by decide)) qa66 qc66 (g := (mkF m 208 #[.val (.long q1), .second, .val (.long q2), .second, .val (.long q3), .second, .val (.int p4), .val (.int v7), .val (.ref b2), .val (.long q2), .second, .val (.int u192s0_1), .val (.long v128_1), .second, .val (.long v169), .second] [(.ref b2)])) rfl (by rw [hml]; rfl) (Steps.refl _) (argsL := []) (rest := []) (lenOf pd0_3 rfl) rfl (by show 2 * 0 + _ ≤ _; exact Nat.le_of_eq rfl) (hb hby at_208) (fun _ _ => ⟨rfl, rfl, (by decide : 4 + 0 ≤ _), (by decide : 11 + 0 ≤ _)⟩)
      dsimp only [Pt.U, Pt.locs, Pt.cells, Pt.slots] at X66 l66 y66 z66 st66 hQ66
      subst l66 y66 z66
      unfold Qlo at hQ66
      obtain ⟨x66, hx66⟩ : ∃ z : Int64 × Int64 × Int64 × Int64, z = (fnlo x63.2.1 x63.2.2.1 x63.2.2.2) := ⟨_, rfl⟩
      rw [← hx66] at hQ66
      obtain ⟨rfl, Nq66, J66⟩ := hQ66
      obtain ⟨w66_e, w66_lowest, w66_marks, w66_states, w66_live, w66_open, w66_am, w66_as, w66_al, w66_ga, w66_gm, w66_gs, w66_gl, w66_1, w66_2, w66_3, w66_4, w66_5, w66_6⟩ := J66
      have Z66 : n0 ≤ T66.heap.size := Nat.le_of_lt (Nat.lt_of_le_of_lt w66_ga w66_e.lt)
      have N66 := Fr.app N63 Nq66
      have pre66 : ∀ t, Steps p.tables e below (T66.setTop (mkF m 211 #[.val (.long q1), .second, .val (.long q2), .second, .val (.long q3), .second, .val (.int p4), .val (.int v7), .val (.ref b2), .val (.long q2), .second, .val (.int u192s0_1), .val (.long v128_1), .second, .val (.long v169), .second] [(.long x66.1)])) t → Steps p.tables e below (s₁.setTop (entryFrame m #[(.long q1), (.long q2), (.long q3), (.int p4)] maxLocals)) t := fun t k => pre65 t (st66.trans k)
      have pre67 : ∀ t, Steps p.tables e below (T66.setTop (mkF m 214 #[.val (.long q1), .second, .val (.long q2), .second, .val (.long q3), .second, .val (.int p4), .val (.int v7), .val (.ref b2), .val (.long q2), .second, .val (.int u192s0_1), .val (.long v128_1), .second, .val (.long v169), .second] [(.long q1), (.long v169), (.long x66.1)])) t → Steps p.tables e below (s₁.setTop (entryFrame m #[(.long q1), (.long q2), (.long q3), (.int p4)] maxLocals)) t := by
        intro t k
        refine pre66 t ?_
        refine XS.lload X66.here hx rfl (hb hby at_211) rfl ?_
        show Steps p.tables e below (T66.setTop (mkF m 213 #[.val (.long q1), .second, .val (.long q2), .second, .val (.long q3), .second, .val (.int p4), .val (.int v7), .val (.ref b2), .val (.long q2), .second, .val (.int u192s0_1), .val (.long v128_1), .second, .val (.long v169), .second] [(.long v169), (.long x66.1)])) _
        refine XS.lloadN X66.here hx rfl (hb hby at_213) rfl ?_
        show Steps p.tables e below (T66.setTop (mkF m 214 #[.val (.long q1), .second, .val (.long q2), .second, .val (.long q3), .second, .val (.int p4), .val (.int v7), .val (.ref b2), .val (.long q2), .second, .val (.int u192s0_1), .val (.long v128_1), .second, .val (.long v169), .second] [(.long q1), (.long v169), (.long x66.1)])) _
        exact k
      obtain ⟨_, _, ⟨T68, L68, k68, n68⟩, -, X68, ⟨Lc68, hQ68, l68, y68, z68⟩, st68⟩ := Jvm.LawKit.callS X66 hx (y := (⟨"java/lang/Math", "max", "(JJ)J"⟩ : MethodName)) hown (mvT hZ (hw _ (List.mem_of_getElem? (i := 62) rfl))) (mvT hZ (hw _ (List.mem_of_getElem? (i := 63) rfl))) (mvT hZ (hw _ (List.mem_of_getElem? (i := 40) rfl))) (mvT hZ (hw _ (List.mem_of_getElem? (i := 64) rfl))) (by decide) (backOf (W := 2) (rm11 l Z a0 hw [] v169 q1 T66.heap n0 Z66) hZ (hw _ (List.mem_of_getElem? (i := 64) rfl)) (hw _ (List.mem_of_getElem? (i := 40) rfl)) (by decide) (by decide)) (g := (mkF m 214 #[.val (.long q1), .second, .val (.long q2), .second, .val (.long q3), .second, .val (.int p4), .val (.int v7), .val (.ref b2), .val (.long q2), .second, .val (.int u192s0_1), .val (.long v128_1), .second, .val (.long v169), .second] [(.long q1), (.long v169), (.long x66.1)])) rfl (by rw [hml]; rfl) (argsL := [(.long v169), (.long q1)]) (rest := [(.long x66.1)]) (lenOf pd0_5 rfl) rfl (by show 2 * 0 + _ ≤ _; exact Nat.le_of_eq rfl) (hb hby at_214) (fun _ _ => ⟨rfl, rfl, (by decide : 4 + 0 ≤ _), (by decide : 11 + 0 ≤ _)⟩)
      dsimp only [Pt.U, Pt.locs, Pt.cells, Pt.slots] at X68 l68 y68 z68 st68 hQ68
      subst l68 y68 z68
      obtain ⟨rfl, Nq68, e68⟩ := hQ68
      have N68 := Fr.app N66 Nq68
      have pre68 : ∀ t, Steps p.tables e below (T68.setTop (mkF m 217 #[.val (.long q1), .second, .val (.long q2), .second, .val (.long q3), .second, .val (.int p4), .val (.int v7), .val (.ref b2), .val (.long q2), .second, .val (.int u192s0_1), .val (.long v128_1), .second, .val (.long v169), .second] [(.long (fn11 v169 q1)), (.long x66.1)])) t → Steps p.tables e below (s₁.setTop (entryFrame m #[(.long q1), (.long q2), (.long q3), (.int p4)] maxLocals)) t := fun t k => pre67 t (st68 _ k)
      obtain ⟨u226s0_1, hu226s0_1⟩ : ∃ z : Int32, z = (if x66.1 = (fn11 v169 q1) then (1 : Int32) else (0 : Int32)) := ⟨_, rfl⟩
      have pre69 : ∀ t, Steps p.tables e below (T68.setTop (mkF m 226 #[.val (.long q1), .second, .val (.long q2), .second, .val (.long q3), .second, .val (.int p4), .val (.int v7), .val (.ref b2), .val (.long q2), .second, .val (.int u192s0_1), .val (.long v128_1), .second, .val (.long v169), .second] [(.int u226s0_1)])) t → Steps p.tables e below (s₁.setTop (entryFrame m #[(.long q1), (.long q2), (.long q3), (.int p4)] maxLocals)) t := by
        intro t k
        subst hu226s0_1
        refine pre68 t ?_
        refine XS.lcmp X68.here hx rfl (hb hby at_217) rfl ?_
        show Steps p.tables e below (T68.setTop (mkF m 218 #[.val (.long q1), .second, .val (.long q2), .second, .val (.long q3), .second, .val (.int p4), .val (.int v7), .val (.ref b2), .val (.long q2), .second, .val (.int u192s0_1), .val (.long v128_1), .second, .val (.long v169), .second] [(.int (lcmpW x66.1 (fn11 v169 q1)))])) _
        by_cases hb218 : x66.1 = (fn11 v169 q1)
        · simp only [if_pos hb218] at k
          refine XS.ifNo X68.here hx rfl (hb hby at_218) rfl (own_Teq hb218).2 ?_
          show Steps p.tables e below (T68.setTop (mkF m 221 #[.val (.long q1), .second, .val (.long q2), .second, .val (.long q3), .second, .val (.int p4), .val (.int v7), .val (.ref b2), .val (.long q2), .second, .val (.int u192s0_1), .val (.long v128_1), .second, .val (.long v169), .second] [])) _
          refine XS.iconst X68.here hx rfl (hb hby at_221) ?_
          show Steps p.tables e below (T68.setTop (mkF m 222 #[.val (.long q1), .second, .val (.long q2), .second, .val (.long q3), .second, .val (.int p4), .val (.int v7), .val (.ref b2), .val (.long q2), .second, .val (.int u192s0_1), .val (.long v128_1), .second, .val (.long v169), .second] [(.int (1 : Int32))])) _
          refine XS.goto X68.here hx rfl (pc0 := 222) (pc' := 226) rfl (hb hby at_222) (by decide) (by decide) ?_
          show Steps p.tables e below (T68.setTop (mkF m 226 #[.val (.long q1), .second, .val (.long q2), .second, .val (.long q3), .second, .val (.int p4), .val (.int v7), .val (.ref b2), .val (.long q2), .second, .val (.int u192s0_1), .val (.long v128_1), .second, .val (.long v169), .second] [(.int (1 : Int32))])) _
          exact k
        · simp only [if_neg hb218] at k
          refine XS.ifYes X68.here hx rfl (pc0 := 218) (pc' := 225) rfl (hb hby at_218) rfl (own_Feq hb218).2 (by decide) (by decide) ?_
          show Steps p.tables e below (T68.setTop (mkF m 225 #[.val (.long q1), .second, .val (.long q2), .second, .val (.long q3), .second, .val (.int p4), .val (.int v7), .val (.ref b2), .val (.long q2), .second, .val (.int u192s0_1), .val (.long v128_1), .second, .val (.long v169), .second] [])) _
          refine XS.iconst X68.here hx rfl (hb hby at_225) ?_
          show Steps p.tables e below (T68.setTop (mkF m 226 #[.val (.long q1), .second, .val (.long q2), .second, .val (.long q3), .second, .val (.int p4), .val (.int v7), .val (.ref b2), .val (.long q2), .second, .val (.int u192s0_1), .val (.long v128_1), .second, .val (.long v169), .second] [(.int (0 : Int32))])) _
          exact k
      have pre70 : ∀ t, Steps p.tables e below (T68.setTop (mkF m 230 #[.val (.long q1), .second, .val (.long q2), .second, .val (.long q3), .second, .val (.int p4), .val (.int v7), .val (.ref b2), .val (.long q2), .second, .val (.int u226s0_1), .val (.long v128_1), .second, .val (.long v169), .second] [(.int u226s0_1)])) t → Steps p.tables e below (s₁.setTop (entryFrame m #[(.long q1), (.long q2), (.long q3), (.int p4)] maxLocals)) t := by
        intro t k
        refine pre69 t ?_
        refine XS.istore X68.here hx rfl (hb hby at_226) rfl (l' := #[.val (.long q1), .second, .val (.long q2), .second, .val (.long q3), .second, .val (.int p4), .val (.int v7), .val (.ref b2), .val (.long q2), .second, .val (.int u226s0_1), .val (.long v128_1), .second, .val (.long v169), .second]) rfl ?_
        show Steps p.tables e below (T68.setTop (mkF m 228 #[.val (.long q1), .second, .val (.long q2), .second, .val (.long q3), .second, .val (.int p4), .val (.int v7), .val (.ref b2), .val (.long q2), .second, .val (.int u226s0_1), .val (.long v128_1), .second, .val (.long v169), .second] [])) _
        refine XS.iload X68.here hx rfl (hb hby at_228) rfl ?_
        show Steps p.tables e below (T68.setTop (mkF m 230 #[.val (.long q1), .second, .val (.long q2), .second, .val (.long q3), .second, .val (.int p4), .val (.int v7), .val (.ref b2), .val (.long q2), .second, .val (.int u226s0_1), .val (.long v128_1), .second, .val (.long v169), .second] [(.int u226s0_1)])) _
        exact k
      obtain ⟨fs, hr, hrun, hended, hW, hsame⟩ := X68.leave (v := some (.int (nar .boolean u226s0_1))) (fun h => by rw [Bd.returns] at h; cases h)
      refine ⟨_, _, pre70 _ ?_, hrun, hended, _, _, rfl, ?_, ⟨_, rfl⟩, hW, hsame.mono (by decide) (by decide)⟩
      · show Steps p.tables e below (T68.setTop (mkF m 230 #[.val (.long q1), .second, .val (.long q2), .second, .val (.long q3), .second, .val (.int p4), .val (.int v7), .val (.ref b2), .val (.long q2), .second, .val (.int u226s0_1), .val (.long v128_1), .second, .val (.long v169), .second] [(.int u226s0_1)])) _
        exact retN X68 hx (t := .boolean) Bd.returns (by simp) (hb hby at_230) hr
      · show Q0 Z q1 q2 q3 p4 h0 n0 _ T68.heap _
        have yF := own_one hu226s0_1 (own_f yZ (own_e3 hx63) hx66)
        refine ⟨?_, N68⟩
        rw [yF]; rfl
    · have pre71 : ∀ t, Steps p.tables e below (T8.setTop (mkF m 71 #[.val (.long q1), .second, .val (.long q2), .second, .val (.long q3), .second, .val (.int p4), .val (.int v7), .val (.ref b2), .unset, .unset, .unset, .unset, .unset, .unset, .unset] [(.long q2), (.long q1)])) t → Steps p.tables e below (s₁.setTop (entryFrame m #[(.long q1), (.long q2), (.long q3), (.int p4)] maxLocals)) t := by
        intro t k
        refine pre38 t ?_
        refine XS.icmpYes X8.here hx rfl (pc0 := 54) (pc' := 64) rfl (hb hby at_54) rfl (feq hc54).2 (by decide) (by decide) ?_
        show Steps p.tables e below (T8.setTop (mkF m 64 #[.val (.long q1), .second, .val (.long q2), .second, .val (.long q3), .second, .val (.int p4), .val (.int v7), .val (.ref b2), .unset, .unset, .unset, .unset, .unset, .unset, .unset] [])) _
        refine XS.iload X8.here hx rfl (hb hby at_64) rfl ?_
        show Steps p.tables e below (T8.setTop (mkF m 66 #[.val (.long q1), .second, .val (.long q2), .second, .val (.long q3), .second, .val (.int p4), .val (.int v7), .val (.ref b2), .unset, .unset, .unset, .unset, .unset, .unset, .unset] [(.int v7)])) _
        refine XS.ifNo X8.here hx rfl (hb hby at_66) rfl ((if0 _ _).trans (teq (own_m0 hv7 hc38 hc54)).2) ?_
        show Steps p.tables e below (T8.setTop (mkF m 69 #[.val (.long q1), .second, .val (.long q2), .second, .val (.long q3), .second, .val (.int p4), .val (.int v7), .val (.ref b2), .unset, .unset, .unset, .unset, .unset, .unset, .unset] [])) _
        refine XS.lloadN X8.here hx rfl (hb hby at_69) rfl ?_
        show Steps p.tables e below (T8.setTop (mkF m 70 #[.val (.long q1), .second, .val (.long q2), .second, .val (.long q3), .second, .val (.int p4), .val (.int v7), .val (.ref b2), .unset, .unset, .unset, .unset, .unset, .unset, .unset] [(.long q1)])) _
        refine XS.lloadN X8.here hx rfl (hb hby at_70) rfl ?_
        show Steps p.tables e below (T8.setTop (mkF m 71 #[.val (.long q1), .second, .val (.long q2), .second, .val (.long q3), .second, .val (.int p4), .val (.int v7), .val (.ref b2), .unset, .unset, .unset, .unset, .unset, .unset, .unset] [(.long q2), (.long q1)])) _
        exact k
      obtain ⟨_, _, ⟨T72, L72, k72, n72⟩, -, X72, ⟨Lc72, hQ72, l72, y72, z72⟩, st72⟩ := Jvm.LawKit.callS X8 hx (y := (⟨"java/lang/Math", "min", "(JJ)J"⟩ : MethodName)) hown (mvT hZ (hw _ (List.mem_of_getElem? (i := 65) rfl))) (mvT hZ (hw _ (List.mem_of_getElem? (i := 39) rfl))) (mvT hZ (hw _ (List.mem_of_getElem? (i := 40) rfl))) (mvT hZ (hw _ (List.mem_of_getElem? (i := 41) rfl))) (by decide) (backOf (W := 0) (rm6 l Z a0 hw [] q1 q2 T8.heap n0 Z8) hZ (hw _ (List.mem_of_getElem? (i := 41) rfl)) (hw _ (List.mem_of_getElem? (i := 40) rfl)) (by decide) (by decide)) (g := (mkF m 71 #[.val (.long q1), .second, .val (.long q2), .second, .val (.long q3), .second, .val (.int p4), .val (.int v7), .val (.ref b2), .unset, .unset, .unset, .unset, .unset, .unset, .unset] [(.long q2), (.long q1)])) rfl (by rw [hml]; rfl) (argsL := [(.long q1), (.long q2)]) (rest := []) (lenOf pd0_5 rfl) rfl (by show 2 * 0 + _ ≤ _; exact Nat.le_of_eq rfl) (hb hby at_71) (fun _ _ => ⟨rfl, rfl, (by decide : 4 + 0 ≤ _), (by decide : 11 + 0 ≤ _)⟩)
      dsimp only [Pt.U, Pt.locs, Pt.cells, Pt.slots] at X72 l72 y72 z72 st72 hQ72
      subst l72 y72 z72
      obtain ⟨rfl, Nq72, e72⟩ := hQ72
      have N72 := Fr.app N8 Nq72
      have pre72 : ∀ t, Steps p.tables e below (T72.setTop (mkF m 74 #[.val (.long q1), .second, .val (.long q2), .second, .val (.long q3), .second, .val (.int p4), .val (.int v7), .val (.ref b2), .unset, .unset, .unset, .unset, .unset, .unset, .unset] [(.long (fn6 q1 q2))])) t → Steps p.tables e below (s₁.setTop (entryFrame m #[(.long q1), (.long q2), (.long q3), (.int p4)] maxLocals)) t := fun t k => pre71 t (st72 _ k)
      obtain ⟨v78, hv78⟩ : ∃ z : Int64, z = (fn6 q1 q2) := ⟨_, rfl⟩
      have pre73 : ∀ t, Steps p.tables e below (T72.setTop (mkF m 80 #[.val (.long q1), .second, .val (.long q2), .second, .val (.long q3), .second, .val (.int p4), .val (.int v7), .val (.ref b2), .val (.long v78), .second, .unset, .unset, .unset, .unset, .unset] [])) t → Steps p.tables e below (s₁.setTop (entryFrame m #[(.long q1), (.long q2), (.long q3), (.int p4)] maxLocals)) t := by
        intro t k
        subst hv78
        refine pre72 t ?_
        refine XS.goto X72.here hx rfl (pc0 := 74) (pc' := 78) rfl (hb hby at_74) (by decide) (by decide) ?_
        show Steps p.tables e below (T72.setTop (mkF m 78 #[.val (.long q1), .second, .val (.long q2), .second, .val (.long q3), .second, .val (.int p4), .val (.int v7), .val (.ref b2), .unset, .unset, .unset, .unset, .unset, .unset, .unset] [(.long (fn6 q1 q2))])) _
        refine XS.lstore X72.here hx rfl (hb hby at_78) rfl (l' := #[.val (.long q1), .second, .val (.long q2), .second, .val (.long q3), .second, .val (.int p4), .val (.int v7), .val (.ref b2), .val (.long (fn6 q1 q2)), .second, .unset, .unset, .unset, .unset, .unset]) rfl ?_
        show Steps p.tables e below (T72.setTop (mkF m 80 #[.val (.long q1), .second, .val (.long q2), .second, .val (.long q3), .second, .val (.int p4), .val (.int v7), .val (.ref b2), .val (.long (fn6 q1 q2)), .second, .unset, .unset, .unset, .unset, .unset] [])) _
        exact k
      have pre74 : ∀ t, Steps p.tables e below (T72.setTop (mkF m 83 #[.val (.long q1), .second, .val (.long q2), .second, .val (.long q3), .second, .val (.int p4), .val (.int v7), .val (.ref b2), .val (.long v78), .second, .unset, .unset, .unset, .unset, .unset] [(.int (0 : Int32)), (.ref b2)])) t → Steps p.tables e below (s₁.setTop (entryFrame m #[(.long q1), (.long q2), (.long q3), (.int p4)] maxLocals)) t := by
        intro t k
        refine pre73 t ?_
        refine XS.aload X72.here hx rfl (hb hby at_80) rfl rfl ?_
        show Steps p.tables e below (T72.setTop (mkF m 82 #[.val (.long q1), .second, .val (.long q2), .second, .val (.long q3), .second, .val (.int p4), .val (.int v7), .val (.ref b2), .val (.long v78), .second, .unset, .unset, .unset, .unset, .unset] [(.ref b2)])) _
        refine XS.iconst X72.here hx rfl (hb hby at_82) ?_
        show Steps p.tables e below (T72.setTop (mkF m 83 #[.val (.long q1), .second, .val (.long q2), .second, .val (.long q3), .second, .val (.int p4), .val (.int v7), .val (.ref b2), .val (.long v78), .second, .unset, .unset, .unset, .unset, .unset] [(.int (0 : Int32)), (.ref b2)])) _
        exact k
      obtain ⟨cq75, kq75, qa75, qb75, qc75⟩ := isOf hZ e72 w8_e
      obtain ⟨_, _, ⟨T75, L75, k75, n75⟩, -, X75, ⟨Lc75, hQ75, l75, y75, z75⟩, st75⟩ := X72.virtualBack hx (y := (⟨"sluice/stream/Watermarks", "reopen", "(I)V"⟩ : MethodName)) (z := (⟨"sluice/stream/Watermarks", "reopen", "(I)V"⟩ : MethodName)) hown (mvT hZ (hw _ (List.mem_of_getElem? (i := 47) rfl))) (mvT hZ (hw _ (List.mem_of_getElem? (i := 48) rfl))) (notFace_of_selects (args := #[]) (mvT hZ (hw _ (List.mem_of_getElem? (i := 50) rfl)))) (mvT hZ (hw _ (List.mem_of_getElem? (i := 50) rfl))) (mvT hZ (hw _ (List.mem_of_getElem? (i := 49) rfl))) (by decide) (backOf (W := 0) (rmp0 l Z a0 hw [] b2 bm4 bs4 bl4 x8.2.1 x8.2.2.1 x8.2.2.2 (0 : Int32) (1 : Int32) T8.heap n0 Z8 ⟨w8_e, w8_lowest, w8_marks, w8_states, w8_live, w8_open, w8_am, w8_as, w8_al, w8_ga, w8_gm, w8_gs, w8_gl, w8_1, w8_2, w8_3, w8_4, w8_5, w8_6⟩) hZ (hw _ (List.mem_of_getElem? (i := 51) rfl)) (hw _ (List.mem_of_getElem? (i := 3) rfl)) (by decide) (by decide)) qa75 qc75 (g := (mkF m 83 #[.val (.long q1), .second, .val (.long q2), .second, .val (.long q3), .second, .val (.int p4), .val (.int v7), .val (.ref b2), .val (.long v78), .second, .unset, .unset, .unset, .unset, .unset] [(.int (0 : Int32)), (.ref b2)])) rfl (by rw [hml]; rfl) (Steps.refl _) (argsL := [(.int (0 : Int32))]) (rest := []) (lenOf pd0_0 rfl) rfl (by show 2 * 0 + _ ≤ _; exact Nat.le_of_eq rfl) (hb hby at_83) (fun _ _ => ⟨rfl, e72, (by decide : 4 + 0 ≤ _), (by decide : 11 + 0 ≤ _)⟩)
      dsimp only [Pt.U, Pt.locs, Pt.cells, Pt.slots] at X75 l75 y75 z75 st75 hQ75
      subst l75 y75 z75
      unfold Qp0 at hQ75
      obtain ⟨x75, hx75⟩ : ∃ z : Int64 × Int64 × Int64, z = (fnp0 x8.2.1 x8.2.2.1 x8.2.2.2) := ⟨_, rfl⟩
      rw [← hx75] at hQ75
      obtain ⟨rfl, Nq75, J75⟩ := hQ75
      obtain ⟨w75_e, w75_lowest, w75_marks, w75_states, w75_live, w75_open, w75_am, w75_as, w75_al, w75_ga, w75_gm, w75_gs, w75_gl, w75_1, w75_2, w75_3, w75_4, w75_5, w75_6⟩ := J75
      have Z75 : n0 ≤ T75.heap.size := Nat.le_of_lt (Nat.lt_of_le_of_lt w75_ga w75_e.lt)
      have N75 := Fr.app N72 Nq75
      have pre75 : ∀ t, Steps p.tables e below (T75.setTop (mkF m 86 #[.val (.long q1), .second, .val (.long q2), .second, .val (.long q3), .second, .val (.int p4), .val (.int v7), .val (.ref b2), .val (.long v78), .second, .unset, .unset, .unset, .unset, .unset] [])) t → Steps p.tables e below (s₁.setTop (entryFrame m #[(.long q1), (.long q2), (.long q3), (.int p4)] maxLocals)) t := fun t k => pre74 t (st75.trans k)
      have pre76 : ∀ t, Steps p.tables e below (T75.setTop (mkF m 88 #[.val (.long q1), .second, .val (.long q2), .second, .val (.long q3), .second, .val (.int p4), .val (.int v7), .val (.ref b2), .val (.long v78), .second, .unset, .unset, .unset, .unset, .unset] [(.ref b2)])) t → Steps p.tables e below (s₁.setTop (entryFrame m #[(.long q1), (.long q2), (.long q3), (.int p4)] maxLocals)) t := by
        intro t k
        refine pre75 t ?_
        refine XS.aload X75.here hx rfl (hb hby at_86) rfl rfl ?_
        show Steps p.tables e below (T75.setTop (mkF m 88 #[.val (.long q1), .second, .val (.long q2), .second, .val (.long q3), .second, .val (.int p4), .val (.int v7), .val (.ref b2), .val (.long v78), .second, .unset, .unset, .unset, .unset, .unset] [(.ref b2)])) _
        exact k
      obtain ⟨cq77, kq77, qa77, qb77, qc77⟩ := isOf hZ rfl w75_e
      obtain ⟨_, _, ⟨T77, L77, k77, n77⟩, -, X77, ⟨Lc77, hQ77, l77, y77, z77⟩, st77⟩ := X75.virtualBack hx (y := (⟨"sluice/stream/Watermarks", "lowest", "()J"⟩ : MethodName)) (z := (⟨"sluice/stream/Watermarks", "lowest", "()J"⟩ : MethodName)) hown (mvT hZ (hw _ (List.mem_of_getElem? (i := 52) rfl))) (mvT hZ (hw _ (List.mem_of_getElem? (i := 53) rfl))) (notFace_of_selects (args := #[]) (mvT hZ (hw _ (List.mem_of_getElem? (i := 55) rfl)))) (mvT hZ (hw _ (List.mem_of_getElem? (i := 55) rfl))) (mvT hZ (hw _ (List.mem_of_getElem? (i := 54) rfl))) (by decide) (backOf (W := 0) (rmlo l Z a0 hw [] b2 bm4 bs4 bl4 x75.1 x75.2.1 x75.2.2 (0 : Int32) (0 : Int32) (0 : Int32) (1 : Int32) (2 : Int32) T75.heap n0 Z75 ⟨w75_e, w75_lowest, w75_marks, w75_states, w75_live, w75_open, w75_am, w75_as, w75_al, w75_ga, w75_gm, w75_gs, w75_gl, w75_1, w75_2, w75_3, w75_4, w75_5, w75_6⟩) hZ (hw _ (List.mem_of_getElem? (i := 56) rfl)) (hw _ (List.mem_of_getElem? (i := 3) rfl)) (by decide) (by decide)) qa77 qc77 (g := (mkF m 88 #[.val (.long q1), .second, .val (.long q2), .second, .val (.long q3), .second, .val (.int p4), .val (.int v7), .val (.ref b2), .val (.long v78), .second, .unset, .unset, .unset, .unset, .unset] [(.ref b2)])) rfl (by rw [hml]; rfl) (Steps.refl _) (argsL := []) (rest := []) (lenOf pd0_3 rfl) rfl (by show 2 * 0 + _ ≤ _; exact Nat.le_of_eq rfl) (hb hby at_88) (fun _ _ => ⟨rfl, rfl, (by decide : 4 + 0 ≤ _), (by decide : 11 + 0 ≤ _)⟩)
      dsimp only [Pt.U, Pt.locs, Pt.cells, Pt.slots] at X77 l77 y77 z77 st77 hQ77
      subst l77 y77 z77
      unfold Qlo at hQ77
      obtain ⟨x77, hx77⟩ : ∃ z : Int64 × Int64 × Int64 × Int64, z = (fnlo x75.1 x75.2.1 x75.2.2) := ⟨_, rfl⟩
      rw [← hx77] at hQ77
      obtain ⟨rfl, Nq77, J77⟩ := hQ77
      obtain ⟨w77_e, w77_lowest, w77_marks, w77_states, w77_live, w77_open, w77_am, w77_as, w77_al, w77_ga, w77_gm, w77_gs, w77_gl, w77_1, w77_2, w77_3, w77_4, w77_5, w77_6⟩ := J77
      have Z77 : n0 ≤ T77.heap.size := Nat.le_of_lt (Nat.lt_of_le_of_lt w77_ga w77_e.lt)
      have N77 := Fr.app N75 Nq77
      have pre77 : ∀ t, Steps p.tables e below (T77.setTop (mkF m 91 #[.val (.long q1), .second, .val (.long q2), .second, .val (.long q3), .second, .val (.int p4), .val (.int v7), .val (.ref b2), .val (.long v78), .second, .unset, .unset, .unset, .unset, .unset] [(.long x77.1)])) t → Steps p.tables e below (s₁.setTop (entryFrame m #[(.long q1), (.long q2), (.long q3), (.int p4)] maxLocals)) t := fun t k => pre76 t (st77.trans k)
      have pre78 : ∀ t, Steps p.tables e below (T77.setTop (mkF m 94 #[.val (.long q1), .second, .val (.long q2), .second, .val (.long q3), .second, .val (.int p4), .val (.int v7), .val (.ref b2), .val (.long v78), .second, .unset, .unset, .unset, .unset, .unset] [(.int (lcmpW x77.1 v78))])) t → Steps p.tables e below (s₁.setTop (entryFrame m #[(.long q1), (.long q2), (.long q3), (.int p4)] maxLocals)) t := by
        intro t k
        refine pre77 t ?_
        refine XS.lload X77.here hx rfl (hb hby at_91) rfl ?_
        show Steps p.tables e below (T77.setTop (mkF m 93 #[.val (.long q1), .second, .val (.long q2), .second, .val (.long q3), .second, .val (.int p4), .val (.int v7), .val (.ref b2), .val (.long v78), .second, .unset, .unset, .unset, .unset, .unset] [(.long v78), (.long x77.1)])) _
        refine XS.lcmp X77.here hx rfl (hb hby at_93) rfl ?_
        show Steps p.tables e below (T77.setTop (mkF m 94 #[.val (.long q1), .second, .val (.long q2), .second, .val (.long q3), .second, .val (.int p4), .val (.int v7), .val (.ref b2), .val (.long v78), .second, .unset, .unset, .unset, .unset, .unset] [(.int (lcmpW x77.1 v78))])) _
        exact k
      have yX := own_x8p hx6 hx8
      have yY := own_y0 yX hv78 hx75 hx77
      have hd94 : x77.1 = v78 := yY.1
      have pre79 : ∀ t, Steps p.tables e below (T77.setTop (mkF m 99 #[.val (.long q1), .second, .val (.long q2), .second, .val (.long q3), .second, .val (.int p4), .val (.int v7), .val (.ref b2), .val (.long v78), .second, .unset, .unset, .unset, .unset, .unset] [(.ref b2)])) t → Steps p.tables e below (s₁.setTop (entryFrame m #[(.long q1), (.long q2), (.long q3), (.int p4)] maxLocals)) t := by
        intro t k
        refine pre78 t ?_
        refine XS.ifNo X77.here hx rfl (hb hby at_94) rfl (own_Teq hd94).2 ?_
        show Steps p.tables e below (T77.setTop (mkF m 97 #[.val (.long q1), .second, .val (.long q2), .second, .val (.long q3), .second, .val (.int p4), .val (.int v7), .val (.ref b2), .val (.long v78), .second, .unset, .unset, .unset, .unset, .unset] [])) _
        refine XS.aload X77.here hx rfl (hb hby at_97) rfl rfl ?_
        show Steps p.tables e below (T77.setTop (mkF m 99 #[.val (.long q1), .second, .val (.long q2), .second, .val (.long q3), .second, .val (.int p4), .val (.int v7), .val (.ref b2), .val (.long v78), .second, .unset, .unset, .unset, .unset, .unset] [(.ref b2)])) _
        exact k
      obtain ⟨cq80, kq80, qa80, qb80, qc80⟩ := isOf hZ rfl w77_e
      obtain ⟨_, _, ⟨T80, L80, k80, n80⟩, -, X80, ⟨Lc80, hQ80, l80, y80, z80⟩, st80⟩ := X77.virtualBack hx (y := (⟨"sluice/stream/Watermarks", "open", "()I"⟩ : MethodName)) (z := (⟨"sluice/stream/Watermarks", "open", "()I"⟩ : MethodName)) hown (mvT hZ (hw _ (List.mem_of_getElem? (i := 57) rfl))) (mvT hZ (hw _ (List.mem_of_getElem? (i := 58) rfl))) (notFace_of_selects (args := #[]) (mvT hZ (hw _ (List.mem_of_getElem? (i := 60) rfl)))) (mvT hZ (hw _ (List.mem_of_getElem? (i := 60) rfl))) (mvT hZ (hw _ (List.mem_of_getElem? (i := 59) rfl))) (by decide) (backOf (W := 0) (rmop l Z a0 hw [] b2 bm4 bs4 bl4 x77.2.1 x77.2.2.1 x77.2.2.2 (0 : Int32) (0 : Int32) (0 : Int32) (1 : Int32) T77.heap n0 Z77 ⟨w77_e, w77_lowest, w77_marks, w77_states, w77_live, w77_open, w77_am, w77_as, w77_al, w77_ga, w77_gm, w77_gs, w77_gl, w77_1, w77_2, w77_3, w77_4, w77_5, w77_6⟩) hZ (hw _ (List.mem_of_getElem? (i := 61) rfl)) (hw _ (List.mem_of_getElem? (i := 3) rfl)) (by decide) (by decide)) qa80 qc80 (g := (mkF m 99 #[.val (.long q1), .second, .val (.long q2), .second, .val (.long q3), .second, .val (.int p4), .val (.int v7), .val (.ref b2), .val (.long v78), .second, .unset, .unset, .unset, .unset, .unset] [(.ref b2)])) rfl (by rw [hml]; rfl) (Steps.refl _) (argsL := []) (rest := []) (lenOf pd0_4 rfl) rfl (by show 2 * 0 + _ ≤ _; exact Nat.le_of_eq rfl) (hb hby at_99) (fun _ _ => ⟨rfl, rfl, (by decide : 4 + 0 ≤ _), (by decide : 11 + 0 ≤ _)⟩)
      dsimp only [Pt.U, Pt.locs, Pt.cells, Pt.slots] at X80 l80 y80 z80 st80 hQ80
      subst l80 y80 z80
      unfold Qop at hQ80
      obtain ⟨x80, hx80⟩ : ∃ z : Int32 × Int64 × Int64 × Int64, z = (fnop x77.2.1 x77.2.2.1 x77.2.2.2) := ⟨_, rfl⟩
      rw [← hx80] at hQ80
      obtain ⟨rfl, Nq80, J80⟩ := hQ80
      obtain ⟨w80_e, w80_lowest, w80_marks, w80_states, w80_live, w80_open, w80_am, w80_as, w80_al, w80_ga, w80_gm, w80_gs, w80_gl, w80_1, w80_2, w80_3, w80_4, w80_5, w80_6⟩ := J80
      have Z80 : n0 ≤ T80.heap.size := Nat.le_of_lt (Nat.lt_of_le_of_lt w80_ga w80_e.lt)
      have N80 := Fr.app N77 Nq80
      have pre80 : ∀ t, Steps p.tables e below (T80.setTop (mkF m 102 #[.val (.long q1), .second, .val (.long q2), .second, .val (.long q3), .second, .val (.int p4), .val (.int v7), .val (.ref b2), .val (.long v78), .second, .unset, .unset, .unset, .unset, .unset] [(.int x80.1)])) t → Steps p.tables e below (s₁.setTop (entryFrame m #[(.long q1), (.long q2), (.long q3), (.int p4)] maxLocals)) t := fun t k => pre79 t (st80.trans k)
      obtain ⟨u111s0_2, hu111s0_2⟩ : ∃ z : Int32, z = (if x80.1 = (2 : Int32) then (1 : Int32) else (0 : Int32)) := ⟨_, rfl⟩
      have pre81 : ∀ t, Steps p.tables e below (T80.setTop (mkF m 111 #[.val (.long q1), .second, .val (.long q2), .second, .val (.long q3), .second, .val (.int p4), .val (.int v7), .val (.ref b2), .val (.long v78), .second, .unset, .unset, .unset, .unset, .unset] [(.int u111s0_2)])) t → Steps p.tables e below (s₁.setTop (entryFrame m #[(.long q1), (.long q2), (.long q3), (.int p4)] maxLocals)) t := by
        intro t k
        subst hu111s0_2
        refine pre80 t ?_
        refine XS.iconst X80.here hx rfl (hb hby at_102) ?_
        show Steps p.tables e below (T80.setTop (mkF m 103 #[.val (.long q1), .second, .val (.long q2), .second, .val (.long q3), .second, .val (.int p4), .val (.int v7), .val (.ref b2), .val (.long v78), .second, .unset, .unset, .unset, .unset, .unset] [(.int (2 : Int32)), (.int x80.1)])) _
        by_cases hb103 : x80.1 = (2 : Int32)
        · simp only [if_pos hb103] at k
          refine XS.icmpNo X80.here hx rfl (hb hby at_103) rfl (teq hb103).2 ?_
          show Steps p.tables e below (T80.setTop (mkF m 106 #[.val (.long q1), .second, .val (.long q2), .second, .val (.long q3), .second, .val (.int p4), .val (.int v7), .val (.ref b2), .val (.long v78), .second, .unset, .unset, .unset, .unset, .unset] [])) _
          refine XS.iconst X80.here hx rfl (hb hby at_106) ?_
          show Steps p.tables e below (T80.setTop (mkF m 107 #[.val (.long q1), .second, .val (.long q2), .second, .val (.long q3), .second, .val (.int p4), .val (.int v7), .val (.ref b2), .val (.long v78), .second, .unset, .unset, .unset, .unset, .unset] [(.int (1 : Int32))])) _
          refine XS.goto X80.here hx rfl (pc0 := 107) (pc' := 111) rfl (hb hby at_107) (by decide) (by decide) ?_
          show Steps p.tables e below (T80.setTop (mkF m 111 #[.val (.long q1), .second, .val (.long q2), .second, .val (.long q3), .second, .val (.int p4), .val (.int v7), .val (.ref b2), .val (.long v78), .second, .unset, .unset, .unset, .unset, .unset] [(.int (1 : Int32))])) _
          exact k
        · simp only [if_neg hb103] at k
          refine XS.icmpYes X80.here hx rfl (pc0 := 103) (pc' := 110) rfl (hb hby at_103) rfl (feq hb103).2 (by decide) (by decide) ?_
          show Steps p.tables e below (T80.setTop (mkF m 110 #[.val (.long q1), .second, .val (.long q2), .second, .val (.long q3), .second, .val (.int p4), .val (.int v7), .val (.ref b2), .val (.long v78), .second, .unset, .unset, .unset, .unset, .unset] [])) _
          refine XS.iconst X80.here hx rfl (hb hby at_110) ?_
          show Steps p.tables e below (T80.setTop (mkF m 111 #[.val (.long q1), .second, .val (.long q2), .second, .val (.long q3), .second, .val (.int p4), .val (.int v7), .val (.ref b2), .val (.long v78), .second, .unset, .unset, .unset, .unset, .unset] [(.int (0 : Int32))])) _
          exact k
      have pre82 : ∀ t, Steps p.tables e below (T80.setTop (mkF m 118 #[.val (.long q1), .second, .val (.long q2), .second, .val (.long q3), .second, .val (.int p4), .val (.int v7), .val (.ref b2), .val (.long v78), .second, .val (.int u111s0_2), .unset, .unset, .unset, .unset] [(.long q3), (.int (1 : Int32)), (.ref b2)])) t → Steps p.tables e below (s₁.setTop (entryFrame m #[(.long q1), (.long q2), (.long q3), (.int p4)] maxLocals)) t := by
        intro t k
        refine pre81 t ?_
        refine XS.istore X80.here hx rfl (hb hby at_111) rfl (l' := #[.val (.long q1), .second, .val (.long q2), .second, .val (.long q3), .second, .val (.int p4), .val (.int v7), .val (.ref b2), .val (.long v78), .second, .val (.int u111s0_2), .unset, .unset, .unset, .unset]) rfl ?_
        show Steps p.tables e below (T80.setTop (mkF m 113 #[.val (.long q1), .second, .val (.long q2), .second, .val (.long q3), .second, .val (.int p4), .val (.int v7), .val (.ref b2), .val (.long v78), .second, .val (.int u111s0_2), .unset, .unset, .unset, .unset] [])) _
        refine XS.aload X80.here hx rfl (hb hby at_113) rfl rfl ?_
        show Steps p.tables e below (T80.setTop (mkF m 115 #[.val (.long q1), .second, .val (.long q2), .second, .val (.long q3), .second, .val (.int p4), .val (.int v7), .val (.ref b2), .val (.long v78), .second, .val (.int u111s0_2), .unset, .unset, .unset, .unset] [(.ref b2)])) _
        refine XS.iconst X80.here hx rfl (hb hby at_115) ?_
        show Steps p.tables e below (T80.setTop (mkF m 116 #[.val (.long q1), .second, .val (.long q2), .second, .val (.long q3), .second, .val (.int p4), .val (.int v7), .val (.ref b2), .val (.long v78), .second, .val (.int u111s0_2), .unset, .unset, .unset, .unset] [(.int (1 : Int32)), (.ref b2)])) _
        refine XS.lload X80.here hx rfl (hb hby at_116) rfl ?_
        show Steps p.tables e below (T80.setTop (mkF m 118 #[.val (.long q1), .second, .val (.long q2), .second, .val (.long q3), .second, .val (.int p4), .val (.int v7), .val (.ref b2), .val (.long v78), .second, .val (.int u111s0_2), .unset, .unset, .unset, .unset] [(.long q3), (.int (1 : Int32)), (.ref b2)])) _
        exact k
      obtain ⟨cq83, kq83, qa83, qb83, qc83⟩ := isOf hZ rfl w80_e
      obtain ⟨_, _, ⟨T83, L83, k83, n83⟩, -, X83, ⟨Lc83, hQ83, l83, y83, z83⟩, st83⟩ := X80.virtualBack hx (y := (⟨"sluice/stream/Watermarks", "raise", "(IJ)Z"⟩ : MethodName)) (z := (⟨"sluice/stream/Watermarks", "raise", "(IJ)Z"⟩ : MethodName)) hown (mvT hZ (hw _ (List.mem_of_getElem? (i := 28) rfl))) (mvT hZ (hw _ (List.mem_of_getElem? (i := 29) rfl))) (notFace_of_selects (args := #[]) (mvT hZ (hw _ (List.mem_of_getElem? (i := 31) rfl)))) (mvT hZ (hw _ (List.mem_of_getElem? (i := 31) rfl))) (mvT hZ (hw _ (List.mem_of_getElem? (i := 30) rfl))) (by decide) (backOf (W := 0) (rma1 l Z a0 hw [] b2 q3 bm4 bs4 bl4 x80.2.1 x80.2.2.1 x80.2.2.2 (0 : Int32) (1 : Int32) T80.heap n0 Z80 ⟨w80_e, w80_lowest, w80_marks, w80_states, w80_live, w80_open, w80_am, w80_as, w80_al, w80_ga, w80_gm, w80_gs, w80_gl, w80_1, w80_2, w80_3, w80_4, w80_5, w80_6⟩) hZ (hw _ (List.mem_of_getElem? (i := 32) rfl)) (hw _ (List.mem_of_getElem? (i := 3) rfl)) (by decide) (by decide)) qa83 qc83 (g := (mkF m 118 #[.val (.long q1), .second, .val (.long q2), .second, .val (.long q3), .second, .val (.int p4), .val (.int v7), .val (.ref b2), .val (.long v78), .second, .val (.int u111s0_2), .unset, .unset, .unset, .unset] [(.long q3), (.int (1 : Int32)), (.ref b2)])) rfl (by rw [hml]; rfl) (Steps.refl _) (argsL := [(.int (1 : Int32)), (.long q3)]) (rest := []) (lenOf pd0_1 rfl) rfl (by show 2 * 0 + _ ≤ _; exact Nat.le_of_eq rfl) (hb hby at_118) (fun _ _ => ⟨rfl, rfl, (by decide : 4 + 0 ≤ _), (by decide : 11 + 0 ≤ _)⟩)
      dsimp only [Pt.U, Pt.locs, Pt.cells, Pt.slots] at X83 l83 y83 z83 st83 hQ83
      subst l83 y83 z83
      unfold Qa1 at hQ83
      obtain ⟨x83, hx83⟩ : ∃ z : Int32 × Int64 × Int64 × Int64, z = (fna1 q3 x80.2.1 x80.2.2.1 x80.2.2.2) := ⟨_, rfl⟩
      rw [← hx83] at hQ83
      obtain ⟨rfl, Nq83, J83⟩ := hQ83
      obtain ⟨w83_e, w83_lowest, w83_marks, w83_states, w83_live, w83_open, w83_am, w83_as, w83_al, w83_ga, w83_gm, w83_gs, w83_gl, w83_1, w83_2, w83_3, w83_4, w83_5, w83_6⟩ := J83
      have Z83 : n0 ≤ T83.heap.size := Nat.le_of_lt (Nat.lt_of_le_of_lt w83_ga w83_e.lt)
      have N83 := Fr.app N80 Nq83
      have pre83 : ∀ t, Steps p.tables e below (T83.setTop (mkF m 121 #[.val (.long q1), .second, .val (.long q2), .second, .val (.long q3), .second, .val (.int p4), .val (.int v7), .val (.ref b2), .val (.long v78), .second, .val (.int u111s0_2), .unset, .unset, .unset, .unset] [(.int x83.1)])) t → Steps p.tables e below (s₁.setTop (entryFrame m #[(.long q1), (.long q2), (.long q3), (.int p4)] maxLocals)) t := fun t k => pre82 t (st83.trans k)
      have pre84 : ∀ t, Steps p.tables e below (T83.setTop (mkF m 125 #[.val (.long q1), .second, .val (.long q2), .second, .val (.long q3), .second, .val (.int p4), .val (.int v7), .val (.ref b2), .val (.long v78), .second, .val (.int u111s0_2), .unset, .unset, .unset, .unset] [(.long q3), (.long q2)])) t → Steps p.tables e below (s₁.setTop (entryFrame m #[(.long q1), (.long q2), (.long q3), (.int p4)] maxLocals)) t := by
        intro t k
        refine pre83 t ?_
        refine XS.pop X83.here hx rfl (hb hby at_121) rfl rfl ?_
        show Steps p.tables e below (T83.setTop (mkF m 122 #[.val (.long q1), .second, .val (.long q2), .second, .val (.long q3), .second, .val (.int p4), .val (.int v7), .val (.ref b2), .val (.long v78), .second, .val (.int u111s0_2), .unset, .unset, .unset, .unset] [])) _
        refine XS.lloadN X83.here hx rfl (hb hby at_122) rfl ?_
        show Steps p.tables e below (T83.setTop (mkF m 123 #[.val (.long q1), .second, .val (.long q2), .second, .val (.long q3), .second, .val (.int p4), .val (.int v7), .val (.ref b2), .val (.long v78), .second, .val (.int u111s0_2), .unset, .unset, .unset, .unset] [(.long q2)])) _
        refine XS.lload X83.here hx rfl (hb hby at_123) rfl ?_
        show Steps p.tables e below (T83.setTop (mkF m 125 #[.val (.long q1), .second, .val (.long q2), .second, .val (.long q3), .second, .val (.int p4), .val (.int v7), .val (.ref b2), .val (.long v78), .second, .val (.int u111s0_2), .unset, .unset, .unset, .unset] [(.long q3), (.long q2)])) _
        exact k
      obtain ⟨_, _, ⟨T85, L85, k85, n85⟩, -, X85, ⟨Lc85, hQ85, l85, y85, z85⟩, st85⟩ := Jvm.LawKit.callS X83 hx (y := (⟨"java/lang/Math", "max", "(JJ)J"⟩ : MethodName)) hown (mvT hZ (hw _ (List.mem_of_getElem? (i := 62) rfl))) (mvT hZ (hw _ (List.mem_of_getElem? (i := 63) rfl))) (mvT hZ (hw _ (List.mem_of_getElem? (i := 40) rfl))) (mvT hZ (hw _ (List.mem_of_getElem? (i := 64) rfl))) (by decide) (backOf (W := 0) (rm11 l Z a0 hw [] q2 q3 T83.heap n0 Z83) hZ (hw _ (List.mem_of_getElem? (i := 64) rfl)) (hw _ (List.mem_of_getElem? (i := 40) rfl)) (by decide) (by decide)) (g := (mkF m 125 #[.val (.long q1), .second, .val (.long q2), .second, .val (.long q3), .second, .val (.int p4), .val (.int v7), .val (.ref b2), .val (.long v78), .second, .val (.int u111s0_2), .unset, .unset, .unset, .unset] [(.long q3), (.long q2)])) rfl (by rw [hml]; rfl) (argsL := [(.long q2), (.long q3)]) (rest := []) (lenOf pd0_5 rfl) rfl (by show 2 * 0 + _ ≤ _; exact Nat.le_of_eq rfl) (hb hby at_125) (fun _ _ => ⟨rfl, rfl, (by decide : 4 + 0 ≤ _), (by decide : 11 + 0 ≤ _)⟩)
      dsimp only [Pt.U, Pt.locs, Pt.cells, Pt.slots] at X85 l85 y85 z85 st85 hQ85
      subst l85 y85 z85
      obtain ⟨rfl, Nq85, e85⟩ := hQ85
      have N85 := Fr.app N83 Nq85
      have pre85 : ∀ t, Steps p.tables e below (T85.setTop (mkF m 128 #[.val (.long q1), .second, .val (.long q2), .second, .val (.long q3), .second, .val (.int p4), .val (.int v7), .val (.ref b2), .val (.long v78), .second, .val (.int u111s0_2), .unset, .unset, .unset, .unset] [(.long (fn11 q2 q3))])) t → Steps p.tables e below (s₁.setTop (entryFrame m #[(.long q1), (.long q2), (.long q3), (.int p4)] maxLocals)) t := fun t k => pre84 t (st85 _ k)
      obtain ⟨v128_2, hv128_2⟩ : ∃ z : Int64, z = (fn11 q2 q3) := ⟨_, rfl⟩
      have pre86 : ∀ t, Steps p.tables e below (T85.setTop (mkF m 130 #[.val (.long q1), .second, .val (.long q2), .second, .val (.long q3), .second, .val (.int p4), .val (.int v7), .val (.ref b2), .val (.long v78), .second, .val (.int u111s0_2), .val (.long v128_2), .second, .unset, .unset] [])) t → Steps p.tables e below (s₁.setTop (entryFrame m #[(.long q1), (.long q2), (.long q3), (.int p4)] maxLocals)) t := by
        intro t k
        subst hv128_2
        refine pre85 t ?_
        refine XS.lstore X85.here hx rfl (hb hby at_128) rfl (l' := #[.val (.long q1), .second, .val (.long q2), .second, .val (.long q3), .second, .val (.int p4), .val (.int v7), .val (.ref b2), .val (.long v78), .second, .val (.int u111s0_2), .val (.long (fn11 q2 q3)), .second, .unset, .unset]) rfl ?_
        show Steps p.tables e below (T85.setTop (mkF m 130 #[.val (.long q1), .second, .val (.long q2), .second, .val (.long q3), .second, .val (.int p4), .val (.int v7), .val (.ref b2), .val (.long v78), .second, .val (.int u111s0_2), .val (.long (fn11 q2 q3)), .second, .unset, .unset] [])) _
        exact k
      have pre87 : ∀ t, Steps p.tables e below (T85.setTop (mkF m 138 #[.val (.long q1), .second, .val (.long q2), .second, .val (.long q3), .second, .val (.int p4), .val (.int v7), .val (.ref b2), .val (.long v78), .second, .val (.int u111s0_2), .val (.long v128_2), .second, .unset, .unset] [(.long v128_2), (.long q1)])) t → Steps p.tables e below (s₁.setTop (entryFrame m #[(.long q1), (.long q2), (.long q3), (.int p4)] maxLocals)) t := by
        intro t k
        refine pre86 t ?_
        refine XS.iload X85.here hx rfl (hb hby at_130) rfl ?_
        show Steps p.tables e below (T85.setTop (mkF m 132 #[.val (.long q1), .second, .val (.long q2), .second, .val (.long q3), .second, .val (.int p4), .val (.int v7), .val (.ref b2), .val (.long v78), .second, .val (.int u111s0_2), .val (.long v128_2), .second, .unset, .unset] [(.int v7)])) _
        refine XS.ifNo X85.here hx rfl (hb hby at_132) rfl ((if0 _ _).trans (teq (own_m0 hv7 hc38 hc54)).2) ?_
        show Steps p.tables e below (T85.setTop (mkF m 135 #[.val (.long q1), .second, .val (.long q2), .second, .val (.long q3), .second, .val (.int p4), .val (.int v7), .val (.ref b2), .val (.long v78), .second, .val (.int u111s0_2), .val (.long v128_2), .second, .unset, .unset] [])) _
        refine XS.lloadN X85.here hx rfl (hb hby at_135) rfl ?_
        show Steps p.tables e below (T85.setTop (mkF m 136 #[.val (.long q1), .second, .val (.long q2), .second, .val (.long q3), .second, .val (.int p4), .val (.int v7), .val (.ref b2), .val (.long v78), .second, .val (.int u111s0_2), .val (.long v128_2), .second, .unset, .unset] [(.long q1)])) _
        refine XS.lload X85.here hx rfl (hb hby at_136) rfl ?_
        show Steps p.tables e below (T85.setTop (mkF m 138 #[.val (.long q1), .second, .val (.long q2), .second, .val (.long q3), .second, .val (.int p4), .val (.int v7), .val (.ref b2), .val (.long v78), .second, .val (.int u111s0_2), .val (.long v128_2), .second, .unset, .unset] [(.long v128_2), (.long q1)])) _
        exact k
      obtain ⟨_, _, ⟨T88, L88, k88, n88⟩, -, X88, ⟨Lc88, hQ88, l88, y88, z88⟩, st88⟩ := Jvm.LawKit.callS X85 hx (y := (⟨"java/lang/Math", "min", "(JJ)J"⟩ : MethodName)) hown (mvT hZ (hw _ (List.mem_of_getElem? (i := 65) rfl))) (mvT hZ (hw _ (List.mem_of_getElem? (i := 39) rfl))) (mvT hZ (hw _ (List.mem_of_getElem? (i := 40) rfl))) (mvT hZ (hw _ (List.mem_of_getElem? (i := 41) rfl))) (by decide) (backOf (W := 0) (rm6 l Z a0 hw [] q1 v128_2 T83.heap n0 Z83) hZ (hw _ (List.mem_of_getElem? (i := 41) rfl)) (hw _ (List.mem_of_getElem? (i := 40) rfl)) (by decide) (by decide)) (g := (mkF m 138 #[.val (.long q1), .second, .val (.long q2), .second, .val (.long q3), .second, .val (.int p4), .val (.int v7), .val (.ref b2), .val (.long v78), .second, .val (.int u111s0_2), .val (.long v128_2), .second, .unset, .unset] [(.long v128_2), (.long q1)])) rfl (by rw [hml]; rfl) (argsL := [(.long q1), (.long v128_2)]) (rest := []) (lenOf pd0_5 rfl) rfl (by show 2 * 0 + _ ≤ _; exact Nat.le_of_eq rfl) (hb hby at_138) (fun _ _ => ⟨rfl, e85, (by decide : 4 + 0 ≤ _), (by decide : 11 + 0 ≤ _)⟩)
      dsimp only [Pt.U, Pt.locs, Pt.cells, Pt.slots] at X88 l88 y88 z88 st88 hQ88
      subst l88 y88 z88
      obtain ⟨rfl, Nq88, e88⟩ := hQ88
      have N88 := Fr.app N85 Nq88
      have pre88 : ∀ t, Steps p.tables e below (T88.setTop (mkF m 141 #[.val (.long q1), .second, .val (.long q2), .second, .val (.long q3), .second, .val (.int p4), .val (.int v7), .val (.ref b2), .val (.long v78), .second, .val (.int u111s0_2), .val (.long v128_2), .second, .unset, .unset] [(.long (fn6 q1 v128_2))])) t → Steps p.tables e below (s₁.setTop (entryFrame m #[(.long q1), (.long q2), (.long q3), (.int p4)] maxLocals)) t := fun t k => pre87 t (st88 _ k)
      obtain ⟨v141, hv141⟩ : ∃ z : Int64, z = (fn6 q1 v128_2) := ⟨_, rfl⟩
      have pre89 : ∀ t, Steps p.tables e below (T88.setTop (mkF m 143 #[.val (.long q1), .second, .val (.long q2), .second, .val (.long q3), .second, .val (.int p4), .val (.int v7), .val (.ref b2), .val (.long v78), .second, .val (.int u111s0_2), .val (.long v128_2), .second, .val (.long v141), .second] [])) t → Steps p.tables e below (s₁.setTop (entryFrame m #[(.long q1), (.long q2), (.long q3), (.int p4)] maxLocals)) t := by
        intro t k
        subst hv141
        refine pre88 t ?_
        refine XS.lstore X88.here hx rfl (hb hby at_141) rfl (l' := #[.val (.long q1), .second, .val (.long q2), .second, .val (.long q3), .second, .val (.int p4), .val (.int v7), .val (.ref b2), .val (.long v78), .second, .val (.int u111s0_2), .val (.long v128_2), .second, .val (.long (fn6 q1 v128_2)), .second]) rfl ?_
        show Steps p.tables e below (T88.setTop (mkF m 143 #[.val (.long q1), .second, .val (.long q2), .second, .val (.long q3), .second, .val (.int p4), .val (.int v7), .val (.ref b2), .val (.long v78), .second, .val (.int u111s0_2), .val (.long v128_2), .second, .val (.long (fn6 q1 v128_2)), .second] [])) _
        exact k
      have pre90 : ∀ t, Steps p.tables e below (T88.setTop (mkF m 173 #[.val (.long q1), .second, .val (.long q2), .second, .val (.long q3), .second, .val (.int p4), .val (.int v7), .val (.ref b2), .val (.long v78), .second, .val (.int u111s0_2), .val (.long v128_2), .second, .val (.long v141), .second] [(.int u111s0_2)])) t → Steps p.tables e below (s₁.setTop (entryFrame m #[(.long q1), (.long q2), (.long q3), (.int p4)] maxLocals)) t := by
        intro t k
        refine pre89 t ?_
        refine XS.goto X88.here hx rfl (pc0 := 143) (pc' := 171) rfl (hb hby at_143) (by decide) (by decide) ?_
        show Steps p.tables e below (T88.setTop (mkF m 171 #[.val (.long q1), .second, .val (.long q2), .second, .val (.long q3), .second, .val (.int p4), .val (.int v7), .val (.ref b2), .val (.long v78), .second, .val (.int u111s0_2), .val (.long v128_2), .second, .val (.long v141), .second] [])) _
        refine XS.iload X88.here hx rfl (hb hby at_171) rfl ?_
        show Steps p.tables e below (T88.setTop (mkF m 173 #[.val (.long q1), .second, .val (.long q2), .second, .val (.long q3), .second, .val (.int p4), .val (.int v7), .val (.ref b2), .val (.long v78), .second, .val (.int u111s0_2), .val (.long v128_2), .second, .val (.long v141), .second] [(.int u111s0_2)])) _
        exact k
      have hd173 : ¬ u111s0_2 = (0 : Int32) := own_ok hu111s0_2 (own_op hx80).1
      have pre91 : ∀ t, Steps p.tables e below (T88.setTop (mkF m 178 #[.val (.long q1), .second, .val (.long q2), .second, .val (.long q3), .second, .val (.int p4), .val (.int v7), .val (.ref b2), .val (.long v78), .second, .val (.int u111s0_2), .val (.long v128_2), .second, .val (.long v141), .second] [(.ref b2)])) t → Steps p.tables e below (s₁.setTop (entryFrame m #[(.long q1), (.long q2), (.long q3), (.int p4)] maxLocals)) t := by
        intro t k
        refine pre90 t ?_
        refine XS.ifNo X88.here hx rfl (hb hby at_173) rfl ((if0 _ _).trans (feq hd173).1) ?_
        show Steps p.tables e below (T88.setTop (mkF m 176 #[.val (.long q1), .second, .val (.long q2), .second, .val (.long q3), .second, .val (.int p4), .val (.int v7), .val (.ref b2), .val (.long v78), .second, .val (.int u111s0_2), .val (.long v128_2), .second, .val (.long v141), .second] [])) _
        refine XS.aload X88.here hx rfl (hb hby at_176) rfl rfl ?_
        show Steps p.tables e below (T88.setTop (mkF m 178 #[.val (.long q1), .second, .val (.long q2), .second, .val (.long q3), .second, .val (.int p4), .val (.int v7), .val (.ref b2), .val (.long v78), .second, .val (.int u111s0_2), .val (.long v128_2), .second, .val (.long v141), .second] [(.ref b2)])) _
        exact k
      obtain ⟨cq92, kq92, qa92, qb92, qc92⟩ := isOf hZ e88 w83_e
      obtain ⟨_, _, ⟨T92, L92, k92, n92⟩, -, X92, ⟨Lc92, hQ92, l92, y92, z92⟩, st92⟩ := X88.virtualBack hx (y := (⟨"sluice/stream/Watermarks", "lowest", "()J"⟩ : MethodName)) (z := (⟨"sluice/stream/Watermarks", "lowest", "()J"⟩ : MethodName)) hown (mvT hZ (hw _ (List.mem_of_getElem? (i := 52) rfl))) (mvT hZ (hw _ (List.mem_of_getElem? (i := 53) rfl))) (notFace_of_selects (args := #[]) (mvT hZ (hw _ (List.mem_of_getElem? (i := 55) rfl)))) (mvT hZ (hw _ (List.mem_of_getElem? (i := 55) rfl))) (mvT hZ (hw _ (List.mem_of_getElem? (i := 54) rfl))) (by decide) (backOf (W := 0) (rmlo l Z a0 hw [] b2 bm4 bs4 bl4 x83.2.1 x83.2.2.1 x83.2.2.2 (0 : Int32) (0 : Int32) (0 : Int32) (1 : Int32) (2 : Int32) T83.heap n0 Z83 ⟨w83_e, w83_lowest, w83_marks, w83_states, w83_live, w83_open, w83_am, w83_as, w83_al, w83_ga, w83_gm, w83_gs, w83_gl, w83_1, w83_2, w83_3, w83_4, w83_5, w83_6⟩) hZ (hw _ (List.mem_of_getElem? (i := 56) rfl)) (hw _ (List.mem_of_getElem? (i := 3) rfl)) (by decide) (by decide)) qa92 qc92 (g := (mkF m 178 #[.val (.long q1), .second, .val (.long q2), .second, .val (.long q3), .second, .val (.int p4), .val (.int v7), .val (.ref b2), .val (.long v78), .second, .val (.int u111s0_2), .val (.long v128_2), .second, .val (.long v141), .second] [(.ref b2)])) rfl (by rw [hml]; rfl) (Steps.refl _) (argsL := []) (rest := []) (lenOf pd0_3 rfl) rfl (by show 2 * 0 + _ ≤ _; exact Nat.le_of_eq rfl) (hb hby at_178) (fun _ _ => ⟨rfl, e88, (by decide : 4 + 0 ≤ _), (by decide : 11 + 0 ≤ _)⟩)
      dsimp only [Pt.U, Pt.locs, Pt.cells, Pt.slots] at X92 l92 y92 z92 st92 hQ92
      subst l92 y92 z92
      unfold Qlo at hQ92
      obtain ⟨x92, hx92⟩ : ∃ z : Int64 × Int64 × Int64 × Int64, z = (fnlo x83.2.1 x83.2.2.1 x83.2.2.2) := ⟨_, rfl⟩
      rw [← hx92] at hQ92
      obtain ⟨rfl, Nq92, J92⟩ := hQ92
      obtain ⟨w92_e, w92_lowest, w92_marks, w92_states, w92_live, w92_open, w92_am, w92_as, w92_al, w92_ga, w92_gm, w92_gs, w92_gl, w92_1, w92_2, w92_3, w92_4, w92_5, w92_6⟩ := J92
      have Z92 : n0 ≤ T92.heap.size := Nat.le_of_lt (Nat.lt_of_le_of_lt w92_ga w92_e.lt)
      have N92 := Fr.app N88 Nq92
      have pre92 : ∀ t, Steps p.tables e below (T92.setTop (mkF m 181 #[.val (.long q1), .second, .val (.long q2), .second, .val (.long q3), .second, .val (.int p4), .val (.int v7), .val (.ref b2), .val (.long v78), .second, .val (.int u111s0_2), .val (.long v128_2), .second, .val (.long v141), .second] [(.long x92.1)])) t → Steps p.tables e below (s₁.setTop (entryFrame m #[(.long q1), (.long q2), (.long q3), (.int p4)] maxLocals)) t := fun t k => pre91 t (st92.trans k)
      obtain ⟨u192s0_2, hu192s0_2⟩ : ∃ z : Int32, z = (if x92.1 = v141 then (1 : Int32) else (0 : Int32)) := ⟨_, rfl⟩
      have pre93 : ∀ t, Steps p.tables e below (T92.setTop (mkF m 192 #[.val (.long q1), .second, .val (.long q2), .second, .val (.long q3), .second, .val (.int p4), .val (.int v7), .val (.ref b2), .val (.long v78), .second, .val (.int u111s0_2), .val (.long v128_2), .second, .val (.long v141), .second] [(.int u192s0_2)])) t → Steps p.tables e below (s₁.setTop (entryFrame m #[(.long q1), (.long q2), (.long q3), (.int p4)] maxLocals)) t := by
        intro t k
        subst hu192s0_2
        refine pre92 t ?_
        refine XS.lload X92.here hx rfl (hb hby at_181) rfl ?_
        show Steps p.tables e below (T92.setTop (mkF m 183 #[.val (.long q1), .second, .val (.long q2), .second, .val (.long q3), .second, .val (.int p4), .val (.int v7), .val (.ref b2), .val (.long v78), .second, .val (.int u111s0_2), .val (.long v128_2), .second, .val (.long v141), .second] [(.long v141), (.long x92.1)])) _
        refine XS.lcmp X92.here hx rfl (hb hby at_183) rfl ?_
        show Steps p.tables e below (T92.setTop (mkF m 184 #[.val (.long q1), .second, .val (.long q2), .second, .val (.long q3), .second, .val (.int p4), .val (.int v7), .val (.ref b2), .val (.long v78), .second, .val (.int u111s0_2), .val (.long v128_2), .second, .val (.long v141), .second] [(.int (lcmpW x92.1 v141))])) _
        by_cases hb184 : x92.1 = v141
        · simp only [if_pos hb184] at k
          refine XS.ifNo X92.here hx rfl (hb hby at_184) rfl (own_Teq hb184).2 ?_
          show Steps p.tables e below (T92.setTop (mkF m 187 #[.val (.long q1), .second, .val (.long q2), .second, .val (.long q3), .second, .val (.int p4), .val (.int v7), .val (.ref b2), .val (.long v78), .second, .val (.int u111s0_2), .val (.long v128_2), .second, .val (.long v141), .second] [])) _
          refine XS.iconst X92.here hx rfl (hb hby at_187) ?_
          show Steps p.tables e below (T92.setTop (mkF m 188 #[.val (.long q1), .second, .val (.long q2), .second, .val (.long q3), .second, .val (.int p4), .val (.int v7), .val (.ref b2), .val (.long v78), .second, .val (.int u111s0_2), .val (.long v128_2), .second, .val (.long v141), .second] [(.int (1 : Int32))])) _
          refine XS.goto X92.here hx rfl (pc0 := 188) (pc' := 192) rfl (hb hby at_188) (by decide) (by decide) ?_
          show Steps p.tables e below (T92.setTop (mkF m 192 #[.val (.long q1), .second, .val (.long q2), .second, .val (.long q3), .second, .val (.int p4), .val (.int v7), .val (.ref b2), .val (.long v78), .second, .val (.int u111s0_2), .val (.long v128_2), .second, .val (.long v141), .second] [(.int (1 : Int32))])) _
          exact k
        · simp only [if_neg hb184] at k
          refine XS.ifYes X92.here hx rfl (pc0 := 184) (pc' := 191) rfl (hb hby at_184) rfl (own_Feq hb184).2 (by decide) (by decide) ?_
          show Steps p.tables e below (T92.setTop (mkF m 191 #[.val (.long q1), .second, .val (.long q2), .second, .val (.long q3), .second, .val (.int p4), .val (.int v7), .val (.ref b2), .val (.long v78), .second, .val (.int u111s0_2), .val (.long v128_2), .second, .val (.long v141), .second] [])) _
          refine XS.iconst X92.here hx rfl (hb hby at_191) ?_
          show Steps p.tables e below (T92.setTop (mkF m 192 #[.val (.long q1), .second, .val (.long q2), .second, .val (.long q3), .second, .val (.int p4), .val (.int v7), .val (.ref b2), .val (.long v78), .second, .val (.int u111s0_2), .val (.long v128_2), .second, .val (.long v141), .second] [(.int (0 : Int32))])) _
          exact k
      have pre94 : ∀ t, Steps p.tables e below (T92.setTop (mkF m 197 #[.val (.long q1), .second, .val (.long q2), .second, .val (.long q3), .second, .val (.int p4), .val (.int v7), .val (.ref b2), .val (.long v78), .second, .val (.int u192s0_2), .val (.long v128_2), .second, .val (.long v141), .second] [(.int (1 : Int32)), (.ref b2)])) t → Steps p.tables e below (s₁.setTop (entryFrame m #[(.long q1), (.long q2), (.long q3), (.int p4)] maxLocals)) t := by
        intro t k
        refine pre93 t ?_
        refine XS.istore X92.here hx rfl (hb hby at_192) rfl (l' := #[.val (.long q1), .second, .val (.long q2), .second, .val (.long q3), .second, .val (.int p4), .val (.int v7), .val (.ref b2), .val (.long v78), .second, .val (.int u192s0_2), .val (.long v128_2), .second, .val (.long v141), .second]) rfl ?_
        show Steps p.tables e below (T92.setTop (mkF m 194 #[.val (.long q1), .second, .val (.long q2), .second, .val (.long q3), .second, .val (.int p4), .val (.int v7), .val (.ref b2), .val (.long v78), .second, .val (.int u192s0_2), .val (.long v128_2), .second, .val (.long v141), .second] [])) _
        refine XS.aload X92.here hx rfl (hb hby at_194) rfl rfl ?_
        show Steps p.tables e below (T92.setTop (mkF m 196 #[.val (.long q1), .second, .val (.long q2), .second, .val (.long q3), .second, .val (.int p4), .val (.int v7), .val (.ref b2), .val (.long v78), .second, .val (.int u192s0_2), .val (.long v128_2), .second, .val (.long v141), .second] [(.ref b2)])) _
        refine XS.iconst X92.here hx rfl (hb hby at_196) ?_
        show Steps p.tables e below (T92.setTop (mkF m 197 #[.val (.long q1), .second, .val (.long q2), .second, .val (.long q3), .second, .val (.int p4), .val (.int v7), .val (.ref b2), .val (.long v78), .second, .val (.int u192s0_2), .val (.long v128_2), .second, .val (.long v141), .second] [(.int (1 : Int32)), (.ref b2)])) _
        exact k
      obtain ⟨cq95, kq95, qa95, qb95, qc95⟩ := isOf hZ rfl w92_e
      obtain ⟨_, _, ⟨T95, L95, k95, n95⟩, -, X95, ⟨Lc95, hQ95, l95, y95, z95⟩, st95⟩ := X92.virtualBack hx (y := (⟨"sluice/stream/Watermarks", "end", "(I)Z"⟩ : MethodName)) (z := (⟨"sluice/stream/Watermarks", "end", "(I)Z"⟩ : MethodName)) hown (mvT hZ (hw _ (List.mem_of_getElem? (i := 42) rfl))) (mvT hZ (hw _ (List.mem_of_getElem? (i := 43) rfl))) (notFace_of_selects (args := #[]) (mvT hZ (hw _ (List.mem_of_getElem? (i := 45) rfl)))) (mvT hZ (hw _ (List.mem_of_getElem? (i := 45) rfl))) (mvT hZ (hw _ (List.mem_of_getElem? (i := 44) rfl))) (by decide) (backOf (W := 0) (rme1 l Z a0 hw [] b2 bm4 bs4 bl4 x92.2.1 x92.2.2.1 x92.2.2.2 T92.heap n0 Z92 ⟨w92_e, w92_lowest, w92_marks, w92_states, w92_live, w92_open, w92_am, w92_as, w92_al, w92_ga, w92_gm, w92_gs, w92_gl, w92_1, w92_2, w92_3, w92_4, w92_5, w92_6⟩) hZ (hw _ (List.mem_of_getElem? (i := 46) rfl)) (hw _ (List.mem_of_getElem? (i := 3) rfl)) (by decide) (by decide)) qa95 qc95 (g := (mkF m 197 #[.val (.long q1), .second, .val (.long q2), .second, .val (.long q3), .second, .val (.int p4), .val (.int v7), .val (.ref b2), .val (.long v78), .second, .val (.int u192s0_2), .val (.long v128_2), .second, .val (.long v141), .second] [(.int (1 : Int32)), (.ref b2)])) rfl (by rw [hml]; rfl) (Steps.refl _) (argsL := [(.int (1 : Int32))]) (rest := []) (lenOf pd0_2 rfl) rfl (by show 2 * 0 + _ ≤ _; exact Nat.le_of_eq rfl) (hb hby at_197) (fun _ _ => ⟨rfl, rfl, (by decide : 4 + 0 ≤ _), (by decide : 11 + 0 ≤ _)⟩)
      dsimp only [Pt.U, Pt.locs, Pt.cells, Pt.slots] at X95 l95 y95 z95 st95 hQ95
      subst l95 y95 z95
      unfold Qe1 at hQ95
      obtain ⟨x95, hx95⟩ : ∃ z : Int32 × Int64 × Int64 × Int64, z = (fne1 x92.2.1 x92.2.2.1 x92.2.2.2) := ⟨_, rfl⟩
      rw [← hx95] at hQ95
      obtain ⟨rfl, Nq95, J95⟩ := hQ95
      obtain ⟨w95_e, w95_lowest, w95_marks, w95_states, w95_live, w95_open, w95_am, w95_as, w95_al, w95_ga, w95_gm, w95_gs, w95_gl, w95_1, w95_2, w95_3, w95_4, w95_5, w95_6⟩ := J95
      have Z95 : n0 ≤ T95.heap.size := Nat.le_of_lt (Nat.lt_of_le_of_lt w95_ga w95_e.lt)
      have N95 := Fr.app N92 Nq95
      have pre95 : ∀ t, Steps p.tables e below (T95.setTop (mkF m 200 #[.val (.long q1), .second, .val (.long q2), .second, .val (.long q3), .second, .val (.int p4), .val (.int v7), .val (.ref b2), .val (.long v78), .second, .val (.int u192s0_2), .val (.long v128_2), .second, .val (.long v141), .second] [(.int x95.1)])) t → Steps p.tables e below (s₁.setTop (entryFrame m #[(.long q1), (.long q2), (.long q3), (.int p4)] maxLocals)) t := fun t k => pre94 t (st95.trans k)
      have pre96 : ∀ t, Steps p.tables e below (T95.setTop (mkF m 203 #[.val (.long q1), .second, .val (.long q2), .second, .val (.long q3), .second, .val (.int p4), .val (.int v7), .val (.ref b2), .val (.long v78), .second, .val (.int u192s0_2), .val (.long v128_2), .second, .val (.long v141), .second] [(.int u192s0_2)])) t → Steps p.tables e below (s₁.setTop (entryFrame m #[(.long q1), (.long q2), (.long q3), (.int p4)] maxLocals)) t := by
        intro t k
        refine pre95 t ?_
        refine XS.pop X95.here hx rfl (hb hby at_200) rfl rfl ?_
        show Steps p.tables e below (T95.setTop (mkF m 201 #[.val (.long q1), .second, .val (.long q2), .second, .val (.long q3), .second, .val (.int p4), .val (.int v7), .val (.ref b2), .val (.long v78), .second, .val (.int u192s0_2), .val (.long v128_2), .second, .val (.long v141), .second] [])) _
        refine XS.iload X95.here hx rfl (hb hby at_201) rfl ?_
        show Steps p.tables e below (T95.setTop (mkF m 203 #[.val (.long q1), .second, .val (.long q2), .second, .val (.long q3), .second, .val (.int p4), .val (.int v7), .val (.ref b2), .val (.long v78), .second, .val (.int u192s0_2), .val (.long v128_2), .second, .val (.long v141), .second] [(.int u192s0_2)])) _
        exact k
      have yZ := own_z0 hv78 yY hx80 hx83 hv128_2 hv141 hx92
      have hd203 : ¬ u192s0_2 = (0 : Int32) := own_ok hu192s0_2 yZ.1
      have pre97 : ∀ t, Steps p.tables e below (T95.setTop (mkF m 208 #[.val (.long q1), .second, .val (.long q2), .second, .val (.long q3), .second, .val (.int p4), .val (.int v7), .val (.ref b2), .val (.long v78), .second, .val (.int u192s0_2), .val (.long v128_2), .second, .val (.long v141), .second] [(.ref b2)])) t → Steps p.tables e below (s₁.setTop (entryFrame m #[(.long q1), (.long q2), (.long q3), (.int p4)] maxLocals)) t := by
        intro t k
        refine pre96 t ?_
        refine XS.ifNo X95.here hx rfl (hb hby at_203) rfl ((if0 _ _).trans (feq hd203).1) ?_
        show Steps p.tables e below (T95.setTop (mkF m 206 #[.val (.long q1), .second, .val (.long q2), .second, .val (.long q3), .second, .val (.int p4), .val (.int v7), .val (.ref b2), .val (.long v78), .second, .val (.int u192s0_2), .val (.long v128_2), .second, .val (.long v141), .second] [])) _
        refine XS.aload X95.here hx rfl (hb hby at_206) rfl rfl ?_
        show Steps p.tables e below (T95.setTop (mkF m 208 #[.val (.long q1), .second, .val (.long q2), .second, .val (.long q3), .second, .val (.int p4), .val (.int v7), .val (.ref b2), .val (.long v78), .second, .val (.int u192s0_2), .val (.long v128_2), .second, .val (.long v141), .second] [(.ref b2)])) _
        exact k
      obtain ⟨cq98, kq98, qa98, qb98, qc98⟩ := isOf hZ rfl w95_e
      obtain ⟨_, _, ⟨T98, L98, k98, n98⟩, -, X98, ⟨Lc98, hQ98, l98, y98, z98⟩, st98⟩ := X95.virtualBack hx (y := (⟨"sluice/stream/Watermarks", "lowest", "()J"⟩ : MethodName)) (z := (⟨"sluice/stream/Watermarks", "lowest", "()J"⟩ : MethodName)) hown (mvT hZ (hw _ (List.mem_of_getElem? (i := 52) rfl))) (mvT hZ (hw _ (List.mem_of_getElem? (i := 53) rfl))) (notFace_of_selects (args := #[]) (mvT hZ (hw _ (List.mem_of_getElem? (i := 55) rfl)))) (mvT hZ (hw _ (List.mem_of_getElem? (i := 55) rfl))) (mvT hZ (hw _ (List.mem_of_getElem? (i := 54) rfl))) (by decide) (backOf (W := 0) (rmlo l Z a0 hw [] b2 bm4 bs4 bl4 x95.2.1 x95.2.2.1 x95.2.2.2 (0 : Int32) (2 : Int32) (0 : Int32) (1 : Int32) (1 : Int32) T95.heap n0 Z95 ⟨w95_e, w95_lowest, w95_marks, w95_states, w95_live, w95_open, w95_am, w95_as, w95_al, w95_ga, w95_gm, w95_gs, w95_gl, w95_1, w95_2, w95_3, w95_4, w95_5, w95_6⟩) hZ (hw _ (List.mem_of_getElem? (i := 56) rfl)) (hw _ (List.mem_of_getElem? (i := 3) rfl)) (by decide) (by decide)) qa98 qc98 (g := (mkF m 208 #[.val (.long q1), .second, .val (.long q2), .second, .val (.long q3), .second, .val (.int p4), .val (.int v7), .val (.ref b2), .val (.long v78), .second, .val (.int u192s0_2), .val (.long v128_2), .second, .val (.long v141), .second] [(.ref b2)])) rfl (by rw [hml]; rfl) (Steps.refl _) (argsL := []) (rest := []) (lenOf pd0_3 rfl) rfl (by show 2 * 0 + _ ≤ _; exact Nat.le_of_eq rfl) (hb hby at_208) (fun _ _ => ⟨rfl, rfl, (by decide : 4 + 0 ≤ _), (by decide : 11 + 0 ≤ _)⟩)
      dsimp only [Pt.U, Pt.locs, Pt.cells, Pt.slots] at X98 l98 y98 z98 st98 hQ98
      subst l98 y98 z98
      unfold Qlo at hQ98
      obtain ⟨x98, hx98⟩ : ∃ z : Int64 × Int64 × Int64 × Int64, z = (fnlo x95.2.1 x95.2.2.1 x95.2.2.2) := ⟨_, rfl⟩
      rw [← hx98] at hQ98
      obtain ⟨rfl, Nq98, J98⟩ := hQ98
      obtain ⟨w98_e, w98_lowest, w98_marks, w98_states, w98_live, w98_open, w98_am, w98_as, w98_al, w98_ga, w98_gm, w98_gs, w98_gl, w98_1, w98_2, w98_3, w98_4, w98_5, w98_6⟩ := J98
      have Z98 : n0 ≤ T98.heap.size := Nat.le_of_lt (Nat.lt_of_le_of_lt w98_ga w98_e.lt)
      have N98 := Fr.app N95 Nq98
      have pre98 : ∀ t, Steps p.tables e below (T98.setTop (mkF m 211 #[.val (.long q1), .second, .val (.long q2), .second, .val (.long q3), .second, .val (.int p4), .val (.int v7), .val (.ref b2), .val (.long v78), .second, .val (.int u192s0_2), .val (.long v128_2), .second, .val (.long v141), .second] [(.long x98.1)])) t → Steps p.tables e below (s₁.setTop (entryFrame m #[(.long q1), (.long q2), (.long q3), (.int p4)] maxLocals)) t := fun t k => pre97 t (st98.trans k)
      have pre99 : ∀ t, Steps p.tables e below (T98.setTop (mkF m 214 #[.val (.long q1), .second, .val (.long q2), .second, .val (.long q3), .second, .val (.int p4), .val (.int v7), .val (.ref b2), .val (.long v78), .second, .val (.int u192s0_2), .val (.long v128_2), .second, .val (.long v141), .second] [(.long q1), (.long v141), (.long x98.1)])) t → Steps p.tables e below (s₁.setTop (entryFrame m #[(.long q1), (.long q2), (.long q3), (.int p4)] maxLocals)) t := by
        intro t k
        refine pre98 t ?_
        refine XS.lload X98.here hx rfl (hb hby at_211) rfl ?_
        show Steps p.tables e below (T98.setTop (mkF m 213 #[.val (.long q1), .second, .val (.long q2), .second, .val (.long q3), .second, .val (.int p4), .val (.int v7), .val (.ref b2), .val (.long v78), .second, .val (.int u192s0_2), .val (.long v128_2), .second, .val (.long v141), .second] [(.long v141), (.long x98.1)])) _
        refine XS.lloadN X98.here hx rfl (hb hby at_213) rfl ?_
        show Steps p.tables e below (T98.setTop (mkF m 214 #[.val (.long q1), .second, .val (.long q2), .second, .val (.long q3), .second, .val (.int p4), .val (.int v7), .val (.ref b2), .val (.long v78), .second, .val (.int u192s0_2), .val (.long v128_2), .second, .val (.long v141), .second] [(.long q1), (.long v141), (.long x98.1)])) _
        exact k
      obtain ⟨_, _, ⟨T100, L100, k100, n100⟩, -, X100, ⟨Lc100, hQ100, l100, y100, z100⟩, st100⟩ := Jvm.LawKit.callS X98 hx (y := (⟨"java/lang/Math", "max", "(JJ)J"⟩ : MethodName)) hown (mvT hZ (hw _ (List.mem_of_getElem? (i := 62) rfl))) (mvT hZ (hw _ (List.mem_of_getElem? (i := 63) rfl))) (mvT hZ (hw _ (List.mem_of_getElem? (i := 40) rfl))) (mvT hZ (hw _ (List.mem_of_getElem? (i := 64) rfl))) (by decide) (backOf (W := 2) (rm11 l Z a0 hw [] v141 q1 T98.heap n0 Z98) hZ (hw _ (List.mem_of_getElem? (i := 64) rfl)) (hw _ (List.mem_of_getElem? (i := 40) rfl)) (by decide) (by decide)) (g := (mkF m 214 #[.val (.long q1), .second, .val (.long q2), .second, .val (.long q3), .second, .val (.int p4), .val (.int v7), .val (.ref b2), .val (.long v78), .second, .val (.int u192s0_2), .val (.long v128_2), .second, .val (.long v141), .second] [(.long q1), (.long v141), (.long x98.1)])) rfl (by rw [hml]; rfl) (argsL := [(.long v141), (.long q1)]) (rest := [(.long x98.1)]) (lenOf pd0_5 rfl) rfl (by show 2 * 0 + _ ≤ _; exact Nat.le_of_eq rfl) (hb hby at_214) (fun _ _ => ⟨rfl, rfl, (by decide : 4 + 0 ≤ _), (by decide : 11 + 0 ≤ _)⟩)
      dsimp only [Pt.U, Pt.locs, Pt.cells, Pt.slots] at X100 l100 y100 z100 st100 hQ100
      subst l100 y100 z100
      obtain ⟨rfl, Nq100, e100⟩ := hQ100
      have N100 := Fr.app N98 Nq100
      have pre100 : ∀ t, Steps p.tables e below (T100.setTop (mkF m 217 #[.val (.long q1), .second, .val (.long q2), .second, .val (.long q3), .second, .val (.int p4), .val (.int v7), .val (.ref b2), .val (.long v78), .second, .val (.int u192s0_2), .val (.long v128_2), .second, .val (.long v141), .second] [(.long (fn11 v141 q1)), (.long x98.1)])) t → Steps p.tables e below (s₁.setTop (entryFrame m #[(.long q1), (.long q2), (.long q3), (.int p4)] maxLocals)) t := fun t k => pre99 t (st100 _ k)
      obtain ⟨u226s0_2, hu226s0_2⟩ : ∃ z : Int32, z = (if x98.1 = (fn11 v141 q1) then (1 : Int32) else (0 : Int32)) := ⟨_, rfl⟩
      have pre101 : ∀ t, Steps p.tables e below (T100.setTop (mkF m 226 #[.val (.long q1), .second, .val (.long q2), .second, .val (.long q3), .second, .val (.int p4), .val (.int v7), .val (.ref b2), .val (.long v78), .second, .val (.int u192s0_2), .val (.long v128_2), .second, .val (.long v141), .second] [(.int u226s0_2)])) t → Steps p.tables e below (s₁.setTop (entryFrame m #[(.long q1), (.long q2), (.long q3), (.int p4)] maxLocals)) t := by
        intro t k
        subst hu226s0_2
        refine pre100 t ?_
        refine XS.lcmp X100.here hx rfl (hb hby at_217) rfl ?_
        show Steps p.tables e below (T100.setTop (mkF m 218 #[.val (.long q1), .second, .val (.long q2), .second, .val (.long q3), .second, .val (.int p4), .val (.int v7), .val (.ref b2), .val (.long v78), .second, .val (.int u192s0_2), .val (.long v128_2), .second, .val (.long v141), .second] [(.int (lcmpW x98.1 (fn11 v141 q1)))])) _
        by_cases hb218 : x98.1 = (fn11 v141 q1)
        · simp only [if_pos hb218] at k
          refine XS.ifNo X100.here hx rfl (hb hby at_218) rfl (own_Teq hb218).2 ?_
          show Steps p.tables e below (T100.setTop (mkF m 221 #[.val (.long q1), .second, .val (.long q2), .second, .val (.long q3), .second, .val (.int p4), .val (.int v7), .val (.ref b2), .val (.long v78), .second, .val (.int u192s0_2), .val (.long v128_2), .second, .val (.long v141), .second] [])) _
          refine XS.iconst X100.here hx rfl (hb hby at_221) ?_
          show Steps p.tables e below (T100.setTop (mkF m 222 #[.val (.long q1), .second, .val (.long q2), .second, .val (.long q3), .second, .val (.int p4), .val (.int v7), .val (.ref b2), .val (.long v78), .second, .val (.int u192s0_2), .val (.long v128_2), .second, .val (.long v141), .second] [(.int (1 : Int32))])) _
          refine XS.goto X100.here hx rfl (pc0 := 222) (pc' := 226) rfl (hb hby at_222) (by decide) (by decide) ?_
          show Steps p.tables e below (T100.setTop (mkF m 226 #[.val (.long q1), .second, .val (.long q2), .second, .val (.long q3), .second, .val (.int p4), .val (.int v7), .val (.ref b2), .val (.long v78), .second, .val (.int u192s0_2), .val (.long v128_2), .second, .val (.long v141), .second] [(.int (1 : Int32))])) _
          exact k
        · simp only [if_neg hb218] at k
          refine XS.ifYes X100.here hx rfl (pc0 := 218) (pc' := 225) rfl (hb hby at_218) rfl (own_Feq hb218).2 (by decide) (by decide) ?_
          show Steps p.tables e below (T100.setTop (mkF m 225 #[.val (.long q1), .second, .val (.long q2), .second, .val (.long q3), .second, .val (.int p4), .val (.int v7), .val (.ref b2), .val (.long v78), .second, .val (.int u192s0_2), .val (.long v128_2), .second, .val (.long v141), .second] [])) _
          refine XS.iconst X100.here hx rfl (hb hby at_225) ?_
          show Steps p.tables e below (T100.setTop (mkF m 226 #[.val (.long q1), .second, .val (.long q2), .second, .val (.long q3), .second, .val (.int p4), .val (.int v7), .val (.ref b2), .val (.long v78), .second, .val (.int u192s0_2), .val (.long v128_2), .second, .val (.long v141), .second] [(.int (0 : Int32))])) _
          exact k
      have pre102 : ∀ t, Steps p.tables e below (T100.setTop (mkF m 230 #[.val (.long q1), .second, .val (.long q2), .second, .val (.long q3), .second, .val (.int p4), .val (.int v7), .val (.ref b2), .val (.long v78), .second, .val (.int u226s0_2), .val (.long v128_2), .second, .val (.long v141), .second] [(.int u226s0_2)])) t → Steps p.tables e below (s₁.setTop (entryFrame m #[(.long q1), (.long q2), (.long q3), (.int p4)] maxLocals)) t := by
        intro t k
        refine pre101 t ?_
        refine XS.istore X100.here hx rfl (hb hby at_226) rfl (l' := #[.val (.long q1), .second, .val (.long q2), .second, .val (.long q3), .second, .val (.int p4), .val (.int v7), .val (.ref b2), .val (.long v78), .second, .val (.int u226s0_2), .val (.long v128_2), .second, .val (.long v141), .second]) rfl ?_
        show Steps p.tables e below (T100.setTop (mkF m 228 #[.val (.long q1), .second, .val (.long q2), .second, .val (.long q3), .second, .val (.int p4), .val (.int v7), .val (.ref b2), .val (.long v78), .second, .val (.int u226s0_2), .val (.long v128_2), .second, .val (.long v141), .second] [])) _
        refine XS.iload X100.here hx rfl (hb hby at_228) rfl ?_
        show Steps p.tables e below (T100.setTop (mkF m 230 #[.val (.long q1), .second, .val (.long q2), .second, .val (.long q3), .second, .val (.int p4), .val (.int v7), .val (.ref b2), .val (.long v78), .second, .val (.int u226s0_2), .val (.long v128_2), .second, .val (.long v141), .second] [(.int u226s0_2)])) _
        exact k
      obtain ⟨fs, hr, hrun, hended, hW, hsame⟩ := X100.leave (v := some (.int (nar .boolean u226s0_2))) (fun h => by rw [Bd.returns] at h; cases h)
      refine ⟨_, _, pre102 _ ?_, hrun, hended, _, _, rfl, ?_, ⟨_, rfl⟩, hW, hsame.mono (by decide) (by decide)⟩
      · show Steps p.tables e below (T100.setTop (mkF m 230 #[.val (.long q1), .second, .val (.long q2), .second, .val (.long q3), .second, .val (.int p4), .val (.int v7), .val (.ref b2), .val (.long v78), .second, .val (.int u226s0_2), .val (.long v128_2), .second, .val (.long v141), .second] [(.int u226s0_2)])) _
        exact retN X100 hx (t := .boolean) Bd.returns (by simp) (hb hby at_230) hr
      · show Q0 Z q1 q2 q3 p4 h0 n0 _ T100.heap _
        have yF := own_one hu226s0_2 (own_f yZ (own_e1 hx95) hx98)
        refine ⟨?_, N100⟩
        rw [yF]; rfl
set_option maxRecDepth 65536 in
set_option maxHeartbeats 40000000 in
theorem comes_1 {Post : Tables → Env → Array Value → State → Outcome → State → Prop} (hpost : ∀ tb e args s v u, (limb_1_1.after args s (.returned v) u = true ∧ limb_1_2.after args s (.returned v) u = true ∧ True) → FrameEnd s (.returned v) u (Jvm.fieldLocs frame_1_writes args s ++ Jvm.arrayLocs frame_1_arrays args s ++ Jvm.staticLocs frame_1_statics s) 16 128 → Post tb e args s (.returned v) u) :
    ArmFor flags0 classFile x code maxLocals ret World_1 tables_1 room_1 Calls_1 rest_1 Pre_1 Post := by
  intro l hfl _ _ p e ha hc hk s m args below hf hA hF happ hP
  obtain ⟨hcalls, hrest, hpre⟩ := hP
  obtain ⟨-, -, -, hnamed, -, -, -, hat⟩ := (Spec.applies_iff hf).mp happ
  obtain ⟨hg, hn⟩ := and_e (Cond.before_iff.mp (show (Jvm.Cond.and given_1 narrow_1).before args s = true from hpre))
  obtain ⟨hcount, g0⟩ := and_e hg
  obtain ⟨a0, g1⟩ := and_e g0
  obtain ⟨a1, g2⟩ := and_e g1
  obtain ⟨a2, g3⟩ := and_e g2
  have a3 := g3
  obtain ⟨w0, w1, w2, w3, rfl⟩ : ∃ w0 w1 w2 w3 : Value, args = #[w0, w1, w2, w3] := by
    have hs : args.size = 4 := by simpa [Cond.value, given_1] using hcount
    obtain ⟨L⟩ := args
    match L, hs with
    | [w0, w1, w2, w3], _ => exact ⟨w0, w1, w2, w3, rfl⟩
  have hw := fun d (hd : d ∈ tables_1) => atoms_spec (ws := Jvm.Cond.code x code maxLocals ret :: tables_1) hat d (List.mem_cons_of_mem _ hd)
  obtain ⟨i0, ei0⟩ := isL_v a0
  obtain rfl : w0 = (.long i0) := Option.some.inj ei0
  obtain ⟨i1, ei1⟩ := isL_v a1
  obtain rfl : w1 = (.long i1) := Option.some.inj ei1
  obtain ⟨i2, ei2⟩ := isL_v a2
  obtain rfl : w2 = (.long i2) := Option.some.inj ei2
  obtain ⟨i3, ei3⟩ := is_v a3
  obtain rfl : w3 = (.int i3) := Option.some.inj ei3
  obtain ⟨n, o, h1, h2, h3, v, L, rfl, ⟨hv, N⟩, hq⟩ := rm0 l s _ hw tables_1 i0 i1 i2 i3 s.heap s.heap.size (Nat.le_refl _) p e ha hc hk s m _ below hf ((Spec.applies_iff_loose hf).mp happ).1 ⟨rfl, State.Warmed39.refl s, rfl⟩ trivial
  skip
  subst hv
  refine ⟨n, _, h1, h2, h3, hpost _ _ _ _ _ _ ⟨Cond.after_iff.mpr rfl, Cond.after_iff.mpr (eq_i res_at (Term.int_eval (1)) rfl), trivial⟩ ⟨hq.1, hq.2.1, (hq.2.2.sift fun y hy => Or.inr (N y hy)).mono (by decide) (by decide)⟩⟩
theorem main_1_1 : Claimed_1_1 := comes_1 fun _ _ _ _ _ _ h hF => ⟨h.1, hF⟩
theorem main_1_2 : Claimed_1_2 := comes_1 fun _ _ _ _ _ _ h hF => ⟨h.2.1, hF⟩
end Jvm.Pilot.@@N@@
namespace Jvm.Pilot.@@N@@
open Jvm Jvm.ClassFile Sem Op Lib Jvm.Free Jvm.Stand Jvm.Pilot.@@N@@.Jvm.D
/-! MADE BY PROGRAM (witnessworld.py) out of the Statement's table words and the real class files: 13 classes; the members and pool entries that the words name. The judged class is class 1, her method 1. -/
namespace start1
open Jvm.ClassFile
def u (s : String) : CpInfo := .utf8 (stringToUtf16 s)
/-- a pool by its gaps: so many unusable entries, then the entry; so many at the end -/
def gap : Nat → List CpInfo → List CpInfo
  | 0, r => r
  | n + 1, r => .unusable :: gap n r
def poolList (es : List (Nat × CpInfo)) (last : Nat) : List CpInfo := es.foldr (fun e r => gap e.1 (e.2 :: r)) (gap last [])
def pool (es : List (Nat × CpInfo)) (last : Nat) : Array CpInfo := ⟨poolList es last⟩
def fileOf (pool : Array CpInfo) (this : Nat) (attrs : Array Attribute := #[]) (ms : Array MethodInfo := #[]) (fl : Nat := 33) (sup : Nat := 0) (ifs : Array Nat := #[]) (fds : Array FieldInfo := #[]) : ClassFile where
  minorVersion := 0
  majorVersion := 65
  constantPool := pool
  accessFlags := fl
  thisClass := this
  superClass := sup
  interfaces := ifs
  fields := fds
  methods := ms
  attributes := attrs
def plain (name : String) (sup : Option ClassId) : Class where
  name := name
  kind := .ordinary
  loader := none
  accessFlags := 33
  super := sup
  interfaces := #[]
  cf := none
  fields := #[]
  methods := #[]
  instanceTypes := #[]
  staticTypes := #[]
  resolved := #[]
  callSites := []
  init := .initialized
  statics := none
  mirror := none

def pool0 : Array CpInfo := pool [(5, u "<init>"), (0, u "()V"), (1, .class_ 10), (1, u "java/lang/Object")] 113

def k0c0 : Code := { maxStack := 0, maxLocals := 1, code := object_method_1_code, exceptionTable := #[], attributes := #[] }
def k0m0 : Method := { name := "<init>", desc := "()V", sig := { parameters := [], returnType := none }, accessFlags := 1, code := some k0c0 }
/-- java/lang/Object -/
def k0 : Class := { plain "java/lang/Object" none with
  accessFlags := 33
  interfaces := #[]
  cf := some (fileOf pool0 8 #[] #[{ accessFlags := 1, nameIndex := 5, descriptorIndex := 6, attributes := #[] }] 33 0 #[] #[])
  fields := #[]
  methods := #[k0m0]
  instanceTypes := #[]
  staticTypes := #[]
  resolved := Array.replicate 124 none
  statics := none }

def pool1 : Array CpInfo := pool [(2, .class_ 4), (1, u "java/lang/Object"), (0, u "<init>"), (0, u "()V"), (0, .integer 2147483647), (0, .class_ 9), (0, u "sluice/stream/Watermarks"), (0, .methodref 8 11), (0, .nameAndType 5 12), (0, u "(I)V"), (0, .methodref 8 14), (0, .nameAndType 15 16), (0, u "raise"), (0, u "(IJ)Z"), (0, .methodref 8 18), (0, .nameAndType 19 20), (0, u "idle"), (0, u "(I)Z"), (0, .methodref 8 22), (0, .nameAndType 23 20), (0, u "end"), (0, .methodref 25 26), (0, .class_ 27), (0, .nameAndType 28 29), (0, u "java/lang/Math"), (0, u "min"), (0, u "(JJ)J"), (0, .methodref 8 31), (0, .nameAndType 32 12), (0, u "reopen"), (0, .methodref 8 34), (0, .nameAndType 35 36), (0, u "lowest"), (0, u "()J"), (0, .methodref 8 38), (0, .nameAndType 39 40), (0, u "open"), (0, u "()I"), (0, .methodref 25 42), (0, .nameAndType 43 29), (0, u "max"), (0, .class_ 45), (0, u "sluice/stream/WatermarksReopenPinLaw"), (2, u "law"), (0, u "(JJJI)Z")] 3

def k1m0 : Method := { name := "<init>", desc := "()V", sig := { parameters := [], returnType := none }, accessFlags := 1, code := none }
def k1c1 : Code := { maxStack := 6, maxLocals := 16, code := code, exceptionTable := #[], attributes := #[] }
def k1m1 : Method := { name := "law", desc := "(JJJI)Z", sig := { parameters := [.long, .long, .long, .int], returnType := some .boolean }, accessFlags := 9, code := some k1c1 }
/-- sluice/stream/WatermarksReopenPinLaw -/
def k1 : Class := { plain "sluice/stream/WatermarksReopenPinLaw" (some 0) with
  accessFlags := 49
  interfaces := #[]
  cf := some (fileOf pool1 44 #[] #[{ accessFlags := 1, nameIndex := 5, descriptorIndex := 6, attributes := #[] }, { accessFlags := 9, nameIndex := 48, descriptorIndex := 49, attributes := #[] }] 49 2 #[] #[])
  fields := #[]
  methods := #[k1m0, k1m1]
  instanceTypes := #[]
  staticTypes := #[]
  resolved := Array.replicate 53 none
  statics := none }

def pool2 : Array CpInfo := pool [(1, .methodref 2 3), (0, .class_ 4), (0, .nameAndType 5 6), (0, u "java/lang/Object"), (0, u "<init>"), (0, u "()V"), (2, .long 9223372036854775808), (1, .fieldref 12 13), (0, .class_ 14), (0, .nameAndType 15 16), (0, u "sluice/stream/Watermarks"), (0, u "lowest"), (0, u "J"), (0, .fieldref 12 18), (0, .nameAndType 19 20), (0, u "marks"), (0, u "[J"), (0, .fieldref 12 22), (0, .nameAndType 23 24), (0, u "states"), (0, u "[B"), (0, .fieldref 12 26), (0, .nameAndType 27 28), (0, u "live"), (0, u "[I"), (0, .methodref 30 31), (0, .class_ 32), (0, .nameAndType 33 34), (0, u "java/util/Arrays"), (0, u "fill"), (0, u "([JJ)V"), (0, .fieldref 12 36), (0, .nameAndType 37 38), (0, u "open"), (0, u "I"), (0, .methodref 12 40), (0, .nameAndType 41 42), (0, u "rise"), (0, u "()Z"), (12, .long 9223372036854775807), (1, .methodref 58 59), (0, .class_ 60), (0, .nameAndType 61 62), (0, u "java/lang/Math"), (0, u "min"), (0, u "(JJ)J"), (0, .methodref 58 64), (0, .nameAndType 65 62), (0, u "max"), (9, u "(I)V"), (5, u "()J"), (4, u "OPEN"), (0, u "B"), (2, u "IDLE"), (1, u "ENDED"), (4, u "()I"), (1, u "raise"), (0, u "(IJ)Z"), (0, u "end"), (0, u "(I)Z"), (0, u "idle"), (1, u "reopen")] 14

def k2c0 : Code := { maxStack := 3, maxLocals := 3, code := prog_183_method_1_code, exceptionTable := #[], attributes := #[] }
def k2m0 : Method := { name := "<init>", desc := "(I)V", sig := { parameters := [.int], returnType := none }, accessFlags := 0, code := some k2c0 }
def k2c1 : Code := { maxStack := 2, maxLocals := 1, code := prog_183_method_2_code, exceptionTable := #[], attributes := #[] }
def k2m1 : Method := { name := "lowest", desc := "()J", sig := { parameters := [], returnType := some .long }, accessFlags := 0, code := some k2c1 }
def k2c2 : Code := { maxStack := 1, maxLocals := 1, code := prog_183_method_3_code, exceptionTable := #[], attributes := #[] }
def k2m2 : Method := { name := "open", desc := "()I", sig := { parameters := [], returnType := some .int }, accessFlags := 0, code := some k2c2 }
def k2c3 : Code := { maxStack := 4, maxLocals := 6, code := prog_183_method_5_code, exceptionTable := #[], attributes := #[] }
def k2m3 : Method := { name := "raise", desc := "(IJ)Z", sig := { parameters := [.int, .long], returnType := some .boolean }, accessFlags := 0, code := some k2c3 }
def k2c4 : Code := { maxStack := 6, maxLocals := 3, code := prog_183_method_6_code, exceptionTable := #[], attributes := #[] }
def k2m4 : Method := { name := "end", desc := "(I)Z", sig := { parameters := [.int], returnType := some .boolean }, accessFlags := 0, code := some k2c4 }
def k2c5 : Code := { maxStack := 3, maxLocals := 2, code := prog_183_method_7_code, exceptionTable := #[], attributes := #[] }
def k2m5 : Method := { name := "idle", desc := "(I)Z", sig := { parameters := [.int], returnType := some .boolean }, accessFlags := 0, code := some k2c5 }
def k2c6 : Code := { maxStack := 5, maxLocals := 2, code := prog_183_method_9_code, exceptionTable := #[], attributes := #[] }
def k2m6 : Method := { name := "reopen", desc := "(I)V", sig := { parameters := [.int], returnType := none }, accessFlags := 0, code := some k2c6 }
def k2c7 : Code := { maxStack := 4, maxLocals := 9, code := prog_183_method_13_code, exceptionTable := #[], attributes := #[] }
def k2m7 : Method := { name := "rise", desc := "()Z", sig := { parameters := [], returnType := some .boolean }, accessFlags := 2, code := some k2c7 }
/-- sluice/stream/Watermarks -/
def k2 : Class := { plain "sluice/stream/Watermarks" (some 0) with
  accessFlags := 48
  interfaces := #[]
  cf := some (fileOf pool2 12 #[] #[{ accessFlags := 0, nameIndex := 5, descriptorIndex := 75, attributes := #[] }, { accessFlags := 0, nameIndex := 15, descriptorIndex := 81, attributes := #[] }, { accessFlags := 0, nameIndex := 37, descriptorIndex := 97, attributes := #[] }, { accessFlags := 0, nameIndex := 99, descriptorIndex := 100, attributes := #[] }, { accessFlags := 0, nameIndex := 101, descriptorIndex := 102, attributes := #[] }, { accessFlags := 0, nameIndex := 103, descriptorIndex := 102, attributes := #[] }, { accessFlags := 0, nameIndex := 105, descriptorIndex := 75, attributes := #[] }, { accessFlags := 2, nameIndex := 41, descriptorIndex := 42, attributes := #[] }] 48 2 #[] #[{ accessFlags := 26, nameIndex := 86, descriptorIndex := 87, attributes := #[] }, { accessFlags := 26, nameIndex := 90, descriptorIndex := 87, attributes := #[] }, { accessFlags := 26, nameIndex := 92, descriptorIndex := 87, attributes := #[] }, { accessFlags := 2, nameIndex := 19, descriptorIndex := 20, attributes := #[] }, { accessFlags := 2, nameIndex := 23, descriptorIndex := 24, attributes := #[] }, { accessFlags := 2, nameIndex := 27, descriptorIndex := 28, attributes := #[] }, { accessFlags := 2, nameIndex := 37, descriptorIndex := 38, attributes := #[] }, { accessFlags := 2, nameIndex := 15, descriptorIndex := 16, attributes := #[] }])
  fields := #[{ name := "OPEN", type := .byte, accessFlags := 26, slot := 0, constantValue := 0 }, { name := "IDLE", type := .byte, accessFlags := 26, slot := 1, constantValue := 0 }, { name := "ENDED", type := .byte, accessFlags := 26, slot := 2, constantValue := 0 }, { name := "marks", type := (.array .long), accessFlags := 2, slot := 0, constantValue := 0 }, { name := "states", type := (.array .byte), accessFlags := 2, slot := 1, constantValue := 0 }, { name := "live", type := (.array .int), accessFlags := 2, slot := 2, constantValue := 0 }, { name := "open", type := .int, accessFlags := 2, slot := 3, constantValue := 0 }, { name := "lowest", type := .long, accessFlags := 2, slot := 4, constantValue := 0 }]
  methods := #[k2m0, k2m1, k2m2, k2m3, k2m4, k2m5, k2m6, k2m7]
  instanceTypes := #[(.array .long), (.array .byte), (.array .int), .int, .long]
  staticTypes := #[.byte, .byte, .byte]
  resolved := Array.replicate 120 none
  statics := none }

def pool3 : Array CpInfo := pool [(2, .class_ 4), (1, u "java/lang/Object"), (0, u "<init>"), (0, u "()V"), (7, .class_ 16), (1, u "java/util/Arrays"), (57, .class_ 76), (1, u "java/util/Arrays$NaturalOrder"), (36, .class_ 115), (1, u "java/util/Arrays$LegacyMergeSort"), (1, u "Z"), (257, .class_ 376), (0, u "java/util/Arrays$ArrayList"), (68, u "$assertionsDisabled"), (269, u "MIN_ARRAY_SORT_GRAN"), (0, u "I"), (2, u "INSERTIONSORT_THRESHOLD"), (120, u "fill"), (0, u "([JJ)V"), (133, .class_ 976), (0, u "java/util/Arrays$ArrayItr")] 52

def k3m0 : Method := { name := "<init>", desc := "()V", sig := { parameters := [], returnType := none }, accessFlags := 2, code := none }
def k3c1 : Code := { maxStack := 4, maxLocals := 5, code := jdk_65_method_101_code, exceptionTable := #[], attributes := #[] }
def k3m1 : Method := { name := "fill", desc := "([JJ)V", sig := { parameters := [(.array .long), .long], returnType := none }, accessFlags := 9, code := some k3c1 }
/-- java/util/Arrays -/
def k3 : Class := { plain "java/util/Arrays" (some 0) with
  accessFlags := 49
  interfaces := #[]
  cf := some (fileOf pool3 14 #[.nestMembers #[975, 375, 113, 74]] #[{ accessFlags := 2, nameIndex := 5, descriptorIndex := 6, attributes := #[] }, { accessFlags := 9, nameIndex := 840, descriptorIndex := 841, attributes := #[] }] 49 2 #[] #[{ accessFlags := 26, nameIndex := 715, descriptorIndex := 716, attributes := #[] }, { accessFlags := 26, nameIndex := 719, descriptorIndex := 716, attributes := #[] }, { accessFlags := 4120, nameIndex := 445, descriptorIndex := 117, attributes := #[] }])
  fields := #[{ name := "MIN_ARRAY_SORT_GRAN", type := .int, accessFlags := 26, slot := 0, constantValue := 0 }, { name := "INSERTIONSORT_THRESHOLD", type := .int, accessFlags := 26, slot := 1, constantValue := 0 }, { name := "$assertionsDisabled", type := .boolean, accessFlags := 4120, slot := 2, constantValue := 0 }]
  methods := #[k3m0, k3m1]
  instanceTypes := #[]
  staticTypes := #[.int, .int, .boolean]
  resolved := Array.replicate 1029 none
  statics := none }

def pool4 : Array CpInfo := pool [(1, .class_ 2), (0, u "java/lang/Math"), (1, .class_ 6), (1, u "java/lang/Object"), (0, u "<init>"), (0, u "()V"), (89, .class_ 100), (1, u "java/lang/Math$RandomNumberGeneratorHolder"), (20, u "(JJ)J"), (50, u "negativeZeroFloatBits"), (0, u "J"), (2, u "negativeZeroDoubleBits"), (21, u "max"), (2, u "min"), (43, u "$assertionsDisabled"), (0, u "Z"), (91, u "twoToTheDoubleScaleDown"), (0, u "D"), (4, u "twoToTheDoubleScaleUp"), (9, u "E"), (3, u "PI"), (2, u "TAU"), (2, u "DEGREES_TO_RADIANS"), (0, u "RADIANS_TO_DEGREES")] 94

def k4m0 : Method := { name := "<init>", desc := "()V", sig := { parameters := [], returnType := none }, accessFlags := 2, code := none }
def k4c1 : Code := { maxStack := 4, maxLocals := 4, code := jdk_29_method_66_code, exceptionTable := #[], attributes := #[] }
def k4m1 : Method := { name := "max", desc := "(JJ)J", sig := { parameters := [.long, .long], returnType := some .long }, accessFlags := 9, code := some k4c1 }
def k4c2 : Code := { maxStack := 4, maxLocals := 4, code := jdk_29_method_70_code, exceptionTable := #[], attributes := #[] }
def k4m2 : Method := { name := "min", desc := "(JJ)J", sig := { parameters := [.long, .long], returnType := some .long }, accessFlags := 9, code := some k4c2 }
/-- java/lang/Math -/
def k4 : Class := { plain "java/lang/Math" (some 0) with
  accessFlags := 49
  interfaces := #[]
  cf := some (fileOf pool4 1 #[.nestMembers #[98]] #[{ accessFlags := 2, nameIndex := 7, descriptorIndex := 8, attributes := #[] }, { accessFlags := 9, nameIndex := 198, descriptorIndex := 121, attributes := #[] }, { accessFlags := 9, nameIndex := 201, descriptorIndex := 121, attributes := #[] }] 49 4 #[] #[{ accessFlags := 25, nameIndex := 354, descriptorIndex := 339, attributes := #[] }, { accessFlags := 25, nameIndex := 358, descriptorIndex := 339, attributes := #[] }, { accessFlags := 25, nameIndex := 361, descriptorIndex := 339, attributes := #[] }, { accessFlags := 26, nameIndex := 364, descriptorIndex := 339, attributes := #[] }, { accessFlags := 26, nameIndex := 365, descriptorIndex := 339, attributes := #[] }, { accessFlags := 26, nameIndex := 172, descriptorIndex := 173, attributes := #[] }, { accessFlags := 26, nameIndex := 176, descriptorIndex := 173, attributes := #[] }, { accessFlags := 8, nameIndex := 344, descriptorIndex := 339, attributes := #[] }, { accessFlags := 8, nameIndex := 338, descriptorIndex := 339, attributes := #[] }, { accessFlags := 4120, nameIndex := 245, descriptorIndex := 246, attributes := #[] }])
  fields := #[{ name := "E", type := .double, accessFlags := 25, slot := 0, constantValue := 0 }, { name := "PI", type := .double, accessFlags := 25, slot := 1, constantValue := 0 }, { name := "TAU", type := .double, accessFlags := 25, slot := 2, constantValue := 0 }, { name := "DEGREES_TO_RADIANS", type := .double, accessFlags := 26, slot := 3, constantValue := 0 }, { name := "RADIANS_TO_DEGREES", type := .double, accessFlags := 26, slot := 4, constantValue := 0 }, { name := "negativeZeroFloatBits", type := .long, accessFlags := 26, slot := 5, constantValue := 0 }, { name := "negativeZeroDoubleBits", type := .long, accessFlags := 26, slot := 6, constantValue := 0 }, { name := "twoToTheDoubleScaleUp", type := .double, accessFlags := 8, slot := 7, constantValue := 0 }, { name := "twoToTheDoubleScaleDown", type := .double, accessFlags := 8, slot := 8, constantValue := 0 }, { name := "$assertionsDisabled", type := .boolean, accessFlags := 4120, slot := 9, constantValue := 0 }]
  methods := #[k4m0, k4m1, k4m2]
  instanceTypes := #[]
  staticTypes := #[.double, .double, .double, .double, .double, .long, .long, .double, .double, .boolean]
  resolved := Array.replicate 460 none
  statics := none }

def pool5 : Array CpInfo := pool [(1, u "java/lang/Cloneable"), (0, .class_ 1), (0, u "java/lang/Object"), (0, .class_ 3)] 3

/-- java/lang/Cloneable -/
def k5 : Class := { plain "java/lang/Cloneable" (some 0) with
  accessFlags := 1537
  interfaces := #[]
  cf := some (fileOf pool5 2 #[] #[] 1537 4 #[] #[])
  fields := #[]
  methods := #[]
  instanceTypes := #[]
  staticTypes := #[]
  resolved := Array.replicate 8 none
  statics := none }

def pool6 : Array CpInfo := pool [(1, u "java/io/Serializable"), (0, .class_ 1), (0, u "java/lang/Object"), (0, .class_ 3)] 3

/-- java/io/Serializable -/
def k6 : Class := { plain "java/io/Serializable" (some 0) with
  accessFlags := 1537
  interfaces := #[]
  cf := some (fileOf pool6 2 #[] #[] 1537 4 #[] #[])
  fields := #[]
  methods := #[]
  instanceTypes := #[]
  staticTypes := #[]
  resolved := Array.replicate 8 none
  statics := none }

/-- the primitive byte -/
def k7 : Class := { plain "byte" none with kind := .primitive 'B', accessFlags := 0x411 }
/-- [B -/
def k8 : Class := { plain "[B" (some 0) with kind := .array 7 .byte, interfaces := #[5, 6], accessFlags := 1041 }

/-- the primitive int -/
def k9 : Class := { plain "int" none with kind := .primitive 'I', accessFlags := 0x411 }
/-- [I -/
def k10 : Class := { plain "[I" (some 0) with kind := .array 9 .int, interfaces := #[5, 6], accessFlags := 1041 }

/-- the primitive long -/
def k11 : Class := { plain "long" none with kind := .primitive 'J', accessFlags := 0x411 }
/-- [J -/
def k12 : Class := { plain "[J" (some 0) with kind := .array 11 .long, interfaces := #[5, 6], accessFlags := 1041 }

def heap : Heap := #[]
def classes : Array Class := #[k0, k1, k2, k3, k4, k5, k6, k7, k8, k9, k10, k11, k12]
def interned : List (Array UInt16 × Addr) := []
def slotsUsed : Nat := 0
def theMethod : MethodId := ⟨1, 1⟩
def args0 : Array Value := #[.long 300, .long 4, .long 7, .int 5]
def aboutOver (below : List Frame) : State where
  vm := { classes := classes, interned := interned.toArray }
  heap := heap
  slotsUsed := slotsUsed
  threads := #[{ frames := .invoking theMethod args0 :: below }]
def below0 : List Frame := [.native { method := ⟨0, 0⟩, args := #[] }]
def about1 : State := aboutOver below0
def p0 : Program := .bare "" "" ""
def e0 : Env := launch0.env 0 0 0
theorem w_frames : about1.frames = Frame.invoking theMethod args0 :: below0 := rfl
set_option maxRecDepth 65536 in
theorem w_args : argsFit about1.vm theMethod args0 = true := by decide +kernel
set_option maxRecDepth 65536 in
theorem w_heap : heapFits about1 = true := by decide +kernel
set_option maxRecDepth 65536 in
theorem w_runnable : about1.curStatus? = some .runnable := by decide +kernel
set_option maxRecDepth 65536 in
theorem w_alone : about1.alone = true := by decide +kernel
set_option maxRecDepth 65536 in
theorem w_named : about1.methodNamed? x = some theMethod := by decide +kernel
set_option maxRecDepth 65536 in
theorem w_hears : about1.hears theMethod below0 = true := by decide +kernel
set_option maxRecDepth 65536 in
theorem w_ripe : about1.ripe theMethod args0 below0 = true := by decide +kernel
theorem w_running : about1.status = .running := rfl
set_option maxRecDepth 65536 in
theorem w_room : about1.hasRoom e0.platform room_1 = true :=
  launch0.hasRoom_least _ room_1 (by decide +kernel) (by decide +kernel) (by decide +kernel) (by decide +kernel) (by decide +kernel) (by decide +kernel)
theorem allAtoms_all (ts : List Jvm.Cond) (a : Array Jvm.Value) (st : Jvm.State) : (allAtoms ts).before a st = ts.all (fun c => c.before a st) := by
  induction ts with
  | nil => rfl
  | cons c t ih =>
    show (Jvm.Cond.and c (allAtoms t)).before a st = _
    rw [Jvm.Cond.before_and, ih, List.all_cons]
def words1 : List Jvm.Cond := Jvm.Cond.code x code maxLocals ret :: tables_1
/-- a 'code' word, met by the world's own term for the bytes: nothing is compared byte by byte -/
theorem code_word {y : MethodName} {bytes : ByteArray} {mx : Nat} {rt : Option FieldType} {a : Array Value} {s : State} {m : MethodId} {meth : Method} {c : Code} (h1 : s.methodNamed? y = some m) (h2 : s.vm.method? m = some meth) (h3 : meth.code = some c) (h4 : c.code = bytes)
    (h5 : (c.maxLocals == mx && c.exceptionTable.isEmpty && decide (c.maxStack ≤ mostOperands) && decide (meth.sig.returnType = rt) && !meth.locks && decide (parseMethodDescriptor y.desc = some meth.sig)) = true) : (Jvm.Cond.code y bytes mx rt).before a s = true := by
  simp only [Bool.and_eq_true, beq_iff_eq, Bool.not_eq_true', decide_eq_true_eq] at h5
  obtain ⟨⟨⟨⟨⟨g1, g2⟩, g3⟩, g4⟩, g5⟩, g6⟩ := h5
  simp [Cond.before, Cond.holds, Cond.value, h1, h2, h3, h4, g1, g2, g3, g4, g5, g6]
def isCode : Jvm.Cond → Bool
  | .code _ _ _ _ => true
  | _ => false
theorem all_split {L : List Jvm.Cond} {P : Jvm.Cond → Bool} (h1 : L.all (fun c => isCode c || P c) = true) (h2 : ∀ c ∈ L.filter isCode, P c = true) : L.all P = true := by
  refine List.all_eq_true.mpr fun c hc => ?_
  have h := List.all_eq_true.mp h1 c hc
  rcases Bool.eq_false_or_eq_true (isCode c) with hi | hi
  · exact h2 c (List.mem_filter.mpr ⟨hc, hi⟩)
  · simpa [hi] using h
set_option maxRecDepth 65536 in
theorem w_c0 : (Jvm.Cond.code x code maxLocals ret).before args0 about1 = true := code_word (m := ⟨1, 1⟩) (meth := k1m1) (c := k1c1) (by decide +kernel) rfl rfl rfl (by decide +kernel)
set_option maxRecDepth 65536 in
theorem w_c1 : (Jvm.Cond.code ({ cls := "sluice/stream/Watermarks", name := "<init>", desc := "(I)V" } : Jvm.MethodName) prog_183_method_1_code (3 : Nat) (Option.none : Option Jvm.ClassFile.FieldType)).before args0 about1 = true := code_word (m := ⟨2, 0⟩) (meth := k2m0) (c := k2c0) (by decide +kernel) rfl rfl rfl (by decide +kernel)
set_option maxRecDepth 65536 in
theorem w_c2 : (Jvm.Cond.code ({ cls := "java/lang/Object", name := "<init>", desc := "()V" } : Jvm.MethodName) object_method_1_code (1 : Nat) (Option.none : Option Jvm.ClassFile.FieldType)).before args0 about1 = true := code_word (m := ⟨0, 0⟩) (meth := k0m0) (c := k0c0) (by decide +kernel) rfl rfl rfl (by decide +kernel)
set_option maxRecDepth 65536 in
theorem w_c3 : (Jvm.Cond.code ({ cls := "java/util/Arrays", name := "fill", desc := "([JJ)V" } : Jvm.MethodName) jdk_65_method_101_code (5 : Nat) (Option.none : Option Jvm.ClassFile.FieldType)).before args0 about1 = true := code_word (m := ⟨3, 1⟩) (meth := k3m1) (c := k3c1) (by decide +kernel) rfl rfl rfl (by decide +kernel)
set_option maxRecDepth 65536 in
theorem w_c4 : (Jvm.Cond.code ({ cls := "sluice/stream/Watermarks", name := "raise", desc := "(IJ)Z" } : Jvm.MethodName) prog_183_method_5_code (6 : Nat) (Option.some Jvm.ClassFile.FieldType.boolean)).before args0 about1 = true := code_word (m := ⟨2, 3⟩) (meth := k2m3) (c := k2c3) (by decide +kernel) rfl rfl rfl (by decide +kernel)
set_option maxRecDepth 65536 in
theorem w_c5 : (Jvm.Cond.code ({ cls := "sluice/stream/Watermarks", name := "rise", desc := "()Z" } : Jvm.MethodName) prog_183_method_13_code (9 : Nat) (Option.some Jvm.ClassFile.FieldType.boolean)).before args0 about1 = true := code_word (m := ⟨2, 7⟩) (meth := k2m7) (c := k2c7) (by decide +kernel) rfl rfl rfl (by decide +kernel)
set_option maxRecDepth 65536 in
theorem w_c6 : (Jvm.Cond.code ({ cls := "java/lang/Math", name := "min", desc := "(JJ)J" } : Jvm.MethodName) jdk_29_method_70_code (4 : Nat) (Option.some Jvm.ClassFile.FieldType.long)).before args0 about1 = true := code_word (m := ⟨4, 2⟩) (meth := k4m2) (c := k4c2) (by decide +kernel) rfl rfl rfl (by decide +kernel)
set_option maxRecDepth 65536 in
theorem w_c7 : (Jvm.Cond.code ({ cls := "sluice/stream/Watermarks", name := "end", desc := "(I)Z" } : Jvm.MethodName) prog_183_method_6_code (3 : Nat) (Option.some Jvm.ClassFile.FieldType.boolean)).before args0 about1 = true := code_word (m := ⟨2, 4⟩) (meth := k2m4) (c := k2c4) (by decide +kernel) rfl rfl rfl (by decide +kernel)
set_option maxRecDepth 65536 in
theorem w_c8 : (Jvm.Cond.code ({ cls := "sluice/stream/Watermarks", name := "reopen", desc := "(I)V" } : Jvm.MethodName) prog_183_method_9_code (2 : Nat) (Option.none : Option Jvm.ClassFile.FieldType)).before args0 about1 = true := code_word (m := ⟨2, 6⟩) (meth := k2m6) (c := k2c6) (by decide +kernel) rfl rfl rfl (by decide +kernel)
set_option maxRecDepth 65536 in
theorem w_c9 : (Jvm.Cond.code ({ cls := "sluice/stream/Watermarks", name := "lowest", desc := "()J" } : Jvm.MethodName) prog_183_method_2_code (1 : Nat) (Option.some Jvm.ClassFile.FieldType.long)).before args0 about1 = true := code_word (m := ⟨2, 1⟩) (meth := k2m1) (c := k2c1) (by decide +kernel) rfl rfl rfl (by decide +kernel)
set_option maxRecDepth 65536 in
theorem w_c10 : (Jvm.Cond.code ({ cls := "sluice/stream/Watermarks", name := "open", desc := "()I" } : Jvm.MethodName) prog_183_method_3_code (1 : Nat) (Option.some Jvm.ClassFile.FieldType.int)).before args0 about1 = true := code_word (m := ⟨2, 2⟩) (meth := k2m2) (c := k2c2) (by decide +kernel) rfl rfl rfl (by decide +kernel)
set_option maxRecDepth 65536 in
theorem w_c11 : (Jvm.Cond.code ({ cls := "java/lang/Math", name := "max", desc := "(JJ)J" } : Jvm.MethodName) jdk_29_method_66_code (4 : Nat) (Option.some Jvm.ClassFile.FieldType.long)).before args0 about1 = true := code_word (m := ⟨4, 1⟩) (meth := k4m1) (c := k4c1) (by decide +kernel) rfl rfl rfl (by decide +kernel)
set_option maxRecDepth 65536 in
theorem w_c12 : (Jvm.Cond.code ({ cls := "sluice/stream/Watermarks", name := "idle", desc := "(I)Z" } : Jvm.MethodName) prog_183_method_7_code (2 : Nat) (Option.some Jvm.ClassFile.FieldType.boolean)).before args0 about1 = true := code_word (m := ⟨2, 5⟩) (meth := k2m5) (c := k2c5) (by decide +kernel) rfl rfl rfl (by decide +kernel)
def codes1 : List Jvm.Cond := [Jvm.Cond.code x code maxLocals ret, Jvm.Cond.code ({ cls := "sluice/stream/Watermarks", name := "<init>", desc := "(I)V" } : Jvm.MethodName) prog_183_method_1_code (3 : Nat) (Option.none : Option Jvm.ClassFile.FieldType), Jvm.Cond.code ({ cls := "java/lang/Object", name := "<init>", desc := "()V" } : Jvm.MethodName) object_method_1_code (1 : Nat) (Option.none : Option Jvm.ClassFile.FieldType), Jvm.Cond.code ({ cls := "java/util/Arrays", name := "fill", desc := "([JJ)V" } : Jvm.MethodName) jdk_65_method_101_code (5 : Nat) (Option.none : Option Jvm.ClassFile.FieldType), Jvm.Cond.code ({ cls := "sluice/stream/Watermarks", name := "raise", desc := "(IJ)Z" } : Jvm.MethodName) prog_183_method_5_code (6 : Nat) (Option.some Jvm.ClassFile.FieldType.boolean), Jvm.Cond.code ({ cls := "sluice/stream/Watermarks", name := "rise", desc := "()Z" } : Jvm.MethodName) prog_183_method_13_code (9 : Nat) (Option.some Jvm.ClassFile.FieldType.boolean), Jvm.Cond.code ({ cls := "java/lang/Math", name := "min", desc := "(JJ)J" } : Jvm.MethodName) jdk_29_method_70_code (4 : Nat) (Option.some Jvm.ClassFile.FieldType.long), Jvm.Cond.code ({ cls := "sluice/stream/Watermarks", name := "end", desc := "(I)Z" } : Jvm.MethodName) prog_183_method_6_code (3 : Nat) (Option.some Jvm.ClassFile.FieldType.boolean), Jvm.Cond.code ({ cls := "sluice/stream/Watermarks", name := "reopen", desc := "(I)V" } : Jvm.MethodName) prog_183_method_9_code (2 : Nat) (Option.none : Option Jvm.ClassFile.FieldType), Jvm.Cond.code ({ cls := "sluice/stream/Watermarks", name := "lowest", desc := "()J" } : Jvm.MethodName) prog_183_method_2_code (1 : Nat) (Option.some Jvm.ClassFile.FieldType.long), Jvm.Cond.code ({ cls := "sluice/stream/Watermarks", name := "open", desc := "()I" } : Jvm.MethodName) prog_183_method_3_code (1 : Nat) (Option.some Jvm.ClassFile.FieldType.int), Jvm.Cond.code ({ cls := "java/lang/Math", name := "max", desc := "(JJ)J" } : Jvm.MethodName) jdk_29_method_66_code (4 : Nat) (Option.some Jvm.ClassFile.FieldType.long), Jvm.Cond.code ({ cls := "sluice/stream/Watermarks", name := "idle", desc := "(I)Z" } : Jvm.MethodName) prog_183_method_7_code (2 : Nat) (Option.some Jvm.ClassFile.FieldType.boolean)]
set_option maxRecDepth 65536 in
theorem codes_eq : words1.filter isCode = codes1 := rfl
theorem w_codes : ∀ c ∈ words1.filter isCode, c.before args0 about1 = true := by
  rw [codes_eq]
  intro c hc
  simp only [codes1, List.mem_cons, List.not_mem_nil, or_false] at hc
  rcases hc with rfl | rfl | rfl | rfl | rfl | rfl | rfl | rfl | rfl | rfl | rfl | rfl | rfl
  · exact w_c0
  · exact w_c1
  · exact w_c2
  · exact w_c3
  · exact w_c4
  · exact w_c5
  · exact w_c6
  · exact w_c7
  · exact w_c8
  · exact w_c9
  · exact w_c10
  · exact w_c11
  · exact w_c12
set_option maxRecDepth 65536 in
theorem w_t1 : (words1.take 24).all (fun c => isCode c || c.before args0 about1) = true := by decide +kernel
set_option maxRecDepth 65536 in
theorem w_t2 : ((words1.drop 24).take 24).all (fun c => isCode c || c.before args0 about1) = true := by decide +kernel
set_option maxRecDepth 65536 in
theorem w_t3 : (((words1.drop 24).drop 24).take 24).all (fun c => isCode c || c.before args0 about1) = true := by decide +kernel
set_option maxRecDepth 65536 in
theorem w_t4 : (((words1.drop 24).drop 24).drop 24).all (fun c => isCode c || c.before args0 about1) = true := by decide +kernel
theorem w_tables : (allAtoms (Jvm.Cond.code x code maxLocals ret :: tables_1)).before args0 about1 = true := by
  rw [allAtoms_all]
  show words1.all (fun c => c.before args0 about1) = true
  refine all_split ?_ w_codes
  rw [← List.take_append_drop 24 words1, List.all_append, w_t1, ← List.take_append_drop 24 (words1.drop 24), List.all_append, w_t2, ← List.take_append_drop 24 ((words1.drop 24).drop 24), List.all_append, w_t3, w_t4]
  rfl
set_option maxRecDepth 65536 in
theorem w_case : (Jvm.Cond.and given_1 narrow_1).before args0 about1 = true := by decide +kernel
theorem w_applies : (headSpec (Jvm.Cond.code x code maxLocals ret :: tables_1) room_1).applies x e0.platform about1 = true :=
  (Spec.applies_iff w_frames).mpr ⟨w_running, w_runnable, w_alone, w_named, w_hears, w_ripe, w_room, w_tables⟩
theorem atStart : AtStart classFile x code maxLocals ret World_1 tables_1 room_1 Calls_1 rest_1 Pre_1 launch0 p0 e0 about1 theMethod args0 below0 :=
  ⟨lists_1, trivial, launch0.admits_env _ _ _, launch0.least_env, fairChoices_fair.cas, fairChoices_fair.clock, w_frames, w_args, w_heap, w_applies, trivial, trivial, w_case⟩
end start1
theorem witness_1 : WitnessClaimed_1 := ⟨start1.p0, start1.e0, start1.about1, start1.theMethod, start1.args0, start1.below0, start1.atStart⟩
end Jvm.Pilot.@@N@@
