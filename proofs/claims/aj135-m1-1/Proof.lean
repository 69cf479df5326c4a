import JvmDerived
import JvmDerived.Pilot.@@N@@Statement
import JvmDerived.Pilot.@@N@@Code
set_option linter.unusedVariables false
set_option linter.unusedSimpArgs false
@@BLOCK:NumsL.lean.txt@@
namespace Jvm.RoadKit
open Sem ClassFile Op Lib Jvm.Stand Jvm.Free Jvm.LawKit
section New
variable {p : Program} {l : Launch} {e : Env} {R : Room} {s : State} {m : MethodId} {args : Array Value} {below : List Frame} {meth : Method} {c : Code} {T : State} {locs : List Loc} {cells slots : Nat}
theorem retI (X : Stand p l e R s m args below meth c T locs cells slots) (hx : p.tables.exec = Jvm.exec) {pc : Nat} {Ls : Array Slot} {z : Int32} {rest : List Value} (hret : meth.sig.returnType = some .int) (hd : decode c.code pc = .ok (.ireturn, 1)) {fs : List Frame}
    (hl : ∀ (f : JFrame) (acts : List Action), f.method = m → f.locked = none → f.entered = [] → (doReturn e (T.setTop f) acts (some (.int z))).1 = T.setFrames fs) : Steps p.tables e below (T.setTop (mkF m pc Ls (.int z :: rest))) (T.setFrames fs) := by
  have hm' : T.vm.method? m = some meth := X.method'
  have hn : narrow .int (.int z) = .int z := rfl
  show Steps p.tables e below (T.setTop { method := m, pc := pc, locals := Ls, stack := _ :: rest, locked := none }) _
  jvm_step X.here [X.here.top, hx, hd, hm', hret, hn]
  first | (intro acts; rw [hl _ acts rfl rfl rfl]) | rw [hl _ _ rfl rfl rfl]
  exact Steps.refl _
end New
end Jvm.RoadKit
namespace Jvm.Pilot.@@N@@
open Jvm Jvm.ClassFile Sem Op Lib Jvm.Free Jvm.Stand Jvm.LawKit Jvm.RoadKit Bundle Jvm.Pilot.@@N@@.Jvm.D
open Jvm.Free.XT (ushr ushrL cmpL)
/-- from the frame g over the state T the run comes to a return of which Q holds; K cells and N slots are made at the most -/
def Go (p : Program) (e : Env) (below : List Frame) (s : State) (Q : Option Value → Heap → List Loc → Prop) (K N : Nat) (T : State) (g : JFrame) : Prop :=
  ∃ s₂ o, Steps p.tables e below (T.setTop g) s₂ ∧ s₂.status = .running ∧ Ended s₂ below o ∧ ∃ v L, o = .returned v ∧ Q v s₂.heap L ∧ FrameEnd s o s₂ L K N
section Own
variable {p : Program} {l : Launch} {e : Env} {R : Room} {s : State} {m : MethodId} {args : Array Value} {below : List Frame} {meth : Method} {c : Code} {T T' : State} {locs : List Loc} {cells slots K N : Nat} {Q : Option Value → Heap → List Loc → Prop} {g : JFrame}
theorem Go.st (g' : JFrame) (k : ∀ t, Steps p.tables e below (T'.setTop g') t → Steps p.tables e below (T.setTop g) t) (h : Go p e below s Q K N T' g') : Go p e below s Q K N T g := by
  obtain ⟨s₂, o, h1, h2⟩ := h
  exact ⟨s₂, o, k _ h1, h2⟩
theorem Go.of_eq {g' : JFrame} (q : g = g') (h : Go p e below s Q K N T g') : Go p e below s Q K N T g := q ▸ h
theorem Go.retZ (X : Stand p l e R s m args below meth c T locs cells slots) (hx : p.tables.exec = Jvm.exec) (hlk : meth.locks = false) {pc : Nat} {Ls : Array Slot} {z : Int32} {rest : List Value} {t : FieldType} (ht : t = .boolean ∨ t = .byte ∨ t = .char ∨ t = .short) (hret : meth.sig.returnType = some t) (hd : decode c.code pc = .ok (.ireturn, 1))
    (hq : Q (some (.int (nar t z))) T.heap locs) (hk : cells ≤ K) (hn : slots ≤ N) : Go p e below s Q K N T (mkF m pc Ls (.int z :: rest)) := by
  obtain ⟨fs, hr, hrun, hended, hW, hsame⟩ := X.leave (v := some (.int (nar t z))) (fun h => by rw [hret] at h; cases h) hlk
  exact ⟨_, _, retN X hx hret ht hd hr, hrun, hended, _, _, rfl, hq, ⟨_, rfl⟩, hW, hsame.mono hk hn⟩
theorem Go.retI (X : Stand p l e R s m args below meth c T locs cells slots) (hx : p.tables.exec = Jvm.exec) (hlk : meth.locks = false) {pc : Nat} {Ls : Array Slot} {z : Int32} {rest : List Value} (hret : meth.sig.returnType = some .int) (hd : decode c.code pc = .ok (.ireturn, 1))
    (hq : Q (some (.int z)) T.heap locs) (hk : cells ≤ K) (hn : slots ≤ N) : Go p e below s Q K N T (mkF m pc Ls (.int z :: rest)) := by
  obtain ⟨fs, hr, hrun, hended, hW, hsame⟩ := X.leave (v := some (.int z)) (fun h => by rw [hret] at h; cases h) hlk
  exact ⟨_, _, RoadKit.retI X hx hret hd hr, hrun, hended, _, _, rfl, hq, ⟨_, rfl⟩, hW, hsame.mono hk hn⟩
theorem Go.retJ (X : Stand p l e R s m args below meth c T locs cells slots) (hx : p.tables.exec = Jvm.exec) (hlk : meth.locks = false) {pc : Nat} {Ls : Array Slot} {z : Int64} (hret : meth.sig.returnType = some .long) (hd : decode c.code pc = .ok (.lreturn, 1))
    (hq : Q (some (.long z)) T.heap locs) (hk : cells ≤ K) (hn : slots ≤ N) : Go p e below s Q K N T (mkF m pc Ls [.long z]) := by
  obtain ⟨fs, hr, hrun, hended, hW, hsame⟩ := X.leave (v := some (.long z)) (fun h => by rw [hret] at h; cases h) hlk
  exact ⟨_, _, X.lreturnOut hx hret hd hr, hrun, hended, _, _, rfl, hq, ⟨_, rfl⟩, hW, hsame.mono hk hn⟩
theorem Go.retV (X : Stand p l e R s m args below meth c T locs cells slots) (hx : p.tables.exec = Jvm.exec) (hlk : meth.locks = false) {pc : Nat} {Ls : Array Slot} (hret : meth.sig.returnType = none) (hd : decode c.code pc = .ok (.return_, 1))
    (hq : Q none T.heap locs) (hk : cells ≤ K) (hn : slots ≤ N) : Go p e below s Q K N T (mkF m pc Ls []) := by
  obtain ⟨fs, hr, hrun, hended, hW, hsame⟩ := X.leave (v := none) (fun _ => rfl) hlk
  exact ⟨_, _, X.returnOut hx hret hd hr, hrun, hended, _, _, rfl, hq, ⟨_, rfl⟩, hW, hsame.mono hk hn⟩
end Own
theorem own_c1 {x y : Int64} (h : y < x) : cmpL x y = 1 := by unfold cmpL; rw [if_pos h]
theorem own_c0 {x y : Int64} (h : x = y) : cmpL x y = 0 := by unfold cmpL; rw [if_neg (by subst h; exact Int64.lt_irrefl), if_pos h]
theorem own_cm {x y : Int64} (h : x < y) : cmpL x y = -1 := by unfold cmpL; rw [if_neg (Int64.lt_asymm h), if_neg (Int64.ne_of_lt h)]
theorem own_tri (x y : Int64) : x < y ∨ x = y ∨ y < x := by
  rcases Int.lt_trichotomy x.toInt y.toInt with h | h | h
  · exact Or.inl (Int64.lt_iff_toInt_lt.mpr h)
  · exact Or.inr (Or.inl (Int64.toInt_inj.mp h))
  · exact Or.inr (Or.inr (Int64.lt_iff_toInt_lt.mpr h))
theorem own_llT {x y : Int64} (h : x < y) : ifCond.holds .lt (cmpL x y) = true ∧ ifCond.holds .ge (cmpL x y) = false := by rw [own_cm h]; decide
theorem own_llF {x y : Int64} (h : ¬ x < y) : ifCond.holds .lt (cmpL x y) = false ∧ ifCond.holds .ge (cmpL x y) = true := by
  rcases own_tri x y with q | q | q
  · exact absurd q h
  · rw [own_c0 q]; decide
  · rw [own_c1 q]; decide
theorem own_lgT {x y : Int64} (h : y < x) : ifCond.holds .gt (cmpL x y) = true ∧ ifCond.holds .le (cmpL x y) = false := by rw [own_c1 h]; decide
theorem own_lgF {x y : Int64} (h : ¬ y < x) : ifCond.holds .gt (cmpL x y) = false ∧ ifCond.holds .le (cmpL x y) = true := by
  rcases own_tri x y with q | q | q
  · rw [own_cm q]; decide
  · rw [own_c0 q]; decide
  · exact absurd q h
theorem own_leT {x y : Int64} (h : x = y) : ifCond.holds .eq (cmpL x y) = true ∧ ifCond.holds .ne (cmpL x y) = false := by rw [own_c0 h]; decide
theorem own_leF {x y : Int64} (h : ¬ x = y) : ifCond.holds .eq (cmpL x y) = false ∧ ifCond.holds .ne (cmpL x y) = true := by
  rcases own_tri x y with q | q | q
  · rw [own_cm q]; decide
  · exact absurd q h
  · rw [own_c1 q]; decide
theorem own_chr (x : Int32) : 0 ≤ (x.toUInt32.toUInt16.toUInt32.toInt32).toInt ∧ (x.toUInt32.toUInt16.toUInt32.toInt32).toInt < 65536 := by
  have h : ∀ u : UInt16, (u.toUInt32.toInt32).toInt = u.toNat := fun u => by
    have hu := u.toNat_lt
    show ((u.toUInt32).toBitVec).toInt = _
    have hm : (u.toUInt32).toBitVec.toNat = u.toNat := by
      show (u.toUInt32).toNat = _
      simp
    rw [BitVec.toInt_eq_toNat_cond, hm, if_pos (by omega)]
  have h2 := (x.toUInt32.toUInt16).toNat_lt
  rw [h]; omega
theorem own_small (n : Nat) (c : Int32) (h0 : 0 ≤ c.toInt) (h1 : c.toInt < n) (hn : n ≤ 2147483647) : ∃ k : Fin n, c = Int32.ofNat k.val := by
  refine ⟨⟨c.toInt.toNat, by omega⟩, Int32.toInt_inj.mp ?_⟩
  rw [Int32.toInt_ofNat_of_lt (by show c.toInt.toNat < _; omega)]
  show _ = ((c.toInt.toNat : Nat) : Int)
  omega
/-- an array: its kind, its length, what each place holds -/
def Ary (Z : State) (h : Heap) (a : Addr) (t : FieldType) (n : Nat) (f : Nat → Value) : Prop := ∃ c : Cell, Arr Z h a c t ∧ c.slots.size = n ∧ ∀ j, j < n → c.slots[j]? = some (f j)
def upd (f : Nat → Value) (j : Nat) (v : Value) : Nat → Value := fun i => if i = j then v else f i
/-- ints in every place -/
def bts (b : Nat → Int32) : Nat → Value := fun i => .int (b i)
def updI (b : Nat → Int32) (j : Nat) (v : Int32) : Nat → Int32 := fun i => if i = j then v else b i
def lts (b : Nat → Int64) : Nat → Value := fun i => .long (b i)
def updJ (b : Nat → Int64) (j : Nat) (v : Int64) : Nat → Int64 := fun i => if i = j then v else b i
def lst (L : List Value) : Nat → Value := fun i => L.getD i .null
section OwnH
variable {p : Program} {l : Launch} {e : Env} {R : Room} {s : State} {m : MethodId} {args : Array Value} {below : List Frame} {meth : Method} {c : Code} {T : State} {locs : List Loc} {cells slots : Nat}
variable {Z : State} {h h' : Heap} {a b : Addr} {t : FieldType} {n : Nat} {f f' : Nat → Value} {sl : Nat} {v : Value} {ws : List Addr} {L : List Value}
theorem upd_lst {i j : Nat} (hi : i < L.length) : upd (lst L) i v j = lst (L.set i v) j := by
  unfold upd lst
  by_cases q : j = i
  · subst q; rw [if_pos rfl]; simp [hi]
  · rw [if_neg q]; simp only [List.getD_eq_getElem?_getD]; rw [List.getElem?_set_ne (Ne.symm q)]
theorem lst_rep {d : Value} {j : Nat} (hj : j < n) : lst (List.replicate n d) j = d := by
  unfold lst; simp [hj]
theorem Ary.lt (A : Ary Z h a t n f) : a < h.size := by obtain ⟨c, q, -⟩ := A; exact q.lt
theorem Ary.ext (A : Ary Z h a t n f) (E : Ext h h') : Ary Z h' a t n f := by obtain ⟨c, q, r⟩ := A; exact ⟨c, q.ext E, r⟩
theorem Ary.other (A : Ary Z h b t n f) (W : Wr h h' a sl v) (q : b ≠ a) : Ary Z h' b t n f := by obtain ⟨c, A, r⟩ := A; exact ⟨c, A.other W q, r⟩
theorem Ary.keep (A : Ary Z h a t n f) (K : Keep h h' ws) (q : a ∉ ws) : Ary Z h' a t n f := by obtain ⟨c, A, r⟩ := A; exact ⟨c, ⟨K.2.1 a c A.1 q, A.2⟩, r⟩
theorem Ary.congr (A : Ary Z h a t n f) (q : ∀ j, j < n → f j = f' j) : Ary Z h a t n f' := by obtain ⟨c, A, S, H⟩ := A; exact ⟨c, A, S, fun j hj => by rw [H j hj, q j hj]⟩
theorem Ary.same (A : Ary Z h a t n f) (W : Wr h h' a sl v) : Ary Z h' a t n (upd f sl v) := by
  obtain ⟨c, A, S, H⟩ := A
  refine ⟨_, A.same W, by rw [sz_set]; exact S, fun j hj => ?_⟩
  unfold upd
  by_cases q : j = sl
  · subst q; rw [if_pos rfl]; show (c.slots.setIfInBounds j v)[j]? = some v
    rw [Array.getElem?_setIfInBounds_self_of_lt (by omega)]
  · rw [if_neg q]; show (c.slots.setIfInBounds sl v)[j]? = _
    rw [Array.getElem?_setIfInBounds_ne (Ne.symm q)]; exact H j hj
theorem Ary.sameL (A : Ary Z h a t n (lst L)) (W : Wr h h' a sl v) (q : sl < L.length) : Ary Z h' a t n (lst (L.set sl v)) := (A.same W).congr fun _ _ => upd_lst q
theorem Ary.sameB {bs : Nat → Int32} {x : Int32} (A : Ary Z h a t n (bts bs)) (W : Wr h h' a sl (.int x)) : Ary Z h' a t n (bts (updI bs sl x)) := (A.same W).congr fun j _ => by
  unfold upd bts updI
  by_cases q : j = sl
  · rw [if_pos q, if_pos q]
  · rw [if_neg q, if_neg q]
theorem Ary.sameJ {bs : Nat → Int64} {x : Int64} (A : Ary Z h a t n (lts bs)) (W : Wr h h' a sl (.long x)) : Ary Z h' a t n (lts (updJ bs sl x)) := (A.same W).congr fun j _ => by
  unfold upd lts updJ
  by_cases q : j = sl
  · rw [if_pos q, if_pos q]
  · rw [if_neg q, if_neg q]
theorem Ary.new {k : ClassId} {z : Int32} (A : Arr Z h a (newA k t z) t) (hz : z.toNatClampNeg = n) : Ary Z h a t n (fun _ => defaultValue t) := ⟨_, A, by rw [sz_new, hz], fun j hj => by subst hz; simp [newA, hj]⟩
theorem Ary.newL {k : ClassId} {z : Int32} (A : Arr Z h a (newA k t z) t) (hz : z.toNatClampNeg = n) : Ary Z h a t n (lst (List.replicate n (defaultValue t))) := (Ary.new A hz).congr fun _ hj => (lst_rep hj).symm
theorem Ary.ne_exa {C : String} {a0 : Array Value} {k : Nat} (A : Ary Z h b t n f) (F : Exa Z h a C) (wi : (Cond.instantiable C k).before a0 Z = true) : a ≠ b := by obtain ⟨c, A, -⟩ := A; exact ne_arr F wi A
theorem inA {c : Cell} {j : Int32} {i : Nat} (S : c.slots.size = n) (hj : ¬ j < 0) (hi : j.toNatClampNeg = i) (hin : i < n) : ¬ (j < 0 ∨ c.slots.size ≤ j.toNatClampNeg) := by
  rw [S, hi]; intro q; rcases q with q | q
  · exact hj q
  · omega
theorem ldI (X : Stand p l e R s m args below meth c T locs cells slots) (hx : p.tables.exec = Jvm.exec) (hZ : Z.Warmed39 s.vm) (eT : T.heap = h) (A : Ary Z h a .int n f) {j : Int32} {i : Nat} (hj : ¬ j < 0) (hi : j.toNatClampNeg = i) (hin : i < n) (hv : f i = v) {g : JFrame} (hg : g.method = m) {rest : List Value} (hs : g.stack = .int j :: .ref a :: rest) (hd : decode c.code g.pc = .ok (.iaload, 1)) :
    ∀ target, Steps p.tables e below (T.setTop { g with pc := g.pc + 1, stack := v :: rest }) target → Steps p.tables e below (T.setTop g) target := by
  obtain ⟨cl, A, S, H⟩ := A
  exact X.iaload hx (by rw [eT]; exact A.1) (State.isArrayOf_alike hZ.alike A.2.1) A.2.2 (inA S hj hi hin) (by rw [hi, H i hin, hv]) hg hs hd
theorem ldJ (X : Stand p l e R s m args below meth c T locs cells slots) (hx : p.tables.exec = Jvm.exec) (hZ : Z.Warmed39 s.vm) (eT : T.heap = h) (A : Ary Z h a .long n f) {j : Int32} {i : Nat} (hj : ¬ j < 0) (hi : j.toNatClampNeg = i) (hin : i < n) (hv : f i = v) {g : JFrame} (hg : g.method = m) {rest : List Value} (hs : g.stack = .int j :: .ref a :: rest) (hd : decode c.code g.pc = .ok (.laload, 1)) :
    ∀ target, Steps p.tables e below (T.setTop { g with pc := g.pc + 1, stack := v :: rest }) target → Steps p.tables e below (T.setTop g) target := by
  obtain ⟨cl, A, S, H⟩ := A
  exact X.laload hx (by rw [eT]; exact A.1) (State.isArrayOf_alike hZ.alike A.2.1) A.2.2 (inA S hj hi hin) (by rw [hi, H i hin, hv]) hg hs hd
theorem ldB (X : Stand p l e R s m args below meth c T locs cells slots) (hx : p.tables.exec = Jvm.exec) (hZ : Z.Warmed39 s.vm) (eT : T.heap = h) (A : Ary Z h a .byte n f) {j : Int32} {i : Nat} (hj : ¬ j < 0) (hi : j.toNatClampNeg = i) (hin : i < n) (hv : f i = v) {g : JFrame} (hg : g.method = m) {rest : List Value} (hs : g.stack = .int j :: .ref a :: rest) (hd : decode c.code g.pc = .ok (.baload, 1)) :
    ∀ target, Steps p.tables e below (T.setTop { g with pc := g.pc + 1, stack := v :: rest }) target → Steps p.tables e below (T.setTop g) target := by
  obtain ⟨cl, A, S, H⟩ := A
  exact X.baloadBytes hx (by rw [eT]; exact A.1) (State.isArrayOf_alike hZ.alike A.2.1) A.2.2 (inA S hj hi hin) (by rw [hi, H i hin, hv]) hg hs hd
theorem ldR (X : Stand p l e R s m args below meth c T locs cells slots) (hx : p.tables.exec = Jvm.exec) (hZ : Z.Warmed39 s.vm) (eT : T.heap = h) (A : Ary Z h a t n f) (ht : t.isReference = true) {j : Int32} {i : Nat} (hj : ¬ j < 0) (hi : j.toNatClampNeg = i) (hin : i < n) (hv : f i = v) {g : JFrame} (hg : g.method = m) {rest : List Value} (hs : g.stack = .int j :: .ref a :: rest) (hd : decode c.code g.pc = .ok (.aaload, 1)) :
    ∀ target, Steps p.tables e below (T.setTop { g with pc := g.pc + 1, stack := v :: rest }) target → Steps p.tables e below (T.setTop g) target := by
  obtain ⟨cl, A, S, H⟩ := A
  exact X.aaload hx (by rw [eT]; exact A.1) (State.isArrayOf_alike hZ.alike A.2.1) ht A.2.2 (inA S hj hi hin) (by rw [hi, H i hin, hv]) hg hs hd
theorem lenA (X : Stand p l e R s m args below meth c T locs cells slots) (hx : p.tables.exec = Jvm.exec) (hZ : Z.Warmed39 s.vm) (eT : T.heap = h) (A : Ary Z h a t n f) {z : Int32} (hz : n.toInt32 = z) {g : JFrame} (hg : g.method = m) {rest : List Value} (hs : g.stack = .ref a :: rest) (hd : decode c.code g.pc = .ok (.arraylength, 1)) :
    ∀ target, Steps p.tables e below (T.setTop { g with pc := g.pc + 1, stack := .int z :: rest }) target → Steps p.tables e below (T.setTop g) target := by
  obtain ⟨cl, A, S, H⟩ := A
  subst hz; rw [← S]
  exact X.arraylength hx (by rw [eT]; exact A.1) (State.isArrayOf_alike hZ.alike A.2.1) hg hs hd
theorem stAI (X : Stand p l e R s m args below meth c T locs cells slots) (hx : p.tables.exec = Jvm.exec) (hZ : Z.Warmed39 s.vm) (eT : T.heap = h) (A : Ary Z h a .int n f) {j x : Int32} {i : Nat} (hj : ¬ j < 0) (hi : j.toNatClampNeg = i) (hin : i < n) {g : JFrame} (hg : g.method = m) {rest : List Value} (hs : g.stack = .int x :: .int j :: .ref a :: rest) (hd : decode c.code g.pc = .ok (.iastore, 1)) :
    ∃ T' h', Stand p l e R s m args below meth c T' (locs ++ [⟨a, i⟩]) cells slots ∧ T'.heap = h' ∧ Wr h h' a i (.int x) ∧ ∀ target, Steps p.tables e below (T'.setTop { g with pc := g.pc + 1, stack := rest }) target → Steps p.tables e below (T.setTop g) target := by
  obtain ⟨cl, A, S, H⟩ := A
  have q := inA S hj hi hin
  subst hi
  exact stI X hx hZ eT A q hg hs hd
theorem stAB (X : Stand p l e R s m args below meth c T locs cells slots) (hx : p.tables.exec = Jvm.exec) (hZ : Z.Warmed39 s.vm) (eT : T.heap = h) (A : Ary Z h a .byte n f) {j x : Int32} {i : Nat} (hj : ¬ j < 0) (hi : j.toNatClampNeg = i) (hin : i < n) {g : JFrame} (hg : g.method = m) {rest : List Value} (hs : g.stack = .int x :: .int j :: .ref a :: rest) (hd : decode c.code g.pc = .ok (.bastore, 1)) :
    ∃ T' h', Stand p l e R s m args below meth c T' (locs ++ [⟨a, i⟩]) cells slots ∧ T'.heap = h' ∧ Wr h h' a i (.int (nar .byte x)) ∧ ∀ target, Steps p.tables e below (T'.setTop { g with pc := g.pc + 1, stack := rest }) target → Steps p.tables e below (T.setTop g) target := by
  obtain ⟨cl, A, S, H⟩ := A
  have q := inA S hj hi hin
  subst hi
  exact stB X hx hZ eT A q hg hs hd
theorem stAJ (X : Stand p l e R s m args below meth c T locs cells slots) (hx : p.tables.exec = Jvm.exec) (hZ : Z.Warmed39 s.vm) (eT : T.heap = h) (A : Ary Z h a .long n f) {j : Int32} {x : Int64} {i : Nat} (hj : ¬ j < 0) (hi : j.toNatClampNeg = i) (hin : i < n) {g : JFrame} (hg : g.method = m) {rest : List Value} (hs : g.stack = .long x :: .int j :: .ref a :: rest) (hd : decode c.code g.pc = .ok (.lastore, 1)) :
    ∃ T' h', Stand p l e R s m args below meth c T' (locs ++ [⟨a, i⟩]) cells slots ∧ T'.heap = h' ∧ Wr h h' a i (.long x) ∧ ∀ target, Steps p.tables e below (T'.setTop { g with pc := g.pc + 1, stack := rest }) target → Steps p.tables e below (T.setTop g) target := by
  obtain ⟨cl, A, S, H⟩ := A
  have q := inA S hj hi hin
  subst hi
  exact stJ X hx hZ eT A q hg hs hd
theorem selI {y : MethodName} {k : Nat} {a0 : Array Value} (hZ : Z.Warmed39 s.vm) (wi : (Cond.instantiable y.cls k).before a0 Z = true) (wp : (Cond.privateMethod y).before a0 Z = true) (wm : (Cond.instanceMethod y).before a0 Z = true) (hy : y.cls ≠ "java/lang/invoke/MethodHandle" ∧ y.cls ≠ "java/lang/invoke/VarHandle") : (Cond.selects y.cls y y).before args s = true ∧ s.PrivateAt y := by
  have wi' : (Cond.instantiable y.cls k).before args s = true := mvT hZ wi
  have wp' := mvP hZ wp (args := args)
  have wm' : (Cond.instanceMethod y).before args s = true := mvT hZ wm
  obtain ⟨c, kc, h1, h2, h3, h4, -⟩ := Cond.instantiable_spec wi'
  have hp := Cond.privateMethod_at wp'
  refine ⟨selects_self_of_private h1 h2 (by simp at h4; exact h4.1) hp wm' hy, hp⟩
theorem cloneY {a0 : Array Value} (X : Stand p l e R s m args below meth c T locs cells slots) (hx : p.tables.exec = Jvm.exec) (hZ : Z.Warmed39 s.vm) {own ad : String} {index : Nat} (hown : s.vm.findClass own = some m.cls)
    (w1 : (Cond.methodLink own index ⟨ad, "clone", "()Ljava/lang/Object;"⟩).before a0 Z = true) (w2 : (Cond.sameMethod ad "java/lang/Object" "clone" "()Ljava/lang/Object;").before a0 Z = true) (w3 : (Cond.native ⟨"java/lang/Object", "clone", "()Ljava/lang/Object;"⟩).before a0 Z = true)
    (w4 : (Cond.instanceMethod ⟨"java/lang/Object", "clone", "()Ljava/lang/Object;"⟩).before a0 Z = true) (w5 : (Cond.selects ad ⟨ad, "clone", "()Ljava/lang/Object;"⟩ ⟨"java/lang/Object", "clone", "()Ljava/lang/Object;"⟩).before a0 Z = true) (w6 : (Cond.castable ad "java/lang/Cloneable").before a0 Z = true)
    (eT : T.heap = h) (A : Ary Z h a .int n (lst L)) (E : Exa Z h a ad) (hL : n = L.length ∧ ∀ v ∈ L, ∃ x, v = .int x) {g : JFrame} (hg : g.method = m) (hsize : g.locals.size = c.maxLocals) {rest : List Value} (hs : g.stack = .ref a :: rest) (hd : decode c.code g.pc = .ok (.invokevirtual index, 3))
    (hf : 1 ≤ R.frames) {W cap : Nat} (hW : 2 * g.monitorRoom + (rest.map fun v => v.category).sum ≤ W) (hl : W + 14 ≤ R.locals) (hcap : n ≤ cap) (hc : cells + 1 ≤ R.cells) (hsl : slots + cap ≤ R.slots) :
    ∃ T' h', Stand p l e R s m args below meth c T' locs (cells + 1) (slots + cap) ∧ T'.heap = h' ∧ Ext h h' ∧ Ary Z h' h.size .int n (lst L) ∧ Exa Z h' h.size ad ∧
      ∀ target, Steps p.tables e below (T'.setTop { g with pc := g.pc + 3, stack := .ref h.size :: rest }) target → Steps p.tables e below (T.setTop g) target := by
  obtain ⟨cl, A, S, H⟩ := A
  have F : FitC Z cl := fun i v hv => by
    have hi : i < n := by rw [← S]; exact (Array.getElem?_eq_some_iff.mp hv).1
    have q := H i hi
    rw [hv] at q
    have q' := Option.some.inj q
    have hm : v ∈ L := by
      rw [q']; unfold lst
      have : i < L.length := by omega
      rw [List.getD_eq_getElem?_getD, List.getElem?_eq_getElem this]; exact List.getElem_mem this
    obtain ⟨x, rfl⟩ := hL.2 v hm
    obtain ⟨hs', k, hk, comp, hkind⟩ := A.2.1
    simp [State.fitsSlot, State.slotType?, hk, hkind, fits]
  obtain ⟨T', h', X', e', E', A', Y', st⟩ := cloneA X hx hZ hown w1 w2 w3 w4 w5 w6 eT A E F hg hsize hs hd hf hW hl (by rw [S]; exact hcap) hc hsl
  exact ⟨T', h', X', e', E', ⟨_, A', S, H⟩, Y', st⟩
variable {K N : Nat} {Q : Option Value → Heap → List Loc → Prop}
theorem Go.retR (X : Stand p l e R s m args below meth c T locs cells slots) (hx : p.tables.exec = Jvm.exec) (hlk : meth.locks = false) {pc : Nat} {Ls : Array Slot} {w : Value} (hw : w.isRef = true) {ty : FieldType} (hret : meth.sig.returnType = some ty) (hty : ty.isReference = true) (hd : decode c.code pc = .ok (.areturn, 1))
    (hq : Q (some w) T.heap locs) (hk : cells ≤ K) (hn : slots ≤ N) : Go p e below s Q K N T (mkF m pc Ls [w]) := by
  obtain ⟨fs, hr, hrun, hended, hW, hsame⟩ := X.leave (v := some w) (fun h => by rw [hret] at h; cases h) hlk
  exact ⟨_, _, X.areturnOut hx hw hret hty hd hr, hrun, hended, _, _, rfl, hq, ⟨_, rfl⟩, hW, hsame.mono hk hn⟩
end OwnH
/-- a place of an array of four -/
def In4 (x : Int32) : Prop := 0 ≤ x.toInt ∧ x.toInt < 4
theorem own_in4 {x : Int32} (h : In4 x) : ¬ x < (0 : Int32) ∧ x.toNatClampNeg < 4 := by
  have e : (0 : Int32).toInt = 0 := by decide
  have t : x.toNatClampNeg = x.toInt.toNat := rfl
  obtain ⟨h1, h2⟩ := h
  refine ⟨fun q => ?_, by omega⟩
  rw [Int32.lt_iff_toInt_lt] at q; omega
theorem own_neg {x : Int32} (h : x = (-1 : Int32)) : x < (0 : Int32) := by subst h; decide
theorem own_x0 {x : Int32} (h : x = (-1 : Int32)) : ¬ (x ^^^ (-1 : Int32)) < (0 : Int32) ∧ (x ^^^ (-1 : Int32)).toNatClampNeg = 0 := by subst h; decide
theorem own_xz {x : Int32} (h : x = (-1 : Int32)) : (x ^^^ (-1 : Int32)) = (0 : Int32) := by subst h; decide
theorem pn_0 : plainName "com/example/nearpath/nearpath/answer/Frontier" = true := by first | (simp [plainName, overriddenIn]; done) | decide +kernel
theorem der0_0 : decode prog_12_method_9_code 0 = .ok (.iload_n 1, 1) := by decide +kernel
theorem der0_1 : decode prog_12_method_9_code 1 = .ok (.aload_n 0, 1) := by decide +kernel
theorem der0_2 : decode prog_12_method_9_code 2 = .ok (.arraylength, 1) := by decide +kernel
theorem der0_3 : decode prog_12_method_9_code 3 = .ok (.if_icmp .ge 7, 3) := by decide +kernel
theorem der0_6 : decode prog_12_method_9_code 6 = .ok (.aload_n 0, 1) := by decide +kernel
theorem der0_7 : decode prog_12_method_9_code 7 = .ok (.goto 11, 3) := by decide +kernel
theorem der0_18 : decode prog_12_method_9_code 18 = .ok (.areturn, 1) := by decide +kernel
theorem ef_er0 (m : MethodId) (a : Addr) : entryFrame m #[(.ref a), (.int (0 : Int32))] 2 = (mkF m 0 #[.val (.ref a), .val (.int (0 : Int32))] []) := by first | (simp [entryFrame, mkF, argsToLocals, Value.category]; done) | rfl
def Q_er0 (Z : State) (a : Addr) (g : Nat → Int32) (h0 : Heap) (n0 : Nat) (vv : Option Value) (hE : Heap) (LE : List Loc) : Prop := vv = some (.ref a) ∧ Fr n0 LE ∧ hE = h0
set_option maxRecDepth 65536 in
set_option maxHeartbeats 40000000 in
theorem rm_er0 (l : Launch) (Z : State) (a0 : Array Value) (hw : ∀ d ∈ tables_1, d.before a0 Z = true) (ws : List Jvm.Cond) (a : Addr) (g : Nat → Int32) (h0 : Heap) (n0 : Nat) (Z0 : n0 ≤ h0.size) (pr0 : Ary Z h0 a .int 16 (bts g)) :
    MetFree l (⟨"com/example/nearpath/nearpath/answer/Frontier", "ensureRoom", "([II)[I"⟩ : MethodName) (head1 (Jvm.Cond.code (⟨"com/example/nearpath/nearpath/answer/Frontier", "ensureRoom", "([II)[I"⟩ : MethodName) prog_12_method_9_code 2 (some (.array .int)) :: ws) ({ frames := 0, cells := 0, slots := 0, locals := 0 } : Room)) (fun aa UU => aa = #[(.ref a), (.int (0 : Int32))] ∧ Z.Warmed39 UU.vm ∧ UU.heap = h0) (fun _ _ _ _ _ => True) (fun _ UU oo UU' => ∃ vv LL, oo = .returned vv ∧ Q_er0 Z a g h0 n0 vv UU'.heap LL ∧ FrameEnd UU oo UU' LL ({ frames := 0, cells := 0, slots := 0, locals := 0 } : Room).cells ({ frames := 0, cells := 0, slots := 0, locals := 0 } : Room).slots) := by
  refine MetFree.of_bodySF (plainFor_of_name pn_0) hisR ?_
  intro p e s m args below meth c s₁ Bd hml0 hP hK
  obtain ⟨rfl, hZ, hh⟩ := hP
  have hx := Bd.exec
  have hby := Bd.bytes
  have hml : c.maxLocals = 2 := hml0
  have hown : s.vm.findClass "com/example/nearpath/nearpath/answer/Frontier" = some m.cls := findClass_of_methodNamed Bd.named
  have hnm := (name_of_methodNamed Bd.named Bd.method).1
  have X0 : Stand p l e ({ frames := 0, cells := 0, slots := 0, locals := 0 } : Room) s m #[(.ref a), (.int (0 : Int32))] below meth c s₁ [] 0 0 := Stand.of_body Bd
  have e0 : s₁.heap = h0 := by rw [← hh, Bd.state]; rfl
  have N0 := Fr.nil n0
  have K0 := Keep.refl h0 []
  show Go p e below s (Q_er0 Z a g h0 n0) 0 0 s₁ (entryFrame m #[(.ref a), (.int (0 : Int32))] 2)
  refine Go.of_eq (ef_er0 m a) ?_
  refine Go.st (mkF m 1 #[.val (.ref a), .val (.int (0 : Int32))] [(.int (0 : Int32))]) (fun _ k => XS.iloadN X0.here hx rfl (hb hby der0_0) rfl k) ?_
  refine Go.st (mkF m 2 #[.val (.ref a), .val (.int (0 : Int32))] [(.ref a), (.int (0 : Int32))]) (fun _ k => XS.aloadN X0.here hx rfl (hb hby der0_1) rfl rfl k) ?_
  refine Go.st (mkF m 3 #[.val (.ref a), .val (.int (0 : Int32))] [(.int (16 : Int32)), (.int (0 : Int32))]) (fun _ k => lenA X0 hx hZ e0 pr0 (z := (16 : Int32)) rfl (g := (mkF m 2 #[.val (.ref a), .val (.int (0 : Int32))] [(.ref a), (.int (0 : Int32))])) rfl rfl (hb hby der0_2) _ k) ?_
  refine Go.st (mkF m 6 #[.val (.ref a), .val (.int (0 : Int32))] []) (fun _ k => XS.icmpNo X0.here hx rfl (hb hby der0_3) rfl (tlt (by decide : (0 : Int32) < (16 : Int32))).2.1 k) ?_
  refine Go.st (mkF m 7 #[.val (.ref a), .val (.int (0 : Int32))] [(.ref a)]) (fun _ k => XS.aloadN X0.here hx rfl (hb hby der0_6) rfl rfl k) ?_
  refine Go.st (mkF m 18 #[.val (.ref a), .val (.int (0 : Int32))] [(.ref a)]) (fun _ k => XS.goto X0.here hx rfl (pc0 := 7) (pc' := 18) rfl (hb hby der0_7) (by decide) (by decide) k) ?_
  exact Go.retR X0 hx Bd.notSynchronized rfl Bd.returns rfl (hb hby der0_18) ⟨rfl, N0, e0⟩ (by decide) (by decide)
theorem der1_0 : decode prog_12_method_9_code 0 = .ok (.iload_n 1, 1) := by decide +kernel
theorem der1_1 : decode prog_12_method_9_code 1 = .ok (.aload_n 0, 1) := by decide +kernel
theorem der1_2 : decode prog_12_method_9_code 2 = .ok (.arraylength, 1) := by decide +kernel
theorem der1_3 : decode prog_12_method_9_code 3 = .ok (.if_icmp .ge 7, 3) := by decide +kernel
theorem der1_6 : decode prog_12_method_9_code 6 = .ok (.aload_n 0, 1) := by decide +kernel
theorem der1_7 : decode prog_12_method_9_code 7 = .ok (.goto 11, 3) := by decide +kernel
theorem der1_18 : decode prog_12_method_9_code 18 = .ok (.areturn, 1) := by decide +kernel
theorem ef_er1 (m : MethodId) (a : Addr) : entryFrame m #[(.ref a), (.int (1 : Int32))] 2 = (mkF m 0 #[.val (.ref a), .val (.int (1 : Int32))] []) := by first | (simp [entryFrame, mkF, argsToLocals, Value.category]; done) | rfl
def Q_er1 (Z : State) (a : Addr) (g : Nat → Int32) (h0 : Heap) (n0 : Nat) (vv : Option Value) (hE : Heap) (LE : List Loc) : Prop := vv = some (.ref a) ∧ Fr n0 LE ∧ hE = h0
set_option maxRecDepth 65536 in
set_option maxHeartbeats 40000000 in
theorem rm_er1 (l : Launch) (Z : State) (a0 : Array Value) (hw : ∀ d ∈ tables_1, d.before a0 Z = true) (ws : List Jvm.Cond) (a : Addr) (g : Nat → Int32) (h0 : Heap) (n0 : Nat) (Z0 : n0 ≤ h0.size) (pr0 : Ary Z h0 a .int 16 (bts g)) :
    MetFree l (⟨"com/example/nearpath/nearpath/answer/Frontier", "ensureRoom", "([II)[I"⟩ : MethodName) (head1 (Jvm.Cond.code (⟨"com/example/nearpath/nearpath/answer/Frontier", "ensureRoom", "([II)[I"⟩ : MethodName) prog_12_method_9_code 2 (some (.array .int)) :: ws) ({ frames := 0, cells := 0, slots := 0, locals := 0 } : Room)) (fun aa UU => aa = #[(.ref a), (.int (1 : Int32))] ∧ Z.Warmed39 UU.vm ∧ UU.heap = h0) (fun _ _ _ _ _ => True) (fun _ UU oo UU' => ∃ vv LL, oo = .returned vv ∧ Q_er1 Z a g h0 n0 vv UU'.heap LL ∧ FrameEnd UU oo UU' LL ({ frames := 0, cells := 0, slots := 0, locals := 0 } : Room).cells ({ frames := 0, cells := 0, slots := 0, locals := 0 } : Room).slots) := by
  refine MetFree.of_bodySF (plainFor_of_name pn_0) hisR ?_
  intro p e s m args below meth c s₁ Bd hml0 hP hK
  obtain ⟨rfl, hZ, hh⟩ := hP
  have hx := Bd.exec
  have hby := Bd.bytes
  have hml : c.maxLocals = 2 := hml0
  have hown : s.vm.findClass "com/example/nearpath/nearpath/answer/Frontier" = some m.cls := findClass_of_methodNamed Bd.named
  have hnm := (name_of_methodNamed Bd.named Bd.method).1
  have X0 : Stand p l e ({ frames := 0, cells := 0, slots := 0, locals := 0 } : Room) s m #[(.ref a), (.int (1 : Int32))] below meth c s₁ [] 0 0 := Stand.of_body Bd
  have e0 : s₁.heap = h0 := by rw [← hh, Bd.state]; rfl
  have N0 := Fr.nil n0
  have K0 := Keep.refl h0 []
  show Go p e below s (Q_er1 Z a g h0 n0) 0 0 s₁ (entryFrame m #[(.ref a), (.int (1 : Int32))] 2)
  refine Go.of_eq (ef_er1 m a) ?_
  refine Go.st (mkF m 1 #[.val (.ref a), .val (.int (1 : Int32))] [(.int (1 : Int32))]) (fun _ k => XS.iloadN X0.here hx rfl (hb hby der1_0) rfl k) ?_
  refine Go.st (mkF m 2 #[.val (.ref a), .val (.int (1 : Int32))] [(.ref a), (.int (1 : Int32))]) (fun _ k => XS.aloadN X0.here hx rfl (hb hby der1_1) rfl rfl k) ?_
  refine Go.st (mkF m 3 #[.val (.ref a), .val (.int (1 : Int32))] [(.int (16 : Int32)), (.int (1 : Int32))]) (fun _ k => lenA X0 hx hZ e0 pr0 (z := (16 : Int32)) rfl (g := (mkF m 2 #[.val (.ref a), .val (.int (1 : Int32))] [(.ref a), (.int (1 : Int32))])) rfl rfl (hb hby der1_2) _ k) ?_
  refine Go.st (mkF m 6 #[.val (.ref a), .val (.int (1 : Int32))] []) (fun _ k => XS.icmpNo X0.here hx rfl (hb hby der1_3) rfl (tlt (by decide : (1 : Int32) < (16 : Int32))).2.1 k) ?_
  refine Go.st (mkF m 7 #[.val (.ref a), .val (.int (1 : Int32))] [(.ref a)]) (fun _ k => XS.aloadN X0.here hx rfl (hb hby der1_6) rfl rfl k) ?_
  refine Go.st (mkF m 18 #[.val (.ref a), .val (.int (1 : Int32))] [(.ref a)]) (fun _ k => XS.goto X0.here hx rfl (pc0 := 7) (pc' := 18) rfl (hb hby der1_7) (by decide) (by decide) k) ?_
  exact Go.retR X0 hx Bd.notSynchronized rfl Bd.returns rfl (hb hby der1_18) ⟨rfl, N0, e0⟩ (by decide) (by decide)
theorem d1_0 : decode prog_12_method_1_code 0 = .ok (.aload_n 0, 1) := by decide +kernel
theorem d1_1 : decode prog_12_method_1_code 1 = .ok (.invokespecial 1, 3) := by decide +kernel
theorem d1_4 : decode prog_12_method_1_code 4 = .ok (.aload_n 0, 1) := by decide +kernel
theorem d1_5 : decode prog_12_method_1_code 5 = .ok (.bipush 16, 2) := by decide +kernel
theorem d1_7 : decode prog_12_method_1_code 7 = .ok (.newarray .int, 2) := by decide +kernel
theorem d1_9 : decode prog_12_method_1_code 9 = .ok (.putfield 7, 3) := by decide +kernel
theorem d1_12 : decode prog_12_method_1_code 12 = .ok (.aload_n 0, 1) := by decide +kernel
theorem d1_13 : decode prog_12_method_1_code 13 = .ok (.bipush 16, 2) := by decide +kernel
theorem d1_15 : decode prog_12_method_1_code 15 = .ok (.newarray .long, 2) := by decide +kernel
theorem d1_17 : decode prog_12_method_1_code 17 = .ok (.putfield 13, 3) := by decide +kernel
theorem d1_20 : decode prog_12_method_1_code 20 = .ok (.aload_n 0, 1) := by decide +kernel
theorem d1_21 : decode prog_12_method_1_code 21 = .ok (.bipush 16, 2) := by decide +kernel
theorem d1_23 : decode prog_12_method_1_code 23 = .ok (.newarray .int, 2) := by decide +kernel
theorem d1_25 : decode prog_12_method_1_code 25 = .ok (.putfield 17, 3) := by decide +kernel
theorem d1_28 : decode prog_12_method_1_code 28 = .ok (.aload_n 0, 1) := by decide +kernel
theorem d1_29 : decode prog_12_method_1_code 29 = .ok (.iload_n 1, 1) := by decide +kernel
theorem d1_30 : decode prog_12_method_1_code 30 = .ok (.newarray .int, 2) := by decide +kernel
theorem d1_32 : decode prog_12_method_1_code 32 = .ok (.putfield 20, 3) := by decide +kernel
theorem d1_35 : decode prog_12_method_1_code 35 = .ok (.aload_n 0, 1) := by decide +kernel
theorem d1_36 : decode prog_12_method_1_code 36 = .ok (.lload_n 2, 1) := by decide +kernel
theorem d1_37 : decode prog_12_method_1_code 37 = .ok (.putfield 23, 3) := by decide +kernel
theorem d1_40 : decode prog_12_method_1_code 40 = .ok (.return_, 1) := by decide +kernel
theorem ef_1 (m : MethodId) (f : Addr) : entryFrame m #[(.ref f), (.int (4 : Int32)), (.long (3 : Int64))] 4 = (mkF m 0 #[.val (.ref f), .val (.int (4 : Int32)), .val (.long (3 : Int64)), .second] []) := by first | (simp [entryFrame, mkF, argsToLocals, Value.category]; done) | rfl
def Q_1 (Z : State) (f : Addr) (h0 : Heap) (n0 : Nat) (vv : Option Value) (hE : Heap) (LE : List Loc) : Prop := ∃ lv : Addr, ∃ hc : Addr, ∃ hi : Addr, ∃ sn : Addr, vv = none ∧ Fr n0 LE ∧ Keep h0 hE [f] ∧ Fld Z hE f "com/example/nearpath/nearpath/answer/Frontier" "seen" "[I" (.ref sn) ∧ Fld Z hE f "com/example/nearpath/nearpath/answer/Frontier" "maxCost" "J" (.long (3 : Int64)) ∧ Fld Z hE f "com/example/nearpath/nearpath/answer/Frontier" "search" "I" (.int (0 : Int32)) ∧ Fld Z hE f "com/example/nearpath/nearpath/answer/Frontier" "cost" "J" (.long (0 : Int64)) ∧ Fld Z hE f "com/example/nearpath/nearpath/answer/Frontier" "level" "[I" (.ref lv) ∧ Fld Z hE f "com/example/nearpath/nearpath/answer/Frontier" "levelHead" "I" (.int (0 : Int32)) ∧ Fld Z hE f "com/example/nearpath/nearpath/answer/Frontier" "levelTail" "I" (.int (0 : Int32)) ∧ Fld Z hE f "com/example/nearpath/nearpath/answer/Frontier" "heapCosts" "[J" (.ref hc) ∧ Fld Z hE f "com/example/nearpath/nearpath/answer/Frontier" "heapItems" "[I" (.ref hi) ∧ Fld Z hE f "com/example/nearpath/nearpath/answer/Frontier" "heapSize" "I" (.int (0 : Int32)) ∧ Ary Z hE lv .int 16 (bts (fun _ => (0 : Int32))) ∧ Ary Z hE hc .long 16 (lts (fun _ => (0 : Int64))) ∧ Ary Z hE hi .int 16 (bts (fun _ => (0 : Int32))) ∧ Ary Z hE sn .int 4 (bts (fun _ => (0 : Int32))) ∧ h0.size ≤ lv ∧ h0.size ≤ hc ∧ h0.size ≤ hi ∧ h0.size ≤ sn ∧ lv ≠ hc ∧ lv ≠ hi ∧ lv ≠ sn ∧ hc ≠ hi ∧ hc ≠ sn ∧ hi ≠ sn
set_option maxRecDepth 65536 in
set_option maxHeartbeats 40000000 in
theorem rm_1 (l : Launch) (Z : State) (a0 : Array Value) (hw : ∀ d ∈ tables_1, d.before a0 Z = true) (ws : List Jvm.Cond) (f : Addr) (h0 : Heap) (n0 : Nat) (Z0 : n0 ≤ h0.size) (pr0 : Exa Z h0 f "com/example/nearpath/nearpath/answer/Frontier") (pr1 : Fld Z h0 f "com/example/nearpath/nearpath/answer/Frontier" "seen" "[I" .null) (pr2 : Fld Z h0 f "com/example/nearpath/nearpath/answer/Frontier" "maxCost" "J" (.long (0 : Int64))) (pr3 : Fld Z h0 f "com/example/nearpath/nearpath/answer/Frontier" "search" "I" (.int (0 : Int32))) (pr4 : Fld Z h0 f "com/example/nearpath/nearpath/answer/Frontier" "cost" "J" (.long (0 : Int64))) (pr5 : Fld Z h0 f "com/example/nearpath/nearpath/answer/Frontier" "level" "[I" .null) (pr6 : Fld Z h0 f "com/example/nearpath/nearpath/answer/Frontier" "levelHead" "I" (.int (0 : Int32))) (pr7 : Fld Z h0 f "com/example/nearpath/nearpath/answer/Frontier" "levelTail" "I" (.int (0 : Int32))) (pr8 : Fld Z h0 f "com/example/nearpath/nearpath/answer/Frontier" "heapCosts" "[J" .null) (pr9 : Fld Z h0 f "com/example/nearpath/nearpath/answer/Frontier" "heapItems" "[I" .null) (pr10 : Fld Z h0 f "com/example/nearpath/nearpath/answer/Frontier" "heapSize" "I" (.int (0 : Int32))) (pr11 : n0 ≤ f) :
    MetFree l (⟨"com/example/nearpath/nearpath/answer/Frontier", "<init>", "(IJ)V"⟩ : MethodName) (head1 (Jvm.Cond.code (⟨"com/example/nearpath/nearpath/answer/Frontier", "<init>", "(IJ)V"⟩ : MethodName) prog_12_method_1_code 4 none :: ws) ({ frames := 1, cells := 4, slots := 52, locals := 12 } : Room)) (fun aa UU => aa = #[(.ref f), (.int (4 : Int32)), (.long (3 : Int64))] ∧ Z.Warmed39 UU.vm ∧ UU.heap = h0) (fun _ _ _ _ _ => True) (fun _ UU oo UU' => ∃ vv LL, oo = .returned vv ∧ Q_1 Z f h0 n0 vv UU'.heap LL ∧ FrameEnd UU oo UU' LL ({ frames := 1, cells := 4, slots := 52, locals := 12 } : Room).cells ({ frames := 1, cells := 4, slots := 52, locals := 12 } : Room).slots) := by
  refine MetFree.of_bodySF (plainFor_of_name pn_0) hisR ?_
  intro p e s m args below meth c s₁ Bd hml0 hP hK
  obtain ⟨rfl, hZ, hh⟩ := hP
  have hx := Bd.exec
  have hby := Bd.bytes
  have hml : c.maxLocals = 4 := hml0
  have hown : s.vm.findClass "com/example/nearpath/nearpath/answer/Frontier" = some m.cls := findClass_of_methodNamed Bd.named
  have hnm := (name_of_methodNamed Bd.named Bd.method).1
  have X0 : Stand p l e ({ frames := 1, cells := 4, slots := 52, locals := 12 } : Room) s m #[(.ref f), (.int (4 : Int32)), (.long (3 : Int64))] below meth c s₁ [] 0 0 := Stand.of_body Bd
  have e0 : s₁.heap = h0 := by rw [← hh, Bd.state]; rfl
  have N0 := Fr.nil n0
  have K0 := Keep.refl h0 [f]
  show Go p e below s (Q_1 Z f h0 n0) 4 52 s₁ (entryFrame m #[(.ref f), (.int (4 : Int32)), (.long (3 : Int64))] 4)
  refine Go.of_eq (ef_1 m f) ?_
  refine Go.st (mkF m 1 #[.val (.ref f), .val (.int (4 : Int32)), .val (.long (3 : Int64)), .second] [(.ref f)]) (fun _ k => XS.aloadN X0.here hx rfl (hb hby d1_0) rfl rfl k) ?_
  obtain ⟨T1, X1, e1, st1⟩ := initO X0 hx hZ hown (hw _ (List.mem_of_getElem? (i := 7) rfl)) (hw _ (List.mem_of_getElem? (i := 8) rfl)) (hw _ (List.mem_of_getElem? (i := 9) rfl)) e0 (g := (mkF m 1 #[.val (.ref f), .val (.int (4 : Int32)), .val (.long (3 : Int64)), .second] [(.ref f)])) rfl (by rw [hml]; rfl) rfl (hb hby d1_1) (by decide) (W := 0) (by show 2 * 0 + _ ≤ _; exact Nat.le_of_eq rfl) (by decide)
  refine Go.st (mkF m 4 #[.val (.ref f), .val (.int (4 : Int32)), .val (.long (3 : Int64)), .second] []) (fun _ k => st1 _ k) ?_
  refine Go.st (mkF m 5 #[.val (.ref f), .val (.int (4 : Int32)), .val (.long (3 : Int64)), .second] [(.ref f)]) (fun _ k => XS.aloadN X1.here hx rfl (hb hby d1_4) rfl rfl k) ?_
  refine Go.st (mkF m 7 #[.val (.ref f), .val (.int (4 : Int32)), .val (.long (3 : Int64)), .second] [(.int (16 : Int32)), (.ref f)]) (fun _ k => XS.bipush X1.here hx rfl (hb hby d1_5) k) ?_
  obtain ⟨T2, h2, k2, X2, e2, E2, A2, st2⟩ := newP X1 hx hZ (hw _ (List.mem_of_getElem? (i := 10) rfl)) e1 (g := (mkF m 7 #[.val (.ref f), .val (.int (4 : Int32)), .val (.long (3 : Int64)), .second] [(.int (16 : Int32)), (.ref f)])) rfl (hb hby d1_7) rfl (by decide) (cap := 16) (by decide) (by decide) (by decide) (by decide)
  obtain ⟨b2, q2⟩ : ∃ z, z = h0.size := ⟨_, rfl⟩
  rw [← q2] at A2 st2
  have sz_b2 : h0.size ≤ b2 := by rw [q2]; exact K0.1
  have g_b2 : n0 ≤ b2 := Nat.le_trans Z0 sz_b2
  have ne_f_b2 : f ≠ b2 := Nat.ne_of_lt (by rw [q2]; exact pr0.lt)
  have E3q : Exa Z h2 f "com/example/nearpath/nearpath/answer/Frontier" := pr0.ext E2
  have F4 : Fld Z h2 f "com/example/nearpath/nearpath/answer/Frontier" "seen" "[I" .null := pr1.ext E2
  have F5 : Fld Z h2 f "com/example/nearpath/nearpath/answer/Frontier" "maxCost" "J" (.long (0 : Int64)) := pr2.ext E2
  have F6 : Fld Z h2 f "com/example/nearpath/nearpath/answer/Frontier" "search" "I" (.int (0 : Int32)) := pr3.ext E2
  have F7 : Fld Z h2 f "com/example/nearpath/nearpath/answer/Frontier" "cost" "J" (.long (0 : Int64)) := pr4.ext E2
  have F8 : Fld Z h2 f "com/example/nearpath/nearpath/answer/Frontier" "level" "[I" .null := pr5.ext E2
  have F9 : Fld Z h2 f "com/example/nearpath/nearpath/answer/Frontier" "levelHead" "I" (.int (0 : Int32)) := pr6.ext E2
  have F10 : Fld Z h2 f "com/example/nearpath/nearpath/answer/Frontier" "levelTail" "I" (.int (0 : Int32)) := pr7.ext E2
  have F11 : Fld Z h2 f "com/example/nearpath/nearpath/answer/Frontier" "heapCosts" "[J" .null := pr8.ext E2
  have F12 : Fld Z h2 f "com/example/nearpath/nearpath/answer/Frontier" "heapItems" "[I" .null := pr9.ext E2
  have F13 : Fld Z h2 f "com/example/nearpath/nearpath/answer/Frontier" "heapSize" "I" (.int (0 : Int32)) := pr10.ext E2
  have K2 : Keep h0 h2 [f] := K0.ext E2
  have V14 : Ary Z h2 b2 .int 16 (bts (fun _ => (0 : Int32))) := Ary.new A2 (by decide)
  refine Go.st (mkF m 9 #[.val (.ref f), .val (.int (4 : Int32)), .val (.long (3 : Int64)), .second] [(.ref b2), (.ref f)]) (fun _ k => st2 _ k) ?_
  obtain ⟨T15, h15, X15, e15, W15, st15⟩ := putF X2 hx hZ hown (host := "") (Or.inl (hw _ (List.mem_of_getElem? (i := 11) rfl))) Via.refl e2 F8 E3q (Or.inl (hw _ (List.mem_of_getElem? (i := 12) rfl))) (hw _ (List.mem_of_getElem? (i := 1) rfl)) (ty := (.array .int)) (by decide) rfl rfl (g := (mkF m 9 #[.val (.ref f), .val (.int (4 : Int32)), .val (.long (3 : Int64)), .second] [(.ref b2), (.ref f)])) rfl rfl (hb hby d1_9)
  have E16q : Exa Z h15 f "com/example/nearpath/nearpath/answer/Frontier" := E3q.wr W15
  have F17 : Fld Z h15 f "com/example/nearpath/nearpath/answer/Frontier" "seen" "[I" .null := F4.other W15 (Or.inr (slot_ne (Or.inr (hw _ (List.mem_of_getElem? (i := 19) rfl))) (Or.inl (hw _ (List.mem_of_getElem? (i := 12) rfl))) (by decide) (t := (.array .int)) (t' := (.array .int)) (by decide) (by decide)))
  have F18 : Fld Z h15 f "com/example/nearpath/nearpath/answer/Frontier" "maxCost" "J" (.long (0 : Int64)) := F5.other W15 (Or.inr (slot_ne (Or.inr (hw _ (List.mem_of_getElem? (i := 21) rfl))) (Or.inl (hw _ (List.mem_of_getElem? (i := 12) rfl))) (by decide) (t := .long) (t' := (.array .int)) (by decide) (by decide)))
  have F19 : Fld Z h15 f "com/example/nearpath/nearpath/answer/Frontier" "search" "I" (.int (0 : Int32)) := F6.other W15 (Or.inr (slot_ne (Or.inl (hw _ (List.mem_of_getElem? (i := 36) rfl))) (Or.inl (hw _ (List.mem_of_getElem? (i := 12) rfl))) (by decide) (t := .int) (t' := (.array .int)) (by decide) (by decide)))
  have F20 : Fld Z h15 f "com/example/nearpath/nearpath/answer/Frontier" "cost" "J" (.long (0 : Int64)) := F7.other W15 (Or.inr (slot_ne (Or.inl (hw _ (List.mem_of_getElem? (i := 34) rfl))) (Or.inl (hw _ (List.mem_of_getElem? (i := 12) rfl))) (by decide) (t := .long) (t' := (.array .int)) (by decide) (by decide)))
  have F21 : Fld Z h15 f "com/example/nearpath/nearpath/answer/Frontier" "level" "[I" (.ref b2) := F8.same W15
  have F22 : Fld Z h15 f "com/example/nearpath/nearpath/answer/Frontier" "levelHead" "I" (.int (0 : Int32)) := F9.other W15 (Or.inr (slot_ne (Or.inl (hw _ (List.mem_of_getElem? (i := 30) rfl))) (Or.inl (hw _ (List.mem_of_getElem? (i := 12) rfl))) (by decide) (t := .int) (t' := (.array .int)) (by decide) (by decide)))
  have F23 : Fld Z h15 f "com/example/nearpath/nearpath/answer/Frontier" "levelTail" "I" (.int (0 : Int32)) := F10.other W15 (Or.inr (slot_ne (Or.inl (hw _ (List.mem_of_getElem? (i := 32) rfl))) (Or.inl (hw _ (List.mem_of_getElem? (i := 12) rfl))) (by decide) (t := .int) (t' := (.array .int)) (by decide) (by decide)))
  have F24 : Fld Z h15 f "com/example/nearpath/nearpath/answer/Frontier" "heapCosts" "[J" .null := F11.other W15 (Or.inr (slot_ne (Or.inl (hw _ (List.mem_of_getElem? (i := 15) rfl))) (Or.inl (hw _ (List.mem_of_getElem? (i := 12) rfl))) (by decide) (t := (.array .long)) (t' := (.array .int)) (by decide) (by decide)))
  have F25 : Fld Z h15 f "com/example/nearpath/nearpath/answer/Frontier" "heapItems" "[I" .null := F12.other W15 (Or.inr (slot_ne (Or.inl (hw _ (List.mem_of_getElem? (i := 17) rfl))) (Or.inl (hw _ (List.mem_of_getElem? (i := 12) rfl))) (by decide) (t := (.array .int)) (t' := (.array .int)) (by decide) (by decide)))
  have F26 : Fld Z h15 f "com/example/nearpath/nearpath/answer/Frontier" "heapSize" "I" (.int (0 : Int32)) := F13.other W15 (Or.inr (slot_ne (Or.inl (hw _ (List.mem_of_getElem? (i := 28) rfl))) (Or.inl (hw _ (List.mem_of_getElem? (i := 12) rfl))) (by decide) (t := .int) (t' := (.array .int)) (by decide) (by decide)))
  have V27 : Ary Z h15 b2 .int 16 (bts (fun _ => (0 : Int32))) := V14.other W15 (Ne.symm ne_f_b2)
  have K15 : Keep h0 h15 [f] := K2.wr W15 (Or.inl (by simp))
  have N15 := Fr.snoc X15 N0 pr11
  refine Go.st (mkF m 12 #[.val (.ref f), .val (.int (4 : Int32)), .val (.long (3 : Int64)), .second] []) (fun _ k => st15 _ k) ?_
  refine Go.st (mkF m 13 #[.val (.ref f), .val (.int (4 : Int32)), .val (.long (3 : Int64)), .second] [(.ref f)]) (fun _ k => XS.aloadN X15.here hx rfl (hb hby d1_12) rfl rfl k) ?_
  refine Go.st (mkF m 15 #[.val (.ref f), .val (.int (4 : Int32)), .val (.long (3 : Int64)), .second] [(.int (16 : Int32)), (.ref f)]) (fun _ k => XS.bipush X15.here hx rfl (hb hby d1_13) k) ?_
  obtain ⟨T28, h28, k28, X28, e28, E28, A28, st28⟩ := newP X15 hx hZ (hw _ (List.mem_of_getElem? (i := 13) rfl)) e15 (g := (mkF m 15 #[.val (.ref f), .val (.int (4 : Int32)), .val (.long (3 : Int64)), .second] [(.int (16 : Int32)), (.ref f)])) rfl (hb hby d1_15) rfl (by decide) (cap := 16) (by decide) (by decide) (by decide) (by decide)
  obtain ⟨b28, q28⟩ : ∃ z, z = h15.size := ⟨_, rfl⟩
  rw [← q28] at A28 st28
  have sz_b28 : h0.size ≤ b28 := by rw [q28]; exact K15.1
  have g_b28 : n0 ≤ b28 := Nat.le_trans Z0 sz_b28
  have ne_f_b28 : f ≠ b28 := Nat.ne_of_lt (by rw [q28]; exact E16q.lt)
  have ne_b2_b28 : b2 ≠ b28 := Nat.ne_of_lt (by rw [q28]; exact V27.lt)
  have E29q : Exa Z h28 f "com/example/nearpath/nearpath/answer/Frontier" := E16q.ext E28
  have F30 : Fld Z h28 f "com/example/nearpath/nearpath/answer/Frontier" "seen" "[I" .null := F17.ext E28
  have F31 : Fld Z h28 f "com/example/nearpath/nearpath/answer/Frontier" "maxCost" "J" (.long (0 : Int64)) := F18.ext E28
  have F32 : Fld Z h28 f "com/example/nearpath/nearpath/answer/Frontier" "search" "I" (.int (0 : Int32)) := F19.ext E28
  have F33 : Fld Z h28 f "com/example/nearpath/nearpath/answer/Frontier" "cost" "J" (.long (0 : Int64)) := F20.ext E28
  have F34 : Fld Z h28 f "com/example/nearpath/nearpath/answer/Frontier" "level" "[I" (.ref b2) := F21.ext E28
  have F35 : Fld Z h28 f "com/example/nearpath/nearpath/answer/Frontier" "levelHead" "I" (.int (0 : Int32)) := F22.ext E28
  have F36 : Fld Z h28 f "com/example/nearpath/nearpath/answer/Frontier" "levelTail" "I" (.int (0 : Int32)) := F23.ext E28
  have F37 : Fld Z h28 f "com/example/nearpath/nearpath/answer/Frontier" "heapCosts" "[J" .null := F24.ext E28
  have F38 : Fld Z h28 f "com/example/nearpath/nearpath/answer/Frontier" "heapItems" "[I" .null := F25.ext E28
  have F39 : Fld Z h28 f "com/example/nearpath/nearpath/answer/Frontier" "heapSize" "I" (.int (0 : Int32)) := F26.ext E28
  have V40 : Ary Z h28 b2 .int 16 (bts (fun _ => (0 : Int32))) := V27.ext E28
  have K28 : Keep h0 h28 [f] := K15.ext E28
  have V41 : Ary Z h28 b28 .long 16 (lts (fun _ => (0 : Int64))) := Ary.new A28 (by decide)
  refine Go.st (mkF m 17 #[.val (.ref f), .val (.int (4 : Int32)), .val (.long (3 : Int64)), .second] [(.ref b28), (.ref f)]) (fun _ k => st28 _ k) ?_
  obtain ⟨T42, h42, X42, e42, W42, st42⟩ := putF X28 hx hZ hown (host := "") (Or.inl (hw _ (List.mem_of_getElem? (i := 14) rfl))) Via.refl e28 F37 E29q (Or.inl (hw _ (List.mem_of_getElem? (i := 15) rfl))) (hw _ (List.mem_of_getElem? (i := 1) rfl)) (ty := (.array .long)) (by decide) rfl rfl (g := (mkF m 17 #[.val (.ref f), .val (.int (4 : Int32)), .val (.long (3 : Int64)), .second] [(.ref b28), (.ref f)])) rfl rfl (hb hby d1_17)
  have E43q : Exa Z h42 f "com/example/nearpath/nearpath/answer/Frontier" := E29q.wr W42
  have F44 : Fld Z h42 f "com/example/nearpath/nearpath/answer/Frontier" "seen" "[I" .null := F30.other W42 (Or.inr (slot_ne (Or.inr (hw _ (List.mem_of_getElem? (i := 19) rfl))) (Or.inl (hw _ (List.mem_of_getElem? (i := 15) rfl))) (by decide) (t := (.array .int)) (t' := (.array .long)) (by decide) (by decide)))
  have F45 : Fld Z h42 f "com/example/nearpath/nearpath/answer/Frontier" "maxCost" "J" (.long (0 : Int64)) := F31.other W42 (Or.inr (slot_ne (Or.inr (hw _ (List.mem_of_getElem? (i := 21) rfl))) (Or.inl (hw _ (List.mem_of_getElem? (i := 15) rfl))) (by decide) (t := .long) (t' := (.array .long)) (by decide) (by decide)))
  have F46 : Fld Z h42 f "com/example/nearpath/nearpath/answer/Frontier" "search" "I" (.int (0 : Int32)) := F32.other W42 (Or.inr (slot_ne (Or.inl (hw _ (List.mem_of_getElem? (i := 36) rfl))) (Or.inl (hw _ (List.mem_of_getElem? (i := 15) rfl))) (by decide) (t := .int) (t' := (.array .long)) (by decide) (by decide)))
  have F47 : Fld Z h42 f "com/example/nearpath/nearpath/answer/Frontier" "cost" "J" (.long (0 : Int64)) := F33.other W42 (Or.inr (slot_ne (Or.inl (hw _ (List.mem_of_getElem? (i := 34) rfl))) (Or.inl (hw _ (List.mem_of_getElem? (i := 15) rfl))) (by decide) (t := .long) (t' := (.array .long)) (by decide) (by decide)))
  have F48 : Fld Z h42 f "com/example/nearpath/nearpath/answer/Frontier" "level" "[I" (.ref b2) := F34.other W42 (Or.inr (slot_ne (Or.inl (hw _ (List.mem_of_getElem? (i := 12) rfl))) (Or.inl (hw _ (List.mem_of_getElem? (i := 15) rfl))) (by decide) (t := (.array .int)) (t' := (.array .long)) (by decide) (by decide)))
  have F49 : Fld Z h42 f "com/example/nearpath/nearpath/answer/Frontier" "levelHead" "I" (.int (0 : Int32)) := F35.other W42 (Or.inr (slot_ne (Or.inl (hw _ (List.mem_of_getElem? (i := 30) rfl))) (Or.inl (hw _ (List.mem_of_getElem? (i := 15) rfl))) (by decide) (t := .int) (t' := (.array .long)) (by decide) (by decide)))
  have F50 : Fld Z h42 f "com/example/nearpath/nearpath/answer/Frontier" "levelTail" "I" (.int (0 : Int32)) := F36.other W42 (Or.inr (slot_ne (Or.inl (hw _ (List.mem_of_getElem? (i := 32) rfl))) (Or.inl (hw _ (List.mem_of_getElem? (i := 15) rfl))) (by decide) (t := .int) (t' := (.array .long)) (by decide) (by decide)))
  have F51 : Fld Z h42 f "com/example/nearpath/nearpath/answer/Frontier" "heapCosts" "[J" (.ref b28) := F37.same W42
  have F52 : Fld Z h42 f "com/example/nearpath/nearpath/answer/Frontier" "heapItems" "[I" .null := F38.other W42 (Or.inr (slot_ne (Or.inl (hw _ (List.mem_of_getElem? (i := 17) rfl))) (Or.inl (hw _ (List.mem_of_getElem? (i := 15) rfl))) (by decide) (t := (.array .int)) (t' := (.array .long)) (by decide) (by decide)))
  have F53 : Fld Z h42 f "com/example/nearpath/nearpath/answer/Frontier" "heapSize" "I" (.int (0 : Int32)) := F39.other W42 (Or.inr (slot_ne (Or.inl (hw _ (List.mem_of_getElem? (i := 28) rfl))) (Or.inl (hw _ (List.mem_of_getElem? (i := 15) rfl))) (by decide) (t := .int) (t' := (.array .long)) (by decide) (by decide)))
  have V54 : Ary Z h42 b2 .int 16 (bts (fun _ => (0 : Int32))) := V40.other W42 (Ne.symm ne_f_b2)
  have V55 : Ary Z h42 b28 .long 16 (lts (fun _ => (0 : Int64))) := V41.other W42 (Ne.symm ne_f_b28)
  have K42 : Keep h0 h42 [f] := K28.wr W42 (Or.inl (by simp))
  have N42 := Fr.snoc X42 N15 pr11
  refine Go.st (mkF m 20 #[.val (.ref f), .val (.int (4 : Int32)), .val (.long (3 : Int64)), .second] []) (fun _ k => st42 _ k) ?_
  refine Go.st (mkF m 21 #[.val (.ref f), .val (.int (4 : Int32)), .val (.long (3 : Int64)), .second] [(.ref f)]) (fun _ k => XS.aloadN X42.here hx rfl (hb hby d1_20) rfl rfl k) ?_
  refine Go.st (mkF m 23 #[.val (.ref f), .val (.int (4 : Int32)), .val (.long (3 : Int64)), .second] [(.int (16 : Int32)), (.ref f)]) (fun _ k => XS.bipush X42.here hx rfl (hb hby d1_21) k) ?_
  obtain ⟨T56, h56, k56, X56, e56, E56, A56, st56⟩ := newP X42 hx hZ (hw _ (List.mem_of_getElem? (i := 10) rfl)) e42 (g := (mkF m 23 #[.val (.ref f), .val (.int (4 : Int32)), .val (.long (3 : Int64)), .second] [(.int (16 : Int32)), (.ref f)])) rfl (hb hby d1_23) rfl (by decide) (cap := 16) (by decide) (by decide) (by decide) (by decide)
  obtain ⟨b56, q56⟩ : ∃ z, z = h42.size := ⟨_, rfl⟩
  rw [← q56] at A56 st56
  have sz_b56 : h0.size ≤ b56 := by rw [q56]; exact K42.1
  have g_b56 : n0 ≤ b56 := Nat.le_trans Z0 sz_b56
  have ne_f_b56 : f ≠ b56 := Nat.ne_of_lt (by rw [q56]; exact E43q.lt)
  have ne_b2_b56 : b2 ≠ b56 := Nat.ne_of_lt (by rw [q56]; exact V54.lt)
  have ne_b28_b56 : b28 ≠ b56 := Nat.ne_of_lt (by rw [q56]; exact V55.lt)
  have E57q : Exa Z h56 f "com/example/nearpath/nearpath/answer/Frontier" := E43q.ext E56
  have F58 : Fld Z h56 f "com/example/nearpath/nearpath/answer/Frontier" "seen" "[I" .null := F44.ext E56
  have F59 : Fld Z h56 f "com/example/nearpath/nearpath/answer/Frontier" "maxCost" "J" (.long (0 : Int64)) := F45.ext E56
  have F60 : Fld Z h56 f "com/example/nearpath/nearpath/answer/Frontier" "search" "I" (.int (0 : Int32)) := F46.ext E56
  have F61 : Fld Z h56 f "com/example/nearpath/nearpath/answer/Frontier" "cost" "J" (.long (0 : Int64)) := F47.ext E56
  have F62 : Fld Z h56 f "com/example/nearpath/nearpath/answer/Frontier" "level" "[I" (.ref b2) := F48.ext E56
  have F63 : Fld Z h56 f "com/example/nearpath/nearpath/answer/Frontier" "levelHead" "I" (.int (0 : Int32)) := F49.ext E56
  have F64 : Fld Z h56 f "com/example/nearpath/nearpath/answer/Frontier" "levelTail" "I" (.int (0 : Int32)) := F50.ext E56
  have F65 : Fld Z h56 f "com/example/nearpath/nearpath/answer/Frontier" "heapCosts" "[J" (.ref b28) := F51.ext E56
  have F66 : Fld Z h56 f "com/example/nearpath/nearpath/answer/Frontier" "heapItems" "[I" .null := F52.ext E56
  have F67 : Fld Z h56 f "com/example/nearpath/nearpath/answer/Frontier" "heapSize" "I" (.int (0 : Int32)) := F53.ext E56
  have V68 : Ary Z h56 b2 .int 16 (bts (fun _ => (0 : Int32))) := V54.ext E56
  have V69 : Ary Z h56 b28 .long 16 (lts (fun _ => (0 : Int64))) := V55.ext E56
  have K56 : Keep h0 h56 [f] := K42.ext E56
  have V70 : Ary Z h56 b56 .int 16 (bts (fun _ => (0 : Int32))) := Ary.new A56 (by decide)
  refine Go.st (mkF m 25 #[.val (.ref f), .val (.int (4 : Int32)), .val (.long (3 : Int64)), .second] [(.ref b56), (.ref f)]) (fun _ k => st56 _ k) ?_
  obtain ⟨T71, h71, X71, e71, W71, st71⟩ := putF X56 hx hZ hown (host := "") (Or.inl (hw _ (List.mem_of_getElem? (i := 16) rfl))) Via.refl e56 F66 E57q (Or.inl (hw _ (List.mem_of_getElem? (i := 17) rfl))) (hw _ (List.mem_of_getElem? (i := 1) rfl)) (ty := (.array .int)) (by decide) rfl rfl (g := (mkF m 25 #[.val (.ref f), .val (.int (4 : Int32)), .val (.long (3 : Int64)), .second] [(.ref b56), (.ref f)])) rfl rfl (hb hby d1_25)
  have E72q : Exa Z h71 f "com/example/nearpath/nearpath/answer/Frontier" := E57q.wr W71
  have F73 : Fld Z h71 f "com/example/nearpath/nearpath/answer/Frontier" "seen" "[I" .null := F58.other W71 (Or.inr (slot_ne (Or.inr (hw _ (List.mem_of_getElem? (i := 19) rfl))) (Or.inl (hw _ (List.mem_of_getElem? (i := 17) rfl))) (by decide) (t := (.array .int)) (t' := (.array .int)) (by decide) (by decide)))
  have F74 : Fld Z h71 f "com/example/nearpath/nearpath/answer/Frontier" "maxCost" "J" (.long (0 : Int64)) := F59.other W71 (Or.inr (slot_ne (Or.inr (hw _ (List.mem_of_getElem? (i := 21) rfl))) (Or.inl (hw _ (List.mem_of_getElem? (i := 17) rfl))) (by decide) (t := .long) (t' := (.array .int)) (by decide) (by decide)))
  have F75 : Fld Z h71 f "com/example/nearpath/nearpath/answer/Frontier" "search" "I" (.int (0 : Int32)) := F60.other W71 (Or.inr (slot_ne (Or.inl (hw _ (List.mem_of_getElem? (i := 36) rfl))) (Or.inl (hw _ (List.mem_of_getElem? (i := 17) rfl))) (by decide) (t := .int) (t' := (.array .int)) (by decide) (by decide)))
  have F76 : Fld Z h71 f "com/example/nearpath/nearpath/answer/Frontier" "cost" "J" (.long (0 : Int64)) := F61.other W71 (Or.inr (slot_ne (Or.inl (hw _ (List.mem_of_getElem? (i := 34) rfl))) (Or.inl (hw _ (List.mem_of_getElem? (i := 17) rfl))) (by decide) (t := .long) (t' := (.array .int)) (by decide) (by decide)))
  have F77 : Fld Z h71 f "com/example/nearpath/nearpath/answer/Frontier" "level" "[I" (.ref b2) := F62.other W71 (Or.inr (slot_ne (Or.inl (hw _ (List.mem_of_getElem? (i := 12) rfl))) (Or.inl (hw _ (List.mem_of_getElem? (i := 17) rfl))) (by decide) (t := (.array .int)) (t' := (.array .int)) (by decide) (by decide)))
  have F78 : Fld Z h71 f "com/example/nearpath/nearpath/answer/Frontier" "levelHead" "I" (.int (0 : Int32)) := F63.other W71 (Or.inr (slot_ne (Or.inl (hw _ (List.mem_of_getElem? (i := 30) rfl))) (Or.inl (hw _ (List.mem_of_getElem? (i := 17) rfl))) (by decide) (t := .int) (t' := (.array .int)) (by decide) (by decide)))
  have F79 : Fld Z h71 f "com/example/nearpath/nearpath/answer/Frontier" "levelTail" "I" (.int (0 : Int32)) := F64.other W71 (Or.inr (slot_ne (Or.inl (hw _ (List.mem_of_getElem? (i := 32) rfl))) (Or.inl (hw _ (List.mem_of_getElem? (i := 17) rfl))) (by decide) (t := .int) (t' := (.array .int)) (by decide) (by decide)))
  have F80 : Fld Z h71 f "com/example/nearpath/nearpath/answer/Frontier" "heapCosts" "[J" (.ref b28) := F65.other W71 (Or.inr (slot_ne (Or.inl (hw _ (List.mem_of_getElem? (i := 15) rfl))) (Or.inl (hw _ (List.mem_of_getElem? (i := 17) rfl))) (by decide) (t := (.array .long)) (t' := (.array .int)) (by decide) (by decide)))
  have F81 : Fld Z h71 f "com/example/nearpath/nearpath/answer/Frontier" "heapItems" "[I" (.ref b56) := F66.same W71
  have F82 : Fld Z h71 f "com/example/nearpath/nearpath/answer/Frontier" "heapSize" "I" (.int (0 : Int32)) := F67.other W71 (Or.inr (slot_ne (Or.inl (hw _ (List.mem_of_getElem? (i := 28) rfl))) (Or.inl (hw _ (List.mem_of_getElem? (i := 17) rfl))) (by decide) (t := .int) (t' := (.array .int)) (by decide) (by decide)))
  have V83 : Ary Z h71 b2 .int 16 (bts (fun _ => (0 : Int32))) := V68.other W71 (Ne.symm ne_f_b2)
  have V84 : Ary Z h71 b28 .long 16 (lts (fun _ => (0 : Int64))) := V69.other W71 (Ne.symm ne_f_b28)
  have V85 : Ary Z h71 b56 .int 16 (bts (fun _ => (0 : Int32))) := V70.other W71 (Ne.symm ne_f_b56)
  have K71 : Keep h0 h71 [f] := K56.wr W71 (Or.inl (by simp))
  have N71 := Fr.snoc X71 N42 pr11
  refine Go.st (mkF m 28 #[.val (.ref f), .val (.int (4 : Int32)), .val (.long (3 : Int64)), .second] []) (fun _ k => st71 _ k) ?_
  refine Go.st (mkF m 29 #[.val (.ref f), .val (.int (4 : Int32)), .val (.long (3 : Int64)), .second] [(.ref f)]) (fun _ k => XS.aloadN X71.here hx rfl (hb hby d1_28) rfl rfl k) ?_
  refine Go.st (mkF m 30 #[.val (.ref f), .val (.int (4 : Int32)), .val (.long (3 : Int64)), .second] [(.int (4 : Int32)), (.ref f)]) (fun _ k => XS.iloadN X71.here hx rfl (hb hby d1_29) rfl k) ?_
  obtain ⟨T86, h86, k86, X86, e86, E86, A86, st86⟩ := newP X71 hx hZ (hw _ (List.mem_of_getElem? (i := 10) rfl)) e71 (g := (mkF m 30 #[.val (.ref f), .val (.int (4 : Int32)), .val (.long (3 : Int64)), .second] [(.int (4 : Int32)), (.ref f)])) rfl (hb hby d1_30) rfl (by decide) (cap := 4) (by decide) (by decide) (by decide) (by decide)
  obtain ⟨b86, q86⟩ : ∃ z, z = h71.size := ⟨_, rfl⟩
  rw [← q86] at A86 st86
  have sz_b86 : h0.size ≤ b86 := by rw [q86]; exact K71.1
  have g_b86 : n0 ≤ b86 := Nat.le_trans Z0 sz_b86
  have ne_f_b86 : f ≠ b86 := Nat.ne_of_lt (by rw [q86]; exact E72q.lt)
  have ne_b2_b86 : b2 ≠ b86 := Nat.ne_of_lt (by rw [q86]; exact V83.lt)
  have ne_b28_b86 : b28 ≠ b86 := Nat.ne_of_lt (by rw [q86]; exact V84.lt)
  have ne_b56_b86 : b56 ≠ b86 := Nat.ne_of_lt (by rw [q86]; exact V85.lt)
  have E87q : Exa Z h86 f "com/example/nearpath/nearpath/answer/Frontier" := E72q.ext E86
  have F88 : Fld Z h86 f "com/example/nearpath/nearpath/answer/Frontier" "seen" "[I" .null := F73.ext E86
  have F89 : Fld Z h86 f "com/example/nearpath/nearpath/answer/Frontier" "maxCost" "J" (.long (0 : Int64)) := F74.ext E86
  have F90 : Fld Z h86 f "com/example/nearpath/nearpath/answer/Frontier" "search" "I" (.int (0 : Int32)) := F75.ext E86
  have F91 : Fld Z h86 f "com/example/nearpath/nearpath/answer/Frontier" "cost" "J" (.long (0 : Int64)) := F76.ext E86
  have F92 : Fld Z h86 f "com/example/nearpath/nearpath/answer/Frontier" "level" "[I" (.ref b2) := F77.ext E86
  have F93 : Fld Z h86 f "com/example/nearpath/nearpath/answer/Frontier" "levelHead" "I" (.int (0 : Int32)) := F78.ext E86
  have F94 : Fld Z h86 f "com/example/nearpath/nearpath/answer/Frontier" "levelTail" "I" (.int (0 : Int32)) := F79.ext E86
  have F95 : Fld Z h86 f "com/example/nearpath/nearpath/answer/Frontier" "heapCosts" "[J" (.ref b28) := F80.ext E86
  have F96 : Fld Z h86 f "com/example/nearpath/nearpath/answer/Frontier" "heapItems" "[I" (.ref b56) := F81.ext E86
  have F97 : Fld Z h86 f "com/example/nearpath/nearpath/answer/Frontier" "heapSize" "I" (.int (0 : Int32)) := F82.ext E86
  have V98 : Ary Z h86 b2 .int 16 (bts (fun _ => (0 : Int32))) := V83.ext E86
  have V99 : Ary Z h86 b28 .long 16 (lts (fun _ => (0 : Int64))) := V84.ext E86
  have V100 : Ary Z h86 b56 .int 16 (bts (fun _ => (0 : Int32))) := V85.ext E86
  have K86 : Keep h0 h86 [f] := K71.ext E86
  have V101 : Ary Z h86 b86 .int 4 (bts (fun _ => (0 : Int32))) := Ary.new A86 (by decide)
  refine Go.st (mkF m 32 #[.val (.ref f), .val (.int (4 : Int32)), .val (.long (3 : Int64)), .second] [(.ref b86), (.ref f)]) (fun _ k => st86 _ k) ?_
  obtain ⟨T102, h102, X102, e102, W102, st102⟩ := putF X86 hx hZ hown (host := "") (Or.inl (hw _ (List.mem_of_getElem? (i := 18) rfl))) Via.refl e86 F88 E87q (Or.inr ⟨(hw _ (List.mem_of_getElem? (i := 19) rfl)), rfl, hnm⟩) (hw _ (List.mem_of_getElem? (i := 1) rfl)) (ty := (.array .int)) (by decide) rfl rfl (g := (mkF m 32 #[.val (.ref f), .val (.int (4 : Int32)), .val (.long (3 : Int64)), .second] [(.ref b86), (.ref f)])) rfl rfl (hb hby d1_32)
  have E103q : Exa Z h102 f "com/example/nearpath/nearpath/answer/Frontier" := E87q.wr W102
  have F104 : Fld Z h102 f "com/example/nearpath/nearpath/answer/Frontier" "seen" "[I" (.ref b86) := F88.same W102
  have F105 : Fld Z h102 f "com/example/nearpath/nearpath/answer/Frontier" "maxCost" "J" (.long (0 : Int64)) := F89.other W102 (Or.inr (slot_ne (Or.inr (hw _ (List.mem_of_getElem? (i := 21) rfl))) (Or.inr (hw _ (List.mem_of_getElem? (i := 19) rfl))) (by decide) (t := .long) (t' := (.array .int)) (by decide) (by decide)))
  have F106 : Fld Z h102 f "com/example/nearpath/nearpath/answer/Frontier" "search" "I" (.int (0 : Int32)) := F90.other W102 (Or.inr (slot_ne (Or.inl (hw _ (List.mem_of_getElem? (i := 36) rfl))) (Or.inr (hw _ (List.mem_of_getElem? (i := 19) rfl))) (by decide) (t := .int) (t' := (.array .int)) (by decide) (by decide)))
  have F107 : Fld Z h102 f "com/example/nearpath/nearpath/answer/Frontier" "cost" "J" (.long (0 : Int64)) := F91.other W102 (Or.inr (slot_ne (Or.inl (hw _ (List.mem_of_getElem? (i := 34) rfl))) (Or.inr (hw _ (List.mem_of_getElem? (i := 19) rfl))) (by decide) (t := .long) (t' := (.array .int)) (by decide) (by decide)))
  have F108 : Fld Z h102 f "com/example/nearpath/nearpath/answer/Frontier" "level" "[I" (.ref b2) := F92.other W102 (Or.inr (slot_ne (Or.inl (hw _ (List.mem_of_getElem? (i := 12) rfl))) (Or.inr (hw _ (List.mem_of_getElem? (i := 19) rfl))) (by decide) (t := (.array .int)) (t' := (.array .int)) (by decide) (by decide)))
  have F109 : Fld Z h102 f "com/example/nearpath/nearpath/answer/Frontier" "levelHead" "I" (.int (0 : Int32)) := F93.other W102 (Or.inr (slot_ne (Or.inl (hw _ (List.mem_of_getElem? (i := 30) rfl))) (Or.inr (hw _ (List.mem_of_getElem? (i := 19) rfl))) (by decide) (t := .int) (t' := (.array .int)) (by decide) (by decide)))
  have F110 : Fld Z h102 f "com/example/nearpath/nearpath/answer/Frontier" "levelTail" "I" (.int (0 : Int32)) := F94.other W102 (Or.inr (slot_ne (Or.inl (hw _ (List.mem_of_getElem? (i := 32) rfl))) (Or.inr (hw _ (List.mem_of_getElem? (i := 19) rfl))) (by decide) (t := .int) (t' := (.array .int)) (by decide) (by decide)))
  have F111 : Fld Z h102 f "com/example/nearpath/nearpath/answer/Frontier" "heapCosts" "[J" (.ref b28) := F95.other W102 (Or.inr (slot_ne (Or.inl (hw _ (List.mem_of_getElem? (i := 15) rfl))) (Or.inr (hw _ (List.mem_of_getElem? (i := 19) rfl))) (by decide) (t := (.array .long)) (t' := (.array .int)) (by decide) (by decide)))
  have F112 : Fld Z h102 f "com/example/nearpath/nearpath/answer/Frontier" "heapItems" "[I" (.ref b56) := F96.other W102 (Or.inr (slot_ne (Or.inl (hw _ (List.mem_of_getElem? (i := 17) rfl))) (Or.inr (hw _ (List.mem_of_getElem? (i := 19) rfl))) (by decide) (t := (.array .int)) (t' := (.array .int)) (by decide) (by decide)))
  have F113 : Fld Z h102 f "com/example/nearpath/nearpath/answer/Frontier" "heapSize" "I" (.int (0 : Int32)) := F97.other W102 (Or.inr (slot_ne (Or.inl (hw _ (List.mem_of_getElem? (i := 28) rfl))) (Or.inr (hw _ (List.mem_of_getElem? (i := 19) rfl))) (by decide) (t := .int) (t' := (.array .int)) (by decide) (by decide)))
  have V114 : Ary Z h102 b2 .int 16 (bts (fun _ => (0 : Int32))) := V98.other W102 (Ne.symm ne_f_b2)
  have V115 : Ary Z h102 b28 .long 16 (lts (fun _ => (0 : Int64))) := V99.other W102 (Ne.symm ne_f_b28)
  have V116 : Ary Z h102 b56 .int 16 (bts (fun _ => (0 : Int32))) := V100.other W102 (Ne.symm ne_f_b56)
  have V117 : Ary Z h102 b86 .int 4 (bts (fun _ => (0 : Int32))) := V101.other W102 (Ne.symm ne_f_b86)
  have K102 : Keep h0 h102 [f] := K86.wr W102 (Or.inl (by simp))
  have N102 := Fr.snoc X102 N71 pr11
  refine Go.st (mkF m 35 #[.val (.ref f), .val (.int (4 : Int32)), .val (.long (3 : Int64)), .second] []) (fun _ k => st102 _ k) ?_
  refine Go.st (mkF m 36 #[.val (.ref f), .val (.int (4 : Int32)), .val (.long (3 : Int64)), .second] [(.ref f)]) (fun _ k => XS.aloadN X102.here hx rfl (hb hby d1_35) rfl rfl k) ?_
  refine Go.st (mkF m 37 #[.val (.ref f), .val (.int (4 : Int32)), .val (.long (3 : Int64)), .second] [(.long (3 : Int64)), (.ref f)]) (fun _ k => XT.lloadN X102.here hx rfl (hb hby d1_36) rfl k) ?_
  obtain ⟨T118, h118, X118, e118, W118, st118⟩ := putF X102 hx hZ hown (host := "") (Or.inl (hw _ (List.mem_of_getElem? (i := 20) rfl))) Via.refl e102 F105 E103q (Or.inr ⟨(hw _ (List.mem_of_getElem? (i := 21) rfl)), rfl, hnm⟩) (hw _ (List.mem_of_getElem? (i := 1) rfl)) (ty := .long) (by decide) rfl rfl (g := (mkF m 37 #[.val (.ref f), .val (.int (4 : Int32)), .val (.long (3 : Int64)), .second] [(.long (3 : Int64)), (.ref f)])) rfl rfl (hb hby d1_37)
  have E119q : Exa Z h118 f "com/example/nearpath/nearpath/answer/Frontier" := E103q.wr W118
  have F120 : Fld Z h118 f "com/example/nearpath/nearpath/answer/Frontier" "seen" "[I" (.ref b86) := F104.other W118 (Or.inr (slot_ne (Or.inr (hw _ (List.mem_of_getElem? (i := 19) rfl))) (Or.inr (hw _ (List.mem_of_getElem? (i := 21) rfl))) (by decide) (t := (.array .int)) (t' := .long) (by decide) (by decide)))
  have F121 : Fld Z h118 f "com/example/nearpath/nearpath/answer/Frontier" "maxCost" "J" (.long (3 : Int64)) := F105.same W118
  have F122 : Fld Z h118 f "com/example/nearpath/nearpath/answer/Frontier" "search" "I" (.int (0 : Int32)) := F106.other W118 (Or.inr (slot_ne (Or.inl (hw _ (List.mem_of_getElem? (i := 36) rfl))) (Or.inr (hw _ (List.mem_of_getElem? (i := 21) rfl))) (by decide) (t := .int) (t' := .long) (by decide) (by decide)))
  have F123 : Fld Z h118 f "com/example/nearpath/nearpath/answer/Frontier" "cost" "J" (.long (0 : Int64)) := F107.other W118 (Or.inr (slot_ne (Or.inl (hw _ (List.mem_of_getElem? (i := 34) rfl))) (Or.inr (hw _ (List.mem_of_getElem? (i := 21) rfl))) (by decide) (t := .long) (t' := .long) (by decide) (by decide)))
  have F124 : Fld Z h118 f "com/example/nearpath/nearpath/answer/Frontier" "level" "[I" (.ref b2) := F108.other W118 (Or.inr (slot_ne (Or.inl (hw _ (List.mem_of_getElem? (i := 12) rfl))) (Or.inr (hw _ (List.mem_of_getElem? (i := 21) rfl))) (by decide) (t := (.array .int)) (t' := .long) (by decide) (by decide)))
  have F125 : Fld Z h118 f "com/example/nearpath/nearpath/answer/Frontier" "levelHead" "I" (.int (0 : Int32)) := F109.other W118 (Or.inr (slot_ne (Or.inl (hw _ (List.mem_of_getElem? (i := 30) rfl))) (Or.inr (hw _ (List.mem_of_getElem? (i := 21) rfl))) (by decide) (t := .int) (t' := .long) (by decide) (by decide)))
  have F126 : Fld Z h118 f "com/example/nearpath/nearpath/answer/Frontier" "levelTail" "I" (.int (0 : Int32)) := F110.other W118 (Or.inr (slot_ne (Or.inl (hw _ (List.mem_of_getElem? (i := 32) rfl))) (Or.inr (hw _ (List.mem_of_getElem? (i := 21) rfl))) (by decide) (t := .int) (t' := .long) (by decide) (by decide)))
  have F127 : Fld Z h118 f "com/example/nearpath/nearpath/answer/Frontier" "heapCosts" "[J" (.ref b28) := F111.other W118 (Or.inr (slot_ne (Or.inl (hw _ (List.mem_of_getElem? (i := 15) rfl))) (Or.inr (hw _ (List.mem_of_getElem? (i := 21) rfl))) (by decide) (t := (.array .long)) (t' := .long) (by decide) (by decide)))
  have F128 : Fld Z h118 f "com/example/nearpath/nearpath/answer/Frontier" "heapItems" "[I" (.ref b56) := F112.other W118 (Or.inr (slot_ne (Or.inl (hw _ (List.mem_of_getElem? (i := 17) rfl))) (Or.inr (hw _ (List.mem_of_getElem? (i := 21) rfl))) (by decide) (t := (.array .int)) (t' := .long) (by decide) (by decide)))
  have F129 : Fld Z h118 f "com/example/nearpath/nearpath/answer/Frontier" "heapSize" "I" (.int (0 : Int32)) := F113.other W118 (Or.inr (slot_ne (Or.inl (hw _ (List.mem_of_getElem? (i := 28) rfl))) (Or.inr (hw _ (List.mem_of_getElem? (i := 21) rfl))) (by decide) (t := .int) (t' := .long) (by decide) (by decide)))
  have V130 : Ary Z h118 b2 .int 16 (bts (fun _ => (0 : Int32))) := V114.other W118 (Ne.symm ne_f_b2)
  have V131 : Ary Z h118 b28 .long 16 (lts (fun _ => (0 : Int64))) := V115.other W118 (Ne.symm ne_f_b28)
  have V132 : Ary Z h118 b56 .int 16 (bts (fun _ => (0 : Int32))) := V116.other W118 (Ne.symm ne_f_b56)
  have V133 : Ary Z h118 b86 .int 4 (bts (fun _ => (0 : Int32))) := V117.other W118 (Ne.symm ne_f_b86)
  have K118 : Keep h0 h118 [f] := K102.wr W118 (Or.inl (by simp))
  have N118 := Fr.snoc X118 N102 pr11
  refine Go.st (mkF m 40 #[.val (.ref f), .val (.int (4 : Int32)), .val (.long (3 : Int64)), .second] []) (fun _ k => st118 _ k) ?_
  exact Go.retV X118 hx Bd.notSynchronized Bd.returns (hb hby d1_40) (by rw [e118]; exact ⟨b2, b28, b56, b86, rfl, N118, K118, F120, F121, F122, F123, F124, F125, F126, F127, F128, F129, V130, V131, V132, V133, sz_b2, sz_b28, sz_b56, sz_b86, ne_b2_b28, ne_b2_b56, ne_b2_b86, ne_b28_b56, ne_b28_b86, ne_b56_b86⟩) (by decide) (by decide)
theorem dpl0_0 : decode prog_12_method_8_code 0 = .ok (.aload_n 0, 1) := by decide +kernel
theorem dpl0_1 : decode prog_12_method_8_code 1 = .ok (.getfield 17, 3) := by decide +kernel
theorem dpl0_4 : decode prog_12_method_8_code 4 = .ok (.iload 4, 2) := by decide +kernel
theorem dpl0_6 : decode prog_12_method_8_code 6 = .ok (.iload_n 1, 1) := by decide +kernel
theorem dpl0_7 : decode prog_12_method_8_code 7 = .ok (.iastore, 1) := by decide +kernel
theorem dpl0_8 : decode prog_12_method_8_code 8 = .ok (.aload_n 0, 1) := by decide +kernel
theorem dpl0_9 : decode prog_12_method_8_code 9 = .ok (.getfield 13, 3) := by decide +kernel
theorem dpl0_12 : decode prog_12_method_8_code 12 = .ok (.iload 4, 2) := by decide +kernel
theorem dpl0_14 : decode prog_12_method_8_code 14 = .ok (.lload_n 2, 1) := by decide +kernel
theorem dpl0_15 : decode prog_12_method_8_code 15 = .ok (.lastore, 1) := by decide +kernel
theorem dpl0_16 : decode prog_12_method_8_code 16 = .ok (.aload_n 0, 1) := by decide +kernel
theorem dpl0_17 : decode prog_12_method_8_code 17 = .ok (.getfield 20, 3) := by decide +kernel
theorem dpl0_20 : decode prog_12_method_8_code 20 = .ok (.iload_n 1, 1) := by decide +kernel
theorem dpl0_21 : decode prog_12_method_8_code 21 = .ok (.iload 4, 2) := by decide +kernel
theorem dpl0_23 : decode prog_12_method_8_code 23 = .ok (.iconst (-1), 1) := by decide +kernel
theorem dpl0_24 : decode prog_12_method_8_code 24 = .ok (.ixor, 1) := by decide +kernel
theorem dpl0_25 : decode prog_12_method_8_code 25 = .ok (.iastore, 1) := by decide +kernel
theorem dpl0_26 : decode prog_12_method_8_code 26 = .ok (.return_, 1) := by decide +kernel
theorem ef_pl0 (m : MethodId) (f : Addr) (it : Int32) (ct : Int64) : entryFrame m #[(.ref f), (.int it), (.long ct), (.int (0 : Int32))] 5 = (mkF m 0 #[.val (.ref f), .val (.int it), .val (.long ct), .second, .val (.int (0 : Int32))] []) := by first | (simp [entryFrame, mkF, argsToLocals, Value.category]; done) | rfl
def Q_pl0 (Z : State) (f : Addr) (it : Int32) (ct : Int64) (hc : Addr) (hi : Addr) (sn : Addr) (gc : Nat → Int64) (gi : Nat → Int32) (gs : Nat → Int32) (h0 : Heap) (n0 : Nat) (vv : Option Value) (hE : Heap) (LE : List Loc) : Prop := vv = none ∧ Fr n0 LE ∧ Keep h0 hE [hc, hi, sn] ∧ Ary Z hE hc .long 16 (lts (updJ gc 0 ct)) ∧ Ary Z hE hi .int 16 (bts (updI gi 0 it)) ∧ Ary Z hE sn .int 4 (bts (updI gs (it.toNatClampNeg) (-1 : Int32)))
set_option maxRecDepth 65536 in
set_option maxHeartbeats 40000000 in
theorem rm_pl0 (l : Launch) (Z : State) (a0 : Array Value) (hw : ∀ d ∈ tables_1, d.before a0 Z = true) (ws : List Jvm.Cond) (f : Addr) (it : Int32) (ct : Int64) (hc : Addr) (hi : Addr) (sn : Addr) (gc : Nat → Int64) (gi : Nat → Int32) (gs : Nat → Int32) (h0 : Heap) (n0 : Nat) (Z0 : n0 ≤ h0.size) (pr0 : Fld Z h0 f "com/example/nearpath/nearpath/answer/Frontier" "seen" "[I" (.ref sn)) (pr1 : Fld Z h0 f "com/example/nearpath/nearpath/answer/Frontier" "heapCosts" "[J" (.ref hc)) (pr2 : Fld Z h0 f "com/example/nearpath/nearpath/answer/Frontier" "heapItems" "[I" (.ref hi)) (pr3 : Ary Z h0 hc .long 16 (lts gc)) (pr4 : Ary Z h0 hi .int 16 (bts gi)) (pr5 : Ary Z h0 sn .int 4 (bts gs)) (pr6 : In4 it) (pr7 : n0 ≤ hc) (pr8 : n0 ≤ hi) (pr9 : n0 ≤ sn) (pr10 : f ≠ hc) (pr11 : f ≠ hi) (pr12 : f ≠ sn) (pr13 : hc ≠ hi) (pr14 : hc ≠ sn) (pr15 : hi ≠ sn) :
    MetFree l (⟨"com/example/nearpath/nearpath/answer/Frontier", "place", "(IJI)V"⟩ : MethodName) (head1 (Jvm.Cond.code (⟨"com/example/nearpath/nearpath/answer/Frontier", "place", "(IJI)V"⟩ : MethodName) prog_12_method_8_code 5 none :: ws) ({ frames := 0, cells := 0, slots := 0, locals := 0 } : Room)) (fun aa UU => aa = #[(.ref f), (.int it), (.long ct), (.int (0 : Int32))] ∧ Z.Warmed39 UU.vm ∧ UU.heap = h0) (fun _ _ _ _ _ => True) (fun _ UU oo UU' => ∃ vv LL, oo = .returned vv ∧ Q_pl0 Z f it ct hc hi sn gc gi gs h0 n0 vv UU'.heap LL ∧ FrameEnd UU oo UU' LL ({ frames := 0, cells := 0, slots := 0, locals := 0 } : Room).cells ({ frames := 0, cells := 0, slots := 0, locals := 0 } : Room).slots) := by
  refine MetFree.of_bodySF (plainFor_of_name pn_0) hisR ?_
  intro p e s m args below meth c s₁ Bd hml0 hP hK
  obtain ⟨rfl, hZ, hh⟩ := hP
  have hx := Bd.exec
  have hby := Bd.bytes
  have hml : c.maxLocals = 5 := hml0
  have hown : s.vm.findClass "com/example/nearpath/nearpath/answer/Frontier" = some m.cls := findClass_of_methodNamed Bd.named
  have hnm := (name_of_methodNamed Bd.named Bd.method).1
  have X0 : Stand p l e ({ frames := 0, cells := 0, slots := 0, locals := 0 } : Room) s m #[(.ref f), (.int it), (.long ct), (.int (0 : Int32))] below meth c s₁ [] 0 0 := Stand.of_body Bd
  have e0 : s₁.heap = h0 := by rw [← hh, Bd.state]; rfl
  have N0 := Fr.nil n0
  have K0 := Keep.refl h0 [hc, hi, sn]
  show Go p e below s (Q_pl0 Z f it ct hc hi sn gc gi gs h0 n0) 0 0 s₁ (entryFrame m #[(.ref f), (.int it), (.long ct), (.int (0 : Int32))] 5)
  refine Go.of_eq (ef_pl0 m f it ct) ?_
  refine Go.st (mkF m 1 #[.val (.ref f), .val (.int it), .val (.long ct), .second, .val (.int (0 : Int32))] [(.ref f)]) (fun _ k => XS.aloadN X0.here hx rfl (hb hby dpl0_0) rfl rfl k) ?_
  obtain ⟨T1, X1, e1, st1⟩ := getF X0 hx hZ hown (host := "") (Or.inl (hw _ (List.mem_of_getElem? (i := 16) rfl))) Via.refl e0 pr2 (g := (mkF m 1 #[.val (.ref f), .val (.int it), .val (.long ct), .second, .val (.int (0 : Int32))] [(.ref f)])) rfl rfl (hb hby dpl0_1)
  refine Go.st (mkF m 4 #[.val (.ref f), .val (.int it), .val (.long ct), .second, .val (.int (0 : Int32))] [(.ref hi)]) (fun _ k => st1 _ k) ?_
  refine Go.st (mkF m 6 #[.val (.ref f), .val (.int it), .val (.long ct), .second, .val (.int (0 : Int32))] [(.int (0 : Int32)), (.ref hi)]) (fun _ k => XS.iload X1.here hx rfl (hb hby dpl0_4) rfl k) ?_
  refine Go.st (mkF m 7 #[.val (.ref f), .val (.int it), .val (.long ct), .second, .val (.int (0 : Int32))] [(.int it), (.int (0 : Int32)), (.ref hi)]) (fun _ k => XS.iloadN X1.here hx rfl (hb hby dpl0_6) rfl k) ?_
  obtain ⟨T2, h2, X2, e2, W2, st2⟩ := stAI X1 hx hZ e1 pr4 (i := 0) (by decide) (by decide) (by decide) (g := (mkF m 7 #[.val (.ref f), .val (.int it), .val (.long ct), .second, .val (.int (0 : Int32))] [(.int it), (.int (0 : Int32)), (.ref hi)])) rfl rfl (hb hby dpl0_7)
  have F3 : Fld Z h2 f "com/example/nearpath/nearpath/answer/Frontier" "seen" "[I" (.ref sn) := pr0.other W2 (Or.inl pr11)
  have F4 : Fld Z h2 f "com/example/nearpath/nearpath/answer/Frontier" "heapCosts" "[J" (.ref hc) := pr1.other W2 (Or.inl pr11)
  have F5 : Fld Z h2 f "com/example/nearpath/nearpath/answer/Frontier" "heapItems" "[I" (.ref hi) := pr2.other W2 (Or.inl pr11)
  have V6 : Ary Z h2 hc .long 16 (lts gc) := pr3.other W2 pr13
  have V7 : Ary Z h2 hi .int 16 (bts (updI gi 0 it)) := pr4.sameB W2
  have V8 : Ary Z h2 sn .int 4 (bts gs) := pr5.other W2 (Ne.symm pr15)
  have K2 : Keep h0 h2 [hc, hi, sn] := K0.wr W2 (Or.inl (by simp))
  have N2 := Fr.snoc X2 N0 pr8
  refine Go.st (mkF m 8 #[.val (.ref f), .val (.int it), .val (.long ct), .second, .val (.int (0 : Int32))] []) (fun _ k => st2 _ k) ?_
  refine Go.st (mkF m 9 #[.val (.ref f), .val (.int it), .val (.long ct), .second, .val (.int (0 : Int32))] [(.ref f)]) (fun _ k => XS.aloadN X2.here hx rfl (hb hby dpl0_8) rfl rfl k) ?_
  obtain ⟨T9, X9, e9, st9⟩ := getF X2 hx hZ hown (host := "") (Or.inl (hw _ (List.mem_of_getElem? (i := 14) rfl))) Via.refl e2 F4 (g := (mkF m 9 #[.val (.ref f), .val (.int it), .val (.long ct), .second, .val (.int (0 : Int32))] [(.ref f)])) rfl rfl (hb hby dpl0_9)
  refine Go.st (mkF m 12 #[.val (.ref f), .val (.int it), .val (.long ct), .second, .val (.int (0 : Int32))] [(.ref hc)]) (fun _ k => st9 _ k) ?_
  refine Go.st (mkF m 14 #[.val (.ref f), .val (.int it), .val (.long ct), .second, .val (.int (0 : Int32))] [(.int (0 : Int32)), (.ref hc)]) (fun _ k => XS.iload X9.here hx rfl (hb hby dpl0_12) rfl k) ?_
  refine Go.st (mkF m 15 #[.val (.ref f), .val (.int it), .val (.long ct), .second, .val (.int (0 : Int32))] [(.long ct), (.int (0 : Int32)), (.ref hc)]) (fun _ k => XT.lloadN X9.here hx rfl (hb hby dpl0_14) rfl k) ?_
  obtain ⟨T10, h10, X10, e10, W10, st10⟩ := stAJ X9 hx hZ e9 V6 (i := 0) (by decide) (by decide) (by decide) (g := (mkF m 15 #[.val (.ref f), .val (.int it), .val (.long ct), .second, .val (.int (0 : Int32))] [(.long ct), (.int (0 : Int32)), (.ref hc)])) rfl rfl (hb hby dpl0_15)
  have F11 : Fld Z h10 f "com/example/nearpath/nearpath/answer/Frontier" "seen" "[I" (.ref sn) := F3.other W10 (Or.inl pr10)
  have F12 : Fld Z h10 f "com/example/nearpath/nearpath/answer/Frontier" "heapCosts" "[J" (.ref hc) := F4.other W10 (Or.inl pr10)
  have F13 : Fld Z h10 f "com/example/nearpath/nearpath/answer/Frontier" "heapItems" "[I" (.ref hi) := F5.other W10 (Or.inl pr10)
  have V14 : Ary Z h10 hc .long 16 (lts (updJ gc 0 ct)) := V6.sameJ W10
  have V15 : Ary Z h10 hi .int 16 (bts (updI gi 0 it)) := V7.other W10 (Ne.symm pr13)
  have V16 : Ary Z h10 sn .int 4 (bts gs) := V8.other W10 (Ne.symm pr14)
  have K10 : Keep h0 h10 [hc, hi, sn] := K2.wr W10 (Or.inl (by simp))
  have N10 := Fr.snoc X10 N2 pr7
  refine Go.st (mkF m 16 #[.val (.ref f), .val (.int it), .val (.long ct), .second, .val (.int (0 : Int32))] []) (fun _ k => st10 _ k) ?_
  refine Go.st (mkF m 17 #[.val (.ref f), .val (.int it), .val (.long ct), .second, .val (.int (0 : Int32))] [(.ref f)]) (fun _ k => XS.aloadN X10.here hx rfl (hb hby dpl0_16) rfl rfl k) ?_
  obtain ⟨T17, X17, e17, st17⟩ := getF X10 hx hZ hown (host := "") (Or.inl (hw _ (List.mem_of_getElem? (i := 18) rfl))) Via.refl e10 F11 (g := (mkF m 17 #[.val (.ref f), .val (.int it), .val (.long ct), .second, .val (.int (0 : Int32))] [(.ref f)])) rfl rfl (hb hby dpl0_17)
  refine Go.st (mkF m 20 #[.val (.ref f), .val (.int it), .val (.long ct), .second, .val (.int (0 : Int32))] [(.ref sn)]) (fun _ k => st17 _ k) ?_
  refine Go.st (mkF m 21 #[.val (.ref f), .val (.int it), .val (.long ct), .second, .val (.int (0 : Int32))] [(.int it), (.ref sn)]) (fun _ k => XS.iloadN X17.here hx rfl (hb hby dpl0_20) rfl k) ?_
  refine Go.st (mkF m 23 #[.val (.ref f), .val (.int it), .val (.long ct), .second, .val (.int (0 : Int32))] [(.int (0 : Int32)), (.int it), (.ref sn)]) (fun _ k => XS.iload X17.here hx rfl (hb hby dpl0_21) rfl k) ?_
  refine Go.st (mkF m 24 #[.val (.ref f), .val (.int it), .val (.long ct), .second, .val (.int (0 : Int32))] [(.int (-1 : Int32)), (.int (0 : Int32)), (.int it), (.ref sn)]) (fun _ k => XS.iconst X17.here hx rfl (hb hby dpl0_23) k) ?_
  refine Go.st (mkF m 25 #[.val (.ref f), .val (.int it), .val (.long ct), .second, .val (.int (0 : Int32))] [(.int (-1 : Int32)), (.int it), (.ref sn)]) (fun _ k => XT.ixor X17.here hx rfl (hb hby dpl0_24) rfl k) ?_
  obtain ⟨T18, h18, X18, e18, W18, st18⟩ := stAI X17 hx hZ e17 V16 (i := it.toNatClampNeg) (own_in4 pr6).1 rfl (own_in4 pr6).2 (g := (mkF m 25 #[.val (.ref f), .val (.int it), .val (.long ct), .second, .val (.int (0 : Int32))] [(.int (-1 : Int32)), (.int it), (.ref sn)])) rfl rfl (hb hby dpl0_25)
  have F19 : Fld Z h18 f "com/example/nearpath/nearpath/answer/Frontier" "seen" "[I" (.ref sn) := F11.other W18 (Or.inl pr12)
  have F20 : Fld Z h18 f "com/example/nearpath/nearpath/answer/Frontier" "heapCosts" "[J" (.ref hc) := F12.other W18 (Or.inl pr12)
  have F21 : Fld Z h18 f "com/example/nearpath/nearpath/answer/Frontier" "heapItems" "[I" (.ref hi) := F13.other W18 (Or.inl pr12)
  have V22 : Ary Z h18 hc .long 16 (lts (updJ gc 0 ct)) := V14.other W18 pr14
  have V23 : Ary Z h18 hi .int 16 (bts (updI gi 0 it)) := V15.other W18 pr15
  have V24 : Ary Z h18 sn .int 4 (bts (updI gs (it.toNatClampNeg) (-1 : Int32))) := V16.sameB W18
  have K18 : Keep h0 h18 [hc, hi, sn] := K10.wr W18 (Or.inl (by simp))
  have N18 := Fr.snoc X18 N10 pr9
  refine Go.st (mkF m 26 #[.val (.ref f), .val (.int it), .val (.long ct), .second, .val (.int (0 : Int32))] []) (fun _ k => st18 _ k) ?_
  exact Go.retV X18 hx Bd.notSynchronized Bd.returns (hb hby dpl0_26) (by rw [e18]; exact ⟨rfl, N18, K18, V22, V23, V24⟩) (by decide) (by decide)
theorem dpl1_0 : decode prog_12_method_8_code 0 = .ok (.aload_n 0, 1) := by decide +kernel
theorem dpl1_1 : decode prog_12_method_8_code 1 = .ok (.getfield 17, 3) := by decide +kernel
theorem dpl1_4 : decode prog_12_method_8_code 4 = .ok (.iload 4, 2) := by decide +kernel
theorem dpl1_6 : decode prog_12_method_8_code 6 = .ok (.iload_n 1, 1) := by decide +kernel
theorem dpl1_7 : decode prog_12_method_8_code 7 = .ok (.iastore, 1) := by decide +kernel
theorem dpl1_8 : decode prog_12_method_8_code 8 = .ok (.aload_n 0, 1) := by decide +kernel
theorem dpl1_9 : decode prog_12_method_8_code 9 = .ok (.getfield 13, 3) := by decide +kernel
theorem dpl1_12 : decode prog_12_method_8_code 12 = .ok (.iload 4, 2) := by decide +kernel
theorem dpl1_14 : decode prog_12_method_8_code 14 = .ok (.lload_n 2, 1) := by decide +kernel
theorem dpl1_15 : decode prog_12_method_8_code 15 = .ok (.lastore, 1) := by decide +kernel
theorem dpl1_16 : decode prog_12_method_8_code 16 = .ok (.aload_n 0, 1) := by decide +kernel
theorem dpl1_17 : decode prog_12_method_8_code 17 = .ok (.getfield 20, 3) := by decide +kernel
theorem dpl1_20 : decode prog_12_method_8_code 20 = .ok (.iload_n 1, 1) := by decide +kernel
theorem dpl1_21 : decode prog_12_method_8_code 21 = .ok (.iload 4, 2) := by decide +kernel
theorem dpl1_23 : decode prog_12_method_8_code 23 = .ok (.iconst (-1), 1) := by decide +kernel
theorem dpl1_24 : decode prog_12_method_8_code 24 = .ok (.ixor, 1) := by decide +kernel
theorem dpl1_25 : decode prog_12_method_8_code 25 = .ok (.iastore, 1) := by decide +kernel
theorem dpl1_26 : decode prog_12_method_8_code 26 = .ok (.return_, 1) := by decide +kernel
theorem ef_pl1 (m : MethodId) (f : Addr) (it : Int32) (ct : Int64) : entryFrame m #[(.ref f), (.int it), (.long ct), (.int (1 : Int32))] 5 = (mkF m 0 #[.val (.ref f), .val (.int it), .val (.long ct), .second, .val (.int (1 : Int32))] []) := by first | (simp [entryFrame, mkF, argsToLocals, Value.category]; done) | rfl
def Q_pl1 (Z : State) (f : Addr) (it : Int32) (ct : Int64) (hc : Addr) (hi : Addr) (sn : Addr) (gc : Nat → Int64) (gi : Nat → Int32) (gs : Nat → Int32) (h0 : Heap) (n0 : Nat) (vv : Option Value) (hE : Heap) (LE : List Loc) : Prop := vv = none ∧ Fr n0 LE ∧ Keep h0 hE [hc, hi, sn] ∧ Ary Z hE hc .long 16 (lts (updJ gc 1 ct)) ∧ Ary Z hE hi .int 16 (bts (updI gi 1 it)) ∧ Ary Z hE sn .int 4 (bts (updI gs (it.toNatClampNeg) (-2 : Int32)))
set_option maxRecDepth 65536 in
set_option maxHeartbeats 40000000 in
theorem rm_pl1 (l : Launch) (Z : State) (a0 : Array Value) (hw : ∀ d ∈ tables_1, d.before a0 Z = true) (ws : List Jvm.Cond) (f : Addr) (it : Int32) (ct : Int64) (hc : Addr) (hi : Addr) (sn : Addr) (gc : Nat → Int64) (gi : Nat → Int32) (gs : Nat → Int32) (h0 : Heap) (n0 : Nat) (Z0 : n0 ≤ h0.size) (pr0 : Fld Z h0 f "com/example/nearpath/nearpath/answer/Frontier" "seen" "[I" (.ref sn)) (pr1 : Fld Z h0 f "com/example/nearpath/nearpath/answer/Frontier" "heapCosts" "[J" (.ref hc)) (pr2 : Fld Z h0 f "com/example/nearpath/nearpath/answer/Frontier" "heapItems" "[I" (.ref hi)) (pr3 : Ary Z h0 hc .long 16 (lts gc)) (pr4 : Ary Z h0 hi .int 16 (bts gi)) (pr5 : Ary Z h0 sn .int 4 (bts gs)) (pr6 : In4 it) (pr7 : n0 ≤ hc) (pr8 : n0 ≤ hi) (pr9 : n0 ≤ sn) (pr10 : f ≠ hc) (pr11 : f ≠ hi) (pr12 : f ≠ sn) (pr13 : hc ≠ hi) (pr14 : hc ≠ sn) (pr15 : hi ≠ sn) :
    MetFree l (⟨"com/example/nearpath/nearpath/answer/Frontier", "place", "(IJI)V"⟩ : MethodName) (head1 (Jvm.Cond.code (⟨"com/example/nearpath/nearpath/answer/Frontier", "place", "(IJI)V"⟩ : MethodName) prog_12_method_8_code 5 none :: ws) ({ frames := 0, cells := 0, slots := 0, locals := 0 } : Room)) (fun aa UU => aa = #[(.ref f), (.int it), (.long ct), (.int (1 : Int32))] ∧ Z.Warmed39 UU.vm ∧ UU.heap = h0) (fun _ _ _ _ _ => True) (fun _ UU oo UU' => ∃ vv LL, oo = .returned vv ∧ Q_pl1 Z f it ct hc hi sn gc gi gs h0 n0 vv UU'.heap LL ∧ FrameEnd UU oo UU' LL ({ frames := 0, cells := 0, slots := 0, locals := 0 } : Room).cells ({ frames := 0, cells := 0, slots := 0, locals := 0 } : Room).slots) := by
  refine MetFree.of_bodySF (plainFor_of_name pn_0) hisR ?_
  intro p e s m args below meth c s₁ Bd hml0 hP hK
  obtain ⟨rfl, hZ, hh⟩ := hP
  have hx := Bd.exec
  have hby := Bd.bytes
  have hml : c.maxLocals = 5 := hml0
  have hown : s.vm.findClass "com/example/nearpath/nearpath/answer/Frontier" = some m.cls := findClass_of_methodNamed Bd.named
  have hnm := (name_of_methodNamed Bd.named Bd.method).1
  have X0 : Stand p l e ({ frames := 0, cells := 0, slots := 0, locals := 0 } : Room) s m #[(.ref f), (.int it), (.long ct), (.int (1 : Int32))] below meth c s₁ [] 0 0 := Stand.of_body Bd
  have e0 : s₁.heap = h0 := by rw [← hh, Bd.state]; rfl
  have N0 := Fr.nil n0
  have K0 := Keep.refl h0 [hc, hi, sn]
  show Go p e below s (Q_pl1 Z f it ct hc hi sn gc gi gs h0 n0) 0 0 s₁ (entryFrame m #[(.ref f), (.int it), (.long ct), (.int (1 : Int32))] 5)
  refine Go.of_eq (ef_pl1 m f it ct) ?_
  refine Go.st (mkF m 1 #[.val (.ref f), .val (.int it), .val (.long ct), .second, .val (.int (1 : Int32))] [(.ref f)]) (fun _ k => XS.aloadN X0.here hx rfl (hb hby dpl1_0) rfl rfl k) ?_
  obtain ⟨T1, X1, e1, st1⟩ := getF X0 hx hZ hown (host := "") (Or.inl (hw _ (List.mem_of_getElem? (i := 16) rfl))) Via.refl e0 pr2 (g := (mkF m 1 #[.val (.ref f), .val (.int it), .val (.long ct), .second, .val (.int (1 : Int32))] [(.ref f)])) rfl rfl (hb hby dpl1_1)
  refine Go.st (mkF m 4 #[.val (.ref f), .val (.int it), .val (.long ct), .second, .val (.int (1 : Int32))] [(.ref hi)]) (fun _ k => st1 _ k) ?_
  refine Go.st (mkF m 6 #[.val (.ref f), .val (.int it), .val (.long ct), .second, .val (.int (1 : Int32))] [(.int (1 : Int32)), (.ref hi)]) (fun _ k => XS.iload X1.here hx rfl (hb hby dpl1_4) rfl k) ?_
  refine Go.st (mkF m 7 #[.val (.ref f), .val (.int it), .val (.long ct), .second, .val (.int (1 : Int32))] [(.int it), (.int (1 : Int32)), (.ref hi)]) (fun _ k => XS.iloadN X1.here hx rfl (hb hby dpl1_6) rfl k) ?_
  obtain ⟨T2, h2, X2, e2, W2, st2⟩ := stAI X1 hx hZ e1 pr4 (i := 1) (by decide) (by decide) (by decide) (g := (mkF m 7 #[.val (.ref f), .val (.int it), .val (.long ct), .second, .val (.int (1 : Int32))] [(.int it), (.int (1 : Int32)), (.ref hi)])) rfl rfl (hb hby dpl1_7)
  have F3 : Fld Z h2 f "com/example/nearpath/nearpath/answer/Frontier" "seen" "[I" (.ref sn) := pr0.other W2 (Or.inl pr11)
  have F4 : Fld Z h2 f "com/example/nearpath/nearpath/answer/Frontier" "heapCosts" "[J" (.ref hc) := pr1.other W2 (Or.inl pr11)
  have F5 : Fld Z h2 f "com/example/nearpath/nearpath/answer/Frontier" "heapItems" "[I" (.ref hi) := pr2.other W2 (Or.inl pr11)
  have V6 : Ary Z h2 hc .long 16 (lts gc) := pr3.other W2 pr13
  have V7 : Ary Z h2 hi .int 16 (bts (updI gi 1 it)) := pr4.sameB W2
  have V8 : Ary Z h2 sn .int 4 (bts gs) := pr5.other W2 (Ne.symm pr15)
  have K2 : Keep h0 h2 [hc, hi, sn] := K0.wr W2 (Or.inl (by simp))
  have N2 := Fr.snoc X2 N0 pr8
  refine Go.st (mkF m 8 #[.val (.ref f), .val (.int it), .val (.long ct), .second, .val (.int (1 : Int32))] []) (fun _ k => st2 _ k) ?_
  refine Go.st (mkF m 9 #[.val (.ref f), .val (.int it), .val (.long ct), .second, .val (.int (1 : Int32))] [(.ref f)]) (fun _ k => XS.aloadN X2.here hx rfl (hb hby dpl1_8) rfl rfl k) ?_
  obtain ⟨T9, X9, e9, st9⟩ := getF X2 hx hZ hown (host := "") (Or.inl (hw _ (List.mem_of_getElem? (i := 14) rfl))) Via.refl e2 F4 (g := (mkF m 9 #[.val (.ref f), .val (.int it), .val (.long ct), .second, .val (.int (1 : Int32))] [(.ref f)])) rfl rfl (hb hby dpl1_9)
  refine Go.st (mkF m 12 #[.val (.ref f), .val (.int it), .val (.long ct), .second, .val (.int (1 : Int32))] [(.ref hc)]) (fun _ k => st9 _ k) ?_
  refine Go.st (mkF m 14 #[.val (.ref f), .val (.int it), .val (.long ct), .second, .val (.int (1 : Int32))] [(.int (1 : Int32)), (.ref hc)]) (fun _ k => XS.iload X9.here hx rfl (hb hby dpl1_12) rfl k) ?_
  refine Go.st (mkF m 15 #[.val (.ref f), .val (.int it), .val (.long ct), .second, .val (.int (1 : Int32))] [(.long ct), (.int (1 : Int32)), (.ref hc)]) (fun _ k => XT.lloadN X9.here hx rfl (hb hby dpl1_14) rfl k) ?_
  obtain ⟨T10, h10, X10, e10, W10, st10⟩ := stAJ X9 hx hZ e9 V6 (i := 1) (by decide) (by decide) (by decide) (g := (mkF m 15 #[.val (.ref f), .val (.int it), .val (.long ct), .second, .val (.int (1 : Int32))] [(.long ct), (.int (1 : Int32)), (.ref hc)])) rfl rfl (hb hby dpl1_15)
  have F11 : Fld Z h10 f "com/example/nearpath/nearpath/answer/Frontier" "seen" "[I" (.ref sn) := F3.other W10 (Or.inl pr10)
  have F12 : Fld Z h10 f "com/example/nearpath/nearpath/answer/Frontier" "heapCosts" "[J" (.ref hc) := F4.other W10 (Or.inl pr10)
  have F13 : Fld Z h10 f "com/example/nearpath/nearpath/answer/Frontier" "heapItems" "[I" (.ref hi) := F5.other W10 (Or.inl pr10)
  have V14 : Ary Z h10 hc .long 16 (lts (updJ gc 1 ct)) := V6.sameJ W10
  have V15 : Ary Z h10 hi .int 16 (bts (updI gi 1 it)) := V7.other W10 (Ne.symm pr13)
  have V16 : Ary Z h10 sn .int 4 (bts gs) := V8.other W10 (Ne.symm pr14)
  have K10 : Keep h0 h10 [hc, hi, sn] := K2.wr W10 (Or.inl (by simp))
  have N10 := Fr.snoc X10 N2 pr7
  refine Go.st (mkF m 16 #[.val (.ref f), .val (.int it), .val (.long ct), .second, .val (.int (1 : Int32))] []) (fun _ k => st10 _ k) ?_
  refine Go.st (mkF m 17 #[.val (.ref f), .val (.int it), .val (.long ct), .second, .val (.int (1 : Int32))] [(.ref f)]) (fun _ k => XS.aloadN X10.here hx rfl (hb hby dpl1_16) rfl rfl k) ?_
  obtain ⟨T17, X17, e17, st17⟩ := getF X10 hx hZ hown (host := "") (Or.inl (hw _ (List.mem_of_getElem? (i := 18) rfl))) Via.refl e10 F11 (g := (mkF m 17 #[.val (.ref f), .val (.int it), .val (.long ct), .second, .val (.int (1 : Int32))] [(.ref f)])) rfl rfl (hb hby dpl1_17)
  refine Go.st (mkF m 20 #[.val (.ref f), .val (.int it), .val (.long ct), .second, .val (.int (1 : Int32))] [(.ref sn)]) (fun _ k => st17 _ k) ?_
  refine Go.st (mkF m 21 #[.val (.ref f), .val (.int it), .val (.long ct), .second, .val (.int (1 : Int32))] [(.int it), (.ref sn)]) (fun _ k => XS.iloadN X17.here hx rfl (hb hby dpl1_20) rfl k) ?_
  refine Go.st (mkF m 23 #[.val (.ref f), .val (.int it), .val (.long ct), .second, .val (.int (1 : Int32))] [(.int (1 : Int32)), (.int it), (.ref sn)]) (fun _ k => XS.iload X17.here hx rfl (hb hby dpl1_21) rfl k) ?_
  refine Go.st (mkF m 24 #[.val (.ref f), .val (.int it), .val (.long ct), .second, .val (.int (1 : Int32))] [(.int (-1 : Int32)), (.int (1 : Int32)), (.int it), (.ref sn)]) (fun _ k => XS.iconst X17.here hx rfl (hb hby dpl1_23) k) ?_
  refine Go.st (mkF m 25 #[.val (.ref f), .val (.int it), .val (.long ct), .second, .val (.int (1 : Int32))] [(.int (-2 : Int32)), (.int it), (.ref sn)]) (fun _ k => XT.ixor X17.here hx rfl (hb hby dpl1_24) rfl k) ?_
  obtain ⟨T18, h18, X18, e18, W18, st18⟩ := stAI X17 hx hZ e17 V16 (i := it.toNatClampNeg) (own_in4 pr6).1 rfl (own_in4 pr6).2 (g := (mkF m 25 #[.val (.ref f), .val (.int it), .val (.long ct), .second, .val (.int (1 : Int32))] [(.int (-2 : Int32)), (.int it), (.ref sn)])) rfl rfl (hb hby dpl1_25)
  have F19 : Fld Z h18 f "com/example/nearpath/nearpath/answer/Frontier" "seen" "[I" (.ref sn) := F11.other W18 (Or.inl pr12)
  have F20 : Fld Z h18 f "com/example/nearpath/nearpath/answer/Frontier" "heapCosts" "[J" (.ref hc) := F12.other W18 (Or.inl pr12)
  have F21 : Fld Z h18 f "com/example/nearpath/nearpath/answer/Frontier" "heapItems" "[I" (.ref hi) := F13.other W18 (Or.inl pr12)
  have V22 : Ary Z h18 hc .long 16 (lts (updJ gc 1 ct)) := V14.other W18 pr14
  have V23 : Ary Z h18 hi .int 16 (bts (updI gi 1 it)) := V15.other W18 pr15
  have V24 : Ary Z h18 sn .int 4 (bts (updI gs (it.toNatClampNeg) (-2 : Int32))) := V16.sameB W18
  have K18 : Keep h0 h18 [hc, hi, sn] := K10.wr W18 (Or.inl (by simp))
  have N18 := Fr.snoc X18 N10 pr9
  refine Go.st (mkF m 26 #[.val (.ref f), .val (.int it), .val (.long ct), .second, .val (.int (1 : Int32))] []) (fun _ k => st18 _ k) ?_
  exact Go.retV X18 hx Bd.notSynchronized Bd.returns (hb hby dpl1_26) (by rw [e18]; exact ⟨rfl, N18, K18, V22, V23, V24⟩) (by decide) (by decide)
theorem pd_0 : parseMethodDescriptor "(IJI)V" = some ⟨[.int, .long, .int], none⟩ := by decide +kernel
theorem dsu0_0 : decode prog_12_method_6_code 0 = .ok (.iload 4, 2) := by decide +kernel
theorem dsu0_2 : decode prog_12_method_6_code 2 = .ok (.ifCond .le 58, 3) := by decide +kernel
theorem dsu0_60 : decode prog_12_method_6_code 60 = .ok (.aload_n 0, 1) := by decide +kernel
theorem dsu0_61 : decode prog_12_method_6_code 61 = .ok (.iload_n 1, 1) := by decide +kernel
theorem dsu0_62 : decode prog_12_method_6_code 62 = .ok (.lload_n 2, 1) := by decide +kernel
theorem dsu0_63 : decode prog_12_method_6_code 63 = .ok (.iload 4, 2) := by decide +kernel
theorem dsu0_65 : decode prog_12_method_6_code 65 = .ok (.invokevirtual 63, 3) := by decide +kernel
theorem dsu0_68 : decode prog_12_method_6_code 68 = .ok (.return_, 1) := by decide +kernel
theorem ef_su0 (m : MethodId) (f : Addr) (it : Int32) (ct : Int64) : entryFrame m #[(.ref f), (.int it), (.long ct), (.int (0 : Int32))] 5 = (mkF m 0 #[.val (.ref f), .val (.int it), .val (.long ct), .second, .val (.int (0 : Int32))] []) := by first | (simp [entryFrame, mkF, argsToLocals, Value.category]; done) | rfl
def Q_su0 (Z : State) (f : Addr) (it : Int32) (ct : Int64) (hc : Addr) (hi : Addr) (sn : Addr) (gc : Nat → Int64) (gi : Nat → Int32) (gs : Nat → Int32) (h0 : Heap) (n0 : Nat) (vv : Option Value) (hE : Heap) (LE : List Loc) : Prop := vv = none ∧ Fr n0 LE ∧ Keep h0 hE [hc, hi, sn] ∧ Ary Z hE hc .long 16 (lts (updJ gc 0 ct)) ∧ Ary Z hE hi .int 16 (bts (updI gi 0 it)) ∧ Ary Z hE sn .int 4 (bts (updI gs (it.toNatClampNeg) (-1 : Int32)))
set_option maxRecDepth 65536 in
set_option maxHeartbeats 40000000 in
theorem rm_su0 (l : Launch) (Z : State) (a0 : Array Value) (hw : ∀ d ∈ tables_1, d.before a0 Z = true) (ws : List Jvm.Cond) (f : Addr) (it : Int32) (ct : Int64) (hc : Addr) (hi : Addr) (sn : Addr) (gc : Nat → Int64) (gi : Nat → Int32) (gs : Nat → Int32) (h0 : Heap) (n0 : Nat) (Z0 : n0 ≤ h0.size) (pr0 : Exa Z h0 f "com/example/nearpath/nearpath/answer/Frontier") (pr1 : Fld Z h0 f "com/example/nearpath/nearpath/answer/Frontier" "seen" "[I" (.ref sn)) (pr2 : Fld Z h0 f "com/example/nearpath/nearpath/answer/Frontier" "heapCosts" "[J" (.ref hc)) (pr3 : Fld Z h0 f "com/example/nearpath/nearpath/answer/Frontier" "heapItems" "[I" (.ref hi)) (pr4 : Ary Z h0 hc .long 16 (lts gc)) (pr5 : Ary Z h0 hi .int 16 (bts gi)) (pr6 : Ary Z h0 sn .int 4 (bts gs)) (pr7 : In4 it) (pr8 : n0 ≤ hc) (pr9 : n0 ≤ hi) (pr10 : n0 ≤ sn) (pr11 : f ≠ hc) (pr12 : f ≠ hi) (pr13 : f ≠ sn) (pr14 : hc ≠ hi) (pr15 : hc ≠ sn) (pr16 : hi ≠ sn) :
    MetFree l (⟨"com/example/nearpath/nearpath/answer/Frontier", "siftUp", "(IJI)V"⟩ : MethodName) (head1 (Jvm.Cond.code (⟨"com/example/nearpath/nearpath/answer/Frontier", "siftUp", "(IJI)V"⟩ : MethodName) prog_12_method_6_code 5 none :: ws) ({ frames := 1, cells := 0, slots := 0, locals := 16 } : Room)) (fun aa UU => aa = #[(.ref f), (.int it), (.long ct), (.int (0 : Int32))] ∧ Z.Warmed39 UU.vm ∧ UU.heap = h0) (fun _ _ _ _ _ => True) (fun _ UU oo UU' => ∃ vv LL, oo = .returned vv ∧ Q_su0 Z f it ct hc hi sn gc gi gs h0 n0 vv UU'.heap LL ∧ FrameEnd UU oo UU' LL ({ frames := 1, cells := 0, slots := 0, locals := 16 } : Room).cells ({ frames := 1, cells := 0, slots := 0, locals := 16 } : Room).slots) := by
  refine MetFree.of_bodySF (plainFor_of_name pn_0) hisR ?_
  intro p e s m args below meth c s₁ Bd hml0 hP hK
  obtain ⟨rfl, hZ, hh⟩ := hP
  have hx := Bd.exec
  have hby := Bd.bytes
  have hml : c.maxLocals = 5 := hml0
  have hown : s.vm.findClass "com/example/nearpath/nearpath/answer/Frontier" = some m.cls := findClass_of_methodNamed Bd.named
  have hnm := (name_of_methodNamed Bd.named Bd.method).1
  have X0 : Stand p l e ({ frames := 1, cells := 0, slots := 0, locals := 16 } : Room) s m #[(.ref f), (.int it), (.long ct), (.int (0 : Int32))] below meth c s₁ [] 0 0 := Stand.of_body Bd
  have e0 : s₁.heap = h0 := by rw [← hh, Bd.state]; rfl
  have N0 := Fr.nil n0
  have K0 := Keep.refl h0 [hc, hi, sn]
  show Go p e below s (Q_su0 Z f it ct hc hi sn gc gi gs h0 n0) 0 0 s₁ (entryFrame m #[(.ref f), (.int it), (.long ct), (.int (0 : Int32))] 5)
  refine Go.of_eq (ef_su0 m f it ct) ?_
  refine Go.st (mkF m 2 #[.val (.ref f), .val (.int it), .val (.long ct), .second, .val (.int (0 : Int32))] [(.int (0 : Int32))]) (fun _ k => XS.iload X0.here hx rfl (hb hby dsu0_0) rfl k) ?_
  refine Go.st (mkF m 60 #[.val (.ref f), .val (.int it), .val (.long ct), .second, .val (.int (0 : Int32))] []) (fun _ k => XS.ifYes X0.here hx rfl (pc0 := 2) (pc' := 60) rfl (hb hby dsu0_2) rfl ((if0 _ _).trans (flt (by decide : ¬ ((0 : Int32) < (0 : Int32)))).2.2.2) (by decide) (by decide) k) ?_
  refine Go.st (mkF m 61 #[.val (.ref f), .val (.int it), .val (.long ct), .second, .val (.int (0 : Int32))] [(.ref f)]) (fun _ k => XS.aloadN X0.here hx rfl (hb hby dsu0_60) rfl rfl k) ?_
  refine Go.st (mkF m 62 #[.val (.ref f), .val (.int it), .val (.long ct), .second, .val (.int (0 : Int32))] [(.int it), (.ref f)]) (fun _ k => XS.iloadN X0.here hx rfl (hb hby dsu0_61) rfl k) ?_
  refine Go.st (mkF m 63 #[.val (.ref f), .val (.int it), .val (.long ct), .second, .val (.int (0 : Int32))] [(.long ct), (.int it), (.ref f)]) (fun _ k => XT.lloadN X0.here hx rfl (hb hby dsu0_62) rfl k) ?_
  refine Go.st (mkF m 65 #[.val (.ref f), .val (.int it), .val (.long ct), .second, .val (.int (0 : Int32))] [(.int (0 : Int32)), (.long ct), (.int it), (.ref f)]) (fun _ k => XS.iload X0.here hx rfl (hb hby dsu0_63) rfl k) ?_
  obtain ⟨cq1, q1a, q1b⟩ := pr0.cell
  have sl1 := selI (args := #[(.ref f), (.int it), (.long ct), (.int (0 : Int32))]) hZ (hw _ (List.mem_of_getElem? (i := 1) rfl)) (hw _ (List.mem_of_getElem? (i := 61) rfl)) (hw _ (List.mem_of_getElem? (i := 60) rfl)) (by decide)
  obtain ⟨_, _, ⟨T1, L1, k1, n1⟩, -, X1, ⟨Lc1, hQ1, l1, y1, z1⟩, st1⟩ := X0.privateBack hx (y := (⟨"com/example/nearpath/nearpath/answer/Frontier", "place", "(IJI)V"⟩ : MethodName)) hown (mvT hZ (hw _ (List.mem_of_getElem? (i := 59) rfl))) (mvT hZ (hw _ (List.mem_of_getElem? (i := 60) rfl))) sl1.1 sl1.2 (mvT hZ (hw _ (List.mem_of_getElem? (i := 62) rfl))) (by decide) (backOf (W := 0) (rm_pl0 l Z a0 hw [] f it ct hc hi sn gc gi gs h0 n0 (Nat.le_trans Z0 K0.1) pr1 pr2 pr3 pr4 pr5 pr6 pr7 pr8 pr9 pr10 pr11 pr12 pr13 pr14 pr15 pr16) hZ (hw _ (List.mem_of_getElem? (i := 62) rfl)) (hw _ (List.mem_of_getElem? (i := 2) rfl)) (by decide) (by decide)) (g := (mkF m 65 #[.val (.ref f), .val (.int it), .val (.long ct), .second, .val (.int (0 : Int32))] [(.int (0 : Int32)), (.long ct), (.int it), (.ref f)])) rfl (by rw [hml]; rfl) (Steps.refl _) (a := f) (by rw [e0]; exact q1a) q1b (argsL := [(.int it), (.long ct), (.int (0 : Int32))]) (rest := []) (lenOf pd_0 rfl) rfl (by show 2 * 0 + _ ≤ _; exact Nat.le_of_eq rfl) (hb hby dsu0_65) (fun _ _ => ⟨rfl, e0, (by decide : 0 + 0 ≤ _), (by decide : 0 + 0 ≤ _)⟩)
  dsimp only [Pt.U, Pt.locs, Pt.cells, Pt.slots] at X1 l1 y1 z1 st1 hQ1
  subst l1 y1 z1
  obtain ⟨rfl, N1q, K1q, V1_0, V1_1, V1_2⟩ := hQ1
  have N1 := Fr.app N0 N1q
  have E2q : Exa Z T1.heap f "com/example/nearpath/nearpath/answer/Frontier" := pr0.keep K1q
  have F3 : Fld Z T1.heap f "com/example/nearpath/nearpath/answer/Frontier" "seen" "[I" (.ref sn) := pr1.keep K1q (ninS pr11 (ninS pr12 (ninS pr13 nin0)))
  have F4 : Fld Z T1.heap f "com/example/nearpath/nearpath/answer/Frontier" "heapCosts" "[J" (.ref hc) := pr2.keep K1q (ninS pr11 (ninS pr12 (ninS pr13 nin0)))
  have F5 : Fld Z T1.heap f "com/example/nearpath/nearpath/answer/Frontier" "heapItems" "[I" (.ref hi) := pr3.keep K1q (ninS pr11 (ninS pr12 (ninS pr13 nin0)))
  have K1 : Keep h0 T1.heap [hc, hi, sn] := K0.trans K1q (allS (Or.inl (by simp)) (allS (Or.inl (by simp)) (allS (Or.inl (by simp)) all0)))
  refine Go.st (mkF m 68 #[.val (.ref f), .val (.int it), .val (.long ct), .second, .val (.int (0 : Int32))] []) (fun _ k => st1.trans k) ?_
  exact Go.retV X1 hx Bd.notSynchronized Bd.returns (hb hby dsu0_68) ⟨rfl, N1, K1, V1_0, V1_1, V1_2⟩ (by decide) (by decide)
theorem dsu1_0 : decode prog_12_method_6_code 0 = .ok (.iload 4, 2) := by decide +kernel
theorem dsu1_2 : decode prog_12_method_6_code 2 = .ok (.ifCond .le 58, 3) := by decide +kernel
theorem dsu1_5 : decode prog_12_method_6_code 5 = .ok (.aload_n 0, 1) := by decide +kernel
theorem dsu1_6 : decode prog_12_method_6_code 6 = .ok (.getfield 13, 3) := by decide +kernel
theorem dsu1_9 : decode prog_12_method_6_code 9 = .ok (.iload 4, 2) := by decide +kernel
theorem dsu1_11 : decode prog_12_method_6_code 11 = .ok (.iconst 1, 1) := by decide +kernel
theorem dsu1_12 : decode prog_12_method_6_code 12 = .ok (.isub, 1) := by decide +kernel
theorem dsu1_13 : decode prog_12_method_6_code 13 = .ok (.iconst 2, 1) := by decide +kernel
theorem dsu1_14 : decode prog_12_method_6_code 14 = .ok (.idiv, 1) := by decide +kernel
theorem dsu1_15 : decode prog_12_method_6_code 15 = .ok (.laload, 1) := by decide +kernel
theorem dsu1_16 : decode prog_12_method_6_code 16 = .ok (.lload_n 2, 1) := by decide +kernel
theorem dsu1_17 : decode prog_12_method_6_code 17 = .ok (.lcmp, 1) := by decide +kernel
theorem dsu1_18 : decode prog_12_method_6_code 18 = .ok (.ifCond .le 42, 3) := by decide +kernel
theorem dsu1_21 : decode prog_12_method_6_code 21 = .ok (.aload_n 0, 1) := by decide +kernel
theorem dsu1_22 : decode prog_12_method_6_code 22 = .ok (.aload_n 0, 1) := by decide +kernel
theorem dsu1_23 : decode prog_12_method_6_code 23 = .ok (.getfield 17, 3) := by decide +kernel
theorem dsu1_26 : decode prog_12_method_6_code 26 = .ok (.iload 4, 2) := by decide +kernel
theorem dsu1_28 : decode prog_12_method_6_code 28 = .ok (.iconst 1, 1) := by decide +kernel
theorem dsu1_29 : decode prog_12_method_6_code 29 = .ok (.isub, 1) := by decide +kernel
theorem dsu1_30 : decode prog_12_method_6_code 30 = .ok (.iconst 2, 1) := by decide +kernel
theorem dsu1_31 : decode prog_12_method_6_code 31 = .ok (.idiv, 1) := by decide +kernel
theorem dsu1_32 : decode prog_12_method_6_code 32 = .ok (.iaload, 1) := by decide +kernel
theorem dsu1_33 : decode prog_12_method_6_code 33 = .ok (.aload_n 0, 1) := by decide +kernel
theorem dsu1_34 : decode prog_12_method_6_code 34 = .ok (.getfield 13, 3) := by decide +kernel
theorem dsu1_37 : decode prog_12_method_6_code 37 = .ok (.iload 4, 2) := by decide +kernel
theorem dsu1_39 : decode prog_12_method_6_code 39 = .ok (.iconst 1, 1) := by decide +kernel
theorem dsu1_40 : decode prog_12_method_6_code 40 = .ok (.isub, 1) := by decide +kernel
theorem dsu1_41 : decode prog_12_method_6_code 41 = .ok (.iconst 2, 1) := by decide +kernel
theorem dsu1_42 : decode prog_12_method_6_code 42 = .ok (.idiv, 1) := by decide +kernel
theorem dsu1_43 : decode prog_12_method_6_code 43 = .ok (.laload, 1) := by decide +kernel
theorem dsu1_44 : decode prog_12_method_6_code 44 = .ok (.iload 4, 2) := by decide +kernel
theorem dsu1_46 : decode prog_12_method_6_code 46 = .ok (.invokevirtual 63, 3) := by decide +kernel
theorem dsu1_49 : decode prog_12_method_6_code 49 = .ok (.iload 4, 2) := by decide +kernel
theorem dsu1_51 : decode prog_12_method_6_code 51 = .ok (.iconst 1, 1) := by decide +kernel
theorem dsu1_52 : decode prog_12_method_6_code 52 = .ok (.isub, 1) := by decide +kernel
theorem dsu1_53 : decode prog_12_method_6_code 53 = .ok (.iconst 2, 1) := by decide +kernel
theorem dsu1_54 : decode prog_12_method_6_code 54 = .ok (.idiv, 1) := by decide +kernel
theorem dsu1_55 : decode prog_12_method_6_code 55 = .ok (.istore 4, 2) := by decide +kernel
theorem dsu1_57 : decode prog_12_method_6_code 57 = .ok (.goto (-57), 3) := by decide +kernel
theorem dsu1_60 : decode prog_12_method_6_code 60 = .ok (.aload_n 0, 1) := by decide +kernel
theorem dsu1_61 : decode prog_12_method_6_code 61 = .ok (.iload_n 1, 1) := by decide +kernel
theorem dsu1_62 : decode prog_12_method_6_code 62 = .ok (.lload_n 2, 1) := by decide +kernel
theorem dsu1_63 : decode prog_12_method_6_code 63 = .ok (.iload 4, 2) := by decide +kernel
theorem dsu1_65 : decode prog_12_method_6_code 65 = .ok (.invokevirtual 63, 3) := by decide +kernel
theorem dsu1_68 : decode prog_12_method_6_code 68 = .ok (.return_, 1) := by decide +kernel
theorem ef_su1 (m : MethodId) (f : Addr) (it : Int32) (ct : Int64) : entryFrame m #[(.ref f), (.int it), (.long ct), (.int (1 : Int32))] 5 = (mkF m 0 #[.val (.ref f), .val (.int it), .val (.long ct), .second, .val (.int (1 : Int32))] []) := by first | (simp [entryFrame, mkF, argsToLocals, Value.category]; done) | rfl
def Q_su1 (Z : State) (f : Addr) (it : Int32) (ct : Int64) (hc : Addr) (hi : Addr) (sn : Addr) (gc : Nat → Int64) (gi : Nat → Int32) (gs : Nat → Int32) (h0 : Heap) (n0 : Nat) (vv : Option Value) (hE : Heap) (LE : List Loc) : Prop := vv = none ∧ Fr n0 LE ∧ Keep h0 hE [hc, hi, sn] ∧ Ary Z hE hc .long 16 (lts (updJ (updJ gc 1 (gc 0)) 0 ct)) ∧ Ary Z hE hi .int 16 (bts (updI (updI gi 1 (gi 0)) 0 it)) ∧ Ary Z hE sn .int 4 (bts (updI (updI gs ((gi 0).toNatClampNeg) (-2 : Int32)) (it.toNatClampNeg) (-1 : Int32)))
set_option maxRecDepth 65536 in
set_option maxHeartbeats 40000000 in
theorem rm_su1 (l : Launch) (Z : State) (a0 : Array Value) (hw : ∀ d ∈ tables_1, d.before a0 Z = true) (ws : List Jvm.Cond) (f : Addr) (it : Int32) (ct : Int64) (hc : Addr) (hi : Addr) (sn : Addr) (gc : Nat → Int64) (gi : Nat → Int32) (gs : Nat → Int32) (h0 : Heap) (n0 : Nat) (Z0 : n0 ≤ h0.size) (pr0 : Exa Z h0 f "com/example/nearpath/nearpath/answer/Frontier") (pr1 : Fld Z h0 f "com/example/nearpath/nearpath/answer/Frontier" "seen" "[I" (.ref sn)) (pr2 : Fld Z h0 f "com/example/nearpath/nearpath/answer/Frontier" "heapCosts" "[J" (.ref hc)) (pr3 : Fld Z h0 f "com/example/nearpath/nearpath/answer/Frontier" "heapItems" "[I" (.ref hi)) (pr4 : Ary Z h0 hc .long 16 (lts gc)) (pr5 : Ary Z h0 hi .int 16 (bts gi)) (pr6 : Ary Z h0 sn .int 4 (bts gs)) (pr7 : In4 it) (pr8 : n0 ≤ hc) (pr9 : n0 ≤ hi) (pr10 : n0 ≤ sn) (pr11 : f ≠ hc) (pr12 : f ≠ hi) (pr13 : f ≠ sn) (pr14 : hc ≠ hi) (pr15 : hc ≠ sn) (pr16 : hi ≠ sn) (pr17 : ct < (gc 0)) (pr18 : In4 (gi 0)) :
    MetFree l (⟨"com/example/nearpath/nearpath/answer/Frontier", "siftUp", "(IJI)V"⟩ : MethodName) (head1 (Jvm.Cond.code (⟨"com/example/nearpath/nearpath/answer/Frontier", "siftUp", "(IJI)V"⟩ : MethodName) prog_12_method_6_code 5 none :: ws) ({ frames := 1, cells := 0, slots := 0, locals := 16 } : Room)) (fun aa UU => aa = #[(.ref f), (.int it), (.long ct), (.int (1 : Int32))] ∧ Z.Warmed39 UU.vm ∧ UU.heap = h0) (fun _ _ _ _ _ => True) (fun _ UU oo UU' => ∃ vv LL, oo = .returned vv ∧ Q_su1 Z f it ct hc hi sn gc gi gs h0 n0 vv UU'.heap LL ∧ FrameEnd UU oo UU' LL ({ frames := 1, cells := 0, slots := 0, locals := 16 } : Room).cells ({ frames := 1, cells := 0, slots := 0, locals := 16 } : Room).slots) := by
  refine MetFree.of_bodySF (plainFor_of_name pn_0) hisR ?_
  intro p e s m args below meth c s₁ Bd hml0 hP hK
  obtain ⟨rfl, hZ, hh⟩ := hP
  have hx := Bd.exec
  have hby := Bd.bytes
  have hml : c.maxLocals = 5 := hml0
  have hown : s.vm.findClass "com/example/nearpath/nearpath/answer/Frontier" = some m.cls := findClass_of_methodNamed Bd.named
  have hnm := (name_of_methodNamed Bd.named Bd.method).1
  have X0 : Stand p l e ({ frames := 1, cells := 0, slots := 0, locals := 16 } : Room) s m #[(.ref f), (.int it), (.long ct), (.int (1 : Int32))] below meth c s₁ [] 0 0 := Stand.of_body Bd
  have e0 : s₁.heap = h0 := by rw [← hh, Bd.state]; rfl
  have N0 := Fr.nil n0
  have K0 := Keep.refl h0 [hc, hi, sn]
  show Go p e below s (Q_su1 Z f it ct hc hi sn gc gi gs h0 n0) 0 0 s₁ (entryFrame m #[(.ref f), (.int it), (.long ct), (.int (1 : Int32))] 5)
  refine Go.of_eq (ef_su1 m f it ct) ?_
  refine Go.st (mkF m 2 #[.val (.ref f), .val (.int it), .val (.long ct), .second, .val (.int (1 : Int32))] [(.int (1 : Int32))]) (fun _ k => XS.iload X0.here hx rfl (hb hby dsu1_0) rfl k) ?_
  refine Go.st (mkF m 5 #[.val (.ref f), .val (.int it), .val (.long ct), .second, .val (.int (1 : Int32))] []) (fun _ k => XS.ifNo X0.here hx rfl (hb hby dsu1_2) rfl ((if0 _ _).trans (tlt (by decide : (0 : Int32) < (1 : Int32))).2.2.2) k) ?_
  refine Go.st (mkF m 6 #[.val (.ref f), .val (.int it), .val (.long ct), .second, .val (.int (1 : Int32))] [(.ref f)]) (fun _ k => XS.aloadN X0.here hx rfl (hb hby dsu1_5) rfl rfl k) ?_
  obtain ⟨T1, X1, e1, st1⟩ := getF X0 hx hZ hown (host := "") (Or.inl (hw _ (List.mem_of_getElem? (i := 14) rfl))) Via.refl e0 pr2 (g := (mkF m 6 #[.val (.ref f), .val (.int it), .val (.long ct), .second, .val (.int (1 : Int32))] [(.ref f)])) rfl rfl (hb hby dsu1_6)
  refine Go.st (mkF m 9 #[.val (.ref f), .val (.int it), .val (.long ct), .second, .val (.int (1 : Int32))] [(.ref hc)]) (fun _ k => st1 _ k) ?_
  refine Go.st (mkF m 11 #[.val (.ref f), .val (.int it), .val (.long ct), .second, .val (.int (1 : Int32))] [(.int (1 : Int32)), (.ref hc)]) (fun _ k => XS.iload X1.here hx rfl (hb hby dsu1_9) rfl k) ?_
  refine Go.st (mkF m 12 #[.val (.ref f), .val (.int it), .val (.long ct), .second, .val (.int (1 : Int32))] [(.int (1 : Int32)), (.int (1 : Int32)), (.ref hc)]) (fun _ k => XS.iconst X1.here hx rfl (hb hby dsu1_11) k) ?_
  refine Go.st (mkF m 13 #[.val (.ref f), .val (.int it), .val (.long ct), .second, .val (.int (1 : Int32))] [(.int (0 : Int32)), (.ref hc)]) (fun _ k => XS.isub X1.here hx rfl (hb hby dsu1_12) rfl k) ?_
  refine Go.st (mkF m 14 #[.val (.ref f), .val (.int it), .val (.long ct), .second, .val (.int (1 : Int32))] [(.int (2 : Int32)), (.int (0 : Int32)), (.ref hc)]) (fun _ k => XS.iconst X1.here hx rfl (hb hby dsu1_13) k) ?_
  refine Go.st (mkF m 15 #[.val (.ref f), .val (.int it), .val (.long ct), .second, .val (.int (1 : Int32))] [(.int (0 : Int32)), (.ref hc)]) (fun _ k => XS.idiv X1.here hx rfl (hb hby dsu1_14) rfl (by decide) k) ?_
  refine Go.st (mkF m 16 #[.val (.ref f), .val (.int it), .val (.long ct), .second, .val (.int (1 : Int32))] [(.long (gc 0))]) (fun _ k => ldJ X1 hx hZ e1 pr4 (i := 0) (by decide) (by decide) (by decide) (v := (.long (gc 0))) rfl (g := (mkF m 15 #[.val (.ref f), .val (.int it), .val (.long ct), .second, .val (.int (1 : Int32))] [(.int (0 : Int32)), (.ref hc)])) rfl rfl (hb hby dsu1_15) _ k) ?_
  refine Go.st (mkF m 17 #[.val (.ref f), .val (.int it), .val (.long ct), .second, .val (.int (1 : Int32))] [(.long ct), (.long (gc 0))]) (fun _ k => XT.lloadN X1.here hx rfl (hb hby dsu1_16) rfl k) ?_
  refine Go.st (mkF m 18 #[.val (.ref f), .val (.int it), .val (.long ct), .second, .val (.int (1 : Int32))] [(.int (cmpL (gc 0) ct))]) (fun _ k => XT.lcmp X1.here hx rfl (hb hby dsu1_17) rfl k) ?_
  refine Go.st (mkF m 21 #[.val (.ref f), .val (.int it), .val (.long ct), .second, .val (.int (1 : Int32))] []) (fun _ k => XS.ifNo X1.here hx rfl (hb hby dsu1_18) rfl (own_lgT pr17).2 k) ?_
  refine Go.st (mkF m 22 #[.val (.ref f), .val (.int it), .val (.long ct), .second, .val (.int (1 : Int32))] [(.ref f)]) (fun _ k => XS.aloadN X1.here hx rfl (hb hby dsu1_21) rfl rfl k) ?_
  refine Go.st (mkF m 23 #[.val (.ref f), .val (.int it), .val (.long ct), .second, .val (.int (1 : Int32))] [(.ref f), (.ref f)]) (fun _ k => XS.aloadN X1.here hx rfl (hb hby dsu1_22) rfl rfl k) ?_
  obtain ⟨T2, X2, e2, st2⟩ := getF X1 hx hZ hown (host := "") (Or.inl (hw _ (List.mem_of_getElem? (i := 16) rfl))) Via.refl e1 pr3 (g := (mkF m 23 #[.val (.ref f), .val (.int it), .val (.long ct), .second, .val (.int (1 : Int32))] [(.ref f), (.ref f)])) rfl rfl (hb hby dsu1_23)
  refine Go.st (mkF m 26 #[.val (.ref f), .val (.int it), .val (.long ct), .second, .val (.int (1 : Int32))] [(.ref hi), (.ref f)]) (fun _ k => st2 _ k) ?_
  refine Go.st (mkF m 28 #[.val (.ref f), .val (.int it), .val (.long ct), .second, .val (.int (1 : Int32))] [(.int (1 : Int32)), (.ref hi), (.ref f)]) (fun _ k => XS.iload X2.here hx rfl (hb hby dsu1_26) rfl k) ?_
  refine Go.st (mkF m 29 #[.val (.ref f), .val (.int it), .val (.long ct), .second, .val (.int (1 : Int32))] [(.int (1 : Int32)), (.int (1 : Int32)), (.ref hi), (.ref f)]) (fun _ k => XS.iconst X2.here hx rfl (hb hby dsu1_28) k) ?_
  refine Go.st (mkF m 30 #[.val (.ref f), .val (.int it), .val (.long ct), .second, .val (.int (1 : Int32))] [(.int (0 : Int32)), (.ref hi), (.ref f)]) (fun _ k => XS.isub X2.here hx rfl (hb hby dsu1_29) rfl k) ?_
  refine Go.st (mkF m 31 #[.val (.ref f), .val (.int it), .val (.long ct), .second, .val (.int (1 : Int32))] [(.int (2 : Int32)), (.int (0 : Int32)), (.ref hi), (.ref f)]) (fun _ k => XS.iconst X2.here hx rfl (hb hby dsu1_30) k) ?_
  refine Go.st (mkF m 32 #[.val (.ref f), .val (.int it), .val (.long ct), .second, .val (.int (1 : Int32))] [(.int (0 : Int32)), (.ref hi), (.ref f)]) (fun _ k => XS.idiv X2.here hx rfl (hb hby dsu1_31) rfl (by decide) k) ?_
  refine Go.st (mkF m 33 #[.val (.ref f), .val (.int it), .val (.long ct), .second, .val (.int (1 : Int32))] [(.int (gi 0)), (.ref f)]) (fun _ k => ldI X2 hx hZ e2 pr5 (i := 0) (by decide) (by decide) (by decide) (v := (.int (gi 0))) rfl (g := (mkF m 32 #[.val (.ref f), .val (.int it), .val (.long ct), .second, .val (.int (1 : Int32))] [(.int (0 : Int32)), (.ref hi), (.ref f)])) rfl rfl (hb hby dsu1_32) _ k) ?_
  refine Go.st (mkF m 34 #[.val (.ref f), .val (.int it), .val (.long ct), .second, .val (.int (1 : Int32))] [(.ref f), (.int (gi 0)), (.ref f)]) (fun _ k => XS.aloadN X2.here hx rfl (hb hby dsu1_33) rfl rfl k) ?_
  obtain ⟨T3, X3, e3, st3⟩ := getF X2 hx hZ hown (host := "") (Or.inl (hw _ (List.mem_of_getElem? (i := 14) rfl))) Via.refl e2 pr2 (g := (mkF m 34 #[.val (.ref f), .val (.int it), .val (.long ct), .second, .val (.int (1 : Int32))] [(.ref f), (.int (gi 0)), (.ref f)])) rfl rfl (hb hby dsu1_34)
  refine Go.st (mkF m 37 #[.val (.ref f), .val (.int it), .val (.long ct), .second, .val (.int (1 : Int32))] [(.ref hc), (.int (gi 0)), (.ref f)]) (fun _ k => st3 _ k) ?_
  refine Go.st (mkF m 39 #[.val (.ref f), .val (.int it), .val (.long ct), .second, .val (.int (1 : Int32))] [(.int (1 : Int32)), (.ref hc), (.int (gi 0)), (.ref f)]) (fun _ k => XS.iload X3.here hx rfl (hb hby dsu1_37) rfl k) ?_
  refine Go.st (mkF m 40 #[.val (.ref f), .val (.int it), .val (.long ct), .second, .val (.int (1 : Int32))] [(.int (1 : Int32)), (.int (1 : Int32)), (.ref hc), (.int (gi 0)), (.ref f)]) (fun _ k => XS.iconst X3.here hx rfl (hb hby dsu1_39) k) ?_
  refine Go.st (mkF m 41 #[.val (.ref f), .val (.int it), .val (.long ct), .second, .val (.int (1 : Int32))] [(.int (0 : Int32)), (.ref hc), (.int (gi 0)), (.ref f)]) (fun _ k => XS.isub X3.here hx rfl (hb hby dsu1_40) rfl k) ?_
  refine Go.st (mkF m 42 #[.val (.ref f), .val (.int it), .val (.long ct), .second, .val (.int (1 : Int32))] [(.int (2 : Int32)), (.int (0 : Int32)), (.ref hc), (.int (gi 0)), (.ref f)]) (fun _ k => XS.iconst X3.here hx rfl (hb hby dsu1_41) k) ?_
  refine Go.st (mkF m 43 #[.val (.ref f), .val (.int it), .val (.long ct), .second, .val (.int (1 : Int32))] [(.int (0 : Int32)), (.ref hc), (.int (gi 0)), (.ref f)]) (fun _ k => XS.idiv X3.here hx rfl (hb hby dsu1_42) rfl (by decide) k) ?_
  refine Go.st (mkF m 44 #[.val (.ref f), .val (.int it), .val (.long ct), .second, .val (.int (1 : Int32))] [(.long (gc 0)), (.int (gi 0)), (.ref f)]) (fun _ k => ldJ X3 hx hZ e3 pr4 (i := 0) (by decide) (by decide) (by decide) (v := (.long (gc 0))) rfl (g := (mkF m 43 #[.val (.ref f), .val (.int it), .val (.long ct), .second, .val (.int (1 : Int32))] [(.int (0 : Int32)), (.ref hc), (.int (gi 0)), (.ref f)])) rfl rfl (hb hby dsu1_43) _ k) ?_
  refine Go.st (mkF m 46 #[.val (.ref f), .val (.int it), .val (.long ct), .second, .val (.int (1 : Int32))] [(.int (1 : Int32)), (.long (gc 0)), (.int (gi 0)), (.ref f)]) (fun _ k => XS.iload X3.here hx rfl (hb hby dsu1_44) rfl k) ?_
  obtain ⟨cq4, q4a, q4b⟩ := pr0.cell
  have sl4 := selI (args := #[(.ref f), (.int it), (.long ct), (.int (1 : Int32))]) hZ (hw _ (List.mem_of_getElem? (i := 1) rfl)) (hw _ (List.mem_of_getElem? (i := 61) rfl)) (hw _ (List.mem_of_getElem? (i := 60) rfl)) (by decide)
  obtain ⟨_, _, ⟨T4, L4, k4, n4⟩, -, X4, ⟨Lc4, hQ4, l4, y4, z4⟩, st4⟩ := X3.privateBack hx (y := (⟨"com/example/nearpath/nearpath/answer/Frontier", "place", "(IJI)V"⟩ : MethodName)) hown (mvT hZ (hw _ (List.mem_of_getElem? (i := 59) rfl))) (mvT hZ (hw _ (List.mem_of_getElem? (i := 60) rfl))) sl4.1 sl4.2 (mvT hZ (hw _ (List.mem_of_getElem? (i := 62) rfl))) (by decide) (backOf (W := 0) (rm_pl1 l Z a0 hw [] f (gi 0) (gc 0) hc hi sn gc gi gs h0 n0 (Nat.le_trans Z0 K0.1) pr1 pr2 pr3 pr4 pr5 pr6 pr18 pr8 pr9 pr10 pr11 pr12 pr13 pr14 pr15 pr16) hZ (hw _ (List.mem_of_getElem? (i := 62) rfl)) (hw _ (List.mem_of_getElem? (i := 2) rfl)) (by decide) (by decide)) (g := (mkF m 46 #[.val (.ref f), .val (.int it), .val (.long ct), .second, .val (.int (1 : Int32))] [(.int (1 : Int32)), (.long (gc 0)), (.int (gi 0)), (.ref f)])) rfl (by rw [hml]; rfl) (Steps.refl _) (a := f) (by rw [e3]; exact q4a) q4b (argsL := [(.int (gi 0)), (.long (gc 0)), (.int (1 : Int32))]) (rest := []) (lenOf pd_0 rfl) rfl (by show 2 * 0 + _ ≤ _; exact Nat.le_of_eq rfl) (hb hby dsu1_46) (fun _ _ => ⟨rfl, e3, (by decide : 0 + 0 ≤ _), (by decide : 0 + 0 ≤ _)⟩)
  dsimp only [Pt.U, Pt.locs, Pt.cells, Pt.slots] at X4 l4 y4 z4 st4 hQ4
  subst l4 y4 z4
  obtain ⟨rfl, N4q, K4q, V4_0, V4_1, V4_2⟩ := hQ4
  have N4 := Fr.app N0 N4q
  have E5q : Exa Z T4.heap f "com/example/nearpath/nearpath/answer/Frontier" := pr0.keep K4q
  have F6 : Fld Z T4.heap f "com/example/nearpath/nearpath/answer/Frontier" "seen" "[I" (.ref sn) := pr1.keep K4q (ninS pr11 (ninS pr12 (ninS pr13 nin0)))
  have F7 : Fld Z T4.heap f "com/example/nearpath/nearpath/answer/Frontier" "heapCosts" "[J" (.ref hc) := pr2.keep K4q (ninS pr11 (ninS pr12 (ninS pr13 nin0)))
  have F8 : Fld Z T4.heap f "com/example/nearpath/nearpath/answer/Frontier" "heapItems" "[I" (.ref hi) := pr3.keep K4q (ninS pr11 (ninS pr12 (ninS pr13 nin0)))
  have K4 : Keep h0 T4.heap [hc, hi, sn] := K0.trans K4q (allS (Or.inl (by simp)) (allS (Or.inl (by simp)) (allS (Or.inl (by simp)) all0)))
  refine Go.st (mkF m 49 #[.val (.ref f), .val (.int it), .val (.long ct), .second, .val (.int (1 : Int32))] []) (fun _ k => st4.trans k) ?_
  refine Go.st (mkF m 51 #[.val (.ref f), .val (.int it), .val (.long ct), .second, .val (.int (1 : Int32))] [(.int (1 : Int32))]) (fun _ k => XS.iload X4.here hx rfl (hb hby dsu1_49) rfl k) ?_
  refine Go.st (mkF m 52 #[.val (.ref f), .val (.int it), .val (.long ct), .second, .val (.int (1 : Int32))] [(.int (1 : Int32)), (.int (1 : Int32))]) (fun _ k => XS.iconst X4.here hx rfl (hb hby dsu1_51) k) ?_
  refine Go.st (mkF m 53 #[.val (.ref f), .val (.int it), .val (.long ct), .second, .val (.int (1 : Int32))] [(.int (0 : Int32))]) (fun _ k => XS.isub X4.here hx rfl (hb hby dsu1_52) rfl k) ?_
  refine Go.st (mkF m 54 #[.val (.ref f), .val (.int it), .val (.long ct), .second, .val (.int (1 : Int32))] [(.int (2 : Int32)), (.int (0 : Int32))]) (fun _ k => XS.iconst X4.here hx rfl (hb hby dsu1_53) k) ?_
  refine Go.st (mkF m 55 #[.val (.ref f), .val (.int it), .val (.long ct), .second, .val (.int (1 : Int32))] [(.int (0 : Int32))]) (fun _ k => XS.idiv X4.here hx rfl (hb hby dsu1_54) rfl (by decide) k) ?_
  refine Go.st (mkF m 57 #[.val (.ref f), .val (.int it), .val (.long ct), .second, .val (.int (0 : Int32))] []) (fun _ k => XS.istore X4.here hx rfl (hb hby dsu1_55) rfl (l' := #[.val (.ref f), .val (.int it), .val (.long ct), .second, .val (.int (0 : Int32))]) rfl k) ?_
  refine Go.st (mkF m 0 #[.val (.ref f), .val (.int it), .val (.long ct), .second, .val (.int (0 : Int32))] []) (fun _ k => XS.goto X4.here hx rfl (pc0 := 57) (pc' := 0) rfl (hb hby dsu1_57) (by decide) (by decide) k) ?_
  refine Go.st (mkF m 2 #[.val (.ref f), .val (.int it), .val (.long ct), .second, .val (.int (0 : Int32))] [(.int (0 : Int32))]) (fun _ k => XS.iload X4.here hx rfl (hb hby dsu1_0) rfl k) ?_
  refine Go.st (mkF m 60 #[.val (.ref f), .val (.int it), .val (.long ct), .second, .val (.int (0 : Int32))] []) (fun _ k => XS.ifYes X4.here hx rfl (pc0 := 2) (pc' := 60) rfl (hb hby dsu1_2) rfl ((if0 _ _).trans (flt (by decide : ¬ ((0 : Int32) < (0 : Int32)))).2.2.2) (by decide) (by decide) k) ?_
  refine Go.st (mkF m 61 #[.val (.ref f), .val (.int it), .val (.long ct), .second, .val (.int (0 : Int32))] [(.ref f)]) (fun _ k => XS.aloadN X4.here hx rfl (hb hby dsu1_60) rfl rfl k) ?_
  refine Go.st (mkF m 62 #[.val (.ref f), .val (.int it), .val (.long ct), .second, .val (.int (0 : Int32))] [(.int it), (.ref f)]) (fun _ k => XS.iloadN X4.here hx rfl (hb hby dsu1_61) rfl k) ?_
  refine Go.st (mkF m 63 #[.val (.ref f), .val (.int it), .val (.long ct), .second, .val (.int (0 : Int32))] [(.long ct), (.int it), (.ref f)]) (fun _ k => XT.lloadN X4.here hx rfl (hb hby dsu1_62) rfl k) ?_
  refine Go.st (mkF m 65 #[.val (.ref f), .val (.int it), .val (.long ct), .second, .val (.int (0 : Int32))] [(.int (0 : Int32)), (.long ct), (.int it), (.ref f)]) (fun _ k => XS.iload X4.here hx rfl (hb hby dsu1_63) rfl k) ?_
  obtain ⟨cq9, q9a, q9b⟩ := E5q.cell
  have sl9 := selI (args := #[(.ref f), (.int it), (.long ct), (.int (1 : Int32))]) hZ (hw _ (List.mem_of_getElem? (i := 1) rfl)) (hw _ (List.mem_of_getElem? (i := 61) rfl)) (hw _ (List.mem_of_getElem? (i := 60) rfl)) (by decide)
  obtain ⟨_, _, ⟨T9, L9, k9, n9⟩, -, X9, ⟨Lc9, hQ9, l9, y9, z9⟩, st9⟩ := X4.privateBack hx (y := (⟨"com/example/nearpath/nearpath/answer/Frontier", "place", "(IJI)V"⟩ : MethodName)) hown (mvT hZ (hw _ (List.mem_of_getElem? (i := 59) rfl))) (mvT hZ (hw _ (List.mem_of_getElem? (i := 60) rfl))) sl9.1 sl9.2 (mvT hZ (hw _ (List.mem_of_getElem? (i := 62) rfl))) (by decide) (backOf (W := 0) (rm_pl0 l Z a0 hw [] f it ct hc hi sn (updJ gc 1 (gc 0)) (updI gi 1 (gi 0)) (updI gs ((gi 0).toNatClampNeg) (-2 : Int32)) T4.heap n0 (Nat.le_trans Z0 K4.1) F6 F7 F8 V4_0 V4_1 V4_2 pr7 pr8 pr9 pr10 pr11 pr12 pr13 pr14 pr15 pr16) hZ (hw _ (List.mem_of_getElem? (i := 62) rfl)) (hw _ (List.mem_of_getElem? (i := 2) rfl)) (by decide) (by decide)) (g := (mkF m 65 #[.val (.ref f), .val (.int it), .val (.long ct), .second, .val (.int (0 : Int32))] [(.int (0 : Int32)), (.long ct), (.int it), (.ref f)])) rfl (by rw [hml]; rfl) (Steps.refl _) (a := f) q9a q9b (argsL := [(.int it), (.long ct), (.int (0 : Int32))]) (rest := []) (lenOf pd_0 rfl) rfl (by show 2 * 0 + _ ≤ _; exact Nat.le_of_eq rfl) (hb hby dsu1_65) (fun _ _ => ⟨rfl, rfl, (by decide : 0 + 0 ≤ _), (by decide : 0 + 0 ≤ _)⟩)
  dsimp only [Pt.U, Pt.locs, Pt.cells, Pt.slots] at X9 l9 y9 z9 st9 hQ9
  subst l9 y9 z9
  obtain ⟨rfl, N9q, K9q, V9_0, V9_1, V9_2⟩ := hQ9
  have N9 := Fr.app N4 N9q
  have E10q : Exa Z T9.heap f "com/example/nearpath/nearpath/answer/Frontier" := E5q.keep K9q
  have F11 : Fld Z T9.heap f "com/example/nearpath/nearpath/answer/Frontier" "seen" "[I" (.ref sn) := F6.keep K9q (ninS pr11 (ninS pr12 (ninS pr13 nin0)))
  have F12 : Fld Z T9.heap f "com/example/nearpath/nearpath/answer/Frontier" "heapCosts" "[J" (.ref hc) := F7.keep K9q (ninS pr11 (ninS pr12 (ninS pr13 nin0)))
  have F13 : Fld Z T9.heap f "com/example/nearpath/nearpath/answer/Frontier" "heapItems" "[I" (.ref hi) := F8.keep K9q (ninS pr11 (ninS pr12 (ninS pr13 nin0)))
  have K9 : Keep h0 T9.heap [hc, hi, sn] := K4.trans K9q (allS (Or.inl (by simp)) (allS (Or.inl (by simp)) (allS (Or.inl (by simp)) all0)))
  refine Go.st (mkF m 68 #[.val (.ref f), .val (.int it), .val (.long ct), .second, .val (.int (0 : Int32))] []) (fun _ k => st9.trans k) ?_
  exact Go.retV X9 hx Bd.notSynchronized Bd.returns (hb hby dsu1_68) ⟨rfl, N9, K9, V9_0, V9_1, V9_2⟩ (by decide) (by decide)
theorem dsu2_0 : decode prog_12_method_6_code 0 = .ok (.iload 4, 2) := by decide +kernel
theorem dsu2_2 : decode prog_12_method_6_code 2 = .ok (.ifCond .le 58, 3) := by decide +kernel
theorem dsu2_5 : decode prog_12_method_6_code 5 = .ok (.aload_n 0, 1) := by decide +kernel
theorem dsu2_6 : decode prog_12_method_6_code 6 = .ok (.getfield 13, 3) := by decide +kernel
theorem dsu2_9 : decode prog_12_method_6_code 9 = .ok (.iload 4, 2) := by decide +kernel
theorem dsu2_11 : decode prog_12_method_6_code 11 = .ok (.iconst 1, 1) := by decide +kernel
theorem dsu2_12 : decode prog_12_method_6_code 12 = .ok (.isub, 1) := by decide +kernel
theorem dsu2_13 : decode prog_12_method_6_code 13 = .ok (.iconst 2, 1) := by decide +kernel
theorem dsu2_14 : decode prog_12_method_6_code 14 = .ok (.idiv, 1) := by decide +kernel
theorem dsu2_15 : decode prog_12_method_6_code 15 = .ok (.laload, 1) := by decide +kernel
theorem dsu2_16 : decode prog_12_method_6_code 16 = .ok (.lload_n 2, 1) := by decide +kernel
theorem dsu2_17 : decode prog_12_method_6_code 17 = .ok (.lcmp, 1) := by decide +kernel
theorem dsu2_18 : decode prog_12_method_6_code 18 = .ok (.ifCond .le 42, 3) := by decide +kernel
theorem dsu2_60 : decode prog_12_method_6_code 60 = .ok (.aload_n 0, 1) := by decide +kernel
theorem dsu2_61 : decode prog_12_method_6_code 61 = .ok (.iload_n 1, 1) := by decide +kernel
theorem dsu2_62 : decode prog_12_method_6_code 62 = .ok (.lload_n 2, 1) := by decide +kernel
theorem dsu2_63 : decode prog_12_method_6_code 63 = .ok (.iload 4, 2) := by decide +kernel
theorem dsu2_65 : decode prog_12_method_6_code 65 = .ok (.invokevirtual 63, 3) := by decide +kernel
theorem dsu2_68 : decode prog_12_method_6_code 68 = .ok (.return_, 1) := by decide +kernel
theorem ef_su2 (m : MethodId) (f : Addr) (it : Int32) (ct : Int64) : entryFrame m #[(.ref f), (.int it), (.long ct), (.int (1 : Int32))] 5 = (mkF m 0 #[.val (.ref f), .val (.int it), .val (.long ct), .second, .val (.int (1 : Int32))] []) := by first | (simp [entryFrame, mkF, argsToLocals, Value.category]; done) | rfl
def Q_su2 (Z : State) (f : Addr) (it : Int32) (ct : Int64) (hc : Addr) (hi : Addr) (sn : Addr) (gc : Nat → Int64) (gi : Nat → Int32) (gs : Nat → Int32) (h0 : Heap) (n0 : Nat) (vv : Option Value) (hE : Heap) (LE : List Loc) : Prop := vv = none ∧ Fr n0 LE ∧ Keep h0 hE [hc, hi, sn] ∧ Ary Z hE hc .long 16 (lts (updJ gc 1 ct)) ∧ Ary Z hE hi .int 16 (bts (updI gi 1 it)) ∧ Ary Z hE sn .int 4 (bts (updI gs (it.toNatClampNeg) (-2 : Int32)))
set_option maxRecDepth 65536 in
set_option maxHeartbeats 40000000 in
theorem rm_su2 (l : Launch) (Z : State) (a0 : Array Value) (hw : ∀ d ∈ tables_1, d.before a0 Z = true) (ws : List Jvm.Cond) (f : Addr) (it : Int32) (ct : Int64) (hc : Addr) (hi : Addr) (sn : Addr) (gc : Nat → Int64) (gi : Nat → Int32) (gs : Nat → Int32) (h0 : Heap) (n0 : Nat) (Z0 : n0 ≤ h0.size) (pr0 : Exa Z h0 f "com/example/nearpath/nearpath/answer/Frontier") (pr1 : Fld Z h0 f "com/example/nearpath/nearpath/answer/Frontier" "seen" "[I" (.ref sn)) (pr2 : Fld Z h0 f "com/example/nearpath/nearpath/answer/Frontier" "heapCosts" "[J" (.ref hc)) (pr3 : Fld Z h0 f "com/example/nearpath/nearpath/answer/Frontier" "heapItems" "[I" (.ref hi)) (pr4 : Ary Z h0 hc .long 16 (lts gc)) (pr5 : Ary Z h0 hi .int 16 (bts gi)) (pr6 : Ary Z h0 sn .int 4 (bts gs)) (pr7 : In4 it) (pr8 : n0 ≤ hc) (pr9 : n0 ≤ hi) (pr10 : n0 ≤ sn) (pr11 : f ≠ hc) (pr12 : f ≠ hi) (pr13 : f ≠ sn) (pr14 : hc ≠ hi) (pr15 : hc ≠ sn) (pr16 : hi ≠ sn) (pr17 : ¬ ct < (gc 0)) :
    MetFree l (⟨"com/example/nearpath/nearpath/answer/Frontier", "siftUp", "(IJI)V"⟩ : MethodName) (head1 (Jvm.Cond.code (⟨"com/example/nearpath/nearpath/answer/Frontier", "siftUp", "(IJI)V"⟩ : MethodName) prog_12_method_6_code 5 none :: ws) ({ frames := 1, cells := 0, slots := 0, locals := 16 } : Room)) (fun aa UU => aa = #[(.ref f), (.int it), (.long ct), (.int (1 : Int32))] ∧ Z.Warmed39 UU.vm ∧ UU.heap = h0) (fun _ _ _ _ _ => True) (fun _ UU oo UU' => ∃ vv LL, oo = .returned vv ∧ Q_su2 Z f it ct hc hi sn gc gi gs h0 n0 vv UU'.heap LL ∧ FrameEnd UU oo UU' LL ({ frames := 1, cells := 0, slots := 0, locals := 16 } : Room).cells ({ frames := 1, cells := 0, slots := 0, locals := 16 } : Room).slots) := by
  refine MetFree.of_bodySF (plainFor_of_name pn_0) hisR ?_
  intro p e s m args below meth c s₁ Bd hml0 hP hK
  obtain ⟨rfl, hZ, hh⟩ := hP
  have hx := Bd.exec
  have hby := Bd.bytes
  have hml : c.maxLocals = 5 := hml0
  have hown : s.vm.findClass "com/example/nearpath/nearpath/answer/Frontier" = some m.cls := findClass_of_methodNamed Bd.named
  have hnm := (name_of_methodNamed Bd.named Bd.method).1
  have X0 : Stand p l e ({ frames := 1, cells := 0, slots := 0, locals := 16 } : Room) s m #[(.ref f), (.int it), (.long ct), (.int (1 : Int32))] below meth c s₁ [] 0 0 := Stand.of_body Bd
  have e0 : s₁.heap = h0 := by rw [← hh, Bd.state]; rfl
  have N0 := Fr.nil n0
  have K0 := Keep.refl h0 [hc, hi, sn]
  show Go p e below s (Q_su2 Z f it ct hc hi sn gc gi gs h0 n0) 0 0 s₁ (entryFrame m #[(.ref f), (.int it), (.long ct), (.int (1 : Int32))] 5)
  refine Go.of_eq (ef_su2 m f it ct) ?_
  refine Go.st (mkF m 2 #[.val (.ref f), .val (.int it), .val (.long ct), .second, .val (.int (1 : Int32))] [(.int (1 : Int32))]) (fun _ k => XS.iload X0.here hx rfl (hb hby dsu2_0) rfl k) ?_
  refine Go.st (mkF m 5 #[.val (.ref f), .val (.int it), .val (.long ct), .second, .val (.int (1 : Int32))] []) (fun _ k => XS.ifNo X0.here hx rfl (hb hby dsu2_2) rfl ((if0 _ _).trans (tlt (by decide : (0 : Int32) < (1 : Int32))).2.2.2) k) ?_
  refine Go.st (mkF m 6 #[.val (.ref f), .val (.int it), .val (.long ct), .second, .val (.int (1 : Int32))] [(.ref f)]) (fun _ k => XS.aloadN X0.here hx rfl (hb hby dsu2_5) rfl rfl k) ?_
  obtain ⟨T1, X1, e1, st1⟩ := getF X0 hx hZ hown (host := "") (Or.inl (hw _ (List.mem_of_getElem? (i := 14) rfl))) Via.refl e0 pr2 (g := (mkF m 6 #[.val (.ref f), .val (.int it), .val (.long ct), .second, .val (.int (1 : Int32))] [(.ref f)])) rfl rfl (hb hby dsu2_6)
  refine Go.st (mkF m 9 #[.val (.ref f), .val (.int it), .val (.long ct), .second, .val (.int (1 : Int32))] [(.ref hc)]) (fun _ k => st1 _ k) ?_
  refine Go.st (mkF m 11 #[.val (.ref f), .val (.int it), .val (.long ct), .second, .val (.int (1 : Int32))] [(.int (1 : Int32)), (.ref hc)]) (fun _ k => XS.iload X1.here hx rfl (hb hby dsu2_9) rfl k) ?_
  refine Go.st (mkF m 12 #[.val (.ref f), .val (.int it), .val (.long ct), .second, .val (.int (1 : Int32))] [(.int (1 : Int32)), (.int (1 : Int32)), (.ref hc)]) (fun _ k => XS.iconst X1.here hx rfl (hb hby dsu2_11) k) ?_
  refine Go.st (mkF m 13 #[.val (.ref f), .val (.int it), .val (.long ct), .second, .val (.int (1 : Int32))] [(.int (0 : Int32)), (.ref hc)]) (fun _ k => XS.isub X1.here hx rfl (hb hby dsu2_12) rfl k) ?_
  refine Go.st (mkF m 14 #[.val (.ref f), .val (.int it), .val (.long ct), .second, .val (.int (1 : Int32))] [(.int (2 : Int32)), (.int (0 : Int32)), (.ref hc)]) (fun _ k => XS.iconst X1.here hx rfl (hb hby dsu2_13) k) ?_
  refine Go.st (mkF m 15 #[.val (.ref f), .val (.int it), .val (.long ct), .second, .val (.int (1 : Int32))] [(.int (0 : Int32)), (.ref hc)]) (fun _ k => XS.idiv X1.here hx rfl (hb hby dsu2_14) rfl (by decide) k) ?_
  refine Go.st (mkF m 16 #[.val (.ref f), .val (.int it), .val (.long ct), .second, .val (.int (1 : Int32))] [(.long (gc 0))]) (fun _ k => ldJ X1 hx hZ e1 pr4 (i := 0) (by decide) (by decide) (by decide) (v := (.long (gc 0))) rfl (g := (mkF m 15 #[.val (.ref f), .val (.int it), .val (.long ct), .second, .val (.int (1 : Int32))] [(.int (0 : Int32)), (.ref hc)])) rfl rfl (hb hby dsu2_15) _ k) ?_
  refine Go.st (mkF m 17 #[.val (.ref f), .val (.int it), .val (.long ct), .second, .val (.int (1 : Int32))] [(.long ct), (.long (gc 0))]) (fun _ k => XT.lloadN X1.here hx rfl (hb hby dsu2_16) rfl k) ?_
  refine Go.st (mkF m 18 #[.val (.ref f), .val (.int it), .val (.long ct), .second, .val (.int (1 : Int32))] [(.int (cmpL (gc 0) ct))]) (fun _ k => XT.lcmp X1.here hx rfl (hb hby dsu2_17) rfl k) ?_
  refine Go.st (mkF m 60 #[.val (.ref f), .val (.int it), .val (.long ct), .second, .val (.int (1 : Int32))] []) (fun _ k => XS.ifYes X1.here hx rfl (pc0 := 18) (pc' := 60) rfl (hb hby dsu2_18) rfl (own_lgF pr17).2 (by decide) (by decide) k) ?_
  refine Go.st (mkF m 61 #[.val (.ref f), .val (.int it), .val (.long ct), .second, .val (.int (1 : Int32))] [(.ref f)]) (fun _ k => XS.aloadN X1.here hx rfl (hb hby dsu2_60) rfl rfl k) ?_
  refine Go.st (mkF m 62 #[.val (.ref f), .val (.int it), .val (.long ct), .second, .val (.int (1 : Int32))] [(.int it), (.ref f)]) (fun _ k => XS.iloadN X1.here hx rfl (hb hby dsu2_61) rfl k) ?_
  refine Go.st (mkF m 63 #[.val (.ref f), .val (.int it), .val (.long ct), .second, .val (.int (1 : Int32))] [(.long ct), (.int it), (.ref f)]) (fun _ k => XT.lloadN X1.here hx rfl (hb hby dsu2_62) rfl k) ?_
  refine Go.st (mkF m 65 #[.val (.ref f), .val (.int it), .val (.long ct), .second, .val (.int (1 : Int32))] [(.int (1 : Int32)), (.long ct), (.int it), (.ref f)]) (fun _ k => XS.iload X1.here hx rfl (hb hby dsu2_63) rfl k) ?_
  obtain ⟨cq2, q2a, q2b⟩ := pr0.cell
  have sl2 := selI (args := #[(.ref f), (.int it), (.long ct), (.int (1 : Int32))]) hZ (hw _ (List.mem_of_getElem? (i := 1) rfl)) (hw _ (List.mem_of_getElem? (i := 61) rfl)) (hw _ (List.mem_of_getElem? (i := 60) rfl)) (by decide)
  obtain ⟨_, _, ⟨T2, L2, k2, n2⟩, -, X2, ⟨Lc2, hQ2, l2, y2, z2⟩, st2⟩ := X1.privateBack hx (y := (⟨"com/example/nearpath/nearpath/answer/Frontier", "place", "(IJI)V"⟩ : MethodName)) hown (mvT hZ (hw _ (List.mem_of_getElem? (i := 59) rfl))) (mvT hZ (hw _ (List.mem_of_getElem? (i := 60) rfl))) sl2.1 sl2.2 (mvT hZ (hw _ (List.mem_of_getElem? (i := 62) rfl))) (by decide) (backOf (W := 0) (rm_pl1 l Z a0 hw [] f it ct hc hi sn gc gi gs h0 n0 (Nat.le_trans Z0 K0.1) pr1 pr2 pr3 pr4 pr5 pr6 pr7 pr8 pr9 pr10 pr11 pr12 pr13 pr14 pr15 pr16) hZ (hw _ (List.mem_of_getElem? (i := 62) rfl)) (hw _ (List.mem_of_getElem? (i := 2) rfl)) (by decide) (by decide)) (g := (mkF m 65 #[.val (.ref f), .val (.int it), .val (.long ct), .second, .val (.int (1 : Int32))] [(.int (1 : Int32)), (.long ct), (.int it), (.ref f)])) rfl (by rw [hml]; rfl) (Steps.refl _) (a := f) (by rw [e1]; exact q2a) q2b (argsL := [(.int it), (.long ct), (.int (1 : Int32))]) (rest := []) (lenOf pd_0 rfl) rfl (by show 2 * 0 + _ ≤ _; exact Nat.le_of_eq rfl) (hb hby dsu2_65) (fun _ _ => ⟨rfl, e1, (by decide : 0 + 0 ≤ _), (by decide : 0 + 0 ≤ _)⟩)
  dsimp only [Pt.U, Pt.locs, Pt.cells, Pt.slots] at X2 l2 y2 z2 st2 hQ2
  subst l2 y2 z2
  obtain ⟨rfl, N2q, K2q, V2_0, V2_1, V2_2⟩ := hQ2
  have N2 := Fr.app N0 N2q
  have E3q : Exa Z T2.heap f "com/example/nearpath/nearpath/answer/Frontier" := pr0.keep K2q
  have F4 : Fld Z T2.heap f "com/example/nearpath/nearpath/answer/Frontier" "seen" "[I" (.ref sn) := pr1.keep K2q (ninS pr11 (ninS pr12 (ninS pr13 nin0)))
  have F5 : Fld Z T2.heap f "com/example/nearpath/nearpath/answer/Frontier" "heapCosts" "[J" (.ref hc) := pr2.keep K2q (ninS pr11 (ninS pr12 (ninS pr13 nin0)))
  have F6 : Fld Z T2.heap f "com/example/nearpath/nearpath/answer/Frontier" "heapItems" "[I" (.ref hi) := pr3.keep K2q (ninS pr11 (ninS pr12 (ninS pr13 nin0)))
  have K2 : Keep h0 T2.heap [hc, hi, sn] := K0.trans K2q (allS (Or.inl (by simp)) (allS (Or.inl (by simp)) (allS (Or.inl (by simp)) all0)))
  refine Go.st (mkF m 68 #[.val (.ref f), .val (.int it), .val (.long ct), .second, .val (.int (1 : Int32))] []) (fun _ k => st2.trans k) ?_
  exact Go.retV X2 hx Bd.notSynchronized Bd.returns (hb hby dsu2_68) ⟨rfl, N2, K2, V2_0, V2_1, V2_2⟩ (by decide) (by decide)
theorem dsd_0 : decode prog_12_method_7_code 0 = .ok (.iconst 0, 1) := by decide +kernel
theorem dsd_1 : decode prog_12_method_7_code 1 = .ok (.istore 4, 2) := by decide +kernel
theorem dsd_3 : decode prog_12_method_7_code 3 = .ok (.iconst 2, 1) := by decide +kernel
theorem dsd_4 : decode prog_12_method_7_code 4 = .ok (.iload 4, 2) := by decide +kernel
theorem dsd_6 : decode prog_12_method_7_code 6 = .ok (.imul, 1) := by decide +kernel
theorem dsd_7 : decode prog_12_method_7_code 7 = .ok (.iconst 1, 1) := by decide +kernel
theorem dsd_8 : decode prog_12_method_7_code 8 = .ok (.iadd, 1) := by decide +kernel
theorem dsd_9 : decode prog_12_method_7_code 9 = .ok (.aload_n 0, 1) := by decide +kernel
theorem dsd_10 : decode prog_12_method_7_code 10 = .ok (.getfield 27, 3) := by decide +kernel
theorem dsd_13 : decode prog_12_method_7_code 13 = .ok (.if_icmp .ge 87, 3) := by decide +kernel
theorem dsd_100 : decode prog_12_method_7_code 100 = .ok (.aload_n 0, 1) := by decide +kernel
theorem dsd_101 : decode prog_12_method_7_code 101 = .ok (.iload_n 1, 1) := by decide +kernel
theorem dsd_102 : decode prog_12_method_7_code 102 = .ok (.lload_n 2, 1) := by decide +kernel
theorem dsd_103 : decode prog_12_method_7_code 103 = .ok (.iload 4, 2) := by decide +kernel
theorem dsd_105 : decode prog_12_method_7_code 105 = .ok (.invokevirtual 63, 3) := by decide +kernel
theorem dsd_108 : decode prog_12_method_7_code 108 = .ok (.return_, 1) := by decide +kernel
theorem ef_sd (m : MethodId) (f : Addr) (it : Int32) (ct : Int64) : entryFrame m #[(.ref f), (.int it), (.long ct)] 6 = (mkF m 0 #[.val (.ref f), .val (.int it), .val (.long ct), .second, .unset, .unset] []) := by first | (simp [entryFrame, mkF, argsToLocals, Value.category]; done) | rfl
def Q_sd (Z : State) (f : Addr) (it : Int32) (ct : Int64) (hc : Addr) (hi : Addr) (sn : Addr) (gc : Nat → Int64) (gi : Nat → Int32) (gs : Nat → Int32) (h0 : Heap) (n0 : Nat) (vv : Option Value) (hE : Heap) (LE : List Loc) : Prop := vv = none ∧ Fr n0 LE ∧ Keep h0 hE [hc, hi, sn] ∧ Ary Z hE hc .long 16 (lts (updJ gc 0 ct)) ∧ Ary Z hE hi .int 16 (bts (updI gi 0 it)) ∧ Ary Z hE sn .int 4 (bts (updI gs (it.toNatClampNeg) (-1 : Int32)))
set_option maxRecDepth 65536 in
set_option maxHeartbeats 40000000 in
theorem rm_sd (l : Launch) (Z : State) (a0 : Array Value) (hw : ∀ d ∈ tables_1, d.before a0 Z = true) (ws : List Jvm.Cond) (f : Addr) (it : Int32) (ct : Int64) (hc : Addr) (hi : Addr) (sn : Addr) (gc : Nat → Int64) (gi : Nat → Int32) (gs : Nat → Int32) (h0 : Heap) (n0 : Nat) (Z0 : n0 ≤ h0.size) (pr0 : Exa Z h0 f "com/example/nearpath/nearpath/answer/Frontier") (pr1 : Fld Z h0 f "com/example/nearpath/nearpath/answer/Frontier" "seen" "[I" (.ref sn)) (pr2 : Fld Z h0 f "com/example/nearpath/nearpath/answer/Frontier" "heapCosts" "[J" (.ref hc)) (pr3 : Fld Z h0 f "com/example/nearpath/nearpath/answer/Frontier" "heapItems" "[I" (.ref hi)) (pr4 : Fld Z h0 f "com/example/nearpath/nearpath/answer/Frontier" "heapSize" "I" (.int (1 : Int32))) (pr5 : Ary Z h0 hc .long 16 (lts gc)) (pr6 : Ary Z h0 hi .int 16 (bts gi)) (pr7 : Ary Z h0 sn .int 4 (bts gs)) (pr8 : In4 it) (pr9 : n0 ≤ hc) (pr10 : n0 ≤ hi) (pr11 : n0 ≤ sn) (pr12 : f ≠ hc) (pr13 : f ≠ hi) (pr14 : f ≠ sn) (pr15 : hc ≠ hi) (pr16 : hc ≠ sn) (pr17 : hi ≠ sn) :
    MetFree l (⟨"com/example/nearpath/nearpath/answer/Frontier", "siftDown", "(IJ)V"⟩ : MethodName) (head1 (Jvm.Cond.code (⟨"com/example/nearpath/nearpath/answer/Frontier", "siftDown", "(IJ)V"⟩ : MethodName) prog_12_method_7_code 6 none :: ws) ({ frames := 1, cells := 0, slots := 0, locals := 16 } : Room)) (fun aa UU => aa = #[(.ref f), (.int it), (.long ct)] ∧ Z.Warmed39 UU.vm ∧ UU.heap = h0) (fun _ _ _ _ _ => True) (fun _ UU oo UU' => ∃ vv LL, oo = .returned vv ∧ Q_sd Z f it ct hc hi sn gc gi gs h0 n0 vv UU'.heap LL ∧ FrameEnd UU oo UU' LL ({ frames := 1, cells := 0, slots := 0, locals := 16 } : Room).cells ({ frames := 1, cells := 0, slots := 0, locals := 16 } : Room).slots) := by
  refine MetFree.of_bodySF (plainFor_of_name pn_0) hisR ?_
  intro p e s m args below meth c s₁ Bd hml0 hP hK
  obtain ⟨rfl, hZ, hh⟩ := hP
  have hx := Bd.exec
  have hby := Bd.bytes
  have hml : c.maxLocals = 6 := hml0
  have hown : s.vm.findClass "com/example/nearpath/nearpath/answer/Frontier" = some m.cls := findClass_of_methodNamed Bd.named
  have hnm := (name_of_methodNamed Bd.named Bd.method).1
  have X0 : Stand p l e ({ frames := 1, cells := 0, slots := 0, locals := 16 } : Room) s m #[(.ref f), (.int it), (.long ct)] below meth c s₁ [] 0 0 := Stand.of_body Bd
  have e0 : s₁.heap = h0 := by rw [← hh, Bd.state]; rfl
  have N0 := Fr.nil n0
  have K0 := Keep.refl h0 [hc, hi, sn]
  show Go p e below s (Q_sd Z f it ct hc hi sn gc gi gs h0 n0) 0 0 s₁ (entryFrame m #[(.ref f), (.int it), (.long ct)] 6)
  refine Go.of_eq (ef_sd m f it ct) ?_
  refine Go.st (mkF m 1 #[.val (.ref f), .val (.int it), .val (.long ct), .second, .unset, .unset] [(.int (0 : Int32))]) (fun _ k => XS.iconst X0.here hx rfl (hb hby dsd_0) k) ?_
  refine Go.st (mkF m 3 #[.val (.ref f), .val (.int it), .val (.long ct), .second, .val (.int (0 : Int32)), .unset] []) (fun _ k => XS.istore X0.here hx rfl (hb hby dsd_1) rfl (l' := #[.val (.ref f), .val (.int it), .val (.long ct), .second, .val (.int (0 : Int32)), .unset]) rfl k) ?_
  refine Go.st (mkF m 4 #[.val (.ref f), .val (.int it), .val (.long ct), .second, .val (.int (0 : Int32)), .unset] [(.int (2 : Int32))]) (fun _ k => XS.iconst X0.here hx rfl (hb hby dsd_3) k) ?_
  refine Go.st (mkF m 6 #[.val (.ref f), .val (.int it), .val (.long ct), .second, .val (.int (0 : Int32)), .unset] [(.int (0 : Int32)), (.int (2 : Int32))]) (fun _ k => XS.iload X0.here hx rfl (hb hby dsd_4) rfl k) ?_
  refine Go.st (mkF m 7 #[.val (.ref f), .val (.int it), .val (.long ct), .second, .val (.int (0 : Int32)), .unset] [(.int (0 : Int32))]) (fun _ k => XS.imul X0.here hx rfl (hb hby dsd_6) rfl k) ?_
  refine Go.st (mkF m 8 #[.val (.ref f), .val (.int it), .val (.long ct), .second, .val (.int (0 : Int32)), .unset] [(.int (1 : Int32)), (.int (0 : Int32))]) (fun _ k => XS.iconst X0.here hx rfl (hb hby dsd_7) k) ?_
  refine Go.st (mkF m 9 #[.val (.ref f), .val (.int it), .val (.long ct), .second, .val (.int (0 : Int32)), .unset] [(.int (1 : Int32))]) (fun _ k => XS.iadd X0.here hx rfl (hb hby dsd_8) rfl k) ?_
  refine Go.st (mkF m 10 #[.val (.ref f), .val (.int it), .val (.long ct), .second, .val (.int (0 : Int32)), .unset] [(.ref f), (.int (1 : Int32))]) (fun _ k => XS.aloadN X0.here hx rfl (hb hby dsd_9) rfl rfl k) ?_
  obtain ⟨T1, X1, e1, st1⟩ := getF X0 hx hZ hown (host := "") (Or.inl (hw _ (List.mem_of_getElem? (i := 27) rfl))) Via.refl e0 pr4 (g := (mkF m 10 #[.val (.ref f), .val (.int it), .val (.long ct), .second, .val (.int (0 : Int32)), .unset] [(.ref f), (.int (1 : Int32))])) rfl rfl (hb hby dsd_10)
  refine Go.st (mkF m 13 #[.val (.ref f), .val (.int it), .val (.long ct), .second, .val (.int (0 : Int32)), .unset] [(.int (1 : Int32)), (.int (1 : Int32))]) (fun _ k => st1 _ k) ?_
  refine Go.st (mkF m 100 #[.val (.ref f), .val (.int it), .val (.long ct), .second, .val (.int (0 : Int32)), .unset] []) (fun _ k => XS.icmpYes X1.here hx rfl (pc0 := 13) (pc' := 100) rfl (hb hby dsd_13) rfl (flt (by decide : ¬ ((1 : Int32) < (1 : Int32)))).2.1 (by decide) (by decide) k) ?_
  refine Go.st (mkF m 101 #[.val (.ref f), .val (.int it), .val (.long ct), .second, .val (.int (0 : Int32)), .unset] [(.ref f)]) (fun _ k => XS.aloadN X1.here hx rfl (hb hby dsd_100) rfl rfl k) ?_
  refine Go.st (mkF m 102 #[.val (.ref f), .val (.int it), .val (.long ct), .second, .val (.int (0 : Int32)), .unset] [(.int it), (.ref f)]) (fun _ k => XS.iloadN X1.here hx rfl (hb hby dsd_101) rfl k) ?_
  refine Go.st (mkF m 103 #[.val (.ref f), .val (.int it), .val (.long ct), .second, .val (.int (0 : Int32)), .unset] [(.long ct), (.int it), (.ref f)]) (fun _ k => XT.lloadN X1.here hx rfl (hb hby dsd_102) rfl k) ?_
  refine Go.st (mkF m 105 #[.val (.ref f), .val (.int it), .val (.long ct), .second, .val (.int (0 : Int32)), .unset] [(.int (0 : Int32)), (.long ct), (.int it), (.ref f)]) (fun _ k => XS.iload X1.here hx rfl (hb hby dsd_103) rfl k) ?_
  obtain ⟨cq2, q2a, q2b⟩ := pr0.cell
  have sl2 := selI (args := #[(.ref f), (.int it), (.long ct)]) hZ (hw _ (List.mem_of_getElem? (i := 1) rfl)) (hw _ (List.mem_of_getElem? (i := 61) rfl)) (hw _ (List.mem_of_getElem? (i := 60) rfl)) (by decide)
  obtain ⟨_, _, ⟨T2, L2, k2, n2⟩, -, X2, ⟨Lc2, hQ2, l2, y2, z2⟩, st2⟩ := X1.privateBack hx (y := (⟨"com/example/nearpath/nearpath/answer/Frontier", "place", "(IJI)V"⟩ : MethodName)) hown (mvT hZ (hw _ (List.mem_of_getElem? (i := 59) rfl))) (mvT hZ (hw _ (List.mem_of_getElem? (i := 60) rfl))) sl2.1 sl2.2 (mvT hZ (hw _ (List.mem_of_getElem? (i := 62) rfl))) (by decide) (backOf (W := 0) (rm_pl0 l Z a0 hw [] f it ct hc hi sn gc gi gs h0 n0 (Nat.le_trans Z0 K0.1) pr1 pr2 pr3 pr5 pr6 pr7 pr8 pr9 pr10 pr11 pr12 pr13 pr14 pr15 pr16 pr17) hZ (hw _ (List.mem_of_getElem? (i := 62) rfl)) (hw _ (List.mem_of_getElem? (i := 2) rfl)) (by decide) (by decide)) (g := (mkF m 105 #[.val (.ref f), .val (.int it), .val (.long ct), .second, .val (.int (0 : Int32)), .unset] [(.int (0 : Int32)), (.long ct), (.int it), (.ref f)])) rfl (by rw [hml]; rfl) (Steps.refl _) (a := f) (by rw [e1]; exact q2a) q2b (argsL := [(.int it), (.long ct), (.int (0 : Int32))]) (rest := []) (lenOf pd_0 rfl) rfl (by show 2 * 0 + _ ≤ _; exact Nat.le_of_eq rfl) (hb hby dsd_105) (fun _ _ => ⟨rfl, e1, (by decide : 0 + 0 ≤ _), (by decide : 0 + 0 ≤ _)⟩)
  dsimp only [Pt.U, Pt.locs, Pt.cells, Pt.slots] at X2 l2 y2 z2 st2 hQ2
  subst l2 y2 z2
  obtain ⟨rfl, N2q, K2q, V2_0, V2_1, V2_2⟩ := hQ2
  have N2 := Fr.app N0 N2q
  have E3q : Exa Z T2.heap f "com/example/nearpath/nearpath/answer/Frontier" := pr0.keep K2q
  have F4 : Fld Z T2.heap f "com/example/nearpath/nearpath/answer/Frontier" "seen" "[I" (.ref sn) := pr1.keep K2q (ninS pr12 (ninS pr13 (ninS pr14 nin0)))
  have F5 : Fld Z T2.heap f "com/example/nearpath/nearpath/answer/Frontier" "heapCosts" "[J" (.ref hc) := pr2.keep K2q (ninS pr12 (ninS pr13 (ninS pr14 nin0)))
  have F6 : Fld Z T2.heap f "com/example/nearpath/nearpath/answer/Frontier" "heapItems" "[I" (.ref hi) := pr3.keep K2q (ninS pr12 (ninS pr13 (ninS pr14 nin0)))
  have F7 : Fld Z T2.heap f "com/example/nearpath/nearpath/answer/Frontier" "heapSize" "I" (.int (1 : Int32)) := pr4.keep K2q (ninS pr12 (ninS pr13 (ninS pr14 nin0)))
  have K2 : Keep h0 T2.heap [hc, hi, sn] := K0.trans K2q (allS (Or.inl (by simp)) (allS (Or.inl (by simp)) (allS (Or.inl (by simp)) all0)))
  refine Go.st (mkF m 108 #[.val (.ref f), .val (.int it), .val (.long ct), .second, .val (.int (0 : Int32)), .unset] []) (fun _ k => st2.trans k) ?_
  exact Go.retV X2 hx Bd.notSynchronized Bd.returns (hb hby dsd_108) ⟨rfl, N2, K2, V2_0, V2_1, V2_2⟩ (by decide) (by decide)
theorem dss0_0 : decode prog_12_method_2_code 0 = .ok (.iconst 0, 1) := by decide +kernel
theorem dss0_1 : decode prog_12_method_2_code 1 = .ok (.istore_n 1, 1) := by decide +kernel
theorem dss0_2 : decode prog_12_method_2_code 2 = .ok (.iload_n 1, 1) := by decide +kernel
theorem dss0_3 : decode prog_12_method_2_code 3 = .ok (.aload_n 0, 1) := by decide +kernel
theorem dss0_4 : decode prog_12_method_2_code 4 = .ok (.getfield 27, 3) := by decide +kernel
theorem dss0_7 : decode prog_12_method_2_code 7 = .ok (.if_icmp .ge 21, 3) := by decide +kernel
theorem dss0_28 : decode prog_12_method_2_code 28 = .ok (.aload_n 0, 1) := by decide +kernel
theorem dss0_29 : decode prog_12_method_2_code 29 = .ok (.iconst 0, 1) := by decide +kernel
theorem dss0_30 : decode prog_12_method_2_code 30 = .ok (.putfield 27, 3) := by decide +kernel
theorem dss0_33 : decode prog_12_method_2_code 33 = .ok (.aload_n 0, 1) := by decide +kernel
theorem dss0_34 : decode prog_12_method_2_code 34 = .ok (.iconst 0, 1) := by decide +kernel
theorem dss0_35 : decode prog_12_method_2_code 35 = .ok (.putfield 31, 3) := by decide +kernel
theorem dss0_38 : decode prog_12_method_2_code 38 = .ok (.aload_n 0, 1) := by decide +kernel
theorem dss0_39 : decode prog_12_method_2_code 39 = .ok (.iconst 0, 1) := by decide +kernel
theorem dss0_40 : decode prog_12_method_2_code 40 = .ok (.putfield 34, 3) := by decide +kernel
theorem dss0_43 : decode prog_12_method_2_code 43 = .ok (.aload_n 0, 1) := by decide +kernel
theorem dss0_44 : decode prog_12_method_2_code 44 = .ok (.lconst 0, 1) := by decide +kernel
theorem dss0_45 : decode prog_12_method_2_code 45 = .ok (.putfield 37, 3) := by decide +kernel
theorem dss0_48 : decode prog_12_method_2_code 48 = .ok (.aload_n 0, 1) := by decide +kernel
theorem dss0_49 : decode prog_12_method_2_code 49 = .ok (.dup, 1) := by decide +kernel
theorem dss0_50 : decode prog_12_method_2_code 50 = .ok (.getfield 40, 3) := by decide +kernel
theorem dss0_53 : decode prog_12_method_2_code 53 = .ok (.iconst 1, 1) := by decide +kernel
theorem dss0_54 : decode prog_12_method_2_code 54 = .ok (.iadd, 1) := by decide +kernel
theorem dss0_55 : decode prog_12_method_2_code 55 = .ok (.dup_x1, 1) := by decide +kernel
theorem dss0_56 : decode prog_12_method_2_code 56 = .ok (.putfield 40, 3) := by decide +kernel
theorem dss0_59 : decode prog_12_method_2_code 59 = .ok (.ireturn, 1) := by decide +kernel
theorem ef_ss0 (m : MethodId) (f : Addr) : entryFrame m #[(.ref f)] 2 = (mkF m 0 #[.val (.ref f), .unset] []) := by first | (simp [entryFrame, mkF, argsToLocals, Value.category]; done) | rfl
def Q_ss0 (Z : State) (f : Addr) (lv : Addr) (hc : Addr) (hi : Addr) (sn : Addr) (vS : Int32) (vc : Int64) (lh : Int32) (lt : Int32) (gi : Nat → Int32) (gs : Nat → Int32) (h0 : Heap) (n0 : Nat) (vv : Option Value) (hE : Heap) (LE : List Loc) : Prop := vv = some (.int (vS + (1 : Int32))) ∧ Fr n0 LE ∧ Keep h0 hE [f] ∧ Fld Z hE f "com/example/nearpath/nearpath/answer/Frontier" "seen" "[I" (.ref sn) ∧ Fld Z hE f "com/example/nearpath/nearpath/answer/Frontier" "maxCost" "J" (.long (3 : Int64)) ∧ Fld Z hE f "com/example/nearpath/nearpath/answer/Frontier" "search" "I" (.int (vS + (1 : Int32))) ∧ Fld Z hE f "com/example/nearpath/nearpath/answer/Frontier" "cost" "J" (.long (0 : Int64)) ∧ Fld Z hE f "com/example/nearpath/nearpath/answer/Frontier" "level" "[I" (.ref lv) ∧ Fld Z hE f "com/example/nearpath/nearpath/answer/Frontier" "levelHead" "I" (.int (0 : Int32)) ∧ Fld Z hE f "com/example/nearpath/nearpath/answer/Frontier" "levelTail" "I" (.int (0 : Int32)) ∧ Fld Z hE f "com/example/nearpath/nearpath/answer/Frontier" "heapCosts" "[J" (.ref hc) ∧ Fld Z hE f "com/example/nearpath/nearpath/answer/Frontier" "heapItems" "[I" (.ref hi) ∧ Fld Z hE f "com/example/nearpath/nearpath/answer/Frontier" "heapSize" "I" (.int (0 : Int32))
set_option maxRecDepth 65536 in
set_option maxHeartbeats 40000000 in
theorem rm_ss0 (l : Launch) (Z : State) (a0 : Array Value) (hw : ∀ d ∈ tables_1, d.before a0 Z = true) (ws : List Jvm.Cond) (f : Addr) (lv : Addr) (hc : Addr) (hi : Addr) (sn : Addr) (vS : Int32) (vc : Int64) (lh : Int32) (lt : Int32) (gi : Nat → Int32) (gs : Nat → Int32) (h0 : Heap) (n0 : Nat) (Z0 : n0 ≤ h0.size) (pr0 : Exa Z h0 f "com/example/nearpath/nearpath/answer/Frontier") (pr1 : Fld Z h0 f "com/example/nearpath/nearpath/answer/Frontier" "seen" "[I" (.ref sn)) (pr2 : Fld Z h0 f "com/example/nearpath/nearpath/answer/Frontier" "maxCost" "J" (.long (3 : Int64))) (pr3 : Fld Z h0 f "com/example/nearpath/nearpath/answer/Frontier" "search" "I" (.int vS)) (pr4 : Fld Z h0 f "com/example/nearpath/nearpath/answer/Frontier" "cost" "J" (.long vc)) (pr5 : Fld Z h0 f "com/example/nearpath/nearpath/answer/Frontier" "level" "[I" (.ref lv)) (pr6 : Fld Z h0 f "com/example/nearpath/nearpath/answer/Frontier" "levelHead" "I" (.int lh)) (pr7 : Fld Z h0 f "com/example/nearpath/nearpath/answer/Frontier" "levelTail" "I" (.int lt)) (pr8 : Fld Z h0 f "com/example/nearpath/nearpath/answer/Frontier" "heapCosts" "[J" (.ref hc)) (pr9 : Fld Z h0 f "com/example/nearpath/nearpath/answer/Frontier" "heapItems" "[I" (.ref hi)) (pr10 : Fld Z h0 f "com/example/nearpath/nearpath/answer/Frontier" "heapSize" "I" (.int (0 : Int32))) (pr11 : Ary Z h0 hi .int 16 (bts gi)) (pr12 : Ary Z h0 sn .int 4 (bts gs)) (pr13 : n0 ≤ f) (pr14 : n0 ≤ sn) (pr15 : f ≠ hi) (pr16 : f ≠ sn) (pr17 : hi ≠ sn) :
    MetFree l (⟨"com/example/nearpath/nearpath/answer/Frontier", "startSearch", "()I"⟩ : MethodName) (head1 (Jvm.Cond.code (⟨"com/example/nearpath/nearpath/answer/Frontier", "startSearch", "()I"⟩ : MethodName) prog_12_method_2_code 2 (some .int) :: ws) ({ frames := 0, cells := 0, slots := 0, locals := 0 } : Room)) (fun aa UU => aa = #[(.ref f)] ∧ Z.Warmed39 UU.vm ∧ UU.heap = h0) (fun _ _ _ _ _ => True) (fun _ UU oo UU' => ∃ vv LL, oo = .returned vv ∧ Q_ss0 Z f lv hc hi sn vS vc lh lt gi gs h0 n0 vv UU'.heap LL ∧ FrameEnd UU oo UU' LL ({ frames := 0, cells := 0, slots := 0, locals := 0 } : Room).cells ({ frames := 0, cells := 0, slots := 0, locals := 0 } : Room).slots) := by
  refine MetFree.of_bodySF (plainFor_of_name pn_0) hisR ?_
  intro p e s m args below meth c s₁ Bd hml0 hP hK
  obtain ⟨rfl, hZ, hh⟩ := hP
  have hx := Bd.exec
  have hby := Bd.bytes
  have hml : c.maxLocals = 2 := hml0
  have hown : s.vm.findClass "com/example/nearpath/nearpath/answer/Frontier" = some m.cls := findClass_of_methodNamed Bd.named
  have hnm := (name_of_methodNamed Bd.named Bd.method).1
  have X0 : Stand p l e ({ frames := 0, cells := 0, slots := 0, locals := 0 } : Room) s m #[(.ref f)] below meth c s₁ [] 0 0 := Stand.of_body Bd
  have e0 : s₁.heap = h0 := by rw [← hh, Bd.state]; rfl
  have N0 := Fr.nil n0
  have K0 := Keep.refl h0 [f]
  show Go p e below s (Q_ss0 Z f lv hc hi sn vS vc lh lt gi gs h0 n0) 0 0 s₁ (entryFrame m #[(.ref f)] 2)
  refine Go.of_eq (ef_ss0 m f) ?_
  refine Go.st (mkF m 1 #[.val (.ref f), .unset] [(.int (0 : Int32))]) (fun _ k => XS.iconst X0.here hx rfl (hb hby dss0_0) k) ?_
  refine Go.st (mkF m 2 #[.val (.ref f), .val (.int (0 : Int32))] []) (fun _ k => XS.istoreN X0.here hx rfl (hb hby dss0_1) rfl (l' := #[.val (.ref f), .val (.int (0 : Int32))]) rfl k) ?_
  refine Go.st (mkF m 3 #[.val (.ref f), .val (.int (0 : Int32))] [(.int (0 : Int32))]) (fun _ k => XS.iloadN X0.here hx rfl (hb hby dss0_2) rfl k) ?_
  refine Go.st (mkF m 4 #[.val (.ref f), .val (.int (0 : Int32))] [(.ref f), (.int (0 : Int32))]) (fun _ k => XS.aloadN X0.here hx rfl (hb hby dss0_3) rfl rfl k) ?_
  obtain ⟨T1, X1, e1, st1⟩ := getF X0 hx hZ hown (host := "") (Or.inl (hw _ (List.mem_of_getElem? (i := 27) rfl))) Via.refl e0 pr10 (g := (mkF m 4 #[.val (.ref f), .val (.int (0 : Int32))] [(.ref f), (.int (0 : Int32))])) rfl rfl (hb hby dss0_4)
  refine Go.st (mkF m 7 #[.val (.ref f), .val (.int (0 : Int32))] [(.int (0 : Int32)), (.int (0 : Int32))]) (fun _ k => st1 _ k) ?_
  refine Go.st (mkF m 28 #[.val (.ref f), .val (.int (0 : Int32))] []) (fun _ k => XS.icmpYes X1.here hx rfl (pc0 := 7) (pc' := 28) rfl (hb hby dss0_7) rfl (flt (by decide : ¬ ((0 : Int32) < (0 : Int32)))).2.1 (by decide) (by decide) k) ?_
  refine Go.st (mkF m 29 #[.val (.ref f), .val (.int (0 : Int32))] [(.ref f)]) (fun _ k => XS.aloadN X1.here hx rfl (hb hby dss0_28) rfl rfl k) ?_
  refine Go.st (mkF m 30 #[.val (.ref f), .val (.int (0 : Int32))] [(.int (0 : Int32)), (.ref f)]) (fun _ k => XS.iconst X1.here hx rfl (hb hby dss0_29) k) ?_
  obtain ⟨T2, h2, X2, e2, W2, st2⟩ := putF X1 hx hZ hown (host := "") (Or.inl (hw _ (List.mem_of_getElem? (i := 27) rfl))) Via.refl e1 pr10 pr0 (Or.inl (hw _ (List.mem_of_getElem? (i := 28) rfl))) (hw _ (List.mem_of_getElem? (i := 1) rfl)) (ty := .int) (by decide) rfl rfl (g := (mkF m 30 #[.val (.ref f), .val (.int (0 : Int32))] [(.int (0 : Int32)), (.ref f)])) rfl rfl (hb hby dss0_30)
  have E3q : Exa Z h2 f "com/example/nearpath/nearpath/answer/Frontier" := pr0.wr W2
  have F4 : Fld Z h2 f "com/example/nearpath/nearpath/answer/Frontier" "seen" "[I" (.ref sn) := pr1.other W2 (Or.inr (slot_ne (Or.inr (hw _ (List.mem_of_getElem? (i := 19) rfl))) (Or.inl (hw _ (List.mem_of_getElem? (i := 28) rfl))) (by decide) (t := (.array .int)) (t' := .int) (by decide) (by decide)))
  have F5 : Fld Z h2 f "com/example/nearpath/nearpath/answer/Frontier" "maxCost" "J" (.long (3 : Int64)) := pr2.other W2 (Or.inr (slot_ne (Or.inr (hw _ (List.mem_of_getElem? (i := 21) rfl))) (Or.inl (hw _ (List.mem_of_getElem? (i := 28) rfl))) (by decide) (t := .long) (t' := .int) (by decide) (by decide)))
  have F6 : Fld Z h2 f "com/example/nearpath/nearpath/answer/Frontier" "search" "I" (.int vS) := pr3.other W2 (Or.inr (slot_ne (Or.inl (hw _ (List.mem_of_getElem? (i := 36) rfl))) (Or.inl (hw _ (List.mem_of_getElem? (i := 28) rfl))) (by decide) (t := .int) (t' := .int) (by decide) (by decide)))
  have F7 : Fld Z h2 f "com/example/nearpath/nearpath/answer/Frontier" "cost" "J" (.long vc) := pr4.other W2 (Or.inr (slot_ne (Or.inl (hw _ (List.mem_of_getElem? (i := 34) rfl))) (Or.inl (hw _ (List.mem_of_getElem? (i := 28) rfl))) (by decide) (t := .long) (t' := .int) (by decide) (by decide)))
  have F8 : Fld Z h2 f "com/example/nearpath/nearpath/answer/Frontier" "level" "[I" (.ref lv) := pr5.other W2 (Or.inr (slot_ne (Or.inl (hw _ (List.mem_of_getElem? (i := 12) rfl))) (Or.inl (hw _ (List.mem_of_getElem? (i := 28) rfl))) (by decide) (t := (.array .int)) (t' := .int) (by decide) (by decide)))
  have F9 : Fld Z h2 f "com/example/nearpath/nearpath/answer/Frontier" "levelHead" "I" (.int lh) := pr6.other W2 (Or.inr (slot_ne (Or.inl (hw _ (List.mem_of_getElem? (i := 30) rfl))) (Or.inl (hw _ (List.mem_of_getElem? (i := 28) rfl))) (by decide) (t := .int) (t' := .int) (by decide) (by decide)))
  have F10 : Fld Z h2 f "com/example/nearpath/nearpath/answer/Frontier" "levelTail" "I" (.int lt) := pr7.other W2 (Or.inr (slot_ne (Or.inl (hw _ (List.mem_of_getElem? (i := 32) rfl))) (Or.inl (hw _ (List.mem_of_getElem? (i := 28) rfl))) (by decide) (t := .int) (t' := .int) (by decide) (by decide)))
  have F11 : Fld Z h2 f "com/example/nearpath/nearpath/answer/Frontier" "heapCosts" "[J" (.ref hc) := pr8.other W2 (Or.inr (slot_ne (Or.inl (hw _ (List.mem_of_getElem? (i := 15) rfl))) (Or.inl (hw _ (List.mem_of_getElem? (i := 28) rfl))) (by decide) (t := (.array .long)) (t' := .int) (by decide) (by decide)))
  have F12 : Fld Z h2 f "com/example/nearpath/nearpath/answer/Frontier" "heapItems" "[I" (.ref hi) := pr9.other W2 (Or.inr (slot_ne (Or.inl (hw _ (List.mem_of_getElem? (i := 17) rfl))) (Or.inl (hw _ (List.mem_of_getElem? (i := 28) rfl))) (by decide) (t := (.array .int)) (t' := .int) (by decide) (by decide)))
  have F13 : Fld Z h2 f "com/example/nearpath/nearpath/answer/Frontier" "heapSize" "I" (.int (0 : Int32)) := pr10.same W2
  have V14 : Ary Z h2 hi .int 16 (bts gi) := pr11.other W2 (Ne.symm pr15)
  have V15 : Ary Z h2 sn .int 4 (bts gs) := pr12.other W2 (Ne.symm pr16)
  have K2 : Keep h0 h2 [f] := K0.wr W2 (Or.inl (by simp))
  have N2 := Fr.snoc X2 N0 pr13
  refine Go.st (mkF m 33 #[.val (.ref f), .val (.int (0 : Int32))] []) (fun _ k => st2 _ k) ?_
  refine Go.st (mkF m 34 #[.val (.ref f), .val (.int (0 : Int32))] [(.ref f)]) (fun _ k => XS.aloadN X2.here hx rfl (hb hby dss0_33) rfl rfl k) ?_
  refine Go.st (mkF m 35 #[.val (.ref f), .val (.int (0 : Int32))] [(.int (0 : Int32)), (.ref f)]) (fun _ k => XS.iconst X2.here hx rfl (hb hby dss0_34) k) ?_
  obtain ⟨T16, h16, X16, e16, W16, st16⟩ := putF X2 hx hZ hown (host := "") (Or.inl (hw _ (List.mem_of_getElem? (i := 29) rfl))) Via.refl e2 F9 E3q (Or.inl (hw _ (List.mem_of_getElem? (i := 30) rfl))) (hw _ (List.mem_of_getElem? (i := 1) rfl)) (ty := .int) (by decide) rfl rfl (g := (mkF m 35 #[.val (.ref f), .val (.int (0 : Int32))] [(.int (0 : Int32)), (.ref f)])) rfl rfl (hb hby dss0_35)
  have E17q : Exa Z h16 f "com/example/nearpath/nearpath/answer/Frontier" := E3q.wr W16
  have F18 : Fld Z h16 f "com/example/nearpath/nearpath/answer/Frontier" "seen" "[I" (.ref sn) := F4.other W16 (Or.inr (slot_ne (Or.inr (hw _ (List.mem_of_getElem? (i := 19) rfl))) (Or.inl (hw _ (List.mem_of_getElem? (i := 30) rfl))) (by decide) (t := (.array .int)) (t' := .int) (by decide) (by decide)))
  have F19 : Fld Z h16 f "com/example/nearpath/nearpath/answer/Frontier" "maxCost" "J" (.long (3 : Int64)) := F5.other W16 (Or.inr (slot_ne (Or.inr (hw _ (List.mem_of_getElem? (i := 21) rfl))) (Or.inl (hw _ (List.mem_of_getElem? (i := 30) rfl))) (by decide) (t := .long) (t' := .int) (by decide) (by decide)))
  have F20 : Fld Z h16 f "com/example/nearpath/nearpath/answer/Frontier" "search" "I" (.int vS) := F6.other W16 (Or.inr (slot_ne (Or.inl (hw _ (List.mem_of_getElem? (i := 36) rfl))) (Or.inl (hw _ (List.mem_of_getElem? (i := 30) rfl))) (by decide) (t := .int) (t' := .int) (by decide) (by decide)))
  have F21 : Fld Z h16 f "com/example/nearpath/nearpath/answer/Frontier" "cost" "J" (.long vc) := F7.other W16 (Or.inr (slot_ne (Or.inl (hw _ (List.mem_of_getElem? (i := 34) rfl))) (Or.inl (hw _ (List.mem_of_getElem? (i := 30) rfl))) (by decide) (t := .long) (t' := .int) (by decide) (by decide)))
  have F22 : Fld Z h16 f "com/example/nearpath/nearpath/answer/Frontier" "level" "[I" (.ref lv) := F8.other W16 (Or.inr (slot_ne (Or.inl (hw _ (List.mem_of_getElem? (i := 12) rfl))) (Or.inl (hw _ (List.mem_of_getElem? (i := 30) rfl))) (by decide) (t := (.array .int)) (t' := .int) (by decide) (by decide)))
  have F23 : Fld Z h16 f "com/example/nearpath/nearpath/answer/Frontier" "levelHead" "I" (.int (0 : Int32)) := F9.same W16
  have F24 : Fld Z h16 f "com/example/nearpath/nearpath/answer/Frontier" "levelTail" "I" (.int lt) := F10.other W16 (Or.inr (slot_ne (Or.inl (hw _ (List.mem_of_getElem? (i := 32) rfl))) (Or.inl (hw _ (List.mem_of_getElem? (i := 30) rfl))) (by decide) (t := .int) (t' := .int) (by decide) (by decide)))
  have F25 : Fld Z h16 f "com/example/nearpath/nearpath/answer/Frontier" "heapCosts" "[J" (.ref hc) := F11.other W16 (Or.inr (slot_ne (Or.inl (hw _ (List.mem_of_getElem? (i := 15) rfl))) (Or.inl (hw _ (List.mem_of_getElem? (i := 30) rfl))) (by decide) (t := (.array .long)) (t' := .int) (by decide) (by decide)))
  have F26 : Fld Z h16 f "com/example/nearpath/nearpath/answer/Frontier" "heapItems" "[I" (.ref hi) := F12.other W16 (Or.inr (slot_ne (Or.inl (hw _ (List.mem_of_getElem? (i := 17) rfl))) (Or.inl (hw _ (List.mem_of_getElem? (i := 30) rfl))) (by decide) (t := (.array .int)) (t' := .int) (by decide) (by decide)))
  have F27 : Fld Z h16 f "com/example/nearpath/nearpath/answer/Frontier" "heapSize" "I" (.int (0 : Int32)) := F13.other W16 (Or.inr (slot_ne (Or.inl (hw _ (List.mem_of_getElem? (i := 28) rfl))) (Or.inl (hw _ (List.mem_of_getElem? (i := 30) rfl))) (by decide) (t := .int) (t' := .int) (by decide) (by decide)))
  have V28 : Ary Z h16 hi .int 16 (bts gi) := V14.other W16 (Ne.symm pr15)
  have V29 : Ary Z h16 sn .int 4 (bts gs) := V15.other W16 (Ne.symm pr16)
  have K16 : Keep h0 h16 [f] := K2.wr W16 (Or.inl (by simp))
  have N16 := Fr.snoc X16 N2 pr13
  refine Go.st (mkF m 38 #[.val (.ref f), .val (.int (0 : Int32))] []) (fun _ k => st16 _ k) ?_
  refine Go.st (mkF m 39 #[.val (.ref f), .val (.int (0 : Int32))] [(.ref f)]) (fun _ k => XS.aloadN X16.here hx rfl (hb hby dss0_38) rfl rfl k) ?_
  refine Go.st (mkF m 40 #[.val (.ref f), .val (.int (0 : Int32))] [(.int (0 : Int32)), (.ref f)]) (fun _ k => XS.iconst X16.here hx rfl (hb hby dss0_39) k) ?_
  obtain ⟨T30, h30, X30, e30, W30, st30⟩ := putF X16 hx hZ hown (host := "") (Or.inl (hw _ (List.mem_of_getElem? (i := 31) rfl))) Via.refl e16 F24 E17q (Or.inl (hw _ (List.mem_of_getElem? (i := 32) rfl))) (hw _ (List.mem_of_getElem? (i := 1) rfl)) (ty := .int) (by decide) rfl rfl (g := (mkF m 40 #[.val (.ref f), .val (.int (0 : Int32))] [(.int (0 : Int32)), (.ref f)])) rfl rfl (hb hby dss0_40)
  have E31q : Exa Z h30 f "com/example/nearpath/nearpath/answer/Frontier" := E17q.wr W30
  have F32 : Fld Z h30 f "com/example/nearpath/nearpath/answer/Frontier" "seen" "[I" (.ref sn) := F18.other W30 (Or.inr (slot_ne (Or.inr (hw _ (List.mem_of_getElem? (i := 19) rfl))) (Or.inl (hw _ (List.mem_of_getElem? (i := 32) rfl))) (by decide) (t := (.array .int)) (t' := .int) (by decide) (by decide)))
  have F33 : Fld Z h30 f "com/example/nearpath/nearpath/answer/Frontier" "maxCost" "J" (.long (3 : Int64)) := F19.other W30 (Or.inr (slot_ne (Or.inr (hw _ (List.mem_of_getElem? (i := 21) rfl))) (Or.inl (hw _ (List.mem_of_getElem? (i := 32) rfl))) (by decide) (t := .long) (t' := .int) (by decide) (by decide)))
  have F34 : Fld Z h30 f "com/example/nearpath/nearpath/answer/Frontier" "search" "I" (.int vS) := F20.other W30 (Or.inr (slot_ne (Or.inl (hw _ (List.mem_of_getElem? (i := 36) rfl))) (Or.inl (hw _ (List.mem_of_getElem? (i := 32) rfl))) (by decide) (t := .int) (t' := .int) (by decide) (by decide)))
  have F35 : Fld Z h30 f "com/example/nearpath/nearpath/answer/Frontier" "cost" "J" (.long vc) := F21.other W30 (Or.inr (slot_ne (Or.inl (hw _ (List.mem_of_getElem? (i := 34) rfl))) (Or.inl (hw _ (List.mem_of_getElem? (i := 32) rfl))) (by decide) (t := .long) (t' := .int) (by decide) (by decide)))
  have F36 : Fld Z h30 f "com/example/nearpath/nearpath/answer/Frontier" "level" "[I" (.ref lv) := F22.other W30 (Or.inr (slot_ne (Or.inl (hw _ (List.mem_of_getElem? (i := 12) rfl))) (Or.inl (hw _ (List.mem_of_getElem? (i := 32) rfl))) (by decide) (t := (.array .int)) (t' := .int) (by decide) (by decide)))
  have F37 : Fld Z h30 f "com/example/nearpath/nearpath/answer/Frontier" "levelHead" "I" (.int (0 : Int32)) := F23.other W30 (Or.inr (slot_ne (Or.inl (hw _ (List.mem_of_getElem? (i := 30) rfl))) (Or.inl (hw _ (List.mem_of_getElem? (i := 32) rfl))) (by decide) (t := .int) (t' := .int) (by decide) (by decide)))
  have F38 : Fld Z h30 f "com/example/nearpath/nearpath/answer/Frontier" "levelTail" "I" (.int (0 : Int32)) := F24.same W30
  have F39 : Fld Z h30 f "com/example/nearpath/nearpath/answer/Frontier" "heapCosts" "[J" (.ref hc) := F25.other W30 (Or.inr (slot_ne (Or.inl (hw _ (List.mem_of_getElem? (i := 15) rfl))) (Or.inl (hw _ (List.mem_of_getElem? (i := 32) rfl))) (by decide) (t := (.array .long)) (t' := .int) (by decide) (by decide)))
  have F40 : Fld Z h30 f "com/example/nearpath/nearpath/answer/Frontier" "heapItems" "[I" (.ref hi) := F26.other W30 (Or.inr (slot_ne (Or.inl (hw _ (List.mem_of_getElem? (i := 17) rfl))) (Or.inl (hw _ (List.mem_of_getElem? (i := 32) rfl))) (by decide) (t := (.array .int)) (t' := .int) (by decide) (by decide)))
  have F41 : Fld Z h30 f "com/example/nearpath/nearpath/answer/Frontier" "heapSize" "I" (.int (0 : Int32)) := F27.other W30 (Or.inr (slot_ne (Or.inl (hw _ (List.mem_of_getElem? (i := 28) rfl))) (Or.inl (hw _ (List.mem_of_getElem? (i := 32) rfl))) (by decide) (t := .int) (t' := .int) (by decide) (by decide)))
  have V42 : Ary Z h30 hi .int 16 (bts gi) := V28.other W30 (Ne.symm pr15)
  have V43 : Ary Z h30 sn .int 4 (bts gs) := V29.other W30 (Ne.symm pr16)
  have K30 : Keep h0 h30 [f] := K16.wr W30 (Or.inl (by simp))
  have N30 := Fr.snoc X30 N16 pr13
  refine Go.st (mkF m 43 #[.val (.ref f), .val (.int (0 : Int32))] []) (fun _ k => st30 _ k) ?_
  refine Go.st (mkF m 44 #[.val (.ref f), .val (.int (0 : Int32))] [(.ref f)]) (fun _ k => XS.aloadN X30.here hx rfl (hb hby dss0_43) rfl rfl k) ?_
  refine Go.st (mkF m 45 #[.val (.ref f), .val (.int (0 : Int32))] [(.long (0 : Int64)), (.ref f)]) (fun _ k => XT.lconst X30.here hx rfl (hb hby dss0_44) k) ?_
  obtain ⟨T44, h44, X44, e44, W44, st44⟩ := putF X30 hx hZ hown (host := "") (Or.inl (hw _ (List.mem_of_getElem? (i := 33) rfl))) Via.refl e30 F35 E31q (Or.inl (hw _ (List.mem_of_getElem? (i := 34) rfl))) (hw _ (List.mem_of_getElem? (i := 1) rfl)) (ty := .long) (by decide) rfl rfl (g := (mkF m 45 #[.val (.ref f), .val (.int (0 : Int32))] [(.long (0 : Int64)), (.ref f)])) rfl rfl (hb hby dss0_45)
  have E45q : Exa Z h44 f "com/example/nearpath/nearpath/answer/Frontier" := E31q.wr W44
  have F46 : Fld Z h44 f "com/example/nearpath/nearpath/answer/Frontier" "seen" "[I" (.ref sn) := F32.other W44 (Or.inr (slot_ne (Or.inr (hw _ (List.mem_of_getElem? (i := 19) rfl))) (Or.inl (hw _ (List.mem_of_getElem? (i := 34) rfl))) (by decide) (t := (.array .int)) (t' := .long) (by decide) (by decide)))
  have F47 : Fld Z h44 f "com/example/nearpath/nearpath/answer/Frontier" "maxCost" "J" (.long (3 : Int64)) := F33.other W44 (Or.inr (slot_ne (Or.inr (hw _ (List.mem_of_getElem? (i := 21) rfl))) (Or.inl (hw _ (List.mem_of_getElem? (i := 34) rfl))) (by decide) (t := .long) (t' := .long) (by decide) (by decide)))
  have F48 : Fld Z h44 f "com/example/nearpath/nearpath/answer/Frontier" "search" "I" (.int vS) := F34.other W44 (Or.inr (slot_ne (Or.inl (hw _ (List.mem_of_getElem? (i := 36) rfl))) (Or.inl (hw _ (List.mem_of_getElem? (i := 34) rfl))) (by decide) (t := .int) (t' := .long) (by decide) (by decide)))
  have F49 : Fld Z h44 f "com/example/nearpath/nearpath/answer/Frontier" "cost" "J" (.long (0 : Int64)) := F35.same W44
  have F50 : Fld Z h44 f "com/example/nearpath/nearpath/answer/Frontier" "level" "[I" (.ref lv) := F36.other W44 (Or.inr (slot_ne (Or.inl (hw _ (List.mem_of_getElem? (i := 12) rfl))) (Or.inl (hw _ (List.mem_of_getElem? (i := 34) rfl))) (by decide) (t := (.array .int)) (t' := .long) (by decide) (by decide)))
  have F51 : Fld Z h44 f "com/example/nearpath/nearpath/answer/Frontier" "levelHead" "I" (.int (0 : Int32)) := F37.other W44 (Or.inr (slot_ne (Or.inl (hw _ (List.mem_of_getElem? (i := 30) rfl))) (Or.inl (hw _ (List.mem_of_getElem? (i := 34) rfl))) (by decide) (t := .int) (t' := .long) (by decide) (by decide)))
  have F52 : Fld Z h44 f "com/example/nearpath/nearpath/answer/Frontier" "levelTail" "I" (.int (0 : Int32)) := F38.other W44 (Or.inr (slot_ne (Or.inl (hw _ (List.mem_of_getElem? (i := 32) rfl))) (Or.inl (hw _ (List.mem_of_getElem? (i := 34) rfl))) (by decide) (t := .int) (t' := .long) (by decide) (by decide)))
  have F53 : Fld Z h44 f "com/example/nearpath/nearpath/answer/Frontier" "heapCosts" "[J" (.ref hc) := F39.other W44 (Or.inr (slot_ne (Or.inl (hw _ (List.mem_of_getElem? (i := 15) rfl))) (Or.inl (hw _ (List.mem_of_getElem? (i := 34) rfl))) (by decide) (t := (.array .long)) (t' := .long) (by decide) (by decide)))
  have F54 : Fld Z h44 f "com/example/nearpath/nearpath/answer/Frontier" "heapItems" "[I" (.ref hi) := F40.other W44 (Or.inr (slot_ne (Or.inl (hw _ (List.mem_of_getElem? (i := 17) rfl))) (Or.inl (hw _ (List.mem_of_getElem? (i := 34) rfl))) (by decide) (t := (.array .int)) (t' := .long) (by decide) (by decide)))
  have F55 : Fld Z h44 f "com/example/nearpath/nearpath/answer/Frontier" "heapSize" "I" (.int (0 : Int32)) := F41.other W44 (Or.inr (slot_ne (Or.inl (hw _ (List.mem_of_getElem? (i := 28) rfl))) (Or.inl (hw _ (List.mem_of_getElem? (i := 34) rfl))) (by decide) (t := .int) (t' := .long) (by decide) (by decide)))
  have V56 : Ary Z h44 hi .int 16 (bts gi) := V42.other W44 (Ne.symm pr15)
  have V57 : Ary Z h44 sn .int 4 (bts gs) := V43.other W44 (Ne.symm pr16)
  have K44 : Keep h0 h44 [f] := K30.wr W44 (Or.inl (by simp))
  have N44 := Fr.snoc X44 N30 pr13
  refine Go.st (mkF m 48 #[.val (.ref f), .val (.int (0 : Int32))] []) (fun _ k => st44 _ k) ?_
  refine Go.st (mkF m 49 #[.val (.ref f), .val (.int (0 : Int32))] [(.ref f)]) (fun _ k => XS.aloadN X44.here hx rfl (hb hby dss0_48) rfl rfl k) ?_
  refine Go.st (mkF m 50 #[.val (.ref f), .val (.int (0 : Int32))] [(.ref f), (.ref f)]) (fun _ k => XS.dup X44.here hx rfl (hb hby dss0_49) rfl rfl k) ?_
  obtain ⟨T58, X58, e58, st58⟩ := getF X44 hx hZ hown (host := "") (Or.inl (hw _ (List.mem_of_getElem? (i := 35) rfl))) Via.refl e44 F48 (g := (mkF m 50 #[.val (.ref f), .val (.int (0 : Int32))] [(.ref f), (.ref f)])) rfl rfl (hb hby dss0_50)
  refine Go.st (mkF m 53 #[.val (.ref f), .val (.int (0 : Int32))] [(.int vS), (.ref f)]) (fun _ k => st58 _ k) ?_
  refine Go.st (mkF m 54 #[.val (.ref f), .val (.int (0 : Int32))] [(.int (1 : Int32)), (.int vS), (.ref f)]) (fun _ k => XS.iconst X58.here hx rfl (hb hby dss0_53) k) ?_
  refine Go.st (mkF m 55 #[.val (.ref f), .val (.int (0 : Int32))] [(.int (vS + (1 : Int32))), (.ref f)]) (fun _ k => XS.iadd X58.here hx rfl (hb hby dss0_54) rfl k) ?_
  refine Go.st (mkF m 56 #[.val (.ref f), .val (.int (0 : Int32))] [(.int (vS + (1 : Int32))), (.ref f), (.int (vS + (1 : Int32)))]) (fun _ k => XT.dupX1 X58.here hx rfl (hb hby dss0_55) rfl rfl rfl k) ?_
  obtain ⟨T59, h59, X59, e59, W59, st59⟩ := putF X58 hx hZ hown (host := "") (Or.inl (hw _ (List.mem_of_getElem? (i := 35) rfl))) Via.refl e58 F48 E45q (Or.inl (hw _ (List.mem_of_getElem? (i := 36) rfl))) (hw _ (List.mem_of_getElem? (i := 1) rfl)) (ty := .int) (by decide) rfl rfl (g := (mkF m 56 #[.val (.ref f), .val (.int (0 : Int32))] [(.int (vS + (1 : Int32))), (.ref f), (.int (vS + (1 : Int32)))])) rfl rfl (hb hby dss0_56)
  have E60q : Exa Z h59 f "com/example/nearpath/nearpath/answer/Frontier" := E45q.wr W59
  have F61 : Fld Z h59 f "com/example/nearpath/nearpath/answer/Frontier" "seen" "[I" (.ref sn) := F46.other W59 (Or.inr (slot_ne (Or.inr (hw _ (List.mem_of_getElem? (i := 19) rfl))) (Or.inl (hw _ (List.mem_of_getElem? (i := 36) rfl))) (by decide) (t := (.array .int)) (t' := .int) (by decide) (by decide)))
  have F62 : Fld Z h59 f "com/example/nearpath/nearpath/answer/Frontier" "maxCost" "J" (.long (3 : Int64)) := F47.other W59 (Or.inr (slot_ne (Or.inr (hw _ (List.mem_of_getElem? (i := 21) rfl))) (Or.inl (hw _ (List.mem_of_getElem? (i := 36) rfl))) (by decide) (t := .long) (t' := .int) (by decide) (by decide)))
  have F63 : Fld Z h59 f "com/example/nearpath/nearpath/answer/Frontier" "search" "I" (.int (vS + (1 : Int32))) := F48.same W59
  have F64 : Fld Z h59 f "com/example/nearpath/nearpath/answer/Frontier" "cost" "J" (.long (0 : Int64)) := F49.other W59 (Or.inr (slot_ne (Or.inl (hw _ (List.mem_of_getElem? (i := 34) rfl))) (Or.inl (hw _ (List.mem_of_getElem? (i := 36) rfl))) (by decide) (t := .long) (t' := .int) (by decide) (by decide)))
  have F65 : Fld Z h59 f "com/example/nearpath/nearpath/answer/Frontier" "level" "[I" (.ref lv) := F50.other W59 (Or.inr (slot_ne (Or.inl (hw _ (List.mem_of_getElem? (i := 12) rfl))) (Or.inl (hw _ (List.mem_of_getElem? (i := 36) rfl))) (by decide) (t := (.array .int)) (t' := .int) (by decide) (by decide)))
  have F66 : Fld Z h59 f "com/example/nearpath/nearpath/answer/Frontier" "levelHead" "I" (.int (0 : Int32)) := F51.other W59 (Or.inr (slot_ne (Or.inl (hw _ (List.mem_of_getElem? (i := 30) rfl))) (Or.inl (hw _ (List.mem_of_getElem? (i := 36) rfl))) (by decide) (t := .int) (t' := .int) (by decide) (by decide)))
  have F67 : Fld Z h59 f "com/example/nearpath/nearpath/answer/Frontier" "levelTail" "I" (.int (0 : Int32)) := F52.other W59 (Or.inr (slot_ne (Or.inl (hw _ (List.mem_of_getElem? (i := 32) rfl))) (Or.inl (hw _ (List.mem_of_getElem? (i := 36) rfl))) (by decide) (t := .int) (t' := .int) (by decide) (by decide)))
  have F68 : Fld Z h59 f "com/example/nearpath/nearpath/answer/Frontier" "heapCosts" "[J" (.ref hc) := F53.other W59 (Or.inr (slot_ne (Or.inl (hw _ (List.mem_of_getElem? (i := 15) rfl))) (Or.inl (hw _ (List.mem_of_getElem? (i := 36) rfl))) (by decide) (t := (.array .long)) (t' := .int) (by decide) (by decide)))
  have F69 : Fld Z h59 f "com/example/nearpath/nearpath/answer/Frontier" "heapItems" "[I" (.ref hi) := F54.other W59 (Or.inr (slot_ne (Or.inl (hw _ (List.mem_of_getElem? (i := 17) rfl))) (Or.inl (hw _ (List.mem_of_getElem? (i := 36) rfl))) (by decide) (t := (.array .int)) (t' := .int) (by decide) (by decide)))
  have F70 : Fld Z h59 f "com/example/nearpath/nearpath/answer/Frontier" "heapSize" "I" (.int (0 : Int32)) := F55.other W59 (Or.inr (slot_ne (Or.inl (hw _ (List.mem_of_getElem? (i := 28) rfl))) (Or.inl (hw _ (List.mem_of_getElem? (i := 36) rfl))) (by decide) (t := .int) (t' := .int) (by decide) (by decide)))
  have V71 : Ary Z h59 hi .int 16 (bts gi) := V56.other W59 (Ne.symm pr15)
  have V72 : Ary Z h59 sn .int 4 (bts gs) := V57.other W59 (Ne.symm pr16)
  have K59 : Keep h0 h59 [f] := K44.wr W59 (Or.inl (by simp))
  have N59 := Fr.snoc X59 N44 pr13
  refine Go.st (mkF m 59 #[.val (.ref f), .val (.int (0 : Int32))] [(.int (vS + (1 : Int32)))]) (fun _ k => st59 _ k) ?_
  exact Go.retI X59 hx Bd.notSynchronized Bd.returns (hb hby dss0_59) (by rw [e59]; exact ⟨rfl, N59, K59, F61, F62, F63, F64, F65, F66, F67, F68, F69, F70⟩) (by decide) (by decide)
theorem dss1_0 : decode prog_12_method_2_code 0 = .ok (.iconst 0, 1) := by decide +kernel
theorem dss1_1 : decode prog_12_method_2_code 1 = .ok (.istore_n 1, 1) := by decide +kernel
theorem dss1_2 : decode prog_12_method_2_code 2 = .ok (.iload_n 1, 1) := by decide +kernel
theorem dss1_3 : decode prog_12_method_2_code 3 = .ok (.aload_n 0, 1) := by decide +kernel
theorem dss1_4 : decode prog_12_method_2_code 4 = .ok (.getfield 27, 3) := by decide +kernel
theorem dss1_7 : decode prog_12_method_2_code 7 = .ok (.if_icmp .ge 21, 3) := by decide +kernel
theorem dss1_10 : decode prog_12_method_2_code 10 = .ok (.aload_n 0, 1) := by decide +kernel
theorem dss1_11 : decode prog_12_method_2_code 11 = .ok (.getfield 20, 3) := by decide +kernel
theorem dss1_14 : decode prog_12_method_2_code 14 = .ok (.aload_n 0, 1) := by decide +kernel
theorem dss1_15 : decode prog_12_method_2_code 15 = .ok (.getfield 17, 3) := by decide +kernel
theorem dss1_18 : decode prog_12_method_2_code 18 = .ok (.iload_n 1, 1) := by decide +kernel
theorem dss1_19 : decode prog_12_method_2_code 19 = .ok (.iaload, 1) := by decide +kernel
theorem dss1_20 : decode prog_12_method_2_code 20 = .ok (.iconst 0, 1) := by decide +kernel
theorem dss1_21 : decode prog_12_method_2_code 21 = .ok (.iastore, 1) := by decide +kernel
theorem dss1_22 : decode prog_12_method_2_code 22 = .ok (.iinc 1 1, 3) := by decide +kernel
theorem dss1_25 : decode prog_12_method_2_code 25 = .ok (.goto (-23), 3) := by decide +kernel
theorem dss1_28 : decode prog_12_method_2_code 28 = .ok (.aload_n 0, 1) := by decide +kernel
theorem dss1_29 : decode prog_12_method_2_code 29 = .ok (.iconst 0, 1) := by decide +kernel
theorem dss1_30 : decode prog_12_method_2_code 30 = .ok (.putfield 27, 3) := by decide +kernel
theorem dss1_33 : decode prog_12_method_2_code 33 = .ok (.aload_n 0, 1) := by decide +kernel
theorem dss1_34 : decode prog_12_method_2_code 34 = .ok (.iconst 0, 1) := by decide +kernel
theorem dss1_35 : decode prog_12_method_2_code 35 = .ok (.putfield 31, 3) := by decide +kernel
theorem dss1_38 : decode prog_12_method_2_code 38 = .ok (.aload_n 0, 1) := by decide +kernel
theorem dss1_39 : decode prog_12_method_2_code 39 = .ok (.iconst 0, 1) := by decide +kernel
theorem dss1_40 : decode prog_12_method_2_code 40 = .ok (.putfield 34, 3) := by decide +kernel
theorem dss1_43 : decode prog_12_method_2_code 43 = .ok (.aload_n 0, 1) := by decide +kernel
theorem dss1_44 : decode prog_12_method_2_code 44 = .ok (.lconst 0, 1) := by decide +kernel
theorem dss1_45 : decode prog_12_method_2_code 45 = .ok (.putfield 37, 3) := by decide +kernel
theorem dss1_48 : decode prog_12_method_2_code 48 = .ok (.aload_n 0, 1) := by decide +kernel
theorem dss1_49 : decode prog_12_method_2_code 49 = .ok (.dup, 1) := by decide +kernel
theorem dss1_50 : decode prog_12_method_2_code 50 = .ok (.getfield 40, 3) := by decide +kernel
theorem dss1_53 : decode prog_12_method_2_code 53 = .ok (.iconst 1, 1) := by decide +kernel
theorem dss1_54 : decode prog_12_method_2_code 54 = .ok (.iadd, 1) := by decide +kernel
theorem dss1_55 : decode prog_12_method_2_code 55 = .ok (.dup_x1, 1) := by decide +kernel
theorem dss1_56 : decode prog_12_method_2_code 56 = .ok (.putfield 40, 3) := by decide +kernel
theorem dss1_59 : decode prog_12_method_2_code 59 = .ok (.ireturn, 1) := by decide +kernel
theorem ef_ss1 (m : MethodId) (f : Addr) : entryFrame m #[(.ref f)] 2 = (mkF m 0 #[.val (.ref f), .unset] []) := by first | (simp [entryFrame, mkF, argsToLocals, Value.category]; done) | rfl
def Q_ss1 (Z : State) (f : Addr) (lv : Addr) (hc : Addr) (hi : Addr) (sn : Addr) (vS : Int32) (vc : Int64) (lh : Int32) (lt : Int32) (gi : Nat → Int32) (gs : Nat → Int32) (h0 : Heap) (n0 : Nat) (vv : Option Value) (hE : Heap) (LE : List Loc) : Prop := vv = some (.int (vS + (1 : Int32))) ∧ Fr n0 LE ∧ Keep h0 hE [f, sn] ∧ Fld Z hE f "com/example/nearpath/nearpath/answer/Frontier" "seen" "[I" (.ref sn) ∧ Fld Z hE f "com/example/nearpath/nearpath/answer/Frontier" "maxCost" "J" (.long (3 : Int64)) ∧ Fld Z hE f "com/example/nearpath/nearpath/answer/Frontier" "search" "I" (.int (vS + (1 : Int32))) ∧ Fld Z hE f "com/example/nearpath/nearpath/answer/Frontier" "cost" "J" (.long (0 : Int64)) ∧ Fld Z hE f "com/example/nearpath/nearpath/answer/Frontier" "level" "[I" (.ref lv) ∧ Fld Z hE f "com/example/nearpath/nearpath/answer/Frontier" "levelHead" "I" (.int (0 : Int32)) ∧ Fld Z hE f "com/example/nearpath/nearpath/answer/Frontier" "levelTail" "I" (.int (0 : Int32)) ∧ Fld Z hE f "com/example/nearpath/nearpath/answer/Frontier" "heapCosts" "[J" (.ref hc) ∧ Fld Z hE f "com/example/nearpath/nearpath/answer/Frontier" "heapItems" "[I" (.ref hi) ∧ Fld Z hE f "com/example/nearpath/nearpath/answer/Frontier" "heapSize" "I" (.int (0 : Int32)) ∧ Ary Z hE sn .int 4 (bts (updI gs ((gi 0).toNatClampNeg) (0 : Int32)))
set_option maxRecDepth 65536 in
set_option maxHeartbeats 40000000 in
theorem rm_ss1 (l : Launch) (Z : State) (a0 : Array Value) (hw : ∀ d ∈ tables_1, d.before a0 Z = true) (ws : List Jvm.Cond) (f : Addr) (lv : Addr) (hc : Addr) (hi : Addr) (sn : Addr) (vS : Int32) (vc : Int64) (lh : Int32) (lt : Int32) (gi : Nat → Int32) (gs : Nat → Int32) (h0 : Heap) (n0 : Nat) (Z0 : n0 ≤ h0.size) (pr0 : Exa Z h0 f "com/example/nearpath/nearpath/answer/Frontier") (pr1 : Fld Z h0 f "com/example/nearpath/nearpath/answer/Frontier" "seen" "[I" (.ref sn)) (pr2 : Fld Z h0 f "com/example/nearpath/nearpath/answer/Frontier" "maxCost" "J" (.long (3 : Int64))) (pr3 : Fld Z h0 f "com/example/nearpath/nearpath/answer/Frontier" "search" "I" (.int vS)) (pr4 : Fld Z h0 f "com/example/nearpath/nearpath/answer/Frontier" "cost" "J" (.long vc)) (pr5 : Fld Z h0 f "com/example/nearpath/nearpath/answer/Frontier" "level" "[I" (.ref lv)) (pr6 : Fld Z h0 f "com/example/nearpath/nearpath/answer/Frontier" "levelHead" "I" (.int lh)) (pr7 : Fld Z h0 f "com/example/nearpath/nearpath/answer/Frontier" "levelTail" "I" (.int lt)) (pr8 : Fld Z h0 f "com/example/nearpath/nearpath/answer/Frontier" "heapCosts" "[J" (.ref hc)) (pr9 : Fld Z h0 f "com/example/nearpath/nearpath/answer/Frontier" "heapItems" "[I" (.ref hi)) (pr10 : Fld Z h0 f "com/example/nearpath/nearpath/answer/Frontier" "heapSize" "I" (.int (1 : Int32))) (pr11 : Ary Z h0 hi .int 16 (bts gi)) (pr12 : Ary Z h0 sn .int 4 (bts gs)) (pr13 : In4 (gi 0)) (pr14 : n0 ≤ f) (pr15 : n0 ≤ sn) (pr16 : f ≠ hi) (pr17 : f ≠ sn) (pr18 : hi ≠ sn) :
    MetFree l (⟨"com/example/nearpath/nearpath/answer/Frontier", "startSearch", "()I"⟩ : MethodName) (head1 (Jvm.Cond.code (⟨"com/example/nearpath/nearpath/answer/Frontier", "startSearch", "()I"⟩ : MethodName) prog_12_method_2_code 2 (some .int) :: ws) ({ frames := 0, cells := 0, slots := 0, locals := 0 } : Room)) (fun aa UU => aa = #[(.ref f)] ∧ Z.Warmed39 UU.vm ∧ UU.heap = h0) (fun _ _ _ _ _ => True) (fun _ UU oo UU' => ∃ vv LL, oo = .returned vv ∧ Q_ss1 Z f lv hc hi sn vS vc lh lt gi gs h0 n0 vv UU'.heap LL ∧ FrameEnd UU oo UU' LL ({ frames := 0, cells := 0, slots := 0, locals := 0 } : Room).cells ({ frames := 0, cells := 0, slots := 0, locals := 0 } : Room).slots) := by
  refine MetFree.of_bodySF (plainFor_of_name pn_0) hisR ?_
  intro p e s m args below meth c s₁ Bd hml0 hP hK
  obtain ⟨rfl, hZ, hh⟩ := hP
  have hx := Bd.exec
  have hby := Bd.bytes
  have hml : c.maxLocals = 2 := hml0
  have hown : s.vm.findClass "com/example/nearpath/nearpath/answer/Frontier" = some m.cls := findClass_of_methodNamed Bd.named
  have hnm := (name_of_methodNamed Bd.named Bd.method).1
  have X0 : Stand p l e ({ frames := 0, cells := 0, slots := 0, locals := 0 } : Room) s m #[(.ref f)] below meth c s₁ [] 0 0 := Stand.of_body Bd
  have e0 : s₁.heap = h0 := by rw [← hh, Bd.state]; rfl
  have N0 := Fr.nil n0
  have K0 := Keep.refl h0 [f, sn]
  show Go p e below s (Q_ss1 Z f lv hc hi sn vS vc lh lt gi gs h0 n0) 0 0 s₁ (entryFrame m #[(.ref f)] 2)
  refine Go.of_eq (ef_ss1 m f) ?_
  refine Go.st (mkF m 1 #[.val (.ref f), .unset] [(.int (0 : Int32))]) (fun _ k => XS.iconst X0.here hx rfl (hb hby dss1_0) k) ?_
  refine Go.st (mkF m 2 #[.val (.ref f), .val (.int (0 : Int32))] []) (fun _ k => XS.istoreN X0.here hx rfl (hb hby dss1_1) rfl (l' := #[.val (.ref f), .val (.int (0 : Int32))]) rfl k) ?_
  refine Go.st (mkF m 3 #[.val (.ref f), .val (.int (0 : Int32))] [(.int (0 : Int32))]) (fun _ k => XS.iloadN X0.here hx rfl (hb hby dss1_2) rfl k) ?_
  refine Go.st (mkF m 4 #[.val (.ref f), .val (.int (0 : Int32))] [(.ref f), (.int (0 : Int32))]) (fun _ k => XS.aloadN X0.here hx rfl (hb hby dss1_3) rfl rfl k) ?_
  obtain ⟨T1, X1, e1, st1⟩ := getF X0 hx hZ hown (host := "") (Or.inl (hw _ (List.mem_of_getElem? (i := 27) rfl))) Via.refl e0 pr10 (g := (mkF m 4 #[.val (.ref f), .val (.int (0 : Int32))] [(.ref f), (.int (0 : Int32))])) rfl rfl (hb hby dss1_4)
  refine Go.st (mkF m 7 #[.val (.ref f), .val (.int (0 : Int32))] [(.int (1 : Int32)), (.int (0 : Int32))]) (fun _ k => st1 _ k) ?_
  refine Go.st (mkF m 10 #[.val (.ref f), .val (.int (0 : Int32))] []) (fun _ k => XS.icmpNo X1.here hx rfl (hb hby dss1_7) rfl (tlt (by decide : (0 : Int32) < (1 : Int32))).2.1 k) ?_
  refine Go.st (mkF m 11 #[.val (.ref f), .val (.int (0 : Int32))] [(.ref f)]) (fun _ k => XS.aloadN X1.here hx rfl (hb hby dss1_10) rfl rfl k) ?_
  obtain ⟨T2, X2, e2, st2⟩ := getF X1 hx hZ hown (host := "") (Or.inl (hw _ (List.mem_of_getElem? (i := 18) rfl))) Via.refl e1 pr1 (g := (mkF m 11 #[.val (.ref f), .val (.int (0 : Int32))] [(.ref f)])) rfl rfl (hb hby dss1_11)
  refine Go.st (mkF m 14 #[.val (.ref f), .val (.int (0 : Int32))] [(.ref sn)]) (fun _ k => st2 _ k) ?_
  refine Go.st (mkF m 15 #[.val (.ref f), .val (.int (0 : Int32))] [(.ref f), (.ref sn)]) (fun _ k => XS.aloadN X2.here hx rfl (hb hby dss1_14) rfl rfl k) ?_
  obtain ⟨T3, X3, e3, st3⟩ := getF X2 hx hZ hown (host := "") (Or.inl (hw _ (List.mem_of_getElem? (i := 16) rfl))) Via.refl e2 pr9 (g := (mkF m 15 #[.val (.ref f), .val (.int (0 : Int32))] [(.ref f), (.ref sn)])) rfl rfl (hb hby dss1_15)
  refine Go.st (mkF m 18 #[.val (.ref f), .val (.int (0 : Int32))] [(.ref hi), (.ref sn)]) (fun _ k => st3 _ k) ?_
  refine Go.st (mkF m 19 #[.val (.ref f), .val (.int (0 : Int32))] [(.int (0 : Int32)), (.ref hi), (.ref sn)]) (fun _ k => XS.iloadN X3.here hx rfl (hb hby dss1_18) rfl k) ?_
  refine Go.st (mkF m 20 #[.val (.ref f), .val (.int (0 : Int32))] [(.int (gi 0)), (.ref sn)]) (fun _ k => ldI X3 hx hZ e3 pr11 (i := 0) (by decide) (by decide) (by decide) (v := (.int (gi 0))) rfl (g := (mkF m 19 #[.val (.ref f), .val (.int (0 : Int32))] [(.int (0 : Int32)), (.ref hi), (.ref sn)])) rfl rfl (hb hby dss1_19) _ k) ?_
  refine Go.st (mkF m 21 #[.val (.ref f), .val (.int (0 : Int32))] [(.int (0 : Int32)), (.int (gi 0)), (.ref sn)]) (fun _ k => XS.iconst X3.here hx rfl (hb hby dss1_20) k) ?_
  obtain ⟨T4, h4, X4, e4, W4, st4⟩ := stAI X3 hx hZ e3 pr12 (i := (gi 0).toNatClampNeg) (own_in4 pr13).1 rfl (own_in4 pr13).2 (g := (mkF m 21 #[.val (.ref f), .val (.int (0 : Int32))] [(.int (0 : Int32)), (.int (gi 0)), (.ref sn)])) rfl rfl (hb hby dss1_21)
  have E5q : Exa Z h4 f "com/example/nearpath/nearpath/answer/Frontier" := pr0.wr W4
  have F6 : Fld Z h4 f "com/example/nearpath/nearpath/answer/Frontier" "seen" "[I" (.ref sn) := pr1.other W4 (Or.inl pr17)
  have F7 : Fld Z h4 f "com/example/nearpath/nearpath/answer/Frontier" "maxCost" "J" (.long (3 : Int64)) := pr2.other W4 (Or.inl pr17)
  have F8 : Fld Z h4 f "com/example/nearpath/nearpath/answer/Frontier" "search" "I" (.int vS) := pr3.other W4 (Or.inl pr17)
  have F9 : Fld Z h4 f "com/example/nearpath/nearpath/answer/Frontier" "cost" "J" (.long vc) := pr4.other W4 (Or.inl pr17)
  have F10 : Fld Z h4 f "com/example/nearpath/nearpath/answer/Frontier" "level" "[I" (.ref lv) := pr5.other W4 (Or.inl pr17)
  have F11 : Fld Z h4 f "com/example/nearpath/nearpath/answer/Frontier" "levelHead" "I" (.int lh) := pr6.other W4 (Or.inl pr17)
  have F12 : Fld Z h4 f "com/example/nearpath/nearpath/answer/Frontier" "levelTail" "I" (.int lt) := pr7.other W4 (Or.inl pr17)
  have F13 : Fld Z h4 f "com/example/nearpath/nearpath/answer/Frontier" "heapCosts" "[J" (.ref hc) := pr8.other W4 (Or.inl pr17)
  have F14 : Fld Z h4 f "com/example/nearpath/nearpath/answer/Frontier" "heapItems" "[I" (.ref hi) := pr9.other W4 (Or.inl pr17)
  have F15 : Fld Z h4 f "com/example/nearpath/nearpath/answer/Frontier" "heapSize" "I" (.int (1 : Int32)) := pr10.other W4 (Or.inl pr17)
  have V16 : Ary Z h4 hi .int 16 (bts gi) := pr11.other W4 pr18
  have V17 : Ary Z h4 sn .int 4 (bts (updI gs ((gi 0).toNatClampNeg) (0 : Int32))) := pr12.sameB W4
  have K4 : Keep h0 h4 [f, sn] := K0.wr W4 (Or.inl (by simp))
  have N4 := Fr.snoc X4 N0 pr15
  refine Go.st (mkF m 22 #[.val (.ref f), .val (.int (0 : Int32))] []) (fun _ k => st4 _ k) ?_
  refine Go.st (mkF m 25 #[.val (.ref f), .val (.int (1 : Int32))] []) (fun _ k => XS.iinc X4.here hx rfl (hb hby dss1_22) rfl (l' := #[.val (.ref f), .val (.int (1 : Int32))]) rfl k) ?_
  refine Go.st (mkF m 2 #[.val (.ref f), .val (.int (1 : Int32))] []) (fun _ k => XS.goto X4.here hx rfl (pc0 := 25) (pc' := 2) rfl (hb hby dss1_25) (by decide) (by decide) k) ?_
  refine Go.st (mkF m 3 #[.val (.ref f), .val (.int (1 : Int32))] [(.int (1 : Int32))]) (fun _ k => XS.iloadN X4.here hx rfl (hb hby dss1_2) rfl k) ?_
  refine Go.st (mkF m 4 #[.val (.ref f), .val (.int (1 : Int32))] [(.ref f), (.int (1 : Int32))]) (fun _ k => XS.aloadN X4.here hx rfl (hb hby dss1_3) rfl rfl k) ?_
  obtain ⟨T18, X18, e18, st18⟩ := getF X4 hx hZ hown (host := "") (Or.inl (hw _ (List.mem_of_getElem? (i := 27) rfl))) Via.refl e4 F15 (g := (mkF m 4 #[.val (.ref f), .val (.int (1 : Int32))] [(.ref f), (.int (1 : Int32))])) rfl rfl (hb hby dss1_4)
  refine Go.st (mkF m 7 #[.val (.ref f), .val (.int (1 : Int32))] [(.int (1 : Int32)), (.int (1 : Int32))]) (fun _ k => st18 _ k) ?_
  refine Go.st (mkF m 28 #[.val (.ref f), .val (.int (1 : Int32))] []) (fun _ k => XS.icmpYes X18.here hx rfl (pc0 := 7) (pc' := 28) rfl (hb hby dss1_7) rfl (flt (by decide : ¬ ((1 : Int32) < (1 : Int32)))).2.1 (by decide) (by decide) k) ?_
  refine Go.st (mkF m 29 #[.val (.ref f), .val (.int (1 : Int32))] [(.ref f)]) (fun _ k => XS.aloadN X18.here hx rfl (hb hby dss1_28) rfl rfl k) ?_
  refine Go.st (mkF m 30 #[.val (.ref f), .val (.int (1 : Int32))] [(.int (0 : Int32)), (.ref f)]) (fun _ k => XS.iconst X18.here hx rfl (hb hby dss1_29) k) ?_
  obtain ⟨T19, h19, X19, e19, W19, st19⟩ := putF X18 hx hZ hown (host := "") (Or.inl (hw _ (List.mem_of_getElem? (i := 27) rfl))) Via.refl e18 F15 E5q (Or.inl (hw _ (List.mem_of_getElem? (i := 28) rfl))) (hw _ (List.mem_of_getElem? (i := 1) rfl)) (ty := .int) (by decide) rfl rfl (g := (mkF m 30 #[.val (.ref f), .val (.int (1 : Int32))] [(.int (0 : Int32)), (.ref f)])) rfl rfl (hb hby dss1_30)
  have E20q : Exa Z h19 f "com/example/nearpath/nearpath/answer/Frontier" := E5q.wr W19
  have F21 : Fld Z h19 f "com/example/nearpath/nearpath/answer/Frontier" "seen" "[I" (.ref sn) := F6.other W19 (Or.inr (slot_ne (Or.inr (hw _ (List.mem_of_getElem? (i := 19) rfl))) (Or.inl (hw _ (List.mem_of_getElem? (i := 28) rfl))) (by decide) (t := (.array .int)) (t' := .int) (by decide) (by decide)))
  have F22 : Fld Z h19 f "com/example/nearpath/nearpath/answer/Frontier" "maxCost" "J" (.long (3 : Int64)) := F7.other W19 (Or.inr (slot_ne (Or.inr (hw _ (List.mem_of_getElem? (i := 21) rfl))) (Or.inl (hw _ (List.mem_of_getElem? (i := 28) rfl))) (by decide) (t := .long) (t' := .int) (by decide) (by decide)))
  have F23 : Fld Z h19 f "com/example/nearpath/nearpath/answer/Frontier" "search" "I" (.int vS) := F8.other W19 (Or.inr (slot_ne (Or.inl (hw _ (List.mem_of_getElem? (i := 36) rfl))) (Or.inl (hw _ (List.mem_of_getElem? (i := 28) rfl))) (by decide) (t := .int) (t' := .int) (by decide) (by decide)))
  have F24 : Fld Z h19 f "com/example/nearpath/nearpath/answer/Frontier" "cost" "J" (.long vc) := F9.other W19 (Or.inr (slot_ne (Or.inl (hw _ (List.mem_of_getElem? (i := 34) rfl))) (Or.inl (hw _ (List.mem_of_getElem? (i := 28) rfl))) (by decide) (t := .long) (t' := .int) (by decide) (by decide)))
  have F25 : Fld Z h19 f "com/example/nearpath/nearpath/answer/Frontier" "level" "[I" (.ref lv) := F10.other W19 (Or.inr (slot_ne (Or.inl (hw _ (List.mem_of_getElem? (i := 12) rfl))) (Or.inl (hw _ (List.mem_of_getElem? (i := 28) rfl))) (by decide) (t := (.array .int)) (t' := .int) (by decide) (by decide)))
  have F26 : Fld Z h19 f "com/example/nearpath/nearpath/answer/Frontier" "levelHead" "I" (.int lh) := F11.other W19 (Or.inr (slot_ne (Or.inl (hw _ (List.mem_of_getElem? (i := 30) rfl))) (Or.inl (hw _ (List.mem_of_getElem? (i := 28) rfl))) (by decide) (t := .int) (t' := .int) (by decide) (by decide)))
  have F27 : Fld Z h19 f "com/example/nearpath/nearpath/answer/Frontier" "levelTail" "I" (.int lt) := F12.other W19 (Or.inr (slot_ne (Or.inl (hw _ (List.mem_of_getElem? (i := 32) rfl))) (Or.inl (hw _ (List.mem_of_getElem? (i := 28) rfl))) (by decide) (t := .int) (t' := .int) (by decide) (by decide)))
  have F28 : Fld Z h19 f "com/example/nearpath/nearpath/answer/Frontier" "heapCosts" "[J" (.ref hc) := F13.other W19 (Or.inr (slot_ne (Or.inl (hw _ (List.mem_of_getElem? (i := 15) rfl))) (Or.inl (hw _ (List.mem_of_getElem? (i := 28) rfl))) (by decide) (t := (.array .long)) (t' := .int) (by decide) (by decide)))
  have F29 : Fld Z h19 f "com/example/nearpath/nearpath/answer/Frontier" "heapItems" "[I" (.ref hi) := F14.other W19 (Or.inr (slot_ne (Or.inl (hw _ (List.mem_of_getElem? (i := 17) rfl))) (Or.inl (hw _ (List.mem_of_getElem? (i := 28) rfl))) (by decide) (t := (.array .int)) (t' := .int) (by decide) (by decide)))
  have F30 : Fld Z h19 f "com/example/nearpath/nearpath/answer/Frontier" "heapSize" "I" (.int (0 : Int32)) := F15.same W19
  have V31 : Ary Z h19 hi .int 16 (bts gi) := V16.other W19 (Ne.symm pr16)
  have V32 : Ary Z h19 sn .int 4 (bts (updI gs ((gi 0).toNatClampNeg) (0 : Int32))) := V17.other W19 (Ne.symm pr17)
  have K19 : Keep h0 h19 [f, sn] := K4.wr W19 (Or.inl (by simp))
  have N19 := Fr.snoc X19 N4 pr14
  refine Go.st (mkF m 33 #[.val (.ref f), .val (.int (1 : Int32))] []) (fun _ k => st19 _ k) ?_
  refine Go.st (mkF m 34 #[.val (.ref f), .val (.int (1 : Int32))] [(.ref f)]) (fun _ k => XS.aloadN X19.here hx rfl (hb hby dss1_33) rfl rfl k) ?_
  refine Go.st (mkF m 35 #[.val (.ref f), .val (.int (1 : Int32))] [(.int (0 : Int32)), (.ref f)]) (fun _ k => XS.iconst X19.here hx rfl (hb hby dss1_34) k) ?_
  obtain ⟨T33, h33, X33, e33, W33, st33⟩ := putF X19 hx hZ hown (host := "") (Or.inl (hw _ (List.mem_of_getElem? (i := 29) rfl))) Via.refl e19 F26 E20q (Or.inl (hw _ (List.mem_of_getElem? (i := 30) rfl))) (hw _ (List.mem_of_getElem? (i := 1) rfl)) (ty := .int) (by decide) rfl rfl (g := (mkF m 35 #[.val (.ref f), .val (.int (1 : Int32))] [(.int (0 : Int32)), (.ref f)])) rfl rfl (hb hby dss1_35)
  have E34q : Exa Z h33 f "com/example/nearpath/nearpath/answer/Frontier" := E20q.wr W33
  have F35 : Fld Z h33 f "com/example/nearpath/nearpath/answer/Frontier" "seen" "[I" (.ref sn) := F21.other W33 (Or.inr (slot_ne (Or.inr (hw _ (List.mem_of_getElem? (i := 19) rfl))) (Or.inl (hw _ (List.mem_of_getElem? (i := 30) rfl))) (by decide) (t := (.array .int)) (t' := .int) (by decide) (by decide)))
  have F36 : Fld Z h33 f "com/example/nearpath/nearpath/answer/Frontier" "maxCost" "J" (.long (3 : Int64)) := F22.other W33 (Or.inr (slot_ne (Or.inr (hw _ (List.mem_of_getElem? (i := 21) rfl))) (Or.inl (hw _ (List.mem_of_getElem? (i := 30) rfl))) (by decide) (t := .long) (t' := .int) (by decide) (by decide)))
  have F37 : Fld Z h33 f "com/example/nearpath/nearpath/answer/Frontier" "search" "I" (.int vS) := F23.other W33 (Or.inr (slot_ne (Or.inl (hw _ (List.mem_of_getElem? (i := 36) rfl))) (Or.inl (hw _ (List.mem_of_getElem? (i := 30) rfl))) (by decide) (t := .int) (t' := .int) (by decide) (by decide)))
  have F38 : Fld Z h33 f "com/example/nearpath/nearpath/answer/Frontier" "cost" "J" (.long vc) := F24.other W33 (Or.inr (slot_ne (Or.inl (hw _ (List.mem_of_getElem? (i := 34) rfl))) (Or.inl (hw _ (List.mem_of_getElem? (i := 30) rfl))) (by decide) (t := .long) (t' := .int) (by decide) (by decide)))
  have F39 : Fld Z h33 f "com/example/nearpath/nearpath/answer/Frontier" "level" "[I" (.ref lv) := F25.other W33 (Or.inr (slot_ne (Or.inl (hw _ (List.mem_of_getElem? (i := 12) rfl))) (Or.inl (hw _ (List.mem_of_getElem? (i := 30) rfl))) (by decide) (t := (.array .int)) (t' := .int) (by decide) (by decide)))
  have F40 : Fld Z h33 f "com/example/nearpath/nearpath/answer/Frontier" "levelHead" "I" (.int (0 : Int32)) := F26.same W33
  have F41 : Fld Z h33 f "com/example/nearpath/nearpath/answer/Frontier" "levelTail" "I" (.int lt) := F27.other W33 (Or.inr (slot_ne (Or.inl (hw _ (List.mem_of_getElem? (i := 32) rfl))) (Or.inl (hw _ (List.mem_of_getElem? (i := 30) rfl))) (by decide) (t := .int) (t' := .int) (by decide) (by decide)))
  have F42 : Fld Z h33 f "com/example/nearpath/nearpath/answer/Frontier" "heapCosts" "[J" (.ref hc) := F28.other W33 (Or.inr (slot_ne (Or.inl (hw _ (List.mem_of_getElem? (i := 15) rfl))) (Or.inl (hw _ (List.mem_of_getElem? (i := 30) rfl))) (by decide) (t := (.array .long)) (t' := .int) (by decide) (by decide)))
  have F43 : Fld Z h33 f "com/example/nearpath/nearpath/answer/Frontier" "heapItems" "[I" (.ref hi) := F29.other W33 (Or.inr (slot_ne (Or.inl (hw _ (List.mem_of_getElem? (i := 17) rfl))) (Or.inl (hw _ (List.mem_of_getElem? (i := 30) rfl))) (by decide) (t := (.array .int)) (t' := .int) (by decide) (by decide)))
  have F44 : Fld Z h33 f "com/example/nearpath/nearpath/answer/Frontier" "heapSize" "I" (.int (0 : Int32)) := F30.other W33 (Or.inr (slot_ne (Or.inl (hw _ (List.mem_of_getElem? (i := 28) rfl))) (Or.inl (hw _ (List.mem_of_getElem? (i := 30) rfl))) (by decide) (t := .int) (t' := .int) (by decide) (by decide)))
  have V45 : Ary Z h33 hi .int 16 (bts gi) := V31.other W33 (Ne.symm pr16)
  have V46 : Ary Z h33 sn .int 4 (bts (updI gs ((gi 0).toNatClampNeg) (0 : Int32))) := V32.other W33 (Ne.symm pr17)
  have K33 : Keep h0 h33 [f, sn] := K19.wr W33 (Or.inl (by simp))
  have N33 := Fr.snoc X33 N19 pr14
  refine Go.st (mkF m 38 #[.val (.ref f), .val (.int (1 : Int32))] []) (fun _ k => st33 _ k) ?_
  refine Go.st (mkF m 39 #[.val (.ref f), .val (.int (1 : Int32))] [(.ref f)]) (fun _ k => XS.aloadN X33.here hx rfl (hb hby dss1_38) rfl rfl k) ?_
  refine Go.st (mkF m 40 #[.val (.ref f), .val (.int (1 : Int32))] [(.int (0 : Int32)), (.ref f)]) (fun _ k => XS.iconst X33.here hx rfl (hb hby dss1_39) k) ?_
  obtain ⟨T47, h47, X47, e47, W47, st47⟩ := putF X33 hx hZ hown (host := "") (Or.inl (hw _ (List.mem_of_getElem? (i := 31) rfl))) Via.refl e33 F41 E34q (Or.inl (hw _ (List.mem_of_getElem? (i := 32) rfl))) (hw _ (List.mem_of_getElem? (i := 1) rfl)) (ty := .int) (by decide) rfl rfl (g := (mkF m 40 #[.val (.ref f), .val (.int (1 : Int32))] [(.int (0 : Int32)), (.ref f)])) rfl rfl (hb hby dss1_40)
  have E48q : Exa Z h47 f "com/example/nearpath/nearpath/answer/Frontier" := E34q.wr W47
  have F49 : Fld Z h47 f "com/example/nearpath/nearpath/answer/Frontier" "seen" "[I" (.ref sn) := F35.other W47 (Or.inr (slot_ne (Or.inr (hw _ (List.mem_of_getElem? (i := 19) rfl))) (Or.inl (hw _ (List.mem_of_getElem? (i := 32) rfl))) (by decide) (t := (.array .int)) (t' := .int) (by decide) (by decide)))
  have F50 : Fld Z h47 f "com/example/nearpath/nearpath/answer/Frontier" "maxCost" "J" (.long (3 : Int64)) := F36.other W47 (Or.inr (slot_ne (Or.inr (hw _ (List.mem_of_getElem? (i := 21) rfl))) (Or.inl (hw _ (List.mem_of_getElem? (i := 32) rfl))) (by decide) (t := .long) (t' := .int) (by decide) (by decide)))
  have F51 : Fld Z h47 f "com/example/nearpath/nearpath/answer/Frontier" "search" "I" (.int vS) := F37.other W47 (Or.inr (slot_ne (Or.inl (hw _ (List.mem_of_getElem? (i := 36) rfl))) (Or.inl (hw _ (List.mem_of_getElem? (i := 32) rfl))) (by decide) (t := .int) (t' := .int) (by decide) (by decide)))
  have F52 : Fld Z h47 f "com/example/nearpath/nearpath/answer/Frontier" "cost" "J" (.long vc) := F38.other W47 (Or.inr (slot_ne (Or.inl (hw _ (List.mem_of_getElem? (i := 34) rfl))) (Or.inl (hw _ (List.mem_of_getElem? (i := 32) rfl))) (by decide) (t := .long) (t' := .int) (by decide) (by decide)))
  have F53 : Fld Z h47 f "com/example/nearpath/nearpath/answer/Frontier" "level" "[I" (.ref lv) := F39.other W47 (Or.inr (slot_ne (Or.inl (hw _ (List.mem_of_getElem? (i := 12) rfl))) (Or.inl (hw _ (List.mem_of_getElem? (i := 32) rfl))) (by decide) (t := (.array .int)) (t' := .int) (by decide) (by decide)))
  have F54 : Fld Z h47 f "com/example/nearpath/nearpath/answer/Frontier" "levelHead" "I" (.int (0 : Int32)) := F40.other W47 (Or.inr (slot_ne (Or.inl (hw _ (List.mem_of_getElem? (i := 30) rfl))) (Or.inl (hw _ (List.mem_of_getElem? (i := 32) rfl))) (by decide) (t := .int) (t' := .int) (by decide) (by decide)))
  have F55 : Fld Z h47 f "com/example/nearpath/nearpath/answer/Frontier" "levelTail" "I" (.int (0 : Int32)) := F41.same W47
  have F56 : Fld Z h47 f "com/example/nearpath/nearpath/answer/Frontier" "heapCosts" "[J" (.ref hc) := F42.other W47 (Or.inr (slot_ne (Or.inl (hw _ (List.mem_of_getElem? (i := 15) rfl))) (Or.inl (hw _ (List.mem_of_getElem? (i := 32) rfl))) (by decide) (t := (.array .long)) (t' := .int) (by decide) (by decide)))
  have F57 : Fld Z h47 f "com/example/nearpath/nearpath/answer/Frontier" "heapItems" "[I" (.ref hi) := F43.other W47 (Or.inr (slot_ne (Or.inl (hw _ (List.mem_of_getElem? (i := 17) rfl))) (Or.inl (hw _ (List.mem_of_getElem? (i := 32) rfl))) (by decide) (t := (.array .int)) (t' := .int) (by decide) (by decide)))
  have F58 : Fld Z h47 f "com/example/nearpath/nearpath/answer/Frontier" "heapSize" "I" (.int (0 : Int32)) := F44.other W47 (Or.inr (slot_ne (Or.inl (hw _ (List.mem_of_getElem? (i := 28) rfl))) (Or.inl (hw _ (List.mem_of_getElem? (i := 32) rfl))) (by decide) (t := .int) (t' := .int) (by decide) (by decide)))
  have V59 : Ary Z h47 hi .int 16 (bts gi) := V45.other W47 (Ne.symm pr16)
  have V60 : Ary Z h47 sn .int 4 (bts (updI gs ((gi 0).toNatClampNeg) (0 : Int32))) := V46.other W47 (Ne.symm pr17)
  have K47 : Keep h0 h47 [f, sn] := K33.wr W47 (Or.inl (by simp))
  have N47 := Fr.snoc X47 N33 pr14
  refine Go.st (mkF m 43 #[.val (.ref f), .val (.int (1 : Int32))] []) (fun _ k => st47 _ k) ?_
  refine Go.st (mkF m 44 #[.val (.ref f), .val (.int (1 : Int32))] [(.ref f)]) (fun _ k => XS.aloadN X47.here hx rfl (hb hby dss1_43) rfl rfl k) ?_
  refine Go.st (mkF m 45 #[.val (.ref f), .val (.int (1 : Int32))] [(.long (0 : Int64)), (.ref f)]) (fun _ k => XT.lconst X47.here hx rfl (hb hby dss1_44) k) ?_
  obtain ⟨T61, h61, X61, e61, W61, st61⟩ := putF X47 hx hZ hown (host := "") (Or.inl (hw _ (List.mem_of_getElem? (i := 33) rfl))) Via.refl e47 F52 E48q (Or.inl (hw _ (List.mem_of_getElem? (i := 34) rfl))) (hw _ (List.mem_of_getElem? (i := 1) rfl)) (ty := .long) (by decide) rfl rfl (g := (mkF m 45 #[.val (.ref f), .val (.int (1 : Int32))] [(.long (0 : Int64)), (.ref f)])) rfl rfl (hb hby dss1_45)
  have E62q : Exa Z h61 f "com/example/nearpath/nearpath/answer/Frontier" := E48q.wr W61
  have F63 : Fld Z h61 f "com/example/nearpath/nearpath/answer/Frontier" "seen" "[I" (.ref sn) := F49.other W61 (Or.inr (slot_ne (Or.inr (hw _ (List.mem_of_getElem? (i := 19) rfl))) (Or.inl (hw _ (List.mem_of_getElem? (i := 34) rfl))) (by decide) (t := (.array .int)) (t' := .long) (by decide) (by decide)))
  have F64 : Fld Z h61 f "com/example/nearpath/nearpath/answer/Frontier" "maxCost" "J" (.long (3 : Int64)) := F50.other W61 (Or.inr (slot_ne (Or.inr (hw _ (List.mem_of_getElem? (i := 21) rfl))) (Or.inl (hw _ (List.mem_of_getElem? (i := 34) rfl))) (by decide) (t := .long) (t' := .long) (by decide) (by decide)))
  have F65 : Fld Z h61 f "com/example/nearpath/nearpath/answer/Frontier" "search" "I" (.int vS) := F51.other W61 (Or.inr (slot_ne (Or.inl (hw _ (List.mem_of_getElem? (i := 36) rfl))) (Or.inl (hw _ (List.mem_of_getElem? (i := 34) rfl))) (by decide) (t := .int) (t' := .long) (by decide) (by decide)))
  have F66 : Fld Z h61 f "com/example/nearpath/nearpath/answer/Frontier" "cost" "J" (.long (0 : Int64)) := F52.same W61
  have F67 : Fld Z h61 f "com/example/nearpath/nearpath/answer/Frontier" "level" "[I" (.ref lv) := F53.other W61 (Or.inr (slot_ne (Or.inl (hw _ (List.mem_of_getElem? (i := 12) rfl))) (Or.inl (hw _ (List.mem_of_getElem? (i := 34) rfl))) (by decide) (t := (.array .int)) (t' := .long) (by decide) (by decide)))
  have F68 : Fld Z h61 f "com/example/nearpath/nearpath/answer/Frontier" "levelHead" "I" (.int (0 : Int32)) := F54.other W61 (Or.inr (slot_ne (Or.inl (hw _ (List.mem_of_getElem? (i := 30) rfl))) (Or.inl (hw _ (List.mem_of_getElem? (i := 34) rfl))) (by decide) (t := .int) (t' := .long) (by decide) (by decide)))
  have F69 : Fld Z h61 f "com/example/nearpath/nearpath/answer/Frontier" "levelTail" "I" (.int (0 : Int32)) := F55.other W61 (Or.inr (slot_ne (Or.inl (hw _ (List.mem_of_getElem? (i := 32) rfl))) (Or.inl (hw _ (List.mem_of_getElem? (i := 34) rfl))) (by decide) (t := .int) (t' := .long) (by decide) (by decide)))
  have F70 : Fld Z h61 f "com/example/nearpath/nearpath/answer/Frontier" "heapCosts" "[J" (.ref hc) := F56.other W61 (Or.inr (slot_ne (Or.inl (hw _ (List.mem_of_getElem? (i := 15) rfl))) (Or.inl (hw _ (List.mem_of_getElem? (i := 34) rfl))) (by decide) (t := (.array .long)) (t' := .long) (by decide) (by decide)))
  have F71 : Fld Z h61 f "com/example/nearpath/nearpath/answer/Frontier" "heapItems" "[I" (.ref hi) := F57.other W61 (Or.inr (slot_ne (Or.inl (hw _ (List.mem_of_getElem? (i := 17) rfl))) (Or.inl (hw _ (List.mem_of_getElem? (i := 34) rfl))) (by decide) (t := (.array .int)) (t' := .long) (by decide) (by decide)))
  have F72 : Fld Z h61 f "com/example/nearpath/nearpath/answer/Frontier" "heapSize" "I" (.int (0 : Int32)) := F58.other W61 (Or.inr (slot_ne (Or.inl (hw _ (List.mem_of_getElem? (i := 28) rfl))) (Or.inl (hw _ (List.mem_of_getElem? (i := 34) rfl))) (by decide) (t := .int) (t' := .long) (by decide) (by decide)))
  have V73 : Ary Z h61 hi .int 16 (bts gi) := V59.other W61 (Ne.symm pr16)
  have V74 : Ary Z h61 sn .int 4 (bts (updI gs ((gi 0).toNatClampNeg) (0 : Int32))) := V60.other W61 (Ne.symm pr17)
  have K61 : Keep h0 h61 [f, sn] := K47.wr W61 (Or.inl (by simp))
  have N61 := Fr.snoc X61 N47 pr14
  refine Go.st (mkF m 48 #[.val (.ref f), .val (.int (1 : Int32))] []) (fun _ k => st61 _ k) ?_
  refine Go.st (mkF m 49 #[.val (.ref f), .val (.int (1 : Int32))] [(.ref f)]) (fun _ k => XS.aloadN X61.here hx rfl (hb hby dss1_48) rfl rfl k) ?_
  refine Go.st (mkF m 50 #[.val (.ref f), .val (.int (1 : Int32))] [(.ref f), (.ref f)]) (fun _ k => XS.dup X61.here hx rfl (hb hby dss1_49) rfl rfl k) ?_
  obtain ⟨T75, X75, e75, st75⟩ := getF X61 hx hZ hown (host := "") (Or.inl (hw _ (List.mem_of_getElem? (i := 35) rfl))) Via.refl e61 F65 (g := (mkF m 50 #[.val (.ref f), .val (.int (1 : Int32))] [(.ref f), (.ref f)])) rfl rfl (hb hby dss1_50)
  refine Go.st (mkF m 53 #[.val (.ref f), .val (.int (1 : Int32))] [(.int vS), (.ref f)]) (fun _ k => st75 _ k) ?_
  refine Go.st (mkF m 54 #[.val (.ref f), .val (.int (1 : Int32))] [(.int (1 : Int32)), (.int vS), (.ref f)]) (fun _ k => XS.iconst X75.here hx rfl (hb hby dss1_53) k) ?_
  refine Go.st (mkF m 55 #[.val (.ref f), .val (.int (1 : Int32))] [(.int (vS + (1 : Int32))), (.ref f)]) (fun _ k => XS.iadd X75.here hx rfl (hb hby dss1_54) rfl k) ?_
  refine Go.st (mkF m 56 #[.val (.ref f), .val (.int (1 : Int32))] [(.int (vS + (1 : Int32))), (.ref f), (.int (vS + (1 : Int32)))]) (fun _ k => XT.dupX1 X75.here hx rfl (hb hby dss1_55) rfl rfl rfl k) ?_
  obtain ⟨T76, h76, X76, e76, W76, st76⟩ := putF X75 hx hZ hown (host := "") (Or.inl (hw _ (List.mem_of_getElem? (i := 35) rfl))) Via.refl e75 F65 E62q (Or.inl (hw _ (List.mem_of_getElem? (i := 36) rfl))) (hw _ (List.mem_of_getElem? (i := 1) rfl)) (ty := .int) (by decide) rfl rfl (g := (mkF m 56 #[.val (.ref f), .val (.int (1 : Int32))] [(.int (vS + (1 : Int32))), (.ref f), (.int (vS + (1 : Int32)))])) rfl rfl (hb hby dss1_56)
  have E77q : Exa Z h76 f "com/example/nearpath/nearpath/answer/Frontier" := E62q.wr W76
  have F78 : Fld Z h76 f "com/example/nearpath/nearpath/answer/Frontier" "seen" "[I" (.ref sn) := F63.other W76 (Or.inr (slot_ne (Or.inr (hw _ (List.mem_of_getElem? (i := 19) rfl))) (Or.inl (hw _ (List.mem_of_getElem? (i := 36) rfl))) (by decide) (t := (.array .int)) (t' := .int) (by decide) (by decide)))
  have F79 : Fld Z h76 f "com/example/nearpath/nearpath/answer/Frontier" "maxCost" "J" (.long (3 : Int64)) := F64.other W76 (Or.inr (slot_ne (Or.inr (hw _ (List.mem_of_getElem? (i := 21) rfl))) (Or.inl (hw _ (List.mem_of_getElem? (i := 36) rfl))) (by decide) (t := .long) (t' := .int) (by decide) (by decide)))
  have F80 : Fld Z h76 f "com/example/nearpath/nearpath/answer/Frontier" "search" "I" (.int (vS + (1 : Int32))) := F65.same W76
  have F81 : Fld Z h76 f "com/example/nearpath/nearpath/answer/Frontier" "cost" "J" (.long (0 : Int64)) := F66.other W76 (Or.inr (slot_ne (Or.inl (hw _ (List.mem_of_getElem? (i := 34) rfl))) (Or.inl (hw _ (List.mem_of_getElem? (i := 36) rfl))) (by decide) (t := .long) (t' := .int) (by decide) (by decide)))
  have F82 : Fld Z h76 f "com/example/nearpath/nearpath/answer/Frontier" "level" "[I" (.ref lv) := F67.other W76 (Or.inr (slot_ne (Or.inl (hw _ (List.mem_of_getElem? (i := 12) rfl))) (Or.inl (hw _ (List.mem_of_getElem? (i := 36) rfl))) (by decide) (t := (.array .int)) (t' := .int) (by decide) (by decide)))
  have F83 : Fld Z h76 f "com/example/nearpath/nearpath/answer/Frontier" "levelHead" "I" (.int (0 : Int32)) := F68.other W76 (Or.inr (slot_ne (Or.inl (hw _ (List.mem_of_getElem? (i := 30) rfl))) (Or.inl (hw _ (List.mem_of_getElem? (i := 36) rfl))) (by decide) (t := .int) (t' := .int) (by decide) (by decide)))
  have F84 : Fld Z h76 f "com/example/nearpath/nearpath/answer/Frontier" "levelTail" "I" (.int (0 : Int32)) := F69.other W76 (Or.inr (slot_ne (Or.inl (hw _ (List.mem_of_getElem? (i := 32) rfl))) (Or.inl (hw _ (List.mem_of_getElem? (i := 36) rfl))) (by decide) (t := .int) (t' := .int) (by decide) (by decide)))
  have F85 : Fld Z h76 f "com/example/nearpath/nearpath/answer/Frontier" "heapCosts" "[J" (.ref hc) := F70.other W76 (Or.inr (slot_ne (Or.inl (hw _ (List.mem_of_getElem? (i := 15) rfl))) (Or.inl (hw _ (List.mem_of_getElem? (i := 36) rfl))) (by decide) (t := (.array .long)) (t' := .int) (by decide) (by decide)))
  have F86 : Fld Z h76 f "com/example/nearpath/nearpath/answer/Frontier" "heapItems" "[I" (.ref hi) := F71.other W76 (Or.inr (slot_ne (Or.inl (hw _ (List.mem_of_getElem? (i := 17) rfl))) (Or.inl (hw _ (List.mem_of_getElem? (i := 36) rfl))) (by decide) (t := (.array .int)) (t' := .int) (by decide) (by decide)))
  have F87 : Fld Z h76 f "com/example/nearpath/nearpath/answer/Frontier" "heapSize" "I" (.int (0 : Int32)) := F72.other W76 (Or.inr (slot_ne (Or.inl (hw _ (List.mem_of_getElem? (i := 28) rfl))) (Or.inl (hw _ (List.mem_of_getElem? (i := 36) rfl))) (by decide) (t := .int) (t' := .int) (by decide) (by decide)))
  have V88 : Ary Z h76 hi .int 16 (bts gi) := V73.other W76 (Ne.symm pr16)
  have V89 : Ary Z h76 sn .int 4 (bts (updI gs ((gi 0).toNatClampNeg) (0 : Int32))) := V74.other W76 (Ne.symm pr17)
  have K76 : Keep h0 h76 [f, sn] := K61.wr W76 (Or.inl (by simp))
  have N76 := Fr.snoc X76 N61 pr14
  refine Go.st (mkF m 59 #[.val (.ref f), .val (.int (1 : Int32))] [(.int (vS + (1 : Int32)))]) (fun _ k => st76 _ k) ?_
  exact Go.retI X76 hx Bd.notSynchronized Bd.returns (hb hby dss1_59) (by rw [e76]; exact ⟨rfl, N76, K76, F78, F79, F80, F81, F82, F83, F84, F85, F86, F87, V89⟩) (by decide) (by decide)
theorem dss2_0 : decode prog_12_method_2_code 0 = .ok (.iconst 0, 1) := by decide +kernel
theorem dss2_1 : decode prog_12_method_2_code 1 = .ok (.istore_n 1, 1) := by decide +kernel
theorem dss2_2 : decode prog_12_method_2_code 2 = .ok (.iload_n 1, 1) := by decide +kernel
theorem dss2_3 : decode prog_12_method_2_code 3 = .ok (.aload_n 0, 1) := by decide +kernel
theorem dss2_4 : decode prog_12_method_2_code 4 = .ok (.getfield 27, 3) := by decide +kernel
theorem dss2_7 : decode prog_12_method_2_code 7 = .ok (.if_icmp .ge 21, 3) := by decide +kernel
theorem dss2_10 : decode prog_12_method_2_code 10 = .ok (.aload_n 0, 1) := by decide +kernel
theorem dss2_11 : decode prog_12_method_2_code 11 = .ok (.getfield 20, 3) := by decide +kernel
theorem dss2_14 : decode prog_12_method_2_code 14 = .ok (.aload_n 0, 1) := by decide +kernel
theorem dss2_15 : decode prog_12_method_2_code 15 = .ok (.getfield 17, 3) := by decide +kernel
theorem dss2_18 : decode prog_12_method_2_code 18 = .ok (.iload_n 1, 1) := by decide +kernel
theorem dss2_19 : decode prog_12_method_2_code 19 = .ok (.iaload, 1) := by decide +kernel
theorem dss2_20 : decode prog_12_method_2_code 20 = .ok (.iconst 0, 1) := by decide +kernel
theorem dss2_21 : decode prog_12_method_2_code 21 = .ok (.iastore, 1) := by decide +kernel
theorem dss2_22 : decode prog_12_method_2_code 22 = .ok (.iinc 1 1, 3) := by decide +kernel
theorem dss2_25 : decode prog_12_method_2_code 25 = .ok (.goto (-23), 3) := by decide +kernel
theorem dss2_28 : decode prog_12_method_2_code 28 = .ok (.aload_n 0, 1) := by decide +kernel
theorem dss2_29 : decode prog_12_method_2_code 29 = .ok (.iconst 0, 1) := by decide +kernel
theorem dss2_30 : decode prog_12_method_2_code 30 = .ok (.putfield 27, 3) := by decide +kernel
theorem dss2_33 : decode prog_12_method_2_code 33 = .ok (.aload_n 0, 1) := by decide +kernel
theorem dss2_34 : decode prog_12_method_2_code 34 = .ok (.iconst 0, 1) := by decide +kernel
theorem dss2_35 : decode prog_12_method_2_code 35 = .ok (.putfield 31, 3) := by decide +kernel
theorem dss2_38 : decode prog_12_method_2_code 38 = .ok (.aload_n 0, 1) := by decide +kernel
theorem dss2_39 : decode prog_12_method_2_code 39 = .ok (.iconst 0, 1) := by decide +kernel
theorem dss2_40 : decode prog_12_method_2_code 40 = .ok (.putfield 34, 3) := by decide +kernel
theorem dss2_43 : decode prog_12_method_2_code 43 = .ok (.aload_n 0, 1) := by decide +kernel
theorem dss2_44 : decode prog_12_method_2_code 44 = .ok (.lconst 0, 1) := by decide +kernel
theorem dss2_45 : decode prog_12_method_2_code 45 = .ok (.putfield 37, 3) := by decide +kernel
theorem dss2_48 : decode prog_12_method_2_code 48 = .ok (.aload_n 0, 1) := by decide +kernel
theorem dss2_49 : decode prog_12_method_2_code 49 = .ok (.dup, 1) := by decide +kernel
theorem dss2_50 : decode prog_12_method_2_code 50 = .ok (.getfield 40, 3) := by decide +kernel
theorem dss2_53 : decode prog_12_method_2_code 53 = .ok (.iconst 1, 1) := by decide +kernel
theorem dss2_54 : decode prog_12_method_2_code 54 = .ok (.iadd, 1) := by decide +kernel
theorem dss2_55 : decode prog_12_method_2_code 55 = .ok (.dup_x1, 1) := by decide +kernel
theorem dss2_56 : decode prog_12_method_2_code 56 = .ok (.putfield 40, 3) := by decide +kernel
theorem dss2_59 : decode prog_12_method_2_code 59 = .ok (.ireturn, 1) := by decide +kernel
theorem ef_ss2 (m : MethodId) (f : Addr) : entryFrame m #[(.ref f)] 2 = (mkF m 0 #[.val (.ref f), .unset] []) := by first | (simp [entryFrame, mkF, argsToLocals, Value.category]; done) | rfl
def Q_ss2 (Z : State) (f : Addr) (lv : Addr) (hc : Addr) (hi : Addr) (sn : Addr) (vS : Int32) (vc : Int64) (lh : Int32) (lt : Int32) (gi : Nat → Int32) (gs : Nat → Int32) (h0 : Heap) (n0 : Nat) (vv : Option Value) (hE : Heap) (LE : List Loc) : Prop := vv = some (.int (vS + (1 : Int32))) ∧ Fr n0 LE ∧ Keep h0 hE [f, sn] ∧ Fld Z hE f "com/example/nearpath/nearpath/answer/Frontier" "seen" "[I" (.ref sn) ∧ Fld Z hE f "com/example/nearpath/nearpath/answer/Frontier" "maxCost" "J" (.long (3 : Int64)) ∧ Fld Z hE f "com/example/nearpath/nearpath/answer/Frontier" "search" "I" (.int (vS + (1 : Int32))) ∧ Fld Z hE f "com/example/nearpath/nearpath/answer/Frontier" "cost" "J" (.long (0 : Int64)) ∧ Fld Z hE f "com/example/nearpath/nearpath/answer/Frontier" "level" "[I" (.ref lv) ∧ Fld Z hE f "com/example/nearpath/nearpath/answer/Frontier" "levelHead" "I" (.int (0 : Int32)) ∧ Fld Z hE f "com/example/nearpath/nearpath/answer/Frontier" "levelTail" "I" (.int (0 : Int32)) ∧ Fld Z hE f "com/example/nearpath/nearpath/answer/Frontier" "heapCosts" "[J" (.ref hc) ∧ Fld Z hE f "com/example/nearpath/nearpath/answer/Frontier" "heapItems" "[I" (.ref hi) ∧ Fld Z hE f "com/example/nearpath/nearpath/answer/Frontier" "heapSize" "I" (.int (0 : Int32)) ∧ Ary Z hE sn .int 4 (bts (updI (updI gs ((gi 0).toNatClampNeg) (0 : Int32)) ((gi 1).toNatClampNeg) (0 : Int32)))
set_option maxRecDepth 65536 in
set_option maxHeartbeats 40000000 in
theorem rm_ss2 (l : Launch) (Z : State) (a0 : Array Value) (hw : ∀ d ∈ tables_1, d.before a0 Z = true) (ws : List Jvm.Cond) (f : Addr) (lv : Addr) (hc : Addr) (hi : Addr) (sn : Addr) (vS : Int32) (vc : Int64) (lh : Int32) (lt : Int32) (gi : Nat → Int32) (gs : Nat → Int32) (h0 : Heap) (n0 : Nat) (Z0 : n0 ≤ h0.size) (pr0 : Exa Z h0 f "com/example/nearpath/nearpath/answer/Frontier") (pr1 : Fld Z h0 f "com/example/nearpath/nearpath/answer/Frontier" "seen" "[I" (.ref sn)) (pr2 : Fld Z h0 f "com/example/nearpath/nearpath/answer/Frontier" "maxCost" "J" (.long (3 : Int64))) (pr3 : Fld Z h0 f "com/example/nearpath/nearpath/answer/Frontier" "search" "I" (.int vS)) (pr4 : Fld Z h0 f "com/example/nearpath/nearpath/answer/Frontier" "cost" "J" (.long vc)) (pr5 : Fld Z h0 f "com/example/nearpath/nearpath/answer/Frontier" "level" "[I" (.ref lv)) (pr6 : Fld Z h0 f "com/example/nearpath/nearpath/answer/Frontier" "levelHead" "I" (.int lh)) (pr7 : Fld Z h0 f "com/example/nearpath/nearpath/answer/Frontier" "levelTail" "I" (.int lt)) (pr8 : Fld Z h0 f "com/example/nearpath/nearpath/answer/Frontier" "heapCosts" "[J" (.ref hc)) (pr9 : Fld Z h0 f "com/example/nearpath/nearpath/answer/Frontier" "heapItems" "[I" (.ref hi)) (pr10 : Fld Z h0 f "com/example/nearpath/nearpath/answer/Frontier" "heapSize" "I" (.int (2 : Int32))) (pr11 : Ary Z h0 hi .int 16 (bts gi)) (pr12 : Ary Z h0 sn .int 4 (bts gs)) (pr13 : In4 (gi 0)) (pr14 : In4 (gi 1)) (pr15 : n0 ≤ f) (pr16 : n0 ≤ sn) (pr17 : f ≠ hi) (pr18 : f ≠ sn) (pr19 : hi ≠ sn) :
    MetFree l (⟨"com/example/nearpath/nearpath/answer/Frontier", "startSearch", "()I"⟩ : MethodName) (head1 (Jvm.Cond.code (⟨"com/example/nearpath/nearpath/answer/Frontier", "startSearch", "()I"⟩ : MethodName) prog_12_method_2_code 2 (some .int) :: ws) ({ frames := 0, cells := 0, slots := 0, locals := 0 } : Room)) (fun aa UU => aa = #[(.ref f)] ∧ Z.Warmed39 UU.vm ∧ UU.heap = h0) (fun _ _ _ _ _ => True) (fun _ UU oo UU' => ∃ vv LL, oo = .returned vv ∧ Q_ss2 Z f lv hc hi sn vS vc lh lt gi gs h0 n0 vv UU'.heap LL ∧ FrameEnd UU oo UU' LL ({ frames := 0, cells := 0, slots := 0, locals := 0 } : Room).cells ({ frames := 0, cells := 0, slots := 0, locals := 0 } : Room).slots) := by
  refine MetFree.of_bodySF (plainFor_of_name pn_0) hisR ?_
  intro p e s m args below meth c s₁ Bd hml0 hP hK
  obtain ⟨rfl, hZ, hh⟩ := hP
  have hx := Bd.exec
  have hby := Bd.bytes
  have hml : c.maxLocals = 2 := hml0
  have hown : s.vm.findClass "com/example/nearpath/nearpath/answer/Frontier" = some m.cls := findClass_of_methodNamed Bd.named
  have hnm := (name_of_methodNamed Bd.named Bd.method).1
  have X0 : Stand p l e ({ frames := 0, cells := 0, slots := 0, locals := 0 } : Room) s m #[(.ref f)] below meth c s₁ [] 0 0 := Stand.of_body Bd
  have e0 : s₁.heap = h0 := by rw [← hh, Bd.state]; rfl
  have N0 := Fr.nil n0
  have K0 := Keep.refl h0 [f, sn]
  show Go p e below s (Q_ss2 Z f lv hc hi sn vS vc lh lt gi gs h0 n0) 0 0 s₁ (entryFrame m #[(.ref f)] 2)
  refine Go.of_eq (ef_ss2 m f) ?_
  refine Go.st (mkF m 1 #[.val (.ref f), .unset] [(.int (0 : Int32))]) (fun _ k => XS.iconst X0.here hx rfl (hb hby dss2_0) k) ?_
  refine Go.st (mkF m 2 #[.val (.ref f), .val (.int (0 : Int32))] []) (fun _ k => XS.istoreN X0.here hx rfl (hb hby dss2_1) rfl (l' := #[.val (.ref f), .val (.int (0 : Int32))]) rfl k) ?_
  refine Go.st (mkF m 3 #[.val (.ref f), .val (.int (0 : Int32))] [(.int (0 : Int32))]) (fun _ k => XS.iloadN X0.here hx rfl (hb hby dss2_2) rfl k) ?_
  refine Go.st (mkF m 4 #[.val (.ref f), .val (.int (0 : Int32))] [(.ref f), (.int (0 : Int32))]) (fun _ k => XS.aloadN X0.here hx rfl (hb hby dss2_3) rfl rfl k) ?_
  obtain ⟨T1, X1, e1, st1⟩ := getF X0 hx hZ hown (host := "") (Or.inl (hw _ (List.mem_of_getElem? (i := 27) rfl))) Via.refl e0 pr10 (g := (mkF m 4 #[.val (.ref f), .val (.int (0 : Int32))] [(.ref f), (.int (0 : Int32))])) rfl rfl (hb hby dss2_4)
  refine Go.st (mkF m 7 #[.val (.ref f), .val (.int (0 : Int32))] [(.int (2 : Int32)), (.int (0 : Int32))]) (fun _ k => st1 _ k) ?_
  refine Go.st (mkF m 10 #[.val (.ref f), .val (.int (0 : Int32))] []) (fun _ k => XS.icmpNo X1.here hx rfl (hb hby dss2_7) rfl (tlt (by decide : (0 : Int32) < (2 : Int32))).2.1 k) ?_
  refine Go.st (mkF m 11 #[.val (.ref f), .val (.int (0 : Int32))] [(.ref f)]) (fun _ k => XS.aloadN X1.here hx rfl (hb hby dss2_10) rfl rfl k) ?_
  obtain ⟨T2, X2, e2, st2⟩ := getF X1 hx hZ hown (host := "") (Or.inl (hw _ (List.mem_of_getElem? (i := 18) rfl))) Via.refl e1 pr1 (g := (mkF m 11 #[.val (.ref f), .val (.int (0 : Int32))] [(.ref f)])) rfl rfl (hb hby dss2_11)
  refine Go.st (mkF m 14 #[.val (.ref f), .val (.int (0 : Int32))] [(.ref sn)]) (fun _ k => st2 _ k) ?_
  refine Go.st (mkF m 15 #[.val (.ref f), .val (.int (0 : Int32))] [(.ref f), (.ref sn)]) (fun _ k => XS.aloadN X2.here hx rfl (hb hby dss2_14) rfl rfl k) ?_
  obtain ⟨T3, X3, e3, st3⟩ := getF X2 hx hZ hown (host := "") (Or.inl (hw _ (List.mem_of_getElem? (i := 16) rfl))) Via.refl e2 pr9 (g := (mkF m 15 #[.val (.ref f), .val (.int (0 : Int32))] [(.ref f), (.ref sn)])) rfl rfl (hb hby dss2_15)
  refine Go.st (mkF m 18 #[.val (.ref f), .val (.int (0 : Int32))] [(.ref hi), (.ref sn)]) (fun _ k => st3 _ k) ?_
  refine Go.st (mkF m 19 #[.val (.ref f), .val (.int (0 : Int32))] [(.int (0 : Int32)), (.ref hi), (.ref sn)]) (fun _ k => XS.iloadN X3.here hx rfl (hb hby dss2_18) rfl k) ?_
  refine Go.st (mkF m 20 #[.val (.ref f), .val (.int (0 : Int32))] [(.int (gi 0)), (.ref sn)]) (fun _ k => ldI X3 hx hZ e3 pr11 (i := 0) (by decide) (by decide) (by decide) (v := (.int (gi 0))) rfl (g := (mkF m 19 #[.val (.ref f), .val (.int (0 : Int32))] [(.int (0 : Int32)), (.ref hi), (.ref sn)])) rfl rfl (hb hby dss2_19) _ k) ?_
  refine Go.st (mkF m 21 #[.val (.ref f), .val (.int (0 : Int32))] [(.int (0 : Int32)), (.int (gi 0)), (.ref sn)]) (fun _ k => XS.iconst X3.here hx rfl (hb hby dss2_20) k) ?_
  obtain ⟨T4, h4, X4, e4, W4, st4⟩ := stAI X3 hx hZ e3 pr12 (i := (gi 0).toNatClampNeg) (own_in4 pr13).1 rfl (own_in4 pr13).2 (g := (mkF m 21 #[.val (.ref f), .val (.int (0 : Int32))] [(.int (0 : Int32)), (.int (gi 0)), (.ref sn)])) rfl rfl (hb hby dss2_21)
  have E5q : Exa Z h4 f "com/example/nearpath/nearpath/answer/Frontier" := pr0.wr W4
  have F6 : Fld Z h4 f "com/example/nearpath/nearpath/answer/Frontier" "seen" "[I" (.ref sn) := pr1.other W4 (Or.inl pr18)
  have F7 : Fld Z h4 f "com/example/nearpath/nearpath/answer/Frontier" "maxCost" "J" (.long (3 : Int64)) := pr2.other W4 (Or.inl pr18)
  have F8 : Fld Z h4 f "com/example/nearpath/nearpath/answer/Frontier" "search" "I" (.int vS) := pr3.other W4 (Or.inl pr18)
  have F9 : Fld Z h4 f "com/example/nearpath/nearpath/answer/Frontier" "cost" "J" (.long vc) := pr4.other W4 (Or.inl pr18)
  have F10 : Fld Z h4 f "com/example/nearpath/nearpath/answer/Frontier" "level" "[I" (.ref lv) := pr5.other W4 (Or.inl pr18)
  have F11 : Fld Z h4 f "com/example/nearpath/nearpath/answer/Frontier" "levelHead" "I" (.int lh) := pr6.other W4 (Or.inl pr18)
  have F12 : Fld Z h4 f "com/example/nearpath/nearpath/answer/Frontier" "levelTail" "I" (.int lt) := pr7.other W4 (Or.inl pr18)
  have F13 : Fld Z h4 f "com/example/nearpath/nearpath/answer/Frontier" "heapCosts" "[J" (.ref hc) := pr8.other W4 (Or.inl pr18)
  have F14 : Fld Z h4 f "com/example/nearpath/nearpath/answer/Frontier" "heapItems" "[I" (.ref hi) := pr9.other W4 (Or.inl pr18)
  have F15 : Fld Z h4 f "com/example/nearpath/nearpath/answer/Frontier" "heapSize" "I" (.int (2 : Int32)) := pr10.other W4 (Or.inl pr18)
  have V16 : Ary Z h4 hi .int 16 (bts gi) := pr11.other W4 pr19
  have V17 : Ary Z h4 sn .int 4 (bts (updI gs ((gi 0).toNatClampNeg) (0 : Int32))) := pr12.sameB W4
  have K4 : Keep h0 h4 [f, sn] := K0.wr W4 (Or.inl (by simp))
  have N4 := Fr.snoc X4 N0 pr16
  refine Go.st (mkF m 22 #[.val (.ref f), .val (.int (0 : Int32))] []) (fun _ k => st4 _ k) ?_
  refine Go.st (mkF m 25 #[.val (.ref f), .val (.int (1 : Int32))] []) (fun _ k => XS.iinc X4.here hx rfl (hb hby dss2_22) rfl (l' := #[.val (.ref f), .val (.int (1 : Int32))]) rfl k) ?_
  refine Go.st (mkF m 2 #[.val (.ref f), .val (.int (1 : Int32))] []) (fun _ k => XS.goto X4.here hx rfl (pc0 := 25) (pc' := 2) rfl (hb hby dss2_25) (by decide) (by decide) k) ?_
  refine Go.st (mkF m 3 #[.val (.ref f), .val (.int (1 : Int32))] [(.int (1 : Int32))]) (fun _ k => XS.iloadN X4.here hx rfl (hb hby dss2_2) rfl k) ?_
  refine Go.st (mkF m 4 #[.val (.ref f), .val (.int (1 : Int32))] [(.ref f), (.int (1 : Int32))]) (fun _ k => XS.aloadN X4.here hx rfl (hb hby dss2_3) rfl rfl k) ?_
  obtain ⟨T18, X18, e18, st18⟩ := getF X4 hx hZ hown (host := "") (Or.inl (hw _ (List.mem_of_getElem? (i := 27) rfl))) Via.refl e4 F15 (g := (mkF m 4 #[.val (.ref f), .val (.int (1 : Int32))] [(.ref f), (.int (1 : Int32))])) rfl rfl (hb hby dss2_4)
  refine Go.st (mkF m 7 #[.val (.ref f), .val (.int (1 : Int32))] [(.int (2 : Int32)), (.int (1 : Int32))]) (fun _ k => st18 _ k) ?_
  refine Go.st (mkF m 10 #[.val (.ref f), .val (.int (1 : Int32))] []) (fun _ k => XS.icmpNo X18.here hx rfl (hb hby dss2_7) rfl (tlt (by decide : (1 : Int32) < (2 : Int32))).2.1 k) ?_
  refine Go.st (mkF m 11 #[.val (.ref f), .val (.int (1 : Int32))] [(.ref f)]) (fun _ k => XS.aloadN X18.here hx rfl (hb hby dss2_10) rfl rfl k) ?_
  obtain ⟨T19, X19, e19, st19⟩ := getF X18 hx hZ hown (host := "") (Or.inl (hw _ (List.mem_of_getElem? (i := 18) rfl))) Via.refl e18 F6 (g := (mkF m 11 #[.val (.ref f), .val (.int (1 : Int32))] [(.ref f)])) rfl rfl (hb hby dss2_11)
  refine Go.st (mkF m 14 #[.val (.ref f), .val (.int (1 : Int32))] [(.ref sn)]) (fun _ k => st19 _ k) ?_
  refine Go.st (mkF m 15 #[.val (.ref f), .val (.int (1 : Int32))] [(.ref f), (.ref sn)]) (fun _ k => XS.aloadN X19.here hx rfl (hb hby dss2_14) rfl rfl k) ?_
  obtain ⟨T20, X20, e20, st20⟩ := getF X19 hx hZ hown (host := "") (Or.inl (hw _ (List.mem_of_getElem? (i := 16) rfl))) Via.refl e19 F14 (g := (mkF m 15 #[.val (.ref f), .val (.int (1 : Int32))] [(.ref f), (.ref sn)])) rfl rfl (hb hby dss2_15)
  refine Go.st (mkF m 18 #[.val (.ref f), .val (.int (1 : Int32))] [(.ref hi), (.ref sn)]) (fun _ k => st20 _ k) ?_
  refine Go.st (mkF m 19 #[.val (.ref f), .val (.int (1 : Int32))] [(.int (1 : Int32)), (.ref hi), (.ref sn)]) (fun _ k => XS.iloadN X20.here hx rfl (hb hby dss2_18) rfl k) ?_
  refine Go.st (mkF m 20 #[.val (.ref f), .val (.int (1 : Int32))] [(.int (gi 1)), (.ref sn)]) (fun _ k => ldI X20 hx hZ e20 V16 (i := 1) (by decide) (by decide) (by decide) (v := (.int (gi 1))) rfl (g := (mkF m 19 #[.val (.ref f), .val (.int (1 : Int32))] [(.int (1 : Int32)), (.ref hi), (.ref sn)])) rfl rfl (hb hby dss2_19) _ k) ?_
  refine Go.st (mkF m 21 #[.val (.ref f), .val (.int (1 : Int32))] [(.int (0 : Int32)), (.int (gi 1)), (.ref sn)]) (fun _ k => XS.iconst X20.here hx rfl (hb hby dss2_20) k) ?_
  obtain ⟨T21, h21, X21, e21, W21, st21⟩ := stAI X20 hx hZ e20 V17 (i := (gi 1).toNatClampNeg) (own_in4 pr14).1 rfl (own_in4 pr14).2 (g := (mkF m 21 #[.val (.ref f), .val (.int (1 : Int32))] [(.int (0 : Int32)), (.int (gi 1)), (.ref sn)])) rfl rfl (hb hby dss2_21)
  have E22q : Exa Z h21 f "com/example/nearpath/nearpath/answer/Frontier" := E5q.wr W21
  have F23 : Fld Z h21 f "com/example/nearpath/nearpath/answer/Frontier" "seen" "[I" (.ref sn) := F6.other W21 (Or.inl pr18)
  have F24 : Fld Z h21 f "com/example/nearpath/nearpath/answer/Frontier" "maxCost" "J" (.long (3 : Int64)) := F7.other W21 (Or.inl pr18)
  have F25 : Fld Z h21 f "com/example/nearpath/nearpath/answer/Frontier" "search" "I" (.int vS) := F8.other W21 (Or.inl pr18)
  have F26 : Fld Z h21 f "com/example/nearpath/nearpath/answer/Frontier" "cost" "J" (.long vc) := F9.other W21 (Or.inl pr18)
  have F27 : Fld Z h21 f "com/example/nearpath/nearpath/answer/Frontier" "level" "[I" (.ref lv) := F10.other W21 (Or.inl pr18)
  have F28 : Fld Z h21 f "com/example/nearpath/nearpath/answer/Frontier" "levelHead" "I" (.int lh) := F11.other W21 (Or.inl pr18)
  have F29 : Fld Z h21 f "com/example/nearpath/nearpath/answer/Frontier" "levelTail" "I" (.int lt) := F12.other W21 (Or.inl pr18)
  have F30 : Fld Z h21 f "com/example/nearpath/nearpath/answer/Frontier" "heapCosts" "[J" (.ref hc) := F13.other W21 (Or.inl pr18)
  have F31 : Fld Z h21 f "com/example/nearpath/nearpath/answer/Frontier" "heapItems" "[I" (.ref hi) := F14.other W21 (Or.inl pr18)
  have F32 : Fld Z h21 f "com/example/nearpath/nearpath/answer/Frontier" "heapSize" "I" (.int (2 : Int32)) := F15.other W21 (Or.inl pr18)
  have V33 : Ary Z h21 hi .int 16 (bts gi) := V16.other W21 pr19
  have V34 : Ary Z h21 sn .int 4 (bts (updI (updI gs ((gi 0).toNatClampNeg) (0 : Int32)) ((gi 1).toNatClampNeg) (0 : Int32))) := V17.sameB W21
  have K21 : Keep h0 h21 [f, sn] := K4.wr W21 (Or.inl (by simp))
  have N21 := Fr.snoc X21 N4 pr16
  refine Go.st (mkF m 22 #[.val (.ref f), .val (.int (1 : Int32))] []) (fun _ k => st21 _ k) ?_
  refine Go.st (mkF m 25 #[.val (.ref f), .val (.int (2 : Int32))] []) (fun _ k => XS.iinc X21.here hx rfl (hb hby dss2_22) rfl (l' := #[.val (.ref f), .val (.int (2 : Int32))]) rfl k) ?_
  refine Go.st (mkF m 2 #[.val (.ref f), .val (.int (2 : Int32))] []) (fun _ k => XS.goto X21.here hx rfl (pc0 := 25) (pc' := 2) rfl (hb hby dss2_25) (by decide) (by decide) k) ?_
  refine Go.st (mkF m 3 #[.val (.ref f), .val (.int (2 : Int32))] [(.int (2 : Int32))]) (fun _ k => XS.iloadN X21.here hx rfl (hb hby dss2_2) rfl k) ?_
  refine Go.st (mkF m 4 #[.val (.ref f), .val (.int (2 : Int32))] [(.ref f), (.int (2 : Int32))]) (fun _ k => XS.aloadN X21.here hx rfl (hb hby dss2_3) rfl rfl k) ?_
  obtain ⟨T35, X35, e35, st35⟩ := getF X21 hx hZ hown (host := "") (Or.inl (hw _ (List.mem_of_getElem? (i := 27) rfl))) Via.refl e21 F32 (g := (mkF m 4 #[.val (.ref f), .val (.int (2 : Int32))] [(.ref f), (.int (2 : Int32))])) rfl rfl (hb hby dss2_4)
  refine Go.st (mkF m 7 #[.val (.ref f), .val (.int (2 : Int32))] [(.int (2 : Int32)), (.int (2 : Int32))]) (fun _ k => st35 _ k) ?_
  refine Go.st (mkF m 28 #[.val (.ref f), .val (.int (2 : Int32))] []) (fun _ k => XS.icmpYes X35.here hx rfl (pc0 := 7) (pc' := 28) rfl (hb hby dss2_7) rfl (flt (by decide : ¬ ((2 : Int32) < (2 : Int32)))).2.1 (by decide) (by decide) k) ?_
  refine Go.st (mkF m 29 #[.val (.ref f), .val (.int (2 : Int32))] [(.ref f)]) (fun _ k => XS.aloadN X35.here hx rfl (hb hby dss2_28) rfl rfl k) ?_
  refine Go.st (mkF m 30 #[.val (.ref f), .val (.int (2 : Int32))] [(.int (0 : Int32)), (.ref f)]) (fun _ k => XS.iconst X35.here hx rfl (hb hby dss2_29) k) ?_
  obtain ⟨T36, h36, X36, e36, W36, st36⟩ := putF X35 hx hZ hown (host := "") (Or.inl (hw _ (List.mem_of_getElem? (i := 27) rfl))) Via.refl e35 F32 E22q (Or.inl (hw _ (List.mem_of_getElem? (i := 28) rfl))) (hw _ (List.mem_of_getElem? (i := 1) rfl)) (ty := .int) (by decide) rfl rfl (g := (mkF m 30 #[.val (.ref f), .val (.int (2 : Int32))] [(.int (0 : Int32)), (.ref f)])) rfl rfl (hb hby dss2_30)
  have E37q : Exa Z h36 f "com/example/nearpath/nearpath/answer/Frontier" := E22q.wr W36
  have F38 : Fld Z h36 f "com/example/nearpath/nearpath/answer/Frontier" "seen" "[I" (.ref sn) := F23.other W36 (Or.inr (slot_ne (Or.inr (hw _ (List.mem_of_getElem? (i := 19) rfl))) (Or.inl (hw _ (List.mem_of_getElem? (i := 28) rfl))) (by decide) (t := (.array .int)) (t' := .int) (by decide) (by decide)))
  have F39 : Fld Z h36 f "com/example/nearpath/nearpath/answer/Frontier" "maxCost" "J" (.long (3 : Int64)) := F24.other W36 (Or.inr (slot_ne (Or.inr (hw _ (List.mem_of_getElem? (i := 21) rfl))) (Or.inl (hw _ (List.mem_of_getElem? (i := 28) rfl))) (by decide) (t := .long) (t' := .int) (by decide) (by decide)))
  have F40 : Fld Z h36 f "com/example/nearpath/nearpath/answer/Frontier" "search" "I" (.int vS) := F25.other W36 (Or.inr (slot_ne (Or.inl (hw _ (List.mem_of_getElem? (i := 36) rfl))) (Or.inl (hw _ (List.mem_of_getElem? (i := 28) rfl))) (by decide) (t := .int) (t' := .int) (by decide) (by decide)))
  have F41 : Fld Z h36 f "com/example/nearpath/nearpath/answer/Frontier" "cost" "J" (.long vc) := F26.other W36 (Or.inr (slot_ne (Or.inl (hw _ (List.mem_of_getElem? (i := 34) rfl))) (Or.inl (hw _ (List.mem_of_getElem? (i := 28) rfl))) (by decide) (t := .long) (t' := .int) (by decide) (by decide)))
  have F42 : Fld Z h36 f "com/example/nearpath/nearpath/answer/Frontier" "level" "[I" (.ref lv) := F27.other W36 (Or.inr (slot_ne (Or.inl (hw _ (List.mem_of_getElem? (i := 12) rfl))) (Or.inl (hw _ (List.mem_of_getElem? (i := 28) rfl))) (by decide) (t := (.array .int)) (t' := .int) (by decide) (by decide)))
  have F43 : Fld Z h36 f "com/example/nearpath/nearpath/answer/Frontier" "levelHead" "I" (.int lh) := F28.other W36 (Or.inr (slot_ne (Or.inl (hw _ (List.mem_of_getElem? (i := 30) rfl))) (Or.inl (hw _ (List.mem_of_getElem? (i := 28) rfl))) (by decide) (t := .int) (t' := .int) (by decide) (by decide)))
  have F44 : Fld Z h36 f "com/example/nearpath/nearpath/answer/Frontier" "levelTail" "I" (.int lt) := F29.other W36 (Or.inr (slot_ne (Or.inl (hw _ (List.mem_of_getElem? (i := 32) rfl))) (Or.inl (hw _ (List.mem_of_getElem? (i := 28) rfl))) (by decide) (t := .int) (t' := .int) (by decide) (by decide)))
  have F45 : Fld Z h36 f "com/example/nearpath/nearpath/answer/Frontier" "heapCosts" "[J" (.ref hc) := F30.other W36 (Or.inr (slot_ne (Or.inl (hw _ (List.mem_of_getElem? (i := 15) rfl))) (Or.inl (hw _ (List.mem_of_getElem? (i := 28) rfl))) (by decide) (t := (.array .long)) (t' := .int) (by decide) (by decide)))
  have F46 : Fld Z h36 f "com/example/nearpath/nearpath/answer/Frontier" "heapItems" "[I" (.ref hi) := F31.other W36 (Or.inr (slot_ne (Or.inl (hw _ (List.mem_of_getElem? (i := 17) rfl))) (Or.inl (hw _ (List.mem_of_getElem? (i := 28) rfl))) (by decide) (t := (.array .int)) (t' := .int) (by decide) (by decide)))
  have F47 : Fld Z h36 f "com/example/nearpath/nearpath/answer/Frontier" "heapSize" "I" (.int (0 : Int32)) := F32.same W36
  have V48 : Ary Z h36 hi .int 16 (bts gi) := V33.other W36 (Ne.symm pr17)
  have V49 : Ary Z h36 sn .int 4 (bts (updI (updI gs ((gi 0).toNatClampNeg) (0 : Int32)) ((gi 1).toNatClampNeg) (0 : Int32))) := V34.other W36 (Ne.symm pr18)
  have K36 : Keep h0 h36 [f, sn] := K21.wr W36 (Or.inl (by simp))
  have N36 := Fr.snoc X36 N21 pr15
  refine Go.st (mkF m 33 #[.val (.ref f), .val (.int (2 : Int32))] []) (fun _ k => st36 _ k) ?_
  refine Go.st (mkF m 34 #[.val (.ref f), .val (.int (2 : Int32))] [(.ref f)]) (fun _ k => XS.aloadN X36.here hx rfl (hb hby dss2_33) rfl rfl k) ?_
  refine Go.st (mkF m 35 #[.val (.ref f), .val (.int (2 : Int32))] [(.int (0 : Int32)), (.ref f)]) (fun _ k => XS.iconst X36.here hx rfl (hb hby dss2_34) k) ?_
  obtain ⟨T50, h50, X50, e50, W50, st50⟩ := putF X36 hx hZ hown (host := "") (Or.inl (hw _ (List.mem_of_getElem? (i := 29) rfl))) Via.refl e36 F43 E37q (Or.inl (hw _ (List.mem_of_getElem? (i := 30) rfl))) (hw _ (List.mem_of_getElem? (i := 1) rfl)) (ty := .int) (by decide) rfl rfl (g := (mkF m 35 #[.val (.ref f), .val (.int (2 : Int32))] [(.int (0 : Int32)), (.ref f)])) rfl rfl (hb hby dss2_35)
  have E51q : Exa Z h50 f "com/example/nearpath/nearpath/answer/Frontier" := E37q.wr W50
  have F52 : Fld Z h50 f "com/example/nearpath/nearpath/answer/Frontier" "seen" "[I" (.ref sn) := F38.other W50 (Or.inr (slot_ne (Or.inr (hw _ (List.mem_of_getElem? (i := 19) rfl))) (Or.inl (hw _ (List.mem_of_getElem? (i := 30) rfl))) (by decide) (t := (.array .int)) (t' := .int) (by decide) (by decide)))
  have F53 : Fld Z h50 f "com/example/nearpath/nearpath/answer/Frontier" "maxCost" "J" (.long (3 : Int64)) := F39.other W50 (Or.inr (slot_ne (Or.inr (hw _ (List.mem_of_getElem? (i := 21) rfl))) (Or.inl (hw _ (List.mem_of_getElem? (i := 30) rfl))) (by decide) (t := .long) (t' := .int) (by decide) (by decide)))
  have F54 : Fld Z h50 f "com/example/nearpath/nearpath/answer/Frontier" "search" "I" (.int vS) := F40.other W50 (Or.inr (slot_ne (Or.inl (hw _ (List.mem_of_getElem? (i := 36) rfl))) (Or.inl (hw _ (List.mem_of_getElem? (i := 30) rfl))) (by decide) (t := .int) (t' := .int) (by decide) (by decide)))
  have F55 : Fld Z h50 f "com/example/nearpath/nearpath/answer/Frontier" "cost" "J" (.long vc) := F41.other W50 (Or.inr (slot_ne (Or.inl (hw _ (List.mem_of_getElem? (i := 34) rfl))) (Or.inl (hw _ (List.mem_of_getElem? (i := 30) rfl))) (by decide) (t := .long) (t' := .int) (by decide) (by decide)))
  have F56 : Fld Z h50 f "com/example/nearpath/nearpath/answer/Frontier" "level" "[I" (.ref lv) := F42.other W50 (Or.inr (slot_ne (Or.inl (hw _ (List.mem_of_getElem? (i := 12) rfl))) (Or.inl (hw _ (List.mem_of_getElem? (i := 30) rfl))) (by decide) (t := (.array .int)) (t' := .int) (by decide) (by decide)))
  have F57 : Fld Z h50 f "com/example/nearpath/nearpath/answer/Frontier" "levelHead" "I" (.int (0 : Int32)) := F43.same W50
  have F58 : Fld Z h50 f "com/example/nearpath/nearpath/answer/Frontier" "levelTail" "I" (.int lt) := F44.other W50 (Or.inr (slot_ne (Or.inl (hw _ (List.mem_of_getElem? (i := 32) rfl))) (Or.inl (hw _ (List.mem_of_getElem? (i := 30) rfl))) (by decide) (t := .int) (t' := .int) (by decide) (by decide)))
  have F59 : Fld Z h50 f "com/example/nearpath/nearpath/answer/Frontier" "heapCosts" "[J" (.ref hc) := F45.other W50 (Or.inr (slot_ne (Or.inl (hw _ (List.mem_of_getElem? (i := 15) rfl))) (Or.inl (hw _ (List.mem_of_getElem? (i := 30) rfl))) (by decide) (t := (.array .long)) (t' := .int) (by decide) (by decide)))
  have F60 : Fld Z h50 f "com/example/nearpath/nearpath/answer/Frontier" "heapItems" "[I" (.ref hi) := F46.other W50 (Or.inr (slot_ne (Or.inl (hw _ (List.mem_of_getElem? (i := 17) rfl))) (Or.inl (hw _ (List.mem_of_getElem? (i := 30) rfl))) (by decide) (t := (.array .int)) (t' := .int) (by decide) (by decide)))
  have F61 : Fld Z h50 f "com/example/nearpath/nearpath/answer/Frontier" "heapSize" "I" (.int (0 : Int32)) := F47.other W50 (Or.inr (slot_ne (Or.inl (hw _ (List.mem_of_getElem? (i := 28) rfl))) (Or.inl (hw _ (List.mem_of_getElem? (i := 30) rfl))) (by decide) (t := .int) (t' := .int) (by decide) (by decide)))
  have V62 : Ary Z h50 hi .int 16 (bts gi) := V48.other W50 (Ne.symm pr17)
  have V63 : Ary Z h50 sn .int 4 (bts (updI (updI gs ((gi 0).toNatClampNeg) (0 : Int32)) ((gi 1).toNatClampNeg) (0 : Int32))) := V49.other W50 (Ne.symm pr18)
  have K50 : Keep h0 h50 [f, sn] := K36.wr W50 (Or.inl (by simp))
  have N50 := Fr.snoc X50 N36 pr15
  refine Go.st (mkF m 38 #[.val (.ref f), .val (.int (2 : Int32))] []) (fun _ k => st50 _ k) ?_
  refine Go.st (mkF m 39 #[.val (.ref f), .val (.int (2 : Int32))] [(.ref f)]) (fun _ k => XS.aloadN X50.here hx rfl (hb hby dss2_38) rfl rfl k) ?_
  refine Go.st (mkF m 40 #[.val (.ref f), .val (.int (2 : Int32))] [(.int (0 : Int32)), (.ref f)]) (fun _ k => XS.iconst X50.here hx rfl (hb hby dss2_39) k) ?_
  obtain ⟨T64, h64, X64, e64, W64, st64⟩ := putF X50 hx hZ hown (host := "") (Or.inl (hw _ (List.mem_of_getElem? (i := 31) rfl))) Via.refl e50 F58 E51q (Or.inl (hw _ (List.mem_of_getElem? (i := 32) rfl))) (hw _ (List.mem_of_getElem? (i := 1) rfl)) (ty := .int) (by decide) rfl rfl (g := (mkF m 40 #[.val (.ref f), .val (.int (2 : Int32))] [(.int (0 : Int32)), (.ref f)])) rfl rfl (hb hby dss2_40)
  have E65q : Exa Z h64 f "com/example/nearpath/nearpath/answer/Frontier" := E51q.wr W64
  have F66 : Fld Z h64 f "com/example/nearpath/nearpath/answer/Frontier" "seen" "[I" (.ref sn) := F52.other W64 (Or.inr (slot_ne (Or.inr (hw _ (List.mem_of_getElem? (i := 19) rfl))) (Or.inl (hw _ (List.mem_of_getElem? (i := 32) rfl))) (by decide) (t := (.array .int)) (t' := .int) (by decide) (by decide)))
  have F67 : Fld Z h64 f "com/example/nearpath/nearpath/answer/Frontier" "maxCost" "J" (.long (3 : Int64)) := F53.other W64 (Or.inr (slot_ne (Or.inr (hw _ (List.mem_of_getElem? (i := 21) rfl))) (Or.inl (hw _ (List.mem_of_getElem? (i := 32) rfl))) (by decide) (t := .long) (t' := .int) (by decide) (by decide)))
  have F68 : Fld Z h64 f "com/example/nearpath/nearpath/answer/Frontier" "search" "I" (.int vS) := F54.other W64 (Or.inr (slot_ne (Or.inl (hw _ (List.mem_of_getElem? (i := 36) rfl))) (Or.inl (hw _ (List.mem_of_getElem? (i := 32) rfl))) (by decide) (t := .int) (t' := .int) (by decide) (by decide)))
  have F69 : Fld Z h64 f "com/example/nearpath/nearpath/answer/Frontier" "cost" "J" (.long vc) := F55.other W64 (Or.inr (slot_ne (Or.inl (hw _ (List.mem_of_getElem? (i := 34) rfl))) (Or.inl (hw _ (List.mem_of_getElem? (i := 32) rfl))) (by decide) (t := .long) (t' := .int) (by decide) (by decide)))
  have F70 : Fld Z h64 f "com/example/nearpath/nearpath/answer/Frontier" "level" "[I" (.ref lv) := F56.other W64 (Or.inr (slot_ne (Or.inl (hw _ (List.mem_of_getElem? (i := 12) rfl))) (Or.inl (hw _ (List.mem_of_getElem? (i := 32) rfl))) (by decide) (t := (.array .int)) (t' := .int) (by decide) (by decide)))
  have F71 : Fld Z h64 f "com/example/nearpath/nearpath/answer/Frontier" "levelHead" "I" (.int (0 : Int32)) := F57.other W64 (Or.inr (slot_ne (Or.inl (hw _ (List.mem_of_getElem? (i := 30) rfl))) (Or.inl (hw _ (List.mem_of_getElem? (i := 32) rfl))) (by decide) (t := .int) (t' := .int) (by decide) (by decide)))
  have F72 : Fld Z h64 f "com/example/nearpath/nearpath/answer/Frontier" "levelTail" "I" (.int (0 : Int32)) := F58.same W64
  have F73 : Fld Z h64 f "com/example/nearpath/nearpath/answer/Frontier" "heapCosts" "[J" (.ref hc) := F59.other W64 (Or.inr (slot_ne (Or.inl (hw _ (List.mem_of_getElem? (i := 15) rfl))) (Or.inl (hw _ (List.mem_of_getElem? (i := 32) rfl))) (by decide) (t := (.array .long)) (t' := .int) (by decide) (by decide)))
  have F74 : Fld Z h64 f "com/example/nearpath/nearpath/answer/Frontier" "heapItems" "[I" (.ref hi) := F60.other W64 (Or.inr (slot_ne (Or.inl (hw _ (List.mem_of_getElem? (i := 17) rfl))) (Or.inl (hw _ (List.mem_of_getElem? (i := 32) rfl))) (by decide) (t := (.array .int)) (t' := .int) (by decide) (by decide)))
  have F75 : Fld Z h64 f "com/example/nearpath/nearpath/answer/Frontier" "heapSize" "I" (.int (0 : Int32)) := F61.other W64 (Or.inr (slot_ne (Or.inl (hw _ (List.mem_of_getElem? (i := 28) rfl))) (Or.inl (hw _ (List.mem_of_getElem? (i := 32) rfl))) (by decide) (t := .int) (t' := .int) (by decide) (by decide)))
  have V76 : Ary Z h64 hi .int 16 (bts gi) := V62.other W64 (Ne.symm pr17)
  have V77 : Ary Z h64 sn .int 4 (bts (updI (updI gs ((gi 0).toNatClampNeg) (0 : Int32)) ((gi 1).toNatClampNeg) (0 : Int32))) := V63.other W64 (Ne.symm pr18)
  have K64 : Keep h0 h64 [f, sn] := K50.wr W64 (Or.inl (by simp))
  have N64 := Fr.snoc X64 N50 pr15
  refine Go.st (mkF m 43 #[.val (.ref f), .val (.int (2 : Int32))] []) (fun _ k => st64 _ k) ?_
  refine Go.st (mkF m 44 #[.val (.ref f), .val (.int (2 : Int32))] [(.ref f)]) (fun _ k => XS.aloadN X64.here hx rfl (hb hby dss2_43) rfl rfl k) ?_
  refine Go.st (mkF m 45 #[.val (.ref f), .val (.int (2 : Int32))] [(.long (0 : Int64)), (.ref f)]) (fun _ k => XT.lconst X64.here hx rfl (hb hby dss2_44) k) ?_
  obtain ⟨T78, h78, X78, e78, W78, st78⟩ := putF X64 hx hZ hown (host := "") (Or.inl (hw _ (List.mem_of_getElem? (i := 33) rfl))) Via.refl e64 F69 E65q (Or.inl (hw _ (List.mem_of_getElem? (i := 34) rfl))) (hw _ (List.mem_of_getElem? (i := 1) rfl)) (ty := .long) (by decide) rfl rfl (g := (mkF m 45 #[.val (.ref f), .val (.int (2 : Int32))] [(.long (0 : Int64)), (.ref f)])) rfl rfl (hb hby dss2_45)
  have E79q : Exa Z h78 f "com/example/nearpath/nearpath/answer/Frontier" := E65q.wr W78
  have F80 : Fld Z h78 f "com/example/nearpath/nearpath/answer/Frontier" "seen" "[I" (.ref sn) := F66.other W78 (Or.inr (slot_ne (Or.inr (hw _ (List.mem_of_getElem? (i := 19) rfl))) (Or.inl (hw _ (List.mem_of_getElem? (i := 34) rfl))) (by decide) (t := (.array .int)) (t' := .long) (by decide) (by decide)))
  have F81 : Fld Z h78 f "com/example/nearpath/nearpath/answer/Frontier" "maxCost" "J" (.long (3 : Int64)) := F67.other W78 (Or.inr (slot_ne (Or.inr (hw _ (List.mem_of_getElem? (i := 21) rfl))) (Or.inl (hw _ (List.mem_of_getElem? (i := 34) rfl))) (by decide) (t := .long) (t' := .long) (by decide) (by decide)))
  have F82 : Fld Z h78 f "com/example/nearpath/nearpath/answer/Frontier" "search" "I" (.int vS) := F68.other W78 (Or.inr (slot_ne (Or.inl (hw _ (List.mem_of_getElem? (i := 36) rfl))) (Or.inl (hw _ (List.mem_of_getElem? (i := 34) rfl))) (by decide) (t := .int) (t' := .long) (by decide) (by decide)))
  have F83 : Fld Z h78 f "com/example/nearpath/nearpath/answer/Frontier" "cost" "J" (.long (0 : Int64)) := F69.same W78
  have F84 : Fld Z h78 f "com/example/nearpath/nearpath/answer/Frontier" "level" "[I" (.ref lv) := F70.other W78 (Or.inr (slot_ne (Or.inl (hw _ (List.mem_of_getElem? (i := 12) rfl))) (Or.inl (hw _ (List.mem_of_getElem? (i := 34) rfl))) (by decide) (t := (.array .int)) (t' := .long) (by decide) (by decide)))
  have F85 : Fld Z h78 f "com/example/nearpath/nearpath/answer/Frontier" "levelHead" "I" (.int (0 : Int32)) := F71.other W78 (Or.inr (slot_ne (Or.inl (hw _ (List.mem_of_getElem? (i := 30) rfl))) (Or.inl (hw _ (List.mem_of_getElem? (i := 34) rfl))) (by decide) (t := .int) (t' := .long) (by decide) (by decide)))
  have F86 : Fld Z h78 f "com/example/nearpath/nearpath/answer/Frontier" "levelTail" "I" (.int (0 : Int32)) := F72.other W78 (Or.inr (slot_ne (Or.inl (hw _ (List.mem_of_getElem? (i := 32) rfl))) (Or.inl (hw _ (List.mem_of_getElem? (i := 34) rfl))) (by decide) (t := .int) (t' := .long) (by decide) (by decide)))
  have F87 : Fld Z h78 f "com/example/nearpath/nearpath/answer/Frontier" "heapCosts" "[J" (.ref hc) := F73.other W78 (Or.inr (slot_ne (Or.inl (hw _ (List.mem_of_getElem? (i := 15) rfl))) (Or.inl (hw _ (List.mem_of_getElem? (i := 34) rfl))) (by decide) (t := (.array .long)) (t' := .long) (by decide) (by decide)))
  have F88 : Fld Z h78 f "com/example/nearpath/nearpath/answer/Frontier" "heapItems" "[I" (.ref hi) := F74.other W78 (Or.inr (slot_ne (Or.inl (hw _ (List.mem_of_getElem? (i := 17) rfl))) (Or.inl (hw _ (List.mem_of_getElem? (i := 34) rfl))) (by decide) (t := (.array .int)) (t' := .long) (by decide) (by decide)))
  have F89 : Fld Z h78 f "com/example/nearpath/nearpath/answer/Frontier" "heapSize" "I" (.int (0 : Int32)) := F75.other W78 (Or.inr (slot_ne (Or.inl (hw _ (List.mem_of_getElem? (i := 28) rfl))) (Or.inl (hw _ (List.mem_of_getElem? (i := 34) rfl))) (by decide) (t := .int) (t' := .long) (by decide) (by decide)))
  have V90 : Ary Z h78 hi .int 16 (bts gi) := V76.other W78 (Ne.symm pr17)
  have V91 : Ary Z h78 sn .int 4 (bts (updI (updI gs ((gi 0).toNatClampNeg) (0 : Int32)) ((gi 1).toNatClampNeg) (0 : Int32))) := V77.other W78 (Ne.symm pr18)
  have K78 : Keep h0 h78 [f, sn] := K64.wr W78 (Or.inl (by simp))
  have N78 := Fr.snoc X78 N64 pr15
  refine Go.st (mkF m 48 #[.val (.ref f), .val (.int (2 : Int32))] []) (fun _ k => st78 _ k) ?_
  refine Go.st (mkF m 49 #[.val (.ref f), .val (.int (2 : Int32))] [(.ref f)]) (fun _ k => XS.aloadN X78.here hx rfl (hb hby dss2_48) rfl rfl k) ?_
  refine Go.st (mkF m 50 #[.val (.ref f), .val (.int (2 : Int32))] [(.ref f), (.ref f)]) (fun _ k => XS.dup X78.here hx rfl (hb hby dss2_49) rfl rfl k) ?_
  obtain ⟨T92, X92, e92, st92⟩ := getF X78 hx hZ hown (host := "") (Or.inl (hw _ (List.mem_of_getElem? (i := 35) rfl))) Via.refl e78 F82 (g := (mkF m 50 #[.val (.ref f), .val (.int (2 : Int32))] [(.ref f), (.ref f)])) rfl rfl (hb hby dss2_50)
  refine Go.st (mkF m 53 #[.val (.ref f), .val (.int (2 : Int32))] [(.int vS), (.ref f)]) (fun _ k => st92 _ k) ?_
  refine Go.st (mkF m 54 #[.val (.ref f), .val (.int (2 : Int32))] [(.int (1 : Int32)), (.int vS), (.ref f)]) (fun _ k => XS.iconst X92.here hx rfl (hb hby dss2_53) k) ?_
  refine Go.st (mkF m 55 #[.val (.ref f), .val (.int (2 : Int32))] [(.int (vS + (1 : Int32))), (.ref f)]) (fun _ k => XS.iadd X92.here hx rfl (hb hby dss2_54) rfl k) ?_
  refine Go.st (mkF m 56 #[.val (.ref f), .val (.int (2 : Int32))] [(.int (vS + (1 : Int32))), (.ref f), (.int (vS + (1 : Int32)))]) (fun _ k => XT.dupX1 X92.here hx rfl (hb hby dss2_55) rfl rfl rfl k) ?_
  obtain ⟨T93, h93, X93, e93, W93, st93⟩ := putF X92 hx hZ hown (host := "") (Or.inl (hw _ (List.mem_of_getElem? (i := 35) rfl))) Via.refl e92 F82 E79q (Or.inl (hw _ (List.mem_of_getElem? (i := 36) rfl))) (hw _ (List.mem_of_getElem? (i := 1) rfl)) (ty := .int) (by decide) rfl rfl (g := (mkF m 56 #[.val (.ref f), .val (.int (2 : Int32))] [(.int (vS + (1 : Int32))), (.ref f), (.int (vS + (1 : Int32)))])) rfl rfl (hb hby dss2_56)
  have E94q : Exa Z h93 f "com/example/nearpath/nearpath/answer/Frontier" := E79q.wr W93
  have F95 : Fld Z h93 f "com/example/nearpath/nearpath/answer/Frontier" "seen" "[I" (.ref sn) := F80.other W93 (Or.inr (slot_ne (Or.inr (hw _ (List.mem_of_getElem? (i := 19) rfl))) (Or.inl (hw _ (List.mem_of_getElem? (i := 36) rfl))) (by decide) (t := (.array .int)) (t' := .int) (by decide) (by decide)))
  have F96 : Fld Z h93 f "com/example/nearpath/nearpath/answer/Frontier" "maxCost" "J" (.long (3 : Int64)) := F81.other W93 (Or.inr (slot_ne (Or.inr (hw _ (List.mem_of_getElem? (i := 21) rfl))) (Or.inl (hw _ (List.mem_of_getElem? (i := 36) rfl))) (by decide) (t := .long) (t' := .int) (by decide) (by decide)))
  have F97 : Fld Z h93 f "com/example/nearpath/nearpath/answer/Frontier" "search" "I" (.int (vS + (1 : Int32))) := F82.same W93
  have F98 : Fld Z h93 f "com/example/nearpath/nearpath/answer/Frontier" "cost" "J" (.long (0 : Int64)) := F83.other W93 (Or.inr (slot_ne (Or.inl (hw _ (List.mem_of_getElem? (i := 34) rfl))) (Or.inl (hw _ (List.mem_of_getElem? (i := 36) rfl))) (by decide) (t := .long) (t' := .int) (by decide) (by decide)))
  have F99 : Fld Z h93 f "com/example/nearpath/nearpath/answer/Frontier" "level" "[I" (.ref lv) := F84.other W93 (Or.inr (slot_ne (Or.inl (hw _ (List.mem_of_getElem? (i := 12) rfl))) (Or.inl (hw _ (List.mem_of_getElem? (i := 36) rfl))) (by decide) (t := (.array .int)) (t' := .int) (by decide) (by decide)))
  have F100 : Fld Z h93 f "com/example/nearpath/nearpath/answer/Frontier" "levelHead" "I" (.int (0 : Int32)) := F85.other W93 (Or.inr (slot_ne (Or.inl (hw _ (List.mem_of_getElem? (i := 30) rfl))) (Or.inl (hw _ (List.mem_of_getElem? (i := 36) rfl))) (by decide) (t := .int) (t' := .int) (by decide) (by decide)))
  have F101 : Fld Z h93 f "com/example/nearpath/nearpath/answer/Frontier" "levelTail" "I" (.int (0 : Int32)) := F86.other W93 (Or.inr (slot_ne (Or.inl (hw _ (List.mem_of_getElem? (i := 32) rfl))) (Or.inl (hw _ (List.mem_of_getElem? (i := 36) rfl))) (by decide) (t := .int) (t' := .int) (by decide) (by decide)))
  have F102 : Fld Z h93 f "com/example/nearpath/nearpath/answer/Frontier" "heapCosts" "[J" (.ref hc) := F87.other W93 (Or.inr (slot_ne (Or.inl (hw _ (List.mem_of_getElem? (i := 15) rfl))) (Or.inl (hw _ (List.mem_of_getElem? (i := 36) rfl))) (by decide) (t := (.array .long)) (t' := .int) (by decide) (by decide)))
  have F103 : Fld Z h93 f "com/example/nearpath/nearpath/answer/Frontier" "heapItems" "[I" (.ref hi) := F88.other W93 (Or.inr (slot_ne (Or.inl (hw _ (List.mem_of_getElem? (i := 17) rfl))) (Or.inl (hw _ (List.mem_of_getElem? (i := 36) rfl))) (by decide) (t := (.array .int)) (t' := .int) (by decide) (by decide)))
  have F104 : Fld Z h93 f "com/example/nearpath/nearpath/answer/Frontier" "heapSize" "I" (.int (0 : Int32)) := F89.other W93 (Or.inr (slot_ne (Or.inl (hw _ (List.mem_of_getElem? (i := 28) rfl))) (Or.inl (hw _ (List.mem_of_getElem? (i := 36) rfl))) (by decide) (t := .int) (t' := .int) (by decide) (by decide)))
  have V105 : Ary Z h93 hi .int 16 (bts gi) := V90.other W93 (Ne.symm pr17)
  have V106 : Ary Z h93 sn .int 4 (bts (updI (updI gs ((gi 0).toNatClampNeg) (0 : Int32)) ((gi 1).toNatClampNeg) (0 : Int32))) := V91.other W93 (Ne.symm pr18)
  have K93 : Keep h0 h93 [f, sn] := K78.wr W93 (Or.inl (by simp))
  have N93 := Fr.snoc X93 N78 pr15
  refine Go.st (mkF m 59 #[.val (.ref f), .val (.int (2 : Int32))] [(.int (vS + (1 : Int32)))]) (fun _ k => st93 _ k) ?_
  exact Go.retI X93 hx Bd.notSynchronized Bd.returns (hb hby dss2_59) (by rw [e93]; exact ⟨rfl, N93, K93, F95, F96, F97, F98, F99, F100, F101, F102, F103, F104, V106⟩) (by decide) (by decide)
theorem dco_0 : decode prog_12_method_5_code 0 = .ok (.aload_n 0, 1) := by decide +kernel
theorem dco_1 : decode prog_12_method_5_code 1 = .ok (.getfield 37, 3) := by decide +kernel
theorem dco_4 : decode prog_12_method_5_code 4 = .ok (.lreturn, 1) := by decide +kernel
theorem ef_co (m : MethodId) (f : Addr) : entryFrame m #[(.ref f)] 1 = (mkF m 0 #[.val (.ref f)] []) := by first | (simp [entryFrame, mkF, argsToLocals, Value.category]; done) | rfl
def Q_co (Z : State) (f : Addr) (vc : Int64) (h0 : Heap) (n0 : Nat) (vv : Option Value) (hE : Heap) (LE : List Loc) : Prop := vv = some (.long vc) ∧ Fr n0 LE ∧ hE = h0
set_option maxRecDepth 65536 in
set_option maxHeartbeats 40000000 in
theorem rm_co (l : Launch) (Z : State) (a0 : Array Value) (hw : ∀ d ∈ tables_1, d.before a0 Z = true) (ws : List Jvm.Cond) (f : Addr) (vc : Int64) (h0 : Heap) (n0 : Nat) (Z0 : n0 ≤ h0.size) (pr0 : Fld Z h0 f "com/example/nearpath/nearpath/answer/Frontier" "cost" "J" (.long vc)) :
    MetFree l (⟨"com/example/nearpath/nearpath/answer/Frontier", "cost", "()J"⟩ : MethodName) (head1 (Jvm.Cond.code (⟨"com/example/nearpath/nearpath/answer/Frontier", "cost", "()J"⟩ : MethodName) prog_12_method_5_code 1 (some .long) :: ws) ({ frames := 0, cells := 0, slots := 0, locals := 0 } : Room)) (fun aa UU => aa = #[(.ref f)] ∧ Z.Warmed39 UU.vm ∧ UU.heap = h0) (fun _ _ _ _ _ => True) (fun _ UU oo UU' => ∃ vv LL, oo = .returned vv ∧ Q_co Z f vc h0 n0 vv UU'.heap LL ∧ FrameEnd UU oo UU' LL ({ frames := 0, cells := 0, slots := 0, locals := 0 } : Room).cells ({ frames := 0, cells := 0, slots := 0, locals := 0 } : Room).slots) := by
  refine MetFree.of_bodySF (plainFor_of_name pn_0) hisR ?_
  intro p e s m args below meth c s₁ Bd hml0 hP hK
  obtain ⟨rfl, hZ, hh⟩ := hP
  have hx := Bd.exec
  have hby := Bd.bytes
  have hml : c.maxLocals = 1 := hml0
  have hown : s.vm.findClass "com/example/nearpath/nearpath/answer/Frontier" = some m.cls := findClass_of_methodNamed Bd.named
  have hnm := (name_of_methodNamed Bd.named Bd.method).1
  have X0 : Stand p l e ({ frames := 0, cells := 0, slots := 0, locals := 0 } : Room) s m #[(.ref f)] below meth c s₁ [] 0 0 := Stand.of_body Bd
  have e0 : s₁.heap = h0 := by rw [← hh, Bd.state]; rfl
  have N0 := Fr.nil n0
  have K0 := Keep.refl h0 []
  show Go p e below s (Q_co Z f vc h0 n0) 0 0 s₁ (entryFrame m #[(.ref f)] 1)
  refine Go.of_eq (ef_co m f) ?_
  refine Go.st (mkF m 1 #[.val (.ref f)] [(.ref f)]) (fun _ k => XS.aloadN X0.here hx rfl (hb hby dco_0) rfl rfl k) ?_
  obtain ⟨T1, X1, e1, st1⟩ := getF X0 hx hZ hown (host := "") (Or.inl (hw _ (List.mem_of_getElem? (i := 33) rfl))) Via.refl e0 pr0 (g := (mkF m 1 #[.val (.ref f)] [(.ref f)])) rfl rfl (hb hby dco_1)
  refine Go.st (mkF m 4 #[.val (.ref f)] [(.long vc)]) (fun _ k => st1 _ k) ?_
  exact Go.retJ X1 hx Bd.notSynchronized Bd.returns (hb hby dco_4) ⟨rfl, N0, e1⟩ (by decide) (by decide)
theorem dn1_0 : decode prog_12_method_4_code 0 = .ok (.aload_n 0, 1) := by decide +kernel
theorem dn1_1 : decode prog_12_method_4_code 1 = .ok (.getfield 31, 3) := by decide +kernel
theorem dn1_4 : decode prog_12_method_4_code 4 = .ok (.aload_n 0, 1) := by decide +kernel
theorem dn1_5 : decode prog_12_method_4_code 5 = .ok (.getfield 34, 3) := by decide +kernel
theorem dn1_8 : decode prog_12_method_4_code 8 = .ok (.if_icmp .ge 20, 3) := by decide +kernel
theorem dn1_11 : decode prog_12_method_4_code 11 = .ok (.aload_n 0, 1) := by decide +kernel
theorem dn1_12 : decode prog_12_method_4_code 12 = .ok (.getfield 7, 3) := by decide +kernel
theorem dn1_15 : decode prog_12_method_4_code 15 = .ok (.aload_n 0, 1) := by decide +kernel
theorem dn1_16 : decode prog_12_method_4_code 16 = .ok (.dup, 1) := by decide +kernel
theorem dn1_17 : decode prog_12_method_4_code 17 = .ok (.getfield 31, 3) := by decide +kernel
theorem dn1_20 : decode prog_12_method_4_code 20 = .ok (.dup_x1, 1) := by decide +kernel
theorem dn1_21 : decode prog_12_method_4_code 21 = .ok (.iconst 1, 1) := by decide +kernel
theorem dn1_22 : decode prog_12_method_4_code 22 = .ok (.iadd, 1) := by decide +kernel
theorem dn1_23 : decode prog_12_method_4_code 23 = .ok (.putfield 31, 3) := by decide +kernel
theorem dn1_26 : decode prog_12_method_4_code 26 = .ok (.iaload, 1) := by decide +kernel
theorem dn1_27 : decode prog_12_method_4_code 27 = .ok (.ireturn, 1) := by decide +kernel
theorem ef_n1 (m : MethodId) (f : Addr) : entryFrame m #[(.ref f)] 2 = (mkF m 0 #[.val (.ref f), .unset] []) := by first | (simp [entryFrame, mkF, argsToLocals, Value.category]; done) | rfl
def Q_n1 (Z : State) (f : Addr) (lv : Addr) (hc : Addr) (hi : Addr) (sn : Addr) (vS : Int32) (vc : Int64) (lt : Int32) (hs : Int32) (gl : Nat → Int32) (h0 : Heap) (n0 : Nat) (vv : Option Value) (hE : Heap) (LE : List Loc) : Prop := vv = some (.int (gl 0)) ∧ Fr n0 LE ∧ Keep h0 hE [f] ∧ Fld Z hE f "com/example/nearpath/nearpath/answer/Frontier" "seen" "[I" (.ref sn) ∧ Fld Z hE f "com/example/nearpath/nearpath/answer/Frontier" "maxCost" "J" (.long (3 : Int64)) ∧ Fld Z hE f "com/example/nearpath/nearpath/answer/Frontier" "search" "I" (.int vS) ∧ Fld Z hE f "com/example/nearpath/nearpath/answer/Frontier" "cost" "J" (.long vc) ∧ Fld Z hE f "com/example/nearpath/nearpath/answer/Frontier" "level" "[I" (.ref lv) ∧ Fld Z hE f "com/example/nearpath/nearpath/answer/Frontier" "levelHead" "I" (.int (1 : Int32)) ∧ Fld Z hE f "com/example/nearpath/nearpath/answer/Frontier" "levelTail" "I" (.int lt) ∧ Fld Z hE f "com/example/nearpath/nearpath/answer/Frontier" "heapCosts" "[J" (.ref hc) ∧ Fld Z hE f "com/example/nearpath/nearpath/answer/Frontier" "heapItems" "[I" (.ref hi) ∧ Fld Z hE f "com/example/nearpath/nearpath/answer/Frontier" "heapSize" "I" (.int hs)
set_option maxRecDepth 65536 in
set_option maxHeartbeats 40000000 in
theorem rm_n1 (l : Launch) (Z : State) (a0 : Array Value) (hw : ∀ d ∈ tables_1, d.before a0 Z = true) (ws : List Jvm.Cond) (f : Addr) (lv : Addr) (hc : Addr) (hi : Addr) (sn : Addr) (vS : Int32) (vc : Int64) (lt : Int32) (hs : Int32) (gl : Nat → Int32) (h0 : Heap) (n0 : Nat) (Z0 : n0 ≤ h0.size) (pr0 : Exa Z h0 f "com/example/nearpath/nearpath/answer/Frontier") (pr1 : Fld Z h0 f "com/example/nearpath/nearpath/answer/Frontier" "seen" "[I" (.ref sn)) (pr2 : Fld Z h0 f "com/example/nearpath/nearpath/answer/Frontier" "maxCost" "J" (.long (3 : Int64))) (pr3 : Fld Z h0 f "com/example/nearpath/nearpath/answer/Frontier" "search" "I" (.int vS)) (pr4 : Fld Z h0 f "com/example/nearpath/nearpath/answer/Frontier" "cost" "J" (.long vc)) (pr5 : Fld Z h0 f "com/example/nearpath/nearpath/answer/Frontier" "level" "[I" (.ref lv)) (pr6 : Fld Z h0 f "com/example/nearpath/nearpath/answer/Frontier" "levelHead" "I" (.int (0 : Int32))) (pr7 : Fld Z h0 f "com/example/nearpath/nearpath/answer/Frontier" "levelTail" "I" (.int lt)) (pr8 : Fld Z h0 f "com/example/nearpath/nearpath/answer/Frontier" "heapCosts" "[J" (.ref hc)) (pr9 : Fld Z h0 f "com/example/nearpath/nearpath/answer/Frontier" "heapItems" "[I" (.ref hi)) (pr10 : Fld Z h0 f "com/example/nearpath/nearpath/answer/Frontier" "heapSize" "I" (.int hs)) (pr11 : Ary Z h0 lv .int 16 (bts gl)) (pr12 : (0 : Int32) < lt) (pr13 : n0 ≤ f) (pr14 : f ≠ lv) :
    MetFree l (⟨"com/example/nearpath/nearpath/answer/Frontier", "next", "()I"⟩ : MethodName) (head1 (Jvm.Cond.code (⟨"com/example/nearpath/nearpath/answer/Frontier", "next", "()I"⟩ : MethodName) prog_12_method_4_code 2 (some .int) :: ws) ({ frames := 0, cells := 0, slots := 0, locals := 0 } : Room)) (fun aa UU => aa = #[(.ref f)] ∧ Z.Warmed39 UU.vm ∧ UU.heap = h0) (fun _ _ _ _ _ => True) (fun _ UU oo UU' => ∃ vv LL, oo = .returned vv ∧ Q_n1 Z f lv hc hi sn vS vc lt hs gl h0 n0 vv UU'.heap LL ∧ FrameEnd UU oo UU' LL ({ frames := 0, cells := 0, slots := 0, locals := 0 } : Room).cells ({ frames := 0, cells := 0, slots := 0, locals := 0 } : Room).slots) := by
  refine MetFree.of_bodySF (plainFor_of_name pn_0) hisR ?_
  intro p e s m args below meth c s₁ Bd hml0 hP hK
  obtain ⟨rfl, hZ, hh⟩ := hP
  have hx := Bd.exec
  have hby := Bd.bytes
  have hml : c.maxLocals = 2 := hml0
  have hown : s.vm.findClass "com/example/nearpath/nearpath/answer/Frontier" = some m.cls := findClass_of_methodNamed Bd.named
  have hnm := (name_of_methodNamed Bd.named Bd.method).1
  have X0 : Stand p l e ({ frames := 0, cells := 0, slots := 0, locals := 0 } : Room) s m #[(.ref f)] below meth c s₁ [] 0 0 := Stand.of_body Bd
  have e0 : s₁.heap = h0 := by rw [← hh, Bd.state]; rfl
  have N0 := Fr.nil n0
  have K0 := Keep.refl h0 [f]
  show Go p e below s (Q_n1 Z f lv hc hi sn vS vc lt hs gl h0 n0) 0 0 s₁ (entryFrame m #[(.ref f)] 2)
  refine Go.of_eq (ef_n1 m f) ?_
  refine Go.st (mkF m 1 #[.val (.ref f), .unset] [(.ref f)]) (fun _ k => XS.aloadN X0.here hx rfl (hb hby dn1_0) rfl rfl k) ?_
  obtain ⟨T1, X1, e1, st1⟩ := getF X0 hx hZ hown (host := "") (Or.inl (hw _ (List.mem_of_getElem? (i := 29) rfl))) Via.refl e0 pr6 (g := (mkF m 1 #[.val (.ref f), .unset] [(.ref f)])) rfl rfl (hb hby dn1_1)
  refine Go.st (mkF m 4 #[.val (.ref f), .unset] [(.int (0 : Int32))]) (fun _ k => st1 _ k) ?_
  refine Go.st (mkF m 5 #[.val (.ref f), .unset] [(.ref f), (.int (0 : Int32))]) (fun _ k => XS.aloadN X1.here hx rfl (hb hby dn1_4) rfl rfl k) ?_
  obtain ⟨T2, X2, e2, st2⟩ := getF X1 hx hZ hown (host := "") (Or.inl (hw _ (List.mem_of_getElem? (i := 31) rfl))) Via.refl e1 pr7 (g := (mkF m 5 #[.val (.ref f), .unset] [(.ref f), (.int (0 : Int32))])) rfl rfl (hb hby dn1_5)
  refine Go.st (mkF m 8 #[.val (.ref f), .unset] [(.int lt), (.int (0 : Int32))]) (fun _ k => st2 _ k) ?_
  refine Go.st (mkF m 11 #[.val (.ref f), .unset] []) (fun _ k => XS.icmpNo X2.here hx rfl (hb hby dn1_8) rfl (tlt pr12).2.1 k) ?_
  refine Go.st (mkF m 12 #[.val (.ref f), .unset] [(.ref f)]) (fun _ k => XS.aloadN X2.here hx rfl (hb hby dn1_11) rfl rfl k) ?_
  obtain ⟨T3, X3, e3, st3⟩ := getF X2 hx hZ hown (host := "") (Or.inl (hw _ (List.mem_of_getElem? (i := 11) rfl))) Via.refl e2 pr5 (g := (mkF m 12 #[.val (.ref f), .unset] [(.ref f)])) rfl rfl (hb hby dn1_12)
  refine Go.st (mkF m 15 #[.val (.ref f), .unset] [(.ref lv)]) (fun _ k => st3 _ k) ?_
  refine Go.st (mkF m 16 #[.val (.ref f), .unset] [(.ref f), (.ref lv)]) (fun _ k => XS.aloadN X3.here hx rfl (hb hby dn1_15) rfl rfl k) ?_
  refine Go.st (mkF m 17 #[.val (.ref f), .unset] [(.ref f), (.ref f), (.ref lv)]) (fun _ k => XS.dup X3.here hx rfl (hb hby dn1_16) rfl rfl k) ?_
  obtain ⟨T4, X4, e4, st4⟩ := getF X3 hx hZ hown (host := "") (Or.inl (hw _ (List.mem_of_getElem? (i := 29) rfl))) Via.refl e3 pr6 (g := (mkF m 17 #[.val (.ref f), .unset] [(.ref f), (.ref f), (.ref lv)])) rfl rfl (hb hby dn1_17)
  refine Go.st (mkF m 20 #[.val (.ref f), .unset] [(.int (0 : Int32)), (.ref f), (.ref lv)]) (fun _ k => st4 _ k) ?_
  refine Go.st (mkF m 21 #[.val (.ref f), .unset] [(.int (0 : Int32)), (.ref f), (.int (0 : Int32)), (.ref lv)]) (fun _ k => XT.dupX1 X4.here hx rfl (hb hby dn1_20) rfl rfl rfl k) ?_
  refine Go.st (mkF m 22 #[.val (.ref f), .unset] [(.int (1 : Int32)), (.int (0 : Int32)), (.ref f), (.int (0 : Int32)), (.ref lv)]) (fun _ k => XS.iconst X4.here hx rfl (hb hby dn1_21) k) ?_
  refine Go.st (mkF m 23 #[.val (.ref f), .unset] [(.int (1 : Int32)), (.ref f), (.int (0 : Int32)), (.ref lv)]) (fun _ k => XS.iadd X4.here hx rfl (hb hby dn1_22) rfl k) ?_
  obtain ⟨T5, h5, X5, e5, W5, st5⟩ := putF X4 hx hZ hown (host := "") (Or.inl (hw _ (List.mem_of_getElem? (i := 29) rfl))) Via.refl e4 pr6 pr0 (Or.inl (hw _ (List.mem_of_getElem? (i := 30) rfl))) (hw _ (List.mem_of_getElem? (i := 1) rfl)) (ty := .int) (by decide) rfl rfl (g := (mkF m 23 #[.val (.ref f), .unset] [(.int (1 : Int32)), (.ref f), (.int (0 : Int32)), (.ref lv)])) rfl rfl (hb hby dn1_23)
  have E6q : Exa Z h5 f "com/example/nearpath/nearpath/answer/Frontier" := pr0.wr W5
  have F7 : Fld Z h5 f "com/example/nearpath/nearpath/answer/Frontier" "seen" "[I" (.ref sn) := pr1.other W5 (Or.inr (slot_ne (Or.inr (hw _ (List.mem_of_getElem? (i := 19) rfl))) (Or.inl (hw _ (List.mem_of_getElem? (i := 30) rfl))) (by decide) (t := (.array .int)) (t' := .int) (by decide) (by decide)))
  have F8 : Fld Z h5 f "com/example/nearpath/nearpath/answer/Frontier" "maxCost" "J" (.long (3 : Int64)) := pr2.other W5 (Or.inr (slot_ne (Or.inr (hw _ (List.mem_of_getElem? (i := 21) rfl))) (Or.inl (hw _ (List.mem_of_getElem? (i := 30) rfl))) (by decide) (t := .long) (t' := .int) (by decide) (by decide)))
  have F9 : Fld Z h5 f "com/example/nearpath/nearpath/answer/Frontier" "search" "I" (.int vS) := pr3.other W5 (Or.inr (slot_ne (Or.inl (hw _ (List.mem_of_getElem? (i := 36) rfl))) (Or.inl (hw _ (List.mem_of_getElem? (i := 30) rfl))) (by decide) (t := .int) (t' := .int) (by decide) (by decide)))
  have F10 : Fld Z h5 f "com/example/nearpath/nearpath/answer/Frontier" "cost" "J" (.long vc) := pr4.other W5 (Or.inr (slot_ne (Or.inl (hw _ (List.mem_of_getElem? (i := 34) rfl))) (Or.inl (hw _ (List.mem_of_getElem? (i := 30) rfl))) (by decide) (t := .long) (t' := .int) (by decide) (by decide)))
  have F11 : Fld Z h5 f "com/example/nearpath/nearpath/answer/Frontier" "level" "[I" (.ref lv) := pr5.other W5 (Or.inr (slot_ne (Or.inl (hw _ (List.mem_of_getElem? (i := 12) rfl))) (Or.inl (hw _ (List.mem_of_getElem? (i := 30) rfl))) (by decide) (t := (.array .int)) (t' := .int) (by decide) (by decide)))
  have F12 : Fld Z h5 f "com/example/nearpath/nearpath/answer/Frontier" "levelHead" "I" (.int (1 : Int32)) := pr6.same W5
  have F13 : Fld Z h5 f "com/example/nearpath/nearpath/answer/Frontier" "levelTail" "I" (.int lt) := pr7.other W5 (Or.inr (slot_ne (Or.inl (hw _ (List.mem_of_getElem? (i := 32) rfl))) (Or.inl (hw _ (List.mem_of_getElem? (i := 30) rfl))) (by decide) (t := .int) (t' := .int) (by decide) (by decide)))
  have F14 : Fld Z h5 f "com/example/nearpath/nearpath/answer/Frontier" "heapCosts" "[J" (.ref hc) := pr8.other W5 (Or.inr (slot_ne (Or.inl (hw _ (List.mem_of_getElem? (i := 15) rfl))) (Or.inl (hw _ (List.mem_of_getElem? (i := 30) rfl))) (by decide) (t := (.array .long)) (t' := .int) (by decide) (by decide)))
  have F15 : Fld Z h5 f "com/example/nearpath/nearpath/answer/Frontier" "heapItems" "[I" (.ref hi) := pr9.other W5 (Or.inr (slot_ne (Or.inl (hw _ (List.mem_of_getElem? (i := 17) rfl))) (Or.inl (hw _ (List.mem_of_getElem? (i := 30) rfl))) (by decide) (t := (.array .int)) (t' := .int) (by decide) (by decide)))
  have F16 : Fld Z h5 f "com/example/nearpath/nearpath/answer/Frontier" "heapSize" "I" (.int hs) := pr10.other W5 (Or.inr (slot_ne (Or.inl (hw _ (List.mem_of_getElem? (i := 28) rfl))) (Or.inl (hw _ (List.mem_of_getElem? (i := 30) rfl))) (by decide) (t := .int) (t' := .int) (by decide) (by decide)))
  have V17 : Ary Z h5 lv .int 16 (bts gl) := pr11.other W5 (Ne.symm pr14)
  have K5 : Keep h0 h5 [f] := K0.wr W5 (Or.inl (by simp))
  have N5 := Fr.snoc X5 N0 pr13
  refine Go.st (mkF m 26 #[.val (.ref f), .unset] [(.int (0 : Int32)), (.ref lv)]) (fun _ k => st5 _ k) ?_
  refine Go.st (mkF m 27 #[.val (.ref f), .unset] [(.int (gl 0))]) (fun _ k => ldI X5 hx hZ e5 V17 (i := 0) (by decide) (by decide) (by decide) (v := (.int (gl 0))) rfl (g := (mkF m 26 #[.val (.ref f), .unset] [(.int (0 : Int32)), (.ref lv)])) rfl rfl (hb hby dn1_26) _ k) ?_
  exact Go.retI X5 hx Bd.notSynchronized Bd.returns (hb hby dn1_27) (by rw [e5]; exact ⟨rfl, N5, K5, F7, F8, F9, F10, F11, F12, F13, F14, F15, F16⟩) (by decide) (by decide)
theorem dn2_0 : decode prog_12_method_4_code 0 = .ok (.aload_n 0, 1) := by decide +kernel
theorem dn2_1 : decode prog_12_method_4_code 1 = .ok (.getfield 31, 3) := by decide +kernel
theorem dn2_4 : decode prog_12_method_4_code 4 = .ok (.aload_n 0, 1) := by decide +kernel
theorem dn2_5 : decode prog_12_method_4_code 5 = .ok (.getfield 34, 3) := by decide +kernel
theorem dn2_8 : decode prog_12_method_4_code 8 = .ok (.if_icmp .ge 20, 3) := by decide +kernel
theorem dn2_28 : decode prog_12_method_4_code 28 = .ok (.aload_n 0, 1) := by decide +kernel
theorem dn2_29 : decode prog_12_method_4_code 29 = .ok (.getfield 27, 3) := by decide +kernel
theorem dn2_32 : decode prog_12_method_4_code 32 = .ok (.ifCond .ne 5, 3) := by decide +kernel
theorem dn2_35 : decode prog_12_method_4_code 35 = .ok (.iconst (-1), 1) := by decide +kernel
theorem dn2_36 : decode prog_12_method_4_code 36 = .ok (.ireturn, 1) := by decide +kernel
theorem ef_n2 (m : MethodId) (f : Addr) : entryFrame m #[(.ref f)] 2 = (mkF m 0 #[.val (.ref f), .unset] []) := by first | (simp [entryFrame, mkF, argsToLocals, Value.category]; done) | rfl
def Q_n2 (Z : State) (f : Addr) (h0 : Heap) (n0 : Nat) (vv : Option Value) (hE : Heap) (LE : List Loc) : Prop := vv = some (.int (-1 : Int32)) ∧ Fr n0 LE ∧ hE = h0
set_option maxRecDepth 65536 in
set_option maxHeartbeats 40000000 in
theorem rm_n2 (l : Launch) (Z : State) (a0 : Array Value) (hw : ∀ d ∈ tables_1, d.before a0 Z = true) (ws : List Jvm.Cond) (f : Addr) (h0 : Heap) (n0 : Nat) (Z0 : n0 ≤ h0.size) (pr0 : Fld Z h0 f "com/example/nearpath/nearpath/answer/Frontier" "levelHead" "I" (.int (0 : Int32))) (pr1 : Fld Z h0 f "com/example/nearpath/nearpath/answer/Frontier" "levelTail" "I" (.int (0 : Int32))) (pr2 : Fld Z h0 f "com/example/nearpath/nearpath/answer/Frontier" "heapSize" "I" (.int (0 : Int32))) :
    MetFree l (⟨"com/example/nearpath/nearpath/answer/Frontier", "next", "()I"⟩ : MethodName) (head1 (Jvm.Cond.code (⟨"com/example/nearpath/nearpath/answer/Frontier", "next", "()I"⟩ : MethodName) prog_12_method_4_code 2 (some .int) :: ws) ({ frames := 0, cells := 0, slots := 0, locals := 0 } : Room)) (fun aa UU => aa = #[(.ref f)] ∧ Z.Warmed39 UU.vm ∧ UU.heap = h0) (fun _ _ _ _ _ => True) (fun _ UU oo UU' => ∃ vv LL, oo = .returned vv ∧ Q_n2 Z f h0 n0 vv UU'.heap LL ∧ FrameEnd UU oo UU' LL ({ frames := 0, cells := 0, slots := 0, locals := 0 } : Room).cells ({ frames := 0, cells := 0, slots := 0, locals := 0 } : Room).slots) := by
  refine MetFree.of_bodySF (plainFor_of_name pn_0) hisR ?_
  intro p e s m args below meth c s₁ Bd hml0 hP hK
  obtain ⟨rfl, hZ, hh⟩ := hP
  have hx := Bd.exec
  have hby := Bd.bytes
  have hml : c.maxLocals = 2 := hml0
  have hown : s.vm.findClass "com/example/nearpath/nearpath/answer/Frontier" = some m.cls := findClass_of_methodNamed Bd.named
  have hnm := (name_of_methodNamed Bd.named Bd.method).1
  have X0 : Stand p l e ({ frames := 0, cells := 0, slots := 0, locals := 0 } : Room) s m #[(.ref f)] below meth c s₁ [] 0 0 := Stand.of_body Bd
  have e0 : s₁.heap = h0 := by rw [← hh, Bd.state]; rfl
  have N0 := Fr.nil n0
  have K0 := Keep.refl h0 []
  show Go p e below s (Q_n2 Z f h0 n0) 0 0 s₁ (entryFrame m #[(.ref f)] 2)
  refine Go.of_eq (ef_n2 m f) ?_
  refine Go.st (mkF m 1 #[.val (.ref f), .unset] [(.ref f)]) (fun _ k => XS.aloadN X0.here hx rfl (hb hby dn2_0) rfl rfl k) ?_
  obtain ⟨T1, X1, e1, st1⟩ := getF X0 hx hZ hown (host := "") (Or.inl (hw _ (List.mem_of_getElem? (i := 29) rfl))) Via.refl e0 pr0 (g := (mkF m 1 #[.val (.ref f), .unset] [(.ref f)])) rfl rfl (hb hby dn2_1)
  refine Go.st (mkF m 4 #[.val (.ref f), .unset] [(.int (0 : Int32))]) (fun _ k => st1 _ k) ?_
  refine Go.st (mkF m 5 #[.val (.ref f), .unset] [(.ref f), (.int (0 : Int32))]) (fun _ k => XS.aloadN X1.here hx rfl (hb hby dn2_4) rfl rfl k) ?_
  obtain ⟨T2, X2, e2, st2⟩ := getF X1 hx hZ hown (host := "") (Or.inl (hw _ (List.mem_of_getElem? (i := 31) rfl))) Via.refl e1 pr1 (g := (mkF m 5 #[.val (.ref f), .unset] [(.ref f), (.int (0 : Int32))])) rfl rfl (hb hby dn2_5)
  refine Go.st (mkF m 8 #[.val (.ref f), .unset] [(.int (0 : Int32)), (.int (0 : Int32))]) (fun _ k => st2 _ k) ?_
  refine Go.st (mkF m 28 #[.val (.ref f), .unset] []) (fun _ k => XS.icmpYes X2.here hx rfl (pc0 := 8) (pc' := 28) rfl (hb hby dn2_8) rfl (flt (by decide : ¬ ((0 : Int32) < (0 : Int32)))).2.1 (by decide) (by decide) k) ?_
  refine Go.st (mkF m 29 #[.val (.ref f), .unset] [(.ref f)]) (fun _ k => XS.aloadN X2.here hx rfl (hb hby dn2_28) rfl rfl k) ?_
  obtain ⟨T3, X3, e3, st3⟩ := getF X2 hx hZ hown (host := "") (Or.inl (hw _ (List.mem_of_getElem? (i := 27) rfl))) Via.refl e2 pr2 (g := (mkF m 29 #[.val (.ref f), .unset] [(.ref f)])) rfl rfl (hb hby dn2_29)
  refine Go.st (mkF m 32 #[.val (.ref f), .unset] [(.int (0 : Int32))]) (fun _ k => st3 _ k) ?_
  refine Go.st (mkF m 35 #[.val (.ref f), .unset] []) (fun _ k => XS.ifNo X3.here hx rfl (hb hby dn2_32) rfl ((if0 _ _).trans (teq (by decide : (0 : Int32) = (0 : Int32))).2) k) ?_
  refine Go.st (mkF m 36 #[.val (.ref f), .unset] [(.int (-1 : Int32))]) (fun _ k => XS.iconst X3.here hx rfl (hb hby dn2_35) k) ?_
  exact Go.retI X3 hx Bd.notSynchronized Bd.returns (hb hby dn2_36) ⟨rfl, N0, e3⟩ (by decide) (by decide)
theorem dn3_0 : decode prog_12_method_4_code 0 = .ok (.aload_n 0, 1) := by decide +kernel
theorem dn3_1 : decode prog_12_method_4_code 1 = .ok (.getfield 31, 3) := by decide +kernel
theorem dn3_4 : decode prog_12_method_4_code 4 = .ok (.aload_n 0, 1) := by decide +kernel
theorem dn3_5 : decode prog_12_method_4_code 5 = .ok (.getfield 34, 3) := by decide +kernel
theorem dn3_8 : decode prog_12_method_4_code 8 = .ok (.if_icmp .ge 20, 3) := by decide +kernel
theorem dn3_28 : decode prog_12_method_4_code 28 = .ok (.aload_n 0, 1) := by decide +kernel
theorem dn3_29 : decode prog_12_method_4_code 29 = .ok (.getfield 27, 3) := by decide +kernel
theorem dn3_32 : decode prog_12_method_4_code 32 = .ok (.ifCond .ne 5, 3) := by decide +kernel
theorem dn3_37 : decode prog_12_method_4_code 37 = .ok (.aload_n 0, 1) := by decide +kernel
theorem dn3_38 : decode prog_12_method_4_code 38 = .ok (.getfield 17, 3) := by decide +kernel
theorem dn3_41 : decode prog_12_method_4_code 41 = .ok (.iconst 0, 1) := by decide +kernel
theorem dn3_42 : decode prog_12_method_4_code 42 = .ok (.iaload, 1) := by decide +kernel
theorem dn3_43 : decode prog_12_method_4_code 43 = .ok (.istore_n 1, 1) := by decide +kernel
theorem dn3_44 : decode prog_12_method_4_code 44 = .ok (.aload_n 0, 1) := by decide +kernel
theorem dn3_45 : decode prog_12_method_4_code 45 = .ok (.aload_n 0, 1) := by decide +kernel
theorem dn3_46 : decode prog_12_method_4_code 46 = .ok (.getfield 13, 3) := by decide +kernel
theorem dn3_49 : decode prog_12_method_4_code 49 = .ok (.iconst 0, 1) := by decide +kernel
theorem dn3_50 : decode prog_12_method_4_code 50 = .ok (.laload, 1) := by decide +kernel
theorem dn3_51 : decode prog_12_method_4_code 51 = .ok (.putfield 37, 3) := by decide +kernel
theorem dn3_54 : decode prog_12_method_4_code 54 = .ok (.aload_n 0, 1) := by decide +kernel
theorem dn3_55 : decode prog_12_method_4_code 55 = .ok (.getfield 20, 3) := by decide +kernel
theorem dn3_58 : decode prog_12_method_4_code 58 = .ok (.iload_n 1, 1) := by decide +kernel
theorem dn3_59 : decode prog_12_method_4_code 59 = .ok (.aload_n 0, 1) := by decide +kernel
theorem dn3_60 : decode prog_12_method_4_code 60 = .ok (.getfield 40, 3) := by decide +kernel
theorem dn3_63 : decode prog_12_method_4_code 63 = .ok (.iastore, 1) := by decide +kernel
theorem dn3_64 : decode prog_12_method_4_code 64 = .ok (.aload_n 0, 1) := by decide +kernel
theorem dn3_65 : decode prog_12_method_4_code 65 = .ok (.dup, 1) := by decide +kernel
theorem dn3_66 : decode prog_12_method_4_code 66 = .ok (.getfield 27, 3) := by decide +kernel
theorem dn3_69 : decode prog_12_method_4_code 69 = .ok (.iconst 1, 1) := by decide +kernel
theorem dn3_70 : decode prog_12_method_4_code 70 = .ok (.isub, 1) := by decide +kernel
theorem dn3_71 : decode prog_12_method_4_code 71 = .ok (.dup_x1, 1) := by decide +kernel
theorem dn3_72 : decode prog_12_method_4_code 72 = .ok (.putfield 27, 3) := by decide +kernel
theorem dn3_75 : decode prog_12_method_4_code 75 = .ok (.ifCond .le 25, 3) := by decide +kernel
theorem dn3_100 : decode prog_12_method_4_code 100 = .ok (.aload_n 0, 1) := by decide +kernel
theorem dn3_101 : decode prog_12_method_4_code 101 = .ok (.iconst 0, 1) := by decide +kernel
theorem dn3_102 : decode prog_12_method_4_code 102 = .ok (.putfield 31, 3) := by decide +kernel
theorem dn3_105 : decode prog_12_method_4_code 105 = .ok (.aload_n 0, 1) := by decide +kernel
theorem dn3_106 : decode prog_12_method_4_code 106 = .ok (.iconst 0, 1) := by decide +kernel
theorem dn3_107 : decode prog_12_method_4_code 107 = .ok (.putfield 34, 3) := by decide +kernel
theorem dn3_110 : decode prog_12_method_4_code 110 = .ok (.iload_n 1, 1) := by decide +kernel
theorem dn3_111 : decode prog_12_method_4_code 111 = .ok (.ireturn, 1) := by decide +kernel
theorem ef_n3 (m : MethodId) (f : Addr) : entryFrame m #[(.ref f)] 2 = (mkF m 0 #[.val (.ref f), .unset] []) := by first | (simp [entryFrame, mkF, argsToLocals, Value.category]; done) | rfl
def Q_n3 (Z : State) (f : Addr) (lv : Addr) (hc : Addr) (hi : Addr) (sn : Addr) (vS : Int32) (vc : Int64) (gc : Nat → Int64) (gi : Nat → Int32) (gs : Nat → Int32) (h0 : Heap) (n0 : Nat) (vv : Option Value) (hE : Heap) (LE : List Loc) : Prop := vv = some (.int (gi 0)) ∧ Fr n0 LE ∧ Keep h0 hE [f, sn] ∧ Fld Z hE f "com/example/nearpath/nearpath/answer/Frontier" "seen" "[I" (.ref sn) ∧ Fld Z hE f "com/example/nearpath/nearpath/answer/Frontier" "maxCost" "J" (.long (3 : Int64)) ∧ Fld Z hE f "com/example/nearpath/nearpath/answer/Frontier" "search" "I" (.int vS) ∧ Fld Z hE f "com/example/nearpath/nearpath/answer/Frontier" "cost" "J" (.long (gc 0)) ∧ Fld Z hE f "com/example/nearpath/nearpath/answer/Frontier" "level" "[I" (.ref lv) ∧ Fld Z hE f "com/example/nearpath/nearpath/answer/Frontier" "levelHead" "I" (.int (0 : Int32)) ∧ Fld Z hE f "com/example/nearpath/nearpath/answer/Frontier" "levelTail" "I" (.int (0 : Int32)) ∧ Fld Z hE f "com/example/nearpath/nearpath/answer/Frontier" "heapCosts" "[J" (.ref hc) ∧ Fld Z hE f "com/example/nearpath/nearpath/answer/Frontier" "heapItems" "[I" (.ref hi) ∧ Fld Z hE f "com/example/nearpath/nearpath/answer/Frontier" "heapSize" "I" (.int (0 : Int32)) ∧ Ary Z hE sn .int 4 (bts (updI gs ((gi 0).toNatClampNeg) vS))
set_option maxRecDepth 65536 in
set_option maxHeartbeats 40000000 in
theorem rm_n3 (l : Launch) (Z : State) (a0 : Array Value) (hw : ∀ d ∈ tables_1, d.before a0 Z = true) (ws : List Jvm.Cond) (f : Addr) (lv : Addr) (hc : Addr) (hi : Addr) (sn : Addr) (vS : Int32) (vc : Int64) (gc : Nat → Int64) (gi : Nat → Int32) (gs : Nat → Int32) (h0 : Heap) (n0 : Nat) (Z0 : n0 ≤ h0.size) (pr0 : Exa Z h0 f "com/example/nearpath/nearpath/answer/Frontier") (pr1 : Fld Z h0 f "com/example/nearpath/nearpath/answer/Frontier" "seen" "[I" (.ref sn)) (pr2 : Fld Z h0 f "com/example/nearpath/nearpath/answer/Frontier" "maxCost" "J" (.long (3 : Int64))) (pr3 : Fld Z h0 f "com/example/nearpath/nearpath/answer/Frontier" "search" "I" (.int vS)) (pr4 : Fld Z h0 f "com/example/nearpath/nearpath/answer/Frontier" "cost" "J" (.long vc)) (pr5 : Fld Z h0 f "com/example/nearpath/nearpath/answer/Frontier" "level" "[I" (.ref lv)) (pr6 : Fld Z h0 f "com/example/nearpath/nearpath/answer/Frontier" "levelHead" "I" (.int (0 : Int32))) (pr7 : Fld Z h0 f "com/example/nearpath/nearpath/answer/Frontier" "levelTail" "I" (.int (0 : Int32))) (pr8 : Fld Z h0 f "com/example/nearpath/nearpath/answer/Frontier" "heapCosts" "[J" (.ref hc)) (pr9 : Fld Z h0 f "com/example/nearpath/nearpath/answer/Frontier" "heapItems" "[I" (.ref hi)) (pr10 : Fld Z h0 f "com/example/nearpath/nearpath/answer/Frontier" "heapSize" "I" (.int (1 : Int32))) (pr11 : Ary Z h0 hc .long 16 (lts gc)) (pr12 : Ary Z h0 hi .int 16 (bts gi)) (pr13 : Ary Z h0 sn .int 4 (bts gs)) (pr14 : In4 (gi 0)) (pr15 : n0 ≤ f) (pr16 : n0 ≤ sn) (pr17 : f ≠ hc) (pr18 : f ≠ hi) (pr19 : f ≠ sn) (pr20 : hc ≠ hi) (pr21 : hc ≠ sn) (pr22 : hi ≠ sn) :
    MetFree l (⟨"com/example/nearpath/nearpath/answer/Frontier", "next", "()I"⟩ : MethodName) (head1 (Jvm.Cond.code (⟨"com/example/nearpath/nearpath/answer/Frontier", "next", "()I"⟩ : MethodName) prog_12_method_4_code 2 (some .int) :: ws) ({ frames := 0, cells := 0, slots := 0, locals := 0 } : Room)) (fun aa UU => aa = #[(.ref f)] ∧ Z.Warmed39 UU.vm ∧ UU.heap = h0) (fun _ _ _ _ _ => True) (fun _ UU oo UU' => ∃ vv LL, oo = .returned vv ∧ Q_n3 Z f lv hc hi sn vS vc gc gi gs h0 n0 vv UU'.heap LL ∧ FrameEnd UU oo UU' LL ({ frames := 0, cells := 0, slots := 0, locals := 0 } : Room).cells ({ frames := 0, cells := 0, slots := 0, locals := 0 } : Room).slots) := by
  refine MetFree.of_bodySF (plainFor_of_name pn_0) hisR ?_
  intro p e s m args below meth c s₁ Bd hml0 hP hK
  obtain ⟨rfl, hZ, hh⟩ := hP
  have hx := Bd.exec
  have hby := Bd.bytes
  have hml : c.maxLocals = 2 := hml0
  have hown : s.vm.findClass "com/example/nearpath/nearpath/answer/Frontier" = some m.cls := findClass_of_methodNamed Bd.named
  have hnm := (name_of_methodNamed Bd.named Bd.method).1
  have X0 : Stand p l e ({ frames := 0, cells := 0, slots := 0, locals := 0 } : Room) s m #[(.ref f)] below meth c s₁ [] 0 0 := Stand.of_body Bd
  have e0 : s₁.heap = h0 := by rw [← hh, Bd.state]; rfl
  have N0 := Fr.nil n0
  have K0 := Keep.refl h0 [f, sn]
  show Go p e below s (Q_n3 Z f lv hc hi sn vS vc gc gi gs h0 n0) 0 0 s₁ (entryFrame m #[(.ref f)] 2)
  refine Go.of_eq (ef_n3 m f) ?_
  refine Go.st (mkF m 1 #[.val (.ref f), .unset] [(.ref f)]) (fun _ k => XS.aloadN X0.here hx rfl (hb hby dn3_0) rfl rfl k) ?_
  obtain ⟨T1, X1, e1, st1⟩ := getF X0 hx hZ hown (host := "") (Or.inl (hw _ (List.mem_of_getElem? (i := 29) rfl))) Via.refl e0 pr6 (g := (mkF m 1 #[.val (.ref f), .unset] [(.ref f)])) rfl rfl (hb hby dn3_1)
  refine Go.st (mkF m 4 #[.val (.ref f), .unset] [(.int (0 : Int32))]) (fun _ k => st1 _ k) ?_
  refine Go.st (mkF m 5 #[.val (.ref f), .unset] [(.ref f), (.int (0 : Int32))]) (fun _ k => XS.aloadN X1.here hx rfl (hb hby dn3_4) rfl rfl k) ?_
  obtain ⟨T2, X2, e2, st2⟩ := getF X1 hx hZ hown (host := "") (Or.inl (hw _ (List.mem_of_getElem? (i := 31) rfl))) Via.refl e1 pr7 (g := (mkF m 5 #[.val (.ref f), .unset] [(.ref f), (.int (0 : Int32))])) rfl rfl (hb hby dn3_5)
  refine Go.st (mkF m 8 #[.val (.ref f), .unset] [(.int (0 : Int32)), (.int (0 : Int32))]) (fun _ k => st2 _ k) ?_
  refine Go.st (mkF m 28 #[.val (.ref f), .unset] []) (fun _ k => XS.icmpYes X2.here hx rfl (pc0 := 8) (pc' := 28) rfl (hb hby dn3_8) rfl (flt (by decide : ¬ ((0 : Int32) < (0 : Int32)))).2.1 (by decide) (by decide) k) ?_
  refine Go.st (mkF m 29 #[.val (.ref f), .unset] [(.ref f)]) (fun _ k => XS.aloadN X2.here hx rfl (hb hby dn3_28) rfl rfl k) ?_
  obtain ⟨T3, X3, e3, st3⟩ := getF X2 hx hZ hown (host := "") (Or.inl (hw _ (List.mem_of_getElem? (i := 27) rfl))) Via.refl e2 pr10 (g := (mkF m 29 #[.val (.ref f), .unset] [(.ref f)])) rfl rfl (hb hby dn3_29)
  refine Go.st (mkF m 32 #[.val (.ref f), .unset] [(.int (1 : Int32))]) (fun _ k => st3 _ k) ?_
  refine Go.st (mkF m 37 #[.val (.ref f), .unset] []) (fun _ k => XS.ifYes X3.here hx rfl (pc0 := 32) (pc' := 37) rfl (hb hby dn3_32) rfl ((if0 _ _).trans (feq (by decide : ¬ ((1 : Int32) = (0 : Int32)))).2) (by decide) (by decide) k) ?_
  refine Go.st (mkF m 38 #[.val (.ref f), .unset] [(.ref f)]) (fun _ k => XS.aloadN X3.here hx rfl (hb hby dn3_37) rfl rfl k) ?_
  obtain ⟨T4, X4, e4, st4⟩ := getF X3 hx hZ hown (host := "") (Or.inl (hw _ (List.mem_of_getElem? (i := 16) rfl))) Via.refl e3 pr9 (g := (mkF m 38 #[.val (.ref f), .unset] [(.ref f)])) rfl rfl (hb hby dn3_38)
  refine Go.st (mkF m 41 #[.val (.ref f), .unset] [(.ref hi)]) (fun _ k => st4 _ k) ?_
  refine Go.st (mkF m 42 #[.val (.ref f), .unset] [(.int (0 : Int32)), (.ref hi)]) (fun _ k => XS.iconst X4.here hx rfl (hb hby dn3_41) k) ?_
  refine Go.st (mkF m 43 #[.val (.ref f), .unset] [(.int (gi 0))]) (fun _ k => ldI X4 hx hZ e4 pr12 (i := 0) (by decide) (by decide) (by decide) (v := (.int (gi 0))) rfl (g := (mkF m 42 #[.val (.ref f), .unset] [(.int (0 : Int32)), (.ref hi)])) rfl rfl (hb hby dn3_42) _ k) ?_
  refine Go.st (mkF m 44 #[.val (.ref f), .val (.int (gi 0))] []) (fun _ k => XS.istoreN X4.here hx rfl (hb hby dn3_43) rfl (l' := #[.val (.ref f), .val (.int (gi 0))]) rfl k) ?_
  refine Go.st (mkF m 45 #[.val (.ref f), .val (.int (gi 0))] [(.ref f)]) (fun _ k => XS.aloadN X4.here hx rfl (hb hby dn3_44) rfl rfl k) ?_
  refine Go.st (mkF m 46 #[.val (.ref f), .val (.int (gi 0))] [(.ref f), (.ref f)]) (fun _ k => XS.aloadN X4.here hx rfl (hb hby dn3_45) rfl rfl k) ?_
  obtain ⟨T5, X5, e5, st5⟩ := getF X4 hx hZ hown (host := "") (Or.inl (hw _ (List.mem_of_getElem? (i := 14) rfl))) Via.refl e4 pr8 (g := (mkF m 46 #[.val (.ref f), .val (.int (gi 0))] [(.ref f), (.ref f)])) rfl rfl (hb hby dn3_46)
  refine Go.st (mkF m 49 #[.val (.ref f), .val (.int (gi 0))] [(.ref hc), (.ref f)]) (fun _ k => st5 _ k) ?_
  refine Go.st (mkF m 50 #[.val (.ref f), .val (.int (gi 0))] [(.int (0 : Int32)), (.ref hc), (.ref f)]) (fun _ k => XS.iconst X5.here hx rfl (hb hby dn3_49) k) ?_
  refine Go.st (mkF m 51 #[.val (.ref f), .val (.int (gi 0))] [(.long (gc 0)), (.ref f)]) (fun _ k => ldJ X5 hx hZ e5 pr11 (i := 0) (by decide) (by decide) (by decide) (v := (.long (gc 0))) rfl (g := (mkF m 50 #[.val (.ref f), .val (.int (gi 0))] [(.int (0 : Int32)), (.ref hc), (.ref f)])) rfl rfl (hb hby dn3_50) _ k) ?_
  obtain ⟨T6, h6, X6, e6, W6, st6⟩ := putF X5 hx hZ hown (host := "") (Or.inl (hw _ (List.mem_of_getElem? (i := 33) rfl))) Via.refl e5 pr4 pr0 (Or.inl (hw _ (List.mem_of_getElem? (i := 34) rfl))) (hw _ (List.mem_of_getElem? (i := 1) rfl)) (ty := .long) (by decide) rfl rfl (g := (mkF m 51 #[.val (.ref f), .val (.int (gi 0))] [(.long (gc 0)), (.ref f)])) rfl rfl (hb hby dn3_51)
  have E7q : Exa Z h6 f "com/example/nearpath/nearpath/answer/Frontier" := pr0.wr W6
  have F8 : Fld Z h6 f "com/example/nearpath/nearpath/answer/Frontier" "seen" "[I" (.ref sn) := pr1.other W6 (Or.inr (slot_ne (Or.inr (hw _ (List.mem_of_getElem? (i := 19) rfl))) (Or.inl (hw _ (List.mem_of_getElem? (i := 34) rfl))) (by decide) (t := (.array .int)) (t' := .long) (by decide) (by decide)))
  have F9 : Fld Z h6 f "com/example/nearpath/nearpath/answer/Frontier" "maxCost" "J" (.long (3 : Int64)) := pr2.other W6 (Or.inr (slot_ne (Or.inr (hw _ (List.mem_of_getElem? (i := 21) rfl))) (Or.inl (hw _ (List.mem_of_getElem? (i := 34) rfl))) (by decide) (t := .long) (t' := .long) (by decide) (by decide)))
  have F10 : Fld Z h6 f "com/example/nearpath/nearpath/answer/Frontier" "search" "I" (.int vS) := pr3.other W6 (Or.inr (slot_ne (Or.inl (hw _ (List.mem_of_getElem? (i := 36) rfl))) (Or.inl (hw _ (List.mem_of_getElem? (i := 34) rfl))) (by decide) (t := .int) (t' := .long) (by decide) (by decide)))
  have F11 : Fld Z h6 f "com/example/nearpath/nearpath/answer/Frontier" "cost" "J" (.long (gc 0)) := pr4.same W6
  have F12 : Fld Z h6 f "com/example/nearpath/nearpath/answer/Frontier" "level" "[I" (.ref lv) := pr5.other W6 (Or.inr (slot_ne (Or.inl (hw _ (List.mem_of_getElem? (i := 12) rfl))) (Or.inl (hw _ (List.mem_of_getElem? (i := 34) rfl))) (by decide) (t := (.array .int)) (t' := .long) (by decide) (by decide)))
  have F13 : Fld Z h6 f "com/example/nearpath/nearpath/answer/Frontier" "levelHead" "I" (.int (0 : Int32)) := pr6.other W6 (Or.inr (slot_ne (Or.inl (hw _ (List.mem_of_getElem? (i := 30) rfl))) (Or.inl (hw _ (List.mem_of_getElem? (i := 34) rfl))) (by decide) (t := .int) (t' := .long) (by decide) (by decide)))
  have F14 : Fld Z h6 f "com/example/nearpath/nearpath/answer/Frontier" "levelTail" "I" (.int (0 : Int32)) := pr7.other W6 (Or.inr (slot_ne (Or.inl (hw _ (List.mem_of_getElem? (i := 32) rfl))) (Or.inl (hw _ (List.mem_of_getElem? (i := 34) rfl))) (by decide) (t := .int) (t' := .long) (by decide) (by decide)))
  have F15 : Fld Z h6 f "com/example/nearpath/nearpath/answer/Frontier" "heapCosts" "[J" (.ref hc) := pr8.other W6 (Or.inr (slot_ne (Or.inl (hw _ (List.mem_of_getElem? (i := 15) rfl))) (Or.inl (hw _ (List.mem_of_getElem? (i := 34) rfl))) (by decide) (t := (.array .long)) (t' := .long) (by decide) (by decide)))
  have F16 : Fld Z h6 f "com/example/nearpath/nearpath/answer/Frontier" "heapItems" "[I" (.ref hi) := pr9.other W6 (Or.inr (slot_ne (Or.inl (hw _ (List.mem_of_getElem? (i := 17) rfl))) (Or.inl (hw _ (List.mem_of_getElem? (i := 34) rfl))) (by decide) (t := (.array .int)) (t' := .long) (by decide) (by decide)))
  have F17 : Fld Z h6 f "com/example/nearpath/nearpath/answer/Frontier" "heapSize" "I" (.int (1 : Int32)) := pr10.other W6 (Or.inr (slot_ne (Or.inl (hw _ (List.mem_of_getElem? (i := 28) rfl))) (Or.inl (hw _ (List.mem_of_getElem? (i := 34) rfl))) (by decide) (t := .int) (t' := .long) (by decide) (by decide)))
  have V18 : Ary Z h6 hc .long 16 (lts gc) := pr11.other W6 (Ne.symm pr17)
  have V19 : Ary Z h6 hi .int 16 (bts gi) := pr12.other W6 (Ne.symm pr18)
  have V20 : Ary Z h6 sn .int 4 (bts gs) := pr13.other W6 (Ne.symm pr19)
  have K6 : Keep h0 h6 [f, sn] := K0.wr W6 (Or.inl (by simp))
  have N6 := Fr.snoc X6 N0 pr15
  refine Go.st (mkF m 54 #[.val (.ref f), .val (.int (gi 0))] []) (fun _ k => st6 _ k) ?_
  refine Go.st (mkF m 55 #[.val (.ref f), .val (.int (gi 0))] [(.ref f)]) (fun _ k => XS.aloadN X6.here hx rfl (hb hby dn3_54) rfl rfl k) ?_
  obtain ⟨T21, X21, e21, st21⟩ := getF X6 hx hZ hown (host := "") (Or.inl (hw _ (List.mem_of_getElem? (i := 18) rfl))) Via.refl e6 F8 (g := (mkF m 55 #[.val (.ref f), .val (.int (gi 0))] [(.ref f)])) rfl rfl (hb hby dn3_55)
  refine Go.st (mkF m 58 #[.val (.ref f), .val (.int (gi 0))] [(.ref sn)]) (fun _ k => st21 _ k) ?_
  refine Go.st (mkF m 59 #[.val (.ref f), .val (.int (gi 0))] [(.int (gi 0)), (.ref sn)]) (fun _ k => XS.iloadN X21.here hx rfl (hb hby dn3_58) rfl k) ?_
  refine Go.st (mkF m 60 #[.val (.ref f), .val (.int (gi 0))] [(.ref f), (.int (gi 0)), (.ref sn)]) (fun _ k => XS.aloadN X21.here hx rfl (hb hby dn3_59) rfl rfl k) ?_
  obtain ⟨T22, X22, e22, st22⟩ := getF X21 hx hZ hown (host := "") (Or.inl (hw _ (List.mem_of_getElem? (i := 35) rfl))) Via.refl e21 F10 (g := (mkF m 60 #[.val (.ref f), .val (.int (gi 0))] [(.ref f), (.int (gi 0)), (.ref sn)])) rfl rfl (hb hby dn3_60)
  refine Go.st (mkF m 63 #[.val (.ref f), .val (.int (gi 0))] [(.int vS), (.int (gi 0)), (.ref sn)]) (fun _ k => st22 _ k) ?_
  obtain ⟨T23, h23, X23, e23, W23, st23⟩ := stAI X22 hx hZ e22 V20 (i := (gi 0).toNatClampNeg) (own_in4 pr14).1 rfl (own_in4 pr14).2 (g := (mkF m 63 #[.val (.ref f), .val (.int (gi 0))] [(.int vS), (.int (gi 0)), (.ref sn)])) rfl rfl (hb hby dn3_63)
  have E24q : Exa Z h23 f "com/example/nearpath/nearpath/answer/Frontier" := E7q.wr W23
  have F25 : Fld Z h23 f "com/example/nearpath/nearpath/answer/Frontier" "seen" "[I" (.ref sn) := F8.other W23 (Or.inl pr19)
  have F26 : Fld Z h23 f "com/example/nearpath/nearpath/answer/Frontier" "maxCost" "J" (.long (3 : Int64)) := F9.other W23 (Or.inl pr19)
  have F27 : Fld Z h23 f "com/example/nearpath/nearpath/answer/Frontier" "search" "I" (.int vS) := F10.other W23 (Or.inl pr19)
  have F28 : Fld Z h23 f "com/example/nearpath/nearpath/answer/Frontier" "cost" "J" (.long (gc 0)) := F11.other W23 (Or.inl pr19)
  have F29 : Fld Z h23 f "com/example/nearpath/nearpath/answer/Frontier" "level" "[I" (.ref lv) := F12.other W23 (Or.inl pr19)
  have F30 : Fld Z h23 f "com/example/nearpath/nearpath/answer/Frontier" "levelHead" "I" (.int (0 : Int32)) := F13.other W23 (Or.inl pr19)
  have F31 : Fld Z h23 f "com/example/nearpath/nearpath/answer/Frontier" "levelTail" "I" (.int (0 : Int32)) := F14.other W23 (Or.inl pr19)
  have F32 : Fld Z h23 f "com/example/nearpath/nearpath/answer/Frontier" "heapCosts" "[J" (.ref hc) := F15.other W23 (Or.inl pr19)
  have F33 : Fld Z h23 f "com/example/nearpath/nearpath/answer/Frontier" "heapItems" "[I" (.ref hi) := F16.other W23 (Or.inl pr19)
  have F34 : Fld Z h23 f "com/example/nearpath/nearpath/answer/Frontier" "heapSize" "I" (.int (1 : Int32)) := F17.other W23 (Or.inl pr19)
  have V35 : Ary Z h23 hc .long 16 (lts gc) := V18.other W23 pr21
  have V36 : Ary Z h23 hi .int 16 (bts gi) := V19.other W23 pr22
  have V37 : Ary Z h23 sn .int 4 (bts (updI gs ((gi 0).toNatClampNeg) vS)) := V20.sameB W23
  have K23 : Keep h0 h23 [f, sn] := K6.wr W23 (Or.inl (by simp))
  have N23 := Fr.snoc X23 N6 pr16
  refine Go.st (mkF m 64 #[.val (.ref f), .val (.int (gi 0))] []) (fun _ k => st23 _ k) ?_
  refine Go.st (mkF m 65 #[.val (.ref f), .val (.int (gi 0))] [(.ref f)]) (fun _ k => XS.aloadN X23.here hx rfl (hb hby dn3_64) rfl rfl k) ?_
  refine Go.st (mkF m 66 #[.val (.ref f), .val (.int (gi 0))] [(.ref f), (.ref f)]) (fun _ k => XS.dup X23.here hx rfl (hb hby dn3_65) rfl rfl k) ?_
  obtain ⟨T38, X38, e38, st38⟩ := getF X23 hx hZ hown (host := "") (Or.inl (hw _ (List.mem_of_getElem? (i := 27) rfl))) Via.refl e23 F34 (g := (mkF m 66 #[.val (.ref f), .val (.int (gi 0))] [(.ref f), (.ref f)])) rfl rfl (hb hby dn3_66)
  refine Go.st (mkF m 69 #[.val (.ref f), .val (.int (gi 0))] [(.int (1 : Int32)), (.ref f)]) (fun _ k => st38 _ k) ?_
  refine Go.st (mkF m 70 #[.val (.ref f), .val (.int (gi 0))] [(.int (1 : Int32)), (.int (1 : Int32)), (.ref f)]) (fun _ k => XS.iconst X38.here hx rfl (hb hby dn3_69) k) ?_
  refine Go.st (mkF m 71 #[.val (.ref f), .val (.int (gi 0))] [(.int (0 : Int32)), (.ref f)]) (fun _ k => XS.isub X38.here hx rfl (hb hby dn3_70) rfl k) ?_
  refine Go.st (mkF m 72 #[.val (.ref f), .val (.int (gi 0))] [(.int (0 : Int32)), (.ref f), (.int (0 : Int32))]) (fun _ k => XT.dupX1 X38.here hx rfl (hb hby dn3_71) rfl rfl rfl k) ?_
  obtain ⟨T39, h39, X39, e39, W39, st39⟩ := putF X38 hx hZ hown (host := "") (Or.inl (hw _ (List.mem_of_getElem? (i := 27) rfl))) Via.refl e38 F34 E24q (Or.inl (hw _ (List.mem_of_getElem? (i := 28) rfl))) (hw _ (List.mem_of_getElem? (i := 1) rfl)) (ty := .int) (by decide) rfl rfl (g := (mkF m 72 #[.val (.ref f), .val (.int (gi 0))] [(.int (0 : Int32)), (.ref f), (.int (0 : Int32))])) rfl rfl (hb hby dn3_72)
  have E40q : Exa Z h39 f "com/example/nearpath/nearpath/answer/Frontier" := E24q.wr W39
  have F41 : Fld Z h39 f "com/example/nearpath/nearpath/answer/Frontier" "seen" "[I" (.ref sn) := F25.other W39 (Or.inr (slot_ne (Or.inr (hw _ (List.mem_of_getElem? (i := 19) rfl))) (Or.inl (hw _ (List.mem_of_getElem? (i := 28) rfl))) (by decide) (t := (.array .int)) (t' := .int) (by decide) (by decide)))
  have F42 : Fld Z h39 f "com/example/nearpath/nearpath/answer/Frontier" "maxCost" "J" (.long (3 : Int64)) := F26.other W39 (Or.inr (slot_ne (Or.inr (hw _ (List.mem_of_getElem? (i := 21) rfl))) (Or.inl (hw _ (List.mem_of_getElem? (i := 28) rfl))) (by decide) (t := .long) (t' := .int) (by decide) (by decide)))
  have F43 : Fld Z h39 f "com/example/nearpath/nearpath/answer/Frontier" "search" "I" (.int vS) := F27.other W39 (Or.inr (slot_ne (Or.inl (hw _ (List.mem_of_getElem? (i := 36) rfl))) (Or.inl (hw _ (List.mem_of_getElem? (i := 28) rfl))) (by decide) (t := .int) (t' := .int) (by decide) (by decide)))
  have F44 : Fld Z h39 f "com/example/nearpath/nearpath/answer/Frontier" "cost" "J" (.long (gc 0)) := F28.other W39 (Or.inr (slot_ne (Or.inl (hw _ (List.mem_of_getElem? (i := 34) rfl))) (Or.inl (hw _ (List.mem_of_getElem? (i := 28) rfl))) (by decide) (t := .long) (t' := .int) (by decide) (by decide)))
  have F45 : Fld Z h39 f "com/example/nearpath/nearpath/answer/Frontier" "level" "[I" (.ref lv) := F29.other W39 (Or.inr (slot_ne (Or.inl (hw _ (List.mem_of_getElem? (i := 12) rfl))) (Or.inl (hw _ (List.mem_of_getElem? (i := 28) rfl))) (by decide) (t := (.array .int)) (t' := .int) (by decide) (by decide)))
  have F46 : Fld Z h39 f "com/example/nearpath/nearpath/answer/Frontier" "levelHead" "I" (.int (0 : Int32)) := F30.other W39 (Or.inr (slot_ne (Or.inl (hw _ (List.mem_of_getElem? (i := 30) rfl))) (Or.inl (hw _ (List.mem_of_getElem? (i := 28) rfl))) (by decide) (t := .int) (t' := .int) (by decide) (by decide)))
  have F47 : Fld Z h39 f "com/example/nearpath/nearpath/answer/Frontier" "levelTail" "I" (.int (0 : Int32)) := F31.other W39 (Or.inr (slot_ne (Or.inl (hw _ (List.mem_of_getElem? (i := 32) rfl))) (Or.inl (hw _ (List.mem_of_getElem? (i := 28) rfl))) (by decide) (t := .int) (t' := .int) (by decide) (by decide)))
  have F48 : Fld Z h39 f "com/example/nearpath/nearpath/answer/Frontier" "heapCosts" "[J" (.ref hc) := F32.other W39 (Or.inr (slot_ne (Or.inl (hw _ (List.mem_of_getElem? (i := 15) rfl))) (Or.inl (hw _ (List.mem_of_getElem? (i := 28) rfl))) (by decide) (t := (.array .long)) (t' := .int) (by decide) (by decide)))
  have F49 : Fld Z h39 f "com/example/nearpath/nearpath/answer/Frontier" "heapItems" "[I" (.ref hi) := F33.other W39 (Or.inr (slot_ne (Or.inl (hw _ (List.mem_of_getElem? (i := 17) rfl))) (Or.inl (hw _ (List.mem_of_getElem? (i := 28) rfl))) (by decide) (t := (.array .int)) (t' := .int) (by decide) (by decide)))
  have F50 : Fld Z h39 f "com/example/nearpath/nearpath/answer/Frontier" "heapSize" "I" (.int (0 : Int32)) := F34.same W39
  have V51 : Ary Z h39 hc .long 16 (lts gc) := V35.other W39 (Ne.symm pr17)
  have V52 : Ary Z h39 hi .int 16 (bts gi) := V36.other W39 (Ne.symm pr18)
  have V53 : Ary Z h39 sn .int 4 (bts (updI gs ((gi 0).toNatClampNeg) vS)) := V37.other W39 (Ne.symm pr19)
  have K39 : Keep h0 h39 [f, sn] := K23.wr W39 (Or.inl (by simp))
  have N39 := Fr.snoc X39 N23 pr15
  refine Go.st (mkF m 75 #[.val (.ref f), .val (.int (gi 0))] [(.int (0 : Int32))]) (fun _ k => st39 _ k) ?_
  refine Go.st (mkF m 100 #[.val (.ref f), .val (.int (gi 0))] []) (fun _ k => XS.ifYes X39.here hx rfl (pc0 := 75) (pc' := 100) rfl (hb hby dn3_75) rfl ((if0 _ _).trans (flt (by decide : ¬ ((0 : Int32) < (0 : Int32)))).2.2.2) (by decide) (by decide) k) ?_
  refine Go.st (mkF m 101 #[.val (.ref f), .val (.int (gi 0))] [(.ref f)]) (fun _ k => XS.aloadN X39.here hx rfl (hb hby dn3_100) rfl rfl k) ?_
  refine Go.st (mkF m 102 #[.val (.ref f), .val (.int (gi 0))] [(.int (0 : Int32)), (.ref f)]) (fun _ k => XS.iconst X39.here hx rfl (hb hby dn3_101) k) ?_
  obtain ⟨T54, h54, X54, e54, W54, st54⟩ := putF X39 hx hZ hown (host := "") (Or.inl (hw _ (List.mem_of_getElem? (i := 29) rfl))) Via.refl e39 F46 E40q (Or.inl (hw _ (List.mem_of_getElem? (i := 30) rfl))) (hw _ (List.mem_of_getElem? (i := 1) rfl)) (ty := .int) (by decide) rfl rfl (g := (mkF m 102 #[.val (.ref f), .val (.int (gi 0))] [(.int (0 : Int32)), (.ref f)])) rfl rfl (hb hby dn3_102)
  have E55q : Exa Z h54 f "com/example/nearpath/nearpath/answer/Frontier" := E40q.wr W54
  have F56 : Fld Z h54 f "com/example/nearpath/nearpath/answer/Frontier" "seen" "[I" (.ref sn) := F41.other W54 (Or.inr (slot_ne (Or.inr (hw _ (List.mem_of_getElem? (i := 19) rfl))) (Or.inl (hw _ (List.mem_of_getElem? (i := 30) rfl))) (by decide) (t := (.array .int)) (t' := .int) (by decide) (by decide)))
  have F57 : Fld Z h54 f "com/example/nearpath/nearpath/answer/Frontier" "maxCost" "J" (.long (3 : Int64)) := F42.other W54 (Or.inr (slot_ne (Or.inr (hw _ (List.mem_of_getElem? (i := 21) rfl))) (Or.inl (hw _ (List.mem_of_getElem? (i := 30) rfl))) (by decide) (t := .long) (t' := .int) (by decide) (by decide)))
  have F58 : Fld Z h54 f "com/example/nearpath/nearpath/answer/Frontier" "search" "I" (.int vS) := F43.other W54 (Or.inr (slot_ne (Or.inl (hw _ (List.mem_of_getElem? (i := 36) rfl))) (Or.inl (hw _ (List.mem_of_getElem? (i := 30) rfl))) (by decide) (t := .int) (t' := .int) (by decide) (by decide)))
  have F59 : Fld Z h54 f "com/example/nearpath/nearpath/answer/Frontier" "cost" "J" (.long (gc 0)) := F44.other W54 (Or.inr (slot_ne (Or.inl (hw _ (List.mem_of_getElem? (i := 34) rfl))) (Or.inl (hw _ (List.mem_of_getElem? (i := 30) rfl))) (by decide) (t := .long) (t' := .int) (by decide) (by decide)))
  have F60 : Fld Z h54 f "com/example/nearpath/nearpath/answer/Frontier" "level" "[I" (.ref lv) := F45.other W54 (Or.inr (slot_ne (Or.inl (hw _ (List.mem_of_getElem? (i := 12) rfl))) (Or.inl (hw _ (List.mem_of_getElem? (i := 30) rfl))) (by decide) (t := (.array .int)) (t' := .int) (by decide) (by decide)))
  have F61 : Fld Z h54 f "com/example/nearpath/nearpath/answer/Frontier" "levelHead" "I" (.int (0 : Int32)) := F46.same W54
  have F62 : Fld Z h54 f "com/example/nearpath/nearpath/answer/Frontier" "levelTail" "I" (.int (0 : Int32)) := F47.other W54 (Or.inr (slot_ne (Or.inl (hw _ (List.mem_of_getElem? (i := 32) rfl))) (Or.inl (hw _ (List.mem_of_getElem? (i := 30) rfl))) (by decide) (t := .int) (t' := .int) (by decide) (by decide)))
  have F63 : Fld Z h54 f "com/example/nearpath/nearpath/answer/Frontier" "heapCosts" "[J" (.ref hc) := F48.other W54 (Or.inr (slot_ne (Or.inl (hw _ (List.mem_of_getElem? (i := 15) rfl))) (Or.inl (hw _ (List.mem_of_getElem? (i := 30) rfl))) (by decide) (t := (.array .long)) (t' := .int) (by decide) (by decide)))
  have F64 : Fld Z h54 f "com/example/nearpath/nearpath/answer/Frontier" "heapItems" "[I" (.ref hi) := F49.other W54 (Or.inr (slot_ne (Or.inl (hw _ (List.mem_of_getElem? (i := 17) rfl))) (Or.inl (hw _ (List.mem_of_getElem? (i := 30) rfl))) (by decide) (t := (.array .int)) (t' := .int) (by decide) (by decide)))
  have F65 : Fld Z h54 f "com/example/nearpath/nearpath/answer/Frontier" "heapSize" "I" (.int (0 : Int32)) := F50.other W54 (Or.inr (slot_ne (Or.inl (hw _ (List.mem_of_getElem? (i := 28) rfl))) (Or.inl (hw _ (List.mem_of_getElem? (i := 30) rfl))) (by decide) (t := .int) (t' := .int) (by decide) (by decide)))
  have V66 : Ary Z h54 hc .long 16 (lts gc) := V51.other W54 (Ne.symm pr17)
  have V67 : Ary Z h54 hi .int 16 (bts gi) := V52.other W54 (Ne.symm pr18)
  have V68 : Ary Z h54 sn .int 4 (bts (updI gs ((gi 0).toNatClampNeg) vS)) := V53.other W54 (Ne.symm pr19)
  have K54 : Keep h0 h54 [f, sn] := K39.wr W54 (Or.inl (by simp))
  have N54 := Fr.snoc X54 N39 pr15
  refine Go.st (mkF m 105 #[.val (.ref f), .val (.int (gi 0))] []) (fun _ k => st54 _ k) ?_
  refine Go.st (mkF m 106 #[.val (.ref f), .val (.int (gi 0))] [(.ref f)]) (fun _ k => XS.aloadN X54.here hx rfl (hb hby dn3_105) rfl rfl k) ?_
  refine Go.st (mkF m 107 #[.val (.ref f), .val (.int (gi 0))] [(.int (0 : Int32)), (.ref f)]) (fun _ k => XS.iconst X54.here hx rfl (hb hby dn3_106) k) ?_
  obtain ⟨T69, h69, X69, e69, W69, st69⟩ := putF X54 hx hZ hown (host := "") (Or.inl (hw _ (List.mem_of_getElem? (i := 31) rfl))) Via.refl e54 F62 E55q (Or.inl (hw _ (List.mem_of_getElem? (i := 32) rfl))) (hw _ (List.mem_of_getElem? (i := 1) rfl)) (ty := .int) (by decide) rfl rfl (g := (mkF m 107 #[.val (.ref f), .val (.int (gi 0))] [(.int (0 : Int32)), (.ref f)])) rfl rfl (hb hby dn3_107)
  have E70q : Exa Z h69 f "com/example/nearpath/nearpath/answer/Frontier" := E55q.wr W69
  have F71 : Fld Z h69 f "com/example/nearpath/nearpath/answer/Frontier" "seen" "[I" (.ref sn) := F56.other W69 (Or.inr (slot_ne (Or.inr (hw _ (List.mem_of_getElem? (i := 19) rfl))) (Or.inl (hw _ (List.mem_of_getElem? (i := 32) rfl))) (by decide) (t := (.array .int)) (t' := .int) (by decide) (by decide)))
  have F72 : Fld Z h69 f "com/example/nearpath/nearpath/answer/Frontier" "maxCost" "J" (.long (3 : Int64)) := F57.other W69 (Or.inr (slot_ne (Or.inr (hw _ (List.mem_of_getElem? (i := 21) rfl))) (Or.inl (hw _ (List.mem_of_getElem? (i := 32) rfl))) (by decide) (t := .long) (t' := .int) (by decide) (by decide)))
  have F73 : Fld Z h69 f "com/example/nearpath/nearpath/answer/Frontier" "search" "I" (.int vS) := F58.other W69 (Or.inr (slot_ne (Or.inl (hw _ (List.mem_of_getElem? (i := 36) rfl))) (Or.inl (hw _ (List.mem_of_getElem? (i := 32) rfl))) (by decide) (t := .int) (t' := .int) (by decide) (by decide)))
  have F74 : Fld Z h69 f "com/example/nearpath/nearpath/answer/Frontier" "cost" "J" (.long (gc 0)) := F59.other W69 (Or.inr (slot_ne (Or.inl (hw _ (List.mem_of_getElem? (i := 34) rfl))) (Or.inl (hw _ (List.mem_of_getElem? (i := 32) rfl))) (by decide) (t := .long) (t' := .int) (by decide) (by decide)))
  have F75 : Fld Z h69 f "com/example/nearpath/nearpath/answer/Frontier" "level" "[I" (.ref lv) := F60.other W69 (Or.inr (slot_ne (Or.inl (hw _ (List.mem_of_getElem? (i := 12) rfl))) (Or.inl (hw _ (List.mem_of_getElem? (i := 32) rfl))) (by decide) (t := (.array .int)) (t' := .int) (by decide) (by decide)))
  have F76 : Fld Z h69 f "com/example/nearpath/nearpath/answer/Frontier" "levelHead" "I" (.int (0 : Int32)) := F61.other W69 (Or.inr (slot_ne (Or.inl (hw _ (List.mem_of_getElem? (i := 30) rfl))) (Or.inl (hw _ (List.mem_of_getElem? (i := 32) rfl))) (by decide) (t := .int) (t' := .int) (by decide) (by decide)))
  have F77 : Fld Z h69 f "com/example/nearpath/nearpath/answer/Frontier" "levelTail" "I" (.int (0 : Int32)) := F62.same W69
  have F78 : Fld Z h69 f "com/example/nearpath/nearpath/answer/Frontier" "heapCosts" "[J" (.ref hc) := F63.other W69 (Or.inr (slot_ne (Or.inl (hw _ (List.mem_of_getElem? (i := 15) rfl))) (Or.inl (hw _ (List.mem_of_getElem? (i := 32) rfl))) (by decide) (t := (.array .long)) (t' := .int) (by decide) (by decide)))
  have F79 : Fld Z h69 f "com/example/nearpath/nearpath/answer/Frontier" "heapItems" "[I" (.ref hi) := F64.other W69 (Or.inr (slot_ne (Or.inl (hw _ (List.mem_of_getElem? (i := 17) rfl))) (Or.inl (hw _ (List.mem_of_getElem? (i := 32) rfl))) (by decide) (t := (.array .int)) (t' := .int) (by decide) (by decide)))
  have F80 : Fld Z h69 f "com/example/nearpath/nearpath/answer/Frontier" "heapSize" "I" (.int (0 : Int32)) := F65.other W69 (Or.inr (slot_ne (Or.inl (hw _ (List.mem_of_getElem? (i := 28) rfl))) (Or.inl (hw _ (List.mem_of_getElem? (i := 32) rfl))) (by decide) (t := .int) (t' := .int) (by decide) (by decide)))
  have V81 : Ary Z h69 hc .long 16 (lts gc) := V66.other W69 (Ne.symm pr17)
  have V82 : Ary Z h69 hi .int 16 (bts gi) := V67.other W69 (Ne.symm pr18)
  have V83 : Ary Z h69 sn .int 4 (bts (updI gs ((gi 0).toNatClampNeg) vS)) := V68.other W69 (Ne.symm pr19)
  have K69 : Keep h0 h69 [f, sn] := K54.wr W69 (Or.inl (by simp))
  have N69 := Fr.snoc X69 N54 pr15
  refine Go.st (mkF m 110 #[.val (.ref f), .val (.int (gi 0))] []) (fun _ k => st69 _ k) ?_
  refine Go.st (mkF m 111 #[.val (.ref f), .val (.int (gi 0))] [(.int (gi 0))]) (fun _ k => XS.iloadN X69.here hx rfl (hb hby dn3_110) rfl k) ?_
  exact Go.retI X69 hx Bd.notSynchronized Bd.returns (hb hby dn3_111) (by rw [e69]; exact ⟨rfl, N69, K69, F71, F72, F73, F74, F75, F76, F77, F78, F79, F80, V83⟩) (by decide) (by decide)
theorem pd_1 : parseMethodDescriptor "(IJ)V" = some ⟨[.int, .long], none⟩ := by decide +kernel
theorem dn4_0 : decode prog_12_method_4_code 0 = .ok (.aload_n 0, 1) := by decide +kernel
theorem dn4_1 : decode prog_12_method_4_code 1 = .ok (.getfield 31, 3) := by decide +kernel
theorem dn4_4 : decode prog_12_method_4_code 4 = .ok (.aload_n 0, 1) := by decide +kernel
theorem dn4_5 : decode prog_12_method_4_code 5 = .ok (.getfield 34, 3) := by decide +kernel
theorem dn4_8 : decode prog_12_method_4_code 8 = .ok (.if_icmp .ge 20, 3) := by decide +kernel
theorem dn4_28 : decode prog_12_method_4_code 28 = .ok (.aload_n 0, 1) := by decide +kernel
theorem dn4_29 : decode prog_12_method_4_code 29 = .ok (.getfield 27, 3) := by decide +kernel
theorem dn4_32 : decode prog_12_method_4_code 32 = .ok (.ifCond .ne 5, 3) := by decide +kernel
theorem dn4_37 : decode prog_12_method_4_code 37 = .ok (.aload_n 0, 1) := by decide +kernel
theorem dn4_38 : decode prog_12_method_4_code 38 = .ok (.getfield 17, 3) := by decide +kernel
theorem dn4_41 : decode prog_12_method_4_code 41 = .ok (.iconst 0, 1) := by decide +kernel
theorem dn4_42 : decode prog_12_method_4_code 42 = .ok (.iaload, 1) := by decide +kernel
theorem dn4_43 : decode prog_12_method_4_code 43 = .ok (.istore_n 1, 1) := by decide +kernel
theorem dn4_44 : decode prog_12_method_4_code 44 = .ok (.aload_n 0, 1) := by decide +kernel
theorem dn4_45 : decode prog_12_method_4_code 45 = .ok (.aload_n 0, 1) := by decide +kernel
theorem dn4_46 : decode prog_12_method_4_code 46 = .ok (.getfield 13, 3) := by decide +kernel
theorem dn4_49 : decode prog_12_method_4_code 49 = .ok (.iconst 0, 1) := by decide +kernel
theorem dn4_50 : decode prog_12_method_4_code 50 = .ok (.laload, 1) := by decide +kernel
theorem dn4_51 : decode prog_12_method_4_code 51 = .ok (.putfield 37, 3) := by decide +kernel
theorem dn4_54 : decode prog_12_method_4_code 54 = .ok (.aload_n 0, 1) := by decide +kernel
theorem dn4_55 : decode prog_12_method_4_code 55 = .ok (.getfield 20, 3) := by decide +kernel
theorem dn4_58 : decode prog_12_method_4_code 58 = .ok (.iload_n 1, 1) := by decide +kernel
theorem dn4_59 : decode prog_12_method_4_code 59 = .ok (.aload_n 0, 1) := by decide +kernel
theorem dn4_60 : decode prog_12_method_4_code 60 = .ok (.getfield 40, 3) := by decide +kernel
theorem dn4_63 : decode prog_12_method_4_code 63 = .ok (.iastore, 1) := by decide +kernel
theorem dn4_64 : decode prog_12_method_4_code 64 = .ok (.aload_n 0, 1) := by decide +kernel
theorem dn4_65 : decode prog_12_method_4_code 65 = .ok (.dup, 1) := by decide +kernel
theorem dn4_66 : decode prog_12_method_4_code 66 = .ok (.getfield 27, 3) := by decide +kernel
theorem dn4_69 : decode prog_12_method_4_code 69 = .ok (.iconst 1, 1) := by decide +kernel
theorem dn4_70 : decode prog_12_method_4_code 70 = .ok (.isub, 1) := by decide +kernel
theorem dn4_71 : decode prog_12_method_4_code 71 = .ok (.dup_x1, 1) := by decide +kernel
theorem dn4_72 : decode prog_12_method_4_code 72 = .ok (.putfield 27, 3) := by decide +kernel
theorem dn4_75 : decode prog_12_method_4_code 75 = .ok (.ifCond .le 25, 3) := by decide +kernel
theorem dn4_78 : decode prog_12_method_4_code 78 = .ok (.aload_n 0, 1) := by decide +kernel
theorem dn4_79 : decode prog_12_method_4_code 79 = .ok (.aload_n 0, 1) := by decide +kernel
theorem dn4_80 : decode prog_12_method_4_code 80 = .ok (.getfield 17, 3) := by decide +kernel
theorem dn4_83 : decode prog_12_method_4_code 83 = .ok (.aload_n 0, 1) := by decide +kernel
theorem dn4_84 : decode prog_12_method_4_code 84 = .ok (.getfield 27, 3) := by decide +kernel
theorem dn4_87 : decode prog_12_method_4_code 87 = .ok (.iaload, 1) := by decide +kernel
theorem dn4_88 : decode prog_12_method_4_code 88 = .ok (.aload_n 0, 1) := by decide +kernel
theorem dn4_89 : decode prog_12_method_4_code 89 = .ok (.getfield 13, 3) := by decide +kernel
theorem dn4_92 : decode prog_12_method_4_code 92 = .ok (.aload_n 0, 1) := by decide +kernel
theorem dn4_93 : decode prog_12_method_4_code 93 = .ok (.getfield 27, 3) := by decide +kernel
theorem dn4_96 : decode prog_12_method_4_code 96 = .ok (.laload, 1) := by decide +kernel
theorem dn4_97 : decode prog_12_method_4_code 97 = .ok (.invokevirtual 59, 3) := by decide +kernel
theorem dn4_100 : decode prog_12_method_4_code 100 = .ok (.aload_n 0, 1) := by decide +kernel
theorem dn4_101 : decode prog_12_method_4_code 101 = .ok (.iconst 0, 1) := by decide +kernel
theorem dn4_102 : decode prog_12_method_4_code 102 = .ok (.putfield 31, 3) := by decide +kernel
theorem dn4_105 : decode prog_12_method_4_code 105 = .ok (.aload_n 0, 1) := by decide +kernel
theorem dn4_106 : decode prog_12_method_4_code 106 = .ok (.iconst 0, 1) := by decide +kernel
theorem dn4_107 : decode prog_12_method_4_code 107 = .ok (.putfield 34, 3) := by decide +kernel
theorem dn4_110 : decode prog_12_method_4_code 110 = .ok (.iload_n 1, 1) := by decide +kernel
theorem dn4_111 : decode prog_12_method_4_code 111 = .ok (.ireturn, 1) := by decide +kernel
theorem ef_n4 (m : MethodId) (f : Addr) : entryFrame m #[(.ref f)] 2 = (mkF m 0 #[.val (.ref f), .unset] []) := by first | (simp [entryFrame, mkF, argsToLocals, Value.category]; done) | rfl
def Q_n4 (Z : State) (f : Addr) (lv : Addr) (hc : Addr) (hi : Addr) (sn : Addr) (vS : Int32) (vc : Int64) (gc : Nat → Int64) (gi : Nat → Int32) (gs : Nat → Int32) (h0 : Heap) (n0 : Nat) (vv : Option Value) (hE : Heap) (LE : List Loc) : Prop := vv = some (.int (gi 0)) ∧ Fr n0 LE ∧ Keep h0 hE [f, hc, hi, sn] ∧ Fld Z hE f "com/example/nearpath/nearpath/answer/Frontier" "seen" "[I" (.ref sn) ∧ Fld Z hE f "com/example/nearpath/nearpath/answer/Frontier" "maxCost" "J" (.long (3 : Int64)) ∧ Fld Z hE f "com/example/nearpath/nearpath/answer/Frontier" "search" "I" (.int vS) ∧ Fld Z hE f "com/example/nearpath/nearpath/answer/Frontier" "cost" "J" (.long (gc 0)) ∧ Fld Z hE f "com/example/nearpath/nearpath/answer/Frontier" "level" "[I" (.ref lv) ∧ Fld Z hE f "com/example/nearpath/nearpath/answer/Frontier" "levelHead" "I" (.int (0 : Int32)) ∧ Fld Z hE f "com/example/nearpath/nearpath/answer/Frontier" "levelTail" "I" (.int (0 : Int32)) ∧ Fld Z hE f "com/example/nearpath/nearpath/answer/Frontier" "heapCosts" "[J" (.ref hc) ∧ Fld Z hE f "com/example/nearpath/nearpath/answer/Frontier" "heapItems" "[I" (.ref hi) ∧ Fld Z hE f "com/example/nearpath/nearpath/answer/Frontier" "heapSize" "I" (.int (1 : Int32)) ∧ Ary Z hE hc .long 16 (lts (updJ gc 0 (gc 1))) ∧ Ary Z hE hi .int 16 (bts (updI gi 0 (gi 1))) ∧ Ary Z hE sn .int 4 (bts (updI (updI gs ((gi 0).toNatClampNeg) vS) ((gi 1).toNatClampNeg) (-1 : Int32)))
set_option maxRecDepth 65536 in
set_option maxHeartbeats 40000000 in
theorem rm_n4 (l : Launch) (Z : State) (a0 : Array Value) (hw : ∀ d ∈ tables_1, d.before a0 Z = true) (ws : List Jvm.Cond) (f : Addr) (lv : Addr) (hc : Addr) (hi : Addr) (sn : Addr) (vS : Int32) (vc : Int64) (gc : Nat → Int64) (gi : Nat → Int32) (gs : Nat → Int32) (h0 : Heap) (n0 : Nat) (Z0 : n0 ≤ h0.size) (pr0 : Exa Z h0 f "com/example/nearpath/nearpath/answer/Frontier") (pr1 : Fld Z h0 f "com/example/nearpath/nearpath/answer/Frontier" "seen" "[I" (.ref sn)) (pr2 : Fld Z h0 f "com/example/nearpath/nearpath/answer/Frontier" "maxCost" "J" (.long (3 : Int64))) (pr3 : Fld Z h0 f "com/example/nearpath/nearpath/answer/Frontier" "search" "I" (.int vS)) (pr4 : Fld Z h0 f "com/example/nearpath/nearpath/answer/Frontier" "cost" "J" (.long vc)) (pr5 : Fld Z h0 f "com/example/nearpath/nearpath/answer/Frontier" "level" "[I" (.ref lv)) (pr6 : Fld Z h0 f "com/example/nearpath/nearpath/answer/Frontier" "levelHead" "I" (.int (0 : Int32))) (pr7 : Fld Z h0 f "com/example/nearpath/nearpath/answer/Frontier" "levelTail" "I" (.int (0 : Int32))) (pr8 : Fld Z h0 f "com/example/nearpath/nearpath/answer/Frontier" "heapCosts" "[J" (.ref hc)) (pr9 : Fld Z h0 f "com/example/nearpath/nearpath/answer/Frontier" "heapItems" "[I" (.ref hi)) (pr10 : Fld Z h0 f "com/example/nearpath/nearpath/answer/Frontier" "heapSize" "I" (.int (2 : Int32))) (pr11 : Ary Z h0 hc .long 16 (lts gc)) (pr12 : Ary Z h0 hi .int 16 (bts gi)) (pr13 : Ary Z h0 sn .int 4 (bts gs)) (pr14 : In4 (gi 0)) (pr15 : In4 (gi 1)) (pr16 : n0 ≤ f) (pr17 : n0 ≤ hc) (pr18 : n0 ≤ hi) (pr19 : n0 ≤ sn) (pr20 : f ≠ hc) (pr21 : f ≠ hi) (pr22 : f ≠ sn) (pr23 : hc ≠ hi) (pr24 : hc ≠ sn) (pr25 : hi ≠ sn) :
    MetFree l (⟨"com/example/nearpath/nearpath/answer/Frontier", "next", "()I"⟩ : MethodName) (head1 (Jvm.Cond.code (⟨"com/example/nearpath/nearpath/answer/Frontier", "next", "()I"⟩ : MethodName) prog_12_method_4_code 2 (some .int) :: ws) ({ frames := 2, cells := 0, slots := 0, locals := 33 } : Room)) (fun aa UU => aa = #[(.ref f)] ∧ Z.Warmed39 UU.vm ∧ UU.heap = h0) (fun _ _ _ _ _ => True) (fun _ UU oo UU' => ∃ vv LL, oo = .returned vv ∧ Q_n4 Z f lv hc hi sn vS vc gc gi gs h0 n0 vv UU'.heap LL ∧ FrameEnd UU oo UU' LL ({ frames := 2, cells := 0, slots := 0, locals := 33 } : Room).cells ({ frames := 2, cells := 0, slots := 0, locals := 33 } : Room).slots) := by
  refine MetFree.of_bodySF (plainFor_of_name pn_0) hisR ?_
  intro p e s m args below meth c s₁ Bd hml0 hP hK
  obtain ⟨rfl, hZ, hh⟩ := hP
  have hx := Bd.exec
  have hby := Bd.bytes
  have hml : c.maxLocals = 2 := hml0
  have hown : s.vm.findClass "com/example/nearpath/nearpath/answer/Frontier" = some m.cls := findClass_of_methodNamed Bd.named
  have hnm := (name_of_methodNamed Bd.named Bd.method).1
  have X0 : Stand p l e ({ frames := 2, cells := 0, slots := 0, locals := 33 } : Room) s m #[(.ref f)] below meth c s₁ [] 0 0 := Stand.of_body Bd
  have e0 : s₁.heap = h0 := by rw [← hh, Bd.state]; rfl
  have N0 := Fr.nil n0
  have K0 := Keep.refl h0 [f, hc, hi, sn]
  show Go p e below s (Q_n4 Z f lv hc hi sn vS vc gc gi gs h0 n0) 0 0 s₁ (entryFrame m #[(.ref f)] 2)
  refine Go.of_eq (ef_n4 m f) ?_
  refine Go.st (mkF m 1 #[.val (.ref f), .unset] [(.ref f)]) (fun _ k => XS.aloadN X0.here hx rfl (hb hby dn4_0) rfl rfl k) ?_
  obtain ⟨T1, X1, e1, st1⟩ := getF X0 hx hZ hown (host := "") (Or.inl (hw _ (List.mem_of_getElem? (i := 29) rfl))) Via.refl e0 pr6 (g := (mkF m 1 #[.val (.ref f), .unset] [(.ref f)])) rfl rfl (hb hby dn4_1)
  refine Go.st (mkF m 4 #[.val (.ref f), .unset] [(.int (0 : Int32))]) (fun _ k => st1 _ k) ?_
  refine Go.st (mkF m 5 #[.val (.ref f), .unset] [(.ref f), (.int (0 : Int32))]) (fun _ k => XS.aloadN X1.here hx rfl (hb hby dn4_4) rfl rfl k) ?_
  obtain ⟨T2, X2, e2, st2⟩ := getF X1 hx hZ hown (host := "") (Or.inl (hw _ (List.mem_of_getElem? (i := 31) rfl))) Via.refl e1 pr7 (g := (mkF m 5 #[.val (.ref f), .unset] [(.ref f), (.int (0 : Int32))])) rfl rfl (hb hby dn4_5)
  refine Go.st (mkF m 8 #[.val (.ref f), .unset] [(.int (0 : Int32)), (.int (0 : Int32))]) (fun _ k => st2 _ k) ?_
  refine Go.st (mkF m 28 #[.val (.ref f), .unset] []) (fun _ k => XS.icmpYes X2.here hx rfl (pc0 := 8) (pc' := 28) rfl (hb hby dn4_8) rfl (flt (by decide : ¬ ((0 : Int32) < (0 : Int32)))).2.1 (by decide) (by decide) k) ?_
  refine Go.st (mkF m 29 #[.val (.ref f), .unset] [(.ref f)]) (fun _ k => XS.aloadN X2.here hx rfl (hb hby dn4_28) rfl rfl k) ?_
  obtain ⟨T3, X3, e3, st3⟩ := getF X2 hx hZ hown (host := "") (Or.inl (hw _ (List.mem_of_getElem? (i := 27) rfl))) Via.refl e2 pr10 (g := (mkF m 29 #[.val (.ref f), .unset] [(.ref f)])) rfl rfl (hb hby dn4_29)
  refine Go.st (mkF m 32 #[.val (.ref f), .unset] [(.int (2 : Int32))]) (fun _ k => st3 _ k) ?_
  refine Go.st (mkF m 37 #[.val (.ref f), .unset] []) (fun _ k => XS.ifYes X3.here hx rfl (pc0 := 32) (pc' := 37) rfl (hb hby dn4_32) rfl ((if0 _ _).trans (feq (by decide : ¬ ((2 : Int32) = (0 : Int32)))).2) (by decide) (by decide) k) ?_
  refine Go.st (mkF m 38 #[.val (.ref f), .unset] [(.ref f)]) (fun _ k => XS.aloadN X3.here hx rfl (hb hby dn4_37) rfl rfl k) ?_
  obtain ⟨T4, X4, e4, st4⟩ := getF X3 hx hZ hown (host := "") (Or.inl (hw _ (List.mem_of_getElem? (i := 16) rfl))) Via.refl e3 pr9 (g := (mkF m 38 #[.val (.ref f), .unset] [(.ref f)])) rfl rfl (hb hby dn4_38)
  refine Go.st (mkF m 41 #[.val (.ref f), .unset] [(.ref hi)]) (fun _ k => st4 _ k) ?_
  refine Go.st (mkF m 42 #[.val (.ref f), .unset] [(.int (0 : Int32)), (.ref hi)]) (fun _ k => XS.iconst X4.here hx rfl (hb hby dn4_41) k) ?_
  refine Go.st (mkF m 43 #[.val (.ref f), .unset] [(.int (gi 0))]) (fun _ k => ldI X4 hx hZ e4 pr12 (i := 0) (by decide) (by decide) (by decide) (v := (.int (gi 0))) rfl (g := (mkF m 42 #[.val (.ref f), .unset] [(.int (0 : Int32)), (.ref hi)])) rfl rfl (hb hby dn4_42) _ k) ?_
  refine Go.st (mkF m 44 #[.val (.ref f), .val (.int (gi 0))] []) (fun _ k => XS.istoreN X4.here hx rfl (hb hby dn4_43) rfl (l' := #[.val (.ref f), .val (.int (gi 0))]) rfl k) ?_
  refine Go.st (mkF m 45 #[.val (.ref f), .val (.int (gi 0))] [(.ref f)]) (fun _ k => XS.aloadN X4.here hx rfl (hb hby dn4_44) rfl rfl k) ?_
  refine Go.st (mkF m 46 #[.val (.ref f), .val (.int (gi 0))] [(.ref f), (.ref f)]) (fun _ k => XS.aloadN X4.here hx rfl (hb hby dn4_45) rfl rfl k) ?_
  obtain ⟨T5, X5, e5, st5⟩ := getF X4 hx hZ hown (host := "") (Or.inl (hw _ (List.mem_of_getElem? (i := 14) rfl))) Via.refl e4 pr8 (g := (mkF m 46 #[.val (.ref f), .val (.int (gi 0))] [(.ref f), (.ref f)])) rfl rfl (hb hby dn4_46)
  refine Go.st (mkF m 49 #[.val (.ref f), .val (.int (gi 0))] [(.ref hc), (.ref f)]) (fun _ k => st5 _ k) ?_
  refine Go.st (mkF m 50 #[.val (.ref f), .val (.int (gi 0))] [(.int (0 : Int32)), (.ref hc), (.ref f)]) (fun _ k => XS.iconst X5.here hx rfl (hb hby dn4_49) k) ?_
  refine Go.st (mkF m 51 #[.val (.ref f), .val (.int (gi 0))] [(.long (gc 0)), (.ref f)]) (fun _ k => ldJ X5 hx hZ e5 pr11 (i := 0) (by decide) (by decide) (by decide) (v := (.long (gc 0))) rfl (g := (mkF m 50 #[.val (.ref f), .val (.int (gi 0))] [(.int (0 : Int32)), (.ref hc), (.ref f)])) rfl rfl (hb hby dn4_50) _ k) ?_
  obtain ⟨T6, h6, X6, e6, W6, st6⟩ := putF X5 hx hZ hown (host := "") (Or.inl (hw _ (List.mem_of_getElem? (i := 33) rfl))) Via.refl e5 pr4 pr0 (Or.inl (hw _ (List.mem_of_getElem? (i := 34) rfl))) (hw _ (List.mem_of_getElem? (i := 1) rfl)) (ty := .long) (by decide) rfl rfl (g := (mkF m 51 #[.val (.ref f), .val (.int (gi 0))] [(.long (gc 0)), (.ref f)])) rfl rfl (hb hby dn4_51)
  have E7q : Exa Z h6 f "com/example/nearpath/nearpath/answer/Frontier" := pr0.wr W6
  have F8 : Fld Z h6 f "com/example/nearpath/nearpath/answer/Frontier" "seen" "[I" (.ref sn) := pr1.other W6 (Or.inr (slot_ne (Or.inr (hw _ (List.mem_of_getElem? (i := 19) rfl))) (Or.inl (hw _ (List.mem_of_getElem? (i := 34) rfl))) (by decide) (t := (.array .int)) (t' := .long) (by decide) (by decide)))
  have F9 : Fld Z h6 f "com/example/nearpath/nearpath/answer/Frontier" "maxCost" "J" (.long (3 : Int64)) := pr2.other W6 (Or.inr (slot_ne (Or.inr (hw _ (List.mem_of_getElem? (i := 21) rfl))) (Or.inl (hw _ (List.mem_of_getElem? (i := 34) rfl))) (by decide) (t := .long) (t' := .long) (by decide) (by decide)))
  have F10 : Fld Z h6 f "com/example/nearpath/nearpath/answer/Frontier" "search" "I" (.int vS) := pr3.other W6 (Or.inr (slot_ne (Or.inl (hw _ (List.mem_of_getElem? (i := 36) rfl))) (Or.inl (hw _ (List.mem_of_getElem? (i := 34) rfl))) (by decide) (t := .int) (t' := .long) (by decide) (by decide)))
  have F11 : Fld Z h6 f "com/example/nearpath/nearpath/answer/Frontier" "cost" "J" (.long (gc 0)) := pr4.same W6
  have F12 : Fld Z h6 f "com/example/nearpath/nearpath/answer/Frontier" "level" "[I" (.ref lv) := pr5.other W6 (Or.inr (slot_ne (Or.inl (hw _ (List.mem_of_getElem? (i := 12) rfl))) (Or.inl (hw _ (List.mem_of_getElem? (i := 34) rfl))) (by decide) (t := (.array .int)) (t' := .long) (by decide) (by decide)))
  have F13 : Fld Z h6 f "com/example/nearpath/nearpath/answer/Frontier" "levelHead" "I" (.int (0 : Int32)) := pr6.other W6 (Or.inr (slot_ne (Or.inl (hw _ (List.mem_of_getElem? (i := 30) rfl))) (Or.inl (hw _ (List.mem_of_getElem? (i := 34) rfl))) (by decide) (t := .int) (t' := .long) (by decide) (by decide)))
  have F14 : Fld Z h6 f "com/example/nearpath/nearpath/answer/Frontier" "levelTail" "I" (.int (0 : Int32)) := pr7.other W6 (Or.inr (slot_ne (Or.inl (hw _ (List.mem_of_getElem? (i := 32) rfl))) (Or.inl (hw _ (List.mem_of_getElem? (i := 34) rfl))) (by decide) (t := .int) (t' := .long) (by decide) (by decide)))
  have F15 : Fld Z h6 f "com/example/nearpath/nearpath/answer/Frontier" "heapCosts" "[J" (.ref hc) := pr8.other W6 (Or.inr (slot_ne (Or.inl (hw _ (List.mem_of_getElem? (i := 15) rfl))) (Or.inl (hw _ (List.mem_of_getElem? (i := 34) rfl))) (by decide) (t := (.array .long)) (t' := .long) (by decide) (by decide)))
  have F16 : Fld Z h6 f "com/example/nearpath/nearpath/answer/Frontier" "heapItems" "[I" (.ref hi) := pr9.other W6 (Or.inr (slot_ne (Or.inl (hw _ (List.mem_of_getElem? (i := 17) rfl))) (Or.inl (hw _ (List.mem_of_getElem? (i := 34) rfl))) (by decide) (t := (.array .int)) (t' := .long) (by decide) (by decide)))
  have F17 : Fld Z h6 f "com/example/nearpath/nearpath/answer/Frontier" "heapSize" "I" (.int (2 : Int32)) := pr10.other W6 (Or.inr (slot_ne (Or.inl (hw _ (List.mem_of_getElem? (i := 28) rfl))) (Or.inl (hw _ (List.mem_of_getElem? (i := 34) rfl))) (by decide) (t := .int) (t' := .long) (by decide) (by decide)))
  have V18 : Ary Z h6 hc .long 16 (lts gc) := pr11.other W6 (Ne.symm pr20)
  have V19 : Ary Z h6 hi .int 16 (bts gi) := pr12.other W6 (Ne.symm pr21)
  have V20 : Ary Z h6 sn .int 4 (bts gs) := pr13.other W6 (Ne.symm pr22)
  have K6 : Keep h0 h6 [f, hc, hi, sn] := K0.wr W6 (Or.inl (by simp))
  have N6 := Fr.snoc X6 N0 pr16
  refine Go.st (mkF m 54 #[.val (.ref f), .val (.int (gi 0))] []) (fun _ k => st6 _ k) ?_
  refine Go.st (mkF m 55 #[.val (.ref f), .val (.int (gi 0))] [(.ref f)]) (fun _ k => XS.aloadN X6.here hx rfl (hb hby dn4_54) rfl rfl k) ?_
  obtain ⟨T21, X21, e21, st21⟩ := getF X6 hx hZ hown (host := "") (Or.inl (hw _ (List.mem_of_getElem? (i := 18) rfl))) Via.refl e6 F8 (g := (mkF m 55 #[.val (.ref f), .val (.int (gi 0))] [(.ref f)])) rfl rfl (hb hby dn4_55)
  refine Go.st (mkF m 58 #[.val (.ref f), .val (.int (gi 0))] [(.ref sn)]) (fun _ k => st21 _ k) ?_
  refine Go.st (mkF m 59 #[.val (.ref f), .val (.int (gi 0))] [(.int (gi 0)), (.ref sn)]) (fun _ k => XS.iloadN X21.here hx rfl (hb hby dn4_58) rfl k) ?_
  refine Go.st (mkF m 60 #[.val (.ref f), .val (.int (gi 0))] [(.ref f), (.int (gi 0)), (.ref sn)]) (fun _ k => XS.aloadN X21.here hx rfl (hb hby dn4_59) rfl rfl k) ?_
  obtain ⟨T22, X22, e22, st22⟩ := getF X21 hx hZ hown (host := "") (Or.inl (hw _ (List.mem_of_getElem? (i := 35) rfl))) Via.refl e21 F10 (g := (mkF m 60 #[.val (.ref f), .val (.int (gi 0))] [(.ref f), (.int (gi 0)), (.ref sn)])) rfl rfl (hb hby dn4_60)
  refine Go.st (mkF m 63 #[.val (.ref f), .val (.int (gi 0))] [(.int vS), (.int (gi 0)), (.ref sn)]) (fun _ k => st22 _ k) ?_
  obtain ⟨T23, h23, X23, e23, W23, st23⟩ := stAI X22 hx hZ e22 V20 (i := (gi 0).toNatClampNeg) (own_in4 pr14).1 rfl (own_in4 pr14).2 (g := (mkF m 63 #[.val (.ref f), .val (.int (gi 0))] [(.int vS), (.int (gi 0)), (.ref sn)])) rfl rfl (hb hby dn4_63)
  have E24q : Exa Z h23 f "com/example/nearpath/nearpath/answer/Frontier" := E7q.wr W23
  have F25 : Fld Z h23 f "com/example/nearpath/nearpath/answer/Frontier" "seen" "[I" (.ref sn) := F8.other W23 (Or.inl pr22)
  have F26 : Fld Z h23 f "com/example/nearpath/nearpath/answer/Frontier" "maxCost" "J" (.long (3 : Int64)) := F9.other W23 (Or.inl pr22)
  have F27 : Fld Z h23 f "com/example/nearpath/nearpath/answer/Frontier" "search" "I" (.int vS) := F10.other W23 (Or.inl pr22)
  have F28 : Fld Z h23 f "com/example/nearpath/nearpath/answer/Frontier" "cost" "J" (.long (gc 0)) := F11.other W23 (Or.inl pr22)
  have F29 : Fld Z h23 f "com/example/nearpath/nearpath/answer/Frontier" "level" "[I" (.ref lv) := F12.other W23 (Or.inl pr22)
  have F30 : Fld Z h23 f "com/example/nearpath/nearpath/answer/Frontier" "levelHead" "I" (.int (0 : Int32)) := F13.other W23 (Or.inl pr22)
  have F31 : Fld Z h23 f "com/example/nearpath/nearpath/answer/Frontier" "levelTail" "I" (.int (0 : Int32)) := F14.other W23 (Or.inl pr22)
  have F32 : Fld Z h23 f "com/example/nearpath/nearpath/answer/Frontier" "heapCosts" "[J" (.ref hc) := F15.other W23 (Or.inl pr22)
  have F33 : Fld Z h23 f "com/example/nearpath/nearpath/answer/Frontier" "heapItems" "[I" (.ref hi) := F16.other W23 (Or.inl pr22)
  have F34 : Fld Z h23 f "com/example/nearpath/nearpath/answer/Frontier" "heapSize" "I" (.int (2 : Int32)) := F17.other W23 (Or.inl pr22)
  have V35 : Ary Z h23 hc .long 16 (lts gc) := V18.other W23 pr24
  have V36 : Ary Z h23 hi .int 16 (bts gi) := V19.other W23 pr25
  have V37 : Ary Z h23 sn .int 4 (bts (updI gs ((gi 0).toNatClampNeg) vS)) := V20.sameB W23
  have K23 : Keep h0 h23 [f, hc, hi, sn] := K6.wr W23 (Or.inl (by simp))
  have N23 := Fr.snoc X23 N6 pr19
  refine Go.st (mkF m 64 #[.val (.ref f), .val (.int (gi 0))] []) (fun _ k => st23 _ k) ?_
  refine Go.st (mkF m 65 #[.val (.ref f), .val (.int (gi 0))] [(.ref f)]) (fun _ k => XS.aloadN X23.here hx rfl (hb hby dn4_64) rfl rfl k) ?_
  refine Go.st (mkF m 66 #[.val (.ref f), .val (.int (gi 0))] [(.ref f), (.ref f)]) (fun _ k => XS.dup X23.here hx rfl (hb hby dn4_65) rfl rfl k) ?_
  obtain ⟨T38, X38, e38, st38⟩ := getF X23 hx hZ hown (host := "") (Or.inl (hw _ (List.mem_of_getElem? (i := 27) rfl))) Via.refl e23 F34 (g := (mkF m 66 #[.val (.ref f), .val (.int (gi 0))] [(.ref f), (.ref f)])) rfl rfl (hb hby dn4_66)
  refine Go.st (mkF m 69 #[.val (.ref f), .val (.int (gi 0))] [(.int (2 : Int32)), (.ref f)]) (fun _ k => st38 _ k) ?_
  refine Go.st (mkF m 70 #[.val (.ref f), .val (.int (gi 0))] [(.int (1 : Int32)), (.int (2 : Int32)), (.ref f)]) (fun _ k => XS.iconst X38.here hx rfl (hb hby dn4_69) k) ?_
  refine Go.st (mkF m 71 #[.val (.ref f), .val (.int (gi 0))] [(.int (1 : Int32)), (.ref f)]) (fun _ k => XS.isub X38.here hx rfl (hb hby dn4_70) rfl k) ?_
  refine Go.st (mkF m 72 #[.val (.ref f), .val (.int (gi 0))] [(.int (1 : Int32)), (.ref f), (.int (1 : Int32))]) (fun _ k => XT.dupX1 X38.here hx rfl (hb hby dn4_71) rfl rfl rfl k) ?_
  obtain ⟨T39, h39, X39, e39, W39, st39⟩ := putF X38 hx hZ hown (host := "") (Or.inl (hw _ (List.mem_of_getElem? (i := 27) rfl))) Via.refl e38 F34 E24q (Or.inl (hw _ (List.mem_of_getElem? (i := 28) rfl))) (hw _ (List.mem_of_getElem? (i := 1) rfl)) (ty := .int) (by decide) rfl rfl (g := (mkF m 72 #[.val (.ref f), .val (.int (gi 0))] [(.int (1 : Int32)), (.ref f), (.int (1 : Int32))])) rfl rfl (hb hby dn4_72)
  have E40q : Exa Z h39 f "com/example/nearpath/nearpath/answer/Frontier" := E24q.wr W39
  have F41 : Fld Z h39 f "com/example/nearpath/nearpath/answer/Frontier" "seen" "[I" (.ref sn) := F25.other W39 (Or.inr (slot_ne (Or.inr (hw _ (List.mem_of_getElem? (i := 19) rfl))) (Or.inl (hw _ (List.mem_of_getElem? (i := 28) rfl))) (by decide) (t := (.array .int)) (t' := .int) (by decide) (by decide)))
  have F42 : Fld Z h39 f "com/example/nearpath/nearpath/answer/Frontier" "maxCost" "J" (.long (3 : Int64)) := F26.other W39 (Or.inr (slot_ne (Or.inr (hw _ (List.mem_of_getElem? (i := 21) rfl))) (Or.inl (hw _ (List.mem_of_getElem? (i := 28) rfl))) (by decide) (t := .long) (t' := .int) (by decide) (by decide)))
  have F43 : Fld Z h39 f "com/example/nearpath/nearpath/answer/Frontier" "search" "I" (.int vS) := F27.other W39 (Or.inr (slot_ne (Or.inl (hw _ (List.mem_of_getElem? (i := 36) rfl))) (Or.inl (hw _ (List.mem_of_getElem? (i := 28) rfl))) (by decide) (t := .int) (t' := .int) (by decide) (by decide)))
  have F44 : Fld Z h39 f "com/example/nearpath/nearpath/answer/Frontier" "cost" "J" (.long (gc 0)) := F28.other W39 (Or.inr (slot_ne (Or.inl (hw _ (List.mem_of_getElem? (i := 34) rfl))) (Or.inl (hw _ (List.mem_of_getElem? (i := 28) rfl))) (by decide) (t := .long) (t' := .int) (by decide) (by decide)))
  have F45 : Fld Z h39 f "com/example/nearpath/nearpath/answer/Frontier" "level" "[I" (.ref lv) := F29.other W39 (Or.inr (slot_ne (Or.inl (hw _ (List.mem_of_getElem? (i := 12) rfl))) (Or.inl (hw _ (List.mem_of_getElem? (i := 28) rfl))) (by decide) (t := (.array .int)) (t' := .int) (by decide) (by decide)))
  have F46 : Fld Z h39 f "com/example/nearpath/nearpath/answer/Frontier" "levelHead" "I" (.int (0 : Int32)) := F30.other W39 (Or.inr (slot_ne (Or.inl (hw _ (List.mem_of_getElem? (i := 30) rfl))) (Or.inl (hw _ (List.mem_of_getElem? (i := 28) rfl))) (by decide) (t := .int) (t' := .int) (by decide) (by decide)))
  have F47 : Fld Z h39 f "com/example/nearpath/nearpath/answer/Frontier" "levelTail" "I" (.int (0 : Int32)) := F31.other W39 (Or.inr (slot_ne (Or.inl (hw _ (List.mem_of_getElem? (i := 32) rfl))) (Or.inl (hw _ (List.mem_of_getElem? (i := 28) rfl))) (by decide) (t := .int) (t' := .int) (by decide) (by decide)))
  have F48 : Fld Z h39 f "com/example/nearpath/nearpath/answer/Frontier" "heapCosts" "[J" (.ref hc) := F32.other W39 (Or.inr (slot_ne (Or.inl (hw _ (List.mem_of_getElem? (i := 15) rfl))) (Or.inl (hw _ (List.mem_of_getElem? (i := 28) rfl))) (by decide) (t := (.array .long)) (t' := .int) (by decide) (by decide)))
  have F49 : Fld Z h39 f "com/example/nearpath/nearpath/answer/Frontier" "heapItems" "[I" (.ref hi) := F33.other W39 (Or.inr (slot_ne (Or.inl (hw _ (List.mem_of_getElem? (i := 17) rfl))) (Or.inl (hw _ (List.mem_of_getElem? (i := 28) rfl))) (by decide) (t := (.array .int)) (t' := .int) (by decide) (by decide)))
  have F50 : Fld Z h39 f "com/example/nearpath/nearpath/answer/Frontier" "heapSize" "I" (.int (1 : Int32)) := F34.same W39
  have V51 : Ary Z h39 hc .long 16 (lts gc) := V35.other W39 (Ne.symm pr20)
  have V52 : Ary Z h39 hi .int 16 (bts gi) := V36.other W39 (Ne.symm pr21)
  have V53 : Ary Z h39 sn .int 4 (bts (updI gs ((gi 0).toNatClampNeg) vS)) := V37.other W39 (Ne.symm pr22)
  have K39 : Keep h0 h39 [f, hc, hi, sn] := K23.wr W39 (Or.inl (by simp))
  have N39 := Fr.snoc X39 N23 pr16
  refine Go.st (mkF m 75 #[.val (.ref f), .val (.int (gi 0))] [(.int (1 : Int32))]) (fun _ k => st39 _ k) ?_
  refine Go.st (mkF m 78 #[.val (.ref f), .val (.int (gi 0))] []) (fun _ k => XS.ifNo X39.here hx rfl (hb hby dn4_75) rfl ((if0 _ _).trans (tlt (by decide : (0 : Int32) < (1 : Int32))).2.2.2) k) ?_
  refine Go.st (mkF m 79 #[.val (.ref f), .val (.int (gi 0))] [(.ref f)]) (fun _ k => XS.aloadN X39.here hx rfl (hb hby dn4_78) rfl rfl k) ?_
  refine Go.st (mkF m 80 #[.val (.ref f), .val (.int (gi 0))] [(.ref f), (.ref f)]) (fun _ k => XS.aloadN X39.here hx rfl (hb hby dn4_79) rfl rfl k) ?_
  obtain ⟨T54, X54, e54, st54⟩ := getF X39 hx hZ hown (host := "") (Or.inl (hw _ (List.mem_of_getElem? (i := 16) rfl))) Via.refl e39 F49 (g := (mkF m 80 #[.val (.ref f), .val (.int (gi 0))] [(.ref f), (.ref f)])) rfl rfl (hb hby dn4_80)
  refine Go.st (mkF m 83 #[.val (.ref f), .val (.int (gi 0))] [(.ref hi), (.ref f)]) (fun _ k => st54 _ k) ?_
  refine Go.st (mkF m 84 #[.val (.ref f), .val (.int (gi 0))] [(.ref f), (.ref hi), (.ref f)]) (fun _ k => XS.aloadN X54.here hx rfl (hb hby dn4_83) rfl rfl k) ?_
  obtain ⟨T55, X55, e55, st55⟩ := getF X54 hx hZ hown (host := "") (Or.inl (hw _ (List.mem_of_getElem? (i := 27) rfl))) Via.refl e54 F50 (g := (mkF m 84 #[.val (.ref f), .val (.int (gi 0))] [(.ref f), (.ref hi), (.ref f)])) rfl rfl (hb hby dn4_84)
  refine Go.st (mkF m 87 #[.val (.ref f), .val (.int (gi 0))] [(.int (1 : Int32)), (.ref hi), (.ref f)]) (fun _ k => st55 _ k) ?_
  refine Go.st (mkF m 88 #[.val (.ref f), .val (.int (gi 0))] [(.int (gi 1)), (.ref f)]) (fun _ k => ldI X55 hx hZ e55 V52 (i := 1) (by decide) (by decide) (by decide) (v := (.int (gi 1))) rfl (g := (mkF m 87 #[.val (.ref f), .val (.int (gi 0))] [(.int (1 : Int32)), (.ref hi), (.ref f)])) rfl rfl (hb hby dn4_87) _ k) ?_
  refine Go.st (mkF m 89 #[.val (.ref f), .val (.int (gi 0))] [(.ref f), (.int (gi 1)), (.ref f)]) (fun _ k => XS.aloadN X55.here hx rfl (hb hby dn4_88) rfl rfl k) ?_
  obtain ⟨T56, X56, e56, st56⟩ := getF X55 hx hZ hown (host := "") (Or.inl (hw _ (List.mem_of_getElem? (i := 14) rfl))) Via.refl e55 F48 (g := (mkF m 89 #[.val (.ref f), .val (.int (gi 0))] [(.ref f), (.int (gi 1)), (.ref f)])) rfl rfl (hb hby dn4_89)
  refine Go.st (mkF m 92 #[.val (.ref f), .val (.int (gi 0))] [(.ref hc), (.int (gi 1)), (.ref f)]) (fun _ k => st56 _ k) ?_
  refine Go.st (mkF m 93 #[.val (.ref f), .val (.int (gi 0))] [(.ref f), (.ref hc), (.int (gi 1)), (.ref f)]) (fun _ k => XS.aloadN X56.here hx rfl (hb hby dn4_92) rfl rfl k) ?_
  obtain ⟨T57, X57, e57, st57⟩ := getF X56 hx hZ hown (host := "") (Or.inl (hw _ (List.mem_of_getElem? (i := 27) rfl))) Via.refl e56 F50 (g := (mkF m 93 #[.val (.ref f), .val (.int (gi 0))] [(.ref f), (.ref hc), (.int (gi 1)), (.ref f)])) rfl rfl (hb hby dn4_93)
  refine Go.st (mkF m 96 #[.val (.ref f), .val (.int (gi 0))] [(.int (1 : Int32)), (.ref hc), (.int (gi 1)), (.ref f)]) (fun _ k => st57 _ k) ?_
  refine Go.st (mkF m 97 #[.val (.ref f), .val (.int (gi 0))] [(.long (gc 1)), (.int (gi 1)), (.ref f)]) (fun _ k => ldJ X57 hx hZ e57 V51 (i := 1) (by decide) (by decide) (by decide) (v := (.long (gc 1))) rfl (g := (mkF m 96 #[.val (.ref f), .val (.int (gi 0))] [(.int (1 : Int32)), (.ref hc), (.int (gi 1)), (.ref f)])) rfl rfl (hb hby dn4_96) _ k) ?_
  obtain ⟨cq58, q58a, q58b⟩ := E40q.cell
  have sl58 := selI (args := #[(.ref f)]) hZ (hw _ (List.mem_of_getElem? (i := 1) rfl)) (hw _ (List.mem_of_getElem? (i := 65) rfl)) (hw _ (List.mem_of_getElem? (i := 64) rfl)) (by decide)
  obtain ⟨_, _, ⟨T58, L58, k58, n58⟩, -, X58, ⟨Lc58, hQ58, l58, y58, z58⟩, st58⟩ := X57.privateBack hx (y := (⟨"com/example/nearpath/nearpath/answer/Frontier", "siftDown", "(IJ)V"⟩ : MethodName)) hown (mvT hZ (hw _ (List.mem_of_getElem? (i := 63) rfl))) (mvT hZ (hw _ (List.mem_of_getElem? (i := 64) rfl))) sl58.1 sl58.2 (mvT hZ (hw _ (List.mem_of_getElem? (i := 66) rfl))) (by decide) (backOf (W := 0) (rm_sd l Z a0 hw [] f (gi 1) (gc 1) hc hi sn gc gi (updI gs ((gi 0).toNatClampNeg) vS) h39 n0 (Nat.le_trans Z0 K39.1) E40q F41 F48 F49 F50 V51 V52 V53 pr15 pr17 pr18 pr19 pr20 pr21 pr22 pr23 pr24 pr25) hZ (hw _ (List.mem_of_getElem? (i := 66) rfl)) (hw _ (List.mem_of_getElem? (i := 2) rfl)) (by decide) (by decide)) (g := (mkF m 97 #[.val (.ref f), .val (.int (gi 0))] [(.long (gc 1)), (.int (gi 1)), (.ref f)])) rfl (by rw [hml]; rfl) (Steps.refl _) (a := f) (by rw [e57]; exact q58a) q58b (argsL := [(.int (gi 1)), (.long (gc 1))]) (rest := []) (lenOf pd_1 rfl) rfl (by show 2 * 0 + _ ≤ _; exact Nat.le_of_eq rfl) (hb hby dn4_97) (fun _ _ => ⟨rfl, e57, (by decide : 0 + 0 ≤ _), (by decide : 0 + 0 ≤ _)⟩)
  dsimp only [Pt.U, Pt.locs, Pt.cells, Pt.slots] at X58 l58 y58 z58 st58 hQ58
  subst l58 y58 z58
  obtain ⟨rfl, N58q, K58q, V58_0, V58_1, V58_2⟩ := hQ58
  have N58 := Fr.app N39 N58q
  have E59q : Exa Z T58.heap f "com/example/nearpath/nearpath/answer/Frontier" := E40q.keep K58q
  have F60 : Fld Z T58.heap f "com/example/nearpath/nearpath/answer/Frontier" "seen" "[I" (.ref sn) := F41.keep K58q (ninS pr20 (ninS pr21 (ninS pr22 nin0)))
  have F61 : Fld Z T58.heap f "com/example/nearpath/nearpath/answer/Frontier" "maxCost" "J" (.long (3 : Int64)) := F42.keep K58q (ninS pr20 (ninS pr21 (ninS pr22 nin0)))
  have F62 : Fld Z T58.heap f "com/example/nearpath/nearpath/answer/Frontier" "search" "I" (.int vS) := F43.keep K58q (ninS pr20 (ninS pr21 (ninS pr22 nin0)))
  have F63 : Fld Z T58.heap f "com/example/nearpath/nearpath/answer/Frontier" "cost" "J" (.long (gc 0)) := F44.keep K58q (ninS pr20 (ninS pr21 (ninS pr22 nin0)))
  have F64 : Fld Z T58.heap f "com/example/nearpath/nearpath/answer/Frontier" "level" "[I" (.ref lv) := F45.keep K58q (ninS pr20 (ninS pr21 (ninS pr22 nin0)))
  have F65 : Fld Z T58.heap f "com/example/nearpath/nearpath/answer/Frontier" "levelHead" "I" (.int (0 : Int32)) := F46.keep K58q (ninS pr20 (ninS pr21 (ninS pr22 nin0)))
  have F66 : Fld Z T58.heap f "com/example/nearpath/nearpath/answer/Frontier" "levelTail" "I" (.int (0 : Int32)) := F47.keep K58q (ninS pr20 (ninS pr21 (ninS pr22 nin0)))
  have F67 : Fld Z T58.heap f "com/example/nearpath/nearpath/answer/Frontier" "heapCosts" "[J" (.ref hc) := F48.keep K58q (ninS pr20 (ninS pr21 (ninS pr22 nin0)))
  have F68 : Fld Z T58.heap f "com/example/nearpath/nearpath/answer/Frontier" "heapItems" "[I" (.ref hi) := F49.keep K58q (ninS pr20 (ninS pr21 (ninS pr22 nin0)))
  have F69 : Fld Z T58.heap f "com/example/nearpath/nearpath/answer/Frontier" "heapSize" "I" (.int (1 : Int32)) := F50.keep K58q (ninS pr20 (ninS pr21 (ninS pr22 nin0)))
  have K58 : Keep h0 T58.heap [f, hc, hi, sn] := K39.trans K58q (allS (Or.inl (by simp)) (allS (Or.inl (by simp)) (allS (Or.inl (by simp)) all0)))
  refine Go.st (mkF m 100 #[.val (.ref f), .val (.int (gi 0))] []) (fun _ k => st58.trans k) ?_
  refine Go.st (mkF m 101 #[.val (.ref f), .val (.int (gi 0))] [(.ref f)]) (fun _ k => XS.aloadN X58.here hx rfl (hb hby dn4_100) rfl rfl k) ?_
  refine Go.st (mkF m 102 #[.val (.ref f), .val (.int (gi 0))] [(.int (0 : Int32)), (.ref f)]) (fun _ k => XS.iconst X58.here hx rfl (hb hby dn4_101) k) ?_
  obtain ⟨T70, h70, X70, e70, W70, st70⟩ := putF X58 hx hZ hown (host := "") (Or.inl (hw _ (List.mem_of_getElem? (i := 29) rfl))) Via.refl rfl F65 E59q (Or.inl (hw _ (List.mem_of_getElem? (i := 30) rfl))) (hw _ (List.mem_of_getElem? (i := 1) rfl)) (ty := .int) (by decide) rfl rfl (g := (mkF m 102 #[.val (.ref f), .val (.int (gi 0))] [(.int (0 : Int32)), (.ref f)])) rfl rfl (hb hby dn4_102)
  have E71q : Exa Z h70 f "com/example/nearpath/nearpath/answer/Frontier" := E59q.wr W70
  have F72 : Fld Z h70 f "com/example/nearpath/nearpath/answer/Frontier" "seen" "[I" (.ref sn) := F60.other W70 (Or.inr (slot_ne (Or.inr (hw _ (List.mem_of_getElem? (i := 19) rfl))) (Or.inl (hw _ (List.mem_of_getElem? (i := 30) rfl))) (by decide) (t := (.array .int)) (t' := .int) (by decide) (by decide)))
  have F73 : Fld Z h70 f "com/example/nearpath/nearpath/answer/Frontier" "maxCost" "J" (.long (3 : Int64)) := F61.other W70 (Or.inr (slot_ne (Or.inr (hw _ (List.mem_of_getElem? (i := 21) rfl))) (Or.inl (hw _ (List.mem_of_getElem? (i := 30) rfl))) (by decide) (t := .long) (t' := .int) (by decide) (by decide)))
  have F74 : Fld Z h70 f "com/example/nearpath/nearpath/answer/Frontier" "search" "I" (.int vS) := F62.other W70 (Or.inr (slot_ne (Or.inl (hw _ (List.mem_of_getElem? (i := 36) rfl))) (Or.inl (hw _ (List.mem_of_getElem? (i := 30) rfl))) (by decide) (t := .int) (t' := .int) (by decide) (by decide)))
  have F75 : Fld Z h70 f "com/example/nearpath/nearpath/answer/Frontier" "cost" "J" (.long (gc 0)) := F63.other W70 (Or.inr (slot_ne (Or.inl (hw _ (List.mem_of_getElem? (i := 34) rfl))) (Or.inl (hw _ (List.mem_of_getElem? (i := 30) rfl))) (by decide) (t := .long) (t' := .int) (by decide) (by decide)))
  have F76 : Fld Z h70 f "com/example/nearpath/nearpath/answer/Frontier" "level" "[I" (.ref lv) := F64.other W70 (Or.inr (slot_ne (Or.inl (hw _ (List.mem_of_getElem? (i := 12) rfl))) (Or.inl (hw _ (List.mem_of_getElem? (i := 30) rfl))) (by decide) (t := (.array .int)) (t' := .int) (by decide) (by decide)))
  have F77 : Fld Z h70 f "com/example/nearpath/nearpath/answer/Frontier" "levelHead" "I" (.int (0 : Int32)) := F65.same W70
  have F78 : Fld Z h70 f "com/example/nearpath/nearpath/answer/Frontier" "levelTail" "I" (.int (0 : Int32)) := F66.other W70 (Or.inr (slot_ne (Or.inl (hw _ (List.mem_of_getElem? (i := 32) rfl))) (Or.inl (hw _ (List.mem_of_getElem? (i := 30) rfl))) (by decide) (t := .int) (t' := .int) (by decide) (by decide)))
  have F79 : Fld Z h70 f "com/example/nearpath/nearpath/answer/Frontier" "heapCosts" "[J" (.ref hc) := F67.other W70 (Or.inr (slot_ne (Or.inl (hw _ (List.mem_of_getElem? (i := 15) rfl))) (Or.inl (hw _ (List.mem_of_getElem? (i := 30) rfl))) (by decide) (t := (.array .long)) (t' := .int) (by decide) (by decide)))
  have F80 : Fld Z h70 f "com/example/nearpath/nearpath/answer/Frontier" "heapItems" "[I" (.ref hi) := F68.other W70 (Or.inr (slot_ne (Or.inl (hw _ (List.mem_of_getElem? (i := 17) rfl))) (Or.inl (hw _ (List.mem_of_getElem? (i := 30) rfl))) (by decide) (t := (.array .int)) (t' := .int) (by decide) (by decide)))
  have F81 : Fld Z h70 f "com/example/nearpath/nearpath/answer/Frontier" "heapSize" "I" (.int (1 : Int32)) := F69.other W70 (Or.inr (slot_ne (Or.inl (hw _ (List.mem_of_getElem? (i := 28) rfl))) (Or.inl (hw _ (List.mem_of_getElem? (i := 30) rfl))) (by decide) (t := .int) (t' := .int) (by decide) (by decide)))
  have V82 : Ary Z h70 hc .long 16 (lts (updJ gc 0 (gc 1))) := V58_0.other W70 (Ne.symm pr20)
  have V83 : Ary Z h70 hi .int 16 (bts (updI gi 0 (gi 1))) := V58_1.other W70 (Ne.symm pr21)
  have V84 : Ary Z h70 sn .int 4 (bts (updI (updI gs ((gi 0).toNatClampNeg) vS) ((gi 1).toNatClampNeg) (-1 : Int32))) := V58_2.other W70 (Ne.symm pr22)
  have K70 : Keep h0 h70 [f, hc, hi, sn] := K58.wr W70 (Or.inl (by simp))
  have N70 := Fr.snoc X70 N58 pr16
  refine Go.st (mkF m 105 #[.val (.ref f), .val (.int (gi 0))] []) (fun _ k => st70 _ k) ?_
  refine Go.st (mkF m 106 #[.val (.ref f), .val (.int (gi 0))] [(.ref f)]) (fun _ k => XS.aloadN X70.here hx rfl (hb hby dn4_105) rfl rfl k) ?_
  refine Go.st (mkF m 107 #[.val (.ref f), .val (.int (gi 0))] [(.int (0 : Int32)), (.ref f)]) (fun _ k => XS.iconst X70.here hx rfl (hb hby dn4_106) k) ?_
  obtain ⟨T85, h85, X85, e85, W85, st85⟩ := putF X70 hx hZ hown (host := "") (Or.inl (hw _ (List.mem_of_getElem? (i := 31) rfl))) Via.refl e70 F78 E71q (Or.inl (hw _ (List.mem_of_getElem? (i := 32) rfl))) (hw _ (List.mem_of_getElem? (i := 1) rfl)) (ty := .int) (by decide) rfl rfl (g := (mkF m 107 #[.val (.ref f), .val (.int (gi 0))] [(.int (0 : Int32)), (.ref f)])) rfl rfl (hb hby dn4_107)
  have E86q : Exa Z h85 f "com/example/nearpath/nearpath/answer/Frontier" := E71q.wr W85
  have F87 : Fld Z h85 f "com/example/nearpath/nearpath/answer/Frontier" "seen" "[I" (.ref sn) := F72.other W85 (Or.inr (slot_ne (Or.inr (hw _ (List.mem_of_getElem? (i := 19) rfl))) (Or.inl (hw _ (List.mem_of_getElem? (i := 32) rfl))) (by decide) (t := (.array .int)) (t' := .int) (by decide) (by decide)))
  have F88 : Fld Z h85 f "com/example/nearpath/nearpath/answer/Frontier" "maxCost" "J" (.long (3 : Int64)) := F73.other W85 (Or.inr (slot_ne (Or.inr (hw _ (List.mem_of_getElem? (i := 21) rfl))) (Or.inl (hw _ (List.mem_of_getElem? (i := 32) rfl))) (by decide) (t := .long) (t' := .int) (by decide) (by decide)))
  have F89 : Fld Z h85 f "com/example/nearpath/nearpath/answer/Frontier" "search" "I" (.int vS) := F74.other W85 (Or.inr (slot_ne (Or.inl (hw _ (List.mem_of_getElem? (i := 36) rfl))) (Or.inl (hw _ (List.mem_of_getElem? (i := 32) rfl))) (by decide) (t := .int) (t' := .int) (by decide) (by decide)))
  have F90 : Fld Z h85 f "com/example/nearpath/nearpath/answer/Frontier" "cost" "J" (.long (gc 0)) := F75.other W85 (Or.inr (slot_ne (Or.inl (hw _ (List.mem_of_getElem? (i := 34) rfl))) (Or.inl (hw _ (List.mem_of_getElem? (i := 32) rfl))) (by decide) (t := .long) (t' := .int) (by decide) (by decide)))
  have F91 : Fld Z h85 f "com/example/nearpath/nearpath/answer/Frontier" "level" "[I" (.ref lv) := F76.other W85 (Or.inr (slot_ne (Or.inl (hw _ (List.mem_of_getElem? (i := 12) rfl))) (Or.inl (hw _ (List.mem_of_getElem? (i := 32) rfl))) (by decide) (t := (.array .int)) (t' := .int) (by decide) (by decide)))
  have F92 : Fld Z h85 f "com/example/nearpath/nearpath/answer/Frontier" "levelHead" "I" (.int (0 : Int32)) := F77.other W85 (Or.inr (slot_ne (Or.inl (hw _ (List.mem_of_getElem? (i := 30) rfl))) (Or.inl (hw _ (List.mem_of_getElem? (i := 32) rfl))) (by decide) (t := .int) (t' := .int) (by decide) (by decide)))
  have F93 : Fld Z h85 f "com/example/nearpath/nearpath/answer/Frontier" "levelTail" "I" (.int (0 : Int32)) := F78.same W85
  have F94 : Fld Z h85 f "com/example/nearpath/nearpath/answer/Frontier" "heapCosts" "[J" (.ref hc) := F79.other W85 (Or.inr (slot_ne (Or.inl (hw _ (List.mem_of_getElem? (i := 15) rfl))) (Or.inl (hw _ (List.mem_of_getElem? (i := 32) rfl))) (by decide) (t := (.array .long)) (t' := .int) (by decide) (by decide)))
  have F95 : Fld Z h85 f "com/example/nearpath/nearpath/answer/Frontier" "heapItems" "[I" (.ref hi) := F80.other W85 (Or.inr (slot_ne (Or.inl (hw _ (List.mem_of_getElem? (i := 17) rfl))) (Or.inl (hw _ (List.mem_of_getElem? (i := 32) rfl))) (by decide) (t := (.array .int)) (t' := .int) (by decide) (by decide)))
  have F96 : Fld Z h85 f "com/example/nearpath/nearpath/answer/Frontier" "heapSize" "I" (.int (1 : Int32)) := F81.other W85 (Or.inr (slot_ne (Or.inl (hw _ (List.mem_of_getElem? (i := 28) rfl))) (Or.inl (hw _ (List.mem_of_getElem? (i := 32) rfl))) (by decide) (t := .int) (t' := .int) (by decide) (by decide)))
  have V97 : Ary Z h85 hc .long 16 (lts (updJ gc 0 (gc 1))) := V82.other W85 (Ne.symm pr20)
  have V98 : Ary Z h85 hi .int 16 (bts (updI gi 0 (gi 1))) := V83.other W85 (Ne.symm pr21)
  have V99 : Ary Z h85 sn .int 4 (bts (updI (updI gs ((gi 0).toNatClampNeg) vS) ((gi 1).toNatClampNeg) (-1 : Int32))) := V84.other W85 (Ne.symm pr22)
  have K85 : Keep h0 h85 [f, hc, hi, sn] := K70.wr W85 (Or.inl (by simp))
  have N85 := Fr.snoc X85 N70 pr16
  refine Go.st (mkF m 110 #[.val (.ref f), .val (.int (gi 0))] []) (fun _ k => st85 _ k) ?_
  refine Go.st (mkF m 111 #[.val (.ref f), .val (.int (gi 0))] [(.int (gi 0))]) (fun _ k => XS.iloadN X85.here hx rfl (hb hby dn4_110) rfl k) ?_
  exact Go.retI X85 hx Bd.notSynchronized Bd.returns (hb hby dn4_111) (by rw [e85]; exact ⟨rfl, N85, K85, F87, F88, F89, F90, F91, F92, F93, F94, F95, F96, V97, V98, V99⟩) (by decide) (by decide)
theorem dr1_0 : decode prog_12_method_3_code 0 = .ok (.aload_n 0, 1) := by decide +kernel
theorem dr1_1 : decode prog_12_method_3_code 1 = .ok (.getfield 20, 3) := by decide +kernel
theorem dr1_4 : decode prog_12_method_3_code 4 = .ok (.iload_n 1, 1) := by decide +kernel
theorem dr1_5 : decode prog_12_method_3_code 5 = .ok (.iaload, 1) := by decide +kernel
theorem dr1_6 : decode prog_12_method_3_code 6 = .ok (.istore 4, 2) := by decide +kernel
theorem dr1_8 : decode prog_12_method_3_code 8 = .ok (.lload_n 2, 1) := by decide +kernel
theorem dr1_9 : decode prog_12_method_3_code 9 = .ok (.aload_n 0, 1) := by decide +kernel
theorem dr1_10 : decode prog_12_method_3_code 10 = .ok (.getfield 23, 3) := by decide +kernel
theorem dr1_13 : decode prog_12_method_3_code 13 = .ok (.lcmp, 1) := by decide +kernel
theorem dr1_14 : decode prog_12_method_3_code 14 = .ok (.ifCond .gt 12, 3) := by decide +kernel
theorem dr1_17 : decode prog_12_method_3_code 17 = .ok (.iload 4, 2) := by decide +kernel
theorem dr1_19 : decode prog_12_method_3_code 19 = .ok (.aload_n 0, 1) := by decide +kernel
theorem dr1_20 : decode prog_12_method_3_code 20 = .ok (.getfield 40, 3) := by decide +kernel
theorem dr1_23 : decode prog_12_method_3_code 23 = .ok (.if_icmp .ne 4, 3) := by decide +kernel
theorem dr1_26 : decode prog_12_method_3_code 26 = .ok (.return_, 1) := by decide +kernel
theorem ef_r1 (m : MethodId) (f : Addr) (it : Int32) (ct : Int64) : entryFrame m #[(.ref f), (.int it), (.long ct)] 5 = (mkF m 0 #[.val (.ref f), .val (.int it), .val (.long ct), .second, .unset] []) := by first | (simp [entryFrame, mkF, argsToLocals, Value.category]; done) | rfl
def Q_r1 (Z : State) (f : Addr) (it : Int32) (ct : Int64) (lv : Addr) (hc : Addr) (hi : Addr) (sn : Addr) (vS : Int32) (vc : Int64) (lh : Int32) (lt : Int32) (hs : Int32) (gs : Nat → Int32) (h0 : Heap) (n0 : Nat) (vv : Option Value) (hE : Heap) (LE : List Loc) : Prop := vv = none ∧ Fr n0 LE ∧ hE = h0
set_option maxRecDepth 65536 in
set_option maxHeartbeats 40000000 in
theorem rm_r1 (l : Launch) (Z : State) (a0 : Array Value) (hw : ∀ d ∈ tables_1, d.before a0 Z = true) (ws : List Jvm.Cond) (f : Addr) (it : Int32) (ct : Int64) (lv : Addr) (hc : Addr) (hi : Addr) (sn : Addr) (vS : Int32) (vc : Int64) (lh : Int32) (lt : Int32) (hs : Int32) (gs : Nat → Int32) (h0 : Heap) (n0 : Nat) (Z0 : n0 ≤ h0.size) (pr0 : Exa Z h0 f "com/example/nearpath/nearpath/answer/Frontier") (pr1 : Fld Z h0 f "com/example/nearpath/nearpath/answer/Frontier" "seen" "[I" (.ref sn)) (pr2 : Fld Z h0 f "com/example/nearpath/nearpath/answer/Frontier" "maxCost" "J" (.long (3 : Int64))) (pr3 : Fld Z h0 f "com/example/nearpath/nearpath/answer/Frontier" "search" "I" (.int vS)) (pr4 : Fld Z h0 f "com/example/nearpath/nearpath/answer/Frontier" "cost" "J" (.long vc)) (pr5 : Fld Z h0 f "com/example/nearpath/nearpath/answer/Frontier" "level" "[I" (.ref lv)) (pr6 : Fld Z h0 f "com/example/nearpath/nearpath/answer/Frontier" "levelHead" "I" (.int lh)) (pr7 : Fld Z h0 f "com/example/nearpath/nearpath/answer/Frontier" "levelTail" "I" (.int lt)) (pr8 : Fld Z h0 f "com/example/nearpath/nearpath/answer/Frontier" "heapCosts" "[J" (.ref hc)) (pr9 : Fld Z h0 f "com/example/nearpath/nearpath/answer/Frontier" "heapItems" "[I" (.ref hi)) (pr10 : Fld Z h0 f "com/example/nearpath/nearpath/answer/Frontier" "heapSize" "I" (.int hs)) (pr11 : Ary Z h0 sn .int 4 (bts gs)) (pr12 : In4 it) (pr13 : ¬ (3 : Int64) < ct) (pr14 : (gs (it.toNatClampNeg)) = vS) :
    MetFree l (⟨"com/example/nearpath/nearpath/answer/Frontier", "reach", "(IJ)V"⟩ : MethodName) (head1 (Jvm.Cond.code (⟨"com/example/nearpath/nearpath/answer/Frontier", "reach", "(IJ)V"⟩ : MethodName) prog_12_method_3_code 5 none :: ws) ({ frames := 0, cells := 0, slots := 0, locals := 0 } : Room)) (fun aa UU => aa = #[(.ref f), (.int it), (.long ct)] ∧ Z.Warmed39 UU.vm ∧ UU.heap = h0) (fun _ _ _ _ _ => True) (fun _ UU oo UU' => ∃ vv LL, oo = .returned vv ∧ Q_r1 Z f it ct lv hc hi sn vS vc lh lt hs gs h0 n0 vv UU'.heap LL ∧ FrameEnd UU oo UU' LL ({ frames := 0, cells := 0, slots := 0, locals := 0 } : Room).cells ({ frames := 0, cells := 0, slots := 0, locals := 0 } : Room).slots) := by
  refine MetFree.of_bodySF (plainFor_of_name pn_0) hisR ?_
  intro p e s m args below meth c s₁ Bd hml0 hP hK
  obtain ⟨rfl, hZ, hh⟩ := hP
  have hx := Bd.exec
  have hby := Bd.bytes
  have hml : c.maxLocals = 5 := hml0
  have hown : s.vm.findClass "com/example/nearpath/nearpath/answer/Frontier" = some m.cls := findClass_of_methodNamed Bd.named
  have hnm := (name_of_methodNamed Bd.named Bd.method).1
  have X0 : Stand p l e ({ frames := 0, cells := 0, slots := 0, locals := 0 } : Room) s m #[(.ref f), (.int it), (.long ct)] below meth c s₁ [] 0 0 := Stand.of_body Bd
  have e0 : s₁.heap = h0 := by rw [← hh, Bd.state]; rfl
  have N0 := Fr.nil n0
  have K0 := Keep.refl h0 []
  show Go p e below s (Q_r1 Z f it ct lv hc hi sn vS vc lh lt hs gs h0 n0) 0 0 s₁ (entryFrame m #[(.ref f), (.int it), (.long ct)] 5)
  refine Go.of_eq (ef_r1 m f it ct) ?_
  refine Go.st (mkF m 1 #[.val (.ref f), .val (.int it), .val (.long ct), .second, .unset] [(.ref f)]) (fun _ k => XS.aloadN X0.here hx rfl (hb hby dr1_0) rfl rfl k) ?_
  obtain ⟨T1, X1, e1, st1⟩ := getF X0 hx hZ hown (host := "") (Or.inl (hw _ (List.mem_of_getElem? (i := 18) rfl))) Via.refl e0 pr1 (g := (mkF m 1 #[.val (.ref f), .val (.int it), .val (.long ct), .second, .unset] [(.ref f)])) rfl rfl (hb hby dr1_1)
  refine Go.st (mkF m 4 #[.val (.ref f), .val (.int it), .val (.long ct), .second, .unset] [(.ref sn)]) (fun _ k => st1 _ k) ?_
  refine Go.st (mkF m 5 #[.val (.ref f), .val (.int it), .val (.long ct), .second, .unset] [(.int it), (.ref sn)]) (fun _ k => XS.iloadN X1.here hx rfl (hb hby dr1_4) rfl k) ?_
  refine Go.st (mkF m 6 #[.val (.ref f), .val (.int it), .val (.long ct), .second, .unset] [(.int (gs (it.toNatClampNeg)))]) (fun _ k => ldI X1 hx hZ e1 pr11 (i := it.toNatClampNeg) (own_in4 pr12).1 rfl (own_in4 pr12).2 (v := (.int (gs (it.toNatClampNeg)))) rfl (g := (mkF m 5 #[.val (.ref f), .val (.int it), .val (.long ct), .second, .unset] [(.int it), (.ref sn)])) rfl rfl (hb hby dr1_5) _ k) ?_
  refine Go.st (mkF m 8 #[.val (.ref f), .val (.int it), .val (.long ct), .second, .val (.int (gs (it.toNatClampNeg)))] []) (fun _ k => XS.istore X1.here hx rfl (hb hby dr1_6) rfl (l' := #[.val (.ref f), .val (.int it), .val (.long ct), .second, .val (.int (gs (it.toNatClampNeg)))]) rfl k) ?_
  refine Go.st (mkF m 9 #[.val (.ref f), .val (.int it), .val (.long ct), .second, .val (.int (gs (it.toNatClampNeg)))] [(.long ct)]) (fun _ k => XT.lloadN X1.here hx rfl (hb hby dr1_8) rfl k) ?_
  refine Go.st (mkF m 10 #[.val (.ref f), .val (.int it), .val (.long ct), .second, .val (.int (gs (it.toNatClampNeg)))] [(.ref f), (.long ct)]) (fun _ k => XS.aloadN X1.here hx rfl (hb hby dr1_9) rfl rfl k) ?_
  obtain ⟨T2, X2, e2, st2⟩ := getF X1 hx hZ hown (host := "") (Or.inl (hw _ (List.mem_of_getElem? (i := 20) rfl))) Via.refl e1 pr2 (g := (mkF m 10 #[.val (.ref f), .val (.int it), .val (.long ct), .second, .val (.int (gs (it.toNatClampNeg)))] [(.ref f), (.long ct)])) rfl rfl (hb hby dr1_10)
  refine Go.st (mkF m 13 #[.val (.ref f), .val (.int it), .val (.long ct), .second, .val (.int (gs (it.toNatClampNeg)))] [(.long (3 : Int64)), (.long ct)]) (fun _ k => st2 _ k) ?_
  refine Go.st (mkF m 14 #[.val (.ref f), .val (.int it), .val (.long ct), .second, .val (.int (gs (it.toNatClampNeg)))] [(.int (cmpL ct (3 : Int64)))]) (fun _ k => XT.lcmp X2.here hx rfl (hb hby dr1_13) rfl k) ?_
  refine Go.st (mkF m 17 #[.val (.ref f), .val (.int it), .val (.long ct), .second, .val (.int (gs (it.toNatClampNeg)))] []) (fun _ k => XS.ifNo X2.here hx rfl (hb hby dr1_14) rfl (own_lgF pr13).1 k) ?_
  refine Go.st (mkF m 19 #[.val (.ref f), .val (.int it), .val (.long ct), .second, .val (.int (gs (it.toNatClampNeg)))] [(.int (gs (it.toNatClampNeg)))]) (fun _ k => XS.iload X2.here hx rfl (hb hby dr1_17) rfl k) ?_
  refine Go.st (mkF m 20 #[.val (.ref f), .val (.int it), .val (.long ct), .second, .val (.int (gs (it.toNatClampNeg)))] [(.ref f), (.int (gs (it.toNatClampNeg)))]) (fun _ k => XS.aloadN X2.here hx rfl (hb hby dr1_19) rfl rfl k) ?_
  obtain ⟨T3, X3, e3, st3⟩ := getF X2 hx hZ hown (host := "") (Or.inl (hw _ (List.mem_of_getElem? (i := 35) rfl))) Via.refl e2 pr3 (g := (mkF m 20 #[.val (.ref f), .val (.int it), .val (.long ct), .second, .val (.int (gs (it.toNatClampNeg)))] [(.ref f), (.int (gs (it.toNatClampNeg)))])) rfl rfl (hb hby dr1_20)
  refine Go.st (mkF m 23 #[.val (.ref f), .val (.int it), .val (.long ct), .second, .val (.int (gs (it.toNatClampNeg)))] [(.int vS), (.int (gs (it.toNatClampNeg)))]) (fun _ k => st3 _ k) ?_
  refine Go.st (mkF m 26 #[.val (.ref f), .val (.int it), .val (.long ct), .second, .val (.int (gs (it.toNatClampNeg)))] []) (fun _ k => XS.icmpNo X3.here hx rfl (hb hby dr1_23) rfl (teq pr14).2 k) ?_
  exact Go.retV X3 hx Bd.notSynchronized Bd.returns (hb hby dr1_26) ⟨rfl, N0, e3⟩ (by decide) (by decide)
theorem dr2_0 : decode prog_12_method_3_code 0 = .ok (.aload_n 0, 1) := by decide +kernel
theorem dr2_1 : decode prog_12_method_3_code 1 = .ok (.getfield 20, 3) := by decide +kernel
theorem dr2_4 : decode prog_12_method_3_code 4 = .ok (.iload_n 1, 1) := by decide +kernel
theorem dr2_5 : decode prog_12_method_3_code 5 = .ok (.iaload, 1) := by decide +kernel
theorem dr2_6 : decode prog_12_method_3_code 6 = .ok (.istore 4, 2) := by decide +kernel
theorem dr2_8 : decode prog_12_method_3_code 8 = .ok (.lload_n 2, 1) := by decide +kernel
theorem dr2_9 : decode prog_12_method_3_code 9 = .ok (.aload_n 0, 1) := by decide +kernel
theorem dr2_10 : decode prog_12_method_3_code 10 = .ok (.getfield 23, 3) := by decide +kernel
theorem dr2_13 : decode prog_12_method_3_code 13 = .ok (.lcmp, 1) := by decide +kernel
theorem dr2_14 : decode prog_12_method_3_code 14 = .ok (.ifCond .gt 12, 3) := by decide +kernel
theorem dr2_17 : decode prog_12_method_3_code 17 = .ok (.iload 4, 2) := by decide +kernel
theorem dr2_19 : decode prog_12_method_3_code 19 = .ok (.aload_n 0, 1) := by decide +kernel
theorem dr2_20 : decode prog_12_method_3_code 20 = .ok (.getfield 40, 3) := by decide +kernel
theorem dr2_23 : decode prog_12_method_3_code 23 = .ok (.if_icmp .ne 4, 3) := by decide +kernel
theorem dr2_27 : decode prog_12_method_3_code 27 = .ok (.iload 4, 2) := by decide +kernel
theorem dr2_29 : decode prog_12_method_3_code 29 = .ok (.ifCond .ge 30, 3) := by decide +kernel
theorem dr2_32 : decode prog_12_method_3_code 32 = .ok (.lload_n 2, 1) := by decide +kernel
theorem dr2_33 : decode prog_12_method_3_code 33 = .ok (.aload_n 0, 1) := by decide +kernel
theorem dr2_34 : decode prog_12_method_3_code 34 = .ok (.getfield 13, 3) := by decide +kernel
theorem dr2_37 : decode prog_12_method_3_code 37 = .ok (.iload 4, 2) := by decide +kernel
theorem dr2_39 : decode prog_12_method_3_code 39 = .ok (.iconst (-1), 1) := by decide +kernel
theorem dr2_40 : decode prog_12_method_3_code 40 = .ok (.ixor, 1) := by decide +kernel
theorem dr2_41 : decode prog_12_method_3_code 41 = .ok (.laload, 1) := by decide +kernel
theorem dr2_42 : decode prog_12_method_3_code 42 = .ok (.lcmp, 1) := by decide +kernel
theorem dr2_43 : decode prog_12_method_3_code 43 = .ok (.ifCond .ge 133, 3) := by decide +kernel
theorem dr2_176 : decode prog_12_method_3_code 176 = .ok (.return_, 1) := by decide +kernel
theorem ef_r2 (m : MethodId) (f : Addr) (it : Int32) (ct : Int64) : entryFrame m #[(.ref f), (.int it), (.long ct)] 5 = (mkF m 0 #[.val (.ref f), .val (.int it), .val (.long ct), .second, .unset] []) := by first | (simp [entryFrame, mkF, argsToLocals, Value.category]; done) | rfl
def Q_r2 (Z : State) (f : Addr) (it : Int32) (ct : Int64) (lv : Addr) (hc : Addr) (hi : Addr) (sn : Addr) (vS : Int32) (vc : Int64) (lh : Int32) (lt : Int32) (hs : Int32) (gc : Nat → Int64) (gs : Nat → Int32) (h0 : Heap) (n0 : Nat) (vv : Option Value) (hE : Heap) (LE : List Loc) : Prop := vv = none ∧ Fr n0 LE ∧ hE = h0
set_option maxRecDepth 65536 in
set_option maxHeartbeats 40000000 in
theorem rm_r2 (l : Launch) (Z : State) (a0 : Array Value) (hw : ∀ d ∈ tables_1, d.before a0 Z = true) (ws : List Jvm.Cond) (f : Addr) (it : Int32) (ct : Int64) (lv : Addr) (hc : Addr) (hi : Addr) (sn : Addr) (vS : Int32) (vc : Int64) (lh : Int32) (lt : Int32) (hs : Int32) (gc : Nat → Int64) (gs : Nat → Int32) (h0 : Heap) (n0 : Nat) (Z0 : n0 ≤ h0.size) (pr0 : Exa Z h0 f "com/example/nearpath/nearpath/answer/Frontier") (pr1 : Fld Z h0 f "com/example/nearpath/nearpath/answer/Frontier" "seen" "[I" (.ref sn)) (pr2 : Fld Z h0 f "com/example/nearpath/nearpath/answer/Frontier" "maxCost" "J" (.long (3 : Int64))) (pr3 : Fld Z h0 f "com/example/nearpath/nearpath/answer/Frontier" "search" "I" (.int vS)) (pr4 : Fld Z h0 f "com/example/nearpath/nearpath/answer/Frontier" "cost" "J" (.long vc)) (pr5 : Fld Z h0 f "com/example/nearpath/nearpath/answer/Frontier" "level" "[I" (.ref lv)) (pr6 : Fld Z h0 f "com/example/nearpath/nearpath/answer/Frontier" "levelHead" "I" (.int lh)) (pr7 : Fld Z h0 f "com/example/nearpath/nearpath/answer/Frontier" "levelTail" "I" (.int lt)) (pr8 : Fld Z h0 f "com/example/nearpath/nearpath/answer/Frontier" "heapCosts" "[J" (.ref hc)) (pr9 : Fld Z h0 f "com/example/nearpath/nearpath/answer/Frontier" "heapItems" "[I" (.ref hi)) (pr10 : Fld Z h0 f "com/example/nearpath/nearpath/answer/Frontier" "heapSize" "I" (.int hs)) (pr11 : Ary Z h0 sn .int 4 (bts gs)) (pr12 : Ary Z h0 hc .long 16 (lts gc)) (pr13 : In4 it) (pr14 : ¬ (3 : Int64) < ct) (pr15 : ¬ (gs (it.toNatClampNeg)) = vS) (pr16 : (gs (it.toNatClampNeg)) = (-1 : Int32)) (pr17 : ¬ ct < (gc 0)) :
    MetFree l (⟨"com/example/nearpath/nearpath/answer/Frontier", "reach", "(IJ)V"⟩ : MethodName) (head1 (Jvm.Cond.code (⟨"com/example/nearpath/nearpath/answer/Frontier", "reach", "(IJ)V"⟩ : MethodName) prog_12_method_3_code 5 none :: ws) ({ frames := 0, cells := 0, slots := 0, locals := 0 } : Room)) (fun aa UU => aa = #[(.ref f), (.int it), (.long ct)] ∧ Z.Warmed39 UU.vm ∧ UU.heap = h0) (fun _ _ _ _ _ => True) (fun _ UU oo UU' => ∃ vv LL, oo = .returned vv ∧ Q_r2 Z f it ct lv hc hi sn vS vc lh lt hs gc gs h0 n0 vv UU'.heap LL ∧ FrameEnd UU oo UU' LL ({ frames := 0, cells := 0, slots := 0, locals := 0 } : Room).cells ({ frames := 0, cells := 0, slots := 0, locals := 0 } : Room).slots) := by
  refine MetFree.of_bodySF (plainFor_of_name pn_0) hisR ?_
  intro p e s m args below meth c s₁ Bd hml0 hP hK
  obtain ⟨rfl, hZ, hh⟩ := hP
  have hx := Bd.exec
  have hby := Bd.bytes
  have hml : c.maxLocals = 5 := hml0
  have hown : s.vm.findClass "com/example/nearpath/nearpath/answer/Frontier" = some m.cls := findClass_of_methodNamed Bd.named
  have hnm := (name_of_methodNamed Bd.named Bd.method).1
  have X0 : Stand p l e ({ frames := 0, cells := 0, slots := 0, locals := 0 } : Room) s m #[(.ref f), (.int it), (.long ct)] below meth c s₁ [] 0 0 := Stand.of_body Bd
  have e0 : s₁.heap = h0 := by rw [← hh, Bd.state]; rfl
  have N0 := Fr.nil n0
  have K0 := Keep.refl h0 []
  show Go p e below s (Q_r2 Z f it ct lv hc hi sn vS vc lh lt hs gc gs h0 n0) 0 0 s₁ (entryFrame m #[(.ref f), (.int it), (.long ct)] 5)
  refine Go.of_eq (ef_r2 m f it ct) ?_
  refine Go.st (mkF m 1 #[.val (.ref f), .val (.int it), .val (.long ct), .second, .unset] [(.ref f)]) (fun _ k => XS.aloadN X0.here hx rfl (hb hby dr2_0) rfl rfl k) ?_
  obtain ⟨T1, X1, e1, st1⟩ := getF X0 hx hZ hown (host := "") (Or.inl (hw _ (List.mem_of_getElem? (i := 18) rfl))) Via.refl e0 pr1 (g := (mkF m 1 #[.val (.ref f), .val (.int it), .val (.long ct), .second, .unset] [(.ref f)])) rfl rfl (hb hby dr2_1)
  refine Go.st (mkF m 4 #[.val (.ref f), .val (.int it), .val (.long ct), .second, .unset] [(.ref sn)]) (fun _ k => st1 _ k) ?_
  refine Go.st (mkF m 5 #[.val (.ref f), .val (.int it), .val (.long ct), .second, .unset] [(.int it), (.ref sn)]) (fun _ k => XS.iloadN X1.here hx rfl (hb hby dr2_4) rfl k) ?_
  refine Go.st (mkF m 6 #[.val (.ref f), .val (.int it), .val (.long ct), .second, .unset] [(.int (gs (it.toNatClampNeg)))]) (fun _ k => ldI X1 hx hZ e1 pr11 (i := it.toNatClampNeg) (own_in4 pr13).1 rfl (own_in4 pr13).2 (v := (.int (gs (it.toNatClampNeg)))) rfl (g := (mkF m 5 #[.val (.ref f), .val (.int it), .val (.long ct), .second, .unset] [(.int it), (.ref sn)])) rfl rfl (hb hby dr2_5) _ k) ?_
  refine Go.st (mkF m 8 #[.val (.ref f), .val (.int it), .val (.long ct), .second, .val (.int (gs (it.toNatClampNeg)))] []) (fun _ k => XS.istore X1.here hx rfl (hb hby dr2_6) rfl (l' := #[.val (.ref f), .val (.int it), .val (.long ct), .second, .val (.int (gs (it.toNatClampNeg)))]) rfl k) ?_
  refine Go.st (mkF m 9 #[.val (.ref f), .val (.int it), .val (.long ct), .second, .val (.int (gs (it.toNatClampNeg)))] [(.long ct)]) (fun _ k => XT.lloadN X1.here hx rfl (hb hby dr2_8) rfl k) ?_
  refine Go.st (mkF m 10 #[.val (.ref f), .val (.int it), .val (.long ct), .second, .val (.int (gs (it.toNatClampNeg)))] [(.ref f), (.long ct)]) (fun _ k => XS.aloadN X1.here hx rfl (hb hby dr2_9) rfl rfl k) ?_
  obtain ⟨T2, X2, e2, st2⟩ := getF X1 hx hZ hown (host := "") (Or.inl (hw _ (List.mem_of_getElem? (i := 20) rfl))) Via.refl e1 pr2 (g := (mkF m 10 #[.val (.ref f), .val (.int it), .val (.long ct), .second, .val (.int (gs (it.toNatClampNeg)))] [(.ref f), (.long ct)])) rfl rfl (hb hby dr2_10)
  refine Go.st (mkF m 13 #[.val (.ref f), .val (.int it), .val (.long ct), .second, .val (.int (gs (it.toNatClampNeg)))] [(.long (3 : Int64)), (.long ct)]) (fun _ k => st2 _ k) ?_
  refine Go.st (mkF m 14 #[.val (.ref f), .val (.int it), .val (.long ct), .second, .val (.int (gs (it.toNatClampNeg)))] [(.int (cmpL ct (3 : Int64)))]) (fun _ k => XT.lcmp X2.here hx rfl (hb hby dr2_13) rfl k) ?_
  refine Go.st (mkF m 17 #[.val (.ref f), .val (.int it), .val (.long ct), .second, .val (.int (gs (it.toNatClampNeg)))] []) (fun _ k => XS.ifNo X2.here hx rfl (hb hby dr2_14) rfl (own_lgF pr14).1 k) ?_
  refine Go.st (mkF m 19 #[.val (.ref f), .val (.int it), .val (.long ct), .second, .val (.int (gs (it.toNatClampNeg)))] [(.int (gs (it.toNatClampNeg)))]) (fun _ k => XS.iload X2.here hx rfl (hb hby dr2_17) rfl k) ?_
  refine Go.st (mkF m 20 #[.val (.ref f), .val (.int it), .val (.long ct), .second, .val (.int (gs (it.toNatClampNeg)))] [(.ref f), (.int (gs (it.toNatClampNeg)))]) (fun _ k => XS.aloadN X2.here hx rfl (hb hby dr2_19) rfl rfl k) ?_
  obtain ⟨T3, X3, e3, st3⟩ := getF X2 hx hZ hown (host := "") (Or.inl (hw _ (List.mem_of_getElem? (i := 35) rfl))) Via.refl e2 pr3 (g := (mkF m 20 #[.val (.ref f), .val (.int it), .val (.long ct), .second, .val (.int (gs (it.toNatClampNeg)))] [(.ref f), (.int (gs (it.toNatClampNeg)))])) rfl rfl (hb hby dr2_20)
  refine Go.st (mkF m 23 #[.val (.ref f), .val (.int it), .val (.long ct), .second, .val (.int (gs (it.toNatClampNeg)))] [(.int vS), (.int (gs (it.toNatClampNeg)))]) (fun _ k => st3 _ k) ?_
  refine Go.st (mkF m 27 #[.val (.ref f), .val (.int it), .val (.long ct), .second, .val (.int (gs (it.toNatClampNeg)))] []) (fun _ k => XS.icmpYes X3.here hx rfl (pc0 := 23) (pc' := 27) rfl (hb hby dr2_23) rfl (feq pr15).2 (by decide) (by decide) k) ?_
  refine Go.st (mkF m 29 #[.val (.ref f), .val (.int it), .val (.long ct), .second, .val (.int (gs (it.toNatClampNeg)))] [(.int (gs (it.toNatClampNeg)))]) (fun _ k => XS.iload X3.here hx rfl (hb hby dr2_27) rfl k) ?_
  refine Go.st (mkF m 32 #[.val (.ref f), .val (.int it), .val (.long ct), .second, .val (.int (gs (it.toNatClampNeg)))] []) (fun _ k => XS.ifNo X3.here hx rfl (hb hby dr2_29) rfl ((if0 _ _).trans (tlt (own_neg pr16)).2.1) k) ?_
  refine Go.st (mkF m 33 #[.val (.ref f), .val (.int it), .val (.long ct), .second, .val (.int (gs (it.toNatClampNeg)))] [(.long ct)]) (fun _ k => XT.lloadN X3.here hx rfl (hb hby dr2_32) rfl k) ?_
  refine Go.st (mkF m 34 #[.val (.ref f), .val (.int it), .val (.long ct), .second, .val (.int (gs (it.toNatClampNeg)))] [(.ref f), (.long ct)]) (fun _ k => XS.aloadN X3.here hx rfl (hb hby dr2_33) rfl rfl k) ?_
  obtain ⟨T4, X4, e4, st4⟩ := getF X3 hx hZ hown (host := "") (Or.inl (hw _ (List.mem_of_getElem? (i := 14) rfl))) Via.refl e3 pr8 (g := (mkF m 34 #[.val (.ref f), .val (.int it), .val (.long ct), .second, .val (.int (gs (it.toNatClampNeg)))] [(.ref f), (.long ct)])) rfl rfl (hb hby dr2_34)
  refine Go.st (mkF m 37 #[.val (.ref f), .val (.int it), .val (.long ct), .second, .val (.int (gs (it.toNatClampNeg)))] [(.ref hc), (.long ct)]) (fun _ k => st4 _ k) ?_
  refine Go.st (mkF m 39 #[.val (.ref f), .val (.int it), .val (.long ct), .second, .val (.int (gs (it.toNatClampNeg)))] [(.int (gs (it.toNatClampNeg))), (.ref hc), (.long ct)]) (fun _ k => XS.iload X4.here hx rfl (hb hby dr2_37) rfl k) ?_
  refine Go.st (mkF m 40 #[.val (.ref f), .val (.int it), .val (.long ct), .second, .val (.int (gs (it.toNatClampNeg)))] [(.int (-1 : Int32)), (.int (gs (it.toNatClampNeg))), (.ref hc), (.long ct)]) (fun _ k => XS.iconst X4.here hx rfl (hb hby dr2_39) k) ?_
  refine Go.st (mkF m 41 #[.val (.ref f), .val (.int it), .val (.long ct), .second, .val (.int (gs (it.toNatClampNeg)))] [(.int ((gs (it.toNatClampNeg)) ^^^ (-1 : Int32))), (.ref hc), (.long ct)]) (fun _ k => XT.ixor X4.here hx rfl (hb hby dr2_40) rfl k) ?_
  refine Go.st (mkF m 42 #[.val (.ref f), .val (.int it), .val (.long ct), .second, .val (.int (gs (it.toNatClampNeg)))] [(.long (gc 0)), (.long ct)]) (fun _ k => ldJ X4 hx hZ e4 pr12 (i := 0) (own_x0 pr16).1 (own_x0 pr16).2 (by decide) (v := (.long (gc 0))) rfl (g := (mkF m 41 #[.val (.ref f), .val (.int it), .val (.long ct), .second, .val (.int (gs (it.toNatClampNeg)))] [(.int ((gs (it.toNatClampNeg)) ^^^ (-1 : Int32))), (.ref hc), (.long ct)])) rfl rfl (hb hby dr2_41) _ k) ?_
  refine Go.st (mkF m 43 #[.val (.ref f), .val (.int it), .val (.long ct), .second, .val (.int (gs (it.toNatClampNeg)))] [(.int (cmpL ct (gc 0)))]) (fun _ k => XT.lcmp X4.here hx rfl (hb hby dr2_42) rfl k) ?_
  refine Go.st (mkF m 176 #[.val (.ref f), .val (.int it), .val (.long ct), .second, .val (.int (gs (it.toNatClampNeg)))] []) (fun _ k => XS.ifYes X4.here hx rfl (pc0 := 43) (pc' := 176) rfl (hb hby dr2_43) rfl (own_llF pr17).2 (by decide) (by decide) k) ?_
  exact Go.retV X4 hx Bd.notSynchronized Bd.returns (hb hby dr2_176) ⟨rfl, N0, e4⟩ (by decide) (by decide)
theorem dr3_0 : decode prog_12_method_3_code 0 = .ok (.aload_n 0, 1) := by decide +kernel
theorem dr3_1 : decode prog_12_method_3_code 1 = .ok (.getfield 20, 3) := by decide +kernel
theorem dr3_4 : decode prog_12_method_3_code 4 = .ok (.iload_n 1, 1) := by decide +kernel
theorem dr3_5 : decode prog_12_method_3_code 5 = .ok (.iaload, 1) := by decide +kernel
theorem dr3_6 : decode prog_12_method_3_code 6 = .ok (.istore 4, 2) := by decide +kernel
theorem dr3_8 : decode prog_12_method_3_code 8 = .ok (.lload_n 2, 1) := by decide +kernel
theorem dr3_9 : decode prog_12_method_3_code 9 = .ok (.aload_n 0, 1) := by decide +kernel
theorem dr3_10 : decode prog_12_method_3_code 10 = .ok (.getfield 23, 3) := by decide +kernel
theorem dr3_13 : decode prog_12_method_3_code 13 = .ok (.lcmp, 1) := by decide +kernel
theorem dr3_14 : decode prog_12_method_3_code 14 = .ok (.ifCond .gt 12, 3) := by decide +kernel
theorem dr3_17 : decode prog_12_method_3_code 17 = .ok (.iload 4, 2) := by decide +kernel
theorem dr3_19 : decode prog_12_method_3_code 19 = .ok (.aload_n 0, 1) := by decide +kernel
theorem dr3_20 : decode prog_12_method_3_code 20 = .ok (.getfield 40, 3) := by decide +kernel
theorem dr3_23 : decode prog_12_method_3_code 23 = .ok (.if_icmp .ne 4, 3) := by decide +kernel
theorem dr3_27 : decode prog_12_method_3_code 27 = .ok (.iload 4, 2) := by decide +kernel
theorem dr3_29 : decode prog_12_method_3_code 29 = .ok (.ifCond .ge 30, 3) := by decide +kernel
theorem dr3_32 : decode prog_12_method_3_code 32 = .ok (.lload_n 2, 1) := by decide +kernel
theorem dr3_33 : decode prog_12_method_3_code 33 = .ok (.aload_n 0, 1) := by decide +kernel
theorem dr3_34 : decode prog_12_method_3_code 34 = .ok (.getfield 13, 3) := by decide +kernel
theorem dr3_37 : decode prog_12_method_3_code 37 = .ok (.iload 4, 2) := by decide +kernel
theorem dr3_39 : decode prog_12_method_3_code 39 = .ok (.iconst (-1), 1) := by decide +kernel
theorem dr3_40 : decode prog_12_method_3_code 40 = .ok (.ixor, 1) := by decide +kernel
theorem dr3_41 : decode prog_12_method_3_code 41 = .ok (.laload, 1) := by decide +kernel
theorem dr3_42 : decode prog_12_method_3_code 42 = .ok (.lcmp, 1) := by decide +kernel
theorem dr3_43 : decode prog_12_method_3_code 43 = .ok (.ifCond .ge 133, 3) := by decide +kernel
theorem dr3_46 : decode prog_12_method_3_code 46 = .ok (.aload_n 0, 1) := by decide +kernel
theorem dr3_47 : decode prog_12_method_3_code 47 = .ok (.iload_n 1, 1) := by decide +kernel
theorem dr3_48 : decode prog_12_method_3_code 48 = .ok (.lload_n 2, 1) := by decide +kernel
theorem dr3_49 : decode prog_12_method_3_code 49 = .ok (.iload 4, 2) := by decide +kernel
theorem dr3_51 : decode prog_12_method_3_code 51 = .ok (.iconst (-1), 1) := by decide +kernel
theorem dr3_52 : decode prog_12_method_3_code 52 = .ok (.ixor, 1) := by decide +kernel
theorem dr3_53 : decode prog_12_method_3_code 53 = .ok (.invokevirtual 43, 3) := by decide +kernel
theorem dr3_56 : decode prog_12_method_3_code 56 = .ok (.goto 120, 3) := by decide +kernel
theorem dr3_176 : decode prog_12_method_3_code 176 = .ok (.return_, 1) := by decide +kernel
theorem ef_r3 (m : MethodId) (f : Addr) (it : Int32) (ct : Int64) : entryFrame m #[(.ref f), (.int it), (.long ct)] 5 = (mkF m 0 #[.val (.ref f), .val (.int it), .val (.long ct), .second, .unset] []) := by first | (simp [entryFrame, mkF, argsToLocals, Value.category]; done) | rfl
def Q_r3 (Z : State) (f : Addr) (it : Int32) (ct : Int64) (lv : Addr) (hc : Addr) (hi : Addr) (sn : Addr) (vS : Int32) (vc : Int64) (lh : Int32) (lt : Int32) (hs : Int32) (gc : Nat → Int64) (gi : Nat → Int32) (gs : Nat → Int32) (h0 : Heap) (n0 : Nat) (vv : Option Value) (hE : Heap) (LE : List Loc) : Prop := vv = none ∧ Fr n0 LE ∧ Keep h0 hE [hc, hi, sn] ∧ Ary Z hE hc .long 16 (lts (updJ gc 0 ct)) ∧ Ary Z hE hi .int 16 (bts (updI gi 0 it)) ∧ Ary Z hE sn .int 4 (bts (updI gs (it.toNatClampNeg) (-1 : Int32)))
set_option maxRecDepth 65536 in
set_option maxHeartbeats 40000000 in
theorem rm_r3 (l : Launch) (Z : State) (a0 : Array Value) (hw : ∀ d ∈ tables_1, d.before a0 Z = true) (ws : List Jvm.Cond) (f : Addr) (it : Int32) (ct : Int64) (lv : Addr) (hc : Addr) (hi : Addr) (sn : Addr) (vS : Int32) (vc : Int64) (lh : Int32) (lt : Int32) (hs : Int32) (gc : Nat → Int64) (gi : Nat → Int32) (gs : Nat → Int32) (h0 : Heap) (n0 : Nat) (Z0 : n0 ≤ h0.size) (pr0 : Exa Z h0 f "com/example/nearpath/nearpath/answer/Frontier") (pr1 : Fld Z h0 f "com/example/nearpath/nearpath/answer/Frontier" "seen" "[I" (.ref sn)) (pr2 : Fld Z h0 f "com/example/nearpath/nearpath/answer/Frontier" "maxCost" "J" (.long (3 : Int64))) (pr3 : Fld Z h0 f "com/example/nearpath/nearpath/answer/Frontier" "search" "I" (.int vS)) (pr4 : Fld Z h0 f "com/example/nearpath/nearpath/answer/Frontier" "cost" "J" (.long vc)) (pr5 : Fld Z h0 f "com/example/nearpath/nearpath/answer/Frontier" "level" "[I" (.ref lv)) (pr6 : Fld Z h0 f "com/example/nearpath/nearpath/answer/Frontier" "levelHead" "I" (.int lh)) (pr7 : Fld Z h0 f "com/example/nearpath/nearpath/answer/Frontier" "levelTail" "I" (.int lt)) (pr8 : Fld Z h0 f "com/example/nearpath/nearpath/answer/Frontier" "heapCosts" "[J" (.ref hc)) (pr9 : Fld Z h0 f "com/example/nearpath/nearpath/answer/Frontier" "heapItems" "[I" (.ref hi)) (pr10 : Fld Z h0 f "com/example/nearpath/nearpath/answer/Frontier" "heapSize" "I" (.int hs)) (pr11 : Ary Z h0 sn .int 4 (bts gs)) (pr12 : Ary Z h0 hc .long 16 (lts gc)) (pr13 : Ary Z h0 hi .int 16 (bts gi)) (pr14 : In4 it) (pr15 : ¬ (3 : Int64) < ct) (pr16 : ¬ (gs (it.toNatClampNeg)) = vS) (pr17 : (gs (it.toNatClampNeg)) = (-1 : Int32)) (pr18 : ct < (gc 0)) (pr19 : n0 ≤ hc) (pr20 : n0 ≤ hi) (pr21 : n0 ≤ sn) (pr22 : f ≠ hc) (pr23 : f ≠ hi) (pr24 : f ≠ sn) (pr25 : hc ≠ hi) (pr26 : hc ≠ sn) (pr27 : hi ≠ sn) :
    MetFree l (⟨"com/example/nearpath/nearpath/answer/Frontier", "reach", "(IJ)V"⟩ : MethodName) (head1 (Jvm.Cond.code (⟨"com/example/nearpath/nearpath/answer/Frontier", "reach", "(IJ)V"⟩ : MethodName) prog_12_method_3_code 5 none :: ws) ({ frames := 2, cells := 0, slots := 0, locals := 32 } : Room)) (fun aa UU => aa = #[(.ref f), (.int it), (.long ct)] ∧ Z.Warmed39 UU.vm ∧ UU.heap = h0) (fun _ _ _ _ _ => True) (fun _ UU oo UU' => ∃ vv LL, oo = .returned vv ∧ Q_r3 Z f it ct lv hc hi sn vS vc lh lt hs gc gi gs h0 n0 vv UU'.heap LL ∧ FrameEnd UU oo UU' LL ({ frames := 2, cells := 0, slots := 0, locals := 32 } : Room).cells ({ frames := 2, cells := 0, slots := 0, locals := 32 } : Room).slots) := by
  refine MetFree.of_bodySF (plainFor_of_name pn_0) hisR ?_
  intro p e s m args below meth c s₁ Bd hml0 hP hK
  obtain ⟨rfl, hZ, hh⟩ := hP
  have hx := Bd.exec
  have hby := Bd.bytes
  have hml : c.maxLocals = 5 := hml0
  have hown : s.vm.findClass "com/example/nearpath/nearpath/answer/Frontier" = some m.cls := findClass_of_methodNamed Bd.named
  have hnm := (name_of_methodNamed Bd.named Bd.method).1
  have X0 : Stand p l e ({ frames := 2, cells := 0, slots := 0, locals := 32 } : Room) s m #[(.ref f), (.int it), (.long ct)] below meth c s₁ [] 0 0 := Stand.of_body Bd
  have e0 : s₁.heap = h0 := by rw [← hh, Bd.state]; rfl
  have N0 := Fr.nil n0
  have K0 := Keep.refl h0 [hc, hi, sn]
  show Go p e below s (Q_r3 Z f it ct lv hc hi sn vS vc lh lt hs gc gi gs h0 n0) 0 0 s₁ (entryFrame m #[(.ref f), (.int it), (.long ct)] 5)
  refine Go.of_eq (ef_r3 m f it ct) ?_
  refine Go.st (mkF m 1 #[.val (.ref f), .val (.int it), .val (.long ct), .second, .unset] [(.ref f)]) (fun _ k => XS.aloadN X0.here hx rfl (hb hby dr3_0) rfl rfl k) ?_
  obtain ⟨T1, X1, e1, st1⟩ := getF X0 hx hZ hown (host := "") (Or.inl (hw _ (List.mem_of_getElem? (i := 18) rfl))) Via.refl e0 pr1 (g := (mkF m 1 #[.val (.ref f), .val (.int it), .val (.long ct), .second, .unset] [(.ref f)])) rfl rfl (hb hby dr3_1)
  refine Go.st (mkF m 4 #[.val (.ref f), .val (.int it), .val (.long ct), .second, .unset] [(.ref sn)]) (fun _ k => st1 _ k) ?_
  refine Go.st (mkF m 5 #[.val (.ref f), .val (.int it), .val (.long ct), .second, .unset] [(.int it), (.ref sn)]) (fun _ k => XS.iloadN X1.here hx rfl (hb hby dr3_4) rfl k) ?_
  refine Go.st (mkF m 6 #[.val (.ref f), .val (.int it), .val (.long ct), .second, .unset] [(.int (gs (it.toNatClampNeg)))]) (fun _ k => ldI X1 hx hZ e1 pr11 (i := it.toNatClampNeg) (own_in4 pr14).1 rfl (own_in4 pr14).2 (v := (.int (gs (it.toNatClampNeg)))) rfl (g := (mkF m 5 #[.val (.ref f), .val (.int it), .val (.long ct), .second, .unset] [(.int it), (.ref sn)])) rfl rfl (hb hby dr3_5) _ k) ?_
  refine Go.st (mkF m 8 #[.val (.ref f), .val (.int it), .val (.long ct), .second, .val (.int (gs (it.toNatClampNeg)))] []) (fun _ k => XS.istore X1.here hx rfl (hb hby dr3_6) rfl (l' := #[.val (.ref f), .val (.int it), .val (.long ct), .second, .val (.int (gs (it.toNatClampNeg)))]) rfl k) ?_
  refine Go.st (mkF m 9 #[.val (.ref f), .val (.int it), .val (.long ct), .second, .val (.int (gs (it.toNatClampNeg)))] [(.long ct)]) (fun _ k => XT.lloadN X1.here hx rfl (hb hby dr3_8) rfl k) ?_
  refine Go.st (mkF m 10 #[.val (.ref f), .val (.int it), .val (.long ct), .second, .val (.int (gs (it.toNatClampNeg)))] [(.ref f), (.long ct)]) (fun _ k => XS.aloadN X1.here hx rfl (hb hby dr3_9) rfl rfl k) ?_
  obtain ⟨T2, X2, e2, st2⟩ := getF X1 hx hZ hown (host := "") (Or.inl (hw _ (List.mem_of_getElem? (i := 20) rfl))) Via.refl e1 pr2 (g := (mkF m 10 #[.val (.ref f), .val (.int it), .val (.long ct), .second, .val (.int (gs (it.toNatClampNeg)))] [(.ref f), (.long ct)])) rfl rfl (hb hby dr3_10)
  refine Go.st (mkF m 13 #[.val (.ref f), .val (.int it), .val (.long ct), .second, .val (.int (gs (it.toNatClampNeg)))] [(.long (3 : Int64)), (.long ct)]) (fun _ k => st2 _ k) ?_
  refine Go.st (mkF m 14 #[.val (.ref f), .val (.int it), .val (.long ct), .second, .val (.int (gs (it.toNatClampNeg)))] [(.int (cmpL ct (3 : Int64)))]) (fun _ k => XT.lcmp X2.here hx rfl (hb hby dr3_13) rfl k) ?_
  refine Go.st (mkF m 17 #[.val (.ref f), .val (.int it), .val (.long ct), .second, .val (.int (gs (it.toNatClampNeg)))] []) (fun _ k => XS.ifNo X2.here hx rfl (hb hby dr3_14) rfl (own_lgF pr15).1 k) ?_
  refine Go.st (mkF m 19 #[.val (.ref f), .val (.int it), .val (.long ct), .second, .val (.int (gs (it.toNatClampNeg)))] [(.int (gs (it.toNatClampNeg)))]) (fun _ k => XS.iload X2.here hx rfl (hb hby dr3_17) rfl k) ?_
  refine Go.st (mkF m 20 #[.val (.ref f), .val (.int it), .val (.long ct), .second, .val (.int (gs (it.toNatClampNeg)))] [(.ref f), (.int (gs (it.toNatClampNeg)))]) (fun _ k => XS.aloadN X2.here hx rfl (hb hby dr3_19) rfl rfl k) ?_
  obtain ⟨T3, X3, e3, st3⟩ := getF X2 hx hZ hown (host := "") (Or.inl (hw _ (List.mem_of_getElem? (i := 35) rfl))) Via.refl e2 pr3 (g := (mkF m 20 #[.val (.ref f), .val (.int it), .val (.long ct), .second, .val (.int (gs (it.toNatClampNeg)))] [(.ref f), (.int (gs (it.toNatClampNeg)))])) rfl rfl (hb hby dr3_20)
  refine Go.st (mkF m 23 #[.val (.ref f), .val (.int it), .val (.long ct), .second, .val (.int (gs (it.toNatClampNeg)))] [(.int vS), (.int (gs (it.toNatClampNeg)))]) (fun _ k => st3 _ k) ?_
  refine Go.st (mkF m 27 #[.val (.ref f), .val (.int it), .val (.long ct), .second, .val (.int (gs (it.toNatClampNeg)))] []) (fun _ k => XS.icmpYes X3.here hx rfl (pc0 := 23) (pc' := 27) rfl (hb hby dr3_23) rfl (feq pr16).2 (by decide) (by decide) k) ?_
  refine Go.st (mkF m 29 #[.val (.ref f), .val (.int it), .val (.long ct), .second, .val (.int (gs (it.toNatClampNeg)))] [(.int (gs (it.toNatClampNeg)))]) (fun _ k => XS.iload X3.here hx rfl (hb hby dr3_27) rfl k) ?_
  refine Go.st (mkF m 32 #[.val (.ref f), .val (.int it), .val (.long ct), .second, .val (.int (gs (it.toNatClampNeg)))] []) (fun _ k => XS.ifNo X3.here hx rfl (hb hby dr3_29) rfl ((if0 _ _).trans (tlt (own_neg pr17)).2.1) k) ?_
  refine Go.st (mkF m 33 #[.val (.ref f), .val (.int it), .val (.long ct), .second, .val (.int (gs (it.toNatClampNeg)))] [(.long ct)]) (fun _ k => XT.lloadN X3.here hx rfl (hb hby dr3_32) rfl k) ?_
  refine Go.st (mkF m 34 #[.val (.ref f), .val (.int it), .val (.long ct), .second, .val (.int (gs (it.toNatClampNeg)))] [(.ref f), (.long ct)]) (fun _ k => XS.aloadN X3.here hx rfl (hb hby dr3_33) rfl rfl k) ?_
  obtain ⟨T4, X4, e4, st4⟩ := getF X3 hx hZ hown (host := "") (Or.inl (hw _ (List.mem_of_getElem? (i := 14) rfl))) Via.refl e3 pr8 (g := (mkF m 34 #[.val (.ref f), .val (.int it), .val (.long ct), .second, .val (.int (gs (it.toNatClampNeg)))] [(.ref f), (.long ct)])) rfl rfl (hb hby dr3_34)
  refine Go.st (mkF m 37 #[.val (.ref f), .val (.int it), .val (.long ct), .second, .val (.int (gs (it.toNatClampNeg)))] [(.ref hc), (.long ct)]) (fun _ k => st4 _ k) ?_
  refine Go.st (mkF m 39 #[.val (.ref f), .val (.int it), .val (.long ct), .second, .val (.int (gs (it.toNatClampNeg)))] [(.int (gs (it.toNatClampNeg))), (.ref hc), (.long ct)]) (fun _ k => XS.iload X4.here hx rfl (hb hby dr3_37) rfl k) ?_
  refine Go.st (mkF m 40 #[.val (.ref f), .val (.int it), .val (.long ct), .second, .val (.int (gs (it.toNatClampNeg)))] [(.int (-1 : Int32)), (.int (gs (it.toNatClampNeg))), (.ref hc), (.long ct)]) (fun _ k => XS.iconst X4.here hx rfl (hb hby dr3_39) k) ?_
  refine Go.st (mkF m 41 #[.val (.ref f), .val (.int it), .val (.long ct), .second, .val (.int (gs (it.toNatClampNeg)))] [(.int ((gs (it.toNatClampNeg)) ^^^ (-1 : Int32))), (.ref hc), (.long ct)]) (fun _ k => XT.ixor X4.here hx rfl (hb hby dr3_40) rfl k) ?_
  refine Go.st (mkF m 42 #[.val (.ref f), .val (.int it), .val (.long ct), .second, .val (.int (gs (it.toNatClampNeg)))] [(.long (gc 0)), (.long ct)]) (fun _ k => ldJ X4 hx hZ e4 pr12 (i := 0) (own_x0 pr17).1 (own_x0 pr17).2 (by decide) (v := (.long (gc 0))) rfl (g := (mkF m 41 #[.val (.ref f), .val (.int it), .val (.long ct), .second, .val (.int (gs (it.toNatClampNeg)))] [(.int ((gs (it.toNatClampNeg)) ^^^ (-1 : Int32))), (.ref hc), (.long ct)])) rfl rfl (hb hby dr3_41) _ k) ?_
  refine Go.st (mkF m 43 #[.val (.ref f), .val (.int it), .val (.long ct), .second, .val (.int (gs (it.toNatClampNeg)))] [(.int (cmpL ct (gc 0)))]) (fun _ k => XT.lcmp X4.here hx rfl (hb hby dr3_42) rfl k) ?_
  refine Go.st (mkF m 46 #[.val (.ref f), .val (.int it), .val (.long ct), .second, .val (.int (gs (it.toNatClampNeg)))] []) (fun _ k => XS.ifNo X4.here hx rfl (hb hby dr3_43) rfl (own_llT pr18).2 k) ?_
  refine Go.st (mkF m 47 #[.val (.ref f), .val (.int it), .val (.long ct), .second, .val (.int (gs (it.toNatClampNeg)))] [(.ref f)]) (fun _ k => XS.aloadN X4.here hx rfl (hb hby dr3_46) rfl rfl k) ?_
  refine Go.st (mkF m 48 #[.val (.ref f), .val (.int it), .val (.long ct), .second, .val (.int (gs (it.toNatClampNeg)))] [(.int it), (.ref f)]) (fun _ k => XS.iloadN X4.here hx rfl (hb hby dr3_47) rfl k) ?_
  refine Go.st (mkF m 49 #[.val (.ref f), .val (.int it), .val (.long ct), .second, .val (.int (gs (it.toNatClampNeg)))] [(.long ct), (.int it), (.ref f)]) (fun _ k => XT.lloadN X4.here hx rfl (hb hby dr3_48) rfl k) ?_
  refine Go.st (mkF m 51 #[.val (.ref f), .val (.int it), .val (.long ct), .second, .val (.int (gs (it.toNatClampNeg)))] [(.int (gs (it.toNatClampNeg))), (.long ct), (.int it), (.ref f)]) (fun _ k => XS.iload X4.here hx rfl (hb hby dr3_49) rfl k) ?_
  refine Go.st (mkF m 52 #[.val (.ref f), .val (.int it), .val (.long ct), .second, .val (.int (gs (it.toNatClampNeg)))] [(.int (-1 : Int32)), (.int (gs (it.toNatClampNeg))), (.long ct), (.int it), (.ref f)]) (fun _ k => XS.iconst X4.here hx rfl (hb hby dr3_51) k) ?_
  refine Go.st (mkF m 53 #[.val (.ref f), .val (.int it), .val (.long ct), .second, .val (.int (gs (it.toNatClampNeg)))] [(.int ((gs (it.toNatClampNeg)) ^^^ (-1 : Int32))), (.long ct), (.int it), (.ref f)]) (fun _ k => XT.ixor X4.here hx rfl (hb hby dr3_52) rfl k) ?_
  rw [show ((gs (it.toNatClampNeg)) ^^^ (-1 : Int32)) = (0 : Int32) from own_xz pr17]
  obtain ⟨cq5, q5a, q5b⟩ := pr0.cell
  have sl5 := selI (args := #[(.ref f), (.int it), (.long ct)]) hZ (hw _ (List.mem_of_getElem? (i := 1) rfl)) (hw _ (List.mem_of_getElem? (i := 57) rfl)) (hw _ (List.mem_of_getElem? (i := 56) rfl)) (by decide)
  obtain ⟨_, _, ⟨T5, L5, k5, n5⟩, -, X5, ⟨Lc5, hQ5, l5, y5, z5⟩, st5⟩ := X4.privateBack hx (y := (⟨"com/example/nearpath/nearpath/answer/Frontier", "siftUp", "(IJI)V"⟩ : MethodName)) hown (mvT hZ (hw _ (List.mem_of_getElem? (i := 55) rfl))) (mvT hZ (hw _ (List.mem_of_getElem? (i := 56) rfl))) sl5.1 sl5.2 (mvT hZ (hw _ (List.mem_of_getElem? (i := 58) rfl))) (by decide) (backOf (W := 0) (rm_su0 l Z a0 hw [] f it ct hc hi sn gc gi gs h0 n0 (Nat.le_trans Z0 K0.1) pr0 pr1 pr8 pr9 pr12 pr13 pr11 (by first | assumption | decide) pr19 pr20 pr21 pr22 pr23 pr24 pr25 pr26 pr27) hZ (hw _ (List.mem_of_getElem? (i := 58) rfl)) (hw _ (List.mem_of_getElem? (i := 2) rfl)) (by decide) (by decide)) (g := (mkF m 53 #[.val (.ref f), .val (.int it), .val (.long ct), .second, .val (.int (gs (it.toNatClampNeg)))] [(.int (0 : Int32)), (.long ct), (.int it), (.ref f)])) rfl (by rw [hml]; rfl) (Steps.refl _) (a := f) (by rw [e4]; exact q5a) q5b (argsL := [(.int it), (.long ct), (.int (0 : Int32))]) (rest := []) (lenOf pd_0 rfl) rfl (by show 2 * 0 + _ ≤ _; exact Nat.le_of_eq rfl) (hb hby dr3_53) (fun _ _ => ⟨rfl, e4, (by decide : 0 + 0 ≤ _), (by decide : 0 + 0 ≤ _)⟩)
  dsimp only [Pt.U, Pt.locs, Pt.cells, Pt.slots] at X5 l5 y5 z5 st5 hQ5
  subst l5 y5 z5
  obtain ⟨rfl, N5q, K5q, V5_0, V5_1, V5_2⟩ := hQ5
  have N5 := Fr.app N0 N5q
  have E6q : Exa Z T5.heap f "com/example/nearpath/nearpath/answer/Frontier" := pr0.keep K5q
  have F7 : Fld Z T5.heap f "com/example/nearpath/nearpath/answer/Frontier" "seen" "[I" (.ref sn) := pr1.keep K5q (ninS pr22 (ninS pr23 (ninS pr24 nin0)))
  have F8 : Fld Z T5.heap f "com/example/nearpath/nearpath/answer/Frontier" "maxCost" "J" (.long (3 : Int64)) := pr2.keep K5q (ninS pr22 (ninS pr23 (ninS pr24 nin0)))
  have F9 : Fld Z T5.heap f "com/example/nearpath/nearpath/answer/Frontier" "search" "I" (.int vS) := pr3.keep K5q (ninS pr22 (ninS pr23 (ninS pr24 nin0)))
  have F10 : Fld Z T5.heap f "com/example/nearpath/nearpath/answer/Frontier" "cost" "J" (.long vc) := pr4.keep K5q (ninS pr22 (ninS pr23 (ninS pr24 nin0)))
  have F11 : Fld Z T5.heap f "com/example/nearpath/nearpath/answer/Frontier" "level" "[I" (.ref lv) := pr5.keep K5q (ninS pr22 (ninS pr23 (ninS pr24 nin0)))
  have F12 : Fld Z T5.heap f "com/example/nearpath/nearpath/answer/Frontier" "levelHead" "I" (.int lh) := pr6.keep K5q (ninS pr22 (ninS pr23 (ninS pr24 nin0)))
  have F13 : Fld Z T5.heap f "com/example/nearpath/nearpath/answer/Frontier" "levelTail" "I" (.int lt) := pr7.keep K5q (ninS pr22 (ninS pr23 (ninS pr24 nin0)))
  have F14 : Fld Z T5.heap f "com/example/nearpath/nearpath/answer/Frontier" "heapCosts" "[J" (.ref hc) := pr8.keep K5q (ninS pr22 (ninS pr23 (ninS pr24 nin0)))
  have F15 : Fld Z T5.heap f "com/example/nearpath/nearpath/answer/Frontier" "heapItems" "[I" (.ref hi) := pr9.keep K5q (ninS pr22 (ninS pr23 (ninS pr24 nin0)))
  have F16 : Fld Z T5.heap f "com/example/nearpath/nearpath/answer/Frontier" "heapSize" "I" (.int hs) := pr10.keep K5q (ninS pr22 (ninS pr23 (ninS pr24 nin0)))
  have K5 : Keep h0 T5.heap [hc, hi, sn] := K0.trans K5q (allS (Or.inl (by simp)) (allS (Or.inl (by simp)) (allS (Or.inl (by simp)) all0)))
  refine Go.st (mkF m 56 #[.val (.ref f), .val (.int it), .val (.long ct), .second, .val (.int (gs (it.toNatClampNeg)))] []) (fun _ k => st5.trans k) ?_
  refine Go.st (mkF m 176 #[.val (.ref f), .val (.int it), .val (.long ct), .second, .val (.int (gs (it.toNatClampNeg)))] []) (fun _ k => XS.goto X5.here hx rfl (pc0 := 56) (pc' := 176) rfl (hb hby dr3_56) (by decide) (by decide) k) ?_
  exact Go.retV X5 hx Bd.notSynchronized Bd.returns (hb hby dr3_176) ⟨rfl, N5, K5, V5_0, V5_1, V5_2⟩ (by decide) (by decide)
theorem pd_2 : parseMethodDescriptor "([II)[I" = some ⟨[(.array .int), .int], some (.array .int)⟩ := by decide +kernel
theorem dr40_0 : decode prog_12_method_3_code 0 = .ok (.aload_n 0, 1) := by decide +kernel
theorem dr40_1 : decode prog_12_method_3_code 1 = .ok (.getfield 20, 3) := by decide +kernel
theorem dr40_4 : decode prog_12_method_3_code 4 = .ok (.iload_n 1, 1) := by decide +kernel
theorem dr40_5 : decode prog_12_method_3_code 5 = .ok (.iaload, 1) := by decide +kernel
theorem dr40_6 : decode prog_12_method_3_code 6 = .ok (.istore 4, 2) := by decide +kernel
theorem dr40_8 : decode prog_12_method_3_code 8 = .ok (.lload_n 2, 1) := by decide +kernel
theorem dr40_9 : decode prog_12_method_3_code 9 = .ok (.aload_n 0, 1) := by decide +kernel
theorem dr40_10 : decode prog_12_method_3_code 10 = .ok (.getfield 23, 3) := by decide +kernel
theorem dr40_13 : decode prog_12_method_3_code 13 = .ok (.lcmp, 1) := by decide +kernel
theorem dr40_14 : decode prog_12_method_3_code 14 = .ok (.ifCond .gt 12, 3) := by decide +kernel
theorem dr40_17 : decode prog_12_method_3_code 17 = .ok (.iload 4, 2) := by decide +kernel
theorem dr40_19 : decode prog_12_method_3_code 19 = .ok (.aload_n 0, 1) := by decide +kernel
theorem dr40_20 : decode prog_12_method_3_code 20 = .ok (.getfield 40, 3) := by decide +kernel
theorem dr40_23 : decode prog_12_method_3_code 23 = .ok (.if_icmp .ne 4, 3) := by decide +kernel
theorem dr40_27 : decode prog_12_method_3_code 27 = .ok (.iload 4, 2) := by decide +kernel
theorem dr40_29 : decode prog_12_method_3_code 29 = .ok (.ifCond .ge 30, 3) := by decide +kernel
theorem dr40_59 : decode prog_12_method_3_code 59 = .ok (.lload_n 2, 1) := by decide +kernel
theorem dr40_60 : decode prog_12_method_3_code 60 = .ok (.aload_n 0, 1) := by decide +kernel
theorem dr40_61 : decode prog_12_method_3_code 61 = .ok (.getfield 37, 3) := by decide +kernel
theorem dr40_64 : decode prog_12_method_3_code 64 = .ok (.lcmp, 1) := by decide +kernel
theorem dr40_65 : decode prog_12_method_3_code 65 = .ok (.ifCond .ne 48, 3) := by decide +kernel
theorem dr40_68 : decode prog_12_method_3_code 68 = .ok (.aload_n 0, 1) := by decide +kernel
theorem dr40_69 : decode prog_12_method_3_code 69 = .ok (.getfield 20, 3) := by decide +kernel
theorem dr40_72 : decode prog_12_method_3_code 72 = .ok (.iload_n 1, 1) := by decide +kernel
theorem dr40_73 : decode prog_12_method_3_code 73 = .ok (.aload_n 0, 1) := by decide +kernel
theorem dr40_74 : decode prog_12_method_3_code 74 = .ok (.getfield 40, 3) := by decide +kernel
theorem dr40_77 : decode prog_12_method_3_code 77 = .ok (.iastore, 1) := by decide +kernel
theorem dr40_78 : decode prog_12_method_3_code 78 = .ok (.aload_n 0, 1) := by decide +kernel
theorem dr40_79 : decode prog_12_method_3_code 79 = .ok (.aload_n 0, 1) := by decide +kernel
theorem dr40_80 : decode prog_12_method_3_code 80 = .ok (.getfield 7, 3) := by decide +kernel
theorem dr40_83 : decode prog_12_method_3_code 83 = .ok (.aload_n 0, 1) := by decide +kernel
theorem dr40_84 : decode prog_12_method_3_code 84 = .ok (.getfield 34, 3) := by decide +kernel
theorem dr40_87 : decode prog_12_method_3_code 87 = .ok (.invokestatic 47, 3) := by decide +kernel
theorem dr40_90 : decode prog_12_method_3_code 90 = .ok (.putfield 7, 3) := by decide +kernel
theorem dr40_93 : decode prog_12_method_3_code 93 = .ok (.aload_n 0, 1) := by decide +kernel
theorem dr40_94 : decode prog_12_method_3_code 94 = .ok (.getfield 7, 3) := by decide +kernel
theorem dr40_97 : decode prog_12_method_3_code 97 = .ok (.aload_n 0, 1) := by decide +kernel
theorem dr40_98 : decode prog_12_method_3_code 98 = .ok (.dup, 1) := by decide +kernel
theorem dr40_99 : decode prog_12_method_3_code 99 = .ok (.getfield 34, 3) := by decide +kernel
theorem dr40_102 : decode prog_12_method_3_code 102 = .ok (.dup_x1, 1) := by decide +kernel
theorem dr40_103 : decode prog_12_method_3_code 103 = .ok (.iconst 1, 1) := by decide +kernel
theorem dr40_104 : decode prog_12_method_3_code 104 = .ok (.iadd, 1) := by decide +kernel
theorem dr40_105 : decode prog_12_method_3_code 105 = .ok (.putfield 34, 3) := by decide +kernel
theorem dr40_108 : decode prog_12_method_3_code 108 = .ok (.iload_n 1, 1) := by decide +kernel
theorem dr40_109 : decode prog_12_method_3_code 109 = .ok (.iastore, 1) := by decide +kernel
theorem dr40_110 : decode prog_12_method_3_code 110 = .ok (.goto 66, 3) := by decide +kernel
theorem dr40_176 : decode prog_12_method_3_code 176 = .ok (.return_, 1) := by decide +kernel
theorem ef_r40 (m : MethodId) (f : Addr) (it : Int32) (ct : Int64) : entryFrame m #[(.ref f), (.int it), (.long ct)] 5 = (mkF m 0 #[.val (.ref f), .val (.int it), .val (.long ct), .second, .unset] []) := by first | (simp [entryFrame, mkF, argsToLocals, Value.category]; done) | rfl
def Q_r40 (Z : State) (f : Addr) (it : Int32) (ct : Int64) (lv : Addr) (hc : Addr) (hi : Addr) (sn : Addr) (vS : Int32) (vc : Int64) (lh : Int32) (hs : Int32) (gl : Nat → Int32) (gs : Nat → Int32) (h0 : Heap) (n0 : Nat) (vv : Option Value) (hE : Heap) (LE : List Loc) : Prop := vv = none ∧ Fr n0 LE ∧ Keep h0 hE [f, lv, sn] ∧ Fld Z hE f "com/example/nearpath/nearpath/answer/Frontier" "seen" "[I" (.ref sn) ∧ Fld Z hE f "com/example/nearpath/nearpath/answer/Frontier" "maxCost" "J" (.long (3 : Int64)) ∧ Fld Z hE f "com/example/nearpath/nearpath/answer/Frontier" "search" "I" (.int vS) ∧ Fld Z hE f "com/example/nearpath/nearpath/answer/Frontier" "cost" "J" (.long vc) ∧ Fld Z hE f "com/example/nearpath/nearpath/answer/Frontier" "level" "[I" (.ref lv) ∧ Fld Z hE f "com/example/nearpath/nearpath/answer/Frontier" "levelHead" "I" (.int lh) ∧ Fld Z hE f "com/example/nearpath/nearpath/answer/Frontier" "levelTail" "I" (.int (1 : Int32)) ∧ Fld Z hE f "com/example/nearpath/nearpath/answer/Frontier" "heapCosts" "[J" (.ref hc) ∧ Fld Z hE f "com/example/nearpath/nearpath/answer/Frontier" "heapItems" "[I" (.ref hi) ∧ Fld Z hE f "com/example/nearpath/nearpath/answer/Frontier" "heapSize" "I" (.int hs) ∧ Ary Z hE lv .int 16 (bts (updI gl 0 it)) ∧ Ary Z hE sn .int 4 (bts (updI gs (it.toNatClampNeg) vS))
set_option maxRecDepth 65536 in
set_option maxHeartbeats 40000000 in
theorem rm_r40 (l : Launch) (Z : State) (a0 : Array Value) (hw : ∀ d ∈ tables_1, d.before a0 Z = true) (ws : List Jvm.Cond) (f : Addr) (it : Int32) (ct : Int64) (lv : Addr) (hc : Addr) (hi : Addr) (sn : Addr) (vS : Int32) (vc : Int64) (lh : Int32) (hs : Int32) (gl : Nat → Int32) (gs : Nat → Int32) (h0 : Heap) (n0 : Nat) (Z0 : n0 ≤ h0.size) (pr0 : Exa Z h0 f "com/example/nearpath/nearpath/answer/Frontier") (pr1 : Fld Z h0 f "com/example/nearpath/nearpath/answer/Frontier" "seen" "[I" (.ref sn)) (pr2 : Fld Z h0 f "com/example/nearpath/nearpath/answer/Frontier" "maxCost" "J" (.long (3 : Int64))) (pr3 : Fld Z h0 f "com/example/nearpath/nearpath/answer/Frontier" "search" "I" (.int vS)) (pr4 : Fld Z h0 f "com/example/nearpath/nearpath/answer/Frontier" "cost" "J" (.long vc)) (pr5 : Fld Z h0 f "com/example/nearpath/nearpath/answer/Frontier" "level" "[I" (.ref lv)) (pr6 : Fld Z h0 f "com/example/nearpath/nearpath/answer/Frontier" "levelHead" "I" (.int lh)) (pr7 : Fld Z h0 f "com/example/nearpath/nearpath/answer/Frontier" "levelTail" "I" (.int (0 : Int32))) (pr8 : Fld Z h0 f "com/example/nearpath/nearpath/answer/Frontier" "heapCosts" "[J" (.ref hc)) (pr9 : Fld Z h0 f "com/example/nearpath/nearpath/answer/Frontier" "heapItems" "[I" (.ref hi)) (pr10 : Fld Z h0 f "com/example/nearpath/nearpath/answer/Frontier" "heapSize" "I" (.int hs)) (pr11 : Ary Z h0 sn .int 4 (bts gs)) (pr12 : Ary Z h0 lv .int 16 (bts gl)) (pr13 : In4 it) (pr14 : ¬ (3 : Int64) < ct) (pr15 : ¬ (gs (it.toNatClampNeg)) = vS) (pr16 : ¬ (gs (it.toNatClampNeg)) < (0 : Int32)) (pr17 : ct = vc) (pr18 : n0 ≤ f) (pr19 : n0 ≤ lv) (pr20 : n0 ≤ sn) (pr21 : f ≠ lv) (pr22 : f ≠ sn) (pr23 : lv ≠ sn) :
    MetFree l (⟨"com/example/nearpath/nearpath/answer/Frontier", "reach", "(IJ)V"⟩ : MethodName) (head1 (Jvm.Cond.code (⟨"com/example/nearpath/nearpath/answer/Frontier", "reach", "(IJ)V"⟩ : MethodName) prog_12_method_3_code 5 none :: ws) ({ frames := 1, cells := 0, slots := 0, locals := 14 } : Room)) (fun aa UU => aa = #[(.ref f), (.int it), (.long ct)] ∧ Z.Warmed39 UU.vm ∧ UU.heap = h0) (fun _ _ _ _ _ => True) (fun _ UU oo UU' => ∃ vv LL, oo = .returned vv ∧ Q_r40 Z f it ct lv hc hi sn vS vc lh hs gl gs h0 n0 vv UU'.heap LL ∧ FrameEnd UU oo UU' LL ({ frames := 1, cells := 0, slots := 0, locals := 14 } : Room).cells ({ frames := 1, cells := 0, slots := 0, locals := 14 } : Room).slots) := by
  refine MetFree.of_bodySF (plainFor_of_name pn_0) hisR ?_
  intro p e s m args below meth c s₁ Bd hml0 hP hK
  obtain ⟨rfl, hZ, hh⟩ := hP
  have hx := Bd.exec
  have hby := Bd.bytes
  have hml : c.maxLocals = 5 := hml0
  have hown : s.vm.findClass "com/example/nearpath/nearpath/answer/Frontier" = some m.cls := findClass_of_methodNamed Bd.named
  have hnm := (name_of_methodNamed Bd.named Bd.method).1
  have X0 : Stand p l e ({ frames := 1, cells := 0, slots := 0, locals := 14 } : Room) s m #[(.ref f), (.int it), (.long ct)] below meth c s₁ [] 0 0 := Stand.of_body Bd
  have e0 : s₁.heap = h0 := by rw [← hh, Bd.state]; rfl
  have N0 := Fr.nil n0
  have K0 := Keep.refl h0 [f, lv, sn]
  show Go p e below s (Q_r40 Z f it ct lv hc hi sn vS vc lh hs gl gs h0 n0) 0 0 s₁ (entryFrame m #[(.ref f), (.int it), (.long ct)] 5)
  refine Go.of_eq (ef_r40 m f it ct) ?_
  refine Go.st (mkF m 1 #[.val (.ref f), .val (.int it), .val (.long ct), .second, .unset] [(.ref f)]) (fun _ k => XS.aloadN X0.here hx rfl (hb hby dr40_0) rfl rfl k) ?_
  obtain ⟨T1, X1, e1, st1⟩ := getF X0 hx hZ hown (host := "") (Or.inl (hw _ (List.mem_of_getElem? (i := 18) rfl))) Via.refl e0 pr1 (g := (mkF m 1 #[.val (.ref f), .val (.int it), .val (.long ct), .second, .unset] [(.ref f)])) rfl rfl (hb hby dr40_1)
  refine Go.st (mkF m 4 #[.val (.ref f), .val (.int it), .val (.long ct), .second, .unset] [(.ref sn)]) (fun _ k => st1 _ k) ?_
  refine Go.st (mkF m 5 #[.val (.ref f), .val (.int it), .val (.long ct), .second, .unset] [(.int it), (.ref sn)]) (fun _ k => XS.iloadN X1.here hx rfl (hb hby dr40_4) rfl k) ?_
  refine Go.st (mkF m 6 #[.val (.ref f), .val (.int it), .val (.long ct), .second, .unset] [(.int (gs (it.toNatClampNeg)))]) (fun _ k => ldI X1 hx hZ e1 pr11 (i := it.toNatClampNeg) (own_in4 pr13).1 rfl (own_in4 pr13).2 (v := (.int (gs (it.toNatClampNeg)))) rfl (g := (mkF m 5 #[.val (.ref f), .val (.int it), .val (.long ct), .second, .unset] [(.int it), (.ref sn)])) rfl rfl (hb hby dr40_5) _ k) ?_
  refine Go.st (mkF m 8 #[.val (.ref f), .val (.int it), .val (.long ct), .second, .val (.int (gs (it.toNatClampNeg)))] []) (fun _ k => XS.istore X1.here hx rfl (hb hby dr40_6) rfl (l' := #[.val (.ref f), .val (.int it), .val (.long ct), .second, .val (.int (gs (it.toNatClampNeg)))]) rfl k) ?_
  refine Go.st (mkF m 9 #[.val (.ref f), .val (.int it), .val (.long ct), .second, .val (.int (gs (it.toNatClampNeg)))] [(.long ct)]) (fun _ k => XT.lloadN X1.here hx rfl (hb hby dr40_8) rfl k) ?_
  refine Go.st (mkF m 10 #[.val (.ref f), .val (.int it), .val (.long ct), .second, .val (.int (gs (it.toNatClampNeg)))] [(.ref f), (.long ct)]) (fun _ k => XS.aloadN X1.here hx rfl (hb hby dr40_9) rfl rfl k) ?_
  obtain ⟨T2, X2, e2, st2⟩ := getF X1 hx hZ hown (host := "") (Or.inl (hw _ (List.mem_of_getElem? (i := 20) rfl))) Via.refl e1 pr2 (g := (mkF m 10 #[.val (.ref f), .val (.int it), .val (.long ct), .second, .val (.int (gs (it.toNatClampNeg)))] [(.ref f), (.long ct)])) rfl rfl (hb hby dr40_10)
  refine Go.st (mkF m 13 #[.val (.ref f), .val (.int it), .val (.long ct), .second, .val (.int (gs (it.toNatClampNeg)))] [(.long (3 : Int64)), (.long ct)]) (fun _ k => st2 _ k) ?_
  refine Go.st (mkF m 14 #[.val (.ref f), .val (.int it), .val (.long ct), .second, .val (.int (gs (it.toNatClampNeg)))] [(.int (cmpL ct (3 : Int64)))]) (fun _ k => XT.lcmp X2.here hx rfl (hb hby dr40_13) rfl k) ?_
  refine Go.st (mkF m 17 #[.val (.ref f), .val (.int it), .val (.long ct), .second, .val (.int (gs (it.toNatClampNeg)))] []) (fun _ k => XS.ifNo X2.here hx rfl (hb hby dr40_14) rfl (own_lgF pr14).1 k) ?_
  refine Go.st (mkF m 19 #[.val (.ref f), .val (.int it), .val (.long ct), .second, .val (.int (gs (it.toNatClampNeg)))] [(.int (gs (it.toNatClampNeg)))]) (fun _ k => XS.iload X2.here hx rfl (hb hby dr40_17) rfl k) ?_
  refine Go.st (mkF m 20 #[.val (.ref f), .val (.int it), .val (.long ct), .second, .val (.int (gs (it.toNatClampNeg)))] [(.ref f), (.int (gs (it.toNatClampNeg)))]) (fun _ k => XS.aloadN X2.here hx rfl (hb hby dr40_19) rfl rfl k) ?_
  obtain ⟨T3, X3, e3, st3⟩ := getF X2 hx hZ hown (host := "") (Or.inl (hw _ (List.mem_of_getElem? (i := 35) rfl))) Via.refl e2 pr3 (g := (mkF m 20 #[.val (.ref f), .val (.int it), .val (.long ct), .second, .val (.int (gs (it.toNatClampNeg)))] [(.ref f), (.int (gs (it.toNatClampNeg)))])) rfl rfl (hb hby dr40_20)
  refine Go.st (mkF m 23 #[.val (.ref f), .val (.int it), .val (.long ct), .second, .val (.int (gs (it.toNatClampNeg)))] [(.int vS), (.int (gs (it.toNatClampNeg)))]) (fun _ k => st3 _ k) ?_
  refine Go.st (mkF m 27 #[.val (.ref f), .val (.int it), .val (.long ct), .second, .val (.int (gs (it.toNatClampNeg)))] []) (fun _ k => XS.icmpYes X3.here hx rfl (pc0 := 23) (pc' := 27) rfl (hb hby dr40_23) rfl (feq pr15).2 (by decide) (by decide) k) ?_
  refine Go.st (mkF m 29 #[.val (.ref f), .val (.int it), .val (.long ct), .second, .val (.int (gs (it.toNatClampNeg)))] [(.int (gs (it.toNatClampNeg)))]) (fun _ k => XS.iload X3.here hx rfl (hb hby dr40_27) rfl k) ?_
  refine Go.st (mkF m 59 #[.val (.ref f), .val (.int it), .val (.long ct), .second, .val (.int (gs (it.toNatClampNeg)))] []) (fun _ k => XS.ifYes X3.here hx rfl (pc0 := 29) (pc' := 59) rfl (hb hby dr40_29) rfl ((if0 _ _).trans (flt pr16).2.1) (by decide) (by decide) k) ?_
  refine Go.st (mkF m 60 #[.val (.ref f), .val (.int it), .val (.long ct), .second, .val (.int (gs (it.toNatClampNeg)))] [(.long ct)]) (fun _ k => XT.lloadN X3.here hx rfl (hb hby dr40_59) rfl k) ?_
  refine Go.st (mkF m 61 #[.val (.ref f), .val (.int it), .val (.long ct), .second, .val (.int (gs (it.toNatClampNeg)))] [(.ref f), (.long ct)]) (fun _ k => XS.aloadN X3.here hx rfl (hb hby dr40_60) rfl rfl k) ?_
  obtain ⟨T4, X4, e4, st4⟩ := getF X3 hx hZ hown (host := "") (Or.inl (hw _ (List.mem_of_getElem? (i := 33) rfl))) Via.refl e3 pr4 (g := (mkF m 61 #[.val (.ref f), .val (.int it), .val (.long ct), .second, .val (.int (gs (it.toNatClampNeg)))] [(.ref f), (.long ct)])) rfl rfl (hb hby dr40_61)
  refine Go.st (mkF m 64 #[.val (.ref f), .val (.int it), .val (.long ct), .second, .val (.int (gs (it.toNatClampNeg)))] [(.long vc), (.long ct)]) (fun _ k => st4 _ k) ?_
  refine Go.st (mkF m 65 #[.val (.ref f), .val (.int it), .val (.long ct), .second, .val (.int (gs (it.toNatClampNeg)))] [(.int (cmpL ct vc))]) (fun _ k => XT.lcmp X4.here hx rfl (hb hby dr40_64) rfl k) ?_
  refine Go.st (mkF m 68 #[.val (.ref f), .val (.int it), .val (.long ct), .second, .val (.int (gs (it.toNatClampNeg)))] []) (fun _ k => XS.ifNo X4.here hx rfl (hb hby dr40_65) rfl (own_leT pr17).2 k) ?_
  refine Go.st (mkF m 69 #[.val (.ref f), .val (.int it), .val (.long ct), .second, .val (.int (gs (it.toNatClampNeg)))] [(.ref f)]) (fun _ k => XS.aloadN X4.here hx rfl (hb hby dr40_68) rfl rfl k) ?_
  obtain ⟨T5, X5, e5, st5⟩ := getF X4 hx hZ hown (host := "") (Or.inl (hw _ (List.mem_of_getElem? (i := 18) rfl))) Via.refl e4 pr1 (g := (mkF m 69 #[.val (.ref f), .val (.int it), .val (.long ct), .second, .val (.int (gs (it.toNatClampNeg)))] [(.ref f)])) rfl rfl (hb hby dr40_69)
  refine Go.st (mkF m 72 #[.val (.ref f), .val (.int it), .val (.long ct), .second, .val (.int (gs (it.toNatClampNeg)))] [(.ref sn)]) (fun _ k => st5 _ k) ?_
  refine Go.st (mkF m 73 #[.val (.ref f), .val (.int it), .val (.long ct), .second, .val (.int (gs (it.toNatClampNeg)))] [(.int it), (.ref sn)]) (fun _ k => XS.iloadN X5.here hx rfl (hb hby dr40_72) rfl k) ?_
  refine Go.st (mkF m 74 #[.val (.ref f), .val (.int it), .val (.long ct), .second, .val (.int (gs (it.toNatClampNeg)))] [(.ref f), (.int it), (.ref sn)]) (fun _ k => XS.aloadN X5.here hx rfl (hb hby dr40_73) rfl rfl k) ?_
  obtain ⟨T6, X6, e6, st6⟩ := getF X5 hx hZ hown (host := "") (Or.inl (hw _ (List.mem_of_getElem? (i := 35) rfl))) Via.refl e5 pr3 (g := (mkF m 74 #[.val (.ref f), .val (.int it), .val (.long ct), .second, .val (.int (gs (it.toNatClampNeg)))] [(.ref f), (.int it), (.ref sn)])) rfl rfl (hb hby dr40_74)
  refine Go.st (mkF m 77 #[.val (.ref f), .val (.int it), .val (.long ct), .second, .val (.int (gs (it.toNatClampNeg)))] [(.int vS), (.int it), (.ref sn)]) (fun _ k => st6 _ k) ?_
  obtain ⟨T7, h7, X7, e7, W7, st7⟩ := stAI X6 hx hZ e6 pr11 (i := it.toNatClampNeg) (own_in4 pr13).1 rfl (own_in4 pr13).2 (g := (mkF m 77 #[.val (.ref f), .val (.int it), .val (.long ct), .second, .val (.int (gs (it.toNatClampNeg)))] [(.int vS), (.int it), (.ref sn)])) rfl rfl (hb hby dr40_77)
  have E8q : Exa Z h7 f "com/example/nearpath/nearpath/answer/Frontier" := pr0.wr W7
  have F9 : Fld Z h7 f "com/example/nearpath/nearpath/answer/Frontier" "seen" "[I" (.ref sn) := pr1.other W7 (Or.inl pr22)
  have F10 : Fld Z h7 f "com/example/nearpath/nearpath/answer/Frontier" "maxCost" "J" (.long (3 : Int64)) := pr2.other W7 (Or.inl pr22)
  have F11 : Fld Z h7 f "com/example/nearpath/nearpath/answer/Frontier" "search" "I" (.int vS) := pr3.other W7 (Or.inl pr22)
  have F12 : Fld Z h7 f "com/example/nearpath/nearpath/answer/Frontier" "cost" "J" (.long vc) := pr4.other W7 (Or.inl pr22)
  have F13 : Fld Z h7 f "com/example/nearpath/nearpath/answer/Frontier" "level" "[I" (.ref lv) := pr5.other W7 (Or.inl pr22)
  have F14 : Fld Z h7 f "com/example/nearpath/nearpath/answer/Frontier" "levelHead" "I" (.int lh) := pr6.other W7 (Or.inl pr22)
  have F15 : Fld Z h7 f "com/example/nearpath/nearpath/answer/Frontier" "levelTail" "I" (.int (0 : Int32)) := pr7.other W7 (Or.inl pr22)
  have F16 : Fld Z h7 f "com/example/nearpath/nearpath/answer/Frontier" "heapCosts" "[J" (.ref hc) := pr8.other W7 (Or.inl pr22)
  have F17 : Fld Z h7 f "com/example/nearpath/nearpath/answer/Frontier" "heapItems" "[I" (.ref hi) := pr9.other W7 (Or.inl pr22)
  have F18 : Fld Z h7 f "com/example/nearpath/nearpath/answer/Frontier" "heapSize" "I" (.int hs) := pr10.other W7 (Or.inl pr22)
  have V19 : Ary Z h7 sn .int 4 (bts (updI gs (it.toNatClampNeg) vS)) := pr11.sameB W7
  have V20 : Ary Z h7 lv .int 16 (bts gl) := pr12.other W7 pr23
  have K7 : Keep h0 h7 [f, lv, sn] := K0.wr W7 (Or.inl (by simp))
  have N7 := Fr.snoc X7 N0 pr20
  refine Go.st (mkF m 78 #[.val (.ref f), .val (.int it), .val (.long ct), .second, .val (.int (gs (it.toNatClampNeg)))] []) (fun _ k => st7 _ k) ?_
  refine Go.st (mkF m 79 #[.val (.ref f), .val (.int it), .val (.long ct), .second, .val (.int (gs (it.toNatClampNeg)))] [(.ref f)]) (fun _ k => XS.aloadN X7.here hx rfl (hb hby dr40_78) rfl rfl k) ?_
  refine Go.st (mkF m 80 #[.val (.ref f), .val (.int it), .val (.long ct), .second, .val (.int (gs (it.toNatClampNeg)))] [(.ref f), (.ref f)]) (fun _ k => XS.aloadN X7.here hx rfl (hb hby dr40_79) rfl rfl k) ?_
  obtain ⟨T21, X21, e21, st21⟩ := getF X7 hx hZ hown (host := "") (Or.inl (hw _ (List.mem_of_getElem? (i := 11) rfl))) Via.refl e7 F13 (g := (mkF m 80 #[.val (.ref f), .val (.int it), .val (.long ct), .second, .val (.int (gs (it.toNatClampNeg)))] [(.ref f), (.ref f)])) rfl rfl (hb hby dr40_80)
  refine Go.st (mkF m 83 #[.val (.ref f), .val (.int it), .val (.long ct), .second, .val (.int (gs (it.toNatClampNeg)))] [(.ref lv), (.ref f)]) (fun _ k => st21 _ k) ?_
  refine Go.st (mkF m 84 #[.val (.ref f), .val (.int it), .val (.long ct), .second, .val (.int (gs (it.toNatClampNeg)))] [(.ref f), (.ref lv), (.ref f)]) (fun _ k => XS.aloadN X21.here hx rfl (hb hby dr40_83) rfl rfl k) ?_
  obtain ⟨T22, X22, e22, st22⟩ := getF X21 hx hZ hown (host := "") (Or.inl (hw _ (List.mem_of_getElem? (i := 31) rfl))) Via.refl e21 F15 (g := (mkF m 84 #[.val (.ref f), .val (.int it), .val (.long ct), .second, .val (.int (gs (it.toNatClampNeg)))] [(.ref f), (.ref lv), (.ref f)])) rfl rfl (hb hby dr40_84)
  refine Go.st (mkF m 87 #[.val (.ref f), .val (.int it), .val (.long ct), .second, .val (.int (gs (it.toNatClampNeg)))] [(.int (0 : Int32)), (.ref lv), (.ref f)]) (fun _ k => st22 _ k) ?_
  obtain ⟨_, _, ⟨T23, L23, k23, n23⟩, -, X23, ⟨Lc23, hQ23, l23, y23, z23⟩, st23⟩ := Jvm.LawKit.callS X22 hx (y := (⟨"com/example/nearpath/nearpath/answer/Frontier", "ensureRoom", "([II)[I"⟩ : MethodName)) hown (mvT hZ (hw _ (List.mem_of_getElem? (i := 42) rfl))) (mvT hZ (hw _ (List.mem_of_getElem? (i := 43) rfl))) (mvT hZ (hw _ (List.mem_of_getElem? (i := 2) rfl))) (mvT hZ (hw _ (List.mem_of_getElem? (i := 44) rfl))) (by decide) (backOf (W := 1) (rm_er0 l Z a0 hw [] lv gl h7 n0 (Nat.le_trans Z0 K7.1) V20) hZ (hw _ (List.mem_of_getElem? (i := 44) rfl)) (hw _ (List.mem_of_getElem? (i := 2) rfl)) (by decide) (by decide)) (g := (mkF m 87 #[.val (.ref f), .val (.int it), .val (.long ct), .second, .val (.int (gs (it.toNatClampNeg)))] [(.int (0 : Int32)), (.ref lv), (.ref f)])) rfl (by rw [hml]; rfl) (argsL := [(.ref lv), (.int (0 : Int32))]) (rest := [(.ref f)]) (lenOf pd_2 rfl) rfl (by show 2 * 0 + _ ≤ _; exact Nat.le_of_eq rfl) (hb hby dr40_87) (fun _ _ => ⟨rfl, e22, (by decide : 0 + 0 ≤ _), (by decide : 0 + 0 ≤ _)⟩)
  dsimp only [Pt.U, Pt.locs, Pt.cells, Pt.slots] at X23 l23 y23 z23 st23 hQ23
  subst l23 y23 z23
  obtain ⟨rfl, N23q, e23⟩ := hQ23
  have N23 := Fr.app N7 N23q
  refine Go.st (mkF m 90 #[.val (.ref f), .val (.int it), .val (.long ct), .second, .val (.int (gs (it.toNatClampNeg)))] [(.ref lv), (.ref f)]) (fun _ k => st23 _ k) ?_
  obtain ⟨T24, h24, X24, e24, W24, st24⟩ := putF X23 hx hZ hown (host := "") (Or.inl (hw _ (List.mem_of_getElem? (i := 11) rfl))) Via.refl e23 F13 E8q (Or.inl (hw _ (List.mem_of_getElem? (i := 12) rfl))) (hw _ (List.mem_of_getElem? (i := 1) rfl)) (ty := (.array .int)) (by decide) rfl rfl (g := (mkF m 90 #[.val (.ref f), .val (.int it), .val (.long ct), .second, .val (.int (gs (it.toNatClampNeg)))] [(.ref lv), (.ref f)])) rfl rfl (hb hby dr40_90)
  have E25q : Exa Z h24 f "com/example/nearpath/nearpath/answer/Frontier" := E8q.wr W24
  have F26 : Fld Z h24 f "com/example/nearpath/nearpath/answer/Frontier" "seen" "[I" (.ref sn) := F9.other W24 (Or.inr (slot_ne (Or.inr (hw _ (List.mem_of_getElem? (i := 19) rfl))) (Or.inl (hw _ (List.mem_of_getElem? (i := 12) rfl))) (by decide) (t := (.array .int)) (t' := (.array .int)) (by decide) (by decide)))
  have F27 : Fld Z h24 f "com/example/nearpath/nearpath/answer/Frontier" "maxCost" "J" (.long (3 : Int64)) := F10.other W24 (Or.inr (slot_ne (Or.inr (hw _ (List.mem_of_getElem? (i := 21) rfl))) (Or.inl (hw _ (List.mem_of_getElem? (i := 12) rfl))) (by decide) (t := .long) (t' := (.array .int)) (by decide) (by decide)))
  have F28 : Fld Z h24 f "com/example/nearpath/nearpath/answer/Frontier" "search" "I" (.int vS) := F11.other W24 (Or.inr (slot_ne (Or.inl (hw _ (List.mem_of_getElem? (i := 36) rfl))) (Or.inl (hw _ (List.mem_of_getElem? (i := 12) rfl))) (by decide) (t := .int) (t' := (.array .int)) (by decide) (by decide)))
  have F29 : Fld Z h24 f "com/example/nearpath/nearpath/answer/Frontier" "cost" "J" (.long vc) := F12.other W24 (Or.inr (slot_ne (Or.inl (hw _ (List.mem_of_getElem? (i := 34) rfl))) (Or.inl (hw _ (List.mem_of_getElem? (i := 12) rfl))) (by decide) (t := .long) (t' := (.array .int)) (by decide) (by decide)))
  have F30 : Fld Z h24 f "com/example/nearpath/nearpath/answer/Frontier" "level" "[I" (.ref lv) := F13.same W24
  have F31 : Fld Z h24 f "com/example/nearpath/nearpath/answer/Frontier" "levelHead" "I" (.int lh) := F14.other W24 (Or.inr (slot_ne (Or.inl (hw _ (List.mem_of_getElem? (i := 30) rfl))) (Or.inl (hw _ (List.mem_of_getElem? (i := 12) rfl))) (by decide) (t := .int) (t' := (.array .int)) (by decide) (by decide)))
  have F32 : Fld Z h24 f "com/example/nearpath/nearpath/answer/Frontier" "levelTail" "I" (.int (0 : Int32)) := F15.other W24 (Or.inr (slot_ne (Or.inl (hw _ (List.mem_of_getElem? (i := 32) rfl))) (Or.inl (hw _ (List.mem_of_getElem? (i := 12) rfl))) (by decide) (t := .int) (t' := (.array .int)) (by decide) (by decide)))
  have F33 : Fld Z h24 f "com/example/nearpath/nearpath/answer/Frontier" "heapCosts" "[J" (.ref hc) := F16.other W24 (Or.inr (slot_ne (Or.inl (hw _ (List.mem_of_getElem? (i := 15) rfl))) (Or.inl (hw _ (List.mem_of_getElem? (i := 12) rfl))) (by decide) (t := (.array .long)) (t' := (.array .int)) (by decide) (by decide)))
  have F34 : Fld Z h24 f "com/example/nearpath/nearpath/answer/Frontier" "heapItems" "[I" (.ref hi) := F17.other W24 (Or.inr (slot_ne (Or.inl (hw _ (List.mem_of_getElem? (i := 17) rfl))) (Or.inl (hw _ (List.mem_of_getElem? (i := 12) rfl))) (by decide) (t := (.array .int)) (t' := (.array .int)) (by decide) (by decide)))
  have F35 : Fld Z h24 f "com/example/nearpath/nearpath/answer/Frontier" "heapSize" "I" (.int hs) := F18.other W24 (Or.inr (slot_ne (Or.inl (hw _ (List.mem_of_getElem? (i := 28) rfl))) (Or.inl (hw _ (List.mem_of_getElem? (i := 12) rfl))) (by decide) (t := .int) (t' := (.array .int)) (by decide) (by decide)))
  have V36 : Ary Z h24 sn .int 4 (bts (updI gs (it.toNatClampNeg) vS)) := V19.other W24 (Ne.symm pr22)
  have V37 : Ary Z h24 lv .int 16 (bts gl) := V20.other W24 (Ne.symm pr21)
  have K24 : Keep h0 h24 [f, lv, sn] := K7.wr W24 (Or.inl (by simp))
  have N24 := Fr.snoc X24 N23 pr18
  refine Go.st (mkF m 93 #[.val (.ref f), .val (.int it), .val (.long ct), .second, .val (.int (gs (it.toNatClampNeg)))] []) (fun _ k => st24 _ k) ?_
  refine Go.st (mkF m 94 #[.val (.ref f), .val (.int it), .val (.long ct), .second, .val (.int (gs (it.toNatClampNeg)))] [(.ref f)]) (fun _ k => XS.aloadN X24.here hx rfl (hb hby dr40_93) rfl rfl k) ?_
  obtain ⟨T38, X38, e38, st38⟩ := getF X24 hx hZ hown (host := "") (Or.inl (hw _ (List.mem_of_getElem? (i := 11) rfl))) Via.refl e24 F30 (g := (mkF m 94 #[.val (.ref f), .val (.int it), .val (.long ct), .second, .val (.int (gs (it.toNatClampNeg)))] [(.ref f)])) rfl rfl (hb hby dr40_94)
  refine Go.st (mkF m 97 #[.val (.ref f), .val (.int it), .val (.long ct), .second, .val (.int (gs (it.toNatClampNeg)))] [(.ref lv)]) (fun _ k => st38 _ k) ?_
  refine Go.st (mkF m 98 #[.val (.ref f), .val (.int it), .val (.long ct), .second, .val (.int (gs (it.toNatClampNeg)))] [(.ref f), (.ref lv)]) (fun _ k => XS.aloadN X38.here hx rfl (hb hby dr40_97) rfl rfl k) ?_
  refine Go.st (mkF m 99 #[.val (.ref f), .val (.int it), .val (.long ct), .second, .val (.int (gs (it.toNatClampNeg)))] [(.ref f), (.ref f), (.ref lv)]) (fun _ k => XS.dup X38.here hx rfl (hb hby dr40_98) rfl rfl k) ?_
  obtain ⟨T39, X39, e39, st39⟩ := getF X38 hx hZ hown (host := "") (Or.inl (hw _ (List.mem_of_getElem? (i := 31) rfl))) Via.refl e38 F32 (g := (mkF m 99 #[.val (.ref f), .val (.int it), .val (.long ct), .second, .val (.int (gs (it.toNatClampNeg)))] [(.ref f), (.ref f), (.ref lv)])) rfl rfl (hb hby dr40_99)
  refine Go.st (mkF m 102 #[.val (.ref f), .val (.int it), .val (.long ct), .second, .val (.int (gs (it.toNatClampNeg)))] [(.int (0 : Int32)), (.ref f), (.ref lv)]) (fun _ k => st39 _ k) ?_
  refine Go.st (mkF m 103 #[.val (.ref f), .val (.int it), .val (.long ct), .second, .val (.int (gs (it.toNatClampNeg)))] [(.int (0 : Int32)), (.ref f), (.int (0 : Int32)), (.ref lv)]) (fun _ k => XT.dupX1 X39.here hx rfl (hb hby dr40_102) rfl rfl rfl k) ?_
  refine Go.st (mkF m 104 #[.val (.ref f), .val (.int it), .val (.long ct), .second, .val (.int (gs (it.toNatClampNeg)))] [(.int (1 : Int32)), (.int (0 : Int32)), (.ref f), (.int (0 : Int32)), (.ref lv)]) (fun _ k => XS.iconst X39.here hx rfl (hb hby dr40_103) k) ?_
  refine Go.st (mkF m 105 #[.val (.ref f), .val (.int it), .val (.long ct), .second, .val (.int (gs (it.toNatClampNeg)))] [(.int (1 : Int32)), (.ref f), (.int (0 : Int32)), (.ref lv)]) (fun _ k => XS.iadd X39.here hx rfl (hb hby dr40_104) rfl k) ?_
  obtain ⟨T40, h40, X40, e40, W40, st40⟩ := putF X39 hx hZ hown (host := "") (Or.inl (hw _ (List.mem_of_getElem? (i := 31) rfl))) Via.refl e39 F32 E25q (Or.inl (hw _ (List.mem_of_getElem? (i := 32) rfl))) (hw _ (List.mem_of_getElem? (i := 1) rfl)) (ty := .int) (by decide) rfl rfl (g := (mkF m 105 #[.val (.ref f), .val (.int it), .val (.long ct), .second, .val (.int (gs (it.toNatClampNeg)))] [(.int (1 : Int32)), (.ref f), (.int (0 : Int32)), (.ref lv)])) rfl rfl (hb hby dr40_105)
  have E41q : Exa Z h40 f "com/example/nearpath/nearpath/answer/Frontier" := E25q.wr W40
  have F42 : Fld Z h40 f "com/example/nearpath/nearpath/answer/Frontier" "seen" "[I" (.ref sn) := F26.other W40 (Or.inr (slot_ne (Or.inr (hw _ (List.mem_of_getElem? (i := 19) rfl))) (Or.inl (hw _ (List.mem_of_getElem? (i := 32) rfl))) (by decide) (t := (.array .int)) (t' := .int) (by decide) (by decide)))
  have F43 : Fld Z h40 f "com/example/nearpath/nearpath/answer/Frontier" "maxCost" "J" (.long (3 : Int64)) := F27.other W40 (Or.inr (slot_ne (Or.inr (hw _ (List.mem_of_getElem? (i := 21) rfl))) (Or.inl (hw _ (List.mem_of_getElem? (i := 32) rfl))) (by decide) (t := .long) (t' := .int) (by decide) (by decide)))
  have F44 : Fld Z h40 f "com/example/nearpath/nearpath/answer/Frontier" "search" "I" (.int vS) := F28.other W40 (Or.inr (slot_ne (Or.inl (hw _ (List.mem_of_getElem? (i := 36) rfl))) (Or.inl (hw _ (List.mem_of_getElem? (i := 32) rfl))) (by decide) (t := .int) (t' := .int) (by decide) (by decide)))
  have F45 : Fld Z h40 f "com/example/nearpath/nearpath/answer/Frontier" "cost" "J" (.long vc) := F29.other W40 (Or.inr (slot_ne (Or.inl (hw _ (List.mem_of_getElem? (i := 34) rfl))) (Or.inl (hw _ (List.mem_of_getElem? (i := 32) rfl))) (by decide) (t := .long) (t' := .int) (by decide) (by decide)))
  have F46 : Fld Z h40 f "com/example/nearpath/nearpath/answer/Frontier" "level" "[I" (.ref lv) := F30.other W40 (Or.inr (slot_ne (Or.inl (hw _ (List.mem_of_getElem? (i := 12) rfl))) (Or.inl (hw _ (List.mem_of_getElem? (i := 32) rfl))) (by decide) (t := (.array .int)) (t' := .int) (by decide) (by decide)))
  have F47 : Fld Z h40 f "com/example/nearpath/nearpath/answer/Frontier" "levelHead" "I" (.int lh) := F31.other W40 (Or.inr (slot_ne (Or.inl (hw _ (List.mem_of_getElem? (i := 30) rfl))) (Or.inl (hw _ (List.mem_of_getElem? (i := 32) rfl))) (by decide) (t := .int) (t' := .int) (by decide) (by decide)))
  have F48 : Fld Z h40 f "com/example/nearpath/nearpath/answer/Frontier" "levelTail" "I" (.int (1 : Int32)) := F32.same W40
  have F49 : Fld Z h40 f "com/example/nearpath/nearpath/answer/Frontier" "heapCosts" "[J" (.ref hc) := F33.other W40 (Or.inr (slot_ne (Or.inl (hw _ (List.mem_of_getElem? (i := 15) rfl))) (Or.inl (hw _ (List.mem_of_getElem? (i := 32) rfl))) (by decide) (t := (.array .long)) (t' := .int) (by decide) (by decide)))
  have F50 : Fld Z h40 f "com/example/nearpath/nearpath/answer/Frontier" "heapItems" "[I" (.ref hi) := F34.other W40 (Or.inr (slot_ne (Or.inl (hw _ (List.mem_of_getElem? (i := 17) rfl))) (Or.inl (hw _ (List.mem_of_getElem? (i := 32) rfl))) (by decide) (t := (.array .int)) (t' := .int) (by decide) (by decide)))
  have F51 : Fld Z h40 f "com/example/nearpath/nearpath/answer/Frontier" "heapSize" "I" (.int hs) := F35.other W40 (Or.inr (slot_ne (Or.inl (hw _ (List.mem_of_getElem? (i := 28) rfl))) (Or.inl (hw _ (List.mem_of_getElem? (i := 32) rfl))) (by decide) (t := .int) (t' := .int) (by decide) (by decide)))
  have V52 : Ary Z h40 sn .int 4 (bts (updI gs (it.toNatClampNeg) vS)) := V36.other W40 (Ne.symm pr22)
  have V53 : Ary Z h40 lv .int 16 (bts gl) := V37.other W40 (Ne.symm pr21)
  have K40 : Keep h0 h40 [f, lv, sn] := K24.wr W40 (Or.inl (by simp))
  have N40 := Fr.snoc X40 N24 pr18
  refine Go.st (mkF m 108 #[.val (.ref f), .val (.int it), .val (.long ct), .second, .val (.int (gs (it.toNatClampNeg)))] [(.int (0 : Int32)), (.ref lv)]) (fun _ k => st40 _ k) ?_
  refine Go.st (mkF m 109 #[.val (.ref f), .val (.int it), .val (.long ct), .second, .val (.int (gs (it.toNatClampNeg)))] [(.int it), (.int (0 : Int32)), (.ref lv)]) (fun _ k => XS.iloadN X40.here hx rfl (hb hby dr40_108) rfl k) ?_
  obtain ⟨T54, h54, X54, e54, W54, st54⟩ := stAI X40 hx hZ e40 V53 (i := 0) (by decide) (by decide) (by decide) (g := (mkF m 109 #[.val (.ref f), .val (.int it), .val (.long ct), .second, .val (.int (gs (it.toNatClampNeg)))] [(.int it), (.int (0 : Int32)), (.ref lv)])) rfl rfl (hb hby dr40_109)
  have E55q : Exa Z h54 f "com/example/nearpath/nearpath/answer/Frontier" := E41q.wr W54
  have F56 : Fld Z h54 f "com/example/nearpath/nearpath/answer/Frontier" "seen" "[I" (.ref sn) := F42.other W54 (Or.inl pr21)
  have F57 : Fld Z h54 f "com/example/nearpath/nearpath/answer/Frontier" "maxCost" "J" (.long (3 : Int64)) := F43.other W54 (Or.inl pr21)
  have F58 : Fld Z h54 f "com/example/nearpath/nearpath/answer/Frontier" "search" "I" (.int vS) := F44.other W54 (Or.inl pr21)
  have F59 : Fld Z h54 f "com/example/nearpath/nearpath/answer/Frontier" "cost" "J" (.long vc) := F45.other W54 (Or.inl pr21)
  have F60 : Fld Z h54 f "com/example/nearpath/nearpath/answer/Frontier" "level" "[I" (.ref lv) := F46.other W54 (Or.inl pr21)
  have F61 : Fld Z h54 f "com/example/nearpath/nearpath/answer/Frontier" "levelHead" "I" (.int lh) := F47.other W54 (Or.inl pr21)
  have F62 : Fld Z h54 f "com/example/nearpath/nearpath/answer/Frontier" "levelTail" "I" (.int (1 : Int32)) := F48.other W54 (Or.inl pr21)
  have F63 : Fld Z h54 f "com/example/nearpath/nearpath/answer/Frontier" "heapCosts" "[J" (.ref hc) := F49.other W54 (Or.inl pr21)
  have F64 : Fld Z h54 f "com/example/nearpath/nearpath/answer/Frontier" "heapItems" "[I" (.ref hi) := F50.other W54 (Or.inl pr21)
  have F65 : Fld Z h54 f "com/example/nearpath/nearpath/answer/Frontier" "heapSize" "I" (.int hs) := F51.other W54 (Or.inl pr21)
  have V66 : Ary Z h54 sn .int 4 (bts (updI gs (it.toNatClampNeg) vS)) := V52.other W54 (Ne.symm pr23)
  have V67 : Ary Z h54 lv .int 16 (bts (updI gl 0 it)) := V53.sameB W54
  have K54 : Keep h0 h54 [f, lv, sn] := K40.wr W54 (Or.inl (by simp))
  have N54 := Fr.snoc X54 N40 pr19
  refine Go.st (mkF m 110 #[.val (.ref f), .val (.int it), .val (.long ct), .second, .val (.int (gs (it.toNatClampNeg)))] []) (fun _ k => st54 _ k) ?_
  refine Go.st (mkF m 176 #[.val (.ref f), .val (.int it), .val (.long ct), .second, .val (.int (gs (it.toNatClampNeg)))] []) (fun _ k => XS.goto X54.here hx rfl (pc0 := 110) (pc' := 176) rfl (hb hby dr40_110) (by decide) (by decide) k) ?_
  exact Go.retV X54 hx Bd.notSynchronized Bd.returns (hb hby dr40_176) (by rw [e54]; exact ⟨rfl, N54, K54, F56, F57, F58, F59, F60, F61, F62, F63, F64, F65, V67, V66⟩) (by decide) (by decide)
theorem dr41_0 : decode prog_12_method_3_code 0 = .ok (.aload_n 0, 1) := by decide +kernel
theorem dr41_1 : decode prog_12_method_3_code 1 = .ok (.getfield 20, 3) := by decide +kernel
theorem dr41_4 : decode prog_12_method_3_code 4 = .ok (.iload_n 1, 1) := by decide +kernel
theorem dr41_5 : decode prog_12_method_3_code 5 = .ok (.iaload, 1) := by decide +kernel
theorem dr41_6 : decode prog_12_method_3_code 6 = .ok (.istore 4, 2) := by decide +kernel
theorem dr41_8 : decode prog_12_method_3_code 8 = .ok (.lload_n 2, 1) := by decide +kernel
theorem dr41_9 : decode prog_12_method_3_code 9 = .ok (.aload_n 0, 1) := by decide +kernel
theorem dr41_10 : decode prog_12_method_3_code 10 = .ok (.getfield 23, 3) := by decide +kernel
theorem dr41_13 : decode prog_12_method_3_code 13 = .ok (.lcmp, 1) := by decide +kernel
theorem dr41_14 : decode prog_12_method_3_code 14 = .ok (.ifCond .gt 12, 3) := by decide +kernel
theorem dr41_17 : decode prog_12_method_3_code 17 = .ok (.iload 4, 2) := by decide +kernel
theorem dr41_19 : decode prog_12_method_3_code 19 = .ok (.aload_n 0, 1) := by decide +kernel
theorem dr41_20 : decode prog_12_method_3_code 20 = .ok (.getfield 40, 3) := by decide +kernel
theorem dr41_23 : decode prog_12_method_3_code 23 = .ok (.if_icmp .ne 4, 3) := by decide +kernel
theorem dr41_27 : decode prog_12_method_3_code 27 = .ok (.iload 4, 2) := by decide +kernel
theorem dr41_29 : decode prog_12_method_3_code 29 = .ok (.ifCond .ge 30, 3) := by decide +kernel
theorem dr41_59 : decode prog_12_method_3_code 59 = .ok (.lload_n 2, 1) := by decide +kernel
theorem dr41_60 : decode prog_12_method_3_code 60 = .ok (.aload_n 0, 1) := by decide +kernel
theorem dr41_61 : decode prog_12_method_3_code 61 = .ok (.getfield 37, 3) := by decide +kernel
theorem dr41_64 : decode prog_12_method_3_code 64 = .ok (.lcmp, 1) := by decide +kernel
theorem dr41_65 : decode prog_12_method_3_code 65 = .ok (.ifCond .ne 48, 3) := by decide +kernel
theorem dr41_68 : decode prog_12_method_3_code 68 = .ok (.aload_n 0, 1) := by decide +kernel
theorem dr41_69 : decode prog_12_method_3_code 69 = .ok (.getfield 20, 3) := by decide +kernel
theorem dr41_72 : decode prog_12_method_3_code 72 = .ok (.iload_n 1, 1) := by decide +kernel
theorem dr41_73 : decode prog_12_method_3_code 73 = .ok (.aload_n 0, 1) := by decide +kernel
theorem dr41_74 : decode prog_12_method_3_code 74 = .ok (.getfield 40, 3) := by decide +kernel
theorem dr41_77 : decode prog_12_method_3_code 77 = .ok (.iastore, 1) := by decide +kernel
theorem dr41_78 : decode prog_12_method_3_code 78 = .ok (.aload_n 0, 1) := by decide +kernel
theorem dr41_79 : decode prog_12_method_3_code 79 = .ok (.aload_n 0, 1) := by decide +kernel
theorem dr41_80 : decode prog_12_method_3_code 80 = .ok (.getfield 7, 3) := by decide +kernel
theorem dr41_83 : decode prog_12_method_3_code 83 = .ok (.aload_n 0, 1) := by decide +kernel
theorem dr41_84 : decode prog_12_method_3_code 84 = .ok (.getfield 34, 3) := by decide +kernel
theorem dr41_87 : decode prog_12_method_3_code 87 = .ok (.invokestatic 47, 3) := by decide +kernel
theorem dr41_90 : decode prog_12_method_3_code 90 = .ok (.putfield 7, 3) := by decide +kernel
theorem dr41_93 : decode prog_12_method_3_code 93 = .ok (.aload_n 0, 1) := by decide +kernel
theorem dr41_94 : decode prog_12_method_3_code 94 = .ok (.getfield 7, 3) := by decide +kernel
theorem dr41_97 : decode prog_12_method_3_code 97 = .ok (.aload_n 0, 1) := by decide +kernel
theorem dr41_98 : decode prog_12_method_3_code 98 = .ok (.dup, 1) := by decide +kernel
theorem dr41_99 : decode prog_12_method_3_code 99 = .ok (.getfield 34, 3) := by decide +kernel
theorem dr41_102 : decode prog_12_method_3_code 102 = .ok (.dup_x1, 1) := by decide +kernel
theorem dr41_103 : decode prog_12_method_3_code 103 = .ok (.iconst 1, 1) := by decide +kernel
theorem dr41_104 : decode prog_12_method_3_code 104 = .ok (.iadd, 1) := by decide +kernel
theorem dr41_105 : decode prog_12_method_3_code 105 = .ok (.putfield 34, 3) := by decide +kernel
theorem dr41_108 : decode prog_12_method_3_code 108 = .ok (.iload_n 1, 1) := by decide +kernel
theorem dr41_109 : decode prog_12_method_3_code 109 = .ok (.iastore, 1) := by decide +kernel
theorem dr41_110 : decode prog_12_method_3_code 110 = .ok (.goto 66, 3) := by decide +kernel
theorem dr41_176 : decode prog_12_method_3_code 176 = .ok (.return_, 1) := by decide +kernel
theorem ef_r41 (m : MethodId) (f : Addr) (it : Int32) (ct : Int64) : entryFrame m #[(.ref f), (.int it), (.long ct)] 5 = (mkF m 0 #[.val (.ref f), .val (.int it), .val (.long ct), .second, .unset] []) := by first | (simp [entryFrame, mkF, argsToLocals, Value.category]; done) | rfl
def Q_r41 (Z : State) (f : Addr) (it : Int32) (ct : Int64) (lv : Addr) (hc : Addr) (hi : Addr) (sn : Addr) (vS : Int32) (vc : Int64) (lh : Int32) (hs : Int32) (gl : Nat → Int32) (gs : Nat → Int32) (h0 : Heap) (n0 : Nat) (vv : Option Value) (hE : Heap) (LE : List Loc) : Prop := vv = none ∧ Fr n0 LE ∧ Keep h0 hE [f, lv, sn] ∧ Fld Z hE f "com/example/nearpath/nearpath/answer/Frontier" "seen" "[I" (.ref sn) ∧ Fld Z hE f "com/example/nearpath/nearpath/answer/Frontier" "maxCost" "J" (.long (3 : Int64)) ∧ Fld Z hE f "com/example/nearpath/nearpath/answer/Frontier" "search" "I" (.int vS) ∧ Fld Z hE f "com/example/nearpath/nearpath/answer/Frontier" "cost" "J" (.long vc) ∧ Fld Z hE f "com/example/nearpath/nearpath/answer/Frontier" "level" "[I" (.ref lv) ∧ Fld Z hE f "com/example/nearpath/nearpath/answer/Frontier" "levelHead" "I" (.int lh) ∧ Fld Z hE f "com/example/nearpath/nearpath/answer/Frontier" "levelTail" "I" (.int (2 : Int32)) ∧ Fld Z hE f "com/example/nearpath/nearpath/answer/Frontier" "heapCosts" "[J" (.ref hc) ∧ Fld Z hE f "com/example/nearpath/nearpath/answer/Frontier" "heapItems" "[I" (.ref hi) ∧ Fld Z hE f "com/example/nearpath/nearpath/answer/Frontier" "heapSize" "I" (.int hs) ∧ Ary Z hE lv .int 16 (bts (updI gl 1 it)) ∧ Ary Z hE sn .int 4 (bts (updI gs (it.toNatClampNeg) vS))
set_option maxRecDepth 65536 in
set_option maxHeartbeats 40000000 in
theorem rm_r41 (l : Launch) (Z : State) (a0 : Array Value) (hw : ∀ d ∈ tables_1, d.before a0 Z = true) (ws : List Jvm.Cond) (f : Addr) (it : Int32) (ct : Int64) (lv : Addr) (hc : Addr) (hi : Addr) (sn : Addr) (vS : Int32) (vc : Int64) (lh : Int32) (hs : Int32) (gl : Nat → Int32) (gs : Nat → Int32) (h0 : Heap) (n0 : Nat) (Z0 : n0 ≤ h0.size) (pr0 : Exa Z h0 f "com/example/nearpath/nearpath/answer/Frontier") (pr1 : Fld Z h0 f "com/example/nearpath/nearpath/answer/Frontier" "seen" "[I" (.ref sn)) (pr2 : Fld Z h0 f "com/example/nearpath/nearpath/answer/Frontier" "maxCost" "J" (.long (3 : Int64))) (pr3 : Fld Z h0 f "com/example/nearpath/nearpath/answer/Frontier" "search" "I" (.int vS)) (pr4 : Fld Z h0 f "com/example/nearpath/nearpath/answer/Frontier" "cost" "J" (.long vc)) (pr5 : Fld Z h0 f "com/example/nearpath/nearpath/answer/Frontier" "level" "[I" (.ref lv)) (pr6 : Fld Z h0 f "com/example/nearpath/nearpath/answer/Frontier" "levelHead" "I" (.int lh)) (pr7 : Fld Z h0 f "com/example/nearpath/nearpath/answer/Frontier" "levelTail" "I" (.int (1 : Int32))) (pr8 : Fld Z h0 f "com/example/nearpath/nearpath/answer/Frontier" "heapCosts" "[J" (.ref hc)) (pr9 : Fld Z h0 f "com/example/nearpath/nearpath/answer/Frontier" "heapItems" "[I" (.ref hi)) (pr10 : Fld Z h0 f "com/example/nearpath/nearpath/answer/Frontier" "heapSize" "I" (.int hs)) (pr11 : Ary Z h0 sn .int 4 (bts gs)) (pr12 : Ary Z h0 lv .int 16 (bts gl)) (pr13 : In4 it) (pr14 : ¬ (3 : Int64) < ct) (pr15 : ¬ (gs (it.toNatClampNeg)) = vS) (pr16 : ¬ (gs (it.toNatClampNeg)) < (0 : Int32)) (pr17 : ct = vc) (pr18 : n0 ≤ f) (pr19 : n0 ≤ lv) (pr20 : n0 ≤ sn) (pr21 : f ≠ lv) (pr22 : f ≠ sn) (pr23 : lv ≠ sn) :
    MetFree l (⟨"com/example/nearpath/nearpath/answer/Frontier", "reach", "(IJ)V"⟩ : MethodName) (head1 (Jvm.Cond.code (⟨"com/example/nearpath/nearpath/answer/Frontier", "reach", "(IJ)V"⟩ : MethodName) prog_12_method_3_code 5 none :: ws) ({ frames := 1, cells := 0, slots := 0, locals := 14 } : Room)) (fun aa UU => aa = #[(.ref f), (.int it), (.long ct)] ∧ Z.Warmed39 UU.vm ∧ UU.heap = h0) (fun _ _ _ _ _ => True) (fun _ UU oo UU' => ∃ vv LL, oo = .returned vv ∧ Q_r41 Z f it ct lv hc hi sn vS vc lh hs gl gs h0 n0 vv UU'.heap LL ∧ FrameEnd UU oo UU' LL ({ frames := 1, cells := 0, slots := 0, locals := 14 } : Room).cells ({ frames := 1, cells := 0, slots := 0, locals := 14 } : Room).slots) := by
  refine MetFree.of_bodySF (plainFor_of_name pn_0) hisR ?_
  intro p e s m args below meth c s₁ Bd hml0 hP hK
  obtain ⟨rfl, hZ, hh⟩ := hP
  have hx := Bd.exec
  have hby := Bd.bytes
  have hml : c.maxLocals = 5 := hml0
  have hown : s.vm.findClass "com/example/nearpath/nearpath/answer/Frontier" = some m.cls := findClass_of_methodNamed Bd.named
  have hnm := (name_of_methodNamed Bd.named Bd.method).1
  have X0 : Stand p l e ({ frames := 1, cells := 0, slots := 0, locals := 14 } : Room) s m #[(.ref f), (.int it), (.long ct)] below meth c s₁ [] 0 0 := Stand.of_body Bd
  have e0 : s₁.heap = h0 := by rw [← hh, Bd.state]; rfl
  have N0 := Fr.nil n0
  have K0 := Keep.refl h0 [f, lv, sn]
  show Go p e below s (Q_r41 Z f it ct lv hc hi sn vS vc lh hs gl gs h0 n0) 0 0 s₁ (entryFrame m #[(.ref f), (.int it), (.long ct)] 5)
  refine Go.of_eq (ef_r41 m f it ct) ?_
  refine Go.st (mkF m 1 #[.val (.ref f), .val (.int it), .val (.long ct), .second, .unset] [(.ref f)]) (fun _ k => XS.aloadN X0.here hx rfl (hb hby dr41_0) rfl rfl k) ?_
  obtain ⟨T1, X1, e1, st1⟩ := getF X0 hx hZ hown (host := "") (Or.inl (hw _ (List.mem_of_getElem? (i := 18) rfl))) Via.refl e0 pr1 (g := (mkF m 1 #[.val (.ref f), .val (.int it), .val (.long ct), .second, .unset] [(.ref f)])) rfl rfl (hb hby dr41_1)
  refine Go.st (mkF m 4 #[.val (.ref f), .val (.int it), .val (.long ct), .second, .unset] [(.ref sn)]) (fun _ k => st1 _ k) ?_
  refine Go.st (mkF m 5 #[.val (.ref f), .val (.int it), .val (.long ct), .second, .unset] [(.int it), (.ref sn)]) (fun _ k => XS.iloadN X1.here hx rfl (hb hby dr41_4) rfl k) ?_
  refine Go.st (mkF m 6 #[.val (.ref f), .val (.int it), .val (.long ct), .second, .unset] [(.int (gs (it.toNatClampNeg)))]) (fun _ k => ldI X1 hx hZ e1 pr11 (i := it.toNatClampNeg) (own_in4 pr13).1 rfl (own_in4 pr13).2 (v := (.int (gs (it.toNatClampNeg)))) rfl (g := (mkF m 5 #[.val (.ref f), .val (.int it), .val (.long ct), .second, .unset] [(.int it), (.ref sn)])) rfl rfl (hb hby dr41_5) _ k) ?_
  refine Go.st (mkF m 8 #[.val (.ref f), .val (.int it), .val (.long ct), .second, .val (.int (gs (it.toNatClampNeg)))] []) (fun _ k => XS.istore X1.here hx rfl (hb hby dr41_6) rfl (l' := #[.val (.ref f), .val (.int it), .val (.long ct), .second, .val (.int (gs (it.toNatClampNeg)))]) rfl k) ?_
  refine Go.st (mkF m 9 #[.val (.ref f), .val (.int it), .val (.long ct), .second, .val (.int (gs (it.toNatClampNeg)))] [(.long ct)]) (fun _ k => XT.lloadN X1.here hx rfl (hb hby dr41_8) rfl k) ?_
  refine Go.st (mkF m 10 #[.val (.ref f), .val (.int it), .val (.long ct), .second, .val (.int (gs (it.toNatClampNeg)))] [(.ref f), (.long ct)]) (fun _ k => XS.aloadN X1.here hx rfl (hb hby dr41_9) rfl rfl k) ?_
  obtain ⟨T2, X2, e2, st2⟩ := getF X1 hx hZ hown (host := "") (Or.inl (hw _ (List.mem_of_getElem? (i := 20) rfl))) Via.refl e1 pr2 (g := (mkF m 10 #[.val (.ref f), .val (.int it), .val (.long ct), .second, .val (.int (gs (it.toNatClampNeg)))] [(.ref f), (.long ct)])) rfl rfl (hb hby dr41_10)
  refine Go.st (mkF m 13 #[.val (.ref f), .val (.int it), .val (.long ct), .second, .val (.int (gs (it.toNatClampNeg)))] [(.long (3 : Int64)), (.long ct)]) (fun _ k => st2 _ k) ?_
  refine Go.st (mkF m 14 #[.val (.ref f), .val (.int it), .val (.long ct), .second, .val (.int (gs (it.toNatClampNeg)))] [(.int (cmpL ct (3 : Int64)))]) (fun _ k => XT.lcmp X2.here hx rfl (hb hby dr41_13) rfl k) ?_
  refine Go.st (mkF m 17 #[.val (.ref f), .val (.int it), .val (.long ct), .second, .val (.int (gs (it.toNatClampNeg)))] []) (fun _ k => XS.ifNo X2.here hx rfl (hb hby dr41_14) rfl (own_lgF pr14).1 k) ?_
  refine Go.st (mkF m 19 #[.val (.ref f), .val (.int it), .val (.long ct), .second, .val (.int (gs (it.toNatClampNeg)))] [(.int (gs (it.toNatClampNeg)))]) (fun _ k => XS.iload X2.here hx rfl (hb hby dr41_17) rfl k) ?_
  refine Go.st (mkF m 20 #[.val (.ref f), .val (.int it), .val (.long ct), .second, .val (.int (gs (it.toNatClampNeg)))] [(.ref f), (.int (gs (it.toNatClampNeg)))]) (fun _ k => XS.aloadN X2.here hx rfl (hb hby dr41_19) rfl rfl k) ?_
  obtain ⟨T3, X3, e3, st3⟩ := getF X2 hx hZ hown (host := "") (Or.inl (hw _ (List.mem_of_getElem? (i := 35) rfl))) Via.refl e2 pr3 (g := (mkF m 20 #[.val (.ref f), .val (.int it), .val (.long ct), .second, .val (.int (gs (it.toNatClampNeg)))] [(.ref f), (.int (gs (it.toNatClampNeg)))])) rfl rfl (hb hby dr41_20)
  refine Go.st (mkF m 23 #[.val (.ref f), .val (.int it), .val (.long ct), .second, .val (.int (gs (it.toNatClampNeg)))] [(.int vS), (.int (gs (it.toNatClampNeg)))]) (fun _ k => st3 _ k) ?_
  refine Go.st (mkF m 27 #[.val (.ref f), .val (.int it), .val (.long ct), .second, .val (.int (gs (it.toNatClampNeg)))] []) (fun _ k => XS.icmpYes X3.here hx rfl (pc0 := 23) (pc' := 27) rfl (hb hby dr41_23) rfl (feq pr15).2 (by decide) (by decide) k) ?_
  refine Go.st (mkF m 29 #[.val (.ref f), .val (.int it), .val (.long ct), .second, .val (.int (gs (it.toNatClampNeg)))] [(.int (gs (it.toNatClampNeg)))]) (fun _ k => XS.iload X3.here hx rfl (hb hby dr41_27) rfl k) ?_
  refine Go.st (mkF m 59 #[.val (.ref f), .val (.int it), .val (.long ct), .second, .val (.int (gs (it.toNatClampNeg)))] []) (fun _ k => XS.ifYes X3.here hx rfl (pc0 := 29) (pc' := 59) rfl (hb hby dr41_29) rfl ((if0 _ _).trans (flt pr16).2.1) (by decide) (by decide) k) ?_
  refine Go.st (mkF m 60 #[.val (.ref f), .val (.int it), .val (.long ct), .second, .val (.int (gs (it.toNatClampNeg)))] [(.long ct)]) (fun _ k => XT.lloadN X3.here hx rfl (hb hby dr41_59) rfl k) ?_
  refine Go.st (mkF m 61 #[.val (.ref f), .val (.int it), .val (.long ct), .second, .val (.int (gs (it.toNatClampNeg)))] [(.ref f), (.long ct)]) (fun _ k => XS.aloadN X3.here hx rfl (hb hby dr41_60) rfl rfl k) ?_
  obtain ⟨T4, X4, e4, st4⟩ := getF X3 hx hZ hown (host := "") (Or.inl (hw _ (List.mem_of_getElem? (i := 33) rfl))) Via.refl e3 pr4 (g := (mkF m 61 #[.val (.ref f), .val (.int it), .val (.long ct), .second, .val (.int (gs (it.toNatClampNeg)))] [(.ref f), (.long ct)])) rfl rfl (hb hby dr41_61)
  refine Go.st (mkF m 64 #[.val (.ref f), .val (.int it), .val (.long ct), .second, .val (.int (gs (it.toNatClampNeg)))] [(.long vc), (.long ct)]) (fun _ k => st4 _ k) ?_
  refine Go.st (mkF m 65 #[.val (.ref f), .val (.int it), .val (.long ct), .second, .val (.int (gs (it.toNatClampNeg)))] [(.int (cmpL ct vc))]) (fun _ k => XT.lcmp X4.here hx rfl (hb hby dr41_64) rfl k) ?_
  refine Go.st (mkF m 68 #[.val (.ref f), .val (.int it), .val (.long ct), .second, .val (.int (gs (it.toNatClampNeg)))] []) (fun _ k => XS.ifNo X4.here hx rfl (hb hby dr41_65) rfl (own_leT pr17).2 k) ?_
  refine Go.st (mkF m 69 #[.val (.ref f), .val (.int it), .val (.long ct), .second, .val (.int (gs (it.toNatClampNeg)))] [(.ref f)]) (fun _ k => XS.aloadN X4.here hx rfl (hb hby dr41_68) rfl rfl k) ?_
  obtain ⟨T5, X5, e5, st5⟩ := getF X4 hx hZ hown (host := "") (Or.inl (hw _ (List.mem_of_getElem? (i := 18) rfl))) Via.refl e4 pr1 (g := (mkF m 69 #[.val (.ref f), .val (.int it), .val (.long ct), .second, .val (.int (gs (it.toNatClampNeg)))] [(.ref f)])) rfl rfl (hb hby dr41_69)
  refine Go.st (mkF m 72 #[.val (.ref f), .val (.int it), .val (.long ct), .second, .val (.int (gs (it.toNatClampNeg)))] [(.ref sn)]) (fun _ k => st5 _ k) ?_
  refine Go.st (mkF m 73 #[.val (.ref f), .val (.int it), .val (.long ct), .second, .val (.int (gs (it.toNatClampNeg)))] [(.int it), (.ref sn)]) (fun _ k => XS.iloadN X5.here hx rfl (hb hby dr41_72) rfl k) ?_
  refine Go.st (mkF m 74 #[.val (.ref f), .val (.int it), .val (.long ct), .second, .val (.int (gs (it.toNatClampNeg)))] [(.ref f), (.int it), (.ref sn)]) (fun _ k => XS.aloadN X5.here hx rfl (hb hby dr41_73) rfl rfl k) ?_
  obtain ⟨T6, X6, e6, st6⟩ := getF X5 hx hZ hown (host := "") (Or.inl (hw _ (List.mem_of_getElem? (i := 35) rfl))) Via.refl e5 pr3 (g := (mkF m 74 #[.val (.ref f), .val (.int it), .val (.long ct), .second, .val (.int (gs (it.toNatClampNeg)))] [(.ref f), (.int it), (.ref sn)])) rfl rfl (hb hby dr41_74)
  refine Go.st (mkF m 77 #[.val (.ref f), .val (.int it), .val (.long ct), .second, .val (.int (gs (it.toNatClampNeg)))] [(.int vS), (.int it), (.ref sn)]) (fun _ k => st6 _ k) ?_
  obtain ⟨T7, h7, X7, e7, W7, st7⟩ := stAI X6 hx hZ e6 pr11 (i := it.toNatClampNeg) (own_in4 pr13).1 rfl (own_in4 pr13).2 (g := (mkF m 77 #[.val (.ref f), .val (.int it), .val (.long ct), .second, .val (.int (gs (it.toNatClampNeg)))] [(.int vS), (.int it), (.ref sn)])) rfl rfl (hb hby dr41_77)
  have E8q : Exa Z h7 f "com/example/nearpath/nearpath/answer/Frontier" := pr0.wr W7
  have F9 : Fld Z h7 f "com/example/nearpath/nearpath/answer/Frontier" "seen" "[I" (.ref sn) := pr1.other W7 (Or.inl pr22)
  have F10 : Fld Z h7 f "com/example/nearpath/nearpath/answer/Frontier" "maxCost" "J" (.long (3 : Int64)) := pr2.other W7 (Or.inl pr22)
  have F11 : Fld Z h7 f "com/example/nearpath/nearpath/answer/Frontier" "search" "I" (.int vS) := pr3.other W7 (Or.inl pr22)
  have F12 : Fld Z h7 f "com/example/nearpath/nearpath/answer/Frontier" "cost" "J" (.long vc) := pr4.other W7 (Or.inl pr22)
  have F13 : Fld Z h7 f "com/example/nearpath/nearpath/answer/Frontier" "level" "[I" (.ref lv) := pr5.other W7 (Or.inl pr22)
  have F14 : Fld Z h7 f "com/example/nearpath/nearpath/answer/Frontier" "levelHead" "I" (.int lh) := pr6.other W7 (Or.inl pr22)
  have F15 : Fld Z h7 f "com/example/nearpath/nearpath/answer/Frontier" "levelTail" "I" (.int (1 : Int32)) := pr7.other W7 (Or.inl pr22)
  have F16 : Fld Z h7 f "com/example/nearpath/nearpath/answer/Frontier" "heapCosts" "[J" (.ref hc) := pr8.other W7 (Or.inl pr22)
  have F17 : Fld Z h7 f "com/example/nearpath/nearpath/answer/Frontier" "heapItems" "[I" (.ref hi) := pr9.other W7 (Or.inl pr22)
  have F18 : Fld Z h7 f "com/example/nearpath/nearpath/answer/Frontier" "heapSize" "I" (.int hs) := pr10.other W7 (Or.inl pr22)
  have V19 : Ary Z h7 sn .int 4 (bts (updI gs (it.toNatClampNeg) vS)) := pr11.sameB W7
  have V20 : Ary Z h7 lv .int 16 (bts gl) := pr12.other W7 pr23
  have K7 : Keep h0 h7 [f, lv, sn] := K0.wr W7 (Or.inl (by simp))
  have N7 := Fr.snoc X7 N0 pr20
  refine Go.st (mkF m 78 #[.val (.ref f), .val (.int it), .val (.long ct), .second, .val (.int (gs (it.toNatClampNeg)))] []) (fun _ k => st7 _ k) ?_
  refine Go.st (mkF m 79 #[.val (.ref f), .val (.int it), .val (.long ct), .second, .val (.int (gs (it.toNatClampNeg)))] [(.ref f)]) (fun _ k => XS.aloadN X7.here hx rfl (hb hby dr41_78) rfl rfl k) ?_
  refine Go.st (mkF m 80 #[.val (.ref f), .val (.int it), .val (.long ct), .second, .val (.int (gs (it.toNatClampNeg)))] [(.ref f), (.ref f)]) (fun _ k => XS.aloadN X7.here hx rfl (hb hby dr41_79) rfl rfl k) ?_
  obtain ⟨T21, X21, e21, st21⟩ := getF X7 hx hZ hown (host := "") (Or.inl (hw _ (List.mem_of_getElem? (i := 11) rfl))) Via.refl e7 F13 (g := (mkF m 80 #[.val (.ref f), .val (.int it), .val (.long ct), .second, .val (.int (gs (it.toNatClampNeg)))] [(.ref f), (.ref f)])) rfl rfl (hb hby dr41_80)
  refine Go.st (mkF m 83 #[.val (.ref f), .val (.int it), .val (.long ct), .second, .val (.int (gs (it.toNatClampNeg)))] [(.ref lv), (.ref f)]) (fun _ k => st21 _ k) ?_
  refine Go.st (mkF m 84 #[.val (.ref f), .val (.int it), .val (.long ct), .second, .val (.int (gs (it.toNatClampNeg)))] [(.ref f), (.ref lv), (.ref f)]) (fun _ k => XS.aloadN X21.here hx rfl (hb hby dr41_83) rfl rfl k) ?_
  obtain ⟨T22, X22, e22, st22⟩ := getF X21 hx hZ hown (host := "") (Or.inl (hw _ (List.mem_of_getElem? (i := 31) rfl))) Via.refl e21 F15 (g := (mkF m 84 #[.val (.ref f), .val (.int it), .val (.long ct), .second, .val (.int (gs (it.toNatClampNeg)))] [(.ref f), (.ref lv), (.ref f)])) rfl rfl (hb hby dr41_84)
  refine Go.st (mkF m 87 #[.val (.ref f), .val (.int it), .val (.long ct), .second, .val (.int (gs (it.toNatClampNeg)))] [(.int (1 : Int32)), (.ref lv), (.ref f)]) (fun _ k => st22 _ k) ?_
  obtain ⟨_, _, ⟨T23, L23, k23, n23⟩, -, X23, ⟨Lc23, hQ23, l23, y23, z23⟩, st23⟩ := Jvm.LawKit.callS X22 hx (y := (⟨"com/example/nearpath/nearpath/answer/Frontier", "ensureRoom", "([II)[I"⟩ : MethodName)) hown (mvT hZ (hw _ (List.mem_of_getElem? (i := 42) rfl))) (mvT hZ (hw _ (List.mem_of_getElem? (i := 43) rfl))) (mvT hZ (hw _ (List.mem_of_getElem? (i := 2) rfl))) (mvT hZ (hw _ (List.mem_of_getElem? (i := 44) rfl))) (by decide) (backOf (W := 1) (rm_er1 l Z a0 hw [] lv gl h7 n0 (Nat.le_trans Z0 K7.1) V20) hZ (hw _ (List.mem_of_getElem? (i := 44) rfl)) (hw _ (List.mem_of_getElem? (i := 2) rfl)) (by decide) (by decide)) (g := (mkF m 87 #[.val (.ref f), .val (.int it), .val (.long ct), .second, .val (.int (gs (it.toNatClampNeg)))] [(.int (1 : Int32)), (.ref lv), (.ref f)])) rfl (by rw [hml]; rfl) (argsL := [(.ref lv), (.int (1 : Int32))]) (rest := [(.ref f)]) (lenOf pd_2 rfl) rfl (by show 2 * 0 + _ ≤ _; exact Nat.le_of_eq rfl) (hb hby dr41_87) (fun _ _ => ⟨rfl, e22, (by decide : 0 + 0 ≤ _), (by decide : 0 + 0 ≤ _)⟩)
  dsimp only [Pt.U, Pt.locs, Pt.cells, Pt.slots] at X23 l23 y23 z23 st23 hQ23
  subst l23 y23 z23
  obtain ⟨rfl, N23q, e23⟩ := hQ23
  have N23 := Fr.app N7 N23q
  refine Go.st (mkF m 90 #[.val (.ref f), .val (.int it), .val (.long ct), .second, .val (.int (gs (it.toNatClampNeg)))] [(.ref lv), (.ref f)]) (fun _ k => st23 _ k) ?_
  obtain ⟨T24, h24, X24, e24, W24, st24⟩ := putF X23 hx hZ hown (host := "") (Or.inl (hw _ (List.mem_of_getElem? (i := 11) rfl))) Via.refl e23 F13 E8q (Or.inl (hw _ (List.mem_of_getElem? (i := 12) rfl))) (hw _ (List.mem_of_getElem? (i := 1) rfl)) (ty := (.array .int)) (by decide) rfl rfl (g := (mkF m 90 #[.val (.ref f), .val (.int it), .val (.long ct), .second, .val (.int (gs (it.toNatClampNeg)))] [(.ref lv), (.ref f)])) rfl rfl (hb hby dr41_90)
  have E25q : Exa Z h24 f "com/example/nearpath/nearpath/answer/Frontier" := E8q.wr W24
  have F26 : Fld Z h24 f "com/example/nearpath/nearpath/answer/Frontier" "seen" "[I" (.ref sn) := F9.other W24 (Or.inr (slot_ne (Or.inr (hw _ (List.mem_of_getElem? (i := 19) rfl))) (Or.inl (hw _ (List.mem_of_getElem? (i := 12) rfl))) (by decide) (t := (.array .int)) (t' := (.array .int)) (by decide) (by decide)))
  have F27 : Fld Z h24 f "com/example/nearpath/nearpath/answer/Frontier" "maxCost" "J" (.long (3 : Int64)) := F10.other W24 (Or.inr (slot_ne (Or.inr (hw _ (List.mem_of_getElem? (i := 21) rfl))) (Or.inl (hw _ (List.mem_of_getElem? (i := 12) rfl))) (by decide) (t := .long) (t' := (.array .int)) (by decide) (by decide)))
  have F28 : Fld Z h24 f "com/example/nearpath/nearpath/answer/Frontier" "search" "I" (.int vS) := F11.other W24 (Or.inr (slot_ne (Or.inl (hw _ (List.mem_of_getElem? (i := 36) rfl))) (Or.inl (hw _ (List.mem_of_getElem? (i := 12) rfl))) (by decide) (t := .int) (t' := (.array .int)) (by decide) (by decide)))
  have F29 : Fld Z h24 f "com/example/nearpath/nearpath/answer/Frontier" "cost" "J" (.long vc) := F12.other W24 (Or.inr (slot_ne (Or.inl (hw _ (List.mem_of_getElem? (i := 34) rfl))) (Or.inl (hw _ (List.mem_of_getElem? (i := 12) rfl))) (by decide) (t := .long) (t' := (.array .int)) (by decide) (by decide)))
  have F30 : Fld Z h24 f "com/example/nearpath/nearpath/answer/Frontier" "level" "[I" (.ref lv) := F13.same W24
  have F31 : Fld Z h24 f "com/example/nearpath/nearpath/answer/Frontier" "levelHead" "I" (.int lh) := F14.other W24 (Or.inr (slot_ne (Or.inl (hw _ (List.mem_of_getElem? (i := 30) rfl))) (Or.inl (hw _ (List.mem_of_getElem? (i := 12) rfl))) (by decide) (t := .int) (t' := (.array .int)) (by decide) (by decide)))
  have F32 : Fld Z h24 f "com/example/nearpath/nearpath/answer/Frontier" "levelTail" "I" (.int (1 : Int32)) := F15.other W24 (Or.inr (slot_ne (Or.inl (hw _ (List.mem_of_getElem? (i := 32) rfl))) (Or.inl (hw _ (List.mem_of_getElem? (i := 12) rfl))) (by decide) (t := .int) (t' := (.array .int)) (by decide) (by decide)))
  have F33 : Fld Z h24 f "com/example/nearpath/nearpath/answer/Frontier" "heapCosts" "[J" (.ref hc) := F16.other W24 (Or.inr (slot_ne (Or.inl (hw _ (List.mem_of_getElem? (i := 15) rfl))) (Or.inl (hw _ (List.mem_of_getElem? (i := 12) rfl))) (by decide) (t := (.array .long)) (t' := (.array .int)) (by decide) (by decide)))
  have F34 : Fld Z h24 f "com/example/nearpath/nearpath/answer/Frontier" "heapItems" "[I" (.ref hi) := F17.other W24 (Or.inr (slot_ne (Or.inl (hw _ (List.mem_of_getElem? (i := 17) rfl))) (Or.inl (hw _ (List.mem_of_getElem? (i := 12) rfl))) (by decide) (t := (.array .int)) (t' := (.array .int)) (by decide) (by decide)))
  have F35 : Fld Z h24 f "com/example/nearpath/nearpath/answer/Frontier" "heapSize" "I" (.int hs) := F18.other W24 (Or.inr (slot_ne (Or.inl (hw _ (List.mem_of_getElem? (i := 28) rfl))) (Or.inl (hw _ (List.mem_of_getElem? (i := 12) rfl))) (by decide) (t := .int) (t' := (.array .int)) (by decide) (by decide)))
  have V36 : Ary Z h24 sn .int 4 (bts (updI gs (it.toNatClampNeg) vS)) := V19.other W24 (Ne.symm pr22)
  have V37 : Ary Z h24 lv .int 16 (bts gl) := V20.other W24 (Ne.symm pr21)
  have K24 : Keep h0 h24 [f, lv, sn] := K7.wr W24 (Or.inl (by simp))
  have N24 := Fr.snoc X24 N23 pr18
  refine Go.st (mkF m 93 #[.val (.ref f), .val (.int it), .val (.long ct), .second, .val (.int (gs (it.toNatClampNeg)))] []) (fun _ k => st24 _ k) ?_
  refine Go.st (mkF m 94 #[.val (.ref f), .val (.int it), .val (.long ct), .second, .val (.int (gs (it.toNatClampNeg)))] [(.ref f)]) (fun _ k => XS.aloadN X24.here hx rfl (hb hby dr41_93) rfl rfl k) ?_
  obtain ⟨T38, X38, e38, st38⟩ := getF X24 hx hZ hown (host := "") (Or.inl (hw _ (List.mem_of_getElem? (i := 11) rfl))) Via.refl e24 F30 (g := (mkF m 94 #[.val (.ref f), .val (.int it), .val (.long ct), .second, .val (.int (gs (it.toNatClampNeg)))] [(.ref f)])) rfl rfl (hb hby dr41_94)
  refine Go.st (mkF m 97 #[.val (.ref f), .val (.int it), .val (.long ct), .second, .val (.int (gs (it.toNatClampNeg)))] [(.ref lv)]) (fun _ k => st38 _ k) ?_
  refine Go.st (mkF m 98 #[.val (.ref f), .val (.int it), .val (.long ct), .second, .val (.int (gs (it.toNatClampNeg)))] [(.ref f), (.ref lv)]) (fun _ k => XS.aloadN X38.here hx rfl (hb hby dr41_97) rfl rfl k) ?_
  refine Go.st (mkF m 99 #[.val (.ref f), .val (.int it), .val (.long ct), .second, .val (.int (gs (it.toNatClampNeg)))] [(.ref f), (.ref f), (.ref lv)]) (fun _ k => XS.dup X38.here hx rfl (hb hby dr41_98) rfl rfl k) ?_
  obtain ⟨T39, X39, e39, st39⟩ := getF X38 hx hZ hown (host := "") (Or.inl (hw _ (List.mem_of_getElem? (i := 31) rfl))) Via.refl e38 F32 (g := (mkF m 99 #[.val (.ref f), .val (.int it), .val (.long ct), .second, .val (.int (gs (it.toNatClampNeg)))] [(.ref f), (.ref f), (.ref lv)])) rfl rfl (hb hby dr41_99)
  refine Go.st (mkF m 102 #[.val (.ref f), .val (.int it), .val (.long ct), .second, .val (.int (gs (it.toNatClampNeg)))] [(.int (1 : Int32)), (.ref f), (.ref lv)]) (fun _ k => st39 _ k) ?_
  refine Go.st (mkF m 103 #[.val (.ref f), .val (.int it), .val (.long ct), .second, .val (.int (gs (it.toNatClampNeg)))] [(.int (1 : Int32)), (.ref f), (.int (1 : Int32)), (.ref lv)]) (fun _ k => XT.dupX1 X39.here hx rfl (hb hby dr41_102) rfl rfl rfl k) ?_
  refine Go.st (mkF m 104 #[.val (.ref f), .val (.int it), .val (.long ct), .second, .val (.int (gs (it.toNatClampNeg)))] [(.int (1 : Int32)), (.int (1 : Int32)), (.ref f), (.int (1 : Int32)), (.ref lv)]) (fun _ k => XS.iconst X39.here hx rfl (hb hby dr41_103) k) ?_
  refine Go.st (mkF m 105 #[.val (.ref f), .val (.int it), .val (.long ct), .second, .val (.int (gs (it.toNatClampNeg)))] [(.int (2 : Int32)), (.ref f), (.int (1 : Int32)), (.ref lv)]) (fun _ k => XS.iadd X39.here hx rfl (hb hby dr41_104) rfl k) ?_
  obtain ⟨T40, h40, X40, e40, W40, st40⟩ := putF X39 hx hZ hown (host := "") (Or.inl (hw _ (List.mem_of_getElem? (i := 31) rfl))) Via.refl e39 F32 E25q (Or.inl (hw _ (List.mem_of_getElem? (i := 32) rfl))) (hw _ (List.mem_of_getElem? (i := 1) rfl)) (ty := .int) (by decide) rfl rfl (g := (mkF m 105 #[.val (.ref f), .val (.int it), .val (.long ct), .second, .val (.int (gs (it.toNatClampNeg)))] [(.int (2 : Int32)), (.ref f), (.int (1 : Int32)), (.ref lv)])) rfl rfl (hb hby dr41_105)
  have E41q : Exa Z h40 f "com/example/nearpath/nearpath/answer/Frontier" := E25q.wr W40
  have F42 : Fld Z h40 f "com/example/nearpath/nearpath/answer/Frontier" "seen" "[I" (.ref sn) := F26.other W40 (Or.inr (slot_ne (Or.inr (hw _ (List.mem_of_getElem? (i := 19) rfl))) (Or.inl (hw _ (List.mem_of_getElem? (i := 32) rfl))) (by decide) (t := (.array .int)) (t' := .int) (by decide) (by decide)))
  have F43 : Fld Z h40 f "com/example/nearpath/nearpath/answer/Frontier" "maxCost" "J" (.long (3 : Int64)) := F27.other W40 (Or.inr (slot_ne (Or.inr (hw _ (List.mem_of_getElem? (i := 21) rfl))) (Or.inl (hw _ (List.mem_of_getElem? (i := 32) rfl))) (by decide) (t := .long) (t' := .int) (by decide) (by decide)))
  have F44 : Fld Z h40 f "com/example/nearpath/nearpath/answer/Frontier" "search" "I" (.int vS) := F28.other W40 (Or.inr (slot_ne (Or.inl (hw _ (List.mem_of_getElem? (i := 36) rfl))) (Or.inl (hw _ (List.mem_of_getElem? (i := 32) rfl))) (by decide) (t := .int) (t' := .int) (by decide) (by decide)))
  have F45 : Fld Z h40 f "com/example/nearpath/nearpath/answer/Frontier" "cost" "J" (.long vc) := F29.other W40 (Or.inr (slot_ne (Or.inl (hw _ (List.mem_of_getElem? (i := 34) rfl))) (Or.inl (hw _ (List.mem_of_getElem? (i := 32) rfl))) (by decide) (t := .long) (t' := .int) (by decide) (by decide)))
  have F46 : Fld Z h40 f "com/example/nearpath/nearpath/answer/Frontier" "level" "[I" (.ref lv) := F30.other W40 (Or.inr (slot_ne (Or.inl (hw _ (List.mem_of_getElem? (i := 12) rfl))) (Or.inl (hw _ (List.mem_of_getElem? (i := 32) rfl))) (by decide) (t := (.array .int)) (t' := .int) (by decide) (by decide)))
  have F47 : Fld Z h40 f "com/example/nearpath/nearpath/answer/Frontier" "levelHead" "I" (.int lh) := F31.other W40 (Or.inr (slot_ne (Or.inl (hw _ (List.mem_of_getElem? (i := 30) rfl))) (Or.inl (hw _ (List.mem_of_getElem? (i := 32) rfl))) (by decide) (t := .int) (t' := .int) (by decide) (by decide)))
  have F48 : Fld Z h40 f "com/example/nearpath/nearpath/answer/Frontier" "levelTail" "I" (.int (2 : Int32)) := F32.same W40
  have F49 : Fld Z h40 f "com/example/nearpath/nearpath/answer/Frontier" "heapCosts" "[J" (.ref hc) := F33.other W40 (Or.inr (slot_ne (Or.inl (hw _ (List.mem_of_getElem? (i := 15) rfl))) (Or.inl (hw _ (List.mem_of_getElem? (i := 32) rfl))) (by decide) (t := (.array .long)) (t' := .int) (by decide) (by decide)))
  have F50 : Fld Z h40 f "com/example/nearpath/nearpath/answer/Frontier" "heapItems" "[I" (.ref hi) := F34.other W40 (Or.inr (slot_ne (Or.inl (hw _ (List.mem_of_getElem? (i := 17) rfl))) (Or.inl (hw _ (List.mem_of_getElem? (i := 32) rfl))) (by decide) (t := (.array .int)) (t' := .int) (by decide) (by decide)))
  have F51 : Fld Z h40 f "com/example/nearpath/nearpath/answer/Frontier" "heapSize" "I" (.int hs) := F35.other W40 (Or.inr (slot_ne (Or.inl (hw _ (List.mem_of_getElem? (i := 28) rfl))) (Or.inl (hw _ (List.mem_of_getElem? (i := 32) rfl))) (by decide) (t := .int) (t' := .int) (by decide) (by decide)))
  have V52 : Ary Z h40 sn .int 4 (bts (updI gs (it.toNatClampNeg) vS)) := V36.other W40 (Ne.symm pr22)
  have V53 : Ary Z h40 lv .int 16 (bts gl) := V37.other W40 (Ne.symm pr21)
  have K40 : Keep h0 h40 [f, lv, sn] := K24.wr W40 (Or.inl (by simp))
  have N40 := Fr.snoc X40 N24 pr18
  refine Go.st (mkF m 108 #[.val (.ref f), .val (.int it), .val (.long ct), .second, .val (.int (gs (it.toNatClampNeg)))] [(.int (1 : Int32)), (.ref lv)]) (fun _ k => st40 _ k) ?_
  refine Go.st (mkF m 109 #[.val (.ref f), .val (.int it), .val (.long ct), .second, .val (.int (gs (it.toNatClampNeg)))] [(.int it), (.int (1 : Int32)), (.ref lv)]) (fun _ k => XS.iloadN X40.here hx rfl (hb hby dr41_108) rfl k) ?_
  obtain ⟨T54, h54, X54, e54, W54, st54⟩ := stAI X40 hx hZ e40 V53 (i := 1) (by decide) (by decide) (by decide) (g := (mkF m 109 #[.val (.ref f), .val (.int it), .val (.long ct), .second, .val (.int (gs (it.toNatClampNeg)))] [(.int it), (.int (1 : Int32)), (.ref lv)])) rfl rfl (hb hby dr41_109)
  have E55q : Exa Z h54 f "com/example/nearpath/nearpath/answer/Frontier" := E41q.wr W54
  have F56 : Fld Z h54 f "com/example/nearpath/nearpath/answer/Frontier" "seen" "[I" (.ref sn) := F42.other W54 (Or.inl pr21)
  have F57 : Fld Z h54 f "com/example/nearpath/nearpath/answer/Frontier" "maxCost" "J" (.long (3 : Int64)) := F43.other W54 (Or.inl pr21)
  have F58 : Fld Z h54 f "com/example/nearpath/nearpath/answer/Frontier" "search" "I" (.int vS) := F44.other W54 (Or.inl pr21)
  have F59 : Fld Z h54 f "com/example/nearpath/nearpath/answer/Frontier" "cost" "J" (.long vc) := F45.other W54 (Or.inl pr21)
  have F60 : Fld Z h54 f "com/example/nearpath/nearpath/answer/Frontier" "level" "[I" (.ref lv) := F46.other W54 (Or.inl pr21)
  have F61 : Fld Z h54 f "com/example/nearpath/nearpath/answer/Frontier" "levelHead" "I" (.int lh) := F47.other W54 (Or.inl pr21)
  have F62 : Fld Z h54 f "com/example/nearpath/nearpath/answer/Frontier" "levelTail" "I" (.int (2 : Int32)) := F48.other W54 (Or.inl pr21)
  have F63 : Fld Z h54 f "com/example/nearpath/nearpath/answer/Frontier" "heapCosts" "[J" (.ref hc) := F49.other W54 (Or.inl pr21)
  have F64 : Fld Z h54 f "com/example/nearpath/nearpath/answer/Frontier" "heapItems" "[I" (.ref hi) := F50.other W54 (Or.inl pr21)
  have F65 : Fld Z h54 f "com/example/nearpath/nearpath/answer/Frontier" "heapSize" "I" (.int hs) := F51.other W54 (Or.inl pr21)
  have V66 : Ary Z h54 sn .int 4 (bts (updI gs (it.toNatClampNeg) vS)) := V52.other W54 (Ne.symm pr23)
  have V67 : Ary Z h54 lv .int 16 (bts (updI gl 1 it)) := V53.sameB W54
  have K54 : Keep h0 h54 [f, lv, sn] := K40.wr W54 (Or.inl (by simp))
  have N54 := Fr.snoc X54 N40 pr19
  refine Go.st (mkF m 110 #[.val (.ref f), .val (.int it), .val (.long ct), .second, .val (.int (gs (it.toNatClampNeg)))] []) (fun _ k => st54 _ k) ?_
  refine Go.st (mkF m 176 #[.val (.ref f), .val (.int it), .val (.long ct), .second, .val (.int (gs (it.toNatClampNeg)))] []) (fun _ k => XS.goto X54.here hx rfl (pc0 := 110) (pc' := 176) rfl (hb hby dr41_110) (by decide) (by decide) k) ?_
  exact Go.retV X54 hx Bd.notSynchronized Bd.returns (hb hby dr41_176) (by rw [e54]; exact ⟨rfl, N54, K54, F56, F57, F58, F59, F60, F61, F62, F63, F64, F65, V67, V66⟩) (by decide) (by decide)
theorem dr50_0 : decode prog_12_method_3_code 0 = .ok (.aload_n 0, 1) := by decide +kernel
theorem dr50_1 : decode prog_12_method_3_code 1 = .ok (.getfield 20, 3) := by decide +kernel
theorem dr50_4 : decode prog_12_method_3_code 4 = .ok (.iload_n 1, 1) := by decide +kernel
theorem dr50_5 : decode prog_12_method_3_code 5 = .ok (.iaload, 1) := by decide +kernel
theorem dr50_6 : decode prog_12_method_3_code 6 = .ok (.istore 4, 2) := by decide +kernel
theorem dr50_8 : decode prog_12_method_3_code 8 = .ok (.lload_n 2, 1) := by decide +kernel
theorem dr50_9 : decode prog_12_method_3_code 9 = .ok (.aload_n 0, 1) := by decide +kernel
theorem dr50_10 : decode prog_12_method_3_code 10 = .ok (.getfield 23, 3) := by decide +kernel
theorem dr50_13 : decode prog_12_method_3_code 13 = .ok (.lcmp, 1) := by decide +kernel
theorem dr50_14 : decode prog_12_method_3_code 14 = .ok (.ifCond .gt 12, 3) := by decide +kernel
theorem dr50_17 : decode prog_12_method_3_code 17 = .ok (.iload 4, 2) := by decide +kernel
theorem dr50_19 : decode prog_12_method_3_code 19 = .ok (.aload_n 0, 1) := by decide +kernel
theorem dr50_20 : decode prog_12_method_3_code 20 = .ok (.getfield 40, 3) := by decide +kernel
theorem dr50_23 : decode prog_12_method_3_code 23 = .ok (.if_icmp .ne 4, 3) := by decide +kernel
theorem dr50_27 : decode prog_12_method_3_code 27 = .ok (.iload 4, 2) := by decide +kernel
theorem dr50_29 : decode prog_12_method_3_code 29 = .ok (.ifCond .ge 30, 3) := by decide +kernel
theorem dr50_59 : decode prog_12_method_3_code 59 = .ok (.lload_n 2, 1) := by decide +kernel
theorem dr50_60 : decode prog_12_method_3_code 60 = .ok (.aload_n 0, 1) := by decide +kernel
theorem dr50_61 : decode prog_12_method_3_code 61 = .ok (.getfield 37, 3) := by decide +kernel
theorem dr50_64 : decode prog_12_method_3_code 64 = .ok (.lcmp, 1) := by decide +kernel
theorem dr50_65 : decode prog_12_method_3_code 65 = .ok (.ifCond .ne 48, 3) := by decide +kernel
theorem dr50_113 : decode prog_12_method_3_code 113 = .ok (.aload_n 0, 1) := by decide +kernel
theorem dr50_114 : decode prog_12_method_3_code 114 = .ok (.getfield 27, 3) := by decide +kernel
theorem dr50_117 : decode prog_12_method_3_code 117 = .ok (.aload_n 0, 1) := by decide +kernel
theorem dr50_118 : decode prog_12_method_3_code 118 = .ok (.getfield 17, 3) := by decide +kernel
theorem dr50_121 : decode prog_12_method_3_code 121 = .ok (.arraylength, 1) := by decide +kernel
theorem dr50_122 : decode prog_12_method_3_code 122 = .ok (.if_icmp .ne 37, 3) := by decide +kernel
theorem dr50_159 : decode prog_12_method_3_code 159 = .ok (.aload_n 0, 1) := by decide +kernel
theorem dr50_160 : decode prog_12_method_3_code 160 = .ok (.iload_n 1, 1) := by decide +kernel
theorem dr50_161 : decode prog_12_method_3_code 161 = .ok (.lload_n 2, 1) := by decide +kernel
theorem dr50_162 : decode prog_12_method_3_code 162 = .ok (.aload_n 0, 1) := by decide +kernel
theorem dr50_163 : decode prog_12_method_3_code 163 = .ok (.dup, 1) := by decide +kernel
theorem dr50_164 : decode prog_12_method_3_code 164 = .ok (.getfield 27, 3) := by decide +kernel
theorem dr50_167 : decode prog_12_method_3_code 167 = .ok (.dup_x1, 1) := by decide +kernel
theorem dr50_168 : decode prog_12_method_3_code 168 = .ok (.iconst 1, 1) := by decide +kernel
theorem dr50_169 : decode prog_12_method_3_code 169 = .ok (.iadd, 1) := by decide +kernel
theorem dr50_170 : decode prog_12_method_3_code 170 = .ok (.putfield 27, 3) := by decide +kernel
theorem dr50_173 : decode prog_12_method_3_code 173 = .ok (.invokevirtual 43, 3) := by decide +kernel
theorem dr50_176 : decode prog_12_method_3_code 176 = .ok (.return_, 1) := by decide +kernel
theorem ef_r50 (m : MethodId) (f : Addr) (it : Int32) (ct : Int64) : entryFrame m #[(.ref f), (.int it), (.long ct)] 5 = (mkF m 0 #[.val (.ref f), .val (.int it), .val (.long ct), .second, .unset] []) := by first | (simp [entryFrame, mkF, argsToLocals, Value.category]; done) | rfl
def Q_r50 (Z : State) (f : Addr) (it : Int32) (ct : Int64) (lv : Addr) (hc : Addr) (hi : Addr) (sn : Addr) (vS : Int32) (vc : Int64) (lh : Int32) (lt : Int32) (gc : Nat → Int64) (gi : Nat → Int32) (gs : Nat → Int32) (h0 : Heap) (n0 : Nat) (vv : Option Value) (hE : Heap) (LE : List Loc) : Prop := vv = none ∧ Fr n0 LE ∧ Keep h0 hE [f, hc, hi, sn] ∧ Fld Z hE f "com/example/nearpath/nearpath/answer/Frontier" "seen" "[I" (.ref sn) ∧ Fld Z hE f "com/example/nearpath/nearpath/answer/Frontier" "maxCost" "J" (.long (3 : Int64)) ∧ Fld Z hE f "com/example/nearpath/nearpath/answer/Frontier" "search" "I" (.int vS) ∧ Fld Z hE f "com/example/nearpath/nearpath/answer/Frontier" "cost" "J" (.long vc) ∧ Fld Z hE f "com/example/nearpath/nearpath/answer/Frontier" "level" "[I" (.ref lv) ∧ Fld Z hE f "com/example/nearpath/nearpath/answer/Frontier" "levelHead" "I" (.int lh) ∧ Fld Z hE f "com/example/nearpath/nearpath/answer/Frontier" "levelTail" "I" (.int lt) ∧ Fld Z hE f "com/example/nearpath/nearpath/answer/Frontier" "heapCosts" "[J" (.ref hc) ∧ Fld Z hE f "com/example/nearpath/nearpath/answer/Frontier" "heapItems" "[I" (.ref hi) ∧ Fld Z hE f "com/example/nearpath/nearpath/answer/Frontier" "heapSize" "I" (.int (1 : Int32)) ∧ Ary Z hE hc .long 16 (lts (updJ gc 0 ct)) ∧ Ary Z hE hi .int 16 (bts (updI gi 0 it)) ∧ Ary Z hE sn .int 4 (bts (updI gs (it.toNatClampNeg) (-1 : Int32)))
set_option maxRecDepth 65536 in
set_option maxHeartbeats 40000000 in
theorem rm_r50 (l : Launch) (Z : State) (a0 : Array Value) (hw : ∀ d ∈ tables_1, d.before a0 Z = true) (ws : List Jvm.Cond) (f : Addr) (it : Int32) (ct : Int64) (lv : Addr) (hc : Addr) (hi : Addr) (sn : Addr) (vS : Int32) (vc : Int64) (lh : Int32) (lt : Int32) (gc : Nat → Int64) (gi : Nat → Int32) (gs : Nat → Int32) (h0 : Heap) (n0 : Nat) (Z0 : n0 ≤ h0.size) (pr0 : Exa Z h0 f "com/example/nearpath/nearpath/answer/Frontier") (pr1 : Fld Z h0 f "com/example/nearpath/nearpath/answer/Frontier" "seen" "[I" (.ref sn)) (pr2 : Fld Z h0 f "com/example/nearpath/nearpath/answer/Frontier" "maxCost" "J" (.long (3 : Int64))) (pr3 : Fld Z h0 f "com/example/nearpath/nearpath/answer/Frontier" "search" "I" (.int vS)) (pr4 : Fld Z h0 f "com/example/nearpath/nearpath/answer/Frontier" "cost" "J" (.long vc)) (pr5 : Fld Z h0 f "com/example/nearpath/nearpath/answer/Frontier" "level" "[I" (.ref lv)) (pr6 : Fld Z h0 f "com/example/nearpath/nearpath/answer/Frontier" "levelHead" "I" (.int lh)) (pr7 : Fld Z h0 f "com/example/nearpath/nearpath/answer/Frontier" "levelTail" "I" (.int lt)) (pr8 : Fld Z h0 f "com/example/nearpath/nearpath/answer/Frontier" "heapCosts" "[J" (.ref hc)) (pr9 : Fld Z h0 f "com/example/nearpath/nearpath/answer/Frontier" "heapItems" "[I" (.ref hi)) (pr10 : Fld Z h0 f "com/example/nearpath/nearpath/answer/Frontier" "heapSize" "I" (.int (0 : Int32))) (pr11 : Ary Z h0 sn .int 4 (bts gs)) (pr12 : Ary Z h0 hc .long 16 (lts gc)) (pr13 : Ary Z h0 hi .int 16 (bts gi)) (pr14 : In4 it) (pr15 : ¬ (3 : Int64) < ct) (pr16 : ¬ (gs (it.toNatClampNeg)) = vS) (pr17 : ¬ (gs (it.toNatClampNeg)) < (0 : Int32)) (pr18 : ¬ ct = vc) (pr19 : n0 ≤ f) (pr20 : n0 ≤ hc) (pr21 : n0 ≤ hi) (pr22 : n0 ≤ sn) (pr23 : f ≠ hc) (pr24 : f ≠ hi) (pr25 : f ≠ sn) (pr26 : hc ≠ hi) (pr27 : hc ≠ sn) (pr28 : hi ≠ sn) :
    MetFree l (⟨"com/example/nearpath/nearpath/answer/Frontier", "reach", "(IJ)V"⟩ : MethodName) (head1 (Jvm.Cond.code (⟨"com/example/nearpath/nearpath/answer/Frontier", "reach", "(IJ)V"⟩ : MethodName) prog_12_method_3_code 5 none :: ws) ({ frames := 2, cells := 0, slots := 0, locals := 32 } : Room)) (fun aa UU => aa = #[(.ref f), (.int it), (.long ct)] ∧ Z.Warmed39 UU.vm ∧ UU.heap = h0) (fun _ _ _ _ _ => True) (fun _ UU oo UU' => ∃ vv LL, oo = .returned vv ∧ Q_r50 Z f it ct lv hc hi sn vS vc lh lt gc gi gs h0 n0 vv UU'.heap LL ∧ FrameEnd UU oo UU' LL ({ frames := 2, cells := 0, slots := 0, locals := 32 } : Room).cells ({ frames := 2, cells := 0, slots := 0, locals := 32 } : Room).slots) := by
  refine MetFree.of_bodySF (plainFor_of_name pn_0) hisR ?_
  intro p e s m args below meth c s₁ Bd hml0 hP hK
  obtain ⟨rfl, hZ, hh⟩ := hP
  have hx := Bd.exec
  have hby := Bd.bytes
  have hml : c.maxLocals = 5 := hml0
  have hown : s.vm.findClass "com/example/nearpath/nearpath/answer/Frontier" = some m.cls := findClass_of_methodNamed Bd.named
  have hnm := (name_of_methodNamed Bd.named Bd.method).1
  have X0 : Stand p l e ({ frames := 2, cells := 0, slots := 0, locals := 32 } : Room) s m #[(.ref f), (.int it), (.long ct)] below meth c s₁ [] 0 0 := Stand.of_body Bd
  have e0 : s₁.heap = h0 := by rw [← hh, Bd.state]; rfl
  have N0 := Fr.nil n0
  have K0 := Keep.refl h0 [f, hc, hi, sn]
  show Go p e below s (Q_r50 Z f it ct lv hc hi sn vS vc lh lt gc gi gs h0 n0) 0 0 s₁ (entryFrame m #[(.ref f), (.int it), (.long ct)] 5)
  refine Go.of_eq (ef_r50 m f it ct) ?_
  refine Go.st (mkF m 1 #[.val (.ref f), .val (.int it), .val (.long ct), .second, .unset] [(.ref f)]) (fun _ k => XS.aloadN X0.here hx rfl (hb hby dr50_0) rfl rfl k) ?_
  obtain ⟨T1, X1, e1, st1⟩ := getF X0 hx hZ hown (host := "") (Or.inl (hw _ (List.mem_of_getElem? (i := 18) rfl))) Via.refl e0 pr1 (g := (mkF m 1 #[.val (.ref f), .val (.int it), .val (.long ct), .second, .unset] [(.ref f)])) rfl rfl (hb hby dr50_1)
  refine Go.st (mkF m 4 #[.val (.ref f), .val (.int it), .val (.long ct), .second, .unset] [(.ref sn)]) (fun _ k => st1 _ k) ?_
  refine Go.st (mkF m 5 #[.val (.ref f), .val (.int it), .val (.long ct), .second, .unset] [(.int it), (.ref sn)]) (fun _ k => XS.iloadN X1.here hx rfl (hb hby dr50_4) rfl k) ?_
  refine Go.st (mkF m 6 #[.val (.ref f), .val (.int it), .val (.long ct), .second, .unset] [(.int (gs (it.toNatClampNeg)))]) (fun _ k => ldI X1 hx hZ e1 pr11 (i := it.toNatClampNeg) (own_in4 pr14).1 rfl (own_in4 pr14).2 (v := (.int (gs (it.toNatClampNeg)))) rfl (g := (mkF m 5 #[.val (.ref f), .val (.int it), .val (.long ct), .second, .unset] [(.int it), (.ref sn)])) rfl rfl (hb hby dr50_5) _ k) ?_
  refine Go.st (mkF m 8 #[.val (.ref f), .val (.int it), .val (.long ct), .second, .val (.int (gs (it.toNatClampNeg)))] []) (fun _ k => XS.istore X1.here hx rfl (hb hby dr50_6) rfl (l' := #[.val (.ref f), .val (.int it), .val (.long ct), .second, .val (.int (gs (it.toNatClampNeg)))]) rfl k) ?_
  refine Go.st (mkF m 9 #[.val (.ref f), .val (.int it), .val (.long ct), .second, .val (.int (gs (it.toNatClampNeg)))] [(.long ct)]) (fun _ k => XT.lloadN X1.here hx rfl (hb hby dr50_8) rfl k) ?_
  refine Go.st (mkF m 10 #[.val (.ref f), .val (.int it), .val (.long ct), .second, .val (.int (gs (it.toNatClampNeg)))] [(.ref f), (.long ct)]) (fun _ k => XS.aloadN X1.here hx rfl (hb hby dr50_9) rfl rfl k) ?_
  obtain ⟨T2, X2, e2, st2⟩ := getF X1 hx hZ hown (host := "") (Or.inl (hw _ (List.mem_of_getElem? (i := 20) rfl))) Via.refl e1 pr2 (g := (mkF m 10 #[.val (.ref f), .val (.int it), .val (.long ct), .second, .val (.int (gs (it.toNatClampNeg)))] [(.ref f), (.long ct)])) rfl rfl (hb hby dr50_10)
  refine Go.st (mkF m 13 #[.val (.ref f), .val (.int it), .val (.long ct), .second, .val (.int (gs (it.toNatClampNeg)))] [(.long (3 : Int64)), (.long ct)]) (fun _ k => st2 _ k) ?_
  refine Go.st (mkF m 14 #[.val (.ref f), .val (.int it), .val (.long ct), .second, .val (.int (gs (it.toNatClampNeg)))] [(.int (cmpL ct (3 : Int64)))]) (fun _ k => XT.lcmp X2.here hx rfl (hb hby dr50_13) rfl k) ?_
  refine Go.st (mkF m 17 #[.val (.ref f), .val (.int it), .val (.long ct), .second, .val (.int (gs (it.toNatClampNeg)))] []) (fun _ k => XS.ifNo X2.here hx rfl (hb hby dr50_14) rfl (own_lgF pr15).1 k) ?_
  refine Go.st (mkF m 19 #[.val (.ref f), .val (.int it), .val (.long ct), .second, .val (.int (gs (it.toNatClampNeg)))] [(.int (gs (it.toNatClampNeg)))]) (fun _ k => XS.iload X2.here hx rfl (hb hby dr50_17) rfl k) ?_
  refine Go.st (mkF m 20 #[.val (.ref f), .val (.int it), .val (.long ct), .second, .val (.int (gs (it.toNatClampNeg)))] [(.ref f), (.int (gs (it.toNatClampNeg)))]) (fun _ k => XS.aloadN X2.here hx rfl (hb hby dr50_19) rfl rfl k) ?_
  obtain ⟨T3, X3, e3, st3⟩ := getF X2 hx hZ hown (host := "") (Or.inl (hw _ (List.mem_of_getElem? (i := 35) rfl))) Via.refl e2 pr3 (g := (mkF m 20 #[.val (.ref f), .val (.int it), .val (.long ct), .second, .val (.int (gs (it.toNatClampNeg)))] [(.ref f), (.int (gs (it.toNatClampNeg)))])) rfl rfl (hb hby dr50_20)
  refine Go.st (mkF m 23 #[.val (.ref f), .val (.int it), .val (.long ct), .second, .val (.int (gs (it.toNatClampNeg)))] [(.int vS), (.int (gs (it.toNatClampNeg)))]) (fun _ k => st3 _ k) ?_
  refine Go.st (mkF m 27 #[.val (.ref f), .val (.int it), .val (.long ct), .second, .val (.int (gs (it.toNatClampNeg)))] []) (fun _ k => XS.icmpYes X3.here hx rfl (pc0 := 23) (pc' := 27) rfl (hb hby dr50_23) rfl (feq pr16).2 (by decide) (by decide) k) ?_
  refine Go.st (mkF m 29 #[.val (.ref f), .val (.int it), .val (.long ct), .second, .val (.int (gs (it.toNatClampNeg)))] [(.int (gs (it.toNatClampNeg)))]) (fun _ k => XS.iload X3.here hx rfl (hb hby dr50_27) rfl k) ?_
  refine Go.st (mkF m 59 #[.val (.ref f), .val (.int it), .val (.long ct), .second, .val (.int (gs (it.toNatClampNeg)))] []) (fun _ k => XS.ifYes X3.here hx rfl (pc0 := 29) (pc' := 59) rfl (hb hby dr50_29) rfl ((if0 _ _).trans (flt pr17).2.1) (by decide) (by decide) k) ?_
  refine Go.st (mkF m 60 #[.val (.ref f), .val (.int it), .val (.long ct), .second, .val (.int (gs (it.toNatClampNeg)))] [(.long ct)]) (fun _ k => XT.lloadN X3.here hx rfl (hb hby dr50_59) rfl k) ?_
  refine Go.st (mkF m 61 #[.val (.ref f), .val (.int it), .val (.long ct), .second, .val (.int (gs (it.toNatClampNeg)))] [(.ref f), (.long ct)]) (fun _ k => XS.aloadN X3.here hx rfl (hb hby dr50_60) rfl rfl k) ?_
  obtain ⟨T4, X4, e4, st4⟩ := getF X3 hx hZ hown (host := "") (Or.inl (hw _ (List.mem_of_getElem? (i := 33) rfl))) Via.refl e3 pr4 (g := (mkF m 61 #[.val (.ref f), .val (.int it), .val (.long ct), .second, .val (.int (gs (it.toNatClampNeg)))] [(.ref f), (.long ct)])) rfl rfl (hb hby dr50_61)
  refine Go.st (mkF m 64 #[.val (.ref f), .val (.int it), .val (.long ct), .second, .val (.int (gs (it.toNatClampNeg)))] [(.long vc), (.long ct)]) (fun _ k => st4 _ k) ?_
  refine Go.st (mkF m 65 #[.val (.ref f), .val (.int it), .val (.long ct), .second, .val (.int (gs (it.toNatClampNeg)))] [(.int (cmpL ct vc))]) (fun _ k => XT.lcmp X4.here hx rfl (hb hby dr50_64) rfl k) ?_
  refine Go.st (mkF m 113 #[.val (.ref f), .val (.int it), .val (.long ct), .second, .val (.int (gs (it.toNatClampNeg)))] []) (fun _ k => XS.ifYes X4.here hx rfl (pc0 := 65) (pc' := 113) rfl (hb hby dr50_65) rfl (own_leF pr18).2 (by decide) (by decide) k) ?_
  refine Go.st (mkF m 114 #[.val (.ref f), .val (.int it), .val (.long ct), .second, .val (.int (gs (it.toNatClampNeg)))] [(.ref f)]) (fun _ k => XS.aloadN X4.here hx rfl (hb hby dr50_113) rfl rfl k) ?_
  obtain ⟨T5, X5, e5, st5⟩ := getF X4 hx hZ hown (host := "") (Or.inl (hw _ (List.mem_of_getElem? (i := 27) rfl))) Via.refl e4 pr10 (g := (mkF m 114 #[.val (.ref f), .val (.int it), .val (.long ct), .second, .val (.int (gs (it.toNatClampNeg)))] [(.ref f)])) rfl rfl (hb hby dr50_114)
  refine Go.st (mkF m 117 #[.val (.ref f), .val (.int it), .val (.long ct), .second, .val (.int (gs (it.toNatClampNeg)))] [(.int (0 : Int32))]) (fun _ k => st5 _ k) ?_
  refine Go.st (mkF m 118 #[.val (.ref f), .val (.int it), .val (.long ct), .second, .val (.int (gs (it.toNatClampNeg)))] [(.ref f), (.int (0 : Int32))]) (fun _ k => XS.aloadN X5.here hx rfl (hb hby dr50_117) rfl rfl k) ?_
  obtain ⟨T6, X6, e6, st6⟩ := getF X5 hx hZ hown (host := "") (Or.inl (hw _ (List.mem_of_getElem? (i := 16) rfl))) Via.refl e5 pr9 (g := (mkF m 118 #[.val (.ref f), .val (.int it), .val (.long ct), .second, .val (.int (gs (it.toNatClampNeg)))] [(.ref f), (.int (0 : Int32))])) rfl rfl (hb hby dr50_118)
  refine Go.st (mkF m 121 #[.val (.ref f), .val (.int it), .val (.long ct), .second, .val (.int (gs (it.toNatClampNeg)))] [(.ref hi), (.int (0 : Int32))]) (fun _ k => st6 _ k) ?_
  refine Go.st (mkF m 122 #[.val (.ref f), .val (.int it), .val (.long ct), .second, .val (.int (gs (it.toNatClampNeg)))] [(.int (16 : Int32)), (.int (0 : Int32))]) (fun _ k => lenA X6 hx hZ e6 pr13 (z := (16 : Int32)) rfl (g := (mkF m 121 #[.val (.ref f), .val (.int it), .val (.long ct), .second, .val (.int (gs (it.toNatClampNeg)))] [(.ref hi), (.int (0 : Int32))])) rfl rfl (hb hby dr50_121) _ k) ?_
  refine Go.st (mkF m 159 #[.val (.ref f), .val (.int it), .val (.long ct), .second, .val (.int (gs (it.toNatClampNeg)))] []) (fun _ k => XS.icmpYes X6.here hx rfl (pc0 := 122) (pc' := 159) rfl (hb hby dr50_122) rfl (feq (by decide : ¬ ((0 : Int32) = (16 : Int32)))).2 (by decide) (by decide) k) ?_
  refine Go.st (mkF m 160 #[.val (.ref f), .val (.int it), .val (.long ct), .second, .val (.int (gs (it.toNatClampNeg)))] [(.ref f)]) (fun _ k => XS.aloadN X6.here hx rfl (hb hby dr50_159) rfl rfl k) ?_
  refine Go.st (mkF m 161 #[.val (.ref f), .val (.int it), .val (.long ct), .second, .val (.int (gs (it.toNatClampNeg)))] [(.int it), (.ref f)]) (fun _ k => XS.iloadN X6.here hx rfl (hb hby dr50_160) rfl k) ?_
  refine Go.st (mkF m 162 #[.val (.ref f), .val (.int it), .val (.long ct), .second, .val (.int (gs (it.toNatClampNeg)))] [(.long ct), (.int it), (.ref f)]) (fun _ k => XT.lloadN X6.here hx rfl (hb hby dr50_161) rfl k) ?_
  refine Go.st (mkF m 163 #[.val (.ref f), .val (.int it), .val (.long ct), .second, .val (.int (gs (it.toNatClampNeg)))] [(.ref f), (.long ct), (.int it), (.ref f)]) (fun _ k => XS.aloadN X6.here hx rfl (hb hby dr50_162) rfl rfl k) ?_
  refine Go.st (mkF m 164 #[.val (.ref f), .val (.int it), .val (.long ct), .second, .val (.int (gs (it.toNatClampNeg)))] [(.ref f), (.ref f), (.long ct), (.int it), (.ref f)]) (fun _ k => XS.dup X6.here hx rfl (hb hby dr50_163) rfl rfl k) ?_
  obtain ⟨T7, X7, e7, st7⟩ := getF X6 hx hZ hown (host := "") (Or.inl (hw _ (List.mem_of_getElem? (i := 27) rfl))) Via.refl e6 pr10 (g := (mkF m 164 #[.val (.ref f), .val (.int it), .val (.long ct), .second, .val (.int (gs (it.toNatClampNeg)))] [(.ref f), (.ref f), (.long ct), (.int it), (.ref f)])) rfl rfl (hb hby dr50_164)
  refine Go.st (mkF m 167 #[.val (.ref f), .val (.int it), .val (.long ct), .second, .val (.int (gs (it.toNatClampNeg)))] [(.int (0 : Int32)), (.ref f), (.long ct), (.int it), (.ref f)]) (fun _ k => st7 _ k) ?_
  refine Go.st (mkF m 168 #[.val (.ref f), .val (.int it), .val (.long ct), .second, .val (.int (gs (it.toNatClampNeg)))] [(.int (0 : Int32)), (.ref f), (.int (0 : Int32)), (.long ct), (.int it), (.ref f)]) (fun _ k => XT.dupX1 X7.here hx rfl (hb hby dr50_167) rfl rfl rfl k) ?_
  refine Go.st (mkF m 169 #[.val (.ref f), .val (.int it), .val (.long ct), .second, .val (.int (gs (it.toNatClampNeg)))] [(.int (1 : Int32)), (.int (0 : Int32)), (.ref f), (.int (0 : Int32)), (.long ct), (.int it), (.ref f)]) (fun _ k => XS.iconst X7.here hx rfl (hb hby dr50_168) k) ?_
  refine Go.st (mkF m 170 #[.val (.ref f), .val (.int it), .val (.long ct), .second, .val (.int (gs (it.toNatClampNeg)))] [(.int (1 : Int32)), (.ref f), (.int (0 : Int32)), (.long ct), (.int it), (.ref f)]) (fun _ k => XS.iadd X7.here hx rfl (hb hby dr50_169) rfl k) ?_
  obtain ⟨T8, h8, X8, e8, W8, st8⟩ := putF X7 hx hZ hown (host := "") (Or.inl (hw _ (List.mem_of_getElem? (i := 27) rfl))) Via.refl e7 pr10 pr0 (Or.inl (hw _ (List.mem_of_getElem? (i := 28) rfl))) (hw _ (List.mem_of_getElem? (i := 1) rfl)) (ty := .int) (by decide) rfl rfl (g := (mkF m 170 #[.val (.ref f), .val (.int it), .val (.long ct), .second, .val (.int (gs (it.toNatClampNeg)))] [(.int (1 : Int32)), (.ref f), (.int (0 : Int32)), (.long ct), (.int it), (.ref f)])) rfl rfl (hb hby dr50_170)
  have E9q : Exa Z h8 f "com/example/nearpath/nearpath/answer/Frontier" := pr0.wr W8
  have F10 : Fld Z h8 f "com/example/nearpath/nearpath/answer/Frontier" "seen" "[I" (.ref sn) := pr1.other W8 (Or.inr (slot_ne (Or.inr (hw _ (List.mem_of_getElem? (i := 19) rfl))) (Or.inl (hw _ (List.mem_of_getElem? (i := 28) rfl))) (by decide) (t := (.array .int)) (t' := .int) (by decide) (by decide)))
  have F11 : Fld Z h8 f "com/example/nearpath/nearpath/answer/Frontier" "maxCost" "J" (.long (3 : Int64)) := pr2.other W8 (Or.inr (slot_ne (Or.inr (hw _ (List.mem_of_getElem? (i := 21) rfl))) (Or.inl (hw _ (List.mem_of_getElem? (i := 28) rfl))) (by decide) (t := .long) (t' := .int) (by decide) (by decide)))
  have F12 : Fld Z h8 f "com/example/nearpath/nearpath/answer/Frontier" "search" "I" (.int vS) := pr3.other W8 (Or.inr (slot_ne (Or.inl (hw _ (List.mem_of_getElem? (i := 36) rfl))) (Or.inl (hw _ (List.mem_of_getElem? (i := 28) rfl))) (by decide) (t := .int) (t' := .int) (by decide) (by decide)))
  have F13 : Fld Z h8 f "com/example/nearpath/nearpath/answer/Frontier" "cost" "J" (.long vc) := pr4.other W8 (Or.inr (slot_ne (Or.inl (hw _ (List.mem_of_getElem? (i := 34) rfl))) (Or.inl (hw _ (List.mem_of_getElem? (i := 28) rfl))) (by decide) (t := .long) (t' := .int) (by decide) (by decide)))
  have F14 : Fld Z h8 f "com/example/nearpath/nearpath/answer/Frontier" "level" "[I" (.ref lv) := pr5.other W8 (Or.inr (slot_ne (Or.inl (hw _ (List.mem_of_getElem? (i := 12) rfl))) (Or.inl (hw _ (List.mem_of_getElem? (i := 28) rfl))) (by decide) (t := (.array .int)) (t' := .int) (by decide) (by decide)))
  have F15 : Fld Z h8 f "com/example/nearpath/nearpath/answer/Frontier" "levelHead" "I" (.int lh) := pr6.other W8 (Or.inr (slot_ne (Or.inl (hw _ (List.mem_of_getElem? (i := 30) rfl))) (Or.inl (hw _ (List.mem_of_getElem? (i := 28) rfl))) (by decide) (t := .int) (t' := .int) (by decide) (by decide)))
  have F16 : Fld Z h8 f "com/example/nearpath/nearpath/answer/Frontier" "levelTail" "I" (.int lt) := pr7.other W8 (Or.inr (slot_ne (Or.inl (hw _ (List.mem_of_getElem? (i := 32) rfl))) (Or.inl (hw _ (List.mem_of_getElem? (i := 28) rfl))) (by decide) (t := .int) (t' := .int) (by decide) (by decide)))
  have F17 : Fld Z h8 f "com/example/nearpath/nearpath/answer/Frontier" "heapCosts" "[J" (.ref hc) := pr8.other W8 (Or.inr (slot_ne (Or.inl (hw _ (List.mem_of_getElem? (i := 15) rfl))) (Or.inl (hw _ (List.mem_of_getElem? (i := 28) rfl))) (by decide) (t := (.array .long)) (t' := .int) (by decide) (by decide)))
  have F18 : Fld Z h8 f "com/example/nearpath/nearpath/answer/Frontier" "heapItems" "[I" (.ref hi) := pr9.other W8 (Or.inr (slot_ne (Or.inl (hw _ (List.mem_of_getElem? (i := 17) rfl))) (Or.inl (hw _ (List.mem_of_getElem? (i := 28) rfl))) (by decide) (t := (.array .int)) (t' := .int) (by decide) (by decide)))
  have F19 : Fld Z h8 f "com/example/nearpath/nearpath/answer/Frontier" "heapSize" "I" (.int (1 : Int32)) := pr10.same W8
  have V20 : Ary Z h8 sn .int 4 (bts gs) := pr11.other W8 (Ne.symm pr25)
  have V21 : Ary Z h8 hc .long 16 (lts gc) := pr12.other W8 (Ne.symm pr23)
  have V22 : Ary Z h8 hi .int 16 (bts gi) := pr13.other W8 (Ne.symm pr24)
  have K8 : Keep h0 h8 [f, hc, hi, sn] := K0.wr W8 (Or.inl (by simp))
  have N8 := Fr.snoc X8 N0 pr19
  refine Go.st (mkF m 173 #[.val (.ref f), .val (.int it), .val (.long ct), .second, .val (.int (gs (it.toNatClampNeg)))] [(.int (0 : Int32)), (.long ct), (.int it), (.ref f)]) (fun _ k => st8 _ k) ?_
  obtain ⟨cq23, q23a, q23b⟩ := E9q.cell
  have sl23 := selI (args := #[(.ref f), (.int it), (.long ct)]) hZ (hw _ (List.mem_of_getElem? (i := 1) rfl)) (hw _ (List.mem_of_getElem? (i := 57) rfl)) (hw _ (List.mem_of_getElem? (i := 56) rfl)) (by decide)
  obtain ⟨_, _, ⟨T23, L23, k23, n23⟩, -, X23, ⟨Lc23, hQ23, l23, y23, z23⟩, st23⟩ := X8.privateBack hx (y := (⟨"com/example/nearpath/nearpath/answer/Frontier", "siftUp", "(IJI)V"⟩ : MethodName)) hown (mvT hZ (hw _ (List.mem_of_getElem? (i := 55) rfl))) (mvT hZ (hw _ (List.mem_of_getElem? (i := 56) rfl))) sl23.1 sl23.2 (mvT hZ (hw _ (List.mem_of_getElem? (i := 58) rfl))) (by decide) (backOf (W := 0) (rm_su0 l Z a0 hw [] f it ct hc hi sn gc gi gs h8 n0 (Nat.le_trans Z0 K8.1) E9q F10 F17 F18 V21 V22 V20 (by first | assumption | decide) pr20 pr21 pr22 pr23 pr24 pr25 pr26 pr27 pr28) hZ (hw _ (List.mem_of_getElem? (i := 58) rfl)) (hw _ (List.mem_of_getElem? (i := 2) rfl)) (by decide) (by decide)) (g := (mkF m 173 #[.val (.ref f), .val (.int it), .val (.long ct), .second, .val (.int (gs (it.toNatClampNeg)))] [(.int (0 : Int32)), (.long ct), (.int it), (.ref f)])) rfl (by rw [hml]; rfl) (Steps.refl _) (a := f) (by rw [e8]; exact q23a) q23b (argsL := [(.int it), (.long ct), (.int (0 : Int32))]) (rest := []) (lenOf pd_0 rfl) rfl (by show 2 * 0 + _ ≤ _; exact Nat.le_of_eq rfl) (hb hby dr50_173) (fun _ _ => ⟨rfl, e8, (by decide : 0 + 0 ≤ _), (by decide : 0 + 0 ≤ _)⟩)
  dsimp only [Pt.U, Pt.locs, Pt.cells, Pt.slots] at X23 l23 y23 z23 st23 hQ23
  subst l23 y23 z23
  obtain ⟨rfl, N23q, K23q, V23_0, V23_1, V23_2⟩ := hQ23
  have N23 := Fr.app N8 N23q
  have E24q : Exa Z T23.heap f "com/example/nearpath/nearpath/answer/Frontier" := E9q.keep K23q
  have F25 : Fld Z T23.heap f "com/example/nearpath/nearpath/answer/Frontier" "seen" "[I" (.ref sn) := F10.keep K23q (ninS pr23 (ninS pr24 (ninS pr25 nin0)))
  have F26 : Fld Z T23.heap f "com/example/nearpath/nearpath/answer/Frontier" "maxCost" "J" (.long (3 : Int64)) := F11.keep K23q (ninS pr23 (ninS pr24 (ninS pr25 nin0)))
  have F27 : Fld Z T23.heap f "com/example/nearpath/nearpath/answer/Frontier" "search" "I" (.int vS) := F12.keep K23q (ninS pr23 (ninS pr24 (ninS pr25 nin0)))
  have F28 : Fld Z T23.heap f "com/example/nearpath/nearpath/answer/Frontier" "cost" "J" (.long vc) := F13.keep K23q (ninS pr23 (ninS pr24 (ninS pr25 nin0)))
  have F29 : Fld Z T23.heap f "com/example/nearpath/nearpath/answer/Frontier" "level" "[I" (.ref lv) := F14.keep K23q (ninS pr23 (ninS pr24 (ninS pr25 nin0)))
  have F30 : Fld Z T23.heap f "com/example/nearpath/nearpath/answer/Frontier" "levelHead" "I" (.int lh) := F15.keep K23q (ninS pr23 (ninS pr24 (ninS pr25 nin0)))
  have F31 : Fld Z T23.heap f "com/example/nearpath/nearpath/answer/Frontier" "levelTail" "I" (.int lt) := F16.keep K23q (ninS pr23 (ninS pr24 (ninS pr25 nin0)))
  have F32 : Fld Z T23.heap f "com/example/nearpath/nearpath/answer/Frontier" "heapCosts" "[J" (.ref hc) := F17.keep K23q (ninS pr23 (ninS pr24 (ninS pr25 nin0)))
  have F33 : Fld Z T23.heap f "com/example/nearpath/nearpath/answer/Frontier" "heapItems" "[I" (.ref hi) := F18.keep K23q (ninS pr23 (ninS pr24 (ninS pr25 nin0)))
  have F34 : Fld Z T23.heap f "com/example/nearpath/nearpath/answer/Frontier" "heapSize" "I" (.int (1 : Int32)) := F19.keep K23q (ninS pr23 (ninS pr24 (ninS pr25 nin0)))
  have K23 : Keep h0 T23.heap [f, hc, hi, sn] := K8.trans K23q (allS (Or.inl (by simp)) (allS (Or.inl (by simp)) (allS (Or.inl (by simp)) all0)))
  refine Go.st (mkF m 176 #[.val (.ref f), .val (.int it), .val (.long ct), .second, .val (.int (gs (it.toNatClampNeg)))] []) (fun _ k => st23.trans k) ?_
  exact Go.retV X23 hx Bd.notSynchronized Bd.returns (hb hby dr50_176) ⟨rfl, N23, K23, F25, F26, F27, F28, F29, F30, F31, F32, F33, F34, V23_0, V23_1, V23_2⟩ (by decide) (by decide)
theorem dr51_0 : decode prog_12_method_3_code 0 = .ok (.aload_n 0, 1) := by decide +kernel
theorem dr51_1 : decode prog_12_method_3_code 1 = .ok (.getfield 20, 3) := by decide +kernel
theorem dr51_4 : decode prog_12_method_3_code 4 = .ok (.iload_n 1, 1) := by decide +kernel
theorem dr51_5 : decode prog_12_method_3_code 5 = .ok (.iaload, 1) := by decide +kernel
theorem dr51_6 : decode prog_12_method_3_code 6 = .ok (.istore 4, 2) := by decide +kernel
theorem dr51_8 : decode prog_12_method_3_code 8 = .ok (.lload_n 2, 1) := by decide +kernel
theorem dr51_9 : decode prog_12_method_3_code 9 = .ok (.aload_n 0, 1) := by decide +kernel
theorem dr51_10 : decode prog_12_method_3_code 10 = .ok (.getfield 23, 3) := by decide +kernel
theorem dr51_13 : decode prog_12_method_3_code 13 = .ok (.lcmp, 1) := by decide +kernel
theorem dr51_14 : decode prog_12_method_3_code 14 = .ok (.ifCond .gt 12, 3) := by decide +kernel
theorem dr51_17 : decode prog_12_method_3_code 17 = .ok (.iload 4, 2) := by decide +kernel
theorem dr51_19 : decode prog_12_method_3_code 19 = .ok (.aload_n 0, 1) := by decide +kernel
theorem dr51_20 : decode prog_12_method_3_code 20 = .ok (.getfield 40, 3) := by decide +kernel
theorem dr51_23 : decode prog_12_method_3_code 23 = .ok (.if_icmp .ne 4, 3) := by decide +kernel
theorem dr51_27 : decode prog_12_method_3_code 27 = .ok (.iload 4, 2) := by decide +kernel
theorem dr51_29 : decode prog_12_method_3_code 29 = .ok (.ifCond .ge 30, 3) := by decide +kernel
theorem dr51_59 : decode prog_12_method_3_code 59 = .ok (.lload_n 2, 1) := by decide +kernel
theorem dr51_60 : decode prog_12_method_3_code 60 = .ok (.aload_n 0, 1) := by decide +kernel
theorem dr51_61 : decode prog_12_method_3_code 61 = .ok (.getfield 37, 3) := by decide +kernel
theorem dr51_64 : decode prog_12_method_3_code 64 = .ok (.lcmp, 1) := by decide +kernel
theorem dr51_65 : decode prog_12_method_3_code 65 = .ok (.ifCond .ne 48, 3) := by decide +kernel
theorem dr51_113 : decode prog_12_method_3_code 113 = .ok (.aload_n 0, 1) := by decide +kernel
theorem dr51_114 : decode prog_12_method_3_code 114 = .ok (.getfield 27, 3) := by decide +kernel
theorem dr51_117 : decode prog_12_method_3_code 117 = .ok (.aload_n 0, 1) := by decide +kernel
theorem dr51_118 : decode prog_12_method_3_code 118 = .ok (.getfield 17, 3) := by decide +kernel
theorem dr51_121 : decode prog_12_method_3_code 121 = .ok (.arraylength, 1) := by decide +kernel
theorem dr51_122 : decode prog_12_method_3_code 122 = .ok (.if_icmp .ne 37, 3) := by decide +kernel
theorem dr51_159 : decode prog_12_method_3_code 159 = .ok (.aload_n 0, 1) := by decide +kernel
theorem dr51_160 : decode prog_12_method_3_code 160 = .ok (.iload_n 1, 1) := by decide +kernel
theorem dr51_161 : decode prog_12_method_3_code 161 = .ok (.lload_n 2, 1) := by decide +kernel
theorem dr51_162 : decode prog_12_method_3_code 162 = .ok (.aload_n 0, 1) := by decide +kernel
theorem dr51_163 : decode prog_12_method_3_code 163 = .ok (.dup, 1) := by decide +kernel
theorem dr51_164 : decode prog_12_method_3_code 164 = .ok (.getfield 27, 3) := by decide +kernel
theorem dr51_167 : decode prog_12_method_3_code 167 = .ok (.dup_x1, 1) := by decide +kernel
theorem dr51_168 : decode prog_12_method_3_code 168 = .ok (.iconst 1, 1) := by decide +kernel
theorem dr51_169 : decode prog_12_method_3_code 169 = .ok (.iadd, 1) := by decide +kernel
theorem dr51_170 : decode prog_12_method_3_code 170 = .ok (.putfield 27, 3) := by decide +kernel
theorem dr51_173 : decode prog_12_method_3_code 173 = .ok (.invokevirtual 43, 3) := by decide +kernel
theorem dr51_176 : decode prog_12_method_3_code 176 = .ok (.return_, 1) := by decide +kernel
theorem ef_r51 (m : MethodId) (f : Addr) (it : Int32) (ct : Int64) : entryFrame m #[(.ref f), (.int it), (.long ct)] 5 = (mkF m 0 #[.val (.ref f), .val (.int it), .val (.long ct), .second, .unset] []) := by first | (simp [entryFrame, mkF, argsToLocals, Value.category]; done) | rfl
def Q_r51 (Z : State) (f : Addr) (it : Int32) (ct : Int64) (lv : Addr) (hc : Addr) (hi : Addr) (sn : Addr) (vS : Int32) (vc : Int64) (lh : Int32) (lt : Int32) (gc : Nat → Int64) (gi : Nat → Int32) (gs : Nat → Int32) (h0 : Heap) (n0 : Nat) (vv : Option Value) (hE : Heap) (LE : List Loc) : Prop := vv = none ∧ Fr n0 LE ∧ Keep h0 hE [f, hc, hi, sn] ∧ Fld Z hE f "com/example/nearpath/nearpath/answer/Frontier" "seen" "[I" (.ref sn) ∧ Fld Z hE f "com/example/nearpath/nearpath/answer/Frontier" "maxCost" "J" (.long (3 : Int64)) ∧ Fld Z hE f "com/example/nearpath/nearpath/answer/Frontier" "search" "I" (.int vS) ∧ Fld Z hE f "com/example/nearpath/nearpath/answer/Frontier" "cost" "J" (.long vc) ∧ Fld Z hE f "com/example/nearpath/nearpath/answer/Frontier" "level" "[I" (.ref lv) ∧ Fld Z hE f "com/example/nearpath/nearpath/answer/Frontier" "levelHead" "I" (.int lh) ∧ Fld Z hE f "com/example/nearpath/nearpath/answer/Frontier" "levelTail" "I" (.int lt) ∧ Fld Z hE f "com/example/nearpath/nearpath/answer/Frontier" "heapCosts" "[J" (.ref hc) ∧ Fld Z hE f "com/example/nearpath/nearpath/answer/Frontier" "heapItems" "[I" (.ref hi) ∧ Fld Z hE f "com/example/nearpath/nearpath/answer/Frontier" "heapSize" "I" (.int (2 : Int32)) ∧ Ary Z hE hc .long 16 (lts (updJ (updJ gc 1 (gc 0)) 0 ct)) ∧ Ary Z hE hi .int 16 (bts (updI (updI gi 1 (gi 0)) 0 it)) ∧ Ary Z hE sn .int 4 (bts (updI (updI gs ((gi 0).toNatClampNeg) (-2 : Int32)) (it.toNatClampNeg) (-1 : Int32)))
set_option maxRecDepth 65536 in
set_option maxHeartbeats 40000000 in
theorem rm_r51 (l : Launch) (Z : State) (a0 : Array Value) (hw : ∀ d ∈ tables_1, d.before a0 Z = true) (ws : List Jvm.Cond) (f : Addr) (it : Int32) (ct : Int64) (lv : Addr) (hc : Addr) (hi : Addr) (sn : Addr) (vS : Int32) (vc : Int64) (lh : Int32) (lt : Int32) (gc : Nat → Int64) (gi : Nat → Int32) (gs : Nat → Int32) (h0 : Heap) (n0 : Nat) (Z0 : n0 ≤ h0.size) (pr0 : Exa Z h0 f "com/example/nearpath/nearpath/answer/Frontier") (pr1 : Fld Z h0 f "com/example/nearpath/nearpath/answer/Frontier" "seen" "[I" (.ref sn)) (pr2 : Fld Z h0 f "com/example/nearpath/nearpath/answer/Frontier" "maxCost" "J" (.long (3 : Int64))) (pr3 : Fld Z h0 f "com/example/nearpath/nearpath/answer/Frontier" "search" "I" (.int vS)) (pr4 : Fld Z h0 f "com/example/nearpath/nearpath/answer/Frontier" "cost" "J" (.long vc)) (pr5 : Fld Z h0 f "com/example/nearpath/nearpath/answer/Frontier" "level" "[I" (.ref lv)) (pr6 : Fld Z h0 f "com/example/nearpath/nearpath/answer/Frontier" "levelHead" "I" (.int lh)) (pr7 : Fld Z h0 f "com/example/nearpath/nearpath/answer/Frontier" "levelTail" "I" (.int lt)) (pr8 : Fld Z h0 f "com/example/nearpath/nearpath/answer/Frontier" "heapCosts" "[J" (.ref hc)) (pr9 : Fld Z h0 f "com/example/nearpath/nearpath/answer/Frontier" "heapItems" "[I" (.ref hi)) (pr10 : Fld Z h0 f "com/example/nearpath/nearpath/answer/Frontier" "heapSize" "I" (.int (1 : Int32))) (pr11 : Ary Z h0 sn .int 4 (bts gs)) (pr12 : Ary Z h0 hc .long 16 (lts gc)) (pr13 : Ary Z h0 hi .int 16 (bts gi)) (pr14 : In4 it) (pr15 : ¬ (3 : Int64) < ct) (pr16 : ¬ (gs (it.toNatClampNeg)) = vS) (pr17 : ¬ (gs (it.toNatClampNeg)) < (0 : Int32)) (pr18 : ¬ ct = vc) (pr19 : ct < (gc 0)) (pr20 : In4 (gi 0)) (pr21 : n0 ≤ f) (pr22 : n0 ≤ hc) (pr23 : n0 ≤ hi) (pr24 : n0 ≤ sn) (pr25 : f ≠ hc) (pr26 : f ≠ hi) (pr27 : f ≠ sn) (pr28 : hc ≠ hi) (pr29 : hc ≠ sn) (pr30 : hi ≠ sn) :
    MetFree l (⟨"com/example/nearpath/nearpath/answer/Frontier", "reach", "(IJ)V"⟩ : MethodName) (head1 (Jvm.Cond.code (⟨"com/example/nearpath/nearpath/answer/Frontier", "reach", "(IJ)V"⟩ : MethodName) prog_12_method_3_code 5 none :: ws) ({ frames := 2, cells := 0, slots := 0, locals := 32 } : Room)) (fun aa UU => aa = #[(.ref f), (.int it), (.long ct)] ∧ Z.Warmed39 UU.vm ∧ UU.heap = h0) (fun _ _ _ _ _ => True) (fun _ UU oo UU' => ∃ vv LL, oo = .returned vv ∧ Q_r51 Z f it ct lv hc hi sn vS vc lh lt gc gi gs h0 n0 vv UU'.heap LL ∧ FrameEnd UU oo UU' LL ({ frames := 2, cells := 0, slots := 0, locals := 32 } : Room).cells ({ frames := 2, cells := 0, slots := 0, locals := 32 } : Room).slots) := by
  refine MetFree.of_bodySF (plainFor_of_name pn_0) hisR ?_
  intro p e s m args below meth c s₁ Bd hml0 hP hK
  obtain ⟨rfl, hZ, hh⟩ := hP
  have hx := Bd.exec
  have hby := Bd.bytes
  have hml : c.maxLocals = 5 := hml0
  have hown : s.vm.findClass "com/example/nearpath/nearpath/answer/Frontier" = some m.cls := findClass_of_methodNamed Bd.named
  have hnm := (name_of_methodNamed Bd.named Bd.method).1
  have X0 : Stand p l e ({ frames := 2, cells := 0, slots := 0, locals := 32 } : Room) s m #[(.ref f), (.int it), (.long ct)] below meth c s₁ [] 0 0 := Stand.of_body Bd
  have e0 : s₁.heap = h0 := by rw [← hh, Bd.state]; rfl
  have N0 := Fr.nil n0
  have K0 := Keep.refl h0 [f, hc, hi, sn]
  show Go p e below s (Q_r51 Z f it ct lv hc hi sn vS vc lh lt gc gi gs h0 n0) 0 0 s₁ (entryFrame m #[(.ref f), (.int it), (.long ct)] 5)
  refine Go.of_eq (ef_r51 m f it ct) ?_
  refine Go.st (mkF m 1 #[.val (.ref f), .val (.int it), .val (.long ct), .second, .unset] [(.ref f)]) (fun _ k => XS.aloadN X0.here hx rfl (hb hby dr51_0) rfl rfl k) ?_
  obtain ⟨T1, X1, e1, st1⟩ := getF X0 hx hZ hown (host := "") (Or.inl (hw _ (List.mem_of_getElem? (i := 18) rfl))) Via.refl e0 pr1 (g := (mkF m 1 #[.val (.ref f), .val (.int it), .val (.long ct), .second, .unset] [(.ref f)])) rfl rfl (hb hby dr51_1)
  refine Go.st (mkF m 4 #[.val (.ref f), .val (.int it), .val (.long ct), .second, .unset] [(.ref sn)]) (fun _ k => st1 _ k) ?_
  refine Go.st (mkF m 5 #[.val (.ref f), .val (.int it), .val (.long ct), .second, .unset] [(.int it), (.ref sn)]) (fun _ k => XS.iloadN X1.here hx rfl (hb hby dr51_4) rfl k) ?_
  refine Go.st (mkF m 6 #[.val (.ref f), .val (.int it), .val (.long ct), .second, .unset] [(.int (gs (it.toNatClampNeg)))]) (fun _ k => ldI X1 hx hZ e1 pr11 (i := it.toNatClampNeg) (own_in4 pr14).1 rfl (own_in4 pr14).2 (v := (.int (gs (it.toNatClampNeg)))) rfl (g := (mkF m 5 #[.val (.ref f), .val (.int it), .val (.long ct), .second, .unset] [(.int it), (.ref sn)])) rfl rfl (hb hby dr51_5) _ k) ?_
  refine Go.st (mkF m 8 #[.val (.ref f), .val (.int it), .val (.long ct), .second, .val (.int (gs (it.toNatClampNeg)))] []) (fun _ k => XS.istore X1.here hx rfl (hb hby dr51_6) rfl (l' := #[.val (.ref f), .val (.int it), .val (.long ct), .second, .val (.int (gs (it.toNatClampNeg)))]) rfl k) ?_
  refine Go.st (mkF m 9 #[.val (.ref f), .val (.int it), .val (.long ct), .second, .val (.int (gs (it.toNatClampNeg)))] [(.long ct)]) (fun _ k => XT.lloadN X1.here hx rfl (hb hby dr51_8) rfl k) ?_
  refine Go.st (mkF m 10 #[.val (.ref f), .val (.int it), .val (.long ct), .second, .val (.int (gs (it.toNatClampNeg)))] [(.ref f), (.long ct)]) (fun _ k => XS.aloadN X1.here hx rfl (hb hby dr51_9) rfl rfl k) ?_
  obtain ⟨T2, X2, e2, st2⟩ := getF X1 hx hZ hown (host := "") (Or.inl (hw _ (List.mem_of_getElem? (i := 20) rfl))) Via.refl e1 pr2 (g := (mkF m 10 #[.val (.ref f), .val (.int it), .val (.long ct), .second, .val (.int (gs (it.toNatClampNeg)))] [(.ref f), (.long ct)])) rfl rfl (hb hby dr51_10)
  refine Go.st (mkF m 13 #[.val (.ref f), .val (.int it), .val (.long ct), .second, .val (.int (gs (it.toNatClampNeg)))] [(.long (3 : Int64)), (.long ct)]) (fun _ k => st2 _ k) ?_
  refine Go.st (mkF m 14 #[.val (.ref f), .val (.int it), .val (.long ct), .second, .val (.int (gs (it.toNatClampNeg)))] [(.int (cmpL ct (3 : Int64)))]) (fun _ k => XT.lcmp X2.here hx rfl (hb hby dr51_13) rfl k) ?_
  refine Go.st (mkF m 17 #[.val (.ref f), .val (.int it), .val (.long ct), .second, .val (.int (gs (it.toNatClampNeg)))] []) (fun _ k => XS.ifNo X2.here hx rfl (hb hby dr51_14) rfl (own_lgF pr15).1 k) ?_
  refine Go.st (mkF m 19 #[.val (.ref f), .val (.int it), .val (.long ct), .second, .val (.int (gs (it.toNatClampNeg)))] [(.int (gs (it.toNatClampNeg)))]) (fun _ k => XS.iload X2.here hx rfl (hb hby dr51_17) rfl k) ?_
  refine Go.st (mkF m 20 #[.val (.ref f), .val (.int it), .val (.long ct), .second, .val (.int (gs (it.toNatClampNeg)))] [(.ref f), (.int (gs (it.toNatClampNeg)))]) (fun _ k => XS.aloadN X2.here hx rfl (hb hby dr51_19) rfl rfl k) ?_
  obtain ⟨T3, X3, e3, st3⟩ := getF X2 hx hZ hown (host := "") (Or.inl (hw _ (List.mem_of_getElem? (i := 35) rfl))) Via.refl e2 pr3 (g := (mkF m 20 #[.val (.ref f), .val (.int it), .val (.long ct), .second, .val (.int (gs (it.toNatClampNeg)))] [(.ref f), (.int (gs (it.toNatClampNeg)))])) rfl rfl (hb hby dr51_20)
  refine Go.st (mkF m 23 #[.val (.ref f), .val (.int it), .val (.long ct), .second, .val (.int (gs (it.toNatClampNeg)))] [(.int vS), (.int (gs (it.toNatClampNeg)))]) (fun _ k => st3 _ k) ?_
  refine Go.st (mkF m 27 #[.val (.ref f), .val (.int it), .val (.long ct), .second, .val (.int (gs (it.toNatClampNeg)))] []) (fun _ k => XS.icmpYes X3.here hx rfl (pc0 := 23) (pc' := 27) rfl (hb hby dr51_23) rfl (feq pr16).2 (by decide) (by decide) k) ?_
  refine Go.st (mkF m 29 #[.val (.ref f), .val (.int it), .val (.long ct), .second, .val (.int (gs (it.toNatClampNeg)))] [(.int (gs (it.toNatClampNeg)))]) (fun _ k => XS.iload X3.here hx rfl (hb hby dr51_27) rfl k) ?_
  refine Go.st (mkF m 59 #[.val (.ref f), .val (.int it), .val (.long ct), .second, .val (.int (gs (it.toNatClampNeg)))] []) (fun _ k => XS.ifYes X3.here hx rfl (pc0 := 29) (pc' := 59) rfl (hb hby dr51_29) rfl ((if0 _ _).trans (flt pr17).2.1) (by decide) (by decide) k) ?_
  refine Go.st (mkF m 60 #[.val (.ref f), .val (.int it), .val (.long ct), .second, .val (.int (gs (it.toNatClampNeg)))] [(.long ct)]) (fun _ k => XT.lloadN X3.here hx rfl (hb hby dr51_59) rfl k) ?_
  refine Go.st (mkF m 61 #[.val (.ref f), .val (.int it), .val (.long ct), .second, .val (.int (gs (it.toNatClampNeg)))] [(.ref f), (.long ct)]) (fun _ k => XS.aloadN X3.here hx rfl (hb hby dr51_60) rfl rfl k) ?_
  obtain ⟨T4, X4, e4, st4⟩ := getF X3 hx hZ hown (host := "") (Or.inl (hw _ (List.mem_of_getElem? (i := 33) rfl))) Via.refl e3 pr4 (g := (mkF m 61 #[.val (.ref f), .val (.int it), .val (.long ct), .second, .val (.int (gs (it.toNatClampNeg)))] [(.ref f), (.long ct)])) rfl rfl (hb hby dr51_61)
  refine Go.st (mkF m 64 #[.val (.ref f), .val (.int it), .val (.long ct), .second, .val (.int (gs (it.toNatClampNeg)))] [(.long vc), (.long ct)]) (fun _ k => st4 _ k) ?_
  refine Go.st (mkF m 65 #[.val (.ref f), .val (.int it), .val (.long ct), .second, .val (.int (gs (it.toNatClampNeg)))] [(.int (cmpL ct vc))]) (fun _ k => XT.lcmp X4.here hx rfl (hb hby dr51_64) rfl k) ?_
  refine Go.st (mkF m 113 #[.val (.ref f), .val (.int it), .val (.long ct), .second, .val (.int (gs (it.toNatClampNeg)))] []) (fun _ k => XS.ifYes X4.here hx rfl (pc0 := 65) (pc' := 113) rfl (hb hby dr51_65) rfl (own_leF pr18).2 (by decide) (by decide) k) ?_
  refine Go.st (mkF m 114 #[.val (.ref f), .val (.int it), .val (.long ct), .second, .val (.int (gs (it.toNatClampNeg)))] [(.ref f)]) (fun _ k => XS.aloadN X4.here hx rfl (hb hby dr51_113) rfl rfl k) ?_
  obtain ⟨T5, X5, e5, st5⟩ := getF X4 hx hZ hown (host := "") (Or.inl (hw _ (List.mem_of_getElem? (i := 27) rfl))) Via.refl e4 pr10 (g := (mkF m 114 #[.val (.ref f), .val (.int it), .val (.long ct), .second, .val (.int (gs (it.toNatClampNeg)))] [(.ref f)])) rfl rfl (hb hby dr51_114)
  refine Go.st (mkF m 117 #[.val (.ref f), .val (.int it), .val (.long ct), .second, .val (.int (gs (it.toNatClampNeg)))] [(.int (1 : Int32))]) (fun _ k => st5 _ k) ?_
  refine Go.st (mkF m 118 #[.val (.ref f), .val (.int it), .val (.long ct), .second, .val (.int (gs (it.toNatClampNeg)))] [(.ref f), (.int (1 : Int32))]) (fun _ k => XS.aloadN X5.here hx rfl (hb hby dr51_117) rfl rfl k) ?_
  obtain ⟨T6, X6, e6, st6⟩ := getF X5 hx hZ hown (host := "") (Or.inl (hw _ (List.mem_of_getElem? (i := 16) rfl))) Via.refl e5 pr9 (g := (mkF m 118 #[.val (.ref f), .val (.int it), .val (.long ct), .second, .val (.int (gs (it.toNatClampNeg)))] [(.ref f), (.int (1 : Int32))])) rfl rfl (hb hby dr51_118)
  refine Go.st (mkF m 121 #[.val (.ref f), .val (.int it), .val (.long ct), .second, .val (.int (gs (it.toNatClampNeg)))] [(.ref hi), (.int (1 : Int32))]) (fun _ k => st6 _ k) ?_
  refine Go.st (mkF m 122 #[.val (.ref f), .val (.int it), .val (.long ct), .second, .val (.int (gs (it.toNatClampNeg)))] [(.int (16 : Int32)), (.int (1 : Int32))]) (fun _ k => lenA X6 hx hZ e6 pr13 (z := (16 : Int32)) rfl (g := (mkF m 121 #[.val (.ref f), .val (.int it), .val (.long ct), .second, .val (.int (gs (it.toNatClampNeg)))] [(.ref hi), (.int (1 : Int32))])) rfl rfl (hb hby dr51_121) _ k) ?_
  refine Go.st (mkF m 159 #[.val (.ref f), .val (.int it), .val (.long ct), .second, .val (.int (gs (it.toNatClampNeg)))] []) (fun _ k => XS.icmpYes X6.here hx rfl (pc0 := 122) (pc' := 159) rfl (hb hby dr51_122) rfl (feq (by decide : ¬ ((1 : Int32) = (16 : Int32)))).2 (by decide) (by decide) k) ?_
  refine Go.st (mkF m 160 #[.val (.ref f), .val (.int it), .val (.long ct), .second, .val (.int (gs (it.toNatClampNeg)))] [(.ref f)]) (fun _ k => XS.aloadN X6.here hx rfl (hb hby dr51_159) rfl rfl k) ?_
  refine Go.st (mkF m 161 #[.val (.ref f), .val (.int it), .val (.long ct), .second, .val (.int (gs (it.toNatClampNeg)))] [(.int it), (.ref f)]) (fun _ k => XS.iloadN X6.here hx rfl (hb hby dr51_160) rfl k) ?_
  refine Go.st (mkF m 162 #[.val (.ref f), .val (.int it), .val (.long ct), .second, .val (.int (gs (it.toNatClampNeg)))] [(.long ct), (.int it), (.ref f)]) (fun _ k => XT.lloadN X6.here hx rfl (hb hby dr51_161) rfl k) ?_
  refine Go.st (mkF m 163 #[.val (.ref f), .val (.int it), .val (.long ct), .second, .val (.int (gs (it.toNatClampNeg)))] [(.ref f), (.long ct), (.int it), (.ref f)]) (fun _ k => XS.aloadN X6.here hx rfl (hb hby dr51_162) rfl rfl k) ?_
  refine Go.st (mkF m 164 #[.val (.ref f), .val (.int it), .val (.long ct), .second, .val (.int (gs (it.toNatClampNeg)))] [(.ref f), (.ref f), (.long ct), (.int it), (.ref f)]) (fun _ k => XS.dup X6.here hx rfl (hb hby dr51_163) rfl rfl k) ?_
  obtain ⟨T7, X7, e7, st7⟩ := getF X6 hx hZ hown (host := "") (Or.inl (hw _ (List.mem_of_getElem? (i := 27) rfl))) Via.refl e6 pr10 (g := (mkF m 164 #[.val (.ref f), .val (.int it), .val (.long ct), .second, .val (.int (gs (it.toNatClampNeg)))] [(.ref f), (.ref f), (.long ct), (.int it), (.ref f)])) rfl rfl (hb hby dr51_164)
  refine Go.st (mkF m 167 #[.val (.ref f), .val (.int it), .val (.long ct), .second, .val (.int (gs (it.toNatClampNeg)))] [(.int (1 : Int32)), (.ref f), (.long ct), (.int it), (.ref f)]) (fun _ k => st7 _ k) ?_
  refine Go.st (mkF m 168 #[.val (.ref f), .val (.int it), .val (.long ct), .second, .val (.int (gs (it.toNatClampNeg)))] [(.int (1 : Int32)), (.ref f), (.int (1 : Int32)), (.long ct), (.int it), (.ref f)]) (fun _ k => XT.dupX1 X7.here hx rfl (hb hby dr51_167) rfl rfl rfl k) ?_
  refine Go.st (mkF m 169 #[.val (.ref f), .val (.int it), .val (.long ct), .second, .val (.int (gs (it.toNatClampNeg)))] [(.int (1 : Int32)), (.int (1 : Int32)), (.ref f), (.int (1 : Int32)), (.long ct), (.int it), (.ref f)]) (fun _ k => XS.iconst X7.here hx rfl (hb hby dr51_168) k) ?_
  refine Go.st (mkF m 170 #[.val (.ref f), .val (.int it), .val (.long ct), .second, .val (.int (gs (it.toNatClampNeg)))] [(.int (2 : Int32)), (.ref f), (.int (1 : Int32)), (.long ct), (.int it), (.ref f)]) (fun _ k => XS.iadd X7.here hx rfl (hb hby dr51_169) rfl k) ?_
  obtain ⟨T8, h8, X8, e8, W8, st8⟩ := putF X7 hx hZ hown (host := "") (Or.inl (hw _ (List.mem_of_getElem? (i := 27) rfl))) Via.refl e7 pr10 pr0 (Or.inl (hw _ (List.mem_of_getElem? (i := 28) rfl))) (hw _ (List.mem_of_getElem? (i := 1) rfl)) (ty := .int) (by decide) rfl rfl (g := (mkF m 170 #[.val (.ref f), .val (.int it), .val (.long ct), .second, .val (.int (gs (it.toNatClampNeg)))] [(.int (2 : Int32)), (.ref f), (.int (1 : Int32)), (.long ct), (.int it), (.ref f)])) rfl rfl (hb hby dr51_170)
  have E9q : Exa Z h8 f "com/example/nearpath/nearpath/answer/Frontier" := pr0.wr W8
  have F10 : Fld Z h8 f "com/example/nearpath/nearpath/answer/Frontier" "seen" "[I" (.ref sn) := pr1.other W8 (Or.inr (slot_ne (Or.inr (hw _ (List.mem_of_getElem? (i := 19) rfl))) (Or.inl (hw _ (List.mem_of_getElem? (i := 28) rfl))) (by decide) (t := (.array .int)) (t' := .int) (by decide) (by decide)))
  have F11 : Fld Z h8 f "com/example/nearpath/nearpath/answer/Frontier" "maxCost" "J" (.long (3 : Int64)) := pr2.other W8 (Or.inr (slot_ne (Or.inr (hw _ (List.mem_of_getElem? (i := 21) rfl))) (Or.inl (hw _ (List.mem_of_getElem? (i := 28) rfl))) (by decide) (t := .long) (t' := .int) (by decide) (by decide)))
  have F12 : Fld Z h8 f "com/example/nearpath/nearpath/answer/Frontier" "search" "I" (.int vS) := pr3.other W8 (Or.inr (slot_ne (Or.inl (hw _ (List.mem_of_getElem? (i := 36) rfl))) (Or.inl (hw _ (List.mem_of_getElem? (i := 28) rfl))) (by decide) (t := .int) (t' := .int) (by decide) (by decide)))
  have F13 : Fld Z h8 f "com/example/nearpath/nearpath/answer/Frontier" "cost" "J" (.long vc) := pr4.other W8 (Or.inr (slot_ne (Or.inl (hw _ (List.mem_of_getElem? (i := 34) rfl))) (Or.inl (hw _ (List.mem_of_getElem? (i := 28) rfl))) (by decide) (t := .long) (t' := .int) (by decide) (by decide)))
  have F14 : Fld Z h8 f "com/example/nearpath/nearpath/answer/Frontier" "level" "[I" (.ref lv) := pr5.other W8 (Or.inr (slot_ne (Or.inl (hw _ (List.mem_of_getElem? (i := 12) rfl))) (Or.inl (hw _ (List.mem_of_getElem? (i := 28) rfl))) (by decide) (t := (.array .int)) (t' := .int) (by decide) (by decide)))
  have F15 : Fld Z h8 f "com/example/nearpath/nearpath/answer/Frontier" "levelHead" "I" (.int lh) := pr6.other W8 (Or.inr (slot_ne (Or.inl (hw _ (List.mem_of_getElem? (i := 30) rfl))) (Or.inl (hw _ (List.mem_of_getElem? (i := 28) rfl))) (by decide) (t := .int) (t' := .int) (by decide) (by decide)))
  have F16 : Fld Z h8 f "com/example/nearpath/nearpath/answer/Frontier" "levelTail" "I" (.int lt) := pr7.other W8 (Or.inr (slot_ne (Or.inl (hw _ (List.mem_of_getElem? (i := 32) rfl))) (Or.inl (hw _ (List.mem_of_getElem? (i := 28) rfl))) (by decide) (t := .int) (t' := .int) (by decide) (by decide)))
  have F17 : Fld Z h8 f "com/example/nearpath/nearpath/answer/Frontier" "heapCosts" "[J" (.ref hc) := pr8.other W8 (Or.inr (slot_ne (Or.inl (hw _ (List.mem_of_getElem? (i := 15) rfl))) (Or.inl (hw _ (List.mem_of_getElem? (i := 28) rfl))) (by decide) (t := (.array .long)) (t' := .int) (by decide) (by decide)))
  have F18 : Fld Z h8 f "com/example/nearpath/nearpath/answer/Frontier" "heapItems" "[I" (.ref hi) := pr9.other W8 (Or.inr (slot_ne (Or.inl (hw _ (List.mem_of_getElem? (i := 17) rfl))) (Or.inl (hw _ (List.mem_of_getElem? (i := 28) rfl))) (by decide) (t := (.array .int)) (t' := .int) (by decide) (by decide)))
  have F19 : Fld Z h8 f "com/example/nearpath/nearpath/answer/Frontier" "heapSize" "I" (.int (2 : Int32)) := pr10.same W8
  have V20 : Ary Z h8 sn .int 4 (bts gs) := pr11.other W8 (Ne.symm pr27)
  have V21 : Ary Z h8 hc .long 16 (lts gc) := pr12.other W8 (Ne.symm pr25)
  have V22 : Ary Z h8 hi .int 16 (bts gi) := pr13.other W8 (Ne.symm pr26)
  have K8 : Keep h0 h8 [f, hc, hi, sn] := K0.wr W8 (Or.inl (by simp))
  have N8 := Fr.snoc X8 N0 pr21
  refine Go.st (mkF m 173 #[.val (.ref f), .val (.int it), .val (.long ct), .second, .val (.int (gs (it.toNatClampNeg)))] [(.int (1 : Int32)), (.long ct), (.int it), (.ref f)]) (fun _ k => st8 _ k) ?_
  obtain ⟨cq23, q23a, q23b⟩ := E9q.cell
  have sl23 := selI (args := #[(.ref f), (.int it), (.long ct)]) hZ (hw _ (List.mem_of_getElem? (i := 1) rfl)) (hw _ (List.mem_of_getElem? (i := 57) rfl)) (hw _ (List.mem_of_getElem? (i := 56) rfl)) (by decide)
  obtain ⟨_, _, ⟨T23, L23, k23, n23⟩, -, X23, ⟨Lc23, hQ23, l23, y23, z23⟩, st23⟩ := X8.privateBack hx (y := (⟨"com/example/nearpath/nearpath/answer/Frontier", "siftUp", "(IJI)V"⟩ : MethodName)) hown (mvT hZ (hw _ (List.mem_of_getElem? (i := 55) rfl))) (mvT hZ (hw _ (List.mem_of_getElem? (i := 56) rfl))) sl23.1 sl23.2 (mvT hZ (hw _ (List.mem_of_getElem? (i := 58) rfl))) (by decide) (backOf (W := 0) (rm_su1 l Z a0 hw [] f it ct hc hi sn gc gi gs h8 n0 (Nat.le_trans Z0 K8.1) E9q F10 F17 F18 V21 V22 V20 (by first | assumption | decide) pr22 pr23 pr24 pr25 pr26 pr27 pr28 pr29 pr30 (by first | assumption | decide) (by first | assumption | decide)) hZ (hw _ (List.mem_of_getElem? (i := 58) rfl)) (hw _ (List.mem_of_getElem? (i := 2) rfl)) (by decide) (by decide)) (g := (mkF m 173 #[.val (.ref f), .val (.int it), .val (.long ct), .second, .val (.int (gs (it.toNatClampNeg)))] [(.int (1 : Int32)), (.long ct), (.int it), (.ref f)])) rfl (by rw [hml]; rfl) (Steps.refl _) (a := f) (by rw [e8]; exact q23a) q23b (argsL := [(.int it), (.long ct), (.int (1 : Int32))]) (rest := []) (lenOf pd_0 rfl) rfl (by show 2 * 0 + _ ≤ _; exact Nat.le_of_eq rfl) (hb hby dr51_173) (fun _ _ => ⟨rfl, e8, (by decide : 0 + 0 ≤ _), (by decide : 0 + 0 ≤ _)⟩)
  dsimp only [Pt.U, Pt.locs, Pt.cells, Pt.slots] at X23 l23 y23 z23 st23 hQ23
  subst l23 y23 z23
  obtain ⟨rfl, N23q, K23q, V23_0, V23_1, V23_2⟩ := hQ23
  have N23 := Fr.app N8 N23q
  have E24q : Exa Z T23.heap f "com/example/nearpath/nearpath/answer/Frontier" := E9q.keep K23q
  have F25 : Fld Z T23.heap f "com/example/nearpath/nearpath/answer/Frontier" "seen" "[I" (.ref sn) := F10.keep K23q (ninS pr25 (ninS pr26 (ninS pr27 nin0)))
  have F26 : Fld Z T23.heap f "com/example/nearpath/nearpath/answer/Frontier" "maxCost" "J" (.long (3 : Int64)) := F11.keep K23q (ninS pr25 (ninS pr26 (ninS pr27 nin0)))
  have F27 : Fld Z T23.heap f "com/example/nearpath/nearpath/answer/Frontier" "search" "I" (.int vS) := F12.keep K23q (ninS pr25 (ninS pr26 (ninS pr27 nin0)))
  have F28 : Fld Z T23.heap f "com/example/nearpath/nearpath/answer/Frontier" "cost" "J" (.long vc) := F13.keep K23q (ninS pr25 (ninS pr26 (ninS pr27 nin0)))
  have F29 : Fld Z T23.heap f "com/example/nearpath/nearpath/answer/Frontier" "level" "[I" (.ref lv) := F14.keep K23q (ninS pr25 (ninS pr26 (ninS pr27 nin0)))
  have F30 : Fld Z T23.heap f "com/example/nearpath/nearpath/answer/Frontier" "levelHead" "I" (.int lh) := F15.keep K23q (ninS pr25 (ninS pr26 (ninS pr27 nin0)))
  have F31 : Fld Z T23.heap f "com/example/nearpath/nearpath/answer/Frontier" "levelTail" "I" (.int lt) := F16.keep K23q (ninS pr25 (ninS pr26 (ninS pr27 nin0)))
  have F32 : Fld Z T23.heap f "com/example/nearpath/nearpath/answer/Frontier" "heapCosts" "[J" (.ref hc) := F17.keep K23q (ninS pr25 (ninS pr26 (ninS pr27 nin0)))
  have F33 : Fld Z T23.heap f "com/example/nearpath/nearpath/answer/Frontier" "heapItems" "[I" (.ref hi) := F18.keep K23q (ninS pr25 (ninS pr26 (ninS pr27 nin0)))
  have F34 : Fld Z T23.heap f "com/example/nearpath/nearpath/answer/Frontier" "heapSize" "I" (.int (2 : Int32)) := F19.keep K23q (ninS pr25 (ninS pr26 (ninS pr27 nin0)))
  have K23 : Keep h0 T23.heap [f, hc, hi, sn] := K8.trans K23q (allS (Or.inl (by simp)) (allS (Or.inl (by simp)) (allS (Or.inl (by simp)) all0)))
  refine Go.st (mkF m 176 #[.val (.ref f), .val (.int it), .val (.long ct), .second, .val (.int (gs (it.toNatClampNeg)))] []) (fun _ k => st23.trans k) ?_
  exact Go.retV X23 hx Bd.notSynchronized Bd.returns (hb hby dr51_176) ⟨rfl, N23, K23, F25, F26, F27, F28, F29, F30, F31, F32, F33, F34, V23_0, V23_1, V23_2⟩ (by decide) (by decide)
theorem dr52_0 : decode prog_12_method_3_code 0 = .ok (.aload_n 0, 1) := by decide +kernel
theorem dr52_1 : decode prog_12_method_3_code 1 = .ok (.getfield 20, 3) := by decide +kernel
theorem dr52_4 : decode prog_12_method_3_code 4 = .ok (.iload_n 1, 1) := by decide +kernel
theorem dr52_5 : decode prog_12_method_3_code 5 = .ok (.iaload, 1) := by decide +kernel
theorem dr52_6 : decode prog_12_method_3_code 6 = .ok (.istore 4, 2) := by decide +kernel
theorem dr52_8 : decode prog_12_method_3_code 8 = .ok (.lload_n 2, 1) := by decide +kernel
theorem dr52_9 : decode prog_12_method_3_code 9 = .ok (.aload_n 0, 1) := by decide +kernel
theorem dr52_10 : decode prog_12_method_3_code 10 = .ok (.getfield 23, 3) := by decide +kernel
theorem dr52_13 : decode prog_12_method_3_code 13 = .ok (.lcmp, 1) := by decide +kernel
theorem dr52_14 : decode prog_12_method_3_code 14 = .ok (.ifCond .gt 12, 3) := by decide +kernel
theorem dr52_17 : decode prog_12_method_3_code 17 = .ok (.iload 4, 2) := by decide +kernel
theorem dr52_19 : decode prog_12_method_3_code 19 = .ok (.aload_n 0, 1) := by decide +kernel
theorem dr52_20 : decode prog_12_method_3_code 20 = .ok (.getfield 40, 3) := by decide +kernel
theorem dr52_23 : decode prog_12_method_3_code 23 = .ok (.if_icmp .ne 4, 3) := by decide +kernel
theorem dr52_27 : decode prog_12_method_3_code 27 = .ok (.iload 4, 2) := by decide +kernel
theorem dr52_29 : decode prog_12_method_3_code 29 = .ok (.ifCond .ge 30, 3) := by decide +kernel
theorem dr52_59 : decode prog_12_method_3_code 59 = .ok (.lload_n 2, 1) := by decide +kernel
theorem dr52_60 : decode prog_12_method_3_code 60 = .ok (.aload_n 0, 1) := by decide +kernel
theorem dr52_61 : decode prog_12_method_3_code 61 = .ok (.getfield 37, 3) := by decide +kernel
theorem dr52_64 : decode prog_12_method_3_code 64 = .ok (.lcmp, 1) := by decide +kernel
theorem dr52_65 : decode prog_12_method_3_code 65 = .ok (.ifCond .ne 48, 3) := by decide +kernel
theorem dr52_113 : decode prog_12_method_3_code 113 = .ok (.aload_n 0, 1) := by decide +kernel
theorem dr52_114 : decode prog_12_method_3_code 114 = .ok (.getfield 27, 3) := by decide +kernel
theorem dr52_117 : decode prog_12_method_3_code 117 = .ok (.aload_n 0, 1) := by decide +kernel
theorem dr52_118 : decode prog_12_method_3_code 118 = .ok (.getfield 17, 3) := by decide +kernel
theorem dr52_121 : decode prog_12_method_3_code 121 = .ok (.arraylength, 1) := by decide +kernel
theorem dr52_122 : decode prog_12_method_3_code 122 = .ok (.if_icmp .ne 37, 3) := by decide +kernel
theorem dr52_159 : decode prog_12_method_3_code 159 = .ok (.aload_n 0, 1) := by decide +kernel
theorem dr52_160 : decode prog_12_method_3_code 160 = .ok (.iload_n 1, 1) := by decide +kernel
theorem dr52_161 : decode prog_12_method_3_code 161 = .ok (.lload_n 2, 1) := by decide +kernel
theorem dr52_162 : decode prog_12_method_3_code 162 = .ok (.aload_n 0, 1) := by decide +kernel
theorem dr52_163 : decode prog_12_method_3_code 163 = .ok (.dup, 1) := by decide +kernel
theorem dr52_164 : decode prog_12_method_3_code 164 = .ok (.getfield 27, 3) := by decide +kernel
theorem dr52_167 : decode prog_12_method_3_code 167 = .ok (.dup_x1, 1) := by decide +kernel
theorem dr52_168 : decode prog_12_method_3_code 168 = .ok (.iconst 1, 1) := by decide +kernel
theorem dr52_169 : decode prog_12_method_3_code 169 = .ok (.iadd, 1) := by decide +kernel
theorem dr52_170 : decode prog_12_method_3_code 170 = .ok (.putfield 27, 3) := by decide +kernel
theorem dr52_173 : decode prog_12_method_3_code 173 = .ok (.invokevirtual 43, 3) := by decide +kernel
theorem dr52_176 : decode prog_12_method_3_code 176 = .ok (.return_, 1) := by decide +kernel
theorem ef_r52 (m : MethodId) (f : Addr) (it : Int32) (ct : Int64) : entryFrame m #[(.ref f), (.int it), (.long ct)] 5 = (mkF m 0 #[.val (.ref f), .val (.int it), .val (.long ct), .second, .unset] []) := by first | (simp [entryFrame, mkF, argsToLocals, Value.category]; done) | rfl
def Q_r52 (Z : State) (f : Addr) (it : Int32) (ct : Int64) (lv : Addr) (hc : Addr) (hi : Addr) (sn : Addr) (vS : Int32) (vc : Int64) (lh : Int32) (lt : Int32) (gc : Nat → Int64) (gi : Nat → Int32) (gs : Nat → Int32) (h0 : Heap) (n0 : Nat) (vv : Option Value) (hE : Heap) (LE : List Loc) : Prop := vv = none ∧ Fr n0 LE ∧ Keep h0 hE [f, hc, hi, sn] ∧ Fld Z hE f "com/example/nearpath/nearpath/answer/Frontier" "seen" "[I" (.ref sn) ∧ Fld Z hE f "com/example/nearpath/nearpath/answer/Frontier" "maxCost" "J" (.long (3 : Int64)) ∧ Fld Z hE f "com/example/nearpath/nearpath/answer/Frontier" "search" "I" (.int vS) ∧ Fld Z hE f "com/example/nearpath/nearpath/answer/Frontier" "cost" "J" (.long vc) ∧ Fld Z hE f "com/example/nearpath/nearpath/answer/Frontier" "level" "[I" (.ref lv) ∧ Fld Z hE f "com/example/nearpath/nearpath/answer/Frontier" "levelHead" "I" (.int lh) ∧ Fld Z hE f "com/example/nearpath/nearpath/answer/Frontier" "levelTail" "I" (.int lt) ∧ Fld Z hE f "com/example/nearpath/nearpath/answer/Frontier" "heapCosts" "[J" (.ref hc) ∧ Fld Z hE f "com/example/nearpath/nearpath/answer/Frontier" "heapItems" "[I" (.ref hi) ∧ Fld Z hE f "com/example/nearpath/nearpath/answer/Frontier" "heapSize" "I" (.int (2 : Int32)) ∧ Ary Z hE hc .long 16 (lts (updJ gc 1 ct)) ∧ Ary Z hE hi .int 16 (bts (updI gi 1 it)) ∧ Ary Z hE sn .int 4 (bts (updI gs (it.toNatClampNeg) (-2 : Int32)))
set_option maxRecDepth 65536 in
set_option maxHeartbeats 40000000 in
theorem rm_r52 (l : Launch) (Z : State) (a0 : Array Value) (hw : ∀ d ∈ tables_1, d.before a0 Z = true) (ws : List Jvm.Cond) (f : Addr) (it : Int32) (ct : Int64) (lv : Addr) (hc : Addr) (hi : Addr) (sn : Addr) (vS : Int32) (vc : Int64) (lh : Int32) (lt : Int32) (gc : Nat → Int64) (gi : Nat → Int32) (gs : Nat → Int32) (h0 : Heap) (n0 : Nat) (Z0 : n0 ≤ h0.size) (pr0 : Exa Z h0 f "com/example/nearpath/nearpath/answer/Frontier") (pr1 : Fld Z h0 f "com/example/nearpath/nearpath/answer/Frontier" "seen" "[I" (.ref sn)) (pr2 : Fld Z h0 f "com/example/nearpath/nearpath/answer/Frontier" "maxCost" "J" (.long (3 : Int64))) (pr3 : Fld Z h0 f "com/example/nearpath/nearpath/answer/Frontier" "search" "I" (.int vS)) (pr4 : Fld Z h0 f "com/example/nearpath/nearpath/answer/Frontier" "cost" "J" (.long vc)) (pr5 : Fld Z h0 f "com/example/nearpath/nearpath/answer/Frontier" "level" "[I" (.ref lv)) (pr6 : Fld Z h0 f "com/example/nearpath/nearpath/answer/Frontier" "levelHead" "I" (.int lh)) (pr7 : Fld Z h0 f "com/example/nearpath/nearpath/answer/Frontier" "levelTail" "I" (.int lt)) (pr8 : Fld Z h0 f "com/example/nearpath/nearpath/answer/Frontier" "heapCosts" "[J" (.ref hc)) (pr9 : Fld Z h0 f "com/example/nearpath/nearpath/answer/Frontier" "heapItems" "[I" (.ref hi)) (pr10 : Fld Z h0 f "com/example/nearpath/nearpath/answer/Frontier" "heapSize" "I" (.int (1 : Int32))) (pr11 : Ary Z h0 sn .int 4 (bts gs)) (pr12 : Ary Z h0 hc .long 16 (lts gc)) (pr13 : Ary Z h0 hi .int 16 (bts gi)) (pr14 : In4 it) (pr15 : ¬ (3 : Int64) < ct) (pr16 : ¬ (gs (it.toNatClampNeg)) = vS) (pr17 : ¬ (gs (it.toNatClampNeg)) < (0 : Int32)) (pr18 : ¬ ct = vc) (pr19 : ¬ ct < (gc 0)) (pr20 : n0 ≤ f) (pr21 : n0 ≤ hc) (pr22 : n0 ≤ hi) (pr23 : n0 ≤ sn) (pr24 : f ≠ hc) (pr25 : f ≠ hi) (pr26 : f ≠ sn) (pr27 : hc ≠ hi) (pr28 : hc ≠ sn) (pr29 : hi ≠ sn) :
    MetFree l (⟨"com/example/nearpath/nearpath/answer/Frontier", "reach", "(IJ)V"⟩ : MethodName) (head1 (Jvm.Cond.code (⟨"com/example/nearpath/nearpath/answer/Frontier", "reach", "(IJ)V"⟩ : MethodName) prog_12_method_3_code 5 none :: ws) ({ frames := 2, cells := 0, slots := 0, locals := 32 } : Room)) (fun aa UU => aa = #[(.ref f), (.int it), (.long ct)] ∧ Z.Warmed39 UU.vm ∧ UU.heap = h0) (fun _ _ _ _ _ => True) (fun _ UU oo UU' => ∃ vv LL, oo = .returned vv ∧ Q_r52 Z f it ct lv hc hi sn vS vc lh lt gc gi gs h0 n0 vv UU'.heap LL ∧ FrameEnd UU oo UU' LL ({ frames := 2, cells := 0, slots := 0, locals := 32 } : Room).cells ({ frames := 2, cells := 0, slots := 0, locals := 32 } : Room).slots) := by
  refine MetFree.of_bodySF (plainFor_of_name pn_0) hisR ?_
  intro p e s m args below meth c s₁ Bd hml0 hP hK
  obtain ⟨rfl, hZ, hh⟩ := hP
  have hx := Bd.exec
  have hby := Bd.bytes
  have hml : c.maxLocals = 5 := hml0
  have hown : s.vm.findClass "com/example/nearpath/nearpath/answer/Frontier" = some m.cls := findClass_of_methodNamed Bd.named
  have hnm := (name_of_methodNamed Bd.named Bd.method).1
  have X0 : Stand p l e ({ frames := 2, cells := 0, slots := 0, locals := 32 } : Room) s m #[(.ref f), (.int it), (.long ct)] below meth c s₁ [] 0 0 := Stand.of_body Bd
  have e0 : s₁.heap = h0 := by rw [← hh, Bd.state]; rfl
  have N0 := Fr.nil n0
  have K0 := Keep.refl h0 [f, hc, hi, sn]
  show Go p e below s (Q_r52 Z f it ct lv hc hi sn vS vc lh lt gc gi gs h0 n0) 0 0 s₁ (entryFrame m #[(.ref f), (.int it), (.long ct)] 5)
  refine Go.of_eq (ef_r52 m f it ct) ?_
  refine Go.st (mkF m 1 #[.val (.ref f), .val (.int it), .val (.long ct), .second, .unset] [(.ref f)]) (fun _ k => XS.aloadN X0.here hx rfl (hb hby dr52_0) rfl rfl k) ?_
  obtain ⟨T1, X1, e1, st1⟩ := getF X0 hx hZ hown (host := "") (Or.inl (hw _ (List.mem_of_getElem? (i := 18) rfl))) Via.refl e0 pr1 (g := (mkF m 1 #[.val (.ref f), .val (.int it), .val (.long ct), .second, .unset] [(.ref f)])) rfl rfl (hb hby dr52_1)
  refine Go.st (mkF m 4 #[.val (.ref f), .val (.int it), .val (.long ct), .second, .unset] [(.ref sn)]) (fun _ k => st1 _ k) ?_
  refine Go.st (mkF m 5 #[.val (.ref f), .val (.int it), .val (.long ct), .second, .unset] [(.int it), (.ref sn)]) (fun _ k => XS.iloadN X1.here hx rfl (hb hby dr52_4) rfl k) ?_
  refine Go.st (mkF m 6 #[.val (.ref f), .val (.int it), .val (.long ct), .second, .unset] [(.int (gs (it.toNatClampNeg)))]) (fun _ k => ldI X1 hx hZ e1 pr11 (i := it.toNatClampNeg) (own_in4 pr14).1 rfl (own_in4 pr14).2 (v := (.int (gs (it.toNatClampNeg)))) rfl (g := (mkF m 5 #[.val (.ref f), .val (.int it), .val (.long ct), .second, .unset] [(.int it), (.ref sn)])) rfl rfl (hb hby dr52_5) _ k) ?_
  refine Go.st (mkF m 8 #[.val (.ref f), .val (.int it), .val (.long ct), .second, .val (.int (gs (it.toNatClampNeg)))] []) (fun _ k => XS.istore X1.here hx rfl (hb hby dr52_6) rfl (l' := #[.val (.ref f), .val (.int it), .val (.long ct), .second, .val (.int (gs (it.toNatClampNeg)))]) rfl k) ?_
  refine Go.st (mkF m 9 #[.val (.ref f), .val (.int it), .val (.long ct), .second, .val (.int (gs (it.toNatClampNeg)))] [(.long ct)]) (fun _ k => XT.lloadN X1.here hx rfl (hb hby dr52_8) rfl k) ?_
  refine Go.st (mkF m 10 #[.val (.ref f), .val (.int it), .val (.long ct), .second, .val (.int (gs (it.toNatClampNeg)))] [(.ref f), (.long ct)]) (fun _ k => XS.aloadN X1.here hx rfl (hb hby dr52_9) rfl rfl k) ?_
  obtain ⟨T2, X2, e2, st2⟩ := getF X1 hx hZ hown (host := "") (Or.inl (hw _ (List.mem_of_getElem? (i := 20) rfl))) Via.refl e1 pr2 (g := (mkF m 10 #[.val (.ref f), .val (.int it), .val (.long ct), .second, .val (.int (gs (it.toNatClampNeg)))] [(.ref f), (.long ct)])) rfl rfl (hb hby dr52_10)
  refine Go.st (mkF m 13 #[.val (.ref f), .val (.int it), .val (.long ct), .second, .val (.int (gs (it.toNatClampNeg)))] [(.long (3 : Int64)), (.long ct)]) (fun _ k => st2 _ k) ?_
  refine Go.st (mkF m 14 #[.val (.ref f), .val (.int it), .val (.long ct), .second, .val (.int (gs (it.toNatClampNeg)))] [(.int (cmpL ct (3 : Int64)))]) (fun _ k => XT.lcmp X2.here hx rfl (hb hby dr52_13) rfl k) ?_
  refine Go.st (mkF m 17 #[.val (.ref f), .val (.int it), .val (.long ct), .second, .val (.int (gs (it.toNatClampNeg)))] []) (fun _ k => XS.ifNo X2.here hx rfl (hb hby dr52_14) rfl (own_lgF pr15).1 k) ?_
  refine Go.st (mkF m 19 #[.val (.ref f), .val (.int it), .val (.long ct), .second, .val (.int (gs (it.toNatClampNeg)))] [(.int (gs (it.toNatClampNeg)))]) (fun _ k => XS.iload X2.here hx rfl (hb hby dr52_17) rfl k) ?_
  refine Go.st (mkF m 20 #[.val (.ref f), .val (.int it), .val (.long ct), .second, .val (.int (gs (it.toNatClampNeg)))] [(.ref f), (.int (gs (it.toNatClampNeg)))]) (fun _ k => XS.aloadN X2.here hx rfl (hb hby dr52_19) rfl rfl k) ?_
  obtain ⟨T3, X3, e3, st3⟩ := getF X2 hx hZ hown (host := "") (Or.inl (hw _ (List.mem_of_getElem? (i := 35) rfl))) Via.refl e2 pr3 (g := (mkF m 20 #[.val (.ref f), .val (.int it), .val (.long ct), .second, .val (.int (gs (it.toNatClampNeg)))] [(.ref f), (.int (gs (it.toNatClampNeg)))])) rfl rfl (hb hby dr52_20)
  refine Go.st (mkF m 23 #[.val (.ref f), .val (.int it), .val (.long ct), .second, .val (.int (gs (it.toNatClampNeg)))] [(.int vS), (.int (gs (it.toNatClampNeg)))]) (fun _ k => st3 _ k) ?_
  refine Go.st (mkF m 27 #[.val (.ref f), .val (.int it), .val (.long ct), .second, .val (.int (gs (it.toNatClampNeg)))] []) (fun _ k => XS.icmpYes X3.here hx rfl (pc0 := 23) (pc' := 27) rfl (hb hby dr52_23) rfl (feq pr16).2 (by decide) (by decide) k) ?_
  refine Go.st (mkF m 29 #[.val (.ref f), .val (.int it), .val (.long ct), .second, .val (.int (gs (it.toNatClampNeg)))] [(.int (gs (it.toNatClampNeg)))]) (fun _ k => XS.iload X3.here hx rfl (hb hby dr52_27) rfl k) ?_
  refine Go.st (mkF m 59 #[.val (.ref f), .val (.int it), .val (.long ct), .second, .val (.int (gs (it.toNatClampNeg)))] []) (fun _ k => XS.ifYes X3.here hx rfl (pc0 := 29) (pc' := 59) rfl (hb hby dr52_29) rfl ((if0 _ _).trans (flt pr17).2.1) (by decide) (by decide) k) ?_
  refine Go.st (mkF m 60 #[.val (.ref f), .val (.int it), .val (.long ct), .second, .val (.int (gs (it.toNatClampNeg)))] [(.long ct)]) (fun _ k => XT.lloadN X3.here hx rfl (hb hby dr52_59) rfl k) ?_
  refine Go.st (mkF m 61 #[.val (.ref f), .val (.int it), .val (.long ct), .second, .val (.int (gs (it.toNatClampNeg)))] [(.ref f), (.long ct)]) (fun _ k => XS.aloadN X3.here hx rfl (hb hby dr52_60) rfl rfl k) ?_
  obtain ⟨T4, X4, e4, st4⟩ := getF X3 hx hZ hown (host := "") (Or.inl (hw _ (List.mem_of_getElem? (i := 33) rfl))) Via.refl e3 pr4 (g := (mkF m 61 #[.val (.ref f), .val (.int it), .val (.long ct), .second, .val (.int (gs (it.toNatClampNeg)))] [(.ref f), (.long ct)])) rfl rfl (hb hby dr52_61)
  refine Go.st (mkF m 64 #[.val (.ref f), .val (.int it), .val (.long ct), .second, .val (.int (gs (it.toNatClampNeg)))] [(.long vc), (.long ct)]) (fun _ k => st4 _ k) ?_
  refine Go.st (mkF m 65 #[.val (.ref f), .val (.int it), .val (.long ct), .second, .val (.int (gs (it.toNatClampNeg)))] [(.int (cmpL ct vc))]) (fun _ k => XT.lcmp X4.here hx rfl (hb hby dr52_64) rfl k) ?_
  refine Go.st (mkF m 113 #[.val (.ref f), .val (.int it), .val (.long ct), .second, .val (.int (gs (it.toNatClampNeg)))] []) (fun _ k => XS.ifYes X4.here hx rfl (pc0 := 65) (pc' := 113) rfl (hb hby dr52_65) rfl (own_leF pr18).2 (by decide) (by decide) k) ?_
  refine Go.st (mkF m 114 #[.val (.ref f), .val (.int it), .val (.long ct), .second, .val (.int (gs (it.toNatClampNeg)))] [(.ref f)]) (fun _ k => XS.aloadN X4.here hx rfl (hb hby dr52_113) rfl rfl k) ?_
  obtain ⟨T5, X5, e5, st5⟩ := getF X4 hx hZ hown (host := "") (Or.inl (hw _ (List.mem_of_getElem? (i := 27) rfl))) Via.refl e4 pr10 (g := (mkF m 114 #[.val (.ref f), .val (.int it), .val (.long ct), .second, .val (.int (gs (it.toNatClampNeg)))] [(.ref f)])) rfl rfl (hb hby dr52_114)
  refine Go.st (mkF m 117 #[.val (.ref f), .val (.int it), .val (.long ct), .second, .val (.int (gs (it.toNatClampNeg)))] [(.int (1 : Int32))]) (fun _ k => st5 _ k) ?_
  refine Go.st (mkF m 118 #[.val (.ref f), .val (.int it), .val (.long ct), .second, .val (.int (gs (it.toNatClampNeg)))] [(.ref f), (.int (1 : Int32))]) (fun _ k => XS.aloadN X5.here hx rfl (hb hby dr52_117) rfl rfl k) ?_
  obtain ⟨T6, X6, e6, st6⟩ := getF X5 hx hZ hown (host := "") (Or.inl (hw _ (List.mem_of_getElem? (i := 16) rfl))) Via.refl e5 pr9 (g := (mkF m 118 #[.val (.ref f), .val (.int it), .val (.long ct), .second, .val (.int (gs (it.toNatClampNeg)))] [(.ref f), (.int (1 : Int32))])) rfl rfl (hb hby dr52_118)
  refine Go.st (mkF m 121 #[.val (.ref f), .val (.int it), .val (.long ct), .second, .val (.int (gs (it.toNatClampNeg)))] [(.ref hi), (.int (1 : Int32))]) (fun _ k => st6 _ k) ?_
  refine Go.st (mkF m 122 #[.val (.ref f), .val (.int it), .val (.long ct), .second, .val (.int (gs (it.toNatClampNeg)))] [(.int (16 : Int32)), (.int (1 : Int32))]) (fun _ k => lenA X6 hx hZ e6 pr13 (z := (16 : Int32)) rfl (g := (mkF m 121 #[.val (.ref f), .val (.int it), .val (.long ct), .second, .val (.int (gs (it.toNatClampNeg)))] [(.ref hi), (.int (1 : Int32))])) rfl rfl (hb hby dr52_121) _ k) ?_
  refine Go.st (mkF m 159 #[.val (.ref f), .val (.int it), .val (.long ct), .second, .val (.int (gs (it.toNatClampNeg)))] []) (fun _ k => XS.icmpYes X6.here hx rfl (pc0 := 122) (pc' := 159) rfl (hb hby dr52_122) rfl (feq (by decide : ¬ ((1 : Int32) = (16 : Int32)))).2 (by decide) (by decide) k) ?_
  refine Go.st (mkF m 160 #[.val (.ref f), .val (.int it), .val (.long ct), .second, .val (.int (gs (it.toNatClampNeg)))] [(.ref f)]) (fun _ k => XS.aloadN X6.here hx rfl (hb hby dr52_159) rfl rfl k) ?_
  refine Go.st (mkF m 161 #[.val (.ref f), .val (.int it), .val (.long ct), .second, .val (.int (gs (it.toNatClampNeg)))] [(.int it), (.ref f)]) (fun _ k => XS.iloadN X6.here hx rfl (hb hby dr52_160) rfl k) ?_
  refine Go.st (mkF m 162 #[.val (.ref f), .val (.int it), .val (.long ct), .second, .val (.int (gs (it.toNatClampNeg)))] [(.long ct), (.int it), (.ref f)]) (fun _ k => XT.lloadN X6.here hx rfl (hb hby dr52_161) rfl k) ?_
  refine Go.st (mkF m 163 #[.val (.ref f), .val (.int it), .val (.long ct), .second, .val (.int (gs (it.toNatClampNeg)))] [(.ref f), (.long ct), (.int it), (.ref f)]) (fun _ k => XS.aloadN X6.here hx rfl (hb hby dr52_162) rfl rfl k) ?_
  refine Go.st (mkF m 164 #[.val (.ref f), .val (.int it), .val (.long ct), .second, .val (.int (gs (it.toNatClampNeg)))] [(.ref f), (.ref f), (.long ct), (.int it), (.ref f)]) (fun _ k => XS.dup X6.here hx rfl (hb hby dr52_163) rfl rfl k) ?_
  obtain ⟨T7, X7, e7, st7⟩ := getF X6 hx hZ hown (host := "") (Or.inl (hw _ (List.mem_of_getElem? (i := 27) rfl))) Via.refl e6 pr10 (g := (mkF m 164 #[.val (.ref f), .val (.int it), .val (.long ct), .second, .val (.int (gs (it.toNatClampNeg)))] [(.ref f), (.ref f), (.long ct), (.int it), (.ref f)])) rfl rfl (hb hby dr52_164)
  refine Go.st (mkF m 167 #[.val (.ref f), .val (.int it), .val (.long ct), .second, .val (.int (gs (it.toNatClampNeg)))] [(.int (1 : Int32)), (.ref f), (.long ct), (.int it), (.ref f)]) (fun _ k => st7 _ k) ?_
  refine Go.st (mkF m 168 #[.val (.ref f), .val (.int it), .val (.long ct), .second, .val (.int (gs (it.toNatClampNeg)))] [(.int (1 : Int32)), (.ref f), (.int (1 : Int32)), (.long ct), (.int it), (.ref f)]) (fun _ k => XT.dupX1 X7.here hx rfl (hb hby dr52_167) rfl rfl rfl k) ?_
  refine Go.st (mkF m 169 #[.val (.ref f), .val (.int it), .val (.long ct), .second, .val (.int (gs (it.toNatClampNeg)))] [(.int (1 : Int32)), (.int (1 : Int32)), (.ref f), (.int (1 : Int32)), (.long ct), (.int it), (.ref f)]) (fun _ k => XS.iconst X7.here hx rfl (hb hby dr52_168) k) ?_
  refine Go.st (mkF m 170 #[.val (.ref f), .val (.int it), .val (.long ct), .second, .val (.int (gs (it.toNatClampNeg)))] [(.int (2 : Int32)), (.ref f), (.int (1 : Int32)), (.long ct), (.int it), (.ref f)]) (fun _ k => XS.iadd X7.here hx rfl (hb hby dr52_169) rfl k) ?_
  obtain ⟨T8, h8, X8, e8, W8, st8⟩ := putF X7 hx hZ hown (host := "") (Or.inl (hw _ (List.mem_of_getElem? (i := 27) rfl))) Via.refl e7 pr10 pr0 (Or.inl (hw _ (List.mem_of_getElem? (i := 28) rfl))) (hw _ (List.mem_of_getElem? (i := 1) rfl)) (ty := .int) (by decide) rfl rfl (g := (mkF m 170 #[.val (.ref f), .val (.int it), .val (.long ct), .second, .val (.int (gs (it.toNatClampNeg)))] [(.int (2 : Int32)), (.ref f), (.int (1 : Int32)), (.long ct), (.int it), (.ref f)])) rfl rfl (hb hby dr52_170)
  have E9q : Exa Z h8 f "com/example/nearpath/nearpath/answer/Frontier" := pr0.wr W8
  have F10 : Fld Z h8 f "com/example/nearpath/nearpath/answer/Frontier" "seen" "[I" (.ref sn) := pr1.other W8 (Or.inr (slot_ne (Or.inr (hw _ (List.mem_of_getElem? (i := 19) rfl))) (Or.inl (hw _ (List.mem_of_getElem? (i := 28) rfl))) (by decide) (t := (.array .int)) (t' := .int) (by decide) (by decide)))
  have F11 : Fld Z h8 f "com/example/nearpath/nearpath/answer/Frontier" "maxCost" "J" (.long (3 : Int64)) := pr2.other W8 (Or.inr (slot_ne (Or.inr (hw _ (List.mem_of_getElem? (i := 21) rfl))) (Or.inl (hw _ (List.mem_of_getElem? (i := 28) rfl))) (by decide) (t := .long) (t' := .int) (by decide) (by decide)))
  have F12 : Fld Z h8 f "com/example/nearpath/nearpath/answer/Frontier" "search" "I" (.int vS) := pr3.other W8 (Or.inr (slot_ne (Or.inl (hw _ (List.mem_of_getElem? (i := 36) rfl))) (Or.inl (hw _ (List.mem_of_getElem? (i := 28) rfl))) (by decide) (t := .int) (t' := .int) (by decide) (by decide)))
  have F13 : Fld Z h8 f "com/example/nearpath/nearpath/answer/Frontier" "cost" "J" (.long vc) := pr4.other W8 (Or.inr (slot_ne (Or.inl (hw _ (List.mem_of_getElem? (i := 34) rfl))) (Or.inl (hw _ (List.mem_of_getElem? (i := 28) rfl))) (by decide) (t := .long) (t' := .int) (by decide) (by decide)))
  have F14 : Fld Z h8 f "com/example/nearpath/nearpath/answer/Frontier" "level" "[I" (.ref lv) := pr5.other W8 (Or.inr (slot_ne (Or.inl (hw _ (List.mem_of_getElem? (i := 12) rfl))) (Or.inl (hw _ (List.mem_of_getElem? (i := 28) rfl))) (by decide) (t := (.array .int)) (t' := .int) (by decide) (by decide)))
  have F15 : Fld Z h8 f "com/example/nearpath/nearpath/answer/Frontier" "levelHead" "I" (.int lh) := pr6.other W8 (Or.inr (slot_ne (Or.inl (hw _ (List.mem_of_getElem? (i := 30) rfl))) (Or.inl (hw _ (List.mem_of_getElem? (i := 28) rfl))) (by decide) (t := .int) (t' := .int) (by decide) (by decide)))
  have F16 : Fld Z h8 f "com/example/nearpath/nearpath/answer/Frontier" "levelTail" "I" (.int lt) := pr7.other W8 (Or.inr (slot_ne (Or.inl (hw _ (List.mem_of_getElem? (i := 32) rfl))) (Or.inl (hw _ (List.mem_of_getElem? (i := 28) rfl))) (by decide) (t := .int) (t' := .int) (by decide) (by decide)))
  have F17 : Fld Z h8 f "com/example/nearpath/nearpath/answer/Frontier" "heapCosts" "[J" (.ref hc) := pr8.other W8 (Or.inr (slot_ne (Or.inl (hw _ (List.mem_of_getElem? (i := 15) rfl))) (Or.inl (hw _ (List.mem_of_getElem? (i := 28) rfl))) (by decide) (t := (.array .long)) (t' := .int) (by decide) (by decide)))
  have F18 : Fld Z h8 f "com/example/nearpath/nearpath/answer/Frontier" "heapItems" "[I" (.ref hi) := pr9.other W8 (Or.inr (slot_ne (Or.inl (hw _ (List.mem_of_getElem? (i := 17) rfl))) (Or.inl (hw _ (List.mem_of_getElem? (i := 28) rfl))) (by decide) (t := (.array .int)) (t' := .int) (by decide) (by decide)))
  have F19 : Fld Z h8 f "com/example/nearpath/nearpath/answer/Frontier" "heapSize" "I" (.int (2 : Int32)) := pr10.same W8
  have V20 : Ary Z h8 sn .int 4 (bts gs) := pr11.other W8 (Ne.symm pr26)
  have V21 : Ary Z h8 hc .long 16 (lts gc) := pr12.other W8 (Ne.symm pr24)
  have V22 : Ary Z h8 hi .int 16 (bts gi) := pr13.other W8 (Ne.symm pr25)
  have K8 : Keep h0 h8 [f, hc, hi, sn] := K0.wr W8 (Or.inl (by simp))
  have N8 := Fr.snoc X8 N0 pr20
  refine Go.st (mkF m 173 #[.val (.ref f), .val (.int it), .val (.long ct), .second, .val (.int (gs (it.toNatClampNeg)))] [(.int (1 : Int32)), (.long ct), (.int it), (.ref f)]) (fun _ k => st8 _ k) ?_
  obtain ⟨cq23, q23a, q23b⟩ := E9q.cell
  have sl23 := selI (args := #[(.ref f), (.int it), (.long ct)]) hZ (hw _ (List.mem_of_getElem? (i := 1) rfl)) (hw _ (List.mem_of_getElem? (i := 57) rfl)) (hw _ (List.mem_of_getElem? (i := 56) rfl)) (by decide)
  obtain ⟨_, _, ⟨T23, L23, k23, n23⟩, -, X23, ⟨Lc23, hQ23, l23, y23, z23⟩, st23⟩ := X8.privateBack hx (y := (⟨"com/example/nearpath/nearpath/answer/Frontier", "siftUp", "(IJI)V"⟩ : MethodName)) hown (mvT hZ (hw _ (List.mem_of_getElem? (i := 55) rfl))) (mvT hZ (hw _ (List.mem_of_getElem? (i := 56) rfl))) sl23.1 sl23.2 (mvT hZ (hw _ (List.mem_of_getElem? (i := 58) rfl))) (by decide) (backOf (W := 0) (rm_su2 l Z a0 hw [] f it ct hc hi sn gc gi gs h8 n0 (Nat.le_trans Z0 K8.1) E9q F10 F17 F18 V21 V22 V20 (by first | assumption | decide) pr21 pr22 pr23 pr24 pr25 pr26 pr27 pr28 pr29 (by first | assumption | decide)) hZ (hw _ (List.mem_of_getElem? (i := 58) rfl)) (hw _ (List.mem_of_getElem? (i := 2) rfl)) (by decide) (by decide)) (g := (mkF m 173 #[.val (.ref f), .val (.int it), .val (.long ct), .second, .val (.int (gs (it.toNatClampNeg)))] [(.int (1 : Int32)), (.long ct), (.int it), (.ref f)])) rfl (by rw [hml]; rfl) (Steps.refl _) (a := f) (by rw [e8]; exact q23a) q23b (argsL := [(.int it), (.long ct), (.int (1 : Int32))]) (rest := []) (lenOf pd_0 rfl) rfl (by show 2 * 0 + _ ≤ _; exact Nat.le_of_eq rfl) (hb hby dr52_173) (fun _ _ => ⟨rfl, e8, (by decide : 0 + 0 ≤ _), (by decide : 0 + 0 ≤ _)⟩)
  dsimp only [Pt.U, Pt.locs, Pt.cells, Pt.slots] at X23 l23 y23 z23 st23 hQ23
  subst l23 y23 z23
  obtain ⟨rfl, N23q, K23q, V23_0, V23_1, V23_2⟩ := hQ23
  have N23 := Fr.app N8 N23q
  have E24q : Exa Z T23.heap f "com/example/nearpath/nearpath/answer/Frontier" := E9q.keep K23q
  have F25 : Fld Z T23.heap f "com/example/nearpath/nearpath/answer/Frontier" "seen" "[I" (.ref sn) := F10.keep K23q (ninS pr24 (ninS pr25 (ninS pr26 nin0)))
  have F26 : Fld Z T23.heap f "com/example/nearpath/nearpath/answer/Frontier" "maxCost" "J" (.long (3 : Int64)) := F11.keep K23q (ninS pr24 (ninS pr25 (ninS pr26 nin0)))
  have F27 : Fld Z T23.heap f "com/example/nearpath/nearpath/answer/Frontier" "search" "I" (.int vS) := F12.keep K23q (ninS pr24 (ninS pr25 (ninS pr26 nin0)))
  have F28 : Fld Z T23.heap f "com/example/nearpath/nearpath/answer/Frontier" "cost" "J" (.long vc) := F13.keep K23q (ninS pr24 (ninS pr25 (ninS pr26 nin0)))
  have F29 : Fld Z T23.heap f "com/example/nearpath/nearpath/answer/Frontier" "level" "[I" (.ref lv) := F14.keep K23q (ninS pr24 (ninS pr25 (ninS pr26 nin0)))
  have F30 : Fld Z T23.heap f "com/example/nearpath/nearpath/answer/Frontier" "levelHead" "I" (.int lh) := F15.keep K23q (ninS pr24 (ninS pr25 (ninS pr26 nin0)))
  have F31 : Fld Z T23.heap f "com/example/nearpath/nearpath/answer/Frontier" "levelTail" "I" (.int lt) := F16.keep K23q (ninS pr24 (ninS pr25 (ninS pr26 nin0)))
  have F32 : Fld Z T23.heap f "com/example/nearpath/nearpath/answer/Frontier" "heapCosts" "[J" (.ref hc) := F17.keep K23q (ninS pr24 (ninS pr25 (ninS pr26 nin0)))
  have F33 : Fld Z T23.heap f "com/example/nearpath/nearpath/answer/Frontier" "heapItems" "[I" (.ref hi) := F18.keep K23q (ninS pr24 (ninS pr25 (ninS pr26 nin0)))
  have F34 : Fld Z T23.heap f "com/example/nearpath/nearpath/answer/Frontier" "heapSize" "I" (.int (2 : Int32)) := F19.keep K23q (ninS pr24 (ninS pr25 (ninS pr26 nin0)))
  have K23 : Keep h0 T23.heap [f, hc, hi, sn] := K8.trans K23q (allS (Or.inl (by simp)) (allS (Or.inl (by simp)) (allS (Or.inl (by simp)) all0)))
  refine Go.st (mkF m 176 #[.val (.ref f), .val (.int it), .val (.long ct), .second, .val (.int (gs (it.toNatClampNeg)))] []) (fun _ k => st23.trans k) ?_
  exact Go.retV X23 hx Bd.notSynchronized Bd.returns (hb hby dr52_176) ⟨rfl, N23, K23, F25, F26, F27, F28, F29, F30, F31, F32, F33, F34, V23_0, V23_1, V23_2⟩ (by decide) (by decide)
def v_a (p0 : Int32) : Int32 := (p0 &&& (3 : Int32))
def v_ca (p0 : Int32) : Int64 := (((ushr p0 (2 : Int32)) &&& (3 : Int32)).toInt64)
def v_b (p0 : Int32) : Int32 := ((ushr p0 (4 : Int32)) &&& (3 : Int32))
def v_cb (p0 : Int32) : Int64 := (((ushr p0 (6 : Int32)) &&& (3 : Int32)).toInt64)
def v_pop (p0 : Int32) : Int32 := (if ((ushr p0 (8 : Int32)) &&& (1 : Int32)) = (0 : Int32) then (0 : Int32) else (1 : Int32))
def v_c (p1 : Int32) : Int32 := (p1 &&& (3 : Int32))
def v_cc (p1 : Int32) : Int64 := (((ushr p1 (2 : Int32)) &&& (3 : Int32)).toInt64)
theorem own_up {b : Nat → Int32} {j i : Nat} {x : Int32} (h : ¬ i = j) : updI b j x i = b i := by unfold updI; rw [if_neg h]
theorem own_us {b : Nat → Int32} {j i : Nat} {x : Int32} (h : i = j) : updI b j x i = x := by unfold updI; rw [if_pos h]
theorem own_hgE {A B j : Nat} (h : B = A) (F : Nat → Nat → Nat → Int32) (q : ∀ A B j, B = A → (F A B j = (0 : Int32) ∨ F A B j = (1 : Int32))) : F A B j = (0 : Int32) ∨ F A B j = (1 : Int32) := q A B j h
theorem own_hgN {A B j : Nat} (h : ¬ B = A) (F : Nat → Nat → Nat → Int32) (q : ∀ A B j, ¬ B = A → (F A B j = (0 : Int32) ∨ F A B j = (1 : Int32))) : F A B j = (0 : Int32) ∨ F A B j = (1 : Int32) := q A B j h
theorem own_m4 (x : Int32) : In4 (x &&& (3 : Int32)) := by
  have e : (x &&& (3 : Int32)).toInt = x.toInt % 2 ^ 2 := Jvm.Kit.i32_mask _ 3 (k := 2) (by decide) (by decide)
  unfold In4; omega
theorem own_va (p : Int32) : In4 (v_a p) := own_m4 _
theorem own_vb (p : Int32) : In4 (v_b p) := own_m4 _
theorem own_vc (p : Int32) : In4 (v_c p) := own_m4 _
theorem own_m3 (x : Int32) : ¬ (3 : Int64) < ((x &&& (3 : Int32)).toInt64) := by
  have e : (x &&& (3 : Int32)).toInt = x.toInt % 2 ^ 2 := Jvm.Kit.i32_mask _ 3 (k := 2) (by decide) (by decide)
  have e3 : (3 : Int64).toInt = 3 := by decide
  rw [Int64.lt_iff_toInt_lt, Int32.toInt_toInt64, e3]; omega
theorem own_ca (p : Int32) : ¬ (3 : Int64) < (v_ca p) := own_m3 _
theorem own_cb (p : Int32) : ¬ (3 : Int64) < (v_cb p) := own_m3 _
theorem own_cc (p : Int32) : ¬ (3 : Int64) < (v_cc p) := own_m3 _
theorem own_tne {x y : Int32} (hx : In4 x) (hy : In4 y) (h : ¬ x = y) : ¬ x.toNatClampNeg = y.toNatClampNeg := fun q => h (Int32.toInt_inj.mp (by
  have a : x.toNatClampNeg = x.toInt.toNat := rfl
  have b : y.toNatClampNeg = y.toInt.toNat := rfl
  obtain ⟨h1, h2⟩ := hx; obtain ⟨h3, h4⟩ := hy
  omega))
theorem pd_3 : parseMethodDescriptor "()I" = some ⟨[], some .int⟩ := by decide +kernel
theorem pd_4 : parseMethodDescriptor "()J" = some ⟨[], some .long⟩ := by decide +kernel
theorem pn_1 : plainName "com/example/nearpath/nearpath/answer/FrontierStartSearchPinLaw" = true := by first | (simp [plainName, overriddenIn]; done) | decide +kernel
theorem ef_0 (m : MethodId) (p0 : Int32) (p1 : Int32) : entryFrame m #[(.int p0), (.int p1)] maxLocals = (mkF m 0 #[.val (.int p0), .val (.int p1), .unset, .unset, .unset, .unset, .unset, .unset, .unset, .unset, .unset, .unset, .unset, .unset, .unset, .unset, .unset, .unset, .unset, .unset, .unset] []) := by first | (simp [entryFrame, mkF, argsToLocals, Value.category, maxLocals]; done) | rfl
def Q_0 (Z : State) (p0 : Int32) (p1 : Int32) (h0 : Heap) (n0 : Nat) (vv : Option Value) (hE : Heap) (LE : List Loc) : Prop := vv = some (.int (1 : Int32)) ∧ Fr n0 LE ∧ Keep h0 hE []
set_option maxRecDepth 65536 in
set_option maxHeartbeats 40000000 in
theorem rm_0 (l : Launch) (Z : State) (a0 : Array Value) (hw : ∀ d ∈ tables_1, d.before a0 Z = true) (ws : List Jvm.Cond) (p0 : Int32) (p1 : Int32) (h0 : Heap) (n0 : Nat) (Z0 : n0 ≤ h0.size)  :
    MetFree l x (head1 (Jvm.Cond.code x code maxLocals ret :: ws) room_1) (fun aa UU => aa = #[(.int p0), (.int p1)] ∧ Z.Warmed39 UU.vm ∧ UU.heap = h0) (fun _ _ _ _ _ => True) (fun _ UU oo UU' => ∃ vv LL, oo = .returned vv ∧ Q_0 Z p0 p1 h0 n0 vv UU'.heap LL ∧ FrameEnd UU oo UU' LL 24 192) := by
  refine MetFree.of_bodySF (plainFor_of_name pn_1) hisR ?_
  intro p e s m args below meth c s₁ Bd hml0 hP hK
  obtain ⟨rfl, hZ, hh⟩ := hP
  have hx := Bd.exec
  have hby := Bd.bytes
  have hml : c.maxLocals = 21 := hml0
  have hown : s.vm.findClass "com/example/nearpath/nearpath/answer/FrontierStartSearchPinLaw" = some m.cls := findClass_of_methodNamed Bd.named
  have hnm := (name_of_methodNamed Bd.named Bd.method).1
  have X0 : Stand p l e room_1 s m #[(.int p0), (.int p1)] below meth c s₁ [] 0 0 := Stand.of_body Bd
  have e0 : s₁.heap = h0 := by rw [← hh, Bd.state]; rfl
  have N0 := Fr.nil n0
  have K0 := Keep.refl h0 []
  show Go p e below s (Q_0 Z p0 p1 h0 n0) 24 192 s₁ (entryFrame m #[(.int p0), (.int p1)] maxLocals)
  refine Go.of_eq (ef_0 m p0 p1) ?_
  refine Go.st (mkF m 1 #[.val (.int p0), .val (.int p1), .unset, .unset, .unset, .unset, .unset, .unset, .unset, .unset, .unset, .unset, .unset, .unset, .unset, .unset, .unset, .unset, .unset, .unset, .unset] [(.int p0)]) (fun _ k => XS.iloadN X0.here hx rfl (hb hby at_0) rfl k) ?_
  refine Go.st (mkF m 2 #[.val (.int p0), .val (.int p1), .unset, .unset, .unset, .unset, .unset, .unset, .unset, .unset, .unset, .unset, .unset, .unset, .unset, .unset, .unset, .unset, .unset, .unset, .unset] [(.int (3 : Int32)), (.int p0)]) (fun _ k => XS.iconst X0.here hx rfl (hb hby at_1) k) ?_
  refine Go.st (mkF m 3 #[.val (.int p0), .val (.int p1), .unset, .unset, .unset, .unset, .unset, .unset, .unset, .unset, .unset, .unset, .unset, .unset, .unset, .unset, .unset, .unset, .unset, .unset, .unset] [(.int (p0 &&& (3 : Int32)))]) (fun _ k => XS.iand X0.here hx rfl (hb hby at_2) rfl k) ?_
  refine Go.st (mkF m 4 #[.val (.int p0), .val (.int p1), .val (.int (v_a p0)), .unset, .unset, .unset, .unset, .unset, .unset, .unset, .unset, .unset, .unset, .unset, .unset, .unset, .unset, .unset, .unset, .unset, .unset] []) (fun _ k => XS.istoreN X0.here hx rfl (hb hby at_3) rfl (l' := #[.val (.int p0), .val (.int p1), .val (.int (v_a p0)), .unset, .unset, .unset, .unset, .unset, .unset, .unset, .unset, .unset, .unset, .unset, .unset, .unset, .unset, .unset, .unset, .unset, .unset]) rfl k) ?_
  refine Go.st (mkF m 5 #[.val (.int p0), .val (.int p1), .val (.int (v_a p0)), .unset, .unset, .unset, .unset, .unset, .unset, .unset, .unset, .unset, .unset, .unset, .unset, .unset, .unset, .unset, .unset, .unset, .unset] [(.int p0)]) (fun _ k => XS.iloadN X0.here hx rfl (hb hby at_4) rfl k) ?_
  refine Go.st (mkF m 6 #[.val (.int p0), .val (.int p1), .val (.int (v_a p0)), .unset, .unset, .unset, .unset, .unset, .unset, .unset, .unset, .unset, .unset, .unset, .unset, .unset, .unset, .unset, .unset, .unset, .unset] [(.int (2 : Int32)), (.int p0)]) (fun _ k => XS.iconst X0.here hx rfl (hb hby at_5) k) ?_
  refine Go.st (mkF m 7 #[.val (.int p0), .val (.int p1), .val (.int (v_a p0)), .unset, .unset, .unset, .unset, .unset, .unset, .unset, .unset, .unset, .unset, .unset, .unset, .unset, .unset, .unset, .unset, .unset, .unset] [(.int (ushr p0 (2 : Int32)))]) (fun _ k => XT.iushr X0.here hx rfl (hb hby at_6) rfl k) ?_
  refine Go.st (mkF m 8 #[.val (.int p0), .val (.int p1), .val (.int (v_a p0)), .unset, .unset, .unset, .unset, .unset, .unset, .unset, .unset, .unset, .unset, .unset, .unset, .unset, .unset, .unset, .unset, .unset, .unset] [(.int (3 : Int32)), (.int (ushr p0 (2 : Int32)))]) (fun _ k => XS.iconst X0.here hx rfl (hb hby at_7) k) ?_
  refine Go.st (mkF m 9 #[.val (.int p0), .val (.int p1), .val (.int (v_a p0)), .unset, .unset, .unset, .unset, .unset, .unset, .unset, .unset, .unset, .unset, .unset, .unset, .unset, .unset, .unset, .unset, .unset, .unset] [(.int ((ushr p0 (2 : Int32)) &&& (3 : Int32)))]) (fun _ k => XS.iand X0.here hx rfl (hb hby at_8) rfl k) ?_
  refine Go.st (mkF m 10 #[.val (.int p0), .val (.int p1), .val (.int (v_a p0)), .unset, .unset, .unset, .unset, .unset, .unset, .unset, .unset, .unset, .unset, .unset, .unset, .unset, .unset, .unset, .unset, .unset, .unset] [(.long (((ushr p0 (2 : Int32)) &&& (3 : Int32)).toInt64))]) (fun _ k => XT.i2l X0.here hx rfl (hb hby at_9) rfl k) ?_
  refine Go.st (mkF m 11 #[.val (.int p0), .val (.int p1), .val (.int (v_a p0)), .val (.long (v_ca p0)), .second, .unset, .unset, .unset, .unset, .unset, .unset, .unset, .unset, .unset, .unset, .unset, .unset, .unset, .unset, .unset, .unset] []) (fun _ k => XT.lstoreN X0.here hx rfl (hb hby at_10) rfl (l' := #[.val (.int p0), .val (.int p1), .val (.int (v_a p0)), .val (.long (v_ca p0)), .second, .unset, .unset, .unset, .unset, .unset, .unset, .unset, .unset, .unset, .unset, .unset, .unset, .unset, .unset, .unset, .unset]) rfl k) ?_
  refine Go.st (mkF m 12 #[.val (.int p0), .val (.int p1), .val (.int (v_a p0)), .val (.long (v_ca p0)), .second, .unset, .unset, .unset, .unset, .unset, .unset, .unset, .unset, .unset, .unset, .unset, .unset, .unset, .unset, .unset, .unset] [(.int p0)]) (fun _ k => XS.iloadN X0.here hx rfl (hb hby at_11) rfl k) ?_
  refine Go.st (mkF m 13 #[.val (.int p0), .val (.int p1), .val (.int (v_a p0)), .val (.long (v_ca p0)), .second, .unset, .unset, .unset, .unset, .unset, .unset, .unset, .unset, .unset, .unset, .unset, .unset, .unset, .unset, .unset, .unset] [(.int (4 : Int32)), (.int p0)]) (fun _ k => XS.iconst X0.here hx rfl (hb hby at_12) k) ?_
  refine Go.st (mkF m 14 #[.val (.int p0), .val (.int p1), .val (.int (v_a p0)), .val (.long (v_ca p0)), .second, .unset, .unset, .unset, .unset, .unset, .unset, .unset, .unset, .unset, .unset, .unset, .unset, .unset, .unset, .unset, .unset] [(.int (ushr p0 (4 : Int32)))]) (fun _ k => XT.iushr X0.here hx rfl (hb hby at_13) rfl k) ?_
  refine Go.st (mkF m 15 #[.val (.int p0), .val (.int p1), .val (.int (v_a p0)), .val (.long (v_ca p0)), .second, .unset, .unset, .unset, .unset, .unset, .unset, .unset, .unset, .unset, .unset, .unset, .unset, .unset, .unset, .unset, .unset] [(.int (3 : Int32)), (.int (ushr p0 (4 : Int32)))]) (fun _ k => XS.iconst X0.here hx rfl (hb hby at_14) k) ?_
  refine Go.st (mkF m 16 #[.val (.int p0), .val (.int p1), .val (.int (v_a p0)), .val (.long (v_ca p0)), .second, .unset, .unset, .unset, .unset, .unset, .unset, .unset, .unset, .unset, .unset, .unset, .unset, .unset, .unset, .unset, .unset] [(.int ((ushr p0 (4 : Int32)) &&& (3 : Int32)))]) (fun _ k => XS.iand X0.here hx rfl (hb hby at_15) rfl k) ?_
  refine Go.st (mkF m 18 #[.val (.int p0), .val (.int p1), .val (.int (v_a p0)), .val (.long (v_ca p0)), .second, .val (.int (v_b p0)), .unset, .unset, .unset, .unset, .unset, .unset, .unset, .unset, .unset, .unset, .unset, .unset, .unset, .unset, .unset] []) (fun _ k => XS.istore X0.here hx rfl (hb hby at_16) rfl (l' := #[.val (.int p0), .val (.int p1), .val (.int (v_a p0)), .val (.long (v_ca p0)), .second, .val (.int (v_b p0)), .unset, .unset, .unset, .unset, .unset, .unset, .unset, .unset, .unset, .unset, .unset, .unset, .unset, .unset, .unset]) rfl k) ?_
  refine Go.st (mkF m 19 #[.val (.int p0), .val (.int p1), .val (.int (v_a p0)), .val (.long (v_ca p0)), .second, .val (.int (v_b p0)), .unset, .unset, .unset, .unset, .unset, .unset, .unset, .unset, .unset, .unset, .unset, .unset, .unset, .unset, .unset] [(.int p0)]) (fun _ k => XS.iloadN X0.here hx rfl (hb hby at_18) rfl k) ?_
  refine Go.st (mkF m 21 #[.val (.int p0), .val (.int p1), .val (.int (v_a p0)), .val (.long (v_ca p0)), .second, .val (.int (v_b p0)), .unset, .unset, .unset, .unset, .unset, .unset, .unset, .unset, .unset, .unset, .unset, .unset, .unset, .unset, .unset] [(.int (6 : Int32)), (.int p0)]) (fun _ k => XS.bipush X0.here hx rfl (hb hby at_19) k) ?_
  refine Go.st (mkF m 22 #[.val (.int p0), .val (.int p1), .val (.int (v_a p0)), .val (.long (v_ca p0)), .second, .val (.int (v_b p0)), .unset, .unset, .unset, .unset, .unset, .unset, .unset, .unset, .unset, .unset, .unset, .unset, .unset, .unset, .unset] [(.int (ushr p0 (6 : Int32)))]) (fun _ k => XT.iushr X0.here hx rfl (hb hby at_21) rfl k) ?_
  refine Go.st (mkF m 23 #[.val (.int p0), .val (.int p1), .val (.int (v_a p0)), .val (.long (v_ca p0)), .second, .val (.int (v_b p0)), .unset, .unset, .unset, .unset, .unset, .unset, .unset, .unset, .unset, .unset, .unset, .unset, .unset, .unset, .unset] [(.int (3 : Int32)), (.int (ushr p0 (6 : Int32)))]) (fun _ k => XS.iconst X0.here hx rfl (hb hby at_22) k) ?_
  refine Go.st (mkF m 24 #[.val (.int p0), .val (.int p1), .val (.int (v_a p0)), .val (.long (v_ca p0)), .second, .val (.int (v_b p0)), .unset, .unset, .unset, .unset, .unset, .unset, .unset, .unset, .unset, .unset, .unset, .unset, .unset, .unset, .unset] [(.int ((ushr p0 (6 : Int32)) &&& (3 : Int32)))]) (fun _ k => XS.iand X0.here hx rfl (hb hby at_23) rfl k) ?_
  refine Go.st (mkF m 25 #[.val (.int p0), .val (.int p1), .val (.int (v_a p0)), .val (.long (v_ca p0)), .second, .val (.int (v_b p0)), .unset, .unset, .unset, .unset, .unset, .unset, .unset, .unset, .unset, .unset, .unset, .unset, .unset, .unset, .unset] [(.long (((ushr p0 (6 : Int32)) &&& (3 : Int32)).toInt64))]) (fun _ k => XT.i2l X0.here hx rfl (hb hby at_24) rfl k) ?_
  refine Go.st (mkF m 27 #[.val (.int p0), .val (.int p1), .val (.int (v_a p0)), .val (.long (v_ca p0)), .second, .val (.int (v_b p0)), .val (.long (v_cb p0)), .second, .unset, .unset, .unset, .unset, .unset, .unset, .unset, .unset, .unset, .unset, .unset, .unset, .unset] []) (fun _ k => XT.lstore X0.here hx rfl (hb hby at_25) rfl (l' := #[.val (.int p0), .val (.int p1), .val (.int (v_a p0)), .val (.long (v_ca p0)), .second, .val (.int (v_b p0)), .val (.long (v_cb p0)), .second, .unset, .unset, .unset, .unset, .unset, .unset, .unset, .unset, .unset, .unset, .unset, .unset, .unset]) rfl k) ?_
  refine Go.st (mkF m 28 #[.val (.int p0), .val (.int p1), .val (.int (v_a p0)), .val (.long (v_ca p0)), .second, .val (.int (v_b p0)), .val (.long (v_cb p0)), .second, .unset, .unset, .unset, .unset, .unset, .unset, .unset, .unset, .unset, .unset, .unset, .unset, .unset] [(.int p0)]) (fun _ k => XS.iloadN X0.here hx rfl (hb hby at_27) rfl k) ?_
  refine Go.st (mkF m 30 #[.val (.int p0), .val (.int p1), .val (.int (v_a p0)), .val (.long (v_ca p0)), .second, .val (.int (v_b p0)), .val (.long (v_cb p0)), .second, .unset, .unset, .unset, .unset, .unset, .unset, .unset, .unset, .unset, .unset, .unset, .unset, .unset] [(.int (8 : Int32)), (.int p0)]) (fun _ k => XS.bipush X0.here hx rfl (hb hby at_28) k) ?_
  refine Go.st (mkF m 31 #[.val (.int p0), .val (.int p1), .val (.int (v_a p0)), .val (.long (v_ca p0)), .second, .val (.int (v_b p0)), .val (.long (v_cb p0)), .second, .unset, .unset, .unset, .unset, .unset, .unset, .unset, .unset, .unset, .unset, .unset, .unset, .unset] [(.int (ushr p0 (8 : Int32)))]) (fun _ k => XT.iushr X0.here hx rfl (hb hby at_30) rfl k) ?_
  refine Go.st (mkF m 32 #[.val (.int p0), .val (.int p1), .val (.int (v_a p0)), .val (.long (v_ca p0)), .second, .val (.int (v_b p0)), .val (.long (v_cb p0)), .second, .unset, .unset, .unset, .unset, .unset, .unset, .unset, .unset, .unset, .unset, .unset, .unset, .unset] [(.int (1 : Int32)), (.int (ushr p0 (8 : Int32)))]) (fun _ k => XS.iconst X0.here hx rfl (hb hby at_31) k) ?_
  refine Go.st (mkF m 33 #[.val (.int p0), .val (.int p1), .val (.int (v_a p0)), .val (.long (v_ca p0)), .second, .val (.int (v_b p0)), .val (.long (v_cb p0)), .second, .unset, .unset, .unset, .unset, .unset, .unset, .unset, .unset, .unset, .unset, .unset, .unset, .unset] [(.int ((ushr p0 (8 : Int32)) &&& (1 : Int32)))]) (fun _ k => XS.iand X0.here hx rfl (hb hby at_32) rfl k) ?_
  have J33 : Go p e below s (Q_0 Z p0 p1 h0 n0) 24 192 s₁ (mkF m 41 #[.val (.int p0), .val (.int p1), .val (.int (v_a p0)), .val (.long (v_ca p0)), .second, .val (.int (v_b p0)), .val (.long (v_cb p0)), .second, .unset, .unset, .unset, .unset, .unset, .unset, .unset, .unset, .unset, .unset, .unset, .unset, .unset] [(.int (v_pop p0))]) := by
    refine Go.st (mkF m 43 #[.val (.int p0), .val (.int p1), .val (.int (v_a p0)), .val (.long (v_ca p0)), .second, .val (.int (v_b p0)), .val (.long (v_cb p0)), .second, .val (.int (v_pop p0)), .unset, .unset, .unset, .unset, .unset, .unset, .unset, .unset, .unset, .unset, .unset, .unset] []) (fun _ k => XS.istore X0.here hx rfl (hb hby at_41) rfl (l' := #[.val (.int p0), .val (.int p1), .val (.int (v_a p0)), .val (.long (v_ca p0)), .second, .val (.int (v_b p0)), .val (.long (v_cb p0)), .second, .val (.int (v_pop p0)), .unset, .unset, .unset, .unset, .unset, .unset, .unset, .unset, .unset, .unset, .unset, .unset]) rfl k) ?_
    refine Go.st (mkF m 44 #[.val (.int p0), .val (.int p1), .val (.int (v_a p0)), .val (.long (v_ca p0)), .second, .val (.int (v_b p0)), .val (.long (v_cb p0)), .second, .val (.int (v_pop p0)), .unset, .unset, .unset, .unset, .unset, .unset, .unset, .unset, .unset, .unset, .unset, .unset] [(.int p1)]) (fun _ k => XS.iloadN X0.here hx rfl (hb hby at_43) rfl k) ?_
    refine Go.st (mkF m 45 #[.val (.int p0), .val (.int p1), .val (.int (v_a p0)), .val (.long (v_ca p0)), .second, .val (.int (v_b p0)), .val (.long (v_cb p0)), .second, .val (.int (v_pop p0)), .unset, .unset, .unset, .unset, .unset, .unset, .unset, .unset, .unset, .unset, .unset, .unset] [(.int (3 : Int32)), (.int p1)]) (fun _ k => XS.iconst X0.here hx rfl (hb hby at_44) k) ?_
    refine Go.st (mkF m 46 #[.val (.int p0), .val (.int p1), .val (.int (v_a p0)), .val (.long (v_ca p0)), .second, .val (.int (v_b p0)), .val (.long (v_cb p0)), .second, .val (.int (v_pop p0)), .unset, .unset, .unset, .unset, .unset, .unset, .unset, .unset, .unset, .unset, .unset, .unset] [(.int (p1 &&& (3 : Int32)))]) (fun _ k => XS.iand X0.here hx rfl (hb hby at_45) rfl k) ?_
    refine Go.st (mkF m 48 #[.val (.int p0), .val (.int p1), .val (.int (v_a p0)), .val (.long (v_ca p0)), .second, .val (.int (v_b p0)), .val (.long (v_cb p0)), .second, .val (.int (v_pop p0)), .val (.int (v_c p1)), .unset, .unset, .unset, .unset, .unset, .unset, .unset, .unset, .unset, .unset, .unset] []) (fun _ k => XS.istore X0.here hx rfl (hb hby at_46) rfl (l' := #[.val (.int p0), .val (.int p1), .val (.int (v_a p0)), .val (.long (v_ca p0)), .second, .val (.int (v_b p0)), .val (.long (v_cb p0)), .second, .val (.int (v_pop p0)), .val (.int (v_c p1)), .unset, .unset, .unset, .unset, .unset, .unset, .unset, .unset, .unset, .unset, .unset]) rfl k) ?_
    refine Go.st (mkF m 49 #[.val (.int p0), .val (.int p1), .val (.int (v_a p0)), .val (.long (v_ca p0)), .second, .val (.int (v_b p0)), .val (.long (v_cb p0)), .second, .val (.int (v_pop p0)), .val (.int (v_c p1)), .unset, .unset, .unset, .unset, .unset, .unset, .unset, .unset, .unset, .unset, .unset] [(.int p1)]) (fun _ k => XS.iloadN X0.here hx rfl (hb hby at_48) rfl k) ?_
    refine Go.st (mkF m 50 #[.val (.int p0), .val (.int p1), .val (.int (v_a p0)), .val (.long (v_ca p0)), .second, .val (.int (v_b p0)), .val (.long (v_cb p0)), .second, .val (.int (v_pop p0)), .val (.int (v_c p1)), .unset, .unset, .unset, .unset, .unset, .unset, .unset, .unset, .unset, .unset, .unset] [(.int (2 : Int32)), (.int p1)]) (fun _ k => XS.iconst X0.here hx rfl (hb hby at_49) k) ?_
    refine Go.st (mkF m 51 #[.val (.int p0), .val (.int p1), .val (.int (v_a p0)), .val (.long (v_ca p0)), .second, .val (.int (v_b p0)), .val (.long (v_cb p0)), .second, .val (.int (v_pop p0)), .val (.int (v_c p1)), .unset, .unset, .unset, .unset, .unset, .unset, .unset, .unset, .unset, .unset, .unset] [(.int (ushr p1 (2 : Int32)))]) (fun _ k => XT.iushr X0.here hx rfl (hb hby at_50) rfl k) ?_
    refine Go.st (mkF m 52 #[.val (.int p0), .val (.int p1), .val (.int (v_a p0)), .val (.long (v_ca p0)), .second, .val (.int (v_b p0)), .val (.long (v_cb p0)), .second, .val (.int (v_pop p0)), .val (.int (v_c p1)), .unset, .unset, .unset, .unset, .unset, .unset, .unset, .unset, .unset, .unset, .unset] [(.int (3 : Int32)), (.int (ushr p1 (2 : Int32)))]) (fun _ k => XS.iconst X0.here hx rfl (hb hby at_51) k) ?_
    refine Go.st (mkF m 53 #[.val (.int p0), .val (.int p1), .val (.int (v_a p0)), .val (.long (v_ca p0)), .second, .val (.int (v_b p0)), .val (.long (v_cb p0)), .second, .val (.int (v_pop p0)), .val (.int (v_c p1)), .unset, .unset, .unset, .unset, .unset, .unset, .unset, .unset, .unset, .unset, .unset] [(.int ((ushr p1 (2 : Int32)) &&& (3 : Int32)))]) (fun _ k => XS.iand X0.here hx rfl (hb hby at_52) rfl k) ?_
    refine Go.st (mkF m 54 #[.val (.int p0), .val (.int p1), .val (.int (v_a p0)), .val (.long (v_ca p0)), .second, .val (.int (v_b p0)), .val (.long (v_cb p0)), .second, .val (.int (v_pop p0)), .val (.int (v_c p1)), .unset, .unset, .unset, .unset, .unset, .unset, .unset, .unset, .unset, .unset, .unset] [(.long (((ushr p1 (2 : Int32)) &&& (3 : Int32)).toInt64))]) (fun _ k => XT.i2l X0.here hx rfl (hb hby at_53) rfl k) ?_
    refine Go.st (mkF m 56 #[.val (.int p0), .val (.int p1), .val (.int (v_a p0)), .val (.long (v_ca p0)), .second, .val (.int (v_b p0)), .val (.long (v_cb p0)), .second, .val (.int (v_pop p0)), .val (.int (v_c p1)), .val (.long (v_cc p1)), .second, .unset, .unset, .unset, .unset, .unset, .unset, .unset, .unset, .unset] []) (fun _ k => XT.lstore X0.here hx rfl (hb hby at_54) rfl (l' := #[.val (.int p0), .val (.int p1), .val (.int (v_a p0)), .val (.long (v_ca p0)), .second, .val (.int (v_b p0)), .val (.long (v_cb p0)), .second, .val (.int (v_pop p0)), .val (.int (v_c p1)), .val (.long (v_cc p1)), .second, .unset, .unset, .unset, .unset, .unset, .unset, .unset, .unset, .unset]) rfl k) ?_
    obtain ⟨T2, h2, X2, e2, E2, A2, D2, -, st2⟩ := newO X0 hx hZ hown (hw _ (List.mem_of_getElem? (i := 0) rfl)) (hw _ (List.mem_of_getElem? (i := 1) rfl)) (hw _ (List.mem_of_getElem? (i := 2) rfl)) e0 (g := (mkF m 56 #[.val (.int p0), .val (.int p1), .val (.int (v_a p0)), .val (.long (v_ca p0)), .second, .val (.int (v_b p0)), .val (.long (v_cb p0)), .second, .val (.int (v_pop p0)), .val (.int (v_c p1)), .val (.long (v_cc p1)), .second, .unset, .unset, .unset, .unset, .unset, .unset, .unset, .unset, .unset] [])) rfl (hb hby at_56) (by decide) (by decide)
    obtain ⟨b2, q2⟩ : ∃ z, z = h0.size := ⟨_, rfl⟩
    rw [← q2] at A2 D2 st2
    have sz_b2 : h0.size ≤ b2 := by rw [q2]; exact K0.1
    have g_b2 : n0 ≤ b2 := Nat.le_trans Z0 sz_b2
    have K2 : Keep h0 h2 [] := K0.ext E2
    have F3 : Fld Z h2 b2 "com/example/nearpath/nearpath/answer/Frontier" "level" "[I" .null := D2 (Or.inl (hw _ (List.mem_of_getElem? (i := 12) rfl))) (ty := (.array .int)) (by decide)
    have F4 : Fld Z h2 b2 "com/example/nearpath/nearpath/answer/Frontier" "heapCosts" "[J" .null := D2 (Or.inl (hw _ (List.mem_of_getElem? (i := 15) rfl))) (ty := (.array .long)) (by decide)
    have F5 : Fld Z h2 b2 "com/example/nearpath/nearpath/answer/Frontier" "heapItems" "[I" .null := D2 (Or.inl (hw _ (List.mem_of_getElem? (i := 17) rfl))) (ty := (.array .int)) (by decide)
    have F6 : Fld Z h2 b2 "com/example/nearpath/nearpath/answer/Frontier" "seen" "[I" .null := D2 (Or.inr (hw _ (List.mem_of_getElem? (i := 19) rfl))) (ty := (.array .int)) (by decide)
    have F7 : Fld Z h2 b2 "com/example/nearpath/nearpath/answer/Frontier" "maxCost" "J" (.long (0 : Int64)) := D2 (Or.inr (hw _ (List.mem_of_getElem? (i := 21) rfl))) (ty := .long) (by decide)
    have F8 : Fld Z h2 b2 "com/example/nearpath/nearpath/answer/Frontier" "heapSize" "I" (.int (0 : Int32)) := D2 (Or.inl (hw _ (List.mem_of_getElem? (i := 28) rfl))) (ty := .int) (by decide)
    have F9 : Fld Z h2 b2 "com/example/nearpath/nearpath/answer/Frontier" "levelHead" "I" (.int (0 : Int32)) := D2 (Or.inl (hw _ (List.mem_of_getElem? (i := 30) rfl))) (ty := .int) (by decide)
    have F10 : Fld Z h2 b2 "com/example/nearpath/nearpath/answer/Frontier" "levelTail" "I" (.int (0 : Int32)) := D2 (Or.inl (hw _ (List.mem_of_getElem? (i := 32) rfl))) (ty := .int) (by decide)
    have F11 : Fld Z h2 b2 "com/example/nearpath/nearpath/answer/Frontier" "cost" "J" (.long (0 : Int64)) := D2 (Or.inl (hw _ (List.mem_of_getElem? (i := 34) rfl))) (ty := .long) (by decide)
    have F12 : Fld Z h2 b2 "com/example/nearpath/nearpath/answer/Frontier" "search" "I" (.int (0 : Int32)) := D2 (Or.inl (hw _ (List.mem_of_getElem? (i := 36) rfl))) (ty := .int) (by decide)
    refine Go.st (mkF m 59 #[.val (.int p0), .val (.int p1), .val (.int (v_a p0)), .val (.long (v_ca p0)), .second, .val (.int (v_b p0)), .val (.long (v_cb p0)), .second, .val (.int (v_pop p0)), .val (.int (v_c p1)), .val (.long (v_cc p1)), .second, .unset, .unset, .unset, .unset, .unset, .unset, .unset, .unset, .unset] [(.ref b2)]) (fun _ k => st2 _ k) ?_
    refine Go.st (mkF m 60 #[.val (.int p0), .val (.int p1), .val (.int (v_a p0)), .val (.long (v_ca p0)), .second, .val (.int (v_b p0)), .val (.long (v_cb p0)), .second, .val (.int (v_pop p0)), .val (.int (v_c p1)), .val (.long (v_cc p1)), .second, .unset, .unset, .unset, .unset, .unset, .unset, .unset, .unset, .unset] [(.ref b2), (.ref b2)]) (fun _ k => XS.dup X2.here hx rfl (hb hby at_59) rfl rfl k) ?_
    refine Go.st (mkF m 61 #[.val (.int p0), .val (.int p1), .val (.int (v_a p0)), .val (.long (v_ca p0)), .second, .val (.int (v_b p0)), .val (.long (v_cb p0)), .second, .val (.int (v_pop p0)), .val (.int (v_c p1)), .val (.long (v_cc p1)), .second, .unset, .unset, .unset, .unset, .unset, .unset, .unset, .unset, .unset] [(.int (4 : Int32)), (.ref b2), (.ref b2)]) (fun _ k => XS.iconst X2.here hx rfl (hb hby at_60) k) ?_
    refine Go.st (mkF m 64 #[.val (.int p0), .val (.int p1), .val (.int (v_a p0)), .val (.long (v_ca p0)), .second, .val (.int (v_b p0)), .val (.long (v_cb p0)), .second, .val (.int (v_pop p0)), .val (.int (v_c p1)), .val (.long (v_cc p1)), .second, .unset, .unset, .unset, .unset, .unset, .unset, .unset, .unset, .unset] [(.long (3 : Int64)), (.int (4 : Int32)), (.ref b2), (.ref b2)]) (fun _ k => X2.ldc2Long hx hown (mvT hZ (hw _ (List.mem_of_getElem? (i := 3) rfl))) (g := (mkF m 61 #[.val (.int p0), .val (.int p1), .val (.int (v_a p0)), .val (.long (v_ca p0)), .second, .val (.int (v_b p0)), .val (.long (v_cb p0)), .second, .val (.int (v_pop p0)), .val (.int (v_c p1)), .val (.long (v_cc p1)), .second, .unset, .unset, .unset, .unset, .unset, .unset, .unset, .unset, .unset] [(.int (4 : Int32)), (.ref b2), (.ref b2)])) rfl (hb hby at_61) _ k) ?_
    obtain ⟨_, _, ⟨T13, L13, k13, n13⟩, -, X13, ⟨Lc13, hQ13, l13, y13, z13⟩, st13⟩ := X2.specialBack hx (y := (⟨"com/example/nearpath/nearpath/answer/Frontier", "<init>", "(IJ)V"⟩ : MethodName)) rfl hown (mvT hZ (hw _ (List.mem_of_getElem? (i := 4) rfl))) (mvT hZ (hw _ (List.mem_of_getElem? (i := 5) rfl))) (mvT hZ (hw _ (List.mem_of_getElem? (i := 6) rfl))) (by decide) (backOf (W := 1) (rm_1 l Z a0 hw [] b2 h2 n0 (Nat.le_trans Z0 K2.1) A2 F6 F7 F12 F11 F3 F9 F10 F4 F5 F8 g_b2) hZ (hw _ (List.mem_of_getElem? (i := 6) rfl)) (hw _ (List.mem_of_getElem? (i := 2) rfl)) (by decide) (by decide)) (g := (mkF m 64 #[.val (.int p0), .val (.int p1), .val (.int (v_a p0)), .val (.long (v_ca p0)), .second, .val (.int (v_b p0)), .val (.long (v_cb p0)), .second, .val (.int (v_pop p0)), .val (.int (v_c p1)), .val (.long (v_cc p1)), .second, .unset, .unset, .unset, .unset, .unset, .unset, .unset, .unset, .unset] [(.long (3 : Int64)), (.int (4 : Int32)), (.ref b2), (.ref b2)])) rfl (by rw [hml]; rfl) (Steps.refl _) (a := b2) (argsL := [(.int (4 : Int32)), (.long (3 : Int64))]) (rest := [(.ref b2)]) (lenOf pd_1 rfl) rfl (by show 2 * 0 + _ ≤ _; exact Nat.le_of_eq rfl) (hb hby at_64) (fun _ _ => ⟨rfl, e2, (by decide : 1 + 4 ≤ _), (by decide : 10 + 52 ≤ _)⟩)
    dsimp only [Pt.U, Pt.locs, Pt.cells, Pt.slots] at X13 l13 y13 z13 st13 hQ13
    subst l13 y13 z13
    obtain ⟨lv_13, hc_13, hi_13, sn_13, rfl, N13q, K13q, F13_0, F13_1, F13_2, F13_3, F13_4, F13_5, F13_6, F13_7, F13_8, F13_9, V13_10, V13_11, V13_12, V13_13, P13_14, P13_15, P13_16, P13_17, P13_18, P13_19, P13_20, P13_21, P13_22, P13_23⟩ := hQ13
    have N13 := Fr.app N0 N13q
    have sz_lv_13 : h0.size ≤ lv_13 := Nat.le_trans K2.1 P13_14
    have g_lv_13 : n0 ≤ lv_13 := Nat.le_trans Z0 sz_lv_13
    have ne_b2_lv_13 : b2 ≠ lv_13 := Nat.ne_of_lt (Nat.lt_of_lt_of_le A2.lt P13_14)
    have sz_hc_13 : h0.size ≤ hc_13 := Nat.le_trans K2.1 P13_15
    have g_hc_13 : n0 ≤ hc_13 := Nat.le_trans Z0 sz_hc_13
    have ne_b2_hc_13 : b2 ≠ hc_13 := Nat.ne_of_lt (Nat.lt_of_lt_of_le A2.lt P13_15)
    have sz_hi_13 : h0.size ≤ hi_13 := Nat.le_trans K2.1 P13_16
    have g_hi_13 : n0 ≤ hi_13 := Nat.le_trans Z0 sz_hi_13
    have ne_b2_hi_13 : b2 ≠ hi_13 := Nat.ne_of_lt (Nat.lt_of_lt_of_le A2.lt P13_16)
    have sz_sn_13 : h0.size ≤ sn_13 := Nat.le_trans K2.1 P13_17
    have g_sn_13 : n0 ≤ sn_13 := Nat.le_trans Z0 sz_sn_13
    have ne_b2_sn_13 : b2 ≠ sn_13 := Nat.ne_of_lt (Nat.lt_of_lt_of_le A2.lt P13_17)
    have E14q : Exa Z T13.heap b2 "com/example/nearpath/nearpath/answer/Frontier" := A2.keep K13q
    have K13 : Keep h0 T13.heap [] := K2.trans K13q (allS (Or.inr sz_b2) all0)
    refine Go.st (mkF m 67 #[.val (.int p0), .val (.int p1), .val (.int (v_a p0)), .val (.long (v_ca p0)), .second, .val (.int (v_b p0)), .val (.long (v_cb p0)), .second, .val (.int (v_pop p0)), .val (.int (v_c p1)), .val (.long (v_cc p1)), .second, .unset, .unset, .unset, .unset, .unset, .unset, .unset, .unset, .unset] [(.ref b2)]) (fun _ k => st13.trans k) ?_
    refine Go.st (mkF m 69 #[.val (.int p0), .val (.int p1), .val (.int (v_a p0)), .val (.long (v_ca p0)), .second, .val (.int (v_b p0)), .val (.long (v_cb p0)), .second, .val (.int (v_pop p0)), .val (.int (v_c p1)), .val (.long (v_cc p1)), .second, .val (.ref b2), .unset, .unset, .unset, .unset, .unset, .unset, .unset, .unset] []) (fun _ k => XS.astore X13.here hx rfl (hb hby at_67) rfl rfl (l' := #[.val (.int p0), .val (.int p1), .val (.int (v_a p0)), .val (.long (v_ca p0)), .second, .val (.int (v_b p0)), .val (.long (v_cb p0)), .second, .val (.int (v_pop p0)), .val (.int (v_c p1)), .val (.long (v_cc p1)), .second, .val (.ref b2), .unset, .unset, .unset, .unset, .unset, .unset, .unset, .unset]) rfl k) ?_
    refine Go.st (mkF m 71 #[.val (.int p0), .val (.int p1), .val (.int (v_a p0)), .val (.long (v_ca p0)), .second, .val (.int (v_b p0)), .val (.long (v_cb p0)), .second, .val (.int (v_pop p0)), .val (.int (v_c p1)), .val (.long (v_cc p1)), .second, .val (.ref b2), .unset, .unset, .unset, .unset, .unset, .unset, .unset, .unset] [(.ref b2)]) (fun _ k => XS.aload X13.here hx rfl (hb hby at_69) rfl rfl k) ?_
    obtain ⟨cq15, kq15, q15a, q15b, q15c⟩ := isOf hZ rfl E14q
    obtain ⟨_, _, ⟨T15, L15, k15, n15⟩, -, X15, ⟨Lc15, hQ15, l15, y15, z15⟩, st15⟩ := X13.virtualBack hx (y := (⟨"com/example/nearpath/nearpath/answer/Frontier", "startSearch", "()I"⟩ : MethodName)) (z := (⟨"com/example/nearpath/nearpath/answer/Frontier", "startSearch", "()I"⟩ : MethodName)) hown (mvT hZ (hw _ (List.mem_of_getElem? (i := 22) rfl))) (mvT hZ (hw _ (List.mem_of_getElem? (i := 23) rfl))) (notFace_of_selects (args := #[]) (mvT hZ (hw _ (List.mem_of_getElem? (i := 25) rfl)))) (mvT hZ (hw _ (List.mem_of_getElem? (i := 25) rfl))) (mvT hZ (hw _ (List.mem_of_getElem? (i := 24) rfl))) (by decide) (backOf (W := 0) (rm_ss0 l Z a0 hw [] b2 lv_13 hc_13 hi_13 sn_13 (0 : Int32) (0 : Int64) (0 : Int32) (0 : Int32) (fun _ => (0 : Int32)) (fun _ => (0 : Int32)) T13.heap n0 (Nat.le_trans Z0 K13.1) E14q F13_0 F13_1 F13_2 F13_3 F13_4 F13_5 F13_6 F13_7 F13_8 F13_9 V13_12 V13_13 g_b2 g_sn_13 ne_b2_hi_13 ne_b2_sn_13 P13_23) hZ (hw _ (List.mem_of_getElem? (i := 26) rfl)) (hw _ (List.mem_of_getElem? (i := 2) rfl)) (by decide) (by decide)) q15a q15c (g := (mkF m 71 #[.val (.int p0), .val (.int p1), .val (.int (v_a p0)), .val (.long (v_ca p0)), .second, .val (.int (v_b p0)), .val (.long (v_cb p0)), .second, .val (.int (v_pop p0)), .val (.int (v_c p1)), .val (.long (v_cc p1)), .second, .val (.ref b2), .unset, .unset, .unset, .unset, .unset, .unset, .unset, .unset] [(.ref b2)])) rfl (by rw [hml]; rfl) (Steps.refl _) (argsL := []) (rest := []) (lenOf pd_3 rfl) rfl (by show 2 * 0 + _ ≤ _; exact Nat.le_of_eq rfl) (hb hby at_71) (fun _ _ => ⟨rfl, rfl, (by decide : 5 + 0 ≤ _), (by decide : 62 + 0 ≤ _)⟩)
    dsimp only [Pt.U, Pt.locs, Pt.cells, Pt.slots] at X15 l15 y15 z15 st15 hQ15
    subst l15 y15 z15
    obtain ⟨rfl, N15q, K15q, F15_0, F15_1, F15_2, F15_3, F15_4, F15_5, F15_6, F15_7, F15_8, F15_9⟩ := hQ15
    have N15 := Fr.app N13 N15q
    have E16q : Exa Z T15.heap b2 "com/example/nearpath/nearpath/answer/Frontier" := E14q.keep K15q
    have V17 : Ary Z T15.heap lv_13 .int 16 (bts (fun _ => (0 : Int32))) := V13_10.keep K15q (ninS (Ne.symm ne_b2_lv_13) nin0)
    have V18 : Ary Z T15.heap hc_13 .long 16 (lts (fun _ => (0 : Int64))) := V13_11.keep K15q (ninS (Ne.symm ne_b2_hc_13) nin0)
    have V19 : Ary Z T15.heap hi_13 .int 16 (bts (fun _ => (0 : Int32))) := V13_12.keep K15q (ninS (Ne.symm ne_b2_hi_13) nin0)
    have V20 : Ary Z T15.heap sn_13 .int 4 (bts (fun _ => (0 : Int32))) := V13_13.keep K15q (ninS (Ne.symm ne_b2_sn_13) nin0)
    have K15 : Keep h0 T15.heap [] := K13.trans K15q (allS (Or.inr sz_b2) all0)
    refine Go.st (mkF m 74 #[.val (.int p0), .val (.int p1), .val (.int (v_a p0)), .val (.long (v_ca p0)), .second, .val (.int (v_b p0)), .val (.long (v_cb p0)), .second, .val (.int (v_pop p0)), .val (.int (v_c p1)), .val (.long (v_cc p1)), .second, .val (.ref b2), .unset, .unset, .unset, .unset, .unset, .unset, .unset, .unset] [(.int (1 : Int32))]) (fun _ k => st15.trans k) ?_
    refine Go.st (mkF m 76 #[.val (.int p0), .val (.int p1), .val (.int (v_a p0)), .val (.long (v_ca p0)), .second, .val (.int (v_b p0)), .val (.long (v_cb p0)), .second, .val (.int (v_pop p0)), .val (.int (v_c p1)), .val (.long (v_cc p1)), .second, .val (.ref b2), .val (.int (1 : Int32)), .unset, .unset, .unset, .unset, .unset, .unset, .unset] []) (fun _ k => XS.istore X15.here hx rfl (hb hby at_74) rfl (l' := #[.val (.int p0), .val (.int p1), .val (.int (v_a p0)), .val (.long (v_ca p0)), .second, .val (.int (v_b p0)), .val (.long (v_cb p0)), .second, .val (.int (v_pop p0)), .val (.int (v_c p1)), .val (.long (v_cc p1)), .second, .val (.ref b2), .val (.int (1 : Int32)), .unset, .unset, .unset, .unset, .unset, .unset, .unset]) rfl k) ?_
    have JL : ∀ (TJ21 : State) (hJ21 : Heap) (LJ21 : List Loc) (GL : Nat → Int32) (GC : Nat → Int64) (GI : Nat → Int32) (GS : Nat → Int32), Stand p l e room_1 s m #[(.int p0), (.int p1)] below meth c TJ21 LJ21 5 62 → TJ21.heap = hJ21 → Fr n0 LJ21 → Keep h0 hJ21 [] → (∀ j, j < 4 → GS j = (0 : Int32) ∨ GS j = (1 : Int32)) → Exa Z hJ21 b2 "com/example/nearpath/nearpath/answer/Frontier" → Ary Z hJ21 lv_13 .int 16 (bts GL) → Ary Z hJ21 hc_13 .long 16 (lts GC) → Ary Z hJ21 hi_13 .int 16 (bts GI) → Ary Z hJ21 sn_13 .int 4 (bts GS) → Fld Z hJ21 b2 "com/example/nearpath/nearpath/answer/Frontier" "seen" "[I" (.ref sn_13) → Fld Z hJ21 b2 "com/example/nearpath/nearpath/answer/Frontier" "maxCost" "J" (.long (3 : Int64)) → Fld Z hJ21 b2 "com/example/nearpath/nearpath/answer/Frontier" "search" "I" (.int (2 : Int32)) → Fld Z hJ21 b2 "com/example/nearpath/nearpath/answer/Frontier" "cost" "J" (.long (0 : Int64)) → Fld Z hJ21 b2 "com/example/nearpath/nearpath/answer/Frontier" "level" "[I" (.ref lv_13) → Fld Z hJ21 b2 "com/example/nearpath/nearpath/answer/Frontier" "levelHead" "I" (.int (0 : Int32)) → Fld Z hJ21 b2 "com/example/nearpath/nearpath/answer/Frontier" "levelTail" "I" (.int (0 : Int32)) → Fld Z hJ21 b2 "com/example/nearpath/nearpath/answer/Frontier" "heapCosts" "[J" (.ref hc_13) → Fld Z hJ21 b2 "com/example/nearpath/nearpath/answer/Frontier" "heapItems" "[I" (.ref hi_13) → Fld Z hJ21 b2 "com/example/nearpath/nearpath/answer/Frontier" "heapSize" "I" (.int (0 : Int32)) → Go p e below s (Q_0 Z p0 p1 h0 n0) 24 192 TJ21 (mkF m 108 #[.val (.int p0), .val (.int p1), .val (.int (v_a p0)), .val (.long (v_ca p0)), .second, .val (.int (v_b p0)), .val (.long (v_cb p0)), .second, .val (.int (v_pop p0)), .val (.int (v_c p1)), .val (.long (v_cc p1)), .second, .val (.ref b2), .val (.int (1 : Int32)), .unset, .unset, .unset, .unset, .unset, .unset, .unset] [(.int (2 : Int32))]) := by
      intro TJ21 hJ21 LJ21 GL GC GI GS XJ21 eJ21 NJ21 KJ21 HG J21_0 J21_1 J21_2 J21_3 J21_4 J21_5 J21_6 J21_7 J21_8 J21_9 J21_10 J21_11 J21_12 J21_13 J21_14
      refine Go.st (mkF m 110 #[.val (.int p0), .val (.int p1), .val (.int (v_a p0)), .val (.long (v_ca p0)), .second, .val (.int (v_b p0)), .val (.long (v_cb p0)), .second, .val (.int (v_pop p0)), .val (.int (v_c p1)), .val (.long (v_cc p1)), .second, .val (.ref b2), .val (.int (1 : Int32)), .val (.int (2 : Int32)), .unset, .unset, .unset, .unset, .unset, .unset] []) (fun _ k => XS.istore XJ21.here hx rfl (hb hby at_108) rfl (l' := #[.val (.int p0), .val (.int p1), .val (.int (v_a p0)), .val (.long (v_ca p0)), .second, .val (.int (v_b p0)), .val (.long (v_cb p0)), .second, .val (.int (v_pop p0)), .val (.int (v_c p1)), .val (.long (v_cc p1)), .second, .val (.ref b2), .val (.int (1 : Int32)), .val (.int (2 : Int32)), .unset, .unset, .unset, .unset, .unset, .unset]) rfl k) ?_
      refine Go.st (mkF m 112 #[.val (.int p0), .val (.int p1), .val (.int (v_a p0)), .val (.long (v_ca p0)), .second, .val (.int (v_b p0)), .val (.long (v_cb p0)), .second, .val (.int (v_pop p0)), .val (.int (v_c p1)), .val (.long (v_cc p1)), .second, .val (.ref b2), .val (.int (1 : Int32)), .val (.int (2 : Int32)), .unset, .unset, .unset, .unset, .unset, .unset] [(.ref b2)]) (fun _ k => XS.aload XJ21.here hx rfl (hb hby at_110) rfl rfl k) ?_
      obtain ⟨cq22, kq22, q22a, q22b, q22c⟩ := isOf hZ eJ21 J21_0
      obtain ⟨_, _, ⟨T22, L22, k22, n22⟩, -, X22, ⟨Lc22, hQ22, l22, y22, z22⟩, st22⟩ := XJ21.virtualBack hx (y := (⟨"com/example/nearpath/nearpath/answer/Frontier", "next", "()I"⟩ : MethodName)) (z := (⟨"com/example/nearpath/nearpath/answer/Frontier", "next", "()I"⟩ : MethodName)) hown (mvT hZ (hw _ (List.mem_of_getElem? (i := 45) rfl))) (mvT hZ (hw _ (List.mem_of_getElem? (i := 46) rfl))) (notFace_of_selects (args := #[]) (mvT hZ (hw _ (List.mem_of_getElem? (i := 48) rfl)))) (mvT hZ (hw _ (List.mem_of_getElem? (i := 48) rfl))) (mvT hZ (hw _ (List.mem_of_getElem? (i := 47) rfl))) (by decide) (backOf (W := 0) (rm_n2 l Z a0 hw [] b2 hJ21 n0 (Nat.le_trans Z0 KJ21.1) J21_10 J21_11 J21_14) hZ (hw _ (List.mem_of_getElem? (i := 49) rfl)) (hw _ (List.mem_of_getElem? (i := 2) rfl)) (by decide) (by decide)) q22a q22c (g := (mkF m 112 #[.val (.int p0), .val (.int p1), .val (.int (v_a p0)), .val (.long (v_ca p0)), .second, .val (.int (v_b p0)), .val (.long (v_cb p0)), .second, .val (.int (v_pop p0)), .val (.int (v_c p1)), .val (.long (v_cc p1)), .second, .val (.ref b2), .val (.int (1 : Int32)), .val (.int (2 : Int32)), .unset, .unset, .unset, .unset, .unset, .unset] [(.ref b2)])) rfl (by rw [hml]; rfl) (Steps.refl _) (argsL := []) (rest := []) (lenOf pd_3 rfl) rfl (by show 2 * 0 + _ ≤ _; exact Nat.le_of_eq rfl) (hb hby at_112) (fun _ _ => ⟨rfl, eJ21, (by decide : 5 + 0 ≤ _), (by decide : 62 + 0 ≤ _)⟩)
      dsimp only [Pt.U, Pt.locs, Pt.cells, Pt.slots] at X22 l22 y22 z22 st22 hQ22
      subst l22 y22 z22
      obtain ⟨rfl, N22q, e22⟩ := hQ22
      have N22 := Fr.app NJ21 N22q
      refine Go.st (mkF m 115 #[.val (.int p0), .val (.int p1), .val (.int (v_a p0)), .val (.long (v_ca p0)), .second, .val (.int (v_b p0)), .val (.long (v_cb p0)), .second, .val (.int (v_pop p0)), .val (.int (v_c p1)), .val (.long (v_cc p1)), .second, .val (.ref b2), .val (.int (1 : Int32)), .val (.int (2 : Int32)), .unset, .unset, .unset, .unset, .unset, .unset] [(.int (-1 : Int32))]) (fun _ k => st22.trans k) ?_
      refine Go.st (mkF m 117 #[.val (.int p0), .val (.int p1), .val (.int (v_a p0)), .val (.long (v_ca p0)), .second, .val (.int (v_b p0)), .val (.long (v_cb p0)), .second, .val (.int (v_pop p0)), .val (.int (v_c p1)), .val (.long (v_cc p1)), .second, .val (.ref b2), .val (.int (1 : Int32)), .val (.int (2 : Int32)), .val (.int (-1 : Int32)), .unset, .unset, .unset, .unset, .unset] []) (fun _ k => XS.istore X22.here hx rfl (hb hby at_115) rfl (l' := #[.val (.int p0), .val (.int p1), .val (.int (v_a p0)), .val (.long (v_ca p0)), .second, .val (.int (v_b p0)), .val (.long (v_cb p0)), .second, .val (.int (v_pop p0)), .val (.int (v_c p1)), .val (.long (v_cc p1)), .second, .val (.ref b2), .val (.int (1 : Int32)), .val (.int (2 : Int32)), .val (.int (-1 : Int32)), .unset, .unset, .unset, .unset, .unset]) rfl k) ?_
      refine Go.st (mkF m 119 #[.val (.int p0), .val (.int p1), .val (.int (v_a p0)), .val (.long (v_ca p0)), .second, .val (.int (v_b p0)), .val (.long (v_cb p0)), .second, .val (.int (v_pop p0)), .val (.int (v_c p1)), .val (.long (v_cc p1)), .second, .val (.ref b2), .val (.int (1 : Int32)), .val (.int (2 : Int32)), .val (.int (-1 : Int32)), .unset, .unset, .unset, .unset, .unset] [(.ref b2)]) (fun _ k => XS.aload X22.here hx rfl (hb hby at_117) rfl rfl k) ?_
      obtain ⟨cq23, kq23, q23a, q23b, q23c⟩ := isOf hZ e22 J21_0
      obtain ⟨_, _, ⟨T23, L23, k23, n23⟩, -, X23, ⟨Lc23, hQ23, l23, y23, z23⟩, st23⟩ := X22.virtualBack hx (y := (⟨"com/example/nearpath/nearpath/answer/Frontier", "cost", "()J"⟩ : MethodName)) (z := (⟨"com/example/nearpath/nearpath/answer/Frontier", "cost", "()J"⟩ : MethodName)) hown (mvT hZ (hw _ (List.mem_of_getElem? (i := 50) rfl))) (mvT hZ (hw _ (List.mem_of_getElem? (i := 51) rfl))) (notFace_of_selects (args := #[]) (mvT hZ (hw _ (List.mem_of_getElem? (i := 53) rfl)))) (mvT hZ (hw _ (List.mem_of_getElem? (i := 53) rfl))) (mvT hZ (hw _ (List.mem_of_getElem? (i := 52) rfl))) (by decide) (backOf (W := 0) (rm_co l Z a0 hw [] b2 (0 : Int64) hJ21 n0 (Nat.le_trans Z0 KJ21.1) J21_8) hZ (hw _ (List.mem_of_getElem? (i := 54) rfl)) (hw _ (List.mem_of_getElem? (i := 2) rfl)) (by decide) (by decide)) q23a q23c (g := (mkF m 119 #[.val (.int p0), .val (.int p1), .val (.int (v_a p0)), .val (.long (v_ca p0)), .second, .val (.int (v_b p0)), .val (.long (v_cb p0)), .second, .val (.int (v_pop p0)), .val (.int (v_c p1)), .val (.long (v_cc p1)), .second, .val (.ref b2), .val (.int (1 : Int32)), .val (.int (2 : Int32)), .val (.int (-1 : Int32)), .unset, .unset, .unset, .unset, .unset] [(.ref b2)])) rfl (by rw [hml]; rfl) (Steps.refl _) (argsL := []) (rest := []) (lenOf pd_4 rfl) rfl (by show 2 * 0 + _ ≤ _; exact Nat.le_of_eq rfl) (hb hby at_119) (fun _ _ => ⟨rfl, e22, (by decide : 5 + 0 ≤ _), (by decide : 62 + 0 ≤ _)⟩)
      dsimp only [Pt.U, Pt.locs, Pt.cells, Pt.slots] at X23 l23 y23 z23 st23 hQ23
      subst l23 y23 z23
      obtain ⟨rfl, N23q, e23⟩ := hQ23
      have N23 := Fr.app N22 N23q
      refine Go.st (mkF m 122 #[.val (.int p0), .val (.int p1), .val (.int (v_a p0)), .val (.long (v_ca p0)), .second, .val (.int (v_b p0)), .val (.long (v_cb p0)), .second, .val (.int (v_pop p0)), .val (.int (v_c p1)), .val (.long (v_cc p1)), .second, .val (.ref b2), .val (.int (1 : Int32)), .val (.int (2 : Int32)), .val (.int (-1 : Int32)), .unset, .unset, .unset, .unset, .unset] [(.long (0 : Int64))]) (fun _ k => st23.trans k) ?_
      refine Go.st (mkF m 124 #[.val (.int p0), .val (.int p1), .val (.int (v_a p0)), .val (.long (v_ca p0)), .second, .val (.int (v_b p0)), .val (.long (v_cb p0)), .second, .val (.int (v_pop p0)), .val (.int (v_c p1)), .val (.long (v_cc p1)), .second, .val (.ref b2), .val (.int (1 : Int32)), .val (.int (2 : Int32)), .val (.int (-1 : Int32)), .val (.long (0 : Int64)), .second, .unset, .unset, .unset] []) (fun _ k => XT.lstore X23.here hx rfl (hb hby at_122) rfl (l' := #[.val (.int p0), .val (.int p1), .val (.int (v_a p0)), .val (.long (v_ca p0)), .second, .val (.int (v_b p0)), .val (.long (v_cb p0)), .second, .val (.int (v_pop p0)), .val (.int (v_c p1)), .val (.long (v_cc p1)), .second, .val (.ref b2), .val (.int (1 : Int32)), .val (.int (2 : Int32)), .val (.int (-1 : Int32)), .val (.long (0 : Int64)), .second, .unset, .unset, .unset]) rfl k) ?_
      have hM3 := HG ((v_c p1).toNatClampNeg) (own_in4 (own_vc p1)).2
      have hM3a : ¬ (GS ((v_c p1).toNatClampNeg)) = (2 : Int32) := by rcases hM3 with q | q <;> (rw [q]; decide)
      have hM3b : ¬ (GS ((v_c p1).toNatClampNeg)) < (0 : Int32) := by rcases hM3 with q | q <;> (rw [q]; decide)
      by_cases hcc : (v_cc p1) = (0 : Int64)
      ·
        refine Go.st (mkF m 126 #[.val (.int p0), .val (.int p1), .val (.int (v_a p0)), .val (.long (v_ca p0)), .second, .val (.int (v_b p0)), .val (.long (v_cb p0)), .second, .val (.int (v_pop p0)), .val (.int (v_c p1)), .val (.long (v_cc p1)), .second, .val (.ref b2), .val (.int (1 : Int32)), .val (.int (2 : Int32)), .val (.int (-1 : Int32)), .val (.long (0 : Int64)), .second, .unset, .unset, .unset] [(.ref b2)]) (fun _ k => XS.aload X23.here hx rfl (hb hby at_124) rfl rfl k) ?_
        refine Go.st (mkF m 128 #[.val (.int p0), .val (.int p1), .val (.int (v_a p0)), .val (.long (v_ca p0)), .second, .val (.int (v_b p0)), .val (.long (v_cb p0)), .second, .val (.int (v_pop p0)), .val (.int (v_c p1)), .val (.long (v_cc p1)), .second, .val (.ref b2), .val (.int (1 : Int32)), .val (.int (2 : Int32)), .val (.int (-1 : Int32)), .val (.long (0 : Int64)), .second, .unset, .unset, .unset] [(.int (v_c p1)), (.ref b2)]) (fun _ k => XS.iload X23.here hx rfl (hb hby at_126) rfl k) ?_
        refine Go.st (mkF m 130 #[.val (.int p0), .val (.int p1), .val (.int (v_a p0)), .val (.long (v_ca p0)), .second, .val (.int (v_b p0)), .val (.long (v_cb p0)), .second, .val (.int (v_pop p0)), .val (.int (v_c p1)), .val (.long (v_cc p1)), .second, .val (.ref b2), .val (.int (1 : Int32)), .val (.int (2 : Int32)), .val (.int (-1 : Int32)), .val (.long (0 : Int64)), .second, .unset, .unset, .unset] [(.long (v_cc p1)), (.int (v_c p1)), (.ref b2)]) (fun _ k => XT.lload X23.here hx rfl (hb hby at_128) rfl k) ?_
        obtain ⟨cq24, kq24, q24a, q24b, q24c⟩ := isOf hZ e23 J21_0
        obtain ⟨_, _, ⟨T24, L24, k24, n24⟩, -, X24, ⟨Lc24, hQ24, l24, y24, z24⟩, st24⟩ := X23.virtualBack hx (y := (⟨"com/example/nearpath/nearpath/answer/Frontier", "reach", "(IJ)V"⟩ : MethodName)) (z := (⟨"com/example/nearpath/nearpath/answer/Frontier", "reach", "(IJ)V"⟩ : MethodName)) hown (mvT hZ (hw _ (List.mem_of_getElem? (i := 37) rfl))) (mvT hZ (hw _ (List.mem_of_getElem? (i := 38) rfl))) (notFace_of_selects (args := #[]) (mvT hZ (hw _ (List.mem_of_getElem? (i := 40) rfl)))) (mvT hZ (hw _ (List.mem_of_getElem? (i := 40) rfl))) (mvT hZ (hw _ (List.mem_of_getElem? (i := 39) rfl))) (by decide) (backOf (W := 0) (rm_r40 l Z a0 hw [] b2 (v_c p1) (v_cc p1) lv_13 hc_13 hi_13 sn_13 (2 : Int32) (0 : Int64) (0 : Int32) (0 : Int32) GL GS hJ21 n0 (Nat.le_trans Z0 KJ21.1) J21_0 J21_5 J21_6 J21_7 J21_8 J21_9 J21_10 J21_11 J21_12 J21_13 J21_14 J21_4 J21_1 (by first | exact own_va p0 | exact own_vb p0 | exact own_vc p1) (by first | exact own_ca p0 | exact own_cb p0 | exact own_cc p1) (by first | decide | exact hcc | exact hM3a | exact hM3b) (by first | decide | exact hcc | exact hM3a | exact hM3b) (by first | decide | exact hcc | exact hM3a | exact hM3b) g_b2 g_lv_13 g_sn_13 ne_b2_lv_13 ne_b2_sn_13 P13_20) hZ (hw _ (List.mem_of_getElem? (i := 41) rfl)) (hw _ (List.mem_of_getElem? (i := 2) rfl)) (by decide) (by decide)) q24a q24c (g := (mkF m 130 #[.val (.int p0), .val (.int p1), .val (.int (v_a p0)), .val (.long (v_ca p0)), .second, .val (.int (v_b p0)), .val (.long (v_cb p0)), .second, .val (.int (v_pop p0)), .val (.int (v_c p1)), .val (.long (v_cc p1)), .second, .val (.ref b2), .val (.int (1 : Int32)), .val (.int (2 : Int32)), .val (.int (-1 : Int32)), .val (.long (0 : Int64)), .second, .unset, .unset, .unset] [(.long (v_cc p1)), (.int (v_c p1)), (.ref b2)])) rfl (by rw [hml]; rfl) (Steps.refl _) (argsL := [(.int (v_c p1)), (.long (v_cc p1))]) (rest := []) (lenOf pd_1 rfl) rfl (by show 2 * 0 + _ ≤ _; exact Nat.le_of_eq rfl) (hb hby at_130) (fun _ _ => ⟨rfl, e23, (by decide : 5 + 0 ≤ _), (by decide : 62 + 0 ≤ _)⟩)
        dsimp only [Pt.U, Pt.locs, Pt.cells, Pt.slots] at X24 l24 y24 z24 st24 hQ24
        subst l24 y24 z24
        obtain ⟨rfl, N24q, K24q, F24_0, F24_1, F24_2, F24_3, F24_4, F24_5, F24_6, F24_7, F24_8, F24_9, V24_10, V24_11⟩ := hQ24
        have N24 := Fr.app N23 N24q
        have E25q : Exa Z T24.heap b2 "com/example/nearpath/nearpath/answer/Frontier" := J21_0.keep K24q
        have V26 : Ary Z T24.heap hc_13 .long 16 (lts GC) := J21_2.keep K24q (ninS (Ne.symm ne_b2_hc_13) (ninS (Ne.symm P13_18) (ninS P13_22 nin0)))
        have V27 : Ary Z T24.heap hi_13 .int 16 (bts GI) := J21_3.keep K24q (ninS (Ne.symm ne_b2_hi_13) (ninS (Ne.symm P13_19) (ninS P13_23 nin0)))
        have K24 : Keep h0 T24.heap [] := KJ21.trans K24q (allS (Or.inr sz_b2) (allS (Or.inr sz_lv_13) (allS (Or.inr sz_sn_13) all0)))
        refine Go.st (mkF m 133 #[.val (.int p0), .val (.int p1), .val (.int (v_a p0)), .val (.long (v_ca p0)), .second, .val (.int (v_b p0)), .val (.long (v_cb p0)), .second, .val (.int (v_pop p0)), .val (.int (v_c p1)), .val (.long (v_cc p1)), .second, .val (.ref b2), .val (.int (1 : Int32)), .val (.int (2 : Int32)), .val (.int (-1 : Int32)), .val (.long (0 : Int64)), .second, .unset, .unset, .unset] []) (fun _ k => st24.trans k) ?_
        refine Go.st (mkF m 135 #[.val (.int p0), .val (.int p1), .val (.int (v_a p0)), .val (.long (v_ca p0)), .second, .val (.int (v_b p0)), .val (.long (v_cb p0)), .second, .val (.int (v_pop p0)), .val (.int (v_c p1)), .val (.long (v_cc p1)), .second, .val (.ref b2), .val (.int (1 : Int32)), .val (.int (2 : Int32)), .val (.int (-1 : Int32)), .val (.long (0 : Int64)), .second, .unset, .unset, .unset] [(.ref b2)]) (fun _ k => XS.aload X24.here hx rfl (hb hby at_133) rfl rfl k) ?_
        obtain ⟨cq28, kq28, q28a, q28b, q28c⟩ := isOf hZ rfl E25q
        obtain ⟨_, _, ⟨T28, L28, k28, n28⟩, -, X28, ⟨Lc28, hQ28, l28, y28, z28⟩, st28⟩ := X24.virtualBack hx (y := (⟨"com/example/nearpath/nearpath/answer/Frontier", "next", "()I"⟩ : MethodName)) (z := (⟨"com/example/nearpath/nearpath/answer/Frontier", "next", "()I"⟩ : MethodName)) hown (mvT hZ (hw _ (List.mem_of_getElem? (i := 45) rfl))) (mvT hZ (hw _ (List.mem_of_getElem? (i := 46) rfl))) (notFace_of_selects (args := #[]) (mvT hZ (hw _ (List.mem_of_getElem? (i := 48) rfl)))) (mvT hZ (hw _ (List.mem_of_getElem? (i := 48) rfl))) (mvT hZ (hw _ (List.mem_of_getElem? (i := 47) rfl))) (by decide) (backOf (W := 0) (rm_n1 l Z a0 hw [] b2 lv_13 hc_13 hi_13 sn_13 (2 : Int32) (0 : Int64) (1 : Int32) (0 : Int32) (updI GL 0 (v_c p1)) T24.heap n0 (Nat.le_trans Z0 K24.1) E25q F24_0 F24_1 F24_2 F24_3 F24_4 F24_5 F24_6 F24_7 F24_8 F24_9 V24_10 (by first | decide | exact hcc | exact hM3a | exact hM3b) g_b2 ne_b2_lv_13) hZ (hw _ (List.mem_of_getElem? (i := 49) rfl)) (hw _ (List.mem_of_getElem? (i := 2) rfl)) (by decide) (by decide)) q28a q28c (g := (mkF m 135 #[.val (.int p0), .val (.int p1), .val (.int (v_a p0)), .val (.long (v_ca p0)), .second, .val (.int (v_b p0)), .val (.long (v_cb p0)), .second, .val (.int (v_pop p0)), .val (.int (v_c p1)), .val (.long (v_cc p1)), .second, .val (.ref b2), .val (.int (1 : Int32)), .val (.int (2 : Int32)), .val (.int (-1 : Int32)), .val (.long (0 : Int64)), .second, .unset, .unset, .unset] [(.ref b2)])) rfl (by rw [hml]; rfl) (Steps.refl _) (argsL := []) (rest := []) (lenOf pd_3 rfl) rfl (by show 2 * 0 + _ ≤ _; exact Nat.le_of_eq rfl) (hb hby at_135) (fun _ _ => ⟨rfl, rfl, (by decide : 5 + 0 ≤ _), (by decide : 62 + 0 ≤ _)⟩)
        dsimp only [Pt.U, Pt.locs, Pt.cells, Pt.slots] at X28 l28 y28 z28 st28 hQ28
        subst l28 y28 z28
        obtain ⟨rfl, N28q, K28q, F28_0, F28_1, F28_2, F28_3, F28_4, F28_5, F28_6, F28_7, F28_8, F28_9⟩ := hQ28
        have N28 := Fr.app N24 N28q
        have E29q : Exa Z T28.heap b2 "com/example/nearpath/nearpath/answer/Frontier" := E25q.keep K28q
        have V30 : Ary Z T28.heap hc_13 .long 16 (lts GC) := V26.keep K28q (ninS (Ne.symm ne_b2_hc_13) nin0)
        have V31 : Ary Z T28.heap hi_13 .int 16 (bts GI) := V27.keep K28q (ninS (Ne.symm ne_b2_hi_13) nin0)
        have V32 : Ary Z T28.heap lv_13 .int 16 (bts (updI GL 0 (v_c p1))) := V24_10.keep K28q (ninS (Ne.symm ne_b2_lv_13) nin0)
        have V33 : Ary Z T28.heap sn_13 .int 4 (bts (updI GS ((v_c p1).toNatClampNeg) (2 : Int32))) := V24_11.keep K28q (ninS (Ne.symm ne_b2_sn_13) nin0)
        have K28 : Keep h0 T28.heap [] := K24.trans K28q (allS (Or.inr sz_b2) all0)
        refine Go.st (mkF m 138 #[.val (.int p0), .val (.int p1), .val (.int (v_a p0)), .val (.long (v_ca p0)), .second, .val (.int (v_b p0)), .val (.long (v_cb p0)), .second, .val (.int (v_pop p0)), .val (.int (v_c p1)), .val (.long (v_cc p1)), .second, .val (.ref b2), .val (.int (1 : Int32)), .val (.int (2 : Int32)), .val (.int (-1 : Int32)), .val (.long (0 : Int64)), .second, .unset, .unset, .unset] [(.int ((updI GL 0 (v_c p1)) 0))]) (fun _ k => st28.trans k) ?_
        refine Go.st (mkF m 140 #[.val (.int p0), .val (.int p1), .val (.int (v_a p0)), .val (.long (v_ca p0)), .second, .val (.int (v_b p0)), .val (.long (v_cb p0)), .second, .val (.int (v_pop p0)), .val (.int (v_c p1)), .val (.long (v_cc p1)), .second, .val (.ref b2), .val (.int (1 : Int32)), .val (.int (2 : Int32)), .val (.int (-1 : Int32)), .val (.long (0 : Int64)), .second, .val (.int ((updI GL 0 (v_c p1)) 0)), .unset, .unset] []) (fun _ k => XS.istore X28.here hx rfl (hb hby at_138) rfl (l' := #[.val (.int p0), .val (.int p1), .val (.int (v_a p0)), .val (.long (v_ca p0)), .second, .val (.int (v_b p0)), .val (.long (v_cb p0)), .second, .val (.int (v_pop p0)), .val (.int (v_c p1)), .val (.long (v_cc p1)), .second, .val (.ref b2), .val (.int (1 : Int32)), .val (.int (2 : Int32)), .val (.int (-1 : Int32)), .val (.long (0 : Int64)), .second, .val (.int ((updI GL 0 (v_c p1)) 0)), .unset, .unset]) rfl k) ?_
        refine Go.st (mkF m 142 #[.val (.int p0), .val (.int p1), .val (.int (v_a p0)), .val (.long (v_ca p0)), .second, .val (.int (v_b p0)), .val (.long (v_cb p0)), .second, .val (.int (v_pop p0)), .val (.int (v_c p1)), .val (.long (v_cc p1)), .second, .val (.ref b2), .val (.int (1 : Int32)), .val (.int (2 : Int32)), .val (.int (-1 : Int32)), .val (.long (0 : Int64)), .second, .val (.int ((updI GL 0 (v_c p1)) 0)), .unset, .unset] [(.ref b2)]) (fun _ k => XS.aload X28.here hx rfl (hb hby at_140) rfl rfl k) ?_
        obtain ⟨cq34, kq34, q34a, q34b, q34c⟩ := isOf hZ rfl E29q
        obtain ⟨_, _, ⟨T34, L34, k34, n34⟩, -, X34, ⟨Lc34, hQ34, l34, y34, z34⟩, st34⟩ := X28.virtualBack hx (y := (⟨"com/example/nearpath/nearpath/answer/Frontier", "cost", "()J"⟩ : MethodName)) (z := (⟨"com/example/nearpath/nearpath/answer/Frontier", "cost", "()J"⟩ : MethodName)) hown (mvT hZ (hw _ (List.mem_of_getElem? (i := 50) rfl))) (mvT hZ (hw _ (List.mem_of_getElem? (i := 51) rfl))) (notFace_of_selects (args := #[]) (mvT hZ (hw _ (List.mem_of_getElem? (i := 53) rfl)))) (mvT hZ (hw _ (List.mem_of_getElem? (i := 53) rfl))) (mvT hZ (hw _ (List.mem_of_getElem? (i := 52) rfl))) (by decide) (backOf (W := 0) (rm_co l Z a0 hw [] b2 (0 : Int64) T28.heap n0 (Nat.le_trans Z0 K28.1) F28_3) hZ (hw _ (List.mem_of_getElem? (i := 54) rfl)) (hw _ (List.mem_of_getElem? (i := 2) rfl)) (by decide) (by decide)) q34a q34c (g := (mkF m 142 #[.val (.int p0), .val (.int p1), .val (.int (v_a p0)), .val (.long (v_ca p0)), .second, .val (.int (v_b p0)), .val (.long (v_cb p0)), .second, .val (.int (v_pop p0)), .val (.int (v_c p1)), .val (.long (v_cc p1)), .second, .val (.ref b2), .val (.int (1 : Int32)), .val (.int (2 : Int32)), .val (.int (-1 : Int32)), .val (.long (0 : Int64)), .second, .val (.int ((updI GL 0 (v_c p1)) 0)), .unset, .unset] [(.ref b2)])) rfl (by rw [hml]; rfl) (Steps.refl _) (argsL := []) (rest := []) (lenOf pd_4 rfl) rfl (by show 2 * 0 + _ ≤ _; exact Nat.le_of_eq rfl) (hb hby at_142) (fun _ _ => ⟨rfl, rfl, (by decide : 5 + 0 ≤ _), (by decide : 62 + 0 ≤ _)⟩)
        dsimp only [Pt.U, Pt.locs, Pt.cells, Pt.slots] at X34 l34 y34 z34 st34 hQ34
        subst l34 y34 z34
        obtain ⟨rfl, N34q, e34⟩ := hQ34
        have N34 := Fr.app N28 N34q
        refine Go.st (mkF m 145 #[.val (.int p0), .val (.int p1), .val (.int (v_a p0)), .val (.long (v_ca p0)), .second, .val (.int (v_b p0)), .val (.long (v_cb p0)), .second, .val (.int (v_pop p0)), .val (.int (v_c p1)), .val (.long (v_cc p1)), .second, .val (.ref b2), .val (.int (1 : Int32)), .val (.int (2 : Int32)), .val (.int (-1 : Int32)), .val (.long (0 : Int64)), .second, .val (.int ((updI GL 0 (v_c p1)) 0)), .unset, .unset] [(.long (0 : Int64))]) (fun _ k => st34.trans k) ?_
        refine Go.st (mkF m 147 #[.val (.int p0), .val (.int p1), .val (.int (v_a p0)), .val (.long (v_ca p0)), .second, .val (.int (v_b p0)), .val (.long (v_cb p0)), .second, .val (.int (v_pop p0)), .val (.int (v_c p1)), .val (.long (v_cc p1)), .second, .val (.ref b2), .val (.int (1 : Int32)), .val (.int (2 : Int32)), .val (.int (-1 : Int32)), .val (.long (0 : Int64)), .second, .val (.int ((updI GL 0 (v_c p1)) 0)), .val (.long (0 : Int64)), .second] []) (fun _ k => XT.lstore X34.here hx rfl (hb hby at_145) rfl (l' := #[.val (.int p0), .val (.int p1), .val (.int (v_a p0)), .val (.long (v_ca p0)), .second, .val (.int (v_b p0)), .val (.long (v_cb p0)), .second, .val (.int (v_pop p0)), .val (.int (v_c p1)), .val (.long (v_cc p1)), .second, .val (.ref b2), .val (.int (1 : Int32)), .val (.int (2 : Int32)), .val (.int (-1 : Int32)), .val (.long (0 : Int64)), .second, .val (.int ((updI GL 0 (v_c p1)) 0)), .val (.long (0 : Int64)), .second]) rfl k) ?_
        refine Go.st (mkF m 149 #[.val (.int p0), .val (.int p1), .val (.int (v_a p0)), .val (.long (v_ca p0)), .second, .val (.int (v_b p0)), .val (.long (v_cb p0)), .second, .val (.int (v_pop p0)), .val (.int (v_c p1)), .val (.long (v_cc p1)), .second, .val (.ref b2), .val (.int (1 : Int32)), .val (.int (2 : Int32)), .val (.int (-1 : Int32)), .val (.long (0 : Int64)), .second, .val (.int ((updI GL 0 (v_c p1)) 0)), .val (.long (0 : Int64)), .second] [(.int (1 : Int32))]) (fun _ k => XS.iload X34.here hx rfl (hb hby at_147) rfl k) ?_
        refine Go.st (mkF m 150 #[.val (.int p0), .val (.int p1), .val (.int (v_a p0)), .val (.long (v_ca p0)), .second, .val (.int (v_b p0)), .val (.long (v_cb p0)), .second, .val (.int (v_pop p0)), .val (.int (v_c p1)), .val (.long (v_cc p1)), .second, .val (.ref b2), .val (.int (1 : Int32)), .val (.int (2 : Int32)), .val (.int (-1 : Int32)), .val (.long (0 : Int64)), .second, .val (.int ((updI GL 0 (v_c p1)) 0)), .val (.long (0 : Int64)), .second] [(.int (1 : Int32)), (.int (1 : Int32))]) (fun _ k => XS.iconst X34.here hx rfl (hb hby at_149) k) ?_
        refine Go.st (mkF m 153 #[.val (.int p0), .val (.int p1), .val (.int (v_a p0)), .val (.long (v_ca p0)), .second, .val (.int (v_b p0)), .val (.long (v_cb p0)), .second, .val (.int (v_pop p0)), .val (.int (v_c p1)), .val (.long (v_cc p1)), .second, .val (.ref b2), .val (.int (1 : Int32)), .val (.int (2 : Int32)), .val (.int (-1 : Int32)), .val (.long (0 : Int64)), .second, .val (.int ((updI GL 0 (v_c p1)) 0)), .val (.long (0 : Int64)), .second] []) (fun _ k => XS.icmpNo X34.here hx rfl (hb hby at_150) rfl (teq (by decide : (1 : Int32) = (1 : Int32))).2 k) ?_
        refine Go.st (mkF m 155 #[.val (.int p0), .val (.int p1), .val (.int (v_a p0)), .val (.long (v_ca p0)), .second, .val (.int (v_b p0)), .val (.long (v_cb p0)), .second, .val (.int (v_pop p0)), .val (.int (v_c p1)), .val (.long (v_cc p1)), .second, .val (.ref b2), .val (.int (1 : Int32)), .val (.int (2 : Int32)), .val (.int (-1 : Int32)), .val (.long (0 : Int64)), .second, .val (.int ((updI GL 0 (v_c p1)) 0)), .val (.long (0 : Int64)), .second] [(.int (2 : Int32))]) (fun _ k => XS.iload X34.here hx rfl (hb hby at_153) rfl k) ?_
        refine Go.st (mkF m 156 #[.val (.int p0), .val (.int p1), .val (.int (v_a p0)), .val (.long (v_ca p0)), .second, .val (.int (v_b p0)), .val (.long (v_cb p0)), .second, .val (.int (v_pop p0)), .val (.int (v_c p1)), .val (.long (v_cc p1)), .second, .val (.ref b2), .val (.int (1 : Int32)), .val (.int (2 : Int32)), .val (.int (-1 : Int32)), .val (.long (0 : Int64)), .second, .val (.int ((updI GL 0 (v_c p1)) 0)), .val (.long (0 : Int64)), .second] [(.int (2 : Int32)), (.int (2 : Int32))]) (fun _ k => XS.iconst X34.here hx rfl (hb hby at_155) k) ?_
        refine Go.st (mkF m 159 #[.val (.int p0), .val (.int p1), .val (.int (v_a p0)), .val (.long (v_ca p0)), .second, .val (.int (v_b p0)), .val (.long (v_cb p0)), .second, .val (.int (v_pop p0)), .val (.int (v_c p1)), .val (.long (v_cc p1)), .second, .val (.ref b2), .val (.int (1 : Int32)), .val (.int (2 : Int32)), .val (.int (-1 : Int32)), .val (.long (0 : Int64)), .second, .val (.int ((updI GL 0 (v_c p1)) 0)), .val (.long (0 : Int64)), .second] []) (fun _ k => XS.icmpNo X34.here hx rfl (hb hby at_156) rfl (teq (by decide : (2 : Int32) = (2 : Int32))).2 k) ?_
        refine Go.st (mkF m 161 #[.val (.int p0), .val (.int p1), .val (.int (v_a p0)), .val (.long (v_ca p0)), .second, .val (.int (v_b p0)), .val (.long (v_cb p0)), .second, .val (.int (v_pop p0)), .val (.int (v_c p1)), .val (.long (v_cc p1)), .second, .val (.ref b2), .val (.int (1 : Int32)), .val (.int (2 : Int32)), .val (.int (-1 : Int32)), .val (.long (0 : Int64)), .second, .val (.int ((updI GL 0 (v_c p1)) 0)), .val (.long (0 : Int64)), .second] [(.int (-1 : Int32))]) (fun _ k => XS.iload X34.here hx rfl (hb hby at_159) rfl k) ?_
        refine Go.st (mkF m 162 #[.val (.int p0), .val (.int p1), .val (.int (v_a p0)), .val (.long (v_ca p0)), .second, .val (.int (v_b p0)), .val (.long (v_cb p0)), .second, .val (.int (v_pop p0)), .val (.int (v_c p1)), .val (.long (v_cc p1)), .second, .val (.ref b2), .val (.int (1 : Int32)), .val (.int (2 : Int32)), .val (.int (-1 : Int32)), .val (.long (0 : Int64)), .second, .val (.int ((updI GL 0 (v_c p1)) 0)), .val (.long (0 : Int64)), .second] [(.int (-1 : Int32)), (.int (-1 : Int32))]) (fun _ k => XS.iconst X34.here hx rfl (hb hby at_161) k) ?_
        refine Go.st (mkF m 165 #[.val (.int p0), .val (.int p1), .val (.int (v_a p0)), .val (.long (v_ca p0)), .second, .val (.int (v_b p0)), .val (.long (v_cb p0)), .second, .val (.int (v_pop p0)), .val (.int (v_c p1)), .val (.long (v_cc p1)), .second, .val (.ref b2), .val (.int (1 : Int32)), .val (.int (2 : Int32)), .val (.int (-1 : Int32)), .val (.long (0 : Int64)), .second, .val (.int ((updI GL 0 (v_c p1)) 0)), .val (.long (0 : Int64)), .second] []) (fun _ k => XS.icmpNo X34.here hx rfl (hb hby at_162) rfl (teq (by decide : (-1 : Int32) = (-1 : Int32))).2 k) ?_
        refine Go.st (mkF m 167 #[.val (.int p0), .val (.int p1), .val (.int (v_a p0)), .val (.long (v_ca p0)), .second, .val (.int (v_b p0)), .val (.long (v_cb p0)), .second, .val (.int (v_pop p0)), .val (.int (v_c p1)), .val (.long (v_cc p1)), .second, .val (.ref b2), .val (.int (1 : Int32)), .val (.int (2 : Int32)), .val (.int (-1 : Int32)), .val (.long (0 : Int64)), .second, .val (.int ((updI GL 0 (v_c p1)) 0)), .val (.long (0 : Int64)), .second] [(.long (0 : Int64))]) (fun _ k => XT.lload X34.here hx rfl (hb hby at_165) rfl k) ?_
        refine Go.st (mkF m 168 #[.val (.int p0), .val (.int p1), .val (.int (v_a p0)), .val (.long (v_ca p0)), .second, .val (.int (v_b p0)), .val (.long (v_cb p0)), .second, .val (.int (v_pop p0)), .val (.int (v_c p1)), .val (.long (v_cc p1)), .second, .val (.ref b2), .val (.int (1 : Int32)), .val (.int (2 : Int32)), .val (.int (-1 : Int32)), .val (.long (0 : Int64)), .second, .val (.int ((updI GL 0 (v_c p1)) 0)), .val (.long (0 : Int64)), .second] [(.long (0 : Int64)), (.long (0 : Int64))]) (fun _ k => XT.lconst X34.here hx rfl (hb hby at_167) k) ?_
        refine Go.st (mkF m 169 #[.val (.int p0), .val (.int p1), .val (.int (v_a p0)), .val (.long (v_ca p0)), .second, .val (.int (v_b p0)), .val (.long (v_cb p0)), .second, .val (.int (v_pop p0)), .val (.int (v_c p1)), .val (.long (v_cc p1)), .second, .val (.ref b2), .val (.int (1 : Int32)), .val (.int (2 : Int32)), .val (.int (-1 : Int32)), .val (.long (0 : Int64)), .second, .val (.int ((updI GL 0 (v_c p1)) 0)), .val (.long (0 : Int64)), .second] [(.int (cmpL (0 : Int64) (0 : Int64)))]) (fun _ k => XT.lcmp X34.here hx rfl (hb hby at_168) rfl k) ?_
        refine Go.st (mkF m 172 #[.val (.int p0), .val (.int p1), .val (.int (v_a p0)), .val (.long (v_ca p0)), .second, .val (.int (v_b p0)), .val (.long (v_cb p0)), .second, .val (.int (v_pop p0)), .val (.int (v_c p1)), .val (.long (v_cc p1)), .second, .val (.ref b2), .val (.int (1 : Int32)), .val (.int (2 : Int32)), .val (.int (-1 : Int32)), .val (.long (0 : Int64)), .second, .val (.int ((updI GL 0 (v_c p1)) 0)), .val (.long (0 : Int64)), .second] []) (fun _ k => XS.ifNo X34.here hx rfl (hb hby at_169) rfl (own_leT (by decide : (0 : Int64) = (0 : Int64))).2 k) ?_
        refine Go.st (mkF m 174 #[.val (.int p0), .val (.int p1), .val (.int (v_a p0)), .val (.long (v_ca p0)), .second, .val (.int (v_b p0)), .val (.long (v_cb p0)), .second, .val (.int (v_pop p0)), .val (.int (v_c p1)), .val (.long (v_cc p1)), .second, .val (.ref b2), .val (.int (1 : Int32)), .val (.int (2 : Int32)), .val (.int (-1 : Int32)), .val (.long (0 : Int64)), .second, .val (.int ((updI GL 0 (v_c p1)) 0)), .val (.long (0 : Int64)), .second] [(.int ((updI GL 0 (v_c p1)) 0))]) (fun _ k => XS.iload X34.here hx rfl (hb hby at_172) rfl k) ?_
        refine Go.st (mkF m 176 #[.val (.int p0), .val (.int p1), .val (.int (v_a p0)), .val (.long (v_ca p0)), .second, .val (.int (v_b p0)), .val (.long (v_cb p0)), .second, .val (.int (v_pop p0)), .val (.int (v_c p1)), .val (.long (v_cc p1)), .second, .val (.ref b2), .val (.int (1 : Int32)), .val (.int (2 : Int32)), .val (.int (-1 : Int32)), .val (.long (0 : Int64)), .second, .val (.int ((updI GL 0 (v_c p1)) 0)), .val (.long (0 : Int64)), .second] [(.int (v_c p1)), (.int ((updI GL 0 (v_c p1)) 0))]) (fun _ k => XS.iload X34.here hx rfl (hb hby at_174) rfl k) ?_
        refine Go.st (mkF m 179 #[.val (.int p0), .val (.int p1), .val (.int (v_a p0)), .val (.long (v_ca p0)), .second, .val (.int (v_b p0)), .val (.long (v_cb p0)), .second, .val (.int (v_pop p0)), .val (.int (v_c p1)), .val (.long (v_cc p1)), .second, .val (.ref b2), .val (.int (1 : Int32)), .val (.int (2 : Int32)), .val (.int (-1 : Int32)), .val (.long (0 : Int64)), .second, .val (.int ((updI GL 0 (v_c p1)) 0)), .val (.long (0 : Int64)), .second] []) (fun _ k => XS.icmpNo X34.here hx rfl (hb hby at_176) rfl (teq rfl).2 k) ?_
        refine Go.st (mkF m 181 #[.val (.int p0), .val (.int p1), .val (.int (v_a p0)), .val (.long (v_ca p0)), .second, .val (.int (v_b p0)), .val (.long (v_cb p0)), .second, .val (.int (v_pop p0)), .val (.int (v_c p1)), .val (.long (v_cc p1)), .second, .val (.ref b2), .val (.int (1 : Int32)), .val (.int (2 : Int32)), .val (.int (-1 : Int32)), .val (.long (0 : Int64)), .second, .val (.int ((updI GL 0 (v_c p1)) 0)), .val (.long (0 : Int64)), .second] [(.long (0 : Int64))]) (fun _ k => XT.lload X34.here hx rfl (hb hby at_179) rfl k) ?_
        refine Go.st (mkF m 183 #[.val (.int p0), .val (.int p1), .val (.int (v_a p0)), .val (.long (v_ca p0)), .second, .val (.int (v_b p0)), .val (.long (v_cb p0)), .second, .val (.int (v_pop p0)), .val (.int (v_c p1)), .val (.long (v_cc p1)), .second, .val (.ref b2), .val (.int (1 : Int32)), .val (.int (2 : Int32)), .val (.int (-1 : Int32)), .val (.long (0 : Int64)), .second, .val (.int ((updI GL 0 (v_c p1)) 0)), .val (.long (0 : Int64)), .second] [(.long (v_cc p1)), (.long (0 : Int64))]) (fun _ k => XT.lload X34.here hx rfl (hb hby at_181) rfl k) ?_
        refine Go.st (mkF m 184 #[.val (.int p0), .val (.int p1), .val (.int (v_a p0)), .val (.long (v_ca p0)), .second, .val (.int (v_b p0)), .val (.long (v_cb p0)), .second, .val (.int (v_pop p0)), .val (.int (v_c p1)), .val (.long (v_cc p1)), .second, .val (.ref b2), .val (.int (1 : Int32)), .val (.int (2 : Int32)), .val (.int (-1 : Int32)), .val (.long (0 : Int64)), .second, .val (.int ((updI GL 0 (v_c p1)) 0)), .val (.long (0 : Int64)), .second] [(.int (cmpL (0 : Int64) (v_cc p1)))]) (fun _ k => XT.lcmp X34.here hx rfl (hb hby at_183) rfl k) ?_
        refine Go.st (mkF m 187 #[.val (.int p0), .val (.int p1), .val (.int (v_a p0)), .val (.long (v_ca p0)), .second, .val (.int (v_b p0)), .val (.long (v_cb p0)), .second, .val (.int (v_pop p0)), .val (.int (v_c p1)), .val (.long (v_cc p1)), .second, .val (.ref b2), .val (.int (1 : Int32)), .val (.int (2 : Int32)), .val (.int (-1 : Int32)), .val (.long (0 : Int64)), .second, .val (.int ((updI GL 0 (v_c p1)) 0)), .val (.long (0 : Int64)), .second] []) (fun _ k => XS.ifNo X34.here hx rfl (hb hby at_184) rfl (own_leT hcc.symm).2 k) ?_
        refine Go.st (mkF m 188 #[.val (.int p0), .val (.int p1), .val (.int (v_a p0)), .val (.long (v_ca p0)), .second, .val (.int (v_b p0)), .val (.long (v_cb p0)), .second, .val (.int (v_pop p0)), .val (.int (v_c p1)), .val (.long (v_cc p1)), .second, .val (.ref b2), .val (.int (1 : Int32)), .val (.int (2 : Int32)), .val (.int (-1 : Int32)), .val (.long (0 : Int64)), .second, .val (.int ((updI GL 0 (v_c p1)) 0)), .val (.long (0 : Int64)), .second] [(.int (1 : Int32))]) (fun _ k => XS.iconst X34.here hx rfl (hb hby at_187) k) ?_
        refine Go.st (mkF m 192 #[.val (.int p0), .val (.int p1), .val (.int (v_a p0)), .val (.long (v_ca p0)), .second, .val (.int (v_b p0)), .val (.long (v_cb p0)), .second, .val (.int (v_pop p0)), .val (.int (v_c p1)), .val (.long (v_cc p1)), .second, .val (.ref b2), .val (.int (1 : Int32)), .val (.int (2 : Int32)), .val (.int (-1 : Int32)), .val (.long (0 : Int64)), .second, .val (.int ((updI GL 0 (v_c p1)) 0)), .val (.long (0 : Int64)), .second] [(.int (1 : Int32))]) (fun _ k => XS.goto X34.here hx rfl (pc0 := 188) (pc' := 192) rfl (hb hby at_188) (by decide) (by decide) k) ?_
        exact Go.retZ X34 hx Bd.notSynchronized (t := .boolean) (by simp) Bd.returns (hb hby at_192) (by rw [e34]; exact ⟨rfl, N34, K28⟩) (by decide) (by decide)
      ·
        refine Go.st (mkF m 126 #[.val (.int p0), .val (.int p1), .val (.int (v_a p0)), .val (.long (v_ca p0)), .second, .val (.int (v_b p0)), .val (.long (v_cb p0)), .second, .val (.int (v_pop p0)), .val (.int (v_c p1)), .val (.long (v_cc p1)), .second, .val (.ref b2), .val (.int (1 : Int32)), .val (.int (2 : Int32)), .val (.int (-1 : Int32)), .val (.long (0 : Int64)), .second, .unset, .unset, .unset] [(.ref b2)]) (fun _ k => XS.aload X23.here hx rfl (hb hby at_124) rfl rfl k) ?_
        refine Go.st (mkF m 128 #[.val (.int p0), .val (.int p1), .val (.int (v_a p0)), .val (.long (v_ca p0)), .second, .val (.int (v_b p0)), .val (.long (v_cb p0)), .second, .val (.int (v_pop p0)), .val (.int (v_c p1)), .val (.long (v_cc p1)), .second, .val (.ref b2), .val (.int (1 : Int32)), .val (.int (2 : Int32)), .val (.int (-1 : Int32)), .val (.long (0 : Int64)), .second, .unset, .unset, .unset] [(.int (v_c p1)), (.ref b2)]) (fun _ k => XS.iload X23.here hx rfl (hb hby at_126) rfl k) ?_
        refine Go.st (mkF m 130 #[.val (.int p0), .val (.int p1), .val (.int (v_a p0)), .val (.long (v_ca p0)), .second, .val (.int (v_b p0)), .val (.long (v_cb p0)), .second, .val (.int (v_pop p0)), .val (.int (v_c p1)), .val (.long (v_cc p1)), .second, .val (.ref b2), .val (.int (1 : Int32)), .val (.int (2 : Int32)), .val (.int (-1 : Int32)), .val (.long (0 : Int64)), .second, .unset, .unset, .unset] [(.long (v_cc p1)), (.int (v_c p1)), (.ref b2)]) (fun _ k => XT.lload X23.here hx rfl (hb hby at_128) rfl k) ?_
        obtain ⟨cq35, kq35, q35a, q35b, q35c⟩ := isOf hZ e23 J21_0
        obtain ⟨_, _, ⟨T35, L35, k35, n35⟩, -, X35, ⟨Lc35, hQ35, l35, y35, z35⟩, st35⟩ := X23.virtualBack hx (y := (⟨"com/example/nearpath/nearpath/answer/Frontier", "reach", "(IJ)V"⟩ : MethodName)) (z := (⟨"com/example/nearpath/nearpath/answer/Frontier", "reach", "(IJ)V"⟩ : MethodName)) hown (mvT hZ (hw _ (List.mem_of_getElem? (i := 37) rfl))) (mvT hZ (hw _ (List.mem_of_getElem? (i := 38) rfl))) (notFace_of_selects (args := #[]) (mvT hZ (hw _ (List.mem_of_getElem? (i := 40) rfl)))) (mvT hZ (hw _ (List.mem_of_getElem? (i := 40) rfl))) (mvT hZ (hw _ (List.mem_of_getElem? (i := 39) rfl))) (by decide) (backOf (W := 0) (rm_r50 l Z a0 hw [] b2 (v_c p1) (v_cc p1) lv_13 hc_13 hi_13 sn_13 (2 : Int32) (0 : Int64) (0 : Int32) (0 : Int32) GC GI GS hJ21 n0 (Nat.le_trans Z0 KJ21.1) J21_0 J21_5 J21_6 J21_7 J21_8 J21_9 J21_10 J21_11 J21_12 J21_13 J21_14 J21_4 J21_2 J21_3 (by first | exact own_va p0 | exact own_vb p0 | exact own_vc p1) (by first | exact own_ca p0 | exact own_cb p0 | exact own_cc p1) (by first | decide | exact hcc | exact hM3a | exact hM3b) (by first | decide | exact hcc | exact hM3a | exact hM3b) (by first | decide | exact hcc | exact hM3a | exact hM3b) g_b2 g_hc_13 g_hi_13 g_sn_13 ne_b2_hc_13 ne_b2_hi_13 ne_b2_sn_13 P13_21 P13_22 P13_23) hZ (hw _ (List.mem_of_getElem? (i := 41) rfl)) (hw _ (List.mem_of_getElem? (i := 2) rfl)) (by decide) (by decide)) q35a q35c (g := (mkF m 130 #[.val (.int p0), .val (.int p1), .val (.int (v_a p0)), .val (.long (v_ca p0)), .second, .val (.int (v_b p0)), .val (.long (v_cb p0)), .second, .val (.int (v_pop p0)), .val (.int (v_c p1)), .val (.long (v_cc p1)), .second, .val (.ref b2), .val (.int (1 : Int32)), .val (.int (2 : Int32)), .val (.int (-1 : Int32)), .val (.long (0 : Int64)), .second, .unset, .unset, .unset] [(.long (v_cc p1)), (.int (v_c p1)), (.ref b2)])) rfl (by rw [hml]; rfl) (Steps.refl _) (argsL := [(.int (v_c p1)), (.long (v_cc p1))]) (rest := []) (lenOf pd_1 rfl) rfl (by show 2 * 0 + _ ≤ _; exact Nat.le_of_eq rfl) (hb hby at_130) (fun _ _ => ⟨rfl, e23, (by decide : 5 + 0 ≤ _), (by decide : 62 + 0 ≤ _)⟩)
        dsimp only [Pt.U, Pt.locs, Pt.cells, Pt.slots] at X35 l35 y35 z35 st35 hQ35
        subst l35 y35 z35
        obtain ⟨rfl, N35q, K35q, F35_0, F35_1, F35_2, F35_3, F35_4, F35_5, F35_6, F35_7, F35_8, F35_9, V35_10, V35_11, V35_12⟩ := hQ35
        have N35 := Fr.app N23 N35q
        have E36q : Exa Z T35.heap b2 "com/example/nearpath/nearpath/answer/Frontier" := J21_0.keep K35q
        have V37 : Ary Z T35.heap lv_13 .int 16 (bts GL) := J21_1.keep K35q (ninS (Ne.symm ne_b2_lv_13) (ninS P13_18 (ninS P13_19 (ninS P13_20 nin0))))
        have K35 : Keep h0 T35.heap [] := KJ21.trans K35q (allS (Or.inr sz_b2) (allS (Or.inr sz_hc_13) (allS (Or.inr sz_hi_13) (allS (Or.inr sz_sn_13) all0))))
        refine Go.st (mkF m 133 #[.val (.int p0), .val (.int p1), .val (.int (v_a p0)), .val (.long (v_ca p0)), .second, .val (.int (v_b p0)), .val (.long (v_cb p0)), .second, .val (.int (v_pop p0)), .val (.int (v_c p1)), .val (.long (v_cc p1)), .second, .val (.ref b2), .val (.int (1 : Int32)), .val (.int (2 : Int32)), .val (.int (-1 : Int32)), .val (.long (0 : Int64)), .second, .unset, .unset, .unset] []) (fun _ k => st35.trans k) ?_
        refine Go.st (mkF m 135 #[.val (.int p0), .val (.int p1), .val (.int (v_a p0)), .val (.long (v_ca p0)), .second, .val (.int (v_b p0)), .val (.long (v_cb p0)), .second, .val (.int (v_pop p0)), .val (.int (v_c p1)), .val (.long (v_cc p1)), .second, .val (.ref b2), .val (.int (1 : Int32)), .val (.int (2 : Int32)), .val (.int (-1 : Int32)), .val (.long (0 : Int64)), .second, .unset, .unset, .unset] [(.ref b2)]) (fun _ k => XS.aload X35.here hx rfl (hb hby at_133) rfl rfl k) ?_
        obtain ⟨cq38, kq38, q38a, q38b, q38c⟩ := isOf hZ rfl E36q
        obtain ⟨_, _, ⟨T38, L38, k38, n38⟩, -, X38, ⟨Lc38, hQ38, l38, y38, z38⟩, st38⟩ := X35.virtualBack hx (y := (⟨"com/example/nearpath/nearpath/answer/Frontier", "next", "()I"⟩ : MethodName)) (z := (⟨"com/example/nearpath/nearpath/answer/Frontier", "next", "()I"⟩ : MethodName)) hown (mvT hZ (hw _ (List.mem_of_getElem? (i := 45) rfl))) (mvT hZ (hw _ (List.mem_of_getElem? (i := 46) rfl))) (notFace_of_selects (args := #[]) (mvT hZ (hw _ (List.mem_of_getElem? (i := 48) rfl)))) (mvT hZ (hw _ (List.mem_of_getElem? (i := 48) rfl))) (mvT hZ (hw _ (List.mem_of_getElem? (i := 47) rfl))) (by decide) (backOf (W := 0) (rm_n3 l Z a0 hw [] b2 lv_13 hc_13 hi_13 sn_13 (2 : Int32) (0 : Int64) (updJ GC 0 (v_cc p1)) (updI GI 0 (v_c p1)) (updI GS ((v_c p1).toNatClampNeg) (-1 : Int32)) T35.heap n0 (Nat.le_trans Z0 K35.1) E36q F35_0 F35_1 F35_2 F35_3 F35_4 F35_5 F35_6 F35_7 F35_8 F35_9 V35_10 V35_11 V35_12 (by first | exact own_va p0 | exact own_vb p0 | exact own_vc p1) g_b2 g_sn_13 ne_b2_hc_13 ne_b2_hi_13 ne_b2_sn_13 P13_21 P13_22 P13_23) hZ (hw _ (List.mem_of_getElem? (i := 49) rfl)) (hw _ (List.mem_of_getElem? (i := 2) rfl)) (by decide) (by decide)) q38a q38c (g := (mkF m 135 #[.val (.int p0), .val (.int p1), .val (.int (v_a p0)), .val (.long (v_ca p0)), .second, .val (.int (v_b p0)), .val (.long (v_cb p0)), .second, .val (.int (v_pop p0)), .val (.int (v_c p1)), .val (.long (v_cc p1)), .second, .val (.ref b2), .val (.int (1 : Int32)), .val (.int (2 : Int32)), .val (.int (-1 : Int32)), .val (.long (0 : Int64)), .second, .unset, .unset, .unset] [(.ref b2)])) rfl (by rw [hml]; rfl) (Steps.refl _) (argsL := []) (rest := []) (lenOf pd_3 rfl) rfl (by show 2 * 0 + _ ≤ _; exact Nat.le_of_eq rfl) (hb hby at_135) (fun _ _ => ⟨rfl, rfl, (by decide : 5 + 0 ≤ _), (by decide : 62 + 0 ≤ _)⟩)
        dsimp only [Pt.U, Pt.locs, Pt.cells, Pt.slots] at X38 l38 y38 z38 st38 hQ38
        subst l38 y38 z38
        obtain ⟨rfl, N38q, K38q, F38_0, F38_1, F38_2, F38_3, F38_4, F38_5, F38_6, F38_7, F38_8, F38_9, V38_10⟩ := hQ38
        have N38 := Fr.app N35 N38q
        have E39q : Exa Z T38.heap b2 "com/example/nearpath/nearpath/answer/Frontier" := E36q.keep K38q
        have V40 : Ary Z T38.heap lv_13 .int 16 (bts GL) := V37.keep K38q (ninS (Ne.symm ne_b2_lv_13) (ninS P13_20 nin0))
        have V41 : Ary Z T38.heap hc_13 .long 16 (lts (updJ GC 0 (v_cc p1))) := V35_10.keep K38q (ninS (Ne.symm ne_b2_hc_13) (ninS P13_22 nin0))
        have V42 : Ary Z T38.heap hi_13 .int 16 (bts (updI GI 0 (v_c p1))) := V35_11.keep K38q (ninS (Ne.symm ne_b2_hi_13) (ninS P13_23 nin0))
        have K38 : Keep h0 T38.heap [] := K35.trans K38q (allS (Or.inr sz_b2) (allS (Or.inr sz_sn_13) all0))
        refine Go.st (mkF m 138 #[.val (.int p0), .val (.int p1), .val (.int (v_a p0)), .val (.long (v_ca p0)), .second, .val (.int (v_b p0)), .val (.long (v_cb p0)), .second, .val (.int (v_pop p0)), .val (.int (v_c p1)), .val (.long (v_cc p1)), .second, .val (.ref b2), .val (.int (1 : Int32)), .val (.int (2 : Int32)), .val (.int (-1 : Int32)), .val (.long (0 : Int64)), .second, .unset, .unset, .unset] [(.int ((updI GI 0 (v_c p1)) 0))]) (fun _ k => st38.trans k) ?_
        refine Go.st (mkF m 140 #[.val (.int p0), .val (.int p1), .val (.int (v_a p0)), .val (.long (v_ca p0)), .second, .val (.int (v_b p0)), .val (.long (v_cb p0)), .second, .val (.int (v_pop p0)), .val (.int (v_c p1)), .val (.long (v_cc p1)), .second, .val (.ref b2), .val (.int (1 : Int32)), .val (.int (2 : Int32)), .val (.int (-1 : Int32)), .val (.long (0 : Int64)), .second, .val (.int ((updI GI 0 (v_c p1)) 0)), .unset, .unset] []) (fun _ k => XS.istore X38.here hx rfl (hb hby at_138) rfl (l' := #[.val (.int p0), .val (.int p1), .val (.int (v_a p0)), .val (.long (v_ca p0)), .second, .val (.int (v_b p0)), .val (.long (v_cb p0)), .second, .val (.int (v_pop p0)), .val (.int (v_c p1)), .val (.long (v_cc p1)), .second, .val (.ref b2), .val (.int (1 : Int32)), .val (.int (2 : Int32)), .val (.int (-1 : Int32)), .val (.long (0 : Int64)), .second, .val (.int ((updI GI 0 (v_c p1)) 0)), .unset, .unset]) rfl k) ?_
        refine Go.st (mkF m 142 #[.val (.int p0), .val (.int p1), .val (.int (v_a p0)), .val (.long (v_ca p0)), .second, .val (.int (v_b p0)), .val (.long (v_cb p0)), .second, .val (.int (v_pop p0)), .val (.int (v_c p1)), .val (.long (v_cc p1)), .second, .val (.ref b2), .val (.int (1 : Int32)), .val (.int (2 : Int32)), .val (.int (-1 : Int32)), .val (.long (0 : Int64)), .second, .val (.int ((updI GI 0 (v_c p1)) 0)), .unset, .unset] [(.ref b2)]) (fun _ k => XS.aload X38.here hx rfl (hb hby at_140) rfl rfl k) ?_
        obtain ⟨cq43, kq43, q43a, q43b, q43c⟩ := isOf hZ rfl E39q
        obtain ⟨_, _, ⟨T43, L43, k43, n43⟩, -, X43, ⟨Lc43, hQ43, l43, y43, z43⟩, st43⟩ := X38.virtualBack hx (y := (⟨"com/example/nearpath/nearpath/answer/Frontier", "cost", "()J"⟩ : MethodName)) (z := (⟨"com/example/nearpath/nearpath/answer/Frontier", "cost", "()J"⟩ : MethodName)) hown (mvT hZ (hw _ (List.mem_of_getElem? (i := 50) rfl))) (mvT hZ (hw _ (List.mem_of_getElem? (i := 51) rfl))) (notFace_of_selects (args := #[]) (mvT hZ (hw _ (List.mem_of_getElem? (i := 53) rfl)))) (mvT hZ (hw _ (List.mem_of_getElem? (i := 53) rfl))) (mvT hZ (hw _ (List.mem_of_getElem? (i := 52) rfl))) (by decide) (backOf (W := 0) (rm_co l Z a0 hw [] b2 ((updJ GC 0 (v_cc p1)) 0) T38.heap n0 (Nat.le_trans Z0 K38.1) F38_3) hZ (hw _ (List.mem_of_getElem? (i := 54) rfl)) (hw _ (List.mem_of_getElem? (i := 2) rfl)) (by decide) (by decide)) q43a q43c (g := (mkF m 142 #[.val (.int p0), .val (.int p1), .val (.int (v_a p0)), .val (.long (v_ca p0)), .second, .val (.int (v_b p0)), .val (.long (v_cb p0)), .second, .val (.int (v_pop p0)), .val (.int (v_c p1)), .val (.long (v_cc p1)), .second, .val (.ref b2), .val (.int (1 : Int32)), .val (.int (2 : Int32)), .val (.int (-1 : Int32)), .val (.long (0 : Int64)), .second, .val (.int ((updI GI 0 (v_c p1)) 0)), .unset, .unset] [(.ref b2)])) rfl (by rw [hml]; rfl) (Steps.refl _) (argsL := []) (rest := []) (lenOf pd_4 rfl) rfl (by show 2 * 0 + _ ≤ _; exact Nat.le_of_eq rfl) (hb hby at_142) (fun _ _ => ⟨rfl, rfl, (by decide : 5 + 0 ≤ _), (by decide : 62 + 0 ≤ _)⟩)
        dsimp only [Pt.U, Pt.locs, Pt.cells, Pt.slots] at X43 l43 y43 z43 st43 hQ43
        subst l43 y43 z43
        obtain ⟨rfl, N43q, e43⟩ := hQ43
        have N43 := Fr.app N38 N43q
        refine Go.st (mkF m 145 #[.val (.int p0), .val (.int p1), .val (.int (v_a p0)), .val (.long (v_ca p0)), .second, .val (.int (v_b p0)), .val (.long (v_cb p0)), .second, .val (.int (v_pop p0)), .val (.int (v_c p1)), .val (.long (v_cc p1)), .second, .val (.ref b2), .val (.int (1 : Int32)), .val (.int (2 : Int32)), .val (.int (-1 : Int32)), .val (.long (0 : Int64)), .second, .val (.int ((updI GI 0 (v_c p1)) 0)), .unset, .unset] [(.long ((updJ GC 0 (v_cc p1)) 0))]) (fun _ k => st43.trans k) ?_
        refine Go.st (mkF m 147 #[.val (.int p0), .val (.int p1), .val (.int (v_a p0)), .val (.long (v_ca p0)), .second, .val (.int (v_b p0)), .val (.long (v_cb p0)), .second, .val (.int (v_pop p0)), .val (.int (v_c p1)), .val (.long (v_cc p1)), .second, .val (.ref b2), .val (.int (1 : Int32)), .val (.int (2 : Int32)), .val (.int (-1 : Int32)), .val (.long (0 : Int64)), .second, .val (.int ((updI GI 0 (v_c p1)) 0)), .val (.long ((updJ GC 0 (v_cc p1)) 0)), .second] []) (fun _ k => XT.lstore X43.here hx rfl (hb hby at_145) rfl (l' := #[.val (.int p0), .val (.int p1), .val (.int (v_a p0)), .val (.long (v_ca p0)), .second, .val (.int (v_b p0)), .val (.long (v_cb p0)), .second, .val (.int (v_pop p0)), .val (.int (v_c p1)), .val (.long (v_cc p1)), .second, .val (.ref b2), .val (.int (1 : Int32)), .val (.int (2 : Int32)), .val (.int (-1 : Int32)), .val (.long (0 : Int64)), .second, .val (.int ((updI GI 0 (v_c p1)) 0)), .val (.long ((updJ GC 0 (v_cc p1)) 0)), .second]) rfl k) ?_
        refine Go.st (mkF m 149 #[.val (.int p0), .val (.int p1), .val (.int (v_a p0)), .val (.long (v_ca p0)), .second, .val (.int (v_b p0)), .val (.long (v_cb p0)), .second, .val (.int (v_pop p0)), .val (.int (v_c p1)), .val (.long (v_cc p1)), .second, .val (.ref b2), .val (.int (1 : Int32)), .val (.int (2 : Int32)), .val (.int (-1 : Int32)), .val (.long (0 : Int64)), .second, .val (.int ((updI GI 0 (v_c p1)) 0)), .val (.long ((updJ GC 0 (v_cc p1)) 0)), .second] [(.int (1 : Int32))]) (fun _ k => XS.iload X43.here hx rfl (hb hby at_147) rfl k) ?_
        refine Go.st (mkF m 150 #[.val (.int p0), .val (.int p1), .val (.int (v_a p0)), .val (.long (v_ca p0)), .second, .val (.int (v_b p0)), .val (.long (v_cb p0)), .second, .val (.int (v_pop p0)), .val (.int (v_c p1)), .val (.long (v_cc p1)), .second, .val (.ref b2), .val (.int (1 : Int32)), .val (.int (2 : Int32)), .val (.int (-1 : Int32)), .val (.long (0 : Int64)), .second, .val (.int ((updI GI 0 (v_c p1)) 0)), .val (.long ((updJ GC 0 (v_cc p1)) 0)), .second] [(.int (1 : Int32)), (.int (1 : Int32))]) (fun _ k => XS.iconst X43.here hx rfl (hb hby at_149) k) ?_
        refine Go.st (mkF m 153 #[.val (.int p0), .val (.int p1), .val (.int (v_a p0)), .val (.long (v_ca p0)), .second, .val (.int (v_b p0)), .val (.long (v_cb p0)), .second, .val (.int (v_pop p0)), .val (.int (v_c p1)), .val (.long (v_cc p1)), .second, .val (.ref b2), .val (.int (1 : Int32)), .val (.int (2 : Int32)), .val (.int (-1 : Int32)), .val (.long (0 : Int64)), .second, .val (.int ((updI GI 0 (v_c p1)) 0)), .val (.long ((updJ GC 0 (v_cc p1)) 0)), .second] []) (fun _ k => XS.icmpNo X43.here hx rfl (hb hby at_150) rfl (teq (by decide : (1 : Int32) = (1 : Int32))).2 k) ?_
        refine Go.st (mkF m 155 #[.val (.int p0), .val (.int p1), .val (.int (v_a p0)), .val (.long (v_ca p0)), .second, .val (.int (v_b p0)), .val (.long (v_cb p0)), .second, .val (.int (v_pop p0)), .val (.int (v_c p1)), .val (.long (v_cc p1)), .second, .val (.ref b2), .val (.int (1 : Int32)), .val (.int (2 : Int32)), .val (.int (-1 : Int32)), .val (.long (0 : Int64)), .second, .val (.int ((updI GI 0 (v_c p1)) 0)), .val (.long ((updJ GC 0 (v_cc p1)) 0)), .second] [(.int (2 : Int32))]) (fun _ k => XS.iload X43.here hx rfl (hb hby at_153) rfl k) ?_
        refine Go.st (mkF m 156 #[.val (.int p0), .val (.int p1), .val (.int (v_a p0)), .val (.long (v_ca p0)), .second, .val (.int (v_b p0)), .val (.long (v_cb p0)), .second, .val (.int (v_pop p0)), .val (.int (v_c p1)), .val (.long (v_cc p1)), .second, .val (.ref b2), .val (.int (1 : Int32)), .val (.int (2 : Int32)), .val (.int (-1 : Int32)), .val (.long (0 : Int64)), .second, .val (.int ((updI GI 0 (v_c p1)) 0)), .val (.long ((updJ GC 0 (v_cc p1)) 0)), .second] [(.int (2 : Int32)), (.int (2 : Int32))]) (fun _ k => XS.iconst X43.here hx rfl (hb hby at_155) k) ?_
        refine Go.st (mkF m 159 #[.val (.int p0), .val (.int p1), .val (.int (v_a p0)), .val (.long (v_ca p0)), .second, .val (.int (v_b p0)), .val (.long (v_cb p0)), .second, .val (.int (v_pop p0)), .val (.int (v_c p1)), .val (.long (v_cc p1)), .second, .val (.ref b2), .val (.int (1 : Int32)), .val (.int (2 : Int32)), .val (.int (-1 : Int32)), .val (.long (0 : Int64)), .second, .val (.int ((updI GI 0 (v_c p1)) 0)), .val (.long ((updJ GC 0 (v_cc p1)) 0)), .second] []) (fun _ k => XS.icmpNo X43.here hx rfl (hb hby at_156) rfl (teq (by decide : (2 : Int32) = (2 : Int32))).2 k) ?_
        refine Go.st (mkF m 161 #[.val (.int p0), .val (.int p1), .val (.int (v_a p0)), .val (.long (v_ca p0)), .second, .val (.int (v_b p0)), .val (.long (v_cb p0)), .second, .val (.int (v_pop p0)), .val (.int (v_c p1)), .val (.long (v_cc p1)), .second, .val (.ref b2), .val (.int (1 : Int32)), .val (.int (2 : Int32)), .val (.int (-1 : Int32)), .val (.long (0 : Int64)), .second, .val (.int ((updI GI 0 (v_c p1)) 0)), .val (.long ((updJ GC 0 (v_cc p1)) 0)), .second] [(.int (-1 : Int32))]) (fun _ k => XS.iload X43.here hx rfl (hb hby at_159) rfl k) ?_
        refine Go.st (mkF m 162 #[.val (.int p0), .val (.int p1), .val (.int (v_a p0)), .val (.long (v_ca p0)), .second, .val (.int (v_b p0)), .val (.long (v_cb p0)), .second, .val (.int (v_pop p0)), .val (.int (v_c p1)), .val (.long (v_cc p1)), .second, .val (.ref b2), .val (.int (1 : Int32)), .val (.int (2 : Int32)), .val (.int (-1 : Int32)), .val (.long (0 : Int64)), .second, .val (.int ((updI GI 0 (v_c p1)) 0)), .val (.long ((updJ GC 0 (v_cc p1)) 0)), .second] [(.int (-1 : Int32)), (.int (-1 : Int32))]) (fun _ k => XS.iconst X43.here hx rfl (hb hby at_161) k) ?_
        refine Go.st (mkF m 165 #[.val (.int p0), .val (.int p1), .val (.int (v_a p0)), .val (.long (v_ca p0)), .second, .val (.int (v_b p0)), .val (.long (v_cb p0)), .second, .val (.int (v_pop p0)), .val (.int (v_c p1)), .val (.long (v_cc p1)), .second, .val (.ref b2), .val (.int (1 : Int32)), .val (.int (2 : Int32)), .val (.int (-1 : Int32)), .val (.long (0 : Int64)), .second, .val (.int ((updI GI 0 (v_c p1)) 0)), .val (.long ((updJ GC 0 (v_cc p1)) 0)), .second] []) (fun _ k => XS.icmpNo X43.here hx rfl (hb hby at_162) rfl (teq (by decide : (-1 : Int32) = (-1 : Int32))).2 k) ?_
        refine Go.st (mkF m 167 #[.val (.int p0), .val (.int p1), .val (.int (v_a p0)), .val (.long (v_ca p0)), .second, .val (.int (v_b p0)), .val (.long (v_cb p0)), .second, .val (.int (v_pop p0)), .val (.int (v_c p1)), .val (.long (v_cc p1)), .second, .val (.ref b2), .val (.int (1 : Int32)), .val (.int (2 : Int32)), .val (.int (-1 : Int32)), .val (.long (0 : Int64)), .second, .val (.int ((updI GI 0 (v_c p1)) 0)), .val (.long ((updJ GC 0 (v_cc p1)) 0)), .second] [(.long (0 : Int64))]) (fun _ k => XT.lload X43.here hx rfl (hb hby at_165) rfl k) ?_
        refine Go.st (mkF m 168 #[.val (.int p0), .val (.int p1), .val (.int (v_a p0)), .val (.long (v_ca p0)), .second, .val (.int (v_b p0)), .val (.long (v_cb p0)), .second, .val (.int (v_pop p0)), .val (.int (v_c p1)), .val (.long (v_cc p1)), .second, .val (.ref b2), .val (.int (1 : Int32)), .val (.int (2 : Int32)), .val (.int (-1 : Int32)), .val (.long (0 : Int64)), .second, .val (.int ((updI GI 0 (v_c p1)) 0)), .val (.long ((updJ GC 0 (v_cc p1)) 0)), .second] [(.long (0 : Int64)), (.long (0 : Int64))]) (fun _ k => XT.lconst X43.here hx rfl (hb hby at_167) k) ?_
        refine Go.st (mkF m 169 #[.val (.int p0), .val (.int p1), .val (.int (v_a p0)), .val (.long (v_ca p0)), .second, .val (.int (v_b p0)), .val (.long (v_cb p0)), .second, .val (.int (v_pop p0)), .val (.int (v_c p1)), .val (.long (v_cc p1)), .second, .val (.ref b2), .val (.int (1 : Int32)), .val (.int (2 : Int32)), .val (.int (-1 : Int32)), .val (.long (0 : Int64)), .second, .val (.int ((updI GI 0 (v_c p1)) 0)), .val (.long ((updJ GC 0 (v_cc p1)) 0)), .second] [(.int (cmpL (0 : Int64) (0 : Int64)))]) (fun _ k => XT.lcmp X43.here hx rfl (hb hby at_168) rfl k) ?_
        refine Go.st (mkF m 172 #[.val (.int p0), .val (.int p1), .val (.int (v_a p0)), .val (.long (v_ca p0)), .second, .val (.int (v_b p0)), .val (.long (v_cb p0)), .second, .val (.int (v_pop p0)), .val (.int (v_c p1)), .val (.long (v_cc p1)), .second, .val (.ref b2), .val (.int (1 : Int32)), .val (.int (2 : Int32)), .val (.int (-1 : Int32)), .val (.long (0 : Int64)), .second, .val (.int ((updI GI 0 (v_c p1)) 0)), .val (.long ((updJ GC 0 (v_cc p1)) 0)), .second] []) (fun _ k => XS.ifNo X43.here hx rfl (hb hby at_169) rfl (own_leT (by decide : (0 : Int64) = (0 : Int64))).2 k) ?_
        refine Go.st (mkF m 174 #[.val (.int p0), .val (.int p1), .val (.int (v_a p0)), .val (.long (v_ca p0)), .second, .val (.int (v_b p0)), .val (.long (v_cb p0)), .second, .val (.int (v_pop p0)), .val (.int (v_c p1)), .val (.long (v_cc p1)), .second, .val (.ref b2), .val (.int (1 : Int32)), .val (.int (2 : Int32)), .val (.int (-1 : Int32)), .val (.long (0 : Int64)), .second, .val (.int ((updI GI 0 (v_c p1)) 0)), .val (.long ((updJ GC 0 (v_cc p1)) 0)), .second] [(.int ((updI GI 0 (v_c p1)) 0))]) (fun _ k => XS.iload X43.here hx rfl (hb hby at_172) rfl k) ?_
        refine Go.st (mkF m 176 #[.val (.int p0), .val (.int p1), .val (.int (v_a p0)), .val (.long (v_ca p0)), .second, .val (.int (v_b p0)), .val (.long (v_cb p0)), .second, .val (.int (v_pop p0)), .val (.int (v_c p1)), .val (.long (v_cc p1)), .second, .val (.ref b2), .val (.int (1 : Int32)), .val (.int (2 : Int32)), .val (.int (-1 : Int32)), .val (.long (0 : Int64)), .second, .val (.int ((updI GI 0 (v_c p1)) 0)), .val (.long ((updJ GC 0 (v_cc p1)) 0)), .second] [(.int (v_c p1)), (.int ((updI GI 0 (v_c p1)) 0))]) (fun _ k => XS.iload X43.here hx rfl (hb hby at_174) rfl k) ?_
        refine Go.st (mkF m 179 #[.val (.int p0), .val (.int p1), .val (.int (v_a p0)), .val (.long (v_ca p0)), .second, .val (.int (v_b p0)), .val (.long (v_cb p0)), .second, .val (.int (v_pop p0)), .val (.int (v_c p1)), .val (.long (v_cc p1)), .second, .val (.ref b2), .val (.int (1 : Int32)), .val (.int (2 : Int32)), .val (.int (-1 : Int32)), .val (.long (0 : Int64)), .second, .val (.int ((updI GI 0 (v_c p1)) 0)), .val (.long ((updJ GC 0 (v_cc p1)) 0)), .second] []) (fun _ k => XS.icmpNo X43.here hx rfl (hb hby at_176) rfl (teq rfl).2 k) ?_
        refine Go.st (mkF m 181 #[.val (.int p0), .val (.int p1), .val (.int (v_a p0)), .val (.long (v_ca p0)), .second, .val (.int (v_b p0)), .val (.long (v_cb p0)), .second, .val (.int (v_pop p0)), .val (.int (v_c p1)), .val (.long (v_cc p1)), .second, .val (.ref b2), .val (.int (1 : Int32)), .val (.int (2 : Int32)), .val (.int (-1 : Int32)), .val (.long (0 : Int64)), .second, .val (.int ((updI GI 0 (v_c p1)) 0)), .val (.long ((updJ GC 0 (v_cc p1)) 0)), .second] [(.long ((updJ GC 0 (v_cc p1)) 0))]) (fun _ k => XT.lload X43.here hx rfl (hb hby at_179) rfl k) ?_
        refine Go.st (mkF m 183 #[.val (.int p0), .val (.int p1), .val (.int (v_a p0)), .val (.long (v_ca p0)), .second, .val (.int (v_b p0)), .val (.long (v_cb p0)), .second, .val (.int (v_pop p0)), .val (.int (v_c p1)), .val (.long (v_cc p1)), .second, .val (.ref b2), .val (.int (1 : Int32)), .val (.int (2 : Int32)), .val (.int (-1 : Int32)), .val (.long (0 : Int64)), .second, .val (.int ((updI GI 0 (v_c p1)) 0)), .val (.long ((updJ GC 0 (v_cc p1)) 0)), .second] [(.long (v_cc p1)), (.long ((updJ GC 0 (v_cc p1)) 0))]) (fun _ k => XT.lload X43.here hx rfl (hb hby at_181) rfl k) ?_
        refine Go.st (mkF m 184 #[.val (.int p0), .val (.int p1), .val (.int (v_a p0)), .val (.long (v_ca p0)), .second, .val (.int (v_b p0)), .val (.long (v_cb p0)), .second, .val (.int (v_pop p0)), .val (.int (v_c p1)), .val (.long (v_cc p1)), .second, .val (.ref b2), .val (.int (1 : Int32)), .val (.int (2 : Int32)), .val (.int (-1 : Int32)), .val (.long (0 : Int64)), .second, .val (.int ((updI GI 0 (v_c p1)) 0)), .val (.long ((updJ GC 0 (v_cc p1)) 0)), .second] [(.int (cmpL ((updJ GC 0 (v_cc p1)) 0) (v_cc p1)))]) (fun _ k => XT.lcmp X43.here hx rfl (hb hby at_183) rfl k) ?_
        refine Go.st (mkF m 187 #[.val (.int p0), .val (.int p1), .val (.int (v_a p0)), .val (.long (v_ca p0)), .second, .val (.int (v_b p0)), .val (.long (v_cb p0)), .second, .val (.int (v_pop p0)), .val (.int (v_c p1)), .val (.long (v_cc p1)), .second, .val (.ref b2), .val (.int (1 : Int32)), .val (.int (2 : Int32)), .val (.int (-1 : Int32)), .val (.long (0 : Int64)), .second, .val (.int ((updI GI 0 (v_c p1)) 0)), .val (.long ((updJ GC 0 (v_cc p1)) 0)), .second] []) (fun _ k => XS.ifNo X43.here hx rfl (hb hby at_184) rfl (own_leT rfl).2 k) ?_
        refine Go.st (mkF m 188 #[.val (.int p0), .val (.int p1), .val (.int (v_a p0)), .val (.long (v_ca p0)), .second, .val (.int (v_b p0)), .val (.long (v_cb p0)), .second, .val (.int (v_pop p0)), .val (.int (v_c p1)), .val (.long (v_cc p1)), .second, .val (.ref b2), .val (.int (1 : Int32)), .val (.int (2 : Int32)), .val (.int (-1 : Int32)), .val (.long (0 : Int64)), .second, .val (.int ((updI GI 0 (v_c p1)) 0)), .val (.long ((updJ GC 0 (v_cc p1)) 0)), .second] [(.int (1 : Int32))]) (fun _ k => XS.iconst X43.here hx rfl (hb hby at_187) k) ?_
        refine Go.st (mkF m 192 #[.val (.int p0), .val (.int p1), .val (.int (v_a p0)), .val (.long (v_ca p0)), .second, .val (.int (v_b p0)), .val (.long (v_cb p0)), .second, .val (.int (v_pop p0)), .val (.int (v_c p1)), .val (.long (v_cc p1)), .second, .val (.ref b2), .val (.int (1 : Int32)), .val (.int (2 : Int32)), .val (.int (-1 : Int32)), .val (.long (0 : Int64)), .second, .val (.int ((updI GI 0 (v_c p1)) 0)), .val (.long ((updJ GC 0 (v_cc p1)) 0)), .second] [(.int (1 : Int32))]) (fun _ k => XS.goto X43.here hx rfl (pc0 := 188) (pc' := 192) rfl (hb hby at_188) (by decide) (by decide) k) ?_
        exact Go.retZ X43 hx Bd.notSynchronized (t := .boolean) (by simp) Bd.returns (hb hby at_192) (by rw [e43]; exact ⟨rfl, N43, K38⟩) (by decide) (by decide)
    have hM : ((fun _ => (0 : Int32)) ((v_a p0).toNatClampNeg)) = (0 : Int32) := rfl
    by_cases hca : (v_ca p0) = (0 : Int64)
    ·
      refine Go.st (mkF m 78 #[.val (.int p0), .val (.int p1), .val (.int (v_a p0)), .val (.long (v_ca p0)), .second, .val (.int (v_b p0)), .val (.long (v_cb p0)), .second, .val (.int (v_pop p0)), .val (.int (v_c p1)), .val (.long (v_cc p1)), .second, .val (.ref b2), .val (.int (1 : Int32)), .unset, .unset, .unset, .unset, .unset, .unset, .unset] [(.ref b2)]) (fun _ k => XS.aload X15.here hx rfl (hb hby at_76) rfl rfl k) ?_
      refine Go.st (mkF m 79 #[.val (.int p0), .val (.int p1), .val (.int (v_a p0)), .val (.long (v_ca p0)), .second, .val (.int (v_b p0)), .val (.long (v_cb p0)), .second, .val (.int (v_pop p0)), .val (.int (v_c p1)), .val (.long (v_cc p1)), .second, .val (.ref b2), .val (.int (1 : Int32)), .unset, .unset, .unset, .unset, .unset, .unset, .unset] [(.int (v_a p0)), (.ref b2)]) (fun _ k => XS.iloadN X15.here hx rfl (hb hby at_78) rfl k) ?_
      refine Go.st (mkF m 80 #[.val (.int p0), .val (.int p1), .val (.int (v_a p0)), .val (.long (v_ca p0)), .second, .val (.int (v_b p0)), .val (.long (v_cb p0)), .second, .val (.int (v_pop p0)), .val (.int (v_c p1)), .val (.long (v_cc p1)), .second, .val (.ref b2), .val (.int (1 : Int32)), .unset, .unset, .unset, .unset, .unset, .unset, .unset] [(.long (v_ca p0)), (.int (v_a p0)), (.ref b2)]) (fun _ k => XT.lloadN X15.here hx rfl (hb hby at_79) rfl k) ?_
      obtain ⟨cq44, kq44, q44a, q44b, q44c⟩ := isOf hZ rfl E16q
      obtain ⟨_, _, ⟨T44, L44, k44, n44⟩, -, X44, ⟨Lc44, hQ44, l44, y44, z44⟩, st44⟩ := X15.virtualBack hx (y := (⟨"com/example/nearpath/nearpath/answer/Frontier", "reach", "(IJ)V"⟩ : MethodName)) (z := (⟨"com/example/nearpath/nearpath/answer/Frontier", "reach", "(IJ)V"⟩ : MethodName)) hown (mvT hZ (hw _ (List.mem_of_getElem? (i := 37) rfl))) (mvT hZ (hw _ (List.mem_of_getElem? (i := 38) rfl))) (notFace_of_selects (args := #[]) (mvT hZ (hw _ (List.mem_of_getElem? (i := 40) rfl)))) (mvT hZ (hw _ (List.mem_of_getElem? (i := 40) rfl))) (mvT hZ (hw _ (List.mem_of_getElem? (i := 39) rfl))) (by decide) (backOf (W := 0) (rm_r40 l Z a0 hw [] b2 (v_a p0) (v_ca p0) lv_13 hc_13 hi_13 sn_13 (1 : Int32) (0 : Int64) (0 : Int32) (0 : Int32) (fun _ => (0 : Int32)) (fun _ => (0 : Int32)) T15.heap n0 (Nat.le_trans Z0 K15.1) E16q F15_0 F15_1 F15_2 F15_3 F15_4 F15_5 F15_6 F15_7 F15_8 F15_9 V20 V17 (by first | exact own_va p0 | exact own_vb p0 | exact own_vc p1) (by first | exact own_ca p0 | exact own_cb p0 | exact own_cc p1) (by first | decide | exact hca | exact hM | (rw [hM]; decide)) (by first | decide | exact hca | exact hM | (rw [hM]; decide)) (by first | decide | exact hca | exact hM | (rw [hM]; decide)) g_b2 g_lv_13 g_sn_13 ne_b2_lv_13 ne_b2_sn_13 P13_20) hZ (hw _ (List.mem_of_getElem? (i := 41) rfl)) (hw _ (List.mem_of_getElem? (i := 2) rfl)) (by decide) (by decide)) q44a q44c (g := (mkF m 80 #[.val (.int p0), .val (.int p1), .val (.int (v_a p0)), .val (.long (v_ca p0)), .second, .val (.int (v_b p0)), .val (.long (v_cb p0)), .second, .val (.int (v_pop p0)), .val (.int (v_c p1)), .val (.long (v_cc p1)), .second, .val (.ref b2), .val (.int (1 : Int32)), .unset, .unset, .unset, .unset, .unset, .unset, .unset] [(.long (v_ca p0)), (.int (v_a p0)), (.ref b2)])) rfl (by rw [hml]; rfl) (Steps.refl _) (argsL := [(.int (v_a p0)), (.long (v_ca p0))]) (rest := []) (lenOf pd_1 rfl) rfl (by show 2 * 0 + _ ≤ _; exact Nat.le_of_eq rfl) (hb hby at_80) (fun _ _ => ⟨rfl, rfl, (by decide : 5 + 0 ≤ _), (by decide : 62 + 0 ≤ _)⟩)
      dsimp only [Pt.U, Pt.locs, Pt.cells, Pt.slots] at X44 l44 y44 z44 st44 hQ44
      subst l44 y44 z44
      obtain ⟨rfl, N44q, K44q, F44_0, F44_1, F44_2, F44_3, F44_4, F44_5, F44_6, F44_7, F44_8, F44_9, V44_10, V44_11⟩ := hQ44
      have N44 := Fr.app N15 N44q
      have E45q : Exa Z T44.heap b2 "com/example/nearpath/nearpath/answer/Frontier" := E16q.keep K44q
      have V46 : Ary Z T44.heap hc_13 .long 16 (lts (fun _ => (0 : Int64))) := V18.keep K44q (ninS (Ne.symm ne_b2_hc_13) (ninS (Ne.symm P13_18) (ninS P13_22 nin0)))
      have V47 : Ary Z T44.heap hi_13 .int 16 (bts (fun _ => (0 : Int32))) := V19.keep K44q (ninS (Ne.symm ne_b2_hi_13) (ninS (Ne.symm P13_19) (ninS P13_23 nin0)))
      have K44 : Keep h0 T44.heap [] := K15.trans K44q (allS (Or.inr sz_b2) (allS (Or.inr sz_lv_13) (allS (Or.inr sz_sn_13) all0)))
      refine Go.st (mkF m 83 #[.val (.int p0), .val (.int p1), .val (.int (v_a p0)), .val (.long (v_ca p0)), .second, .val (.int (v_b p0)), .val (.long (v_cb p0)), .second, .val (.int (v_pop p0)), .val (.int (v_c p1)), .val (.long (v_cc p1)), .second, .val (.ref b2), .val (.int (1 : Int32)), .unset, .unset, .unset, .unset, .unset, .unset, .unset] []) (fun _ k => st44.trans k) ?_
      by_cases hab : (v_b p0) = (v_a p0)
      ·
        have hBA : ((v_b p0).toNatClampNeg) = ((v_a p0).toNatClampNeg) := congrArg Int32.toNatClampNeg hab
        have hM : ((updI (fun _ => (0 : Int32)) ((v_a p0).toNatClampNeg) (1 : Int32)) ((v_b p0).toNatClampNeg)) = (1 : Int32) := own_us hBA
        refine Go.st (mkF m 85 #[.val (.int p0), .val (.int p1), .val (.int (v_a p0)), .val (.long (v_ca p0)), .second, .val (.int (v_b p0)), .val (.long (v_cb p0)), .second, .val (.int (v_pop p0)), .val (.int (v_c p1)), .val (.long (v_cc p1)), .second, .val (.ref b2), .val (.int (1 : Int32)), .unset, .unset, .unset, .unset, .unset, .unset, .unset] [(.ref b2)]) (fun _ k => XS.aload X44.here hx rfl (hb hby at_83) rfl rfl k) ?_
        refine Go.st (mkF m 87 #[.val (.int p0), .val (.int p1), .val (.int (v_a p0)), .val (.long (v_ca p0)), .second, .val (.int (v_b p0)), .val (.long (v_cb p0)), .second, .val (.int (v_pop p0)), .val (.int (v_c p1)), .val (.long (v_cc p1)), .second, .val (.ref b2), .val (.int (1 : Int32)), .unset, .unset, .unset, .unset, .unset, .unset, .unset] [(.int (v_b p0)), (.ref b2)]) (fun _ k => XS.iload X44.here hx rfl (hb hby at_85) rfl k) ?_
        refine Go.st (mkF m 89 #[.val (.int p0), .val (.int p1), .val (.int (v_a p0)), .val (.long (v_ca p0)), .second, .val (.int (v_b p0)), .val (.long (v_cb p0)), .second, .val (.int (v_pop p0)), .val (.int (v_c p1)), .val (.long (v_cc p1)), .second, .val (.ref b2), .val (.int (1 : Int32)), .unset, .unset, .unset, .unset, .unset, .unset, .unset] [(.long (v_cb p0)), (.int (v_b p0)), (.ref b2)]) (fun _ k => XT.lload X44.here hx rfl (hb hby at_87) rfl k) ?_
        obtain ⟨cq48, kq48, q48a, q48b, q48c⟩ := isOf hZ rfl E45q
        obtain ⟨_, _, ⟨T48, L48, k48, n48⟩, -, X48, ⟨Lc48, hQ48, l48, y48, z48⟩, st48⟩ := X44.virtualBack hx (y := (⟨"com/example/nearpath/nearpath/answer/Frontier", "reach", "(IJ)V"⟩ : MethodName)) (z := (⟨"com/example/nearpath/nearpath/answer/Frontier", "reach", "(IJ)V"⟩ : MethodName)) hown (mvT hZ (hw _ (List.mem_of_getElem? (i := 37) rfl))) (mvT hZ (hw _ (List.mem_of_getElem? (i := 38) rfl))) (notFace_of_selects (args := #[]) (mvT hZ (hw _ (List.mem_of_getElem? (i := 40) rfl)))) (mvT hZ (hw _ (List.mem_of_getElem? (i := 40) rfl))) (mvT hZ (hw _ (List.mem_of_getElem? (i := 39) rfl))) (by decide) (backOf (W := 0) (rm_r1 l Z a0 hw [] b2 (v_b p0) (v_cb p0) lv_13 hc_13 hi_13 sn_13 (1 : Int32) (0 : Int64) (0 : Int32) (1 : Int32) (0 : Int32) (updI (fun _ => (0 : Int32)) ((v_a p0).toNatClampNeg) (1 : Int32)) T44.heap n0 (Nat.le_trans Z0 K44.1) E45q F44_0 F44_1 F44_2 F44_3 F44_4 F44_5 F44_6 F44_7 F44_8 F44_9 V44_11 (by first | exact own_va p0 | exact own_vb p0 | exact own_vc p1) (by first | exact own_ca p0 | exact own_cb p0 | exact own_cc p1) (by first | decide | exact hM | (rw [hM]; decide))) hZ (hw _ (List.mem_of_getElem? (i := 41) rfl)) (hw _ (List.mem_of_getElem? (i := 2) rfl)) (by decide) (by decide)) q48a q48c (g := (mkF m 89 #[.val (.int p0), .val (.int p1), .val (.int (v_a p0)), .val (.long (v_ca p0)), .second, .val (.int (v_b p0)), .val (.long (v_cb p0)), .second, .val (.int (v_pop p0)), .val (.int (v_c p1)), .val (.long (v_cc p1)), .second, .val (.ref b2), .val (.int (1 : Int32)), .unset, .unset, .unset, .unset, .unset, .unset, .unset] [(.long (v_cb p0)), (.int (v_b p0)), (.ref b2)])) rfl (by rw [hml]; rfl) (Steps.refl _) (argsL := [(.int (v_b p0)), (.long (v_cb p0))]) (rest := []) (lenOf pd_1 rfl) rfl (by show 2 * 0 + _ ≤ _; exact Nat.le_of_eq rfl) (hb hby at_89) (fun _ _ => ⟨rfl, rfl, (by decide : 5 + 0 ≤ _), (by decide : 62 + 0 ≤ _)⟩)
        dsimp only [Pt.U, Pt.locs, Pt.cells, Pt.slots] at X48 l48 y48 z48 st48 hQ48
        subst l48 y48 z48
        obtain ⟨rfl, N48q, e48⟩ := hQ48
        have N48 := Fr.app N44 N48q
        refine Go.st (mkF m 92 #[.val (.int p0), .val (.int p1), .val (.int (v_a p0)), .val (.long (v_ca p0)), .second, .val (.int (v_b p0)), .val (.long (v_cb p0)), .second, .val (.int (v_pop p0)), .val (.int (v_c p1)), .val (.long (v_cc p1)), .second, .val (.ref b2), .val (.int (1 : Int32)), .unset, .unset, .unset, .unset, .unset, .unset, .unset] []) (fun _ k => st48.trans k) ?_
        refine Go.st (mkF m 94 #[.val (.int p0), .val (.int p1), .val (.int (v_a p0)), .val (.long (v_ca p0)), .second, .val (.int (v_b p0)), .val (.long (v_cb p0)), .second, .val (.int (v_pop p0)), .val (.int (v_c p1)), .val (.long (v_cc p1)), .second, .val (.ref b2), .val (.int (1 : Int32)), .unset, .unset, .unset, .unset, .unset, .unset, .unset] [(.int (v_pop p0))]) (fun _ k => XS.iload X48.here hx rfl (hb hby at_92) rfl k) ?_
        by_cases hc94_49 : (v_pop p0) = (0 : Int32)
        ·
          refine Go.st (mkF m 103 #[.val (.int p0), .val (.int p1), .val (.int (v_a p0)), .val (.long (v_ca p0)), .second, .val (.int (v_b p0)), .val (.long (v_cb p0)), .second, .val (.int (v_pop p0)), .val (.int (v_c p1)), .val (.long (v_cc p1)), .second, .val (.ref b2), .val (.int (1 : Int32)), .unset, .unset, .unset, .unset, .unset, .unset, .unset] []) (fun _ k => XS.ifYes X48.here hx rfl (pc0 := 94) (pc' := 103) rfl (hb hby at_94) rfl ((if0 _ _).trans (teq hc94_49).1) (by decide) (by decide) k) ?_
          refine Go.st (mkF m 105 #[.val (.int p0), .val (.int p1), .val (.int (v_a p0)), .val (.long (v_ca p0)), .second, .val (.int (v_b p0)), .val (.long (v_cb p0)), .second, .val (.int (v_pop p0)), .val (.int (v_c p1)), .val (.long (v_cc p1)), .second, .val (.ref b2), .val (.int (1 : Int32)), .unset, .unset, .unset, .unset, .unset, .unset, .unset] [(.ref b2)]) (fun _ k => XS.aload X48.here hx rfl (hb hby at_103) rfl rfl k) ?_
          obtain ⟨cq50, kq50, q50a, q50b, q50c⟩ := isOf hZ e48 E45q
          obtain ⟨_, _, ⟨T50, L50, k50, n50⟩, -, X50, ⟨Lc50, hQ50, l50, y50, z50⟩, st50⟩ := X48.virtualBack hx (y := (⟨"com/example/nearpath/nearpath/answer/Frontier", "startSearch", "()I"⟩ : MethodName)) (z := (⟨"com/example/nearpath/nearpath/answer/Frontier", "startSearch", "()I"⟩ : MethodName)) hown (mvT hZ (hw _ (List.mem_of_getElem? (i := 22) rfl))) (mvT hZ (hw _ (List.mem_of_getElem? (i := 23) rfl))) (notFace_of_selects (args := #[]) (mvT hZ (hw _ (List.mem_of_getElem? (i := 25) rfl)))) (mvT hZ (hw _ (List.mem_of_getElem? (i := 25) rfl))) (mvT hZ (hw _ (List.mem_of_getElem? (i := 24) rfl))) (by decide) (backOf (W := 0) (rm_ss0 l Z a0 hw [] b2 lv_13 hc_13 hi_13 sn_13 (1 : Int32) (0 : Int64) (0 : Int32) (1 : Int32) (fun _ => (0 : Int32)) (updI (fun _ => (0 : Int32)) ((v_a p0).toNatClampNeg) (1 : Int32)) T44.heap n0 (Nat.le_trans Z0 K44.1) E45q F44_0 F44_1 F44_2 F44_3 F44_4 F44_5 F44_6 F44_7 F44_8 F44_9 V47 V44_11 g_b2 g_sn_13 ne_b2_hi_13 ne_b2_sn_13 P13_23) hZ (hw _ (List.mem_of_getElem? (i := 26) rfl)) (hw _ (List.mem_of_getElem? (i := 2) rfl)) (by decide) (by decide)) q50a q50c (g := (mkF m 105 #[.val (.int p0), .val (.int p1), .val (.int (v_a p0)), .val (.long (v_ca p0)), .second, .val (.int (v_b p0)), .val (.long (v_cb p0)), .second, .val (.int (v_pop p0)), .val (.int (v_c p1)), .val (.long (v_cc p1)), .second, .val (.ref b2), .val (.int (1 : Int32)), .unset, .unset, .unset, .unset, .unset, .unset, .unset] [(.ref b2)])) rfl (by rw [hml]; rfl) (Steps.refl _) (argsL := []) (rest := []) (lenOf pd_3 rfl) rfl (by show 2 * 0 + _ ≤ _; exact Nat.le_of_eq rfl) (hb hby at_105) (fun _ _ => ⟨rfl, e48, (by decide : 5 + 0 ≤ _), (by decide : 62 + 0 ≤ _)⟩)
          dsimp only [Pt.U, Pt.locs, Pt.cells, Pt.slots] at X50 l50 y50 z50 st50 hQ50
          subst l50 y50 z50
          obtain ⟨rfl, N50q, K50q, F50_0, F50_1, F50_2, F50_3, F50_4, F50_5, F50_6, F50_7, F50_8, F50_9⟩ := hQ50
          have N50 := Fr.app N48 N50q
          have E51q : Exa Z T50.heap b2 "com/example/nearpath/nearpath/answer/Frontier" := E45q.keep K50q
          have V52 : Ary Z T50.heap hc_13 .long 16 (lts (fun _ => (0 : Int64))) := V46.keep K50q (ninS (Ne.symm ne_b2_hc_13) nin0)
          have V53 : Ary Z T50.heap hi_13 .int 16 (bts (fun _ => (0 : Int32))) := V47.keep K50q (ninS (Ne.symm ne_b2_hi_13) nin0)
          have V54 : Ary Z T50.heap lv_13 .int 16 (bts (updI (fun _ => (0 : Int32)) 0 (v_a p0))) := V44_10.keep K50q (ninS (Ne.symm ne_b2_lv_13) nin0)
          have V55 : Ary Z T50.heap sn_13 .int 4 (bts (updI (fun _ => (0 : Int32)) ((v_a p0).toNatClampNeg) (1 : Int32))) := V44_11.keep K50q (ninS (Ne.symm ne_b2_sn_13) nin0)
          have K50 : Keep h0 T50.heap [] := K44.trans K50q (allS (Or.inr sz_b2) all0)
          refine Go.st (mkF m 108 #[.val (.int p0), .val (.int p1), .val (.int (v_a p0)), .val (.long (v_ca p0)), .second, .val (.int (v_b p0)), .val (.long (v_cb p0)), .second, .val (.int (v_pop p0)), .val (.int (v_c p1)), .val (.long (v_cc p1)), .second, .val (.ref b2), .val (.int (1 : Int32)), .unset, .unset, .unset, .unset, .unset, .unset, .unset] [(.int (2 : Int32))]) (fun _ k => st50.trans k) ?_
          have HG : ∀ j, j < 4 → (updI (fun _ => (0 : Int32)) ((v_a p0).toNatClampNeg) (1 : Int32)) j = (0 : Int32) ∨ (updI (fun _ => (0 : Int32)) ((v_a p0).toNatClampNeg) (1 : Int32)) j = (1 : Int32) := by
            intro j hj
            show (updI (fun _ => (0 : Int32)) ((v_a p0).toNatClampNeg) (1 : Int32)) j = (0 : Int32) ∨ (updI (fun _ => (0 : Int32)) ((v_a p0).toNatClampNeg) (1 : Int32)) j = (1 : Int32)
            exact own_hgE (A := ((v_a p0).toNatClampNeg)) (B := ((v_b p0).toNatClampNeg)) hBA (fun A_ B_ j => (updI (fun _ => (0 : Int32)) A_ (1 : Int32)) j) (by intro A_ B_ j h1; unfold updI; by_cases q1 : j = A_ <;> by_cases q2 : j = B_ <;> first | (simp only [if_pos q1, if_pos q2]; decide) | (simp only [if_pos q1, if_neg q2]; decide) | (simp only [if_neg q1, if_pos q2]; decide) | (simp only [if_neg q1, if_neg q2]; decide) | (exfalso; omega))
          exact JL _ _ _ (updI (fun _ => (0 : Int32)) 0 (v_a p0)) (fun _ => (0 : Int64)) (fun _ => (0 : Int32)) (updI (fun _ => (0 : Int32)) ((v_a p0).toNatClampNeg) (1 : Int32)) X50 rfl N50 K50 HG E51q V54 V52 V53 V55 F50_0 F50_1 F50_2 F50_3 F50_4 F50_5 F50_6 F50_7 F50_8 F50_9
        ·
          refine Go.st (mkF m 97 #[.val (.int p0), .val (.int p1), .val (.int (v_a p0)), .val (.long (v_ca p0)), .second, .val (.int (v_b p0)), .val (.long (v_cb p0)), .second, .val (.int (v_pop p0)), .val (.int (v_c p1)), .val (.long (v_cc p1)), .second, .val (.ref b2), .val (.int (1 : Int32)), .unset, .unset, .unset, .unset, .unset, .unset, .unset] []) (fun _ k => XS.ifNo X48.here hx rfl (hb hby at_94) rfl ((if0 _ _).trans (feq hc94_49).1) k) ?_
          refine Go.st (mkF m 99 #[.val (.int p0), .val (.int p1), .val (.int (v_a p0)), .val (.long (v_ca p0)), .second, .val (.int (v_b p0)), .val (.long (v_cb p0)), .second, .val (.int (v_pop p0)), .val (.int (v_c p1)), .val (.long (v_cc p1)), .second, .val (.ref b2), .val (.int (1 : Int32)), .unset, .unset, .unset, .unset, .unset, .unset, .unset] [(.ref b2)]) (fun _ k => XS.aload X48.here hx rfl (hb hby at_97) rfl rfl k) ?_
          obtain ⟨cq56, kq56, q56a, q56b, q56c⟩ := isOf hZ e48 E45q
          obtain ⟨_, _, ⟨T56, L56, k56, n56⟩, -, X56, ⟨Lc56, hQ56, l56, y56, z56⟩, st56⟩ := X48.virtualBack hx (y := (⟨"com/example/nearpath/nearpath/answer/Frontier", "next", "()I"⟩ : MethodName)) (z := (⟨"com/example/nearpath/nearpath/answer/Frontier", "next", "()I"⟩ : MethodName)) hown (mvT hZ (hw _ (List.mem_of_getElem? (i := 45) rfl))) (mvT hZ (hw _ (List.mem_of_getElem? (i := 46) rfl))) (notFace_of_selects (args := #[]) (mvT hZ (hw _ (List.mem_of_getElem? (i := 48) rfl)))) (mvT hZ (hw _ (List.mem_of_getElem? (i := 48) rfl))) (mvT hZ (hw _ (List.mem_of_getElem? (i := 47) rfl))) (by decide) (backOf (W := 0) (rm_n1 l Z a0 hw [] b2 lv_13 hc_13 hi_13 sn_13 (1 : Int32) (0 : Int64) (1 : Int32) (0 : Int32) (updI (fun _ => (0 : Int32)) 0 (v_a p0)) T44.heap n0 (Nat.le_trans Z0 K44.1) E45q F44_0 F44_1 F44_2 F44_3 F44_4 F44_5 F44_6 F44_7 F44_8 F44_9 V44_10 (by first | decide | exact hM | (rw [hM]; decide)) g_b2 ne_b2_lv_13) hZ (hw _ (List.mem_of_getElem? (i := 49) rfl)) (hw _ (List.mem_of_getElem? (i := 2) rfl)) (by decide) (by decide)) q56a q56c (g := (mkF m 99 #[.val (.int p0), .val (.int p1), .val (.int (v_a p0)), .val (.long (v_ca p0)), .second, .val (.int (v_b p0)), .val (.long (v_cb p0)), .second, .val (.int (v_pop p0)), .val (.int (v_c p1)), .val (.long (v_cc p1)), .second, .val (.ref b2), .val (.int (1 : Int32)), .unset, .unset, .unset, .unset, .unset, .unset, .unset] [(.ref b2)])) rfl (by rw [hml]; rfl) (Steps.refl _) (argsL := []) (rest := []) (lenOf pd_3 rfl) rfl (by show 2 * 0 + _ ≤ _; exact Nat.le_of_eq rfl) (hb hby at_99) (fun _ _ => ⟨rfl, e48, (by decide : 5 + 0 ≤ _), (by decide : 62 + 0 ≤ _)⟩)
          dsimp only [Pt.U, Pt.locs, Pt.cells, Pt.slots] at X56 l56 y56 z56 st56 hQ56
          subst l56 y56 z56
          obtain ⟨rfl, N56q, K56q, F56_0, F56_1, F56_2, F56_3, F56_4, F56_5, F56_6, F56_7, F56_8, F56_9⟩ := hQ56
          have N56 := Fr.app N48 N56q
          have E57q : Exa Z T56.heap b2 "com/example/nearpath/nearpath/answer/Frontier" := E45q.keep K56q
          have V58 : Ary Z T56.heap hc_13 .long 16 (lts (fun _ => (0 : Int64))) := V46.keep K56q (ninS (Ne.symm ne_b2_hc_13) nin0)
          have V59 : Ary Z T56.heap hi_13 .int 16 (bts (fun _ => (0 : Int32))) := V47.keep K56q (ninS (Ne.symm ne_b2_hi_13) nin0)
          have V60 : Ary Z T56.heap lv_13 .int 16 (bts (updI (fun _ => (0 : Int32)) 0 (v_a p0))) := V44_10.keep K56q (ninS (Ne.symm ne_b2_lv_13) nin0)
          have V61 : Ary Z T56.heap sn_13 .int 4 (bts (updI (fun _ => (0 : Int32)) ((v_a p0).toNatClampNeg) (1 : Int32))) := V44_11.keep K56q (ninS (Ne.symm ne_b2_sn_13) nin0)
          have K56 : Keep h0 T56.heap [] := K44.trans K56q (allS (Or.inr sz_b2) all0)
          refine Go.st (mkF m 102 #[.val (.int p0), .val (.int p1), .val (.int (v_a p0)), .val (.long (v_ca p0)), .second, .val (.int (v_b p0)), .val (.long (v_cb p0)), .second, .val (.int (v_pop p0)), .val (.int (v_c p1)), .val (.long (v_cc p1)), .second, .val (.ref b2), .val (.int (1 : Int32)), .unset, .unset, .unset, .unset, .unset, .unset, .unset] [(.int ((updI (fun _ => (0 : Int32)) 0 (v_a p0)) 0))]) (fun _ k => st56.trans k) ?_
          refine Go.st (mkF m 103 #[.val (.int p0), .val (.int p1), .val (.int (v_a p0)), .val (.long (v_ca p0)), .second, .val (.int (v_b p0)), .val (.long (v_cb p0)), .second, .val (.int (v_pop p0)), .val (.int (v_c p1)), .val (.long (v_cc p1)), .second, .val (.ref b2), .val (.int (1 : Int32)), .unset, .unset, .unset, .unset, .unset, .unset, .unset] []) (fun _ k => XT.pop X56.here hx rfl (hb hby at_102) rfl rfl k) ?_
          refine Go.st (mkF m 105 #[.val (.int p0), .val (.int p1), .val (.int (v_a p0)), .val (.long (v_ca p0)), .second, .val (.int (v_b p0)), .val (.long (v_cb p0)), .second, .val (.int (v_pop p0)), .val (.int (v_c p1)), .val (.long (v_cc p1)), .second, .val (.ref b2), .val (.int (1 : Int32)), .unset, .unset, .unset, .unset, .unset, .unset, .unset] [(.ref b2)]) (fun _ k => XS.aload X56.here hx rfl (hb hby at_103) rfl rfl k) ?_
          obtain ⟨cq62, kq62, q62a, q62b, q62c⟩ := isOf hZ rfl E57q
          obtain ⟨_, _, ⟨T62, L62, k62, n62⟩, -, X62, ⟨Lc62, hQ62, l62, y62, z62⟩, st62⟩ := X56.virtualBack hx (y := (⟨"com/example/nearpath/nearpath/answer/Frontier", "startSearch", "()I"⟩ : MethodName)) (z := (⟨"com/example/nearpath/nearpath/answer/Frontier", "startSearch", "()I"⟩ : MethodName)) hown (mvT hZ (hw _ (List.mem_of_getElem? (i := 22) rfl))) (mvT hZ (hw _ (List.mem_of_getElem? (i := 23) rfl))) (notFace_of_selects (args := #[]) (mvT hZ (hw _ (List.mem_of_getElem? (i := 25) rfl)))) (mvT hZ (hw _ (List.mem_of_getElem? (i := 25) rfl))) (mvT hZ (hw _ (List.mem_of_getElem? (i := 24) rfl))) (by decide) (backOf (W := 0) (rm_ss0 l Z a0 hw [] b2 lv_13 hc_13 hi_13 sn_13 (1 : Int32) (0 : Int64) (1 : Int32) (1 : Int32) (fun _ => (0 : Int32)) (updI (fun _ => (0 : Int32)) ((v_a p0).toNatClampNeg) (1 : Int32)) T56.heap n0 (Nat.le_trans Z0 K56.1) E57q F56_0 F56_1 F56_2 F56_3 F56_4 F56_5 F56_6 F56_7 F56_8 F56_9 V59 V61 g_b2 g_sn_13 ne_b2_hi_13 ne_b2_sn_13 P13_23) hZ (hw _ (List.mem_of_getElem? (i := 26) rfl)) (hw _ (List.mem_of_getElem? (i := 2) rfl)) (by decide) (by decide)) q62a q62c (g := (mkF m 105 #[.val (.int p0), .val (.int p1), .val (.int (v_a p0)), .val (.long (v_ca p0)), .second, .val (.int (v_b p0)), .val (.long (v_cb p0)), .second, .val (.int (v_pop p0)), .val (.int (v_c p1)), .val (.long (v_cc p1)), .second, .val (.ref b2), .val (.int (1 : Int32)), .unset, .unset, .unset, .unset, .unset, .unset, .unset] [(.ref b2)])) rfl (by rw [hml]; rfl) (Steps.refl _) (argsL := []) (rest := []) (lenOf pd_3 rfl) rfl (by show 2 * 0 + _ ≤ _; exact Nat.le_of_eq rfl) (hb hby at_105) (fun _ _ => ⟨rfl, rfl, (by decide : 5 + 0 ≤ _), (by decide : 62 + 0 ≤ _)⟩)
          dsimp only [Pt.U, Pt.locs, Pt.cells, Pt.slots] at X62 l62 y62 z62 st62 hQ62
          subst l62 y62 z62
          obtain ⟨rfl, N62q, K62q, F62_0, F62_1, F62_2, F62_3, F62_4, F62_5, F62_6, F62_7, F62_8, F62_9⟩ := hQ62
          have N62 := Fr.app N56 N62q
          have E63q : Exa Z T62.heap b2 "com/example/nearpath/nearpath/answer/Frontier" := E57q.keep K62q
          have V64 : Ary Z T62.heap hc_13 .long 16 (lts (fun _ => (0 : Int64))) := V58.keep K62q (ninS (Ne.symm ne_b2_hc_13) nin0)
          have V65 : Ary Z T62.heap hi_13 .int 16 (bts (fun _ => (0 : Int32))) := V59.keep K62q (ninS (Ne.symm ne_b2_hi_13) nin0)
          have V66 : Ary Z T62.heap lv_13 .int 16 (bts (updI (fun _ => (0 : Int32)) 0 (v_a p0))) := V60.keep K62q (ninS (Ne.symm ne_b2_lv_13) nin0)
          have V67 : Ary Z T62.heap sn_13 .int 4 (bts (updI (fun _ => (0 : Int32)) ((v_a p0).toNatClampNeg) (1 : Int32))) := V61.keep K62q (ninS (Ne.symm ne_b2_sn_13) nin0)
          have K62 : Keep h0 T62.heap [] := K56.trans K62q (allS (Or.inr sz_b2) all0)
          refine Go.st (mkF m 108 #[.val (.int p0), .val (.int p1), .val (.int (v_a p0)), .val (.long (v_ca p0)), .second, .val (.int (v_b p0)), .val (.long (v_cb p0)), .second, .val (.int (v_pop p0)), .val (.int (v_c p1)), .val (.long (v_cc p1)), .second, .val (.ref b2), .val (.int (1 : Int32)), .unset, .unset, .unset, .unset, .unset, .unset, .unset] [(.int (2 : Int32))]) (fun _ k => st62.trans k) ?_
          have HG : ∀ j, j < 4 → (updI (fun _ => (0 : Int32)) ((v_a p0).toNatClampNeg) (1 : Int32)) j = (0 : Int32) ∨ (updI (fun _ => (0 : Int32)) ((v_a p0).toNatClampNeg) (1 : Int32)) j = (1 : Int32) := by
            intro j hj
            show (updI (fun _ => (0 : Int32)) ((v_a p0).toNatClampNeg) (1 : Int32)) j = (0 : Int32) ∨ (updI (fun _ => (0 : Int32)) ((v_a p0).toNatClampNeg) (1 : Int32)) j = (1 : Int32)
            exact own_hgE (A := ((v_a p0).toNatClampNeg)) (B := ((v_b p0).toNatClampNeg)) hBA (fun A_ B_ j => (updI (fun _ => (0 : Int32)) A_ (1 : Int32)) j) (by intro A_ B_ j h1; unfold updI; by_cases q1 : j = A_ <;> by_cases q2 : j = B_ <;> first | (simp only [if_pos q1, if_pos q2]; decide) | (simp only [if_pos q1, if_neg q2]; decide) | (simp only [if_neg q1, if_pos q2]; decide) | (simp only [if_neg q1, if_neg q2]; decide) | (exfalso; omega))
          exact JL _ _ _ (updI (fun _ => (0 : Int32)) 0 (v_a p0)) (fun _ => (0 : Int64)) (fun _ => (0 : Int32)) (updI (fun _ => (0 : Int32)) ((v_a p0).toNatClampNeg) (1 : Int32)) X62 rfl N62 K62 HG E63q V66 V64 V65 V67 F62_0 F62_1 F62_2 F62_3 F62_4 F62_5 F62_6 F62_7 F62_8 F62_9
      ·
        have hBA : ¬ ((v_b p0).toNatClampNeg) = ((v_a p0).toNatClampNeg) := own_tne (own_vb p0) (own_va p0) hab
        have hM : ((updI (fun _ => (0 : Int32)) ((v_a p0).toNatClampNeg) (1 : Int32)) ((v_b p0).toNatClampNeg)) = (0 : Int32) := own_up hBA
        by_cases hcb : (v_cb p0) = (0 : Int64)
        ·
          refine Go.st (mkF m 85 #[.val (.int p0), .val (.int p1), .val (.int (v_a p0)), .val (.long (v_ca p0)), .second, .val (.int (v_b p0)), .val (.long (v_cb p0)), .second, .val (.int (v_pop p0)), .val (.int (v_c p1)), .val (.long (v_cc p1)), .second, .val (.ref b2), .val (.int (1 : Int32)), .unset, .unset, .unset, .unset, .unset, .unset, .unset] [(.ref b2)]) (fun _ k => XS.aload X44.here hx rfl (hb hby at_83) rfl rfl k) ?_
          refine Go.st (mkF m 87 #[.val (.int p0), .val (.int p1), .val (.int (v_a p0)), .val (.long (v_ca p0)), .second, .val (.int (v_b p0)), .val (.long (v_cb p0)), .second, .val (.int (v_pop p0)), .val (.int (v_c p1)), .val (.long (v_cc p1)), .second, .val (.ref b2), .val (.int (1 : Int32)), .unset, .unset, .unset, .unset, .unset, .unset, .unset] [(.int (v_b p0)), (.ref b2)]) (fun _ k => XS.iload X44.here hx rfl (hb hby at_85) rfl k) ?_
          refine Go.st (mkF m 89 #[.val (.int p0), .val (.int p1), .val (.int (v_a p0)), .val (.long (v_ca p0)), .second, .val (.int (v_b p0)), .val (.long (v_cb p0)), .second, .val (.int (v_pop p0)), .val (.int (v_c p1)), .val (.long (v_cc p1)), .second, .val (.ref b2), .val (.int (1 : Int32)), .unset, .unset, .unset, .unset, .unset, .unset, .unset] [(.long (v_cb p0)), (.int (v_b p0)), (.ref b2)]) (fun _ k => XT.lload X44.here hx rfl (hb hby at_87) rfl k) ?_
          obtain ⟨cq68, kq68, q68a, q68b, q68c⟩ := isOf hZ rfl E45q
          obtain ⟨_, _, ⟨T68, L68, k68, n68⟩, -, X68, ⟨Lc68, hQ68, l68, y68, z68⟩, st68⟩ := X44.virtualBack hx (y := (⟨"com/example/nearpath/nearpath/answer/Frontier", "reach", "(IJ)V"⟩ : MethodName)) (z := (⟨"com/example/nearpath/nearpath/answer/Frontier", "reach", "(IJ)V"⟩ : MethodName)) hown (mvT hZ (hw _ (List.mem_of_getElem? (i := 37) rfl))) (mvT hZ (hw _ (List.mem_of_getElem? (i := 38) rfl))) (notFace_of_selects (args := #[]) (mvT hZ (hw _ (List.mem_of_getElem? (i := 40) rfl)))) (mvT hZ (hw _ (List.mem_of_getElem? (i := 40) rfl))) (mvT hZ (hw _ (List.mem_of_getElem? (i := 39) rfl))) (by decide) (backOf (W := 0) (rm_r41 l Z a0 hw [] b2 (v_b p0) (v_cb p0) lv_13 hc_13 hi_13 sn_13 (1 : Int32) (0 : Int64) (0 : Int32) (0 : Int32) (updI (fun _ => (0 : Int32)) 0 (v_a p0)) (updI (fun _ => (0 : Int32)) ((v_a p0).toNatClampNeg) (1 : Int32)) T44.heap n0 (Nat.le_trans Z0 K44.1) E45q F44_0 F44_1 F44_2 F44_3 F44_4 F44_5 F44_6 F44_7 F44_8 F44_9 V44_11 V44_10 (by first | exact own_va p0 | exact own_vb p0 | exact own_vc p1) (by first | exact own_ca p0 | exact own_cb p0 | exact own_cc p1) (by first | decide | exact hcb | exact hM | (rw [hM]; decide)) (by first | decide | exact hcb | exact hM | (rw [hM]; decide)) (by first | decide | exact hcb | exact hM | (rw [hM]; decide)) g_b2 g_lv_13 g_sn_13 ne_b2_lv_13 ne_b2_sn_13 P13_20) hZ (hw _ (List.mem_of_getElem? (i := 41) rfl)) (hw _ (List.mem_of_getElem? (i := 2) rfl)) (by decide) (by decide)) q68a q68c (g := (mkF m 89 #[.val (.int p0), .val (.int p1), .val (.int (v_a p0)), .val (.long (v_ca p0)), .second, .val (.int (v_b p0)), .val (.long (v_cb p0)), .second, .val (.int (v_pop p0)), .val (.int (v_c p1)), .val (.long (v_cc p1)), .second, .val (.ref b2), .val (.int (1 : Int32)), .unset, .unset, .unset, .unset, .unset, .unset, .unset] [(.long (v_cb p0)), (.int (v_b p0)), (.ref b2)])) rfl (by rw [hml]; rfl) (Steps.refl _) (argsL := [(.int (v_b p0)), (.long (v_cb p0))]) (rest := []) (lenOf pd_1 rfl) rfl (by show 2 * 0 + _ ≤ _; exact Nat.le_of_eq rfl) (hb hby at_89) (fun _ _ => ⟨rfl, rfl, (by decide : 5 + 0 ≤ _), (by decide : 62 + 0 ≤ _)⟩)
          dsimp only [Pt.U, Pt.locs, Pt.cells, Pt.slots] at X68 l68 y68 z68 st68 hQ68
          subst l68 y68 z68
          obtain ⟨rfl, N68q, K68q, F68_0, F68_1, F68_2, F68_3, F68_4, F68_5, F68_6, F68_7, F68_8, F68_9, V68_10, V68_11⟩ := hQ68
          have N68 := Fr.app N44 N68q
          have E69q : Exa Z T68.heap b2 "com/example/nearpath/nearpath/answer/Frontier" := E45q.keep K68q
          have V70 : Ary Z T68.heap hc_13 .long 16 (lts (fun _ => (0 : Int64))) := V46.keep K68q (ninS (Ne.symm ne_b2_hc_13) (ninS (Ne.symm P13_18) (ninS P13_22 nin0)))
          have V71 : Ary Z T68.heap hi_13 .int 16 (bts (fun _ => (0 : Int32))) := V47.keep K68q (ninS (Ne.symm ne_b2_hi_13) (ninS (Ne.symm P13_19) (ninS P13_23 nin0)))
          have K68 : Keep h0 T68.heap [] := K44.trans K68q (allS (Or.inr sz_b2) (allS (Or.inr sz_lv_13) (allS (Or.inr sz_sn_13) all0)))
          refine Go.st (mkF m 92 #[.val (.int p0), .val (.int p1), .val (.int (v_a p0)), .val (.long (v_ca p0)), .second, .val (.int (v_b p0)), .val (.long (v_cb p0)), .second, .val (.int (v_pop p0)), .val (.int (v_c p1)), .val (.long (v_cc p1)), .second, .val (.ref b2), .val (.int (1 : Int32)), .unset, .unset, .unset, .unset, .unset, .unset, .unset] []) (fun _ k => st68.trans k) ?_
          refine Go.st (mkF m 94 #[.val (.int p0), .val (.int p1), .val (.int (v_a p0)), .val (.long (v_ca p0)), .second, .val (.int (v_b p0)), .val (.long (v_cb p0)), .second, .val (.int (v_pop p0)), .val (.int (v_c p1)), .val (.long (v_cc p1)), .second, .val (.ref b2), .val (.int (1 : Int32)), .unset, .unset, .unset, .unset, .unset, .unset, .unset] [(.int (v_pop p0))]) (fun _ k => XS.iload X68.here hx rfl (hb hby at_92) rfl k) ?_
          by_cases hc94_72 : (v_pop p0) = (0 : Int32)
          ·
            refine Go.st (mkF m 103 #[.val (.int p0), .val (.int p1), .val (.int (v_a p0)), .val (.long (v_ca p0)), .second, .val (.int (v_b p0)), .val (.long (v_cb p0)), .second, .val (.int (v_pop p0)), .val (.int (v_c p1)), .val (.long (v_cc p1)), .second, .val (.ref b2), .val (.int (1 : Int32)), .unset, .unset, .unset, .unset, .unset, .unset, .unset] []) (fun _ k => XS.ifYes X68.here hx rfl (pc0 := 94) (pc' := 103) rfl (hb hby at_94) rfl ((if0 _ _).trans (teq hc94_72).1) (by decide) (by decide) k) ?_
            refine Go.st (mkF m 105 #[.val (.int p0), .val (.int p1), .val (.int (v_a p0)), .val (.long (v_ca p0)), .second, .val (.int (v_b p0)), .val (.long (v_cb p0)), .second, .val (.int (v_pop p0)), .val (.int (v_c p1)), .val (.long (v_cc p1)), .second, .val (.ref b2), .val (.int (1 : Int32)), .unset, .unset, .unset, .unset, .unset, .unset, .unset] [(.ref b2)]) (fun _ k => XS.aload X68.here hx rfl (hb hby at_103) rfl rfl k) ?_
            obtain ⟨cq73, kq73, q73a, q73b, q73c⟩ := isOf hZ rfl E69q
            obtain ⟨_, _, ⟨T73, L73, k73, n73⟩, -, X73, ⟨Lc73, hQ73, l73, y73, z73⟩, st73⟩ := X68.virtualBack hx (y := (⟨"com/example/nearpath/nearpath/answer/Frontier", "startSearch", "()I"⟩ : MethodName)) (z := (⟨"com/example/nearpath/nearpath/answer/Frontier", "startSearch", "()I"⟩ : MethodName)) hown (mvT hZ (hw _ (List.mem_of_getElem? (i := 22) rfl))) (mvT hZ (hw _ (List.mem_of_getElem? (i := 23) rfl))) (notFace_of_selects (args := #[]) (mvT hZ (hw _ (List.mem_of_getElem? (i := 25) rfl)))) (mvT hZ (hw _ (List.mem_of_getElem? (i := 25) rfl))) (mvT hZ (hw _ (List.mem_of_getElem? (i := 24) rfl))) (by decide) (backOf (W := 0) (rm_ss0 l Z a0 hw [] b2 lv_13 hc_13 hi_13 sn_13 (1 : Int32) (0 : Int64) (0 : Int32) (2 : Int32) (fun _ => (0 : Int32)) (updI (updI (fun _ => (0 : Int32)) ((v_a p0).toNatClampNeg) (1 : Int32)) ((v_b p0).toNatClampNeg) (1 : Int32)) T68.heap n0 (Nat.le_trans Z0 K68.1) E69q F68_0 F68_1 F68_2 F68_3 F68_4 F68_5 F68_6 F68_7 F68_8 F68_9 V71 V68_11 g_b2 g_sn_13 ne_b2_hi_13 ne_b2_sn_13 P13_23) hZ (hw _ (List.mem_of_getElem? (i := 26) rfl)) (hw _ (List.mem_of_getElem? (i := 2) rfl)) (by decide) (by decide)) q73a q73c (g := (mkF m 105 #[.val (.int p0), .val (.int p1), .val (.int (v_a p0)), .val (.long (v_ca p0)), .second, .val (.int (v_b p0)), .val (.long (v_cb p0)), .second, .val (.int (v_pop p0)), .val (.int (v_c p1)), .val (.long (v_cc p1)), .second, .val (.ref b2), .val (.int (1 : Int32)), .unset, .unset, .unset, .unset, .unset, .unset, .unset] [(.ref b2)])) rfl (by rw [hml]; rfl) (Steps.refl _) (argsL := []) (rest := []) (lenOf pd_3 rfl) rfl (by show 2 * 0 + _ ≤ _; exact Nat.le_of_eq rfl) (hb hby at_105) (fun _ _ => ⟨rfl, rfl, (by decide : 5 + 0 ≤ _), (by decide : 62 + 0 ≤ _)⟩)
            dsimp only [Pt.U, Pt.locs, Pt.cells, Pt.slots] at X73 l73 y73 z73 st73 hQ73
            subst l73 y73 z73
            obtain ⟨rfl, N73q, K73q, F73_0, F73_1, F73_2, F73_3, F73_4, F73_5, F73_6, F73_7, F73_8, F73_9⟩ := hQ73
            have N73 := Fr.app N68 N73q
            have E74q : Exa Z T73.heap b2 "com/example/nearpath/nearpath/answer/Frontier" := E69q.keep K73q
            have V75 : Ary Z T73.heap hc_13 .long 16 (lts (fun _ => (0 : Int64))) := V70.keep K73q (ninS (Ne.symm ne_b2_hc_13) nin0)
            have V76 : Ary Z T73.heap hi_13 .int 16 (bts (fun _ => (0 : Int32))) := V71.keep K73q (ninS (Ne.symm ne_b2_hi_13) nin0)
            have V77 : Ary Z T73.heap lv_13 .int 16 (bts (updI (updI (fun _ => (0 : Int32)) 0 (v_a p0)) 1 (v_b p0))) := V68_10.keep K73q (ninS (Ne.symm ne_b2_lv_13) nin0)
            have V78 : Ary Z T73.heap sn_13 .int 4 (bts (updI (updI (fun _ => (0 : Int32)) ((v_a p0).toNatClampNeg) (1 : Int32)) ((v_b p0).toNatClampNeg) (1 : Int32))) := V68_11.keep K73q (ninS (Ne.symm ne_b2_sn_13) nin0)
            have K73 : Keep h0 T73.heap [] := K68.trans K73q (allS (Or.inr sz_b2) all0)
            refine Go.st (mkF m 108 #[.val (.int p0), .val (.int p1), .val (.int (v_a p0)), .val (.long (v_ca p0)), .second, .val (.int (v_b p0)), .val (.long (v_cb p0)), .second, .val (.int (v_pop p0)), .val (.int (v_c p1)), .val (.long (v_cc p1)), .second, .val (.ref b2), .val (.int (1 : Int32)), .unset, .unset, .unset, .unset, .unset, .unset, .unset] [(.int (2 : Int32))]) (fun _ k => st73.trans k) ?_
            have HG : ∀ j, j < 4 → (updI (updI (fun _ => (0 : Int32)) ((v_a p0).toNatClampNeg) (1 : Int32)) ((v_b p0).toNatClampNeg) (1 : Int32)) j = (0 : Int32) ∨ (updI (updI (fun _ => (0 : Int32)) ((v_a p0).toNatClampNeg) (1 : Int32)) ((v_b p0).toNatClampNeg) (1 : Int32)) j = (1 : Int32) := by
              intro j hj
              show (updI (updI (fun _ => (0 : Int32)) ((v_a p0).toNatClampNeg) (1 : Int32)) ((v_b p0).toNatClampNeg) (1 : Int32)) j = (0 : Int32) ∨ (updI (updI (fun _ => (0 : Int32)) ((v_a p0).toNatClampNeg) (1 : Int32)) ((v_b p0).toNatClampNeg) (1 : Int32)) j = (1 : Int32)
              exact own_hgN (A := ((v_a p0).toNatClampNeg)) (B := ((v_b p0).toNatClampNeg)) hBA (fun A_ B_ j => (updI (updI (fun _ => (0 : Int32)) A_ (1 : Int32)) B_ (1 : Int32)) j) (by intro A_ B_ j h1; unfold updI; by_cases q1 : j = A_ <;> by_cases q2 : j = B_ <;> first | (simp only [if_pos q1, if_pos q2]; decide) | (simp only [if_pos q1, if_neg q2]; decide) | (simp only [if_neg q1, if_pos q2]; decide) | (simp only [if_neg q1, if_neg q2]; decide) | (exfalso; omega))
            exact JL _ _ _ (updI (updI (fun _ => (0 : Int32)) 0 (v_a p0)) 1 (v_b p0)) (fun _ => (0 : Int64)) (fun _ => (0 : Int32)) (updI (updI (fun _ => (0 : Int32)) ((v_a p0).toNatClampNeg) (1 : Int32)) ((v_b p0).toNatClampNeg) (1 : Int32)) X73 rfl N73 K73 HG E74q V77 V75 V76 V78 F73_0 F73_1 F73_2 F73_3 F73_4 F73_5 F73_6 F73_7 F73_8 F73_9
          ·
            refine Go.st (mkF m 97 #[.val (.int p0), .val (.int p1), .val (.int (v_a p0)), .val (.long (v_ca p0)), .second, .val (.int (v_b p0)), .val (.long (v_cb p0)), .second, .val (.int (v_pop p0)), .val (.int (v_c p1)), .val (.long (v_cc p1)), .second, .val (.ref b2), .val (.int (1 : Int32)), .unset, .unset, .unset, .unset, .unset, .unset, .unset] []) (fun _ k => XS.ifNo X68.here hx rfl (hb hby at_94) rfl ((if0 _ _).trans (feq hc94_72).1) k) ?_
            refine Go.st (mkF m 99 #[.val (.int p0), .val (.int p1), .val (.int (v_a p0)), .val (.long (v_ca p0)), .second, .val (.int (v_b p0)), .val (.long (v_cb p0)), .second, .val (.int (v_pop p0)), .val (.int (v_c p1)), .val (.long (v_cc p1)), .second, .val (.ref b2), .val (.int (1 : Int32)), .unset, .unset, .unset, .unset, .unset, .unset, .unset] [(.ref b2)]) (fun _ k => XS.aload X68.here hx rfl (hb hby at_97) rfl rfl k) ?_
            obtain ⟨cq79, kq79, q79a, q79b, q79c⟩ := isOf hZ rfl E69q
            obtain ⟨_, _, ⟨T79, L79, k79, n79⟩, -, X79, ⟨Lc79, hQ79, l79, y79, z79⟩, st79⟩ := X68.virtualBack hx (y := (⟨"com/example/nearpath/nearpath/answer/Frontier", "next", "()I"⟩ : MethodName)) (z := (⟨"com/example/nearpath/nearpath/answer/Frontier", "next", "()I"⟩ : MethodName)) hown (mvT hZ (hw _ (List.mem_of_getElem? (i := 45) rfl))) (mvT hZ (hw _ (List.mem_of_getElem? (i := 46) rfl))) (notFace_of_selects (args := #[]) (mvT hZ (hw _ (List.mem_of_getElem? (i := 48) rfl)))) (mvT hZ (hw _ (List.mem_of_getElem? (i := 48) rfl))) (mvT hZ (hw _ (List.mem_of_getElem? (i := 47) rfl))) (by decide) (backOf (W := 0) (rm_n1 l Z a0 hw [] b2 lv_13 hc_13 hi_13 sn_13 (1 : Int32) (0 : Int64) (2 : Int32) (0 : Int32) (updI (updI (fun _ => (0 : Int32)) 0 (v_a p0)) 1 (v_b p0)) T68.heap n0 (Nat.le_trans Z0 K68.1) E69q F68_0 F68_1 F68_2 F68_3 F68_4 F68_5 F68_6 F68_7 F68_8 F68_9 V68_10 (by first | decide | exact hcb | exact hM | (rw [hM]; decide)) g_b2 ne_b2_lv_13) hZ (hw _ (List.mem_of_getElem? (i := 49) rfl)) (hw _ (List.mem_of_getElem? (i := 2) rfl)) (by decide) (by decide)) q79a q79c (g := (mkF m 99 #[.val (.int p0), .val (.int p1), .val (.int (v_a p0)), .val (.long (v_ca p0)), .second, .val (.int (v_b p0)), .val (.long (v_cb p0)), .second, .val (.int (v_pop p0)), .val (.int (v_c p1)), .val (.long (v_cc p1)), .second, .val (.ref b2), .val (.int (1 : Int32)), .unset, .unset, .unset, .unset, .unset, .unset, .unset] [(.ref b2)])) rfl (by rw [hml]; rfl) (Steps.refl _) (argsL := []) (rest := []) (lenOf pd_3 rfl) rfl (by show 2 * 0 + _ ≤ _; exact Nat.le_of_eq rfl) (hb hby at_99) (fun _ _ => ⟨rfl, rfl, (by decide : 5 + 0 ≤ _), (by decide : 62 + 0 ≤ _)⟩)
            dsimp only [Pt.U, Pt.locs, Pt.cells, Pt.slots] at X79 l79 y79 z79 st79 hQ79
            subst l79 y79 z79
            obtain ⟨rfl, N79q, K79q, F79_0, F79_1, F79_2, F79_3, F79_4, F79_5, F79_6, F79_7, F79_8, F79_9⟩ := hQ79
            have N79 := Fr.app N68 N79q
            have E80q : Exa Z T79.heap b2 "com/example/nearpath/nearpath/answer/Frontier" := E69q.keep K79q
            have V81 : Ary Z T79.heap hc_13 .long 16 (lts (fun _ => (0 : Int64))) := V70.keep K79q (ninS (Ne.symm ne_b2_hc_13) nin0)
            have V82 : Ary Z T79.heap hi_13 .int 16 (bts (fun _ => (0 : Int32))) := V71.keep K79q (ninS (Ne.symm ne_b2_hi_13) nin0)
            have V83 : Ary Z T79.heap lv_13 .int 16 (bts (updI (updI (fun _ => (0 : Int32)) 0 (v_a p0)) 1 (v_b p0))) := V68_10.keep K79q (ninS (Ne.symm ne_b2_lv_13) nin0)
            have V84 : Ary Z T79.heap sn_13 .int 4 (bts (updI (updI (fun _ => (0 : Int32)) ((v_a p0).toNatClampNeg) (1 : Int32)) ((v_b p0).toNatClampNeg) (1 : Int32))) := V68_11.keep K79q (ninS (Ne.symm ne_b2_sn_13) nin0)
            have K79 : Keep h0 T79.heap [] := K68.trans K79q (allS (Or.inr sz_b2) all0)
            refine Go.st (mkF m 102 #[.val (.int p0), .val (.int p1), .val (.int (v_a p0)), .val (.long (v_ca p0)), .second, .val (.int (v_b p0)), .val (.long (v_cb p0)), .second, .val (.int (v_pop p0)), .val (.int (v_c p1)), .val (.long (v_cc p1)), .second, .val (.ref b2), .val (.int (1 : Int32)), .unset, .unset, .unset, .unset, .unset, .unset, .unset] [(.int ((updI (updI (fun _ => (0 : Int32)) 0 (v_a p0)) 1 (v_b p0)) 0))]) (fun _ k => st79.trans k) ?_
            refine Go.st (mkF m 103 #[.val (.int p0), .val (.int p1), .val (.int (v_a p0)), .val (.long (v_ca p0)), .second, .val (.int (v_b p0)), .val (.long (v_cb p0)), .second, .val (.int (v_pop p0)), .val (.int (v_c p1)), .val (.long (v_cc p1)), .second, .val (.ref b2), .val (.int (1 : Int32)), .unset, .unset, .unset, .unset, .unset, .unset, .unset] []) (fun _ k => XT.pop X79.here hx rfl (hb hby at_102) rfl rfl k) ?_
            refine Go.st (mkF m 105 #[.val (.int p0), .val (.int p1), .val (.int (v_a p0)), .val (.long (v_ca p0)), .second, .val (.int (v_b p0)), .val (.long (v_cb p0)), .second, .val (.int (v_pop p0)), .val (.int (v_c p1)), .val (.long (v_cc p1)), .second, .val (.ref b2), .val (.int (1 : Int32)), .unset, .unset, .unset, .unset, .unset, .unset, .unset] [(.ref b2)]) (fun _ k => XS.aload X79.here hx rfl (hb hby at_103) rfl rfl k) ?_
            obtain ⟨cq85, kq85, q85a, q85b, q85c⟩ := isOf hZ rfl E80q
            obtain ⟨_, _, ⟨T85, L85, k85, n85⟩, -, X85, ⟨Lc85, hQ85, l85, y85, z85⟩, st85⟩ := X79.virtualBack hx (y := (⟨"com/example/nearpath/nearpath/answer/Frontier", "startSearch", "()I"⟩ : MethodName)) (z := (⟨"com/example/nearpath/nearpath/answer/Frontier", "startSearch", "()I"⟩ : MethodName)) hown (mvT hZ (hw _ (List.mem_of_getElem? (i := 22) rfl))) (mvT hZ (hw _ (List.mem_of_getElem? (i := 23) rfl))) (notFace_of_selects (args := #[]) (mvT hZ (hw _ (List.mem_of_getElem? (i := 25) rfl)))) (mvT hZ (hw _ (List.mem_of_getElem? (i := 25) rfl))) (mvT hZ (hw _ (List.mem_of_getElem? (i := 24) rfl))) (by decide) (backOf (W := 0) (rm_ss0 l Z a0 hw [] b2 lv_13 hc_13 hi_13 sn_13 (1 : Int32) (0 : Int64) (1 : Int32) (2 : Int32) (fun _ => (0 : Int32)) (updI (updI (fun _ => (0 : Int32)) ((v_a p0).toNatClampNeg) (1 : Int32)) ((v_b p0).toNatClampNeg) (1 : Int32)) T79.heap n0 (Nat.le_trans Z0 K79.1) E80q F79_0 F79_1 F79_2 F79_3 F79_4 F79_5 F79_6 F79_7 F79_8 F79_9 V82 V84 g_b2 g_sn_13 ne_b2_hi_13 ne_b2_sn_13 P13_23) hZ (hw _ (List.mem_of_getElem? (i := 26) rfl)) (hw _ (List.mem_of_getElem? (i := 2) rfl)) (by decide) (by decide)) q85a q85c (g := (mkF m 105 #[.val (.int p0), .val (.int p1), .val (.int (v_a p0)), .val (.long (v_ca p0)), .second, .val (.int (v_b p0)), .val (.long (v_cb p0)), .second, .val (.int (v_pop p0)), .val (.int (v_c p1)), .val (.long (v_cc p1)), .second, .val (.ref b2), .val (.int (1 : Int32)), .unset, .unset, .unset, .unset, .unset, .unset, .unset] [(.ref b2)])) rfl (by rw [hml]; rfl) (Steps.refl _) (argsL := []) (rest := []) (lenOf pd_3 rfl) rfl (by show 2 * 0 + _ ≤ _; exact Nat.le_of_eq rfl) (hb hby at_105) (fun _ _ => ⟨rfl, rfl, (by decide : 5 + 0 ≤ _), (by decide : 62 + 0 ≤ _)⟩)
            dsimp only [Pt.U, Pt.locs, Pt.cells, Pt.slots] at X85 l85 y85 z85 st85 hQ85
            subst l85 y85 z85
            obtain ⟨rfl, N85q, K85q, F85_0, F85_1, F85_2, F85_3, F85_4, F85_5, F85_6, F85_7, F85_8, F85_9⟩ := hQ85
            have N85 := Fr.app N79 N85q
            have E86q : Exa Z T85.heap b2 "com/example/nearpath/nearpath/answer/Frontier" := E80q.keep K85q
            have V87 : Ary Z T85.heap hc_13 .long 16 (lts (fun _ => (0 : Int64))) := V81.keep K85q (ninS (Ne.symm ne_b2_hc_13) nin0)
            have V88 : Ary Z T85.heap hi_13 .int 16 (bts (fun _ => (0 : Int32))) := V82.keep K85q (ninS (Ne.symm ne_b2_hi_13) nin0)
            have V89 : Ary Z T85.heap lv_13 .int 16 (bts (updI (updI (fun _ => (0 : Int32)) 0 (v_a p0)) 1 (v_b p0))) := V83.keep K85q (ninS (Ne.symm ne_b2_lv_13) nin0)
            have V90 : Ary Z T85.heap sn_13 .int 4 (bts (updI (updI (fun _ => (0 : Int32)) ((v_a p0).toNatClampNeg) (1 : Int32)) ((v_b p0).toNatClampNeg) (1 : Int32))) := V84.keep K85q (ninS (Ne.symm ne_b2_sn_13) nin0)
            have K85 : Keep h0 T85.heap [] := K79.trans K85q (allS (Or.inr sz_b2) all0)
            refine Go.st (mkF m 108 #[.val (.int p0), .val (.int p1), .val (.int (v_a p0)), .val (.long (v_ca p0)), .second, .val (.int (v_b p0)), .val (.long (v_cb p0)), .second, .val (.int (v_pop p0)), .val (.int (v_c p1)), .val (.long (v_cc p1)), .second, .val (.ref b2), .val (.int (1 : Int32)), .unset, .unset, .unset, .unset, .unset, .unset, .unset] [(.int (2 : Int32))]) (fun _ k => st85.trans k) ?_
            have HG : ∀ j, j < 4 → (updI (updI (fun _ => (0 : Int32)) ((v_a p0).toNatClampNeg) (1 : Int32)) ((v_b p0).toNatClampNeg) (1 : Int32)) j = (0 : Int32) ∨ (updI (updI (fun _ => (0 : Int32)) ((v_a p0).toNatClampNeg) (1 : Int32)) ((v_b p0).toNatClampNeg) (1 : Int32)) j = (1 : Int32) := by
              intro j hj
              show (updI (updI (fun _ => (0 : Int32)) ((v_a p0).toNatClampNeg) (1 : Int32)) ((v_b p0).toNatClampNeg) (1 : Int32)) j = (0 : Int32) ∨ (updI (updI (fun _ => (0 : Int32)) ((v_a p0).toNatClampNeg) (1 : Int32)) ((v_b p0).toNatClampNeg) (1 : Int32)) j = (1 : Int32)
              exact own_hgN (A := ((v_a p0).toNatClampNeg)) (B := ((v_b p0).toNatClampNeg)) hBA (fun A_ B_ j => (updI (updI (fun _ => (0 : Int32)) A_ (1 : Int32)) B_ (1 : Int32)) j) (by intro A_ B_ j h1; unfold updI; by_cases q1 : j = A_ <;> by_cases q2 : j = B_ <;> first | (simp only [if_pos q1, if_pos q2]; decide) | (simp only [if_pos q1, if_neg q2]; decide) | (simp only [if_neg q1, if_pos q2]; decide) | (simp only [if_neg q1, if_neg q2]; decide) | (exfalso; omega))
            exact JL _ _ _ (updI (updI (fun _ => (0 : Int32)) 0 (v_a p0)) 1 (v_b p0)) (fun _ => (0 : Int64)) (fun _ => (0 : Int32)) (updI (updI (fun _ => (0 : Int32)) ((v_a p0).toNatClampNeg) (1 : Int32)) ((v_b p0).toNatClampNeg) (1 : Int32)) X85 rfl N85 K85 HG E86q V89 V87 V88 V90 F85_0 F85_1 F85_2 F85_3 F85_4 F85_5 F85_6 F85_7 F85_8 F85_9
        ·
          refine Go.st (mkF m 85 #[.val (.int p0), .val (.int p1), .val (.int (v_a p0)), .val (.long (v_ca p0)), .second, .val (.int (v_b p0)), .val (.long (v_cb p0)), .second, .val (.int (v_pop p0)), .val (.int (v_c p1)), .val (.long (v_cc p1)), .second, .val (.ref b2), .val (.int (1 : Int32)), .unset, .unset, .unset, .unset, .unset, .unset, .unset] [(.ref b2)]) (fun _ k => XS.aload X44.here hx rfl (hb hby at_83) rfl rfl k) ?_
          refine Go.st (mkF m 87 #[.val (.int p0), .val (.int p1), .val (.int (v_a p0)), .val (.long (v_ca p0)), .second, .val (.int (v_b p0)), .val (.long (v_cb p0)), .second, .val (.int (v_pop p0)), .val (.int (v_c p1)), .val (.long (v_cc p1)), .second, .val (.ref b2), .val (.int (1 : Int32)), .unset, .unset, .unset, .unset, .unset, .unset, .unset] [(.int (v_b p0)), (.ref b2)]) (fun _ k => XS.iload X44.here hx rfl (hb hby at_85) rfl k) ?_
          refine Go.st (mkF m 89 #[.val (.int p0), .val (.int p1), .val (.int (v_a p0)), .val (.long (v_ca p0)), .second, .val (.int (v_b p0)), .val (.long (v_cb p0)), .second, .val (.int (v_pop p0)), .val (.int (v_c p1)), .val (.long (v_cc p1)), .second, .val (.ref b2), .val (.int (1 : Int32)), .unset, .unset, .unset, .unset, .unset, .unset, .unset] [(.long (v_cb p0)), (.int (v_b p0)), (.ref b2)]) (fun _ k => XT.lload X44.here hx rfl (hb hby at_87) rfl k) ?_
          obtain ⟨cq91, kq91, q91a, q91b, q91c⟩ := isOf hZ rfl E45q
          obtain ⟨_, _, ⟨T91, L91, k91, n91⟩, -, X91, ⟨Lc91, hQ91, l91, y91, z91⟩, st91⟩ := X44.virtualBack hx (y := (⟨"com/example/nearpath/nearpath/answer/Frontier", "reach", "(IJ)V"⟩ : MethodName)) (z := (⟨"com/example/nearpath/nearpath/answer/Frontier", "reach", "(IJ)V"⟩ : MethodName)) hown (mvT hZ (hw _ (List.mem_of_getElem? (i := 37) rfl))) (mvT hZ (hw _ (List.mem_of_getElem? (i := 38) rfl))) (notFace_of_selects (args := #[]) (mvT hZ (hw _ (List.mem_of_getElem? (i := 40) rfl)))) (mvT hZ (hw _ (List.mem_of_getElem? (i := 40) rfl))) (mvT hZ (hw _ (List.mem_of_getElem? (i := 39) rfl))) (by decide) (backOf (W := 0) (rm_r50 l Z a0 hw [] b2 (v_b p0) (v_cb p0) lv_13 hc_13 hi_13 sn_13 (1 : Int32) (0 : Int64) (0 : Int32) (1 : Int32) (fun _ => (0 : Int64)) (fun _ => (0 : Int32)) (updI (fun _ => (0 : Int32)) ((v_a p0).toNatClampNeg) (1 : Int32)) T44.heap n0 (Nat.le_trans Z0 K44.1) E45q F44_0 F44_1 F44_2 F44_3 F44_4 F44_5 F44_6 F44_7 F44_8 F44_9 V44_11 V46 V47 (by first | exact own_va p0 | exact own_vb p0 | exact own_vc p1) (by first | exact own_ca p0 | exact own_cb p0 | exact own_cc p1) (by first | decide | exact hcb | exact hM | (rw [hM]; decide)) (by first | decide | exact hcb | exact hM | (rw [hM]; decide)) (by first | decide | exact hcb | exact hM | (rw [hM]; decide)) g_b2 g_hc_13 g_hi_13 g_sn_13 ne_b2_hc_13 ne_b2_hi_13 ne_b2_sn_13 P13_21 P13_22 P13_23) hZ (hw _ (List.mem_of_getElem? (i := 41) rfl)) (hw _ (List.mem_of_getElem? (i := 2) rfl)) (by decide) (by decide)) q91a q91c (g := (mkF m 89 #[.val (.int p0), .val (.int p1), .val (.int (v_a p0)), .val (.long (v_ca p0)), .second, .val (.int (v_b p0)), .val (.long (v_cb p0)), .second, .val (.int (v_pop p0)), .val (.int (v_c p1)), .val (.long (v_cc p1)), .second, .val (.ref b2), .val (.int (1 : Int32)), .unset, .unset, .unset, .unset, .unset, .unset, .unset] [(.long (v_cb p0)), (.int (v_b p0)), (.ref b2)])) rfl (by rw [hml]; rfl) (Steps.refl _) (argsL := [(.int (v_b p0)), (.long (v_cb p0))]) (rest := []) (lenOf pd_1 rfl) rfl (by show 2 * 0 + _ ≤ _; exact Nat.le_of_eq rfl) (hb hby at_89) (fun _ _ => ⟨rfl, rfl, (by decide : 5 + 0 ≤ _), (by decide : 62 + 0 ≤ _)⟩)
          dsimp only [Pt.U, Pt.locs, Pt.cells, Pt.slots] at X91 l91 y91 z91 st91 hQ91
          subst l91 y91 z91
          obtain ⟨rfl, N91q, K91q, F91_0, F91_1, F91_2, F91_3, F91_4, F91_5, F91_6, F91_7, F91_8, F91_9, V91_10, V91_11, V91_12⟩ := hQ91
          have N91 := Fr.app N44 N91q
          have E92q : Exa Z T91.heap b2 "com/example/nearpath/nearpath/answer/Frontier" := E45q.keep K91q
          have V93 : Ary Z T91.heap lv_13 .int 16 (bts (updI (fun _ => (0 : Int32)) 0 (v_a p0))) := V44_10.keep K91q (ninS (Ne.symm ne_b2_lv_13) (ninS P13_18 (ninS P13_19 (ninS P13_20 nin0))))
          have K91 : Keep h0 T91.heap [] := K44.trans K91q (allS (Or.inr sz_b2) (allS (Or.inr sz_hc_13) (allS (Or.inr sz_hi_13) (allS (Or.inr sz_sn_13) all0))))
          refine Go.st (mkF m 92 #[.val (.int p0), .val (.int p1), .val (.int (v_a p0)), .val (.long (v_ca p0)), .second, .val (.int (v_b p0)), .val (.long (v_cb p0)), .second, .val (.int (v_pop p0)), .val (.int (v_c p1)), .val (.long (v_cc p1)), .second, .val (.ref b2), .val (.int (1 : Int32)), .unset, .unset, .unset, .unset, .unset, .unset, .unset] []) (fun _ k => st91.trans k) ?_
          refine Go.st (mkF m 94 #[.val (.int p0), .val (.int p1), .val (.int (v_a p0)), .val (.long (v_ca p0)), .second, .val (.int (v_b p0)), .val (.long (v_cb p0)), .second, .val (.int (v_pop p0)), .val (.int (v_c p1)), .val (.long (v_cc p1)), .second, .val (.ref b2), .val (.int (1 : Int32)), .unset, .unset, .unset, .unset, .unset, .unset, .unset] [(.int (v_pop p0))]) (fun _ k => XS.iload X91.here hx rfl (hb hby at_92) rfl k) ?_
          by_cases hc94_94 : (v_pop p0) = (0 : Int32)
          ·
            refine Go.st (mkF m 103 #[.val (.int p0), .val (.int p1), .val (.int (v_a p0)), .val (.long (v_ca p0)), .second, .val (.int (v_b p0)), .val (.long (v_cb p0)), .second, .val (.int (v_pop p0)), .val (.int (v_c p1)), .val (.long (v_cc p1)), .second, .val (.ref b2), .val (.int (1 : Int32)), .unset, .unset, .unset, .unset, .unset, .unset, .unset] []) (fun _ k => XS.ifYes X91.here hx rfl (pc0 := 94) (pc' := 103) rfl (hb hby at_94) rfl ((if0 _ _).trans (teq hc94_94).1) (by decide) (by decide) k) ?_
            refine Go.st (mkF m 105 #[.val (.int p0), .val (.int p1), .val (.int (v_a p0)), .val (.long (v_ca p0)), .second, .val (.int (v_b p0)), .val (.long (v_cb p0)), .second, .val (.int (v_pop p0)), .val (.int (v_c p1)), .val (.long (v_cc p1)), .second, .val (.ref b2), .val (.int (1 : Int32)), .unset, .unset, .unset, .unset, .unset, .unset, .unset] [(.ref b2)]) (fun _ k => XS.aload X91.here hx rfl (hb hby at_103) rfl rfl k) ?_
            obtain ⟨cq95, kq95, q95a, q95b, q95c⟩ := isOf hZ rfl E92q
            obtain ⟨_, _, ⟨T95, L95, k95, n95⟩, -, X95, ⟨Lc95, hQ95, l95, y95, z95⟩, st95⟩ := X91.virtualBack hx (y := (⟨"com/example/nearpath/nearpath/answer/Frontier", "startSearch", "()I"⟩ : MethodName)) (z := (⟨"com/example/nearpath/nearpath/answer/Frontier", "startSearch", "()I"⟩ : MethodName)) hown (mvT hZ (hw _ (List.mem_of_getElem? (i := 22) rfl))) (mvT hZ (hw _ (List.mem_of_getElem? (i := 23) rfl))) (notFace_of_selects (args := #[]) (mvT hZ (hw _ (List.mem_of_getElem? (i := 25) rfl)))) (mvT hZ (hw _ (List.mem_of_getElem? (i := 25) rfl))) (mvT hZ (hw _ (List.mem_of_getElem? (i := 24) rfl))) (by decide) (backOf (W := 0) (rm_ss1 l Z a0 hw [] b2 lv_13 hc_13 hi_13 sn_13 (1 : Int32) (0 : Int64) (0 : Int32) (1 : Int32) (updI (fun _ => (0 : Int32)) 0 (v_b p0)) (updI (updI (fun _ => (0 : Int32)) ((v_a p0).toNatClampNeg) (1 : Int32)) ((v_b p0).toNatClampNeg) (-1 : Int32)) T91.heap n0 (Nat.le_trans Z0 K91.1) E92q F91_0 F91_1 F91_2 F91_3 F91_4 F91_5 F91_6 F91_7 F91_8 F91_9 V91_11 V91_12 (by first | exact own_va p0 | exact own_vb p0 | exact own_vc p1) g_b2 g_sn_13 ne_b2_hi_13 ne_b2_sn_13 P13_23) hZ (hw _ (List.mem_of_getElem? (i := 26) rfl)) (hw _ (List.mem_of_getElem? (i := 2) rfl)) (by decide) (by decide)) q95a q95c (g := (mkF m 105 #[.val (.int p0), .val (.int p1), .val (.int (v_a p0)), .val (.long (v_ca p0)), .second, .val (.int (v_b p0)), .val (.long (v_cb p0)), .second, .val (.int (v_pop p0)), .val (.int (v_c p1)), .val (.long (v_cc p1)), .second, .val (.ref b2), .val (.int (1 : Int32)), .unset, .unset, .unset, .unset, .unset, .unset, .unset] [(.ref b2)])) rfl (by rw [hml]; rfl) (Steps.refl _) (argsL := []) (rest := []) (lenOf pd_3 rfl) rfl (by show 2 * 0 + _ ≤ _; exact Nat.le_of_eq rfl) (hb hby at_105) (fun _ _ => ⟨rfl, rfl, (by decide : 5 + 0 ≤ _), (by decide : 62 + 0 ≤ _)⟩)
            dsimp only [Pt.U, Pt.locs, Pt.cells, Pt.slots] at X95 l95 y95 z95 st95 hQ95
            subst l95 y95 z95
            obtain ⟨rfl, N95q, K95q, F95_0, F95_1, F95_2, F95_3, F95_4, F95_5, F95_6, F95_7, F95_8, F95_9, V95_10⟩ := hQ95
            have N95 := Fr.app N91 N95q
            have E96q : Exa Z T95.heap b2 "com/example/nearpath/nearpath/answer/Frontier" := E92q.keep K95q
            have V97 : Ary Z T95.heap lv_13 .int 16 (bts (updI (fun _ => (0 : Int32)) 0 (v_a p0))) := V93.keep K95q (ninS (Ne.symm ne_b2_lv_13) (ninS P13_20 nin0))
            have V98 : Ary Z T95.heap hc_13 .long 16 (lts (updJ (fun _ => (0 : Int64)) 0 (v_cb p0))) := V91_10.keep K95q (ninS (Ne.symm ne_b2_hc_13) (ninS P13_22 nin0))
            have V99 : Ary Z T95.heap hi_13 .int 16 (bts (updI (fun _ => (0 : Int32)) 0 (v_b p0))) := V91_11.keep K95q (ninS (Ne.symm ne_b2_hi_13) (ninS P13_23 nin0))
            have K95 : Keep h0 T95.heap [] := K91.trans K95q (allS (Or.inr sz_b2) (allS (Or.inr sz_sn_13) all0))
            refine Go.st (mkF m 108 #[.val (.int p0), .val (.int p1), .val (.int (v_a p0)), .val (.long (v_ca p0)), .second, .val (.int (v_b p0)), .val (.long (v_cb p0)), .second, .val (.int (v_pop p0)), .val (.int (v_c p1)), .val (.long (v_cc p1)), .second, .val (.ref b2), .val (.int (1 : Int32)), .unset, .unset, .unset, .unset, .unset, .unset, .unset] [(.int (2 : Int32))]) (fun _ k => st95.trans k) ?_
            have HG : ∀ j, j < 4 → (updI (updI (updI (fun _ => (0 : Int32)) ((v_a p0).toNatClampNeg) (1 : Int32)) ((v_b p0).toNatClampNeg) (-1 : Int32)) (((updI (fun _ => (0 : Int32)) 0 (v_b p0)) 0).toNatClampNeg) (0 : Int32)) j = (0 : Int32) ∨ (updI (updI (updI (fun _ => (0 : Int32)) ((v_a p0).toNatClampNeg) (1 : Int32)) ((v_b p0).toNatClampNeg) (-1 : Int32)) (((updI (fun _ => (0 : Int32)) 0 (v_b p0)) 0).toNatClampNeg) (0 : Int32)) j = (1 : Int32) := by
              intro j hj
              show (updI (updI (updI (fun _ => (0 : Int32)) ((v_a p0).toNatClampNeg) (1 : Int32)) ((v_b p0).toNatClampNeg) (-1 : Int32)) ((v_b p0).toNatClampNeg) (0 : Int32)) j = (0 : Int32) ∨ (updI (updI (updI (fun _ => (0 : Int32)) ((v_a p0).toNatClampNeg) (1 : Int32)) ((v_b p0).toNatClampNeg) (-1 : Int32)) ((v_b p0).toNatClampNeg) (0 : Int32)) j = (1 : Int32)
              exact own_hgN (A := ((v_a p0).toNatClampNeg)) (B := ((v_b p0).toNatClampNeg)) hBA (fun A_ B_ j => (updI (updI (updI (fun _ => (0 : Int32)) A_ (1 : Int32)) B_ (-1 : Int32)) B_ (0 : Int32)) j) (by intro A_ B_ j h1; unfold updI; by_cases q1 : j = A_ <;> by_cases q2 : j = B_ <;> first | (simp only [if_pos q1, if_pos q2]; decide) | (simp only [if_pos q1, if_neg q2]; decide) | (simp only [if_neg q1, if_pos q2]; decide) | (simp only [if_neg q1, if_neg q2]; decide) | (exfalso; omega))
            exact JL _ _ _ (updI (fun _ => (0 : Int32)) 0 (v_a p0)) (updJ (fun _ => (0 : Int64)) 0 (v_cb p0)) (updI (fun _ => (0 : Int32)) 0 (v_b p0)) (updI (updI (updI (fun _ => (0 : Int32)) ((v_a p0).toNatClampNeg) (1 : Int32)) ((v_b p0).toNatClampNeg) (-1 : Int32)) (((updI (fun _ => (0 : Int32)) 0 (v_b p0)) 0).toNatClampNeg) (0 : Int32)) X95 rfl N95 K95 HG E96q V97 V98 V99 V95_10 F95_0 F95_1 F95_2 F95_3 F95_4 F95_5 F95_6 F95_7 F95_8 F95_9
          ·
            refine Go.st (mkF m 97 #[.val (.int p0), .val (.int p1), .val (.int (v_a p0)), .val (.long (v_ca p0)), .second, .val (.int (v_b p0)), .val (.long (v_cb p0)), .second, .val (.int (v_pop p0)), .val (.int (v_c p1)), .val (.long (v_cc p1)), .second, .val (.ref b2), .val (.int (1 : Int32)), .unset, .unset, .unset, .unset, .unset, .unset, .unset] []) (fun _ k => XS.ifNo X91.here hx rfl (hb hby at_94) rfl ((if0 _ _).trans (feq hc94_94).1) k) ?_
            refine Go.st (mkF m 99 #[.val (.int p0), .val (.int p1), .val (.int (v_a p0)), .val (.long (v_ca p0)), .second, .val (.int (v_b p0)), .val (.long (v_cb p0)), .second, .val (.int (v_pop p0)), .val (.int (v_c p1)), .val (.long (v_cc p1)), .second, .val (.ref b2), .val (.int (1 : Int32)), .unset, .unset, .unset, .unset, .unset, .unset, .unset] [(.ref b2)]) (fun _ k => XS.aload X91.here hx rfl (hb hby at_97) rfl rfl k) ?_
            obtain ⟨cq100, kq100, q100a, q100b, q100c⟩ := isOf hZ rfl E92q
            obtain ⟨_, _, ⟨T100, L100, k100, n100⟩, -, X100, ⟨Lc100, hQ100, l100, y100, z100⟩, st100⟩ := X91.virtualBack hx (y := (⟨"com/example/nearpath/nearpath/answer/Frontier", "next", "()I"⟩ : MethodName)) (z := (⟨"com/example/nearpath/nearpath/answer/Frontier", "next", "()I"⟩ : MethodName)) hown (mvT hZ (hw _ (List.mem_of_getElem? (i := 45) rfl))) (mvT hZ (hw _ (List.mem_of_getElem? (i := 46) rfl))) (notFace_of_selects (args := #[]) (mvT hZ (hw _ (List.mem_of_getElem? (i := 48) rfl)))) (mvT hZ (hw _ (List.mem_of_getElem? (i := 48) rfl))) (mvT hZ (hw _ (List.mem_of_getElem? (i := 47) rfl))) (by decide) (backOf (W := 0) (rm_n1 l Z a0 hw [] b2 lv_13 hc_13 hi_13 sn_13 (1 : Int32) (0 : Int64) (1 : Int32) (1 : Int32) (updI (fun _ => (0 : Int32)) 0 (v_a p0)) T91.heap n0 (Nat.le_trans Z0 K91.1) E92q F91_0 F91_1 F91_2 F91_3 F91_4 F91_5 F91_6 F91_7 F91_8 F91_9 V93 (by first | decide | exact hcb | exact hM | (rw [hM]; decide)) g_b2 ne_b2_lv_13) hZ (hw _ (List.mem_of_getElem? (i := 49) rfl)) (hw _ (List.mem_of_getElem? (i := 2) rfl)) (by decide) (by decide)) q100a q100c (g := (mkF m 99 #[.val (.int p0), .val (.int p1), .val (.int (v_a p0)), .val (.long (v_ca p0)), .second, .val (.int (v_b p0)), .val (.long (v_cb p0)), .second, .val (.int (v_pop p0)), .val (.int (v_c p1)), .val (.long (v_cc p1)), .second, .val (.ref b2), .val (.int (1 : Int32)), .unset, .unset, .unset, .unset, .unset, .unset, .unset] [(.ref b2)])) rfl (by rw [hml]; rfl) (Steps.refl _) (argsL := []) (rest := []) (lenOf pd_3 rfl) rfl (by show 2 * 0 + _ ≤ _; exact Nat.le_of_eq rfl) (hb hby at_99) (fun _ _ => ⟨rfl, rfl, (by decide : 5 + 0 ≤ _), (by decide : 62 + 0 ≤ _)⟩)
            dsimp only [Pt.U, Pt.locs, Pt.cells, Pt.slots] at X100 l100 y100 z100 st100 hQ100
            subst l100 y100 z100
            obtain ⟨rfl, N100q, K100q, F100_0, F100_1, F100_2, F100_3, F100_4, F100_5, F100_6, F100_7, F100_8, F100_9⟩ := hQ100
            have N100 := Fr.app N91 N100q
            have E101q : Exa Z T100.heap b2 "com/example/nearpath/nearpath/answer/Frontier" := E92q.keep K100q
            have V102 : Ary Z T100.heap lv_13 .int 16 (bts (updI (fun _ => (0 : Int32)) 0 (v_a p0))) := V93.keep K100q (ninS (Ne.symm ne_b2_lv_13) nin0)
            have V103 : Ary Z T100.heap hc_13 .long 16 (lts (updJ (fun _ => (0 : Int64)) 0 (v_cb p0))) := V91_10.keep K100q (ninS (Ne.symm ne_b2_hc_13) nin0)
            have V104 : Ary Z T100.heap hi_13 .int 16 (bts (updI (fun _ => (0 : Int32)) 0 (v_b p0))) := V91_11.keep K100q (ninS (Ne.symm ne_b2_hi_13) nin0)
            have V105 : Ary Z T100.heap sn_13 .int 4 (bts (updI (updI (fun _ => (0 : Int32)) ((v_a p0).toNatClampNeg) (1 : Int32)) ((v_b p0).toNatClampNeg) (-1 : Int32))) := V91_12.keep K100q (ninS (Ne.symm ne_b2_sn_13) nin0)
            have K100 : Keep h0 T100.heap [] := K91.trans K100q (allS (Or.inr sz_b2) all0)
            refine Go.st (mkF m 102 #[.val (.int p0), .val (.int p1), .val (.int (v_a p0)), .val (.long (v_ca p0)), .second, .val (.int (v_b p0)), .val (.long (v_cb p0)), .second, .val (.int (v_pop p0)), .val (.int (v_c p1)), .val (.long (v_cc p1)), .second, .val (.ref b2), .val (.int (1 : Int32)), .unset, .unset, .unset, .unset, .unset, .unset, .unset] [(.int ((updI (fun _ => (0 : Int32)) 0 (v_a p0)) 0))]) (fun _ k => st100.trans k) ?_
            refine Go.st (mkF m 103 #[.val (.int p0), .val (.int p1), .val (.int (v_a p0)), .val (.long (v_ca p0)), .second, .val (.int (v_b p0)), .val (.long (v_cb p0)), .second, .val (.int (v_pop p0)), .val (.int (v_c p1)), .val (.long (v_cc p1)), .second, .val (.ref b2), .val (.int (1 : Int32)), .unset, .unset, .unset, .unset, .unset, .unset, .unset] []) (fun _ k => XT.pop X100.here hx rfl (hb hby at_102) rfl rfl k) ?_
            refine Go.st (mkF m 105 #[.val (.int p0), .val (.int p1), .val (.int (v_a p0)), .val (.long (v_ca p0)), .second, .val (.int (v_b p0)), .val (.long (v_cb p0)), .second, .val (.int (v_pop p0)), .val (.int (v_c p1)), .val (.long (v_cc p1)), .second, .val (.ref b2), .val (.int (1 : Int32)), .unset, .unset, .unset, .unset, .unset, .unset, .unset] [(.ref b2)]) (fun _ k => XS.aload X100.here hx rfl (hb hby at_103) rfl rfl k) ?_
            obtain ⟨cq106, kq106, q106a, q106b, q106c⟩ := isOf hZ rfl E101q
            obtain ⟨_, _, ⟨T106, L106, k106, n106⟩, -, X106, ⟨Lc106, hQ106, l106, y106, z106⟩, st106⟩ := X100.virtualBack hx (y := (⟨"com/example/nearpath/nearpath/answer/Frontier", "startSearch", "()I"⟩ : MethodName)) (z := (⟨"com/example/nearpath/nearpath/answer/Frontier", "startSearch", "()I"⟩ : MethodName)) hown (mvT hZ (hw _ (List.mem_of_getElem? (i := 22) rfl))) (mvT hZ (hw _ (List.mem_of_getElem? (i := 23) rfl))) (notFace_of_selects (args := #[]) (mvT hZ (hw _ (List.mem_of_getElem? (i := 25) rfl)))) (mvT hZ (hw _ (List.mem_of_getElem? (i := 25) rfl))) (mvT hZ (hw _ (List.mem_of_getElem? (i := 24) rfl))) (by decide) (backOf (W := 0) (rm_ss1 l Z a0 hw [] b2 lv_13 hc_13 hi_13 sn_13 (1 : Int32) (0 : Int64) (1 : Int32) (1 : Int32) (updI (fun _ => (0 : Int32)) 0 (v_b p0)) (updI (updI (fun _ => (0 : Int32)) ((v_a p0).toNatClampNeg) (1 : Int32)) ((v_b p0).toNatClampNeg) (-1 : Int32)) T100.heap n0 (Nat.le_trans Z0 K100.1) E101q F100_0 F100_1 F100_2 F100_3 F100_4 F100_5 F100_6 F100_7 F100_8 F100_9 V104 V105 (by first | exact own_va p0 | exact own_vb p0 | exact own_vc p1) g_b2 g_sn_13 ne_b2_hi_13 ne_b2_sn_13 P13_23) hZ (hw _ (List.mem_of_getElem? (i := 26) rfl)) (hw _ (List.mem_of_getElem? (i := 2) rfl)) (by decide) (by decide)) q106a q106c (g := (mkF m 105 #[.val (.int p0), .val (.int p1), .val (.int (v_a p0)), .val (.long (v_ca p0)), .second, .val (.int (v_b p0)), .val (.long (v_cb p0)), .second, .val (.int (v_pop p0)), .val (.int (v_c p1)), .val (.long (v_cc p1)), .second, .val (.ref b2), .val (.int (1 : Int32)), .unset, .unset, .unset, .unset, .unset, .unset, .unset] [(.ref b2)])) rfl (by rw [hml]; rfl) (Steps.refl _) (argsL := []) (rest := []) (lenOf pd_3 rfl) rfl (by show 2 * 0 + _ ≤ _; exact Nat.le_of_eq rfl) (hb hby at_105) (fun _ _ => ⟨rfl, rfl, (by decide : 5 + 0 ≤ _), (by decide : 62 + 0 ≤ _)⟩)
            dsimp only [Pt.U, Pt.locs, Pt.cells, Pt.slots] at X106 l106 y106 z106 st106 hQ106
            subst l106 y106 z106
            obtain ⟨rfl, N106q, K106q, F106_0, F106_1, F106_2, F106_3, F106_4, F106_5, F106_6, F106_7, F106_8, F106_9, V106_10⟩ := hQ106
            have N106 := Fr.app N100 N106q
            have E107q : Exa Z T106.heap b2 "com/example/nearpath/nearpath/answer/Frontier" := E101q.keep K106q
            have V108 : Ary Z T106.heap lv_13 .int 16 (bts (updI (fun _ => (0 : Int32)) 0 (v_a p0))) := V102.keep K106q (ninS (Ne.symm ne_b2_lv_13) (ninS P13_20 nin0))
            have V109 : Ary Z T106.heap hc_13 .long 16 (lts (updJ (fun _ => (0 : Int64)) 0 (v_cb p0))) := V103.keep K106q (ninS (Ne.symm ne_b2_hc_13) (ninS P13_22 nin0))
            have V110 : Ary Z T106.heap hi_13 .int 16 (bts (updI (fun _ => (0 : Int32)) 0 (v_b p0))) := V104.keep K106q (ninS (Ne.symm ne_b2_hi_13) (ninS P13_23 nin0))
            have K106 : Keep h0 T106.heap [] := K100.trans K106q (allS (Or.inr sz_b2) (allS (Or.inr sz_sn_13) all0))
            refine Go.st (mkF m 108 #[.val (.int p0), .val (.int p1), .val (.int (v_a p0)), .val (.long (v_ca p0)), .second, .val (.int (v_b p0)), .val (.long (v_cb p0)), .second, .val (.int (v_pop p0)), .val (.int (v_c p1)), .val (.long (v_cc p1)), .second, .val (.ref b2), .val (.int (1 : Int32)), .unset, .unset, .unset, .unset, .unset, .unset, .unset] [(.int (2 : Int32))]) (fun _ k => st106.trans k) ?_
            have HG : ∀ j, j < 4 → (updI (updI (updI (fun _ => (0 : Int32)) ((v_a p0).toNatClampNeg) (1 : Int32)) ((v_b p0).toNatClampNeg) (-1 : Int32)) (((updI (fun _ => (0 : Int32)) 0 (v_b p0)) 0).toNatClampNeg) (0 : Int32)) j = (0 : Int32) ∨ (updI (updI (updI (fun _ => (0 : Int32)) ((v_a p0).toNatClampNeg) (1 : Int32)) ((v_b p0).toNatClampNeg) (-1 : Int32)) (((updI (fun _ => (0 : Int32)) 0 (v_b p0)) 0).toNatClampNeg) (0 : Int32)) j = (1 : Int32) := by
              intro j hj
              show (updI (updI (updI (fun _ => (0 : Int32)) ((v_a p0).toNatClampNeg) (1 : Int32)) ((v_b p0).toNatClampNeg) (-1 : Int32)) ((v_b p0).toNatClampNeg) (0 : Int32)) j = (0 : Int32) ∨ (updI (updI (updI (fun _ => (0 : Int32)) ((v_a p0).toNatClampNeg) (1 : Int32)) ((v_b p0).toNatClampNeg) (-1 : Int32)) ((v_b p0).toNatClampNeg) (0 : Int32)) j = (1 : Int32)
              exact own_hgN (A := ((v_a p0).toNatClampNeg)) (B := ((v_b p0).toNatClampNeg)) hBA (fun A_ B_ j => (updI (updI (updI (fun _ => (0 : Int32)) A_ (1 : Int32)) B_ (-1 : Int32)) B_ (0 : Int32)) j) (by intro A_ B_ j h1; unfold updI; by_cases q1 : j = A_ <;> by_cases q2 : j = B_ <;> first | (simp only [if_pos q1, if_pos q2]; decide) | (simp only [if_pos q1, if_neg q2]; decide) | (simp only [if_neg q1, if_pos q2]; decide) | (simp only [if_neg q1, if_neg q2]; decide) | (exfalso; omega))
            exact JL _ _ _ (updI (fun _ => (0 : Int32)) 0 (v_a p0)) (updJ (fun _ => (0 : Int64)) 0 (v_cb p0)) (updI (fun _ => (0 : Int32)) 0 (v_b p0)) (updI (updI (updI (fun _ => (0 : Int32)) ((v_a p0).toNatClampNeg) (1 : Int32)) ((v_b p0).toNatClampNeg) (-1 : Int32)) (((updI (fun _ => (0 : Int32)) 0 (v_b p0)) 0).toNatClampNeg) (0 : Int32)) X106 rfl N106 K106 HG E107q V108 V109 V110 V106_10 F106_0 F106_1 F106_2 F106_3 F106_4 F106_5 F106_6 F106_7 F106_8 F106_9
    ·
      refine Go.st (mkF m 78 #[.val (.int p0), .val (.int p1), .val (.int (v_a p0)), .val (.long (v_ca p0)), .second, .val (.int (v_b p0)), .val (.long (v_cb p0)), .second, .val (.int (v_pop p0)), .val (.int (v_c p1)), .val (.long (v_cc p1)), .second, .val (.ref b2), .val (.int (1 : Int32)), .unset, .unset, .unset, .unset, .unset, .unset, .unset] [(.ref b2)]) (fun _ k => XS.aload X15.here hx rfl (hb hby at_76) rfl rfl k) ?_
      refine Go.st (mkF m 79 #[.val (.int p0), .val (.int p1), .val (.int (v_a p0)), .val (.long (v_ca p0)), .second, .val (.int (v_b p0)), .val (.long (v_cb p0)), .second, .val (.int (v_pop p0)), .val (.int (v_c p1)), .val (.long (v_cc p1)), .second, .val (.ref b2), .val (.int (1 : Int32)), .unset, .unset, .unset, .unset, .unset, .unset, .unset] [(.int (v_a p0)), (.ref b2)]) (fun _ k => XS.iloadN X15.here hx rfl (hb hby at_78) rfl k) ?_
      refine Go.st (mkF m 80 #[.val (.int p0), .val (.int p1), .val (.int (v_a p0)), .val (.long (v_ca p0)), .second, .val (.int (v_b p0)), .val (.long (v_cb p0)), .second, .val (.int (v_pop p0)), .val (.int (v_c p1)), .val (.long (v_cc p1)), .second, .val (.ref b2), .val (.int (1 : Int32)), .unset, .unset, .unset, .unset, .unset, .unset, .unset] [(.long (v_ca p0)), (.int (v_a p0)), (.ref b2)]) (fun _ k => XT.lloadN X15.here hx rfl (hb hby at_79) rfl k) ?_
      obtain ⟨cq111, kq111, q111a, q111b, q111c⟩ := isOf hZ rfl E16q
      obtain ⟨_, _, ⟨T111, L111, k111, n111⟩, -, X111, ⟨Lc111, hQ111, l111, y111, z111⟩, st111⟩ := X15.virtualBack hx (y := (⟨"com/example/nearpath/nearpath/answer/Frontier", "reach", "(IJ)V"⟩ : MethodName)) (z := (⟨"com/example/nearpath/nearpath/answer/Frontier", "reach", "(IJ)V"⟩ : MethodName)) hown (mvT hZ (hw _ (List.mem_of_getElem? (i := 37) rfl))) (mvT hZ (hw _ (List.mem_of_getElem? (i := 38) rfl))) (notFace_of_selects (args := #[]) (mvT hZ (hw _ (List.mem_of_getElem? (i := 40) rfl)))) (mvT hZ (hw _ (List.mem_of_getElem? (i := 40) rfl))) (mvT hZ (hw _ (List.mem_of_getElem? (i := 39) rfl))) (by decide) (backOf (W := 0) (rm_r50 l Z a0 hw [] b2 (v_a p0) (v_ca p0) lv_13 hc_13 hi_13 sn_13 (1 : Int32) (0 : Int64) (0 : Int32) (0 : Int32) (fun _ => (0 : Int64)) (fun _ => (0 : Int32)) (fun _ => (0 : Int32)) T15.heap n0 (Nat.le_trans Z0 K15.1) E16q F15_0 F15_1 F15_2 F15_3 F15_4 F15_5 F15_6 F15_7 F15_8 F15_9 V20 V18 V19 (by first | exact own_va p0 | exact own_vb p0 | exact own_vc p1) (by first | exact own_ca p0 | exact own_cb p0 | exact own_cc p1) (by first | decide | exact hca | exact hM | (rw [hM]; decide)) (by first | decide | exact hca | exact hM | (rw [hM]; decide)) (by first | decide | exact hca | exact hM | (rw [hM]; decide)) g_b2 g_hc_13 g_hi_13 g_sn_13 ne_b2_hc_13 ne_b2_hi_13 ne_b2_sn_13 P13_21 P13_22 P13_23) hZ (hw _ (List.mem_of_getElem? (i := 41) rfl)) (hw _ (List.mem_of_getElem? (i := 2) rfl)) (by decide) (by decide)) q111a q111c (g := (mkF m 80 #[.val (.int p0), .val (.int p1), .val (.int (v_a p0)), .val (.long (v_ca p0)), .second, .val (.int (v_b p0)), .val (.long (v_cb p0)), .second, .val (.int (v_pop p0)), .val (.int (v_c p1)), .val (.long (v_cc p1)), .second, .val (.ref b2), .val (.int (1 : Int32)), .unset, .unset, .unset, .unset, .unset, .unset, .unset] [(.long (v_ca p0)), (.int (v_a p0)), (.ref b2)])) rfl (by rw [hml]; rfl) (Steps.refl _) (argsL := [(.int (v_a p0)), (.long (v_ca p0))]) (rest := []) (lenOf pd_1 rfl) rfl (by show 2 * 0 + _ ≤ _; exact Nat.le_of_eq rfl) (hb hby at_80) (fun _ _ => ⟨rfl, rfl, (by decide : 5 + 0 ≤ _), (by decide : 62 + 0 ≤ _)⟩)
      dsimp only [Pt.U, Pt.locs, Pt.cells, Pt.slots] at X111 l111 y111 z111 st111 hQ111
      subst l111 y111 z111
      obtain ⟨rfl, N111q, K111q, F111_0, F111_1, F111_2, F111_3, F111_4, F111_5, F111_6, F111_7, F111_8, F111_9, V111_10, V111_11, V111_12⟩ := hQ111
      have N111 := Fr.app N15 N111q
      have E112q : Exa Z T111.heap b2 "com/example/nearpath/nearpath/answer/Frontier" := E16q.keep K111q
      have V113 : Ary Z T111.heap lv_13 .int 16 (bts (fun _ => (0 : Int32))) := V17.keep K111q (ninS (Ne.symm ne_b2_lv_13) (ninS P13_18 (ninS P13_19 (ninS P13_20 nin0))))
      have K111 : Keep h0 T111.heap [] := K15.trans K111q (allS (Or.inr sz_b2) (allS (Or.inr sz_hc_13) (allS (Or.inr sz_hi_13) (allS (Or.inr sz_sn_13) all0))))
      refine Go.st (mkF m 83 #[.val (.int p0), .val (.int p1), .val (.int (v_a p0)), .val (.long (v_ca p0)), .second, .val (.int (v_b p0)), .val (.long (v_cb p0)), .second, .val (.int (v_pop p0)), .val (.int (v_c p1)), .val (.long (v_cc p1)), .second, .val (.ref b2), .val (.int (1 : Int32)), .unset, .unset, .unset, .unset, .unset, .unset, .unset] []) (fun _ k => st111.trans k) ?_
      by_cases hab : (v_b p0) = (v_a p0)
      ·
        have hBA : ((v_b p0).toNatClampNeg) = ((v_a p0).toNatClampNeg) := congrArg Int32.toNatClampNeg hab
        have hM : ((updI (fun _ => (0 : Int32)) ((v_a p0).toNatClampNeg) (-1 : Int32)) ((v_b p0).toNatClampNeg)) = (-1 : Int32) := own_us hBA
        by_cases hlt : (v_cb p0) < (v_ca p0)
        ·
          refine Go.st (mkF m 85 #[.val (.int p0), .val (.int p1), .val (.int (v_a p0)), .val (.long (v_ca p0)), .second, .val (.int (v_b p0)), .val (.long (v_cb p0)), .second, .val (.int (v_pop p0)), .val (.int (v_c p1)), .val (.long (v_cc p1)), .second, .val (.ref b2), .val (.int (1 : Int32)), .unset, .unset, .unset, .unset, .unset, .unset, .unset] [(.ref b2)]) (fun _ k => XS.aload X111.here hx rfl (hb hby at_83) rfl rfl k) ?_
          refine Go.st (mkF m 87 #[.val (.int p0), .val (.int p1), .val (.int (v_a p0)), .val (.long (v_ca p0)), .second, .val (.int (v_b p0)), .val (.long (v_cb p0)), .second, .val (.int (v_pop p0)), .val (.int (v_c p1)), .val (.long (v_cc p1)), .second, .val (.ref b2), .val (.int (1 : Int32)), .unset, .unset, .unset, .unset, .unset, .unset, .unset] [(.int (v_b p0)), (.ref b2)]) (fun _ k => XS.iload X111.here hx rfl (hb hby at_85) rfl k) ?_
          refine Go.st (mkF m 89 #[.val (.int p0), .val (.int p1), .val (.int (v_a p0)), .val (.long (v_ca p0)), .second, .val (.int (v_b p0)), .val (.long (v_cb p0)), .second, .val (.int (v_pop p0)), .val (.int (v_c p1)), .val (.long (v_cc p1)), .second, .val (.ref b2), .val (.int (1 : Int32)), .unset, .unset, .unset, .unset, .unset, .unset, .unset] [(.long (v_cb p0)), (.int (v_b p0)), (.ref b2)]) (fun _ k => XT.lload X111.here hx rfl (hb hby at_87) rfl k) ?_
          obtain ⟨cq114, kq114, q114a, q114b, q114c⟩ := isOf hZ rfl E112q
          obtain ⟨_, _, ⟨T114, L114, k114, n114⟩, -, X114, ⟨Lc114, hQ114, l114, y114, z114⟩, st114⟩ := X111.virtualBack hx (y := (⟨"com/example/nearpath/nearpath/answer/Frontier", "reach", "(IJ)V"⟩ : MethodName)) (z := (⟨"com/example/nearpath/nearpath/answer/Frontier", "reach", "(IJ)V"⟩ : MethodName)) hown (mvT hZ (hw _ (List.mem_of_getElem? (i := 37) rfl))) (mvT hZ (hw _ (List.mem_of_getElem? (i := 38) rfl))) (notFace_of_selects (args := #[]) (mvT hZ (hw _ (List.mem_of_getElem? (i := 40) rfl)))) (mvT hZ (hw _ (List.mem_of_getElem? (i := 40) rfl))) (mvT hZ (hw _ (List.mem_of_getElem? (i := 39) rfl))) (by decide) (backOf (W := 0) (rm_r3 l Z a0 hw [] b2 (v_b p0) (v_cb p0) lv_13 hc_13 hi_13 sn_13 (1 : Int32) (0 : Int64) (0 : Int32) (0 : Int32) (1 : Int32) (updJ (fun _ => (0 : Int64)) 0 (v_ca p0)) (updI (fun _ => (0 : Int32)) 0 (v_a p0)) (updI (fun _ => (0 : Int32)) ((v_a p0).toNatClampNeg) (-1 : Int32)) T111.heap n0 (Nat.le_trans Z0 K111.1) E112q F111_0 F111_1 F111_2 F111_3 F111_4 F111_5 F111_6 F111_7 F111_8 F111_9 V111_12 V111_10 V111_11 (by first | exact own_va p0 | exact own_vb p0 | exact own_vc p1) (by first | exact own_ca p0 | exact own_cb p0 | exact own_cc p1) (by first | decide | exact hlt | exact hM | (rw [hM]; decide)) (by first | decide | exact hlt | exact hM | (rw [hM]; decide)) (by first | decide | exact hlt | exact hM | (rw [hM]; decide)) g_hc_13 g_hi_13 g_sn_13 ne_b2_hc_13 ne_b2_hi_13 ne_b2_sn_13 P13_21 P13_22 P13_23) hZ (hw _ (List.mem_of_getElem? (i := 41) rfl)) (hw _ (List.mem_of_getElem? (i := 2) rfl)) (by decide) (by decide)) q114a q114c (g := (mkF m 89 #[.val (.int p0), .val (.int p1), .val (.int (v_a p0)), .val (.long (v_ca p0)), .second, .val (.int (v_b p0)), .val (.long (v_cb p0)), .second, .val (.int (v_pop p0)), .val (.int (v_c p1)), .val (.long (v_cc p1)), .second, .val (.ref b2), .val (.int (1 : Int32)), .unset, .unset, .unset, .unset, .unset, .unset, .unset] [(.long (v_cb p0)), (.int (v_b p0)), (.ref b2)])) rfl (by rw [hml]; rfl) (Steps.refl _) (argsL := [(.int (v_b p0)), (.long (v_cb p0))]) (rest := []) (lenOf pd_1 rfl) rfl (by show 2 * 0 + _ ≤ _; exact Nat.le_of_eq rfl) (hb hby at_89) (fun _ _ => ⟨rfl, rfl, (by decide : 5 + 0 ≤ _), (by decide : 62 + 0 ≤ _)⟩)
          dsimp only [Pt.U, Pt.locs, Pt.cells, Pt.slots] at X114 l114 y114 z114 st114 hQ114
          subst l114 y114 z114
          obtain ⟨rfl, N114q, K114q, V114_0, V114_1, V114_2⟩ := hQ114
          have N114 := Fr.app N111 N114q
          have E115q : Exa Z T114.heap b2 "com/example/nearpath/nearpath/answer/Frontier" := E112q.keep K114q
          have V116 : Ary Z T114.heap lv_13 .int 16 (bts (fun _ => (0 : Int32))) := V113.keep K114q (ninS P13_18 (ninS P13_19 (ninS P13_20 nin0)))
          have F117 : Fld Z T114.heap b2 "com/example/nearpath/nearpath/answer/Frontier" "seen" "[I" (.ref sn_13) := F111_0.keep K114q (ninS ne_b2_hc_13 (ninS ne_b2_hi_13 (ninS ne_b2_sn_13 nin0)))
          have F118 : Fld Z T114.heap b2 "com/example/nearpath/nearpath/answer/Frontier" "maxCost" "J" (.long (3 : Int64)) := F111_1.keep K114q (ninS ne_b2_hc_13 (ninS ne_b2_hi_13 (ninS ne_b2_sn_13 nin0)))
          have F119 : Fld Z T114.heap b2 "com/example/nearpath/nearpath/answer/Frontier" "search" "I" (.int (1 : Int32)) := F111_2.keep K114q (ninS ne_b2_hc_13 (ninS ne_b2_hi_13 (ninS ne_b2_sn_13 nin0)))
          have F120 : Fld Z T114.heap b2 "com/example/nearpath/nearpath/answer/Frontier" "cost" "J" (.long (0 : Int64)) := F111_3.keep K114q (ninS ne_b2_hc_13 (ninS ne_b2_hi_13 (ninS ne_b2_sn_13 nin0)))
          have F121 : Fld Z T114.heap b2 "com/example/nearpath/nearpath/answer/Frontier" "level" "[I" (.ref lv_13) := F111_4.keep K114q (ninS ne_b2_hc_13 (ninS ne_b2_hi_13 (ninS ne_b2_sn_13 nin0)))
          have F122 : Fld Z T114.heap b2 "com/example/nearpath/nearpath/answer/Frontier" "levelHead" "I" (.int (0 : Int32)) := F111_5.keep K114q (ninS ne_b2_hc_13 (ninS ne_b2_hi_13 (ninS ne_b2_sn_13 nin0)))
          have F123 : Fld Z T114.heap b2 "com/example/nearpath/nearpath/answer/Frontier" "levelTail" "I" (.int (0 : Int32)) := F111_6.keep K114q (ninS ne_b2_hc_13 (ninS ne_b2_hi_13 (ninS ne_b2_sn_13 nin0)))
          have F124 : Fld Z T114.heap b2 "com/example/nearpath/nearpath/answer/Frontier" "heapCosts" "[J" (.ref hc_13) := F111_7.keep K114q (ninS ne_b2_hc_13 (ninS ne_b2_hi_13 (ninS ne_b2_sn_13 nin0)))
          have F125 : Fld Z T114.heap b2 "com/example/nearpath/nearpath/answer/Frontier" "heapItems" "[I" (.ref hi_13) := F111_8.keep K114q (ninS ne_b2_hc_13 (ninS ne_b2_hi_13 (ninS ne_b2_sn_13 nin0)))
          have F126 : Fld Z T114.heap b2 "com/example/nearpath/nearpath/answer/Frontier" "heapSize" "I" (.int (1 : Int32)) := F111_9.keep K114q (ninS ne_b2_hc_13 (ninS ne_b2_hi_13 (ninS ne_b2_sn_13 nin0)))
          have K114 : Keep h0 T114.heap [] := K111.trans K114q (allS (Or.inr sz_hc_13) (allS (Or.inr sz_hi_13) (allS (Or.inr sz_sn_13) all0)))
          refine Go.st (mkF m 92 #[.val (.int p0), .val (.int p1), .val (.int (v_a p0)), .val (.long (v_ca p0)), .second, .val (.int (v_b p0)), .val (.long (v_cb p0)), .second, .val (.int (v_pop p0)), .val (.int (v_c p1)), .val (.long (v_cc p1)), .second, .val (.ref b2), .val (.int (1 : Int32)), .unset, .unset, .unset, .unset, .unset, .unset, .unset] []) (fun _ k => st114.trans k) ?_
          refine Go.st (mkF m 94 #[.val (.int p0), .val (.int p1), .val (.int (v_a p0)), .val (.long (v_ca p0)), .second, .val (.int (v_b p0)), .val (.long (v_cb p0)), .second, .val (.int (v_pop p0)), .val (.int (v_c p1)), .val (.long (v_cc p1)), .second, .val (.ref b2), .val (.int (1 : Int32)), .unset, .unset, .unset, .unset, .unset, .unset, .unset] [(.int (v_pop p0))]) (fun _ k => XS.iload X114.here hx rfl (hb hby at_92) rfl k) ?_
          by_cases hc94_127 : (v_pop p0) = (0 : Int32)
          ·
            refine Go.st (mkF m 103 #[.val (.int p0), .val (.int p1), .val (.int (v_a p0)), .val (.long (v_ca p0)), .second, .val (.int (v_b p0)), .val (.long (v_cb p0)), .second, .val (.int (v_pop p0)), .val (.int (v_c p1)), .val (.long (v_cc p1)), .second, .val (.ref b2), .val (.int (1 : Int32)), .unset, .unset, .unset, .unset, .unset, .unset, .unset] []) (fun _ k => XS.ifYes X114.here hx rfl (pc0 := 94) (pc' := 103) rfl (hb hby at_94) rfl ((if0 _ _).trans (teq hc94_127).1) (by decide) (by decide) k) ?_
            refine Go.st (mkF m 105 #[.val (.int p0), .val (.int p1), .val (.int (v_a p0)), .val (.long (v_ca p0)), .second, .val (.int (v_b p0)), .val (.long (v_cb p0)), .second, .val (.int (v_pop p0)), .val (.int (v_c p1)), .val (.long (v_cc p1)), .second, .val (.ref b2), .val (.int (1 : Int32)), .unset, .unset, .unset, .unset, .unset, .unset, .unset] [(.ref b2)]) (fun _ k => XS.aload X114.here hx rfl (hb hby at_103) rfl rfl k) ?_
            obtain ⟨cq128, kq128, q128a, q128b, q128c⟩ := isOf hZ rfl E115q
            obtain ⟨_, _, ⟨T128, L128, k128, n128⟩, -, X128, ⟨Lc128, hQ128, l128, y128, z128⟩, st128⟩ := X114.virtualBack hx (y := (⟨"com/example/nearpath/nearpath/answer/Frontier", "startSearch", "()I"⟩ : MethodName)) (z := (⟨"com/example/nearpath/nearpath/answer/Frontier", "startSearch", "()I"⟩ : MethodName)) hown (mvT hZ (hw _ (List.mem_of_getElem? (i := 22) rfl))) (mvT hZ (hw _ (List.mem_of_getElem? (i := 23) rfl))) (notFace_of_selects (args := #[]) (mvT hZ (hw _ (List.mem_of_getElem? (i := 25) rfl)))) (mvT hZ (hw _ (List.mem_of_getElem? (i := 25) rfl))) (mvT hZ (hw _ (List.mem_of_getElem? (i := 24) rfl))) (by decide) (backOf (W := 0) (rm_ss1 l Z a0 hw [] b2 lv_13 hc_13 hi_13 sn_13 (1 : Int32) (0 : Int64) (0 : Int32) (0 : Int32) (updI (updI (fun _ => (0 : Int32)) 0 (v_a p0)) 0 (v_b p0)) (updI (updI (fun _ => (0 : Int32)) ((v_a p0).toNatClampNeg) (-1 : Int32)) ((v_b p0).toNatClampNeg) (-1 : Int32)) T114.heap n0 (Nat.le_trans Z0 K114.1) E115q F117 F118 F119 F120 F121 F122 F123 F124 F125 F126 V114_1 V114_2 (by first | exact own_va p0 | exact own_vb p0 | exact own_vc p1) g_b2 g_sn_13 ne_b2_hi_13 ne_b2_sn_13 P13_23) hZ (hw _ (List.mem_of_getElem? (i := 26) rfl)) (hw _ (List.mem_of_getElem? (i := 2) rfl)) (by decide) (by decide)) q128a q128c (g := (mkF m 105 #[.val (.int p0), .val (.int p1), .val (.int (v_a p0)), .val (.long (v_ca p0)), .second, .val (.int (v_b p0)), .val (.long (v_cb p0)), .second, .val (.int (v_pop p0)), .val (.int (v_c p1)), .val (.long (v_cc p1)), .second, .val (.ref b2), .val (.int (1 : Int32)), .unset, .unset, .unset, .unset, .unset, .unset, .unset] [(.ref b2)])) rfl (by rw [hml]; rfl) (Steps.refl _) (argsL := []) (rest := []) (lenOf pd_3 rfl) rfl (by show 2 * 0 + _ ≤ _; exact Nat.le_of_eq rfl) (hb hby at_105) (fun _ _ => ⟨rfl, rfl, (by decide : 5 + 0 ≤ _), (by decide : 62 + 0 ≤ _)⟩)
            dsimp only [Pt.U, Pt.locs, Pt.cells, Pt.slots] at X128 l128 y128 z128 st128 hQ128
            subst l128 y128 z128
            obtain ⟨rfl, N128q, K128q, F128_0, F128_1, F128_2, F128_3, F128_4, F128_5, F128_6, F128_7, F128_8, F128_9, V128_10⟩ := hQ128
            have N128 := Fr.app N114 N128q
            have E129q : Exa Z T128.heap b2 "com/example/nearpath/nearpath/answer/Frontier" := E115q.keep K128q
            have V130 : Ary Z T128.heap lv_13 .int 16 (bts (fun _ => (0 : Int32))) := V116.keep K128q (ninS (Ne.symm ne_b2_lv_13) (ninS P13_20 nin0))
            have V131 : Ary Z T128.heap hc_13 .long 16 (lts (updJ (updJ (fun _ => (0 : Int64)) 0 (v_ca p0)) 0 (v_cb p0))) := V114_0.keep K128q (ninS (Ne.symm ne_b2_hc_13) (ninS P13_22 nin0))
            have V132 : Ary Z T128.heap hi_13 .int 16 (bts (updI (updI (fun _ => (0 : Int32)) 0 (v_a p0)) 0 (v_b p0))) := V114_1.keep K128q (ninS (Ne.symm ne_b2_hi_13) (ninS P13_23 nin0))
            have K128 : Keep h0 T128.heap [] := K114.trans K128q (allS (Or.inr sz_b2) (allS (Or.inr sz_sn_13) all0))
            refine Go.st (mkF m 108 #[.val (.int p0), .val (.int p1), .val (.int (v_a p0)), .val (.long (v_ca p0)), .second, .val (.int (v_b p0)), .val (.long (v_cb p0)), .second, .val (.int (v_pop p0)), .val (.int (v_c p1)), .val (.long (v_cc p1)), .second, .val (.ref b2), .val (.int (1 : Int32)), .unset, .unset, .unset, .unset, .unset, .unset, .unset] [(.int (2 : Int32))]) (fun _ k => st128.trans k) ?_
            have HG : ∀ j, j < 4 → (updI (updI (updI (fun _ => (0 : Int32)) ((v_a p0).toNatClampNeg) (-1 : Int32)) ((v_b p0).toNatClampNeg) (-1 : Int32)) (((updI (updI (fun _ => (0 : Int32)) 0 (v_a p0)) 0 (v_b p0)) 0).toNatClampNeg) (0 : Int32)) j = (0 : Int32) ∨ (updI (updI (updI (fun _ => (0 : Int32)) ((v_a p0).toNatClampNeg) (-1 : Int32)) ((v_b p0).toNatClampNeg) (-1 : Int32)) (((updI (updI (fun _ => (0 : Int32)) 0 (v_a p0)) 0 (v_b p0)) 0).toNatClampNeg) (0 : Int32)) j = (1 : Int32) := by
              intro j hj
              show (updI (updI (updI (fun _ => (0 : Int32)) ((v_a p0).toNatClampNeg) (-1 : Int32)) ((v_b p0).toNatClampNeg) (-1 : Int32)) ((v_b p0).toNatClampNeg) (0 : Int32)) j = (0 : Int32) ∨ (updI (updI (updI (fun _ => (0 : Int32)) ((v_a p0).toNatClampNeg) (-1 : Int32)) ((v_b p0).toNatClampNeg) (-1 : Int32)) ((v_b p0).toNatClampNeg) (0 : Int32)) j = (1 : Int32)
              exact own_hgE (A := ((v_a p0).toNatClampNeg)) (B := ((v_b p0).toNatClampNeg)) hBA (fun A_ B_ j => (updI (updI (updI (fun _ => (0 : Int32)) A_ (-1 : Int32)) B_ (-1 : Int32)) B_ (0 : Int32)) j) (by intro A_ B_ j h1; unfold updI; by_cases q1 : j = A_ <;> by_cases q2 : j = B_ <;> first | (simp only [if_pos q1, if_pos q2]; decide) | (simp only [if_pos q1, if_neg q2]; decide) | (simp only [if_neg q1, if_pos q2]; decide) | (simp only [if_neg q1, if_neg q2]; decide) | (exfalso; omega))
            exact JL _ _ _ (fun _ => (0 : Int32)) (updJ (updJ (fun _ => (0 : Int64)) 0 (v_ca p0)) 0 (v_cb p0)) (updI (updI (fun _ => (0 : Int32)) 0 (v_a p0)) 0 (v_b p0)) (updI (updI (updI (fun _ => (0 : Int32)) ((v_a p0).toNatClampNeg) (-1 : Int32)) ((v_b p0).toNatClampNeg) (-1 : Int32)) (((updI (updI (fun _ => (0 : Int32)) 0 (v_a p0)) 0 (v_b p0)) 0).toNatClampNeg) (0 : Int32)) X128 rfl N128 K128 HG E129q V130 V131 V132 V128_10 F128_0 F128_1 F128_2 F128_3 F128_4 F128_5 F128_6 F128_7 F128_8 F128_9
          ·
            refine Go.st (mkF m 97 #[.val (.int p0), .val (.int p1), .val (.int (v_a p0)), .val (.long (v_ca p0)), .second, .val (.int (v_b p0)), .val (.long (v_cb p0)), .second, .val (.int (v_pop p0)), .val (.int (v_c p1)), .val (.long (v_cc p1)), .second, .val (.ref b2), .val (.int (1 : Int32)), .unset, .unset, .unset, .unset, .unset, .unset, .unset] []) (fun _ k => XS.ifNo X114.here hx rfl (hb hby at_94) rfl ((if0 _ _).trans (feq hc94_127).1) k) ?_
            refine Go.st (mkF m 99 #[.val (.int p0), .val (.int p1), .val (.int (v_a p0)), .val (.long (v_ca p0)), .second, .val (.int (v_b p0)), .val (.long (v_cb p0)), .second, .val (.int (v_pop p0)), .val (.int (v_c p1)), .val (.long (v_cc p1)), .second, .val (.ref b2), .val (.int (1 : Int32)), .unset, .unset, .unset, .unset, .unset, .unset, .unset] [(.ref b2)]) (fun _ k => XS.aload X114.here hx rfl (hb hby at_97) rfl rfl k) ?_
            obtain ⟨cq133, kq133, q133a, q133b, q133c⟩ := isOf hZ rfl E115q
            obtain ⟨_, _, ⟨T133, L133, k133, n133⟩, -, X133, ⟨Lc133, hQ133, l133, y133, z133⟩, st133⟩ := X114.virtualBack hx (y := (⟨"com/example/nearpath/nearpath/answer/Frontier", "next", "()I"⟩ : MethodName)) (z := (⟨"com/example/nearpath/nearpath/answer/Frontier", "next", "()I"⟩ : MethodName)) hown (mvT hZ (hw _ (List.mem_of_getElem? (i := 45) rfl))) (mvT hZ (hw _ (List.mem_of_getElem? (i := 46) rfl))) (notFace_of_selects (args := #[]) (mvT hZ (hw _ (List.mem_of_getElem? (i := 48) rfl)))) (mvT hZ (hw _ (List.mem_of_getElem? (i := 48) rfl))) (mvT hZ (hw _ (List.mem_of_getElem? (i := 47) rfl))) (by decide) (backOf (W := 0) (rm_n3 l Z a0 hw [] b2 lv_13 hc_13 hi_13 sn_13 (1 : Int32) (0 : Int64) (updJ (updJ (fun _ => (0 : Int64)) 0 (v_ca p0)) 0 (v_cb p0)) (updI (updI (fun _ => (0 : Int32)) 0 (v_a p0)) 0 (v_b p0)) (updI (updI (fun _ => (0 : Int32)) ((v_a p0).toNatClampNeg) (-1 : Int32)) ((v_b p0).toNatClampNeg) (-1 : Int32)) T114.heap n0 (Nat.le_trans Z0 K114.1) E115q F117 F118 F119 F120 F121 F122 F123 F124 F125 F126 V114_0 V114_1 V114_2 (by first | exact own_va p0 | exact own_vb p0 | exact own_vc p1) g_b2 g_sn_13 ne_b2_hc_13 ne_b2_hi_13 ne_b2_sn_13 P13_21 P13_22 P13_23) hZ (hw _ (List.mem_of_getElem? (i := 49) rfl)) (hw _ (List.mem_of_getElem? (i := 2) rfl)) (by decide) (by decide)) q133a q133c (g := (mkF m 99 #[.val (.int p0), .val (.int p1), .val (.int (v_a p0)), .val (.long (v_ca p0)), .second, .val (.int (v_b p0)), .val (.long (v_cb p0)), .second, .val (.int (v_pop p0)), .val (.int (v_c p1)), .val (.long (v_cc p1)), .second, .val (.ref b2), .val (.int (1 : Int32)), .unset, .unset, .unset, .unset, .unset, .unset, .unset] [(.ref b2)])) rfl (by rw [hml]; rfl) (Steps.refl _) (argsL := []) (rest := []) (lenOf pd_3 rfl) rfl (by show 2 * 0 + _ ≤ _; exact Nat.le_of_eq rfl) (hb hby at_99) (fun _ _ => ⟨rfl, rfl, (by decide : 5 + 0 ≤ _), (by decide : 62 + 0 ≤ _)⟩)
            dsimp only [Pt.U, Pt.locs, Pt.cells, Pt.slots] at X133 l133 y133 z133 st133 hQ133
            subst l133 y133 z133
            obtain ⟨rfl, N133q, K133q, F133_0, F133_1, F133_2, F133_3, F133_4, F133_5, F133_6, F133_7, F133_8, F133_9, V133_10⟩ := hQ133
            have N133 := Fr.app N114 N133q
            have E134q : Exa Z T133.heap b2 "com/example/nearpath/nearpath/answer/Frontier" := E115q.keep K133q
            have V135 : Ary Z T133.heap lv_13 .int 16 (bts (fun _ => (0 : Int32))) := V116.keep K133q (ninS (Ne.symm ne_b2_lv_13) (ninS P13_20 nin0))
            have V136 : Ary Z T133.heap hc_13 .long 16 (lts (updJ (updJ (fun _ => (0 : Int64)) 0 (v_ca p0)) 0 (v_cb p0))) := V114_0.keep K133q (ninS (Ne.symm ne_b2_hc_13) (ninS P13_22 nin0))
            have V137 : Ary Z T133.heap hi_13 .int 16 (bts (updI (updI (fun _ => (0 : Int32)) 0 (v_a p0)) 0 (v_b p0))) := V114_1.keep K133q (ninS (Ne.symm ne_b2_hi_13) (ninS P13_23 nin0))
            have K133 : Keep h0 T133.heap [] := K114.trans K133q (allS (Or.inr sz_b2) (allS (Or.inr sz_sn_13) all0))
            refine Go.st (mkF m 102 #[.val (.int p0), .val (.int p1), .val (.int (v_a p0)), .val (.long (v_ca p0)), .second, .val (.int (v_b p0)), .val (.long (v_cb p0)), .second, .val (.int (v_pop p0)), .val (.int (v_c p1)), .val (.long (v_cc p1)), .second, .val (.ref b2), .val (.int (1 : Int32)), .unset, .unset, .unset, .unset, .unset, .unset, .unset] [(.int ((updI (updI (fun _ => (0 : Int32)) 0 (v_a p0)) 0 (v_b p0)) 0))]) (fun _ k => st133.trans k) ?_
            refine Go.st (mkF m 103 #[.val (.int p0), .val (.int p1), .val (.int (v_a p0)), .val (.long (v_ca p0)), .second, .val (.int (v_b p0)), .val (.long (v_cb p0)), .second, .val (.int (v_pop p0)), .val (.int (v_c p1)), .val (.long (v_cc p1)), .second, .val (.ref b2), .val (.int (1 : Int32)), .unset, .unset, .unset, .unset, .unset, .unset, .unset] []) (fun _ k => XT.pop X133.here hx rfl (hb hby at_102) rfl rfl k) ?_
            refine Go.st (mkF m 105 #[.val (.int p0), .val (.int p1), .val (.int (v_a p0)), .val (.long (v_ca p0)), .second, .val (.int (v_b p0)), .val (.long (v_cb p0)), .second, .val (.int (v_pop p0)), .val (.int (v_c p1)), .val (.long (v_cc p1)), .second, .val (.ref b2), .val (.int (1 : Int32)), .unset, .unset, .unset, .unset, .unset, .unset, .unset] [(.ref b2)]) (fun _ k => XS.aload X133.here hx rfl (hb hby at_103) rfl rfl k) ?_
            obtain ⟨cq138, kq138, q138a, q138b, q138c⟩ := isOf hZ rfl E134q
            obtain ⟨_, _, ⟨T138, L138, k138, n138⟩, -, X138, ⟨Lc138, hQ138, l138, y138, z138⟩, st138⟩ := X133.virtualBack hx (y := (⟨"com/example/nearpath/nearpath/answer/Frontier", "startSearch", "()I"⟩ : MethodName)) (z := (⟨"com/example/nearpath/nearpath/answer/Frontier", "startSearch", "()I"⟩ : MethodName)) hown (mvT hZ (hw _ (List.mem_of_getElem? (i := 22) rfl))) (mvT hZ (hw _ (List.mem_of_getElem? (i := 23) rfl))) (notFace_of_selects (args := #[]) (mvT hZ (hw _ (List.mem_of_getElem? (i := 25) rfl)))) (mvT hZ (hw _ (List.mem_of_getElem? (i := 25) rfl))) (mvT hZ (hw _ (List.mem_of_getElem? (i := 24) rfl))) (by decide) (backOf (W := 0) (rm_ss0 l Z a0 hw [] b2 lv_13 hc_13 hi_13 sn_13 (1 : Int32) ((updJ (updJ (fun _ => (0 : Int64)) 0 (v_ca p0)) 0 (v_cb p0)) 0) (0 : Int32) (0 : Int32) (updI (updI (fun _ => (0 : Int32)) 0 (v_a p0)) 0 (v_b p0)) (updI (updI (updI (fun _ => (0 : Int32)) ((v_a p0).toNatClampNeg) (-1 : Int32)) ((v_b p0).toNatClampNeg) (-1 : Int32)) (((updI (updI (fun _ => (0 : Int32)) 0 (v_a p0)) 0 (v_b p0)) 0).toNatClampNeg) (1 : Int32)) T133.heap n0 (Nat.le_trans Z0 K133.1) E134q F133_0 F133_1 F133_2 F133_3 F133_4 F133_5 F133_6 F133_7 F133_8 F133_9 V137 V133_10 g_b2 g_sn_13 ne_b2_hi_13 ne_b2_sn_13 P13_23) hZ (hw _ (List.mem_of_getElem? (i := 26) rfl)) (hw _ (List.mem_of_getElem? (i := 2) rfl)) (by decide) (by decide)) q138a q138c (g := (mkF m 105 #[.val (.int p0), .val (.int p1), .val (.int (v_a p0)), .val (.long (v_ca p0)), .second, .val (.int (v_b p0)), .val (.long (v_cb p0)), .second, .val (.int (v_pop p0)), .val (.int (v_c p1)), .val (.long (v_cc p1)), .second, .val (.ref b2), .val (.int (1 : Int32)), .unset, .unset, .unset, .unset, .unset, .unset, .unset] [(.ref b2)])) rfl (by rw [hml]; rfl) (Steps.refl _) (argsL := []) (rest := []) (lenOf pd_3 rfl) rfl (by show 2 * 0 + _ ≤ _; exact Nat.le_of_eq rfl) (hb hby at_105) (fun _ _ => ⟨rfl, rfl, (by decide : 5 + 0 ≤ _), (by decide : 62 + 0 ≤ _)⟩)
            dsimp only [Pt.U, Pt.locs, Pt.cells, Pt.slots] at X138 l138 y138 z138 st138 hQ138
            subst l138 y138 z138
            obtain ⟨rfl, N138q, K138q, F138_0, F138_1, F138_2, F138_3, F138_4, F138_5, F138_6, F138_7, F138_8, F138_9⟩ := hQ138
            have N138 := Fr.app N133 N138q
            have E139q : Exa Z T138.heap b2 "com/example/nearpath/nearpath/answer/Frontier" := E134q.keep K138q
            have V140 : Ary Z T138.heap lv_13 .int 16 (bts (fun _ => (0 : Int32))) := V135.keep K138q (ninS (Ne.symm ne_b2_lv_13) nin0)
            have V141 : Ary Z T138.heap hc_13 .long 16 (lts (updJ (updJ (fun _ => (0 : Int64)) 0 (v_ca p0)) 0 (v_cb p0))) := V136.keep K138q (ninS (Ne.symm ne_b2_hc_13) nin0)
            have V142 : Ary Z T138.heap hi_13 .int 16 (bts (updI (updI (fun _ => (0 : Int32)) 0 (v_a p0)) 0 (v_b p0))) := V137.keep K138q (ninS (Ne.symm ne_b2_hi_13) nin0)
            have V143 : Ary Z T138.heap sn_13 .int 4 (bts (updI (updI (updI (fun _ => (0 : Int32)) ((v_a p0).toNatClampNeg) (-1 : Int32)) ((v_b p0).toNatClampNeg) (-1 : Int32)) (((updI (updI (fun _ => (0 : Int32)) 0 (v_a p0)) 0 (v_b p0)) 0).toNatClampNeg) (1 : Int32))) := V133_10.keep K138q (ninS (Ne.symm ne_b2_sn_13) nin0)
            have K138 : Keep h0 T138.heap [] := K133.trans K138q (allS (Or.inr sz_b2) all0)
            refine Go.st (mkF m 108 #[.val (.int p0), .val (.int p1), .val (.int (v_a p0)), .val (.long (v_ca p0)), .second, .val (.int (v_b p0)), .val (.long (v_cb p0)), .second, .val (.int (v_pop p0)), .val (.int (v_c p1)), .val (.long (v_cc p1)), .second, .val (.ref b2), .val (.int (1 : Int32)), .unset, .unset, .unset, .unset, .unset, .unset, .unset] [(.int (2 : Int32))]) (fun _ k => st138.trans k) ?_
            have HG : ∀ j, j < 4 → (updI (updI (updI (fun _ => (0 : Int32)) ((v_a p0).toNatClampNeg) (-1 : Int32)) ((v_b p0).toNatClampNeg) (-1 : Int32)) (((updI (updI (fun _ => (0 : Int32)) 0 (v_a p0)) 0 (v_b p0)) 0).toNatClampNeg) (1 : Int32)) j = (0 : Int32) ∨ (updI (updI (updI (fun _ => (0 : Int32)) ((v_a p0).toNatClampNeg) (-1 : Int32)) ((v_b p0).toNatClampNeg) (-1 : Int32)) (((updI (updI (fun _ => (0 : Int32)) 0 (v_a p0)) 0 (v_b p0)) 0).toNatClampNeg) (1 : Int32)) j = (1 : Int32) := by
              intro j hj
              show (updI (updI (updI (fun _ => (0 : Int32)) ((v_a p0).toNatClampNeg) (-1 : Int32)) ((v_b p0).toNatClampNeg) (-1 : Int32)) ((v_b p0).toNatClampNeg) (1 : Int32)) j = (0 : Int32) ∨ (updI (updI (updI (fun _ => (0 : Int32)) ((v_a p0).toNatClampNeg) (-1 : Int32)) ((v_b p0).toNatClampNeg) (-1 : Int32)) ((v_b p0).toNatClampNeg) (1 : Int32)) j = (1 : Int32)
              exact own_hgE (A := ((v_a p0).toNatClampNeg)) (B := ((v_b p0).toNatClampNeg)) hBA (fun A_ B_ j => (updI (updI (updI (fun _ => (0 : Int32)) A_ (-1 : Int32)) B_ (-1 : Int32)) B_ (1 : Int32)) j) (by intro A_ B_ j h1; unfold updI; by_cases q1 : j = A_ <;> by_cases q2 : j = B_ <;> first | (simp only [if_pos q1, if_pos q2]; decide) | (simp only [if_pos q1, if_neg q2]; decide) | (simp only [if_neg q1, if_pos q2]; decide) | (simp only [if_neg q1, if_neg q2]; decide) | (exfalso; omega))
            exact JL _ _ _ (fun _ => (0 : Int32)) (updJ (updJ (fun _ => (0 : Int64)) 0 (v_ca p0)) 0 (v_cb p0)) (updI (updI (fun _ => (0 : Int32)) 0 (v_a p0)) 0 (v_b p0)) (updI (updI (updI (fun _ => (0 : Int32)) ((v_a p0).toNatClampNeg) (-1 : Int32)) ((v_b p0).toNatClampNeg) (-1 : Int32)) (((updI (updI (fun _ => (0 : Int32)) 0 (v_a p0)) 0 (v_b p0)) 0).toNatClampNeg) (1 : Int32)) X138 rfl N138 K138 HG E139q V140 V141 V142 V143 F138_0 F138_1 F138_2 F138_3 F138_4 F138_5 F138_6 F138_7 F138_8 F138_9
        ·
          refine Go.st (mkF m 85 #[.val (.int p0), .val (.int p1), .val (.int (v_a p0)), .val (.long (v_ca p0)), .second, .val (.int (v_b p0)), .val (.long (v_cb p0)), .second, .val (.int (v_pop p0)), .val (.int (v_c p1)), .val (.long (v_cc p1)), .second, .val (.ref b2), .val (.int (1 : Int32)), .unset, .unset, .unset, .unset, .unset, .unset, .unset] [(.ref b2)]) (fun _ k => XS.aload X111.here hx rfl (hb hby at_83) rfl rfl k) ?_
          refine Go.st (mkF m 87 #[.val (.int p0), .val (.int p1), .val (.int (v_a p0)), .val (.long (v_ca p0)), .second, .val (.int (v_b p0)), .val (.long (v_cb p0)), .second, .val (.int (v_pop p0)), .val (.int (v_c p1)), .val (.long (v_cc p1)), .second, .val (.ref b2), .val (.int (1 : Int32)), .unset, .unset, .unset, .unset, .unset, .unset, .unset] [(.int (v_b p0)), (.ref b2)]) (fun _ k => XS.iload X111.here hx rfl (hb hby at_85) rfl k) ?_
          refine Go.st (mkF m 89 #[.val (.int p0), .val (.int p1), .val (.int (v_a p0)), .val (.long (v_ca p0)), .second, .val (.int (v_b p0)), .val (.long (v_cb p0)), .second, .val (.int (v_pop p0)), .val (.int (v_c p1)), .val (.long (v_cc p1)), .second, .val (.ref b2), .val (.int (1 : Int32)), .unset, .unset, .unset, .unset, .unset, .unset, .unset] [(.long (v_cb p0)), (.int (v_b p0)), (.ref b2)]) (fun _ k => XT.lload X111.here hx rfl (hb hby at_87) rfl k) ?_
          obtain ⟨cq144, kq144, q144a, q144b, q144c⟩ := isOf hZ rfl E112q
          obtain ⟨_, _, ⟨T144, L144, k144, n144⟩, -, X144, ⟨Lc144, hQ144, l144, y144, z144⟩, st144⟩ := X111.virtualBack hx (y := (⟨"com/example/nearpath/nearpath/answer/Frontier", "reach", "(IJ)V"⟩ : MethodName)) (z := (⟨"com/example/nearpath/nearpath/answer/Frontier", "reach", "(IJ)V"⟩ : MethodName)) hown (mvT hZ (hw _ (List.mem_of_getElem? (i := 37) rfl))) (mvT hZ (hw _ (List.mem_of_getElem? (i := 38) rfl))) (notFace_of_selects (args := #[]) (mvT hZ (hw _ (List.mem_of_getElem? (i := 40) rfl)))) (mvT hZ (hw _ (List.mem_of_getElem? (i := 40) rfl))) (mvT hZ (hw _ (List.mem_of_getElem? (i := 39) rfl))) (by decide) (backOf (W := 0) (rm_r2 l Z a0 hw [] b2 (v_b p0) (v_cb p0) lv_13 hc_13 hi_13 sn_13 (1 : Int32) (0 : Int64) (0 : Int32) (0 : Int32) (1 : Int32) (updJ (fun _ => (0 : Int64)) 0 (v_ca p0)) (updI (fun _ => (0 : Int32)) ((v_a p0).toNatClampNeg) (-1 : Int32)) T111.heap n0 (Nat.le_trans Z0 K111.1) E112q F111_0 F111_1 F111_2 F111_3 F111_4 F111_5 F111_6 F111_7 F111_8 F111_9 V111_12 V111_10 (by first | exact own_va p0 | exact own_vb p0 | exact own_vc p1) (by first | exact own_ca p0 | exact own_cb p0 | exact own_cc p1) (by first | decide | exact hlt | exact hM | (rw [hM]; decide)) (by first | decide | exact hlt | exact hM | (rw [hM]; decide)) (by first | decide | exact hlt | exact hM | (rw [hM]; decide))) hZ (hw _ (List.mem_of_getElem? (i := 41) rfl)) (hw _ (List.mem_of_getElem? (i := 2) rfl)) (by decide) (by decide)) q144a q144c (g := (mkF m 89 #[.val (.int p0), .val (.int p1), .val (.int (v_a p0)), .val (.long (v_ca p0)), .second, .val (.int (v_b p0)), .val (.long (v_cb p0)), .second, .val (.int (v_pop p0)), .val (.int (v_c p1)), .val (.long (v_cc p1)), .second, .val (.ref b2), .val (.int (1 : Int32)), .unset, .unset, .unset, .unset, .unset, .unset, .unset] [(.long (v_cb p0)), (.int (v_b p0)), (.ref b2)])) rfl (by rw [hml]; rfl) (Steps.refl _) (argsL := [(.int (v_b p0)), (.long (v_cb p0))]) (rest := []) (lenOf pd_1 rfl) rfl (by show 2 * 0 + _ ≤ _; exact Nat.le_of_eq rfl) (hb hby at_89) (fun _ _ => ⟨rfl, rfl, (by decide : 5 + 0 ≤ _), (by decide : 62 + 0 ≤ _)⟩)
          dsimp only [Pt.U, Pt.locs, Pt.cells, Pt.slots] at X144 l144 y144 z144 st144 hQ144
          subst l144 y144 z144
          obtain ⟨rfl, N144q, e144⟩ := hQ144
          have N144 := Fr.app N111 N144q
          refine Go.st (mkF m 92 #[.val (.int p0), .val (.int p1), .val (.int (v_a p0)), .val (.long (v_ca p0)), .second, .val (.int (v_b p0)), .val (.long (v_cb p0)), .second, .val (.int (v_pop p0)), .val (.int (v_c p1)), .val (.long (v_cc p1)), .second, .val (.ref b2), .val (.int (1 : Int32)), .unset, .unset, .unset, .unset, .unset, .unset, .unset] []) (fun _ k => st144.trans k) ?_
          refine Go.st (mkF m 94 #[.val (.int p0), .val (.int p1), .val (.int (v_a p0)), .val (.long (v_ca p0)), .second, .val (.int (v_b p0)), .val (.long (v_cb p0)), .second, .val (.int (v_pop p0)), .val (.int (v_c p1)), .val (.long (v_cc p1)), .second, .val (.ref b2), .val (.int (1 : Int32)), .unset, .unset, .unset, .unset, .unset, .unset, .unset] [(.int (v_pop p0))]) (fun _ k => XS.iload X144.here hx rfl (hb hby at_92) rfl k) ?_
          by_cases hc94_145 : (v_pop p0) = (0 : Int32)
          ·
            refine Go.st (mkF m 103 #[.val (.int p0), .val (.int p1), .val (.int (v_a p0)), .val (.long (v_ca p0)), .second, .val (.int (v_b p0)), .val (.long (v_cb p0)), .second, .val (.int (v_pop p0)), .val (.int (v_c p1)), .val (.long (v_cc p1)), .second, .val (.ref b2), .val (.int (1 : Int32)), .unset, .unset, .unset, .unset, .unset, .unset, .unset] []) (fun _ k => XS.ifYes X144.here hx rfl (pc0 := 94) (pc' := 103) rfl (hb hby at_94) rfl ((if0 _ _).trans (teq hc94_145).1) (by decide) (by decide) k) ?_
            refine Go.st (mkF m 105 #[.val (.int p0), .val (.int p1), .val (.int (v_a p0)), .val (.long (v_ca p0)), .second, .val (.int (v_b p0)), .val (.long (v_cb p0)), .second, .val (.int (v_pop p0)), .val (.int (v_c p1)), .val (.long (v_cc p1)), .second, .val (.ref b2), .val (.int (1 : Int32)), .unset, .unset, .unset, .unset, .unset, .unset, .unset] [(.ref b2)]) (fun _ k => XS.aload X144.here hx rfl (hb hby at_103) rfl rfl k) ?_
            obtain ⟨cq146, kq146, q146a, q146b, q146c⟩ := isOf hZ e144 E112q
            obtain ⟨_, _, ⟨T146, L146, k146, n146⟩, -, X146, ⟨Lc146, hQ146, l146, y146, z146⟩, st146⟩ := X144.virtualBack hx (y := (⟨"com/example/nearpath/nearpath/answer/Frontier", "startSearch", "()I"⟩ : MethodName)) (z := (⟨"com/example/nearpath/nearpath/answer/Frontier", "startSearch", "()I"⟩ : MethodName)) hown (mvT hZ (hw _ (List.mem_of_getElem? (i := 22) rfl))) (mvT hZ (hw _ (List.mem_of_getElem? (i := 23) rfl))) (notFace_of_selects (args := #[]) (mvT hZ (hw _ (List.mem_of_getElem? (i := 25) rfl)))) (mvT hZ (hw _ (List.mem_of_getElem? (i := 25) rfl))) (mvT hZ (hw _ (List.mem_of_getElem? (i := 24) rfl))) (by decide) (backOf (W := 0) (rm_ss1 l Z a0 hw [] b2 lv_13 hc_13 hi_13 sn_13 (1 : Int32) (0 : Int64) (0 : Int32) (0 : Int32) (updI (fun _ => (0 : Int32)) 0 (v_a p0)) (updI (fun _ => (0 : Int32)) ((v_a p0).toNatClampNeg) (-1 : Int32)) T111.heap n0 (Nat.le_trans Z0 K111.1) E112q F111_0 F111_1 F111_2 F111_3 F111_4 F111_5 F111_6 F111_7 F111_8 F111_9 V111_11 V111_12 (by first | exact own_va p0 | exact own_vb p0 | exact own_vc p1) g_b2 g_sn_13 ne_b2_hi_13 ne_b2_sn_13 P13_23) hZ (hw _ (List.mem_of_getElem? (i := 26) rfl)) (hw _ (List.mem_of_getElem? (i := 2) rfl)) (by decide) (by decide)) q146a q146c (g := (mkF m 105 #[.val (.int p0), .val (.int p1), .val (.int (v_a p0)), .val (.long (v_ca p0)), .second, .val (.int (v_b p0)), .val (.long (v_cb p0)), .second, .val (.int (v_pop p0)), .val (.int (v_c p1)), .val (.long (v_cc p1)), .second, .val (.ref b2), .val (.int (1 : Int32)), .unset, .unset, .unset, .unset, .unset, .unset, .unset] [(.ref b2)])) rfl (by rw [hml]; rfl) (Steps.refl _) (argsL := []) (rest := []) (lenOf pd_3 rfl) rfl (by show 2 * 0 + _ ≤ _; exact Nat.le_of_eq rfl) (hb hby at_105) (fun _ _ => ⟨rfl, e144, (by decide : 5 + 0 ≤ _), (by decide : 62 + 0 ≤ _)⟩)
            dsimp only [Pt.U, Pt.locs, Pt.cells, Pt.slots] at X146 l146 y146 z146 st146 hQ146
            subst l146 y146 z146
            obtain ⟨rfl, N146q, K146q, F146_0, F146_1, F146_2, F146_3, F146_4, F146_5, F146_6, F146_7, F146_8, F146_9, V146_10⟩ := hQ146
            have N146 := Fr.app N144 N146q
            have E147q : Exa Z T146.heap b2 "com/example/nearpath/nearpath/answer/Frontier" := E112q.keep K146q
            have V148 : Ary Z T146.heap lv_13 .int 16 (bts (fun _ => (0 : Int32))) := V113.keep K146q (ninS (Ne.symm ne_b2_lv_13) (ninS P13_20 nin0))
            have V149 : Ary Z T146.heap hc_13 .long 16 (lts (updJ (fun _ => (0 : Int64)) 0 (v_ca p0))) := V111_10.keep K146q (ninS (Ne.symm ne_b2_hc_13) (ninS P13_22 nin0))
            have V150 : Ary Z T146.heap hi_13 .int 16 (bts (updI (fun _ => (0 : Int32)) 0 (v_a p0))) := V111_11.keep K146q (ninS (Ne.symm ne_b2_hi_13) (ninS P13_23 nin0))
            have K146 : Keep h0 T146.heap [] := K111.trans K146q (allS (Or.inr sz_b2) (allS (Or.inr sz_sn_13) all0))
            refine Go.st (mkF m 108 #[.val (.int p0), .val (.int p1), .val (.int (v_a p0)), .val (.long (v_ca p0)), .second, .val (.int (v_b p0)), .val (.long (v_cb p0)), .second, .val (.int (v_pop p0)), .val (.int (v_c p1)), .val (.long (v_cc p1)), .second, .val (.ref b2), .val (.int (1 : Int32)), .unset, .unset, .unset, .unset, .unset, .unset, .unset] [(.int (2 : Int32))]) (fun _ k => st146.trans k) ?_
            have HG : ∀ j, j < 4 → (updI (updI (fun _ => (0 : Int32)) ((v_a p0).toNatClampNeg) (-1 : Int32)) (((updI (fun _ => (0 : Int32)) 0 (v_a p0)) 0).toNatClampNeg) (0 : Int32)) j = (0 : Int32) ∨ (updI (updI (fun _ => (0 : Int32)) ((v_a p0).toNatClampNeg) (-1 : Int32)) (((updI (fun _ => (0 : Int32)) 0 (v_a p0)) 0).toNatClampNeg) (0 : Int32)) j = (1 : Int32) := by
              intro j hj
              show (updI (updI (fun _ => (0 : Int32)) ((v_a p0).toNatClampNeg) (-1 : Int32)) ((v_a p0).toNatClampNeg) (0 : Int32)) j = (0 : Int32) ∨ (updI (updI (fun _ => (0 : Int32)) ((v_a p0).toNatClampNeg) (-1 : Int32)) ((v_a p0).toNatClampNeg) (0 : Int32)) j = (1 : Int32)
              exact own_hgE (A := ((v_a p0).toNatClampNeg)) (B := ((v_b p0).toNatClampNeg)) hBA (fun A_ B_ j => (updI (updI (fun _ => (0 : Int32)) A_ (-1 : Int32)) A_ (0 : Int32)) j) (by intro A_ B_ j h1; unfold updI; by_cases q1 : j = A_ <;> by_cases q2 : j = B_ <;> first | (simp only [if_pos q1, if_pos q2]; decide) | (simp only [if_pos q1, if_neg q2]; decide) | (simp only [if_neg q1, if_pos q2]; decide) | (simp only [if_neg q1, if_neg q2]; decide) | (exfalso; omega))
            exact JL _ _ _ (fun _ => (0 : Int32)) (updJ (fun _ => (0 : Int64)) 0 (v_ca p0)) (updI (fun _ => (0 : Int32)) 0 (v_a p0)) (updI (updI (fun _ => (0 : Int32)) ((v_a p0).toNatClampNeg) (-1 : Int32)) (((updI (fun _ => (0 : Int32)) 0 (v_a p0)) 0).toNatClampNeg) (0 : Int32)) X146 rfl N146 K146 HG E147q V148 V149 V150 V146_10 F146_0 F146_1 F146_2 F146_3 F146_4 F146_5 F146_6 F146_7 F146_8 F146_9
          ·
            refine Go.st (mkF m 97 #[.val (.int p0), .val (.int p1), .val (.int (v_a p0)), .val (.long (v_ca p0)), .second, .val (.int (v_b p0)), .val (.long (v_cb p0)), .second, .val (.int (v_pop p0)), .val (.int (v_c p1)), .val (.long (v_cc p1)), .second, .val (.ref b2), .val (.int (1 : Int32)), .unset, .unset, .unset, .unset, .unset, .unset, .unset] []) (fun _ k => XS.ifNo X144.here hx rfl (hb hby at_94) rfl ((if0 _ _).trans (feq hc94_145).1) k) ?_
            refine Go.st (mkF m 99 #[.val (.int p0), .val (.int p1), .val (.int (v_a p0)), .val (.long (v_ca p0)), .second, .val (.int (v_b p0)), .val (.long (v_cb p0)), .second, .val (.int (v_pop p0)), .val (.int (v_c p1)), .val (.long (v_cc p1)), .second, .val (.ref b2), .val (.int (1 : Int32)), .unset, .unset, .unset, .unset, .unset, .unset, .unset] [(.ref b2)]) (fun _ k => XS.aload X144.here hx rfl (hb hby at_97) rfl rfl k) ?_
            obtain ⟨cq151, kq151, q151a, q151b, q151c⟩ := isOf hZ e144 E112q
            obtain ⟨_, _, ⟨T151, L151, k151, n151⟩, -, X151, ⟨Lc151, hQ151, l151, y151, z151⟩, st151⟩ := X144.virtualBack hx (y := (⟨"com/example/nearpath/nearpath/answer/Frontier", "next", "()I"⟩ : MethodName)) (z := (⟨"com/example/nearpath/nearpath/answer/Frontier", "next", "()I"⟩ : MethodName)) hown (mvT hZ (hw _ (List.mem_of_getElem? (i := 45) rfl))) (mvT hZ (hw _ (List.mem_of_getElem? (i := 46) rfl))) (notFace_of_selects (args := #[]) (mvT hZ (hw _ (List.mem_of_getElem? (i := 48) rfl)))) (mvT hZ (hw _ (List.mem_of_getElem? (i := 48) rfl))) (mvT hZ (hw _ (List.mem_of_getElem? (i := 47) rfl))) (by decide) (backOf (W := 0) (rm_n3 l Z a0 hw [] b2 lv_13 hc_13 hi_13 sn_13 (1 : Int32) (0 : Int64) (updJ (fun _ => (0 : Int64)) 0 (v_ca p0)) (updI (fun _ => (0 : Int32)) 0 (v_a p0)) (updI (fun _ => (0 : Int32)) ((v_a p0).toNatClampNeg) (-1 : Int32)) T111.heap n0 (Nat.le_trans Z0 K111.1) E112q F111_0 F111_1 F111_2 F111_3 F111_4 F111_5 F111_6 F111_7 F111_8 F111_9 V111_10 V111_11 V111_12 (by first | exact own_va p0 | exact own_vb p0 | exact own_vc p1) g_b2 g_sn_13 ne_b2_hc_13 ne_b2_hi_13 ne_b2_sn_13 P13_21 P13_22 P13_23) hZ (hw _ (List.mem_of_getElem? (i := 49) rfl)) (hw _ (List.mem_of_getElem? (i := 2) rfl)) (by decide) (by decide)) q151a q151c (g := (mkF m 99 #[.val (.int p0), .val (.int p1), .val (.int (v_a p0)), .val (.long (v_ca p0)), .second, .val (.int (v_b p0)), .val (.long (v_cb p0)), .second, .val (.int (v_pop p0)), .val (.int (v_c p1)), .val (.long (v_cc p1)), .second, .val (.ref b2), .val (.int (1 : Int32)), .unset, .unset, .unset, .unset, .unset, .unset, .unset] [(.ref b2)])) rfl (by rw [hml]; rfl) (Steps.refl _) (argsL := []) (rest := []) (lenOf pd_3 rfl) rfl (by show 2 * 0 + _ ≤ _; exact Nat.le_of_eq rfl) (hb hby at_99) (fun _ _ => ⟨rfl, e144, (by decide : 5 + 0 ≤ _), (by decide : 62 + 0 ≤ _)⟩)
            dsimp only [Pt.U, Pt.locs, Pt.cells, Pt.slots] at X151 l151 y151 z151 st151 hQ151
            subst l151 y151 z151
            obtain ⟨rfl, N151q, K151q, F151_0, F151_1, F151_2, F151_3, F151_4, F151_5, F151_6, F151_7, F151_8, F151_9, V151_10⟩ := hQ151
            have N151 := Fr.app N144 N151q
            have E152q : Exa Z T151.heap b2 "com/example/nearpath/nearpath/answer/Frontier" := E112q.keep K151q
            have V153 : Ary Z T151.heap lv_13 .int 16 (bts (fun _ => (0 : Int32))) := V113.keep K151q (ninS (Ne.symm ne_b2_lv_13) (ninS P13_20 nin0))
            have V154 : Ary Z T151.heap hc_13 .long 16 (lts (updJ (fun _ => (0 : Int64)) 0 (v_ca p0))) := V111_10.keep K151q (ninS (Ne.symm ne_b2_hc_13) (ninS P13_22 nin0))
            have V155 : Ary Z T151.heap hi_13 .int 16 (bts (updI (fun _ => (0 : Int32)) 0 (v_a p0))) := V111_11.keep K151q (ninS (Ne.symm ne_b2_hi_13) (ninS P13_23 nin0))
            have K151 : Keep h0 T151.heap [] := K111.trans K151q (allS (Or.inr sz_b2) (allS (Or.inr sz_sn_13) all0))
            refine Go.st (mkF m 102 #[.val (.int p0), .val (.int p1), .val (.int (v_a p0)), .val (.long (v_ca p0)), .second, .val (.int (v_b p0)), .val (.long (v_cb p0)), .second, .val (.int (v_pop p0)), .val (.int (v_c p1)), .val (.long (v_cc p1)), .second, .val (.ref b2), .val (.int (1 : Int32)), .unset, .unset, .unset, .unset, .unset, .unset, .unset] [(.int ((updI (fun _ => (0 : Int32)) 0 (v_a p0)) 0))]) (fun _ k => st151.trans k) ?_
            refine Go.st (mkF m 103 #[.val (.int p0), .val (.int p1), .val (.int (v_a p0)), .val (.long (v_ca p0)), .second, .val (.int (v_b p0)), .val (.long (v_cb p0)), .second, .val (.int (v_pop p0)), .val (.int (v_c p1)), .val (.long (v_cc p1)), .second, .val (.ref b2), .val (.int (1 : Int32)), .unset, .unset, .unset, .unset, .unset, .unset, .unset] []) (fun _ k => XT.pop X151.here hx rfl (hb hby at_102) rfl rfl k) ?_
            refine Go.st (mkF m 105 #[.val (.int p0), .val (.int p1), .val (.int (v_a p0)), .val (.long (v_ca p0)), .second, .val (.int (v_b p0)), .val (.long (v_cb p0)), .second, .val (.int (v_pop p0)), .val (.int (v_c p1)), .val (.long (v_cc p1)), .second, .val (.ref b2), .val (.int (1 : Int32)), .unset, .unset, .unset, .unset, .unset, .unset, .unset] [(.ref b2)]) (fun _ k => XS.aload X151.here hx rfl (hb hby at_103) rfl rfl k) ?_
            obtain ⟨cq156, kq156, q156a, q156b, q156c⟩ := isOf hZ rfl E152q
            obtain ⟨_, _, ⟨T156, L156, k156, n156⟩, -, X156, ⟨Lc156, hQ156, l156, y156, z156⟩, st156⟩ := X151.virtualBack hx (y := (⟨"com/example/nearpath/nearpath/answer/Frontier", "startSearch", "()I"⟩ : MethodName)) (z := (⟨"com/example/nearpath/nearpath/answer/Frontier", "startSearch", "()I"⟩ : MethodName)) hown (mvT hZ (hw _ (List.mem_of_getElem? (i := 22) rfl))) (mvT hZ (hw _ (List.mem_of_getElem? (i := 23) rfl))) (notFace_of_selects (args := #[]) (mvT hZ (hw _ (List.mem_of_getElem? (i := 25) rfl)))) (mvT hZ (hw _ (List.mem_of_getElem? (i := 25) rfl))) (mvT hZ (hw _ (List.mem_of_getElem? (i := 24) rfl))) (by decide) (backOf (W := 0) (rm_ss0 l Z a0 hw [] b2 lv_13 hc_13 hi_13 sn_13 (1 : Int32) ((updJ (fun _ => (0 : Int64)) 0 (v_ca p0)) 0) (0 : Int32) (0 : Int32) (updI (fun _ => (0 : Int32)) 0 (v_a p0)) (updI (updI (fun _ => (0 : Int32)) ((v_a p0).toNatClampNeg) (-1 : Int32)) (((updI (fun _ => (0 : Int32)) 0 (v_a p0)) 0).toNatClampNeg) (1 : Int32)) T151.heap n0 (Nat.le_trans Z0 K151.1) E152q F151_0 F151_1 F151_2 F151_3 F151_4 F151_5 F151_6 F151_7 F151_8 F151_9 V155 V151_10 g_b2 g_sn_13 ne_b2_hi_13 ne_b2_sn_13 P13_23) hZ (hw _ (List.mem_of_getElem? (i := 26) rfl)) (hw _ (List.mem_of_getElem? (i := 2) rfl)) (by decide) (by decide)) q156a q156c (g := (mkF m 105 #[.val (.int p0), .val (.int p1), .val (.int (v_a p0)), .val (.long (v_ca p0)), .second, .val (.int (v_b p0)), .val (.long (v_cb p0)), .second, .val (.int (v_pop p0)), .val (.int (v_c p1)), .val (.long (v_cc p1)), .second, .val (.ref b2), .val (.int (1 : Int32)), .unset, .unset, .unset, .unset, .unset, .unset, .unset] [(.ref b2)])) rfl (by rw [hml]; rfl) (Steps.refl _) (argsL := []) (rest := []) (lenOf pd_3 rfl) rfl (by show 2 * 0 + _ ≤ _; exact Nat.le_of_eq rfl) (hb hby at_105) (fun _ _ => ⟨rfl, rfl, (by decide : 5 + 0 ≤ _), (by decide : 62 + 0 ≤ _)⟩)
            dsimp only [Pt.U, Pt.locs, Pt.cells, Pt.slots] at X156 l156 y156 z156 st156 hQ156
            subst l156 y156 z156
            obtain ⟨rfl, N156q, K156q, F156_0, F156_1, F156_2, F156_3, F156_4, F156_5, F156_6, F156_7, F156_8, F156_9⟩ := hQ156
            have N156 := Fr.app N151 N156q
            have E157q : Exa Z T156.heap b2 "com/example/nearpath/nearpath/answer/Frontier" := E152q.keep K156q
            have V158 : Ary Z T156.heap lv_13 .int 16 (bts (fun _ => (0 : Int32))) := V153.keep K156q (ninS (Ne.symm ne_b2_lv_13) nin0)
            have V159 : Ary Z T156.heap hc_13 .long 16 (lts (updJ (fun _ => (0 : Int64)) 0 (v_ca p0))) := V154.keep K156q (ninS (Ne.symm ne_b2_hc_13) nin0)
            have V160 : Ary Z T156.heap hi_13 .int 16 (bts (updI (fun _ => (0 : Int32)) 0 (v_a p0))) := V155.keep K156q (ninS (Ne.symm ne_b2_hi_13) nin0)
            have V161 : Ary Z T156.heap sn_13 .int 4 (bts (updI (updI (fun _ => (0 : Int32)) ((v_a p0).toNatClampNeg) (-1 : Int32)) (((updI (fun _ => (0 : Int32)) 0 (v_a p0)) 0).toNatClampNeg) (1 : Int32))) := V151_10.keep K156q (ninS (Ne.symm ne_b2_sn_13) nin0)
            have K156 : Keep h0 T156.heap [] := K151.trans K156q (allS (Or.inr sz_b2) all0)
            refine Go.st (mkF m 108 #[.val (.int p0), .val (.int p1), .val (.int (v_a p0)), .val (.long (v_ca p0)), .second, .val (.int (v_b p0)), .val (.long (v_cb p0)), .second, .val (.int (v_pop p0)), .val (.int (v_c p1)), .val (.long (v_cc p1)), .second, .val (.ref b2), .val (.int (1 : Int32)), .unset, .unset, .unset, .unset, .unset, .unset, .unset] [(.int (2 : Int32))]) (fun _ k => st156.trans k) ?_
            have HG : ∀ j, j < 4 → (updI (updI (fun _ => (0 : Int32)) ((v_a p0).toNatClampNeg) (-1 : Int32)) (((updI (fun _ => (0 : Int32)) 0 (v_a p0)) 0).toNatClampNeg) (1 : Int32)) j = (0 : Int32) ∨ (updI (updI (fun _ => (0 : Int32)) ((v_a p0).toNatClampNeg) (-1 : Int32)) (((updI (fun _ => (0 : Int32)) 0 (v_a p0)) 0).toNatClampNeg) (1 : Int32)) j = (1 : Int32) := by
              intro j hj
              show (updI (updI (fun _ => (0 : Int32)) ((v_a p0).toNatClampNeg) (-1 : Int32)) ((v_a p0).toNatClampNeg) (1 : Int32)) j = (0 : Int32) ∨ (updI (updI (fun _ => (0 : Int32)) ((v_a p0).toNatClampNeg) (-1 : Int32)) ((v_a p0).toNatClampNeg) (1 : Int32)) j = (1 : Int32)
              exact own_hgE (A := ((v_a p0).toNatClampNeg)) (B := ((v_b p0).toNatClampNeg)) hBA (fun A_ B_ j => (updI (updI (fun _ => (0 : Int32)) A_ (-1 : Int32)) A_ (1 : Int32)) j) (by intro A_ B_ j h1; unfold updI; by_cases q1 : j = A_ <;> by_cases q2 : j = B_ <;> first | (simp only [if_pos q1, if_pos q2]; decide) | (simp only [if_pos q1, if_neg q2]; decide) | (simp only [if_neg q1, if_pos q2]; decide) | (simp only [if_neg q1, if_neg q2]; decide) | (exfalso; omega))
            exact JL _ _ _ (fun _ => (0 : Int32)) (updJ (fun _ => (0 : Int64)) 0 (v_ca p0)) (updI (fun _ => (0 : Int32)) 0 (v_a p0)) (updI (updI (fun _ => (0 : Int32)) ((v_a p0).toNatClampNeg) (-1 : Int32)) (((updI (fun _ => (0 : Int32)) 0 (v_a p0)) 0).toNatClampNeg) (1 : Int32)) X156 rfl N156 K156 HG E157q V158 V159 V160 V161 F156_0 F156_1 F156_2 F156_3 F156_4 F156_5 F156_6 F156_7 F156_8 F156_9
      ·
        have hBA : ¬ ((v_b p0).toNatClampNeg) = ((v_a p0).toNatClampNeg) := own_tne (own_vb p0) (own_va p0) hab
        have hM : ((updI (fun _ => (0 : Int32)) ((v_a p0).toNatClampNeg) (-1 : Int32)) ((v_b p0).toNatClampNeg)) = (0 : Int32) := own_up hBA
        by_cases hcb : (v_cb p0) = (0 : Int64)
        ·
          refine Go.st (mkF m 85 #[.val (.int p0), .val (.int p1), .val (.int (v_a p0)), .val (.long (v_ca p0)), .second, .val (.int (v_b p0)), .val (.long (v_cb p0)), .second, .val (.int (v_pop p0)), .val (.int (v_c p1)), .val (.long (v_cc p1)), .second, .val (.ref b2), .val (.int (1 : Int32)), .unset, .unset, .unset, .unset, .unset, .unset, .unset] [(.ref b2)]) (fun _ k => XS.aload X111.here hx rfl (hb hby at_83) rfl rfl k) ?_
          refine Go.st (mkF m 87 #[.val (.int p0), .val (.int p1), .val (.int (v_a p0)), .val (.long (v_ca p0)), .second, .val (.int (v_b p0)), .val (.long (v_cb p0)), .second, .val (.int (v_pop p0)), .val (.int (v_c p1)), .val (.long (v_cc p1)), .second, .val (.ref b2), .val (.int (1 : Int32)), .unset, .unset, .unset, .unset, .unset, .unset, .unset] [(.int (v_b p0)), (.ref b2)]) (fun _ k => XS.iload X111.here hx rfl (hb hby at_85) rfl k) ?_
          refine Go.st (mkF m 89 #[.val (.int p0), .val (.int p1), .val (.int (v_a p0)), .val (.long (v_ca p0)), .second, .val (.int (v_b p0)), .val (.long (v_cb p0)), .second, .val (.int (v_pop p0)), .val (.int (v_c p1)), .val (.long (v_cc p1)), .second, .val (.ref b2), .val (.int (1 : Int32)), .unset, .unset, .unset, .unset, .unset, .unset, .unset] [(.long (v_cb p0)), (.int (v_b p0)), (.ref b2)]) (fun _ k => XT.lload X111.here hx rfl (hb hby at_87) rfl k) ?_
          obtain ⟨cq162, kq162, q162a, q162b, q162c⟩ := isOf hZ rfl E112q
          obtain ⟨_, _, ⟨T162, L162, k162, n162⟩, -, X162, ⟨Lc162, hQ162, l162, y162, z162⟩, st162⟩ := X111.virtualBack hx (y := (⟨"com/example/nearpath/nearpath/answer/Frontier", "reach", "(IJ)V"⟩ : MethodName)) (z := (⟨"com/example/nearpath/nearpath/answer/Frontier", "reach", "(IJ)V"⟩ : MethodName)) hown (mvT hZ (hw _ (List.mem_of_getElem? (i := 37) rfl))) (mvT hZ (hw _ (List.mem_of_getElem? (i := 38) rfl))) (notFace_of_selects (args := #[]) (mvT hZ (hw _ (List.mem_of_getElem? (i := 40) rfl)))) (mvT hZ (hw _ (List.mem_of_getElem? (i := 40) rfl))) (mvT hZ (hw _ (List.mem_of_getElem? (i := 39) rfl))) (by decide) (backOf (W := 0) (rm_r40 l Z a0 hw [] b2 (v_b p0) (v_cb p0) lv_13 hc_13 hi_13 sn_13 (1 : Int32) (0 : Int64) (0 : Int32) (1 : Int32) (fun _ => (0 : Int32)) (updI (fun _ => (0 : Int32)) ((v_a p0).toNatClampNeg) (-1 : Int32)) T111.heap n0 (Nat.le_trans Z0 K111.1) E112q F111_0 F111_1 F111_2 F111_3 F111_4 F111_5 F111_6 F111_7 F111_8 F111_9 V111_12 V113 (by first | exact own_va p0 | exact own_vb p0 | exact own_vc p1) (by first | exact own_ca p0 | exact own_cb p0 | exact own_cc p1) (by first | decide | exact hcb | exact hM | (rw [hM]; decide)) (by first | decide | exact hcb | exact hM | (rw [hM]; decide)) (by first | decide | exact hcb | exact hM | (rw [hM]; decide)) g_b2 g_lv_13 g_sn_13 ne_b2_lv_13 ne_b2_sn_13 P13_20) hZ (hw _ (List.mem_of_getElem? (i := 41) rfl)) (hw _ (List.mem_of_getElem? (i := 2) rfl)) (by decide) (by decide)) q162a q162c (g := (mkF m 89 #[.val (.int p0), .val (.int p1), .val (.int (v_a p0)), .val (.long (v_ca p0)), .second, .val (.int (v_b p0)), .val (.long (v_cb p0)), .second, .val (.int (v_pop p0)), .val (.int (v_c p1)), .val (.long (v_cc p1)), .second, .val (.ref b2), .val (.int (1 : Int32)), .unset, .unset, .unset, .unset, .unset, .unset, .unset] [(.long (v_cb p0)), (.int (v_b p0)), (.ref b2)])) rfl (by rw [hml]; rfl) (Steps.refl _) (argsL := [(.int (v_b p0)), (.long (v_cb p0))]) (rest := []) (lenOf pd_1 rfl) rfl (by show 2 * 0 + _ ≤ _; exact Nat.le_of_eq rfl) (hb hby at_89) (fun _ _ => ⟨rfl, rfl, (by decide : 5 + 0 ≤ _), (by decide : 62 + 0 ≤ _)⟩)
          dsimp only [Pt.U, Pt.locs, Pt.cells, Pt.slots] at X162 l162 y162 z162 st162 hQ162
          subst l162 y162 z162
          obtain ⟨rfl, N162q, K162q, F162_0, F162_1, F162_2, F162_3, F162_4, F162_5, F162_6, F162_7, F162_8, F162_9, V162_10, V162_11⟩ := hQ162
          have N162 := Fr.app N111 N162q
          have E163q : Exa Z T162.heap b2 "com/example/nearpath/nearpath/answer/Frontier" := E112q.keep K162q
          have V164 : Ary Z T162.heap hc_13 .long 16 (lts (updJ (fun _ => (0 : Int64)) 0 (v_ca p0))) := V111_10.keep K162q (ninS (Ne.symm ne_b2_hc_13) (ninS (Ne.symm P13_18) (ninS P13_22 nin0)))
          have V165 : Ary Z T162.heap hi_13 .int 16 (bts (updI (fun _ => (0 : Int32)) 0 (v_a p0))) := V111_11.keep K162q (ninS (Ne.symm ne_b2_hi_13) (ninS (Ne.symm P13_19) (ninS P13_23 nin0)))
          have K162 : Keep h0 T162.heap [] := K111.trans K162q (allS (Or.inr sz_b2) (allS (Or.inr sz_lv_13) (allS (Or.inr sz_sn_13) all0)))
          refine Go.st (mkF m 92 #[.val (.int p0), .val (.int p1), .val (.int (v_a p0)), .val (.long (v_ca p0)), .second, .val (.int (v_b p0)), .val (.long (v_cb p0)), .second, .val (.int (v_pop p0)), .val (.int (v_c p1)), .val (.long (v_cc p1)), .second, .val (.ref b2), .val (.int (1 : Int32)), .unset, .unset, .unset, .unset, .unset, .unset, .unset] []) (fun _ k => st162.trans k) ?_
          refine Go.st (mkF m 94 #[.val (.int p0), .val (.int p1), .val (.int (v_a p0)), .val (.long (v_ca p0)), .second, .val (.int (v_b p0)), .val (.long (v_cb p0)), .second, .val (.int (v_pop p0)), .val (.int (v_c p1)), .val (.long (v_cc p1)), .second, .val (.ref b2), .val (.int (1 : Int32)), .unset, .unset, .unset, .unset, .unset, .unset, .unset] [(.int (v_pop p0))]) (fun _ k => XS.iload X162.here hx rfl (hb hby at_92) rfl k) ?_
          by_cases hc94_166 : (v_pop p0) = (0 : Int32)
          ·
            refine Go.st (mkF m 103 #[.val (.int p0), .val (.int p1), .val (.int (v_a p0)), .val (.long (v_ca p0)), .second, .val (.int (v_b p0)), .val (.long (v_cb p0)), .second, .val (.int (v_pop p0)), .val (.int (v_c p1)), .val (.long (v_cc p1)), .second, .val (.ref b2), .val (.int (1 : Int32)), .unset, .unset, .unset, .unset, .unset, .unset, .unset] []) (fun _ k => XS.ifYes X162.here hx rfl (pc0 := 94) (pc' := 103) rfl (hb hby at_94) rfl ((if0 _ _).trans (teq hc94_166).1) (by decide) (by decide) k) ?_
            refine Go.st (mkF m 105 #[.val (.int p0), .val (.int p1), .val (.int (v_a p0)), .val (.long (v_ca p0)), .second, .val (.int (v_b p0)), .val (.long (v_cb p0)), .second, .val (.int (v_pop p0)), .val (.int (v_c p1)), .val (.long (v_cc p1)), .second, .val (.ref b2), .val (.int (1 : Int32)), .unset, .unset, .unset, .unset, .unset, .unset, .unset] [(.ref b2)]) (fun _ k => XS.aload X162.here hx rfl (hb hby at_103) rfl rfl k) ?_
            obtain ⟨cq167, kq167, q167a, q167b, q167c⟩ := isOf hZ rfl E163q
            obtain ⟨_, _, ⟨T167, L167, k167, n167⟩, -, X167, ⟨Lc167, hQ167, l167, y167, z167⟩, st167⟩ := X162.virtualBack hx (y := (⟨"com/example/nearpath/nearpath/answer/Frontier", "startSearch", "()I"⟩ : MethodName)) (z := (⟨"com/example/nearpath/nearpath/answer/Frontier", "startSearch", "()I"⟩ : MethodName)) hown (mvT hZ (hw _ (List.mem_of_getElem? (i := 22) rfl))) (mvT hZ (hw _ (List.mem_of_getElem? (i := 23) rfl))) (notFace_of_selects (args := #[]) (mvT hZ (hw _ (List.mem_of_getElem? (i := 25) rfl)))) (mvT hZ (hw _ (List.mem_of_getElem? (i := 25) rfl))) (mvT hZ (hw _ (List.mem_of_getElem? (i := 24) rfl))) (by decide) (backOf (W := 0) (rm_ss1 l Z a0 hw [] b2 lv_13 hc_13 hi_13 sn_13 (1 : Int32) (0 : Int64) (0 : Int32) (1 : Int32) (updI (fun _ => (0 : Int32)) 0 (v_a p0)) (updI (updI (fun _ => (0 : Int32)) ((v_a p0).toNatClampNeg) (-1 : Int32)) ((v_b p0).toNatClampNeg) (1 : Int32)) T162.heap n0 (Nat.le_trans Z0 K162.1) E163q F162_0 F162_1 F162_2 F162_3 F162_4 F162_5 F162_6 F162_7 F162_8 F162_9 V165 V162_11 (by first | exact own_va p0 | exact own_vb p0 | exact own_vc p1) g_b2 g_sn_13 ne_b2_hi_13 ne_b2_sn_13 P13_23) hZ (hw _ (List.mem_of_getElem? (i := 26) rfl)) (hw _ (List.mem_of_getElem? (i := 2) rfl)) (by decide) (by decide)) q167a q167c (g := (mkF m 105 #[.val (.int p0), .val (.int p1), .val (.int (v_a p0)), .val (.long (v_ca p0)), .second, .val (.int (v_b p0)), .val (.long (v_cb p0)), .second, .val (.int (v_pop p0)), .val (.int (v_c p1)), .val (.long (v_cc p1)), .second, .val (.ref b2), .val (.int (1 : Int32)), .unset, .unset, .unset, .unset, .unset, .unset, .unset] [(.ref b2)])) rfl (by rw [hml]; rfl) (Steps.refl _) (argsL := []) (rest := []) (lenOf pd_3 rfl) rfl (by show 2 * 0 + _ ≤ _; exact Nat.le_of_eq rfl) (hb hby at_105) (fun _ _ => ⟨rfl, rfl, (by decide : 5 + 0 ≤ _), (by decide : 62 + 0 ≤ _)⟩)
            dsimp only [Pt.U, Pt.locs, Pt.cells, Pt.slots] at X167 l167 y167 z167 st167 hQ167
            subst l167 y167 z167
            obtain ⟨rfl, N167q, K167q, F167_0, F167_1, F167_2, F167_3, F167_4, F167_5, F167_6, F167_7, F167_8, F167_9, V167_10⟩ := hQ167
            have N167 := Fr.app N162 N167q
            have E168q : Exa Z T167.heap b2 "com/example/nearpath/nearpath/answer/Frontier" := E163q.keep K167q
            have V169 : Ary Z T167.heap hc_13 .long 16 (lts (updJ (fun _ => (0 : Int64)) 0 (v_ca p0))) := V164.keep K167q (ninS (Ne.symm ne_b2_hc_13) (ninS P13_22 nin0))
            have V170 : Ary Z T167.heap hi_13 .int 16 (bts (updI (fun _ => (0 : Int32)) 0 (v_a p0))) := V165.keep K167q (ninS (Ne.symm ne_b2_hi_13) (ninS P13_23 nin0))
            have V171 : Ary Z T167.heap lv_13 .int 16 (bts (updI (fun _ => (0 : Int32)) 0 (v_b p0))) := V162_10.keep K167q (ninS (Ne.symm ne_b2_lv_13) (ninS P13_20 nin0))
            have K167 : Keep h0 T167.heap [] := K162.trans K167q (allS (Or.inr sz_b2) (allS (Or.inr sz_sn_13) all0))
            refine Go.st (mkF m 108 #[.val (.int p0), .val (.int p1), .val (.int (v_a p0)), .val (.long (v_ca p0)), .second, .val (.int (v_b p0)), .val (.long (v_cb p0)), .second, .val (.int (v_pop p0)), .val (.int (v_c p1)), .val (.long (v_cc p1)), .second, .val (.ref b2), .val (.int (1 : Int32)), .unset, .unset, .unset, .unset, .unset, .unset, .unset] [(.int (2 : Int32))]) (fun _ k => st167.trans k) ?_
            have HG : ∀ j, j < 4 → (updI (updI (updI (fun _ => (0 : Int32)) ((v_a p0).toNatClampNeg) (-1 : Int32)) ((v_b p0).toNatClampNeg) (1 : Int32)) (((updI (fun _ => (0 : Int32)) 0 (v_a p0)) 0).toNatClampNeg) (0 : Int32)) j = (0 : Int32) ∨ (updI (updI (updI (fun _ => (0 : Int32)) ((v_a p0).toNatClampNeg) (-1 : Int32)) ((v_b p0).toNatClampNeg) (1 : Int32)) (((updI (fun _ => (0 : Int32)) 0 (v_a p0)) 0).toNatClampNeg) (0 : Int32)) j = (1 : Int32) := by
              intro j hj
              show (updI (updI (updI (fun _ => (0 : Int32)) ((v_a p0).toNatClampNeg) (-1 : Int32)) ((v_b p0).toNatClampNeg) (1 : Int32)) ((v_a p0).toNatClampNeg) (0 : Int32)) j = (0 : Int32) ∨ (updI (updI (updI (fun _ => (0 : Int32)) ((v_a p0).toNatClampNeg) (-1 : Int32)) ((v_b p0).toNatClampNeg) (1 : Int32)) ((v_a p0).toNatClampNeg) (0 : Int32)) j = (1 : Int32)
              exact own_hgN (A := ((v_a p0).toNatClampNeg)) (B := ((v_b p0).toNatClampNeg)) hBA (fun A_ B_ j => (updI (updI (updI (fun _ => (0 : Int32)) A_ (-1 : Int32)) B_ (1 : Int32)) A_ (0 : Int32)) j) (by intro A_ B_ j h1; unfold updI; by_cases q1 : j = A_ <;> by_cases q2 : j = B_ <;> first | (simp only [if_pos q1, if_pos q2]; decide) | (simp only [if_pos q1, if_neg q2]; decide) | (simp only [if_neg q1, if_pos q2]; decide) | (simp only [if_neg q1, if_neg q2]; decide) | (exfalso; omega))
            exact JL _ _ _ (updI (fun _ => (0 : Int32)) 0 (v_b p0)) (updJ (fun _ => (0 : Int64)) 0 (v_ca p0)) (updI (fun _ => (0 : Int32)) 0 (v_a p0)) (updI (updI (updI (fun _ => (0 : Int32)) ((v_a p0).toNatClampNeg) (-1 : Int32)) ((v_b p0).toNatClampNeg) (1 : Int32)) (((updI (fun _ => (0 : Int32)) 0 (v_a p0)) 0).toNatClampNeg) (0 : Int32)) X167 rfl N167 K167 HG E168q V171 V169 V170 V167_10 F167_0 F167_1 F167_2 F167_3 F167_4 F167_5 F167_6 F167_7 F167_8 F167_9
          ·
            refine Go.st (mkF m 97 #[.val (.int p0), .val (.int p1), .val (.int (v_a p0)), .val (.long (v_ca p0)), .second, .val (.int (v_b p0)), .val (.long (v_cb p0)), .second, .val (.int (v_pop p0)), .val (.int (v_c p1)), .val (.long (v_cc p1)), .second, .val (.ref b2), .val (.int (1 : Int32)), .unset, .unset, .unset, .unset, .unset, .unset, .unset] []) (fun _ k => XS.ifNo X162.here hx rfl (hb hby at_94) rfl ((if0 _ _).trans (feq hc94_166).1) k) ?_
            refine Go.st (mkF m 99 #[.val (.int p0), .val (.int p1), .val (.int (v_a p0)), .val (.long (v_ca p0)), .second, .val (.int (v_b p0)), .val (.long (v_cb p0)), .second, .val (.int (v_pop p0)), .val (.int (v_c p1)), .val (.long (v_cc p1)), .second, .val (.ref b2), .val (.int (1 : Int32)), .unset, .unset, .unset, .unset, .unset, .unset, .unset] [(.ref b2)]) (fun _ k => XS.aload X162.here hx rfl (hb hby at_97) rfl rfl k) ?_
            obtain ⟨cq172, kq172, q172a, q172b, q172c⟩ := isOf hZ rfl E163q
            obtain ⟨_, _, ⟨T172, L172, k172, n172⟩, -, X172, ⟨Lc172, hQ172, l172, y172, z172⟩, st172⟩ := X162.virtualBack hx (y := (⟨"com/example/nearpath/nearpath/answer/Frontier", "next", "()I"⟩ : MethodName)) (z := (⟨"com/example/nearpath/nearpath/answer/Frontier", "next", "()I"⟩ : MethodName)) hown (mvT hZ (hw _ (List.mem_of_getElem? (i := 45) rfl))) (mvT hZ (hw _ (List.mem_of_getElem? (i := 46) rfl))) (notFace_of_selects (args := #[]) (mvT hZ (hw _ (List.mem_of_getElem? (i := 48) rfl)))) (mvT hZ (hw _ (List.mem_of_getElem? (i := 48) rfl))) (mvT hZ (hw _ (List.mem_of_getElem? (i := 47) rfl))) (by decide) (backOf (W := 0) (rm_n1 l Z a0 hw [] b2 lv_13 hc_13 hi_13 sn_13 (1 : Int32) (0 : Int64) (1 : Int32) (1 : Int32) (updI (fun _ => (0 : Int32)) 0 (v_b p0)) T162.heap n0 (Nat.le_trans Z0 K162.1) E163q F162_0 F162_1 F162_2 F162_3 F162_4 F162_5 F162_6 F162_7 F162_8 F162_9 V162_10 (by first | decide | exact hcb | exact hM | (rw [hM]; decide)) g_b2 ne_b2_lv_13) hZ (hw _ (List.mem_of_getElem? (i := 49) rfl)) (hw _ (List.mem_of_getElem? (i := 2) rfl)) (by decide) (by decide)) q172a q172c (g := (mkF m 99 #[.val (.int p0), .val (.int p1), .val (.int (v_a p0)), .val (.long (v_ca p0)), .second, .val (.int (v_b p0)), .val (.long (v_cb p0)), .second, .val (.int (v_pop p0)), .val (.int (v_c p1)), .val (.long (v_cc p1)), .second, .val (.ref b2), .val (.int (1 : Int32)), .unset, .unset, .unset, .unset, .unset, .unset, .unset] [(.ref b2)])) rfl (by rw [hml]; rfl) (Steps.refl _) (argsL := []) (rest := []) (lenOf pd_3 rfl) rfl (by show 2 * 0 + _ ≤ _; exact Nat.le_of_eq rfl) (hb hby at_99) (fun _ _ => ⟨rfl, rfl, (by decide : 5 + 0 ≤ _), (by decide : 62 + 0 ≤ _)⟩)
            dsimp only [Pt.U, Pt.locs, Pt.cells, Pt.slots] at X172 l172 y172 z172 st172 hQ172
            subst l172 y172 z172
            obtain ⟨rfl, N172q, K172q, F172_0, F172_1, F172_2, F172_3, F172_4, F172_5, F172_6, F172_7, F172_8, F172_9⟩ := hQ172
            have N172 := Fr.app N162 N172q
            have E173q : Exa Z T172.heap b2 "com/example/nearpath/nearpath/answer/Frontier" := E163q.keep K172q
            have V174 : Ary Z T172.heap hc_13 .long 16 (lts (updJ (fun _ => (0 : Int64)) 0 (v_ca p0))) := V164.keep K172q (ninS (Ne.symm ne_b2_hc_13) nin0)
            have V175 : Ary Z T172.heap hi_13 .int 16 (bts (updI (fun _ => (0 : Int32)) 0 (v_a p0))) := V165.keep K172q (ninS (Ne.symm ne_b2_hi_13) nin0)
            have V176 : Ary Z T172.heap lv_13 .int 16 (bts (updI (fun _ => (0 : Int32)) 0 (v_b p0))) := V162_10.keep K172q (ninS (Ne.symm ne_b2_lv_13) nin0)
            have V177 : Ary Z T172.heap sn_13 .int 4 (bts (updI (updI (fun _ => (0 : Int32)) ((v_a p0).toNatClampNeg) (-1 : Int32)) ((v_b p0).toNatClampNeg) (1 : Int32))) := V162_11.keep K172q (ninS (Ne.symm ne_b2_sn_13) nin0)
            have K172 : Keep h0 T172.heap [] := K162.trans K172q (allS (Or.inr sz_b2) all0)
            refine Go.st (mkF m 102 #[.val (.int p0), .val (.int p1), .val (.int (v_a p0)), .val (.long (v_ca p0)), .second, .val (.int (v_b p0)), .val (.long (v_cb p0)), .second, .val (.int (v_pop p0)), .val (.int (v_c p1)), .val (.long (v_cc p1)), .second, .val (.ref b2), .val (.int (1 : Int32)), .unset, .unset, .unset, .unset, .unset, .unset, .unset] [(.int ((updI (fun _ => (0 : Int32)) 0 (v_b p0)) 0))]) (fun _ k => st172.trans k) ?_
            refine Go.st (mkF m 103 #[.val (.int p0), .val (.int p1), .val (.int (v_a p0)), .val (.long (v_ca p0)), .second, .val (.int (v_b p0)), .val (.long (v_cb p0)), .second, .val (.int (v_pop p0)), .val (.int (v_c p1)), .val (.long (v_cc p1)), .second, .val (.ref b2), .val (.int (1 : Int32)), .unset, .unset, .unset, .unset, .unset, .unset, .unset] []) (fun _ k => XT.pop X172.here hx rfl (hb hby at_102) rfl rfl k) ?_
            refine Go.st (mkF m 105 #[.val (.int p0), .val (.int p1), .val (.int (v_a p0)), .val (.long (v_ca p0)), .second, .val (.int (v_b p0)), .val (.long (v_cb p0)), .second, .val (.int (v_pop p0)), .val (.int (v_c p1)), .val (.long (v_cc p1)), .second, .val (.ref b2), .val (.int (1 : Int32)), .unset, .unset, .unset, .unset, .unset, .unset, .unset] [(.ref b2)]) (fun _ k => XS.aload X172.here hx rfl (hb hby at_103) rfl rfl k) ?_
            obtain ⟨cq178, kq178, q178a, q178b, q178c⟩ := isOf hZ rfl E173q
            obtain ⟨_, _, ⟨T178, L178, k178, n178⟩, -, X178, ⟨Lc178, hQ178, l178, y178, z178⟩, st178⟩ := X172.virtualBack hx (y := (⟨"com/example/nearpath/nearpath/answer/Frontier", "startSearch", "()I"⟩ : MethodName)) (z := (⟨"com/example/nearpath/nearpath/answer/Frontier", "startSearch", "()I"⟩ : MethodName)) hown (mvT hZ (hw _ (List.mem_of_getElem? (i := 22) rfl))) (mvT hZ (hw _ (List.mem_of_getElem? (i := 23) rfl))) (notFace_of_selects (args := #[]) (mvT hZ (hw _ (List.mem_of_getElem? (i := 25) rfl)))) (mvT hZ (hw _ (List.mem_of_getElem? (i := 25) rfl))) (mvT hZ (hw _ (List.mem_of_getElem? (i := 24) rfl))) (by decide) (backOf (W := 0) (rm_ss1 l Z a0 hw [] b2 lv_13 hc_13 hi_13 sn_13 (1 : Int32) (0 : Int64) (1 : Int32) (1 : Int32) (updI (fun _ => (0 : Int32)) 0 (v_a p0)) (updI (updI (fun _ => (0 : Int32)) ((v_a p0).toNatClampNeg) (-1 : Int32)) ((v_b p0).toNatClampNeg) (1 : Int32)) T172.heap n0 (Nat.le_trans Z0 K172.1) E173q F172_0 F172_1 F172_2 F172_3 F172_4 F172_5 F172_6 F172_7 F172_8 F172_9 V175 V177 (by first | exact own_va p0 | exact own_vb p0 | exact own_vc p1) g_b2 g_sn_13 ne_b2_hi_13 ne_b2_sn_13 P13_23) hZ (hw _ (List.mem_of_getElem? (i := 26) rfl)) (hw _ (List.mem_of_getElem? (i := 2) rfl)) (by decide) (by decide)) q178a q178c (g := (mkF m 105 #[.val (.int p0), .val (.int p1), .val (.int (v_a p0)), .val (.long (v_ca p0)), .second, .val (.int (v_b p0)), .val (.long (v_cb p0)), .second, .val (.int (v_pop p0)), .val (.int (v_c p1)), .val (.long (v_cc p1)), .second, .val (.ref b2), .val (.int (1 : Int32)), .unset, .unset, .unset, .unset, .unset, .unset, .unset] [(.ref b2)])) rfl (by rw [hml]; rfl) (Steps.refl _) (argsL := []) (rest := []) (lenOf pd_3 rfl) rfl (by show 2 * 0 + _ ≤ _; exact Nat.le_of_eq rfl) (hb hby at_105) (fun _ _ => ⟨rfl, rfl, (by decide : 5 + 0 ≤ _), (by decide : 62 + 0 ≤ _)⟩)
            dsimp only [Pt.U, Pt.locs, Pt.cells, Pt.slots] at X178 l178 y178 z178 st178 hQ178
            subst l178 y178 z178
            obtain ⟨rfl, N178q, K178q, F178_0, F178_1, F178_2, F178_3, F178_4, F178_5, F178_6, F178_7, F178_8, F178_9, V178_10⟩ := hQ178
            have N178 := Fr.app N172 N178q
            have E179q : Exa Z T178.heap b2 "com/example/nearpath/nearpath/answer/Frontier" := E173q.keep K178q
            have V180 : Ary Z T178.heap hc_13 .long 16 (lts (updJ (fun _ => (0 : Int64)) 0 (v_ca p0))) := V174.keep K178q (ninS (Ne.symm ne_b2_hc_13) (ninS P13_22 nin0))
            have V181 : Ary Z T178.heap hi_13 .int 16 (bts (updI (fun _ => (0 : Int32)) 0 (v_a p0))) := V175.keep K178q (ninS (Ne.symm ne_b2_hi_13) (ninS P13_23 nin0))
            have V182 : Ary Z T178.heap lv_13 .int 16 (bts (updI (fun _ => (0 : Int32)) 0 (v_b p0))) := V176.keep K178q (ninS (Ne.symm ne_b2_lv_13) (ninS P13_20 nin0))
            have K178 : Keep h0 T178.heap [] := K172.trans K178q (allS (Or.inr sz_b2) (allS (Or.inr sz_sn_13) all0))
            refine Go.st (mkF m 108 #[.val (.int p0), .val (.int p1), .val (.int (v_a p0)), .val (.long (v_ca p0)), .second, .val (.int (v_b p0)), .val (.long (v_cb p0)), .second, .val (.int (v_pop p0)), .val (.int (v_c p1)), .val (.long (v_cc p1)), .second, .val (.ref b2), .val (.int (1 : Int32)), .unset, .unset, .unset, .unset, .unset, .unset, .unset] [(.int (2 : Int32))]) (fun _ k => st178.trans k) ?_
            have HG : ∀ j, j < 4 → (updI (updI (updI (fun _ => (0 : Int32)) ((v_a p0).toNatClampNeg) (-1 : Int32)) ((v_b p0).toNatClampNeg) (1 : Int32)) (((updI (fun _ => (0 : Int32)) 0 (v_a p0)) 0).toNatClampNeg) (0 : Int32)) j = (0 : Int32) ∨ (updI (updI (updI (fun _ => (0 : Int32)) ((v_a p0).toNatClampNeg) (-1 : Int32)) ((v_b p0).toNatClampNeg) (1 : Int32)) (((updI (fun _ => (0 : Int32)) 0 (v_a p0)) 0).toNatClampNeg) (0 : Int32)) j = (1 : Int32) := by
              intro j hj
              show (updI (updI (updI (fun _ => (0 : Int32)) ((v_a p0).toNatClampNeg) (-1 : Int32)) ((v_b p0).toNatClampNeg) (1 : Int32)) ((v_a p0).toNatClampNeg) (0 : Int32)) j = (0 : Int32) ∨ (updI (updI (updI (fun _ => (0 : Int32)) ((v_a p0).toNatClampNeg) (-1 : Int32)) ((v_b p0).toNatClampNeg) (1 : Int32)) ((v_a p0).toNatClampNeg) (0 : Int32)) j = (1 : Int32)
              exact own_hgN (A := ((v_a p0).toNatClampNeg)) (B := ((v_b p0).toNatClampNeg)) hBA (fun A_ B_ j => (updI (updI (updI (fun _ => (0 : Int32)) A_ (-1 : Int32)) B_ (1 : Int32)) A_ (0 : Int32)) j) (by intro A_ B_ j h1; unfold updI; by_cases q1 : j = A_ <;> by_cases q2 : j = B_ <;> first | (simp only [if_pos q1, if_pos q2]; decide) | (simp only [if_pos q1, if_neg q2]; decide) | (simp only [if_neg q1, if_pos q2]; decide) | (simp only [if_neg q1, if_neg q2]; decide) | (exfalso; omega))
            exact JL _ _ _ (updI (fun _ => (0 : Int32)) 0 (v_b p0)) (updJ (fun _ => (0 : Int64)) 0 (v_ca p0)) (updI (fun _ => (0 : Int32)) 0 (v_a p0)) (updI (updI (updI (fun _ => (0 : Int32)) ((v_a p0).toNatClampNeg) (-1 : Int32)) ((v_b p0).toNatClampNeg) (1 : Int32)) (((updI (fun _ => (0 : Int32)) 0 (v_a p0)) 0).toNatClampNeg) (0 : Int32)) X178 rfl N178 K178 HG E179q V182 V180 V181 V178_10 F178_0 F178_1 F178_2 F178_3 F178_4 F178_5 F178_6 F178_7 F178_8 F178_9
        ·
          by_cases hlt : (v_cb p0) < (v_ca p0)
          ·
            refine Go.st (mkF m 85 #[.val (.int p0), .val (.int p1), .val (.int (v_a p0)), .val (.long (v_ca p0)), .second, .val (.int (v_b p0)), .val (.long (v_cb p0)), .second, .val (.int (v_pop p0)), .val (.int (v_c p1)), .val (.long (v_cc p1)), .second, .val (.ref b2), .val (.int (1 : Int32)), .unset, .unset, .unset, .unset, .unset, .unset, .unset] [(.ref b2)]) (fun _ k => XS.aload X111.here hx rfl (hb hby at_83) rfl rfl k) ?_
            refine Go.st (mkF m 87 #[.val (.int p0), .val (.int p1), .val (.int (v_a p0)), .val (.long (v_ca p0)), .second, .val (.int (v_b p0)), .val (.long (v_cb p0)), .second, .val (.int (v_pop p0)), .val (.int (v_c p1)), .val (.long (v_cc p1)), .second, .val (.ref b2), .val (.int (1 : Int32)), .unset, .unset, .unset, .unset, .unset, .unset, .unset] [(.int (v_b p0)), (.ref b2)]) (fun _ k => XS.iload X111.here hx rfl (hb hby at_85) rfl k) ?_
            refine Go.st (mkF m 89 #[.val (.int p0), .val (.int p1), .val (.int (v_a p0)), .val (.long (v_ca p0)), .second, .val (.int (v_b p0)), .val (.long (v_cb p0)), .second, .val (.int (v_pop p0)), .val (.int (v_c p1)), .val (.long (v_cc p1)), .second, .val (.ref b2), .val (.int (1 : Int32)), .unset, .unset, .unset, .unset, .unset, .unset, .unset] [(.long (v_cb p0)), (.int (v_b p0)), (.ref b2)]) (fun _ k => XT.lload X111.here hx rfl (hb hby at_87) rfl k) ?_
            obtain ⟨cq183, kq183, q183a, q183b, q183c⟩ := isOf hZ rfl E112q
            obtain ⟨_, _, ⟨T183, L183, k183, n183⟩, -, X183, ⟨Lc183, hQ183, l183, y183, z183⟩, st183⟩ := X111.virtualBack hx (y := (⟨"com/example/nearpath/nearpath/answer/Frontier", "reach", "(IJ)V"⟩ : MethodName)) (z := (⟨"com/example/nearpath/nearpath/answer/Frontier", "reach", "(IJ)V"⟩ : MethodName)) hown (mvT hZ (hw _ (List.mem_of_getElem? (i := 37) rfl))) (mvT hZ (hw _ (List.mem_of_getElem? (i := 38) rfl))) (notFace_of_selects (args := #[]) (mvT hZ (hw _ (List.mem_of_getElem? (i := 40) rfl)))) (mvT hZ (hw _ (List.mem_of_getElem? (i := 40) rfl))) (mvT hZ (hw _ (List.mem_of_getElem? (i := 39) rfl))) (by decide) (backOf (W := 0) (rm_r51 l Z a0 hw [] b2 (v_b p0) (v_cb p0) lv_13 hc_13 hi_13 sn_13 (1 : Int32) (0 : Int64) (0 : Int32) (0 : Int32) (updJ (fun _ => (0 : Int64)) 0 (v_ca p0)) (updI (fun _ => (0 : Int32)) 0 (v_a p0)) (updI (fun _ => (0 : Int32)) ((v_a p0).toNatClampNeg) (-1 : Int32)) T111.heap n0 (Nat.le_trans Z0 K111.1) E112q F111_0 F111_1 F111_2 F111_3 F111_4 F111_5 F111_6 F111_7 F111_8 F111_9 V111_12 V111_10 V111_11 (by first | exact own_va p0 | exact own_vb p0 | exact own_vc p1) (by first | exact own_ca p0 | exact own_cb p0 | exact own_cc p1) (by first | decide | exact hlt | exact hcb | exact hM | (rw [hM]; decide)) (by first | decide | exact hlt | exact hcb | exact hM | (rw [hM]; decide)) (by first | decide | exact hlt | exact hcb | exact hM | (rw [hM]; decide)) (by first | decide | exact hlt | exact hcb | exact hM | (rw [hM]; decide)) (by first | exact own_va p0 | exact own_vb p0 | exact own_vc p1) g_b2 g_hc_13 g_hi_13 g_sn_13 ne_b2_hc_13 ne_b2_hi_13 ne_b2_sn_13 P13_21 P13_22 P13_23) hZ (hw _ (List.mem_of_getElem? (i := 41) rfl)) (hw _ (List.mem_of_getElem? (i := 2) rfl)) (by decide) (by decide)) q183a q183c (g := (mkF m 89 #[.val (.int p0), .val (.int p1), .val (.int (v_a p0)), .val (.long (v_ca p0)), .second, .val (.int (v_b p0)), .val (.long (v_cb p0)), .second, .val (.int (v_pop p0)), .val (.int (v_c p1)), .val (.long (v_cc p1)), .second, .val (.ref b2), .val (.int (1 : Int32)), .unset, .unset, .unset, .unset, .unset, .unset, .unset] [(.long (v_cb p0)), (.int (v_b p0)), (.ref b2)])) rfl (by rw [hml]; rfl) (Steps.refl _) (argsL := [(.int (v_b p0)), (.long (v_cb p0))]) (rest := []) (lenOf pd_1 rfl) rfl (by show 2 * 0 + _ ≤ _; exact Nat.le_of_eq rfl) (hb hby at_89) (fun _ _ => ⟨rfl, rfl, (by decide : 5 + 0 ≤ _), (by decide : 62 + 0 ≤ _)⟩)
            dsimp only [Pt.U, Pt.locs, Pt.cells, Pt.slots] at X183 l183 y183 z183 st183 hQ183
            subst l183 y183 z183
            obtain ⟨rfl, N183q, K183q, F183_0, F183_1, F183_2, F183_3, F183_4, F183_5, F183_6, F183_7, F183_8, F183_9, V183_10, V183_11, V183_12⟩ := hQ183
            have N183 := Fr.app N111 N183q
            have E184q : Exa Z T183.heap b2 "com/example/nearpath/nearpath/answer/Frontier" := E112q.keep K183q
            have V185 : Ary Z T183.heap lv_13 .int 16 (bts (fun _ => (0 : Int32))) := V113.keep K183q (ninS (Ne.symm ne_b2_lv_13) (ninS P13_18 (ninS P13_19 (ninS P13_20 nin0))))
            have K183 : Keep h0 T183.heap [] := K111.trans K183q (allS (Or.inr sz_b2) (allS (Or.inr sz_hc_13) (allS (Or.inr sz_hi_13) (allS (Or.inr sz_sn_13) all0))))
            refine Go.st (mkF m 92 #[.val (.int p0), .val (.int p1), .val (.int (v_a p0)), .val (.long (v_ca p0)), .second, .val (.int (v_b p0)), .val (.long (v_cb p0)), .second, .val (.int (v_pop p0)), .val (.int (v_c p1)), .val (.long (v_cc p1)), .second, .val (.ref b2), .val (.int (1 : Int32)), .unset, .unset, .unset, .unset, .unset, .unset, .unset] []) (fun _ k => st183.trans k) ?_
            refine Go.st (mkF m 94 #[.val (.int p0), .val (.int p1), .val (.int (v_a p0)), .val (.long (v_ca p0)), .second, .val (.int (v_b p0)), .val (.long (v_cb p0)), .second, .val (.int (v_pop p0)), .val (.int (v_c p1)), .val (.long (v_cc p1)), .second, .val (.ref b2), .val (.int (1 : Int32)), .unset, .unset, .unset, .unset, .unset, .unset, .unset] [(.int (v_pop p0))]) (fun _ k => XS.iload X183.here hx rfl (hb hby at_92) rfl k) ?_
            by_cases hc94_186 : (v_pop p0) = (0 : Int32)
            ·
              refine Go.st (mkF m 103 #[.val (.int p0), .val (.int p1), .val (.int (v_a p0)), .val (.long (v_ca p0)), .second, .val (.int (v_b p0)), .val (.long (v_cb p0)), .second, .val (.int (v_pop p0)), .val (.int (v_c p1)), .val (.long (v_cc p1)), .second, .val (.ref b2), .val (.int (1 : Int32)), .unset, .unset, .unset, .unset, .unset, .unset, .unset] []) (fun _ k => XS.ifYes X183.here hx rfl (pc0 := 94) (pc' := 103) rfl (hb hby at_94) rfl ((if0 _ _).trans (teq hc94_186).1) (by decide) (by decide) k) ?_
              refine Go.st (mkF m 105 #[.val (.int p0), .val (.int p1), .val (.int (v_a p0)), .val (.long (v_ca p0)), .second, .val (.int (v_b p0)), .val (.long (v_cb p0)), .second, .val (.int (v_pop p0)), .val (.int (v_c p1)), .val (.long (v_cc p1)), .second, .val (.ref b2), .val (.int (1 : Int32)), .unset, .unset, .unset, .unset, .unset, .unset, .unset] [(.ref b2)]) (fun _ k => XS.aload X183.here hx rfl (hb hby at_103) rfl rfl k) ?_
              obtain ⟨cq187, kq187, q187a, q187b, q187c⟩ := isOf hZ rfl E184q
              obtain ⟨_, _, ⟨T187, L187, k187, n187⟩, -, X187, ⟨Lc187, hQ187, l187, y187, z187⟩, st187⟩ := X183.virtualBack hx (y := (⟨"com/example/nearpath/nearpath/answer/Frontier", "startSearch", "()I"⟩ : MethodName)) (z := (⟨"com/example/nearpath/nearpath/answer/Frontier", "startSearch", "()I"⟩ : MethodName)) hown (mvT hZ (hw _ (List.mem_of_getElem? (i := 22) rfl))) (mvT hZ (hw _ (List.mem_of_getElem? (i := 23) rfl))) (notFace_of_selects (args := #[]) (mvT hZ (hw _ (List.mem_of_getElem? (i := 25) rfl)))) (mvT hZ (hw _ (List.mem_of_getElem? (i := 25) rfl))) (mvT hZ (hw _ (List.mem_of_getElem? (i := 24) rfl))) (by decide) (backOf (W := 0) (rm_ss2 l Z a0 hw [] b2 lv_13 hc_13 hi_13 sn_13 (1 : Int32) (0 : Int64) (0 : Int32) (0 : Int32) (updI (updI (updI (fun _ => (0 : Int32)) 0 (v_a p0)) 1 ((updI (fun _ => (0 : Int32)) 0 (v_a p0)) 0)) 0 (v_b p0)) (updI (updI (updI (fun _ => (0 : Int32)) ((v_a p0).toNatClampNeg) (-1 : Int32)) (((updI (fun _ => (0 : Int32)) 0 (v_a p0)) 0).toNatClampNeg) (-2 : Int32)) ((v_b p0).toNatClampNeg) (-1 : Int32)) T183.heap n0 (Nat.le_trans Z0 K183.1) E184q F183_0 F183_1 F183_2 F183_3 F183_4 F183_5 F183_6 F183_7 F183_8 F183_9 V183_11 V183_12 (by first | exact own_va p0 | exact own_vb p0 | exact own_vc p1) (by first | exact own_va p0 | exact own_vb p0 | exact own_vc p1) g_b2 g_sn_13 ne_b2_hi_13 ne_b2_sn_13 P13_23) hZ (hw _ (List.mem_of_getElem? (i := 26) rfl)) (hw _ (List.mem_of_getElem? (i := 2) rfl)) (by decide) (by decide)) q187a q187c (g := (mkF m 105 #[.val (.int p0), .val (.int p1), .val (.int (v_a p0)), .val (.long (v_ca p0)), .second, .val (.int (v_b p0)), .val (.long (v_cb p0)), .second, .val (.int (v_pop p0)), .val (.int (v_c p1)), .val (.long (v_cc p1)), .second, .val (.ref b2), .val (.int (1 : Int32)), .unset, .unset, .unset, .unset, .unset, .unset, .unset] [(.ref b2)])) rfl (by rw [hml]; rfl) (Steps.refl _) (argsL := []) (rest := []) (lenOf pd_3 rfl) rfl (by show 2 * 0 + _ ≤ _; exact Nat.le_of_eq rfl) (hb hby at_105) (fun _ _ => ⟨rfl, rfl, (by decide : 5 + 0 ≤ _), (by decide : 62 + 0 ≤ _)⟩)
              dsimp only [Pt.U, Pt.locs, Pt.cells, Pt.slots] at X187 l187 y187 z187 st187 hQ187
              subst l187 y187 z187
              obtain ⟨rfl, N187q, K187q, F187_0, F187_1, F187_2, F187_3, F187_4, F187_5, F187_6, F187_7, F187_8, F187_9, V187_10⟩ := hQ187
              have N187 := Fr.app N183 N187q
              have E188q : Exa Z T187.heap b2 "com/example/nearpath/nearpath/answer/Frontier" := E184q.keep K187q
              have V189 : Ary Z T187.heap lv_13 .int 16 (bts (fun _ => (0 : Int32))) := V185.keep K187q (ninS (Ne.symm ne_b2_lv_13) (ninS P13_20 nin0))
              have V190 : Ary Z T187.heap hc_13 .long 16 (lts (updJ (updJ (updJ (fun _ => (0 : Int64)) 0 (v_ca p0)) 1 ((updJ (fun _ => (0 : Int64)) 0 (v_ca p0)) 0)) 0 (v_cb p0))) := V183_10.keep K187q (ninS (Ne.symm ne_b2_hc_13) (ninS P13_22 nin0))
              have V191 : Ary Z T187.heap hi_13 .int 16 (bts (updI (updI (updI (fun _ => (0 : Int32)) 0 (v_a p0)) 1 ((updI (fun _ => (0 : Int32)) 0 (v_a p0)) 0)) 0 (v_b p0))) := V183_11.keep K187q (ninS (Ne.symm ne_b2_hi_13) (ninS P13_23 nin0))
              have K187 : Keep h0 T187.heap [] := K183.trans K187q (allS (Or.inr sz_b2) (allS (Or.inr sz_sn_13) all0))
              refine Go.st (mkF m 108 #[.val (.int p0), .val (.int p1), .val (.int (v_a p0)), .val (.long (v_ca p0)), .second, .val (.int (v_b p0)), .val (.long (v_cb p0)), .second, .val (.int (v_pop p0)), .val (.int (v_c p1)), .val (.long (v_cc p1)), .second, .val (.ref b2), .val (.int (1 : Int32)), .unset, .unset, .unset, .unset, .unset, .unset, .unset] [(.int (2 : Int32))]) (fun _ k => st187.trans k) ?_
              have HG : ∀ j, j < 4 → (updI (updI (updI (updI (updI (fun _ => (0 : Int32)) ((v_a p0).toNatClampNeg) (-1 : Int32)) (((updI (fun _ => (0 : Int32)) 0 (v_a p0)) 0).toNatClampNeg) (-2 : Int32)) ((v_b p0).toNatClampNeg) (-1 : Int32)) (((updI (updI (updI (fun _ => (0 : Int32)) 0 (v_a p0)) 1 ((updI (fun _ => (0 : Int32)) 0 (v_a p0)) 0)) 0 (v_b p0)) 0).toNatClampNeg) (0 : Int32)) (((updI (updI (updI (fun _ => (0 : Int32)) 0 (v_a p0)) 1 ((updI (fun _ => (0 : Int32)) 0 (v_a p0)) 0)) 0 (v_b p0)) 1).toNatClampNeg) (0 : Int32)) j = (0 : Int32) ∨ (updI (updI (updI (updI (updI (fun _ => (0 : Int32)) ((v_a p0).toNatClampNeg) (-1 : Int32)) (((updI (fun _ => (0 : Int32)) 0 (v_a p0)) 0).toNatClampNeg) (-2 : Int32)) ((v_b p0).toNatClampNeg) (-1 : Int32)) (((updI (updI (updI (fun _ => (0 : Int32)) 0 (v_a p0)) 1 ((updI (fun _ => (0 : Int32)) 0 (v_a p0)) 0)) 0 (v_b p0)) 0).toNatClampNeg) (0 : Int32)) (((updI (updI (updI (fun _ => (0 : Int32)) 0 (v_a p0)) 1 ((updI (fun _ => (0 : Int32)) 0 (v_a p0)) 0)) 0 (v_b p0)) 1).toNatClampNeg) (0 : Int32)) j = (1 : Int32) := by
                intro j hj
                show (updI (updI (updI (updI (updI (fun _ => (0 : Int32)) ((v_a p0).toNatClampNeg) (-1 : Int32)) ((v_a p0).toNatClampNeg) (-2 : Int32)) ((v_b p0).toNatClampNeg) (-1 : Int32)) ((v_b p0).toNatClampNeg) (0 : Int32)) ((v_a p0).toNatClampNeg) (0 : Int32)) j = (0 : Int32) ∨ (updI (updI (updI (updI (updI (fun _ => (0 : Int32)) ((v_a p0).toNatClampNeg) (-1 : Int32)) ((v_a p0).toNatClampNeg) (-2 : Int32)) ((v_b p0).toNatClampNeg) (-1 : Int32)) ((v_b p0).toNatClampNeg) (0 : Int32)) ((v_a p0).toNatClampNeg) (0 : Int32)) j = (1 : Int32)
                exact own_hgN (A := ((v_a p0).toNatClampNeg)) (B := ((v_b p0).toNatClampNeg)) hBA (fun A_ B_ j => (updI (updI (updI (updI (updI (fun _ => (0 : Int32)) A_ (-1 : Int32)) A_ (-2 : Int32)) B_ (-1 : Int32)) B_ (0 : Int32)) A_ (0 : Int32)) j) (by intro A_ B_ j h1; unfold updI; by_cases q1 : j = A_ <;> by_cases q2 : j = B_ <;> first | (simp only [if_pos q1, if_pos q2]; decide) | (simp only [if_pos q1, if_neg q2]; decide) | (simp only [if_neg q1, if_pos q2]; decide) | (simp only [if_neg q1, if_neg q2]; decide) | (exfalso; omega))
              exact JL _ _ _ (fun _ => (0 : Int32)) (updJ (updJ (updJ (fun _ => (0 : Int64)) 0 (v_ca p0)) 1 ((updJ (fun _ => (0 : Int64)) 0 (v_ca p0)) 0)) 0 (v_cb p0)) (updI (updI (updI (fun _ => (0 : Int32)) 0 (v_a p0)) 1 ((updI (fun _ => (0 : Int32)) 0 (v_a p0)) 0)) 0 (v_b p0)) (updI (updI (updI (updI (updI (fun _ => (0 : Int32)) ((v_a p0).toNatClampNeg) (-1 : Int32)) (((updI (fun _ => (0 : Int32)) 0 (v_a p0)) 0).toNatClampNeg) (-2 : Int32)) ((v_b p0).toNatClampNeg) (-1 : Int32)) (((updI (updI (updI (fun _ => (0 : Int32)) 0 (v_a p0)) 1 ((updI (fun _ => (0 : Int32)) 0 (v_a p0)) 0)) 0 (v_b p0)) 0).toNatClampNeg) (0 : Int32)) (((updI (updI (updI (fun _ => (0 : Int32)) 0 (v_a p0)) 1 ((updI (fun _ => (0 : Int32)) 0 (v_a p0)) 0)) 0 (v_b p0)) 1).toNatClampNeg) (0 : Int32)) X187 rfl N187 K187 HG E188q V189 V190 V191 V187_10 F187_0 F187_1 F187_2 F187_3 F187_4 F187_5 F187_6 F187_7 F187_8 F187_9
            ·
              refine Go.st (mkF m 97 #[.val (.int p0), .val (.int p1), .val (.int (v_a p0)), .val (.long (v_ca p0)), .second, .val (.int (v_b p0)), .val (.long (v_cb p0)), .second, .val (.int (v_pop p0)), .val (.int (v_c p1)), .val (.long (v_cc p1)), .second, .val (.ref b2), .val (.int (1 : Int32)), .unset, .unset, .unset, .unset, .unset, .unset, .unset] []) (fun _ k => XS.ifNo X183.here hx rfl (hb hby at_94) rfl ((if0 _ _).trans (feq hc94_186).1) k) ?_
              refine Go.st (mkF m 99 #[.val (.int p0), .val (.int p1), .val (.int (v_a p0)), .val (.long (v_ca p0)), .second, .val (.int (v_b p0)), .val (.long (v_cb p0)), .second, .val (.int (v_pop p0)), .val (.int (v_c p1)), .val (.long (v_cc p1)), .second, .val (.ref b2), .val (.int (1 : Int32)), .unset, .unset, .unset, .unset, .unset, .unset, .unset] [(.ref b2)]) (fun _ k => XS.aload X183.here hx rfl (hb hby at_97) rfl rfl k) ?_
              obtain ⟨cq192, kq192, q192a, q192b, q192c⟩ := isOf hZ rfl E184q
              obtain ⟨_, _, ⟨T192, L192, k192, n192⟩, -, X192, ⟨Lc192, hQ192, l192, y192, z192⟩, st192⟩ := X183.virtualBack hx (y := (⟨"com/example/nearpath/nearpath/answer/Frontier", "next", "()I"⟩ : MethodName)) (z := (⟨"com/example/nearpath/nearpath/answer/Frontier", "next", "()I"⟩ : MethodName)) hown (mvT hZ (hw _ (List.mem_of_getElem? (i := 45) rfl))) (mvT hZ (hw _ (List.mem_of_getElem? (i := 46) rfl))) (notFace_of_selects (args := #[]) (mvT hZ (hw _ (List.mem_of_getElem? (i := 48) rfl)))) (mvT hZ (hw _ (List.mem_of_getElem? (i := 48) rfl))) (mvT hZ (hw _ (List.mem_of_getElem? (i := 47) rfl))) (by decide) (backOf (W := 0) (rm_n4 l Z a0 hw [] b2 lv_13 hc_13 hi_13 sn_13 (1 : Int32) (0 : Int64) (updJ (updJ (updJ (fun _ => (0 : Int64)) 0 (v_ca p0)) 1 ((updJ (fun _ => (0 : Int64)) 0 (v_ca p0)) 0)) 0 (v_cb p0)) (updI (updI (updI (fun _ => (0 : Int32)) 0 (v_a p0)) 1 ((updI (fun _ => (0 : Int32)) 0 (v_a p0)) 0)) 0 (v_b p0)) (updI (updI (updI (fun _ => (0 : Int32)) ((v_a p0).toNatClampNeg) (-1 : Int32)) (((updI (fun _ => (0 : Int32)) 0 (v_a p0)) 0).toNatClampNeg) (-2 : Int32)) ((v_b p0).toNatClampNeg) (-1 : Int32)) T183.heap n0 (Nat.le_trans Z0 K183.1) E184q F183_0 F183_1 F183_2 F183_3 F183_4 F183_5 F183_6 F183_7 F183_8 F183_9 V183_10 V183_11 V183_12 (by first | exact own_va p0 | exact own_vb p0 | exact own_vc p1) (by first | exact own_va p0 | exact own_vb p0 | exact own_vc p1) g_b2 g_hc_13 g_hi_13 g_sn_13 ne_b2_hc_13 ne_b2_hi_13 ne_b2_sn_13 P13_21 P13_22 P13_23) hZ (hw _ (List.mem_of_getElem? (i := 49) rfl)) (hw _ (List.mem_of_getElem? (i := 2) rfl)) (by decide) (by decide)) q192a q192c (g := (mkF m 99 #[.val (.int p0), .val (.int p1), .val (.int (v_a p0)), .val (.long (v_ca p0)), .second, .val (.int (v_b p0)), .val (.long (v_cb p0)), .second, .val (.int (v_pop p0)), .val (.int (v_c p1)), .val (.long (v_cc p1)), .second, .val (.ref b2), .val (.int (1 : Int32)), .unset, .unset, .unset, .unset, .unset, .unset, .unset] [(.ref b2)])) rfl (by rw [hml]; rfl) (Steps.refl _) (argsL := []) (rest := []) (lenOf pd_3 rfl) rfl (by show 2 * 0 + _ ≤ _; exact Nat.le_of_eq rfl) (hb hby at_99) (fun _ _ => ⟨rfl, rfl, (by decide : 5 + 0 ≤ _), (by decide : 62 + 0 ≤ _)⟩)
              dsimp only [Pt.U, Pt.locs, Pt.cells, Pt.slots] at X192 l192 y192 z192 st192 hQ192
              subst l192 y192 z192
              obtain ⟨rfl, N192q, K192q, F192_0, F192_1, F192_2, F192_3, F192_4, F192_5, F192_6, F192_7, F192_8, F192_9, V192_10, V192_11, V192_12⟩ := hQ192
              have N192 := Fr.app N183 N192q
              have E193q : Exa Z T192.heap b2 "com/example/nearpath/nearpath/answer/Frontier" := E184q.keep K192q
              have V194 : Ary Z T192.heap lv_13 .int 16 (bts (fun _ => (0 : Int32))) := V185.keep K192q (ninS (Ne.symm ne_b2_lv_13) (ninS P13_18 (ninS P13_19 (ninS P13_20 nin0))))
              have K192 : Keep h0 T192.heap [] := K183.trans K192q (allS (Or.inr sz_b2) (allS (Or.inr sz_hc_13) (allS (Or.inr sz_hi_13) (allS (Or.inr sz_sn_13) all0))))
              refine Go.st (mkF m 102 #[.val (.int p0), .val (.int p1), .val (.int (v_a p0)), .val (.long (v_ca p0)), .second, .val (.int (v_b p0)), .val (.long (v_cb p0)), .second, .val (.int (v_pop p0)), .val (.int (v_c p1)), .val (.long (v_cc p1)), .second, .val (.ref b2), .val (.int (1 : Int32)), .unset, .unset, .unset, .unset, .unset, .unset, .unset] [(.int ((updI (updI (updI (fun _ => (0 : Int32)) 0 (v_a p0)) 1 ((updI (fun _ => (0 : Int32)) 0 (v_a p0)) 0)) 0 (v_b p0)) 0))]) (fun _ k => st192.trans k) ?_
              refine Go.st (mkF m 103 #[.val (.int p0), .val (.int p1), .val (.int (v_a p0)), .val (.long (v_ca p0)), .second, .val (.int (v_b p0)), .val (.long (v_cb p0)), .second, .val (.int (v_pop p0)), .val (.int (v_c p1)), .val (.long (v_cc p1)), .second, .val (.ref b2), .val (.int (1 : Int32)), .unset, .unset, .unset, .unset, .unset, .unset, .unset] []) (fun _ k => XT.pop X192.here hx rfl (hb hby at_102) rfl rfl k) ?_
              refine Go.st (mkF m 105 #[.val (.int p0), .val (.int p1), .val (.int (v_a p0)), .val (.long (v_ca p0)), .second, .val (.int (v_b p0)), .val (.long (v_cb p0)), .second, .val (.int (v_pop p0)), .val (.int (v_c p1)), .val (.long (v_cc p1)), .second, .val (.ref b2), .val (.int (1 : Int32)), .unset, .unset, .unset, .unset, .unset, .unset, .unset] [(.ref b2)]) (fun _ k => XS.aload X192.here hx rfl (hb hby at_103) rfl rfl k) ?_
              obtain ⟨cq195, kq195, q195a, q195b, q195c⟩ := isOf hZ rfl E193q
              obtain ⟨_, _, ⟨T195, L195, k195, n195⟩, -, X195, ⟨Lc195, hQ195, l195, y195, z195⟩, st195⟩ := X192.virtualBack hx (y := (⟨"com/example/nearpath/nearpath/answer/Frontier", "startSearch", "()I"⟩ : MethodName)) (z := (⟨"com/example/nearpath/nearpath/answer/Frontier", "startSearch", "()I"⟩ : MethodName)) hown (mvT hZ (hw _ (List.mem_of_getElem? (i := 22) rfl))) (mvT hZ (hw _ (List.mem_of_getElem? (i := 23) rfl))) (notFace_of_selects (args := #[]) (mvT hZ (hw _ (List.mem_of_getElem? (i := 25) rfl)))) (mvT hZ (hw _ (List.mem_of_getElem? (i := 25) rfl))) (mvT hZ (hw _ (List.mem_of_getElem? (i := 24) rfl))) (by decide) (backOf (W := 0) (rm_ss1 l Z a0 hw [] b2 lv_13 hc_13 hi_13 sn_13 (1 : Int32) ((updJ (updJ (updJ (fun _ => (0 : Int64)) 0 (v_ca p0)) 1 ((updJ (fun _ => (0 : Int64)) 0 (v_ca p0)) 0)) 0 (v_cb p0)) 0) (0 : Int32) (0 : Int32) (updI (updI (updI (updI (fun _ => (0 : Int32)) 0 (v_a p0)) 1 ((updI (fun _ => (0 : Int32)) 0 (v_a p0)) 0)) 0 (v_b p0)) 0 ((updI (updI (updI (fun _ => (0 : Int32)) 0 (v_a p0)) 1 ((updI (fun _ => (0 : Int32)) 0 (v_a p0)) 0)) 0 (v_b p0)) 1)) (updI (updI (updI (updI (updI (fun _ => (0 : Int32)) ((v_a p0).toNatClampNeg) (-1 : Int32)) (((updI (fun _ => (0 : Int32)) 0 (v_a p0)) 0).toNatClampNeg) (-2 : Int32)) ((v_b p0).toNatClampNeg) (-1 : Int32)) (((updI (updI (updI (fun _ => (0 : Int32)) 0 (v_a p0)) 1 ((updI (fun _ => (0 : Int32)) 0 (v_a p0)) 0)) 0 (v_b p0)) 0).toNatClampNeg) (1 : Int32)) (((updI (updI (updI (fun _ => (0 : Int32)) 0 (v_a p0)) 1 ((updI (fun _ => (0 : Int32)) 0 (v_a p0)) 0)) 0 (v_b p0)) 1).toNatClampNeg) (-1 : Int32)) T192.heap n0 (Nat.le_trans Z0 K192.1) E193q F192_0 F192_1 F192_2 F192_3 F192_4 F192_5 F192_6 F192_7 F192_8 F192_9 V192_11 V192_12 (by first | exact own_va p0 | exact own_vb p0 | exact own_vc p1) g_b2 g_sn_13 ne_b2_hi_13 ne_b2_sn_13 P13_23) hZ (hw _ (List.mem_of_getElem? (i := 26) rfl)) (hw _ (List.mem_of_getElem? (i := 2) rfl)) (by decide) (by decide)) q195a q195c (g := (mkF m 105 #[.val (.int p0), .val (.int p1), .val (.int (v_a p0)), .val (.long (v_ca p0)), .second, .val (.int (v_b p0)), .val (.long (v_cb p0)), .second, .val (.int (v_pop p0)), .val (.int (v_c p1)), .val (.long (v_cc p1)), .second, .val (.ref b2), .val (.int (1 : Int32)), .unset, .unset, .unset, .unset, .unset, .unset, .unset] [(.ref b2)])) rfl (by rw [hml]; rfl) (Steps.refl _) (argsL := []) (rest := []) (lenOf pd_3 rfl) rfl (by show 2 * 0 + _ ≤ _; exact Nat.le_of_eq rfl) (hb hby at_105) (fun _ _ => ⟨rfl, rfl, (by decide : 5 + 0 ≤ _), (by decide : 62 + 0 ≤ _)⟩)
              dsimp only [Pt.U, Pt.locs, Pt.cells, Pt.slots] at X195 l195 y195 z195 st195 hQ195
              subst l195 y195 z195
              obtain ⟨rfl, N195q, K195q, F195_0, F195_1, F195_2, F195_3, F195_4, F195_5, F195_6, F195_7, F195_8, F195_9, V195_10⟩ := hQ195
              have N195 := Fr.app N192 N195q
              have E196q : Exa Z T195.heap b2 "com/example/nearpath/nearpath/answer/Frontier" := E193q.keep K195q
              have V197 : Ary Z T195.heap lv_13 .int 16 (bts (fun _ => (0 : Int32))) := V194.keep K195q (ninS (Ne.symm ne_b2_lv_13) (ninS P13_20 nin0))
              have V198 : Ary Z T195.heap hc_13 .long 16 (lts (updJ (updJ (updJ (updJ (fun _ => (0 : Int64)) 0 (v_ca p0)) 1 ((updJ (fun _ => (0 : Int64)) 0 (v_ca p0)) 0)) 0 (v_cb p0)) 0 ((updJ (updJ (updJ (fun _ => (0 : Int64)) 0 (v_ca p0)) 1 ((updJ (fun _ => (0 : Int64)) 0 (v_ca p0)) 0)) 0 (v_cb p0)) 1))) := V192_10.keep K195q (ninS (Ne.symm ne_b2_hc_13) (ninS P13_22 nin0))
              have V199 : Ary Z T195.heap hi_13 .int 16 (bts (updI (updI (updI (updI (fun _ => (0 : Int32)) 0 (v_a p0)) 1 ((updI (fun _ => (0 : Int32)) 0 (v_a p0)) 0)) 0 (v_b p0)) 0 ((updI (updI (updI (fun _ => (0 : Int32)) 0 (v_a p0)) 1 ((updI (fun _ => (0 : Int32)) 0 (v_a p0)) 0)) 0 (v_b p0)) 1))) := V192_11.keep K195q (ninS (Ne.symm ne_b2_hi_13) (ninS P13_23 nin0))
              have K195 : Keep h0 T195.heap [] := K192.trans K195q (allS (Or.inr sz_b2) (allS (Or.inr sz_sn_13) all0))
              refine Go.st (mkF m 108 #[.val (.int p0), .val (.int p1), .val (.int (v_a p0)), .val (.long (v_ca p0)), .second, .val (.int (v_b p0)), .val (.long (v_cb p0)), .second, .val (.int (v_pop p0)), .val (.int (v_c p1)), .val (.long (v_cc p1)), .second, .val (.ref b2), .val (.int (1 : Int32)), .unset, .unset, .unset, .unset, .unset, .unset, .unset] [(.int (2 : Int32))]) (fun _ k => st195.trans k) ?_
              have HG : ∀ j, j < 4 → (updI (updI (updI (updI (updI (updI (fun _ => (0 : Int32)) ((v_a p0).toNatClampNeg) (-1 : Int32)) (((updI (fun _ => (0 : Int32)) 0 (v_a p0)) 0).toNatClampNeg) (-2 : Int32)) ((v_b p0).toNatClampNeg) (-1 : Int32)) (((updI (updI (updI (fun _ => (0 : Int32)) 0 (v_a p0)) 1 ((updI (fun _ => (0 : Int32)) 0 (v_a p0)) 0)) 0 (v_b p0)) 0).toNatClampNeg) (1 : Int32)) (((updI (updI (updI (fun _ => (0 : Int32)) 0 (v_a p0)) 1 ((updI (fun _ => (0 : Int32)) 0 (v_a p0)) 0)) 0 (v_b p0)) 1).toNatClampNeg) (-1 : Int32)) (((updI (updI (updI (updI (fun _ => (0 : Int32)) 0 (v_a p0)) 1 ((updI (fun _ => (0 : Int32)) 0 (v_a p0)) 0)) 0 (v_b p0)) 0 ((updI (updI (updI (fun _ => (0 : Int32)) 0 (v_a p0)) 1 ((updI (fun _ => (0 : Int32)) 0 (v_a p0)) 0)) 0 (v_b p0)) 1)) 0).toNatClampNeg) (0 : Int32)) j = (0 : Int32) ∨ (updI (updI (updI (updI (updI (updI (fun _ => (0 : Int32)) ((v_a p0).toNatClampNeg) (-1 : Int32)) (((updI (fun _ => (0 : Int32)) 0 (v_a p0)) 0).toNatClampNeg) (-2 : Int32)) ((v_b p0).toNatClampNeg) (-1 : Int32)) (((updI (updI (updI (fun _ => (0 : Int32)) 0 (v_a p0)) 1 ((updI (fun _ => (0 : Int32)) 0 (v_a p0)) 0)) 0 (v_b p0)) 0).toNatClampNeg) (1 : Int32)) (((updI (updI (updI (fun _ => (0 : Int32)) 0 (v_a p0)) 1 ((updI (fun _ => (0 : Int32)) 0 (v_a p0)) 0)) 0 (v_b p0)) 1).toNatClampNeg) (-1 : Int32)) (((updI (updI (updI (updI (fun _ => (0 : Int32)) 0 (v_a p0)) 1 ((updI (fun _ => (0 : Int32)) 0 (v_a p0)) 0)) 0 (v_b p0)) 0 ((updI (updI (updI (fun _ => (0 : Int32)) 0 (v_a p0)) 1 ((updI (fun _ => (0 : Int32)) 0 (v_a p0)) 0)) 0 (v_b p0)) 1)) 0).toNatClampNeg) (0 : Int32)) j = (1 : Int32) := by
                intro j hj
                show (updI (updI (updI (updI (updI (updI (fun _ => (0 : Int32)) ((v_a p0).toNatClampNeg) (-1 : Int32)) ((v_a p0).toNatClampNeg) (-2 : Int32)) ((v_b p0).toNatClampNeg) (-1 : Int32)) ((v_b p0).toNatClampNeg) (1 : Int32)) ((v_a p0).toNatClampNeg) (-1 : Int32)) ((v_a p0).toNatClampNeg) (0 : Int32)) j = (0 : Int32) ∨ (updI (updI (updI (updI (updI (updI (fun _ => (0 : Int32)) ((v_a p0).toNatClampNeg) (-1 : Int32)) ((v_a p0).toNatClampNeg) (-2 : Int32)) ((v_b p0).toNatClampNeg) (-1 : Int32)) ((v_b p0).toNatClampNeg) (1 : Int32)) ((v_a p0).toNatClampNeg) (-1 : Int32)) ((v_a p0).toNatClampNeg) (0 : Int32)) j = (1 : Int32)
                exact own_hgN (A := ((v_a p0).toNatClampNeg)) (B := ((v_b p0).toNatClampNeg)) hBA (fun A_ B_ j => (updI (updI (updI (updI (updI (updI (fun _ => (0 : Int32)) A_ (-1 : Int32)) A_ (-2 : Int32)) B_ (-1 : Int32)) B_ (1 : Int32)) A_ (-1 : Int32)) A_ (0 : Int32)) j) (by intro A_ B_ j h1; unfold updI; by_cases q1 : j = A_ <;> by_cases q2 : j = B_ <;> first | (simp only [if_pos q1, if_pos q2]; decide) | (simp only [if_pos q1, if_neg q2]; decide) | (simp only [if_neg q1, if_pos q2]; decide) | (simp only [if_neg q1, if_neg q2]; decide) | (exfalso; omega))
              exact JL _ _ _ (fun _ => (0 : Int32)) (updJ (updJ (updJ (updJ (fun _ => (0 : Int64)) 0 (v_ca p0)) 1 ((updJ (fun _ => (0 : Int64)) 0 (v_ca p0)) 0)) 0 (v_cb p0)) 0 ((updJ (updJ (updJ (fun _ => (0 : Int64)) 0 (v_ca p0)) 1 ((updJ (fun _ => (0 : Int64)) 0 (v_ca p0)) 0)) 0 (v_cb p0)) 1)) (updI (updI (updI (updI (fun _ => (0 : Int32)) 0 (v_a p0)) 1 ((updI (fun _ => (0 : Int32)) 0 (v_a p0)) 0)) 0 (v_b p0)) 0 ((updI (updI (updI (fun _ => (0 : Int32)) 0 (v_a p0)) 1 ((updI (fun _ => (0 : Int32)) 0 (v_a p0)) 0)) 0 (v_b p0)) 1)) (updI (updI (updI (updI (updI (updI (fun _ => (0 : Int32)) ((v_a p0).toNatClampNeg) (-1 : Int32)) (((updI (fun _ => (0 : Int32)) 0 (v_a p0)) 0).toNatClampNeg) (-2 : Int32)) ((v_b p0).toNatClampNeg) (-1 : Int32)) (((updI (updI (updI (fun _ => (0 : Int32)) 0 (v_a p0)) 1 ((updI (fun _ => (0 : Int32)) 0 (v_a p0)) 0)) 0 (v_b p0)) 0).toNatClampNeg) (1 : Int32)) (((updI (updI (updI (fun _ => (0 : Int32)) 0 (v_a p0)) 1 ((updI (fun _ => (0 : Int32)) 0 (v_a p0)) 0)) 0 (v_b p0)) 1).toNatClampNeg) (-1 : Int32)) (((updI (updI (updI (updI (fun _ => (0 : Int32)) 0 (v_a p0)) 1 ((updI (fun _ => (0 : Int32)) 0 (v_a p0)) 0)) 0 (v_b p0)) 0 ((updI (updI (updI (fun _ => (0 : Int32)) 0 (v_a p0)) 1 ((updI (fun _ => (0 : Int32)) 0 (v_a p0)) 0)) 0 (v_b p0)) 1)) 0).toNatClampNeg) (0 : Int32)) X195 rfl N195 K195 HG E196q V197 V198 V199 V195_10 F195_0 F195_1 F195_2 F195_3 F195_4 F195_5 F195_6 F195_7 F195_8 F195_9
          ·
            refine Go.st (mkF m 85 #[.val (.int p0), .val (.int p1), .val (.int (v_a p0)), .val (.long (v_ca p0)), .second, .val (.int (v_b p0)), .val (.long (v_cb p0)), .second, .val (.int (v_pop p0)), .val (.int (v_c p1)), .val (.long (v_cc p1)), .second, .val (.ref b2), .val (.int (1 : Int32)), .unset, .unset, .unset, .unset, .unset, .unset, .unset] [(.ref b2)]) (fun _ k => XS.aload X111.here hx rfl (hb hby at_83) rfl rfl k) ?_
            refine Go.st (mkF m 87 #[.val (.int p0), .val (.int p1), .val (.int (v_a p0)), .val (.long (v_ca p0)), .second, .val (.int (v_b p0)), .val (.long (v_cb p0)), .second, .val (.int (v_pop p0)), .val (.int (v_c p1)), .val (.long (v_cc p1)), .second, .val (.ref b2), .val (.int (1 : Int32)), .unset, .unset, .unset, .unset, .unset, .unset, .unset] [(.int (v_b p0)), (.ref b2)]) (fun _ k => XS.iload X111.here hx rfl (hb hby at_85) rfl k) ?_
            refine Go.st (mkF m 89 #[.val (.int p0), .val (.int p1), .val (.int (v_a p0)), .val (.long (v_ca p0)), .second, .val (.int (v_b p0)), .val (.long (v_cb p0)), .second, .val (.int (v_pop p0)), .val (.int (v_c p1)), .val (.long (v_cc p1)), .second, .val (.ref b2), .val (.int (1 : Int32)), .unset, .unset, .unset, .unset, .unset, .unset, .unset] [(.long (v_cb p0)), (.int (v_b p0)), (.ref b2)]) (fun _ k => XT.lload X111.here hx rfl (hb hby at_87) rfl k) ?_
            obtain ⟨cq200, kq200, q200a, q200b, q200c⟩ := isOf hZ rfl E112q
            obtain ⟨_, _, ⟨T200, L200, k200, n200⟩, -, X200, ⟨Lc200, hQ200, l200, y200, z200⟩, st200⟩ := X111.virtualBack hx (y := (⟨"com/example/nearpath/nearpath/answer/Frontier", "reach", "(IJ)V"⟩ : MethodName)) (z := (⟨"com/example/nearpath/nearpath/answer/Frontier", "reach", "(IJ)V"⟩ : MethodName)) hown (mvT hZ (hw _ (List.mem_of_getElem? (i := 37) rfl))) (mvT hZ (hw _ (List.mem_of_getElem? (i := 38) rfl))) (notFace_of_selects (args := #[]) (mvT hZ (hw _ (List.mem_of_getElem? (i := 40) rfl)))) (mvT hZ (hw _ (List.mem_of_getElem? (i := 40) rfl))) (mvT hZ (hw _ (List.mem_of_getElem? (i := 39) rfl))) (by decide) (backOf (W := 0) (rm_r52 l Z a0 hw [] b2 (v_b p0) (v_cb p0) lv_13 hc_13 hi_13 sn_13 (1 : Int32) (0 : Int64) (0 : Int32) (0 : Int32) (updJ (fun _ => (0 : Int64)) 0 (v_ca p0)) (updI (fun _ => (0 : Int32)) 0 (v_a p0)) (updI (fun _ => (0 : Int32)) ((v_a p0).toNatClampNeg) (-1 : Int32)) T111.heap n0 (Nat.le_trans Z0 K111.1) E112q F111_0 F111_1 F111_2 F111_3 F111_4 F111_5 F111_6 F111_7 F111_8 F111_9 V111_12 V111_10 V111_11 (by first | exact own_va p0 | exact own_vb p0 | exact own_vc p1) (by first | exact own_ca p0 | exact own_cb p0 | exact own_cc p1) (by first | decide | exact hlt | exact hcb | exact hM | (rw [hM]; decide)) (by first | decide | exact hlt | exact hcb | exact hM | (rw [hM]; decide)) (by first | decide | exact hlt | exact hcb | exact hM | (rw [hM]; decide)) (by first | decide | exact hlt | exact hcb | exact hM | (rw [hM]; decide)) g_b2 g_hc_13 g_hi_13 g_sn_13 ne_b2_hc_13 ne_b2_hi_13 ne_b2_sn_13 P13_21 P13_22 P13_23) hZ (hw _ (List.mem_of_getElem? (i := 41) rfl)) (hw _ (List.mem_of_getElem? (i := 2) rfl)) (by decide) (by decide)) q200a q200c (g := (mkF m 89 #[.val (.int p0), .val (.int p1), .val (.int (v_a p0)), .val (.long (v_ca p0)), .second, .val (.int (v_b p0)), .val (.long (v_cb p0)), .second, .val (.int (v_pop p0)), .val (.int (v_c p1)), .val (.long (v_cc p1)), .second, .val (.ref b2), .val (.int (1 : Int32)), .unset, .unset, .unset, .unset, .unset, .unset, .unset] [(.long (v_cb p0)), (.int (v_b p0)), (.ref b2)])) rfl (by rw [hml]; rfl) (Steps.refl _) (argsL := [(.int (v_b p0)), (.long (v_cb p0))]) (rest := []) (lenOf pd_1 rfl) rfl (by show 2 * 0 + _ ≤ _; exact Nat.le_of_eq rfl) (hb hby at_89) (fun _ _ => ⟨rfl, rfl, (by decide : 5 + 0 ≤ _), (by decide : 62 + 0 ≤ _)⟩)
            dsimp only [Pt.U, Pt.locs, Pt.cells, Pt.slots] at X200 l200 y200 z200 st200 hQ200
            subst l200 y200 z200
            obtain ⟨rfl, N200q, K200q, F200_0, F200_1, F200_2, F200_3, F200_4, F200_5, F200_6, F200_7, F200_8, F200_9, V200_10, V200_11, V200_12⟩ := hQ200
            have N200 := Fr.app N111 N200q
            have E201q : Exa Z T200.heap b2 "com/example/nearpath/nearpath/answer/Frontier" := E112q.keep K200q
            have V202 : Ary Z T200.heap lv_13 .int 16 (bts (fun _ => (0 : Int32))) := V113.keep K200q (ninS (Ne.symm ne_b2_lv_13) (ninS P13_18 (ninS P13_19 (ninS P13_20 nin0))))
            have K200 : Keep h0 T200.heap [] := K111.trans K200q (allS (Or.inr sz_b2) (allS (Or.inr sz_hc_13) (allS (Or.inr sz_hi_13) (allS (Or.inr sz_sn_13) all0))))
            refine Go.st (mkF m 92 #[.val (.int p0), .val (.int p1), .val (.int (v_a p0)), .val (.long (v_ca p0)), .second, .val (.int (v_b p0)), .val (.long (v_cb p0)), .second, .val (.int (v_pop p0)), .val (.int (v_c p1)), .val (.long (v_cc p1)), .second, .val (.ref b2), .val (.int (1 : Int32)), .unset, .unset, .unset, .unset, .unset, .unset, .unset] []) (fun _ k => st200.trans k) ?_
            refine Go.st (mkF m 94 #[.val (.int p0), .val (.int p1), .val (.int (v_a p0)), .val (.long (v_ca p0)), .second, .val (.int (v_b p0)), .val (.long (v_cb p0)), .second, .val (.int (v_pop p0)), .val (.int (v_c p1)), .val (.long (v_cc p1)), .second, .val (.ref b2), .val (.int (1 : Int32)), .unset, .unset, .unset, .unset, .unset, .unset, .unset] [(.int (v_pop p0))]) (fun _ k => XS.iload X200.here hx rfl (hb hby at_92) rfl k) ?_
            by_cases hc94_203 : (v_pop p0) = (0 : Int32)
            ·
              refine Go.st (mkF m 103 #[.val (.int p0), .val (.int p1), .val (.int (v_a p0)), .val (.long (v_ca p0)), .second, .val (.int (v_b p0)), .val (.long (v_cb p0)), .second, .val (.int (v_pop p0)), .val (.int (v_c p1)), .val (.long (v_cc p1)), .second, .val (.ref b2), .val (.int (1 : Int32)), .unset, .unset, .unset, .unset, .unset, .unset, .unset] []) (fun _ k => XS.ifYes X200.here hx rfl (pc0 := 94) (pc' := 103) rfl (hb hby at_94) rfl ((if0 _ _).trans (teq hc94_203).1) (by decide) (by decide) k) ?_
              refine Go.st (mkF m 105 #[.val (.int p0), .val (.int p1), .val (.int (v_a p0)), .val (.long (v_ca p0)), .second, .val (.int (v_b p0)), .val (.long (v_cb p0)), .second, .val (.int (v_pop p0)), .val (.int (v_c p1)), .val (.long (v_cc p1)), .second, .val (.ref b2), .val (.int (1 : Int32)), .unset, .unset, .unset, .unset, .unset, .unset, .unset] [(.ref b2)]) (fun _ k => XS.aload X200.here hx rfl (hb hby at_103) rfl rfl k) ?_
              obtain ⟨cq204, kq204, q204a, q204b, q204c⟩ := isOf hZ rfl E201q
              obtain ⟨_, _, ⟨T204, L204, k204, n204⟩, -, X204, ⟨Lc204, hQ204, l204, y204, z204⟩, st204⟩ := X200.virtualBack hx (y := (⟨"com/example/nearpath/nearpath/answer/Frontier", "startSearch", "()I"⟩ : MethodName)) (z := (⟨"com/example/nearpath/nearpath/answer/Frontier", "startSearch", "()I"⟩ : MethodName)) hown (mvT hZ (hw _ (List.mem_of_getElem? (i := 22) rfl))) (mvT hZ (hw _ (List.mem_of_getElem? (i := 23) rfl))) (notFace_of_selects (args := #[]) (mvT hZ (hw _ (List.mem_of_getElem? (i := 25) rfl)))) (mvT hZ (hw _ (List.mem_of_getElem? (i := 25) rfl))) (mvT hZ (hw _ (List.mem_of_getElem? (i := 24) rfl))) (by decide) (backOf (W := 0) (rm_ss2 l Z a0 hw [] b2 lv_13 hc_13 hi_13 sn_13 (1 : Int32) (0 : Int64) (0 : Int32) (0 : Int32) (updI (updI (fun _ => (0 : Int32)) 0 (v_a p0)) 1 (v_b p0)) (updI (updI (fun _ => (0 : Int32)) ((v_a p0).toNatClampNeg) (-1 : Int32)) ((v_b p0).toNatClampNeg) (-2 : Int32)) T200.heap n0 (Nat.le_trans Z0 K200.1) E201q F200_0 F200_1 F200_2 F200_3 F200_4 F200_5 F200_6 F200_7 F200_8 F200_9 V200_11 V200_12 (by first | exact own_va p0 | exact own_vb p0 | exact own_vc p1) (by first | exact own_va p0 | exact own_vb p0 | exact own_vc p1) g_b2 g_sn_13 ne_b2_hi_13 ne_b2_sn_13 P13_23) hZ (hw _ (List.mem_of_getElem? (i := 26) rfl)) (hw _ (List.mem_of_getElem? (i := 2) rfl)) (by decide) (by decide)) q204a q204c (g := (mkF m 105 #[.val (.int p0), .val (.int p1), .val (.int (v_a p0)), .val (.long (v_ca p0)), .second, .val (.int (v_b p0)), .val (.long (v_cb p0)), .second, .val (.int (v_pop p0)), .val (.int (v_c p1)), .val (.long (v_cc p1)), .second, .val (.ref b2), .val (.int (1 : Int32)), .unset, .unset, .unset, .unset, .unset, .unset, .unset] [(.ref b2)])) rfl (by rw [hml]; rfl) (Steps.refl _) (argsL := []) (rest := []) (lenOf pd_3 rfl) rfl (by show 2 * 0 + _ ≤ _; exact Nat.le_of_eq rfl) (hb hby at_105) (fun _ _ => ⟨rfl, rfl, (by decide : 5 + 0 ≤ _), (by decide : 62 + 0 ≤ _)⟩)
              dsimp only [Pt.U, Pt.locs, Pt.cells, Pt.slots] at X204 l204 y204 z204 st204 hQ204
              subst l204 y204 z204
              obtain ⟨rfl, N204q, K204q, F204_0, F204_1, F204_2, F204_3, F204_4, F204_5, F204_6, F204_7, F204_8, F204_9, V204_10⟩ := hQ204
              have N204 := Fr.app N200 N204q
              have E205q : Exa Z T204.heap b2 "com/example/nearpath/nearpath/answer/Frontier" := E201q.keep K204q
              have V206 : Ary Z T204.heap lv_13 .int 16 (bts (fun _ => (0 : Int32))) := V202.keep K204q (ninS (Ne.symm ne_b2_lv_13) (ninS P13_20 nin0))
              have V207 : Ary Z T204.heap hc_13 .long 16 (lts (updJ (updJ (fun _ => (0 : Int64)) 0 (v_ca p0)) 1 (v_cb p0))) := V200_10.keep K204q (ninS (Ne.symm ne_b2_hc_13) (ninS P13_22 nin0))
              have V208 : Ary Z T204.heap hi_13 .int 16 (bts (updI (updI (fun _ => (0 : Int32)) 0 (v_a p0)) 1 (v_b p0))) := V200_11.keep K204q (ninS (Ne.symm ne_b2_hi_13) (ninS P13_23 nin0))
              have K204 : Keep h0 T204.heap [] := K200.trans K204q (allS (Or.inr sz_b2) (allS (Or.inr sz_sn_13) all0))
              refine Go.st (mkF m 108 #[.val (.int p0), .val (.int p1), .val (.int (v_a p0)), .val (.long (v_ca p0)), .second, .val (.int (v_b p0)), .val (.long (v_cb p0)), .second, .val (.int (v_pop p0)), .val (.int (v_c p1)), .val (.long (v_cc p1)), .second, .val (.ref b2), .val (.int (1 : Int32)), .unset, .unset, .unset, .unset, .unset, .unset, .unset] [(.int (2 : Int32))]) (fun _ k => st204.trans k) ?_
              have HG : ∀ j, j < 4 → (updI (updI (updI (updI (fun _ => (0 : Int32)) ((v_a p0).toNatClampNeg) (-1 : Int32)) ((v_b p0).toNatClampNeg) (-2 : Int32)) (((updI (updI (fun _ => (0 : Int32)) 0 (v_a p0)) 1 (v_b p0)) 0).toNatClampNeg) (0 : Int32)) (((updI (updI (fun _ => (0 : Int32)) 0 (v_a p0)) 1 (v_b p0)) 1).toNatClampNeg) (0 : Int32)) j = (0 : Int32) ∨ (updI (updI (updI (updI (fun _ => (0 : Int32)) ((v_a p0).toNatClampNeg) (-1 : Int32)) ((v_b p0).toNatClampNeg) (-2 : Int32)) (((updI (updI (fun _ => (0 : Int32)) 0 (v_a p0)) 1 (v_b p0)) 0).toNatClampNeg) (0 : Int32)) (((updI (updI (fun _ => (0 : Int32)) 0 (v_a p0)) 1 (v_b p0)) 1).toNatClampNeg) (0 : Int32)) j = (1 : Int32) := by
                intro j hj
                show (updI (updI (updI (updI (fun _ => (0 : Int32)) ((v_a p0).toNatClampNeg) (-1 : Int32)) ((v_b p0).toNatClampNeg) (-2 : Int32)) ((v_a p0).toNatClampNeg) (0 : Int32)) ((v_b p0).toNatClampNeg) (0 : Int32)) j = (0 : Int32) ∨ (updI (updI (updI (updI (fun _ => (0 : Int32)) ((v_a p0).toNatClampNeg) (-1 : Int32)) ((v_b p0).toNatClampNeg) (-2 : Int32)) ((v_a p0).toNatClampNeg) (0 : Int32)) ((v_b p0).toNatClampNeg) (0 : Int32)) j = (1 : Int32)
                exact own_hgN (A := ((v_a p0).toNatClampNeg)) (B := ((v_b p0).toNatClampNeg)) hBA (fun A_ B_ j => (updI (updI (updI (updI (fun _ => (0 : Int32)) A_ (-1 : Int32)) B_ (-2 : Int32)) A_ (0 : Int32)) B_ (0 : Int32)) j) (by intro A_ B_ j h1; unfold updI; by_cases q1 : j = A_ <;> by_cases q2 : j = B_ <;> first | (simp only [if_pos q1, if_pos q2]; decide) | (simp only [if_pos q1, if_neg q2]; decide) | (simp only [if_neg q1, if_pos q2]; decide) | (simp only [if_neg q1, if_neg q2]; decide) | (exfalso; omega))
              exact JL _ _ _ (fun _ => (0 : Int32)) (updJ (updJ (fun _ => (0 : Int64)) 0 (v_ca p0)) 1 (v_cb p0)) (updI (updI (fun _ => (0 : Int32)) 0 (v_a p0)) 1 (v_b p0)) (updI (updI (updI (updI (fun _ => (0 : Int32)) ((v_a p0).toNatClampNeg) (-1 : Int32)) ((v_b p0).toNatClampNeg) (-2 : Int32)) (((updI (updI (fun _ => (0 : Int32)) 0 (v_a p0)) 1 (v_b p0)) 0).toNatClampNeg) (0 : Int32)) (((updI (updI (fun _ => (0 : Int32)) 0 (v_a p0)) 1 (v_b p0)) 1).toNatClampNeg) (0 : Int32)) X204 rfl N204 K204 HG E205q V206 V207 V208 V204_10 F204_0 F204_1 F204_2 F204_3 F204_4 F204_5 F204_6 F204_7 F204_8 F204_9
            ·
              refine Go.st (mkF m 97 #[.val (.int p0), .val (.int p1), .val (.int (v_a p0)), .val (.long (v_ca p0)), .second, .val (.int (v_b p0)), .val (.long (v_cb p0)), .second, .val (.int (v_pop p0)), .val (.int (v_c p1)), .val (.long (v_cc p1)), .second, .val (.ref b2), .val (.int (1 : Int32)), .unset, .unset, .unset, .unset, .unset, .unset, .unset] []) (fun _ k => XS.ifNo X200.here hx rfl (hb hby at_94) rfl ((if0 _ _).trans (feq hc94_203).1) k) ?_
              refine Go.st (mkF m 99 #[.val (.int p0), .val (.int p1), .val (.int (v_a p0)), .val (.long (v_ca p0)), .second, .val (.int (v_b p0)), .val (.long (v_cb p0)), .second, .val (.int (v_pop p0)), .val (.int (v_c p1)), .val (.long (v_cc p1)), .second, .val (.ref b2), .val (.int (1 : Int32)), .unset, .unset, .unset, .unset, .unset, .unset, .unset] [(.ref b2)]) (fun _ k => XS.aload X200.here hx rfl (hb hby at_97) rfl rfl k) ?_
              obtain ⟨cq209, kq209, q209a, q209b, q209c⟩ := isOf hZ rfl E201q
              obtain ⟨_, _, ⟨T209, L209, k209, n209⟩, -, X209, ⟨Lc209, hQ209, l209, y209, z209⟩, st209⟩ := X200.virtualBack hx (y := (⟨"com/example/nearpath/nearpath/answer/Frontier", "next", "()I"⟩ : MethodName)) (z := (⟨"com/example/nearpath/nearpath/answer/Frontier", "next", "()I"⟩ : MethodName)) hown (mvT hZ (hw _ (List.mem_of_getElem? (i := 45) rfl))) (mvT hZ (hw _ (List.mem_of_getElem? (i := 46) rfl))) (notFace_of_selects (args := #[]) (mvT hZ (hw _ (List.mem_of_getElem? (i := 48) rfl)))) (mvT hZ (hw _ (List.mem_of_getElem? (i := 48) rfl))) (mvT hZ (hw _ (List.mem_of_getElem? (i := 47) rfl))) (by decide) (backOf (W := 0) (rm_n4 l Z a0 hw [] b2 lv_13 hc_13 hi_13 sn_13 (1 : Int32) (0 : Int64) (updJ (updJ (fun _ => (0 : Int64)) 0 (v_ca p0)) 1 (v_cb p0)) (updI (updI (fun _ => (0 : Int32)) 0 (v_a p0)) 1 (v_b p0)) (updI (updI (fun _ => (0 : Int32)) ((v_a p0).toNatClampNeg) (-1 : Int32)) ((v_b p0).toNatClampNeg) (-2 : Int32)) T200.heap n0 (Nat.le_trans Z0 K200.1) E201q F200_0 F200_1 F200_2 F200_3 F200_4 F200_5 F200_6 F200_7 F200_8 F200_9 V200_10 V200_11 V200_12 (by first | exact own_va p0 | exact own_vb p0 | exact own_vc p1) (by first | exact own_va p0 | exact own_vb p0 | exact own_vc p1) g_b2 g_hc_13 g_hi_13 g_sn_13 ne_b2_hc_13 ne_b2_hi_13 ne_b2_sn_13 P13_21 P13_22 P13_23) hZ (hw _ (List.mem_of_getElem? (i := 49) rfl)) (hw _ (List.mem_of_getElem? (i := 2) rfl)) (by decide) (by decide)) q209a q209c (g := (mkF m 99 #[.val (.int p0), .val (.int p1), .val (.int (v_a p0)), .val (.long (v_ca p0)), .second, .val (.int (v_b p0)), .val (.long (v_cb p0)), .second, .val (.int (v_pop p0)), .val (.int (v_c p1)), .val (.long (v_cc p1)), .second, .val (.ref b2), .val (.int (1 : Int32)), .unset, .unset, .unset, .unset, .unset, .unset, .unset] [(.ref b2)])) rfl (by rw [hml]; rfl) (Steps.refl _) (argsL := []) (rest := []) (lenOf pd_3 rfl) rfl (by show 2 * 0 + _ ≤ _; exact Nat.le_of_eq rfl) (hb hby at_99) (fun _ _ => ⟨rfl, rfl, (by decide : 5 + 0 ≤ _), (by decide : 62 + 0 ≤ _)⟩)
              dsimp only [Pt.U, Pt.locs, Pt.cells, Pt.slots] at X209 l209 y209 z209 st209 hQ209
              subst l209 y209 z209
              obtain ⟨rfl, N209q, K209q, F209_0, F209_1, F209_2, F209_3, F209_4, F209_5, F209_6, F209_7, F209_8, F209_9, V209_10, V209_11, V209_12⟩ := hQ209
              have N209 := Fr.app N200 N209q
              have E210q : Exa Z T209.heap b2 "com/example/nearpath/nearpath/answer/Frontier" := E201q.keep K209q
              have V211 : Ary Z T209.heap lv_13 .int 16 (bts (fun _ => (0 : Int32))) := V202.keep K209q (ninS (Ne.symm ne_b2_lv_13) (ninS P13_18 (ninS P13_19 (ninS P13_20 nin0))))
              have K209 : Keep h0 T209.heap [] := K200.trans K209q (allS (Or.inr sz_b2) (allS (Or.inr sz_hc_13) (allS (Or.inr sz_hi_13) (allS (Or.inr sz_sn_13) all0))))
              refine Go.st (mkF m 102 #[.val (.int p0), .val (.int p1), .val (.int (v_a p0)), .val (.long (v_ca p0)), .second, .val (.int (v_b p0)), .val (.long (v_cb p0)), .second, .val (.int (v_pop p0)), .val (.int (v_c p1)), .val (.long (v_cc p1)), .second, .val (.ref b2), .val (.int (1 : Int32)), .unset, .unset, .unset, .unset, .unset, .unset, .unset] [(.int ((updI (updI (fun _ => (0 : Int32)) 0 (v_a p0)) 1 (v_b p0)) 0))]) (fun _ k => st209.trans k) ?_
              refine Go.st (mkF m 103 #[.val (.int p0), .val (.int p1), .val (.int (v_a p0)), .val (.long (v_ca p0)), .second, .val (.int (v_b p0)), .val (.long (v_cb p0)), .second, .val (.int (v_pop p0)), .val (.int (v_c p1)), .val (.long (v_cc p1)), .second, .val (.ref b2), .val (.int (1 : Int32)), .unset, .unset, .unset, .unset, .unset, .unset, .unset] []) (fun _ k => XT.pop X209.here hx rfl (hb hby at_102) rfl rfl k) ?_
              refine Go.st (mkF m 105 #[.val (.int p0), .val (.int p1), .val (.int (v_a p0)), .val (.long (v_ca p0)), .second, .val (.int (v_b p0)), .val (.long (v_cb p0)), .second, .val (.int (v_pop p0)), .val (.int (v_c p1)), .val (.long (v_cc p1)), .second, .val (.ref b2), .val (.int (1 : Int32)), .unset, .unset, .unset, .unset, .unset, .unset, .unset] [(.ref b2)]) (fun _ k => XS.aload X209.here hx rfl (hb hby at_103) rfl rfl k) ?_
              obtain ⟨cq212, kq212, q212a, q212b, q212c⟩ := isOf hZ rfl E210q
              obtain ⟨_, _, ⟨T212, L212, k212, n212⟩, -, X212, ⟨Lc212, hQ212, l212, y212, z212⟩, st212⟩ := X209.virtualBack hx (y := (⟨"com/example/nearpath/nearpath/answer/Frontier", "startSearch", "()I"⟩ : MethodName)) (z := (⟨"com/example/nearpath/nearpath/answer/Frontier", "startSearch", "()I"⟩ : MethodName)) hown (mvT hZ (hw _ (List.mem_of_getElem? (i := 22) rfl))) (mvT hZ (hw _ (List.mem_of_getElem? (i := 23) rfl))) (notFace_of_selects (args := #[]) (mvT hZ (hw _ (List.mem_of_getElem? (i := 25) rfl)))) (mvT hZ (hw _ (List.mem_of_getElem? (i := 25) rfl))) (mvT hZ (hw _ (List.mem_of_getElem? (i := 24) rfl))) (by decide) (backOf (W := 0) (rm_ss1 l Z a0 hw [] b2 lv_13 hc_13 hi_13 sn_13 (1 : Int32) ((updJ (updJ (fun _ => (0 : Int64)) 0 (v_ca p0)) 1 (v_cb p0)) 0) (0 : Int32) (0 : Int32) (updI (updI (updI (fun _ => (0 : Int32)) 0 (v_a p0)) 1 (v_b p0)) 0 ((updI (updI (fun _ => (0 : Int32)) 0 (v_a p0)) 1 (v_b p0)) 1)) (updI (updI (updI (updI (fun _ => (0 : Int32)) ((v_a p0).toNatClampNeg) (-1 : Int32)) ((v_b p0).toNatClampNeg) (-2 : Int32)) (((updI (updI (fun _ => (0 : Int32)) 0 (v_a p0)) 1 (v_b p0)) 0).toNatClampNeg) (1 : Int32)) (((updI (updI (fun _ => (0 : Int32)) 0 (v_a p0)) 1 (v_b p0)) 1).toNatClampNeg) (-1 : Int32)) T209.heap n0 (Nat.le_trans Z0 K209.1) E210q F209_0 F209_1 F209_2 F209_3 F209_4 F209_5 F209_6 F209_7 F209_8 F209_9 V209_11 V209_12 (by first | exact own_va p0 | exact own_vb p0 | exact own_vc p1) g_b2 g_sn_13 ne_b2_hi_13 ne_b2_sn_13 P13_23) hZ (hw _ (List.mem_of_getElem? (i := 26) rfl)) (hw _ (List.mem_of_getElem? (i := 2) rfl)) (by decide) (by decide)) q212a q212c (g := (mkF m 105 #[.val (.int p0), .val (.int p1), .val (.int (v_a p0)), .val (.long (v_ca p0)), .second, .val (.int (v_b p0)), .val (.long (v_cb p0)), .second, .val (.int (v_pop p0)), .val (.int (v_c p1)), .val (.long (v_cc p1)), .second, .val (.ref b2), .val (.int (1 : Int32)), .unset, .unset, .unset, .unset, .unset, .unset, .unset] [(.ref b2)])) rfl (by rw [hml]; rfl) (Steps.refl _) (argsL := []) (rest := []) (lenOf pd_3 rfl) rfl (by show 2 * 0 + _ ≤ _; exact Nat.le_of_eq rfl) (hb hby at_105) (fun _ _ => ⟨rfl, rfl, (by decide : 5 + 0 ≤ _), (by decide : 62 + 0 ≤ _)⟩)
              dsimp only [Pt.U, Pt.locs, Pt.cells, Pt.slots] at X212 l212 y212 z212 st212 hQ212
              subst l212 y212 z212
              obtain ⟨rfl, N212q, K212q, F212_0, F212_1, F212_2, F212_3, F212_4, F212_5, F212_6, F212_7, F212_8, F212_9, V212_10⟩ := hQ212
              have N212 := Fr.app N209 N212q
              have E213q : Exa Z T212.heap b2 "com/example/nearpath/nearpath/answer/Frontier" := E210q.keep K212q
              have V214 : Ary Z T212.heap lv_13 .int 16 (bts (fun _ => (0 : Int32))) := V211.keep K212q (ninS (Ne.symm ne_b2_lv_13) (ninS P13_20 nin0))
              have V215 : Ary Z T212.heap hc_13 .long 16 (lts (updJ (updJ (updJ (fun _ => (0 : Int64)) 0 (v_ca p0)) 1 (v_cb p0)) 0 ((updJ (updJ (fun _ => (0 : Int64)) 0 (v_ca p0)) 1 (v_cb p0)) 1))) := V209_10.keep K212q (ninS (Ne.symm ne_b2_hc_13) (ninS P13_22 nin0))
              have V216 : Ary Z T212.heap hi_13 .int 16 (bts (updI (updI (updI (fun _ => (0 : Int32)) 0 (v_a p0)) 1 (v_b p0)) 0 ((updI (updI (fun _ => (0 : Int32)) 0 (v_a p0)) 1 (v_b p0)) 1))) := V209_11.keep K212q (ninS (Ne.symm ne_b2_hi_13) (ninS P13_23 nin0))
              have K212 : Keep h0 T212.heap [] := K209.trans K212q (allS (Or.inr sz_b2) (allS (Or.inr sz_sn_13) all0))
              refine Go.st (mkF m 108 #[.val (.int p0), .val (.int p1), .val (.int (v_a p0)), .val (.long (v_ca p0)), .second, .val (.int (v_b p0)), .val (.long (v_cb p0)), .second, .val (.int (v_pop p0)), .val (.int (v_c p1)), .val (.long (v_cc p1)), .second, .val (.ref b2), .val (.int (1 : Int32)), .unset, .unset, .unset, .unset, .unset, .unset, .unset] [(.int (2 : Int32))]) (fun _ k => st212.trans k) ?_
              have HG : ∀ j, j < 4 → (updI (updI (updI (updI (updI (fun _ => (0 : Int32)) ((v_a p0).toNatClampNeg) (-1 : Int32)) ((v_b p0).toNatClampNeg) (-2 : Int32)) (((updI (updI (fun _ => (0 : Int32)) 0 (v_a p0)) 1 (v_b p0)) 0).toNatClampNeg) (1 : Int32)) (((updI (updI (fun _ => (0 : Int32)) 0 (v_a p0)) 1 (v_b p0)) 1).toNatClampNeg) (-1 : Int32)) (((updI (updI (updI (fun _ => (0 : Int32)) 0 (v_a p0)) 1 (v_b p0)) 0 ((updI (updI (fun _ => (0 : Int32)) 0 (v_a p0)) 1 (v_b p0)) 1)) 0).toNatClampNeg) (0 : Int32)) j = (0 : Int32) ∨ (updI (updI (updI (updI (updI (fun _ => (0 : Int32)) ((v_a p0).toNatClampNeg) (-1 : Int32)) ((v_b p0).toNatClampNeg) (-2 : Int32)) (((updI (updI (fun _ => (0 : Int32)) 0 (v_a p0)) 1 (v_b p0)) 0).toNatClampNeg) (1 : Int32)) (((updI (updI (fun _ => (0 : Int32)) 0 (v_a p0)) 1 (v_b p0)) 1).toNatClampNeg) (-1 : Int32)) (((updI (updI (updI (fun _ => (0 : Int32)) 0 (v_a p0)) 1 (v_b p0)) 0 ((updI (updI (fun _ => (0 : Int32)) 0 (v_a p0)) 1 (v_b p0)) 1)) 0).toNatClampNeg) (0 : Int32)) j = (1 : Int32) := by
                intro j hj
                show (updI (updI (updI (updI (updI (fun _ => (0 : Int32)) ((v_a p0).toNatClampNeg) (-1 : Int32)) ((v_b p0).toNatClampNeg) (-2 : Int32)) ((v_a p0).toNatClampNeg) (1 : Int32)) ((v_b p0).toNatClampNeg) (-1 : Int32)) ((v_b p0).toNatClampNeg) (0 : Int32)) j = (0 : Int32) ∨ (updI (updI (updI (updI (updI (fun _ => (0 : Int32)) ((v_a p0).toNatClampNeg) (-1 : Int32)) ((v_b p0).toNatClampNeg) (-2 : Int32)) ((v_a p0).toNatClampNeg) (1 : Int32)) ((v_b p0).toNatClampNeg) (-1 : Int32)) ((v_b p0).toNatClampNeg) (0 : Int32)) j = (1 : Int32)
                exact own_hgN (A := ((v_a p0).toNatClampNeg)) (B := ((v_b p0).toNatClampNeg)) hBA (fun A_ B_ j => (updI (updI (updI (updI (updI (fun _ => (0 : Int32)) A_ (-1 : Int32)) B_ (-2 : Int32)) A_ (1 : Int32)) B_ (-1 : Int32)) B_ (0 : Int32)) j) (by intro A_ B_ j h1; unfold updI; by_cases q1 : j = A_ <;> by_cases q2 : j = B_ <;> first | (simp only [if_pos q1, if_pos q2]; decide) | (simp only [if_pos q1, if_neg q2]; decide) | (simp only [if_neg q1, if_pos q2]; decide) | (simp only [if_neg q1, if_neg q2]; decide) | (exfalso; omega))
              exact JL _ _ _ (fun _ => (0 : Int32)) (updJ (updJ (updJ (fun _ => (0 : Int64)) 0 (v_ca p0)) 1 (v_cb p0)) 0 ((updJ (updJ (fun _ => (0 : Int64)) 0 (v_ca p0)) 1 (v_cb p0)) 1)) (updI (updI (updI (fun _ => (0 : Int32)) 0 (v_a p0)) 1 (v_b p0)) 0 ((updI (updI (fun _ => (0 : Int32)) 0 (v_a p0)) 1 (v_b p0)) 1)) (updI (updI (updI (updI (updI (fun _ => (0 : Int32)) ((v_a p0).toNatClampNeg) (-1 : Int32)) ((v_b p0).toNatClampNeg) (-2 : Int32)) (((updI (updI (fun _ => (0 : Int32)) 0 (v_a p0)) 1 (v_b p0)) 0).toNatClampNeg) (1 : Int32)) (((updI (updI (fun _ => (0 : Int32)) 0 (v_a p0)) 1 (v_b p0)) 1).toNatClampNeg) (-1 : Int32)) (((updI (updI (updI (fun _ => (0 : Int32)) 0 (v_a p0)) 1 (v_b p0)) 0 ((updI (updI (fun _ => (0 : Int32)) 0 (v_a p0)) 1 (v_b p0)) 1)) 0).toNatClampNeg) (0 : Int32)) X212 rfl N212 K212 HG E213q V214 V215 V216 V212_10 F212_0 F212_1 F212_2 F212_3 F212_4 F212_5 F212_6 F212_7 F212_8 F212_9
  by_cases hc33_1 : ((ushr p0 (8 : Int32)) &&& (1 : Int32)) = (0 : Int32)
  ·
    refine Go.st (mkF m 40 #[.val (.int p0), .val (.int p1), .val (.int (v_a p0)), .val (.long (v_ca p0)), .second, .val (.int (v_b p0)), .val (.long (v_cb p0)), .second, .unset, .unset, .unset, .unset, .unset, .unset, .unset, .unset, .unset, .unset, .unset, .unset, .unset] []) (fun _ k => XS.ifYes X0.here hx rfl (pc0 := 33) (pc' := 40) rfl (hb hby at_33) rfl ((if0 _ _).trans (teq hc33_1).1) (by decide) (by decide) k) ?_
    refine Go.st (mkF m 41 #[.val (.int p0), .val (.int p1), .val (.int (v_a p0)), .val (.long (v_ca p0)), .second, .val (.int (v_b p0)), .val (.long (v_cb p0)), .second, .unset, .unset, .unset, .unset, .unset, .unset, .unset, .unset, .unset, .unset, .unset, .unset, .unset] [(.int (0 : Int32))]) (fun _ k => XS.iconst X0.here hx rfl (hb hby at_40) k) ?_
    rw [show (v_pop p0) = (0 : Int32) from by unfold v_pop; rw [if_pos hc33_1]] at J33
    exact J33
  ·
    refine Go.st (mkF m 36 #[.val (.int p0), .val (.int p1), .val (.int (v_a p0)), .val (.long (v_ca p0)), .second, .val (.int (v_b p0)), .val (.long (v_cb p0)), .second, .unset, .unset, .unset, .unset, .unset, .unset, .unset, .unset, .unset, .unset, .unset, .unset, .unset] []) (fun _ k => XS.ifNo X0.here hx rfl (hb hby at_33) rfl ((if0 _ _).trans (feq hc33_1).1) k) ?_
    refine Go.st (mkF m 37 #[.val (.int p0), .val (.int p1), .val (.int (v_a p0)), .val (.long (v_ca p0)), .second, .val (.int (v_b p0)), .val (.long (v_cb p0)), .second, .unset, .unset, .unset, .unset, .unset, .unset, .unset, .unset, .unset, .unset, .unset, .unset, .unset] [(.int (1 : Int32))]) (fun _ k => XS.iconst X0.here hx rfl (hb hby at_36) k) ?_
    refine Go.st (mkF m 41 #[.val (.int p0), .val (.int p1), .val (.int (v_a p0)), .val (.long (v_ca p0)), .second, .val (.int (v_b p0)), .val (.long (v_cb p0)), .second, .unset, .unset, .unset, .unset, .unset, .unset, .unset, .unset, .unset, .unset, .unset, .unset, .unset] [(.int (1 : Int32))]) (fun _ k => XS.goto X0.here hx rfl (pc0 := 37) (pc' := 41) rfl (hb hby at_37) (by decide) (by decide) k) ?_
    rw [show (v_pop p0) = (1 : Int32) from by unfold v_pop; rw [if_neg hc33_1]] at J33
    exact J33
set_option maxRecDepth 65536 in
set_option maxHeartbeats 40000000 in
theorem comes_1 {Post : Tables → Env → Array Value → State → Outcome → State → Prop} (hpost : ∀ tb e args s v u, (limb_1_1.after args s (.returned v) u = true ∧ limb_1_2.after args s (.returned v) u = true ∧ True) → FrameEnd s (.returned v) u (Jvm.fieldLocs frame_1_writes args s ++ Jvm.arrayLocs frame_1_arrays args s ++ Jvm.staticLocs frame_1_statics s) 24 192 → Post tb e args s (.returned v) u) :
    ArmFor flags0 classFile x code maxLocals ret World_1 tables_1 room_1 Calls_1 rest_1 Pre_1 Post := by
  intro l hfl _ _ p e ha hc hk s m args below hf hA hF happ hP
  obtain ⟨hcalls, hrest, hpre⟩ := hP
  obtain ⟨-, -, -, hnamed, -, -, -, hat⟩ := (Spec.applies_iff hf).mp happ
  obtain ⟨hg, hn⟩ := and_e (Cond.before_iff.mp (show (Jvm.Cond.and given_1 narrow_1).before args s = true from hpre))
  obtain ⟨h1, g0⟩ := and_e hg
  obtain ⟨a0, g1⟩ := and_e g0
  obtain ⟨w0, w1, rfl⟩ : ∃ w0 w1 : Value, args = #[w0, w1] := by
    have hs : args.size = 2 := by simpa [Cond.value, given_1] using h1
    obtain ⟨L⟩ := args
    match L, hs with
    | [w0, w1], _ => exact ⟨w0, w1, rfl⟩
  have hw := fun d (hd : d ∈ tables_1) => atoms_spec (ws := Jvm.Cond.code x code maxLocals ret :: tables_1) hat d (List.mem_cons_of_mem _ hd)
  obtain ⟨i0, e0⟩ := is_v a0
  obtain rfl : w0 = (.int i0) := Option.some.inj e0
  obtain ⟨i1, e1⟩ := is_v g1
  obtain rfl : w1 = (.int i1) := Option.some.inj e1
  obtain ⟨n, o, h1, h2, h3, _, L, rfl, ⟨rfl, N, _⟩, hq⟩ := rm_0 l s _ hw tables_1 i0 i1 s.heap s.heap.size (Nat.le_refl _) p e ha hc hk s m _ below hf ((Spec.applies_iff_loose hf).mp happ).1 ⟨rfl, State.Warmed39.refl s, rfl⟩ trivial
  refine ⟨n, _, h1, h2, h3, hpost _ _ _ _ _ _ ⟨Cond.after_iff.mpr rfl, Cond.after_iff.mpr (eq_i res_at (Term.int_eval (1)) rfl), trivial⟩ ⟨hq.1, hq.2.1, (hq.2.2.sift fun y hy => Or.inr (N y hy)).mono (by decide) (by decide)⟩⟩
theorem main_1_1 : Claimed_1_1 := comes_1 fun _ _ _ _ _ _ h hF => ⟨h.1, hF⟩
theorem main_1_2 : Claimed_1_2 := comes_1 fun _ _ _ _ _ _ h hF => ⟨h.2.1, hF⟩
end Jvm.Pilot.@@N@@
namespace Jvm.Pilot.@@N@@
open Jvm Jvm.ClassFile Sem Op Lib Jvm.Free Jvm.Stand Jvm.Pilot.@@N@@.Jvm.D
/-! MADE BY PROGRAM (witnessworld.py) out of the Statement's table words and the real class files: 11 classes; the members and pool entries that the words name. The judged class is class 1, her method 1. -/
namespace start1
open Jvm.ClassFile
def u (s : String) : CpInfo := .utf8 (stringToUtf16 s)
/-- a pool by its gaps: so many unusable entries, then the entry; so many at the end -/
def gap : Nat → List CpInfo → List CpInfo
  | 0, r => r
  | n + 1, r => .unusable :: gap n r
def poolList (es : List (Nat × CpInfo)) (last : Nat) : List CpInfo := es.foldr (fun e r => gap e.1 (e.2 :: r)) (gap last [])
def pool (es : List (Nat × CpInfo)) (last : Nat) : Array CpInfo := ⟨poolList es last⟩
def fileOf (pool : Array CpInfo) (this : Nat) (attrs : Array Attribute := #[]) (ms : Array MethodInfo := #[]) (fl : Nat := 33) (sup : Nat := 0) (ifs : Array Nat := #[]) (fds : Array FieldInfo := #[]) : ClassFile where
  minorVersion := 0
  majorVersion := 65
  constantPool := pool
  accessFlags := fl
  thisClass := this
  superClass := sup
  interfaces := ifs
  fields := fds
  methods := ms
  attributes := attrs
def plain (name : String) (sup : Option ClassId) : Class where
  name := name
  kind := .ordinary
  loader := none
  accessFlags := 33
  super := sup
  interfaces := #[]
  cf := none
  fields := #[]
  methods := #[]
  instanceTypes := #[]
  staticTypes := #[]
  resolved := #[]
  callSites := []
  init := .initialized
  statics := none
  mirror := none

def pool0 : Array CpInfo := pool [(5, u "<init>"), (0, u "()V"), (1, .class_ 10), (1, u "java/lang/Object")] 113

def k0c0 : Code := { maxStack := 0, maxLocals := 1, code := object_method_1_code, exceptionTable := #[], attributes := #[] }
def k0m0 : Method := { name := "<init>", desc := "()V", sig := { parameters := [], returnType := none }, accessFlags := 1, code := some k0c0 }
/-- java/lang/Object -/
def k0 : Class := { plain "java/lang/Object" none with
  accessFlags := 33
  interfaces := #[]
  cf := some (fileOf pool0 8 #[] #[{ accessFlags := 1, nameIndex := 5, descriptorIndex := 6, attributes := #[] }] 33 0 #[] #[])
  fields := #[]
  methods := #[k0m0]
  instanceTypes := #[]
  staticTypes := #[]
  resolved := Array.replicate 124 none
  statics := none }

def pool1 : Array CpInfo := pool [(2, .class_ 4), (1, u "java/lang/Object"), (0, u "<init>"), (0, u "()V"), (0, .class_ 8), (0, u "com/example/nearpath/nearpath/answer/Frontier"), (0, .long 3), (1, .methodref 7 12), (0, .nameAndType 5 13), (0, u "(IJ)V"), (0, .methodref 7 15), (0, .nameAndType 16 17), (0, u "startSearch"), (0, u "()I"), (0, .methodref 7 19), (0, .nameAndType 20 13), (0, u "reach"), (0, .methodref 7 22), (0, .nameAndType 23 17), (0, u "next"), (0, .methodref 7 25), (0, .nameAndType 26 27), (0, u "cost"), (0, u "()J"), (0, .class_ 29), (0, u "com/example/nearpath/nearpath/answer/FrontierStartSearchPinLaw"), (2, u "law"), (0, u "(II)Z")] 3

def k1m0 : Method := { name := "<init>", desc := "()V", sig := { parameters := [], returnType := none }, accessFlags := 1, code := none }
def k1c1 : Code := { maxStack := 5, maxLocals := 21, code := code, exceptionTable := #[], attributes := #[] }
def k1m1 : Method := { name := "law", desc := "(II)Z", sig := { parameters := [.int, .int], returnType := some .boolean }, accessFlags := 9, code := some k1c1 }
/-- com/example/nearpath/nearpath/answer/FrontierStartSearchPinLaw -/
def k1 : Class := { plain "com/example/nearpath/nearpath/answer/FrontierStartSearchPinLaw" (some 0) with
  accessFlags := 49
  interfaces := #[]
  cf := some (fileOf pool1 28 #[] #[{ accessFlags := 1, nameIndex := 5, descriptorIndex := 6, attributes := #[] }, { accessFlags := 9, nameIndex := 32, descriptorIndex := 33, attributes := #[] }] 49 2 #[] #[])
  fields := #[]
  methods := #[k1m0, k1m1]
  instanceTypes := #[]
  staticTypes := #[]
  resolved := Array.replicate 37 none
  statics := none }

def pool2 : Array CpInfo := pool [(1, .methodref 2 3), (0, .class_ 4), (0, .nameAndType 5 6), (0, u "java/lang/Object"), (0, u "<init>"), (0, u "()V"), (0, .fieldref 8 9), (0, .class_ 10), (0, .nameAndType 11 12), (0, u "com/example/nearpath/nearpath/answer/Frontier"), (0, u "level"), (0, u "[I"), (0, .fieldref 8 14), (0, .nameAndType 15 16), (0, u "heapCosts"), (0, u "[J"), (0, .fieldref 8 18), (0, .nameAndType 19 12), (0, u "heapItems"), (0, .fieldref 8 21), (0, .nameAndType 22 12), (0, u "seen"), (0, .fieldref 8 24), (0, .nameAndType 25 26), (0, u "maxCost"), (0, u "J"), (0, .fieldref 8 28), (0, .nameAndType 29 30), (0, u "heapSize"), (0, u "I"), (0, .fieldref 8 32), (0, .nameAndType 33 30), (0, u "levelHead"), (0, .fieldref 8 35), (0, .nameAndType 36 30), (0, u "levelTail"), (0, .fieldref 8 38), (0, .nameAndType 39 26), (0, u "cost"), (0, .fieldref 8 41), (0, .nameAndType 42 30), (0, u "search"), (0, .methodref 8 44), (0, .nameAndType 45 46), (0, u "siftUp"), (0, u "(IJI)V"), (0, .methodref 8 48), (0, .nameAndType 49 50), (0, u "ensureRoom"), (0, u "([II)[I"), (8, .methodref 8 60), (0, .nameAndType 61 62), (0, u "siftDown"), (0, u "(IJ)V"), (0, .methodref 8 64), (0, .nameAndType 65 46), (0, u "place"), (2, u "startSearch"), (0, u "()I"), (1, u "reach"), (0, u "next"), (0, u "()J")] 3

def k2c0 : Code := { maxStack := 3, maxLocals := 4, code := prog_12_method_1_code, exceptionTable := #[], attributes := #[] }
def k2m0 : Method := { name := "<init>", desc := "(IJ)V", sig := { parameters := [.int, .long], returnType := none }, accessFlags := 0, code := some k2c0 }
def k2c1 : Code := { maxStack := 3, maxLocals := 2, code := prog_12_method_2_code, exceptionTable := #[], attributes := #[] }
def k2m1 : Method := { name := "startSearch", desc := "()I", sig := { parameters := [], returnType := some .int }, accessFlags := 0, code := some k2c1 }
def k2c2 : Code := { maxStack := 8, maxLocals := 5, code := prog_12_method_3_code, exceptionTable := #[], attributes := #[] }
def k2m2 : Method := { name := "reach", desc := "(IJ)V", sig := { parameters := [.int, .long], returnType := none }, accessFlags := 0, code := some k2c2 }
def k2c3 : Code := { maxStack := 5, maxLocals := 2, code := prog_12_method_4_code, exceptionTable := #[], attributes := #[] }
def k2m3 : Method := { name := "next", desc := "()I", sig := { parameters := [], returnType := some .int }, accessFlags := 0, code := some k2c3 }
def k2c4 : Code := { maxStack := 2, maxLocals := 1, code := prog_12_method_5_code, exceptionTable := #[], attributes := #[] }
def k2m4 : Method := { name := "cost", desc := "()J", sig := { parameters := [], returnType := some .long }, accessFlags := 0, code := some k2c4 }
def k2c5 : Code := { maxStack := 5, maxLocals := 5, code := prog_12_method_6_code, exceptionTable := #[], attributes := #[] }
def k2m5 : Method := { name := "siftUp", desc := "(IJI)V", sig := { parameters := [.int, .long, .int], returnType := none }, accessFlags := 2, code := some k2c5 }
def k2c6 : Code := { maxStack := 5, maxLocals := 6, code := prog_12_method_7_code, exceptionTable := #[], attributes := #[] }
def k2m6 : Method := { name := "siftDown", desc := "(IJ)V", sig := { parameters := [.int, .long], returnType := none }, accessFlags := 2, code := some k2c6 }
def k2c7 : Code := { maxStack := 4, maxLocals := 5, code := prog_12_method_8_code, exceptionTable := #[], attributes := #[] }
def k2m7 : Method := { name := "place", desc := "(IJI)V", sig := { parameters := [.int, .long, .int], returnType := none }, accessFlags := 2, code := some k2c7 }
def k2c8 : Code := { maxStack := 3, maxLocals := 2, code := prog_12_method_9_code, exceptionTable := #[], attributes := #[] }
def k2m8 : Method := { name := "ensureRoom", desc := "([II)[I", sig := { parameters := [(.array .int), .int], returnType := some (.array .int) }, accessFlags := 8, code := some k2c8 }
/-- com/example/nearpath/nearpath/answer/Frontier -/
def k2 : Class := { plain "com/example/nearpath/nearpath/answer/Frontier" (some 0) with
  accessFlags := 48
  interfaces := #[]
  cf := some (fileOf pool2 8 #[] #[{ accessFlags := 0, nameIndex := 5, descriptorIndex := 62, attributes := #[] }, { accessFlags := 0, nameIndex := 68, descriptorIndex := 69, attributes := #[] }, { accessFlags := 0, nameIndex := 71, descriptorIndex := 62, attributes := #[] }, { accessFlags := 0, nameIndex := 72, descriptorIndex := 69, attributes := #[] }, { accessFlags := 0, nameIndex := 39, descriptorIndex := 73, attributes := #[] }, { accessFlags := 2, nameIndex := 45, descriptorIndex := 46, attributes := #[] }, { accessFlags := 2, nameIndex := 61, descriptorIndex := 62, attributes := #[] }, { accessFlags := 2, nameIndex := 65, descriptorIndex := 46, attributes := #[] }, { accessFlags := 8, nameIndex := 49, descriptorIndex := 50, attributes := #[] }] 48 2 #[] #[{ accessFlags := 18, nameIndex := 22, descriptorIndex := 12, attributes := #[] }, { accessFlags := 18, nameIndex := 25, descriptorIndex := 26, attributes := #[] }, { accessFlags := 2, nameIndex := 42, descriptorIndex := 30, attributes := #[] }, { accessFlags := 2, nameIndex := 39, descriptorIndex := 26, attributes := #[] }, { accessFlags := 2, nameIndex := 11, descriptorIndex := 12, attributes := #[] }, { accessFlags := 2, nameIndex := 33, descriptorIndex := 30, attributes := #[] }, { accessFlags := 2, nameIndex := 36, descriptorIndex := 30, attributes := #[] }, { accessFlags := 2, nameIndex := 15, descriptorIndex := 16, attributes := #[] }, { accessFlags := 2, nameIndex := 19, descriptorIndex := 12, attributes := #[] }, { accessFlags := 2, nameIndex := 29, descriptorIndex := 30, attributes := #[] }])
  fields := #[{ name := "seen", type := (.array .int), accessFlags := 18, slot := 0, constantValue := 0 }, { name := "maxCost", type := .long, accessFlags := 18, slot := 1, constantValue := 0 }, { name := "search", type := .int, accessFlags := 2, slot := 2, constantValue := 0 }, { name := "cost", type := .long, accessFlags := 2, slot := 3, constantValue := 0 }, { name := "level", type := (.array .int), accessFlags := 2, slot := 4, constantValue := 0 }, { name := "levelHead", type := .int, accessFlags := 2, slot := 5, constantValue := 0 }, { name := "levelTail", type := .int, accessFlags := 2, slot := 6, constantValue := 0 }, { name := "heapCosts", type := (.array .long), accessFlags := 2, slot := 7, constantValue := 0 }, { name := "heapItems", type := (.array .int), accessFlags := 2, slot := 8, constantValue := 0 }, { name := "heapSize", type := .int, accessFlags := 2, slot := 9, constantValue := 0 }]
  methods := #[k2m0, k2m1, k2m2, k2m3, k2m4, k2m5, k2m6, k2m7, k2m8]
  instanceTypes := #[(.array .int), .long, .int, .long, (.array .int), .int, .int, (.array .long), (.array .int), .int]
  staticTypes := #[]
  resolved := Array.replicate 77 none
  statics := none }

def pool3 : Array CpInfo := pool [(1, u "java/lang/Cloneable"), (0, .class_ 1), (0, u "java/lang/Object"), (0, .class_ 3)] 3

/-- java/lang/Cloneable -/
def k3 : Class := { plain "java/lang/Cloneable" (some 0) with
  accessFlags := 1537
  interfaces := #[]
  cf := some (fileOf pool3 2 #[] #[] 1537 4 #[] #[])
  fields := #[]
  methods := #[]
  instanceTypes := #[]
  staticTypes := #[]
  resolved := Array.replicate 8 none
  statics := none }

def pool4 : Array CpInfo := pool [(1, u "java/io/Serializable"), (0, .class_ 1), (0, u "java/lang/Object"), (0, .class_ 3)] 3

/-- java/io/Serializable -/
def k4 : Class := { plain "java/io/Serializable" (some 0) with
  accessFlags := 1537
  interfaces := #[]
  cf := some (fileOf pool4 2 #[] #[] 1537 4 #[] #[])
  fields := #[]
  methods := #[]
  instanceTypes := #[]
  staticTypes := #[]
  resolved := Array.replicate 8 none
  statics := none }

/-- the primitive byte -/
def k5 : Class := { plain "byte" none with kind := .primitive 'B', accessFlags := 0x411 }
/-- [B -/
def k6 : Class := { plain "[B" (some 0) with kind := .array 5 .byte, interfaces := #[3, 4], accessFlags := 1041 }

/-- the primitive int -/
def k7 : Class := { plain "int" none with kind := .primitive 'I', accessFlags := 0x411 }
/-- [I -/
def k8 : Class := { plain "[I" (some 0) with kind := .array 7 .int, interfaces := #[3, 4], accessFlags := 1041 }

/-- the primitive long -/
def k9 : Class := { plain "long" none with kind := .primitive 'J', accessFlags := 0x411 }
/-- [J -/
def k10 : Class := { plain "[J" (some 0) with kind := .array 9 .long, interfaces := #[3, 4], accessFlags := 1041 }

def heap : Heap := #[]
def classes : Array Class := #[k0, k1, k2, k3, k4, k5, k6, k7, k8, k9, k10]
def interned : List (Array UInt16 × Addr) := []
def slotsUsed : Nat := 0
def theMethod : MethodId := ⟨1, 1⟩
def args0 : Array Value := #[.int 300, .int 7]
def aboutOver (below : List Frame) : State where
  vm := { classes := classes, interned := interned.toArray }
  heap := heap
  slotsUsed := slotsUsed
  threads := #[{ frames := .invoking theMethod args0 :: below }]
def below0 : List Frame := [.native { method := ⟨0, 0⟩, args := #[] }]
def about1 : State := aboutOver below0
def p0 : Program := .bare "" "" ""
def e0 : Env := launch0.env 0 0 0
theorem w_frames : about1.frames = Frame.invoking theMethod args0 :: below0 := rfl
set_option maxRecDepth 65536 in
theorem w_args : argsFit about1.vm theMethod args0 = true := by decide +kernel
set_option maxRecDepth 65536 in
theorem w_heap : heapFits about1 = true := by decide +kernel
set_option maxRecDepth 65536 in
theorem w_runnable : about1.curStatus? = some .runnable := by decide +kernel
set_option maxRecDepth 65536 in
theorem w_alone : about1.alone = true := by decide +kernel
set_option maxRecDepth 65536 in
theorem w_named : about1.methodNamed? x = some theMethod := by decide +kernel
set_option maxRecDepth 65536 in
theorem w_hears : about1.hears theMethod below0 = true := by decide +kernel
set_option maxRecDepth 65536 in
theorem w_ripe : about1.ripe theMethod args0 below0 = true := by decide +kernel
theorem w_running : about1.status = .running := rfl
set_option maxRecDepth 65536 in
theorem w_room : about1.hasRoom e0.platform room_1 = true :=
  launch0.hasRoom_least _ room_1 (by decide +kernel) (by decide +kernel) (by decide +kernel) (by decide +kernel) (by decide +kernel) (by decide +kernel)
theorem allAtoms_all (ts : List Jvm.Cond) (a : Array Jvm.Value) (st : Jvm.State) : (allAtoms ts).before a st = ts.all (fun c => c.before a st) := by
  induction ts with
  | nil => rfl
  | cons c t ih =>
    show (Jvm.Cond.and c (allAtoms t)).before a st = _
    rw [Jvm.Cond.before_and, ih, List.all_cons]
def words1 : List Jvm.Cond := Jvm.Cond.code x code maxLocals ret :: tables_1
/-- a 'code' word, met by the world's own term for the bytes: nothing is compared byte by byte -/
theorem code_word {y : MethodName} {bytes : ByteArray} {mx : Nat} {rt : Option FieldType} {a : Array Value} {s : State} {m : MethodId} {meth : Method} {c : Code} (h1 : s.methodNamed? y = some m) (h2 : s.vm.method? m = some meth) (h3 : meth.code = some c) (h4 : c.code = bytes)
    (h5 : (c.maxLocals == mx && c.exceptionTable.isEmpty && decide (c.maxStack ≤ mostOperands) && decide (meth.sig.returnType = rt) && !meth.locks && decide (parseMethodDescriptor y.desc = some meth.sig)) = true) : (Jvm.Cond.code y bytes mx rt).before a s = true := by
  simp only [Bool.and_eq_true, beq_iff_eq, Bool.not_eq_true', decide_eq_true_eq] at h5
  obtain ⟨⟨⟨⟨⟨g1, g2⟩, g3⟩, g4⟩, g5⟩, g6⟩ := h5
  simp [Cond.before, Cond.holds, Cond.value, h1, h2, h3, h4, g1, g2, g3, g4, g5, g6]
def isCode : Jvm.Cond → Bool
  | .code _ _ _ _ => true
  | _ => false
theorem all_split {L : List Jvm.Cond} {P : Jvm.Cond → Bool} (h1 : L.all (fun c => isCode c || P c) = true) (h2 : ∀ c ∈ L.filter isCode, P c = true) : L.all P = true := by
  refine List.all_eq_true.mpr fun c hc => ?_
  have h := List.all_eq_true.mp h1 c hc
  rcases Bool.eq_false_or_eq_true (isCode c) with hi | hi
  · exact h2 c (List.mem_filter.mpr ⟨hc, hi⟩)
  · simpa [hi] using h
set_option maxRecDepth 65536 in
theorem w_c0 : (Jvm.Cond.code x code maxLocals ret).before args0 about1 = true := code_word (m := ⟨1, 1⟩) (meth := k1m1) (c := k1c1) (by decide +kernel) rfl rfl rfl (by decide +kernel)
set_option maxRecDepth 65536 in
theorem w_c1 : (Jvm.Cond.code ({ cls := "com/example/nearpath/nearpath/answer/Frontier", name := "<init>", desc := "(IJ)V" } : Jvm.MethodName) prog_12_method_1_code (4 : Nat) (Option.none : Option Jvm.ClassFile.FieldType)).before args0 about1 = true := code_word (m := ⟨2, 0⟩) (meth := k2m0) (c := k2c0) (by decide +kernel) rfl rfl rfl (by decide +kernel)
set_option maxRecDepth 65536 in
theorem w_c2 : (Jvm.Cond.code ({ cls := "java/lang/Object", name := "<init>", desc := "()V" } : Jvm.MethodName) object_method_1_code (1 : Nat) (Option.none : Option Jvm.ClassFile.FieldType)).before args0 about1 = true := code_word (m := ⟨0, 0⟩) (meth := k0m0) (c := k0c0) (by decide +kernel) rfl rfl rfl (by decide +kernel)
set_option maxRecDepth 65536 in
theorem w_c3 : (Jvm.Cond.code ({ cls := "com/example/nearpath/nearpath/answer/Frontier", name := "startSearch", desc := "()I" } : Jvm.MethodName) prog_12_method_2_code (2 : Nat) (Option.some Jvm.ClassFile.FieldType.int)).before args0 about1 = true := code_word (m := ⟨2, 1⟩) (meth := k2m1) (c := k2c1) (by decide +kernel) rfl rfl rfl (by decide +kernel)
set_option maxRecDepth 65536 in
theorem w_c4 : (Jvm.Cond.code ({ cls := "com/example/nearpath/nearpath/answer/Frontier", name := "reach", desc := "(IJ)V" } : Jvm.MethodName) prog_12_method_3_code (5 : Nat) (Option.none : Option Jvm.ClassFile.FieldType)).before args0 about1 = true := code_word (m := ⟨2, 2⟩) (meth := k2m2) (c := k2c2) (by decide +kernel) rfl rfl rfl (by decide +kernel)
set_option maxRecDepth 65536 in
theorem w_c5 : (Jvm.Cond.code ({ cls := "com/example/nearpath/nearpath/answer/Frontier", name := "ensureRoom", desc := "([II)[I" } : Jvm.MethodName) prog_12_method_9_code (2 : Nat) (Option.some (Jvm.ClassFile.FieldType.array Jvm.ClassFile.FieldType.int))).before args0 about1 = true := code_word (m := ⟨2, 8⟩) (meth := k2m8) (c := k2c8) (by decide +kernel) rfl rfl rfl (by decide +kernel)
set_option maxRecDepth 65536 in
theorem w_c6 : (Jvm.Cond.code ({ cls := "com/example/nearpath/nearpath/answer/Frontier", name := "next", desc := "()I" } : Jvm.MethodName) prog_12_method_4_code (2 : Nat) (Option.some Jvm.ClassFile.FieldType.int)).before args0 about1 = true := code_word (m := ⟨2, 3⟩) (meth := k2m3) (c := k2c3) (by decide +kernel) rfl rfl rfl (by decide +kernel)
set_option maxRecDepth 65536 in
theorem w_c7 : (Jvm.Cond.code ({ cls := "com/example/nearpath/nearpath/answer/Frontier", name := "cost", desc := "()J" } : Jvm.MethodName) prog_12_method_5_code (1 : Nat) (Option.some Jvm.ClassFile.FieldType.long)).before args0 about1 = true := code_word (m := ⟨2, 4⟩) (meth := k2m4) (c := k2c4) (by decide +kernel) rfl rfl rfl (by decide +kernel)
set_option maxRecDepth 65536 in
theorem w_c8 : (Jvm.Cond.code ({ cls := "com/example/nearpath/nearpath/answer/Frontier", name := "siftUp", desc := "(IJI)V" } : Jvm.MethodName) prog_12_method_6_code (5 : Nat) (Option.none : Option Jvm.ClassFile.FieldType)).before args0 about1 = true := code_word (m := ⟨2, 5⟩) (meth := k2m5) (c := k2c5) (by decide +kernel) rfl rfl rfl (by decide +kernel)
set_option maxRecDepth 65536 in
theorem w_c9 : (Jvm.Cond.code ({ cls := "com/example/nearpath/nearpath/answer/Frontier", name := "place", desc := "(IJI)V" } : Jvm.MethodName) prog_12_method_8_code (5 : Nat) (Option.none : Option Jvm.ClassFile.FieldType)).before args0 about1 = true := code_word (m := ⟨2, 7⟩) (meth := k2m7) (c := k2c7) (by decide +kernel) rfl rfl rfl (by decide +kernel)
set_option maxRecDepth 65536 in
theorem w_c10 : (Jvm.Cond.code ({ cls := "com/example/nearpath/nearpath/answer/Frontier", name := "siftDown", desc := "(IJ)V" } : Jvm.MethodName) prog_12_method_7_code (6 : Nat) (Option.none : Option Jvm.ClassFile.FieldType)).before args0 about1 = true := code_word (m := ⟨2, 6⟩) (meth := k2m6) (c := k2c6) (by decide +kernel) rfl rfl rfl (by decide +kernel)
def codes1 : List Jvm.Cond := [Jvm.Cond.code x code maxLocals ret, Jvm.Cond.code ({ cls := "com/example/nearpath/nearpath/answer/Frontier", name := "<init>", desc := "(IJ)V" } : Jvm.MethodName) prog_12_method_1_code (4 : Nat) (Option.none : Option Jvm.ClassFile.FieldType), Jvm.Cond.code ({ cls := "java/lang/Object", name := "<init>", desc := "()V" } : Jvm.MethodName) object_method_1_code (1 : Nat) (Option.none : Option Jvm.ClassFile.FieldType), Jvm.Cond.code ({ cls := "com/example/nearpath/nearpath/answer/Frontier", name := "startSearch", desc := "()I" } : Jvm.MethodName) prog_12_method_2_code (2 : Nat) (Option.some Jvm.ClassFile.FieldType.int), Jvm.Cond.code ({ cls := "com/example/nearpath/nearpath/answer/Frontier", name := "reach", desc := "(IJ)V" } : Jvm.MethodName) prog_12_method_3_code (5 : Nat) (Option.none : Option Jvm.ClassFile.FieldType), Jvm.Cond.code ({ cls := "com/example/nearpath/nearpath/answer/Frontier", name := "ensureRoom", desc := "([II)[I" } : Jvm.MethodName) prog_12_method_9_code (2 : Nat) (Option.some (Jvm.ClassFile.FieldType.array Jvm.ClassFile.FieldType.int)), Jvm.Cond.code ({ cls := "com/example/nearpath/nearpath/answer/Frontier", name := "next", desc := "()I" } : Jvm.MethodName) prog_12_method_4_code (2 : Nat) (Option.some Jvm.ClassFile.FieldType.int), Jvm.Cond.code ({ cls := "com/example/nearpath/nearpath/answer/Frontier", name := "cost", desc := "()J" } : Jvm.MethodName) prog_12_method_5_code (1 : Nat) (Option.some Jvm.ClassFile.FieldType.long), Jvm.Cond.code ({ cls := "com/example/nearpath/nearpath/answer/Frontier", name := "siftUp", desc := "(IJI)V" } : Jvm.MethodName) prog_12_method_6_code (5 : Nat) (Option.none : Option Jvm.ClassFile.FieldType), Jvm.Cond.code ({ cls := "com/example/nearpath/nearpath/answer/Frontier", name := "place", desc := "(IJI)V" } : Jvm.MethodName) prog_12_method_8_code (5 : Nat) (Option.none : Option Jvm.ClassFile.FieldType), Jvm.Cond.code ({ cls := "com/example/nearpath/nearpath/answer/Frontier", name := "siftDown", desc := "(IJ)V" } : Jvm.MethodName) prog_12_method_7_code (6 : Nat) (Option.none : Option Jvm.ClassFile.FieldType)]
set_option maxRecDepth 65536 in
theorem codes_eq : words1.filter isCode = codes1 := rfl
theorem w_codes : ∀ c ∈ words1.filter isCode, c.before args0 about1 = true := by
  rw [codes_eq]
  intro c hc
  simp only [codes1, List.mem_cons, List.not_mem_nil, or_false] at hc
  rcases hc with rfl | rfl | rfl | rfl | rfl | rfl | rfl | rfl | rfl | rfl | rfl
  · exact w_c0
  · exact w_c1
  · exact w_c2
  · exact w_c3
  · exact w_c4
  · exact w_c5
  · exact w_c6
  · exact w_c7
  · exact w_c8
  · exact w_c9
  · exact w_c10
set_option maxRecDepth 65536 in
theorem w_t1 : (words1.take 24).all (fun c => isCode c || c.before args0 about1) = true := by decide +kernel
set_option maxRecDepth 65536 in
theorem w_t2 : ((words1.drop 24).take 24).all (fun c => isCode c || c.before args0 about1) = true := by decide +kernel
set_option maxRecDepth 65536 in
theorem w_t3 : ((words1.drop 24).drop 24).all (fun c => isCode c || c.before args0 about1) = true := by decide +kernel
theorem w_tables : (allAtoms (Jvm.Cond.code x code maxLocals ret :: tables_1)).before args0 about1 = true := by
  rw [allAtoms_all]
  show words1.all (fun c => c.before args0 about1) = true
  refine all_split ?_ w_codes
  rw [← List.take_append_drop 24 words1, List.all_append, w_t1, ← List.take_append_drop 24 (words1.drop 24), List.all_append, w_t2, w_t3]
  rfl
set_option maxRecDepth 65536 in
theorem w_case : (Jvm.Cond.and given_1 narrow_1).before args0 about1 = true := by decide +kernel
theorem w_applies : (headSpec (Jvm.Cond.code x code maxLocals ret :: tables_1) room_1).applies x e0.platform about1 = true :=
  (Spec.applies_iff w_frames).mpr ⟨w_running, w_runnable, w_alone, w_named, w_hears, w_ripe, w_room, w_tables⟩
theorem atStart : AtStart classFile x code maxLocals ret World_1 tables_1 room_1 Calls_1 rest_1 Pre_1 launch0 p0 e0 about1 theMethod args0 below0 :=
  ⟨lists_1, trivial, launch0.admits_env _ _ _, launch0.least_env, fairChoices_fair.cas, fairChoices_fair.clock, w_frames, w_args, w_heap, w_applies, trivial, trivial, w_case⟩
end start1
theorem witness_1 : WitnessClaimed_1 := ⟨start1.p0, start1.e0, start1.about1, start1.theMethod, start1.args0, start1.below0, start1.atStart⟩
end Jvm.Pilot.@@N@@
