import JvmDerived
import JvmDerived.Pilot.@@N@@Statement
import JvmDerived.Pilot.@@N@@Code
set_option linter.unusedVariables false
set_option linter.unusedSimpArgs false
@@BLOCK:NumsL.lean.txt@@
namespace Jvm.RoadKit
open Sem ClassFile Op Lib Jvm.Stand Jvm.Free Jvm.LawKit
section New
variable {p : Program} {l : Launch} {e : Env} {R : Room} {s : State} {m : MethodId} {args : Array Value} {below : List Frame} {meth : Method} {c : Code} {T : State} {locs : List Loc} {cells slots : Nat}
theorem retI (X : Stand p l e R s m args below meth c T locs cells slots) (hx : p.tables.exec = Jvm.exec) {pc : Nat} {Ls : Array Slot} {z : Int32} {rest : List Value} (hret : meth.sig.returnType = some .int) (hd : decode c.code pc = .ok (.ireturn, 1)) {fs : List Frame}
    (hl : ∀ (f : JFrame) (acts : List Action), f.method = m → f.locked = none → f.entered = [] → (doReturn e (T.setTop f) acts (some (.int z))).1 = T.setFrames fs) : Steps p.tables e below (T.setTop (mkF m pc Ls (.int z :: rest))) (T.setFrames fs) := by
  have hm' : T.vm.method? m = some meth := X.method'
  have hn : narrow .int (.int z) = .int z := rfl
  show Steps p.tables e below (T.setTop { method := m, pc := pc, locals := Ls, stack := _ :: rest, locked := none }) _
  jvm_step X.here [X.here.top, hx, hd, hm', hret, hn]
  first | (intro acts; rw [hl _ acts rfl rfl rfl]) | rw [hl _ _ rfl rfl rfl]
  exact Steps.refl _
end New
end Jvm.RoadKit
namespace Jvm.Pilot.@@N@@
open Jvm Jvm.ClassFile Sem Op Lib Jvm.Free Jvm.Stand Jvm.LawKit Jvm.RoadKit Bundle Jvm.Pilot.@@N@@.Jvm.D
open Jvm.Free.XT (ushr ushrL cmpL)
/-- from the frame g over the state T the run comes to a return of which Q holds; K cells and N slots are made at the most -/
def Go (p : Program) (e : Env) (below : List Frame) (s : State) (Q : Option Value → Heap → List Loc → Prop) (K N : Nat) (T : State) (g : JFrame) : Prop :=
  ∃ s₂ o, Steps p.tables e below (T.setTop g) s₂ ∧ s₂.status = .running ∧ Ended s₂ below o ∧ ∃ v L, o = .returned v ∧ Q v s₂.heap L ∧ FrameEnd s o s₂ L K N
section Own
variable {p : Program} {l : Launch} {e : Env} {R : Room} {s : State} {m : MethodId} {args : Array Value} {below : List Frame} {meth : Method} {c : Code} {T T' : State} {locs : List Loc} {cells slots K N : Nat} {Q : Option Value → Heap → List Loc → Prop} {g : JFrame}
theorem Go.st (g' : JFrame) (k : ∀ t, Steps p.tables e below (T'.setTop g') t → Steps p.tables e below (T.setTop g) t) (h : Go p e below s Q K N T' g') : Go p e below s Q K N T g := by
  obtain ⟨s₂, o, h1, h2⟩ := h
  exact ⟨s₂, o, k _ h1, h2⟩
theorem Go.of_eq {g' : JFrame} (q : g = g') (h : Go p e below s Q K N T g') : Go p e below s Q K N T g := q ▸ h
theorem Go.retZ (X : Stand p l e R s m args below meth c T locs cells slots) (hx : p.tables.exec = Jvm.exec) (hlk : meth.locks = false) {pc : Nat} {Ls : Array Slot} {z : Int32} {rest : List Value} {t : FieldType} (ht : t = .boolean ∨ t = .byte ∨ t = .char ∨ t = .short) (hret : meth.sig.returnType = some t) (hd : decode c.code pc = .ok (.ireturn, 1))
    (hq : Q (some (.int (nar t z))) T.heap locs) (hk : cells ≤ K) (hn : slots ≤ N) : Go p e below s Q K N T (mkF m pc Ls (.int z :: rest)) := by
  obtain ⟨fs, hr, hrun, hended, hW, hsame⟩ := X.leave (v := some (.int (nar t z))) (fun h => by rw [hret] at h; cases h) hlk
  exact ⟨_, _, retN X hx hret ht hd hr, hrun, hended, _, _, rfl, hq, ⟨_, rfl⟩, hW, hsame.mono hk hn⟩
theorem Go.retI (X : Stand p l e R s m args below meth c T locs cells slots) (hx : p.tables.exec = Jvm.exec) (hlk : meth.locks = false) {pc : Nat} {Ls : Array Slot} {z : Int32} {rest : List Value} (hret : meth.sig.returnType = some .int) (hd : decode c.code pc = .ok (.ireturn, 1))
    (hq : Q (some (.int z)) T.heap locs) (hk : cells ≤ K) (hn : slots ≤ N) : Go p e below s Q K N T (mkF m pc Ls (.int z :: rest)) := by
  obtain ⟨fs, hr, hrun, hended, hW, hsame⟩ := X.leave (v := some (.int z)) (fun h => by rw [hret] at h; cases h) hlk
  exact ⟨_, _, RoadKit.retI X hx hret hd hr, hrun, hended, _, _, rfl, hq, ⟨_, rfl⟩, hW, hsame.mono hk hn⟩
theorem Go.retJ (X : Stand p l e R s m args below meth c T locs cells slots) (hx : p.tables.exec = Jvm.exec) (hlk : meth.locks = false) {pc : Nat} {Ls : Array Slot} {z : Int64} (hret : meth.sig.returnType = some .long) (hd : decode c.code pc = .ok (.lreturn, 1))
    (hq : Q (some (.long z)) T.heap locs) (hk : cells ≤ K) (hn : slots ≤ N) : Go p e below s Q K N T (mkF m pc Ls [.long z]) := by
  obtain ⟨fs, hr, hrun, hended, hW, hsame⟩ := X.leave (v := some (.long z)) (fun h => by rw [hret] at h; cases h) hlk
  exact ⟨_, _, X.lreturnOut hx hret hd hr, hrun, hended, _, _, rfl, hq, ⟨_, rfl⟩, hW, hsame.mono hk hn⟩
theorem Go.retV (X : Stand p l e R s m args below meth c T locs cells slots) (hx : p.tables.exec = Jvm.exec) (hlk : meth.locks = false) {pc : Nat} {Ls : Array Slot} (hret : meth.sig.returnType = none) (hd : decode c.code pc = .ok (.return_, 1))
    (hq : Q none T.heap locs) (hk : cells ≤ K) (hn : slots ≤ N) : Go p e below s Q K N T (mkF m pc Ls []) := by
  obtain ⟨fs, hr, hrun, hended, hW, hsame⟩ := X.leave (v := none) (fun _ => rfl) hlk
  exact ⟨_, _, X.returnOut hx hret hd hr, hrun, hended, _, _, rfl, hq, ⟨_, rfl⟩, hW, hsame.mono hk hn⟩
end Own
theorem own_c1 {x y : Int64} (h : y < x) : cmpL x y = 1 := by unfold cmpL; rw [if_pos h]
theorem own_c0 {x y : Int64} (h : x = y) : cmpL x y = 0 := by unfold cmpL; rw [if_neg (by subst h; exact Int64.lt_irrefl), if_pos h]
theorem own_cm {x y : Int64} (h : x < y) : cmpL x y = -1 := by unfold cmpL; rw [if_neg (Int64.lt_asymm h), if_neg (Int64.ne_of_lt h)]
theorem own_tri (x y : Int64) : x < y ∨ x = y ∨ y < x := by
  rcases Int.lt_trichotomy x.toInt y.toInt with h | h | h
  · exact Or.inl (Int64.lt_iff_toInt_lt.mpr h)
  · exact Or.inr (Or.inl (Int64.toInt_inj.mp h))
  · exact Or.inr (Or.inr (Int64.lt_iff_toInt_lt.mpr h))
theorem own_llT {x y : Int64} (h : x < y) : ifCond.holds .lt (cmpL x y) = true ∧ ifCond.holds .ge (cmpL x y) = false := by rw [own_cm h]; decide
theorem own_llF {x y : Int64} (h : ¬ x < y) : ifCond.holds .lt (cmpL x y) = false ∧ ifCond.holds .ge (cmpL x y) = true := by
  rcases own_tri x y with q | q | q
  · exact absurd q h
  · rw [own_c0 q]; decide
  · rw [own_c1 q]; decide
theorem own_lgT {x y : Int64} (h : y < x) : ifCond.holds .gt (cmpL x y) = true ∧ ifCond.holds .le (cmpL x y) = false := by rw [own_c1 h]; decide
theorem own_lgF {x y : Int64} (h : ¬ y < x) : ifCond.holds .gt (cmpL x y) = false ∧ ifCond.holds .le (cmpL x y) = true := by
  rcases own_tri x y with q | q | q
  · rw [own_cm q]; decide
  · rw [own_c0 q]; decide
  · exact absurd q h
theorem own_leT {x y : Int64} (h : x = y) : ifCond.holds .eq (cmpL x y) = true ∧ ifCond.holds .ne (cmpL x y) = false := by rw [own_c0 h]; decide
theorem own_leF {x y : Int64} (h : ¬ x = y) : ifCond.holds .eq (cmpL x y) = false ∧ ifCond.holds .ne (cmpL x y) = true := by
  rcases own_tri x y with q | q | q
  · rw [own_cm q]; decide
  · exact absurd q h
  · rw [own_c1 q]; decide
theorem own_chr (x : Int32) : 0 ≤ (x.toUInt32.toUInt16.toUInt32.toInt32).toInt ∧ (x.toUInt32.toUInt16.toUInt32.toInt32).toInt < 65536 := by
  have h : ∀ u : UInt16, (u.toUInt32.toInt32).toInt = u.toNat := fun u => by
    have hu := u.toNat_lt
    show ((u.toUInt32).toBitVec).toInt = _
    have hm : (u.toUInt32).toBitVec.toNat = u.toNat := by
      show (u.toUInt32).toNat = _
      simp
    rw [BitVec.toInt_eq_toNat_cond, hm, if_pos (by omega)]
  have h2 := (x.toUInt32.toUInt16).toNat_lt
  rw [h]; omega
theorem own_small (n : Nat) (c : Int32) (h0 : 0 ≤ c.toInt) (h1 : c.toInt < n) (hn : n ≤ 2147483647) : ∃ k : Fin n, c = Int32.ofNat k.val := by
  refine ⟨⟨c.toInt.toNat, by omega⟩, Int32.toInt_inj.mp ?_⟩
  rw [Int32.toInt_ofNat_of_lt (by show c.toInt.toNat < _; omega)]
  show _ = ((c.toInt.toNat : Nat) : Int)
  omega
/-- an array: its kind, its length, what each place holds -/
def Ary (Z : State) (h : Heap) (a : Addr) (t : FieldType) (n : Nat) (f : Nat → Value) : Prop := ∃ c : Cell, Arr Z h a c t ∧ c.slots.size = n ∧ ∀ j, j < n → c.slots[j]? = some (f j)
def upd (f : Nat → Value) (j : Nat) (v : Value) : Nat → Value := fun i => if i = j then v else f i
/-- ints in every place -/
def bts (b : Nat → Int32) : Nat → Value := fun i => .int (b i)
def updI (b : Nat → Int32) (j : Nat) (v : Int32) : Nat → Int32 := fun i => if i = j then v else b i
def lst (L : List Value) : Nat → Value := fun i => L.getD i .null
section OwnH
variable {p : Program} {l : Launch} {e : Env} {R : Room} {s : State} {m : MethodId} {args : Array Value} {below : List Frame} {meth : Method} {c : Code} {T : State} {locs : List Loc} {cells slots : Nat}
variable {Z : State} {h h' : Heap} {a b : Addr} {t : FieldType} {n : Nat} {f f' : Nat → Value} {sl : Nat} {v : Value} {ws : List Addr} {L : List Value}
theorem upd_lst {i j : Nat} (hi : i < L.length) : upd (lst L) i v j = lst (L.set i v) j := by
  unfold upd lst
  by_cases q : j = i
  · subst q; rw [if_pos rfl]; simp [hi]
  · rw [if_neg q]; simp only [List.getD_eq_getElem?_getD]; rw [List.getElem?_set_ne (Ne.symm q)]
theorem lst_rep {d : Value} {j : Nat} (hj : j < n) : lst (List.replicate n d) j = d := by
  unfold lst; simp [hj]
theorem Ary.lt (A : Ary Z h a t n f) : a < h.size := by obtain ⟨c, q, -⟩ := A; exact q.lt
theorem Ary.ext (A : Ary Z h a t n f) (E : Ext h h') : Ary Z h' a t n f := by obtain ⟨c, q, r⟩ := A; exact ⟨c, q.ext E, r⟩
theorem Ary.other (A : Ary Z h b t n f) (W : Wr h h' a sl v) (q : b ≠ a) : Ary Z h' b t n f := by obtain ⟨c, A, r⟩ := A; exact ⟨c, A.other W q, r⟩
theorem Ary.keep (A : Ary Z h a t n f) (K : Keep h h' ws) (q : a ∉ ws) : Ary Z h' a t n f := by obtain ⟨c, A, r⟩ := A; exact ⟨c, ⟨K.2.1 a c A.1 q, A.2⟩, r⟩
theorem Ary.congr (A : Ary Z h a t n f) (q : ∀ j, j < n → f j = f' j) : Ary Z h a t n f' := by obtain ⟨c, A, S, H⟩ := A; exact ⟨c, A, S, fun j hj => by rw [H j hj, q j hj]⟩
theorem Ary.same (A : Ary Z h a t n f) (W : Wr h h' a sl v) : Ary Z h' a t n (upd f sl v) := by
  obtain ⟨c, A, S, H⟩ := A
  refine ⟨_, A.same W, by rw [sz_set]; exact S, fun j hj => ?_⟩
  unfold upd
  by_cases q : j = sl
  · subst q; rw [if_pos rfl]; show (c.slots.setIfInBounds j v)[j]? = some v
    rw [Array.getElem?_setIfInBounds_self_of_lt (by omega)]
  · rw [if_neg q]; show (c.slots.setIfInBounds sl v)[j]? = _
    rw [Array.getElem?_setIfInBounds_ne (Ne.symm q)]; exact H j hj
theorem Ary.sameL (A : Ary Z h a t n (lst L)) (W : Wr h h' a sl v) (q : sl < L.length) : Ary Z h' a t n (lst (L.set sl v)) := (A.same W).congr fun _ _ => upd_lst q
theorem Ary.sameB {bs : Nat → Int32} {x : Int32} (A : Ary Z h a t n (bts bs)) (W : Wr h h' a sl (.int x)) : Ary Z h' a t n (bts (updI bs sl x)) := (A.same W).congr fun j _ => by
  unfold upd bts updI
  by_cases q : j = sl
  · rw [if_pos q, if_pos q]
  · rw [if_neg q, if_neg q]
theorem Ary.new {k : ClassId} {z : Int32} (A : Arr Z h a (newA k t z) t) (hz : z.toNatClampNeg = n) : Ary Z h a t n (fun _ => defaultValue t) := ⟨_, A, by rw [sz_new, hz], fun j hj => by subst hz; simp [newA, hj]⟩
theorem Ary.newL {k : ClassId} {z : Int32} (A : Arr Z h a (newA k t z) t) (hz : z.toNatClampNeg = n) : Ary Z h a t n (lst (List.replicate n (defaultValue t))) := (Ary.new A hz).congr fun _ hj => (lst_rep hj).symm
theorem Ary.ne_exa {C : String} {a0 : Array Value} {k : Nat} (A : Ary Z h b t n f) (F : Exa Z h a C) (wi : (Cond.instantiable C k).before a0 Z = true) : a ≠ b := by obtain ⟨c, A, -⟩ := A; exact ne_arr F wi A
theorem inA {c : Cell} {j : Int32} {i : Nat} (S : c.slots.size = n) (hj : ¬ j < 0) (hi : j.toNatClampNeg = i) (hin : i < n) : ¬ (j < 0 ∨ c.slots.size ≤ j.toNatClampNeg) := by
  rw [S, hi]; intro q; rcases q with q | q
  · exact hj q
  · omega
theorem ldI (X : Stand p l e R s m args below meth c T locs cells slots) (hx : p.tables.exec = Jvm.exec) (hZ : Z.Warmed39 s.vm) (eT : T.heap = h) (A : Ary Z h a .int n f) {j : Int32} {i : Nat} (hj : ¬ j < 0) (hi : j.toNatClampNeg = i) (hin : i < n) (hv : f i = v) {g : JFrame} (hg : g.method = m) {rest : List Value} (hs : g.stack = .int j :: .ref a :: rest) (hd : decode c.code g.pc = .ok (.iaload, 1)) :
    ∀ target, Steps p.tables e below (T.setTop { g with pc := g.pc + 1, stack := v :: rest }) target → Steps p.tables e below (T.setTop g) target := by
  obtain ⟨cl, A, S, H⟩ := A
  exact X.iaload hx (by rw [eT]; exact A.1) (State.isArrayOf_alike hZ.alike A.2.1) A.2.2 (inA S hj hi hin) (by rw [hi, H i hin, hv]) hg hs hd
theorem ldJ (X : Stand p l e R s m args below meth c T locs cells slots) (hx : p.tables.exec = Jvm.exec) (hZ : Z.Warmed39 s.vm) (eT : T.heap = h) (A : Ary Z h a .long n f) {j : Int32} {i : Nat} (hj : ¬ j < 0) (hi : j.toNatClampNeg = i) (hin : i < n) (hv : f i = v) {g : JFrame} (hg : g.method = m) {rest : List Value} (hs : g.stack = .int j :: .ref a :: rest) (hd : decode c.code g.pc = .ok (.laload, 1)) :
    ∀ target, Steps p.tables e below (T.setTop { g with pc := g.pc + 1, stack := v :: rest }) target → Steps p.tables e below (T.setTop g) target := by
  obtain ⟨cl, A, S, H⟩ := A
  exact X.laload hx (by rw [eT]; exact A.1) (State.isArrayOf_alike hZ.alike A.2.1) A.2.2 (inA S hj hi hin) (by rw [hi, H i hin, hv]) hg hs hd
theorem ldB (X : Stand p l e R s m args below meth c T locs cells slots) (hx : p.tables.exec = Jvm.exec) (hZ : Z.Warmed39 s.vm) (eT : T.heap = h) (A : Ary Z h a .byte n f) {j : Int32} {i : Nat} (hj : ¬ j < 0) (hi : j.toNatClampNeg = i) (hin : i < n) (hv : f i = v) {g : JFrame} (hg : g.method = m) {rest : List Value} (hs : g.stack = .int j :: .ref a :: rest) (hd : decode c.code g.pc = .ok (.baload, 1)) :
    ∀ target, Steps p.tables e below (T.setTop { g with pc := g.pc + 1, stack := v :: rest }) target → Steps p.tables e below (T.setTop g) target := by
  obtain ⟨cl, A, S, H⟩ := A
  exact X.baloadBytes hx (by rw [eT]; exact A.1) (State.isArrayOf_alike hZ.alike A.2.1) A.2.2 (inA S hj hi hin) (by rw [hi, H i hin, hv]) hg hs hd
theorem ldR (X : Stand p l e R s m args below meth c T locs cells slots) (hx : p.tables.exec = Jvm.exec) (hZ : Z.Warmed39 s.vm) (eT : T.heap = h) (A : Ary Z h a t n f) (ht : t.isReference = true) {j : Int32} {i : Nat} (hj : ¬ j < 0) (hi : j.toNatClampNeg = i) (hin : i < n) (hv : f i = v) {g : JFrame} (hg : g.method = m) {rest : List Value} (hs : g.stack = .int j :: .ref a :: rest) (hd : decode c.code g.pc = .ok (.aaload, 1)) :
    ∀ target, Steps p.tables e below (T.setTop { g with pc := g.pc + 1, stack := v :: rest }) target → Steps p.tables e below (T.setTop g) target := by
  obtain ⟨cl, A, S, H⟩ := A
  exact X.aaload hx (by rw [eT]; exact A.1) (State.isArrayOf_alike hZ.alike A.2.1) ht A.2.2 (inA S hj hi hin) (by rw [hi, H i hin, hv]) hg hs hd
theorem lenA (X : Stand p l e R s m args below meth c T locs cells slots) (hx : p.tables.exec = Jvm.exec) (hZ : Z.Warmed39 s.vm) (eT : T.heap = h) (A : Ary Z h a t n f) {z : Int32} (hz : n.toInt32 = z) {g : JFrame} (hg : g.method = m) {rest : List Value} (hs : g.stack = .ref a :: rest) (hd : decode c.code g.pc = .ok (.arraylength, 1)) :
    ∀ target, Steps p.tables e below (T.setTop { g with pc := g.pc + 1, stack := .int z :: rest }) target → Steps p.tables e below (T.setTop g) target := by
  obtain ⟨cl, A, S, H⟩ := A
  subst hz; rw [← S]
  exact X.arraylength hx (by rw [eT]; exact A.1) (State.isArrayOf_alike hZ.alike A.2.1) hg hs hd
theorem stAI (X : Stand p l e R s m args below meth c T locs cells slots) (hx : p.tables.exec = Jvm.exec) (hZ : Z.Warmed39 s.vm) (eT : T.heap = h) (A : Ary Z h a .int n f) {j x : Int32} {i : Nat} (hj : ¬ j < 0) (hi : j.toNatClampNeg = i) (hin : i < n) {g : JFrame} (hg : g.method = m) {rest : List Value} (hs : g.stack = .int x :: .int j :: .ref a :: rest) (hd : decode c.code g.pc = .ok (.iastore, 1)) :
    ∃ T' h', Stand p l e R s m args below meth c T' (locs ++ [⟨a, i⟩]) cells slots ∧ T'.heap = h' ∧ Wr h h' a i (.int x) ∧ ∀ target, Steps p.tables e below (T'.setTop { g with pc := g.pc + 1, stack := rest }) target → Steps p.tables e below (T.setTop g) target := by
  obtain ⟨cl, A, S, H⟩ := A
  have q := inA S hj hi hin
  subst hi
  exact stI X hx hZ eT A q hg hs hd
theorem stAB (X : Stand p l e R s m args below meth c T locs cells slots) (hx : p.tables.exec = Jvm.exec) (hZ : Z.Warmed39 s.vm) (eT : T.heap = h) (A : Ary Z h a .byte n f) {j x : Int32} {i : Nat} (hj : ¬ j < 0) (hi : j.toNatClampNeg = i) (hin : i < n) {g : JFrame} (hg : g.method = m) {rest : List Value} (hs : g.stack = .int x :: .int j :: .ref a :: rest) (hd : decode c.code g.pc = .ok (.bastore, 1)) :
    ∃ T' h', Stand p l e R s m args below meth c T' (locs ++ [⟨a, i⟩]) cells slots ∧ T'.heap = h' ∧ Wr h h' a i (.int (nar .byte x)) ∧ ∀ target, Steps p.tables e below (T'.setTop { g with pc := g.pc + 1, stack := rest }) target → Steps p.tables e below (T.setTop g) target := by
  obtain ⟨cl, A, S, H⟩ := A
  have q := inA S hj hi hin
  subst hi
  exact stB X hx hZ eT A q hg hs hd
theorem stAJ (X : Stand p l e R s m args below meth c T locs cells slots) (hx : p.tables.exec = Jvm.exec) (hZ : Z.Warmed39 s.vm) (eT : T.heap = h) (A : Ary Z h a .long n f) {j : Int32} {x : Int64} {i : Nat} (hj : ¬ j < 0) (hi : j.toNatClampNeg = i) (hin : i < n) {g : JFrame} (hg : g.method = m) {rest : List Value} (hs : g.stack = .long x :: .int j :: .ref a :: rest) (hd : decode c.code g.pc = .ok (.lastore, 1)) :
    ∃ T' h', Stand p l e R s m args below meth c T' (locs ++ [⟨a, i⟩]) cells slots ∧ T'.heap = h' ∧ Wr h h' a i (.long x) ∧ ∀ target, Steps p.tables e below (T'.setTop { g with pc := g.pc + 1, stack := rest }) target → Steps p.tables e below (T.setTop g) target := by
  obtain ⟨cl, A, S, H⟩ := A
  have q := inA S hj hi hin
  subst hi
  exact stJ X hx hZ eT A q hg hs hd
theorem selI {y : MethodName} {k : Nat} {a0 : Array Value} (hZ : Z.Warmed39 s.vm) (wi : (Cond.instantiable y.cls k).before a0 Z = true) (wp : (Cond.privateMethod y).before a0 Z = true) (wm : (Cond.instanceMethod y).before a0 Z = true) (hy : y.cls ≠ "java/lang/invoke/MethodHandle" ∧ y.cls ≠ "java/lang/invoke/VarHandle") : (Cond.selects y.cls y y).before args s = true ∧ s.PrivateAt y := by
  have wi' : (Cond.instantiable y.cls k).before args s = true := mvT hZ wi
  have wp' := mvP hZ wp (args := args)
  have wm' : (Cond.instanceMethod y).before args s = true := mvT hZ wm
  obtain ⟨c, kc, h1, h2, h3, h4, -⟩ := Cond.instantiable_spec wi'
  have hp := Cond.privateMethod_at wp'
  refine ⟨selects_self_of_private h1 h2 (by simp at h4; exact h4.1) hp wm' hy, hp⟩
theorem cloneY {a0 : Array Value} (X : Stand p l e R s m args below meth c T locs cells slots) (hx : p.tables.exec = Jvm.exec) (hZ : Z.Warmed39 s.vm) {own ad : String} {index : Nat} (hown : s.vm.findClass own = some m.cls)
    (w1 : (Cond.methodLink own index ⟨ad, "clone", "()Ljava/lang/Object;"⟩).before a0 Z = true) (w2 : (Cond.sameMethod ad "java/lang/Object" "clone" "()Ljava/lang/Object;").before a0 Z = true) (w3 : (Cond.native ⟨"java/lang/Object", "clone", "()Ljava/lang/Object;"⟩).before a0 Z = true)
    (w4 : (Cond.instanceMethod ⟨"java/lang/Object", "clone", "()Ljava/lang/Object;"⟩).before a0 Z = true) (w5 : (Cond.selects ad ⟨ad, "clone", "()Ljava/lang/Object;"⟩ ⟨"java/lang/Object", "clone", "()Ljava/lang/Object;"⟩).before a0 Z = true) (w6 : (Cond.castable ad "java/lang/Cloneable").before a0 Z = true)
    (eT : T.heap = h) (A : Ary Z h a .int n (lst L)) (E : Exa Z h a ad) (hL : n = L.length ∧ ∀ v ∈ L, ∃ x, v = .int x) {g : JFrame} (hg : g.method = m) (hsize : g.locals.size = c.maxLocals) {rest : List Value} (hs : g.stack = .ref a :: rest) (hd : decode c.code g.pc = .ok (.invokevirtual index, 3))
    (hf : 1 ≤ R.frames) {W cap : Nat} (hW : 2 * g.monitorRoom + (rest.map fun v => v.category).sum ≤ W) (hl : W + 14 ≤ R.locals) (hcap : n ≤ cap) (hc : cells + 1 ≤ R.cells) (hsl : slots + cap ≤ R.slots) :
    ∃ T' h', Stand p l e R s m args below meth c T' locs (cells + 1) (slots + cap) ∧ T'.heap = h' ∧ Ext h h' ∧ Ary Z h' h.size .int n (lst L) ∧ Exa Z h' h.size ad ∧
      ∀ target, Steps p.tables e below (T'.setTop { g with pc := g.pc + 3, stack := .ref h.size :: rest }) target → Steps p.tables e below (T.setTop g) target := by
  obtain ⟨cl, A, S, H⟩ := A
  have F : FitC Z cl := fun i v hv => by
    have hi : i < n := by rw [← S]; exact (Array.getElem?_eq_some_iff.mp hv).1
    have q := H i hi
    rw [hv] at q
    have q' := Option.some.inj q
    have hm : v ∈ L := by
      rw [q']; unfold lst
      have : i < L.length := by omega
      rw [List.getD_eq_getElem?_getD, List.getElem?_eq_getElem this]; exact List.getElem_mem this
    obtain ⟨x, rfl⟩ := hL.2 v hm
    obtain ⟨hs', k, hk, comp, hkind⟩ := A.2.1
    simp [State.fitsSlot, State.slotType?, hk, hkind, fits]
  obtain ⟨T', h', X', e', E', A', Y', st⟩ := cloneA X hx hZ hown w1 w2 w3 w4 w5 w6 eT A E F hg hsize hs hd hf hW hl (by rw [S]; exact hcap) hc hsl
  exact ⟨T', h', X', e', E', ⟨_, A', S, H⟩, Y', st⟩
variable {K N : Nat} {Q : Option Value → Heap → List Loc → Prop}
theorem Go.retR (X : Stand p l e R s m args below meth c T locs cells slots) (hx : p.tables.exec = Jvm.exec) (hlk : meth.locks = false) {pc : Nat} {Ls : Array Slot} {w : Value} (hw : w.isRef = true) {ty : FieldType} (hret : meth.sig.returnType = some ty) (hty : ty.isReference = true) (hd : decode c.code pc = .ok (.areturn, 1))
    (hq : Q (some w) T.heap locs) (hk : cells ≤ K) (hn : slots ≤ N) : Go p e below s Q K N T (mkF m pc Ls [w]) := by
  obtain ⟨fs, hr, hrun, hended, hW, hsame⟩ := X.leave (v := some w) (fun h => by rw [hret] at h; cases h) hlk
  exact ⟨_, _, X.areturnOut hx hw hret hty hd hr, hrun, hended, _, _, rfl, hq, ⟨_, rfl⟩, hW, hsame.mono hk hn⟩
end OwnH
def Sml (x : Int32) : Prop := 0 ≤ x.toInt ∧ x.toInt < 536870912
theorem own_nomsb {x : Int32} (h : 0 ≤ x.toInt) : x.toBitVec.msb = false := by
  rw [BitVec.msb_eq_toInt]
  have : x.toBitVec.toInt = x.toInt := rfl
  rw [this]; simp; omega
theorem own_ae (s x : Int32) (hs : 0 ≤ s.toInt) (hx : 0 ≤ x.toInt) (h : s.toInt + x.toInt < 2147483648) : ¬ ((s ^^^ (s + x)) &&& (x ^^^ (s + x))) < (0 : Int32) := by
  have ht : (s + x).toInt = s.toInt + x.toInt := Jvm.Kit.i32_add (by omega) (by omega)
  have m1 := own_nomsb hs
  have m2 := own_nomsb hx
  have m3 := own_nomsb (x := s + x) (by omega)
  have m : (((s ^^^ (s + x)) &&& (x ^^^ (s + x))).toBitVec).msb = false := by
    show ((s.toBitVec ^^^ (s + x).toBitVec) &&& (x.toBitVec ^^^ (s + x).toBitVec)).msb = false
    rw [BitVec.msb_and, BitVec.msb_xor, BitVec.msb_xor, m1, m2, m3]; rfl
  rw [BitVec.msb_eq_toInt] at m
  intro q
  rw [Int32.lt_iff_toInt_lt] at q
  have e : (0 : Int32).toInt = 0 := by decide
  have e2 : (((s ^^^ (s + x)) &&& (x ^^^ (s + x))).toBitVec).toInt = ((s ^^^ (s + x)) &&& (x ^^^ (s + x))).toInt := rfl
  rw [e2] at m
  have := of_decide_eq_false m
  omega
theorem own_s1 {x : Int32} (h : Sml x) : ((0 : Int32) + x).toInt = x.toInt := by
  have e : (0 : Int32).toInt = 0 := by decide
  have h1 := h.1; have h2 := h.2
  rw [Jvm.Kit.i32_add (by omega) (by omega)]; omega
theorem own_s2 {x y : Int32} (h : Sml x) (g : Sml y) : ((0 : Int32) + x + y).toInt = x.toInt + y.toInt := by
  have e := own_s1 h; have h1 := h.1; have h2 := h.2; have g1 := g.1; have g2 := g.2
  rw [Jvm.Kit.i32_add (by omega) (by omega)]; omega
theorem own_s3 {x y z : Int32} (h : Sml x) (g : Sml y) (f : Sml z) : ((0 : Int32) + x + y + z).toInt = x.toInt + y.toInt + z.toInt := by
  have e := own_s2 h g; have h1 := h.1; have h2 := h.2; have g1 := g.1; have g2 := g.2; have f1 := f.1; have f2 := f.2
  rw [Jvm.Kit.i32_add (by omega) (by omega)]; omega
theorem own_ae0 {x : Int32} (h : Sml x) : ¬ (((0 : Int32) ^^^ ((0 : Int32) + x)) &&& (x ^^^ ((0 : Int32) + x))) < (0 : Int32) := by
  have e : (0 : Int32).toInt = 0 := by decide
  have h1 := h.1; have h2 := h.2
  exact own_ae 0 x (by omega) (by omega) (by omega)
theorem own_ae1 {x y : Int32} (h : Sml x) (g : Sml y) : ¬ ((((0 : Int32) + x) ^^^ (((0 : Int32) + x) + y)) &&& (y ^^^ (((0 : Int32) + x) + y))) < (0 : Int32) := by
  have e := own_s1 h; have h1 := h.1; have h2 := h.2; have g1 := g.1; have g2 := g.2
  exact own_ae _ y (by omega) (by omega) (by omega)
theorem own_ae2 {x y z : Int32} (h : Sml x) (g : Sml y) (f : Sml z) : ¬ (((((0 : Int32) + x) + y) ^^^ ((((0 : Int32) + x) + y) + z)) &&& (z ^^^ ((((0 : Int32) + x) + y) + z))) < (0 : Int32) := by
  have e := own_s2 h g; have h1 := h.1; have h2 := h.2; have g1 := g.1; have g2 := g.2; have f1 := f.1; have f2 := f.2
  exact own_ae _ z (by omega) (by omega) (by omega)
theorem own_ae3 {x y z w : Int32} (h : Sml x) (g : Sml y) (f : Sml z) (d : Sml w) : ¬ ((((((0 : Int32) + x) + y) + z) ^^^ (((((0 : Int32) + x) + y) + z) + w)) &&& (w ^^^ (((((0 : Int32) + x) + y) + z) + w))) < (0 : Int32) := by
  have e := own_s3 h g f; have h1 := h.1; have h2 := h.2; have g1 := g.1; have g2 := g.2; have f1 := f.1; have f2 := f.2; have d1 := d.1; have d2 := d.2
  exact own_ae _ w (by omega) (by omega) (by omega)
theorem d9_0 : decode jdk_29_method_24_code 0 = .ok (.iload_n 0, 1) := by decide +kernel
theorem d9_1 : decode jdk_29_method_24_code 1 = .ok (.iload_n 1, 1) := by decide +kernel
theorem d9_2 : decode jdk_29_method_24_code 2 = .ok (.iadd, 1) := by decide +kernel
theorem d9_3 : decode jdk_29_method_24_code 3 = .ok (.istore_n 2, 1) := by decide +kernel
theorem d9_4 : decode jdk_29_method_24_code 4 = .ok (.iload_n 0, 1) := by decide +kernel
theorem d9_5 : decode jdk_29_method_24_code 5 = .ok (.iload_n 2, 1) := by decide +kernel
theorem d9_6 : decode jdk_29_method_24_code 6 = .ok (.ixor, 1) := by decide +kernel
theorem d9_7 : decode jdk_29_method_24_code 7 = .ok (.iload_n 1, 1) := by decide +kernel
theorem d9_8 : decode jdk_29_method_24_code 8 = .ok (.iload_n 2, 1) := by decide +kernel
theorem d9_9 : decode jdk_29_method_24_code 9 = .ok (.ixor, 1) := by decide +kernel
theorem d9_10 : decode jdk_29_method_24_code 10 = .ok (.iand, 1) := by decide +kernel
theorem d9_11 : decode jdk_29_method_24_code 11 = .ok (.ifCond .ge 13, 3) := by decide +kernel
theorem d9_24 : decode jdk_29_method_24_code 24 = .ok (.iload_n 2, 1) := by decide +kernel
theorem d9_25 : decode jdk_29_method_24_code 25 = .ok (.ireturn, 1) := by decide +kernel
theorem ef_9 (m : MethodId) (p0 : Int32) (p1 : Int32) : entryFrame m #[(.int p0), (.int p1)] 3 = (mkF m 0 #[.val (.int p0), .val (.int p1), .unset] []) := by first | (simp [entryFrame, mkF, argsToLocals, Value.category]; done) | rfl
def Q_9 (Z : State) (p0 : Int32) (p1 : Int32) (h0 : Heap) (n0 : Nat) (v : Option Value) (h : Heap) (L : List Loc) : Prop := v = some (.int (p0 + p1)) ∧ Fr n0 L ∧ h = h0
set_option maxRecDepth 65536 in
set_option maxHeartbeats 40000000 in
theorem rm_9 (l : Launch) (Z : State) (a0 : Array Value) (hw : ∀ d ∈ tables_1, d.before a0 Z = true) (ws : List Jvm.Cond) (p0 : Int32) (p1 : Int32) (h0 : Heap) (n0 : Nat) (Z0 : n0 ≤ h0.size) (pr0 : ¬ ((p0 ^^^ (p0 + p1)) &&& (p1 ^^^ (p0 + p1))) < (0 : Int32)) :
    MetFree l (⟨"java/lang/Math", "addExact", "(II)I"⟩ : MethodName) (head1 (Jvm.Cond.code (⟨"java/lang/Math", "addExact", "(II)I"⟩ : MethodName) jdk_29_method_24_code 3 (some .int) :: ws) ({ frames := 0, cells := 0, slots := 0, locals := 0 } : Room)) (fun aa U => aa = #[(.int p0), (.int p1)] ∧ Z.Warmed39 U.vm ∧ U.heap = h0) (fun _ _ _ _ _ => True) (fun _ U o U' => ∃ v L, o = .returned v ∧ Q_9 Z p0 p1 h0 n0 v U'.heap L ∧ FrameEnd U o U' L ({ frames := 0, cells := 0, slots := 0, locals := 0 } : Room).cells ({ frames := 0, cells := 0, slots := 0, locals := 0 } : Room).slots) := by
  refine MetFree.of_bodySF (Jvm.Free.JP.mathPlain rfl (by decide +kernel)) hisR ?_
  intro p e s m args below meth c s₁ Bd hml0 hP hK
  obtain ⟨rfl, hZ, hh⟩ := hP
  have hx := Bd.exec
  have hby := Bd.bytes
  have hml : c.maxLocals = 3 := hml0
  have hown : s.vm.findClass "java/lang/Math" = some m.cls := findClass_of_methodNamed Bd.named
  have hnm := (name_of_methodNamed Bd.named Bd.method).1
  have X0 : Stand p l e ({ frames := 0, cells := 0, slots := 0, locals := 0 } : Room) s m #[(.int p0), (.int p1)] below meth c s₁ [] 0 0 := Stand.of_body Bd
  have e0 : s₁.heap = h0 := by rw [← hh, Bd.state]; rfl
  have N0 := Fr.nil n0
  have K0 := Keep.refl h0 []
  show Go p e below s (Q_9 Z p0 p1 h0 n0) 0 0 s₁ (entryFrame m #[(.int p0), (.int p1)] 3)
  refine Go.of_eq (ef_9 m p0 p1) ?_
  refine Go.st (mkF m 1 #[.val (.int p0), .val (.int p1), .unset] [(.int p0)]) (fun _ k => XS.iloadN X0.here hx rfl (hb hby d9_0) rfl k) ?_
  refine Go.st (mkF m 2 #[.val (.int p0), .val (.int p1), .unset] [(.int p1), (.int p0)]) (fun _ k => XS.iloadN X0.here hx rfl (hb hby d9_1) rfl k) ?_
  refine Go.st (mkF m 3 #[.val (.int p0), .val (.int p1), .unset] [(.int (p0 + p1))]) (fun _ k => XS.iadd X0.here hx rfl (hb hby d9_2) rfl k) ?_
  refine Go.st (mkF m 4 #[.val (.int p0), .val (.int p1), .val (.int (p0 + p1))] []) (fun _ k => XS.istoreN X0.here hx rfl (hb hby d9_3) rfl (l' := #[.val (.int p0), .val (.int p1), .val (.int (p0 + p1))]) rfl k) ?_
  refine Go.st (mkF m 5 #[.val (.int p0), .val (.int p1), .val (.int (p0 + p1))] [(.int p0)]) (fun _ k => XS.iloadN X0.here hx rfl (hb hby d9_4) rfl k) ?_
  refine Go.st (mkF m 6 #[.val (.int p0), .val (.int p1), .val (.int (p0 + p1))] [(.int (p0 + p1)), (.int p0)]) (fun _ k => XS.iloadN X0.here hx rfl (hb hby d9_5) rfl k) ?_
  refine Go.st (mkF m 7 #[.val (.int p0), .val (.int p1), .val (.int (p0 + p1))] [(.int (p0 ^^^ (p0 + p1)))]) (fun _ k => XT.ixor X0.here hx rfl (hb hby d9_6) rfl k) ?_
  refine Go.st (mkF m 8 #[.val (.int p0), .val (.int p1), .val (.int (p0 + p1))] [(.int p1), (.int (p0 ^^^ (p0 + p1)))]) (fun _ k => XS.iloadN X0.here hx rfl (hb hby d9_7) rfl k) ?_
  refine Go.st (mkF m 9 #[.val (.int p0), .val (.int p1), .val (.int (p0 + p1))] [(.int (p0 + p1)), (.int p1), (.int (p0 ^^^ (p0 + p1)))]) (fun _ k => XS.iloadN X0.here hx rfl (hb hby d9_8) rfl k) ?_
  refine Go.st (mkF m 10 #[.val (.int p0), .val (.int p1), .val (.int (p0 + p1))] [(.int (p1 ^^^ (p0 + p1))), (.int (p0 ^^^ (p0 + p1)))]) (fun _ k => XT.ixor X0.here hx rfl (hb hby d9_9) rfl k) ?_
  refine Go.st (mkF m 11 #[.val (.int p0), .val (.int p1), .val (.int (p0 + p1))] [(.int ((p0 ^^^ (p0 + p1)) &&& (p1 ^^^ (p0 + p1))))]) (fun _ k => XS.iand X0.here hx rfl (hb hby d9_10) rfl k) ?_
  refine Go.st (mkF m 24 #[.val (.int p0), .val (.int p1), .val (.int (p0 + p1))] []) (fun _ k => XS.ifYes X0.here hx rfl (pc0 := 11) (pc' := 24) rfl (hb hby d9_11) rfl ((if0 _ _).trans (flt pr0).2.1) (by decide) (by decide) k) ?_
  refine Go.st (mkF m 25 #[.val (.int p0), .val (.int p1), .val (.int (p0 + p1))] [(.int (p0 + p1))]) (fun _ k => XS.iloadN X0.here hx rfl (hb hby d9_24) rfl k) ?_
  exact Go.retI X0 hx Bd.notSynchronized Bd.returns (hb hby d9_25) ⟨rfl, N0, e0⟩ (by decide) (by decide)
theorem pn_0 : plainName "com/example/regular_role_reasoner/regularrolereasoner/alcoif/ElementsTotalPinLaw" = true := by first | (simp [plainName, overriddenIn]; done) | decide +kernel
theorem d10_0 : decode method_2_code 0 = .ok (.iload_n 0, 1) := by decide +kernel
theorem d10_1 : decode method_2_code 1 = .ok (.ifCond .ne 7, 3) := by decide +kernel
theorem d10_4 : decode method_2_code 4 = .ok (.iconst 0, 1) := by decide +kernel
theorem d10_5 : decode method_2_code 5 = .ok (.newarray .int, 2) := by decide +kernel
theorem d10_7 : decode method_2_code 7 = .ok (.areturn, 1) := by decide +kernel
theorem ef_10 (m : MethodId) (p1 : Int32) (p2 : Int32) (p3 : Int32) (p4 : Int32) : entryFrame m #[(.int (0 : Int32)), (.int p1), (.int p2), (.int p3), (.int p4)] 5 = (mkF m 0 #[.val (.int (0 : Int32)), .val (.int p1), .val (.int p2), .val (.int p3), .val (.int p4)] []) := by first | (simp [entryFrame, mkF, argsToLocals, Value.category]; done) | rfl
def Q_10 (Z : State) (p1 : Int32) (p2 : Int32) (p3 : Int32) (p4 : Int32) (h0 : Heap) (n0 : Nat) (v : Option Value) (h : Heap) (L : List Loc) : Prop := ∃ b : Addr, v = some (.ref b) ∧ Fr n0 L ∧ Keep h0 h [] ∧ h0.size ≤ b ∧ Exa Z h b "[I" ∧ Ary Z h b .int 0 (lst [])
set_option maxRecDepth 65536 in
set_option maxHeartbeats 40000000 in
theorem rm_10 (l : Launch) (Z : State) (a0 : Array Value) (hw : ∀ d ∈ tables_1, d.before a0 Z = true) (ws : List Jvm.Cond) (p1 : Int32) (p2 : Int32) (p3 : Int32) (p4 : Int32) (h0 : Heap) (n0 : Nat) (Z0 : n0 ≤ h0.size)  :
    MetFree l (⟨"com/example/regular_role_reasoner/regularrolereasoner/alcoif/ElementsTotalPinLaw", "build", "(IIIII)[I"⟩ : MethodName) (head1 (Jvm.Cond.code (⟨"com/example/regular_role_reasoner/regularrolereasoner/alcoif/ElementsTotalPinLaw", "build", "(IIIII)[I"⟩ : MethodName) method_2_code 5 (some (.array .int)) :: ws) ({ frames := 0, cells := 1, slots := 0, locals := 0 } : Room)) (fun aa U => aa = #[(.int (0 : Int32)), (.int p1), (.int p2), (.int p3), (.int p4)] ∧ Z.Warmed39 U.vm ∧ U.heap = h0) (fun _ _ _ _ _ => True) (fun _ U o U' => ∃ v L, o = .returned v ∧ Q_10 Z p1 p2 p3 p4 h0 n0 v U'.heap L ∧ FrameEnd U o U' L ({ frames := 0, cells := 1, slots := 0, locals := 0 } : Room).cells ({ frames := 0, cells := 1, slots := 0, locals := 0 } : Room).slots) := by
  refine MetFree.of_bodySF (plainFor_of_name pn_0) hisR ?_
  intro p e s m args below meth c s₁ Bd hml0 hP hK
  obtain ⟨rfl, hZ, hh⟩ := hP
  have hx := Bd.exec
  have hby := Bd.bytes
  have hml : c.maxLocals = 5 := hml0
  have hown : s.vm.findClass "com/example/regular_role_reasoner/regularrolereasoner/alcoif/ElementsTotalPinLaw" = some m.cls := findClass_of_methodNamed Bd.named
  have hnm := (name_of_methodNamed Bd.named Bd.method).1
  have X0 : Stand p l e ({ frames := 0, cells := 1, slots := 0, locals := 0 } : Room) s m #[(.int (0 : Int32)), (.int p1), (.int p2), (.int p3), (.int p4)] below meth c s₁ [] 0 0 := Stand.of_body Bd
  have e0 : s₁.heap = h0 := by rw [← hh, Bd.state]; rfl
  have N0 := Fr.nil n0
  have K0 := Keep.refl h0 []
  show Go p e below s (Q_10 Z p1 p2 p3 p4 h0 n0) 1 0 s₁ (entryFrame m #[(.int (0 : Int32)), (.int p1), (.int p2), (.int p3), (.int p4)] 5)
  refine Go.of_eq (ef_10 m p1 p2 p3 p4) ?_
  refine Go.st (mkF m 1 #[.val (.int (0 : Int32)), .val (.int p1), .val (.int p2), .val (.int p3), .val (.int p4)] [(.int (0 : Int32))]) (fun _ k => XS.iloadN X0.here hx rfl (hb hby d10_0) rfl k) ?_
  refine Go.st (mkF m 4 #[.val (.int (0 : Int32)), .val (.int p1), .val (.int p2), .val (.int p3), .val (.int p4)] []) (fun _ k => XS.ifNo X0.here hx rfl (hb hby d10_1) rfl ((if0 _ _).trans (teq (by decide : (0 : Int32) = (0 : Int32))).2) k) ?_
  refine Go.st (mkF m 5 #[.val (.int (0 : Int32)), .val (.int p1), .val (.int p2), .val (.int p3), .val (.int p4)] [(.int (0 : Int32))]) (fun _ k => XS.iconst X0.here hx rfl (hb hby d10_4) k) ?_
  obtain ⟨T1, h1, k1, X1, e1, E1, A1, Y1, st1⟩ := newPE X0 hx hZ (hw _ (List.mem_of_getElem? (i := 6) rfl)) e0 (g := (mkF m 5 #[.val (.int (0 : Int32)), .val (.int p1), .val (.int p2), .val (.int p3), .val (.int p4)] [(.int (0 : Int32))])) rfl (hb hby d10_5) rfl (by decide) (cap := 0) (by decide) (by decide) (by decide) (by decide) (ad := "[I") rfl
  obtain ⟨b1, q1⟩ : ∃ z, z = h0.size := ⟨_, rfl⟩
  rw [← q1] at A1 st1 Y1
  have sz_b1 : h0.size ≤ b1 := by rw [q1]; exact K0.1
  have g_b1 : n0 ≤ b1 := Nat.le_trans Z0 sz_b1
  have K1 : Keep h0 h1 [] := K0.ext E1
  have V2 : Ary Z h1 b1 .int 0 (lst []) := Ary.newL A1 (by decide)
  refine Go.st (mkF m 7 #[.val (.int (0 : Int32)), .val (.int p1), .val (.int p2), .val (.int p3), .val (.int p4)] [(.ref b1)]) (fun _ k => st1 _ k) ?_
  exact Go.retR X1 hx Bd.notSynchronized rfl Bd.returns rfl (hb hby d10_7) (by rw [e1]; exact ⟨b1, rfl, N0, K1, sz_b1, Y1, V2⟩) (by decide) (by decide)
theorem d11_0 : decode method_2_code 0 = .ok (.iload_n 0, 1) := by decide +kernel
theorem d11_1 : decode method_2_code 1 = .ok (.ifCond .ne 7, 3) := by decide +kernel
theorem d11_8 : decode method_2_code 8 = .ok (.iload_n 0, 1) := by decide +kernel
theorem d11_9 : decode method_2_code 9 = .ok (.iconst 1, 1) := by decide +kernel
theorem d11_10 : decode method_2_code 10 = .ok (.if_icmp .ne 11, 3) := by decide +kernel
theorem d11_13 : decode method_2_code 13 = .ok (.iconst 1, 1) := by decide +kernel
theorem d11_14 : decode method_2_code 14 = .ok (.newarray .int, 2) := by decide +kernel
theorem d11_16 : decode method_2_code 16 = .ok (.dup, 1) := by decide +kernel
theorem d11_17 : decode method_2_code 17 = .ok (.iconst 0, 1) := by decide +kernel
theorem d11_18 : decode method_2_code 18 = .ok (.iload_n 1, 1) := by decide +kernel
theorem d11_19 : decode method_2_code 19 = .ok (.iastore, 1) := by decide +kernel
theorem d11_20 : decode method_2_code 20 = .ok (.areturn, 1) := by decide +kernel
theorem ef_11 (m : MethodId) (p1 : Int32) (p2 : Int32) (p3 : Int32) (p4 : Int32) : entryFrame m #[(.int (1 : Int32)), (.int p1), (.int p2), (.int p3), (.int p4)] 5 = (mkF m 0 #[.val (.int (1 : Int32)), .val (.int p1), .val (.int p2), .val (.int p3), .val (.int p4)] []) := by first | (simp [entryFrame, mkF, argsToLocals, Value.category]; done) | rfl
def Q_11 (Z : State) (p1 : Int32) (p2 : Int32) (p3 : Int32) (p4 : Int32) (h0 : Heap) (n0 : Nat) (v : Option Value) (h : Heap) (L : List Loc) : Prop := ∃ b : Addr, v = some (.ref b) ∧ Fr n0 L ∧ Keep h0 h [] ∧ h0.size ≤ b ∧ Exa Z h b "[I" ∧ Ary Z h b .int 1 (lst [(.int p1)])
set_option maxRecDepth 65536 in
set_option maxHeartbeats 40000000 in
theorem rm_11 (l : Launch) (Z : State) (a0 : Array Value) (hw : ∀ d ∈ tables_1, d.before a0 Z = true) (ws : List Jvm.Cond) (p1 : Int32) (p2 : Int32) (p3 : Int32) (p4 : Int32) (h0 : Heap) (n0 : Nat) (Z0 : n0 ≤ h0.size)  :
    MetFree l (⟨"com/example/regular_role_reasoner/regularrolereasoner/alcoif/ElementsTotalPinLaw", "build", "(IIIII)[I"⟩ : MethodName) (head1 (Jvm.Cond.code (⟨"com/example/regular_role_reasoner/regularrolereasoner/alcoif/ElementsTotalPinLaw", "build", "(IIIII)[I"⟩ : MethodName) method_2_code 5 (some (.array .int)) :: ws) ({ frames := 0, cells := 1, slots := 1, locals := 0 } : Room)) (fun aa U => aa = #[(.int (1 : Int32)), (.int p1), (.int p2), (.int p3), (.int p4)] ∧ Z.Warmed39 U.vm ∧ U.heap = h0) (fun _ _ _ _ _ => True) (fun _ U o U' => ∃ v L, o = .returned v ∧ Q_11 Z p1 p2 p3 p4 h0 n0 v U'.heap L ∧ FrameEnd U o U' L ({ frames := 0, cells := 1, slots := 1, locals := 0 } : Room).cells ({ frames := 0, cells := 1, slots := 1, locals := 0 } : Room).slots) := by
  refine MetFree.of_bodySF (plainFor_of_name pn_0) hisR ?_
  intro p e s m args below meth c s₁ Bd hml0 hP hK
  obtain ⟨rfl, hZ, hh⟩ := hP
  have hx := Bd.exec
  have hby := Bd.bytes
  have hml : c.maxLocals = 5 := hml0
  have hown : s.vm.findClass "com/example/regular_role_reasoner/regularrolereasoner/alcoif/ElementsTotalPinLaw" = some m.cls := findClass_of_methodNamed Bd.named
  have hnm := (name_of_methodNamed Bd.named Bd.method).1
  have X0 : Stand p l e ({ frames := 0, cells := 1, slots := 1, locals := 0 } : Room) s m #[(.int (1 : Int32)), (.int p1), (.int p2), (.int p3), (.int p4)] below meth c s₁ [] 0 0 := Stand.of_body Bd
  have e0 : s₁.heap = h0 := by rw [← hh, Bd.state]; rfl
  have N0 := Fr.nil n0
  have K0 := Keep.refl h0 []
  show Go p e below s (Q_11 Z p1 p2 p3 p4 h0 n0) 1 1 s₁ (entryFrame m #[(.int (1 : Int32)), (.int p1), (.int p2), (.int p3), (.int p4)] 5)
  refine Go.of_eq (ef_11 m p1 p2 p3 p4) ?_
  refine Go.st (mkF m 1 #[.val (.int (1 : Int32)), .val (.int p1), .val (.int p2), .val (.int p3), .val (.int p4)] [(.int (1 : Int32))]) (fun _ k => XS.iloadN X0.here hx rfl (hb hby d11_0) rfl k) ?_
  refine Go.st (mkF m 8 #[.val (.int (1 : Int32)), .val (.int p1), .val (.int p2), .val (.int p3), .val (.int p4)] []) (fun _ k => XS.ifYes X0.here hx rfl (pc0 := 1) (pc' := 8) rfl (hb hby d11_1) rfl ((if0 _ _).trans (feq (by decide : ¬ ((1 : Int32) = (0 : Int32)))).2) (by decide) (by decide) k) ?_
  refine Go.st (mkF m 9 #[.val (.int (1 : Int32)), .val (.int p1), .val (.int p2), .val (.int p3), .val (.int p4)] [(.int (1 : Int32))]) (fun _ k => XS.iloadN X0.here hx rfl (hb hby d11_8) rfl k) ?_
  refine Go.st (mkF m 10 #[.val (.int (1 : Int32)), .val (.int p1), .val (.int p2), .val (.int p3), .val (.int p4)] [(.int (1 : Int32)), (.int (1 : Int32))]) (fun _ k => XS.iconst X0.here hx rfl (hb hby d11_9) k) ?_
  refine Go.st (mkF m 13 #[.val (.int (1 : Int32)), .val (.int p1), .val (.int p2), .val (.int p3), .val (.int p4)] []) (fun _ k => XS.icmpNo X0.here hx rfl (hb hby d11_10) rfl (teq (by decide : (1 : Int32) = (1 : Int32))).2 k) ?_
  refine Go.st (mkF m 14 #[.val (.int (1 : Int32)), .val (.int p1), .val (.int p2), .val (.int p3), .val (.int p4)] [(.int (1 : Int32))]) (fun _ k => XS.iconst X0.here hx rfl (hb hby d11_13) k) ?_
  obtain ⟨T1, h1, k1, X1, e1, E1, A1, Y1, st1⟩ := newPE X0 hx hZ (hw _ (List.mem_of_getElem? (i := 6) rfl)) e0 (g := (mkF m 14 #[.val (.int (1 : Int32)), .val (.int p1), .val (.int p2), .val (.int p3), .val (.int p4)] [(.int (1 : Int32))])) rfl (hb hby d11_14) rfl (by decide) (cap := 1) (by decide) (by decide) (by decide) (by decide) (ad := "[I") rfl
  obtain ⟨b1, q1⟩ : ∃ z, z = h0.size := ⟨_, rfl⟩
  rw [← q1] at A1 st1 Y1
  have sz_b1 : h0.size ≤ b1 := by rw [q1]; exact K0.1
  have g_b1 : n0 ≤ b1 := Nat.le_trans Z0 sz_b1
  have K1 : Keep h0 h1 [] := K0.ext E1
  have V2 : Ary Z h1 b1 .int 1 (lst [(.int (0 : Int32))]) := Ary.newL A1 (by decide)
  refine Go.st (mkF m 16 #[.val (.int (1 : Int32)), .val (.int p1), .val (.int p2), .val (.int p3), .val (.int p4)] [(.ref b1)]) (fun _ k => st1 _ k) ?_
  refine Go.st (mkF m 17 #[.val (.int (1 : Int32)), .val (.int p1), .val (.int p2), .val (.int p3), .val (.int p4)] [(.ref b1), (.ref b1)]) (fun _ k => XS.dup X1.here hx rfl (hb hby d11_16) rfl rfl k) ?_
  refine Go.st (mkF m 18 #[.val (.int (1 : Int32)), .val (.int p1), .val (.int p2), .val (.int p3), .val (.int p4)] [(.int (0 : Int32)), (.ref b1), (.ref b1)]) (fun _ k => XS.iconst X1.here hx rfl (hb hby d11_17) k) ?_
  refine Go.st (mkF m 19 #[.val (.int (1 : Int32)), .val (.int p1), .val (.int p2), .val (.int p3), .val (.int p4)] [(.int p1), (.int (0 : Int32)), (.ref b1), (.ref b1)]) (fun _ k => XS.iloadN X1.here hx rfl (hb hby d11_18) rfl k) ?_
  obtain ⟨T3, h3, X3, e3, W3, st3⟩ := stAI X1 hx hZ e1 V2 (i := 0) (by decide) (by decide) (by decide) (g := (mkF m 19 #[.val (.int (1 : Int32)), .val (.int p1), .val (.int p2), .val (.int p3), .val (.int p4)] [(.int p1), (.int (0 : Int32)), (.ref b1), (.ref b1)])) rfl rfl (hb hby d11_19)
  have E4q : Exa Z h3 b1 "[I" := Y1.wr W3
  have V5 : Ary Z h3 b1 .int 1 (lst [(.int p1)]) := V2.sameL W3 (by simp)
  have K3 : Keep h0 h3 [] := K1.wr W3 (Or.inr sz_b1)
  have N3 := Fr.snoc X3 N0 g_b1
  refine Go.st (mkF m 20 #[.val (.int (1 : Int32)), .val (.int p1), .val (.int p2), .val (.int p3), .val (.int p4)] [(.ref b1)]) (fun _ k => st3 _ k) ?_
  exact Go.retR X3 hx Bd.notSynchronized rfl Bd.returns rfl (hb hby d11_20) (by rw [e3]; exact ⟨b1, rfl, N3, K3, sz_b1, E4q, V5⟩) (by decide) (by decide)
theorem d12_0 : decode method_2_code 0 = .ok (.iload_n 0, 1) := by decide +kernel
theorem d12_1 : decode method_2_code 1 = .ok (.ifCond .ne 7, 3) := by decide +kernel
theorem d12_8 : decode method_2_code 8 = .ok (.iload_n 0, 1) := by decide +kernel
theorem d12_9 : decode method_2_code 9 = .ok (.iconst 1, 1) := by decide +kernel
theorem d12_10 : decode method_2_code 10 = .ok (.if_icmp .ne 11, 3) := by decide +kernel
theorem d12_21 : decode method_2_code 21 = .ok (.iload_n 0, 1) := by decide +kernel
theorem d12_22 : decode method_2_code 22 = .ok (.iconst 2, 1) := by decide +kernel
theorem d12_23 : decode method_2_code 23 = .ok (.if_icmp .ne 15, 3) := by decide +kernel
theorem d12_26 : decode method_2_code 26 = .ok (.iconst 2, 1) := by decide +kernel
theorem d12_27 : decode method_2_code 27 = .ok (.newarray .int, 2) := by decide +kernel
theorem d12_29 : decode method_2_code 29 = .ok (.dup, 1) := by decide +kernel
theorem d12_30 : decode method_2_code 30 = .ok (.iconst 0, 1) := by decide +kernel
theorem d12_31 : decode method_2_code 31 = .ok (.iload_n 1, 1) := by decide +kernel
theorem d12_32 : decode method_2_code 32 = .ok (.iastore, 1) := by decide +kernel
theorem d12_33 : decode method_2_code 33 = .ok (.dup, 1) := by decide +kernel
theorem d12_34 : decode method_2_code 34 = .ok (.iconst 1, 1) := by decide +kernel
theorem d12_35 : decode method_2_code 35 = .ok (.iload_n 2, 1) := by decide +kernel
theorem d12_36 : decode method_2_code 36 = .ok (.iastore, 1) := by decide +kernel
theorem d12_37 : decode method_2_code 37 = .ok (.areturn, 1) := by decide +kernel
theorem ef_12 (m : MethodId) (p1 : Int32) (p2 : Int32) (p3 : Int32) (p4 : Int32) : entryFrame m #[(.int (2 : Int32)), (.int p1), (.int p2), (.int p3), (.int p4)] 5 = (mkF m 0 #[.val (.int (2 : Int32)), .val (.int p1), .val (.int p2), .val (.int p3), .val (.int p4)] []) := by first | (simp [entryFrame, mkF, argsToLocals, Value.category]; done) | rfl
def Q_12 (Z : State) (p1 : Int32) (p2 : Int32) (p3 : Int32) (p4 : Int32) (h0 : Heap) (n0 : Nat) (v : Option Value) (h : Heap) (L : List Loc) : Prop := ∃ b : Addr, v = some (.ref b) ∧ Fr n0 L ∧ Keep h0 h [] ∧ h0.size ≤ b ∧ Exa Z h b "[I" ∧ Ary Z h b .int 2 (lst [(.int p1), (.int p2)])
set_option maxRecDepth 65536 in
set_option maxHeartbeats 40000000 in
theorem rm_12 (l : Launch) (Z : State) (a0 : Array Value) (hw : ∀ d ∈ tables_1, d.before a0 Z = true) (ws : List Jvm.Cond) (p1 : Int32) (p2 : Int32) (p3 : Int32) (p4 : Int32) (h0 : Heap) (n0 : Nat) (Z0 : n0 ≤ h0.size)  :
    MetFree l (⟨"com/example/regular_role_reasoner/regularrolereasoner/alcoif/ElementsTotalPinLaw", "build", "(IIIII)[I"⟩ : MethodName) (head1 (Jvm.Cond.code (⟨"com/example/regular_role_reasoner/regularrolereasoner/alcoif/ElementsTotalPinLaw", "build", "(IIIII)[I"⟩ : MethodName) method_2_code 5 (some (.array .int)) :: ws) ({ frames := 0, cells := 1, slots := 2, locals := 0 } : Room)) (fun aa U => aa = #[(.int (2 : Int32)), (.int p1), (.int p2), (.int p3), (.int p4)] ∧ Z.Warmed39 U.vm ∧ U.heap = h0) (fun _ _ _ _ _ => True) (fun _ U o U' => ∃ v L, o = .returned v ∧ Q_12 Z p1 p2 p3 p4 h0 n0 v U'.heap L ∧ FrameEnd U o U' L ({ frames := 0, cells := 1, slots := 2, locals := 0 } : Room).cells ({ frames := 0, cells := 1, slots := 2, locals := 0 } : Room).slots) := by
  refine MetFree.of_bodySF (plainFor_of_name pn_0) hisR ?_
  intro p e s m args below meth c s₁ Bd hml0 hP hK
  obtain ⟨rfl, hZ, hh⟩ := hP
  have hx := Bd.exec
  have hby := Bd.bytes
  have hml : c.maxLocals = 5 := hml0
  have hown : s.vm.findClass "com/example/regular_role_reasoner/regularrolereasoner/alcoif/ElementsTotalPinLaw" = some m.cls := findClass_of_methodNamed Bd.named
  have hnm := (name_of_methodNamed Bd.named Bd.method).1
  have X0 : Stand p l e ({ frames := 0, cells := 1, slots := 2, locals := 0 } : Room) s m #[(.int (2 : Int32)), (.int p1), (.int p2), (.int p3), (.int p4)] below meth c s₁ [] 0 0 := Stand.of_body Bd
  have e0 : s₁.heap = h0 := by rw [← hh, Bd.state]; rfl
  have N0 := Fr.nil n0
  have K0 := Keep.refl h0 []
  show Go p e below s (Q_12 Z p1 p2 p3 p4 h0 n0) 1 2 s₁ (entryFrame m #[(.int (2 : Int32)), (.int p1), (.int p2), (.int p3), (.int p4)] 5)
  refine Go.of_eq (ef_12 m p1 p2 p3 p4) ?_
  refine Go.st (mkF m 1 #[.val (.int (2 : Int32)), .val (.int p1), .val (.int p2), .val (.int p3), .val (.int p4)] [(.int (2 : Int32))]) (fun _ k => XS.iloadN X0.here hx rfl (hb hby d12_0) rfl k) ?_
  refine Go.st (mkF m 8 #[.val (.int (2 : Int32)), .val (.int p1), .val (.int p2), .val (.int p3), .val (.int p4)] []) (fun _ k => XS.ifYes X0.here hx rfl (pc0 := 1) (pc' := 8) rfl (hb hby d12_1) rfl ((if0 _ _).trans (feq (by decide : ¬ ((2 : Int32) = (0 : Int32)))).2) (by decide) (by decide) k) ?_
  refine Go.st (mkF m 9 #[.val (.int (2 : Int32)), .val (.int p1), .val (.int p2), .val (.int p3), .val (.int p4)] [(.int (2 : Int32))]) (fun _ k => XS.iloadN X0.here hx rfl (hb hby d12_8) rfl k) ?_
  refine Go.st (mkF m 10 #[.val (.int (2 : Int32)), .val (.int p1), .val (.int p2), .val (.int p3), .val (.int p4)] [(.int (1 : Int32)), (.int (2 : Int32))]) (fun _ k => XS.iconst X0.here hx rfl (hb hby d12_9) k) ?_
  refine Go.st (mkF m 21 #[.val (.int (2 : Int32)), .val (.int p1), .val (.int p2), .val (.int p3), .val (.int p4)] []) (fun _ k => XS.icmpYes X0.here hx rfl (pc0 := 10) (pc' := 21) rfl (hb hby d12_10) rfl (feq (by decide : ¬ ((2 : Int32) = (1 : Int32)))).2 (by decide) (by decide) k) ?_
  refine Go.st (mkF m 22 #[.val (.int (2 : Int32)), .val (.int p1), .val (.int p2), .val (.int p3), .val (.int p4)] [(.int (2 : Int32))]) (fun _ k => XS.iloadN X0.here hx rfl (hb hby d12_21) rfl k) ?_
  refine Go.st (mkF m 23 #[.val (.int (2 : Int32)), .val (.int p1), .val (.int p2), .val (.int p3), .val (.int p4)] [(.int (2 : Int32)), (.int (2 : Int32))]) (fun _ k => XS.iconst X0.here hx rfl (hb hby d12_22) k) ?_
  refine Go.st (mkF m 26 #[.val (.int (2 : Int32)), .val (.int p1), .val (.int p2), .val (.int p3), .val (.int p4)] []) (fun _ k => XS.icmpNo X0.here hx rfl (hb hby d12_23) rfl (teq (by decide : (2 : Int32) = (2 : Int32))).2 k) ?_
  refine Go.st (mkF m 27 #[.val (.int (2 : Int32)), .val (.int p1), .val (.int p2), .val (.int p3), .val (.int p4)] [(.int (2 : Int32))]) (fun _ k => XS.iconst X0.here hx rfl (hb hby d12_26) k) ?_
  obtain ⟨T1, h1, k1, X1, e1, E1, A1, Y1, st1⟩ := newPE X0 hx hZ (hw _ (List.mem_of_getElem? (i := 6) rfl)) e0 (g := (mkF m 27 #[.val (.int (2 : Int32)), .val (.int p1), .val (.int p2), .val (.int p3), .val (.int p4)] [(.int (2 : Int32))])) rfl (hb hby d12_27) rfl (by decide) (cap := 2) (by decide) (by decide) (by decide) (by decide) (ad := "[I") rfl
  obtain ⟨b1, q1⟩ : ∃ z, z = h0.size := ⟨_, rfl⟩
  rw [← q1] at A1 st1 Y1
  have sz_b1 : h0.size ≤ b1 := by rw [q1]; exact K0.1
  have g_b1 : n0 ≤ b1 := Nat.le_trans Z0 sz_b1
  have K1 : Keep h0 h1 [] := K0.ext E1
  have V2 : Ary Z h1 b1 .int 2 (lst [(.int (0 : Int32)), (.int (0 : Int32))]) := Ary.newL A1 (by decide)
  refine Go.st (mkF m 29 #[.val (.int (2 : Int32)), .val (.int p1), .val (.int p2), .val (.int p3), .val (.int p4)] [(.ref b1)]) (fun _ k => st1 _ k) ?_
  refine Go.st (mkF m 30 #[.val (.int (2 : Int32)), .val (.int p1), .val (.int p2), .val (.int p3), .val (.int p4)] [(.ref b1), (.ref b1)]) (fun _ k => XS.dup X1.here hx rfl (hb hby d12_29) rfl rfl k) ?_
  refine Go.st (mkF m 31 #[.val (.int (2 : Int32)), .val (.int p1), .val (.int p2), .val (.int p3), .val (.int p4)] [(.int (0 : Int32)), (.ref b1), (.ref b1)]) (fun _ k => XS.iconst X1.here hx rfl (hb hby d12_30) k) ?_
  refine Go.st (mkF m 32 #[.val (.int (2 : Int32)), .val (.int p1), .val (.int p2), .val (.int p3), .val (.int p4)] [(.int p1), (.int (0 : Int32)), (.ref b1), (.ref b1)]) (fun _ k => XS.iloadN X1.here hx rfl (hb hby d12_31) rfl k) ?_
  obtain ⟨T3, h3, X3, e3, W3, st3⟩ := stAI X1 hx hZ e1 V2 (i := 0) (by decide) (by decide) (by decide) (g := (mkF m 32 #[.val (.int (2 : Int32)), .val (.int p1), .val (.int p2), .val (.int p3), .val (.int p4)] [(.int p1), (.int (0 : Int32)), (.ref b1), (.ref b1)])) rfl rfl (hb hby d12_32)
  have E4q : Exa Z h3 b1 "[I" := Y1.wr W3
  have V5 : Ary Z h3 b1 .int 2 (lst [(.int p1), (.int (0 : Int32))]) := V2.sameL W3 (by simp)
  have K3 : Keep h0 h3 [] := K1.wr W3 (Or.inr sz_b1)
  have N3 := Fr.snoc X3 N0 g_b1
  refine Go.st (mkF m 33 #[.val (.int (2 : Int32)), .val (.int p1), .val (.int p2), .val (.int p3), .val (.int p4)] [(.ref b1)]) (fun _ k => st3 _ k) ?_
  refine Go.st (mkF m 34 #[.val (.int (2 : Int32)), .val (.int p1), .val (.int p2), .val (.int p3), .val (.int p4)] [(.ref b1), (.ref b1)]) (fun _ k => XS.dup X3.here hx rfl (hb hby d12_33) rfl rfl k) ?_
  refine Go.st (mkF m 35 #[.val (.int (2 : Int32)), .val (.int p1), .val (.int p2), .val (.int p3), .val (.int p4)] [(.int (1 : Int32)), (.ref b1), (.ref b1)]) (fun _ k => XS.iconst X3.here hx rfl (hb hby d12_34) k) ?_
  refine Go.st (mkF m 36 #[.val (.int (2 : Int32)), .val (.int p1), .val (.int p2), .val (.int p3), .val (.int p4)] [(.int p2), (.int (1 : Int32)), (.ref b1), (.ref b1)]) (fun _ k => XS.iloadN X3.here hx rfl (hb hby d12_35) rfl k) ?_
  obtain ⟨T6, h6, X6, e6, W6, st6⟩ := stAI X3 hx hZ e3 V5 (i := 1) (by decide) (by decide) (by decide) (g := (mkF m 36 #[.val (.int (2 : Int32)), .val (.int p1), .val (.int p2), .val (.int p3), .val (.int p4)] [(.int p2), (.int (1 : Int32)), (.ref b1), (.ref b1)])) rfl rfl (hb hby d12_36)
  have E7q : Exa Z h6 b1 "[I" := E4q.wr W6
  have V8 : Ary Z h6 b1 .int 2 (lst [(.int p1), (.int p2)]) := V5.sameL W6 (by simp)
  have K6 : Keep h0 h6 [] := K3.wr W6 (Or.inr sz_b1)
  have N6 := Fr.snoc X6 N3 g_b1
  refine Go.st (mkF m 37 #[.val (.int (2 : Int32)), .val (.int p1), .val (.int p2), .val (.int p3), .val (.int p4)] [(.ref b1)]) (fun _ k => st6 _ k) ?_
  exact Go.retR X6 hx Bd.notSynchronized rfl Bd.returns rfl (hb hby d12_37) (by rw [e6]; exact ⟨b1, rfl, N6, K6, sz_b1, E7q, V8⟩) (by decide) (by decide)
theorem d13_0 : decode method_2_code 0 = .ok (.iload_n 0, 1) := by decide +kernel
theorem d13_1 : decode method_2_code 1 = .ok (.ifCond .ne 7, 3) := by decide +kernel
theorem d13_8 : decode method_2_code 8 = .ok (.iload_n 0, 1) := by decide +kernel
theorem d13_9 : decode method_2_code 9 = .ok (.iconst 1, 1) := by decide +kernel
theorem d13_10 : decode method_2_code 10 = .ok (.if_icmp .ne 11, 3) := by decide +kernel
theorem d13_21 : decode method_2_code 21 = .ok (.iload_n 0, 1) := by decide +kernel
theorem d13_22 : decode method_2_code 22 = .ok (.iconst 2, 1) := by decide +kernel
theorem d13_23 : decode method_2_code 23 = .ok (.if_icmp .ne 15, 3) := by decide +kernel
theorem d13_38 : decode method_2_code 38 = .ok (.iload_n 0, 1) := by decide +kernel
theorem d13_39 : decode method_2_code 39 = .ok (.iconst 3, 1) := by decide +kernel
theorem d13_40 : decode method_2_code 40 = .ok (.if_icmp .ne 19, 3) := by decide +kernel
theorem d13_43 : decode method_2_code 43 = .ok (.iconst 3, 1) := by decide +kernel
theorem d13_44 : decode method_2_code 44 = .ok (.newarray .int, 2) := by decide +kernel
theorem d13_46 : decode method_2_code 46 = .ok (.dup, 1) := by decide +kernel
theorem d13_47 : decode method_2_code 47 = .ok (.iconst 0, 1) := by decide +kernel
theorem d13_48 : decode method_2_code 48 = .ok (.iload_n 1, 1) := by decide +kernel
theorem d13_49 : decode method_2_code 49 = .ok (.iastore, 1) := by decide +kernel
theorem d13_50 : decode method_2_code 50 = .ok (.dup, 1) := by decide +kernel
theorem d13_51 : decode method_2_code 51 = .ok (.iconst 1, 1) := by decide +kernel
theorem d13_52 : decode method_2_code 52 = .ok (.iload_n 2, 1) := by decide +kernel
theorem d13_53 : decode method_2_code 53 = .ok (.iastore, 1) := by decide +kernel
theorem d13_54 : decode method_2_code 54 = .ok (.dup, 1) := by decide +kernel
theorem d13_55 : decode method_2_code 55 = .ok (.iconst 2, 1) := by decide +kernel
theorem d13_56 : decode method_2_code 56 = .ok (.iload_n 3, 1) := by decide +kernel
theorem d13_57 : decode method_2_code 57 = .ok (.iastore, 1) := by decide +kernel
theorem d13_58 : decode method_2_code 58 = .ok (.areturn, 1) := by decide +kernel
theorem ef_13 (m : MethodId) (p1 : Int32) (p2 : Int32) (p3 : Int32) (p4 : Int32) : entryFrame m #[(.int (3 : Int32)), (.int p1), (.int p2), (.int p3), (.int p4)] 5 = (mkF m 0 #[.val (.int (3 : Int32)), .val (.int p1), .val (.int p2), .val (.int p3), .val (.int p4)] []) := by first | (simp [entryFrame, mkF, argsToLocals, Value.category]; done) | rfl
def Q_13 (Z : State) (p1 : Int32) (p2 : Int32) (p3 : Int32) (p4 : Int32) (h0 : Heap) (n0 : Nat) (v : Option Value) (h : Heap) (L : List Loc) : Prop := ∃ b : Addr, v = some (.ref b) ∧ Fr n0 L ∧ Keep h0 h [] ∧ h0.size ≤ b ∧ Exa Z h b "[I" ∧ Ary Z h b .int 3 (lst [(.int p1), (.int p2), (.int p3)])
set_option maxRecDepth 65536 in
set_option maxHeartbeats 40000000 in
theorem rm_13 (l : Launch) (Z : State) (a0 : Array Value) (hw : ∀ d ∈ tables_1, d.before a0 Z = true) (ws : List Jvm.Cond) (p1 : Int32) (p2 : Int32) (p3 : Int32) (p4 : Int32) (h0 : Heap) (n0 : Nat) (Z0 : n0 ≤ h0.size)  :
    MetFree l (⟨"com/example/regular_role_reasoner/regularrolereasoner/alcoif/ElementsTotalPinLaw", "build", "(IIIII)[I"⟩ : MethodName) (head1 (Jvm.Cond.code (⟨"com/example/regular_role_reasoner/regularrolereasoner/alcoif/ElementsTotalPinLaw", "build", "(IIIII)[I"⟩ : MethodName) method_2_code 5 (some (.array .int)) :: ws) ({ frames := 0, cells := 1, slots := 3, locals := 0 } : Room)) (fun aa U => aa = #[(.int (3 : Int32)), (.int p1), (.int p2), (.int p3), (.int p4)] ∧ Z.Warmed39 U.vm ∧ U.heap = h0) (fun _ _ _ _ _ => True) (fun _ U o U' => ∃ v L, o = .returned v ∧ Q_13 Z p1 p2 p3 p4 h0 n0 v U'.heap L ∧ FrameEnd U o U' L ({ frames := 0, cells := 1, slots := 3, locals := 0 } : Room).cells ({ frames := 0, cells := 1, slots := 3, locals := 0 } : Room).slots) := by
  refine MetFree.of_bodySF (plainFor_of_name pn_0) hisR ?_
  intro p e s m args below meth c s₁ Bd hml0 hP hK
  obtain ⟨rfl, hZ, hh⟩ := hP
  have hx := Bd.exec
  have hby := Bd.bytes
  have hml : c.maxLocals = 5 := hml0
  have hown : s.vm.findClass "com/example/regular_role_reasoner/regularrolereasoner/alcoif/ElementsTotalPinLaw" = some m.cls := findClass_of_methodNamed Bd.named
  have hnm := (name_of_methodNamed Bd.named Bd.method).1
  have X0 : Stand p l e ({ frames := 0, cells := 1, slots := 3, locals := 0 } : Room) s m #[(.int (3 : Int32)), (.int p1), (.int p2), (.int p3), (.int p4)] below meth c s₁ [] 0 0 := Stand.of_body Bd
  have e0 : s₁.heap = h0 := by rw [← hh, Bd.state]; rfl
  have N0 := Fr.nil n0
  have K0 := Keep.refl h0 []
  show Go p e below s (Q_13 Z p1 p2 p3 p4 h0 n0) 1 3 s₁ (entryFrame m #[(.int (3 : Int32)), (.int p1), (.int p2), (.int p3), (.int p4)] 5)
  refine Go.of_eq (ef_13 m p1 p2 p3 p4) ?_
  refine Go.st (mkF m 1 #[.val (.int (3 : Int32)), .val (.int p1), .val (.int p2), .val (.int p3), .val (.int p4)] [(.int (3 : Int32))]) (fun _ k => XS.iloadN X0.here hx rfl (hb hby d13_0) rfl k) ?_
  refine Go.st (mkF m 8 #[.val (.int (3 : Int32)), .val (.int p1), .val (.int p2), .val (.int p3), .val (.int p4)] []) (fun _ k => XS.ifYes X0.here hx rfl (pc0 := 1) (pc' := 8) rfl (hb hby d13_1) rfl ((if0 _ _).trans (feq (by decide : ¬ ((3 : Int32) = (0 : Int32)))).2) (by decide) (by decide) k) ?_
  refine Go.st (mkF m 9 #[.val (.int (3 : Int32)), .val (.int p1), .val (.int p2), .val (.int p3), .val (.int p4)] [(.int (3 : Int32))]) (fun _ k => XS.iloadN X0.here hx rfl (hb hby d13_8) rfl k) ?_
  refine Go.st (mkF m 10 #[.val (.int (3 : Int32)), .val (.int p1), .val (.int p2), .val (.int p3), .val (.int p4)] [(.int (1 : Int32)), (.int (3 : Int32))]) (fun _ k => XS.iconst X0.here hx rfl (hb hby d13_9) k) ?_
  refine Go.st (mkF m 21 #[.val (.int (3 : Int32)), .val (.int p1), .val (.int p2), .val (.int p3), .val (.int p4)] []) (fun _ k => XS.icmpYes X0.here hx rfl (pc0 := 10) (pc' := 21) rfl (hb hby d13_10) rfl (feq (by decide : ¬ ((3 : Int32) = (1 : Int32)))).2 (by decide) (by decide) k) ?_
  refine Go.st (mkF m 22 #[.val (.int (3 : Int32)), .val (.int p1), .val (.int p2), .val (.int p3), .val (.int p4)] [(.int (3 : Int32))]) (fun _ k => XS.iloadN X0.here hx rfl (hb hby d13_21) rfl k) ?_
  refine Go.st (mkF m 23 #[.val (.int (3 : Int32)), .val (.int p1), .val (.int p2), .val (.int p3), .val (.int p4)] [(.int (2 : Int32)), (.int (3 : Int32))]) (fun _ k => XS.iconst X0.here hx rfl (hb hby d13_22) k) ?_
  refine Go.st (mkF m 38 #[.val (.int (3 : Int32)), .val (.int p1), .val (.int p2), .val (.int p3), .val (.int p4)] []) (fun _ k => XS.icmpYes X0.here hx rfl (pc0 := 23) (pc' := 38) rfl (hb hby d13_23) rfl (feq (by decide : ¬ ((3 : Int32) = (2 : Int32)))).2 (by decide) (by decide) k) ?_
  refine Go.st (mkF m 39 #[.val (.int (3 : Int32)), .val (.int p1), .val (.int p2), .val (.int p3), .val (.int p4)] [(.int (3 : Int32))]) (fun _ k => XS.iloadN X0.here hx rfl (hb hby d13_38) rfl k) ?_
  refine Go.st (mkF m 40 #[.val (.int (3 : Int32)), .val (.int p1), .val (.int p2), .val (.int p3), .val (.int p4)] [(.int (3 : Int32)), (.int (3 : Int32))]) (fun _ k => XS.iconst X0.here hx rfl (hb hby d13_39) k) ?_
  refine Go.st (mkF m 43 #[.val (.int (3 : Int32)), .val (.int p1), .val (.int p2), .val (.int p3), .val (.int p4)] []) (fun _ k => XS.icmpNo X0.here hx rfl (hb hby d13_40) rfl (teq (by decide : (3 : Int32) = (3 : Int32))).2 k) ?_
  refine Go.st (mkF m 44 #[.val (.int (3 : Int32)), .val (.int p1), .val (.int p2), .val (.int p3), .val (.int p4)] [(.int (3 : Int32))]) (fun _ k => XS.iconst X0.here hx rfl (hb hby d13_43) k) ?_
  obtain ⟨T1, h1, k1, X1, e1, E1, A1, Y1, st1⟩ := newPE X0 hx hZ (hw _ (List.mem_of_getElem? (i := 6) rfl)) e0 (g := (mkF m 44 #[.val (.int (3 : Int32)), .val (.int p1), .val (.int p2), .val (.int p3), .val (.int p4)] [(.int (3 : Int32))])) rfl (hb hby d13_44) rfl (by decide) (cap := 3) (by decide) (by decide) (by decide) (by decide) (ad := "[I") rfl
  obtain ⟨b1, q1⟩ : ∃ z, z = h0.size := ⟨_, rfl⟩
  rw [← q1] at A1 st1 Y1
  have sz_b1 : h0.size ≤ b1 := by rw [q1]; exact K0.1
  have g_b1 : n0 ≤ b1 := Nat.le_trans Z0 sz_b1
  have K1 : Keep h0 h1 [] := K0.ext E1
  have V2 : Ary Z h1 b1 .int 3 (lst [(.int (0 : Int32)), (.int (0 : Int32)), (.int (0 : Int32))]) := Ary.newL A1 (by decide)
  refine Go.st (mkF m 46 #[.val (.int (3 : Int32)), .val (.int p1), .val (.int p2), .val (.int p3), .val (.int p4)] [(.ref b1)]) (fun _ k => st1 _ k) ?_
  refine Go.st (mkF m 47 #[.val (.int (3 : Int32)), .val (.int p1), .val (.int p2), .val (.int p3), .val (.int p4)] [(.ref b1), (.ref b1)]) (fun _ k => XS.dup X1.here hx rfl (hb hby d13_46) rfl rfl k) ?_
  refine Go.st (mkF m 48 #[.val (.int (3 : Int32)), .val (.int p1), .val (.int p2), .val (.int p3), .val (.int p4)] [(.int (0 : Int32)), (.ref b1), (.ref b1)]) (fun _ k => XS.iconst X1.here hx rfl (hb hby d13_47) k) ?_
  refine Go.st (mkF m 49 #[.val (.int (3 : Int32)), .val (.int p1), .val (.int p2), .val (.int p3), .val (.int p4)] [(.int p1), (.int (0 : Int32)), (.ref b1), (.ref b1)]) (fun _ k => XS.iloadN X1.here hx rfl (hb hby d13_48) rfl k) ?_
  obtain ⟨T3, h3, X3, e3, W3, st3⟩ := stAI X1 hx hZ e1 V2 (i := 0) (by decide) (by decide) (by decide) (g := (mkF m 49 #[.val (.int (3 : Int32)), .val (.int p1), .val (.int p2), .val (.int p3), .val (.int p4)] [(.int p1), (.int (0 : Int32)), (.ref b1), (.ref b1)])) rfl rfl (hb hby d13_49)
  have E4q : Exa Z h3 b1 "[I" := Y1.wr W3
  have V5 : Ary Z h3 b1 .int 3 (lst [(.int p1), (.int (0 : Int32)), (.int (0 : Int32))]) := V2.sameL W3 (by simp)
  have K3 : Keep h0 h3 [] := K1.wr W3 (Or.inr sz_b1)
  have N3 := Fr.snoc X3 N0 g_b1
  refine Go.st (mkF m 50 #[.val (.int (3 : Int32)), .val (.int p1), .val (.int p2), .val (.int p3), .val (.int p4)] [(.ref b1)]) (fun _ k => st3 _ k) ?_
  refine Go.st (mkF m 51 #[.val (.int (3 : Int32)), .val (.int p1), .val (.int p2), .val (.int p3), .val (.int p4)] [(.ref b1), (.ref b1)]) (fun _ k => XS.dup X3.here hx rfl (hb hby d13_50) rfl rfl k) ?_
  refine Go.st (mkF m 52 #[.val (.int (3 : Int32)), .val (.int p1), .val (.int p2), .val (.int p3), .val (.int p4)] [(.int (1 : Int32)), (.ref b1), (.ref b1)]) (fun _ k => XS.iconst X3.here hx rfl (hb hby d13_51) k) ?_
  refine Go.st (mkF m 53 #[.val (.int (3 : Int32)), .val (.int p1), .val (.int p2), .val (.int p3), .val (.int p4)] [(.int p2), (.int (1 : Int32)), (.ref b1), (.ref b1)]) (fun _ k => XS.iloadN X3.here hx rfl (hb hby d13_52) rfl k) ?_
  obtain ⟨T6, h6, X6, e6, W6, st6⟩ := stAI X3 hx hZ e3 V5 (i := 1) (by decide) (by decide) (by decide) (g := (mkF m 53 #[.val (.int (3 : Int32)), .val (.int p1), .val (.int p2), .val (.int p3), .val (.int p4)] [(.int p2), (.int (1 : Int32)), (.ref b1), (.ref b1)])) rfl rfl (hb hby d13_53)
  have E7q : Exa Z h6 b1 "[I" := E4q.wr W6
  have V8 : Ary Z h6 b1 .int 3 (lst [(.int p1), (.int p2), (.int (0 : Int32))]) := V5.sameL W6 (by simp)
  have K6 : Keep h0 h6 [] := K3.wr W6 (Or.inr sz_b1)
  have N6 := Fr.snoc X6 N3 g_b1
  refine Go.st (mkF m 54 #[.val (.int (3 : Int32)), .val (.int p1), .val (.int p2), .val (.int p3), .val (.int p4)] [(.ref b1)]) (fun _ k => st6 _ k) ?_
  refine Go.st (mkF m 55 #[.val (.int (3 : Int32)), .val (.int p1), .val (.int p2), .val (.int p3), .val (.int p4)] [(.ref b1), (.ref b1)]) (fun _ k => XS.dup X6.here hx rfl (hb hby d13_54) rfl rfl k) ?_
  refine Go.st (mkF m 56 #[.val (.int (3 : Int32)), .val (.int p1), .val (.int p2), .val (.int p3), .val (.int p4)] [(.int (2 : Int32)), (.ref b1), (.ref b1)]) (fun _ k => XS.iconst X6.here hx rfl (hb hby d13_55) k) ?_
  refine Go.st (mkF m 57 #[.val (.int (3 : Int32)), .val (.int p1), .val (.int p2), .val (.int p3), .val (.int p4)] [(.int p3), (.int (2 : Int32)), (.ref b1), (.ref b1)]) (fun _ k => XS.iloadN X6.here hx rfl (hb hby d13_56) rfl k) ?_
  obtain ⟨T9, h9, X9, e9, W9, st9⟩ := stAI X6 hx hZ e6 V8 (i := 2) (by decide) (by decide) (by decide) (g := (mkF m 57 #[.val (.int (3 : Int32)), .val (.int p1), .val (.int p2), .val (.int p3), .val (.int p4)] [(.int p3), (.int (2 : Int32)), (.ref b1), (.ref b1)])) rfl rfl (hb hby d13_57)
  have E10q : Exa Z h9 b1 "[I" := E7q.wr W9
  have V11 : Ary Z h9 b1 .int 3 (lst [(.int p1), (.int p2), (.int p3)]) := V8.sameL W9 (by simp)
  have K9 : Keep h0 h9 [] := K6.wr W9 (Or.inr sz_b1)
  have N9 := Fr.snoc X9 N6 g_b1
  refine Go.st (mkF m 58 #[.val (.int (3 : Int32)), .val (.int p1), .val (.int p2), .val (.int p3), .val (.int p4)] [(.ref b1)]) (fun _ k => st9 _ k) ?_
  exact Go.retR X9 hx Bd.notSynchronized rfl Bd.returns rfl (hb hby d13_58) (by rw [e9]; exact ⟨b1, rfl, N9, K9, sz_b1, E10q, V11⟩) (by decide) (by decide)
theorem d14_0 : decode method_2_code 0 = .ok (.iload_n 0, 1) := by decide +kernel
theorem d14_1 : decode method_2_code 1 = .ok (.ifCond .ne 7, 3) := by decide +kernel
theorem d14_8 : decode method_2_code 8 = .ok (.iload_n 0, 1) := by decide +kernel
theorem d14_9 : decode method_2_code 9 = .ok (.iconst 1, 1) := by decide +kernel
theorem d14_10 : decode method_2_code 10 = .ok (.if_icmp .ne 11, 3) := by decide +kernel
theorem d14_21 : decode method_2_code 21 = .ok (.iload_n 0, 1) := by decide +kernel
theorem d14_22 : decode method_2_code 22 = .ok (.iconst 2, 1) := by decide +kernel
theorem d14_23 : decode method_2_code 23 = .ok (.if_icmp .ne 15, 3) := by decide +kernel
theorem d14_38 : decode method_2_code 38 = .ok (.iload_n 0, 1) := by decide +kernel
theorem d14_39 : decode method_2_code 39 = .ok (.iconst 3, 1) := by decide +kernel
theorem d14_40 : decode method_2_code 40 = .ok (.if_icmp .ne 19, 3) := by decide +kernel
theorem d14_59 : decode method_2_code 59 = .ok (.iconst 4, 1) := by decide +kernel
theorem d14_60 : decode method_2_code 60 = .ok (.newarray .int, 2) := by decide +kernel
theorem d14_62 : decode method_2_code 62 = .ok (.dup, 1) := by decide +kernel
theorem d14_63 : decode method_2_code 63 = .ok (.iconst 0, 1) := by decide +kernel
theorem d14_64 : decode method_2_code 64 = .ok (.iload_n 1, 1) := by decide +kernel
theorem d14_65 : decode method_2_code 65 = .ok (.iastore, 1) := by decide +kernel
theorem d14_66 : decode method_2_code 66 = .ok (.dup, 1) := by decide +kernel
theorem d14_67 : decode method_2_code 67 = .ok (.iconst 1, 1) := by decide +kernel
theorem d14_68 : decode method_2_code 68 = .ok (.iload_n 2, 1) := by decide +kernel
theorem d14_69 : decode method_2_code 69 = .ok (.iastore, 1) := by decide +kernel
theorem d14_70 : decode method_2_code 70 = .ok (.dup, 1) := by decide +kernel
theorem d14_71 : decode method_2_code 71 = .ok (.iconst 2, 1) := by decide +kernel
theorem d14_72 : decode method_2_code 72 = .ok (.iload_n 3, 1) := by decide +kernel
theorem d14_73 : decode method_2_code 73 = .ok (.iastore, 1) := by decide +kernel
theorem d14_74 : decode method_2_code 74 = .ok (.dup, 1) := by decide +kernel
theorem d14_75 : decode method_2_code 75 = .ok (.iconst 3, 1) := by decide +kernel
theorem d14_76 : decode method_2_code 76 = .ok (.iload 4, 2) := by decide +kernel
theorem d14_78 : decode method_2_code 78 = .ok (.iastore, 1) := by decide +kernel
theorem d14_79 : decode method_2_code 79 = .ok (.areturn, 1) := by decide +kernel
theorem ef_14 (m : MethodId) (p1 : Int32) (p2 : Int32) (p3 : Int32) (p4 : Int32) : entryFrame m #[(.int (4 : Int32)), (.int p1), (.int p2), (.int p3), (.int p4)] 5 = (mkF m 0 #[.val (.int (4 : Int32)), .val (.int p1), .val (.int p2), .val (.int p3), .val (.int p4)] []) := by first | (simp [entryFrame, mkF, argsToLocals, Value.category]; done) | rfl
def Q_14 (Z : State) (p1 : Int32) (p2 : Int32) (p3 : Int32) (p4 : Int32) (h0 : Heap) (n0 : Nat) (v : Option Value) (h : Heap) (L : List Loc) : Prop := ∃ b : Addr, v = some (.ref b) ∧ Fr n0 L ∧ Keep h0 h [] ∧ h0.size ≤ b ∧ Exa Z h b "[I" ∧ Ary Z h b .int 4 (lst [(.int p1), (.int p2), (.int p3), (.int p4)])
set_option maxRecDepth 65536 in
set_option maxHeartbeats 40000000 in
theorem rm_14 (l : Launch) (Z : State) (a0 : Array Value) (hw : ∀ d ∈ tables_1, d.before a0 Z = true) (ws : List Jvm.Cond) (p1 : Int32) (p2 : Int32) (p3 : Int32) (p4 : Int32) (h0 : Heap) (n0 : Nat) (Z0 : n0 ≤ h0.size)  :
    MetFree l (⟨"com/example/regular_role_reasoner/regularrolereasoner/alcoif/ElementsTotalPinLaw", "build", "(IIIII)[I"⟩ : MethodName) (head1 (Jvm.Cond.code (⟨"com/example/regular_role_reasoner/regularrolereasoner/alcoif/ElementsTotalPinLaw", "build", "(IIIII)[I"⟩ : MethodName) method_2_code 5 (some (.array .int)) :: ws) ({ frames := 0, cells := 1, slots := 4, locals := 0 } : Room)) (fun aa U => aa = #[(.int (4 : Int32)), (.int p1), (.int p2), (.int p3), (.int p4)] ∧ Z.Warmed39 U.vm ∧ U.heap = h0) (fun _ _ _ _ _ => True) (fun _ U o U' => ∃ v L, o = .returned v ∧ Q_14 Z p1 p2 p3 p4 h0 n0 v U'.heap L ∧ FrameEnd U o U' L ({ frames := 0, cells := 1, slots := 4, locals := 0 } : Room).cells ({ frames := 0, cells := 1, slots := 4, locals := 0 } : Room).slots) := by
  refine MetFree.of_bodySF (plainFor_of_name pn_0) hisR ?_
  intro p e s m args below meth c s₁ Bd hml0 hP hK
  obtain ⟨rfl, hZ, hh⟩ := hP
  have hx := Bd.exec
  have hby := Bd.bytes
  have hml : c.maxLocals = 5 := hml0
  have hown : s.vm.findClass "com/example/regular_role_reasoner/regularrolereasoner/alcoif/ElementsTotalPinLaw" = some m.cls := findClass_of_methodNamed Bd.named
  have hnm := (name_of_methodNamed Bd.named Bd.method).1
  have X0 : Stand p l e ({ frames := 0, cells := 1, slots := 4, locals := 0 } : Room) s m #[(.int (4 : Int32)), (.int p1), (.int p2), (.int p3), (.int p4)] below meth c s₁ [] 0 0 := Stand.of_body Bd
  have e0 : s₁.heap = h0 := by rw [← hh, Bd.state]; rfl
  have N0 := Fr.nil n0
  have K0 := Keep.refl h0 []
  show Go p e below s (Q_14 Z p1 p2 p3 p4 h0 n0) 1 4 s₁ (entryFrame m #[(.int (4 : Int32)), (.int p1), (.int p2), (.int p3), (.int p4)] 5)
  refine Go.of_eq (ef_14 m p1 p2 p3 p4) ?_
  refine Go.st (mkF m 1 #[.val (.int (4 : Int32)), .val (.int p1), .val (.int p2), .val (.int p3), .val (.int p4)] [(.int (4 : Int32))]) (fun _ k => XS.iloadN X0.here hx rfl (hb hby d14_0) rfl k) ?_
  refine Go.st (mkF m 8 #[.val (.int (4 : Int32)), .val (.int p1), .val (.int p2), .val (.int p3), .val (.int p4)] []) (fun _ k => XS.ifYes X0.here hx rfl (pc0 := 1) (pc' := 8) rfl (hb hby d14_1) rfl ((if0 _ _).trans (feq (by decide : ¬ ((4 : Int32) = (0 : Int32)))).2) (by decide) (by decide) k) ?_
  refine Go.st (mkF m 9 #[.val (.int (4 : Int32)), .val (.int p1), .val (.int p2), .val (.int p3), .val (.int p4)] [(.int (4 : Int32))]) (fun _ k => XS.iloadN X0.here hx rfl (hb hby d14_8) rfl k) ?_
  refine Go.st (mkF m 10 #[.val (.int (4 : Int32)), .val (.int p1), .val (.int p2), .val (.int p3), .val (.int p4)] [(.int (1 : Int32)), (.int (4 : Int32))]) (fun _ k => XS.iconst X0.here hx rfl (hb hby d14_9) k) ?_
  refine Go.st (mkF m 21 #[.val (.int (4 : Int32)), .val (.int p1), .val (.int p2), .val (.int p3), .val (.int p4)] []) (fun _ k => XS.icmpYes X0.here hx rfl (pc0 := 10) (pc' := 21) rfl (hb hby d14_10) rfl (feq (by decide : ¬ ((4 : Int32) = (1 : Int32)))).2 (by decide) (by decide) k) ?_
  refine Go.st (mkF m 22 #[.val (.int (4 : Int32)), .val (.int p1), .val (.int p2), .val (.int p3), .val (.int p4)] [(.int (4 : Int32))]) (fun _ k => XS.iloadN X0.here hx rfl (hb hby d14_21) rfl k) ?_
  refine Go.st (mkF m 23 #[.val (.int (4 : Int32)), .val (.int p1), .val (.int p2), .val (.int p3), .val (.int p4)] [(.int (2 : Int32)), (.int (4 : Int32))]) (fun _ k => XS.iconst X0.here hx rfl (hb hby d14_22) k) ?_
  refine Go.st (mkF m 38 #[.val (.int (4 : Int32)), .val (.int p1), .val (.int p2), .val (.int p3), .val (.int p4)] []) (fun _ k => XS.icmpYes X0.here hx rfl (pc0 := 23) (pc' := 38) rfl (hb hby d14_23) rfl (feq (by decide : ¬ ((4 : Int32) = (2 : Int32)))).2 (by decide) (by decide) k) ?_
  refine Go.st (mkF m 39 #[.val (.int (4 : Int32)), .val (.int p1), .val (.int p2), .val (.int p3), .val (.int p4)] [(.int (4 : Int32))]) (fun _ k => XS.iloadN X0.here hx rfl (hb hby d14_38) rfl k) ?_
  refine Go.st (mkF m 40 #[.val (.int (4 : Int32)), .val (.int p1), .val (.int p2), .val (.int p3), .val (.int p4)] [(.int (3 : Int32)), (.int (4 : Int32))]) (fun _ k => XS.iconst X0.here hx rfl (hb hby d14_39) k) ?_
  refine Go.st (mkF m 59 #[.val (.int (4 : Int32)), .val (.int p1), .val (.int p2), .val (.int p3), .val (.int p4)] []) (fun _ k => XS.icmpYes X0.here hx rfl (pc0 := 40) (pc' := 59) rfl (hb hby d14_40) rfl (feq (by decide : ¬ ((4 : Int32) = (3 : Int32)))).2 (by decide) (by decide) k) ?_
  refine Go.st (mkF m 60 #[.val (.int (4 : Int32)), .val (.int p1), .val (.int p2), .val (.int p3), .val (.int p4)] [(.int (4 : Int32))]) (fun _ k => XS.iconst X0.here hx rfl (hb hby d14_59) k) ?_
  obtain ⟨T1, h1, k1, X1, e1, E1, A1, Y1, st1⟩ := newPE X0 hx hZ (hw _ (List.mem_of_getElem? (i := 6) rfl)) e0 (g := (mkF m 60 #[.val (.int (4 : Int32)), .val (.int p1), .val (.int p2), .val (.int p3), .val (.int p4)] [(.int (4 : Int32))])) rfl (hb hby d14_60) rfl (by decide) (cap := 4) (by decide) (by decide) (by decide) (by decide) (ad := "[I") rfl
  obtain ⟨b1, q1⟩ : ∃ z, z = h0.size := ⟨_, rfl⟩
  rw [← q1] at A1 st1 Y1
  have sz_b1 : h0.size ≤ b1 := by rw [q1]; exact K0.1
  have g_b1 : n0 ≤ b1 := Nat.le_trans Z0 sz_b1
  have K1 : Keep h0 h1 [] := K0.ext E1
  have V2 : Ary Z h1 b1 .int 4 (lst [(.int (0 : Int32)), (.int (0 : Int32)), (.int (0 : Int32)), (.int (0 : Int32))]) := Ary.newL A1 (by decide)
  refine Go.st (mkF m 62 #[.val (.int (4 : Int32)), .val (.int p1), .val (.int p2), .val (.int p3), .val (.int p4)] [(.ref b1)]) (fun _ k => st1 _ k) ?_
  refine Go.st (mkF m 63 #[.val (.int (4 : Int32)), .val (.int p1), .val (.int p2), .val (.int p3), .val (.int p4)] [(.ref b1), (.ref b1)]) (fun _ k => XS.dup X1.here hx rfl (hb hby d14_62) rfl rfl k) ?_
  refine Go.st (mkF m 64 #[.val (.int (4 : Int32)), .val (.int p1), .val (.int p2), .val (.int p3), .val (.int p4)] [(.int (0 : Int32)), (.ref b1), (.ref b1)]) (fun _ k => XS.iconst X1.here hx rfl (hb hby d14_63) k) ?_
  refine Go.st (mkF m 65 #[.val (.int (4 : Int32)), .val (.int p1), .val (.int p2), .val (.int p3), .val (.int p4)] [(.int p1), (.int (0 : Int32)), (.ref b1), (.ref b1)]) (fun _ k => XS.iloadN X1.here hx rfl (hb hby d14_64) rfl k) ?_
  obtain ⟨T3, h3, X3, e3, W3, st3⟩ := stAI X1 hx hZ e1 V2 (i := 0) (by decide) (by decide) (by decide) (g := (mkF m 65 #[.val (.int (4 : Int32)), .val (.int p1), .val (.int p2), .val (.int p3), .val (.int p4)] [(.int p1), (.int (0 : Int32)), (.ref b1), (.ref b1)])) rfl rfl (hb hby d14_65)
  have E4q : Exa Z h3 b1 "[I" := Y1.wr W3
  have V5 : Ary Z h3 b1 .int 4 (lst [(.int p1), (.int (0 : Int32)), (.int (0 : Int32)), (.int (0 : Int32))]) := V2.sameL W3 (by simp)
  have K3 : Keep h0 h3 [] := K1.wr W3 (Or.inr sz_b1)
  have N3 := Fr.snoc X3 N0 g_b1
  refine Go.st (mkF m 66 #[.val (.int (4 : Int32)), .val (.int p1), .val (.int p2), .val (.int p3), .val (.int p4)] [(.ref b1)]) (fun _ k => st3 _ k) ?_
  refine Go.st (mkF m 67 #[.val (.int (4 : Int32)), .val (.int p1), .val (.int p2), .val (.int p3), .val (.int p4)] [(.ref b1), (.ref b1)]) (fun _ k => XS.dup X3.here hx rfl (hb hby d14_66) rfl rfl k) ?_
  refine Go.st (mkF m 68 #[.val (.int (4 : Int32)), .val (.int p1), .val (.int p2), .val (.int p3), .val (.int p4)] [(.int (1 : Int32)), (.ref b1), (.ref b1)]) (fun _ k => XS.iconst X3.here hx rfl (hb hby d14_67) k) ?_
  refine Go.st (mkF m 69 #[.val (.int (4 : Int32)), .val (.int p1), .val (.int p2), .val (.int p3), .val (.int p4)] [(.int p2), (.int (1 : Int32)), (.ref b1), (.ref b1)]) (fun _ k => XS.iloadN X3.here hx rfl (hb hby d14_68) rfl k) ?_
  obtain ⟨T6, h6, X6, e6, W6, st6⟩ := stAI X3 hx hZ e3 V5 (i := 1) (by decide) (by decide) (by decide) (g := (mkF m 69 #[.val (.int (4 : Int32)), .val (.int p1), .val (.int p2), .val (.int p3), .val (.int p4)] [(.int p2), (.int (1 : Int32)), (.ref b1), (.ref b1)])) rfl rfl (hb hby d14_69)
  have E7q : Exa Z h6 b1 "[I" := E4q.wr W6
  have V8 : Ary Z h6 b1 .int 4 (lst [(.int p1), (.int p2), (.int (0 : Int32)), (.int (0 : Int32))]) := V5.sameL W6 (by simp)
  have K6 : Keep h0 h6 [] := K3.wr W6 (Or.inr sz_b1)
  have N6 := Fr.snoc X6 N3 g_b1
  refine Go.st (mkF m 70 #[.val (.int (4 : Int32)), .val (.int p1), .val (.int p2), .val (.int p3), .val (.int p4)] [(.ref b1)]) (fun _ k => st6 _ k) ?_
  refine Go.st (mkF m 71 #[.val (.int (4 : Int32)), .val (.int p1), .val (.int p2), .val (.int p3), .val (.int p4)] [(.ref b1), (.ref b1)]) (fun _ k => XS.dup X6.here hx rfl (hb hby d14_70) rfl rfl k) ?_
  refine Go.st (mkF m 72 #[.val (.int (4 : Int32)), .val (.int p1), .val (.int p2), .val (.int p3), .val (.int p4)] [(.int (2 : Int32)), (.ref b1), (.ref b1)]) (fun _ k => XS.iconst X6.here hx rfl (hb hby d14_71) k) ?_
  refine Go.st (mkF m 73 #[.val (.int (4 : Int32)), .val (.int p1), .val (.int p2), .val (.int p3), .val (.int p4)] [(.int p3), (.int (2 : Int32)), (.ref b1), (.ref b1)]) (fun _ k => XS.iloadN X6.here hx rfl (hb hby d14_72) rfl k) ?_
  obtain ⟨T9, h9, X9, e9, W9, st9⟩ := stAI X6 hx hZ e6 V8 (i := 2) (by decide) (by decide) (by decide) (g := (mkF m 73 #[.val (.int (4 : Int32)), .val (.int p1), .val (.int p2), .val (.int p3), .val (.int p4)] [(.int p3), (.int (2 : Int32)), (.ref b1), (.ref b1)])) rfl rfl (hb hby d14_73)
  have E10q : Exa Z h9 b1 "[I" := E7q.wr W9
  have V11 : Ary Z h9 b1 .int 4 (lst [(.int p1), (.int p2), (.int p3), (.int (0 : Int32))]) := V8.sameL W9 (by simp)
  have K9 : Keep h0 h9 [] := K6.wr W9 (Or.inr sz_b1)
  have N9 := Fr.snoc X9 N6 g_b1
  refine Go.st (mkF m 74 #[.val (.int (4 : Int32)), .val (.int p1), .val (.int p2), .val (.int p3), .val (.int p4)] [(.ref b1)]) (fun _ k => st9 _ k) ?_
  refine Go.st (mkF m 75 #[.val (.int (4 : Int32)), .val (.int p1), .val (.int p2), .val (.int p3), .val (.int p4)] [(.ref b1), (.ref b1)]) (fun _ k => XS.dup X9.here hx rfl (hb hby d14_74) rfl rfl k) ?_
  refine Go.st (mkF m 76 #[.val (.int (4 : Int32)), .val (.int p1), .val (.int p2), .val (.int p3), .val (.int p4)] [(.int (3 : Int32)), (.ref b1), (.ref b1)]) (fun _ k => XS.iconst X9.here hx rfl (hb hby d14_75) k) ?_
  refine Go.st (mkF m 78 #[.val (.int (4 : Int32)), .val (.int p1), .val (.int p2), .val (.int p3), .val (.int p4)] [(.int p4), (.int (3 : Int32)), (.ref b1), (.ref b1)]) (fun _ k => XS.iload X9.here hx rfl (hb hby d14_76) rfl k) ?_
  obtain ⟨T12, h12, X12, e12, W12, st12⟩ := stAI X9 hx hZ e9 V11 (i := 3) (by decide) (by decide) (by decide) (g := (mkF m 78 #[.val (.int (4 : Int32)), .val (.int p1), .val (.int p2), .val (.int p3), .val (.int p4)] [(.int p4), (.int (3 : Int32)), (.ref b1), (.ref b1)])) rfl rfl (hb hby d14_78)
  have E13q : Exa Z h12 b1 "[I" := E10q.wr W12
  have V14 : Ary Z h12 b1 .int 4 (lst [(.int p1), (.int p2), (.int p3), (.int p4)]) := V11.sameL W12 (by simp)
  have K12 : Keep h0 h12 [] := K9.wr W12 (Or.inr sz_b1)
  have N12 := Fr.snoc X12 N9 g_b1
  refine Go.st (mkF m 79 #[.val (.int (4 : Int32)), .val (.int p1), .val (.int p2), .val (.int p3), .val (.int p4)] [(.ref b1)]) (fun _ k => st12 _ k) ?_
  exact Go.retR X12 hx Bd.notSynchronized rfl Bd.returns rfl (hb hby d14_79) (by rw [e12]; exact ⟨b1, rfl, N12, K12, sz_b1, E13q, V14⟩) (by decide) (by decide)
theorem pn_1 : plainName "com/example/regular_role_reasoner/regularrolereasoner/alcoif/Elements" = true := by first | (simp [plainName, overriddenIn]; done) | decide +kernel
theorem d20_0 : decode prog_1_method_1_code 0 = .ok (.aload_n 0, 1) := by decide +kernel
theorem d20_1 : decode prog_1_method_1_code 1 = .ok (.invokespecial 1, 3) := by decide +kernel
theorem d20_4 : decode prog_1_method_1_code 4 = .ok (.aload_n 0, 1) := by decide +kernel
theorem d20_5 : decode prog_1_method_1_code 5 = .ok (.aload_n 1, 1) := by decide +kernel
theorem d20_6 : decode prog_1_method_1_code 6 = .ok (.invokevirtual 7, 3) := by decide +kernel
theorem d20_9 : decode prog_1_method_1_code 9 = .ok (.checkcast 8, 3) := by decide +kernel
theorem d20_12 : decode prog_1_method_1_code 12 = .ok (.putfield 13, 3) := by decide +kernel
theorem d20_15 : decode prog_1_method_1_code 15 = .ok (.aload_n 0, 1) := by decide +kernel
theorem d20_16 : decode prog_1_method_1_code 16 = .ok (.aload_n 1, 1) := by decide +kernel
theorem d20_17 : decode prog_1_method_1_code 17 = .ok (.arraylength, 1) := by decide +kernel
theorem d20_18 : decode prog_1_method_1_code 18 = .ok (.newarray .int, 2) := by decide +kernel
theorem d20_20 : decode prog_1_method_1_code 20 = .ok (.putfield 18, 3) := by decide +kernel
theorem d20_23 : decode prog_1_method_1_code 23 = .ok (.iconst 0, 1) := by decide +kernel
theorem d20_24 : decode prog_1_method_1_code 24 = .ok (.istore_n 2, 1) := by decide +kernel
theorem d20_25 : decode prog_1_method_1_code 25 = .ok (.iconst 0, 1) := by decide +kernel
theorem d20_26 : decode prog_1_method_1_code 26 = .ok (.istore_n 3, 1) := by decide +kernel
theorem d20_27 : decode prog_1_method_1_code 27 = .ok (.iload_n 3, 1) := by decide +kernel
theorem d20_28 : decode prog_1_method_1_code 28 = .ok (.aload_n 1, 1) := by decide +kernel
theorem d20_29 : decode prog_1_method_1_code 29 = .ok (.arraylength, 1) := by decide +kernel
theorem d20_30 : decode prog_1_method_1_code 30 = .ok (.if_icmp .ge 24, 3) := by decide +kernel
theorem d20_54 : decode prog_1_method_1_code 54 = .ok (.return_, 1) := by decide +kernel
theorem ef_20 (m : MethodId) (a : Addr) (q : Addr) : entryFrame m #[(.ref a), (.ref q)] 4 = (mkF m 0 #[.val (.ref a), .val (.ref q), .unset, .unset] []) := by first | (simp [entryFrame, mkF, argsToLocals, Value.category]; done) | rfl
def Q_20 (Z : State) (a : Addr) (q : Addr) (h0 : Heap) (n0 : Nat) (v : Option Value) (h : Heap) (L : List Loc) : Prop := ∃ b1 : Addr, ∃ b2 : Addr, v = none ∧ Fr n0 L ∧ Keep h0 h [a] ∧ h0.size ≤ b1 ∧ h0.size ≤ b2 ∧ Fld Z h a "com/example/regular_role_reasoner/regularrolereasoner/alcoif/Elements" "sizes" "[I" (.ref b1) ∧ Fld Z h a "com/example/regular_role_reasoner/regularrolereasoner/alcoif/Elements" "first" "[I" (.ref b2) ∧ Ary Z h b1 .int 0 (lst []) ∧ Ary Z h b2 .int 0 (lst [])
set_option maxRecDepth 65536 in
set_option maxHeartbeats 40000000 in
theorem rm_20 (l : Launch) (Z : State) (a0 : Array Value) (hw : ∀ d ∈ tables_1, d.before a0 Z = true) (ws : List Jvm.Cond) (a : Addr) (q : Addr) (h0 : Heap) (n0 : Nat) (Z0 : n0 ≤ h0.size) (pr0 : Exa Z h0 a "com/example/regular_role_reasoner/regularrolereasoner/alcoif/Elements") (pr1 : Fld Z h0 a "com/example/regular_role_reasoner/regularrolereasoner/alcoif/Elements" "sizes" "[I" .null) (pr2 : Fld Z h0 a "com/example/regular_role_reasoner/regularrolereasoner/alcoif/Elements" "first" "[I" .null) (pr3 : Ary Z h0 q .int 0 (lst [])) (pr4 : Exa Z h0 q "[I") (pr5 : n0 ≤ a) (pr6 : a ≠ q) :
    MetFree l (⟨"com/example/regular_role_reasoner/regularrolereasoner/alcoif/Elements", "<init>", "([I)V"⟩ : MethodName) (head1 (Jvm.Cond.code (⟨"com/example/regular_role_reasoner/regularrolereasoner/alcoif/Elements", "<init>", "([I)V"⟩ : MethodName) prog_1_method_1_code 4 none :: ws) ({ frames := 1, cells := 2, slots := 0, locals := 15 } : Room)) (fun aa U => aa = #[(.ref a), (.ref q)] ∧ Z.Warmed39 U.vm ∧ U.heap = h0) (fun _ _ _ _ _ => True) (fun _ U o U' => ∃ v L, o = .returned v ∧ Q_20 Z a q h0 n0 v U'.heap L ∧ FrameEnd U o U' L ({ frames := 1, cells := 2, slots := 0, locals := 15 } : Room).cells ({ frames := 1, cells := 2, slots := 0, locals := 15 } : Room).slots) := by
  refine MetFree.of_bodySF (plainFor_of_name pn_1) hisR ?_
  intro p e s m args below meth c s₁ Bd hml0 hP hK
  obtain ⟨rfl, hZ, hh⟩ := hP
  have hx := Bd.exec
  have hby := Bd.bytes
  have hml : c.maxLocals = 4 := hml0
  have hown : s.vm.findClass "com/example/regular_role_reasoner/regularrolereasoner/alcoif/Elements" = some m.cls := findClass_of_methodNamed Bd.named
  have hnm := (name_of_methodNamed Bd.named Bd.method).1
  have X0 : Stand p l e ({ frames := 1, cells := 2, slots := 0, locals := 15 } : Room) s m #[(.ref a), (.ref q)] below meth c s₁ [] 0 0 := Stand.of_body Bd
  have e0 : s₁.heap = h0 := by rw [← hh, Bd.state]; rfl
  have N0 := Fr.nil n0
  have K0 := Keep.refl h0 [a]
  show Go p e below s (Q_20 Z a q h0 n0) 2 0 s₁ (entryFrame m #[(.ref a), (.ref q)] 4)
  refine Go.of_eq (ef_20 m a q) ?_
  refine Go.st (mkF m 1 #[.val (.ref a), .val (.ref q), .unset, .unset] [(.ref a)]) (fun _ k => XS.aloadN X0.here hx rfl (hb hby d20_0) rfl rfl k) ?_
  obtain ⟨T1, X1, e1, st1⟩ := initO X0 hx hZ hown (hw _ (List.mem_of_getElem? (i := 13) rfl)) (hw _ (List.mem_of_getElem? (i := 14) rfl)) (hw _ (List.mem_of_getElem? (i := 15) rfl)) e0 (g := (mkF m 1 #[.val (.ref a), .val (.ref q), .unset, .unset] [(.ref a)])) rfl (by rw [hml]; rfl) rfl (hb hby d20_1) (by decide) (W := 0) (by show 2 * 0 + _ ≤ _; exact Nat.le_of_eq rfl) (by decide)
  refine Go.st (mkF m 4 #[.val (.ref a), .val (.ref q), .unset, .unset] []) (fun _ k => st1 _ k) ?_
  refine Go.st (mkF m 5 #[.val (.ref a), .val (.ref q), .unset, .unset] [(.ref a)]) (fun _ k => XS.aloadN X1.here hx rfl (hb hby d20_4) rfl rfl k) ?_
  refine Go.st (mkF m 6 #[.val (.ref a), .val (.ref q), .unset, .unset] [(.ref q), (.ref a)]) (fun _ k => XS.aloadN X1.here hx rfl (hb hby d20_5) rfl rfl k) ?_
  obtain ⟨T2, h2, X2, e2, E2, A2, Y2, st2⟩ := cloneY X1 hx hZ hown (hw _ (List.mem_of_getElem? (i := 16) rfl)) (hw _ (List.mem_of_getElem? (i := 17) rfl)) (hw _ (List.mem_of_getElem? (i := 21) rfl)) (hw _ (List.mem_of_getElem? (i := 19) rfl)) (hw _ (List.mem_of_getElem? (i := 20) rfl)) (hw _ (List.mem_of_getElem? (i := 22) rfl)) e1 pr3 pr4 (by simp [lst]) (g := (mkF m 6 #[.val (.ref a), .val (.ref q), .unset, .unset] [(.ref q), (.ref a)])) rfl (by rw [hml]; rfl) rfl (hb hby d20_6) (by decide) (W := 1) (cap := 0) (by show 2 * 0 + _ ≤ _; exact Nat.le_of_eq rfl) (by decide) (by decide) (by decide) (by decide)
  obtain ⟨b2, q2⟩ : ∃ z, z = h0.size := ⟨_, rfl⟩
  rw [← q2] at A2 Y2 st2
  have sz_b2 : h0.size ≤ b2 := by rw [q2]; exact K0.1
  have g_b2 : n0 ≤ b2 := Nat.le_trans Z0 sz_b2
  have ne_a_b2 : a ≠ b2 := Nat.ne_of_lt (by rw [q2]; exact pr0.lt)
  have ne_q_b2 : q ≠ b2 := Nat.ne_of_lt (by rw [q2]; exact pr3.lt)
  have E3q : Exa Z h2 a "com/example/regular_role_reasoner/regularrolereasoner/alcoif/Elements" := pr0.ext E2
  have F4 : Fld Z h2 a "com/example/regular_role_reasoner/regularrolereasoner/alcoif/Elements" "sizes" "[I" .null := pr1.ext E2
  have F5 : Fld Z h2 a "com/example/regular_role_reasoner/regularrolereasoner/alcoif/Elements" "first" "[I" .null := pr2.ext E2
  have V6 : Ary Z h2 q .int 0 (lst []) := pr3.ext E2
  have E7q : Exa Z h2 q "[I" := pr4.ext E2
  have K2 : Keep h0 h2 [a] := K0.ext E2
  refine Go.st (mkF m 9 #[.val (.ref a), .val (.ref q), .unset, .unset] [(.ref b2), (.ref a)]) (fun _ k => st2 _ k) ?_
  obtain ⟨T8, X8, e8, st8⟩ := castY X2 hx hZ hown (hw _ (List.mem_of_getElem? (i := 23) rfl)) e2 (Ins.self Y2) (g := (mkF m 9 #[.val (.ref a), .val (.ref q), .unset, .unset] [(.ref b2), (.ref a)])) rfl rfl (hb hby d20_9)
  refine Go.st (mkF m 12 #[.val (.ref a), .val (.ref q), .unset, .unset] [(.ref b2), (.ref a)]) (fun _ k => st8 _ k) ?_
  obtain ⟨T9, h9, X9, e9, W9, st9⟩ := putF X8 hx hZ hown (host := "") (Or.inl (hw _ (List.mem_of_getElem? (i := 25) rfl))) Via.refl e8 F4 E3q (Or.inr ⟨(hw _ (List.mem_of_getElem? (i := 26) rfl)), rfl, hnm⟩) (hw _ (List.mem_of_getElem? (i := 8) rfl)) (ty := (.array .int)) (by decide) rfl rfl (g := (mkF m 12 #[.val (.ref a), .val (.ref q), .unset, .unset] [(.ref b2), (.ref a)])) rfl rfl (hb hby d20_12)
  have E10q : Exa Z h9 a "com/example/regular_role_reasoner/regularrolereasoner/alcoif/Elements" := E3q.wr W9
  have F11 : Fld Z h9 a "com/example/regular_role_reasoner/regularrolereasoner/alcoif/Elements" "sizes" "[I" (.ref b2) := F4.same W9
  have F12 : Fld Z h9 a "com/example/regular_role_reasoner/regularrolereasoner/alcoif/Elements" "first" "[I" .null := F5.other W9 (Or.inr (slot_ne (Or.inr (hw _ (List.mem_of_getElem? (i := 28) rfl))) (Or.inr (hw _ (List.mem_of_getElem? (i := 26) rfl))) (by decide) (t := (.array .int)) (t' := (.array .int)) (by decide) (by decide)))
  have V13 : Ary Z h9 q .int 0 (lst []) := V6.other W9 (Ne.symm pr6)
  have E14q : Exa Z h9 q "[I" := E7q.wr W9
  have E15q : Exa Z h9 b2 "[I" := Y2.wr W9
  have V16 : Ary Z h9 b2 .int 0 (lst []) := A2.other W9 (Ne.symm ne_a_b2)
  have K9 : Keep h0 h9 [a] := K2.wr W9 (Or.inl (by simp))
  have N9 := Fr.snoc X9 N0 pr5
  refine Go.st (mkF m 15 #[.val (.ref a), .val (.ref q), .unset, .unset] []) (fun _ k => st9 _ k) ?_
  refine Go.st (mkF m 16 #[.val (.ref a), .val (.ref q), .unset, .unset] [(.ref a)]) (fun _ k => XS.aloadN X9.here hx rfl (hb hby d20_15) rfl rfl k) ?_
  refine Go.st (mkF m 17 #[.val (.ref a), .val (.ref q), .unset, .unset] [(.ref q), (.ref a)]) (fun _ k => XS.aloadN X9.here hx rfl (hb hby d20_16) rfl rfl k) ?_
  refine Go.st (mkF m 18 #[.val (.ref a), .val (.ref q), .unset, .unset] [(.int (0 : Int32)), (.ref a)]) (fun _ k => lenA X9 hx hZ e9 V13 (z := (0 : Int32)) rfl (g := (mkF m 17 #[.val (.ref a), .val (.ref q), .unset, .unset] [(.ref q), (.ref a)])) rfl rfl (hb hby d20_17) _ k) ?_
  obtain ⟨T17, h17, k17, X17, e17, E17, A17, Y17, st17⟩ := newPE X9 hx hZ (hw _ (List.mem_of_getElem? (i := 6) rfl)) e9 (g := (mkF m 18 #[.val (.ref a), .val (.ref q), .unset, .unset] [(.int (0 : Int32)), (.ref a)])) rfl (hb hby d20_18) rfl (by decide) (cap := 0) (by decide) (by decide) (by decide) (by decide) (ad := "[I") rfl
  obtain ⟨b17, q17⟩ : ∃ z, z = h9.size := ⟨_, rfl⟩
  rw [← q17] at A17 st17 Y17
  have sz_b17 : h0.size ≤ b17 := by rw [q17]; exact K9.1
  have g_b17 : n0 ≤ b17 := Nat.le_trans Z0 sz_b17
  have ne_a_b17 : a ≠ b17 := Nat.ne_of_lt (by rw [q17]; exact E10q.lt)
  have ne_q_b17 : q ≠ b17 := Nat.ne_of_lt (by rw [q17]; exact V13.lt)
  have ne_b2_b17 : b2 ≠ b17 := Nat.ne_of_lt (by rw [q17]; exact E15q.lt)
  have E18q : Exa Z h17 a "com/example/regular_role_reasoner/regularrolereasoner/alcoif/Elements" := E10q.ext E17
  have F19 : Fld Z h17 a "com/example/regular_role_reasoner/regularrolereasoner/alcoif/Elements" "sizes" "[I" (.ref b2) := F11.ext E17
  have F20 : Fld Z h17 a "com/example/regular_role_reasoner/regularrolereasoner/alcoif/Elements" "first" "[I" .null := F12.ext E17
  have V21 : Ary Z h17 q .int 0 (lst []) := V13.ext E17
  have E22q : Exa Z h17 q "[I" := E14q.ext E17
  have E23q : Exa Z h17 b2 "[I" := E15q.ext E17
  have V24 : Ary Z h17 b2 .int 0 (lst []) := V16.ext E17
  have K17 : Keep h0 h17 [a] := K9.ext E17
  have V25 : Ary Z h17 b17 .int 0 (lst []) := Ary.newL A17 (by decide)
  refine Go.st (mkF m 20 #[.val (.ref a), .val (.ref q), .unset, .unset] [(.ref b17), (.ref a)]) (fun _ k => st17 _ k) ?_
  obtain ⟨T26, h26, X26, e26, W26, st26⟩ := putF X17 hx hZ hown (host := "") (Or.inl (hw _ (List.mem_of_getElem? (i := 27) rfl))) Via.refl e17 F20 E18q (Or.inr ⟨(hw _ (List.mem_of_getElem? (i := 28) rfl)), rfl, hnm⟩) (hw _ (List.mem_of_getElem? (i := 8) rfl)) (ty := (.array .int)) (by decide) rfl rfl (g := (mkF m 20 #[.val (.ref a), .val (.ref q), .unset, .unset] [(.ref b17), (.ref a)])) rfl rfl (hb hby d20_20)
  have E27q : Exa Z h26 a "com/example/regular_role_reasoner/regularrolereasoner/alcoif/Elements" := E18q.wr W26
  have F28 : Fld Z h26 a "com/example/regular_role_reasoner/regularrolereasoner/alcoif/Elements" "sizes" "[I" (.ref b2) := F19.other W26 (Or.inr (slot_ne (Or.inr (hw _ (List.mem_of_getElem? (i := 26) rfl))) (Or.inr (hw _ (List.mem_of_getElem? (i := 28) rfl))) (by decide) (t := (.array .int)) (t' := (.array .int)) (by decide) (by decide)))
  have F29 : Fld Z h26 a "com/example/regular_role_reasoner/regularrolereasoner/alcoif/Elements" "first" "[I" (.ref b17) := F20.same W26
  have V30 : Ary Z h26 q .int 0 (lst []) := V21.other W26 (Ne.symm pr6)
  have E31q : Exa Z h26 q "[I" := E22q.wr W26
  have E32q : Exa Z h26 b2 "[I" := E23q.wr W26
  have V33 : Ary Z h26 b2 .int 0 (lst []) := V24.other W26 (Ne.symm ne_a_b2)
  have E34q : Exa Z h26 b17 "[I" := Y17.wr W26
  have V35 : Ary Z h26 b17 .int 0 (lst []) := V25.other W26 (Ne.symm ne_a_b17)
  have K26 : Keep h0 h26 [a] := K17.wr W26 (Or.inl (by simp))
  have N26 := Fr.snoc X26 N9 pr5
  refine Go.st (mkF m 23 #[.val (.ref a), .val (.ref q), .unset, .unset] []) (fun _ k => st26 _ k) ?_
  refine Go.st (mkF m 24 #[.val (.ref a), .val (.ref q), .unset, .unset] [(.int (0 : Int32))]) (fun _ k => XS.iconst X26.here hx rfl (hb hby d20_23) k) ?_
  refine Go.st (mkF m 25 #[.val (.ref a), .val (.ref q), .val (.int (0 : Int32)), .unset] []) (fun _ k => XS.istoreN X26.here hx rfl (hb hby d20_24) rfl (l' := #[.val (.ref a), .val (.ref q), .val (.int (0 : Int32)), .unset]) rfl k) ?_
  refine Go.st (mkF m 26 #[.val (.ref a), .val (.ref q), .val (.int (0 : Int32)), .unset] [(.int (0 : Int32))]) (fun _ k => XS.iconst X26.here hx rfl (hb hby d20_25) k) ?_
  refine Go.st (mkF m 27 #[.val (.ref a), .val (.ref q), .val (.int (0 : Int32)), .val (.int (0 : Int32))] []) (fun _ k => XS.istoreN X26.here hx rfl (hb hby d20_26) rfl (l' := #[.val (.ref a), .val (.ref q), .val (.int (0 : Int32)), .val (.int (0 : Int32))]) rfl k) ?_
  refine Go.st (mkF m 28 #[.val (.ref a), .val (.ref q), .val (.int (0 : Int32)), .val (.int (0 : Int32))] [(.int (0 : Int32))]) (fun _ k => XS.iloadN X26.here hx rfl (hb hby d20_27) rfl k) ?_
  refine Go.st (mkF m 29 #[.val (.ref a), .val (.ref q), .val (.int (0 : Int32)), .val (.int (0 : Int32))] [(.ref q), (.int (0 : Int32))]) (fun _ k => XS.aloadN X26.here hx rfl (hb hby d20_28) rfl rfl k) ?_
  refine Go.st (mkF m 30 #[.val (.ref a), .val (.ref q), .val (.int (0 : Int32)), .val (.int (0 : Int32))] [(.int (0 : Int32)), (.int (0 : Int32))]) (fun _ k => lenA X26 hx hZ e26 V30 (z := (0 : Int32)) rfl (g := (mkF m 29 #[.val (.ref a), .val (.ref q), .val (.int (0 : Int32)), .val (.int (0 : Int32))] [(.ref q), (.int (0 : Int32))])) rfl rfl (hb hby d20_29) _ k) ?_
  refine Go.st (mkF m 54 #[.val (.ref a), .val (.ref q), .val (.int (0 : Int32)), .val (.int (0 : Int32))] []) (fun _ k => XS.icmpYes X26.here hx rfl (pc0 := 30) (pc' := 54) rfl (hb hby d20_30) rfl (flt (by decide : ¬ ((0 : Int32) < (0 : Int32)))).2.1 (by decide) (by decide) k) ?_
  exact Go.retV X26 hx Bd.notSynchronized Bd.returns (hb hby d20_54) (by rw [e26]; exact ⟨b2, b17, rfl, N26, K26, sz_b2, sz_b17, F28, F29, V33, V35⟩) (by decide) (by decide)
theorem d30_0 : decode prog_1_method_4_code 0 = .ok (.aload_n 0, 1) := by decide +kernel
theorem d30_1 : decode prog_1_method_4_code 1 = .ok (.getfield 13, 3) := by decide +kernel
theorem d30_4 : decode prog_1_method_4_code 4 = .ok (.arraylength, 1) := by decide +kernel
theorem d30_5 : decode prog_1_method_4_code 5 = .ok (.ifCond .ne 7, 3) := by decide +kernel
theorem d30_8 : decode prog_1_method_4_code 8 = .ok (.iconst 0, 1) := by decide +kernel
theorem d30_9 : decode prog_1_method_4_code 9 = .ok (.goto 28, 3) := by decide +kernel
theorem d30_37 : decode prog_1_method_4_code 37 = .ok (.ireturn, 1) := by decide +kernel
theorem ef_30 (m : MethodId) (a : Addr) : entryFrame m #[(.ref a)] 1 = (mkF m 0 #[.val (.ref a)] []) := by first | (simp [entryFrame, mkF, argsToLocals, Value.category]; done) | rfl
def Q_30 (Z : State) (a : Addr) (b1 : Addr) (b2 : Addr) (h0 : Heap) (n0 : Nat) (v : Option Value) (h : Heap) (L : List Loc) : Prop := v = some (.int (0 : Int32)) ∧ Fr n0 L ∧ h = h0
set_option maxRecDepth 65536 in
set_option maxHeartbeats 40000000 in
theorem rm_30 (l : Launch) (Z : State) (a0 : Array Value) (hw : ∀ d ∈ tables_1, d.before a0 Z = true) (ws : List Jvm.Cond) (a : Addr) (b1 : Addr) (b2 : Addr) (h0 : Heap) (n0 : Nat) (Z0 : n0 ≤ h0.size) (pr0 : Fld Z h0 a "com/example/regular_role_reasoner/regularrolereasoner/alcoif/Elements" "sizes" "[I" (.ref b1)) (pr1 : Fld Z h0 a "com/example/regular_role_reasoner/regularrolereasoner/alcoif/Elements" "first" "[I" (.ref b2)) (pr2 : Ary Z h0 b1 .int 0 (lst [])) (pr3 : Ary Z h0 b2 .int 0 (lst [])) :
    MetFree l (⟨"com/example/regular_role_reasoner/regularrolereasoner/alcoif/Elements", "total", "()I"⟩ : MethodName) (head1 (Jvm.Cond.code (⟨"com/example/regular_role_reasoner/regularrolereasoner/alcoif/Elements", "total", "()I"⟩ : MethodName) prog_1_method_4_code 1 (some .int) :: ws) ({ frames := 0, cells := 0, slots := 0, locals := 0 } : Room)) (fun aa U => aa = #[(.ref a)] ∧ Z.Warmed39 U.vm ∧ U.heap = h0) (fun _ _ _ _ _ => True) (fun _ U o U' => ∃ v L, o = .returned v ∧ Q_30 Z a b1 b2 h0 n0 v U'.heap L ∧ FrameEnd U o U' L ({ frames := 0, cells := 0, slots := 0, locals := 0 } : Room).cells ({ frames := 0, cells := 0, slots := 0, locals := 0 } : Room).slots) := by
  refine MetFree.of_bodySF (plainFor_of_name pn_1) hisR ?_
  intro p e s m args below meth c s₁ Bd hml0 hP hK
  obtain ⟨rfl, hZ, hh⟩ := hP
  have hx := Bd.exec
  have hby := Bd.bytes
  have hml : c.maxLocals = 1 := hml0
  have hown : s.vm.findClass "com/example/regular_role_reasoner/regularrolereasoner/alcoif/Elements" = some m.cls := findClass_of_methodNamed Bd.named
  have hnm := (name_of_methodNamed Bd.named Bd.method).1
  have X0 : Stand p l e ({ frames := 0, cells := 0, slots := 0, locals := 0 } : Room) s m #[(.ref a)] below meth c s₁ [] 0 0 := Stand.of_body Bd
  have e0 : s₁.heap = h0 := by rw [← hh, Bd.state]; rfl
  have N0 := Fr.nil n0
  have K0 := Keep.refl h0 []
  show Go p e below s (Q_30 Z a b1 b2 h0 n0) 0 0 s₁ (entryFrame m #[(.ref a)] 1)
  refine Go.of_eq (ef_30 m a) ?_
  refine Go.st (mkF m 1 #[.val (.ref a)] [(.ref a)]) (fun _ k => XS.aloadN X0.here hx rfl (hb hby d30_0) rfl rfl k) ?_
  obtain ⟨T1, X1, e1, st1⟩ := getF X0 hx hZ hown (host := "") (Or.inl (hw _ (List.mem_of_getElem? (i := 25) rfl))) Via.refl e0 pr0 (g := (mkF m 1 #[.val (.ref a)] [(.ref a)])) rfl rfl (hb hby d30_1)
  refine Go.st (mkF m 4 #[.val (.ref a)] [(.ref b1)]) (fun _ k => st1 _ k) ?_
  refine Go.st (mkF m 5 #[.val (.ref a)] [(.int (0 : Int32))]) (fun _ k => lenA X1 hx hZ e1 pr2 (z := (0 : Int32)) rfl (g := (mkF m 4 #[.val (.ref a)] [(.ref b1)])) rfl rfl (hb hby d30_4) _ k) ?_
  refine Go.st (mkF m 8 #[.val (.ref a)] []) (fun _ k => XS.ifNo X1.here hx rfl (hb hby d30_5) rfl ((if0 _ _).trans (teq (by decide : (0 : Int32) = (0 : Int32))).2) k) ?_
  refine Go.st (mkF m 9 #[.val (.ref a)] [(.int (0 : Int32))]) (fun _ k => XS.iconst X1.here hx rfl (hb hby d30_8) k) ?_
  refine Go.st (mkF m 37 #[.val (.ref a)] [(.int (0 : Int32))]) (fun _ k => XS.goto X1.here hx rfl (pc0 := 9) (pc' := 37) rfl (hb hby d30_9) (by decide) (by decide) k) ?_
  exact Go.retI X1 hx Bd.notSynchronized Bd.returns (hb hby d30_37) ⟨rfl, N0, e1⟩ (by decide) (by decide)
theorem pd_0 : parseMethodDescriptor "(II)I" = some ⟨[.int, .int], some .int⟩ := by decide +kernel
theorem d21_0 : decode prog_1_method_1_code 0 = .ok (.aload_n 0, 1) := by decide +kernel
theorem d21_1 : decode prog_1_method_1_code 1 = .ok (.invokespecial 1, 3) := by decide +kernel
theorem d21_4 : decode prog_1_method_1_code 4 = .ok (.aload_n 0, 1) := by decide +kernel
theorem d21_5 : decode prog_1_method_1_code 5 = .ok (.aload_n 1, 1) := by decide +kernel
theorem d21_6 : decode prog_1_method_1_code 6 = .ok (.invokevirtual 7, 3) := by decide +kernel
theorem d21_9 : decode prog_1_method_1_code 9 = .ok (.checkcast 8, 3) := by decide +kernel
theorem d21_12 : decode prog_1_method_1_code 12 = .ok (.putfield 13, 3) := by decide +kernel
theorem d21_15 : decode prog_1_method_1_code 15 = .ok (.aload_n 0, 1) := by decide +kernel
theorem d21_16 : decode prog_1_method_1_code 16 = .ok (.aload_n 1, 1) := by decide +kernel
theorem d21_17 : decode prog_1_method_1_code 17 = .ok (.arraylength, 1) := by decide +kernel
theorem d21_18 : decode prog_1_method_1_code 18 = .ok (.newarray .int, 2) := by decide +kernel
theorem d21_20 : decode prog_1_method_1_code 20 = .ok (.putfield 18, 3) := by decide +kernel
theorem d21_23 : decode prog_1_method_1_code 23 = .ok (.iconst 0, 1) := by decide +kernel
theorem d21_24 : decode prog_1_method_1_code 24 = .ok (.istore_n 2, 1) := by decide +kernel
theorem d21_25 : decode prog_1_method_1_code 25 = .ok (.iconst 0, 1) := by decide +kernel
theorem d21_26 : decode prog_1_method_1_code 26 = .ok (.istore_n 3, 1) := by decide +kernel
theorem d21_27 : decode prog_1_method_1_code 27 = .ok (.iload_n 3, 1) := by decide +kernel
theorem d21_28 : decode prog_1_method_1_code 28 = .ok (.aload_n 1, 1) := by decide +kernel
theorem d21_29 : decode prog_1_method_1_code 29 = .ok (.arraylength, 1) := by decide +kernel
theorem d21_30 : decode prog_1_method_1_code 30 = .ok (.if_icmp .ge 24, 3) := by decide +kernel
theorem d21_33 : decode prog_1_method_1_code 33 = .ok (.aload_n 0, 1) := by decide +kernel
theorem d21_34 : decode prog_1_method_1_code 34 = .ok (.getfield 18, 3) := by decide +kernel
theorem d21_37 : decode prog_1_method_1_code 37 = .ok (.iload_n 3, 1) := by decide +kernel
theorem d21_38 : decode prog_1_method_1_code 38 = .ok (.iload_n 2, 1) := by decide +kernel
theorem d21_39 : decode prog_1_method_1_code 39 = .ok (.iastore, 1) := by decide +kernel
theorem d21_40 : decode prog_1_method_1_code 40 = .ok (.iload_n 2, 1) := by decide +kernel
theorem d21_41 : decode prog_1_method_1_code 41 = .ok (.aload_n 1, 1) := by decide +kernel
theorem d21_42 : decode prog_1_method_1_code 42 = .ok (.iload_n 3, 1) := by decide +kernel
theorem d21_43 : decode prog_1_method_1_code 43 = .ok (.iaload, 1) := by decide +kernel
theorem d21_44 : decode prog_1_method_1_code 44 = .ok (.invokestatic 21, 3) := by decide +kernel
theorem d21_47 : decode prog_1_method_1_code 47 = .ok (.istore_n 2, 1) := by decide +kernel
theorem d21_48 : decode prog_1_method_1_code 48 = .ok (.iinc 3 1, 3) := by decide +kernel
theorem d21_51 : decode prog_1_method_1_code 51 = .ok (.goto (-24), 3) := by decide +kernel
theorem d21_54 : decode prog_1_method_1_code 54 = .ok (.return_, 1) := by decide +kernel
theorem ef_21 (m : MethodId) (a : Addr) (q : Addr) : entryFrame m #[(.ref a), (.ref q)] 4 = (mkF m 0 #[.val (.ref a), .val (.ref q), .unset, .unset] []) := by first | (simp [entryFrame, mkF, argsToLocals, Value.category]; done) | rfl
def Q_21 (Z : State) (a : Addr) (q : Addr) (x0 : Int32) (h0 : Heap) (n0 : Nat) (v : Option Value) (h : Heap) (L : List Loc) : Prop := ∃ b1 : Addr, ∃ b2 : Addr, v = none ∧ Fr n0 L ∧ Keep h0 h [a] ∧ h0.size ≤ b1 ∧ h0.size ≤ b2 ∧ Fld Z h a "com/example/regular_role_reasoner/regularrolereasoner/alcoif/Elements" "sizes" "[I" (.ref b1) ∧ Fld Z h a "com/example/regular_role_reasoner/regularrolereasoner/alcoif/Elements" "first" "[I" (.ref b2) ∧ Ary Z h b1 .int 1 (lst [(.int x0)]) ∧ Ary Z h b2 .int 1 (lst [(.int (0 : Int32))])
set_option maxRecDepth 65536 in
set_option maxHeartbeats 40000000 in
theorem rm_21 (l : Launch) (Z : State) (a0 : Array Value) (hw : ∀ d ∈ tables_1, d.before a0 Z = true) (ws : List Jvm.Cond) (a : Addr) (q : Addr) (x0 : Int32) (h0 : Heap) (n0 : Nat) (Z0 : n0 ≤ h0.size) (pr0 : Exa Z h0 a "com/example/regular_role_reasoner/regularrolereasoner/alcoif/Elements") (pr1 : Fld Z h0 a "com/example/regular_role_reasoner/regularrolereasoner/alcoif/Elements" "sizes" "[I" .null) (pr2 : Fld Z h0 a "com/example/regular_role_reasoner/regularrolereasoner/alcoif/Elements" "first" "[I" .null) (pr3 : Ary Z h0 q .int 1 (lst [(.int x0)])) (pr4 : Exa Z h0 q "[I") (pr5 : n0 ≤ a) (pr6 : a ≠ q) (pr7 : Sml x0) :
    MetFree l (⟨"com/example/regular_role_reasoner/regularrolereasoner/alcoif/Elements", "<init>", "([I)V"⟩ : MethodName) (head1 (Jvm.Cond.code (⟨"com/example/regular_role_reasoner/regularrolereasoner/alcoif/Elements", "<init>", "([I)V"⟩ : MethodName) prog_1_method_1_code 4 none :: ws) ({ frames := 1, cells := 2, slots := 2, locals := 15 } : Room)) (fun aa U => aa = #[(.ref a), (.ref q)] ∧ Z.Warmed39 U.vm ∧ U.heap = h0) (fun _ _ _ _ _ => True) (fun _ U o U' => ∃ v L, o = .returned v ∧ Q_21 Z a q x0 h0 n0 v U'.heap L ∧ FrameEnd U o U' L ({ frames := 1, cells := 2, slots := 2, locals := 15 } : Room).cells ({ frames := 1, cells := 2, slots := 2, locals := 15 } : Room).slots) := by
  refine MetFree.of_bodySF (plainFor_of_name pn_1) hisR ?_
  intro p e s m args below meth c s₁ Bd hml0 hP hK
  obtain ⟨rfl, hZ, hh⟩ := hP
  have hx := Bd.exec
  have hby := Bd.bytes
  have hml : c.maxLocals = 4 := hml0
  have hown : s.vm.findClass "com/example/regular_role_reasoner/regularrolereasoner/alcoif/Elements" = some m.cls := findClass_of_methodNamed Bd.named
  have hnm := (name_of_methodNamed Bd.named Bd.method).1
  have X0 : Stand p l e ({ frames := 1, cells := 2, slots := 2, locals := 15 } : Room) s m #[(.ref a), (.ref q)] below meth c s₁ [] 0 0 := Stand.of_body Bd
  have e0 : s₁.heap = h0 := by rw [← hh, Bd.state]; rfl
  have N0 := Fr.nil n0
  have K0 := Keep.refl h0 [a]
  show Go p e below s (Q_21 Z a q x0 h0 n0) 2 2 s₁ (entryFrame m #[(.ref a), (.ref q)] 4)
  refine Go.of_eq (ef_21 m a q) ?_
  refine Go.st (mkF m 1 #[.val (.ref a), .val (.ref q), .unset, .unset] [(.ref a)]) (fun _ k => XS.aloadN X0.here hx rfl (hb hby d21_0) rfl rfl k) ?_
  obtain ⟨T1, X1, e1, st1⟩ := initO X0 hx hZ hown (hw _ (List.mem_of_getElem? (i := 13) rfl)) (hw _ (List.mem_of_getElem? (i := 14) rfl)) (hw _ (List.mem_of_getElem? (i := 15) rfl)) e0 (g := (mkF m 1 #[.val (.ref a), .val (.ref q), .unset, .unset] [(.ref a)])) rfl (by rw [hml]; rfl) rfl (hb hby d21_1) (by decide) (W := 0) (by show 2 * 0 + _ ≤ _; exact Nat.le_of_eq rfl) (by decide)
  refine Go.st (mkF m 4 #[.val (.ref a), .val (.ref q), .unset, .unset] []) (fun _ k => st1 _ k) ?_
  refine Go.st (mkF m 5 #[.val (.ref a), .val (.ref q), .unset, .unset] [(.ref a)]) (fun _ k => XS.aloadN X1.here hx rfl (hb hby d21_4) rfl rfl k) ?_
  refine Go.st (mkF m 6 #[.val (.ref a), .val (.ref q), .unset, .unset] [(.ref q), (.ref a)]) (fun _ k => XS.aloadN X1.here hx rfl (hb hby d21_5) rfl rfl k) ?_
  obtain ⟨T2, h2, X2, e2, E2, A2, Y2, st2⟩ := cloneY X1 hx hZ hown (hw _ (List.mem_of_getElem? (i := 16) rfl)) (hw _ (List.mem_of_getElem? (i := 17) rfl)) (hw _ (List.mem_of_getElem? (i := 21) rfl)) (hw _ (List.mem_of_getElem? (i := 19) rfl)) (hw _ (List.mem_of_getElem? (i := 20) rfl)) (hw _ (List.mem_of_getElem? (i := 22) rfl)) e1 pr3 pr4 (by simp [lst]) (g := (mkF m 6 #[.val (.ref a), .val (.ref q), .unset, .unset] [(.ref q), (.ref a)])) rfl (by rw [hml]; rfl) rfl (hb hby d21_6) (by decide) (W := 1) (cap := 1) (by show 2 * 0 + _ ≤ _; exact Nat.le_of_eq rfl) (by decide) (by decide) (by decide) (by decide)
  obtain ⟨b2, q2⟩ : ∃ z, z = h0.size := ⟨_, rfl⟩
  rw [← q2] at A2 Y2 st2
  have sz_b2 : h0.size ≤ b2 := by rw [q2]; exact K0.1
  have g_b2 : n0 ≤ b2 := Nat.le_trans Z0 sz_b2
  have ne_a_b2 : a ≠ b2 := Nat.ne_of_lt (by rw [q2]; exact pr0.lt)
  have ne_q_b2 : q ≠ b2 := Nat.ne_of_lt (by rw [q2]; exact pr3.lt)
  have E3q : Exa Z h2 a "com/example/regular_role_reasoner/regularrolereasoner/alcoif/Elements" := pr0.ext E2
  have F4 : Fld Z h2 a "com/example/regular_role_reasoner/regularrolereasoner/alcoif/Elements" "sizes" "[I" .null := pr1.ext E2
  have F5 : Fld Z h2 a "com/example/regular_role_reasoner/regularrolereasoner/alcoif/Elements" "first" "[I" .null := pr2.ext E2
  have V6 : Ary Z h2 q .int 1 (lst [(.int x0)]) := pr3.ext E2
  have E7q : Exa Z h2 q "[I" := pr4.ext E2
  have K2 : Keep h0 h2 [a] := K0.ext E2
  refine Go.st (mkF m 9 #[.val (.ref a), .val (.ref q), .unset, .unset] [(.ref b2), (.ref a)]) (fun _ k => st2 _ k) ?_
  obtain ⟨T8, X8, e8, st8⟩ := castY X2 hx hZ hown (hw _ (List.mem_of_getElem? (i := 23) rfl)) e2 (Ins.self Y2) (g := (mkF m 9 #[.val (.ref a), .val (.ref q), .unset, .unset] [(.ref b2), (.ref a)])) rfl rfl (hb hby d21_9)
  refine Go.st (mkF m 12 #[.val (.ref a), .val (.ref q), .unset, .unset] [(.ref b2), (.ref a)]) (fun _ k => st8 _ k) ?_
  obtain ⟨T9, h9, X9, e9, W9, st9⟩ := putF X8 hx hZ hown (host := "") (Or.inl (hw _ (List.mem_of_getElem? (i := 25) rfl))) Via.refl e8 F4 E3q (Or.inr ⟨(hw _ (List.mem_of_getElem? (i := 26) rfl)), rfl, hnm⟩) (hw _ (List.mem_of_getElem? (i := 8) rfl)) (ty := (.array .int)) (by decide) rfl rfl (g := (mkF m 12 #[.val (.ref a), .val (.ref q), .unset, .unset] [(.ref b2), (.ref a)])) rfl rfl (hb hby d21_12)
  have E10q : Exa Z h9 a "com/example/regular_role_reasoner/regularrolereasoner/alcoif/Elements" := E3q.wr W9
  have F11 : Fld Z h9 a "com/example/regular_role_reasoner/regularrolereasoner/alcoif/Elements" "sizes" "[I" (.ref b2) := F4.same W9
  have F12 : Fld Z h9 a "com/example/regular_role_reasoner/regularrolereasoner/alcoif/Elements" "first" "[I" .null := F5.other W9 (Or.inr (slot_ne (Or.inr (hw _ (List.mem_of_getElem? (i := 28) rfl))) (Or.inr (hw _ (List.mem_of_getElem? (i := 26) rfl))) (by decide) (t := (.array .int)) (t' := (.array .int)) (by decide) (by decide)))
  have V13 : Ary Z h9 q .int 1 (lst [(.int x0)]) := V6.other W9 (Ne.symm pr6)
  have E14q : Exa Z h9 q "[I" := E7q.wr W9
  have E15q : Exa Z h9 b2 "[I" := Y2.wr W9
  have V16 : Ary Z h9 b2 .int 1 (lst [(.int x0)]) := A2.other W9 (Ne.symm ne_a_b2)
  have K9 : Keep h0 h9 [a] := K2.wr W9 (Or.inl (by simp))
  have N9 := Fr.snoc X9 N0 pr5
  refine Go.st (mkF m 15 #[.val (.ref a), .val (.ref q), .unset, .unset] []) (fun _ k => st9 _ k) ?_
  refine Go.st (mkF m 16 #[.val (.ref a), .val (.ref q), .unset, .unset] [(.ref a)]) (fun _ k => XS.aloadN X9.here hx rfl (hb hby d21_15) rfl rfl k) ?_
  refine Go.st (mkF m 17 #[.val (.ref a), .val (.ref q), .unset, .unset] [(.ref q), (.ref a)]) (fun _ k => XS.aloadN X9.here hx rfl (hb hby d21_16) rfl rfl k) ?_
  refine Go.st (mkF m 18 #[.val (.ref a), .val (.ref q), .unset, .unset] [(.int (1 : Int32)), (.ref a)]) (fun _ k => lenA X9 hx hZ e9 V13 (z := (1 : Int32)) rfl (g := (mkF m 17 #[.val (.ref a), .val (.ref q), .unset, .unset] [(.ref q), (.ref a)])) rfl rfl (hb hby d21_17) _ k) ?_
  obtain ⟨T17, h17, k17, X17, e17, E17, A17, Y17, st17⟩ := newPE X9 hx hZ (hw _ (List.mem_of_getElem? (i := 6) rfl)) e9 (g := (mkF m 18 #[.val (.ref a), .val (.ref q), .unset, .unset] [(.int (1 : Int32)), (.ref a)])) rfl (hb hby d21_18) rfl (by decide) (cap := 1) (by decide) (by decide) (by decide) (by decide) (ad := "[I") rfl
  obtain ⟨b17, q17⟩ : ∃ z, z = h9.size := ⟨_, rfl⟩
  rw [← q17] at A17 st17 Y17
  have sz_b17 : h0.size ≤ b17 := by rw [q17]; exact K9.1
  have g_b17 : n0 ≤ b17 := Nat.le_trans Z0 sz_b17
  have ne_a_b17 : a ≠ b17 := Nat.ne_of_lt (by rw [q17]; exact E10q.lt)
  have ne_q_b17 : q ≠ b17 := Nat.ne_of_lt (by rw [q17]; exact V13.lt)
  have ne_b2_b17 : b2 ≠ b17 := Nat.ne_of_lt (by rw [q17]; exact E15q.lt)
  have E18q : Exa Z h17 a "com/example/regular_role_reasoner/regularrolereasoner/alcoif/Elements" := E10q.ext E17
  have F19 : Fld Z h17 a "com/example/regular_role_reasoner/regularrolereasoner/alcoif/Elements" "sizes" "[I" (.ref b2) := F11.ext E17
  have F20 : Fld Z h17 a "com/example/regular_role_reasoner/regularrolereasoner/alcoif/Elements" "first" "[I" .null := F12.ext E17
  have V21 : Ary Z h17 q .int 1 (lst [(.int x0)]) := V13.ext E17
  have E22q : Exa Z h17 q "[I" := E14q.ext E17
  have E23q : Exa Z h17 b2 "[I" := E15q.ext E17
  have V24 : Ary Z h17 b2 .int 1 (lst [(.int x0)]) := V16.ext E17
  have K17 : Keep h0 h17 [a] := K9.ext E17
  have V25 : Ary Z h17 b17 .int 1 (lst [(.int (0 : Int32))]) := Ary.newL A17 (by decide)
  refine Go.st (mkF m 20 #[.val (.ref a), .val (.ref q), .unset, .unset] [(.ref b17), (.ref a)]) (fun _ k => st17 _ k) ?_
  obtain ⟨T26, h26, X26, e26, W26, st26⟩ := putF X17 hx hZ hown (host := "") (Or.inl (hw _ (List.mem_of_getElem? (i := 27) rfl))) Via.refl e17 F20 E18q (Or.inr ⟨(hw _ (List.mem_of_getElem? (i := 28) rfl)), rfl, hnm⟩) (hw _ (List.mem_of_getElem? (i := 8) rfl)) (ty := (.array .int)) (by decide) rfl rfl (g := (mkF m 20 #[.val (.ref a), .val (.ref q), .unset, .unset] [(.ref b17), (.ref a)])) rfl rfl (hb hby d21_20)
  have E27q : Exa Z h26 a "com/example/regular_role_reasoner/regularrolereasoner/alcoif/Elements" := E18q.wr W26
  have F28 : Fld Z h26 a "com/example/regular_role_reasoner/regularrolereasoner/alcoif/Elements" "sizes" "[I" (.ref b2) := F19.other W26 (Or.inr (slot_ne (Or.inr (hw _ (List.mem_of_getElem? (i := 26) rfl))) (Or.inr (hw _ (List.mem_of_getElem? (i := 28) rfl))) (by decide) (t := (.array .int)) (t' := (.array .int)) (by decide) (by decide)))
  have F29 : Fld Z h26 a "com/example/regular_role_reasoner/regularrolereasoner/alcoif/Elements" "first" "[I" (.ref b17) := F20.same W26
  have V30 : Ary Z h26 q .int 1 (lst [(.int x0)]) := V21.other W26 (Ne.symm pr6)
  have E31q : Exa Z h26 q "[I" := E22q.wr W26
  have E32q : Exa Z h26 b2 "[I" := E23q.wr W26
  have V33 : Ary Z h26 b2 .int 1 (lst [(.int x0)]) := V24.other W26 (Ne.symm ne_a_b2)
  have E34q : Exa Z h26 b17 "[I" := Y17.wr W26
  have V35 : Ary Z h26 b17 .int 1 (lst [(.int (0 : Int32))]) := V25.other W26 (Ne.symm ne_a_b17)
  have K26 : Keep h0 h26 [a] := K17.wr W26 (Or.inl (by simp))
  have N26 := Fr.snoc X26 N9 pr5
  refine Go.st (mkF m 23 #[.val (.ref a), .val (.ref q), .unset, .unset] []) (fun _ k => st26 _ k) ?_
  refine Go.st (mkF m 24 #[.val (.ref a), .val (.ref q), .unset, .unset] [(.int (0 : Int32))]) (fun _ k => XS.iconst X26.here hx rfl (hb hby d21_23) k) ?_
  refine Go.st (mkF m 25 #[.val (.ref a), .val (.ref q), .val (.int (0 : Int32)), .unset] []) (fun _ k => XS.istoreN X26.here hx rfl (hb hby d21_24) rfl (l' := #[.val (.ref a), .val (.ref q), .val (.int (0 : Int32)), .unset]) rfl k) ?_
  refine Go.st (mkF m 26 #[.val (.ref a), .val (.ref q), .val (.int (0 : Int32)), .unset] [(.int (0 : Int32))]) (fun _ k => XS.iconst X26.here hx rfl (hb hby d21_25) k) ?_
  refine Go.st (mkF m 27 #[.val (.ref a), .val (.ref q), .val (.int (0 : Int32)), .val (.int (0 : Int32))] []) (fun _ k => XS.istoreN X26.here hx rfl (hb hby d21_26) rfl (l' := #[.val (.ref a), .val (.ref q), .val (.int (0 : Int32)), .val (.int (0 : Int32))]) rfl k) ?_
  refine Go.st (mkF m 28 #[.val (.ref a), .val (.ref q), .val (.int (0 : Int32)), .val (.int (0 : Int32))] [(.int (0 : Int32))]) (fun _ k => XS.iloadN X26.here hx rfl (hb hby d21_27) rfl k) ?_
  refine Go.st (mkF m 29 #[.val (.ref a), .val (.ref q), .val (.int (0 : Int32)), .val (.int (0 : Int32))] [(.ref q), (.int (0 : Int32))]) (fun _ k => XS.aloadN X26.here hx rfl (hb hby d21_28) rfl rfl k) ?_
  refine Go.st (mkF m 30 #[.val (.ref a), .val (.ref q), .val (.int (0 : Int32)), .val (.int (0 : Int32))] [(.int (1 : Int32)), (.int (0 : Int32))]) (fun _ k => lenA X26 hx hZ e26 V30 (z := (1 : Int32)) rfl (g := (mkF m 29 #[.val (.ref a), .val (.ref q), .val (.int (0 : Int32)), .val (.int (0 : Int32))] [(.ref q), (.int (0 : Int32))])) rfl rfl (hb hby d21_29) _ k) ?_
  refine Go.st (mkF m 33 #[.val (.ref a), .val (.ref q), .val (.int (0 : Int32)), .val (.int (0 : Int32))] []) (fun _ k => XS.icmpNo X26.here hx rfl (hb hby d21_30) rfl (tlt (by decide : (0 : Int32) < (1 : Int32))).2.1 k) ?_
  refine Go.st (mkF m 34 #[.val (.ref a), .val (.ref q), .val (.int (0 : Int32)), .val (.int (0 : Int32))] [(.ref a)]) (fun _ k => XS.aloadN X26.here hx rfl (hb hby d21_33) rfl rfl k) ?_
  obtain ⟨T36, X36, e36, st36⟩ := getF X26 hx hZ hown (host := "") (Or.inl (hw _ (List.mem_of_getElem? (i := 27) rfl))) Via.refl e26 F29 (g := (mkF m 34 #[.val (.ref a), .val (.ref q), .val (.int (0 : Int32)), .val (.int (0 : Int32))] [(.ref a)])) rfl rfl (hb hby d21_34)
  refine Go.st (mkF m 37 #[.val (.ref a), .val (.ref q), .val (.int (0 : Int32)), .val (.int (0 : Int32))] [(.ref b17)]) (fun _ k => st36 _ k) ?_
  refine Go.st (mkF m 38 #[.val (.ref a), .val (.ref q), .val (.int (0 : Int32)), .val (.int (0 : Int32))] [(.int (0 : Int32)), (.ref b17)]) (fun _ k => XS.iloadN X36.here hx rfl (hb hby d21_37) rfl k) ?_
  refine Go.st (mkF m 39 #[.val (.ref a), .val (.ref q), .val (.int (0 : Int32)), .val (.int (0 : Int32))] [(.int (0 : Int32)), (.int (0 : Int32)), (.ref b17)]) (fun _ k => XS.iloadN X36.here hx rfl (hb hby d21_38) rfl k) ?_
  obtain ⟨T37, h37, X37, e37, W37, st37⟩ := stAI X36 hx hZ e36 V35 (i := 0) (by decide) (by decide) (by decide) (g := (mkF m 39 #[.val (.ref a), .val (.ref q), .val (.int (0 : Int32)), .val (.int (0 : Int32))] [(.int (0 : Int32)), (.int (0 : Int32)), (.ref b17)])) rfl rfl (hb hby d21_39)
  have E38q : Exa Z h37 a "com/example/regular_role_reasoner/regularrolereasoner/alcoif/Elements" := E27q.wr W37
  have F39 : Fld Z h37 a "com/example/regular_role_reasoner/regularrolereasoner/alcoif/Elements" "sizes" "[I" (.ref b2) := F28.other W37 (Or.inl ne_a_b17)
  have F40 : Fld Z h37 a "com/example/regular_role_reasoner/regularrolereasoner/alcoif/Elements" "first" "[I" (.ref b17) := F29.other W37 (Or.inl ne_a_b17)
  have V41 : Ary Z h37 q .int 1 (lst [(.int x0)]) := V30.other W37 ne_q_b17
  have E42q : Exa Z h37 q "[I" := E31q.wr W37
  have E43q : Exa Z h37 b2 "[I" := E32q.wr W37
  have V44 : Ary Z h37 b2 .int 1 (lst [(.int x0)]) := V33.other W37 ne_b2_b17
  have E45q : Exa Z h37 b17 "[I" := E34q.wr W37
  have V46 : Ary Z h37 b17 .int 1 (lst [(.int (0 : Int32))]) := V35.sameL W37 (by simp)
  have K37 : Keep h0 h37 [a] := K26.wr W37 (Or.inr sz_b17)
  have N37 := Fr.snoc X37 N26 g_b17
  refine Go.st (mkF m 40 #[.val (.ref a), .val (.ref q), .val (.int (0 : Int32)), .val (.int (0 : Int32))] []) (fun _ k => st37 _ k) ?_
  refine Go.st (mkF m 41 #[.val (.ref a), .val (.ref q), .val (.int (0 : Int32)), .val (.int (0 : Int32))] [(.int (0 : Int32))]) (fun _ k => XS.iloadN X37.here hx rfl (hb hby d21_40) rfl k) ?_
  refine Go.st (mkF m 42 #[.val (.ref a), .val (.ref q), .val (.int (0 : Int32)), .val (.int (0 : Int32))] [(.ref q), (.int (0 : Int32))]) (fun _ k => XS.aloadN X37.here hx rfl (hb hby d21_41) rfl rfl k) ?_
  refine Go.st (mkF m 43 #[.val (.ref a), .val (.ref q), .val (.int (0 : Int32)), .val (.int (0 : Int32))] [(.int (0 : Int32)), (.ref q), (.int (0 : Int32))]) (fun _ k => XS.iloadN X37.here hx rfl (hb hby d21_42) rfl k) ?_
  refine Go.st (mkF m 44 #[.val (.ref a), .val (.ref q), .val (.int (0 : Int32)), .val (.int (0 : Int32))] [(.int x0), (.int (0 : Int32))]) (fun _ k => ldI X37 hx hZ e37 V41 (i := 0) (by decide) (by decide) (by decide) (v := (.int x0)) rfl (g := (mkF m 43 #[.val (.ref a), .val (.ref q), .val (.int (0 : Int32)), .val (.int (0 : Int32))] [(.int (0 : Int32)), (.ref q), (.int (0 : Int32))])) rfl rfl (hb hby d21_43) _ k) ?_
  obtain ⟨_, _, ⟨T47, L47, k47, n47⟩, -, X47, ⟨Lc47, hQ47, l47, y47, z47⟩, st47⟩ := Jvm.LawKit.callS X37 hx (y := (⟨"java/lang/Math", "addExact", "(II)I"⟩ : MethodName)) hown (mvT hZ (hw _ (List.mem_of_getElem? (i := 34) rfl))) (mvT hZ (hw _ (List.mem_of_getElem? (i := 35) rfl))) (mvT hZ (hw _ (List.mem_of_getElem? (i := 36) rfl))) (mvT hZ (hw _ (List.mem_of_getElem? (i := 37) rfl))) (by decide) (backOf (W := 0) (rm_9 l Z a0 hw [] (0 : Int32) x0 h37 n0 (Nat.le_trans Z0 K37.1) (own_ae0 pr7)) hZ (hw _ (List.mem_of_getElem? (i := 37) rfl)) (hw _ (List.mem_of_getElem? (i := 36) rfl)) (by decide) (by decide)) (g := (mkF m 44 #[.val (.ref a), .val (.ref q), .val (.int (0 : Int32)), .val (.int (0 : Int32))] [(.int x0), (.int (0 : Int32))])) rfl (by rw [hml]; rfl) (argsL := [(.int (0 : Int32)), (.int x0)]) (rest := []) (lenOf pd_0 rfl) rfl (by show 2 * 0 + _ ≤ _; exact Nat.le_of_eq rfl) (hb hby d21_44) (fun _ _ => ⟨rfl, e37, (by decide : 2 + 0 ≤ _), (by decide : 2 + 0 ≤ _)⟩)
  dsimp only [Pt.U, Pt.locs, Pt.cells, Pt.slots] at X47 l47 y47 z47 st47 hQ47
  subst l47 y47 z47
  obtain ⟨rfl, N47q, e47⟩ := hQ47
  have N47 := Fr.app N37 N47q
  refine Go.st (mkF m 47 #[.val (.ref a), .val (.ref q), .val (.int (0 : Int32)), .val (.int (0 : Int32))] [(.int ((0 : Int32) + x0))]) (fun _ k => st47 _ k) ?_
  refine Go.st (mkF m 48 #[.val (.ref a), .val (.ref q), .val (.int ((0 : Int32) + x0)), .val (.int (0 : Int32))] []) (fun _ k => XS.istoreN X47.here hx rfl (hb hby d21_47) rfl (l' := #[.val (.ref a), .val (.ref q), .val (.int ((0 : Int32) + x0)), .val (.int (0 : Int32))]) rfl k) ?_
  refine Go.st (mkF m 51 #[.val (.ref a), .val (.ref q), .val (.int ((0 : Int32) + x0)), .val (.int (1 : Int32))] []) (fun _ k => XS.iinc X47.here hx rfl (hb hby d21_48) rfl (l' := #[.val (.ref a), .val (.ref q), .val (.int ((0 : Int32) + x0)), .val (.int (1 : Int32))]) rfl k) ?_
  refine Go.st (mkF m 27 #[.val (.ref a), .val (.ref q), .val (.int ((0 : Int32) + x0)), .val (.int (1 : Int32))] []) (fun _ k => XS.goto X47.here hx rfl (pc0 := 51) (pc' := 27) rfl (hb hby d21_51) (by decide) (by decide) k) ?_
  refine Go.st (mkF m 28 #[.val (.ref a), .val (.ref q), .val (.int ((0 : Int32) + x0)), .val (.int (1 : Int32))] [(.int (1 : Int32))]) (fun _ k => XS.iloadN X47.here hx rfl (hb hby d21_27) rfl k) ?_
  refine Go.st (mkF m 29 #[.val (.ref a), .val (.ref q), .val (.int ((0 : Int32) + x0)), .val (.int (1 : Int32))] [(.ref q), (.int (1 : Int32))]) (fun _ k => XS.aloadN X47.here hx rfl (hb hby d21_28) rfl rfl k) ?_
  refine Go.st (mkF m 30 #[.val (.ref a), .val (.ref q), .val (.int ((0 : Int32) + x0)), .val (.int (1 : Int32))] [(.int (1 : Int32)), (.int (1 : Int32))]) (fun _ k => lenA X47 hx hZ e47 V41 (z := (1 : Int32)) rfl (g := (mkF m 29 #[.val (.ref a), .val (.ref q), .val (.int ((0 : Int32) + x0)), .val (.int (1 : Int32))] [(.ref q), (.int (1 : Int32))])) rfl rfl (hb hby d21_29) _ k) ?_
  refine Go.st (mkF m 54 #[.val (.ref a), .val (.ref q), .val (.int ((0 : Int32) + x0)), .val (.int (1 : Int32))] []) (fun _ k => XS.icmpYes X47.here hx rfl (pc0 := 30) (pc' := 54) rfl (hb hby d21_30) rfl (flt (by decide : ¬ ((1 : Int32) < (1 : Int32)))).2.1 (by decide) (by decide) k) ?_
  exact Go.retV X47 hx Bd.notSynchronized Bd.returns (hb hby d21_54) (by rw [e47]; exact ⟨b2, b17, rfl, N47, K37, sz_b2, sz_b17, F39, F40, V44, V46⟩) (by decide) (by decide)
theorem d31_0 : decode prog_1_method_4_code 0 = .ok (.aload_n 0, 1) := by decide +kernel
theorem d31_1 : decode prog_1_method_4_code 1 = .ok (.getfield 13, 3) := by decide +kernel
theorem d31_4 : decode prog_1_method_4_code 4 = .ok (.arraylength, 1) := by decide +kernel
theorem d31_5 : decode prog_1_method_4_code 5 = .ok (.ifCond .ne 7, 3) := by decide +kernel
theorem d31_12 : decode prog_1_method_4_code 12 = .ok (.aload_n 0, 1) := by decide +kernel
theorem d31_13 : decode prog_1_method_4_code 13 = .ok (.getfield 18, 3) := by decide +kernel
theorem d31_16 : decode prog_1_method_4_code 16 = .ok (.aload_n 0, 1) := by decide +kernel
theorem d31_17 : decode prog_1_method_4_code 17 = .ok (.getfield 13, 3) := by decide +kernel
theorem d31_20 : decode prog_1_method_4_code 20 = .ok (.arraylength, 1) := by decide +kernel
theorem d31_21 : decode prog_1_method_4_code 21 = .ok (.iconst 1, 1) := by decide +kernel
theorem d31_22 : decode prog_1_method_4_code 22 = .ok (.isub, 1) := by decide +kernel
theorem d31_23 : decode prog_1_method_4_code 23 = .ok (.iaload, 1) := by decide +kernel
theorem d31_24 : decode prog_1_method_4_code 24 = .ok (.aload_n 0, 1) := by decide +kernel
theorem d31_25 : decode prog_1_method_4_code 25 = .ok (.getfield 13, 3) := by decide +kernel
theorem d31_28 : decode prog_1_method_4_code 28 = .ok (.aload_n 0, 1) := by decide +kernel
theorem d31_29 : decode prog_1_method_4_code 29 = .ok (.getfield 13, 3) := by decide +kernel
theorem d31_32 : decode prog_1_method_4_code 32 = .ok (.arraylength, 1) := by decide +kernel
theorem d31_33 : decode prog_1_method_4_code 33 = .ok (.iconst 1, 1) := by decide +kernel
theorem d31_34 : decode prog_1_method_4_code 34 = .ok (.isub, 1) := by decide +kernel
theorem d31_35 : decode prog_1_method_4_code 35 = .ok (.iaload, 1) := by decide +kernel
theorem d31_36 : decode prog_1_method_4_code 36 = .ok (.iadd, 1) := by decide +kernel
theorem d31_37 : decode prog_1_method_4_code 37 = .ok (.ireturn, 1) := by decide +kernel
theorem ef_31 (m : MethodId) (a : Addr) : entryFrame m #[(.ref a)] 1 = (mkF m 0 #[.val (.ref a)] []) := by first | (simp [entryFrame, mkF, argsToLocals, Value.category]; done) | rfl
def Q_31 (Z : State) (a : Addr) (b1 : Addr) (b2 : Addr) (x0 : Int32) (y0 : Int32) (h0 : Heap) (n0 : Nat) (v : Option Value) (h : Heap) (L : List Loc) : Prop := v = some (.int (y0 + x0)) ∧ Fr n0 L ∧ h = h0
set_option maxRecDepth 65536 in
set_option maxHeartbeats 40000000 in
theorem rm_31 (l : Launch) (Z : State) (a0 : Array Value) (hw : ∀ d ∈ tables_1, d.before a0 Z = true) (ws : List Jvm.Cond) (a : Addr) (b1 : Addr) (b2 : Addr) (x0 : Int32) (y0 : Int32) (h0 : Heap) (n0 : Nat) (Z0 : n0 ≤ h0.size) (pr0 : Fld Z h0 a "com/example/regular_role_reasoner/regularrolereasoner/alcoif/Elements" "sizes" "[I" (.ref b1)) (pr1 : Fld Z h0 a "com/example/regular_role_reasoner/regularrolereasoner/alcoif/Elements" "first" "[I" (.ref b2)) (pr2 : Ary Z h0 b1 .int 1 (lst [(.int x0)])) (pr3 : Ary Z h0 b2 .int 1 (lst [(.int y0)])) :
    MetFree l (⟨"com/example/regular_role_reasoner/regularrolereasoner/alcoif/Elements", "total", "()I"⟩ : MethodName) (head1 (Jvm.Cond.code (⟨"com/example/regular_role_reasoner/regularrolereasoner/alcoif/Elements", "total", "()I"⟩ : MethodName) prog_1_method_4_code 1 (some .int) :: ws) ({ frames := 0, cells := 0, slots := 0, locals := 0 } : Room)) (fun aa U => aa = #[(.ref a)] ∧ Z.Warmed39 U.vm ∧ U.heap = h0) (fun _ _ _ _ _ => True) (fun _ U o U' => ∃ v L, o = .returned v ∧ Q_31 Z a b1 b2 x0 y0 h0 n0 v U'.heap L ∧ FrameEnd U o U' L ({ frames := 0, cells := 0, slots := 0, locals := 0 } : Room).cells ({ frames := 0, cells := 0, slots := 0, locals := 0 } : Room).slots) := by
  refine MetFree.of_bodySF (plainFor_of_name pn_1) hisR ?_
  intro p e s m args below meth c s₁ Bd hml0 hP hK
  obtain ⟨rfl, hZ, hh⟩ := hP
  have hx := Bd.exec
  have hby := Bd.bytes
  have hml : c.maxLocals = 1 := hml0
  have hown : s.vm.findClass "com/example/regular_role_reasoner/regularrolereasoner/alcoif/Elements" = some m.cls := findClass_of_methodNamed Bd.named
  have hnm := (name_of_methodNamed Bd.named Bd.method).1
  have X0 : Stand p l e ({ frames := 0, cells := 0, slots := 0, locals := 0 } : Room) s m #[(.ref a)] below meth c s₁ [] 0 0 := Stand.of_body Bd
  have e0 : s₁.heap = h0 := by rw [← hh, Bd.state]; rfl
  have N0 := Fr.nil n0
  have K0 := Keep.refl h0 []
  show Go p e below s (Q_31 Z a b1 b2 x0 y0 h0 n0) 0 0 s₁ (entryFrame m #[(.ref a)] 1)
  refine Go.of_eq (ef_31 m a) ?_
  refine Go.st (mkF m 1 #[.val (.ref a)] [(.ref a)]) (fun _ k => XS.aloadN X0.here hx rfl (hb hby d31_0) rfl rfl k) ?_
  obtain ⟨T1, X1, e1, st1⟩ := getF X0 hx hZ hown (host := "") (Or.inl (hw _ (List.mem_of_getElem? (i := 25) rfl))) Via.refl e0 pr0 (g := (mkF m 1 #[.val (.ref a)] [(.ref a)])) rfl rfl (hb hby d31_1)
  refine Go.st (mkF m 4 #[.val (.ref a)] [(.ref b1)]) (fun _ k => st1 _ k) ?_
  refine Go.st (mkF m 5 #[.val (.ref a)] [(.int (1 : Int32))]) (fun _ k => lenA X1 hx hZ e1 pr2 (z := (1 : Int32)) rfl (g := (mkF m 4 #[.val (.ref a)] [(.ref b1)])) rfl rfl (hb hby d31_4) _ k) ?_
  refine Go.st (mkF m 12 #[.val (.ref a)] []) (fun _ k => XS.ifYes X1.here hx rfl (pc0 := 5) (pc' := 12) rfl (hb hby d31_5) rfl ((if0 _ _).trans (feq (by decide : ¬ ((1 : Int32) = (0 : Int32)))).2) (by decide) (by decide) k) ?_
  refine Go.st (mkF m 13 #[.val (.ref a)] [(.ref a)]) (fun _ k => XS.aloadN X1.here hx rfl (hb hby d31_12) rfl rfl k) ?_
  obtain ⟨T2, X2, e2, st2⟩ := getF X1 hx hZ hown (host := "") (Or.inl (hw _ (List.mem_of_getElem? (i := 27) rfl))) Via.refl e1 pr1 (g := (mkF m 13 #[.val (.ref a)] [(.ref a)])) rfl rfl (hb hby d31_13)
  refine Go.st (mkF m 16 #[.val (.ref a)] [(.ref b2)]) (fun _ k => st2 _ k) ?_
  refine Go.st (mkF m 17 #[.val (.ref a)] [(.ref a), (.ref b2)]) (fun _ k => XS.aloadN X2.here hx rfl (hb hby d31_16) rfl rfl k) ?_
  obtain ⟨T3, X3, e3, st3⟩ := getF X2 hx hZ hown (host := "") (Or.inl (hw _ (List.mem_of_getElem? (i := 25) rfl))) Via.refl e2 pr0 (g := (mkF m 17 #[.val (.ref a)] [(.ref a), (.ref b2)])) rfl rfl (hb hby d31_17)
  refine Go.st (mkF m 20 #[.val (.ref a)] [(.ref b1), (.ref b2)]) (fun _ k => st3 _ k) ?_
  refine Go.st (mkF m 21 #[.val (.ref a)] [(.int (1 : Int32)), (.ref b2)]) (fun _ k => lenA X3 hx hZ e3 pr2 (z := (1 : Int32)) rfl (g := (mkF m 20 #[.val (.ref a)] [(.ref b1), (.ref b2)])) rfl rfl (hb hby d31_20) _ k) ?_
  refine Go.st (mkF m 22 #[.val (.ref a)] [(.int (1 : Int32)), (.int (1 : Int32)), (.ref b2)]) (fun _ k => XS.iconst X3.here hx rfl (hb hby d31_21) k) ?_
  refine Go.st (mkF m 23 #[.val (.ref a)] [(.int (0 : Int32)), (.ref b2)]) (fun _ k => XS.isub X3.here hx rfl (hb hby d31_22) rfl k) ?_
  refine Go.st (mkF m 24 #[.val (.ref a)] [(.int y0)]) (fun _ k => ldI X3 hx hZ e3 pr3 (i := 0) (by decide) (by decide) (by decide) (v := (.int y0)) rfl (g := (mkF m 23 #[.val (.ref a)] [(.int (0 : Int32)), (.ref b2)])) rfl rfl (hb hby d31_23) _ k) ?_
  refine Go.st (mkF m 25 #[.val (.ref a)] [(.ref a), (.int y0)]) (fun _ k => XS.aloadN X3.here hx rfl (hb hby d31_24) rfl rfl k) ?_
  obtain ⟨T4, X4, e4, st4⟩ := getF X3 hx hZ hown (host := "") (Or.inl (hw _ (List.mem_of_getElem? (i := 25) rfl))) Via.refl e3 pr0 (g := (mkF m 25 #[.val (.ref a)] [(.ref a), (.int y0)])) rfl rfl (hb hby d31_25)
  refine Go.st (mkF m 28 #[.val (.ref a)] [(.ref b1), (.int y0)]) (fun _ k => st4 _ k) ?_
  refine Go.st (mkF m 29 #[.val (.ref a)] [(.ref a), (.ref b1), (.int y0)]) (fun _ k => XS.aloadN X4.here hx rfl (hb hby d31_28) rfl rfl k) ?_
  obtain ⟨T5, X5, e5, st5⟩ := getF X4 hx hZ hown (host := "") (Or.inl (hw _ (List.mem_of_getElem? (i := 25) rfl))) Via.refl e4 pr0 (g := (mkF m 29 #[.val (.ref a)] [(.ref a), (.ref b1), (.int y0)])) rfl rfl (hb hby d31_29)
  refine Go.st (mkF m 32 #[.val (.ref a)] [(.ref b1), (.ref b1), (.int y0)]) (fun _ k => st5 _ k) ?_
  refine Go.st (mkF m 33 #[.val (.ref a)] [(.int (1 : Int32)), (.ref b1), (.int y0)]) (fun _ k => lenA X5 hx hZ e5 pr2 (z := (1 : Int32)) rfl (g := (mkF m 32 #[.val (.ref a)] [(.ref b1), (.ref b1), (.int y0)])) rfl rfl (hb hby d31_32) _ k) ?_
  refine Go.st (mkF m 34 #[.val (.ref a)] [(.int (1 : Int32)), (.int (1 : Int32)), (.ref b1), (.int y0)]) (fun _ k => XS.iconst X5.here hx rfl (hb hby d31_33) k) ?_
  refine Go.st (mkF m 35 #[.val (.ref a)] [(.int (0 : Int32)), (.ref b1), (.int y0)]) (fun _ k => XS.isub X5.here hx rfl (hb hby d31_34) rfl k) ?_
  refine Go.st (mkF m 36 #[.val (.ref a)] [(.int x0), (.int y0)]) (fun _ k => ldI X5 hx hZ e5 pr2 (i := 0) (by decide) (by decide) (by decide) (v := (.int x0)) rfl (g := (mkF m 35 #[.val (.ref a)] [(.int (0 : Int32)), (.ref b1), (.int y0)])) rfl rfl (hb hby d31_35) _ k) ?_
  refine Go.st (mkF m 37 #[.val (.ref a)] [(.int (y0 + x0))]) (fun _ k => XS.iadd X5.here hx rfl (hb hby d31_36) rfl k) ?_
  exact Go.retI X5 hx Bd.notSynchronized Bd.returns (hb hby d31_37) ⟨rfl, N0, e5⟩ (by decide) (by decide)
theorem d22_0 : decode prog_1_method_1_code 0 = .ok (.aload_n 0, 1) := by decide +kernel
theorem d22_1 : decode prog_1_method_1_code 1 = .ok (.invokespecial 1, 3) := by decide +kernel
theorem d22_4 : decode prog_1_method_1_code 4 = .ok (.aload_n 0, 1) := by decide +kernel
theorem d22_5 : decode prog_1_method_1_code 5 = .ok (.aload_n 1, 1) := by decide +kernel
theorem d22_6 : decode prog_1_method_1_code 6 = .ok (.invokevirtual 7, 3) := by decide +kernel
theorem d22_9 : decode prog_1_method_1_code 9 = .ok (.checkcast 8, 3) := by decide +kernel
theorem d22_12 : decode prog_1_method_1_code 12 = .ok (.putfield 13, 3) := by decide +kernel
theorem d22_15 : decode prog_1_method_1_code 15 = .ok (.aload_n 0, 1) := by decide +kernel
theorem d22_16 : decode prog_1_method_1_code 16 = .ok (.aload_n 1, 1) := by decide +kernel
theorem d22_17 : decode prog_1_method_1_code 17 = .ok (.arraylength, 1) := by decide +kernel
theorem d22_18 : decode prog_1_method_1_code 18 = .ok (.newarray .int, 2) := by decide +kernel
theorem d22_20 : decode prog_1_method_1_code 20 = .ok (.putfield 18, 3) := by decide +kernel
theorem d22_23 : decode prog_1_method_1_code 23 = .ok (.iconst 0, 1) := by decide +kernel
theorem d22_24 : decode prog_1_method_1_code 24 = .ok (.istore_n 2, 1) := by decide +kernel
theorem d22_25 : decode prog_1_method_1_code 25 = .ok (.iconst 0, 1) := by decide +kernel
theorem d22_26 : decode prog_1_method_1_code 26 = .ok (.istore_n 3, 1) := by decide +kernel
theorem d22_27 : decode prog_1_method_1_code 27 = .ok (.iload_n 3, 1) := by decide +kernel
theorem d22_28 : decode prog_1_method_1_code 28 = .ok (.aload_n 1, 1) := by decide +kernel
theorem d22_29 : decode prog_1_method_1_code 29 = .ok (.arraylength, 1) := by decide +kernel
theorem d22_30 : decode prog_1_method_1_code 30 = .ok (.if_icmp .ge 24, 3) := by decide +kernel
theorem d22_33 : decode prog_1_method_1_code 33 = .ok (.aload_n 0, 1) := by decide +kernel
theorem d22_34 : decode prog_1_method_1_code 34 = .ok (.getfield 18, 3) := by decide +kernel
theorem d22_37 : decode prog_1_method_1_code 37 = .ok (.iload_n 3, 1) := by decide +kernel
theorem d22_38 : decode prog_1_method_1_code 38 = .ok (.iload_n 2, 1) := by decide +kernel
theorem d22_39 : decode prog_1_method_1_code 39 = .ok (.iastore, 1) := by decide +kernel
theorem d22_40 : decode prog_1_method_1_code 40 = .ok (.iload_n 2, 1) := by decide +kernel
theorem d22_41 : decode prog_1_method_1_code 41 = .ok (.aload_n 1, 1) := by decide +kernel
theorem d22_42 : decode prog_1_method_1_code 42 = .ok (.iload_n 3, 1) := by decide +kernel
theorem d22_43 : decode prog_1_method_1_code 43 = .ok (.iaload, 1) := by decide +kernel
theorem d22_44 : decode prog_1_method_1_code 44 = .ok (.invokestatic 21, 3) := by decide +kernel
theorem d22_47 : decode prog_1_method_1_code 47 = .ok (.istore_n 2, 1) := by decide +kernel
theorem d22_48 : decode prog_1_method_1_code 48 = .ok (.iinc 3 1, 3) := by decide +kernel
theorem d22_51 : decode prog_1_method_1_code 51 = .ok (.goto (-24), 3) := by decide +kernel
theorem d22_54 : decode prog_1_method_1_code 54 = .ok (.return_, 1) := by decide +kernel
theorem ef_22 (m : MethodId) (a : Addr) (q : Addr) : entryFrame m #[(.ref a), (.ref q)] 4 = (mkF m 0 #[.val (.ref a), .val (.ref q), .unset, .unset] []) := by first | (simp [entryFrame, mkF, argsToLocals, Value.category]; done) | rfl
def Q_22 (Z : State) (a : Addr) (q : Addr) (x0 : Int32) (x1 : Int32) (h0 : Heap) (n0 : Nat) (v : Option Value) (h : Heap) (L : List Loc) : Prop := ∃ b1 : Addr, ∃ b2 : Addr, v = none ∧ Fr n0 L ∧ Keep h0 h [a] ∧ h0.size ≤ b1 ∧ h0.size ≤ b2 ∧ Fld Z h a "com/example/regular_role_reasoner/regularrolereasoner/alcoif/Elements" "sizes" "[I" (.ref b1) ∧ Fld Z h a "com/example/regular_role_reasoner/regularrolereasoner/alcoif/Elements" "first" "[I" (.ref b2) ∧ Ary Z h b1 .int 2 (lst [(.int x0), (.int x1)]) ∧ Ary Z h b2 .int 2 (lst [(.int (0 : Int32)), (.int ((0 : Int32) + x0))])
set_option maxRecDepth 65536 in
set_option maxHeartbeats 40000000 in
theorem rm_22 (l : Launch) (Z : State) (a0 : Array Value) (hw : ∀ d ∈ tables_1, d.before a0 Z = true) (ws : List Jvm.Cond) (a : Addr) (q : Addr) (x0 : Int32) (x1 : Int32) (h0 : Heap) (n0 : Nat) (Z0 : n0 ≤ h0.size) (pr0 : Exa Z h0 a "com/example/regular_role_reasoner/regularrolereasoner/alcoif/Elements") (pr1 : Fld Z h0 a "com/example/regular_role_reasoner/regularrolereasoner/alcoif/Elements" "sizes" "[I" .null) (pr2 : Fld Z h0 a "com/example/regular_role_reasoner/regularrolereasoner/alcoif/Elements" "first" "[I" .null) (pr3 : Ary Z h0 q .int 2 (lst [(.int x0), (.int x1)])) (pr4 : Exa Z h0 q "[I") (pr5 : n0 ≤ a) (pr6 : a ≠ q) (pr7 : Sml x0) (pr8 : Sml x1) :
    MetFree l (⟨"com/example/regular_role_reasoner/regularrolereasoner/alcoif/Elements", "<init>", "([I)V"⟩ : MethodName) (head1 (Jvm.Cond.code (⟨"com/example/regular_role_reasoner/regularrolereasoner/alcoif/Elements", "<init>", "([I)V"⟩ : MethodName) prog_1_method_1_code 4 none :: ws) ({ frames := 1, cells := 2, slots := 4, locals := 15 } : Room)) (fun aa U => aa = #[(.ref a), (.ref q)] ∧ Z.Warmed39 U.vm ∧ U.heap = h0) (fun _ _ _ _ _ => True) (fun _ U o U' => ∃ v L, o = .returned v ∧ Q_22 Z a q x0 x1 h0 n0 v U'.heap L ∧ FrameEnd U o U' L ({ frames := 1, cells := 2, slots := 4, locals := 15 } : Room).cells ({ frames := 1, cells := 2, slots := 4, locals := 15 } : Room).slots) := by
  refine MetFree.of_bodySF (plainFor_of_name pn_1) hisR ?_
  intro p e s m args below meth c s₁ Bd hml0 hP hK
  obtain ⟨rfl, hZ, hh⟩ := hP
  have hx := Bd.exec
  have hby := Bd.bytes
  have hml : c.maxLocals = 4 := hml0
  have hown : s.vm.findClass "com/example/regular_role_reasoner/regularrolereasoner/alcoif/Elements" = some m.cls := findClass_of_methodNamed Bd.named
  have hnm := (name_of_methodNamed Bd.named Bd.method).1
  have X0 : Stand p l e ({ frames := 1, cells := 2, slots := 4, locals := 15 } : Room) s m #[(.ref a), (.ref q)] below meth c s₁ [] 0 0 := Stand.of_body Bd
  have e0 : s₁.heap = h0 := by rw [← hh, Bd.state]; rfl
  have N0 := Fr.nil n0
  have K0 := Keep.refl h0 [a]
  show Go p e below s (Q_22 Z a q x0 x1 h0 n0) 2 4 s₁ (entryFrame m #[(.ref a), (.ref q)] 4)
  refine Go.of_eq (ef_22 m a q) ?_
  refine Go.st (mkF m 1 #[.val (.ref a), .val (.ref q), .unset, .unset] [(.ref a)]) (fun _ k => XS.aloadN X0.here hx rfl (hb hby d22_0) rfl rfl k) ?_
  obtain ⟨T1, X1, e1, st1⟩ := initO X0 hx hZ hown (hw _ (List.mem_of_getElem? (i := 13) rfl)) (hw _ (List.mem_of_getElem? (i := 14) rfl)) (hw _ (List.mem_of_getElem? (i := 15) rfl)) e0 (g := (mkF m 1 #[.val (.ref a), .val (.ref q), .unset, .unset] [(.ref a)])) rfl (by rw [hml]; rfl) rfl (hb hby d22_1) (by decide) (W := 0) (by show 2 * 0 + _ ≤ _; exact Nat.le_of_eq rfl) (by decide)
  refine Go.st (mkF m 4 #[.val (.ref a), .val (.ref q), .unset, .unset] []) (fun _ k => st1 _ k) ?_
  refine Go.st (mkF m 5 #[.val (.ref a), .val (.ref q), .unset, .unset] [(.ref a)]) (fun _ k => XS.aloadN X1.here hx rfl (hb hby d22_4) rfl rfl k) ?_
  refine Go.st (mkF m 6 #[.val (.ref a), .val (.ref q), .unset, .unset] [(.ref q), (.ref a)]) (fun _ k => XS.aloadN X1.here hx rfl (hb hby d22_5) rfl rfl k) ?_
  obtain ⟨T2, h2, X2, e2, E2, A2, Y2, st2⟩ := cloneY X1 hx hZ hown (hw _ (List.mem_of_getElem? (i := 16) rfl)) (hw _ (List.mem_of_getElem? (i := 17) rfl)) (hw _ (List.mem_of_getElem? (i := 21) rfl)) (hw _ (List.mem_of_getElem? (i := 19) rfl)) (hw _ (List.mem_of_getElem? (i := 20) rfl)) (hw _ (List.mem_of_getElem? (i := 22) rfl)) e1 pr3 pr4 (by simp [lst]) (g := (mkF m 6 #[.val (.ref a), .val (.ref q), .unset, .unset] [(.ref q), (.ref a)])) rfl (by rw [hml]; rfl) rfl (hb hby d22_6) (by decide) (W := 1) (cap := 2) (by show 2 * 0 + _ ≤ _; exact Nat.le_of_eq rfl) (by decide) (by decide) (by decide) (by decide)
  obtain ⟨b2, q2⟩ : ∃ z, z = h0.size := ⟨_, rfl⟩
  rw [← q2] at A2 Y2 st2
  have sz_b2 : h0.size ≤ b2 := by rw [q2]; exact K0.1
  have g_b2 : n0 ≤ b2 := Nat.le_trans Z0 sz_b2
  have ne_a_b2 : a ≠ b2 := Nat.ne_of_lt (by rw [q2]; exact pr0.lt)
  have ne_q_b2 : q ≠ b2 := Nat.ne_of_lt (by rw [q2]; exact pr3.lt)
  have E3q : Exa Z h2 a "com/example/regular_role_reasoner/regularrolereasoner/alcoif/Elements" := pr0.ext E2
  have F4 : Fld Z h2 a "com/example/regular_role_reasoner/regularrolereasoner/alcoif/Elements" "sizes" "[I" .null := pr1.ext E2
  have F5 : Fld Z h2 a "com/example/regular_role_reasoner/regularrolereasoner/alcoif/Elements" "first" "[I" .null := pr2.ext E2
  have V6 : Ary Z h2 q .int 2 (lst [(.int x0), (.int x1)]) := pr3.ext E2
  have E7q : Exa Z h2 q "[I" := pr4.ext E2
  have K2 : Keep h0 h2 [a] := K0.ext E2
  refine Go.st (mkF m 9 #[.val (.ref a), .val (.ref q), .unset, .unset] [(.ref b2), (.ref a)]) (fun _ k => st2 _ k) ?_
  obtain ⟨T8, X8, e8, st8⟩ := castY X2 hx hZ hown (hw _ (List.mem_of_getElem? (i := 23) rfl)) e2 (Ins.self Y2) (g := (mkF m 9 #[.val (.ref a), .val (.ref q), .unset, .unset] [(.ref b2), (.ref a)])) rfl rfl (hb hby d22_9)
  refine Go.st (mkF m 12 #[.val (.ref a), .val (.ref q), .unset, .unset] [(.ref b2), (.ref a)]) (fun _ k => st8 _ k) ?_
  obtain ⟨T9, h9, X9, e9, W9, st9⟩ := putF X8 hx hZ hown (host := "") (Or.inl (hw _ (List.mem_of_getElem? (i := 25) rfl))) Via.refl e8 F4 E3q (Or.inr ⟨(hw _ (List.mem_of_getElem? (i := 26) rfl)), rfl, hnm⟩) (hw _ (List.mem_of_getElem? (i := 8) rfl)) (ty := (.array .int)) (by decide) rfl rfl (g := (mkF m 12 #[.val (.ref a), .val (.ref q), .unset, .unset] [(.ref b2), (.ref a)])) rfl rfl (hb hby d22_12)
  have E10q : Exa Z h9 a "com/example/regular_role_reasoner/regularrolereasoner/alcoif/Elements" := E3q.wr W9
  have F11 : Fld Z h9 a "com/example/regular_role_reasoner/regularrolereasoner/alcoif/Elements" "sizes" "[I" (.ref b2) := F4.same W9
  have F12 : Fld Z h9 a "com/example/regular_role_reasoner/regularrolereasoner/alcoif/Elements" "first" "[I" .null := F5.other W9 (Or.inr (slot_ne (Or.inr (hw _ (List.mem_of_getElem? (i := 28) rfl))) (Or.inr (hw _ (List.mem_of_getElem? (i := 26) rfl))) (by decide) (t := (.array .int)) (t' := (.array .int)) (by decide) (by decide)))
  have V13 : Ary Z h9 q .int 2 (lst [(.int x0), (.int x1)]) := V6.other W9 (Ne.symm pr6)
  have E14q : Exa Z h9 q "[I" := E7q.wr W9
  have E15q : Exa Z h9 b2 "[I" := Y2.wr W9
  have V16 : Ary Z h9 b2 .int 2 (lst [(.int x0), (.int x1)]) := A2.other W9 (Ne.symm ne_a_b2)
  have K9 : Keep h0 h9 [a] := K2.wr W9 (Or.inl (by simp))
  have N9 := Fr.snoc X9 N0 pr5
  refine Go.st (mkF m 15 #[.val (.ref a), .val (.ref q), .unset, .unset] []) (fun _ k => st9 _ k) ?_
  refine Go.st (mkF m 16 #[.val (.ref a), .val (.ref q), .unset, .unset] [(.ref a)]) (fun _ k => XS.aloadN X9.here hx rfl (hb hby d22_15) rfl rfl k) ?_
  refine Go.st (mkF m 17 #[.val (.ref a), .val (.ref q), .unset, .unset] [(.ref q), (.ref a)]) (fun _ k => XS.aloadN X9.here hx rfl (hb hby d22_16) rfl rfl k) ?_
  refine Go.st (mkF m 18 #[.val (.ref a), .val (.ref q), .unset, .unset] [(.int (2 : Int32)), (.ref a)]) (fun _ k => lenA X9 hx hZ e9 V13 (z := (2 : Int32)) rfl (g := (mkF m 17 #[.val (.ref a), .val (.ref q), .unset, .unset] [(.ref q), (.ref a)])) rfl rfl (hb hby d22_17) _ k) ?_
  obtain ⟨T17, h17, k17, X17, e17, E17, A17, Y17, st17⟩ := newPE X9 hx hZ (hw _ (List.mem_of_getElem? (i := 6) rfl)) e9 (g := (mkF m 18 #[.val (.ref a), .val (.ref q), .unset, .unset] [(.int (2 : Int32)), (.ref a)])) rfl (hb hby d22_18) rfl (by decide) (cap := 2) (by decide) (by decide) (by decide) (by decide) (ad := "[I") rfl
  obtain ⟨b17, q17⟩ : ∃ z, z = h9.size := ⟨_, rfl⟩
  rw [← q17] at A17 st17 Y17
  have sz_b17 : h0.size ≤ b17 := by rw [q17]; exact K9.1
  have g_b17 : n0 ≤ b17 := Nat.le_trans Z0 sz_b17
  have ne_a_b17 : a ≠ b17 := Nat.ne_of_lt (by rw [q17]; exact E10q.lt)
  have ne_q_b17 : q ≠ b17 := Nat.ne_of_lt (by rw [q17]; exact V13.lt)
  have ne_b2_b17 : b2 ≠ b17 := Nat.ne_of_lt (by rw [q17]; exact E15q.lt)
  have E18q : Exa Z h17 a "com/example/regular_role_reasoner/regularrolereasoner/alcoif/Elements" := E10q.ext E17
  have F19 : Fld Z h17 a "com/example/regular_role_reasoner/regularrolereasoner/alcoif/Elements" "sizes" "[I" (.ref b2) := F11.ext E17
  have F20 : Fld Z h17 a "com/example/regular_role_reasoner/regularrolereasoner/alcoif/Elements" "first" "[I" .null := F12.ext E17
  have V21 : Ary Z h17 q .int 2 (lst [(.int x0), (.int x1)]) := V13.ext E17
  have E22q : Exa Z h17 q "[I" := E14q.ext E17
  have E23q : Exa Z h17 b2 "[I" := E15q.ext E17
  have V24 : Ary Z h17 b2 .int 2 (lst [(.int x0), (.int x1)]) := V16.ext E17
  have K17 : Keep h0 h17 [a] := K9.ext E17
  have V25 : Ary Z h17 b17 .int 2 (lst [(.int (0 : Int32)), (.int (0 : Int32))]) := Ary.newL A17 (by decide)
  refine Go.st (mkF m 20 #[.val (.ref a), .val (.ref q), .unset, .unset] [(.ref b17), (.ref a)]) (fun _ k => st17 _ k) ?_
  obtain ⟨T26, h26, X26, e26, W26, st26⟩ := putF X17 hx hZ hown (host := "") (Or.inl (hw _ (List.mem_of_getElem? (i := 27) rfl))) Via.refl e17 F20 E18q (Or.inr ⟨(hw _ (List.mem_of_getElem? (i := 28) rfl)), rfl, hnm⟩) (hw _ (List.mem_of_getElem? (i := 8) rfl)) (ty := (.array .int)) (by decide) rfl rfl (g := (mkF m 20 #[.val (.ref a), .val (.ref q), .unset, .unset] [(.ref b17), (.ref a)])) rfl rfl (hb hby d22_20)
  have E27q : Exa Z h26 a "com/example/regular_role_reasoner/regularrolereasoner/alcoif/Elements" := E18q.wr W26
  have F28 : Fld Z h26 a "com/example/regular_role_reasoner/regularrolereasoner/alcoif/Elements" "sizes" "[I" (.ref b2) := F19.other W26 (Or.inr (slot_ne (Or.inr (hw _ (List.mem_of_getElem? (i := 26) rfl))) (Or.inr (hw _ (List.mem_of_getElem? (i := 28) rfl))) (by decide) (t := (.array .int)) (t' := (.array .int)) (by decide) (by decide)))
  have F29 : Fld Z h26 a "com/example/regular_role_reasoner/regularrolereasoner/alcoif/Elements" "first" "[I" (.ref b17) := F20.same W26
  have V30 : Ary Z h26 q .int 2 (lst [(.int x0), (.int x1)]) := V21.other W26 (Ne.symm pr6)
  have E31q : Exa Z h26 q "[I" := E22q.wr W26
  have E32q : Exa Z h26 b2 "[I" := E23q.wr W26
  have V33 : Ary Z h26 b2 .int 2 (lst [(.int x0), (.int x1)]) := V24.other W26 (Ne.symm ne_a_b2)
  have E34q : Exa Z h26 b17 "[I" := Y17.wr W26
  have V35 : Ary Z h26 b17 .int 2 (lst [(.int (0 : Int32)), (.int (0 : Int32))]) := V25.other W26 (Ne.symm ne_a_b17)
  have K26 : Keep h0 h26 [a] := K17.wr W26 (Or.inl (by simp))
  have N26 := Fr.snoc X26 N9 pr5
  refine Go.st (mkF m 23 #[.val (.ref a), .val (.ref q), .unset, .unset] []) (fun _ k => st26 _ k) ?_
  refine Go.st (mkF m 24 #[.val (.ref a), .val (.ref q), .unset, .unset] [(.int (0 : Int32))]) (fun _ k => XS.iconst X26.here hx rfl (hb hby d22_23) k) ?_
  refine Go.st (mkF m 25 #[.val (.ref a), .val (.ref q), .val (.int (0 : Int32)), .unset] []) (fun _ k => XS.istoreN X26.here hx rfl (hb hby d22_24) rfl (l' := #[.val (.ref a), .val (.ref q), .val (.int (0 : Int32)), .unset]) rfl k) ?_
  refine Go.st (mkF m 26 #[.val (.ref a), .val (.ref q), .val (.int (0 : Int32)), .unset] [(.int (0 : Int32))]) (fun _ k => XS.iconst X26.here hx rfl (hb hby d22_25) k) ?_
  refine Go.st (mkF m 27 #[.val (.ref a), .val (.ref q), .val (.int (0 : Int32)), .val (.int (0 : Int32))] []) (fun _ k => XS.istoreN X26.here hx rfl (hb hby d22_26) rfl (l' := #[.val (.ref a), .val (.ref q), .val (.int (0 : Int32)), .val (.int (0 : Int32))]) rfl k) ?_
  refine Go.st (mkF m 28 #[.val (.ref a), .val (.ref q), .val (.int (0 : Int32)), .val (.int (0 : Int32))] [(.int (0 : Int32))]) (fun _ k => XS.iloadN X26.here hx rfl (hb hby d22_27) rfl k) ?_
  refine Go.st (mkF m 29 #[.val (.ref a), .val (.ref q), .val (.int (0 : Int32)), .val (.int (0 : Int32))] [(.ref q), (.int (0 : Int32))]) (fun _ k => XS.aloadN X26.here hx rfl (hb hby d22_28) rfl rfl k) ?_
  refine Go.st (mkF m 30 #[.val (.ref a), .val (.ref q), .val (.int (0 : Int32)), .val (.int (0 : Int32))] [(.int (2 : Int32)), (.int (0 : Int32))]) (fun _ k => lenA X26 hx hZ e26 V30 (z := (2 : Int32)) rfl (g := (mkF m 29 #[.val (.ref a), .val (.ref q), .val (.int (0 : Int32)), .val (.int (0 : Int32))] [(.ref q), (.int (0 : Int32))])) rfl rfl (hb hby d22_29) _ k) ?_
  refine Go.st (mkF m 33 #[.val (.ref a), .val (.ref q), .val (.int (0 : Int32)), .val (.int (0 : Int32))] []) (fun _ k => XS.icmpNo X26.here hx rfl (hb hby d22_30) rfl (tlt (by decide : (0 : Int32) < (2 : Int32))).2.1 k) ?_
  refine Go.st (mkF m 34 #[.val (.ref a), .val (.ref q), .val (.int (0 : Int32)), .val (.int (0 : Int32))] [(.ref a)]) (fun _ k => XS.aloadN X26.here hx rfl (hb hby d22_33) rfl rfl k) ?_
  obtain ⟨T36, X36, e36, st36⟩ := getF X26 hx hZ hown (host := "") (Or.inl (hw _ (List.mem_of_getElem? (i := 27) rfl))) Via.refl e26 F29 (g := (mkF m 34 #[.val (.ref a), .val (.ref q), .val (.int (0 : Int32)), .val (.int (0 : Int32))] [(.ref a)])) rfl rfl (hb hby d22_34)
  refine Go.st (mkF m 37 #[.val (.ref a), .val (.ref q), .val (.int (0 : Int32)), .val (.int (0 : Int32))] [(.ref b17)]) (fun _ k => st36 _ k) ?_
  refine Go.st (mkF m 38 #[.val (.ref a), .val (.ref q), .val (.int (0 : Int32)), .val (.int (0 : Int32))] [(.int (0 : Int32)), (.ref b17)]) (fun _ k => XS.iloadN X36.here hx rfl (hb hby d22_37) rfl k) ?_
  refine Go.st (mkF m 39 #[.val (.ref a), .val (.ref q), .val (.int (0 : Int32)), .val (.int (0 : Int32))] [(.int (0 : Int32)), (.int (0 : Int32)), (.ref b17)]) (fun _ k => XS.iloadN X36.here hx rfl (hb hby d22_38) rfl k) ?_
  obtain ⟨T37, h37, X37, e37, W37, st37⟩ := stAI X36 hx hZ e36 V35 (i := 0) (by decide) (by decide) (by decide) (g := (mkF m 39 #[.val (.ref a), .val (.ref q), .val (.int (0 : Int32)), .val (.int (0 : Int32))] [(.int (0 : Int32)), (.int (0 : Int32)), (.ref b17)])) rfl rfl (hb hby d22_39)
  have E38q : Exa Z h37 a "com/example/regular_role_reasoner/regularrolereasoner/alcoif/Elements" := E27q.wr W37
  have F39 : Fld Z h37 a "com/example/regular_role_reasoner/regularrolereasoner/alcoif/Elements" "sizes" "[I" (.ref b2) := F28.other W37 (Or.inl ne_a_b17)
  have F40 : Fld Z h37 a "com/example/regular_role_reasoner/regularrolereasoner/alcoif/Elements" "first" "[I" (.ref b17) := F29.other W37 (Or.inl ne_a_b17)
  have V41 : Ary Z h37 q .int 2 (lst [(.int x0), (.int x1)]) := V30.other W37 ne_q_b17
  have E42q : Exa Z h37 q "[I" := E31q.wr W37
  have E43q : Exa Z h37 b2 "[I" := E32q.wr W37
  have V44 : Ary Z h37 b2 .int 2 (lst [(.int x0), (.int x1)]) := V33.other W37 ne_b2_b17
  have E45q : Exa Z h37 b17 "[I" := E34q.wr W37
  have V46 : Ary Z h37 b17 .int 2 (lst [(.int (0 : Int32)), (.int (0 : Int32))]) := V35.sameL W37 (by simp)
  have K37 : Keep h0 h37 [a] := K26.wr W37 (Or.inr sz_b17)
  have N37 := Fr.snoc X37 N26 g_b17
  refine Go.st (mkF m 40 #[.val (.ref a), .val (.ref q), .val (.int (0 : Int32)), .val (.int (0 : Int32))] []) (fun _ k => st37 _ k) ?_
  refine Go.st (mkF m 41 #[.val (.ref a), .val (.ref q), .val (.int (0 : Int32)), .val (.int (0 : Int32))] [(.int (0 : Int32))]) (fun _ k => XS.iloadN X37.here hx rfl (hb hby d22_40) rfl k) ?_
  refine Go.st (mkF m 42 #[.val (.ref a), .val (.ref q), .val (.int (0 : Int32)), .val (.int (0 : Int32))] [(.ref q), (.int (0 : Int32))]) (fun _ k => XS.aloadN X37.here hx rfl (hb hby d22_41) rfl rfl k) ?_
  refine Go.st (mkF m 43 #[.val (.ref a), .val (.ref q), .val (.int (0 : Int32)), .val (.int (0 : Int32))] [(.int (0 : Int32)), (.ref q), (.int (0 : Int32))]) (fun _ k => XS.iloadN X37.here hx rfl (hb hby d22_42) rfl k) ?_
  refine Go.st (mkF m 44 #[.val (.ref a), .val (.ref q), .val (.int (0 : Int32)), .val (.int (0 : Int32))] [(.int x0), (.int (0 : Int32))]) (fun _ k => ldI X37 hx hZ e37 V41 (i := 0) (by decide) (by decide) (by decide) (v := (.int x0)) rfl (g := (mkF m 43 #[.val (.ref a), .val (.ref q), .val (.int (0 : Int32)), .val (.int (0 : Int32))] [(.int (0 : Int32)), (.ref q), (.int (0 : Int32))])) rfl rfl (hb hby d22_43) _ k) ?_
  obtain ⟨_, _, ⟨T47, L47, k47, n47⟩, -, X47, ⟨Lc47, hQ47, l47, y47, z47⟩, st47⟩ := Jvm.LawKit.callS X37 hx (y := (⟨"java/lang/Math", "addExact", "(II)I"⟩ : MethodName)) hown (mvT hZ (hw _ (List.mem_of_getElem? (i := 34) rfl))) (mvT hZ (hw _ (List.mem_of_getElem? (i := 35) rfl))) (mvT hZ (hw _ (List.mem_of_getElem? (i := 36) rfl))) (mvT hZ (hw _ (List.mem_of_getElem? (i := 37) rfl))) (by decide) (backOf (W := 0) (rm_9 l Z a0 hw [] (0 : Int32) x0 h37 n0 (Nat.le_trans Z0 K37.1) (own_ae0 pr7)) hZ (hw _ (List.mem_of_getElem? (i := 37) rfl)) (hw _ (List.mem_of_getElem? (i := 36) rfl)) (by decide) (by decide)) (g := (mkF m 44 #[.val (.ref a), .val (.ref q), .val (.int (0 : Int32)), .val (.int (0 : Int32))] [(.int x0), (.int (0 : Int32))])) rfl (by rw [hml]; rfl) (argsL := [(.int (0 : Int32)), (.int x0)]) (rest := []) (lenOf pd_0 rfl) rfl (by show 2 * 0 + _ ≤ _; exact Nat.le_of_eq rfl) (hb hby d22_44) (fun _ _ => ⟨rfl, e37, (by decide : 2 + 0 ≤ _), (by decide : 4 + 0 ≤ _)⟩)
  dsimp only [Pt.U, Pt.locs, Pt.cells, Pt.slots] at X47 l47 y47 z47 st47 hQ47
  subst l47 y47 z47
  obtain ⟨rfl, N47q, e47⟩ := hQ47
  have N47 := Fr.app N37 N47q
  refine Go.st (mkF m 47 #[.val (.ref a), .val (.ref q), .val (.int (0 : Int32)), .val (.int (0 : Int32))] [(.int ((0 : Int32) + x0))]) (fun _ k => st47 _ k) ?_
  refine Go.st (mkF m 48 #[.val (.ref a), .val (.ref q), .val (.int ((0 : Int32) + x0)), .val (.int (0 : Int32))] []) (fun _ k => XS.istoreN X47.here hx rfl (hb hby d22_47) rfl (l' := #[.val (.ref a), .val (.ref q), .val (.int ((0 : Int32) + x0)), .val (.int (0 : Int32))]) rfl k) ?_
  refine Go.st (mkF m 51 #[.val (.ref a), .val (.ref q), .val (.int ((0 : Int32) + x0)), .val (.int (1 : Int32))] []) (fun _ k => XS.iinc X47.here hx rfl (hb hby d22_48) rfl (l' := #[.val (.ref a), .val (.ref q), .val (.int ((0 : Int32) + x0)), .val (.int (1 : Int32))]) rfl k) ?_
  refine Go.st (mkF m 27 #[.val (.ref a), .val (.ref q), .val (.int ((0 : Int32) + x0)), .val (.int (1 : Int32))] []) (fun _ k => XS.goto X47.here hx rfl (pc0 := 51) (pc' := 27) rfl (hb hby d22_51) (by decide) (by decide) k) ?_
  refine Go.st (mkF m 28 #[.val (.ref a), .val (.ref q), .val (.int ((0 : Int32) + x0)), .val (.int (1 : Int32))] [(.int (1 : Int32))]) (fun _ k => XS.iloadN X47.here hx rfl (hb hby d22_27) rfl k) ?_
  refine Go.st (mkF m 29 #[.val (.ref a), .val (.ref q), .val (.int ((0 : Int32) + x0)), .val (.int (1 : Int32))] [(.ref q), (.int (1 : Int32))]) (fun _ k => XS.aloadN X47.here hx rfl (hb hby d22_28) rfl rfl k) ?_
  refine Go.st (mkF m 30 #[.val (.ref a), .val (.ref q), .val (.int ((0 : Int32) + x0)), .val (.int (1 : Int32))] [(.int (2 : Int32)), (.int (1 : Int32))]) (fun _ k => lenA X47 hx hZ e47 V41 (z := (2 : Int32)) rfl (g := (mkF m 29 #[.val (.ref a), .val (.ref q), .val (.int ((0 : Int32) + x0)), .val (.int (1 : Int32))] [(.ref q), (.int (1 : Int32))])) rfl rfl (hb hby d22_29) _ k) ?_
  refine Go.st (mkF m 33 #[.val (.ref a), .val (.ref q), .val (.int ((0 : Int32) + x0)), .val (.int (1 : Int32))] []) (fun _ k => XS.icmpNo X47.here hx rfl (hb hby d22_30) rfl (tlt (by decide : (1 : Int32) < (2 : Int32))).2.1 k) ?_
  refine Go.st (mkF m 34 #[.val (.ref a), .val (.ref q), .val (.int ((0 : Int32) + x0)), .val (.int (1 : Int32))] [(.ref a)]) (fun _ k => XS.aloadN X47.here hx rfl (hb hby d22_33) rfl rfl k) ?_
  obtain ⟨T48, X48, e48, st48⟩ := getF X47 hx hZ hown (host := "") (Or.inl (hw _ (List.mem_of_getElem? (i := 27) rfl))) Via.refl e47 F40 (g := (mkF m 34 #[.val (.ref a), .val (.ref q), .val (.int ((0 : Int32) + x0)), .val (.int (1 : Int32))] [(.ref a)])) rfl rfl (hb hby d22_34)
  refine Go.st (mkF m 37 #[.val (.ref a), .val (.ref q), .val (.int ((0 : Int32) + x0)), .val (.int (1 : Int32))] [(.ref b17)]) (fun _ k => st48 _ k) ?_
  refine Go.st (mkF m 38 #[.val (.ref a), .val (.ref q), .val (.int ((0 : Int32) + x0)), .val (.int (1 : Int32))] [(.int (1 : Int32)), (.ref b17)]) (fun _ k => XS.iloadN X48.here hx rfl (hb hby d22_37) rfl k) ?_
  refine Go.st (mkF m 39 #[.val (.ref a), .val (.ref q), .val (.int ((0 : Int32) + x0)), .val (.int (1 : Int32))] [(.int ((0 : Int32) + x0)), (.int (1 : Int32)), (.ref b17)]) (fun _ k => XS.iloadN X48.here hx rfl (hb hby d22_38) rfl k) ?_
  obtain ⟨T49, h49, X49, e49, W49, st49⟩ := stAI X48 hx hZ e48 V46 (i := 1) (by decide) (by decide) (by decide) (g := (mkF m 39 #[.val (.ref a), .val (.ref q), .val (.int ((0 : Int32) + x0)), .val (.int (1 : Int32))] [(.int ((0 : Int32) + x0)), (.int (1 : Int32)), (.ref b17)])) rfl rfl (hb hby d22_39)
  have E50q : Exa Z h49 a "com/example/regular_role_reasoner/regularrolereasoner/alcoif/Elements" := E38q.wr W49
  have F51 : Fld Z h49 a "com/example/regular_role_reasoner/regularrolereasoner/alcoif/Elements" "sizes" "[I" (.ref b2) := F39.other W49 (Or.inl ne_a_b17)
  have F52 : Fld Z h49 a "com/example/regular_role_reasoner/regularrolereasoner/alcoif/Elements" "first" "[I" (.ref b17) := F40.other W49 (Or.inl ne_a_b17)
  have V53 : Ary Z h49 q .int 2 (lst [(.int x0), (.int x1)]) := V41.other W49 ne_q_b17
  have E54q : Exa Z h49 q "[I" := E42q.wr W49
  have E55q : Exa Z h49 b2 "[I" := E43q.wr W49
  have V56 : Ary Z h49 b2 .int 2 (lst [(.int x0), (.int x1)]) := V44.other W49 ne_b2_b17
  have E57q : Exa Z h49 b17 "[I" := E45q.wr W49
  have V58 : Ary Z h49 b17 .int 2 (lst [(.int (0 : Int32)), (.int ((0 : Int32) + x0))]) := V46.sameL W49 (by simp)
  have K49 : Keep h0 h49 [a] := K37.wr W49 (Or.inr sz_b17)
  have N49 := Fr.snoc X49 N47 g_b17
  refine Go.st (mkF m 40 #[.val (.ref a), .val (.ref q), .val (.int ((0 : Int32) + x0)), .val (.int (1 : Int32))] []) (fun _ k => st49 _ k) ?_
  refine Go.st (mkF m 41 #[.val (.ref a), .val (.ref q), .val (.int ((0 : Int32) + x0)), .val (.int (1 : Int32))] [(.int ((0 : Int32) + x0))]) (fun _ k => XS.iloadN X49.here hx rfl (hb hby d22_40) rfl k) ?_
  refine Go.st (mkF m 42 #[.val (.ref a), .val (.ref q), .val (.int ((0 : Int32) + x0)), .val (.int (1 : Int32))] [(.ref q), (.int ((0 : Int32) + x0))]) (fun _ k => XS.aloadN X49.here hx rfl (hb hby d22_41) rfl rfl k) ?_
  refine Go.st (mkF m 43 #[.val (.ref a), .val (.ref q), .val (.int ((0 : Int32) + x0)), .val (.int (1 : Int32))] [(.int (1 : Int32)), (.ref q), (.int ((0 : Int32) + x0))]) (fun _ k => XS.iloadN X49.here hx rfl (hb hby d22_42) rfl k) ?_
  refine Go.st (mkF m 44 #[.val (.ref a), .val (.ref q), .val (.int ((0 : Int32) + x0)), .val (.int (1 : Int32))] [(.int x1), (.int ((0 : Int32) + x0))]) (fun _ k => ldI X49 hx hZ e49 V53 (i := 1) (by decide) (by decide) (by decide) (v := (.int x1)) rfl (g := (mkF m 43 #[.val (.ref a), .val (.ref q), .val (.int ((0 : Int32) + x0)), .val (.int (1 : Int32))] [(.int (1 : Int32)), (.ref q), (.int ((0 : Int32) + x0))])) rfl rfl (hb hby d22_43) _ k) ?_
  obtain ⟨_, _, ⟨T59, L59, k59, n59⟩, -, X59, ⟨Lc59, hQ59, l59, y59, z59⟩, st59⟩ := Jvm.LawKit.callS X49 hx (y := (⟨"java/lang/Math", "addExact", "(II)I"⟩ : MethodName)) hown (mvT hZ (hw _ (List.mem_of_getElem? (i := 34) rfl))) (mvT hZ (hw _ (List.mem_of_getElem? (i := 35) rfl))) (mvT hZ (hw _ (List.mem_of_getElem? (i := 36) rfl))) (mvT hZ (hw _ (List.mem_of_getElem? (i := 37) rfl))) (by decide) (backOf (W := 0) (rm_9 l Z a0 hw [] ((0 : Int32) + x0) x1 h49 n0 (Nat.le_trans Z0 K49.1) (own_ae1 pr7 pr8)) hZ (hw _ (List.mem_of_getElem? (i := 37) rfl)) (hw _ (List.mem_of_getElem? (i := 36) rfl)) (by decide) (by decide)) (g := (mkF m 44 #[.val (.ref a), .val (.ref q), .val (.int ((0 : Int32) + x0)), .val (.int (1 : Int32))] [(.int x1), (.int ((0 : Int32) + x0))])) rfl (by rw [hml]; rfl) (argsL := [(.int ((0 : Int32) + x0)), (.int x1)]) (rest := []) (lenOf pd_0 rfl) rfl (by show 2 * 0 + _ ≤ _; exact Nat.le_of_eq rfl) (hb hby d22_44) (fun _ _ => ⟨rfl, e49, (by decide : 2 + 0 ≤ _), (by decide : 4 + 0 ≤ _)⟩)
  dsimp only [Pt.U, Pt.locs, Pt.cells, Pt.slots] at X59 l59 y59 z59 st59 hQ59
  subst l59 y59 z59
  obtain ⟨rfl, N59q, e59⟩ := hQ59
  have N59 := Fr.app N49 N59q
  refine Go.st (mkF m 47 #[.val (.ref a), .val (.ref q), .val (.int ((0 : Int32) + x0)), .val (.int (1 : Int32))] [(.int (((0 : Int32) + x0) + x1))]) (fun _ k => st59 _ k) ?_
  refine Go.st (mkF m 48 #[.val (.ref a), .val (.ref q), .val (.int (((0 : Int32) + x0) + x1)), .val (.int (1 : Int32))] []) (fun _ k => XS.istoreN X59.here hx rfl (hb hby d22_47) rfl (l' := #[.val (.ref a), .val (.ref q), .val (.int (((0 : Int32) + x0) + x1)), .val (.int (1 : Int32))]) rfl k) ?_
  refine Go.st (mkF m 51 #[.val (.ref a), .val (.ref q), .val (.int (((0 : Int32) + x0) + x1)), .val (.int (2 : Int32))] []) (fun _ k => XS.iinc X59.here hx rfl (hb hby d22_48) rfl (l' := #[.val (.ref a), .val (.ref q), .val (.int (((0 : Int32) + x0) + x1)), .val (.int (2 : Int32))]) rfl k) ?_
  refine Go.st (mkF m 27 #[.val (.ref a), .val (.ref q), .val (.int (((0 : Int32) + x0) + x1)), .val (.int (2 : Int32))] []) (fun _ k => XS.goto X59.here hx rfl (pc0 := 51) (pc' := 27) rfl (hb hby d22_51) (by decide) (by decide) k) ?_
  refine Go.st (mkF m 28 #[.val (.ref a), .val (.ref q), .val (.int (((0 : Int32) + x0) + x1)), .val (.int (2 : Int32))] [(.int (2 : Int32))]) (fun _ k => XS.iloadN X59.here hx rfl (hb hby d22_27) rfl k) ?_
  refine Go.st (mkF m 29 #[.val (.ref a), .val (.ref q), .val (.int (((0 : Int32) + x0) + x1)), .val (.int (2 : Int32))] [(.ref q), (.int (2 : Int32))]) (fun _ k => XS.aloadN X59.here hx rfl (hb hby d22_28) rfl rfl k) ?_
  refine Go.st (mkF m 30 #[.val (.ref a), .val (.ref q), .val (.int (((0 : Int32) + x0) + x1)), .val (.int (2 : Int32))] [(.int (2 : Int32)), (.int (2 : Int32))]) (fun _ k => lenA X59 hx hZ e59 V53 (z := (2 : Int32)) rfl (g := (mkF m 29 #[.val (.ref a), .val (.ref q), .val (.int (((0 : Int32) + x0) + x1)), .val (.int (2 : Int32))] [(.ref q), (.int (2 : Int32))])) rfl rfl (hb hby d22_29) _ k) ?_
  refine Go.st (mkF m 54 #[.val (.ref a), .val (.ref q), .val (.int (((0 : Int32) + x0) + x1)), .val (.int (2 : Int32))] []) (fun _ k => XS.icmpYes X59.here hx rfl (pc0 := 30) (pc' := 54) rfl (hb hby d22_30) rfl (flt (by decide : ¬ ((2 : Int32) < (2 : Int32)))).2.1 (by decide) (by decide) k) ?_
  exact Go.retV X59 hx Bd.notSynchronized Bd.returns (hb hby d22_54) (by rw [e59]; exact ⟨b2, b17, rfl, N59, K49, sz_b2, sz_b17, F51, F52, V56, V58⟩) (by decide) (by decide)
theorem d32_0 : decode prog_1_method_4_code 0 = .ok (.aload_n 0, 1) := by decide +kernel
theorem d32_1 : decode prog_1_method_4_code 1 = .ok (.getfield 13, 3) := by decide +kernel
theorem d32_4 : decode prog_1_method_4_code 4 = .ok (.arraylength, 1) := by decide +kernel
theorem d32_5 : decode prog_1_method_4_code 5 = .ok (.ifCond .ne 7, 3) := by decide +kernel
theorem d32_12 : decode prog_1_method_4_code 12 = .ok (.aload_n 0, 1) := by decide +kernel
theorem d32_13 : decode prog_1_method_4_code 13 = .ok (.getfield 18, 3) := by decide +kernel
theorem d32_16 : decode prog_1_method_4_code 16 = .ok (.aload_n 0, 1) := by decide +kernel
theorem d32_17 : decode prog_1_method_4_code 17 = .ok (.getfield 13, 3) := by decide +kernel
theorem d32_20 : decode prog_1_method_4_code 20 = .ok (.arraylength, 1) := by decide +kernel
theorem d32_21 : decode prog_1_method_4_code 21 = .ok (.iconst 1, 1) := by decide +kernel
theorem d32_22 : decode prog_1_method_4_code 22 = .ok (.isub, 1) := by decide +kernel
theorem d32_23 : decode prog_1_method_4_code 23 = .ok (.iaload, 1) := by decide +kernel
theorem d32_24 : decode prog_1_method_4_code 24 = .ok (.aload_n 0, 1) := by decide +kernel
theorem d32_25 : decode prog_1_method_4_code 25 = .ok (.getfield 13, 3) := by decide +kernel
theorem d32_28 : decode prog_1_method_4_code 28 = .ok (.aload_n 0, 1) := by decide +kernel
theorem d32_29 : decode prog_1_method_4_code 29 = .ok (.getfield 13, 3) := by decide +kernel
theorem d32_32 : decode prog_1_method_4_code 32 = .ok (.arraylength, 1) := by decide +kernel
theorem d32_33 : decode prog_1_method_4_code 33 = .ok (.iconst 1, 1) := by decide +kernel
theorem d32_34 : decode prog_1_method_4_code 34 = .ok (.isub, 1) := by decide +kernel
theorem d32_35 : decode prog_1_method_4_code 35 = .ok (.iaload, 1) := by decide +kernel
theorem d32_36 : decode prog_1_method_4_code 36 = .ok (.iadd, 1) := by decide +kernel
theorem d32_37 : decode prog_1_method_4_code 37 = .ok (.ireturn, 1) := by decide +kernel
theorem ef_32 (m : MethodId) (a : Addr) : entryFrame m #[(.ref a)] 1 = (mkF m 0 #[.val (.ref a)] []) := by first | (simp [entryFrame, mkF, argsToLocals, Value.category]; done) | rfl
def Q_32 (Z : State) (a : Addr) (b1 : Addr) (b2 : Addr) (x0 : Int32) (x1 : Int32) (y0 : Int32) (y1 : Int32) (h0 : Heap) (n0 : Nat) (v : Option Value) (h : Heap) (L : List Loc) : Prop := v = some (.int (y1 + x1)) ∧ Fr n0 L ∧ h = h0
set_option maxRecDepth 65536 in
set_option maxHeartbeats 40000000 in
theorem rm_32 (l : Launch) (Z : State) (a0 : Array Value) (hw : ∀ d ∈ tables_1, d.before a0 Z = true) (ws : List Jvm.Cond) (a : Addr) (b1 : Addr) (b2 : Addr) (x0 : Int32) (x1 : Int32) (y0 : Int32) (y1 : Int32) (h0 : Heap) (n0 : Nat) (Z0 : n0 ≤ h0.size) (pr0 : Fld Z h0 a "com/example/regular_role_reasoner/regularrolereasoner/alcoif/Elements" "sizes" "[I" (.ref b1)) (pr1 : Fld Z h0 a "com/example/regular_role_reasoner/regularrolereasoner/alcoif/Elements" "first" "[I" (.ref b2)) (pr2 : Ary Z h0 b1 .int 2 (lst [(.int x0), (.int x1)])) (pr3 : Ary Z h0 b2 .int 2 (lst [(.int y0), (.int y1)])) :
    MetFree l (⟨"com/example/regular_role_reasoner/regularrolereasoner/alcoif/Elements", "total", "()I"⟩ : MethodName) (head1 (Jvm.Cond.code (⟨"com/example/regular_role_reasoner/regularrolereasoner/alcoif/Elements", "total", "()I"⟩ : MethodName) prog_1_method_4_code 1 (some .int) :: ws) ({ frames := 0, cells := 0, slots := 0, locals := 0 } : Room)) (fun aa U => aa = #[(.ref a)] ∧ Z.Warmed39 U.vm ∧ U.heap = h0) (fun _ _ _ _ _ => True) (fun _ U o U' => ∃ v L, o = .returned v ∧ Q_32 Z a b1 b2 x0 x1 y0 y1 h0 n0 v U'.heap L ∧ FrameEnd U o U' L ({ frames := 0, cells := 0, slots := 0, locals := 0 } : Room).cells ({ frames := 0, cells := 0, slots := 0, locals := 0 } : Room).slots) := by
  refine MetFree.of_bodySF (plainFor_of_name pn_1) hisR ?_
  intro p e s m args below meth c s₁ Bd hml0 hP hK
  obtain ⟨rfl, hZ, hh⟩ := hP
  have hx := Bd.exec
  have hby := Bd.bytes
  have hml : c.maxLocals = 1 := hml0
  have hown : s.vm.findClass "com/example/regular_role_reasoner/regularrolereasoner/alcoif/Elements" = some m.cls := findClass_of_methodNamed Bd.named
  have hnm := (name_of_methodNamed Bd.named Bd.method).1
  have X0 : Stand p l e ({ frames := 0, cells := 0, slots := 0, locals := 0 } : Room) s m #[(.ref a)] below meth c s₁ [] 0 0 := Stand.of_body Bd
  have e0 : s₁.heap = h0 := by rw [← hh, Bd.state]; rfl
  have N0 := Fr.nil n0
  have K0 := Keep.refl h0 []
  show Go p e below s (Q_32 Z a b1 b2 x0 x1 y0 y1 h0 n0) 0 0 s₁ (entryFrame m #[(.ref a)] 1)
  refine Go.of_eq (ef_32 m a) ?_
  refine Go.st (mkF m 1 #[.val (.ref a)] [(.ref a)]) (fun _ k => XS.aloadN X0.here hx rfl (hb hby d32_0) rfl rfl k) ?_
  obtain ⟨T1, X1, e1, st1⟩ := getF X0 hx hZ hown (host := "") (Or.inl (hw _ (List.mem_of_getElem? (i := 25) rfl))) Via.refl e0 pr0 (g := (mkF m 1 #[.val (.ref a)] [(.ref a)])) rfl rfl (hb hby d32_1)
  refine Go.st (mkF m 4 #[.val (.ref a)] [(.ref b1)]) (fun _ k => st1 _ k) ?_
  refine Go.st (mkF m 5 #[.val (.ref a)] [(.int (2 : Int32))]) (fun _ k => lenA X1 hx hZ e1 pr2 (z := (2 : Int32)) rfl (g := (mkF m 4 #[.val (.ref a)] [(.ref b1)])) rfl rfl (hb hby d32_4) _ k) ?_
  refine Go.st (mkF m 12 #[.val (.ref a)] []) (fun _ k => XS.ifYes X1.here hx rfl (pc0 := 5) (pc' := 12) rfl (hb hby d32_5) rfl ((if0 _ _).trans (feq (by decide : ¬ ((2 : Int32) = (0 : Int32)))).2) (by decide) (by decide) k) ?_
  refine Go.st (mkF m 13 #[.val (.ref a)] [(.ref a)]) (fun _ k => XS.aloadN X1.here hx rfl (hb hby d32_12) rfl rfl k) ?_
  obtain ⟨T2, X2, e2, st2⟩ := getF X1 hx hZ hown (host := "") (Or.inl (hw _ (List.mem_of_getElem? (i := 27) rfl))) Via.refl e1 pr1 (g := (mkF m 13 #[.val (.ref a)] [(.ref a)])) rfl rfl (hb hby d32_13)
  refine Go.st (mkF m 16 #[.val (.ref a)] [(.ref b2)]) (fun _ k => st2 _ k) ?_
  refine Go.st (mkF m 17 #[.val (.ref a)] [(.ref a), (.ref b2)]) (fun _ k => XS.aloadN X2.here hx rfl (hb hby d32_16) rfl rfl k) ?_
  obtain ⟨T3, X3, e3, st3⟩ := getF X2 hx hZ hown (host := "") (Or.inl (hw _ (List.mem_of_getElem? (i := 25) rfl))) Via.refl e2 pr0 (g := (mkF m 17 #[.val (.ref a)] [(.ref a), (.ref b2)])) rfl rfl (hb hby d32_17)
  refine Go.st (mkF m 20 #[.val (.ref a)] [(.ref b1), (.ref b2)]) (fun _ k => st3 _ k) ?_
  refine Go.st (mkF m 21 #[.val (.ref a)] [(.int (2 : Int32)), (.ref b2)]) (fun _ k => lenA X3 hx hZ e3 pr2 (z := (2 : Int32)) rfl (g := (mkF m 20 #[.val (.ref a)] [(.ref b1), (.ref b2)])) rfl rfl (hb hby d32_20) _ k) ?_
  refine Go.st (mkF m 22 #[.val (.ref a)] [(.int (1 : Int32)), (.int (2 : Int32)), (.ref b2)]) (fun _ k => XS.iconst X3.here hx rfl (hb hby d32_21) k) ?_
  refine Go.st (mkF m 23 #[.val (.ref a)] [(.int (1 : Int32)), (.ref b2)]) (fun _ k => XS.isub X3.here hx rfl (hb hby d32_22) rfl k) ?_
  refine Go.st (mkF m 24 #[.val (.ref a)] [(.int y1)]) (fun _ k => ldI X3 hx hZ e3 pr3 (i := 1) (by decide) (by decide) (by decide) (v := (.int y1)) rfl (g := (mkF m 23 #[.val (.ref a)] [(.int (1 : Int32)), (.ref b2)])) rfl rfl (hb hby d32_23) _ k) ?_
  refine Go.st (mkF m 25 #[.val (.ref a)] [(.ref a), (.int y1)]) (fun _ k => XS.aloadN X3.here hx rfl (hb hby d32_24) rfl rfl k) ?_
  obtain ⟨T4, X4, e4, st4⟩ := getF X3 hx hZ hown (host := "") (Or.inl (hw _ (List.mem_of_getElem? (i := 25) rfl))) Via.refl e3 pr0 (g := (mkF m 25 #[.val (.ref a)] [(.ref a), (.int y1)])) rfl rfl (hb hby d32_25)
  refine Go.st (mkF m 28 #[.val (.ref a)] [(.ref b1), (.int y1)]) (fun _ k => st4 _ k) ?_
  refine Go.st (mkF m 29 #[.val (.ref a)] [(.ref a), (.ref b1), (.int y1)]) (fun _ k => XS.aloadN X4.here hx rfl (hb hby d32_28) rfl rfl k) ?_
  obtain ⟨T5, X5, e5, st5⟩ := getF X4 hx hZ hown (host := "") (Or.inl (hw _ (List.mem_of_getElem? (i := 25) rfl))) Via.refl e4 pr0 (g := (mkF m 29 #[.val (.ref a)] [(.ref a), (.ref b1), (.int y1)])) rfl rfl (hb hby d32_29)
  refine Go.st (mkF m 32 #[.val (.ref a)] [(.ref b1), (.ref b1), (.int y1)]) (fun _ k => st5 _ k) ?_
  refine Go.st (mkF m 33 #[.val (.ref a)] [(.int (2 : Int32)), (.ref b1), (.int y1)]) (fun _ k => lenA X5 hx hZ e5 pr2 (z := (2 : Int32)) rfl (g := (mkF m 32 #[.val (.ref a)] [(.ref b1), (.ref b1), (.int y1)])) rfl rfl (hb hby d32_32) _ k) ?_
  refine Go.st (mkF m 34 #[.val (.ref a)] [(.int (1 : Int32)), (.int (2 : Int32)), (.ref b1), (.int y1)]) (fun _ k => XS.iconst X5.here hx rfl (hb hby d32_33) k) ?_
  refine Go.st (mkF m 35 #[.val (.ref a)] [(.int (1 : Int32)), (.ref b1), (.int y1)]) (fun _ k => XS.isub X5.here hx rfl (hb hby d32_34) rfl k) ?_
  refine Go.st (mkF m 36 #[.val (.ref a)] [(.int x1), (.int y1)]) (fun _ k => ldI X5 hx hZ e5 pr2 (i := 1) (by decide) (by decide) (by decide) (v := (.int x1)) rfl (g := (mkF m 35 #[.val (.ref a)] [(.int (1 : Int32)), (.ref b1), (.int y1)])) rfl rfl (hb hby d32_35) _ k) ?_
  refine Go.st (mkF m 37 #[.val (.ref a)] [(.int (y1 + x1))]) (fun _ k => XS.iadd X5.here hx rfl (hb hby d32_36) rfl k) ?_
  exact Go.retI X5 hx Bd.notSynchronized Bd.returns (hb hby d32_37) ⟨rfl, N0, e5⟩ (by decide) (by decide)
theorem d23_0 : decode prog_1_method_1_code 0 = .ok (.aload_n 0, 1) := by decide +kernel
theorem d23_1 : decode prog_1_method_1_code 1 = .ok (.invokespecial 1, 3) := by decide +kernel
theorem d23_4 : decode prog_1_method_1_code 4 = .ok (.aload_n 0, 1) := by decide +kernel
theorem d23_5 : decode prog_1_method_1_code 5 = .ok (.aload_n 1, 1) := by decide +kernel
theorem d23_6 : decode prog_1_method_1_code 6 = .ok (.invokevirtual 7, 3) := by decide +kernel
theorem d23_9 : decode prog_1_method_1_code 9 = .ok (.checkcast 8, 3) := by decide +kernel
theorem d23_12 : decode prog_1_method_1_code 12 = .ok (.putfield 13, 3) := by decide +kernel
theorem d23_15 : decode prog_1_method_1_code 15 = .ok (.aload_n 0, 1) := by decide +kernel
theorem d23_16 : decode prog_1_method_1_code 16 = .ok (.aload_n 1, 1) := by decide +kernel
theorem d23_17 : decode prog_1_method_1_code 17 = .ok (.arraylength, 1) := by decide +kernel
theorem d23_18 : decode prog_1_method_1_code 18 = .ok (.newarray .int, 2) := by decide +kernel
theorem d23_20 : decode prog_1_method_1_code 20 = .ok (.putfield 18, 3) := by decide +kernel
theorem d23_23 : decode prog_1_method_1_code 23 = .ok (.iconst 0, 1) := by decide +kernel
theorem d23_24 : decode prog_1_method_1_code 24 = .ok (.istore_n 2, 1) := by decide +kernel
theorem d23_25 : decode prog_1_method_1_code 25 = .ok (.iconst 0, 1) := by decide +kernel
theorem d23_26 : decode prog_1_method_1_code 26 = .ok (.istore_n 3, 1) := by decide +kernel
theorem d23_27 : decode prog_1_method_1_code 27 = .ok (.iload_n 3, 1) := by decide +kernel
theorem d23_28 : decode prog_1_method_1_code 28 = .ok (.aload_n 1, 1) := by decide +kernel
theorem d23_29 : decode prog_1_method_1_code 29 = .ok (.arraylength, 1) := by decide +kernel
theorem d23_30 : decode prog_1_method_1_code 30 = .ok (.if_icmp .ge 24, 3) := by decide +kernel
theorem d23_33 : decode prog_1_method_1_code 33 = .ok (.aload_n 0, 1) := by decide +kernel
theorem d23_34 : decode prog_1_method_1_code 34 = .ok (.getfield 18, 3) := by decide +kernel
theorem d23_37 : decode prog_1_method_1_code 37 = .ok (.iload_n 3, 1) := by decide +kernel
theorem d23_38 : decode prog_1_method_1_code 38 = .ok (.iload_n 2, 1) := by decide +kernel
theorem d23_39 : decode prog_1_method_1_code 39 = .ok (.iastore, 1) := by decide +kernel
theorem d23_40 : decode prog_1_method_1_code 40 = .ok (.iload_n 2, 1) := by decide +kernel
theorem d23_41 : decode prog_1_method_1_code 41 = .ok (.aload_n 1, 1) := by decide +kernel
theorem d23_42 : decode prog_1_method_1_code 42 = .ok (.iload_n 3, 1) := by decide +kernel
theorem d23_43 : decode prog_1_method_1_code 43 = .ok (.iaload, 1) := by decide +kernel
theorem d23_44 : decode prog_1_method_1_code 44 = .ok (.invokestatic 21, 3) := by decide +kernel
theorem d23_47 : decode prog_1_method_1_code 47 = .ok (.istore_n 2, 1) := by decide +kernel
theorem d23_48 : decode prog_1_method_1_code 48 = .ok (.iinc 3 1, 3) := by decide +kernel
theorem d23_51 : decode prog_1_method_1_code 51 = .ok (.goto (-24), 3) := by decide +kernel
theorem d23_54 : decode prog_1_method_1_code 54 = .ok (.return_, 1) := by decide +kernel
theorem ef_23 (m : MethodId) (a : Addr) (q : Addr) : entryFrame m #[(.ref a), (.ref q)] 4 = (mkF m 0 #[.val (.ref a), .val (.ref q), .unset, .unset] []) := by first | (simp [entryFrame, mkF, argsToLocals, Value.category]; done) | rfl
def Q_23 (Z : State) (a : Addr) (q : Addr) (x0 : Int32) (x1 : Int32) (x2 : Int32) (h0 : Heap) (n0 : Nat) (v : Option Value) (h : Heap) (L : List Loc) : Prop := ∃ b1 : Addr, ∃ b2 : Addr, v = none ∧ Fr n0 L ∧ Keep h0 h [a] ∧ h0.size ≤ b1 ∧ h0.size ≤ b2 ∧ Fld Z h a "com/example/regular_role_reasoner/regularrolereasoner/alcoif/Elements" "sizes" "[I" (.ref b1) ∧ Fld Z h a "com/example/regular_role_reasoner/regularrolereasoner/alcoif/Elements" "first" "[I" (.ref b2) ∧ Ary Z h b1 .int 3 (lst [(.int x0), (.int x1), (.int x2)]) ∧ Ary Z h b2 .int 3 (lst [(.int (0 : Int32)), (.int ((0 : Int32) + x0)), (.int (((0 : Int32) + x0) + x1))])
set_option maxRecDepth 65536 in
set_option maxHeartbeats 40000000 in
theorem rm_23 (l : Launch) (Z : State) (a0 : Array Value) (hw : ∀ d ∈ tables_1, d.before a0 Z = true) (ws : List Jvm.Cond) (a : Addr) (q : Addr) (x0 : Int32) (x1 : Int32) (x2 : Int32) (h0 : Heap) (n0 : Nat) (Z0 : n0 ≤ h0.size) (pr0 : Exa Z h0 a "com/example/regular_role_reasoner/regularrolereasoner/alcoif/Elements") (pr1 : Fld Z h0 a "com/example/regular_role_reasoner/regularrolereasoner/alcoif/Elements" "sizes" "[I" .null) (pr2 : Fld Z h0 a "com/example/regular_role_reasoner/regularrolereasoner/alcoif/Elements" "first" "[I" .null) (pr3 : Ary Z h0 q .int 3 (lst [(.int x0), (.int x1), (.int x2)])) (pr4 : Exa Z h0 q "[I") (pr5 : n0 ≤ a) (pr6 : a ≠ q) (pr7 : Sml x0) (pr8 : Sml x1) (pr9 : Sml x2) :
    MetFree l (⟨"com/example/regular_role_reasoner/regularrolereasoner/alcoif/Elements", "<init>", "([I)V"⟩ : MethodName) (head1 (Jvm.Cond.code (⟨"com/example/regular_role_reasoner/regularrolereasoner/alcoif/Elements", "<init>", "([I)V"⟩ : MethodName) prog_1_method_1_code 4 none :: ws) ({ frames := 1, cells := 2, slots := 6, locals := 15 } : Room)) (fun aa U => aa = #[(.ref a), (.ref q)] ∧ Z.Warmed39 U.vm ∧ U.heap = h0) (fun _ _ _ _ _ => True) (fun _ U o U' => ∃ v L, o = .returned v ∧ Q_23 Z a q x0 x1 x2 h0 n0 v U'.heap L ∧ FrameEnd U o U' L ({ frames := 1, cells := 2, slots := 6, locals := 15 } : Room).cells ({ frames := 1, cells := 2, slots := 6, locals := 15 } : Room).slots) := by
  refine MetFree.of_bodySF (plainFor_of_name pn_1) hisR ?_
  intro p e s m args below meth c s₁ Bd hml0 hP hK
  obtain ⟨rfl, hZ, hh⟩ := hP
  have hx := Bd.exec
  have hby := Bd.bytes
  have hml : c.maxLocals = 4 := hml0
  have hown : s.vm.findClass "com/example/regular_role_reasoner/regularrolereasoner/alcoif/Elements" = some m.cls := findClass_of_methodNamed Bd.named
  have hnm := (name_of_methodNamed Bd.named Bd.method).1
  have X0 : Stand p l e ({ frames := 1, cells := 2, slots := 6, locals := 15 } : Room) s m #[(.ref a), (.ref q)] below meth c s₁ [] 0 0 := Stand.of_body Bd
  have e0 : s₁.heap = h0 := by rw [← hh, Bd.state]; rfl
  have N0 := Fr.nil n0
  have K0 := Keep.refl h0 [a]
  show Go p e below s (Q_23 Z a q x0 x1 x2 h0 n0) 2 6 s₁ (entryFrame m #[(.ref a), (.ref q)] 4)
  refine Go.of_eq (ef_23 m a q) ?_
  refine Go.st (mkF m 1 #[.val (.ref a), .val (.ref q), .unset, .unset] [(.ref a)]) (fun _ k => XS.aloadN X0.here hx rfl (hb hby d23_0) rfl rfl k) ?_
  obtain ⟨T1, X1, e1, st1⟩ := initO X0 hx hZ hown (hw _ (List.mem_of_getElem? (i := 13) rfl)) (hw _ (List.mem_of_getElem? (i := 14) rfl)) (hw _ (List.mem_of_getElem? (i := 15) rfl)) e0 (g := (mkF m 1 #[.val (.ref a), .val (.ref q), .unset, .unset] [(.ref a)])) rfl (by rw [hml]; rfl) rfl (hb hby d23_1) (by decide) (W := 0) (by show 2 * 0 + _ ≤ _; exact Nat.le_of_eq rfl) (by decide)
  refine Go.st (mkF m 4 #[.val (.ref a), .val (.ref q), .unset, .unset] []) (fun _ k => st1 _ k) ?_
  refine Go.st (mkF m 5 #[.val (.ref a), .val (.ref q), .unset, .unset] [(.ref a)]) (fun _ k => XS.aloadN X1.here hx rfl (hb hby d23_4) rfl rfl k) ?_
  refine Go.st (mkF m 6 #[.val (.ref a), .val (.ref q), .unset, .unset] [(.ref q), (.ref a)]) (fun _ k => XS.aloadN X1.here hx rfl (hb hby d23_5) rfl rfl k) ?_
  obtain ⟨T2, h2, X2, e2, E2, A2, Y2, st2⟩ := cloneY X1 hx hZ hown (hw _ (List.mem_of_getElem? (i := 16) rfl)) (hw _ (List.mem_of_getElem? (i := 17) rfl)) (hw _ (List.mem_of_getElem? (i := 21) rfl)) (hw _ (List.mem_of_getElem? (i := 19) rfl)) (hw _ (List.mem_of_getElem? (i := 20) rfl)) (hw _ (List.mem_of_getElem? (i := 22) rfl)) e1 pr3 pr4 (by simp [lst]) (g := (mkF m 6 #[.val (.ref a), .val (.ref q), .unset, .unset] [(.ref q), (.ref a)])) rfl (by rw [hml]; rfl) rfl (hb hby d23_6) (by decide) (W := 1) (cap := 3) (by show 2 * 0 + _ ≤ _; exact Nat.le_of_eq rfl) (by decide) (by decide) (by decide) (by decide)
  obtain ⟨b2, q2⟩ : ∃ z, z = h0.size := ⟨_, rfl⟩
  rw [← q2] at A2 Y2 st2
  have sz_b2 : h0.size ≤ b2 := by rw [q2]; exact K0.1
  have g_b2 : n0 ≤ b2 := Nat.le_trans Z0 sz_b2
  have ne_a_b2 : a ≠ b2 := Nat.ne_of_lt (by rw [q2]; exact pr0.lt)
  have ne_q_b2 : q ≠ b2 := Nat.ne_of_lt (by rw [q2]; exact pr3.lt)
  have E3q : Exa Z h2 a "com/example/regular_role_reasoner/regularrolereasoner/alcoif/Elements" := pr0.ext E2
  have F4 : Fld Z h2 a "com/example/regular_role_reasoner/regularrolereasoner/alcoif/Elements" "sizes" "[I" .null := pr1.ext E2
  have F5 : Fld Z h2 a "com/example/regular_role_reasoner/regularrolereasoner/alcoif/Elements" "first" "[I" .null := pr2.ext E2
  have V6 : Ary Z h2 q .int 3 (lst [(.int x0), (.int x1), (.int x2)]) := pr3.ext E2
  have E7q : Exa Z h2 q "[I" := pr4.ext E2
  have K2 : Keep h0 h2 [a] := K0.ext E2
  refine Go.st (mkF m 9 #[.val (.ref a), .val (.ref q), .unset, .unset] [(.ref b2), (.ref a)]) (fun _ k => st2 _ k) ?_
  obtain ⟨T8, X8, e8, st8⟩ := castY X2 hx hZ hown (hw _ (List.mem_of_getElem? (i := 23) rfl)) e2 (Ins.self Y2) (g := (mkF m 9 #[.val (.ref a), .val (.ref q), .unset, .unset] [(.ref b2), (.ref a)])) rfl rfl (hb hby d23_9)
  refine Go.st (mkF m 12 #[.val (.ref a), .val (.ref q), .unset, .unset] [(.ref b2), (.ref a)]) (fun _ k => st8 _ k) ?_
  obtain ⟨T9, h9, X9, e9, W9, st9⟩ := putF X8 hx hZ hown (host := "") (Or.inl (hw _ (List.mem_of_getElem? (i := 25) rfl))) Via.refl e8 F4 E3q (Or.inr ⟨(hw _ (List.mem_of_getElem? (i := 26) rfl)), rfl, hnm⟩) (hw _ (List.mem_of_getElem? (i := 8) rfl)) (ty := (.array .int)) (by decide) rfl rfl (g := (mkF m 12 #[.val (.ref a), .val (.ref q), .unset, .unset] [(.ref b2), (.ref a)])) rfl rfl (hb hby d23_12)
  have E10q : Exa Z h9 a "com/example/regular_role_reasoner/regularrolereasoner/alcoif/Elements" := E3q.wr W9
  have F11 : Fld Z h9 a "com/example/regular_role_reasoner/regularrolereasoner/alcoif/Elements" "sizes" "[I" (.ref b2) := F4.same W9
  have F12 : Fld Z h9 a "com/example/regular_role_reasoner/regularrolereasoner/alcoif/Elements" "first" "[I" .null := F5.other W9 (Or.inr (slot_ne (Or.inr (hw _ (List.mem_of_getElem? (i := 28) rfl))) (Or.inr (hw _ (List.mem_of_getElem? (i := 26) rfl))) (by decide) (t := (.array .int)) (t' := (.array .int)) (by decide) (by decide)))
  have V13 : Ary Z h9 q .int 3 (lst [(.int x0), (.int x1), (.int x2)]) := V6.other W9 (Ne.symm pr6)
  have E14q : Exa Z h9 q "[I" := E7q.wr W9
  have E15q : Exa Z h9 b2 "[I" := Y2.wr W9
  have V16 : Ary Z h9 b2 .int 3 (lst [(.int x0), (.int x1), (.int x2)]) := A2.other W9 (Ne.symm ne_a_b2)
  have K9 : Keep h0 h9 [a] := K2.wr W9 (Or.inl (by simp))
  have N9 := Fr.snoc X9 N0 pr5
  refine Go.st (mkF m 15 #[.val (.ref a), .val (.ref q), .unset, .unset] []) (fun _ k => st9 _ k) ?_
  refine Go.st (mkF m 16 #[.val (.ref a), .val (.ref q), .unset, .unset] [(.ref a)]) (fun _ k => XS.aloadN X9.here hx rfl (hb hby d23_15) rfl rfl k) ?_
  refine Go.st (mkF m 17 #[.val (.ref a), .val (.ref q), .unset, .unset] [(.ref q), (.ref a)]) (fun _ k => XS.aloadN X9.here hx rfl (hb hby d23_16) rfl rfl k) ?_
  refine Go.st (mkF m 18 #[.val (.ref a), .val (.ref q), .unset, .unset] [(.int (3 : Int32)), (.ref a)]) (fun _ k => lenA X9 hx hZ e9 V13 (z := (3 : Int32)) rfl (g := (mkF m 17 #[.val (.ref a), .val (.ref q), .unset, .unset] [(.ref q), (.ref a)])) rfl rfl (hb hby d23_17) _ k) ?_
  obtain ⟨T17, h17, k17, X17, e17, E17, A17, Y17, st17⟩ := newPE X9 hx hZ (hw _ (List.mem_of_getElem? (i := 6) rfl)) e9 (g := (mkF m 18 #[.val (.ref a), .val (.ref q), .unset, .unset] [(.int (3 : Int32)), (.ref a)])) rfl (hb hby d23_18) rfl (by decide) (cap := 3) (by decide) (by decide) (by decide) (by decide) (ad := "[I") rfl
  obtain ⟨b17, q17⟩ : ∃ z, z = h9.size := ⟨_, rfl⟩
  rw [← q17] at A17 st17 Y17
  have sz_b17 : h0.size ≤ b17 := by rw [q17]; exact K9.1
  have g_b17 : n0 ≤ b17 := Nat.le_trans Z0 sz_b17
  have ne_a_b17 : a ≠ b17 := Nat.ne_of_lt (by rw [q17]; exact E10q.lt)
  have ne_q_b17 : q ≠ b17 := Nat.ne_of_lt (by rw [q17]; exact V13.lt)
  have ne_b2_b17 : b2 ≠ b17 := Nat.ne_of_lt (by rw [q17]; exact E15q.lt)
  have E18q : Exa Z h17 a "com/example/regular_role_reasoner/regularrolereasoner/alcoif/Elements" := E10q.ext E17
  have F19 : Fld Z h17 a "com/example/regular_role_reasoner/regularrolereasoner/alcoif/Elements" "sizes" "[I" (.ref b2) := F11.ext E17
  have F20 : Fld Z h17 a "com/example/regular_role_reasoner/regularrolereasoner/alcoif/Elements" "first" "[I" .null := F12.ext E17
  have V21 : Ary Z h17 q .int 3 (lst [(.int x0), (.int x1), (.int x2)]) := V13.ext E17
  have E22q : Exa Z h17 q "[I" := E14q.ext E17
  have E23q : Exa Z h17 b2 "[I" := E15q.ext E17
  have V24 : Ary Z h17 b2 .int 3 (lst [(.int x0), (.int x1), (.int x2)]) := V16.ext E17
  have K17 : Keep h0 h17 [a] := K9.ext E17
  have V25 : Ary Z h17 b17 .int 3 (lst [(.int (0 : Int32)), (.int (0 : Int32)), (.int (0 : Int32))]) := Ary.newL A17 (by decide)
  refine Go.st (mkF m 20 #[.val (.ref a), .val (.ref q), .unset, .unset] [(.ref b17), (.ref a)]) (fun _ k => st17 _ k) ?_
  obtain ⟨T26, h26, X26, e26, W26, st26⟩ := putF X17 hx hZ hown (host := "") (Or.inl (hw _ (List.mem_of_getElem? (i := 27) rfl))) Via.refl e17 F20 E18q (Or.inr ⟨(hw _ (List.mem_of_getElem? (i := 28) rfl)), rfl, hnm⟩) (hw _ (List.mem_of_getElem? (i := 8) rfl)) (ty := (.array .int)) (by decide) rfl rfl (g := (mkF m 20 #[.val (.ref a), .val (.ref q), .unset, .unset] [(.ref b17), (.ref a)])) rfl rfl (hb hby d23_20)
  have E27q : Exa Z h26 a "com/example/regular_role_reasoner/regularrolereasoner/alcoif/Elements" := E18q.wr W26
  have F28 : Fld Z h26 a "com/example/regular_role_reasoner/regularrolereasoner/alcoif/Elements" "sizes" "[I" (.ref b2) := F19.other W26 (Or.inr (slot_ne (Or.inr (hw _ (List.mem_of_getElem? (i := 26) rfl))) (Or.inr (hw _ (List.mem_of_getElem? (i := 28) rfl))) (by decide) (t := (.array .int)) (t' := (.array .int)) (by decide) (by decide)))
  have F29 : Fld Z h26 a "com/example/regular_role_reasoner/regularrolereasoner/alcoif/Elements" "first" "[I" (.ref b17) := F20.same W26
  have V30 : Ary Z h26 q .int 3 (lst [(.int x0), (.int x1), (.int x2)]) := V21.other W26 (Ne.symm pr6)
  have E31q : Exa Z h26 q "[I" := E22q.wr W26
  have E32q : Exa Z h26 b2 "[I" := E23q.wr W26
  have V33 : Ary Z h26 b2 .int 3 (lst [(.int x0), (.int x1), (.int x2)]) := V24.other W26 (Ne.symm ne_a_b2)
  have E34q : Exa Z h26 b17 "[I" := Y17.wr W26
  have V35 : Ary Z h26 b17 .int 3 (lst [(.int (0 : Int32)), (.int (0 : Int32)), (.int (0 : Int32))]) := V25.other W26 (Ne.symm ne_a_b17)
  have K26 : Keep h0 h26 [a] := K17.wr W26 (Or.inl (by simp))
  have N26 := Fr.snoc X26 N9 pr5
  refine Go.st (mkF m 23 #[.val (.ref a), .val (.ref q), .unset, .unset] []) (fun _ k => st26 _ k) ?_
  refine Go.st (mkF m 24 #[.val (.ref a), .val (.ref q), .unset, .unset] [(.int (0 : Int32))]) (fun _ k => XS.iconst X26.here hx rfl (hb hby d23_23) k) ?_
  refine Go.st (mkF m 25 #[.val (.ref a), .val (.ref q), .val (.int (0 : Int32)), .unset] []) (fun _ k => XS.istoreN X26.here hx rfl (hb hby d23_24) rfl (l' := #[.val (.ref a), .val (.ref q), .val (.int (0 : Int32)), .unset]) rfl k) ?_
  refine Go.st (mkF m 26 #[.val (.ref a), .val (.ref q), .val (.int (0 : Int32)), .unset] [(.int (0 : Int32))]) (fun _ k => XS.iconst X26.here hx rfl (hb hby d23_25) k) ?_
  refine Go.st (mkF m 27 #[.val (.ref a), .val (.ref q), .val (.int (0 : Int32)), .val (.int (0 : Int32))] []) (fun _ k => XS.istoreN X26.here hx rfl (hb hby d23_26) rfl (l' := #[.val (.ref a), .val (.ref q), .val (.int (0 : Int32)), .val (.int (0 : Int32))]) rfl k) ?_
  refine Go.st (mkF m 28 #[.val (.ref a), .val (.ref q), .val (.int (0 : Int32)), .val (.int (0 : Int32))] [(.int (0 : Int32))]) (fun _ k => XS.iloadN X26.here hx rfl (hb hby d23_27) rfl k) ?_
  refine Go.st (mkF m 29 #[.val (.ref a), .val (.ref q), .val (.int (0 : Int32)), .val (.int (0 : Int32))] [(.ref q), (.int (0 : Int32))]) (fun _ k => XS.aloadN X26.here hx rfl (hb hby d23_28) rfl rfl k) ?_
  refine Go.st (mkF m 30 #[.val (.ref a), .val (.ref q), .val (.int (0 : Int32)), .val (.int (0 : Int32))] [(.int (3 : Int32)), (.int (0 : Int32))]) (fun _ k => lenA X26 hx hZ e26 V30 (z := (3 : Int32)) rfl (g := (mkF m 29 #[.val (.ref a), .val (.ref q), .val (.int (0 : Int32)), .val (.int (0 : Int32))] [(.ref q), (.int (0 : Int32))])) rfl rfl (hb hby d23_29) _ k) ?_
  refine Go.st (mkF m 33 #[.val (.ref a), .val (.ref q), .val (.int (0 : Int32)), .val (.int (0 : Int32))] []) (fun _ k => XS.icmpNo X26.here hx rfl (hb hby d23_30) rfl (tlt (by decide : (0 : Int32) < (3 : Int32))).2.1 k) ?_
  refine Go.st (mkF m 34 #[.val (.ref a), .val (.ref q), .val (.int (0 : Int32)), .val (.int (0 : Int32))] [(.ref a)]) (fun _ k => XS.aloadN X26.here hx rfl (hb hby d23_33) rfl rfl k) ?_
  obtain ⟨T36, X36, e36, st36⟩ := getF X26 hx hZ hown (host := "") (Or.inl (hw _ (List.mem_of_getElem? (i := 27) rfl))) Via.refl e26 F29 (g := (mkF m 34 #[.val (.ref a), .val (.ref q), .val (.int (0 : Int32)), .val (.int (0 : Int32))] [(.ref a)])) rfl rfl (hb hby d23_34)
  refine Go.st (mkF m 37 #[.val (.ref a), .val (.ref q), .val (.int (0 : Int32)), .val (.int (0 : Int32))] [(.ref b17)]) (fun _ k => st36 _ k) ?_
  refine Go.st (mkF m 38 #[.val (.ref a), .val (.ref q), .val (.int (0 : Int32)), .val (.int (0 : Int32))] [(.int (0 : Int32)), (.ref b17)]) (fun _ k => XS.iloadN X36.here hx rfl (hb hby d23_37) rfl k) ?_
  refine Go.st (mkF m 39 #[.val (.ref a), .val (.ref q), .val (.int (0 : Int32)), .val (.int (0 : Int32))] [(.int (0 : Int32)), (.int (0 : Int32)), (.ref b17)]) (fun _ k => XS.iloadN X36.here hx rfl (hb hby d23_38) rfl k) ?_
  obtain ⟨T37, h37, X37, e37, W37, st37⟩ := stAI X36 hx hZ e36 V35 (i := 0) (by decide) (by decide) (by decide) (g := (mkF m 39 #[.val (.ref a), .val (.ref q), .val (.int (0 : Int32)), .val (.int (0 : Int32))] [(.int (0 : Int32)), (.int (0 : Int32)), (.ref b17)])) rfl rfl (hb hby d23_39)
  have E38q : Exa Z h37 a "com/example/regular_role_reasoner/regularrolereasoner/alcoif/Elements" := E27q.wr W37
  have F39 : Fld Z h37 a "com/example/regular_role_reasoner/regularrolereasoner/alcoif/Elements" "sizes" "[I" (.ref b2) := F28.other W37 (Or.inl ne_a_b17)
  have F40 : Fld Z h37 a "com/example/regular_role_reasoner/regularrolereasoner/alcoif/Elements" "first" "[I" (.ref b17) := F29.other W37 (Or.inl ne_a_b17)
  have V41 : Ary Z h37 q .int 3 (lst [(.int x0), (.int x1), (.int x2)]) := V30.other W37 ne_q_b17
  have E42q : Exa Z h37 q "[I" := E31q.wr W37
  have E43q : Exa Z h37 b2 "[I" := E32q.wr W37
  have V44 : Ary Z h37 b2 .int 3 (lst [(.int x0), (.int x1), (.int x2)]) := V33.other W37 ne_b2_b17
  have E45q : Exa Z h37 b17 "[I" := E34q.wr W37
  have V46 : Ary Z h37 b17 .int 3 (lst [(.int (0 : Int32)), (.int (0 : Int32)), (.int (0 : Int32))]) := V35.sameL W37 (by simp)
  have K37 : Keep h0 h37 [a] := K26.wr W37 (Or.inr sz_b17)
  have N37 := Fr.snoc X37 N26 g_b17
  refine Go.st (mkF m 40 #[.val (.ref a), .val (.ref q), .val (.int (0 : Int32)), .val (.int (0 : Int32))] []) (fun _ k => st37 _ k) ?_
  refine Go.st (mkF m 41 #[.val (.ref a), .val (.ref q), .val (.int (0 : Int32)), .val (.int (0 : Int32))] [(.int (0 : Int32))]) (fun _ k => XS.iloadN X37.here hx rfl (hb hby d23_40) rfl k) ?_
  refine Go.st (mkF m 42 #[.val (.ref a), .val (.ref q), .val (.int (0 : Int32)), .val (.int (0 : Int32))] [(.ref q), (.int (0 : Int32))]) (fun _ k => XS.aloadN X37.here hx rfl (hb hby d23_41) rfl rfl k) ?_
  refine Go.st (mkF m 43 #[.val (.ref a), .val (.ref q), .val (.int (0 : Int32)), .val (.int (0 : Int32))] [(.int (0 : Int32)), (.ref q), (.int (0 : Int32))]) (fun _ k => XS.iloadN X37.here hx rfl (hb hby d23_42) rfl k) ?_
  refine Go.st (mkF m 44 #[.val (.ref a), .val (.ref q), .val (.int (0 : Int32)), .val (.int (0 : Int32))] [(.int x0), (.int (0 : Int32))]) (fun _ k => ldI X37 hx hZ e37 V41 (i := 0) (by decide) (by decide) (by decide) (v := (.int x0)) rfl (g := (mkF m 43 #[.val (.ref a), .val (.ref q), .val (.int (0 : Int32)), .val (.int (0 : Int32))] [(.int (0 : Int32)), (.ref q), (.int (0 : Int32))])) rfl rfl (hb hby d23_43) _ k) ?_
  obtain ⟨_, _, ⟨T47, L47, k47, n47⟩, -, X47, ⟨Lc47, hQ47, l47, y47, z47⟩, st47⟩ := Jvm.LawKit.callS X37 hx (y := (⟨"java/lang/Math", "addExact", "(II)I"⟩ : MethodName)) hown (mvT hZ (hw _ (List.mem_of_getElem? (i := 34) rfl))) (mvT hZ (hw _ (List.mem_of_getElem? (i := 35) rfl))) (mvT hZ (hw _ (List.mem_of_getElem? (i := 36) rfl))) (mvT hZ (hw _ (List.mem_of_getElem? (i := 37) rfl))) (by decide) (backOf (W := 0) (rm_9 l Z a0 hw [] (0 : Int32) x0 h37 n0 (Nat.le_trans Z0 K37.1) (own_ae0 pr7)) hZ (hw _ (List.mem_of_getElem? (i := 37) rfl)) (hw _ (List.mem_of_getElem? (i := 36) rfl)) (by decide) (by decide)) (g := (mkF m 44 #[.val (.ref a), .val (.ref q), .val (.int (0 : Int32)), .val (.int (0 : Int32))] [(.int x0), (.int (0 : Int32))])) rfl (by rw [hml]; rfl) (argsL := [(.int (0 : Int32)), (.int x0)]) (rest := []) (lenOf pd_0 rfl) rfl (by show 2 * 0 + _ ≤ _; exact Nat.le_of_eq rfl) (hb hby d23_44) (fun _ _ => ⟨rfl, e37, (by decide : 2 + 0 ≤ _), (by decide : 6 + 0 ≤ _)⟩)
  dsimp only [Pt.U, Pt.locs, Pt.cells, Pt.slots] at X47 l47 y47 z47 st47 hQ47
  subst l47 y47 z47
  obtain ⟨rfl, N47q, e47⟩ := hQ47
  have N47 := Fr.app N37 N47q
  refine Go.st (mkF m 47 #[.val (.ref a), .val (.ref q), .val (.int (0 : Int32)), .val (.int (0 : Int32))] [(.int ((0 : Int32) + x0))]) (fun _ k => st47 _ k) ?_
  refine Go.st (mkF m 48 #[.val (.ref a), .val (.ref q), .val (.int ((0 : Int32) + x0)), .val (.int (0 : Int32))] []) (fun _ k => XS.istoreN X47.here hx rfl (hb hby d23_47) rfl (l' := #[.val (.ref a), .val (.ref q), .val (.int ((0 : Int32) + x0)), .val (.int (0 : Int32))]) rfl k) ?_
  refine Go.st (mkF m 51 #[.val (.ref a), .val (.ref q), .val (.int ((0 : Int32) + x0)), .val (.int (1 : Int32))] []) (fun _ k => XS.iinc X47.here hx rfl (hb hby d23_48) rfl (l' := #[.val (.ref a), .val (.ref q), .val (.int ((0 : Int32) + x0)), .val (.int (1 : Int32))]) rfl k) ?_
  refine Go.st (mkF m 27 #[.val (.ref a), .val (.ref q), .val (.int ((0 : Int32) + x0)), .val (.int (1 : Int32))] []) (fun _ k => XS.goto X47.here hx rfl (pc0 := 51) (pc' := 27) rfl (hb hby d23_51) (by decide) (by decide) k) ?_
  refine Go.st (mkF m 28 #[.val (.ref a), .val (.ref q), .val (.int ((0 : Int32) + x0)), .val (.int (1 : Int32))] [(.int (1 : Int32))]) (fun _ k => XS.iloadN X47.here hx rfl (hb hby d23_27) rfl k) ?_
  refine Go.st (mkF m 29 #[.val (.ref a), .val (.ref q), .val (.int ((0 : Int32) + x0)), .val (.int (1 : Int32))] [(.ref q), (.int (1 : Int32))]) (fun _ k => XS.aloadN X47.here hx rfl (hb hby d23_28) rfl rfl k) ?_
  refine Go.st (mkF m 30 #[.val (.ref a), .val (.ref q), .val (.int ((0 : Int32) + x0)), .val (.int (1 : Int32))] [(.int (3 : Int32)), (.int (1 : Int32))]) (fun _ k => lenA X47 hx hZ e47 V41 (z := (3 : Int32)) rfl (g := (mkF m 29 #[.val (.ref a), .val (.ref q), .val (.int ((0 : Int32) + x0)), .val (.int (1 : Int32))] [(.ref q), (.int (1 : Int32))])) rfl rfl (hb hby d23_29) _ k) ?_
  refine Go.st (mkF m 33 #[.val (.ref a), .val (.ref q), .val (.int ((0 : Int32) + x0)), .val (.int (1 : Int32))] []) (fun _ k => XS.icmpNo X47.here hx rfl (hb hby d23_30) rfl (tlt (by decide : (1 : Int32) < (3 : Int32))).2.1 k) ?_
  refine Go.st (mkF m 34 #[.val (.ref a), .val (.ref q), .val (.int ((0 : Int32) + x0)), .val (.int (1 : Int32))] [(.ref a)]) (fun _ k => XS.aloadN X47.here hx rfl (hb hby d23_33) rfl rfl k) ?_
  obtain ⟨T48, X48, e48, st48⟩ := getF X47 hx hZ hown (host := "") (Or.inl (hw _ (List.mem_of_getElem? (i := 27) rfl))) Via.refl e47 F40 (g := (mkF m 34 #[.val (.ref a), .val (.ref q), .val (.int ((0 : Int32) + x0)), .val (.int (1 : Int32))] [(.ref a)])) rfl rfl (hb hby d23_34)
  refine Go.st (mkF m 37 #[.val (.ref a), .val (.ref q), .val (.int ((0 : Int32) + x0)), .val (.int (1 : Int32))] [(.ref b17)]) (fun _ k => st48 _ k) ?_
  refine Go.st (mkF m 38 #[.val (.ref a), .val (.ref q), .val (.int ((0 : Int32) + x0)), .val (.int (1 : Int32))] [(.int (1 : Int32)), (.ref b17)]) (fun _ k => XS.iloadN X48.here hx rfl (hb hby d23_37) rfl k) ?_
  refine Go.st (mkF m 39 #[.val (.ref a), .val (.ref q), .val (.int ((0 : Int32) + x0)), .val (.int (1 : Int32))] [(.int ((0 : Int32) + x0)), (.int (1 : Int32)), (.ref b17)]) (fun _ k => XS.iloadN X48.here hx rfl (hb hby d23_38) rfl k) ?_
  obtain ⟨T49, h49, X49, e49, W49, st49⟩ := stAI X48 hx hZ e48 V46 (i := 1) (by decide) (by decide) (by decide) (g := (mkF m 39 #[.val (.ref a), .val (.ref q), .val (.int ((0 : Int32) + x0)), .val (.int (1 : Int32))] [(.int ((0 : Int32) + x0)), (.int (1 : Int32)), (.ref b17)])) rfl rfl (hb hby d23_39)
  have E50q : Exa Z h49 a "com/example/regular_role_reasoner/regularrolereasoner/alcoif/Elements" := E38q.wr W49
  have F51 : Fld Z h49 a "com/example/regular_role_reasoner/regularrolereasoner/alcoif/Elements" "sizes" "[I" (.ref b2) := F39.other W49 (Or.inl ne_a_b17)
  have F52 : Fld Z h49 a "com/example/regular_role_reasoner/regularrolereasoner/alcoif/Elements" "first" "[I" (.ref b17) := F40.other W49 (Or.inl ne_a_b17)
  have V53 : Ary Z h49 q .int 3 (lst [(.int x0), (.int x1), (.int x2)]) := V41.other W49 ne_q_b17
  have E54q : Exa Z h49 q "[I" := E42q.wr W49
  have E55q : Exa Z h49 b2 "[I" := E43q.wr W49
  have V56 : Ary Z h49 b2 .int 3 (lst [(.int x0), (.int x1), (.int x2)]) := V44.other W49 ne_b2_b17
  have E57q : Exa Z h49 b17 "[I" := E45q.wr W49
  have V58 : Ary Z h49 b17 .int 3 (lst [(.int (0 : Int32)), (.int ((0 : Int32) + x0)), (.int (0 : Int32))]) := V46.sameL W49 (by simp)
  have K49 : Keep h0 h49 [a] := K37.wr W49 (Or.inr sz_b17)
  have N49 := Fr.snoc X49 N47 g_b17
  refine Go.st (mkF m 40 #[.val (.ref a), .val (.ref q), .val (.int ((0 : Int32) + x0)), .val (.int (1 : Int32))] []) (fun _ k => st49 _ k) ?_
  refine Go.st (mkF m 41 #[.val (.ref a), .val (.ref q), .val (.int ((0 : Int32) + x0)), .val (.int (1 : Int32))] [(.int ((0 : Int32) + x0))]) (fun _ k => XS.iloadN X49.here hx rfl (hb hby d23_40) rfl k) ?_
  refine Go.st (mkF m 42 #[.val (.ref a), .val (.ref q), .val (.int ((0 : Int32) + x0)), .val (.int (1 : Int32))] [(.ref q), (.int ((0 : Int32) + x0))]) (fun _ k => XS.aloadN X49.here hx rfl (hb hby d23_41) rfl rfl k) ?_
  refine Go.st (mkF m 43 #[.val (.ref a), .val (.ref q), .val (.int ((0 : Int32) + x0)), .val (.int (1 : Int32))] [(.int (1 : Int32)), (.ref q), (.int ((0 : Int32) + x0))]) (fun _ k => XS.iloadN X49.here hx rfl (hb hby d23_42) rfl k) ?_
  refine Go.st (mkF m 44 #[.val (.ref a), .val (.ref q), .val (.int ((0 : Int32) + x0)), .val (.int (1 : Int32))] [(.int x1), (.int ((0 : Int32) + x0))]) (fun _ k => ldI X49 hx hZ e49 V53 (i := 1) (by decide) (by decide) (by decide) (v := (.int x1)) rfl (g := (mkF m 43 #[.val (.ref a), .val (.ref q), .val (.int ((0 : Int32) + x0)), .val (.int (1 : Int32))] [(.int (1 : Int32)), (.ref q), (.int ((0 : Int32) + x0))])) rfl rfl (hb hby d23_43) _ k) ?_
  obtain ⟨_, _, ⟨T59, L59, k59, n59⟩, -, X59, ⟨Lc59, hQ59, l59, y59, z59⟩, st59⟩ := Jvm.LawKit.callS X49 hx (y := (⟨"java/lang/Math", "addExact", "(II)I"⟩ : MethodName)) hown (mvT hZ (hw _ (List.mem_of_getElem? (i := 34) rfl))) (mvT hZ (hw _ (List.mem_of_getElem? (i := 35) rfl))) (mvT hZ (hw _ (List.mem_of_getElem? (i := 36) rfl))) (mvT hZ (hw _ (List.mem_of_getElem? (i := 37) rfl))) (by decide) (backOf (W := 0) (rm_9 l Z a0 hw [] ((0 : Int32) + x0) x1 h49 n0 (Nat.le_trans Z0 K49.1) (own_ae1 pr7 pr8)) hZ (hw _ (List.mem_of_getElem? (i := 37) rfl)) (hw _ (List.mem_of_getElem? (i := 36) rfl)) (by decide) (by decide)) (g := (mkF m 44 #[.val (.ref a), .val (.ref q), .val (.int ((0 : Int32) + x0)), .val (.int (1 : Int32))] [(.int x1), (.int ((0 : Int32) + x0))])) rfl (by rw [hml]; rfl) (argsL := [(.int ((0 : Int32) + x0)), (.int x1)]) (rest := []) (lenOf pd_0 rfl) rfl (by show 2 * 0 + _ ≤ _; exact Nat.le_of_eq rfl) (hb hby d23_44) (fun _ _ => ⟨rfl, e49, (by decide : 2 + 0 ≤ _), (by decide : 6 + 0 ≤ _)⟩)
  dsimp only [Pt.U, Pt.locs, Pt.cells, Pt.slots] at X59 l59 y59 z59 st59 hQ59
  subst l59 y59 z59
  obtain ⟨rfl, N59q, e59⟩ := hQ59
  have N59 := Fr.app N49 N59q
  refine Go.st (mkF m 47 #[.val (.ref a), .val (.ref q), .val (.int ((0 : Int32) + x0)), .val (.int (1 : Int32))] [(.int (((0 : Int32) + x0) + x1))]) (fun _ k => st59 _ k) ?_
  refine Go.st (mkF m 48 #[.val (.ref a), .val (.ref q), .val (.int (((0 : Int32) + x0) + x1)), .val (.int (1 : Int32))] []) (fun _ k => XS.istoreN X59.here hx rfl (hb hby d23_47) rfl (l' := #[.val (.ref a), .val (.ref q), .val (.int (((0 : Int32) + x0) + x1)), .val (.int (1 : Int32))]) rfl k) ?_
  refine Go.st (mkF m 51 #[.val (.ref a), .val (.ref q), .val (.int (((0 : Int32) + x0) + x1)), .val (.int (2 : Int32))] []) (fun _ k => XS.iinc X59.here hx rfl (hb hby d23_48) rfl (l' := #[.val (.ref a), .val (.ref q), .val (.int (((0 : Int32) + x0) + x1)), .val (.int (2 : Int32))]) rfl k) ?_
  refine Go.st (mkF m 27 #[.val (.ref a), .val (.ref q), .val (.int (((0 : Int32) + x0) + x1)), .val (.int (2 : Int32))] []) (fun _ k => XS.goto X59.here hx rfl (pc0 := 51) (pc' := 27) rfl (hb hby d23_51) (by decide) (by decide) k) ?_
  refine Go.st (mkF m 28 #[.val (.ref a), .val (.ref q), .val (.int (((0 : Int32) + x0) + x1)), .val (.int (2 : Int32))] [(.int (2 : Int32))]) (fun _ k => XS.iloadN X59.here hx rfl (hb hby d23_27) rfl k) ?_
  refine Go.st (mkF m 29 #[.val (.ref a), .val (.ref q), .val (.int (((0 : Int32) + x0) + x1)), .val (.int (2 : Int32))] [(.ref q), (.int (2 : Int32))]) (fun _ k => XS.aloadN X59.here hx rfl (hb hby d23_28) rfl rfl k) ?_
  refine Go.st (mkF m 30 #[.val (.ref a), .val (.ref q), .val (.int (((0 : Int32) + x0) + x1)), .val (.int (2 : Int32))] [(.int (3 : Int32)), (.int (2 : Int32))]) (fun _ k => lenA X59 hx hZ e59 V53 (z := (3 : Int32)) rfl (g := (mkF m 29 #[.val (.ref a), .val (.ref q), .val (.int (((0 : Int32) + x0) + x1)), .val (.int (2 : Int32))] [(.ref q), (.int (2 : Int32))])) rfl rfl (hb hby d23_29) _ k) ?_
  refine Go.st (mkF m 33 #[.val (.ref a), .val (.ref q), .val (.int (((0 : Int32) + x0) + x1)), .val (.int (2 : Int32))] []) (fun _ k => XS.icmpNo X59.here hx rfl (hb hby d23_30) rfl (tlt (by decide : (2 : Int32) < (3 : Int32))).2.1 k) ?_
  refine Go.st (mkF m 34 #[.val (.ref a), .val (.ref q), .val (.int (((0 : Int32) + x0) + x1)), .val (.int (2 : Int32))] [(.ref a)]) (fun _ k => XS.aloadN X59.here hx rfl (hb hby d23_33) rfl rfl k) ?_
  obtain ⟨T60, X60, e60, st60⟩ := getF X59 hx hZ hown (host := "") (Or.inl (hw _ (List.mem_of_getElem? (i := 27) rfl))) Via.refl e59 F52 (g := (mkF m 34 #[.val (.ref a), .val (.ref q), .val (.int (((0 : Int32) + x0) + x1)), .val (.int (2 : Int32))] [(.ref a)])) rfl rfl (hb hby d23_34)
  refine Go.st (mkF m 37 #[.val (.ref a), .val (.ref q), .val (.int (((0 : Int32) + x0) + x1)), .val (.int (2 : Int32))] [(.ref b17)]) (fun _ k => st60 _ k) ?_
  refine Go.st (mkF m 38 #[.val (.ref a), .val (.ref q), .val (.int (((0 : Int32) + x0) + x1)), .val (.int (2 : Int32))] [(.int (2 : Int32)), (.ref b17)]) (fun _ k => XS.iloadN X60.here hx rfl (hb hby d23_37) rfl k) ?_
  refine Go.st (mkF m 39 #[.val (.ref a), .val (.ref q), .val (.int (((0 : Int32) + x0) + x1)), .val (.int (2 : Int32))] [(.int (((0 : Int32) + x0) + x1)), (.int (2 : Int32)), (.ref b17)]) (fun _ k => XS.iloadN X60.here hx rfl (hb hby d23_38) rfl k) ?_
  obtain ⟨T61, h61, X61, e61, W61, st61⟩ := stAI X60 hx hZ e60 V58 (i := 2) (by decide) (by decide) (by decide) (g := (mkF m 39 #[.val (.ref a), .val (.ref q), .val (.int (((0 : Int32) + x0) + x1)), .val (.int (2 : Int32))] [(.int (((0 : Int32) + x0) + x1)), (.int (2 : Int32)), (.ref b17)])) rfl rfl (hb hby d23_39)
  have E62q : Exa Z h61 a "com/example/regular_role_reasoner/regularrolereasoner/alcoif/Elements" := E50q.wr W61
  have F63 : Fld Z h61 a "com/example/regular_role_reasoner/regularrolereasoner/alcoif/Elements" "sizes" "[I" (.ref b2) := F51.other W61 (Or.inl ne_a_b17)
  have F64 : Fld Z h61 a "com/example/regular_role_reasoner/regularrolereasoner/alcoif/Elements" "first" "[I" (.ref b17) := F52.other W61 (Or.inl ne_a_b17)
  have V65 : Ary Z h61 q .int 3 (lst [(.int x0), (.int x1), (.int x2)]) := V53.other W61 ne_q_b17
  have E66q : Exa Z h61 q "[I" := E54q.wr W61
  have E67q : Exa Z h61 b2 "[I" := E55q.wr W61
  have V68 : Ary Z h61 b2 .int 3 (lst [(.int x0), (.int x1), (.int x2)]) := V56.other W61 ne_b2_b17
  have E69q : Exa Z h61 b17 "[I" := E57q.wr W61
  have V70 : Ary Z h61 b17 .int 3 (lst [(.int (0 : Int32)), (.int ((0 : Int32) + x0)), (.int (((0 : Int32) + x0) + x1))]) := V58.sameL W61 (by simp)
  have K61 : Keep h0 h61 [a] := K49.wr W61 (Or.inr sz_b17)
  have N61 := Fr.snoc X61 N59 g_b17
  refine Go.st (mkF m 40 #[.val (.ref a), .val (.ref q), .val (.int (((0 : Int32) + x0) + x1)), .val (.int (2 : Int32))] []) (fun _ k => st61 _ k) ?_
  refine Go.st (mkF m 41 #[.val (.ref a), .val (.ref q), .val (.int (((0 : Int32) + x0) + x1)), .val (.int (2 : Int32))] [(.int (((0 : Int32) + x0) + x1))]) (fun _ k => XS.iloadN X61.here hx rfl (hb hby d23_40) rfl k) ?_
  refine Go.st (mkF m 42 #[.val (.ref a), .val (.ref q), .val (.int (((0 : Int32) + x0) + x1)), .val (.int (2 : Int32))] [(.ref q), (.int (((0 : Int32) + x0) + x1))]) (fun _ k => XS.aloadN X61.here hx rfl (hb hby d23_41) rfl rfl k) ?_
  refine Go.st (mkF m 43 #[.val (.ref a), .val (.ref q), .val (.int (((0 : Int32) + x0) + x1)), .val (.int (2 : Int32))] [(.int (2 : Int32)), (.ref q), (.int (((0 : Int32) + x0) + x1))]) (fun _ k => XS.iloadN X61.here hx rfl (hb hby d23_42) rfl k) ?_
  refine Go.st (mkF m 44 #[.val (.ref a), .val (.ref q), .val (.int (((0 : Int32) + x0) + x1)), .val (.int (2 : Int32))] [(.int x2), (.int (((0 : Int32) + x0) + x1))]) (fun _ k => ldI X61 hx hZ e61 V65 (i := 2) (by decide) (by decide) (by decide) (v := (.int x2)) rfl (g := (mkF m 43 #[.val (.ref a), .val (.ref q), .val (.int (((0 : Int32) + x0) + x1)), .val (.int (2 : Int32))] [(.int (2 : Int32)), (.ref q), (.int (((0 : Int32) + x0) + x1))])) rfl rfl (hb hby d23_43) _ k) ?_
  obtain ⟨_, _, ⟨T71, L71, k71, n71⟩, -, X71, ⟨Lc71, hQ71, l71, y71, z71⟩, st71⟩ := Jvm.LawKit.callS X61 hx (y := (⟨"java/lang/Math", "addExact", "(II)I"⟩ : MethodName)) hown (mvT hZ (hw _ (List.mem_of_getElem? (i := 34) rfl))) (mvT hZ (hw _ (List.mem_of_getElem? (i := 35) rfl))) (mvT hZ (hw _ (List.mem_of_getElem? (i := 36) rfl))) (mvT hZ (hw _ (List.mem_of_getElem? (i := 37) rfl))) (by decide) (backOf (W := 0) (rm_9 l Z a0 hw [] (((0 : Int32) + x0) + x1) x2 h61 n0 (Nat.le_trans Z0 K61.1) (own_ae2 pr7 pr8 pr9)) hZ (hw _ (List.mem_of_getElem? (i := 37) rfl)) (hw _ (List.mem_of_getElem? (i := 36) rfl)) (by decide) (by decide)) (g := (mkF m 44 #[.val (.ref a), .val (.ref q), .val (.int (((0 : Int32) + x0) + x1)), .val (.int (2 : Int32))] [(.int x2), (.int (((0 : Int32) + x0) + x1))])) rfl (by rw [hml]; rfl) (argsL := [(.int (((0 : Int32) + x0) + x1)), (.int x2)]) (rest := []) (lenOf pd_0 rfl) rfl (by show 2 * 0 + _ ≤ _; exact Nat.le_of_eq rfl) (hb hby d23_44) (fun _ _ => ⟨rfl, e61, (by decide : 2 + 0 ≤ _), (by decide : 6 + 0 ≤ _)⟩)
  dsimp only [Pt.U, Pt.locs, Pt.cells, Pt.slots] at X71 l71 y71 z71 st71 hQ71
  subst l71 y71 z71
  obtain ⟨rfl, N71q, e71⟩ := hQ71
  have N71 := Fr.app N61 N71q
  refine Go.st (mkF m 47 #[.val (.ref a), .val (.ref q), .val (.int (((0 : Int32) + x0) + x1)), .val (.int (2 : Int32))] [(.int ((((0 : Int32) + x0) + x1) + x2))]) (fun _ k => st71 _ k) ?_
  refine Go.st (mkF m 48 #[.val (.ref a), .val (.ref q), .val (.int ((((0 : Int32) + x0) + x1) + x2)), .val (.int (2 : Int32))] []) (fun _ k => XS.istoreN X71.here hx rfl (hb hby d23_47) rfl (l' := #[.val (.ref a), .val (.ref q), .val (.int ((((0 : Int32) + x0) + x1) + x2)), .val (.int (2 : Int32))]) rfl k) ?_
  refine Go.st (mkF m 51 #[.val (.ref a), .val (.ref q), .val (.int ((((0 : Int32) + x0) + x1) + x2)), .val (.int (3 : Int32))] []) (fun _ k => XS.iinc X71.here hx rfl (hb hby d23_48) rfl (l' := #[.val (.ref a), .val (.ref q), .val (.int ((((0 : Int32) + x0) + x1) + x2)), .val (.int (3 : Int32))]) rfl k) ?_
  refine Go.st (mkF m 27 #[.val (.ref a), .val (.ref q), .val (.int ((((0 : Int32) + x0) + x1) + x2)), .val (.int (3 : Int32))] []) (fun _ k => XS.goto X71.here hx rfl (pc0 := 51) (pc' := 27) rfl (hb hby d23_51) (by decide) (by decide) k) ?_
  refine Go.st (mkF m 28 #[.val (.ref a), .val (.ref q), .val (.int ((((0 : Int32) + x0) + x1) + x2)), .val (.int (3 : Int32))] [(.int (3 : Int32))]) (fun _ k => XS.iloadN X71.here hx rfl (hb hby d23_27) rfl k) ?_
  refine Go.st (mkF m 29 #[.val (.ref a), .val (.ref q), .val (.int ((((0 : Int32) + x0) + x1) + x2)), .val (.int (3 : Int32))] [(.ref q), (.int (3 : Int32))]) (fun _ k => XS.aloadN X71.here hx rfl (hb hby d23_28) rfl rfl k) ?_
  refine Go.st (mkF m 30 #[.val (.ref a), .val (.ref q), .val (.int ((((0 : Int32) + x0) + x1) + x2)), .val (.int (3 : Int32))] [(.int (3 : Int32)), (.int (3 : Int32))]) (fun _ k => lenA X71 hx hZ e71 V65 (z := (3 : Int32)) rfl (g := (mkF m 29 #[.val (.ref a), .val (.ref q), .val (.int ((((0 : Int32) + x0) + x1) + x2)), .val (.int (3 : Int32))] [(.ref q), (.int (3 : Int32))])) rfl rfl (hb hby d23_29) _ k) ?_
  refine Go.st (mkF m 54 #[.val (.ref a), .val (.ref q), .val (.int ((((0 : Int32) + x0) + x1) + x2)), .val (.int (3 : Int32))] []) (fun _ k => XS.icmpYes X71.here hx rfl (pc0 := 30) (pc' := 54) rfl (hb hby d23_30) rfl (flt (by decide : ¬ ((3 : Int32) < (3 : Int32)))).2.1 (by decide) (by decide) k) ?_
  exact Go.retV X71 hx Bd.notSynchronized Bd.returns (hb hby d23_54) (by rw [e71]; exact ⟨b2, b17, rfl, N71, K61, sz_b2, sz_b17, F63, F64, V68, V70⟩) (by decide) (by decide)
theorem d33_0 : decode prog_1_method_4_code 0 = .ok (.aload_n 0, 1) := by decide +kernel
theorem d33_1 : decode prog_1_method_4_code 1 = .ok (.getfield 13, 3) := by decide +kernel
theorem d33_4 : decode prog_1_method_4_code 4 = .ok (.arraylength, 1) := by decide +kernel
theorem d33_5 : decode prog_1_method_4_code 5 = .ok (.ifCond .ne 7, 3) := by decide +kernel
theorem d33_12 : decode prog_1_method_4_code 12 = .ok (.aload_n 0, 1) := by decide +kernel
theorem d33_13 : decode prog_1_method_4_code 13 = .ok (.getfield 18, 3) := by decide +kernel
theorem d33_16 : decode prog_1_method_4_code 16 = .ok (.aload_n 0, 1) := by decide +kernel
theorem d33_17 : decode prog_1_method_4_code 17 = .ok (.getfield 13, 3) := by decide +kernel
theorem d33_20 : decode prog_1_method_4_code 20 = .ok (.arraylength, 1) := by decide +kernel
theorem d33_21 : decode prog_1_method_4_code 21 = .ok (.iconst 1, 1) := by decide +kernel
theorem d33_22 : decode prog_1_method_4_code 22 = .ok (.isub, 1) := by decide +kernel
theorem d33_23 : decode prog_1_method_4_code 23 = .ok (.iaload, 1) := by decide +kernel
theorem d33_24 : decode prog_1_method_4_code 24 = .ok (.aload_n 0, 1) := by decide +kernel
theorem d33_25 : decode prog_1_method_4_code 25 = .ok (.getfield 13, 3) := by decide +kernel
theorem d33_28 : decode prog_1_method_4_code 28 = .ok (.aload_n 0, 1) := by decide +kernel
theorem d33_29 : decode prog_1_method_4_code 29 = .ok (.getfield 13, 3) := by decide +kernel
theorem d33_32 : decode prog_1_method_4_code 32 = .ok (.arraylength, 1) := by decide +kernel
theorem d33_33 : decode prog_1_method_4_code 33 = .ok (.iconst 1, 1) := by decide +kernel
theorem d33_34 : decode prog_1_method_4_code 34 = .ok (.isub, 1) := by decide +kernel
theorem d33_35 : decode prog_1_method_4_code 35 = .ok (.iaload, 1) := by decide +kernel
theorem d33_36 : decode prog_1_method_4_code 36 = .ok (.iadd, 1) := by decide +kernel
theorem d33_37 : decode prog_1_method_4_code 37 = .ok (.ireturn, 1) := by decide +kernel
theorem ef_33 (m : MethodId) (a : Addr) : entryFrame m #[(.ref a)] 1 = (mkF m 0 #[.val (.ref a)] []) := by first | (simp [entryFrame, mkF, argsToLocals, Value.category]; done) | rfl
def Q_33 (Z : State) (a : Addr) (b1 : Addr) (b2 : Addr) (x0 : Int32) (x1 : Int32) (x2 : Int32) (y0 : Int32) (y1 : Int32) (y2 : Int32) (h0 : Heap) (n0 : Nat) (v : Option Value) (h : Heap) (L : List Loc) : Prop := v = some (.int (y2 + x2)) ∧ Fr n0 L ∧ h = h0
set_option maxRecDepth 65536 in
set_option maxHeartbeats 40000000 in
theorem rm_33 (l : Launch) (Z : State) (a0 : Array Value) (hw : ∀ d ∈ tables_1, d.before a0 Z = true) (ws : List Jvm.Cond) (a : Addr) (b1 : Addr) (b2 : Addr) (x0 : Int32) (x1 : Int32) (x2 : Int32) (y0 : Int32) (y1 : Int32) (y2 : Int32) (h0 : Heap) (n0 : Nat) (Z0 : n0 ≤ h0.size) (pr0 : Fld Z h0 a "com/example/regular_role_reasoner/regularrolereasoner/alcoif/Elements" "sizes" "[I" (.ref b1)) (pr1 : Fld Z h0 a "com/example/regular_role_reasoner/regularrolereasoner/alcoif/Elements" "first" "[I" (.ref b2)) (pr2 : Ary Z h0 b1 .int 3 (lst [(.int x0), (.int x1), (.int x2)])) (pr3 : Ary Z h0 b2 .int 3 (lst [(.int y0), (.int y1), (.int y2)])) :
    MetFree l (⟨"com/example/regular_role_reasoner/regularrolereasoner/alcoif/Elements", "total", "()I"⟩ : MethodName) (head1 (Jvm.Cond.code (⟨"com/example/regular_role_reasoner/regularrolereasoner/alcoif/Elements", "total", "()I"⟩ : MethodName) prog_1_method_4_code 1 (some .int) :: ws) ({ frames := 0, cells := 0, slots := 0, locals := 0 } : Room)) (fun aa U => aa = #[(.ref a)] ∧ Z.Warmed39 U.vm ∧ U.heap = h0) (fun _ _ _ _ _ => True) (fun _ U o U' => ∃ v L, o = .returned v ∧ Q_33 Z a b1 b2 x0 x1 x2 y0 y1 y2 h0 n0 v U'.heap L ∧ FrameEnd U o U' L ({ frames := 0, cells := 0, slots := 0, locals := 0 } : Room).cells ({ frames := 0, cells := 0, slots := 0, locals := 0 } : Room).slots) := by
  refine MetFree.of_bodySF (plainFor_of_name pn_1) hisR ?_
  intro p e s m args below meth c s₁ Bd hml0 hP hK
  obtain ⟨rfl, hZ, hh⟩ := hP
  have hx := Bd.exec
  have hby := Bd.bytes
  have hml : c.maxLocals = 1 := hml0
  have hown : s.vm.findClass "com/example/regular_role_reasoner/regularrolereasoner/alcoif/Elements" = some m.cls := findClass_of_methodNamed Bd.named
  have hnm := (name_of_methodNamed Bd.named Bd.method).1
  have X0 : Stand p l e ({ frames := 0, cells := 0, slots := 0, locals := 0 } : Room) s m #[(.ref a)] below meth c s₁ [] 0 0 := Stand.of_body Bd
  have e0 : s₁.heap = h0 := by rw [← hh, Bd.state]; rfl
  have N0 := Fr.nil n0
  have K0 := Keep.refl h0 []
  show Go p e below s (Q_33 Z a b1 b2 x0 x1 x2 y0 y1 y2 h0 n0) 0 0 s₁ (entryFrame m #[(.ref a)] 1)
  refine Go.of_eq (ef_33 m a) ?_
  refine Go.st (mkF m 1 #[.val (.ref a)] [(.ref a)]) (fun _ k => XS.aloadN X0.here hx rfl (hb hby d33_0) rfl rfl k) ?_
  obtain ⟨T1, X1, e1, st1⟩ := getF X0 hx hZ hown (host := "") (Or.inl (hw _ (List.mem_of_getElem? (i := 25) rfl))) Via.refl e0 pr0 (g := (mkF m 1 #[.val (.ref a)] [(.ref a)])) rfl rfl (hb hby d33_1)
  refine Go.st (mkF m 4 #[.val (.ref a)] [(.ref b1)]) (fun _ k => st1 _ k) ?_
  refine Go.st (mkF m 5 #[.val (.ref a)] [(.int (3 : Int32))]) (fun _ k => lenA X1 hx hZ e1 pr2 (z := (3 : Int32)) rfl (g := (mkF m 4 #[.val (.ref a)] [(.ref b1)])) rfl rfl (hb hby d33_4) _ k) ?_
  refine Go.st (mkF m 12 #[.val (.ref a)] []) (fun _ k => XS.ifYes X1.here hx rfl (pc0 := 5) (pc' := 12) rfl (hb hby d33_5) rfl ((if0 _ _).trans (feq (by decide : ¬ ((3 : Int32) = (0 : Int32)))).2) (by decide) (by decide) k) ?_
  refine Go.st (mkF m 13 #[.val (.ref a)] [(.ref a)]) (fun _ k => XS.aloadN X1.here hx rfl (hb hby d33_12) rfl rfl k) ?_
  obtain ⟨T2, X2, e2, st2⟩ := getF X1 hx hZ hown (host := "") (Or.inl (hw _ (List.mem_of_getElem? (i := 27) rfl))) Via.refl e1 pr1 (g := (mkF m 13 #[.val (.ref a)] [(.ref a)])) rfl rfl (hb hby d33_13)
  refine Go.st (mkF m 16 #[.val (.ref a)] [(.ref b2)]) (fun _ k => st2 _ k) ?_
  refine Go.st (mkF m 17 #[.val (.ref a)] [(.ref a), (.ref b2)]) (fun _ k => XS.aloadN X2.here hx rfl (hb hby d33_16) rfl rfl k) ?_
  obtain ⟨T3, X3, e3, st3⟩ := getF X2 hx hZ hown (host := "") (Or.inl (hw _ (List.mem_of_getElem? (i := 25) rfl))) Via.refl e2 pr0 (g := (mkF m 17 #[.val (.ref a)] [(.ref a), (.ref b2)])) rfl rfl (hb hby d33_17)
  refine Go.st (mkF m 20 #[.val (.ref a)] [(.ref b1), (.ref b2)]) (fun _ k => st3 _ k) ?_
  refine Go.st (mkF m 21 #[.val (.ref a)] [(.int (3 : Int32)), (.ref b2)]) (fun _ k => lenA X3 hx hZ e3 pr2 (z := (3 : Int32)) rfl (g := (mkF m 20 #[.val (.ref a)] [(.ref b1), (.ref b2)])) rfl rfl (hb hby d33_20) _ k) ?_
  refine Go.st (mkF m 22 #[.val (.ref a)] [(.int (1 : Int32)), (.int (3 : Int32)), (.ref b2)]) (fun _ k => XS.iconst X3.here hx rfl (hb hby d33_21) k) ?_
  refine Go.st (mkF m 23 #[.val (.ref a)] [(.int (2 : Int32)), (.ref b2)]) (fun _ k => XS.isub X3.here hx rfl (hb hby d33_22) rfl k) ?_
  refine Go.st (mkF m 24 #[.val (.ref a)] [(.int y2)]) (fun _ k => ldI X3 hx hZ e3 pr3 (i := 2) (by decide) (by decide) (by decide) (v := (.int y2)) rfl (g := (mkF m 23 #[.val (.ref a)] [(.int (2 : Int32)), (.ref b2)])) rfl rfl (hb hby d33_23) _ k) ?_
  refine Go.st (mkF m 25 #[.val (.ref a)] [(.ref a), (.int y2)]) (fun _ k => XS.aloadN X3.here hx rfl (hb hby d33_24) rfl rfl k) ?_
  obtain ⟨T4, X4, e4, st4⟩ := getF X3 hx hZ hown (host := "") (Or.inl (hw _ (List.mem_of_getElem? (i := 25) rfl))) Via.refl e3 pr0 (g := (mkF m 25 #[.val (.ref a)] [(.ref a), (.int y2)])) rfl rfl (hb hby d33_25)
  refine Go.st (mkF m 28 #[.val (.ref a)] [(.ref b1), (.int y2)]) (fun _ k => st4 _ k) ?_
  refine Go.st (mkF m 29 #[.val (.ref a)] [(.ref a), (.ref b1), (.int y2)]) (fun _ k => XS.aloadN X4.here hx rfl (hb hby d33_28) rfl rfl k) ?_
  obtain ⟨T5, X5, e5, st5⟩ := getF X4 hx hZ hown (host := "") (Or.inl (hw _ (List.mem_of_getElem? (i := 25) rfl))) Via.refl e4 pr0 (g := (mkF m 29 #[.val (.ref a)] [(.ref a), (.ref b1), (.int y2)])) rfl rfl (hb hby d33_29)
  refine Go.st (mkF m 32 #[.val (.ref a)] [(.ref b1), (.ref b1), (.int y2)]) (fun _ k => st5 _ k) ?_
  refine Go.st (mkF m 33 #[.val (.ref a)] [(.int (3 : Int32)), (.ref b1), (.int y2)]) (fun _ k => lenA X5 hx hZ e5 pr2 (z := (3 : Int32)) rfl (g := (mkF m 32 #[.val (.ref a)] [(.ref b1), (.ref b1), (.int y2)])) rfl rfl (hb hby d33_32) _ k) ?_
  refine Go.st (mkF m 34 #[.val (.ref a)] [(.int (1 : Int32)), (.int (3 : Int32)), (.ref b1), (.int y2)]) (fun _ k => XS.iconst X5.here hx rfl (hb hby d33_33) k) ?_
  refine Go.st (mkF m 35 #[.val (.ref a)] [(.int (2 : Int32)), (.ref b1), (.int y2)]) (fun _ k => XS.isub X5.here hx rfl (hb hby d33_34) rfl k) ?_
  refine Go.st (mkF m 36 #[.val (.ref a)] [(.int x2), (.int y2)]) (fun _ k => ldI X5 hx hZ e5 pr2 (i := 2) (by decide) (by decide) (by decide) (v := (.int x2)) rfl (g := (mkF m 35 #[.val (.ref a)] [(.int (2 : Int32)), (.ref b1), (.int y2)])) rfl rfl (hb hby d33_35) _ k) ?_
  refine Go.st (mkF m 37 #[.val (.ref a)] [(.int (y2 + x2))]) (fun _ k => XS.iadd X5.here hx rfl (hb hby d33_36) rfl k) ?_
  exact Go.retI X5 hx Bd.notSynchronized Bd.returns (hb hby d33_37) ⟨rfl, N0, e5⟩ (by decide) (by decide)
theorem d24_0 : decode prog_1_method_1_code 0 = .ok (.aload_n 0, 1) := by decide +kernel
theorem d24_1 : decode prog_1_method_1_code 1 = .ok (.invokespecial 1, 3) := by decide +kernel
theorem d24_4 : decode prog_1_method_1_code 4 = .ok (.aload_n 0, 1) := by decide +kernel
theorem d24_5 : decode prog_1_method_1_code 5 = .ok (.aload_n 1, 1) := by decide +kernel
theorem d24_6 : decode prog_1_method_1_code 6 = .ok (.invokevirtual 7, 3) := by decide +kernel
theorem d24_9 : decode prog_1_method_1_code 9 = .ok (.checkcast 8, 3) := by decide +kernel
theorem d24_12 : decode prog_1_method_1_code 12 = .ok (.putfield 13, 3) := by decide +kernel
theorem d24_15 : decode prog_1_method_1_code 15 = .ok (.aload_n 0, 1) := by decide +kernel
theorem d24_16 : decode prog_1_method_1_code 16 = .ok (.aload_n 1, 1) := by decide +kernel
theorem d24_17 : decode prog_1_method_1_code 17 = .ok (.arraylength, 1) := by decide +kernel
theorem d24_18 : decode prog_1_method_1_code 18 = .ok (.newarray .int, 2) := by decide +kernel
theorem d24_20 : decode prog_1_method_1_code 20 = .ok (.putfield 18, 3) := by decide +kernel
theorem d24_23 : decode prog_1_method_1_code 23 = .ok (.iconst 0, 1) := by decide +kernel
theorem d24_24 : decode prog_1_method_1_code 24 = .ok (.istore_n 2, 1) := by decide +kernel
theorem d24_25 : decode prog_1_method_1_code 25 = .ok (.iconst 0, 1) := by decide +kernel
theorem d24_26 : decode prog_1_method_1_code 26 = .ok (.istore_n 3, 1) := by decide +kernel
theorem d24_27 : decode prog_1_method_1_code 27 = .ok (.iload_n 3, 1) := by decide +kernel
theorem d24_28 : decode prog_1_method_1_code 28 = .ok (.aload_n 1, 1) := by decide +kernel
theorem d24_29 : decode prog_1_method_1_code 29 = .ok (.arraylength, 1) := by decide +kernel
theorem d24_30 : decode prog_1_method_1_code 30 = .ok (.if_icmp .ge 24, 3) := by decide +kernel
theorem d24_33 : decode prog_1_method_1_code 33 = .ok (.aload_n 0, 1) := by decide +kernel
theorem d24_34 : decode prog_1_method_1_code 34 = .ok (.getfield 18, 3) := by decide +kernel
theorem d24_37 : decode prog_1_method_1_code 37 = .ok (.iload_n 3, 1) := by decide +kernel
theorem d24_38 : decode prog_1_method_1_code 38 = .ok (.iload_n 2, 1) := by decide +kernel
theorem d24_39 : decode prog_1_method_1_code 39 = .ok (.iastore, 1) := by decide +kernel
theorem d24_40 : decode prog_1_method_1_code 40 = .ok (.iload_n 2, 1) := by decide +kernel
theorem d24_41 : decode prog_1_method_1_code 41 = .ok (.aload_n 1, 1) := by decide +kernel
theorem d24_42 : decode prog_1_method_1_code 42 = .ok (.iload_n 3, 1) := by decide +kernel
theorem d24_43 : decode prog_1_method_1_code 43 = .ok (.iaload, 1) := by decide +kernel
theorem d24_44 : decode prog_1_method_1_code 44 = .ok (.invokestatic 21, 3) := by decide +kernel
theorem d24_47 : decode prog_1_method_1_code 47 = .ok (.istore_n 2, 1) := by decide +kernel
theorem d24_48 : decode prog_1_method_1_code 48 = .ok (.iinc 3 1, 3) := by decide +kernel
theorem d24_51 : decode prog_1_method_1_code 51 = .ok (.goto (-24), 3) := by decide +kernel
theorem d24_54 : decode prog_1_method_1_code 54 = .ok (.return_, 1) := by decide +kernel
theorem ef_24 (m : MethodId) (a : Addr) (q : Addr) : entryFrame m #[(.ref a), (.ref q)] 4 = (mkF m 0 #[.val (.ref a), .val (.ref q), .unset, .unset] []) := by first | (simp [entryFrame, mkF, argsToLocals, Value.category]; done) | rfl
def Q_24 (Z : State) (a : Addr) (q : Addr) (x0 : Int32) (x1 : Int32) (x2 : Int32) (x3 : Int32) (h0 : Heap) (n0 : Nat) (v : Option Value) (h : Heap) (L : List Loc) : Prop := ∃ b1 : Addr, ∃ b2 : Addr, v = none ∧ Fr n0 L ∧ Keep h0 h [a] ∧ h0.size ≤ b1 ∧ h0.size ≤ b2 ∧ Fld Z h a "com/example/regular_role_reasoner/regularrolereasoner/alcoif/Elements" "sizes" "[I" (.ref b1) ∧ Fld Z h a "com/example/regular_role_reasoner/regularrolereasoner/alcoif/Elements" "first" "[I" (.ref b2) ∧ Ary Z h b1 .int 4 (lst [(.int x0), (.int x1), (.int x2), (.int x3)]) ∧ Ary Z h b2 .int 4 (lst [(.int (0 : Int32)), (.int ((0 : Int32) + x0)), (.int (((0 : Int32) + x0) + x1)), (.int ((((0 : Int32) + x0) + x1) + x2))])
set_option maxRecDepth 65536 in
set_option maxHeartbeats 40000000 in
theorem rm_24 (l : Launch) (Z : State) (a0 : Array Value) (hw : ∀ d ∈ tables_1, d.before a0 Z = true) (ws : List Jvm.Cond) (a : Addr) (q : Addr) (x0 : Int32) (x1 : Int32) (x2 : Int32) (x3 : Int32) (h0 : Heap) (n0 : Nat) (Z0 : n0 ≤ h0.size) (pr0 : Exa Z h0 a "com/example/regular_role_reasoner/regularrolereasoner/alcoif/Elements") (pr1 : Fld Z h0 a "com/example/regular_role_reasoner/regularrolereasoner/alcoif/Elements" "sizes" "[I" .null) (pr2 : Fld Z h0 a "com/example/regular_role_reasoner/regularrolereasoner/alcoif/Elements" "first" "[I" .null) (pr3 : Ary Z h0 q .int 4 (lst [(.int x0), (.int x1), (.int x2), (.int x3)])) (pr4 : Exa Z h0 q "[I") (pr5 : n0 ≤ a) (pr6 : a ≠ q) (pr7 : Sml x0) (pr8 : Sml x1) (pr9 : Sml x2) (pr10 : Sml x3) :
    MetFree l (⟨"com/example/regular_role_reasoner/regularrolereasoner/alcoif/Elements", "<init>", "([I)V"⟩ : MethodName) (head1 (Jvm.Cond.code (⟨"com/example/regular_role_reasoner/regularrolereasoner/alcoif/Elements", "<init>", "([I)V"⟩ : MethodName) prog_1_method_1_code 4 none :: ws) ({ frames := 1, cells := 2, slots := 8, locals := 15 } : Room)) (fun aa U => aa = #[(.ref a), (.ref q)] ∧ Z.Warmed39 U.vm ∧ U.heap = h0) (fun _ _ _ _ _ => True) (fun _ U o U' => ∃ v L, o = .returned v ∧ Q_24 Z a q x0 x1 x2 x3 h0 n0 v U'.heap L ∧ FrameEnd U o U' L ({ frames := 1, cells := 2, slots := 8, locals := 15 } : Room).cells ({ frames := 1, cells := 2, slots := 8, locals := 15 } : Room).slots) := by
  refine MetFree.of_bodySF (plainFor_of_name pn_1) hisR ?_
  intro p e s m args below meth c s₁ Bd hml0 hP hK
  obtain ⟨rfl, hZ, hh⟩ := hP
  have hx := Bd.exec
  have hby := Bd.bytes
  have hml : c.maxLocals = 4 := hml0
  have hown : s.vm.findClass "com/example/regular_role_reasoner/regularrolereasoner/alcoif/Elements" = some m.cls := findClass_of_methodNamed Bd.named
  have hnm := (name_of_methodNamed Bd.named Bd.method).1
  have X0 : Stand p l e ({ frames := 1, cells := 2, slots := 8, locals := 15 } : Room) s m #[(.ref a), (.ref q)] below meth c s₁ [] 0 0 := Stand.of_body Bd
  have e0 : s₁.heap = h0 := by rw [← hh, Bd.state]; rfl
  have N0 := Fr.nil n0
  have K0 := Keep.refl h0 [a]
  show Go p e below s (Q_24 Z a q x0 x1 x2 x3 h0 n0) 2 8 s₁ (entryFrame m #[(.ref a), (.ref q)] 4)
  refine Go.of_eq (ef_24 m a q) ?_
  refine Go.st (mkF m 1 #[.val (.ref a), .val (.ref q), .unset, .unset] [(.ref a)]) (fun _ k => XS.aloadN X0.here hx rfl (hb hby d24_0) rfl rfl k) ?_
  obtain ⟨T1, X1, e1, st1⟩ := initO X0 hx hZ hown (hw _ (List.mem_of_getElem? (i := 13) rfl)) (hw _ (List.mem_of_getElem? (i := 14) rfl)) (hw _ (List.mem_of_getElem? (i := 15) rfl)) e0 (g := (mkF m 1 #[.val (.ref a), .val (.ref q), .unset, .unset] [(.ref a)])) rfl (by rw [hml]; rfl) rfl (hb hby d24_1) (by decide) (W := 0) (by show 2 * 0 + _ ≤ _; exact Nat.le_of_eq rfl) (by decide)
  refine Go.st (mkF m 4 #[.val (.ref a), .val (.ref q), .unset, .unset] []) (fun _ k => st1 _ k) ?_
  refine Go.st (mkF m 5 #[.val (.ref a), .val (.ref q), .unset, .unset] [(.ref a)]) (fun _ k => XS.aloadN X1.here hx rfl (hb hby d24_4) rfl rfl k) ?_
  refine Go.st (mkF m 6 #[.val (.ref a), .val (.ref q), .unset, .unset] [(.ref q), (.ref a)]) (fun _ k => XS.aloadN X1.here hx rfl (hb hby d24_5) rfl rfl k) ?_
  obtain ⟨T2, h2, X2, e2, E2, A2, Y2, st2⟩ := cloneY X1 hx hZ hown (hw _ (List.mem_of_getElem? (i := 16) rfl)) (hw _ (List.mem_of_getElem? (i := 17) rfl)) (hw _ (List.mem_of_getElem? (i := 21) rfl)) (hw _ (List.mem_of_getElem? (i := 19) rfl)) (hw _ (List.mem_of_getElem? (i := 20) rfl)) (hw _ (List.mem_of_getElem? (i := 22) rfl)) e1 pr3 pr4 (by simp [lst]) (g := (mkF m 6 #[.val (.ref a), .val (.ref q), .unset, .unset] [(.ref q), (.ref a)])) rfl (by rw [hml]; rfl) rfl (hb hby d24_6) (by decide) (W := 1) (cap := 4) (by show 2 * 0 + _ ≤ _; exact Nat.le_of_eq rfl) (by decide) (by decide) (by decide) (by decide)
  obtain ⟨b2, q2⟩ : ∃ z, z = h0.size := ⟨_, rfl⟩
  rw [← q2] at A2 Y2 st2
  have sz_b2 : h0.size ≤ b2 := by rw [q2]; exact K0.1
  have g_b2 : n0 ≤ b2 := Nat.le_trans Z0 sz_b2
  have ne_a_b2 : a ≠ b2 := Nat.ne_of_lt (by rw [q2]; exact pr0.lt)
  have ne_q_b2 : q ≠ b2 := Nat.ne_of_lt (by rw [q2]; exact pr3.lt)
  have E3q : Exa Z h2 a "com/example/regular_role_reasoner/regularrolereasoner/alcoif/Elements" := pr0.ext E2
  have F4 : Fld Z h2 a "com/example/regular_role_reasoner/regularrolereasoner/alcoif/Elements" "sizes" "[I" .null := pr1.ext E2
  have F5 : Fld Z h2 a "com/example/regular_role_reasoner/regularrolereasoner/alcoif/Elements" "first" "[I" .null := pr2.ext E2
  have V6 : Ary Z h2 q .int 4 (lst [(.int x0), (.int x1), (.int x2), (.int x3)]) := pr3.ext E2
  have E7q : Exa Z h2 q "[I" := pr4.ext E2
  have K2 : Keep h0 h2 [a] := K0.ext E2
  refine Go.st (mkF m 9 #[.val (.ref a), .val (.ref q), .unset, .unset] [(.ref b2), (.ref a)]) (fun _ k => st2 _ k) ?_
  obtain ⟨T8, X8, e8, st8⟩ := castY X2 hx hZ hown (hw _ (List.mem_of_getElem? (i := 23) rfl)) e2 (Ins.self Y2) (g := (mkF m 9 #[.val (.ref a), .val (.ref q), .unset, .unset] [(.ref b2), (.ref a)])) rfl rfl (hb hby d24_9)
  refine Go.st (mkF m 12 #[.val (.ref a), .val (.ref q), .unset, .unset] [(.ref b2), (.ref a)]) (fun _ k => st8 _ k) ?_
  obtain ⟨T9, h9, X9, e9, W9, st9⟩ := putF X8 hx hZ hown (host := "") (Or.inl (hw _ (List.mem_of_getElem? (i := 25) rfl))) Via.refl e8 F4 E3q (Or.inr ⟨(hw _ (List.mem_of_getElem? (i := 26) rfl)), rfl, hnm⟩) (hw _ (List.mem_of_getElem? (i := 8) rfl)) (ty := (.array .int)) (by decide) rfl rfl (g := (mkF m 12 #[.val (.ref a), .val (.ref q), .unset, .unset] [(.ref b2), (.ref a)])) rfl rfl (hb hby d24_12)
  have E10q : Exa Z h9 a "com/example/regular_role_reasoner/regularrolereasoner/alcoif/Elements" := E3q.wr W9
  have F11 : Fld Z h9 a "com/example/regular_role_reasoner/regularrolereasoner/alcoif/Elements" "sizes" "[I" (.ref b2) := F4.same W9
  have F12 : Fld Z h9 a "com/example/regular_role_reasoner/regularrolereasoner/alcoif/Elements" "first" "[I" .null := F5.other W9 (Or.inr (slot_ne (Or.inr (hw _ (List.mem_of_getElem? (i := 28) rfl))) (Or.inr (hw _ (List.mem_of_getElem? (i := 26) rfl))) (by decide) (t := (.array .int)) (t' := (.array .int)) (by decide) (by decide)))
  have V13 : Ary Z h9 q .int 4 (lst [(.int x0), (.int x1), (.int x2), (.int x3)]) := V6.other W9 (Ne.symm pr6)
  have E14q : Exa Z h9 q "[I" := E7q.wr W9
  have E15q : Exa Z h9 b2 "[I" := Y2.wr W9
  have V16 : Ary Z h9 b2 .int 4 (lst [(.int x0), (.int x1), (.int x2), (.int x3)]) := A2.other W9 (Ne.symm ne_a_b2)
  have K9 : Keep h0 h9 [a] := K2.wr W9 (Or.inl (by simp))
  have N9 := Fr.snoc X9 N0 pr5
  refine Go.st (mkF m 15 #[.val (.ref a), .val (.ref q), .unset, .unset] []) (fun _ k => st9 _ k) ?_
  refine Go.st (mkF m 16 #[.val (.ref a), .val (.ref q), .unset, .unset] [(.ref a)]) (fun _ k => XS.aloadN X9.here hx rfl (hb hby d24_15) rfl rfl k) ?_
  refine Go.st (mkF m 17 #[.val (.ref a), .val (.ref q), .unset, .unset] [(.ref q), (.ref a)]) (fun _ k => XS.aloadN X9.here hx rfl (hb hby d24_16) rfl rfl k) ?_
  refine Go.st (mkF m 18 #[.val (.ref a), .val (.ref q), .unset, .unset] [(.int (4 : Int32)), (.ref a)]) (fun _ k => lenA X9 hx hZ e9 V13 (z := (4 : Int32)) rfl (g := (mkF m 17 #[.val (.ref a), .val (.ref q), .unset, .unset] [(.ref q), (.ref a)])) rfl rfl (hb hby d24_17) _ k) ?_
  obtain ⟨T17, h17, k17, X17, e17, E17, A17, Y17, st17⟩ := newPE X9 hx hZ (hw _ (List.mem_of_getElem? (i := 6) rfl)) e9 (g := (mkF m 18 #[.val (.ref a), .val (.ref q), .unset, .unset] [(.int (4 : Int32)), (.ref a)])) rfl (hb hby d24_18) rfl (by decide) (cap := 4) (by decide) (by decide) (by decide) (by decide) (ad := "[I") rfl
  obtain ⟨b17, q17⟩ : ∃ z, z = h9.size := ⟨_, rfl⟩
  rw [← q17] at A17 st17 Y17
  have sz_b17 : h0.size ≤ b17 := by rw [q17]; exact K9.1
  have g_b17 : n0 ≤ b17 := Nat.le_trans Z0 sz_b17
  have ne_a_b17 : a ≠ b17 := Nat.ne_of_lt (by rw [q17]; exact E10q.lt)
  have ne_q_b17 : q ≠ b17 := Nat.ne_of_lt (by rw [q17]; exact V13.lt)
  have ne_b2_b17 : b2 ≠ b17 := Nat.ne_of_lt (by rw [q17]; exact E15q.lt)
  have E18q : Exa Z h17 a "com/example/regular_role_reasoner/regularrolereasoner/alcoif/Elements" := E10q.ext E17
  have F19 : Fld Z h17 a "com/example/regular_role_reasoner/regularrolereasoner/alcoif/Elements" "sizes" "[I" (.ref b2) := F11.ext E17
  have F20 : Fld Z h17 a "com/example/regular_role_reasoner/regularrolereasoner/alcoif/Elements" "first" "[I" .null := F12.ext E17
  have V21 : Ary Z h17 q .int 4 (lst [(.int x0), (.int x1), (.int x2), (.int x3)]) := V13.ext E17
  have E22q : Exa Z h17 q "[I" := E14q.ext E17
  have E23q : Exa Z h17 b2 "[I" := E15q.ext E17
  have V24 : Ary Z h17 b2 .int 4 (lst [(.int x0), (.int x1), (.int x2), (.int x3)]) := V16.ext E17
  have K17 : Keep h0 h17 [a] := K9.ext E17
  have V25 : Ary Z h17 b17 .int 4 (lst [(.int (0 : Int32)), (.int (0 : Int32)), (.int (0 : Int32)), (.int (0 : Int32))]) := Ary.newL A17 (by decide)
  refine Go.st (mkF m 20 #[.val (.ref a), .val (.ref q), .unset, .unset] [(.ref b17), (.ref a)]) (fun _ k => st17 _ k) ?_
  obtain ⟨T26, h26, X26, e26, W26, st26⟩ := putF X17 hx hZ hown (host := "") (Or.inl (hw _ (List.mem_of_getElem? (i := 27) rfl))) Via.refl e17 F20 E18q (Or.inr ⟨(hw _ (List.mem_of_getElem? (i := 28) rfl)), rfl, hnm⟩) (hw _ (List.mem_of_getElem? (i := 8) rfl)) (ty := (.array .int)) (by decide) rfl rfl (g := (mkF m 20 #[.val (.ref a), .val (.ref q), .unset, .unset] [(.ref b17), (.ref a)])) rfl rfl (hb hby d24_20)
  have E27q : Exa Z h26 a "com/example/regular_role_reasoner/regularrolereasoner/alcoif/Elements" := E18q.wr W26
  have F28 : Fld Z h26 a "com/example/regular_role_reasoner/regularrolereasoner/alcoif/Elements" "sizes" "[I" (.ref b2) := F19.other W26 (Or.inr (slot_ne (Or.inr (hw _ (List.mem_of_getElem? (i := 26) rfl))) (Or.inr (hw _ (List.mem_of_getElem? (i := 28) rfl))) (by decide) (t := (.array .int)) (t' := (.array .int)) (by decide) (by decide)))
  have F29 : Fld Z h26 a "com/example/regular_role_reasoner/regularrolereasoner/alcoif/Elements" "first" "[I" (.ref b17) := F20.same W26
  have V30 : Ary Z h26 q .int 4 (lst [(.int x0), (.int x1), (.int x2), (.int x3)]) := V21.other W26 (Ne.symm pr6)
  have E31q : Exa Z h26 q "[I" := E22q.wr W26
  have E32q : Exa Z h26 b2 "[I" := E23q.wr W26
  have V33 : Ary Z h26 b2 .int 4 (lst [(.int x0), (.int x1), (.int x2), (.int x3)]) := V24.other W26 (Ne.symm ne_a_b2)
  have E34q : Exa Z h26 b17 "[I" := Y17.wr W26
  have V35 : Ary Z h26 b17 .int 4 (lst [(.int (0 : Int32)), (.int (0 : Int32)), (.int (0 : Int32)), (.int (0 : Int32))]) := V25.other W26 (Ne.symm ne_a_b17)
  have K26 : Keep h0 h26 [a] := K17.wr W26 (Or.inl (by simp))
  have N26 := Fr.snoc X26 N9 pr5
  refine Go.st (mkF m 23 #[.val (.ref a), .val (.ref q), .unset, .unset] []) (fun _ k => st26 _ k) ?_
  refine Go.st (mkF m 24 #[.val (.ref a), .val (.ref q), .unset, .unset] [(.int (0 : Int32))]) (fun _ k => XS.iconst X26.here hx rfl (hb hby d24_23) k) ?_
  refine Go.st (mkF m 25 #[.val (.ref a), .val (.ref q), .val (.int (0 : Int32)), .unset] []) (fun _ k => XS.istoreN X26.here hx rfl (hb hby d24_24) rfl (l' := #[.val (.ref a), .val (.ref q), .val (.int (0 : Int32)), .unset]) rfl k) ?_
  refine Go.st (mkF m 26 #[.val (.ref a), .val (.ref q), .val (.int (0 : Int32)), .unset] [(.int (0 : Int32))]) (fun _ k => XS.iconst X26.here hx rfl (hb hby d24_25) k) ?_
  refine Go.st (mkF m 27 #[.val (.ref a), .val (.ref q), .val (.int (0 : Int32)), .val (.int (0 : Int32))] []) (fun _ k => XS.istoreN X26.here hx rfl (hb hby d24_26) rfl (l' := #[.val (.ref a), .val (.ref q), .val (.int (0 : Int32)), .val (.int (0 : Int32))]) rfl k) ?_
  refine Go.st (mkF m 28 #[.val (.ref a), .val (.ref q), .val (.int (0 : Int32)), .val (.int (0 : Int32))] [(.int (0 : Int32))]) (fun _ k => XS.iloadN X26.here hx rfl (hb hby d24_27) rfl k) ?_
  refine Go.st (mkF m 29 #[.val (.ref a), .val (.ref q), .val (.int (0 : Int32)), .val (.int (0 : Int32))] [(.ref q), (.int (0 : Int32))]) (fun _ k => XS.aloadN X26.here hx rfl (hb hby d24_28) rfl rfl k) ?_
  refine Go.st (mkF m 30 #[.val (.ref a), .val (.ref q), .val (.int (0 : Int32)), .val (.int (0 : Int32))] [(.int (4 : Int32)), (.int (0 : Int32))]) (fun _ k => lenA X26 hx hZ e26 V30 (z := (4 : Int32)) rfl (g := (mkF m 29 #[.val (.ref a), .val (.ref q), .val (.int (0 : Int32)), .val (.int (0 : Int32))] [(.ref q), (.int (0 : Int32))])) rfl rfl (hb hby d24_29) _ k) ?_
  refine Go.st (mkF m 33 #[.val (.ref a), .val (.ref q), .val (.int (0 : Int32)), .val (.int (0 : Int32))] []) (fun _ k => XS.icmpNo X26.here hx rfl (hb hby d24_30) rfl (tlt (by decide : (0 : Int32) < (4 : Int32))).2.1 k) ?_
  refine Go.st (mkF m 34 #[.val (.ref a), .val (.ref q), .val (.int (0 : Int32)), .val (.int (0 : Int32))] [(.ref a)]) (fun _ k => XS.aloadN X26.here hx rfl (hb hby d24_33) rfl rfl k) ?_
  obtain ⟨T36, X36, e36, st36⟩ := getF X26 hx hZ hown (host := "") (Or.inl (hw _ (List.mem_of_getElem? (i := 27) rfl))) Via.refl e26 F29 (g := (mkF m 34 #[.val (.ref a), .val (.ref q), .val (.int (0 : Int32)), .val (.int (0 : Int32))] [(.ref a)])) rfl rfl (hb hby d24_34)
  refine Go.st (mkF m 37 #[.val (.ref a), .val (.ref q), .val (.int (0 : Int32)), .val (.int (0 : Int32))] [(.ref b17)]) (fun _ k => st36 _ k) ?_
  refine Go.st (mkF m 38 #[.val (.ref a), .val (.ref q), .val (.int (0 : Int32)), .val (.int (0 : Int32))] [(.int (0 : Int32)), (.ref b17)]) (fun _ k => XS.iloadN X36.here hx rfl (hb hby d24_37) rfl k) ?_
  refine Go.st (mkF m 39 #[.val (.ref a), .val (.ref q), .val (.int (0 : Int32)), .val (.int (0 : Int32))] [(.int (0 : Int32)), (.int (0 : Int32)), (.ref b17)]) (fun _ k => XS.iloadN X36.here hx rfl (hb hby d24_38) rfl k) ?_
  obtain ⟨T37, h37, X37, e37, W37, st37⟩ := stAI X36 hx hZ e36 V35 (i := 0) (by decide) (by decide) (by decide) (g := (mkF m 39 #[.val (.ref a), .val (.ref q), .val (.int (0 : Int32)), .val (.int (0 : Int32))] [(.int (0 : Int32)), (.int (0 : Int32)), (.ref b17)])) rfl rfl (hb hby d24_39)
  have E38q : Exa Z h37 a "com/example/regular_role_reasoner/regularrolereasoner/alcoif/Elements" := E27q.wr W37
  have F39 : Fld Z h37 a "com/example/regular_role_reasoner/regularrolereasoner/alcoif/Elements" "sizes" "[I" (.ref b2) := F28.other W37 (Or.inl ne_a_b17)
  have F40 : Fld Z h37 a "com/example/regular_role_reasoner/regularrolereasoner/alcoif/Elements" "first" "[I" (.ref b17) := F29.other W37 (Or.inl ne_a_b17)
  have V41 : Ary Z h37 q .int 4 (lst [(.int x0), (.int x1), (.int x2), (.int x3)]) := V30.other W37 ne_q_b17
  have E42q : Exa Z h37 q "[I" := E31q.wr W37
  have E43q : Exa Z h37 b2 "[I" := E32q.wr W37
  have V44 : Ary Z h37 b2 .int 4 (lst [(.int x0), (.int x1), (.int x2), (.int x3)]) := V33.other W37 ne_b2_b17
  have E45q : Exa Z h37 b17 "[I" := E34q.wr W37
  have V46 : Ary Z h37 b17 .int 4 (lst [(.int (0 : Int32)), (.int (0 : Int32)), (.int (0 : Int32)), (.int (0 : Int32))]) := V35.sameL W37 (by simp)
  have K37 : Keep h0 h37 [a] := K26.wr W37 (Or.inr sz_b17)
  have N37 := Fr.snoc X37 N26 g_b17
  refine Go.st (mkF m 40 #[.val (.ref a), .val (.ref q), .val (.int (0 : Int32)), .val (.int (0 : Int32))] []) (fun _ k => st37 _ k) ?_
  refine Go.st (mkF m 41 #[.val (.ref a), .val (.ref q), .val (.int (0 : Int32)), .val (.int (0 : Int32))] [(.int (0 : Int32))]) (fun _ k => XS.iloadN X37.here hx rfl (hb hby d24_40) rfl k) ?_
  refine Go.st (mkF m 42 #[.val (.ref a), .val (.ref q), .val (.int (0 : Int32)), .val (.int (0 : Int32))] [(.ref q), (.int (0 : Int32))]) (fun _ k => XS.aloadN X37.here hx rfl (hb hby d24_41) rfl rfl k) ?_
  refine Go.st (mkF m 43 #[.val (.ref a), .val (.ref q), .val (.int (0 : Int32)), .val (.int (0 : Int32))] [(.int (0 : Int32)), (.ref q), (.int (0 : Int32))]) (fun _ k => XS.iloadN X37.here hx rfl (hb hby d24_42) rfl k) ?_
  refine Go.st (mkF m 44 #[.val (.ref a), .val (.ref q), .val (.int (0 : Int32)), .val (.int (0 : Int32))] [(.int x0), (.int (0 : Int32))]) (fun _ k => ldI X37 hx hZ e37 V41 (i := 0) (by decide) (by decide) (by decide) (v := (.int x0)) rfl (g := (mkF m 43 #[.val (.ref a), .val (.ref q), .val (.int (0 : Int32)), .val (.int (0 : Int32))] [(.int (0 : Int32)), (.ref q), (.int (0 : Int32))])) rfl rfl (hb hby d24_43) _ k) ?_
  obtain ⟨_, _, ⟨T47, L47, k47, n47⟩, -, X47, ⟨Lc47, hQ47, l47, y47, z47⟩, st47⟩ := Jvm.LawKit.callS X37 hx (y := (⟨"java/lang/Math", "addExact", "(II)I"⟩ : MethodName)) hown (mvT hZ (hw _ (List.mem_of_getElem? (i := 34) rfl))) (mvT hZ (hw _ (List.mem_of_getElem? (i := 35) rfl))) (mvT hZ (hw _ (List.mem_of_getElem? (i := 36) rfl))) (mvT hZ (hw _ (List.mem_of_getElem? (i := 37) rfl))) (by decide) (backOf (W := 0) (rm_9 l Z a0 hw [] (0 : Int32) x0 h37 n0 (Nat.le_trans Z0 K37.1) (own_ae0 pr7)) hZ (hw _ (List.mem_of_getElem? (i := 37) rfl)) (hw _ (List.mem_of_getElem? (i := 36) rfl)) (by decide) (by decide)) (g := (mkF m 44 #[.val (.ref a), .val (.ref q), .val (.int (0 : Int32)), .val (.int (0 : Int32))] [(.int x0), (.int (0 : Int32))])) rfl (by rw [hml]; rfl) (argsL := [(.int (0 : Int32)), (.int x0)]) (rest := []) (lenOf pd_0 rfl) rfl (by show 2 * 0 + _ ≤ _; exact Nat.le_of_eq rfl) (hb hby d24_44) (fun _ _ => ⟨rfl, e37, (by decide : 2 + 0 ≤ _), (by decide : 8 + 0 ≤ _)⟩)
  dsimp only [Pt.U, Pt.locs, Pt.cells, Pt.slots] at X47 l47 y47 z47 st47 hQ47
  subst l47 y47 z47
  obtain ⟨rfl, N47q, e47⟩ := hQ47
  have N47 := Fr.app N37 N47q
  refine Go.st (mkF m 47 #[.val (.ref a), .val (.ref q), .val (.int (0 : Int32)), .val (.int (0 : Int32))] [(.int ((0 : Int32) + x0))]) (fun _ k => st47 _ k) ?_
  refine Go.st (mkF m 48 #[.val (.ref a), .val (.ref q), .val (.int ((0 : Int32) + x0)), .val (.int (0 : Int32))] []) (fun _ k => XS.istoreN X47.here hx rfl (hb hby d24_47) rfl (l' := #[.val (.ref a), .val (.ref q), .val (.int ((0 : Int32) + x0)), .val (.int (0 : Int32))]) rfl k) ?_
  refine Go.st (mkF m 51 #[.val (.ref a), .val (.ref q), .val (.int ((0 : Int32) + x0)), .val (.int (1 : Int32))] []) (fun _ k => XS.iinc X47.here hx rfl (hb hby d24_48) rfl (l' := #[.val (.ref a), .val (.ref q), .val (.int ((0 : Int32) + x0)), .val (.int (1 : Int32))]) rfl k) ?_
  refine Go.st (mkF m 27 #[.val (.ref a), .val (.ref q), .val (.int ((0 : Int32) + x0)), .val (.int (1 : Int32))] []) (fun _ k => XS.goto X47.here hx rfl (pc0 := 51) (pc' := 27) rfl (hb hby d24_51) (by decide) (by decide) k) ?_
  refine Go.st (mkF m 28 #[.val (.ref a), .val (.ref q), .val (.int ((0 : Int32) + x0)), .val (.int (1 : Int32))] [(.int (1 : Int32))]) (fun _ k => XS.iloadN X47.here hx rfl (hb hby d24_27) rfl k) ?_
  refine Go.st (mkF m 29 #[.val (.ref a), .val (.ref q), .val (.int ((0 : Int32) + x0)), .val (.int (1 : Int32))] [(.ref q), (.int (1 : Int32))]) (fun _ k => XS.aloadN X47.here hx rfl (hb hby d24_28) rfl rfl k) ?_
  refine Go.st (mkF m 30 #[.val (.ref a), .val (.ref q), .val (.int ((0 : Int32) + x0)), .val (.int (1 : Int32))] [(.int (4 : Int32)), (.int (1 : Int32))]) (fun _ k => lenA X47 hx hZ e47 V41 (z := (4 : Int32)) rfl (g := (mkF m 29 #[.val (.ref a), .val (.ref q), .val (.int ((0 : Int32) + x0)), .val (.int (1 : Int32))] [(.ref q), (.int (1 : Int32))])) rfl rfl (hb hby d24_29) _ k) ?_
  refine Go.st (mkF m 33 #[.val (.ref a), .val (.ref q), .val (.int ((0 : Int32) + x0)), .val (.int (1 : Int32))] []) (fun _ k => XS.icmpNo X47.here hx rfl (hb hby d24_30) rfl (tlt (by decide : (1 : Int32) < (4 : Int32))).2.1 k) ?_
  refine Go.st (mkF m 34 #[.val (.ref a), .val (.ref q), .val (.int ((0 : Int32) + x0)), .val (.int (1 : Int32))] [(.ref a)]) (fun _ k => XS.aloadN X47.here hx rfl (hb hby d24_33) rfl rfl k) ?_
  obtain ⟨T48, X48, e48, st48⟩ := getF X47 hx hZ hown (host := "") (Or.inl (hw _ (List.mem_of_getElem? (i := 27) rfl))) Via.refl e47 F40 (g := (mkF m 34 #[.val (.ref a), .val (.ref q), .val (.int ((0 : Int32) + x0)), .val (.int (1 : Int32))] [(.ref a)])) rfl rfl (hb hby d24_34)
  refine Go.st (mkF m 37 #[.val (.ref a), .val (.ref q), .val (.int ((0 : Int32) + x0)), .val (.int (1 : Int32))] [(.ref b17)]) (fun _ k => st48 _ k) ?_
  refine Go.st (mkF m 38 #[.val (.ref a), .val (.ref q), .val (.int ((0 : Int32) + x0)), .val (.int (1 : Int32))] [(.int (1 : Int32)), (.ref b17)]) (fun _ k => XS.iloadN X48.here hx rfl (hb hby d24_37) rfl k) ?_
  refine Go.st (mkF m 39 #[.val (.ref a), .val (.ref q), .val (.int ((0 : Int32) + x0)), .val (.int (1 : Int32))] [(.int ((0 : Int32) + x0)), (.int (1 : Int32)), (.ref b17)]) (fun _ k => XS.iloadN X48.here hx rfl (hb hby d24_38) rfl k) ?_
  obtain ⟨T49, h49, X49, e49, W49, st49⟩ := stAI X48 hx hZ e48 V46 (i := 1) (by decide) (by decide) (by decide) (g := (mkF m 39 #[.val (.ref a), .val (.ref q), .val (.int ((0 : Int32) + x0)), .val (.int (1 : Int32))] [(.int ((0 : Int32) + x0)), (.int (1 : Int32)), (.ref b17)])) rfl rfl (hb hby d24_39)
  have E50q : Exa Z h49 a "com/example/regular_role_reasoner/regularrolereasoner/alcoif/Elements" := E38q.wr W49
  have F51 : Fld Z h49 a "com/example/regular_role_reasoner/regularrolereasoner/alcoif/Elements" "sizes" "[I" (.ref b2) := F39.other W49 (Or.inl ne_a_b17)
  have F52 : Fld Z h49 a "com/example/regular_role_reasoner/regularrolereasoner/alcoif/Elements" "first" "[I" (.ref b17) := F40.other W49 (Or.inl ne_a_b17)
  have V53 : Ary Z h49 q .int 4 (lst [(.int x0), (.int x1), (.int x2), (.int x3)]) := V41.other W49 ne_q_b17
  have E54q : Exa Z h49 q "[I" := E42q.wr W49
  have E55q : Exa Z h49 b2 "[I" := E43q.wr W49
  have V56 : Ary Z h49 b2 .int 4 (lst [(.int x0), (.int x1), (.int x2), (.int x3)]) := V44.other W49 ne_b2_b17
  have E57q : Exa Z h49 b17 "[I" := E45q.wr W49
  have V58 : Ary Z h49 b17 .int 4 (lst [(.int (0 : Int32)), (.int ((0 : Int32) + x0)), (.int (0 : Int32)), (.int (0 : Int32))]) := V46.sameL W49 (by simp)
  have K49 : Keep h0 h49 [a] := K37.wr W49 (Or.inr sz_b17)
  have N49 := Fr.snoc X49 N47 g_b17
  refine Go.st (mkF m 40 #[.val (.ref a), .val (.ref q), .val (.int ((0 : Int32) + x0)), .val (.int (1 : Int32))] []) (fun _ k => st49 _ k) ?_
  refine Go.st (mkF m 41 #[.val (.ref a), .val (.ref q), .val (.int ((0 : Int32) + x0)), .val (.int (1 : Int32))] [(.int ((0 : Int32) + x0))]) (fun _ k => XS.iloadN X49.here hx rfl (hb hby d24_40) rfl k) ?_
  refine Go.st (mkF m 42 #[.val (.ref a), .val (.ref q), .val (.int ((0 : Int32) + x0)), .val (.int (1 : Int32))] [(.ref q), (.int ((0 : Int32) + x0))]) (fun _ k => XS.aloadN X49.here hx rfl (hb hby d24_41) rfl rfl k) ?_
  refine Go.st (mkF m 43 #[.val (.ref a), .val (.ref q), .val (.int ((0 : Int32) + x0)), .val (.int (1 : Int32))] [(.int (1 : Int32)), (.ref q), (.int ((0 : Int32) + x0))]) (fun _ k => XS.iloadN X49.here hx rfl (hb hby d24_42) rfl k) ?_
  refine Go.st (mkF m 44 #[.val (.ref a), .val (.ref q), .val (.int ((0 : Int32) + x0)), .val (.int (1 : Int32))] [(.int x1), (.int ((0 : Int32) + x0))]) (fun _ k => ldI X49 hx hZ e49 V53 (i := 1) (by decide) (by decide) (by decide) (v := (.int x1)) rfl (g := (mkF m 43 #[.val (.ref a), .val (.ref q), .val (.int ((0 : Int32) + x0)), .val (.int (1 : Int32))] [(.int (1 : Int32)), (.ref q), (.int ((0 : Int32) + x0))])) rfl rfl (hb hby d24_43) _ k) ?_
  obtain ⟨_, _, ⟨T59, L59, k59, n59⟩, -, X59, ⟨Lc59, hQ59, l59, y59, z59⟩, st59⟩ := Jvm.LawKit.callS X49 hx (y := (⟨"java/lang/Math", "addExact", "(II)I"⟩ : MethodName)) hown (mvT hZ (hw _ (List.mem_of_getElem? (i := 34) rfl))) (mvT hZ (hw _ (List.mem_of_getElem? (i := 35) rfl))) (mvT hZ (hw _ (List.mem_of_getElem? (i := 36) rfl))) (mvT hZ (hw _ (List.mem_of_getElem? (i := 37) rfl))) (by decide) (backOf (W := 0) (rm_9 l Z a0 hw [] ((0 : Int32) + x0) x1 h49 n0 (Nat.le_trans Z0 K49.1) (own_ae1 pr7 pr8)) hZ (hw _ (List.mem_of_getElem? (i := 37) rfl)) (hw _ (List.mem_of_getElem? (i := 36) rfl)) (by decide) (by decide)) (g := (mkF m 44 #[.val (.ref a), .val (.ref q), .val (.int ((0 : Int32) + x0)), .val (.int (1 : Int32))] [(.int x1), (.int ((0 : Int32) + x0))])) rfl (by rw [hml]; rfl) (argsL := [(.int ((0 : Int32) + x0)), (.int x1)]) (rest := []) (lenOf pd_0 rfl) rfl (by show 2 * 0 + _ ≤ _; exact Nat.le_of_eq rfl) (hb hby d24_44) (fun _ _ => ⟨rfl, e49, (by decide : 2 + 0 ≤ _), (by decide : 8 + 0 ≤ _)⟩)
  dsimp only [Pt.U, Pt.locs, Pt.cells, Pt.slots] at X59 l59 y59 z59 st59 hQ59
  subst l59 y59 z59
  obtain ⟨rfl, N59q, e59⟩ := hQ59
  have N59 := Fr.app N49 N59q
  refine Go.st (mkF m 47 #[.val (.ref a), .val (.ref q), .val (.int ((0 : Int32) + x0)), .val (.int (1 : Int32))] [(.int (((0 : Int32) + x0) + x1))]) (fun _ k => st59 _ k) ?_
  refine Go.st (mkF m 48 #[.val (.ref a), .val (.ref q), .val (.int (((0 : Int32) + x0) + x1)), .val (.int (1 : Int32))] []) (fun _ k => XS.istoreN X59.here hx rfl (hb hby d24_47) rfl (l' := #[.val (.ref a), .val (.ref q), .val (.int (((0 : Int32) + x0) + x1)), .val (.int (1 : Int32))]) rfl k) ?_
  refine Go.st (mkF m 51 #[.val (.ref a), .val (.ref q), .val (.int (((0 : Int32) + x0) + x1)), .val (.int (2 : Int32))] []) (fun _ k => XS.iinc X59.here hx rfl (hb hby d24_48) rfl (l' := #[.val (.ref a), .val (.ref q), .val (.int (((0 : Int32) + x0) + x1)), .val (.int (2 : Int32))]) rfl k) ?_
  refine Go.st (mkF m 27 #[.val (.ref a), .val (.ref q), .val (.int (((0 : Int32) + x0) + x1)), .val (.int (2 : Int32))] []) (fun _ k => XS.goto X59.here hx rfl (pc0 := 51) (pc' := 27) rfl (hb hby d24_51) (by decide) (by decide) k) ?_
  refine Go.st (mkF m 28 #[.val (.ref a), .val (.ref q), .val (.int (((0 : Int32) + x0) + x1)), .val (.int (2 : Int32))] [(.int (2 : Int32))]) (fun _ k => XS.iloadN X59.here hx rfl (hb hby d24_27) rfl k) ?_
  refine Go.st (mkF m 29 #[.val (.ref a), .val (.ref q), .val (.int (((0 : Int32) + x0) + x1)), .val (.int (2 : Int32))] [(.ref q), (.int (2 : Int32))]) (fun _ k => XS.aloadN X59.here hx rfl (hb hby d24_28) rfl rfl k) ?_
  refine Go.st (mkF m 30 #[.val (.ref a), .val (.ref q), .val (.int (((0 : Int32) + x0) + x1)), .val (.int (2 : Int32))] [(.int (4 : Int32)), (.int (2 : Int32))]) (fun _ k => lenA X59 hx hZ e59 V53 (z := (4 : Int32)) rfl (g := (mkF m 29 #[.val (.ref a), .val (.ref q), .val (.int (((0 : Int32) + x0) + x1)), .val (.int (2 : Int32))] [(.ref q), (.int (2 : Int32))])) rfl rfl (hb hby d24_29) _ k) ?_
  refine Go.st (mkF m 33 #[.val (.ref a), .val (.ref q), .val (.int (((0 : Int32) + x0) + x1)), .val (.int (2 : Int32))] []) (fun _ k => XS.icmpNo X59.here hx rfl (hb hby d24_30) rfl (tlt (by decide : (2 : Int32) < (4 : Int32))).2.1 k) ?_
  refine Go.st (mkF m 34 #[.val (.ref a), .val (.ref q), .val (.int (((0 : Int32) + x0) + x1)), .val (.int (2 : Int32))] [(.ref a)]) (fun _ k => XS.aloadN X59.here hx rfl (hb hby d24_33) rfl rfl k) ?_
  obtain ⟨T60, X60, e60, st60⟩ := getF X59 hx hZ hown (host := "") (Or.inl (hw _ (List.mem_of_getElem? (i := 27) rfl))) Via.refl e59 F52 (g := (mkF m 34 #[.val (.ref a), .val (.ref q), .val (.int (((0 : Int32) + x0) + x1)), .val (.int (2 : Int32))] [(.ref a)])) rfl rfl (hb hby d24_34)
  refine Go.st (mkF m 37 #[.val (.ref a), .val (.ref q), .val (.int (((0 : Int32) + x0) + x1)), .val (.int (2 : Int32))] [(.ref b17)]) (fun _ k => st60 _ k) ?_
  refine Go.st (mkF m 38 #[.val (.ref a), .val (.ref q), .val (.int (((0 : Int32) + x0) + x1)), .val (.int (2 : Int32))] [(.int (2 : Int32)), (.ref b17)]) (fun _ k => XS.iloadN X60.here hx rfl (hb hby d24_37) rfl k) ?_
  refine Go.st (mkF m 39 #[.val (.ref a), .val (.ref q), .val (.int (((0 : Int32) + x0) + x1)), .val (.int (2 : Int32))] [(.int (((0 : Int32) + x0) + x1)), (.int (2 : Int32)), (.ref b17)]) (fun _ k => XS.iloadN X60.here hx rfl (hb hby d24_38) rfl k) ?_
  obtain ⟨T61, h61, X61, e61, W61, st61⟩ := stAI X60 hx hZ e60 V58 (i := 2) (by decide) (by decide) (by decide) (g := (mkF m 39 #[.val (.ref a), .val (.ref q), .val (.int (((0 : Int32) + x0) + x1)), .val (.int (2 : Int32))] [(.int (((0 : Int32) + x0) + x1)), (.int (2 : Int32)), (.ref b17)])) rfl rfl (hb hby d24_39)
  have E62q : Exa Z h61 a "com/example/regular_role_reasoner/regularrolereasoner/alcoif/Elements" := E50q.wr W61
  have F63 : Fld Z h61 a "com/example/regular_role_reasoner/regularrolereasoner/alcoif/Elements" "sizes" "[I" (.ref b2) := F51.other W61 (Or.inl ne_a_b17)
  have F64 : Fld Z h61 a "com/example/regular_role_reasoner/regularrolereasoner/alcoif/Elements" "first" "[I" (.ref b17) := F52.other W61 (Or.inl ne_a_b17)
  have V65 : Ary Z h61 q .int 4 (lst [(.int x0), (.int x1), (.int x2), (.int x3)]) := V53.other W61 ne_q_b17
  have E66q : Exa Z h61 q "[I" := E54q.wr W61
  have E67q : Exa Z h61 b2 "[I" := E55q.wr W61
  have V68 : Ary Z h61 b2 .int 4 (lst [(.int x0), (.int x1), (.int x2), (.int x3)]) := V56.other W61 ne_b2_b17
  have E69q : Exa Z h61 b17 "[I" := E57q.wr W61
  have V70 : Ary Z h61 b17 .int 4 (lst [(.int (0 : Int32)), (.int ((0 : Int32) + x0)), (.int (((0 : Int32) + x0) + x1)), (.int (0 : Int32))]) := V58.sameL W61 (by simp)
  have K61 : Keep h0 h61 [a] := K49.wr W61 (Or.inr sz_b17)
  have N61 := Fr.snoc X61 N59 g_b17
  refine Go.st (mkF m 40 #[.val (.ref a), .val (.ref q), .val (.int (((0 : Int32) + x0) + x1)), .val (.int (2 : Int32))] []) (fun _ k => st61 _ k) ?_
  refine Go.st (mkF m 41 #[.val (.ref a), .val (.ref q), .val (.int (((0 : Int32) + x0) + x1)), .val (.int (2 : Int32))] [(.int (((0 : Int32) + x0) + x1))]) (fun _ k => XS.iloadN X61.here hx rfl (hb hby d24_40) rfl k) ?_
  refine Go.st (mkF m 42 #[.val (.ref a), .val (.ref q), .val (.int (((0 : Int32) + x0) + x1)), .val (.int (2 : Int32))] [(.ref q), (.int (((0 : Int32) + x0) + x1))]) (fun _ k => XS.aloadN X61.here hx rfl (hb hby d24_41) rfl rfl k) ?_
  refine Go.st (mkF m 43 #[.val (.ref a), .val (.ref q), .val (.int (((0 : Int32) + x0) + x1)), .val (.int (2 : Int32))] [(.int (2 : Int32)), (.ref q), (.int (((0 : Int32) + x0) + x1))]) (fun _ k => XS.iloadN X61.here hx rfl (hb hby d24_42) rfl k) ?_
  refine Go.st (mkF m 44 #[.val (.ref a), .val (.ref q), .val (.int (((0 : Int32) + x0) + x1)), .val (.int (2 : Int32))] [(.int x2), (.int (((0 : Int32) + x0) + x1))]) (fun _ k => ldI X61 hx hZ e61 V65 (i := 2) (by decide) (by decide) (by decide) (v := (.int x2)) rfl (g := (mkF m 43 #[.val (.ref a), .val (.ref q), .val (.int (((0 : Int32) + x0) + x1)), .val (.int (2 : Int32))] [(.int (2 : Int32)), (.ref q), (.int (((0 : Int32) + x0) + x1))])) rfl rfl (hb hby d24_43) _ k) ?_
  obtain ⟨_, _, ⟨T71, L71, k71, n71⟩, -, X71, ⟨Lc71, hQ71, l71, y71, z71⟩, st71⟩ := Jvm.LawKit.callS X61 hx (y := (⟨"java/lang/Math", "addExact", "(II)I"⟩ : MethodName)) hown (mvT hZ (hw _ (List.mem_of_getElem? (i := 34) rfl))) (mvT hZ (hw _ (List.mem_of_getElem? (i := 35) rfl))) (mvT hZ (hw _ (List.mem_of_getElem? (i := 36) rfl))) (mvT hZ (hw _ (List.mem_of_getElem? (i := 37) rfl))) (by decide) (backOf (W := 0) (rm_9 l Z a0 hw [] (((0 : Int32) + x0) + x1) x2 h61 n0 (Nat.le_trans Z0 K61.1) (own_ae2 pr7 pr8 pr9)) hZ (hw _ (List.mem_of_getElem? (i := 37) rfl)) (hw _ (List.mem_of_getElem? (i := 36) rfl)) (by decide) (by decide)) (g := (mkF m 44 #[.val (.ref a), .val (.ref q), .val (.int (((0 : Int32) + x0) + x1)), .val (.int (2 : Int32))] [(.int x2), (.int (((0 : Int32) + x0) + x1))])) rfl (by rw [hml]; rfl) (argsL := [(.int (((0 : Int32) + x0) + x1)), (.int x2)]) (rest := []) (lenOf pd_0 rfl) rfl (by show 2 * 0 + _ ≤ _; exact Nat.le_of_eq rfl) (hb hby d24_44) (fun _ _ => ⟨rfl, e61, (by decide : 2 + 0 ≤ _), (by decide : 8 + 0 ≤ _)⟩)
  dsimp only [Pt.U, Pt.locs, Pt.cells, Pt.slots] at X71 l71 y71 z71 st71 hQ71
  subst l71 y71 z71
  obtain ⟨rfl, N71q, e71⟩ := hQ71
  have N71 := Fr.app N61 N71q
  refine Go.st (mkF m 47 #[.val (.ref a), .val (.ref q), .val (.int (((0 : Int32) + x0) + x1)), .val (.int (2 : Int32))] [(.int ((((0 : Int32) + x0) + x1) + x2))]) (fun _ k => st71 _ k) ?_
  refine Go.st (mkF m 48 #[.val (.ref a), .val (.ref q), .val (.int ((((0 : Int32) + x0) + x1) + x2)), .val (.int (2 : Int32))] []) (fun _ k => XS.istoreN X71.here hx rfl (hb hby d24_47) rfl (l' := #[.val (.ref a), .val (.ref q), .val (.int ((((0 : Int32) + x0) + x1) + x2)), .val (.int (2 : Int32))]) rfl k) ?_
  refine Go.st (mkF m 51 #[.val (.ref a), .val (.ref q), .val (.int ((((0 : Int32) + x0) + x1) + x2)), .val (.int (3 : Int32))] []) (fun _ k => XS.iinc X71.here hx rfl (hb hby d24_48) rfl (l' := #[.val (.ref a), .val (.ref q), .val (.int ((((0 : Int32) + x0) + x1) + x2)), .val (.int (3 : Int32))]) rfl k) ?_
  refine Go.st (mkF m 27 #[.val (.ref a), .val (.ref q), .val (.int ((((0 : Int32) + x0) + x1) + x2)), .val (.int (3 : Int32))] []) (fun _ k => XS.goto X71.here hx rfl (pc0 := 51) (pc' := 27) rfl (hb hby d24_51) (by decide) (by decide) k) ?_
  refine Go.st (mkF m 28 #[.val (.ref a), .val (.ref q), .val (.int ((((0 : Int32) + x0) + x1) + x2)), .val (.int (3 : Int32))] [(.int (3 : Int32))]) (fun _ k => XS.iloadN X71.here hx rfl (hb hby d24_27) rfl k) ?_
  refine Go.st (mkF m 29 #[.val (.ref a), .val (.ref q), .val (.int ((((0 : Int32) + x0) + x1) + x2)), .val (.int (3 : Int32))] [(.ref q), (.int (3 : Int32))]) (fun _ k => XS.aloadN X71.here hx rfl (hb hby d24_28) rfl rfl k) ?_
  refine Go.st (mkF m 30 #[.val (.ref a), .val (.ref q), .val (.int ((((0 : Int32) + x0) + x1) + x2)), .val (.int (3 : Int32))] [(.int (4 : Int32)), (.int (3 : Int32))]) (fun _ k => lenA X71 hx hZ e71 V65 (z := (4 : Int32)) rfl (g := (mkF m 29 #[.val (.ref a), .val (.ref q), .val (.int ((((0 : Int32) + x0) + x1) + x2)), .val (.int (3 : Int32))] [(.ref q), (.int (3 : Int32))])) rfl rfl (hb hby d24_29) _ k) ?_
  refine Go.st (mkF m 33 #[.val (.ref a), .val (.ref q), .val (.int ((((0 : Int32) + x0) + x1) + x2)), .val (.int (3 : Int32))] []) (fun _ k => XS.icmpNo X71.here hx rfl (hb hby d24_30) rfl (tlt (by decide : (3 : Int32) < (4 : Int32))).2.1 k) ?_
  refine Go.st (mkF m 34 #[.val (.ref a), .val (.ref q), .val (.int ((((0 : Int32) + x0) + x1) + x2)), .val (.int (3 : Int32))] [(.ref a)]) (fun _ k => XS.aloadN X71.here hx rfl (hb hby d24_33) rfl rfl k) ?_
  obtain ⟨T72, X72, e72, st72⟩ := getF X71 hx hZ hown (host := "") (Or.inl (hw _ (List.mem_of_getElem? (i := 27) rfl))) Via.refl e71 F64 (g := (mkF m 34 #[.val (.ref a), .val (.ref q), .val (.int ((((0 : Int32) + x0) + x1) + x2)), .val (.int (3 : Int32))] [(.ref a)])) rfl rfl (hb hby d24_34)
  refine Go.st (mkF m 37 #[.val (.ref a), .val (.ref q), .val (.int ((((0 : Int32) + x0) + x1) + x2)), .val (.int (3 : Int32))] [(.ref b17)]) (fun _ k => st72 _ k) ?_
  refine Go.st (mkF m 38 #[.val (.ref a), .val (.ref q), .val (.int ((((0 : Int32) + x0) + x1) + x2)), .val (.int (3 : Int32))] [(.int (3 : Int32)), (.ref b17)]) (fun _ k => XS.iloadN X72.here hx rfl (hb hby d24_37) rfl k) ?_
  refine Go.st (mkF m 39 #[.val (.ref a), .val (.ref q), .val (.int ((((0 : Int32) + x0) + x1) + x2)), .val (.int (3 : Int32))] [(.int ((((0 : Int32) + x0) + x1) + x2)), (.int (3 : Int32)), (.ref b17)]) (fun _ k => XS.iloadN X72.here hx rfl (hb hby d24_38) rfl k) ?_
  obtain ⟨T73, h73, X73, e73, W73, st73⟩ := stAI X72 hx hZ e72 V70 (i := 3) (by decide) (by decide) (by decide) (g := (mkF m 39 #[.val (.ref a), .val (.ref q), .val (.int ((((0 : Int32) + x0) + x1) + x2)), .val (.int (3 : Int32))] [(.int ((((0 : Int32) + x0) + x1) + x2)), (.int (3 : Int32)), (.ref b17)])) rfl rfl (hb hby d24_39)
  have E74q : Exa Z h73 a "com/example/regular_role_reasoner/regularrolereasoner/alcoif/Elements" := E62q.wr W73
  have F75 : Fld Z h73 a "com/example/regular_role_reasoner/regularrolereasoner/alcoif/Elements" "sizes" "[I" (.ref b2) := F63.other W73 (Or.inl ne_a_b17)
  have F76 : Fld Z h73 a "com/example/regular_role_reasoner/regularrolereasoner/alcoif/Elements" "first" "[I" (.ref b17) := F64.other W73 (Or.inl ne_a_b17)
  have V77 : Ary Z h73 q .int 4 (lst [(.int x0), (.int x1), (.int x2), (.int x3)]) := V65.other W73 ne_q_b17
  have E78q : Exa Z h73 q "[I" := E66q.wr W73
  have E79q : Exa Z h73 b2 "[I" := E67q.wr W73
  have V80 : Ary Z h73 b2 .int 4 (lst [(.int x0), (.int x1), (.int x2), (.int x3)]) := V68.other W73 ne_b2_b17
  have E81q : Exa Z h73 b17 "[I" := E69q.wr W73
  have V82 : Ary Z h73 b17 .int 4 (lst [(.int (0 : Int32)), (.int ((0 : Int32) + x0)), (.int (((0 : Int32) + x0) + x1)), (.int ((((0 : Int32) + x0) + x1) + x2))]) := V70.sameL W73 (by simp)
  have K73 : Keep h0 h73 [a] := K61.wr W73 (Or.inr sz_b17)
  have N73 := Fr.snoc X73 N71 g_b17
  refine Go.st (mkF m 40 #[.val (.ref a), .val (.ref q), .val (.int ((((0 : Int32) + x0) + x1) + x2)), .val (.int (3 : Int32))] []) (fun _ k => st73 _ k) ?_
  refine Go.st (mkF m 41 #[.val (.ref a), .val (.ref q), .val (.int ((((0 : Int32) + x0) + x1) + x2)), .val (.int (3 : Int32))] [(.int ((((0 : Int32) + x0) + x1) + x2))]) (fun _ k => XS.iloadN X73.here hx rfl (hb hby d24_40) rfl k) ?_
  refine Go.st (mkF m 42 #[.val (.ref a), .val (.ref q), .val (.int ((((0 : Int32) + x0) + x1) + x2)), .val (.int (3 : Int32))] [(.ref q), (.int ((((0 : Int32) + x0) + x1) + x2))]) (fun _ k => XS.aloadN X73.here hx rfl (hb hby d24_41) rfl rfl k) ?_
  refine Go.st (mkF m 43 #[.val (.ref a), .val (.ref q), .val (.int ((((0 : Int32) + x0) + x1) + x2)), .val (.int (3 : Int32))] [(.int (3 : Int32)), (.ref q), (.int ((((0 : Int32) + x0) + x1) + x2))]) (fun _ k => XS.iloadN X73.here hx rfl (hb hby d24_42) rfl k) ?_
  refine Go.st (mkF m 44 #[.val (.ref a), .val (.ref q), .val (.int ((((0 : Int32) + x0) + x1) + x2)), .val (.int (3 : Int32))] [(.int x3), (.int ((((0 : Int32) + x0) + x1) + x2))]) (fun _ k => ldI X73 hx hZ e73 V77 (i := 3) (by decide) (by decide) (by decide) (v := (.int x3)) rfl (g := (mkF m 43 #[.val (.ref a), .val (.ref q), .val (.int ((((0 : Int32) + x0) + x1) + x2)), .val (.int (3 : Int32))] [(.int (3 : Int32)), (.ref q), (.int ((((0 : Int32) + x0) + x1) + x2))])) rfl rfl (hb hby d24_43) _ k) ?_
  obtain ⟨_, _, ⟨T83, L83, k83, n83⟩, -, X83, ⟨Lc83, hQ83, l83, y83, z83⟩, st83⟩ := Jvm.LawKit.callS X73 hx (y := (⟨"java/lang/Math", "addExact", "(II)I"⟩ : MethodName)) hown (mvT hZ (hw _ (List.mem_of_getElem? (i := 34) rfl))) (mvT hZ (hw _ (List.mem_of_getElem? (i := 35) rfl))) (mvT hZ (hw _ (List.mem_of_getElem? (i := 36) rfl))) (mvT hZ (hw _ (List.mem_of_getElem? (i := 37) rfl))) (by decide) (backOf (W := 0) (rm_9 l Z a0 hw [] ((((0 : Int32) + x0) + x1) + x2) x3 h73 n0 (Nat.le_trans Z0 K73.1) (own_ae3 pr7 pr8 pr9 pr10)) hZ (hw _ (List.mem_of_getElem? (i := 37) rfl)) (hw _ (List.mem_of_getElem? (i := 36) rfl)) (by decide) (by decide)) (g := (mkF m 44 #[.val (.ref a), .val (.ref q), .val (.int ((((0 : Int32) + x0) + x1) + x2)), .val (.int (3 : Int32))] [(.int x3), (.int ((((0 : Int32) + x0) + x1) + x2))])) rfl (by rw [hml]; rfl) (argsL := [(.int ((((0 : Int32) + x0) + x1) + x2)), (.int x3)]) (rest := []) (lenOf pd_0 rfl) rfl (by show 2 * 0 + _ ≤ _; exact Nat.le_of_eq rfl) (hb hby d24_44) (fun _ _ => ⟨rfl, e73, (by decide : 2 + 0 ≤ _), (by decide : 8 + 0 ≤ _)⟩)
  dsimp only [Pt.U, Pt.locs, Pt.cells, Pt.slots] at X83 l83 y83 z83 st83 hQ83
  subst l83 y83 z83
  obtain ⟨rfl, N83q, e83⟩ := hQ83
  have N83 := Fr.app N73 N83q
  refine Go.st (mkF m 47 #[.val (.ref a), .val (.ref q), .val (.int ((((0 : Int32) + x0) + x1) + x2)), .val (.int (3 : Int32))] [(.int (((((0 : Int32) + x0) + x1) + x2) + x3))]) (fun _ k => st83 _ k) ?_
  refine Go.st (mkF m 48 #[.val (.ref a), .val (.ref q), .val (.int (((((0 : Int32) + x0) + x1) + x2) + x3)), .val (.int (3 : Int32))] []) (fun _ k => XS.istoreN X83.here hx rfl (hb hby d24_47) rfl (l' := #[.val (.ref a), .val (.ref q), .val (.int (((((0 : Int32) + x0) + x1) + x2) + x3)), .val (.int (3 : Int32))]) rfl k) ?_
  refine Go.st (mkF m 51 #[.val (.ref a), .val (.ref q), .val (.int (((((0 : Int32) + x0) + x1) + x2) + x3)), .val (.int (4 : Int32))] []) (fun _ k => XS.iinc X83.here hx rfl (hb hby d24_48) rfl (l' := #[.val (.ref a), .val (.ref q), .val (.int (((((0 : Int32) + x0) + x1) + x2) + x3)), .val (.int (4 : Int32))]) rfl k) ?_
  refine Go.st (mkF m 27 #[.val (.ref a), .val (.ref q), .val (.int (((((0 : Int32) + x0) + x1) + x2) + x3)), .val (.int (4 : Int32))] []) (fun _ k => XS.goto X83.here hx rfl (pc0 := 51) (pc' := 27) rfl (hb hby d24_51) (by decide) (by decide) k) ?_
  refine Go.st (mkF m 28 #[.val (.ref a), .val (.ref q), .val (.int (((((0 : Int32) + x0) + x1) + x2) + x3)), .val (.int (4 : Int32))] [(.int (4 : Int32))]) (fun _ k => XS.iloadN X83.here hx rfl (hb hby d24_27) rfl k) ?_
  refine Go.st (mkF m 29 #[.val (.ref a), .val (.ref q), .val (.int (((((0 : Int32) + x0) + x1) + x2) + x3)), .val (.int (4 : Int32))] [(.ref q), (.int (4 : Int32))]) (fun _ k => XS.aloadN X83.here hx rfl (hb hby d24_28) rfl rfl k) ?_
  refine Go.st (mkF m 30 #[.val (.ref a), .val (.ref q), .val (.int (((((0 : Int32) + x0) + x1) + x2) + x3)), .val (.int (4 : Int32))] [(.int (4 : Int32)), (.int (4 : Int32))]) (fun _ k => lenA X83 hx hZ e83 V77 (z := (4 : Int32)) rfl (g := (mkF m 29 #[.val (.ref a), .val (.ref q), .val (.int (((((0 : Int32) + x0) + x1) + x2) + x3)), .val (.int (4 : Int32))] [(.ref q), (.int (4 : Int32))])) rfl rfl (hb hby d24_29) _ k) ?_
  refine Go.st (mkF m 54 #[.val (.ref a), .val (.ref q), .val (.int (((((0 : Int32) + x0) + x1) + x2) + x3)), .val (.int (4 : Int32))] []) (fun _ k => XS.icmpYes X83.here hx rfl (pc0 := 30) (pc' := 54) rfl (hb hby d24_30) rfl (flt (by decide : ¬ ((4 : Int32) < (4 : Int32)))).2.1 (by decide) (by decide) k) ?_
  exact Go.retV X83 hx Bd.notSynchronized Bd.returns (hb hby d24_54) (by rw [e83]; exact ⟨b2, b17, rfl, N83, K73, sz_b2, sz_b17, F75, F76, V80, V82⟩) (by decide) (by decide)
theorem d34_0 : decode prog_1_method_4_code 0 = .ok (.aload_n 0, 1) := by decide +kernel
theorem d34_1 : decode prog_1_method_4_code 1 = .ok (.getfield 13, 3) := by decide +kernel
theorem d34_4 : decode prog_1_method_4_code 4 = .ok (.arraylength, 1) := by decide +kernel
theorem d34_5 : decode prog_1_method_4_code 5 = .ok (.ifCond .ne 7, 3) := by decide +kernel
theorem d34_12 : decode prog_1_method_4_code 12 = .ok (.aload_n 0, 1) := by decide +kernel
theorem d34_13 : decode prog_1_method_4_code 13 = .ok (.getfield 18, 3) := by decide +kernel
theorem d34_16 : decode prog_1_method_4_code 16 = .ok (.aload_n 0, 1) := by decide +kernel
theorem d34_17 : decode prog_1_method_4_code 17 = .ok (.getfield 13, 3) := by decide +kernel
theorem d34_20 : decode prog_1_method_4_code 20 = .ok (.arraylength, 1) := by decide +kernel
theorem d34_21 : decode prog_1_method_4_code 21 = .ok (.iconst 1, 1) := by decide +kernel
theorem d34_22 : decode prog_1_method_4_code 22 = .ok (.isub, 1) := by decide +kernel
theorem d34_23 : decode prog_1_method_4_code 23 = .ok (.iaload, 1) := by decide +kernel
theorem d34_24 : decode prog_1_method_4_code 24 = .ok (.aload_n 0, 1) := by decide +kernel
theorem d34_25 : decode prog_1_method_4_code 25 = .ok (.getfield 13, 3) := by decide +kernel
theorem d34_28 : decode prog_1_method_4_code 28 = .ok (.aload_n 0, 1) := by decide +kernel
theorem d34_29 : decode prog_1_method_4_code 29 = .ok (.getfield 13, 3) := by decide +kernel
theorem d34_32 : decode prog_1_method_4_code 32 = .ok (.arraylength, 1) := by decide +kernel
theorem d34_33 : decode prog_1_method_4_code 33 = .ok (.iconst 1, 1) := by decide +kernel
theorem d34_34 : decode prog_1_method_4_code 34 = .ok (.isub, 1) := by decide +kernel
theorem d34_35 : decode prog_1_method_4_code 35 = .ok (.iaload, 1) := by decide +kernel
theorem d34_36 : decode prog_1_method_4_code 36 = .ok (.iadd, 1) := by decide +kernel
theorem d34_37 : decode prog_1_method_4_code 37 = .ok (.ireturn, 1) := by decide +kernel
theorem ef_34 (m : MethodId) (a : Addr) : entryFrame m #[(.ref a)] 1 = (mkF m 0 #[.val (.ref a)] []) := by first | (simp [entryFrame, mkF, argsToLocals, Value.category]; done) | rfl
def Q_34 (Z : State) (a : Addr) (b1 : Addr) (b2 : Addr) (x0 : Int32) (x1 : Int32) (x2 : Int32) (x3 : Int32) (y0 : Int32) (y1 : Int32) (y2 : Int32) (y3 : Int32) (h0 : Heap) (n0 : Nat) (v : Option Value) (h : Heap) (L : List Loc) : Prop := v = some (.int (y3 + x3)) ∧ Fr n0 L ∧ h = h0
set_option maxRecDepth 65536 in
set_option maxHeartbeats 40000000 in
theorem rm_34 (l : Launch) (Z : State) (a0 : Array Value) (hw : ∀ d ∈ tables_1, d.before a0 Z = true) (ws : List Jvm.Cond) (a : Addr) (b1 : Addr) (b2 : Addr) (x0 : Int32) (x1 : Int32) (x2 : Int32) (x3 : Int32) (y0 : Int32) (y1 : Int32) (y2 : Int32) (y3 : Int32) (h0 : Heap) (n0 : Nat) (Z0 : n0 ≤ h0.size) (pr0 : Fld Z h0 a "com/example/regular_role_reasoner/regularrolereasoner/alcoif/Elements" "sizes" "[I" (.ref b1)) (pr1 : Fld Z h0 a "com/example/regular_role_reasoner/regularrolereasoner/alcoif/Elements" "first" "[I" (.ref b2)) (pr2 : Ary Z h0 b1 .int 4 (lst [(.int x0), (.int x1), (.int x2), (.int x3)])) (pr3 : Ary Z h0 b2 .int 4 (lst [(.int y0), (.int y1), (.int y2), (.int y3)])) :
    MetFree l (⟨"com/example/regular_role_reasoner/regularrolereasoner/alcoif/Elements", "total", "()I"⟩ : MethodName) (head1 (Jvm.Cond.code (⟨"com/example/regular_role_reasoner/regularrolereasoner/alcoif/Elements", "total", "()I"⟩ : MethodName) prog_1_method_4_code 1 (some .int) :: ws) ({ frames := 0, cells := 0, slots := 0, locals := 0 } : Room)) (fun aa U => aa = #[(.ref a)] ∧ Z.Warmed39 U.vm ∧ U.heap = h0) (fun _ _ _ _ _ => True) (fun _ U o U' => ∃ v L, o = .returned v ∧ Q_34 Z a b1 b2 x0 x1 x2 x3 y0 y1 y2 y3 h0 n0 v U'.heap L ∧ FrameEnd U o U' L ({ frames := 0, cells := 0, slots := 0, locals := 0 } : Room).cells ({ frames := 0, cells := 0, slots := 0, locals := 0 } : Room).slots) := by
  refine MetFree.of_bodySF (plainFor_of_name pn_1) hisR ?_
  intro p e s m args below meth c s₁ Bd hml0 hP hK
  obtain ⟨rfl, hZ, hh⟩ := hP
  have hx := Bd.exec
  have hby := Bd.bytes
  have hml : c.maxLocals = 1 := hml0
  have hown : s.vm.findClass "com/example/regular_role_reasoner/regularrolereasoner/alcoif/Elements" = some m.cls := findClass_of_methodNamed Bd.named
  have hnm := (name_of_methodNamed Bd.named Bd.method).1
  have X0 : Stand p l e ({ frames := 0, cells := 0, slots := 0, locals := 0 } : Room) s m #[(.ref a)] below meth c s₁ [] 0 0 := Stand.of_body Bd
  have e0 : s₁.heap = h0 := by rw [← hh, Bd.state]; rfl
  have N0 := Fr.nil n0
  have K0 := Keep.refl h0 []
  show Go p e below s (Q_34 Z a b1 b2 x0 x1 x2 x3 y0 y1 y2 y3 h0 n0) 0 0 s₁ (entryFrame m #[(.ref a)] 1)
  refine Go.of_eq (ef_34 m a) ?_
  refine Go.st (mkF m 1 #[.val (.ref a)] [(.ref a)]) (fun _ k => XS.aloadN X0.here hx rfl (hb hby d34_0) rfl rfl k) ?_
  obtain ⟨T1, X1, e1, st1⟩ := getF X0 hx hZ hown (host := "") (Or.inl (hw _ (List.mem_of_getElem? (i := 25) rfl))) Via.refl e0 pr0 (g := (mkF m 1 #[.val (.ref a)] [(.ref a)])) rfl rfl (hb hby d34_1)
  refine Go.st (mkF m 4 #[.val (.ref a)] [(.ref b1)]) (fun _ k => st1 _ k) ?_
  refine Go.st (mkF m 5 #[.val (.ref a)] [(.int (4 : Int32))]) (fun _ k => lenA X1 hx hZ e1 pr2 (z := (4 : Int32)) rfl (g := (mkF m 4 #[.val (.ref a)] [(.ref b1)])) rfl rfl (hb hby d34_4) _ k) ?_
  refine Go.st (mkF m 12 #[.val (.ref a)] []) (fun _ k => XS.ifYes X1.here hx rfl (pc0 := 5) (pc' := 12) rfl (hb hby d34_5) rfl ((if0 _ _).trans (feq (by decide : ¬ ((4 : Int32) = (0 : Int32)))).2) (by decide) (by decide) k) ?_
  refine Go.st (mkF m 13 #[.val (.ref a)] [(.ref a)]) (fun _ k => XS.aloadN X1.here hx rfl (hb hby d34_12) rfl rfl k) ?_
  obtain ⟨T2, X2, e2, st2⟩ := getF X1 hx hZ hown (host := "") (Or.inl (hw _ (List.mem_of_getElem? (i := 27) rfl))) Via.refl e1 pr1 (g := (mkF m 13 #[.val (.ref a)] [(.ref a)])) rfl rfl (hb hby d34_13)
  refine Go.st (mkF m 16 #[.val (.ref a)] [(.ref b2)]) (fun _ k => st2 _ k) ?_
  refine Go.st (mkF m 17 #[.val (.ref a)] [(.ref a), (.ref b2)]) (fun _ k => XS.aloadN X2.here hx rfl (hb hby d34_16) rfl rfl k) ?_
  obtain ⟨T3, X3, e3, st3⟩ := getF X2 hx hZ hown (host := "") (Or.inl (hw _ (List.mem_of_getElem? (i := 25) rfl))) Via.refl e2 pr0 (g := (mkF m 17 #[.val (.ref a)] [(.ref a), (.ref b2)])) rfl rfl (hb hby d34_17)
  refine Go.st (mkF m 20 #[.val (.ref a)] [(.ref b1), (.ref b2)]) (fun _ k => st3 _ k) ?_
  refine Go.st (mkF m 21 #[.val (.ref a)] [(.int (4 : Int32)), (.ref b2)]) (fun _ k => lenA X3 hx hZ e3 pr2 (z := (4 : Int32)) rfl (g := (mkF m 20 #[.val (.ref a)] [(.ref b1), (.ref b2)])) rfl rfl (hb hby d34_20) _ k) ?_
  refine Go.st (mkF m 22 #[.val (.ref a)] [(.int (1 : Int32)), (.int (4 : Int32)), (.ref b2)]) (fun _ k => XS.iconst X3.here hx rfl (hb hby d34_21) k) ?_
  refine Go.st (mkF m 23 #[.val (.ref a)] [(.int (3 : Int32)), (.ref b2)]) (fun _ k => XS.isub X3.here hx rfl (hb hby d34_22) rfl k) ?_
  refine Go.st (mkF m 24 #[.val (.ref a)] [(.int y3)]) (fun _ k => ldI X3 hx hZ e3 pr3 (i := 3) (by decide) (by decide) (by decide) (v := (.int y3)) rfl (g := (mkF m 23 #[.val (.ref a)] [(.int (3 : Int32)), (.ref b2)])) rfl rfl (hb hby d34_23) _ k) ?_
  refine Go.st (mkF m 25 #[.val (.ref a)] [(.ref a), (.int y3)]) (fun _ k => XS.aloadN X3.here hx rfl (hb hby d34_24) rfl rfl k) ?_
  obtain ⟨T4, X4, e4, st4⟩ := getF X3 hx hZ hown (host := "") (Or.inl (hw _ (List.mem_of_getElem? (i := 25) rfl))) Via.refl e3 pr0 (g := (mkF m 25 #[.val (.ref a)] [(.ref a), (.int y3)])) rfl rfl (hb hby d34_25)
  refine Go.st (mkF m 28 #[.val (.ref a)] [(.ref b1), (.int y3)]) (fun _ k => st4 _ k) ?_
  refine Go.st (mkF m 29 #[.val (.ref a)] [(.ref a), (.ref b1), (.int y3)]) (fun _ k => XS.aloadN X4.here hx rfl (hb hby d34_28) rfl rfl k) ?_
  obtain ⟨T5, X5, e5, st5⟩ := getF X4 hx hZ hown (host := "") (Or.inl (hw _ (List.mem_of_getElem? (i := 25) rfl))) Via.refl e4 pr0 (g := (mkF m 29 #[.val (.ref a)] [(.ref a), (.ref b1), (.int y3)])) rfl rfl (hb hby d34_29)
  refine Go.st (mkF m 32 #[.val (.ref a)] [(.ref b1), (.ref b1), (.int y3)]) (fun _ k => st5 _ k) ?_
  refine Go.st (mkF m 33 #[.val (.ref a)] [(.int (4 : Int32)), (.ref b1), (.int y3)]) (fun _ k => lenA X5 hx hZ e5 pr2 (z := (4 : Int32)) rfl (g := (mkF m 32 #[.val (.ref a)] [(.ref b1), (.ref b1), (.int y3)])) rfl rfl (hb hby d34_32) _ k) ?_
  refine Go.st (mkF m 34 #[.val (.ref a)] [(.int (1 : Int32)), (.int (4 : Int32)), (.ref b1), (.int y3)]) (fun _ k => XS.iconst X5.here hx rfl (hb hby d34_33) k) ?_
  refine Go.st (mkF m 35 #[.val (.ref a)] [(.int (3 : Int32)), (.ref b1), (.int y3)]) (fun _ k => XS.isub X5.here hx rfl (hb hby d34_34) rfl k) ?_
  refine Go.st (mkF m 36 #[.val (.ref a)] [(.int x3), (.int y3)]) (fun _ k => ldI X5 hx hZ e5 pr2 (i := 3) (by decide) (by decide) (by decide) (v := (.int x3)) rfl (g := (mkF m 35 #[.val (.ref a)] [(.int (3 : Int32)), (.ref b1), (.int y3)])) rfl rfl (hb hby d34_35) _ k) ?_
  refine Go.st (mkF m 37 #[.val (.ref a)] [(.int (y3 + x3))]) (fun _ k => XS.iadd X5.here hx rfl (hb hby d34_36) rfl k) ?_
  exact Go.retI X5 hx Bd.notSynchronized Bd.returns (hb hby d34_37) ⟨rfl, N0, e5⟩ (by decide) (by decide)
def v_k (p0 : Int32) : Int32 := ((p0 &&& (2147483647 : Int32)) - ((p0 &&& (2147483647 : Int32)) / (5 : Int32)) * (5 : Int32))
def v_a (p1 : Int32) : Int32 := (p1 &&& (536870911 : Int32))
def v_b (p2 : Int32) : Int32 := (p2 &&& (536870911 : Int32))
def v_c (p3 : Int32) : Int32 := (p3 &&& (536870911 : Int32))
def v_d (p4 : Int32) : Int32 := (p4 &&& (536870911 : Int32))
theorem own_rem (x : Int32) (hx : 0 ≤ x.toInt) : (x - (x / (5 : Int32)) * (5 : Int32)).toInt = x.toInt % 5 := by
  have e : (5 : Int32).toInt = 5 := by decide
  have d : (x / (5 : Int32)).toInt = x.toInt.tdiv (5 : Int32).toInt := Jvm.Kit.i32_div (fun q => by rw [e] at q; omega)
  rw [e, Int.tdiv_eq_ediv_of_nonneg hx] at d
  have h := x.toInt_lt
  have m : ((x / (5 : Int32)) * (5 : Int32)).toInt = (x / (5 : Int32)).toInt * (5 : Int32).toInt := Jvm.Kit.i32_mul (by rw [d, e]; omega) (by rw [d, e]; omega)
  rw [d, e] at m
  rw [Jvm.Kit.i32_sub (by rw [m]; omega) (by rw [m]; omega), m]
  omega
theorem own_k5 (p : Int32) : v_k p = (0 : Int32) ∨ v_k p = (1 : Int32) ∨ v_k p = (2 : Int32) ∨ v_k p = (3 : Int32) ∨ v_k p = (4 : Int32) := by
  have e : (p &&& (2147483647 : Int32)).toInt = p.toInt % 2 ^ 31 := Jvm.Kit.i32_mask _ 2147483647 (k := 31) (by decide) (by decide)
  have r : (v_k p).toInt = (p &&& (2147483647 : Int32)).toInt % 5 := own_rem (p &&& (2147483647 : Int32)) (by omega)
  obtain ⟨k, hk⟩ := own_small 5 (v_k p) (by omega) (by omega) (by decide)
  rw [hk]
  exact (by decide +kernel : ∀ k : Fin 5, Int32.ofNat k.val = (0 : Int32) ∨ Int32.ofNat k.val = (1 : Int32) ∨ Int32.ofNat k.val = (2 : Int32) ∨ Int32.ofNat k.val = (3 : Int32) ∨ Int32.ofNat k.val = (4 : Int32)) k
theorem own_sml (p : Int32) : Sml (p &&& (536870911 : Int32)) := by
  have e : (p &&& (536870911 : Int32)).toInt = p.toInt % 2 ^ 29 := Jvm.Kit.i32_mask _ 536870911 (k := 29) (by decide) (by decide)
  unfold Sml; omega
theorem own_ma (p : Int32) : Sml (v_a p) := own_sml p
theorem own_mb (p : Int32) : Sml (v_b p) := own_sml p
theorem own_mc (p : Int32) : Sml (v_c p) := own_sml p
theorem own_md (p : Int32) : Sml (v_d p) := own_sml p
theorem own_acc {s x : Int32} {S : Int64} (h : s.toInt64 = S) (hs : 0 ≤ s.toInt) (hx : 0 ≤ x.toInt) (hb : s.toInt + x.toInt < 2147483648) : (s + x).toInt64 = S + x.toInt64 := by
  apply Int64.toInt_inj.mp
  have ht : (s + x).toInt = s.toInt + x.toInt := Jvm.Kit.i32_add (by omega) (by omega)
  have e : S.toInt = s.toInt := by rw [← h, Int32.toInt_toInt64]
  have l := s.toInt_lt; have l2 := x.toInt_lt
  rw [Int32.toInt_toInt64, ht, Jvm.Kit.i64_add (by rw [e, Int32.toInt_toInt64]; omega) (by rw [e, Int32.toInt_toInt64]; omega), e, Int32.toInt_toInt64]
theorem own_t0 : ((0 : Int32).toInt64) = (0 : Int64) := by decide
theorem own_t1 {x : Int32} (h : Sml x) : (((0 : Int32) + x).toInt64) = ((0 : Int64) + x.toInt64) := by
  have e : (0 : Int32).toInt = 0 := by decide
  have h1 := h.1; have h2 := h.2
  exact own_acc own_t0 (by omega) (by omega) (by omega)
theorem own_t2 {x y : Int32} (h : Sml x) (g : Sml y) : ((((0 : Int32) + x) + y).toInt64) = (((0 : Int64) + x.toInt64) + y.toInt64) := by
  have e := own_s1 h; have h1 := h.1; have h2 := h.2; have g1 := g.1; have g2 := g.2
  exact own_acc (own_t1 h) (by omega) (by omega) (by omega)
theorem own_t3 {x y z : Int32} (h : Sml x) (g : Sml y) (f : Sml z) : (((((0 : Int32) + x) + y) + z).toInt64) = ((((0 : Int64) + x.toInt64) + y.toInt64) + z.toInt64) := by
  have e := own_s2 h g; have h1 := h.1; have h2 := h.2; have g1 := g.1; have g2 := g.2; have f1 := f.1; have f2 := f.2
  exact own_acc (own_t2 h g) (by omega) (by omega) (by omega)
theorem own_t4 {x y z w : Int32} (h : Sml x) (g : Sml y) (f : Sml z) (d : Sml w) : ((((((0 : Int32) + x) + y) + z) + w).toInt64) = (((((0 : Int64) + x.toInt64) + y.toInt64) + z.toInt64) + w.toInt64) := by
  have e := own_s3 h g f; have h1 := h.1; have h2 := h.2; have g1 := g.1; have g2 := g.2; have f1 := f.1; have f2 := f.2; have d1 := d.1; have d2 := d.2
  exact own_acc (own_t3 h g f) (by omega) (by omega) (by omega)
theorem pd_1 : parseMethodDescriptor "(IIIII)[I" = some ⟨[.int, .int, .int, .int, .int], some (.array .int)⟩ := by decide +kernel
theorem pd_2 : parseMethodDescriptor "([I)V" = some ⟨[(.array .int)], none⟩ := by decide +kernel
theorem pd_3 : parseMethodDescriptor "()I" = some ⟨[], some .int⟩ := by decide +kernel
theorem ef_0 (m : MethodId) (p0 : Int32) (p1 : Int32) (p2 : Int32) (p3 : Int32) (p4 : Int32) : entryFrame m #[(.int p0), (.int p1), (.int p2), (.int p3), (.int p4)] maxLocals = (mkF m 0 #[.val (.int p0), .val (.int p1), .val (.int p2), .val (.int p3), .val (.int p4), .unset, .unset, .unset, .unset, .unset, .unset, .unset, .unset, .unset] []) := by first | (simp [entryFrame, mkF, argsToLocals, Value.category, maxLocals]; done) | rfl
def Q_0 (Z : State) (p0 : Int32) (p1 : Int32) (p2 : Int32) (p3 : Int32) (p4 : Int32) (h0 : Heap) (n0 : Nat) (v : Option Value) (h : Heap) (L : List Loc) : Prop := v = some (.int (1 : Int32)) ∧ Fr n0 L ∧ Keep h0 h []
set_option maxRecDepth 65536 in
set_option maxHeartbeats 40000000 in
theorem rm_0 (l : Launch) (Z : State) (a0 : Array Value) (hw : ∀ d ∈ tables_1, d.before a0 Z = true) (ws : List Jvm.Cond) (p0 : Int32) (p1 : Int32) (p2 : Int32) (p3 : Int32) (p4 : Int32) (h0 : Heap) (n0 : Nat) (Z0 : n0 ≤ h0.size)  :
    MetFree l x (head1 (Jvm.Cond.code x code maxLocals ret :: ws) room_1) (fun aa U => aa = #[(.int p0), (.int p1), (.int p2), (.int p3), (.int p4)] ∧ Z.Warmed39 U.vm ∧ U.heap = h0) (fun _ _ _ _ _ => True) (fun _ U o U' => ∃ v L, o = .returned v ∧ Q_0 Z p0 p1 p2 p3 p4 h0 n0 v U'.heap L ∧ FrameEnd U o U' L 16 128) := by
  refine MetFree.of_bodySF (plainFor_of_name pn_0) hisR ?_
  intro p e s m args below meth c s₁ Bd hml0 hP hK
  obtain ⟨rfl, hZ, hh⟩ := hP
  have hx := Bd.exec
  have hby := Bd.bytes
  have hml : c.maxLocals = 14 := hml0
  have hown : s.vm.findClass "com/example/regular_role_reasoner/regularrolereasoner/alcoif/ElementsTotalPinLaw" = some m.cls := findClass_of_methodNamed Bd.named
  have hnm := (name_of_methodNamed Bd.named Bd.method).1
  have X0 : Stand p l e room_1 s m #[(.int p0), (.int p1), (.int p2), (.int p3), (.int p4)] below meth c s₁ [] 0 0 := Stand.of_body Bd
  have e0 : s₁.heap = h0 := by rw [← hh, Bd.state]; rfl
  have N0 := Fr.nil n0
  have K0 := Keep.refl h0 []
  show Go p e below s (Q_0 Z p0 p1 p2 p3 p4 h0 n0) 16 128 s₁ (entryFrame m #[(.int p0), (.int p1), (.int p2), (.int p3), (.int p4)] maxLocals)
  refine Go.of_eq (ef_0 m p0 p1 p2 p3 p4) ?_
  refine Go.st (mkF m 1 #[.val (.int p0), .val (.int p1), .val (.int p2), .val (.int p3), .val (.int p4), .unset, .unset, .unset, .unset, .unset, .unset, .unset, .unset, .unset] [(.int p0)]) (fun _ k => XS.iloadN X0.here hx rfl (hb hby at_0) rfl k) ?_
  refine Go.st (mkF m 3 #[.val (.int p0), .val (.int p1), .val (.int p2), .val (.int p3), .val (.int p4), .unset, .unset, .unset, .unset, .unset, .unset, .unset, .unset, .unset] [(.int (2147483647 : Int32)), (.int p0)]) (fun _ k => X0.ldcInt hx hown (mvT hZ (hw _ (List.mem_of_getElem? (i := 0) rfl))) (g := (mkF m 1 #[.val (.int p0), .val (.int p1), .val (.int p2), .val (.int p3), .val (.int p4), .unset, .unset, .unset, .unset, .unset, .unset, .unset, .unset, .unset] [(.int p0)])) rfl (hb hby at_1) _ k) ?_
  refine Go.st (mkF m 4 #[.val (.int p0), .val (.int p1), .val (.int p2), .val (.int p3), .val (.int p4), .unset, .unset, .unset, .unset, .unset, .unset, .unset, .unset, .unset] [(.int (p0 &&& (2147483647 : Int32)))]) (fun _ k => XS.iand X0.here hx rfl (hb hby at_3) rfl k) ?_
  refine Go.st (mkF m 5 #[.val (.int p0), .val (.int p1), .val (.int p2), .val (.int p3), .val (.int p4), .unset, .unset, .unset, .unset, .unset, .unset, .unset, .unset, .unset] [(.int (5 : Int32)), (.int (p0 &&& (2147483647 : Int32)))]) (fun _ k => XS.iconst X0.here hx rfl (hb hby at_4) k) ?_
  refine Go.st (mkF m 6 #[.val (.int p0), .val (.int p1), .val (.int p2), .val (.int p3), .val (.int p4), .unset, .unset, .unset, .unset, .unset, .unset, .unset, .unset, .unset] [(.int ((p0 &&& (2147483647 : Int32)) - ((p0 &&& (2147483647 : Int32)) / (5 : Int32)) * (5 : Int32)))]) (fun _ k => XS.irem X0.here hx rfl (hb hby at_5) rfl (by decide) k) ?_
  refine Go.st (mkF m 8 #[.val (.int p0), .val (.int p1), .val (.int p2), .val (.int p3), .val (.int p4), .val (.int (v_k p0)), .unset, .unset, .unset, .unset, .unset, .unset, .unset, .unset] []) (fun _ k => XS.istore X0.here hx rfl (hb hby at_6) rfl (l' := #[.val (.int p0), .val (.int p1), .val (.int p2), .val (.int p3), .val (.int p4), .val (.int (v_k p0)), .unset, .unset, .unset, .unset, .unset, .unset, .unset, .unset]) rfl k) ?_
  rcases own_k5 p0 with hk | hk | hk | hk | hk
  ·
    rw [hk]
    refine Go.st (mkF m 9 #[.val (.int p0), .val (.int p1), .val (.int p2), .val (.int p3), .val (.int p4), .val (.int (0 : Int32)), .unset, .unset, .unset, .unset, .unset, .unset, .unset, .unset] [(.int p1)]) (fun _ k => XS.iloadN X0.here hx rfl (hb hby at_8) rfl k) ?_
    refine Go.st (mkF m 11 #[.val (.int p0), .val (.int p1), .val (.int p2), .val (.int p3), .val (.int p4), .val (.int (0 : Int32)), .unset, .unset, .unset, .unset, .unset, .unset, .unset, .unset] [(.int (536870911 : Int32)), (.int p1)]) (fun _ k => X0.ldcInt hx hown (mvT hZ (hw _ (List.mem_of_getElem? (i := 1) rfl))) (g := (mkF m 9 #[.val (.int p0), .val (.int p1), .val (.int p2), .val (.int p3), .val (.int p4), .val (.int (0 : Int32)), .unset, .unset, .unset, .unset, .unset, .unset, .unset, .unset] [(.int p1)])) rfl (hb hby at_9) _ k) ?_
    refine Go.st (mkF m 12 #[.val (.int p0), .val (.int p1), .val (.int p2), .val (.int p3), .val (.int p4), .val (.int (0 : Int32)), .unset, .unset, .unset, .unset, .unset, .unset, .unset, .unset] [(.int (p1 &&& (536870911 : Int32)))]) (fun _ k => XS.iand X0.here hx rfl (hb hby at_11) rfl k) ?_
    refine Go.st (mkF m 14 #[.val (.int p0), .val (.int p1), .val (.int p2), .val (.int p3), .val (.int p4), .val (.int (0 : Int32)), .val (.int (v_a p1)), .unset, .unset, .unset, .unset, .unset, .unset, .unset] []) (fun _ k => XS.istore X0.here hx rfl (hb hby at_12) rfl (l' := #[.val (.int p0), .val (.int p1), .val (.int p2), .val (.int p3), .val (.int p4), .val (.int (0 : Int32)), .val (.int (v_a p1)), .unset, .unset, .unset, .unset, .unset, .unset, .unset]) rfl k) ?_
    refine Go.st (mkF m 15 #[.val (.int p0), .val (.int p1), .val (.int p2), .val (.int p3), .val (.int p4), .val (.int (0 : Int32)), .val (.int (v_a p1)), .unset, .unset, .unset, .unset, .unset, .unset, .unset] [(.int p2)]) (fun _ k => XS.iloadN X0.here hx rfl (hb hby at_14) rfl k) ?_
    refine Go.st (mkF m 17 #[.val (.int p0), .val (.int p1), .val (.int p2), .val (.int p3), .val (.int p4), .val (.int (0 : Int32)), .val (.int (v_a p1)), .unset, .unset, .unset, .unset, .unset, .unset, .unset] [(.int (536870911 : Int32)), (.int p2)]) (fun _ k => X0.ldcInt hx hown (mvT hZ (hw _ (List.mem_of_getElem? (i := 1) rfl))) (g := (mkF m 15 #[.val (.int p0), .val (.int p1), .val (.int p2), .val (.int p3), .val (.int p4), .val (.int (0 : Int32)), .val (.int (v_a p1)), .unset, .unset, .unset, .unset, .unset, .unset, .unset] [(.int p2)])) rfl (hb hby at_15) _ k) ?_
    refine Go.st (mkF m 18 #[.val (.int p0), .val (.int p1), .val (.int p2), .val (.int p3), .val (.int p4), .val (.int (0 : Int32)), .val (.int (v_a p1)), .unset, .unset, .unset, .unset, .unset, .unset, .unset] [(.int (p2 &&& (536870911 : Int32)))]) (fun _ k => XS.iand X0.here hx rfl (hb hby at_17) rfl k) ?_
    refine Go.st (mkF m 20 #[.val (.int p0), .val (.int p1), .val (.int p2), .val (.int p3), .val (.int p4), .val (.int (0 : Int32)), .val (.int (v_a p1)), .val (.int (v_b p2)), .unset, .unset, .unset, .unset, .unset, .unset] []) (fun _ k => XS.istore X0.here hx rfl (hb hby at_18) rfl (l' := #[.val (.int p0), .val (.int p1), .val (.int p2), .val (.int p3), .val (.int p4), .val (.int (0 : Int32)), .val (.int (v_a p1)), .val (.int (v_b p2)), .unset, .unset, .unset, .unset, .unset, .unset]) rfl k) ?_
    refine Go.st (mkF m 21 #[.val (.int p0), .val (.int p1), .val (.int p2), .val (.int p3), .val (.int p4), .val (.int (0 : Int32)), .val (.int (v_a p1)), .val (.int (v_b p2)), .unset, .unset, .unset, .unset, .unset, .unset] [(.int p3)]) (fun _ k => XS.iloadN X0.here hx rfl (hb hby at_20) rfl k) ?_
    refine Go.st (mkF m 23 #[.val (.int p0), .val (.int p1), .val (.int p2), .val (.int p3), .val (.int p4), .val (.int (0 : Int32)), .val (.int (v_a p1)), .val (.int (v_b p2)), .unset, .unset, .unset, .unset, .unset, .unset] [(.int (536870911 : Int32)), (.int p3)]) (fun _ k => X0.ldcInt hx hown (mvT hZ (hw _ (List.mem_of_getElem? (i := 1) rfl))) (g := (mkF m 21 #[.val (.int p0), .val (.int p1), .val (.int p2), .val (.int p3), .val (.int p4), .val (.int (0 : Int32)), .val (.int (v_a p1)), .val (.int (v_b p2)), .unset, .unset, .unset, .unset, .unset, .unset] [(.int p3)])) rfl (hb hby at_21) _ k) ?_
    refine Go.st (mkF m 24 #[.val (.int p0), .val (.int p1), .val (.int p2), .val (.int p3), .val (.int p4), .val (.int (0 : Int32)), .val (.int (v_a p1)), .val (.int (v_b p2)), .unset, .unset, .unset, .unset, .unset, .unset] [(.int (p3 &&& (536870911 : Int32)))]) (fun _ k => XS.iand X0.here hx rfl (hb hby at_23) rfl k) ?_
    refine Go.st (mkF m 26 #[.val (.int p0), .val (.int p1), .val (.int p2), .val (.int p3), .val (.int p4), .val (.int (0 : Int32)), .val (.int (v_a p1)), .val (.int (v_b p2)), .val (.int (v_c p3)), .unset, .unset, .unset, .unset, .unset] []) (fun _ k => XS.istore X0.here hx rfl (hb hby at_24) rfl (l' := #[.val (.int p0), .val (.int p1), .val (.int p2), .val (.int p3), .val (.int p4), .val (.int (0 : Int32)), .val (.int (v_a p1)), .val (.int (v_b p2)), .val (.int (v_c p3)), .unset, .unset, .unset, .unset, .unset]) rfl k) ?_
    refine Go.st (mkF m 28 #[.val (.int p0), .val (.int p1), .val (.int p2), .val (.int p3), .val (.int p4), .val (.int (0 : Int32)), .val (.int (v_a p1)), .val (.int (v_b p2)), .val (.int (v_c p3)), .unset, .unset, .unset, .unset, .unset] [(.int p4)]) (fun _ k => XS.iload X0.here hx rfl (hb hby at_26) rfl k) ?_
    refine Go.st (mkF m 30 #[.val (.int p0), .val (.int p1), .val (.int p2), .val (.int p3), .val (.int p4), .val (.int (0 : Int32)), .val (.int (v_a p1)), .val (.int (v_b p2)), .val (.int (v_c p3)), .unset, .unset, .unset, .unset, .unset] [(.int (536870911 : Int32)), (.int p4)]) (fun _ k => X0.ldcInt hx hown (mvT hZ (hw _ (List.mem_of_getElem? (i := 1) rfl))) (g := (mkF m 28 #[.val (.int p0), .val (.int p1), .val (.int p2), .val (.int p3), .val (.int p4), .val (.int (0 : Int32)), .val (.int (v_a p1)), .val (.int (v_b p2)), .val (.int (v_c p3)), .unset, .unset, .unset, .unset, .unset] [(.int p4)])) rfl (hb hby at_28) _ k) ?_
    refine Go.st (mkF m 31 #[.val (.int p0), .val (.int p1), .val (.int p2), .val (.int p3), .val (.int p4), .val (.int (0 : Int32)), .val (.int (v_a p1)), .val (.int (v_b p2)), .val (.int (v_c p3)), .unset, .unset, .unset, .unset, .unset] [(.int (p4 &&& (536870911 : Int32)))]) (fun _ k => XS.iand X0.here hx rfl (hb hby at_30) rfl k) ?_
    refine Go.st (mkF m 33 #[.val (.int p0), .val (.int p1), .val (.int p2), .val (.int p3), .val (.int p4), .val (.int (0 : Int32)), .val (.int (v_a p1)), .val (.int (v_b p2)), .val (.int (v_c p3)), .val (.int (v_d p4)), .unset, .unset, .unset, .unset] []) (fun _ k => XS.istore X0.here hx rfl (hb hby at_31) rfl (l' := #[.val (.int p0), .val (.int p1), .val (.int p2), .val (.int p3), .val (.int p4), .val (.int (0 : Int32)), .val (.int (v_a p1)), .val (.int (v_b p2)), .val (.int (v_c p3)), .val (.int (v_d p4)), .unset, .unset, .unset, .unset]) rfl k) ?_
    refine Go.st (mkF m 35 #[.val (.int p0), .val (.int p1), .val (.int p2), .val (.int p3), .val (.int p4), .val (.int (0 : Int32)), .val (.int (v_a p1)), .val (.int (v_b p2)), .val (.int (v_c p3)), .val (.int (v_d p4)), .unset, .unset, .unset, .unset] [(.int (0 : Int32))]) (fun _ k => XS.iload X0.here hx rfl (hb hby at_33) rfl k) ?_
    refine Go.st (mkF m 37 #[.val (.int p0), .val (.int p1), .val (.int p2), .val (.int p3), .val (.int p4), .val (.int (0 : Int32)), .val (.int (v_a p1)), .val (.int (v_b p2)), .val (.int (v_c p3)), .val (.int (v_d p4)), .unset, .unset, .unset, .unset] [(.int (v_a p1)), (.int (0 : Int32))]) (fun _ k => XS.iload X0.here hx rfl (hb hby at_35) rfl k) ?_
    refine Go.st (mkF m 39 #[.val (.int p0), .val (.int p1), .val (.int p2), .val (.int p3), .val (.int p4), .val (.int (0 : Int32)), .val (.int (v_a p1)), .val (.int (v_b p2)), .val (.int (v_c p3)), .val (.int (v_d p4)), .unset, .unset, .unset, .unset] [(.int (v_b p2)), (.int (v_a p1)), (.int (0 : Int32))]) (fun _ k => XS.iload X0.here hx rfl (hb hby at_37) rfl k) ?_
    refine Go.st (mkF m 41 #[.val (.int p0), .val (.int p1), .val (.int p2), .val (.int p3), .val (.int p4), .val (.int (0 : Int32)), .val (.int (v_a p1)), .val (.int (v_b p2)), .val (.int (v_c p3)), .val (.int (v_d p4)), .unset, .unset, .unset, .unset] [(.int (v_c p3)), (.int (v_b p2)), (.int (v_a p1)), (.int (0 : Int32))]) (fun _ k => XS.iload X0.here hx rfl (hb hby at_39) rfl k) ?_
    refine Go.st (mkF m 43 #[.val (.int p0), .val (.int p1), .val (.int p2), .val (.int p3), .val (.int p4), .val (.int (0 : Int32)), .val (.int (v_a p1)), .val (.int (v_b p2)), .val (.int (v_c p3)), .val (.int (v_d p4)), .unset, .unset, .unset, .unset] [(.int (v_d p4)), (.int (v_c p3)), (.int (v_b p2)), (.int (v_a p1)), (.int (0 : Int32))]) (fun _ k => XS.iload X0.here hx rfl (hb hby at_41) rfl k) ?_
    obtain ⟨_, _, ⟨T1, L1, k1, n1⟩, -, X1, ⟨Lc1, hQ1, l1, y1, z1⟩, st1⟩ := Jvm.LawKit.callS X0 hx (y := (⟨"com/example/regular_role_reasoner/regularrolereasoner/alcoif/ElementsTotalPinLaw", "build", "(IIIII)[I"⟩ : MethodName)) hown (mvT hZ (hw _ (List.mem_of_getElem? (i := 2) rfl))) (mvT hZ (hw _ (List.mem_of_getElem? (i := 3) rfl))) (mvT hZ (hw _ (List.mem_of_getElem? (i := 4) rfl))) (mvT hZ (hw _ (List.mem_of_getElem? (i := 5) rfl))) (by decide) (backOf (W := 0) (rm_10 l Z a0 hw [] (v_a p1) (v_b p2) (v_c p3) (v_d p4) h0 n0 (Nat.le_trans Z0 K0.1)) hZ (hw _ (List.mem_of_getElem? (i := 5) rfl)) (hw _ (List.mem_of_getElem? (i := 4) rfl)) (by decide) (by decide)) (g := (mkF m 43 #[.val (.int p0), .val (.int p1), .val (.int p2), .val (.int p3), .val (.int p4), .val (.int (0 : Int32)), .val (.int (v_a p1)), .val (.int (v_b p2)), .val (.int (v_c p3)), .val (.int (v_d p4)), .unset, .unset, .unset, .unset] [(.int (v_d p4)), (.int (v_c p3)), (.int (v_b p2)), (.int (v_a p1)), (.int (0 : Int32))])) rfl (by rw [hml]; rfl) (argsL := [(.int (0 : Int32)), (.int (v_a p1)), (.int (v_b p2)), (.int (v_c p3)), (.int (v_d p4))]) (rest := []) (lenOf pd_1 rfl) rfl (by show 2 * 0 + _ ≤ _; exact Nat.le_of_eq rfl) (hb hby at_43) (fun _ _ => ⟨rfl, e0, (by decide : 0 + 1 ≤ _), (by decide : 0 + 0 ≤ _)⟩)
    dsimp only [Pt.U, Pt.locs, Pt.cells, Pt.slots] at X1 l1 y1 z1 st1 hQ1
    subst l1 y1 z1
    obtain ⟨b_1, rfl, N1q, K1q, P1_0, E1_1, V1_2⟩ := hQ1
    have N1 := Fr.app N0 N1q
    have sz_b_1 : h0.size ≤ b_1 := Nat.le_trans K0.1 P1_0
    have g_b_1 : n0 ≤ b_1 := Nat.le_trans Z0 sz_b_1
    have K1 : Keep h0 T1.heap [] := K0.trans K1q all0
    refine Go.st (mkF m 46 #[.val (.int p0), .val (.int p1), .val (.int p2), .val (.int p3), .val (.int p4), .val (.int (0 : Int32)), .val (.int (v_a p1)), .val (.int (v_b p2)), .val (.int (v_c p3)), .val (.int (v_d p4)), .unset, .unset, .unset, .unset] [(.ref b_1)]) (fun _ k => st1 _ k) ?_
    refine Go.st (mkF m 48 #[.val (.int p0), .val (.int p1), .val (.int p2), .val (.int p3), .val (.int p4), .val (.int (0 : Int32)), .val (.int (v_a p1)), .val (.int (v_b p2)), .val (.int (v_c p3)), .val (.int (v_d p4)), .val (.ref b_1), .unset, .unset, .unset] []) (fun _ k => XS.astore X1.here hx rfl (hb hby at_46) rfl rfl (l' := #[.val (.int p0), .val (.int p1), .val (.int p2), .val (.int p3), .val (.int p4), .val (.int (0 : Int32)), .val (.int (v_a p1)), .val (.int (v_b p2)), .val (.int (v_c p3)), .val (.int (v_d p4)), .val (.ref b_1), .unset, .unset, .unset]) rfl k) ?_
    obtain ⟨T2, h2, X2, e2, E2, A2, D2, -, st2⟩ := newO X1 hx hZ hown (hw _ (List.mem_of_getElem? (i := 7) rfl)) (hw _ (List.mem_of_getElem? (i := 8) rfl)) (hw _ (List.mem_of_getElem? (i := 9) rfl)) rfl (g := (mkF m 48 #[.val (.int p0), .val (.int p1), .val (.int p2), .val (.int p3), .val (.int p4), .val (.int (0 : Int32)), .val (.int (v_a p1)), .val (.int (v_b p2)), .val (.int (v_c p3)), .val (.int (v_d p4)), .val (.ref b_1), .unset, .unset, .unset] [])) rfl (hb hby at_48) (by decide) (by decide)
    obtain ⟨b2, q2⟩ : ∃ z, z = T1.heap.size := ⟨_, rfl⟩
    rw [← q2] at A2 D2 st2
    have sz_b2 : h0.size ≤ b2 := by rw [q2]; exact K1.1
    have g_b2 : n0 ≤ b2 := Nat.le_trans Z0 sz_b2
    have ne_b_1_b2 : b_1 ≠ b2 := Nat.ne_of_lt (by rw [q2]; exact E1_1.lt)
    have E3q : Exa Z h2 b_1 "[I" := E1_1.ext E2
    have V4 : Ary Z h2 b_1 .int 0 (lst []) := V1_2.ext E2
    have K2 : Keep h0 h2 [] := K1.ext E2
    have F5 : Fld Z h2 b2 "com/example/regular_role_reasoner/regularrolereasoner/alcoif/Elements" "sizes" "[I" .null := D2 (Or.inr (hw _ (List.mem_of_getElem? (i := 26) rfl))) (ty := (.array .int)) (by decide)
    have F6 : Fld Z h2 b2 "com/example/regular_role_reasoner/regularrolereasoner/alcoif/Elements" "first" "[I" .null := D2 (Or.inr (hw _ (List.mem_of_getElem? (i := 28) rfl))) (ty := (.array .int)) (by decide)
    refine Go.st (mkF m 51 #[.val (.int p0), .val (.int p1), .val (.int p2), .val (.int p3), .val (.int p4), .val (.int (0 : Int32)), .val (.int (v_a p1)), .val (.int (v_b p2)), .val (.int (v_c p3)), .val (.int (v_d p4)), .val (.ref b_1), .unset, .unset, .unset] [(.ref b2)]) (fun _ k => st2 _ k) ?_
    refine Go.st (mkF m 52 #[.val (.int p0), .val (.int p1), .val (.int p2), .val (.int p3), .val (.int p4), .val (.int (0 : Int32)), .val (.int (v_a p1)), .val (.int (v_b p2)), .val (.int (v_c p3)), .val (.int (v_d p4)), .val (.ref b_1), .unset, .unset, .unset] [(.ref b2), (.ref b2)]) (fun _ k => XS.dup X2.here hx rfl (hb hby at_51) rfl rfl k) ?_
    refine Go.st (mkF m 54 #[.val (.int p0), .val (.int p1), .val (.int p2), .val (.int p3), .val (.int p4), .val (.int (0 : Int32)), .val (.int (v_a p1)), .val (.int (v_b p2)), .val (.int (v_c p3)), .val (.int (v_d p4)), .val (.ref b_1), .unset, .unset, .unset] [(.ref b_1), (.ref b2), (.ref b2)]) (fun _ k => XS.aload X2.here hx rfl (hb hby at_52) rfl rfl k) ?_
    obtain ⟨_, _, ⟨T7, L7, k7, n7⟩, -, X7, ⟨Lc7, hQ7, l7, y7, z7⟩, st7⟩ := X2.specialBack hx (y := (⟨"com/example/regular_role_reasoner/regularrolereasoner/alcoif/Elements", "<init>", "([I)V"⟩ : MethodName)) rfl hown (mvT hZ (hw _ (List.mem_of_getElem? (i := 10) rfl))) (mvT hZ (hw _ (List.mem_of_getElem? (i := 11) rfl))) (mvT hZ (hw _ (List.mem_of_getElem? (i := 12) rfl))) (by decide) (backOf (W := 1) (rm_20 l Z a0 hw [] b2 b_1 h2 n0 (Nat.le_trans Z0 K2.1) A2 F5 F6 V4 E3q g_b2 (Ne.symm ne_b_1_b2)) hZ (hw _ (List.mem_of_getElem? (i := 12) rfl)) (hw _ (List.mem_of_getElem? (i := 9) rfl)) (by decide) (by decide)) (g := (mkF m 54 #[.val (.int p0), .val (.int p1), .val (.int p2), .val (.int p3), .val (.int p4), .val (.int (0 : Int32)), .val (.int (v_a p1)), .val (.int (v_b p2)), .val (.int (v_c p3)), .val (.int (v_d p4)), .val (.ref b_1), .unset, .unset, .unset] [(.ref b_1), (.ref b2), (.ref b2)])) rfl (by rw [hml]; rfl) (Steps.refl _) (a := b2) (argsL := [(.ref b_1)]) (rest := [(.ref b2)]) (lenOf pd_2 rfl) rfl (by show 2 * 0 + _ ≤ _; exact Nat.le_of_eq rfl) (hb hby at_54) (fun _ _ => ⟨rfl, e2, (by decide : 2 + 2 ≤ _), (by decide : 2 + 0 ≤ _)⟩)
    dsimp only [Pt.U, Pt.locs, Pt.cells, Pt.slots] at X7 l7 y7 z7 st7 hQ7
    subst l7 y7 z7
    obtain ⟨b1_7, b2_7, rfl, N7q, K7q, P7_0, P7_1, F7_2, F7_3, V7_4, V7_5⟩ := hQ7
    have N7 := Fr.app N1 N7q
    have sz_b1_7 : h0.size ≤ b1_7 := Nat.le_trans K2.1 P7_0
    have g_b1_7 : n0 ≤ b1_7 := Nat.le_trans Z0 sz_b1_7
    have ne_b_1_b1_7 : b_1 ≠ b1_7 := Nat.ne_of_lt (Nat.lt_of_lt_of_le E3q.lt P7_0)
    have ne_b2_b1_7 : b2 ≠ b1_7 := Nat.ne_of_lt (Nat.lt_of_lt_of_le A2.lt P7_0)
    have sz_b2_7 : h0.size ≤ b2_7 := Nat.le_trans K2.1 P7_1
    have g_b2_7 : n0 ≤ b2_7 := Nat.le_trans Z0 sz_b2_7
    have ne_b_1_b2_7 : b_1 ≠ b2_7 := Nat.ne_of_lt (Nat.lt_of_lt_of_le E3q.lt P7_1)
    have ne_b2_b2_7 : b2 ≠ b2_7 := Nat.ne_of_lt (Nat.lt_of_lt_of_le A2.lt P7_1)
    have E8q : Exa Z T7.heap b_1 "[I" := E3q.keep K7q
    have V9 : Ary Z T7.heap b_1 .int 0 (lst []) := V4.keep K7q (ninS ne_b_1_b2 nin0)
    have E10q : Exa Z T7.heap b2 "com/example/regular_role_reasoner/regularrolereasoner/alcoif/Elements" := A2.keep K7q
    have K7 : Keep h0 T7.heap [] := K2.trans K7q (allS (Or.inr sz_b2) all0)
    refine Go.st (mkF m 57 #[.val (.int p0), .val (.int p1), .val (.int p2), .val (.int p3), .val (.int p4), .val (.int (0 : Int32)), .val (.int (v_a p1)), .val (.int (v_b p2)), .val (.int (v_c p3)), .val (.int (v_d p4)), .val (.ref b_1), .unset, .unset, .unset] [(.ref b2)]) (fun _ k => st7.trans k) ?_
    refine Go.st (mkF m 59 #[.val (.int p0), .val (.int p1), .val (.int p2), .val (.int p3), .val (.int p4), .val (.int (0 : Int32)), .val (.int (v_a p1)), .val (.int (v_b p2)), .val (.int (v_c p3)), .val (.int (v_d p4)), .val (.ref b_1), .val (.ref b2), .unset, .unset] []) (fun _ k => XS.astore X7.here hx rfl (hb hby at_57) rfl rfl (l' := #[.val (.int p0), .val (.int p1), .val (.int p2), .val (.int p3), .val (.int p4), .val (.int (0 : Int32)), .val (.int (v_a p1)), .val (.int (v_b p2)), .val (.int (v_c p3)), .val (.int (v_d p4)), .val (.ref b_1), .val (.ref b2), .unset, .unset]) rfl k) ?_
    refine Go.st (mkF m 61 #[.val (.int p0), .val (.int p1), .val (.int p2), .val (.int p3), .val (.int p4), .val (.int (0 : Int32)), .val (.int (v_a p1)), .val (.int (v_b p2)), .val (.int (v_c p3)), .val (.int (v_d p4)), .val (.ref b_1), .val (.ref b2), .unset, .unset] [(.int (0 : Int32))]) (fun _ k => XS.iload X7.here hx rfl (hb hby at_59) rfl k) ?_
    refine Go.st (mkF m 72 #[.val (.int p0), .val (.int p1), .val (.int p2), .val (.int p3), .val (.int p4), .val (.int (0 : Int32)), .val (.int (v_a p1)), .val (.int (v_b p2)), .val (.int (v_c p3)), .val (.int (v_d p4)), .val (.ref b_1), .val (.ref b2), .unset, .unset] []) (fun _ k => XS.ifYes X7.here hx rfl (pc0 := 61) (pc' := 72) rfl (hb hby at_61) rfl ((if0 _ _).trans (flt (by decide : ¬ ((0 : Int32) < (0 : Int32)))).2.2.2) (by decide) (by decide) k) ?_
    refine Go.st (mkF m 73 #[.val (.int p0), .val (.int p1), .val (.int p2), .val (.int p3), .val (.int p4), .val (.int (0 : Int32)), .val (.int (v_a p1)), .val (.int (v_b p2)), .val (.int (v_c p3)), .val (.int (v_d p4)), .val (.ref b_1), .val (.ref b2), .unset, .unset] [(.long (0 : Int64))]) (fun _ k => XT.lconst X7.here hx rfl (hb hby at_72) k) ?_
    refine Go.st (mkF m 75 #[.val (.int p0), .val (.int p1), .val (.int p2), .val (.int p3), .val (.int p4), .val (.int (0 : Int32)), .val (.int (v_a p1)), .val (.int (v_b p2)), .val (.int (v_c p3)), .val (.int (v_d p4)), .val (.ref b_1), .val (.ref b2), .val (.long (0 : Int64)), .second] []) (fun _ k => XT.lstore X7.here hx rfl (hb hby at_73) rfl (l' := #[.val (.int p0), .val (.int p1), .val (.int p2), .val (.int p3), .val (.int p4), .val (.int (0 : Int32)), .val (.int (v_a p1)), .val (.int (v_b p2)), .val (.int (v_c p3)), .val (.int (v_d p4)), .val (.ref b_1), .val (.ref b2), .val (.long (0 : Int64)), .second]) rfl k) ?_
    refine Go.st (mkF m 77 #[.val (.int p0), .val (.int p1), .val (.int p2), .val (.int p3), .val (.int p4), .val (.int (0 : Int32)), .val (.int (v_a p1)), .val (.int (v_b p2)), .val (.int (v_c p3)), .val (.int (v_d p4)), .val (.ref b_1), .val (.ref b2), .val (.long (0 : Int64)), .second] [(.int (0 : Int32))]) (fun _ k => XS.iload X7.here hx rfl (hb hby at_75) rfl k) ?_
    refine Go.st (mkF m 88 #[.val (.int p0), .val (.int p1), .val (.int p2), .val (.int p3), .val (.int p4), .val (.int (0 : Int32)), .val (.int (v_a p1)), .val (.int (v_b p2)), .val (.int (v_c p3)), .val (.int (v_d p4)), .val (.ref b_1), .val (.ref b2), .val (.long (0 : Int64)), .second] []) (fun _ k => XS.ifYes X7.here hx rfl (pc0 := 77) (pc' := 88) rfl (hb hby at_77) rfl ((if0 _ _).trans (flt (by decide : ¬ ((0 : Int32) < (0 : Int32)))).2.2.2) (by decide) (by decide) k) ?_
    refine Go.st (mkF m 90 #[.val (.int p0), .val (.int p1), .val (.int p2), .val (.int p3), .val (.int p4), .val (.int (0 : Int32)), .val (.int (v_a p1)), .val (.int (v_b p2)), .val (.int (v_c p3)), .val (.int (v_d p4)), .val (.ref b_1), .val (.ref b2), .val (.long (0 : Int64)), .second] [(.int (0 : Int32))]) (fun _ k => XS.iload X7.here hx rfl (hb hby at_88) rfl k) ?_
    refine Go.st (mkF m 91 #[.val (.int p0), .val (.int p1), .val (.int p2), .val (.int p3), .val (.int p4), .val (.int (0 : Int32)), .val (.int (v_a p1)), .val (.int (v_b p2)), .val (.int (v_c p3)), .val (.int (v_d p4)), .val (.ref b_1), .val (.ref b2), .val (.long (0 : Int64)), .second] [(.int (1 : Int32)), (.int (0 : Int32))]) (fun _ k => XS.iconst X7.here hx rfl (hb hby at_90) k) ?_
    refine Go.st (mkF m 102 #[.val (.int p0), .val (.int p1), .val (.int p2), .val (.int p3), .val (.int p4), .val (.int (0 : Int32)), .val (.int (v_a p1)), .val (.int (v_b p2)), .val (.int (v_c p3)), .val (.int (v_d p4)), .val (.ref b_1), .val (.ref b2), .val (.long (0 : Int64)), .second] []) (fun _ k => XS.icmpYes X7.here hx rfl (pc0 := 91) (pc' := 102) rfl (hb hby at_91) rfl (flt (by decide : ¬ ((1 : Int32) < (0 : Int32)))).2.2.2 (by decide) (by decide) k) ?_
    refine Go.st (mkF m 104 #[.val (.int p0), .val (.int p1), .val (.int p2), .val (.int p3), .val (.int p4), .val (.int (0 : Int32)), .val (.int (v_a p1)), .val (.int (v_b p2)), .val (.int (v_c p3)), .val (.int (v_d p4)), .val (.ref b_1), .val (.ref b2), .val (.long (0 : Int64)), .second] [(.int (0 : Int32))]) (fun _ k => XS.iload X7.here hx rfl (hb hby at_102) rfl k) ?_
    refine Go.st (mkF m 105 #[.val (.int p0), .val (.int p1), .val (.int p2), .val (.int p3), .val (.int p4), .val (.int (0 : Int32)), .val (.int (v_a p1)), .val (.int (v_b p2)), .val (.int (v_c p3)), .val (.int (v_d p4)), .val (.ref b_1), .val (.ref b2), .val (.long (0 : Int64)), .second] [(.int (2 : Int32)), (.int (0 : Int32))]) (fun _ k => XS.iconst X7.here hx rfl (hb hby at_104) k) ?_
    refine Go.st (mkF m 116 #[.val (.int p0), .val (.int p1), .val (.int p2), .val (.int p3), .val (.int p4), .val (.int (0 : Int32)), .val (.int (v_a p1)), .val (.int (v_b p2)), .val (.int (v_c p3)), .val (.int (v_d p4)), .val (.ref b_1), .val (.ref b2), .val (.long (0 : Int64)), .second] []) (fun _ k => XS.icmpYes X7.here hx rfl (pc0 := 105) (pc' := 116) rfl (hb hby at_105) rfl (flt (by decide : ¬ ((2 : Int32) < (0 : Int32)))).2.2.2 (by decide) (by decide) k) ?_
    refine Go.st (mkF m 118 #[.val (.int p0), .val (.int p1), .val (.int p2), .val (.int p3), .val (.int p4), .val (.int (0 : Int32)), .val (.int (v_a p1)), .val (.int (v_b p2)), .val (.int (v_c p3)), .val (.int (v_d p4)), .val (.ref b_1), .val (.ref b2), .val (.long (0 : Int64)), .second] [(.int (0 : Int32))]) (fun _ k => XS.iload X7.here hx rfl (hb hby at_116) rfl k) ?_
    refine Go.st (mkF m 119 #[.val (.int p0), .val (.int p1), .val (.int p2), .val (.int p3), .val (.int p4), .val (.int (0 : Int32)), .val (.int (v_a p1)), .val (.int (v_b p2)), .val (.int (v_c p3)), .val (.int (v_d p4)), .val (.ref b_1), .val (.ref b2), .val (.long (0 : Int64)), .second] [(.int (3 : Int32)), (.int (0 : Int32))]) (fun _ k => XS.iconst X7.here hx rfl (hb hby at_118) k) ?_
    refine Go.st (mkF m 130 #[.val (.int p0), .val (.int p1), .val (.int p2), .val (.int p3), .val (.int p4), .val (.int (0 : Int32)), .val (.int (v_a p1)), .val (.int (v_b p2)), .val (.int (v_c p3)), .val (.int (v_d p4)), .val (.ref b_1), .val (.ref b2), .val (.long (0 : Int64)), .second] []) (fun _ k => XS.icmpYes X7.here hx rfl (pc0 := 119) (pc' := 130) rfl (hb hby at_119) rfl (flt (by decide : ¬ ((3 : Int32) < (0 : Int32)))).2.2.2 (by decide) (by decide) k) ?_
    refine Go.st (mkF m 132 #[.val (.int p0), .val (.int p1), .val (.int p2), .val (.int p3), .val (.int p4), .val (.int (0 : Int32)), .val (.int (v_a p1)), .val (.int (v_b p2)), .val (.int (v_c p3)), .val (.int (v_d p4)), .val (.ref b_1), .val (.ref b2), .val (.long (0 : Int64)), .second] [(.ref b2)]) (fun _ k => XS.aload X7.here hx rfl (hb hby at_130) rfl rfl k) ?_
    obtain ⟨cq11, kq11, q11a, q11b, q11c⟩ := isOf hZ rfl E10q
    obtain ⟨_, _, ⟨T11, L11, k11, n11⟩, -, X11, ⟨Lc11, hQ11, l11, y11, z11⟩, st11⟩ := X7.virtualBack hx (y := (⟨"com/example/regular_role_reasoner/regularrolereasoner/alcoif/Elements", "total", "()I"⟩ : MethodName)) (z := (⟨"com/example/regular_role_reasoner/regularrolereasoner/alcoif/Elements", "total", "()I"⟩ : MethodName)) hown (mvT hZ (hw _ (List.mem_of_getElem? (i := 29) rfl))) (mvT hZ (hw _ (List.mem_of_getElem? (i := 30) rfl))) (notFace_of_selects (args := #[]) (mvT hZ (hw _ (List.mem_of_getElem? (i := 32) rfl)))) (mvT hZ (hw _ (List.mem_of_getElem? (i := 32) rfl))) (mvT hZ (hw _ (List.mem_of_getElem? (i := 31) rfl))) (by decide) (backOf (W := 0) (rm_30 l Z a0 hw [] b2 b1_7 b2_7 T7.heap n0 (Nat.le_trans Z0 K7.1) F7_2 F7_3 V7_4 V7_5) hZ (hw _ (List.mem_of_getElem? (i := 33) rfl)) (hw _ (List.mem_of_getElem? (i := 9) rfl)) (by decide) (by decide)) q11a q11c (g := (mkF m 132 #[.val (.int p0), .val (.int p1), .val (.int p2), .val (.int p3), .val (.int p4), .val (.int (0 : Int32)), .val (.int (v_a p1)), .val (.int (v_b p2)), .val (.int (v_c p3)), .val (.int (v_d p4)), .val (.ref b_1), .val (.ref b2), .val (.long (0 : Int64)), .second] [(.ref b2)])) rfl (by rw [hml]; rfl) (Steps.refl _) (argsL := []) (rest := []) (lenOf pd_3 rfl) rfl (by show 2 * 0 + _ ≤ _; exact Nat.le_of_eq rfl) (hb hby at_132) (fun _ _ => ⟨rfl, rfl, (by decide : 4 + 0 ≤ _), (by decide : 2 + 0 ≤ _)⟩)
    dsimp only [Pt.U, Pt.locs, Pt.cells, Pt.slots] at X11 l11 y11 z11 st11 hQ11
    subst l11 y11 z11
    obtain ⟨rfl, N11q, e11⟩ := hQ11
    have N11 := Fr.app N7 N11q
    refine Go.st (mkF m 135 #[.val (.int p0), .val (.int p1), .val (.int p2), .val (.int p3), .val (.int p4), .val (.int (0 : Int32)), .val (.int (v_a p1)), .val (.int (v_b p2)), .val (.int (v_c p3)), .val (.int (v_d p4)), .val (.ref b_1), .val (.ref b2), .val (.long (0 : Int64)), .second] [(.int (0 : Int32))]) (fun _ k => st11.trans k) ?_
    refine Go.st (mkF m 136 #[.val (.int p0), .val (.int p1), .val (.int p2), .val (.int p3), .val (.int p4), .val (.int (0 : Int32)), .val (.int (v_a p1)), .val (.int (v_b p2)), .val (.int (v_c p3)), .val (.int (v_d p4)), .val (.ref b_1), .val (.ref b2), .val (.long (0 : Int64)), .second] [(.long ((0 : Int32).toInt64))]) (fun _ k => XT.i2l X11.here hx rfl (hb hby at_135) rfl k) ?_
    refine Go.st (mkF m 138 #[.val (.int p0), .val (.int p1), .val (.int p2), .val (.int p3), .val (.int p4), .val (.int (0 : Int32)), .val (.int (v_a p1)), .val (.int (v_b p2)), .val (.int (v_c p3)), .val (.int (v_d p4)), .val (.ref b_1), .val (.ref b2), .val (.long (0 : Int64)), .second] [(.long (0 : Int64)), (.long ((0 : Int32).toInt64))]) (fun _ k => XT.lload X11.here hx rfl (hb hby at_136) rfl k) ?_
    refine Go.st (mkF m 139 #[.val (.int p0), .val (.int p1), .val (.int p2), .val (.int p3), .val (.int p4), .val (.int (0 : Int32)), .val (.int (v_a p1)), .val (.int (v_b p2)), .val (.int (v_c p3)), .val (.int (v_d p4)), .val (.ref b_1), .val (.ref b2), .val (.long (0 : Int64)), .second] [(.int (cmpL ((0 : Int32).toInt64) (0 : Int64)))]) (fun _ k => XT.lcmp X11.here hx rfl (hb hby at_138) rfl k) ?_
    refine Go.st (mkF m 142 #[.val (.int p0), .val (.int p1), .val (.int p2), .val (.int p3), .val (.int p4), .val (.int (0 : Int32)), .val (.int (v_a p1)), .val (.int (v_b p2)), .val (.int (v_c p3)), .val (.int (v_d p4)), .val (.ref b_1), .val (.ref b2), .val (.long (0 : Int64)), .second] []) (fun _ k => XS.ifNo X11.here hx rfl (hb hby at_139) rfl (own_leT (own_t0)).2 k) ?_
    refine Go.st (mkF m 143 #[.val (.int p0), .val (.int p1), .val (.int p2), .val (.int p3), .val (.int p4), .val (.int (0 : Int32)), .val (.int (v_a p1)), .val (.int (v_b p2)), .val (.int (v_c p3)), .val (.int (v_d p4)), .val (.ref b_1), .val (.ref b2), .val (.long (0 : Int64)), .second] [(.int (1 : Int32))]) (fun _ k => XS.iconst X11.here hx rfl (hb hby at_142) k) ?_
    refine Go.st (mkF m 147 #[.val (.int p0), .val (.int p1), .val (.int p2), .val (.int p3), .val (.int p4), .val (.int (0 : Int32)), .val (.int (v_a p1)), .val (.int (v_b p2)), .val (.int (v_c p3)), .val (.int (v_d p4)), .val (.ref b_1), .val (.ref b2), .val (.long (0 : Int64)), .second] [(.int (1 : Int32))]) (fun _ k => XS.goto X11.here hx rfl (pc0 := 143) (pc' := 147) rfl (hb hby at_143) (by decide) (by decide) k) ?_
    exact Go.retZ X11 hx Bd.notSynchronized (t := .boolean) (by simp) Bd.returns (hb hby at_147) (by rw [e11]; exact ⟨rfl, N11, K7⟩) (by decide) (by decide)
  ·
    rw [hk]
    refine Go.st (mkF m 9 #[.val (.int p0), .val (.int p1), .val (.int p2), .val (.int p3), .val (.int p4), .val (.int (1 : Int32)), .unset, .unset, .unset, .unset, .unset, .unset, .unset, .unset] [(.int p1)]) (fun _ k => XS.iloadN X0.here hx rfl (hb hby at_8) rfl k) ?_
    refine Go.st (mkF m 11 #[.val (.int p0), .val (.int p1), .val (.int p2), .val (.int p3), .val (.int p4), .val (.int (1 : Int32)), .unset, .unset, .unset, .unset, .unset, .unset, .unset, .unset] [(.int (536870911 : Int32)), (.int p1)]) (fun _ k => X0.ldcInt hx hown (mvT hZ (hw _ (List.mem_of_getElem? (i := 1) rfl))) (g := (mkF m 9 #[.val (.int p0), .val (.int p1), .val (.int p2), .val (.int p3), .val (.int p4), .val (.int (1 : Int32)), .unset, .unset, .unset, .unset, .unset, .unset, .unset, .unset] [(.int p1)])) rfl (hb hby at_9) _ k) ?_
    refine Go.st (mkF m 12 #[.val (.int p0), .val (.int p1), .val (.int p2), .val (.int p3), .val (.int p4), .val (.int (1 : Int32)), .unset, .unset, .unset, .unset, .unset, .unset, .unset, .unset] [(.int (p1 &&& (536870911 : Int32)))]) (fun _ k => XS.iand X0.here hx rfl (hb hby at_11) rfl k) ?_
    refine Go.st (mkF m 14 #[.val (.int p0), .val (.int p1), .val (.int p2), .val (.int p3), .val (.int p4), .val (.int (1 : Int32)), .val (.int (v_a p1)), .unset, .unset, .unset, .unset, .unset, .unset, .unset] []) (fun _ k => XS.istore X0.here hx rfl (hb hby at_12) rfl (l' := #[.val (.int p0), .val (.int p1), .val (.int p2), .val (.int p3), .val (.int p4), .val (.int (1 : Int32)), .val (.int (v_a p1)), .unset, .unset, .unset, .unset, .unset, .unset, .unset]) rfl k) ?_
    refine Go.st (mkF m 15 #[.val (.int p0), .val (.int p1), .val (.int p2), .val (.int p3), .val (.int p4), .val (.int (1 : Int32)), .val (.int (v_a p1)), .unset, .unset, .unset, .unset, .unset, .unset, .unset] [(.int p2)]) (fun _ k => XS.iloadN X0.here hx rfl (hb hby at_14) rfl k) ?_
    refine Go.st (mkF m 17 #[.val (.int p0), .val (.int p1), .val (.int p2), .val (.int p3), .val (.int p4), .val (.int (1 : Int32)), .val (.int (v_a p1)), .unset, .unset, .unset, .unset, .unset, .unset, .unset] [(.int (536870911 : Int32)), (.int p2)]) (fun _ k => X0.ldcInt hx hown (mvT hZ (hw _ (List.mem_of_getElem? (i := 1) rfl))) (g := (mkF m 15 #[.val (.int p0), .val (.int p1), .val (.int p2), .val (.int p3), .val (.int p4), .val (.int (1 : Int32)), .val (.int (v_a p1)), .unset, .unset, .unset, .unset, .unset, .unset, .unset] [(.int p2)])) rfl (hb hby at_15) _ k) ?_
    refine Go.st (mkF m 18 #[.val (.int p0), .val (.int p1), .val (.int p2), .val (.int p3), .val (.int p4), .val (.int (1 : Int32)), .val (.int (v_a p1)), .unset, .unset, .unset, .unset, .unset, .unset, .unset] [(.int (p2 &&& (536870911 : Int32)))]) (fun _ k => XS.iand X0.here hx rfl (hb hby at_17) rfl k) ?_
    refine Go.st (mkF m 20 #[.val (.int p0), .val (.int p1), .val (.int p2), .val (.int p3), .val (.int p4), .val (.int (1 : Int32)), .val (.int (v_a p1)), .val (.int (v_b p2)), .unset, .unset, .unset, .unset, .unset, .unset] []) (fun _ k => XS.istore X0.here hx rfl (hb hby at_18) rfl (l' := #[.val (.int p0), .val (.int p1), .val (.int p2), .val (.int p3), .val (.int p4), .val (.int (1 : Int32)), .val (.int (v_a p1)), .val (.int (v_b p2)), .unset, .unset, .unset, .unset, .unset, .unset]) rfl k) ?_
    refine Go.st (mkF m 21 #[.val (.int p0), .val (.int p1), .val (.int p2), .val (.int p3), .val (.int p4), .val (.int (1 : Int32)), .val (.int (v_a p1)), .val (.int (v_b p2)), .unset, .unset, .unset, .unset, .unset, .unset] [(.int p3)]) (fun _ k => XS.iloadN X0.here hx rfl (hb hby at_20) rfl k) ?_
    refine Go.st (mkF m 23 #[.val (.int p0), .val (.int p1), .val (.int p2), .val (.int p3), .val (.int p4), .val (.int (1 : Int32)), .val (.int (v_a p1)), .val (.int (v_b p2)), .unset, .unset, .unset, .unset, .unset, .unset] [(.int (536870911 : Int32)), (.int p3)]) (fun _ k => X0.ldcInt hx hown (mvT hZ (hw _ (List.mem_of_getElem? (i := 1) rfl))) (g := (mkF m 21 #[.val (.int p0), .val (.int p1), .val (.int p2), .val (.int p3), .val (.int p4), .val (.int (1 : Int32)), .val (.int (v_a p1)), .val (.int (v_b p2)), .unset, .unset, .unset, .unset, .unset, .unset] [(.int p3)])) rfl (hb hby at_21) _ k) ?_
    refine Go.st (mkF m 24 #[.val (.int p0), .val (.int p1), .val (.int p2), .val (.int p3), .val (.int p4), .val (.int (1 : Int32)), .val (.int (v_a p1)), .val (.int (v_b p2)), .unset, .unset, .unset, .unset, .unset, .unset] [(.int (p3 &&& (536870911 : Int32)))]) (fun _ k => XS.iand X0.here hx rfl (hb hby at_23) rfl k) ?_
    refine Go.st (mkF m 26 #[.val (.int p0), .val (.int p1), .val (.int p2), .val (.int p3), .val (.int p4), .val (.int (1 : Int32)), .val (.int (v_a p1)), .val (.int (v_b p2)), .val (.int (v_c p3)), .unset, .unset, .unset, .unset, .unset] []) (fun _ k => XS.istore X0.here hx rfl (hb hby at_24) rfl (l' := #[.val (.int p0), .val (.int p1), .val (.int p2), .val (.int p3), .val (.int p4), .val (.int (1 : Int32)), .val (.int (v_a p1)), .val (.int (v_b p2)), .val (.int (v_c p3)), .unset, .unset, .unset, .unset, .unset]) rfl k) ?_
    refine Go.st (mkF m 28 #[.val (.int p0), .val (.int p1), .val (.int p2), .val (.int p3), .val (.int p4), .val (.int (1 : Int32)), .val (.int (v_a p1)), .val (.int (v_b p2)), .val (.int (v_c p3)), .unset, .unset, .unset, .unset, .unset] [(.int p4)]) (fun _ k => XS.iload X0.here hx rfl (hb hby at_26) rfl k) ?_
    refine Go.st (mkF m 30 #[.val (.int p0), .val (.int p1), .val (.int p2), .val (.int p3), .val (.int p4), .val (.int (1 : Int32)), .val (.int (v_a p1)), .val (.int (v_b p2)), .val (.int (v_c p3)), .unset, .unset, .unset, .unset, .unset] [(.int (536870911 : Int32)), (.int p4)]) (fun _ k => X0.ldcInt hx hown (mvT hZ (hw _ (List.mem_of_getElem? (i := 1) rfl))) (g := (mkF m 28 #[.val (.int p0), .val (.int p1), .val (.int p2), .val (.int p3), .val (.int p4), .val (.int (1 : Int32)), .val (.int (v_a p1)), .val (.int (v_b p2)), .val (.int (v_c p3)), .unset, .unset, .unset, .unset, .unset] [(.int p4)])) rfl (hb hby at_28) _ k) ?_
    refine Go.st (mkF m 31 #[.val (.int p0), .val (.int p1), .val (.int p2), .val (.int p3), .val (.int p4), .val (.int (1 : Int32)), .val (.int (v_a p1)), .val (.int (v_b p2)), .val (.int (v_c p3)), .unset, .unset, .unset, .unset, .unset] [(.int (p4 &&& (536870911 : Int32)))]) (fun _ k => XS.iand X0.here hx rfl (hb hby at_30) rfl k) ?_
    refine Go.st (mkF m 33 #[.val (.int p0), .val (.int p1), .val (.int p2), .val (.int p3), .val (.int p4), .val (.int (1 : Int32)), .val (.int (v_a p1)), .val (.int (v_b p2)), .val (.int (v_c p3)), .val (.int (v_d p4)), .unset, .unset, .unset, .unset] []) (fun _ k => XS.istore X0.here hx rfl (hb hby at_31) rfl (l' := #[.val (.int p0), .val (.int p1), .val (.int p2), .val (.int p3), .val (.int p4), .val (.int (1 : Int32)), .val (.int (v_a p1)), .val (.int (v_b p2)), .val (.int (v_c p3)), .val (.int (v_d p4)), .unset, .unset, .unset, .unset]) rfl k) ?_
    refine Go.st (mkF m 35 #[.val (.int p0), .val (.int p1), .val (.int p2), .val (.int p3), .val (.int p4), .val (.int (1 : Int32)), .val (.int (v_a p1)), .val (.int (v_b p2)), .val (.int (v_c p3)), .val (.int (v_d p4)), .unset, .unset, .unset, .unset] [(.int (1 : Int32))]) (fun _ k => XS.iload X0.here hx rfl (hb hby at_33) rfl k) ?_
    refine Go.st (mkF m 37 #[.val (.int p0), .val (.int p1), .val (.int p2), .val (.int p3), .val (.int p4), .val (.int (1 : Int32)), .val (.int (v_a p1)), .val (.int (v_b p2)), .val (.int (v_c p3)), .val (.int (v_d p4)), .unset, .unset, .unset, .unset] [(.int (v_a p1)), (.int (1 : Int32))]) (fun _ k => XS.iload X0.here hx rfl (hb hby at_35) rfl k) ?_
    refine Go.st (mkF m 39 #[.val (.int p0), .val (.int p1), .val (.int p2), .val (.int p3), .val (.int p4), .val (.int (1 : Int32)), .val (.int (v_a p1)), .val (.int (v_b p2)), .val (.int (v_c p3)), .val (.int (v_d p4)), .unset, .unset, .unset, .unset] [(.int (v_b p2)), (.int (v_a p1)), (.int (1 : Int32))]) (fun _ k => XS.iload X0.here hx rfl (hb hby at_37) rfl k) ?_
    refine Go.st (mkF m 41 #[.val (.int p0), .val (.int p1), .val (.int p2), .val (.int p3), .val (.int p4), .val (.int (1 : Int32)), .val (.int (v_a p1)), .val (.int (v_b p2)), .val (.int (v_c p3)), .val (.int (v_d p4)), .unset, .unset, .unset, .unset] [(.int (v_c p3)), (.int (v_b p2)), (.int (v_a p1)), (.int (1 : Int32))]) (fun _ k => XS.iload X0.here hx rfl (hb hby at_39) rfl k) ?_
    refine Go.st (mkF m 43 #[.val (.int p0), .val (.int p1), .val (.int p2), .val (.int p3), .val (.int p4), .val (.int (1 : Int32)), .val (.int (v_a p1)), .val (.int (v_b p2)), .val (.int (v_c p3)), .val (.int (v_d p4)), .unset, .unset, .unset, .unset] [(.int (v_d p4)), (.int (v_c p3)), (.int (v_b p2)), (.int (v_a p1)), (.int (1 : Int32))]) (fun _ k => XS.iload X0.here hx rfl (hb hby at_41) rfl k) ?_
    obtain ⟨_, _, ⟨T12, L12, k12, n12⟩, -, X12, ⟨Lc12, hQ12, l12, y12, z12⟩, st12⟩ := Jvm.LawKit.callS X0 hx (y := (⟨"com/example/regular_role_reasoner/regularrolereasoner/alcoif/ElementsTotalPinLaw", "build", "(IIIII)[I"⟩ : MethodName)) hown (mvT hZ (hw _ (List.mem_of_getElem? (i := 2) rfl))) (mvT hZ (hw _ (List.mem_of_getElem? (i := 3) rfl))) (mvT hZ (hw _ (List.mem_of_getElem? (i := 4) rfl))) (mvT hZ (hw _ (List.mem_of_getElem? (i := 5) rfl))) (by decide) (backOf (W := 0) (rm_11 l Z a0 hw [] (v_a p1) (v_b p2) (v_c p3) (v_d p4) h0 n0 (Nat.le_trans Z0 K0.1)) hZ (hw _ (List.mem_of_getElem? (i := 5) rfl)) (hw _ (List.mem_of_getElem? (i := 4) rfl)) (by decide) (by decide)) (g := (mkF m 43 #[.val (.int p0), .val (.int p1), .val (.int p2), .val (.int p3), .val (.int p4), .val (.int (1 : Int32)), .val (.int (v_a p1)), .val (.int (v_b p2)), .val (.int (v_c p3)), .val (.int (v_d p4)), .unset, .unset, .unset, .unset] [(.int (v_d p4)), (.int (v_c p3)), (.int (v_b p2)), (.int (v_a p1)), (.int (1 : Int32))])) rfl (by rw [hml]; rfl) (argsL := [(.int (1 : Int32)), (.int (v_a p1)), (.int (v_b p2)), (.int (v_c p3)), (.int (v_d p4))]) (rest := []) (lenOf pd_1 rfl) rfl (by show 2 * 0 + _ ≤ _; exact Nat.le_of_eq rfl) (hb hby at_43) (fun _ _ => ⟨rfl, e0, (by decide : 0 + 1 ≤ _), (by decide : 0 + 1 ≤ _)⟩)
    dsimp only [Pt.U, Pt.locs, Pt.cells, Pt.slots] at X12 l12 y12 z12 st12 hQ12
    subst l12 y12 z12
    obtain ⟨b_12, rfl, N12q, K12q, P12_0, E12_1, V12_2⟩ := hQ12
    have N12 := Fr.app N0 N12q
    have sz_b_12 : h0.size ≤ b_12 := Nat.le_trans K0.1 P12_0
    have g_b_12 : n0 ≤ b_12 := Nat.le_trans Z0 sz_b_12
    have K12 : Keep h0 T12.heap [] := K0.trans K12q all0
    refine Go.st (mkF m 46 #[.val (.int p0), .val (.int p1), .val (.int p2), .val (.int p3), .val (.int p4), .val (.int (1 : Int32)), .val (.int (v_a p1)), .val (.int (v_b p2)), .val (.int (v_c p3)), .val (.int (v_d p4)), .unset, .unset, .unset, .unset] [(.ref b_12)]) (fun _ k => st12 _ k) ?_
    refine Go.st (mkF m 48 #[.val (.int p0), .val (.int p1), .val (.int p2), .val (.int p3), .val (.int p4), .val (.int (1 : Int32)), .val (.int (v_a p1)), .val (.int (v_b p2)), .val (.int (v_c p3)), .val (.int (v_d p4)), .val (.ref b_12), .unset, .unset, .unset] []) (fun _ k => XS.astore X12.here hx rfl (hb hby at_46) rfl rfl (l' := #[.val (.int p0), .val (.int p1), .val (.int p2), .val (.int p3), .val (.int p4), .val (.int (1 : Int32)), .val (.int (v_a p1)), .val (.int (v_b p2)), .val (.int (v_c p3)), .val (.int (v_d p4)), .val (.ref b_12), .unset, .unset, .unset]) rfl k) ?_
    obtain ⟨T13, h13, X13, e13, E13, A13, D13, -, st13⟩ := newO X12 hx hZ hown (hw _ (List.mem_of_getElem? (i := 7) rfl)) (hw _ (List.mem_of_getElem? (i := 8) rfl)) (hw _ (List.mem_of_getElem? (i := 9) rfl)) rfl (g := (mkF m 48 #[.val (.int p0), .val (.int p1), .val (.int p2), .val (.int p3), .val (.int p4), .val (.int (1 : Int32)), .val (.int (v_a p1)), .val (.int (v_b p2)), .val (.int (v_c p3)), .val (.int (v_d p4)), .val (.ref b_12), .unset, .unset, .unset] [])) rfl (hb hby at_48) (by decide) (by decide)
    obtain ⟨b13, q13⟩ : ∃ z, z = T12.heap.size := ⟨_, rfl⟩
    rw [← q13] at A13 D13 st13
    have sz_b13 : h0.size ≤ b13 := by rw [q13]; exact K12.1
    have g_b13 : n0 ≤ b13 := Nat.le_trans Z0 sz_b13
    have ne_b_12_b13 : b_12 ≠ b13 := Nat.ne_of_lt (by rw [q13]; exact E12_1.lt)
    have E14q : Exa Z h13 b_12 "[I" := E12_1.ext E13
    have V15 : Ary Z h13 b_12 .int 1 (lst [(.int (v_a p1))]) := V12_2.ext E13
    have K13 : Keep h0 h13 [] := K12.ext E13
    have F16 : Fld Z h13 b13 "com/example/regular_role_reasoner/regularrolereasoner/alcoif/Elements" "sizes" "[I" .null := D13 (Or.inr (hw _ (List.mem_of_getElem? (i := 26) rfl))) (ty := (.array .int)) (by decide)
    have F17 : Fld Z h13 b13 "com/example/regular_role_reasoner/regularrolereasoner/alcoif/Elements" "first" "[I" .null := D13 (Or.inr (hw _ (List.mem_of_getElem? (i := 28) rfl))) (ty := (.array .int)) (by decide)
    refine Go.st (mkF m 51 #[.val (.int p0), .val (.int p1), .val (.int p2), .val (.int p3), .val (.int p4), .val (.int (1 : Int32)), .val (.int (v_a p1)), .val (.int (v_b p2)), .val (.int (v_c p3)), .val (.int (v_d p4)), .val (.ref b_12), .unset, .unset, .unset] [(.ref b13)]) (fun _ k => st13 _ k) ?_
    refine Go.st (mkF m 52 #[.val (.int p0), .val (.int p1), .val (.int p2), .val (.int p3), .val (.int p4), .val (.int (1 : Int32)), .val (.int (v_a p1)), .val (.int (v_b p2)), .val (.int (v_c p3)), .val (.int (v_d p4)), .val (.ref b_12), .unset, .unset, .unset] [(.ref b13), (.ref b13)]) (fun _ k => XS.dup X13.here hx rfl (hb hby at_51) rfl rfl k) ?_
    refine Go.st (mkF m 54 #[.val (.int p0), .val (.int p1), .val (.int p2), .val (.int p3), .val (.int p4), .val (.int (1 : Int32)), .val (.int (v_a p1)), .val (.int (v_b p2)), .val (.int (v_c p3)), .val (.int (v_d p4)), .val (.ref b_12), .unset, .unset, .unset] [(.ref b_12), (.ref b13), (.ref b13)]) (fun _ k => XS.aload X13.here hx rfl (hb hby at_52) rfl rfl k) ?_
    obtain ⟨_, _, ⟨T18, L18, k18, n18⟩, -, X18, ⟨Lc18, hQ18, l18, y18, z18⟩, st18⟩ := X13.specialBack hx (y := (⟨"com/example/regular_role_reasoner/regularrolereasoner/alcoif/Elements", "<init>", "([I)V"⟩ : MethodName)) rfl hown (mvT hZ (hw _ (List.mem_of_getElem? (i := 10) rfl))) (mvT hZ (hw _ (List.mem_of_getElem? (i := 11) rfl))) (mvT hZ (hw _ (List.mem_of_getElem? (i := 12) rfl))) (by decide) (backOf (W := 1) (rm_21 l Z a0 hw [] b13 b_12 (v_a p1) h13 n0 (Nat.le_trans Z0 K13.1) A13 F16 F17 V15 E14q g_b13 (Ne.symm ne_b_12_b13) (own_ma _)) hZ (hw _ (List.mem_of_getElem? (i := 12) rfl)) (hw _ (List.mem_of_getElem? (i := 9) rfl)) (by decide) (by decide)) (g := (mkF m 54 #[.val (.int p0), .val (.int p1), .val (.int p2), .val (.int p3), .val (.int p4), .val (.int (1 : Int32)), .val (.int (v_a p1)), .val (.int (v_b p2)), .val (.int (v_c p3)), .val (.int (v_d p4)), .val (.ref b_12), .unset, .unset, .unset] [(.ref b_12), (.ref b13), (.ref b13)])) rfl (by rw [hml]; rfl) (Steps.refl _) (a := b13) (argsL := [(.ref b_12)]) (rest := [(.ref b13)]) (lenOf pd_2 rfl) rfl (by show 2 * 0 + _ ≤ _; exact Nat.le_of_eq rfl) (hb hby at_54) (fun _ _ => ⟨rfl, e13, (by decide : 2 + 2 ≤ _), (by decide : 3 + 2 ≤ _)⟩)
    dsimp only [Pt.U, Pt.locs, Pt.cells, Pt.slots] at X18 l18 y18 z18 st18 hQ18
    subst l18 y18 z18
    obtain ⟨b1_18, b2_18, rfl, N18q, K18q, P18_0, P18_1, F18_2, F18_3, V18_4, V18_5⟩ := hQ18
    have N18 := Fr.app N12 N18q
    have sz_b1_18 : h0.size ≤ b1_18 := Nat.le_trans K13.1 P18_0
    have g_b1_18 : n0 ≤ b1_18 := Nat.le_trans Z0 sz_b1_18
    have ne_b_12_b1_18 : b_12 ≠ b1_18 := Nat.ne_of_lt (Nat.lt_of_lt_of_le E14q.lt P18_0)
    have ne_b13_b1_18 : b13 ≠ b1_18 := Nat.ne_of_lt (Nat.lt_of_lt_of_le A13.lt P18_0)
    have sz_b2_18 : h0.size ≤ b2_18 := Nat.le_trans K13.1 P18_1
    have g_b2_18 : n0 ≤ b2_18 := Nat.le_trans Z0 sz_b2_18
    have ne_b_12_b2_18 : b_12 ≠ b2_18 := Nat.ne_of_lt (Nat.lt_of_lt_of_le E14q.lt P18_1)
    have ne_b13_b2_18 : b13 ≠ b2_18 := Nat.ne_of_lt (Nat.lt_of_lt_of_le A13.lt P18_1)
    have E19q : Exa Z T18.heap b_12 "[I" := E14q.keep K18q
    have V20 : Ary Z T18.heap b_12 .int 1 (lst [(.int (v_a p1))]) := V15.keep K18q (ninS ne_b_12_b13 nin0)
    have E21q : Exa Z T18.heap b13 "com/example/regular_role_reasoner/regularrolereasoner/alcoif/Elements" := A13.keep K18q
    have K18 : Keep h0 T18.heap [] := K13.trans K18q (allS (Or.inr sz_b13) all0)
    refine Go.st (mkF m 57 #[.val (.int p0), .val (.int p1), .val (.int p2), .val (.int p3), .val (.int p4), .val (.int (1 : Int32)), .val (.int (v_a p1)), .val (.int (v_b p2)), .val (.int (v_c p3)), .val (.int (v_d p4)), .val (.ref b_12), .unset, .unset, .unset] [(.ref b13)]) (fun _ k => st18.trans k) ?_
    refine Go.st (mkF m 59 #[.val (.int p0), .val (.int p1), .val (.int p2), .val (.int p3), .val (.int p4), .val (.int (1 : Int32)), .val (.int (v_a p1)), .val (.int (v_b p2)), .val (.int (v_c p3)), .val (.int (v_d p4)), .val (.ref b_12), .val (.ref b13), .unset, .unset] []) (fun _ k => XS.astore X18.here hx rfl (hb hby at_57) rfl rfl (l' := #[.val (.int p0), .val (.int p1), .val (.int p2), .val (.int p3), .val (.int p4), .val (.int (1 : Int32)), .val (.int (v_a p1)), .val (.int (v_b p2)), .val (.int (v_c p3)), .val (.int (v_d p4)), .val (.ref b_12), .val (.ref b13), .unset, .unset]) rfl k) ?_
    refine Go.st (mkF m 61 #[.val (.int p0), .val (.int p1), .val (.int p2), .val (.int p3), .val (.int p4), .val (.int (1 : Int32)), .val (.int (v_a p1)), .val (.int (v_b p2)), .val (.int (v_c p3)), .val (.int (v_d p4)), .val (.ref b_12), .val (.ref b13), .unset, .unset] [(.int (1 : Int32))]) (fun _ k => XS.iload X18.here hx rfl (hb hby at_59) rfl k) ?_
    refine Go.st (mkF m 64 #[.val (.int p0), .val (.int p1), .val (.int p2), .val (.int p3), .val (.int p4), .val (.int (1 : Int32)), .val (.int (v_a p1)), .val (.int (v_b p2)), .val (.int (v_c p3)), .val (.int (v_d p4)), .val (.ref b_12), .val (.ref b13), .unset, .unset] []) (fun _ k => XS.ifNo X18.here hx rfl (hb hby at_61) rfl ((if0 _ _).trans (tlt (by decide : (0 : Int32) < (1 : Int32))).2.2.2) k) ?_
    refine Go.st (mkF m 66 #[.val (.int p0), .val (.int p1), .val (.int p2), .val (.int p3), .val (.int p4), .val (.int (1 : Int32)), .val (.int (v_a p1)), .val (.int (v_b p2)), .val (.int (v_c p3)), .val (.int (v_d p4)), .val (.ref b_12), .val (.ref b13), .unset, .unset] [(.ref b_12)]) (fun _ k => XS.aload X18.here hx rfl (hb hby at_64) rfl rfl k) ?_
    refine Go.st (mkF m 68 #[.val (.int p0), .val (.int p1), .val (.int p2), .val (.int p3), .val (.int p4), .val (.int (1 : Int32)), .val (.int (v_a p1)), .val (.int (v_b p2)), .val (.int (v_c p3)), .val (.int (v_d p4)), .val (.ref b_12), .val (.ref b13), .unset, .unset] [(.int (1 : Int32)), (.ref b_12)]) (fun _ k => XS.iload X18.here hx rfl (hb hby at_66) rfl k) ?_
    refine Go.st (mkF m 69 #[.val (.int p0), .val (.int p1), .val (.int p2), .val (.int p3), .val (.int p4), .val (.int (1 : Int32)), .val (.int (v_a p1)), .val (.int (v_b p2)), .val (.int (v_c p3)), .val (.int (v_d p4)), .val (.ref b_12), .val (.ref b13), .unset, .unset] [(.int (1 : Int32)), (.int (1 : Int32)), (.ref b_12)]) (fun _ k => XS.iconst X18.here hx rfl (hb hby at_68) k) ?_
    refine Go.st (mkF m 70 #[.val (.int p0), .val (.int p1), .val (.int p2), .val (.int p3), .val (.int p4), .val (.int (1 : Int32)), .val (.int (v_a p1)), .val (.int (v_b p2)), .val (.int (v_c p3)), .val (.int (v_d p4)), .val (.ref b_12), .val (.ref b13), .unset, .unset] [(.int (0 : Int32)), (.ref b_12)]) (fun _ k => XS.isub X18.here hx rfl (hb hby at_69) rfl k) ?_
    refine Go.st (mkF m 71 #[.val (.int p0), .val (.int p1), .val (.int p2), .val (.int p3), .val (.int p4), .val (.int (1 : Int32)), .val (.int (v_a p1)), .val (.int (v_b p2)), .val (.int (v_c p3)), .val (.int (v_d p4)), .val (.ref b_12), .val (.ref b13), .unset, .unset] [(.int (0 : Int32)), (.int (0 : Int32)), (.ref b_12)]) (fun _ k => XS.iconst X18.here hx rfl (hb hby at_70) k) ?_
    obtain ⟨T22, h22, X22, e22, W22, st22⟩ := stAI X18 hx hZ rfl V20 (i := 0) (by decide) (by decide) (by decide) (g := (mkF m 71 #[.val (.int p0), .val (.int p1), .val (.int p2), .val (.int p3), .val (.int p4), .val (.int (1 : Int32)), .val (.int (v_a p1)), .val (.int (v_b p2)), .val (.int (v_c p3)), .val (.int (v_d p4)), .val (.ref b_12), .val (.ref b13), .unset, .unset] [(.int (0 : Int32)), (.int (0 : Int32)), (.ref b_12)])) rfl rfl (hb hby at_71)
    have E23q : Exa Z h22 b_12 "[I" := E19q.wr W22
    have V24 : Ary Z h22 b_12 .int 1 (lst [(.int (0 : Int32))]) := V20.sameL W22 (by simp)
    have E25q : Exa Z h22 b13 "com/example/regular_role_reasoner/regularrolereasoner/alcoif/Elements" := E21q.wr W22
    have F26 : Fld Z h22 b13 "com/example/regular_role_reasoner/regularrolereasoner/alcoif/Elements" "sizes" "[I" (.ref b1_18) := F18_2.other W22 (Or.inl (Ne.symm ne_b_12_b13))
    have F27 : Fld Z h22 b13 "com/example/regular_role_reasoner/regularrolereasoner/alcoif/Elements" "first" "[I" (.ref b2_18) := F18_3.other W22 (Or.inl (Ne.symm ne_b_12_b13))
    have V28 : Ary Z h22 b1_18 .int 1 (lst [(.int (v_a p1))]) := V18_4.other W22 (Ne.symm ne_b_12_b1_18)
    have V29 : Ary Z h22 b2_18 .int 1 (lst [(.int (0 : Int32))]) := V18_5.other W22 (Ne.symm ne_b_12_b2_18)
    have K22 : Keep h0 h22 [] := K18.wr W22 (Or.inr sz_b_12)
    have N22 := Fr.snoc X22 N18 g_b_12
    refine Go.st (mkF m 72 #[.val (.int p0), .val (.int p1), .val (.int p2), .val (.int p3), .val (.int p4), .val (.int (1 : Int32)), .val (.int (v_a p1)), .val (.int (v_b p2)), .val (.int (v_c p3)), .val (.int (v_d p4)), .val (.ref b_12), .val (.ref b13), .unset, .unset] []) (fun _ k => st22 _ k) ?_
    refine Go.st (mkF m 73 #[.val (.int p0), .val (.int p1), .val (.int p2), .val (.int p3), .val (.int p4), .val (.int (1 : Int32)), .val (.int (v_a p1)), .val (.int (v_b p2)), .val (.int (v_c p3)), .val (.int (v_d p4)), .val (.ref b_12), .val (.ref b13), .unset, .unset] [(.long (0 : Int64))]) (fun _ k => XT.lconst X22.here hx rfl (hb hby at_72) k) ?_
    refine Go.st (mkF m 75 #[.val (.int p0), .val (.int p1), .val (.int p2), .val (.int p3), .val (.int p4), .val (.int (1 : Int32)), .val (.int (v_a p1)), .val (.int (v_b p2)), .val (.int (v_c p3)), .val (.int (v_d p4)), .val (.ref b_12), .val (.ref b13), .val (.long (0 : Int64)), .second] []) (fun _ k => XT.lstore X22.here hx rfl (hb hby at_73) rfl (l' := #[.val (.int p0), .val (.int p1), .val (.int p2), .val (.int p3), .val (.int p4), .val (.int (1 : Int32)), .val (.int (v_a p1)), .val (.int (v_b p2)), .val (.int (v_c p3)), .val (.int (v_d p4)), .val (.ref b_12), .val (.ref b13), .val (.long (0 : Int64)), .second]) rfl k) ?_
    refine Go.st (mkF m 77 #[.val (.int p0), .val (.int p1), .val (.int p2), .val (.int p3), .val (.int p4), .val (.int (1 : Int32)), .val (.int (v_a p1)), .val (.int (v_b p2)), .val (.int (v_c p3)), .val (.int (v_d p4)), .val (.ref b_12), .val (.ref b13), .val (.long (0 : Int64)), .second] [(.int (1 : Int32))]) (fun _ k => XS.iload X22.here hx rfl (hb hby at_75) rfl k) ?_
    refine Go.st (mkF m 80 #[.val (.int p0), .val (.int p1), .val (.int p2), .val (.int p3), .val (.int p4), .val (.int (1 : Int32)), .val (.int (v_a p1)), .val (.int (v_b p2)), .val (.int (v_c p3)), .val (.int (v_d p4)), .val (.ref b_12), .val (.ref b13), .val (.long (0 : Int64)), .second] []) (fun _ k => XS.ifNo X22.here hx rfl (hb hby at_77) rfl ((if0 _ _).trans (tlt (by decide : (0 : Int32) < (1 : Int32))).2.2.2) k) ?_
    refine Go.st (mkF m 82 #[.val (.int p0), .val (.int p1), .val (.int p2), .val (.int p3), .val (.int p4), .val (.int (1 : Int32)), .val (.int (v_a p1)), .val (.int (v_b p2)), .val (.int (v_c p3)), .val (.int (v_d p4)), .val (.ref b_12), .val (.ref b13), .val (.long (0 : Int64)), .second] [(.long (0 : Int64))]) (fun _ k => XT.lload X22.here hx rfl (hb hby at_80) rfl k) ?_
    refine Go.st (mkF m 84 #[.val (.int p0), .val (.int p1), .val (.int p2), .val (.int p3), .val (.int p4), .val (.int (1 : Int32)), .val (.int (v_a p1)), .val (.int (v_b p2)), .val (.int (v_c p3)), .val (.int (v_d p4)), .val (.ref b_12), .val (.ref b13), .val (.long (0 : Int64)), .second] [(.int (v_a p1)), (.long (0 : Int64))]) (fun _ k => XS.iload X22.here hx rfl (hb hby at_82) rfl k) ?_
    refine Go.st (mkF m 85 #[.val (.int p0), .val (.int p1), .val (.int p2), .val (.int p3), .val (.int p4), .val (.int (1 : Int32)), .val (.int (v_a p1)), .val (.int (v_b p2)), .val (.int (v_c p3)), .val (.int (v_d p4)), .val (.ref b_12), .val (.ref b13), .val (.long (0 : Int64)), .second] [(.long ((v_a p1).toInt64)), (.long (0 : Int64))]) (fun _ k => XT.i2l X22.here hx rfl (hb hby at_84) rfl k) ?_
    refine Go.st (mkF m 86 #[.val (.int p0), .val (.int p1), .val (.int p2), .val (.int p3), .val (.int p4), .val (.int (1 : Int32)), .val (.int (v_a p1)), .val (.int (v_b p2)), .val (.int (v_c p3)), .val (.int (v_d p4)), .val (.ref b_12), .val (.ref b13), .val (.long (0 : Int64)), .second] [(.long ((0 : Int64) + ((v_a p1).toInt64)))]) (fun _ k => XT.ladd X22.here hx rfl (hb hby at_85) rfl k) ?_
    refine Go.st (mkF m 88 #[.val (.int p0), .val (.int p1), .val (.int p2), .val (.int p3), .val (.int p4), .val (.int (1 : Int32)), .val (.int (v_a p1)), .val (.int (v_b p2)), .val (.int (v_c p3)), .val (.int (v_d p4)), .val (.ref b_12), .val (.ref b13), .val (.long ((0 : Int64) + ((v_a p1).toInt64))), .second] []) (fun _ k => XT.lstore X22.here hx rfl (hb hby at_86) rfl (l' := #[.val (.int p0), .val (.int p1), .val (.int p2), .val (.int p3), .val (.int p4), .val (.int (1 : Int32)), .val (.int (v_a p1)), .val (.int (v_b p2)), .val (.int (v_c p3)), .val (.int (v_d p4)), .val (.ref b_12), .val (.ref b13), .val (.long ((0 : Int64) + ((v_a p1).toInt64))), .second]) rfl k) ?_
    refine Go.st (mkF m 90 #[.val (.int p0), .val (.int p1), .val (.int p2), .val (.int p3), .val (.int p4), .val (.int (1 : Int32)), .val (.int (v_a p1)), .val (.int (v_b p2)), .val (.int (v_c p3)), .val (.int (v_d p4)), .val (.ref b_12), .val (.ref b13), .val (.long ((0 : Int64) + ((v_a p1).toInt64))), .second] [(.int (1 : Int32))]) (fun _ k => XS.iload X22.here hx rfl (hb hby at_88) rfl k) ?_
    refine Go.st (mkF m 91 #[.val (.int p0), .val (.int p1), .val (.int p2), .val (.int p3), .val (.int p4), .val (.int (1 : Int32)), .val (.int (v_a p1)), .val (.int (v_b p2)), .val (.int (v_c p3)), .val (.int (v_d p4)), .val (.ref b_12), .val (.ref b13), .val (.long ((0 : Int64) + ((v_a p1).toInt64))), .second] [(.int (1 : Int32)), (.int (1 : Int32))]) (fun _ k => XS.iconst X22.here hx rfl (hb hby at_90) k) ?_
    refine Go.st (mkF m 102 #[.val (.int p0), .val (.int p1), .val (.int p2), .val (.int p3), .val (.int p4), .val (.int (1 : Int32)), .val (.int (v_a p1)), .val (.int (v_b p2)), .val (.int (v_c p3)), .val (.int (v_d p4)), .val (.ref b_12), .val (.ref b13), .val (.long ((0 : Int64) + ((v_a p1).toInt64))), .second] []) (fun _ k => XS.icmpYes X22.here hx rfl (pc0 := 91) (pc' := 102) rfl (hb hby at_91) rfl (flt (by decide : ¬ ((1 : Int32) < (1 : Int32)))).2.2.2 (by decide) (by decide) k) ?_
    refine Go.st (mkF m 104 #[.val (.int p0), .val (.int p1), .val (.int p2), .val (.int p3), .val (.int p4), .val (.int (1 : Int32)), .val (.int (v_a p1)), .val (.int (v_b p2)), .val (.int (v_c p3)), .val (.int (v_d p4)), .val (.ref b_12), .val (.ref b13), .val (.long ((0 : Int64) + ((v_a p1).toInt64))), .second] [(.int (1 : Int32))]) (fun _ k => XS.iload X22.here hx rfl (hb hby at_102) rfl k) ?_
    refine Go.st (mkF m 105 #[.val (.int p0), .val (.int p1), .val (.int p2), .val (.int p3), .val (.int p4), .val (.int (1 : Int32)), .val (.int (v_a p1)), .val (.int (v_b p2)), .val (.int (v_c p3)), .val (.int (v_d p4)), .val (.ref b_12), .val (.ref b13), .val (.long ((0 : Int64) + ((v_a p1).toInt64))), .second] [(.int (2 : Int32)), (.int (1 : Int32))]) (fun _ k => XS.iconst X22.here hx rfl (hb hby at_104) k) ?_
    refine Go.st (mkF m 116 #[.val (.int p0), .val (.int p1), .val (.int p2), .val (.int p3), .val (.int p4), .val (.int (1 : Int32)), .val (.int (v_a p1)), .val (.int (v_b p2)), .val (.int (v_c p3)), .val (.int (v_d p4)), .val (.ref b_12), .val (.ref b13), .val (.long ((0 : Int64) + ((v_a p1).toInt64))), .second] []) (fun _ k => XS.icmpYes X22.here hx rfl (pc0 := 105) (pc' := 116) rfl (hb hby at_105) rfl (flt (by decide : ¬ ((2 : Int32) < (1 : Int32)))).2.2.2 (by decide) (by decide) k) ?_
    refine Go.st (mkF m 118 #[.val (.int p0), .val (.int p1), .val (.int p2), .val (.int p3), .val (.int p4), .val (.int (1 : Int32)), .val (.int (v_a p1)), .val (.int (v_b p2)), .val (.int (v_c p3)), .val (.int (v_d p4)), .val (.ref b_12), .val (.ref b13), .val (.long ((0 : Int64) + ((v_a p1).toInt64))), .second] [(.int (1 : Int32))]) (fun _ k => XS.iload X22.here hx rfl (hb hby at_116) rfl k) ?_
    refine Go.st (mkF m 119 #[.val (.int p0), .val (.int p1), .val (.int p2), .val (.int p3), .val (.int p4), .val (.int (1 : Int32)), .val (.int (v_a p1)), .val (.int (v_b p2)), .val (.int (v_c p3)), .val (.int (v_d p4)), .val (.ref b_12), .val (.ref b13), .val (.long ((0 : Int64) + ((v_a p1).toInt64))), .second] [(.int (3 : Int32)), (.int (1 : Int32))]) (fun _ k => XS.iconst X22.here hx rfl (hb hby at_118) k) ?_
    refine Go.st (mkF m 130 #[.val (.int p0), .val (.int p1), .val (.int p2), .val (.int p3), .val (.int p4), .val (.int (1 : Int32)), .val (.int (v_a p1)), .val (.int (v_b p2)), .val (.int (v_c p3)), .val (.int (v_d p4)), .val (.ref b_12), .val (.ref b13), .val (.long ((0 : Int64) + ((v_a p1).toInt64))), .second] []) (fun _ k => XS.icmpYes X22.here hx rfl (pc0 := 119) (pc' := 130) rfl (hb hby at_119) rfl (flt (by decide : ¬ ((3 : Int32) < (1 : Int32)))).2.2.2 (by decide) (by decide) k) ?_
    refine Go.st (mkF m 132 #[.val (.int p0), .val (.int p1), .val (.int p2), .val (.int p3), .val (.int p4), .val (.int (1 : Int32)), .val (.int (v_a p1)), .val (.int (v_b p2)), .val (.int (v_c p3)), .val (.int (v_d p4)), .val (.ref b_12), .val (.ref b13), .val (.long ((0 : Int64) + ((v_a p1).toInt64))), .second] [(.ref b13)]) (fun _ k => XS.aload X22.here hx rfl (hb hby at_130) rfl rfl k) ?_
    obtain ⟨cq30, kq30, q30a, q30b, q30c⟩ := isOf hZ e22 E25q
    obtain ⟨_, _, ⟨T30, L30, k30, n30⟩, -, X30, ⟨Lc30, hQ30, l30, y30, z30⟩, st30⟩ := X22.virtualBack hx (y := (⟨"com/example/regular_role_reasoner/regularrolereasoner/alcoif/Elements", "total", "()I"⟩ : MethodName)) (z := (⟨"com/example/regular_role_reasoner/regularrolereasoner/alcoif/Elements", "total", "()I"⟩ : MethodName)) hown (mvT hZ (hw _ (List.mem_of_getElem? (i := 29) rfl))) (mvT hZ (hw _ (List.mem_of_getElem? (i := 30) rfl))) (notFace_of_selects (args := #[]) (mvT hZ (hw _ (List.mem_of_getElem? (i := 32) rfl)))) (mvT hZ (hw _ (List.mem_of_getElem? (i := 32) rfl))) (mvT hZ (hw _ (List.mem_of_getElem? (i := 31) rfl))) (by decide) (backOf (W := 0) (rm_31 l Z a0 hw [] b13 b1_18 b2_18 (v_a p1) (0 : Int32) h22 n0 (Nat.le_trans Z0 K22.1) F26 F27 V28 V29) hZ (hw _ (List.mem_of_getElem? (i := 33) rfl)) (hw _ (List.mem_of_getElem? (i := 9) rfl)) (by decide) (by decide)) q30a q30c (g := (mkF m 132 #[.val (.int p0), .val (.int p1), .val (.int p2), .val (.int p3), .val (.int p4), .val (.int (1 : Int32)), .val (.int (v_a p1)), .val (.int (v_b p2)), .val (.int (v_c p3)), .val (.int (v_d p4)), .val (.ref b_12), .val (.ref b13), .val (.long ((0 : Int64) + ((v_a p1).toInt64))), .second] [(.ref b13)])) rfl (by rw [hml]; rfl) (Steps.refl _) (argsL := []) (rest := []) (lenOf pd_3 rfl) rfl (by show 2 * 0 + _ ≤ _; exact Nat.le_of_eq rfl) (hb hby at_132) (fun _ _ => ⟨rfl, e22, (by decide : 4 + 0 ≤ _), (by decide : 5 + 0 ≤ _)⟩)
    dsimp only [Pt.U, Pt.locs, Pt.cells, Pt.slots] at X30 l30 y30 z30 st30 hQ30
    subst l30 y30 z30
    obtain ⟨rfl, N30q, e30⟩ := hQ30
    have N30 := Fr.app N22 N30q
    refine Go.st (mkF m 135 #[.val (.int p0), .val (.int p1), .val (.int p2), .val (.int p3), .val (.int p4), .val (.int (1 : Int32)), .val (.int (v_a p1)), .val (.int (v_b p2)), .val (.int (v_c p3)), .val (.int (v_d p4)), .val (.ref b_12), .val (.ref b13), .val (.long ((0 : Int64) + ((v_a p1).toInt64))), .second] [(.int ((0 : Int32) + (v_a p1)))]) (fun _ k => st30.trans k) ?_
    refine Go.st (mkF m 136 #[.val (.int p0), .val (.int p1), .val (.int p2), .val (.int p3), .val (.int p4), .val (.int (1 : Int32)), .val (.int (v_a p1)), .val (.int (v_b p2)), .val (.int (v_c p3)), .val (.int (v_d p4)), .val (.ref b_12), .val (.ref b13), .val (.long ((0 : Int64) + ((v_a p1).toInt64))), .second] [(.long (((0 : Int32) + (v_a p1)).toInt64))]) (fun _ k => XT.i2l X30.here hx rfl (hb hby at_135) rfl k) ?_
    refine Go.st (mkF m 138 #[.val (.int p0), .val (.int p1), .val (.int p2), .val (.int p3), .val (.int p4), .val (.int (1 : Int32)), .val (.int (v_a p1)), .val (.int (v_b p2)), .val (.int (v_c p3)), .val (.int (v_d p4)), .val (.ref b_12), .val (.ref b13), .val (.long ((0 : Int64) + ((v_a p1).toInt64))), .second] [(.long ((0 : Int64) + ((v_a p1).toInt64))), (.long (((0 : Int32) + (v_a p1)).toInt64))]) (fun _ k => XT.lload X30.here hx rfl (hb hby at_136) rfl k) ?_
    refine Go.st (mkF m 139 #[.val (.int p0), .val (.int p1), .val (.int p2), .val (.int p3), .val (.int p4), .val (.int (1 : Int32)), .val (.int (v_a p1)), .val (.int (v_b p2)), .val (.int (v_c p3)), .val (.int (v_d p4)), .val (.ref b_12), .val (.ref b13), .val (.long ((0 : Int64) + ((v_a p1).toInt64))), .second] [(.int (cmpL (((0 : Int32) + (v_a p1)).toInt64) ((0 : Int64) + ((v_a p1).toInt64))))]) (fun _ k => XT.lcmp X30.here hx rfl (hb hby at_138) rfl k) ?_
    refine Go.st (mkF m 142 #[.val (.int p0), .val (.int p1), .val (.int p2), .val (.int p3), .val (.int p4), .val (.int (1 : Int32)), .val (.int (v_a p1)), .val (.int (v_b p2)), .val (.int (v_c p3)), .val (.int (v_d p4)), .val (.ref b_12), .val (.ref b13), .val (.long ((0 : Int64) + ((v_a p1).toInt64))), .second] []) (fun _ k => XS.ifNo X30.here hx rfl (hb hby at_139) rfl (own_leT (own_t1 (own_ma _))).2 k) ?_
    refine Go.st (mkF m 143 #[.val (.int p0), .val (.int p1), .val (.int p2), .val (.int p3), .val (.int p4), .val (.int (1 : Int32)), .val (.int (v_a p1)), .val (.int (v_b p2)), .val (.int (v_c p3)), .val (.int (v_d p4)), .val (.ref b_12), .val (.ref b13), .val (.long ((0 : Int64) + ((v_a p1).toInt64))), .second] [(.int (1 : Int32))]) (fun _ k => XS.iconst X30.here hx rfl (hb hby at_142) k) ?_
    refine Go.st (mkF m 147 #[.val (.int p0), .val (.int p1), .val (.int p2), .val (.int p3), .val (.int p4), .val (.int (1 : Int32)), .val (.int (v_a p1)), .val (.int (v_b p2)), .val (.int (v_c p3)), .val (.int (v_d p4)), .val (.ref b_12), .val (.ref b13), .val (.long ((0 : Int64) + ((v_a p1).toInt64))), .second] [(.int (1 : Int32))]) (fun _ k => XS.goto X30.here hx rfl (pc0 := 143) (pc' := 147) rfl (hb hby at_143) (by decide) (by decide) k) ?_
    exact Go.retZ X30 hx Bd.notSynchronized (t := .boolean) (by simp) Bd.returns (hb hby at_147) (by rw [e30]; exact ⟨rfl, N30, K22⟩) (by decide) (by decide)
  ·
    rw [hk]
    refine Go.st (mkF m 9 #[.val (.int p0), .val (.int p1), .val (.int p2), .val (.int p3), .val (.int p4), .val (.int (2 : Int32)), .unset, .unset, .unset, .unset, .unset, .unset, .unset, .unset] [(.int p1)]) (fun _ k => XS.iloadN X0.here hx rfl (hb hby at_8) rfl k) ?_
    refine Go.st (mkF m 11 #[.val (.int p0), .val (.int p1), .val (.int p2), .val (.int p3), .val (.int p4), .val (.int (2 : Int32)), .unset, .unset, .unset, .unset, .unset, .unset, .unset, .unset] [(.int (536870911 : Int32)), (.int p1)]) (fun _ k => X0.ldcInt hx hown (mvT hZ (hw _ (List.mem_of_getElem? (i := 1) rfl))) (g := (mkF m 9 #[.val (.int p0), .val (.int p1), .val (.int p2), .val (.int p3), .val (.int p4), .val (.int (2 : Int32)), .unset, .unset, .unset, .unset, .unset, .unset, .unset, .unset] [(.int p1)])) rfl (hb hby at_9) _ k) ?_
    refine Go.st (mkF m 12 #[.val (.int p0), .val (.int p1), .val (.int p2), .val (.int p3), .val (.int p4), .val (.int (2 : Int32)), .unset, .unset, .unset, .unset, .unset, .unset, .unset, .unset] [(.int (p1 &&& (536870911 : Int32)))]) (fun _ k => XS.iand X0.here hx rfl (hb hby at_11) rfl k) ?_
    refine Go.st (mkF m 14 #[.val (.int p0), .val (.int p1), .val (.int p2), .val (.int p3), .val (.int p4), .val (.int (2 : Int32)), .val (.int (v_a p1)), .unset, .unset, .unset, .unset, .unset, .unset, .unset] []) (fun _ k => XS.istore X0.here hx rfl (hb hby at_12) rfl (l' := #[.val (.int p0), .val (.int p1), .val (.int p2), .val (.int p3), .val (.int p4), .val (.int (2 : Int32)), .val (.int (v_a p1)), .unset, .unset, .unset, .unset, .unset, .unset, .unset]) rfl k) ?_
    refine Go.st (mkF m 15 #[.val (.int p0), .val (.int p1), .val (.int p2), .val (.int p3), .val (.int p4), .val (.int (2 : Int32)), .val (.int (v_a p1)), .unset, .unset, .unset, .unset, .unset, .unset, .unset] [(.int p2)]) (fun _ k => XS.iloadN X0.here hx rfl (hb hby at_14) rfl k) ?_
    refine Go.st (mkF m 17 #[.val (.int p0), .val (.int p1), .val (.int p2), .val (.int p3), .val (.int p4), .val (.int (2 : Int32)), .val (.int (v_a p1)), .unset, .unset, .unset, .unset, .unset, .unset, .unset] [(.int (536870911 : Int32)), (.int p2)]) (fun _ k => X0.ldcInt hx hown (mvT hZ (hw _ (List.mem_of_getElem? (i := 1) rfl))) (g := (mkF m 15 #[.val (.int p0), .val (.int p1), .val (.int p2), .val (.int p3), .val (.int p4), .val (.int (2 : Int32)), .val (.int (v_a p1)), .unset, .unset, .unset, .unset, .unset, .unset, .unset] [(.int p2)])) rfl (hb hby at_15) _ k) ?_
    refine Go.st (mkF m 18 #[.val (.int p0), .val (.int p1), .val (.int p2), .val (.int p3), .val (.int p4), .val (.int (2 : Int32)), .val (.int (v_a p1)), .unset, .unset, .unset, .unset, .unset, .unset, .unset] [(.int (p2 &&& (536870911 : Int32)))]) (fun _ k => XS.iand X0.here hx rfl (hb hby at_17) rfl k) ?_
    refine Go.st (mkF m 20 #[.val (.int p0), .val (.int p1), .val (.int p2), .val (.int p3), .val (.int p4), .val (.int (2 : Int32)), .val (.int (v_a p1)), .val (.int (v_b p2)), .unset, .unset, .unset, .unset, .unset, .unset] []) (fun _ k => XS.istore X0.here hx rfl (hb hby at_18) rfl (l' := #[.val (.int p0), .val (.int p1), .val (.int p2), .val (.int p3), .val (.int p4), .val (.int (2 : Int32)), .val (.int (v_a p1)), .val (.int (v_b p2)), .unset, .unset, .unset, .unset, .unset, .unset]) rfl k) ?_
    refine Go.st (mkF m 21 #[.val (.int p0), .val (.int p1), .val (.int p2), .val (.int p3), .val (.int p4), .val (.int (2 : Int32)), .val (.int (v_a p1)), .val (.int (v_b p2)), .unset, .unset, .unset, .unset, .unset, .unset] [(.int p3)]) (fun _ k => XS.iloadN X0.here hx rfl (hb hby at_20) rfl k) ?_
    refine Go.st (mkF m 23 #[.val (.int p0), .val (.int p1), .val (.int p2), .val (.int p3), .val (.int p4), .val (.int (2 : Int32)), .val (.int (v_a p1)), .val (.int (v_b p2)), .unset, .unset, .unset, .unset, .unset, .unset] [(.int (536870911 : Int32)), (.int p3)]) (fun _ k => X0.ldcInt hx hown (mvT hZ (hw _ (List.mem_of_getElem? (i := 1) rfl))) (g := (mkF m 21 #[.val (.int p0), .val (.int p1), .val (.int p2), .val (.int p3), .val (.int p4), .val (.int (2 : Int32)), .val (.int (v_a p1)), .val (.int (v_b p2)), .unset, .unset, .unset, .unset, .unset, .unset] [(.int p3)])) rfl (hb hby at_21) _ k) ?_
    refine Go.st (mkF m 24 #[.val (.int p0), .val (.int p1), .val (.int p2), .val (.int p3), .val (.int p4), .val (.int (2 : Int32)), .val (.int (v_a p1)), .val (.int (v_b p2)), .unset, .unset, .unset, .unset, .unset, .unset] [(.int (p3 &&& (536870911 : Int32)))]) (fun _ k => XS.iand X0.here hx rfl (hb hby at_23) rfl k) ?_
    refine Go.st (mkF m 26 #[.val (.int p0), .val (.int p1), .val (.int p2), .val (.int p3), .val (.int p4), .val (.int (2 : Int32)), .val (.int (v_a p1)), .val (.int (v_b p2)), .val (.int (v_c p3)), .unset, .unset, .unset, .unset, .unset] []) (fun _ k => XS.istore X0.here hx rfl (hb hby at_24) rfl (l' := #[.val (.int p0), .val (.int p1), .val (.int p2), .val (.int p3), .val (.int p4), .val (.int (2 : Int32)), .val (.int (v_a p1)), .val (.int (v_b p2)), .val (.int (v_c p3)), .unset, .unset, .unset, .unset, .unset]) rfl k) ?_
    refine Go.st (mkF m 28 #[.val (.int p0), .val (.int p1), .val (.int p2), .val (.int p3), .val (.int p4), .val (.int (2 : Int32)), .val (.int (v_a p1)), .val (.int (v_b p2)), .val (.int (v_c p3)), .unset, .unset, .unset, .unset, .unset] [(.int p4)]) (fun _ k => XS.iload X0.here hx rfl (hb hby at_26) rfl k) ?_
    refine Go.st (mkF m 30 #[.val (.int p0), .val (.int p1), .val (.int p2), .val (.int p3), .val (.int p4), .val (.int (2 : Int32)), .val (.int (v_a p1)), .val (.int (v_b p2)), .val (.int (v_c p3)), .unset, .unset, .unset, .unset, .unset] [(.int (536870911 : Int32)), (.int p4)]) (fun _ k => X0.ldcInt hx hown (mvT hZ (hw _ (List.mem_of_getElem? (i := 1) rfl))) (g := (mkF m 28 #[.val (.int p0), .val (.int p1), .val (.int p2), .val (.int p3), .val (.int p4), .val (.int (2 : Int32)), .val (.int (v_a p1)), .val (.int (v_b p2)), .val (.int (v_c p3)), .unset, .unset, .unset, .unset, .unset] [(.int p4)])) rfl (hb hby at_28) _ k) ?_
    refine Go.st (mkF m 31 #[.val (.int p0), .val (.int p1), .val (.int p2), .val (.int p3), .val (.int p4), .val (.int (2 : Int32)), .val (.int (v_a p1)), .val (.int (v_b p2)), .val (.int (v_c p3)), .unset, .unset, .unset, .unset, .unset] [(.int (p4 &&& (536870911 : Int32)))]) (fun _ k => XS.iand X0.here hx rfl (hb hby at_30) rfl k) ?_
    refine Go.st (mkF m 33 #[.val (.int p0), .val (.int p1), .val (.int p2), .val (.int p3), .val (.int p4), .val (.int (2 : Int32)), .val (.int (v_a p1)), .val (.int (v_b p2)), .val (.int (v_c p3)), .val (.int (v_d p4)), .unset, .unset, .unset, .unset] []) (fun _ k => XS.istore X0.here hx rfl (hb hby at_31) rfl (l' := #[.val (.int p0), .val (.int p1), .val (.int p2), .val (.int p3), .val (.int p4), .val (.int (2 : Int32)), .val (.int (v_a p1)), .val (.int (v_b p2)), .val (.int (v_c p3)), .val (.int (v_d p4)), .unset, .unset, .unset, .unset]) rfl k) ?_
    refine Go.st (mkF m 35 #[.val (.int p0), .val (.int p1), .val (.int p2), .val (.int p3), .val (.int p4), .val (.int (2 : Int32)), .val (.int (v_a p1)), .val (.int (v_b p2)), .val (.int (v_c p3)), .val (.int (v_d p4)), .unset, .unset, .unset, .unset] [(.int (2 : Int32))]) (fun _ k => XS.iload X0.here hx rfl (hb hby at_33) rfl k) ?_
    refine Go.st (mkF m 37 #[.val (.int p0), .val (.int p1), .val (.int p2), .val (.int p3), .val (.int p4), .val (.int (2 : Int32)), .val (.int (v_a p1)), .val (.int (v_b p2)), .val (.int (v_c p3)), .val (.int (v_d p4)), .unset, .unset, .unset, .unset] [(.int (v_a p1)), (.int (2 : Int32))]) (fun _ k => XS.iload X0.here hx rfl (hb hby at_35) rfl k) ?_
    refine Go.st (mkF m 39 #[.val (.int p0), .val (.int p1), .val (.int p2), .val (.int p3), .val (.int p4), .val (.int (2 : Int32)), .val (.int (v_a p1)), .val (.int (v_b p2)), .val (.int (v_c p3)), .val (.int (v_d p4)), .unset, .unset, .unset, .unset] [(.int (v_b p2)), (.int (v_a p1)), (.int (2 : Int32))]) (fun _ k => XS.iload X0.here hx rfl (hb hby at_37) rfl k) ?_
    refine Go.st (mkF m 41 #[.val (.int p0), .val (.int p1), .val (.int p2), .val (.int p3), .val (.int p4), .val (.int (2 : Int32)), .val (.int (v_a p1)), .val (.int (v_b p2)), .val (.int (v_c p3)), .val (.int (v_d p4)), .unset, .unset, .unset, .unset] [(.int (v_c p3)), (.int (v_b p2)), (.int (v_a p1)), (.int (2 : Int32))]) (fun _ k => XS.iload X0.here hx rfl (hb hby at_39) rfl k) ?_
    refine Go.st (mkF m 43 #[.val (.int p0), .val (.int p1), .val (.int p2), .val (.int p3), .val (.int p4), .val (.int (2 : Int32)), .val (.int (v_a p1)), .val (.int (v_b p2)), .val (.int (v_c p3)), .val (.int (v_d p4)), .unset, .unset, .unset, .unset] [(.int (v_d p4)), (.int (v_c p3)), (.int (v_b p2)), (.int (v_a p1)), (.int (2 : Int32))]) (fun _ k => XS.iload X0.here hx rfl (hb hby at_41) rfl k) ?_
    obtain ⟨_, _, ⟨T31, L31, k31, n31⟩, -, X31, ⟨Lc31, hQ31, l31, y31, z31⟩, st31⟩ := Jvm.LawKit.callS X0 hx (y := (⟨"com/example/regular_role_reasoner/regularrolereasoner/alcoif/ElementsTotalPinLaw", "build", "(IIIII)[I"⟩ : MethodName)) hown (mvT hZ (hw _ (List.mem_of_getElem? (i := 2) rfl))) (mvT hZ (hw _ (List.mem_of_getElem? (i := 3) rfl))) (mvT hZ (hw _ (List.mem_of_getElem? (i := 4) rfl))) (mvT hZ (hw _ (List.mem_of_getElem? (i := 5) rfl))) (by decide) (backOf (W := 0) (rm_12 l Z a0 hw [] (v_a p1) (v_b p2) (v_c p3) (v_d p4) h0 n0 (Nat.le_trans Z0 K0.1)) hZ (hw _ (List.mem_of_getElem? (i := 5) rfl)) (hw _ (List.mem_of_getElem? (i := 4) rfl)) (by decide) (by decide)) (g := (mkF m 43 #[.val (.int p0), .val (.int p1), .val (.int p2), .val (.int p3), .val (.int p4), .val (.int (2 : Int32)), .val (.int (v_a p1)), .val (.int (v_b p2)), .val (.int (v_c p3)), .val (.int (v_d p4)), .unset, .unset, .unset, .unset] [(.int (v_d p4)), (.int (v_c p3)), (.int (v_b p2)), (.int (v_a p1)), (.int (2 : Int32))])) rfl (by rw [hml]; rfl) (argsL := [(.int (2 : Int32)), (.int (v_a p1)), (.int (v_b p2)), (.int (v_c p3)), (.int (v_d p4))]) (rest := []) (lenOf pd_1 rfl) rfl (by show 2 * 0 + _ ≤ _; exact Nat.le_of_eq rfl) (hb hby at_43) (fun _ _ => ⟨rfl, e0, (by decide : 0 + 1 ≤ _), (by decide : 0 + 2 ≤ _)⟩)
    dsimp only [Pt.U, Pt.locs, Pt.cells, Pt.slots] at X31 l31 y31 z31 st31 hQ31
    subst l31 y31 z31
    obtain ⟨b_31, rfl, N31q, K31q, P31_0, E31_1, V31_2⟩ := hQ31
    have N31 := Fr.app N0 N31q
    have sz_b_31 : h0.size ≤ b_31 := Nat.le_trans K0.1 P31_0
    have g_b_31 : n0 ≤ b_31 := Nat.le_trans Z0 sz_b_31
    have K31 : Keep h0 T31.heap [] := K0.trans K31q all0
    refine Go.st (mkF m 46 #[.val (.int p0), .val (.int p1), .val (.int p2), .val (.int p3), .val (.int p4), .val (.int (2 : Int32)), .val (.int (v_a p1)), .val (.int (v_b p2)), .val (.int (v_c p3)), .val (.int (v_d p4)), .unset, .unset, .unset, .unset] [(.ref b_31)]) (fun _ k => st31 _ k) ?_
    refine Go.st (mkF m 48 #[.val (.int p0), .val (.int p1), .val (.int p2), .val (.int p3), .val (.int p4), .val (.int (2 : Int32)), .val (.int (v_a p1)), .val (.int (v_b p2)), .val (.int (v_c p3)), .val (.int (v_d p4)), .val (.ref b_31), .unset, .unset, .unset] []) (fun _ k => XS.astore X31.here hx rfl (hb hby at_46) rfl rfl (l' := #[.val (.int p0), .val (.int p1), .val (.int p2), .val (.int p3), .val (.int p4), .val (.int (2 : Int32)), .val (.int (v_a p1)), .val (.int (v_b p2)), .val (.int (v_c p3)), .val (.int (v_d p4)), .val (.ref b_31), .unset, .unset, .unset]) rfl k) ?_
    obtain ⟨T32, h32, X32, e32, E32, A32, D32, -, st32⟩ := newO X31 hx hZ hown (hw _ (List.mem_of_getElem? (i := 7) rfl)) (hw _ (List.mem_of_getElem? (i := 8) rfl)) (hw _ (List.mem_of_getElem? (i := 9) rfl)) rfl (g := (mkF m 48 #[.val (.int p0), .val (.int p1), .val (.int p2), .val (.int p3), .val (.int p4), .val (.int (2 : Int32)), .val (.int (v_a p1)), .val (.int (v_b p2)), .val (.int (v_c p3)), .val (.int (v_d p4)), .val (.ref b_31), .unset, .unset, .unset] [])) rfl (hb hby at_48) (by decide) (by decide)
    obtain ⟨b32, q32⟩ : ∃ z, z = T31.heap.size := ⟨_, rfl⟩
    rw [← q32] at A32 D32 st32
    have sz_b32 : h0.size ≤ b32 := by rw [q32]; exact K31.1
    have g_b32 : n0 ≤ b32 := Nat.le_trans Z0 sz_b32
    have ne_b_31_b32 : b_31 ≠ b32 := Nat.ne_of_lt (by rw [q32]; exact E31_1.lt)
    have E33q : Exa Z h32 b_31 "[I" := E31_1.ext E32
    have V34 : Ary Z h32 b_31 .int 2 (lst [(.int (v_a p1)), (.int (v_b p2))]) := V31_2.ext E32
    have K32 : Keep h0 h32 [] := K31.ext E32
    have F35 : Fld Z h32 b32 "com/example/regular_role_reasoner/regularrolereasoner/alcoif/Elements" "sizes" "[I" .null := D32 (Or.inr (hw _ (List.mem_of_getElem? (i := 26) rfl))) (ty := (.array .int)) (by decide)
    have F36 : Fld Z h32 b32 "com/example/regular_role_reasoner/regularrolereasoner/alcoif/Elements" "first" "[I" .null := D32 (Or.inr (hw _ (List.mem_of_getElem? (i := 28) rfl))) (ty := (.array .int)) (by decide)
    refine Go.st (mkF m 51 #[.val (.int p0), .val (.int p1), .val (.int p2), .val (.int p3), .val (.int p4), .val (.int (2 : Int32)), .val (.int (v_a p1)), .val (.int (v_b p2)), .val (.int (v_c p3)), .val (.int (v_d p4)), .val (.ref b_31), .unset, .unset, .unset] [(.ref b32)]) (fun _ k => st32 _ k) ?_
    refine Go.st (mkF m 52 #[.val (.int p0), .val (.int p1), .val (.int p2), .val (.int p3), .val (.int p4), .val (.int (2 : Int32)), .val (.int (v_a p1)), .val (.int (v_b p2)), .val (.int (v_c p3)), .val (.int (v_d p4)), .val (.ref b_31), .unset, .unset, .unset] [(.ref b32), (.ref b32)]) (fun _ k => XS.dup X32.here hx rfl (hb hby at_51) rfl rfl k) ?_
    refine Go.st (mkF m 54 #[.val (.int p0), .val (.int p1), .val (.int p2), .val (.int p3), .val (.int p4), .val (.int (2 : Int32)), .val (.int (v_a p1)), .val (.int (v_b p2)), .val (.int (v_c p3)), .val (.int (v_d p4)), .val (.ref b_31), .unset, .unset, .unset] [(.ref b_31), (.ref b32), (.ref b32)]) (fun _ k => XS.aload X32.here hx rfl (hb hby at_52) rfl rfl k) ?_
    obtain ⟨_, _, ⟨T37, L37, k37, n37⟩, -, X37, ⟨Lc37, hQ37, l37, y37, z37⟩, st37⟩ := X32.specialBack hx (y := (⟨"com/example/regular_role_reasoner/regularrolereasoner/alcoif/Elements", "<init>", "([I)V"⟩ : MethodName)) rfl hown (mvT hZ (hw _ (List.mem_of_getElem? (i := 10) rfl))) (mvT hZ (hw _ (List.mem_of_getElem? (i := 11) rfl))) (mvT hZ (hw _ (List.mem_of_getElem? (i := 12) rfl))) (by decide) (backOf (W := 1) (rm_22 l Z a0 hw [] b32 b_31 (v_a p1) (v_b p2) h32 n0 (Nat.le_trans Z0 K32.1) A32 F35 F36 V34 E33q g_b32 (Ne.symm ne_b_31_b32) (own_ma _) (own_mb _)) hZ (hw _ (List.mem_of_getElem? (i := 12) rfl)) (hw _ (List.mem_of_getElem? (i := 9) rfl)) (by decide) (by decide)) (g := (mkF m 54 #[.val (.int p0), .val (.int p1), .val (.int p2), .val (.int p3), .val (.int p4), .val (.int (2 : Int32)), .val (.int (v_a p1)), .val (.int (v_b p2)), .val (.int (v_c p3)), .val (.int (v_d p4)), .val (.ref b_31), .unset, .unset, .unset] [(.ref b_31), (.ref b32), (.ref b32)])) rfl (by rw [hml]; rfl) (Steps.refl _) (a := b32) (argsL := [(.ref b_31)]) (rest := [(.ref b32)]) (lenOf pd_2 rfl) rfl (by show 2 * 0 + _ ≤ _; exact Nat.le_of_eq rfl) (hb hby at_54) (fun _ _ => ⟨rfl, e32, (by decide : 2 + 2 ≤ _), (by decide : 4 + 4 ≤ _)⟩)
    dsimp only [Pt.U, Pt.locs, Pt.cells, Pt.slots] at X37 l37 y37 z37 st37 hQ37
    subst l37 y37 z37
    obtain ⟨b1_37, b2_37, rfl, N37q, K37q, P37_0, P37_1, F37_2, F37_3, V37_4, V37_5⟩ := hQ37
    have N37 := Fr.app N31 N37q
    have sz_b1_37 : h0.size ≤ b1_37 := Nat.le_trans K32.1 P37_0
    have g_b1_37 : n0 ≤ b1_37 := Nat.le_trans Z0 sz_b1_37
    have ne_b_31_b1_37 : b_31 ≠ b1_37 := Nat.ne_of_lt (Nat.lt_of_lt_of_le E33q.lt P37_0)
    have ne_b32_b1_37 : b32 ≠ b1_37 := Nat.ne_of_lt (Nat.lt_of_lt_of_le A32.lt P37_0)
    have sz_b2_37 : h0.size ≤ b2_37 := Nat.le_trans K32.1 P37_1
    have g_b2_37 : n0 ≤ b2_37 := Nat.le_trans Z0 sz_b2_37
    have ne_b_31_b2_37 : b_31 ≠ b2_37 := Nat.ne_of_lt (Nat.lt_of_lt_of_le E33q.lt P37_1)
    have ne_b32_b2_37 : b32 ≠ b2_37 := Nat.ne_of_lt (Nat.lt_of_lt_of_le A32.lt P37_1)
    have E38q : Exa Z T37.heap b_31 "[I" := E33q.keep K37q
    have V39 : Ary Z T37.heap b_31 .int 2 (lst [(.int (v_a p1)), (.int (v_b p2))]) := V34.keep K37q (ninS ne_b_31_b32 nin0)
    have E40q : Exa Z T37.heap b32 "com/example/regular_role_reasoner/regularrolereasoner/alcoif/Elements" := A32.keep K37q
    have K37 : Keep h0 T37.heap [] := K32.trans K37q (allS (Or.inr sz_b32) all0)
    refine Go.st (mkF m 57 #[.val (.int p0), .val (.int p1), .val (.int p2), .val (.int p3), .val (.int p4), .val (.int (2 : Int32)), .val (.int (v_a p1)), .val (.int (v_b p2)), .val (.int (v_c p3)), .val (.int (v_d p4)), .val (.ref b_31), .unset, .unset, .unset] [(.ref b32)]) (fun _ k => st37.trans k) ?_
    refine Go.st (mkF m 59 #[.val (.int p0), .val (.int p1), .val (.int p2), .val (.int p3), .val (.int p4), .val (.int (2 : Int32)), .val (.int (v_a p1)), .val (.int (v_b p2)), .val (.int (v_c p3)), .val (.int (v_d p4)), .val (.ref b_31), .val (.ref b32), .unset, .unset] []) (fun _ k => XS.astore X37.here hx rfl (hb hby at_57) rfl rfl (l' := #[.val (.int p0), .val (.int p1), .val (.int p2), .val (.int p3), .val (.int p4), .val (.int (2 : Int32)), .val (.int (v_a p1)), .val (.int (v_b p2)), .val (.int (v_c p3)), .val (.int (v_d p4)), .val (.ref b_31), .val (.ref b32), .unset, .unset]) rfl k) ?_
    refine Go.st (mkF m 61 #[.val (.int p0), .val (.int p1), .val (.int p2), .val (.int p3), .val (.int p4), .val (.int (2 : Int32)), .val (.int (v_a p1)), .val (.int (v_b p2)), .val (.int (v_c p3)), .val (.int (v_d p4)), .val (.ref b_31), .val (.ref b32), .unset, .unset] [(.int (2 : Int32))]) (fun _ k => XS.iload X37.here hx rfl (hb hby at_59) rfl k) ?_
    refine Go.st (mkF m 64 #[.val (.int p0), .val (.int p1), .val (.int p2), .val (.int p3), .val (.int p4), .val (.int (2 : Int32)), .val (.int (v_a p1)), .val (.int (v_b p2)), .val (.int (v_c p3)), .val (.int (v_d p4)), .val (.ref b_31), .val (.ref b32), .unset, .unset] []) (fun _ k => XS.ifNo X37.here hx rfl (hb hby at_61) rfl ((if0 _ _).trans (tlt (by decide : (0 : Int32) < (2 : Int32))).2.2.2) k) ?_
    refine Go.st (mkF m 66 #[.val (.int p0), .val (.int p1), .val (.int p2), .val (.int p3), .val (.int p4), .val (.int (2 : Int32)), .val (.int (v_a p1)), .val (.int (v_b p2)), .val (.int (v_c p3)), .val (.int (v_d p4)), .val (.ref b_31), .val (.ref b32), .unset, .unset] [(.ref b_31)]) (fun _ k => XS.aload X37.here hx rfl (hb hby at_64) rfl rfl k) ?_
    refine Go.st (mkF m 68 #[.val (.int p0), .val (.int p1), .val (.int p2), .val (.int p3), .val (.int p4), .val (.int (2 : Int32)), .val (.int (v_a p1)), .val (.int (v_b p2)), .val (.int (v_c p3)), .val (.int (v_d p4)), .val (.ref b_31), .val (.ref b32), .unset, .unset] [(.int (2 : Int32)), (.ref b_31)]) (fun _ k => XS.iload X37.here hx rfl (hb hby at_66) rfl k) ?_
    refine Go.st (mkF m 69 #[.val (.int p0), .val (.int p1), .val (.int p2), .val (.int p3), .val (.int p4), .val (.int (2 : Int32)), .val (.int (v_a p1)), .val (.int (v_b p2)), .val (.int (v_c p3)), .val (.int (v_d p4)), .val (.ref b_31), .val (.ref b32), .unset, .unset] [(.int (1 : Int32)), (.int (2 : Int32)), (.ref b_31)]) (fun _ k => XS.iconst X37.here hx rfl (hb hby at_68) k) ?_
    refine Go.st (mkF m 70 #[.val (.int p0), .val (.int p1), .val (.int p2), .val (.int p3), .val (.int p4), .val (.int (2 : Int32)), .val (.int (v_a p1)), .val (.int (v_b p2)), .val (.int (v_c p3)), .val (.int (v_d p4)), .val (.ref b_31), .val (.ref b32), .unset, .unset] [(.int (1 : Int32)), (.ref b_31)]) (fun _ k => XS.isub X37.here hx rfl (hb hby at_69) rfl k) ?_
    refine Go.st (mkF m 71 #[.val (.int p0), .val (.int p1), .val (.int p2), .val (.int p3), .val (.int p4), .val (.int (2 : Int32)), .val (.int (v_a p1)), .val (.int (v_b p2)), .val (.int (v_c p3)), .val (.int (v_d p4)), .val (.ref b_31), .val (.ref b32), .unset, .unset] [(.int (0 : Int32)), (.int (1 : Int32)), (.ref b_31)]) (fun _ k => XS.iconst X37.here hx rfl (hb hby at_70) k) ?_
    obtain ⟨T41, h41, X41, e41, W41, st41⟩ := stAI X37 hx hZ rfl V39 (i := 1) (by decide) (by decide) (by decide) (g := (mkF m 71 #[.val (.int p0), .val (.int p1), .val (.int p2), .val (.int p3), .val (.int p4), .val (.int (2 : Int32)), .val (.int (v_a p1)), .val (.int (v_b p2)), .val (.int (v_c p3)), .val (.int (v_d p4)), .val (.ref b_31), .val (.ref b32), .unset, .unset] [(.int (0 : Int32)), (.int (1 : Int32)), (.ref b_31)])) rfl rfl (hb hby at_71)
    have E42q : Exa Z h41 b_31 "[I" := E38q.wr W41
    have V43 : Ary Z h41 b_31 .int 2 (lst [(.int (v_a p1)), (.int (0 : Int32))]) := V39.sameL W41 (by simp)
    have E44q : Exa Z h41 b32 "com/example/regular_role_reasoner/regularrolereasoner/alcoif/Elements" := E40q.wr W41
    have F45 : Fld Z h41 b32 "com/example/regular_role_reasoner/regularrolereasoner/alcoif/Elements" "sizes" "[I" (.ref b1_37) := F37_2.other W41 (Or.inl (Ne.symm ne_b_31_b32))
    have F46 : Fld Z h41 b32 "com/example/regular_role_reasoner/regularrolereasoner/alcoif/Elements" "first" "[I" (.ref b2_37) := F37_3.other W41 (Or.inl (Ne.symm ne_b_31_b32))
    have V47 : Ary Z h41 b1_37 .int 2 (lst [(.int (v_a p1)), (.int (v_b p2))]) := V37_4.other W41 (Ne.symm ne_b_31_b1_37)
    have V48 : Ary Z h41 b2_37 .int 2 (lst [(.int (0 : Int32)), (.int ((0 : Int32) + (v_a p1)))]) := V37_5.other W41 (Ne.symm ne_b_31_b2_37)
    have K41 : Keep h0 h41 [] := K37.wr W41 (Or.inr sz_b_31)
    have N41 := Fr.snoc X41 N37 g_b_31
    refine Go.st (mkF m 72 #[.val (.int p0), .val (.int p1), .val (.int p2), .val (.int p3), .val (.int p4), .val (.int (2 : Int32)), .val (.int (v_a p1)), .val (.int (v_b p2)), .val (.int (v_c p3)), .val (.int (v_d p4)), .val (.ref b_31), .val (.ref b32), .unset, .unset] []) (fun _ k => st41 _ k) ?_
    refine Go.st (mkF m 73 #[.val (.int p0), .val (.int p1), .val (.int p2), .val (.int p3), .val (.int p4), .val (.int (2 : Int32)), .val (.int (v_a p1)), .val (.int (v_b p2)), .val (.int (v_c p3)), .val (.int (v_d p4)), .val (.ref b_31), .val (.ref b32), .unset, .unset] [(.long (0 : Int64))]) (fun _ k => XT.lconst X41.here hx rfl (hb hby at_72) k) ?_
    refine Go.st (mkF m 75 #[.val (.int p0), .val (.int p1), .val (.int p2), .val (.int p3), .val (.int p4), .val (.int (2 : Int32)), .val (.int (v_a p1)), .val (.int (v_b p2)), .val (.int (v_c p3)), .val (.int (v_d p4)), .val (.ref b_31), .val (.ref b32), .val (.long (0 : Int64)), .second] []) (fun _ k => XT.lstore X41.here hx rfl (hb hby at_73) rfl (l' := #[.val (.int p0), .val (.int p1), .val (.int p2), .val (.int p3), .val (.int p4), .val (.int (2 : Int32)), .val (.int (v_a p1)), .val (.int (v_b p2)), .val (.int (v_c p3)), .val (.int (v_d p4)), .val (.ref b_31), .val (.ref b32), .val (.long (0 : Int64)), .second]) rfl k) ?_
    refine Go.st (mkF m 77 #[.val (.int p0), .val (.int p1), .val (.int p2), .val (.int p3), .val (.int p4), .val (.int (2 : Int32)), .val (.int (v_a p1)), .val (.int (v_b p2)), .val (.int (v_c p3)), .val (.int (v_d p4)), .val (.ref b_31), .val (.ref b32), .val (.long (0 : Int64)), .second] [(.int (2 : Int32))]) (fun _ k => XS.iload X41.here hx rfl (hb hby at_75) rfl k) ?_
    refine Go.st (mkF m 80 #[.val (.int p0), .val (.int p1), .val (.int p2), .val (.int p3), .val (.int p4), .val (.int (2 : Int32)), .val (.int (v_a p1)), .val (.int (v_b p2)), .val (.int (v_c p3)), .val (.int (v_d p4)), .val (.ref b_31), .val (.ref b32), .val (.long (0 : Int64)), .second] []) (fun _ k => XS.ifNo X41.here hx rfl (hb hby at_77) rfl ((if0 _ _).trans (tlt (by decide : (0 : Int32) < (2 : Int32))).2.2.2) k) ?_
    refine Go.st (mkF m 82 #[.val (.int p0), .val (.int p1), .val (.int p2), .val (.int p3), .val (.int p4), .val (.int (2 : Int32)), .val (.int (v_a p1)), .val (.int (v_b p2)), .val (.int (v_c p3)), .val (.int (v_d p4)), .val (.ref b_31), .val (.ref b32), .val (.long (0 : Int64)), .second] [(.long (0 : Int64))]) (fun _ k => XT.lload X41.here hx rfl (hb hby at_80) rfl k) ?_
    refine Go.st (mkF m 84 #[.val (.int p0), .val (.int p1), .val (.int p2), .val (.int p3), .val (.int p4), .val (.int (2 : Int32)), .val (.int (v_a p1)), .val (.int (v_b p2)), .val (.int (v_c p3)), .val (.int (v_d p4)), .val (.ref b_31), .val (.ref b32), .val (.long (0 : Int64)), .second] [(.int (v_a p1)), (.long (0 : Int64))]) (fun _ k => XS.iload X41.here hx rfl (hb hby at_82) rfl k) ?_
    refine Go.st (mkF m 85 #[.val (.int p0), .val (.int p1), .val (.int p2), .val (.int p3), .val (.int p4), .val (.int (2 : Int32)), .val (.int (v_a p1)), .val (.int (v_b p2)), .val (.int (v_c p3)), .val (.int (v_d p4)), .val (.ref b_31), .val (.ref b32), .val (.long (0 : Int64)), .second] [(.long ((v_a p1).toInt64)), (.long (0 : Int64))]) (fun _ k => XT.i2l X41.here hx rfl (hb hby at_84) rfl k) ?_
    refine Go.st (mkF m 86 #[.val (.int p0), .val (.int p1), .val (.int p2), .val (.int p3), .val (.int p4), .val (.int (2 : Int32)), .val (.int (v_a p1)), .val (.int (v_b p2)), .val (.int (v_c p3)), .val (.int (v_d p4)), .val (.ref b_31), .val (.ref b32), .val (.long (0 : Int64)), .second] [(.long ((0 : Int64) + ((v_a p1).toInt64)))]) (fun _ k => XT.ladd X41.here hx rfl (hb hby at_85) rfl k) ?_
    refine Go.st (mkF m 88 #[.val (.int p0), .val (.int p1), .val (.int p2), .val (.int p3), .val (.int p4), .val (.int (2 : Int32)), .val (.int (v_a p1)), .val (.int (v_b p2)), .val (.int (v_c p3)), .val (.int (v_d p4)), .val (.ref b_31), .val (.ref b32), .val (.long ((0 : Int64) + ((v_a p1).toInt64))), .second] []) (fun _ k => XT.lstore X41.here hx rfl (hb hby at_86) rfl (l' := #[.val (.int p0), .val (.int p1), .val (.int p2), .val (.int p3), .val (.int p4), .val (.int (2 : Int32)), .val (.int (v_a p1)), .val (.int (v_b p2)), .val (.int (v_c p3)), .val (.int (v_d p4)), .val (.ref b_31), .val (.ref b32), .val (.long ((0 : Int64) + ((v_a p1).toInt64))), .second]) rfl k) ?_
    refine Go.st (mkF m 90 #[.val (.int p0), .val (.int p1), .val (.int p2), .val (.int p3), .val (.int p4), .val (.int (2 : Int32)), .val (.int (v_a p1)), .val (.int (v_b p2)), .val (.int (v_c p3)), .val (.int (v_d p4)), .val (.ref b_31), .val (.ref b32), .val (.long ((0 : Int64) + ((v_a p1).toInt64))), .second] [(.int (2 : Int32))]) (fun _ k => XS.iload X41.here hx rfl (hb hby at_88) rfl k) ?_
    refine Go.st (mkF m 91 #[.val (.int p0), .val (.int p1), .val (.int p2), .val (.int p3), .val (.int p4), .val (.int (2 : Int32)), .val (.int (v_a p1)), .val (.int (v_b p2)), .val (.int (v_c p3)), .val (.int (v_d p4)), .val (.ref b_31), .val (.ref b32), .val (.long ((0 : Int64) + ((v_a p1).toInt64))), .second] [(.int (1 : Int32)), (.int (2 : Int32))]) (fun _ k => XS.iconst X41.here hx rfl (hb hby at_90) k) ?_
    refine Go.st (mkF m 94 #[.val (.int p0), .val (.int p1), .val (.int p2), .val (.int p3), .val (.int p4), .val (.int (2 : Int32)), .val (.int (v_a p1)), .val (.int (v_b p2)), .val (.int (v_c p3)), .val (.int (v_d p4)), .val (.ref b_31), .val (.ref b32), .val (.long ((0 : Int64) + ((v_a p1).toInt64))), .second] []) (fun _ k => XS.icmpNo X41.here hx rfl (hb hby at_91) rfl (tlt (by decide : (1 : Int32) < (2 : Int32))).2.2.2 k) ?_
    refine Go.st (mkF m 96 #[.val (.int p0), .val (.int p1), .val (.int p2), .val (.int p3), .val (.int p4), .val (.int (2 : Int32)), .val (.int (v_a p1)), .val (.int (v_b p2)), .val (.int (v_c p3)), .val (.int (v_d p4)), .val (.ref b_31), .val (.ref b32), .val (.long ((0 : Int64) + ((v_a p1).toInt64))), .second] [(.long ((0 : Int64) + ((v_a p1).toInt64)))]) (fun _ k => XT.lload X41.here hx rfl (hb hby at_94) rfl k) ?_
    refine Go.st (mkF m 98 #[.val (.int p0), .val (.int p1), .val (.int p2), .val (.int p3), .val (.int p4), .val (.int (2 : Int32)), .val (.int (v_a p1)), .val (.int (v_b p2)), .val (.int (v_c p3)), .val (.int (v_d p4)), .val (.ref b_31), .val (.ref b32), .val (.long ((0 : Int64) + ((v_a p1).toInt64))), .second] [(.int (v_b p2)), (.long ((0 : Int64) + ((v_a p1).toInt64)))]) (fun _ k => XS.iload X41.here hx rfl (hb hby at_96) rfl k) ?_
    refine Go.st (mkF m 99 #[.val (.int p0), .val (.int p1), .val (.int p2), .val (.int p3), .val (.int p4), .val (.int (2 : Int32)), .val (.int (v_a p1)), .val (.int (v_b p2)), .val (.int (v_c p3)), .val (.int (v_d p4)), .val (.ref b_31), .val (.ref b32), .val (.long ((0 : Int64) + ((v_a p1).toInt64))), .second] [(.long ((v_b p2).toInt64)), (.long ((0 : Int64) + ((v_a p1).toInt64)))]) (fun _ k => XT.i2l X41.here hx rfl (hb hby at_98) rfl k) ?_
    refine Go.st (mkF m 100 #[.val (.int p0), .val (.int p1), .val (.int p2), .val (.int p3), .val (.int p4), .val (.int (2 : Int32)), .val (.int (v_a p1)), .val (.int (v_b p2)), .val (.int (v_c p3)), .val (.int (v_d p4)), .val (.ref b_31), .val (.ref b32), .val (.long ((0 : Int64) + ((v_a p1).toInt64))), .second] [(.long (((0 : Int64) + ((v_a p1).toInt64)) + ((v_b p2).toInt64)))]) (fun _ k => XT.ladd X41.here hx rfl (hb hby at_99) rfl k) ?_
    refine Go.st (mkF m 102 #[.val (.int p0), .val (.int p1), .val (.int p2), .val (.int p3), .val (.int p4), .val (.int (2 : Int32)), .val (.int (v_a p1)), .val (.int (v_b p2)), .val (.int (v_c p3)), .val (.int (v_d p4)), .val (.ref b_31), .val (.ref b32), .val (.long (((0 : Int64) + ((v_a p1).toInt64)) + ((v_b p2).toInt64))), .second] []) (fun _ k => XT.lstore X41.here hx rfl (hb hby at_100) rfl (l' := #[.val (.int p0), .val (.int p1), .val (.int p2), .val (.int p3), .val (.int p4), .val (.int (2 : Int32)), .val (.int (v_a p1)), .val (.int (v_b p2)), .val (.int (v_c p3)), .val (.int (v_d p4)), .val (.ref b_31), .val (.ref b32), .val (.long (((0 : Int64) + ((v_a p1).toInt64)) + ((v_b p2).toInt64))), .second]) rfl k) ?_
    refine Go.st (mkF m 104 #[.val (.int p0), .val (.int p1), .val (.int p2), .val (.int p3), .val (.int p4), .val (.int (2 : Int32)), .val (.int (v_a p1)), .val (.int (v_b p2)), .val (.int (v_c p3)), .val (.int (v_d p4)), .val (.ref b_31), .val (.ref b32), .val (.long (((0 : Int64) + ((v_a p1).toInt64)) + ((v_b p2).toInt64))), .second] [(.int (2 : Int32))]) (fun _ k => XS.iload X41.here hx rfl (hb hby at_102) rfl k) ?_
    refine Go.st (mkF m 105 #[.val (.int p0), .val (.int p1), .val (.int p2), .val (.int p3), .val (.int p4), .val (.int (2 : Int32)), .val (.int (v_a p1)), .val (.int (v_b p2)), .val (.int (v_c p3)), .val (.int (v_d p4)), .val (.ref b_31), .val (.ref b32), .val (.long (((0 : Int64) + ((v_a p1).toInt64)) + ((v_b p2).toInt64))), .second] [(.int (2 : Int32)), (.int (2 : Int32))]) (fun _ k => XS.iconst X41.here hx rfl (hb hby at_104) k) ?_
    refine Go.st (mkF m 116 #[.val (.int p0), .val (.int p1), .val (.int p2), .val (.int p3), .val (.int p4), .val (.int (2 : Int32)), .val (.int (v_a p1)), .val (.int (v_b p2)), .val (.int (v_c p3)), .val (.int (v_d p4)), .val (.ref b_31), .val (.ref b32), .val (.long (((0 : Int64) + ((v_a p1).toInt64)) + ((v_b p2).toInt64))), .second] []) (fun _ k => XS.icmpYes X41.here hx rfl (pc0 := 105) (pc' := 116) rfl (hb hby at_105) rfl (flt (by decide : ¬ ((2 : Int32) < (2 : Int32)))).2.2.2 (by decide) (by decide) k) ?_
    refine Go.st (mkF m 118 #[.val (.int p0), .val (.int p1), .val (.int p2), .val (.int p3), .val (.int p4), .val (.int (2 : Int32)), .val (.int (v_a p1)), .val (.int (v_b p2)), .val (.int (v_c p3)), .val (.int (v_d p4)), .val (.ref b_31), .val (.ref b32), .val (.long (((0 : Int64) + ((v_a p1).toInt64)) + ((v_b p2).toInt64))), .second] [(.int (2 : Int32))]) (fun _ k => XS.iload X41.here hx rfl (hb hby at_116) rfl k) ?_
    refine Go.st (mkF m 119 #[.val (.int p0), .val (.int p1), .val (.int p2), .val (.int p3), .val (.int p4), .val (.int (2 : Int32)), .val (.int (v_a p1)), .val (.int (v_b p2)), .val (.int (v_c p3)), .val (.int (v_d p4)), .val (.ref b_31), .val (.ref b32), .val (.long (((0 : Int64) + ((v_a p1).toInt64)) + ((v_b p2).toInt64))), .second] [(.int (3 : Int32)), (.int (2 : Int32))]) (fun _ k => XS.iconst X41.here hx rfl (hb hby at_118) k) ?_
    refine Go.st (mkF m 130 #[.val (.int p0), .val (.int p1), .val (.int p2), .val (.int p3), .val (.int p4), .val (.int (2 : Int32)), .val (.int (v_a p1)), .val (.int (v_b p2)), .val (.int (v_c p3)), .val (.int (v_d p4)), .val (.ref b_31), .val (.ref b32), .val (.long (((0 : Int64) + ((v_a p1).toInt64)) + ((v_b p2).toInt64))), .second] []) (fun _ k => XS.icmpYes X41.here hx rfl (pc0 := 119) (pc' := 130) rfl (hb hby at_119) rfl (flt (by decide : ¬ ((3 : Int32) < (2 : Int32)))).2.2.2 (by decide) (by decide) k) ?_
    refine Go.st (mkF m 132 #[.val (.int p0), .val (.int p1), .val (.int p2), .val (.int p3), .val (.int p4), .val (.int (2 : Int32)), .val (.int (v_a p1)), .val (.int (v_b p2)), .val (.int (v_c p3)), .val (.int (v_d p4)), .val (.ref b_31), .val (.ref b32), .val (.long (((0 : Int64) + ((v_a p1).toInt64)) + ((v_b p2).toInt64))), .second] [(.ref b32)]) (fun _ k => XS.aload X41.here hx rfl (hb hby at_130) rfl rfl k) ?_
    obtain ⟨cq49, kq49, q49a, q49b, q49c⟩ := isOf hZ e41 E44q
    obtain ⟨_, _, ⟨T49, L49, k49, n49⟩, -, X49, ⟨Lc49, hQ49, l49, y49, z49⟩, st49⟩ := X41.virtualBack hx (y := (⟨"com/example/regular_role_reasoner/regularrolereasoner/alcoif/Elements", "total", "()I"⟩ : MethodName)) (z := (⟨"com/example/regular_role_reasoner/regularrolereasoner/alcoif/Elements", "total", "()I"⟩ : MethodName)) hown (mvT hZ (hw _ (List.mem_of_getElem? (i := 29) rfl))) (mvT hZ (hw _ (List.mem_of_getElem? (i := 30) rfl))) (notFace_of_selects (args := #[]) (mvT hZ (hw _ (List.mem_of_getElem? (i := 32) rfl)))) (mvT hZ (hw _ (List.mem_of_getElem? (i := 32) rfl))) (mvT hZ (hw _ (List.mem_of_getElem? (i := 31) rfl))) (by decide) (backOf (W := 0) (rm_32 l Z a0 hw [] b32 b1_37 b2_37 (v_a p1) (v_b p2) (0 : Int32) ((0 : Int32) + (v_a p1)) h41 n0 (Nat.le_trans Z0 K41.1) F45 F46 V47 V48) hZ (hw _ (List.mem_of_getElem? (i := 33) rfl)) (hw _ (List.mem_of_getElem? (i := 9) rfl)) (by decide) (by decide)) q49a q49c (g := (mkF m 132 #[.val (.int p0), .val (.int p1), .val (.int p2), .val (.int p3), .val (.int p4), .val (.int (2 : Int32)), .val (.int (v_a p1)), .val (.int (v_b p2)), .val (.int (v_c p3)), .val (.int (v_d p4)), .val (.ref b_31), .val (.ref b32), .val (.long (((0 : Int64) + ((v_a p1).toInt64)) + ((v_b p2).toInt64))), .second] [(.ref b32)])) rfl (by rw [hml]; rfl) (Steps.refl _) (argsL := []) (rest := []) (lenOf pd_3 rfl) rfl (by show 2 * 0 + _ ≤ _; exact Nat.le_of_eq rfl) (hb hby at_132) (fun _ _ => ⟨rfl, e41, (by decide : 4 + 0 ≤ _), (by decide : 8 + 0 ≤ _)⟩)
    dsimp only [Pt.U, Pt.locs, Pt.cells, Pt.slots] at X49 l49 y49 z49 st49 hQ49
    subst l49 y49 z49
    obtain ⟨rfl, N49q, e49⟩ := hQ49
    have N49 := Fr.app N41 N49q
    refine Go.st (mkF m 135 #[.val (.int p0), .val (.int p1), .val (.int p2), .val (.int p3), .val (.int p4), .val (.int (2 : Int32)), .val (.int (v_a p1)), .val (.int (v_b p2)), .val (.int (v_c p3)), .val (.int (v_d p4)), .val (.ref b_31), .val (.ref b32), .val (.long (((0 : Int64) + ((v_a p1).toInt64)) + ((v_b p2).toInt64))), .second] [(.int (((0 : Int32) + (v_a p1)) + (v_b p2)))]) (fun _ k => st49.trans k) ?_
    refine Go.st (mkF m 136 #[.val (.int p0), .val (.int p1), .val (.int p2), .val (.int p3), .val (.int p4), .val (.int (2 : Int32)), .val (.int (v_a p1)), .val (.int (v_b p2)), .val (.int (v_c p3)), .val (.int (v_d p4)), .val (.ref b_31), .val (.ref b32), .val (.long (((0 : Int64) + ((v_a p1).toInt64)) + ((v_b p2).toInt64))), .second] [(.long ((((0 : Int32) + (v_a p1)) + (v_b p2)).toInt64))]) (fun _ k => XT.i2l X49.here hx rfl (hb hby at_135) rfl k) ?_
    refine Go.st (mkF m 138 #[.val (.int p0), .val (.int p1), .val (.int p2), .val (.int p3), .val (.int p4), .val (.int (2 : Int32)), .val (.int (v_a p1)), .val (.int (v_b p2)), .val (.int (v_c p3)), .val (.int (v_d p4)), .val (.ref b_31), .val (.ref b32), .val (.long (((0 : Int64) + ((v_a p1).toInt64)) + ((v_b p2).toInt64))), .second] [(.long (((0 : Int64) + ((v_a p1).toInt64)) + ((v_b p2).toInt64))), (.long ((((0 : Int32) + (v_a p1)) + (v_b p2)).toInt64))]) (fun _ k => XT.lload X49.here hx rfl (hb hby at_136) rfl k) ?_
    refine Go.st (mkF m 139 #[.val (.int p0), .val (.int p1), .val (.int p2), .val (.int p3), .val (.int p4), .val (.int (2 : Int32)), .val (.int (v_a p1)), .val (.int (v_b p2)), .val (.int (v_c p3)), .val (.int (v_d p4)), .val (.ref b_31), .val (.ref b32), .val (.long (((0 : Int64) + ((v_a p1).toInt64)) + ((v_b p2).toInt64))), .second] [(.int (cmpL ((((0 : Int32) + (v_a p1)) + (v_b p2)).toInt64) (((0 : Int64) + ((v_a p1).toInt64)) + ((v_b p2).toInt64))))]) (fun _ k => XT.lcmp X49.here hx rfl (hb hby at_138) rfl k) ?_
    refine Go.st (mkF m 142 #[.val (.int p0), .val (.int p1), .val (.int p2), .val (.int p3), .val (.int p4), .val (.int (2 : Int32)), .val (.int (v_a p1)), .val (.int (v_b p2)), .val (.int (v_c p3)), .val (.int (v_d p4)), .val (.ref b_31), .val (.ref b32), .val (.long (((0 : Int64) + ((v_a p1).toInt64)) + ((v_b p2).toInt64))), .second] []) (fun _ k => XS.ifNo X49.here hx rfl (hb hby at_139) rfl (own_leT (own_t2 (own_ma _) (own_mb _))).2 k) ?_
    refine Go.st (mkF m 143 #[.val (.int p0), .val (.int p1), .val (.int p2), .val (.int p3), .val (.int p4), .val (.int (2 : Int32)), .val (.int (v_a p1)), .val (.int (v_b p2)), .val (.int (v_c p3)), .val (.int (v_d p4)), .val (.ref b_31), .val (.ref b32), .val (.long (((0 : Int64) + ((v_a p1).toInt64)) + ((v_b p2).toInt64))), .second] [(.int (1 : Int32))]) (fun _ k => XS.iconst X49.here hx rfl (hb hby at_142) k) ?_
    refine Go.st (mkF m 147 #[.val (.int p0), .val (.int p1), .val (.int p2), .val (.int p3), .val (.int p4), .val (.int (2 : Int32)), .val (.int (v_a p1)), .val (.int (v_b p2)), .val (.int (v_c p3)), .val (.int (v_d p4)), .val (.ref b_31), .val (.ref b32), .val (.long (((0 : Int64) + ((v_a p1).toInt64)) + ((v_b p2).toInt64))), .second] [(.int (1 : Int32))]) (fun _ k => XS.goto X49.here hx rfl (pc0 := 143) (pc' := 147) rfl (hb hby at_143) (by decide) (by decide) k) ?_
    exact Go.retZ X49 hx Bd.notSynchronized (t := .boolean) (by simp) Bd.returns (hb hby at_147) (by rw [e49]; exact ⟨rfl, N49, K41⟩) (by decide) (by decide)
  ·
    rw [hk]
    refine Go.st (mkF m 9 #[.val (.int p0), .val (.int p1), .val (.int p2), .val (.int p3), .val (.int p4), .val (.int (3 : Int32)), .unset, .unset, .unset, .unset, .unset, .unset, .unset, .unset] [(.int p1)]) (fun _ k => XS.iloadN X0.here hx rfl (hb hby at_8) rfl k) ?_
    refine Go.st (mkF m 11 #[.val (.int p0), .val (.int p1), .val (.int p2), .val (.int p3), .val (.int p4), .val (.int (3 : Int32)), .unset, .unset, .unset, .unset, .unset, .unset, .unset, .unset] [(.int (536870911 : Int32)), (.int p1)]) (fun _ k => X0.ldcInt hx hown (mvT hZ (hw _ (List.mem_of_getElem? (i := 1) rfl))) (g := (mkF m 9 #[.val (.int p0), .val (.int p1), .val (.int p2), .val (.int p3), .val (.int p4), .val (.int (3 : Int32)), .unset, .unset, .unset, .unset, .unset, .unset, .unset, .unset] [(.int p1)])) rfl (hb hby at_9) _ k) ?_
    refine Go.st (mkF m 12 #[.val (.int p0), .val (.int p1), .val (.int p2), .val (.int p3), .val (.int p4), .val (.int (3 : Int32)), .unset, .unset, .unset, .unset, .unset, .unset, .unset, .unset] [(.int (p1 &&& (536870911 : Int32)))]) (fun _ k => XS.iand X0.here hx rfl (hb hby at_11) rfl k) ?_
    refine Go.st (mkF m 14 #[.val (.int p0), .val (.int p1), .val (.int p2), .val (.int p3), .val (.int p4), .val (.int (3 : Int32)), .val (.int (v_a p1)), .unset, .unset, .unset, .unset, .unset, .unset, .unset] []) (fun _ k => XS.istore X0.here hx rfl (hb hby at_12) rfl (l' := #[.val (.int p0), .val (.int p1), .val (.int p2), .val (.int p3), .val (.int p4), .val (.int (3 : Int32)), .val (.int (v_a p1)), .unset, .unset, .unset, .unset, .unset, .unset, .unset]) rfl k) ?_
    refine Go.st (mkF m 15 #[.val (.int p0), .val (.int p1), .val (.int p2), .val (.int p3), .val (.int p4), .val (.int (3 : Int32)), .val (.int (v_a p1)), .unset, .unset, .unset, .unset, .unset, .unset, .unset] [(.int p2)]) (fun _ k => XS.iloadN X0.here hx rfl (hb hby at_14) rfl k) ?_
    refine Go.st (mkF m 17 #[.val (.int p0), .val (.int p1), .val (.int p2), .val (.int p3), .val (.int p4), .val (.int (3 : Int32)), .val (.int (v_a p1)), .unset, .unset, .unset, .unset, .unset, .unset, .unset] [(.int (536870911 : Int32)), (.int p2)]) (fun _ k => X0.ldcInt hx hown (mvT hZ (hw _ (List.mem_of_getElem? (i := 1) rfl))) (g := (mkF m 15 #[.val (.int p0), .val (.int p1), .val (.int p2), .val (.int p3), .val (.int p4), .val (.int (3 : Int32)), .val (.int (v_a p1)), .unset, .unset, .unset, .unset, .unset, .unset, .unset] [(.int p2)])) rfl (hb hby at_15) _ k) ?_
    refine Go.st (mkF m 18 #[.val (.int p0), .val (.int p1), .val (.int p2), .val (.int p3), .val (.int p4), .val (.int (3 : Int32)), .val (.int (v_a p1)), .unset, .unset, .unset, .unset, .unset, .unset, .unset] [(.int (p2 &&& (536870911 : Int32)))]) (fun _ k => XS.iand X0.here hx rfl (hb hby at_17) rfl k) ?_
    refine Go.st (mkF m 20 #[.val (.int p0), .val (.int p1), .val (.int p2), .val (.int p3), .val (.int p4), .val (.int (3 : Int32)), .val (.int (v_a p1)), .val (.int (v_b p2)), .unset, .unset, .unset, .unset, .unset, .unset] []) (fun _ k => XS.istore X0.here hx rfl (hb hby at_18) rfl (l' := #[.val (.int p0), .val (.int p1), .val (.int p2), .val (.int p3), .val (.int p4), .val (.int (3 : Int32)), .val (.int (v_a p1)), .val (.int (v_b p2)), .unset, .unset, .unset, .unset, .unset, .unset]) rfl k) ?_
    refine Go.st (mkF m 21 #[.val (.int p0), .val (.int p1), .val (.int p2), .val (.int p3), .val (.int p4), .val (.int (3 : Int32)), .val (.int (v_a p1)), .val (.int (v_b p2)), .unset, .unset, .unset, .unset, .unset, .unset] [(.int p3)]) (fun _ k => XS.iloadN X0.here hx rfl (hb hby at_20) rfl k) ?_
    refine Go.st (mkF m 23 #[.val (.int p0), .val (.int p1), .val (.int p2), .val (.int p3), .val (.int p4), .val (.int (3 : Int32)), .val (.int (v_a p1)), .val (.int (v_b p2)), .unset, .unset, .unset, .unset, .unset, .unset] [(.int (536870911 : Int32)), (.int p3)]) (fun _ k => X0.ldcInt hx hown (mvT hZ (hw _ (List.mem_of_getElem? (i := 1) rfl))) (g := (mkF m 21 #[.val (.int p0), .val (.int p1), .val (.int p2), .val (.int p3), .val (.int p4), .val (.int (3 : Int32)), .val (.int (v_a p1)), .val (.int (v_b p2)), .unset, .unset, .unset, .unset, .unset, .unset] [(.int p3)])) rfl (hb hby at_21) _ k) ?_
    refine Go.st (mkF m 24 #[.val (.int p0), .val (.int p1), .val (.int p2), .val (.int p3), .val (.int p4), .val (.int (3 : Int32)), .val (.int (v_a p1)), .val (.int (v_b p2)), .unset, .unset, .unset, .unset, .unset, .unset] [(.int (p3 &&& (536870911 : Int32)))]) (fun _ k => XS.iand X0.here hx rfl (hb hby at_23) rfl k) ?_
    refine Go.st (mkF m 26 #[.val (.int p0), .val (.int p1), .val (.int p2), .val (.int p3), .val (.int p4), .val (.int (3 : Int32)), .val (.int (v_a p1)), .val (.int (v_b p2)), .val (.int (v_c p3)), .unset, .unset, .unset, .unset, .unset] []) (fun _ k => XS.istore X0.here hx rfl (hb hby at_24) rfl (l' := #[.val (.int p0), .val (.int p1), .val (.int p2), .val (.int p3), .val (.int p4), .val (.int (3 : Int32)), .val (.int (v_a p1)), .val (.int (v_b p2)), .val (.int (v_c p3)), .unset, .unset, .unset, .unset, .unset]) rfl k) ?_
    refine Go.st (mkF m 28 #[.val (.int p0), .val (.int p1), .val (.int p2), .val (.int p3), .val (.int p4), .val (.int (3 : Int32)), .val (.int (v_a p1)), .val (.int (v_b p2)), .val (.int (v_c p3)), .unset, .unset, .unset, .unset, .unset] [(.int p4)]) (fun _ k => XS.iload X0.here hx rfl (hb hby at_26) rfl k) ?_
    refine Go.st (mkF m 30 #[.val (.int p0), .val (.int p1), .val (.int p2), .val (.int p3), .val (.int p4), .val (.int (3 : Int32)), .val (.int (v_a p1)), .val (.int (v_b p2)), .val (.int (v_c p3)), .unset, .unset, .unset, .unset, .unset] [(.int (536870911 : Int32)), (.int p4)]) (fun _ k => X0.ldcInt hx hown (mvT hZ (hw _ (List.mem_of_getElem? (i := 1) rfl))) (g := (mkF m 28 #[.val (.int p0), .val (.int p1), .val (.int p2), .val (.int p3), .val (.int p4), .val (.int (3 : Int32)), .val (.int (v_a p1)), .val (.int (v_b p2)), .val (.int (v_c p3)), .unset, .unset, .unset, .unset, .unset] [(.int p4)])) rfl (hb hby at_28) _ k) ?_
    refine Go.st (mkF m 31 #[.val (.int p0), .val (.int p1), .val (.int p2), .val (.int p3), .val (.int p4), .val (.int (3 : Int32)), .val (.int (v_a p1)), .val (.int (v_b p2)), .val (.int (v_c p3)), .unset, .unset, .unset, .unset, .unset] [(.int (p4 &&& (536870911 : Int32)))]) (fun _ k => XS.iand X0.here hx rfl (hb hby at_30) rfl k) ?_
    refine Go.st (mkF m 33 #[.val (.int p0), .val (.int p1), .val (.int p2), .val (.int p3), .val (.int p4), .val (.int (3 : Int32)), .val (.int (v_a p1)), .val (.int (v_b p2)), .val (.int (v_c p3)), .val (.int (v_d p4)), .unset, .unset, .unset, .unset] []) (fun _ k => XS.istore X0.here hx rfl (hb hby at_31) rfl (l' := #[.val (.int p0), .val (.int p1), .val (.int p2), .val (.int p3), .val (.int p4), .val (.int (3 : Int32)), .val (.int (v_a p1)), .val (.int (v_b p2)), .val (.int (v_c p3)), .val (.int (v_d p4)), .unset, .unset, .unset, .unset]) rfl k) ?_
    refine Go.st (mkF m 35 #[.val (.int p0), .val (.int p1), .val (.int p2), .val (.int p3), .val (.int p4), .val (.int (3 : Int32)), .val (.int (v_a p1)), .val (.int (v_b p2)), .val (.int (v_c p3)), .val (.int (v_d p4)), .unset, .unset, .unset, .unset] [(.int (3 : Int32))]) (fun _ k => XS.iload X0.here hx rfl (hb hby at_33) rfl k) ?_
    refine Go.st (mkF m 37 #[.val (.int p0), .val (.int p1), .val (.int p2), .val (.int p3), .val (.int p4), .val (.int (3 : Int32)), .val (.int (v_a p1)), .val (.int (v_b p2)), .val (.int (v_c p3)), .val (.int (v_d p4)), .unset, .unset, .unset, .unset] [(.int (v_a p1)), (.int (3 : Int32))]) (fun _ k => XS.iload X0.here hx rfl (hb hby at_35) rfl k) ?_
    refine Go.st (mkF m 39 #[.val (.int p0), .val (.int p1), .val (.int p2), .val (.int p3), .val (.int p4), .val (.int (3 : Int32)), .val (.int (v_a p1)), .val (.int (v_b p2)), .val (.int (v_c p3)), .val (.int (v_d p4)), .unset, .unset, .unset, .unset] [(.int (v_b p2)), (.int (v_a p1)), (.int (3 : Int32))]) (fun _ k => XS.iload X0.here hx rfl (hb hby at_37) rfl k) ?_
    refine Go.st (mkF m 41 #[.val (.int p0), .val (.int p1), .val (.int p2), .val (.int p3), .val (.int p4), .val (.int (3 : Int32)), .val (.int (v_a p1)), .val (.int (v_b p2)), .val (.int (v_c p3)), .val (.int (v_d p4)), .unset, .unset, .unset, .unset] [(.int (v_c p3)), (.int (v_b p2)), (.int (v_a p1)), (.int (3 : Int32))]) (fun _ k => XS.iload X0.here hx rfl (hb hby at_39) rfl k) ?_
    refine Go.st (mkF m 43 #[.val (.int p0), .val (.int p1), .val (.int p2), .val (.int p3), .val (.int p4), .val (.int (3 : Int32)), .val (.int (v_a p1)), .val (.int (v_b p2)), .val (.int (v_c p3)), .val (.int (v_d p4)), .unset, .unset, .unset, .unset] [(.int (v_d p4)), (.int (v_c p3)), (.int (v_b p2)), (.int (v_a p1)), (.int (3 : Int32))]) (fun _ k => XS.iload X0.here hx rfl (hb hby at_41) rfl k) ?_
    obtain ⟨_, _, ⟨T50, L50, k50, n50⟩, -, X50, ⟨Lc50, hQ50, l50, y50, z50⟩, st50⟩ := Jvm.LawKit.callS X0 hx (y := (⟨"com/example/regular_role_reasoner/regularrolereasoner/alcoif/ElementsTotalPinLaw", "build", "(IIIII)[I"⟩ : MethodName)) hown (mvT hZ (hw _ (List.mem_of_getElem? (i := 2) rfl))) (mvT hZ (hw _ (List.mem_of_getElem? (i := 3) rfl))) (mvT hZ (hw _ (List.mem_of_getElem? (i := 4) rfl))) (mvT hZ (hw _ (List.mem_of_getElem? (i := 5) rfl))) (by decide) (backOf (W := 0) (rm_13 l Z a0 hw [] (v_a p1) (v_b p2) (v_c p3) (v_d p4) h0 n0 (Nat.le_trans Z0 K0.1)) hZ (hw _ (List.mem_of_getElem? (i := 5) rfl)) (hw _ (List.mem_of_getElem? (i := 4) rfl)) (by decide) (by decide)) (g := (mkF m 43 #[.val (.int p0), .val (.int p1), .val (.int p2), .val (.int p3), .val (.int p4), .val (.int (3 : Int32)), .val (.int (v_a p1)), .val (.int (v_b p2)), .val (.int (v_c p3)), .val (.int (v_d p4)), .unset, .unset, .unset, .unset] [(.int (v_d p4)), (.int (v_c p3)), (.int (v_b p2)), (.int (v_a p1)), (.int (3 : Int32))])) rfl (by rw [hml]; rfl) (argsL := [(.int (3 : Int32)), (.int (v_a p1)), (.int (v_b p2)), (.int (v_c p3)), (.int (v_d p4))]) (rest := []) (lenOf pd_1 rfl) rfl (by show 2 * 0 + _ ≤ _; exact Nat.le_of_eq rfl) (hb hby at_43) (fun _ _ => ⟨rfl, e0, (by decide : 0 + 1 ≤ _), (by decide : 0 + 3 ≤ _)⟩)
    dsimp only [Pt.U, Pt.locs, Pt.cells, Pt.slots] at X50 l50 y50 z50 st50 hQ50
    subst l50 y50 z50
    obtain ⟨b_50, rfl, N50q, K50q, P50_0, E50_1, V50_2⟩ := hQ50
    have N50 := Fr.app N0 N50q
    have sz_b_50 : h0.size ≤ b_50 := Nat.le_trans K0.1 P50_0
    have g_b_50 : n0 ≤ b_50 := Nat.le_trans Z0 sz_b_50
    have K50 : Keep h0 T50.heap [] := K0.trans K50q all0
    refine Go.st (mkF m 46 #[.val (.int p0), .val (.int p1), .val (.int p2), .val (.int p3), .val (.int p4), .val (.int (3 : Int32)), .val (.int (v_a p1)), .val (.int (v_b p2)), .val (.int (v_c p3)), .val (.int (v_d p4)), .unset, .unset, .unset, .unset] [(.ref b_50)]) (fun _ k => st50 _ k) ?_
    refine Go.st (mkF m 48 #[.val (.int p0), .val (.int p1), .val (.int p2), .val (.int p3), .val (.int p4), .val (.int (3 : Int32)), .val (.int (v_a p1)), .val (.int (v_b p2)), .val (.int (v_c p3)), .val (.int (v_d p4)), .val (.ref b_50), .unset, .unset, .unset] []) (fun _ k => XS.astore X50.here hx rfl (hb hby at_46) rfl rfl (l' := #[.val (.int p0), .val (.int p1), .val (.int p2), .val (.int p3), .val (.int p4), .val (.int (3 : Int32)), .val (.int (v_a p1)), .val (.int (v_b p2)), .val (.int (v_c p3)), .val (.int (v_d p4)), .val (.ref b_50), .unset, .unset, .unset]) rfl k) ?_
    obtain ⟨T51, h51, X51, e51, E51, A51, D51, -, st51⟩ := newO X50 hx hZ hown (hw _ (List.mem_of_getElem? (i := 7) rfl)) (hw _ (List.mem_of_getElem? (i := 8) rfl)) (hw _ (List.mem_of_getElem? (i := 9) rfl)) rfl (g := (mkF m 48 #[.val (.int p0), .val (.int p1), .val (.int p2), .val (.int p3), .val (.int p4), .val (.int (3 : Int32)), .val (.int (v_a p1)), .val (.int (v_b p2)), .val (.int (v_c p3)), .val (.int (v_d p4)), .val (.ref b_50), .unset, .unset, .unset] [])) rfl (hb hby at_48) (by decide) (by decide)
    obtain ⟨b51, q51⟩ : ∃ z, z = T50.heap.size := ⟨_, rfl⟩
    rw [← q51] at A51 D51 st51
    have sz_b51 : h0.size ≤ b51 := by rw [q51]; exact K50.1
    have g_b51 : n0 ≤ b51 := Nat.le_trans Z0 sz_b51
    have ne_b_50_b51 : b_50 ≠ b51 := Nat.ne_of_lt (by rw [q51]; exact E50_1.lt)
    have E52q : Exa Z h51 b_50 "[I" := E50_1.ext E51
    have V53 : Ary Z h51 b_50 .int 3 (lst [(.int (v_a p1)), (.int (v_b p2)), (.int (v_c p3))]) := V50_2.ext E51
    have K51 : Keep h0 h51 [] := K50.ext E51
    have F54 : Fld Z h51 b51 "com/example/regular_role_reasoner/regularrolereasoner/alcoif/Elements" "sizes" "[I" .null := D51 (Or.inr (hw _ (List.mem_of_getElem? (i := 26) rfl))) (ty := (.array .int)) (by decide)
    have F55 : Fld Z h51 b51 "com/example/regular_role_reasoner/regularrolereasoner/alcoif/Elements" "first" "[I" .null := D51 (Or.inr (hw _ (List.mem_of_getElem? (i := 28) rfl))) (ty := (.array .int)) (by decide)
    refine Go.st (mkF m 51 #[.val (.int p0), .val (.int p1), .val (.int p2), .val (.int p3), .val (.int p4), .val (.int (3 : Int32)), .val (.int (v_a p1)), .val (.int (v_b p2)), .val (.int (v_c p3)), .val (.int (v_d p4)), .val (.ref b_50), .unset, .unset, .unset] [(.ref b51)]) (fun _ k => st51 _ k) ?_
    refine Go.st (mkF m 52 #[.val (.int p0), .val (.int p1), .val (.int p2), .val (.int p3), .val (.int p4), .val (.int (3 : Int32)), .val (.int (v_a p1)), .val (.int (v_b p2)), .val (.int (v_c p3)), .val (.int (v_d p4)), .val (.ref b_50), .unset, .unset, .unset] [(.ref b51), (.ref b51)]) (fun _ k => XS.dup X51.here hx rfl (hb hby at_51) rfl rfl k) ?_
    refine Go.st (mkF m 54 #[.val (.int p0), .val (.int p1), .val (.int p2), .val (.int p3), .val (.int p4), .val (.int (3 : Int32)), .val (.int (v_a p1)), .val (.int (v_b p2)), .val (.int (v_c p3)), .val (.int (v_d p4)), .val (.ref b_50), .unset, .unset, .unset] [(.ref b_50), (.ref b51), (.ref b51)]) (fun _ k => XS.aload X51.here hx rfl (hb hby at_52) rfl rfl k) ?_
    obtain ⟨_, _, ⟨T56, L56, k56, n56⟩, -, X56, ⟨Lc56, hQ56, l56, y56, z56⟩, st56⟩ := X51.specialBack hx (y := (⟨"com/example/regular_role_reasoner/regularrolereasoner/alcoif/Elements", "<init>", "([I)V"⟩ : MethodName)) rfl hown (mvT hZ (hw _ (List.mem_of_getElem? (i := 10) rfl))) (mvT hZ (hw _ (List.mem_of_getElem? (i := 11) rfl))) (mvT hZ (hw _ (List.mem_of_getElem? (i := 12) rfl))) (by decide) (backOf (W := 1) (rm_23 l Z a0 hw [] b51 b_50 (v_a p1) (v_b p2) (v_c p3) h51 n0 (Nat.le_trans Z0 K51.1) A51 F54 F55 V53 E52q g_b51 (Ne.symm ne_b_50_b51) (own_ma _) (own_mb _) (own_mc _)) hZ (hw _ (List.mem_of_getElem? (i := 12) rfl)) (hw _ (List.mem_of_getElem? (i := 9) rfl)) (by decide) (by decide)) (g := (mkF m 54 #[.val (.int p0), .val (.int p1), .val (.int p2), .val (.int p3), .val (.int p4), .val (.int (3 : Int32)), .val (.int (v_a p1)), .val (.int (v_b p2)), .val (.int (v_c p3)), .val (.int (v_d p4)), .val (.ref b_50), .unset, .unset, .unset] [(.ref b_50), (.ref b51), (.ref b51)])) rfl (by rw [hml]; rfl) (Steps.refl _) (a := b51) (argsL := [(.ref b_50)]) (rest := [(.ref b51)]) (lenOf pd_2 rfl) rfl (by show 2 * 0 + _ ≤ _; exact Nat.le_of_eq rfl) (hb hby at_54) (fun _ _ => ⟨rfl, e51, (by decide : 2 + 2 ≤ _), (by decide : 5 + 6 ≤ _)⟩)
    dsimp only [Pt.U, Pt.locs, Pt.cells, Pt.slots] at X56 l56 y56 z56 st56 hQ56
    subst l56 y56 z56
    obtain ⟨b1_56, b2_56, rfl, N56q, K56q, P56_0, P56_1, F56_2, F56_3, V56_4, V56_5⟩ := hQ56
    have N56 := Fr.app N50 N56q
    have sz_b1_56 : h0.size ≤ b1_56 := Nat.le_trans K51.1 P56_0
    have g_b1_56 : n0 ≤ b1_56 := Nat.le_trans Z0 sz_b1_56
    have ne_b_50_b1_56 : b_50 ≠ b1_56 := Nat.ne_of_lt (Nat.lt_of_lt_of_le E52q.lt P56_0)
    have ne_b51_b1_56 : b51 ≠ b1_56 := Nat.ne_of_lt (Nat.lt_of_lt_of_le A51.lt P56_0)
    have sz_b2_56 : h0.size ≤ b2_56 := Nat.le_trans K51.1 P56_1
    have g_b2_56 : n0 ≤ b2_56 := Nat.le_trans Z0 sz_b2_56
    have ne_b_50_b2_56 : b_50 ≠ b2_56 := Nat.ne_of_lt (Nat.lt_of_lt_of_le E52q.lt P56_1)
    have ne_b51_b2_56 : b51 ≠ b2_56 := Nat.ne_of_lt (Nat.lt_of_lt_of_le A51.lt P56_1)
    have E57q : Exa Z T56.heap b_50 "[I" := E52q.keep K56q
    have V58 : Ary Z T56.heap b_50 .int 3 (lst [(.int (v_a p1)), (.int (v_b p2)), (.int (v_c p3))]) := V53.keep K56q (ninS ne_b_50_b51 nin0)
    have E59q : Exa Z T56.heap b51 "com/example/regular_role_reasoner/regularrolereasoner/alcoif/Elements" := A51.keep K56q
    have K56 : Keep h0 T56.heap [] := K51.trans K56q (allS (Or.inr sz_b51) all0)
    refine Go.st (mkF m 57 #[.val (.int p0), .val (.int p1), .val (.int p2), .val (.int p3), .val (.int p4), .val (.int (3 : Int32)), .val (.int (v_a p1)), .val (.int (v_b p2)), .val (.int (v_c p3)), .val (.int (v_d p4)), .val (.ref b_50), .unset, .unset, .unset] [(.ref b51)]) (fun _ k => st56.trans k) ?_
    refine Go.st (mkF m 59 #[.val (.int p0), .val (.int p1), .val (.int p2), .val (.int p3), .val (.int p4), .val (.int (3 : Int32)), .val (.int (v_a p1)), .val (.int (v_b p2)), .val (.int (v_c p3)), .val (.int (v_d p4)), .val (.ref b_50), .val (.ref b51), .unset, .unset] []) (fun _ k => XS.astore X56.here hx rfl (hb hby at_57) rfl rfl (l' := #[.val (.int p0), .val (.int p1), .val (.int p2), .val (.int p3), .val (.int p4), .val (.int (3 : Int32)), .val (.int (v_a p1)), .val (.int (v_b p2)), .val (.int (v_c p3)), .val (.int (v_d p4)), .val (.ref b_50), .val (.ref b51), .unset, .unset]) rfl k) ?_
    refine Go.st (mkF m 61 #[.val (.int p0), .val (.int p1), .val (.int p2), .val (.int p3), .val (.int p4), .val (.int (3 : Int32)), .val (.int (v_a p1)), .val (.int (v_b p2)), .val (.int (v_c p3)), .val (.int (v_d p4)), .val (.ref b_50), .val (.ref b51), .unset, .unset] [(.int (3 : Int32))]) (fun _ k => XS.iload X56.here hx rfl (hb hby at_59) rfl k) ?_
    refine Go.st (mkF m 64 #[.val (.int p0), .val (.int p1), .val (.int p2), .val (.int p3), .val (.int p4), .val (.int (3 : Int32)), .val (.int (v_a p1)), .val (.int (v_b p2)), .val (.int (v_c p3)), .val (.int (v_d p4)), .val (.ref b_50), .val (.ref b51), .unset, .unset] []) (fun _ k => XS.ifNo X56.here hx rfl (hb hby at_61) rfl ((if0 _ _).trans (tlt (by decide : (0 : Int32) < (3 : Int32))).2.2.2) k) ?_
    refine Go.st (mkF m 66 #[.val (.int p0), .val (.int p1), .val (.int p2), .val (.int p3), .val (.int p4), .val (.int (3 : Int32)), .val (.int (v_a p1)), .val (.int (v_b p2)), .val (.int (v_c p3)), .val (.int (v_d p4)), .val (.ref b_50), .val (.ref b51), .unset, .unset] [(.ref b_50)]) (fun _ k => XS.aload X56.here hx rfl (hb hby at_64) rfl rfl k) ?_
    refine Go.st (mkF m 68 #[.val (.int p0), .val (.int p1), .val (.int p2), .val (.int p3), .val (.int p4), .val (.int (3 : Int32)), .val (.int (v_a p1)), .val (.int (v_b p2)), .val (.int (v_c p3)), .val (.int (v_d p4)), .val (.ref b_50), .val (.ref b51), .unset, .unset] [(.int (3 : Int32)), (.ref b_50)]) (fun _ k => XS.iload X56.here hx rfl (hb hby at_66) rfl k) ?_
    refine Go.st (mkF m 69 #[.val (.int p0), .val (.int p1), .val (.int p2), .val (.int p3), .val (.int p4), .val (.int (3 : Int32)), .val (.int (v_a p1)), .val (.int (v_b p2)), .val (.int (v_c p3)), .val (.int (v_d p4)), .val (.ref b_50), .val (.ref b51), .unset, .unset] [(.int (1 : Int32)), (.int (3 : Int32)), (.ref b_50)]) (fun _ k => XS.iconst X56.here hx rfl (hb hby at_68) k) ?_
    refine Go.st (mkF m 70 #[.val (.int p0), .val (.int p1), .val (.int p2), .val (.int p3), .val (.int p4), .val (.int (3 : Int32)), .val (.int (v_a p1)), .val (.int (v_b p2)), .val (.int (v_c p3)), .val (.int (v_d p4)), .val (.ref b_50), .val (.ref b51), .unset, .unset] [(.int (2 : Int32)), (.ref b_50)]) (fun _ k => XS.isub X56.here hx rfl (hb hby at_69) rfl k) ?_
    refine Go.st (mkF m 71 #[.val (.int p0), .val (.int p1), .val (.int p2), .val (.int p3), .val (.int p4), .val (.int (3 : Int32)), .val (.int (v_a p1)), .val (.int (v_b p2)), .val (.int (v_c p3)), .val (.int (v_d p4)), .val (.ref b_50), .val (.ref b51), .unset, .unset] [(.int (0 : Int32)), (.int (2 : Int32)), (.ref b_50)]) (fun _ k => XS.iconst X56.here hx rfl (hb hby at_70) k) ?_
    obtain ⟨T60, h60, X60, e60, W60, st60⟩ := stAI X56 hx hZ rfl V58 (i := 2) (by decide) (by decide) (by decide) (g := (mkF m 71 #[.val (.int p0), .val (.int p1), .val (.int p2), .val (.int p3), .val (.int p4), .val (.int (3 : Int32)), .val (.int (v_a p1)), .val (.int (v_b p2)), .val (.int (v_c p3)), .val (.int (v_d p4)), .val (.ref b_50), .val (.ref b51), .unset, .unset] [(.int (0 : Int32)), (.int (2 : Int32)), (.ref b_50)])) rfl rfl (hb hby at_71)
    have E61q : Exa Z h60 b_50 "[I" := E57q.wr W60
    have V62 : Ary Z h60 b_50 .int 3 (lst [(.int (v_a p1)), (.int (v_b p2)), (.int (0 : Int32))]) := V58.sameL W60 (by simp)
    have E63q : Exa Z h60 b51 "com/example/regular_role_reasoner/regularrolereasoner/alcoif/Elements" := E59q.wr W60
    have F64 : Fld Z h60 b51 "com/example/regular_role_reasoner/regularrolereasoner/alcoif/Elements" "sizes" "[I" (.ref b1_56) := F56_2.other W60 (Or.inl (Ne.symm ne_b_50_b51))
    have F65 : Fld Z h60 b51 "com/example/regular_role_reasoner/regularrolereasoner/alcoif/Elements" "first" "[I" (.ref b2_56) := F56_3.other W60 (Or.inl (Ne.symm ne_b_50_b51))
    have V66 : Ary Z h60 b1_56 .int 3 (lst [(.int (v_a p1)), (.int (v_b p2)), (.int (v_c p3))]) := V56_4.other W60 (Ne.symm ne_b_50_b1_56)
    have V67 : Ary Z h60 b2_56 .int 3 (lst [(.int (0 : Int32)), (.int ((0 : Int32) + (v_a p1))), (.int (((0 : Int32) + (v_a p1)) + (v_b p2)))]) := V56_5.other W60 (Ne.symm ne_b_50_b2_56)
    have K60 : Keep h0 h60 [] := K56.wr W60 (Or.inr sz_b_50)
    have N60 := Fr.snoc X60 N56 g_b_50
    refine Go.st (mkF m 72 #[.val (.int p0), .val (.int p1), .val (.int p2), .val (.int p3), .val (.int p4), .val (.int (3 : Int32)), .val (.int (v_a p1)), .val (.int (v_b p2)), .val (.int (v_c p3)), .val (.int (v_d p4)), .val (.ref b_50), .val (.ref b51), .unset, .unset] []) (fun _ k => st60 _ k) ?_
    refine Go.st (mkF m 73 #[.val (.int p0), .val (.int p1), .val (.int p2), .val (.int p3), .val (.int p4), .val (.int (3 : Int32)), .val (.int (v_a p1)), .val (.int (v_b p2)), .val (.int (v_c p3)), .val (.int (v_d p4)), .val (.ref b_50), .val (.ref b51), .unset, .unset] [(.long (0 : Int64))]) (fun _ k => XT.lconst X60.here hx rfl (hb hby at_72) k) ?_
    refine Go.st (mkF m 75 #[.val (.int p0), .val (.int p1), .val (.int p2), .val (.int p3), .val (.int p4), .val (.int (3 : Int32)), .val (.int (v_a p1)), .val (.int (v_b p2)), .val (.int (v_c p3)), .val (.int (v_d p4)), .val (.ref b_50), .val (.ref b51), .val (.long (0 : Int64)), .second] []) (fun _ k => XT.lstore X60.here hx rfl (hb hby at_73) rfl (l' := #[.val (.int p0), .val (.int p1), .val (.int p2), .val (.int p3), .val (.int p4), .val (.int (3 : Int32)), .val (.int (v_a p1)), .val (.int (v_b p2)), .val (.int (v_c p3)), .val (.int (v_d p4)), .val (.ref b_50), .val (.ref b51), .val (.long (0 : Int64)), .second]) rfl k) ?_
    refine Go.st (mkF m 77 #[.val (.int p0), .val (.int p1), .val (.int p2), .val (.int p3), .val (.int p4), .val (.int (3 : Int32)), .val (.int (v_a p1)), .val (.int (v_b p2)), .val (.int (v_c p3)), .val (.int (v_d p4)), .val (.ref b_50), .val (.ref b51), .val (.long (0 : Int64)), .second] [(.int (3 : Int32))]) (fun _ k => XS.iload X60.here hx rfl (hb hby at_75) rfl k) ?_
    refine Go.st (mkF m 80 #[.val (.int p0), .val (.int p1), .val (.int p2), .val (.int p3), .val (.int p4), .val (.int (3 : Int32)), .val (.int (v_a p1)), .val (.int (v_b p2)), .val (.int (v_c p3)), .val (.int (v_d p4)), .val (.ref b_50), .val (.ref b51), .val (.long (0 : Int64)), .second] []) (fun _ k => XS.ifNo X60.here hx rfl (hb hby at_77) rfl ((if0 _ _).trans (tlt (by decide : (0 : Int32) < (3 : Int32))).2.2.2) k) ?_
    refine Go.st (mkF m 82 #[.val (.int p0), .val (.int p1), .val (.int p2), .val (.int p3), .val (.int p4), .val (.int (3 : Int32)), .val (.int (v_a p1)), .val (.int (v_b p2)), .val (.int (v_c p3)), .val (.int (v_d p4)), .val (.ref b_50), .val (.ref b51), .val (.long (0 : Int64)), .second] [(.long (0 : Int64))]) (fun _ k => XT.lload X60.here hx rfl (hb hby at_80) rfl k) ?_
    refine Go.st (mkF m 84 #[.val (.int p0), .val (.int p1), .val (.int p2), .val (.int p3), .val (.int p4), .val (.int (3 : Int32)), .val (.int (v_a p1)), .val (.int (v_b p2)), .val (.int (v_c p3)), .val (.int (v_d p4)), .val (.ref b_50), .val (.ref b51), .val (.long (0 : Int64)), .second] [(.int (v_a p1)), (.long (0 : Int64))]) (fun _ k => XS.iload X60.here hx rfl (hb hby at_82) rfl k) ?_
    refine Go.st (mkF m 85 #[.val (.int p0), .val (.int p1), .val (.int p2), .val (.int p3), .val (.int p4), .val (.int (3 : Int32)), .val (.int (v_a p1)), .val (.int (v_b p2)), .val (.int (v_c p3)), .val (.int (v_d p4)), .val (.ref b_50), .val (.ref b51), .val (.long (0 : Int64)), .second] [(.long ((v_a p1).toInt64)), (.long (0 : Int64))]) (fun _ k => XT.i2l X60.here hx rfl (hb hby at_84) rfl k) ?_
    refine Go.st (mkF m 86 #[.val (.int p0), .val (.int p1), .val (.int p2), .val (.int p3), .val (.int p4), .val (.int (3 : Int32)), .val (.int (v_a p1)), .val (.int (v_b p2)), .val (.int (v_c p3)), .val (.int (v_d p4)), .val (.ref b_50), .val (.ref b51), .val (.long (0 : Int64)), .second] [(.long ((0 : Int64) + ((v_a p1).toInt64)))]) (fun _ k => XT.ladd X60.here hx rfl (hb hby at_85) rfl k) ?_
    refine Go.st (mkF m 88 #[.val (.int p0), .val (.int p1), .val (.int p2), .val (.int p3), .val (.int p4), .val (.int (3 : Int32)), .val (.int (v_a p1)), .val (.int (v_b p2)), .val (.int (v_c p3)), .val (.int (v_d p4)), .val (.ref b_50), .val (.ref b51), .val (.long ((0 : Int64) + ((v_a p1).toInt64))), .second] []) (fun _ k => XT.lstore X60.here hx rfl (hb hby at_86) rfl (l' := #[.val (.int p0), .val (.int p1), .val (.int p2), .val (.int p3), .val (.int p4), .val (.int (3 : Int32)), .val (.int (v_a p1)), .val (.int (v_b p2)), .val (.int (v_c p3)), .val (.int (v_d p4)), .val (.ref b_50), .val (.ref b51), .val (.long ((0 : Int64) + ((v_a p1).toInt64))), .second]) rfl k) ?_
    refine Go.st (mkF m 90 #[.val (.int p0), .val (.int p1), .val (.int p2), .val (.int p3), .val (.int p4), .val (.int (3 : Int32)), .val (.int (v_a p1)), .val (.int (v_b p2)), .val (.int (v_c p3)), .val (.int (v_d p4)), .val (.ref b_50), .val (.ref b51), .val (.long ((0 : Int64) + ((v_a p1).toInt64))), .second] [(.int (3 : Int32))]) (fun _ k => XS.iload X60.here hx rfl (hb hby at_88) rfl k) ?_
    refine Go.st (mkF m 91 #[.val (.int p0), .val (.int p1), .val (.int p2), .val (.int p3), .val (.int p4), .val (.int (3 : Int32)), .val (.int (v_a p1)), .val (.int (v_b p2)), .val (.int (v_c p3)), .val (.int (v_d p4)), .val (.ref b_50), .val (.ref b51), .val (.long ((0 : Int64) + ((v_a p1).toInt64))), .second] [(.int (1 : Int32)), (.int (3 : Int32))]) (fun _ k => XS.iconst X60.here hx rfl (hb hby at_90) k) ?_
    refine Go.st (mkF m 94 #[.val (.int p0), .val (.int p1), .val (.int p2), .val (.int p3), .val (.int p4), .val (.int (3 : Int32)), .val (.int (v_a p1)), .val (.int (v_b p2)), .val (.int (v_c p3)), .val (.int (v_d p4)), .val (.ref b_50), .val (.ref b51), .val (.long ((0 : Int64) + ((v_a p1).toInt64))), .second] []) (fun _ k => XS.icmpNo X60.here hx rfl (hb hby at_91) rfl (tlt (by decide : (1 : Int32) < (3 : Int32))).2.2.2 k) ?_
    refine Go.st (mkF m 96 #[.val (.int p0), .val (.int p1), .val (.int p2), .val (.int p3), .val (.int p4), .val (.int (3 : Int32)), .val (.int (v_a p1)), .val (.int (v_b p2)), .val (.int (v_c p3)), .val (.int (v_d p4)), .val (.ref b_50), .val (.ref b51), .val (.long ((0 : Int64) + ((v_a p1).toInt64))), .second] [(.long ((0 : Int64) + ((v_a p1).toInt64)))]) (fun _ k => XT.lload X60.here hx rfl (hb hby at_94) rfl k) ?_
    refine Go.st (mkF m 98 #[.val (.int p0), .val (.int p1), .val (.int p2), .val (.int p3), .val (.int p4), .val (.int (3 : Int32)), .val (.int (v_a p1)), .val (.int (v_b p2)), .val (.int (v_c p3)), .val (.int (v_d p4)), .val (.ref b_50), .val (.ref b51), .val (.long ((0 : Int64) + ((v_a p1).toInt64))), .second] [(.int (v_b p2)), (.long ((0 : Int64) + ((v_a p1).toInt64)))]) (fun _ k => XS.iload X60.here hx rfl (hb hby at_96) rfl k) ?_
    refine Go.st (mkF m 99 #[.val (.int p0), .val (.int p1), .val (.int p2), .val (.int p3), .val (.int p4), .val (.int (3 : Int32)), .val (.int (v_a p1)), .val (.int (v_b p2)), .val (.int (v_c p3)), .val (.int (v_d p4)), .val (.ref b_50), .val (.ref b51), .val (.long ((0 : Int64) + ((v_a p1).toInt64))), .second] [(.long ((v_b p2).toInt64)), (.long ((0 : Int64) + ((v_a p1).toInt64)))]) (fun _ k => XT.i2l X60.here hx rfl (hb hby at_98) rfl k) ?_
    refine Go.st (mkF m 100 #[.val (.int p0), .val (.int p1), .val (.int p2), .val (.int p3), .val (.int p4), .val (.int (3 : Int32)), .val (.int (v_a p1)), .val (.int (v_b p2)), .val (.int (v_c p3)), .val (.int (v_d p4)), .val (.ref b_50), .val (.ref b51), .val (.long ((0 : Int64) + ((v_a p1).toInt64))), .second] [(.long (((0 : Int64) + ((v_a p1).toInt64)) + ((v_b p2).toInt64)))]) (fun _ k => XT.ladd X60.here hx rfl (hb hby at_99) rfl k) ?_
    refine Go.st (mkF m 102 #[.val (.int p0), .val (.int p1), .val (.int p2), .val (.int p3), .val (.int p4), .val (.int (3 : Int32)), .val (.int (v_a p1)), .val (.int (v_b p2)), .val (.int (v_c p3)), .val (.int (v_d p4)), .val (.ref b_50), .val (.ref b51), .val (.long (((0 : Int64) + ((v_a p1).toInt64)) + ((v_b p2).toInt64))), .second] []) (fun _ k => XT.lstore X60.here hx rfl (hb hby at_100) rfl (l' := #[.val (.int p0), .val (.int p1), .val (.int p2), .val (.int p3), .val (.int p4), .val (.int (3 : Int32)), .val (.int (v_a p1)), .val (.int (v_b p2)), .val (.int (v_c p3)), .val (.int (v_d p4)), .val (.ref b_50), .val (.ref b51), .val (.long (((0 : Int64) + ((v_a p1).toInt64)) + ((v_b p2).toInt64))), .second]) rfl k) ?_
    refine Go.st (mkF m 104 #[.val (.int p0), .val (.int p1), .val (.int p2), .val (.int p3), .val (.int p4), .val (.int (3 : Int32)), .val (.int (v_a p1)), .val (.int (v_b p2)), .val (.int (v_c p3)), .val (.int (v_d p4)), .val (.ref b_50), .val (.ref b51), .val (.long (((0 : Int64) + ((v_a p1).toInt64)) + ((v_b p2).toInt64))), .second] [(.int (3 : Int32))]) (fun _ k => XS.iload X60.here hx rfl (hb hby at_102) rfl k) ?_
    refine Go.st (mkF m 105 #[.val (.int p0), .val (.int p1), .val (.int p2), .val (.int p3), .val (.int p4), .val (.int (3 : Int32)), .val (.int (v_a p1)), .val (.int (v_b p2)), .val (.int (v_c p3)), .val (.int (v_d p4)), .val (.ref b_50), .val (.ref b51), .val (.long (((0 : Int64) + ((v_a p1).toInt64)) + ((v_b p2).toInt64))), .second] [(.int (2 : Int32)), (.int (3 : Int32))]) (fun _ k => XS.iconst X60.here hx rfl (hb hby at_104) k) ?_
    refine Go.st (mkF m 108 #[.val (.int p0), .val (.int p1), .val (.int p2), .val (.int p3), .val (.int p4), .val (.int (3 : Int32)), .val (.int (v_a p1)), .val (.int (v_b p2)), .val (.int (v_c p3)), .val (.int (v_d p4)), .val (.ref b_50), .val (.ref b51), .val (.long (((0 : Int64) + ((v_a p1).toInt64)) + ((v_b p2).toInt64))), .second] []) (fun _ k => XS.icmpNo X60.here hx rfl (hb hby at_105) rfl (tlt (by decide : (2 : Int32) < (3 : Int32))).2.2.2 k) ?_
    refine Go.st (mkF m 110 #[.val (.int p0), .val (.int p1), .val (.int p2), .val (.int p3), .val (.int p4), .val (.int (3 : Int32)), .val (.int (v_a p1)), .val (.int (v_b p2)), .val (.int (v_c p3)), .val (.int (v_d p4)), .val (.ref b_50), .val (.ref b51), .val (.long (((0 : Int64) + ((v_a p1).toInt64)) + ((v_b p2).toInt64))), .second] [(.long (((0 : Int64) + ((v_a p1).toInt64)) + ((v_b p2).toInt64)))]) (fun _ k => XT.lload X60.here hx rfl (hb hby at_108) rfl k) ?_
    refine Go.st (mkF m 112 #[.val (.int p0), .val (.int p1), .val (.int p2), .val (.int p3), .val (.int p4), .val (.int (3 : Int32)), .val (.int (v_a p1)), .val (.int (v_b p2)), .val (.int (v_c p3)), .val (.int (v_d p4)), .val (.ref b_50), .val (.ref b51), .val (.long (((0 : Int64) + ((v_a p1).toInt64)) + ((v_b p2).toInt64))), .second] [(.int (v_c p3)), (.long (((0 : Int64) + ((v_a p1).toInt64)) + ((v_b p2).toInt64)))]) (fun _ k => XS.iload X60.here hx rfl (hb hby at_110) rfl k) ?_
    refine Go.st (mkF m 113 #[.val (.int p0), .val (.int p1), .val (.int p2), .val (.int p3), .val (.int p4), .val (.int (3 : Int32)), .val (.int (v_a p1)), .val (.int (v_b p2)), .val (.int (v_c p3)), .val (.int (v_d p4)), .val (.ref b_50), .val (.ref b51), .val (.long (((0 : Int64) + ((v_a p1).toInt64)) + ((v_b p2).toInt64))), .second] [(.long ((v_c p3).toInt64)), (.long (((0 : Int64) + ((v_a p1).toInt64)) + ((v_b p2).toInt64)))]) (fun _ k => XT.i2l X60.here hx rfl (hb hby at_112) rfl k) ?_
    refine Go.st (mkF m 114 #[.val (.int p0), .val (.int p1), .val (.int p2), .val (.int p3), .val (.int p4), .val (.int (3 : Int32)), .val (.int (v_a p1)), .val (.int (v_b p2)), .val (.int (v_c p3)), .val (.int (v_d p4)), .val (.ref b_50), .val (.ref b51), .val (.long (((0 : Int64) + ((v_a p1).toInt64)) + ((v_b p2).toInt64))), .second] [(.long ((((0 : Int64) + ((v_a p1).toInt64)) + ((v_b p2).toInt64)) + ((v_c p3).toInt64)))]) (fun _ k => XT.ladd X60.here hx rfl (hb hby at_113) rfl k) ?_
    refine Go.st (mkF m 116 #[.val (.int p0), .val (.int p1), .val (.int p2), .val (.int p3), .val (.int p4), .val (.int (3 : Int32)), .val (.int (v_a p1)), .val (.int (v_b p2)), .val (.int (v_c p3)), .val (.int (v_d p4)), .val (.ref b_50), .val (.ref b51), .val (.long ((((0 : Int64) + ((v_a p1).toInt64)) + ((v_b p2).toInt64)) + ((v_c p3).toInt64))), .second] []) (fun _ k => XT.lstore X60.here hx rfl (hb hby at_114) rfl (l' := #[.val (.int p0), .val (.int p1), .val (.int p2), .val (.int p3), .val (.int p4), .val (.int (3 : Int32)), .val (.int (v_a p1)), .val (.int (v_b p2)), .val (.int (v_c p3)), .val (.int (v_d p4)), .val (.ref b_50), .val (.ref b51), .val (.long ((((0 : Int64) + ((v_a p1).toInt64)) + ((v_b p2).toInt64)) + ((v_c p3).toInt64))), .second]) rfl k) ?_
    refine Go.st (mkF m 118 #[.val (.int p0), .val (.int p1), .val (.int p2), .val (.int p3), .val (.int p4), .val (.int (3 : Int32)), .val (.int (v_a p1)), .val (.int (v_b p2)), .val (.int (v_c p3)), .val (.int (v_d p4)), .val (.ref b_50), .val (.ref b51), .val (.long ((((0 : Int64) + ((v_a p1).toInt64)) + ((v_b p2).toInt64)) + ((v_c p3).toInt64))), .second] [(.int (3 : Int32))]) (fun _ k => XS.iload X60.here hx rfl (hb hby at_116) rfl k) ?_
    refine Go.st (mkF m 119 #[.val (.int p0), .val (.int p1), .val (.int p2), .val (.int p3), .val (.int p4), .val (.int (3 : Int32)), .val (.int (v_a p1)), .val (.int (v_b p2)), .val (.int (v_c p3)), .val (.int (v_d p4)), .val (.ref b_50), .val (.ref b51), .val (.long ((((0 : Int64) + ((v_a p1).toInt64)) + ((v_b p2).toInt64)) + ((v_c p3).toInt64))), .second] [(.int (3 : Int32)), (.int (3 : Int32))]) (fun _ k => XS.iconst X60.here hx rfl (hb hby at_118) k) ?_
    refine Go.st (mkF m 130 #[.val (.int p0), .val (.int p1), .val (.int p2), .val (.int p3), .val (.int p4), .val (.int (3 : Int32)), .val (.int (v_a p1)), .val (.int (v_b p2)), .val (.int (v_c p3)), .val (.int (v_d p4)), .val (.ref b_50), .val (.ref b51), .val (.long ((((0 : Int64) + ((v_a p1).toInt64)) + ((v_b p2).toInt64)) + ((v_c p3).toInt64))), .second] []) (fun _ k => XS.icmpYes X60.here hx rfl (pc0 := 119) (pc' := 130) rfl (hb hby at_119) rfl (flt (by decide : ¬ ((3 : Int32) < (3 : Int32)))).2.2.2 (by decide) (by decide) k) ?_
    refine Go.st (mkF m 132 #[.val (.int p0), .val (.int p1), .val (.int p2), .val (.int p3), .val (.int p4), .val (.int (3 : Int32)), .val (.int (v_a p1)), .val (.int (v_b p2)), .val (.int (v_c p3)), .val (.int (v_d p4)), .val (.ref b_50), .val (.ref b51), .val (.long ((((0 : Int64) + ((v_a p1).toInt64)) + ((v_b p2).toInt64)) + ((v_c p3).toInt64))), .second] [(.ref b51)]) (fun _ k => XS.aload X60.here hx rfl (hb hby at_130) rfl rfl k) ?_
    obtain ⟨cq68, kq68, q68a, q68b, q68c⟩ := isOf hZ e60 E63q
    obtain ⟨_, _, ⟨T68, L68, k68, n68⟩, -, X68, ⟨Lc68, hQ68, l68, y68, z68⟩, st68⟩ := X60.virtualBack hx (y := (⟨"com/example/regular_role_reasoner/regularrolereasoner/alcoif/Elements", "total", "()I"⟩ : MethodName)) (z := (⟨"com/example/regular_role_reasoner/regularrolereasoner/alcoif/Elements", "total", "()I"⟩ : MethodName)) hown (mvT hZ (hw _ (List.mem_of_getElem? (i := 29) rfl))) (mvT hZ (hw _ (List.mem_of_getElem? (i := 30) rfl))) (notFace_of_selects (args := #[]) (mvT hZ (hw _ (List.mem_of_getElem? (i := 32) rfl)))) (mvT hZ (hw _ (List.mem_of_getElem? (i := 32) rfl))) (mvT hZ (hw _ (List.mem_of_getElem? (i := 31) rfl))) (by decide) (backOf (W := 0) (rm_33 l Z a0 hw [] b51 b1_56 b2_56 (v_a p1) (v_b p2) (v_c p3) (0 : Int32) ((0 : Int32) + (v_a p1)) (((0 : Int32) + (v_a p1)) + (v_b p2)) h60 n0 (Nat.le_trans Z0 K60.1) F64 F65 V66 V67) hZ (hw _ (List.mem_of_getElem? (i := 33) rfl)) (hw _ (List.mem_of_getElem? (i := 9) rfl)) (by decide) (by decide)) q68a q68c (g := (mkF m 132 #[.val (.int p0), .val (.int p1), .val (.int p2), .val (.int p3), .val (.int p4), .val (.int (3 : Int32)), .val (.int (v_a p1)), .val (.int (v_b p2)), .val (.int (v_c p3)), .val (.int (v_d p4)), .val (.ref b_50), .val (.ref b51), .val (.long ((((0 : Int64) + ((v_a p1).toInt64)) + ((v_b p2).toInt64)) + ((v_c p3).toInt64))), .second] [(.ref b51)])) rfl (by rw [hml]; rfl) (Steps.refl _) (argsL := []) (rest := []) (lenOf pd_3 rfl) rfl (by show 2 * 0 + _ ≤ _; exact Nat.le_of_eq rfl) (hb hby at_132) (fun _ _ => ⟨rfl, e60, (by decide : 4 + 0 ≤ _), (by decide : 11 + 0 ≤ _)⟩)
    dsimp only [Pt.U, Pt.locs, Pt.cells, Pt.slots] at X68 l68 y68 z68 st68 hQ68
    subst l68 y68 z68
    obtain ⟨rfl, N68q, e68⟩ := hQ68
    have N68 := Fr.app N60 N68q
    refine Go.st (mkF m 135 #[.val (.int p0), .val (.int p1), .val (.int p2), .val (.int p3), .val (.int p4), .val (.int (3 : Int32)), .val (.int (v_a p1)), .val (.int (v_b p2)), .val (.int (v_c p3)), .val (.int (v_d p4)), .val (.ref b_50), .val (.ref b51), .val (.long ((((0 : Int64) + ((v_a p1).toInt64)) + ((v_b p2).toInt64)) + ((v_c p3).toInt64))), .second] [(.int ((((0 : Int32) + (v_a p1)) + (v_b p2)) + (v_c p3)))]) (fun _ k => st68.trans k) ?_
    refine Go.st (mkF m 136 #[.val (.int p0), .val (.int p1), .val (.int p2), .val (.int p3), .val (.int p4), .val (.int (3 : Int32)), .val (.int (v_a p1)), .val (.int (v_b p2)), .val (.int (v_c p3)), .val (.int (v_d p4)), .val (.ref b_50), .val (.ref b51), .val (.long ((((0 : Int64) + ((v_a p1).toInt64)) + ((v_b p2).toInt64)) + ((v_c p3).toInt64))), .second] [(.long (((((0 : Int32) + (v_a p1)) + (v_b p2)) + (v_c p3)).toInt64))]) (fun _ k => XT.i2l X68.here hx rfl (hb hby at_135) rfl k) ?_
    refine Go.st (mkF m 138 #[.val (.int p0), .val (.int p1), .val (.int p2), .val (.int p3), .val (.int p4), .val (.int (3 : Int32)), .val (.int (v_a p1)), .val (.int (v_b p2)), .val (.int (v_c p3)), .val (.int (v_d p4)), .val (.ref b_50), .val (.ref b51), .val (.long ((((0 : Int64) + ((v_a p1).toInt64)) + ((v_b p2).toInt64)) + ((v_c p3).toInt64))), .second] [(.long ((((0 : Int64) + ((v_a p1).toInt64)) + ((v_b p2).toInt64)) + ((v_c p3).toInt64))), (.long (((((0 : Int32) + (v_a p1)) + (v_b p2)) + (v_c p3)).toInt64))]) (fun _ k => XT.lload X68.here hx rfl (hb hby at_136) rfl k) ?_
    refine Go.st (mkF m 139 #[.val (.int p0), .val (.int p1), .val (.int p2), .val (.int p3), .val (.int p4), .val (.int (3 : Int32)), .val (.int (v_a p1)), .val (.int (v_b p2)), .val (.int (v_c p3)), .val (.int (v_d p4)), .val (.ref b_50), .val (.ref b51), .val (.long ((((0 : Int64) + ((v_a p1).toInt64)) + ((v_b p2).toInt64)) + ((v_c p3).toInt64))), .second] [(.int (cmpL (((((0 : Int32) + (v_a p1)) + (v_b p2)) + (v_c p3)).toInt64) ((((0 : Int64) + ((v_a p1).toInt64)) + ((v_b p2).toInt64)) + ((v_c p3).toInt64))))]) (fun _ k => XT.lcmp X68.here hx rfl (hb hby at_138) rfl k) ?_
    refine Go.st (mkF m 142 #[.val (.int p0), .val (.int p1), .val (.int p2), .val (.int p3), .val (.int p4), .val (.int (3 : Int32)), .val (.int (v_a p1)), .val (.int (v_b p2)), .val (.int (v_c p3)), .val (.int (v_d p4)), .val (.ref b_50), .val (.ref b51), .val (.long ((((0 : Int64) + ((v_a p1).toInt64)) + ((v_b p2).toInt64)) + ((v_c p3).toInt64))), .second] []) (fun _ k => XS.ifNo X68.here hx rfl (hb hby at_139) rfl (own_leT (own_t3 (own_ma _) (own_mb _) (own_mc _))).2 k) ?_
    refine Go.st (mkF m 143 #[.val (.int p0), .val (.int p1), .val (.int p2), .val (.int p3), .val (.int p4), .val (.int (3 : Int32)), .val (.int (v_a p1)), .val (.int (v_b p2)), .val (.int (v_c p3)), .val (.int (v_d p4)), .val (.ref b_50), .val (.ref b51), .val (.long ((((0 : Int64) + ((v_a p1).toInt64)) + ((v_b p2).toInt64)) + ((v_c p3).toInt64))), .second] [(.int (1 : Int32))]) (fun _ k => XS.iconst X68.here hx rfl (hb hby at_142) k) ?_
    refine Go.st (mkF m 147 #[.val (.int p0), .val (.int p1), .val (.int p2), .val (.int p3), .val (.int p4), .val (.int (3 : Int32)), .val (.int (v_a p1)), .val (.int (v_b p2)), .val (.int (v_c p3)), .val (.int (v_d p4)), .val (.ref b_50), .val (.ref b51), .val (.long ((((0 : Int64) + ((v_a p1).toInt64)) + ((v_b p2).toInt64)) + ((v_c p3).toInt64))), .second] [(.int (1 : Int32))]) (fun _ k => XS.goto X68.here hx rfl (pc0 := 143) (pc' := 147) rfl (hb hby at_143) (by decide) (by decide) k) ?_
    exact Go.retZ X68 hx Bd.notSynchronized (t := .boolean) (by simp) Bd.returns (hb hby at_147) (by rw [e68]; exact ⟨rfl, N68, K60⟩) (by decide) (by decide)
  ·
    rw [hk]
    refine Go.st (mkF m 9 #[.val (.int p0), .val (.int p1), .val (.int p2), .val (.int p3), .val (.int p4), .val (.int (4 : Int32)), .unset, .unset, .unset, .unset, .unset, .unset, .unset, .unset] [(.int p1)]) (fun _ k => XS.iloadN X0.here hx rfl (hb hby at_8) rfl k) ?_
    refine Go.st (mkF m 11 #[.val (.int p0), .val (.int p1), .val (.int p2), .val (.int p3), .val (.int p4), .val (.int (4 : Int32)), .unset, .unset, .unset, .unset, .unset, .unset, .unset, .unset] [(.int (536870911 : Int32)), (.int p1)]) (fun _ k => X0.ldcInt hx hown (mvT hZ (hw _ (List.mem_of_getElem? (i := 1) rfl))) (g := (mkF m 9 #[.val (.int p0), .val (.int p1), .val (.int p2), .val (.int p3), .val (.int p4), .val (.int (4 : Int32)), .unset, .unset, .unset, .unset, .unset, .unset, .unset, .unset] [(.int p1)])) rfl (hb hby at_9) _ k) ?_
    refine Go.st (mkF m 12 #[.val (.int p0), .val (.int p1), .val (.int p2), .val (.int p3), .val (.int p4), .val (.int (4 : Int32)), .unset, .unset, .unset, .unset, .unset, .unset, .unset, .unset] [(.int (p1 &&& (536870911 : Int32)))]) (fun _ k => XS.iand X0.here hx rfl (hb hby at_11) rfl k) ?_
    refine Go.st (mkF m 14 #[.val (.int p0), .val (.int p1), .val (.int p2), .val (.int p3), .val (.int p4), .val (.int (4 : Int32)), .val (.int (v_a p1)), .unset, .unset, .unset, .unset, .unset, .unset, .unset] []) (fun _ k => XS.istore X0.here hx rfl (hb hby at_12) rfl (l' := #[.val (.int p0), .val (.int p1), .val (.int p2), .val (.int p3), .val (.int p4), .val (.int (4 : Int32)), .val (.int (v_a p1)), .unset, .unset, .unset, .unset, .unset, .unset, .unset]) rfl k) ?_
    refine Go.st (mkF m 15 #[.val (.int p0), .val (.int p1), .val (.int p2), .val (.int p3), .val (.int p4), .val (.int (4 : Int32)), .val (.int (v_a p1)), .unset, .unset, .unset, .unset, .unset, .unset, .unset] [(.int p2)]) (fun _ k => XS.iloadN X0.here hx rfl (hb hby at_14) rfl k) ?_
    refine Go.st (mkF m 17 #[.val (.int p0), .val (.int p1), .val (.int p2), .val (.int p3), .val (.int p4), .val (.int (4 : Int32)), .val (.int (v_a p1)), .unset, .unset, .unset, .unset, .unset, .unset, .unset] [(.int (536870911 : Int32)), (.int p2)]) (fun _ k => X0.ldcInt hx hown (mvT hZ (hw _ (List.mem_of_getElem? (i := 1) rfl))) (g := (mkF m 15 #[.val (.int p0), .val (.int p1), .val (.int p2), .val (.int p3), .val (.int p4), .val (.int (4 : Int32)), .val (.int (v_a p1)), .unset, .unset, .unset, .unset, .unset, .unset, .unset] [(.int p2)])) rfl (hb hby at_15) _ k) ?_
    refine Go.st (mkF m 18 #[.val (.int p0), .val (.int p1), .val (.int p2), .val (.int p3), .val (.int p4), .val (.int (4 : Int32)), .val (.int (v_a p1)), .unset, .unset, .unset, .unset, .unset, .unset, .unset] [(.int (p2 &&& (536870911 : Int32)))]) (fun _ k => XS.iand X0.here hx rfl (hb hby at_17) rfl k) ?_
    refine Go.st (mkF m 20 #[.val (.int p0), .val (.int p1), .val (.int p2), .val (.int p3), .val (.int p4), .val (.int (4 : Int32)), .val (.int (v_a p1)), .val (.int (v_b p2)), .unset, .unset, .unset, .unset, .unset, .unset] []) (fun _ k => XS.istore X0.here hx rfl (hb hby at_18) rfl (l' := #[.val (.int p0), .val (.int p1), .val (.int p2), .val (.int p3), .val (.int p4), .val (.int (4 : Int32)), .val (.int (v_a p1)), .val (.int (v_b p2)), .unset, .unset, .unset, .unset, .unset, .unset]) rfl k) ?_
    refine Go.st (mkF m 21 #[.val (.int p0), .val (.int p1), .val (.int p2), .val (.int p3), .val (.int p4), .val (.int (4 : Int32)), .val (.int (v_a p1)), .val (.int (v_b p2)), .unset, .unset, .unset, .unset, .unset, .unset] [(.int p3)]) (fun _ k => XS.iloadN X0.here hx rfl (hb hby at_20) rfl k) ?_
    refine Go.st (mkF m 23 #[.val (.int p0), .val (.int p1), .val (.int p2), .val (.int p3), .val (.int p4), .val (.int (4 : Int32)), .val (.int (v_a p1)), .val (.int (v_b p2)), .unset, .unset, .unset, .unset, .unset, .unset] [(.int (536870911 : Int32)), (.int p3)]) (fun _ k => X0.ldcInt hx hown (mvT hZ (hw _ (List.mem_of_getElem? (i := 1) rfl))) (g := (mkF m 21 #[.val (.int p0), .val (.int p1), .val (.int p2), .val (.int p3), .val (.int p4), .val (.int (4 : Int32)), .val (.int (v_a p1)), .val (.int (v_b p2)), .unset, .unset, .unset, .unset, .unset, .unset] [(.int p3)])) rfl (hb hby at_21) _ k) ?_
    refine Go.st (mkF m 24 #[.val (.int p0), .val (.int p1), .val (.int p2), .val (.int p3), .val (.int p4), .val (.int (4 : Int32)), .val (.int (v_a p1)), .val (.int (v_b p2)), .unset, .unset, .unset, .unset, .unset, .unset] [(.int (p3 &&& (536870911 : Int32)))]) (fun _ k => XS.iand X0.here hx rfl (hb hby at_23) rfl k) ?_
    refine Go.st (mkF m 26 #[.val (.int p0), .val (.int p1), .val (.int p2), .val (.int p3), .val (.int p4), .val (.int (4 : Int32)), .val (.int (v_a p1)), .val (.int (v_b p2)), .val (.int (v_c p3)), .unset, .unset, .unset, .unset, .unset] []) (fun _ k => XS.istore X0.here hx rfl (hb hby at_24) rfl (l' := #[.val (.int p0), .val (.int p1), .val (.int p2), .val (.int p3), .val (.int p4), .val (.int (4 : Int32)), .val (.int (v_a p1)), .val (.int (v_b p2)), .val (.int (v_c p3)), .unset, .unset, .unset, .unset, .unset]) rfl k) ?_
    refine Go.st (mkF m 28 #[.val (.int p0), .val (.int p1), .val (.int p2), .val (.int p3), .val (.int p4), .val (.int (4 : Int32)), .val (.int (v_a p1)), .val (.int (v_b p2)), .val (.int (v_c p3)), .unset, .unset, .unset, .unset, .unset] [(.int p4)]) (fun _ k => XS.iload X0.here hx rfl (hb hby at_26) rfl k) ?_
    refine Go.st (mkF m 30 #[.val (.int p0), .val (.int p1), .val (.int p2), .val (.int p3), .val (.int p4), .val (.int (4 : Int32)), .val (.int (v_a p1)), .val (.int (v_b p2)), .val (.int (v_c p3)), .unset, .unset, .unset, .unset, .unset] [(.int (536870911 : Int32)), (.int p4)]) (fun _ k => X0.ldcInt hx hown (mvT hZ (hw _ (List.mem_of_getElem? (i := 1) rfl))) (g := (mkF m 28 #[.val (.int p0), .val (.int p1), .val (.int p2), .val (.int p3), .val (.int p4), .val (.int (4 : Int32)), .val (.int (v_a p1)), .val (.int (v_b p2)), .val (.int (v_c p3)), .unset, .unset, .unset, .unset, .unset] [(.int p4)])) rfl (hb hby at_28) _ k) ?_
    refine Go.st (mkF m 31 #[.val (.int p0), .val (.int p1), .val (.int p2), .val (.int p3), .val (.int p4), .val (.int (4 : Int32)), .val (.int (v_a p1)), .val (.int (v_b p2)), .val (.int (v_c p3)), .unset, .unset, .unset, .unset, .unset] [(.int (p4 &&& (536870911 : Int32)))]) (fun _ k => XS.iand X0.here hx rfl (hb hby at_30) rfl k) ?_
    refine Go.st (mkF m 33 #[.val (.int p0), .val (.int p1), .val (.int p2), .val (.int p3), .val (.int p4), .val (.int (4 : Int32)), .val (.int (v_a p1)), .val (.int (v_b p2)), .val (.int (v_c p3)), .val (.int (v_d p4)), .unset, .unset, .unset, .unset] []) (fun _ k => XS.istore X0.here hx rfl (hb hby at_31) rfl (l' := #[.val (.int p0), .val (.int p1), .val (.int p2), .val (.int p3), .val (.int p4), .val (.int (4 : Int32)), .val (.int (v_a p1)), .val (.int (v_b p2)), .val (.int (v_c p3)), .val (.int (v_d p4)), .unset, .unset, .unset, .unset]) rfl k) ?_
    refine Go.st (mkF m 35 #[.val (.int p0), .val (.int p1), .val (.int p2), .val (.int p3), .val (.int p4), .val (.int (4 : Int32)), .val (.int (v_a p1)), .val (.int (v_b p2)), .val (.int (v_c p3)), .val (.int (v_d p4)), .unset, .unset, .unset, .unset] [(.int (4 : Int32))]) (fun _ k => XS.iload X0.here hx rfl (hb hby at_33) rfl k) ?_
    refine Go.st (mkF m 37 #[.val (.int p0), .val (.int p1), .val (.int p2), .val (.int p3), .val (.int p4), .val (.int (4 : Int32)), .val (.int (v_a p1)), .val (.int (v_b p2)), .val (.int (v_c p3)), .val (.int (v_d p4)), .unset, .unset, .unset, .unset] [(.int (v_a p1)), (.int (4 : Int32))]) (fun _ k => XS.iload X0.here hx rfl (hb hby at_35) rfl k) ?_
    refine Go.st (mkF m 39 #[.val (.int p0), .val (.int p1), .val (.int p2), .val (.int p3), .val (.int p4), .val (.int (4 : Int32)), .val (.int (v_a p1)), .val (.int (v_b p2)), .val (.int (v_c p3)), .val (.int (v_d p4)), .unset, .unset, .unset, .unset] [(.int (v_b p2)), (.int (v_a p1)), (.int (4 : Int32))]) (fun _ k => XS.iload X0.here hx rfl (hb hby at_37) rfl k) ?_
    refine Go.st (mkF m 41 #[.val (.int p0), .val (.int p1), .val (.int p2), .val (.int p3), .val (.int p4), .val (.int (4 : Int32)), .val (.int (v_a p1)), .val (.int (v_b p2)), .val (.int (v_c p3)), .val (.int (v_d p4)), .unset, .unset, .unset, .unset] [(.int (v_c p3)), (.int (v_b p2)), (.int (v_a p1)), (.int (4 : Int32))]) (fun _ k => XS.iload X0.here hx rfl (hb hby at_39) rfl k) ?_
    refine Go.st (mkF m 43 #[.val (.int p0), .val (.int p1), .val (.int p2), .val (.int p3), .val (.int p4), .val (.int (4 : Int32)), .val (.int (v_a p1)), .val (.int (v_b p2)), .val (.int (v_c p3)), .val (.int (v_d p4)), .unset, .unset, .unset, .unset] [(.int (v_d p4)), (.int (v_c p3)), (.int (v_b p2)), (.int (v_a p1)), (.int (4 : Int32))]) (fun _ k => XS.iload X0.here hx rfl (hb hby at_41) rfl k) ?_
    obtain ⟨_, _, ⟨T69, L69, k69, n69⟩, -, X69, ⟨Lc69, hQ69, l69, y69, z69⟩, st69⟩ := Jvm.LawKit.callS X0 hx (y := (⟨"com/example/regular_role_reasoner/regularrolereasoner/alcoif/ElementsTotalPinLaw", "build", "(IIIII)[I"⟩ : MethodName)) hown (mvT hZ (hw _ (List.mem_of_getElem? (i := 2) rfl))) (mvT hZ (hw _ (List.mem_of_getElem? (i := 3) rfl))) (mvT hZ (hw _ (List.mem_of_getElem? (i := 4) rfl))) (mvT hZ (hw _ (List.mem_of_getElem? (i := 5) rfl))) (by decide) (backOf (W := 0) (rm_14 l Z a0 hw [] (v_a p1) (v_b p2) (v_c p3) (v_d p4) h0 n0 (Nat.le_trans Z0 K0.1)) hZ (hw _ (List.mem_of_getElem? (i := 5) rfl)) (hw _ (List.mem_of_getElem? (i := 4) rfl)) (by decide) (by decide)) (g := (mkF m 43 #[.val (.int p0), .val (.int p1), .val (.int p2), .val (.int p3), .val (.int p4), .val (.int (4 : Int32)), .val (.int (v_a p1)), .val (.int (v_b p2)), .val (.int (v_c p3)), .val (.int (v_d p4)), .unset, .unset, .unset, .unset] [(.int (v_d p4)), (.int (v_c p3)), (.int (v_b p2)), (.int (v_a p1)), (.int (4 : Int32))])) rfl (by rw [hml]; rfl) (argsL := [(.int (4 : Int32)), (.int (v_a p1)), (.int (v_b p2)), (.int (v_c p3)), (.int (v_d p4))]) (rest := []) (lenOf pd_1 rfl) rfl (by show 2 * 0 + _ ≤ _; exact Nat.le_of_eq rfl) (hb hby at_43) (fun _ _ => ⟨rfl, e0, (by decide : 0 + 1 ≤ _), (by decide : 0 + 4 ≤ _)⟩)
    dsimp only [Pt.U, Pt.locs, Pt.cells, Pt.slots] at X69 l69 y69 z69 st69 hQ69
    subst l69 y69 z69
    obtain ⟨b_69, rfl, N69q, K69q, P69_0, E69_1, V69_2⟩ := hQ69
    have N69 := Fr.app N0 N69q
    have sz_b_69 : h0.size ≤ b_69 := Nat.le_trans K0.1 P69_0
    have g_b_69 : n0 ≤ b_69 := Nat.le_trans Z0 sz_b_69
    have K69 : Keep h0 T69.heap [] := K0.trans K69q all0
    refine Go.st (mkF m 46 #[.val (.int p0), .val (.int p1), .val (.int p2), .val (.int p3), .val (.int p4), .val (.int (4 : Int32)), .val (.int (v_a p1)), .val (.int (v_b p2)), .val (.int (v_c p3)), .val (.int (v_d p4)), .unset, .unset, .unset, .unset] [(.ref b_69)]) (fun _ k => st69 _ k) ?_
    refine Go.st (mkF m 48 #[.val (.int p0), .val (.int p1), .val (.int p2), .val (.int p3), .val (.int p4), .val (.int (4 : Int32)), .val (.int (v_a p1)), .val (.int (v_b p2)), .val (.int (v_c p3)), .val (.int (v_d p4)), .val (.ref b_69), .unset, .unset, .unset] []) (fun _ k => XS.astore X69.here hx rfl (hb hby at_46) rfl rfl (l' := #[.val (.int p0), .val (.int p1), .val (.int p2), .val (.int p3), .val (.int p4), .val (.int (4 : Int32)), .val (.int (v_a p1)), .val (.int (v_b p2)), .val (.int (v_c p3)), .val (.int (v_d p4)), .val (.ref b_69), .unset, .unset, .unset]) rfl k) ?_
    obtain ⟨T70, h70, X70, e70, E70, A70, D70, -, st70⟩ := newO X69 hx hZ hown (hw _ (List.mem_of_getElem? (i := 7) rfl)) (hw _ (List.mem_of_getElem? (i := 8) rfl)) (hw _ (List.mem_of_getElem? (i := 9) rfl)) rfl (g := (mkF m 48 #[.val (.int p0), .val (.int p1), .val (.int p2), .val (.int p3), .val (.int p4), .val (.int (4 : Int32)), .val (.int (v_a p1)), .val (.int (v_b p2)), .val (.int (v_c p3)), .val (.int (v_d p4)), .val (.ref b_69), .unset, .unset, .unset] [])) rfl (hb hby at_48) (by decide) (by decide)
    obtain ⟨b70, q70⟩ : ∃ z, z = T69.heap.size := ⟨_, rfl⟩
    rw [← q70] at A70 D70 st70
    have sz_b70 : h0.size ≤ b70 := by rw [q70]; exact K69.1
    have g_b70 : n0 ≤ b70 := Nat.le_trans Z0 sz_b70
    have ne_b_69_b70 : b_69 ≠ b70 := Nat.ne_of_lt (by rw [q70]; exact E69_1.lt)
    have E71q : Exa Z h70 b_69 "[I" := E69_1.ext E70
    have V72 : Ary Z h70 b_69 .int 4 (lst [(.int (v_a p1)), (.int (v_b p2)), (.int (v_c p3)), (.int (v_d p4))]) := V69_2.ext E70
    have K70 : Keep h0 h70 [] := K69.ext E70
    have F73 : Fld Z h70 b70 "com/example/regular_role_reasoner/regularrolereasoner/alcoif/Elements" "sizes" "[I" .null := D70 (Or.inr (hw _ (List.mem_of_getElem? (i := 26) rfl))) (ty := (.array .int)) (by decide)
    have F74 : Fld Z h70 b70 "com/example/regular_role_reasoner/regularrolereasoner/alcoif/Elements" "first" "[I" .null := D70 (Or.inr (hw _ (List.mem_of_getElem? (i := 28) rfl))) (ty := (.array .int)) (by decide)
    refine Go.st (mkF m 51 #[.val (.int p0), .val (.int p1), .val (.int p2), .val (.int p3), .val (.int p4), .val (.int (4 : Int32)), .val (.int (v_a p1)), .val (.int (v_b p2)), .val (.int (v_c p3)), .val (.int (v_d p4)), .val (.ref b_69), .unset, .unset, .unset] [(.ref b70)]) (fun _ k => st70 _ k) ?_
    refine Go.st (mkF m 52 #[.val (.int p0), .val (.int p1), .val (.int p2), .val (.int p3), .val (.int p4), .val (.int (4 : Int32)), .val (.int (v_a p1)), .val (.int (v_b p2)), .val (.int (v_c p3)), .val (.int (v_d p4)), .val (.ref b_69), .unset, .unset, .unset] [(.ref b70), (.ref b70)]) (fun _ k => XS.dup X70.here hx rfl (hb hby at_51) rfl rfl k) ?_
    refine Go.st (mkF m 54 #[.val (.int p0), .val (.int p1), .val (.int p2), .val (.int p3), .val (.int p4), .val (.int (4 : Int32)), .val (.int (v_a p1)), .val (.int (v_b p2)), .val (.int (v_c p3)), .val (.int (v_d p4)), .val (.ref b_69), .unset, .unset, .unset] [(.ref b_69), (.ref b70), (.ref b70)]) (fun _ k => XS.aload X70.here hx rfl (hb hby at_52) rfl rfl k) ?_
    obtain ⟨_, _, ⟨T75, L75, k75, n75⟩, -, X75, ⟨Lc75, hQ75, l75, y75, z75⟩, st75⟩ := X70.specialBack hx (y := (⟨"com/example/regular_role_reasoner/regularrolereasoner/alcoif/Elements", "<init>", "([I)V"⟩ : MethodName)) rfl hown (mvT hZ (hw _ (List.mem_of_getElem? (i := 10) rfl))) (mvT hZ (hw _ (List.mem_of_getElem? (i := 11) rfl))) (mvT hZ (hw _ (List.mem_of_getElem? (i := 12) rfl))) (by decide) (backOf (W := 1) (rm_24 l Z a0 hw [] b70 b_69 (v_a p1) (v_b p2) (v_c p3) (v_d p4) h70 n0 (Nat.le_trans Z0 K70.1) A70 F73 F74 V72 E71q g_b70 (Ne.symm ne_b_69_b70) (own_ma _) (own_mb _) (own_mc _) (own_md _)) hZ (hw _ (List.mem_of_getElem? (i := 12) rfl)) (hw _ (List.mem_of_getElem? (i := 9) rfl)) (by decide) (by decide)) (g := (mkF m 54 #[.val (.int p0), .val (.int p1), .val (.int p2), .val (.int p3), .val (.int p4), .val (.int (4 : Int32)), .val (.int (v_a p1)), .val (.int (v_b p2)), .val (.int (v_c p3)), .val (.int (v_d p4)), .val (.ref b_69), .unset, .unset, .unset] [(.ref b_69), (.ref b70), (.ref b70)])) rfl (by rw [hml]; rfl) (Steps.refl _) (a := b70) (argsL := [(.ref b_69)]) (rest := [(.ref b70)]) (lenOf pd_2 rfl) rfl (by show 2 * 0 + _ ≤ _; exact Nat.le_of_eq rfl) (hb hby at_54) (fun _ _ => ⟨rfl, e70, (by decide : 2 + 2 ≤ _), (by decide : 6 + 8 ≤ _)⟩)
    dsimp only [Pt.U, Pt.locs, Pt.cells, Pt.slots] at X75 l75 y75 z75 st75 hQ75
    subst l75 y75 z75
    obtain ⟨b1_75, b2_75, rfl, N75q, K75q, P75_0, P75_1, F75_2, F75_3, V75_4, V75_5⟩ := hQ75
    have N75 := Fr.app N69 N75q
    have sz_b1_75 : h0.size ≤ b1_75 := Nat.le_trans K70.1 P75_0
    have g_b1_75 : n0 ≤ b1_75 := Nat.le_trans Z0 sz_b1_75
    have ne_b_69_b1_75 : b_69 ≠ b1_75 := Nat.ne_of_lt (Nat.lt_of_lt_of_le E71q.lt P75_0)
    have ne_b70_b1_75 : b70 ≠ b1_75 := Nat.ne_of_lt (Nat.lt_of_lt_of_le A70.lt P75_0)
    have sz_b2_75 : h0.size ≤ b2_75 := Nat.le_trans K70.1 P75_1
    have g_b2_75 : n0 ≤ b2_75 := Nat.le_trans Z0 sz_b2_75
    have ne_b_69_b2_75 : b_69 ≠ b2_75 := Nat.ne_of_lt (Nat.lt_of_lt_of_le E71q.lt P75_1)
    have ne_b70_b2_75 : b70 ≠ b2_75 := Nat.ne_of_lt (Nat.lt_of_lt_of_le A70.lt P75_1)
    have E76q : Exa Z T75.heap b_69 "[I" := E71q.keep K75q
    have V77 : Ary Z T75.heap b_69 .int 4 (lst [(.int (v_a p1)), (.int (v_b p2)), (.int (v_c p3)), (.int (v_d p4))]) := V72.keep K75q (ninS ne_b_69_b70 nin0)
    have E78q : Exa Z T75.heap b70 "com/example/regular_role_reasoner/regularrolereasoner/alcoif/Elements" := A70.keep K75q
    have K75 : Keep h0 T75.heap [] := K70.trans K75q (allS (Or.inr sz_b70) all0)
    refine Go.st (mkF m 57 #[.val (.int p0), .val (.int p1), .val (.int p2), .val (.int p3), .val (.int p4), .val (.int (4 : Int32)), .val (.int (v_a p1)), .val (.int (v_b p2)), .val (.int (v_c p3)), .val (.int (v_d p4)), .val (.ref b_69), .unset, .unset, .unset] [(.ref b70)]) (fun _ k => st75.trans k) ?_
    refine Go.st (mkF m 59 #[.val (.int p0), .val (.int p1), .val (.int p2), .val (.int p3), .val (.int p4), .val (.int (4 : Int32)), .val (.int (v_a p1)), .val (.int (v_b p2)), .val (.int (v_c p3)), .val (.int (v_d p4)), .val (.ref b_69), .val (.ref b70), .unset, .unset] []) (fun _ k => XS.astore X75.here hx rfl (hb hby at_57) rfl rfl (l' := #[.val (.int p0), .val (.int p1), .val (.int p2), .val (.int p3), .val (.int p4), .val (.int (4 : Int32)), .val (.int (v_a p1)), .val (.int (v_b p2)), .val (.int (v_c p3)), .val (.int (v_d p4)), .val (.ref b_69), .val (.ref b70), .unset, .unset]) rfl k) ?_
    refine Go.st (mkF m 61 #[.val (.int p0), .val (.int p1), .val (.int p2), .val (.int p3), .val (.int p4), .val (.int (4 : Int32)), .val (.int (v_a p1)), .val (.int (v_b p2)), .val (.int (v_c p3)), .val (.int (v_d p4)), .val (.ref b_69), .val (.ref b70), .unset, .unset] [(.int (4 : Int32))]) (fun _ k => XS.iload X75.here hx rfl (hb hby at_59) rfl k) ?_
    refine Go.st (mkF m 64 #[.val (.int p0), .val (.int p1), .val (.int p2), .val (.int p3), .val (.int p4), .val (.int (4 : Int32)), .val (.int (v_a p1)), .val (.int (v_b p2)), .val (.int (v_c p3)), .val (.int (v_d p4)), .val (.ref b_69), .val (.ref b70), .unset, .unset] []) (fun _ k => XS.ifNo X75.here hx rfl (hb hby at_61) rfl ((if0 _ _).trans (tlt (by decide : (0 : Int32) < (4 : Int32))).2.2.2) k) ?_
    refine Go.st (mkF m 66 #[.val (.int p0), .val (.int p1), .val (.int p2), .val (.int p3), .val (.int p4), .val (.int (4 : Int32)), .val (.int (v_a p1)), .val (.int (v_b p2)), .val (.int (v_c p3)), .val (.int (v_d p4)), .val (.ref b_69), .val (.ref b70), .unset, .unset] [(.ref b_69)]) (fun _ k => XS.aload X75.here hx rfl (hb hby at_64) rfl rfl k) ?_
    refine Go.st (mkF m 68 #[.val (.int p0), .val (.int p1), .val (.int p2), .val (.int p3), .val (.int p4), .val (.int (4 : Int32)), .val (.int (v_a p1)), .val (.int (v_b p2)), .val (.int (v_c p3)), .val (.int (v_d p4)), .val (.ref b_69), .val (.ref b70), .unset, .unset] [(.int (4 : Int32)), (.ref b_69)]) (fun _ k => XS.iload X75.here hx rfl (hb hby at_66) rfl k) ?_
    refine Go.st (mkF m 69 #[.val (.int p0), .val (.int p1), .val (.int p2), .val (.int p3), .val (.int p4), .val (.int (4 : Int32)), .val (.int (v_a p1)), .val (.int (v_b p2)), .val (.int (v_c p3)), .val (.int (v_d p4)), .val (.ref b_69), .val (.ref b70), .unset, .unset] [(.int (1 : Int32)), (.int (4 : Int32)), (.ref b_69)]) (fun _ k => XS.iconst X75.here hx rfl (hb hby at_68) k) ?_
    refine Go.st (mkF m 70 #[.val (.int p0), .val (.int p1), .val (.int p2), .val (.int p3), .val (.int p4), .val (.int (4 : Int32)), .val (.int (v_a p1)), .val (.int (v_b p2)), .val (.int (v_c p3)), .val (.int (v_d p4)), .val (.ref b_69), .val (.ref b70), .unset, .unset] [(.int (3 : Int32)), (.ref b_69)]) (fun _ k => XS.isub X75.here hx rfl (hb hby at_69) rfl k) ?_
    refine Go.st (mkF m 71 #[.val (.int p0), .val (.int p1), .val (.int p2), .val (.int p3), .val (.int p4), .val (.int (4 : Int32)), .val (.int (v_a p1)), .val (.int (v_b p2)), .val (.int (v_c p3)), .val (.int (v_d p4)), .val (.ref b_69), .val (.ref b70), .unset, .unset] [(.int (0 : Int32)), (.int (3 : Int32)), (.ref b_69)]) (fun _ k => XS.iconst X75.here hx rfl (hb hby at_70) k) ?_
    obtain ⟨T79, h79, X79, e79, W79, st79⟩ := stAI X75 hx hZ rfl V77 (i := 3) (by decide) (by decide) (by decide) (g := (mkF m 71 #[.val (.int p0), .val (.int p1), .val (.int p2), .val (.int p3), .val (.int p4), .val (.int (4 : Int32)), .val (.int (v_a p1)), .val (.int (v_b p2)), .val (.int (v_c p3)), .val (.int (v_d p4)), .val (.ref b_69), .val (.ref b70), .unset, .unset] [(.int (0 : Int32)), (.int (3 : Int32)), (.ref b_69)])) rfl rfl (hb hby at_71)
    have E80q : Exa Z h79 b_69 "[I" := E76q.wr W79
    have V81 : Ary Z h79 b_69 .int 4 (lst [(.int (v_a p1)), (.int (v_b p2)), (.int (v_c p3)), (.int (0 : Int32))]) := V77.sameL W79 (by simp)
    have E82q : Exa Z h79 b70 "com/example/regular_role_reasoner/regularrolereasoner/alcoif/Elements" := E78q.wr W79
    have F83 : Fld Z h79 b70 "com/example/regular_role_reasoner/regularrolereasoner/alcoif/Elements" "sizes" "[I" (.ref b1_75) := F75_2.other W79 (Or.inl (Ne.symm ne_b_69_b70))
    have F84 : Fld Z h79 b70 "com/example/regular_role_reasoner/regularrolereasoner/alcoif/Elements" "first" "[I" (.ref b2_75) := F75_3.other W79 (Or.inl (Ne.symm ne_b_69_b70))
    have V85 : Ary Z h79 b1_75 .int 4 (lst [(.int (v_a p1)), (.int (v_b p2)), (.int (v_c p3)), (.int (v_d p4))]) := V75_4.other W79 (Ne.symm ne_b_69_b1_75)
    have V86 : Ary Z h79 b2_75 .int 4 (lst [(.int (0 : Int32)), (.int ((0 : Int32) + (v_a p1))), (.int (((0 : Int32) + (v_a p1)) + (v_b p2))), (.int ((((0 : Int32) + (v_a p1)) + (v_b p2)) + (v_c p3)))]) := V75_5.other W79 (Ne.symm ne_b_69_b2_75)
    have K79 : Keep h0 h79 [] := K75.wr W79 (Or.inr sz_b_69)
    have N79 := Fr.snoc X79 N75 g_b_69
    refine Go.st (mkF m 72 #[.val (.int p0), .val (.int p1), .val (.int p2), .val (.int p3), .val (.int p4), .val (.int (4 : Int32)), .val (.int (v_a p1)), .val (.int (v_b p2)), .val (.int (v_c p3)), .val (.int (v_d p4)), .val (.ref b_69), .val (.ref b70), .unset, .unset] []) (fun _ k => st79 _ k) ?_
    refine Go.st (mkF m 73 #[.val (.int p0), .val (.int p1), .val (.int p2), .val (.int p3), .val (.int p4), .val (.int (4 : Int32)), .val (.int (v_a p1)), .val (.int (v_b p2)), .val (.int (v_c p3)), .val (.int (v_d p4)), .val (.ref b_69), .val (.ref b70), .unset, .unset] [(.long (0 : Int64))]) (fun _ k => XT.lconst X79.here hx rfl (hb hby at_72) k) ?_
    refine Go.st (mkF m 75 #[.val (.int p0), .val (.int p1), .val (.int p2), .val (.int p3), .val (.int p4), .val (.int (4 : Int32)), .val (.int (v_a p1)), .val (.int (v_b p2)), .val (.int (v_c p3)), .val (.int (v_d p4)), .val (.ref b_69), .val (.ref b70), .val (.long (0 : Int64)), .second] []) (fun _ k => XT.lstore X79.here hx rfl (hb hby at_73) rfl (l' := #[.val (.int p0), .val (.int p1), .val (.int p2), .val (.int p3), .val (.int p4), .val (.int (4 : Int32)), .val (.int (v_a p1)), .val (.int (v_b p2)), .val (.int (v_c p3)), .val (.int (v_d p4)), .val (.ref b_69), .val (.ref b70), .val (.long (0 : Int64)), .second]) rfl k) ?_
    refine Go.st (mkF m 77 #[.val (.int p0), .val (.int p1), .val (.int p2), .val (.int p3), .val (.int p4), .val (.int (4 : Int32)), .val (.int (v_a p1)), .val (.int (v_b p2)), .val (.int (v_c p3)), .val (.int (v_d p4)), .val (.ref b_69), .val (.ref b70), .val (.long (0 : Int64)), .second] [(.int (4 : Int32))]) (fun _ k => XS.iload X79.here hx rfl (hb hby at_75) rfl k) ?_
    refine Go.st (mkF m 80 #[.val (.int p0), .val (.int p1), .val (.int p2), .val (.int p3), .val (.int p4), .val (.int (4 : Int32)), .val (.int (v_a p1)), .val (.int (v_b p2)), .val (.int (v_c p3)), .val (.int (v_d p4)), .val (.ref b_69), .val (.ref b70), .val (.long (0 : Int64)), .second] []) (fun _ k => XS.ifNo X79.here hx rfl (hb hby at_77) rfl ((if0 _ _).trans (tlt (by decide : (0 : Int32) < (4 : Int32))).2.2.2) k) ?_
    refine Go.st (mkF m 82 #[.val (.int p0), .val (.int p1), .val (.int p2), .val (.int p3), .val (.int p4), .val (.int (4 : Int32)), .val (.int (v_a p1)), .val (.int (v_b p2)), .val (.int (v_c p3)), .val (.int (v_d p4)), .val (.ref b_69), .val (.ref b70), .val (.long (0 : Int64)), .second] [(.long (0 : Int64))]) (fun _ k => XT.lload X79.here hx rfl (hb hby at_80) rfl k) ?_
    refine Go.st (mkF m 84 #[.val (.int p0), .val (.int p1), .val (.int p2), .val (.int p3), .val (.int p4), .val (.int (4 : Int32)), .val (.int (v_a p1)), .val (.int (v_b p2)), .val (.int (v_c p3)), .val (.int (v_d p4)), .val (.ref b_69), .val (.ref b70), .val (.long (0 : Int64)), .second] [(.int (v_a p1)), (.long (0 : Int64))]) (fun _ k => XS.iload X79.here hx rfl (hb hby at_82) rfl k) ?_
    refine Go.st (mkF m 85 #[.val (.int p0), .val (.int p1), .val (.int p2), .val (.int p3), .val (.int p4), .val (.int (4 : Int32)), .val (.int (v_a p1)), .val (.int (v_b p2)), .val (.int (v_c p3)), .val (.int (v_d p4)), .val (.ref b_69), .val (.ref b70), .val (.long (0 : Int64)), .second] [(.long ((v_a p1).toInt64)), (.long (0 : Int64))]) (fun _ k => XT.i2l X79.here hx rfl (hb hby at_84) rfl k) ?_
    refine Go.st (mkF m 86 #[.val (.int p0), .val (.int p1), .val (.int p2), .val (.int p3), .val (.int p4), .val (.int (4 : Int32)), .val (.int (v_a p1)), .val (.int (v_b p2)), .val (.int (v_c p3)), .val (.int (v_d p4)), .val (.ref b_69), .val (.ref b70), .val (.long (0 : Int64)), .second] [(.long ((0 : Int64) + ((v_a p1).toInt64)))]) (fun _ k => XT.ladd X79.here hx rfl (hb hby at_85) rfl k) ?_
    refine Go.st (mkF m 88 #[.val (.int p0), .val (.int p1), .val (.int p2), .val (.int p3), .val (.int p4), .val (.int (4 : Int32)), .val (.int (v_a p1)), .val (.int (v_b p2)), .val (.int (v_c p3)), .val (.int (v_d p4)), .val (.ref b_69), .val (.ref b70), .val (.long ((0 : Int64) + ((v_a p1).toInt64))), .second] []) (fun _ k => XT.lstore X79.here hx rfl (hb hby at_86) rfl (l' := #[.val (.int p0), .val (.int p1), .val (.int p2), .val (.int p3), .val (.int p4), .val (.int (4 : Int32)), .val (.int (v_a p1)), .val (.int (v_b p2)), .val (.int (v_c p3)), .val (.int (v_d p4)), .val (.ref b_69), .val (.ref b70), .val (.long ((0 : Int64) + ((v_a p1).toInt64))), .second]) rfl k) ?_
    refine Go.st (mkF m 90 #[.val (.int p0), .val (.int p1), .val (.int p2), .val (.int p3), .val (.int p4), .val (.int (4 : Int32)), .val (.int (v_a p1)), .val (.int (v_b p2)), .val (.int (v_c p3)), .val (.int (v_d p4)), .val (.ref b_69), .val (.ref b70), .val (.long ((0 : Int64) + ((v_a p1).toInt64))), .second] [(.int (4 : Int32))]) (fun _ k => XS.iload X79.here hx rfl (hb hby at_88) rfl k) ?_
    refine Go.st (mkF m 91 #[.val (.int p0), .val (.int p1), .val (.int p2), .val (.int p3), .val (.int p4), .val (.int (4 : Int32)), .val (.int (v_a p1)), .val (.int (v_b p2)), .val (.int (v_c p3)), .val (.int (v_d p4)), .val (.ref b_69), .val (.ref b70), .val (.long ((0 : Int64) + ((v_a p1).toInt64))), .second] [(.int (1 : Int32)), (.int (4 : Int32))]) (fun _ k => XS.iconst X79.here hx rfl (hb hby at_90) k) ?_
    refine Go.st (mkF m 94 #[.val (.int p0), .val (.int p1), .val (.int p2), .val (.int p3), .val (.int p4), .val (.int (4 : Int32)), .val (.int (v_a p1)), .val (.int (v_b p2)), .val (.int (v_c p3)), .val (.int (v_d p4)), .val (.ref b_69), .val (.ref b70), .val (.long ((0 : Int64) + ((v_a p1).toInt64))), .second] []) (fun _ k => XS.icmpNo X79.here hx rfl (hb hby at_91) rfl (tlt (by decide : (1 : Int32) < (4 : Int32))).2.2.2 k) ?_
    refine Go.st (mkF m 96 #[.val (.int p0), .val (.int p1), .val (.int p2), .val (.int p3), .val (.int p4), .val (.int (4 : Int32)), .val (.int (v_a p1)), .val (.int (v_b p2)), .val (.int (v_c p3)), .val (.int (v_d p4)), .val (.ref b_69), .val (.ref b70), .val (.long ((0 : Int64) + ((v_a p1).toInt64))), .second] [(.long ((0 : Int64) + ((v_a p1).toInt64)))]) (fun _ k => XT.lload X79.here hx rfl (hb hby at_94) rfl k) ?_
    refine Go.st (mkF m 98 #[.val (.int p0), .val (.int p1), .val (.int p2), .val (.int p3), .val (.int p4), .val (.int (4 : Int32)), .val (.int (v_a p1)), .val (.int (v_b p2)), .val (.int (v_c p3)), .val (.int (v_d p4)), .val (.ref b_69), .val (.ref b70), .val (.long ((0 : Int64) + ((v_a p1).toInt64))), .second] [(.int (v_b p2)), (.long ((0 : Int64) + ((v_a p1).toInt64)))]) (fun _ k => XS.iload X79.here hx rfl (hb hby at_96) rfl k) ?_
    refine Go.st (mkF m 99 #[.val (.int p0), .val (.int p1), .val (.int p2), .val (.int p3), .val (.int p4), .val (.int (4 : Int32)), .val (.int (v_a p1)), .val (.int (v_b p2)), .val (.int (v_c p3)), .val (.int (v_d p4)), .val (.ref b_69), .val (.ref b70), .val (.long ((0 : Int64) + ((v_a p1).toInt64))), .second] [(.long ((v_b p2).toInt64)), (.long ((0 : Int64) + ((v_a p1).toInt64)))]) (fun _ k => XT.i2l X79.here hx rfl (hb hby at_98) rfl k) ?_
    refine Go.st (mkF m 100 #[.val (.int p0), .val (.int p1), .val (.int p2), .val (.int p3), .val (.int p4), .val (.int (4 : Int32)), .val (.int (v_a p1)), .val (.int (v_b p2)), .val (.int (v_c p3)), .val (.int (v_d p4)), .val (.ref b_69), .val (.ref b70), .val (.long ((0 : Int64) + ((v_a p1).toInt64))), .second] [(.long (((0 : Int64) + ((v_a p1).toInt64)) + ((v_b p2).toInt64)))]) (fun _ k => XT.ladd X79.here hx rfl (hb hby at_99) rfl k) ?_
    refine Go.st (mkF m 102 #[.val (.int p0), .val (.int p1), .val (.int p2), .val (.int p3), .val (.int p4), .val (.int (4 : Int32)), .val (.int (v_a p1)), .val (.int (v_b p2)), .val (.int (v_c p3)), .val (.int (v_d p4)), .val (.ref b_69), .val (.ref b70), .val (.long (((0 : Int64) + ((v_a p1).toInt64)) + ((v_b p2).toInt64))), .second] []) (fun _ k => XT.lstore X79.here hx rfl (hb hby at_100) rfl (l' := #[.val (.int p0), .val (.int p1), .val (.int p2), .val (.int p3), .val (.int p4), .val (.int (4 : Int32)), .val (.int (v_a p1)), .val (.int (v_b p2)), .val (.int (v_c p3)), .val (.int (v_d p4)), .val (.ref b_69), .val (.ref b70), .val (.long (((0 : Int64) + ((v_a p1).toInt64)) + ((v_b p2).toInt64))), .second]) rfl k) ?_
    refine Go.st (mkF m 104 #[.val (.int p0), .val (.int p1), .val (.int p2), .val (.int p3), .val (.int p4), .val (.int (4 : Int32)), .val (.int (v_a p1)), .val (.int (v_b p2)), .val (.int (v_c p3)), .val (.int (v_d p4)), .val (.ref b_69), .val (.ref b70), .val (.long (((0 : Int64) + ((v_a p1).toInt64)) + ((v_b p2).toInt64))), .second] [(.int (4 : Int32))]) (fun _ k => XS.iload X79.here hx rfl (hb hby at_102) rfl k) ?_
    refine Go.st (mkF m 105 #[.val (.int p0), .val (.int p1), .val (.int p2), .val (.int p3), .val (.int p4), .val (.int (4 : Int32)), .val (.int (v_a p1)), .val (.int (v_b p2)), .val (.int (v_c p3)), .val (.int (v_d p4)), .val (.ref b_69), .val (.ref b70), .val (.long (((0 : Int64) + ((v_a p1).toInt64)) + ((v_b p2).toInt64))), .second] [(.int (2 : Int32)), (.int (4 : Int32))]) (fun _ k => XS.iconst X79.here hx rfl (hb hby at_104) k) ?_
    refine Go.st (mkF m 108 #[.val (.int p0), .val (.int p1), .val (.int p2), .val (.int p3), .val (.int p4), .val (.int (4 : Int32)), .val (.int (v_a p1)), .val (.int (v_b p2)), .val (.int (v_c p3)), .val (.int (v_d p4)), .val (.ref b_69), .val (.ref b70), .val (.long (((0 : Int64) + ((v_a p1).toInt64)) + ((v_b p2).toInt64))), .second] []) (fun _ k => XS.icmpNo X79.here hx rfl (hb hby at_105) rfl (tlt (by decide : (2 : Int32) < (4 : Int32))).2.2.2 k) ?_
    refine Go.st (mkF m 110 #[.val (.int p0), .val (.int p1), .val (.int p2), .val (.int p3), .val (.int p4), .val (.int (4 : Int32)), .val (.int (v_a p1)), .val (.int (v_b p2)), .val (.int (v_c p3)), .val (.int (v_d p4)), .val (.ref b_69), .val (.ref b70), .val (.long (((0 : Int64) + ((v_a p1).toInt64)) + ((v_b p2).toInt64))), .second] [(.long (((0 : Int64) + ((v_a p1).toInt64)) + ((v_b p2).toInt64)))]) (fun _ k => XT.lload X79.here hx rfl (hb hby at_108) rfl k) ?_
    refine Go.st (mkF m 112 #[.val (.int p0), .val (.int p1), .val (.int p2), .val (.int p3), .val (.int p4), .val (.int (4 : Int32)), .val (.int (v_a p1)), .val (.int (v_b p2)), .val (.int (v_c p3)), .val (.int (v_d p4)), .val (.ref b_69), .val (.ref b70), .val (.long (((0 : Int64) + ((v_a p1).toInt64)) + ((v_b p2).toInt64))), .second] [(.int (v_c p3)), (.long (((0 : Int64) + ((v_a p1).toInt64)) + ((v_b p2).toInt64)))]) (fun _ k => XS.iload X79.here hx rfl (hb hby at_110) rfl k) ?_
    refine Go.st (mkF m 113 #[.val (.int p0), .val (.int p1), .val (.int p2), .val (.int p3), .val (.int p4), .val (.int (4 : Int32)), .val (.int (v_a p1)), .val (.int (v_b p2)), .val (.int (v_c p3)), .val (.int (v_d p4)), .val (.ref b_69), .val (.ref b70), .val (.long (((0 : Int64) + ((v_a p1).toInt64)) + ((v_b p2).toInt64))), .second] [(.long ((v_c p3).toInt64)), (.long (((0 : Int64) + ((v_a p1).toInt64)) + ((v_b p2).toInt64)))]) (fun _ k => XT.i2l X79.here hx rfl (hb hby at_112) rfl k) ?_
    refine Go.st (mkF m 114 #[.val (.int p0), .val (.int p1), .val (.int p2), .val (.int p3), .val (.int p4), .val (.int (4 : Int32)), .val (.int (v_a p1)), .val (.int (v_b p2)), .val (.int (v_c p3)), .val (.int (v_d p4)), .val (.ref b_69), .val (.ref b70), .val (.long (((0 : Int64) + ((v_a p1).toInt64)) + ((v_b p2).toInt64))), .second] [(.long ((((0 : Int64) + ((v_a p1).toInt64)) + ((v_b p2).toInt64)) + ((v_c p3).toInt64)))]) (fun _ k => XT.ladd X79.here hx rfl (hb hby at_113) rfl k) ?_
    refine Go.st (mkF m 116 #[.val (.int p0), .val (.int p1), .val (.int p2), .val (.int p3), .val (.int p4), .val (.int (4 : Int32)), .val (.int (v_a p1)), .val (.int (v_b p2)), .val (.int (v_c p3)), .val (.int (v_d p4)), .val (.ref b_69), .val (.ref b70), .val (.long ((((0 : Int64) + ((v_a p1).toInt64)) + ((v_b p2).toInt64)) + ((v_c p3).toInt64))), .second] []) (fun _ k => XT.lstore X79.here hx rfl (hb hby at_114) rfl (l' := #[.val (.int p0), .val (.int p1), .val (.int p2), .val (.int p3), .val (.int p4), .val (.int (4 : Int32)), .val (.int (v_a p1)), .val (.int (v_b p2)), .val (.int (v_c p3)), .val (.int (v_d p4)), .val (.ref b_69), .val (.ref b70), .val (.long ((((0 : Int64) + ((v_a p1).toInt64)) + ((v_b p2).toInt64)) + ((v_c p3).toInt64))), .second]) rfl k) ?_
    refine Go.st (mkF m 118 #[.val (.int p0), .val (.int p1), .val (.int p2), .val (.int p3), .val (.int p4), .val (.int (4 : Int32)), .val (.int (v_a p1)), .val (.int (v_b p2)), .val (.int (v_c p3)), .val (.int (v_d p4)), .val (.ref b_69), .val (.ref b70), .val (.long ((((0 : Int64) + ((v_a p1).toInt64)) + ((v_b p2).toInt64)) + ((v_c p3).toInt64))), .second] [(.int (4 : Int32))]) (fun _ k => XS.iload X79.here hx rfl (hb hby at_116) rfl k) ?_
    refine Go.st (mkF m 119 #[.val (.int p0), .val (.int p1), .val (.int p2), .val (.int p3), .val (.int p4), .val (.int (4 : Int32)), .val (.int (v_a p1)), .val (.int (v_b p2)), .val (.int (v_c p3)), .val (.int (v_d p4)), .val (.ref b_69), .val (.ref b70), .val (.long ((((0 : Int64) + ((v_a p1).toInt64)) + ((v_b p2).toInt64)) + ((v_c p3).toInt64))), .second] [(.int (3 : Int32)), (.int (4 : Int32))]) (fun _ k => XS.iconst X79.here hx rfl (hb hby at_118) k) ?_
    refine Go.st (mkF m 122 #[.val (.int p0), .val (.int p1), .val (.int p2), .val (.int p3), .val (.int p4), .val (.int (4 : Int32)), .val (.int (v_a p1)), .val (.int (v_b p2)), .val (.int (v_c p3)), .val (.int (v_d p4)), .val (.ref b_69), .val (.ref b70), .val (.long ((((0 : Int64) + ((v_a p1).toInt64)) + ((v_b p2).toInt64)) + ((v_c p3).toInt64))), .second] []) (fun _ k => XS.icmpNo X79.here hx rfl (hb hby at_119) rfl (tlt (by decide : (3 : Int32) < (4 : Int32))).2.2.2 k) ?_
    refine Go.st (mkF m 124 #[.val (.int p0), .val (.int p1), .val (.int p2), .val (.int p3), .val (.int p4), .val (.int (4 : Int32)), .val (.int (v_a p1)), .val (.int (v_b p2)), .val (.int (v_c p3)), .val (.int (v_d p4)), .val (.ref b_69), .val (.ref b70), .val (.long ((((0 : Int64) + ((v_a p1).toInt64)) + ((v_b p2).toInt64)) + ((v_c p3).toInt64))), .second] [(.long ((((0 : Int64) + ((v_a p1).toInt64)) + ((v_b p2).toInt64)) + ((v_c p3).toInt64)))]) (fun _ k => XT.lload X79.here hx rfl (hb hby at_122) rfl k) ?_
    refine Go.st (mkF m 126 #[.val (.int p0), .val (.int p1), .val (.int p2), .val (.int p3), .val (.int p4), .val (.int (4 : Int32)), .val (.int (v_a p1)), .val (.int (v_b p2)), .val (.int (v_c p3)), .val (.int (v_d p4)), .val (.ref b_69), .val (.ref b70), .val (.long ((((0 : Int64) + ((v_a p1).toInt64)) + ((v_b p2).toInt64)) + ((v_c p3).toInt64))), .second] [(.int (v_d p4)), (.long ((((0 : Int64) + ((v_a p1).toInt64)) + ((v_b p2).toInt64)) + ((v_c p3).toInt64)))]) (fun _ k => XS.iload X79.here hx rfl (hb hby at_124) rfl k) ?_
    refine Go.st (mkF m 127 #[.val (.int p0), .val (.int p1), .val (.int p2), .val (.int p3), .val (.int p4), .val (.int (4 : Int32)), .val (.int (v_a p1)), .val (.int (v_b p2)), .val (.int (v_c p3)), .val (.int (v_d p4)), .val (.ref b_69), .val (.ref b70), .val (.long ((((0 : Int64) + ((v_a p1).toInt64)) + ((v_b p2).toInt64)) + ((v_c p3).toInt64))), .second] [(.long ((v_d p4).toInt64)), (.long ((((0 : Int64) + ((v_a p1).toInt64)) + ((v_b p2).toInt64)) + ((v_c p3).toInt64)))]) (fun _ k => XT.i2l X79.here hx rfl (hb hby at_126) rfl k) ?_
    refine Go.st (mkF m 128 #[.val (.int p0), .val (.int p1), .val (.int p2), .val (.int p3), .val (.int p4), .val (.int (4 : Int32)), .val (.int (v_a p1)), .val (.int (v_b p2)), .val (.int (v_c p3)), .val (.int (v_d p4)), .val (.ref b_69), .val (.ref b70), .val (.long ((((0 : Int64) + ((v_a p1).toInt64)) + ((v_b p2).toInt64)) + ((v_c p3).toInt64))), .second] [(.long (((((0 : Int64) + ((v_a p1).toInt64)) + ((v_b p2).toInt64)) + ((v_c p3).toInt64)) + ((v_d p4).toInt64)))]) (fun _ k => XT.ladd X79.here hx rfl (hb hby at_127) rfl k) ?_
    refine Go.st (mkF m 130 #[.val (.int p0), .val (.int p1), .val (.int p2), .val (.int p3), .val (.int p4), .val (.int (4 : Int32)), .val (.int (v_a p1)), .val (.int (v_b p2)), .val (.int (v_c p3)), .val (.int (v_d p4)), .val (.ref b_69), .val (.ref b70), .val (.long (((((0 : Int64) + ((v_a p1).toInt64)) + ((v_b p2).toInt64)) + ((v_c p3).toInt64)) + ((v_d p4).toInt64))), .second] []) (fun _ k => XT.lstore X79.here hx rfl (hb hby at_128) rfl (l' := #[.val (.int p0), .val (.int p1), .val (.int p2), .val (.int p3), .val (.int p4), .val (.int (4 : Int32)), .val (.int (v_a p1)), .val (.int (v_b p2)), .val (.int (v_c p3)), .val (.int (v_d p4)), .val (.ref b_69), .val (.ref b70), .val (.long (((((0 : Int64) + ((v_a p1).toInt64)) + ((v_b p2).toInt64)) + ((v_c p3).toInt64)) + ((v_d p4).toInt64))), .second]) rfl k) ?_
    refine Go.st (mkF m 132 #[.val (.int p0), .val (.int p1), .val (.int p2), .val (.int p3), .val (.int p4), .val (.int (4 : Int32)), .val (.int (v_a p1)), .val (.int (v_b p2)), .val (.int (v_c p3)), .val (.int (v_d p4)), .val (.ref b_69), .val (.ref b70), .val (.long (((((0 : Int64) + ((v_a p1).toInt64)) + ((v_b p2).toInt64)) + ((v_c p3).toInt64)) + ((v_d p4).toInt64))), .second] [(.ref b70)]) (fun _ k => XS.aload X79.here hx rfl (hb hby at_130) rfl rfl k) ?_
    obtain ⟨cq87, kq87, q87a, q87b, q87c⟩ := isOf hZ e79 E82q
    obtain ⟨_, _, ⟨T87, L87, k87, n87⟩, -, X87, ⟨Lc87, hQ87, l87, y87, z87⟩, st87⟩ := X79.virtualBack hx (y := (⟨"com/example/regular_role_reasoner/regularrolereasoner/alcoif/Elements", "total", "()I"⟩ : MethodName)) (z := (⟨"com/example/regular_role_reasoner/regularrolereasoner/alcoif/Elements", "total", "()I"⟩ : MethodName)) hown (mvT hZ (hw _ (List.mem_of_getElem? (i := 29) rfl))) (mvT hZ (hw _ (List.mem_of_getElem? (i := 30) rfl))) (notFace_of_selects (args := #[]) (mvT hZ (hw _ (List.mem_of_getElem? (i := 32) rfl)))) (mvT hZ (hw _ (List.mem_of_getElem? (i := 32) rfl))) (mvT hZ (hw _ (List.mem_of_getElem? (i := 31) rfl))) (by decide) (backOf (W := 0) (rm_34 l Z a0 hw [] b70 b1_75 b2_75 (v_a p1) (v_b p2) (v_c p3) (v_d p4) (0 : Int32) ((0 : Int32) + (v_a p1)) (((0 : Int32) + (v_a p1)) + (v_b p2)) ((((0 : Int32) + (v_a p1)) + (v_b p2)) + (v_c p3)) h79 n0 (Nat.le_trans Z0 K79.1) F83 F84 V85 V86) hZ (hw _ (List.mem_of_getElem? (i := 33) rfl)) (hw _ (List.mem_of_getElem? (i := 9) rfl)) (by decide) (by decide)) q87a q87c (g := (mkF m 132 #[.val (.int p0), .val (.int p1), .val (.int p2), .val (.int p3), .val (.int p4), .val (.int (4 : Int32)), .val (.int (v_a p1)), .val (.int (v_b p2)), .val (.int (v_c p3)), .val (.int (v_d p4)), .val (.ref b_69), .val (.ref b70), .val (.long (((((0 : Int64) + ((v_a p1).toInt64)) + ((v_b p2).toInt64)) + ((v_c p3).toInt64)) + ((v_d p4).toInt64))), .second] [(.ref b70)])) rfl (by rw [hml]; rfl) (Steps.refl _) (argsL := []) (rest := []) (lenOf pd_3 rfl) rfl (by show 2 * 0 + _ ≤ _; exact Nat.le_of_eq rfl) (hb hby at_132) (fun _ _ => ⟨rfl, e79, (by decide : 4 + 0 ≤ _), (by decide : 14 + 0 ≤ _)⟩)
    dsimp only [Pt.U, Pt.locs, Pt.cells, Pt.slots] at X87 l87 y87 z87 st87 hQ87
    subst l87 y87 z87
    obtain ⟨rfl, N87q, e87⟩ := hQ87
    have N87 := Fr.app N79 N87q
    refine Go.st (mkF m 135 #[.val (.int p0), .val (.int p1), .val (.int p2), .val (.int p3), .val (.int p4), .val (.int (4 : Int32)), .val (.int (v_a p1)), .val (.int (v_b p2)), .val (.int (v_c p3)), .val (.int (v_d p4)), .val (.ref b_69), .val (.ref b70), .val (.long (((((0 : Int64) + ((v_a p1).toInt64)) + ((v_b p2).toInt64)) + ((v_c p3).toInt64)) + ((v_d p4).toInt64))), .second] [(.int (((((0 : Int32) + (v_a p1)) + (v_b p2)) + (v_c p3)) + (v_d p4)))]) (fun _ k => st87.trans k) ?_
    refine Go.st (mkF m 136 #[.val (.int p0), .val (.int p1), .val (.int p2), .val (.int p3), .val (.int p4), .val (.int (4 : Int32)), .val (.int (v_a p1)), .val (.int (v_b p2)), .val (.int (v_c p3)), .val (.int (v_d p4)), .val (.ref b_69), .val (.ref b70), .val (.long (((((0 : Int64) + ((v_a p1).toInt64)) + ((v_b p2).toInt64)) + ((v_c p3).toInt64)) + ((v_d p4).toInt64))), .second] [(.long ((((((0 : Int32) + (v_a p1)) + (v_b p2)) + (v_c p3)) + (v_d p4)).toInt64))]) (fun _ k => XT.i2l X87.here hx rfl (hb hby at_135) rfl k) ?_
    refine Go.st (mkF m 138 #[.val (.int p0), .val (.int p1), .val (.int p2), .val (.int p3), .val (.int p4), .val (.int (4 : Int32)), .val (.int (v_a p1)), .val (.int (v_b p2)), .val (.int (v_c p3)), .val (.int (v_d p4)), .val (.ref b_69), .val (.ref b70), .val (.long (((((0 : Int64) + ((v_a p1).toInt64)) + ((v_b p2).toInt64)) + ((v_c p3).toInt64)) + ((v_d p4).toInt64))), .second] [(.long (((((0 : Int64) + ((v_a p1).toInt64)) + ((v_b p2).toInt64)) + ((v_c p3).toInt64)) + ((v_d p4).toInt64))), (.long ((((((0 : Int32) + (v_a p1)) + (v_b p2)) + (v_c p3)) + (v_d p4)).toInt64))]) (fun _ k => XT.lload X87.here hx rfl (hb hby at_136) rfl k) ?_
    refine Go.st (mkF m 139 #[.val (.int p0), .val (.int p1), .val (.int p2), .val (.int p3), .val (.int p4), .val (.int (4 : Int32)), .val (.int (v_a p1)), .val (.int (v_b p2)), .val (.int (v_c p3)), .val (.int (v_d p4)), .val (.ref b_69), .val (.ref b70), .val (.long (((((0 : Int64) + ((v_a p1).toInt64)) + ((v_b p2).toInt64)) + ((v_c p3).toInt64)) + ((v_d p4).toInt64))), .second] [(.int (cmpL ((((((0 : Int32) + (v_a p1)) + (v_b p2)) + (v_c p3)) + (v_d p4)).toInt64) (((((0 : Int64) + ((v_a p1).toInt64)) + ((v_b p2).toInt64)) + ((v_c p3).toInt64)) + ((v_d p4).toInt64))))]) (fun _ k => XT.lcmp X87.here hx rfl (hb hby at_138) rfl k) ?_
    refine Go.st (mkF m 142 #[.val (.int p0), .val (.int p1), .val (.int p2), .val (.int p3), .val (.int p4), .val (.int (4 : Int32)), .val (.int (v_a p1)), .val (.int (v_b p2)), .val (.int (v_c p3)), .val (.int (v_d p4)), .val (.ref b_69), .val (.ref b70), .val (.long (((((0 : Int64) + ((v_a p1).toInt64)) + ((v_b p2).toInt64)) + ((v_c p3).toInt64)) + ((v_d p4).toInt64))), .second] []) (fun _ k => XS.ifNo X87.here hx rfl (hb hby at_139) rfl (own_leT (own_t4 (own_ma _) (own_mb _) (own_mc _) (own_md _))).2 k) ?_
    refine Go.st (mkF m 143 #[.val (.int p0), .val (.int p1), .val (.int p2), .val (.int p3), .val (.int p4), .val (.int (4 : Int32)), .val (.int (v_a p1)), .val (.int (v_b p2)), .val (.int (v_c p3)), .val (.int (v_d p4)), .val (.ref b_69), .val (.ref b70), .val (.long (((((0 : Int64) + ((v_a p1).toInt64)) + ((v_b p2).toInt64)) + ((v_c p3).toInt64)) + ((v_d p4).toInt64))), .second] [(.int (1 : Int32))]) (fun _ k => XS.iconst X87.here hx rfl (hb hby at_142) k) ?_
    refine Go.st (mkF m 147 #[.val (.int p0), .val (.int p1), .val (.int p2), .val (.int p3), .val (.int p4), .val (.int (4 : Int32)), .val (.int (v_a p1)), .val (.int (v_b p2)), .val (.int (v_c p3)), .val (.int (v_d p4)), .val (.ref b_69), .val (.ref b70), .val (.long (((((0 : Int64) + ((v_a p1).toInt64)) + ((v_b p2).toInt64)) + ((v_c p3).toInt64)) + ((v_d p4).toInt64))), .second] [(.int (1 : Int32))]) (fun _ k => XS.goto X87.here hx rfl (pc0 := 143) (pc' := 147) rfl (hb hby at_143) (by decide) (by decide) k) ?_
    exact Go.retZ X87 hx Bd.notSynchronized (t := .boolean) (by simp) Bd.returns (hb hby at_147) (by rw [e87]; exact ⟨rfl, N87, K79⟩) (by decide) (by decide)
set_option maxRecDepth 65536 in
set_option maxHeartbeats 40000000 in
theorem comes_1 {Post : Tables → Env → Array Value → State → Outcome → State → Prop} (hpost : ∀ tb e args s v u, (limb_1_1.after args s (.returned v) u = true ∧ limb_1_2.after args s (.returned v) u = true ∧ True) → FrameEnd s (.returned v) u (Jvm.fieldLocs frame_1_writes args s ++ Jvm.arrayLocs frame_1_arrays args s ++ Jvm.staticLocs frame_1_statics s) 16 128 → Post tb e args s (.returned v) u) :
    ArmFor flags0 classFile x code maxLocals ret World_1 tables_1 room_1 Calls_1 rest_1 Pre_1 Post := by
  intro l hfl _ _ p e ha hc hk s m args below hf hA hF happ hP
  obtain ⟨hcalls, hrest, hpre⟩ := hP
  obtain ⟨-, -, -, hnamed, -, -, -, hat⟩ := (Spec.applies_iff hf).mp happ
  obtain ⟨hg, hn⟩ := and_e (Cond.before_iff.mp (show (Jvm.Cond.and given_1 narrow_1).before args s = true from hpre))
  obtain ⟨h1, g0⟩ := and_e hg
  obtain ⟨a0, g1⟩ := and_e g0
  obtain ⟨a1, g2⟩ := and_e g1
  obtain ⟨a2, g3⟩ := and_e g2
  obtain ⟨a3, g4⟩ := and_e g3
  obtain ⟨w0, w1, w2, w3, w4, rfl⟩ : ∃ w0 w1 w2 w3 w4 : Value, args = #[w0, w1, w2, w3, w4] := by
    have hs : args.size = 5 := by simpa [Cond.value, given_1] using h1
    obtain ⟨L⟩ := args
    match L, hs with
    | [w0, w1, w2, w3, w4], _ => exact ⟨w0, w1, w2, w3, w4, rfl⟩
  have hw := fun d (hd : d ∈ tables_1) => atoms_spec (ws := Jvm.Cond.code x code maxLocals ret :: tables_1) hat d (List.mem_cons_of_mem _ hd)
  obtain ⟨i0, e0⟩ := is_v a0
  obtain rfl : w0 = (.int i0) := Option.some.inj e0
  obtain ⟨i1, e1⟩ := is_v a1
  obtain rfl : w1 = (.int i1) := Option.some.inj e1
  obtain ⟨i2, e2⟩ := is_v a2
  obtain rfl : w2 = (.int i2) := Option.some.inj e2
  obtain ⟨i3, e3⟩ := is_v a3
  obtain rfl : w3 = (.int i3) := Option.some.inj e3
  obtain ⟨i4, e4⟩ := is_v g4
  obtain rfl : w4 = (.int i4) := Option.some.inj e4
  obtain ⟨n, o, h1, h2, h3, _, L, rfl, ⟨rfl, N, _⟩, hq⟩ := rm_0 l s _ hw tables_1 i0 i1 i2 i3 i4 s.heap s.heap.size (Nat.le_refl _) p e ha hc hk s m _ below hf ((Spec.applies_iff_loose hf).mp happ).1 ⟨rfl, State.Warmed39.refl s, rfl⟩ trivial
  refine ⟨n, _, h1, h2, h3, hpost _ _ _ _ _ _ ⟨Cond.after_iff.mpr rfl, Cond.after_iff.mpr (eq_i res_at (Term.int_eval (1)) rfl), trivial⟩ ⟨hq.1, hq.2.1, (hq.2.2.sift fun y hy => Or.inr (N y hy)).mono (by decide) (by decide)⟩⟩
theorem main_1_1 : Claimed_1_1 := comes_1 fun _ _ _ _ _ _ h hF => ⟨h.1, hF⟩
theorem main_1_2 : Claimed_1_2 := comes_1 fun _ _ _ _ _ _ h hF => ⟨h.2.1, hF⟩
end Jvm.Pilot.@@N@@
namespace Jvm.Pilot.@@N@@
open Jvm Jvm.ClassFile Sem Op Lib Jvm.Free Jvm.Stand Jvm.Pilot.@@N@@.Jvm.D
/-! MADE BY PROGRAM (witnessworld.py) out of the Statement's table words and the real class files: 10 classes; the members and pool entries that the words name. The judged class is class 1, her method 2. -/
namespace start1
open Jvm.ClassFile
def u (s : String) : CpInfo := .utf8 (stringToUtf16 s)
/-- a pool by its gaps: so many unusable entries, then the entry; so many at the end -/
def gap : Nat → List CpInfo → List CpInfo
  | 0, r => r
  | n + 1, r => .unusable :: gap n r
def poolList (es : List (Nat × CpInfo)) (last : Nat) : List CpInfo := es.foldr (fun e r => gap e.1 (e.2 :: r)) (gap last [])
def pool (es : List (Nat × CpInfo)) (last : Nat) : Array CpInfo := ⟨poolList es last⟩
def fileOf (pool : Array CpInfo) (this : Nat) (attrs : Array Attribute := #[]) (ms : Array MethodInfo := #[]) (fl : Nat := 33) (sup : Nat := 0) (ifs : Array Nat := #[]) (fds : Array FieldInfo := #[]) : ClassFile where
  minorVersion := 0
  majorVersion := 65
  constantPool := pool
  accessFlags := fl
  thisClass := this
  superClass := sup
  interfaces := ifs
  fields := fds
  methods := ms
  attributes := attrs
def plain (name : String) (sup : Option ClassId) : Class where
  name := name
  kind := .ordinary
  loader := none
  accessFlags := 33
  super := sup
  interfaces := #[]
  cf := none
  fields := #[]
  methods := #[]
  instanceTypes := #[]
  staticTypes := #[]
  resolved := #[]
  callSites := []
  init := .initialized
  statics := none
  mirror := none

def pool0 : Array CpInfo := pool [(5, u "<init>"), (0, u "()V"), (1, .class_ 10), (1, u "java/lang/Object"), (85, u "clone"), (0, u "()Ljava/lang/Object;")] 26

def k0c0 : Code := { maxStack := 0, maxLocals := 1, code := object_method_1_code, exceptionTable := #[], attributes := #[] }
def k0m0 : Method := { name := "<init>", desc := "()V", sig := { parameters := [], returnType := none }, accessFlags := 1, code := some k0c0 }
def k0m1 : Method := { name := "clone", desc := "()Ljava/lang/Object;", sig := { parameters := [], returnType := some (.object "java/lang/Object") }, accessFlags := 260, code := none }
/-- java/lang/Object -/
def k0 : Class := { plain "java/lang/Object" none with
  accessFlags := 33
  interfaces := #[]
  cf := some (fileOf pool0 8 #[] #[{ accessFlags := 1, nameIndex := 5, descriptorIndex := 6, attributes := #[] }, { accessFlags := 260, nameIndex := 96, descriptorIndex := 97, attributes := #[] }] 33 0 #[] #[])
  fields := #[]
  methods := #[k0m0, k0m1]
  instanceTypes := #[]
  staticTypes := #[]
  resolved := Array.replicate 124 none
  statics := none }

def pool1 : Array CpInfo := pool [(2, .class_ 4), (1, u "java/lang/Object"), (0, u "<init>"), (0, u "()V"), (0, .integer 2147483647), (0, .integer 536870911), (0, .methodref 10 11), (0, .class_ 12), (0, .nameAndType 13 14), (0, u "com/example/regular_role_reasoner/regularrolereasoner/alcoif/ElementsTotalPinLaw"), (0, u "build"), (0, u "(IIIII)[I"), (0, .class_ 16), (0, u "com/example/regular_role_reasoner/regularrolereasoner/alcoif/Elements"), (0, .methodref 15 18), (0, .nameAndType 5 19), (0, u "([I)V"), (0, .methodref 15 21), (0, .nameAndType 22 23), (0, u "total"), (0, u "()I"), (3, u "law"), (0, u "(IIIII)Z")] 4

def k1m0 : Method := { name := "<init>", desc := "()V", sig := { parameters := [], returnType := none }, accessFlags := 1, code := none }
def k1c1 : Code := { maxStack := 4, maxLocals := 5, code := method_2_code, exceptionTable := #[], attributes := #[] }
def k1m1 : Method := { name := "build", desc := "(IIIII)[I", sig := { parameters := [.int, .int, .int, .int, .int], returnType := some (.array .int) }, accessFlags := 10, code := some k1c1 }
def k1c2 : Code := { maxStack := 5, maxLocals := 14, code := code, exceptionTable := #[], attributes := #[] }
def k1m2 : Method := { name := "law", desc := "(IIIII)Z", sig := { parameters := [.int, .int, .int, .int, .int], returnType := some .boolean }, accessFlags := 9, code := some k1c2 }
/-- com/example/regular_role_reasoner/regularrolereasoner/alcoif/ElementsTotalPinLaw -/
def k1 : Class := { plain "com/example/regular_role_reasoner/regularrolereasoner/alcoif/ElementsTotalPinLaw" (some 0) with
  accessFlags := 49
  interfaces := #[]
  cf := some (fileOf pool1 10 #[] #[{ accessFlags := 1, nameIndex := 5, descriptorIndex := 6, attributes := #[] }, { accessFlags := 10, nameIndex := 13, descriptorIndex := 14, attributes := #[] }, { accessFlags := 9, nameIndex := 27, descriptorIndex := 28, attributes := #[] }] 49 2 #[] #[])
  fields := #[]
  methods := #[k1m0, k1m1, k1m2]
  instanceTypes := #[]
  staticTypes := #[]
  resolved := Array.replicate 33 none
  statics := none }

def pool2 : Array CpInfo := pool [(1, .methodref 2 3), (0, .class_ 4), (0, .nameAndType 5 6), (0, u "java/lang/Object"), (0, u "<init>"), (0, u "()V"), (0, .methodref 8 9), (0, .class_ 10), (0, .nameAndType 11 12), (0, u "[I"), (0, u "clone"), (0, u "()Ljava/lang/Object;"), (0, .fieldref 14 15), (0, .class_ 16), (0, .nameAndType 17 10), (0, u "com/example/regular_role_reasoner/regularrolereasoner/alcoif/Elements"), (0, u "sizes"), (0, .fieldref 14 19), (0, .nameAndType 20 10), (0, u "first"), (0, .methodref 22 23), (0, .class_ 24), (0, .nameAndType 25 26), (0, u "java/lang/Math"), (0, u "addExact"), (0, u "(II)I"), (0, u "([I)V"), (5, u "total"), (0, u "()I")] 2

def k2c0 : Code := { maxStack := 3, maxLocals := 4, code := prog_1_method_1_code, exceptionTable := #[], attributes := #[] }
def k2m0 : Method := { name := "<init>", desc := "([I)V", sig := { parameters := [(.array .int)], returnType := none }, accessFlags := 0, code := some k2c0 }
def k2c1 : Code := { maxStack := 4, maxLocals := 1, code := prog_1_method_4_code, exceptionTable := #[], attributes := #[] }
def k2m1 : Method := { name := "total", desc := "()I", sig := { parameters := [], returnType := some .int }, accessFlags := 0, code := some k2c1 }
/-- com/example/regular_role_reasoner/regularrolereasoner/alcoif/Elements -/
def k2 : Class := { plain "com/example/regular_role_reasoner/regularrolereasoner/alcoif/Elements" (some 0) with
  accessFlags := 48
  interfaces := #[]
  cf := some (fileOf pool2 14 #[] #[{ accessFlags := 0, nameIndex := 5, descriptorIndex := 27, attributes := #[] }, { accessFlags := 0, nameIndex := 33, descriptorIndex := 34, attributes := #[] }] 48 2 #[] #[{ accessFlags := 18, nameIndex := 20, descriptorIndex := 10, attributes := #[] }, { accessFlags := 18, nameIndex := 17, descriptorIndex := 10, attributes := #[] }])
  fields := #[{ name := "first", type := (.array .int), accessFlags := 18, slot := 0, constantValue := 0 }, { name := "sizes", type := (.array .int), accessFlags := 18, slot := 1, constantValue := 0 }]
  methods := #[k2m0, k2m1]
  instanceTypes := #[(.array .int), (.array .int)]
  staticTypes := #[]
  resolved := Array.replicate 37 none
  statics := none }

def pool3 : Array CpInfo := pool [(1, .class_ 2), (0, u "java/lang/Cloneable"), (0, .class_ 4), (0, u "java/lang/Object")] 2

/-- java/lang/Cloneable -/
def k3 : Class := { plain "java/lang/Cloneable" (some 0) with
  accessFlags := 1537
  interfaces := #[]
  cf := some (fileOf pool3 1 #[] #[] 1537 3 #[] #[])
  fields := #[]
  methods := #[]
  instanceTypes := #[]
  staticTypes := #[]
  resolved := Array.replicate 7 none
  statics := none }

def pool4 : Array CpInfo := pool [(1, .class_ 2), (0, u "java/lang/Math"), (1, .class_ 6), (1, u "java/lang/Object"), (0, u "<init>"), (0, u "()V"), (89, .class_ 100), (1, u "java/lang/Math$RandomNumberGeneratorHolder"), (71, u "negativeZeroFloatBits"), (0, u "J"), (2, u "negativeZeroDoubleBits"), (68, u "$assertionsDisabled"), (0, u "Z"), (88, u "(II)I"), (2, u "twoToTheDoubleScaleDown"), (0, u "D"), (4, u "twoToTheDoubleScaleUp"), (9, u "E"), (3, u "PI"), (2, u "TAU"), (2, u "DEGREES_TO_RADIANS"), (0, u "RADIANS_TO_DEGREES"), (27, u "addExact")] 66

def k4m0 : Method := { name := "<init>", desc := "()V", sig := { parameters := [], returnType := none }, accessFlags := 2, code := none }
def k4c1 : Code := { maxStack := 3, maxLocals := 3, code := jdk_29_method_24_code, exceptionTable := #[], attributes := #[] }
def k4m1 : Method := { name := "addExact", desc := "(II)I", sig := { parameters := [.int, .int], returnType := some .int }, accessFlags := 9, code := some k4c1 }
/-- java/lang/Math -/
def k4 : Class := { plain "java/lang/Math" (some 0) with
  accessFlags := 49
  interfaces := #[]
  cf := some (fileOf pool4 1 #[.nestMembers #[98]] #[{ accessFlags := 2, nameIndex := 7, descriptorIndex := 8, attributes := #[] }, { accessFlags := 9, nameIndex := 393, descriptorIndex := 335, attributes := #[] }] 49 4 #[] #[{ accessFlags := 25, nameIndex := 354, descriptorIndex := 339, attributes := #[] }, { accessFlags := 25, nameIndex := 358, descriptorIndex := 339, attributes := #[] }, { accessFlags := 25, nameIndex := 361, descriptorIndex := 339, attributes := #[] }, { accessFlags := 26, nameIndex := 364, descriptorIndex := 339, attributes := #[] }, { accessFlags := 26, nameIndex := 365, descriptorIndex := 339, attributes := #[] }, { accessFlags := 26, nameIndex := 172, descriptorIndex := 173, attributes := #[] }, { accessFlags := 26, nameIndex := 176, descriptorIndex := 173, attributes := #[] }, { accessFlags := 8, nameIndex := 344, descriptorIndex := 339, attributes := #[] }, { accessFlags := 8, nameIndex := 338, descriptorIndex := 339, attributes := #[] }, { accessFlags := 4120, nameIndex := 245, descriptorIndex := 246, attributes := #[] }])
  fields := #[{ name := "E", type := .double, accessFlags := 25, slot := 0, constantValue := 0 }, { name := "PI", type := .double, accessFlags := 25, slot := 1, constantValue := 0 }, { name := "TAU", type := .double, accessFlags := 25, slot := 2, constantValue := 0 }, { name := "DEGREES_TO_RADIANS", type := .double, accessFlags := 26, slot := 3, constantValue := 0 }, { name := "RADIANS_TO_DEGREES", type := .double, accessFlags := 26, slot := 4, constantValue := 0 }, { name := "negativeZeroFloatBits", type := .long, accessFlags := 26, slot := 5, constantValue := 0 }, { name := "negativeZeroDoubleBits", type := .long, accessFlags := 26, slot := 6, constantValue := 0 }, { name := "twoToTheDoubleScaleUp", type := .double, accessFlags := 8, slot := 7, constantValue := 0 }, { name := "twoToTheDoubleScaleDown", type := .double, accessFlags := 8, slot := 8, constantValue := 0 }, { name := "$assertionsDisabled", type := .boolean, accessFlags := 4120, slot := 9, constantValue := 0 }]
  methods := #[k4m0, k4m1]
  instanceTypes := #[]
  staticTypes := #[.double, .double, .double, .double, .double, .long, .long, .double, .double, .boolean]
  resolved := Array.replicate 460 none
  statics := none }

def pool5 : Array CpInfo := pool [(1, u "java/io/Serializable"), (0, .class_ 1), (0, u "java/lang/Object"), (0, .class_ 3)] 3

/-- java/io/Serializable -/
def k5 : Class := { plain "java/io/Serializable" (some 0) with
  accessFlags := 1537
  interfaces := #[]
  cf := some (fileOf pool5 2 #[] #[] 1537 4 #[] #[])
  fields := #[]
  methods := #[]
  instanceTypes := #[]
  staticTypes := #[]
  resolved := Array.replicate 8 none
  statics := none }

/-- the primitive byte -/
def k6 : Class := { plain "byte" none with kind := .primitive 'B', accessFlags := 0x411 }
/-- [B -/
def k7 : Class := { plain "[B" (some 0) with kind := .array 6 .byte, interfaces := #[3, 5], accessFlags := 1041 }

/-- the primitive int -/
def k8 : Class := { plain "int" none with kind := .primitive 'I', accessFlags := 0x411 }
/-- [I -/
def k9 : Class := { plain "[I" (some 0) with kind := .array 8 .int, interfaces := #[3, 5], accessFlags := 1041 }

def heap : Heap := #[]
def classes : Array Class := #[k0, k1, k2, k3, k4, k5, k6, k7, k8, k9]
def interned : List (Array UInt16 × Addr) := []
def slotsUsed : Nat := 0
def theMethod : MethodId := ⟨1, 2⟩
def args0 : Array Value := #[.int 5, .int 5, .int 7, .int 8, .int 9]
def aboutOver (below : List Frame) : State where
  vm := { classes := classes, interned := interned.toArray }
  heap := heap
  slotsUsed := slotsUsed
  threads := #[{ frames := .invoking theMethod args0 :: below }]
def below0 : List Frame := [.native { method := ⟨0, 0⟩, args := #[] }]
def about1 : State := aboutOver below0
def p0 : Program := .bare "" "" ""
def e0 : Env := launch0.env 0 0 0
theorem w_frames : about1.frames = Frame.invoking theMethod args0 :: below0 := rfl
set_option maxRecDepth 65536 in
theorem w_args : argsFit about1.vm theMethod args0 = true := by decide +kernel
set_option maxRecDepth 65536 in
theorem w_heap : heapFits about1 = true := by decide +kernel
set_option maxRecDepth 65536 in
theorem w_runnable : about1.curStatus? = some .runnable := by decide +kernel
set_option maxRecDepth 65536 in
theorem w_alone : about1.alone = true := by decide +kernel
set_option maxRecDepth 65536 in
theorem w_named : about1.methodNamed? x = some theMethod := by decide +kernel
set_option maxRecDepth 65536 in
theorem w_hears : about1.hears theMethod below0 = true := by decide +kernel
set_option maxRecDepth 65536 in
theorem w_ripe : about1.ripe theMethod args0 below0 = true := by decide +kernel
theorem w_running : about1.status = .running := rfl
set_option maxRecDepth 65536 in
theorem w_room : about1.hasRoom e0.platform room_1 = true :=
  launch0.hasRoom_least _ room_1 (by decide +kernel) (by decide +kernel) (by decide +kernel) (by decide +kernel) (by decide +kernel) (by decide +kernel)
theorem allAtoms_all (ts : List Jvm.Cond) (a : Array Jvm.Value) (st : Jvm.State) : (allAtoms ts).before a st = ts.all (fun c => c.before a st) := by
  induction ts with
  | nil => rfl
  | cons c t ih =>
    show (Jvm.Cond.and c (allAtoms t)).before a st = _
    rw [Jvm.Cond.before_and, ih, List.all_cons]
def words1 : List Jvm.Cond := Jvm.Cond.code x code maxLocals ret :: tables_1
/-- a 'code' word, met by the world's own term for the bytes: nothing is compared byte by byte -/
theorem code_word {y : MethodName} {bytes : ByteArray} {mx : Nat} {rt : Option FieldType} {a : Array Value} {s : State} {m : MethodId} {meth : Method} {c : Code} (h1 : s.methodNamed? y = some m) (h2 : s.vm.method? m = some meth) (h3 : meth.code = some c) (h4 : c.code = bytes)
    (h5 : (c.maxLocals == mx && c.exceptionTable.isEmpty && decide (c.maxStack ≤ mostOperands) && decide (meth.sig.returnType = rt) && !meth.locks && decide (parseMethodDescriptor y.desc = some meth.sig)) = true) : (Jvm.Cond.code y bytes mx rt).before a s = true := by
  simp only [Bool.and_eq_true, beq_iff_eq, Bool.not_eq_true', decide_eq_true_eq] at h5
  obtain ⟨⟨⟨⟨⟨g1, g2⟩, g3⟩, g4⟩, g5⟩, g6⟩ := h5
  simp [Cond.before, Cond.holds, Cond.value, h1, h2, h3, h4, g1, g2, g3, g4, g5, g6]
def isCode : Jvm.Cond → Bool
  | .code _ _ _ _ => true
  | _ => false
theorem all_split {L : List Jvm.Cond} {P : Jvm.Cond → Bool} (h1 : L.all (fun c => isCode c || P c) = true) (h2 : ∀ c ∈ L.filter isCode, P c = true) : L.all P = true := by
  refine List.all_eq_true.mpr fun c hc => ?_
  have h := List.all_eq_true.mp h1 c hc
  rcases Bool.eq_false_or_eq_true (isCode c) with hi | hi
  · exact h2 c (List.mem_filter.mpr ⟨hc, hi⟩)
  · simpa [hi] using h
set_option maxRecDepth 65536 in
theorem w_c0 : (Jvm.Cond.code x code maxLocals ret).before args0 about1 = true := code_word (m := ⟨1, 2⟩) (meth := k1m2) (c := k1c2) (by decide +kernel) rfl rfl rfl (by decide +kernel)
set_option maxRecDepth 65536 in
theorem w_c1 : (Jvm.Cond.code ({ cls := "com/example/regular_role_reasoner/regularrolereasoner/alcoif/ElementsTotalPinLaw", name := "build", desc := "(IIIII)[I" } : Jvm.MethodName) method_2_code (5 : Nat) (Option.some (Jvm.ClassFile.FieldType.array Jvm.ClassFile.FieldType.int))).before args0 about1 = true := code_word (m := ⟨1, 1⟩) (meth := k1m1) (c := k1c1) (by decide +kernel) rfl rfl rfl (by decide +kernel)
set_option maxRecDepth 65536 in
theorem w_c2 : (Jvm.Cond.code ({ cls := "com/example/regular_role_reasoner/regularrolereasoner/alcoif/Elements", name := "<init>", desc := "([I)V" } : Jvm.MethodName) prog_1_method_1_code (4 : Nat) (Option.none : Option Jvm.ClassFile.FieldType)).before args0 about1 = true := code_word (m := ⟨2, 0⟩) (meth := k2m0) (c := k2c0) (by decide +kernel) rfl rfl rfl (by decide +kernel)
set_option maxRecDepth 65536 in
theorem w_c3 : (Jvm.Cond.code ({ cls := "java/lang/Object", name := "<init>", desc := "()V" } : Jvm.MethodName) object_method_1_code (1 : Nat) (Option.none : Option Jvm.ClassFile.FieldType)).before args0 about1 = true := code_word (m := ⟨0, 0⟩) (meth := k0m0) (c := k0c0) (by decide +kernel) rfl rfl rfl (by decide +kernel)
set_option maxRecDepth 65536 in
theorem w_c4 : (Jvm.Cond.code ({ cls := "com/example/regular_role_reasoner/regularrolereasoner/alcoif/Elements", name := "total", desc := "()I" } : Jvm.MethodName) prog_1_method_4_code (1 : Nat) (Option.some Jvm.ClassFile.FieldType.int)).before args0 about1 = true := code_word (m := ⟨2, 1⟩) (meth := k2m1) (c := k2c1) (by decide +kernel) rfl rfl rfl (by decide +kernel)
set_option maxRecDepth 65536 in
theorem w_c5 : (Jvm.Cond.code ({ cls := "java/lang/Math", name := "addExact", desc := "(II)I" } : Jvm.MethodName) jdk_29_method_24_code (3 : Nat) (Option.some Jvm.ClassFile.FieldType.int)).before args0 about1 = true := code_word (m := ⟨4, 1⟩) (meth := k4m1) (c := k4c1) (by decide +kernel) rfl rfl rfl (by decide +kernel)
def codes1 : List Jvm.Cond := [Jvm.Cond.code x code maxLocals ret, Jvm.Cond.code ({ cls := "com/example/regular_role_reasoner/regularrolereasoner/alcoif/ElementsTotalPinLaw", name := "build", desc := "(IIIII)[I" } : Jvm.MethodName) method_2_code (5 : Nat) (Option.some (Jvm.ClassFile.FieldType.array Jvm.ClassFile.FieldType.int)), Jvm.Cond.code ({ cls := "com/example/regular_role_reasoner/regularrolereasoner/alcoif/Elements", name := "<init>", desc := "([I)V" } : Jvm.MethodName) prog_1_method_1_code (4 : Nat) (Option.none : Option Jvm.ClassFile.FieldType), Jvm.Cond.code ({ cls := "java/lang/Object", name := "<init>", desc := "()V" } : Jvm.MethodName) object_method_1_code (1 : Nat) (Option.none : Option Jvm.ClassFile.FieldType), Jvm.Cond.code ({ cls := "com/example/regular_role_reasoner/regularrolereasoner/alcoif/Elements", name := "total", desc := "()I" } : Jvm.MethodName) prog_1_method_4_code (1 : Nat) (Option.some Jvm.ClassFile.FieldType.int), Jvm.Cond.code ({ cls := "java/lang/Math", name := "addExact", desc := "(II)I" } : Jvm.MethodName) jdk_29_method_24_code (3 : Nat) (Option.some Jvm.ClassFile.FieldType.int)]
set_option maxRecDepth 65536 in
theorem codes_eq : words1.filter isCode = codes1 := rfl
theorem w_codes : ∀ c ∈ words1.filter isCode, c.before args0 about1 = true := by
  rw [codes_eq]
  intro c hc
  simp only [codes1, List.mem_cons, List.not_mem_nil, or_false] at hc
  rcases hc with rfl | rfl | rfl | rfl | rfl | rfl
  · exact w_c0
  · exact w_c1
  · exact w_c2
  · exact w_c3
  · exact w_c4
  · exact w_c5
set_option maxRecDepth 65536 in
theorem w_t1 : (words1.take 24).all (fun c => isCode c || c.before args0 about1) = true := by decide +kernel
set_option maxRecDepth 65536 in
theorem w_t2 : (words1.drop 24).all (fun c => isCode c || c.before args0 about1) = true := by decide +kernel
theorem w_tables : (allAtoms (Jvm.Cond.code x code maxLocals ret :: tables_1)).before args0 about1 = true := by
  rw [allAtoms_all]
  show words1.all (fun c => c.before args0 about1) = true
  refine all_split ?_ w_codes
  rw [← List.take_append_drop 24 words1, List.all_append, w_t1, w_t2]
  rfl
set_option maxRecDepth 65536 in
theorem w_case : (Jvm.Cond.and given_1 narrow_1).before args0 about1 = true := by decide +kernel
theorem w_applies : (headSpec (Jvm.Cond.code x code maxLocals ret :: tables_1) room_1).applies x e0.platform about1 = true :=
  (Spec.applies_iff w_frames).mpr ⟨w_running, w_runnable, w_alone, w_named, w_hears, w_ripe, w_room, w_tables⟩
theorem atStart : AtStart classFile x code maxLocals ret World_1 tables_1 room_1 Calls_1 rest_1 Pre_1 launch0 p0 e0 about1 theMethod args0 below0 :=
  ⟨lists_1, trivial, launch0.admits_env _ _ _, launch0.least_env, fairChoices_fair.cas, fairChoices_fair.clock, w_frames, w_args, w_heap, w_applies, trivial, trivial, w_case⟩
end start1
theorem witness_1 : WitnessClaimed_1 := ⟨start1.p0, start1.e0, start1.about1, start1.theMethod, start1.args0, start1.below0, start1.atStart⟩
end Jvm.Pilot.@@N@@
