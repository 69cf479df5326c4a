import JvmDerived
import JvmDerived.Pilot.@@N@@Statement
import JvmDerived.Pilot.@@N@@Code
set_option linter.unusedVariables false
set_option linter.unusedSimpArgs false
@@BLOCK:NumsL.lean.txt@@
namespace Jvm.RoadKit
open Sem ClassFile Op Lib Jvm.Stand Jvm.Free Jvm.LawKit
section New
variable {p : Program} {l : Launch} {e : Env} {R : Room} {s : State} {m : MethodId} {args : Array Value} {below : List Frame} {meth : Method} {c : Code} {T : State} {locs : List Loc} {cells slots : Nat}
theorem retI (X : Stand p l e R s m args below meth c T locs cells slots) (hx : p.tables.exec = Jvm.exec) {pc : Nat} {Ls : Array Slot} {z : Int32} {rest : List Value} (hret : meth.sig.returnType = some .int) (hd : decode c.code pc = .ok (.ireturn, 1)) {fs : List Frame}
    (hl : ∀ (f : JFrame) (acts : List Action), f.method = m → f.locked = none → f.entered = [] → (doReturn e (T.setTop f) acts (some (.int z))).1 = T.setFrames fs) : Steps p.tables e below (T.setTop (mkF m pc Ls (.int z :: rest))) (T.setFrames fs) := by
  have hm' : T.vm.method? m = some meth := X.method'
  have hn : narrow .int (.int z) = .int z := rfl
  show Steps p.tables e below (T.setTop { method := m, pc := pc, locals := Ls, stack := _ :: rest, locked := none }) _
  jvm_step X.here [X.here.top, hx, hd, hm', hret, hn]
  first | (intro acts; rw [hl _ acts rfl rfl rfl]) | rw [hl _ _ rfl rfl rfl]
  exact Steps.refl _
end New
end Jvm.RoadKit
namespace Jvm.Pilot.@@N@@
open Jvm Jvm.ClassFile Sem Op Lib Jvm.Free Jvm.Stand Jvm.LawKit Jvm.RoadKit Bundle Jvm.Pilot.@@N@@.Jvm.D
open Jvm.Free.XT (ushr ushrL cmpL)
/-- from the frame g over the state T the run comes to a return of which Q holds; K cells and N slots are made at the most -/
def Go (p : Program) (e : Env) (below : List Frame) (s : State) (Q : Option Value → Heap → List Loc → Prop) (K N : Nat) (T : State) (g : JFrame) : Prop :=
  ∃ s₂ o, Steps p.tables e below (T.setTop g) s₂ ∧ s₂.status = .running ∧ Ended s₂ below o ∧ ∃ v L, o = .returned v ∧ Q v s₂.heap L ∧ FrameEnd s o s₂ L K N
section Own
variable {p : Program} {l : Launch} {e : Env} {R : Room} {s : State} {m : MethodId} {args : Array Value} {below : List Frame} {meth : Method} {c : Code} {T T' : State} {locs : List Loc} {cells slots K N : Nat} {Q : Option Value → Heap → List Loc → Prop} {g : JFrame}
theorem Go.st (g' : JFrame) (k : ∀ t, Steps p.tables e below (T'.setTop g') t → Steps p.tables e below (T.setTop g) t) (h : Go p e below s Q K N T' g') : Go p e below s Q K N T g := by
  obtain ⟨s₂, o, h1, h2⟩ := h
  exact ⟨s₂, o, k _ h1, h2⟩
theorem Go.of_eq {g' : JFrame} (q : g = g') (h : Go p e below s Q K N T g') : Go p e below s Q K N T g := q ▸ h
theorem Go.retZ (X : Stand p l e R s m args below meth c T locs cells slots) (hx : p.tables.exec = Jvm.exec) (hlk : meth.locks = false) {pc : Nat} {Ls : Array Slot} {z : Int32} {rest : List Value} {t : FieldType} (ht : t = .boolean ∨ t = .byte ∨ t = .char ∨ t = .short) (hret : meth.sig.returnType = some t) (hd : decode c.code pc = .ok (.ireturn, 1))
    (hq : Q (some (.int (nar t z))) T.heap locs) (hk : cells ≤ K) (hn : slots ≤ N) : Go p e below s Q K N T (mkF m pc Ls (.int z :: rest)) := by
  obtain ⟨fs, hr, hrun, hended, hW, hsame⟩ := X.leave (v := some (.int (nar t z))) (fun h => by rw [hret] at h; cases h) hlk
  exact ⟨_, _, retN X hx hret ht hd hr, hrun, hended, _, _, rfl, hq, ⟨_, rfl⟩, hW, hsame.mono hk hn⟩
theorem Go.retI (X : Stand p l e R s m args below meth c T locs cells slots) (hx : p.tables.exec = Jvm.exec) (hlk : meth.locks = false) {pc : Nat} {Ls : Array Slot} {z : Int32} {rest : List Value} (hret : meth.sig.returnType = some .int) (hd : decode c.code pc = .ok (.ireturn, 1))
    (hq : Q (some (.int z)) T.heap locs) (hk : cells ≤ K) (hn : slots ≤ N) : Go p e below s Q K N T (mkF m pc Ls (.int z :: rest)) := by
  obtain ⟨fs, hr, hrun, hended, hW, hsame⟩ := X.leave (v := some (.int z)) (fun h => by rw [hret] at h; cases h) hlk
  exact ⟨_, _, RoadKit.retI X hx hret hd hr, hrun, hended, _, _, rfl, hq, ⟨_, rfl⟩, hW, hsame.mono hk hn⟩
theorem Go.retJ (X : Stand p l e R s m args below meth c T locs cells slots) (hx : p.tables.exec = Jvm.exec) (hlk : meth.locks = false) {pc : Nat} {Ls : Array Slot} {z : Int64} (hret : meth.sig.returnType = some .long) (hd : decode c.code pc = .ok (.lreturn, 1))
    (hq : Q (some (.long z)) T.heap locs) (hk : cells ≤ K) (hn : slots ≤ N) : Go p e below s Q K N T (mkF m pc Ls [.long z]) := by
  obtain ⟨fs, hr, hrun, hended, hW, hsame⟩ := X.leave (v := some (.long z)) (fun h => by rw [hret] at h; cases h) hlk
  exact ⟨_, _, X.lreturnOut hx hret hd hr, hrun, hended, _, _, rfl, hq, ⟨_, rfl⟩, hW, hsame.mono hk hn⟩
theorem Go.retV (X : Stand p l e R s m args below meth c T locs cells slots) (hx : p.tables.exec = Jvm.exec) (hlk : meth.locks = false) {pc : Nat} {Ls : Array Slot} (hret : meth.sig.returnType = none) (hd : decode c.code pc = .ok (.return_, 1))
    (hq : Q none T.heap locs) (hk : cells ≤ K) (hn : slots ≤ N) : Go p e below s Q K N T (mkF m pc Ls []) := by
  obtain ⟨fs, hr, hrun, hended, hW, hsame⟩ := X.leave (v := none) (fun _ => rfl) hlk
  exact ⟨_, _, X.returnOut hx hret hd hr, hrun, hended, _, _, rfl, hq, ⟨_, rfl⟩, hW, hsame.mono hk hn⟩
end Own
theorem own_c1 {x y : Int64} (h : y < x) : cmpL x y = 1 := by unfold cmpL; rw [if_pos h]
theorem own_c0 {x y : Int64} (h : x = y) : cmpL x y = 0 := by unfold cmpL; rw [if_neg (by subst h; exact Int64.lt_irrefl), if_pos h]
theorem own_cm {x y : Int64} (h : x < y) : cmpL x y = -1 := by unfold cmpL; rw [if_neg (Int64.lt_asymm h), if_neg (Int64.ne_of_lt h)]
theorem own_tri (x y : Int64) : x < y ∨ x = y ∨ y < x := by
  rcases Int.lt_trichotomy x.toInt y.toInt with h | h | h
  · exact Or.inl (Int64.lt_iff_toInt_lt.mpr h)
  · exact Or.inr (Or.inl (Int64.toInt_inj.mp h))
  · exact Or.inr (Or.inr (Int64.lt_iff_toInt_lt.mpr h))
theorem own_llT {x y : Int64} (h : x < y) : ifCond.holds .lt (cmpL x y) = true ∧ ifCond.holds .ge (cmpL x y) = false := by rw [own_cm h]; decide
theorem own_llF {x y : Int64} (h : ¬ x < y) : ifCond.holds .lt (cmpL x y) = false ∧ ifCond.holds .ge (cmpL x y) = true := by
  rcases own_tri x y with q | q | q
  · exact absurd q h
  · rw [own_c0 q]; decide
  · rw [own_c1 q]; decide
theorem own_lgT {x y : Int64} (h : y < x) : ifCond.holds .gt (cmpL x y) = true ∧ ifCond.holds .le (cmpL x y) = false := by rw [own_c1 h]; decide
theorem own_lgF {x y : Int64} (h : ¬ y < x) : ifCond.holds .gt (cmpL x y) = false ∧ ifCond.holds .le (cmpL x y) = true := by
  rcases own_tri x y with q | q | q
  · rw [own_cm q]; decide
  · rw [own_c0 q]; decide
  · exact absurd q h
theorem own_leT {x y : Int64} (h : x = y) : ifCond.holds .eq (cmpL x y) = true ∧ ifCond.holds .ne (cmpL x y) = false := by rw [own_c0 h]; decide
theorem own_leF {x y : Int64} (h : ¬ x = y) : ifCond.holds .eq (cmpL x y) = false ∧ ifCond.holds .ne (cmpL x y) = true := by
  rcases own_tri x y with q | q | q
  · rw [own_cm q]; decide
  · exact absurd q h
  · rw [own_c1 q]; decide
theorem own_chr (x : Int32) : 0 ≤ (x.toUInt32.toUInt16.toUInt32.toInt32).toInt ∧ (x.toUInt32.toUInt16.toUInt32.toInt32).toInt < 65536 := by
  have h : ∀ u : UInt16, (u.toUInt32.toInt32).toInt = u.toNat := fun u => by
    have hu := u.toNat_lt
    show ((u.toUInt32).toBitVec).toInt = _
    have hm : (u.toUInt32).toBitVec.toNat = u.toNat := by
      show (u.toUInt32).toNat = _
      simp
    rw [BitVec.toInt_eq_toNat_cond, hm, if_pos (by omega)]
  have h2 := (x.toUInt32.toUInt16).toNat_lt
  rw [h]; omega
theorem own_small (n : Nat) (c : Int32) (h0 : 0 ≤ c.toInt) (h1 : c.toInt < n) (hn : n ≤ 2147483647) : ∃ k : Fin n, c = Int32.ofNat k.val := by
  refine ⟨⟨c.toInt.toNat, by omega⟩, Int32.toInt_inj.mp ?_⟩
  rw [Int32.toInt_ofNat_of_lt (by show c.toInt.toNat < _; omega)]
  show _ = ((c.toInt.toNat : Nat) : Int)
  omega
/-- an array: its kind, its length, what each place holds -/
def Ary (Z : State) (h : Heap) (a : Addr) (t : FieldType) (n : Nat) (f : Nat → Value) : Prop := ∃ c : Cell, Arr Z h a c t ∧ c.slots.size = n ∧ ∀ j, j < n → c.slots[j]? = some (f j)
def upd (f : Nat → Value) (j : Nat) (v : Value) : Nat → Value := fun i => if i = j then v else f i
/-- ints in every place -/
def bts (b : Nat → Int32) : Nat → Value := fun i => .int (b i)
def updI (b : Nat → Int32) (j : Nat) (v : Int32) : Nat → Int32 := fun i => if i = j then v else b i
def lst (L : List Value) : Nat → Value := fun i => L.getD i .null
section OwnH
variable {p : Program} {l : Launch} {e : Env} {R : Room} {s : State} {m : MethodId} {args : Array Value} {below : List Frame} {meth : Method} {c : Code} {T : State} {locs : List Loc} {cells slots : Nat}
variable {Z : State} {h h' : Heap} {a b : Addr} {t : FieldType} {n : Nat} {f f' : Nat → Value} {sl : Nat} {v : Value} {ws : List Addr} {L : List Value}
theorem upd_lst {i j : Nat} (hi : i < L.length) : upd (lst L) i v j = lst (L.set i v) j := by
  unfold upd lst
  by_cases q : j = i
  · subst q; rw [if_pos rfl]; simp [hi]
  · rw [if_neg q]; simp only [List.getD_eq_getElem?_getD]; rw [List.getElem?_set_ne (Ne.symm q)]
theorem lst_rep {d : Value} {j : Nat} (hj : j < n) : lst (List.replicate n d) j = d := by
  unfold lst; simp [hj]
theorem Ary.lt (A : Ary Z h a t n f) : a < h.size := by obtain ⟨c, q, -⟩ := A; exact q.lt
theorem Ary.ext (A : Ary Z h a t n f) (E : Ext h h') : Ary Z h' a t n f := by obtain ⟨c, q, r⟩ := A; exact ⟨c, q.ext E, r⟩
theorem Ary.other (A : Ary Z h b t n f) (W : Wr h h' a sl v) (q : b ≠ a) : Ary Z h' b t n f := by obtain ⟨c, A, r⟩ := A; exact ⟨c, A.other W q, r⟩
theorem Ary.keep (A : Ary Z h a t n f) (K : Keep h h' ws) (q : a ∉ ws) : Ary Z h' a t n f := by obtain ⟨c, A, r⟩ := A; exact ⟨c, ⟨K.2.1 a c A.1 q, A.2⟩, r⟩
theorem Ary.congr (A : Ary Z h a t n f) (q : ∀ j, j < n → f j = f' j) : Ary Z h a t n f' := by obtain ⟨c, A, S, H⟩ := A; exact ⟨c, A, S, fun j hj => by rw [H j hj, q j hj]⟩
theorem Ary.same (A : Ary Z h a t n f) (W : Wr h h' a sl v) : Ary Z h' a t n (upd f sl v) := by
  obtain ⟨c, A, S, H⟩ := A
  refine ⟨_, A.same W, by rw [sz_set]; exact S, fun j hj => ?_⟩
  unfold upd
  by_cases q : j = sl
  · subst q; rw [if_pos rfl]; show (c.slots.setIfInBounds j v)[j]? = some v
    rw [Array.getElem?_setIfInBounds_self_of_lt (by omega)]
  · rw [if_neg q]; show (c.slots.setIfInBounds sl v)[j]? = _
    rw [Array.getElem?_setIfInBounds_ne (Ne.symm q)]; exact H j hj
theorem Ary.sameL (A : Ary Z h a t n (lst L)) (W : Wr h h' a sl v) (q : sl < L.length) : Ary Z h' a t n (lst (L.set sl v)) := (A.same W).congr fun _ _ => upd_lst q
theorem Ary.sameB {bs : Nat → Int32} {x : Int32} (A : Ary Z h a t n (bts bs)) (W : Wr h h' a sl (.int x)) : Ary Z h' a t n (bts (updI bs sl x)) := (A.same W).congr fun j _ => by
  unfold upd bts updI
  by_cases q : j = sl
  · rw [if_pos q, if_pos q]
  · rw [if_neg q, if_neg q]
theorem Ary.new {k : ClassId} {z : Int32} (A : Arr Z h a (newA k t z) t) (hz : z.toNatClampNeg = n) : Ary Z h a t n (fun _ => defaultValue t) := ⟨_, A, by rw [sz_new, hz], fun j hj => by subst hz; simp [newA, hj]⟩
theorem Ary.newL {k : ClassId} {z : Int32} (A : Arr Z h a (newA k t z) t) (hz : z.toNatClampNeg = n) : Ary Z h a t n (lst (List.replicate n (defaultValue t))) := (Ary.new A hz).congr fun _ hj => (lst_rep hj).symm
theorem Ary.ne_exa {C : String} {a0 : Array Value} {k : Nat} (A : Ary Z h b t n f) (F : Exa Z h a C) (wi : (Cond.instantiable C k).before a0 Z = true) : a ≠ b := by obtain ⟨c, A, -⟩ := A; exact ne_arr F wi A
theorem inA {c : Cell} {j : Int32} {i : Nat} (S : c.slots.size = n) (hj : ¬ j < 0) (hi : j.toNatClampNeg = i) (hin : i < n) : ¬ (j < 0 ∨ c.slots.size ≤ j.toNatClampNeg) := by
  rw [S, hi]; intro q; rcases q with q | q
  · exact hj q
  · omega
theorem ldI (X : Stand p l e R s m args below meth c T locs cells slots) (hx : p.tables.exec = Jvm.exec) (hZ : Z.Warmed39 s.vm) (eT : T.heap = h) (A : Ary Z h a .int n f) {j : Int32} {i : Nat} (hj : ¬ j < 0) (hi : j.toNatClampNeg = i) (hin : i < n) (hv : f i = v) {g : JFrame} (hg : g.method = m) {rest : List Value} (hs : g.stack = .int j :: .ref a :: rest) (hd : decode c.code g.pc = .ok (.iaload, 1)) :
    ∀ target, Steps p.tables e below (T.setTop { g with pc := g.pc + 1, stack := v :: rest }) target → Steps p.tables e below (T.setTop g) target := by
  obtain ⟨cl, A, S, H⟩ := A
  exact X.iaload hx (by rw [eT]; exact A.1) (State.isArrayOf_alike hZ.alike A.2.1) A.2.2 (inA S hj hi hin) (by rw [hi, H i hin, hv]) hg hs hd
theorem ldJ (X : Stand p l e R s m args below meth c T locs cells slots) (hx : p.tables.exec = Jvm.exec) (hZ : Z.Warmed39 s.vm) (eT : T.heap = h) (A : Ary Z h a .long n f) {j : Int32} {i : Nat} (hj : ¬ j < 0) (hi : j.toNatClampNeg = i) (hin : i < n) (hv : f i = v) {g : JFrame} (hg : g.method = m) {rest : List Value} (hs : g.stack = .int j :: .ref a :: rest) (hd : decode c.code g.pc = .ok (.laload, 1)) :
    ∀ target, Steps p.tables e below (T.setTop { g with pc := g.pc + 1, stack := v :: rest }) target → Steps p.tables e below (T.setTop g) target := by
  obtain ⟨cl, A, S, H⟩ := A
  exact X.laload hx (by rw [eT]; exact A.1) (State.isArrayOf_alike hZ.alike A.2.1) A.2.2 (inA S hj hi hin) (by rw [hi, H i hin, hv]) hg hs hd
theorem ldB (X : Stand p l e R s m args below meth c T locs cells slots) (hx : p.tables.exec = Jvm.exec) (hZ : Z.Warmed39 s.vm) (eT : T.heap = h) (A : Ary Z h a .byte n f) {j : Int32} {i : Nat} (hj : ¬ j < 0) (hi : j.toNatClampNeg = i) (hin : i < n) (hv : f i = v) {g : JFrame} (hg : g.method = m) {rest : List Value} (hs : g.stack = .int j :: .ref a :: rest) (hd : decode c.code g.pc = .ok (.baload, 1)) :
    ∀ target, Steps p.tables e below (T.setTop { g with pc := g.pc + 1, stack := v :: rest }) target → Steps p.tables e below (T.setTop g) target := by
  obtain ⟨cl, A, S, H⟩ := A
  exact X.baloadBytes hx (by rw [eT]; exact A.1) (State.isArrayOf_alike hZ.alike A.2.1) A.2.2 (inA S hj hi hin) (by rw [hi, H i hin, hv]) hg hs hd
theorem ldR (X : Stand p l e R s m args below meth c T locs cells slots) (hx : p.tables.exec = Jvm.exec) (hZ : Z.Warmed39 s.vm) (eT : T.heap = h) (A : Ary Z h a t n f) (ht : t.isReference = true) {j : Int32} {i : Nat} (hj : ¬ j < 0) (hi : j.toNatClampNeg = i) (hin : i < n) (hv : f i = v) {g : JFrame} (hg : g.method = m) {rest : List Value} (hs : g.stack = .int j :: .ref a :: rest) (hd : decode c.code g.pc = .ok (.aaload, 1)) :
    ∀ target, Steps p.tables e below (T.setTop { g with pc := g.pc + 1, stack := v :: rest }) target → Steps p.tables e below (T.setTop g) target := by
  obtain ⟨cl, A, S, H⟩ := A
  exact X.aaload hx (by rw [eT]; exact A.1) (State.isArrayOf_alike hZ.alike A.2.1) ht A.2.2 (inA S hj hi hin) (by rw [hi, H i hin, hv]) hg hs hd
theorem lenA (X : Stand p l e R s m args below meth c T locs cells slots) (hx : p.tables.exec = Jvm.exec) (hZ : Z.Warmed39 s.vm) (eT : T.heap = h) (A : Ary Z h a t n f) {z : Int32} (hz : n.toInt32 = z) {g : JFrame} (hg : g.method = m) {rest : List Value} (hs : g.stack = .ref a :: rest) (hd : decode c.code g.pc = .ok (.arraylength, 1)) :
    ∀ target, Steps p.tables e below (T.setTop { g with pc := g.pc + 1, stack := .int z :: rest }) target → Steps p.tables e below (T.setTop g) target := by
  obtain ⟨cl, A, S, H⟩ := A
  subst hz; rw [← S]
  exact X.arraylength hx (by rw [eT]; exact A.1) (State.isArrayOf_alike hZ.alike A.2.1) hg hs hd
theorem stAI (X : Stand p l e R s m args below meth c T locs cells slots) (hx : p.tables.exec = Jvm.exec) (hZ : Z.Warmed39 s.vm) (eT : T.heap = h) (A : Ary Z h a .int n f) {j x : Int32} {i : Nat} (hj : ¬ j < 0) (hi : j.toNatClampNeg = i) (hin : i < n) {g : JFrame} (hg : g.method = m) {rest : List Value} (hs : g.stack = .int x :: .int j :: .ref a :: rest) (hd : decode c.code g.pc = .ok (.iastore, 1)) :
    ∃ T' h', Stand p l e R s m args below meth c T' (locs ++ [⟨a, i⟩]) cells slots ∧ T'.heap = h' ∧ Wr h h' a i (.int x) ∧ ∀ target, Steps p.tables e below (T'.setTop { g with pc := g.pc + 1, stack := rest }) target → Steps p.tables e below (T.setTop g) target := by
  obtain ⟨cl, A, S, H⟩ := A
  have q := inA S hj hi hin
  subst hi
  exact stI X hx hZ eT A q hg hs hd
theorem stAB (X : Stand p l e R s m args below meth c T locs cells slots) (hx : p.tables.exec = Jvm.exec) (hZ : Z.Warmed39 s.vm) (eT : T.heap = h) (A : Ary Z h a .byte n f) {j x : Int32} {i : Nat} (hj : ¬ j < 0) (hi : j.toNatClampNeg = i) (hin : i < n) {g : JFrame} (hg : g.method = m) {rest : List Value} (hs : g.stack = .int x :: .int j :: .ref a :: rest) (hd : decode c.code g.pc = .ok (.bastore, 1)) :
    ∃ T' h', Stand p l e R s m args below meth c T' (locs ++ [⟨a, i⟩]) cells slots ∧ T'.heap = h' ∧ Wr h h' a i (.int (nar .byte x)) ∧ ∀ target, Steps p.tables e below (T'.setTop { g with pc := g.pc + 1, stack := rest }) target → Steps p.tables e below (T.setTop g) target := by
  obtain ⟨cl, A, S, H⟩ := A
  have q := inA S hj hi hin
  subst hi
  exact stB X hx hZ eT A q hg hs hd
theorem stAJ (X : Stand p l e R s m args below meth c T locs cells slots) (hx : p.tables.exec = Jvm.exec) (hZ : Z.Warmed39 s.vm) (eT : T.heap = h) (A : Ary Z h a .long n f) {j : Int32} {x : Int64} {i : Nat} (hj : ¬ j < 0) (hi : j.toNatClampNeg = i) (hin : i < n) {g : JFrame} (hg : g.method = m) {rest : List Value} (hs : g.stack = .long x :: .int j :: .ref a :: rest) (hd : decode c.code g.pc = .ok (.lastore, 1)) :
    ∃ T' h', Stand p l e R s m args below meth c T' (locs ++ [⟨a, i⟩]) cells slots ∧ T'.heap = h' ∧ Wr h h' a i (.long x) ∧ ∀ target, Steps p.tables e below (T'.setTop { g with pc := g.pc + 1, stack := rest }) target → Steps p.tables e below (T.setTop g) target := by
  obtain ⟨cl, A, S, H⟩ := A
  have q := inA S hj hi hin
  subst hi
  exact stJ X hx hZ eT A q hg hs hd
theorem selI {y : MethodName} {k : Nat} {a0 : Array Value} (hZ : Z.Warmed39 s.vm) (wi : (Cond.instantiable y.cls k).before a0 Z = true) (wp : (Cond.privateMethod y).before a0 Z = true) (wm : (Cond.instanceMethod y).before a0 Z = true) (hy : y.cls ≠ "java/lang/invoke/MethodHandle" ∧ y.cls ≠ "java/lang/invoke/VarHandle") : (Cond.selects y.cls y y).before args s = true ∧ s.PrivateAt y := by
  have wi' : (Cond.instantiable y.cls k).before args s = true := mvT hZ wi
  have wp' := mvP hZ wp (args := args)
  have wm' : (Cond.instanceMethod y).before args s = true := mvT hZ wm
  obtain ⟨c, kc, h1, h2, h3, h4, -⟩ := Cond.instantiable_spec wi'
  have hp := Cond.privateMethod_at wp'
  refine ⟨selects_self_of_private h1 h2 (by simp at h4; exact h4.1) hp wm' hy, hp⟩
theorem cloneY {a0 : Array Value} (X : Stand p l e R s m args below meth c T locs cells slots) (hx : p.tables.exec = Jvm.exec) (hZ : Z.Warmed39 s.vm) {own ad : String} {index : Nat} (hown : s.vm.findClass own = some m.cls)
    (w1 : (Cond.methodLink own index ⟨ad, "clone", "()Ljava/lang/Object;"⟩).before a0 Z = true) (w2 : (Cond.sameMethod ad "java/lang/Object" "clone" "()Ljava/lang/Object;").before a0 Z = true) (w3 : (Cond.native ⟨"java/lang/Object", "clone", "()Ljava/lang/Object;"⟩).before a0 Z = true)
    (w4 : (Cond.instanceMethod ⟨"java/lang/Object", "clone", "()Ljava/lang/Object;"⟩).before a0 Z = true) (w5 : (Cond.selects ad ⟨ad, "clone", "()Ljava/lang/Object;"⟩ ⟨"java/lang/Object", "clone", "()Ljava/lang/Object;"⟩).before a0 Z = true) (w6 : (Cond.castable ad "java/lang/Cloneable").before a0 Z = true)
    (eT : T.heap = h) (A : Ary Z h a .int n (lst L)) (E : Exa Z h a ad) (hL : n = L.length ∧ ∀ v ∈ L, ∃ x, v = .int x) {g : JFrame} (hg : g.method = m) (hsize : g.locals.size = c.maxLocals) {rest : List Value} (hs : g.stack = .ref a :: rest) (hd : decode c.code g.pc = .ok (.invokevirtual index, 3))
    (hf : 1 ≤ R.frames) {W cap : Nat} (hW : 2 * g.monitorRoom + (rest.map fun v => v.category).sum ≤ W) (hl : W + 14 ≤ R.locals) (hcap : n ≤ cap) (hc : cells + 1 ≤ R.cells) (hsl : slots + cap ≤ R.slots) :
    ∃ T' h', Stand p l e R s m args below meth c T' locs (cells + 1) (slots + cap) ∧ T'.heap = h' ∧ Ext h h' ∧ Ary Z h' h.size .int n (lst L) ∧ Exa Z h' h.size ad ∧
      ∀ target, Steps p.tables e below (T'.setTop { g with pc := g.pc + 3, stack := .ref h.size :: rest }) target → Steps p.tables e below (T.setTop g) target := by
  obtain ⟨cl, A, S, H⟩ := A
  have F : FitC Z cl := fun i v hv => by
    have hi : i < n := by rw [← S]; exact (Array.getElem?_eq_some_iff.mp hv).1
    have q := H i hi
    rw [hv] at q
    have q' := Option.some.inj q
    have hm : v ∈ L := by
      rw [q']; unfold lst
      have : i < L.length := by omega
      rw [List.getD_eq_getElem?_getD, List.getElem?_eq_getElem this]; exact List.getElem_mem this
    obtain ⟨x, rfl⟩ := hL.2 v hm
    obtain ⟨hs', k, hk, comp, hkind⟩ := A.2.1
    simp [State.fitsSlot, State.slotType?, hk, hkind, fits]
  obtain ⟨T', h', X', e', E', A', Y', st⟩ := cloneA X hx hZ hown w1 w2 w3 w4 w5 w6 eT A E F hg hsize hs hd hf hW hl (by rw [S]; exact hcap) hc hsl
  exact ⟨T', h', X', e', E', ⟨_, A', S, H⟩, Y', st⟩
variable {K N : Nat} {Q : Option Value → Heap → List Loc → Prop}
theorem Go.retR (X : Stand p l e R s m args below meth c T locs cells slots) (hx : p.tables.exec = Jvm.exec) (hlk : meth.locks = false) {pc : Nat} {Ls : Array Slot} {w : Value} (hw : w.isRef = true) {ty : FieldType} (hret : meth.sig.returnType = some ty) (hty : ty.isReference = true) (hd : decode c.code pc = .ok (.areturn, 1))
    (hq : Q (some w) T.heap locs) (hk : cells ≤ K) (hn : slots ≤ N) : Go p e below s Q K N T (mkF m pc Ls [w]) := by
  obtain ⟨fs, hr, hrun, hended, hW, hsame⟩ := X.leave (v := some w) (fun h => by rw [hret] at h; cases h) hlk
  exact ⟨_, _, X.areturnOut hx hw hret hty hd hr, hrun, hended, _, _, rfl, hq, ⟨_, rfl⟩, hW, hsame.mono hk hn⟩
end OwnH
theorem own_ixs : ∀ o : Fin 4, (¬ Int32.ofNat o.val < 0 ∧ (Int32.ofNat o.val).toNatClampNeg = o.val) ∧ (¬ (Int32.ofNat o.val + (1 : Int32)) < 0 ∧ (Int32.ofNat o.val + (1 : Int32)).toNatClampNeg = o.val + 1) ∧ (¬ (Int32.ofNat o.val + (1 : Int32) + (1 : Int32)) < 0 ∧ (Int32.ofNat o.val + (1 : Int32) + (1 : Int32)).toNatClampNeg = o.val + 2) ∧ (¬ (Int32.ofNat o.val + (1 : Int32) + (1 : Int32) + (1 : Int32)) < 0 ∧ (Int32.ofNat o.val + (1 : Int32) + (1 : Int32) + (1 : Int32)).toNatClampNeg = o.val + 3) ∧ (¬ (Int32.ofNat o.val + (1 : Int32) + (1 : Int32) + (1 : Int32) + (1 : Int32)) < 0 ∧ (Int32.ofNat o.val + (1 : Int32) + (1 : Int32) + (1 : Int32) + (1 : Int32)).toNatClampNeg = o.val + 4) := by decide +kernel
theorem own_ix0 (o : Nat) (h : o < 4) : ¬ Int32.ofNat o < 0 ∧ (Int32.ofNat o).toNatClampNeg = o := (own_ixs ⟨o, h⟩).1
theorem own_ix1 (o : Nat) (h : o < 4) : ¬ (Int32.ofNat o + (1 : Int32)) < 0 ∧ (Int32.ofNat o + (1 : Int32)).toNatClampNeg = o + 1 := (own_ixs ⟨o, h⟩).2.1
theorem own_ix2 (o : Nat) (h : o < 4) : ¬ (Int32.ofNat o + (1 : Int32) + (1 : Int32)) < 0 ∧ (Int32.ofNat o + (1 : Int32) + (1 : Int32)).toNatClampNeg = o + 2 := (own_ixs ⟨o, h⟩).2.2.1
theorem own_ix3 (o : Nat) (h : o < 4) : ¬ (Int32.ofNat o + (1 : Int32) + (1 : Int32) + (1 : Int32)) < 0 ∧ (Int32.ofNat o + (1 : Int32) + (1 : Int32) + (1 : Int32)).toNatClampNeg = o + 3 := (own_ixs ⟨o, h⟩).2.2.2.1
theorem own_ix4 (o : Nat) (h : o < 4) : ¬ (Int32.ofNat o + (1 : Int32) + (1 : Int32) + (1 : Int32) + (1 : Int32)) < 0 ∧ (Int32.ofNat o + (1 : Int32) + (1 : Int32) + (1 : Int32) + (1 : Int32)).toNatClampNeg = o + 4 := (own_ixs ⟨o, h⟩).2.2.2.2
theorem own_nonneg {x : Int32} (h : 0 ≤ x.toInt) : ¬ x < (0 : Int32) := fun q => by
  have e : (0 : Int32).toInt = 0 := by decide
  rw [Int32.lt_iff_toInt_lt] at q; omega
theorem own_u7 {x : Int32} (h : 0 ≤ x.toInt) : (ushr x (7 : Int32)).toInt = x.toInt / 128 := by
  have := Jvm.Kit.i32_iushr (x := x) (Jvm.Kit.i32_nonneg.mpr h) (n := ((7 : Int32) &&& 31).toUInt32) (k := 7) (by decide) (by decide)
  exact this
theorem own_small5 (x : Int32) (h : 0 ≤ x.toInt) : (ushr (ushr (ushr (ushr x (7 : Int32)) (7 : Int32)) (7 : Int32)) (7 : Int32)) < (128 : Int32) := by
  have e : (128 : Int32).toInt = 128 := by decide
  have l := x.toInt_lt
  have h1 := own_u7 h
  have h2 := own_u7 (x := ushr x (7 : Int32)) (by omega)
  have h3 := own_u7 (x := ushr (ushr x (7 : Int32)) (7 : Int32)) (by omega)
  have h4 := own_u7 (x := ushr (ushr (ushr x (7 : Int32)) (7 : Int32)) (7 : Int32)) (by omega)
  rw [Int32.lt_iff_toInt_lt]; omega
theorem pn_0 : plainName "com/example/vocabulary/vocabulary/index/IndexOutput" = true := by first | (simp [plainName, overriddenIn]; done) | decide +kernel
theorem d1_0 : decode prog_40_method_4_code 0 = .ok (.iload_n 0, 1) := by decide +kernel
theorem d1_1 : decode prog_40_method_4_code 1 = .ok (.ifCond .ge 17, 3) := by decide +kernel
theorem d1_18 : decode prog_40_method_4_code 18 = .ok (.iload_n 2, 1) := by decide +kernel
theorem d1_19 : decode prog_40_method_4_code 19 = .ok (.istore_n 3, 1) := by decide +kernel
theorem d1_20 : decode prog_40_method_4_code 20 = .ok (.iload_n 0, 1) := by decide +kernel
theorem d1_21 : decode prog_40_method_4_code 21 = .ok (.sipush 128, 3) := by decide +kernel
theorem d1_24 : decode prog_40_method_4_code 24 = .ok (.if_icmp .lt 26, 3) := by decide +kernel
theorem d1_27 : decode prog_40_method_4_code 27 = .ok (.aload_n 1, 1) := by decide +kernel
theorem d1_28 : decode prog_40_method_4_code 28 = .ok (.iload_n 3, 1) := by decide +kernel
theorem d1_29 : decode prog_40_method_4_code 29 = .ok (.iinc 3 1, 3) := by decide +kernel
theorem d1_32 : decode prog_40_method_4_code 32 = .ok (.iload_n 0, 1) := by decide +kernel
theorem d1_33 : decode prog_40_method_4_code 33 = .ok (.bipush 127, 2) := by decide +kernel
theorem d1_35 : decode prog_40_method_4_code 35 = .ok (.iand, 1) := by decide +kernel
theorem d1_36 : decode prog_40_method_4_code 36 = .ok (.sipush 128, 3) := by decide +kernel
theorem d1_39 : decode prog_40_method_4_code 39 = .ok (.ior, 1) := by decide +kernel
theorem d1_40 : decode prog_40_method_4_code 40 = .ok (.i2b, 1) := by decide +kernel
theorem d1_41 : decode prog_40_method_4_code 41 = .ok (.bastore, 1) := by decide +kernel
theorem d1_42 : decode prog_40_method_4_code 42 = .ok (.iload_n 0, 1) := by decide +kernel
theorem d1_43 : decode prog_40_method_4_code 43 = .ok (.bipush 7, 2) := by decide +kernel
theorem d1_45 : decode prog_40_method_4_code 45 = .ok (.iushr, 1) := by decide +kernel
theorem d1_46 : decode prog_40_method_4_code 46 = .ok (.istore_n 0, 1) := by decide +kernel
theorem d1_47 : decode prog_40_method_4_code 47 = .ok (.goto (-27), 3) := by decide +kernel
theorem d1_50 : decode prog_40_method_4_code 50 = .ok (.aload_n 1, 1) := by decide +kernel
theorem d1_51 : decode prog_40_method_4_code 51 = .ok (.iload_n 3, 1) := by decide +kernel
theorem d1_52 : decode prog_40_method_4_code 52 = .ok (.iinc 3 1, 3) := by decide +kernel
theorem d1_55 : decode prog_40_method_4_code 55 = .ok (.iload_n 0, 1) := by decide +kernel
theorem d1_56 : decode prog_40_method_4_code 56 = .ok (.i2b, 1) := by decide +kernel
theorem d1_57 : decode prog_40_method_4_code 57 = .ok (.bastore, 1) := by decide +kernel
theorem d1_58 : decode prog_40_method_4_code 58 = .ok (.iload_n 3, 1) := by decide +kernel
theorem d1_59 : decode prog_40_method_4_code 59 = .ok (.iload_n 2, 1) := by decide +kernel
theorem d1_60 : decode prog_40_method_4_code 60 = .ok (.isub, 1) := by decide +kernel
theorem d1_61 : decode prog_40_method_4_code 61 = .ok (.ireturn, 1) := by decide +kernel
theorem ef_1 (m : MethodId) (p0 : Int32) (a : Addr) (pz : Int32) : entryFrame m #[(.int p0), (.ref a), (.int pz)] 4 = (mkF m 0 #[.val (.int p0), .val (.ref a), .val (.int pz), .unset] []) := by first | (simp [entryFrame, mkF, argsToLocals, Value.category]; done) | rfl
def f_1 (p0 : Int32) (o : Nat) : Int32 := (if p0 < (128 : Int32) then (((Int32.ofNat o) + (1 : Int32)) - (Int32.ofNat o)) else (if (ushr p0 (7 : Int32)) < (128 : Int32) then ((((Int32.ofNat o) + (1 : Int32)) + (1 : Int32)) - (Int32.ofNat o)) else (if (ushr (ushr p0 (7 : Int32)) (7 : Int32)) < (128 : Int32) then (((((Int32.ofNat o) + (1 : Int32)) + (1 : Int32)) + (1 : Int32)) - (Int32.ofNat o)) else (if (ushr (ushr (ushr p0 (7 : Int32)) (7 : Int32)) (7 : Int32)) < (128 : Int32) then ((((((Int32.ofNat o) + (1 : Int32)) + (1 : Int32)) + (1 : Int32)) + (1 : Int32)) - (Int32.ofNat o)) else (((((((Int32.ofNat o) + (1 : Int32)) + (1 : Int32)) + (1 : Int32)) + (1 : Int32)) + (1 : Int32)) - (Int32.ofNat o))))))
def g_1 (p0 : Int32) (o : Nat) (b : Nat → Int32) : Nat → Int32 := (if p0 < (128 : Int32) then (updI b o (nar .byte (p0.toInt8.toInt32))) else (if (ushr p0 (7 : Int32)) < (128 : Int32) then (updI (updI b o (nar .byte (((p0 &&& (127 : Int32)) ||| (128 : Int32)).toInt8.toInt32))) ((o + 1)) (nar .byte ((ushr p0 (7 : Int32)).toInt8.toInt32))) else (if (ushr (ushr p0 (7 : Int32)) (7 : Int32)) < (128 : Int32) then (updI (updI (updI b o (nar .byte (((p0 &&& (127 : Int32)) ||| (128 : Int32)).toInt8.toInt32))) ((o + 1)) (nar .byte ((((ushr p0 (7 : Int32)) &&& (127 : Int32)) ||| (128 : Int32)).toInt8.toInt32))) ((o + 2)) (nar .byte ((ushr (ushr p0 (7 : Int32)) (7 : Int32)).toInt8.toInt32))) else (if (ushr (ushr (ushr p0 (7 : Int32)) (7 : Int32)) (7 : Int32)) < (128 : Int32) then (updI (updI (updI (updI b o (nar .byte (((p0 &&& (127 : Int32)) ||| (128 : Int32)).toInt8.toInt32))) ((o + 1)) (nar .byte ((((ushr p0 (7 : Int32)) &&& (127 : Int32)) ||| (128 : Int32)).toInt8.toInt32))) ((o + 2)) (nar .byte ((((ushr (ushr p0 (7 : Int32)) (7 : Int32)) &&& (127 : Int32)) ||| (128 : Int32)).toInt8.toInt32))) ((o + 3)) (nar .byte ((ushr (ushr (ushr p0 (7 : Int32)) (7 : Int32)) (7 : Int32)).toInt8.toInt32))) else (updI (updI (updI (updI (updI b o (nar .byte (((p0 &&& (127 : Int32)) ||| (128 : Int32)).toInt8.toInt32))) ((o + 1)) (nar .byte ((((ushr p0 (7 : Int32)) &&& (127 : Int32)) ||| (128 : Int32)).toInt8.toInt32))) ((o + 2)) (nar .byte ((((ushr (ushr p0 (7 : Int32)) (7 : Int32)) &&& (127 : Int32)) ||| (128 : Int32)).toInt8.toInt32))) ((o + 3)) (nar .byte ((((ushr (ushr (ushr p0 (7 : Int32)) (7 : Int32)) (7 : Int32)) &&& (127 : Int32)) ||| (128 : Int32)).toInt8.toInt32))) ((o + 4)) (nar .byte ((ushr (ushr (ushr (ushr p0 (7 : Int32)) (7 : Int32)) (7 : Int32)) (7 : Int32)).toInt8.toInt32)))))))
def Q_1 (Z : State) (p0 : Int32) (a : Addr) (pz : Int32) (o : Nat) (b : Nat → Int32) (h0 : Heap) (n0 : Nat) (vv : Option Value) (hE : Heap) (LE : List Loc) : Prop := vv = some (.int (f_1 p0 o)) ∧ Fr n0 LE ∧ Keep h0 hE [a] ∧ Ary Z hE a .byte 9 (bts (g_1 p0 o b))
set_option maxRecDepth 65536 in
set_option maxHeartbeats 40000000 in
theorem rm_1 (l : Launch) (Z : State) (a0 : Array Value) (hw : ∀ d ∈ tables_1, d.before a0 Z = true) (ws : List Jvm.Cond) (p0 : Int32) (a : Addr) (pz : Int32) (o : Nat) (b : Nat → Int32) (h0 : Heap) (n0 : Nat) (Z0 : n0 ≤ h0.size) (pr0 : Ary Z h0 a .byte 9 (bts b)) (pr1 : n0 ≤ a) (pr2 : pz = Int32.ofNat o) (pr3 : o < 4) (pr4 : 0 ≤ p0.toInt) :
    MetFree l (⟨"com/example/vocabulary/vocabulary/index/IndexOutput", "encodeVarInt", "(I[BI)I"⟩ : MethodName) (head1 (Jvm.Cond.code (⟨"com/example/vocabulary/vocabulary/index/IndexOutput", "encodeVarInt", "(I[BI)I"⟩ : MethodName) prog_40_method_4_code 4 (some .int) :: ws) ({ frames := 0, cells := 0, slots := 0, locals := 0 } : Room)) (fun aa UU => aa = #[(.int p0), (.ref a), (.int pz)] ∧ Z.Warmed39 UU.vm ∧ UU.heap = h0) (fun _ _ _ _ _ => True) (fun _ UU oo UU' => ∃ vv LL, oo = .returned vv ∧ Q_1 Z p0 a pz o b h0 n0 vv UU'.heap LL ∧ FrameEnd UU oo UU' LL ({ frames := 0, cells := 0, slots := 0, locals := 0 } : Room).cells ({ frames := 0, cells := 0, slots := 0, locals := 0 } : Room).slots) := by
  refine MetFree.of_bodySF (plainFor_of_name pn_0) hisR ?_
  intro p e s m args below meth c s₁ Bd hml0 hP hK
  obtain ⟨rfl, hZ, hh⟩ := hP
  have hx := Bd.exec
  have hby := Bd.bytes
  have hml : c.maxLocals = 4 := hml0
  have hown : s.vm.findClass "com/example/vocabulary/vocabulary/index/IndexOutput" = some m.cls := findClass_of_methodNamed Bd.named
  have hnm := (name_of_methodNamed Bd.named Bd.method).1
  have X0 : Stand p l e ({ frames := 0, cells := 0, slots := 0, locals := 0 } : Room) s m #[(.int p0), (.ref a), (.int pz)] below meth c s₁ [] 0 0 := Stand.of_body Bd
  have e0 : s₁.heap = h0 := by rw [← hh, Bd.state]; rfl
  have N0 := Fr.nil n0
  have K0 := Keep.refl h0 [a]
  show Go p e below s (Q_1 Z p0 a pz o b h0 n0) 0 0 s₁ (entryFrame m #[(.int p0), (.ref a), (.int pz)] 4)
  refine Go.of_eq (ef_1 m p0 a pz) ?_
  subst pr2
  refine Go.st (mkF m 1 #[.val (.int p0), .val (.ref a), .val (.int (Int32.ofNat o)), .unset] [(.int p0)]) (fun _ k => XS.iloadN X0.here hx rfl (hb hby d1_0) rfl k) ?_
  refine Go.st (mkF m 18 #[.val (.int p0), .val (.ref a), .val (.int (Int32.ofNat o)), .unset] []) (fun _ k => XS.ifYes X0.here hx rfl (pc0 := 1) (pc' := 18) rfl (hb hby d1_1) rfl ((if0 _ _).trans (flt (own_nonneg pr4)).2.1) (by decide) (by decide) k) ?_
  refine Go.st (mkF m 19 #[.val (.int p0), .val (.ref a), .val (.int (Int32.ofNat o)), .unset] [(.int (Int32.ofNat o))]) (fun _ k => XS.iloadN X0.here hx rfl (hb hby d1_18) rfl k) ?_
  refine Go.st (mkF m 20 #[.val (.int p0), .val (.ref a), .val (.int (Int32.ofNat o)), .val (.int (Int32.ofNat o))] []) (fun _ k => XS.istoreN X0.here hx rfl (hb hby d1_19) rfl (l' := #[.val (.int p0), .val (.ref a), .val (.int (Int32.ofNat o)), .val (.int (Int32.ofNat o))]) rfl k) ?_
  refine Go.st (mkF m 21 #[.val (.int p0), .val (.ref a), .val (.int (Int32.ofNat o)), .val (.int (Int32.ofNat o))] [(.int p0)]) (fun _ k => XS.iloadN X0.here hx rfl (hb hby d1_20) rfl k) ?_
  refine Go.st (mkF m 24 #[.val (.int p0), .val (.ref a), .val (.int (Int32.ofNat o)), .val (.int (Int32.ofNat o))] [(.int (128 : Int32)), (.int p0)]) (fun _ k => XS.sipush X0.here hx rfl (hb hby d1_21) k) ?_
  by_cases hc24_1 : p0 < (128 : Int32)
  ·
    refine Go.st (mkF m 50 #[.val (.int p0), .val (.ref a), .val (.int (Int32.ofNat o)), .val (.int (Int32.ofNat o))] []) (fun _ k => XS.icmpYes X0.here hx rfl (pc0 := 24) (pc' := 50) rfl (hb hby d1_24) rfl (tlt hc24_1).1 (by decide) (by decide) k) ?_
    refine Go.st (mkF m 51 #[.val (.int p0), .val (.ref a), .val (.int (Int32.ofNat o)), .val (.int (Int32.ofNat o))] [(.ref a)]) (fun _ k => XS.aloadN X0.here hx rfl (hb hby d1_50) rfl rfl k) ?_
    refine Go.st (mkF m 52 #[.val (.int p0), .val (.ref a), .val (.int (Int32.ofNat o)), .val (.int (Int32.ofNat o))] [(.int (Int32.ofNat o)), (.ref a)]) (fun _ k => XS.iloadN X0.here hx rfl (hb hby d1_51) rfl k) ?_
    refine Go.st (mkF m 55 #[.val (.int p0), .val (.ref a), .val (.int (Int32.ofNat o)), .val (.int ((Int32.ofNat o) + (1 : Int32)))] [(.int (Int32.ofNat o)), (.ref a)]) (fun _ k => XS.iinc X0.here hx rfl (hb hby d1_52) rfl (l' := #[.val (.int p0), .val (.ref a), .val (.int (Int32.ofNat o)), .val (.int ((Int32.ofNat o) + (1 : Int32)))]) rfl k) ?_
    refine Go.st (mkF m 56 #[.val (.int p0), .val (.ref a), .val (.int (Int32.ofNat o)), .val (.int ((Int32.ofNat o) + (1 : Int32)))] [(.int p0), (.int (Int32.ofNat o)), (.ref a)]) (fun _ k => XS.iloadN X0.here hx rfl (hb hby d1_55) rfl k) ?_
    refine Go.st (mkF m 57 #[.val (.int p0), .val (.ref a), .val (.int (Int32.ofNat o)), .val (.int ((Int32.ofNat o) + (1 : Int32)))] [(.int (p0.toInt8.toInt32)), (.int (Int32.ofNat o)), (.ref a)]) (fun _ k => XT.i2b X0.here hx rfl (hb hby d1_56) rfl k) ?_
    obtain ⟨T2, h2, X2, e2, W2, st2⟩ := stAB X0 hx hZ e0 pr0 (i := o) (own_ix0 o pr3).1 (own_ix0 o pr3).2 (by omega) (g := (mkF m 57 #[.val (.int p0), .val (.ref a), .val (.int (Int32.ofNat o)), .val (.int ((Int32.ofNat o) + (1 : Int32)))] [(.int (p0.toInt8.toInt32)), (.int (Int32.ofNat o)), (.ref a)])) rfl rfl (hb hby d1_57)
    have V3 : Ary Z h2 a .byte 9 (bts (updI b o (nar .byte (p0.toInt8.toInt32)))) := pr0.sameB W2
    have K2 : Keep h0 h2 [a] := K0.wr W2 (Or.inl (by simp))
    have N2 := Fr.snoc X2 N0 pr1
    refine Go.st (mkF m 58 #[.val (.int p0), .val (.ref a), .val (.int (Int32.ofNat o)), .val (.int ((Int32.ofNat o) + (1 : Int32)))] []) (fun _ k => st2 _ k) ?_
    refine Go.st (mkF m 59 #[.val (.int p0), .val (.ref a), .val (.int (Int32.ofNat o)), .val (.int ((Int32.ofNat o) + (1 : Int32)))] [(.int ((Int32.ofNat o) + (1 : Int32)))]) (fun _ k => XS.iloadN X2.here hx rfl (hb hby d1_58) rfl k) ?_
    refine Go.st (mkF m 60 #[.val (.int p0), .val (.ref a), .val (.int (Int32.ofNat o)), .val (.int ((Int32.ofNat o) + (1 : Int32)))] [(.int (Int32.ofNat o)), (.int ((Int32.ofNat o) + (1 : Int32)))]) (fun _ k => XS.iloadN X2.here hx rfl (hb hby d1_59) rfl k) ?_
    refine Go.st (mkF m 61 #[.val (.int p0), .val (.ref a), .val (.int (Int32.ofNat o)), .val (.int ((Int32.ofNat o) + (1 : Int32)))] [(.int (((Int32.ofNat o) + (1 : Int32)) - (Int32.ofNat o)))]) (fun _ k => XS.isub X2.here hx rfl (hb hby d1_60) rfl k) ?_
    exact Go.retI X2 hx Bd.notSynchronized Bd.returns (hb hby d1_61) (by rw [e2]; exact ⟨congrArg (fun z => some (Value.int z)) (show (((Int32.ofNat o) + (1 : Int32)) - (Int32.ofNat o)) = f_1 p0 o from by unfold f_1; rw [if_pos hc24_1]; first | done | rfl), N2, K2, (by unfold g_1; rw [if_pos hc24_1]; exact V3)⟩) (by decide) (by decide)
  ·
    refine Go.st (mkF m 27 #[.val (.int p0), .val (.ref a), .val (.int (Int32.ofNat o)), .val (.int (Int32.ofNat o))] []) (fun _ k => XS.icmpNo X0.here hx rfl (hb hby d1_24) rfl (flt hc24_1).1 k) ?_
    refine Go.st (mkF m 28 #[.val (.int p0), .val (.ref a), .val (.int (Int32.ofNat o)), .val (.int (Int32.ofNat o))] [(.ref a)]) (fun _ k => XS.aloadN X0.here hx rfl (hb hby d1_27) rfl rfl k) ?_
    refine Go.st (mkF m 29 #[.val (.int p0), .val (.ref a), .val (.int (Int32.ofNat o)), .val (.int (Int32.ofNat o))] [(.int (Int32.ofNat o)), (.ref a)]) (fun _ k => XS.iloadN X0.here hx rfl (hb hby d1_28) rfl k) ?_
    refine Go.st (mkF m 32 #[.val (.int p0), .val (.ref a), .val (.int (Int32.ofNat o)), .val (.int ((Int32.ofNat o) + (1 : Int32)))] [(.int (Int32.ofNat o)), (.ref a)]) (fun _ k => XS.iinc X0.here hx rfl (hb hby d1_29) rfl (l' := #[.val (.int p0), .val (.ref a), .val (.int (Int32.ofNat o)), .val (.int ((Int32.ofNat o) + (1 : Int32)))]) rfl k) ?_
    refine Go.st (mkF m 33 #[.val (.int p0), .val (.ref a), .val (.int (Int32.ofNat o)), .val (.int ((Int32.ofNat o) + (1 : Int32)))] [(.int p0), (.int (Int32.ofNat o)), (.ref a)]) (fun _ k => XS.iloadN X0.here hx rfl (hb hby d1_32) rfl k) ?_
    refine Go.st (mkF m 35 #[.val (.int p0), .val (.ref a), .val (.int (Int32.ofNat o)), .val (.int ((Int32.ofNat o) + (1 : Int32)))] [(.int (127 : Int32)), (.int p0), (.int (Int32.ofNat o)), (.ref a)]) (fun _ k => XS.bipush X0.here hx rfl (hb hby d1_33) k) ?_
    refine Go.st (mkF m 36 #[.val (.int p0), .val (.ref a), .val (.int (Int32.ofNat o)), .val (.int ((Int32.ofNat o) + (1 : Int32)))] [(.int (p0 &&& (127 : Int32))), (.int (Int32.ofNat o)), (.ref a)]) (fun _ k => XS.iand X0.here hx rfl (hb hby d1_35) rfl k) ?_
    refine Go.st (mkF m 39 #[.val (.int p0), .val (.ref a), .val (.int (Int32.ofNat o)), .val (.int ((Int32.ofNat o) + (1 : Int32)))] [(.int (128 : Int32)), (.int (p0 &&& (127 : Int32))), (.int (Int32.ofNat o)), (.ref a)]) (fun _ k => XS.sipush X0.here hx rfl (hb hby d1_36) k) ?_
    refine Go.st (mkF m 40 #[.val (.int p0), .val (.ref a), .val (.int (Int32.ofNat o)), .val (.int ((Int32.ofNat o) + (1 : Int32)))] [(.int ((p0 &&& (127 : Int32)) ||| (128 : Int32))), (.int (Int32.ofNat o)), (.ref a)]) (fun _ k => XT.ior X0.here hx rfl (hb hby d1_39) rfl k) ?_
    refine Go.st (mkF m 41 #[.val (.int p0), .val (.ref a), .val (.int (Int32.ofNat o)), .val (.int ((Int32.ofNat o) + (1 : Int32)))] [(.int (((p0 &&& (127 : Int32)) ||| (128 : Int32)).toInt8.toInt32)), (.int (Int32.ofNat o)), (.ref a)]) (fun _ k => XT.i2b X0.here hx rfl (hb hby d1_40) rfl k) ?_
    obtain ⟨T4, h4, X4, e4, W4, st4⟩ := stAB X0 hx hZ e0 pr0 (i := o) (own_ix0 o pr3).1 (own_ix0 o pr3).2 (by omega) (g := (mkF m 41 #[.val (.int p0), .val (.ref a), .val (.int (Int32.ofNat o)), .val (.int ((Int32.ofNat o) + (1 : Int32)))] [(.int (((p0 &&& (127 : Int32)) ||| (128 : Int32)).toInt8.toInt32)), (.int (Int32.ofNat o)), (.ref a)])) rfl rfl (hb hby d1_41)
    have V5 : Ary Z h4 a .byte 9 (bts (updI b o (nar .byte (((p0 &&& (127 : Int32)) ||| (128 : Int32)).toInt8.toInt32)))) := pr0.sameB W4
    have K4 : Keep h0 h4 [a] := K0.wr W4 (Or.inl (by simp))
    have N4 := Fr.snoc X4 N0 pr1
    refine Go.st (mkF m 42 #[.val (.int p0), .val (.ref a), .val (.int (Int32.ofNat o)), .val (.int ((Int32.ofNat o) + (1 : Int32)))] []) (fun _ k => st4 _ k) ?_
    refine Go.st (mkF m 43 #[.val (.int p0), .val (.ref a), .val (.int (Int32.ofNat o)), .val (.int ((Int32.ofNat o) + (1 : Int32)))] [(.int p0)]) (fun _ k => XS.iloadN X4.here hx rfl (hb hby d1_42) rfl k) ?_
    refine Go.st (mkF m 45 #[.val (.int p0), .val (.ref a), .val (.int (Int32.ofNat o)), .val (.int ((Int32.ofNat o) + (1 : Int32)))] [(.int (7 : Int32)), (.int p0)]) (fun _ k => XS.bipush X4.here hx rfl (hb hby d1_43) k) ?_
    refine Go.st (mkF m 46 #[.val (.int p0), .val (.ref a), .val (.int (Int32.ofNat o)), .val (.int ((Int32.ofNat o) + (1 : Int32)))] [(.int (ushr p0 (7 : Int32)))]) (fun _ k => XT.iushr X4.here hx rfl (hb hby d1_45) rfl k) ?_
    refine Go.st (mkF m 47 #[.val (.int (ushr p0 (7 : Int32))), .val (.ref a), .val (.int (Int32.ofNat o)), .val (.int ((Int32.ofNat o) + (1 : Int32)))] []) (fun _ k => XS.istoreN X4.here hx rfl (hb hby d1_46) rfl (l' := #[.val (.int (ushr p0 (7 : Int32))), .val (.ref a), .val (.int (Int32.ofNat o)), .val (.int ((Int32.ofNat o) + (1 : Int32)))]) rfl k) ?_
    refine Go.st (mkF m 20 #[.val (.int (ushr p0 (7 : Int32))), .val (.ref a), .val (.int (Int32.ofNat o)), .val (.int ((Int32.ofNat o) + (1 : Int32)))] []) (fun _ k => XS.goto X4.here hx rfl (pc0 := 47) (pc' := 20) rfl (hb hby d1_47) (by decide) (by decide) k) ?_
    refine Go.st (mkF m 21 #[.val (.int (ushr p0 (7 : Int32))), .val (.ref a), .val (.int (Int32.ofNat o)), .val (.int ((Int32.ofNat o) + (1 : Int32)))] [(.int (ushr p0 (7 : Int32)))]) (fun _ k => XS.iloadN X4.here hx rfl (hb hby d1_20) rfl k) ?_
    refine Go.st (mkF m 24 #[.val (.int (ushr p0 (7 : Int32))), .val (.ref a), .val (.int (Int32.ofNat o)), .val (.int ((Int32.ofNat o) + (1 : Int32)))] [(.int (128 : Int32)), (.int (ushr p0 (7 : Int32)))]) (fun _ k => XS.sipush X4.here hx rfl (hb hby d1_21) k) ?_
    by_cases hc24_6 : (ushr p0 (7 : Int32)) < (128 : Int32)
    ·
      refine Go.st (mkF m 50 #[.val (.int (ushr p0 (7 : Int32))), .val (.ref a), .val (.int (Int32.ofNat o)), .val (.int ((Int32.ofNat o) + (1 : Int32)))] []) (fun _ k => XS.icmpYes X4.here hx rfl (pc0 := 24) (pc' := 50) rfl (hb hby d1_24) rfl (tlt hc24_6).1 (by decide) (by decide) k) ?_
      refine Go.st (mkF m 51 #[.val (.int (ushr p0 (7 : Int32))), .val (.ref a), .val (.int (Int32.ofNat o)), .val (.int ((Int32.ofNat o) + (1 : Int32)))] [(.ref a)]) (fun _ k => XS.aloadN X4.here hx rfl (hb hby d1_50) rfl rfl k) ?_
      refine Go.st (mkF m 52 #[.val (.int (ushr p0 (7 : Int32))), .val (.ref a), .val (.int (Int32.ofNat o)), .val (.int ((Int32.ofNat o) + (1 : Int32)))] [(.int ((Int32.ofNat o) + (1 : Int32))), (.ref a)]) (fun _ k => XS.iloadN X4.here hx rfl (hb hby d1_51) rfl k) ?_
      refine Go.st (mkF m 55 #[.val (.int (ushr p0 (7 : Int32))), .val (.ref a), .val (.int (Int32.ofNat o)), .val (.int (((Int32.ofNat o) + (1 : Int32)) + (1 : Int32)))] [(.int ((Int32.ofNat o) + (1 : Int32))), (.ref a)]) (fun _ k => XS.iinc X4.here hx rfl (hb hby d1_52) rfl (l' := #[.val (.int (ushr p0 (7 : Int32))), .val (.ref a), .val (.int (Int32.ofNat o)), .val (.int (((Int32.ofNat o) + (1 : Int32)) + (1 : Int32)))]) rfl k) ?_
      refine Go.st (mkF m 56 #[.val (.int (ushr p0 (7 : Int32))), .val (.ref a), .val (.int (Int32.ofNat o)), .val (.int (((Int32.ofNat o) + (1 : Int32)) + (1 : Int32)))] [(.int (ushr p0 (7 : Int32))), (.int ((Int32.ofNat o) + (1 : Int32))), (.ref a)]) (fun _ k => XS.iloadN X4.here hx rfl (hb hby d1_55) rfl k) ?_
      refine Go.st (mkF m 57 #[.val (.int (ushr p0 (7 : Int32))), .val (.ref a), .val (.int (Int32.ofNat o)), .val (.int (((Int32.ofNat o) + (1 : Int32)) + (1 : Int32)))] [(.int ((ushr p0 (7 : Int32)).toInt8.toInt32)), (.int ((Int32.ofNat o) + (1 : Int32))), (.ref a)]) (fun _ k => XT.i2b X4.here hx rfl (hb hby d1_56) rfl k) ?_
      obtain ⟨T7, h7, X7, e7, W7, st7⟩ := stAB X4 hx hZ e4 V5 (i := (o + 1)) (own_ix1 o pr3).1 (own_ix1 o pr3).2 (by omega) (g := (mkF m 57 #[.val (.int (ushr p0 (7 : Int32))), .val (.ref a), .val (.int (Int32.ofNat o)), .val (.int (((Int32.ofNat o) + (1 : Int32)) + (1 : Int32)))] [(.int ((ushr p0 (7 : Int32)).toInt8.toInt32)), (.int ((Int32.ofNat o) + (1 : Int32))), (.ref a)])) rfl rfl (hb hby d1_57)
      have V8 : Ary Z h7 a .byte 9 (bts (updI (updI b o (nar .byte (((p0 &&& (127 : Int32)) ||| (128 : Int32)).toInt8.toInt32))) ((o + 1)) (nar .byte ((ushr p0 (7 : Int32)).toInt8.toInt32)))) := V5.sameB W7
      have K7 : Keep h0 h7 [a] := K4.wr W7 (Or.inl (by simp))
      have N7 := Fr.snoc X7 N4 pr1
      refine Go.st (mkF m 58 #[.val (.int (ushr p0 (7 : Int32))), .val (.ref a), .val (.int (Int32.ofNat o)), .val (.int (((Int32.ofNat o) + (1 : Int32)) + (1 : Int32)))] []) (fun _ k => st7 _ k) ?_
      refine Go.st (mkF m 59 #[.val (.int (ushr p0 (7 : Int32))), .val (.ref a), .val (.int (Int32.ofNat o)), .val (.int (((Int32.ofNat o) + (1 : Int32)) + (1 : Int32)))] [(.int (((Int32.ofNat o) + (1 : Int32)) + (1 : Int32)))]) (fun _ k => XS.iloadN X7.here hx rfl (hb hby d1_58) rfl k) ?_
      refine Go.st (mkF m 60 #[.val (.int (ushr p0 (7 : Int32))), .val (.ref a), .val (.int (Int32.ofNat o)), .val (.int (((Int32.ofNat o) + (1 : Int32)) + (1 : Int32)))] [(.int (Int32.ofNat o)), (.int (((Int32.ofNat o) + (1 : Int32)) + (1 : Int32)))]) (fun _ k => XS.iloadN X7.here hx rfl (hb hby d1_59) rfl k) ?_
      refine Go.st (mkF m 61 #[.val (.int (ushr p0 (7 : Int32))), .val (.ref a), .val (.int (Int32.ofNat o)), .val (.int (((Int32.ofNat o) + (1 : Int32)) + (1 : Int32)))] [(.int ((((Int32.ofNat o) + (1 : Int32)) + (1 : Int32)) - (Int32.ofNat o)))]) (fun _ k => XS.isub X7.here hx rfl (hb hby d1_60) rfl k) ?_
      exact Go.retI X7 hx Bd.notSynchronized Bd.returns (hb hby d1_61) (by rw [e7]; exact ⟨congrArg (fun z => some (Value.int z)) (show ((((Int32.ofNat o) + (1 : Int32)) + (1 : Int32)) - (Int32.ofNat o)) = f_1 p0 o from by unfold f_1; rw [if_neg hc24_1, if_pos hc24_6]; first | done | rfl), N7, K7, (by unfold g_1; rw [if_neg hc24_1, if_pos hc24_6]; exact V8)⟩) (by decide) (by decide)
    ·
      refine Go.st (mkF m 27 #[.val (.int (ushr p0 (7 : Int32))), .val (.ref a), .val (.int (Int32.ofNat o)), .val (.int ((Int32.ofNat o) + (1 : Int32)))] []) (fun _ k => XS.icmpNo X4.here hx rfl (hb hby d1_24) rfl (flt hc24_6).1 k) ?_
      refine Go.st (mkF m 28 #[.val (.int (ushr p0 (7 : Int32))), .val (.ref a), .val (.int (Int32.ofNat o)), .val (.int ((Int32.ofNat o) + (1 : Int32)))] [(.ref a)]) (fun _ k => XS.aloadN X4.here hx rfl (hb hby d1_27) rfl rfl k) ?_
      refine Go.st (mkF m 29 #[.val (.int (ushr p0 (7 : Int32))), .val (.ref a), .val (.int (Int32.ofNat o)), .val (.int ((Int32.ofNat o) + (1 : Int32)))] [(.int ((Int32.ofNat o) + (1 : Int32))), (.ref a)]) (fun _ k => XS.iloadN X4.here hx rfl (hb hby d1_28) rfl k) ?_
      refine Go.st (mkF m 32 #[.val (.int (ushr p0 (7 : Int32))), .val (.ref a), .val (.int (Int32.ofNat o)), .val (.int (((Int32.ofNat o) + (1 : Int32)) + (1 : Int32)))] [(.int ((Int32.ofNat o) + (1 : Int32))), (.ref a)]) (fun _ k => XS.iinc X4.here hx rfl (hb hby d1_29) rfl (l' := #[.val (.int (ushr p0 (7 : Int32))), .val (.ref a), .val (.int (Int32.ofNat o)), .val (.int (((Int32.ofNat o) + (1 : Int32)) + (1 : Int32)))]) rfl k) ?_
      refine Go.st (mkF m 33 #[.val (.int (ushr p0 (7 : Int32))), .val (.ref a), .val (.int (Int32.ofNat o)), .val (.int (((Int32.ofNat o) + (1 : Int32)) + (1 : Int32)))] [(.int (ushr p0 (7 : Int32))), (.int ((Int32.ofNat o) + (1 : Int32))), (.ref a)]) (fun _ k => XS.iloadN X4.here hx rfl (hb hby d1_32) rfl k) ?_
      refine Go.st (mkF m 35 #[.val (.int (ushr p0 (7 : Int32))), .val (.ref a), .val (.int (Int32.ofNat o)), .val (.int (((Int32.ofNat o) + (1 : Int32)) + (1 : Int32)))] [(.int (127 : Int32)), (.int (ushr p0 (7 : Int32))), (.int ((Int32.ofNat o) + (1 : Int32))), (.ref a)]) (fun _ k => XS.bipush X4.here hx rfl (hb hby d1_33) k) ?_
      refine Go.st (mkF m 36 #[.val (.int (ushr p0 (7 : Int32))), .val (.ref a), .val (.int (Int32.ofNat o)), .val (.int (((Int32.ofNat o) + (1 : Int32)) + (1 : Int32)))] [(.int ((ushr p0 (7 : Int32)) &&& (127 : Int32))), (.int ((Int32.ofNat o) + (1 : Int32))), (.ref a)]) (fun _ k => XS.iand X4.here hx rfl (hb hby d1_35) rfl k) ?_
      refine Go.st (mkF m 39 #[.val (.int (ushr p0 (7 : Int32))), .val (.ref a), .val (.int (Int32.ofNat o)), .val (.int (((Int32.ofNat o) + (1 : Int32)) + (1 : Int32)))] [(.int (128 : Int32)), (.int ((ushr p0 (7 : Int32)) &&& (127 : Int32))), (.int ((Int32.ofNat o) + (1 : Int32))), (.ref a)]) (fun _ k => XS.sipush X4.here hx rfl (hb hby d1_36) k) ?_
      refine Go.st (mkF m 40 #[.val (.int (ushr p0 (7 : Int32))), .val (.ref a), .val (.int (Int32.ofNat o)), .val (.int (((Int32.ofNat o) + (1 : Int32)) + (1 : Int32)))] [(.int (((ushr p0 (7 : Int32)) &&& (127 : Int32)) ||| (128 : Int32))), (.int ((Int32.ofNat o) + (1 : Int32))), (.ref a)]) (fun _ k => XT.ior X4.here hx rfl (hb hby d1_39) rfl k) ?_
      refine Go.st (mkF m 41 #[.val (.int (ushr p0 (7 : Int32))), .val (.ref a), .val (.int (Int32.ofNat o)), .val (.int (((Int32.ofNat o) + (1 : Int32)) + (1 : Int32)))] [(.int ((((ushr p0 (7 : Int32)) &&& (127 : Int32)) ||| (128 : Int32)).toInt8.toInt32)), (.int ((Int32.ofNat o) + (1 : Int32))), (.ref a)]) (fun _ k => XT.i2b X4.here hx rfl (hb hby d1_40) rfl k) ?_
      obtain ⟨T9, h9, X9, e9, W9, st9⟩ := stAB X4 hx hZ e4 V5 (i := (o + 1)) (own_ix1 o pr3).1 (own_ix1 o pr3).2 (by omega) (g := (mkF m 41 #[.val (.int (ushr p0 (7 : Int32))), .val (.ref a), .val (.int (Int32.ofNat o)), .val (.int (((Int32.ofNat o) + (1 : Int32)) + (1 : Int32)))] [(.int ((((ushr p0 (7 : Int32)) &&& (127 : Int32)) ||| (128 : Int32)).toInt8.toInt32)), (.int ((Int32.ofNat o) + (1 : Int32))), (.ref a)])) rfl rfl (hb hby d1_41)
      have V10 : Ary Z h9 a .byte 9 (bts (updI (updI b o (nar .byte (((p0 &&& (127 : Int32)) ||| (128 : Int32)).toInt8.toInt32))) ((o + 1)) (nar .byte ((((ushr p0 (7 : Int32)) &&& (127 : Int32)) ||| (128 : Int32)).toInt8.toInt32)))) := V5.sameB W9
      have K9 : Keep h0 h9 [a] := K4.wr W9 (Or.inl (by simp))
      have N9 := Fr.snoc X9 N4 pr1
      refine Go.st (mkF m 42 #[.val (.int (ushr p0 (7 : Int32))), .val (.ref a), .val (.int (Int32.ofNat o)), .val (.int (((Int32.ofNat o) + (1 : Int32)) + (1 : Int32)))] []) (fun _ k => st9 _ k) ?_
      refine Go.st (mkF m 43 #[.val (.int (ushr p0 (7 : Int32))), .val (.ref a), .val (.int (Int32.ofNat o)), .val (.int (((Int32.ofNat o) + (1 : Int32)) + (1 : Int32)))] [(.int (ushr p0 (7 : Int32)))]) (fun _ k => XS.iloadN X9.here hx rfl (hb hby d1_42) rfl k) ?_
      refine Go.st (mkF m 45 #[.val (.int (ushr p0 (7 : Int32))), .val (.ref a), .val (.int (Int32.ofNat o)), .val (.int (((Int32.ofNat o) + (1 : Int32)) + (1 : Int32)))] [(.int (7 : Int32)), (.int (ushr p0 (7 : Int32)))]) (fun _ k => XS.bipush X9.here hx rfl (hb hby d1_43) k) ?_
      refine Go.st (mkF m 46 #[.val (.int (ushr p0 (7 : Int32))), .val (.ref a), .val (.int (Int32.ofNat o)), .val (.int (((Int32.ofNat o) + (1 : Int32)) + (1 : Int32)))] [(.int (ushr (ushr p0 (7 : Int32)) (7 : Int32)))]) (fun _ k => XT.iushr X9.here hx rfl (hb hby d1_45) rfl k) ?_
      refine Go.st (mkF m 47 #[.val (.int (ushr (ushr p0 (7 : Int32)) (7 : Int32))), .val (.ref a), .val (.int (Int32.ofNat o)), .val (.int (((Int32.ofNat o) + (1 : Int32)) + (1 : Int32)))] []) (fun _ k => XS.istoreN X9.here hx rfl (hb hby d1_46) rfl (l' := #[.val (.int (ushr (ushr p0 (7 : Int32)) (7 : Int32))), .val (.ref a), .val (.int (Int32.ofNat o)), .val (.int (((Int32.ofNat o) + (1 : Int32)) + (1 : Int32)))]) rfl k) ?_
      refine Go.st (mkF m 20 #[.val (.int (ushr (ushr p0 (7 : Int32)) (7 : Int32))), .val (.ref a), .val (.int (Int32.ofNat o)), .val (.int (((Int32.ofNat o) + (1 : Int32)) + (1 : Int32)))] []) (fun _ k => XS.goto X9.here hx rfl (pc0 := 47) (pc' := 20) rfl (hb hby d1_47) (by decide) (by decide) k) ?_
      refine Go.st (mkF m 21 #[.val (.int (ushr (ushr p0 (7 : Int32)) (7 : Int32))), .val (.ref a), .val (.int (Int32.ofNat o)), .val (.int (((Int32.ofNat o) + (1 : Int32)) + (1 : Int32)))] [(.int (ushr (ushr p0 (7 : Int32)) (7 : Int32)))]) (fun _ k => XS.iloadN X9.here hx rfl (hb hby d1_20) rfl k) ?_
      refine Go.st (mkF m 24 #[.val (.int (ushr (ushr p0 (7 : Int32)) (7 : Int32))), .val (.ref a), .val (.int (Int32.ofNat o)), .val (.int (((Int32.ofNat o) + (1 : Int32)) + (1 : Int32)))] [(.int (128 : Int32)), (.int (ushr (ushr p0 (7 : Int32)) (7 : Int32)))]) (fun _ k => XS.sipush X9.here hx rfl (hb hby d1_21) k) ?_
      by_cases hc24_11 : (ushr (ushr p0 (7 : Int32)) (7 : Int32)) < (128 : Int32)
      ·
        refine Go.st (mkF m 50 #[.val (.int (ushr (ushr p0 (7 : Int32)) (7 : Int32))), .val (.ref a), .val (.int (Int32.ofNat o)), .val (.int (((Int32.ofNat o) + (1 : Int32)) + (1 : Int32)))] []) (fun _ k => XS.icmpYes X9.here hx rfl (pc0 := 24) (pc' := 50) rfl (hb hby d1_24) rfl (tlt hc24_11).1 (by decide) (by decide) k) ?_
        refine Go.st (mkF m 51 #[.val (.int (ushr (ushr p0 (7 : Int32)) (7 : Int32))), .val (.ref a), .val (.int (Int32.ofNat o)), .val (.int (((Int32.ofNat o) + (1 : Int32)) + (1 : Int32)))] [(.ref a)]) (fun _ k => XS.aloadN X9.here hx rfl (hb hby d1_50) rfl rfl k) ?_
        refine Go.st (mkF m 52 #[.val (.int (ushr (ushr p0 (7 : Int32)) (7 : Int32))), .val (.ref a), .val (.int (Int32.ofNat o)), .val (.int (((Int32.ofNat o) + (1 : Int32)) + (1 : Int32)))] [(.int (((Int32.ofNat o) + (1 : Int32)) + (1 : Int32))), (.ref a)]) (fun _ k => XS.iloadN X9.here hx rfl (hb hby d1_51) rfl k) ?_
        refine Go.st (mkF m 55 #[.val (.int (ushr (ushr p0 (7 : Int32)) (7 : Int32))), .val (.ref a), .val (.int (Int32.ofNat o)), .val (.int ((((Int32.ofNat o) + (1 : Int32)) + (1 : Int32)) + (1 : Int32)))] [(.int (((Int32.ofNat o) + (1 : Int32)) + (1 : Int32))), (.ref a)]) (fun _ k => XS.iinc X9.here hx rfl (hb hby d1_52) rfl (l' := #[.val (.int (ushr (ushr p0 (7 : Int32)) (7 : Int32))), .val (.ref a), .val (.int (Int32.ofNat o)), .val (.int ((((Int32.ofNat o) + (1 : Int32)) + (1 : Int32)) + (1 : Int32)))]) rfl k) ?_
        refine Go.st (mkF m 56 #[.val (.int (ushr (ushr p0 (7 : Int32)) (7 : Int32))), .val (.ref a), .val (.int (Int32.ofNat o)), .val (.int ((((Int32.ofNat o) + (1 : Int32)) + (1 : Int32)) + (1 : Int32)))] [(.int (ushr (ushr p0 (7 : Int32)) (7 : Int32))), (.int (((Int32.ofNat o) + (1 : Int32)) + (1 : Int32))), (.ref a)]) (fun _ k => XS.iloadN X9.here hx rfl (hb hby d1_55) rfl k) ?_
        refine Go.st (mkF m 57 #[.val (.int (ushr (ushr p0 (7 : Int32)) (7 : Int32))), .val (.ref a), .val (.int (Int32.ofNat o)), .val (.int ((((Int32.ofNat o) + (1 : Int32)) + (1 : Int32)) + (1 : Int32)))] [(.int ((ushr (ushr p0 (7 : Int32)) (7 : Int32)).toInt8.toInt32)), (.int (((Int32.ofNat o) + (1 : Int32)) + (1 : Int32))), (.ref a)]) (fun _ k => XT.i2b X9.here hx rfl (hb hby d1_56) rfl k) ?_
        obtain ⟨T12, h12, X12, e12, W12, st12⟩ := stAB X9 hx hZ e9 V10 (i := (o + 2)) (own_ix2 o pr3).1 (own_ix2 o pr3).2 (by omega) (g := (mkF m 57 #[.val (.int (ushr (ushr p0 (7 : Int32)) (7 : Int32))), .val (.ref a), .val (.int (Int32.ofNat o)), .val (.int ((((Int32.ofNat o) + (1 : Int32)) + (1 : Int32)) + (1 : Int32)))] [(.int ((ushr (ushr p0 (7 : Int32)) (7 : Int32)).toInt8.toInt32)), (.int (((Int32.ofNat o) + (1 : Int32)) + (1 : Int32))), (.ref a)])) rfl rfl (hb hby d1_57)
        have V13 : Ary Z h12 a .byte 9 (bts (updI (updI (updI b o (nar .byte (((p0 &&& (127 : Int32)) ||| (128 : Int32)).toInt8.toInt32))) ((o + 1)) (nar .byte ((((ushr p0 (7 : Int32)) &&& (127 : Int32)) ||| (128 : Int32)).toInt8.toInt32))) ((o + 2)) (nar .byte ((ushr (ushr p0 (7 : Int32)) (7 : Int32)).toInt8.toInt32)))) := V10.sameB W12
        have K12 : Keep h0 h12 [a] := K9.wr W12 (Or.inl (by simp))
        have N12 := Fr.snoc X12 N9 pr1
        refine Go.st (mkF m 58 #[.val (.int (ushr (ushr p0 (7 : Int32)) (7 : Int32))), .val (.ref a), .val (.int (Int32.ofNat o)), .val (.int ((((Int32.ofNat o) + (1 : Int32)) + (1 : Int32)) + (1 : Int32)))] []) (fun _ k => st12 _ k) ?_
        refine Go.st (mkF m 59 #[.val (.int (ushr (ushr p0 (7 : Int32)) (7 : Int32))), .val (.ref a), .val (.int (Int32.ofNat o)), .val (.int ((((Int32.ofNat o) + (1 : Int32)) + (1 : Int32)) + (1 : Int32)))] [(.int ((((Int32.ofNat o) + (1 : Int32)) + (1 : Int32)) + (1 : Int32)))]) (fun _ k => XS.iloadN X12.here hx rfl (hb hby d1_58) rfl k) ?_
        refine Go.st (mkF m 60 #[.val (.int (ushr (ushr p0 (7 : Int32)) (7 : Int32))), .val (.ref a), .val (.int (Int32.ofNat o)), .val (.int ((((Int32.ofNat o) + (1 : Int32)) + (1 : Int32)) + (1 : Int32)))] [(.int (Int32.ofNat o)), (.int ((((Int32.ofNat o) + (1 : Int32)) + (1 : Int32)) + (1 : Int32)))]) (fun _ k => XS.iloadN X12.here hx rfl (hb hby d1_59) rfl k) ?_
        refine Go.st (mkF m 61 #[.val (.int (ushr (ushr p0 (7 : Int32)) (7 : Int32))), .val (.ref a), .val (.int (Int32.ofNat o)), .val (.int ((((Int32.ofNat o) + (1 : Int32)) + (1 : Int32)) + (1 : Int32)))] [(.int (((((Int32.ofNat o) + (1 : Int32)) + (1 : Int32)) + (1 : Int32)) - (Int32.ofNat o)))]) (fun _ k => XS.isub X12.here hx rfl (hb hby d1_60) rfl k) ?_
        exact Go.retI X12 hx Bd.notSynchronized Bd.returns (hb hby d1_61) (by rw [e12]; exact ⟨congrArg (fun z => some (Value.int z)) (show (((((Int32.ofNat o) + (1 : Int32)) + (1 : Int32)) + (1 : Int32)) - (Int32.ofNat o)) = f_1 p0 o from by unfold f_1; rw [if_neg hc24_1, if_neg hc24_6, if_pos hc24_11]; first | done | rfl), N12, K12, (by unfold g_1; rw [if_neg hc24_1, if_neg hc24_6, if_pos hc24_11]; exact V13)⟩) (by decide) (by decide)
      ·
        refine Go.st (mkF m 27 #[.val (.int (ushr (ushr p0 (7 : Int32)) (7 : Int32))), .val (.ref a), .val (.int (Int32.ofNat o)), .val (.int (((Int32.ofNat o) + (1 : Int32)) + (1 : Int32)))] []) (fun _ k => XS.icmpNo X9.here hx rfl (hb hby d1_24) rfl (flt hc24_11).1 k) ?_
        refine Go.st (mkF m 28 #[.val (.int (ushr (ushr p0 (7 : Int32)) (7 : Int32))), .val (.ref a), .val (.int (Int32.ofNat o)), .val (.int (((Int32.ofNat o) + (1 : Int32)) + (1 : Int32)))] [(.ref a)]) (fun _ k => XS.aloadN X9.here hx rfl (hb hby d1_27) rfl rfl k) ?_
        refine Go.st (mkF m 29 #[.val (.int (ushr (ushr p0 (7 : Int32)) (7 : Int32))), .val (.ref a), .val (.int (Int32.ofNat o)), .val (.int (((Int32.ofNat o) + (1 : Int32)) + (1 : Int32)))] [(.int (((Int32.ofNat o) + (1 : Int32)) + (1 : Int32))), (.ref a)]) (fun _ k => XS.iloadN X9.here hx rfl (hb hby d1_28) rfl k) ?_
        refine Go.st (mkF m 32 #[.val (.int (ushr (ushr p0 (7 : Int32)) (7 : Int32))), .val (.ref a), .val (.int (Int32.ofNat o)), .val (.int ((((Int32.ofNat o) + (1 : Int32)) + (1 : Int32)) + (1 : Int32)))] [(.int (((Int32.ofNat o) + (1 : Int32)) + (1 : Int32))), (.ref a)]) (fun _ k => XS.iinc X9.here hx rfl (hb hby d1_29) rfl (l' := #[.val (.int (ushr (ushr p0 (7 : Int32)) (7 : Int32))), .val (.ref a), .val (.int (Int32.ofNat o)), .val (.int ((((Int32.ofNat o) + (1 : Int32)) + (1 : Int32)) + (1 : Int32)))]) rfl k) ?_
        refine Go.st (mkF m 33 #[.val (.int (ushr (ushr p0 (7 : Int32)) (7 : Int32))), .val (.ref a), .val (.int (Int32.ofNat o)), .val (.int ((((Int32.ofNat o) + (1 : Int32)) + (1 : Int32)) + (1 : Int32)))] [(.int (ushr (ushr p0 (7 : Int32)) (7 : Int32))), (.int (((Int32.ofNat o) + (1 : Int32)) + (1 : Int32))), (.ref a)]) (fun _ k => XS.iloadN X9.here hx rfl (hb hby d1_32) rfl k) ?_
        refine Go.st (mkF m 35 #[.val (.int (ushr (ushr p0 (7 : Int32)) (7 : Int32))), .val (.ref a), .val (.int (Int32.ofNat o)), .val (.int ((((Int32.ofNat o) + (1 : Int32)) + (1 : Int32)) + (1 : Int32)))] [(.int (127 : Int32)), (.int (ushr (ushr p0 (7 : Int32)) (7 : Int32))), (.int (((Int32.ofNat o) + (1 : Int32)) + (1 : Int32))), (.ref a)]) (fun _ k => XS.bipush X9.here hx rfl (hb hby d1_33) k) ?_
        refine Go.st (mkF m 36 #[.val (.int (ushr (ushr p0 (7 : Int32)) (7 : Int32))), .val (.ref a), .val (.int (Int32.ofNat o)), .val (.int ((((Int32.ofNat o) + (1 : Int32)) + (1 : Int32)) + (1 : Int32)))] [(.int ((ushr (ushr p0 (7 : Int32)) (7 : Int32)) &&& (127 : Int32))), (.int (((Int32.ofNat o) + (1 : Int32)) + (1 : Int32))), (.ref a)]) (fun _ k => XS.iand X9.here hx rfl (hb hby d1_35) rfl k) ?_
        refine Go.st (mkF m 39 #[.val (.int (ushr (ushr p0 (7 : Int32)) (7 : Int32))), .val (.ref a), .val (.int (Int32.ofNat o)), .val (.int ((((Int32.ofNat o) + (1 : Int32)) + (1 : Int32)) + (1 : Int32)))] [(.int (128 : Int32)), (.int ((ushr (ushr p0 (7 : Int32)) (7 : Int32)) &&& (127 : Int32))), (.int (((Int32.ofNat o) + (1 : Int32)) + (1 : Int32))), (.ref a)]) (fun _ k => XS.sipush X9.here hx rfl (hb hby d1_36) k) ?_
        refine Go.st (mkF m 40 #[.val (.int (ushr (ushr p0 (7 : Int32)) (7 : Int32))), .val (.ref a), .val (.int (Int32.ofNat o)), .val (.int ((((Int32.ofNat o) + (1 : Int32)) + (1 : Int32)) + (1 : Int32)))] [(.int (((ushr (ushr p0 (7 : Int32)) (7 : Int32)) &&& (127 : Int32)) ||| (128 : Int32))), (.int (((Int32.ofNat o) + (1 : Int32)) + (1 : Int32))), (.ref a)]) (fun _ k => XT.ior X9.here hx rfl (hb hby d1_39) rfl k) ?_
        refine Go.st (mkF m 41 #[.val (.int (ushr (ushr p0 (7 : Int32)) (7 : Int32))), .val (.ref a), .val (.int (Int32.ofNat o)), .val (.int ((((Int32.ofNat o) + (1 : Int32)) + (1 : Int32)) + (1 : Int32)))] [(.int ((((ushr (ushr p0 (7 : Int32)) (7 : Int32)) &&& (127 : Int32)) ||| (128 : Int32)).toInt8.toInt32)), (.int (((Int32.ofNat o) + (1 : Int32)) + (1 : Int32))), (.ref a)]) (fun _ k => XT.i2b X9.here hx rfl (hb hby d1_40) rfl k) ?_
        obtain ⟨T14, h14, X14, e14, W14, st14⟩ := stAB X9 hx hZ e9 V10 (i := (o + 2)) (own_ix2 o pr3).1 (own_ix2 o pr3).2 (by omega) (g := (mkF m 41 #[.val (.int (ushr (ushr p0 (7 : Int32)) (7 : Int32))), .val (.ref a), .val (.int (Int32.ofNat o)), .val (.int ((((Int32.ofNat o) + (1 : Int32)) + (1 : Int32)) + (1 : Int32)))] [(.int ((((ushr (ushr p0 (7 : Int32)) (7 : Int32)) &&& (127 : Int32)) ||| (128 : Int32)).toInt8.toInt32)), (.int (((Int32.ofNat o) + (1 : Int32)) + (1 : Int32))), (.ref a)])) rfl rfl (hb hby d1_41)
        have V15 : Ary Z h14 a .byte 9 (bts (updI (updI (updI b o (nar .byte (((p0 &&& (127 : Int32)) ||| (128 : Int32)).toInt8.toInt32))) ((o + 1)) (nar .byte ((((ushr p0 (7 : Int32)) &&& (127 : Int32)) ||| (128 : Int32)).toInt8.toInt32))) ((o + 2)) (nar .byte ((((ushr (ushr p0 (7 : Int32)) (7 : Int32)) &&& (127 : Int32)) ||| (128 : Int32)).toInt8.toInt32)))) := V10.sameB W14
        have K14 : Keep h0 h14 [a] := K9.wr W14 (Or.inl (by simp))
        have N14 := Fr.snoc X14 N9 pr1
        refine Go.st (mkF m 42 #[.val (.int (ushr (ushr p0 (7 : Int32)) (7 : Int32))), .val (.ref a), .val (.int (Int32.ofNat o)), .val (.int ((((Int32.ofNat o) + (1 : Int32)) + (1 : Int32)) + (1 : Int32)))] []) (fun _ k => st14 _ k) ?_
        refine Go.st (mkF m 43 #[.val (.int (ushr (ushr p0 (7 : Int32)) (7 : Int32))), .val (.ref a), .val (.int (Int32.ofNat o)), .val (.int ((((Int32.ofNat o) + (1 : Int32)) + (1 : Int32)) + (1 : Int32)))] [(.int (ushr (ushr p0 (7 : Int32)) (7 : Int32)))]) (fun _ k => XS.iloadN X14.here hx rfl (hb hby d1_42) rfl k) ?_
        refine Go.st (mkF m 45 #[.val (.int (ushr (ushr p0 (7 : Int32)) (7 : Int32))), .val (.ref a), .val (.int (Int32.ofNat o)), .val (.int ((((Int32.ofNat o) + (1 : Int32)) + (1 : Int32)) + (1 : Int32)))] [(.int (7 : Int32)), (.int (ushr (ushr p0 (7 : Int32)) (7 : Int32)))]) (fun _ k => XS.bipush X14.here hx rfl (hb hby d1_43) k) ?_
        refine Go.st (mkF m 46 #[.val (.int (ushr (ushr p0 (7 : Int32)) (7 : Int32))), .val (.ref a), .val (.int (Int32.ofNat o)), .val (.int ((((Int32.ofNat o) + (1 : Int32)) + (1 : Int32)) + (1 : Int32)))] [(.int (ushr (ushr (ushr p0 (7 : Int32)) (7 : Int32)) (7 : Int32)))]) (fun _ k => XT.iushr X14.here hx rfl (hb hby d1_45) rfl k) ?_
        refine Go.st (mkF m 47 #[.val (.int (ushr (ushr (ushr p0 (7 : Int32)) (7 : Int32)) (7 : Int32))), .val (.ref a), .val (.int (Int32.ofNat o)), .val (.int ((((Int32.ofNat o) + (1 : Int32)) + (1 : Int32)) + (1 : Int32)))] []) (fun _ k => XS.istoreN X14.here hx rfl (hb hby d1_46) rfl (l' := #[.val (.int (ushr (ushr (ushr p0 (7 : Int32)) (7 : Int32)) (7 : Int32))), .val (.ref a), .val (.int (Int32.ofNat o)), .val (.int ((((Int32.ofNat o) + (1 : Int32)) + (1 : Int32)) + (1 : Int32)))]) rfl k) ?_
        refine Go.st (mkF m 20 #[.val (.int (ushr (ushr (ushr p0 (7 : Int32)) (7 : Int32)) (7 : Int32))), .val (.ref a), .val (.int (Int32.ofNat o)), .val (.int ((((Int32.ofNat o) + (1 : Int32)) + (1 : Int32)) + (1 : Int32)))] []) (fun _ k => XS.goto X14.here hx rfl (pc0 := 47) (pc' := 20) rfl (hb hby d1_47) (by decide) (by decide) k) ?_
        refine Go.st (mkF m 21 #[.val (.int (ushr (ushr (ushr p0 (7 : Int32)) (7 : Int32)) (7 : Int32))), .val (.ref a), .val (.int (Int32.ofNat o)), .val (.int ((((Int32.ofNat o) + (1 : Int32)) + (1 : Int32)) + (1 : Int32)))] [(.int (ushr (ushr (ushr p0 (7 : Int32)) (7 : Int32)) (7 : Int32)))]) (fun _ k => XS.iloadN X14.here hx rfl (hb hby d1_20) rfl k) ?_
        refine Go.st (mkF m 24 #[.val (.int (ushr (ushr (ushr p0 (7 : Int32)) (7 : Int32)) (7 : Int32))), .val (.ref a), .val (.int (Int32.ofNat o)), .val (.int ((((Int32.ofNat o) + (1 : Int32)) + (1 : Int32)) + (1 : Int32)))] [(.int (128 : Int32)), (.int (ushr (ushr (ushr p0 (7 : Int32)) (7 : Int32)) (7 : Int32)))]) (fun _ k => XS.sipush X14.here hx rfl (hb hby d1_21) k) ?_
        by_cases hc24_16 : (ushr (ushr (ushr p0 (7 : Int32)) (7 : Int32)) (7 : Int32)) < (128 : Int32)
        ·
          refine Go.st (mkF m 50 #[.val (.int (ushr (ushr (ushr p0 (7 : Int32)) (7 : Int32)) (7 : Int32))), .val (.ref a), .val (.int (Int32.ofNat o)), .val (.int ((((Int32.ofNat o) + (1 : Int32)) + (1 : Int32)) + (1 : Int32)))] []) (fun _ k => XS.icmpYes X14.here hx rfl (pc0 := 24) (pc' := 50) rfl (hb hby d1_24) rfl (tlt hc24_16).1 (by decide) (by decide) k) ?_
          refine Go.st (mkF m 51 #[.val (.int (ushr (ushr (ushr p0 (7 : Int32)) (7 : Int32)) (7 : Int32))), .val (.ref a), .val (.int (Int32.ofNat o)), .val (.int ((((Int32.ofNat o) + (1 : Int32)) + (1 : Int32)) + (1 : Int32)))] [(.ref a)]) (fun _ k => XS.aloadN X14.here hx rfl (hb hby d1_50) rfl rfl k) ?_
          refine Go.st (mkF m 52 #[.val (.int (ushr (ushr (ushr p0 (7 : Int32)) (7 : Int32)) (7 : Int32))), .val (.ref a), .val (.int (Int32.ofNat o)), .val (.int ((((Int32.ofNat o) + (1 : Int32)) + (1 : Int32)) + (1 : Int32)))] [(.int ((((Int32.ofNat o) + (1 : Int32)) + (1 : Int32)) + (1 : Int32))), (.ref a)]) (fun _ k => XS.iloadN X14.here hx rfl (hb hby d1_51) rfl k) ?_
          refine Go.st (mkF m 55 #[.val (.int (ushr (ushr (ushr p0 (7 : Int32)) (7 : Int32)) (7 : Int32))), .val (.ref a), .val (.int (Int32.ofNat o)), .val (.int (((((Int32.ofNat o) + (1 : Int32)) + (1 : Int32)) + (1 : Int32)) + (1 : Int32)))] [(.int ((((Int32.ofNat o) + (1 : Int32)) + (1 : Int32)) + (1 : Int32))), (.ref a)]) (fun _ k => XS.iinc X14.here hx rfl (hb hby d1_52) rfl (l' := #[.val (.int (ushr (ushr (ushr p0 (7 : Int32)) (7 : Int32)) (7 : Int32))), .val (.ref a), .val (.int (Int32.ofNat o)), .val (.int (((((Int32.ofNat o) + (1 : Int32)) + (1 : Int32)) + (1 : Int32)) + (1 : Int32)))]) rfl k) ?_
          refine Go.st (mkF m 56 #[.val (.int (ushr (ushr (ushr p0 (7 : Int32)) (7 : Int32)) (7 : Int32))), .val (.ref a), .val (.int (Int32.ofNat o)), .val (.int (((((Int32.ofNat o) + (1 : Int32)) + (1 : Int32)) + (1 : Int32)) + (1 : Int32)))] [(.int (ushr (ushr (ushr p0 (7 : Int32)) (7 : Int32)) (7 : Int32))), (.int ((((Int32.ofNat o) + (1 : Int32)) + (1 : Int32)) + (1 : Int32))), (.ref a)]) (fun _ k => XS.iloadN X14.here hx rfl (hb hby d1_55) rfl k) ?_
          refine Go.st (mkF m 57 #[.val (.int (ushr (ushr (ushr p0 (7 : Int32)) (7 : Int32)) (7 : Int32))), .val (.ref a), .val (.int (Int32.ofNat o)), .val (.int (((((Int32.ofNat o) + (1 : Int32)) + (1 : Int32)) + (1 : Int32)) + (1 : Int32)))] [(.int ((ushr (ushr (ushr p0 (7 : Int32)) (7 : Int32)) (7 : Int32)).toInt8.toInt32)), (.int ((((Int32.ofNat o) + (1 : Int32)) + (1 : Int32)) + (1 : Int32))), (.ref a)]) (fun _ k => XT.i2b X14.here hx rfl (hb hby d1_56) rfl k) ?_
          obtain ⟨T17, h17, X17, e17, W17, st17⟩ := stAB X14 hx hZ e14 V15 (i := (o + 3)) (own_ix3 o pr3).1 (own_ix3 o pr3).2 (by omega) (g := (mkF m 57 #[.val (.int (ushr (ushr (ushr p0 (7 : Int32)) (7 : Int32)) (7 : Int32))), .val (.ref a), .val (.int (Int32.ofNat o)), .val (.int (((((Int32.ofNat o) + (1 : Int32)) + (1 : Int32)) + (1 : Int32)) + (1 : Int32)))] [(.int ((ushr (ushr (ushr p0 (7 : Int32)) (7 : Int32)) (7 : Int32)).toInt8.toInt32)), (.int ((((Int32.ofNat o) + (1 : Int32)) + (1 : Int32)) + (1 : Int32))), (.ref a)])) rfl rfl (hb hby d1_57)
          have V18 : Ary Z h17 a .byte 9 (bts (updI (updI (updI (updI b o (nar .byte (((p0 &&& (127 : Int32)) ||| (128 : Int32)).toInt8.toInt32))) ((o + 1)) (nar .byte ((((ushr p0 (7 : Int32)) &&& (127 : Int32)) ||| (128 : Int32)).toInt8.toInt32))) ((o + 2)) (nar .byte ((((ushr (ushr p0 (7 : Int32)) (7 : Int32)) &&& (127 : Int32)) ||| (128 : Int32)).toInt8.toInt32))) ((o + 3)) (nar .byte ((ushr (ushr (ushr p0 (7 : Int32)) (7 : Int32)) (7 : Int32)).toInt8.toInt32)))) := V15.sameB W17
          have K17 : Keep h0 h17 [a] := K14.wr W17 (Or.inl (by simp))
          have N17 := Fr.snoc X17 N14 pr1
          refine Go.st (mkF m 58 #[.val (.int (ushr (ushr (ushr p0 (7 : Int32)) (7 : Int32)) (7 : Int32))), .val (.ref a), .val (.int (Int32.ofNat o)), .val (.int (((((Int32.ofNat o) + (1 : Int32)) + (1 : Int32)) + (1 : Int32)) + (1 : Int32)))] []) (fun _ k => st17 _ k) ?_
          refine Go.st (mkF m 59 #[.val (.int (ushr (ushr (ushr p0 (7 : Int32)) (7 : Int32)) (7 : Int32))), .val (.ref a), .val (.int (Int32.ofNat o)), .val (.int (((((Int32.ofNat o) + (1 : Int32)) + (1 : Int32)) + (1 : Int32)) + (1 : Int32)))] [(.int (((((Int32.ofNat o) + (1 : Int32)) + (1 : Int32)) + (1 : Int32)) + (1 : Int32)))]) (fun _ k => XS.iloadN X17.here hx rfl (hb hby d1_58) rfl k) ?_
          refine Go.st (mkF m 60 #[.val (.int (ushr (ushr (ushr p0 (7 : Int32)) (7 : Int32)) (7 : Int32))), .val (.ref a), .val (.int (Int32.ofNat o)), .val (.int (((((Int32.ofNat o) + (1 : Int32)) + (1 : Int32)) + (1 : Int32)) + (1 : Int32)))] [(.int (Int32.ofNat o)), (.int (((((Int32.ofNat o) + (1 : Int32)) + (1 : Int32)) + (1 : Int32)) + (1 : Int32)))]) (fun _ k => XS.iloadN X17.here hx rfl (hb hby d1_59) rfl k) ?_
          refine Go.st (mkF m 61 #[.val (.int (ushr (ushr (ushr p0 (7 : Int32)) (7 : Int32)) (7 : Int32))), .val (.ref a), .val (.int (Int32.ofNat o)), .val (.int (((((Int32.ofNat o) + (1 : Int32)) + (1 : Int32)) + (1 : Int32)) + (1 : Int32)))] [(.int ((((((Int32.ofNat o) + (1 : Int32)) + (1 : Int32)) + (1 : Int32)) + (1 : Int32)) - (Int32.ofNat o)))]) (fun _ k => XS.isub X17.here hx rfl (hb hby d1_60) rfl k) ?_
          exact Go.retI X17 hx Bd.notSynchronized Bd.returns (hb hby d1_61) (by rw [e17]; exact ⟨congrArg (fun z => some (Value.int z)) (show ((((((Int32.ofNat o) + (1 : Int32)) + (1 : Int32)) + (1 : Int32)) + (1 : Int32)) - (Int32.ofNat o)) = f_1 p0 o from by unfold f_1; rw [if_neg hc24_1, if_neg hc24_6, if_neg hc24_11, if_pos hc24_16]; first | done | rfl), N17, K17, (by unfold g_1; rw [if_neg hc24_1, if_neg hc24_6, if_neg hc24_11, if_pos hc24_16]; exact V18)⟩) (by decide) (by decide)
        ·
          refine Go.st (mkF m 27 #[.val (.int (ushr (ushr (ushr p0 (7 : Int32)) (7 : Int32)) (7 : Int32))), .val (.ref a), .val (.int (Int32.ofNat o)), .val (.int ((((Int32.ofNat o) + (1 : Int32)) + (1 : Int32)) + (1 : Int32)))] []) (fun _ k => XS.icmpNo X14.here hx rfl (hb hby d1_24) rfl (flt hc24_16).1 k) ?_
          refine Go.st (mkF m 28 #[.val (.int (ushr (ushr (ushr p0 (7 : Int32)) (7 : Int32)) (7 : Int32))), .val (.ref a), .val (.int (Int32.ofNat o)), .val (.int ((((Int32.ofNat o) + (1 : Int32)) + (1 : Int32)) + (1 : Int32)))] [(.ref a)]) (fun _ k => XS.aloadN X14.here hx rfl (hb hby d1_27) rfl rfl k) ?_
          refine Go.st (mkF m 29 #[.val (.int (ushr (ushr (ushr p0 (7 : Int32)) (7 : Int32)) (7 : Int32))), .val (.ref a), .val (.int (Int32.ofNat o)), .val (.int ((((Int32.ofNat o) + (1 : Int32)) + (1 : Int32)) + (1 : Int32)))] [(.int ((((Int32.ofNat o) + (1 : Int32)) + (1 : Int32)) + (1 : Int32))), (.ref a)]) (fun _ k => XS.iloadN X14.here hx rfl (hb hby d1_28) rfl k) ?_
          refine Go.st (mkF m 32 #[.val (.int (ushr (ushr (ushr p0 (7 : Int32)) (7 : Int32)) (7 : Int32))), .val (.ref a), .val (.int (Int32.ofNat o)), .val (.int (((((Int32.ofNat o) + (1 : Int32)) + (1 : Int32)) + (1 : Int32)) + (1 : Int32)))] [(.int ((((Int32.ofNat o) + (1 : Int32)) + (1 : Int32)) + (1 : Int32))), (.ref a)]) (fun _ k => XS.iinc X14.here hx rfl (hb hby d1_29) rfl (l' := #[.val (.int (ushr (ushr (ushr p0 (7 : Int32)) (7 : Int32)) (7 : Int32))), .val (.ref a), .val (.int (Int32.ofNat o)), .val (.int (((((Int32.ofNat o) + (1 : Int32)) + (1 : Int32)) + (1 : Int32)) + (1 : Int32)))]) rfl k) ?_
          refine Go.st (mkF m 33 #[.val (.int (ushr (ushr (ushr p0 (7 : Int32)) (7 : Int32)) (7 : Int32))), .val (.ref a), .val (.int (Int32.ofNat o)), .val (.int (((((Int32.ofNat o) + (1 : Int32)) + (1 : Int32)) + (1 : Int32)) + (1 : Int32)))] [(.int (ushr (ushr (ushr p0 (7 : Int32)) (7 : Int32)) (7 : Int32))), (.int ((((Int32.ofNat o) + (1 : Int32)) + (1 : Int32)) + (1 : Int32))), (.ref a)]) (fun _ k => XS.iloadN X14.here hx rfl (hb hby d1_32) rfl k) ?_
          refine Go.st (mkF m 35 #[.val (.int (ushr (ushr (ushr p0 (7 : Int32)) (7 : Int32)) (7 : Int32))), .val (.ref a), .val (.int (Int32.ofNat o)), .val (.int (((((Int32.ofNat o) + (1 : Int32)) + (1 : Int32)) + (1 : Int32)) + (1 : Int32)))] [(.int (127 : Int32)), (.int (ushr (ushr (ushr p0 (7 : Int32)) (7 : Int32)) (7 : Int32))), (.int ((((Int32.ofNat o) + (1 : Int32)) + (1 : Int32)) + (1 : Int32))), (.ref a)]) (fun _ k => XS.bipush X14.here hx rfl (hb hby d1_33) k) ?_
          refine Go.st (mkF m 36 #[.val (.int (ushr (ushr (ushr p0 (7 : Int32)) (7 : Int32)) (7 : Int32))), .val (.ref a), .val (.int (Int32.ofNat o)), .val (.int (((((Int32.ofNat o) + (1 : Int32)) + (1 : Int32)) + (1 : Int32)) + (1 : Int32)))] [(.int ((ushr (ushr (ushr p0 (7 : Int32)) (7 : Int32)) (7 : Int32)) &&& (127 : Int32))), (.int ((((Int32.ofNat o) + (1 : Int32)) + (1 : Int32)) + (1 : Int32))), (.ref a)]) (fun _ k => XS.iand X14.here hx rfl (hb hby d1_35) rfl k) ?_
          refine Go.st (mkF m 39 #[.val (.int (ushr (ushr (ushr p0 (7 : Int32)) (7 : Int32)) (7 : Int32))), .val (.ref a), .val (.int (Int32.ofNat o)), .val (.int (((((Int32.ofNat o) + (1 : Int32)) + (1 : Int32)) + (1 : Int32)) + (1 : Int32)))] [(.int (128 : Int32)), (.int ((ushr (ushr (ushr p0 (7 : Int32)) (7 : Int32)) (7 : Int32)) &&& (127 : Int32))), (.int ((((Int32.ofNat o) + (1 : Int32)) + (1 : Int32)) + (1 : Int32))), (.ref a)]) (fun _ k => XS.sipush X14.here hx rfl (hb hby d1_36) k) ?_
          refine Go.st (mkF m 40 #[.val (.int (ushr (ushr (ushr p0 (7 : Int32)) (7 : Int32)) (7 : Int32))), .val (.ref a), .val (.int (Int32.ofNat o)), .val (.int (((((Int32.ofNat o) + (1 : Int32)) + (1 : Int32)) + (1 : Int32)) + (1 : Int32)))] [(.int (((ushr (ushr (ushr p0 (7 : Int32)) (7 : Int32)) (7 : Int32)) &&& (127 : Int32)) ||| (128 : Int32))), (.int ((((Int32.ofNat o) + (1 : Int32)) + (1 : Int32)) + (1 : Int32))), (.ref a)]) (fun _ k => XT.ior X14.here hx rfl (hb hby d1_39) rfl k) ?_
          refine Go.st (mkF m 41 #[.val (.int (ushr (ushr (ushr p0 (7 : Int32)) (7 : Int32)) (7 : Int32))), .val (.ref a), .val (.int (Int32.ofNat o)), .val (.int (((((Int32.ofNat o) + (1 : Int32)) + (1 : Int32)) + (1 : Int32)) + (1 : Int32)))] [(.int ((((ushr (ushr (ushr p0 (7 : Int32)) (7 : Int32)) (7 : Int32)) &&& (127 : Int32)) ||| (128 : Int32)).toInt8.toInt32)), (.int ((((Int32.ofNat o) + (1 : Int32)) + (1 : Int32)) + (1 : Int32))), (.ref a)]) (fun _ k => XT.i2b X14.here hx rfl (hb hby d1_40) rfl k) ?_
          obtain ⟨T19, h19, X19, e19, W19, st19⟩ := stAB X14 hx hZ e14 V15 (i := (o + 3)) (own_ix3 o pr3).1 (own_ix3 o pr3).2 (by omega) (g := (mkF m 41 #[.val (.int (ushr (ushr (ushr p0 (7 : Int32)) (7 : Int32)) (7 : Int32))), .val (.ref a), .val (.int (Int32.ofNat o)), .val (.int (((((Int32.ofNat o) + (1 : Int32)) + (1 : Int32)) + (1 : Int32)) + (1 : Int32)))] [(.int ((((ushr (ushr (ushr p0 (7 : Int32)) (7 : Int32)) (7 : Int32)) &&& (127 : Int32)) ||| (128 : Int32)).toInt8.toInt32)), (.int ((((Int32.ofNat o) + (1 : Int32)) + (1 : Int32)) + (1 : Int32))), (.ref a)])) rfl rfl (hb hby d1_41)
          have V20 : Ary Z h19 a .byte 9 (bts (updI (updI (updI (updI b o (nar .byte (((p0 &&& (127 : Int32)) ||| (128 : Int32)).toInt8.toInt32))) ((o + 1)) (nar .byte ((((ushr p0 (7 : Int32)) &&& (127 : Int32)) ||| (128 : Int32)).toInt8.toInt32))) ((o + 2)) (nar .byte ((((ushr (ushr p0 (7 : Int32)) (7 : Int32)) &&& (127 : Int32)) ||| (128 : Int32)).toInt8.toInt32))) ((o + 3)) (nar .byte ((((ushr (ushr (ushr p0 (7 : Int32)) (7 : Int32)) (7 : Int32)) &&& (127 : Int32)) ||| (128 : Int32)).toInt8.toInt32)))) := V15.sameB W19
          have K19 : Keep h0 h19 [a] := K14.wr W19 (Or.inl (by simp))
          have N19 := Fr.snoc X19 N14 pr1
          refine Go.st (mkF m 42 #[.val (.int (ushr (ushr (ushr p0 (7 : Int32)) (7 : Int32)) (7 : Int32))), .val (.ref a), .val (.int (Int32.ofNat o)), .val (.int (((((Int32.ofNat o) + (1 : Int32)) + (1 : Int32)) + (1 : Int32)) + (1 : Int32)))] []) (fun _ k => st19 _ k) ?_
          refine Go.st (mkF m 43 #[.val (.int (ushr (ushr (ushr p0 (7 : Int32)) (7 : Int32)) (7 : Int32))), .val (.ref a), .val (.int (Int32.ofNat o)), .val (.int (((((Int32.ofNat o) + (1 : Int32)) + (1 : Int32)) + (1 : Int32)) + (1 : Int32)))] [(.int (ushr (ushr (ushr p0 (7 : Int32)) (7 : Int32)) (7 : Int32)))]) (fun _ k => XS.iloadN X19.here hx rfl (hb hby d1_42) rfl k) ?_
          refine Go.st (mkF m 45 #[.val (.int (ushr (ushr (ushr p0 (7 : Int32)) (7 : Int32)) (7 : Int32))), .val (.ref a), .val (.int (Int32.ofNat o)), .val (.int (((((Int32.ofNat o) + (1 : Int32)) + (1 : Int32)) + (1 : Int32)) + (1 : Int32)))] [(.int (7 : Int32)), (.int (ushr (ushr (ushr p0 (7 : Int32)) (7 : Int32)) (7 : Int32)))]) (fun _ k => XS.bipush X19.here hx rfl (hb hby d1_43) k) ?_
          refine Go.st (mkF m 46 #[.val (.int (ushr (ushr (ushr p0 (7 : Int32)) (7 : Int32)) (7 : Int32))), .val (.ref a), .val (.int (Int32.ofNat o)), .val (.int (((((Int32.ofNat o) + (1 : Int32)) + (1 : Int32)) + (1 : Int32)) + (1 : Int32)))] [(.int (ushr (ushr (ushr (ushr p0 (7 : Int32)) (7 : Int32)) (7 : Int32)) (7 : Int32)))]) (fun _ k => XT.iushr X19.here hx rfl (hb hby d1_45) rfl k) ?_
          refine Go.st (mkF m 47 #[.val (.int (ushr (ushr (ushr (ushr p0 (7 : Int32)) (7 : Int32)) (7 : Int32)) (7 : Int32))), .val (.ref a), .val (.int (Int32.ofNat o)), .val (.int (((((Int32.ofNat o) + (1 : Int32)) + (1 : Int32)) + (1 : Int32)) + (1 : Int32)))] []) (fun _ k => XS.istoreN X19.here hx rfl (hb hby d1_46) rfl (l' := #[.val (.int (ushr (ushr (ushr (ushr p0 (7 : Int32)) (7 : Int32)) (7 : Int32)) (7 : Int32))), .val (.ref a), .val (.int (Int32.ofNat o)), .val (.int (((((Int32.ofNat o) + (1 : Int32)) + (1 : Int32)) + (1 : Int32)) + (1 : Int32)))]) rfl k) ?_
          refine Go.st (mkF m 20 #[.val (.int (ushr (ushr (ushr (ushr p0 (7 : Int32)) (7 : Int32)) (7 : Int32)) (7 : Int32))), .val (.ref a), .val (.int (Int32.ofNat o)), .val (.int (((((Int32.ofNat o) + (1 : Int32)) + (1 : Int32)) + (1 : Int32)) + (1 : Int32)))] []) (fun _ k => XS.goto X19.here hx rfl (pc0 := 47) (pc' := 20) rfl (hb hby d1_47) (by decide) (by decide) k) ?_
          refine Go.st (mkF m 21 #[.val (.int (ushr (ushr (ushr (ushr p0 (7 : Int32)) (7 : Int32)) (7 : Int32)) (7 : Int32))), .val (.ref a), .val (.int (Int32.ofNat o)), .val (.int (((((Int32.ofNat o) + (1 : Int32)) + (1 : Int32)) + (1 : Int32)) + (1 : Int32)))] [(.int (ushr (ushr (ushr (ushr p0 (7 : Int32)) (7 : Int32)) (7 : Int32)) (7 : Int32)))]) (fun _ k => XS.iloadN X19.here hx rfl (hb hby d1_20) rfl k) ?_
          refine Go.st (mkF m 24 #[.val (.int (ushr (ushr (ushr (ushr p0 (7 : Int32)) (7 : Int32)) (7 : Int32)) (7 : Int32))), .val (.ref a), .val (.int (Int32.ofNat o)), .val (.int (((((Int32.ofNat o) + (1 : Int32)) + (1 : Int32)) + (1 : Int32)) + (1 : Int32)))] [(.int (128 : Int32)), (.int (ushr (ushr (ushr (ushr p0 (7 : Int32)) (7 : Int32)) (7 : Int32)) (7 : Int32)))]) (fun _ k => XS.sipush X19.here hx rfl (hb hby d1_21) k) ?_
          refine Go.st (mkF m 50 #[.val (.int (ushr (ushr (ushr (ushr p0 (7 : Int32)) (7 : Int32)) (7 : Int32)) (7 : Int32))), .val (.ref a), .val (.int (Int32.ofNat o)), .val (.int (((((Int32.ofNat o) + (1 : Int32)) + (1 : Int32)) + (1 : Int32)) + (1 : Int32)))] []) (fun _ k => XS.icmpYes X19.here hx rfl (pc0 := 24) (pc' := 50) rfl (hb hby d1_24) rfl (tlt (own_small5 p0 pr4)).1 (by decide) (by decide) k) ?_
          refine Go.st (mkF m 51 #[.val (.int (ushr (ushr (ushr (ushr p0 (7 : Int32)) (7 : Int32)) (7 : Int32)) (7 : Int32))), .val (.ref a), .val (.int (Int32.ofNat o)), .val (.int (((((Int32.ofNat o) + (1 : Int32)) + (1 : Int32)) + (1 : Int32)) + (1 : Int32)))] [(.ref a)]) (fun _ k => XS.aloadN X19.here hx rfl (hb hby d1_50) rfl rfl k) ?_
          refine Go.st (mkF m 52 #[.val (.int (ushr (ushr (ushr (ushr p0 (7 : Int32)) (7 : Int32)) (7 : Int32)) (7 : Int32))), .val (.ref a), .val (.int (Int32.ofNat o)), .val (.int (((((Int32.ofNat o) + (1 : Int32)) + (1 : Int32)) + (1 : Int32)) + (1 : Int32)))] [(.int (((((Int32.ofNat o) + (1 : Int32)) + (1 : Int32)) + (1 : Int32)) + (1 : Int32))), (.ref a)]) (fun _ k => XS.iloadN X19.here hx rfl (hb hby d1_51) rfl k) ?_
          refine Go.st (mkF m 55 #[.val (.int (ushr (ushr (ushr (ushr p0 (7 : Int32)) (7 : Int32)) (7 : Int32)) (7 : Int32))), .val (.ref a), .val (.int (Int32.ofNat o)), .val (.int ((((((Int32.ofNat o) + (1 : Int32)) + (1 : Int32)) + (1 : Int32)) + (1 : Int32)) + (1 : Int32)))] [(.int (((((Int32.ofNat o) + (1 : Int32)) + (1 : Int32)) + (1 : Int32)) + (1 : Int32))), (.ref a)]) (fun _ k => XS.iinc X19.here hx rfl (hb hby d1_52) rfl (l' := #[.val (.int (ushr (ushr (ushr (ushr p0 (7 : Int32)) (7 : Int32)) (7 : Int32)) (7 : Int32))), .val (.ref a), .val (.int (Int32.ofNat o)), .val (.int ((((((Int32.ofNat o) + (1 : Int32)) + (1 : Int32)) + (1 : Int32)) + (1 : Int32)) + (1 : Int32)))]) rfl k) ?_
          refine Go.st (mkF m 56 #[.val (.int (ushr (ushr (ushr (ushr p0 (7 : Int32)) (7 : Int32)) (7 : Int32)) (7 : Int32))), .val (.ref a), .val (.int (Int32.ofNat o)), .val (.int ((((((Int32.ofNat o) + (1 : Int32)) + (1 : Int32)) + (1 : Int32)) + (1 : Int32)) + (1 : Int32)))] [(.int (ushr (ushr (ushr (ushr p0 (7 : Int32)) (7 : Int32)) (7 : Int32)) (7 : Int32))), (.int (((((Int32.ofNat o) + (1 : Int32)) + (1 : Int32)) + (1 : Int32)) + (1 : Int32))), (.ref a)]) (fun _ k => XS.iloadN X19.here hx rfl (hb hby d1_55) rfl k) ?_
          refine Go.st (mkF m 57 #[.val (.int (ushr (ushr (ushr (ushr p0 (7 : Int32)) (7 : Int32)) (7 : Int32)) (7 : Int32))), .val (.ref a), .val (.int (Int32.ofNat o)), .val (.int ((((((Int32.ofNat o) + (1 : Int32)) + (1 : Int32)) + (1 : Int32)) + (1 : Int32)) + (1 : Int32)))] [(.int ((ushr (ushr (ushr (ushr p0 (7 : Int32)) (7 : Int32)) (7 : Int32)) (7 : Int32)).toInt8.toInt32)), (.int (((((Int32.ofNat o) + (1 : Int32)) + (1 : Int32)) + (1 : Int32)) + (1 : Int32))), (.ref a)]) (fun _ k => XT.i2b X19.here hx rfl (hb hby d1_56) rfl k) ?_
          obtain ⟨T21, h21, X21, e21, W21, st21⟩ := stAB X19 hx hZ e19 V20 (i := (o + 4)) (own_ix4 o pr3).1 (own_ix4 o pr3).2 (by omega) (g := (mkF m 57 #[.val (.int (ushr (ushr (ushr (ushr p0 (7 : Int32)) (7 : Int32)) (7 : Int32)) (7 : Int32))), .val (.ref a), .val (.int (Int32.ofNat o)), .val (.int ((((((Int32.ofNat o) + (1 : Int32)) + (1 : Int32)) + (1 : Int32)) + (1 : Int32)) + (1 : Int32)))] [(.int ((ushr (ushr (ushr (ushr p0 (7 : Int32)) (7 : Int32)) (7 : Int32)) (7 : Int32)).toInt8.toInt32)), (.int (((((Int32.ofNat o) + (1 : Int32)) + (1 : Int32)) + (1 : Int32)) + (1 : Int32))), (.ref a)])) rfl rfl (hb hby d1_57)
          have V22 : Ary Z h21 a .byte 9 (bts (updI (updI (updI (updI (updI b o (nar .byte (((p0 &&& (127 : Int32)) ||| (128 : Int32)).toInt8.toInt32))) ((o + 1)) (nar .byte ((((ushr p0 (7 : Int32)) &&& (127 : Int32)) ||| (128 : Int32)).toInt8.toInt32))) ((o + 2)) (nar .byte ((((ushr (ushr p0 (7 : Int32)) (7 : Int32)) &&& (127 : Int32)) ||| (128 : Int32)).toInt8.toInt32))) ((o + 3)) (nar .byte ((((ushr (ushr (ushr p0 (7 : Int32)) (7 : Int32)) (7 : Int32)) &&& (127 : Int32)) ||| (128 : Int32)).toInt8.toInt32))) ((o + 4)) (nar .byte ((ushr (ushr (ushr (ushr p0 (7 : Int32)) (7 : Int32)) (7 : Int32)) (7 : Int32)).toInt8.toInt32)))) := V20.sameB W21
          have K21 : Keep h0 h21 [a] := K19.wr W21 (Or.inl (by simp))
          have N21 := Fr.snoc X21 N19 pr1
          refine Go.st (mkF m 58 #[.val (.int (ushr (ushr (ushr (ushr p0 (7 : Int32)) (7 : Int32)) (7 : Int32)) (7 : Int32))), .val (.ref a), .val (.int (Int32.ofNat o)), .val (.int ((((((Int32.ofNat o) + (1 : Int32)) + (1 : Int32)) + (1 : Int32)) + (1 : Int32)) + (1 : Int32)))] []) (fun _ k => st21 _ k) ?_
          refine Go.st (mkF m 59 #[.val (.int (ushr (ushr (ushr (ushr p0 (7 : Int32)) (7 : Int32)) (7 : Int32)) (7 : Int32))), .val (.ref a), .val (.int (Int32.ofNat o)), .val (.int ((((((Int32.ofNat o) + (1 : Int32)) + (1 : Int32)) + (1 : Int32)) + (1 : Int32)) + (1 : Int32)))] [(.int ((((((Int32.ofNat o) + (1 : Int32)) + (1 : Int32)) + (1 : Int32)) + (1 : Int32)) + (1 : Int32)))]) (fun _ k => XS.iloadN X21.here hx rfl (hb hby d1_58) rfl k) ?_
          refine Go.st (mkF m 60 #[.val (.int (ushr (ushr (ushr (ushr p0 (7 : Int32)) (7 : Int32)) (7 : Int32)) (7 : Int32))), .val (.ref a), .val (.int (Int32.ofNat o)), .val (.int ((((((Int32.ofNat o) + (1 : Int32)) + (1 : Int32)) + (1 : Int32)) + (1 : Int32)) + (1 : Int32)))] [(.int (Int32.ofNat o)), (.int ((((((Int32.ofNat o) + (1 : Int32)) + (1 : Int32)) + (1 : Int32)) + (1 : Int32)) + (1 : Int32)))]) (fun _ k => XS.iloadN X21.here hx rfl (hb hby d1_59) rfl k) ?_
          refine Go.st (mkF m 61 #[.val (.int (ushr (ushr (ushr (ushr p0 (7 : Int32)) (7 : Int32)) (7 : Int32)) (7 : Int32))), .val (.ref a), .val (.int (Int32.ofNat o)), .val (.int ((((((Int32.ofNat o) + (1 : Int32)) + (1 : Int32)) + (1 : Int32)) + (1 : Int32)) + (1 : Int32)))] [(.int (((((((Int32.ofNat o) + (1 : Int32)) + (1 : Int32)) + (1 : Int32)) + (1 : Int32)) + (1 : Int32)) - (Int32.ofNat o)))]) (fun _ k => XS.isub X21.here hx rfl (hb hby d1_60) rfl k) ?_
          exact Go.retI X21 hx Bd.notSynchronized Bd.returns (hb hby d1_61) (by rw [e21]; exact ⟨congrArg (fun z => some (Value.int z)) (show (((((((Int32.ofNat o) + (1 : Int32)) + (1 : Int32)) + (1 : Int32)) + (1 : Int32)) + (1 : Int32)) - (Int32.ofNat o)) = f_1 p0 o from by unfold f_1; rw [if_neg hc24_1, if_neg hc24_6, if_neg hc24_11, if_neg hc24_16]; first | done | rfl), N21, K21, (by unfold g_1; rw [if_neg hc24_1, if_neg hc24_6, if_neg hc24_11, if_neg hc24_16]; exact V22)⟩) (by decide) (by decide)
theorem pn_1 : plainName "com/example/vocabulary/vocabulary/index/IndexOutputEncodeVarIntPinLaw" = true := by first | (simp [plainName, overriddenIn]; done) | decide +kernel
theorem d2_0 : decode method_3_code 0 = .ok (.iload_n 1, 1) := by decide +kernel
theorem d2_1 : decode method_3_code 1 = .ok (.iload_n 2, 1) := by decide +kernel
theorem d2_2 : decode method_3_code 2 = .ok (.isub, 1) := by decide +kernel
theorem d2_3 : decode method_3_code 3 = .ok (.istore 6, 2) := by decide +kernel
theorem d2_5 : decode method_3_code 5 = .ok (.iload 6, 2) := by decide +kernel
theorem d2_7 : decode method_3_code 7 = .ok (.ifCond .lt 9, 3) := by decide +kernel
theorem d2_10 : decode method_3_code 10 = .ok (.iload 6, 2) := by decide +kernel
theorem d2_12 : decode method_3_code 12 = .ok (.iload_n 3, 1) := by decide +kernel
theorem d2_13 : decode method_3_code 13 = .ok (.if_icmp .lt 17, 3) := by decide +kernel
theorem d2_16 : decode method_3_code 16 = .ok (.aload_n 0, 1) := by decide +kernel
theorem d2_17 : decode method_3_code 17 = .ok (.iload_n 1, 1) := by decide +kernel
theorem d2_18 : decode method_3_code 18 = .ok (.baload, 1) := by decide +kernel
theorem d2_19 : decode method_3_code 19 = .ok (.iload 5, 2) := by decide +kernel
theorem d2_21 : decode method_3_code 21 = .ok (.if_icmp .ne 7, 3) := by decide +kernel
theorem d2_24 : decode method_3_code 24 = .ok (.iconst 1, 1) := by decide +kernel
theorem d2_25 : decode method_3_code 25 = .ok (.goto 4, 3) := by decide +kernel
theorem d2_28 : decode method_3_code 28 = .ok (.iconst 0, 1) := by decide +kernel
theorem d2_29 : decode method_3_code 29 = .ok (.ireturn, 1) := by decide +kernel
theorem d2_30 : decode method_3_code 30 = .ok (.iload 4, 2) := by decide +kernel
theorem d2_32 : decode method_3_code 32 = .ok (.bipush 7, 2) := by decide +kernel
theorem d2_34 : decode method_3_code 34 = .ok (.iload 6, 2) := by decide +kernel
theorem d2_36 : decode method_3_code 36 = .ok (.imul, 1) := by decide +kernel
theorem d2_37 : decode method_3_code 37 = .ok (.iushr, 1) := by decide +kernel
theorem d2_38 : decode method_3_code 38 = .ok (.bipush 127, 2) := by decide +kernel
theorem d2_40 : decode method_3_code 40 = .ok (.iand, 1) := by decide +kernel
theorem d2_41 : decode method_3_code 41 = .ok (.istore 7, 2) := by decide +kernel
theorem d2_43 : decode method_3_code 43 = .ok (.iload 6, 2) := by decide +kernel
theorem d2_45 : decode method_3_code 45 = .ok (.iload_n 3, 1) := by decide +kernel
theorem d2_46 : decode method_3_code 46 = .ok (.iconst 1, 1) := by decide +kernel
theorem d2_47 : decode method_3_code 47 = .ok (.isub, 1) := by decide +kernel
theorem d2_48 : decode method_3_code 48 = .ok (.if_icmp .ge 12, 3) := by decide +kernel
theorem d2_51 : decode method_3_code 51 = .ok (.iload 7, 2) := by decide +kernel
theorem d2_53 : decode method_3_code 53 = .ok (.sipush 128, 3) := by decide +kernel
theorem d2_56 : decode method_3_code 56 = .ok (.ior, 1) := by decide +kernel
theorem d2_57 : decode method_3_code 57 = .ok (.goto 5, 3) := by decide +kernel
theorem d2_60 : decode method_3_code 60 = .ok (.iload 7, 2) := by decide +kernel
theorem d2_62 : decode method_3_code 62 = .ok (.istore 8, 2) := by decide +kernel
theorem d2_64 : decode method_3_code 64 = .ok (.aload_n 0, 1) := by decide +kernel
theorem d2_65 : decode method_3_code 65 = .ok (.iload_n 1, 1) := by decide +kernel
theorem d2_66 : decode method_3_code 66 = .ok (.baload, 1) := by decide +kernel
theorem d2_67 : decode method_3_code 67 = .ok (.iload 8, 2) := by decide +kernel
theorem d2_69 : decode method_3_code 69 = .ok (.i2b, 1) := by decide +kernel
theorem d2_70 : decode method_3_code 70 = .ok (.if_icmp .ne 7, 3) := by decide +kernel
theorem d2_73 : decode method_3_code 73 = .ok (.iconst 1, 1) := by decide +kernel
theorem d2_74 : decode method_3_code 74 = .ok (.goto 4, 3) := by decide +kernel
theorem d2_77 : decode method_3_code 77 = .ok (.iconst 0, 1) := by decide +kernel
theorem d2_78 : decode method_3_code 78 = .ok (.ireturn, 1) := by decide +kernel
theorem ef_2 (m : MethodId) (a : Addr) (p1 : Int32) (p2 : Int32) (p3 : Int32) (p4 : Int32) (p5 : Int32) : entryFrame m #[(.ref a), (.int p1), (.int p2), (.int p3), (.int p4), (.int p5)] 9 = (mkF m 0 #[.val (.ref a), .val (.int p1), .val (.int p2), .val (.int p3), .val (.int p4), .val (.int p5), .unset, .unset, .unset] []) := by first | (simp [entryFrame, mkF, argsToLocals, Value.category]; done) | rfl
def v_low (p1 : Int32) (p2 : Int32) (p4 : Int32) : Int32 := ((ushr p4 ((7 : Int32) * (p1 - p2))) &&& (127 : Int32))
def v_exp (p1 : Int32) (p2 : Int32) (p3 : Int32) (p4 : Int32) : Int32 := (if (p1 - p2) < (p3 - (1 : Int32)) then ((v_low p1 p2 p4) ||| (128 : Int32)) else (v_low p1 p2 p4))
def f_2 (p1 : Int32) (p2 : Int32) (p3 : Int32) (p4 : Int32) (p5 : Int32) (jn : Nat) (b : Nat → Int32) : Int32 := (if (p1 - p2) < (0 : Int32) then (if (b jn) = p5 then (1 : Int32) else (0 : Int32)) else (if (p1 - p2) < p3 then (if (b jn) = ((v_exp p1 p2 p3 p4).toInt8.toInt32) then (1 : Int32) else (0 : Int32)) else (if (b jn) = p5 then (1 : Int32) else (0 : Int32))))
def Q_2 (Z : State) (a : Addr) (p1 : Int32) (p2 : Int32) (p3 : Int32) (p4 : Int32) (p5 : Int32) (jn : Nat) (b : Nat → Int32) (h0 : Heap) (n0 : Nat) (vv : Option Value) (hE : Heap) (LE : List Loc) : Prop := vv = some (.int (f_2 p1 p2 p3 p4 p5 jn b)) ∧ Fr n0 LE ∧ hE = h0
set_option maxRecDepth 65536 in
set_option maxHeartbeats 40000000 in
theorem rm_2 (l : Launch) (Z : State) (a0 : Array Value) (hw : ∀ d ∈ tables_1, d.before a0 Z = true) (ws : List Jvm.Cond) (a : Addr) (p1 : Int32) (p2 : Int32) (p3 : Int32) (p4 : Int32) (p5 : Int32) (jn : Nat) (b : Nat → Int32) (h0 : Heap) (n0 : Nat) (Z0 : n0 ≤ h0.size) (pr0 : Ary Z h0 a .byte 9 (bts b)) (pr1 : ¬ p1 < 0) (pr2 : p1.toNatClampNeg = jn) (pr3 : jn < 9) :
    MetFree l (⟨"com/example/vocabulary/vocabulary/index/IndexOutputEncodeVarIntPinLaw", "at", "([BIIIIB)Z"⟩ : MethodName) (head1 (Jvm.Cond.code (⟨"com/example/vocabulary/vocabulary/index/IndexOutputEncodeVarIntPinLaw", "at", "([BIIIIB)Z"⟩ : MethodName) method_3_code 9 (some .boolean) :: ws) ({ frames := 0, cells := 0, slots := 0, locals := 0 } : Room)) (fun aa UU => aa = #[(.ref a), (.int p1), (.int p2), (.int p3), (.int p4), (.int p5)] ∧ Z.Warmed39 UU.vm ∧ UU.heap = h0) (fun _ _ _ _ _ => True) (fun _ UU oo UU' => ∃ vv LL, oo = .returned vv ∧ Q_2 Z a p1 p2 p3 p4 p5 jn b h0 n0 vv UU'.heap LL ∧ FrameEnd UU oo UU' LL ({ frames := 0, cells := 0, slots := 0, locals := 0 } : Room).cells ({ frames := 0, cells := 0, slots := 0, locals := 0 } : Room).slots) := by
  refine MetFree.of_bodySF (plainFor_of_name pn_1) hisR ?_
  intro p e s m args below meth c s₁ Bd hml0 hP hK
  obtain ⟨rfl, hZ, hh⟩ := hP
  have hx := Bd.exec
  have hby := Bd.bytes
  have hml : c.maxLocals = 9 := hml0
  have hown : s.vm.findClass "com/example/vocabulary/vocabulary/index/IndexOutputEncodeVarIntPinLaw" = some m.cls := findClass_of_methodNamed Bd.named
  have hnm := (name_of_methodNamed Bd.named Bd.method).1
  have X0 : Stand p l e ({ frames := 0, cells := 0, slots := 0, locals := 0 } : Room) s m #[(.ref a), (.int p1), (.int p2), (.int p3), (.int p4), (.int p5)] below meth c s₁ [] 0 0 := Stand.of_body Bd
  have e0 : s₁.heap = h0 := by rw [← hh, Bd.state]; rfl
  have N0 := Fr.nil n0
  have K0 := Keep.refl h0 []
  show Go p e below s (Q_2 Z a p1 p2 p3 p4 p5 jn b h0 n0) 0 0 s₁ (entryFrame m #[(.ref a), (.int p1), (.int p2), (.int p3), (.int p4), (.int p5)] 9)
  refine Go.of_eq (ef_2 m a p1 p2 p3 p4 p5) ?_
  refine Go.st (mkF m 1 #[.val (.ref a), .val (.int p1), .val (.int p2), .val (.int p3), .val (.int p4), .val (.int p5), .unset, .unset, .unset] [(.int p1)]) (fun _ k => XS.iloadN X0.here hx rfl (hb hby d2_0) rfl k) ?_
  refine Go.st (mkF m 2 #[.val (.ref a), .val (.int p1), .val (.int p2), .val (.int p3), .val (.int p4), .val (.int p5), .unset, .unset, .unset] [(.int p2), (.int p1)]) (fun _ k => XS.iloadN X0.here hx rfl (hb hby d2_1) rfl k) ?_
  refine Go.st (mkF m 3 #[.val (.ref a), .val (.int p1), .val (.int p2), .val (.int p3), .val (.int p4), .val (.int p5), .unset, .unset, .unset] [(.int (p1 - p2))]) (fun _ k => XS.isub X0.here hx rfl (hb hby d2_2) rfl k) ?_
  refine Go.st (mkF m 5 #[.val (.ref a), .val (.int p1), .val (.int p2), .val (.int p3), .val (.int p4), .val (.int p5), .val (.int (p1 - p2)), .unset, .unset] []) (fun _ k => XS.istore X0.here hx rfl (hb hby d2_3) rfl (l' := #[.val (.ref a), .val (.int p1), .val (.int p2), .val (.int p3), .val (.int p4), .val (.int p5), .val (.int (p1 - p2)), .unset, .unset]) rfl k) ?_
  refine Go.st (mkF m 7 #[.val (.ref a), .val (.int p1), .val (.int p2), .val (.int p3), .val (.int p4), .val (.int p5), .val (.int (p1 - p2)), .unset, .unset] [(.int (p1 - p2))]) (fun _ k => XS.iload X0.here hx rfl (hb hby d2_5) rfl k) ?_
  by_cases hc7_1 : (p1 - p2) < (0 : Int32)
  ·
    refine Go.st (mkF m 16 #[.val (.ref a), .val (.int p1), .val (.int p2), .val (.int p3), .val (.int p4), .val (.int p5), .val (.int (p1 - p2)), .unset, .unset] []) (fun _ k => XS.ifYes X0.here hx rfl (pc0 := 7) (pc' := 16) rfl (hb hby d2_7) rfl ((if0 _ _).trans (tlt hc7_1).1) (by decide) (by decide) k) ?_
    refine Go.st (mkF m 17 #[.val (.ref a), .val (.int p1), .val (.int p2), .val (.int p3), .val (.int p4), .val (.int p5), .val (.int (p1 - p2)), .unset, .unset] [(.ref a)]) (fun _ k => XS.aloadN X0.here hx rfl (hb hby d2_16) rfl rfl k) ?_
    refine Go.st (mkF m 18 #[.val (.ref a), .val (.int p1), .val (.int p2), .val (.int p3), .val (.int p4), .val (.int p5), .val (.int (p1 - p2)), .unset, .unset] [(.int p1), (.ref a)]) (fun _ k => XS.iloadN X0.here hx rfl (hb hby d2_17) rfl k) ?_
    refine Go.st (mkF m 19 #[.val (.ref a), .val (.int p1), .val (.int p2), .val (.int p3), .val (.int p4), .val (.int p5), .val (.int (p1 - p2)), .unset, .unset] [(.int (b jn))]) (fun _ k => ldB X0 hx hZ e0 pr0 (i := jn) pr1 pr2 pr3 (v := (.int (b jn))) rfl (g := (mkF m 18 #[.val (.ref a), .val (.int p1), .val (.int p2), .val (.int p3), .val (.int p4), .val (.int p5), .val (.int (p1 - p2)), .unset, .unset] [(.int p1), (.ref a)])) rfl rfl (hb hby d2_18) _ k) ?_
    refine Go.st (mkF m 21 #[.val (.ref a), .val (.int p1), .val (.int p2), .val (.int p3), .val (.int p4), .val (.int p5), .val (.int (p1 - p2)), .unset, .unset] [(.int p5), (.int (b jn))]) (fun _ k => XS.iload X0.here hx rfl (hb hby d2_19) rfl k) ?_
    by_cases hc21_2 : (b jn) = p5
    ·
      refine Go.st (mkF m 24 #[.val (.ref a), .val (.int p1), .val (.int p2), .val (.int p3), .val (.int p4), .val (.int p5), .val (.int (p1 - p2)), .unset, .unset] []) (fun _ k => XS.icmpNo X0.here hx rfl (hb hby d2_21) rfl (teq hc21_2).2 k) ?_
      refine Go.st (mkF m 25 #[.val (.ref a), .val (.int p1), .val (.int p2), .val (.int p3), .val (.int p4), .val (.int p5), .val (.int (p1 - p2)), .unset, .unset] [(.int (1 : Int32))]) (fun _ k => XS.iconst X0.here hx rfl (hb hby d2_24) k) ?_
      refine Go.st (mkF m 29 #[.val (.ref a), .val (.int p1), .val (.int p2), .val (.int p3), .val (.int p4), .val (.int p5), .val (.int (p1 - p2)), .unset, .unset] [(.int (1 : Int32))]) (fun _ k => XS.goto X0.here hx rfl (pc0 := 25) (pc' := 29) rfl (hb hby d2_25) (by decide) (by decide) k) ?_
      exact Go.retZ X0 hx Bd.notSynchronized (t := .boolean) (by simp) Bd.returns (hb hby d2_29) ⟨congrArg (fun z => some (Value.int z)) (show nar .boolean (1 : Int32) = f_2 p1 p2 p3 p4 p5 jn b from by unfold f_2; rw [if_pos hc7_1, if_pos hc21_2]; first | done | rfl), N0, e0⟩ (by decide) (by decide)
    ·
      refine Go.st (mkF m 28 #[.val (.ref a), .val (.int p1), .val (.int p2), .val (.int p3), .val (.int p4), .val (.int p5), .val (.int (p1 - p2)), .unset, .unset] []) (fun _ k => XS.icmpYes X0.here hx rfl (pc0 := 21) (pc' := 28) rfl (hb hby d2_21) rfl (feq hc21_2).2 (by decide) (by decide) k) ?_
      refine Go.st (mkF m 29 #[.val (.ref a), .val (.int p1), .val (.int p2), .val (.int p3), .val (.int p4), .val (.int p5), .val (.int (p1 - p2)), .unset, .unset] [(.int (0 : Int32))]) (fun _ k => XS.iconst X0.here hx rfl (hb hby d2_28) k) ?_
      exact Go.retZ X0 hx Bd.notSynchronized (t := .boolean) (by simp) Bd.returns (hb hby d2_29) ⟨congrArg (fun z => some (Value.int z)) (show nar .boolean (0 : Int32) = f_2 p1 p2 p3 p4 p5 jn b from by unfold f_2; rw [if_pos hc7_1, if_neg hc21_2]; first | done | rfl), N0, e0⟩ (by decide) (by decide)
  ·
    refine Go.st (mkF m 10 #[.val (.ref a), .val (.int p1), .val (.int p2), .val (.int p3), .val (.int p4), .val (.int p5), .val (.int (p1 - p2)), .unset, .unset] []) (fun _ k => XS.ifNo X0.here hx rfl (hb hby d2_7) rfl ((if0 _ _).trans (flt hc7_1).1) k) ?_
    refine Go.st (mkF m 12 #[.val (.ref a), .val (.int p1), .val (.int p2), .val (.int p3), .val (.int p4), .val (.int p5), .val (.int (p1 - p2)), .unset, .unset] [(.int (p1 - p2))]) (fun _ k => XS.iload X0.here hx rfl (hb hby d2_10) rfl k) ?_
    refine Go.st (mkF m 13 #[.val (.ref a), .val (.int p1), .val (.int p2), .val (.int p3), .val (.int p4), .val (.int p5), .val (.int (p1 - p2)), .unset, .unset] [(.int p3), (.int (p1 - p2))]) (fun _ k => XS.iloadN X0.here hx rfl (hb hby d2_12) rfl k) ?_
    by_cases hc13_3 : (p1 - p2) < p3
    ·
      refine Go.st (mkF m 30 #[.val (.ref a), .val (.int p1), .val (.int p2), .val (.int p3), .val (.int p4), .val (.int p5), .val (.int (p1 - p2)), .unset, .unset] []) (fun _ k => XS.icmpYes X0.here hx rfl (pc0 := 13) (pc' := 30) rfl (hb hby d2_13) rfl (tlt hc13_3).1 (by decide) (by decide) k) ?_
      refine Go.st (mkF m 32 #[.val (.ref a), .val (.int p1), .val (.int p2), .val (.int p3), .val (.int p4), .val (.int p5), .val (.int (p1 - p2)), .unset, .unset] [(.int p4)]) (fun _ k => XS.iload X0.here hx rfl (hb hby d2_30) rfl k) ?_
      refine Go.st (mkF m 34 #[.val (.ref a), .val (.int p1), .val (.int p2), .val (.int p3), .val (.int p4), .val (.int p5), .val (.int (p1 - p2)), .unset, .unset] [(.int (7 : Int32)), (.int p4)]) (fun _ k => XS.bipush X0.here hx rfl (hb hby d2_32) k) ?_
      refine Go.st (mkF m 36 #[.val (.ref a), .val (.int p1), .val (.int p2), .val (.int p3), .val (.int p4), .val (.int p5), .val (.int (p1 - p2)), .unset, .unset] [(.int (p1 - p2)), (.int (7 : Int32)), (.int p4)]) (fun _ k => XS.iload X0.here hx rfl (hb hby d2_34) rfl k) ?_
      refine Go.st (mkF m 37 #[.val (.ref a), .val (.int p1), .val (.int p2), .val (.int p3), .val (.int p4), .val (.int p5), .val (.int (p1 - p2)), .unset, .unset] [(.int ((7 : Int32) * (p1 - p2))), (.int p4)]) (fun _ k => XS.imul X0.here hx rfl (hb hby d2_36) rfl k) ?_
      refine Go.st (mkF m 38 #[.val (.ref a), .val (.int p1), .val (.int p2), .val (.int p3), .val (.int p4), .val (.int p5), .val (.int (p1 - p2)), .unset, .unset] [(.int (ushr p4 ((7 : Int32) * (p1 - p2))))]) (fun _ k => XT.iushr X0.here hx rfl (hb hby d2_37) rfl k) ?_
      refine Go.st (mkF m 40 #[.val (.ref a), .val (.int p1), .val (.int p2), .val (.int p3), .val (.int p4), .val (.int p5), .val (.int (p1 - p2)), .unset, .unset] [(.int (127 : Int32)), (.int (ushr p4 ((7 : Int32) * (p1 - p2))))]) (fun _ k => XS.bipush X0.here hx rfl (hb hby d2_38) k) ?_
      refine Go.st (mkF m 41 #[.val (.ref a), .val (.int p1), .val (.int p2), .val (.int p3), .val (.int p4), .val (.int p5), .val (.int (p1 - p2)), .unset, .unset] [(.int ((ushr p4 ((7 : Int32) * (p1 - p2))) &&& (127 : Int32)))]) (fun _ k => XS.iand X0.here hx rfl (hb hby d2_40) rfl k) ?_
      refine Go.st (mkF m 43 #[.val (.ref a), .val (.int p1), .val (.int p2), .val (.int p3), .val (.int p4), .val (.int p5), .val (.int (p1 - p2)), .val (.int (v_low p1 p2 p4)), .unset] []) (fun _ k => XS.istore X0.here hx rfl (hb hby d2_41) rfl (l' := #[.val (.ref a), .val (.int p1), .val (.int p2), .val (.int p3), .val (.int p4), .val (.int p5), .val (.int (p1 - p2)), .val (.int (v_low p1 p2 p4)), .unset]) rfl k) ?_
      refine Go.st (mkF m 45 #[.val (.ref a), .val (.int p1), .val (.int p2), .val (.int p3), .val (.int p4), .val (.int p5), .val (.int (p1 - p2)), .val (.int (v_low p1 p2 p4)), .unset] [(.int (p1 - p2))]) (fun _ k => XS.iload X0.here hx rfl (hb hby d2_43) rfl k) ?_
      refine Go.st (mkF m 46 #[.val (.ref a), .val (.int p1), .val (.int p2), .val (.int p3), .val (.int p4), .val (.int p5), .val (.int (p1 - p2)), .val (.int (v_low p1 p2 p4)), .unset] [(.int p3), (.int (p1 - p2))]) (fun _ k => XS.iloadN X0.here hx rfl (hb hby d2_45) rfl k) ?_
      refine Go.st (mkF m 47 #[.val (.ref a), .val (.int p1), .val (.int p2), .val (.int p3), .val (.int p4), .val (.int p5), .val (.int (p1 - p2)), .val (.int (v_low p1 p2 p4)), .unset] [(.int (1 : Int32)), (.int p3), (.int (p1 - p2))]) (fun _ k => XS.iconst X0.here hx rfl (hb hby d2_46) k) ?_
      refine Go.st (mkF m 48 #[.val (.ref a), .val (.int p1), .val (.int p2), .val (.int p3), .val (.int p4), .val (.int p5), .val (.int (p1 - p2)), .val (.int (v_low p1 p2 p4)), .unset] [(.int (p3 - (1 : Int32))), (.int (p1 - p2))]) (fun _ k => XS.isub X0.here hx rfl (hb hby d2_47) rfl k) ?_
      have J48 : Go p e below s (Q_2 Z a p1 p2 p3 p4 p5 jn b h0 n0) 0 0 s₁ (mkF m 62 #[.val (.ref a), .val (.int p1), .val (.int p2), .val (.int p3), .val (.int p4), .val (.int p5), .val (.int (p1 - p2)), .val (.int (v_low p1 p2 p4)), .unset] [(.int (v_exp p1 p2 p3 p4))]) := by
        refine Go.st (mkF m 64 #[.val (.ref a), .val (.int p1), .val (.int p2), .val (.int p3), .val (.int p4), .val (.int p5), .val (.int (p1 - p2)), .val (.int (v_low p1 p2 p4)), .val (.int (v_exp p1 p2 p3 p4))] []) (fun _ k => XS.istore X0.here hx rfl (hb hby d2_62) rfl (l' := #[.val (.ref a), .val (.int p1), .val (.int p2), .val (.int p3), .val (.int p4), .val (.int p5), .val (.int (p1 - p2)), .val (.int (v_low p1 p2 p4)), .val (.int (v_exp p1 p2 p3 p4))]) rfl k) ?_
        refine Go.st (mkF m 65 #[.val (.ref a), .val (.int p1), .val (.int p2), .val (.int p3), .val (.int p4), .val (.int p5), .val (.int (p1 - p2)), .val (.int (v_low p1 p2 p4)), .val (.int (v_exp p1 p2 p3 p4))] [(.ref a)]) (fun _ k => XS.aloadN X0.here hx rfl (hb hby d2_64) rfl rfl k) ?_
        refine Go.st (mkF m 66 #[.val (.ref a), .val (.int p1), .val (.int p2), .val (.int p3), .val (.int p4), .val (.int p5), .val (.int (p1 - p2)), .val (.int (v_low p1 p2 p4)), .val (.int (v_exp p1 p2 p3 p4))] [(.int p1), (.ref a)]) (fun _ k => XS.iloadN X0.here hx rfl (hb hby d2_65) rfl k) ?_
        refine Go.st (mkF m 67 #[.val (.ref a), .val (.int p1), .val (.int p2), .val (.int p3), .val (.int p4), .val (.int p5), .val (.int (p1 - p2)), .val (.int (v_low p1 p2 p4)), .val (.int (v_exp p1 p2 p3 p4))] [(.int (b jn))]) (fun _ k => ldB X0 hx hZ e0 pr0 (i := jn) pr1 pr2 pr3 (v := (.int (b jn))) rfl (g := (mkF m 66 #[.val (.ref a), .val (.int p1), .val (.int p2), .val (.int p3), .val (.int p4), .val (.int p5), .val (.int (p1 - p2)), .val (.int (v_low p1 p2 p4)), .val (.int (v_exp p1 p2 p3 p4))] [(.int p1), (.ref a)])) rfl rfl (hb hby d2_66) _ k) ?_
        refine Go.st (mkF m 69 #[.val (.ref a), .val (.int p1), .val (.int p2), .val (.int p3), .val (.int p4), .val (.int p5), .val (.int (p1 - p2)), .val (.int (v_low p1 p2 p4)), .val (.int (v_exp p1 p2 p3 p4))] [(.int (v_exp p1 p2 p3 p4)), (.int (b jn))]) (fun _ k => XS.iload X0.here hx rfl (hb hby d2_67) rfl k) ?_
        refine Go.st (mkF m 70 #[.val (.ref a), .val (.int p1), .val (.int p2), .val (.int p3), .val (.int p4), .val (.int p5), .val (.int (p1 - p2)), .val (.int (v_low p1 p2 p4)), .val (.int (v_exp p1 p2 p3 p4))] [(.int ((v_exp p1 p2 p3 p4).toInt8.toInt32)), (.int (b jn))]) (fun _ k => XT.i2b X0.here hx rfl (hb hby d2_69) rfl k) ?_
        by_cases hc70_5 : (b jn) = ((v_exp p1 p2 p3 p4).toInt8.toInt32)
        ·
          refine Go.st (mkF m 73 #[.val (.ref a), .val (.int p1), .val (.int p2), .val (.int p3), .val (.int p4), .val (.int p5), .val (.int (p1 - p2)), .val (.int (v_low p1 p2 p4)), .val (.int (v_exp p1 p2 p3 p4))] []) (fun _ k => XS.icmpNo X0.here hx rfl (hb hby d2_70) rfl (teq hc70_5).2 k) ?_
          refine Go.st (mkF m 74 #[.val (.ref a), .val (.int p1), .val (.int p2), .val (.int p3), .val (.int p4), .val (.int p5), .val (.int (p1 - p2)), .val (.int (v_low p1 p2 p4)), .val (.int (v_exp p1 p2 p3 p4))] [(.int (1 : Int32))]) (fun _ k => XS.iconst X0.here hx rfl (hb hby d2_73) k) ?_
          refine Go.st (mkF m 78 #[.val (.ref a), .val (.int p1), .val (.int p2), .val (.int p3), .val (.int p4), .val (.int p5), .val (.int (p1 - p2)), .val (.int (v_low p1 p2 p4)), .val (.int (v_exp p1 p2 p3 p4))] [(.int (1 : Int32))]) (fun _ k => XS.goto X0.here hx rfl (pc0 := 74) (pc' := 78) rfl (hb hby d2_74) (by decide) (by decide) k) ?_
          exact Go.retZ X0 hx Bd.notSynchronized (t := .boolean) (by simp) Bd.returns (hb hby d2_78) ⟨congrArg (fun z => some (Value.int z)) (show nar .boolean (1 : Int32) = f_2 p1 p2 p3 p4 p5 jn b from by unfold f_2; rw [if_neg hc7_1, if_pos hc13_3, if_pos hc70_5]; first | done | rfl), N0, e0⟩ (by decide) (by decide)
        ·
          refine Go.st (mkF m 77 #[.val (.ref a), .val (.int p1), .val (.int p2), .val (.int p3), .val (.int p4), .val (.int p5), .val (.int (p1 - p2)), .val (.int (v_low p1 p2 p4)), .val (.int (v_exp p1 p2 p3 p4))] []) (fun _ k => XS.icmpYes X0.here hx rfl (pc0 := 70) (pc' := 77) rfl (hb hby d2_70) rfl (feq hc70_5).2 (by decide) (by decide) k) ?_
          refine Go.st (mkF m 78 #[.val (.ref a), .val (.int p1), .val (.int p2), .val (.int p3), .val (.int p4), .val (.int p5), .val (.int (p1 - p2)), .val (.int (v_low p1 p2 p4)), .val (.int (v_exp p1 p2 p3 p4))] [(.int (0 : Int32))]) (fun _ k => XS.iconst X0.here hx rfl (hb hby d2_77) k) ?_
          exact Go.retZ X0 hx Bd.notSynchronized (t := .boolean) (by simp) Bd.returns (hb hby d2_78) ⟨congrArg (fun z => some (Value.int z)) (show nar .boolean (0 : Int32) = f_2 p1 p2 p3 p4 p5 jn b from by unfold f_2; rw [if_neg hc7_1, if_pos hc13_3, if_neg hc70_5]; first | done | rfl), N0, e0⟩ (by decide) (by decide)
      by_cases hc48_4 : (p1 - p2) < (p3 - (1 : Int32))
      ·
        refine Go.st (mkF m 51 #[.val (.ref a), .val (.int p1), .val (.int p2), .val (.int p3), .val (.int p4), .val (.int p5), .val (.int (p1 - p2)), .val (.int (v_low p1 p2 p4)), .unset] []) (fun _ k => XS.icmpNo X0.here hx rfl (hb hby d2_48) rfl (tlt hc48_4).2.1 k) ?_
        refine Go.st (mkF m 53 #[.val (.ref a), .val (.int p1), .val (.int p2), .val (.int p3), .val (.int p4), .val (.int p5), .val (.int (p1 - p2)), .val (.int (v_low p1 p2 p4)), .unset] [(.int (v_low p1 p2 p4))]) (fun _ k => XS.iload X0.here hx rfl (hb hby d2_51) rfl k) ?_
        refine Go.st (mkF m 56 #[.val (.ref a), .val (.int p1), .val (.int p2), .val (.int p3), .val (.int p4), .val (.int p5), .val (.int (p1 - p2)), .val (.int (v_low p1 p2 p4)), .unset] [(.int (128 : Int32)), (.int (v_low p1 p2 p4))]) (fun _ k => XS.sipush X0.here hx rfl (hb hby d2_53) k) ?_
        refine Go.st (mkF m 57 #[.val (.ref a), .val (.int p1), .val (.int p2), .val (.int p3), .val (.int p4), .val (.int p5), .val (.int (p1 - p2)), .val (.int (v_low p1 p2 p4)), .unset] [(.int ((v_low p1 p2 p4) ||| (128 : Int32)))]) (fun _ k => XT.ior X0.here hx rfl (hb hby d2_56) rfl k) ?_
        refine Go.st (mkF m 62 #[.val (.ref a), .val (.int p1), .val (.int p2), .val (.int p3), .val (.int p4), .val (.int p5), .val (.int (p1 - p2)), .val (.int (v_low p1 p2 p4)), .unset] [(.int ((v_low p1 p2 p4) ||| (128 : Int32)))]) (fun _ k => XS.goto X0.here hx rfl (pc0 := 57) (pc' := 62) rfl (hb hby d2_57) (by decide) (by decide) k) ?_
        rw [show (v_exp p1 p2 p3 p4) = ((v_low p1 p2 p4) ||| (128 : Int32)) from by unfold v_exp; rw [if_pos hc48_4]] at J48
        exact J48
      ·
        refine Go.st (mkF m 60 #[.val (.ref a), .val (.int p1), .val (.int p2), .val (.int p3), .val (.int p4), .val (.int p5), .val (.int (p1 - p2)), .val (.int (v_low p1 p2 p4)), .unset] []) (fun _ k => XS.icmpYes X0.here hx rfl (pc0 := 48) (pc' := 60) rfl (hb hby d2_48) rfl (flt hc48_4).2.1 (by decide) (by decide) k) ?_
        refine Go.st (mkF m 62 #[.val (.ref a), .val (.int p1), .val (.int p2), .val (.int p3), .val (.int p4), .val (.int p5), .val (.int (p1 - p2)), .val (.int (v_low p1 p2 p4)), .unset] [(.int (v_low p1 p2 p4))]) (fun _ k => XS.iload X0.here hx rfl (hb hby d2_60) rfl k) ?_
        rw [show (v_exp p1 p2 p3 p4) = (v_low p1 p2 p4) from by unfold v_exp; rw [if_neg hc48_4]] at J48
        exact J48
    ·
      refine Go.st (mkF m 16 #[.val (.ref a), .val (.int p1), .val (.int p2), .val (.int p3), .val (.int p4), .val (.int p5), .val (.int (p1 - p2)), .unset, .unset] []) (fun _ k => XS.icmpNo X0.here hx rfl (hb hby d2_13) rfl (flt hc13_3).1 k) ?_
      refine Go.st (mkF m 17 #[.val (.ref a), .val (.int p1), .val (.int p2), .val (.int p3), .val (.int p4), .val (.int p5), .val (.int (p1 - p2)), .unset, .unset] [(.ref a)]) (fun _ k => XS.aloadN X0.here hx rfl (hb hby d2_16) rfl rfl k) ?_
      refine Go.st (mkF m 18 #[.val (.ref a), .val (.int p1), .val (.int p2), .val (.int p3), .val (.int p4), .val (.int p5), .val (.int (p1 - p2)), .unset, .unset] [(.int p1), (.ref a)]) (fun _ k => XS.iloadN X0.here hx rfl (hb hby d2_17) rfl k) ?_
      refine Go.st (mkF m 19 #[.val (.ref a), .val (.int p1), .val (.int p2), .val (.int p3), .val (.int p4), .val (.int p5), .val (.int (p1 - p2)), .unset, .unset] [(.int (b jn))]) (fun _ k => ldB X0 hx hZ e0 pr0 (i := jn) pr1 pr2 pr3 (v := (.int (b jn))) rfl (g := (mkF m 18 #[.val (.ref a), .val (.int p1), .val (.int p2), .val (.int p3), .val (.int p4), .val (.int p5), .val (.int (p1 - p2)), .unset, .unset] [(.int p1), (.ref a)])) rfl rfl (hb hby d2_18) _ k) ?_
      refine Go.st (mkF m 21 #[.val (.ref a), .val (.int p1), .val (.int p2), .val (.int p3), .val (.int p4), .val (.int p5), .val (.int (p1 - p2)), .unset, .unset] [(.int p5), (.int (b jn))]) (fun _ k => XS.iload X0.here hx rfl (hb hby d2_19) rfl k) ?_
      by_cases hc21_6 : (b jn) = p5
      ·
        refine Go.st (mkF m 24 #[.val (.ref a), .val (.int p1), .val (.int p2), .val (.int p3), .val (.int p4), .val (.int p5), .val (.int (p1 - p2)), .unset, .unset] []) (fun _ k => XS.icmpNo X0.here hx rfl (hb hby d2_21) rfl (teq hc21_6).2 k) ?_
        refine Go.st (mkF m 25 #[.val (.ref a), .val (.int p1), .val (.int p2), .val (.int p3), .val (.int p4), .val (.int p5), .val (.int (p1 - p2)), .unset, .unset] [(.int (1 : Int32))]) (fun _ k => XS.iconst X0.here hx rfl (hb hby d2_24) k) ?_
        refine Go.st (mkF m 29 #[.val (.ref a), .val (.int p1), .val (.int p2), .val (.int p3), .val (.int p4), .val (.int p5), .val (.int (p1 - p2)), .unset, .unset] [(.int (1 : Int32))]) (fun _ k => XS.goto X0.here hx rfl (pc0 := 25) (pc' := 29) rfl (hb hby d2_25) (by decide) (by decide) k) ?_
        exact Go.retZ X0 hx Bd.notSynchronized (t := .boolean) (by simp) Bd.returns (hb hby d2_29) ⟨congrArg (fun z => some (Value.int z)) (show nar .boolean (1 : Int32) = f_2 p1 p2 p3 p4 p5 jn b from by unfold f_2; rw [if_neg hc7_1, if_neg hc13_3, if_pos hc21_6]; first | done | rfl), N0, e0⟩ (by decide) (by decide)
      ·
        refine Go.st (mkF m 28 #[.val (.ref a), .val (.int p1), .val (.int p2), .val (.int p3), .val (.int p4), .val (.int p5), .val (.int (p1 - p2)), .unset, .unset] []) (fun _ k => XS.icmpYes X0.here hx rfl (pc0 := 21) (pc' := 28) rfl (hb hby d2_21) rfl (feq hc21_6).2 (by decide) (by decide) k) ?_
        refine Go.st (mkF m 29 #[.val (.ref a), .val (.int p1), .val (.int p2), .val (.int p3), .val (.int p4), .val (.int p5), .val (.int (p1 - p2)), .unset, .unset] [(.int (0 : Int32))]) (fun _ k => XS.iconst X0.here hx rfl (hb hby d2_28) k) ?_
        exact Go.retZ X0 hx Bd.notSynchronized (t := .boolean) (by simp) Bd.returns (hb hby d2_29) ⟨congrArg (fun z => some (Value.int z)) (show nar .boolean (0 : Int32) = f_2 p1 p2 p3 p4 p5 jn b from by unfold f_2; rw [if_neg hc7_1, if_neg hc13_3, if_neg hc21_6]; first | done | rfl), N0, e0⟩ (by decide) (by decide)
def v_v (p0 : Int32) : Int32 := (p0 &&& (2147483647 : Int32))
def v_o (p1 : Int32) : Int32 := (p1 &&& (3 : Int32))
def v_fill (p2 : Int32) : Int32 := (p2.toInt8.toInt32)
def v_n (p0 : Int32) : Int32 := (if (v_v p0) < (128 : Int32) then (1 : Int32) else (if (v_v p0) < (16384 : Int32) then (2 : Int32) else (if (v_v p0) < (2097152 : Int32) then (3 : Int32) else (if (v_v p0) < (268435456 : Int32) then (4 : Int32) else (5 : Int32)))))
theorem own_off (p1 : Int32) : ∃ o : Nat, o < 4 ∧ v_o p1 = Int32.ofNat o := by
  have e : (v_o p1).toInt = p1.toInt % 2 ^ 2 := Jvm.Kit.i32_mask _ 3 (k := 2) (by decide) (by decide)
  obtain ⟨k, hk⟩ := own_small 4 (v_o p1) (by omega) (by omega) (by decide)
  exact ⟨k.val, k.isLt, hk⟩
theorem own_vv (p0 : Int32) : 0 ≤ (v_v p0).toInt := by
  have e : (v_v p0).toInt = p0.toInt % 2 ^ 31 := Jvm.Kit.i32_mask _ 2147483647 (k := 31) (by decide) (by decide)
  omega
theorem own_kind (x : Int32) : nar .byte (x.toInt8.toInt32) = x.toInt8.toInt32 := by
  show (x.toInt8.toInt32).toInt8.toInt32 = _
  rw [Int8.toInt8_toInt32]
theorem own_five (v : Int32) (h : 0 ≤ v.toInt) : (v < (128 : Int32)) ∨ (¬ v < (128 : Int32) ∧ (ushr v (7 : Int32)) < (128 : Int32) ∧ v < (16384 : Int32)) ∨ (¬ v < (128 : Int32) ∧ ¬ (ushr v (7 : Int32)) < (128 : Int32) ∧ (ushr (ushr v (7 : Int32)) (7 : Int32)) < (128 : Int32) ∧ ¬ v < (16384 : Int32) ∧ v < (2097152 : Int32)) ∨ (¬ v < (128 : Int32) ∧ ¬ (ushr v (7 : Int32)) < (128 : Int32) ∧ ¬ (ushr (ushr v (7 : Int32)) (7 : Int32)) < (128 : Int32) ∧ (ushr (ushr (ushr v (7 : Int32)) (7 : Int32)) (7 : Int32)) < (128 : Int32) ∧ ¬ v < (16384 : Int32) ∧ ¬ v < (2097152 : Int32) ∧ v < (268435456 : Int32)) ∨ (¬ v < (128 : Int32) ∧ ¬ (ushr v (7 : Int32)) < (128 : Int32) ∧ ¬ (ushr (ushr v (7 : Int32)) (7 : Int32)) < (128 : Int32) ∧ ¬ (ushr (ushr (ushr v (7 : Int32)) (7 : Int32)) (7 : Int32)) < (128 : Int32) ∧ ¬ v < (16384 : Int32) ∧ ¬ v < (2097152 : Int32) ∧ ¬ v < (268435456 : Int32)) := by
  have l := v.toInt_lt
  have h1 := own_u7 h
  have h2 := own_u7 (x := (ushr v (7 : Int32))) (by omega)
  have h3 := own_u7 (x := (ushr (ushr v (7 : Int32)) (7 : Int32))) (by omega)
  have e1 : (128 : Int32).toInt = 128 := by decide
  have e2 : (16384 : Int32).toInt = 16384 := by decide
  have e3 : (2097152 : Int32).toInt = 2097152 := by decide
  have e4 : (268435456 : Int32).toInt = 268435456 := by decide
  simp only [Int32.lt_iff_toInt_lt]
  omega
theorem own_d : ∀ o : Fin 4, (((Int32.ofNat o.val) + (1 : Int32)) - (Int32.ofNat o.val)) = (1 : Int32) ∧ ((((Int32.ofNat o.val) + (1 : Int32)) + (1 : Int32)) - (Int32.ofNat o.val)) = (2 : Int32) ∧ (((((Int32.ofNat o.val) + (1 : Int32)) + (1 : Int32)) + (1 : Int32)) - (Int32.ofNat o.val)) = (3 : Int32) ∧ ((((((Int32.ofNat o.val) + (1 : Int32)) + (1 : Int32)) + (1 : Int32)) + (1 : Int32)) - (Int32.ofNat o.val)) = (4 : Int32) ∧ (((((((Int32.ofNat o.val) + (1 : Int32)) + (1 : Int32)) + (1 : Int32)) + (1 : Int32)) + (1 : Int32)) - (Int32.ofNat o.val)) = (5 : Int32) := by decide +kernel
theorem own_r (p0 : Int32) (o : Nat) (ho : o < 4) : f_1 (v_v p0) o = v_n p0 := by
  have h := own_vv p0
  have d := own_d ⟨o, ho⟩
  unfold v_n f_1
  generalize v_v p0 = v at *
  rcases own_five v h with c0 | ⟨c0, c1, d1⟩ | ⟨c0, c1, c2, d1, d2⟩ | ⟨c0, c1, c2, c3, d1, d2, d3⟩ | ⟨c0, c1, c2, c3, d1, d2, d3⟩
  · rw [if_pos c0, if_pos c0]; exact d.1
  · rw [if_neg c0, if_pos c1, if_neg c0, if_pos d1]; exact d.2.1
  · rw [if_neg c0, if_neg c1, if_pos c2, if_neg c0, if_neg d1, if_pos d2]; exact d.2.2.1
  · rw [if_neg c0, if_neg c1, if_neg c2, if_pos c3, if_neg c0, if_neg d1, if_neg d2, if_pos d3]; exact d.2.2.2.1
  · rw [if_neg c0, if_neg c1, if_neg c2, if_neg c3, if_neg c0, if_neg d1, if_neg d2, if_neg d3]; exact d.2.2.2.2
theorem own_t1 : ∀ (j : Fin 9) (o : Fin 4), j.val < o.val → (Int32.ofNat j.val - Int32.ofNat o.val) < (0 : Int32) := by decide +kernel
theorem own_t2 : ∀ (j : Fin 9) (o : Fin 4), ¬ j.val < o.val → ¬ (Int32.ofNat j.val - Int32.ofNat o.val) < (0 : Int32) ∧ (Int32.ofNat j.val - Int32.ofNat o.val) = Int32.ofNat (j.val - o.val) := by decide +kernel
theorem own_lo {j o : Nat} (hj : j < 9) (ho : o < 4) (c : j < o) {n v w : Int32} {b : Nat → Int32} (hb : b j = w) : f_2 (Int32.ofNat j) (Int32.ofNat o) n v w j b = 1 := by
  unfold f_2; rw [if_pos (own_t1 ⟨j, hj⟩ ⟨o, ho⟩ c), if_pos hb]
theorem own_hi {j o : Nat} (hj : j < 9) (ho : o < 4) (c : ¬ j < o) {n v w : Int32} {b : Nat → Int32} (hn : ¬ Int32.ofNat (j - o) < n) (hb : b j = w) : f_2 (Int32.ofNat j) (Int32.ofNat o) n v w j b = 1 := by
  have t := own_t2 ⟨j, hj⟩ ⟨o, ho⟩ c
  unfold f_2; rw [if_neg t.1, if_neg (fun q => hn (t.2 ▸ q)), if_pos hb]
theorem own_in {j o : Nat} (hj : j < 9) (ho : o < 4) (c : ¬ j < o) {n v w : Int32} {b : Nat → Int32} (hn : Int32.ofNat (j - o) < n) (hb : b j = (if Int32.ofNat (j - o) < (n - (1 : Int32)) then ((ushr v ((7 : Int32) * Int32.ofNat (j - o))) &&& (127 : Int32)) ||| (128 : Int32) else ((ushr v ((7 : Int32) * Int32.ofNat (j - o))) &&& (127 : Int32))).toInt8.toInt32) : f_2 (Int32.ofNat j) (Int32.ofNat o) n v w j b = 1 := by
  have t := own_t2 ⟨j, hj⟩ ⟨o, ho⟩ c
  have t2 : (Int32.ofNat j - Int32.ofNat o) = Int32.ofNat (j - o) := t.2
  unfold f_2 v_exp v_low; rw [if_neg t.1, t2, if_pos hn, if_pos hb]
theorem own_sh0 (v : Int32) (h : 0 ≤ v.toInt) : ushr v ((7 : Int32) * Int32.ofNat 0) = v := by
  apply Int32.toInt_inj.mp
  have s : (ushr v ((7 : Int32) * Int32.ofNat 0)).toInt = v.toInt / 2 ^ 0 := Jvm.Kit.i32_iushr (x := v) (Jvm.Kit.i32_nonneg.mpr h) (n := (((7 : Int32) * Int32.ofNat 0) &&& 31).toUInt32) (k := 0) (by decide) (by decide)
  omega
theorem own_sh1 (v : Int32) (h : 0 ≤ v.toInt) : ushr v ((7 : Int32) * Int32.ofNat 1) = (ushr v (7 : Int32)) := by
  apply Int32.toInt_inj.mp
  have s : (ushr v ((7 : Int32) * Int32.ofNat 1)).toInt = v.toInt / 2 ^ 7 := Jvm.Kit.i32_iushr (x := v) (Jvm.Kit.i32_nonneg.mpr h) (n := (((7 : Int32) * Int32.ofNat 1) &&& 31).toUInt32) (k := 7) (by decide) (by decide)
  have h1 := own_u7 (x := v) (by omega)
  omega
theorem own_sh2 (v : Int32) (h : 0 ≤ v.toInt) : ushr v ((7 : Int32) * Int32.ofNat 2) = (ushr (ushr v (7 : Int32)) (7 : Int32)) := by
  apply Int32.toInt_inj.mp
  have s : (ushr v ((7 : Int32) * Int32.ofNat 2)).toInt = v.toInt / 2 ^ 14 := Jvm.Kit.i32_iushr (x := v) (Jvm.Kit.i32_nonneg.mpr h) (n := (((7 : Int32) * Int32.ofNat 2) &&& 31).toUInt32) (k := 14) (by decide) (by decide)
  have h1 := own_u7 (x := v) (by omega)
  have h2 := own_u7 (x := (ushr v (7 : Int32))) (by omega)
  omega
theorem own_sh3 (v : Int32) (h : 0 ≤ v.toInt) : ushr v ((7 : Int32) * Int32.ofNat 3) = (ushr (ushr (ushr v (7 : Int32)) (7 : Int32)) (7 : Int32)) := by
  apply Int32.toInt_inj.mp
  have s : (ushr v ((7 : Int32) * Int32.ofNat 3)).toInt = v.toInt / 2 ^ 21 := Jvm.Kit.i32_iushr (x := v) (Jvm.Kit.i32_nonneg.mpr h) (n := (((7 : Int32) * Int32.ofNat 3) &&& 31).toUInt32) (k := 21) (by decide) (by decide)
  have h1 := own_u7 (x := v) (by omega)
  have h2 := own_u7 (x := (ushr v (7 : Int32))) (by omega)
  have h3 := own_u7 (x := (ushr (ushr v (7 : Int32)) (7 : Int32))) (by omega)
  omega
theorem own_sh4 (v : Int32) (h : 0 ≤ v.toInt) : ushr v ((7 : Int32) * Int32.ofNat 4) = (ushr (ushr (ushr (ushr v (7 : Int32)) (7 : Int32)) (7 : Int32)) (7 : Int32)) := by
  apply Int32.toInt_inj.mp
  have s : (ushr v ((7 : Int32) * Int32.ofNat 4)).toInt = v.toInt / 2 ^ 28 := Jvm.Kit.i32_iushr (x := v) (Jvm.Kit.i32_nonneg.mpr h) (n := (((7 : Int32) * Int32.ofNat 4) &&& 31).toUInt32) (k := 28) (by decide) (by decide)
  have h1 := own_u7 (x := v) (by omega)
  have h2 := own_u7 (x := (ushr v (7 : Int32))) (by omega)
  have h3 := own_u7 (x := (ushr (ushr v (7 : Int32)) (7 : Int32))) (by omega)
  have h4 := own_u7 (x := (ushr (ushr (ushr v (7 : Int32)) (7 : Int32)) (7 : Int32))) (by omega)
  omega
theorem own_127 (x : Int32) (h0 : 0 ≤ x.toInt) (h : x < (128 : Int32)) : x &&& (127 : Int32) = x := by
  apply Int32.toInt_inj.mp
  have e : (128 : Int32).toInt = 128 := by decide
  rw [Int32.lt_iff_toInt_lt] at h
  rw [Jvm.Kit.i32_mask _ 127 (k := 7) (by decide) (by decide)]; omega
theorem own_up {b : Nat → Int32} {j i : Nat} {x : Int32} (h : ¬ i = j) : updI b j x i = b i := by unfold updI; rw [if_neg h]
theorem own_us {b : Nat → Int32} {j i : Nat} {x : Int32} (h : i = j) : updI b j x i = x := by unfold updI; rw [if_pos h]
theorem own_lt1 (k : Nat) (h : k < 1) : Int32.ofNat k < (1 : Int32) := (by decide +kernel : ∀ k : Fin 1, Int32.ofNat k.val < (1 : Int32)) ⟨k, h⟩
theorem own_ge1 (k : Nat) (h : k < 9) (h2 : 1 ≤ k) : ¬ Int32.ofNat k < (1 : Int32) := (by decide +kernel : ∀ k : Fin 9, 1 ≤ k.val → ¬ Int32.ofNat k.val < (1 : Int32)) ⟨k, h⟩ h2
theorem own_lt2 (k : Nat) (h : k < 2) : Int32.ofNat k < (2 : Int32) := (by decide +kernel : ∀ k : Fin 2, Int32.ofNat k.val < (2 : Int32)) ⟨k, h⟩
theorem own_ge2 (k : Nat) (h : k < 9) (h2 : 2 ≤ k) : ¬ Int32.ofNat k < (2 : Int32) := (by decide +kernel : ∀ k : Fin 9, 2 ≤ k.val → ¬ Int32.ofNat k.val < (2 : Int32)) ⟨k, h⟩ h2
theorem own_lt3 (k : Nat) (h : k < 3) : Int32.ofNat k < (3 : Int32) := (by decide +kernel : ∀ k : Fin 3, Int32.ofNat k.val < (3 : Int32)) ⟨k, h⟩
theorem own_ge3 (k : Nat) (h : k < 9) (h2 : 3 ≤ k) : ¬ Int32.ofNat k < (3 : Int32) := (by decide +kernel : ∀ k : Fin 9, 3 ≤ k.val → ¬ Int32.ofNat k.val < (3 : Int32)) ⟨k, h⟩ h2
theorem own_lt4 (k : Nat) (h : k < 4) : Int32.ofNat k < (4 : Int32) := (by decide +kernel : ∀ k : Fin 4, Int32.ofNat k.val < (4 : Int32)) ⟨k, h⟩
theorem own_ge4 (k : Nat) (h : k < 9) (h2 : 4 ≤ k) : ¬ Int32.ofNat k < (4 : Int32) := (by decide +kernel : ∀ k : Fin 9, 4 ≤ k.val → ¬ Int32.ofNat k.val < (4 : Int32)) ⟨k, h⟩ h2
theorem own_lt5 (k : Nat) (h : k < 5) : Int32.ofNat k < (5 : Int32) := (by decide +kernel : ∀ k : Fin 5, Int32.ofNat k.val < (5 : Int32)) ⟨k, h⟩
theorem own_ge5 (k : Nat) (h : k < 9) (h2 : 5 ≤ k) : ¬ Int32.ofNat k < (5 : Int32) := (by decide +kernel : ∀ k : Fin 9, 5 ≤ k.val → ¬ Int32.ofNat k.val < (5 : Int32)) ⟨k, h⟩ h2
theorem own_at1 (v w : Int32) (h : 0 ≤ v.toInt) (o : Nat) (ho : o < 4) (j : Nat) (hj : j < 9) (b : Nat → Int32) (hb : b j = w) : f_2 (Int32.ofNat j) (Int32.ofNat o) (if v < (128 : Int32) then (1 : Int32) else (if v < (16384 : Int32) then (2 : Int32) else (if v < (2097152 : Int32) then (3 : Int32) else (if v < (268435456 : Int32) then (4 : Int32) else (5 : Int32))))) v w j (g_1 v o b) = 1 := by
  have h1 := own_u7 h
  have h2 := own_u7 (x := (ushr v (7 : Int32))) (by omega)
  have h3 := own_u7 (x := (ushr (ushr v (7 : Int32)) (7 : Int32))) (by omega)
  have h4 := own_u7 (x := (ushr (ushr (ushr v (7 : Int32)) (7 : Int32)) (7 : Int32))) (by omega)
  unfold g_1
  rcases own_five v h with c0 | ⟨c0, c1, d1⟩ | ⟨c0, c1, c2, d1, d2⟩ | ⟨c0, c1, c2, c3, d1, d2, d3⟩ | ⟨c0, c1, c2, c3, d1, d2, d3⟩
  · rw [if_pos c0, if_pos c0]
    by_cases c : j < o
    · exact own_lo hj ho c (by rw [own_up (j := o) (i := j) (by omega)]; exact hb)
    · by_cases cc : o + 1 ≤ j
      · exact own_hi hj ho c (own_ge1 (j - o) (by omega) (by omega)) (by rw [own_up (j := o) (i := j) (by omega)]; exact hb)
      · refine own_in hj ho c (own_lt1 (j - o) (by omega)) ?_
        have e0 : j = o + 0 := by omega
        have ek : j - o = 0 := by omega
        rw [ek, if_neg (by decide), own_sh0 v h, own_us (j := o) (i := j) (by omega)]
        rw [own_127 _ (by omega) c0]; exact own_kind _
  · rw [if_neg c0, if_pos d1, if_neg c0, if_pos c1]
    by_cases c : j < o
    · exact own_lo hj ho c (by rw [own_up (j := o + 1) (i := j) (by omega), own_up (j := o) (i := j) (by omega)]; exact hb)
    · by_cases cc : o + 2 ≤ j
      · exact own_hi hj ho c (own_ge2 (j - o) (by omega) (by omega)) (by rw [own_up (j := o + 1) (i := j) (by omega), own_up (j := o) (i := j) (by omega)]; exact hb)
      · refine own_in hj ho c (own_lt2 (j - o) (by omega)) ?_
        by_cases e0 : j = o + 0
        · have ek : j - o = 0 := by omega
          rw [ek, if_pos (by decide), own_sh0 v h, own_up (j := o + 1) (i := j) (by omega), own_us (j := o) (i := j) (by omega)]
          exact own_kind _
        have e1 : j = o + 1 := by omega
        have ek : j - o = 1 := by omega
        rw [ek, if_neg (by decide), own_sh1 v h, own_us (j := o + 1) (i := j) (by omega)]
        rw [own_127 _ (by omega) c1]; exact own_kind _
  · rw [if_neg c0, if_neg d1, if_pos d2, if_neg c0, if_neg c1, if_pos c2]
    by_cases c : j < o
    · exact own_lo hj ho c (by rw [own_up (j := o + 2) (i := j) (by omega), own_up (j := o + 1) (i := j) (by omega), own_up (j := o) (i := j) (by omega)]; exact hb)
    · by_cases cc : o + 3 ≤ j
      · exact own_hi hj ho c (own_ge3 (j - o) (by omega) (by omega)) (by rw [own_up (j := o + 2) (i := j) (by omega), own_up (j := o + 1) (i := j) (by omega), own_up (j := o) (i := j) (by omega)]; exact hb)
      · refine own_in hj ho c (own_lt3 (j - o) (by omega)) ?_
        by_cases e0 : j = o + 0
        · have ek : j - o = 0 := by omega
          rw [ek, if_pos (by decide), own_sh0 v h, own_up (j := o + 2) (i := j) (by omega), own_up (j := o + 1) (i := j) (by omega), own_us (j := o) (i := j) (by omega)]
          exact own_kind _
        by_cases e1 : j = o + 1
        · have ek : j - o = 1 := by omega
          rw [ek, if_pos (by decide), own_sh1 v h, own_up (j := o + 2) (i := j) (by omega), own_us (j := o + 1) (i := j) (by omega)]
          exact own_kind _
        have e2 : j = o + 2 := by omega
        have ek : j - o = 2 := by omega
        rw [ek, if_neg (by decide), own_sh2 v h, own_us (j := o + 2) (i := j) (by omega)]
        rw [own_127 _ (by omega) c2]; exact own_kind _
  · rw [if_neg c0, if_neg d1, if_neg d2, if_pos d3, if_neg c0, if_neg c1, if_neg c2, if_pos c3]
    by_cases c : j < o
    · exact own_lo hj ho c (by rw [own_up (j := o + 3) (i := j) (by omega), own_up (j := o + 2) (i := j) (by omega), own_up (j := o + 1) (i := j) (by omega), own_up (j := o) (i := j) (by omega)]; exact hb)
    · by_cases cc : o + 4 ≤ j
      · exact own_hi hj ho c (own_ge4 (j - o) (by omega) (by omega)) (by rw [own_up (j := o + 3) (i := j) (by omega), own_up (j := o + 2) (i := j) (by omega), own_up (j := o + 1) (i := j) (by omega), own_up (j := o) (i := j) (by omega)]; exact hb)
      · refine own_in hj ho c (own_lt4 (j - o) (by omega)) ?_
        by_cases e0 : j = o + 0
        · have ek : j - o = 0 := by omega
          rw [ek, if_pos (by decide), own_sh0 v h, own_up (j := o + 3) (i := j) (by omega), own_up (j := o + 2) (i := j) (by omega), own_up (j := o + 1) (i := j) (by omega), own_us (j := o) (i := j) (by omega)]
          exact own_kind _
        by_cases e1 : j = o + 1
        · have ek : j - o = 1 := by omega
          rw [ek, if_pos (by decide), own_sh1 v h, own_up (j := o + 3) (i := j) (by omega), own_up (j := o + 2) (i := j) (by omega), own_us (j := o + 1) (i := j) (by omega)]
          exact own_kind _
        by_cases e2 : j = o + 2
        · have ek : j - o = 2 := by omega
          rw [ek, if_pos (by decide), own_sh2 v h, own_up (j := o + 3) (i := j) (by omega), own_us (j := o + 2) (i := j) (by omega)]
          exact own_kind _
        have e3 : j = o + 3 := by omega
        have ek : j - o = 3 := by omega
        rw [ek, if_neg (by decide), own_sh3 v h, own_us (j := o + 3) (i := j) (by omega)]
        rw [own_127 _ (by omega) c3]; exact own_kind _
  · rw [if_neg c0, if_neg d1, if_neg d2, if_neg d3, if_neg c0, if_neg c1, if_neg c2, if_neg c3]
    by_cases c : j < o
    · exact own_lo hj ho c (by rw [own_up (j := o + 4) (i := j) (by omega), own_up (j := o + 3) (i := j) (by omega), own_up (j := o + 2) (i := j) (by omega), own_up (j := o + 1) (i := j) (by omega), own_up (j := o) (i := j) (by omega)]; exact hb)
    · by_cases cc : o + 5 ≤ j
      · exact own_hi hj ho c (own_ge5 (j - o) (by omega) (by omega)) (by rw [own_up (j := o + 4) (i := j) (by omega), own_up (j := o + 3) (i := j) (by omega), own_up (j := o + 2) (i := j) (by omega), own_up (j := o + 1) (i := j) (by omega), own_up (j := o) (i := j) (by omega)]; exact hb)
      · refine own_in hj ho c (own_lt5 (j - o) (by omega)) ?_
        by_cases e0 : j = o + 0
        · have ek : j - o = 0 := by omega
          rw [ek, if_pos (by decide), own_sh0 v h, own_up (j := o + 4) (i := j) (by omega), own_up (j := o + 3) (i := j) (by omega), own_up (j := o + 2) (i := j) (by omega), own_up (j := o + 1) (i := j) (by omega), own_us (j := o) (i := j) (by omega)]
          exact own_kind _
        by_cases e1 : j = o + 1
        · have ek : j - o = 1 := by omega
          rw [ek, if_pos (by decide), own_sh1 v h, own_up (j := o + 4) (i := j) (by omega), own_up (j := o + 3) (i := j) (by omega), own_up (j := o + 2) (i := j) (by omega), own_us (j := o + 1) (i := j) (by omega)]
          exact own_kind _
        by_cases e2 : j = o + 2
        · have ek : j - o = 2 := by omega
          rw [ek, if_pos (by decide), own_sh2 v h, own_up (j := o + 4) (i := j) (by omega), own_up (j := o + 3) (i := j) (by omega), own_us (j := o + 2) (i := j) (by omega)]
          exact own_kind _
        by_cases e3 : j = o + 3
        · have ek : j - o = 3 := by omega
          rw [ek, if_pos (by decide), own_sh3 v h, own_up (j := o + 4) (i := j) (by omega), own_us (j := o + 3) (i := j) (by omega)]
          exact own_kind _
        have e4 : j = o + 4 := by omega
        have ek : j - o = 4 := by omega
        rw [ek, if_neg (by decide), own_sh4 v h, own_us (j := o + 4) (i := j) (by omega)]
        rw [own_127 _ (by omega) (own_small5 v h)]; exact own_kind _
theorem own_at (p0 p1 p2 : Int32) (o : Nat) (ho : o < 4) (hvo : v_o p1 = Int32.ofNat o) (j : Nat) (hj : j < 9) : ¬ f_2 (Int32.ofNat j) (v_o p1) (v_n p0) (v_v p0) (v_fill p2) j (g_1 (v_v p0) o (fun _ => (nar .byte (v_fill p2)))) = (0 : Int32) := by
  rw [hvo, show f_2 (Int32.ofNat j) (Int32.ofNat o) (v_n p0) (v_v p0) (v_fill p2) j (g_1 (v_v p0) o (fun _ => (nar .byte (v_fill p2)))) = 1 from own_at1 (v_v p0) (v_fill p2) (own_vv p0) o ho j hj _ (own_kind p2)]
  decide
theorem pd_0 : parseMethodDescriptor "(I[BI)I" = some ⟨[.int, (.array .byte), .int], some .int⟩ := by decide +kernel
theorem pd_1 : parseMethodDescriptor "([BIIIIB)Z" = some ⟨[(.array .byte), .int, .int, .int, .int, .byte], some .boolean⟩ := by decide +kernel
theorem ef_0 (m : MethodId) (p0 : Int32) (p1 : Int32) (p2 : Int32) : entryFrame m #[(.int p0), (.int p1), (.int p2)] maxLocals = (mkF m 0 #[.val (.int p0), .val (.int p1), .val (.int p2), .unset, .unset, .unset, .unset, .unset, .unset] []) := by first | (simp [entryFrame, mkF, argsToLocals, Value.category, maxLocals]; done) | rfl
def Q_0 (Z : State) (p0 : Int32) (p1 : Int32) (p2 : Int32) (h0 : Heap) (n0 : Nat) (vv : Option Value) (hE : Heap) (LE : List Loc) : Prop := vv = some (.int (1 : Int32)) ∧ Fr n0 LE ∧ Keep h0 hE []
set_option maxRecDepth 65536 in
set_option maxHeartbeats 40000000 in
theorem rm_0 (l : Launch) (Z : State) (a0 : Array Value) (hw : ∀ d ∈ tables_1, d.before a0 Z = true) (ws : List Jvm.Cond) (p0 : Int32) (p1 : Int32) (p2 : Int32) (h0 : Heap) (n0 : Nat) (Z0 : n0 ≤ h0.size)  :
    MetFree l x (head1 (Jvm.Cond.code x code maxLocals ret :: ws) room_1) (fun aa UU => aa = #[(.int p0), (.int p1), (.int p2)] ∧ Z.Warmed39 UU.vm ∧ UU.heap = h0) (fun _ _ _ _ _ => True) (fun _ UU oo UU' => ∃ vv LL, oo = .returned vv ∧ Q_0 Z p0 p1 p2 h0 n0 vv UU'.heap LL ∧ FrameEnd UU oo UU' LL 16 128) := by
  refine MetFree.of_bodySF (plainFor_of_name pn_1) hisR ?_
  intro p e s m args below meth c s₁ Bd hml0 hP hK
  obtain ⟨rfl, hZ, hh⟩ := hP
  have hx := Bd.exec
  have hby := Bd.bytes
  have hml : c.maxLocals = 9 := hml0
  have hown : s.vm.findClass "com/example/vocabulary/vocabulary/index/IndexOutputEncodeVarIntPinLaw" = some m.cls := findClass_of_methodNamed Bd.named
  have hnm := (name_of_methodNamed Bd.named Bd.method).1
  have X0 : Stand p l e room_1 s m #[(.int p0), (.int p1), (.int p2)] below meth c s₁ [] 0 0 := Stand.of_body Bd
  have e0 : s₁.heap = h0 := by rw [← hh, Bd.state]; rfl
  have N0 := Fr.nil n0
  have K0 := Keep.refl h0 []
  show Go p e below s (Q_0 Z p0 p1 p2 h0 n0) 16 128 s₁ (entryFrame m #[(.int p0), (.int p1), (.int p2)] maxLocals)
  refine Go.of_eq (ef_0 m p0 p1 p2) ?_
  refine Go.st (mkF m 1 #[.val (.int p0), .val (.int p1), .val (.int p2), .unset, .unset, .unset, .unset, .unset, .unset] [(.int p0)]) (fun _ k => XS.iloadN X0.here hx rfl (hb hby at_0) rfl k) ?_
  refine Go.st (mkF m 3 #[.val (.int p0), .val (.int p1), .val (.int p2), .unset, .unset, .unset, .unset, .unset, .unset] [(.int (2147483647 : Int32)), (.int p0)]) (fun _ k => X0.ldcInt hx hown (mvT hZ (hw _ (List.mem_of_getElem? (i := 0) rfl))) (g := (mkF m 1 #[.val (.int p0), .val (.int p1), .val (.int p2), .unset, .unset, .unset, .unset, .unset, .unset] [(.int p0)])) rfl (hb hby at_1) _ k) ?_
  refine Go.st (mkF m 4 #[.val (.int p0), .val (.int p1), .val (.int p2), .unset, .unset, .unset, .unset, .unset, .unset] [(.int (p0 &&& (2147483647 : Int32)))]) (fun _ k => XS.iand X0.here hx rfl (hb hby at_3) rfl k) ?_
  refine Go.st (mkF m 5 #[.val (.int p0), .val (.int p1), .val (.int p2), .val (.int (v_v p0)), .unset, .unset, .unset, .unset, .unset] []) (fun _ k => XS.istoreN X0.here hx rfl (hb hby at_4) rfl (l' := #[.val (.int p0), .val (.int p1), .val (.int p2), .val (.int (v_v p0)), .unset, .unset, .unset, .unset, .unset]) rfl k) ?_
  refine Go.st (mkF m 6 #[.val (.int p0), .val (.int p1), .val (.int p2), .val (.int (v_v p0)), .unset, .unset, .unset, .unset, .unset] [(.int p1)]) (fun _ k => XS.iloadN X0.here hx rfl (hb hby at_5) rfl k) ?_
  refine Go.st (mkF m 7 #[.val (.int p0), .val (.int p1), .val (.int p2), .val (.int (v_v p0)), .unset, .unset, .unset, .unset, .unset] [(.int (3 : Int32)), (.int p1)]) (fun _ k => XS.iconst X0.here hx rfl (hb hby at_6) k) ?_
  refine Go.st (mkF m 8 #[.val (.int p0), .val (.int p1), .val (.int p2), .val (.int (v_v p0)), .unset, .unset, .unset, .unset, .unset] [(.int (p1 &&& (3 : Int32)))]) (fun _ k => XS.iand X0.here hx rfl (hb hby at_7) rfl k) ?_
  refine Go.st (mkF m 10 #[.val (.int p0), .val (.int p1), .val (.int p2), .val (.int (v_v p0)), .val (.int (v_o p1)), .unset, .unset, .unset, .unset] []) (fun _ k => XS.istore X0.here hx rfl (hb hby at_8) rfl (l' := #[.val (.int p0), .val (.int p1), .val (.int p2), .val (.int (v_v p0)), .val (.int (v_o p1)), .unset, .unset, .unset, .unset]) rfl k) ?_
  refine Go.st (mkF m 11 #[.val (.int p0), .val (.int p1), .val (.int p2), .val (.int (v_v p0)), .val (.int (v_o p1)), .unset, .unset, .unset, .unset] [(.int p2)]) (fun _ k => XS.iloadN X0.here hx rfl (hb hby at_10) rfl k) ?_
  refine Go.st (mkF m 12 #[.val (.int p0), .val (.int p1), .val (.int p2), .val (.int (v_v p0)), .val (.int (v_o p1)), .unset, .unset, .unset, .unset] [(.int (p2.toInt8.toInt32))]) (fun _ k => XT.i2b X0.here hx rfl (hb hby at_11) rfl k) ?_
  refine Go.st (mkF m 14 #[.val (.int p0), .val (.int p1), .val (.int p2), .val (.int (v_v p0)), .val (.int (v_o p1)), .val (.int (v_fill p2)), .unset, .unset, .unset] []) (fun _ k => XS.istore X0.here hx rfl (hb hby at_12) rfl (l' := #[.val (.int p0), .val (.int p1), .val (.int p2), .val (.int (v_v p0)), .val (.int (v_o p1)), .val (.int (v_fill p2)), .unset, .unset, .unset]) rfl k) ?_
  refine Go.st (mkF m 16 #[.val (.int p0), .val (.int p1), .val (.int p2), .val (.int (v_v p0)), .val (.int (v_o p1)), .val (.int (v_fill p2)), .unset, .unset, .unset] [(.int (9 : Int32))]) (fun _ k => XS.bipush X0.here hx rfl (hb hby at_14) k) ?_
  obtain ⟨T1, h1, k1, X1, e1, E1, A1, st1⟩ := newP X0 hx hZ (hw _ (List.mem_of_getElem? (i := 1) rfl)) e0 (g := (mkF m 16 #[.val (.int p0), .val (.int p1), .val (.int p2), .val (.int (v_v p0)), .val (.int (v_o p1)), .val (.int (v_fill p2)), .unset, .unset, .unset] [(.int (9 : Int32))])) rfl (hb hby at_16) rfl (by decide) (cap := 9) (by decide) (by decide) (by decide) (by decide)
  obtain ⟨b1, q1⟩ : ∃ z, z = h0.size := ⟨_, rfl⟩
  rw [← q1] at A1 st1
  have sz_b1 : h0.size ≤ b1 := by rw [q1]; exact K0.1
  have g_b1 : n0 ≤ b1 := Nat.le_trans Z0 sz_b1
  have K1 : Keep h0 h1 [] := K0.ext E1
  have V2 : Ary Z h1 b1 .byte 9 (lst [(.int (0 : Int32)), (.int (0 : Int32)), (.int (0 : Int32)), (.int (0 : Int32)), (.int (0 : Int32)), (.int (0 : Int32)), (.int (0 : Int32)), (.int (0 : Int32)), (.int (0 : Int32))]) := Ary.newL A1 (by decide)
  refine Go.st (mkF m 18 #[.val (.int p0), .val (.int p1), .val (.int p2), .val (.int (v_v p0)), .val (.int (v_o p1)), .val (.int (v_fill p2)), .unset, .unset, .unset] [(.ref b1)]) (fun _ k => st1 _ k) ?_
  refine Go.st (mkF m 20 #[.val (.int p0), .val (.int p1), .val (.int p2), .val (.int (v_v p0)), .val (.int (v_o p1)), .val (.int (v_fill p2)), .val (.ref b1), .unset, .unset] []) (fun _ k => XS.astore X1.here hx rfl (hb hby at_18) rfl rfl (l' := #[.val (.int p0), .val (.int p1), .val (.int p2), .val (.int (v_v p0)), .val (.int (v_o p1)), .val (.int (v_fill p2)), .val (.ref b1), .unset, .unset]) rfl k) ?_
  refine Go.st (mkF m 22 #[.val (.int p0), .val (.int p1), .val (.int p2), .val (.int (v_v p0)), .val (.int (v_o p1)), .val (.int (v_fill p2)), .val (.ref b1), .unset, .unset] [(.ref b1)]) (fun _ k => XS.aload X1.here hx rfl (hb hby at_20) rfl rfl k) ?_
  refine Go.st (mkF m 23 #[.val (.int p0), .val (.int p1), .val (.int p2), .val (.int (v_v p0)), .val (.int (v_o p1)), .val (.int (v_fill p2)), .val (.ref b1), .unset, .unset] [(.int (0 : Int32)), (.ref b1)]) (fun _ k => XS.iconst X1.here hx rfl (hb hby at_22) k) ?_
  refine Go.st (mkF m 25 #[.val (.int p0), .val (.int p1), .val (.int p2), .val (.int (v_v p0)), .val (.int (v_o p1)), .val (.int (v_fill p2)), .val (.ref b1), .unset, .unset] [(.int (v_fill p2)), (.int (0 : Int32)), (.ref b1)]) (fun _ k => XS.iload X1.here hx rfl (hb hby at_23) rfl k) ?_
  obtain ⟨T3, h3, X3, e3, W3, st3⟩ := stAB X1 hx hZ e1 V2 (i := 0) (by decide) (by decide) (by decide) (g := (mkF m 25 #[.val (.int p0), .val (.int p1), .val (.int p2), .val (.int (v_v p0)), .val (.int (v_o p1)), .val (.int (v_fill p2)), .val (.ref b1), .unset, .unset] [(.int (v_fill p2)), (.int (0 : Int32)), (.ref b1)])) rfl rfl (hb hby at_25)
  have V4 : Ary Z h3 b1 .byte 9 (lst [(.int (nar .byte (v_fill p2))), (.int (0 : Int32)), (.int (0 : Int32)), (.int (0 : Int32)), (.int (0 : Int32)), (.int (0 : Int32)), (.int (0 : Int32)), (.int (0 : Int32)), (.int (0 : Int32))]) := V2.sameL W3 (by simp)
  have K3 : Keep h0 h3 [] := K1.wr W3 (Or.inr sz_b1)
  have N3 := Fr.snoc X3 N0 g_b1
  refine Go.st (mkF m 26 #[.val (.int p0), .val (.int p1), .val (.int p2), .val (.int (v_v p0)), .val (.int (v_o p1)), .val (.int (v_fill p2)), .val (.ref b1), .unset, .unset] []) (fun _ k => st3 _ k) ?_
  refine Go.st (mkF m 28 #[.val (.int p0), .val (.int p1), .val (.int p2), .val (.int (v_v p0)), .val (.int (v_o p1)), .val (.int (v_fill p2)), .val (.ref b1), .unset, .unset] [(.ref b1)]) (fun _ k => XS.aload X3.here hx rfl (hb hby at_26) rfl rfl k) ?_
  refine Go.st (mkF m 29 #[.val (.int p0), .val (.int p1), .val (.int p2), .val (.int (v_v p0)), .val (.int (v_o p1)), .val (.int (v_fill p2)), .val (.ref b1), .unset, .unset] [(.int (1 : Int32)), (.ref b1)]) (fun _ k => XS.iconst X3.here hx rfl (hb hby at_28) k) ?_
  refine Go.st (mkF m 31 #[.val (.int p0), .val (.int p1), .val (.int p2), .val (.int (v_v p0)), .val (.int (v_o p1)), .val (.int (v_fill p2)), .val (.ref b1), .unset, .unset] [(.int (v_fill p2)), (.int (1 : Int32)), (.ref b1)]) (fun _ k => XS.iload X3.here hx rfl (hb hby at_29) rfl k) ?_
  obtain ⟨T5, h5, X5, e5, W5, st5⟩ := stAB X3 hx hZ e3 V4 (i := 1) (by decide) (by decide) (by decide) (g := (mkF m 31 #[.val (.int p0), .val (.int p1), .val (.int p2), .val (.int (v_v p0)), .val (.int (v_o p1)), .val (.int (v_fill p2)), .val (.ref b1), .unset, .unset] [(.int (v_fill p2)), (.int (1 : Int32)), (.ref b1)])) rfl rfl (hb hby at_31)
  have V6 : Ary Z h5 b1 .byte 9 (lst [(.int (nar .byte (v_fill p2))), (.int (nar .byte (v_fill p2))), (.int (0 : Int32)), (.int (0 : Int32)), (.int (0 : Int32)), (.int (0 : Int32)), (.int (0 : Int32)), (.int (0 : Int32)), (.int (0 : Int32))]) := V4.sameL W5 (by simp)
  have K5 : Keep h0 h5 [] := K3.wr W5 (Or.inr sz_b1)
  have N5 := Fr.snoc X5 N3 g_b1
  refine Go.st (mkF m 32 #[.val (.int p0), .val (.int p1), .val (.int p2), .val (.int (v_v p0)), .val (.int (v_o p1)), .val (.int (v_fill p2)), .val (.ref b1), .unset, .unset] []) (fun _ k => st5 _ k) ?_
  refine Go.st (mkF m 34 #[.val (.int p0), .val (.int p1), .val (.int p2), .val (.int (v_v p0)), .val (.int (v_o p1)), .val (.int (v_fill p2)), .val (.ref b1), .unset, .unset] [(.ref b1)]) (fun _ k => XS.aload X5.here hx rfl (hb hby at_32) rfl rfl k) ?_
  refine Go.st (mkF m 35 #[.val (.int p0), .val (.int p1), .val (.int p2), .val (.int (v_v p0)), .val (.int (v_o p1)), .val (.int (v_fill p2)), .val (.ref b1), .unset, .unset] [(.int (2 : Int32)), (.ref b1)]) (fun _ k => XS.iconst X5.here hx rfl (hb hby at_34) k) ?_
  refine Go.st (mkF m 37 #[.val (.int p0), .val (.int p1), .val (.int p2), .val (.int (v_v p0)), .val (.int (v_o p1)), .val (.int (v_fill p2)), .val (.ref b1), .unset, .unset] [(.int (v_fill p2)), (.int (2 : Int32)), (.ref b1)]) (fun _ k => XS.iload X5.here hx rfl (hb hby at_35) rfl k) ?_
  obtain ⟨T7, h7, X7, e7, W7, st7⟩ := stAB X5 hx hZ e5 V6 (i := 2) (by decide) (by decide) (by decide) (g := (mkF m 37 #[.val (.int p0), .val (.int p1), .val (.int p2), .val (.int (v_v p0)), .val (.int (v_o p1)), .val (.int (v_fill p2)), .val (.ref b1), .unset, .unset] [(.int (v_fill p2)), (.int (2 : Int32)), (.ref b1)])) rfl rfl (hb hby at_37)
  have V8 : Ary Z h7 b1 .byte 9 (lst [(.int (nar .byte (v_fill p2))), (.int (nar .byte (v_fill p2))), (.int (nar .byte (v_fill p2))), (.int (0 : Int32)), (.int (0 : Int32)), (.int (0 : Int32)), (.int (0 : Int32)), (.int (0 : Int32)), (.int (0 : Int32))]) := V6.sameL W7 (by simp)
  have K7 : Keep h0 h7 [] := K5.wr W7 (Or.inr sz_b1)
  have N7 := Fr.snoc X7 N5 g_b1
  refine Go.st (mkF m 38 #[.val (.int p0), .val (.int p1), .val (.int p2), .val (.int (v_v p0)), .val (.int (v_o p1)), .val (.int (v_fill p2)), .val (.ref b1), .unset, .unset] []) (fun _ k => st7 _ k) ?_
  refine Go.st (mkF m 40 #[.val (.int p0), .val (.int p1), .val (.int p2), .val (.int (v_v p0)), .val (.int (v_o p1)), .val (.int (v_fill p2)), .val (.ref b1), .unset, .unset] [(.ref b1)]) (fun _ k => XS.aload X7.here hx rfl (hb hby at_38) rfl rfl k) ?_
  refine Go.st (mkF m 41 #[.val (.int p0), .val (.int p1), .val (.int p2), .val (.int (v_v p0)), .val (.int (v_o p1)), .val (.int (v_fill p2)), .val (.ref b1), .unset, .unset] [(.int (3 : Int32)), (.ref b1)]) (fun _ k => XS.iconst X7.here hx rfl (hb hby at_40) k) ?_
  refine Go.st (mkF m 43 #[.val (.int p0), .val (.int p1), .val (.int p2), .val (.int (v_v p0)), .val (.int (v_o p1)), .val (.int (v_fill p2)), .val (.ref b1), .unset, .unset] [(.int (v_fill p2)), (.int (3 : Int32)), (.ref b1)]) (fun _ k => XS.iload X7.here hx rfl (hb hby at_41) rfl k) ?_
  obtain ⟨T9, h9, X9, e9, W9, st9⟩ := stAB X7 hx hZ e7 V8 (i := 3) (by decide) (by decide) (by decide) (g := (mkF m 43 #[.val (.int p0), .val (.int p1), .val (.int p2), .val (.int (v_v p0)), .val (.int (v_o p1)), .val (.int (v_fill p2)), .val (.ref b1), .unset, .unset] [(.int (v_fill p2)), (.int (3 : Int32)), (.ref b1)])) rfl rfl (hb hby at_43)
  have V10 : Ary Z h9 b1 .byte 9 (lst [(.int (nar .byte (v_fill p2))), (.int (nar .byte (v_fill p2))), (.int (nar .byte (v_fill p2))), (.int (nar .byte (v_fill p2))), (.int (0 : Int32)), (.int (0 : Int32)), (.int (0 : Int32)), (.int (0 : Int32)), (.int (0 : Int32))]) := V8.sameL W9 (by simp)
  have K9 : Keep h0 h9 [] := K7.wr W9 (Or.inr sz_b1)
  have N9 := Fr.snoc X9 N7 g_b1
  refine Go.st (mkF m 44 #[.val (.int p0), .val (.int p1), .val (.int p2), .val (.int (v_v p0)), .val (.int (v_o p1)), .val (.int (v_fill p2)), .val (.ref b1), .unset, .unset] []) (fun _ k => st9 _ k) ?_
  refine Go.st (mkF m 46 #[.val (.int p0), .val (.int p1), .val (.int p2), .val (.int (v_v p0)), .val (.int (v_o p1)), .val (.int (v_fill p2)), .val (.ref b1), .unset, .unset] [(.ref b1)]) (fun _ k => XS.aload X9.here hx rfl (hb hby at_44) rfl rfl k) ?_
  refine Go.st (mkF m 47 #[.val (.int p0), .val (.int p1), .val (.int p2), .val (.int (v_v p0)), .val (.int (v_o p1)), .val (.int (v_fill p2)), .val (.ref b1), .unset, .unset] [(.int (4 : Int32)), (.ref b1)]) (fun _ k => XS.iconst X9.here hx rfl (hb hby at_46) k) ?_
  refine Go.st (mkF m 49 #[.val (.int p0), .val (.int p1), .val (.int p2), .val (.int (v_v p0)), .val (.int (v_o p1)), .val (.int (v_fill p2)), .val (.ref b1), .unset, .unset] [(.int (v_fill p2)), (.int (4 : Int32)), (.ref b1)]) (fun _ k => XS.iload X9.here hx rfl (hb hby at_47) rfl k) ?_
  obtain ⟨T11, h11, X11, e11, W11, st11⟩ := stAB X9 hx hZ e9 V10 (i := 4) (by decide) (by decide) (by decide) (g := (mkF m 49 #[.val (.int p0), .val (.int p1), .val (.int p2), .val (.int (v_v p0)), .val (.int (v_o p1)), .val (.int (v_fill p2)), .val (.ref b1), .unset, .unset] [(.int (v_fill p2)), (.int (4 : Int32)), (.ref b1)])) rfl rfl (hb hby at_49)
  have V12 : Ary Z h11 b1 .byte 9 (lst [(.int (nar .byte (v_fill p2))), (.int (nar .byte (v_fill p2))), (.int (nar .byte (v_fill p2))), (.int (nar .byte (v_fill p2))), (.int (nar .byte (v_fill p2))), (.int (0 : Int32)), (.int (0 : Int32)), (.int (0 : Int32)), (.int (0 : Int32))]) := V10.sameL W11 (by simp)
  have K11 : Keep h0 h11 [] := K9.wr W11 (Or.inr sz_b1)
  have N11 := Fr.snoc X11 N9 g_b1
  refine Go.st (mkF m 50 #[.val (.int p0), .val (.int p1), .val (.int p2), .val (.int (v_v p0)), .val (.int (v_o p1)), .val (.int (v_fill p2)), .val (.ref b1), .unset, .unset] []) (fun _ k => st11 _ k) ?_
  refine Go.st (mkF m 52 #[.val (.int p0), .val (.int p1), .val (.int p2), .val (.int (v_v p0)), .val (.int (v_o p1)), .val (.int (v_fill p2)), .val (.ref b1), .unset, .unset] [(.ref b1)]) (fun _ k => XS.aload X11.here hx rfl (hb hby at_50) rfl rfl k) ?_
  refine Go.st (mkF m 53 #[.val (.int p0), .val (.int p1), .val (.int p2), .val (.int (v_v p0)), .val (.int (v_o p1)), .val (.int (v_fill p2)), .val (.ref b1), .unset, .unset] [(.int (5 : Int32)), (.ref b1)]) (fun _ k => XS.iconst X11.here hx rfl (hb hby at_52) k) ?_
  refine Go.st (mkF m 55 #[.val (.int p0), .val (.int p1), .val (.int p2), .val (.int (v_v p0)), .val (.int (v_o p1)), .val (.int (v_fill p2)), .val (.ref b1), .unset, .unset] [(.int (v_fill p2)), (.int (5 : Int32)), (.ref b1)]) (fun _ k => XS.iload X11.here hx rfl (hb hby at_53) rfl k) ?_
  obtain ⟨T13, h13, X13, e13, W13, st13⟩ := stAB X11 hx hZ e11 V12 (i := 5) (by decide) (by decide) (by decide) (g := (mkF m 55 #[.val (.int p0), .val (.int p1), .val (.int p2), .val (.int (v_v p0)), .val (.int (v_o p1)), .val (.int (v_fill p2)), .val (.ref b1), .unset, .unset] [(.int (v_fill p2)), (.int (5 : Int32)), (.ref b1)])) rfl rfl (hb hby at_55)
  have V14 : Ary Z h13 b1 .byte 9 (lst [(.int (nar .byte (v_fill p2))), (.int (nar .byte (v_fill p2))), (.int (nar .byte (v_fill p2))), (.int (nar .byte (v_fill p2))), (.int (nar .byte (v_fill p2))), (.int (nar .byte (v_fill p2))), (.int (0 : Int32)), (.int (0 : Int32)), (.int (0 : Int32))]) := V12.sameL W13 (by simp)
  have K13 : Keep h0 h13 [] := K11.wr W13 (Or.inr sz_b1)
  have N13 := Fr.snoc X13 N11 g_b1
  refine Go.st (mkF m 56 #[.val (.int p0), .val (.int p1), .val (.int p2), .val (.int (v_v p0)), .val (.int (v_o p1)), .val (.int (v_fill p2)), .val (.ref b1), .unset, .unset] []) (fun _ k => st13 _ k) ?_
  refine Go.st (mkF m 58 #[.val (.int p0), .val (.int p1), .val (.int p2), .val (.int (v_v p0)), .val (.int (v_o p1)), .val (.int (v_fill p2)), .val (.ref b1), .unset, .unset] [(.ref b1)]) (fun _ k => XS.aload X13.here hx rfl (hb hby at_56) rfl rfl k) ?_
  refine Go.st (mkF m 60 #[.val (.int p0), .val (.int p1), .val (.int p2), .val (.int (v_v p0)), .val (.int (v_o p1)), .val (.int (v_fill p2)), .val (.ref b1), .unset, .unset] [(.int (6 : Int32)), (.ref b1)]) (fun _ k => XS.bipush X13.here hx rfl (hb hby at_58) k) ?_
  refine Go.st (mkF m 62 #[.val (.int p0), .val (.int p1), .val (.int p2), .val (.int (v_v p0)), .val (.int (v_o p1)), .val (.int (v_fill p2)), .val (.ref b1), .unset, .unset] [(.int (v_fill p2)), (.int (6 : Int32)), (.ref b1)]) (fun _ k => XS.iload X13.here hx rfl (hb hby at_60) rfl k) ?_
  obtain ⟨T15, h15, X15, e15, W15, st15⟩ := stAB X13 hx hZ e13 V14 (i := 6) (by decide) (by decide) (by decide) (g := (mkF m 62 #[.val (.int p0), .val (.int p1), .val (.int p2), .val (.int (v_v p0)), .val (.int (v_o p1)), .val (.int (v_fill p2)), .val (.ref b1), .unset, .unset] [(.int (v_fill p2)), (.int (6 : Int32)), (.ref b1)])) rfl rfl (hb hby at_62)
  have V16 : Ary Z h15 b1 .byte 9 (lst [(.int (nar .byte (v_fill p2))), (.int (nar .byte (v_fill p2))), (.int (nar .byte (v_fill p2))), (.int (nar .byte (v_fill p2))), (.int (nar .byte (v_fill p2))), (.int (nar .byte (v_fill p2))), (.int (nar .byte (v_fill p2))), (.int (0 : Int32)), (.int (0 : Int32))]) := V14.sameL W15 (by simp)
  have K15 : Keep h0 h15 [] := K13.wr W15 (Or.inr sz_b1)
  have N15 := Fr.snoc X15 N13 g_b1
  refine Go.st (mkF m 63 #[.val (.int p0), .val (.int p1), .val (.int p2), .val (.int (v_v p0)), .val (.int (v_o p1)), .val (.int (v_fill p2)), .val (.ref b1), .unset, .unset] []) (fun _ k => st15 _ k) ?_
  refine Go.st (mkF m 65 #[.val (.int p0), .val (.int p1), .val (.int p2), .val (.int (v_v p0)), .val (.int (v_o p1)), .val (.int (v_fill p2)), .val (.ref b1), .unset, .unset] [(.ref b1)]) (fun _ k => XS.aload X15.here hx rfl (hb hby at_63) rfl rfl k) ?_
  refine Go.st (mkF m 67 #[.val (.int p0), .val (.int p1), .val (.int p2), .val (.int (v_v p0)), .val (.int (v_o p1)), .val (.int (v_fill p2)), .val (.ref b1), .unset, .unset] [(.int (7 : Int32)), (.ref b1)]) (fun _ k => XS.bipush X15.here hx rfl (hb hby at_65) k) ?_
  refine Go.st (mkF m 69 #[.val (.int p0), .val (.int p1), .val (.int p2), .val (.int (v_v p0)), .val (.int (v_o p1)), .val (.int (v_fill p2)), .val (.ref b1), .unset, .unset] [(.int (v_fill p2)), (.int (7 : Int32)), (.ref b1)]) (fun _ k => XS.iload X15.here hx rfl (hb hby at_67) rfl k) ?_
  obtain ⟨T17, h17, X17, e17, W17, st17⟩ := stAB X15 hx hZ e15 V16 (i := 7) (by decide) (by decide) (by decide) (g := (mkF m 69 #[.val (.int p0), .val (.int p1), .val (.int p2), .val (.int (v_v p0)), .val (.int (v_o p1)), .val (.int (v_fill p2)), .val (.ref b1), .unset, .unset] [(.int (v_fill p2)), (.int (7 : Int32)), (.ref b1)])) rfl rfl (hb hby at_69)
  have V18 : Ary Z h17 b1 .byte 9 (lst [(.int (nar .byte (v_fill p2))), (.int (nar .byte (v_fill p2))), (.int (nar .byte (v_fill p2))), (.int (nar .byte (v_fill p2))), (.int (nar .byte (v_fill p2))), (.int (nar .byte (v_fill p2))), (.int (nar .byte (v_fill p2))), (.int (nar .byte (v_fill p2))), (.int (0 : Int32))]) := V16.sameL W17 (by simp)
  have K17 : Keep h0 h17 [] := K15.wr W17 (Or.inr sz_b1)
  have N17 := Fr.snoc X17 N15 g_b1
  refine Go.st (mkF m 70 #[.val (.int p0), .val (.int p1), .val (.int p2), .val (.int (v_v p0)), .val (.int (v_o p1)), .val (.int (v_fill p2)), .val (.ref b1), .unset, .unset] []) (fun _ k => st17 _ k) ?_
  refine Go.st (mkF m 72 #[.val (.int p0), .val (.int p1), .val (.int p2), .val (.int (v_v p0)), .val (.int (v_o p1)), .val (.int (v_fill p2)), .val (.ref b1), .unset, .unset] [(.ref b1)]) (fun _ k => XS.aload X17.here hx rfl (hb hby at_70) rfl rfl k) ?_
  refine Go.st (mkF m 74 #[.val (.int p0), .val (.int p1), .val (.int p2), .val (.int (v_v p0)), .val (.int (v_o p1)), .val (.int (v_fill p2)), .val (.ref b1), .unset, .unset] [(.int (8 : Int32)), (.ref b1)]) (fun _ k => XS.bipush X17.here hx rfl (hb hby at_72) k) ?_
  refine Go.st (mkF m 76 #[.val (.int p0), .val (.int p1), .val (.int p2), .val (.int (v_v p0)), .val (.int (v_o p1)), .val (.int (v_fill p2)), .val (.ref b1), .unset, .unset] [(.int (v_fill p2)), (.int (8 : Int32)), (.ref b1)]) (fun _ k => XS.iload X17.here hx rfl (hb hby at_74) rfl k) ?_
  obtain ⟨T19, h19, X19, e19, W19, st19⟩ := stAB X17 hx hZ e17 V18 (i := 8) (by decide) (by decide) (by decide) (g := (mkF m 76 #[.val (.int p0), .val (.int p1), .val (.int p2), .val (.int (v_v p0)), .val (.int (v_o p1)), .val (.int (v_fill p2)), .val (.ref b1), .unset, .unset] [(.int (v_fill p2)), (.int (8 : Int32)), (.ref b1)])) rfl rfl (hb hby at_76)
  have V20 : Ary Z h19 b1 .byte 9 (lst [(.int (nar .byte (v_fill p2))), (.int (nar .byte (v_fill p2))), (.int (nar .byte (v_fill p2))), (.int (nar .byte (v_fill p2))), (.int (nar .byte (v_fill p2))), (.int (nar .byte (v_fill p2))), (.int (nar .byte (v_fill p2))), (.int (nar .byte (v_fill p2))), (.int (nar .byte (v_fill p2)))]) := V18.sameL W19 (by simp)
  have K19 : Keep h0 h19 [] := K17.wr W19 (Or.inr sz_b1)
  have N19 := Fr.snoc X19 N17 g_b1
  refine Go.st (mkF m 77 #[.val (.int p0), .val (.int p1), .val (.int p2), .val (.int (v_v p0)), .val (.int (v_o p1)), .val (.int (v_fill p2)), .val (.ref b1), .unset, .unset] []) (fun _ k => st19 _ k) ?_
  obtain ⟨o, ho, hvo⟩ := own_off p1
  have V21 : Ary Z h19 b1 .byte 9 (bts (fun _ => (nar .byte (v_fill p2)))) := V20.congr fun j hj => lst_rep (n := 9) (d := .int (nar .byte (v_fill p2))) hj
  refine Go.st (mkF m 78 #[.val (.int p0), .val (.int p1), .val (.int p2), .val (.int (v_v p0)), .val (.int (v_o p1)), .val (.int (v_fill p2)), .val (.ref b1), .unset, .unset] [(.int (v_v p0))]) (fun _ k => XS.iloadN X19.here hx rfl (hb hby at_77) rfl k) ?_
  refine Go.st (mkF m 81 #[.val (.int p0), .val (.int p1), .val (.int p2), .val (.int (v_v p0)), .val (.int (v_o p1)), .val (.int (v_fill p2)), .val (.ref b1), .unset, .unset] [(.int (128 : Int32)), (.int (v_v p0))]) (fun _ k => XS.sipush X19.here hx rfl (hb hby at_78) k) ?_
  have J81 : Go p e below s (Q_0 Z p0 p1 p2 h0 n0) 16 128 T19 (mkF m 120 #[.val (.int p0), .val (.int p1), .val (.int p2), .val (.int (v_v p0)), .val (.int (v_o p1)), .val (.int (v_fill p2)), .val (.ref b1), .unset, .unset] [(.int (v_n p0))]) := by
    refine Go.st (mkF m 122 #[.val (.int p0), .val (.int p1), .val (.int p2), .val (.int (v_v p0)), .val (.int (v_o p1)), .val (.int (v_fill p2)), .val (.ref b1), .val (.int (v_n p0)), .unset] []) (fun _ k => XS.istore X19.here hx rfl (hb hby at_120) rfl (l' := #[.val (.int p0), .val (.int p1), .val (.int p2), .val (.int (v_v p0)), .val (.int (v_o p1)), .val (.int (v_fill p2)), .val (.ref b1), .val (.int (v_n p0)), .unset]) rfl k) ?_
    refine Go.st (mkF m 123 #[.val (.int p0), .val (.int p1), .val (.int p2), .val (.int (v_v p0)), .val (.int (v_o p1)), .val (.int (v_fill p2)), .val (.ref b1), .val (.int (v_n p0)), .unset] [(.int (v_v p0))]) (fun _ k => XS.iloadN X19.here hx rfl (hb hby at_122) rfl k) ?_
    refine Go.st (mkF m 125 #[.val (.int p0), .val (.int p1), .val (.int p2), .val (.int (v_v p0)), .val (.int (v_o p1)), .val (.int (v_fill p2)), .val (.ref b1), .val (.int (v_n p0)), .unset] [(.ref b1), (.int (v_v p0))]) (fun _ k => XS.aload X19.here hx rfl (hb hby at_123) rfl rfl k) ?_
    refine Go.st (mkF m 127 #[.val (.int p0), .val (.int p1), .val (.int p2), .val (.int (v_v p0)), .val (.int (v_o p1)), .val (.int (v_fill p2)), .val (.ref b1), .val (.int (v_n p0)), .unset] [(.int (v_o p1)), (.ref b1), (.int (v_v p0))]) (fun _ k => XS.iload X19.here hx rfl (hb hby at_125) rfl k) ?_
    obtain ⟨_, _, ⟨T23, L23, k23, n23⟩, -, X23, ⟨Lc23, hQ23, l23, y23, z23⟩, st23⟩ := Jvm.LawKit.callS X19 hx (y := (⟨"com/example/vocabulary/vocabulary/index/IndexOutput", "encodeVarInt", "(I[BI)I"⟩ : MethodName)) hown (mvT hZ (hw _ (List.mem_of_getElem? (i := 2) rfl))) (mvT hZ (hw _ (List.mem_of_getElem? (i := 3) rfl))) (mvT hZ (hw _ (List.mem_of_getElem? (i := 4) rfl))) (mvT hZ (hw _ (List.mem_of_getElem? (i := 5) rfl))) (by decide) (backOf (W := 0) (rm_1 l Z a0 hw [] (v_v p0) b1 (v_o p1) o (fun _ => (nar .byte (v_fill p2))) h19 n0 (Nat.le_trans Z0 K19.1) V21 g_b1 hvo ho (own_vv p0)) hZ (hw _ (List.mem_of_getElem? (i := 5) rfl)) (hw _ (List.mem_of_getElem? (i := 4) rfl)) (by decide) (by decide)) (g := (mkF m 127 #[.val (.int p0), .val (.int p1), .val (.int p2), .val (.int (v_v p0)), .val (.int (v_o p1)), .val (.int (v_fill p2)), .val (.ref b1), .val (.int (v_n p0)), .unset] [(.int (v_o p1)), (.ref b1), (.int (v_v p0))])) rfl (by rw [hml]; rfl) (argsL := [(.int (v_v p0)), (.ref b1), (.int (v_o p1))]) (rest := []) (lenOf pd_0 rfl) rfl (by show 2 * 0 + _ ≤ _; exact Nat.le_of_eq rfl) (hb hby at_127) (fun _ _ => ⟨rfl, e19, (by decide : 1 + 0 ≤ _), (by decide : 9 + 0 ≤ _)⟩)
    dsimp only [Pt.U, Pt.locs, Pt.cells, Pt.slots] at X23 l23 y23 z23 st23 hQ23
    subst l23 y23 z23
    obtain ⟨rfl, N23q, K23q, V23_0⟩ := hQ23
    have N23 := Fr.app N19 N23q
    have K23 : Keep h0 T23.heap [] := K19.trans K23q (allS (Or.inr sz_b1) all0)
    refine Go.st (mkF m 130 #[.val (.int p0), .val (.int p1), .val (.int p2), .val (.int (v_v p0)), .val (.int (v_o p1)), .val (.int (v_fill p2)), .val (.ref b1), .val (.int (v_n p0)), .unset] [(.int (f_1 (v_v p0) o))]) (fun _ k => st23 _ k) ?_
    refine Go.st (mkF m 132 #[.val (.int p0), .val (.int p1), .val (.int p2), .val (.int (v_v p0)), .val (.int (v_o p1)), .val (.int (v_fill p2)), .val (.ref b1), .val (.int (v_n p0)), .val (.int (f_1 (v_v p0) o))] []) (fun _ k => XS.istore X23.here hx rfl (hb hby at_130) rfl (l' := #[.val (.int p0), .val (.int p1), .val (.int p2), .val (.int (v_v p0)), .val (.int (v_o p1)), .val (.int (v_fill p2)), .val (.ref b1), .val (.int (v_n p0)), .val (.int (f_1 (v_v p0) o))]) rfl k) ?_
    refine Go.st (mkF m 134 #[.val (.int p0), .val (.int p1), .val (.int p2), .val (.int (v_v p0)), .val (.int (v_o p1)), .val (.int (v_fill p2)), .val (.ref b1), .val (.int (v_n p0)), .val (.int (f_1 (v_v p0) o))] [(.int (f_1 (v_v p0) o))]) (fun _ k => XS.iload X23.here hx rfl (hb hby at_132) rfl k) ?_
    refine Go.st (mkF m 136 #[.val (.int p0), .val (.int p1), .val (.int p2), .val (.int (v_v p0)), .val (.int (v_o p1)), .val (.int (v_fill p2)), .val (.ref b1), .val (.int (v_n p0)), .val (.int (f_1 (v_v p0) o))] [(.int (v_n p0)), (.int (f_1 (v_v p0) o))]) (fun _ k => XS.iload X23.here hx rfl (hb hby at_134) rfl k) ?_
    refine Go.st (mkF m 139 #[.val (.int p0), .val (.int p1), .val (.int p2), .val (.int (v_v p0)), .val (.int (v_o p1)), .val (.int (v_fill p2)), .val (.ref b1), .val (.int (v_n p0)), .val (.int (f_1 (v_v p0) o))] []) (fun _ k => XS.icmpNo X23.here hx rfl (hb hby at_136) rfl (teq (own_r p0 o ho)).2 k) ?_
    refine Go.st (mkF m 141 #[.val (.int p0), .val (.int p1), .val (.int p2), .val (.int (v_v p0)), .val (.int (v_o p1)), .val (.int (v_fill p2)), .val (.ref b1), .val (.int (v_n p0)), .val (.int (f_1 (v_v p0) o))] [(.ref b1)]) (fun _ k => XS.aload X23.here hx rfl (hb hby at_139) rfl rfl k) ?_
    refine Go.st (mkF m 142 #[.val (.int p0), .val (.int p1), .val (.int p2), .val (.int (v_v p0)), .val (.int (v_o p1)), .val (.int (v_fill p2)), .val (.ref b1), .val (.int (v_n p0)), .val (.int (f_1 (v_v p0) o))] [(.int (0 : Int32)), (.ref b1)]) (fun _ k => XS.iconst X23.here hx rfl (hb hby at_141) k) ?_
    refine Go.st (mkF m 144 #[.val (.int p0), .val (.int p1), .val (.int p2), .val (.int (v_v p0)), .val (.int (v_o p1)), .val (.int (v_fill p2)), .val (.ref b1), .val (.int (v_n p0)), .val (.int (f_1 (v_v p0) o))] [(.int (v_o p1)), (.int (0 : Int32)), (.ref b1)]) (fun _ k => XS.iload X23.here hx rfl (hb hby at_142) rfl k) ?_
    refine Go.st (mkF m 146 #[.val (.int p0), .val (.int p1), .val (.int p2), .val (.int (v_v p0)), .val (.int (v_o p1)), .val (.int (v_fill p2)), .val (.ref b1), .val (.int (v_n p0)), .val (.int (f_1 (v_v p0) o))] [(.int (v_n p0)), (.int (v_o p1)), (.int (0 : Int32)), (.ref b1)]) (fun _ k => XS.iload X23.here hx rfl (hb hby at_144) rfl k) ?_
    refine Go.st (mkF m 147 #[.val (.int p0), .val (.int p1), .val (.int p2), .val (.int (v_v p0)), .val (.int (v_o p1)), .val (.int (v_fill p2)), .val (.ref b1), .val (.int (v_n p0)), .val (.int (f_1 (v_v p0) o))] [(.int (v_v p0)), (.int (v_n p0)), (.int (v_o p1)), (.int (0 : Int32)), (.ref b1)]) (fun _ k => XS.iloadN X23.here hx rfl (hb hby at_146) rfl k) ?_
    refine Go.st (mkF m 149 #[.val (.int p0), .val (.int p1), .val (.int p2), .val (.int (v_v p0)), .val (.int (v_o p1)), .val (.int (v_fill p2)), .val (.ref b1), .val (.int (v_n p0)), .val (.int (f_1 (v_v p0) o))] [(.int (v_fill p2)), (.int (v_v p0)), (.int (v_n p0)), (.int (v_o p1)), (.int (0 : Int32)), (.ref b1)]) (fun _ k => XS.iload X23.here hx rfl (hb hby at_147) rfl k) ?_
    obtain ⟨_, _, ⟨T24, L24, k24, n24⟩, -, X24, ⟨Lc24, hQ24, l24, y24, z24⟩, st24⟩ := Jvm.LawKit.callS X23 hx (y := (⟨"com/example/vocabulary/vocabulary/index/IndexOutputEncodeVarIntPinLaw", "at", "([BIIIIB)Z"⟩ : MethodName)) hown (mvT hZ (hw _ (List.mem_of_getElem? (i := 6) rfl))) (mvT hZ (hw _ (List.mem_of_getElem? (i := 7) rfl))) (mvT hZ (hw _ (List.mem_of_getElem? (i := 8) rfl))) (mvT hZ (hw _ (List.mem_of_getElem? (i := 9) rfl))) (by decide) (backOf (W := 0) (rm_2 l Z a0 hw [] b1 (0 : Int32) (v_o p1) (v_n p0) (v_v p0) (v_fill p2) 0 (g_1 (v_v p0) o (fun _ => (nar .byte (v_fill p2)))) T23.heap n0 (Nat.le_trans Z0 K23.1) V23_0 (by first | assumption | decide) (by first | assumption | decide) (by first | assumption | decide)) hZ (hw _ (List.mem_of_getElem? (i := 9) rfl)) (hw _ (List.mem_of_getElem? (i := 8) rfl)) (by decide) (by decide)) (g := (mkF m 149 #[.val (.int p0), .val (.int p1), .val (.int p2), .val (.int (v_v p0)), .val (.int (v_o p1)), .val (.int (v_fill p2)), .val (.ref b1), .val (.int (v_n p0)), .val (.int (f_1 (v_v p0) o))] [(.int (v_fill p2)), (.int (v_v p0)), (.int (v_n p0)), (.int (v_o p1)), (.int (0 : Int32)), (.ref b1)])) rfl (by rw [hml]; rfl) (argsL := [(.ref b1), (.int (0 : Int32)), (.int (v_o p1)), (.int (v_n p0)), (.int (v_v p0)), (.int (v_fill p2))]) (rest := []) (lenOf pd_1 rfl) rfl (by show 2 * 0 + _ ≤ _; exact Nat.le_of_eq rfl) (hb hby at_149) (fun _ _ => ⟨rfl, rfl, (by decide : 1 + 0 ≤ _), (by decide : 9 + 0 ≤ _)⟩)
    dsimp only [Pt.U, Pt.locs, Pt.cells, Pt.slots] at X24 l24 y24 z24 st24 hQ24
    subst l24 y24 z24
    obtain ⟨rfl, N24q, e24⟩ := hQ24
    have N24 := Fr.app N23 N24q
    refine Go.st (mkF m 152 #[.val (.int p0), .val (.int p1), .val (.int p2), .val (.int (v_v p0)), .val (.int (v_o p1)), .val (.int (v_fill p2)), .val (.ref b1), .val (.int (v_n p0)), .val (.int (f_1 (v_v p0) o))] [(.int (f_2 (0 : Int32) (v_o p1) (v_n p0) (v_v p0) (v_fill p2) 0 (g_1 (v_v p0) o (fun _ => (nar .byte (v_fill p2))))))]) (fun _ k => st24 _ k) ?_
    refine Go.st (mkF m 155 #[.val (.int p0), .val (.int p1), .val (.int p2), .val (.int (v_v p0)), .val (.int (v_o p1)), .val (.int (v_fill p2)), .val (.ref b1), .val (.int (v_n p0)), .val (.int (f_1 (v_v p0) o))] []) (fun _ k => XS.ifNo X24.here hx rfl (hb hby at_152) rfl ((if0 _ _).trans (feq (own_at p0 p1 p2 o ho hvo 0 (by decide))).1) k) ?_
    refine Go.st (mkF m 157 #[.val (.int p0), .val (.int p1), .val (.int p2), .val (.int (v_v p0)), .val (.int (v_o p1)), .val (.int (v_fill p2)), .val (.ref b1), .val (.int (v_n p0)), .val (.int (f_1 (v_v p0) o))] [(.ref b1)]) (fun _ k => XS.aload X24.here hx rfl (hb hby at_155) rfl rfl k) ?_
    refine Go.st (mkF m 158 #[.val (.int p0), .val (.int p1), .val (.int p2), .val (.int (v_v p0)), .val (.int (v_o p1)), .val (.int (v_fill p2)), .val (.ref b1), .val (.int (v_n p0)), .val (.int (f_1 (v_v p0) o))] [(.int (1 : Int32)), (.ref b1)]) (fun _ k => XS.iconst X24.here hx rfl (hb hby at_157) k) ?_
    refine Go.st (mkF m 160 #[.val (.int p0), .val (.int p1), .val (.int p2), .val (.int (v_v p0)), .val (.int (v_o p1)), .val (.int (v_fill p2)), .val (.ref b1), .val (.int (v_n p0)), .val (.int (f_1 (v_v p0) o))] [(.int (v_o p1)), (.int (1 : Int32)), (.ref b1)]) (fun _ k => XS.iload X24.here hx rfl (hb hby at_158) rfl k) ?_
    refine Go.st (mkF m 162 #[.val (.int p0), .val (.int p1), .val (.int p2), .val (.int (v_v p0)), .val (.int (v_o p1)), .val (.int (v_fill p2)), .val (.ref b1), .val (.int (v_n p0)), .val (.int (f_1 (v_v p0) o))] [(.int (v_n p0)), (.int (v_o p1)), (.int (1 : Int32)), (.ref b1)]) (fun _ k => XS.iload X24.here hx rfl (hb hby at_160) rfl k) ?_
    refine Go.st (mkF m 163 #[.val (.int p0), .val (.int p1), .val (.int p2), .val (.int (v_v p0)), .val (.int (v_o p1)), .val (.int (v_fill p2)), .val (.ref b1), .val (.int (v_n p0)), .val (.int (f_1 (v_v p0) o))] [(.int (v_v p0)), (.int (v_n p0)), (.int (v_o p1)), (.int (1 : Int32)), (.ref b1)]) (fun _ k => XS.iloadN X24.here hx rfl (hb hby at_162) rfl k) ?_
    refine Go.st (mkF m 165 #[.val (.int p0), .val (.int p1), .val (.int p2), .val (.int (v_v p0)), .val (.int (v_o p1)), .val (.int (v_fill p2)), .val (.ref b1), .val (.int (v_n p0)), .val (.int (f_1 (v_v p0) o))] [(.int (v_fill p2)), (.int (v_v p0)), (.int (v_n p0)), (.int (v_o p1)), (.int (1 : Int32)), (.ref b1)]) (fun _ k => XS.iload X24.here hx rfl (hb hby at_163) rfl k) ?_
    obtain ⟨_, _, ⟨T25, L25, k25, n25⟩, -, X25, ⟨Lc25, hQ25, l25, y25, z25⟩, st25⟩ := Jvm.LawKit.callS X24 hx (y := (⟨"com/example/vocabulary/vocabulary/index/IndexOutputEncodeVarIntPinLaw", "at", "([BIIIIB)Z"⟩ : MethodName)) hown (mvT hZ (hw _ (List.mem_of_getElem? (i := 6) rfl))) (mvT hZ (hw _ (List.mem_of_getElem? (i := 7) rfl))) (mvT hZ (hw _ (List.mem_of_getElem? (i := 8) rfl))) (mvT hZ (hw _ (List.mem_of_getElem? (i := 9) rfl))) (by decide) (backOf (W := 0) (rm_2 l Z a0 hw [] b1 (1 : Int32) (v_o p1) (v_n p0) (v_v p0) (v_fill p2) 1 (g_1 (v_v p0) o (fun _ => (nar .byte (v_fill p2)))) T23.heap n0 (Nat.le_trans Z0 K23.1) V23_0 (by first | assumption | decide) (by first | assumption | decide) (by first | assumption | decide)) hZ (hw _ (List.mem_of_getElem? (i := 9) rfl)) (hw _ (List.mem_of_getElem? (i := 8) rfl)) (by decide) (by decide)) (g := (mkF m 165 #[.val (.int p0), .val (.int p1), .val (.int p2), .val (.int (v_v p0)), .val (.int (v_o p1)), .val (.int (v_fill p2)), .val (.ref b1), .val (.int (v_n p0)), .val (.int (f_1 (v_v p0) o))] [(.int (v_fill p2)), (.int (v_v p0)), (.int (v_n p0)), (.int (v_o p1)), (.int (1 : Int32)), (.ref b1)])) rfl (by rw [hml]; rfl) (argsL := [(.ref b1), (.int (1 : Int32)), (.int (v_o p1)), (.int (v_n p0)), (.int (v_v p0)), (.int (v_fill p2))]) (rest := []) (lenOf pd_1 rfl) rfl (by show 2 * 0 + _ ≤ _; exact Nat.le_of_eq rfl) (hb hby at_165) (fun _ _ => ⟨rfl, e24, (by decide : 1 + 0 ≤ _), (by decide : 9 + 0 ≤ _)⟩)
    dsimp only [Pt.U, Pt.locs, Pt.cells, Pt.slots] at X25 l25 y25 z25 st25 hQ25
    subst l25 y25 z25
    obtain ⟨rfl, N25q, e25⟩ := hQ25
    have N25 := Fr.app N24 N25q
    refine Go.st (mkF m 168 #[.val (.int p0), .val (.int p1), .val (.int p2), .val (.int (v_v p0)), .val (.int (v_o p1)), .val (.int (v_fill p2)), .val (.ref b1), .val (.int (v_n p0)), .val (.int (f_1 (v_v p0) o))] [(.int (f_2 (1 : Int32) (v_o p1) (v_n p0) (v_v p0) (v_fill p2) 1 (g_1 (v_v p0) o (fun _ => (nar .byte (v_fill p2))))))]) (fun _ k => st25 _ k) ?_
    refine Go.st (mkF m 171 #[.val (.int p0), .val (.int p1), .val (.int p2), .val (.int (v_v p0)), .val (.int (v_o p1)), .val (.int (v_fill p2)), .val (.ref b1), .val (.int (v_n p0)), .val (.int (f_1 (v_v p0) o))] []) (fun _ k => XS.ifNo X25.here hx rfl (hb hby at_168) rfl ((if0 _ _).trans (feq (own_at p0 p1 p2 o ho hvo 1 (by decide))).1) k) ?_
    refine Go.st (mkF m 173 #[.val (.int p0), .val (.int p1), .val (.int p2), .val (.int (v_v p0)), .val (.int (v_o p1)), .val (.int (v_fill p2)), .val (.ref b1), .val (.int (v_n p0)), .val (.int (f_1 (v_v p0) o))] [(.ref b1)]) (fun _ k => XS.aload X25.here hx rfl (hb hby at_171) rfl rfl k) ?_
    refine Go.st (mkF m 174 #[.val (.int p0), .val (.int p1), .val (.int p2), .val (.int (v_v p0)), .val (.int (v_o p1)), .val (.int (v_fill p2)), .val (.ref b1), .val (.int (v_n p0)), .val (.int (f_1 (v_v p0) o))] [(.int (2 : Int32)), (.ref b1)]) (fun _ k => XS.iconst X25.here hx rfl (hb hby at_173) k) ?_
    refine Go.st (mkF m 176 #[.val (.int p0), .val (.int p1), .val (.int p2), .val (.int (v_v p0)), .val (.int (v_o p1)), .val (.int (v_fill p2)), .val (.ref b1), .val (.int (v_n p0)), .val (.int (f_1 (v_v p0) o))] [(.int (v_o p1)), (.int (2 : Int32)), (.ref b1)]) (fun _ k => XS.iload X25.here hx rfl (hb hby at_174) rfl k) ?_
    refine Go.st (mkF m 178 #[.val (.int p0), .val (.int p1), .val (.int p2), .val (.int (v_v p0)), .val (.int (v_o p1)), .val (.int (v_fill p2)), .val (.ref b1), .val (.int (v_n p0)), .val (.int (f_1 (v_v p0) o))] [(.int (v_n p0)), (.int (v_o p1)), (.int (2 : Int32)), (.ref b1)]) (fun _ k => XS.iload X25.here hx rfl (hb hby at_176) rfl k) ?_
    refine Go.st (mkF m 179 #[.val (.int p0), .val (.int p1), .val (.int p2), .val (.int (v_v p0)), .val (.int (v_o p1)), .val (.int (v_fill p2)), .val (.ref b1), .val (.int (v_n p0)), .val (.int (f_1 (v_v p0) o))] [(.int (v_v p0)), (.int (v_n p0)), (.int (v_o p1)), (.int (2 : Int32)), (.ref b1)]) (fun _ k => XS.iloadN X25.here hx rfl (hb hby at_178) rfl k) ?_
    refine Go.st (mkF m 181 #[.val (.int p0), .val (.int p1), .val (.int p2), .val (.int (v_v p0)), .val (.int (v_o p1)), .val (.int (v_fill p2)), .val (.ref b1), .val (.int (v_n p0)), .val (.int (f_1 (v_v p0) o))] [(.int (v_fill p2)), (.int (v_v p0)), (.int (v_n p0)), (.int (v_o p1)), (.int (2 : Int32)), (.ref b1)]) (fun _ k => XS.iload X25.here hx rfl (hb hby at_179) rfl k) ?_
    obtain ⟨_, _, ⟨T26, L26, k26, n26⟩, -, X26, ⟨Lc26, hQ26, l26, y26, z26⟩, st26⟩ := Jvm.LawKit.callS X25 hx (y := (⟨"com/example/vocabulary/vocabulary/index/IndexOutputEncodeVarIntPinLaw", "at", "([BIIIIB)Z"⟩ : MethodName)) hown (mvT hZ (hw _ (List.mem_of_getElem? (i := 6) rfl))) (mvT hZ (hw _ (List.mem_of_getElem? (i := 7) rfl))) (mvT hZ (hw _ (List.mem_of_getElem? (i := 8) rfl))) (mvT hZ (hw _ (List.mem_of_getElem? (i := 9) rfl))) (by decide) (backOf (W := 0) (rm_2 l Z a0 hw [] b1 (2 : Int32) (v_o p1) (v_n p0) (v_v p0) (v_fill p2) 2 (g_1 (v_v p0) o (fun _ => (nar .byte (v_fill p2)))) T23.heap n0 (Nat.le_trans Z0 K23.1) V23_0 (by first | assumption | decide) (by first | assumption | decide) (by first | assumption | decide)) hZ (hw _ (List.mem_of_getElem? (i := 9) rfl)) (hw _ (List.mem_of_getElem? (i := 8) rfl)) (by decide) (by decide)) (g := (mkF m 181 #[.val (.int p0), .val (.int p1), .val (.int p2), .val (.int (v_v p0)), .val (.int (v_o p1)), .val (.int (v_fill p2)), .val (.ref b1), .val (.int (v_n p0)), .val (.int (f_1 (v_v p0) o))] [(.int (v_fill p2)), (.int (v_v p0)), (.int (v_n p0)), (.int (v_o p1)), (.int (2 : Int32)), (.ref b1)])) rfl (by rw [hml]; rfl) (argsL := [(.ref b1), (.int (2 : Int32)), (.int (v_o p1)), (.int (v_n p0)), (.int (v_v p0)), (.int (v_fill p2))]) (rest := []) (lenOf pd_1 rfl) rfl (by show 2 * 0 + _ ≤ _; exact Nat.le_of_eq rfl) (hb hby at_181) (fun _ _ => ⟨rfl, e25, (by decide : 1 + 0 ≤ _), (by decide : 9 + 0 ≤ _)⟩)
    dsimp only [Pt.U, Pt.locs, Pt.cells, Pt.slots] at X26 l26 y26 z26 st26 hQ26
    subst l26 y26 z26
    obtain ⟨rfl, N26q, e26⟩ := hQ26
    have N26 := Fr.app N25 N26q
    refine Go.st (mkF m 184 #[.val (.int p0), .val (.int p1), .val (.int p2), .val (.int (v_v p0)), .val (.int (v_o p1)), .val (.int (v_fill p2)), .val (.ref b1), .val (.int (v_n p0)), .val (.int (f_1 (v_v p0) o))] [(.int (f_2 (2 : Int32) (v_o p1) (v_n p0) (v_v p0) (v_fill p2) 2 (g_1 (v_v p0) o (fun _ => (nar .byte (v_fill p2))))))]) (fun _ k => st26 _ k) ?_
    refine Go.st (mkF m 187 #[.val (.int p0), .val (.int p1), .val (.int p2), .val (.int (v_v p0)), .val (.int (v_o p1)), .val (.int (v_fill p2)), .val (.ref b1), .val (.int (v_n p0)), .val (.int (f_1 (v_v p0) o))] []) (fun _ k => XS.ifNo X26.here hx rfl (hb hby at_184) rfl ((if0 _ _).trans (feq (own_at p0 p1 p2 o ho hvo 2 (by decide))).1) k) ?_
    refine Go.st (mkF m 189 #[.val (.int p0), .val (.int p1), .val (.int p2), .val (.int (v_v p0)), .val (.int (v_o p1)), .val (.int (v_fill p2)), .val (.ref b1), .val (.int (v_n p0)), .val (.int (f_1 (v_v p0) o))] [(.ref b1)]) (fun _ k => XS.aload X26.here hx rfl (hb hby at_187) rfl rfl k) ?_
    refine Go.st (mkF m 190 #[.val (.int p0), .val (.int p1), .val (.int p2), .val (.int (v_v p0)), .val (.int (v_o p1)), .val (.int (v_fill p2)), .val (.ref b1), .val (.int (v_n p0)), .val (.int (f_1 (v_v p0) o))] [(.int (3 : Int32)), (.ref b1)]) (fun _ k => XS.iconst X26.here hx rfl (hb hby at_189) k) ?_
    refine Go.st (mkF m 192 #[.val (.int p0), .val (.int p1), .val (.int p2), .val (.int (v_v p0)), .val (.int (v_o p1)), .val (.int (v_fill p2)), .val (.ref b1), .val (.int (v_n p0)), .val (.int (f_1 (v_v p0) o))] [(.int (v_o p1)), (.int (3 : Int32)), (.ref b1)]) (fun _ k => XS.iload X26.here hx rfl (hb hby at_190) rfl k) ?_
    refine Go.st (mkF m 194 #[.val (.int p0), .val (.int p1), .val (.int p2), .val (.int (v_v p0)), .val (.int (v_o p1)), .val (.int (v_fill p2)), .val (.ref b1), .val (.int (v_n p0)), .val (.int (f_1 (v_v p0) o))] [(.int (v_n p0)), (.int (v_o p1)), (.int (3 : Int32)), (.ref b1)]) (fun _ k => XS.iload X26.here hx rfl (hb hby at_192) rfl k) ?_
    refine Go.st (mkF m 195 #[.val (.int p0), .val (.int p1), .val (.int p2), .val (.int (v_v p0)), .val (.int (v_o p1)), .val (.int (v_fill p2)), .val (.ref b1), .val (.int (v_n p0)), .val (.int (f_1 (v_v p0) o))] [(.int (v_v p0)), (.int (v_n p0)), (.int (v_o p1)), (.int (3 : Int32)), (.ref b1)]) (fun _ k => XS.iloadN X26.here hx rfl (hb hby at_194) rfl k) ?_
    refine Go.st (mkF m 197 #[.val (.int p0), .val (.int p1), .val (.int p2), .val (.int (v_v p0)), .val (.int (v_o p1)), .val (.int (v_fill p2)), .val (.ref b1), .val (.int (v_n p0)), .val (.int (f_1 (v_v p0) o))] [(.int (v_fill p2)), (.int (v_v p0)), (.int (v_n p0)), (.int (v_o p1)), (.int (3 : Int32)), (.ref b1)]) (fun _ k => XS.iload X26.here hx rfl (hb hby at_195) rfl k) ?_
    obtain ⟨_, _, ⟨T27, L27, k27, n27⟩, -, X27, ⟨Lc27, hQ27, l27, y27, z27⟩, st27⟩ := Jvm.LawKit.callS X26 hx (y := (⟨"com/example/vocabulary/vocabulary/index/IndexOutputEncodeVarIntPinLaw", "at", "([BIIIIB)Z"⟩ : MethodName)) hown (mvT hZ (hw _ (List.mem_of_getElem? (i := 6) rfl))) (mvT hZ (hw _ (List.mem_of_getElem? (i := 7) rfl))) (mvT hZ (hw _ (List.mem_of_getElem? (i := 8) rfl))) (mvT hZ (hw _ (List.mem_of_getElem? (i := 9) rfl))) (by decide) (backOf (W := 0) (rm_2 l Z a0 hw [] b1 (3 : Int32) (v_o p1) (v_n p0) (v_v p0) (v_fill p2) 3 (g_1 (v_v p0) o (fun _ => (nar .byte (v_fill p2)))) T23.heap n0 (Nat.le_trans Z0 K23.1) V23_0 (by first | assumption | decide) (by first | assumption | decide) (by first | assumption | decide)) hZ (hw _ (List.mem_of_getElem? (i := 9) rfl)) (hw _ (List.mem_of_getElem? (i := 8) rfl)) (by decide) (by decide)) (g := (mkF m 197 #[.val (.int p0), .val (.int p1), .val (.int p2), .val (.int (v_v p0)), .val (.int (v_o p1)), .val (.int (v_fill p2)), .val (.ref b1), .val (.int (v_n p0)), .val (.int (f_1 (v_v p0) o))] [(.int (v_fill p2)), (.int (v_v p0)), (.int (v_n p0)), (.int (v_o p1)), (.int (3 : Int32)), (.ref b1)])) rfl (by rw [hml]; rfl) (argsL := [(.ref b1), (.int (3 : Int32)), (.int (v_o p1)), (.int (v_n p0)), (.int (v_v p0)), (.int (v_fill p2))]) (rest := []) (lenOf pd_1 rfl) rfl (by show 2 * 0 + _ ≤ _; exact Nat.le_of_eq rfl) (hb hby at_197) (fun _ _ => ⟨rfl, e26, (by decide : 1 + 0 ≤ _), (by decide : 9 + 0 ≤ _)⟩)
    dsimp only [Pt.U, Pt.locs, Pt.cells, Pt.slots] at X27 l27 y27 z27 st27 hQ27
    subst l27 y27 z27
    obtain ⟨rfl, N27q, e27⟩ := hQ27
    have N27 := Fr.app N26 N27q
    refine Go.st (mkF m 200 #[.val (.int p0), .val (.int p1), .val (.int p2), .val (.int (v_v p0)), .val (.int (v_o p1)), .val (.int (v_fill p2)), .val (.ref b1), .val (.int (v_n p0)), .val (.int (f_1 (v_v p0) o))] [(.int (f_2 (3 : Int32) (v_o p1) (v_n p0) (v_v p0) (v_fill p2) 3 (g_1 (v_v p0) o (fun _ => (nar .byte (v_fill p2))))))]) (fun _ k => st27 _ k) ?_
    refine Go.st (mkF m 203 #[.val (.int p0), .val (.int p1), .val (.int p2), .val (.int (v_v p0)), .val (.int (v_o p1)), .val (.int (v_fill p2)), .val (.ref b1), .val (.int (v_n p0)), .val (.int (f_1 (v_v p0) o))] []) (fun _ k => XS.ifNo X27.here hx rfl (hb hby at_200) rfl ((if0 _ _).trans (feq (own_at p0 p1 p2 o ho hvo 3 (by decide))).1) k) ?_
    refine Go.st (mkF m 205 #[.val (.int p0), .val (.int p1), .val (.int p2), .val (.int (v_v p0)), .val (.int (v_o p1)), .val (.int (v_fill p2)), .val (.ref b1), .val (.int (v_n p0)), .val (.int (f_1 (v_v p0) o))] [(.ref b1)]) (fun _ k => XS.aload X27.here hx rfl (hb hby at_203) rfl rfl k) ?_
    refine Go.st (mkF m 206 #[.val (.int p0), .val (.int p1), .val (.int p2), .val (.int (v_v p0)), .val (.int (v_o p1)), .val (.int (v_fill p2)), .val (.ref b1), .val (.int (v_n p0)), .val (.int (f_1 (v_v p0) o))] [(.int (4 : Int32)), (.ref b1)]) (fun _ k => XS.iconst X27.here hx rfl (hb hby at_205) k) ?_
    refine Go.st (mkF m 208 #[.val (.int p0), .val (.int p1), .val (.int p2), .val (.int (v_v p0)), .val (.int (v_o p1)), .val (.int (v_fill p2)), .val (.ref b1), .val (.int (v_n p0)), .val (.int (f_1 (v_v p0) o))] [(.int (v_o p1)), (.int (4 : Int32)), (.ref b1)]) (fun _ k => XS.iload X27.here hx rfl (hb hby at_206) rfl k) ?_
    refine Go.st (mkF m 210 #[.val (.int p0), .val (.int p1), .val (.int p2), .val (.int (v_v p0)), .val (.int (v_o p1)), .val (.int (v_fill p2)), .val (.ref b1), .val (.int (v_n p0)), .val (.int (f_1 (v_v p0) o))] [(.int (v_n p0)), (.int (v_o p1)), (.int (4 : Int32)), (.ref b1)]) (fun _ k => XS.iload X27.here hx rfl (hb hby at_208) rfl k) ?_
    refine Go.st (mkF m 211 #[.val (.int p0), .val (.int p1), .val (.int p2), .val (.int (v_v p0)), .val (.int (v_o p1)), .val (.int (v_fill p2)), .val (.ref b1), .val (.int (v_n p0)), .val (.int (f_1 (v_v p0) o))] [(.int (v_v p0)), (.int (v_n p0)), (.int (v_o p1)), (.int (4 : Int32)), (.ref b1)]) (fun _ k => XS.iloadN X27.here hx rfl (hb hby at_210) rfl k) ?_
    refine Go.st (mkF m 213 #[.val (.int p0), .val (.int p1), .val (.int p2), .val (.int (v_v p0)), .val (.int (v_o p1)), .val (.int (v_fill p2)), .val (.ref b1), .val (.int (v_n p0)), .val (.int (f_1 (v_v p0) o))] [(.int (v_fill p2)), (.int (v_v p0)), (.int (v_n p0)), (.int (v_o p1)), (.int (4 : Int32)), (.ref b1)]) (fun _ k => XS.iload X27.here hx rfl (hb hby at_211) rfl k) ?_
    obtain ⟨_, _, ⟨T28, L28, k28, n28⟩, -, X28, ⟨Lc28, hQ28, l28, y28, z28⟩, st28⟩ := Jvm.LawKit.callS X27 hx (y := (⟨"com/example/vocabulary/vocabulary/index/IndexOutputEncodeVarIntPinLaw", "at", "([BIIIIB)Z"⟩ : MethodName)) hown (mvT hZ (hw _ (List.mem_of_getElem? (i := 6) rfl))) (mvT hZ (hw _ (List.mem_of_getElem? (i := 7) rfl))) (mvT hZ (hw _ (List.mem_of_getElem? (i := 8) rfl))) (mvT hZ (hw _ (List.mem_of_getElem? (i := 9) rfl))) (by decide) (backOf (W := 0) (rm_2 l Z a0 hw [] b1 (4 : Int32) (v_o p1) (v_n p0) (v_v p0) (v_fill p2) 4 (g_1 (v_v p0) o (fun _ => (nar .byte (v_fill p2)))) T23.heap n0 (Nat.le_trans Z0 K23.1) V23_0 (by first | assumption | decide) (by first | assumption | decide) (by first | assumption | decide)) hZ (hw _ (List.mem_of_getElem? (i := 9) rfl)) (hw _ (List.mem_of_getElem? (i := 8) rfl)) (by decide) (by decide)) (g := (mkF m 213 #[.val (.int p0), .val (.int p1), .val (.int p2), .val (.int (v_v p0)), .val (.int (v_o p1)), .val (.int (v_fill p2)), .val (.ref b1), .val (.int (v_n p0)), .val (.int (f_1 (v_v p0) o))] [(.int (v_fill p2)), (.int (v_v p0)), (.int (v_n p0)), (.int (v_o p1)), (.int (4 : Int32)), (.ref b1)])) rfl (by rw [hml]; rfl) (argsL := [(.ref b1), (.int (4 : Int32)), (.int (v_o p1)), (.int (v_n p0)), (.int (v_v p0)), (.int (v_fill p2))]) (rest := []) (lenOf pd_1 rfl) rfl (by show 2 * 0 + _ ≤ _; exact Nat.le_of_eq rfl) (hb hby at_213) (fun _ _ => ⟨rfl, e27, (by decide : 1 + 0 ≤ _), (by decide : 9 + 0 ≤ _)⟩)
    dsimp only [Pt.U, Pt.locs, Pt.cells, Pt.slots] at X28 l28 y28 z28 st28 hQ28
    subst l28 y28 z28
    obtain ⟨rfl, N28q, e28⟩ := hQ28
    have N28 := Fr.app N27 N28q
    refine Go.st (mkF m 216 #[.val (.int p0), .val (.int p1), .val (.int p2), .val (.int (v_v p0)), .val (.int (v_o p1)), .val (.int (v_fill p2)), .val (.ref b1), .val (.int (v_n p0)), .val (.int (f_1 (v_v p0) o))] [(.int (f_2 (4 : Int32) (v_o p1) (v_n p0) (v_v p0) (v_fill p2) 4 (g_1 (v_v p0) o (fun _ => (nar .byte (v_fill p2))))))]) (fun _ k => st28 _ k) ?_
    refine Go.st (mkF m 219 #[.val (.int p0), .val (.int p1), .val (.int p2), .val (.int (v_v p0)), .val (.int (v_o p1)), .val (.int (v_fill p2)), .val (.ref b1), .val (.int (v_n p0)), .val (.int (f_1 (v_v p0) o))] []) (fun _ k => XS.ifNo X28.here hx rfl (hb hby at_216) rfl ((if0 _ _).trans (feq (own_at p0 p1 p2 o ho hvo 4 (by decide))).1) k) ?_
    refine Go.st (mkF m 221 #[.val (.int p0), .val (.int p1), .val (.int p2), .val (.int (v_v p0)), .val (.int (v_o p1)), .val (.int (v_fill p2)), .val (.ref b1), .val (.int (v_n p0)), .val (.int (f_1 (v_v p0) o))] [(.ref b1)]) (fun _ k => XS.aload X28.here hx rfl (hb hby at_219) rfl rfl k) ?_
    refine Go.st (mkF m 222 #[.val (.int p0), .val (.int p1), .val (.int p2), .val (.int (v_v p0)), .val (.int (v_o p1)), .val (.int (v_fill p2)), .val (.ref b1), .val (.int (v_n p0)), .val (.int (f_1 (v_v p0) o))] [(.int (5 : Int32)), (.ref b1)]) (fun _ k => XS.iconst X28.here hx rfl (hb hby at_221) k) ?_
    refine Go.st (mkF m 224 #[.val (.int p0), .val (.int p1), .val (.int p2), .val (.int (v_v p0)), .val (.int (v_o p1)), .val (.int (v_fill p2)), .val (.ref b1), .val (.int (v_n p0)), .val (.int (f_1 (v_v p0) o))] [(.int (v_o p1)), (.int (5 : Int32)), (.ref b1)]) (fun _ k => XS.iload X28.here hx rfl (hb hby at_222) rfl k) ?_
    refine Go.st (mkF m 226 #[.val (.int p0), .val (.int p1), .val (.int p2), .val (.int (v_v p0)), .val (.int (v_o p1)), .val (.int (v_fill p2)), .val (.ref b1), .val (.int (v_n p0)), .val (.int (f_1 (v_v p0) o))] [(.int (v_n p0)), (.int (v_o p1)), (.int (5 : Int32)), (.ref b1)]) (fun _ k => XS.iload X28.here hx rfl (hb hby at_224) rfl k) ?_
    refine Go.st (mkF m 227 #[.val (.int p0), .val (.int p1), .val (.int p2), .val (.int (v_v p0)), .val (.int (v_o p1)), .val (.int (v_fill p2)), .val (.ref b1), .val (.int (v_n p0)), .val (.int (f_1 (v_v p0) o))] [(.int (v_v p0)), (.int (v_n p0)), (.int (v_o p1)), (.int (5 : Int32)), (.ref b1)]) (fun _ k => XS.iloadN X28.here hx rfl (hb hby at_226) rfl k) ?_
    refine Go.st (mkF m 229 #[.val (.int p0), .val (.int p1), .val (.int p2), .val (.int (v_v p0)), .val (.int (v_o p1)), .val (.int (v_fill p2)), .val (.ref b1), .val (.int (v_n p0)), .val (.int (f_1 (v_v p0) o))] [(.int (v_fill p2)), (.int (v_v p0)), (.int (v_n p0)), (.int (v_o p1)), (.int (5 : Int32)), (.ref b1)]) (fun _ k => XS.iload X28.here hx rfl (hb hby at_227) rfl k) ?_
    obtain ⟨_, _, ⟨T29, L29, k29, n29⟩, -, X29, ⟨Lc29, hQ29, l29, y29, z29⟩, st29⟩ := Jvm.LawKit.callS X28 hx (y := (⟨"com/example/vocabulary/vocabulary/index/IndexOutputEncodeVarIntPinLaw", "at", "([BIIIIB)Z"⟩ : MethodName)) hown (mvT hZ (hw _ (List.mem_of_getElem? (i := 6) rfl))) (mvT hZ (hw _ (List.mem_of_getElem? (i := 7) rfl))) (mvT hZ (hw _ (List.mem_of_getElem? (i := 8) rfl))) (mvT hZ (hw _ (List.mem_of_getElem? (i := 9) rfl))) (by decide) (backOf (W := 0) (rm_2 l Z a0 hw [] b1 (5 : Int32) (v_o p1) (v_n p0) (v_v p0) (v_fill p2) 5 (g_1 (v_v p0) o (fun _ => (nar .byte (v_fill p2)))) T23.heap n0 (Nat.le_trans Z0 K23.1) V23_0 (by first | assumption | decide) (by first | assumption | decide) (by first | assumption | decide)) hZ (hw _ (List.mem_of_getElem? (i := 9) rfl)) (hw _ (List.mem_of_getElem? (i := 8) rfl)) (by decide) (by decide)) (g := (mkF m 229 #[.val (.int p0), .val (.int p1), .val (.int p2), .val (.int (v_v p0)), .val (.int (v_o p1)), .val (.int (v_fill p2)), .val (.ref b1), .val (.int (v_n p0)), .val (.int (f_1 (v_v p0) o))] [(.int (v_fill p2)), (.int (v_v p0)), (.int (v_n p0)), (.int (v_o p1)), (.int (5 : Int32)), (.ref b1)])) rfl (by rw [hml]; rfl) (argsL := [(.ref b1), (.int (5 : Int32)), (.int (v_o p1)), (.int (v_n p0)), (.int (v_v p0)), (.int (v_fill p2))]) (rest := []) (lenOf pd_1 rfl) rfl (by show 2 * 0 + _ ≤ _; exact Nat.le_of_eq rfl) (hb hby at_229) (fun _ _ => ⟨rfl, e28, (by decide : 1 + 0 ≤ _), (by decide : 9 + 0 ≤ _)⟩)
    dsimp only [Pt.U, Pt.locs, Pt.cells, Pt.slots] at X29 l29 y29 z29 st29 hQ29
    subst l29 y29 z29
    obtain ⟨rfl, N29q, e29⟩ := hQ29
    have N29 := Fr.app N28 N29q
    refine Go.st (mkF m 232 #[.val (.int p0), .val (.int p1), .val (.int p2), .val (.int (v_v p0)), .val (.int (v_o p1)), .val (.int (v_fill p2)), .val (.ref b1), .val (.int (v_n p0)), .val (.int (f_1 (v_v p0) o))] [(.int (f_2 (5 : Int32) (v_o p1) (v_n p0) (v_v p0) (v_fill p2) 5 (g_1 (v_v p0) o (fun _ => (nar .byte (v_fill p2))))))]) (fun _ k => st29 _ k) ?_
    refine Go.st (mkF m 235 #[.val (.int p0), .val (.int p1), .val (.int p2), .val (.int (v_v p0)), .val (.int (v_o p1)), .val (.int (v_fill p2)), .val (.ref b1), .val (.int (v_n p0)), .val (.int (f_1 (v_v p0) o))] []) (fun _ k => XS.ifNo X29.here hx rfl (hb hby at_232) rfl ((if0 _ _).trans (feq (own_at p0 p1 p2 o ho hvo 5 (by decide))).1) k) ?_
    refine Go.st (mkF m 237 #[.val (.int p0), .val (.int p1), .val (.int p2), .val (.int (v_v p0)), .val (.int (v_o p1)), .val (.int (v_fill p2)), .val (.ref b1), .val (.int (v_n p0)), .val (.int (f_1 (v_v p0) o))] [(.ref b1)]) (fun _ k => XS.aload X29.here hx rfl (hb hby at_235) rfl rfl k) ?_
    refine Go.st (mkF m 239 #[.val (.int p0), .val (.int p1), .val (.int p2), .val (.int (v_v p0)), .val (.int (v_o p1)), .val (.int (v_fill p2)), .val (.ref b1), .val (.int (v_n p0)), .val (.int (f_1 (v_v p0) o))] [(.int (6 : Int32)), (.ref b1)]) (fun _ k => XS.bipush X29.here hx rfl (hb hby at_237) k) ?_
    refine Go.st (mkF m 241 #[.val (.int p0), .val (.int p1), .val (.int p2), .val (.int (v_v p0)), .val (.int (v_o p1)), .val (.int (v_fill p2)), .val (.ref b1), .val (.int (v_n p0)), .val (.int (f_1 (v_v p0) o))] [(.int (v_o p1)), (.int (6 : Int32)), (.ref b1)]) (fun _ k => XS.iload X29.here hx rfl (hb hby at_239) rfl k) ?_
    refine Go.st (mkF m 243 #[.val (.int p0), .val (.int p1), .val (.int p2), .val (.int (v_v p0)), .val (.int (v_o p1)), .val (.int (v_fill p2)), .val (.ref b1), .val (.int (v_n p0)), .val (.int (f_1 (v_v p0) o))] [(.int (v_n p0)), (.int (v_o p1)), (.int (6 : Int32)), (.ref b1)]) (fun _ k => XS.iload X29.here hx rfl (hb hby at_241) rfl k) ?_
    refine Go.st (mkF m 244 #[.val (.int p0), .val (.int p1), .val (.int p2), .val (.int (v_v p0)), .val (.int (v_o p1)), .val (.int (v_fill p2)), .val (.ref b1), .val (.int (v_n p0)), .val (.int (f_1 (v_v p0) o))] [(.int (v_v p0)), (.int (v_n p0)), (.int (v_o p1)), (.int (6 : Int32)), (.ref b1)]) (fun _ k => XS.iloadN X29.here hx rfl (hb hby at_243) rfl k) ?_
    refine Go.st (mkF m 246 #[.val (.int p0), .val (.int p1), .val (.int p2), .val (.int (v_v p0)), .val (.int (v_o p1)), .val (.int (v_fill p2)), .val (.ref b1), .val (.int (v_n p0)), .val (.int (f_1 (v_v p0) o))] [(.int (v_fill p2)), (.int (v_v p0)), (.int (v_n p0)), (.int (v_o p1)), (.int (6 : Int32)), (.ref b1)]) (fun _ k => XS.iload X29.here hx rfl (hb hby at_244) rfl k) ?_
    obtain ⟨_, _, ⟨T30, L30, k30, n30⟩, -, X30, ⟨Lc30, hQ30, l30, y30, z30⟩, st30⟩ := Jvm.LawKit.callS X29 hx (y := (⟨"com/example/vocabulary/vocabulary/index/IndexOutputEncodeVarIntPinLaw", "at", "([BIIIIB)Z"⟩ : MethodName)) hown (mvT hZ (hw _ (List.mem_of_getElem? (i := 6) rfl))) (mvT hZ (hw _ (List.mem_of_getElem? (i := 7) rfl))) (mvT hZ (hw _ (List.mem_of_getElem? (i := 8) rfl))) (mvT hZ (hw _ (List.mem_of_getElem? (i := 9) rfl))) (by decide) (backOf (W := 0) (rm_2 l Z a0 hw [] b1 (6 : Int32) (v_o p1) (v_n p0) (v_v p0) (v_fill p2) 6 (g_1 (v_v p0) o (fun _ => (nar .byte (v_fill p2)))) T23.heap n0 (Nat.le_trans Z0 K23.1) V23_0 (by first | assumption | decide) (by first | assumption | decide) (by first | assumption | decide)) hZ (hw _ (List.mem_of_getElem? (i := 9) rfl)) (hw _ (List.mem_of_getElem? (i := 8) rfl)) (by decide) (by decide)) (g := (mkF m 246 #[.val (.int p0), .val (.int p1), .val (.int p2), .val (.int (v_v p0)), .val (.int (v_o p1)), .val (.int (v_fill p2)), .val (.ref b1), .val (.int (v_n p0)), .val (.int (f_1 (v_v p0) o))] [(.int (v_fill p2)), (.int (v_v p0)), (.int (v_n p0)), (.int (v_o p1)), (.int (6 : Int32)), (.ref b1)])) rfl (by rw [hml]; rfl) (argsL := [(.ref b1), (.int (6 : Int32)), (.int (v_o p1)), (.int (v_n p0)), (.int (v_v p0)), (.int (v_fill p2))]) (rest := []) (lenOf pd_1 rfl) rfl (by show 2 * 0 + _ ≤ _; exact Nat.le_of_eq rfl) (hb hby at_246) (fun _ _ => ⟨rfl, e29, (by decide : 1 + 0 ≤ _), (by decide : 9 + 0 ≤ _)⟩)
    dsimp only [Pt.U, Pt.locs, Pt.cells, Pt.slots] at X30 l30 y30 z30 st30 hQ30
    subst l30 y30 z30
    obtain ⟨rfl, N30q, e30⟩ := hQ30
    have N30 := Fr.app N29 N30q
    refine Go.st (mkF m 249 #[.val (.int p0), .val (.int p1), .val (.int p2), .val (.int (v_v p0)), .val (.int (v_o p1)), .val (.int (v_fill p2)), .val (.ref b1), .val (.int (v_n p0)), .val (.int (f_1 (v_v p0) o))] [(.int (f_2 (6 : Int32) (v_o p1) (v_n p0) (v_v p0) (v_fill p2) 6 (g_1 (v_v p0) o (fun _ => (nar .byte (v_fill p2))))))]) (fun _ k => st30 _ k) ?_
    refine Go.st (mkF m 252 #[.val (.int p0), .val (.int p1), .val (.int p2), .val (.int (v_v p0)), .val (.int (v_o p1)), .val (.int (v_fill p2)), .val (.ref b1), .val (.int (v_n p0)), .val (.int (f_1 (v_v p0) o))] []) (fun _ k => XS.ifNo X30.here hx rfl (hb hby at_249) rfl ((if0 _ _).trans (feq (own_at p0 p1 p2 o ho hvo 6 (by decide))).1) k) ?_
    refine Go.st (mkF m 254 #[.val (.int p0), .val (.int p1), .val (.int p2), .val (.int (v_v p0)), .val (.int (v_o p1)), .val (.int (v_fill p2)), .val (.ref b1), .val (.int (v_n p0)), .val (.int (f_1 (v_v p0) o))] [(.ref b1)]) (fun _ k => XS.aload X30.here hx rfl (hb hby at_252) rfl rfl k) ?_
    refine Go.st (mkF m 256 #[.val (.int p0), .val (.int p1), .val (.int p2), .val (.int (v_v p0)), .val (.int (v_o p1)), .val (.int (v_fill p2)), .val (.ref b1), .val (.int (v_n p0)), .val (.int (f_1 (v_v p0) o))] [(.int (7 : Int32)), (.ref b1)]) (fun _ k => XS.bipush X30.here hx rfl (hb hby at_254) k) ?_
    refine Go.st (mkF m 258 #[.val (.int p0), .val (.int p1), .val (.int p2), .val (.int (v_v p0)), .val (.int (v_o p1)), .val (.int (v_fill p2)), .val (.ref b1), .val (.int (v_n p0)), .val (.int (f_1 (v_v p0) o))] [(.int (v_o p1)), (.int (7 : Int32)), (.ref b1)]) (fun _ k => XS.iload X30.here hx rfl (hb hby at_256) rfl k) ?_
    refine Go.st (mkF m 260 #[.val (.int p0), .val (.int p1), .val (.int p2), .val (.int (v_v p0)), .val (.int (v_o p1)), .val (.int (v_fill p2)), .val (.ref b1), .val (.int (v_n p0)), .val (.int (f_1 (v_v p0) o))] [(.int (v_n p0)), (.int (v_o p1)), (.int (7 : Int32)), (.ref b1)]) (fun _ k => XS.iload X30.here hx rfl (hb hby at_258) rfl k) ?_
    refine Go.st (mkF m 261 #[.val (.int p0), .val (.int p1), .val (.int p2), .val (.int (v_v p0)), .val (.int (v_o p1)), .val (.int (v_fill p2)), .val (.ref b1), .val (.int (v_n p0)), .val (.int (f_1 (v_v p0) o))] [(.int (v_v p0)), (.int (v_n p0)), (.int (v_o p1)), (.int (7 : Int32)), (.ref b1)]) (fun _ k => XS.iloadN X30.here hx rfl (hb hby at_260) rfl k) ?_
    refine Go.st (mkF m 263 #[.val (.int p0), .val (.int p1), .val (.int p2), .val (.int (v_v p0)), .val (.int (v_o p1)), .val (.int (v_fill p2)), .val (.ref b1), .val (.int (v_n p0)), .val (.int (f_1 (v_v p0) o))] [(.int (v_fill p2)), (.int (v_v p0)), (.int (v_n p0)), (.int (v_o p1)), (.int (7 : Int32)), (.ref b1)]) (fun _ k => XS.iload X30.here hx rfl (hb hby at_261) rfl k) ?_
    obtain ⟨_, _, ⟨T31, L31, k31, n31⟩, -, X31, ⟨Lc31, hQ31, l31, y31, z31⟩, st31⟩ := Jvm.LawKit.callS X30 hx (y := (⟨"com/example/vocabulary/vocabulary/index/IndexOutputEncodeVarIntPinLaw", "at", "([BIIIIB)Z"⟩ : MethodName)) hown (mvT hZ (hw _ (List.mem_of_getElem? (i := 6) rfl))) (mvT hZ (hw _ (List.mem_of_getElem? (i := 7) rfl))) (mvT hZ (hw _ (List.mem_of_getElem? (i := 8) rfl))) (mvT hZ (hw _ (List.mem_of_getElem? (i := 9) rfl))) (by decide) (backOf (W := 0) (rm_2 l Z a0 hw [] b1 (7 : Int32) (v_o p1) (v_n p0) (v_v p0) (v_fill p2) 7 (g_1 (v_v p0) o (fun _ => (nar .byte (v_fill p2)))) T23.heap n0 (Nat.le_trans Z0 K23.1) V23_0 (by first | assumption | decide) (by first | assumption | decide) (by first | assumption | decide)) hZ (hw _ (List.mem_of_getElem? (i := 9) rfl)) (hw _ (List.mem_of_getElem? (i := 8) rfl)) (by decide) (by decide)) (g := (mkF m 263 #[.val (.int p0), .val (.int p1), .val (.int p2), .val (.int (v_v p0)), .val (.int (v_o p1)), .val (.int (v_fill p2)), .val (.ref b1), .val (.int (v_n p0)), .val (.int (f_1 (v_v p0) o))] [(.int (v_fill p2)), (.int (v_v p0)), (.int (v_n p0)), (.int (v_o p1)), (.int (7 : Int32)), (.ref b1)])) rfl (by rw [hml]; rfl) (argsL := [(.ref b1), (.int (7 : Int32)), (.int (v_o p1)), (.int (v_n p0)), (.int (v_v p0)), (.int (v_fill p2))]) (rest := []) (lenOf pd_1 rfl) rfl (by show 2 * 0 + _ ≤ _; exact Nat.le_of_eq rfl) (hb hby at_263) (fun _ _ => ⟨rfl, e30, (by decide : 1 + 0 ≤ _), (by decide : 9 + 0 ≤ _)⟩)
    dsimp only [Pt.U, Pt.locs, Pt.cells, Pt.slots] at X31 l31 y31 z31 st31 hQ31
    subst l31 y31 z31
    obtain ⟨rfl, N31q, e31⟩ := hQ31
    have N31 := Fr.app N30 N31q
    refine Go.st (mkF m 266 #[.val (.int p0), .val (.int p1), .val (.int p2), .val (.int (v_v p0)), .val (.int (v_o p1)), .val (.int (v_fill p2)), .val (.ref b1), .val (.int (v_n p0)), .val (.int (f_1 (v_v p0) o))] [(.int (f_2 (7 : Int32) (v_o p1) (v_n p0) (v_v p0) (v_fill p2) 7 (g_1 (v_v p0) o (fun _ => (nar .byte (v_fill p2))))))]) (fun _ k => st31 _ k) ?_
    refine Go.st (mkF m 269 #[.val (.int p0), .val (.int p1), .val (.int p2), .val (.int (v_v p0)), .val (.int (v_o p1)), .val (.int (v_fill p2)), .val (.ref b1), .val (.int (v_n p0)), .val (.int (f_1 (v_v p0) o))] []) (fun _ k => XS.ifNo X31.here hx rfl (hb hby at_266) rfl ((if0 _ _).trans (feq (own_at p0 p1 p2 o ho hvo 7 (by decide))).1) k) ?_
    refine Go.st (mkF m 271 #[.val (.int p0), .val (.int p1), .val (.int p2), .val (.int (v_v p0)), .val (.int (v_o p1)), .val (.int (v_fill p2)), .val (.ref b1), .val (.int (v_n p0)), .val (.int (f_1 (v_v p0) o))] [(.ref b1)]) (fun _ k => XS.aload X31.here hx rfl (hb hby at_269) rfl rfl k) ?_
    refine Go.st (mkF m 273 #[.val (.int p0), .val (.int p1), .val (.int p2), .val (.int (v_v p0)), .val (.int (v_o p1)), .val (.int (v_fill p2)), .val (.ref b1), .val (.int (v_n p0)), .val (.int (f_1 (v_v p0) o))] [(.int (8 : Int32)), (.ref b1)]) (fun _ k => XS.bipush X31.here hx rfl (hb hby at_271) k) ?_
    refine Go.st (mkF m 275 #[.val (.int p0), .val (.int p1), .val (.int p2), .val (.int (v_v p0)), .val (.int (v_o p1)), .val (.int (v_fill p2)), .val (.ref b1), .val (.int (v_n p0)), .val (.int (f_1 (v_v p0) o))] [(.int (v_o p1)), (.int (8 : Int32)), (.ref b1)]) (fun _ k => XS.iload X31.here hx rfl (hb hby at_273) rfl k) ?_
    refine Go.st (mkF m 277 #[.val (.int p0), .val (.int p1), .val (.int p2), .val (.int (v_v p0)), .val (.int (v_o p1)), .val (.int (v_fill p2)), .val (.ref b1), .val (.int (v_n p0)), .val (.int (f_1 (v_v p0) o))] [(.int (v_n p0)), (.int (v_o p1)), (.int (8 : Int32)), (.ref b1)]) (fun _ k => XS.iload X31.here hx rfl (hb hby at_275) rfl k) ?_
    refine Go.st (mkF m 278 #[.val (.int p0), .val (.int p1), .val (.int p2), .val (.int (v_v p0)), .val (.int (v_o p1)), .val (.int (v_fill p2)), .val (.ref b1), .val (.int (v_n p0)), .val (.int (f_1 (v_v p0) o))] [(.int (v_v p0)), (.int (v_n p0)), (.int (v_o p1)), (.int (8 : Int32)), (.ref b1)]) (fun _ k => XS.iloadN X31.here hx rfl (hb hby at_277) rfl k) ?_
    refine Go.st (mkF m 280 #[.val (.int p0), .val (.int p1), .val (.int p2), .val (.int (v_v p0)), .val (.int (v_o p1)), .val (.int (v_fill p2)), .val (.ref b1), .val (.int (v_n p0)), .val (.int (f_1 (v_v p0) o))] [(.int (v_fill p2)), (.int (v_v p0)), (.int (v_n p0)), (.int (v_o p1)), (.int (8 : Int32)), (.ref b1)]) (fun _ k => XS.iload X31.here hx rfl (hb hby at_278) rfl k) ?_
    obtain ⟨_, _, ⟨T32, L32, k32, n32⟩, -, X32, ⟨Lc32, hQ32, l32, y32, z32⟩, st32⟩ := Jvm.LawKit.callS X31 hx (y := (⟨"com/example/vocabulary/vocabulary/index/IndexOutputEncodeVarIntPinLaw", "at", "([BIIIIB)Z"⟩ : MethodName)) hown (mvT hZ (hw _ (List.mem_of_getElem? (i := 6) rfl))) (mvT hZ (hw _ (List.mem_of_getElem? (i := 7) rfl))) (mvT hZ (hw _ (List.mem_of_getElem? (i := 8) rfl))) (mvT hZ (hw _ (List.mem_of_getElem? (i := 9) rfl))) (by decide) (backOf (W := 0) (rm_2 l Z a0 hw [] b1 (8 : Int32) (v_o p1) (v_n p0) (v_v p0) (v_fill p2) 8 (g_1 (v_v p0) o (fun _ => (nar .byte (v_fill p2)))) T23.heap n0 (Nat.le_trans Z0 K23.1) V23_0 (by first | assumption | decide) (by first | assumption | decide) (by first | assumption | decide)) hZ (hw _ (List.mem_of_getElem? (i := 9) rfl)) (hw _ (List.mem_of_getElem? (i := 8) rfl)) (by decide) (by decide)) (g := (mkF m 280 #[.val (.int p0), .val (.int p1), .val (.int p2), .val (.int (v_v p0)), .val (.int (v_o p1)), .val (.int (v_fill p2)), .val (.ref b1), .val (.int (v_n p0)), .val (.int (f_1 (v_v p0) o))] [(.int (v_fill p2)), (.int (v_v p0)), (.int (v_n p0)), (.int (v_o p1)), (.int (8 : Int32)), (.ref b1)])) rfl (by rw [hml]; rfl) (argsL := [(.ref b1), (.int (8 : Int32)), (.int (v_o p1)), (.int (v_n p0)), (.int (v_v p0)), (.int (v_fill p2))]) (rest := []) (lenOf pd_1 rfl) rfl (by show 2 * 0 + _ ≤ _; exact Nat.le_of_eq rfl) (hb hby at_280) (fun _ _ => ⟨rfl, e31, (by decide : 1 + 0 ≤ _), (by decide : 9 + 0 ≤ _)⟩)
    dsimp only [Pt.U, Pt.locs, Pt.cells, Pt.slots] at X32 l32 y32 z32 st32 hQ32
    subst l32 y32 z32
    obtain ⟨rfl, N32q, e32⟩ := hQ32
    have N32 := Fr.app N31 N32q
    refine Go.st (mkF m 283 #[.val (.int p0), .val (.int p1), .val (.int p2), .val (.int (v_v p0)), .val (.int (v_o p1)), .val (.int (v_fill p2)), .val (.ref b1), .val (.int (v_n p0)), .val (.int (f_1 (v_v p0) o))] [(.int (f_2 (8 : Int32) (v_o p1) (v_n p0) (v_v p0) (v_fill p2) 8 (g_1 (v_v p0) o (fun _ => (nar .byte (v_fill p2))))))]) (fun _ k => st32 _ k) ?_
    refine Go.st (mkF m 286 #[.val (.int p0), .val (.int p1), .val (.int p2), .val (.int (v_v p0)), .val (.int (v_o p1)), .val (.int (v_fill p2)), .val (.ref b1), .val (.int (v_n p0)), .val (.int (f_1 (v_v p0) o))] []) (fun _ k => XS.ifNo X32.here hx rfl (hb hby at_283) rfl ((if0 _ _).trans (feq (own_at p0 p1 p2 o ho hvo 8 (by decide))).1) k) ?_
    refine Go.st (mkF m 287 #[.val (.int p0), .val (.int p1), .val (.int p2), .val (.int (v_v p0)), .val (.int (v_o p1)), .val (.int (v_fill p2)), .val (.ref b1), .val (.int (v_n p0)), .val (.int (f_1 (v_v p0) o))] [(.int (1 : Int32))]) (fun _ k => XS.iconst X32.here hx rfl (hb hby at_286) k) ?_
    refine Go.st (mkF m 291 #[.val (.int p0), .val (.int p1), .val (.int p2), .val (.int (v_v p0)), .val (.int (v_o p1)), .val (.int (v_fill p2)), .val (.ref b1), .val (.int (v_n p0)), .val (.int (f_1 (v_v p0) o))] [(.int (1 : Int32))]) (fun _ k => XS.goto X32.here hx rfl (pc0 := 287) (pc' := 291) rfl (hb hby at_287) (by decide) (by decide) k) ?_
    exact Go.retZ X32 hx Bd.notSynchronized (t := .boolean) (by simp) Bd.returns (hb hby at_291) (by rw [e32]; exact ⟨rfl, N32, K23⟩) (by decide) (by decide)
  by_cases hc81_22 : (v_v p0) < (128 : Int32)
  ·
    refine Go.st (mkF m 84 #[.val (.int p0), .val (.int p1), .val (.int p2), .val (.int (v_v p0)), .val (.int (v_o p1)), .val (.int (v_fill p2)), .val (.ref b1), .unset, .unset] []) (fun _ k => XS.icmpNo X19.here hx rfl (hb hby at_81) rfl (tlt hc81_22).2.1 k) ?_
    refine Go.st (mkF m 85 #[.val (.int p0), .val (.int p1), .val (.int p2), .val (.int (v_v p0)), .val (.int (v_o p1)), .val (.int (v_fill p2)), .val (.ref b1), .unset, .unset] [(.int (1 : Int32))]) (fun _ k => XS.iconst X19.here hx rfl (hb hby at_84) k) ?_
    refine Go.st (mkF m 120 #[.val (.int p0), .val (.int p1), .val (.int p2), .val (.int (v_v p0)), .val (.int (v_o p1)), .val (.int (v_fill p2)), .val (.ref b1), .unset, .unset] [(.int (1 : Int32))]) (fun _ k => XS.goto X19.here hx rfl (pc0 := 85) (pc' := 120) rfl (hb hby at_85) (by decide) (by decide) k) ?_
    rw [show (v_n p0) = (1 : Int32) from by unfold v_n; rw [if_pos hc81_22]] at J81
    exact J81
  ·
    refine Go.st (mkF m 88 #[.val (.int p0), .val (.int p1), .val (.int p2), .val (.int (v_v p0)), .val (.int (v_o p1)), .val (.int (v_fill p2)), .val (.ref b1), .unset, .unset] []) (fun _ k => XS.icmpYes X19.here hx rfl (pc0 := 81) (pc' := 88) rfl (hb hby at_81) rfl (flt hc81_22).2.1 (by decide) (by decide) k) ?_
    refine Go.st (mkF m 89 #[.val (.int p0), .val (.int p1), .val (.int p2), .val (.int (v_v p0)), .val (.int (v_o p1)), .val (.int (v_fill p2)), .val (.ref b1), .unset, .unset] [(.int (v_v p0))]) (fun _ k => XS.iloadN X19.here hx rfl (hb hby at_88) rfl k) ?_
    refine Go.st (mkF m 92 #[.val (.int p0), .val (.int p1), .val (.int p2), .val (.int (v_v p0)), .val (.int (v_o p1)), .val (.int (v_fill p2)), .val (.ref b1), .unset, .unset] [(.int (16384 : Int32)), (.int (v_v p0))]) (fun _ k => XS.sipush X19.here hx rfl (hb hby at_89) k) ?_
    by_cases hc92_33 : (v_v p0) < (16384 : Int32)
    ·
      refine Go.st (mkF m 95 #[.val (.int p0), .val (.int p1), .val (.int p2), .val (.int (v_v p0)), .val (.int (v_o p1)), .val (.int (v_fill p2)), .val (.ref b1), .unset, .unset] []) (fun _ k => XS.icmpNo X19.here hx rfl (hb hby at_92) rfl (tlt hc92_33).2.1 k) ?_
      refine Go.st (mkF m 96 #[.val (.int p0), .val (.int p1), .val (.int p2), .val (.int (v_v p0)), .val (.int (v_o p1)), .val (.int (v_fill p2)), .val (.ref b1), .unset, .unset] [(.int (2 : Int32))]) (fun _ k => XS.iconst X19.here hx rfl (hb hby at_95) k) ?_
      refine Go.st (mkF m 120 #[.val (.int p0), .val (.int p1), .val (.int p2), .val (.int (v_v p0)), .val (.int (v_o p1)), .val (.int (v_fill p2)), .val (.ref b1), .unset, .unset] [(.int (2 : Int32))]) (fun _ k => XS.goto X19.here hx rfl (pc0 := 96) (pc' := 120) rfl (hb hby at_96) (by decide) (by decide) k) ?_
      rw [show (v_n p0) = (2 : Int32) from by unfold v_n; rw [if_neg hc81_22, if_pos hc92_33]] at J81
      exact J81
    ·
      refine Go.st (mkF m 99 #[.val (.int p0), .val (.int p1), .val (.int p2), .val (.int (v_v p0)), .val (.int (v_o p1)), .val (.int (v_fill p2)), .val (.ref b1), .unset, .unset] []) (fun _ k => XS.icmpYes X19.here hx rfl (pc0 := 92) (pc' := 99) rfl (hb hby at_92) rfl (flt hc92_33).2.1 (by decide) (by decide) k) ?_
      refine Go.st (mkF m 100 #[.val (.int p0), .val (.int p1), .val (.int p2), .val (.int (v_v p0)), .val (.int (v_o p1)), .val (.int (v_fill p2)), .val (.ref b1), .unset, .unset] [(.int (v_v p0))]) (fun _ k => XS.iloadN X19.here hx rfl (hb hby at_99) rfl k) ?_
      refine Go.st (mkF m 102 #[.val (.int p0), .val (.int p1), .val (.int p2), .val (.int (v_v p0)), .val (.int (v_o p1)), .val (.int (v_fill p2)), .val (.ref b1), .unset, .unset] [(.int (2097152 : Int32)), (.int (v_v p0))]) (fun _ k => X19.ldcInt hx hown (mvT hZ (hw _ (List.mem_of_getElem? (i := 10) rfl))) (g := (mkF m 100 #[.val (.int p0), .val (.int p1), .val (.int p2), .val (.int (v_v p0)), .val (.int (v_o p1)), .val (.int (v_fill p2)), .val (.ref b1), .unset, .unset] [(.int (v_v p0))])) rfl (hb hby at_100) _ k) ?_
      by_cases hc102_34 : (v_v p0) < (2097152 : Int32)
      ·
        refine Go.st (mkF m 105 #[.val (.int p0), .val (.int p1), .val (.int p2), .val (.int (v_v p0)), .val (.int (v_o p1)), .val (.int (v_fill p2)), .val (.ref b1), .unset, .unset] []) (fun _ k => XS.icmpNo X19.here hx rfl (hb hby at_102) rfl (tlt hc102_34).2.1 k) ?_
        refine Go.st (mkF m 106 #[.val (.int p0), .val (.int p1), .val (.int p2), .val (.int (v_v p0)), .val (.int (v_o p1)), .val (.int (v_fill p2)), .val (.ref b1), .unset, .unset] [(.int (3 : Int32))]) (fun _ k => XS.iconst X19.here hx rfl (hb hby at_105) k) ?_
        refine Go.st (mkF m 120 #[.val (.int p0), .val (.int p1), .val (.int p2), .val (.int (v_v p0)), .val (.int (v_o p1)), .val (.int (v_fill p2)), .val (.ref b1), .unset, .unset] [(.int (3 : Int32))]) (fun _ k => XS.goto X19.here hx rfl (pc0 := 106) (pc' := 120) rfl (hb hby at_106) (by decide) (by decide) k) ?_
        rw [show (v_n p0) = (3 : Int32) from by unfold v_n; rw [if_neg hc81_22, if_neg hc92_33, if_pos hc102_34]] at J81
        exact J81
      ·
        refine Go.st (mkF m 109 #[.val (.int p0), .val (.int p1), .val (.int p2), .val (.int (v_v p0)), .val (.int (v_o p1)), .val (.int (v_fill p2)), .val (.ref b1), .unset, .unset] []) (fun _ k => XS.icmpYes X19.here hx rfl (pc0 := 102) (pc' := 109) rfl (hb hby at_102) rfl (flt hc102_34).2.1 (by decide) (by decide) k) ?_
        refine Go.st (mkF m 110 #[.val (.int p0), .val (.int p1), .val (.int p2), .val (.int (v_v p0)), .val (.int (v_o p1)), .val (.int (v_fill p2)), .val (.ref b1), .unset, .unset] [(.int (v_v p0))]) (fun _ k => XS.iloadN X19.here hx rfl (hb hby at_109) rfl k) ?_
        refine Go.st (mkF m 112 #[.val (.int p0), .val (.int p1), .val (.int p2), .val (.int (v_v p0)), .val (.int (v_o p1)), .val (.int (v_fill p2)), .val (.ref b1), .unset, .unset] [(.int (268435456 : Int32)), (.int (v_v p0))]) (fun _ k => X19.ldcInt hx hown (mvT hZ (hw _ (List.mem_of_getElem? (i := 11) rfl))) (g := (mkF m 110 #[.val (.int p0), .val (.int p1), .val (.int p2), .val (.int (v_v p0)), .val (.int (v_o p1)), .val (.int (v_fill p2)), .val (.ref b1), .unset, .unset] [(.int (v_v p0))])) rfl (hb hby at_110) _ k) ?_
        by_cases hc112_35 : (v_v p0) < (268435456 : Int32)
        ·
          refine Go.st (mkF m 115 #[.val (.int p0), .val (.int p1), .val (.int p2), .val (.int (v_v p0)), .val (.int (v_o p1)), .val (.int (v_fill p2)), .val (.ref b1), .unset, .unset] []) (fun _ k => XS.icmpNo X19.here hx rfl (hb hby at_112) rfl (tlt hc112_35).2.1 k) ?_
          refine Go.st (mkF m 116 #[.val (.int p0), .val (.int p1), .val (.int p2), .val (.int (v_v p0)), .val (.int (v_o p1)), .val (.int (v_fill p2)), .val (.ref b1), .unset, .unset] [(.int (4 : Int32))]) (fun _ k => XS.iconst X19.here hx rfl (hb hby at_115) k) ?_
          refine Go.st (mkF m 120 #[.val (.int p0), .val (.int p1), .val (.int p2), .val (.int (v_v p0)), .val (.int (v_o p1)), .val (.int (v_fill p2)), .val (.ref b1), .unset, .unset] [(.int (4 : Int32))]) (fun _ k => XS.goto X19.here hx rfl (pc0 := 116) (pc' := 120) rfl (hb hby at_116) (by decide) (by decide) k) ?_
          rw [show (v_n p0) = (4 : Int32) from by unfold v_n; rw [if_neg hc81_22, if_neg hc92_33, if_neg hc102_34, if_pos hc112_35]] at J81
          exact J81
        ·
          refine Go.st (mkF m 119 #[.val (.int p0), .val (.int p1), .val (.int p2), .val (.int (v_v p0)), .val (.int (v_o p1)), .val (.int (v_fill p2)), .val (.ref b1), .unset, .unset] []) (fun _ k => XS.icmpYes X19.here hx rfl (pc0 := 112) (pc' := 119) rfl (hb hby at_112) rfl (flt hc112_35).2.1 (by decide) (by decide) k) ?_
          refine Go.st (mkF m 120 #[.val (.int p0), .val (.int p1), .val (.int p2), .val (.int (v_v p0)), .val (.int (v_o p1)), .val (.int (v_fill p2)), .val (.ref b1), .unset, .unset] [(.int (5 : Int32))]) (fun _ k => XS.iconst X19.here hx rfl (hb hby at_119) k) ?_
          rw [show (v_n p0) = (5 : Int32) from by unfold v_n; rw [if_neg hc81_22, if_neg hc92_33, if_neg hc102_34, if_neg hc112_35]] at J81
          exact J81
set_option maxRecDepth 65536 in
set_option maxHeartbeats 40000000 in
theorem comes_1 {Post : Tables → Env → Array Value → State → Outcome → State → Prop} (hpost : ∀ tb e args s v u, (limb_1_1.after args s (.returned v) u = true ∧ limb_1_2.after args s (.returned v) u = true ∧ True) → FrameEnd s (.returned v) u (Jvm.fieldLocs frame_1_writes args s ++ Jvm.arrayLocs frame_1_arrays args s ++ Jvm.staticLocs frame_1_statics s) 16 128 → Post tb e args s (.returned v) u) :
    ArmFor flags0 classFile x code maxLocals ret World_1 tables_1 room_1 Calls_1 rest_1 Pre_1 Post := by
  intro l hfl _ _ p e ha hc hk s m args below hf hA hF happ hP
  obtain ⟨hcalls, hrest, hpre⟩ := hP
  obtain ⟨-, -, -, hnamed, -, -, -, hat⟩ := (Spec.applies_iff hf).mp happ
  obtain ⟨hg, hn⟩ := and_e (Cond.before_iff.mp (show (Jvm.Cond.and given_1 narrow_1).before args s = true from hpre))
  obtain ⟨h1, g0⟩ := and_e hg
  obtain ⟨a0, g1⟩ := and_e g0
  obtain ⟨a1, g2⟩ := and_e g1
  obtain ⟨w0, w1, w2, rfl⟩ : ∃ w0 w1 w2 : Value, args = #[w0, w1, w2] := by
    have hs : args.size = 3 := by simpa [Cond.value, given_1] using h1
    obtain ⟨L⟩ := args
    match L, hs with
    | [w0, w1, w2], _ => exact ⟨w0, w1, w2, rfl⟩
  have hw := fun d (hd : d ∈ tables_1) => atoms_spec (ws := Jvm.Cond.code x code maxLocals ret :: tables_1) hat d (List.mem_cons_of_mem _ hd)
  obtain ⟨i0, e0⟩ := is_v a0
  obtain rfl : w0 = (.int i0) := Option.some.inj e0
  obtain ⟨i1, e1⟩ := is_v a1
  obtain rfl : w1 = (.int i1) := Option.some.inj e1
  obtain ⟨i2, e2⟩ := is_v g2
  obtain rfl : w2 = (.int i2) := Option.some.inj e2
  obtain ⟨n, o, h1, h2, h3, _, L, rfl, ⟨rfl, N, _⟩, hq⟩ := rm_0 l s _ hw tables_1 i0 i1 i2 s.heap s.heap.size (Nat.le_refl _) p e ha hc hk s m _ below hf ((Spec.applies_iff_loose hf).mp happ).1 ⟨rfl, State.Warmed39.refl s, rfl⟩ trivial
  refine ⟨n, _, h1, h2, h3, hpost _ _ _ _ _ _ ⟨Cond.after_iff.mpr rfl, Cond.after_iff.mpr (eq_i res_at (Term.int_eval (1)) rfl), trivial⟩ ⟨hq.1, hq.2.1, (hq.2.2.sift fun y hy => Or.inr (N y hy)).mono (by decide) (by decide)⟩⟩
theorem main_1_1 : Claimed_1_1 := comes_1 fun _ _ _ _ _ _ h hF => ⟨h.1, hF⟩
theorem main_1_2 : Claimed_1_2 := comes_1 fun _ _ _ _ _ _ h hF => ⟨h.2.1, hF⟩
end Jvm.Pilot.@@N@@
namespace Jvm.Pilot.@@N@@
open Jvm Jvm.ClassFile Sem Op Lib Jvm.Free Jvm.Stand Jvm.Pilot.@@N@@.Jvm.D
/-! MADE BY PROGRAM (witnessworld.py) out of the Statement's table words and the real class files: 9 classes; the members and pool entries that the words name. The judged class is class 1, her method 1. -/
namespace start1
open Jvm.ClassFile
def u (s : String) : CpInfo := .utf8 (stringToUtf16 s)
/-- a pool by its gaps: so many unusable entries, then the entry; so many at the end -/
def gap : Nat → List CpInfo → List CpInfo
  | 0, r => r
  | n + 1, r => .unusable :: gap n r
def poolList (es : List (Nat × CpInfo)) (last : Nat) : List CpInfo := es.foldr (fun e r => gap e.1 (e.2 :: r)) (gap last [])
def pool (es : List (Nat × CpInfo)) (last : Nat) : Array CpInfo := ⟨poolList es last⟩
def fileOf (pool : Array CpInfo) (this : Nat) (attrs : Array Attribute := #[]) (ms : Array MethodInfo := #[]) (fl : Nat := 33) (sup : Nat := 0) (ifs : Array Nat := #[]) (fds : Array FieldInfo := #[]) : ClassFile where
  minorVersion := 0
  majorVersion := 65
  constantPool := pool
  accessFlags := fl
  thisClass := this
  superClass := sup
  interfaces := ifs
  fields := fds
  methods := ms
  attributes := attrs
def plain (name : String) (sup : Option ClassId) : Class where
  name := name
  kind := .ordinary
  loader := none
  accessFlags := 33
  super := sup
  interfaces := #[]
  cf := none
  fields := #[]
  methods := #[]
  instanceTypes := #[]
  staticTypes := #[]
  resolved := #[]
  callSites := []
  init := .initialized
  statics := none
  mirror := none

def pool0 : Array CpInfo := pool [(5, u "<init>"), (0, u "()V"), (1, .class_ 10), (1, u "java/lang/Object")] 113

def k0m0 : Method := { name := "<init>", desc := "()V", sig := { parameters := [], returnType := none }, accessFlags := 1, code := none }
/-- java/lang/Object -/
def k0 : Class := { plain "java/lang/Object" none with
  accessFlags := 33
  interfaces := #[]
  cf := some (fileOf pool0 8 #[] #[{ accessFlags := 1, nameIndex := 5, descriptorIndex := 6, attributes := #[] }] 33 0 #[] #[])
  fields := #[]
  methods := #[k0m0]
  instanceTypes := #[]
  staticTypes := #[]
  resolved := Array.replicate 124 none
  statics := none }

def pool1 : Array CpInfo := pool [(2, .class_ 4), (1, u "java/lang/Object"), (0, u "<init>"), (0, u "()V"), (0, .integer 2147483647), (0, .integer 2097152), (0, .integer 268435456), (0, .methodref 11 12), (0, .class_ 13), (0, .nameAndType 14 15), (0, u "com/example/vocabulary/vocabulary/index/IndexOutput"), (0, u "encodeVarInt"), (0, u "(I[BI)I"), (0, .methodref 17 18), (0, .class_ 19), (0, .nameAndType 20 21), (0, u "com/example/vocabulary/vocabulary/index/IndexOutputEncodeVarIntPinLaw"), (0, u "at"), (0, u "([BIIIIB)Z"), (2, u "law"), (0, u "(III)Z")] 5

def k1m0 : Method := { name := "<init>", desc := "()V", sig := { parameters := [], returnType := none }, accessFlags := 1, code := none }
def k1c1 : Code := { maxStack := 6, maxLocals := 9, code := code, exceptionTable := #[], attributes := #[] }
def k1m1 : Method := { name := "law", desc := "(III)Z", sig := { parameters := [.int, .int, .int], returnType := some .boolean }, accessFlags := 9, code := some k1c1 }
def k1c2 : Code := { maxStack := 3, maxLocals := 9, code := method_3_code, exceptionTable := #[], attributes := #[] }
def k1m2 : Method := { name := "at", desc := "([BIIIIB)Z", sig := { parameters := [(.array .byte), .int, .int, .int, .int, .byte], returnType := some .boolean }, accessFlags := 10, code := some k1c2 }
/-- com/example/vocabulary/vocabulary/index/IndexOutputEncodeVarIntPinLaw -/
def k1 : Class := { plain "com/example/vocabulary/vocabulary/index/IndexOutputEncodeVarIntPinLaw" (some 0) with
  accessFlags := 49
  interfaces := #[]
  cf := some (fileOf pool1 17 #[] #[{ accessFlags := 1, nameIndex := 5, descriptorIndex := 6, attributes := #[] }, { accessFlags := 9, nameIndex := 24, descriptorIndex := 25, attributes := #[] }, { accessFlags := 10, nameIndex := 20, descriptorIndex := 21, attributes := #[] }] 49 2 #[] #[])
  fields := #[]
  methods := #[k1m0, k1m1, k1m2]
  instanceTypes := #[]
  staticTypes := #[]
  resolved := Array.replicate 31 none
  statics := none }

def pool2 : Array CpInfo := pool [(2, .class_ 4), (1, u "java/lang/Object"), (9, .class_ 16), (1, u "com/example/vocabulary/vocabulary/index/IndexOutput"), (0, u "checksum"), (0, u "Ljava/util/zip/Checksum;"), (2, u "varInt"), (0, u "[B"), (2, u "out"), (0, u "Ljava/io/OutputStream;"), (2, u "position"), (0, u "J"), (32, u "encodeVarInt"), (0, u "(I[BI)I"), (28, u "MAX_VARINT_LENGTH"), (0, u "I")] 31

def k2c0 : Code := { maxStack := 4, maxLocals := 4, code := prog_40_method_4_code, exceptionTable := #[], attributes := #[] }
def k2m0 : Method := { name := "encodeVarInt", desc := "(I[BI)I", sig := { parameters := [.int, (.array .byte), .int], returnType := some .int }, accessFlags := 8, code := some k2c0 }
/-- com/example/vocabulary/vocabulary/index/IndexOutput -/
def k2 : Class := { plain "com/example/vocabulary/vocabulary/index/IndexOutput" (some 0) with
  accessFlags := 32
  interfaces := #[]
  cf := some (fileOf pool2 14 #[] #[{ accessFlags := 8, nameIndex := 63, descriptorIndex := 64, attributes := #[] }] 32 2 #[] #[{ accessFlags := 24, nameIndex := 93, descriptorIndex := 94, attributes := #[] }, { accessFlags := 18, nameIndex := 25, descriptorIndex := 26, attributes := #[] }, { accessFlags := 18, nameIndex := 17, descriptorIndex := 18, attributes := #[] }, { accessFlags := 18, nameIndex := 21, descriptorIndex := 22, attributes := #[] }, { accessFlags := 2, nameIndex := 29, descriptorIndex := 30, attributes := #[] }])
  fields := #[{ name := "MAX_VARINT_LENGTH", type := .int, accessFlags := 24, slot := 0, constantValue := 0 }, { name := "out", type := (.object "java/io/OutputStream"), accessFlags := 18, slot := 0, constantValue := 0 }, { name := "checksum", type := (.object "java/util/zip/Checksum"), accessFlags := 18, slot := 1, constantValue := 0 }, { name := "varInt", type := (.array .byte), accessFlags := 18, slot := 2, constantValue := 0 }, { name := "position", type := .long, accessFlags := 2, slot := 3, constantValue := 0 }]
  methods := #[k2m0]
  instanceTypes := #[(.object "java/io/OutputStream"), (.object "java/util/zip/Checksum"), (.array .byte), .long]
  staticTypes := #[.int]
  resolved := Array.replicate 126 none
  statics := none }

def pool3 : Array CpInfo := pool [(1, u "java/lang/Cloneable"), (0, .class_ 1), (0, u "java/lang/Object"), (0, .class_ 3)] 3

/-- java/lang/Cloneable -/
def k3 : Class := { plain "java/lang/Cloneable" (some 0) with
  accessFlags := 1537
  interfaces := #[]
  cf := some (fileOf pool3 2 #[] #[] 1537 4 #[] #[])
  fields := #[]
  methods := #[]
  instanceTypes := #[]
  staticTypes := #[]
  resolved := Array.replicate 8 none
  statics := none }

def pool4 : Array CpInfo := pool [(1, u "java/io/Serializable"), (0, .class_ 1), (0, u "java/lang/Object"), (0, .class_ 3)] 3

/-- java/io/Serializable -/
def k4 : Class := { plain "java/io/Serializable" (some 0) with
  accessFlags := 1537
  interfaces := #[]
  cf := some (fileOf pool4 2 #[] #[] 1537 4 #[] #[])
  fields := #[]
  methods := #[]
  instanceTypes := #[]
  staticTypes := #[]
  resolved := Array.replicate 8 none
  statics := none }

/-- the primitive byte -/
def k5 : Class := { plain "byte" none with kind := .primitive 'B', accessFlags := 0x411 }
/-- [B -/
def k6 : Class := { plain "[B" (some 0) with kind := .array 5 .byte, interfaces := #[3, 4], accessFlags := 1041 }

/-- the primitive int -/
def k7 : Class := { plain "int" none with kind := .primitive 'I', accessFlags := 0x411 }
/-- [I -/
def k8 : Class := { plain "[I" (some 0) with kind := .array 7 .int, interfaces := #[3, 4], accessFlags := 1041 }

def heap : Heap := #[]
def classes : Array Class := #[k0, k1, k2, k3, k4, k5, k6, k7, k8]
def interned : List (Array UInt16 × Addr) := []
def slotsUsed : Nat := 0
def theMethod : MethodId := ⟨1, 1⟩
def args0 : Array Value := #[.int 300, .int 5, .int 7]
def aboutOver (below : List Frame) : State where
  vm := { classes := classes, interned := interned.toArray }
  heap := heap
  slotsUsed := slotsUsed
  threads := #[{ frames := .invoking theMethod args0 :: below }]
def below0 : List Frame := [.native { method := ⟨0, 0⟩, args := #[] }]
def about1 : State := aboutOver below0
def p0 : Program := .bare "" "" ""
def e0 : Env := launch0.env 0 0 0
theorem w_frames : about1.frames = Frame.invoking theMethod args0 :: below0 := rfl
set_option maxRecDepth 65536 in
theorem w_args : argsFit about1.vm theMethod args0 = true := by decide +kernel
set_option maxRecDepth 65536 in
theorem w_heap : heapFits about1 = true := by decide +kernel
set_option maxRecDepth 65536 in
theorem w_runnable : about1.curStatus? = some .runnable := by decide +kernel
set_option maxRecDepth 65536 in
theorem w_alone : about1.alone = true := by decide +kernel
set_option maxRecDepth 65536 in
theorem w_named : about1.methodNamed? x = some theMethod := by decide +kernel
set_option maxRecDepth 65536 in
theorem w_hears : about1.hears theMethod below0 = true := by decide +kernel
set_option maxRecDepth 65536 in
theorem w_ripe : about1.ripe theMethod args0 below0 = true := by decide +kernel
theorem w_running : about1.status = .running := rfl
set_option maxRecDepth 65536 in
theorem w_room : about1.hasRoom e0.platform room_1 = true :=
  launch0.hasRoom_least _ room_1 (by decide +kernel) (by decide +kernel) (by decide +kernel) (by decide +kernel) (by decide +kernel) (by decide +kernel)
theorem allAtoms_all (ts : List Jvm.Cond) (a : Array Jvm.Value) (st : Jvm.State) : (allAtoms ts).before a st = ts.all (fun c => c.before a st) := by
  induction ts with
  | nil => rfl
  | cons c t ih =>
    show (Jvm.Cond.and c (allAtoms t)).before a st = _
    rw [Jvm.Cond.before_and, ih, List.all_cons]
def words1 : List Jvm.Cond := Jvm.Cond.code x code maxLocals ret :: tables_1
/-- a 'code' word, met by the world's own term for the bytes: nothing is compared byte by byte -/
theorem code_word {y : MethodName} {bytes : ByteArray} {mx : Nat} {rt : Option FieldType} {a : Array Value} {s : State} {m : MethodId} {meth : Method} {c : Code} (h1 : s.methodNamed? y = some m) (h2 : s.vm.method? m = some meth) (h3 : meth.code = some c) (h4 : c.code = bytes)
    (h5 : (c.maxLocals == mx && c.exceptionTable.isEmpty && decide (c.maxStack ≤ mostOperands) && decide (meth.sig.returnType = rt) && !meth.locks && decide (parseMethodDescriptor y.desc = some meth.sig)) = true) : (Jvm.Cond.code y bytes mx rt).before a s = true := by
  simp only [Bool.and_eq_true, beq_iff_eq, Bool.not_eq_true', decide_eq_true_eq] at h5
  obtain ⟨⟨⟨⟨⟨g1, g2⟩, g3⟩, g4⟩, g5⟩, g6⟩ := h5
  simp [Cond.before, Cond.holds, Cond.value, h1, h2, h3, h4, g1, g2, g3, g4, g5, g6]
def isCode : Jvm.Cond → Bool
  | .code _ _ _ _ => true
  | _ => false
theorem all_split {L : List Jvm.Cond} {P : Jvm.Cond → Bool} (h1 : L.all (fun c => isCode c || P c) = true) (h2 : ∀ c ∈ L.filter isCode, P c = true) : L.all P = true := by
  refine List.all_eq_true.mpr fun c hc => ?_
  have h := List.all_eq_true.mp h1 c hc
  rcases Bool.eq_false_or_eq_true (isCode c) with hi | hi
  · exact h2 c (List.mem_filter.mpr ⟨hc, hi⟩)
  · simpa [hi] using h
set_option maxRecDepth 65536 in
theorem w_c0 : (Jvm.Cond.code x code maxLocals ret).before args0 about1 = true := code_word (m := ⟨1, 1⟩) (meth := k1m1) (c := k1c1) (by decide +kernel) rfl rfl rfl (by decide +kernel)
set_option maxRecDepth 65536 in
theorem w_c1 : (Jvm.Cond.code ({ cls := "com/example/vocabulary/vocabulary/index/IndexOutput", name := "encodeVarInt", desc := "(I[BI)I" } : Jvm.MethodName) prog_40_method_4_code (4 : Nat) (Option.some Jvm.ClassFile.FieldType.int)).before args0 about1 = true := code_word (m := ⟨2, 0⟩) (meth := k2m0) (c := k2c0) (by decide +kernel) rfl rfl rfl (by decide +kernel)
set_option maxRecDepth 65536 in
theorem w_c2 : (Jvm.Cond.code ({ cls := "com/example/vocabulary/vocabulary/index/IndexOutputEncodeVarIntPinLaw", name := "at", desc := "([BIIIIB)Z" } : Jvm.MethodName) method_3_code (9 : Nat) (Option.some Jvm.ClassFile.FieldType.boolean)).before args0 about1 = true := code_word (m := ⟨1, 2⟩) (meth := k1m2) (c := k1c2) (by decide +kernel) rfl rfl rfl (by decide +kernel)
def codes1 : List Jvm.Cond := [Jvm.Cond.code x code maxLocals ret, Jvm.Cond.code ({ cls := "com/example/vocabulary/vocabulary/index/IndexOutput", name := "encodeVarInt", desc := "(I[BI)I" } : Jvm.MethodName) prog_40_method_4_code (4 : Nat) (Option.some Jvm.ClassFile.FieldType.int), Jvm.Cond.code ({ cls := "com/example/vocabulary/vocabulary/index/IndexOutputEncodeVarIntPinLaw", name := "at", desc := "([BIIIIB)Z" } : Jvm.MethodName) method_3_code (9 : Nat) (Option.some Jvm.ClassFile.FieldType.boolean)]
set_option maxRecDepth 65536 in
theorem codes_eq : words1.filter isCode = codes1 := rfl
theorem w_codes : ∀ c ∈ words1.filter isCode, c.before args0 about1 = true := by
  rw [codes_eq]
  intro c hc
  simp only [codes1, List.mem_cons, List.not_mem_nil, or_false] at hc
  rcases hc with rfl | rfl | rfl
  · exact w_c0
  · exact w_c1
  · exact w_c2
set_option maxRecDepth 65536 in
theorem w_t1 : words1.all (fun c => isCode c || c.before args0 about1) = true := by decide +kernel
theorem w_tables : (allAtoms (Jvm.Cond.code x code maxLocals ret :: tables_1)).before args0 about1 = true := by
  rw [allAtoms_all]
  show words1.all (fun c => c.before args0 about1) = true
  refine all_split ?_ w_codes
  rw [w_t1]
set_option maxRecDepth 65536 in
theorem w_case : (Jvm.Cond.and given_1 narrow_1).before args0 about1 = true := by decide +kernel
theorem w_applies : (headSpec (Jvm.Cond.code x code maxLocals ret :: tables_1) room_1).applies x e0.platform about1 = true :=
  (Spec.applies_iff w_frames).mpr ⟨w_running, w_runnable, w_alone, w_named, w_hears, w_ripe, w_room, w_tables⟩
theorem atStart : AtStart classFile x code maxLocals ret World_1 tables_1 room_1 Calls_1 rest_1 Pre_1 launch0 p0 e0 about1 theMethod args0 below0 :=
  ⟨lists_1, trivial, launch0.admits_env _ _ _, launch0.least_env, fairChoices_fair.cas, fairChoices_fair.clock, w_frames, w_args, w_heap, w_applies, trivial, trivial, w_case⟩
end start1
theorem witness_1 : WitnessClaimed_1 := ⟨start1.p0, start1.e0, start1.about1, start1.theMethod, start1.args0, start1.below0, start1.atStart⟩
end Jvm.Pilot.@@N@@
