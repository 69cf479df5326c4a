import JvmDerived
import JvmDerived.Pilot.@@N@@Statement
import JvmDerived.Pilot.@@N@@Code
set_option linter.unusedVariables false
set_option linter.unusedSimpArgs false
@@BLOCK:NumsL.lean.txt@@
namespace Jvm.RoadKit
open Sem ClassFile Op Lib Jvm.Stand Jvm.Free Jvm.LawKit
section New
variable {p : Program} {l : Launch} {e : Env} {R : Room} {s : State} {m : MethodId} {args : Array Value} {below : List Frame} {meth : Method} {c : Code} {T : State} {locs : List Loc} {cells slots : Nat}
theorem retI (X : Stand p l e R s m args below meth c T locs cells slots) (hx : p.tables.exec = Jvm.exec) {pc : Nat} {Ls : Array Slot} {z : Int32} {rest : List Value} (hret : meth.sig.returnType = some .int) (hd : decode c.code pc = .ok (.ireturn, 1)) {fs : List Frame}
    (hl : ∀ (f : JFrame) (acts : List Action), f.method = m → f.locked = none → f.entered = [] → (doReturn e (T.setTop f) acts (some (.int z))).1 = T.setFrames fs) : Steps p.tables e below (T.setTop (mkF m pc Ls (.int z :: rest))) (T.setFrames fs) := by
  have hm' : T.vm.method? m = some meth := X.method'
  have hn : narrow .int (.int z) = .int z := rfl
  show Steps p.tables e below (T.setTop { method := m, pc := pc, locals := Ls, stack := _ :: rest, locked := none }) _
  jvm_step X.here [X.here.top, hx, hd, hm', hret, hn]
  first | (intro acts; rw [hl _ acts rfl rfl rfl]) | rw [hl _ _ rfl rfl rfl]
  exact Steps.refl _
end New
end Jvm.RoadKit
namespace Jvm.Pilot.@@N@@
open Jvm Jvm.ClassFile Sem Op Lib Jvm.Free Jvm.Stand Jvm.LawKit Jvm.RoadKit Bundle Jvm.Pilot.@@N@@.Jvm.D
open Jvm.Free.XT (ushr ushrL cmpL)
/-- from the frame g over the state T the run comes to a return of which Q holds; K cells and N slots are made at the most -/
def Go (p : Program) (e : Env) (below : List Frame) (s : State) (Q : Option Value → Heap → List Loc → Prop) (K N : Nat) (T : State) (g : JFrame) : Prop :=
  ∃ s₂ o, Steps p.tables e below (T.setTop g) s₂ ∧ s₂.status = .running ∧ Ended s₂ below o ∧ ∃ v L, o = .returned v ∧ Q v s₂.heap L ∧ FrameEnd s o s₂ L K N
section Own
variable {p : Program} {l : Launch} {e : Env} {R : Room} {s : State} {m : MethodId} {args : Array Value} {below : List Frame} {meth : Method} {c : Code} {T T' : State} {locs : List Loc} {cells slots K N : Nat} {Q : Option Value → Heap → List Loc → Prop} {g : JFrame}
theorem Go.st (g' : JFrame) (k : ∀ t, Steps p.tables e below (T'.setTop g') t → Steps p.tables e below (T.setTop g) t) (h : Go p e below s Q K N T' g') : Go p e below s Q K N T g := by
  obtain ⟨s₂, o, h1, h2⟩ := h
  exact ⟨s₂, o, k _ h1, h2⟩
theorem Go.of_eq {g' : JFrame} (q : g = g') (h : Go p e below s Q K N T g') : Go p e below s Q K N T g := q ▸ h
theorem Go.retZ (X : Stand p l e R s m args below meth c T locs cells slots) (hx : p.tables.exec = Jvm.exec) (hlk : meth.locks = false) {pc : Nat} {Ls : Array Slot} {z : Int32} {rest : List Value} {t : FieldType} (ht : t = .boolean ∨ t = .byte ∨ t = .char ∨ t = .short) (hret : meth.sig.returnType = some t) (hd : decode c.code pc = .ok (.ireturn, 1))
    (hq : Q (some (.int (nar t z))) T.heap locs) (hk : cells ≤ K) (hn : slots ≤ N) : Go p e below s Q K N T (mkF m pc Ls (.int z :: rest)) := by
  obtain ⟨fs, hr, hrun, hended, hW, hsame⟩ := X.leave (v := some (.int (nar t z))) (fun h => by rw [hret] at h; cases h) hlk
  exact ⟨_, _, retN X hx hret ht hd hr, hrun, hended, _, _, rfl, hq, ⟨_, rfl⟩, hW, hsame.mono hk hn⟩
theorem Go.retI (X : Stand p l e R s m args below meth c T locs cells slots) (hx : p.tables.exec = Jvm.exec) (hlk : meth.locks = false) {pc : Nat} {Ls : Array Slot} {z : Int32} {rest : List Value} (hret : meth.sig.returnType = some .int) (hd : decode c.code pc = .ok (.ireturn, 1))
    (hq : Q (some (.int z)) T.heap locs) (hk : cells ≤ K) (hn : slots ≤ N) : Go p e below s Q K N T (mkF m pc Ls (.int z :: rest)) := by
  obtain ⟨fs, hr, hrun, hended, hW, hsame⟩ := X.leave (v := some (.int z)) (fun h => by rw [hret] at h; cases h) hlk
  exact ⟨_, _, RoadKit.retI X hx hret hd hr, hrun, hended, _, _, rfl, hq, ⟨_, rfl⟩, hW, hsame.mono hk hn⟩
theorem Go.retJ (X : Stand p l e R s m args below meth c T locs cells slots) (hx : p.tables.exec = Jvm.exec) (hlk : meth.locks = false) {pc : Nat} {Ls : Array Slot} {z : Int64} (hret : meth.sig.returnType = some .long) (hd : decode c.code pc = .ok (.lreturn, 1))
    (hq : Q (some (.long z)) T.heap locs) (hk : cells ≤ K) (hn : slots ≤ N) : Go p e below s Q K N T (mkF m pc Ls [.long z]) := by
  obtain ⟨fs, hr, hrun, hended, hW, hsame⟩ := X.leave (v := some (.long z)) (fun h => by rw [hret] at h; cases h) hlk
  exact ⟨_, _, X.lreturnOut hx hret hd hr, hrun, hended, _, _, rfl, hq, ⟨_, rfl⟩, hW, hsame.mono hk hn⟩
theorem Go.retV (X : Stand p l e R s m args below meth c T locs cells slots) (hx : p.tables.exec = Jvm.exec) (hlk : meth.locks = false) {pc : Nat} {Ls : Array Slot} (hret : meth.sig.returnType = none) (hd : decode c.code pc = .ok (.return_, 1))
    (hq : Q none T.heap locs) (hk : cells ≤ K) (hn : slots ≤ N) : Go p e below s Q K N T (mkF m pc Ls []) := by
  obtain ⟨fs, hr, hrun, hended, hW, hsame⟩ := X.leave (v := none) (fun _ => rfl) hlk
  exact ⟨_, _, X.returnOut hx hret hd hr, hrun, hended, _, _, rfl, hq, ⟨_, rfl⟩, hW, hsame.mono hk hn⟩
end Own
theorem own_c1 {x y : Int64} (h : y < x) : cmpL x y = 1 := by unfold cmpL; rw [if_pos h]
theorem own_c0 {x y : Int64} (h : x = y) : cmpL x y = 0 := by unfold cmpL; rw [if_neg (by subst h; exact Int64.lt_irrefl), if_pos h]
theorem own_cm {x y : Int64} (h : x < y) : cmpL x y = -1 := by unfold cmpL; rw [if_neg (Int64.lt_asymm h), if_neg (Int64.ne_of_lt h)]
theorem own_tri (x y : Int64) : x < y ∨ x = y ∨ y < x := by
  rcases Int.lt_trichotomy x.toInt y.toInt with h | h | h
  · exact Or.inl (Int64.lt_iff_toInt_lt.mpr h)
  · exact Or.inr (Or.inl (Int64.toInt_inj.mp h))
  · exact Or.inr (Or.inr (Int64.lt_iff_toInt_lt.mpr h))
theorem own_llT {x y : Int64} (h : x < y) : ifCond.holds .lt (cmpL x y) = true ∧ ifCond.holds .ge (cmpL x y) = false := by rw [own_cm h]; decide
theorem own_llF {x y : Int64} (h : ¬ x < y) : ifCond.holds .lt (cmpL x y) = false ∧ ifCond.holds .ge (cmpL x y) = true := by
  rcases own_tri x y with q | q | q
  · exact absurd q h
  · rw [own_c0 q]; decide
  · rw [own_c1 q]; decide
theorem own_lgT {x y : Int64} (h : y < x) : ifCond.holds .gt (cmpL x y) = true ∧ ifCond.holds .le (cmpL x y) = false := by rw [own_c1 h]; decide
theorem own_lgF {x y : Int64} (h : ¬ y < x) : ifCond.holds .gt (cmpL x y) = false ∧ ifCond.holds .le (cmpL x y) = true := by
  rcases own_tri x y with q | q | q
  · rw [own_cm q]; decide
  · rw [own_c0 q]; decide
  · exact absurd q h
theorem own_leT {x y : Int64} (h : x = y) : ifCond.holds .eq (cmpL x y) = true ∧ ifCond.holds .ne (cmpL x y) = false := by rw [own_c0 h]; decide
theorem own_leF {x y : Int64} (h : ¬ x = y) : ifCond.holds .eq (cmpL x y) = false ∧ ifCond.holds .ne (cmpL x y) = true := by
  rcases own_tri x y with q | q | q
  · rw [own_cm q]; decide
  · exact absurd q h
  · rw [own_c1 q]; decide
theorem own_chr (x : Int32) : 0 ≤ (x.toUInt32.toUInt16.toUInt32.toInt32).toInt ∧ (x.toUInt32.toUInt16.toUInt32.toInt32).toInt < 65536 := by
  have h : ∀ u : UInt16, (u.toUInt32.toInt32).toInt = u.toNat := fun u => by
    have hu := u.toNat_lt
    show ((u.toUInt32).toBitVec).toInt = _
    have hm : (u.toUInt32).toBitVec.toNat = u.toNat := by
      show (u.toUInt32).toNat = _
      simp
    rw [BitVec.toInt_eq_toNat_cond, hm, if_pos (by omega)]
  have h2 := (x.toUInt32.toUInt16).toNat_lt
  rw [h]; omega
theorem own_small (n : Nat) (c : Int32) (h0 : 0 ≤ c.toInt) (h1 : c.toInt < n) (hn : n ≤ 2147483647) : ∃ k : Fin n, c = Int32.ofNat k.val := by
  refine ⟨⟨c.toInt.toNat, by omega⟩, Int32.toInt_inj.mp ?_⟩
  rw [Int32.toInt_ofNat_of_lt (by show c.toInt.toNat < _; omega)]
  show _ = ((c.toInt.toNat : Nat) : Int)
  omega
theorem pn_0 : plainName "com/example/nimblepack/nimblepack/Blocks" = true := by first | (simp [plainName, overriddenIn]; done) | decide +kernel
theorem d1_0 : decode prog_4_method_8_code 0 = .ok (.iload_n 0, 1) := by decide +kernel
theorem d1_1 : decode prog_4_method_8_code 1 = .ok (.i2l, 1) := by decide +kernel
theorem d1_2 : decode prog_4_method_8_code 2 = .ok (.iconst 1, 1) := by decide +kernel
theorem d1_3 : decode prog_4_method_8_code 3 = .ok (.iload_n 1, 1) := by decide +kernel
theorem d1_4 : decode prog_4_method_8_code 4 = .ok (.ishl, 1) := by decide +kernel
theorem d1_5 : decode prog_4_method_8_code 5 = .ok (.i2l, 1) := by decide +kernel
theorem d1_6 : decode prog_4_method_8_code 6 = .ok (.ladd, 1) := by decide +kernel
theorem d1_7 : decode prog_4_method_8_code 7 = .ok (.lconst 1, 1) := by decide +kernel
theorem d1_8 : decode prog_4_method_8_code 8 = .ok (.lsub, 1) := by decide +kernel
theorem d1_9 : decode prog_4_method_8_code 9 = .ok (.iload_n 1, 1) := by decide +kernel
theorem d1_10 : decode prog_4_method_8_code 10 = .ok (.lushr, 1) := by decide +kernel
theorem d1_11 : decode prog_4_method_8_code 11 = .ok (.l2i, 1) := by decide +kernel
theorem d1_12 : decode prog_4_method_8_code 12 = .ok (.ireturn, 1) := by decide +kernel
theorem ef_1 (m : MethodId) (p0 : Int32) (p1 : Int32) : entryFrame m #[(.int p0), (.int p1)] 2 = (mkF m 0 #[.val (.int p0), .val (.int p1)] []) := by first | (simp [entryFrame, mkF, argsToLocals, Value.category]; done) | rfl
def f_1 (p0 : Int32) (p1 : Int32) : Int32 := ((ushrL (((p0.toInt64) + (((1 : Int32) <<< (p1 &&& 31)).toInt64)) - (1 : Int64)) p1).toInt32)
def Q_1 (p0 : Int32) (p1 : Int32) (h0 : Heap) (n0 : Nat) (v : Option Value) (h : Heap) (L : List Loc) : Prop := v = some (.int (f_1 p0 p1)) ∧ Fr n0 L ∧ h = h0
set_option maxRecDepth 65536 in
set_option maxHeartbeats 40000000 in
theorem rm_1 (l : Launch) (Z : State) (a0 : Array Value) (hw : ∀ d ∈ tables_1, d.before a0 Z = true) (ws : List Jvm.Cond) (p0 : Int32) (p1 : Int32) (h0 : Heap) (n0 : Nat) (Z0 : n0 ≤ h0.size) :
    MetFree l (⟨"com/example/nimblepack/nimblepack/Blocks", "blockCount", "(II)I"⟩ : MethodName) (head1 (Jvm.Cond.code (⟨"com/example/nimblepack/nimblepack/Blocks", "blockCount", "(II)I"⟩ : MethodName) prog_4_method_8_code 2 (some .int) :: ws) ({ frames := 0, cells := 0, slots := 0, locals := 0 } : Room)) (fun a U => a = #[(.int p0), (.int p1)] ∧ Z.Warmed39 U.vm ∧ U.heap = h0) (fun _ _ _ _ _ => True) (fun _ U o U' => ∃ v L, o = .returned v ∧ Q_1 p0 p1 h0 n0 v U'.heap L ∧ FrameEnd U o U' L ({ frames := 0, cells := 0, slots := 0, locals := 0 } : Room).cells ({ frames := 0, cells := 0, slots := 0, locals := 0 } : Room).slots) := by
  refine MetFree.of_bodySF (plainFor_of_name pn_0) hisR ?_
  intro p e s m args below meth c s₁ Bd hml0 hP hK
  obtain ⟨rfl, hZ, hh⟩ := hP
  have hx := Bd.exec
  have hby := Bd.bytes
  have hml : c.maxLocals = 2 := hml0
  have hown : s.vm.findClass "com/example/nimblepack/nimblepack/Blocks" = some m.cls := findClass_of_methodNamed Bd.named
  have X0 : Stand p l e ({ frames := 0, cells := 0, slots := 0, locals := 0 } : Room) s m #[(.int p0), (.int p1)] below meth c s₁ [] 0 0 := Stand.of_body Bd
  have e0 : s₁.heap = h0 := by rw [← hh, Bd.state]; rfl
  have N0 := Fr.nil n0
  show Go p e below s (Q_1 p0 p1 h0 n0) 0 0 s₁ (entryFrame m #[(.int p0), (.int p1)] 2)
  refine Go.of_eq (ef_1 m p0 p1) ?_
  refine Go.st (mkF m 1 #[.val (.int p0), .val (.int p1)] [(.int p0)]) (fun _ k => XS.iloadN X0.here hx rfl (hb hby d1_0) rfl k) ?_
  refine Go.st (mkF m 2 #[.val (.int p0), .val (.int p1)] [(.long (p0.toInt64))]) (fun _ k => XT.i2l X0.here hx rfl (hb hby d1_1) rfl k) ?_
  refine Go.st (mkF m 3 #[.val (.int p0), .val (.int p1)] [(.int (1 : Int32)), (.long (p0.toInt64))]) (fun _ k => XS.iconst X0.here hx rfl (hb hby d1_2) k) ?_
  refine Go.st (mkF m 4 #[.val (.int p0), .val (.int p1)] [(.int p1), (.int (1 : Int32)), (.long (p0.toInt64))]) (fun _ k => XS.iloadN X0.here hx rfl (hb hby d1_3) rfl k) ?_
  refine Go.st (mkF m 5 #[.val (.int p0), .val (.int p1)] [(.int ((1 : Int32) <<< (p1 &&& 31))), (.long (p0.toInt64))]) (fun _ k => XT.ishl X0.here hx rfl (hb hby d1_4) rfl k) ?_
  refine Go.st (mkF m 6 #[.val (.int p0), .val (.int p1)] [(.long (((1 : Int32) <<< (p1 &&& 31)).toInt64)), (.long (p0.toInt64))]) (fun _ k => XT.i2l X0.here hx rfl (hb hby d1_5) rfl k) ?_
  refine Go.st (mkF m 7 #[.val (.int p0), .val (.int p1)] [(.long ((p0.toInt64) + (((1 : Int32) <<< (p1 &&& 31)).toInt64)))]) (fun _ k => XT.ladd X0.here hx rfl (hb hby d1_6) rfl k) ?_
  refine Go.st (mkF m 8 #[.val (.int p0), .val (.int p1)] [(.long (1 : Int64)), (.long ((p0.toInt64) + (((1 : Int32) <<< (p1 &&& 31)).toInt64)))]) (fun _ k => XT.lconst X0.here hx rfl (hb hby d1_7) k) ?_
  refine Go.st (mkF m 9 #[.val (.int p0), .val (.int p1)] [(.long (((p0.toInt64) + (((1 : Int32) <<< (p1 &&& 31)).toInt64)) - (1 : Int64)))]) (fun _ k => XT.lsub X0.here hx rfl (hb hby d1_8) rfl k) ?_
  refine Go.st (mkF m 10 #[.val (.int p0), .val (.int p1)] [(.int p1), (.long (((p0.toInt64) + (((1 : Int32) <<< (p1 &&& 31)).toInt64)) - (1 : Int64)))]) (fun _ k => XS.iloadN X0.here hx rfl (hb hby d1_9) rfl k) ?_
  refine Go.st (mkF m 11 #[.val (.int p0), .val (.int p1)] [(.long (ushrL (((p0.toInt64) + (((1 : Int32) <<< (p1 &&& 31)).toInt64)) - (1 : Int64)) p1))]) (fun _ k => XT.lushr X0.here hx rfl (hb hby d1_10) rfl k) ?_
  refine Go.st (mkF m 12 #[.val (.int p0), .val (.int p1)] [(.int ((ushrL (((p0.toInt64) + (((1 : Int32) <<< (p1 &&& 31)).toInt64)) - (1 : Int64)) p1).toInt32))]) (fun _ k => XT.l2i X0.here hx rfl (hb hby d1_11) rfl k) ?_
  exact Go.retI X0 hx Bd.notSynchronized Bd.returns (hb hby d1_12) ⟨congrArg (fun z => some (Value.int z)) (show ((ushrL (((p0.toInt64) + (((1 : Int32) <<< (p1 &&& 31)).toInt64)) - (1 : Int64)) p1).toInt32) = f_1 p0 p1 from by unfold f_1; first | done | rfl), N0, e0⟩ (by decide) (by decide)
theorem pd_0 : parseMethodDescriptor "(II)I" = some ⟨[.int, .int], some .int⟩ := by decide +kernel
theorem pn_1 : plainName "com/example/nimblepack/nimblepack/BlocksBlockCountPinLaw" = true := by first | (simp [plainName, overriddenIn]; done) | decide +kernel
theorem ef_0 (m : MethodId) (p0 : Int32) (p1 : Int32) : entryFrame m #[(.int p0), (.int p1)] maxLocals = (mkF m 0 #[.val (.int p0), .val (.int p1), .unset, .unset, .unset, .unset, .unset, .unset] []) := by first | (simp [entryFrame, mkF, argsToLocals, Value.category, maxLocals]; done) | rfl
def v_count (p0 : Int32) : Int32 := (p0 &&& (2147483647 : Int32))
def v_shift (p1 : Int32) : Int32 := ((p1 &&& (2147483647 : Int32)) - ((p1 &&& (2147483647 : Int32)) / (31 : Int32)) * (31 : Int32))
def v_full (p0 : Int32) (p1 : Int32) : Int32 := (ushr (v_count p0) (v_shift p1))
def v_rest (p0 : Int32) (p1 : Int32) : Int32 := ((v_count p0) &&& (((1 : Int32) <<< ((v_shift p1) &&& 31)) - (1 : Int32)))
def j0_36_S0 (p0 : Int32) (p1 : Int32) : Int32 := (if (v_rest p0 p1) = (0 : Int32) then (v_full p0 p1) else ((v_full p0 p1) + (1 : Int32)))
def f_0 (p0 : Int32) (p1 : Int32) : Int32 := (if (f_1 (v_count p0) (v_shift p1)) = (j0_36_S0 p0 p1) then (1 : Int32) else (0 : Int32))
def Q_0 (p0 : Int32) (p1 : Int32) (h0 : Heap) (n0 : Nat) (v : Option Value) (h : Heap) (L : List Loc) : Prop := v = some (.int (f_0 p0 p1)) ∧ Fr n0 L ∧ h = h0
set_option maxRecDepth 65536 in
set_option maxHeartbeats 40000000 in
theorem rm_0 (l : Launch) (Z : State) (a0 : Array Value) (hw : ∀ d ∈ tables_1, d.before a0 Z = true) (ws : List Jvm.Cond) (p0 : Int32) (p1 : Int32) (h0 : Heap) (n0 : Nat) (Z0 : n0 ≤ h0.size) :
    MetFree l x (head1 (Jvm.Cond.code x code maxLocals ret :: ws) room_1) (fun a U => a = #[(.int p0), (.int p1)] ∧ Z.Warmed39 U.vm ∧ U.heap = h0) (fun _ _ _ _ _ => True) (fun _ U o U' => ∃ v L, o = .returned v ∧ Q_0 p0 p1 h0 n0 v U'.heap L ∧ FrameEnd U o U' L 0 0) := by
  refine MetFree.of_bodySF (plainFor_of_name pn_1) hisR ?_
  intro p e s m args below meth c s₁ Bd hml0 hP hK
  obtain ⟨rfl, hZ, hh⟩ := hP
  have hx := Bd.exec
  have hby := Bd.bytes
  have hml : c.maxLocals = 8 := hml0
  have hown : s.vm.findClass "com/example/nimblepack/nimblepack/BlocksBlockCountPinLaw" = some m.cls := findClass_of_methodNamed Bd.named
  have X0 : Stand p l e room_1 s m #[(.int p0), (.int p1)] below meth c s₁ [] 0 0 := Stand.of_body Bd
  have e0 : s₁.heap = h0 := by rw [← hh, Bd.state]; rfl
  have N0 := Fr.nil n0
  show Go p e below s (Q_0 p0 p1 h0 n0) 0 0 s₁ (entryFrame m #[(.int p0), (.int p1)] maxLocals)
  refine Go.of_eq (ef_0 m p0 p1) ?_
  refine Go.st (mkF m 1 #[.val (.int p0), .val (.int p1), .unset, .unset, .unset, .unset, .unset, .unset] [(.int p0)]) (fun _ k => XS.iloadN X0.here hx rfl (hb hby at_0) rfl k) ?_
  refine Go.st (mkF m 3 #[.val (.int p0), .val (.int p1), .unset, .unset, .unset, .unset, .unset, .unset] [(.int (2147483647 : Int32)), (.int p0)]) (fun _ k => X0.ldcInt hx hown (mvT hZ (hw _ (List.mem_of_getElem? (i := 0) rfl))) (g := (mkF m 1 #[.val (.int p0), .val (.int p1), .unset, .unset, .unset, .unset, .unset, .unset] [(.int p0)])) rfl (hb hby at_1) _ k) ?_
  refine Go.st (mkF m 4 #[.val (.int p0), .val (.int p1), .unset, .unset, .unset, .unset, .unset, .unset] [(.int (p0 &&& (2147483647 : Int32)))]) (fun _ k => XS.iand X0.here hx rfl (hb hby at_3) rfl k) ?_
  refine Go.st (mkF m 5 #[.val (.int p0), .val (.int p1), .val (.int (v_count p0)), .unset, .unset, .unset, .unset, .unset] []) (fun _ k => XS.istoreN X0.here hx rfl (hb hby at_4) rfl (l' := #[.val (.int p0), .val (.int p1), .val (.int (v_count p0)), .unset, .unset, .unset, .unset, .unset]) rfl k) ?_
  refine Go.st (mkF m 6 #[.val (.int p0), .val (.int p1), .val (.int (v_count p0)), .unset, .unset, .unset, .unset, .unset] [(.int p1)]) (fun _ k => XS.iloadN X0.here hx rfl (hb hby at_5) rfl k) ?_
  refine Go.st (mkF m 8 #[.val (.int p0), .val (.int p1), .val (.int (v_count p0)), .unset, .unset, .unset, .unset, .unset] [(.int (2147483647 : Int32)), (.int p1)]) (fun _ k => X0.ldcInt hx hown (mvT hZ (hw _ (List.mem_of_getElem? (i := 0) rfl))) (g := (mkF m 6 #[.val (.int p0), .val (.int p1), .val (.int (v_count p0)), .unset, .unset, .unset, .unset, .unset] [(.int p1)])) rfl (hb hby at_6) _ k) ?_
  refine Go.st (mkF m 9 #[.val (.int p0), .val (.int p1), .val (.int (v_count p0)), .unset, .unset, .unset, .unset, .unset] [(.int (p1 &&& (2147483647 : Int32)))]) (fun _ k => XS.iand X0.here hx rfl (hb hby at_8) rfl k) ?_
  refine Go.st (mkF m 11 #[.val (.int p0), .val (.int p1), .val (.int (v_count p0)), .unset, .unset, .unset, .unset, .unset] [(.int (31 : Int32)), (.int (p1 &&& (2147483647 : Int32)))]) (fun _ k => XS.bipush X0.here hx rfl (hb hby at_9) k) ?_
  refine Go.st (mkF m 12 #[.val (.int p0), .val (.int p1), .val (.int (v_count p0)), .unset, .unset, .unset, .unset, .unset] [(.int ((p1 &&& (2147483647 : Int32)) - ((p1 &&& (2147483647 : Int32)) / (31 : Int32)) * (31 : Int32)))]) (fun _ k => XS.irem X0.here hx rfl (hb hby at_11) rfl (by decide) k) ?_
  refine Go.st (mkF m 13 #[.val (.int p0), .val (.int p1), .val (.int (v_count p0)), .val (.int (v_shift p1)), .unset, .unset, .unset, .unset] []) (fun _ k => XS.istoreN X0.here hx rfl (hb hby at_12) rfl (l' := #[.val (.int p0), .val (.int p1), .val (.int (v_count p0)), .val (.int (v_shift p1)), .unset, .unset, .unset, .unset]) rfl k) ?_
  refine Go.st (mkF m 14 #[.val (.int p0), .val (.int p1), .val (.int (v_count p0)), .val (.int (v_shift p1)), .unset, .unset, .unset, .unset] [(.int (v_count p0))]) (fun _ k => XS.iloadN X0.here hx rfl (hb hby at_13) rfl k) ?_
  refine Go.st (mkF m 15 #[.val (.int p0), .val (.int p1), .val (.int (v_count p0)), .val (.int (v_shift p1)), .unset, .unset, .unset, .unset] [(.int (v_shift p1)), (.int (v_count p0))]) (fun _ k => XS.iloadN X0.here hx rfl (hb hby at_14) rfl k) ?_
  obtain ⟨_, _, ⟨T1, L1, k1, n1⟩, -, X1, ⟨Lc1, hQ1, l1, y1, z1⟩, st1⟩ := Jvm.LawKit.callS X0 hx (y := (⟨"com/example/nimblepack/nimblepack/Blocks", "blockCount", "(II)I"⟩ : MethodName)) hown (mvT hZ (hw _ (List.mem_of_getElem? (i := 1) rfl))) (mvT hZ (hw _ (List.mem_of_getElem? (i := 2) rfl))) (mvT hZ (hw _ (List.mem_of_getElem? (i := 3) rfl))) (mvT hZ (hw _ (List.mem_of_getElem? (i := 4) rfl))) (by decide) (backOf (W := 0) (rm_1 l Z a0 hw [] (v_count p0) (v_shift p1) h0 n0 Z0) hZ (hw _ (List.mem_of_getElem? (i := 4) rfl)) (hw _ (List.mem_of_getElem? (i := 3) rfl)) (by decide) (by decide)) (g := (mkF m 15 #[.val (.int p0), .val (.int p1), .val (.int (v_count p0)), .val (.int (v_shift p1)), .unset, .unset, .unset, .unset] [(.int (v_shift p1)), (.int (v_count p0))])) rfl (by rw [hml]; rfl) (argsL := [(.int (v_count p0)), (.int (v_shift p1))]) (rest := []) (lenOf pd_0 rfl) rfl (by show 2 * 0 + _ ≤ _; exact Nat.le_of_eq rfl) (hb hby at_15) (fun _ _ => ⟨rfl, e0, (by decide : 0 + 0 ≤ _), (by decide : 0 + 0 ≤ _)⟩)
  dsimp only [Pt.U, Pt.locs, Pt.cells, Pt.slots] at X1 l1 y1 z1 st1 hQ1
  subst l1 y1 z1
  obtain ⟨rfl, N1q, e1⟩ := hQ1
  have N1 := Fr.app N0 N1q
  refine Go.st (mkF m 18 #[.val (.int p0), .val (.int p1), .val (.int (v_count p0)), .val (.int (v_shift p1)), .unset, .unset, .unset, .unset] [(.int (f_1 (v_count p0) (v_shift p1)))]) (fun _ k => st1 _ k) ?_
  refine Go.st (mkF m 20 #[.val (.int p0), .val (.int p1), .val (.int (v_count p0)), .val (.int (v_shift p1)), .val (.int (f_1 (v_count p0) (v_shift p1))), .unset, .unset, .unset] []) (fun _ k => XS.istore X1.here hx rfl (hb hby at_18) rfl (l' := #[.val (.int p0), .val (.int p1), .val (.int (v_count p0)), .val (.int (v_shift p1)), .val (.int (f_1 (v_count p0) (v_shift p1))), .unset, .unset, .unset]) rfl k) ?_
  refine Go.st (mkF m 21 #[.val (.int p0), .val (.int p1), .val (.int (v_count p0)), .val (.int (v_shift p1)), .val (.int (f_1 (v_count p0) (v_shift p1))), .unset, .unset, .unset] [(.int (v_count p0))]) (fun _ k => XS.iloadN X1.here hx rfl (hb hby at_20) rfl k) ?_
  refine Go.st (mkF m 22 #[.val (.int p0), .val (.int p1), .val (.int (v_count p0)), .val (.int (v_shift p1)), .val (.int (f_1 (v_count p0) (v_shift p1))), .unset, .unset, .unset] [(.int (v_shift p1)), (.int (v_count p0))]) (fun _ k => XS.iloadN X1.here hx rfl (hb hby at_21) rfl k) ?_
  refine Go.st (mkF m 23 #[.val (.int p0), .val (.int p1), .val (.int (v_count p0)), .val (.int (v_shift p1)), .val (.int (f_1 (v_count p0) (v_shift p1))), .unset, .unset, .unset] [(.int (ushr (v_count p0) (v_shift p1)))]) (fun _ k => XT.iushr X1.here hx rfl (hb hby at_22) rfl k) ?_
  refine Go.st (mkF m 25 #[.val (.int p0), .val (.int p1), .val (.int (v_count p0)), .val (.int (v_shift p1)), .val (.int (f_1 (v_count p0) (v_shift p1))), .val (.int (v_full p0 p1)), .unset, .unset] []) (fun _ k => XS.istore X1.here hx rfl (hb hby at_23) rfl (l' := #[.val (.int p0), .val (.int p1), .val (.int (v_count p0)), .val (.int (v_shift p1)), .val (.int (f_1 (v_count p0) (v_shift p1))), .val (.int (v_full p0 p1)), .unset, .unset]) rfl k) ?_
  refine Go.st (mkF m 26 #[.val (.int p0), .val (.int p1), .val (.int (v_count p0)), .val (.int (v_shift p1)), .val (.int (f_1 (v_count p0) (v_shift p1))), .val (.int (v_full p0 p1)), .unset, .unset] [(.int (v_count p0))]) (fun _ k => XS.iloadN X1.here hx rfl (hb hby at_25) rfl k) ?_
  refine Go.st (mkF m 27 #[.val (.int p0), .val (.int p1), .val (.int (v_count p0)), .val (.int (v_shift p1)), .val (.int (f_1 (v_count p0) (v_shift p1))), .val (.int (v_full p0 p1)), .unset, .unset] [(.int (1 : Int32)), (.int (v_count p0))]) (fun _ k => XS.iconst X1.here hx rfl (hb hby at_26) k) ?_
  refine Go.st (mkF m 28 #[.val (.int p0), .val (.int p1), .val (.int (v_count p0)), .val (.int (v_shift p1)), .val (.int (f_1 (v_count p0) (v_shift p1))), .val (.int (v_full p0 p1)), .unset, .unset] [(.int (v_shift p1)), (.int (1 : Int32)), (.int (v_count p0))]) (fun _ k => XS.iloadN X1.here hx rfl (hb hby at_27) rfl k) ?_
  refine Go.st (mkF m 29 #[.val (.int p0), .val (.int p1), .val (.int (v_count p0)), .val (.int (v_shift p1)), .val (.int (f_1 (v_count p0) (v_shift p1))), .val (.int (v_full p0 p1)), .unset, .unset] [(.int ((1 : Int32) <<< ((v_shift p1) &&& 31))), (.int (v_count p0))]) (fun _ k => XT.ishl X1.here hx rfl (hb hby at_28) rfl k) ?_
  refine Go.st (mkF m 30 #[.val (.int p0), .val (.int p1), .val (.int (v_count p0)), .val (.int (v_shift p1)), .val (.int (f_1 (v_count p0) (v_shift p1))), .val (.int (v_full p0 p1)), .unset, .unset] [(.int (1 : Int32)), (.int ((1 : Int32) <<< ((v_shift p1) &&& 31))), (.int (v_count p0))]) (fun _ k => XS.iconst X1.here hx rfl (hb hby at_29) k) ?_
  refine Go.st (mkF m 31 #[.val (.int p0), .val (.int p1), .val (.int (v_count p0)), .val (.int (v_shift p1)), .val (.int (f_1 (v_count p0) (v_shift p1))), .val (.int (v_full p0 p1)), .unset, .unset] [(.int (((1 : Int32) <<< ((v_shift p1) &&& 31)) - (1 : Int32))), (.int (v_count p0))]) (fun _ k => XS.isub X1.here hx rfl (hb hby at_30) rfl k) ?_
  refine Go.st (mkF m 32 #[.val (.int p0), .val (.int p1), .val (.int (v_count p0)), .val (.int (v_shift p1)), .val (.int (f_1 (v_count p0) (v_shift p1))), .val (.int (v_full p0 p1)), .unset, .unset] [(.int ((v_count p0) &&& (((1 : Int32) <<< ((v_shift p1) &&& 31)) - (1 : Int32))))]) (fun _ k => XS.iand X1.here hx rfl (hb hby at_31) rfl k) ?_
  refine Go.st (mkF m 34 #[.val (.int p0), .val (.int p1), .val (.int (v_count p0)), .val (.int (v_shift p1)), .val (.int (f_1 (v_count p0) (v_shift p1))), .val (.int (v_full p0 p1)), .val (.int (v_rest p0 p1)), .unset] []) (fun _ k => XS.istore X1.here hx rfl (hb hby at_32) rfl (l' := #[.val (.int p0), .val (.int p1), .val (.int (v_count p0)), .val (.int (v_shift p1)), .val (.int (f_1 (v_count p0) (v_shift p1))), .val (.int (v_full p0 p1)), .val (.int (v_rest p0 p1)), .unset]) rfl k) ?_
  refine Go.st (mkF m 36 #[.val (.int p0), .val (.int p1), .val (.int (v_count p0)), .val (.int (v_shift p1)), .val (.int (f_1 (v_count p0) (v_shift p1))), .val (.int (v_full p0 p1)), .val (.int (v_rest p0 p1)), .unset] [(.int (v_rest p0 p1))]) (fun _ k => XS.iload X1.here hx rfl (hb hby at_34) rfl k) ?_
  have J36 : Go p e below s (Q_0 p0 p1 h0 n0) 0 0 T1 (mkF m 48 #[.val (.int p0), .val (.int p1), .val (.int (v_count p0)), .val (.int (v_shift p1)), .val (.int (f_1 (v_count p0) (v_shift p1))), .val (.int (v_full p0 p1)), .val (.int (v_rest p0 p1)), .unset] [(.int (j0_36_S0 p0 p1))]) := by
    refine Go.st (mkF m 50 #[.val (.int p0), .val (.int p1), .val (.int (v_count p0)), .val (.int (v_shift p1)), .val (.int (f_1 (v_count p0) (v_shift p1))), .val (.int (v_full p0 p1)), .val (.int (v_rest p0 p1)), .val (.int (j0_36_S0 p0 p1))] []) (fun _ k => XS.istore X1.here hx rfl (hb hby at_48) rfl (l' := #[.val (.int p0), .val (.int p1), .val (.int (v_count p0)), .val (.int (v_shift p1)), .val (.int (f_1 (v_count p0) (v_shift p1))), .val (.int (v_full p0 p1)), .val (.int (v_rest p0 p1)), .val (.int (j0_36_S0 p0 p1))]) rfl k) ?_
    refine Go.st (mkF m 52 #[.val (.int p0), .val (.int p1), .val (.int (v_count p0)), .val (.int (v_shift p1)), .val (.int (f_1 (v_count p0) (v_shift p1))), .val (.int (v_full p0 p1)), .val (.int (v_rest p0 p1)), .val (.int (j0_36_S0 p0 p1))] [(.int (f_1 (v_count p0) (v_shift p1)))]) (fun _ k => XS.iload X1.here hx rfl (hb hby at_50) rfl k) ?_
    refine Go.st (mkF m 54 #[.val (.int p0), .val (.int p1), .val (.int (v_count p0)), .val (.int (v_shift p1)), .val (.int (f_1 (v_count p0) (v_shift p1))), .val (.int (v_full p0 p1)), .val (.int (v_rest p0 p1)), .val (.int (j0_36_S0 p0 p1))] [(.int (j0_36_S0 p0 p1)), (.int (f_1 (v_count p0) (v_shift p1)))]) (fun _ k => XS.iload X1.here hx rfl (hb hby at_52) rfl k) ?_
    by_cases hc54_3 : (f_1 (v_count p0) (v_shift p1)) = (j0_36_S0 p0 p1)
    ·
      refine Go.st (mkF m 57 #[.val (.int p0), .val (.int p1), .val (.int (v_count p0)), .val (.int (v_shift p1)), .val (.int (f_1 (v_count p0) (v_shift p1))), .val (.int (v_full p0 p1)), .val (.int (v_rest p0 p1)), .val (.int (j0_36_S0 p0 p1))] []) (fun _ k => XS.icmpNo X1.here hx rfl (hb hby at_54) rfl (teq hc54_3).2 k) ?_
      refine Go.st (mkF m 58 #[.val (.int p0), .val (.int p1), .val (.int (v_count p0)), .val (.int (v_shift p1)), .val (.int (f_1 (v_count p0) (v_shift p1))), .val (.int (v_full p0 p1)), .val (.int (v_rest p0 p1)), .val (.int (j0_36_S0 p0 p1))] [(.int (1 : Int32))]) (fun _ k => XS.iconst X1.here hx rfl (hb hby at_57) k) ?_
      refine Go.st (mkF m 62 #[.val (.int p0), .val (.int p1), .val (.int (v_count p0)), .val (.int (v_shift p1)), .val (.int (f_1 (v_count p0) (v_shift p1))), .val (.int (v_full p0 p1)), .val (.int (v_rest p0 p1)), .val (.int (j0_36_S0 p0 p1))] [(.int (1 : Int32))]) (fun _ k => XS.goto X1.here hx rfl (pc0 := 58) (pc' := 62) rfl (hb hby at_58) (by decide) (by decide) k) ?_
      exact Go.retZ X1 hx Bd.notSynchronized (t := .boolean) (by simp) Bd.returns (hb hby at_62) ⟨congrArg (fun z => some (Value.int z)) (show nar .boolean (1 : Int32) = f_0 p0 p1 from by unfold f_0; rw [if_pos hc54_3]; first | done | rfl), N1, e1⟩ (by decide) (by decide)
    ·
      refine Go.st (mkF m 61 #[.val (.int p0), .val (.int p1), .val (.int (v_count p0)), .val (.int (v_shift p1)), .val (.int (f_1 (v_count p0) (v_shift p1))), .val (.int (v_full p0 p1)), .val (.int (v_rest p0 p1)), .val (.int (j0_36_S0 p0 p1))] []) (fun _ k => XS.icmpYes X1.here hx rfl (pc0 := 54) (pc' := 61) rfl (hb hby at_54) rfl (feq hc54_3).2 (by decide) (by decide) k) ?_
      refine Go.st (mkF m 62 #[.val (.int p0), .val (.int p1), .val (.int (v_count p0)), .val (.int (v_shift p1)), .val (.int (f_1 (v_count p0) (v_shift p1))), .val (.int (v_full p0 p1)), .val (.int (v_rest p0 p1)), .val (.int (j0_36_S0 p0 p1))] [(.int (0 : Int32))]) (fun _ k => XS.iconst X1.here hx rfl (hb hby at_61) k) ?_
      exact Go.retZ X1 hx Bd.notSynchronized (t := .boolean) (by simp) Bd.returns (hb hby at_62) ⟨congrArg (fun z => some (Value.int z)) (show nar .boolean (0 : Int32) = f_0 p0 p1 from by unfold f_0; rw [if_neg hc54_3]; first | done | rfl), N1, e1⟩ (by decide) (by decide)
  by_cases hc36_2 : (v_rest p0 p1) = (0 : Int32)
  ·
    refine Go.st (mkF m 46 #[.val (.int p0), .val (.int p1), .val (.int (v_count p0)), .val (.int (v_shift p1)), .val (.int (f_1 (v_count p0) (v_shift p1))), .val (.int (v_full p0 p1)), .val (.int (v_rest p0 p1)), .unset] []) (fun _ k => XS.ifYes X1.here hx rfl (pc0 := 36) (pc' := 46) rfl (hb hby at_36) rfl ((if0 _ _).trans (teq hc36_2).1) (by decide) (by decide) k) ?_
    refine Go.st (mkF m 48 #[.val (.int p0), .val (.int p1), .val (.int (v_count p0)), .val (.int (v_shift p1)), .val (.int (f_1 (v_count p0) (v_shift p1))), .val (.int (v_full p0 p1)), .val (.int (v_rest p0 p1)), .unset] [(.int (v_full p0 p1))]) (fun _ k => XS.iload X1.here hx rfl (hb hby at_46) rfl k) ?_
    rw [show (j0_36_S0 p0 p1) = (v_full p0 p1) from by unfold j0_36_S0; rw [if_pos hc36_2]] at J36
    exact J36
  ·
    refine Go.st (mkF m 39 #[.val (.int p0), .val (.int p1), .val (.int (v_count p0)), .val (.int (v_shift p1)), .val (.int (f_1 (v_count p0) (v_shift p1))), .val (.int (v_full p0 p1)), .val (.int (v_rest p0 p1)), .unset] []) (fun _ k => XS.ifNo X1.here hx rfl (hb hby at_36) rfl ((if0 _ _).trans (feq hc36_2).1) k) ?_
    refine Go.st (mkF m 41 #[.val (.int p0), .val (.int p1), .val (.int (v_count p0)), .val (.int (v_shift p1)), .val (.int (f_1 (v_count p0) (v_shift p1))), .val (.int (v_full p0 p1)), .val (.int (v_rest p0 p1)), .unset] [(.int (v_full p0 p1))]) (fun _ k => XS.iload X1.here hx rfl (hb hby at_39) rfl k) ?_
    refine Go.st (mkF m 42 #[.val (.int p0), .val (.int p1), .val (.int (v_count p0)), .val (.int (v_shift p1)), .val (.int (f_1 (v_count p0) (v_shift p1))), .val (.int (v_full p0 p1)), .val (.int (v_rest p0 p1)), .unset] [(.int (1 : Int32)), (.int (v_full p0 p1))]) (fun _ k => XS.iconst X1.here hx rfl (hb hby at_41) k) ?_
    refine Go.st (mkF m 43 #[.val (.int p0), .val (.int p1), .val (.int (v_count p0)), .val (.int (v_shift p1)), .val (.int (f_1 (v_count p0) (v_shift p1))), .val (.int (v_full p0 p1)), .val (.int (v_rest p0 p1)), .unset] [(.int ((v_full p0 p1) + (1 : Int32)))]) (fun _ k => XS.iadd X1.here hx rfl (hb hby at_42) rfl k) ?_
    refine Go.st (mkF m 48 #[.val (.int p0), .val (.int p1), .val (.int (v_count p0)), .val (.int (v_shift p1)), .val (.int (f_1 (v_count p0) (v_shift p1))), .val (.int (v_full p0 p1)), .val (.int (v_rest p0 p1)), .unset] [(.int ((v_full p0 p1) + (1 : Int32)))]) (fun _ k => XS.goto X1.here hx rfl (pc0 := 43) (pc' := 48) rfl (hb hby at_43) (by decide) (by decide) k) ?_
    rw [show (j0_36_S0 p0 p1) = ((v_full p0 p1) + (1 : Int32)) from by unfold j0_36_S0; rw [if_neg hc36_2]] at J36
    exact J36
theorem own_rem (x : Int32) (hx : 0 ≤ x.toInt) : (x - (x / (31 : Int32)) * (31 : Int32)).toInt = x.toInt % 31 := by
  have e : (31 : Int32).toInt = 31 := by decide
  have d : (x / (31 : Int32)).toInt = x.toInt.tdiv (31 : Int32).toInt := Jvm.Kit.i32_div (fun q => by rw [e] at q; omega)
  rw [e, Int.tdiv_eq_ediv_of_nonneg hx] at d
  have h := x.toInt_lt
  have m : ((x / (31 : Int32)) * (31 : Int32)).toInt = (x / (31 : Int32)).toInt * (31 : Int32).toInt := Jvm.Kit.i32_mul (by rw [d, e]; omega) (by rw [d, e]; omega)
  rw [d, e] at m
  rw [Jvm.Kit.i32_sub (by rw [m]; omega) (by rw [m]; omega), m]
  omega
theorem own_cnt (p : Int32) : 0 ≤ (v_count p).toInt := by
  unfold v_count
  rw [Jvm.Kit.i32_mask _ 2147483647 (k := 31) (by decide) (by decide)]
  omega
theorem own_shift (p : Int32) : ∃ k : Fin 31, v_shift p = Int32.ofNat k.val := by
  have e : (p &&& (2147483647 : Int32)).toInt = p.toInt % 2 ^ 31 := Jvm.Kit.i32_mask _ 2147483647 (k := 31) (by decide) (by decide)
  have r : (v_shift p).toInt = (p &&& (2147483647 : Int32)).toInt % 31 := own_rem (p &&& (2147483647 : Int32)) (by omega)
  exact own_small 31 (v_shift p) (by omega) (by omega) (by decide)
theorem own_k1 : ∀ k : Fin 31, (((Int32.ofNat k.val) &&& 31).toBitVec.smod 32).toNat = k.val := by decide +kernel
theorem own_k2 : ∀ k : Fin 31, ((Int32.ofNat k.val).toInt64.toUInt64 &&& Int64.toUInt64 63).toNat = k.val := by decide +kernel
theorem own_k3 : ∀ k : Fin 31, ((Int32.ofNat k.val &&& 31).toUInt32).toNat = k.val := by decide +kernel
theorem own_k4 : ∀ k : Fin 31, (((1 : Int32) <<< ((Int32.ofNat k.val) &&& 31)) - (1 : Int32)).toBitVec.toNat = 2 ^ k.val - 1 := by decide +kernel
theorem own_k5 : ∀ k : Fin 31, 1 ≤ (2 : Int) ^ k.val ∧ (2 : Int) ^ k.val ≤ 1073741824 := by decide +kernel
theorem own_ceil (C P : Int) (hC : 0 ≤ C) (hP : 1 ≤ P) : (C % P = 0 → (C + P - 1) / P = C / P) ∧ (¬ C % P = 0 → (C + P - 1) / P = C / P + 1 ∧ C / P + 1 ≤ C) ∧ 0 ≤ C / P ∧ C / P ≤ C := by
  have h := Int.emod_add_mul_ediv C P
  have r0 := Int.emod_nonneg C (show P ≠ 0 by omega)
  have r1 := Int.emod_lt_of_pos C (show 0 < P by omega)
  have q0 : 0 ≤ C / P := Int.ediv_nonneg hC (by omega)
  have m : 0 ≤ (P - 1) * (C / P) := Int.mul_nonneg (by omega) q0
  rw [Int.sub_mul, Int.one_mul] at m
  generalize C / P = q at *
  generalize C % P = r at *
  refine ⟨fun e => ?_, fun e => ⟨?_, by omega⟩, q0, by omega⟩
  · have : C + P - 1 = (P - 1) + P * q := by omega
    rw [this, Int.add_mul_ediv_left _ _ (by omega), Int.ediv_eq_zero_of_lt (by omega) (by omega)]; omega
  · have : C + P - 1 = (r - 1) + P * (q + 1) := by rw [Int.mul_add, Int.mul_one]; omega
    rw [this, Int.add_mul_ediv_left _ _ (by omega), Int.ediv_eq_zero_of_lt (by omega) (by omega)]; omega
theorem own_eq (c : Int32) (hc : 0 ≤ c.toInt) (k : Fin 31) : f_1 c (Int32.ofNat k.val) = if (c &&& (((1 : Int32) <<< ((Int32.ofNat k.val) &&& 31)) - (1 : Int32))) = 0 then ushr c (Int32.ofNat k.val) else ushr c (Int32.ofNat k.val) + 1 := by
  obtain ⟨p1, p2⟩ := own_k5 k
  have e1 : (1 : Int32).toInt = 1 := by decide
  have e2 : (1 : Int64).toInt = 1 := by decide
  have hlt := c.toInt_lt
  obtain ⟨q1, q2, q3, q4⟩ := own_ceil c.toInt ((2 : Int) ^ k.val) hc p1
  have rest : (c &&& (((1 : Int32) <<< ((Int32.ofNat k.val) &&& 31)) - (1 : Int32))).toInt = c.toInt % 2 ^ k.val := Jvm.Kit.i32_mask _ _ (k := k.val) (by omega) (own_k4 k)
  have full : (ushr c (Int32.ofNat k.val)).toInt = c.toInt / 2 ^ k.val := Jvm.Kit.i32_iushr (Jvm.Kit.i32_nonneg.mpr hc) (own_k3 k) (by omega)
  have one : ((1 : Int32) <<< ((Int32.ofNat k.val) &&& 31)).toInt = (1 : Int32).toInt * 2 ^ k.val := Jvm.Kit.i32_shl _ _ (own_k1 k) (by rw [e1]; omega) (by rw [e1]; omega)
  rw [e1, Int.one_mul] at one
  generalize hP : (2 : Int) ^ k.val = P at *
  have s1 : (c.toInt64 + ((1 : Int32) <<< ((Int32.ofNat k.val) &&& 31)).toInt64).toInt = c.toInt + P := by
    rw [Jvm.Kit.i64_add (by rw [Int32.toInt_toInt64, Int32.toInt_toInt64, one]; omega) (by rw [Int32.toInt_toInt64, Int32.toInt_toInt64, one]; omega), Int32.toInt_toInt64, Int32.toInt_toInt64, one]
  have s2 : (c.toInt64 + ((1 : Int32) <<< ((Int32.ofNat k.val) &&& 31)).toInt64 - (1 : Int64)).toInt = c.toInt + P - 1 := by
    rw [Jvm.Kit.i64_sub (by rw [s1, e2]; omega) (by rw [s1, e2]; omega), s1, e2]
  have u : (ushrL (c.toInt64 + ((1 : Int32) <<< ((Int32.ofNat k.val) &&& 31)).toInt64 - (1 : Int64)) (Int32.ofNat k.val)).toInt = (c.toInt + P - 1) / P := by
    have := Jvm.Kit.i64_lushr (x := (c.toInt64 + ((1 : Int32) <<< ((Int32.ofNat k.val) &&& 31)).toInt64 - (1 : Int64))) (Jvm.Kit.i64_nonneg.mpr (by rw [s2]; omega)) (own_k2 k) (by omega)
    rw [s2, hP] at this
    exact this
  apply Int32.toInt_inj.mp
  by_cases z : c.toInt % P = 0
  · have z' : (c &&& (((1 : Int32) <<< ((Int32.ofNat k.val) &&& 31)) - (1 : Int32))) = 0 := Int32.toInt_inj.mp (by rw [rest, z]; decide)
    rw [if_pos z', full, ← q1 z, ← u]
    exact Jvm.Kit.i32_of_i64 (by rw [u, q1 z]; omega) (by rw [u, q1 z]; omega)
  · have z' : ¬ (c &&& (((1 : Int32) <<< ((Int32.ofNat k.val) &&& 31)) - (1 : Int32))) = 0 := fun q => z (by rw [← rest, q]; decide)
    obtain ⟨q5, q6⟩ := q2 z
    rw [if_neg z', Jvm.Kit.i32_add (by rw [full, e1]; omega) (by rw [full, e1]; omega), full, e1, ← q5, ← u]
    exact Jvm.Kit.i32_of_i64 (by rw [u, q5]; omega) (by rw [u, q5]; omega)
theorem own_law (x y : Int32) : f_0 x y = 1 := by
  obtain ⟨k, hk⟩ := own_shift y
  unfold f_0 j0_36_S0 v_rest v_full
  rw [hk, if_pos (own_eq _ (own_cnt x) k)]
set_option maxRecDepth 65536 in
set_option maxHeartbeats 40000000 in
theorem comes_1 {Post : Tables → Env → Array Value → State → Outcome → State → Prop} (hpost : ∀ tb e args s v u, (limb_1_1.after args s (.returned v) u = true ∧ limb_1_2.after args s (.returned v) u = true ∧ True) → FrameEnd s (.returned v) u (Jvm.fieldLocs frame_1_writes args s ++ Jvm.arrayLocs frame_1_arrays args s ++ Jvm.staticLocs frame_1_statics s) 0 0 → Post tb e args s (.returned v) u) :
    ArmFor flags0 classFile x code maxLocals ret World_1 tables_1 room_1 Calls_1 rest_1 Pre_1 Post := by
  intro l hfl _ _ p e ha hc hk s m args below hf hA hF happ hP
  obtain ⟨hcalls, hrest, hpre⟩ := hP
  obtain ⟨-, -, -, hnamed, -, -, -, hat⟩ := (Spec.applies_iff hf).mp happ
  obtain ⟨hg, hn⟩ := and_e (Cond.before_iff.mp (show (Jvm.Cond.and given_1 narrow_1).before args s = true from hpre))
  obtain ⟨h1, g0⟩ := and_e hg
  obtain ⟨a0, g1⟩ := and_e g0
  obtain ⟨w0, w1, rfl⟩ : ∃ w0 w1 : Value, args = #[w0, w1] := by
    have hs : args.size = 2 := by simpa [Cond.value, given_1] using h1
    obtain ⟨L⟩ := args
    match L, hs with
    | [w0, w1], _ => exact ⟨w0, w1, rfl⟩
  have hw := fun d (hd : d ∈ tables_1) => atoms_spec (ws := Jvm.Cond.code x code maxLocals ret :: tables_1) hat d (List.mem_cons_of_mem _ hd)
  obtain ⟨i0, e0⟩ := is_v a0
  obtain rfl : w0 = (.int i0) := Option.some.inj e0
  obtain ⟨i1, e1⟩ := is_v g1
  obtain rfl : w1 = (.int i1) := Option.some.inj e1
  obtain ⟨n, o, h1, h2, h3, _, L, rfl, ⟨rfl, N, _⟩, hq⟩ := rm_0 l s _ hw tables_1 i0 i1 s.heap s.heap.size (Nat.le_refl _) p e ha hc hk s m _ below hf ((Spec.applies_iff_loose hf).mp happ).1 ⟨rfl, State.Warmed39.refl s, rfl⟩ trivial
  have ht : f_0 i0 i1 = 1 := own_law i0 i1
  rw [ht] at h3 hq
  refine ⟨n, _, h1, h2, h3, hpost _ _ _ _ _ _ ⟨Cond.after_iff.mpr rfl, Cond.after_iff.mpr (eq_i res_at (Term.int_eval (1)) rfl), trivial⟩ ⟨hq.1, hq.2.1, (hq.2.2.sift fun y hy => Or.inr (N y hy)).mono (by decide) (by decide)⟩⟩
theorem main_1_1 : Claimed_1_1 := comes_1 fun _ _ _ _ _ _ h hF => ⟨h.1, hF⟩
theorem main_1_2 : Claimed_1_2 := comes_1 fun _ _ _ _ _ _ h hF => ⟨h.2.1, hF⟩
end Jvm.Pilot.@@N@@
namespace Jvm.Pilot.@@N@@
open Jvm Jvm.ClassFile Sem Op Lib Jvm.Free Jvm.Stand Jvm.Pilot.@@N@@.Jvm.D
/-! MADE BY PROGRAM (witnessworld.py) out of the Statement's table words and the real class files: 9 classes; the members and pool entries that the words name. The judged class is class 1, her method 1. -/
namespace start1
open Jvm.ClassFile
def u (s : String) : CpInfo := .utf8 (stringToUtf16 s)
/-- a pool by its gaps: so many unusable entries, then the entry; so many at the end -/
def gap : Nat → List CpInfo → List CpInfo
  | 0, r => r
  | n + 1, r => .unusable :: gap n r
def poolList (es : List (Nat × CpInfo)) (last : Nat) : List CpInfo := es.foldr (fun e r => gap e.1 (e.2 :: r)) (gap last [])
def pool (es : List (Nat × CpInfo)) (last : Nat) : Array CpInfo := ⟨poolList es last⟩
def fileOf (pool : Array CpInfo) (this : Nat) (attrs : Array Attribute := #[]) (ms : Array MethodInfo := #[]) (fl : Nat := 33) (sup : Nat := 0) (ifs : Array Nat := #[]) (fds : Array FieldInfo := #[]) : ClassFile where
  minorVersion := 0
  majorVersion := 65
  constantPool := pool
  accessFlags := fl
  thisClass := this
  superClass := sup
  interfaces := ifs
  fields := fds
  methods := ms
  attributes := attrs
def plain (name : String) (sup : Option ClassId) : Class where
  name := name
  kind := .ordinary
  loader := none
  accessFlags := 33
  super := sup
  interfaces := #[]
  cf := none
  fields := #[]
  methods := #[]
  instanceTypes := #[]
  staticTypes := #[]
  resolved := #[]
  callSites := []
  init := .initialized
  statics := none
  mirror := none

def pool0 : Array CpInfo := pool [(5, u "<init>"), (0, u "()V"), (1, .class_ 10), (1, u "java/lang/Object")] 113

def k0m0 : Method := { name := "<init>", desc := "()V", sig := { parameters := [], returnType := none }, accessFlags := 1, code := none }
/-- java/lang/Object -/
def k0 : Class := { plain "java/lang/Object" none with
  accessFlags := 33
  interfaces := #[]
  cf := some (fileOf pool0 8 #[] #[{ accessFlags := 1, nameIndex := 5, descriptorIndex := 6, attributes := #[] }] 33 0 #[] #[])
  fields := #[]
  methods := #[k0m0]
  instanceTypes := #[]
  staticTypes := #[]
  resolved := Array.replicate 124 none
  statics := none }

def pool1 : Array CpInfo := pool [(2, .class_ 4), (1, u "java/lang/Object"), (0, u "<init>"), (0, u "()V"), (0, .integer 2147483647), (0, .methodref 9 10), (0, .class_ 11), (0, .nameAndType 12 13), (0, u "com/example/nimblepack/nimblepack/Blocks"), (0, u "blockCount"), (0, u "(II)I"), (0, .class_ 15), (0, u "com/example/nimblepack/nimblepack/BlocksBlockCountPinLaw"), (2, u "law"), (0, u "(II)Z")] 3

def k1m0 : Method := { name := "<init>", desc := "()V", sig := { parameters := [], returnType := none }, accessFlags := 2, code := none }
def k1c1 : Code := { maxStack := 3, maxLocals := 8, code := code, exceptionTable := #[], attributes := #[] }
def k1m1 : Method := { name := "law", desc := "(II)Z", sig := { parameters := [.int, .int], returnType := some .boolean }, accessFlags := 9, code := some k1c1 }
/-- com/example/nimblepack/nimblepack/BlocksBlockCountPinLaw -/
def k1 : Class := { plain "com/example/nimblepack/nimblepack/BlocksBlockCountPinLaw" (some 0) with
  accessFlags := 49
  interfaces := #[]
  cf := some (fileOf pool1 14 #[] #[{ accessFlags := 2, nameIndex := 5, descriptorIndex := 6, attributes := #[] }, { accessFlags := 9, nameIndex := 18, descriptorIndex := 19, attributes := #[] }] 49 2 #[] #[])
  fields := #[]
  methods := #[k1m0, k1m1]
  instanceTypes := #[]
  staticTypes := #[]
  resolved := Array.replicate 23 none
  statics := none }

def pool2 : Array CpInfo := pool [(4, .class_ 6), (1, u "java/lang/Object"), (3, .class_ 12), (1, u "com/example/nimblepack/nimblepack/Blocks"), (0, u "codec"), (0, u "Lcom/example/nimblepack/nimblepack/Blocks$Codec;"), (2, u "bytes"), (0, u "[B"), (2, u "end"), (0, u "I"), (2, u "count"), (2, u "shift"), (2, u "starts"), (0, u "[I"), (41, .class_ 76), (1, u "com/example/nimblepack/nimblepack/Blocks$Codec"), (9, u "blockCount"), (0, u "(II)I"), (67, u "HEADER")] 56

def k2c0 : Code := { maxStack := 4, maxLocals := 2, code := prog_4_method_8_code, exceptionTable := #[], attributes := #[] }
def k2m0 : Method := { name := "blockCount", desc := "(II)I", sig := { parameters := [.int, .int], returnType := some .int }, accessFlags := 8, code := some k2c0 }
/-- com/example/nimblepack/nimblepack/Blocks -/
def k2 : Class := { plain "com/example/nimblepack/nimblepack/Blocks" (some 0) with
  accessFlags := 48
  interfaces := #[]
  cf := some (fileOf pool2 10 #[.nestMembers #[74]] #[{ accessFlags := 8, nameIndex := 86, descriptorIndex := 87, attributes := #[] }] 48 4 #[] #[{ accessFlags := 24, nameIndex := 155, descriptorIndex := 22, attributes := #[] }, { accessFlags := 18, nameIndex := 13, descriptorIndex := 14, attributes := #[] }, { accessFlags := 18, nameIndex := 17, descriptorIndex := 18, attributes := #[] }, { accessFlags := 18, nameIndex := 21, descriptorIndex := 22, attributes := #[] }, { accessFlags := 18, nameIndex := 25, descriptorIndex := 22, attributes := #[] }, { accessFlags := 18, nameIndex := 28, descriptorIndex := 22, attributes := #[] }, { accessFlags := 18, nameIndex := 31, descriptorIndex := 32, attributes := #[] }])
  fields := #[{ name := "HEADER", type := .int, accessFlags := 24, slot := 0, constantValue := 0 }, { name := "codec", type := (.object "com/example/nimblepack/nimblepack/Blocks$Codec"), accessFlags := 18, slot := 0, constantValue := 0 }, { name := "bytes", type := (.array .byte), accessFlags := 18, slot := 1, constantValue := 0 }, { name := "end", type := .int, accessFlags := 18, slot := 2, constantValue := 0 }, { name := "count", type := .int, accessFlags := 18, slot := 3, constantValue := 0 }, { name := "shift", type := .int, accessFlags := 18, slot := 4, constantValue := 0 }, { name := "starts", type := (.array .int), accessFlags := 18, slot := 5, constantValue := 0 }]
  methods := #[k2m0]
  instanceTypes := #[(.object "com/example/nimblepack/nimblepack/Blocks$Codec"), (.array .byte), .int, .int, .int, (.array .int)]
  staticTypes := #[.int]
  resolved := Array.replicate 212 none
  statics := none }

def pool3 : Array CpInfo := pool [(1, u "java/lang/Cloneable"), (0, .class_ 1), (0, u "java/lang/Object"), (0, .class_ 3)] 3

/-- java/lang/Cloneable -/
def k3 : Class := { plain "java/lang/Cloneable" (some 0) with
  accessFlags := 1537
  interfaces := #[]
  cf := some (fileOf pool3 2 #[] #[] 1537 4 #[] #[])
  fields := #[]
  methods := #[]
  instanceTypes := #[]
  staticTypes := #[]
  resolved := Array.replicate 8 none
  statics := none }

def pool4 : Array CpInfo := pool [(1, u "java/io/Serializable"), (0, .class_ 1), (0, u "java/lang/Object"), (0, .class_ 3)] 3

/-- java/io/Serializable -/
def k4 : Class := { plain "java/io/Serializable" (some 0) with
  accessFlags := 1537
  interfaces := #[]
  cf := some (fileOf pool4 2 #[] #[] 1537 4 #[] #[])
  fields := #[]
  methods := #[]
  instanceTypes := #[]
  staticTypes := #[]
  resolved := Array.replicate 8 none
  statics := none }

/-- the primitive byte -/
def k5 : Class := { plain "byte" none with kind := .primitive 'B', accessFlags := 0x411 }
/-- [B -/
def k6 : Class := { plain "[B" (some 0) with kind := .array 5 .byte, interfaces := #[3, 4], accessFlags := 1041 }

/-- the primitive int -/
def k7 : Class := { plain "int" none with kind := .primitive 'I', accessFlags := 0x411 }
/-- [I -/
def k8 : Class := { plain "[I" (some 0) with kind := .array 7 .int, interfaces := #[3, 4], accessFlags := 1041 }

def heap : Heap := #[]
def classes : Array Class := #[k0, k1, k2, k3, k4, k5, k6, k7, k8]
def interned : List (Array UInt16 × Addr) := []
def slotsUsed : Nat := 0
def theMethod : MethodId := ⟨1, 1⟩
def args0 : Array Value := #[.int 5, .int 300]
def aboutOver (below : List Frame) : State where
  vm := { classes := classes, interned := interned.toArray }
  heap := heap
  slotsUsed := slotsUsed
  threads := #[{ frames := .invoking theMethod args0 :: below }]
def below0 : List Frame := [.native { method := ⟨0, 0⟩, args := #[] }]
def about1 : State := aboutOver below0
def p0 : Program := .bare "" "" ""
def e0 : Env := launch0.env 0 0 0
theorem w_frames : about1.frames = Frame.invoking theMethod args0 :: below0 := rfl
set_option maxRecDepth 65536 in
theorem w_args : argsFit about1.vm theMethod args0 = true := by decide +kernel
set_option maxRecDepth 65536 in
theorem w_heap : heapFits about1 = true := by decide +kernel
set_option maxRecDepth 65536 in
theorem w_runnable : about1.curStatus? = some .runnable := by decide +kernel
set_option maxRecDepth 65536 in
theorem w_alone : about1.alone = true := by decide +kernel
set_option maxRecDepth 65536 in
theorem w_named : about1.methodNamed? x = some theMethod := by decide +kernel
set_option maxRecDepth 65536 in
theorem w_hears : about1.hears theMethod below0 = true := by decide +kernel
set_option maxRecDepth 65536 in
theorem w_ripe : about1.ripe theMethod args0 below0 = true := by decide +kernel
theorem w_running : about1.status = .running := rfl
set_option maxRecDepth 65536 in
theorem w_room : about1.hasRoom e0.platform room_1 = true :=
  launch0.hasRoom_least _ room_1 (by decide +kernel) (by decide +kernel) (by decide +kernel) (by decide +kernel) (by decide +kernel) (by decide +kernel)
theorem allAtoms_all (ts : List Jvm.Cond) (a : Array Jvm.Value) (st : Jvm.State) : (allAtoms ts).before a st = ts.all (fun c => c.before a st) := by
  induction ts with
  | nil => rfl
  | cons c t ih =>
    show (Jvm.Cond.and c (allAtoms t)).before a st = _
    rw [Jvm.Cond.before_and, ih, List.all_cons]
def words1 : List Jvm.Cond := Jvm.Cond.code x code maxLocals ret :: tables_1
/-- a 'code' word, met by the world's own term for the bytes: nothing is compared byte by byte -/
theorem code_word {y : MethodName} {bytes : ByteArray} {mx : Nat} {rt : Option FieldType} {a : Array Value} {s : State} {m : MethodId} {meth : Method} {c : Code} (h1 : s.methodNamed? y = some m) (h2 : s.vm.method? m = some meth) (h3 : meth.code = some c) (h4 : c.code = bytes)
    (h5 : (c.maxLocals == mx && c.exceptionTable.isEmpty && decide (c.maxStack ≤ mostOperands) && decide (meth.sig.returnType = rt) && !meth.locks && decide (parseMethodDescriptor y.desc = some meth.sig)) = true) : (Jvm.Cond.code y bytes mx rt).before a s = true := by
  simp only [Bool.and_eq_true, beq_iff_eq, Bool.not_eq_true', decide_eq_true_eq] at h5
  obtain ⟨⟨⟨⟨⟨g1, g2⟩, g3⟩, g4⟩, g5⟩, g6⟩ := h5
  simp [Cond.before, Cond.holds, Cond.value, h1, h2, h3, h4, g1, g2, g3, g4, g5, g6]
def isCode : Jvm.Cond → Bool
  | .code _ _ _ _ => true
  | _ => false
theorem all_split {L : List Jvm.Cond} {P : Jvm.Cond → Bool} (h1 : L.all (fun c => isCode c || P c) = true) (h2 : ∀ c ∈ L.filter isCode, P c = true) : L.all P = true := by
  refine List.all_eq_true.mpr fun c hc => ?_
  have h := List.all_eq_true.mp h1 c hc
  rcases Bool.eq_false_or_eq_true (isCode c) with hi | hi
  · exact h2 c (List.mem_filter.mpr ⟨hc, hi⟩)
  · simpa [hi] using h
set_option maxRecDepth 65536 in
theorem w_c0 : (Jvm.Cond.code x code maxLocals ret).before args0 about1 = true := code_word (m := ⟨1, 1⟩) (meth := k1m1) (c := k1c1) (by decide +kernel) rfl rfl rfl (by decide +kernel)
set_option maxRecDepth 65536 in
theorem w_c1 : (Jvm.Cond.code ({ cls := "com/example/nimblepack/nimblepack/Blocks", name := "blockCount", desc := "(II)I" } : Jvm.MethodName) prog_4_method_8_code (2 : Nat) (Option.some Jvm.ClassFile.FieldType.int)).before args0 about1 = true := code_word (m := ⟨2, 0⟩) (meth := k2m0) (c := k2c0) (by decide +kernel) rfl rfl rfl (by decide +kernel)
def codes1 : List Jvm.Cond := [Jvm.Cond.code x code maxLocals ret, Jvm.Cond.code ({ cls := "com/example/nimblepack/nimblepack/Blocks", name := "blockCount", desc := "(II)I" } : Jvm.MethodName) prog_4_method_8_code (2 : Nat) (Option.some Jvm.ClassFile.FieldType.int)]
set_option maxRecDepth 65536 in
theorem codes_eq : words1.filter isCode = codes1 := rfl
theorem w_codes : ∀ c ∈ words1.filter isCode, c.before args0 about1 = true := by
  rw [codes_eq]
  intro c hc
  simp only [codes1, List.mem_cons, List.not_mem_nil, or_false] at hc
  rcases hc with rfl | rfl
  · exact w_c0
  · exact w_c1
set_option maxRecDepth 65536 in
theorem w_t1 : words1.all (fun c => isCode c || c.before args0 about1) = true := by decide +kernel
theorem w_tables : (allAtoms (Jvm.Cond.code x code maxLocals ret :: tables_1)).before args0 about1 = true := by
  rw [allAtoms_all]
  show words1.all (fun c => c.before args0 about1) = true
  refine all_split ?_ w_codes
  rw [w_t1]
set_option maxRecDepth 65536 in
theorem w_case : (Jvm.Cond.and given_1 narrow_1).before args0 about1 = true := by decide +kernel
theorem w_applies : (headSpec (Jvm.Cond.code x code maxLocals ret :: tables_1) room_1).applies x e0.platform about1 = true :=
  (Spec.applies_iff w_frames).mpr ⟨w_running, w_runnable, w_alone, w_named, w_hears, w_ripe, w_room, w_tables⟩
theorem atStart : AtStart classFile x code maxLocals ret World_1 tables_1 room_1 Calls_1 rest_1 Pre_1 launch0 p0 e0 about1 theMethod args0 below0 :=
  ⟨lists_1, trivial, launch0.admits_env _ _ _, launch0.least_env, fairChoices_fair.cas, fairChoices_fair.clock, w_frames, w_args, w_heap, w_applies, trivial, trivial, w_case⟩
end start1
theorem witness_1 : WitnessClaimed_1 := ⟨start1.p0, start1.e0, start1.about1, start1.theMethod, start1.args0, start1.below0, start1.atStart⟩
end Jvm.Pilot.@@N@@
