import JvmDerived
import JvmDerived.Pilot.@@N@@Statement
import JvmDerived.Pilot.@@N@@Code
set_option linter.unusedVariables false
set_option linter.unusedSimpArgs false
namespace Jvm.Pilot.@@N@@
open Jvm Jvm.ClassFile Sem Op Lib Jvm.Free Jvm.Stand Jvm.LawKit Jvm.RoadKit Bundle Jvm.Pilot.@@N@@.Jvm.D
-- own kit: the walk's goal, the ends of a walk, arrays as functions of the place, calls by contract
section OwnKit
variable {p : Program} {l : Launch} {e : Env} {R : Room} {s : State} {m : MethodId} {args : Array Value} {below : List Frame} {meth : Method} {c : Code} {T : State} {locs : List Loc} {cells slots : Nat} {Z : State} {a0 : Array Value} {h h' : Heap} {kc ks : Nat} {Q : Option Value → Heap → List Loc → Prop} {tb : Tables} {B : State}
def Gq (tb : Tables) (e : Env) (below : List Frame) (s : State) (Q : Option Value → Heap → List Loc → Prop) (kc ks : Nat) (A : State) : Prop :=
  ∃ t o, Steps tb e below A t ∧ t.status = .running ∧ Ended t below o ∧ ∃ v L, o = .returned v ∧ Q v t.heap L ∧ FrameEnd s o t L kc ks
theorem Gq.go (A : State) (k : ∀ t, Steps tb e below A t → Steps tb e below B t) (g : Gq tb e below s Q kc ks A) : Gq tb e below s Q kc ks B := by
  obtain ⟨t, o, h1, h2⟩ := g
  exact ⟨t, o, k t h1, h2⟩
theorem Gq.start {T : State} {g g' : JFrame} (q : g = g') (k : Gq tb e below s Q kc ks (T.setTop g')) : Gq tb e below s Q kc ks (T.setTop g) := q ▸ k
theorem Gq.fin {A : State} (X : Stand p l e R s m args below meth c T locs cells slots) (hlocks : meth.locks = false) {v : Option Value} (hv : meth.sig.returnType = none → v = none)
    (st : ∀ fs, (∀ (f : JFrame) (acts : List Action), f.method = m → f.locked = none → f.entered = [] → (doReturn e (T.setTop f) acts v).1 = T.setFrames fs) → Steps p.tables e below A (T.setFrames fs))
    (h1 : cells ≤ kc) (h2 : slots ≤ ks) (q : Q v T.heap locs) : Gq p.tables e below s Q kc ks A := by
  obtain ⟨fs, hr, hrun, hended, hW, hsame⟩ := X.leave (v := v) hv hlocks
  exact ⟨_, _, st fs hr, hrun, hended, _, _, rfl, q, ⟨_, rfl⟩, hW, hsame.mono h1 h2⟩
theorem Gq.retI (X : Stand p l e R s m args below meth c T locs cells slots) (hx : p.tables.exec = Jvm.exec) (hlocks : meth.locks = false) {pc : Nat} {Ls : Array Slot} {w : Int32} {rest : List Value} {t : FieldType} (hret : meth.sig.returnType = some t)
    (ht : t = .int ∨ t = .boolean ∨ t = .byte ∨ t = .char ∨ t = .short) (hd : decode c.code pc = .ok (.ireturn, 1)) (hn : narrow t (.int w) = .int w) (h1 : cells ≤ kc) (h2 : slots ≤ ks) (q : Q (some (.int w)) T.heap locs) :
    Gq p.tables e below s Q kc ks (T.setTop (mkF m pc Ls (.int w :: rest))) :=
  Gq.fin X hlocks (fun h => by rw [hret] at h; cases h) (fun fs hr => retOut X hx hret hn (Or.inl ⟨rfl, ht, _, rfl⟩) hd hr) h1 h2 q
theorem Gq.retL (X : Stand p l e R s m args below meth c T locs cells slots) (hx : p.tables.exec = Jvm.exec) (hlocks : meth.locks = false) {pc : Nat} {Ls : Array Slot} {w : Int64} {rest : List Value} (hret : meth.sig.returnType = some .long)
    (hd : decode c.code pc = .ok (.lreturn, 1)) (h1 : cells ≤ kc) (h2 : slots ≤ ks) (q : Q (some (.long w)) T.heap locs) :
    Gq p.tables e below s Q kc ks (T.setTop (mkF m pc Ls (.long w :: rest))) :=
  Gq.fin X hlocks (fun h => by rw [hret] at h; cases h) (fun fs hr => retOut X hx hret rfl (Or.inr (Or.inl ⟨rfl, rfl, _, rfl⟩)) hd hr) h1 h2 q
theorem Gq.retA (X : Stand p l e R s m args below meth c T locs cells slots) (hx : p.tables.exec = Jvm.exec) (hlocks : meth.locks = false) {pc : Nat} {Ls : Array Slot} {w : Value} {rest : List Value} {t : FieldType} (hret : meth.sig.returnType = some t) (hn : narrow t w = w)
    (ht : t.isReference = true) (hw : w.isRef = true) (hd : decode c.code pc = .ok (.areturn, 1)) (h1 : cells ≤ kc) (h2 : slots ≤ ks) (q : Q (some w) T.heap locs) :
    Gq p.tables e below s Q kc ks (T.setTop (mkF m pc Ls (w :: rest))) :=
  Gq.fin X hlocks (fun h => by rw [hret] at h; cases h) (fun fs hr => retOut X hx hret hn (Or.inr (Or.inr (Or.inr (Or.inr ⟨rfl, ht, hw⟩)))) hd hr) h1 h2 q
theorem Gq.retV (X : Stand p l e R s m args below meth c T locs cells slots) (hx : p.tables.exec = Jvm.exec) (hlocks : meth.locks = false) {pc : Nat} {Ls : Array Slot} (hret : meth.sig.returnType = none)
    (hd : decode c.code pc = .ok (.return_, 1)) (h1 : cells ≤ kc) (h2 : slots ≤ ks) (q : Q none T.heap locs) : Gq p.tables e below s Q kc ks (T.setTop (mkF m pc Ls [])) :=
  Gq.fin X hlocks (fun _ => rfl) (fun fs hr => X.returnOut hx hret hd hr) h1 h2 q
/-- an array: n places, place j holds f j -/
def LA (Z : State) (h : Heap) (a : Addr) (ty : FieldType) (n : Nat) (f : Nat → Value) : Prop := ∃ c : Cell, Arr Z h a c ty ∧ c.slots.size = n ∧ n < 2 ^ 31 ∧ ∀ j, j < n → c.slots[j]? = some (f j)
def upd (f : Nat → Value) (j : Nat) (v : Value) : Nat → Value := fun i => if i = j then v else f i
def gl (vs : List Value) (d : Value) : Nat → Value := fun i => vs.getD i d
section Facts
variable {a b : Addr} {ty : FieldType} {n j : Nat} {f g : Nat → Value} {v d : Value} {sl : Nat} {ws : List Addr} {vs : List Value}
theorem LA.lt (F : LA Z h a ty n f) : a < h.size := by obtain ⟨c, A, -⟩ := F; exact A.lt
theorem LA.ext (F : LA Z h a ty n f) (E : Ext h h') : LA Z h' a ty n f := by obtain ⟨c, A, r⟩ := F; exact ⟨c, A.ext E, r⟩
theorem LA.other (F : LA Z h b ty n f) (W : Wr h h' a sl v) (q : b ≠ a) : LA Z h' b ty n f := by obtain ⟨c, A, r⟩ := F; exact ⟨c, A.other W q, r⟩
theorem LA.keep (F : LA Z h a ty n f) (K : Keep h h' ws) (q : a ∉ ws) : LA Z h' a ty n f := by obtain ⟨c, A, r⟩ := F; exact ⟨c, ⟨K.2.1 a c A.1 q, A.2⟩, r⟩
theorem LA.congr (F : LA Z h a ty n f) (q : ∀ j, j < n → f j = g j) : LA Z h a ty n g := by obtain ⟨c, A, r1, r2, r3⟩ := F; exact ⟨c, A, r1, r2, fun j hj => by rw [r3 j hj, q j hj]⟩
theorem LA.new {k : ClassId} {z : Int32} (A : Arr Z h a (newA k ty z) ty) (q : ¬ z < 0) (hn : z.toNatClampNeg = n) : LA Z h a ty n (fun _ => defaultValue ty) := by
  subst hn
  exact ⟨_, A, sz_new _ _ _, (back32 q).2, fun j hj => by simp [newA, hj]⟩
theorem LA.set (F : LA Z h a ty n f) (W : Wr h h' a j v) : LA Z h' a ty n (upd f j v) := by
  obtain ⟨c, A, r1, r2, r3⟩ := F
  refine ⟨_, A.same W, by rw [sz_set]; exact r1, r2, fun i hi => ?_⟩
  have e1 : i < c.slots.size := by omega
  have r := r3 i hi
  simp only [upd, Cell.setSlot]
  by_cases q : i = j
  · subst q; simp [e1]
  · rw [Array.getElem?_setIfInBounds_ne (Ne.symm q), if_neg q]; exact r
theorem LA.setL (F : LA Z h a ty n (gl vs d)) (W : Wr h h' a j v) (hj : j < vs.length) : LA Z h' a ty n (gl (vs.set j v) d) := by
  refine (F.set W).congr fun i hi => ?_
  simp only [upd, gl, List.getD_eq_getElem?_getD, List.getElem?_set]
  by_cases q : i = j
  · subst q; simp [hj]
  · rw [if_neg q, if_neg (Ne.symm q)]
theorem LA.list (F : LA Z h a ty n (fun _ => d)) : LA Z h a ty n (gl (List.replicate n d) d) := F.congr fun j hj => by
  simp [gl, List.getD_eq_getElem?_getD, List.getElem?_replicate, hj]
end Facts
section Steps
variable {a : Addr} {n i : Nat} {f : Nat → Value} {pc : Nat} {Ls : Array Slot} {rest : List Value} {j : Int32}
theorem inb {cl : Cell} (S : cl.slots.size = n) (hi : j.toNatClampNeg = i) (hj : ¬ j < 0) (hn : i < n) : ¬ (j < 0 ∨ cl.slots.size ≤ j.toNatClampNeg) := by
  intro q; rcases q with q | q
  · exact hj q
  · omega
theorem ldJ (X : Stand p l e R s m args below meth c T locs cells slots) (hx : p.tables.exec = Jvm.exec) (hZ : Z.Warmed39 s.vm) (eT : T.heap = h) (V : LA Z h a .long n f) {x : Int64} (hj : ¬ j < 0) (hi : j.toNatClampNeg = i) (hn : i < n) (hv : f i = .long x) (hd : decode c.code pc = .ok (.laload, 1)) :
    ∀ t, Steps p.tables e below (T.setTop (mkF m (pc + 1) Ls (.long x :: rest))) t → Steps p.tables e below (T.setTop (mkF m pc Ls (.int j :: .ref a :: rest))) t := fun t k => by
  obtain ⟨cl, A, S, -, H⟩ := V
  exact X.laload hx (by rw [eT]; exact A.1) (State.isArrayOf_alike hZ.alike A.2.1) A.2.2 (inb S hi hj hn) (by rw [hi, H i hn, hv]) (g := mkF m pc Ls (.int j :: .ref a :: rest)) rfl rfl hd _ k
theorem ldI (X : Stand p l e R s m args below meth c T locs cells slots) (hx : p.tables.exec = Jvm.exec) (hZ : Z.Warmed39 s.vm) (eT : T.heap = h) (V : LA Z h a .int n f) {x : Int32} (hj : ¬ j < 0) (hi : j.toNatClampNeg = i) (hn : i < n) (hv : f i = .int x) (hd : decode c.code pc = .ok (.iaload, 1)) :
    ∀ t, Steps p.tables e below (T.setTop (mkF m (pc + 1) Ls (.int x :: rest))) t → Steps p.tables e below (T.setTop (mkF m pc Ls (.int j :: .ref a :: rest))) t := fun t k => by
  obtain ⟨cl, A, S, -, H⟩ := V
  exact X.iaload hx (by rw [eT]; exact A.1) (State.isArrayOf_alike hZ.alike A.2.1) A.2.2 (inb S hi hj hn) (by rw [hi, H i hn, hv]) (g := mkF m pc Ls (.int j :: .ref a :: rest)) rfl rfl hd _ k
theorem ldB (X : Stand p l e R s m args below meth c T locs cells slots) (hx : p.tables.exec = Jvm.exec) (hZ : Z.Warmed39 s.vm) (eT : T.heap = h) (V : LA Z h a .byte n f) {x : Int32} (hj : ¬ j < 0) (hi : j.toNatClampNeg = i) (hn : i < n) (hv : f i = .int x) (hd : decode c.code pc = .ok (.baload, 1)) :
    ∀ t, Steps p.tables e below (T.setTop (mkF m (pc + 1) Ls (.int x :: rest))) t → Steps p.tables e below (T.setTop (mkF m pc Ls (.int j :: .ref a :: rest))) t := fun t k => by
  obtain ⟨cl, A, S, -, H⟩ := V
  exact X.baloadBytes hx (by rw [eT]; exact A.1) (State.isArrayOf_alike hZ.alike A.2.1) A.2.2 (inb S hi hj hn) (by rw [hi, H i hn, hv]) (g := mkF m pc Ls (.int j :: .ref a :: rest)) rfl rfl hd _ k
theorem lenA (X : Stand p l e R s m args below meth c T locs cells slots) (hx : p.tables.exec = Jvm.exec) (hZ : Z.Warmed39 s.vm) (eT : T.heap = h) {ty : FieldType} (V : LA Z h a ty n f) (hd : decode c.code pc = .ok (.arraylength, 1)) :
    ∀ t, Steps p.tables e below (T.setTop (mkF m (pc + 1) Ls (.int (Int32.ofNat n) :: rest))) t → Steps p.tables e below (T.setTop (mkF m pc Ls (.ref a :: rest))) t := fun t k => by
  obtain ⟨cl, A, S, -, H⟩ := V
  refine X.arraylength hx (by rw [eT]; exact A.1) (State.isArrayOf_alike hZ.alike A.2.1) (g := mkF m pc Ls (.ref a :: rest)) rfl rfl hd _ ?_
  rw [S]; exact k
theorem stoJ (X : Stand p l e R s m args below meth c T locs cells slots) (hx : p.tables.exec = Jvm.exec) (hZ : Z.Warmed39 s.vm) (eT : T.heap = h) (V : LA Z h a .long n f) {x : Int64} (hj : ¬ j < 0) (hi : j.toNatClampNeg = i) (hn : i < n) (hd : decode c.code pc = .ok (.lastore, 1)) :
    ∃ T' h', Stand p l e R s m args below meth c T' (locs ++ [⟨a, i⟩]) cells slots ∧ T'.heap = h' ∧ Wr h h' a i (.long x) ∧ ∀ t, Steps p.tables e below (T'.setTop (mkF m (pc + 1) Ls rest)) t → Steps p.tables e below (T.setTop (mkF m pc Ls (.long x :: .int j :: .ref a :: rest))) t := by
  obtain ⟨cl, A, S, -, H⟩ := V
  obtain ⟨T', h', X', e', W, st⟩ := stJ X hx hZ eT A (j := j) (x := x) (inb S hi hj hn) (g := mkF m pc Ls (.long x :: .int j :: .ref a :: rest)) rfl rfl hd
  subst hi
  exact ⟨T', h', X', e', W, st⟩
theorem stoI (X : Stand p l e R s m args below meth c T locs cells slots) (hx : p.tables.exec = Jvm.exec) (hZ : Z.Warmed39 s.vm) (eT : T.heap = h) (V : LA Z h a .int n f) {x : Int32} (hj : ¬ j < 0) (hi : j.toNatClampNeg = i) (hn : i < n) (hd : decode c.code pc = .ok (.iastore, 1)) :
    ∃ T' h', Stand p l e R s m args below meth c T' (locs ++ [⟨a, i⟩]) cells slots ∧ T'.heap = h' ∧ Wr h h' a i (.int x) ∧ ∀ t, Steps p.tables e below (T'.setTop (mkF m (pc + 1) Ls rest)) t → Steps p.tables e below (T.setTop (mkF m pc Ls (.int x :: .int j :: .ref a :: rest))) t := by
  obtain ⟨cl, A, S, -, H⟩ := V
  obtain ⟨T', h', X', e', W, st⟩ := stI X hx hZ eT A (j := j) (x := x) (inb S hi hj hn) (g := mkF m pc Ls (.int x :: .int j :: .ref a :: rest)) rfl rfl hd
  subst hi
  exact ⟨T', h', X', e', W, st⟩
theorem stoB (X : Stand p l e R s m args below meth c T locs cells slots) (hx : p.tables.exec = Jvm.exec) (hZ : Z.Warmed39 s.vm) (eT : T.heap = h) (V : LA Z h a .byte n f) {x : Int32} (hj : ¬ j < 0) (hi : j.toNatClampNeg = i) (hn : i < n) (hd : decode c.code pc = .ok (.bastore, 1)) :
    ∃ T' h', Stand p l e R s m args below meth c T' (locs ++ [⟨a, i⟩]) cells slots ∧ T'.heap = h' ∧ Wr h h' a i (.int x.toInt8.toInt32) ∧ ∀ t, Steps p.tables e below (T'.setTop (mkF m (pc + 1) Ls rest)) t → Steps p.tables e below (T.setTop (mkF m pc Ls (.int x :: .int j :: .ref a :: rest))) t := by
  obtain ⟨cl, A, S, -, H⟩ := V
  obtain ⟨T', h', X', e', W, st⟩ := stB X hx hZ eT A (j := j) (x := x) (inb S hi hj hn) (g := mkF m pc Ls (.int x :: .int j :: .ref a :: rest)) rfl rfl hd
  subst hi
  exact ⟨T', h', X', e', W, st⟩
theorem mkA (X : Stand p l e R s m args below meth c T locs cells slots) (hx : p.tables.exec = Jvm.exec) (hZ : Z.Warmed39 s.vm) {aty : ArrayType} (w : (Cond.arrayClass (newarray.typeOf aty)).before a0 Z = true) (eT : T.heap = h) {z : Int32} (hz : ¬ z < 0) (hn : z.toNatClampNeg = n)
    (hb : n * 8 ≤ 536870912) (hc : cells + 1 ≤ R.cells) (hl : slots + n ≤ R.slots) (hd : decode c.code pc = .ok (.newarray aty, 2)) :
    ∃ T' h' b, Stand p l e R s m args below meth c T' locs (cells + 1) (slots + n) ∧ T'.heap = h' ∧ Ext h h' ∧ b = h.size ∧ LA Z h' b (newarray.typeOf aty) n (fun _ => defaultValue (newarray.typeOf aty)) ∧
      ∀ t, Steps p.tables e below (T'.setTop (mkF m (pc + 2) Ls (.ref b :: rest))) t → Steps p.tables e below (T.setTop (mkF m pc Ls (.int z :: rest))) t := by
  obtain ⟨T', h', k, X', e', E, A, st⟩ := newP X hx hZ w eT (g := mkF m pc Ls (.int z :: rest)) rfl hd rfl hz (cap := n) (Nat.le_of_eq hn) hb hc hl
  exact ⟨T', h', _, X', e', E, rfl, LA.new A hz hn, st⟩
end Steps
section Calls
variable {own : String} {index : Nat} {y : MethodName} {bytes : ByteArray} {maxL : Nat} {ret : Option FieldType} {rm : Room} {W pc : Nat} {Ls : Array Slot} {Qc : Option Value → Heap → List Loc → Prop} {ps : List FieldType} {r : Option FieldType}
theorem callT (X : Stand p l e R s m args below meth c T locs cells slots) (hx : p.tables.exec = Jvm.exec) (hZ : Z.Warmed39 s.vm) (hown : s.vm.findClass own = some m.cls) (eT : T.heap = h) (argsL rest : List Value)
    (w1 : (Cond.methodLink own index y).before a0 Z = true) (w2 : (Cond.static y).before a0 Z = true) (w3 : (Cond.initialized y.cls).before a0 Z = true) (w4 : (Cond.code y bytes maxL ret).before a0 Z = true)
    (hy : y.cls ≠ "java/lang/invoke/MethodHandle" ∧ y.cls ≠ "java/lang/invoke/VarHandle")
    (hM : MetFree l y (head1 [Cond.code y bytes maxL ret] rm) (fun a U => a = argsL.toArray ∧ Z.Warmed39 U.vm ∧ U.heap = h) (fun _ _ _ _ _ => True) (fun _ U o U' => ∃ v L, o = .returned v ∧ Qc v U'.heap L ∧ FrameEnd U o U' L rm.cells rm.slots))
    (hpd : parseMethodDescriptor y.desc = some ⟨ps, r⟩) (hll : argsL.length = ps.length) (hsize : Ls.size = c.maxLocals) (hW : 2 * 0 + (rest.map fun v => v.category).sum ≤ W)
    (hf : rm.frames + 1 ≤ R.frames) (hl : W + (maxL + 11) + rm.locals ≤ R.locals) (hc : cells + rm.cells ≤ R.cells) (hs : slots + rm.slots ≤ R.slots) (hd : decode c.code pc = .ok (.invokestatic index, 3)) :
    ∃ v T' L, Stand p l e R s m args below meth c T' (locs ++ L) (cells + rm.cells) (slots + rm.slots) ∧ Qc v T'.heap L ∧
      ∀ t, Steps p.tables e below (T'.setTop (mkF m (pc + 3) Ls (v.toList ++ rest))) t → Steps p.tables e below (T.setTop (mkF m pc Ls (argsL.reverse ++ rest))) t := by
  obtain ⟨v, vm1, ⟨T', L', k', n'⟩, -, X', ⟨L, hQ, e1, e2, e3⟩, st⟩ := Jvm.LawKit.callS X hx (y := y) hown (mvT hZ w1) (mvT hZ w2) (mvT hZ w3) (mvT hZ w4) hy (backOf (W := W) hM hZ w4 w3 hf hl) (g := mkF m pc Ls (argsL.reverse ++ rest)) rfl hsize (argsL := argsL) (rest := rest) (lenOf hpd hll) rfl hW hd (fun _ _ => ⟨rfl, eT, hc, hs⟩)
  dsimp only [Pt.U, Pt.locs, Pt.cells, Pt.slots] at X' e1 e2 e3 st hQ
  subst e1 e2 e3
  exact ⟨v, T', L, X', hQ, st⟩
theorem callI (X : Stand p l e R s m args below meth c T locs cells slots) (hx : p.tables.exec = Jvm.exec) (hZ : Z.Warmed39 s.vm) (hown : s.vm.findClass own = some m.cls) (eT : T.heap = h) (a : Addr) (argsL rest : List Value)
    (w1 : (Cond.methodLink own index y).before a0 Z = true) (w2 : (Cond.instanceMethod y).before a0 Z = true) (w3 : (Cond.initialized y.cls).before a0 Z = true) (w4 : (Cond.code y bytes maxL none).before a0 Z = true) (hy1 : y.name = "<init>")
    (hy : y.cls ≠ "java/lang/invoke/MethodHandle" ∧ y.cls ≠ "java/lang/invoke/VarHandle")
    (hM : MetFree l y (head1 [Cond.code y bytes maxL none] rm) (fun a' U => a' = (.ref a :: argsL).toArray ∧ Z.Warmed39 U.vm ∧ U.heap = h) (fun _ _ _ _ _ => True) (fun _ U o U' => ∃ v L, o = .returned v ∧ Qc v U'.heap L ∧ FrameEnd U o U' L rm.cells rm.slots))
    (hpd : parseMethodDescriptor y.desc = some ⟨ps, r⟩) (hll : argsL.length = ps.length) (hsize : Ls.size = c.maxLocals) (hW : 2 * 0 + (rest.map fun v => v.category).sum ≤ W)
    (hf : rm.frames + 1 ≤ R.frames) (hl : W + (maxL + 11) + rm.locals ≤ R.locals) (hc : cells + rm.cells ≤ R.cells) (hs : slots + rm.slots ≤ R.slots) (hd : decode c.code pc = .ok (.invokespecial index, 3)) :
    ∃ v T' L, Stand p l e R s m args below meth c T' (locs ++ L) (cells + rm.cells) (slots + rm.slots) ∧ Qc v T'.heap L ∧
      ∀ t, Steps p.tables e below (T'.setTop (mkF m (pc + 3) Ls (v.toList ++ rest))) t → Steps p.tables e below (T.setTop (mkF m pc Ls (argsL.reverse ++ .ref a :: rest))) t := by
  obtain ⟨v, vm1, ⟨T', L', k', n'⟩, -, X', ⟨L, hQ, e1, e2, e3⟩, st⟩ := X.specialBack hx (y := y) hy1 hown (mvT hZ w1) (mvT hZ w2) (mvT hZ w4) hy (backOf (W := W) hM hZ w4 w3 hf hl) (g := mkF m pc Ls (argsL.reverse ++ .ref a :: rest)) rfl hsize (Steps.refl _) (a := a) (argsL := argsL) (rest := rest) (lenOf hpd hll) rfl hW hd (fun _ _ => ⟨rfl, eT, hc, hs⟩)
  dsimp only [Pt.U, Pt.locs, Pt.cells, Pt.slots] at X' e1 e2 e3 st hQ
  subst e1 e2 e3
  exact ⟨v, T', L, X', hQ, fun t k => st.trans k⟩
theorem callV (X : Stand p l e R s m args below meth c T locs cells slots) (hx : p.tables.exec = Jvm.exec) (hZ : Z.Warmed39 s.vm) (hown : s.vm.findClass own = some m.cls) (eT : T.heap = h) (a : Addr) (argsL rest : List Value) {C : String} (E : Exa Z h a C)
    (w1 : (Cond.methodLink own index y).before a0 Z = true) (w2 : (Cond.declares y).before a0 Z = true) (w5 : (Cond.selects C y y).before a0 Z = true) (w6 : (Cond.instanceMethod y).before a0 Z = true) (w3 : (Cond.initialized y.cls).before a0 Z = true) (w4 : (Cond.code y bytes maxL ret).before a0 Z = true)
    (hy : y.cls ≠ "java/lang/invoke/MethodHandle" ∧ y.cls ≠ "java/lang/invoke/VarHandle")
    (hM : MetFree l y (head1 [Cond.code y bytes maxL ret] rm) (fun a' U => a' = (.ref a :: argsL).toArray ∧ Z.Warmed39 U.vm ∧ U.heap = h) (fun _ _ _ _ _ => True) (fun _ U o U' => ∃ v L, o = .returned v ∧ Qc v U'.heap L ∧ FrameEnd U o U' L rm.cells rm.slots))
    (hpd : parseMethodDescriptor y.desc = some ⟨ps, r⟩) (hll : argsL.length = ps.length) (hsize : Ls.size = c.maxLocals) (hW : 2 * 0 + (rest.map fun v => v.category).sum ≤ W)
    (hf : rm.frames + 1 ≤ R.frames) (hl : W + (maxL + 11) + rm.locals ≤ R.locals) (hc : cells + rm.cells ≤ R.cells) (hs : slots + rm.slots ≤ R.slots) (hd : decode c.code pc = .ok (.invokevirtual index, 3)) :
    ∃ v T' L, Stand p l e R s m args below meth c T' (locs ++ L) (cells + rm.cells) (slots + rm.slots) ∧ Qc v T'.heap L ∧
      ∀ t, Steps p.tables e below (T'.setTop (mkF m (pc + 3) Ls (v.toList ++ rest))) t → Steps p.tables e below (T.setTop (mkF m pc Ls (argsL.reverse ++ .ref a :: rest))) t := by
  obtain ⟨cq, kq, qa, qb, qc⟩ := isOf hZ eT E
  obtain ⟨v, vm1, ⟨T', L', k', n'⟩, -, X', ⟨L, hQ, e1, e2, e3⟩, st⟩ := X.virtualBack hx (y := y) (z := y) hown (mvT hZ w1) (mvT hZ w2) (notFace_of_selects (args := #[]) (mvT hZ w5)) (mvT hZ w5) (mvT hZ w6) hy (backOf (W := W) hM hZ w4 w3 hf hl) qa qc (g := mkF m pc Ls (argsL.reverse ++ .ref a :: rest)) rfl hsize (Steps.refl _) (argsL := argsL) (rest := rest) (lenOf hpd hll) rfl hW hd (fun _ _ => ⟨rfl, eT, hc, hs⟩)
  dsimp only [Pt.U, Pt.locs, Pt.cells, Pt.slots] at X' e1 e2 e3 st hQ
  subst e1 e2 e3
  exact ⟨v, T', L, X', hQ, fun t k => st.trans k⟩
end Calls
end OwnKit
-- own kit, second part: arrays with their class, clone, references in arrays, private and interface calls
section OwnKit2
variable {p : Program} {l : Launch} {e : Env} {R : Room} {s : State} {m : MethodId} {args : Array Value} {below : List Frame} {meth : Method} {c : Code} {T : State} {locs : List Loc} {cells slots : Nat} {Z : State} {a0 : Array Value} {h h' : Heap}
section Steps
variable {a : Addr} {n i : Nat} {f : Nat → Value} {pc : Nat} {Ls : Array Slot} {rest : List Value} {j : Int32}
theorem mkAE (X : Stand p l e R s m args below meth c T locs cells slots) (hx : p.tables.exec = Jvm.exec) (hZ : Z.Warmed39 s.vm) {aty : ArrayType} (w : (Cond.arrayClass (newarray.typeOf aty)).before a0 Z = true) (eT : T.heap = h) {z : Int32} (hz : ¬ z < 0) (hn : z.toNatClampNeg = n)
    (hb : n * 8 ≤ 536870912) (hc : cells + 1 ≤ R.cells) (hl : slots + n ≤ R.slots) {ad : String} (had : "[" ++ (newarray.typeOf aty).toString = ad) (hd : decode c.code pc = .ok (.newarray aty, 2)) :
    ∃ T' h' b, Stand p l e R s m args below meth c T' locs (cells + 1) (slots + n) ∧ T'.heap = h' ∧ Ext h h' ∧ b = h.size ∧ LA Z h' b (newarray.typeOf aty) n (fun _ => defaultValue (newarray.typeOf aty)) ∧ Exa Z h' b ad ∧
      ∀ t, Steps p.tables e below (T'.setTop (mkF m (pc + 2) Ls (.ref b :: rest))) t → Steps p.tables e below (T.setTop (mkF m pc Ls (.int z :: rest))) t := by
  obtain ⟨T', h', k, X', e', E, A, EX, st⟩ := newPE X hx hZ w eT (g := mkF m pc Ls (.int z :: rest)) rfl hd rfl hz (cap := n) (Nat.le_of_eq hn) hb hc hl had
  exact ⟨T', h', _, X', e', E, rfl, LA.new A hz hn, EX, st⟩
theorem cloneL (X : Stand p l e R s m args below meth c T locs cells slots) (hx : p.tables.exec = Jvm.exec) (hZ : Z.Warmed39 s.vm) {own ad : String} {index : Nat} (hown : s.vm.findClass own = some m.cls)
    (w1 : (Cond.methodLink own index ⟨ad, "clone", "()Ljava/lang/Object;"⟩).before a0 Z = true) (w2 : (Cond.sameMethod ad "java/lang/Object" "clone" "()Ljava/lang/Object;").before a0 Z = true) (w3 : (Cond.native ⟨"java/lang/Object", "clone", "()Ljava/lang/Object;"⟩).before a0 Z = true)
    (w4 : (Cond.instanceMethod ⟨"java/lang/Object", "clone", "()Ljava/lang/Object;"⟩).before a0 Z = true) (w5 : (Cond.selects ad ⟨ad, "clone", "()Ljava/lang/Object;"⟩ ⟨"java/lang/Object", "clone", "()Ljava/lang/Object;"⟩).before a0 Z = true) (w6 : (Cond.castable ad "java/lang/Cloneable").before a0 Z = true)
    (eT : T.heap = h) {ty : FieldType} (V : LA Z h a ty n f) (E : Exa Z h a ad) (hfit : ∀ j, j < n → fits ty (f j) = true) (hsize : Ls.size = c.maxLocals) (hd : decode c.code pc = .ok (.invokevirtual index, 3))
    (hf : 1 ≤ R.frames) {W : Nat} (hW : 2 * 0 + (rest.map fun v => v.category).sum ≤ W) (hl : W + 14 ≤ R.locals) (hc : cells + 1 ≤ R.cells) (hsl : slots + n ≤ R.slots) :
    ∃ T' h' b, Stand p l e R s m args below meth c T' locs (cells + 1) (slots + n) ∧ T'.heap = h' ∧ Ext h h' ∧ b = h.size ∧ LA Z h' b ty n f ∧ Exa Z h' b ad ∧
      ∀ t, Steps p.tables e below (T'.setTop (mkF m (pc + 3) Ls (.ref b :: rest))) t → Steps p.tables e below (T.setTop (mkF m pc Ls (.ref a :: rest))) t := by
  obtain ⟨cl, A, S, hn, H⟩ := V
  have F : FitC Z cl := fitC_of A fun i hi v hv => by
    rw [H i (by omega)] at hv; cases hv; exact hfit i (by omega)
  obtain ⟨T', h', X', e', ex, A', E', st⟩ := cloneA X hx hZ hown w1 w2 w3 w4 w5 w6 eT A E F (g := mkF m pc Ls (.ref a :: rest)) rfl hsize rfl hd hf hW hl (cap := n) (by omega) hc hsl
  exact ⟨T', h', _, X', e', ex, rfl, ⟨cloneOf cl, A', S, hn, H⟩, E', st⟩
theorem mkC (X : Stand p l e R s m args below meth c T locs cells slots) (hx : p.tables.exec = Jvm.exec) (hZ : Z.Warmed39 s.vm) {aty : ArrayType} (w : (Cond.arrayClass (newarray.typeOf aty)).before a0 Z = true) (eT : T.heap = h) {z : Int32} (hz : ¬ z < 0) (hn : z.toNatClampNeg = n) (cap : Nat) (hcap : n ≤ cap)
    (hb : cap * 8 ≤ 536870912) (hc : cells + 1 ≤ R.cells) (hl : slots + cap ≤ R.slots) (hd : decode c.code pc = .ok (.newarray aty, 2)) :
    ∃ T' h' b, Stand p l e R s m args below meth c T' locs (cells + 1) (slots + cap) ∧ T'.heap = h' ∧ Ext h h' ∧ b = h.size ∧ LA Z h' b (newarray.typeOf aty) n (fun _ => defaultValue (newarray.typeOf aty)) ∧
      ∀ t, Steps p.tables e below (T'.setTop (mkF m (pc + 2) Ls (.ref b :: rest))) t → Steps p.tables e below (T.setTop (mkF m pc Ls (.int z :: rest))) t := by
  obtain ⟨T', h', k, X', e', E, A, st⟩ := newP X hx hZ w eT (g := mkF m pc Ls (.int z :: rest)) rfl hd rfl hz (cap := cap) (by omega) hb hc hl
  exact ⟨T', h', _, X', e', E, rfl, LA.new A hz hn, st⟩
end Steps
/-- an Object[]: its class takes objects; n places, place j holds f j -/
def RA (Z : State) (h : Heap) (a : Addr) (n : Nat) (f : Nat → Value) : Prop := ∃ c : Cell, Arr Z h a c (.object "java/lang/Object") ∧ Ovr Z c.cls "java/lang/Object" ∧ c.slots.size = n ∧ n < 2 ^ 31 ∧ ∀ j, j < n → c.slots[j]? = some (f j)
section Refs
variable {a b : Addr} {n i : Nat} {f g : Nat → Value} {pc : Nat} {Ls : Array Slot} {rest : List Value} {j : Int32} {v d : Value} {sl : Nat} {ws : List Addr} {vs : List Value}
theorem RA.lt (F : RA Z h a n f) : a < h.size := by obtain ⟨c, A, -⟩ := F; exact A.lt
theorem RA.ext (F : RA Z h a n f) (E : Ext h h') : RA Z h' a n f := by obtain ⟨c, A, r⟩ := F; exact ⟨c, A.ext E, r⟩
theorem RA.other (F : RA Z h b n f) (W : Wr h h' a sl v) (q : b ≠ a) : RA Z h' b n f := by obtain ⟨c, A, r⟩ := F; exact ⟨c, A.other W q, r⟩
theorem RA.keep (F : RA Z h a n f) (K : Keep h h' ws) (q : a ∉ ws) : RA Z h' a n f := by obtain ⟨c, A, r⟩ := F; exact ⟨c, ⟨K.2.1 a c A.1 q, A.2⟩, r⟩
theorem RA.congr (F : RA Z h a n f) (q : ∀ j, j < n → f j = g j) : RA Z h a n g := by obtain ⟨c, A, r0, r1, r2, r3⟩ := F; exact ⟨c, A, r0, r1, r2, fun j hj => by rw [r3 j hj, q j hj]⟩
theorem RA.list (F : RA Z h a n (fun _ => d)) : RA Z h a n (gl (List.replicate n d) d) := F.congr fun j hj => by
  simp [gl, List.getD_eq_getElem?_getD, List.getElem?_replicate, hj]
theorem RA.setL (F : RA Z h a n (gl vs d)) (W : Wr h h' a i v) (hj : i < vs.length) : RA Z h' a n (gl (vs.set i v) d) := by
  obtain ⟨c, A, r0, r1, r2, r3⟩ := F
  refine ⟨_, A.same W, r0, by rw [sz_set]; exact r1, r2, fun k hk => ?_⟩
  have e1 : k < c.slots.size := by omega
  have r := r3 k hk
  simp only [gl, Cell.setSlot, List.getD_eq_getElem?_getD, List.getElem?_set]
  by_cases q : k = i
  · subst q; simp [e1, hj]
  · rw [Array.getElem?_setIfInBounds_ne (Ne.symm q), if_neg (Ne.symm q)]; rw [r]; simp only [gl, List.getD_eq_getElem?_getD]
theorem lenR (X : Stand p l e R s m args below meth c T locs cells slots) (hx : p.tables.exec = Jvm.exec) (hZ : Z.Warmed39 s.vm) (eT : T.heap = h) (V : RA Z h a n f) (hd : decode c.code pc = .ok (.arraylength, 1)) :
    ∀ t, Steps p.tables e below (T.setTop (mkF m (pc + 1) Ls (.int (Int32.ofNat n) :: rest))) t → Steps p.tables e below (T.setTop (mkF m pc Ls (.ref a :: rest))) t := fun t k => by
  obtain ⟨cl, A, O, S, -, H⟩ := V
  refine X.arraylength hx (by rw [eT]; exact A.1) (State.isArrayOf_alike hZ.alike A.2.1) (g := mkF m pc Ls (.ref a :: rest)) rfl rfl hd _ ?_
  rw [S]; exact k
theorem ldR (X : Stand p l e R s m args below meth c T locs cells slots) (hx : p.tables.exec = Jvm.exec) (hZ : Z.Warmed39 s.vm) (eT : T.heap = h) (V : RA Z h a n f) (hj : ¬ j < 0) (hi : j.toNatClampNeg = i) (hn : i < n) (hv : f i = v) (hd : decode c.code pc = .ok (.aaload, 1)) :
    ∀ t, Steps p.tables e below (T.setTop (mkF m (pc + 1) Ls (v :: rest))) t → Steps p.tables e below (T.setTop (mkF m pc Ls (.int j :: .ref a :: rest))) t := fun t k => by
  obtain ⟨cl, A, O, S, -, H⟩ := V
  exact X.aaload hx (by rw [eT]; exact A.1) (State.isArrayOf_alike hZ.alike A.2.1) rfl A.2.2 (inb S hi hj hn) (by rw [hi, H i hn, hv]) (g := mkF m pc Ls (.int j :: .ref a :: rest)) rfl rfl hd _ k
theorem stoR (X : Stand p l e R s m args below meth c T locs cells slots) (hx : p.tables.exec = Jvm.exec) (hZ : Z.Warmed39 s.vm) (eT : T.heap = h) (V : RA Z h a n f) {y : Addr} (I : Ins Z h y "java/lang/Object" true) (hj : ¬ j < 0) (hi : j.toNatClampNeg = i) (hn : i < n) (hd : decode c.code pc = .ok (.aastore, 1)) :
    ∃ T' h', Stand p l e R s m args below meth c T' (locs ++ [⟨a, i⟩]) cells slots ∧ T'.heap = h' ∧ Wr h h' a i (.ref y) ∧ ∀ t, Steps p.tables e below (T'.setTop (mkF m (pc + 1) Ls rest)) t → Steps p.tables e below (T.setTop (mkF m pc Ls (.ref y :: .int j :: .ref a :: rest))) t := by
  obtain ⟨cl, A, O, S, -, H⟩ := V
  obtain ⟨T', h', X', e', W, st⟩ := stR X hx hZ eT A (j := j) (v := .ref y) (inb S hi hj hn) rfl (Sto.of A O I) (g := mkF m pc Ls (.ref y :: .int j :: .ref a :: rest)) rfl rfl hd
  subst hi
  exact ⟨T', h', X', e', W, st⟩
theorem mkR (X : Stand p l e R s m args below meth c T locs cells slots) (hx : p.tables.exec = Jvm.exec) (hZ : Z.Warmed39 s.vm) {own : String} {index : Nat} (hown : s.vm.findClass own = some m.cls) (w1 : (Cond.classLink own index "java/lang/Object").before a0 Z = true) (w2 : (Cond.arrayOver (.object "java/lang/Object")).before a0 Z = true) (eT : T.heap = h)
    {z : Int32} (hz : ¬ z < 0) (hn : z.toNatClampNeg = n) (hb : n * 8 ≤ 536870912) (hc : cells + 1 ≤ R.cells) (hl : slots + n ≤ R.slots) (hd : decode c.code pc = .ok (.anewarray index, 3)) :
    ∃ T' h' b, Stand p l e R s m args below meth c T' locs (cells + 1) (slots + n) ∧ T'.heap = h' ∧ Ext h h' ∧ b = h.size ∧ RA Z h' b n (fun _ => .null) ∧
      ∀ t, Steps p.tables e below (T'.setTop (mkF m (pc + 3) Ls (.ref b :: rest))) t → Steps p.tables e below (T.setTop (mkF m pc Ls (.int z :: rest))) t := by
  obtain ⟨T', h', k, X', e', E, A, O, st⟩ := newR X hx hZ hown w1 w2 eT (g := mkF m pc Ls (.int z :: rest)) rfl hd rfl hz (cap := n) (Nat.le_of_eq hn) hb hc hl
  obtain ⟨c2, A2, S2, L2, H2⟩ := LA.new A hz hn
  have ec : c2 = newA k (.object "java/lang/Object") z := Option.some.inj (A2.1.symm.trans A.1)
  subst ec
  exact ⟨T', h', _, X', e', E, rfl, ⟨_, A, O, S2, L2, H2⟩, st⟩
theorem arv_of {ty : FieldType} (V : LA Z h a ty n f) (q : ∀ j, j < n → fits ty (f j) = true) : ∃ k, Arv Z h a k ty (Int32.ofNat n) ((List.range n).map f) (defaultValue ty) := by
  obtain ⟨cl, A, S, hn, H⟩ := V
  have e1 : (Int32.ofNat n).toInt = n := Int32.toInt_ofNat_of_lt hn
  have e2 : (Int32.ofNat n).toNatClampNeg = n := by show (Int32.ofNat n).toInt.toNat = n; rw [e1]; rfl
  have e3 : ∀ i, i < n → ((List.range n).map f).getD i (defaultValue ty) = f i := fun i hi => by
    simp [List.getD_eq_getElem?_getD, List.getElem?_map, List.getElem?_range hi]
  refine ⟨cl.cls, cl, A, rfl, by rw [e2]; exact S, ?_, fun i hi => ?_, fun i hi => ?_⟩
  · rw [Int32.lt_iff_toInt_lt, e1]; show ¬ (n : Int) < 0; omega
  · rw [e3 i (by omega)]; exact H i (by omega)
  · rw [e3 i (by omega)]; exact q i (by omega)
theorem la_of {ty : FieldType} {k : ClassId} {z : Int32} (V : Arv Z h a k ty z vs d) (hz : z.toNatClampNeg = n) (hn : n < 2 ^ 31) : LA Z h a ty n (gl vs d) ∧ ∀ j, j < n → fits ty (gl vs d j) = true := by
  obtain ⟨cl, A, -, S, -, H, Gf⟩ := V
  exact ⟨⟨cl, A, by omega, hn, fun j hj => H j (by omega)⟩, fun j hj => Gf j (by omega)⟩
theorem cpL (X : Stand p l e R s m args below meth c T locs cells slots) (hx : p.tables.exec = Jvm.exec) (hZ : Z.Warmed39 s.vm) {own : String} {index : Nat} (hown : s.vm.findClass own = some m.cls)
    (w1 : (Cond.methodLink own index Jvm.Stand.acN).before a0 Z = true) (w2 : (Cond.native Jvm.Stand.acN).before a0 Z = true) (w3 : (Cond.static Jvm.Stand.acN).before a0 Z = true) (w4 : (Cond.initialized "java/lang/System").before a0 Z = true) (eT : T.heap = h)
    {n' : Nat} (A : LA Z h a .int n f) (fA : ∀ j, j < n → fits .int (f j) = true) (B : LA Z h b .int n' g) (fB : ∀ j, j < n' → fits .int (g j) = true) {sp dp nn : Nat} (h1 : sp + nn ≤ n) (h2 : dp + nn ≤ n') {n0 : Nat} (N : Fr n0 locs) (ge : n0 ≤ b)
    (hsize : Ls.size = c.maxLocals) (hd : decode c.code pc = .ok (.invokestatic index, 3)) (hf : 1 ≤ R.frames) {W : Nat} (hW : 2 * 0 + (rest.map fun v => v.category).sum ≤ W) (hlo : W + (nativeFrameWords "java/lang/System" "arraycopy" 5 + 11) ≤ R.locals) :
    ∃ T' h' L g', Stand p l e R s m args below meth c T' L cells slots ∧ T'.heap = h' ∧ Fr n0 L ∧ Keep h h' [b] ∧ LA Z h' b .int n' g' ∧ (∀ j, j < n' → fits .int (g' j) = true) ∧
      ∀ t, Steps p.tables e below (T'.setTop (mkF m (pc + 3) Ls rest)) t → Steps p.tables e below (T.setTop (mkF m pc Ls (.int (Int32.ofNat nn) :: .int (Int32.ofNat dp) :: .ref b :: .int (Int32.ofNat sp) :: .ref a :: rest))) t := by
  obtain ⟨kA, VA⟩ := arv_of A fA
  obtain ⟨kB, VB⟩ := arv_of B fB
  have hn1 : n < 2 ^ 31 := by obtain ⟨_, _, _, q, _⟩ := A; exact q
  have hn2 : n' < 2 ^ 31 := by obtain ⟨_, _, _, q, _⟩ := B; exact q
  have nc : ∀ {i : Nat}, i < 2 ^ 31 → (Int32.ofNat i).toNatClampNeg = i := fun {i} hi => by
    show (Int32.ofNat i).toInt.toNat = i; rw [Int32.toInt_ofNat_of_lt hi]; rfl
  have nn' : ∀ {i : Nat}, i < 2 ^ 31 → ¬ Int32.ofNat i < 0 := fun {i} hi => by
    rw [Int32.lt_iff_toInt_lt, Int32.toInt_ofNat_of_lt hi]; show ¬ (i : Int) < 0; omega
  obtain ⟨T', h', L, X', e', N', K, V', st⟩ := cpA X hx hZ hown w1 w2 w3 w4 eT VA VB (Or.inl ⟨rfl, rfl⟩) (sp := Int32.ofNat sp) (dp := Int32.ofNat dp) (nn := Int32.ofNat nn) (nn' (by omega)) (nn' (by omega)) (nn' (by omega))
    (by rw [nc (by omega), nc (by omega), nc (by omega)]; omega) (by rw [nc (by omega), nc (by omega), nc (by omega)]; omega) rfl (by rw [nc (by omega), nc (by omega)]; simp; omega) N ge (g := mkF m pc Ls (.int (Int32.ofNat nn) :: .int (Int32.ofNat dp) :: .ref b :: .int (Int32.ofNat sp) :: .ref a :: rest)) rfl hsize rfl hd hf hW hlo
  obtain ⟨V1, V2⟩ := la_of V' (nc hn2) hn2
  exact ⟨T', h', L, _, X', e', N', K, V1, V2, st⟩
end Refs
section Calls2
variable {own : String} {index count : Nat} {y xi : MethodName} {bytes : ByteArray} {maxL : Nat} {ret : Option FieldType} {rm : Room} {W pc : Nat} {Ls : Array Slot} {Qc : Option Value → Heap → List Loc → Prop} {ps : List FieldType} {r : Option FieldType}
theorem callP (X : Stand p l e R s m args below meth c T locs cells slots) (hx : p.tables.exec = Jvm.exec) (hZ : Z.Warmed39 s.vm) (hown : s.vm.findClass own = some m.cls) (eT : T.heap = h) (a : Addr) (argsL rest : List Value) {C : String} (E : Exa Z h a C)
    (w1 : (Cond.methodLink own index y).before a0 Z = true) (w6 : (Cond.instanceMethod y).before a0 Z = true) (w5 : (Cond.selects y.cls y y).before a0 Z = true) (w7 : (Cond.privateMethod y).before a0 Z = true) (w3 : (Cond.initialized y.cls).before a0 Z = true) (w4 : (Cond.code y bytes maxL ret).before a0 Z = true)
    (hy : y.cls ≠ "java/lang/invoke/MethodHandle" ∧ y.cls ≠ "java/lang/invoke/VarHandle")
    (hM : MetFree l y (head1 [Cond.code y bytes maxL ret] rm) (fun a' U => a' = (.ref a :: argsL).toArray ∧ Z.Warmed39 U.vm ∧ U.heap = h) (fun _ _ _ _ _ => True) (fun _ U o U' => ∃ v L, o = .returned v ∧ Qc v U'.heap L ∧ FrameEnd U o U' L rm.cells rm.slots))
    (hpd : parseMethodDescriptor y.desc = some ⟨ps, r⟩) (hll : argsL.length = ps.length) (hsize : Ls.size = c.maxLocals) (hW : 2 * 0 + (rest.map fun v => v.category).sum ≤ W)
    (hf : rm.frames + 1 ≤ R.frames) (hl : W + (maxL + 11) + rm.locals ≤ R.locals) (hc : cells + rm.cells ≤ R.cells) (hs : slots + rm.slots ≤ R.slots) (hd : decode c.code pc = .ok (.invokevirtual index, 3)) :
    ∃ v T' L, Stand p l e R s m args below meth c T' (locs ++ L) (cells + rm.cells) (slots + rm.slots) ∧ Qc v T'.heap L ∧
      ∀ t, Steps p.tables e below (T'.setTop (mkF m (pc + 3) Ls (v.toList ++ rest))) t → Steps p.tables e below (T.setTop (mkF m pc Ls (argsL.reverse ++ .ref a :: rest))) t := by
  obtain ⟨cq, q1, q2⟩ := E.cell
  obtain ⟨v, vm1, ⟨T', L', k', n'⟩, -, X', ⟨L, hQ, e1, e2, e3⟩, st⟩ := X.privateBack hx (y := y) hown (mvT hZ w1) (mvT hZ w6) (mvT hZ w5) (Cond.privateMethod_at (mvP hZ w7 (args := #[]))) (mvT hZ w4) hy (backOf (W := W) hM hZ w4 w3 hf hl) (g := mkF m pc Ls (argsL.reverse ++ .ref a :: rest)) rfl hsize (Steps.refl _) (a := a) (by rw [eT]; exact q1) q2 (argsL := argsL) (rest := rest) (lenOf hpd hll) rfl hW hd (fun _ _ => ⟨rfl, eT, hc, hs⟩)
  dsimp only [Pt.U, Pt.locs, Pt.cells, Pt.slots] at X' e1 e2 e3 st hQ
  subst e1 e2 e3
  exact ⟨v, T', L, X', hQ, fun t k => st.trans k⟩
theorem callP2 (X : Stand p l e R s m args below meth c T locs cells slots) (hx : p.tables.exec = Jvm.exec) (hZ : Z.Warmed39 s.vm) (hown : s.vm.findClass own = some m.cls) (eT : T.heap = h) (a : Addr) (argsL rest : List Value) {C : String} (E : Exa Z h a C) {y2 : MethodName} (w5 : (Cond.selects y2.cls y2 y2).before a0 Z = true) (hcl : y2.cls = y.cls)
    (w1 : (Cond.methodLink own index y).before a0 Z = true) (w6 : (Cond.instanceMethod y).before a0 Z = true) (w7 : (Cond.privateMethod y).before a0 Z = true) (w3 : (Cond.initialized y.cls).before a0 Z = true) (w4 : (Cond.code y bytes maxL ret).before a0 Z = true)
    (hy : y.cls ≠ "java/lang/invoke/MethodHandle" ∧ y.cls ≠ "java/lang/invoke/VarHandle")
    (hM : MetFree l y (head1 [Cond.code y bytes maxL ret] rm) (fun a' U => a' = (.ref a :: argsL).toArray ∧ Z.Warmed39 U.vm ∧ U.heap = h) (fun _ _ _ _ _ => True) (fun _ U o U' => ∃ v L, o = .returned v ∧ Qc v U'.heap L ∧ FrameEnd U o U' L rm.cells rm.slots))
    (hpd : parseMethodDescriptor y.desc = some ⟨ps, r⟩) (hll : argsL.length = ps.length) (hsize : Ls.size = c.maxLocals) (hW : 2 * 0 + (rest.map fun v => v.category).sum ≤ W)
    (hf : rm.frames + 1 ≤ R.frames) (hl : W + (maxL + 11) + rm.locals ≤ R.locals) (hc : cells + rm.cells ≤ R.cells) (hs : slots + rm.slots ≤ R.slots) (hd : decode c.code pc = .ok (.invokevirtual index, 3)) :
    ∃ v T' L, Stand p l e R s m args below meth c T' (locs ++ L) (cells + rm.cells) (slots + rm.slots) ∧ Qc v T'.heap L ∧
      ∀ t, Steps p.tables e below (T'.setTop (mkF m (pc + 3) Ls (v.toList ++ rest))) t → Steps p.tables e below (T.setTop (mkF m pc Ls (argsL.reverse ++ .ref a :: rest))) t := by
  obtain ⟨cq, q1, q2⟩ := E.cell
  have hpr : s.PrivateAt y := Cond.privateMethod_at (mvP hZ w7 (args := #[]))
  have hin : (Cond.instanceMethod y).before args s = true := mvT hZ w6
  obtain ⟨c5, r5, m5, z1, z2, z3, z4, k5, z5, z6⟩ := Cond.selects_spec (mvT (args := args) hZ w5)
  have hse : (Cond.selects y.cls y y).before args s = true := selects_self_of_private (by rw [← hcl]; exact findClass_of_methodNamed z3) z5 z6 hpr hin hy
  obtain ⟨v, vm1, ⟨T', L', k', n'⟩, -, X', ⟨L, hQ, e1, e2, e3⟩, st⟩ := X.privateBack hx (y := y) hown (mvT hZ w1) hin hse hpr (mvT hZ w4) hy (backOf (W := W) hM hZ w4 w3 hf hl) (g := mkF m pc Ls (argsL.reverse ++ .ref a :: rest)) rfl hsize (Steps.refl _) (a := a) (by rw [eT]; exact q1) q2 (argsL := argsL) (rest := rest) (lenOf hpd hll) rfl hW hd (fun _ _ => ⟨rfl, eT, hc, hs⟩)
  dsimp only [Pt.U, Pt.locs, Pt.cells, Pt.slots] at X' e1 e2 e3 st hQ
  subst e1 e2 e3
  exact ⟨v, T', L, X', hQ, fun t k => st.trans k⟩
theorem callF (X : Stand p l e R s m args below meth c T locs cells slots) (hx : p.tables.exec = Jvm.exec) (hZ : Z.Warmed39 s.vm) (hown : s.vm.findClass own = some m.cls) (eT : T.heap = h) (a : Addr) (argsL rest : List Value) {C : String} (E : Exa Z h a C)
    (w1 : (Cond.methodLink own index xi).before a0 Z = true) (w2 : (Cond.declares xi).before a0 Z = true) (w8 : (Cond.interfaceMethod xi.cls xi.cls xi.name xi.desc).before args s = true) (w5 : (Cond.selects C xi y).before a0 Z = true) (w6 : (Cond.instanceMethod y).before a0 Z = true) (w7 : (Cond.publicMethod y).before a0 Z = true)
    (w9 : (Cond.unhidden C xi.name xi.desc).before a0 Z = true) (w10 : (Cond.castable C xi.cls).before a0 Z = true) (w3 : (Cond.initialized y.cls).before a0 Z = true) (w4 : (Cond.code y bytes maxL ret).before a0 Z = true)
    (hy : xi.cls ≠ "java/lang/invoke/MethodHandle" ∧ xi.cls ≠ "java/lang/invoke/VarHandle")
    (hM : MetFree l y (head1 [Cond.code y bytes maxL ret] rm) (fun a' U => a' = (.ref a :: argsL).toArray ∧ Z.Warmed39 U.vm ∧ U.heap = h) (fun _ _ _ _ _ => True) (fun _ U o U' => ∃ v L, o = .returned v ∧ Qc v U'.heap L ∧ FrameEnd U o U' L rm.cells rm.slots))
    (hpd : parseMethodDescriptor xi.desc = some ⟨ps, r⟩) (hll : argsL.length = ps.length) (hsize : Ls.size = c.maxLocals) (hW : 2 * 0 + (rest.map fun v => v.category).sum ≤ W)
    (hf : rm.frames + 1 ≤ R.frames) (hl : W + (maxL + 11) + rm.locals ≤ R.locals) (hc : cells + rm.cells ≤ R.cells) (hs : slots + rm.slots ≤ R.slots) (hd : decode c.code pc = .ok (.invokeinterface index count, 5)) :
    ∃ v T' L, Stand p l e R s m args below meth c T' (locs ++ L) (cells + rm.cells) (slots + rm.slots) ∧ Qc v T'.heap L ∧
      ∀ t, Steps p.tables e below (T'.setTop (mkF m (pc + 5) Ls (v.toList ++ rest))) t → Steps p.tables e below (T.setTop (mkF m pc Ls (argsL.reverse ++ .ref a :: rest))) t := by
  obtain ⟨cq, kq, qa, qb, qc⟩ := isOf hZ eT E
  obtain ⟨v, vm1, ⟨T', L', k', n'⟩, -, X', ⟨L, hQ, e1, e2, e3⟩, st⟩ := X.interfaceBack hx (xi := xi) (y := y) hown (mvT hZ w1) (mvT hZ w2) w8 (mvT hZ w5) (mvT hZ w6) (mvT hZ w7) (mvT hZ w9) (mvT hZ w10) hy (backOf (W := W) hM hZ w4 w3 hf hl) qa qb qc (g := mkF m pc Ls (argsL.reverse ++ .ref a :: rest)) rfl hsize (Steps.refl _) (argsL := argsL) (rest := rest) (lenOf hpd hll) rfl hW hd (fun _ _ => ⟨rfl, eT, hc, hs⟩)
  dsimp only [Pt.U, Pt.locs, Pt.cells, Pt.slots] at X' e1 e2 e3 st hQ
  subst e1 e2 e3
  exact ⟨v, T', L, X', hQ, fun t k => st.trans k⟩
end Calls2
end OwnKit2

-- own numbers: small naturals as ints
theorem own_ofNat_toInt {i : Nat} (h : i < 2 ^ 31) : (Int32.ofNat i).toInt = i := Int32.toInt_ofNat_of_lt h
theorem own_nc {i : Nat} (h : i < 2 ^ 31) : (Int32.ofNat i).toNatClampNeg = i := by
  show (Int32.ofNat i).toInt.toNat = i
  rw [own_ofNat_toInt h]; rfl
theorem own_nn {i : Nat} (h : i < 2 ^ 31) : ¬ Int32.ofNat i < 0 := by
  rw [Int32.lt_iff_toInt_lt, own_ofNat_toInt h]
  show ¬ (i : Int) < 0
  omega
theorem own_lt {a b : Nat} (ha : a < 2 ^ 31) (hb : b < 2 ^ 31) : Int32.ofNat a < Int32.ofNat b ↔ a < b := by
  rw [Int32.lt_iff_toInt_lt, own_ofNat_toInt ha, own_ofNat_toInt hb]
  omega
theorem own_eqn {a b : Nat} (ha : a < 2 ^ 31) (hb : b < 2 ^ 31) : Int32.ofNat a = Int32.ofNat b ↔ a = b := by
  rw [← Int32.toInt_inj, own_ofNat_toInt ha, own_ofNat_toInt hb]
  omega
theorem own_add (a b : Nat) : Int32.ofNat a + Int32.ofNat b = Int32.ofNat (a + b) := (Int32.ofNat_add a b).symm
theorem own_sub {a b : Nat} (h : b ≤ a) : Int32.ofNat a - Int32.ofNat b = Int32.ofNat (a - b) := by
  have e : Int32.ofNat (a - b) + Int32.ofNat b = Int32.ofNat a := by rw [own_add, Nat.sub_add_cancel h]
  rw [← e, Int32.add_sub_cancel]
theorem own_ofBits (x : Int32) : x = Int32.ofNat x.toBitVec.toNat := by
  apply Int32.toBitVec_inj.mp
  show _ = BitVec.ofNat 32 _
  simp
theorem own_andN (x : Int32) (m : Nat) (hm : m < 2 ^ 32) : ∃ n : Nat, n ≤ m ∧ n = x.toBitVec.toNat &&& m ∧ (x &&& Int32.ofNat m) = Int32.ofNat n := by
  refine ⟨(x &&& Int32.ofNat m).toBitVec.toNat, ?_, ?_, own_ofBits _⟩
  · rw [Int32.toBitVec_and, BitVec.toNat_and]
    refine Nat.le_trans Nat.and_le_right ?_
    show (BitVec.ofNat 32 m).toNat ≤ m
    rw [BitVec.toNat_ofNat]; exact Nat.mod_le _ _
  · rw [Int32.toBitVec_and, BitVec.toNat_and]
    congr 1
    show (BitVec.ofNat 32 m).toNat = m
    rw [BitVec.toNat_ofNat]; exact Nat.mod_eq_of_lt hm
theorem own_and (x : Int32) (m : Nat) (hm : m < 2 ^ 32) : ∃ n : Nat, n ≤ m ∧ (x &&& Int32.ofNat m) = Int32.ofNat n := by
  obtain ⟨n, h1, -, h2⟩ := own_andN x m hm; exact ⟨n, h1, h2⟩
theorem own_rem {n d : Nat} (hn : n < 2 ^ 31) (hd : d < 2 ^ 31) : Int32.ofNat n % Int32.ofNat d = Int32.ofNat (n % d) := by
  apply Int32.toInt_inj.mp
  have h1 : n % d ≤ n := Nat.mod_le _ _
  rw [Int32.toInt_mod, own_ofNat_toInt hn, own_ofNat_toInt hd, own_ofNat_toInt (by omega), Int.ofNat_tmod]
theorem own_div {n d : Nat} (hn : n < 2 ^ 31) (hd : d < 2 ^ 31) : Int32.ofNat n / Int32.ofNat d = Int32.ofNat (n / d) := by
  apply Int32.toInt_inj.mp
  have h1 : n / d ≤ n := Nat.div_le_self _ _
  rw [Int32.toInt_div, own_ofNat_toInt hn, own_ofNat_toInt hd, own_ofNat_toInt (by omega), ← Int.ofNat_tdiv]
  generalize n / d = q at h1
  refine Int.bmod_eq_of_le ?_ ?_ <;> omega
theorem own_maskrem (k : Int32) (d : Nat) (h0 : 0 < d) (hd : d < 2 ^ 31) : ∃ i : Nat, i < d ∧ (k &&& (2147483647 : Int32)) % Int32.ofNat d = Int32.ofNat i := by
  obtain ⟨n, h1, h2⟩ := own_and k 2147483647 (by decide)
  refine ⟨n % d, Nat.mod_lt _ h0, ?_⟩
  rw [show (2147483647 : Int32) = Int32.ofNat 2147483647 from rfl, h2, own_rem (by omega) hd]
theorem own_ints (vs : List Int32) (i : Nat) : ∃ x, gl (vs.map Value.int) (.int (0 : Int32)) i = .int x := by
  simp only [gl, List.getD_eq_getElem?_getD, List.getElem?_map]
  cases vs[i]? with
  | none => exact ⟨_, rfl⟩
  | some y => exact ⟨_, rfl⟩

-- own numbers: naturals as longs
theorem o64_bits (x : Int64) : x = Int64.ofNat x.toBitVec.toNat := by
  apply Int64.toBitVec_inj.mp
  show _ = BitVec.ofNat 64 _
  simp
theorem o64_toNat {n : Nat} (h : n < 2 ^ 64) : (Int64.ofNat n).toBitVec.toNat = n := by
  show (BitVec.ofNat 64 n).toNat = n
  rw [BitVec.toNat_ofNat]; exact Nat.mod_eq_of_lt h
theorem o64_eq_of {x : Int64} {n : Nat} (h : x.toBitVec.toNat = n) : x = Int64.ofNat n := by subst h; exact o64_bits x
theorem o64_add (a b : Nat) : Int64.ofNat a + Int64.ofNat b = Int64.ofNat (a + b) := (Int64.ofNat_add a b).symm
theorem o64_mul (a b : Nat) : Int64.ofNat a * Int64.ofNat b = Int64.ofNat (a * b) := (Int64.ofNat_mul a b).symm
theorem o64_sub {a b : Nat} (h : b ≤ a) : Int64.ofNat a - Int64.ofNat b = Int64.ofNat (a - b) := by
  have e : Int64.ofNat (a - b) + Int64.ofNat b = Int64.ofNat a := by rw [o64_add, Nat.sub_add_cancel h]
  rw [← e, Int64.add_sub_cancel]
theorem o64_and {a m : Nat} (ha : a < 2 ^ 64) (hm : m < 2 ^ 64) : Int64.ofNat a &&& Int64.ofNat m = Int64.ofNat (a &&& m) := by
  apply o64_eq_of
  rw [Int64.toBitVec_and, BitVec.toNat_and, o64_toNat ha, o64_toNat hm]
theorem o64_toInt {n : Nat} (h : n < 2 ^ 63) : (Int64.ofNat n).toInt = n := Int64.toInt_ofNat_of_lt h
theorem o64_lt {a b : Nat} (ha : a < 2 ^ 63) (hb : b < 2 ^ 63) : Int64.ofNat a < Int64.ofNat b ↔ a < b := by
  rw [Int64.lt_iff_toInt_lt, o64_toInt ha, o64_toInt hb]
  omega
theorem o64_rem {n d : Nat} (hn : n < 2 ^ 63) (hd : d < 2 ^ 63) : Int64.ofNat n % Int64.ofNat d = Int64.ofNat (n % d) := by
  apply Int64.toInt_inj.mp
  have h1 : n % d ≤ n := Nat.mod_le _ _
  rw [Int64.toInt_mod, o64_toInt hn, o64_toInt hd, o64_toInt (by omega), Int.ofNat_tmod]
theorem o64_div {n d : Nat} (hn : n < 2 ^ 63) (hd : d < 2 ^ 63) : Int64.ofNat n / Int64.ofNat d = Int64.ofNat (n / d) := by
  apply Int64.toInt_inj.mp
  have h1 : n / d ≤ n := Nat.div_le_self _ _
  rw [Int64.toInt_div, o64_toInt hn, o64_toInt hd, o64_toInt (by omega), ← Int.ofNat_tdiv]
  generalize n / d = q at h1
  refine Int.bmod_eq_of_le ?_ ?_ <;> omega
theorem o64_sh (x : Int64) (k : Int32) (j : Nat) (hk : (k &&& 0x3f).toInt64.toUInt64.toBitVec.toNat = j) (hj : j < 64) : ((x.toUInt64 >>> (k &&& 0x3f).toInt64.toUInt64).toInt64).toBitVec = x.toBitVec >>> j := by
  subst hk
  show x.toUInt64.toBitVec >>> (((k &&& 0x3f).toInt64.toUInt64).toBitVec % 64#64).toNat = _
  congr 1
  rw [BitVec.toNat_umod]
  exact Nat.mod_eq_of_lt hj
theorem o64_ushr {a : Nat} (ha : a < 2 ^ 64) (k : Int32) (j : Nat) (hk : (k &&& 0x3f).toInt64.toUInt64.toBitVec.toNat = j) (hj : j < 64) : ((Int64.ofNat a).toUInt64 >>> (k &&& 0x3f).toInt64.toUInt64).toInt64 = Int64.ofNat (a / 2 ^ j) := by
  apply o64_eq_of
  rw [o64_sh _ k j hk hj, BitVec.toNat_ushiftRight, o64_toNat ha, Nat.shiftRight_eq_div_pow]
theorem o64_ge0 {n : Nat} (h : n < 2 ^ 63) : ¬ lcmpW (Int64.ofNat n) (0 : Int64) < 0 := fun q =>
  absurd ((o64_lt h (by decide : (0 : Nat) < 2 ^ 63)).mp ((lw_lt _ _).mp q)) (Nat.not_lt_zero _)
theorem o64_le {a b : Nat} (ha : a < 2 ^ 63) (hb : b < 2 ^ 63) (h : a ≤ b) : ¬ 0 < lcmpW (Int64.ofNat a) (Int64.ofNat b) := fun q =>
  absurd ((o64_lt hb ha).mp ((lw_gt _ _).mp q)) (Nat.not_lt.mpr h)
theorem o64_refl {a b : Nat} (h : a = b) : lcmpW (Int64.ofNat a) (Int64.ofNat b) = 0 := (lw_eq _ _).mpr (h ▸ rfl)
theorem o64_pos (x : Int64) : ∃ n : Nat, n < 2 ^ 63 ∧ x &&& (9223372036854775807 : Int64) = Int64.ofNat n := by
  refine ⟨(x &&& (9223372036854775807 : Int64)).toBitVec.toNat, ?_, o64_bits _⟩
  rw [Int64.toBitVec_and, BitVec.toNat_and]
  exact Nat.lt_of_le_of_lt Nat.and_le_right (by decide)
theorem own_lrem_eq (x y : Int64) : x - x / y * y = x % y := by
  apply Int64.toInt_inj.mp
  rw [Int64.toInt_sub, Int64.toInt_mul, Int64.toInt_div, Int64.toInt_mod]
  have h1 : (x % y).toInt.bmod (2 ^ 64) = (x % y).toInt := Int.bmod_eq_of_le (by have := (x % y).le_toInt; omega) (by have := (x % y).toInt_lt; omega)
  rw [Int64.toInt_mod] at h1
  rw [← h1]
  have h2 : x.toInt.tmod y.toInt = x.toInt - x.toInt.tdiv y.toInt * y.toInt := by rw [Int.tmod_def, Int.mul_comm]
  rw [h2]
  simp
theorem lremM {tb : Tables} [Ours tb] {e : Env} {below : List Frame} {T target : State} {m : MethodId} {c : Code} {g : JFrame} (h : At T m c below) (hx : tb.exec = Jvm.exec) (hg : g.method = m) {x y : Int64} {rest : List Value} (hd : decode c.code g.pc = .ok (.lrem, 1)) (hs : g.stack = .long y :: .long x :: rest) (hy : y ≠ 0)
    (hr : Steps tb e below (T.setTop { g with pc := g.pc + 1, stack := .long (x % y) :: rest }) target) : Steps tb e below (T.setTop g) target :=
  XS.lrem h hx hg hd hs hy (by rw [own_lrem_eq]; exact hr)

theorem o32_toNat {n : Nat} (h : n < 2 ^ 32) : (Int32.ofNat n).toBitVec.toNat = n := by
  show (BitVec.ofNat 32 n).toNat = n
  rw [BitVec.toNat_ofNat]; exact Nat.mod_eq_of_lt h
theorem o32_eq_of {x : Int32} {n : Nat} (h : x.toBitVec.toNat = n) : x = Int32.ofNat n := by subst h; exact own_ofBits x
theorem o32_sh (x : Int32) (k : Int32) (j : Nat) (hk : (k &&& 31).toUInt32.toBitVec.toNat = j) (hj : j < 32) : ((x.toUInt32 >>> (k &&& 31).toUInt32).toInt32).toBitVec = x.toBitVec >>> j := by
  subst hk
  show x.toUInt32.toBitVec >>> (((k &&& 31).toUInt32).toBitVec % 32#32).toNat = _
  congr 1
  rw [BitVec.toNat_umod]
  exact Nat.mod_eq_of_lt hj
theorem o32_ushr {a : Nat} (ha : a < 2 ^ 32) (k : Int32) (j : Nat) (hk : (k &&& 31).toUInt32.toBitVec.toNat = j) (hj : j < 32) : ((Int32.ofNat a).toUInt32 >>> (k &&& 31).toUInt32).toInt32 = Int32.ofNat (a / 2 ^ j) := by
  apply o32_eq_of
  rw [o32_sh _ k j hk hj, BitVec.toNat_ushiftRight, o32_toNat ha, Nat.shiftRight_eq_div_pow]
theorem own_subc {c : Nat} (d : Nat) (h : d ≤ c) : Int32.ofNat c + -(Int32.ofNat d) = Int32.ofNat (c - d) := by
  rw [← Int32.sub_eq_add_neg, own_sub h]
theorem own_finB {n B : Nat} (h : 2 ^ B ≤ n) (hn : n < 2147483648) : B < 31 := (Nat.pow_lt_pow_iff_right (a := 2) (by decide)).mp (Nat.lt_of_le_of_lt h hn)
theorem own_dd {n m j k : Nat} (h : n / 2 ^ j = m) : n / 2 ^ (j + k) = m / 2 ^ k := by
  rw [Nat.pow_add, ← Nat.div_div_eq_div_mul, h]
theorem own_fin {n m j : Nat} (h : n / 2 ^ j = m) (h0 : 0 < m) (h4 : m < 4) : 2 ^ (j + m / 2) ≤ n ∧ n < 2 ^ (j + m / 2 + 1) := by
  have hp : 0 < 2 ^ j := Nat.two_pow_pos j
  have h1 : 2 ^ j * m ≤ n := by rw [← h]; exact Nat.mul_div_le n (2 ^ j)
  have h2 : n < 2 ^ j * (m + 1) := by rw [← h]; exact Nat.lt_mul_div_succ n hp
  have hm : m = 1 ∨ m = 2 ∨ m = 3 := by omega
  rcases hm with rfl | rfl | rfl
  · simp only [Nat.reduceDiv, Nat.add_zero, Nat.pow_succ] at *; omega
  · simp only [Nat.reduceDiv, Nat.pow_succ] at *; omega
  · simp only [Nat.reduceDiv, Nat.pow_succ] at *; omega
theorem own_div1 {n B : Nat} (h1 : 2 ^ B ≤ n) (h2 : n < 2 ^ (B + 1)) : n / 2 ^ B = 1 := by
  have hp : 0 < 2 ^ B := Nat.two_pow_pos B
  rw [Nat.pow_succ] at h2
  exact Nat.div_eq_of_lt_le (by omega) (by omega)
theorem o64_toInt32 (n : Nat) : (Int64.ofNat n).toInt32 = Int32.ofNat n := by
  apply Int32.toBitVec_inj.mp
  show BitVec.signExtend 32 (BitVec.ofNat 64 n) = BitVec.ofNat 32 n
  rw [BitVec.signExtend_eq_setWidth_of_le _ (by decide)]
  apply BitVec.eq_of_toNat_eq
  simp only [BitVec.toNat_setWidth, BitVec.toNat_ofNat]
  omega
theorem own_hi {n : Nat} (h : n ≤ 2147483648) : (((Int64.ofNat n).toUInt64 >>> ((32 : Int32) &&& 0x3f).toInt64.toUInt64).toInt64).toInt32 = (0 : Int32) := by
  rw [o64_ushr (by omega) 32 32 (by decide) (by decide), o64_toInt32, Nat.div_eq_of_lt (by omega)]
  rfl
theorem own_top {c : Nat} (h : c < 2147483648) : (Int32.ofNat c).toInt64 + (1 : Int64) = Int64.ofNat (c + 1) := by
  rw [← o64_add]
  congr 1
  apply Int64.toInt_inj.mp
  rw [Int32.toInt_toInt64, own_ofNat_toInt h, o64_toInt (by omega)]
theorem o_shamt : ∀ j, j < 64 → (Int32.ofNat j &&& 0x3f).toInt64.toUInt64.toBitVec.toNat = j := by decide +kernel
theorem o_one : ∀ j, j < 64 → (1 : Int64) <<< (Int32.ofNat j &&& 0x3f).toInt64 = Int64.ofNat (2 ^ j) := by decide +kernel

theorem bc_div (a M k : Nat) : (a &&& M) / 2 ^ k = (a / 2 ^ k) &&& (M / 2 ^ k) := by
  rw [← Nat.shiftRight_eq_div_pow, ← Nat.shiftRight_eq_div_pow, ← Nat.shiftRight_eq_div_pow, Nat.shiftRight_and_distrib]
theorem bc_mod (a M k : Nat) : (a &&& M) % 2 ^ k ≤ M % 2 ^ k := by
  rw [Nat.and_mod_two_pow]; exact Nat.and_le_right
theorem bc_byte (S M k : Nat) (hM : M / 2 ^ k % 256 = 15) : (S &&& M) / 2 ^ k % 256 ≤ 15 := by
  rw [bc_div, show (256 : Nat) = 2 ^ 8 from rfl]
  refine Nat.le_trans (bc_mod _ _ 8) ?_
  rw [show (2 : Nat) ^ 8 = 256 from rfl, hM]
  exact Nat.le_refl _
def bcA (X : Nat) : Nat := X - (X / 2 ^ 1 &&& 6148914691236517205)
def bcB (A : Nat) : Nat := (A &&& 3689348814741910323) + (A / 2 ^ 2 &&& 3689348814741910323)
def bcC (B : Nat) : Nat := (B + B / 2 ^ 4) &&& 1085102592571150095
def bcD (C : Nat) : Nat := C + C / 2 ^ 8
def bcE (C : Nat) : Nat := C + C / 2 ^ 16
def bcF (C : Nat) : Nat := C + C / 2 ^ 32
theorem bcA_le (X : Nat) : bcA X ≤ X := Nat.sub_le _ _
theorem bcA_ge (X : Nat) : X / 2 ≤ bcA X := by
  have h : (X / 2 ^ 1 &&& 6148914691236517205) ≤ X / 2 ^ 1 := Nat.and_le_left
  unfold bcA; omega
theorem bcB_le (A : Nat) : bcB A ≤ 7378697629483820646 := by
  have h1 : (A &&& 3689348814741910323) ≤ 3689348814741910323 := Nat.and_le_right
  have h2 : (A / 2 ^ 2 &&& 3689348814741910323) ≤ 3689348814741910323 := Nat.and_le_right
  unfold bcB; omega
theorem bcB_top (A : Nat) (h : 2 ^ 62 ≤ A) (h2 : A < 2 ^ 64) : 1 ≤ bcB A / 1152921504606846976 := by
  have e : (A / 2 ^ 2 &&& 3689348814741910323) / 2 ^ 60 = (A / 2 ^ 2 / 2 ^ 60) &&& 3 := bc_div _ _ 60
  have e2 : (A / 2 ^ 2 / 2 ^ 60) &&& 3 = (A / 2 ^ 2 / 2 ^ 60) % 4 := Nat.and_two_pow_sub_one_eq_mod _ 2
  rw [e2] at e
  unfold bcB
  generalize (A / 2 ^ 2 &&& 3689348814741910323) = W at e ⊢
  omega
theorem bcB_lo (A : Nat) : bcB A % 72057594037927936 ≤ 28823037615171174 ∧ bcB A % 1152921504606846976 ≤ 461168601842738790 := by
  have h1 : (A &&& 3689348814741910323) % 2 ^ 56 ≤ 14411518807585587 := bc_mod _ _ 56
  have h2 : (A / 2 ^ 2 &&& 3689348814741910323) % 2 ^ 56 ≤ 14411518807585587 := bc_mod _ _ 56
  have h3 : (A &&& 3689348814741910323) % 2 ^ 60 ≤ 230584300921369395 := bc_mod _ _ 60
  have h4 : (A / 2 ^ 2 &&& 3689348814741910323) % 2 ^ 60 ≤ 230584300921369395 := bc_mod _ _ 60
  unfold bcB
  generalize (A / 2 ^ 2 &&& 3689348814741910323) = W at h2 h4 ⊢
  generalize (A &&& 3689348814741910323) = U at h1 h3 ⊢
  omega
theorem bcC_top (B : Nat) (h0 : B ≤ 7378697629483820646) (h1 : 1 ≤ B / 1152921504606846976) (h2 : B % 72057594037927936 ≤ 28823037615171174) (h3 : B % 1152921504606846976 ≤ 461168601842738790) : 1 ≤ bcC B / 72057594037927936 := by
  have e : ((B + B / 2 ^ 4) &&& 1085102592571150095) / 2 ^ 56 = ((B + B / 2 ^ 4) / 2 ^ 56) &&& 15 := bc_div _ _ 56
  have e2 : ((B + B / 2 ^ 4) / 2 ^ 56) &&& 15 = ((B + B / 2 ^ 4) / 2 ^ 56) % 16 := Nat.and_two_pow_sub_one_eq_mod _ 4
  rw [e2] at e
  unfold bcC
  rw [show (72057594037927936 : Nat) = 2 ^ 56 from rfl, e]
  obtain ⟨f, ef⟩ : ∃ f, f = B / 1152921504606846976 := ⟨_, rfl⟩
  obtain ⟨g, eg⟩ : ∃ g, g = B % 1152921504606846976 / 72057594037927936 := ⟨_, rfl⟩
  obtain ⟨r, er⟩ : ∃ r, r = B % 72057594037927936 := ⟨_, rfl⟩
  have eB : B = 1152921504606846976 * f + 72057594037927936 * g + r := by omega
  have hg : g ≤ 6 := by omega
  have hf : f ≤ 6 := by omega
  have hr : r ≤ 28823037615171174 := by omega
  have hf1 : 1 ≤ f := by omega
  have e3 : (B + B / 2 ^ 4) / 2 ^ 56 = 17 * f + g := by
    clear e e2 ef eg er h0 h1 h2 h3
    omega
  rw [e3, show 17 * f + g = (f + g) + 16 * f by omega, Nat.add_mul_mod_self_left, Nat.mod_eq_of_lt (by omega)]; omega
theorem bcC_le (B : Nat) : bcC B ≤ 1085102592571150095 := Nat.and_le_right
theorem bc_two {a b c g k : Nat} (r0 : a = g + 256 * b) (r1 : b = k + 256 * c) (hg : g ≤ 15) (hk : k ≤ 15) : (a + b) / 256 = b + c := by
  rw [show a + b = (g + k) + 256 * (b + c) by omega, Nat.add_mul_div_left _ _ (by decide), Nat.div_eq_of_lt (by omega), Nat.zero_add]
theorem bc_four {a b c d e g k i j : Nat} (r0 : a = g + 256 * b) (r1 : b = k + 256 * c) (r2 : c = i + 256 * d) (r3 : d = j + 256 * e) (hg : g ≤ 15) (hk : k ≤ 15) (hi : i ≤ 15) (hj : j ≤ 15) : (a + b + (c + d)) / 256 = b + c + (d + e) := by
  rw [show a + b + (c + d) = (g + k + i + j) + 256 * (b + c + (d + e)) by omega, Nat.add_mul_div_left _ _ (by decide), Nat.div_eq_of_lt (by omega), Nat.zero_add]
theorem bc_one {C T T' g k : Nat} (hT : T = C / 2 ^ k) (hT' : T' = C / 2 ^ (k + 8)) (hg : g = T % 256) : T = g + 256 * T' := by
  have e : T' = T / 256 := by rw [hT, hT', Nat.div_div_eq_div_mul, Nat.pow_add]
  rw [e, hg]; omega
theorem bc_sum (C : Nat) (hC : C ≤ 1085102592571150095) (b0 : C % 256 ≤ 15) (b1 : C / 2 ^ 8 % 256 ≤ 15) (b2 : C / 2 ^ 16 % 256 ≤ 15) (b3 : C / 2 ^ 24 % 256 ≤ 15) (b4 : C / 2 ^ 32 % 256 ≤ 15) (b5 : C / 2 ^ 40 % 256 ≤ 15) (b6 : C / 2 ^ 48 % 256 ≤ 15) (b7 : C / 2 ^ 56 % 256 ≤ 15) (h : 1 ≤ C / 72057594037927936) : 1 ≤ bcF (bcE (bcD C)) % 128 := by
  obtain ⟨T0, t0⟩ : ∃ T, T = C / 2 ^ 0 := ⟨_, rfl⟩
  obtain ⟨g0, e0⟩ : ∃ g, g = T0 % 256 := ⟨_, rfl⟩
  obtain ⟨T1, t1⟩ : ∃ T, T = C / 2 ^ 8 := ⟨_, rfl⟩
  obtain ⟨g1, e1⟩ : ∃ g, g = T1 % 256 := ⟨_, rfl⟩
  obtain ⟨T2, t2⟩ : ∃ T, T = C / 2 ^ 16 := ⟨_, rfl⟩
  obtain ⟨g2, e2⟩ : ∃ g, g = T2 % 256 := ⟨_, rfl⟩
  obtain ⟨T3, t3⟩ : ∃ T, T = C / 2 ^ 24 := ⟨_, rfl⟩
  obtain ⟨g3, e3⟩ : ∃ g, g = T3 % 256 := ⟨_, rfl⟩
  obtain ⟨T4, t4⟩ : ∃ T, T = C / 2 ^ 32 := ⟨_, rfl⟩
  obtain ⟨g4, e4⟩ : ∃ g, g = T4 % 256 := ⟨_, rfl⟩
  obtain ⟨T5, t5⟩ : ∃ T, T = C / 2 ^ 40 := ⟨_, rfl⟩
  obtain ⟨g5, e5⟩ : ∃ g, g = T5 % 256 := ⟨_, rfl⟩
  obtain ⟨T6, t6⟩ : ∃ T, T = C / 2 ^ 48 := ⟨_, rfl⟩
  obtain ⟨g6, e6⟩ : ∃ g, g = T6 % 256 := ⟨_, rfl⟩
  obtain ⟨T7, t7⟩ : ∃ T, T = C / 2 ^ 56 := ⟨_, rfl⟩
  obtain ⟨g7, e7⟩ : ∃ g, g = T7 % 256 := ⟨_, rfl⟩
  have c0 : C = T0 := by rw [t0, Nat.pow_zero, Nat.div_one]
  have r0 : T0 = g0 + 256 * T1 := bc_one t0 t1 e0
  have r1 : T1 = g1 + 256 * T2 := bc_one t1 t2 e1
  have r2 : T2 = g2 + 256 * T3 := bc_one t2 t3 e2
  have r3 : T3 = g3 + 256 * T4 := bc_one t3 t4 e3
  have r4 : T4 = g4 + 256 * T5 := bc_one t4 t5 e4
  have r5 : T5 = g5 + 256 * T6 := bc_one t5 t6 e5
  have r6 : T6 = g6 + 256 * T7 := bc_one t6 t7 e6
  have h7 : T7 ≤ 15 := by rw [t7]; exact Nat.le_trans (Nat.div_le_div_right hC) (by decide)
  have h1 : 1 ≤ T7 := by rw [t7]; exact h
  have q0 : g0 ≤ 15 := by rw [e0, ← c0]; exact b0
  have q1 : g1 ≤ 15 := by rw [e1, t1]; exact b1
  have q2 : g2 ≤ 15 := by rw [e2, t2]; exact b2
  have q3 : g3 ≤ 15 := by rw [e3, t3]; exact b3
  have q4 : g4 ≤ 15 := by rw [e4, t4]; exact b4
  have q5 : g5 ≤ 15 := by rw [e5, t5]; exact b5
  have q6 : g6 ≤ 15 := by rw [e6, t6]; exact b6
  clear b0 b1 b2 b3 b4 b5 b6 b7 h hC e0 t0 e1 t1 e2 t2 e3 t3 e4 t4 e5 t5 e6 t6 e7 t7
  have eD : bcD C = T0 + T1 := by
    unfold bcD; rw [c0, r0, show (2 : Nat) ^ 8 = 256 from rfl, Nat.add_mul_div_left _ _ (by decide), Nat.div_eq_of_lt (by omega), Nat.zero_add]
  have d1 : (T0 + T1) / 256 = T1 + T2 := bc_two r0 r1 q0 q1
  have d2 : (T1 + T2) / 256 = T2 + T3 := bc_two r1 r2 q1 q2
  have eE : bcE (bcD C) = T0 + T1 + (T2 + T3) := by
    unfold bcE; rw [eD, show (2 : Nat) ^ 16 = 256 * 256 from rfl, ← Nat.div_div_eq_div_mul, d1, d2]
  have x1 : (T0 + T1 + (T2 + T3)) / 256 = T1 + T2 + (T3 + T4) := bc_four r0 r1 r2 r3 q0 q1 q2 q3
  have x2 : (T1 + T2 + (T3 + T4)) / 256 = T2 + T3 + (T4 + T5) := bc_four r1 r2 r3 r4 q1 q2 q3 q4
  have x3 : (T2 + T3 + (T4 + T5)) / 256 = T3 + T4 + (T5 + T6) := bc_four r2 r3 r4 r5 q2 q3 q4 q5
  have x4 : (T3 + T4 + (T5 + T6)) / 256 = T4 + T5 + (T6 + T7) := bc_four r3 r4 r5 r6 q3 q4 q5 q6
  have eF : bcF (bcE (bcD C)) = T0 + T1 + (T2 + T3) + (T4 + T5 + (T6 + T7)) := by
    unfold bcF; rw [eE, show (2 : Nat) ^ 32 = 256 * 256 * 256 * 256 from rfl, ← Nat.div_div_eq_div_mul, ← Nat.div_div_eq_div_mul, ← Nat.div_div_eq_div_mul, x1, x2, x3, x4]
  clear eD d1 d2 eE x1 x2 x3 x4
  rw [eF, show T0 + T1 + (T2 + T3) + (T4 + T5 + (T6 + T7)) = (g0 + g1 + g2 + g3 + g4 + g5 + g6 + T7) + 128 * (2 * (T1 + T2 + T3 + T4 + T5 + T6 + T7)) by clear eF c0; omega]
  clear eF c0 r0 r1 r2 r3 r4 r5 r6
  rw [Nat.add_mul_mod_self_left, Nat.mod_eq_of_lt (by omega)]
  omega
theorem bc_pos (X : Nat) (h1 : 2 ^ 63 ≤ X) (h2 : X < 2 ^ 64) : 1 ≤ bcF (bcE (bcD (bcC (bcB (bcA X))))) % 128 := by
  have a1 := bcA_le X
  have a2 := bcA_ge X
  have t := bcB_top (bcA X) (by omega) (by omega)
  have l := bcB_lo (bcA X)
  have c := bcC_top (bcB (bcA X)) (bcB_le _) t l.1 l.2
  exact bc_sum _ (bcC_le _) (by have q := bc_byte (bcB (bcA X) + bcB (bcA X) / 2 ^ 4) 1085102592571150095 0 (by decide); rw [Nat.pow_zero, Nat.div_one] at q; exact q) (bc_byte _ _ 8 (by decide)) (bc_byte _ _ 16 (by decide)) (bc_byte _ _ 24 (by decide)) (bc_byte _ _ 32 (by decide)) (bc_byte _ _ 40 (by decide)) (bc_byte _ _ 48 (by decide)) (bc_byte _ _ 56 (by decide)) c

def obit (x : Int64) (i : Nat) : Bool := x.toBitVec.getLsbD i
def oBITS (IN : Nat → Int64) (h i : Nat) : Bool := decide (i < 2048) && obit (IN (h * 32 + i / 64)) (i % 64)
theorem o_smod : ∀ k, k < 64 → ((Int32.ofNat k &&& 0x3f).toInt64.toBitVec.smod 64#64) = BitVec.ofNat 64 k := by decide +kernel
theorem o64_shlB (x : Int64) {k : Nat} (hk : k < 64) : (x <<< (Int32.ofNat k &&& 0x3f).toInt64).toBitVec = x.toBitVec <<< k := by
  show x.toBitVec <<< ((Int32.ofNat k &&& 0x3f).toInt64.toBitVec.smod 64#64) = _
  rw [o_smod k hk, BitVec.shiftLeft_eq', BitVec.toNat_ofNat, Nat.mod_eq_of_lt (by omega)]
theorem o64_shrB (x : Int64) {k : Nat} (hk : k < 64) : ((x.toUInt64 >>> (Int32.ofNat k &&& 0x3f).toInt64.toUInt64).toInt64).toBitVec = x.toBitVec >>> k := o64_sh x (Int32.ofNat k) k (o_shamt k hk) hk
theorem obit_or (x y : Int64) (i : Nat) : obit (x ||| y) i = (obit x i || obit y i) := by unfold obit; rw [Int64.toBitVec_or, BitVec.getLsbD_or]
theorem obit_shl (x : Int64) {k : Nat} (hk : k < 64) {i : Nat} (hi : i < 64) : obit (x <<< (Int32.ofNat k &&& 0x3f).toInt64) i = (decide (k ≤ i) && obit x (i - k)) := by
  unfold obit; rw [o64_shlB x hk, BitVec.getLsbD_shiftLeft]
  by_cases h : i < k
  · simp [h, Nat.not_le.mpr h]
  · simp [hi, h, Nat.not_lt.mp h]
theorem obit_shr (x : Int64) {k : Nat} (hk : k < 64) (i : Nat) : obit ((x.toUInt64 >>> (Int32.ofNat k &&& 0x3f).toInt64.toUInt64).toInt64) i = obit x (k + i) := by
  unfold obit; rw [o64_shrB x hk, BitVec.getLsbD_ushiftRight]
theorem obit_mask (x : Int64) (i : Nat) : obit (x &&& (281474976710655 : Int64)) i = (decide (i < 48) && obit x i) := by
  unfold obit
  rw [Int64.toBitVec_and, BitVec.getLsbD_and]
  by_cases h64 : i < 64
  · have q : ∀ i, i < 64 → ((281474976710655 : Int64).toBitVec.getLsbD i) = decide (i < 48) := by decide +kernel
    rw [q i h64, Bool.and_comm]
  · rw [BitVec.getLsbD_of_ge _ _ (by omega)]; simp
theorem obit_ge (x : Int64) {i : Nat} (h : 64 ≤ i) : obit x i = false := BitVec.getLsbD_of_ge _ _ h
theorem obit_ext {x y : Int64} (h : ∀ i, i < 64 → obit x i = obit y i) : x = y := by
  apply Int64.toBitVec_inj.mp
  apply BitVec.eq_of_getLsbD_eq
  intro i hi; exact h i hi
def own_cA (IN : Nat → Int64) (h s : Nat) : Int64 := ((IN (h * 32 + s * 48 / 64)).toUInt64 >>> (Int32.ofNat (s * 48 % 64) &&& 0x3f).toInt64.toUInt64).toInt64
def own_cB (IN : Nat → Int64) (h s : Nat) : Int64 := (IN (h * 32 + s * 48 / 64 + 1)) <<< (Int32.ofNat (64 - s * 48 % 64) &&& 0x3f).toInt64
def own_cod (IN : Nat → Int64) (h s : Nat) : Int64 := if 16 < s * 48 % 64 then (if s * 48 / 64 + 1 < 32 then own_cA IN h s ||| own_cB IN h s else own_cA IN h s) else own_cA IN h s
theorem own_cA_bit (IN : Nat → Int64) (h s b : Nat) : obit (own_cA IN h s) b = obit (IN (h * 32 + s * 48 / 64)) (s * 48 % 64 + b) := obit_shr _ (by omega) b
theorem own_codbit (IN : Nat → Int64) {h s b : Nat} (hs : s < 43) (hb : b < 48) : obit (own_cod IN h s &&& (281474976710655 : Int64)) b = oBITS IN h (s * 48 + b) := by
  rw [obit_mask]
  have e1 : decide (b < 48) = true := decide_eq_true hb
  rw [e1, Bool.true_and]
  unfold own_cod oBITS
  by_cases h16 : 16 < s * 48 % 64
  · rw [if_pos h16]
    by_cases hw : s * 48 / 64 + 1 < 32
    · rw [if_pos hw, obit_or, own_cA_bit]
      unfold own_cB
      rw [obit_shl _ (by omega) (by omega), decide_eq_true (show s * 48 + b < 2048 by omega), Bool.true_and]
      by_cases hx : s * 48 % 64 + b < 64
      · rw [decide_eq_false (show ¬ 64 - s * 48 % 64 ≤ b by omega), Bool.false_and, Bool.or_false, show (s * 48 + b) / 64 = s * 48 / 64 by omega, show (s * 48 + b) % 64 = s * 48 % 64 + b by omega]
      · rw [obit_ge _ (by omega), Bool.false_or, decide_eq_true (show 64 - s * 48 % 64 ≤ b by omega), Bool.true_and, show h * 32 + (s * 48 + b) / 64 = h * 32 + s * 48 / 64 + 1 by omega, show (s * 48 + b) % 64 = b - (64 - s * 48 % 64) by omega]
    · rw [if_neg hw, own_cA_bit]
      by_cases hx : s * 48 % 64 + b < 64
      · rw [decide_eq_true (show s * 48 + b < 2048 by omega), Bool.true_and, show (s * 48 + b) / 64 = s * 48 / 64 by omega, show (s * 48 + b) % 64 = s * 48 % 64 + b by omega]
      · rw [obit_ge _ (by omega), decide_eq_false (show ¬ s * 48 + b < 2048 by omega), Bool.false_and]
  · have hs' : s ≠ 42 := fun q => by subst q; exact h16 (by decide)
    rw [if_neg h16, own_cA_bit, decide_eq_true (show s * 48 + b < 2048 by omega), Bool.true_and, show (s * 48 + b) / 64 = s * 48 / 64 by omega, show (s * 48 + b) % 64 = s * 48 % 64 + b by omega]
def GoodW (IN : Nat → Int64) (h s : Nat) (W : Int64) : Prop := (∀ b, b < 48 → obit W b = oBITS IN h (s * 48 + b)) ∧ W.toBitVec.toNat / 2 ^ 48 ≤ 5461
theorem own_P64 {P : Nat} (hP : P ≤ 5461) : (Int32.ofNat P).toInt64 = Int64.ofNat P := by
  apply Int64.toInt_inj.mp
  rw [Int32.toInt_toInt64, own_ofNat_toInt (by omega), o64_toInt (by omega)]
theorem own_rkW (x : Int64) {P : Nat} (hP : P ≤ 5461) : (∀ b, b < 48 → obit ((x &&& (281474976710655 : Int64)) ||| ((Int32.ofNat P).toInt64 <<< ((48 : Int32) &&& 0x3f).toInt64)) b = obit x b) ∧
    ((x &&& (281474976710655 : Int64)) ||| ((Int32.ofNat P).toInt64 <<< ((48 : Int32) &&& 0x3f).toInt64)).toBitVec.toNat / 2 ^ 48 ≤ 5461 := by
  rw [own_P64 hP]
  have hb : ∀ b, b < 64 → obit ((x &&& (281474976710655 : Int64)) ||| (Int64.ofNat P <<< ((48 : Int32) &&& 0x3f).toInt64)) b = ((decide (b < 48) && obit x b) || (decide (48 ≤ b) && obit (Int64.ofNat P) (b - 48))) := fun b hb => by
    rw [obit_or, obit_mask]
    have e := obit_shl (Int64.ofNat P) (k := 48) (by decide) hb
    rw [show (Int64.ofNat P <<< ((48 : Int32) &&& 0x3f).toInt64) = (Int64.ofNat P <<< (Int32.ofNat 48 &&& 0x3f).toInt64) from rfl, e]
  refine ⟨fun b h => ?_, ?_⟩
  · rw [hb b (by omega), decide_eq_true h, decide_eq_false (show ¬ 48 ≤ b by omega)]; simp
  · generalize ((x &&& (281474976710655 : Int64)) ||| (Int64.ofNat P <<< ((48 : Int32) &&& 0x3f).toInt64)) = W at hb
    have e : W.toBitVec.toNat / 2 ^ 48 = P := by
      apply Nat.eq_of_testBit_eq
      intro i
      rw [← Nat.shiftRight_eq_div_pow, Nat.testBit_shiftRight]
      by_cases hi : 48 + i < 64
      · have q := hb (48 + i) hi
        have q2 : obit W (48 + i) = W.toBitVec.toNat.testBit (48 + i) := rfl
        rw [← q2, q, decide_eq_false (show ¬ 48 + i < 48 by omega), decide_eq_true (show 48 ≤ 48 + i by omega), Nat.add_sub_cancel_left]
        simp only [Bool.false_and, Bool.false_or, Bool.true_and]
        show (BitVec.ofNat 64 P).getLsbD i = _
        rw [BitVec.getLsbD_ofNat]
        simp; omega
      · have q2 : obit W (48 + i) = W.toBitVec.toNat.testBit (48 + i) := rfl
        rw [← q2, obit_ge W (by omega)]
        exact (Nat.testBit_lt_two_pow (Nat.lt_of_le_of_lt hP (Nat.lt_of_lt_of_le (show 5461 < 2 ^ 16 by decide) (Nat.pow_le_pow_right (by decide) (by omega))))).symm
    rw [e]; exact hP
theorem GoodW.of {IN : Nat → Int64} {h s : Nat} {x W : Int64} (hx : ∀ b, b < 48 → obit x b = oBITS IN h (s * 48 + b)) (h1 : ∀ b, b < 48 → obit W b = obit x b) (h2 : W.toBitVec.toNat / 2 ^ 48 ≤ 5461) : GoodW IN h s W := ⟨fun b hb => by rw [h1 b hb, hx b hb], h2⟩
def updI (F : Nat → Int64) (j : Nat) (v : Int64) : Nat → Int64 := fun i => if i = j then v else F i
theorem upd_long (F : Nat → Int64) (j : Nat) (v : Int64) (i : Nat) : upd (fun i => .long (F i)) j (.long v) i = .long (updI F j v i) := by
  unfold upd updI; split <;> rfl
theorem updI_at (F : Nat → Int64) (j : Nat) (v : Int64) : updI F j v j = v := if_pos rfl
theorem updI_ne (F : Nat → Int64) {i j : Nat} (v : Int64) (h : ¬ i = j) : updI F j v i = F i := if_neg h
-- the accumulating array
def InvO (IN G : Nat → Int64) (h s : Nat) : Prop := ∀ w, w < 32 → ∀ b, b < 64 → obit (G (h * 32 + w)) b = (decide (64 * w + b < s * 48) && obit (IN (h * 32 + w)) b)
theorem own_acc (IN : Nat → Int64) {h s : Nat} {c g : Int64} (hs : s < 43) (hc : ∀ j, j < 64 → obit c j = (decide (j < 48) && oBITS IN h (s * 48 + j)))
    (hg : ∀ b, b < 64 → obit g b = (decide (64 * (s * 48 / 64) + b < s * 48) && obit (IN (h * 32 + s * 48 / 64)) b)) :
    ∀ b, b < 64 → obit (g ||| (c <<< (Int32.ofNat (s * 48 % 64) &&& 0x3f).toInt64)) b = (decide (64 * (s * 48 / 64) + b < (s + 1) * 48) && obit (IN (h * 32 + s * 48 / 64)) b) := fun b hb => by
  rw [obit_or, hg b hb, obit_shl _ (by omega) hb]
  by_cases h1 : s * 48 % 64 ≤ b
  · rw [decide_eq_true h1, Bool.true_and, hc _ (by omega)]
    unfold oBITS
    rw [show (s * 48 + (b - s * 48 % 64)) / 64 = s * 48 / 64 by omega, show (s * 48 + (b - s * 48 % 64)) % 64 = b by omega]
    rw [decide_eq_false (show ¬ 64 * (s * 48 / 64) + b < s * 48 by omega), Bool.false_and, Bool.false_or]
    by_cases h2 : b - s * 48 % 64 < 48
    · rw [decide_eq_true h2, decide_eq_true (show s * 48 + (b - s * 48 % 64) < 2048 by omega), decide_eq_true (show 64 * (s * 48 / 64) + b < (s + 1) * 48 by omega)]; simp
    · rw [decide_eq_false h2, decide_eq_false (show ¬ 64 * (s * 48 / 64) + b < (s + 1) * 48 by omega)]; simp
  · rw [decide_eq_false h1, decide_eq_true (show 64 * (s * 48 / 64) + b < s * 48 by omega), decide_eq_true (show 64 * (s * 48 / 64) + b < (s + 1) * 48 by omega)]; simp
theorem own_acc2 (IN : Nat → Int64) {h s : Nat} {c g : Int64} (hs : s < 43) (h16 : 16 < s * 48 % 64) (hw : s * 48 / 64 + 1 < 32) (hc : ∀ j, j < 64 → obit c j = (decide (j < 48) && oBITS IN h (s * 48 + j)))
    (hg : ∀ b, b < 64 → obit g b = (decide (64 * (s * 48 / 64 + 1) + b < s * 48) && obit (IN (h * 32 + (s * 48 / 64 + 1))) b)) :
    ∀ b, b < 64 → obit (g ||| ((c.toUInt64 >>> (Int32.ofNat (64 - s * 48 % 64) &&& 0x3f).toInt64.toUInt64).toInt64)) b = (decide (64 * (s * 48 / 64 + 1) + b < (s + 1) * 48) && obit (IN (h * 32 + (s * 48 / 64 + 1))) b) := fun b hb => by
  rw [obit_or, hg b hb, obit_shr _ (by omega), decide_eq_false (show ¬ 64 * (s * 48 / 64 + 1) + b < s * 48 by omega), Bool.false_and, Bool.false_or]
  by_cases h1 : 64 - s * 48 % 64 + b < 48
  · rw [hc _ (by omega), decide_eq_true h1, Bool.true_and]
    unfold oBITS
    rw [show (s * 48 + (64 - s * 48 % 64 + b)) / 64 = s * 48 / 64 + 1 by omega, show (s * 48 + (64 - s * 48 % 64 + b)) % 64 = b by omega, decide_eq_true (show s * 48 + (64 - s * 48 % 64 + b) < 2048 by omega), decide_eq_true (show 64 * (s * 48 / 64 + 1) + b < (s + 1) * 48 by omega)]
  · rw [decide_eq_false (show ¬ 64 * (s * 48 / 64 + 1) + b < (s + 1) * 48 by omega), Bool.false_and]
    by_cases h2 : 64 - s * 48 % 64 + b < 64
    · rw [hc _ h2, decide_eq_false h1, Bool.false_and]
    · exact obit_ge _ (by omega)
theorem InvO.one {IN G : Nat → Int64} {h s : Nat} {c : Int64} (I : InvO IN G h s) (hs : s < 43) (hc : ∀ j, j < 64 → obit c j = (decide (j < 48) && oBITS IN h (s * 48 + j))) (hno : ¬ (16 < s * 48 % 64 ∧ s * 48 / 64 + 1 < 32)) :
    InvO IN (updI G (h * 32 + s * 48 / 64) (G (h * 32 + s * 48 / 64) ||| (c <<< (Int32.ofNat (s * 48 % 64) &&& 0x3f).toInt64))) h (s + 1) := fun w hw b hb => by
  by_cases e : w = s * 48 / 64
  · subst e; rw [updI_at]; exact own_acc IN hs hc (fun b hb => I _ hw b hb) b hb
  · rw [updI_ne _ _ (by omega), I w hw b hb]
    congr 1
    rw [decide_eq_decide]; omega
theorem InvO.two {IN G : Nat → Int64} {h s : Nat} {c : Int64} (I : InvO IN G h s) (hs : s < 43) (hc : ∀ j, j < 64 → obit c j = (decide (j < 48) && oBITS IN h (s * 48 + j))) (h16 : 16 < s * 48 % 64) (hw1 : s * 48 / 64 + 1 < 32) :
    InvO IN (updI (updI G (h * 32 + s * 48 / 64) (G (h * 32 + s * 48 / 64) ||| (c <<< (Int32.ofNat (s * 48 % 64) &&& 0x3f).toInt64))) (h * 32 + s * 48 / 64 + 1)
      (updI G (h * 32 + s * 48 / 64) (G (h * 32 + s * 48 / 64) ||| (c <<< (Int32.ofNat (s * 48 % 64) &&& 0x3f).toInt64)) (h * 32 + s * 48 / 64 + 1) ||| ((c.toUInt64 >>> (Int32.ofNat (64 - s * 48 % 64) &&& 0x3f).toInt64.toUInt64).toInt64))) h (s + 1) := fun w hw b hb => by
  by_cases e1 : w = s * 48 / 64 + 1
  · subst e1
    rw [show h * 32 + (s * 48 / 64 + 1) = h * 32 + s * 48 / 64 + 1 by omega, updI_at, updI_ne _ _ (by omega)]
    exact own_acc2 IN hs h16 hw1 hc (fun b hb => I _ hw b hb) b hb
  · rw [updI_ne _ _ (by omega)]
    by_cases e : w = s * 48 / 64
    · subst e; rw [updI_at]; exact own_acc IN hs hc (fun b hb => I _ hw b hb) b hb
    · rw [updI_ne _ _ (by omega), I w hw b hb]
      congr 1
      rw [decide_eq_decide]; omega
theorem InvO.full {IN G : Nat → Int64} {h : Nat} (I : InvO IN G h 43) {w : Nat} (hw : w < 32) : G (h * 32 + w) = IN (h * 32 + w) := obit_ext fun b hb => by
  rw [I w hw b hb, decide_eq_true (show 64 * w + b < 48 * 43 by omega), Bool.true_and]
theorem InvO.zero {IN G : Nat → Int64} {h : Nat} (hz : ∀ w, w < 32 → G (h * 32 + w) = 0) : InvO IN G h 0 := fun w hw b hb => by
  rw [hz w hw]; unfold obit; simp
theorem GoodW.mask {IN : Nat → Int64} {h s : Nat} {W : Int64} (g : GoodW IN h s W) : ∀ j, j < 64 → obit (W &&& (281474976710655 : Int64)) j = (decide (j < 48) && oBITS IN h (s * 48 + j)) := fun j _ => by
  rw [obit_mask]
  by_cases hj : j < 48
  · rw [g.1 j hj]
  · rw [decide_eq_false hj, Bool.false_and, Bool.false_and]
-- the look-up
theorem o_not : ∀ b, b < 48 → ((Int32.ofNat b ^^^ (-1 : Int32)) &&& 0x3f) = (Int32.ofNat (63 - b) &&& 0x3f) := by decide +kernel
theorem o_recip : ∀ b, b < 2048 → ((Int32.ofNat b * (43691 : Int32)).toUInt32 >>> ((21 : Int32) &&& 31).toUInt32).toInt32 = Int32.ofNat (b / 48) := by decide +kernel
theorem o_neg (x : Int64) : x < 0 ↔ obit x 63 = true := by
  rw [Int64.lt_iff_toInt_lt]
  show x.toBitVec.toInt < 0 ↔ _
  have e : x.toBitVec.msb = decide (x.toBitVec.toInt < 0) := BitVec.msb_eq_toInt
  have e2 : x.toBitVec.msb = obit x 63 := rfl
  rw [← e2, e, decide_eq_true_eq]
theorem o_up {IN : Nat → Int64} {h s : Nat} {W : Int64} (g : GoodW IN h s W) {b : Nat} (hb : b < 48) : (W <<< ((Int32.ofNat b ^^^ (-1 : Int32)) &&& 0x3f).toInt64) < 0 ↔ oBITS IN h (s * 48 + b) = true := by
  rw [o_neg, o_not b hb, obit_shl _ (by omega) (by decide), decide_eq_true (show 63 - b ≤ 63 by omega), Bool.true_and, show 63 - (63 - b) = b by omega, g.1 b hb]
theorem o_hi {IN : Nat → Int64} {h s : Nat} {W : Int64} (g : GoodW IN h s W) : ∃ P : Nat, P ≤ 5461 ∧ ((W.toUInt64 >>> ((48 : Int32) &&& 0x3f).toInt64.toUInt64).toInt64).toInt32 = Int32.ofNat P := by
  refine ⟨W.toBitVec.toNat / 2 ^ 48, g.2, ?_⟩
  have e : (W.toUInt64 >>> ((48 : Int32) &&& 0x3f).toInt64.toUInt64).toInt64 = Int64.ofNat (W.toBitVec.toNat / 2 ^ 48) := by
    apply o64_eq_of
    rw [show ((W.toUInt64 >>> ((48 : Int32) &&& 0x3f).toInt64.toUInt64).toInt64) = ((W.toUInt64 >>> (Int32.ofNat 48 &&& 0x3f).toInt64.toUInt64).toInt64) from rfl, o64_shrB W (by decide), BitVec.toNat_ushiftRight, Nat.shiftRight_eq_div_pow]
  rw [e, o64_toInt32]

theorem own_mul (a b : Nat) : Int32.ofNat a * Int32.ofNat b = Int32.ofNat (a * b) := (Int32.ofNat_mul a b).symm
def oI (sl : Slot) : Prop := sl = .unset ∨ ∃ y : Int32, sl = .val (.int y)
def oJ (s t : Slot) : Prop := (s = .unset ∧ t = .unset) ∨ ∃ y : Int64, s = .val (.long y) ∧ t = .second
theorem own_bcn {n K : Nat} (h : n = (Int32.ofNat K).toBitVec.toNat &&& 127) : n = K % 128 := by
  have e : (Int32.ofNat K).toBitVec.toNat = K % 2 ^ 32 := by show (BitVec.ofNat 32 K).toNat = _; rw [BitVec.toNat_ofNat]
  have e2 : (K % 2 ^ 32) &&& 127 = (K % 2 ^ 32) % 128 := Nat.and_two_pow_sub_one_eq_mod _ 7
  rw [h, e, e2]; omega
theorem own_neg63 {X : Nat} (hX : X < 2 ^ 64) (h : Int64.ofNat X < 0) : 2 ^ 63 ≤ X := by
  rcases Nat.lt_or_ge X (2 ^ 63) with q | q
  · rw [Int64.lt_iff_toInt_lt, o64_toInt q] at h
    have e0 : (0 : Int64).toInt = 0 := by decide
    rw [e0] at h; omega
  · exact q
theorem own_and31 : ∀ q, q < 64 → (Int32.ofNat q &&& (31 : Int32)) = Int32.ofNat (q % 32) := by decide +kernel
theorem own_getB (q : Int64) {K : Nat} (hK : K < 64) : ((q.toUInt64 >>> (Int32.ofNat K &&& 0x3f).toInt64.toUInt64).toInt64 &&& (1 : Int64) = 0) ↔ obit q K = false := by
  have e := o64_sh q (Int32.ofNat K) K (o_shamt K hK) hK
  rw [← Int64.toBitVec_inj, Int64.toBitVec_and, e]
  show (q.toBitVec >>> K &&& 1#64 = 0#64) ↔ q.toBitVec.getLsbD K = false
  rw [BitVec.and_one_eq_setWidth_ofBool_getLsbD, BitVec.getLsbD_ushiftRight, Nat.add_zero]
  cases q.toBitVec.getLsbD K
  · simp
  · simp
theorem own_bq (IN : Nat → Int64) {q bi : Nat} (hq : q < 64) (hb : bi < 64) : oBITS IN (q / 32) (q % 32 * 64 + bi) = obit (IN q) bi := by
  unfold oBITS
  rw [decide_eq_true (show q % 32 * 64 + bi < 2048 by omega), Bool.true_and, show q / 32 * 32 + (q % 32 * 64 + bi) / 64 = q by omega, show (q % 32 * 64 + bi) % 64 = bi by omega]
theorem own_glmap (vs : List Int32) (i : Nat) : gl (vs.map Value.int) (.int (0 : Int32)) i = .int (vs.getD i 0) := by
  simp only [gl, List.getD_eq_getElem?_getD, List.getElem?_map]
  cases vs[i]? <;> rfl
theorem own_shI (k : Nat) (x : Int64) : True := trivial

theorem d10_0 : decode jdk_33_method_40_code 0 = .ok (.iload_n 0, 1) := by decide +kernel
theorem d10_1 : decode jdk_33_method_40_code 1 = .ok (.iload_n 1, 1) := by decide +kernel
theorem d10_2 : decode jdk_33_method_40_code 2 = .ok (.if_icmp .ge 7, 3) := by decide +kernel
theorem d10_5 : decode jdk_33_method_40_code 5 = .ok (.iconst (-1), 1) := by decide +kernel
theorem d10_6 : decode jdk_33_method_40_code 6 = .ok (.goto 13, 3) := by decide +kernel
theorem d10_9 : decode jdk_33_method_40_code 9 = .ok (.iload_n 0, 1) := by decide +kernel
theorem d10_10 : decode jdk_33_method_40_code 10 = .ok (.iload_n 1, 1) := by decide +kernel
theorem d10_11 : decode jdk_33_method_40_code 11 = .ok (.if_icmp .ne 7, 3) := by decide +kernel
theorem d10_14 : decode jdk_33_method_40_code 14 = .ok (.iconst 0, 1) := by decide +kernel
theorem d10_15 : decode jdk_33_method_40_code 15 = .ok (.goto 4, 3) := by decide +kernel
theorem d10_18 : decode jdk_33_method_40_code 18 = .ok (.iconst 1, 1) := by decide +kernel
theorem d10_19 : decode jdk_33_method_40_code 19 = .ok (.ireturn, 1) := by decide +kernel
def own_cmp (p0 : Int32) (p1 : Int32) : Int32 := (if p0 < p1 then (-1 : Int32) else (if p0 = p1 then (0 : Int32) else (1 : Int32)))
theorem pn_java_lang_Integer : plainName "java/lang/Integer" = true := by first | (simp [plainName, overriddenIn]; done) | decide +kernel
theorem ef_own_cmp (m : MethodId) (y0 : Int32) (y1 : Int32) : entryFrame m #[(.int y0), (.int y1)] 2 = mkF m 0 #[.val (.int y0), .val (.int y1)] [] := by first | (simp [entryFrame, mkF, argsToLocals, Value.category]; done) | rfl
def Q_own_cmp (Z : State) (p0 : Int32) (p1 : Int32) (h0 : Heap) (n0 : Nat) (v : Option Value) (h : Heap) (L : List Loc) : Prop := v = some (.int (own_cmp p0 p1)) ∧ Fr n0 L ∧ h = h0
set_option maxRecDepth 65536 in
set_option maxHeartbeats 40000000 in
theorem rm_own_cmp (l : Launch) (Z : State) (a0 : Array Value) (hw : ∀ d ∈ tables_1, d.before a0 Z = true) (ws : List Jvm.Cond) (p0 : Int32) (p1 : Int32) (h0 : Heap) (n0 : Nat) (Z0 : n0 ≤ h0.size)  :
    MetFree l (⟨"java/lang/Integer", "compare", "(II)I"⟩ : MethodName) (head1 (Jvm.Cond.code (⟨"java/lang/Integer", "compare", "(II)I"⟩ : MethodName) jdk_33_method_40_code 2 (some .int) :: ws) ({ frames := 0, cells := 0, slots := 0, locals := 0 } : Room)) (fun a U => a = #[(.int p0), (.int p1)] ∧ Z.Warmed39 U.vm ∧ U.heap = h0) (fun _ _ _ _ _ => True) (fun _ U o U' => ∃ v L, o = .returned v ∧ Q_own_cmp Z p0 p1 h0 n0 v U'.heap L ∧ FrameEnd U o U' L ({ frames := 0, cells := 0, slots := 0, locals := 0 } : Room).cells ({ frames := 0, cells := 0, slots := 0, locals := 0 } : Room).slots) := by
  refine MetFree.of_bodySF (plainFor_of_name pn_java_lang_Integer) hisR ?_
  intro p e s m args below meth c s₁ Bd hml0 hP hK
  obtain ⟨rfl, hZ, hh⟩ := hP
  have hx := Bd.exec
  have hby := Bd.bytes
  have hml : c.maxLocals = 2 := hml0
  have hown : s.vm.findClass "java/lang/Integer" = some m.cls := findClass_of_methodNamed Bd.named
  have hnm := (name_of_methodNamed Bd.named Bd.method).1
  have X0 : Stand p l e ({ frames := 0, cells := 0, slots := 0, locals := 0 } : Room) s m #[(.int p0), (.int p1)] below meth c s₁ [] 0 0 := Stand.of_body Bd
  have eh0 : s₁.heap = h0 := by rw [← hh, Bd.state]; rfl
  have N0 := Fr.nil n0
  refine Gq.start (Q := Q_own_cmp Z p0 p1 h0 n0) (kc := ({ frames := 0, cells := 0, slots := 0, locals := 0 } : Room).cells) (ks := ({ frames := 0, cells := 0, slots := 0, locals := 0 } : Room).slots) (ef_own_cmp m p0 p1) ?_
  refine Gq.go (s₁.setTop (mkF m 1 #[.val (.int p0), .val (.int p1)] [(.int p0)])) (fun tt_ kk_ => XS.iloadN X0.here hx rfl (hb hby d10_0) rfl kk_) ?_
  refine Gq.go (s₁.setTop (mkF m 2 #[.val (.int p0), .val (.int p1)] [(.int p1), (.int p0)])) (fun tt_ kk_ => XS.iloadN X0.here hx rfl (hb hby d10_1) rfl kk_) ?_
  by_cases c2_1 : p0 < p1
  · refine Gq.go (s₁.setTop (mkF m 5 #[.val (.int p0), .val (.int p1)] [])) (fun tt_ kk_ => XS.icmpNo X0.here hx rfl (hb hby d10_2) rfl (tlt c2_1).2.1 kk_) ?_
    refine Gq.go (s₁.setTop (mkF m 6 #[.val (.int p0), .val (.int p1)] [(.int (-1 : Int32))])) (fun tt_ kk_ => XS.iconst X0.here hx rfl (hb hby d10_5) kk_) ?_
    refine Gq.go (s₁.setTop (mkF m 19 #[.val (.int p0), .val (.int p1)] [(.int (-1 : Int32))])) (fun tt_ kk_ => XS.goto X0.here hx rfl (pc0 := 6) (pc' := 19) rfl (hb hby d10_6) (by decide) (by decide) kk_) ?_
    refine Gq.retI X0 hx Bd.notSynchronized Bd.returns (by simp) (hb hby d10_19) rfl (by decide) (by decide) ?_
    show Q_own_cmp Z p0 p1 h0 n0 _ s₁.heap _
    rw [eh0]
    exact ⟨by unfold own_cmp; rw [if_pos c2_1], N0, rfl⟩
  · refine Gq.go (s₁.setTop (mkF m 9 #[.val (.int p0), .val (.int p1)] [])) (fun tt_ kk_ => XS.icmpYes X0.here hx rfl (pc0 := 2) (pc' := 9) rfl (hb hby d10_2) rfl (flt c2_1).2.1 (by decide) (by decide) kk_) ?_
    refine Gq.go (s₁.setTop (mkF m 10 #[.val (.int p0), .val (.int p1)] [(.int p0)])) (fun tt_ kk_ => XS.iloadN X0.here hx rfl (hb hby d10_9) rfl kk_) ?_
    refine Gq.go (s₁.setTop (mkF m 11 #[.val (.int p0), .val (.int p1)] [(.int p1), (.int p0)])) (fun tt_ kk_ => XS.iloadN X0.here hx rfl (hb hby d10_10) rfl kk_) ?_
    by_cases c11_2 : p0 = p1
    · refine Gq.go (s₁.setTop (mkF m 14 #[.val (.int p0), .val (.int p1)] [])) (fun tt_ kk_ => XS.icmpNo X0.here hx rfl (hb hby d10_11) rfl (teq c11_2).2 kk_) ?_
      refine Gq.go (s₁.setTop (mkF m 15 #[.val (.int p0), .val (.int p1)] [(.int (0 : Int32))])) (fun tt_ kk_ => XS.iconst X0.here hx rfl (hb hby d10_14) kk_) ?_
      refine Gq.go (s₁.setTop (mkF m 19 #[.val (.int p0), .val (.int p1)] [(.int (0 : Int32))])) (fun tt_ kk_ => XS.goto X0.here hx rfl (pc0 := 15) (pc' := 19) rfl (hb hby d10_15) (by decide) (by decide) kk_) ?_
      refine Gq.retI X0 hx Bd.notSynchronized Bd.returns (by simp) (hb hby d10_19) rfl (by decide) (by decide) ?_
      show Q_own_cmp Z p0 p1 h0 n0 _ s₁.heap _
      rw [eh0]
      exact ⟨by unfold own_cmp; rw [if_neg c2_1, if_pos c11_2], N0, rfl⟩
    · refine Gq.go (s₁.setTop (mkF m 18 #[.val (.int p0), .val (.int p1)] [])) (fun tt_ kk_ => XS.icmpYes X0.here hx rfl (pc0 := 11) (pc' := 18) rfl (hb hby d10_11) rfl (feq c11_2).2 (by decide) (by decide) kk_) ?_
      refine Gq.go (s₁.setTop (mkF m 19 #[.val (.int p0), .val (.int p1)] [(.int (1 : Int32))])) (fun tt_ kk_ => XS.iconst X0.here hx rfl (hb hby d10_18) kk_) ?_
      refine Gq.retI X0 hx Bd.notSynchronized Bd.returns (by simp) (hb hby d10_19) rfl (by decide) (by decide) ?_
      show Q_own_cmp Z p0 p1 h0 n0 _ s₁.heap _
      rw [eh0]
      exact ⟨by unfold own_cmp; rw [if_neg c2_1, if_neg c11_2], N0, rfl⟩
theorem d9_0 : decode jdk_33_method_41_code 0 = .ok (.iload_n 0, 1) := by decide +kernel
theorem d9_1 : decode jdk_33_method_41_code 1 = .ok (.ldc 127, 2) := by decide +kernel
theorem d9_3 : decode jdk_33_method_41_code 3 = .ok (.iadd, 1) := by decide +kernel
theorem d9_4 : decode jdk_33_method_41_code 4 = .ok (.iload_n 1, 1) := by decide +kernel
theorem d9_5 : decode jdk_33_method_41_code 5 = .ok (.ldc 127, 2) := by decide +kernel
theorem d9_7 : decode jdk_33_method_41_code 7 = .ok (.iadd, 1) := by decide +kernel
theorem d9_8 : decode jdk_33_method_41_code 8 = .ok (.invokestatic 259, 3) := by decide +kernel
theorem d9_11 : decode jdk_33_method_41_code 11 = .ok (.ireturn, 1) := by decide +kernel
theorem pd_0 : parseMethodDescriptor "(II)I" = some ⟨[.int, .int], some .int⟩ := by decide +kernel
def own_cu (p0 : Int32) (p1 : Int32) : Int32 := (own_cmp (p0 + (-2147483648 : Int32)) (p1 + (-2147483648 : Int32)))
theorem ef_own_cu (m : MethodId) (y0 : Int32) (y1 : Int32) : entryFrame m #[(.int y0), (.int y1)] 2 = mkF m 0 #[.val (.int y0), .val (.int y1)] [] := by first | (simp [entryFrame, mkF, argsToLocals, Value.category]; done) | rfl
def Q_own_cu (Z : State) (p0 : Int32) (p1 : Int32) (h0 : Heap) (n0 : Nat) (v : Option Value) (h : Heap) (L : List Loc) : Prop := v = some (.int (own_cu p0 p1)) ∧ Fr n0 L ∧ h = h0
set_option maxRecDepth 65536 in
set_option maxHeartbeats 40000000 in
theorem rm_own_cu (l : Launch) (Z : State) (a0 : Array Value) (hw : ∀ d ∈ tables_1, d.before a0 Z = true) (ws : List Jvm.Cond) (p0 : Int32) (p1 : Int32) (h0 : Heap) (n0 : Nat) (Z0 : n0 ≤ h0.size)  :
    MetFree l (⟨"java/lang/Integer", "compareUnsigned", "(II)I"⟩ : MethodName) (head1 (Jvm.Cond.code (⟨"java/lang/Integer", "compareUnsigned", "(II)I"⟩ : MethodName) jdk_33_method_41_code 2 (some .int) :: ws) ({ frames := 1, cells := 0, slots := 0, locals := 13 } : Room)) (fun a U => a = #[(.int p0), (.int p1)] ∧ Z.Warmed39 U.vm ∧ U.heap = h0) (fun _ _ _ _ _ => True) (fun _ U o U' => ∃ v L, o = .returned v ∧ Q_own_cu Z p0 p1 h0 n0 v U'.heap L ∧ FrameEnd U o U' L ({ frames := 1, cells := 0, slots := 0, locals := 13 } : Room).cells ({ frames := 1, cells := 0, slots := 0, locals := 13 } : Room).slots) := by
  refine MetFree.of_bodySF (plainFor_of_name pn_java_lang_Integer) hisR ?_
  intro p e s m args below meth c s₁ Bd hml0 hP hK
  obtain ⟨rfl, hZ, hh⟩ := hP
  have hx := Bd.exec
  have hby := Bd.bytes
  have hml : c.maxLocals = 2 := hml0
  have hown : s.vm.findClass "java/lang/Integer" = some m.cls := findClass_of_methodNamed Bd.named
  have hnm := (name_of_methodNamed Bd.named Bd.method).1
  have X0 : Stand p l e ({ frames := 1, cells := 0, slots := 0, locals := 13 } : Room) s m #[(.int p0), (.int p1)] below meth c s₁ [] 0 0 := Stand.of_body Bd
  have eh0 : s₁.heap = h0 := by rw [← hh, Bd.state]; rfl
  have N0 := Fr.nil n0
  refine Gq.start (Q := Q_own_cu Z p0 p1 h0 n0) (kc := ({ frames := 1, cells := 0, slots := 0, locals := 13 } : Room).cells) (ks := ({ frames := 1, cells := 0, slots := 0, locals := 13 } : Room).slots) (ef_own_cu m p0 p1) ?_
  refine Gq.go (s₁.setTop (mkF m 1 #[.val (.int p0), .val (.int p1)] [(.int p0)])) (fun tt_ kk_ => XS.iloadN X0.here hx rfl (hb hby d9_0) rfl kk_) ?_
  refine Gq.go (s₁.setTop (mkF m 3 #[.val (.int p0), .val (.int p1)] [(.int (-2147483648 : Int32)), (.int p0)])) (fun tt_ kk_ => X0.ldcInt hx hown (mvT hZ (hw _ (List.mem_of_getElem? (i := 51) rfl))) (g := (mkF m 1 #[.val (.int p0), .val (.int p1)] [(.int p0)])) rfl (hb hby d9_1) _ kk_) ?_
  refine Gq.go (s₁.setTop (mkF m 4 #[.val (.int p0), .val (.int p1)] [(.int (p0 + (-2147483648 : Int32)))])) (fun tt_ kk_ => XS.iadd X0.here hx rfl (hb hby d9_3) rfl kk_) ?_
  refine Gq.go (s₁.setTop (mkF m 5 #[.val (.int p0), .val (.int p1)] [(.int p1), (.int (p0 + (-2147483648 : Int32)))])) (fun tt_ kk_ => XS.iloadN X0.here hx rfl (hb hby d9_4) rfl kk_) ?_
  refine Gq.go (s₁.setTop (mkF m 7 #[.val (.int p0), .val (.int p1)] [(.int (-2147483648 : Int32)), (.int p1), (.int (p0 + (-2147483648 : Int32)))])) (fun tt_ kk_ => X0.ldcInt hx hown (mvT hZ (hw _ (List.mem_of_getElem? (i := 51) rfl))) (g := (mkF m 5 #[.val (.int p0), .val (.int p1)] [(.int p1), (.int (p0 + (-2147483648 : Int32)))])) rfl (hb hby d9_5) _ kk_) ?_
  refine Gq.go (s₁.setTop (mkF m 8 #[.val (.int p0), .val (.int p1)] [(.int (p1 + (-2147483648 : Int32))), (.int (p0 + (-2147483648 : Int32)))])) (fun tt_ kk_ => XS.iadd X0.here hx rfl (hb hby d9_7) rfl kk_) ?_
  obtain ⟨r1, T1, L1, X1, hQ1, st1⟩ := callT (pc := 8) (Ls := #[.val (.int p0), .val (.int p1)]) X0 hx hZ hown eh0 [(.int (p0 + (-2147483648 : Int32))), (.int (p1 + (-2147483648 : Int32)))] [] (hw _ (List.mem_of_getElem? (i := 52) rfl)) (hw _ (List.mem_of_getElem? (i := 53) rfl)) (hw _ (List.mem_of_getElem? (i := 49) rfl)) (hw _ (List.mem_of_getElem? (i := 54) rfl)) (by decide) (rm_own_cmp l Z a0 hw [] (p0 + (-2147483648 : Int32)) (p1 + (-2147483648 : Int32)) h0 n0 Z0) pd_0 rfl (by rw [hml]; rfl) (W := 0) (Nat.le_of_eq rfl) (by decide) (by decide) (by decide) (by decide) (hb hby d9_8)
  obtain ⟨rfl, N1q, eh1⟩ := hQ1
  have N1 := Fr.app N0 N1q
  refine Gq.go (T1.setTop (mkF m 11 #[.val (.int p0), .val (.int p1)] [(.int (own_cmp (p0 + (-2147483648 : Int32)) (p1 + (-2147483648 : Int32))))])) (fun tt_ kk_ => st1 tt_ kk_) ?_
  refine Gq.retI X1 hx Bd.notSynchronized Bd.returns (by simp) (hb hby d9_11) rfl (by decide) (by decide) ?_
  show Q_own_cu Z p0 p1 h0 n0 _ T1.heap _
  rw [eh1]
  exact ⟨by unfold own_cu; rfl, N1, rfl⟩
theorem o_cu : ∀ b, b < 2048 → own_cu (Int32.ofNat b) (2048 : Int32) < (0 : Int32) := by decide +kernel
theorem d4_0 : decode jdk_35_method_50_code 0 = .ok (.lload_n 0, 1) := by decide +kernel
theorem d4_1 : decode jdk_35_method_50_code 1 = .ok (.lload_n 0, 1) := by decide +kernel
theorem d4_2 : decode jdk_35_method_50_code 2 = .ok (.iconst 1, 1) := by decide +kernel
theorem d4_3 : decode jdk_35_method_50_code 3 = .ok (.lushr, 1) := by decide +kernel
theorem d4_4 : decode jdk_35_method_50_code 4 = .ok (.ldc2_w 314, 3) := by decide +kernel
theorem d4_7 : decode jdk_35_method_50_code 7 = .ok (.land, 1) := by decide +kernel
theorem d4_8 : decode jdk_35_method_50_code 8 = .ok (.lsub, 1) := by decide +kernel
theorem d4_9 : decode jdk_35_method_50_code 9 = .ok (.lstore_n 0, 1) := by decide +kernel
theorem d4_10 : decode jdk_35_method_50_code 10 = .ok (.lload_n 0, 1) := by decide +kernel
theorem d4_11 : decode jdk_35_method_50_code 11 = .ok (.ldc2_w 316, 3) := by decide +kernel
theorem d4_14 : decode jdk_35_method_50_code 14 = .ok (.land, 1) := by decide +kernel
theorem d4_15 : decode jdk_35_method_50_code 15 = .ok (.lload_n 0, 1) := by decide +kernel
theorem d4_16 : decode jdk_35_method_50_code 16 = .ok (.iconst 2, 1) := by decide +kernel
theorem d4_17 : decode jdk_35_method_50_code 17 = .ok (.lushr, 1) := by decide +kernel
theorem d4_18 : decode jdk_35_method_50_code 18 = .ok (.ldc2_w 316, 3) := by decide +kernel
theorem d4_21 : decode jdk_35_method_50_code 21 = .ok (.land, 1) := by decide +kernel
theorem d4_22 : decode jdk_35_method_50_code 22 = .ok (.ladd, 1) := by decide +kernel
theorem d4_23 : decode jdk_35_method_50_code 23 = .ok (.lstore_n 0, 1) := by decide +kernel
theorem d4_24 : decode jdk_35_method_50_code 24 = .ok (.lload_n 0, 1) := by decide +kernel
theorem d4_25 : decode jdk_35_method_50_code 25 = .ok (.lload_n 0, 1) := by decide +kernel
theorem d4_26 : decode jdk_35_method_50_code 26 = .ok (.iconst 4, 1) := by decide +kernel
theorem d4_27 : decode jdk_35_method_50_code 27 = .ok (.lushr, 1) := by decide +kernel
theorem d4_28 : decode jdk_35_method_50_code 28 = .ok (.ladd, 1) := by decide +kernel
theorem d4_29 : decode jdk_35_method_50_code 29 = .ok (.ldc2_w 318, 3) := by decide +kernel
theorem d4_32 : decode jdk_35_method_50_code 32 = .ok (.land, 1) := by decide +kernel
theorem d4_33 : decode jdk_35_method_50_code 33 = .ok (.lstore_n 0, 1) := by decide +kernel
theorem d4_34 : decode jdk_35_method_50_code 34 = .ok (.lload_n 0, 1) := by decide +kernel
theorem d4_35 : decode jdk_35_method_50_code 35 = .ok (.lload_n 0, 1) := by decide +kernel
theorem d4_36 : decode jdk_35_method_50_code 36 = .ok (.bipush 8, 2) := by decide +kernel
theorem d4_38 : decode jdk_35_method_50_code 38 = .ok (.lushr, 1) := by decide +kernel
theorem d4_39 : decode jdk_35_method_50_code 39 = .ok (.ladd, 1) := by decide +kernel
theorem d4_40 : decode jdk_35_method_50_code 40 = .ok (.lstore_n 0, 1) := by decide +kernel
theorem d4_41 : decode jdk_35_method_50_code 41 = .ok (.lload_n 0, 1) := by decide +kernel
theorem d4_42 : decode jdk_35_method_50_code 42 = .ok (.lload_n 0, 1) := by decide +kernel
theorem d4_43 : decode jdk_35_method_50_code 43 = .ok (.bipush 16, 2) := by decide +kernel
theorem d4_45 : decode jdk_35_method_50_code 45 = .ok (.lushr, 1) := by decide +kernel
theorem d4_46 : decode jdk_35_method_50_code 46 = .ok (.ladd, 1) := by decide +kernel
theorem d4_47 : decode jdk_35_method_50_code 47 = .ok (.lstore_n 0, 1) := by decide +kernel
theorem d4_48 : decode jdk_35_method_50_code 48 = .ok (.lload_n 0, 1) := by decide +kernel
theorem d4_49 : decode jdk_35_method_50_code 49 = .ok (.lload_n 0, 1) := by decide +kernel
theorem d4_50 : decode jdk_35_method_50_code 50 = .ok (.bipush 32, 2) := by decide +kernel
theorem d4_52 : decode jdk_35_method_50_code 52 = .ok (.lushr, 1) := by decide +kernel
theorem d4_53 : decode jdk_35_method_50_code 53 = .ok (.ladd, 1) := by decide +kernel
theorem d4_54 : decode jdk_35_method_50_code 54 = .ok (.lstore_n 0, 1) := by decide +kernel
theorem d4_55 : decode jdk_35_method_50_code 55 = .ok (.lload_n 0, 1) := by decide +kernel
theorem d4_56 : decode jdk_35_method_50_code 56 = .ok (.l2i, 1) := by decide +kernel
theorem d4_57 : decode jdk_35_method_50_code 57 = .ok (.bipush 127, 2) := by decide +kernel
theorem d4_59 : decode jdk_35_method_50_code 59 = .ok (.iand, 1) := by decide +kernel
theorem d4_60 : decode jdk_35_method_50_code 60 = .ok (.ireturn, 1) := by decide +kernel
theorem pn_java_lang_Long : plainName "java/lang/Long" = true := by first | (simp [plainName, overriddenIn]; done) | decide +kernel
theorem ef4 (m : MethodId) (y0 : Int64) : entryFrame m #[(.long y0)] 2 = mkF m 0 #[.val (.long y0), .second] [] := by first | (simp [entryFrame, mkF, argsToLocals, Value.category]; done) | rfl
def Q4 (Z : State) (q1 : Int64) (h0 : Heap) (n0 : Nat) (v : Option Value) (h : Heap) (L : List Loc) : Prop := (∃ n : Nat, v = some (.int (Int32.ofNat n)) ∧ n ≤ 127 ∧ (q1 < 0 → 1 ≤ n)) ∧ Fr n0 L ∧ h = h0
set_option maxRecDepth 65536 in
set_option maxHeartbeats 40000000 in
theorem rm4 (l : Launch) (Z : State) (a0 : Array Value) (hw : ∀ d ∈ tables_1, d.before a0 Z = true) (ws : List Jvm.Cond) (q1 : Int64) (h0 : Heap) (n0 : Nat) (Z0 : n0 ≤ h0.size)  :
    MetFree l (⟨"java/lang/Long", "bitCount", "(J)I"⟩ : MethodName) (head1 (Jvm.Cond.code (⟨"java/lang/Long", "bitCount", "(J)I"⟩ : MethodName) jdk_35_method_50_code 2 (some .int) :: ws) ({ frames := 0, cells := 0, slots := 0, locals := 0 } : Room)) (fun a U => a = #[(.long q1)] ∧ Z.Warmed39 U.vm ∧ U.heap = h0) (fun _ _ _ _ _ => True) (fun _ U o U' => ∃ v L, o = .returned v ∧ Q4 Z q1 h0 n0 v U'.heap L ∧ FrameEnd U o U' L ({ frames := 0, cells := 0, slots := 0, locals := 0 } : Room).cells ({ frames := 0, cells := 0, slots := 0, locals := 0 } : Room).slots) := by
  refine MetFree.of_bodySF (plainFor_of_name pn_java_lang_Long) hisR ?_
  intro p e s m args below meth c s₁ Bd hml0 hP hK
  obtain ⟨rfl, hZ, hh⟩ := hP
  have hx := Bd.exec
  have hby := Bd.bytes
  have hml : c.maxLocals = 2 := hml0
  have hown : s.vm.findClass "java/lang/Long" = some m.cls := findClass_of_methodNamed Bd.named
  have hnm := (name_of_methodNamed Bd.named Bd.method).1
  have X0 : Stand p l e ({ frames := 0, cells := 0, slots := 0, locals := 0 } : Room) s m #[(.long q1)] below meth c s₁ [] 0 0 := Stand.of_body Bd
  have eh0 : s₁.heap = h0 := by rw [← hh, Bd.state]; rfl
  have N0 := Fr.nil n0
  refine Gq.start (Q := Q4 Z q1 h0 n0) (kc := ({ frames := 0, cells := 0, slots := 0, locals := 0 } : Room).cells) (ks := ({ frames := 0, cells := 0, slots := 0, locals := 0 } : Room).slots) (ef4 m q1) ?_
  obtain ⟨X, hX, eX⟩ : ∃ X : Nat, X < 2 ^ 64 ∧ q1 = Int64.ofNat X := ⟨q1.toBitVec.toNat, q1.toBitVec.isLt, o64_bits q1⟩
  subst eX
  have hA := bcA_le X
  have hB := bcB_le (bcA X)
  have hC := bcC_le (bcB (bcA X))
  have hD : bcD (bcC (bcB (bcA X))) < 2 ^ 62 := by unfold bcD; omega
  have hE : bcE (bcD (bcC (bcB (bcA X)))) < 2 ^ 63 := by unfold bcE; omega
  refine Gq.go (s₁.setTop (mkF m 1 #[.val (.long (Int64.ofNat X)), .second] [(.long (Int64.ofNat X))])) (fun tt_ kk_ => XS.lloadN X0.here hx rfl (hb hby d4_0) rfl kk_) ?_
  refine Gq.go (s₁.setTop (mkF m 2 #[.val (.long (Int64.ofNat X)), .second] [(.long (Int64.ofNat X)), (.long (Int64.ofNat X))])) (fun tt_ kk_ => XS.lloadN X0.here hx rfl (hb hby d4_1) rfl kk_) ?_
  refine Gq.go (s₁.setTop (mkF m 3 #[.val (.long (Int64.ofNat X)), .second] [(.int (1 : Int32)), (.long (Int64.ofNat X)), (.long (Int64.ofNat X))])) (fun tt_ kk_ => XS.iconst X0.here hx rfl (hb hby d4_2) kk_) ?_
  refine Gq.go (s₁.setTop (mkF m 4 #[.val (.long (Int64.ofNat X)), .second] [(.long (((Int64.ofNat X).toUInt64 >>> ((1 : Int32) &&& 0x3f).toInt64.toUInt64).toInt64)), (.long (Int64.ofNat X))])) (fun tt_ kk_ => XS.lushr X0.here hx rfl (hb hby d4_3) rfl kk_) ?_
  rw [show (((Int64.ofNat X).toUInt64 >>> ((1 : Int32) &&& 0x3f).toInt64.toUInt64).toInt64) = (Int64.ofNat (X / 2 ^ 1)) from o64_ushr (by omega) 1 1 (by decide) (by decide)]
  refine Gq.go (s₁.setTop (mkF m 7 #[.val (.long (Int64.ofNat X)), .second] [(.long (6148914691236517205 : Int64)), (.long (Int64.ofNat (X / 2 ^ 1))), (.long (Int64.ofNat X))])) (fun tt_ kk_ => X0.ldc2Long hx hown (mvT hZ (hw _ (List.mem_of_getElem? (i := 24) rfl))) (g := (mkF m 4 #[.val (.long (Int64.ofNat X)), .second] [(.long (Int64.ofNat (X / 2 ^ 1))), (.long (Int64.ofNat X))])) rfl (hb hby d4_4) _ kk_) ?_
  refine Gq.go (s₁.setTop (mkF m 8 #[.val (.long (Int64.ofNat X)), .second] [(.long ((Int64.ofNat (X / 2 ^ 1)) &&& (6148914691236517205 : Int64))), (.long (Int64.ofNat X))])) (fun tt_ kk_ => XS.land X0.here hx rfl (hb hby d4_7) rfl kk_) ?_
  rw [show ((Int64.ofNat (X / 2 ^ 1)) &&& (6148914691236517205 : Int64)) = (Int64.ofNat (X / 2 ^ 1 &&& 6148914691236517205)) from o64_and (m := 6148914691236517205) (by omega) (by decide)]
  refine Gq.go (s₁.setTop (mkF m 9 #[.val (.long (Int64.ofNat X)), .second] [(.long ((Int64.ofNat X) - (Int64.ofNat (X / 2 ^ 1 &&& 6148914691236517205))))])) (fun tt_ kk_ => XS.lsub X0.here hx rfl (hb hby d4_8) rfl kk_) ?_
  rw [show ((Int64.ofNat X) - (Int64.ofNat (X / 2 ^ 1 &&& 6148914691236517205))) = (Int64.ofNat (bcA X)) from o64_sub (Nat.le_trans Nat.and_le_left (Nat.div_le_self _ _))]
  refine Gq.go (s₁.setTop (mkF m 10 #[.val (.long (Int64.ofNat (bcA X))), .second] [])) (fun tt_ kk_ => XS.lstoreN X0.here hx rfl (hb hby d4_9) rfl (l' := #[.val (.long (Int64.ofNat (bcA X))), .second]) rfl kk_) ?_
  refine Gq.go (s₁.setTop (mkF m 11 #[.val (.long (Int64.ofNat (bcA X))), .second] [(.long (Int64.ofNat (bcA X)))])) (fun tt_ kk_ => XS.lloadN X0.here hx rfl (hb hby d4_10) rfl kk_) ?_
  refine Gq.go (s₁.setTop (mkF m 14 #[.val (.long (Int64.ofNat (bcA X))), .second] [(.long (3689348814741910323 : Int64)), (.long (Int64.ofNat (bcA X)))])) (fun tt_ kk_ => X0.ldc2Long hx hown (mvT hZ (hw _ (List.mem_of_getElem? (i := 25) rfl))) (g := (mkF m 11 #[.val (.long (Int64.ofNat (bcA X))), .second] [(.long (Int64.ofNat (bcA X)))])) rfl (hb hby d4_11) _ kk_) ?_
  refine Gq.go (s₁.setTop (mkF m 15 #[.val (.long (Int64.ofNat (bcA X))), .second] [(.long ((Int64.ofNat (bcA X)) &&& (3689348814741910323 : Int64)))])) (fun tt_ kk_ => XS.land X0.here hx rfl (hb hby d4_14) rfl kk_) ?_
  rw [show ((Int64.ofNat (bcA X)) &&& (3689348814741910323 : Int64)) = (Int64.ofNat ((bcA X) &&& 3689348814741910323)) from o64_and (m := 3689348814741910323) (by omega) (by decide)]
  refine Gq.go (s₁.setTop (mkF m 16 #[.val (.long (Int64.ofNat (bcA X))), .second] [(.long (Int64.ofNat (bcA X))), (.long (Int64.ofNat ((bcA X) &&& 3689348814741910323)))])) (fun tt_ kk_ => XS.lloadN X0.here hx rfl (hb hby d4_15) rfl kk_) ?_
  refine Gq.go (s₁.setTop (mkF m 17 #[.val (.long (Int64.ofNat (bcA X))), .second] [(.int (2 : Int32)), (.long (Int64.ofNat (bcA X))), (.long (Int64.ofNat ((bcA X) &&& 3689348814741910323)))])) (fun tt_ kk_ => XS.iconst X0.here hx rfl (hb hby d4_16) kk_) ?_
  refine Gq.go (s₁.setTop (mkF m 18 #[.val (.long (Int64.ofNat (bcA X))), .second] [(.long (((Int64.ofNat (bcA X)).toUInt64 >>> ((2 : Int32) &&& 0x3f).toInt64.toUInt64).toInt64)), (.long (Int64.ofNat ((bcA X) &&& 3689348814741910323)))])) (fun tt_ kk_ => XS.lushr X0.here hx rfl (hb hby d4_17) rfl kk_) ?_
  rw [show (((Int64.ofNat (bcA X)).toUInt64 >>> ((2 : Int32) &&& 0x3f).toInt64.toUInt64).toInt64) = (Int64.ofNat ((bcA X) / 2 ^ 2)) from o64_ushr (by omega) 2 2 (by decide) (by decide)]
  refine Gq.go (s₁.setTop (mkF m 21 #[.val (.long (Int64.ofNat (bcA X))), .second] [(.long (3689348814741910323 : Int64)), (.long (Int64.ofNat ((bcA X) / 2 ^ 2))), (.long (Int64.ofNat ((bcA X) &&& 3689348814741910323)))])) (fun tt_ kk_ => X0.ldc2Long hx hown (mvT hZ (hw _ (List.mem_of_getElem? (i := 25) rfl))) (g := (mkF m 18 #[.val (.long (Int64.ofNat (bcA X))), .second] [(.long (Int64.ofNat ((bcA X) / 2 ^ 2))), (.long (Int64.ofNat ((bcA X) &&& 3689348814741910323)))])) rfl (hb hby d4_18) _ kk_) ?_
  refine Gq.go (s₁.setTop (mkF m 22 #[.val (.long (Int64.ofNat (bcA X))), .second] [(.long ((Int64.ofNat ((bcA X) / 2 ^ 2)) &&& (3689348814741910323 : Int64))), (.long (Int64.ofNat ((bcA X) &&& 3689348814741910323)))])) (fun tt_ kk_ => XS.land X0.here hx rfl (hb hby d4_21) rfl kk_) ?_
  rw [show ((Int64.ofNat ((bcA X) / 2 ^ 2)) &&& (3689348814741910323 : Int64)) = (Int64.ofNat ((bcA X) / 2 ^ 2 &&& 3689348814741910323)) from o64_and (m := 3689348814741910323) (by omega) (by decide)]
  refine Gq.go (s₁.setTop (mkF m 23 #[.val (.long (Int64.ofNat (bcA X))), .second] [(.long ((Int64.ofNat ((bcA X) &&& 3689348814741910323)) + (Int64.ofNat ((bcA X) / 2 ^ 2 &&& 3689348814741910323))))])) (fun tt_ kk_ => XS.ladd X0.here hx rfl (hb hby d4_22) rfl kk_) ?_
  rw [show ((Int64.ofNat ((bcA X) &&& 3689348814741910323)) + (Int64.ofNat ((bcA X) / 2 ^ 2 &&& 3689348814741910323))) = (Int64.ofNat (bcB (bcA X))) from o64_add _ _]
  refine Gq.go (s₁.setTop (mkF m 24 #[.val (.long (Int64.ofNat (bcB (bcA X)))), .second] [])) (fun tt_ kk_ => XS.lstoreN X0.here hx rfl (hb hby d4_23) rfl (l' := #[.val (.long (Int64.ofNat (bcB (bcA X)))), .second]) rfl kk_) ?_
  refine Gq.go (s₁.setTop (mkF m 25 #[.val (.long (Int64.ofNat (bcB (bcA X)))), .second] [(.long (Int64.ofNat (bcB (bcA X))))])) (fun tt_ kk_ => XS.lloadN X0.here hx rfl (hb hby d4_24) rfl kk_) ?_
  refine Gq.go (s₁.setTop (mkF m 26 #[.val (.long (Int64.ofNat (bcB (bcA X)))), .second] [(.long (Int64.ofNat (bcB (bcA X)))), (.long (Int64.ofNat (bcB (bcA X))))])) (fun tt_ kk_ => XS.lloadN X0.here hx rfl (hb hby d4_25) rfl kk_) ?_
  refine Gq.go (s₁.setTop (mkF m 27 #[.val (.long (Int64.ofNat (bcB (bcA X)))), .second] [(.int (4 : Int32)), (.long (Int64.ofNat (bcB (bcA X)))), (.long (Int64.ofNat (bcB (bcA X))))])) (fun tt_ kk_ => XS.iconst X0.here hx rfl (hb hby d4_26) kk_) ?_
  refine Gq.go (s₁.setTop (mkF m 28 #[.val (.long (Int64.ofNat (bcB (bcA X)))), .second] [(.long (((Int64.ofNat (bcB (bcA X))).toUInt64 >>> ((4 : Int32) &&& 0x3f).toInt64.toUInt64).toInt64)), (.long (Int64.ofNat (bcB (bcA X))))])) (fun tt_ kk_ => XS.lushr X0.here hx rfl (hb hby d4_27) rfl kk_) ?_
  rw [show (((Int64.ofNat (bcB (bcA X))).toUInt64 >>> ((4 : Int32) &&& 0x3f).toInt64.toUInt64).toInt64) = (Int64.ofNat ((bcB (bcA X)) / 2 ^ 4)) from o64_ushr (by omega) 4 4 (by decide) (by decide)]
  refine Gq.go (s₁.setTop (mkF m 29 #[.val (.long (Int64.ofNat (bcB (bcA X)))), .second] [(.long ((Int64.ofNat (bcB (bcA X))) + (Int64.ofNat ((bcB (bcA X)) / 2 ^ 4))))])) (fun tt_ kk_ => XS.ladd X0.here hx rfl (hb hby d4_28) rfl kk_) ?_
  rw [show ((Int64.ofNat (bcB (bcA X))) + (Int64.ofNat ((bcB (bcA X)) / 2 ^ 4))) = (Int64.ofNat ((bcB (bcA X)) + (bcB (bcA X)) / 2 ^ 4)) from o64_add _ _]
  refine Gq.go (s₁.setTop (mkF m 32 #[.val (.long (Int64.ofNat (bcB (bcA X)))), .second] [(.long (1085102592571150095 : Int64)), (.long (Int64.ofNat ((bcB (bcA X)) + (bcB (bcA X)) / 2 ^ 4)))])) (fun tt_ kk_ => X0.ldc2Long hx hown (mvT hZ (hw _ (List.mem_of_getElem? (i := 26) rfl))) (g := (mkF m 29 #[.val (.long (Int64.ofNat (bcB (bcA X)))), .second] [(.long (Int64.ofNat ((bcB (bcA X)) + (bcB (bcA X)) / 2 ^ 4)))])) rfl (hb hby d4_29) _ kk_) ?_
  refine Gq.go (s₁.setTop (mkF m 33 #[.val (.long (Int64.ofNat (bcB (bcA X)))), .second] [(.long ((Int64.ofNat ((bcB (bcA X)) + (bcB (bcA X)) / 2 ^ 4)) &&& (1085102592571150095 : Int64)))])) (fun tt_ kk_ => XS.land X0.here hx rfl (hb hby d4_32) rfl kk_) ?_
  rw [show ((Int64.ofNat ((bcB (bcA X)) + (bcB (bcA X)) / 2 ^ 4)) &&& (1085102592571150095 : Int64)) = (Int64.ofNat (bcC (bcB (bcA X)))) from o64_and (m := 1085102592571150095) (by omega) (by decide)]
  refine Gq.go (s₁.setTop (mkF m 34 #[.val (.long (Int64.ofNat (bcC (bcB (bcA X))))), .second] [])) (fun tt_ kk_ => XS.lstoreN X0.here hx rfl (hb hby d4_33) rfl (l' := #[.val (.long (Int64.ofNat (bcC (bcB (bcA X))))), .second]) rfl kk_) ?_
  refine Gq.go (s₁.setTop (mkF m 35 #[.val (.long (Int64.ofNat (bcC (bcB (bcA X))))), .second] [(.long (Int64.ofNat (bcC (bcB (bcA X)))))])) (fun tt_ kk_ => XS.lloadN X0.here hx rfl (hb hby d4_34) rfl kk_) ?_
  refine Gq.go (s₁.setTop (mkF m 36 #[.val (.long (Int64.ofNat (bcC (bcB (bcA X))))), .second] [(.long (Int64.ofNat (bcC (bcB (bcA X))))), (.long (Int64.ofNat (bcC (bcB (bcA X)))))])) (fun tt_ kk_ => XS.lloadN X0.here hx rfl (hb hby d4_35) rfl kk_) ?_
  refine Gq.go (s₁.setTop (mkF m 38 #[.val (.long (Int64.ofNat (bcC (bcB (bcA X))))), .second] [(.int (8 : Int32)), (.long (Int64.ofNat (bcC (bcB (bcA X))))), (.long (Int64.ofNat (bcC (bcB (bcA X)))))])) (fun tt_ kk_ => XS.bipush X0.here hx rfl (hb hby d4_36) kk_) ?_
  refine Gq.go (s₁.setTop (mkF m 39 #[.val (.long (Int64.ofNat (bcC (bcB (bcA X))))), .second] [(.long (((Int64.ofNat (bcC (bcB (bcA X)))).toUInt64 >>> ((8 : Int32) &&& 0x3f).toInt64.toUInt64).toInt64)), (.long (Int64.ofNat (bcC (bcB (bcA X)))))])) (fun tt_ kk_ => XS.lushr X0.here hx rfl (hb hby d4_38) rfl kk_) ?_
  rw [show (((Int64.ofNat (bcC (bcB (bcA X)))).toUInt64 >>> ((8 : Int32) &&& 0x3f).toInt64.toUInt64).toInt64) = (Int64.ofNat ((bcC (bcB (bcA X))) / 2 ^ 8)) from o64_ushr (by omega) 8 8 (by decide) (by decide)]
  refine Gq.go (s₁.setTop (mkF m 40 #[.val (.long (Int64.ofNat (bcC (bcB (bcA X))))), .second] [(.long ((Int64.ofNat (bcC (bcB (bcA X)))) + (Int64.ofNat ((bcC (bcB (bcA X))) / 2 ^ 8))))])) (fun tt_ kk_ => XS.ladd X0.here hx rfl (hb hby d4_39) rfl kk_) ?_
  rw [show ((Int64.ofNat (bcC (bcB (bcA X)))) + (Int64.ofNat ((bcC (bcB (bcA X))) / 2 ^ 8))) = (Int64.ofNat (bcD (bcC (bcB (bcA X))))) from o64_add _ _]
  refine Gq.go (s₁.setTop (mkF m 41 #[.val (.long (Int64.ofNat (bcD (bcC (bcB (bcA X)))))), .second] [])) (fun tt_ kk_ => XS.lstoreN X0.here hx rfl (hb hby d4_40) rfl (l' := #[.val (.long (Int64.ofNat (bcD (bcC (bcB (bcA X)))))), .second]) rfl kk_) ?_
  refine Gq.go (s₁.setTop (mkF m 42 #[.val (.long (Int64.ofNat (bcD (bcC (bcB (bcA X)))))), .second] [(.long (Int64.ofNat (bcD (bcC (bcB (bcA X))))))])) (fun tt_ kk_ => XS.lloadN X0.here hx rfl (hb hby d4_41) rfl kk_) ?_
  refine Gq.go (s₁.setTop (mkF m 43 #[.val (.long (Int64.ofNat (bcD (bcC (bcB (bcA X)))))), .second] [(.long (Int64.ofNat (bcD (bcC (bcB (bcA X)))))), (.long (Int64.ofNat (bcD (bcC (bcB (bcA X))))))])) (fun tt_ kk_ => XS.lloadN X0.here hx rfl (hb hby d4_42) rfl kk_) ?_
  refine Gq.go (s₁.setTop (mkF m 45 #[.val (.long (Int64.ofNat (bcD (bcC (bcB (bcA X)))))), .second] [(.int (16 : Int32)), (.long (Int64.ofNat (bcD (bcC (bcB (bcA X)))))), (.long (Int64.ofNat (bcD (bcC (bcB (bcA X))))))])) (fun tt_ kk_ => XS.bipush X0.here hx rfl (hb hby d4_43) kk_) ?_
  refine Gq.go (s₁.setTop (mkF m 46 #[.val (.long (Int64.ofNat (bcD (bcC (bcB (bcA X)))))), .second] [(.long (((Int64.ofNat (bcD (bcC (bcB (bcA X))))).toUInt64 >>> ((16 : Int32) &&& 0x3f).toInt64.toUInt64).toInt64)), (.long (Int64.ofNat (bcD (bcC (bcB (bcA X))))))])) (fun tt_ kk_ => XS.lushr X0.here hx rfl (hb hby d4_45) rfl kk_) ?_
  rw [show (((Int64.ofNat (bcD (bcC (bcB (bcA X))))).toUInt64 >>> ((16 : Int32) &&& 0x3f).toInt64.toUInt64).toInt64) = (Int64.ofNat ((bcD (bcC (bcB (bcA X)))) / 2 ^ 16)) from o64_ushr (by omega) 16 16 (by decide) (by decide)]
  refine Gq.go (s₁.setTop (mkF m 47 #[.val (.long (Int64.ofNat (bcD (bcC (bcB (bcA X)))))), .second] [(.long ((Int64.ofNat (bcD (bcC (bcB (bcA X))))) + (Int64.ofNat ((bcD (bcC (bcB (bcA X)))) / 2 ^ 16))))])) (fun tt_ kk_ => XS.ladd X0.here hx rfl (hb hby d4_46) rfl kk_) ?_
  rw [show ((Int64.ofNat (bcD (bcC (bcB (bcA X))))) + (Int64.ofNat ((bcD (bcC (bcB (bcA X)))) / 2 ^ 16))) = (Int64.ofNat (bcE (bcD (bcC (bcB (bcA X)))))) from o64_add _ _]
  refine Gq.go (s₁.setTop (mkF m 48 #[.val (.long (Int64.ofNat (bcE (bcD (bcC (bcB (bcA X))))))), .second] [])) (fun tt_ kk_ => XS.lstoreN X0.here hx rfl (hb hby d4_47) rfl (l' := #[.val (.long (Int64.ofNat (bcE (bcD (bcC (bcB (bcA X))))))), .second]) rfl kk_) ?_
  refine Gq.go (s₁.setTop (mkF m 49 #[.val (.long (Int64.ofNat (bcE (bcD (bcC (bcB (bcA X))))))), .second] [(.long (Int64.ofNat (bcE (bcD (bcC (bcB (bcA X)))))))])) (fun tt_ kk_ => XS.lloadN X0.here hx rfl (hb hby d4_48) rfl kk_) ?_
  refine Gq.go (s₁.setTop (mkF m 50 #[.val (.long (Int64.ofNat (bcE (bcD (bcC (bcB (bcA X))))))), .second] [(.long (Int64.ofNat (bcE (bcD (bcC (bcB (bcA X))))))), (.long (Int64.ofNat (bcE (bcD (bcC (bcB (bcA X)))))))])) (fun tt_ kk_ => XS.lloadN X0.here hx rfl (hb hby d4_49) rfl kk_) ?_
  refine Gq.go (s₁.setTop (mkF m 52 #[.val (.long (Int64.ofNat (bcE (bcD (bcC (bcB (bcA X))))))), .second] [(.int (32 : Int32)), (.long (Int64.ofNat (bcE (bcD (bcC (bcB (bcA X))))))), (.long (Int64.ofNat (bcE (bcD (bcC (bcB (bcA X)))))))])) (fun tt_ kk_ => XS.bipush X0.here hx rfl (hb hby d4_50) kk_) ?_
  refine Gq.go (s₁.setTop (mkF m 53 #[.val (.long (Int64.ofNat (bcE (bcD (bcC (bcB (bcA X))))))), .second] [(.long (((Int64.ofNat (bcE (bcD (bcC (bcB (bcA X)))))).toUInt64 >>> ((32 : Int32) &&& 0x3f).toInt64.toUInt64).toInt64)), (.long (Int64.ofNat (bcE (bcD (bcC (bcB (bcA X)))))))])) (fun tt_ kk_ => XS.lushr X0.here hx rfl (hb hby d4_52) rfl kk_) ?_
  rw [show (((Int64.ofNat (bcE (bcD (bcC (bcB (bcA X)))))).toUInt64 >>> ((32 : Int32) &&& 0x3f).toInt64.toUInt64).toInt64) = (Int64.ofNat ((bcE (bcD (bcC (bcB (bcA X))))) / 2 ^ 32)) from o64_ushr (by omega) 32 32 (by decide) (by decide)]
  refine Gq.go (s₁.setTop (mkF m 54 #[.val (.long (Int64.ofNat (bcE (bcD (bcC (bcB (bcA X))))))), .second] [(.long ((Int64.ofNat (bcE (bcD (bcC (bcB (bcA X)))))) + (Int64.ofNat ((bcE (bcD (bcC (bcB (bcA X))))) / 2 ^ 32))))])) (fun tt_ kk_ => XS.ladd X0.here hx rfl (hb hby d4_53) rfl kk_) ?_
  rw [show ((Int64.ofNat (bcE (bcD (bcC (bcB (bcA X)))))) + (Int64.ofNat ((bcE (bcD (bcC (bcB (bcA X))))) / 2 ^ 32))) = (Int64.ofNat (bcF (bcE (bcD (bcC (bcB (bcA X))))))) from o64_add _ _]
  refine Gq.go (s₁.setTop (mkF m 55 #[.val (.long (Int64.ofNat (bcF (bcE (bcD (bcC (bcB (bcA X)))))))), .second] [])) (fun tt_ kk_ => XS.lstoreN X0.here hx rfl (hb hby d4_54) rfl (l' := #[.val (.long (Int64.ofNat (bcF (bcE (bcD (bcC (bcB (bcA X)))))))), .second]) rfl kk_) ?_
  refine Gq.go (s₁.setTop (mkF m 56 #[.val (.long (Int64.ofNat (bcF (bcE (bcD (bcC (bcB (bcA X)))))))), .second] [(.long (Int64.ofNat (bcF (bcE (bcD (bcC (bcB (bcA X))))))))])) (fun tt_ kk_ => XS.lloadN X0.here hx rfl (hb hby d4_55) rfl kk_) ?_
  refine Gq.go (s₁.setTop (mkF m 57 #[.val (.long (Int64.ofNat (bcF (bcE (bcD (bcC (bcB (bcA X)))))))), .second] [(.int ((Int64.ofNat (bcF (bcE (bcD (bcC (bcB (bcA X))))))).toInt32))])) (fun tt_ kk_ => XS.l2i X0.here hx rfl (hb hby d4_56) rfl kk_) ?_
  rw [show ((Int64.ofNat (bcF (bcE (bcD (bcC (bcB (bcA X))))))).toInt32) = (Int32.ofNat (bcF (bcE (bcD (bcC (bcB (bcA X))))))) from o64_toInt32 _]
  refine Gq.go (s₁.setTop (mkF m 59 #[.val (.long (Int64.ofNat (bcF (bcE (bcD (bcC (bcB (bcA X)))))))), .second] [(.int (127 : Int32)), (.int (Int32.ofNat (bcF (bcE (bcD (bcC (bcB (bcA X))))))))])) (fun tt_ kk_ => XS.bipush X0.here hx rfl (hb hby d4_57) kk_) ?_
  refine Gq.go (s₁.setTop (mkF m 60 #[.val (.long (Int64.ofNat (bcF (bcE (bcD (bcC (bcB (bcA X)))))))), .second] [(.int ((Int32.ofNat (bcF (bcE (bcD (bcC (bcB (bcA X))))))) &&& (127 : Int32)))])) (fun tt_ kk_ => XS.iand X0.here hx rfl (hb hby d4_59) rfl kk_) ?_
  obtain ⟨nb, hnb, enb, eqb⟩ := own_andN (Int32.ofNat (bcF (bcE (bcD (bcC (bcB (bcA X))))))) 127 (by decide)
  rw [show ((Int32.ofNat (bcF (bcE (bcD (bcC (bcB (bcA X))))))) &&& (127 : Int32)) = (Int32.ofNat nb) from eqb]
  refine Gq.retI X0 hx Bd.notSynchronized Bd.returns (by simp) (hb hby d4_60) rfl (by decide) (by decide) ?_
  show Q4 Z (Int64.ofNat X) h0 n0 _ s₁.heap _
  rw [eh0]
  exact ⟨⟨nb, rfl, hnb, fun q => by rw [own_bcn enb]; exact bc_pos X (own_neg63 hX q) hX⟩, N0, rfl⟩
theorem d6_0 : decode prog_29_method_6_code 0 = .ok (.aload_n 0, 1) := by decide +kernel
theorem d6_1 : decode prog_29_method_6_code 1 = .ok (.getfield 18, 3) := by decide +kernel
theorem d6_4 : decode prog_29_method_6_code 4 = .ok (.iload_n 1, 1) := by decide +kernel
theorem d6_5 : decode prog_29_method_6_code 5 = .ok (.bipush 44, 2) := by decide +kernel
theorem d6_7 : decode prog_29_method_6_code 7 = .ok (.imul, 1) := by decide +kernel
theorem d6_8 : decode prog_29_method_6_code 8 = .ok (.laload, 1) := by decide +kernel
theorem d6_9 : decode prog_29_method_6_code 9 = .ok (.l2i, 1) := by decide +kernel
theorem d6_10 : decode prog_29_method_6_code 10 = .ok (.ireturn, 1) := by decide +kernel
theorem pn_com_example_dense_trie_densetrie_Heads : plainName "com/example/dense_trie/densetrie/Heads" = true := by first | (simp [plainName, overriddenIn]; done) | decide +kernel
theorem ef6 (m : MethodId) (y0 : Addr) (y1 : Int32) : entryFrame m #[(.ref y0), (.int y1)] 2 = mkF m 0 #[.val (.ref y0), .val (.int y1)] [] := by first | (simp [entryFrame, mkF, argsToLocals, Value.category]; done) | rfl
def Q6 (Z : State) (a1 : Addr) (hd : Nat) (rn : Addr) (n : Nat) (F : Nat → Int64) (h0 : Heap) (n0 : Nat) (v : Option Value) (h : Heap) (L : List Loc) : Prop := v = some (.int ((F (hd * 44)).toInt32)) ∧ Fr n0 L ∧ h = h0
set_option maxRecDepth 65536 in
set_option maxHeartbeats 40000000 in
theorem rm6 (l : Launch) (Z : State) (a0 : Array Value) (hw : ∀ d ∈ tables_1, d.before a0 Z = true) (ws : List Jvm.Cond) (a1 : Addr) (hd : Nat) (rn : Addr) (n : Nat) (F : Nat → Int64) (h0 : Heap) (n0 : Nat) (Z0 : n0 ≤ h0.size) (Fr1 : Fld Z h0 a1 "com/example/dense_trie/densetrie/Heads" "runs" "[J" (.ref rn)) (V1 : LA Z h0 rn .long n (fun i => .long (F i))) (hin : hd * 44 < n) (hn : n ≤ 88) :
    MetFree l (⟨"com/example/dense_trie/densetrie/Heads", "size", "(I)I"⟩ : MethodName) (head1 (Jvm.Cond.code (⟨"com/example/dense_trie/densetrie/Heads", "size", "(I)I"⟩ : MethodName) prog_29_method_6_code 2 (some .int) :: ws) ({ frames := 0, cells := 0, slots := 0, locals := 0 } : Room)) (fun a U => a = #[(.ref a1), (.int (Int32.ofNat hd))] ∧ Z.Warmed39 U.vm ∧ U.heap = h0) (fun _ _ _ _ _ => True) (fun _ U o U' => ∃ v L, o = .returned v ∧ Q6 Z a1 hd rn n F h0 n0 v U'.heap L ∧ FrameEnd U o U' L ({ frames := 0, cells := 0, slots := 0, locals := 0 } : Room).cells ({ frames := 0, cells := 0, slots := 0, locals := 0 } : Room).slots) := by
  refine MetFree.of_bodySF (plainFor_of_name pn_com_example_dense_trie_densetrie_Heads) hisR ?_
  intro p e s m args below meth c s₁ Bd hml0 hP hK
  obtain ⟨rfl, hZ, hh⟩ := hP
  have hx := Bd.exec
  have hby := Bd.bytes
  have hml : c.maxLocals = 2 := hml0
  have hown : s.vm.findClass "com/example/dense_trie/densetrie/Heads" = some m.cls := findClass_of_methodNamed Bd.named
  have hnm := (name_of_methodNamed Bd.named Bd.method).1
  have X0 : Stand p l e ({ frames := 0, cells := 0, slots := 0, locals := 0 } : Room) s m #[(.ref a1), (.int (Int32.ofNat hd))] below meth c s₁ [] 0 0 := Stand.of_body Bd
  have eh0 : s₁.heap = h0 := by rw [← hh, Bd.state]; rfl
  have N0 := Fr.nil n0
  refine Gq.start (Q := Q6 Z a1 hd rn n F h0 n0) (kc := ({ frames := 0, cells := 0, slots := 0, locals := 0 } : Room).cells) (ks := ({ frames := 0, cells := 0, slots := 0, locals := 0 } : Room).slots) (ef6 m a1 (Int32.ofNat hd)) ?_
  refine Gq.go (s₁.setTop (mkF m 1 #[.val (.ref a1), .val (.int (Int32.ofNat hd))] [(.ref a1)])) (fun tt_ kk_ => XS.aloadN X0.here hx rfl (hb hby d6_0) rfl rfl kk_) ?_
  obtain ⟨T1, X1, eh1, st1⟩ := getF X0 hx hZ hown (host := "") (Or.inl (hw _ (List.mem_of_getElem? (i := 13) rfl))) Via.refl eh0 Fr1 (g := (mkF m 1 #[.val (.ref a1), .val (.int (Int32.ofNat hd))] [(.ref a1)])) rfl rfl (hb hby d6_1)
  refine Gq.go (T1.setTop (mkF m 4 #[.val (.ref a1), .val (.int (Int32.ofNat hd))] [(.ref rn)])) (fun tt_ kk_ => st1 _ kk_) ?_
  refine Gq.go (T1.setTop (mkF m 5 #[.val (.ref a1), .val (.int (Int32.ofNat hd))] [(.int (Int32.ofNat hd)), (.ref rn)])) (fun tt_ kk_ => XS.iloadN X1.here hx rfl (hb hby d6_4) rfl kk_) ?_
  refine Gq.go (T1.setTop (mkF m 7 #[.val (.ref a1), .val (.int (Int32.ofNat hd))] [(.int (44 : Int32)), (.int (Int32.ofNat hd)), (.ref rn)])) (fun tt_ kk_ => XS.bipush X1.here hx rfl (hb hby d6_5) kk_) ?_
  refine Gq.go (T1.setTop (mkF m 8 #[.val (.ref a1), .val (.int (Int32.ofNat hd))] [(.int ((Int32.ofNat hd) * (44 : Int32))), (.ref rn)])) (fun tt_ kk_ => XS.imul X1.here hx rfl (hb hby d6_7) rfl kk_) ?_
  rw [show ((Int32.ofNat hd) * (44 : Int32)) = (Int32.ofNat (hd * 44)) from own_mul hd 44]
  refine Gq.go (T1.setTop (mkF m 9 #[.val (.ref a1), .val (.int (Int32.ofNat hd))] [(.long (F (hd * 44)))])) (fun tt_ kk_ => ldJ X1 hx hZ eh1 V1 (j := (Int32.ofNat (hd * 44))) (i := (hd * 44)) (x := (F (hd * 44))) (own_nn (by omega)) (own_nc (by omega)) hin rfl (hb hby d6_8) tt_ kk_) ?_
  refine Gq.go (T1.setTop (mkF m 10 #[.val (.ref a1), .val (.int (Int32.ofNat hd))] [(.int ((F (hd * 44)).toInt32))])) (fun tt_ kk_ => XS.l2i X1.here hx rfl (hb hby d6_9) rfl kk_) ?_
  refine Gq.retI X1 hx Bd.notSynchronized Bd.returns (by simp) (hb hby d6_10) rfl (by decide) (by decide) ?_
  show Q6 Z a1 hd rn n F h0 n0 _ T1.heap _
  rw [eh1]
  exact ⟨rfl, N0, rfl⟩
theorem d5_0 : decode prog_29_method_8_code 0 = .ok (.aload_n 0, 1) := by decide +kernel
theorem d5_1 : decode prog_29_method_8_code 1 = .ok (.getfield 18, 3) := by decide +kernel
theorem d5_4 : decode prog_29_method_8_code 4 = .ok (.iload_n 1, 1) := by decide +kernel
theorem d5_5 : decode prog_29_method_8_code 5 = .ok (.bipush 44, 2) := by decide +kernel
theorem d5_7 : decode prog_29_method_8_code 7 = .ok (.imul, 1) := by decide +kernel
theorem d5_8 : decode prog_29_method_8_code 8 = .ok (.iload_n 2, 1) := by decide +kernel
theorem d5_9 : decode prog_29_method_8_code 9 = .ok (.i2l, 1) := by decide +kernel
theorem d5_10 : decode prog_29_method_8_code 10 = .ok (.bipush 32, 2) := by decide +kernel
theorem d5_12 : decode prog_29_method_8_code 12 = .ok (.lshl, 1) := by decide +kernel
theorem d5_13 : decode prog_29_method_8_code 13 = .ok (.aload_n 0, 1) := by decide +kernel
theorem d5_14 : decode prog_29_method_8_code 14 = .ok (.iload_n 1, 1) := by decide +kernel
theorem d5_15 : decode prog_29_method_8_code 15 = .ok (.invokevirtual 46, 3) := by decide +kernel
theorem d5_18 : decode prog_29_method_8_code 18 = .ok (.i2l, 1) := by decide +kernel
theorem d5_19 : decode prog_29_method_8_code 19 = .ok (.lor, 1) := by decide +kernel
theorem d5_20 : decode prog_29_method_8_code 20 = .ok (.lastore, 1) := by decide +kernel
theorem d5_21 : decode prog_29_method_8_code 21 = .ok (.return_, 1) := by decide +kernel
theorem pd_1 : parseMethodDescriptor "(I)I" = some ⟨[.int], some .int⟩ := by decide +kernel
theorem ef5 (m : MethodId) (y0 : Addr) (y1 : Int32) (y2 : Int32) : entryFrame m #[(.ref y0), (.int y1), (.int y2)] 3 = mkF m 0 #[.val (.ref y0), .val (.int y1), .val (.int y2)] [] := by first | (simp [entryFrame, mkF, argsToLocals, Value.category]; done) | rfl
def Q5 (Z : State) (p2 : Int32) (a1 : Addr) (hd : Nat) (rn : Addr) (n : Nat) (F : Nat → Int64) (h0 : Heap) (n0 : Nat) (v : Option Value) (h : Heap) (L : List Loc) : Prop := v = none ∧ Fr n0 L ∧ Keep h0 h [rn] ∧ ∃ F' : Nat → Int64, LA Z h rn .long n (fun i => .long (F' i)) ∧ ∀ i, ¬ i = hd * 44 → F' i = F i
set_option maxRecDepth 65536 in
set_option maxHeartbeats 40000000 in
theorem rm5 (l : Launch) (Z : State) (a0 : Array Value) (hw : ∀ d ∈ tables_1, d.before a0 Z = true) (ws : List Jvm.Cond) (p2 : Int32) (a1 : Addr) (hd : Nat) (rn : Addr) (n : Nat) (F : Nat → Int64) (h0 : Heap) (n0 : Nat) (Z0 : n0 ≤ h0.size) (Ea : Exa Z h0 a1 "com/example/dense_trie/densetrie/Heads") (Fr1 : Fld Z h0 a1 "com/example/dense_trie/densetrie/Heads" "runs" "[J" (.ref rn)) (V1 : LA Z h0 rn .long n (fun i => .long (F i))) (hin : hd * 44 + 44 ≤ n) (hn : n ≤ 88) (gr : n0 ≤ rn) (nra : a1 ≠ rn) :
    MetFree l (⟨"com/example/dense_trie/densetrie/Heads", "setBase", "(II)V"⟩ : MethodName) (head1 (Jvm.Cond.code (⟨"com/example/dense_trie/densetrie/Heads", "setBase", "(II)V"⟩ : MethodName) prog_29_method_8_code 3 none :: ws) ({ frames := 1, cells := 0, slots := 0, locals := 17 } : Room)) (fun a U => a = #[(.ref a1), (.int (Int32.ofNat hd)), (.int p2)] ∧ Z.Warmed39 U.vm ∧ U.heap = h0) (fun _ _ _ _ _ => True) (fun _ U o U' => ∃ v L, o = .returned v ∧ Q5 Z p2 a1 hd rn n F h0 n0 v U'.heap L ∧ FrameEnd U o U' L ({ frames := 1, cells := 0, slots := 0, locals := 17 } : Room).cells ({ frames := 1, cells := 0, slots := 0, locals := 17 } : Room).slots) := by
  refine MetFree.of_bodySF (plainFor_of_name pn_com_example_dense_trie_densetrie_Heads) hisR ?_
  intro p e s m args below meth c s₁ Bd hml0 hP hK
  obtain ⟨rfl, hZ, hh⟩ := hP
  have hx := Bd.exec
  have hby := Bd.bytes
  have hml : c.maxLocals = 3 := hml0
  have hown : s.vm.findClass "com/example/dense_trie/densetrie/Heads" = some m.cls := findClass_of_methodNamed Bd.named
  have hnm := (name_of_methodNamed Bd.named Bd.method).1
  have X0 : Stand p l e ({ frames := 1, cells := 0, slots := 0, locals := 17 } : Room) s m #[(.ref a1), (.int (Int32.ofNat hd)), (.int p2)] below meth c s₁ [] 0 0 := Stand.of_body Bd
  have eh0 : s₁.heap = h0 := by rw [← hh, Bd.state]; rfl
  have N0 := Fr.nil n0
  refine Gq.start (Q := Q5 Z p2 a1 hd rn n F h0 n0) (kc := ({ frames := 1, cells := 0, slots := 0, locals := 17 } : Room).cells) (ks := ({ frames := 1, cells := 0, slots := 0, locals := 17 } : Room).slots) (ef5 m a1 (Int32.ofNat hd) p2) ?_
  refine Gq.go (s₁.setTop (mkF m 1 #[.val (.ref a1), .val (.int (Int32.ofNat hd)), .val (.int p2)] [(.ref a1)])) (fun tt_ kk_ => XS.aloadN X0.here hx rfl (hb hby d5_0) rfl rfl kk_) ?_
  obtain ⟨T1, X1, eh1, st1⟩ := getF X0 hx hZ hown (host := "") (Or.inl (hw _ (List.mem_of_getElem? (i := 13) rfl))) Via.refl eh0 Fr1 (g := (mkF m 1 #[.val (.ref a1), .val (.int (Int32.ofNat hd)), .val (.int p2)] [(.ref a1)])) rfl rfl (hb hby d5_1)
  refine Gq.go (T1.setTop (mkF m 4 #[.val (.ref a1), .val (.int (Int32.ofNat hd)), .val (.int p2)] [(.ref rn)])) (fun tt_ kk_ => st1 _ kk_) ?_
  refine Gq.go (T1.setTop (mkF m 5 #[.val (.ref a1), .val (.int (Int32.ofNat hd)), .val (.int p2)] [(.int (Int32.ofNat hd)), (.ref rn)])) (fun tt_ kk_ => XS.iloadN X1.here hx rfl (hb hby d5_4) rfl kk_) ?_
  refine Gq.go (T1.setTop (mkF m 7 #[.val (.ref a1), .val (.int (Int32.ofNat hd)), .val (.int p2)] [(.int (44 : Int32)), (.int (Int32.ofNat hd)), (.ref rn)])) (fun tt_ kk_ => XS.bipush X1.here hx rfl (hb hby d5_5) kk_) ?_
  refine Gq.go (T1.setTop (mkF m 8 #[.val (.ref a1), .val (.int (Int32.ofNat hd)), .val (.int p2)] [(.int ((Int32.ofNat hd) * (44 : Int32))), (.ref rn)])) (fun tt_ kk_ => XS.imul X1.here hx rfl (hb hby d5_7) rfl kk_) ?_
  rw [show ((Int32.ofNat hd) * (44 : Int32)) = (Int32.ofNat (hd * 44)) from own_mul hd 44]
  refine Gq.go (T1.setTop (mkF m 9 #[.val (.ref a1), .val (.int (Int32.ofNat hd)), .val (.int p2)] [(.int p2), (.int (Int32.ofNat (hd * 44))), (.ref rn)])) (fun tt_ kk_ => XS.iloadN X1.here hx rfl (hb hby d5_8) rfl kk_) ?_
  refine Gq.go (T1.setTop (mkF m 10 #[.val (.ref a1), .val (.int (Int32.ofNat hd)), .val (.int p2)] [(.long (p2.toInt64)), (.int (Int32.ofNat (hd * 44))), (.ref rn)])) (fun tt_ kk_ => XS.i2l X1.here hx rfl (hb hby d5_9) rfl kk_) ?_
  refine Gq.go (T1.setTop (mkF m 12 #[.val (.ref a1), .val (.int (Int32.ofNat hd)), .val (.int p2)] [(.int (32 : Int32)), (.long (p2.toInt64)), (.int (Int32.ofNat (hd * 44))), (.ref rn)])) (fun tt_ kk_ => XS.bipush X1.here hx rfl (hb hby d5_10) kk_) ?_
  refine Gq.go (T1.setTop (mkF m 13 #[.val (.ref a1), .val (.int (Int32.ofNat hd)), .val (.int p2)] [(.long ((p2.toInt64) <<< ((32 : Int32) &&& 0x3f).toInt64)), (.int (Int32.ofNat (hd * 44))), (.ref rn)])) (fun tt_ kk_ => XS.lshl X1.here hx rfl (hb hby d5_12) rfl kk_) ?_
  refine Gq.go (T1.setTop (mkF m 14 #[.val (.ref a1), .val (.int (Int32.ofNat hd)), .val (.int p2)] [(.ref a1), (.long ((p2.toInt64) <<< ((32 : Int32) &&& 0x3f).toInt64)), (.int (Int32.ofNat (hd * 44))), (.ref rn)])) (fun tt_ kk_ => XS.aloadN X1.here hx rfl (hb hby d5_13) rfl rfl kk_) ?_
  refine Gq.go (T1.setTop (mkF m 15 #[.val (.ref a1), .val (.int (Int32.ofNat hd)), .val (.int p2)] [(.int (Int32.ofNat hd)), (.ref a1), (.long ((p2.toInt64) <<< ((32 : Int32) &&& 0x3f).toInt64)), (.int (Int32.ofNat (hd * 44))), (.ref rn)])) (fun tt_ kk_ => XS.iloadN X1.here hx rfl (hb hby d5_14) rfl kk_) ?_
  obtain ⟨r2, T2, L2, X2, hQ2, st2⟩ := callV (pc := 15) (Ls := #[.val (.ref a1), .val (.int (Int32.ofNat hd)), .val (.int p2)]) X1 hx hZ hown eh1 a1 [(.int (Int32.ofNat hd))] [(.long ((p2.toInt64) <<< ((32 : Int32) &&& 0x3f).toInt64)), (.int (Int32.ofNat (hd * 44))), (.ref rn)] Ea (hw _ (List.mem_of_getElem? (i := 32) rfl)) (hw _ (List.mem_of_getElem? (i := 33) rfl)) (hw _ (List.mem_of_getElem? (i := 35) rfl)) (hw _ (List.mem_of_getElem? (i := 34) rfl)) (hw _ (List.mem_of_getElem? (i := 4) rfl)) (hw _ (List.mem_of_getElem? (i := 36) rfl)) (by decide) (rm6 l Z a0 hw [] a1 hd rn n F h0 n0 Z0 Fr1 V1 (by omega) hn) pd_1 rfl (by rw [hml]; rfl) (W := 4) (Nat.le_of_eq rfl) (by decide) (by decide) (by decide) (by decide) (hb hby d5_15)
  obtain ⟨rfl, N2q, eh2⟩ := hQ2
  have N2 := Fr.app N0 N2q
  refine Gq.go (T2.setTop (mkF m 18 #[.val (.ref a1), .val (.int (Int32.ofNat hd)), .val (.int p2)] [(.int ((F (hd * 44)).toInt32)), (.long ((p2.toInt64) <<< ((32 : Int32) &&& 0x3f).toInt64)), (.int (Int32.ofNat (hd * 44))), (.ref rn)])) (fun tt_ kk_ => st2 tt_ kk_) ?_
  refine Gq.go (T2.setTop (mkF m 19 #[.val (.ref a1), .val (.int (Int32.ofNat hd)), .val (.int p2)] [(.long (((F (hd * 44)).toInt32).toInt64)), (.long ((p2.toInt64) <<< ((32 : Int32) &&& 0x3f).toInt64)), (.int (Int32.ofNat (hd * 44))), (.ref rn)])) (fun tt_ kk_ => XS.i2l X2.here hx rfl (hb hby d5_18) rfl kk_) ?_
  refine Gq.go (T2.setTop (mkF m 20 #[.val (.ref a1), .val (.int (Int32.ofNat hd)), .val (.int p2)] [(.long (((p2.toInt64) <<< ((32 : Int32) &&& 0x3f).toInt64) ||| (((F (hd * 44)).toInt32).toInt64))), (.int (Int32.ofNat (hd * 44))), (.ref rn)])) (fun tt_ kk_ => XS.lor X2.here hx rfl (hb hby d5_19) rfl kk_) ?_
  obtain ⟨T3, h3, X3, eh3, W3, st3⟩ := stoJ X2 hx hZ eh2 V1 (j := (Int32.ofNat (hd * 44))) (i := (hd * 44)) (x := (((p2.toInt64) <<< ((32 : Int32) &&& 0x3f).toInt64) ||| (((F (hd * 44)).toInt32).toInt64))) (Ls := #[.val (.ref a1), .val (.int (Int32.ofNat hd)), .val (.int p2)]) (rest := []) (own_nn (by omega)) (own_nc (by omega)) (by omega) (hb hby d5_20)
  have fa4 := Ea.wr W3
  have fa5 := Fr1.other W3 (Or.inl nra)
  have ta6 := Nat.lt_of_lt_of_le V1.lt (Nat.le_of_eq W3.size.symm)
  have za7 : n0 ≤ h3.size := Nat.le_trans Z0 (Nat.le_of_eq W3.size.symm)
  have V3 : LA Z h3 rn .long n (fun i => .long ((updI F (hd * 44) (((p2.toInt64) <<< ((32 : Int32) &&& 0x3f).toInt64) ||| (((F (hd * 44)).toInt32).toInt64))) i)) := (V1.set W3).congr (fun i _ => upd_long _ _ _ i)
  have Ka8 := (Keep.refl h0 [rn]).wr W3 (Or.inl (List.mem_of_getElem? (i := 0) rfl))
  have N3 := Fr.snoc X3 N2 gr
  refine Gq.go (T3.setTop (mkF m 21 #[.val (.ref a1), .val (.int (Int32.ofNat hd)), .val (.int p2)] [])) (fun tt_ kk_ => st3 tt_ kk_) ?_
  refine Gq.retV X3 hx Bd.notSynchronized Bd.returns (hb hby d5_21) (by decide) (by decide) ?_
  show Q5 Z p2 a1 hd rn n F h0 n0 _ T3.heap _
  rw [eh3]
  exact ⟨rfl, N3, Ka8, _, V3, fun i hi => updI_ne _ _ hi⟩
theorem d3_0 : decode prog_29_method_17_code 0 = .ok (.iconst 0, 1) := by decide +kernel
theorem d3_1 : decode prog_29_method_17_code 1 = .ok (.istore_n 2, 1) := by decide +kernel
theorem d3_2 : decode prog_29_method_17_code 2 = .ok (.iload_n 1, 1) := by decide +kernel
theorem d3_3 : decode prog_29_method_17_code 3 = .ok (.bipush 44, 2) := by decide +kernel
theorem d3_5 : decode prog_29_method_17_code 5 = .ok (.imul, 1) := by decide +kernel
theorem d3_6 : decode prog_29_method_17_code 6 = .ok (.iconst 1, 1) := by decide +kernel
theorem d3_7 : decode prog_29_method_17_code 7 = .ok (.iadd, 1) := by decide +kernel
theorem d3_8 : decode prog_29_method_17_code 8 = .ok (.istore_n 3, 1) := by decide +kernel
theorem d3_9 : decode prog_29_method_17_code 9 = .ok (.iload_n 3, 1) := by decide +kernel
theorem d3_10 : decode prog_29_method_17_code 10 = .ok (.iload_n 1, 1) := by decide +kernel
theorem d3_11 : decode prog_29_method_17_code 11 = .ok (.iconst 1, 1) := by decide +kernel
theorem d3_12 : decode prog_29_method_17_code 12 = .ok (.iadd, 1) := by decide +kernel
theorem d3_13 : decode prog_29_method_17_code 13 = .ok (.bipush 44, 2) := by decide +kernel
theorem d3_15 : decode prog_29_method_17_code 15 = .ok (.imul, 1) := by decide +kernel
theorem d3_16 : decode prog_29_method_17_code 16 = .ok (.if_icmp .ge 43, 3) := by decide +kernel
theorem d3_19 : decode prog_29_method_17_code 19 = .ok (.aload_n 0, 1) := by decide +kernel
theorem d3_20 : decode prog_29_method_17_code 20 = .ok (.getfield 18, 3) := by decide +kernel
theorem d3_23 : decode prog_29_method_17_code 23 = .ok (.iload_n 3, 1) := by decide +kernel
theorem d3_24 : decode prog_29_method_17_code 24 = .ok (.laload, 1) := by decide +kernel
theorem d3_25 : decode prog_29_method_17_code 25 = .ok (.ldc2_w 22, 3) := by decide +kernel
theorem d3_28 : decode prog_29_method_17_code 28 = .ok (.land, 1) := by decide +kernel
theorem d3_29 : decode prog_29_method_17_code 29 = .ok (.lstore 4, 2) := by decide +kernel
theorem d3_31 : decode prog_29_method_17_code 31 = .ok (.aload_n 0, 1) := by decide +kernel
theorem d3_32 : decode prog_29_method_17_code 32 = .ok (.getfield 18, 3) := by decide +kernel
theorem d3_35 : decode prog_29_method_17_code 35 = .ok (.iload_n 3, 1) := by decide +kernel
theorem d3_36 : decode prog_29_method_17_code 36 = .ok (.lload 4, 2) := by decide +kernel
theorem d3_38 : decode prog_29_method_17_code 38 = .ok (.iload_n 2, 1) := by decide +kernel
theorem d3_39 : decode prog_29_method_17_code 39 = .ok (.i2l, 1) := by decide +kernel
theorem d3_40 : decode prog_29_method_17_code 40 = .ok (.bipush 48, 2) := by decide +kernel
theorem d3_42 : decode prog_29_method_17_code 42 = .ok (.lshl, 1) := by decide +kernel
theorem d3_43 : decode prog_29_method_17_code 43 = .ok (.lor, 1) := by decide +kernel
theorem d3_44 : decode prog_29_method_17_code 44 = .ok (.lastore, 1) := by decide +kernel
theorem d3_45 : decode prog_29_method_17_code 45 = .ok (.iload_n 2, 1) := by decide +kernel
theorem d3_46 : decode prog_29_method_17_code 46 = .ok (.lload 4, 2) := by decide +kernel
theorem d3_48 : decode prog_29_method_17_code 48 = .ok (.invokestatic 56, 3) := by decide +kernel
theorem d3_51 : decode prog_29_method_17_code 51 = .ok (.iadd, 1) := by decide +kernel
theorem d3_52 : decode prog_29_method_17_code 52 = .ok (.istore_n 2, 1) := by decide +kernel
theorem d3_53 : decode prog_29_method_17_code 53 = .ok (.iinc 3 1, 3) := by decide +kernel
theorem d3_56 : decode prog_29_method_17_code 56 = .ok (.goto (-47), 3) := by decide +kernel
theorem d3_59 : decode prog_29_method_17_code 59 = .ok (.aload_n 0, 1) := by decide +kernel
theorem d3_60 : decode prog_29_method_17_code 60 = .ok (.getfield 18, 3) := by decide +kernel
theorem d3_63 : decode prog_29_method_17_code 63 = .ok (.iload_n 1, 1) := by decide +kernel
theorem d3_64 : decode prog_29_method_17_code 64 = .ok (.bipush 44, 2) := by decide +kernel
theorem d3_66 : decode prog_29_method_17_code 66 = .ok (.imul, 1) := by decide +kernel
theorem d3_67 : decode prog_29_method_17_code 67 = .ok (.iload_n 2, 1) := by decide +kernel
theorem d3_68 : decode prog_29_method_17_code 68 = .ok (.i2l, 1) := by decide +kernel
theorem d3_69 : decode prog_29_method_17_code 69 = .ok (.lastore, 1) := by decide +kernel
theorem d3_70 : decode prog_29_method_17_code 70 = .ok (.return_, 1) := by decide +kernel
theorem pd_2 : parseMethodDescriptor "(J)I" = some ⟨[.long], some .int⟩ := by decide +kernel
theorem ef_rank1 (m : MethodId) (y0 : Addr) (y1 : Int32) : entryFrame m #[(.ref y0), (.int y1)] 6 = mkF m 0 #[.val (.ref y0), .val (.int y1), .unset, .unset, .unset, .unset] [] := by first | (simp [entryFrame, mkF, argsToLocals, Value.category]; done) | rfl
def Q_rank1 (Z : State) (a1 : Addr) (hd : Nat) (rn : Addr) (n : Nat) (F : Nat → Int64) (h0 : Heap) (n0 : Nat) (v : Option Value) (h : Heap) (L : List Loc) : Prop := v = none ∧ Fr n0 L ∧ Keep h0 h [rn] ∧ ∃ F' : Nat → Int64, LA Z h rn .long n (fun i => .long (F' i)) ∧ (∀ i, (i < hd * 44 ∨ hd * 44 + 44 ≤ i) → F' i = F i) ∧ ∀ j, j < 43 → (∀ b, b < 48 → obit (F' (hd * 44 + 1 + j)) b = obit (F (hd * 44 + 1 + j)) b) ∧ (F' (hd * 44 + 1 + j)).toBitVec.toNat / 2 ^ 48 ≤ 5461
set_option maxRecDepth 65536 in
set_option maxHeartbeats 40000000 in
theorem rm_rank1 (l : Launch) (Z : State) (a0 : Array Value) (hw : ∀ d ∈ tables_1, d.before a0 Z = true) (ws : List Jvm.Cond) (a1 : Addr) (hd : Nat) (rn : Addr) (n : Nat) (F : Nat → Int64) (h0 : Heap) (n0 : Nat) (Z0 : n0 ≤ h0.size) (Ea : Exa Z h0 a1 "com/example/dense_trie/densetrie/Heads") (Fr1 : Fld Z h0 a1 "com/example/dense_trie/densetrie/Heads" "runs" "[J" (.ref rn)) (V1 : LA Z h0 rn .long n (fun i => .long (F i))) (hin : hd * 44 + 44 ≤ n) (hn : n ≤ 88) (gr : n0 ≤ rn) (nra : a1 ≠ rn) :
    MetFree l (⟨"com/example/dense_trie/densetrie/Heads", "rank", "(I)V"⟩ : MethodName) (head1 (Jvm.Cond.code (⟨"com/example/dense_trie/densetrie/Heads", "rank", "(I)V"⟩ : MethodName) prog_29_method_17_code 6 none :: ws) ({ frames := 1, cells := 0, slots := 0, locals := 14 } : Room)) (fun a U => a = #[(.ref a1), (.int (Int32.ofNat hd))] ∧ Z.Warmed39 U.vm ∧ U.heap = h0) (fun _ _ _ _ _ => True) (fun _ U o U' => ∃ v L, o = .returned v ∧ Q_rank1 Z a1 hd rn n F h0 n0 v U'.heap L ∧ FrameEnd U o U' L ({ frames := 1, cells := 0, slots := 0, locals := 14 } : Room).cells ({ frames := 1, cells := 0, slots := 0, locals := 14 } : Room).slots) := by
  refine MetFree.of_bodySF (plainFor_of_name pn_com_example_dense_trie_densetrie_Heads) hisR ?_
  intro p e s m args below meth c s₁ Bd hml0 hP hK
  obtain ⟨rfl, hZ, hh⟩ := hP
  have hx := Bd.exec
  have hby := Bd.bytes
  have hml : c.maxLocals = 6 := hml0
  have hown : s.vm.findClass "com/example/dense_trie/densetrie/Heads" = some m.cls := findClass_of_methodNamed Bd.named
  have hnm := (name_of_methodNamed Bd.named Bd.method).1
  have X0 : Stand p l e ({ frames := 1, cells := 0, slots := 0, locals := 14 } : Room) s m #[(.ref a1), (.int (Int32.ofNat hd))] below meth c s₁ [] 0 0 := Stand.of_body Bd
  have eh0 : s₁.heap = h0 := by rw [← hh, Bd.state]; rfl
  have N0 := Fr.nil n0
  refine Gq.start (Q := Q_rank1 Z a1 hd rn n F h0 n0) (kc := ({ frames := 1, cells := 0, slots := 0, locals := 14 } : Room).cells) (ks := ({ frames := 1, cells := 0, slots := 0, locals := 14 } : Room).slots) (ef_rank1 m a1 (Int32.ofNat hd)) ?_
  refine Gq.go (s₁.setTop (mkF m 1 #[.val (.ref a1), .val (.int (Int32.ofNat hd)), .unset, .unset, .unset, .unset] [(.int (0 : Int32))])) (fun tt_ kk_ => XS.iconst X0.here hx rfl (hb hby d3_0) kk_) ?_
  refine Gq.go (s₁.setTop (mkF m 2 #[.val (.ref a1), .val (.int (Int32.ofNat hd)), .val (.int (0 : Int32)), .unset, .unset, .unset] [])) (fun tt_ kk_ => XS.istoreN X0.here hx rfl (hb hby d3_1) rfl (l' := #[.val (.ref a1), .val (.int (Int32.ofNat hd)), .val (.int (0 : Int32)), .unset, .unset, .unset]) rfl kk_) ?_
  refine Gq.go (s₁.setTop (mkF m 3 #[.val (.ref a1), .val (.int (Int32.ofNat hd)), .val (.int (0 : Int32)), .unset, .unset, .unset] [(.int (Int32.ofNat hd))])) (fun tt_ kk_ => XS.iloadN X0.here hx rfl (hb hby d3_2) rfl kk_) ?_
  refine Gq.go (s₁.setTop (mkF m 5 #[.val (.ref a1), .val (.int (Int32.ofNat hd)), .val (.int (0 : Int32)), .unset, .unset, .unset] [(.int (44 : Int32)), (.int (Int32.ofNat hd))])) (fun tt_ kk_ => XS.bipush X0.here hx rfl (hb hby d3_3) kk_) ?_
  refine Gq.go (s₁.setTop (mkF m 6 #[.val (.ref a1), .val (.int (Int32.ofNat hd)), .val (.int (0 : Int32)), .unset, .unset, .unset] [(.int ((Int32.ofNat hd) * (44 : Int32)))])) (fun tt_ kk_ => XS.imul X0.here hx rfl (hb hby d3_5) rfl kk_) ?_
  rw [show ((Int32.ofNat hd) * (44 : Int32)) = (Int32.ofNat (hd * 44)) from own_mul hd 44]
  refine Gq.go (s₁.setTop (mkF m 7 #[.val (.ref a1), .val (.int (Int32.ofNat hd)), .val (.int (0 : Int32)), .unset, .unset, .unset] [(.int (1 : Int32)), (.int (Int32.ofNat (hd * 44)))])) (fun tt_ kk_ => XS.iconst X0.here hx rfl (hb hby d3_6) kk_) ?_
  refine Gq.go (s₁.setTop (mkF m 8 #[.val (.ref a1), .val (.int (Int32.ofNat hd)), .val (.int (0 : Int32)), .unset, .unset, .unset] [(.int ((Int32.ofNat (hd * 44)) + (1 : Int32)))])) (fun tt_ kk_ => XS.iadd X0.here hx rfl (hb hby d3_7) rfl kk_) ?_
  rw [show ((Int32.ofNat (hd * 44)) + (1 : Int32)) = (Int32.ofNat (hd * 44 + 1 + 0)) from own_add (hd * 44) 1]
  refine Gq.go (s₁.setTop (mkF m 9 #[.val (.ref a1), .val (.int (Int32.ofNat hd)), .val (.int (0 : Int32)), .val (.int (Int32.ofNat (hd * 44 + 1 + 0))), .unset, .unset] [])) (fun tt_ kk_ => XS.istoreN X0.here hx rfl (hb hby d3_8) rfl (l' := #[.val (.ref a1), .val (.int (Int32.ofNat hd)), .val (.int (0 : Int32)), .val (.int (Int32.ofNat (hd * 44 + 1 + 0))), .unset, .unset]) rfl kk_) ?_
  have loop : ∀ k j : Nat, j + k = 43 → ∀ (Bq : Nat), Bq ≤ 127 * j → ∀ (s4 s5 : Slot), oJ s4 s5 → ∀ (Tq : State) (Lq : List Loc) (hq : Heap) (Fq : Nat → Int64), Stand p l e ({ frames := 1, cells := 0, slots := 0, locals := 14 } : Room) s m #[(.ref a1), (.int (Int32.ofNat hd))] below meth c Tq Lq 0 0 → Tq.heap = hq → Fr n0 Lq → n0 ≤ hq.size → Exa Z hq a1 "com/example/dense_trie/densetrie/Heads" → Fld Z hq a1 "com/example/dense_trie/densetrie/Heads" "runs" "[J" (.ref rn) → LA Z hq rn .long n (fun i => .long (Fq i)) → Keep h0 hq [rn] → (∀ i, (i < hd * 44 ∨ hd * 44 + 44 ≤ i) → Fq i = F i) → (∀ i, hd * 44 + 1 + j ≤ i → Fq i = F i) → (∀ x, x < j → (∀ b, b < 48 → obit (Fq (hd * 44 + 1 + x)) b = obit (F (hd * 44 + 1 + x)) b) ∧ (Fq (hd * 44 + 1 + x)).toBitVec.toNat / 2 ^ 48 ≤ 5461) → Gq p.tables e below s (Q_rank1 Z a1 hd rn n F h0 n0) ({ frames := 1, cells := 0, slots := 0, locals := 14 } : Room).cells ({ frames := 1, cells := 0, slots := 0, locals := 14 } : Room).slots (Tq.setTop (mkF m 9 #[.val (.ref a1), .val (.int (Int32.ofNat hd)), .val (.int (Int32.ofNat Bq)), .val (.int (Int32.ofNat (hd * 44 + 1 + j))), s4, s5] [])) := by
    intro k
    induction k with
    | zero =>
      intro j hjk Bq hBq s4 s5 hs45 Tq Lq hq Fq Xq ehq Nq zq Eq_ Frq Vq Kq i1 i2 i3
      refine Gq.go (Tq.setTop (mkF m 10 #[.val (.ref a1), .val (.int (Int32.ofNat hd)), .val (.int (Int32.ofNat Bq)), .val (.int (Int32.ofNat (hd * 44 + 1 + j))), s4, s5] [(.int (Int32.ofNat (hd * 44 + 1 + j)))])) (fun tt_ kk_ => XS.iloadN Xq.here hx rfl (hb hby d3_9) rfl kk_) ?_
      refine Gq.go (Tq.setTop (mkF m 11 #[.val (.ref a1), .val (.int (Int32.ofNat hd)), .val (.int (Int32.ofNat Bq)), .val (.int (Int32.ofNat (hd * 44 + 1 + j))), s4, s5] [(.int (Int32.ofNat hd)), (.int (Int32.ofNat (hd * 44 + 1 + j)))])) (fun tt_ kk_ => XS.iloadN Xq.here hx rfl (hb hby d3_10) rfl kk_) ?_
      refine Gq.go (Tq.setTop (mkF m 12 #[.val (.ref a1), .val (.int (Int32.ofNat hd)), .val (.int (Int32.ofNat Bq)), .val (.int (Int32.ofNat (hd * 44 + 1 + j))), s4, s5] [(.int (1 : Int32)), (.int (Int32.ofNat hd)), (.int (Int32.ofNat (hd * 44 + 1 + j)))])) (fun tt_ kk_ => XS.iconst Xq.here hx rfl (hb hby d3_11) kk_) ?_
      refine Gq.go (Tq.setTop (mkF m 13 #[.val (.ref a1), .val (.int (Int32.ofNat hd)), .val (.int (Int32.ofNat Bq)), .val (.int (Int32.ofNat (hd * 44 + 1 + j))), s4, s5] [(.int ((Int32.ofNat hd) + (1 : Int32))), (.int (Int32.ofNat (hd * 44 + 1 + j)))])) (fun tt_ kk_ => XS.iadd Xq.here hx rfl (hb hby d3_12) rfl kk_) ?_
      rw [show ((Int32.ofNat hd) + (1 : Int32)) = (Int32.ofNat (hd + 1)) from own_add hd 1]
      refine Gq.go (Tq.setTop (mkF m 15 #[.val (.ref a1), .val (.int (Int32.ofNat hd)), .val (.int (Int32.ofNat Bq)), .val (.int (Int32.ofNat (hd * 44 + 1 + j))), s4, s5] [(.int (44 : Int32)), (.int (Int32.ofNat (hd + 1))), (.int (Int32.ofNat (hd * 44 + 1 + j)))])) (fun tt_ kk_ => XS.bipush Xq.here hx rfl (hb hby d3_13) kk_) ?_
      refine Gq.go (Tq.setTop (mkF m 16 #[.val (.ref a1), .val (.int (Int32.ofNat hd)), .val (.int (Int32.ofNat Bq)), .val (.int (Int32.ofNat (hd * 44 + 1 + j))), s4, s5] [(.int ((Int32.ofNat (hd + 1)) * (44 : Int32))), (.int (Int32.ofNat (hd * 44 + 1 + j)))])) (fun tt_ kk_ => XS.imul Xq.here hx rfl (hb hby d3_15) rfl kk_) ?_
      rw [show ((Int32.ofNat (hd + 1)) * (44 : Int32)) = (Int32.ofNat ((hd + 1) * 44)) from own_mul (hd + 1) 44]
      refine Gq.go (Tq.setTop (mkF m 59 #[.val (.ref a1), .val (.int (Int32.ofNat hd)), .val (.int (Int32.ofNat Bq)), .val (.int (Int32.ofNat (hd * 44 + 1 + j))), s4, s5] [])) (fun tt_ kk_ => XS.icmpYes Xq.here hx rfl (pc0 := 16) (pc' := 59) rfl (hb hby d3_16) rfl (flt (fun q => absurd ((own_lt (by omega) (by omega)).mp q) (by omega))).2.1 (by decide) (by decide) kk_) ?_
      refine Gq.go (Tq.setTop (mkF m 60 #[.val (.ref a1), .val (.int (Int32.ofNat hd)), .val (.int (Int32.ofNat Bq)), .val (.int (Int32.ofNat (hd * 44 + 1 + j))), s4, s5] [(.ref a1)])) (fun tt_ kk_ => XS.aloadN Xq.here hx rfl (hb hby d3_59) rfl rfl kk_) ?_
      obtain ⟨T1, X1, eh1, st1⟩ := getF Xq hx hZ hown (host := "") (Or.inl (hw _ (List.mem_of_getElem? (i := 13) rfl))) Via.refl ehq Frq (g := (mkF m 60 #[.val (.ref a1), .val (.int (Int32.ofNat hd)), .val (.int (Int32.ofNat Bq)), .val (.int (Int32.ofNat (hd * 44 + 1 + j))), s4, s5] [(.ref a1)])) rfl rfl (hb hby d3_60)
      refine Gq.go (T1.setTop (mkF m 63 #[.val (.ref a1), .val (.int (Int32.ofNat hd)), .val (.int (Int32.ofNat Bq)), .val (.int (Int32.ofNat (hd * 44 + 1 + j))), s4, s5] [(.ref rn)])) (fun tt_ kk_ => st1 _ kk_) ?_
      refine Gq.go (T1.setTop (mkF m 64 #[.val (.ref a1), .val (.int (Int32.ofNat hd)), .val (.int (Int32.ofNat Bq)), .val (.int (Int32.ofNat (hd * 44 + 1 + j))), s4, s5] [(.int (Int32.ofNat hd)), (.ref rn)])) (fun tt_ kk_ => XS.iloadN X1.here hx rfl (hb hby d3_63) rfl kk_) ?_
      refine Gq.go (T1.setTop (mkF m 66 #[.val (.ref a1), .val (.int (Int32.ofNat hd)), .val (.int (Int32.ofNat Bq)), .val (.int (Int32.ofNat (hd * 44 + 1 + j))), s4, s5] [(.int (44 : Int32)), (.int (Int32.ofNat hd)), (.ref rn)])) (fun tt_ kk_ => XS.bipush X1.here hx rfl (hb hby d3_64) kk_) ?_
      refine Gq.go (T1.setTop (mkF m 67 #[.val (.ref a1), .val (.int (Int32.ofNat hd)), .val (.int (Int32.ofNat Bq)), .val (.int (Int32.ofNat (hd * 44 + 1 + j))), s4, s5] [(.int ((Int32.ofNat hd) * (44 : Int32))), (.ref rn)])) (fun tt_ kk_ => XS.imul X1.here hx rfl (hb hby d3_66) rfl kk_) ?_
      rw [show ((Int32.ofNat hd) * (44 : Int32)) = (Int32.ofNat (hd * 44)) from own_mul hd 44]
      refine Gq.go (T1.setTop (mkF m 68 #[.val (.ref a1), .val (.int (Int32.ofNat hd)), .val (.int (Int32.ofNat Bq)), .val (.int (Int32.ofNat (hd * 44 + 1 + j))), s4, s5] [(.int (Int32.ofNat Bq)), (.int (Int32.ofNat (hd * 44))), (.ref rn)])) (fun tt_ kk_ => XS.iloadN X1.here hx rfl (hb hby d3_67) rfl kk_) ?_
      refine Gq.go (T1.setTop (mkF m 69 #[.val (.ref a1), .val (.int (Int32.ofNat hd)), .val (.int (Int32.ofNat Bq)), .val (.int (Int32.ofNat (hd * 44 + 1 + j))), s4, s5] [(.long ((Int32.ofNat Bq).toInt64)), (.int (Int32.ofNat (hd * 44))), (.ref rn)])) (fun tt_ kk_ => XS.i2l X1.here hx rfl (hb hby d3_68) rfl kk_) ?_
      obtain ⟨T2, h2, X2, eh2, W2, st2⟩ := stoJ X1 hx hZ eh1 Vq (j := (Int32.ofNat (hd * 44))) (i := (hd * 44)) (x := ((Int32.ofNat Bq).toInt64)) (Ls := #[.val (.ref a1), .val (.int (Int32.ofNat hd)), .val (.int (Int32.ofNat Bq)), .val (.int (Int32.ofNat (hd * 44 + 1 + j))), s4, s5]) (rest := []) (own_nn (by omega)) (own_nc (by omega)) (by omega) (hb hby d3_69)
      have fa3 := Eq_.wr W2
      have fa4 := Frq.other W2 (Or.inl nra)
      have ta5 := Nat.lt_of_lt_of_le Vq.lt (Nat.le_of_eq W2.size.symm)
      have za6 : n0 ≤ h2.size := Nat.le_trans zq (Nat.le_of_eq W2.size.symm)
      have V2 : LA Z h2 rn .long n (fun i => .long ((updI Fq (hd * 44) ((Int32.ofNat Bq).toInt64)) i)) := (Vq.set W2).congr (fun i _ => upd_long _ _ _ i)
      have Ka7 := Kq.wr W2 (Or.inl (List.mem_of_getElem? (i := 0) rfl))
      have N2 := Fr.snoc X2 Nq gr
      refine Gq.go (T2.setTop (mkF m 70 #[.val (.ref a1), .val (.int (Int32.ofNat hd)), .val (.int (Int32.ofNat Bq)), .val (.int (Int32.ofNat (hd * 44 + 1 + j))), s4, s5] [])) (fun tt_ kk_ => st2 tt_ kk_) ?_
      refine Gq.retV X2 hx Bd.notSynchronized Bd.returns (hb hby d3_70) (by decide) (by decide) ?_
      show Q_rank1 Z a1 hd rn n F h0 n0 _ T2.heap _
      rw [eh2]
      exact ⟨rfl, N2, Ka7, _, V2, fun i hi => (updI_ne _ _ (by omega)).trans (i1 i hi), fun x hx => by rw [updI_ne _ _ (by omega)]; exact i3 x (by omega)⟩
    | succ k ih =>
      intro j hjk Bq hBq s4 s5 hs45 Tq Lq hq Fq Xq ehq Nq zq Eq_ Frq Vq Kq i1 i2 i3
      refine Gq.go (Tq.setTop (mkF m 10 #[.val (.ref a1), .val (.int (Int32.ofNat hd)), .val (.int (Int32.ofNat Bq)), .val (.int (Int32.ofNat (hd * 44 + 1 + j))), s4, s5] [(.int (Int32.ofNat (hd * 44 + 1 + j)))])) (fun tt_ kk_ => XS.iloadN Xq.here hx rfl (hb hby d3_9) rfl kk_) ?_
      refine Gq.go (Tq.setTop (mkF m 11 #[.val (.ref a1), .val (.int (Int32.ofNat hd)), .val (.int (Int32.ofNat Bq)), .val (.int (Int32.ofNat (hd * 44 + 1 + j))), s4, s5] [(.int (Int32.ofNat hd)), (.int (Int32.ofNat (hd * 44 + 1 + j)))])) (fun tt_ kk_ => XS.iloadN Xq.here hx rfl (hb hby d3_10) rfl kk_) ?_
      refine Gq.go (Tq.setTop (mkF m 12 #[.val (.ref a1), .val (.int (Int32.ofNat hd)), .val (.int (Int32.ofNat Bq)), .val (.int (Int32.ofNat (hd * 44 + 1 + j))), s4, s5] [(.int (1 : Int32)), (.int (Int32.ofNat hd)), (.int (Int32.ofNat (hd * 44 + 1 + j)))])) (fun tt_ kk_ => XS.iconst Xq.here hx rfl (hb hby d3_11) kk_) ?_
      refine Gq.go (Tq.setTop (mkF m 13 #[.val (.ref a1), .val (.int (Int32.ofNat hd)), .val (.int (Int32.ofNat Bq)), .val (.int (Int32.ofNat (hd * 44 + 1 + j))), s4, s5] [(.int ((Int32.ofNat hd) + (1 : Int32))), (.int (Int32.ofNat (hd * 44 + 1 + j)))])) (fun tt_ kk_ => XS.iadd Xq.here hx rfl (hb hby d3_12) rfl kk_) ?_
      rw [show ((Int32.ofNat hd) + (1 : Int32)) = (Int32.ofNat (hd + 1)) from own_add hd 1]
      refine Gq.go (Tq.setTop (mkF m 15 #[.val (.ref a1), .val (.int (Int32.ofNat hd)), .val (.int (Int32.ofNat Bq)), .val (.int (Int32.ofNat (hd * 44 + 1 + j))), s4, s5] [(.int (44 : Int32)), (.int (Int32.ofNat (hd + 1))), (.int (Int32.ofNat (hd * 44 + 1 + j)))])) (fun tt_ kk_ => XS.bipush Xq.here hx rfl (hb hby d3_13) kk_) ?_
      refine Gq.go (Tq.setTop (mkF m 16 #[.val (.ref a1), .val (.int (Int32.ofNat hd)), .val (.int (Int32.ofNat Bq)), .val (.int (Int32.ofNat (hd * 44 + 1 + j))), s4, s5] [(.int ((Int32.ofNat (hd + 1)) * (44 : Int32))), (.int (Int32.ofNat (hd * 44 + 1 + j)))])) (fun tt_ kk_ => XS.imul Xq.here hx rfl (hb hby d3_15) rfl kk_) ?_
      rw [show ((Int32.ofNat (hd + 1)) * (44 : Int32)) = (Int32.ofNat ((hd + 1) * 44)) from own_mul (hd + 1) 44]
      have hst : storeLocals #[.val (.ref a1), .val (.int (Int32.ofNat hd)), .val (.int (Int32.ofNat Bq)), .val (.int (Int32.ofNat (hd * 44 + 1 + j))), s4, s5] 4 (.long ((Fq (hd * 44 + 1 + j)) &&& (281474976710655 : Int64))) = some #[.val (.ref a1), .val (.int (Int32.ofNat hd)), .val (.int (Int32.ofNat Bq)), .val (.int (Int32.ofNat (hd * 44 + 1 + j))), .val (.long ((Fq (hd * 44 + 1 + j)) &&& (281474976710655 : Int64))), .second] := by rcases hs45 with ⟨rfl, rfl⟩ | ⟨y, rfl, rfl⟩ <;> rfl
      refine Gq.go (Tq.setTop (mkF m 19 #[.val (.ref a1), .val (.int (Int32.ofNat hd)), .val (.int (Int32.ofNat Bq)), .val (.int (Int32.ofNat (hd * 44 + 1 + j))), s4, s5] [])) (fun tt_ kk_ => XS.icmpNo Xq.here hx rfl (hb hby d3_16) rfl (tlt ((own_lt (by omega) (by omega)).mpr (by omega))).2.1 kk_) ?_
      refine Gq.go (Tq.setTop (mkF m 20 #[.val (.ref a1), .val (.int (Int32.ofNat hd)), .val (.int (Int32.ofNat Bq)), .val (.int (Int32.ofNat (hd * 44 + 1 + j))), s4, s5] [(.ref a1)])) (fun tt_ kk_ => XS.aloadN Xq.here hx rfl (hb hby d3_19) rfl rfl kk_) ?_
      obtain ⟨T8, X8, eh8, st8⟩ := getF Xq hx hZ hown (host := "") (Or.inl (hw _ (List.mem_of_getElem? (i := 13) rfl))) Via.refl ehq Frq (g := (mkF m 20 #[.val (.ref a1), .val (.int (Int32.ofNat hd)), .val (.int (Int32.ofNat Bq)), .val (.int (Int32.ofNat (hd * 44 + 1 + j))), s4, s5] [(.ref a1)])) rfl rfl (hb hby d3_20)
      refine Gq.go (T8.setTop (mkF m 23 #[.val (.ref a1), .val (.int (Int32.ofNat hd)), .val (.int (Int32.ofNat Bq)), .val (.int (Int32.ofNat (hd * 44 + 1 + j))), s4, s5] [(.ref rn)])) (fun tt_ kk_ => st8 _ kk_) ?_
      refine Gq.go (T8.setTop (mkF m 24 #[.val (.ref a1), .val (.int (Int32.ofNat hd)), .val (.int (Int32.ofNat Bq)), .val (.int (Int32.ofNat (hd * 44 + 1 + j))), s4, s5] [(.int (Int32.ofNat (hd * 44 + 1 + j))), (.ref rn)])) (fun tt_ kk_ => XS.iloadN X8.here hx rfl (hb hby d3_23) rfl kk_) ?_
      refine Gq.go (T8.setTop (mkF m 25 #[.val (.ref a1), .val (.int (Int32.ofNat hd)), .val (.int (Int32.ofNat Bq)), .val (.int (Int32.ofNat (hd * 44 + 1 + j))), s4, s5] [(.long (Fq (hd * 44 + 1 + j)))])) (fun tt_ kk_ => ldJ X8 hx hZ eh8 Vq (j := (Int32.ofNat (hd * 44 + 1 + j))) (i := (hd * 44 + 1 + j)) (x := (Fq (hd * 44 + 1 + j))) (own_nn (by omega)) (own_nc (by omega)) (by omega) rfl (hb hby d3_24) tt_ kk_) ?_
      refine Gq.go (T8.setTop (mkF m 28 #[.val (.ref a1), .val (.int (Int32.ofNat hd)), .val (.int (Int32.ofNat Bq)), .val (.int (Int32.ofNat (hd * 44 + 1 + j))), s4, s5] [(.long (281474976710655 : Int64)), (.long (Fq (hd * 44 + 1 + j)))])) (fun tt_ kk_ => X8.ldc2Long hx hown (mvT hZ (hw _ (List.mem_of_getElem? (i := 15) rfl))) (g := (mkF m 25 #[.val (.ref a1), .val (.int (Int32.ofNat hd)), .val (.int (Int32.ofNat Bq)), .val (.int (Int32.ofNat (hd * 44 + 1 + j))), s4, s5] [(.long (Fq (hd * 44 + 1 + j)))])) rfl (hb hby d3_25) _ kk_) ?_
      refine Gq.go (T8.setTop (mkF m 29 #[.val (.ref a1), .val (.int (Int32.ofNat hd)), .val (.int (Int32.ofNat Bq)), .val (.int (Int32.ofNat (hd * 44 + 1 + j))), s4, s5] [(.long ((Fq (hd * 44 + 1 + j)) &&& (281474976710655 : Int64)))])) (fun tt_ kk_ => XS.land X8.here hx rfl (hb hby d3_28) rfl kk_) ?_
      refine Gq.go (T8.setTop (mkF m 31 #[.val (.ref a1), .val (.int (Int32.ofNat hd)), .val (.int (Int32.ofNat Bq)), .val (.int (Int32.ofNat (hd * 44 + 1 + j))), .val (.long ((Fq (hd * 44 + 1 + j)) &&& (281474976710655 : Int64))), .second] [])) (fun tt_ kk_ => XS.lstore X8.here hx rfl (hb hby d3_29) rfl (l' := #[.val (.ref a1), .val (.int (Int32.ofNat hd)), .val (.int (Int32.ofNat Bq)), .val (.int (Int32.ofNat (hd * 44 + 1 + j))), .val (.long ((Fq (hd * 44 + 1 + j)) &&& (281474976710655 : Int64))), .second]) hst kk_) ?_
      refine Gq.go (T8.setTop (mkF m 32 #[.val (.ref a1), .val (.int (Int32.ofNat hd)), .val (.int (Int32.ofNat Bq)), .val (.int (Int32.ofNat (hd * 44 + 1 + j))), .val (.long ((Fq (hd * 44 + 1 + j)) &&& (281474976710655 : Int64))), .second] [(.ref a1)])) (fun tt_ kk_ => XS.aloadN X8.here hx rfl (hb hby d3_31) rfl rfl kk_) ?_
      obtain ⟨T9, X9, eh9, st9⟩ := getF X8 hx hZ hown (host := "") (Or.inl (hw _ (List.mem_of_getElem? (i := 13) rfl))) Via.refl eh8 Frq (g := (mkF m 32 #[.val (.ref a1), .val (.int (Int32.ofNat hd)), .val (.int (Int32.ofNat Bq)), .val (.int (Int32.ofNat (hd * 44 + 1 + j))), .val (.long ((Fq (hd * 44 + 1 + j)) &&& (281474976710655 : Int64))), .second] [(.ref a1)])) rfl rfl (hb hby d3_32)
      refine Gq.go (T9.setTop (mkF m 35 #[.val (.ref a1), .val (.int (Int32.ofNat hd)), .val (.int (Int32.ofNat Bq)), .val (.int (Int32.ofNat (hd * 44 + 1 + j))), .val (.long ((Fq (hd * 44 + 1 + j)) &&& (281474976710655 : Int64))), .second] [(.ref rn)])) (fun tt_ kk_ => st9 _ kk_) ?_
      refine Gq.go (T9.setTop (mkF m 36 #[.val (.ref a1), .val (.int (Int32.ofNat hd)), .val (.int (Int32.ofNat Bq)), .val (.int (Int32.ofNat (hd * 44 + 1 + j))), .val (.long ((Fq (hd * 44 + 1 + j)) &&& (281474976710655 : Int64))), .second] [(.int (Int32.ofNat (hd * 44 + 1 + j))), (.ref rn)])) (fun tt_ kk_ => XS.iloadN X9.here hx rfl (hb hby d3_35) rfl kk_) ?_
      refine Gq.go (T9.setTop (mkF m 38 #[.val (.ref a1), .val (.int (Int32.ofNat hd)), .val (.int (Int32.ofNat Bq)), .val (.int (Int32.ofNat (hd * 44 + 1 + j))), .val (.long ((Fq (hd * 44 + 1 + j)) &&& (281474976710655 : Int64))), .second] [(.long ((Fq (hd * 44 + 1 + j)) &&& (281474976710655 : Int64))), (.int (Int32.ofNat (hd * 44 + 1 + j))), (.ref rn)])) (fun tt_ kk_ => XS.lload X9.here hx rfl (hb hby d3_36) rfl kk_) ?_
      refine Gq.go (T9.setTop (mkF m 39 #[.val (.ref a1), .val (.int (Int32.ofNat hd)), .val (.int (Int32.ofNat Bq)), .val (.int (Int32.ofNat (hd * 44 + 1 + j))), .val (.long ((Fq (hd * 44 + 1 + j)) &&& (281474976710655 : Int64))), .second] [(.int (Int32.ofNat Bq)), (.long ((Fq (hd * 44 + 1 + j)) &&& (281474976710655 : Int64))), (.int (Int32.ofNat (hd * 44 + 1 + j))), (.ref rn)])) (fun tt_ kk_ => XS.iloadN X9.here hx rfl (hb hby d3_38) rfl kk_) ?_
      refine Gq.go (T9.setTop (mkF m 40 #[.val (.ref a1), .val (.int (Int32.ofNat hd)), .val (.int (Int32.ofNat Bq)), .val (.int (Int32.ofNat (hd * 44 + 1 + j))), .val (.long ((Fq (hd * 44 + 1 + j)) &&& (281474976710655 : Int64))), .second] [(.long ((Int32.ofNat Bq).toInt64)), (.long ((Fq (hd * 44 + 1 + j)) &&& (281474976710655 : Int64))), (.int (Int32.ofNat (hd * 44 + 1 + j))), (.ref rn)])) (fun tt_ kk_ => XS.i2l X9.here hx rfl (hb hby d3_39) rfl kk_) ?_
      refine Gq.go (T9.setTop (mkF m 42 #[.val (.ref a1), .val (.int (Int32.ofNat hd)), .val (.int (Int32.ofNat Bq)), .val (.int (Int32.ofNat (hd * 44 + 1 + j))), .val (.long ((Fq (hd * 44 + 1 + j)) &&& (281474976710655 : Int64))), .second] [(.int (48 : Int32)), (.long ((Int32.ofNat Bq).toInt64)), (.long ((Fq (hd * 44 + 1 + j)) &&& (281474976710655 : Int64))), (.int (Int32.ofNat (hd * 44 + 1 + j))), (.ref rn)])) (fun tt_ kk_ => XS.bipush X9.here hx rfl (hb hby d3_40) kk_) ?_
      refine Gq.go (T9.setTop (mkF m 43 #[.val (.ref a1), .val (.int (Int32.ofNat hd)), .val (.int (Int32.ofNat Bq)), .val (.int (Int32.ofNat (hd * 44 + 1 + j))), .val (.long ((Fq (hd * 44 + 1 + j)) &&& (281474976710655 : Int64))), .second] [(.long (((Int32.ofNat Bq).toInt64) <<< ((48 : Int32) &&& 0x3f).toInt64)), (.long ((Fq (hd * 44 + 1 + j)) &&& (281474976710655 : Int64))), (.int (Int32.ofNat (hd * 44 + 1 + j))), (.ref rn)])) (fun tt_ kk_ => XS.lshl X9.here hx rfl (hb hby d3_42) rfl kk_) ?_
      refine Gq.go (T9.setTop (mkF m 44 #[.val (.ref a1), .val (.int (Int32.ofNat hd)), .val (.int (Int32.ofNat Bq)), .val (.int (Int32.ofNat (hd * 44 + 1 + j))), .val (.long ((Fq (hd * 44 + 1 + j)) &&& (281474976710655 : Int64))), .second] [(.long (((Fq (hd * 44 + 1 + j)) &&& (281474976710655 : Int64)) ||| (((Int32.ofNat Bq).toInt64) <<< ((48 : Int32) &&& 0x3f).toInt64))), (.int (Int32.ofNat (hd * 44 + 1 + j))), (.ref rn)])) (fun tt_ kk_ => XS.lor X9.here hx rfl (hb hby d3_43) rfl kk_) ?_
      obtain ⟨T10, h10, X10, eh10, W10, st10⟩ := stoJ X9 hx hZ eh9 Vq (j := (Int32.ofNat (hd * 44 + 1 + j))) (i := (hd * 44 + 1 + j)) (x := (((Fq (hd * 44 + 1 + j)) &&& (281474976710655 : Int64)) ||| (((Int32.ofNat Bq).toInt64) <<< ((48 : Int32) &&& 0x3f).toInt64))) (Ls := #[.val (.ref a1), .val (.int (Int32.ofNat hd)), .val (.int (Int32.ofNat Bq)), .val (.int (Int32.ofNat (hd * 44 + 1 + j))), .val (.long ((Fq (hd * 44 + 1 + j)) &&& (281474976710655 : Int64))), .second]) (rest := []) (own_nn (by omega)) (own_nc (by omega)) (by omega) (hb hby d3_44)
      have fa11 := Eq_.wr W10
      have fa12 := Frq.other W10 (Or.inl nra)
      have ta13 := Nat.lt_of_lt_of_le Vq.lt (Nat.le_of_eq W10.size.symm)
      have za14 : n0 ≤ h10.size := Nat.le_trans zq (Nat.le_of_eq W10.size.symm)
      have V10 : LA Z h10 rn .long n (fun i => .long ((updI Fq (hd * 44 + 1 + j) (((Fq (hd * 44 + 1 + j)) &&& (281474976710655 : Int64)) ||| (((Int32.ofNat Bq).toInt64) <<< ((48 : Int32) &&& 0x3f).toInt64))) i)) := (Vq.set W10).congr (fun i _ => upd_long _ _ _ i)
      have Ka15 := Kq.wr W10 (Or.inl (List.mem_of_getElem? (i := 0) rfl))
      have N10 := Fr.snoc X10 Nq gr
      refine Gq.go (T10.setTop (mkF m 45 #[.val (.ref a1), .val (.int (Int32.ofNat hd)), .val (.int (Int32.ofNat Bq)), .val (.int (Int32.ofNat (hd * 44 + 1 + j))), .val (.long ((Fq (hd * 44 + 1 + j)) &&& (281474976710655 : Int64))), .second] [])) (fun tt_ kk_ => st10 tt_ kk_) ?_
      refine Gq.go (T10.setTop (mkF m 46 #[.val (.ref a1), .val (.int (Int32.ofNat hd)), .val (.int (Int32.ofNat Bq)), .val (.int (Int32.ofNat (hd * 44 + 1 + j))), .val (.long ((Fq (hd * 44 + 1 + j)) &&& (281474976710655 : Int64))), .second] [(.int (Int32.ofNat Bq))])) (fun tt_ kk_ => XS.iloadN X10.here hx rfl (hb hby d3_45) rfl kk_) ?_
      refine Gq.go (T10.setTop (mkF m 48 #[.val (.ref a1), .val (.int (Int32.ofNat hd)), .val (.int (Int32.ofNat Bq)), .val (.int (Int32.ofNat (hd * 44 + 1 + j))), .val (.long ((Fq (hd * 44 + 1 + j)) &&& (281474976710655 : Int64))), .second] [(.long ((Fq (hd * 44 + 1 + j)) &&& (281474976710655 : Int64))), (.int (Int32.ofNat Bq))])) (fun tt_ kk_ => XS.lload X10.here hx rfl (hb hby d3_46) rfl kk_) ?_
      obtain ⟨r16, T16, L16, X16, hQ16, st16⟩ := callT (pc := 48) (Ls := #[.val (.ref a1), .val (.int (Int32.ofNat hd)), .val (.int (Int32.ofNat Bq)), .val (.int (Int32.ofNat (hd * 44 + 1 + j))), .val (.long ((Fq (hd * 44 + 1 + j)) &&& (281474976710655 : Int64))), .second]) X10 hx hZ hown eh10 [(.long ((Fq (hd * 44 + 1 + j)) &&& (281474976710655 : Int64)))] [(.int (Int32.ofNat Bq))] (hw _ (List.mem_of_getElem? (i := 20) rfl)) (hw _ (List.mem_of_getElem? (i := 21) rfl)) (hw _ (List.mem_of_getElem? (i := 22) rfl)) (hw _ (List.mem_of_getElem? (i := 23) rfl)) (by decide) (rm4 l Z a0 hw [] ((Fq (hd * 44 + 1 + j)) &&& (281474976710655 : Int64)) h10 n0 za14) pd_2 rfl (by rw [hml]; rfl) (W := 1) (Nat.le_of_eq rfl) (by decide) (by decide) (by decide) (by decide) (hb hby d3_48)
      obtain ⟨⟨nb, rfl, hnb, hpos⟩, N16q, eh16⟩ := hQ16
      have N16 := Fr.app N10 N16q
      refine Gq.go (T16.setTop (mkF m 51 #[.val (.ref a1), .val (.int (Int32.ofNat hd)), .val (.int (Int32.ofNat Bq)), .val (.int (Int32.ofNat (hd * 44 + 1 + j))), .val (.long ((Fq (hd * 44 + 1 + j)) &&& (281474976710655 : Int64))), .second] [(.int (Int32.ofNat nb)), (.int (Int32.ofNat Bq))])) (fun tt_ kk_ => st16 tt_ kk_) ?_
      refine Gq.go (T16.setTop (mkF m 52 #[.val (.ref a1), .val (.int (Int32.ofNat hd)), .val (.int (Int32.ofNat Bq)), .val (.int (Int32.ofNat (hd * 44 + 1 + j))), .val (.long ((Fq (hd * 44 + 1 + j)) &&& (281474976710655 : Int64))), .second] [(.int ((Int32.ofNat Bq) + (Int32.ofNat nb)))])) (fun tt_ kk_ => XS.iadd X16.here hx rfl (hb hby d3_51) rfl kk_) ?_
      rw [show ((Int32.ofNat Bq) + (Int32.ofNat nb)) = (Int32.ofNat (Bq + nb)) from own_add _ _]
      refine Gq.go (T16.setTop (mkF m 53 #[.val (.ref a1), .val (.int (Int32.ofNat hd)), .val (.int (Int32.ofNat (Bq + nb))), .val (.int (Int32.ofNat (hd * 44 + 1 + j))), .val (.long ((Fq (hd * 44 + 1 + j)) &&& (281474976710655 : Int64))), .second] [])) (fun tt_ kk_ => XS.istoreN X16.here hx rfl (hb hby d3_52) rfl (l' := #[.val (.ref a1), .val (.int (Int32.ofNat hd)), .val (.int (Int32.ofNat (Bq + nb))), .val (.int (Int32.ofNat (hd * 44 + 1 + j))), .val (.long ((Fq (hd * 44 + 1 + j)) &&& (281474976710655 : Int64))), .second]) rfl kk_) ?_
      refine Gq.go (T16.setTop (mkF m 56 #[.val (.ref a1), .val (.int (Int32.ofNat hd)), .val (.int (Int32.ofNat (Bq + nb))), .val (.int ((Int32.ofNat (hd * 44 + 1 + j)) + (1 : Int32))), .val (.long ((Fq (hd * 44 + 1 + j)) &&& (281474976710655 : Int64))), .second] [])) (fun tt_ kk_ => XS.iinc X16.here hx rfl (hb hby d3_53) rfl (l' := #[.val (.ref a1), .val (.int (Int32.ofNat hd)), .val (.int (Int32.ofNat (Bq + nb))), .val (.int ((Int32.ofNat (hd * 44 + 1 + j)) + (1 : Int32))), .val (.long ((Fq (hd * 44 + 1 + j)) &&& (281474976710655 : Int64))), .second]) rfl kk_) ?_
      rw [show ((Int32.ofNat (hd * 44 + 1 + j)) + (1 : Int32)) = Int32.ofNat (hd * 44 + 1 + (j + 1)) from own_add (hd * 44 + 1 + j) 1]
      refine Gq.go (T16.setTop (mkF m 9 #[.val (.ref a1), .val (.int (Int32.ofNat hd)), .val (.int (Int32.ofNat (Bq + nb))), .val (.int (Int32.ofNat (hd * 44 + 1 + (j + 1)))), .val (.long ((Fq (hd * 44 + 1 + j)) &&& (281474976710655 : Int64))), .second] [])) (fun tt_ kk_ => XS.goto X16.here hx rfl (pc0 := 56) (pc' := 9) rfl (hb hby d3_56) (by decide) (by decide) kk_) ?_
      have hkW := own_rkW (Fq (hd * 44 + 1 + j)) (P := Bq) (by omega)
      rw [i2 _ (Nat.le_refl _)] at hkW
      exact ih (j + 1) (by omega) (Bq + nb) (by omega) _ _ (Or.inr ⟨_, rfl, rfl⟩) _ _ _ _ X16 eh16 N16 za14 fa11 fa12 V10 Ka15 (fun i hi => (updI_ne _ _ (by omega)).trans (i1 i hi)) (fun i hi => (updI_ne _ _ (by omega)).trans (i2 i (by omega))) (fun x hx => by
          by_cases q : x = j
          · subst q; rw [updI_at, i2 _ (Nat.le_refl _)]; exact hkW
          · rw [updI_ne _ _ (by omega)]; exact i3 x (by omega))
  exact loop 43 0 rfl 0 (Nat.le_refl _) _ _ (Or.inl ⟨rfl, rfl⟩) _ _ _ _ X0 eh0 N0 Z0 Ea Fr1 V1 (Keep.refl h0 [rn]) (fun _ _ => rfl) (fun _ _ => rfl) (fun x hx => absurd hx (Nat.not_lt_zero _))
theorem d1_0 : decode prog_29_method_2_code 0 = .ok (.aload_n 0, 1) := by decide +kernel
theorem d1_1 : decode prog_29_method_2_code 1 = .ok (.invokespecial 9, 3) := by decide +kernel
theorem d1_4 : decode prog_29_method_2_code 4 = .ok (.aload_n 0, 1) := by decide +kernel
theorem d1_5 : decode prog_29_method_2_code 5 = .ok (.iload_n 1, 1) := by decide +kernel
theorem d1_6 : decode prog_29_method_2_code 6 = .ok (.putfield 14, 3) := by decide +kernel
theorem d1_9 : decode prog_29_method_2_code 9 = .ok (.aload_n 0, 1) := by decide +kernel
theorem d1_10 : decode prog_29_method_2_code 10 = .ok (.iload_n 1, 1) := by decide +kernel
theorem d1_11 : decode prog_29_method_2_code 11 = .ok (.bipush 44, 2) := by decide +kernel
theorem d1_13 : decode prog_29_method_2_code 13 = .ok (.imul, 1) := by decide +kernel
theorem d1_14 : decode prog_29_method_2_code 14 = .ok (.newarray .long, 2) := by decide +kernel
theorem d1_16 : decode prog_29_method_2_code 16 = .ok (.putfield 18, 3) := by decide +kernel
theorem d1_19 : decode prog_29_method_2_code 19 = .ok (.iconst 0, 1) := by decide +kernel
theorem d1_20 : decode prog_29_method_2_code 20 = .ok (.istore 4, 2) := by decide +kernel
theorem d1_22 : decode prog_29_method_2_code 22 = .ok (.iload 4, 2) := by decide +kernel
theorem d1_24 : decode prog_29_method_2_code 24 = .ok (.iload_n 1, 1) := by decide +kernel
theorem d1_25 : decode prog_29_method_2_code 25 = .ok (.if_icmp .ge 137, 3) := by decide +kernel
theorem d1_28 : decode prog_29_method_2_code 28 = .ok (.iconst 0, 1) := by decide +kernel
theorem d1_29 : decode prog_29_method_2_code 29 = .ok (.istore 5, 2) := by decide +kernel
theorem d1_31 : decode prog_29_method_2_code 31 = .ok (.iload 5, 2) := by decide +kernel
theorem d1_33 : decode prog_29_method_2_code 33 = .ok (.bipush 43, 2) := by decide +kernel
theorem d1_35 : decode prog_29_method_2_code 35 = .ok (.if_icmp .ge 105, 3) := by decide +kernel
theorem d1_38 : decode prog_29_method_2_code 38 = .ok (.iload 5, 2) := by decide +kernel
theorem d1_40 : decode prog_29_method_2_code 40 = .ok (.bipush 48, 2) := by decide +kernel
theorem d1_42 : decode prog_29_method_2_code 42 = .ok (.imul, 1) := by decide +kernel
theorem d1_43 : decode prog_29_method_2_code 43 = .ok (.istore 6, 2) := by decide +kernel
theorem d1_45 : decode prog_29_method_2_code 45 = .ok (.iload 6, 2) := by decide +kernel
theorem d1_47 : decode prog_29_method_2_code 47 = .ok (.bipush 64, 2) := by decide +kernel
theorem d1_49 : decode prog_29_method_2_code 49 = .ok (.idiv, 1) := by decide +kernel
theorem d1_50 : decode prog_29_method_2_code 50 = .ok (.istore 7, 2) := by decide +kernel
theorem d1_52 : decode prog_29_method_2_code 52 = .ok (.iload 6, 2) := by decide +kernel
theorem d1_54 : decode prog_29_method_2_code 54 = .ok (.bipush 64, 2) := by decide +kernel
theorem d1_56 : decode prog_29_method_2_code 56 = .ok (.irem, 1) := by decide +kernel
theorem d1_57 : decode prog_29_method_2_code 57 = .ok (.istore 8, 2) := by decide +kernel
theorem d1_59 : decode prog_29_method_2_code 59 = .ok (.aload_n 2, 1) := by decide +kernel
theorem d1_60 : decode prog_29_method_2_code 60 = .ok (.iload 4, 2) := by decide +kernel
theorem d1_62 : decode prog_29_method_2_code 62 = .ok (.bipush 32, 2) := by decide +kernel
theorem d1_64 : decode prog_29_method_2_code 64 = .ok (.imul, 1) := by decide +kernel
theorem d1_65 : decode prog_29_method_2_code 65 = .ok (.iload 7, 2) := by decide +kernel
theorem d1_67 : decode prog_29_method_2_code 67 = .ok (.iadd, 1) := by decide +kernel
theorem d1_68 : decode prog_29_method_2_code 68 = .ok (.laload, 1) := by decide +kernel
theorem d1_69 : decode prog_29_method_2_code 69 = .ok (.iload 8, 2) := by decide +kernel
theorem d1_71 : decode prog_29_method_2_code 71 = .ok (.lushr, 1) := by decide +kernel
theorem d1_72 : decode prog_29_method_2_code 72 = .ok (.lstore 9, 2) := by decide +kernel
theorem d1_74 : decode prog_29_method_2_code 74 = .ok (.iload 8, 2) := by decide +kernel
theorem d1_76 : decode prog_29_method_2_code 76 = .ok (.bipush 16, 2) := by decide +kernel
theorem d1_78 : decode prog_29_method_2_code 78 = .ok (.if_icmp .le 35, 3) := by decide +kernel
theorem d1_81 : decode prog_29_method_2_code 81 = .ok (.iload 7, 2) := by decide +kernel
theorem d1_83 : decode prog_29_method_2_code 83 = .ok (.iconst 1, 1) := by decide +kernel
theorem d1_84 : decode prog_29_method_2_code 84 = .ok (.iadd, 1) := by decide +kernel
theorem d1_85 : decode prog_29_method_2_code 85 = .ok (.bipush 32, 2) := by decide +kernel
theorem d1_87 : decode prog_29_method_2_code 87 = .ok (.if_icmp .ge 26, 3) := by decide +kernel
theorem d1_90 : decode prog_29_method_2_code 90 = .ok (.lload 9, 2) := by decide +kernel
theorem d1_92 : decode prog_29_method_2_code 92 = .ok (.aload_n 2, 1) := by decide +kernel
theorem d1_93 : decode prog_29_method_2_code 93 = .ok (.iload 4, 2) := by decide +kernel
theorem d1_95 : decode prog_29_method_2_code 95 = .ok (.bipush 32, 2) := by decide +kernel
theorem d1_97 : decode prog_29_method_2_code 97 = .ok (.imul, 1) := by decide +kernel
theorem d1_98 : decode prog_29_method_2_code 98 = .ok (.iload 7, 2) := by decide +kernel
theorem d1_100 : decode prog_29_method_2_code 100 = .ok (.iadd, 1) := by decide +kernel
theorem d1_101 : decode prog_29_method_2_code 101 = .ok (.iconst 1, 1) := by decide +kernel
theorem d1_102 : decode prog_29_method_2_code 102 = .ok (.iadd, 1) := by decide +kernel
theorem d1_103 : decode prog_29_method_2_code 103 = .ok (.laload, 1) := by decide +kernel
theorem d1_104 : decode prog_29_method_2_code 104 = .ok (.bipush 64, 2) := by decide +kernel
theorem d1_106 : decode prog_29_method_2_code 106 = .ok (.iload 8, 2) := by decide +kernel
theorem d1_108 : decode prog_29_method_2_code 108 = .ok (.isub, 1) := by decide +kernel
theorem d1_109 : decode prog_29_method_2_code 109 = .ok (.lshl, 1) := by decide +kernel
theorem d1_110 : decode prog_29_method_2_code 110 = .ok (.lor, 1) := by decide +kernel
theorem d1_111 : decode prog_29_method_2_code 111 = .ok (.lstore 9, 2) := by decide +kernel
theorem d1_113 : decode prog_29_method_2_code 113 = .ok (.aload_n 0, 1) := by decide +kernel
theorem d1_114 : decode prog_29_method_2_code 114 = .ok (.getfield 18, 3) := by decide +kernel
theorem d1_117 : decode prog_29_method_2_code 117 = .ok (.iload 4, 2) := by decide +kernel
theorem d1_119 : decode prog_29_method_2_code 119 = .ok (.bipush 44, 2) := by decide +kernel
theorem d1_121 : decode prog_29_method_2_code 121 = .ok (.imul, 1) := by decide +kernel
theorem d1_122 : decode prog_29_method_2_code 122 = .ok (.iconst 1, 1) := by decide +kernel
theorem d1_123 : decode prog_29_method_2_code 123 = .ok (.iadd, 1) := by decide +kernel
theorem d1_124 : decode prog_29_method_2_code 124 = .ok (.iload 5, 2) := by decide +kernel
theorem d1_126 : decode prog_29_method_2_code 126 = .ok (.iadd, 1) := by decide +kernel
theorem d1_127 : decode prog_29_method_2_code 127 = .ok (.lload 9, 2) := by decide +kernel
theorem d1_129 : decode prog_29_method_2_code 129 = .ok (.ldc2_w 22, 3) := by decide +kernel
theorem d1_132 : decode prog_29_method_2_code 132 = .ok (.land, 1) := by decide +kernel
theorem d1_133 : decode prog_29_method_2_code 133 = .ok (.lastore, 1) := by decide +kernel
theorem d1_134 : decode prog_29_method_2_code 134 = .ok (.iinc 5 1, 3) := by decide +kernel
theorem d1_137 : decode prog_29_method_2_code 137 = .ok (.goto (-106), 3) := by decide +kernel
theorem d1_140 : decode prog_29_method_2_code 140 = .ok (.aload_n 0, 1) := by decide +kernel
theorem d1_141 : decode prog_29_method_2_code 141 = .ok (.iload 4, 2) := by decide +kernel
theorem d1_143 : decode prog_29_method_2_code 143 = .ok (.invokevirtual 24, 3) := by decide +kernel
theorem d1_146 : decode prog_29_method_2_code 146 = .ok (.aload_n 0, 1) := by decide +kernel
theorem d1_147 : decode prog_29_method_2_code 147 = .ok (.iload 4, 2) := by decide +kernel
theorem d1_149 : decode prog_29_method_2_code 149 = .ok (.aload_n 3, 1) := by decide +kernel
theorem d1_150 : decode prog_29_method_2_code 150 = .ok (.iload 4, 2) := by decide +kernel
theorem d1_152 : decode prog_29_method_2_code 152 = .ok (.iaload, 1) := by decide +kernel
theorem d1_153 : decode prog_29_method_2_code 153 = .ok (.invokevirtual 28, 3) := by decide +kernel
theorem d1_156 : decode prog_29_method_2_code 156 = .ok (.iinc 4 1, 3) := by decide +kernel
theorem d1_159 : decode prog_29_method_2_code 159 = .ok (.goto (-137), 3) := by decide +kernel
theorem d1_162 : decode prog_29_method_2_code 162 = .ok (.return_, 1) := by decide +kernel
theorem pd_3 : parseMethodDescriptor "(I)V" = some ⟨[.int], none⟩ := by decide +kernel
theorem pd_4 : parseMethodDescriptor "(II)V" = some ⟨[.int, .int], none⟩ := by decide +kernel
theorem ef1 (m : MethodId) (y0 : Addr) (y1 : Int32) (y2 : Addr) (y3 : Addr) : entryFrame m #[(.ref y0), (.int y1), (.ref y2), (.ref y3)] 11 = mkF m 0 #[.val (.ref y0), .val (.int y1), .val (.ref y2), .val (.ref y3), .unset, .unset, .unset, .unset, .unset, .unset, .unset] [] := by first | (simp [entryFrame, mkF, argsToLocals, Value.category]; done) | rfl
def Q1 (Z : State) (a1 : Addr) (cn : Nat) (a2 : Addr) (a3 : Addr) (IN : Nat → Int64) (BS : Nat → Int32) (h0 : Heap) (n0 : Nat) (v : Option Value) (h : Heap) (L : List Loc) : Prop := v = none ∧ Fr n0 L ∧ Keep h0 h [a1] ∧ ∃ (rn : Addr) (F : Nat → Int64), n0 ≤ rn ∧ h0.size ≤ rn ∧ a1 ≠ rn ∧ Fld Z h a1 "com/example/dense_trie/densetrie/Heads" "count" "I" (.int (Int32.ofNat cn)) ∧ Fld Z h a1 "com/example/dense_trie/densetrie/Heads" "runs" "[J" (.ref rn) ∧ LA Z h rn .long (cn * 44) (fun i => .long (F i)) ∧ (∀ g, g < cn → ∀ j, j < 43 → GoodW IN g j (F (g * 44 + 1 + j)))
set_option maxRecDepth 65536 in
set_option maxHeartbeats 40000000 in
theorem rm1 (l : Launch) (Z : State) (a0 : Array Value) (hw : ∀ d ∈ tables_1, d.before a0 Z = true) (ws : List Jvm.Cond) (a1 : Addr) (cn : Nat) (a2 : Addr) (a3 : Addr) (IN : Nat → Int64) (BS : Nat → Int32) (h0 : Heap) (n0 : Nat) (Z0 : n0 ≤ h0.size) (Ea : Exa Z h0 a1 "com/example/dense_trie/densetrie/Heads") (ga : n0 ≤ a1) (Fc0 : Fld Z h0 a1 "com/example/dense_trie/densetrie/Heads" "count" "I" (.int (0 : Int32))) (Fr0 : Fld Z h0 a1 "com/example/dense_trie/densetrie/Heads" "runs" "[J" .null) (V2 : LA Z h0 a2 .long 64 (fun i => .long (IN i))) (V3 : LA Z h0 a3 .int 2 (fun i => .int (BS i))) (n_a2 : a2 ≠ a1) (n_a3 : a3 ≠ a1) (hc1 : 1 ≤ cn) (hc2 : cn ≤ 2) :
    MetFree l (⟨"com/example/dense_trie/densetrie/Heads", "<init>", "(I[J[I)V"⟩ : MethodName) (head1 (Jvm.Cond.code (⟨"com/example/dense_trie/densetrie/Heads", "<init>", "(I[J[I)V"⟩ : MethodName) prog_29_method_2_code 11 none :: ws) ({ frames := 2, cells := 1, slots := 88, locals := 31 } : Room)) (fun a U => a = #[(.ref a1), (.int (Int32.ofNat cn)), (.ref a2), (.ref a3)] ∧ Z.Warmed39 U.vm ∧ U.heap = h0) (fun _ _ _ _ _ => True) (fun _ U o U' => ∃ v L, o = .returned v ∧ Q1 Z a1 cn a2 a3 IN BS h0 n0 v U'.heap L ∧ FrameEnd U o U' L ({ frames := 2, cells := 1, slots := 88, locals := 31 } : Room).cells ({ frames := 2, cells := 1, slots := 88, locals := 31 } : Room).slots) := by
  refine MetFree.of_bodySF (plainFor_of_name pn_com_example_dense_trie_densetrie_Heads) hisR ?_
  intro p e s m args below meth c s₁ Bd hml0 hP hK
  obtain ⟨rfl, hZ, hh⟩ := hP
  have hx := Bd.exec
  have hby := Bd.bytes
  have hml : c.maxLocals = 11 := hml0
  have hown : s.vm.findClass "com/example/dense_trie/densetrie/Heads" = some m.cls := findClass_of_methodNamed Bd.named
  have hnm := (name_of_methodNamed Bd.named Bd.method).1
  have X0 : Stand p l e ({ frames := 2, cells := 1, slots := 88, locals := 31 } : Room) s m #[(.ref a1), (.int (Int32.ofNat cn)), (.ref a2), (.ref a3)] below meth c s₁ [] 0 0 := Stand.of_body Bd
  have eh0 : s₁.heap = h0 := by rw [← hh, Bd.state]; rfl
  have N0 := Fr.nil n0
  refine Gq.start (Q := Q1 Z a1 cn a2 a3 IN BS h0 n0) (kc := ({ frames := 2, cells := 1, slots := 88, locals := 31 } : Room).cells) (ks := ({ frames := 2, cells := 1, slots := 88, locals := 31 } : Room).slots) (ef1 m a1 (Int32.ofNat cn) a2 a3) ?_
  refine Gq.go (s₁.setTop (mkF m 1 #[.val (.ref a1), .val (.int (Int32.ofNat cn)), .val (.ref a2), .val (.ref a3), .unset, .unset, .unset, .unset, .unset, .unset, .unset] [(.ref a1)])) (fun tt_ kk_ => XS.aloadN X0.here hx rfl (hb hby d1_0) rfl rfl kk_) ?_
  obtain ⟨T1, X1, eh1, st1⟩ := initO X0 hx hZ hown (hw _ (List.mem_of_getElem? (i := 8) rfl)) (hw _ (List.mem_of_getElem? (i := 9) rfl)) (hw _ (List.mem_of_getElem? (i := 10) rfl)) eh0 (g := (mkF m 1 #[.val (.ref a1), .val (.int (Int32.ofNat cn)), .val (.ref a2), .val (.ref a3), .unset, .unset, .unset, .unset, .unset, .unset, .unset] [(.ref a1)])) rfl (by rw [hml]; rfl) rfl (hb hby d1_1) (by decide) (W := 0) (by show 2 * 0 + _ ≤ _; exact Nat.le_of_eq rfl) (by decide)
  refine Gq.go (T1.setTop (mkF m 4 #[.val (.ref a1), .val (.int (Int32.ofNat cn)), .val (.ref a2), .val (.ref a3), .unset, .unset, .unset, .unset, .unset, .unset, .unset] [])) (fun tt_ kk_ => st1 _ kk_) ?_
  refine Gq.go (T1.setTop (mkF m 5 #[.val (.ref a1), .val (.int (Int32.ofNat cn)), .val (.ref a2), .val (.ref a3), .unset, .unset, .unset, .unset, .unset, .unset, .unset] [(.ref a1)])) (fun tt_ kk_ => XS.aloadN X1.here hx rfl (hb hby d1_4) rfl rfl kk_) ?_
  refine Gq.go (T1.setTop (mkF m 6 #[.val (.ref a1), .val (.int (Int32.ofNat cn)), .val (.ref a2), .val (.ref a3), .unset, .unset, .unset, .unset, .unset, .unset, .unset] [(.int (Int32.ofNat cn)), (.ref a1)])) (fun tt_ kk_ => XS.iloadN X1.here hx rfl (hb hby d1_5) rfl kk_) ?_
  obtain ⟨T2, h2, X2, eh2, W2, st2⟩ := putF X1 hx hZ hown (host := "") (Or.inl (hw _ (List.mem_of_getElem? (i := 11) rfl))) Via.refl eh1 Fc0 Ea (Or.inl (hw _ (List.mem_of_getElem? (i := 12) rfl))) (hw _ (List.mem_of_getElem? (i := 3) rfl)) (ty := .int) (by decide) rfl rfl (g := (mkF m 6 #[.val (.ref a1), .val (.int (Int32.ofNat cn)), .val (.ref a2), .val (.ref a3), .unset, .unset, .unset, .unset, .unset, .unset, .unset] [(.int (Int32.ofNat cn)), (.ref a1)])) rfl rfl (hb hby d1_6)
  have Fw2 := Fc0.same W2
  have fa3 := Ea.wr W2
  have fa4 := Fr0.other W2 (Or.inr (slot_ne (Or.inl (hw _ (List.mem_of_getElem? (i := 14) rfl))) (Or.inl (hw _ (List.mem_of_getElem? (i := 12) rfl))) (by decide) (t := (.array .long)) (t' := .int) (by decide) (by decide)))
  have fa5 := V2.other W2 n_a2
  have fa6 := V3.other W2 n_a3
  have ta7 := Nat.lt_of_lt_of_le Ea.lt (Nat.le_of_eq W2.size.symm)
  have ta8 := Nat.lt_of_lt_of_le V2.lt (Nat.le_of_eq W2.size.symm)
  have ta9 := Nat.lt_of_lt_of_le V3.lt (Nat.le_of_eq W2.size.symm)
  have za10 : n0 ≤ h2.size := Nat.le_trans Z0 (Nat.le_of_eq W2.size.symm)
  have Ka11 := (Keep.refl h0 [a1]).wr W2 (Or.inl (List.mem_of_getElem? (i := 0) rfl))
  have N2 := Fr.snoc X2 N0 ga
  refine Gq.go (T2.setTop (mkF m 9 #[.val (.ref a1), .val (.int (Int32.ofNat cn)), .val (.ref a2), .val (.ref a3), .unset, .unset, .unset, .unset, .unset, .unset, .unset] [])) (fun tt_ kk_ => st2 _ kk_) ?_
  refine Gq.go (T2.setTop (mkF m 10 #[.val (.ref a1), .val (.int (Int32.ofNat cn)), .val (.ref a2), .val (.ref a3), .unset, .unset, .unset, .unset, .unset, .unset, .unset] [(.ref a1)])) (fun tt_ kk_ => XS.aloadN X2.here hx rfl (hb hby d1_9) rfl rfl kk_) ?_
  refine Gq.go (T2.setTop (mkF m 11 #[.val (.ref a1), .val (.int (Int32.ofNat cn)), .val (.ref a2), .val (.ref a3), .unset, .unset, .unset, .unset, .unset, .unset, .unset] [(.int (Int32.ofNat cn)), (.ref a1)])) (fun tt_ kk_ => XS.iloadN X2.here hx rfl (hb hby d1_10) rfl kk_) ?_
  refine Gq.go (T2.setTop (mkF m 13 #[.val (.ref a1), .val (.int (Int32.ofNat cn)), .val (.ref a2), .val (.ref a3), .unset, .unset, .unset, .unset, .unset, .unset, .unset] [(.int (44 : Int32)), (.int (Int32.ofNat cn)), (.ref a1)])) (fun tt_ kk_ => XS.bipush X2.here hx rfl (hb hby d1_11) kk_) ?_
  refine Gq.go (T2.setTop (mkF m 14 #[.val (.ref a1), .val (.int (Int32.ofNat cn)), .val (.ref a2), .val (.ref a3), .unset, .unset, .unset, .unset, .unset, .unset, .unset] [(.int ((Int32.ofNat cn) * (44 : Int32))), (.ref a1)])) (fun tt_ kk_ => XS.imul X2.here hx rfl (hb hby d1_13) rfl kk_) ?_
  rw [show ((Int32.ofNat cn) * (44 : Int32)) = (Int32.ofNat (cn * 44)) from own_mul cn 44]
  obtain ⟨T12, h12, b12, X12, eh12, E12, aq12, V12, st12⟩ := mkC X2 hx hZ (hw _ (List.mem_of_getElem? (i := 0) rfl)) eh2 (z := (Int32.ofNat (cn * 44))) (n := (cn * 44)) (Ls := #[.val (.ref a1), .val (.int (Int32.ofNat cn)), .val (.ref a2), .val (.ref a3), .unset, .unset, .unset, .unset, .unset, .unset, .unset]) (rest := [(.ref a1)]) (own_nn (by omega)) (own_nc (by omega)) 88 (by omega) (by decide) (by decide) (by decide) (hb hby d1_14)
  have g_b12 : n0 ≤ b12 := Nat.le_trans za10 (Nat.le_of_eq aq12.symm)
  have sz_b12 : h0.size ≤ b12 := Nat.le_trans Ka11.1 (Nat.le_of_eq aq12.symm)
  have ne_a1_b12 : a1 ≠ b12 := Nat.ne_of_lt (Nat.lt_of_lt_of_le ta7 (Nat.le_of_eq aq12.symm))
  have ne_a2_b12 : a2 ≠ b12 := Nat.ne_of_lt (Nat.lt_of_lt_of_le ta8 (Nat.le_of_eq aq12.symm))
  have ne_a3_b12 : a3 ≠ b12 := Nat.ne_of_lt (Nat.lt_of_lt_of_le ta9 (Nat.le_of_eq aq12.symm))
  have fa13 := fa3.ext E12
  have fa14 := fa4.ext E12
  have fa15 := fa5.ext E12
  have fa16 := fa6.ext E12
  have fa17 := Fw2.ext E12
  have ta18 := Nat.lt_of_lt_of_le ta7 E12.1
  have ta19 := Nat.lt_of_lt_of_le ta8 E12.1
  have ta20 := Nat.lt_of_lt_of_le ta9 E12.1
  have za21 : n0 ≤ h12.size := Nat.le_trans za10 E12.1
  have Ka22 := Ka11.ext E12
  have V12' : LA Z h12 b12 .long (cn * 44) (fun i => .long ((fun _ : Nat => (0 : Int64)) i)) := V12
  have ta12' := V12'.lt
  refine Gq.go (T12.setTop (mkF m 16 #[.val (.ref a1), .val (.int (Int32.ofNat cn)), .val (.ref a2), .val (.ref a3), .unset, .unset, .unset, .unset, .unset, .unset, .unset] [(.ref b12), (.ref a1)])) (fun tt_ kk_ => st12 tt_ kk_) ?_
  obtain ⟨T23, h23, X23, eh23, W23, st23⟩ := putF X12 hx hZ hown (host := "") (Or.inl (hw _ (List.mem_of_getElem? (i := 13) rfl))) Via.refl eh12 fa14 fa13 (Or.inl (hw _ (List.mem_of_getElem? (i := 14) rfl))) (hw _ (List.mem_of_getElem? (i := 3) rfl)) (ty := (.array .long)) (by decide) rfl rfl (g := (mkF m 16 #[.val (.ref a1), .val (.int (Int32.ofNat cn)), .val (.ref a2), .val (.ref a3), .unset, .unset, .unset, .unset, .unset, .unset, .unset] [(.ref b12), (.ref a1)])) rfl rfl (hb hby d1_16)
  have Fw23 := fa14.same W23
  have fa24 := fa13.wr W23
  have fa25 := fa15.other W23 n_a2
  have fa26 := fa16.other W23 n_a3
  have fa27 := fa17.other W23 (Or.inr (slot_ne (Or.inl (hw _ (List.mem_of_getElem? (i := 12) rfl))) (Or.inl (hw _ (List.mem_of_getElem? (i := 14) rfl))) (by decide) (t := .int) (t' := (.array .long)) (by decide) (by decide)))
  have fa28 := V12'.other W23 (Ne.symm ne_a1_b12)
  have ta29 := Nat.lt_of_lt_of_le ta18 (Nat.le_of_eq W23.size.symm)
  have ta30 := Nat.lt_of_lt_of_le ta19 (Nat.le_of_eq W23.size.symm)
  have ta31 := Nat.lt_of_lt_of_le ta20 (Nat.le_of_eq W23.size.symm)
  have ta32 := Nat.lt_of_lt_of_le ta12' (Nat.le_of_eq W23.size.symm)
  have za33 : n0 ≤ h23.size := Nat.le_trans za21 (Nat.le_of_eq W23.size.symm)
  have Ka34 := Ka22.wr W23 (Or.inl (List.mem_of_getElem? (i := 0) rfl))
  have N23 := Fr.snoc X23 N2 ga
  refine Gq.go (T23.setTop (mkF m 19 #[.val (.ref a1), .val (.int (Int32.ofNat cn)), .val (.ref a2), .val (.ref a3), .unset, .unset, .unset, .unset, .unset, .unset, .unset] [])) (fun tt_ kk_ => st23 _ kk_) ?_
  refine Gq.go (T23.setTop (mkF m 20 #[.val (.ref a1), .val (.int (Int32.ofNat cn)), .val (.ref a2), .val (.ref a3), .unset, .unset, .unset, .unset, .unset, .unset, .unset] [(.int (0 : Int32))])) (fun tt_ kk_ => XS.iconst X23.here hx rfl (hb hby d1_19) kk_) ?_
  refine Gq.go (T23.setTop (mkF m 22 #[.val (.ref a1), .val (.int (Int32.ofNat cn)), .val (.ref a2), .val (.ref a3), .val (.int (0 : Int32)), .unset, .unset, .unset, .unset, .unset, .unset] [])) (fun tt_ kk_ => XS.istore X23.here hx rfl (hb hby d1_20) rfl (l' := #[.val (.ref a1), .val (.int (Int32.ofNat cn)), .val (.ref a2), .val (.ref a3), .val (.int (0 : Int32)), .unset, .unset, .unset, .unset, .unset, .unset]) rfl kk_) ?_
  have outer : ∀ k hd : Nat, hd + k = cn → ∀ (s5 s6 s7 s8 s9 s10 : Slot), oI s5 → oI s6 → oI s7 → oI s8 → oJ s9 s10 → ∀ (Tq : State) (Lq : List Loc) (hq : Heap) (Fq : Nat → Int64), Stand p l e ({ frames := 2, cells := 1, slots := 88, locals := 31 } : Room) s m #[(.ref a1), (.int (Int32.ofNat cn)), (.ref a2), (.ref a3)] below meth c Tq Lq 1 88 → Tq.heap = hq → Fr n0 Lq → n0 ≤ hq.size → Exa Z hq a1 "com/example/dense_trie/densetrie/Heads" → Fld Z hq a1 "com/example/dense_trie/densetrie/Heads" "count" "I" (.int (Int32.ofNat cn)) → Fld Z hq a1 "com/example/dense_trie/densetrie/Heads" "runs" "[J" (.ref b12) → LA Z hq b12 .long (cn * 44) (fun i => .long (Fq i)) → LA Z hq a2 .long 64 (fun i => .long (IN i)) → LA Z hq a3 .int 2 (fun i => .int (BS i)) → Keep h0 hq [a1] → (∀ g, g < hd → ∀ j, j < 43 → GoodW IN g j (Fq (g * 44 + 1 + j))) → Gq p.tables e below s (Q1 Z a1 cn a2 a3 IN BS h0 n0) ({ frames := 2, cells := 1, slots := 88, locals := 31 } : Room).cells ({ frames := 2, cells := 1, slots := 88, locals := 31 } : Room).slots (Tq.setTop (mkF m 22 #[.val (.ref a1), .val (.int (Int32.ofNat cn)), .val (.ref a2), .val (.ref a3), .val (.int (Int32.ofNat hd)), s5, s6, s7, s8, s9, s10] [])) := by
    intro k
    induction k with
    | zero =>
      intro hd hdk s5 s6 s7 s8 s9 s10 p5 p6 p7 p8 p9 Tq Lq hq Fq Xq ehq Nq zq Eq_ Fcq Frq Vq V2q V3q Kq good
      have hde : cn = hd := by omega
      refine Gq.go (Tq.setTop (mkF m 24 #[.val (.ref a1), .val (.int (Int32.ofNat cn)), .val (.ref a2), .val (.ref a3), .val (.int (Int32.ofNat hd)), s5, s6, s7, s8, s9, s10] [(.int (Int32.ofNat hd))])) (fun tt_ kk_ => XS.iload Xq.here hx rfl (hb hby d1_22) rfl kk_) ?_
      refine Gq.go (Tq.setTop (mkF m 25 #[.val (.ref a1), .val (.int (Int32.ofNat cn)), .val (.ref a2), .val (.ref a3), .val (.int (Int32.ofNat hd)), s5, s6, s7, s8, s9, s10] [(.int (Int32.ofNat cn)), (.int (Int32.ofNat hd))])) (fun tt_ kk_ => XS.iloadN Xq.here hx rfl (hb hby d1_24) rfl kk_) ?_
      refine Gq.go (Tq.setTop (mkF m 162 #[.val (.ref a1), .val (.int (Int32.ofNat cn)), .val (.ref a2), .val (.ref a3), .val (.int (Int32.ofNat hd)), s5, s6, s7, s8, s9, s10] [])) (fun tt_ kk_ => XS.icmpYes Xq.here hx rfl (pc0 := 25) (pc' := 162) rfl (hb hby d1_25) rfl (flt (fun q => absurd ((own_lt (by omega) (by omega)).mp q) (by omega))).2.1 (by decide) (by decide) kk_) ?_
      refine Gq.retV Xq hx Bd.notSynchronized Bd.returns (hb hby d1_162) (by decide) (by decide) ?_
      show Q1 Z a1 cn a2 a3 IN BS h0 n0 _ Tq.heap _
      rw [ehq]
      exact ⟨rfl, Nq, Kq, b12, Fq, g_b12, sz_b12, ne_a1_b12, Fcq, Frq, Vq, fun g hg => good g (by omega)⟩
    | succ k ih =>
      intro hd hdk s5 s6 s7 s8 s9 s10 p5 p6 p7 p8 p9 Tq Lq hq Fq Xq ehq Nq zq Eq_ Fcq Frq Vq V2q V3q Kq good
      have hst5 : storeLocals #[.val (.ref a1), .val (.int (Int32.ofNat cn)), .val (.ref a2), .val (.ref a3), .val (.int (Int32.ofNat hd)), s5, s6, s7, s8, s9, s10] 5 (.int (0 : Int32)) = some #[.val (.ref a1), .val (.int (Int32.ofNat cn)), .val (.ref a2), .val (.ref a3), .val (.int (Int32.ofNat hd)), .val (.int (0 : Int32)), s6, s7, s8, s9, s10] := by rcases p5 with rfl | ⟨y, rfl⟩ <;> rfl
      refine Gq.go (Tq.setTop (mkF m 24 #[.val (.ref a1), .val (.int (Int32.ofNat cn)), .val (.ref a2), .val (.ref a3), .val (.int (Int32.ofNat hd)), s5, s6, s7, s8, s9, s10] [(.int (Int32.ofNat hd))])) (fun tt_ kk_ => XS.iload Xq.here hx rfl (hb hby d1_22) rfl kk_) ?_
      refine Gq.go (Tq.setTop (mkF m 25 #[.val (.ref a1), .val (.int (Int32.ofNat cn)), .val (.ref a2), .val (.ref a3), .val (.int (Int32.ofNat hd)), s5, s6, s7, s8, s9, s10] [(.int (Int32.ofNat cn)), (.int (Int32.ofNat hd))])) (fun tt_ kk_ => XS.iloadN Xq.here hx rfl (hb hby d1_24) rfl kk_) ?_
      refine Gq.go (Tq.setTop (mkF m 28 #[.val (.ref a1), .val (.int (Int32.ofNat cn)), .val (.ref a2), .val (.ref a3), .val (.int (Int32.ofNat hd)), s5, s6, s7, s8, s9, s10] [])) (fun tt_ kk_ => XS.icmpNo Xq.here hx rfl (hb hby d1_25) rfl (tlt ((own_lt (by omega) (by omega)).mpr (by omega))).2.1 kk_) ?_
      refine Gq.go (Tq.setTop (mkF m 29 #[.val (.ref a1), .val (.int (Int32.ofNat cn)), .val (.ref a2), .val (.ref a3), .val (.int (Int32.ofNat hd)), s5, s6, s7, s8, s9, s10] [(.int (0 : Int32))])) (fun tt_ kk_ => XS.iconst Xq.here hx rfl (hb hby d1_28) kk_) ?_
      refine Gq.go (Tq.setTop (mkF m 31 #[.val (.ref a1), .val (.int (Int32.ofNat cn)), .val (.ref a2), .val (.ref a3), .val (.int (Int32.ofNat hd)), .val (.int (0 : Int32)), s6, s7, s8, s9, s10] [])) (fun tt_ kk_ => XS.istore Xq.here hx rfl (hb hby d1_29) rfl (l' := #[.val (.ref a1), .val (.int (Int32.ofNat cn)), .val (.ref a2), .val (.ref a3), .val (.int (Int32.ofNat hd)), .val (.int (0 : Int32)), s6, s7, s8, s9, s10]) hst5 kk_) ?_
      have inner : ∀ k2 s_ : Nat, s_ + k2 = 43 → ∀ (s6 s7 s8 s9 s10 : Slot), oI s6 → oI s7 → oI s8 → oJ s9 s10 → ∀ (Tq : State) (Lq : List Loc) (hq : Heap) (Fq : Nat → Int64), Stand p l e ({ frames := 2, cells := 1, slots := 88, locals := 31 } : Room) s m #[(.ref a1), (.int (Int32.ofNat cn)), (.ref a2), (.ref a3)] below meth c Tq Lq 1 88 → Tq.heap = hq → Fr n0 Lq → n0 ≤ hq.size → Exa Z hq a1 "com/example/dense_trie/densetrie/Heads" → Fld Z hq a1 "com/example/dense_trie/densetrie/Heads" "count" "I" (.int (Int32.ofNat cn)) → Fld Z hq a1 "com/example/dense_trie/densetrie/Heads" "runs" "[J" (.ref b12) → LA Z hq b12 .long (cn * 44) (fun i => .long (Fq i)) → LA Z hq a2 .long 64 (fun i => .long (IN i)) → LA Z hq a3 .int 2 (fun i => .int (BS i)) → Keep h0 hq [a1] → (∀ g, g < hd → ∀ j, j < 43 → GoodW IN g j (Fq (g * 44 + 1 + j))) → (∀ j, j < s_ → ∀ b, b < 48 → obit (Fq (hd * 44 + 1 + j)) b = oBITS IN hd (j * 48 + b)) → Gq p.tables e below s (Q1 Z a1 cn a2 a3 IN BS h0 n0) ({ frames := 2, cells := 1, slots := 88, locals := 31 } : Room).cells ({ frames := 2, cells := 1, slots := 88, locals := 31 } : Room).slots (Tq.setTop (mkF m 31 #[.val (.ref a1), .val (.int (Int32.ofNat cn)), .val (.ref a2), .val (.ref a3), .val (.int (Int32.ofNat hd)), .val (.int (Int32.ofNat s_)), s6, s7, s8, s9, s10] [])) := by
        intro k2
        induction k2 with
        | zero =>
          intro s_ hsk s6 s7 s8 s9 s10 p6 p7 p8 p9 Tq2 Lq2 hq2 Fq2 Xq2 ehq2 Nq2 zq2 Eq_2 Fcq2 Frq2 Vq2 V2q2 V3q2 Kq2 good2 part2
          refine Gq.go (Tq2.setTop (mkF m 33 #[.val (.ref a1), .val (.int (Int32.ofNat cn)), .val (.ref a2), .val (.ref a3), .val (.int (Int32.ofNat hd)), .val (.int (Int32.ofNat s_)), s6, s7, s8, s9, s10] [(.int (Int32.ofNat s_))])) (fun tt_ kk_ => XS.iload Xq2.here hx rfl (hb hby d1_31) rfl kk_) ?_
          refine Gq.go (Tq2.setTop (mkF m 35 #[.val (.ref a1), .val (.int (Int32.ofNat cn)), .val (.ref a2), .val (.ref a3), .val (.int (Int32.ofNat hd)), .val (.int (Int32.ofNat s_)), s6, s7, s8, s9, s10] [(.int (43 : Int32)), (.int (Int32.ofNat s_))])) (fun tt_ kk_ => XS.bipush Xq2.here hx rfl (hb hby d1_33) kk_) ?_
          refine Gq.go (Tq2.setTop (mkF m 140 #[.val (.ref a1), .val (.int (Int32.ofNat cn)), .val (.ref a2), .val (.ref a3), .val (.int (Int32.ofNat hd)), .val (.int (Int32.ofNat s_)), s6, s7, s8, s9, s10] [])) (fun tt_ kk_ => XS.icmpYes Xq2.here hx rfl (pc0 := 35) (pc' := 140) rfl (hb hby d1_35) rfl (flt (fun q => absurd ((own_lt (b := 43) (by omega) (by decide)).mp q) (by omega))).2.1 (by decide) (by decide) kk_) ?_
          refine Gq.go (Tq2.setTop (mkF m 141 #[.val (.ref a1), .val (.int (Int32.ofNat cn)), .val (.ref a2), .val (.ref a3), .val (.int (Int32.ofNat hd)), .val (.int (Int32.ofNat s_)), s6, s7, s8, s9, s10] [(.ref a1)])) (fun tt_ kk_ => XS.aloadN Xq2.here hx rfl (hb hby d1_140) rfl rfl kk_) ?_
          refine Gq.go (Tq2.setTop (mkF m 143 #[.val (.ref a1), .val (.int (Int32.ofNat cn)), .val (.ref a2), .val (.ref a3), .val (.int (Int32.ofNat hd)), .val (.int (Int32.ofNat s_)), s6, s7, s8, s9, s10] [(.int (Int32.ofNat hd)), (.ref a1)])) (fun tt_ kk_ => XS.iload Xq2.here hx rfl (hb hby d1_141) rfl kk_) ?_
          obtain ⟨r35, T35, L35, X35, hQ35, st35⟩ := callP2 (pc := 143) (Ls := #[.val (.ref a1), .val (.int (Int32.ofNat cn)), .val (.ref a2), .val (.ref a3), .val (.int (Int32.ofNat hd)), .val (.int (Int32.ofNat s_)), s6, s7, s8, s9, s10]) Xq2 hx hZ hown ehq2 a1 [(.int (Int32.ofNat hd))] [] Eq_2 (y2 := (⟨"com/example/dense_trie/densetrie/Heads", "setBase", "(II)V"⟩ : MethodName)) (y := (⟨"com/example/dense_trie/densetrie/Heads", "rank", "(I)V"⟩ : MethodName)) (hw _ (List.mem_of_getElem? (i := 30) rfl)) rfl (hw _ (List.mem_of_getElem? (i := 16) rfl)) (hw _ (List.mem_of_getElem? (i := 17) rfl)) (hw _ (List.mem_of_getElem? (i := 18) rfl)) (hw _ (List.mem_of_getElem? (i := 4) rfl)) (hw _ (List.mem_of_getElem? (i := 19) rfl)) (by decide) (rm_rank1 l Z a0 hw [] a1 hd b12 (cn * 44) Fq2 hq2 n0 zq2 Eq_2 Frq2 Vq2 (by omega) (by omega) g_b12 ne_a1_b12) pd_3 rfl (by rw [hml]; rfl) (W := 0) (Nat.le_of_eq rfl) (by decide) (by decide) (by decide) (by decide) (hb hby d1_143)
          obtain ⟨rfl, N35q, Kc35, F35, c35_0, ro35, ri35⟩ := hQ35
          have N35 := Fr.app Nq2 N35q
          have fa36 := Eq_2.keep Kc35
          have fa37 := Fcq2.keep Kc35 (ninS ne_a1_b12 nin0)
          have fa38 := Frq2.keep Kc35 (ninS ne_a1_b12 nin0)
          have fa40 := V2q2.keep Kc35 (ninS ne_a2_b12 nin0)
          have fa41 := V3q2.keep Kc35 (ninS ne_a3_b12 nin0)
          have ta42 := Nat.lt_of_lt_of_le Vq2.lt Kc35.1
          have ta43 := Nat.lt_of_lt_of_le Eq_2.lt Kc35.1
          have za44 : n0 ≤ T35.heap.size := Nat.le_trans zq2 Kc35.1
          have Ka45 := Kq2.trans Kc35 (allS (Or.inr sz_b12) all0)
          refine Gq.go (T35.setTop (mkF m 146 #[.val (.ref a1), .val (.int (Int32.ofNat cn)), .val (.ref a2), .val (.ref a3), .val (.int (Int32.ofNat hd)), .val (.int (Int32.ofNat s_)), s6, s7, s8, s9, s10] [])) (fun tt_ kk_ => st35 tt_ kk_) ?_
          refine Gq.go (T35.setTop (mkF m 147 #[.val (.ref a1), .val (.int (Int32.ofNat cn)), .val (.ref a2), .val (.ref a3), .val (.int (Int32.ofNat hd)), .val (.int (Int32.ofNat s_)), s6, s7, s8, s9, s10] [(.ref a1)])) (fun tt_ kk_ => XS.aloadN X35.here hx rfl (hb hby d1_146) rfl rfl kk_) ?_
          refine Gq.go (T35.setTop (mkF m 149 #[.val (.ref a1), .val (.int (Int32.ofNat cn)), .val (.ref a2), .val (.ref a3), .val (.int (Int32.ofNat hd)), .val (.int (Int32.ofNat s_)), s6, s7, s8, s9, s10] [(.int (Int32.ofNat hd)), (.ref a1)])) (fun tt_ kk_ => XS.iload X35.here hx rfl (hb hby d1_147) rfl kk_) ?_
          refine Gq.go (T35.setTop (mkF m 150 #[.val (.ref a1), .val (.int (Int32.ofNat cn)), .val (.ref a2), .val (.ref a3), .val (.int (Int32.ofNat hd)), .val (.int (Int32.ofNat s_)), s6, s7, s8, s9, s10] [(.ref a3), (.int (Int32.ofNat hd)), (.ref a1)])) (fun tt_ kk_ => XS.aloadN X35.here hx rfl (hb hby d1_149) rfl rfl kk_) ?_
          refine Gq.go (T35.setTop (mkF m 152 #[.val (.ref a1), .val (.int (Int32.ofNat cn)), .val (.ref a2), .val (.ref a3), .val (.int (Int32.ofNat hd)), .val (.int (Int32.ofNat s_)), s6, s7, s8, s9, s10] [(.int (Int32.ofNat hd)), (.ref a3), (.int (Int32.ofNat hd)), (.ref a1)])) (fun tt_ kk_ => XS.iload X35.here hx rfl (hb hby d1_150) rfl kk_) ?_
          refine Gq.go (T35.setTop (mkF m 153 #[.val (.ref a1), .val (.int (Int32.ofNat cn)), .val (.ref a2), .val (.ref a3), .val (.int (Int32.ofNat hd)), .val (.int (Int32.ofNat s_)), s6, s7, s8, s9, s10] [(.int (BS hd)), (.int (Int32.ofNat hd)), (.ref a1)])) (fun tt_ kk_ => ldI X35 hx hZ rfl fa41 (j := (Int32.ofNat hd)) (i := hd) (x := (BS hd)) (own_nn (by omega)) (own_nc (by omega)) (by omega) rfl (hb hby d1_152) tt_ kk_) ?_
          obtain ⟨r46, T46, L46, X46, hQ46, st46⟩ := callV (pc := 153) (Ls := #[.val (.ref a1), .val (.int (Int32.ofNat cn)), .val (.ref a2), .val (.ref a3), .val (.int (Int32.ofNat hd)), .val (.int (Int32.ofNat s_)), s6, s7, s8, s9, s10]) X35 hx hZ hown rfl a1 [(.int (Int32.ofNat hd)), (.int (BS hd))] [] fa36 (hw _ (List.mem_of_getElem? (i := 27) rfl)) (hw _ (List.mem_of_getElem? (i := 28) rfl)) (hw _ (List.mem_of_getElem? (i := 30) rfl)) (hw _ (List.mem_of_getElem? (i := 29) rfl)) (hw _ (List.mem_of_getElem? (i := 4) rfl)) (hw _ (List.mem_of_getElem? (i := 31) rfl)) (by decide) (rm5 l Z a0 hw [] (BS hd) a1 hd b12 (cn * 44) F35 T35.heap n0 za44 fa36 fa38 c35_0 (by omega) (by omega) g_b12 ne_a1_b12) pd_4 rfl (by rw [hml]; rfl) (W := 0) (Nat.le_of_eq rfl) (by decide) (by decide) (by decide) (by decide) (hb hby d1_153)
          obtain ⟨rfl, N46q, Kc46, F46, c46_0, so46⟩ := hQ46
          have N46 := Fr.app N35 N46q
          have fa47 := fa36.keep Kc46
          have fa48 := fa37.keep Kc46 (ninS ne_a1_b12 nin0)
          have fa49 := fa38.keep Kc46 (ninS ne_a1_b12 nin0)
          have fa50 := fa40.keep Kc46 (ninS ne_a2_b12 nin0)
          have fa51 := fa41.keep Kc46 (ninS ne_a3_b12 nin0)
          have ta53 := Nat.lt_of_lt_of_le ta42 Kc46.1
          have ta54 := Nat.lt_of_lt_of_le ta43 Kc46.1
          have za55 : n0 ≤ T46.heap.size := Nat.le_trans za44 Kc46.1
          have Ka56 := Ka45.trans Kc46 (allS (Or.inr sz_b12) all0)
          refine Gq.go (T46.setTop (mkF m 156 #[.val (.ref a1), .val (.int (Int32.ofNat cn)), .val (.ref a2), .val (.ref a3), .val (.int (Int32.ofNat hd)), .val (.int (Int32.ofNat s_)), s6, s7, s8, s9, s10] [])) (fun tt_ kk_ => st46 tt_ kk_) ?_
          refine Gq.go (T46.setTop (mkF m 159 #[.val (.ref a1), .val (.int (Int32.ofNat cn)), .val (.ref a2), .val (.ref a3), .val (.int ((Int32.ofNat hd) + (1 : Int32))), .val (.int (Int32.ofNat s_)), s6, s7, s8, s9, s10] [])) (fun tt_ kk_ => XS.iinc X46.here hx rfl (hb hby d1_156) rfl (l' := #[.val (.ref a1), .val (.int (Int32.ofNat cn)), .val (.ref a2), .val (.ref a3), .val (.int ((Int32.ofNat hd) + (1 : Int32))), .val (.int (Int32.ofNat s_)), s6, s7, s8, s9, s10]) rfl kk_) ?_
          rw [show ((Int32.ofNat hd) + (1 : Int32)) = Int32.ofNat (hd + 1) from own_add hd 1]
          refine Gq.go (T46.setTop (mkF m 22 #[.val (.ref a1), .val (.int (Int32.ofNat cn)), .val (.ref a2), .val (.ref a3), .val (.int (Int32.ofNat (hd + 1))), .val (.int (Int32.ofNat s_)), s6, s7, s8, s9, s10] [])) (fun tt_ kk_ => XS.goto X46.here hx rfl (pc0 := 159) (pc' := 22) rfl (hb hby d1_159) (by decide) (by decide) kk_) ?_
          exact ih (hd + 1) (by omega) _ _ _ _ _ _ (Or.inr ⟨_, rfl⟩) p6 p7 p8 p9 _ _ _ _ X46 rfl N46 za55 fa47 fa48 fa49 c46_0 fa50 fa51 Ka56 (fun g hg j hj => by
              rw [so46 _ (by omega)]
              by_cases q : g = hd
              · subst q; exact GoodW.of (part2 j (by omega)) (ri35 j hj).1 (ri35 j hj).2
              · rw [ro35 _ (by omega)]; exact good2 g (by omega) j hj)
        | succ k2 ih2 =>
          intro s_ hsk s6 s7 s8 s9 s10 p6 p7 p8 p9 Tq2 Lq2 hq2 Fq2 Xq2 ehq2 Nq2 zq2 Eq_2 Fcq2 Frq2 Vq2 V2q2 V3q2 Kq2 good2 part2
          refine Gq.go (Tq2.setTop (mkF m 33 #[.val (.ref a1), .val (.int (Int32.ofNat cn)), .val (.ref a2), .val (.ref a3), .val (.int (Int32.ofNat hd)), .val (.int (Int32.ofNat s_)), s6, s7, s8, s9, s10] [(.int (Int32.ofNat s_))])) (fun tt_ kk_ => XS.iload Xq2.here hx rfl (hb hby d1_31) rfl kk_) ?_
          refine Gq.go (Tq2.setTop (mkF m 35 #[.val (.ref a1), .val (.int (Int32.ofNat cn)), .val (.ref a2), .val (.ref a3), .val (.int (Int32.ofNat hd)), .val (.int (Int32.ofNat s_)), s6, s7, s8, s9, s10] [(.int (43 : Int32)), (.int (Int32.ofNat s_))])) (fun tt_ kk_ => XS.bipush Xq2.here hx rfl (hb hby d1_33) kk_) ?_
          refine Gq.go (Tq2.setTop (mkF m 38 #[.val (.ref a1), .val (.int (Int32.ofNat cn)), .val (.ref a2), .val (.ref a3), .val (.int (Int32.ofNat hd)), .val (.int (Int32.ofNat s_)), s6, s7, s8, s9, s10] [])) (fun tt_ kk_ => XS.icmpNo Xq2.here hx rfl (hb hby d1_35) rfl (tlt ((own_lt (b := 43) (by omega) (by decide)).mpr (by omega))).2.1 kk_) ?_
          refine Gq.go (Tq2.setTop (mkF m 40 #[.val (.ref a1), .val (.int (Int32.ofNat cn)), .val (.ref a2), .val (.ref a3), .val (.int (Int32.ofNat hd)), .val (.int (Int32.ofNat s_)), s6, s7, s8, s9, s10] [(.int (Int32.ofNat s_))])) (fun tt_ kk_ => XS.iload Xq2.here hx rfl (hb hby d1_38) rfl kk_) ?_
          refine Gq.go (Tq2.setTop (mkF m 42 #[.val (.ref a1), .val (.int (Int32.ofNat cn)), .val (.ref a2), .val (.ref a3), .val (.int (Int32.ofNat hd)), .val (.int (Int32.ofNat s_)), s6, s7, s8, s9, s10] [(.int (48 : Int32)), (.int (Int32.ofNat s_))])) (fun tt_ kk_ => XS.bipush Xq2.here hx rfl (hb hby d1_40) kk_) ?_
          refine Gq.go (Tq2.setTop (mkF m 43 #[.val (.ref a1), .val (.int (Int32.ofNat cn)), .val (.ref a2), .val (.ref a3), .val (.int (Int32.ofNat hd)), .val (.int (Int32.ofNat s_)), s6, s7, s8, s9, s10] [(.int ((Int32.ofNat s_) * (48 : Int32)))])) (fun tt_ kk_ => XS.imul Xq2.here hx rfl (hb hby d1_42) rfl kk_) ?_
          rw [show ((Int32.ofNat s_) * (48 : Int32)) = (Int32.ofNat (s_ * 48)) from own_mul s_ 48]
          have hst43 : storeLocals #[.val (.ref a1), .val (.int (Int32.ofNat cn)), .val (.ref a2), .val (.ref a3), .val (.int (Int32.ofNat hd)), .val (.int (Int32.ofNat s_)), s6, s7, s8, s9, s10] 6 (.int (Int32.ofNat (s_ * 48))) = some #[.val (.ref a1), .val (.int (Int32.ofNat cn)), .val (.ref a2), .val (.ref a3), .val (.int (Int32.ofNat hd)), .val (.int (Int32.ofNat s_)), .val (.int (Int32.ofNat (s_ * 48))), s7, s8, s9, s10] := by rcases p6 with rfl | ⟨y, rfl⟩ <;> rfl
          refine Gq.go (Tq2.setTop (mkF m 45 #[.val (.ref a1), .val (.int (Int32.ofNat cn)), .val (.ref a2), .val (.ref a3), .val (.int (Int32.ofNat hd)), .val (.int (Int32.ofNat s_)), .val (.int (Int32.ofNat (s_ * 48))), s7, s8, s9, s10] [])) (fun tt_ kk_ => XS.istore Xq2.here hx rfl (hb hby d1_43) rfl (l' := #[.val (.ref a1), .val (.int (Int32.ofNat cn)), .val (.ref a2), .val (.ref a3), .val (.int (Int32.ofNat hd)), .val (.int (Int32.ofNat s_)), .val (.int (Int32.ofNat (s_ * 48))), s7, s8, s9, s10]) hst43 kk_) ?_
          refine Gq.go (Tq2.setTop (mkF m 47 #[.val (.ref a1), .val (.int (Int32.ofNat cn)), .val (.ref a2), .val (.ref a3), .val (.int (Int32.ofNat hd)), .val (.int (Int32.ofNat s_)), .val (.int (Int32.ofNat (s_ * 48))), s7, s8, s9, s10] [(.int (Int32.ofNat (s_ * 48)))])) (fun tt_ kk_ => XS.iload Xq2.here hx rfl (hb hby d1_45) rfl kk_) ?_
          refine Gq.go (Tq2.setTop (mkF m 49 #[.val (.ref a1), .val (.int (Int32.ofNat cn)), .val (.ref a2), .val (.ref a3), .val (.int (Int32.ofNat hd)), .val (.int (Int32.ofNat s_)), .val (.int (Int32.ofNat (s_ * 48))), s7, s8, s9, s10] [(.int (64 : Int32)), (.int (Int32.ofNat (s_ * 48)))])) (fun tt_ kk_ => XS.bipush Xq2.here hx rfl (hb hby d1_47) kk_) ?_
          refine Gq.go (Tq2.setTop (mkF m 50 #[.val (.ref a1), .val (.int (Int32.ofNat cn)), .val (.ref a2), .val (.ref a3), .val (.int (Int32.ofNat hd)), .val (.int (Int32.ofNat s_)), .val (.int (Int32.ofNat (s_ * 48))), s7, s8, s9, s10] [(.int ((Int32.ofNat (s_ * 48)) / (64 : Int32)))])) (fun tt_ kk_ => XS.idiv Xq2.here hx rfl (hb hby d1_49) rfl (by decide) kk_) ?_
          rw [show ((Int32.ofNat (s_ * 48)) / (64 : Int32)) = (Int32.ofNat (s_ * 48 / 64)) from own_div (d := 64) (by omega) (by decide)]
          have hst50 : storeLocals #[.val (.ref a1), .val (.int (Int32.ofNat cn)), .val (.ref a2), .val (.ref a3), .val (.int (Int32.ofNat hd)), .val (.int (Int32.ofNat s_)), .val (.int (Int32.ofNat (s_ * 48))), s7, s8, s9, s10] 7 (.int (Int32.ofNat (s_ * 48 / 64))) = some #[.val (.ref a1), .val (.int (Int32.ofNat cn)), .val (.ref a2), .val (.ref a3), .val (.int (Int32.ofNat hd)), .val (.int (Int32.ofNat s_)), .val (.int (Int32.ofNat (s_ * 48))), .val (.int (Int32.ofNat (s_ * 48 / 64))), s8, s9, s10] := by rcases p7 with rfl | ⟨y, rfl⟩ <;> rfl
          refine Gq.go (Tq2.setTop (mkF m 52 #[.val (.ref a1), .val (.int (Int32.ofNat cn)), .val (.ref a2), .val (.ref a3), .val (.int (Int32.ofNat hd)), .val (.int (Int32.ofNat s_)), .val (.int (Int32.ofNat (s_ * 48))), .val (.int (Int32.ofNat (s_ * 48 / 64))), s8, s9, s10] [])) (fun tt_ kk_ => XS.istore Xq2.here hx rfl (hb hby d1_50) rfl (l' := #[.val (.ref a1), .val (.int (Int32.ofNat cn)), .val (.ref a2), .val (.ref a3), .val (.int (Int32.ofNat hd)), .val (.int (Int32.ofNat s_)), .val (.int (Int32.ofNat (s_ * 48))), .val (.int (Int32.ofNat (s_ * 48 / 64))), s8, s9, s10]) hst50 kk_) ?_
          refine Gq.go (Tq2.setTop (mkF m 54 #[.val (.ref a1), .val (.int (Int32.ofNat cn)), .val (.ref a2), .val (.ref a3), .val (.int (Int32.ofNat hd)), .val (.int (Int32.ofNat s_)), .val (.int (Int32.ofNat (s_ * 48))), .val (.int (Int32.ofNat (s_ * 48 / 64))), s8, s9, s10] [(.int (Int32.ofNat (s_ * 48)))])) (fun tt_ kk_ => XS.iload Xq2.here hx rfl (hb hby d1_52) rfl kk_) ?_
          refine Gq.go (Tq2.setTop (mkF m 56 #[.val (.ref a1), .val (.int (Int32.ofNat cn)), .val (.ref a2), .val (.ref a3), .val (.int (Int32.ofNat hd)), .val (.int (Int32.ofNat s_)), .val (.int (Int32.ofNat (s_ * 48))), .val (.int (Int32.ofNat (s_ * 48 / 64))), s8, s9, s10] [(.int (64 : Int32)), (.int (Int32.ofNat (s_ * 48)))])) (fun tt_ kk_ => XS.bipush Xq2.here hx rfl (hb hby d1_54) kk_) ?_
          refine Gq.go (Tq2.setTop (mkF m 57 #[.val (.ref a1), .val (.int (Int32.ofNat cn)), .val (.ref a2), .val (.ref a3), .val (.int (Int32.ofNat hd)), .val (.int (Int32.ofNat s_)), .val (.int (Int32.ofNat (s_ * 48))), .val (.int (Int32.ofNat (s_ * 48 / 64))), s8, s9, s10] [(.int ((Int32.ofNat (s_ * 48)) % (64 : Int32)))])) (fun tt_ kk_ => iremM Xq2 hx rfl (hb hby d1_56) rfl (by decide) kk_) ?_
          rw [show ((Int32.ofNat (s_ * 48)) % (64 : Int32)) = (Int32.ofNat (s_ * 48 % 64)) from own_rem (d := 64) (by omega) (by decide)]
          have hst57 : storeLocals #[.val (.ref a1), .val (.int (Int32.ofNat cn)), .val (.ref a2), .val (.ref a3), .val (.int (Int32.ofNat hd)), .val (.int (Int32.ofNat s_)), .val (.int (Int32.ofNat (s_ * 48))), .val (.int (Int32.ofNat (s_ * 48 / 64))), s8, s9, s10] 8 (.int (Int32.ofNat (s_ * 48 % 64))) = some #[.val (.ref a1), .val (.int (Int32.ofNat cn)), .val (.ref a2), .val (.ref a3), .val (.int (Int32.ofNat hd)), .val (.int (Int32.ofNat s_)), .val (.int (Int32.ofNat (s_ * 48))), .val (.int (Int32.ofNat (s_ * 48 / 64))), .val (.int (Int32.ofNat (s_ * 48 % 64))), s9, s10] := by rcases p8 with rfl | ⟨y, rfl⟩ <;> rfl
          refine Gq.go (Tq2.setTop (mkF m 59 #[.val (.ref a1), .val (.int (Int32.ofNat cn)), .val (.ref a2), .val (.ref a3), .val (.int (Int32.ofNat hd)), .val (.int (Int32.ofNat s_)), .val (.int (Int32.ofNat (s_ * 48))), .val (.int (Int32.ofNat (s_ * 48 / 64))), .val (.int (Int32.ofNat (s_ * 48 % 64))), s9, s10] [])) (fun tt_ kk_ => XS.istore Xq2.here hx rfl (hb hby d1_57) rfl (l' := #[.val (.ref a1), .val (.int (Int32.ofNat cn)), .val (.ref a2), .val (.ref a3), .val (.int (Int32.ofNat hd)), .val (.int (Int32.ofNat s_)), .val (.int (Int32.ofNat (s_ * 48))), .val (.int (Int32.ofNat (s_ * 48 / 64))), .val (.int (Int32.ofNat (s_ * 48 % 64))), s9, s10]) hst57 kk_) ?_
          refine Gq.go (Tq2.setTop (mkF m 60 #[.val (.ref a1), .val (.int (Int32.ofNat cn)), .val (.ref a2), .val (.ref a3), .val (.int (Int32.ofNat hd)), .val (.int (Int32.ofNat s_)), .val (.int (Int32.ofNat (s_ * 48))), .val (.int (Int32.ofNat (s_ * 48 / 64))), .val (.int (Int32.ofNat (s_ * 48 % 64))), s9, s10] [(.ref a2)])) (fun tt_ kk_ => XS.aloadN Xq2.here hx rfl (hb hby d1_59) rfl rfl kk_) ?_
          refine Gq.go (Tq2.setTop (mkF m 62 #[.val (.ref a1), .val (.int (Int32.ofNat cn)), .val (.ref a2), .val (.ref a3), .val (.int (Int32.ofNat hd)), .val (.int (Int32.ofNat s_)), .val (.int (Int32.ofNat (s_ * 48))), .val (.int (Int32.ofNat (s_ * 48 / 64))), .val (.int (Int32.ofNat (s_ * 48 % 64))), s9, s10] [(.int (Int32.ofNat hd)), (.ref a2)])) (fun tt_ kk_ => XS.iload Xq2.here hx rfl (hb hby d1_60) rfl kk_) ?_
          refine Gq.go (Tq2.setTop (mkF m 64 #[.val (.ref a1), .val (.int (Int32.ofNat cn)), .val (.ref a2), .val (.ref a3), .val (.int (Int32.ofNat hd)), .val (.int (Int32.ofNat s_)), .val (.int (Int32.ofNat (s_ * 48))), .val (.int (Int32.ofNat (s_ * 48 / 64))), .val (.int (Int32.ofNat (s_ * 48 % 64))), s9, s10] [(.int (32 : Int32)), (.int (Int32.ofNat hd)), (.ref a2)])) (fun tt_ kk_ => XS.bipush Xq2.here hx rfl (hb hby d1_62) kk_) ?_
          refine Gq.go (Tq2.setTop (mkF m 65 #[.val (.ref a1), .val (.int (Int32.ofNat cn)), .val (.ref a2), .val (.ref a3), .val (.int (Int32.ofNat hd)), .val (.int (Int32.ofNat s_)), .val (.int (Int32.ofNat (s_ * 48))), .val (.int (Int32.ofNat (s_ * 48 / 64))), .val (.int (Int32.ofNat (s_ * 48 % 64))), s9, s10] [(.int ((Int32.ofNat hd) * (32 : Int32))), (.ref a2)])) (fun tt_ kk_ => XS.imul Xq2.here hx rfl (hb hby d1_64) rfl kk_) ?_
          rw [show ((Int32.ofNat hd) * (32 : Int32)) = (Int32.ofNat (hd * 32)) from own_mul hd 32]
          refine Gq.go (Tq2.setTop (mkF m 67 #[.val (.ref a1), .val (.int (Int32.ofNat cn)), .val (.ref a2), .val (.ref a3), .val (.int (Int32.ofNat hd)), .val (.int (Int32.ofNat s_)), .val (.int (Int32.ofNat (s_ * 48))), .val (.int (Int32.ofNat (s_ * 48 / 64))), .val (.int (Int32.ofNat (s_ * 48 % 64))), s9, s10] [(.int (Int32.ofNat (s_ * 48 / 64))), (.int (Int32.ofNat (hd * 32))), (.ref a2)])) (fun tt_ kk_ => XS.iload Xq2.here hx rfl (hb hby d1_65) rfl kk_) ?_
          refine Gq.go (Tq2.setTop (mkF m 68 #[.val (.ref a1), .val (.int (Int32.ofNat cn)), .val (.ref a2), .val (.ref a3), .val (.int (Int32.ofNat hd)), .val (.int (Int32.ofNat s_)), .val (.int (Int32.ofNat (s_ * 48))), .val (.int (Int32.ofNat (s_ * 48 / 64))), .val (.int (Int32.ofNat (s_ * 48 % 64))), s9, s10] [(.int ((Int32.ofNat (hd * 32)) + (Int32.ofNat (s_ * 48 / 64)))), (.ref a2)])) (fun tt_ kk_ => XS.iadd Xq2.here hx rfl (hb hby d1_67) rfl kk_) ?_
          rw [show ((Int32.ofNat (hd * 32)) + (Int32.ofNat (s_ * 48 / 64))) = (Int32.ofNat (hd * 32 + s_ * 48 / 64)) from own_add _ _]
          refine Gq.go (Tq2.setTop (mkF m 69 #[.val (.ref a1), .val (.int (Int32.ofNat cn)), .val (.ref a2), .val (.ref a3), .val (.int (Int32.ofNat hd)), .val (.int (Int32.ofNat s_)), .val (.int (Int32.ofNat (s_ * 48))), .val (.int (Int32.ofNat (s_ * 48 / 64))), .val (.int (Int32.ofNat (s_ * 48 % 64))), s9, s10] [(.long (IN (hd * 32 + s_ * 48 / 64)))])) (fun tt_ kk_ => ldJ Xq2 hx hZ ehq2 V2q2 (j := (Int32.ofNat (hd * 32 + s_ * 48 / 64))) (i := (hd * 32 + s_ * 48 / 64)) (x := (IN (hd * 32 + s_ * 48 / 64))) (own_nn (by omega)) (own_nc (by omega)) (by omega) rfl (hb hby d1_68) tt_ kk_) ?_
          refine Gq.go (Tq2.setTop (mkF m 71 #[.val (.ref a1), .val (.int (Int32.ofNat cn)), .val (.ref a2), .val (.ref a3), .val (.int (Int32.ofNat hd)), .val (.int (Int32.ofNat s_)), .val (.int (Int32.ofNat (s_ * 48))), .val (.int (Int32.ofNat (s_ * 48 / 64))), .val (.int (Int32.ofNat (s_ * 48 % 64))), s9, s10] [(.int (Int32.ofNat (s_ * 48 % 64))), (.long (IN (hd * 32 + s_ * 48 / 64)))])) (fun tt_ kk_ => XS.iload Xq2.here hx rfl (hb hby d1_69) rfl kk_) ?_
          refine Gq.go (Tq2.setTop (mkF m 72 #[.val (.ref a1), .val (.int (Int32.ofNat cn)), .val (.ref a2), .val (.ref a3), .val (.int (Int32.ofNat hd)), .val (.int (Int32.ofNat s_)), .val (.int (Int32.ofNat (s_ * 48))), .val (.int (Int32.ofNat (s_ * 48 / 64))), .val (.int (Int32.ofNat (s_ * 48 % 64))), s9, s10] [(.long (((IN (hd * 32 + s_ * 48 / 64)).toUInt64 >>> ((Int32.ofNat (s_ * 48 % 64)) &&& 0x3f).toInt64.toUInt64).toInt64))])) (fun tt_ kk_ => XS.lushr Xq2.here hx rfl (hb hby d1_71) rfl kk_) ?_
          rw [show (((IN (hd * 32 + s_ * 48 / 64)).toUInt64 >>> ((Int32.ofNat (s_ * 48 % 64)) &&& 0x3f).toInt64.toUInt64).toInt64) = (own_cA IN hd s_) from rfl]
          have hst72 : storeLocals #[.val (.ref a1), .val (.int (Int32.ofNat cn)), .val (.ref a2), .val (.ref a3), .val (.int (Int32.ofNat hd)), .val (.int (Int32.ofNat s_)), .val (.int (Int32.ofNat (s_ * 48))), .val (.int (Int32.ofNat (s_ * 48 / 64))), .val (.int (Int32.ofNat (s_ * 48 % 64))), s9, s10] 9 (.long (own_cA IN hd s_)) = some #[.val (.ref a1), .val (.int (Int32.ofNat cn)), .val (.ref a2), .val (.ref a3), .val (.int (Int32.ofNat hd)), .val (.int (Int32.ofNat s_)), .val (.int (Int32.ofNat (s_ * 48))), .val (.int (Int32.ofNat (s_ * 48 / 64))), .val (.int (Int32.ofNat (s_ * 48 % 64))), .val (.long (own_cA IN hd s_)), .second] := by rcases p9 with ⟨rfl, rfl⟩ | ⟨y, rfl, rfl⟩ <;> rfl
          refine Gq.go (Tq2.setTop (mkF m 74 #[.val (.ref a1), .val (.int (Int32.ofNat cn)), .val (.ref a2), .val (.ref a3), .val (.int (Int32.ofNat hd)), .val (.int (Int32.ofNat s_)), .val (.int (Int32.ofNat (s_ * 48))), .val (.int (Int32.ofNat (s_ * 48 / 64))), .val (.int (Int32.ofNat (s_ * 48 % 64))), .val (.long (own_cA IN hd s_)), .second] [])) (fun tt_ kk_ => XS.lstore Xq2.here hx rfl (hb hby d1_72) rfl (l' := #[.val (.ref a1), .val (.int (Int32.ofNat cn)), .val (.ref a2), .val (.ref a3), .val (.int (Int32.ofNat hd)), .val (.int (Int32.ofNat s_)), .val (.int (Int32.ofNat (s_ * 48))), .val (.int (Int32.ofNat (s_ * 48 / 64))), .val (.int (Int32.ofNat (s_ * 48 % 64))), .val (.long (own_cA IN hd s_)), .second]) hst72 kk_) ?_
          suffices K113 : Gq p.tables e below s (Q1 Z a1 cn a2 a3 IN BS h0 n0) ({ frames := 2, cells := 1, slots := 88, locals := 31 } : Room).cells ({ frames := 2, cells := 1, slots := 88, locals := 31 } : Room).slots (Tq2.setTop (mkF m 113 #[.val (.ref a1), .val (.int (Int32.ofNat cn)), .val (.ref a2), .val (.ref a3), .val (.int (Int32.ofNat hd)), .val (.int (Int32.ofNat s_)), .val (.int (Int32.ofNat (s_ * 48))), .val (.int (Int32.ofNat (s_ * 48 / 64))), .val (.int (Int32.ofNat (s_ * 48 % 64))), .val (.long (own_cod IN hd s_)), .second] [])) by
            refine Gq.go (Tq2.setTop (mkF m 76 #[.val (.ref a1), .val (.int (Int32.ofNat cn)), .val (.ref a2), .val (.ref a3), .val (.int (Int32.ofNat hd)), .val (.int (Int32.ofNat s_)), .val (.int (Int32.ofNat (s_ * 48))), .val (.int (Int32.ofNat (s_ * 48 / 64))), .val (.int (Int32.ofNat (s_ * 48 % 64))), .val (.long (own_cA IN hd s_)), .second] [(.int (Int32.ofNat (s_ * 48 % 64)))])) (fun tt_ kk_ => XS.iload Xq2.here hx rfl (hb hby d1_74) rfl kk_) ?_
            refine Gq.go (Tq2.setTop (mkF m 78 #[.val (.ref a1), .val (.int (Int32.ofNat cn)), .val (.ref a2), .val (.ref a3), .val (.int (Int32.ofNat hd)), .val (.int (Int32.ofNat s_)), .val (.int (Int32.ofNat (s_ * 48))), .val (.int (Int32.ofNat (s_ * 48 / 64))), .val (.int (Int32.ofNat (s_ * 48 % 64))), .val (.long (own_cA IN hd s_)), .second] [(.int (16 : Int32)), (.int (Int32.ofNat (s_ * 48 % 64)))])) (fun tt_ kk_ => XS.bipush Xq2.here hx rfl (hb hby d1_76) kk_) ?_
            by_cases h16 : 16 < s_ * 48 % 64
            · refine Gq.go (Tq2.setTop (mkF m 81 #[.val (.ref a1), .val (.int (Int32.ofNat cn)), .val (.ref a2), .val (.ref a3), .val (.int (Int32.ofNat hd)), .val (.int (Int32.ofNat s_)), .val (.int (Int32.ofNat (s_ * 48))), .val (.int (Int32.ofNat (s_ * 48 / 64))), .val (.int (Int32.ofNat (s_ * 48 % 64))), .val (.long (own_cA IN hd s_)), .second] [])) (fun tt_ kk_ => XS.icmpNo Xq2.here hx rfl (hb hby d1_78) rfl (tlt ((own_lt (a := 16) (by decide) (by omega)).mpr h16)).2.2.2 kk_) ?_
              refine Gq.go (Tq2.setTop (mkF m 83 #[.val (.ref a1), .val (.int (Int32.ofNat cn)), .val (.ref a2), .val (.ref a3), .val (.int (Int32.ofNat hd)), .val (.int (Int32.ofNat s_)), .val (.int (Int32.ofNat (s_ * 48))), .val (.int (Int32.ofNat (s_ * 48 / 64))), .val (.int (Int32.ofNat (s_ * 48 % 64))), .val (.long (own_cA IN hd s_)), .second] [(.int (Int32.ofNat (s_ * 48 / 64)))])) (fun tt_ kk_ => XS.iload Xq2.here hx rfl (hb hby d1_81) rfl kk_) ?_
              refine Gq.go (Tq2.setTop (mkF m 84 #[.val (.ref a1), .val (.int (Int32.ofNat cn)), .val (.ref a2), .val (.ref a3), .val (.int (Int32.ofNat hd)), .val (.int (Int32.ofNat s_)), .val (.int (Int32.ofNat (s_ * 48))), .val (.int (Int32.ofNat (s_ * 48 / 64))), .val (.int (Int32.ofNat (s_ * 48 % 64))), .val (.long (own_cA IN hd s_)), .second] [(.int (1 : Int32)), (.int (Int32.ofNat (s_ * 48 / 64)))])) (fun tt_ kk_ => XS.iconst Xq2.here hx rfl (hb hby d1_83) kk_) ?_
              refine Gq.go (Tq2.setTop (mkF m 85 #[.val (.ref a1), .val (.int (Int32.ofNat cn)), .val (.ref a2), .val (.ref a3), .val (.int (Int32.ofNat hd)), .val (.int (Int32.ofNat s_)), .val (.int (Int32.ofNat (s_ * 48))), .val (.int (Int32.ofNat (s_ * 48 / 64))), .val (.int (Int32.ofNat (s_ * 48 % 64))), .val (.long (own_cA IN hd s_)), .second] [(.int ((Int32.ofNat (s_ * 48 / 64)) + (1 : Int32)))])) (fun tt_ kk_ => XS.iadd Xq2.here hx rfl (hb hby d1_84) rfl kk_) ?_
              rw [show ((Int32.ofNat (s_ * 48 / 64)) + (1 : Int32)) = (Int32.ofNat (s_ * 48 / 64 + 1)) from own_add _ 1]
              refine Gq.go (Tq2.setTop (mkF m 87 #[.val (.ref a1), .val (.int (Int32.ofNat cn)), .val (.ref a2), .val (.ref a3), .val (.int (Int32.ofNat hd)), .val (.int (Int32.ofNat s_)), .val (.int (Int32.ofNat (s_ * 48))), .val (.int (Int32.ofNat (s_ * 48 / 64))), .val (.int (Int32.ofNat (s_ * 48 % 64))), .val (.long (own_cA IN hd s_)), .second] [(.int (32 : Int32)), (.int (Int32.ofNat (s_ * 48 / 64 + 1)))])) (fun tt_ kk_ => XS.bipush Xq2.here hx rfl (hb hby d1_85) kk_) ?_
              by_cases hw : s_ * 48 / 64 + 1 < 32
              · refine Gq.go (Tq2.setTop (mkF m 90 #[.val (.ref a1), .val (.int (Int32.ofNat cn)), .val (.ref a2), .val (.ref a3), .val (.int (Int32.ofNat hd)), .val (.int (Int32.ofNat s_)), .val (.int (Int32.ofNat (s_ * 48))), .val (.int (Int32.ofNat (s_ * 48 / 64))), .val (.int (Int32.ofNat (s_ * 48 % 64))), .val (.long (own_cA IN hd s_)), .second] [])) (fun tt_ kk_ => XS.icmpNo Xq2.here hx rfl (hb hby d1_87) rfl (tlt ((own_lt (b := 32) (by omega) (by decide)).mpr hw)).2.1 kk_) ?_
                refine Gq.go (Tq2.setTop (mkF m 92 #[.val (.ref a1), .val (.int (Int32.ofNat cn)), .val (.ref a2), .val (.ref a3), .val (.int (Int32.ofNat hd)), .val (.int (Int32.ofNat s_)), .val (.int (Int32.ofNat (s_ * 48))), .val (.int (Int32.ofNat (s_ * 48 / 64))), .val (.int (Int32.ofNat (s_ * 48 % 64))), .val (.long (own_cA IN hd s_)), .second] [(.long (own_cA IN hd s_))])) (fun tt_ kk_ => XS.lload Xq2.here hx rfl (hb hby d1_90) rfl kk_) ?_
                refine Gq.go (Tq2.setTop (mkF m 93 #[.val (.ref a1), .val (.int (Int32.ofNat cn)), .val (.ref a2), .val (.ref a3), .val (.int (Int32.ofNat hd)), .val (.int (Int32.ofNat s_)), .val (.int (Int32.ofNat (s_ * 48))), .val (.int (Int32.ofNat (s_ * 48 / 64))), .val (.int (Int32.ofNat (s_ * 48 % 64))), .val (.long (own_cA IN hd s_)), .second] [(.ref a2), (.long (own_cA IN hd s_))])) (fun tt_ kk_ => XS.aloadN Xq2.here hx rfl (hb hby d1_92) rfl rfl kk_) ?_
                refine Gq.go (Tq2.setTop (mkF m 95 #[.val (.ref a1), .val (.int (Int32.ofNat cn)), .val (.ref a2), .val (.ref a3), .val (.int (Int32.ofNat hd)), .val (.int (Int32.ofNat s_)), .val (.int (Int32.ofNat (s_ * 48))), .val (.int (Int32.ofNat (s_ * 48 / 64))), .val (.int (Int32.ofNat (s_ * 48 % 64))), .val (.long (own_cA IN hd s_)), .second] [(.int (Int32.ofNat hd)), (.ref a2), (.long (own_cA IN hd s_))])) (fun tt_ kk_ => XS.iload Xq2.here hx rfl (hb hby d1_93) rfl kk_) ?_
                refine Gq.go (Tq2.setTop (mkF m 97 #[.val (.ref a1), .val (.int (Int32.ofNat cn)), .val (.ref a2), .val (.ref a3), .val (.int (Int32.ofNat hd)), .val (.int (Int32.ofNat s_)), .val (.int (Int32.ofNat (s_ * 48))), .val (.int (Int32.ofNat (s_ * 48 / 64))), .val (.int (Int32.ofNat (s_ * 48 % 64))), .val (.long (own_cA IN hd s_)), .second] [(.int (32 : Int32)), (.int (Int32.ofNat hd)), (.ref a2), (.long (own_cA IN hd s_))])) (fun tt_ kk_ => XS.bipush Xq2.here hx rfl (hb hby d1_95) kk_) ?_
                refine Gq.go (Tq2.setTop (mkF m 98 #[.val (.ref a1), .val (.int (Int32.ofNat cn)), .val (.ref a2), .val (.ref a3), .val (.int (Int32.ofNat hd)), .val (.int (Int32.ofNat s_)), .val (.int (Int32.ofNat (s_ * 48))), .val (.int (Int32.ofNat (s_ * 48 / 64))), .val (.int (Int32.ofNat (s_ * 48 % 64))), .val (.long (own_cA IN hd s_)), .second] [(.int ((Int32.ofNat hd) * (32 : Int32))), (.ref a2), (.long (own_cA IN hd s_))])) (fun tt_ kk_ => XS.imul Xq2.here hx rfl (hb hby d1_97) rfl kk_) ?_
                rw [show ((Int32.ofNat hd) * (32 : Int32)) = (Int32.ofNat (hd * 32)) from own_mul hd 32]
                refine Gq.go (Tq2.setTop (mkF m 100 #[.val (.ref a1), .val (.int (Int32.ofNat cn)), .val (.ref a2), .val (.ref a3), .val (.int (Int32.ofNat hd)), .val (.int (Int32.ofNat s_)), .val (.int (Int32.ofNat (s_ * 48))), .val (.int (Int32.ofNat (s_ * 48 / 64))), .val (.int (Int32.ofNat (s_ * 48 % 64))), .val (.long (own_cA IN hd s_)), .second] [(.int (Int32.ofNat (s_ * 48 / 64))), (.int (Int32.ofNat (hd * 32))), (.ref a2), (.long (own_cA IN hd s_))])) (fun tt_ kk_ => XS.iload Xq2.here hx rfl (hb hby d1_98) rfl kk_) ?_
                refine Gq.go (Tq2.setTop (mkF m 101 #[.val (.ref a1), .val (.int (Int32.ofNat cn)), .val (.ref a2), .val (.ref a3), .val (.int (Int32.ofNat hd)), .val (.int (Int32.ofNat s_)), .val (.int (Int32.ofNat (s_ * 48))), .val (.int (Int32.ofNat (s_ * 48 / 64))), .val (.int (Int32.ofNat (s_ * 48 % 64))), .val (.long (own_cA IN hd s_)), .second] [(.int ((Int32.ofNat (hd * 32)) + (Int32.ofNat (s_ * 48 / 64)))), (.ref a2), (.long (own_cA IN hd s_))])) (fun tt_ kk_ => XS.iadd Xq2.here hx rfl (hb hby d1_100) rfl kk_) ?_
                rw [show ((Int32.ofNat (hd * 32)) + (Int32.ofNat (s_ * 48 / 64))) = (Int32.ofNat (hd * 32 + s_ * 48 / 64)) from own_add _ _]
                refine Gq.go (Tq2.setTop (mkF m 102 #[.val (.ref a1), .val (.int (Int32.ofNat cn)), .val (.ref a2), .val (.ref a3), .val (.int (Int32.ofNat hd)), .val (.int (Int32.ofNat s_)), .val (.int (Int32.ofNat (s_ * 48))), .val (.int (Int32.ofNat (s_ * 48 / 64))), .val (.int (Int32.ofNat (s_ * 48 % 64))), .val (.long (own_cA IN hd s_)), .second] [(.int (1 : Int32)), (.int (Int32.ofNat (hd * 32 + s_ * 48 / 64))), (.ref a2), (.long (own_cA IN hd s_))])) (fun tt_ kk_ => XS.iconst Xq2.here hx rfl (hb hby d1_101) kk_) ?_
                refine Gq.go (Tq2.setTop (mkF m 103 #[.val (.ref a1), .val (.int (Int32.ofNat cn)), .val (.ref a2), .val (.ref a3), .val (.int (Int32.ofNat hd)), .val (.int (Int32.ofNat s_)), .val (.int (Int32.ofNat (s_ * 48))), .val (.int (Int32.ofNat (s_ * 48 / 64))), .val (.int (Int32.ofNat (s_ * 48 % 64))), .val (.long (own_cA IN hd s_)), .second] [(.int ((Int32.ofNat (hd * 32 + s_ * 48 / 64)) + (1 : Int32))), (.ref a2), (.long (own_cA IN hd s_))])) (fun tt_ kk_ => XS.iadd Xq2.here hx rfl (hb hby d1_102) rfl kk_) ?_
                rw [show ((Int32.ofNat (hd * 32 + s_ * 48 / 64)) + (1 : Int32)) = (Int32.ofNat (hd * 32 + s_ * 48 / 64 + 1)) from own_add _ 1]
                refine Gq.go (Tq2.setTop (mkF m 104 #[.val (.ref a1), .val (.int (Int32.ofNat cn)), .val (.ref a2), .val (.ref a3), .val (.int (Int32.ofNat hd)), .val (.int (Int32.ofNat s_)), .val (.int (Int32.ofNat (s_ * 48))), .val (.int (Int32.ofNat (s_ * 48 / 64))), .val (.int (Int32.ofNat (s_ * 48 % 64))), .val (.long (own_cA IN hd s_)), .second] [(.long (IN (hd * 32 + s_ * 48 / 64 + 1))), (.long (own_cA IN hd s_))])) (fun tt_ kk_ => ldJ Xq2 hx hZ ehq2 V2q2 (j := (Int32.ofNat (hd * 32 + s_ * 48 / 64 + 1))) (i := (hd * 32 + s_ * 48 / 64 + 1)) (x := (IN (hd * 32 + s_ * 48 / 64 + 1))) (own_nn (by omega)) (own_nc (by omega)) (by omega) rfl (hb hby d1_103) tt_ kk_) ?_
                refine Gq.go (Tq2.setTop (mkF m 106 #[.val (.ref a1), .val (.int (Int32.ofNat cn)), .val (.ref a2), .val (.ref a3), .val (.int (Int32.ofNat hd)), .val (.int (Int32.ofNat s_)), .val (.int (Int32.ofNat (s_ * 48))), .val (.int (Int32.ofNat (s_ * 48 / 64))), .val (.int (Int32.ofNat (s_ * 48 % 64))), .val (.long (own_cA IN hd s_)), .second] [(.int (64 : Int32)), (.long (IN (hd * 32 + s_ * 48 / 64 + 1))), (.long (own_cA IN hd s_))])) (fun tt_ kk_ => XS.bipush Xq2.here hx rfl (hb hby d1_104) kk_) ?_
                refine Gq.go (Tq2.setTop (mkF m 108 #[.val (.ref a1), .val (.int (Int32.ofNat cn)), .val (.ref a2), .val (.ref a3), .val (.int (Int32.ofNat hd)), .val (.int (Int32.ofNat s_)), .val (.int (Int32.ofNat (s_ * 48))), .val (.int (Int32.ofNat (s_ * 48 / 64))), .val (.int (Int32.ofNat (s_ * 48 % 64))), .val (.long (own_cA IN hd s_)), .second] [(.int (Int32.ofNat (s_ * 48 % 64))), (.int (64 : Int32)), (.long (IN (hd * 32 + s_ * 48 / 64 + 1))), (.long (own_cA IN hd s_))])) (fun tt_ kk_ => XS.iload Xq2.here hx rfl (hb hby d1_106) rfl kk_) ?_
                refine Gq.go (Tq2.setTop (mkF m 109 #[.val (.ref a1), .val (.int (Int32.ofNat cn)), .val (.ref a2), .val (.ref a3), .val (.int (Int32.ofNat hd)), .val (.int (Int32.ofNat s_)), .val (.int (Int32.ofNat (s_ * 48))), .val (.int (Int32.ofNat (s_ * 48 / 64))), .val (.int (Int32.ofNat (s_ * 48 % 64))), .val (.long (own_cA IN hd s_)), .second] [(.int ((64 : Int32) - (Int32.ofNat (s_ * 48 % 64)))), (.long (IN (hd * 32 + s_ * 48 / 64 + 1))), (.long (own_cA IN hd s_))])) (fun tt_ kk_ => XS.isub Xq2.here hx rfl (hb hby d1_108) rfl kk_) ?_
                rw [show ((64 : Int32) - (Int32.ofNat (s_ * 48 % 64))) = (Int32.ofNat (64 - s_ * 48 % 64)) from own_sub (a := 64) (by omega)]
                refine Gq.go (Tq2.setTop (mkF m 110 #[.val (.ref a1), .val (.int (Int32.ofNat cn)), .val (.ref a2), .val (.ref a3), .val (.int (Int32.ofNat hd)), .val (.int (Int32.ofNat s_)), .val (.int (Int32.ofNat (s_ * 48))), .val (.int (Int32.ofNat (s_ * 48 / 64))), .val (.int (Int32.ofNat (s_ * 48 % 64))), .val (.long (own_cA IN hd s_)), .second] [(.long ((IN (hd * 32 + s_ * 48 / 64 + 1)) <<< ((Int32.ofNat (64 - s_ * 48 % 64)) &&& 0x3f).toInt64)), (.long (own_cA IN hd s_))])) (fun tt_ kk_ => XS.lshl Xq2.here hx rfl (hb hby d1_109) rfl kk_) ?_
                refine Gq.go (Tq2.setTop (mkF m 111 #[.val (.ref a1), .val (.int (Int32.ofNat cn)), .val (.ref a2), .val (.ref a3), .val (.int (Int32.ofNat hd)), .val (.int (Int32.ofNat s_)), .val (.int (Int32.ofNat (s_ * 48))), .val (.int (Int32.ofNat (s_ * 48 / 64))), .val (.int (Int32.ofNat (s_ * 48 % 64))), .val (.long (own_cA IN hd s_)), .second] [(.long ((own_cA IN hd s_) ||| ((IN (hd * 32 + s_ * 48 / 64 + 1)) <<< ((Int32.ofNat (64 - s_ * 48 % 64)) &&& 0x3f).toInt64)))])) (fun tt_ kk_ => XS.lor Xq2.here hx rfl (hb hby d1_110) rfl kk_) ?_
                rw [show ((own_cA IN hd s_) ||| ((IN (hd * 32 + s_ * 48 / 64 + 1)) <<< ((Int32.ofNat (64 - s_ * 48 % 64)) &&& 0x3f).toInt64)) = (own_cod IN hd s_) from by unfold own_cod; rw [if_pos h16, if_pos hw]; rfl]
                refine Gq.go (Tq2.setTop (mkF m 113 #[.val (.ref a1), .val (.int (Int32.ofNat cn)), .val (.ref a2), .val (.ref a3), .val (.int (Int32.ofNat hd)), .val (.int (Int32.ofNat s_)), .val (.int (Int32.ofNat (s_ * 48))), .val (.int (Int32.ofNat (s_ * 48 / 64))), .val (.int (Int32.ofNat (s_ * 48 % 64))), .val (.long (own_cod IN hd s_)), .second] [])) (fun tt_ kk_ => XS.lstore Xq2.here hx rfl (hb hby d1_111) rfl (l' := #[.val (.ref a1), .val (.int (Int32.ofNat cn)), .val (.ref a2), .val (.ref a3), .val (.int (Int32.ofNat hd)), .val (.int (Int32.ofNat s_)), .val (.int (Int32.ofNat (s_ * 48))), .val (.int (Int32.ofNat (s_ * 48 / 64))), .val (.int (Int32.ofNat (s_ * 48 % 64))), .val (.long (own_cod IN hd s_)), .second]) rfl kk_) ?_
                exact K113
              · refine Gq.go (Tq2.setTop (mkF m 113 #[.val (.ref a1), .val (.int (Int32.ofNat cn)), .val (.ref a2), .val (.ref a3), .val (.int (Int32.ofNat hd)), .val (.int (Int32.ofNat s_)), .val (.int (Int32.ofNat (s_ * 48))), .val (.int (Int32.ofNat (s_ * 48 / 64))), .val (.int (Int32.ofNat (s_ * 48 % 64))), .val (.long (own_cA IN hd s_)), .second] [])) (fun tt_ kk_ => XS.icmpYes Xq2.here hx rfl (pc0 := 87) (pc' := 113) rfl (hb hby d1_87) rfl (flt (fun q => hw ((own_lt (b := 32) (by omega) (by decide)).mp q))).2.1 (by decide) (by decide) kk_) ?_
                rw [show own_cA IN hd s_ = own_cod IN hd s_ by unfold own_cod; rw [if_pos h16, if_neg hw]]
                exact K113
            · refine Gq.go (Tq2.setTop (mkF m 113 #[.val (.ref a1), .val (.int (Int32.ofNat cn)), .val (.ref a2), .val (.ref a3), .val (.int (Int32.ofNat hd)), .val (.int (Int32.ofNat s_)), .val (.int (Int32.ofNat (s_ * 48))), .val (.int (Int32.ofNat (s_ * 48 / 64))), .val (.int (Int32.ofNat (s_ * 48 % 64))), .val (.long (own_cA IN hd s_)), .second] [])) (fun tt_ kk_ => XS.icmpYes Xq2.here hx rfl (pc0 := 78) (pc' := 113) rfl (hb hby d1_78) rfl (flt (fun q => h16 ((own_lt (a := 16) (by decide) (by omega)).mp q))).2.2.2 (by decide) (by decide) kk_) ?_
              rw [show own_cA IN hd s_ = own_cod IN hd s_ by unfold own_cod; rw [if_neg h16]]
              exact K113
          refine Gq.go (Tq2.setTop (mkF m 114 #[.val (.ref a1), .val (.int (Int32.ofNat cn)), .val (.ref a2), .val (.ref a3), .val (.int (Int32.ofNat hd)), .val (.int (Int32.ofNat s_)), .val (.int (Int32.ofNat (s_ * 48))), .val (.int (Int32.ofNat (s_ * 48 / 64))), .val (.int (Int32.ofNat (s_ * 48 % 64))), .val (.long (own_cod IN hd s_)), .second] [(.ref a1)])) (fun tt_ kk_ => XS.aloadN Xq2.here hx rfl (hb hby d1_113) rfl rfl kk_) ?_
          obtain ⟨T57, X57, eh57, st57⟩ := getF Xq2 hx hZ hown (host := "") (Or.inl (hw _ (List.mem_of_getElem? (i := 13) rfl))) Via.refl ehq2 Frq2 (g := (mkF m 114 #[.val (.ref a1), .val (.int (Int32.ofNat cn)), .val (.ref a2), .val (.ref a3), .val (.int (Int32.ofNat hd)), .val (.int (Int32.ofNat s_)), .val (.int (Int32.ofNat (s_ * 48))), .val (.int (Int32.ofNat (s_ * 48 / 64))), .val (.int (Int32.ofNat (s_ * 48 % 64))), .val (.long (own_cod IN hd s_)), .second] [(.ref a1)])) rfl rfl (hb hby d1_114)
          refine Gq.go (T57.setTop (mkF m 117 #[.val (.ref a1), .val (.int (Int32.ofNat cn)), .val (.ref a2), .val (.ref a3), .val (.int (Int32.ofNat hd)), .val (.int (Int32.ofNat s_)), .val (.int (Int32.ofNat (s_ * 48))), .val (.int (Int32.ofNat (s_ * 48 / 64))), .val (.int (Int32.ofNat (s_ * 48 % 64))), .val (.long (own_cod IN hd s_)), .second] [(.ref b12)])) (fun tt_ kk_ => st57 _ kk_) ?_
          refine Gq.go (T57.setTop (mkF m 119 #[.val (.ref a1), .val (.int (Int32.ofNat cn)), .val (.ref a2), .val (.ref a3), .val (.int (Int32.ofNat hd)), .val (.int (Int32.ofNat s_)), .val (.int (Int32.ofNat (s_ * 48))), .val (.int (Int32.ofNat (s_ * 48 / 64))), .val (.int (Int32.ofNat (s_ * 48 % 64))), .val (.long (own_cod IN hd s_)), .second] [(.int (Int32.ofNat hd)), (.ref b12)])) (fun tt_ kk_ => XS.iload X57.here hx rfl (hb hby d1_117) rfl kk_) ?_
          refine Gq.go (T57.setTop (mkF m 121 #[.val (.ref a1), .val (.int (Int32.ofNat cn)), .val (.ref a2), .val (.ref a3), .val (.int (Int32.ofNat hd)), .val (.int (Int32.ofNat s_)), .val (.int (Int32.ofNat (s_ * 48))), .val (.int (Int32.ofNat (s_ * 48 / 64))), .val (.int (Int32.ofNat (s_ * 48 % 64))), .val (.long (own_cod IN hd s_)), .second] [(.int (44 : Int32)), (.int (Int32.ofNat hd)), (.ref b12)])) (fun tt_ kk_ => XS.bipush X57.here hx rfl (hb hby d1_119) kk_) ?_
          refine Gq.go (T57.setTop (mkF m 122 #[.val (.ref a1), .val (.int (Int32.ofNat cn)), .val (.ref a2), .val (.ref a3), .val (.int (Int32.ofNat hd)), .val (.int (Int32.ofNat s_)), .val (.int (Int32.ofNat (s_ * 48))), .val (.int (Int32.ofNat (s_ * 48 / 64))), .val (.int (Int32.ofNat (s_ * 48 % 64))), .val (.long (own_cod IN hd s_)), .second] [(.int ((Int32.ofNat hd) * (44 : Int32))), (.ref b12)])) (fun tt_ kk_ => XS.imul X57.here hx rfl (hb hby d1_121) rfl kk_) ?_
          rw [show ((Int32.ofNat hd) * (44 : Int32)) = (Int32.ofNat (hd * 44)) from own_mul hd 44]
          refine Gq.go (T57.setTop (mkF m 123 #[.val (.ref a1), .val (.int (Int32.ofNat cn)), .val (.ref a2), .val (.ref a3), .val (.int (Int32.ofNat hd)), .val (.int (Int32.ofNat s_)), .val (.int (Int32.ofNat (s_ * 48))), .val (.int (Int32.ofNat (s_ * 48 / 64))), .val (.int (Int32.ofNat (s_ * 48 % 64))), .val (.long (own_cod IN hd s_)), .second] [(.int (1 : Int32)), (.int (Int32.ofNat (hd * 44))), (.ref b12)])) (fun tt_ kk_ => XS.iconst X57.here hx rfl (hb hby d1_122) kk_) ?_
          refine Gq.go (T57.setTop (mkF m 124 #[.val (.ref a1), .val (.int (Int32.ofNat cn)), .val (.ref a2), .val (.ref a3), .val (.int (Int32.ofNat hd)), .val (.int (Int32.ofNat s_)), .val (.int (Int32.ofNat (s_ * 48))), .val (.int (Int32.ofNat (s_ * 48 / 64))), .val (.int (Int32.ofNat (s_ * 48 % 64))), .val (.long (own_cod IN hd s_)), .second] [(.int ((Int32.ofNat (hd * 44)) + (1 : Int32))), (.ref b12)])) (fun tt_ kk_ => XS.iadd X57.here hx rfl (hb hby d1_123) rfl kk_) ?_
          rw [show ((Int32.ofNat (hd * 44)) + (1 : Int32)) = (Int32.ofNat (hd * 44 + 1)) from own_add _ 1]
          refine Gq.go (T57.setTop (mkF m 126 #[.val (.ref a1), .val (.int (Int32.ofNat cn)), .val (.ref a2), .val (.ref a3), .val (.int (Int32.ofNat hd)), .val (.int (Int32.ofNat s_)), .val (.int (Int32.ofNat (s_ * 48))), .val (.int (Int32.ofNat (s_ * 48 / 64))), .val (.int (Int32.ofNat (s_ * 48 % 64))), .val (.long (own_cod IN hd s_)), .second] [(.int (Int32.ofNat s_)), (.int (Int32.ofNat (hd * 44 + 1))), (.ref b12)])) (fun tt_ kk_ => XS.iload X57.here hx rfl (hb hby d1_124) rfl kk_) ?_
          refine Gq.go (T57.setTop (mkF m 127 #[.val (.ref a1), .val (.int (Int32.ofNat cn)), .val (.ref a2), .val (.ref a3), .val (.int (Int32.ofNat hd)), .val (.int (Int32.ofNat s_)), .val (.int (Int32.ofNat (s_ * 48))), .val (.int (Int32.ofNat (s_ * 48 / 64))), .val (.int (Int32.ofNat (s_ * 48 % 64))), .val (.long (own_cod IN hd s_)), .second] [(.int ((Int32.ofNat (hd * 44 + 1)) + (Int32.ofNat s_))), (.ref b12)])) (fun tt_ kk_ => XS.iadd X57.here hx rfl (hb hby d1_126) rfl kk_) ?_
          rw [show ((Int32.ofNat (hd * 44 + 1)) + (Int32.ofNat s_)) = (Int32.ofNat (hd * 44 + 1 + s_)) from own_add _ _]
          refine Gq.go (T57.setTop (mkF m 129 #[.val (.ref a1), .val (.int (Int32.ofNat cn)), .val (.ref a2), .val (.ref a3), .val (.int (Int32.ofNat hd)), .val (.int (Int32.ofNat s_)), .val (.int (Int32.ofNat (s_ * 48))), .val (.int (Int32.ofNat (s_ * 48 / 64))), .val (.int (Int32.ofNat (s_ * 48 % 64))), .val (.long (own_cod IN hd s_)), .second] [(.long (own_cod IN hd s_)), (.int (Int32.ofNat (hd * 44 + 1 + s_))), (.ref b12)])) (fun tt_ kk_ => XS.lload X57.here hx rfl (hb hby d1_127) rfl kk_) ?_
          refine Gq.go (T57.setTop (mkF m 132 #[.val (.ref a1), .val (.int (Int32.ofNat cn)), .val (.ref a2), .val (.ref a3), .val (.int (Int32.ofNat hd)), .val (.int (Int32.ofNat s_)), .val (.int (Int32.ofNat (s_ * 48))), .val (.int (Int32.ofNat (s_ * 48 / 64))), .val (.int (Int32.ofNat (s_ * 48 % 64))), .val (.long (own_cod IN hd s_)), .second] [(.long (281474976710655 : Int64)), (.long (own_cod IN hd s_)), (.int (Int32.ofNat (hd * 44 + 1 + s_))), (.ref b12)])) (fun tt_ kk_ => X57.ldc2Long hx hown (mvT hZ (hw _ (List.mem_of_getElem? (i := 15) rfl))) (g := (mkF m 129 #[.val (.ref a1), .val (.int (Int32.ofNat cn)), .val (.ref a2), .val (.ref a3), .val (.int (Int32.ofNat hd)), .val (.int (Int32.ofNat s_)), .val (.int (Int32.ofNat (s_ * 48))), .val (.int (Int32.ofNat (s_ * 48 / 64))), .val (.int (Int32.ofNat (s_ * 48 % 64))), .val (.long (own_cod IN hd s_)), .second] [(.long (own_cod IN hd s_)), (.int (Int32.ofNat (hd * 44 + 1 + s_))), (.ref b12)])) rfl (hb hby d1_129) _ kk_) ?_
          refine Gq.go (T57.setTop (mkF m 133 #[.val (.ref a1), .val (.int (Int32.ofNat cn)), .val (.ref a2), .val (.ref a3), .val (.int (Int32.ofNat hd)), .val (.int (Int32.ofNat s_)), .val (.int (Int32.ofNat (s_ * 48))), .val (.int (Int32.ofNat (s_ * 48 / 64))), .val (.int (Int32.ofNat (s_ * 48 % 64))), .val (.long (own_cod IN hd s_)), .second] [(.long ((own_cod IN hd s_) &&& (281474976710655 : Int64))), (.int (Int32.ofNat (hd * 44 + 1 + s_))), (.ref b12)])) (fun tt_ kk_ => XS.land X57.here hx rfl (hb hby d1_132) rfl kk_) ?_
          obtain ⟨T58, h58, X58, eh58, W58, st58⟩ := stoJ X57 hx hZ eh57 Vq2 (j := (Int32.ofNat (hd * 44 + 1 + s_))) (i := (hd * 44 + 1 + s_)) (x := ((own_cod IN hd s_) &&& (281474976710655 : Int64))) (Ls := #[.val (.ref a1), .val (.int (Int32.ofNat cn)), .val (.ref a2), .val (.ref a3), .val (.int (Int32.ofNat hd)), .val (.int (Int32.ofNat s_)), .val (.int (Int32.ofNat (s_ * 48))), .val (.int (Int32.ofNat (s_ * 48 / 64))), .val (.int (Int32.ofNat (s_ * 48 % 64))), .val (.long (own_cod IN hd s_)), .second]) (rest := []) (own_nn (by omega)) (own_nc (by omega)) (by omega) (hb hby d1_133)
          have fa59 := Eq_2.wr W58
          have fa60 := Fcq2.other W58 (Or.inl ne_a1_b12)
          have fa61 := Frq2.other W58 (Or.inl ne_a1_b12)
          have fa62 := V2q2.other W58 ne_a2_b12
          have fa63 := V3q2.other W58 ne_a3_b12
          have ta64 := Nat.lt_of_lt_of_le Vq2.lt (Nat.le_of_eq W58.size.symm)
          have ta65 := Nat.lt_of_lt_of_le Eq_2.lt (Nat.le_of_eq W58.size.symm)
          have za66 : n0 ≤ h58.size := Nat.le_trans zq2 (Nat.le_of_eq W58.size.symm)
          have V58 : LA Z h58 b12 .long (cn * 44) (fun i => .long ((updI Fq2 (hd * 44 + 1 + s_) ((own_cod IN hd s_) &&& (281474976710655 : Int64))) i)) := (Vq2.set W58).congr (fun i _ => upd_long _ _ _ i)
          have Ka67 := Kq2.wr W58 (Or.inr sz_b12)
          have N58 := Fr.snoc X58 Nq2 g_b12
          refine Gq.go (T58.setTop (mkF m 134 #[.val (.ref a1), .val (.int (Int32.ofNat cn)), .val (.ref a2), .val (.ref a3), .val (.int (Int32.ofNat hd)), .val (.int (Int32.ofNat s_)), .val (.int (Int32.ofNat (s_ * 48))), .val (.int (Int32.ofNat (s_ * 48 / 64))), .val (.int (Int32.ofNat (s_ * 48 % 64))), .val (.long (own_cod IN hd s_)), .second] [])) (fun tt_ kk_ => st58 tt_ kk_) ?_
          refine Gq.go (T58.setTop (mkF m 137 #[.val (.ref a1), .val (.int (Int32.ofNat cn)), .val (.ref a2), .val (.ref a3), .val (.int (Int32.ofNat hd)), .val (.int ((Int32.ofNat s_) + (1 : Int32))), .val (.int (Int32.ofNat (s_ * 48))), .val (.int (Int32.ofNat (s_ * 48 / 64))), .val (.int (Int32.ofNat (s_ * 48 % 64))), .val (.long (own_cod IN hd s_)), .second] [])) (fun tt_ kk_ => XS.iinc X58.here hx rfl (hb hby d1_134) rfl (l' := #[.val (.ref a1), .val (.int (Int32.ofNat cn)), .val (.ref a2), .val (.ref a3), .val (.int (Int32.ofNat hd)), .val (.int ((Int32.ofNat s_) + (1 : Int32))), .val (.int (Int32.ofNat (s_ * 48))), .val (.int (Int32.ofNat (s_ * 48 / 64))), .val (.int (Int32.ofNat (s_ * 48 % 64))), .val (.long (own_cod IN hd s_)), .second]) rfl kk_) ?_
          rw [show ((Int32.ofNat s_) + (1 : Int32)) = Int32.ofNat (s_ + 1) from own_add s_ 1]
          refine Gq.go (T58.setTop (mkF m 31 #[.val (.ref a1), .val (.int (Int32.ofNat cn)), .val (.ref a2), .val (.ref a3), .val (.int (Int32.ofNat hd)), .val (.int (Int32.ofNat (s_ + 1))), .val (.int (Int32.ofNat (s_ * 48))), .val (.int (Int32.ofNat (s_ * 48 / 64))), .val (.int (Int32.ofNat (s_ * 48 % 64))), .val (.long (own_cod IN hd s_)), .second] [])) (fun tt_ kk_ => XS.goto X58.here hx rfl (pc0 := 137) (pc' := 31) rfl (hb hby d1_137) (by decide) (by decide) kk_) ?_
          exact ih2 (s_ + 1) (by omega) _ _ _ _ _ (Or.inr ⟨_, rfl⟩) (Or.inr ⟨_, rfl⟩) (Or.inr ⟨_, rfl⟩) (Or.inr ⟨_, rfl, rfl⟩) _ _ _ _ X58 eh58 N58 za66 fa59 fa60 fa61 V58 fa62 fa63 Ka67 (fun g hg j hj => by rw [updI_ne _ _ (by omega)]; exact good2 g hg j hj) (fun j hj b hb => by
              by_cases q : j = s_
              · subst q; rw [updI_at]; exact own_codbit IN (by omega) hb
              · rw [updI_ne _ _ (by omega)]; exact part2 j (by omega) b hb)
      exact inner 43 0 rfl _ _ _ _ _ p6 p7 p8 p9 _ _ _ _ Xq ehq Nq zq Eq_ Fcq Frq Vq V2q V3q Kq good (fun j hj => absurd hj (Nat.not_lt_zero _))
  exact outer cn 0 (by omega) _ _ _ _ _ _ (Or.inl rfl) (Or.inl rfl) (Or.inl rfl) (Or.inl rfl) (Or.inl ⟨rfl, rfl⟩) _ _ _ _ X23 eh23 N23 za33 fa24 fa27 Fw23 fa28 fa25 fa26 Ka34 (fun g hg => absurd hg (Nat.not_lt_zero _))
theorem d7_0 : decode prog_29_method_15_code 0 = .ok (.aload_n 0, 1) := by decide +kernel
theorem d7_1 : decode prog_29_method_15_code 1 = .ok (.getfield 14, 3) := by decide +kernel
theorem d7_4 : decode prog_29_method_15_code 4 = .ok (.bipush 32, 2) := by decide +kernel
theorem d7_6 : decode prog_29_method_15_code 6 = .ok (.imul, 1) := by decide +kernel
theorem d7_7 : decode prog_29_method_15_code 7 = .ok (.newarray .long, 2) := by decide +kernel
theorem d7_9 : decode prog_29_method_15_code 9 = .ok (.astore_n 1, 1) := by decide +kernel
theorem d7_10 : decode prog_29_method_15_code 10 = .ok (.iconst 0, 1) := by decide +kernel
theorem d7_11 : decode prog_29_method_15_code 11 = .ok (.istore_n 2, 1) := by decide +kernel
theorem d7_12 : decode prog_29_method_15_code 12 = .ok (.iload_n 2, 1) := by decide +kernel
theorem d7_13 : decode prog_29_method_15_code 13 = .ok (.aload_n 0, 1) := by decide +kernel
theorem d7_14 : decode prog_29_method_15_code 14 = .ok (.getfield 14, 3) := by decide +kernel
theorem d7_17 : decode prog_29_method_15_code 17 = .ok (.if_icmp .ge 117, 3) := by decide +kernel
theorem d7_20 : decode prog_29_method_15_code 20 = .ok (.iconst 0, 1) := by decide +kernel
theorem d7_21 : decode prog_29_method_15_code 21 = .ok (.istore_n 3, 1) := by decide +kernel
theorem d7_22 : decode prog_29_method_15_code 22 = .ok (.iload_n 3, 1) := by decide +kernel
theorem d7_23 : decode prog_29_method_15_code 23 = .ok (.bipush 43, 2) := by decide +kernel
theorem d7_25 : decode prog_29_method_15_code 25 = .ok (.if_icmp .ge 103, 3) := by decide +kernel
theorem d7_28 : decode prog_29_method_15_code 28 = .ok (.aload_n 0, 1) := by decide +kernel
theorem d7_29 : decode prog_29_method_15_code 29 = .ok (.getfield 18, 3) := by decide +kernel
theorem d7_32 : decode prog_29_method_15_code 32 = .ok (.iload_n 2, 1) := by decide +kernel
theorem d7_33 : decode prog_29_method_15_code 33 = .ok (.bipush 44, 2) := by decide +kernel
theorem d7_35 : decode prog_29_method_15_code 35 = .ok (.imul, 1) := by decide +kernel
theorem d7_36 : decode prog_29_method_15_code 36 = .ok (.iconst 1, 1) := by decide +kernel
theorem d7_37 : decode prog_29_method_15_code 37 = .ok (.iadd, 1) := by decide +kernel
theorem d7_38 : decode prog_29_method_15_code 38 = .ok (.iload_n 3, 1) := by decide +kernel
theorem d7_39 : decode prog_29_method_15_code 39 = .ok (.iadd, 1) := by decide +kernel
theorem d7_40 : decode prog_29_method_15_code 40 = .ok (.laload, 1) := by decide +kernel
theorem d7_41 : decode prog_29_method_15_code 41 = .ok (.ldc2_w 22, 3) := by decide +kernel
theorem d7_44 : decode prog_29_method_15_code 44 = .ok (.land, 1) := by decide +kernel
theorem d7_45 : decode prog_29_method_15_code 45 = .ok (.lstore 4, 2) := by decide +kernel
theorem d7_47 : decode prog_29_method_15_code 47 = .ok (.iload_n 3, 1) := by decide +kernel
theorem d7_48 : decode prog_29_method_15_code 48 = .ok (.bipush 48, 2) := by decide +kernel
theorem d7_50 : decode prog_29_method_15_code 50 = .ok (.imul, 1) := by decide +kernel
theorem d7_51 : decode prog_29_method_15_code 51 = .ok (.istore 6, 2) := by decide +kernel
theorem d7_53 : decode prog_29_method_15_code 53 = .ok (.iload 6, 2) := by decide +kernel
theorem d7_55 : decode prog_29_method_15_code 55 = .ok (.bipush 64, 2) := by decide +kernel
theorem d7_57 : decode prog_29_method_15_code 57 = .ok (.idiv, 1) := by decide +kernel
theorem d7_58 : decode prog_29_method_15_code 58 = .ok (.istore 7, 2) := by decide +kernel
theorem d7_60 : decode prog_29_method_15_code 60 = .ok (.iload 6, 2) := by decide +kernel
theorem d7_62 : decode prog_29_method_15_code 62 = .ok (.bipush 64, 2) := by decide +kernel
theorem d7_64 : decode prog_29_method_15_code 64 = .ok (.irem, 1) := by decide +kernel
theorem d7_65 : decode prog_29_method_15_code 65 = .ok (.istore 8, 2) := by decide +kernel
theorem d7_67 : decode prog_29_method_15_code 67 = .ok (.aload_n 1, 1) := by decide +kernel
theorem d7_68 : decode prog_29_method_15_code 68 = .ok (.iload_n 2, 1) := by decide +kernel
theorem d7_69 : decode prog_29_method_15_code 69 = .ok (.bipush 32, 2) := by decide +kernel
theorem d7_71 : decode prog_29_method_15_code 71 = .ok (.imul, 1) := by decide +kernel
theorem d7_72 : decode prog_29_method_15_code 72 = .ok (.iload 7, 2) := by decide +kernel
theorem d7_74 : decode prog_29_method_15_code 74 = .ok (.iadd, 1) := by decide +kernel
theorem d7_75 : decode prog_29_method_15_code 75 = .ok (.dup2, 1) := by decide +kernel
theorem d7_76 : decode prog_29_method_15_code 76 = .ok (.laload, 1) := by decide +kernel
theorem d7_77 : decode prog_29_method_15_code 77 = .ok (.lload 4, 2) := by decide +kernel
theorem d7_79 : decode prog_29_method_15_code 79 = .ok (.iload 8, 2) := by decide +kernel
theorem d7_81 : decode prog_29_method_15_code 81 = .ok (.lshl, 1) := by decide +kernel
theorem d7_82 : decode prog_29_method_15_code 82 = .ok (.lor, 1) := by decide +kernel
theorem d7_83 : decode prog_29_method_15_code 83 = .ok (.lastore, 1) := by decide +kernel
theorem d7_84 : decode prog_29_method_15_code 84 = .ok (.iload 8, 2) := by decide +kernel
theorem d7_86 : decode prog_29_method_15_code 86 = .ok (.bipush 16, 2) := by decide +kernel
theorem d7_88 : decode prog_29_method_15_code 88 = .ok (.if_icmp .le 34, 3) := by decide +kernel
theorem d7_91 : decode prog_29_method_15_code 91 = .ok (.iload 7, 2) := by decide +kernel
theorem d7_93 : decode prog_29_method_15_code 93 = .ok (.iconst 1, 1) := by decide +kernel
theorem d7_94 : decode prog_29_method_15_code 94 = .ok (.iadd, 1) := by decide +kernel
theorem d7_95 : decode prog_29_method_15_code 95 = .ok (.bipush 32, 2) := by decide +kernel
theorem d7_97 : decode prog_29_method_15_code 97 = .ok (.if_icmp .ge 25, 3) := by decide +kernel
theorem d7_100 : decode prog_29_method_15_code 100 = .ok (.aload_n 1, 1) := by decide +kernel
theorem d7_101 : decode prog_29_method_15_code 101 = .ok (.iload_n 2, 1) := by decide +kernel
theorem d7_102 : decode prog_29_method_15_code 102 = .ok (.bipush 32, 2) := by decide +kernel
theorem d7_104 : decode prog_29_method_15_code 104 = .ok (.imul, 1) := by decide +kernel
theorem d7_105 : decode prog_29_method_15_code 105 = .ok (.iload 7, 2) := by decide +kernel
theorem d7_107 : decode prog_29_method_15_code 107 = .ok (.iadd, 1) := by decide +kernel
theorem d7_108 : decode prog_29_method_15_code 108 = .ok (.iconst 1, 1) := by decide +kernel
theorem d7_109 : decode prog_29_method_15_code 109 = .ok (.iadd, 1) := by decide +kernel
theorem d7_110 : decode prog_29_method_15_code 110 = .ok (.dup2, 1) := by decide +kernel
theorem d7_111 : decode prog_29_method_15_code 111 = .ok (.laload, 1) := by decide +kernel
theorem d7_112 : decode prog_29_method_15_code 112 = .ok (.lload 4, 2) := by decide +kernel
theorem d7_114 : decode prog_29_method_15_code 114 = .ok (.bipush 64, 2) := by decide +kernel
theorem d7_116 : decode prog_29_method_15_code 116 = .ok (.iload 8, 2) := by decide +kernel
theorem d7_118 : decode prog_29_method_15_code 118 = .ok (.isub, 1) := by decide +kernel
theorem d7_119 : decode prog_29_method_15_code 119 = .ok (.lushr, 1) := by decide +kernel
theorem d7_120 : decode prog_29_method_15_code 120 = .ok (.lor, 1) := by decide +kernel
theorem d7_121 : decode prog_29_method_15_code 121 = .ok (.lastore, 1) := by decide +kernel
theorem d7_122 : decode prog_29_method_15_code 122 = .ok (.iinc 3 1, 3) := by decide +kernel
theorem d7_125 : decode prog_29_method_15_code 125 = .ok (.goto (-103), 3) := by decide +kernel
theorem d7_128 : decode prog_29_method_15_code 128 = .ok (.iinc 2 1, 3) := by decide +kernel
theorem d7_131 : decode prog_29_method_15_code 131 = .ok (.goto (-119), 3) := by decide +kernel
theorem d7_134 : decode prog_29_method_15_code 134 = .ok (.aload_n 1, 1) := by decide +kernel
theorem d7_135 : decode prog_29_method_15_code 135 = .ok (.areturn, 1) := by decide +kernel
theorem ef7 (m : MethodId) (y0 : Addr) : entryFrame m #[(.ref y0)] 9 = mkF m 0 #[.val (.ref y0), .unset, .unset, .unset, .unset, .unset, .unset, .unset, .unset] [] := by first | (simp [entryFrame, mkF, argsToLocals, Value.category]; done) | rfl
def Q7 (Z : State) (a1 : Addr) (cn : Nat) (rn : Addr) (F : Nat → Int64) (IN : Nat → Int64) (h0 : Heap) (n0 : Nat) (v : Option Value) (h : Heap) (L : List Loc) : Prop := (∃ (b : Addr) (Gz : Nat → Int64), v = some (.ref b) ∧ n0 ≤ b ∧ h0.size ≤ b ∧ LA Z h b .long (cn * 32) (fun i => .long (Gz i)) ∧ ∀ i, i < cn * 32 → Gz i = IN i) ∧ Fr n0 L ∧ Keep h0 h []
set_option maxRecDepth 65536 in
set_option maxHeartbeats 40000000 in
theorem rm7 (l : Launch) (Z : State) (a0 : Array Value) (hw : ∀ d ∈ tables_1, d.before a0 Z = true) (ws : List Jvm.Cond) (a1 : Addr) (cn : Nat) (rn : Addr) (F : Nat → Int64) (IN : Nat → Int64) (h0 : Heap) (n0 : Nat) (Z0 : n0 ≤ h0.size) (Fc1 : Fld Z h0 a1 "com/example/dense_trie/densetrie/Heads" "count" "I" (.int (Int32.ofNat cn))) (Fr1 : Fld Z h0 a1 "com/example/dense_trie/densetrie/Heads" "runs" "[J" (.ref rn)) (V1 : LA Z h0 rn .long (cn * 44) (fun i => .long (F i))) (hc1 : 1 ≤ cn) (hc2 : cn ≤ 2) (good : (∀ g, g < cn → ∀ j, j < 43 → GoodW IN g j (F (g * 44 + 1 + j)))) :
    MetFree l (⟨"com/example/dense_trie/densetrie/Heads", "bits", "()[J"⟩ : MethodName) (head1 (Jvm.Cond.code (⟨"com/example/dense_trie/densetrie/Heads", "bits", "()[J"⟩ : MethodName) prog_29_method_15_code 9 (some (.array .long)) :: ws) ({ frames := 0, cells := 1, slots := 64, locals := 0 } : Room)) (fun a U => a = #[(.ref a1)] ∧ Z.Warmed39 U.vm ∧ U.heap = h0) (fun _ _ _ _ _ => True) (fun _ U o U' => ∃ v L, o = .returned v ∧ Q7 Z a1 cn rn F IN h0 n0 v U'.heap L ∧ FrameEnd U o U' L ({ frames := 0, cells := 1, slots := 64, locals := 0 } : Room).cells ({ frames := 0, cells := 1, slots := 64, locals := 0 } : Room).slots) := by
  refine MetFree.of_bodySF (plainFor_of_name pn_com_example_dense_trie_densetrie_Heads) hisR ?_
  intro p e s m args below meth c s₁ Bd hml0 hP hK
  obtain ⟨rfl, hZ, hh⟩ := hP
  have hx := Bd.exec
  have hby := Bd.bytes
  have hml : c.maxLocals = 9 := hml0
  have hown : s.vm.findClass "com/example/dense_trie/densetrie/Heads" = some m.cls := findClass_of_methodNamed Bd.named
  have hnm := (name_of_methodNamed Bd.named Bd.method).1
  have X0 : Stand p l e ({ frames := 0, cells := 1, slots := 64, locals := 0 } : Room) s m #[(.ref a1)] below meth c s₁ [] 0 0 := Stand.of_body Bd
  have eh0 : s₁.heap = h0 := by rw [← hh, Bd.state]; rfl
  have N0 := Fr.nil n0
  refine Gq.start (Q := Q7 Z a1 cn rn F IN h0 n0) (kc := ({ frames := 0, cells := 1, slots := 64, locals := 0 } : Room).cells) (ks := ({ frames := 0, cells := 1, slots := 64, locals := 0 } : Room).slots) (ef7 m a1) ?_
  refine Gq.go (s₁.setTop (mkF m 1 #[.val (.ref a1), .unset, .unset, .unset, .unset, .unset, .unset, .unset, .unset] [(.ref a1)])) (fun tt_ kk_ => XS.aloadN X0.here hx rfl (hb hby d7_0) rfl rfl kk_) ?_
  obtain ⟨T1, X1, eh1, st1⟩ := getF X0 hx hZ hown (host := "") (Or.inl (hw _ (List.mem_of_getElem? (i := 11) rfl))) Via.refl eh0 Fc1 (g := (mkF m 1 #[.val (.ref a1), .unset, .unset, .unset, .unset, .unset, .unset, .unset, .unset] [(.ref a1)])) rfl rfl (hb hby d7_1)
  refine Gq.go (T1.setTop (mkF m 4 #[.val (.ref a1), .unset, .unset, .unset, .unset, .unset, .unset, .unset, .unset] [(.int (Int32.ofNat cn))])) (fun tt_ kk_ => st1 _ kk_) ?_
  refine Gq.go (T1.setTop (mkF m 6 #[.val (.ref a1), .unset, .unset, .unset, .unset, .unset, .unset, .unset, .unset] [(.int (32 : Int32)), (.int (Int32.ofNat cn))])) (fun tt_ kk_ => XS.bipush X1.here hx rfl (hb hby d7_4) kk_) ?_
  refine Gq.go (T1.setTop (mkF m 7 #[.val (.ref a1), .unset, .unset, .unset, .unset, .unset, .unset, .unset, .unset] [(.int ((Int32.ofNat cn) * (32 : Int32)))])) (fun tt_ kk_ => XS.imul X1.here hx rfl (hb hby d7_6) rfl kk_) ?_
  rw [show ((Int32.ofNat cn) * (32 : Int32)) = (Int32.ofNat (cn * 32)) from own_mul cn 32]
  obtain ⟨T2, h2, b2, X2, eh2, E2, aq2, V2, st2⟩ := mkC X1 hx hZ (hw _ (List.mem_of_getElem? (i := 0) rfl)) eh1 (z := (Int32.ofNat (cn * 32))) (n := (cn * 32)) (Ls := #[.val (.ref a1), .unset, .unset, .unset, .unset, .unset, .unset, .unset, .unset]) (rest := []) (own_nn (by omega)) (own_nc (by omega)) 64 (by omega) (by decide) (by decide) (by decide) (hb hby d7_7)
  have g_b2 : n0 ≤ b2 := Nat.le_trans Z0 (Nat.le_of_eq aq2.symm)
  have sz_b2 : h0.size ≤ b2 := Nat.le_trans (Keep.refl h0 []).1 (Nat.le_of_eq aq2.symm)
  have ne_a1_b2 : a1 ≠ b2 := Nat.ne_of_lt (Nat.lt_of_lt_of_le Fc1.lt (Nat.le_of_eq aq2.symm))
  have ne_rn_b2 : rn ≠ b2 := Nat.ne_of_lt (Nat.lt_of_lt_of_le V1.lt (Nat.le_of_eq aq2.symm))
  have fa3 := Fc1.ext E2
  have fa4 := Fr1.ext E2
  have fa5 := V1.ext E2
  have ta6 := Nat.lt_of_lt_of_le Fc1.lt E2.1
  have ta7 := Nat.lt_of_lt_of_le V1.lt E2.1
  have za8 : n0 ≤ h2.size := Nat.le_trans Z0 E2.1
  have Ka9 := (Keep.refl h0 []).ext E2
  have V2' : LA Z h2 b2 .long (cn * 32) (fun i => .long ((fun _ : Nat => (0 : Int64)) i)) := V2
  have ta2' := V2'.lt
  refine Gq.go (T2.setTop (mkF m 9 #[.val (.ref a1), .unset, .unset, .unset, .unset, .unset, .unset, .unset, .unset] [(.ref b2)])) (fun tt_ kk_ => st2 tt_ kk_) ?_
  refine Gq.go (T2.setTop (mkF m 10 #[.val (.ref a1), .val (.ref b2), .unset, .unset, .unset, .unset, .unset, .unset, .unset] [])) (fun tt_ kk_ => XS.astoreN X2.here hx rfl (hb hby d7_9) rfl rfl (l' := #[.val (.ref a1), .val (.ref b2), .unset, .unset, .unset, .unset, .unset, .unset, .unset]) rfl kk_) ?_
  refine Gq.go (T2.setTop (mkF m 11 #[.val (.ref a1), .val (.ref b2), .unset, .unset, .unset, .unset, .unset, .unset, .unset] [(.int (0 : Int32))])) (fun tt_ kk_ => XS.iconst X2.here hx rfl (hb hby d7_10) kk_) ?_
  refine Gq.go (T2.setTop (mkF m 12 #[.val (.ref a1), .val (.ref b2), .val (.int (0 : Int32)), .unset, .unset, .unset, .unset, .unset, .unset] [])) (fun tt_ kk_ => XS.istoreN X2.here hx rfl (hb hby d7_11) rfl (l' := #[.val (.ref a1), .val (.ref b2), .val (.int (0 : Int32)), .unset, .unset, .unset, .unset, .unset, .unset]) rfl kk_) ?_
  have outer : ∀ k hd : Nat, hd + k = cn → ∀ (s3 s4 s5 s6 s7 s8 : Slot), oI s3 → oJ s4 s5 → oI s6 → oI s7 → oI s8 → ∀ (Tq : State) (Lq : List Loc) (hq : Heap) (Gv : Nat → Int64), Stand p l e ({ frames := 0, cells := 1, slots := 64, locals := 0 } : Room) s m #[(.ref a1)] below meth c Tq Lq 1 64 → Tq.heap = hq → Fr n0 Lq → n0 ≤ hq.size → Fld Z hq a1 "com/example/dense_trie/densetrie/Heads" "count" "I" (.int (Int32.ofNat cn)) → Fld Z hq a1 "com/example/dense_trie/densetrie/Heads" "runs" "[J" (.ref rn) → LA Z hq rn .long (cn * 44) (fun i => .long (F i)) → LA Z hq b2 .long (cn * 32) (fun i => .long (Gv i)) → Keep h0 hq [] → (∀ i, i < hd * 32 → Gv i = IN i) → (∀ i, hd * 32 ≤ i → Gv i = 0) → Gq p.tables e below s (Q7 Z a1 cn rn F IN h0 n0) ({ frames := 0, cells := 1, slots := 64, locals := 0 } : Room).cells ({ frames := 0, cells := 1, slots := 64, locals := 0 } : Room).slots (Tq.setTop (mkF m 12 #[.val (.ref a1), .val (.ref b2), .val (.int (Int32.ofNat hd)), s3, s4, s5, s6, s7, s8] [])) := by
    intro k
    induction k with
    | zero =>
      intro hd hdk s3 s4 s5 s6 s7 s8 p3 p4 p6 p7 p8 Tq Lq hq Gv Xq ehq Nq zq Fcq Frq Vq Voq Kq done zero
      have hde : cn = hd := by omega
      refine Gq.go (Tq.setTop (mkF m 13 #[.val (.ref a1), .val (.ref b2), .val (.int (Int32.ofNat hd)), s3, s4, s5, s6, s7, s8] [(.int (Int32.ofNat hd))])) (fun tt_ kk_ => XS.iloadN Xq.here hx rfl (hb hby d7_12) rfl kk_) ?_
      refine Gq.go (Tq.setTop (mkF m 14 #[.val (.ref a1), .val (.ref b2), .val (.int (Int32.ofNat hd)), s3, s4, s5, s6, s7, s8] [(.ref a1), (.int (Int32.ofNat hd))])) (fun tt_ kk_ => XS.aloadN Xq.here hx rfl (hb hby d7_13) rfl rfl kk_) ?_
      obtain ⟨T10, X10, eh10, st10⟩ := getF Xq hx hZ hown (host := "") (Or.inl (hw _ (List.mem_of_getElem? (i := 11) rfl))) Via.refl ehq Fcq (g := (mkF m 14 #[.val (.ref a1), .val (.ref b2), .val (.int (Int32.ofNat hd)), s3, s4, s5, s6, s7, s8] [(.ref a1), (.int (Int32.ofNat hd))])) rfl rfl (hb hby d7_14)
      refine Gq.go (T10.setTop (mkF m 17 #[.val (.ref a1), .val (.ref b2), .val (.int (Int32.ofNat hd)), s3, s4, s5, s6, s7, s8] [(.int (Int32.ofNat cn)), (.int (Int32.ofNat hd))])) (fun tt_ kk_ => st10 _ kk_) ?_
      refine Gq.go (T10.setTop (mkF m 134 #[.val (.ref a1), .val (.ref b2), .val (.int (Int32.ofNat hd)), s3, s4, s5, s6, s7, s8] [])) (fun tt_ kk_ => XS.icmpYes X10.here hx rfl (pc0 := 17) (pc' := 134) rfl (hb hby d7_17) rfl (flt (fun q => absurd ((own_lt (by omega) (by omega)).mp q) (by omega))).2.1 (by decide) (by decide) kk_) ?_
      refine Gq.go (T10.setTop (mkF m 135 #[.val (.ref a1), .val (.ref b2), .val (.int (Int32.ofNat hd)), s3, s4, s5, s6, s7, s8] [(.ref b2)])) (fun tt_ kk_ => XS.aloadN X10.here hx rfl (hb hby d7_134) rfl rfl kk_) ?_
      refine Gq.retA X10 hx Bd.notSynchronized Bd.returns rfl rfl rfl (hb hby d7_135) (by decide) (by decide) ?_
      show Q7 Z a1 cn rn F IN h0 n0 _ T10.heap _
      rw [eh10]
      exact ⟨⟨b2, Gv, rfl, g_b2, sz_b2, Voq, fun i hi => done i (by omega)⟩, Nq, Kq⟩
    | succ k ih =>
      intro hd hdk s3 s4 s5 s6 s7 s8 p3 p4 p6 p7 p8 Tq Lq hq Gv Xq ehq Nq zq Fcq Frq Vq Voq Kq done zero
      have hst3 : storeLocals #[.val (.ref a1), .val (.ref b2), .val (.int (Int32.ofNat hd)), s3, s4, s5, s6, s7, s8] 3 (.int (0 : Int32)) = some #[.val (.ref a1), .val (.ref b2), .val (.int (Int32.ofNat hd)), .val (.int (0 : Int32)), s4, s5, s6, s7, s8] := by rcases p3 with rfl | ⟨y, rfl⟩ <;> rfl
      refine Gq.go (Tq.setTop (mkF m 13 #[.val (.ref a1), .val (.ref b2), .val (.int (Int32.ofNat hd)), s3, s4, s5, s6, s7, s8] [(.int (Int32.ofNat hd))])) (fun tt_ kk_ => XS.iloadN Xq.here hx rfl (hb hby d7_12) rfl kk_) ?_
      refine Gq.go (Tq.setTop (mkF m 14 #[.val (.ref a1), .val (.ref b2), .val (.int (Int32.ofNat hd)), s3, s4, s5, s6, s7, s8] [(.ref a1), (.int (Int32.ofNat hd))])) (fun tt_ kk_ => XS.aloadN Xq.here hx rfl (hb hby d7_13) rfl rfl kk_) ?_
      obtain ⟨T11, X11, eh11, st11⟩ := getF Xq hx hZ hown (host := "") (Or.inl (hw _ (List.mem_of_getElem? (i := 11) rfl))) Via.refl ehq Fcq (g := (mkF m 14 #[.val (.ref a1), .val (.ref b2), .val (.int (Int32.ofNat hd)), s3, s4, s5, s6, s7, s8] [(.ref a1), (.int (Int32.ofNat hd))])) rfl rfl (hb hby d7_14)
      refine Gq.go (T11.setTop (mkF m 17 #[.val (.ref a1), .val (.ref b2), .val (.int (Int32.ofNat hd)), s3, s4, s5, s6, s7, s8] [(.int (Int32.ofNat cn)), (.int (Int32.ofNat hd))])) (fun tt_ kk_ => st11 _ kk_) ?_
      refine Gq.go (T11.setTop (mkF m 20 #[.val (.ref a1), .val (.ref b2), .val (.int (Int32.ofNat hd)), s3, s4, s5, s6, s7, s8] [])) (fun tt_ kk_ => XS.icmpNo X11.here hx rfl (hb hby d7_17) rfl (tlt ((own_lt (by omega) (by omega)).mpr (by omega))).2.1 kk_) ?_
      refine Gq.go (T11.setTop (mkF m 21 #[.val (.ref a1), .val (.ref b2), .val (.int (Int32.ofNat hd)), s3, s4, s5, s6, s7, s8] [(.int (0 : Int32))])) (fun tt_ kk_ => XS.iconst X11.here hx rfl (hb hby d7_20) kk_) ?_
      refine Gq.go (T11.setTop (mkF m 22 #[.val (.ref a1), .val (.ref b2), .val (.int (Int32.ofNat hd)), .val (.int (0 : Int32)), s4, s5, s6, s7, s8] [])) (fun tt_ kk_ => XS.istoreN X11.here hx rfl (hb hby d7_21) rfl (l' := #[.val (.ref a1), .val (.ref b2), .val (.int (Int32.ofNat hd)), .val (.int (0 : Int32)), s4, s5, s6, s7, s8]) hst3 kk_) ?_
      have inner : ∀ k2 s_ : Nat, s_ + k2 = 43 → ∀ (s4 s5 s6 s7 s8 : Slot), oJ s4 s5 → oI s6 → oI s7 → oI s8 → ∀ (Tq : State) (Lq : List Loc) (hq : Heap) (Gv : Nat → Int64), Stand p l e ({ frames := 0, cells := 1, slots := 64, locals := 0 } : Room) s m #[(.ref a1)] below meth c Tq Lq 1 64 → Tq.heap = hq → Fr n0 Lq → n0 ≤ hq.size → Fld Z hq a1 "com/example/dense_trie/densetrie/Heads" "count" "I" (.int (Int32.ofNat cn)) → Fld Z hq a1 "com/example/dense_trie/densetrie/Heads" "runs" "[J" (.ref rn) → LA Z hq rn .long (cn * 44) (fun i => .long (F i)) → LA Z hq b2 .long (cn * 32) (fun i => .long (Gv i)) → Keep h0 hq [] → (∀ i, i < hd * 32 → Gv i = IN i) → (∀ i, hd * 32 + 32 ≤ i → Gv i = 0) → InvO IN Gv hd s_ → Gq p.tables e below s (Q7 Z a1 cn rn F IN h0 n0) ({ frames := 0, cells := 1, slots := 64, locals := 0 } : Room).cells ({ frames := 0, cells := 1, slots := 64, locals := 0 } : Room).slots (Tq.setTop (mkF m 22 #[.val (.ref a1), .val (.ref b2), .val (.int (Int32.ofNat hd)), .val (.int (Int32.ofNat s_)), s4, s5, s6, s7, s8] [])) := by
        intro k2
        induction k2 with
        | zero =>
          intro s_ hsk s4 s5 s6 s7 s8 p4 p6 p7 p8 Tq2 Lq2 hq2 Gv2 Xq2 ehq2 Nq2 zq2 Fcq2 Frq2 Vq2 Voq2 Kq2 done2 zero2 inv2
          have hs43 : 43 = s_ := by omega
          subst hs43
          refine Gq.go (Tq2.setTop (mkF m 23 #[.val (.ref a1), .val (.ref b2), .val (.int (Int32.ofNat hd)), .val (.int (Int32.ofNat 43)), s4, s5, s6, s7, s8] [(.int (Int32.ofNat 43))])) (fun tt_ kk_ => XS.iloadN Xq2.here hx rfl (hb hby d7_22) rfl kk_) ?_
          refine Gq.go (Tq2.setTop (mkF m 25 #[.val (.ref a1), .val (.ref b2), .val (.int (Int32.ofNat hd)), .val (.int (Int32.ofNat 43)), s4, s5, s6, s7, s8] [(.int (43 : Int32)), (.int (Int32.ofNat 43))])) (fun tt_ kk_ => XS.bipush Xq2.here hx rfl (hb hby d7_23) kk_) ?_
          refine Gq.go (Tq2.setTop (mkF m 128 #[.val (.ref a1), .val (.ref b2), .val (.int (Int32.ofNat hd)), .val (.int (Int32.ofNat 43)), s4, s5, s6, s7, s8] [])) (fun tt_ kk_ => XS.icmpYes Xq2.here hx rfl (pc0 := 25) (pc' := 128) rfl (hb hby d7_25) rfl (flt (by decide)).2.1 (by decide) (by decide) kk_) ?_
          refine Gq.go (Tq2.setTop (mkF m 131 #[.val (.ref a1), .val (.ref b2), .val (.int ((Int32.ofNat hd) + (1 : Int32))), .val (.int (Int32.ofNat 43)), s4, s5, s6, s7, s8] [])) (fun tt_ kk_ => XS.iinc Xq2.here hx rfl (hb hby d7_128) rfl (l' := #[.val (.ref a1), .val (.ref b2), .val (.int ((Int32.ofNat hd) + (1 : Int32))), .val (.int (Int32.ofNat 43)), s4, s5, s6, s7, s8]) rfl kk_) ?_
          rw [show ((Int32.ofNat hd) + (1 : Int32)) = Int32.ofNat (hd + 1) from own_add hd 1]
          refine Gq.go (Tq2.setTop (mkF m 12 #[.val (.ref a1), .val (.ref b2), .val (.int (Int32.ofNat (hd + 1))), .val (.int (Int32.ofNat 43)), s4, s5, s6, s7, s8] [])) (fun tt_ kk_ => XS.goto Xq2.here hx rfl (pc0 := 131) (pc' := 12) rfl (hb hby d7_131) (by decide) (by decide) kk_) ?_
          exact ih (hd + 1) (by omega) _ _ _ _ _ _ (Or.inr ⟨_, rfl⟩) p4 p6 p7 p8 _ _ _ _ Xq2 ehq2 Nq2 zq2 Fcq2 Frq2 Vq2 Voq2 Kq2 (fun i hi => by
              by_cases q : i < hd * 32
              · exact done2 i q
              · have e := inv2.full (w := i - hd * 32) (by omega)
                rw [show hd * 32 + (i - hd * 32) = i by omega] at e; exact e) (fun i hi => zero2 i (by omega))
        | succ k2 ih2 =>
          intro s_ hsk s4 s5 s6 s7 s8 p4 p6 p7 p8 Tq2 Lq2 hq2 Gv2 Xq2 ehq2 Nq2 zq2 Fcq2 Frq2 Vq2 Voq2 Kq2 done2 zero2 inv2
          refine Gq.go (Tq2.setTop (mkF m 23 #[.val (.ref a1), .val (.ref b2), .val (.int (Int32.ofNat hd)), .val (.int (Int32.ofNat s_)), s4, s5, s6, s7, s8] [(.int (Int32.ofNat s_))])) (fun tt_ kk_ => XS.iloadN Xq2.here hx rfl (hb hby d7_22) rfl kk_) ?_
          refine Gq.go (Tq2.setTop (mkF m 25 #[.val (.ref a1), .val (.ref b2), .val (.int (Int32.ofNat hd)), .val (.int (Int32.ofNat s_)), s4, s5, s6, s7, s8] [(.int (43 : Int32)), (.int (Int32.ofNat s_))])) (fun tt_ kk_ => XS.bipush Xq2.here hx rfl (hb hby d7_23) kk_) ?_
          refine Gq.go (Tq2.setTop (mkF m 28 #[.val (.ref a1), .val (.ref b2), .val (.int (Int32.ofNat hd)), .val (.int (Int32.ofNat s_)), s4, s5, s6, s7, s8] [])) (fun tt_ kk_ => XS.icmpNo Xq2.here hx rfl (hb hby d7_25) rfl (tlt ((own_lt (b := 43) (by omega) (by decide)).mpr (by omega))).2.1 kk_) ?_
          refine Gq.go (Tq2.setTop (mkF m 29 #[.val (.ref a1), .val (.ref b2), .val (.int (Int32.ofNat hd)), .val (.int (Int32.ofNat s_)), s4, s5, s6, s7, s8] [(.ref a1)])) (fun tt_ kk_ => XS.aloadN Xq2.here hx rfl (hb hby d7_28) rfl rfl kk_) ?_
          obtain ⟨T12, X12, eh12, st12⟩ := getF Xq2 hx hZ hown (host := "") (Or.inl (hw _ (List.mem_of_getElem? (i := 13) rfl))) Via.refl ehq2 Frq2 (g := (mkF m 29 #[.val (.ref a1), .val (.ref b2), .val (.int (Int32.ofNat hd)), .val (.int (Int32.ofNat s_)), s4, s5, s6, s7, s8] [(.ref a1)])) rfl rfl (hb hby d7_29)
          refine Gq.go (T12.setTop (mkF m 32 #[.val (.ref a1), .val (.ref b2), .val (.int (Int32.ofNat hd)), .val (.int (Int32.ofNat s_)), s4, s5, s6, s7, s8] [(.ref rn)])) (fun tt_ kk_ => st12 _ kk_) ?_
          refine Gq.go (T12.setTop (mkF m 33 #[.val (.ref a1), .val (.ref b2), .val (.int (Int32.ofNat hd)), .val (.int (Int32.ofNat s_)), s4, s5, s6, s7, s8] [(.int (Int32.ofNat hd)), (.ref rn)])) (fun tt_ kk_ => XS.iloadN X12.here hx rfl (hb hby d7_32) rfl kk_) ?_
          refine Gq.go (T12.setTop (mkF m 35 #[.val (.ref a1), .val (.ref b2), .val (.int (Int32.ofNat hd)), .val (.int (Int32.ofNat s_)), s4, s5, s6, s7, s8] [(.int (44 : Int32)), (.int (Int32.ofNat hd)), (.ref rn)])) (fun tt_ kk_ => XS.bipush X12.here hx rfl (hb hby d7_33) kk_) ?_
          refine Gq.go (T12.setTop (mkF m 36 #[.val (.ref a1), .val (.ref b2), .val (.int (Int32.ofNat hd)), .val (.int (Int32.ofNat s_)), s4, s5, s6, s7, s8] [(.int ((Int32.ofNat hd) * (44 : Int32))), (.ref rn)])) (fun tt_ kk_ => XS.imul X12.here hx rfl (hb hby d7_35) rfl kk_) ?_
          rw [show ((Int32.ofNat hd) * (44 : Int32)) = (Int32.ofNat (hd * 44)) from own_mul hd 44]
          refine Gq.go (T12.setTop (mkF m 37 #[.val (.ref a1), .val (.ref b2), .val (.int (Int32.ofNat hd)), .val (.int (Int32.ofNat s_)), s4, s5, s6, s7, s8] [(.int (1 : Int32)), (.int (Int32.ofNat (hd * 44))), (.ref rn)])) (fun tt_ kk_ => XS.iconst X12.here hx rfl (hb hby d7_36) kk_) ?_
          refine Gq.go (T12.setTop (mkF m 38 #[.val (.ref a1), .val (.ref b2), .val (.int (Int32.ofNat hd)), .val (.int (Int32.ofNat s_)), s4, s5, s6, s7, s8] [(.int ((Int32.ofNat (hd * 44)) + (1 : Int32))), (.ref rn)])) (fun tt_ kk_ => XS.iadd X12.here hx rfl (hb hby d7_37) rfl kk_) ?_
          rw [show ((Int32.ofNat (hd * 44)) + (1 : Int32)) = (Int32.ofNat (hd * 44 + 1)) from own_add _ 1]
          refine Gq.go (T12.setTop (mkF m 39 #[.val (.ref a1), .val (.ref b2), .val (.int (Int32.ofNat hd)), .val (.int (Int32.ofNat s_)), s4, s5, s6, s7, s8] [(.int (Int32.ofNat s_)), (.int (Int32.ofNat (hd * 44 + 1))), (.ref rn)])) (fun tt_ kk_ => XS.iloadN X12.here hx rfl (hb hby d7_38) rfl kk_) ?_
          refine Gq.go (T12.setTop (mkF m 40 #[.val (.ref a1), .val (.ref b2), .val (.int (Int32.ofNat hd)), .val (.int (Int32.ofNat s_)), s4, s5, s6, s7, s8] [(.int ((Int32.ofNat (hd * 44 + 1)) + (Int32.ofNat s_))), (.ref rn)])) (fun tt_ kk_ => XS.iadd X12.here hx rfl (hb hby d7_39) rfl kk_) ?_
          rw [show ((Int32.ofNat (hd * 44 + 1)) + (Int32.ofNat s_)) = (Int32.ofNat (hd * 44 + 1 + s_)) from own_add _ _]
          refine Gq.go (T12.setTop (mkF m 41 #[.val (.ref a1), .val (.ref b2), .val (.int (Int32.ofNat hd)), .val (.int (Int32.ofNat s_)), s4, s5, s6, s7, s8] [(.long (F (hd * 44 + 1 + s_)))])) (fun tt_ kk_ => ldJ X12 hx hZ eh12 Vq2 (j := (Int32.ofNat (hd * 44 + 1 + s_))) (i := (hd * 44 + 1 + s_)) (x := (F (hd * 44 + 1 + s_))) (own_nn (by omega)) (own_nc (by omega)) (by omega) rfl (hb hby d7_40) tt_ kk_) ?_
          refine Gq.go (T12.setTop (mkF m 44 #[.val (.ref a1), .val (.ref b2), .val (.int (Int32.ofNat hd)), .val (.int (Int32.ofNat s_)), s4, s5, s6, s7, s8] [(.long (281474976710655 : Int64)), (.long (F (hd * 44 + 1 + s_)))])) (fun tt_ kk_ => X12.ldc2Long hx hown (mvT hZ (hw _ (List.mem_of_getElem? (i := 15) rfl))) (g := (mkF m 41 #[.val (.ref a1), .val (.ref b2), .val (.int (Int32.ofNat hd)), .val (.int (Int32.ofNat s_)), s4, s5, s6, s7, s8] [(.long (F (hd * 44 + 1 + s_)))])) rfl (hb hby d7_41) _ kk_) ?_
          refine Gq.go (T12.setTop (mkF m 45 #[.val (.ref a1), .val (.ref b2), .val (.int (Int32.ofNat hd)), .val (.int (Int32.ofNat s_)), s4, s5, s6, s7, s8] [(.long ((F (hd * 44 + 1 + s_)) &&& (281474976710655 : Int64)))])) (fun tt_ kk_ => XS.land X12.here hx rfl (hb hby d7_44) rfl kk_) ?_
          have hcb := (good hd (by omega) s_ (by omega)).mask
          generalize hco : ((F (hd * 44 + 1 + s_)) &&& (281474976710655 : Int64)) = co
          rw [hco] at hcb
          have hst45 : storeLocals #[.val (.ref a1), .val (.ref b2), .val (.int (Int32.ofNat hd)), .val (.int (Int32.ofNat s_)), s4, s5, s6, s7, s8] 4 (.long co) = some #[.val (.ref a1), .val (.ref b2), .val (.int (Int32.ofNat hd)), .val (.int (Int32.ofNat s_)), .val (.long co), .second, s6, s7, s8] := by rcases p4 with ⟨rfl, rfl⟩ | ⟨y, rfl, rfl⟩ <;> rfl
          refine Gq.go (T12.setTop (mkF m 47 #[.val (.ref a1), .val (.ref b2), .val (.int (Int32.ofNat hd)), .val (.int (Int32.ofNat s_)), .val (.long co), .second, s6, s7, s8] [])) (fun tt_ kk_ => XS.lstore X12.here hx rfl (hb hby d7_45) rfl (l' := #[.val (.ref a1), .val (.ref b2), .val (.int (Int32.ofNat hd)), .val (.int (Int32.ofNat s_)), .val (.long co), .second, s6, s7, s8]) hst45 kk_) ?_
          refine Gq.go (T12.setTop (mkF m 48 #[.val (.ref a1), .val (.ref b2), .val (.int (Int32.ofNat hd)), .val (.int (Int32.ofNat s_)), .val (.long co), .second, s6, s7, s8] [(.int (Int32.ofNat s_))])) (fun tt_ kk_ => XS.iloadN X12.here hx rfl (hb hby d7_47) rfl kk_) ?_
          refine Gq.go (T12.setTop (mkF m 50 #[.val (.ref a1), .val (.ref b2), .val (.int (Int32.ofNat hd)), .val (.int (Int32.ofNat s_)), .val (.long co), .second, s6, s7, s8] [(.int (48 : Int32)), (.int (Int32.ofNat s_))])) (fun tt_ kk_ => XS.bipush X12.here hx rfl (hb hby d7_48) kk_) ?_
          refine Gq.go (T12.setTop (mkF m 51 #[.val (.ref a1), .val (.ref b2), .val (.int (Int32.ofNat hd)), .val (.int (Int32.ofNat s_)), .val (.long co), .second, s6, s7, s8] [(.int ((Int32.ofNat s_) * (48 : Int32)))])) (fun tt_ kk_ => XS.imul X12.here hx rfl (hb hby d7_50) rfl kk_) ?_
          rw [show ((Int32.ofNat s_) * (48 : Int32)) = (Int32.ofNat (s_ * 48)) from own_mul s_ 48]
          have hst51 : storeLocals #[.val (.ref a1), .val (.ref b2), .val (.int (Int32.ofNat hd)), .val (.int (Int32.ofNat s_)), .val (.long co), .second, s6, s7, s8] 6 (.int (Int32.ofNat (s_ * 48))) = some #[.val (.ref a1), .val (.ref b2), .val (.int (Int32.ofNat hd)), .val (.int (Int32.ofNat s_)), .val (.long co), .second, .val (.int (Int32.ofNat (s_ * 48))), s7, s8] := by rcases p6 with rfl | ⟨y, rfl⟩ <;> rfl
          refine Gq.go (T12.setTop (mkF m 53 #[.val (.ref a1), .val (.ref b2), .val (.int (Int32.ofNat hd)), .val (.int (Int32.ofNat s_)), .val (.long co), .second, .val (.int (Int32.ofNat (s_ * 48))), s7, s8] [])) (fun tt_ kk_ => XS.istore X12.here hx rfl (hb hby d7_51) rfl (l' := #[.val (.ref a1), .val (.ref b2), .val (.int (Int32.ofNat hd)), .val (.int (Int32.ofNat s_)), .val (.long co), .second, .val (.int (Int32.ofNat (s_ * 48))), s7, s8]) hst51 kk_) ?_
          refine Gq.go (T12.setTop (mkF m 55 #[.val (.ref a1), .val (.ref b2), .val (.int (Int32.ofNat hd)), .val (.int (Int32.ofNat s_)), .val (.long co), .second, .val (.int (Int32.ofNat (s_ * 48))), s7, s8] [(.int (Int32.ofNat (s_ * 48)))])) (fun tt_ kk_ => XS.iload X12.here hx rfl (hb hby d7_53) rfl kk_) ?_
          refine Gq.go (T12.setTop (mkF m 57 #[.val (.ref a1), .val (.ref b2), .val (.int (Int32.ofNat hd)), .val (.int (Int32.ofNat s_)), .val (.long co), .second, .val (.int (Int32.ofNat (s_ * 48))), s7, s8] [(.int (64 : Int32)), (.int (Int32.ofNat (s_ * 48)))])) (fun tt_ kk_ => XS.bipush X12.here hx rfl (hb hby d7_55) kk_) ?_
          refine Gq.go (T12.setTop (mkF m 58 #[.val (.ref a1), .val (.ref b2), .val (.int (Int32.ofNat hd)), .val (.int (Int32.ofNat s_)), .val (.long co), .second, .val (.int (Int32.ofNat (s_ * 48))), s7, s8] [(.int ((Int32.ofNat (s_ * 48)) / (64 : Int32)))])) (fun tt_ kk_ => XS.idiv X12.here hx rfl (hb hby d7_57) rfl (by decide) kk_) ?_
          rw [show ((Int32.ofNat (s_ * 48)) / (64 : Int32)) = (Int32.ofNat (s_ * 48 / 64)) from own_div (d := 64) (by omega) (by decide)]
          have hst58 : storeLocals #[.val (.ref a1), .val (.ref b2), .val (.int (Int32.ofNat hd)), .val (.int (Int32.ofNat s_)), .val (.long co), .second, .val (.int (Int32.ofNat (s_ * 48))), s7, s8] 7 (.int (Int32.ofNat (s_ * 48 / 64))) = some #[.val (.ref a1), .val (.ref b2), .val (.int (Int32.ofNat hd)), .val (.int (Int32.ofNat s_)), .val (.long co), .second, .val (.int (Int32.ofNat (s_ * 48))), .val (.int (Int32.ofNat (s_ * 48 / 64))), s8] := by rcases p7 with rfl | ⟨y, rfl⟩ <;> rfl
          refine Gq.go (T12.setTop (mkF m 60 #[.val (.ref a1), .val (.ref b2), .val (.int (Int32.ofNat hd)), .val (.int (Int32.ofNat s_)), .val (.long co), .second, .val (.int (Int32.ofNat (s_ * 48))), .val (.int (Int32.ofNat (s_ * 48 / 64))), s8] [])) (fun tt_ kk_ => XS.istore X12.here hx rfl (hb hby d7_58) rfl (l' := #[.val (.ref a1), .val (.ref b2), .val (.int (Int32.ofNat hd)), .val (.int (Int32.ofNat s_)), .val (.long co), .second, .val (.int (Int32.ofNat (s_ * 48))), .val (.int (Int32.ofNat (s_ * 48 / 64))), s8]) hst58 kk_) ?_
          refine Gq.go (T12.setTop (mkF m 62 #[.val (.ref a1), .val (.ref b2), .val (.int (Int32.ofNat hd)), .val (.int (Int32.ofNat s_)), .val (.long co), .second, .val (.int (Int32.ofNat (s_ * 48))), .val (.int (Int32.ofNat (s_ * 48 / 64))), s8] [(.int (Int32.ofNat (s_ * 48)))])) (fun tt_ kk_ => XS.iload X12.here hx rfl (hb hby d7_60) rfl kk_) ?_
          refine Gq.go (T12.setTop (mkF m 64 #[.val (.ref a1), .val (.ref b2), .val (.int (Int32.ofNat hd)), .val (.int (Int32.ofNat s_)), .val (.long co), .second, .val (.int (Int32.ofNat (s_ * 48))), .val (.int (Int32.ofNat (s_ * 48 / 64))), s8] [(.int (64 : Int32)), (.int (Int32.ofNat (s_ * 48)))])) (fun tt_ kk_ => XS.bipush X12.here hx rfl (hb hby d7_62) kk_) ?_
          refine Gq.go (T12.setTop (mkF m 65 #[.val (.ref a1), .val (.ref b2), .val (.int (Int32.ofNat hd)), .val (.int (Int32.ofNat s_)), .val (.long co), .second, .val (.int (Int32.ofNat (s_ * 48))), .val (.int (Int32.ofNat (s_ * 48 / 64))), s8] [(.int ((Int32.ofNat (s_ * 48)) % (64 : Int32)))])) (fun tt_ kk_ => iremM X12 hx rfl (hb hby d7_64) rfl (by decide) kk_) ?_
          rw [show ((Int32.ofNat (s_ * 48)) % (64 : Int32)) = (Int32.ofNat (s_ * 48 % 64)) from own_rem (d := 64) (by omega) (by decide)]
          have hst65 : storeLocals #[.val (.ref a1), .val (.ref b2), .val (.int (Int32.ofNat hd)), .val (.int (Int32.ofNat s_)), .val (.long co), .second, .val (.int (Int32.ofNat (s_ * 48))), .val (.int (Int32.ofNat (s_ * 48 / 64))), s8] 8 (.int (Int32.ofNat (s_ * 48 % 64))) = some #[.val (.ref a1), .val (.ref b2), .val (.int (Int32.ofNat hd)), .val (.int (Int32.ofNat s_)), .val (.long co), .second, .val (.int (Int32.ofNat (s_ * 48))), .val (.int (Int32.ofNat (s_ * 48 / 64))), .val (.int (Int32.ofNat (s_ * 48 % 64)))] := by rcases p8 with rfl | ⟨y, rfl⟩ <;> rfl
          refine Gq.go (T12.setTop (mkF m 67 #[.val (.ref a1), .val (.ref b2), .val (.int (Int32.ofNat hd)), .val (.int (Int32.ofNat s_)), .val (.long co), .second, .val (.int (Int32.ofNat (s_ * 48))), .val (.int (Int32.ofNat (s_ * 48 / 64))), .val (.int (Int32.ofNat (s_ * 48 % 64)))] [])) (fun tt_ kk_ => XS.istore X12.here hx rfl (hb hby d7_65) rfl (l' := #[.val (.ref a1), .val (.ref b2), .val (.int (Int32.ofNat hd)), .val (.int (Int32.ofNat s_)), .val (.long co), .second, .val (.int (Int32.ofNat (s_ * 48))), .val (.int (Int32.ofNat (s_ * 48 / 64))), .val (.int (Int32.ofNat (s_ * 48 % 64)))]) hst65 kk_) ?_
          refine Gq.go (T12.setTop (mkF m 68 #[.val (.ref a1), .val (.ref b2), .val (.int (Int32.ofNat hd)), .val (.int (Int32.ofNat s_)), .val (.long co), .second, .val (.int (Int32.ofNat (s_ * 48))), .val (.int (Int32.ofNat (s_ * 48 / 64))), .val (.int (Int32.ofNat (s_ * 48 % 64)))] [(.ref b2)])) (fun tt_ kk_ => XS.aloadN X12.here hx rfl (hb hby d7_67) rfl rfl kk_) ?_
          refine Gq.go (T12.setTop (mkF m 69 #[.val (.ref a1), .val (.ref b2), .val (.int (Int32.ofNat hd)), .val (.int (Int32.ofNat s_)), .val (.long co), .second, .val (.int (Int32.ofNat (s_ * 48))), .val (.int (Int32.ofNat (s_ * 48 / 64))), .val (.int (Int32.ofNat (s_ * 48 % 64)))] [(.int (Int32.ofNat hd)), (.ref b2)])) (fun tt_ kk_ => XS.iloadN X12.here hx rfl (hb hby d7_68) rfl kk_) ?_
          refine Gq.go (T12.setTop (mkF m 71 #[.val (.ref a1), .val (.ref b2), .val (.int (Int32.ofNat hd)), .val (.int (Int32.ofNat s_)), .val (.long co), .second, .val (.int (Int32.ofNat (s_ * 48))), .val (.int (Int32.ofNat (s_ * 48 / 64))), .val (.int (Int32.ofNat (s_ * 48 % 64)))] [(.int (32 : Int32)), (.int (Int32.ofNat hd)), (.ref b2)])) (fun tt_ kk_ => XS.bipush X12.here hx rfl (hb hby d7_69) kk_) ?_
          refine Gq.go (T12.setTop (mkF m 72 #[.val (.ref a1), .val (.ref b2), .val (.int (Int32.ofNat hd)), .val (.int (Int32.ofNat s_)), .val (.long co), .second, .val (.int (Int32.ofNat (s_ * 48))), .val (.int (Int32.ofNat (s_ * 48 / 64))), .val (.int (Int32.ofNat (s_ * 48 % 64)))] [(.int ((Int32.ofNat hd) * (32 : Int32))), (.ref b2)])) (fun tt_ kk_ => XS.imul X12.here hx rfl (hb hby d7_71) rfl kk_) ?_
          rw [show ((Int32.ofNat hd) * (32 : Int32)) = (Int32.ofNat (hd * 32)) from own_mul hd 32]
          refine Gq.go (T12.setTop (mkF m 74 #[.val (.ref a1), .val (.ref b2), .val (.int (Int32.ofNat hd)), .val (.int (Int32.ofNat s_)), .val (.long co), .second, .val (.int (Int32.ofNat (s_ * 48))), .val (.int (Int32.ofNat (s_ * 48 / 64))), .val (.int (Int32.ofNat (s_ * 48 % 64)))] [(.int (Int32.ofNat (s_ * 48 / 64))), (.int (Int32.ofNat (hd * 32))), (.ref b2)])) (fun tt_ kk_ => XS.iload X12.here hx rfl (hb hby d7_72) rfl kk_) ?_
          refine Gq.go (T12.setTop (mkF m 75 #[.val (.ref a1), .val (.ref b2), .val (.int (Int32.ofNat hd)), .val (.int (Int32.ofNat s_)), .val (.long co), .second, .val (.int (Int32.ofNat (s_ * 48))), .val (.int (Int32.ofNat (s_ * 48 / 64))), .val (.int (Int32.ofNat (s_ * 48 % 64)))] [(.int ((Int32.ofNat (hd * 32)) + (Int32.ofNat (s_ * 48 / 64)))), (.ref b2)])) (fun tt_ kk_ => XS.iadd X12.here hx rfl (hb hby d7_74) rfl kk_) ?_
          rw [show ((Int32.ofNat (hd * 32)) + (Int32.ofNat (s_ * 48 / 64))) = (Int32.ofNat (hd * 32 + s_ * 48 / 64)) from own_add _ _]
          refine Gq.go (T12.setTop (mkF m 76 #[.val (.ref a1), .val (.ref b2), .val (.int (Int32.ofNat hd)), .val (.int (Int32.ofNat s_)), .val (.long co), .second, .val (.int (Int32.ofNat (s_ * 48))), .val (.int (Int32.ofNat (s_ * 48 / 64))), .val (.int (Int32.ofNat (s_ * 48 % 64)))] [(.int (Int32.ofNat (hd * 32 + s_ * 48 / 64))), (.ref b2), (.int (Int32.ofNat (hd * 32 + s_ * 48 / 64))), (.ref b2)])) (fun tt_ kk_ => Jvm.Free.XT.dup2 X12.here hx rfl (hb hby d7_75) rfl rfl rfl kk_) ?_
          refine Gq.go (T12.setTop (mkF m 77 #[.val (.ref a1), .val (.ref b2), .val (.int (Int32.ofNat hd)), .val (.int (Int32.ofNat s_)), .val (.long co), .second, .val (.int (Int32.ofNat (s_ * 48))), .val (.int (Int32.ofNat (s_ * 48 / 64))), .val (.int (Int32.ofNat (s_ * 48 % 64)))] [(.long (Gv2 (hd * 32 + s_ * 48 / 64))), (.int (Int32.ofNat (hd * 32 + s_ * 48 / 64))), (.ref b2)])) (fun tt_ kk_ => ldJ X12 hx hZ eh12 Voq2 (j := (Int32.ofNat (hd * 32 + s_ * 48 / 64))) (i := (hd * 32 + s_ * 48 / 64)) (x := (Gv2 (hd * 32 + s_ * 48 / 64))) (own_nn (by omega)) (own_nc (by omega)) (by omega) rfl (hb hby d7_76) tt_ kk_) ?_
          refine Gq.go (T12.setTop (mkF m 79 #[.val (.ref a1), .val (.ref b2), .val (.int (Int32.ofNat hd)), .val (.int (Int32.ofNat s_)), .val (.long co), .second, .val (.int (Int32.ofNat (s_ * 48))), .val (.int (Int32.ofNat (s_ * 48 / 64))), .val (.int (Int32.ofNat (s_ * 48 % 64)))] [(.long co), (.long (Gv2 (hd * 32 + s_ * 48 / 64))), (.int (Int32.ofNat (hd * 32 + s_ * 48 / 64))), (.ref b2)])) (fun tt_ kk_ => XS.lload X12.here hx rfl (hb hby d7_77) rfl kk_) ?_
          refine Gq.go (T12.setTop (mkF m 81 #[.val (.ref a1), .val (.ref b2), .val (.int (Int32.ofNat hd)), .val (.int (Int32.ofNat s_)), .val (.long co), .second, .val (.int (Int32.ofNat (s_ * 48))), .val (.int (Int32.ofNat (s_ * 48 / 64))), .val (.int (Int32.ofNat (s_ * 48 % 64)))] [(.int (Int32.ofNat (s_ * 48 % 64))), (.long co), (.long (Gv2 (hd * 32 + s_ * 48 / 64))), (.int (Int32.ofNat (hd * 32 + s_ * 48 / 64))), (.ref b2)])) (fun tt_ kk_ => XS.iload X12.here hx rfl (hb hby d7_79) rfl kk_) ?_
          refine Gq.go (T12.setTop (mkF m 82 #[.val (.ref a1), .val (.ref b2), .val (.int (Int32.ofNat hd)), .val (.int (Int32.ofNat s_)), .val (.long co), .second, .val (.int (Int32.ofNat (s_ * 48))), .val (.int (Int32.ofNat (s_ * 48 / 64))), .val (.int (Int32.ofNat (s_ * 48 % 64)))] [(.long (co <<< ((Int32.ofNat (s_ * 48 % 64)) &&& 0x3f).toInt64)), (.long (Gv2 (hd * 32 + s_ * 48 / 64))), (.int (Int32.ofNat (hd * 32 + s_ * 48 / 64))), (.ref b2)])) (fun tt_ kk_ => XS.lshl X12.here hx rfl (hb hby d7_81) rfl kk_) ?_
          refine Gq.go (T12.setTop (mkF m 83 #[.val (.ref a1), .val (.ref b2), .val (.int (Int32.ofNat hd)), .val (.int (Int32.ofNat s_)), .val (.long co), .second, .val (.int (Int32.ofNat (s_ * 48))), .val (.int (Int32.ofNat (s_ * 48 / 64))), .val (.int (Int32.ofNat (s_ * 48 % 64)))] [(.long ((Gv2 (hd * 32 + s_ * 48 / 64)) ||| (co <<< ((Int32.ofNat (s_ * 48 % 64)) &&& 0x3f).toInt64))), (.int (Int32.ofNat (hd * 32 + s_ * 48 / 64))), (.ref b2)])) (fun tt_ kk_ => XS.lor X12.here hx rfl (hb hby d7_82) rfl kk_) ?_
          obtain ⟨T13, h13, X13, eh13, W13, st13⟩ := stoJ X12 hx hZ eh12 Voq2 (j := (Int32.ofNat (hd * 32 + s_ * 48 / 64))) (i := (hd * 32 + s_ * 48 / 64)) (x := ((Gv2 (hd * 32 + s_ * 48 / 64)) ||| (co <<< ((Int32.ofNat (s_ * 48 % 64)) &&& 0x3f).toInt64))) (Ls := #[.val (.ref a1), .val (.ref b2), .val (.int (Int32.ofNat hd)), .val (.int (Int32.ofNat s_)), .val (.long co), .second, .val (.int (Int32.ofNat (s_ * 48))), .val (.int (Int32.ofNat (s_ * 48 / 64))), .val (.int (Int32.ofNat (s_ * 48 % 64)))]) (rest := []) (own_nn (by omega)) (own_nc (by omega)) (by omega) (hb hby d7_83)
          have fa14 := Fcq2.other W13 (Or.inl ne_a1_b2)
          have fa15 := Frq2.other W13 (Or.inl ne_a1_b2)
          have fa16 := Vq2.other W13 ne_rn_b2
          have ta17 := Nat.lt_of_lt_of_le Voq2.lt (Nat.le_of_eq W13.size.symm)
          have za18 : n0 ≤ h13.size := Nat.le_trans zq2 (Nat.le_of_eq W13.size.symm)
          have V13 : LA Z h13 b2 .long (cn * 32) (fun i => .long ((updI Gv2 (hd * 32 + s_ * 48 / 64) ((Gv2 (hd * 32 + s_ * 48 / 64)) ||| (co <<< ((Int32.ofNat (s_ * 48 % 64)) &&& 0x3f).toInt64))) i)) := (Voq2.set W13).congr (fun i _ => upd_long _ _ _ i)
          have Ka19 := Kq2.wr W13 (Or.inr sz_b2)
          have N13 := Fr.snoc X13 Nq2 g_b2
          refine Gq.go (T13.setTop (mkF m 84 #[.val (.ref a1), .val (.ref b2), .val (.int (Int32.ofNat hd)), .val (.int (Int32.ofNat s_)), .val (.long co), .second, .val (.int (Int32.ofNat (s_ * 48))), .val (.int (Int32.ofNat (s_ * 48 / 64))), .val (.int (Int32.ofNat (s_ * 48 % 64)))] [])) (fun tt_ kk_ => st13 tt_ kk_) ?_
          refine Gq.go (T13.setTop (mkF m 86 #[.val (.ref a1), .val (.ref b2), .val (.int (Int32.ofNat hd)), .val (.int (Int32.ofNat s_)), .val (.long co), .second, .val (.int (Int32.ofNat (s_ * 48))), .val (.int (Int32.ofNat (s_ * 48 / 64))), .val (.int (Int32.ofNat (s_ * 48 % 64)))] [(.int (Int32.ofNat (s_ * 48 % 64)))])) (fun tt_ kk_ => XS.iload X13.here hx rfl (hb hby d7_84) rfl kk_) ?_
          refine Gq.go (T13.setTop (mkF m 88 #[.val (.ref a1), .val (.ref b2), .val (.int (Int32.ofNat hd)), .val (.int (Int32.ofNat s_)), .val (.long co), .second, .val (.int (Int32.ofNat (s_ * 48))), .val (.int (Int32.ofNat (s_ * 48 / 64))), .val (.int (Int32.ofNat (s_ * 48 % 64)))] [(.int (16 : Int32)), (.int (Int32.ofNat (s_ * 48 % 64)))])) (fun tt_ kk_ => XS.bipush X13.here hx rfl (hb hby d7_86) kk_) ?_
          by_cases h16 : 16 < s_ * 48 % 64
          · refine Gq.go (T13.setTop (mkF m 91 #[.val (.ref a1), .val (.ref b2), .val (.int (Int32.ofNat hd)), .val (.int (Int32.ofNat s_)), .val (.long co), .second, .val (.int (Int32.ofNat (s_ * 48))), .val (.int (Int32.ofNat (s_ * 48 / 64))), .val (.int (Int32.ofNat (s_ * 48 % 64)))] [])) (fun tt_ kk_ => XS.icmpNo X13.here hx rfl (hb hby d7_88) rfl (tlt ((own_lt (a := 16) (by decide) (by omega)).mpr h16)).2.2.2 kk_) ?_
            refine Gq.go (T13.setTop (mkF m 93 #[.val (.ref a1), .val (.ref b2), .val (.int (Int32.ofNat hd)), .val (.int (Int32.ofNat s_)), .val (.long co), .second, .val (.int (Int32.ofNat (s_ * 48))), .val (.int (Int32.ofNat (s_ * 48 / 64))), .val (.int (Int32.ofNat (s_ * 48 % 64)))] [(.int (Int32.ofNat (s_ * 48 / 64)))])) (fun tt_ kk_ => XS.iload X13.here hx rfl (hb hby d7_91) rfl kk_) ?_
            refine Gq.go (T13.setTop (mkF m 94 #[.val (.ref a1), .val (.ref b2), .val (.int (Int32.ofNat hd)), .val (.int (Int32.ofNat s_)), .val (.long co), .second, .val (.int (Int32.ofNat (s_ * 48))), .val (.int (Int32.ofNat (s_ * 48 / 64))), .val (.int (Int32.ofNat (s_ * 48 % 64)))] [(.int (1 : Int32)), (.int (Int32.ofNat (s_ * 48 / 64)))])) (fun tt_ kk_ => XS.iconst X13.here hx rfl (hb hby d7_93) kk_) ?_
            refine Gq.go (T13.setTop (mkF m 95 #[.val (.ref a1), .val (.ref b2), .val (.int (Int32.ofNat hd)), .val (.int (Int32.ofNat s_)), .val (.long co), .second, .val (.int (Int32.ofNat (s_ * 48))), .val (.int (Int32.ofNat (s_ * 48 / 64))), .val (.int (Int32.ofNat (s_ * 48 % 64)))] [(.int ((Int32.ofNat (s_ * 48 / 64)) + (1 : Int32)))])) (fun tt_ kk_ => XS.iadd X13.here hx rfl (hb hby d7_94) rfl kk_) ?_
            rw [show ((Int32.ofNat (s_ * 48 / 64)) + (1 : Int32)) = (Int32.ofNat (s_ * 48 / 64 + 1)) from own_add _ 1]
            refine Gq.go (T13.setTop (mkF m 97 #[.val (.ref a1), .val (.ref b2), .val (.int (Int32.ofNat hd)), .val (.int (Int32.ofNat s_)), .val (.long co), .second, .val (.int (Int32.ofNat (s_ * 48))), .val (.int (Int32.ofNat (s_ * 48 / 64))), .val (.int (Int32.ofNat (s_ * 48 % 64)))] [(.int (32 : Int32)), (.int (Int32.ofNat (s_ * 48 / 64 + 1)))])) (fun tt_ kk_ => XS.bipush X13.here hx rfl (hb hby d7_95) kk_) ?_
            by_cases hw : s_ * 48 / 64 + 1 < 32
            · refine Gq.go (T13.setTop (mkF m 100 #[.val (.ref a1), .val (.ref b2), .val (.int (Int32.ofNat hd)), .val (.int (Int32.ofNat s_)), .val (.long co), .second, .val (.int (Int32.ofNat (s_ * 48))), .val (.int (Int32.ofNat (s_ * 48 / 64))), .val (.int (Int32.ofNat (s_ * 48 % 64)))] [])) (fun tt_ kk_ => XS.icmpNo X13.here hx rfl (hb hby d7_97) rfl (tlt ((own_lt (b := 32) (by omega) (by decide)).mpr hw)).2.1 kk_) ?_
              refine Gq.go (T13.setTop (mkF m 101 #[.val (.ref a1), .val (.ref b2), .val (.int (Int32.ofNat hd)), .val (.int (Int32.ofNat s_)), .val (.long co), .second, .val (.int (Int32.ofNat (s_ * 48))), .val (.int (Int32.ofNat (s_ * 48 / 64))), .val (.int (Int32.ofNat (s_ * 48 % 64)))] [(.ref b2)])) (fun tt_ kk_ => XS.aloadN X13.here hx rfl (hb hby d7_100) rfl rfl kk_) ?_
              refine Gq.go (T13.setTop (mkF m 102 #[.val (.ref a1), .val (.ref b2), .val (.int (Int32.ofNat hd)), .val (.int (Int32.ofNat s_)), .val (.long co), .second, .val (.int (Int32.ofNat (s_ * 48))), .val (.int (Int32.ofNat (s_ * 48 / 64))), .val (.int (Int32.ofNat (s_ * 48 % 64)))] [(.int (Int32.ofNat hd)), (.ref b2)])) (fun tt_ kk_ => XS.iloadN X13.here hx rfl (hb hby d7_101) rfl kk_) ?_
              refine Gq.go (T13.setTop (mkF m 104 #[.val (.ref a1), .val (.ref b2), .val (.int (Int32.ofNat hd)), .val (.int (Int32.ofNat s_)), .val (.long co), .second, .val (.int (Int32.ofNat (s_ * 48))), .val (.int (Int32.ofNat (s_ * 48 / 64))), .val (.int (Int32.ofNat (s_ * 48 % 64)))] [(.int (32 : Int32)), (.int (Int32.ofNat hd)), (.ref b2)])) (fun tt_ kk_ => XS.bipush X13.here hx rfl (hb hby d7_102) kk_) ?_
              refine Gq.go (T13.setTop (mkF m 105 #[.val (.ref a1), .val (.ref b2), .val (.int (Int32.ofNat hd)), .val (.int (Int32.ofNat s_)), .val (.long co), .second, .val (.int (Int32.ofNat (s_ * 48))), .val (.int (Int32.ofNat (s_ * 48 / 64))), .val (.int (Int32.ofNat (s_ * 48 % 64)))] [(.int ((Int32.ofNat hd) * (32 : Int32))), (.ref b2)])) (fun tt_ kk_ => XS.imul X13.here hx rfl (hb hby d7_104) rfl kk_) ?_
              rw [show ((Int32.ofNat hd) * (32 : Int32)) = (Int32.ofNat (hd * 32)) from own_mul hd 32]
              refine Gq.go (T13.setTop (mkF m 107 #[.val (.ref a1), .val (.ref b2), .val (.int (Int32.ofNat hd)), .val (.int (Int32.ofNat s_)), .val (.long co), .second, .val (.int (Int32.ofNat (s_ * 48))), .val (.int (Int32.ofNat (s_ * 48 / 64))), .val (.int (Int32.ofNat (s_ * 48 % 64)))] [(.int (Int32.ofNat (s_ * 48 / 64))), (.int (Int32.ofNat (hd * 32))), (.ref b2)])) (fun tt_ kk_ => XS.iload X13.here hx rfl (hb hby d7_105) rfl kk_) ?_
              refine Gq.go (T13.setTop (mkF m 108 #[.val (.ref a1), .val (.ref b2), .val (.int (Int32.ofNat hd)), .val (.int (Int32.ofNat s_)), .val (.long co), .second, .val (.int (Int32.ofNat (s_ * 48))), .val (.int (Int32.ofNat (s_ * 48 / 64))), .val (.int (Int32.ofNat (s_ * 48 % 64)))] [(.int ((Int32.ofNat (hd * 32)) + (Int32.ofNat (s_ * 48 / 64)))), (.ref b2)])) (fun tt_ kk_ => XS.iadd X13.here hx rfl (hb hby d7_107) rfl kk_) ?_
              rw [show ((Int32.ofNat (hd * 32)) + (Int32.ofNat (s_ * 48 / 64))) = (Int32.ofNat (hd * 32 + s_ * 48 / 64)) from own_add _ _]
              refine Gq.go (T13.setTop (mkF m 109 #[.val (.ref a1), .val (.ref b2), .val (.int (Int32.ofNat hd)), .val (.int (Int32.ofNat s_)), .val (.long co), .second, .val (.int (Int32.ofNat (s_ * 48))), .val (.int (Int32.ofNat (s_ * 48 / 64))), .val (.int (Int32.ofNat (s_ * 48 % 64)))] [(.int (1 : Int32)), (.int (Int32.ofNat (hd * 32 + s_ * 48 / 64))), (.ref b2)])) (fun tt_ kk_ => XS.iconst X13.here hx rfl (hb hby d7_108) kk_) ?_
              refine Gq.go (T13.setTop (mkF m 110 #[.val (.ref a1), .val (.ref b2), .val (.int (Int32.ofNat hd)), .val (.int (Int32.ofNat s_)), .val (.long co), .second, .val (.int (Int32.ofNat (s_ * 48))), .val (.int (Int32.ofNat (s_ * 48 / 64))), .val (.int (Int32.ofNat (s_ * 48 % 64)))] [(.int ((Int32.ofNat (hd * 32 + s_ * 48 / 64)) + (1 : Int32))), (.ref b2)])) (fun tt_ kk_ => XS.iadd X13.here hx rfl (hb hby d7_109) rfl kk_) ?_
              rw [show ((Int32.ofNat (hd * 32 + s_ * 48 / 64)) + (1 : Int32)) = (Int32.ofNat (hd * 32 + s_ * 48 / 64 + 1)) from own_add _ 1]
              refine Gq.go (T13.setTop (mkF m 111 #[.val (.ref a1), .val (.ref b2), .val (.int (Int32.ofNat hd)), .val (.int (Int32.ofNat s_)), .val (.long co), .second, .val (.int (Int32.ofNat (s_ * 48))), .val (.int (Int32.ofNat (s_ * 48 / 64))), .val (.int (Int32.ofNat (s_ * 48 % 64)))] [(.int (Int32.ofNat (hd * 32 + s_ * 48 / 64 + 1))), (.ref b2), (.int (Int32.ofNat (hd * 32 + s_ * 48 / 64 + 1))), (.ref b2)])) (fun tt_ kk_ => Jvm.Free.XT.dup2 X13.here hx rfl (hb hby d7_110) rfl rfl rfl kk_) ?_
              refine Gq.go (T13.setTop (mkF m 112 #[.val (.ref a1), .val (.ref b2), .val (.int (Int32.ofNat hd)), .val (.int (Int32.ofNat s_)), .val (.long co), .second, .val (.int (Int32.ofNat (s_ * 48))), .val (.int (Int32.ofNat (s_ * 48 / 64))), .val (.int (Int32.ofNat (s_ * 48 % 64)))] [(.long ((updI Gv2 (hd * 32 + s_ * 48 / 64) ((Gv2 (hd * 32 + s_ * 48 / 64)) ||| (co <<< ((Int32.ofNat (s_ * 48 % 64)) &&& 0x3f).toInt64))) (hd * 32 + s_ * 48 / 64 + 1))), (.int (Int32.ofNat (hd * 32 + s_ * 48 / 64 + 1))), (.ref b2)])) (fun tt_ kk_ => ldJ X13 hx hZ eh13 V13 (j := (Int32.ofNat (hd * 32 + s_ * 48 / 64 + 1))) (i := (hd * 32 + s_ * 48 / 64 + 1)) (x := ((updI Gv2 (hd * 32 + s_ * 48 / 64) ((Gv2 (hd * 32 + s_ * 48 / 64)) ||| (co <<< ((Int32.ofNat (s_ * 48 % 64)) &&& 0x3f).toInt64))) (hd * 32 + s_ * 48 / 64 + 1))) (own_nn (by omega)) (own_nc (by omega)) (by omega) rfl (hb hby d7_111) tt_ kk_) ?_
              refine Gq.go (T13.setTop (mkF m 114 #[.val (.ref a1), .val (.ref b2), .val (.int (Int32.ofNat hd)), .val (.int (Int32.ofNat s_)), .val (.long co), .second, .val (.int (Int32.ofNat (s_ * 48))), .val (.int (Int32.ofNat (s_ * 48 / 64))), .val (.int (Int32.ofNat (s_ * 48 % 64)))] [(.long co), (.long ((updI Gv2 (hd * 32 + s_ * 48 / 64) ((Gv2 (hd * 32 + s_ * 48 / 64)) ||| (co <<< ((Int32.ofNat (s_ * 48 % 64)) &&& 0x3f).toInt64))) (hd * 32 + s_ * 48 / 64 + 1))), (.int (Int32.ofNat (hd * 32 + s_ * 48 / 64 + 1))), (.ref b2)])) (fun tt_ kk_ => XS.lload X13.here hx rfl (hb hby d7_112) rfl kk_) ?_
              refine Gq.go (T13.setTop (mkF m 116 #[.val (.ref a1), .val (.ref b2), .val (.int (Int32.ofNat hd)), .val (.int (Int32.ofNat s_)), .val (.long co), .second, .val (.int (Int32.ofNat (s_ * 48))), .val (.int (Int32.ofNat (s_ * 48 / 64))), .val (.int (Int32.ofNat (s_ * 48 % 64)))] [(.int (64 : Int32)), (.long co), (.long ((updI Gv2 (hd * 32 + s_ * 48 / 64) ((Gv2 (hd * 32 + s_ * 48 / 64)) ||| (co <<< ((Int32.ofNat (s_ * 48 % 64)) &&& 0x3f).toInt64))) (hd * 32 + s_ * 48 / 64 + 1))), (.int (Int32.ofNat (hd * 32 + s_ * 48 / 64 + 1))), (.ref b2)])) (fun tt_ kk_ => XS.bipush X13.here hx rfl (hb hby d7_114) kk_) ?_
              refine Gq.go (T13.setTop (mkF m 118 #[.val (.ref a1), .val (.ref b2), .val (.int (Int32.ofNat hd)), .val (.int (Int32.ofNat s_)), .val (.long co), .second, .val (.int (Int32.ofNat (s_ * 48))), .val (.int (Int32.ofNat (s_ * 48 / 64))), .val (.int (Int32.ofNat (s_ * 48 % 64)))] [(.int (Int32.ofNat (s_ * 48 % 64))), (.int (64 : Int32)), (.long co), (.long ((updI Gv2 (hd * 32 + s_ * 48 / 64) ((Gv2 (hd * 32 + s_ * 48 / 64)) ||| (co <<< ((Int32.ofNat (s_ * 48 % 64)) &&& 0x3f).toInt64))) (hd * 32 + s_ * 48 / 64 + 1))), (.int (Int32.ofNat (hd * 32 + s_ * 48 / 64 + 1))), (.ref b2)])) (fun tt_ kk_ => XS.iload X13.here hx rfl (hb hby d7_116) rfl kk_) ?_
              refine Gq.go (T13.setTop (mkF m 119 #[.val (.ref a1), .val (.ref b2), .val (.int (Int32.ofNat hd)), .val (.int (Int32.ofNat s_)), .val (.long co), .second, .val (.int (Int32.ofNat (s_ * 48))), .val (.int (Int32.ofNat (s_ * 48 / 64))), .val (.int (Int32.ofNat (s_ * 48 % 64)))] [(.int ((64 : Int32) - (Int32.ofNat (s_ * 48 % 64)))), (.long co), (.long ((updI Gv2 (hd * 32 + s_ * 48 / 64) ((Gv2 (hd * 32 + s_ * 48 / 64)) ||| (co <<< ((Int32.ofNat (s_ * 48 % 64)) &&& 0x3f).toInt64))) (hd * 32 + s_ * 48 / 64 + 1))), (.int (Int32.ofNat (hd * 32 + s_ * 48 / 64 + 1))), (.ref b2)])) (fun tt_ kk_ => XS.isub X13.here hx rfl (hb hby d7_118) rfl kk_) ?_
              rw [show ((64 : Int32) - (Int32.ofNat (s_ * 48 % 64))) = (Int32.ofNat (64 - s_ * 48 % 64)) from own_sub (a := 64) (by omega)]
              refine Gq.go (T13.setTop (mkF m 120 #[.val (.ref a1), .val (.ref b2), .val (.int (Int32.ofNat hd)), .val (.int (Int32.ofNat s_)), .val (.long co), .second, .val (.int (Int32.ofNat (s_ * 48))), .val (.int (Int32.ofNat (s_ * 48 / 64))), .val (.int (Int32.ofNat (s_ * 48 % 64)))] [(.long ((co.toUInt64 >>> ((Int32.ofNat (64 - s_ * 48 % 64)) &&& 0x3f).toInt64.toUInt64).toInt64)), (.long ((updI Gv2 (hd * 32 + s_ * 48 / 64) ((Gv2 (hd * 32 + s_ * 48 / 64)) ||| (co <<< ((Int32.ofNat (s_ * 48 % 64)) &&& 0x3f).toInt64))) (hd * 32 + s_ * 48 / 64 + 1))), (.int (Int32.ofNat (hd * 32 + s_ * 48 / 64 + 1))), (.ref b2)])) (fun tt_ kk_ => XS.lushr X13.here hx rfl (hb hby d7_119) rfl kk_) ?_
              refine Gq.go (T13.setTop (mkF m 121 #[.val (.ref a1), .val (.ref b2), .val (.int (Int32.ofNat hd)), .val (.int (Int32.ofNat s_)), .val (.long co), .second, .val (.int (Int32.ofNat (s_ * 48))), .val (.int (Int32.ofNat (s_ * 48 / 64))), .val (.int (Int32.ofNat (s_ * 48 % 64)))] [(.long (((updI Gv2 (hd * 32 + s_ * 48 / 64) ((Gv2 (hd * 32 + s_ * 48 / 64)) ||| (co <<< ((Int32.ofNat (s_ * 48 % 64)) &&& 0x3f).toInt64))) (hd * 32 + s_ * 48 / 64 + 1)) ||| ((co.toUInt64 >>> ((Int32.ofNat (64 - s_ * 48 % 64)) &&& 0x3f).toInt64.toUInt64).toInt64))), (.int (Int32.ofNat (hd * 32 + s_ * 48 / 64 + 1))), (.ref b2)])) (fun tt_ kk_ => XS.lor X13.here hx rfl (hb hby d7_120) rfl kk_) ?_
              obtain ⟨T20, h20, X20, eh20, W20, st20⟩ := stoJ X13 hx hZ eh13 V13 (j := (Int32.ofNat (hd * 32 + s_ * 48 / 64 + 1))) (i := (hd * 32 + s_ * 48 / 64 + 1)) (x := (((updI Gv2 (hd * 32 + s_ * 48 / 64) ((Gv2 (hd * 32 + s_ * 48 / 64)) ||| (co <<< ((Int32.ofNat (s_ * 48 % 64)) &&& 0x3f).toInt64))) (hd * 32 + s_ * 48 / 64 + 1)) ||| ((co.toUInt64 >>> ((Int32.ofNat (64 - s_ * 48 % 64)) &&& 0x3f).toInt64.toUInt64).toInt64))) (Ls := #[.val (.ref a1), .val (.ref b2), .val (.int (Int32.ofNat hd)), .val (.int (Int32.ofNat s_)), .val (.long co), .second, .val (.int (Int32.ofNat (s_ * 48))), .val (.int (Int32.ofNat (s_ * 48 / 64))), .val (.int (Int32.ofNat (s_ * 48 % 64)))]) (rest := []) (own_nn (by omega)) (own_nc (by omega)) (by omega) (hb hby d7_121)
              have fa21 := fa14.other W20 (Or.inl ne_a1_b2)
              have fa22 := fa15.other W20 (Or.inl ne_a1_b2)
              have fa23 := fa16.other W20 ne_rn_b2
              have ta24 := Nat.lt_of_lt_of_le ta17 (Nat.le_of_eq W20.size.symm)
              have za25 : n0 ≤ h20.size := Nat.le_trans za18 (Nat.le_of_eq W20.size.symm)
              have V20 : LA Z h20 b2 .long (cn * 32) (fun i => .long ((updI (updI Gv2 (hd * 32 + s_ * 48 / 64) ((Gv2 (hd * 32 + s_ * 48 / 64)) ||| (co <<< ((Int32.ofNat (s_ * 48 % 64)) &&& 0x3f).toInt64))) (hd * 32 + s_ * 48 / 64 + 1) (((updI Gv2 (hd * 32 + s_ * 48 / 64) ((Gv2 (hd * 32 + s_ * 48 / 64)) ||| (co <<< ((Int32.ofNat (s_ * 48 % 64)) &&& 0x3f).toInt64))) (hd * 32 + s_ * 48 / 64 + 1)) ||| ((co.toUInt64 >>> ((Int32.ofNat (64 - s_ * 48 % 64)) &&& 0x3f).toInt64.toUInt64).toInt64))) i)) := (V13.set W20).congr (fun i _ => upd_long _ _ _ i)
              have Ka26 := Ka19.wr W20 (Or.inr sz_b2)
              have N20 := Fr.snoc X20 N13 g_b2
              refine Gq.go (T20.setTop (mkF m 122 #[.val (.ref a1), .val (.ref b2), .val (.int (Int32.ofNat hd)), .val (.int (Int32.ofNat s_)), .val (.long co), .second, .val (.int (Int32.ofNat (s_ * 48))), .val (.int (Int32.ofNat (s_ * 48 / 64))), .val (.int (Int32.ofNat (s_ * 48 % 64)))] [])) (fun tt_ kk_ => st20 tt_ kk_) ?_
              refine Gq.go (T20.setTop (mkF m 125 #[.val (.ref a1), .val (.ref b2), .val (.int (Int32.ofNat hd)), .val (.int ((Int32.ofNat s_) + (1 : Int32))), .val (.long co), .second, .val (.int (Int32.ofNat (s_ * 48))), .val (.int (Int32.ofNat (s_ * 48 / 64))), .val (.int (Int32.ofNat (s_ * 48 % 64)))] [])) (fun tt_ kk_ => XS.iinc X20.here hx rfl (hb hby d7_122) rfl (l' := #[.val (.ref a1), .val (.ref b2), .val (.int (Int32.ofNat hd)), .val (.int ((Int32.ofNat s_) + (1 : Int32))), .val (.long co), .second, .val (.int (Int32.ofNat (s_ * 48))), .val (.int (Int32.ofNat (s_ * 48 / 64))), .val (.int (Int32.ofNat (s_ * 48 % 64)))]) rfl kk_) ?_
              rw [show ((Int32.ofNat s_) + (1 : Int32)) = Int32.ofNat (s_ + 1) from own_add s_ 1]
              refine Gq.go (T20.setTop (mkF m 22 #[.val (.ref a1), .val (.ref b2), .val (.int (Int32.ofNat hd)), .val (.int (Int32.ofNat (s_ + 1))), .val (.long co), .second, .val (.int (Int32.ofNat (s_ * 48))), .val (.int (Int32.ofNat (s_ * 48 / 64))), .val (.int (Int32.ofNat (s_ * 48 % 64)))] [])) (fun tt_ kk_ => XS.goto X20.here hx rfl (pc0 := 125) (pc' := 22) rfl (hb hby d7_125) (by decide) (by decide) kk_) ?_
              exact ih2 (s_ + 1) (by omega) _ _ _ _ _ (Or.inr ⟨_, rfl, rfl⟩) (Or.inr ⟨_, rfl⟩) (Or.inr ⟨_, rfl⟩) (Or.inr ⟨_, rfl⟩) _ _ _ _ X20 eh20 N20 za25 fa21 fa22 fa23 V20 Ka26 (fun i hi => (updI_ne _ _ (by omega)).trans ((updI_ne _ _ (by omega)).trans (done2 i hi))) (fun i hi => (updI_ne _ _ (by omega)).trans ((updI_ne _ _ (by omega)).trans (zero2 i hi))) (inv2.two (by omega) hcb h16 hw)
            · refine Gq.go (T13.setTop (mkF m 122 #[.val (.ref a1), .val (.ref b2), .val (.int (Int32.ofNat hd)), .val (.int (Int32.ofNat s_)), .val (.long co), .second, .val (.int (Int32.ofNat (s_ * 48))), .val (.int (Int32.ofNat (s_ * 48 / 64))), .val (.int (Int32.ofNat (s_ * 48 % 64)))] [])) (fun tt_ kk_ => XS.icmpYes X13.here hx rfl (pc0 := 97) (pc' := 122) rfl (hb hby d7_97) rfl (flt (fun q => hw ((own_lt (b := 32) (by omega) (by decide)).mp q))).2.1 (by decide) (by decide) kk_) ?_
              refine Gq.go (T13.setTop (mkF m 125 #[.val (.ref a1), .val (.ref b2), .val (.int (Int32.ofNat hd)), .val (.int ((Int32.ofNat s_) + (1 : Int32))), .val (.long co), .second, .val (.int (Int32.ofNat (s_ * 48))), .val (.int (Int32.ofNat (s_ * 48 / 64))), .val (.int (Int32.ofNat (s_ * 48 % 64)))] [])) (fun tt_ kk_ => XS.iinc X13.here hx rfl (hb hby d7_122) rfl (l' := #[.val (.ref a1), .val (.ref b2), .val (.int (Int32.ofNat hd)), .val (.int ((Int32.ofNat s_) + (1 : Int32))), .val (.long co), .second, .val (.int (Int32.ofNat (s_ * 48))), .val (.int (Int32.ofNat (s_ * 48 / 64))), .val (.int (Int32.ofNat (s_ * 48 % 64)))]) rfl kk_) ?_
              rw [show ((Int32.ofNat s_) + (1 : Int32)) = Int32.ofNat (s_ + 1) from own_add s_ 1]
              refine Gq.go (T13.setTop (mkF m 22 #[.val (.ref a1), .val (.ref b2), .val (.int (Int32.ofNat hd)), .val (.int (Int32.ofNat (s_ + 1))), .val (.long co), .second, .val (.int (Int32.ofNat (s_ * 48))), .val (.int (Int32.ofNat (s_ * 48 / 64))), .val (.int (Int32.ofNat (s_ * 48 % 64)))] [])) (fun tt_ kk_ => XS.goto X13.here hx rfl (pc0 := 125) (pc' := 22) rfl (hb hby d7_125) (by decide) (by decide) kk_) ?_
              exact ih2 (s_ + 1) (by omega) _ _ _ _ _ (Or.inr ⟨_, rfl, rfl⟩) (Or.inr ⟨_, rfl⟩) (Or.inr ⟨_, rfl⟩) (Or.inr ⟨_, rfl⟩) _ _ _ _ X13 eh13 N13 za18 fa14 fa15 fa16 V13 Ka19 (fun i hi => (updI_ne _ _ (by omega)).trans (done2 i hi)) (fun i hi => (updI_ne _ _ (by omega)).trans (zero2 i hi)) (inv2.one (by omega) hcb (by omega))
          · refine Gq.go (T13.setTop (mkF m 122 #[.val (.ref a1), .val (.ref b2), .val (.int (Int32.ofNat hd)), .val (.int (Int32.ofNat s_)), .val (.long co), .second, .val (.int (Int32.ofNat (s_ * 48))), .val (.int (Int32.ofNat (s_ * 48 / 64))), .val (.int (Int32.ofNat (s_ * 48 % 64)))] [])) (fun tt_ kk_ => XS.icmpYes X13.here hx rfl (pc0 := 88) (pc' := 122) rfl (hb hby d7_88) rfl (flt (fun q => h16 ((own_lt (a := 16) (by decide) (by omega)).mp q))).2.2.2 (by decide) (by decide) kk_) ?_
            refine Gq.go (T13.setTop (mkF m 125 #[.val (.ref a1), .val (.ref b2), .val (.int (Int32.ofNat hd)), .val (.int ((Int32.ofNat s_) + (1 : Int32))), .val (.long co), .second, .val (.int (Int32.ofNat (s_ * 48))), .val (.int (Int32.ofNat (s_ * 48 / 64))), .val (.int (Int32.ofNat (s_ * 48 % 64)))] [])) (fun tt_ kk_ => XS.iinc X13.here hx rfl (hb hby d7_122) rfl (l' := #[.val (.ref a1), .val (.ref b2), .val (.int (Int32.ofNat hd)), .val (.int ((Int32.ofNat s_) + (1 : Int32))), .val (.long co), .second, .val (.int (Int32.ofNat (s_ * 48))), .val (.int (Int32.ofNat (s_ * 48 / 64))), .val (.int (Int32.ofNat (s_ * 48 % 64)))]) rfl kk_) ?_
            rw [show ((Int32.ofNat s_) + (1 : Int32)) = Int32.ofNat (s_ + 1) from own_add s_ 1]
            refine Gq.go (T13.setTop (mkF m 22 #[.val (.ref a1), .val (.ref b2), .val (.int (Int32.ofNat hd)), .val (.int (Int32.ofNat (s_ + 1))), .val (.long co), .second, .val (.int (Int32.ofNat (s_ * 48))), .val (.int (Int32.ofNat (s_ * 48 / 64))), .val (.int (Int32.ofNat (s_ * 48 % 64)))] [])) (fun tt_ kk_ => XS.goto X13.here hx rfl (pc0 := 125) (pc' := 22) rfl (hb hby d7_125) (by decide) (by decide) kk_) ?_
            exact ih2 (s_ + 1) (by omega) _ _ _ _ _ (Or.inr ⟨_, rfl, rfl⟩) (Or.inr ⟨_, rfl⟩) (Or.inr ⟨_, rfl⟩) (Or.inr ⟨_, rfl⟩) _ _ _ _ X13 eh13 N13 za18 fa14 fa15 fa16 V13 Ka19 (fun i hi => (updI_ne _ _ (by omega)).trans (done2 i hi)) (fun i hi => (updI_ne _ _ (by omega)).trans (zero2 i hi)) (inv2.one (by omega) hcb (by omega))
      exact inner 43 0 rfl _ _ _ _ _ p4 p6 p7 p8 _ _ _ _ X11 eh11 Nq zq Fcq Frq Vq Voq Kq done (fun i hi => zero i (by omega)) (InvO.zero fun x hx => zero _ (by omega))
  exact outer cn 0 (by omega) _ _ _ _ _ _ (Or.inl rfl) (Or.inl ⟨rfl, rfl⟩) (Or.inl rfl) (Or.inl rfl) (Or.inl rfl) _ _ _ _ X2 eh2 N0 za8 fa3 fa4 fa5 V2' Ka9 (fun i hi => absurd hi (by omega)) (fun i hi => rfl)
theorem d8_0 : decode prog_29_method_10_code 0 = .ok (.iload_n 2, 1) := by decide +kernel
theorem d8_1 : decode prog_29_method_10_code 1 = .ok (.iconst 1, 1) := by decide +kernel
theorem d8_2 : decode prog_29_method_10_code 2 = .ok (.isub, 1) := by decide +kernel
theorem d8_3 : decode prog_29_method_10_code 3 = .ok (.sipush 2048, 3) := by decide +kernel
theorem d8_6 : decode prog_29_method_10_code 6 = .ok (.invokestatic 52, 3) := by decide +kernel
theorem d8_9 : decode prog_29_method_10_code 9 = .ok (.ifCond .lt 5, 3) := by decide +kernel
theorem d8_14 : decode prog_29_method_10_code 14 = .ok (.iload_n 2, 1) := by decide +kernel
theorem d8_15 : decode prog_29_method_10_code 15 = .ok (.iconst 1, 1) := by decide +kernel
theorem d8_16 : decode prog_29_method_10_code 16 = .ok (.isub, 1) := by decide +kernel
theorem d8_17 : decode prog_29_method_10_code 17 = .ok (.istore_n 3, 1) := by decide +kernel
theorem d8_18 : decode prog_29_method_10_code 18 = .ok (.iload_n 3, 1) := by decide +kernel
theorem d8_19 : decode prog_29_method_10_code 19 = .ok (.ldc 55, 2) := by decide +kernel
theorem d8_21 : decode prog_29_method_10_code 21 = .ok (.imul, 1) := by decide +kernel
theorem d8_22 : decode prog_29_method_10_code 22 = .ok (.bipush 21, 2) := by decide +kernel
theorem d8_24 : decode prog_29_method_10_code 24 = .ok (.iushr, 1) := by decide +kernel
theorem d8_25 : decode prog_29_method_10_code 25 = .ok (.istore 4, 2) := by decide +kernel
theorem d8_27 : decode prog_29_method_10_code 27 = .ok (.aload_n 0, 1) := by decide +kernel
theorem d8_28 : decode prog_29_method_10_code 28 = .ok (.getfield 18, 3) := by decide +kernel
theorem d8_31 : decode prog_29_method_10_code 31 = .ok (.iload_n 1, 1) := by decide +kernel
theorem d8_32 : decode prog_29_method_10_code 32 = .ok (.bipush 44, 2) := by decide +kernel
theorem d8_34 : decode prog_29_method_10_code 34 = .ok (.imul, 1) := by decide +kernel
theorem d8_35 : decode prog_29_method_10_code 35 = .ok (.iconst 1, 1) := by decide +kernel
theorem d8_36 : decode prog_29_method_10_code 36 = .ok (.iadd, 1) := by decide +kernel
theorem d8_37 : decode prog_29_method_10_code 37 = .ok (.iload 4, 2) := by decide +kernel
theorem d8_39 : decode prog_29_method_10_code 39 = .ok (.iadd, 1) := by decide +kernel
theorem d8_40 : decode prog_29_method_10_code 40 = .ok (.laload, 1) := by decide +kernel
theorem d8_41 : decode prog_29_method_10_code 41 = .ok (.lstore 5, 2) := by decide +kernel
theorem d8_43 : decode prog_29_method_10_code 43 = .ok (.lload 5, 2) := by decide +kernel
theorem d8_45 : decode prog_29_method_10_code 45 = .ok (.iload_n 3, 1) := by decide +kernel
theorem d8_46 : decode prog_29_method_10_code 46 = .ok (.iload 4, 2) := by decide +kernel
theorem d8_48 : decode prog_29_method_10_code 48 = .ok (.bipush 48, 2) := by decide +kernel
theorem d8_50 : decode prog_29_method_10_code 50 = .ok (.imul, 1) := by decide +kernel
theorem d8_51 : decode prog_29_method_10_code 51 = .ok (.isub, 1) := by decide +kernel
theorem d8_52 : decode prog_29_method_10_code 52 = .ok (.iconst (-1), 1) := by decide +kernel
theorem d8_53 : decode prog_29_method_10_code 53 = .ok (.ixor, 1) := by decide +kernel
theorem d8_54 : decode prog_29_method_10_code 54 = .ok (.lshl, 1) := by decide +kernel
theorem d8_55 : decode prog_29_method_10_code 55 = .ok (.lstore 7, 2) := by decide +kernel
theorem d8_57 : decode prog_29_method_10_code 57 = .ok (.lload 7, 2) := by decide +kernel
theorem d8_59 : decode prog_29_method_10_code 59 = .ok (.lconst 0, 1) := by decide +kernel
theorem d8_60 : decode prog_29_method_10_code 60 = .ok (.lcmp, 1) := by decide +kernel
theorem d8_61 : decode prog_29_method_10_code 61 = .ok (.ifCond .ge 20, 3) := by decide +kernel
theorem d8_64 : decode prog_29_method_10_code 64 = .ok (.lload 5, 2) := by decide +kernel
theorem d8_66 : decode prog_29_method_10_code 66 = .ok (.bipush 48, 2) := by decide +kernel
theorem d8_68 : decode prog_29_method_10_code 68 = .ok (.lushr, 1) := by decide +kernel
theorem d8_69 : decode prog_29_method_10_code 69 = .ok (.l2i, 1) := by decide +kernel
theorem d8_70 : decode prog_29_method_10_code 70 = .ok (.lload 7, 2) := by decide +kernel
theorem d8_72 : decode prog_29_method_10_code 72 = .ok (.invokestatic 56, 3) := by decide +kernel
theorem d8_75 : decode prog_29_method_10_code 75 = .ok (.iadd, 1) := by decide +kernel
theorem d8_76 : decode prog_29_method_10_code 76 = .ok (.iconst 1, 1) := by decide +kernel
theorem d8_77 : decode prog_29_method_10_code 77 = .ok (.isub, 1) := by decide +kernel
theorem d8_78 : decode prog_29_method_10_code 78 = .ok (.goto 4, 3) := by decide +kernel
theorem d8_81 : decode prog_29_method_10_code 81 = .ok (.iconst (-1), 1) := by decide +kernel
theorem d8_82 : decode prog_29_method_10_code 82 = .ok (.ireturn, 1) := by decide +kernel
theorem ef_rank2 (m : MethodId) (y0 : Addr) (y1 : Int32) (y2 : Int32) : entryFrame m #[(.ref y0), (.int y1), (.int y2)] 9 = mkF m 0 #[.val (.ref y0), .val (.int y1), .val (.int y2), .unset, .unset, .unset, .unset, .unset, .unset] [] := by first | (simp [entryFrame, mkF, argsToLocals, Value.category]; done) | rfl
def Q_rank2 (Z : State) (a1 : Addr) (hd : Nat) (bt : Nat) (cn : Nat) (rn : Addr) (F : Nat → Int64) (IN : Nat → Int64) (h0 : Heap) (n0 : Nat) (v : Option Value) (h : Heap) (L : List Loc) : Prop := ((v = some (.int (-1 : Int32)) ∧ oBITS IN hd bt = false) ∨ ∃ kz : Nat, kz < 2 ^ 31 ∧ v = some (.int (Int32.ofNat kz)) ∧ oBITS IN hd bt = true) ∧ Fr n0 L ∧ h = h0
set_option maxRecDepth 65536 in
set_option maxHeartbeats 40000000 in
theorem rm_rank2 (l : Launch) (Z : State) (a0 : Array Value) (hw : ∀ d ∈ tables_1, d.before a0 Z = true) (ws : List Jvm.Cond) (a1 : Addr) (hd : Nat) (bt : Nat) (cn : Nat) (rn : Addr) (F : Nat → Int64) (IN : Nat → Int64) (h0 : Heap) (n0 : Nat) (Z0 : n0 ≤ h0.size) (Fr1 : Fld Z h0 a1 "com/example/dense_trie/densetrie/Heads" "runs" "[J" (.ref rn)) (V1 : LA Z h0 rn .long (cn * 44) (fun i => .long (F i))) (hhd : hd < cn) (hc2 : cn ≤ 2) (hbt : bt < 2048) (gd : GoodW IN hd (bt / 48) (F (hd * 44 + 1 + bt / 48))) :
    MetFree l (⟨"com/example/dense_trie/densetrie/Heads", "rank", "(II)I"⟩ : MethodName) (head1 (Jvm.Cond.code (⟨"com/example/dense_trie/densetrie/Heads", "rank", "(II)I"⟩ : MethodName) prog_29_method_10_code 9 (some .int) :: ws) ({ frames := 2, cells := 0, slots := 0, locals := 26 } : Room)) (fun a U => a = #[(.ref a1), (.int (Int32.ofNat hd)), (.int (Int32.ofNat (bt + 1)))] ∧ Z.Warmed39 U.vm ∧ U.heap = h0) (fun _ _ _ _ _ => True) (fun _ U o U' => ∃ v L, o = .returned v ∧ Q_rank2 Z a1 hd bt cn rn F IN h0 n0 v U'.heap L ∧ FrameEnd U o U' L ({ frames := 2, cells := 0, slots := 0, locals := 26 } : Room).cells ({ frames := 2, cells := 0, slots := 0, locals := 26 } : Room).slots) := by
  refine MetFree.of_bodySF (plainFor_of_name pn_com_example_dense_trie_densetrie_Heads) hisR ?_
  intro p e s m args below meth c s₁ Bd hml0 hP hK
  obtain ⟨rfl, hZ, hh⟩ := hP
  have hx := Bd.exec
  have hby := Bd.bytes
  have hml : c.maxLocals = 9 := hml0
  have hown : s.vm.findClass "com/example/dense_trie/densetrie/Heads" = some m.cls := findClass_of_methodNamed Bd.named
  have hnm := (name_of_methodNamed Bd.named Bd.method).1
  have X0 : Stand p l e ({ frames := 2, cells := 0, slots := 0, locals := 26 } : Room) s m #[(.ref a1), (.int (Int32.ofNat hd)), (.int (Int32.ofNat (bt + 1)))] below meth c s₁ [] 0 0 := Stand.of_body Bd
  have eh0 : s₁.heap = h0 := by rw [← hh, Bd.state]; rfl
  have N0 := Fr.nil n0
  refine Gq.start (Q := Q_rank2 Z a1 hd bt cn rn F IN h0 n0) (kc := ({ frames := 2, cells := 0, slots := 0, locals := 26 } : Room).cells) (ks := ({ frames := 2, cells := 0, slots := 0, locals := 26 } : Room).slots) (ef_rank2 m a1 (Int32.ofNat hd) (Int32.ofNat (bt + 1))) ?_
  refine Gq.go (s₁.setTop (mkF m 1 #[.val (.ref a1), .val (.int (Int32.ofNat hd)), .val (.int (Int32.ofNat (bt + 1))), .unset, .unset, .unset, .unset, .unset, .unset] [(.int (Int32.ofNat (bt + 1)))])) (fun tt_ kk_ => XS.iloadN X0.here hx rfl (hb hby d8_0) rfl kk_) ?_
  refine Gq.go (s₁.setTop (mkF m 2 #[.val (.ref a1), .val (.int (Int32.ofNat hd)), .val (.int (Int32.ofNat (bt + 1))), .unset, .unset, .unset, .unset, .unset, .unset] [(.int (1 : Int32)), (.int (Int32.ofNat (bt + 1)))])) (fun tt_ kk_ => XS.iconst X0.here hx rfl (hb hby d8_1) kk_) ?_
  refine Gq.go (s₁.setTop (mkF m 3 #[.val (.ref a1), .val (.int (Int32.ofNat hd)), .val (.int (Int32.ofNat (bt + 1))), .unset, .unset, .unset, .unset, .unset, .unset] [(.int ((Int32.ofNat (bt + 1)) - (1 : Int32)))])) (fun tt_ kk_ => XS.isub X0.here hx rfl (hb hby d8_2) rfl kk_) ?_
  rw [show ((Int32.ofNat (bt + 1)) - (1 : Int32)) = (Int32.ofNat bt) from by rw [show (1 : Int32) = Int32.ofNat 1 from rfl, own_sub (by omega), Nat.add_sub_cancel]]
  refine Gq.go (s₁.setTop (mkF m 6 #[.val (.ref a1), .val (.int (Int32.ofNat hd)), .val (.int (Int32.ofNat (bt + 1))), .unset, .unset, .unset, .unset, .unset, .unset] [(.int (2048 : Int32)), (.int (Int32.ofNat bt))])) (fun tt_ kk_ => XS.sipush X0.here hx rfl (hb hby d8_3) kk_) ?_
  obtain ⟨r1, T1, L1, X1, hQ1, st1⟩ := callT (pc := 6) (Ls := #[.val (.ref a1), .val (.int (Int32.ofNat hd)), .val (.int (Int32.ofNat (bt + 1))), .unset, .unset, .unset, .unset, .unset, .unset]) X0 hx hZ hown eh0 [(.int (Int32.ofNat bt)), (.int (2048 : Int32))] [] (hw _ (List.mem_of_getElem? (i := 47) rfl)) (hw _ (List.mem_of_getElem? (i := 48) rfl)) (hw _ (List.mem_of_getElem? (i := 49) rfl)) (hw _ (List.mem_of_getElem? (i := 50) rfl)) (by decide) (rm_own_cu l Z a0 hw [] (Int32.ofNat bt) (2048 : Int32) h0 n0 Z0) pd_0 rfl (by rw [hml]; rfl) (W := 0) (Nat.le_of_eq rfl) (by decide) (by decide) (by decide) (by decide) (hb hby d8_6)
  obtain ⟨rfl, N1q, eh1⟩ := hQ1
  have N1 := Fr.app N0 N1q
  refine Gq.go (T1.setTop (mkF m 9 #[.val (.ref a1), .val (.int (Int32.ofNat hd)), .val (.int (Int32.ofNat (bt + 1))), .unset, .unset, .unset, .unset, .unset, .unset] [(.int (own_cu (Int32.ofNat bt) (2048 : Int32)))])) (fun tt_ kk_ => st1 tt_ kk_) ?_
  refine Gq.go (T1.setTop (mkF m 14 #[.val (.ref a1), .val (.int (Int32.ofNat hd)), .val (.int (Int32.ofNat (bt + 1))), .unset, .unset, .unset, .unset, .unset, .unset] [])) (fun tt_ kk_ => XS.ifYes X1.here hx rfl (pc0 := 9) (pc' := 14) rfl (hb hby d8_9) rfl ((if0 _ _).trans (tlt (o_cu bt hbt)).1) (by decide) (by decide) kk_) ?_
  refine Gq.go (T1.setTop (mkF m 15 #[.val (.ref a1), .val (.int (Int32.ofNat hd)), .val (.int (Int32.ofNat (bt + 1))), .unset, .unset, .unset, .unset, .unset, .unset] [(.int (Int32.ofNat (bt + 1)))])) (fun tt_ kk_ => XS.iloadN X1.here hx rfl (hb hby d8_14) rfl kk_) ?_
  refine Gq.go (T1.setTop (mkF m 16 #[.val (.ref a1), .val (.int (Int32.ofNat hd)), .val (.int (Int32.ofNat (bt + 1))), .unset, .unset, .unset, .unset, .unset, .unset] [(.int (1 : Int32)), (.int (Int32.ofNat (bt + 1)))])) (fun tt_ kk_ => XS.iconst X1.here hx rfl (hb hby d8_15) kk_) ?_
  refine Gq.go (T1.setTop (mkF m 17 #[.val (.ref a1), .val (.int (Int32.ofNat hd)), .val (.int (Int32.ofNat (bt + 1))), .unset, .unset, .unset, .unset, .unset, .unset] [(.int ((Int32.ofNat (bt + 1)) - (1 : Int32)))])) (fun tt_ kk_ => XS.isub X1.here hx rfl (hb hby d8_16) rfl kk_) ?_
  rw [show ((Int32.ofNat (bt + 1)) - (1 : Int32)) = (Int32.ofNat bt) from by rw [show (1 : Int32) = Int32.ofNat 1 from rfl, own_sub (by omega), Nat.add_sub_cancel]]
  refine Gq.go (T1.setTop (mkF m 18 #[.val (.ref a1), .val (.int (Int32.ofNat hd)), .val (.int (Int32.ofNat (bt + 1))), .val (.int (Int32.ofNat bt)), .unset, .unset, .unset, .unset, .unset] [])) (fun tt_ kk_ => XS.istoreN X1.here hx rfl (hb hby d8_17) rfl (l' := #[.val (.ref a1), .val (.int (Int32.ofNat hd)), .val (.int (Int32.ofNat (bt + 1))), .val (.int (Int32.ofNat bt)), .unset, .unset, .unset, .unset, .unset]) rfl kk_) ?_
  refine Gq.go (T1.setTop (mkF m 19 #[.val (.ref a1), .val (.int (Int32.ofNat hd)), .val (.int (Int32.ofNat (bt + 1))), .val (.int (Int32.ofNat bt)), .unset, .unset, .unset, .unset, .unset] [(.int (Int32.ofNat bt))])) (fun tt_ kk_ => XS.iloadN X1.here hx rfl (hb hby d8_18) rfl kk_) ?_
  refine Gq.go (T1.setTop (mkF m 21 #[.val (.ref a1), .val (.int (Int32.ofNat hd)), .val (.int (Int32.ofNat (bt + 1))), .val (.int (Int32.ofNat bt)), .unset, .unset, .unset, .unset, .unset] [(.int (43691 : Int32)), (.int (Int32.ofNat bt))])) (fun tt_ kk_ => X1.ldcInt hx hown (mvT hZ (hw _ (List.mem_of_getElem? (i := 55) rfl))) (g := (mkF m 19 #[.val (.ref a1), .val (.int (Int32.ofNat hd)), .val (.int (Int32.ofNat (bt + 1))), .val (.int (Int32.ofNat bt)), .unset, .unset, .unset, .unset, .unset] [(.int (Int32.ofNat bt))])) rfl (hb hby d8_19) _ kk_) ?_
  refine Gq.go (T1.setTop (mkF m 22 #[.val (.ref a1), .val (.int (Int32.ofNat hd)), .val (.int (Int32.ofNat (bt + 1))), .val (.int (Int32.ofNat bt)), .unset, .unset, .unset, .unset, .unset] [(.int ((Int32.ofNat bt) * (43691 : Int32)))])) (fun tt_ kk_ => XS.imul X1.here hx rfl (hb hby d8_21) rfl kk_) ?_
  refine Gq.go (T1.setTop (mkF m 24 #[.val (.ref a1), .val (.int (Int32.ofNat hd)), .val (.int (Int32.ofNat (bt + 1))), .val (.int (Int32.ofNat bt)), .unset, .unset, .unset, .unset, .unset] [(.int (21 : Int32)), (.int ((Int32.ofNat bt) * (43691 : Int32)))])) (fun tt_ kk_ => XS.bipush X1.here hx rfl (hb hby d8_22) kk_) ?_
  refine Gq.go (T1.setTop (mkF m 25 #[.val (.ref a1), .val (.int (Int32.ofNat hd)), .val (.int (Int32.ofNat (bt + 1))), .val (.int (Int32.ofNat bt)), .unset, .unset, .unset, .unset, .unset] [(.int ((((Int32.ofNat bt) * (43691 : Int32)).toUInt32 >>> ((21 : Int32) &&& 31).toUInt32).toInt32))])) (fun tt_ kk_ => XS.iushr X1.here hx rfl (hb hby d8_24) rfl kk_) ?_
  rw [show ((((Int32.ofNat bt) * (43691 : Int32)).toUInt32 >>> ((21 : Int32) &&& 31).toUInt32).toInt32) = (Int32.ofNat (bt / 48)) from o_recip bt hbt]
  refine Gq.go (T1.setTop (mkF m 27 #[.val (.ref a1), .val (.int (Int32.ofNat hd)), .val (.int (Int32.ofNat (bt + 1))), .val (.int (Int32.ofNat bt)), .val (.int (Int32.ofNat (bt / 48))), .unset, .unset, .unset, .unset] [])) (fun tt_ kk_ => XS.istore X1.here hx rfl (hb hby d8_25) rfl (l' := #[.val (.ref a1), .val (.int (Int32.ofNat hd)), .val (.int (Int32.ofNat (bt + 1))), .val (.int (Int32.ofNat bt)), .val (.int (Int32.ofNat (bt / 48))), .unset, .unset, .unset, .unset]) rfl kk_) ?_
  refine Gq.go (T1.setTop (mkF m 28 #[.val (.ref a1), .val (.int (Int32.ofNat hd)), .val (.int (Int32.ofNat (bt + 1))), .val (.int (Int32.ofNat bt)), .val (.int (Int32.ofNat (bt / 48))), .unset, .unset, .unset, .unset] [(.ref a1)])) (fun tt_ kk_ => XS.aloadN X1.here hx rfl (hb hby d8_27) rfl rfl kk_) ?_
  obtain ⟨T2, X2, eh2, st2⟩ := getF X1 hx hZ hown (host := "") (Or.inl (hw _ (List.mem_of_getElem? (i := 13) rfl))) Via.refl eh1 Fr1 (g := (mkF m 28 #[.val (.ref a1), .val (.int (Int32.ofNat hd)), .val (.int (Int32.ofNat (bt + 1))), .val (.int (Int32.ofNat bt)), .val (.int (Int32.ofNat (bt / 48))), .unset, .unset, .unset, .unset] [(.ref a1)])) rfl rfl (hb hby d8_28)
  refine Gq.go (T2.setTop (mkF m 31 #[.val (.ref a1), .val (.int (Int32.ofNat hd)), .val (.int (Int32.ofNat (bt + 1))), .val (.int (Int32.ofNat bt)), .val (.int (Int32.ofNat (bt / 48))), .unset, .unset, .unset, .unset] [(.ref rn)])) (fun tt_ kk_ => st2 _ kk_) ?_
  refine Gq.go (T2.setTop (mkF m 32 #[.val (.ref a1), .val (.int (Int32.ofNat hd)), .val (.int (Int32.ofNat (bt + 1))), .val (.int (Int32.ofNat bt)), .val (.int (Int32.ofNat (bt / 48))), .unset, .unset, .unset, .unset] [(.int (Int32.ofNat hd)), (.ref rn)])) (fun tt_ kk_ => XS.iloadN X2.here hx rfl (hb hby d8_31) rfl kk_) ?_
  refine Gq.go (T2.setTop (mkF m 34 #[.val (.ref a1), .val (.int (Int32.ofNat hd)), .val (.int (Int32.ofNat (bt + 1))), .val (.int (Int32.ofNat bt)), .val (.int (Int32.ofNat (bt / 48))), .unset, .unset, .unset, .unset] [(.int (44 : Int32)), (.int (Int32.ofNat hd)), (.ref rn)])) (fun tt_ kk_ => XS.bipush X2.here hx rfl (hb hby d8_32) kk_) ?_
  refine Gq.go (T2.setTop (mkF m 35 #[.val (.ref a1), .val (.int (Int32.ofNat hd)), .val (.int (Int32.ofNat (bt + 1))), .val (.int (Int32.ofNat bt)), .val (.int (Int32.ofNat (bt / 48))), .unset, .unset, .unset, .unset] [(.int ((Int32.ofNat hd) * (44 : Int32))), (.ref rn)])) (fun tt_ kk_ => XS.imul X2.here hx rfl (hb hby d8_34) rfl kk_) ?_
  rw [show ((Int32.ofNat hd) * (44 : Int32)) = (Int32.ofNat (hd * 44)) from own_mul hd 44]
  refine Gq.go (T2.setTop (mkF m 36 #[.val (.ref a1), .val (.int (Int32.ofNat hd)), .val (.int (Int32.ofNat (bt + 1))), .val (.int (Int32.ofNat bt)), .val (.int (Int32.ofNat (bt / 48))), .unset, .unset, .unset, .unset] [(.int (1 : Int32)), (.int (Int32.ofNat (hd * 44))), (.ref rn)])) (fun tt_ kk_ => XS.iconst X2.here hx rfl (hb hby d8_35) kk_) ?_
  refine Gq.go (T2.setTop (mkF m 37 #[.val (.ref a1), .val (.int (Int32.ofNat hd)), .val (.int (Int32.ofNat (bt + 1))), .val (.int (Int32.ofNat bt)), .val (.int (Int32.ofNat (bt / 48))), .unset, .unset, .unset, .unset] [(.int ((Int32.ofNat (hd * 44)) + (1 : Int32))), (.ref rn)])) (fun tt_ kk_ => XS.iadd X2.here hx rfl (hb hby d8_36) rfl kk_) ?_
  rw [show ((Int32.ofNat (hd * 44)) + (1 : Int32)) = (Int32.ofNat (hd * 44 + 1)) from own_add _ 1]
  refine Gq.go (T2.setTop (mkF m 39 #[.val (.ref a1), .val (.int (Int32.ofNat hd)), .val (.int (Int32.ofNat (bt + 1))), .val (.int (Int32.ofNat bt)), .val (.int (Int32.ofNat (bt / 48))), .unset, .unset, .unset, .unset] [(.int (Int32.ofNat (bt / 48))), (.int (Int32.ofNat (hd * 44 + 1))), (.ref rn)])) (fun tt_ kk_ => XS.iload X2.here hx rfl (hb hby d8_37) rfl kk_) ?_
  refine Gq.go (T2.setTop (mkF m 40 #[.val (.ref a1), .val (.int (Int32.ofNat hd)), .val (.int (Int32.ofNat (bt + 1))), .val (.int (Int32.ofNat bt)), .val (.int (Int32.ofNat (bt / 48))), .unset, .unset, .unset, .unset] [(.int ((Int32.ofNat (hd * 44 + 1)) + (Int32.ofNat (bt / 48)))), (.ref rn)])) (fun tt_ kk_ => XS.iadd X2.here hx rfl (hb hby d8_39) rfl kk_) ?_
  rw [show ((Int32.ofNat (hd * 44 + 1)) + (Int32.ofNat (bt / 48))) = (Int32.ofNat (hd * 44 + 1 + bt / 48)) from own_add _ _]
  refine Gq.go (T2.setTop (mkF m 41 #[.val (.ref a1), .val (.int (Int32.ofNat hd)), .val (.int (Int32.ofNat (bt + 1))), .val (.int (Int32.ofNat bt)), .val (.int (Int32.ofNat (bt / 48))), .unset, .unset, .unset, .unset] [(.long (F (hd * 44 + 1 + bt / 48)))])) (fun tt_ kk_ => ldJ X2 hx hZ eh2 V1 (j := (Int32.ofNat (hd * 44 + 1 + bt / 48))) (i := (hd * 44 + 1 + bt / 48)) (x := (F (hd * 44 + 1 + bt / 48))) (own_nn (by omega)) (own_nc (by omega)) (by omega) rfl (hb hby d8_40) tt_ kk_) ?_
  refine Gq.go (T2.setTop (mkF m 43 #[.val (.ref a1), .val (.int (Int32.ofNat hd)), .val (.int (Int32.ofNat (bt + 1))), .val (.int (Int32.ofNat bt)), .val (.int (Int32.ofNat (bt / 48))), .val (.long (F (hd * 44 + 1 + bt / 48))), .second, .unset, .unset] [])) (fun tt_ kk_ => XS.lstore X2.here hx rfl (hb hby d8_41) rfl (l' := #[.val (.ref a1), .val (.int (Int32.ofNat hd)), .val (.int (Int32.ofNat (bt + 1))), .val (.int (Int32.ofNat bt)), .val (.int (Int32.ofNat (bt / 48))), .val (.long (F (hd * 44 + 1 + bt / 48))), .second, .unset, .unset]) rfl kk_) ?_
  refine Gq.go (T2.setTop (mkF m 45 #[.val (.ref a1), .val (.int (Int32.ofNat hd)), .val (.int (Int32.ofNat (bt + 1))), .val (.int (Int32.ofNat bt)), .val (.int (Int32.ofNat (bt / 48))), .val (.long (F (hd * 44 + 1 + bt / 48))), .second, .unset, .unset] [(.long (F (hd * 44 + 1 + bt / 48)))])) (fun tt_ kk_ => XS.lload X2.here hx rfl (hb hby d8_43) rfl kk_) ?_
  refine Gq.go (T2.setTop (mkF m 46 #[.val (.ref a1), .val (.int (Int32.ofNat hd)), .val (.int (Int32.ofNat (bt + 1))), .val (.int (Int32.ofNat bt)), .val (.int (Int32.ofNat (bt / 48))), .val (.long (F (hd * 44 + 1 + bt / 48))), .second, .unset, .unset] [(.int (Int32.ofNat bt)), (.long (F (hd * 44 + 1 + bt / 48)))])) (fun tt_ kk_ => XS.iloadN X2.here hx rfl (hb hby d8_45) rfl kk_) ?_
  refine Gq.go (T2.setTop (mkF m 48 #[.val (.ref a1), .val (.int (Int32.ofNat hd)), .val (.int (Int32.ofNat (bt + 1))), .val (.int (Int32.ofNat bt)), .val (.int (Int32.ofNat (bt / 48))), .val (.long (F (hd * 44 + 1 + bt / 48))), .second, .unset, .unset] [(.int (Int32.ofNat (bt / 48))), (.int (Int32.ofNat bt)), (.long (F (hd * 44 + 1 + bt / 48)))])) (fun tt_ kk_ => XS.iload X2.here hx rfl (hb hby d8_46) rfl kk_) ?_
  refine Gq.go (T2.setTop (mkF m 50 #[.val (.ref a1), .val (.int (Int32.ofNat hd)), .val (.int (Int32.ofNat (bt + 1))), .val (.int (Int32.ofNat bt)), .val (.int (Int32.ofNat (bt / 48))), .val (.long (F (hd * 44 + 1 + bt / 48))), .second, .unset, .unset] [(.int (48 : Int32)), (.int (Int32.ofNat (bt / 48))), (.int (Int32.ofNat bt)), (.long (F (hd * 44 + 1 + bt / 48)))])) (fun tt_ kk_ => XS.bipush X2.here hx rfl (hb hby d8_48) kk_) ?_
  refine Gq.go (T2.setTop (mkF m 51 #[.val (.ref a1), .val (.int (Int32.ofNat hd)), .val (.int (Int32.ofNat (bt + 1))), .val (.int (Int32.ofNat bt)), .val (.int (Int32.ofNat (bt / 48))), .val (.long (F (hd * 44 + 1 + bt / 48))), .second, .unset, .unset] [(.int ((Int32.ofNat (bt / 48)) * (48 : Int32))), (.int (Int32.ofNat bt)), (.long (F (hd * 44 + 1 + bt / 48)))])) (fun tt_ kk_ => XS.imul X2.here hx rfl (hb hby d8_50) rfl kk_) ?_
  rw [show ((Int32.ofNat (bt / 48)) * (48 : Int32)) = (Int32.ofNat (bt / 48 * 48)) from own_mul _ 48]
  refine Gq.go (T2.setTop (mkF m 52 #[.val (.ref a1), .val (.int (Int32.ofNat hd)), .val (.int (Int32.ofNat (bt + 1))), .val (.int (Int32.ofNat bt)), .val (.int (Int32.ofNat (bt / 48))), .val (.long (F (hd * 44 + 1 + bt / 48))), .second, .unset, .unset] [(.int ((Int32.ofNat bt) - (Int32.ofNat (bt / 48 * 48)))), (.long (F (hd * 44 + 1 + bt / 48)))])) (fun tt_ kk_ => XS.isub X2.here hx rfl (hb hby d8_51) rfl kk_) ?_
  rw [show ((Int32.ofNat bt) - (Int32.ofNat (bt / 48 * 48))) = (Int32.ofNat (bt - bt / 48 * 48)) from own_sub (by omega)]
  have hup := o_up gd (b := bt - bt / 48 * 48) (by omega)
  rw [show bt / 48 * 48 + (bt - bt / 48 * 48) = bt by omega] at hup
  obtain ⟨Pz, hPz, ePz⟩ := o_hi gd
  refine Gq.go (T2.setTop (mkF m 53 #[.val (.ref a1), .val (.int (Int32.ofNat hd)), .val (.int (Int32.ofNat (bt + 1))), .val (.int (Int32.ofNat bt)), .val (.int (Int32.ofNat (bt / 48))), .val (.long (F (hd * 44 + 1 + bt / 48))), .second, .unset, .unset] [(.int (-1 : Int32)), (.int (Int32.ofNat (bt - bt / 48 * 48))), (.long (F (hd * 44 + 1 + bt / 48)))])) (fun tt_ kk_ => XS.iconst X2.here hx rfl (hb hby d8_52) kk_) ?_
  refine Gq.go (T2.setTop (mkF m 54 #[.val (.ref a1), .val (.int (Int32.ofNat hd)), .val (.int (Int32.ofNat (bt + 1))), .val (.int (Int32.ofNat bt)), .val (.int (Int32.ofNat (bt / 48))), .val (.long (F (hd * 44 + 1 + bt / 48))), .second, .unset, .unset] [(.int ((Int32.ofNat (bt - bt / 48 * 48)) ^^^ (-1 : Int32))), (.long (F (hd * 44 + 1 + bt / 48)))])) (fun tt_ kk_ => XS.ixor X2.here hx rfl (hb hby d8_53) rfl kk_) ?_
  refine Gq.go (T2.setTop (mkF m 55 #[.val (.ref a1), .val (.int (Int32.ofNat hd)), .val (.int (Int32.ofNat (bt + 1))), .val (.int (Int32.ofNat bt)), .val (.int (Int32.ofNat (bt / 48))), .val (.long (F (hd * 44 + 1 + bt / 48))), .second, .unset, .unset] [(.long ((F (hd * 44 + 1 + bt / 48)) <<< (((Int32.ofNat (bt - bt / 48 * 48)) ^^^ (-1 : Int32)) &&& 0x3f).toInt64))])) (fun tt_ kk_ => XS.lshl X2.here hx rfl (hb hby d8_54) rfl kk_) ?_
  generalize huu : ((F (hd * 44 + 1 + bt / 48)) <<< (((Int32.ofNat (bt - bt / 48 * 48)) ^^^ (-1 : Int32)) &&& 0x3f).toInt64) = uu
  rw [huu] at hup
  refine Gq.go (T2.setTop (mkF m 57 #[.val (.ref a1), .val (.int (Int32.ofNat hd)), .val (.int (Int32.ofNat (bt + 1))), .val (.int (Int32.ofNat bt)), .val (.int (Int32.ofNat (bt / 48))), .val (.long (F (hd * 44 + 1 + bt / 48))), .second, .val (.long uu), .second] [])) (fun tt_ kk_ => XS.lstore X2.here hx rfl (hb hby d8_55) rfl (l' := #[.val (.ref a1), .val (.int (Int32.ofNat hd)), .val (.int (Int32.ofNat (bt + 1))), .val (.int (Int32.ofNat bt)), .val (.int (Int32.ofNat (bt / 48))), .val (.long (F (hd * 44 + 1 + bt / 48))), .second, .val (.long uu), .second]) rfl kk_) ?_
  refine Gq.go (T2.setTop (mkF m 59 #[.val (.ref a1), .val (.int (Int32.ofNat hd)), .val (.int (Int32.ofNat (bt + 1))), .val (.int (Int32.ofNat bt)), .val (.int (Int32.ofNat (bt / 48))), .val (.long (F (hd * 44 + 1 + bt / 48))), .second, .val (.long uu), .second] [(.long uu)])) (fun tt_ kk_ => XS.lload X2.here hx rfl (hb hby d8_57) rfl kk_) ?_
  refine Gq.go (T2.setTop (mkF m 60 #[.val (.ref a1), .val (.int (Int32.ofNat hd)), .val (.int (Int32.ofNat (bt + 1))), .val (.int (Int32.ofNat bt)), .val (.int (Int32.ofNat (bt / 48))), .val (.long (F (hd * 44 + 1 + bt / 48))), .second, .val (.long uu), .second] [(.long (0 : Int64)), (.long uu)])) (fun tt_ kk_ => XS.lconst X2.here hx rfl (hb hby d8_59) kk_) ?_
  refine Gq.go (T2.setTop (mkF m 61 #[.val (.ref a1), .val (.int (Int32.ofNat hd)), .val (.int (Int32.ofNat (bt + 1))), .val (.int (Int32.ofNat bt)), .val (.int (Int32.ofNat (bt / 48))), .val (.long (F (hd * 44 + 1 + bt / 48))), .second, .val (.long uu), .second] [(.int (lcmpW uu (0 : Int64)))])) (fun tt_ kk_ => XS.lcmp X2.here hx rfl (hb hby d8_60) rfl kk_) ?_
  by_cases hneg : uu < 0
  · refine Gq.go (T2.setTop (mkF m 64 #[.val (.ref a1), .val (.int (Int32.ofNat hd)), .val (.int (Int32.ofNat (bt + 1))), .val (.int (Int32.ofNat bt)), .val (.int (Int32.ofNat (bt / 48))), .val (.long (F (hd * 44 + 1 + bt / 48))), .second, .val (.long uu), .second] [])) (fun tt_ kk_ => XS.ifNo X2.here hx rfl (hb hby d8_61) rfl ((if0 _ _).trans (tlt ((lw_lt _ _).mpr hneg)).2.1) kk_) ?_
    refine Gq.go (T2.setTop (mkF m 66 #[.val (.ref a1), .val (.int (Int32.ofNat hd)), .val (.int (Int32.ofNat (bt + 1))), .val (.int (Int32.ofNat bt)), .val (.int (Int32.ofNat (bt / 48))), .val (.long (F (hd * 44 + 1 + bt / 48))), .second, .val (.long uu), .second] [(.long (F (hd * 44 + 1 + bt / 48)))])) (fun tt_ kk_ => XS.lload X2.here hx rfl (hb hby d8_64) rfl kk_) ?_
    refine Gq.go (T2.setTop (mkF m 68 #[.val (.ref a1), .val (.int (Int32.ofNat hd)), .val (.int (Int32.ofNat (bt + 1))), .val (.int (Int32.ofNat bt)), .val (.int (Int32.ofNat (bt / 48))), .val (.long (F (hd * 44 + 1 + bt / 48))), .second, .val (.long uu), .second] [(.int (48 : Int32)), (.long (F (hd * 44 + 1 + bt / 48)))])) (fun tt_ kk_ => XS.bipush X2.here hx rfl (hb hby d8_66) kk_) ?_
    refine Gq.go (T2.setTop (mkF m 69 #[.val (.ref a1), .val (.int (Int32.ofNat hd)), .val (.int (Int32.ofNat (bt + 1))), .val (.int (Int32.ofNat bt)), .val (.int (Int32.ofNat (bt / 48))), .val (.long (F (hd * 44 + 1 + bt / 48))), .second, .val (.long uu), .second] [(.long (((F (hd * 44 + 1 + bt / 48)).toUInt64 >>> ((48 : Int32) &&& 0x3f).toInt64.toUInt64).toInt64))])) (fun tt_ kk_ => XS.lushr X2.here hx rfl (hb hby d8_68) rfl kk_) ?_
    refine Gq.go (T2.setTop (mkF m 70 #[.val (.ref a1), .val (.int (Int32.ofNat hd)), .val (.int (Int32.ofNat (bt + 1))), .val (.int (Int32.ofNat bt)), .val (.int (Int32.ofNat (bt / 48))), .val (.long (F (hd * 44 + 1 + bt / 48))), .second, .val (.long uu), .second] [(.int ((((F (hd * 44 + 1 + bt / 48)).toUInt64 >>> ((48 : Int32) &&& 0x3f).toInt64.toUInt64).toInt64).toInt32))])) (fun tt_ kk_ => XS.l2i X2.here hx rfl (hb hby d8_69) rfl kk_) ?_
    rw [show ((((F (hd * 44 + 1 + bt / 48)).toUInt64 >>> ((48 : Int32) &&& 0x3f).toInt64.toUInt64).toInt64).toInt32) = (Int32.ofNat Pz) from ePz]
    refine Gq.go (T2.setTop (mkF m 72 #[.val (.ref a1), .val (.int (Int32.ofNat hd)), .val (.int (Int32.ofNat (bt + 1))), .val (.int (Int32.ofNat bt)), .val (.int (Int32.ofNat (bt / 48))), .val (.long (F (hd * 44 + 1 + bt / 48))), .second, .val (.long uu), .second] [(.long uu), (.int (Int32.ofNat Pz))])) (fun tt_ kk_ => XS.lload X2.here hx rfl (hb hby d8_70) rfl kk_) ?_
    obtain ⟨r3, T3, L3, X3, hQ3, st3⟩ := callT (pc := 72) (Ls := #[.val (.ref a1), .val (.int (Int32.ofNat hd)), .val (.int (Int32.ofNat (bt + 1))), .val (.int (Int32.ofNat bt)), .val (.int (Int32.ofNat (bt / 48))), .val (.long (F (hd * 44 + 1 + bt / 48))), .second, .val (.long uu), .second]) X2 hx hZ hown eh2 [(.long uu)] [(.int (Int32.ofNat Pz))] (hw _ (List.mem_of_getElem? (i := 20) rfl)) (hw _ (List.mem_of_getElem? (i := 21) rfl)) (hw _ (List.mem_of_getElem? (i := 22) rfl)) (hw _ (List.mem_of_getElem? (i := 23) rfl)) (by decide) (rm4 l Z a0 hw [] uu h0 n0 Z0) pd_2 rfl (by rw [hml]; rfl) (W := 1) (Nat.le_of_eq rfl) (by decide) (by decide) (by decide) (by decide) (hb hby d8_72)
    obtain ⟨⟨nb, rfl, hnb, hpos⟩, N3q, eh3⟩ := hQ3
    have N3 := Fr.app N1 N3q
    refine Gq.go (T3.setTop (mkF m 75 #[.val (.ref a1), .val (.int (Int32.ofNat hd)), .val (.int (Int32.ofNat (bt + 1))), .val (.int (Int32.ofNat bt)), .val (.int (Int32.ofNat (bt / 48))), .val (.long (F (hd * 44 + 1 + bt / 48))), .second, .val (.long uu), .second] [(.int (Int32.ofNat nb)), (.int (Int32.ofNat Pz))])) (fun tt_ kk_ => st3 tt_ kk_) ?_
    refine Gq.go (T3.setTop (mkF m 76 #[.val (.ref a1), .val (.int (Int32.ofNat hd)), .val (.int (Int32.ofNat (bt + 1))), .val (.int (Int32.ofNat bt)), .val (.int (Int32.ofNat (bt / 48))), .val (.long (F (hd * 44 + 1 + bt / 48))), .second, .val (.long uu), .second] [(.int ((Int32.ofNat Pz) + (Int32.ofNat nb)))])) (fun tt_ kk_ => XS.iadd X3.here hx rfl (hb hby d8_75) rfl kk_) ?_
    have hn1 := hpos hneg
    rw [show ((Int32.ofNat Pz) + (Int32.ofNat nb)) = (Int32.ofNat (Pz + nb)) from own_add _ _]
    refine Gq.go (T3.setTop (mkF m 77 #[.val (.ref a1), .val (.int (Int32.ofNat hd)), .val (.int (Int32.ofNat (bt + 1))), .val (.int (Int32.ofNat bt)), .val (.int (Int32.ofNat (bt / 48))), .val (.long (F (hd * 44 + 1 + bt / 48))), .second, .val (.long uu), .second] [(.int (1 : Int32)), (.int (Int32.ofNat (Pz + nb)))])) (fun tt_ kk_ => XS.iconst X3.here hx rfl (hb hby d8_76) kk_) ?_
    refine Gq.go (T3.setTop (mkF m 78 #[.val (.ref a1), .val (.int (Int32.ofNat hd)), .val (.int (Int32.ofNat (bt + 1))), .val (.int (Int32.ofNat bt)), .val (.int (Int32.ofNat (bt / 48))), .val (.long (F (hd * 44 + 1 + bt / 48))), .second, .val (.long uu), .second] [(.int ((Int32.ofNat (Pz + nb)) - (1 : Int32)))])) (fun tt_ kk_ => XS.isub X3.here hx rfl (hb hby d8_77) rfl kk_) ?_
    rw [show ((Int32.ofNat (Pz + nb)) - (1 : Int32)) = (Int32.ofNat (Pz + nb - 1)) from own_sub (b := 1) (by omega)]
    refine Gq.go (T3.setTop (mkF m 82 #[.val (.ref a1), .val (.int (Int32.ofNat hd)), .val (.int (Int32.ofNat (bt + 1))), .val (.int (Int32.ofNat bt)), .val (.int (Int32.ofNat (bt / 48))), .val (.long (F (hd * 44 + 1 + bt / 48))), .second, .val (.long uu), .second] [(.int (Int32.ofNat (Pz + nb - 1)))])) (fun tt_ kk_ => XS.goto X3.here hx rfl (pc0 := 78) (pc' := 82) rfl (hb hby d8_78) (by decide) (by decide) kk_) ?_
    refine Gq.retI X3 hx Bd.notSynchronized Bd.returns (by simp) (hb hby d8_82) rfl (by decide) (by decide) ?_
    show Q_rank2 Z a1 hd bt cn rn F IN h0 n0 _ T3.heap _
    rw [eh3]
    exact ⟨Or.inr ⟨Pz + nb - 1, by omega, rfl, hup.mp hneg⟩, N3, rfl⟩
  · refine Gq.go (T2.setTop (mkF m 81 #[.val (.ref a1), .val (.int (Int32.ofNat hd)), .val (.int (Int32.ofNat (bt + 1))), .val (.int (Int32.ofNat bt)), .val (.int (Int32.ofNat (bt / 48))), .val (.long (F (hd * 44 + 1 + bt / 48))), .second, .val (.long uu), .second] [])) (fun tt_ kk_ => XS.ifYes X2.here hx rfl (pc0 := 61) (pc' := 81) rfl (hb hby d8_61) rfl ((if0 _ _).trans (flt (fun q => hneg ((lw_lt _ _).mp q))).2.1) (by decide) (by decide) kk_) ?_
    refine Gq.go (T2.setTop (mkF m 82 #[.val (.ref a1), .val (.int (Int32.ofNat hd)), .val (.int (Int32.ofNat (bt + 1))), .val (.int (Int32.ofNat bt)), .val (.int (Int32.ofNat (bt / 48))), .val (.long (F (hd * 44 + 1 + bt / 48))), .second, .val (.long uu), .second] [(.int (-1 : Int32))])) (fun tt_ kk_ => XS.iconst X2.here hx rfl (hb hby d8_81) kk_) ?_
    refine Gq.retI X2 hx Bd.notSynchronized Bd.returns (by simp) (hb hby d8_82) rfl (by decide) (by decide) ?_
    show Q_rank2 Z a1 hd bt cn rn F IN h0 n0 _ T2.heap _
    rw [eh2]
    exact ⟨Or.inl ⟨rfl, by cases hbb : oBITS IN hd bt; rfl; exact absurd (hup.mpr hbb) hneg⟩, N1, rfl⟩
theorem pd_5 : parseMethodDescriptor "(I[J[I)V" = some ⟨[.int, (.array .long), (.array .int)], none⟩ := by decide +kernel
theorem pd_6 : parseMethodDescriptor "()[J" = some ⟨[], some (.array .long)⟩ := by decide +kernel
theorem pn_com_example_dense_trie_densetrie_HeadsBitsPinLaw : plainName "com/example/dense_trie/densetrie/HeadsBitsPinLaw" = true := by first | (simp [plainName, overriddenIn]; done) | decide +kernel
theorem ef0 (m : MethodId) (y0 : Int64) (y1 : Int64) (y2 : Int64) (y3 : Int64) (y4 : Int32) (y5 : Int32) : entryFrame m #[(.long y0), (.long y1), (.long y2), (.long y3), (.int y4), (.int y5)] maxLocals = mkF m 0 #[.val (.long y0), .second, .val (.long y1), .second, .val (.long y2), .second, .val (.long y3), .second, .val (.int y4), .val (.int y5), .unset, .unset, .unset, .unset, .unset, .unset, .unset, .unset, .unset, .unset, .unset] [] := by first | (simp [entryFrame, mkF, argsToLocals, Value.category, maxLocals]; done) | rfl
def Q0 (Z : State) (x0 : Int64) (x1 : Int64) (x2 : Int64) (x3 : Int64) (x4 : Int32) (x5 : Int32) (h0 : Heap) (n0 : Nat) (v : Option Value) (h : Heap) (L : List Loc) : Prop := v = some (.int (1 : Int32)) ∧ Fr n0 L
set_option maxRecDepth 65536 in
set_option maxHeartbeats 40000000 in
theorem rm0 (l : Launch) (Z : State) (a0 : Array Value) (hw : ∀ d ∈ tables_1, d.before a0 Z = true) (ws : List Jvm.Cond) (x0 : Int64) (x1 : Int64) (x2 : Int64) (x3 : Int64) (x4 : Int32) (x5 : Int32) (h0 : Heap) (n0 : Nat) (Z0 : n0 ≤ h0.size)  :
    MetFree l x (head1 (Jvm.Cond.code x code maxLocals ret :: ws) room_1) (fun a U => a = #[(.long x0), (.long x1), (.long x2), (.long x3), (.int x4), (.int x5)] ∧ Z.Warmed39 U.vm ∧ U.heap = h0) (fun _ _ _ _ _ => True) (fun _ U o U' => ∃ v L, o = .returned v ∧ Q0 Z x0 x1 x2 x3 x4 x5 h0 n0 v U'.heap L ∧ FrameEnd U o U' L room_1.cells room_1.slots) := by
  refine MetFree.of_bodySF (plainFor_of_name pn_com_example_dense_trie_densetrie_HeadsBitsPinLaw) hisR ?_
  intro p e s m args below meth c s₁ Bd hml0 hP hK
  obtain ⟨rfl, hZ, hh⟩ := hP
  have hx := Bd.exec
  have hby := Bd.bytes
  have hml : c.maxLocals = 21 := hml0
  have hown : s.vm.findClass "com/example/dense_trie/densetrie/HeadsBitsPinLaw" = some m.cls := findClass_of_methodNamed Bd.named
  have hnm := (name_of_methodNamed Bd.named Bd.method).1
  have X0 : Stand p l e room_1 s m #[(.long x0), (.long x1), (.long x2), (.long x3), (.int x4), (.int x5)] below meth c s₁ [] 0 0 := Stand.of_body Bd
  have eh0 : s₁.heap = h0 := by rw [← hh, Bd.state]; rfl
  have N0 := Fr.nil n0
  refine Gq.start (Q := Q0 Z x0 x1 x2 x3 x4 x5 h0 n0) (kc := room_1.cells) (ks := room_1.slots) (ef0 m x0 x1 x2 x3 x4 x5) ?_
  refine Gq.go (s₁.setTop (mkF m 1 #[.val (.long x0), .second, .val (.long x1), .second, .val (.long x2), .second, .val (.long x3), .second, .val (.int x4), .val (.int x5), .unset, .unset, .unset, .unset, .unset, .unset, .unset, .unset, .unset, .unset, .unset] [(.int (1 : Int32))])) (fun tt_ kk_ => XS.iconst X0.here hx rfl (hb hby at_0) kk_) ?_
  refine Gq.go (s₁.setTop (mkF m 3 #[.val (.long x0), .second, .val (.long x1), .second, .val (.long x2), .second, .val (.long x3), .second, .val (.int x4), .val (.int x5), .unset, .unset, .unset, .unset, .unset, .unset, .unset, .unset, .unset, .unset, .unset] [(.int x5), (.int (1 : Int32))])) (fun tt_ kk_ => XS.iload X0.here hx rfl (hb hby at_1) rfl kk_) ?_
  refine Gq.go (s₁.setTop (mkF m 4 #[.val (.long x0), .second, .val (.long x1), .second, .val (.long x2), .second, .val (.long x3), .second, .val (.int x4), .val (.int x5), .unset, .unset, .unset, .unset, .unset, .unset, .unset, .unset, .unset, .unset, .unset] [(.int (1 : Int32)), (.int x5), (.int (1 : Int32))])) (fun tt_ kk_ => XS.iconst X0.here hx rfl (hb hby at_3) kk_) ?_
  refine Gq.go (s₁.setTop (mkF m 5 #[.val (.long x0), .second, .val (.long x1), .second, .val (.long x2), .second, .val (.long x3), .second, .val (.int x4), .val (.int x5), .unset, .unset, .unset, .unset, .unset, .unset, .unset, .unset, .unset, .unset, .unset] [(.int (x5 &&& (1 : Int32))), (.int (1 : Int32))])) (fun tt_ kk_ => XS.iand X0.here hx rfl (hb hby at_4) rfl kk_) ?_
  obtain ⟨c1, hc1, ec1⟩ := own_and x5 1 (by decide)
  rw [show (x5 &&& (1 : Int32)) = (Int32.ofNat c1) from ec1]
  refine Gq.go (s₁.setTop (mkF m 6 #[.val (.long x0), .second, .val (.long x1), .second, .val (.long x2), .second, .val (.long x3), .second, .val (.int x4), .val (.int x5), .unset, .unset, .unset, .unset, .unset, .unset, .unset, .unset, .unset, .unset, .unset] [(.int ((1 : Int32) + (Int32.ofNat c1)))])) (fun tt_ kk_ => XS.iadd X0.here hx rfl (hb hby at_5) rfl kk_) ?_
  rw [show ((1 : Int32) + (Int32.ofNat c1)) = (Int32.ofNat (1 + c1)) from own_add 1 c1]
  obtain ⟨cn, hcn⟩ : ∃ cn, cn = 1 + c1 := ⟨_, rfl⟩
  rw [← hcn]
  refine Gq.go (s₁.setTop (mkF m 8 #[.val (.long x0), .second, .val (.long x1), .second, .val (.long x2), .second, .val (.long x3), .second, .val (.int x4), .val (.int x5), .val (.int (Int32.ofNat cn)), .unset, .unset, .unset, .unset, .unset, .unset, .unset, .unset, .unset, .unset] [])) (fun tt_ kk_ => XS.istore X0.here hx rfl (hb hby at_6) rfl (l' := #[.val (.long x0), .second, .val (.long x1), .second, .val (.long x2), .second, .val (.long x3), .second, .val (.int x4), .val (.int x5), .val (.int (Int32.ofNat cn)), .unset, .unset, .unset, .unset, .unset, .unset, .unset, .unset, .unset, .unset]) rfl kk_) ?_
  refine Gq.go (s₁.setTop (mkF m 10 #[.val (.long x0), .second, .val (.long x1), .second, .val (.long x2), .second, .val (.long x3), .second, .val (.int x4), .val (.int x5), .val (.int (Int32.ofNat cn)), .unset, .unset, .unset, .unset, .unset, .unset, .unset, .unset, .unset, .unset] [(.int (64 : Int32))])) (fun tt_ kk_ => XS.bipush X0.here hx rfl (hb hby at_8) kk_) ?_
  obtain ⟨T1, h1, b1, X1, eh1, E1, aq1, V1, st1⟩ := mkA X0 hx hZ (hw _ (List.mem_of_getElem? (i := 0) rfl)) eh0 (z := (64 : Int32)) (n := 64) (Ls := #[.val (.long x0), .second, .val (.long x1), .second, .val (.long x2), .second, .val (.long x3), .second, .val (.int x4), .val (.int x5), .val (.int (Int32.ofNat cn)), .unset, .unset, .unset, .unset, .unset, .unset, .unset, .unset, .unset, .unset]) (rest := []) (by decide) rfl (by decide) (by decide) (by decide) (hb hby at_10)
  have g_b1 : n0 ≤ b1 := Nat.le_trans Z0 (Nat.le_of_eq aq1.symm)
  have za2 : n0 ≤ h1.size := Nat.le_trans Z0 E1.1
  have V1' : LA Z h1 b1 .long 64 (fun i => .long ((fun _ : Nat => (0 : Int64)) i)) := V1
  have ta1' := V1'.lt
  refine Gq.go (T1.setTop (mkF m 12 #[.val (.long x0), .second, .val (.long x1), .second, .val (.long x2), .second, .val (.long x3), .second, .val (.int x4), .val (.int x5), .val (.int (Int32.ofNat cn)), .unset, .unset, .unset, .unset, .unset, .unset, .unset, .unset, .unset, .unset] [(.ref b1)])) (fun tt_ kk_ => st1 tt_ kk_) ?_
  refine Gq.go (T1.setTop (mkF m 14 #[.val (.long x0), .second, .val (.long x1), .second, .val (.long x2), .second, .val (.long x3), .second, .val (.int x4), .val (.int x5), .val (.int (Int32.ofNat cn)), .val (.ref b1), .unset, .unset, .unset, .unset, .unset, .unset, .unset, .unset, .unset] [])) (fun tt_ kk_ => XS.astore X1.here hx rfl (hb hby at_12) rfl rfl (l' := #[.val (.long x0), .second, .val (.long x1), .second, .val (.long x2), .second, .val (.long x3), .second, .val (.int x4), .val (.int x5), .val (.int (Int32.ofNat cn)), .val (.ref b1), .unset, .unset, .unset, .unset, .unset, .unset, .unset, .unset, .unset]) rfl kk_) ?_
  refine Gq.go (T1.setTop (mkF m 16 #[.val (.long x0), .second, .val (.long x1), .second, .val (.long x2), .second, .val (.long x3), .second, .val (.int x4), .val (.int x5), .val (.int (Int32.ofNat cn)), .val (.ref b1), .unset, .unset, .unset, .unset, .unset, .unset, .unset, .unset, .unset] [(.int x4)])) (fun tt_ kk_ => XS.iload X1.here hx rfl (hb hby at_14) rfl kk_) ?_
  refine Gq.go (T1.setTop (mkF m 18 #[.val (.long x0), .second, .val (.long x1), .second, .val (.long x2), .second, .val (.long x3), .second, .val (.int x4), .val (.int x5), .val (.int (Int32.ofNat cn)), .val (.ref b1), .unset, .unset, .unset, .unset, .unset, .unset, .unset, .unset, .unset] [(.int (63 : Int32)), (.int x4)])) (fun tt_ kk_ => XS.bipush X1.here hx rfl (hb hby at_16) kk_) ?_
  refine Gq.go (T1.setTop (mkF m 19 #[.val (.long x0), .second, .val (.long x1), .second, .val (.long x2), .second, .val (.long x3), .second, .val (.int x4), .val (.int x5), .val (.int (Int32.ofNat cn)), .val (.ref b1), .unset, .unset, .unset, .unset, .unset, .unset, .unset, .unset, .unset] [(.int (x4 &&& (63 : Int32)))])) (fun tt_ kk_ => XS.iand X1.here hx rfl (hb hby at_18) rfl kk_) ?_
  obtain ⟨pp, hpp, epp⟩ := own_and x4 63 (by decide)
  rw [show (x4 &&& (63 : Int32)) = (Int32.ofNat pp) from epp]
  refine Gq.go (T1.setTop (mkF m 21 #[.val (.long x0), .second, .val (.long x1), .second, .val (.long x2), .second, .val (.long x3), .second, .val (.int x4), .val (.int x5), .val (.int (Int32.ofNat cn)), .val (.ref b1), .val (.int (Int32.ofNat pp)), .unset, .unset, .unset, .unset, .unset, .unset, .unset, .unset] [])) (fun tt_ kk_ => XS.istore X1.here hx rfl (hb hby at_19) rfl (l' := #[.val (.long x0), .second, .val (.long x1), .second, .val (.long x2), .second, .val (.long x3), .second, .val (.int x4), .val (.int x5), .val (.int (Int32.ofNat cn)), .val (.ref b1), .val (.int (Int32.ofNat pp)), .unset, .unset, .unset, .unset, .unset, .unset, .unset, .unset]) rfl kk_) ?_
  refine Gq.go (T1.setTop (mkF m 23 #[.val (.long x0), .second, .val (.long x1), .second, .val (.long x2), .second, .val (.long x3), .second, .val (.int x4), .val (.int x5), .val (.int (Int32.ofNat cn)), .val (.ref b1), .val (.int (Int32.ofNat pp)), .unset, .unset, .unset, .unset, .unset, .unset, .unset, .unset] [(.ref b1)])) (fun tt_ kk_ => XS.aload X1.here hx rfl (hb hby at_21) rfl rfl kk_) ?_
  refine Gq.go (T1.setTop (mkF m 25 #[.val (.long x0), .second, .val (.long x1), .second, .val (.long x2), .second, .val (.long x3), .second, .val (.int x4), .val (.int x5), .val (.int (Int32.ofNat cn)), .val (.ref b1), .val (.int (Int32.ofNat pp)), .unset, .unset, .unset, .unset, .unset, .unset, .unset, .unset] [(.int (Int32.ofNat pp)), (.ref b1)])) (fun tt_ kk_ => XS.iload X1.here hx rfl (hb hby at_23) rfl kk_) ?_
  refine Gq.go (T1.setTop (mkF m 26 #[.val (.long x0), .second, .val (.long x1), .second, .val (.long x2), .second, .val (.long x3), .second, .val (.int x4), .val (.int x5), .val (.int (Int32.ofNat cn)), .val (.ref b1), .val (.int (Int32.ofNat pp)), .unset, .unset, .unset, .unset, .unset, .unset, .unset, .unset] [(.long x0), (.int (Int32.ofNat pp)), (.ref b1)])) (fun tt_ kk_ => XS.lloadN X1.here hx rfl (hb hby at_25) rfl kk_) ?_
  obtain ⟨T3, h3, X3, eh3, W3, st3⟩ := stoJ X1 hx hZ eh1 V1' (j := (Int32.ofNat pp)) (i := pp) (x := x0) (Ls := #[.val (.long x0), .second, .val (.long x1), .second, .val (.long x2), .second, .val (.long x3), .second, .val (.int x4), .val (.int x5), .val (.int (Int32.ofNat cn)), .val (.ref b1), .val (.int (Int32.ofNat pp)), .unset, .unset, .unset, .unset, .unset, .unset, .unset, .unset]) (rest := []) (own_nn (by omega)) (own_nc (by omega)) (by omega) (hb hby at_26)
  have ta4 := Nat.lt_of_lt_of_le ta1' (Nat.le_of_eq W3.size.symm)
  have za5 : n0 ≤ h3.size := Nat.le_trans za2 (Nat.le_of_eq W3.size.symm)
  have V3 : LA Z h3 b1 .long 64 (fun i => .long ((updI (fun _ : Nat => (0 : Int64)) pp x0) i)) := (V1'.set W3).congr (fun i _ => upd_long _ _ _ i)
  have N3 := Fr.snoc X3 N0 g_b1
  refine Gq.go (T3.setTop (mkF m 27 #[.val (.long x0), .second, .val (.long x1), .second, .val (.long x2), .second, .val (.long x3), .second, .val (.int x4), .val (.int x5), .val (.int (Int32.ofNat cn)), .val (.ref b1), .val (.int (Int32.ofNat pp)), .unset, .unset, .unset, .unset, .unset, .unset, .unset, .unset] [])) (fun tt_ kk_ => st3 tt_ kk_) ?_
  refine Gq.go (T3.setTop (mkF m 29 #[.val (.long x0), .second, .val (.long x1), .second, .val (.long x2), .second, .val (.long x3), .second, .val (.int x4), .val (.int x5), .val (.int (Int32.ofNat cn)), .val (.ref b1), .val (.int (Int32.ofNat pp)), .unset, .unset, .unset, .unset, .unset, .unset, .unset, .unset] [(.ref b1)])) (fun tt_ kk_ => XS.aload X3.here hx rfl (hb hby at_27) rfl rfl kk_) ?_
  refine Gq.go (T3.setTop (mkF m 31 #[.val (.long x0), .second, .val (.long x1), .second, .val (.long x2), .second, .val (.long x3), .second, .val (.int x4), .val (.int x5), .val (.int (Int32.ofNat cn)), .val (.ref b1), .val (.int (Int32.ofNat pp)), .unset, .unset, .unset, .unset, .unset, .unset, .unset, .unset] [(.int (Int32.ofNat pp)), (.ref b1)])) (fun tt_ kk_ => XS.iload X3.here hx rfl (hb hby at_29) rfl kk_) ?_
  refine Gq.go (T3.setTop (mkF m 32 #[.val (.long x0), .second, .val (.long x1), .second, .val (.long x2), .second, .val (.long x3), .second, .val (.int x4), .val (.int x5), .val (.int (Int32.ofNat cn)), .val (.ref b1), .val (.int (Int32.ofNat pp)), .unset, .unset, .unset, .unset, .unset, .unset, .unset, .unset] [(.int (1 : Int32)), (.int (Int32.ofNat pp)), (.ref b1)])) (fun tt_ kk_ => XS.iconst X3.here hx rfl (hb hby at_31) kk_) ?_
  refine Gq.go (T3.setTop (mkF m 33 #[.val (.long x0), .second, .val (.long x1), .second, .val (.long x2), .second, .val (.long x3), .second, .val (.int x4), .val (.int x5), .val (.int (Int32.ofNat cn)), .val (.ref b1), .val (.int (Int32.ofNat pp)), .unset, .unset, .unset, .unset, .unset, .unset, .unset, .unset] [(.int ((Int32.ofNat pp) + (1 : Int32))), (.ref b1)])) (fun tt_ kk_ => XS.iadd X3.here hx rfl (hb hby at_32) rfl kk_) ?_
  refine Gq.go (T3.setTop (mkF m 35 #[.val (.long x0), .second, .val (.long x1), .second, .val (.long x2), .second, .val (.long x3), .second, .val (.int x4), .val (.int x5), .val (.int (Int32.ofNat cn)), .val (.ref b1), .val (.int (Int32.ofNat pp)), .unset, .unset, .unset, .unset, .unset, .unset, .unset, .unset] [(.int (63 : Int32)), (.int ((Int32.ofNat pp) + (1 : Int32))), (.ref b1)])) (fun tt_ kk_ => XS.bipush X3.here hx rfl (hb hby at_33) kk_) ?_
  refine Gq.go (T3.setTop (mkF m 36 #[.val (.long x0), .second, .val (.long x1), .second, .val (.long x2), .second, .val (.long x3), .second, .val (.int x4), .val (.int x5), .val (.int (Int32.ofNat cn)), .val (.ref b1), .val (.int (Int32.ofNat pp)), .unset, .unset, .unset, .unset, .unset, .unset, .unset, .unset] [(.int (((Int32.ofNat pp) + (1 : Int32)) &&& (63 : Int32))), (.ref b1)])) (fun tt_ kk_ => XS.iand X3.here hx rfl (hb hby at_35) rfl kk_) ?_
  obtain ⟨p1, hp1, ep1⟩ := own_and ((Int32.ofNat pp) + (1 : Int32)) 63 (by decide)
  rw [show (((Int32.ofNat pp) + (1 : Int32)) &&& (63 : Int32)) = (Int32.ofNat p1) from ep1]
  refine Gq.go (T3.setTop (mkF m 37 #[.val (.long x0), .second, .val (.long x1), .second, .val (.long x2), .second, .val (.long x3), .second, .val (.int x4), .val (.int x5), .val (.int (Int32.ofNat cn)), .val (.ref b1), .val (.int (Int32.ofNat pp)), .unset, .unset, .unset, .unset, .unset, .unset, .unset, .unset] [(.long x1), (.int (Int32.ofNat p1)), (.ref b1)])) (fun tt_ kk_ => XS.lloadN X3.here hx rfl (hb hby at_36) rfl kk_) ?_
  obtain ⟨T6, h6, X6, eh6, W6, st6⟩ := stoJ X3 hx hZ eh3 V3 (j := (Int32.ofNat p1)) (i := p1) (x := x1) (Ls := #[.val (.long x0), .second, .val (.long x1), .second, .val (.long x2), .second, .val (.long x3), .second, .val (.int x4), .val (.int x5), .val (.int (Int32.ofNat cn)), .val (.ref b1), .val (.int (Int32.ofNat pp)), .unset, .unset, .unset, .unset, .unset, .unset, .unset, .unset]) (rest := []) (own_nn (by omega)) (own_nc (by omega)) (by omega) (hb hby at_37)
  have ta7 := Nat.lt_of_lt_of_le ta4 (Nat.le_of_eq W6.size.symm)
  have za8 : n0 ≤ h6.size := Nat.le_trans za5 (Nat.le_of_eq W6.size.symm)
  have V6 : LA Z h6 b1 .long 64 (fun i => .long ((updI (updI (fun _ : Nat => (0 : Int64)) pp x0) p1 x1) i)) := (V3.set W6).congr (fun i _ => upd_long _ _ _ i)
  have N6 := Fr.snoc X6 N3 g_b1
  refine Gq.go (T6.setTop (mkF m 38 #[.val (.long x0), .second, .val (.long x1), .second, .val (.long x2), .second, .val (.long x3), .second, .val (.int x4), .val (.int x5), .val (.int (Int32.ofNat cn)), .val (.ref b1), .val (.int (Int32.ofNat pp)), .unset, .unset, .unset, .unset, .unset, .unset, .unset, .unset] [])) (fun tt_ kk_ => st6 tt_ kk_) ?_
  refine Gq.go (T6.setTop (mkF m 40 #[.val (.long x0), .second, .val (.long x1), .second, .val (.long x2), .second, .val (.long x3), .second, .val (.int x4), .val (.int x5), .val (.int (Int32.ofNat cn)), .val (.ref b1), .val (.int (Int32.ofNat pp)), .unset, .unset, .unset, .unset, .unset, .unset, .unset, .unset] [(.ref b1)])) (fun tt_ kk_ => XS.aload X6.here hx rfl (hb hby at_38) rfl rfl kk_) ?_
  refine Gq.go (T6.setTop (mkF m 42 #[.val (.long x0), .second, .val (.long x1), .second, .val (.long x2), .second, .val (.long x3), .second, .val (.int x4), .val (.int x5), .val (.int (Int32.ofNat cn)), .val (.ref b1), .val (.int (Int32.ofNat pp)), .unset, .unset, .unset, .unset, .unset, .unset, .unset, .unset] [(.int (Int32.ofNat pp)), (.ref b1)])) (fun tt_ kk_ => XS.iload X6.here hx rfl (hb hby at_40) rfl kk_) ?_
  refine Gq.go (T6.setTop (mkF m 43 #[.val (.long x0), .second, .val (.long x1), .second, .val (.long x2), .second, .val (.long x3), .second, .val (.int x4), .val (.int x5), .val (.int (Int32.ofNat cn)), .val (.ref b1), .val (.int (Int32.ofNat pp)), .unset, .unset, .unset, .unset, .unset, .unset, .unset, .unset] [(.int (2 : Int32)), (.int (Int32.ofNat pp)), (.ref b1)])) (fun tt_ kk_ => XS.iconst X6.here hx rfl (hb hby at_42) kk_) ?_
  refine Gq.go (T6.setTop (mkF m 44 #[.val (.long x0), .second, .val (.long x1), .second, .val (.long x2), .second, .val (.long x3), .second, .val (.int x4), .val (.int x5), .val (.int (Int32.ofNat cn)), .val (.ref b1), .val (.int (Int32.ofNat pp)), .unset, .unset, .unset, .unset, .unset, .unset, .unset, .unset] [(.int ((Int32.ofNat pp) + (2 : Int32))), (.ref b1)])) (fun tt_ kk_ => XS.iadd X6.here hx rfl (hb hby at_43) rfl kk_) ?_
  refine Gq.go (T6.setTop (mkF m 46 #[.val (.long x0), .second, .val (.long x1), .second, .val (.long x2), .second, .val (.long x3), .second, .val (.int x4), .val (.int x5), .val (.int (Int32.ofNat cn)), .val (.ref b1), .val (.int (Int32.ofNat pp)), .unset, .unset, .unset, .unset, .unset, .unset, .unset, .unset] [(.int (63 : Int32)), (.int ((Int32.ofNat pp) + (2 : Int32))), (.ref b1)])) (fun tt_ kk_ => XS.bipush X6.here hx rfl (hb hby at_44) kk_) ?_
  refine Gq.go (T6.setTop (mkF m 47 #[.val (.long x0), .second, .val (.long x1), .second, .val (.long x2), .second, .val (.long x3), .second, .val (.int x4), .val (.int x5), .val (.int (Int32.ofNat cn)), .val (.ref b1), .val (.int (Int32.ofNat pp)), .unset, .unset, .unset, .unset, .unset, .unset, .unset, .unset] [(.int (((Int32.ofNat pp) + (2 : Int32)) &&& (63 : Int32))), (.ref b1)])) (fun tt_ kk_ => XS.iand X6.here hx rfl (hb hby at_46) rfl kk_) ?_
  obtain ⟨p2, hp2, ep2⟩ := own_and ((Int32.ofNat pp) + (2 : Int32)) 63 (by decide)
  rw [show (((Int32.ofNat pp) + (2 : Int32)) &&& (63 : Int32)) = (Int32.ofNat p2) from ep2]
  refine Gq.go (T6.setTop (mkF m 49 #[.val (.long x0), .second, .val (.long x1), .second, .val (.long x2), .second, .val (.long x3), .second, .val (.int x4), .val (.int x5), .val (.int (Int32.ofNat cn)), .val (.ref b1), .val (.int (Int32.ofNat pp)), .unset, .unset, .unset, .unset, .unset, .unset, .unset, .unset] [(.long x2), (.int (Int32.ofNat p2)), (.ref b1)])) (fun tt_ kk_ => XS.lload X6.here hx rfl (hb hby at_47) rfl kk_) ?_
  obtain ⟨T9, h9, X9, eh9, W9, st9⟩ := stoJ X6 hx hZ eh6 V6 (j := (Int32.ofNat p2)) (i := p2) (x := x2) (Ls := #[.val (.long x0), .second, .val (.long x1), .second, .val (.long x2), .second, .val (.long x3), .second, .val (.int x4), .val (.int x5), .val (.int (Int32.ofNat cn)), .val (.ref b1), .val (.int (Int32.ofNat pp)), .unset, .unset, .unset, .unset, .unset, .unset, .unset, .unset]) (rest := []) (own_nn (by omega)) (own_nc (by omega)) (by omega) (hb hby at_49)
  have ta10 := Nat.lt_of_lt_of_le ta7 (Nat.le_of_eq W9.size.symm)
  have za11 : n0 ≤ h9.size := Nat.le_trans za8 (Nat.le_of_eq W9.size.symm)
  have V9 : LA Z h9 b1 .long 64 (fun i => .long ((updI (updI (updI (fun _ : Nat => (0 : Int64)) pp x0) p1 x1) p2 x2) i)) := (V6.set W9).congr (fun i _ => upd_long _ _ _ i)
  have N9 := Fr.snoc X9 N6 g_b1
  refine Gq.go (T9.setTop (mkF m 50 #[.val (.long x0), .second, .val (.long x1), .second, .val (.long x2), .second, .val (.long x3), .second, .val (.int x4), .val (.int x5), .val (.int (Int32.ofNat cn)), .val (.ref b1), .val (.int (Int32.ofNat pp)), .unset, .unset, .unset, .unset, .unset, .unset, .unset, .unset] [])) (fun tt_ kk_ => st9 tt_ kk_) ?_
  refine Gq.go (T9.setTop (mkF m 52 #[.val (.long x0), .second, .val (.long x1), .second, .val (.long x2), .second, .val (.long x3), .second, .val (.int x4), .val (.int x5), .val (.int (Int32.ofNat cn)), .val (.ref b1), .val (.int (Int32.ofNat pp)), .unset, .unset, .unset, .unset, .unset, .unset, .unset, .unset] [(.ref b1)])) (fun tt_ kk_ => XS.aload X9.here hx rfl (hb hby at_50) rfl rfl kk_) ?_
  refine Gq.go (T9.setTop (mkF m 54 #[.val (.long x0), .second, .val (.long x1), .second, .val (.long x2), .second, .val (.long x3), .second, .val (.int x4), .val (.int x5), .val (.int (Int32.ofNat cn)), .val (.ref b1), .val (.int (Int32.ofNat pp)), .unset, .unset, .unset, .unset, .unset, .unset, .unset, .unset] [(.int x4), (.ref b1)])) (fun tt_ kk_ => XS.iload X9.here hx rfl (hb hby at_52) rfl kk_) ?_
  refine Gq.go (T9.setTop (mkF m 56 #[.val (.long x0), .second, .val (.long x1), .second, .val (.long x2), .second, .val (.long x3), .second, .val (.int x4), .val (.int x5), .val (.int (Int32.ofNat cn)), .val (.ref b1), .val (.int (Int32.ofNat pp)), .unset, .unset, .unset, .unset, .unset, .unset, .unset, .unset] [(.int (6 : Int32)), (.int x4), (.ref b1)])) (fun tt_ kk_ => XS.bipush X9.here hx rfl (hb hby at_54) kk_) ?_
  refine Gq.go (T9.setTop (mkF m 57 #[.val (.long x0), .second, .val (.long x1), .second, .val (.long x2), .second, .val (.long x3), .second, .val (.int x4), .val (.int x5), .val (.int (Int32.ofNat cn)), .val (.ref b1), .val (.int (Int32.ofNat pp)), .unset, .unset, .unset, .unset, .unset, .unset, .unset, .unset] [(.int ((x4.toUInt32 >>> ((6 : Int32) &&& 31).toUInt32).toInt32)), (.ref b1)])) (fun tt_ kk_ => XS.iushr X9.here hx rfl (hb hby at_56) rfl kk_) ?_
  refine Gq.go (T9.setTop (mkF m 59 #[.val (.long x0), .second, .val (.long x1), .second, .val (.long x2), .second, .val (.long x3), .second, .val (.int x4), .val (.int x5), .val (.int (Int32.ofNat cn)), .val (.ref b1), .val (.int (Int32.ofNat pp)), .unset, .unset, .unset, .unset, .unset, .unset, .unset, .unset] [(.int (63 : Int32)), (.int ((x4.toUInt32 >>> ((6 : Int32) &&& 31).toUInt32).toInt32)), (.ref b1)])) (fun tt_ kk_ => XS.bipush X9.here hx rfl (hb hby at_57) kk_) ?_
  refine Gq.go (T9.setTop (mkF m 60 #[.val (.long x0), .second, .val (.long x1), .second, .val (.long x2), .second, .val (.long x3), .second, .val (.int x4), .val (.int x5), .val (.int (Int32.ofNat cn)), .val (.ref b1), .val (.int (Int32.ofNat pp)), .unset, .unset, .unset, .unset, .unset, .unset, .unset, .unset] [(.int (((x4.toUInt32 >>> ((6 : Int32) &&& 31).toUInt32).toInt32) &&& (63 : Int32))), (.ref b1)])) (fun tt_ kk_ => XS.iand X9.here hx rfl (hb hby at_59) rfl kk_) ?_
  obtain ⟨p3, hp3, ep3⟩ := own_and ((x4.toUInt32 >>> ((6 : Int32) &&& 31).toUInt32).toInt32) 63 (by decide)
  rw [show (((x4.toUInt32 >>> ((6 : Int32) &&& 31).toUInt32).toInt32) &&& (63 : Int32)) = (Int32.ofNat p3) from ep3]
  refine Gq.go (T9.setTop (mkF m 62 #[.val (.long x0), .second, .val (.long x1), .second, .val (.long x2), .second, .val (.long x3), .second, .val (.int x4), .val (.int x5), .val (.int (Int32.ofNat cn)), .val (.ref b1), .val (.int (Int32.ofNat pp)), .unset, .unset, .unset, .unset, .unset, .unset, .unset, .unset] [(.long x3), (.int (Int32.ofNat p3)), (.ref b1)])) (fun tt_ kk_ => XS.lload X9.here hx rfl (hb hby at_60) rfl kk_) ?_
  obtain ⟨T12, h12, X12, eh12, W12, st12⟩ := stoJ X9 hx hZ eh9 V9 (j := (Int32.ofNat p3)) (i := p3) (x := x3) (Ls := #[.val (.long x0), .second, .val (.long x1), .second, .val (.long x2), .second, .val (.long x3), .second, .val (.int x4), .val (.int x5), .val (.int (Int32.ofNat cn)), .val (.ref b1), .val (.int (Int32.ofNat pp)), .unset, .unset, .unset, .unset, .unset, .unset, .unset, .unset]) (rest := []) (own_nn (by omega)) (own_nc (by omega)) (by omega) (hb hby at_62)
  have ta13 := Nat.lt_of_lt_of_le ta10 (Nat.le_of_eq W12.size.symm)
  have za14 : n0 ≤ h12.size := Nat.le_trans za11 (Nat.le_of_eq W12.size.symm)
  have V12 : LA Z h12 b1 .long 64 (fun i => .long ((updI (updI (updI (updI (fun _ : Nat => (0 : Int64)) pp x0) p1 x1) p2 x2) p3 x3) i)) := (V9.set W12).congr (fun i _ => upd_long _ _ _ i)
  have N12 := Fr.snoc X12 N9 g_b1
  refine Gq.go (T12.setTop (mkF m 63 #[.val (.long x0), .second, .val (.long x1), .second, .val (.long x2), .second, .val (.long x3), .second, .val (.int x4), .val (.int x5), .val (.int (Int32.ofNat cn)), .val (.ref b1), .val (.int (Int32.ofNat pp)), .unset, .unset, .unset, .unset, .unset, .unset, .unset, .unset] [])) (fun tt_ kk_ => st12 tt_ kk_) ?_
  refine Gq.go (T12.setTop (mkF m 64 #[.val (.long x0), .second, .val (.long x1), .second, .val (.long x2), .second, .val (.long x3), .second, .val (.int x4), .val (.int x5), .val (.int (Int32.ofNat cn)), .val (.ref b1), .val (.int (Int32.ofNat pp)), .unset, .unset, .unset, .unset, .unset, .unset, .unset, .unset] [(.int (2 : Int32))])) (fun tt_ kk_ => XS.iconst X12.here hx rfl (hb hby at_63) kk_) ?_
  obtain ⟨T15, h15, b15, X15, eh15, E15, aq15, V15, st15⟩ := mkA X12 hx hZ (hw _ (List.mem_of_getElem? (i := 1) rfl)) eh12 (z := (2 : Int32)) (n := 2) (Ls := #[.val (.long x0), .second, .val (.long x1), .second, .val (.long x2), .second, .val (.long x3), .second, .val (.int x4), .val (.int x5), .val (.int (Int32.ofNat cn)), .val (.ref b1), .val (.int (Int32.ofNat pp)), .unset, .unset, .unset, .unset, .unset, .unset, .unset, .unset]) (rest := []) (by decide) rfl (by decide) (by decide) (by decide) (hb hby at_64)
  have g_b15 : n0 ≤ b15 := Nat.le_trans za14 (Nat.le_of_eq aq15.symm)
  have ne_b1_b15 : b1 ≠ b15 := Nat.ne_of_lt (Nat.lt_of_lt_of_le ta13 (Nat.le_of_eq aq15.symm))
  have fa16 := V12.ext E15
  have ta17 := Nat.lt_of_lt_of_le ta13 E15.1
  have za18 : n0 ≤ h15.size := Nat.le_trans za14 E15.1
  have V15' : LA Z h15 b15 .int 2 (gl [(.int (0 : Int32)), (.int (0 : Int32))] (.int (0 : Int32))) := V15.list
  have ta15' := V15'.lt
  refine Gq.go (T15.setTop (mkF m 66 #[.val (.long x0), .second, .val (.long x1), .second, .val (.long x2), .second, .val (.long x3), .second, .val (.int x4), .val (.int x5), .val (.int (Int32.ofNat cn)), .val (.ref b1), .val (.int (Int32.ofNat pp)), .unset, .unset, .unset, .unset, .unset, .unset, .unset, .unset] [(.ref b15)])) (fun tt_ kk_ => st15 tt_ kk_) ?_
  refine Gq.go (T15.setTop (mkF m 68 #[.val (.long x0), .second, .val (.long x1), .second, .val (.long x2), .second, .val (.long x3), .second, .val (.int x4), .val (.int x5), .val (.int (Int32.ofNat cn)), .val (.ref b1), .val (.int (Int32.ofNat pp)), .val (.ref b15), .unset, .unset, .unset, .unset, .unset, .unset, .unset] [])) (fun tt_ kk_ => XS.astore X15.here hx rfl (hb hby at_66) rfl rfl (l' := #[.val (.long x0), .second, .val (.long x1), .second, .val (.long x2), .second, .val (.long x3), .second, .val (.int x4), .val (.int x5), .val (.int (Int32.ofNat cn)), .val (.ref b1), .val (.int (Int32.ofNat pp)), .val (.ref b15), .unset, .unset, .unset, .unset, .unset, .unset, .unset]) rfl kk_) ?_
  refine Gq.go (T15.setTop (mkF m 70 #[.val (.long x0), .second, .val (.long x1), .second, .val (.long x2), .second, .val (.long x3), .second, .val (.int x4), .val (.int x5), .val (.int (Int32.ofNat cn)), .val (.ref b1), .val (.int (Int32.ofNat pp)), .val (.ref b15), .unset, .unset, .unset, .unset, .unset, .unset, .unset] [(.ref b15)])) (fun tt_ kk_ => XS.aload X15.here hx rfl (hb hby at_68) rfl rfl kk_) ?_
  refine Gq.go (T15.setTop (mkF m 71 #[.val (.long x0), .second, .val (.long x1), .second, .val (.long x2), .second, .val (.long x3), .second, .val (.int x4), .val (.int x5), .val (.int (Int32.ofNat cn)), .val (.ref b1), .val (.int (Int32.ofNat pp)), .val (.ref b15), .unset, .unset, .unset, .unset, .unset, .unset, .unset] [(.int (0 : Int32)), (.ref b15)])) (fun tt_ kk_ => XS.iconst X15.here hx rfl (hb hby at_70) kk_) ?_
  refine Gq.go (T15.setTop (mkF m 73 #[.val (.long x0), .second, .val (.long x1), .second, .val (.long x2), .second, .val (.long x3), .second, .val (.int x4), .val (.int x5), .val (.int (Int32.ofNat cn)), .val (.ref b1), .val (.int (Int32.ofNat pp)), .val (.ref b15), .unset, .unset, .unset, .unset, .unset, .unset, .unset] [(.int x4), (.int (0 : Int32)), (.ref b15)])) (fun tt_ kk_ => XS.iload X15.here hx rfl (hb hby at_71) rfl kk_) ?_
  obtain ⟨T19, h19, X19, eh19, W19, st19⟩ := stoI X15 hx hZ eh15 V15' (j := (0 : Int32)) (i := 0) (x := x4) (Ls := #[.val (.long x0), .second, .val (.long x1), .second, .val (.long x2), .second, .val (.long x3), .second, .val (.int x4), .val (.int x5), .val (.int (Int32.ofNat cn)), .val (.ref b1), .val (.int (Int32.ofNat pp)), .val (.ref b15), .unset, .unset, .unset, .unset, .unset, .unset, .unset]) (rest := []) (by decide) rfl (by decide) (hb hby at_73)
  have fa20 := fa16.other W19 ne_b1_b15
  have ta21 := Nat.lt_of_lt_of_le ta17 (Nat.le_of_eq W19.size.symm)
  have ta22 := Nat.lt_of_lt_of_le ta15' (Nat.le_of_eq W19.size.symm)
  have za23 : n0 ≤ h19.size := Nat.le_trans za18 (Nat.le_of_eq W19.size.symm)
  have V19 : LA Z h19 b15 .int 2 (gl [(.int x4), (.int (0 : Int32))] (.int (0 : Int32))) := V15'.setL W19 (Nat.le_of_ble_eq_true rfl)
  have N19 := Fr.snoc X19 N12 g_b15
  refine Gq.go (T19.setTop (mkF m 74 #[.val (.long x0), .second, .val (.long x1), .second, .val (.long x2), .second, .val (.long x3), .second, .val (.int x4), .val (.int x5), .val (.int (Int32.ofNat cn)), .val (.ref b1), .val (.int (Int32.ofNat pp)), .val (.ref b15), .unset, .unset, .unset, .unset, .unset, .unset, .unset] [])) (fun tt_ kk_ => st19 tt_ kk_) ?_
  refine Gq.go (T19.setTop (mkF m 76 #[.val (.long x0), .second, .val (.long x1), .second, .val (.long x2), .second, .val (.long x3), .second, .val (.int x4), .val (.int x5), .val (.int (Int32.ofNat cn)), .val (.ref b1), .val (.int (Int32.ofNat pp)), .val (.ref b15), .unset, .unset, .unset, .unset, .unset, .unset, .unset] [(.ref b15)])) (fun tt_ kk_ => XS.aload X19.here hx rfl (hb hby at_74) rfl rfl kk_) ?_
  refine Gq.go (T19.setTop (mkF m 77 #[.val (.long x0), .second, .val (.long x1), .second, .val (.long x2), .second, .val (.long x3), .second, .val (.int x4), .val (.int x5), .val (.int (Int32.ofNat cn)), .val (.ref b1), .val (.int (Int32.ofNat pp)), .val (.ref b15), .unset, .unset, .unset, .unset, .unset, .unset, .unset] [(.int (1 : Int32)), (.ref b15)])) (fun tt_ kk_ => XS.iconst X19.here hx rfl (hb hby at_76) kk_) ?_
  refine Gq.go (T19.setTop (mkF m 79 #[.val (.long x0), .second, .val (.long x1), .second, .val (.long x2), .second, .val (.long x3), .second, .val (.int x4), .val (.int x5), .val (.int (Int32.ofNat cn)), .val (.ref b1), .val (.int (Int32.ofNat pp)), .val (.ref b15), .unset, .unset, .unset, .unset, .unset, .unset, .unset] [(.int x5), (.int (1 : Int32)), (.ref b15)])) (fun tt_ kk_ => XS.iload X19.here hx rfl (hb hby at_77) rfl kk_) ?_
  obtain ⟨T24, h24, X24, eh24, W24, st24⟩ := stoI X19 hx hZ eh19 V19 (j := (1 : Int32)) (i := 1) (x := x5) (Ls := #[.val (.long x0), .second, .val (.long x1), .second, .val (.long x2), .second, .val (.long x3), .second, .val (.int x4), .val (.int x5), .val (.int (Int32.ofNat cn)), .val (.ref b1), .val (.int (Int32.ofNat pp)), .val (.ref b15), .unset, .unset, .unset, .unset, .unset, .unset, .unset]) (rest := []) (by decide) rfl (by decide) (hb hby at_79)
  have fa25 := fa20.other W24 ne_b1_b15
  have ta26 := Nat.lt_of_lt_of_le ta21 (Nat.le_of_eq W24.size.symm)
  have ta27 := Nat.lt_of_lt_of_le ta22 (Nat.le_of_eq W24.size.symm)
  have za28 : n0 ≤ h24.size := Nat.le_trans za23 (Nat.le_of_eq W24.size.symm)
  have V24 : LA Z h24 b15 .int 2 (gl [(.int x4), (.int x5)] (.int (0 : Int32))) := V19.setL W24 (Nat.le_of_ble_eq_true rfl)
  have N24 := Fr.snoc X24 N19 g_b15
  refine Gq.go (T24.setTop (mkF m 80 #[.val (.long x0), .second, .val (.long x1), .second, .val (.long x2), .second, .val (.long x3), .second, .val (.int x4), .val (.int x5), .val (.int (Int32.ofNat cn)), .val (.ref b1), .val (.int (Int32.ofNat pp)), .val (.ref b15), .unset, .unset, .unset, .unset, .unset, .unset, .unset] [])) (fun tt_ kk_ => st24 tt_ kk_) ?_
  obtain ⟨IN, hIN⟩ : ∃ IN : Nat → Int64, IN = (updI (updI (updI (updI (fun _ : Nat => (0 : Int64)) pp x0) p1 x1) p2 x2) p3 x3) := ⟨_, rfl⟩
  have VI : LA Z h24 b1 .long 64 (fun i => .long (IN i)) := by rw [hIN]; exact fa25
  have VB : LA Z h24 b15 .int 2 (fun i => .int ((fun i => [x4, x5].getD i 0) i)) := V24.congr fun i _ => own_glmap [x4, x5] i
  obtain ⟨T29, h29, X29, eh29, E29, A29, D29, -, st29⟩ := newO X24 hx hZ hown (hw _ (List.mem_of_getElem? (i := 2) rfl)) (hw _ (List.mem_of_getElem? (i := 3) rfl)) (hw _ (List.mem_of_getElem? (i := 4) rfl)) eh24 (g := (mkF m 80 #[.val (.long x0), .second, .val (.long x1), .second, .val (.long x2), .second, .val (.long x3), .second, .val (.int x4), .val (.int x5), .val (.int (Int32.ofNat cn)), .val (.ref b1), .val (.int (Int32.ofNat pp)), .val (.ref b15), .unset, .unset, .unset, .unset, .unset, .unset, .unset] [])) rfl (hb hby at_80) (by decide) (by decide)
  obtain ⟨b29, aq29⟩ : ∃ z, z = h24.size := ⟨_, rfl⟩
  rw [← aq29] at A29 D29 st29
  have g_b29 : n0 ≤ b29 := Nat.le_trans za28 (Nat.le_of_eq aq29.symm)
  have ne_b1_b29 : b1 ≠ b29 := Nat.ne_of_lt (Nat.lt_of_lt_of_le ta26 (Nat.le_of_eq aq29.symm))
  have ne_b15_b29 : b15 ≠ b29 := Nat.ne_of_lt (Nat.lt_of_lt_of_le ta27 (Nat.le_of_eq aq29.symm))
  have fa30 := VI.ext E29
  have fa31 := VB.ext E29
  have ta32 := Nat.lt_of_lt_of_le ta26 E29.1
  have ta33 := Nat.lt_of_lt_of_le ta27 E29.1
  have za34 : n0 ≤ h29.size := Nat.le_trans za28 E29.1
  have F29_count : Fld Z h29 b29 "com/example/dense_trie/densetrie/Heads" "count" "I" (.int (0 : Int32)) := D29 (Or.inl (hw _ (List.mem_of_getElem? (i := 12) rfl))) (ty := .int) (by decide)
  have F29_runs : Fld Z h29 b29 "com/example/dense_trie/densetrie/Heads" "runs" "[J" .null := D29 (Or.inl (hw _ (List.mem_of_getElem? (i := 14) rfl))) (ty := (.array .long)) (by decide)
  have ta29' := A29.lt
  refine Gq.go (T29.setTop (mkF m 83 #[.val (.long x0), .second, .val (.long x1), .second, .val (.long x2), .second, .val (.long x3), .second, .val (.int x4), .val (.int x5), .val (.int (Int32.ofNat cn)), .val (.ref b1), .val (.int (Int32.ofNat pp)), .val (.ref b15), .unset, .unset, .unset, .unset, .unset, .unset, .unset] [(.ref b29)])) (fun tt_ kk_ => st29 tt_ kk_) ?_
  refine Gq.go (T29.setTop (mkF m 84 #[.val (.long x0), .second, .val (.long x1), .second, .val (.long x2), .second, .val (.long x3), .second, .val (.int x4), .val (.int x5), .val (.int (Int32.ofNat cn)), .val (.ref b1), .val (.int (Int32.ofNat pp)), .val (.ref b15), .unset, .unset, .unset, .unset, .unset, .unset, .unset] [(.ref b29), (.ref b29)])) (fun tt_ kk_ => XS.dup X29.here hx rfl (hb hby at_83) rfl rfl kk_) ?_
  refine Gq.go (T29.setTop (mkF m 86 #[.val (.long x0), .second, .val (.long x1), .second, .val (.long x2), .second, .val (.long x3), .second, .val (.int x4), .val (.int x5), .val (.int (Int32.ofNat cn)), .val (.ref b1), .val (.int (Int32.ofNat pp)), .val (.ref b15), .unset, .unset, .unset, .unset, .unset, .unset, .unset] [(.int (Int32.ofNat cn)), (.ref b29), (.ref b29)])) (fun tt_ kk_ => XS.iload X29.here hx rfl (hb hby at_84) rfl kk_) ?_
  refine Gq.go (T29.setTop (mkF m 88 #[.val (.long x0), .second, .val (.long x1), .second, .val (.long x2), .second, .val (.long x3), .second, .val (.int x4), .val (.int x5), .val (.int (Int32.ofNat cn)), .val (.ref b1), .val (.int (Int32.ofNat pp)), .val (.ref b15), .unset, .unset, .unset, .unset, .unset, .unset, .unset] [(.ref b1), (.int (Int32.ofNat cn)), (.ref b29), (.ref b29)])) (fun tt_ kk_ => XS.aload X29.here hx rfl (hb hby at_86) rfl rfl kk_) ?_
  refine Gq.go (T29.setTop (mkF m 90 #[.val (.long x0), .second, .val (.long x1), .second, .val (.long x2), .second, .val (.long x3), .second, .val (.int x4), .val (.int x5), .val (.int (Int32.ofNat cn)), .val (.ref b1), .val (.int (Int32.ofNat pp)), .val (.ref b15), .unset, .unset, .unset, .unset, .unset, .unset, .unset] [(.ref b15), (.ref b1), (.int (Int32.ofNat cn)), (.ref b29), (.ref b29)])) (fun tt_ kk_ => XS.aload X29.here hx rfl (hb hby at_88) rfl rfl kk_) ?_
  obtain ⟨r35, T35, L35, X35, hQ35, st35⟩ := callI (pc := 90) (Ls := #[.val (.long x0), .second, .val (.long x1), .second, .val (.long x2), .second, .val (.long x3), .second, .val (.int x4), .val (.int x5), .val (.int (Int32.ofNat cn)), .val (.ref b1), .val (.int (Int32.ofNat pp)), .val (.ref b15), .unset, .unset, .unset, .unset, .unset, .unset, .unset]) X29 hx hZ hown eh29 b29 [(.int (Int32.ofNat cn)), (.ref b1), (.ref b15)] [(.ref b29)] (hw _ (List.mem_of_getElem? (i := 5) rfl)) (hw _ (List.mem_of_getElem? (i := 6) rfl)) (hw _ (List.mem_of_getElem? (i := 4) rfl)) (hw _ (List.mem_of_getElem? (i := 7) rfl)) rfl (by decide) (rm1 l Z a0 hw [] b29 cn b1 b15 IN (fun i => [x4, x5].getD i 0) h29 n0 za34 A29 g_b29 F29_count F29_runs fa30 fa31 ne_b1_b29 ne_b15_b29 (by omega) (by omega)) pd_5 rfl (by rw [hml]; rfl) (W := 1) (Nat.le_of_eq rfl) (by decide) (by decide) (by decide) (by decide) (hb hby at_90)
  obtain ⟨rfl, N35q, Kc35, rn, F, grn, szrn, nar_, c35_0, c35_1, c35_2, good⟩ := hQ35
  have N35 := Fr.app N24 N35q
  have fa36 := fa30.keep Kc35 (ninS ne_b1_b29 nin0)
  have fa37 := fa31.keep Kc35 (ninS ne_b15_b29 nin0)
  have fa38 := A29.keep Kc35
  have ta41 := Nat.lt_of_lt_of_le ta32 Kc35.1
  have ta42 := Nat.lt_of_lt_of_le ta33 Kc35.1
  have ta43 := Nat.lt_of_lt_of_le ta29' Kc35.1
  have za44 : n0 ≤ T35.heap.size := Nat.le_trans za34 Kc35.1
  refine Gq.go (T35.setTop (mkF m 93 #[.val (.long x0), .second, .val (.long x1), .second, .val (.long x2), .second, .val (.long x3), .second, .val (.int x4), .val (.int x5), .val (.int (Int32.ofNat cn)), .val (.ref b1), .val (.int (Int32.ofNat pp)), .val (.ref b15), .unset, .unset, .unset, .unset, .unset, .unset, .unset] [(.ref b29)])) (fun tt_ kk_ => st35 tt_ kk_) ?_
  refine Gq.go (T35.setTop (mkF m 95 #[.val (.long x0), .second, .val (.long x1), .second, .val (.long x2), .second, .val (.long x3), .second, .val (.int x4), .val (.int x5), .val (.int (Int32.ofNat cn)), .val (.ref b1), .val (.int (Int32.ofNat pp)), .val (.ref b15), .val (.ref b29), .unset, .unset, .unset, .unset, .unset, .unset] [])) (fun tt_ kk_ => XS.astore X35.here hx rfl (hb hby at_93) rfl rfl (l' := #[.val (.long x0), .second, .val (.long x1), .second, .val (.long x2), .second, .val (.long x3), .second, .val (.int x4), .val (.int x5), .val (.int (Int32.ofNat cn)), .val (.ref b1), .val (.int (Int32.ofNat pp)), .val (.ref b15), .val (.ref b29), .unset, .unset, .unset, .unset, .unset, .unset]) rfl kk_) ?_
  refine Gq.go (T35.setTop (mkF m 97 #[.val (.long x0), .second, .val (.long x1), .second, .val (.long x2), .second, .val (.long x3), .second, .val (.int x4), .val (.int x5), .val (.int (Int32.ofNat cn)), .val (.ref b1), .val (.int (Int32.ofNat pp)), .val (.ref b15), .val (.ref b29), .unset, .unset, .unset, .unset, .unset, .unset] [(.ref b29)])) (fun tt_ kk_ => XS.aload X35.here hx rfl (hb hby at_95) rfl rfl kk_) ?_
  obtain ⟨r45, T45, L45, X45, hQ45, st45⟩ := callV (pc := 97) (Ls := #[.val (.long x0), .second, .val (.long x1), .second, .val (.long x2), .second, .val (.long x3), .second, .val (.int x4), .val (.int x5), .val (.int (Int32.ofNat cn)), .val (.ref b1), .val (.int (Int32.ofNat pp)), .val (.ref b15), .val (.ref b29), .unset, .unset, .unset, .unset, .unset, .unset]) X35 hx hZ hown rfl b29 [] [] fa38 (hw _ (List.mem_of_getElem? (i := 37) rfl)) (hw _ (List.mem_of_getElem? (i := 38) rfl)) (hw _ (List.mem_of_getElem? (i := 40) rfl)) (hw _ (List.mem_of_getElem? (i := 39) rfl)) (hw _ (List.mem_of_getElem? (i := 4) rfl)) (hw _ (List.mem_of_getElem? (i := 41) rfl)) (by decide) (rm7 l Z a0 hw [] b29 cn rn F IN T35.heap n0 za44 c35_0 c35_1 c35_2 (by omega) (by omega) good) pd_6 rfl (by rw [hml]; rfl) (W := 0) (Nat.le_of_eq rfl) (by decide) (by decide) (by decide) (by decide) (hb hby at_97)
  obtain ⟨⟨b45, Gz, rfl, g_b45, szx45, Vc45, hGz⟩, N45q, Kc45⟩ := hQ45
  have N45 := Fr.app N35 N45q
  have fa46 := fa36.keep Kc45 nin0
  have fa47 := fa37.keep Kc45 nin0
  have fa48 := fa38.keep Kc45
  have fa49 := c35_0.keep Kc45 nin0
  have fa50 := c35_1.keep Kc45 nin0
  have fa51 := c35_2.keep Kc45 nin0
  have ta52 := Nat.lt_of_lt_of_le ta41 Kc45.1
  have ta53 := Nat.lt_of_lt_of_le ta42 Kc45.1
  have ta54 := Nat.lt_of_lt_of_le ta43 Kc45.1
  have ta55 := Nat.lt_of_lt_of_le c35_2.lt Kc45.1
  have za56 : n0 ≤ T45.heap.size := Nat.le_trans za44 Kc45.1
  refine Gq.go (T45.setTop (mkF m 100 #[.val (.long x0), .second, .val (.long x1), .second, .val (.long x2), .second, .val (.long x3), .second, .val (.int x4), .val (.int x5), .val (.int (Int32.ofNat cn)), .val (.ref b1), .val (.int (Int32.ofNat pp)), .val (.ref b15), .val (.ref b29), .unset, .unset, .unset, .unset, .unset, .unset] [(.ref b45)])) (fun tt_ kk_ => st45 tt_ kk_) ?_
  refine Gq.go (T45.setTop (mkF m 102 #[.val (.long x0), .second, .val (.long x1), .second, .val (.long x2), .second, .val (.long x3), .second, .val (.int x4), .val (.int x5), .val (.int (Int32.ofNat cn)), .val (.ref b1), .val (.int (Int32.ofNat pp)), .val (.ref b15), .val (.ref b29), .val (.ref b45), .unset, .unset, .unset, .unset, .unset] [])) (fun tt_ kk_ => XS.astore X45.here hx rfl (hb hby at_100) rfl rfl (l' := #[.val (.long x0), .second, .val (.long x1), .second, .val (.long x2), .second, .val (.long x3), .second, .val (.int x4), .val (.int x5), .val (.int (Int32.ofNat cn)), .val (.ref b1), .val (.int (Int32.ofNat pp)), .val (.ref b15), .val (.ref b29), .val (.ref b45), .unset, .unset, .unset, .unset, .unset]) rfl kk_) ?_
  refine Gq.go (T45.setTop (mkF m 104 #[.val (.long x0), .second, .val (.long x1), .second, .val (.long x2), .second, .val (.long x3), .second, .val (.int x4), .val (.int x5), .val (.int (Int32.ofNat cn)), .val (.ref b1), .val (.int (Int32.ofNat pp)), .val (.ref b15), .val (.ref b29), .val (.ref b45), .unset, .unset, .unset, .unset, .unset] [(.ref b45)])) (fun tt_ kk_ => XS.aload X45.here hx rfl (hb hby at_102) rfl rfl kk_) ?_
  refine Gq.go (T45.setTop (mkF m 105 #[.val (.long x0), .second, .val (.long x1), .second, .val (.long x2), .second, .val (.long x3), .second, .val (.int x4), .val (.int x5), .val (.int (Int32.ofNat cn)), .val (.ref b1), .val (.int (Int32.ofNat pp)), .val (.ref b15), .val (.ref b29), .val (.ref b45), .unset, .unset, .unset, .unset, .unset] [(.int (Int32.ofNat (cn * 32)))])) (fun tt_ kk_ => lenA X45 hx hZ rfl Vc45 (hb hby at_104) tt_ kk_) ?_
  refine Gq.go (T45.setTop (mkF m 107 #[.val (.long x0), .second, .val (.long x1), .second, .val (.long x2), .second, .val (.long x3), .second, .val (.int x4), .val (.int x5), .val (.int (Int32.ofNat cn)), .val (.ref b1), .val (.int (Int32.ofNat pp)), .val (.ref b15), .val (.ref b29), .val (.ref b45), .unset, .unset, .unset, .unset, .unset] [(.int (32 : Int32)), (.int (Int32.ofNat (cn * 32)))])) (fun tt_ kk_ => XS.bipush X45.here hx rfl (hb hby at_105) kk_) ?_
  refine Gq.go (T45.setTop (mkF m 109 #[.val (.long x0), .second, .val (.long x1), .second, .val (.long x2), .second, .val (.long x3), .second, .val (.int x4), .val (.int x5), .val (.int (Int32.ofNat cn)), .val (.ref b1), .val (.int (Int32.ofNat pp)), .val (.ref b15), .val (.ref b29), .val (.ref b45), .unset, .unset, .unset, .unset, .unset] [(.int (Int32.ofNat cn)), (.int (32 : Int32)), (.int (Int32.ofNat (cn * 32)))])) (fun tt_ kk_ => XS.iload X45.here hx rfl (hb hby at_107) rfl kk_) ?_
  refine Gq.go (T45.setTop (mkF m 110 #[.val (.long x0), .second, .val (.long x1), .second, .val (.long x2), .second, .val (.long x3), .second, .val (.int x4), .val (.int x5), .val (.int (Int32.ofNat cn)), .val (.ref b1), .val (.int (Int32.ofNat pp)), .val (.ref b15), .val (.ref b29), .val (.ref b45), .unset, .unset, .unset, .unset, .unset] [(.int ((32 : Int32) * (Int32.ofNat cn))), (.int (Int32.ofNat (cn * 32)))])) (fun tt_ kk_ => XS.imul X45.here hx rfl (hb hby at_109) rfl kk_) ?_
  rw [show ((32 : Int32) * (Int32.ofNat cn)) = (Int32.ofNat (32 * cn)) from own_mul 32 cn]
  refine Gq.go (T45.setTop (mkF m 115 #[.val (.long x0), .second, .val (.long x1), .second, .val (.long x2), .second, .val (.long x3), .second, .val (.int x4), .val (.int x5), .val (.int (Int32.ofNat cn)), .val (.ref b1), .val (.int (Int32.ofNat pp)), .val (.ref b15), .val (.ref b29), .val (.ref b45), .unset, .unset, .unset, .unset, .unset] [])) (fun tt_ kk_ => XS.icmpYes X45.here hx rfl (pc0 := 110) (pc' := 115) rfl (hb hby at_110) rfl (teq (congrArg Int32.ofNat (Nat.mul_comm cn 32))).1 (by decide) (by decide) kk_) ?_
  refine Gq.go (T45.setTop (mkF m 117 #[.val (.long x0), .second, .val (.long x1), .second, .val (.long x2), .second, .val (.long x3), .second, .val (.int x4), .val (.int x5), .val (.int (Int32.ofNat cn)), .val (.ref b1), .val (.int (Int32.ofNat pp)), .val (.ref b15), .val (.ref b29), .val (.ref b45), .unset, .unset, .unset, .unset, .unset] [(.int x5)])) (fun tt_ kk_ => XS.iload X45.here hx rfl (hb hby at_115) rfl kk_) ?_
  refine Gq.go (T45.setTop (mkF m 118 #[.val (.long x0), .second, .val (.long x1), .second, .val (.long x2), .second, .val (.long x3), .second, .val (.int x4), .val (.int x5), .val (.int (Int32.ofNat cn)), .val (.ref b1), .val (.int (Int32.ofNat pp)), .val (.ref b15), .val (.ref b29), .val (.ref b45), .unset, .unset, .unset, .unset, .unset] [(.int (1 : Int32)), (.int x5)])) (fun tt_ kk_ => XS.iconst X45.here hx rfl (hb hby at_117) kk_) ?_
  refine Gq.go (T45.setTop (mkF m 119 #[.val (.long x0), .second, .val (.long x1), .second, .val (.long x2), .second, .val (.long x3), .second, .val (.int x4), .val (.int x5), .val (.int (Int32.ofNat cn)), .val (.ref b1), .val (.int (Int32.ofNat pp)), .val (.ref b15), .val (.ref b29), .val (.ref b45), .unset, .unset, .unset, .unset, .unset] [(.int ((x5.toUInt32 >>> ((1 : Int32) &&& 31).toUInt32).toInt32))])) (fun tt_ kk_ => XS.iushr X45.here hx rfl (hb hby at_118) rfl kk_) ?_
  refine Gq.go (T45.setTop (mkF m 121 #[.val (.long x0), .second, .val (.long x1), .second, .val (.long x2), .second, .val (.long x3), .second, .val (.int x4), .val (.int x5), .val (.int (Int32.ofNat cn)), .val (.ref b1), .val (.int (Int32.ofNat pp)), .val (.ref b15), .val (.ref b29), .val (.ref b45), .unset, .unset, .unset, .unset, .unset] [(.int (63 : Int32)), (.int ((x5.toUInt32 >>> ((1 : Int32) &&& 31).toUInt32).toInt32))])) (fun tt_ kk_ => XS.bipush X45.here hx rfl (hb hby at_119) kk_) ?_
  refine Gq.go (T45.setTop (mkF m 122 #[.val (.long x0), .second, .val (.long x1), .second, .val (.long x2), .second, .val (.long x3), .second, .val (.int x4), .val (.int x5), .val (.int (Int32.ofNat cn)), .val (.ref b1), .val (.int (Int32.ofNat pp)), .val (.ref b15), .val (.ref b29), .val (.ref b45), .unset, .unset, .unset, .unset, .unset] [(.int (((x5.toUInt32 >>> ((1 : Int32) &&& 31).toUInt32).toInt32) &&& (63 : Int32)))])) (fun tt_ kk_ => XS.iand X45.here hx rfl (hb hby at_121) rfl kk_) ?_
  obtain ⟨q0, hq0, eq0⟩ := own_and ((x5.toUInt32 >>> ((1 : Int32) &&& 31).toUInt32).toInt32) 63 (by decide)
  rw [show (((x5.toUInt32 >>> ((1 : Int32) &&& 31).toUInt32).toInt32) &&& (63 : Int32)) = (Int32.ofNat q0) from eq0]
  refine Gq.go (T45.setTop (mkF m 124 #[.val (.long x0), .second, .val (.long x1), .second, .val (.long x2), .second, .val (.long x3), .second, .val (.int x4), .val (.int x5), .val (.int (Int32.ofNat cn)), .val (.ref b1), .val (.int (Int32.ofNat pp)), .val (.ref b15), .val (.ref b29), .val (.ref b45), .val (.int (Int32.ofNat q0)), .unset, .unset, .unset, .unset] [])) (fun tt_ kk_ => XS.istore X45.here hx rfl (hb hby at_122) rfl (l' := #[.val (.long x0), .second, .val (.long x1), .second, .val (.long x2), .second, .val (.long x3), .second, .val (.int x4), .val (.int x5), .val (.int (Int32.ofNat cn)), .val (.ref b1), .val (.int (Int32.ofNat pp)), .val (.ref b15), .val (.ref b29), .val (.ref b45), .val (.int (Int32.ofNat q0)), .unset, .unset, .unset, .unset]) rfl kk_) ?_
  refine Gq.go (T45.setTop (mkF m 126 #[.val (.long x0), .second, .val (.long x1), .second, .val (.long x2), .second, .val (.long x3), .second, .val (.int x4), .val (.int x5), .val (.int (Int32.ofNat cn)), .val (.ref b1), .val (.int (Int32.ofNat pp)), .val (.ref b15), .val (.ref b29), .val (.ref b45), .val (.int (Int32.ofNat q0)), .unset, .unset, .unset, .unset] [(.int (Int32.ofNat q0))])) (fun tt_ kk_ => XS.iload X45.here hx rfl (hb hby at_124) rfl kk_) ?_
  refine Gq.go (T45.setTop (mkF m 128 #[.val (.long x0), .second, .val (.long x1), .second, .val (.long x2), .second, .val (.long x3), .second, .val (.int x4), .val (.int x5), .val (.int (Int32.ofNat cn)), .val (.ref b1), .val (.int (Int32.ofNat pp)), .val (.ref b15), .val (.ref b29), .val (.ref b45), .val (.int (Int32.ofNat q0)), .unset, .unset, .unset, .unset] [(.int (32 : Int32)), (.int (Int32.ofNat q0))])) (fun tt_ kk_ => XS.bipush X45.here hx rfl (hb hby at_126) kk_) ?_
  refine Gq.go (T45.setTop (mkF m 130 #[.val (.long x0), .second, .val (.long x1), .second, .val (.long x2), .second, .val (.long x3), .second, .val (.int x4), .val (.int x5), .val (.int (Int32.ofNat cn)), .val (.ref b1), .val (.int (Int32.ofNat pp)), .val (.ref b15), .val (.ref b29), .val (.ref b45), .val (.int (Int32.ofNat q0)), .unset, .unset, .unset, .unset] [(.int (Int32.ofNat cn)), (.int (32 : Int32)), (.int (Int32.ofNat q0))])) (fun tt_ kk_ => XS.iload X45.here hx rfl (hb hby at_128) rfl kk_) ?_
  refine Gq.go (T45.setTop (mkF m 131 #[.val (.long x0), .second, .val (.long x1), .second, .val (.long x2), .second, .val (.long x3), .second, .val (.int x4), .val (.int x5), .val (.int (Int32.ofNat cn)), .val (.ref b1), .val (.int (Int32.ofNat pp)), .val (.ref b15), .val (.ref b29), .val (.ref b45), .val (.int (Int32.ofNat q0)), .unset, .unset, .unset, .unset] [(.int ((32 : Int32) * (Int32.ofNat cn))), (.int (Int32.ofNat q0))])) (fun tt_ kk_ => XS.imul X45.here hx rfl (hb hby at_130) rfl kk_) ?_
  rw [show ((32 : Int32) * (Int32.ofNat cn)) = (Int32.ofNat (32 * cn)) from own_mul 32 cn]
  suffices K141 : ∀ qq : Nat, qq < 32 * cn → Gq p.tables e below s (Q0 Z x0 x1 x2 x3 x4 x5 h0 n0) room_1.cells room_1.slots (T45.setTop (mkF m 141 #[.val (.long x0), .second, .val (.long x1), .second, .val (.long x2), .second, .val (.long x3), .second, .val (.int x4), .val (.int x5), .val (.int (Int32.ofNat cn)), .val (.ref b1), .val (.int (Int32.ofNat pp)), .val (.ref b15), .val (.ref b29), .val (.ref b45), .val (.int (Int32.ofNat qq)), .unset, .unset, .unset, .unset] [])) by
    by_cases hq32 : q0 < 32 * cn
    · refine Gq.go (T45.setTop (mkF m 141 #[.val (.long x0), .second, .val (.long x1), .second, .val (.long x2), .second, .val (.long x3), .second, .val (.int x4), .val (.int x5), .val (.int (Int32.ofNat cn)), .val (.ref b1), .val (.int (Int32.ofNat pp)), .val (.ref b15), .val (.ref b29), .val (.ref b45), .val (.int (Int32.ofNat q0)), .unset, .unset, .unset, .unset] [])) (fun tt_ kk_ => XS.icmpYes X45.here hx rfl (pc0 := 131) (pc' := 141) rfl (hb hby at_131) rfl (tlt ((own_lt (by omega) (by omega)).mpr hq32)).1 (by decide) (by decide) kk_) ?_
      exact K141 q0 hq32
    · refine Gq.go (T45.setTop (mkF m 134 #[.val (.long x0), .second, .val (.long x1), .second, .val (.long x2), .second, .val (.long x3), .second, .val (.int x4), .val (.int x5), .val (.int (Int32.ofNat cn)), .val (.ref b1), .val (.int (Int32.ofNat pp)), .val (.ref b15), .val (.ref b29), .val (.ref b45), .val (.int (Int32.ofNat q0)), .unset, .unset, .unset, .unset] [])) (fun tt_ kk_ => XS.icmpNo X45.here hx rfl (hb hby at_131) rfl (flt (fun q => hq32 ((own_lt (by omega) (by omega)).mp q))).1 kk_) ?_
      refine Gq.go (T45.setTop (mkF m 136 #[.val (.long x0), .second, .val (.long x1), .second, .val (.long x2), .second, .val (.long x3), .second, .val (.int x4), .val (.int x5), .val (.int (Int32.ofNat cn)), .val (.ref b1), .val (.int (Int32.ofNat pp)), .val (.ref b15), .val (.ref b29), .val (.ref b45), .val (.int (Int32.ofNat q0)), .unset, .unset, .unset, .unset] [(.int (Int32.ofNat q0))])) (fun tt_ kk_ => XS.iload X45.here hx rfl (hb hby at_134) rfl kk_) ?_
      refine Gq.go (T45.setTop (mkF m 138 #[.val (.long x0), .second, .val (.long x1), .second, .val (.long x2), .second, .val (.long x3), .second, .val (.int x4), .val (.int x5), .val (.int (Int32.ofNat cn)), .val (.ref b1), .val (.int (Int32.ofNat pp)), .val (.ref b15), .val (.ref b29), .val (.ref b45), .val (.int (Int32.ofNat q0)), .unset, .unset, .unset, .unset] [(.int (31 : Int32)), (.int (Int32.ofNat q0))])) (fun tt_ kk_ => XS.bipush X45.here hx rfl (hb hby at_136) kk_) ?_
      refine Gq.go (T45.setTop (mkF m 139 #[.val (.long x0), .second, .val (.long x1), .second, .val (.long x2), .second, .val (.long x3), .second, .val (.int x4), .val (.int x5), .val (.int (Int32.ofNat cn)), .val (.ref b1), .val (.int (Int32.ofNat pp)), .val (.ref b15), .val (.ref b29), .val (.ref b45), .val (.int (Int32.ofNat q0)), .unset, .unset, .unset, .unset] [(.int ((Int32.ofNat q0) &&& (31 : Int32)))])) (fun tt_ kk_ => XS.iand X45.here hx rfl (hb hby at_138) rfl kk_) ?_
      obtain ⟨q3, hq3, eq3⟩ := own_and (Int32.ofNat q0) 31 (by decide)
      rw [show ((Int32.ofNat q0) &&& (31 : Int32)) = (Int32.ofNat q3) from eq3]
      refine Gq.go (T45.setTop (mkF m 141 #[.val (.long x0), .second, .val (.long x1), .second, .val (.long x2), .second, .val (.long x3), .second, .val (.int x4), .val (.int x5), .val (.int (Int32.ofNat cn)), .val (.ref b1), .val (.int (Int32.ofNat pp)), .val (.ref b15), .val (.ref b29), .val (.ref b45), .val (.int (Int32.ofNat q3)), .unset, .unset, .unset, .unset] [])) (fun tt_ kk_ => XS.istore X45.here hx rfl (hb hby at_139) rfl (l' := #[.val (.long x0), .second, .val (.long x1), .second, .val (.long x2), .second, .val (.long x3), .second, .val (.int x4), .val (.int x5), .val (.int (Int32.ofNat cn)), .val (.ref b1), .val (.int (Int32.ofNat pp)), .val (.ref b15), .val (.ref b29), .val (.ref b45), .val (.int (Int32.ofNat q3)), .unset, .unset, .unset, .unset]) rfl kk_) ?_
      exact K141 q3 (by omega)
  intro qq hqq
  refine Gq.go (T45.setTop (mkF m 143 #[.val (.long x0), .second, .val (.long x1), .second, .val (.long x2), .second, .val (.long x3), .second, .val (.int x4), .val (.int x5), .val (.int (Int32.ofNat cn)), .val (.ref b1), .val (.int (Int32.ofNat pp)), .val (.ref b15), .val (.ref b29), .val (.ref b45), .val (.int (Int32.ofNat qq)), .unset, .unset, .unset, .unset] [(.ref b45)])) (fun tt_ kk_ => XS.aload X45.here hx rfl (hb hby at_141) rfl rfl kk_) ?_
  refine Gq.go (T45.setTop (mkF m 145 #[.val (.long x0), .second, .val (.long x1), .second, .val (.long x2), .second, .val (.long x3), .second, .val (.int x4), .val (.int x5), .val (.int (Int32.ofNat cn)), .val (.ref b1), .val (.int (Int32.ofNat pp)), .val (.ref b15), .val (.ref b29), .val (.ref b45), .val (.int (Int32.ofNat qq)), .unset, .unset, .unset, .unset] [(.int (Int32.ofNat qq)), (.ref b45)])) (fun tt_ kk_ => XS.iload X45.here hx rfl (hb hby at_143) rfl kk_) ?_
  refine Gq.go (T45.setTop (mkF m 146 #[.val (.long x0), .second, .val (.long x1), .second, .val (.long x2), .second, .val (.long x3), .second, .val (.int x4), .val (.int x5), .val (.int (Int32.ofNat cn)), .val (.ref b1), .val (.int (Int32.ofNat pp)), .val (.ref b15), .val (.ref b29), .val (.ref b45), .val (.int (Int32.ofNat qq)), .unset, .unset, .unset, .unset] [(.long (Gz qq))])) (fun tt_ kk_ => ldJ X45 hx hZ rfl Vc45 (j := (Int32.ofNat qq)) (i := qq) (x := (Gz qq)) (own_nn (by omega)) (own_nc (by omega)) (by omega) rfl (hb hby at_145) tt_ kk_) ?_
  refine Gq.go (T45.setTop (mkF m 148 #[.val (.long x0), .second, .val (.long x1), .second, .val (.long x2), .second, .val (.long x3), .second, .val (.int x4), .val (.int x5), .val (.int (Int32.ofNat cn)), .val (.ref b1), .val (.int (Int32.ofNat pp)), .val (.ref b15), .val (.ref b29), .val (.ref b45), .val (.int (Int32.ofNat qq)), .unset, .unset, .unset, .unset] [(.ref b1), (.long (Gz qq))])) (fun tt_ kk_ => XS.aload X45.here hx rfl (hb hby at_146) rfl rfl kk_) ?_
  refine Gq.go (T45.setTop (mkF m 150 #[.val (.long x0), .second, .val (.long x1), .second, .val (.long x2), .second, .val (.long x3), .second, .val (.int x4), .val (.int x5), .val (.int (Int32.ofNat cn)), .val (.ref b1), .val (.int (Int32.ofNat pp)), .val (.ref b15), .val (.ref b29), .val (.ref b45), .val (.int (Int32.ofNat qq)), .unset, .unset, .unset, .unset] [(.int (Int32.ofNat qq)), (.ref b1), (.long (Gz qq))])) (fun tt_ kk_ => XS.iload X45.here hx rfl (hb hby at_148) rfl kk_) ?_
  refine Gq.go (T45.setTop (mkF m 151 #[.val (.long x0), .second, .val (.long x1), .second, .val (.long x2), .second, .val (.long x3), .second, .val (.int x4), .val (.int x5), .val (.int (Int32.ofNat cn)), .val (.ref b1), .val (.int (Int32.ofNat pp)), .val (.ref b15), .val (.ref b29), .val (.ref b45), .val (.int (Int32.ofNat qq)), .unset, .unset, .unset, .unset] [(.long (IN qq)), (.long (Gz qq))])) (fun tt_ kk_ => ldJ X45 hx hZ rfl fa46 (j := (Int32.ofNat qq)) (i := qq) (x := (IN qq)) (own_nn (by omega)) (own_nc (by omega)) (by omega) rfl (hb hby at_150) tt_ kk_) ?_
  refine Gq.go (T45.setTop (mkF m 152 #[.val (.long x0), .second, .val (.long x1), .second, .val (.long x2), .second, .val (.long x3), .second, .val (.int x4), .val (.int x5), .val (.int (Int32.ofNat cn)), .val (.ref b1), .val (.int (Int32.ofNat pp)), .val (.ref b15), .val (.ref b29), .val (.ref b45), .val (.int (Int32.ofNat qq)), .unset, .unset, .unset, .unset] [(.int (lcmpW (Gz qq) (IN qq)))])) (fun tt_ kk_ => XS.lcmp X45.here hx rfl (hb hby at_151) rfl kk_) ?_
  refine Gq.go (T45.setTop (mkF m 157 #[.val (.long x0), .second, .val (.long x1), .second, .val (.long x2), .second, .val (.long x3), .second, .val (.int x4), .val (.int x5), .val (.int (Int32.ofNat cn)), .val (.ref b1), .val (.int (Int32.ofNat pp)), .val (.ref b15), .val (.ref b29), .val (.ref b45), .val (.int (Int32.ofNat qq)), .unset, .unset, .unset, .unset] [])) (fun tt_ kk_ => XS.ifYes X45.here hx rfl (pc0 := 152) (pc' := 157) rfl (hb hby at_152) rfl ((if0 _ _).trans (teq ((lw_eq _ _).mpr (hGz qq (by omega)))).1) (by decide) (by decide) kk_) ?_
  refine Gq.go (T45.setTop (mkF m 159 #[.val (.long x0), .second, .val (.long x1), .second, .val (.long x2), .second, .val (.long x3), .second, .val (.int x4), .val (.int x5), .val (.int (Int32.ofNat cn)), .val (.ref b1), .val (.int (Int32.ofNat pp)), .val (.ref b15), .val (.ref b29), .val (.ref b45), .val (.int (Int32.ofNat qq)), .unset, .unset, .unset, .unset] [(.int x5)])) (fun tt_ kk_ => XS.iload X45.here hx rfl (hb hby at_157) rfl kk_) ?_
  refine Gq.go (T45.setTop (mkF m 161 #[.val (.long x0), .second, .val (.long x1), .second, .val (.long x2), .second, .val (.long x3), .second, .val (.int x4), .val (.int x5), .val (.int (Int32.ofNat cn)), .val (.ref b1), .val (.int (Int32.ofNat pp)), .val (.ref b15), .val (.ref b29), .val (.ref b45), .val (.int (Int32.ofNat qq)), .unset, .unset, .unset, .unset] [(.int (7 : Int32)), (.int x5)])) (fun tt_ kk_ => XS.bipush X45.here hx rfl (hb hby at_159) kk_) ?_
  refine Gq.go (T45.setTop (mkF m 162 #[.val (.long x0), .second, .val (.long x1), .second, .val (.long x2), .second, .val (.long x3), .second, .val (.int x4), .val (.int x5), .val (.int (Int32.ofNat cn)), .val (.ref b1), .val (.int (Int32.ofNat pp)), .val (.ref b15), .val (.ref b29), .val (.ref b45), .val (.int (Int32.ofNat qq)), .unset, .unset, .unset, .unset] [(.int ((x5.toUInt32 >>> ((7 : Int32) &&& 31).toUInt32).toInt32))])) (fun tt_ kk_ => XS.iushr X45.here hx rfl (hb hby at_161) rfl kk_) ?_
  refine Gq.go (T45.setTop (mkF m 164 #[.val (.long x0), .second, .val (.long x1), .second, .val (.long x2), .second, .val (.long x3), .second, .val (.int x4), .val (.int x5), .val (.int (Int32.ofNat cn)), .val (.ref b1), .val (.int (Int32.ofNat pp)), .val (.ref b15), .val (.ref b29), .val (.ref b45), .val (.int (Int32.ofNat qq)), .unset, .unset, .unset, .unset] [(.int (63 : Int32)), (.int ((x5.toUInt32 >>> ((7 : Int32) &&& 31).toUInt32).toInt32))])) (fun tt_ kk_ => XS.bipush X45.here hx rfl (hb hby at_162) kk_) ?_
  refine Gq.go (T45.setTop (mkF m 165 #[.val (.long x0), .second, .val (.long x1), .second, .val (.long x2), .second, .val (.long x3), .second, .val (.int x4), .val (.int x5), .val (.int (Int32.ofNat cn)), .val (.ref b1), .val (.int (Int32.ofNat pp)), .val (.ref b15), .val (.ref b29), .val (.ref b45), .val (.int (Int32.ofNat qq)), .unset, .unset, .unset, .unset] [(.int (((x5.toUInt32 >>> ((7 : Int32) &&& 31).toUInt32).toInt32) &&& (63 : Int32)))])) (fun tt_ kk_ => XS.iand X45.here hx rfl (hb hby at_164) rfl kk_) ?_
  obtain ⟨bi, hbi, ebi⟩ := own_and ((x5.toUInt32 >>> ((7 : Int32) &&& 31).toUInt32).toInt32) 63 (by decide)
  rw [show (((x5.toUInt32 >>> ((7 : Int32) &&& 31).toUInt32).toInt32) &&& (63 : Int32)) = (Int32.ofNat bi) from ebi]
  refine Gq.go (T45.setTop (mkF m 167 #[.val (.long x0), .second, .val (.long x1), .second, .val (.long x2), .second, .val (.long x3), .second, .val (.int x4), .val (.int x5), .val (.int (Int32.ofNat cn)), .val (.ref b1), .val (.int (Int32.ofNat pp)), .val (.ref b15), .val (.ref b29), .val (.ref b45), .val (.int (Int32.ofNat qq)), .val (.int (Int32.ofNat bi)), .unset, .unset, .unset] [])) (fun tt_ kk_ => XS.istore X45.here hx rfl (hb hby at_165) rfl (l' := #[.val (.long x0), .second, .val (.long x1), .second, .val (.long x2), .second, .val (.long x3), .second, .val (.int x4), .val (.int x5), .val (.int (Int32.ofNat cn)), .val (.ref b1), .val (.int (Int32.ofNat pp)), .val (.ref b15), .val (.ref b29), .val (.ref b45), .val (.int (Int32.ofNat qq)), .val (.int (Int32.ofNat bi)), .unset, .unset, .unset]) rfl kk_) ?_
  refine Gq.go (T45.setTop (mkF m 169 #[.val (.long x0), .second, .val (.long x1), .second, .val (.long x2), .second, .val (.long x3), .second, .val (.int x4), .val (.int x5), .val (.int (Int32.ofNat cn)), .val (.ref b1), .val (.int (Int32.ofNat pp)), .val (.ref b15), .val (.ref b29), .val (.ref b45), .val (.int (Int32.ofNat qq)), .val (.int (Int32.ofNat bi)), .unset, .unset, .unset] [(.ref b1)])) (fun tt_ kk_ => XS.aload X45.here hx rfl (hb hby at_167) rfl rfl kk_) ?_
  refine Gq.go (T45.setTop (mkF m 171 #[.val (.long x0), .second, .val (.long x1), .second, .val (.long x2), .second, .val (.long x3), .second, .val (.int x4), .val (.int x5), .val (.int (Int32.ofNat cn)), .val (.ref b1), .val (.int (Int32.ofNat pp)), .val (.ref b15), .val (.ref b29), .val (.ref b45), .val (.int (Int32.ofNat qq)), .val (.int (Int32.ofNat bi)), .unset, .unset, .unset] [(.int (Int32.ofNat qq)), (.ref b1)])) (fun tt_ kk_ => XS.iload X45.here hx rfl (hb hby at_169) rfl kk_) ?_
  refine Gq.go (T45.setTop (mkF m 172 #[.val (.long x0), .second, .val (.long x1), .second, .val (.long x2), .second, .val (.long x3), .second, .val (.int x4), .val (.int x5), .val (.int (Int32.ofNat cn)), .val (.ref b1), .val (.int (Int32.ofNat pp)), .val (.ref b15), .val (.ref b29), .val (.ref b45), .val (.int (Int32.ofNat qq)), .val (.int (Int32.ofNat bi)), .unset, .unset, .unset] [(.long (IN qq))])) (fun tt_ kk_ => ldJ X45 hx hZ rfl fa46 (j := (Int32.ofNat qq)) (i := qq) (x := (IN qq)) (own_nn (by omega)) (own_nc (by omega)) (by omega) rfl (hb hby at_171) tt_ kk_) ?_
  refine Gq.go (T45.setTop (mkF m 174 #[.val (.long x0), .second, .val (.long x1), .second, .val (.long x2), .second, .val (.long x3), .second, .val (.int x4), .val (.int x5), .val (.int (Int32.ofNat cn)), .val (.ref b1), .val (.int (Int32.ofNat pp)), .val (.ref b15), .val (.ref b29), .val (.ref b45), .val (.int (Int32.ofNat qq)), .val (.int (Int32.ofNat bi)), .unset, .unset, .unset] [(.int (Int32.ofNat bi)), (.long (IN qq))])) (fun tt_ kk_ => XS.iload X45.here hx rfl (hb hby at_172) rfl kk_) ?_
  refine Gq.go (T45.setTop (mkF m 175 #[.val (.long x0), .second, .val (.long x1), .second, .val (.long x2), .second, .val (.long x3), .second, .val (.int x4), .val (.int x5), .val (.int (Int32.ofNat cn)), .val (.ref b1), .val (.int (Int32.ofNat pp)), .val (.ref b15), .val (.ref b29), .val (.ref b45), .val (.int (Int32.ofNat qq)), .val (.int (Int32.ofNat bi)), .unset, .unset, .unset] [(.long (((IN qq).toUInt64 >>> ((Int32.ofNat bi) &&& 0x3f).toInt64.toUInt64).toInt64))])) (fun tt_ kk_ => XS.lushr X45.here hx rfl (hb hby at_174) rfl kk_) ?_
  refine Gq.go (T45.setTop (mkF m 176 #[.val (.long x0), .second, .val (.long x1), .second, .val (.long x2), .second, .val (.long x3), .second, .val (.int x4), .val (.int x5), .val (.int (Int32.ofNat cn)), .val (.ref b1), .val (.int (Int32.ofNat pp)), .val (.ref b15), .val (.ref b29), .val (.ref b45), .val (.int (Int32.ofNat qq)), .val (.int (Int32.ofNat bi)), .unset, .unset, .unset] [(.long (1 : Int64)), (.long (((IN qq).toUInt64 >>> ((Int32.ofNat bi) &&& 0x3f).toInt64.toUInt64).toInt64))])) (fun tt_ kk_ => XS.lconst X45.here hx rfl (hb hby at_175) kk_) ?_
  refine Gq.go (T45.setTop (mkF m 177 #[.val (.long x0), .second, .val (.long x1), .second, .val (.long x2), .second, .val (.long x3), .second, .val (.int x4), .val (.int x5), .val (.int (Int32.ofNat cn)), .val (.ref b1), .val (.int (Int32.ofNat pp)), .val (.ref b15), .val (.ref b29), .val (.ref b45), .val (.int (Int32.ofNat qq)), .val (.int (Int32.ofNat bi)), .unset, .unset, .unset] [(.long ((((IN qq).toUInt64 >>> ((Int32.ofNat bi) &&& 0x3f).toInt64.toUInt64).toInt64) &&& (1 : Int64)))])) (fun tt_ kk_ => XS.land X45.here hx rfl (hb hby at_176) rfl kk_) ?_
  refine Gq.go (T45.setTop (mkF m 178 #[.val (.long x0), .second, .val (.long x1), .second, .val (.long x2), .second, .val (.long x3), .second, .val (.int x4), .val (.int x5), .val (.int (Int32.ofNat cn)), .val (.ref b1), .val (.int (Int32.ofNat pp)), .val (.ref b15), .val (.ref b29), .val (.ref b45), .val (.int (Int32.ofNat qq)), .val (.int (Int32.ofNat bi)), .unset, .unset, .unset] [(.long (0 : Int64)), (.long ((((IN qq).toUInt64 >>> ((Int32.ofNat bi) &&& 0x3f).toInt64.toUInt64).toInt64) &&& (1 : Int64)))])) (fun tt_ kk_ => XS.lconst X45.here hx rfl (hb hby at_177) kk_) ?_
  refine Gq.go (T45.setTop (mkF m 179 #[.val (.long x0), .second, .val (.long x1), .second, .val (.long x2), .second, .val (.long x3), .second, .val (.int x4), .val (.int x5), .val (.int (Int32.ofNat cn)), .val (.ref b1), .val (.int (Int32.ofNat pp)), .val (.ref b15), .val (.ref b29), .val (.ref b45), .val (.int (Int32.ofNat qq)), .val (.int (Int32.ofNat bi)), .unset, .unset, .unset] [(.int (lcmpW ((((IN qq).toUInt64 >>> ((Int32.ofNat bi) &&& 0x3f).toInt64.toUInt64).toInt64) &&& (1 : Int64)) (0 : Int64)))])) (fun tt_ kk_ => XS.lcmp X45.here hx rfl (hb hby at_178) rfl kk_) ?_
  have hB := own_bq IN (q := qq) (bi := bi) (by omega) (by omega)
  have hG := own_getB (IN qq) (K := bi) (by omega)
  by_cases hset : ((((IN qq).toUInt64 >>> ((Int32.ofNat bi) &&& 0x3f).toInt64.toUInt64).toInt64) &&& (1 : Int64)) = 0
  · refine Gq.go (T45.setTop (mkF m 186 #[.val (.long x0), .second, .val (.long x1), .second, .val (.long x2), .second, .val (.long x3), .second, .val (.int x4), .val (.int x5), .val (.int (Int32.ofNat cn)), .val (.ref b1), .val (.int (Int32.ofNat pp)), .val (.ref b15), .val (.ref b29), .val (.ref b45), .val (.int (Int32.ofNat qq)), .val (.int (Int32.ofNat bi)), .unset, .unset, .unset] [])) (fun tt_ kk_ => XS.ifYes X45.here hx rfl (pc0 := 179) (pc' := 186) rfl (hb hby at_179) rfl ((if0 _ _).trans (teq ((lw_eq _ _).mpr hset)).1) (by decide) (by decide) kk_) ?_
    refine Gq.go (T45.setTop (mkF m 187 #[.val (.long x0), .second, .val (.long x1), .second, .val (.long x2), .second, .val (.long x3), .second, .val (.int x4), .val (.int x5), .val (.int (Int32.ofNat cn)), .val (.ref b1), .val (.int (Int32.ofNat pp)), .val (.ref b15), .val (.ref b29), .val (.ref b45), .val (.int (Int32.ofNat qq)), .val (.int (Int32.ofNat bi)), .unset, .unset, .unset] [(.int (0 : Int32))])) (fun tt_ kk_ => XS.iconst X45.here hx rfl (hb hby at_186) kk_) ?_
    refine Gq.go (T45.setTop (mkF m 189 #[.val (.long x0), .second, .val (.long x1), .second, .val (.long x2), .second, .val (.long x3), .second, .val (.int x4), .val (.int x5), .val (.int (Int32.ofNat cn)), .val (.ref b1), .val (.int (Int32.ofNat pp)), .val (.ref b15), .val (.ref b29), .val (.ref b45), .val (.int (Int32.ofNat qq)), .val (.int (Int32.ofNat bi)), .val (.int (0 : Int32)), .unset, .unset] [])) (fun tt_ kk_ => XS.istore X45.here hx rfl (hb hby at_187) rfl (l' := #[.val (.long x0), .second, .val (.long x1), .second, .val (.long x2), .second, .val (.long x3), .second, .val (.int x4), .val (.int x5), .val (.int (Int32.ofNat cn)), .val (.ref b1), .val (.int (Int32.ofNat pp)), .val (.ref b15), .val (.ref b29), .val (.ref b45), .val (.int (Int32.ofNat qq)), .val (.int (Int32.ofNat bi)), .val (.int (0 : Int32)), .unset, .unset]) rfl kk_) ?_
    refine Gq.go (T45.setTop (mkF m 191 #[.val (.long x0), .second, .val (.long x1), .second, .val (.long x2), .second, .val (.long x3), .second, .val (.int x4), .val (.int x5), .val (.int (Int32.ofNat cn)), .val (.ref b1), .val (.int (Int32.ofNat pp)), .val (.ref b15), .val (.ref b29), .val (.ref b45), .val (.int (Int32.ofNat qq)), .val (.int (Int32.ofNat bi)), .val (.int (0 : Int32)), .unset, .unset] [(.int (Int32.ofNat qq))])) (fun tt_ kk_ => XS.iload X45.here hx rfl (hb hby at_189) rfl kk_) ?_
    refine Gq.go (T45.setTop (mkF m 193 #[.val (.long x0), .second, .val (.long x1), .second, .val (.long x2), .second, .val (.long x3), .second, .val (.int x4), .val (.int x5), .val (.int (Int32.ofNat cn)), .val (.ref b1), .val (.int (Int32.ofNat pp)), .val (.ref b15), .val (.ref b29), .val (.ref b45), .val (.int (Int32.ofNat qq)), .val (.int (Int32.ofNat bi)), .val (.int (0 : Int32)), .unset, .unset] [(.int (32 : Int32)), (.int (Int32.ofNat qq))])) (fun tt_ kk_ => XS.bipush X45.here hx rfl (hb hby at_191) kk_) ?_
    refine Gq.go (T45.setTop (mkF m 194 #[.val (.long x0), .second, .val (.long x1), .second, .val (.long x2), .second, .val (.long x3), .second, .val (.int x4), .val (.int x5), .val (.int (Int32.ofNat cn)), .val (.ref b1), .val (.int (Int32.ofNat pp)), .val (.ref b15), .val (.ref b29), .val (.ref b45), .val (.int (Int32.ofNat qq)), .val (.int (Int32.ofNat bi)), .val (.int (0 : Int32)), .unset, .unset] [(.int ((Int32.ofNat qq) / (32 : Int32)))])) (fun tt_ kk_ => XS.idiv X45.here hx rfl (hb hby at_193) rfl (by decide) kk_) ?_
    rw [show ((Int32.ofNat qq) / (32 : Int32)) = (Int32.ofNat (qq / 32)) from own_div (d := 32) (by omega) (by decide)]
    refine Gq.go (T45.setTop (mkF m 196 #[.val (.long x0), .second, .val (.long x1), .second, .val (.long x2), .second, .val (.long x3), .second, .val (.int x4), .val (.int x5), .val (.int (Int32.ofNat cn)), .val (.ref b1), .val (.int (Int32.ofNat pp)), .val (.ref b15), .val (.ref b29), .val (.ref b45), .val (.int (Int32.ofNat qq)), .val (.int (Int32.ofNat bi)), .val (.int (0 : Int32)), .val (.int (Int32.ofNat (qq / 32))), .unset] [])) (fun tt_ kk_ => XS.istore X45.here hx rfl (hb hby at_194) rfl (l' := #[.val (.long x0), .second, .val (.long x1), .second, .val (.long x2), .second, .val (.long x3), .second, .val (.int x4), .val (.int x5), .val (.int (Int32.ofNat cn)), .val (.ref b1), .val (.int (Int32.ofNat pp)), .val (.ref b15), .val (.ref b29), .val (.ref b45), .val (.int (Int32.ofNat qq)), .val (.int (Int32.ofNat bi)), .val (.int (0 : Int32)), .val (.int (Int32.ofNat (qq / 32))), .unset]) rfl kk_) ?_
    refine Gq.go (T45.setTop (mkF m 198 #[.val (.long x0), .second, .val (.long x1), .second, .val (.long x2), .second, .val (.long x3), .second, .val (.int x4), .val (.int x5), .val (.int (Int32.ofNat cn)), .val (.ref b1), .val (.int (Int32.ofNat pp)), .val (.ref b15), .val (.ref b29), .val (.ref b45), .val (.int (Int32.ofNat qq)), .val (.int (Int32.ofNat bi)), .val (.int (0 : Int32)), .val (.int (Int32.ofNat (qq / 32))), .unset] [(.int (Int32.ofNat qq))])) (fun tt_ kk_ => XS.iload X45.here hx rfl (hb hby at_196) rfl kk_) ?_
    refine Gq.go (T45.setTop (mkF m 200 #[.val (.long x0), .second, .val (.long x1), .second, .val (.long x2), .second, .val (.long x3), .second, .val (.int x4), .val (.int x5), .val (.int (Int32.ofNat cn)), .val (.ref b1), .val (.int (Int32.ofNat pp)), .val (.ref b15), .val (.ref b29), .val (.ref b45), .val (.int (Int32.ofNat qq)), .val (.int (Int32.ofNat bi)), .val (.int (0 : Int32)), .val (.int (Int32.ofNat (qq / 32))), .unset] [(.int (31 : Int32)), (.int (Int32.ofNat qq))])) (fun tt_ kk_ => XS.bipush X45.here hx rfl (hb hby at_198) kk_) ?_
    refine Gq.go (T45.setTop (mkF m 201 #[.val (.long x0), .second, .val (.long x1), .second, .val (.long x2), .second, .val (.long x3), .second, .val (.int x4), .val (.int x5), .val (.int (Int32.ofNat cn)), .val (.ref b1), .val (.int (Int32.ofNat pp)), .val (.ref b15), .val (.ref b29), .val (.ref b45), .val (.int (Int32.ofNat qq)), .val (.int (Int32.ofNat bi)), .val (.int (0 : Int32)), .val (.int (Int32.ofNat (qq / 32))), .unset] [(.int ((Int32.ofNat qq) &&& (31 : Int32)))])) (fun tt_ kk_ => XS.iand X45.here hx rfl (hb hby at_200) rfl kk_) ?_
    rw [show ((Int32.ofNat qq) &&& (31 : Int32)) = (Int32.ofNat (qq % 32)) from own_and31 qq (by omega)]
    refine Gq.go (T45.setTop (mkF m 203 #[.val (.long x0), .second, .val (.long x1), .second, .val (.long x2), .second, .val (.long x3), .second, .val (.int x4), .val (.int x5), .val (.int (Int32.ofNat cn)), .val (.ref b1), .val (.int (Int32.ofNat pp)), .val (.ref b15), .val (.ref b29), .val (.ref b45), .val (.int (Int32.ofNat qq)), .val (.int (Int32.ofNat bi)), .val (.int (0 : Int32)), .val (.int (Int32.ofNat (qq / 32))), .unset] [(.int (64 : Int32)), (.int (Int32.ofNat (qq % 32)))])) (fun tt_ kk_ => XS.bipush X45.here hx rfl (hb hby at_201) kk_) ?_
    refine Gq.go (T45.setTop (mkF m 204 #[.val (.long x0), .second, .val (.long x1), .second, .val (.long x2), .second, .val (.long x3), .second, .val (.int x4), .val (.int x5), .val (.int (Int32.ofNat cn)), .val (.ref b1), .val (.int (Int32.ofNat pp)), .val (.ref b15), .val (.ref b29), .val (.ref b45), .val (.int (Int32.ofNat qq)), .val (.int (Int32.ofNat bi)), .val (.int (0 : Int32)), .val (.int (Int32.ofNat (qq / 32))), .unset] [(.int ((Int32.ofNat (qq % 32)) * (64 : Int32)))])) (fun tt_ kk_ => XS.imul X45.here hx rfl (hb hby at_203) rfl kk_) ?_
    rw [show ((Int32.ofNat (qq % 32)) * (64 : Int32)) = (Int32.ofNat (qq % 32 * 64)) from own_mul _ 64]
    refine Gq.go (T45.setTop (mkF m 206 #[.val (.long x0), .second, .val (.long x1), .second, .val (.long x2), .second, .val (.long x3), .second, .val (.int x4), .val (.int x5), .val (.int (Int32.ofNat cn)), .val (.ref b1), .val (.int (Int32.ofNat pp)), .val (.ref b15), .val (.ref b29), .val (.ref b45), .val (.int (Int32.ofNat qq)), .val (.int (Int32.ofNat bi)), .val (.int (0 : Int32)), .val (.int (Int32.ofNat (qq / 32))), .unset] [(.int (Int32.ofNat bi)), (.int (Int32.ofNat (qq % 32 * 64)))])) (fun tt_ kk_ => XS.iload X45.here hx rfl (hb hby at_204) rfl kk_) ?_
    refine Gq.go (T45.setTop (mkF m 207 #[.val (.long x0), .second, .val (.long x1), .second, .val (.long x2), .second, .val (.long x3), .second, .val (.int x4), .val (.int x5), .val (.int (Int32.ofNat cn)), .val (.ref b1), .val (.int (Int32.ofNat pp)), .val (.ref b15), .val (.ref b29), .val (.ref b45), .val (.int (Int32.ofNat qq)), .val (.int (Int32.ofNat bi)), .val (.int (0 : Int32)), .val (.int (Int32.ofNat (qq / 32))), .unset] [(.int ((Int32.ofNat (qq % 32 * 64)) + (Int32.ofNat bi)))])) (fun tt_ kk_ => XS.iadd X45.here hx rfl (hb hby at_206) rfl kk_) ?_
    rw [show ((Int32.ofNat (qq % 32 * 64)) + (Int32.ofNat bi)) = (Int32.ofNat (qq % 32 * 64 + bi)) from own_add _ _]
    refine Gq.go (T45.setTop (mkF m 208 #[.val (.long x0), .second, .val (.long x1), .second, .val (.long x2), .second, .val (.long x3), .second, .val (.int x4), .val (.int x5), .val (.int (Int32.ofNat cn)), .val (.ref b1), .val (.int (Int32.ofNat pp)), .val (.ref b15), .val (.ref b29), .val (.ref b45), .val (.int (Int32.ofNat qq)), .val (.int (Int32.ofNat bi)), .val (.int (0 : Int32)), .val (.int (Int32.ofNat (qq / 32))), .unset] [(.int (1 : Int32)), (.int (Int32.ofNat (qq % 32 * 64 + bi)))])) (fun tt_ kk_ => XS.iconst X45.here hx rfl (hb hby at_207) kk_) ?_
    refine Gq.go (T45.setTop (mkF m 209 #[.val (.long x0), .second, .val (.long x1), .second, .val (.long x2), .second, .val (.long x3), .second, .val (.int x4), .val (.int x5), .val (.int (Int32.ofNat cn)), .val (.ref b1), .val (.int (Int32.ofNat pp)), .val (.ref b15), .val (.ref b29), .val (.ref b45), .val (.int (Int32.ofNat qq)), .val (.int (Int32.ofNat bi)), .val (.int (0 : Int32)), .val (.int (Int32.ofNat (qq / 32))), .unset] [(.int ((Int32.ofNat (qq % 32 * 64 + bi)) + (1 : Int32)))])) (fun tt_ kk_ => XS.iadd X45.here hx rfl (hb hby at_208) rfl kk_) ?_
    rw [show ((Int32.ofNat (qq % 32 * 64 + bi)) + (1 : Int32)) = (Int32.ofNat (qq % 32 * 64 + bi + 1)) from own_add _ 1]
    refine Gq.go (T45.setTop (mkF m 211 #[.val (.long x0), .second, .val (.long x1), .second, .val (.long x2), .second, .val (.long x3), .second, .val (.int x4), .val (.int x5), .val (.int (Int32.ofNat cn)), .val (.ref b1), .val (.int (Int32.ofNat pp)), .val (.ref b15), .val (.ref b29), .val (.ref b45), .val (.int (Int32.ofNat qq)), .val (.int (Int32.ofNat bi)), .val (.int (0 : Int32)), .val (.int (Int32.ofNat (qq / 32))), .val (.int (Int32.ofNat (qq % 32 * 64 + bi + 1)))] [])) (fun tt_ kk_ => XS.istore X45.here hx rfl (hb hby at_209) rfl (l' := #[.val (.long x0), .second, .val (.long x1), .second, .val (.long x2), .second, .val (.long x3), .second, .val (.int x4), .val (.int x5), .val (.int (Int32.ofNat cn)), .val (.ref b1), .val (.int (Int32.ofNat pp)), .val (.ref b15), .val (.ref b29), .val (.ref b45), .val (.int (Int32.ofNat qq)), .val (.int (Int32.ofNat bi)), .val (.int (0 : Int32)), .val (.int (Int32.ofNat (qq / 32))), .val (.int (Int32.ofNat (qq % 32 * 64 + bi + 1)))]) rfl kk_) ?_
    refine Gq.go (T45.setTop (mkF m 213 #[.val (.long x0), .second, .val (.long x1), .second, .val (.long x2), .second, .val (.long x3), .second, .val (.int x4), .val (.int x5), .val (.int (Int32.ofNat cn)), .val (.ref b1), .val (.int (Int32.ofNat pp)), .val (.ref b15), .val (.ref b29), .val (.ref b45), .val (.int (Int32.ofNat qq)), .val (.int (Int32.ofNat bi)), .val (.int (0 : Int32)), .val (.int (Int32.ofNat (qq / 32))), .val (.int (Int32.ofNat (qq % 32 * 64 + bi + 1)))] [(.ref b29)])) (fun tt_ kk_ => XS.aload X45.here hx rfl (hb hby at_211) rfl rfl kk_) ?_
    refine Gq.go (T45.setTop (mkF m 215 #[.val (.long x0), .second, .val (.long x1), .second, .val (.long x2), .second, .val (.long x3), .second, .val (.int x4), .val (.int x5), .val (.int (Int32.ofNat cn)), .val (.ref b1), .val (.int (Int32.ofNat pp)), .val (.ref b15), .val (.ref b29), .val (.ref b45), .val (.int (Int32.ofNat qq)), .val (.int (Int32.ofNat bi)), .val (.int (0 : Int32)), .val (.int (Int32.ofNat (qq / 32))), .val (.int (Int32.ofNat (qq % 32 * 64 + bi + 1)))] [(.int (Int32.ofNat (qq / 32))), (.ref b29)])) (fun tt_ kk_ => XS.iload X45.here hx rfl (hb hby at_213) rfl kk_) ?_
    refine Gq.go (T45.setTop (mkF m 217 #[.val (.long x0), .second, .val (.long x1), .second, .val (.long x2), .second, .val (.long x3), .second, .val (.int x4), .val (.int x5), .val (.int (Int32.ofNat cn)), .val (.ref b1), .val (.int (Int32.ofNat pp)), .val (.ref b15), .val (.ref b29), .val (.ref b45), .val (.int (Int32.ofNat qq)), .val (.int (Int32.ofNat bi)), .val (.int (0 : Int32)), .val (.int (Int32.ofNat (qq / 32))), .val (.int (Int32.ofNat (qq % 32 * 64 + bi + 1)))] [(.int (Int32.ofNat (qq % 32 * 64 + bi + 1))), (.int (Int32.ofNat (qq / 32))), (.ref b29)])) (fun tt_ kk_ => XS.iload X45.here hx rfl (hb hby at_215) rfl kk_) ?_
    obtain ⟨r57, T57, L57, X57, hQ57, st57⟩ := callV (pc := 217) (Ls := #[.val (.long x0), .second, .val (.long x1), .second, .val (.long x2), .second, .val (.long x3), .second, .val (.int x4), .val (.int x5), .val (.int (Int32.ofNat cn)), .val (.ref b1), .val (.int (Int32.ofNat pp)), .val (.ref b15), .val (.ref b29), .val (.ref b45), .val (.int (Int32.ofNat qq)), .val (.int (Int32.ofNat bi)), .val (.int (0 : Int32)), .val (.int (Int32.ofNat (qq / 32))), .val (.int (Int32.ofNat (qq % 32 * 64 + bi + 1)))]) X45 hx hZ hown rfl b29 [(.int (Int32.ofNat (qq / 32))), (.int (Int32.ofNat (qq % 32 * 64 + bi + 1)))] [] fa48 (hw _ (List.mem_of_getElem? (i := 42) rfl)) (hw _ (List.mem_of_getElem? (i := 43) rfl)) (hw _ (List.mem_of_getElem? (i := 45) rfl)) (hw _ (List.mem_of_getElem? (i := 44) rfl)) (hw _ (List.mem_of_getElem? (i := 4) rfl)) (hw _ (List.mem_of_getElem? (i := 46) rfl)) (by decide) (rm_rank2 l Z a0 hw [] b29 (qq / 32) (qq % 32 * 64 + bi) cn rn F IN T45.heap n0 za56 fa50 fa51 (by omega) (by omega) (by omega) (good (qq / 32) (by omega) _ (by omega))) pd_0 rfl (by rw [hml]; rfl) (W := 0) (Nat.le_of_eq rfl) (by decide) (by decide) (by decide) (by decide) (hb hby at_217)
    obtain ⟨hV, N57q, eh57⟩ := hQ57
    have N57 := Fr.app N45 N57q
    obtain rfl : r57 = some (.int (-1 : Int32)) := by
      rcases hV with ⟨q, -⟩ | ⟨kz, -, -, q⟩
      · exact q
      · rw [hB, hG.mp hset] at q; cases q
    refine Gq.go (T57.setTop (mkF m 220 #[.val (.long x0), .second, .val (.long x1), .second, .val (.long x2), .second, .val (.long x3), .second, .val (.int x4), .val (.int x5), .val (.int (Int32.ofNat cn)), .val (.ref b1), .val (.int (Int32.ofNat pp)), .val (.ref b15), .val (.ref b29), .val (.ref b45), .val (.int (Int32.ofNat qq)), .val (.int (Int32.ofNat bi)), .val (.int (0 : Int32)), .val (.int (Int32.ofNat (qq / 32))), .val (.int (Int32.ofNat (qq % 32 * 64 + bi + 1)))] [(.int (-1 : Int32))])) (fun tt_ kk_ => st57 tt_ kk_) ?_
    refine Gq.go (T57.setTop (mkF m 227 #[.val (.long x0), .second, .val (.long x1), .second, .val (.long x2), .second, .val (.long x3), .second, .val (.int x4), .val (.int x5), .val (.int (Int32.ofNat cn)), .val (.ref b1), .val (.int (Int32.ofNat pp)), .val (.ref b15), .val (.ref b29), .val (.ref b45), .val (.int (Int32.ofNat qq)), .val (.int (Int32.ofNat bi)), .val (.int (0 : Int32)), .val (.int (Int32.ofNat (qq / 32))), .val (.int (Int32.ofNat (qq % 32 * 64 + bi + 1)))] [])) (fun tt_ kk_ => XS.ifYes X57.here hx rfl (pc0 := 220) (pc' := 227) rfl (hb hby at_220) rfl ((if0 _ _).trans (tlt (by decide)).1) (by decide) (by decide) kk_) ?_
    refine Gq.go (T57.setTop (mkF m 228 #[.val (.long x0), .second, .val (.long x1), .second, .val (.long x2), .second, .val (.long x3), .second, .val (.int x4), .val (.int x5), .val (.int (Int32.ofNat cn)), .val (.ref b1), .val (.int (Int32.ofNat pp)), .val (.ref b15), .val (.ref b29), .val (.ref b45), .val (.int (Int32.ofNat qq)), .val (.int (Int32.ofNat bi)), .val (.int (0 : Int32)), .val (.int (Int32.ofNat (qq / 32))), .val (.int (Int32.ofNat (qq % 32 * 64 + bi + 1)))] [(.int (0 : Int32))])) (fun tt_ kk_ => XS.iconst X57.here hx rfl (hb hby at_227) kk_) ?_
    refine Gq.go (T57.setTop (mkF m 230 #[.val (.long x0), .second, .val (.long x1), .second, .val (.long x2), .second, .val (.long x3), .second, .val (.int x4), .val (.int x5), .val (.int (Int32.ofNat cn)), .val (.ref b1), .val (.int (Int32.ofNat pp)), .val (.ref b15), .val (.ref b29), .val (.ref b45), .val (.int (Int32.ofNat qq)), .val (.int (Int32.ofNat bi)), .val (.int (0 : Int32)), .val (.int (Int32.ofNat (qq / 32))), .val (.int (Int32.ofNat (qq % 32 * 64 + bi + 1)))] [(.int (0 : Int32)), (.int (0 : Int32))])) (fun tt_ kk_ => XS.iload X57.here hx rfl (hb hby at_228) rfl kk_) ?_
    refine Gq.go (T57.setTop (mkF m 233 #[.val (.long x0), .second, .val (.long x1), .second, .val (.long x2), .second, .val (.long x3), .second, .val (.int x4), .val (.int x5), .val (.int (Int32.ofNat cn)), .val (.ref b1), .val (.int (Int32.ofNat pp)), .val (.ref b15), .val (.ref b29), .val (.ref b45), .val (.int (Int32.ofNat qq)), .val (.int (Int32.ofNat bi)), .val (.int (0 : Int32)), .val (.int (Int32.ofNat (qq / 32))), .val (.int (Int32.ofNat (qq % 32 * 64 + bi + 1)))] [])) (fun tt_ kk_ => XS.icmpNo X57.here hx rfl (hb hby at_230) rfl (teq (by decide : ((0 : Int32) = (0 : Int32)))).2 kk_) ?_
    refine Gq.go (T57.setTop (mkF m 234 #[.val (.long x0), .second, .val (.long x1), .second, .val (.long x2), .second, .val (.long x3), .second, .val (.int x4), .val (.int x5), .val (.int (Int32.ofNat cn)), .val (.ref b1), .val (.int (Int32.ofNat pp)), .val (.ref b15), .val (.ref b29), .val (.ref b45), .val (.int (Int32.ofNat qq)), .val (.int (Int32.ofNat bi)), .val (.int (0 : Int32)), .val (.int (Int32.ofNat (qq / 32))), .val (.int (Int32.ofNat (qq % 32 * 64 + bi + 1)))] [(.int (1 : Int32))])) (fun tt_ kk_ => XS.iconst X57.here hx rfl (hb hby at_233) kk_) ?_
    refine Gq.go (T57.setTop (mkF m 238 #[.val (.long x0), .second, .val (.long x1), .second, .val (.long x2), .second, .val (.long x3), .second, .val (.int x4), .val (.int x5), .val (.int (Int32.ofNat cn)), .val (.ref b1), .val (.int (Int32.ofNat pp)), .val (.ref b15), .val (.ref b29), .val (.ref b45), .val (.int (Int32.ofNat qq)), .val (.int (Int32.ofNat bi)), .val (.int (0 : Int32)), .val (.int (Int32.ofNat (qq / 32))), .val (.int (Int32.ofNat (qq % 32 * 64 + bi + 1)))] [(.int (1 : Int32))])) (fun tt_ kk_ => XS.goto X57.here hx rfl (pc0 := 234) (pc' := 238) rfl (hb hby at_234) (by decide) (by decide) kk_) ?_
    refine Gq.retI X57 hx Bd.notSynchronized Bd.returns (by simp) (hb hby at_238) rfl (by decide) (by decide) ?_
    show Q0 Z x0 x1 x2 x3 x4 x5 h0 n0 _ T57.heap _
    rw [eh57]
    exact ⟨rfl, N57⟩
  · refine Gq.go (T45.setTop (mkF m 182 #[.val (.long x0), .second, .val (.long x1), .second, .val (.long x2), .second, .val (.long x3), .second, .val (.int x4), .val (.int x5), .val (.int (Int32.ofNat cn)), .val (.ref b1), .val (.int (Int32.ofNat pp)), .val (.ref b15), .val (.ref b29), .val (.ref b45), .val (.int (Int32.ofNat qq)), .val (.int (Int32.ofNat bi)), .unset, .unset, .unset] [])) (fun tt_ kk_ => XS.ifNo X45.here hx rfl (hb hby at_179) rfl ((if0 _ _).trans (feq (fun q => hset ((lw_eq _ _).mp q))).1) kk_) ?_
    refine Gq.go (T45.setTop (mkF m 183 #[.val (.long x0), .second, .val (.long x1), .second, .val (.long x2), .second, .val (.long x3), .second, .val (.int x4), .val (.int x5), .val (.int (Int32.ofNat cn)), .val (.ref b1), .val (.int (Int32.ofNat pp)), .val (.ref b15), .val (.ref b29), .val (.ref b45), .val (.int (Int32.ofNat qq)), .val (.int (Int32.ofNat bi)), .unset, .unset, .unset] [(.int (1 : Int32))])) (fun tt_ kk_ => XS.iconst X45.here hx rfl (hb hby at_182) kk_) ?_
    refine Gq.go (T45.setTop (mkF m 187 #[.val (.long x0), .second, .val (.long x1), .second, .val (.long x2), .second, .val (.long x3), .second, .val (.int x4), .val (.int x5), .val (.int (Int32.ofNat cn)), .val (.ref b1), .val (.int (Int32.ofNat pp)), .val (.ref b15), .val (.ref b29), .val (.ref b45), .val (.int (Int32.ofNat qq)), .val (.int (Int32.ofNat bi)), .unset, .unset, .unset] [(.int (1 : Int32))])) (fun tt_ kk_ => XS.goto X45.here hx rfl (pc0 := 183) (pc' := 187) rfl (hb hby at_183) (by decide) (by decide) kk_) ?_
    refine Gq.go (T45.setTop (mkF m 189 #[.val (.long x0), .second, .val (.long x1), .second, .val (.long x2), .second, .val (.long x3), .second, .val (.int x4), .val (.int x5), .val (.int (Int32.ofNat cn)), .val (.ref b1), .val (.int (Int32.ofNat pp)), .val (.ref b15), .val (.ref b29), .val (.ref b45), .val (.int (Int32.ofNat qq)), .val (.int (Int32.ofNat bi)), .val (.int (1 : Int32)), .unset, .unset] [])) (fun tt_ kk_ => XS.istore X45.here hx rfl (hb hby at_187) rfl (l' := #[.val (.long x0), .second, .val (.long x1), .second, .val (.long x2), .second, .val (.long x3), .second, .val (.int x4), .val (.int x5), .val (.int (Int32.ofNat cn)), .val (.ref b1), .val (.int (Int32.ofNat pp)), .val (.ref b15), .val (.ref b29), .val (.ref b45), .val (.int (Int32.ofNat qq)), .val (.int (Int32.ofNat bi)), .val (.int (1 : Int32)), .unset, .unset]) rfl kk_) ?_
    refine Gq.go (T45.setTop (mkF m 191 #[.val (.long x0), .second, .val (.long x1), .second, .val (.long x2), .second, .val (.long x3), .second, .val (.int x4), .val (.int x5), .val (.int (Int32.ofNat cn)), .val (.ref b1), .val (.int (Int32.ofNat pp)), .val (.ref b15), .val (.ref b29), .val (.ref b45), .val (.int (Int32.ofNat qq)), .val (.int (Int32.ofNat bi)), .val (.int (1 : Int32)), .unset, .unset] [(.int (Int32.ofNat qq))])) (fun tt_ kk_ => XS.iload X45.here hx rfl (hb hby at_189) rfl kk_) ?_
    refine Gq.go (T45.setTop (mkF m 193 #[.val (.long x0), .second, .val (.long x1), .second, .val (.long x2), .second, .val (.long x3), .second, .val (.int x4), .val (.int x5), .val (.int (Int32.ofNat cn)), .val (.ref b1), .val (.int (Int32.ofNat pp)), .val (.ref b15), .val (.ref b29), .val (.ref b45), .val (.int (Int32.ofNat qq)), .val (.int (Int32.ofNat bi)), .val (.int (1 : Int32)), .unset, .unset] [(.int (32 : Int32)), (.int (Int32.ofNat qq))])) (fun tt_ kk_ => XS.bipush X45.here hx rfl (hb hby at_191) kk_) ?_
    refine Gq.go (T45.setTop (mkF m 194 #[.val (.long x0), .second, .val (.long x1), .second, .val (.long x2), .second, .val (.long x3), .second, .val (.int x4), .val (.int x5), .val (.int (Int32.ofNat cn)), .val (.ref b1), .val (.int (Int32.ofNat pp)), .val (.ref b15), .val (.ref b29), .val (.ref b45), .val (.int (Int32.ofNat qq)), .val (.int (Int32.ofNat bi)), .val (.int (1 : Int32)), .unset, .unset] [(.int ((Int32.ofNat qq) / (32 : Int32)))])) (fun tt_ kk_ => XS.idiv X45.here hx rfl (hb hby at_193) rfl (by decide) kk_) ?_
    rw [show ((Int32.ofNat qq) / (32 : Int32)) = (Int32.ofNat (qq / 32)) from own_div (d := 32) (by omega) (by decide)]
    refine Gq.go (T45.setTop (mkF m 196 #[.val (.long x0), .second, .val (.long x1), .second, .val (.long x2), .second, .val (.long x3), .second, .val (.int x4), .val (.int x5), .val (.int (Int32.ofNat cn)), .val (.ref b1), .val (.int (Int32.ofNat pp)), .val (.ref b15), .val (.ref b29), .val (.ref b45), .val (.int (Int32.ofNat qq)), .val (.int (Int32.ofNat bi)), .val (.int (1 : Int32)), .val (.int (Int32.ofNat (qq / 32))), .unset] [])) (fun tt_ kk_ => XS.istore X45.here hx rfl (hb hby at_194) rfl (l' := #[.val (.long x0), .second, .val (.long x1), .second, .val (.long x2), .second, .val (.long x3), .second, .val (.int x4), .val (.int x5), .val (.int (Int32.ofNat cn)), .val (.ref b1), .val (.int (Int32.ofNat pp)), .val (.ref b15), .val (.ref b29), .val (.ref b45), .val (.int (Int32.ofNat qq)), .val (.int (Int32.ofNat bi)), .val (.int (1 : Int32)), .val (.int (Int32.ofNat (qq / 32))), .unset]) rfl kk_) ?_
    refine Gq.go (T45.setTop (mkF m 198 #[.val (.long x0), .second, .val (.long x1), .second, .val (.long x2), .second, .val (.long x3), .second, .val (.int x4), .val (.int x5), .val (.int (Int32.ofNat cn)), .val (.ref b1), .val (.int (Int32.ofNat pp)), .val (.ref b15), .val (.ref b29), .val (.ref b45), .val (.int (Int32.ofNat qq)), .val (.int (Int32.ofNat bi)), .val (.int (1 : Int32)), .val (.int (Int32.ofNat (qq / 32))), .unset] [(.int (Int32.ofNat qq))])) (fun tt_ kk_ => XS.iload X45.here hx rfl (hb hby at_196) rfl kk_) ?_
    refine Gq.go (T45.setTop (mkF m 200 #[.val (.long x0), .second, .val (.long x1), .second, .val (.long x2), .second, .val (.long x3), .second, .val (.int x4), .val (.int x5), .val (.int (Int32.ofNat cn)), .val (.ref b1), .val (.int (Int32.ofNat pp)), .val (.ref b15), .val (.ref b29), .val (.ref b45), .val (.int (Int32.ofNat qq)), .val (.int (Int32.ofNat bi)), .val (.int (1 : Int32)), .val (.int (Int32.ofNat (qq / 32))), .unset] [(.int (31 : Int32)), (.int (Int32.ofNat qq))])) (fun tt_ kk_ => XS.bipush X45.here hx rfl (hb hby at_198) kk_) ?_
    refine Gq.go (T45.setTop (mkF m 201 #[.val (.long x0), .second, .val (.long x1), .second, .val (.long x2), .second, .val (.long x3), .second, .val (.int x4), .val (.int x5), .val (.int (Int32.ofNat cn)), .val (.ref b1), .val (.int (Int32.ofNat pp)), .val (.ref b15), .val (.ref b29), .val (.ref b45), .val (.int (Int32.ofNat qq)), .val (.int (Int32.ofNat bi)), .val (.int (1 : Int32)), .val (.int (Int32.ofNat (qq / 32))), .unset] [(.int ((Int32.ofNat qq) &&& (31 : Int32)))])) (fun tt_ kk_ => XS.iand X45.here hx rfl (hb hby at_200) rfl kk_) ?_
    rw [show ((Int32.ofNat qq) &&& (31 : Int32)) = (Int32.ofNat (qq % 32)) from own_and31 qq (by omega)]
    refine Gq.go (T45.setTop (mkF m 203 #[.val (.long x0), .second, .val (.long x1), .second, .val (.long x2), .second, .val (.long x3), .second, .val (.int x4), .val (.int x5), .val (.int (Int32.ofNat cn)), .val (.ref b1), .val (.int (Int32.ofNat pp)), .val (.ref b15), .val (.ref b29), .val (.ref b45), .val (.int (Int32.ofNat qq)), .val (.int (Int32.ofNat bi)), .val (.int (1 : Int32)), .val (.int (Int32.ofNat (qq / 32))), .unset] [(.int (64 : Int32)), (.int (Int32.ofNat (qq % 32)))])) (fun tt_ kk_ => XS.bipush X45.here hx rfl (hb hby at_201) kk_) ?_
    refine Gq.go (T45.setTop (mkF m 204 #[.val (.long x0), .second, .val (.long x1), .second, .val (.long x2), .second, .val (.long x3), .second, .val (.int x4), .val (.int x5), .val (.int (Int32.ofNat cn)), .val (.ref b1), .val (.int (Int32.ofNat pp)), .val (.ref b15), .val (.ref b29), .val (.ref b45), .val (.int (Int32.ofNat qq)), .val (.int (Int32.ofNat bi)), .val (.int (1 : Int32)), .val (.int (Int32.ofNat (qq / 32))), .unset] [(.int ((Int32.ofNat (qq % 32)) * (64 : Int32)))])) (fun tt_ kk_ => XS.imul X45.here hx rfl (hb hby at_203) rfl kk_) ?_
    rw [show ((Int32.ofNat (qq % 32)) * (64 : Int32)) = (Int32.ofNat (qq % 32 * 64)) from own_mul _ 64]
    refine Gq.go (T45.setTop (mkF m 206 #[.val (.long x0), .second, .val (.long x1), .second, .val (.long x2), .second, .val (.long x3), .second, .val (.int x4), .val (.int x5), .val (.int (Int32.ofNat cn)), .val (.ref b1), .val (.int (Int32.ofNat pp)), .val (.ref b15), .val (.ref b29), .val (.ref b45), .val (.int (Int32.ofNat qq)), .val (.int (Int32.ofNat bi)), .val (.int (1 : Int32)), .val (.int (Int32.ofNat (qq / 32))), .unset] [(.int (Int32.ofNat bi)), (.int (Int32.ofNat (qq % 32 * 64)))])) (fun tt_ kk_ => XS.iload X45.here hx rfl (hb hby at_204) rfl kk_) ?_
    refine Gq.go (T45.setTop (mkF m 207 #[.val (.long x0), .second, .val (.long x1), .second, .val (.long x2), .second, .val (.long x3), .second, .val (.int x4), .val (.int x5), .val (.int (Int32.ofNat cn)), .val (.ref b1), .val (.int (Int32.ofNat pp)), .val (.ref b15), .val (.ref b29), .val (.ref b45), .val (.int (Int32.ofNat qq)), .val (.int (Int32.ofNat bi)), .val (.int (1 : Int32)), .val (.int (Int32.ofNat (qq / 32))), .unset] [(.int ((Int32.ofNat (qq % 32 * 64)) + (Int32.ofNat bi)))])) (fun tt_ kk_ => XS.iadd X45.here hx rfl (hb hby at_206) rfl kk_) ?_
    rw [show ((Int32.ofNat (qq % 32 * 64)) + (Int32.ofNat bi)) = (Int32.ofNat (qq % 32 * 64 + bi)) from own_add _ _]
    refine Gq.go (T45.setTop (mkF m 208 #[.val (.long x0), .second, .val (.long x1), .second, .val (.long x2), .second, .val (.long x3), .second, .val (.int x4), .val (.int x5), .val (.int (Int32.ofNat cn)), .val (.ref b1), .val (.int (Int32.ofNat pp)), .val (.ref b15), .val (.ref b29), .val (.ref b45), .val (.int (Int32.ofNat qq)), .val (.int (Int32.ofNat bi)), .val (.int (1 : Int32)), .val (.int (Int32.ofNat (qq / 32))), .unset] [(.int (1 : Int32)), (.int (Int32.ofNat (qq % 32 * 64 + bi)))])) (fun tt_ kk_ => XS.iconst X45.here hx rfl (hb hby at_207) kk_) ?_
    refine Gq.go (T45.setTop (mkF m 209 #[.val (.long x0), .second, .val (.long x1), .second, .val (.long x2), .second, .val (.long x3), .second, .val (.int x4), .val (.int x5), .val (.int (Int32.ofNat cn)), .val (.ref b1), .val (.int (Int32.ofNat pp)), .val (.ref b15), .val (.ref b29), .val (.ref b45), .val (.int (Int32.ofNat qq)), .val (.int (Int32.ofNat bi)), .val (.int (1 : Int32)), .val (.int (Int32.ofNat (qq / 32))), .unset] [(.int ((Int32.ofNat (qq % 32 * 64 + bi)) + (1 : Int32)))])) (fun tt_ kk_ => XS.iadd X45.here hx rfl (hb hby at_208) rfl kk_) ?_
    rw [show ((Int32.ofNat (qq % 32 * 64 + bi)) + (1 : Int32)) = (Int32.ofNat (qq % 32 * 64 + bi + 1)) from own_add _ 1]
    refine Gq.go (T45.setTop (mkF m 211 #[.val (.long x0), .second, .val (.long x1), .second, .val (.long x2), .second, .val (.long x3), .second, .val (.int x4), .val (.int x5), .val (.int (Int32.ofNat cn)), .val (.ref b1), .val (.int (Int32.ofNat pp)), .val (.ref b15), .val (.ref b29), .val (.ref b45), .val (.int (Int32.ofNat qq)), .val (.int (Int32.ofNat bi)), .val (.int (1 : Int32)), .val (.int (Int32.ofNat (qq / 32))), .val (.int (Int32.ofNat (qq % 32 * 64 + bi + 1)))] [])) (fun tt_ kk_ => XS.istore X45.here hx rfl (hb hby at_209) rfl (l' := #[.val (.long x0), .second, .val (.long x1), .second, .val (.long x2), .second, .val (.long x3), .second, .val (.int x4), .val (.int x5), .val (.int (Int32.ofNat cn)), .val (.ref b1), .val (.int (Int32.ofNat pp)), .val (.ref b15), .val (.ref b29), .val (.ref b45), .val (.int (Int32.ofNat qq)), .val (.int (Int32.ofNat bi)), .val (.int (1 : Int32)), .val (.int (Int32.ofNat (qq / 32))), .val (.int (Int32.ofNat (qq % 32 * 64 + bi + 1)))]) rfl kk_) ?_
    refine Gq.go (T45.setTop (mkF m 213 #[.val (.long x0), .second, .val (.long x1), .second, .val (.long x2), .second, .val (.long x3), .second, .val (.int x4), .val (.int x5), .val (.int (Int32.ofNat cn)), .val (.ref b1), .val (.int (Int32.ofNat pp)), .val (.ref b15), .val (.ref b29), .val (.ref b45), .val (.int (Int32.ofNat qq)), .val (.int (Int32.ofNat bi)), .val (.int (1 : Int32)), .val (.int (Int32.ofNat (qq / 32))), .val (.int (Int32.ofNat (qq % 32 * 64 + bi + 1)))] [(.ref b29)])) (fun tt_ kk_ => XS.aload X45.here hx rfl (hb hby at_211) rfl rfl kk_) ?_
    refine Gq.go (T45.setTop (mkF m 215 #[.val (.long x0), .second, .val (.long x1), .second, .val (.long x2), .second, .val (.long x3), .second, .val (.int x4), .val (.int x5), .val (.int (Int32.ofNat cn)), .val (.ref b1), .val (.int (Int32.ofNat pp)), .val (.ref b15), .val (.ref b29), .val (.ref b45), .val (.int (Int32.ofNat qq)), .val (.int (Int32.ofNat bi)), .val (.int (1 : Int32)), .val (.int (Int32.ofNat (qq / 32))), .val (.int (Int32.ofNat (qq % 32 * 64 + bi + 1)))] [(.int (Int32.ofNat (qq / 32))), (.ref b29)])) (fun tt_ kk_ => XS.iload X45.here hx rfl (hb hby at_213) rfl kk_) ?_
    refine Gq.go (T45.setTop (mkF m 217 #[.val (.long x0), .second, .val (.long x1), .second, .val (.long x2), .second, .val (.long x3), .second, .val (.int x4), .val (.int x5), .val (.int (Int32.ofNat cn)), .val (.ref b1), .val (.int (Int32.ofNat pp)), .val (.ref b15), .val (.ref b29), .val (.ref b45), .val (.int (Int32.ofNat qq)), .val (.int (Int32.ofNat bi)), .val (.int (1 : Int32)), .val (.int (Int32.ofNat (qq / 32))), .val (.int (Int32.ofNat (qq % 32 * 64 + bi + 1)))] [(.int (Int32.ofNat (qq % 32 * 64 + bi + 1))), (.int (Int32.ofNat (qq / 32))), (.ref b29)])) (fun tt_ kk_ => XS.iload X45.here hx rfl (hb hby at_215) rfl kk_) ?_
    obtain ⟨r58, T58, L58, X58, hQ58, st58⟩ := callV (pc := 217) (Ls := #[.val (.long x0), .second, .val (.long x1), .second, .val (.long x2), .second, .val (.long x3), .second, .val (.int x4), .val (.int x5), .val (.int (Int32.ofNat cn)), .val (.ref b1), .val (.int (Int32.ofNat pp)), .val (.ref b15), .val (.ref b29), .val (.ref b45), .val (.int (Int32.ofNat qq)), .val (.int (Int32.ofNat bi)), .val (.int (1 : Int32)), .val (.int (Int32.ofNat (qq / 32))), .val (.int (Int32.ofNat (qq % 32 * 64 + bi + 1)))]) X45 hx hZ hown rfl b29 [(.int (Int32.ofNat (qq / 32))), (.int (Int32.ofNat (qq % 32 * 64 + bi + 1)))] [] fa48 (hw _ (List.mem_of_getElem? (i := 42) rfl)) (hw _ (List.mem_of_getElem? (i := 43) rfl)) (hw _ (List.mem_of_getElem? (i := 45) rfl)) (hw _ (List.mem_of_getElem? (i := 44) rfl)) (hw _ (List.mem_of_getElem? (i := 4) rfl)) (hw _ (List.mem_of_getElem? (i := 46) rfl)) (by decide) (rm_rank2 l Z a0 hw [] b29 (qq / 32) (qq % 32 * 64 + bi) cn rn F IN T45.heap n0 za56 fa50 fa51 (by omega) (by omega) (by omega) (good (qq / 32) (by omega) _ (by omega))) pd_0 rfl (by rw [hml]; rfl) (W := 0) (Nat.le_of_eq rfl) (by decide) (by decide) (by decide) (by decide) (hb hby at_217)
    obtain ⟨hV, N58q, eh58⟩ := hQ58
    have N58 := Fr.app N45 N58q
    obtain ⟨kz, hkz, rfl⟩ : ∃ kz : Nat, kz < 2 ^ 31 ∧ r58 = some (.int (Int32.ofNat kz)) := by
      rcases hV with ⟨-, q⟩ | ⟨kz, q1, q2, -⟩
      · rw [hB] at q; exact absurd (hG.mpr q) hset
      · exact ⟨kz, q1, q2⟩
    refine Gq.go (T58.setTop (mkF m 220 #[.val (.long x0), .second, .val (.long x1), .second, .val (.long x2), .second, .val (.long x3), .second, .val (.int x4), .val (.int x5), .val (.int (Int32.ofNat cn)), .val (.ref b1), .val (.int (Int32.ofNat pp)), .val (.ref b15), .val (.ref b29), .val (.ref b45), .val (.int (Int32.ofNat qq)), .val (.int (Int32.ofNat bi)), .val (.int (1 : Int32)), .val (.int (Int32.ofNat (qq / 32))), .val (.int (Int32.ofNat (qq % 32 * 64 + bi + 1)))] [(.int (Int32.ofNat kz))])) (fun tt_ kk_ => st58 tt_ kk_) ?_
    refine Gq.go (T58.setTop (mkF m 223 #[.val (.long x0), .second, .val (.long x1), .second, .val (.long x2), .second, .val (.long x3), .second, .val (.int x4), .val (.int x5), .val (.int (Int32.ofNat cn)), .val (.ref b1), .val (.int (Int32.ofNat pp)), .val (.ref b15), .val (.ref b29), .val (.ref b45), .val (.int (Int32.ofNat qq)), .val (.int (Int32.ofNat bi)), .val (.int (1 : Int32)), .val (.int (Int32.ofNat (qq / 32))), .val (.int (Int32.ofNat (qq % 32 * 64 + bi + 1)))] [])) (fun tt_ kk_ => XS.ifNo X58.here hx rfl (hb hby at_220) rfl ((if0 _ _).trans (flt (own_nn hkz)).1) kk_) ?_
    refine Gq.go (T58.setTop (mkF m 224 #[.val (.long x0), .second, .val (.long x1), .second, .val (.long x2), .second, .val (.long x3), .second, .val (.int x4), .val (.int x5), .val (.int (Int32.ofNat cn)), .val (.ref b1), .val (.int (Int32.ofNat pp)), .val (.ref b15), .val (.ref b29), .val (.ref b45), .val (.int (Int32.ofNat qq)), .val (.int (Int32.ofNat bi)), .val (.int (1 : Int32)), .val (.int (Int32.ofNat (qq / 32))), .val (.int (Int32.ofNat (qq % 32 * 64 + bi + 1)))] [(.int (1 : Int32))])) (fun tt_ kk_ => XS.iconst X58.here hx rfl (hb hby at_223) kk_) ?_
    refine Gq.go (T58.setTop (mkF m 228 #[.val (.long x0), .second, .val (.long x1), .second, .val (.long x2), .second, .val (.long x3), .second, .val (.int x4), .val (.int x5), .val (.int (Int32.ofNat cn)), .val (.ref b1), .val (.int (Int32.ofNat pp)), .val (.ref b15), .val (.ref b29), .val (.ref b45), .val (.int (Int32.ofNat qq)), .val (.int (Int32.ofNat bi)), .val (.int (1 : Int32)), .val (.int (Int32.ofNat (qq / 32))), .val (.int (Int32.ofNat (qq % 32 * 64 + bi + 1)))] [(.int (1 : Int32))])) (fun tt_ kk_ => XS.goto X58.here hx rfl (pc0 := 224) (pc' := 228) rfl (hb hby at_224) (by decide) (by decide) kk_) ?_
    refine Gq.go (T58.setTop (mkF m 230 #[.val (.long x0), .second, .val (.long x1), .second, .val (.long x2), .second, .val (.long x3), .second, .val (.int x4), .val (.int x5), .val (.int (Int32.ofNat cn)), .val (.ref b1), .val (.int (Int32.ofNat pp)), .val (.ref b15), .val (.ref b29), .val (.ref b45), .val (.int (Int32.ofNat qq)), .val (.int (Int32.ofNat bi)), .val (.int (1 : Int32)), .val (.int (Int32.ofNat (qq / 32))), .val (.int (Int32.ofNat (qq % 32 * 64 + bi + 1)))] [(.int (1 : Int32)), (.int (1 : Int32))])) (fun tt_ kk_ => XS.iload X58.here hx rfl (hb hby at_228) rfl kk_) ?_
    refine Gq.go (T58.setTop (mkF m 233 #[.val (.long x0), .second, .val (.long x1), .second, .val (.long x2), .second, .val (.long x3), .second, .val (.int x4), .val (.int x5), .val (.int (Int32.ofNat cn)), .val (.ref b1), .val (.int (Int32.ofNat pp)), .val (.ref b15), .val (.ref b29), .val (.ref b45), .val (.int (Int32.ofNat qq)), .val (.int (Int32.ofNat bi)), .val (.int (1 : Int32)), .val (.int (Int32.ofNat (qq / 32))), .val (.int (Int32.ofNat (qq % 32 * 64 + bi + 1)))] [])) (fun tt_ kk_ => XS.icmpNo X58.here hx rfl (hb hby at_230) rfl (teq (by decide : ((1 : Int32) = (1 : Int32)))).2 kk_) ?_
    refine Gq.go (T58.setTop (mkF m 234 #[.val (.long x0), .second, .val (.long x1), .second, .val (.long x2), .second, .val (.long x3), .second, .val (.int x4), .val (.int x5), .val (.int (Int32.ofNat cn)), .val (.ref b1), .val (.int (Int32.ofNat pp)), .val (.ref b15), .val (.ref b29), .val (.ref b45), .val (.int (Int32.ofNat qq)), .val (.int (Int32.ofNat bi)), .val (.int (1 : Int32)), .val (.int (Int32.ofNat (qq / 32))), .val (.int (Int32.ofNat (qq % 32 * 64 + bi + 1)))] [(.int (1 : Int32))])) (fun tt_ kk_ => XS.iconst X58.here hx rfl (hb hby at_233) kk_) ?_
    refine Gq.go (T58.setTop (mkF m 238 #[.val (.long x0), .second, .val (.long x1), .second, .val (.long x2), .second, .val (.long x3), .second, .val (.int x4), .val (.int x5), .val (.int (Int32.ofNat cn)), .val (.ref b1), .val (.int (Int32.ofNat pp)), .val (.ref b15), .val (.ref b29), .val (.ref b45), .val (.int (Int32.ofNat qq)), .val (.int (Int32.ofNat bi)), .val (.int (1 : Int32)), .val (.int (Int32.ofNat (qq / 32))), .val (.int (Int32.ofNat (qq % 32 * 64 + bi + 1)))] [(.int (1 : Int32))])) (fun tt_ kk_ => XS.goto X58.here hx rfl (pc0 := 234) (pc' := 238) rfl (hb hby at_234) (by decide) (by decide) kk_) ?_
    refine Gq.retI X58 hx Bd.notSynchronized Bd.returns (by simp) (hb hby at_238) rfl (by decide) (by decide) ?_
    show Q0 Z x0 x1 x2 x3 x4 x5 h0 n0 _ T58.heap _
    rw [eh58]
    exact ⟨rfl, N58⟩
set_option maxRecDepth 65536 in
set_option maxHeartbeats 40000000 in
theorem comes_1 {Post : Tables → Env → Array Value → State → Outcome → State → Prop} (hpost : ∀ tb e args s v u, (limb_1_1.after args s (.returned v) u = true ∧ limb_1_2.after args s (.returned v) u = true ∧ True) → FrameEnd s (.returned v) u (Jvm.fieldLocs frame_1_writes args s ++ Jvm.arrayLocs frame_1_arrays args s ++ Jvm.staticLocs frame_1_statics s) 24 512 → Post tb e args s (.returned v) u) :
    ArmFor flags0 classFile x code maxLocals ret World_1 tables_1 room_1 Calls_1 rest_1 Pre_1 Post := by
  intro l hfl _ _ p e ha hc hk s m args below hf hA hF happ hP
  obtain ⟨hcalls, hrest, hpre⟩ := hP
  obtain ⟨-, -, -, hnamed, -, -, -, hat⟩ := (Spec.applies_iff hf).mp happ
  obtain ⟨hg, hn⟩ := and_e (Cond.before_iff.mp (show (Jvm.Cond.and given_1 narrow_1).before args s = true from hpre))
  obtain ⟨g1, g2⟩ := and_e hg
  obtain ⟨g3, g4⟩ := and_e g2
  obtain ⟨g5, g6⟩ := and_e g4
  obtain ⟨g7, g8⟩ := and_e g6
  obtain ⟨g9, g10⟩ := and_e g8
  obtain ⟨g11, g12⟩ := and_e g10
  obtain ⟨w0, w1, w2, w3, w4, w5, rfl⟩ : ∃ w0 w1 w2 w3 w4 w5 : Value, args = #[w0, w1, w2, w3, w4, w5] := by
    have hs : args.size = 6 := by simpa [Cond.value, given_1] using g1
    obtain ⟨L⟩ := args
    match L, hs with
    | [w0, w1, w2, w3, w4, w5], _ => exact ⟨w0, w1, w2, w3, w4, w5, rfl⟩
  have hw := fun d (hd : d ∈ tables_1) => atoms_spec (ws := Jvm.Cond.code x code maxLocals ret :: tables_1) hat d (List.mem_cons_of_mem _ hd)
  obtain ⟨i0, ei0⟩ := isL_v g3
  obtain rfl : w0 = (.long i0) := Option.some.inj ei0
  obtain ⟨i1, ei1⟩ := isL_v g5
  obtain rfl : w1 = (.long i1) := Option.some.inj ei1
  obtain ⟨i2, ei2⟩ := isL_v g7
  obtain rfl : w2 = (.long i2) := Option.some.inj ei2
  obtain ⟨i3, ei3⟩ := isL_v g9
  obtain rfl : w3 = (.long i3) := Option.some.inj ei3
  obtain ⟨i4, ei4⟩ := is_v g11
  obtain rfl : w4 = (.int i4) := Option.some.inj ei4
  obtain ⟨i5, ei5⟩ := is_v g12
  obtain rfl : w5 = (.int i5) := Option.some.inj ei5
  obtain ⟨n, o, h1, h2, h3, _, L, rfl, ⟨rfl, N⟩, hq⟩ := rm0 l s _ hw tables_1 i0 i1 i2 i3 i4 i5 s.heap s.heap.size (Nat.le_refl _)  p e ha hc hk s m _ below hf ((Spec.applies_iff_loose hf).mp happ).1 ⟨rfl, State.Warmed39.refl s, rfl⟩ trivial
  refine ⟨n, _, h1, h2, h3, hpost _ _ _ _ _ _ ⟨Cond.after_iff.mpr rfl, Cond.after_iff.mpr (eq_i res_at (Term.int_eval (1)) rfl), trivial⟩ ⟨hq.1, hq.2.1, (hq.2.2.sift fun y hy => Or.inr (N y hy)).mono (by decide) (by decide)⟩⟩
theorem main_1_1 : Claimed_1_1 := comes_1 fun _ _ _ _ _ _ h hF => ⟨h.1, hF⟩
theorem main_1_2 : Claimed_1_2 := comes_1 fun _ _ _ _ _ _ h hF => ⟨h.2.1, hF⟩
end Jvm.Pilot.@@N@@
namespace Jvm.Pilot.@@N@@
open Jvm Jvm.ClassFile Sem Op Lib Jvm.Free Jvm.Stand Jvm.Pilot.@@N@@.Jvm.D
/-! MADE BY PROGRAM (witnessworld.py) out of the Statement's table words and the real class files: 17 classes; the members and pool entries that the words name. The judged class is class 1, her method 1. -/
namespace start1
open Jvm.ClassFile
def u (s : String) : CpInfo := .utf8 (stringToUtf16 s)
/-- a pool by its gaps: so many unusable entries, then the entry; so many at the end -/
def gap : Nat → List CpInfo → List CpInfo
  | 0, r => r
  | n + 1, r => .unusable :: gap n r
def poolList (es : List (Nat × CpInfo)) (last : Nat) : List CpInfo := es.foldr (fun e r => gap e.1 (e.2 :: r)) (gap last [])
def pool (es : List (Nat × CpInfo)) (last : Nat) : Array CpInfo := ⟨poolList es last⟩
def fileOf (pool : Array CpInfo) (this : Nat) (attrs : Array Attribute := #[]) (ms : Array MethodInfo := #[]) (fl : Nat := 33) (sup : Nat := 0) (ifs : Array Nat := #[]) (fds : Array FieldInfo := #[]) : ClassFile where
  minorVersion := 0
  majorVersion := 65
  constantPool := pool
  accessFlags := fl
  thisClass := this
  superClass := sup
  interfaces := ifs
  fields := fds
  methods := ms
  attributes := attrs
def plain (name : String) (sup : Option ClassId) : Class where
  name := name
  kind := .ordinary
  loader := none
  accessFlags := 33
  super := sup
  interfaces := #[]
  cf := none
  fields := #[]
  methods := #[]
  instanceTypes := #[]
  staticTypes := #[]
  resolved := #[]
  callSites := []
  init := .initialized
  statics := none
  mirror := none

def pool0 : Array CpInfo := pool [(5, u "<init>"), (0, u "()V"), (1, .class_ 10), (1, u "java/lang/Object")] 113

def k0c0 : Code := { maxStack := 0, maxLocals := 1, code := object_method_1_code, exceptionTable := #[], attributes := #[] }
def k0m0 : Method := { name := "<init>", desc := "()V", sig := { parameters := [], returnType := none }, accessFlags := 1, code := some k0c0 }
/-- java/lang/Object -/
def k0 : Class := { plain "java/lang/Object" none with
  accessFlags := 33
  interfaces := #[]
  cf := some (fileOf pool0 8 #[] #[{ accessFlags := 1, nameIndex := 5, descriptorIndex := 6, attributes := #[] }] 33 0 #[] #[])
  fields := #[]
  methods := #[k0m0]
  instanceTypes := #[]
  staticTypes := #[]
  resolved := Array.replicate 124 none
  statics := none }

def pool1 : Array CpInfo := pool [(2, .class_ 4), (1, u "java/lang/Object"), (0, u "<init>"), (0, u "()V"), (0, .class_ 8), (0, u "com/example/dense_trie/densetrie/Heads"), (0, .methodref 7 10), (0, .nameAndType 5 11), (0, u "(I[J[I)V"), (0, .methodref 7 13), (0, .nameAndType 14 15), (0, u "bits"), (0, u "()[J"), (0, .methodref 7 17), (0, .nameAndType 18 19), (0, u "rank"), (0, u "(II)I"), (0, .class_ 21), (0, u "com/example/dense_trie/densetrie/HeadsBitsPinLaw"), (2, u "law"), (0, u "(JJJJII)Z")] 7

def k1m0 : Method := { name := "<init>", desc := "()V", sig := { parameters := [], returnType := none }, accessFlags := 1, code := none }
def k1c1 : Code := { maxStack := 5, maxLocals := 21, code := code, exceptionTable := #[], attributes := #[] }
def k1m1 : Method := { name := "law", desc := "(JJJJII)Z", sig := { parameters := [.long, .long, .long, .long, .int, .int], returnType := some .boolean }, accessFlags := 9, code := some k1c1 }
/-- com/example/dense_trie/densetrie/HeadsBitsPinLaw -/
def k1 : Class := { plain "com/example/dense_trie/densetrie/HeadsBitsPinLaw" (some 0) with
  accessFlags := 49
  interfaces := #[]
  cf := some (fileOf pool1 20 #[] #[{ accessFlags := 1, nameIndex := 5, descriptorIndex := 6, attributes := #[] }, { accessFlags := 9, nameIndex := 24, descriptorIndex := 25, attributes := #[] }] 49 2 #[] #[])
  fields := #[]
  methods := #[k1m0, k1m1]
  instanceTypes := #[]
  staticTypes := #[]
  resolved := Array.replicate 33 none
  statics := none }

def pool2 : Array CpInfo := pool [(1, .class_ 2), (0, u "com/example/dense_trie/densetrie/Heads"), (0, .class_ 4), (0, u "java/lang/Long"), (2, u "<init>"), (0, u "(I[J[I)V"), (0, .methodref 10 11), (0, .class_ 12), (0, .nameAndType 7 13), (0, u "java/lang/Object"), (0, u "()V"), (0, .fieldref 1 15), (0, .nameAndType 16 17), (0, u "count"), (0, u "I"), (0, .fieldref 1 19), (0, .nameAndType 20 21), (0, u "runs"), (0, u "[J"), (0, .long 281474976710655), (1, .methodref 1 25), (0, .nameAndType 26 27), (0, u "rank"), (0, u "(I)V"), (0, .methodref 1 29), (0, .nameAndType 30 31), (0, u "setBase"), (0, u "(II)V"), (5, u "(II)I"), (6, .class_ 45), (0, u "java/lang/Integer"), (0, .methodref 1 47), (0, .nameAndType 48 49), (0, u "size"), (0, u "(I)I"), (2, .methodref 44 53), (0, .nameAndType 54 37), (0, u "compareUnsigned"), (0, .integer 43691), (0, .methodref 3 57), (0, .nameAndType 58 59), (0, u "bitCount"), (0, u "(J)I"), (20, u "CODES"), (2, u "WORDS"), (1, u "PLAIN"), (1, u "WIDE_MIN"), (1, u "WIDE_MAX"), (1, u "SPAN"), (1, u "SPANS"), (1, u "RUN"), (1, u "CODE_BITS"), (0, u "J"), (0, u "RECIPROCAL_SHIFT"), (1, u "SPAN_RECIPROCAL"), (17, u "bits"), (0, u "()[J")] 4

def k2m0 : Method := { name := "<init>", desc := "()V", sig := { parameters := [], returnType := none }, accessFlags := 0, code := none }
def k2c1 : Code := { maxStack := 6, maxLocals := 11, code := prog_29_method_2_code, exceptionTable := #[], attributes := #[] }
def k2m1 : Method := { name := "<init>", desc := "(I[J[I)V", sig := { parameters := [.int, (.array .long), (.array .int)], returnType := none }, accessFlags := 0, code := some k2c1 }
def k2c2 : Code := { maxStack := 3, maxLocals := 2, code := prog_29_method_6_code, exceptionTable := #[], attributes := #[] }
def k2m2 : Method := { name := "size", desc := "(I)I", sig := { parameters := [.int], returnType := some .int }, accessFlags := 0, code := some k2c2 }
def k2c3 : Code := { maxStack := 6, maxLocals := 3, code := prog_29_method_8_code, exceptionTable := #[], attributes := #[] }
def k2m3 : Method := { name := "setBase", desc := "(II)V", sig := { parameters := [.int, .int], returnType := none }, accessFlags := 0, code := some k2c3 }
def k2c4 : Code := { maxStack := 5, maxLocals := 9, code := prog_29_method_10_code, exceptionTable := #[], attributes := #[] }
def k2m4 : Method := { name := "rank", desc := "(II)I", sig := { parameters := [.int, .int], returnType := some .int }, accessFlags := 0, code := some k2c4 }
def k2c5 : Code := { maxStack := 8, maxLocals := 9, code := prog_29_method_15_code, exceptionTable := #[], attributes := #[] }
def k2m5 : Method := { name := "bits", desc := "()[J", sig := { parameters := [], returnType := some (.array .long) }, accessFlags := 0, code := some k2c5 }
def k2c6 : Code := { maxStack := 7, maxLocals := 6, code := prog_29_method_17_code, exceptionTable := #[], attributes := #[] }
def k2m6 : Method := { name := "rank", desc := "(I)V", sig := { parameters := [.int], returnType := none }, accessFlags := 2, code := some k2c6 }
/-- com/example/dense_trie/densetrie/Heads -/
def k2 : Class := { plain "com/example/dense_trie/densetrie/Heads" (some 0) with
  accessFlags := 32
  interfaces := #[]
  cf := some (fileOf pool2 1 #[] #[{ accessFlags := 0, nameIndex := 7, descriptorIndex := 13, attributes := #[] }, { accessFlags := 0, nameIndex := 7, descriptorIndex := 8, attributes := #[] }, { accessFlags := 0, nameIndex := 48, descriptorIndex := 49, attributes := #[] }, { accessFlags := 0, nameIndex := 30, descriptorIndex := 31, attributes := #[] }, { accessFlags := 0, nameIndex := 26, descriptorIndex := 37, attributes := #[] }, { accessFlags := 0, nameIndex := 119, descriptorIndex := 120, attributes := #[] }, { accessFlags := 2, nameIndex := 26, descriptorIndex := 27, attributes := #[] }] 32 10 #[] #[{ accessFlags := 24, nameIndex := 80, descriptorIndex := 17, attributes := #[] }, { accessFlags := 24, nameIndex := 83, descriptorIndex := 17, attributes := #[] }, { accessFlags := 24, nameIndex := 85, descriptorIndex := 17, attributes := #[] }, { accessFlags := 24, nameIndex := 87, descriptorIndex := 17, attributes := #[] }, { accessFlags := 24, nameIndex := 89, descriptorIndex := 17, attributes := #[] }, { accessFlags := 26, nameIndex := 91, descriptorIndex := 17, attributes := #[] }, { accessFlags := 26, nameIndex := 93, descriptorIndex := 17, attributes := #[] }, { accessFlags := 26, nameIndex := 95, descriptorIndex := 17, attributes := #[] }, { accessFlags := 26, nameIndex := 97, descriptorIndex := 98, attributes := #[] }, { accessFlags := 26, nameIndex := 99, descriptorIndex := 17, attributes := #[] }, { accessFlags := 26, nameIndex := 101, descriptorIndex := 17, attributes := #[] }, { accessFlags := 2, nameIndex := 16, descriptorIndex := 17, attributes := #[] }, { accessFlags := 2, nameIndex := 20, descriptorIndex := 21, attributes := #[] }])
  fields := #[{ name := "CODES", type := .int, accessFlags := 24, slot := 0, constantValue := 0 }, { name := "WORDS", type := .int, accessFlags := 24, slot := 1, constantValue := 0 }, { name := "PLAIN", type := .int, accessFlags := 24, slot := 2, constantValue := 0 }, { name := "WIDE_MIN", type := .int, accessFlags := 24, slot := 3, constantValue := 0 }, { name := "WIDE_MAX", type := .int, accessFlags := 24, slot := 4, constantValue := 0 }, { name := "SPAN", type := .int, accessFlags := 26, slot := 5, constantValue := 0 }, { name := "SPANS", type := .int, accessFlags := 26, slot := 6, constantValue := 0 }, { name := "RUN", type := .int, accessFlags := 26, slot := 7, constantValue := 0 }, { name := "CODE_BITS", type := .long, accessFlags := 26, slot := 8, constantValue := 0 }, { name := "RECIPROCAL_SHIFT", type := .int, accessFlags := 26, slot := 9, constantValue := 0 }, { name := "SPAN_RECIPROCAL", type := .int, accessFlags := 26, slot := 10, constantValue := 0 }, { name := "count", type := .int, accessFlags := 2, slot := 0, constantValue := 0 }, { name := "runs", type := (.array .long), accessFlags := 2, slot := 1, constantValue := 0 }]
  methods := #[k2m0, k2m1, k2m2, k2m3, k2m4, k2m5, k2m6]
  instanceTypes := #[.int, (.array .long)]
  staticTypes := #[.int, .int, .int, .int, .int, .int, .int, .int, .long, .int, .int]
  resolved := Array.replicate 125 none
  statics := none }

def pool3 : Array CpInfo := pool [(1, .class_ 2), (0, u "java/io/Serializable"), (0, .class_ 4), (0, u "java/lang/Object")] 2

/-- java/io/Serializable -/
def k3 : Class := { plain "java/io/Serializable" (some 0) with
  accessFlags := 1537
  interfaces := #[]
  cf := some (fileOf pool3 1 #[] #[] 1537 3 #[] #[])
  fields := #[]
  methods := #[]
  instanceTypes := #[]
  staticTypes := #[]
  resolved := Array.replicate 7 none
  statics := none }

def pool4 : Array CpInfo := pool [(2, .class_ 4), (1, u "java/lang/Object"), (0, u "<init>"), (0, u "()V"), (1, .class_ 10), (1, u "java/lang/Number"), (2, .class_ 14), (0, u "java/io/Serializable"), (0, u "serialVersionUID"), (0, u "J")] 20

def k4m0 : Method := { name := "<init>", desc := "()V", sig := { parameters := [], returnType := none }, accessFlags := 1, code := none }
/-- java/lang/Number -/
def k4 : Class := { plain "java/lang/Number" (some 0) with
  accessFlags := 1057
  interfaces := #[3]
  cf := some (fileOf pool4 8 #[] #[{ accessFlags := 1, nameIndex := 5, descriptorIndex := 6, attributes := #[] }] 1057 2 #[13] #[{ accessFlags := 26, nameIndex := 15, descriptorIndex := 16, attributes := #[] }])
  fields := #[{ name := "serialVersionUID", type := .long, accessFlags := 26, slot := 0, constantValue := 0 }]
  methods := #[k4m0]
  instanceTypes := #[]
  staticTypes := #[.long]
  resolved := Array.replicate 37 none
  statics := none }

def pool5 : Array CpInfo := pool [(1, .class_ 2), (0, u "java/lang/Comparable"), (0, .class_ 4), (0, u "java/lang/Object")] 7

/-- java/lang/Comparable -/
def k5 : Class := { plain "java/lang/Comparable" (some 0) with
  accessFlags := 1537
  interfaces := #[]
  cf := some (fileOf pool5 1 #[] #[] 1537 3 #[] #[])
  fields := #[]
  methods := #[]
  instanceTypes := #[]
  staticTypes := #[]
  resolved := Array.replicate 12 none
  statics := none }

def pool6 : Array CpInfo := pool [(1, .class_ 2), (0, u "java/lang/constant/Constable"), (0, .class_ 4), (0, u "java/lang/Object")] 6

/-- java/lang/constant/Constable -/
def k6 : Class := { plain "java/lang/constant/Constable" (some 0) with
  accessFlags := 1537
  interfaces := #[]
  cf := some (fileOf pool6 1 #[] #[] 1537 3 #[] #[])
  fields := #[]
  methods := #[]
  instanceTypes := #[]
  staticTypes := #[]
  resolved := Array.replicate 11 none
  statics := none }

def pool7 : Array CpInfo := pool [(1, .class_ 2), (0, u "java/lang/constant/ConstantDesc"), (0, .class_ 4), (0, u "java/lang/Object")] 32

/-- java/lang/constant/ConstantDesc -/
def k7 : Class := { plain "java/lang/constant/ConstantDesc" (some 0) with
  accessFlags := 1537
  interfaces := #[]
  cf := some (fileOf pool7 1 #[] #[] 1537 3 #[] #[])
  fields := #[]
  methods := #[]
  instanceTypes := #[]
  staticTypes := #[]
  resolved := Array.replicate 37 none
  statics := none }

def pool8 : Array CpInfo := pool [(1, .class_ 2), (0, u "java/lang/Long"), (98, u "(J)I"), (133, .class_ 237), (1, u "java/lang/Long$LongCache"), (33, .class_ 272), (0, u "java/lang/Number"), (2, u "value"), (0, u "J"), (37, .long 6148914691236517205), (1, .long 3689348814741910323), (1, .long 1085102592571150095), (42, u "TYPE"), (0, u "Ljava/lang/Class;"), (0, .class_ 364), (0, u "java/lang/Comparable"), (0, .class_ 366), (0, u "java/lang/constant/Constable"), (0, .class_ 368), (0, u "java/lang/constant/ConstantDesc"), (0, u "MIN_VALUE"), (1, u "MAX_VALUE"), (4, u "SIZE"), (0, u "I"), (1, u "BYTES"), (1, u "serialVersionUID"), (94, u "bitCount")] 47

def k8c0 : Code := { maxStack := 6, maxLocals := 2, code := jdk_35_method_50_code, exceptionTable := #[], attributes := #[] }
def k8m0 : Method := { name := "bitCount", desc := "(J)I", sig := { parameters := [.long], returnType := some .int }, accessFlags := 9, code := some k8c0 }
/-- java/lang/Long -/
def k8 : Class := { plain "java/lang/Long" (some 4) with
  accessFlags := 49
  interfaces := #[5, 6, 7]
  cf := some (fileOf pool8 1 #[.nestMembers #[235]] #[{ accessFlags := 9, nameIndex := 476, descriptorIndex := 101, attributes := #[] }] 49 271 #[363, 365, 367] #[{ accessFlags := 25, nameIndex := 369, descriptorIndex := 276, attributes := #[] }, { accessFlags := 25, nameIndex := 371, descriptorIndex := 276, attributes := #[] }, { accessFlags := 25, nameIndex := 361, descriptorIndex := 362, attributes := #[] }, { accessFlags := 18, nameIndex := 275, descriptorIndex := 276, attributes := #[] }, { accessFlags := 25, nameIndex := 376, descriptorIndex := 377, attributes := #[] }, { accessFlags := 25, nameIndex := 379, descriptorIndex := 377, attributes := #[] }, { accessFlags := 26, nameIndex := 381, descriptorIndex := 276, attributes := #[] }])
  fields := #[{ name := "MIN_VALUE", type := .long, accessFlags := 25, slot := 0, constantValue := 0 }, { name := "MAX_VALUE", type := .long, accessFlags := 25, slot := 1, constantValue := 0 }, { name := "TYPE", type := (.object "java/lang/Class"), accessFlags := 25, slot := 2, constantValue := 0 }, { name := "value", type := .long, accessFlags := 18, slot := 0, constantValue := 0 }, { name := "SIZE", type := .int, accessFlags := 25, slot := 3, constantValue := 0 }, { name := "BYTES", type := .int, accessFlags := 25, slot := 4, constantValue := 0 }, { name := "serialVersionUID", type := .long, accessFlags := 26, slot := 5, constantValue := 0 }]
  methods := #[k8m0]
  instanceTypes := #[.long]
  staticTypes := #[.long, .long, (.object "java/lang/Class"), .int, .int, .long]
  resolved := Array.replicate 524 none
  statics := none }

def pool9 : Array CpInfo := pool [(1, .class_ 2), (0, u "java/lang/Integer"), (16, u "digits"), (0, u "[C"), (39, u "(II)I"), (24, u "DigitOnes"), (0, u "[B"), (2, u "DigitTens"), (37, .integer 2147483648), (61, .class_ 190), (0, u "java/lang/Integer$IntegerCache"), (3, u "I"), (8, .class_ 204), (0, u "java/lang/Number"), (2, u "value"), (51, .methodref 1 260), (0, .nameAndType 261 60), (0, u "compare"), (40, u "TYPE"), (0, u "Ljava/lang/Class;"), (0, .class_ 305), (0, u "java/lang/Comparable"), (0, .class_ 307), (0, u "java/lang/constant/Constable"), (0, .class_ 309), (0, u "java/lang/constant/ConstantDesc"), (0, u "MIN_VALUE"), (1, u "MAX_VALUE"), (3, u "SIZE"), (1, u "BYTES"), (1, u "serialVersionUID"), (0, u "J"), (76, u "compareUnsigned")] 54

def k9c0 : Code := { maxStack := 2, maxLocals := 2, code := jdk_33_method_40_code, exceptionTable := #[], attributes := #[] }
def k9m0 : Method := { name := "compare", desc := "(II)I", sig := { parameters := [.int, .int], returnType := some .int }, accessFlags := 9, code := some k9c0 }
def k9c1 : Code := { maxStack := 3, maxLocals := 2, code := jdk_33_method_41_code, exceptionTable := #[], attributes := #[] }
def k9m1 : Method := { name := "compareUnsigned", desc := "(II)I", sig := { parameters := [.int, .int], returnType := some .int }, accessFlags := 9, code := some k9c1 }
/-- java/lang/Integer -/
def k9 : Class := { plain "java/lang/Integer" (some 4) with
  accessFlags := 49
  interfaces := #[5, 6, 7]
  cf := some (fileOf pool9 1 #[.nestMembers #[189]] #[{ accessFlags := 9, nameIndex := 261, descriptorIndex := 60, attributes := #[] }, { accessFlags := 9, nameIndex := 398, descriptorIndex := 60, attributes := #[] }] 49 203 #[304, 306, 308] #[{ accessFlags := 25, nameIndex := 310, descriptorIndex := 194, attributes := #[] }, { accessFlags := 25, nameIndex := 312, descriptorIndex := 194, attributes := #[] }, { accessFlags := 25, nameIndex := 302, descriptorIndex := 303, attributes := #[] }, { accessFlags := 24, nameIndex := 19, descriptorIndex := 20, attributes := #[] }, { accessFlags := 24, nameIndex := 89, descriptorIndex := 86, attributes := #[] }, { accessFlags := 24, nameIndex := 85, descriptorIndex := 86, attributes := #[] }, { accessFlags := 18, nameIndex := 207, descriptorIndex := 194, attributes := #[] }, { accessFlags := 25, nameIndex := 316, descriptorIndex := 194, attributes := #[] }, { accessFlags := 25, nameIndex := 318, descriptorIndex := 194, attributes := #[] }, { accessFlags := 26, nameIndex := 320, descriptorIndex := 321, attributes := #[] }])
  fields := #[{ name := "MIN_VALUE", type := .int, accessFlags := 25, slot := 0, constantValue := 0 }, { name := "MAX_VALUE", type := .int, accessFlags := 25, slot := 1, constantValue := 0 }, { name := "TYPE", type := (.object "java/lang/Class"), accessFlags := 25, slot := 2, constantValue := 0 }, { name := "digits", type := (.array .char), accessFlags := 24, slot := 3, constantValue := 0 }, { name := "DigitTens", type := (.array .byte), accessFlags := 24, slot := 4, constantValue := 0 }, { name := "DigitOnes", type := (.array .byte), accessFlags := 24, slot := 5, constantValue := 0 }, { name := "value", type := .int, accessFlags := 18, slot := 0, constantValue := 0 }, { name := "SIZE", type := .int, accessFlags := 25, slot := 6, constantValue := 0 }, { name := "BYTES", type := .int, accessFlags := 25, slot := 7, constantValue := 0 }, { name := "serialVersionUID", type := .long, accessFlags := 26, slot := 8, constantValue := 0 }]
  methods := #[k9m0, k9m1]
  instanceTypes := #[.int]
  staticTypes := #[.int, .int, (.object "java/lang/Class"), (.array .char), (.array .byte), (.array .byte), .int, .int, .long]
  resolved := Array.replicate 453 none
  statics := none }

def pool10 : Array CpInfo := pool [(1, u "java/lang/Cloneable"), (0, .class_ 1), (0, u "java/lang/Object"), (0, .class_ 3)] 3

/-- java/lang/Cloneable -/
def k10 : Class := { plain "java/lang/Cloneable" (some 0) with
  accessFlags := 1537
  interfaces := #[]
  cf := some (fileOf pool10 2 #[] #[] 1537 4 #[] #[])
  fields := #[]
  methods := #[]
  instanceTypes := #[]
  staticTypes := #[]
  resolved := Array.replicate 8 none
  statics := none }

/-- the primitive byte -/
def k11 : Class := { plain "byte" none with kind := .primitive 'B', accessFlags := 0x411 }
/-- [B -/
def k12 : Class := { plain "[B" (some 0) with kind := .array 11 .byte, interfaces := #[10, 3], accessFlags := 1041 }

/-- the primitive int -/
def k13 : Class := { plain "int" none with kind := .primitive 'I', accessFlags := 0x411 }
/-- [I -/
def k14 : Class := { plain "[I" (some 0) with kind := .array 13 .int, interfaces := #[10, 3], accessFlags := 1041 }

/-- the primitive long -/
def k15 : Class := { plain "long" none with kind := .primitive 'J', accessFlags := 0x411 }
/-- [J -/
def k16 : Class := { plain "[J" (some 0) with kind := .array 15 .long, interfaces := #[10, 3], accessFlags := 1041 }

def heap : Heap := #[]
def classes : Array Class := #[k0, k1, k2, k3, k4, k5, k6, k7, k8, k9, k10, k11, k12, k13, k14, k15, k16]
def interned : List (Array UInt16 × Addr) := []
def slotsUsed : Nat := 0
def theMethod : MethodId := ⟨1, 1⟩
def args0 : Array Value := #[.long 1, .long 2, .long 3, .long 4, .int 5, .int 6]
def aboutOver (below : List Frame) : State where
  vm := { classes := classes, interned := interned.toArray }
  heap := heap
  slotsUsed := slotsUsed
  threads := #[{ frames := .invoking theMethod args0 :: below }]
def below0 : List Frame := [.native { method := ⟨0, 0⟩, args := #[] }]
def about1 : State := aboutOver below0
def p0 : Program := .bare "" "" ""
def e0 : Env := launch0.env 0 0 0
theorem w_frames : about1.frames = Frame.invoking theMethod args0 :: below0 := rfl
set_option maxRecDepth 65536 in
theorem w_args : argsFit about1.vm theMethod args0 = true := by decide +kernel
set_option maxRecDepth 65536 in
theorem w_heap : heapFits about1 = true := by decide +kernel
set_option maxRecDepth 65536 in
theorem w_runnable : about1.curStatus? = some .runnable := by decide +kernel
set_option maxRecDepth 65536 in
theorem w_alone : about1.alone = true := by decide +kernel
set_option maxRecDepth 65536 in
theorem w_named : about1.methodNamed? x = some theMethod := by decide +kernel
set_option maxRecDepth 65536 in
theorem w_hears : about1.hears theMethod below0 = true := by decide +kernel
set_option maxRecDepth 65536 in
theorem w_ripe : about1.ripe theMethod args0 below0 = true := by decide +kernel
theorem w_running : about1.status = .running := rfl
set_option maxRecDepth 65536 in
theorem w_room : about1.hasRoom e0.platform room_1 = true :=
  launch0.hasRoom_least _ room_1 (by decide +kernel) (by decide +kernel) (by decide +kernel) (by decide +kernel) (by decide +kernel) (by decide +kernel)
theorem allAtoms_all (ts : List Jvm.Cond) (a : Array Jvm.Value) (st : Jvm.State) : (allAtoms ts).before a st = ts.all (fun c => c.before a st) := by
  induction ts with
  | nil => rfl
  | cons c t ih =>
    show (Jvm.Cond.and c (allAtoms t)).before a st = _
    rw [Jvm.Cond.before_and, ih, List.all_cons]
def words1 : List Jvm.Cond := Jvm.Cond.code x code maxLocals ret :: tables_1
/-- a 'code' word, met by the world's own term for the bytes: nothing is compared byte by byte -/
theorem code_word {y : MethodName} {bytes : ByteArray} {mx : Nat} {rt : Option FieldType} {a : Array Value} {s : State} {m : MethodId} {meth : Method} {c : Code} (h1 : s.methodNamed? y = some m) (h2 : s.vm.method? m = some meth) (h3 : meth.code = some c) (h4 : c.code = bytes)
    (h5 : (c.maxLocals == mx && c.exceptionTable.isEmpty && decide (c.maxStack ≤ mostOperands) && decide (meth.sig.returnType = rt) && !meth.locks && decide (parseMethodDescriptor y.desc = some meth.sig)) = true) : (Jvm.Cond.code y bytes mx rt).before a s = true := by
  simp only [Bool.and_eq_true, beq_iff_eq, Bool.not_eq_true', decide_eq_true_eq] at h5
  obtain ⟨⟨⟨⟨⟨g1, g2⟩, g3⟩, g4⟩, g5⟩, g6⟩ := h5
  simp [Cond.before, Cond.holds, Cond.value, h1, h2, h3, h4, g1, g2, g3, g4, g5, g6]
def isCode : Jvm.Cond → Bool
  | .code _ _ _ _ => true
  | _ => false
theorem all_split {L : List Jvm.Cond} {P : Jvm.Cond → Bool} (h1 : L.all (fun c => isCode c || P c) = true) (h2 : ∀ c ∈ L.filter isCode, P c = true) : L.all P = true := by
  refine List.all_eq_true.mpr fun c hc => ?_
  have h := List.all_eq_true.mp h1 c hc
  rcases Bool.eq_false_or_eq_true (isCode c) with hi | hi
  · exact h2 c (List.mem_filter.mpr ⟨hc, hi⟩)
  · simpa [hi] using h
set_option maxRecDepth 65536 in
theorem w_c0 : (Jvm.Cond.code x code maxLocals ret).before args0 about1 = true := code_word (m := ⟨1, 1⟩) (meth := k1m1) (c := k1c1) (by decide +kernel) rfl rfl rfl (by decide +kernel)
set_option maxRecDepth 65536 in
theorem w_c1 : (Jvm.Cond.code ({ cls := "com/example/dense_trie/densetrie/Heads", name := "<init>", desc := "(I[J[I)V" } : Jvm.MethodName) prog_29_method_2_code (11 : Nat) (Option.none : Option Jvm.ClassFile.FieldType)).before args0 about1 = true := code_word (m := ⟨2, 1⟩) (meth := k2m1) (c := k2c1) (by decide +kernel) rfl rfl rfl (by decide +kernel)
set_option maxRecDepth 65536 in
theorem w_c2 : (Jvm.Cond.code ({ cls := "java/lang/Object", name := "<init>", desc := "()V" } : Jvm.MethodName) object_method_1_code (1 : Nat) (Option.none : Option Jvm.ClassFile.FieldType)).before args0 about1 = true := code_word (m := ⟨0, 0⟩) (meth := k0m0) (c := k0c0) (by decide +kernel) rfl rfl rfl (by decide +kernel)
set_option maxRecDepth 65536 in
theorem w_c3 : (Jvm.Cond.code ({ cls := "com/example/dense_trie/densetrie/Heads", name := "rank", desc := "(I)V" } : Jvm.MethodName) prog_29_method_17_code (6 : Nat) (Option.none : Option Jvm.ClassFile.FieldType)).before args0 about1 = true := code_word (m := ⟨2, 6⟩) (meth := k2m6) (c := k2c6) (by decide +kernel) rfl rfl rfl (by decide +kernel)
set_option maxRecDepth 65536 in
theorem w_c4 : (Jvm.Cond.code ({ cls := "java/lang/Long", name := "bitCount", desc := "(J)I" } : Jvm.MethodName) jdk_35_method_50_code (2 : Nat) (Option.some Jvm.ClassFile.FieldType.int)).before args0 about1 = true := code_word (m := ⟨8, 0⟩) (meth := k8m0) (c := k8c0) (by decide +kernel) rfl rfl rfl (by decide +kernel)
set_option maxRecDepth 65536 in
theorem w_c5 : (Jvm.Cond.code ({ cls := "com/example/dense_trie/densetrie/Heads", name := "setBase", desc := "(II)V" } : Jvm.MethodName) prog_29_method_8_code (3 : Nat) (Option.none : Option Jvm.ClassFile.FieldType)).before args0 about1 = true := code_word (m := ⟨2, 3⟩) (meth := k2m3) (c := k2c3) (by decide +kernel) rfl rfl rfl (by decide +kernel)
set_option maxRecDepth 65536 in
theorem w_c6 : (Jvm.Cond.code ({ cls := "com/example/dense_trie/densetrie/Heads", name := "size", desc := "(I)I" } : Jvm.MethodName) prog_29_method_6_code (2 : Nat) (Option.some Jvm.ClassFile.FieldType.int)).before args0 about1 = true := code_word (m := ⟨2, 2⟩) (meth := k2m2) (c := k2c2) (by decide +kernel) rfl rfl rfl (by decide +kernel)
set_option maxRecDepth 65536 in
theorem w_c7 : (Jvm.Cond.code ({ cls := "com/example/dense_trie/densetrie/Heads", name := "bits", desc := "()[J" } : Jvm.MethodName) prog_29_method_15_code (9 : Nat) (Option.some (Jvm.ClassFile.FieldType.array Jvm.ClassFile.FieldType.long))).before args0 about1 = true := code_word (m := ⟨2, 5⟩) (meth := k2m5) (c := k2c5) (by decide +kernel) rfl rfl rfl (by decide +kernel)
set_option maxRecDepth 65536 in
theorem w_c8 : (Jvm.Cond.code ({ cls := "com/example/dense_trie/densetrie/Heads", name := "rank", desc := "(II)I" } : Jvm.MethodName) prog_29_method_10_code (9 : Nat) (Option.some Jvm.ClassFile.FieldType.int)).before args0 about1 = true := code_word (m := ⟨2, 4⟩) (meth := k2m4) (c := k2c4) (by decide +kernel) rfl rfl rfl (by decide +kernel)
set_option maxRecDepth 65536 in
theorem w_c9 : (Jvm.Cond.code ({ cls := "java/lang/Integer", name := "compareUnsigned", desc := "(II)I" } : Jvm.MethodName) jdk_33_method_41_code (2 : Nat) (Option.some Jvm.ClassFile.FieldType.int)).before args0 about1 = true := code_word (m := ⟨9, 1⟩) (meth := k9m1) (c := k9c1) (by decide +kernel) rfl rfl rfl (by decide +kernel)
set_option maxRecDepth 65536 in
theorem w_c10 : (Jvm.Cond.code ({ cls := "java/lang/Integer", name := "compare", desc := "(II)I" } : Jvm.MethodName) jdk_33_method_40_code (2 : Nat) (Option.some Jvm.ClassFile.FieldType.int)).before args0 about1 = true := code_word (m := ⟨9, 0⟩) (meth := k9m0) (c := k9c0) (by decide +kernel) rfl rfl rfl (by decide +kernel)
def codes1 : List Jvm.Cond := [Jvm.Cond.code x code maxLocals ret, Jvm.Cond.code ({ cls := "com/example/dense_trie/densetrie/Heads", name := "<init>", desc := "(I[J[I)V" } : Jvm.MethodName) prog_29_method_2_code (11 : Nat) (Option.none : Option Jvm.ClassFile.FieldType), Jvm.Cond.code ({ cls := "java/lang/Object", name := "<init>", desc := "()V" } : Jvm.MethodName) object_method_1_code (1 : Nat) (Option.none : Option Jvm.ClassFile.FieldType), Jvm.Cond.code ({ cls := "com/example/dense_trie/densetrie/Heads", name := "rank", desc := "(I)V" } : Jvm.MethodName) prog_29_method_17_code (6 : Nat) (Option.none : Option Jvm.ClassFile.FieldType), Jvm.Cond.code ({ cls := "java/lang/Long", name := "bitCount", desc := "(J)I" } : Jvm.MethodName) jdk_35_method_50_code (2 : Nat) (Option.some Jvm.ClassFile.FieldType.int), Jvm.Cond.code ({ cls := "com/example/dense_trie/densetrie/Heads", name := "setBase", desc := "(II)V" } : Jvm.MethodName) prog_29_method_8_code (3 : Nat) (Option.none : Option Jvm.ClassFile.FieldType), Jvm.Cond.code ({ cls := "com/example/dense_trie/densetrie/Heads", name := "size", desc := "(I)I" } : Jvm.MethodName) prog_29_method_6_code (2 : Nat) (Option.some Jvm.ClassFile.FieldType.int), Jvm.Cond.code ({ cls := "com/example/dense_trie/densetrie/Heads", name := "bits", desc := "()[J" } : Jvm.MethodName) prog_29_method_15_code (9 : Nat) (Option.some (Jvm.ClassFile.FieldType.array Jvm.ClassFile.FieldType.long)), Jvm.Cond.code ({ cls := "com/example/dense_trie/densetrie/Heads", name := "rank", desc := "(II)I" } : Jvm.MethodName) prog_29_method_10_code (9 : Nat) (Option.some Jvm.ClassFile.FieldType.int), Jvm.Cond.code ({ cls := "java/lang/Integer", name := "compareUnsigned", desc := "(II)I" } : Jvm.MethodName) jdk_33_method_41_code (2 : Nat) (Option.some Jvm.ClassFile.FieldType.int), Jvm.Cond.code ({ cls := "java/lang/Integer", name := "compare", desc := "(II)I" } : Jvm.MethodName) jdk_33_method_40_code (2 : Nat) (Option.some Jvm.ClassFile.FieldType.int)]
set_option maxRecDepth 65536 in
theorem codes_eq : words1.filter isCode = codes1 := rfl
theorem w_codes : ∀ c ∈ words1.filter isCode, c.before args0 about1 = true := by
  rw [codes_eq]
  intro c hc
  simp only [codes1, List.mem_cons, List.not_mem_nil, or_false] at hc
  rcases hc with rfl | rfl | rfl | rfl | rfl | rfl | rfl | rfl | rfl | rfl | rfl
  · exact w_c0
  · exact w_c1
  · exact w_c2
  · exact w_c3
  · exact w_c4
  · exact w_c5
  · exact w_c6
  · exact w_c7
  · exact w_c8
  · exact w_c9
  · exact w_c10
set_option maxRecDepth 65536 in
theorem w_t1 : (words1.take 24).all (fun c => isCode c || c.before args0 about1) = true := by decide +kernel
set_option maxRecDepth 65536 in
theorem w_t2 : ((words1.drop 24).take 24).all (fun c => isCode c || c.before args0 about1) = true := by decide +kernel
set_option maxRecDepth 65536 in
theorem w_t3 : ((words1.drop 24).drop 24).all (fun c => isCode c || c.before args0 about1) = true := by decide +kernel
theorem w_tables : (allAtoms (Jvm.Cond.code x code maxLocals ret :: tables_1)).before args0 about1 = true := by
  rw [allAtoms_all]
  show words1.all (fun c => c.before args0 about1) = true
  refine all_split ?_ w_codes
  rw [← List.take_append_drop 24 words1, List.all_append, w_t1, ← List.take_append_drop 24 (words1.drop 24), List.all_append, w_t2, w_t3]
  rfl
set_option maxRecDepth 65536 in
theorem w_case : (Jvm.Cond.and given_1 narrow_1).before args0 about1 = true := by decide +kernel
theorem w_applies : (headSpec (Jvm.Cond.code x code maxLocals ret :: tables_1) room_1).applies x e0.platform about1 = true :=
  (Spec.applies_iff w_frames).mpr ⟨w_running, w_runnable, w_alone, w_named, w_hears, w_ripe, w_room, w_tables⟩
theorem atStart : AtStart classFile x code maxLocals ret World_1 tables_1 room_1 Calls_1 rest_1 Pre_1 launch0 p0 e0 about1 theMethod args0 below0 :=
  ⟨lists_1, trivial, launch0.admits_env _ _ _, launch0.least_env, fairChoices_fair.cas, fairChoices_fair.clock, w_frames, w_args, w_heap, w_applies, trivial, trivial, w_case⟩
end start1
theorem witness_1 : WitnessClaimed_1 := ⟨start1.p0, start1.e0, start1.about1, start1.theMethod, start1.args0, start1.below0, start1.atStart⟩
end Jvm.Pilot.@@N@@
