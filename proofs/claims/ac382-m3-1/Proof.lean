import JvmDerived
import JvmDerived.Pilot.@@N@@Statement
import JvmDerived.Pilot.@@N@@Code
set_option linter.unusedVariables false
set_option linter.unusedSimpArgs false
namespace Jvm.Pilot.@@N@@
open Jvm Jvm.ClassFile Sem Op Lib Jvm.Free Jvm.Stand Jvm.LawKit Jvm.RoadKit Bundle Jvm.Pilot.@@N@@.Jvm.D
-- own kit: the walk's goal, the ends of a walk, arrays as functions of the place, calls by contract
section OwnKit
variable {p : Program} {l : Launch} {e : Env} {R : Room} {s : State} {m : MethodId} {args : Array Value} {below : List Frame} {meth : Method} {c : Code} {T : State} {locs : List Loc} {cells slots : Nat} {Z : State} {a0 : Array Value} {h h' : Heap} {kc ks : Nat} {Q : Option Value → Heap → List Loc → Prop} {tb : Tables} {B : State}
def Gq (tb : Tables) (e : Env) (below : List Frame) (s : State) (Q : Option Value → Heap → List Loc → Prop) (kc ks : Nat) (A : State) : Prop :=
  ∃ t o, Steps tb e below A t ∧ t.status = .running ∧ Ended t below o ∧ ∃ v L, o = .returned v ∧ Q v t.heap L ∧ FrameEnd s o t L kc ks
theorem Gq.go (A : State) (k : ∀ t, Steps tb e below A t → Steps tb e below B t) (g : Gq tb e below s Q kc ks A) : Gq tb e below s Q kc ks B := by
  obtain ⟨t, o, h1, h2⟩ := g
  exact ⟨t, o, k t h1, h2⟩
theorem Gq.start {T : State} {g g' : JFrame} (q : g = g') (k : Gq tb e below s Q kc ks (T.setTop g')) : Gq tb e below s Q kc ks (T.setTop g) := q ▸ k
theorem Gq.fin {A : State} (X : Stand p l e R s m args below meth c T locs cells slots) (hlocks : meth.locks = false) {v : Option Value} (hv : meth.sig.returnType = none → v = none)
    (st : ∀ fs, (∀ (f : JFrame) (acts : List Action), f.method = m → f.locked = none → f.entered = [] → (doReturn e (T.setTop f) acts v).1 = T.setFrames fs) → Steps p.tables e below A (T.setFrames fs))
    (h1 : cells ≤ kc) (h2 : slots ≤ ks) (q : Q v T.heap locs) : Gq p.tables e below s Q kc ks A := by
  obtain ⟨fs, hr, hrun, hended, hW, hsame⟩ := X.leave (v := v) hv hlocks
  exact ⟨_, _, st fs hr, hrun, hended, _, _, rfl, q, ⟨_, rfl⟩, hW, hsame.mono h1 h2⟩
theorem Gq.retI (X : Stand p l e R s m args below meth c T locs cells slots) (hx : p.tables.exec = Jvm.exec) (hlocks : meth.locks = false) {pc : Nat} {Ls : Array Slot} {w : Int32} {rest : List Value} {t : FieldType} (hret : meth.sig.returnType = some t)
    (ht : t = .int ∨ t = .boolean ∨ t = .byte ∨ t = .char ∨ t = .short) (hd : decode c.code pc = .ok (.ireturn, 1)) (hn : narrow t (.int w) = .int w) (h1 : cells ≤ kc) (h2 : slots ≤ ks) (q : Q (some (.int w)) T.heap locs) :
    Gq p.tables e below s Q kc ks (T.setTop (mkF m pc Ls (.int w :: rest))) :=
  Gq.fin X hlocks (fun h => by rw [hret] at h; cases h) (fun fs hr => retOut X hx hret hn (Or.inl ⟨rfl, ht, _, rfl⟩) hd hr) h1 h2 q
theorem Gq.retL (X : Stand p l e R s m args below meth c T locs cells slots) (hx : p.tables.exec = Jvm.exec) (hlocks : meth.locks = false) {pc : Nat} {Ls : Array Slot} {w : Int64} {rest : List Value} (hret : meth.sig.returnType = some .long)
    (hd : decode c.code pc = .ok (.lreturn, 1)) (h1 : cells ≤ kc) (h2 : slots ≤ ks) (q : Q (some (.long w)) T.heap locs) :
    Gq p.tables e below s Q kc ks (T.setTop (mkF m pc Ls (.long w :: rest))) :=
  Gq.fin X hlocks (fun h => by rw [hret] at h; cases h) (fun fs hr => retOut X hx hret rfl (Or.inr (Or.inl ⟨rfl, rfl, _, rfl⟩)) hd hr) h1 h2 q
theorem Gq.retA (X : Stand p l e R s m args below meth c T locs cells slots) (hx : p.tables.exec = Jvm.exec) (hlocks : meth.locks = false) {pc : Nat} {Ls : Array Slot} {w : Value} {rest : List Value} {t : FieldType} (hret : meth.sig.returnType = some t) (hn : narrow t w = w)
    (ht : t.isReference = true) (hw : w.isRef = true) (hd : decode c.code pc = .ok (.areturn, 1)) (h1 : cells ≤ kc) (h2 : slots ≤ ks) (q : Q (some w) T.heap locs) :
    Gq p.tables e below s Q kc ks (T.setTop (mkF m pc Ls (w :: rest))) :=
  Gq.fin X hlocks (fun h => by rw [hret] at h; cases h) (fun fs hr => retOut X hx hret hn (Or.inr (Or.inr (Or.inr (Or.inr ⟨rfl, ht, hw⟩)))) hd hr) h1 h2 q
theorem Gq.retV (X : Stand p l e R s m args below meth c T locs cells slots) (hx : p.tables.exec = Jvm.exec) (hlocks : meth.locks = false) {pc : Nat} {Ls : Array Slot} (hret : meth.sig.returnType = none)
    (hd : decode c.code pc = .ok (.return_, 1)) (h1 : cells ≤ kc) (h2 : slots ≤ ks) (q : Q none T.heap locs) : Gq p.tables e below s Q kc ks (T.setTop (mkF m pc Ls [])) :=
  Gq.fin X hlocks (fun _ => rfl) (fun fs hr => X.returnOut hx hret hd hr) h1 h2 q
/-- an array: n places, place j holds f j -/
def LA (Z : State) (h : Heap) (a : Addr) (ty : FieldType) (n : Nat) (f : Nat → Value) : Prop := ∃ c : Cell, Arr Z h a c ty ∧ c.slots.size = n ∧ n < 2 ^ 31 ∧ ∀ j, j < n → c.slots[j]? = some (f j)
def upd (f : Nat → Value) (j : Nat) (v : Value) : Nat → Value := fun i => if i = j then v else f i
def gl (vs : List Value) (d : Value) : Nat → Value := fun i => vs.getD i d
section Facts
variable {a b : Addr} {ty : FieldType} {n j : Nat} {f g : Nat → Value} {v d : Value} {sl : Nat} {ws : List Addr} {vs : List Value}
theorem LA.lt (F : LA Z h a ty n f) : a < h.size := by obtain ⟨c, A, -⟩ := F; exact A.lt
theorem LA.ext (F : LA Z h a ty n f) (E : Ext h h') : LA Z h' a ty n f := by obtain ⟨c, A, r⟩ := F; exact ⟨c, A.ext E, r⟩
theorem LA.other (F : LA Z h b ty n f) (W : Wr h h' a sl v) (q : b ≠ a) : LA Z h' b ty n f := by obtain ⟨c, A, r⟩ := F; exact ⟨c, A.other W q, r⟩
theorem LA.keep (F : LA Z h a ty n f) (K : Keep h h' ws) (q : a ∉ ws) : LA Z h' a ty n f := by obtain ⟨c, A, r⟩ := F; exact ⟨c, ⟨K.2.1 a c A.1 q, A.2⟩, r⟩
theorem LA.congr (F : LA Z h a ty n f) (q : ∀ j, j < n → f j = g j) : LA Z h a ty n g := by obtain ⟨c, A, r1, r2, r3⟩ := F; exact ⟨c, A, r1, r2, fun j hj => by rw [r3 j hj, q j hj]⟩
theorem LA.new {k : ClassId} {z : Int32} (A : Arr Z h a (newA k ty z) ty) (q : ¬ z < 0) (hn : z.toNatClampNeg = n) : LA Z h a ty n (fun _ => defaultValue ty) := by
  subst hn
  exact ⟨_, A, sz_new _ _ _, (back32 q).2, fun j hj => by simp [newA, hj]⟩
theorem LA.set (F : LA Z h a ty n f) (W : Wr h h' a j v) : LA Z h' a ty n (upd f j v) := by
  obtain ⟨c, A, r1, r2, r3⟩ := F
  refine ⟨_, A.same W, by rw [sz_set]; exact r1, r2, fun i hi => ?_⟩
  have e1 : i < c.slots.size := by omega
  have r := r3 i hi
  simp only [upd, Cell.setSlot]
  by_cases q : i = j
  · subst q; simp [e1]
  · rw [Array.getElem?_setIfInBounds_ne (Ne.symm q), if_neg q]; exact r
theorem LA.setL (F : LA Z h a ty n (gl vs d)) (W : Wr h h' a j v) (hj : j < vs.length) : LA Z h' a ty n (gl (vs.set j v) d) := by
  refine (F.set W).congr fun i hi => ?_
  simp only [upd, gl, List.getD_eq_getElem?_getD, List.getElem?_set]
  by_cases q : i = j
  · subst q; simp [hj]
  · rw [if_neg q, if_neg (Ne.symm q)]
theorem LA.list (F : LA Z h a ty n (fun _ => d)) : LA Z h a ty n (gl (List.replicate n d) d) := F.congr fun j hj => by
  simp [gl, List.getD_eq_getElem?_getD, List.getElem?_replicate, hj]
end Facts
section Steps
variable {a : Addr} {n i : Nat} {f : Nat → Value} {pc : Nat} {Ls : Array Slot} {rest : List Value} {j : Int32}
theorem inb {cl : Cell} (S : cl.slots.size = n) (hi : j.toNatClampNeg = i) (hj : ¬ j < 0) (hn : i < n) : ¬ (j < 0 ∨ cl.slots.size ≤ j.toNatClampNeg) := by
  intro q; rcases q with q | q
  · exact hj q
  · omega
theorem ldJ (X : Stand p l e R s m args below meth c T locs cells slots) (hx : p.tables.exec = Jvm.exec) (hZ : Z.Warmed39 s.vm) (eT : T.heap = h) (V : LA Z h a .long n f) {x : Int64} (hj : ¬ j < 0) (hi : j.toNatClampNeg = i) (hn : i < n) (hv : f i = .long x) (hd : decode c.code pc = .ok (.laload, 1)) :
    ∀ t, Steps p.tables e below (T.setTop (mkF m (pc + 1) Ls (.long x :: rest))) t → Steps p.tables e below (T.setTop (mkF m pc Ls (.int j :: .ref a :: rest))) t := fun t k => by
  obtain ⟨cl, A, S, -, H⟩ := V
  exact X.laload hx (by rw [eT]; exact A.1) (State.isArrayOf_alike hZ.alike A.2.1) A.2.2 (inb S hi hj hn) (by rw [hi, H i hn, hv]) (g := mkF m pc Ls (.int j :: .ref a :: rest)) rfl rfl hd _ k
theorem ldI (X : Stand p l e R s m args below meth c T locs cells slots) (hx : p.tables.exec = Jvm.exec) (hZ : Z.Warmed39 s.vm) (eT : T.heap = h) (V : LA Z h a .int n f) {x : Int32} (hj : ¬ j < 0) (hi : j.toNatClampNeg = i) (hn : i < n) (hv : f i = .int x) (hd : decode c.code pc = .ok (.iaload, 1)) :
    ∀ t, Steps p.tables e below (T.setTop (mkF m (pc + 1) Ls (.int x :: rest))) t → Steps p.tables e below (T.setTop (mkF m pc Ls (.int j :: .ref a :: rest))) t := fun t k => by
  obtain ⟨cl, A, S, -, H⟩ := V
  exact X.iaload hx (by rw [eT]; exact A.1) (State.isArrayOf_alike hZ.alike A.2.1) A.2.2 (inb S hi hj hn) (by rw [hi, H i hn, hv]) (g := mkF m pc Ls (.int j :: .ref a :: rest)) rfl rfl hd _ k
theorem ldB (X : Stand p l e R s m args below meth c T locs cells slots) (hx : p.tables.exec = Jvm.exec) (hZ : Z.Warmed39 s.vm) (eT : T.heap = h) (V : LA Z h a .byte n f) {x : Int32} (hj : ¬ j < 0) (hi : j.toNatClampNeg = i) (hn : i < n) (hv : f i = .int x) (hd : decode c.code pc = .ok (.baload, 1)) :
    ∀ t, Steps p.tables e below (T.setTop (mkF m (pc + 1) Ls (.int x :: rest))) t → Steps p.tables e below (T.setTop (mkF m pc Ls (.int j :: .ref a :: rest))) t := fun t k => by
  obtain ⟨cl, A, S, -, H⟩ := V
  exact X.baloadBytes hx (by rw [eT]; exact A.1) (State.isArrayOf_alike hZ.alike A.2.1) A.2.2 (inb S hi hj hn) (by rw [hi, H i hn, hv]) (g := mkF m pc Ls (.int j :: .ref a :: rest)) rfl rfl hd _ k
theorem lenA (X : Stand p l e R s m args below meth c T locs cells slots) (hx : p.tables.exec = Jvm.exec) (hZ : Z.Warmed39 s.vm) (eT : T.heap = h) {ty : FieldType} (V : LA Z h a ty n f) (hd : decode c.code pc = .ok (.arraylength, 1)) :
    ∀ t, Steps p.tables e below (T.setTop (mkF m (pc + 1) Ls (.int (Int32.ofNat n) :: rest))) t → Steps p.tables e below (T.setTop (mkF m pc Ls (.ref a :: rest))) t := fun t k => by
  obtain ⟨cl, A, S, -, H⟩ := V
  refine X.arraylength hx (by rw [eT]; exact A.1) (State.isArrayOf_alike hZ.alike A.2.1) (g := mkF m pc Ls (.ref a :: rest)) rfl rfl hd _ ?_
  rw [S]; exact k
theorem stoJ (X : Stand p l e R s m args below meth c T locs cells slots) (hx : p.tables.exec = Jvm.exec) (hZ : Z.Warmed39 s.vm) (eT : T.heap = h) (V : LA Z h a .long n f) {x : Int64} (hj : ¬ j < 0) (hi : j.toNatClampNeg = i) (hn : i < n) (hd : decode c.code pc = .ok (.lastore, 1)) :
    ∃ T' h', Stand p l e R s m args below meth c T' (locs ++ [⟨a, i⟩]) cells slots ∧ T'.heap = h' ∧ Wr h h' a i (.long x) ∧ ∀ t, Steps p.tables e below (T'.setTop (mkF m (pc + 1) Ls rest)) t → Steps p.tables e below (T.setTop (mkF m pc Ls (.long x :: .int j :: .ref a :: rest))) t := by
  obtain ⟨cl, A, S, -, H⟩ := V
  obtain ⟨T', h', X', e', W, st⟩ := stJ X hx hZ eT A (j := j) (x := x) (inb S hi hj hn) (g := mkF m pc Ls (.long x :: .int j :: .ref a :: rest)) rfl rfl hd
  subst hi
  exact ⟨T', h', X', e', W, st⟩
theorem stoI (X : Stand p l e R s m args below meth c T locs cells slots) (hx : p.tables.exec = Jvm.exec) (hZ : Z.Warmed39 s.vm) (eT : T.heap = h) (V : LA Z h a .int n f) {x : Int32} (hj : ¬ j < 0) (hi : j.toNatClampNeg = i) (hn : i < n) (hd : decode c.code pc = .ok (.iastore, 1)) :
    ∃ T' h', Stand p l e R s m args below meth c T' (locs ++ [⟨a, i⟩]) cells slots ∧ T'.heap = h' ∧ Wr h h' a i (.int x) ∧ ∀ t, Steps p.tables e below (T'.setTop (mkF m (pc + 1) Ls rest)) t → Steps p.tables e below (T.setTop (mkF m pc Ls (.int x :: .int j :: .ref a :: rest))) t := by
  obtain ⟨cl, A, S, -, H⟩ := V
  obtain ⟨T', h', X', e', W, st⟩ := stI X hx hZ eT A (j := j) (x := x) (inb S hi hj hn) (g := mkF m pc Ls (.int x :: .int j :: .ref a :: rest)) rfl rfl hd
  subst hi
  exact ⟨T', h', X', e', W, st⟩
theorem stoB (X : Stand p l e R s m args below meth c T locs cells slots) (hx : p.tables.exec = Jvm.exec) (hZ : Z.Warmed39 s.vm) (eT : T.heap = h) (V : LA Z h a .byte n f) {x : Int32} (hj : ¬ j < 0) (hi : j.toNatClampNeg = i) (hn : i < n) (hd : decode c.code pc = .ok (.bastore, 1)) :
    ∃ T' h', Stand p l e R s m args below meth c T' (locs ++ [⟨a, i⟩]) cells slots ∧ T'.heap = h' ∧ Wr h h' a i (.int x.toInt8.toInt32) ∧ ∀ t, Steps p.tables e below (T'.setTop (mkF m (pc + 1) Ls rest)) t → Steps p.tables e below (T.setTop (mkF m pc Ls (.int x :: .int j :: .ref a :: rest))) t := by
  obtain ⟨cl, A, S, -, H⟩ := V
  obtain ⟨T', h', X', e', W, st⟩ := stB X hx hZ eT A (j := j) (x := x) (inb S hi hj hn) (g := mkF m pc Ls (.int x :: .int j :: .ref a :: rest)) rfl rfl hd
  subst hi
  exact ⟨T', h', X', e', W, st⟩
theorem mkA (X : Stand p l e R s m args below meth c T locs cells slots) (hx : p.tables.exec = Jvm.exec) (hZ : Z.Warmed39 s.vm) {aty : ArrayType} (w : (Cond.arrayClass (newarray.typeOf aty)).before a0 Z = true) (eT : T.heap = h) {z : Int32} (hz : ¬ z < 0) (hn : z.toNatClampNeg = n)
    (hb : n * 8 ≤ 536870912) (hc : cells + 1 ≤ R.cells) (hl : slots + n ≤ R.slots) (hd : decode c.code pc = .ok (.newarray aty, 2)) :
    ∃ T' h' b, Stand p l e R s m args below meth c T' locs (cells + 1) (slots + n) ∧ T'.heap = h' ∧ Ext h h' ∧ b = h.size ∧ LA Z h' b (newarray.typeOf aty) n (fun _ => defaultValue (newarray.typeOf aty)) ∧
      ∀ t, Steps p.tables e below (T'.setTop (mkF m (pc + 2) Ls (.ref b :: rest))) t → Steps p.tables e below (T.setTop (mkF m pc Ls (.int z :: rest))) t := by
  obtain ⟨T', h', k, X', e', E, A, st⟩ := newP X hx hZ w eT (g := mkF m pc Ls (.int z :: rest)) rfl hd rfl hz (cap := n) (Nat.le_of_eq hn) hb hc hl
  exact ⟨T', h', _, X', e', E, rfl, LA.new A hz hn, st⟩
end Steps
section Calls
variable {own : String} {index : Nat} {y : MethodName} {bytes : ByteArray} {maxL : Nat} {ret : Option FieldType} {rm : Room} {W pc : Nat} {Ls : Array Slot} {Qc : Option Value → Heap → List Loc → Prop} {ps : List FieldType} {r : Option FieldType}
theorem callT (X : Stand p l e R s m args below meth c T locs cells slots) (hx : p.tables.exec = Jvm.exec) (hZ : Z.Warmed39 s.vm) (hown : s.vm.findClass own = some m.cls) (eT : T.heap = h) (argsL rest : List Value)
    (w1 : (Cond.methodLink own index y).before a0 Z = true) (w2 : (Cond.static y).before a0 Z = true) (w3 : (Cond.initialized y.cls).before a0 Z = true) (w4 : (Cond.code y bytes maxL ret).before a0 Z = true)
    (hy : y.cls ≠ "java/lang/invoke/MethodHandle" ∧ y.cls ≠ "java/lang/invoke/VarHandle")
    (hM : MetFree l y (head1 [Cond.code y bytes maxL ret] rm) (fun a U => a = argsL.toArray ∧ Z.Warmed39 U.vm ∧ U.heap = h) (fun _ _ _ _ _ => True) (fun _ U o U' => ∃ v L, o = .returned v ∧ Qc v U'.heap L ∧ FrameEnd U o U' L rm.cells rm.slots))
    (hpd : parseMethodDescriptor y.desc = some ⟨ps, r⟩) (hll : argsL.length = ps.length) (hsize : Ls.size = c.maxLocals) (hW : 2 * 0 + (rest.map fun v => v.category).sum ≤ W)
    (hf : rm.frames + 1 ≤ R.frames) (hl : W + (maxL + 11) + rm.locals ≤ R.locals) (hc : cells + rm.cells ≤ R.cells) (hs : slots + rm.slots ≤ R.slots) (hd : decode c.code pc = .ok (.invokestatic index, 3)) :
    ∃ v T' L, Stand p l e R s m args below meth c T' (locs ++ L) (cells + rm.cells) (slots + rm.slots) ∧ Qc v T'.heap L ∧
      ∀ t, Steps p.tables e below (T'.setTop (mkF m (pc + 3) Ls (v.toList ++ rest))) t → Steps p.tables e below (T.setTop (mkF m pc Ls (argsL.reverse ++ rest))) t := by
  obtain ⟨v, vm1, ⟨T', L', k', n'⟩, -, X', ⟨L, hQ, e1, e2, e3⟩, st⟩ := Jvm.LawKit.callS X hx (y := y) hown (mvT hZ w1) (mvT hZ w2) (mvT hZ w3) (mvT hZ w4) hy (backOf (W := W) hM hZ w4 w3 hf hl) (g := mkF m pc Ls (argsL.reverse ++ rest)) rfl hsize (argsL := argsL) (rest := rest) (lenOf hpd hll) rfl hW hd (fun _ _ => ⟨rfl, eT, hc, hs⟩)
  dsimp only [Pt.U, Pt.locs, Pt.cells, Pt.slots] at X' e1 e2 e3 st hQ
  subst e1 e2 e3
  exact ⟨v, T', L, X', hQ, st⟩
theorem callI (X : Stand p l e R s m args below meth c T locs cells slots) (hx : p.tables.exec = Jvm.exec) (hZ : Z.Warmed39 s.vm) (hown : s.vm.findClass own = some m.cls) (eT : T.heap = h) (a : Addr) (argsL rest : List Value)
    (w1 : (Cond.methodLink own index y).before a0 Z = true) (w2 : (Cond.instanceMethod y).before a0 Z = true) (w3 : (Cond.initialized y.cls).before a0 Z = true) (w4 : (Cond.code y bytes maxL none).before a0 Z = true) (hy1 : y.name = "<init>")
    (hy : y.cls ≠ "java/lang/invoke/MethodHandle" ∧ y.cls ≠ "java/lang/invoke/VarHandle")
    (hM : MetFree l y (head1 [Cond.code y bytes maxL none] rm) (fun a' U => a' = (.ref a :: argsL).toArray ∧ Z.Warmed39 U.vm ∧ U.heap = h) (fun _ _ _ _ _ => True) (fun _ U o U' => ∃ v L, o = .returned v ∧ Qc v U'.heap L ∧ FrameEnd U o U' L rm.cells rm.slots))
    (hpd : parseMethodDescriptor y.desc = some ⟨ps, r⟩) (hll : argsL.length = ps.length) (hsize : Ls.size = c.maxLocals) (hW : 2 * 0 + (rest.map fun v => v.category).sum ≤ W)
    (hf : rm.frames + 1 ≤ R.frames) (hl : W + (maxL + 11) + rm.locals ≤ R.locals) (hc : cells + rm.cells ≤ R.cells) (hs : slots + rm.slots ≤ R.slots) (hd : decode c.code pc = .ok (.invokespecial index, 3)) :
    ∃ v T' L, Stand p l e R s m args below meth c T' (locs ++ L) (cells + rm.cells) (slots + rm.slots) ∧ Qc v T'.heap L ∧
      ∀ t, Steps p.tables e below (T'.setTop (mkF m (pc + 3) Ls (v.toList ++ rest))) t → Steps p.tables e below (T.setTop (mkF m pc Ls (argsL.reverse ++ .ref a :: rest))) t := by
  obtain ⟨v, vm1, ⟨T', L', k', n'⟩, -, X', ⟨L, hQ, e1, e2, e3⟩, st⟩ := X.specialBack hx (y := y) hy1 hown (mvT hZ w1) (mvT hZ w2) (mvT hZ w4) hy (backOf (W := W) hM hZ w4 w3 hf hl) (g := mkF m pc Ls (argsL.reverse ++ .ref a :: rest)) rfl hsize (Steps.refl _) (a := a) (argsL := argsL) (rest := rest) (lenOf hpd hll) rfl hW hd (fun _ _ => ⟨rfl, eT, hc, hs⟩)
  dsimp only [Pt.U, Pt.locs, Pt.cells, Pt.slots] at X' e1 e2 e3 st hQ
  subst e1 e2 e3
  exact ⟨v, T', L, X', hQ, fun t k => st.trans k⟩
theorem callV (X : Stand p l e R s m args below meth c T locs cells slots) (hx : p.tables.exec = Jvm.exec) (hZ : Z.Warmed39 s.vm) (hown : s.vm.findClass own = some m.cls) (eT : T.heap = h) (a : Addr) (argsL rest : List Value) {C : String} (E : Exa Z h a C)
    (w1 : (Cond.methodLink own index y).before a0 Z = true) (w2 : (Cond.declares y).before a0 Z = true) (w5 : (Cond.selects C y y).before a0 Z = true) (w6 : (Cond.instanceMethod y).before a0 Z = true) (w3 : (Cond.initialized y.cls).before a0 Z = true) (w4 : (Cond.code y bytes maxL ret).before a0 Z = true)
    (hy : y.cls ≠ "java/lang/invoke/MethodHandle" ∧ y.cls ≠ "java/lang/invoke/VarHandle")
    (hM : MetFree l y (head1 [Cond.code y bytes maxL ret] rm) (fun a' U => a' = (.ref a :: argsL).toArray ∧ Z.Warmed39 U.vm ∧ U.heap = h) (fun _ _ _ _ _ => True) (fun _ U o U' => ∃ v L, o = .returned v ∧ Qc v U'.heap L ∧ FrameEnd U o U' L rm.cells rm.slots))
    (hpd : parseMethodDescriptor y.desc = some ⟨ps, r⟩) (hll : argsL.length = ps.length) (hsize : Ls.size = c.maxLocals) (hW : 2 * 0 + (rest.map fun v => v.category).sum ≤ W)
    (hf : rm.frames + 1 ≤ R.frames) (hl : W + (maxL + 11) + rm.locals ≤ R.locals) (hc : cells + rm.cells ≤ R.cells) (hs : slots + rm.slots ≤ R.slots) (hd : decode c.code pc = .ok (.invokevirtual index, 3)) :
    ∃ v T' L, Stand p l e R s m args below meth c T' (locs ++ L) (cells + rm.cells) (slots + rm.slots) ∧ Qc v T'.heap L ∧
      ∀ t, Steps p.tables e below (T'.setTop (mkF m (pc + 3) Ls (v.toList ++ rest))) t → Steps p.tables e below (T.setTop (mkF m pc Ls (argsL.reverse ++ .ref a :: rest))) t := by
  obtain ⟨cq, kq, qa, qb, qc⟩ := isOf hZ eT E
  obtain ⟨v, vm1, ⟨T', L', k', n'⟩, -, X', ⟨L, hQ, e1, e2, e3⟩, st⟩ := X.virtualBack hx (y := y) (z := y) hown (mvT hZ w1) (mvT hZ w2) (notFace_of_selects (args := #[]) (mvT hZ w5)) (mvT hZ w5) (mvT hZ w6) hy (backOf (W := W) hM hZ w4 w3 hf hl) qa qc (g := mkF m pc Ls (argsL.reverse ++ .ref a :: rest)) rfl hsize (Steps.refl _) (argsL := argsL) (rest := rest) (lenOf hpd hll) rfl hW hd (fun _ _ => ⟨rfl, eT, hc, hs⟩)
  dsimp only [Pt.U, Pt.locs, Pt.cells, Pt.slots] at X' e1 e2 e3 st hQ
  subst e1 e2 e3
  exact ⟨v, T', L, X', hQ, fun t k => st.trans k⟩
end Calls
end OwnKit
-- own numbers: small naturals as ints
theorem own_ofNat_toInt {i : Nat} (h : i < 2 ^ 31) : (Int32.ofNat i).toInt = i := Int32.toInt_ofNat_of_lt h
theorem own_nc {i : Nat} (h : i < 2 ^ 31) : (Int32.ofNat i).toNatClampNeg = i := by
  show (Int32.ofNat i).toInt.toNat = i
  rw [own_ofNat_toInt h]; rfl
theorem own_nn {i : Nat} (h : i < 2 ^ 31) : ¬ Int32.ofNat i < 0 := by
  rw [Int32.lt_iff_toInt_lt, own_ofNat_toInt h]
  show ¬ (i : Int) < 0
  omega
theorem own_lt {a b : Nat} (ha : a < 2 ^ 31) (hb : b < 2 ^ 31) : Int32.ofNat a < Int32.ofNat b ↔ a < b := by
  rw [Int32.lt_iff_toInt_lt, own_ofNat_toInt ha, own_ofNat_toInt hb]
  omega
theorem own_eqn {a b : Nat} (ha : a < 2 ^ 31) (hb : b < 2 ^ 31) : Int32.ofNat a = Int32.ofNat b ↔ a = b := by
  rw [← Int32.toInt_inj, own_ofNat_toInt ha, own_ofNat_toInt hb]
  omega
theorem own_add (a b : Nat) : Int32.ofNat a + Int32.ofNat b = Int32.ofNat (a + b) := (Int32.ofNat_add a b).symm
theorem own_sub {a b : Nat} (h : b ≤ a) : Int32.ofNat a - Int32.ofNat b = Int32.ofNat (a - b) := by
  have e : Int32.ofNat (a - b) + Int32.ofNat b = Int32.ofNat a := by rw [own_add, Nat.sub_add_cancel h]
  rw [← e, Int32.add_sub_cancel]
theorem own_ofBits (x : Int32) : x = Int32.ofNat x.toBitVec.toNat := by
  apply Int32.toBitVec_inj.mp
  show _ = BitVec.ofNat 32 _
  simp
theorem own_andN (x : Int32) (m : Nat) (hm : m < 2 ^ 32) : ∃ n : Nat, n ≤ m ∧ n = x.toBitVec.toNat &&& m ∧ (x &&& Int32.ofNat m) = Int32.ofNat n := by
  refine ⟨(x &&& Int32.ofNat m).toBitVec.toNat, ?_, ?_, own_ofBits _⟩
  · rw [Int32.toBitVec_and, BitVec.toNat_and]
    refine Nat.le_trans Nat.and_le_right ?_
    show (BitVec.ofNat 32 m).toNat ≤ m
    rw [BitVec.toNat_ofNat]; exact Nat.mod_le _ _
  · rw [Int32.toBitVec_and, BitVec.toNat_and]
    congr 1
    show (BitVec.ofNat 32 m).toNat = m
    rw [BitVec.toNat_ofNat]; exact Nat.mod_eq_of_lt hm
theorem own_and (x : Int32) (m : Nat) (hm : m < 2 ^ 32) : ∃ n : Nat, n ≤ m ∧ (x &&& Int32.ofNat m) = Int32.ofNat n := by
  obtain ⟨n, h1, -, h2⟩ := own_andN x m hm; exact ⟨n, h1, h2⟩
theorem own_rem {n d : Nat} (hn : n < 2 ^ 31) (hd : d < 2 ^ 31) : Int32.ofNat n % Int32.ofNat d = Int32.ofNat (n % d) := by
  apply Int32.toInt_inj.mp
  have h1 : n % d ≤ n := Nat.mod_le _ _
  rw [Int32.toInt_mod, own_ofNat_toInt hn, own_ofNat_toInt hd, own_ofNat_toInt (by omega), Int.ofNat_tmod]
theorem own_div {n d : Nat} (hn : n < 2 ^ 31) (hd : d < 2 ^ 31) : Int32.ofNat n / Int32.ofNat d = Int32.ofNat (n / d) := by
  apply Int32.toInt_inj.mp
  have h1 : n / d ≤ n := Nat.div_le_self _ _
  rw [Int32.toInt_div, own_ofNat_toInt hn, own_ofNat_toInt hd, own_ofNat_toInt (by omega), ← Int.ofNat_tdiv]
  generalize n / d = q at h1
  refine Int.bmod_eq_of_le ?_ ?_ <;> omega
theorem own_maskrem (k : Int32) (d : Nat) (h0 : 0 < d) (hd : d < 2 ^ 31) : ∃ i : Nat, i < d ∧ (k &&& (2147483647 : Int32)) % Int32.ofNat d = Int32.ofNat i := by
  obtain ⟨n, h1, h2⟩ := own_and k 2147483647 (by decide)
  refine ⟨n % d, Nat.mod_lt _ h0, ?_⟩
  rw [show (2147483647 : Int32) = Int32.ofNat 2147483647 from rfl, h2, own_rem (by omega) hd]
theorem own_ints (vs : List Int32) (i : Nat) : ∃ x, gl (vs.map Value.int) (.int (0 : Int32)) i = .int x := by
  simp only [gl, List.getD_eq_getElem?_getD, List.getElem?_map]
  cases vs[i]? with
  | none => exact ⟨_, rfl⟩
  | some y => exact ⟨_, rfl⟩

-- own numbers: naturals as longs
theorem o64_bits (x : Int64) : x = Int64.ofNat x.toBitVec.toNat := by
  apply Int64.toBitVec_inj.mp
  show _ = BitVec.ofNat 64 _
  simp
theorem o64_toNat {n : Nat} (h : n < 2 ^ 64) : (Int64.ofNat n).toBitVec.toNat = n := by
  show (BitVec.ofNat 64 n).toNat = n
  rw [BitVec.toNat_ofNat]; exact Nat.mod_eq_of_lt h
theorem o64_eq_of {x : Int64} {n : Nat} (h : x.toBitVec.toNat = n) : x = Int64.ofNat n := by subst h; exact o64_bits x
theorem o64_add (a b : Nat) : Int64.ofNat a + Int64.ofNat b = Int64.ofNat (a + b) := (Int64.ofNat_add a b).symm
theorem o64_mul (a b : Nat) : Int64.ofNat a * Int64.ofNat b = Int64.ofNat (a * b) := (Int64.ofNat_mul a b).symm
theorem o64_sub {a b : Nat} (h : b ≤ a) : Int64.ofNat a - Int64.ofNat b = Int64.ofNat (a - b) := by
  have e : Int64.ofNat (a - b) + Int64.ofNat b = Int64.ofNat a := by rw [o64_add, Nat.sub_add_cancel h]
  rw [← e, Int64.add_sub_cancel]
theorem o64_and {a m : Nat} (ha : a < 2 ^ 64) (hm : m < 2 ^ 64) : Int64.ofNat a &&& Int64.ofNat m = Int64.ofNat (a &&& m) := by
  apply o64_eq_of
  rw [Int64.toBitVec_and, BitVec.toNat_and, o64_toNat ha, o64_toNat hm]
theorem o64_toInt {n : Nat} (h : n < 2 ^ 63) : (Int64.ofNat n).toInt = n := Int64.toInt_ofNat_of_lt h
theorem o64_lt {a b : Nat} (ha : a < 2 ^ 63) (hb : b < 2 ^ 63) : Int64.ofNat a < Int64.ofNat b ↔ a < b := by
  rw [Int64.lt_iff_toInt_lt, o64_toInt ha, o64_toInt hb]
  omega
theorem o64_rem {n d : Nat} (hn : n < 2 ^ 63) (hd : d < 2 ^ 63) : Int64.ofNat n % Int64.ofNat d = Int64.ofNat (n % d) := by
  apply Int64.toInt_inj.mp
  have h1 : n % d ≤ n := Nat.mod_le _ _
  rw [Int64.toInt_mod, o64_toInt hn, o64_toInt hd, o64_toInt (by omega), Int.ofNat_tmod]
theorem o64_div {n d : Nat} (hn : n < 2 ^ 63) (hd : d < 2 ^ 63) : Int64.ofNat n / Int64.ofNat d = Int64.ofNat (n / d) := by
  apply Int64.toInt_inj.mp
  have h1 : n / d ≤ n := Nat.div_le_self _ _
  rw [Int64.toInt_div, o64_toInt hn, o64_toInt hd, o64_toInt (by omega), ← Int.ofNat_tdiv]
  generalize n / d = q at h1
  refine Int.bmod_eq_of_le ?_ ?_ <;> omega
theorem o64_sh (x : Int64) (k : Int32) (j : Nat) (hk : (k &&& 0x3f).toInt64.toUInt64.toBitVec.toNat = j) (hj : j < 64) : ((x.toUInt64 >>> (k &&& 0x3f).toInt64.toUInt64).toInt64).toBitVec = x.toBitVec >>> j := by
  subst hk
  show x.toUInt64.toBitVec >>> (((k &&& 0x3f).toInt64.toUInt64).toBitVec % 64#64).toNat = _
  congr 1
  rw [BitVec.toNat_umod]
  exact Nat.mod_eq_of_lt hj
theorem o64_ushr {a : Nat} (ha : a < 2 ^ 64) (k : Int32) (j : Nat) (hk : (k &&& 0x3f).toInt64.toUInt64.toBitVec.toNat = j) (hj : j < 64) : ((Int64.ofNat a).toUInt64 >>> (k &&& 0x3f).toInt64.toUInt64).toInt64 = Int64.ofNat (a / 2 ^ j) := by
  apply o64_eq_of
  rw [o64_sh _ k j hk hj, BitVec.toNat_ushiftRight, o64_toNat ha, Nat.shiftRight_eq_div_pow]
theorem o64_ge0 {n : Nat} (h : n < 2 ^ 63) : ¬ lcmpW (Int64.ofNat n) (0 : Int64) < 0 := fun q =>
  absurd ((o64_lt h (by decide : (0 : Nat) < 2 ^ 63)).mp ((lw_lt _ _).mp q)) (Nat.not_lt_zero _)
theorem o64_le {a b : Nat} (ha : a < 2 ^ 63) (hb : b < 2 ^ 63) (h : a ≤ b) : ¬ 0 < lcmpW (Int64.ofNat a) (Int64.ofNat b) := fun q =>
  absurd ((o64_lt hb ha).mp ((lw_gt _ _).mp q)) (Nat.not_lt.mpr h)
theorem o64_refl {a b : Nat} (h : a = b) : lcmpW (Int64.ofNat a) (Int64.ofNat b) = 0 := (lw_eq _ _).mpr (h ▸ rfl)
theorem o64_pos (x : Int64) : ∃ n : Nat, n < 2 ^ 63 ∧ x &&& (9223372036854775807 : Int64) = Int64.ofNat n := by
  refine ⟨(x &&& (9223372036854775807 : Int64)).toBitVec.toNat, ?_, o64_bits _⟩
  rw [Int64.toBitVec_and, BitVec.toNat_and]
  exact Nat.lt_of_le_of_lt Nat.and_le_right (by decide)
theorem own_lrem_eq (x y : Int64) : x - x / y * y = x % y := by
  apply Int64.toInt_inj.mp
  rw [Int64.toInt_sub, Int64.toInt_mul, Int64.toInt_div, Int64.toInt_mod]
  have h1 : (x % y).toInt.bmod (2 ^ 64) = (x % y).toInt := Int.bmod_eq_of_le (by have := (x % y).le_toInt; omega) (by have := (x % y).toInt_lt; omega)
  rw [Int64.toInt_mod] at h1
  rw [← h1]
  have h2 : x.toInt.tmod y.toInt = x.toInt - x.toInt.tdiv y.toInt * y.toInt := by rw [Int.tmod_def, Int.mul_comm]
  rw [h2]
  simp
theorem lremM {tb : Tables} [Ours tb] {e : Env} {below : List Frame} {T target : State} {m : MethodId} {c : Code} {g : JFrame} (h : At T m c below) (hx : tb.exec = Jvm.exec) (hg : g.method = m) {x y : Int64} {rest : List Value} (hd : decode c.code g.pc = .ok (.lrem, 1)) (hs : g.stack = .long y :: .long x :: rest) (hy : y ≠ 0)
    (hr : Steps tb e below (T.setTop { g with pc := g.pc + 1, stack := .long (x % y) :: rest }) target) : Steps tb e below (T.setTop g) target :=
  XS.lrem h hx hg hd hs hy (by rw [own_lrem_eq]; exact hr)

theorem o32_toNat {n : Nat} (h : n < 2 ^ 32) : (Int32.ofNat n).toBitVec.toNat = n := by
  show (BitVec.ofNat 32 n).toNat = n
  rw [BitVec.toNat_ofNat]; exact Nat.mod_eq_of_lt h
theorem o32_eq_of {x : Int32} {n : Nat} (h : x.toBitVec.toNat = n) : x = Int32.ofNat n := by subst h; exact own_ofBits x
theorem o32_sh (x : Int32) (k : Int32) (j : Nat) (hk : (k &&& 31).toUInt32.toBitVec.toNat = j) (hj : j < 32) : ((x.toUInt32 >>> (k &&& 31).toUInt32).toInt32).toBitVec = x.toBitVec >>> j := by
  subst hk
  show x.toUInt32.toBitVec >>> (((k &&& 31).toUInt32).toBitVec % 32#32).toNat = _
  congr 1
  rw [BitVec.toNat_umod]
  exact Nat.mod_eq_of_lt hj
theorem o32_ushr {a : Nat} (ha : a < 2 ^ 32) (k : Int32) (j : Nat) (hk : (k &&& 31).toUInt32.toBitVec.toNat = j) (hj : j < 32) : ((Int32.ofNat a).toUInt32 >>> (k &&& 31).toUInt32).toInt32 = Int32.ofNat (a / 2 ^ j) := by
  apply o32_eq_of
  rw [o32_sh _ k j hk hj, BitVec.toNat_ushiftRight, o32_toNat ha, Nat.shiftRight_eq_div_pow]
theorem own_subc {c : Nat} (d : Nat) (h : d ≤ c) : Int32.ofNat c + -(Int32.ofNat d) = Int32.ofNat (c - d) := by
  rw [← Int32.sub_eq_add_neg, own_sub h]
theorem own_finB {n B : Nat} (h : 2 ^ B ≤ n) (hn : n < 2147483648) : B < 31 := (Nat.pow_lt_pow_iff_right (a := 2) (by decide)).mp (Nat.lt_of_le_of_lt h hn)
theorem own_dd {n m j k : Nat} (h : n / 2 ^ j = m) : n / 2 ^ (j + k) = m / 2 ^ k := by
  rw [Nat.pow_add, ← Nat.div_div_eq_div_mul, h]
theorem own_fin {n m j : Nat} (h : n / 2 ^ j = m) (h0 : 0 < m) (h4 : m < 4) : 2 ^ (j + m / 2) ≤ n ∧ n < 2 ^ (j + m / 2 + 1) := by
  have hp : 0 < 2 ^ j := Nat.two_pow_pos j
  have h1 : 2 ^ j * m ≤ n := by rw [← h]; exact Nat.mul_div_le n (2 ^ j)
  have h2 : n < 2 ^ j * (m + 1) := by rw [← h]; exact Nat.lt_mul_div_succ n hp
  have hm : m = 1 ∨ m = 2 ∨ m = 3 := by omega
  rcases hm with rfl | rfl | rfl
  · simp only [Nat.reduceDiv, Nat.add_zero, Nat.pow_succ] at *; omega
  · simp only [Nat.reduceDiv, Nat.pow_succ] at *; omega
  · simp only [Nat.reduceDiv, Nat.pow_succ] at *; omega
theorem own_div1 {n B : Nat} (h1 : 2 ^ B ≤ n) (h2 : n < 2 ^ (B + 1)) : n / 2 ^ B = 1 := by
  have hp : 0 < 2 ^ B := Nat.two_pow_pos B
  rw [Nat.pow_succ] at h2
  exact Nat.div_eq_of_lt_le (by omega) (by omega)
theorem o64_toInt32 (n : Nat) : (Int64.ofNat n).toInt32 = Int32.ofNat n := by
  apply Int32.toBitVec_inj.mp
  show BitVec.signExtend 32 (BitVec.ofNat 64 n) = BitVec.ofNat 32 n
  rw [BitVec.signExtend_eq_setWidth_of_le _ (by decide)]
  apply BitVec.eq_of_toNat_eq
  simp only [BitVec.toNat_setWidth, BitVec.toNat_ofNat]
  omega
theorem own_hi {n : Nat} (h : n ≤ 2147483648) : (((Int64.ofNat n).toUInt64 >>> ((32 : Int32) &&& 0x3f).toInt64.toUInt64).toInt64).toInt32 = (0 : Int32) := by
  rw [o64_ushr (by omega) 32 32 (by decide) (by decide), o64_toInt32, Nat.div_eq_of_lt (by omega)]
  rfl
theorem own_top {c : Nat} (h : c < 2147483648) : (Int32.ofNat c).toInt64 + (1 : Int64) = Int64.ofNat (c + 1) := by
  rw [← o64_add]
  congr 1
  apply Int64.toInt_inj.mp
  rw [Int32.toInt_toInt64, own_ofNat_toInt h, o64_toInt (by omega)]
theorem o_shamt : ∀ j, j < 64 → (Int32.ofNat j &&& 0x3f).toInt64.toUInt64.toBitVec.toNat = j := by decide +kernel
theorem o_one : ∀ j, j < 64 → (1 : Int64) <<< (Int32.ofNat j &&& 0x3f).toInt64 = Int64.ofNat (2 ^ j) := by decide +kernel

theorem d6_0 : decode jdk_33_method_47_code 0 = .ok (.iload_n 0, 1) := by decide +kernel
theorem d6_1 : decode jdk_33_method_47_code 1 = .ok (.ifCond .gt 14, 3) := by decide +kernel
theorem d6_4 : decode jdk_33_method_47_code 4 = .ok (.iload_n 0, 1) := by decide +kernel
theorem d6_5 : decode jdk_33_method_47_code 5 = .ok (.ifCond .ne 8, 3) := by decide +kernel
theorem d6_13 : decode jdk_33_method_47_code 13 = .ok (.iconst 0, 1) := by decide +kernel
theorem d6_14 : decode jdk_33_method_47_code 14 = .ok (.ireturn, 1) := by decide +kernel
theorem d6_15 : decode jdk_33_method_47_code 15 = .ok (.bipush 31, 2) := by decide +kernel
theorem d6_17 : decode jdk_33_method_47_code 17 = .ok (.istore_n 1, 1) := by decide +kernel
theorem d6_18 : decode jdk_33_method_47_code 18 = .ok (.iload_n 0, 1) := by decide +kernel
theorem d6_19 : decode jdk_33_method_47_code 19 = .ok (.ldc_w 264, 3) := by decide +kernel
theorem d6_22 : decode jdk_33_method_47_code 22 = .ok (.if_icmp .lt 11, 3) := by decide +kernel
theorem d6_25 : decode jdk_33_method_47_code 25 = .ok (.iinc 1 (-16), 3) := by decide +kernel
theorem d6_28 : decode jdk_33_method_47_code 28 = .ok (.iload_n 0, 1) := by decide +kernel
theorem d6_29 : decode jdk_33_method_47_code 29 = .ok (.bipush 16, 2) := by decide +kernel
theorem d6_31 : decode jdk_33_method_47_code 31 = .ok (.iushr, 1) := by decide +kernel
theorem d6_32 : decode jdk_33_method_47_code 32 = .ok (.istore_n 0, 1) := by decide +kernel
theorem d6_33 : decode jdk_33_method_47_code 33 = .ok (.iload_n 0, 1) := by decide +kernel
theorem d6_34 : decode jdk_33_method_47_code 34 = .ok (.sipush 256, 3) := by decide +kernel
theorem d6_37 : decode jdk_33_method_47_code 37 = .ok (.if_icmp .lt 11, 3) := by decide +kernel
theorem d6_40 : decode jdk_33_method_47_code 40 = .ok (.iinc 1 (-8), 3) := by decide +kernel
theorem d6_43 : decode jdk_33_method_47_code 43 = .ok (.iload_n 0, 1) := by decide +kernel
theorem d6_44 : decode jdk_33_method_47_code 44 = .ok (.bipush 8, 2) := by decide +kernel
theorem d6_46 : decode jdk_33_method_47_code 46 = .ok (.iushr, 1) := by decide +kernel
theorem d6_47 : decode jdk_33_method_47_code 47 = .ok (.istore_n 0, 1) := by decide +kernel
theorem d6_48 : decode jdk_33_method_47_code 48 = .ok (.iload_n 0, 1) := by decide +kernel
theorem d6_49 : decode jdk_33_method_47_code 49 = .ok (.bipush 16, 2) := by decide +kernel
theorem d6_51 : decode jdk_33_method_47_code 51 = .ok (.if_icmp .lt 10, 3) := by decide +kernel
theorem d6_54 : decode jdk_33_method_47_code 54 = .ok (.iinc 1 (-4), 3) := by decide +kernel
theorem d6_57 : decode jdk_33_method_47_code 57 = .ok (.iload_n 0, 1) := by decide +kernel
theorem d6_58 : decode jdk_33_method_47_code 58 = .ok (.iconst 4, 1) := by decide +kernel
theorem d6_59 : decode jdk_33_method_47_code 59 = .ok (.iushr, 1) := by decide +kernel
theorem d6_60 : decode jdk_33_method_47_code 60 = .ok (.istore_n 0, 1) := by decide +kernel
theorem d6_61 : decode jdk_33_method_47_code 61 = .ok (.iload_n 0, 1) := by decide +kernel
theorem d6_62 : decode jdk_33_method_47_code 62 = .ok (.iconst 4, 1) := by decide +kernel
theorem d6_63 : decode jdk_33_method_47_code 63 = .ok (.if_icmp .lt 10, 3) := by decide +kernel
theorem d6_66 : decode jdk_33_method_47_code 66 = .ok (.iinc 1 (-2), 3) := by decide +kernel
theorem d6_69 : decode jdk_33_method_47_code 69 = .ok (.iload_n 0, 1) := by decide +kernel
theorem d6_70 : decode jdk_33_method_47_code 70 = .ok (.iconst 2, 1) := by decide +kernel
theorem d6_71 : decode jdk_33_method_47_code 71 = .ok (.iushr, 1) := by decide +kernel
theorem d6_72 : decode jdk_33_method_47_code 72 = .ok (.istore_n 0, 1) := by decide +kernel
theorem d6_73 : decode jdk_33_method_47_code 73 = .ok (.iload_n 1, 1) := by decide +kernel
theorem d6_74 : decode jdk_33_method_47_code 74 = .ok (.iload_n 0, 1) := by decide +kernel
theorem d6_75 : decode jdk_33_method_47_code 75 = .ok (.iconst 1, 1) := by decide +kernel
theorem d6_76 : decode jdk_33_method_47_code 76 = .ok (.iushr, 1) := by decide +kernel
theorem d6_77 : decode jdk_33_method_47_code 77 = .ok (.isub, 1) := by decide +kernel
theorem d6_78 : decode jdk_33_method_47_code 78 = .ok (.ireturn, 1) := by decide +kernel
theorem pn_java_lang_Integer : plainName "java/lang/Integer" = true := by first | (simp [plainName, overriddenIn]; done) | decide +kernel
theorem ef6 (m : MethodId) (y0 : Int32) : entryFrame m #[(.int y0)] 2 = mkF m 0 #[.val (.int y0), .unset] [] := by first | (simp [entryFrame, mkF, argsToLocals, Value.category]; done) | rfl
def Q6 (Z : State) (n : Nat) (h0 : Heap) (n0 : Nat) (v : Option Value) (h : Heap) (L : List Loc) : Prop := (∃ B : Nat, v = some (.int (Int32.ofNat (31 - B))) ∧ B ≤ 31 ∧ 2 ^ B ≤ n ∧ n < 2 ^ (B + 1)) ∧ Fr n0 L ∧ h = h0
set_option maxRecDepth 65536 in
set_option maxHeartbeats 40000000 in
theorem rm6 (l : Launch) (Z : State) (a0 : Array Value) (hw : ∀ d ∈ tables_1, d.before a0 Z = true) (ws : List Jvm.Cond) (n : Nat) (h0 : Heap) (n0 : Nat) (Z0 : n0 ≤ h0.size) (hn0 : 0 < n) (hn1 : n ≤ 2147483648) :
    MetFree l (⟨"java/lang/Integer", "numberOfLeadingZeros", "(I)I"⟩ : MethodName) (head1 (Jvm.Cond.code (⟨"java/lang/Integer", "numberOfLeadingZeros", "(I)I"⟩ : MethodName) jdk_33_method_47_code 2 (some .int) :: ws) ({ frames := 0, cells := 0, slots := 0, locals := 0 } : Room)) (fun a U => a = #[(.int (Int32.ofNat n))] ∧ Z.Warmed39 U.vm ∧ U.heap = h0) (fun _ _ _ _ _ => True) (fun _ U o U' => ∃ v L, o = .returned v ∧ Q6 Z n h0 n0 v U'.heap L ∧ FrameEnd U o U' L ({ frames := 0, cells := 0, slots := 0, locals := 0 } : Room).cells ({ frames := 0, cells := 0, slots := 0, locals := 0 } : Room).slots) := by
  refine MetFree.of_bodySF (plainFor_of_name pn_java_lang_Integer) hisR ?_
  intro p e s m args below meth c s₁ Bd hml0 hP hK
  obtain ⟨rfl, hZ, hh⟩ := hP
  have hx := Bd.exec
  have hby := Bd.bytes
  have hml : c.maxLocals = 2 := hml0
  have hown : s.vm.findClass "java/lang/Integer" = some m.cls := findClass_of_methodNamed Bd.named
  have hnm := (name_of_methodNamed Bd.named Bd.method).1
  have X0 : Stand p l e ({ frames := 0, cells := 0, slots := 0, locals := 0 } : Room) s m #[(.int (Int32.ofNat n))] below meth c s₁ [] 0 0 := Stand.of_body Bd
  have eh0 : s₁.heap = h0 := by rw [← hh, Bd.state]; rfl
  have N0 := Fr.nil n0
  refine Gq.start (Q := Q6 Z n h0 n0) (kc := ({ frames := 0, cells := 0, slots := 0, locals := 0 } : Room).cells) (ks := ({ frames := 0, cells := 0, slots := 0, locals := 0 } : Room).slots) (ef6 m (Int32.ofNat n)) ?_
  by_cases hc : n < 2147483648
  · refine Gq.go (s₁.setTop (mkF m 1 #[.val (.int (Int32.ofNat n)), .unset] [(.int (Int32.ofNat n))])) (fun tt_ kk_ => XS.iloadN X0.here hx rfl (hb hby d6_0) rfl kk_) ?_
    refine Gq.go (s₁.setTop (mkF m 15 #[.val (.int (Int32.ofNat n)), .unset] [])) (fun tt_ kk_ => XS.ifYes X0.here hx rfl (pc0 := 1) (pc' := 15) rfl (hb hby d6_1) rfl ((if0 _ _).trans (tlt ((own_lt (a := 0) (by decide) (by omega)).mpr hn0)).2.2.1) (by decide) (by decide) kk_) ?_
    refine Gq.go (s₁.setTop (mkF m 17 #[.val (.int (Int32.ofNat n)), .unset] [(.int (31 : Int32))])) (fun tt_ kk_ => XS.bipush X0.here hx rfl (hb hby d6_15) kk_) ?_
    refine Gq.go (s₁.setTop (mkF m 18 #[.val (.int (Int32.ofNat n)), .val (.int (31 : Int32))] [])) (fun tt_ kk_ => XS.istoreN X0.here hx rfl (hb hby d6_17) rfl (l' := #[.val (.int (Int32.ofNat n)), .val (.int (31 : Int32))]) rfl kk_) ?_
    rw [show (31 : Int32) = Int32.ofNat 31 from rfl]
    suffices K33 : ∀ (m33 c33 j33 : Nat), n / 2 ^ j33 = m33 → c33 + j33 = 31 → 0 < m33 → m33 < 65536 → j33 ≤ 16 → Gq p.tables e below s (Q6 Z n h0 n0) ({ frames := 0, cells := 0, slots := 0, locals := 0 } : Room).cells ({ frames := 0, cells := 0, slots := 0, locals := 0 } : Room).slots (s₁.setTop (mkF m 33 #[.val (.int (Int32.ofNat m33)), .val (.int (Int32.ofNat c33))] [])) by
      refine Gq.go (s₁.setTop (mkF m 19 #[.val (.int (Int32.ofNat n)), .val (.int (Int32.ofNat 31))] [(.int (Int32.ofNat n))])) (fun tt_ kk_ => XS.iloadN X0.here hx rfl (hb hby d6_18) rfl kk_) ?_
      refine Gq.go (s₁.setTop (mkF m 22 #[.val (.int (Int32.ofNat n)), .val (.int (Int32.ofNat 31))] [(.int (65536 : Int32)), (.int (Int32.ofNat n))])) (fun tt_ kk_ => X0.ldcwInt hx hown (mvT hZ (hw _ (List.mem_of_getElem? (i := 24) rfl))) (g := (mkF m 19 #[.val (.int (Int32.ofNat n)), .val (.int (Int32.ofNat 31))] [(.int (Int32.ofNat n))])) rfl (hb hby d6_19) _ kk_) ?_
      by_cases c22 : n < 65536
      · refine Gq.go (s₁.setTop (mkF m 33 #[.val (.int (Int32.ofNat n)), .val (.int (Int32.ofNat 31))] [])) (fun tt_ kk_ => XS.icmpYes X0.here hx rfl (pc0 := 22) (pc' := 33) rfl (hb hby d6_22) rfl (tlt ((own_lt (b := 65536) (by omega) (by decide)).mpr c22)).1 (by decide) (by decide) kk_) ?_
        exact K33 n 31 0 (by simp) rfl hn0 c22 (by omega)
      · refine Gq.go (s₁.setTop (mkF m 25 #[.val (.int (Int32.ofNat n)), .val (.int (Int32.ofNat 31))] [])) (fun tt_ kk_ => XS.icmpNo X0.here hx rfl (hb hby d6_22) rfl (flt (fun q => c22 ((own_lt (b := 65536) (by omega) (by decide)).mp q))).1 kk_) ?_
        refine Gq.go (s₁.setTop (mkF m 28 #[.val (.int (Int32.ofNat n)), .val (.int ((Int32.ofNat 31) + (-16 : Int32)))] [])) (fun tt_ kk_ => XS.iinc X0.here hx rfl (hb hby d6_25) rfl (l' := #[.val (.int (Int32.ofNat n)), .val (.int ((Int32.ofNat 31) + (-16 : Int32)))]) rfl kk_) ?_
        rw [show ((Int32.ofNat 31) + (-16 : Int32)) = Int32.ofNat (31 - 16) from own_subc 16 (by omega)]
        refine Gq.go (s₁.setTop (mkF m 29 #[.val (.int (Int32.ofNat n)), .val (.int (Int32.ofNat (31 - 16)))] [(.int (Int32.ofNat n))])) (fun tt_ kk_ => XS.iloadN X0.here hx rfl (hb hby d6_28) rfl kk_) ?_
        refine Gq.go (s₁.setTop (mkF m 31 #[.val (.int (Int32.ofNat n)), .val (.int (Int32.ofNat (31 - 16)))] [(.int (16 : Int32)), (.int (Int32.ofNat n))])) (fun tt_ kk_ => XS.bipush X0.here hx rfl (hb hby d6_29) kk_) ?_
        refine Gq.go (s₁.setTop (mkF m 32 #[.val (.int (Int32.ofNat n)), .val (.int (Int32.ofNat (31 - 16)))] [(.int (((Int32.ofNat n).toUInt32 >>> ((16 : Int32) &&& 31).toUInt32).toInt32))])) (fun tt_ kk_ => XS.iushr X0.here hx rfl (hb hby d6_31) rfl kk_) ?_
        rw [show (((Int32.ofNat n).toUInt32 >>> ((16 : Int32) &&& 31).toUInt32).toInt32) = (Int32.ofNat (n / 65536)) from o32_ushr (by omega) 16 16 (by decide) (by decide)]
        refine Gq.go (s₁.setTop (mkF m 33 #[.val (.int (Int32.ofNat (n / 65536))), .val (.int (Int32.ofNat (31 - 16)))] [])) (fun tt_ kk_ => XS.istoreN X0.here hx rfl (hb hby d6_32) rfl (l' := #[.val (.int (Int32.ofNat (n / 65536))), .val (.int (Int32.ofNat (31 - 16)))]) rfl kk_) ?_
        exact K33 (n / 65536) (31 - 16) (0 + 16) (own_dd (by simp)) (by omega) (by omega) (by omega) (by omega)
    intro m33 c33 j33 ha33 hb33 hc33 hd33 hj33
    suffices K48 : ∀ (m48 c48 j48 : Nat), n / 2 ^ j48 = m48 → c48 + j48 = 31 → 0 < m48 → m48 < 256 → j48 ≤ 24 → Gq p.tables e below s (Q6 Z n h0 n0) ({ frames := 0, cells := 0, slots := 0, locals := 0 } : Room).cells ({ frames := 0, cells := 0, slots := 0, locals := 0 } : Room).slots (s₁.setTop (mkF m 48 #[.val (.int (Int32.ofNat m48)), .val (.int (Int32.ofNat c48))] [])) by
      refine Gq.go (s₁.setTop (mkF m 34 #[.val (.int (Int32.ofNat m33)), .val (.int (Int32.ofNat c33))] [(.int (Int32.ofNat m33))])) (fun tt_ kk_ => XS.iloadN X0.here hx rfl (hb hby d6_33) rfl kk_) ?_
      refine Gq.go (s₁.setTop (mkF m 37 #[.val (.int (Int32.ofNat m33)), .val (.int (Int32.ofNat c33))] [(.int (256 : Int32)), (.int (Int32.ofNat m33))])) (fun tt_ kk_ => XS.sipush X0.here hx rfl (hb hby d6_34) kk_) ?_
      by_cases c37 : m33 < 256
      · refine Gq.go (s₁.setTop (mkF m 48 #[.val (.int (Int32.ofNat m33)), .val (.int (Int32.ofNat c33))] [])) (fun tt_ kk_ => XS.icmpYes X0.here hx rfl (pc0 := 37) (pc' := 48) rfl (hb hby d6_37) rfl (tlt ((own_lt (b := 256) (by omega) (by decide)).mpr c37)).1 (by decide) (by decide) kk_) ?_
        exact K48 m33 c33 j33 ha33 hb33 hc33 c37 (by omega)
      · refine Gq.go (s₁.setTop (mkF m 40 #[.val (.int (Int32.ofNat m33)), .val (.int (Int32.ofNat c33))] [])) (fun tt_ kk_ => XS.icmpNo X0.here hx rfl (hb hby d6_37) rfl (flt (fun q => c37 ((own_lt (b := 256) (by omega) (by decide)).mp q))).1 kk_) ?_
        refine Gq.go (s₁.setTop (mkF m 43 #[.val (.int (Int32.ofNat m33)), .val (.int ((Int32.ofNat c33) + (-8 : Int32)))] [])) (fun tt_ kk_ => XS.iinc X0.here hx rfl (hb hby d6_40) rfl (l' := #[.val (.int (Int32.ofNat m33)), .val (.int ((Int32.ofNat c33) + (-8 : Int32)))]) rfl kk_) ?_
        rw [show ((Int32.ofNat c33) + (-8 : Int32)) = Int32.ofNat (c33 - 8) from own_subc 8 (by omega)]
        refine Gq.go (s₁.setTop (mkF m 44 #[.val (.int (Int32.ofNat m33)), .val (.int (Int32.ofNat (c33 - 8)))] [(.int (Int32.ofNat m33))])) (fun tt_ kk_ => XS.iloadN X0.here hx rfl (hb hby d6_43) rfl kk_) ?_
        refine Gq.go (s₁.setTop (mkF m 46 #[.val (.int (Int32.ofNat m33)), .val (.int (Int32.ofNat (c33 - 8)))] [(.int (8 : Int32)), (.int (Int32.ofNat m33))])) (fun tt_ kk_ => XS.bipush X0.here hx rfl (hb hby d6_44) kk_) ?_
        refine Gq.go (s₁.setTop (mkF m 47 #[.val (.int (Int32.ofNat m33)), .val (.int (Int32.ofNat (c33 - 8)))] [(.int (((Int32.ofNat m33).toUInt32 >>> ((8 : Int32) &&& 31).toUInt32).toInt32))])) (fun tt_ kk_ => XS.iushr X0.here hx rfl (hb hby d6_46) rfl kk_) ?_
        rw [show (((Int32.ofNat m33).toUInt32 >>> ((8 : Int32) &&& 31).toUInt32).toInt32) = (Int32.ofNat (m33 / 256)) from o32_ushr (by omega) 8 8 (by decide) (by decide)]
        refine Gq.go (s₁.setTop (mkF m 48 #[.val (.int (Int32.ofNat (m33 / 256))), .val (.int (Int32.ofNat (c33 - 8)))] [])) (fun tt_ kk_ => XS.istoreN X0.here hx rfl (hb hby d6_47) rfl (l' := #[.val (.int (Int32.ofNat (m33 / 256))), .val (.int (Int32.ofNat (c33 - 8)))]) rfl kk_) ?_
        exact K48 (m33 / 256) (c33 - 8) (j33 + 8) (own_dd ha33) (by omega) (by omega) (by omega) (by omega)
    intro m48 c48 j48 ha48 hb48 hc48 hd48 hj48
    suffices K61 : ∀ (m61 c61 j61 : Nat), n / 2 ^ j61 = m61 → c61 + j61 = 31 → 0 < m61 → m61 < 16 → j61 ≤ 28 → Gq p.tables e below s (Q6 Z n h0 n0) ({ frames := 0, cells := 0, slots := 0, locals := 0 } : Room).cells ({ frames := 0, cells := 0, slots := 0, locals := 0 } : Room).slots (s₁.setTop (mkF m 61 #[.val (.int (Int32.ofNat m61)), .val (.int (Int32.ofNat c61))] [])) by
      refine Gq.go (s₁.setTop (mkF m 49 #[.val (.int (Int32.ofNat m48)), .val (.int (Int32.ofNat c48))] [(.int (Int32.ofNat m48))])) (fun tt_ kk_ => XS.iloadN X0.here hx rfl (hb hby d6_48) rfl kk_) ?_
      refine Gq.go (s₁.setTop (mkF m 51 #[.val (.int (Int32.ofNat m48)), .val (.int (Int32.ofNat c48))] [(.int (16 : Int32)), (.int (Int32.ofNat m48))])) (fun tt_ kk_ => XS.bipush X0.here hx rfl (hb hby d6_49) kk_) ?_
      by_cases c51 : m48 < 16
      · refine Gq.go (s₁.setTop (mkF m 61 #[.val (.int (Int32.ofNat m48)), .val (.int (Int32.ofNat c48))] [])) (fun tt_ kk_ => XS.icmpYes X0.here hx rfl (pc0 := 51) (pc' := 61) rfl (hb hby d6_51) rfl (tlt ((own_lt (b := 16) (by omega) (by decide)).mpr c51)).1 (by decide) (by decide) kk_) ?_
        exact K61 m48 c48 j48 ha48 hb48 hc48 c51 (by omega)
      · refine Gq.go (s₁.setTop (mkF m 54 #[.val (.int (Int32.ofNat m48)), .val (.int (Int32.ofNat c48))] [])) (fun tt_ kk_ => XS.icmpNo X0.here hx rfl (hb hby d6_51) rfl (flt (fun q => c51 ((own_lt (b := 16) (by omega) (by decide)).mp q))).1 kk_) ?_
        refine Gq.go (s₁.setTop (mkF m 57 #[.val (.int (Int32.ofNat m48)), .val (.int ((Int32.ofNat c48) + (-4 : Int32)))] [])) (fun tt_ kk_ => XS.iinc X0.here hx rfl (hb hby d6_54) rfl (l' := #[.val (.int (Int32.ofNat m48)), .val (.int ((Int32.ofNat c48) + (-4 : Int32)))]) rfl kk_) ?_
        rw [show ((Int32.ofNat c48) + (-4 : Int32)) = Int32.ofNat (c48 - 4) from own_subc 4 (by omega)]
        refine Gq.go (s₁.setTop (mkF m 58 #[.val (.int (Int32.ofNat m48)), .val (.int (Int32.ofNat (c48 - 4)))] [(.int (Int32.ofNat m48))])) (fun tt_ kk_ => XS.iloadN X0.here hx rfl (hb hby d6_57) rfl kk_) ?_
        refine Gq.go (s₁.setTop (mkF m 59 #[.val (.int (Int32.ofNat m48)), .val (.int (Int32.ofNat (c48 - 4)))] [(.int (4 : Int32)), (.int (Int32.ofNat m48))])) (fun tt_ kk_ => XS.iconst X0.here hx rfl (hb hby d6_58) kk_) ?_
        refine Gq.go (s₁.setTop (mkF m 60 #[.val (.int (Int32.ofNat m48)), .val (.int (Int32.ofNat (c48 - 4)))] [(.int (((Int32.ofNat m48).toUInt32 >>> ((4 : Int32) &&& 31).toUInt32).toInt32))])) (fun tt_ kk_ => XS.iushr X0.here hx rfl (hb hby d6_59) rfl kk_) ?_
        rw [show (((Int32.ofNat m48).toUInt32 >>> ((4 : Int32) &&& 31).toUInt32).toInt32) = (Int32.ofNat (m48 / 16)) from o32_ushr (by omega) 4 4 (by decide) (by decide)]
        refine Gq.go (s₁.setTop (mkF m 61 #[.val (.int (Int32.ofNat (m48 / 16))), .val (.int (Int32.ofNat (c48 - 4)))] [])) (fun tt_ kk_ => XS.istoreN X0.here hx rfl (hb hby d6_60) rfl (l' := #[.val (.int (Int32.ofNat (m48 / 16))), .val (.int (Int32.ofNat (c48 - 4)))]) rfl kk_) ?_
        exact K61 (m48 / 16) (c48 - 4) (j48 + 4) (own_dd ha48) (by omega) (by omega) (by omega) (by omega)
    intro m61 c61 j61 ha61 hb61 hc61 hd61 hj61
    suffices K73 : ∀ (m73 c73 j73 : Nat), n / 2 ^ j73 = m73 → c73 + j73 = 31 → 0 < m73 → m73 < 4 → j73 ≤ 30 → Gq p.tables e below s (Q6 Z n h0 n0) ({ frames := 0, cells := 0, slots := 0, locals := 0 } : Room).cells ({ frames := 0, cells := 0, slots := 0, locals := 0 } : Room).slots (s₁.setTop (mkF m 73 #[.val (.int (Int32.ofNat m73)), .val (.int (Int32.ofNat c73))] [])) by
      refine Gq.go (s₁.setTop (mkF m 62 #[.val (.int (Int32.ofNat m61)), .val (.int (Int32.ofNat c61))] [(.int (Int32.ofNat m61))])) (fun tt_ kk_ => XS.iloadN X0.here hx rfl (hb hby d6_61) rfl kk_) ?_
      refine Gq.go (s₁.setTop (mkF m 63 #[.val (.int (Int32.ofNat m61)), .val (.int (Int32.ofNat c61))] [(.int (4 : Int32)), (.int (Int32.ofNat m61))])) (fun tt_ kk_ => XS.iconst X0.here hx rfl (hb hby d6_62) kk_) ?_
      by_cases c63 : m61 < 4
      · refine Gq.go (s₁.setTop (mkF m 73 #[.val (.int (Int32.ofNat m61)), .val (.int (Int32.ofNat c61))] [])) (fun tt_ kk_ => XS.icmpYes X0.here hx rfl (pc0 := 63) (pc' := 73) rfl (hb hby d6_63) rfl (tlt ((own_lt (b := 4) (by omega) (by decide)).mpr c63)).1 (by decide) (by decide) kk_) ?_
        exact K73 m61 c61 j61 ha61 hb61 hc61 c63 (by omega)
      · refine Gq.go (s₁.setTop (mkF m 66 #[.val (.int (Int32.ofNat m61)), .val (.int (Int32.ofNat c61))] [])) (fun tt_ kk_ => XS.icmpNo X0.here hx rfl (hb hby d6_63) rfl (flt (fun q => c63 ((own_lt (b := 4) (by omega) (by decide)).mp q))).1 kk_) ?_
        refine Gq.go (s₁.setTop (mkF m 69 #[.val (.int (Int32.ofNat m61)), .val (.int ((Int32.ofNat c61) + (-2 : Int32)))] [])) (fun tt_ kk_ => XS.iinc X0.here hx rfl (hb hby d6_66) rfl (l' := #[.val (.int (Int32.ofNat m61)), .val (.int ((Int32.ofNat c61) + (-2 : Int32)))]) rfl kk_) ?_
        rw [show ((Int32.ofNat c61) + (-2 : Int32)) = Int32.ofNat (c61 - 2) from own_subc 2 (by omega)]
        refine Gq.go (s₁.setTop (mkF m 70 #[.val (.int (Int32.ofNat m61)), .val (.int (Int32.ofNat (c61 - 2)))] [(.int (Int32.ofNat m61))])) (fun tt_ kk_ => XS.iloadN X0.here hx rfl (hb hby d6_69) rfl kk_) ?_
        refine Gq.go (s₁.setTop (mkF m 71 #[.val (.int (Int32.ofNat m61)), .val (.int (Int32.ofNat (c61 - 2)))] [(.int (2 : Int32)), (.int (Int32.ofNat m61))])) (fun tt_ kk_ => XS.iconst X0.here hx rfl (hb hby d6_70) kk_) ?_
        refine Gq.go (s₁.setTop (mkF m 72 #[.val (.int (Int32.ofNat m61)), .val (.int (Int32.ofNat (c61 - 2)))] [(.int (((Int32.ofNat m61).toUInt32 >>> ((2 : Int32) &&& 31).toUInt32).toInt32))])) (fun tt_ kk_ => XS.iushr X0.here hx rfl (hb hby d6_71) rfl kk_) ?_
        rw [show (((Int32.ofNat m61).toUInt32 >>> ((2 : Int32) &&& 31).toUInt32).toInt32) = (Int32.ofNat (m61 / 4)) from o32_ushr (by omega) 2 2 (by decide) (by decide)]
        refine Gq.go (s₁.setTop (mkF m 73 #[.val (.int (Int32.ofNat (m61 / 4))), .val (.int (Int32.ofNat (c61 - 2)))] [])) (fun tt_ kk_ => XS.istoreN X0.here hx rfl (hb hby d6_72) rfl (l' := #[.val (.int (Int32.ofNat (m61 / 4))), .val (.int (Int32.ofNat (c61 - 2)))]) rfl kk_) ?_
        exact K73 (m61 / 4) (c61 - 2) (j61 + 2) (own_dd ha61) (by omega) (by omega) (by omega) (by omega)
    intro m73 c73 j73 ha73 hb73 hc73 hd73 hj73
    have hBB := own_finB (own_fin ha73 hc73 hd73).1 hc
    refine Gq.go (s₁.setTop (mkF m 74 #[.val (.int (Int32.ofNat m73)), .val (.int (Int32.ofNat c73))] [(.int (Int32.ofNat c73))])) (fun tt_ kk_ => XS.iloadN X0.here hx rfl (hb hby d6_73) rfl kk_) ?_
    refine Gq.go (s₁.setTop (mkF m 75 #[.val (.int (Int32.ofNat m73)), .val (.int (Int32.ofNat c73))] [(.int (Int32.ofNat m73)), (.int (Int32.ofNat c73))])) (fun tt_ kk_ => XS.iloadN X0.here hx rfl (hb hby d6_74) rfl kk_) ?_
    refine Gq.go (s₁.setTop (mkF m 76 #[.val (.int (Int32.ofNat m73)), .val (.int (Int32.ofNat c73))] [(.int (1 : Int32)), (.int (Int32.ofNat m73)), (.int (Int32.ofNat c73))])) (fun tt_ kk_ => XS.iconst X0.here hx rfl (hb hby d6_75) kk_) ?_
    refine Gq.go (s₁.setTop (mkF m 77 #[.val (.int (Int32.ofNat m73)), .val (.int (Int32.ofNat c73))] [(.int (((Int32.ofNat m73).toUInt32 >>> ((1 : Int32) &&& 31).toUInt32).toInt32)), (.int (Int32.ofNat c73))])) (fun tt_ kk_ => XS.iushr X0.here hx rfl (hb hby d6_76) rfl kk_) ?_
    rw [show (((Int32.ofNat m73).toUInt32 >>> ((1 : Int32) &&& 31).toUInt32).toInt32) = (Int32.ofNat (m73 / 2)) from o32_ushr (by omega) 1 1 (by decide) (by decide)]
    refine Gq.go (s₁.setTop (mkF m 78 #[.val (.int (Int32.ofNat m73)), .val (.int (Int32.ofNat c73))] [(.int ((Int32.ofNat c73) - (Int32.ofNat (m73 / 2))))])) (fun tt_ kk_ => XS.isub X0.here hx rfl (hb hby d6_77) rfl kk_) ?_
    rw [show ((Int32.ofNat c73) - (Int32.ofNat (m73 / 2))) = (Int32.ofNat (31 - (j73 + m73 / 2))) from by rw [own_sub (by omega)]; congr 1; omega]
    refine Gq.retI X0 hx Bd.notSynchronized Bd.returns (by simp) (hb hby d6_78) rfl (by decide) (by decide) ?_
    show Q6 Z n h0 n0 _ s₁.heap _
    rw [eh0]
    exact ⟨⟨j73 + m73 / 2, rfl, by omega, (own_fin ha73 hc73 hd73).1, (own_fin ha73 hc73 hd73).2⟩, N0, rfl⟩
  · have he : n = 2147483648 := by omega
    refine Gq.go (s₁.setTop (mkF m 1 #[.val (.int (Int32.ofNat n)), .unset] [(.int (Int32.ofNat n))])) (fun tt_ kk_ => XS.iloadN X0.here hx rfl (hb hby d6_0) rfl kk_) ?_
    refine Gq.go (s₁.setTop (mkF m 4 #[.val (.int (Int32.ofNat n)), .unset] [])) (fun tt_ kk_ => XS.ifNo X0.here hx rfl (hb hby d6_1) rfl ((if0 _ _).trans (flt (by rw [he]; decide)).2.2.1) kk_) ?_
    refine Gq.go (s₁.setTop (mkF m 5 #[.val (.int (Int32.ofNat n)), .unset] [(.int (Int32.ofNat n))])) (fun tt_ kk_ => XS.iloadN X0.here hx rfl (hb hby d6_4) rfl kk_) ?_
    refine Gq.go (s₁.setTop (mkF m 13 #[.val (.int (Int32.ofNat n)), .unset] [])) (fun tt_ kk_ => XS.ifYes X0.here hx rfl (pc0 := 5) (pc' := 13) rfl (hb hby d6_5) rfl ((if0 _ _).trans (feq (by rw [he]; decide)).2) (by decide) (by decide) kk_) ?_
    refine Gq.go (s₁.setTop (mkF m 14 #[.val (.int (Int32.ofNat n)), .unset] [(.int (0 : Int32))])) (fun tt_ kk_ => XS.iconst X0.here hx rfl (hb hby d6_13) kk_) ?_
    refine Gq.retI X0 hx Bd.notSynchronized Bd.returns (by simp) (hb hby d6_14) rfl (by decide) (by decide) ?_
    show Q6 Z n h0 n0 _ s₁.heap _
    rw [eh0]
    exact ⟨⟨31, rfl, by decide, by rw [he]; decide, by rw [he]; decide⟩, N0, rfl⟩
theorem d5_0 : decode jdk_35_method_48_code 0 = .ok (.lload_n 0, 1) := by decide +kernel
theorem d5_1 : decode jdk_35_method_48_code 1 = .ok (.bipush 32, 2) := by decide +kernel
theorem d5_3 : decode jdk_35_method_48_code 3 = .ok (.lushr, 1) := by decide +kernel
theorem d5_4 : decode jdk_35_method_48_code 4 = .ok (.l2i, 1) := by decide +kernel
theorem d5_5 : decode jdk_35_method_48_code 5 = .ok (.istore_n 2, 1) := by decide +kernel
theorem d5_6 : decode jdk_35_method_48_code 6 = .ok (.iload_n 2, 1) := by decide +kernel
theorem d5_7 : decode jdk_35_method_48_code 7 = .ok (.ifCond .ne 14, 3) := by decide +kernel
theorem d5_10 : decode jdk_35_method_48_code 10 = .ok (.bipush 32, 2) := by decide +kernel
theorem d5_12 : decode jdk_35_method_48_code 12 = .ok (.lload_n 0, 1) := by decide +kernel
theorem d5_13 : decode jdk_35_method_48_code 13 = .ok (.l2i, 1) := by decide +kernel
theorem d5_14 : decode jdk_35_method_48_code 14 = .ok (.invokestatic 308, 3) := by decide +kernel
theorem d5_17 : decode jdk_35_method_48_code 17 = .ok (.iadd, 1) := by decide +kernel
theorem d5_18 : decode jdk_35_method_48_code 18 = .ok (.goto 7, 3) := by decide +kernel
theorem d5_25 : decode jdk_35_method_48_code 25 = .ok (.ireturn, 1) := by decide +kernel
theorem pd_0 : parseMethodDescriptor "(I)I" = some ⟨[.int], some .int⟩ := by decide +kernel
theorem pn_java_lang_Long : plainName "java/lang/Long" = true := by first | (simp [plainName, overriddenIn]; done) | decide +kernel
theorem ef5 (m : MethodId) (y0 : Int64) : entryFrame m #[(.long y0)] 3 = mkF m 0 #[.val (.long y0), .second, .unset] [] := by first | (simp [entryFrame, mkF, argsToLocals, Value.category]; done) | rfl
def Q5 (Z : State) (n : Nat) (h0 : Heap) (n0 : Nat) (v : Option Value) (h : Heap) (L : List Loc) : Prop := (∃ B : Nat, v = some (.int (Int32.ofNat (63 - B))) ∧ B ≤ 31 ∧ 2 ^ B ≤ n ∧ n < 2 ^ (B + 1)) ∧ Fr n0 L ∧ h = h0
set_option maxRecDepth 65536 in
set_option maxHeartbeats 40000000 in
theorem rm5 (l : Launch) (Z : State) (a0 : Array Value) (hw : ∀ d ∈ tables_1, d.before a0 Z = true) (ws : List Jvm.Cond) (n : Nat) (h0 : Heap) (n0 : Nat) (Z0 : n0 ≤ h0.size) (hn0 : 0 < n) (hn1 : n ≤ 2147483648) :
    MetFree l (⟨"java/lang/Long", "numberOfLeadingZeros", "(J)I"⟩ : MethodName) (head1 (Jvm.Cond.code (⟨"java/lang/Long", "numberOfLeadingZeros", "(J)I"⟩ : MethodName) jdk_35_method_48_code 3 (some .int) :: ws) ({ frames := 1, cells := 0, slots := 0, locals := 14 } : Room)) (fun a U => a = #[(.long (Int64.ofNat n))] ∧ Z.Warmed39 U.vm ∧ U.heap = h0) (fun _ _ _ _ _ => True) (fun _ U o U' => ∃ v L, o = .returned v ∧ Q5 Z n h0 n0 v U'.heap L ∧ FrameEnd U o U' L ({ frames := 1, cells := 0, slots := 0, locals := 14 } : Room).cells ({ frames := 1, cells := 0, slots := 0, locals := 14 } : Room).slots) := by
  refine MetFree.of_bodySF (plainFor_of_name pn_java_lang_Long) hisR ?_
  intro p e s m args below meth c s₁ Bd hml0 hP hK
  obtain ⟨rfl, hZ, hh⟩ := hP
  have hx := Bd.exec
  have hby := Bd.bytes
  have hml : c.maxLocals = 3 := hml0
  have hown : s.vm.findClass "java/lang/Long" = some m.cls := findClass_of_methodNamed Bd.named
  have hnm := (name_of_methodNamed Bd.named Bd.method).1
  have X0 : Stand p l e ({ frames := 1, cells := 0, slots := 0, locals := 14 } : Room) s m #[(.long (Int64.ofNat n))] below meth c s₁ [] 0 0 := Stand.of_body Bd
  have eh0 : s₁.heap = h0 := by rw [← hh, Bd.state]; rfl
  have N0 := Fr.nil n0
  refine Gq.start (Q := Q5 Z n h0 n0) (kc := ({ frames := 1, cells := 0, slots := 0, locals := 14 } : Room).cells) (ks := ({ frames := 1, cells := 0, slots := 0, locals := 14 } : Room).slots) (ef5 m (Int64.ofNat n)) ?_
  refine Gq.go (s₁.setTop (mkF m 1 #[.val (.long (Int64.ofNat n)), .second, .unset] [(.long (Int64.ofNat n))])) (fun tt_ kk_ => XS.lloadN X0.here hx rfl (hb hby d5_0) rfl kk_) ?_
  refine Gq.go (s₁.setTop (mkF m 3 #[.val (.long (Int64.ofNat n)), .second, .unset] [(.int (32 : Int32)), (.long (Int64.ofNat n))])) (fun tt_ kk_ => XS.bipush X0.here hx rfl (hb hby d5_1) kk_) ?_
  refine Gq.go (s₁.setTop (mkF m 4 #[.val (.long (Int64.ofNat n)), .second, .unset] [(.long (((Int64.ofNat n).toUInt64 >>> ((32 : Int32) &&& 0x3f).toInt64.toUInt64).toInt64))])) (fun tt_ kk_ => XS.lushr X0.here hx rfl (hb hby d5_3) rfl kk_) ?_
  refine Gq.go (s₁.setTop (mkF m 5 #[.val (.long (Int64.ofNat n)), .second, .unset] [(.int ((((Int64.ofNat n).toUInt64 >>> ((32 : Int32) &&& 0x3f).toInt64.toUInt64).toInt64).toInt32))])) (fun tt_ kk_ => XS.l2i X0.here hx rfl (hb hby d5_4) rfl kk_) ?_
  rw [show ((((Int64.ofNat n).toUInt64 >>> ((32 : Int32) &&& 0x3f).toInt64.toUInt64).toInt64).toInt32) = (0 : Int32) from own_hi hn1]
  refine Gq.go (s₁.setTop (mkF m 6 #[.val (.long (Int64.ofNat n)), .second, .val (.int (0 : Int32))] [])) (fun tt_ kk_ => XS.istoreN X0.here hx rfl (hb hby d5_5) rfl (l' := #[.val (.long (Int64.ofNat n)), .second, .val (.int (0 : Int32))]) rfl kk_) ?_
  refine Gq.go (s₁.setTop (mkF m 7 #[.val (.long (Int64.ofNat n)), .second, .val (.int (0 : Int32))] [(.int (0 : Int32))])) (fun tt_ kk_ => XS.iloadN X0.here hx rfl (hb hby d5_6) rfl kk_) ?_
  refine Gq.go (s₁.setTop (mkF m 10 #[.val (.long (Int64.ofNat n)), .second, .val (.int (0 : Int32))] [])) (fun tt_ kk_ => XS.ifNo X0.here hx rfl (hb hby d5_7) rfl ((if0 _ _).trans (teq (by decide : ((0 : Int32) = (0 : Int32)))).2) kk_) ?_
  refine Gq.go (s₁.setTop (mkF m 12 #[.val (.long (Int64.ofNat n)), .second, .val (.int (0 : Int32))] [(.int (32 : Int32))])) (fun tt_ kk_ => XS.bipush X0.here hx rfl (hb hby d5_10) kk_) ?_
  refine Gq.go (s₁.setTop (mkF m 13 #[.val (.long (Int64.ofNat n)), .second, .val (.int (0 : Int32))] [(.long (Int64.ofNat n)), (.int (32 : Int32))])) (fun tt_ kk_ => XS.lloadN X0.here hx rfl (hb hby d5_12) rfl kk_) ?_
  refine Gq.go (s₁.setTop (mkF m 14 #[.val (.long (Int64.ofNat n)), .second, .val (.int (0 : Int32))] [(.int ((Int64.ofNat n).toInt32)), (.int (32 : Int32))])) (fun tt_ kk_ => XS.l2i X0.here hx rfl (hb hby d5_13) rfl kk_) ?_
  rw [show ((Int64.ofNat n).toInt32) = (Int32.ofNat n) from o64_toInt32 n]
  obtain ⟨r1, T1, L1, X1, hQ1, st1⟩ := callT (pc := 14) (Ls := #[.val (.long (Int64.ofNat n)), .second, .val (.int (0 : Int32))]) X0 hx hZ hown eh0 [(.int (Int32.ofNat n))] [(.int (32 : Int32))] (hw _ (List.mem_of_getElem? (i := 20) rfl)) (hw _ (List.mem_of_getElem? (i := 21) rfl)) (hw _ (List.mem_of_getElem? (i := 22) rfl)) (hw _ (List.mem_of_getElem? (i := 23) rfl)) (by decide) (rm6 l Z a0 hw [] n h0 n0 Z0 hn0 hn1) pd_0 rfl (by rw [hml]; rfl) (W := 1) (Nat.le_of_eq rfl) (by decide) (by decide) (by decide) (by decide) (hb hby d5_14)
  obtain ⟨⟨B, rfl, hB1, hB2, hB3⟩, N1q, eh1⟩ := hQ1
  have N1 := Fr.app N0 N1q
  refine Gq.go (T1.setTop (mkF m 17 #[.val (.long (Int64.ofNat n)), .second, .val (.int (0 : Int32))] [(.int (Int32.ofNat (31 - B))), (.int (32 : Int32))])) (fun tt_ kk_ => st1 tt_ kk_) ?_
  refine Gq.go (T1.setTop (mkF m 18 #[.val (.long (Int64.ofNat n)), .second, .val (.int (0 : Int32))] [(.int ((32 : Int32) + (Int32.ofNat (31 - B))))])) (fun tt_ kk_ => XS.iadd X1.here hx rfl (hb hby d5_17) rfl kk_) ?_
  rw [show ((32 : Int32) + (Int32.ofNat (31 - B))) = (Int32.ofNat (63 - B)) from by rw [show (32 : Int32) = Int32.ofNat 32 from rfl, own_add]; congr 1; omega]
  refine Gq.go (T1.setTop (mkF m 25 #[.val (.long (Int64.ofNat n)), .second, .val (.int (0 : Int32))] [(.int (Int32.ofNat (63 - B)))])) (fun tt_ kk_ => XS.goto X1.here hx rfl (pc0 := 18) (pc' := 25) rfl (hb hby d5_18) (by decide) (by decide) kk_) ?_
  refine Gq.retI X1 hx Bd.notSynchronized Bd.returns (by simp) (hb hby d5_25) rfl (by decide) (by decide) ?_
  show Q5 Z n h0 n0 _ T1.heap _
  rw [eh1]
  exact ⟨⟨B, rfl, hB1, hB2, hB3⟩, N1, rfl⟩
theorem d4_0 : decode prog_4_method_5_code 0 = .ok (.bipush 64, 2) := by decide +kernel
theorem d4_2 : decode prog_4_method_5_code 2 = .ok (.lload_n 0, 1) := by decide +kernel
theorem d4_3 : decode prog_4_method_5_code 3 = .ok (.invokestatic 52, 3) := by decide +kernel
theorem d4_6 : decode prog_4_method_5_code 6 = .ok (.isub, 1) := by decide +kernel
theorem d4_7 : decode prog_4_method_5_code 7 = .ok (.ireturn, 1) := by decide +kernel
theorem pd_1 : parseMethodDescriptor "(J)I" = some ⟨[.long], some .int⟩ := by decide +kernel
theorem pn_com_example_dense_trie_densetrie_CellFields : plainName "com/example/dense_trie/densetrie/CellFields" = true := by first | (simp [plainName, overriddenIn]; done) | decide +kernel
theorem ef4 (m : MethodId) (y0 : Int64) : entryFrame m #[(.long y0)] 2 = mkF m 0 #[.val (.long y0), .second] [] := by first | (simp [entryFrame, mkF, argsToLocals, Value.category]; done) | rfl
def Q4 (Z : State) (n : Nat) (h0 : Heap) (n0 : Nat) (v : Option Value) (h : Heap) (L : List Loc) : Prop := (∃ B : Nat, v = some (.int (Int32.ofNat (B + 1))) ∧ B ≤ 31 ∧ 2 ^ B ≤ n ∧ n < 2 ^ (B + 1)) ∧ Fr n0 L ∧ h = h0
set_option maxRecDepth 65536 in
set_option maxHeartbeats 40000000 in
theorem rm4 (l : Launch) (Z : State) (a0 : Array Value) (hw : ∀ d ∈ tables_1, d.before a0 Z = true) (ws : List Jvm.Cond) (n : Nat) (h0 : Heap) (n0 : Nat) (Z0 : n0 ≤ h0.size) (hn0 : 0 < n) (hn1 : n ≤ 2147483648) :
    MetFree l (⟨"com/example/dense_trie/densetrie/CellFields", "bitsFor", "(J)I"⟩ : MethodName) (head1 (Jvm.Cond.code (⟨"com/example/dense_trie/densetrie/CellFields", "bitsFor", "(J)I"⟩ : MethodName) prog_4_method_5_code 2 (some .int) :: ws) ({ frames := 2, cells := 0, slots := 0, locals := 29 } : Room)) (fun a U => a = #[(.long (Int64.ofNat n))] ∧ Z.Warmed39 U.vm ∧ U.heap = h0) (fun _ _ _ _ _ => True) (fun _ U o U' => ∃ v L, o = .returned v ∧ Q4 Z n h0 n0 v U'.heap L ∧ FrameEnd U o U' L ({ frames := 2, cells := 0, slots := 0, locals := 29 } : Room).cells ({ frames := 2, cells := 0, slots := 0, locals := 29 } : Room).slots) := by
  refine MetFree.of_bodySF (plainFor_of_name pn_com_example_dense_trie_densetrie_CellFields) hisR ?_
  intro p e s m args below meth c s₁ Bd hml0 hP hK
  obtain ⟨rfl, hZ, hh⟩ := hP
  have hx := Bd.exec
  have hby := Bd.bytes
  have hml : c.maxLocals = 2 := hml0
  have hown : s.vm.findClass "com/example/dense_trie/densetrie/CellFields" = some m.cls := findClass_of_methodNamed Bd.named
  have hnm := (name_of_methodNamed Bd.named Bd.method).1
  have X0 : Stand p l e ({ frames := 2, cells := 0, slots := 0, locals := 29 } : Room) s m #[(.long (Int64.ofNat n))] below meth c s₁ [] 0 0 := Stand.of_body Bd
  have eh0 : s₁.heap = h0 := by rw [← hh, Bd.state]; rfl
  have N0 := Fr.nil n0
  refine Gq.start (Q := Q4 Z n h0 n0) (kc := ({ frames := 2, cells := 0, slots := 0, locals := 29 } : Room).cells) (ks := ({ frames := 2, cells := 0, slots := 0, locals := 29 } : Room).slots) (ef4 m (Int64.ofNat n)) ?_
  refine Gq.go (s₁.setTop (mkF m 2 #[.val (.long (Int64.ofNat n)), .second] [(.int (64 : Int32))])) (fun tt_ kk_ => XS.bipush X0.here hx rfl (hb hby d4_0) kk_) ?_
  refine Gq.go (s₁.setTop (mkF m 3 #[.val (.long (Int64.ofNat n)), .second] [(.long (Int64.ofNat n)), (.int (64 : Int32))])) (fun tt_ kk_ => XS.lloadN X0.here hx rfl (hb hby d4_2) rfl kk_) ?_
  obtain ⟨r1, T1, L1, X1, hQ1, st1⟩ := callT (pc := 3) (Ls := #[.val (.long (Int64.ofNat n)), .second]) X0 hx hZ hown eh0 [(.long (Int64.ofNat n))] [(.int (64 : Int32))] (hw _ (List.mem_of_getElem? (i := 16) rfl)) (hw _ (List.mem_of_getElem? (i := 17) rfl)) (hw _ (List.mem_of_getElem? (i := 18) rfl)) (hw _ (List.mem_of_getElem? (i := 19) rfl)) (by decide) (rm5 l Z a0 hw [] n h0 n0 Z0 hn0 hn1) pd_1 rfl (by rw [hml]; rfl) (W := 1) (Nat.le_of_eq rfl) (by decide) (by decide) (by decide) (by decide) (hb hby d4_3)
  obtain ⟨⟨B, rfl, hB1, hB2, hB3⟩, N1q, eh1⟩ := hQ1
  have N1 := Fr.app N0 N1q
  refine Gq.go (T1.setTop (mkF m 6 #[.val (.long (Int64.ofNat n)), .second] [(.int (Int32.ofNat (63 - B))), (.int (64 : Int32))])) (fun tt_ kk_ => st1 tt_ kk_) ?_
  refine Gq.go (T1.setTop (mkF m 7 #[.val (.long (Int64.ofNat n)), .second] [(.int ((64 : Int32) - (Int32.ofNat (63 - B))))])) (fun tt_ kk_ => XS.isub X1.here hx rfl (hb hby d4_6) rfl kk_) ?_
  rw [show ((64 : Int32) - (Int32.ofNat (63 - B))) = (Int32.ofNat (B + 1)) from by rw [show (64 : Int32) = Int32.ofNat 64 from rfl, own_sub (by omega)]; congr 1; omega]
  refine Gq.retI X1 hx Bd.notSynchronized Bd.returns (by simp) (hb hby d4_7) rfl (by decide) (by decide) ?_
  show Q4 Z n h0 n0 _ T1.heap _
  rw [eh1]
  exact ⟨⟨B, rfl, hB1, hB2, hB3⟩, N1, rfl⟩
theorem d3_0 : decode prog_4_method_3_code 0 = .ok (.iload_n 0, 1) := by decide +kernel
theorem d3_1 : decode prog_4_method_3_code 1 = .ok (.i2l, 1) := by decide +kernel
theorem d3_2 : decode prog_4_method_3_code 2 = .ok (.lconst 1, 1) := by decide +kernel
theorem d3_3 : decode prog_4_method_3_code 3 = .ok (.ladd, 1) := by decide +kernel
theorem d3_4 : decode prog_4_method_3_code 4 = .ok (.invokestatic 42, 3) := by decide +kernel
theorem d3_7 : decode prog_4_method_3_code 7 = .ok (.ireturn, 1) := by decide +kernel
theorem ef3 (m : MethodId) (y0 : Int32) : entryFrame m #[(.int y0)] 1 = mkF m 0 #[.val (.int y0)] [] := by first | (simp [entryFrame, mkF, argsToLocals, Value.category]; done) | rfl
def Q3 (Z : State) (c0 : Nat) (h0 : Heap) (n0 : Nat) (v : Option Value) (h : Heap) (L : List Loc) : Prop := (∃ B : Nat, v = some (.int (Int32.ofNat (B + 1))) ∧ B ≤ 31 ∧ 2 ^ B ≤ c0 + 1 ∧ c0 + 1 < 2 ^ (B + 1)) ∧ Fr n0 L ∧ h = h0
set_option maxRecDepth 65536 in
set_option maxHeartbeats 40000000 in
theorem rm3 (l : Launch) (Z : State) (a0 : Array Value) (hw : ∀ d ∈ tables_1, d.before a0 Z = true) (ws : List Jvm.Cond) (c0 : Nat) (h0 : Heap) (n0 : Nat) (Z0 : n0 ≤ h0.size) (hc0 : c0 < 2147483648) :
    MetFree l (⟨"com/example/dense_trie/densetrie/CellFields", "labelBitsFor", "(I)I"⟩ : MethodName) (head1 (Jvm.Cond.code (⟨"com/example/dense_trie/densetrie/CellFields", "labelBitsFor", "(I)I"⟩ : MethodName) prog_4_method_3_code 1 (some .int) :: ws) ({ frames := 3, cells := 0, slots := 0, locals := 42 } : Room)) (fun a U => a = #[(.int (Int32.ofNat c0))] ∧ Z.Warmed39 U.vm ∧ U.heap = h0) (fun _ _ _ _ _ => True) (fun _ U o U' => ∃ v L, o = .returned v ∧ Q3 Z c0 h0 n0 v U'.heap L ∧ FrameEnd U o U' L ({ frames := 3, cells := 0, slots := 0, locals := 42 } : Room).cells ({ frames := 3, cells := 0, slots := 0, locals := 42 } : Room).slots) := by
  refine MetFree.of_bodySF (plainFor_of_name pn_com_example_dense_trie_densetrie_CellFields) hisR ?_
  intro p e s m args below meth c s₁ Bd hml0 hP hK
  obtain ⟨rfl, hZ, hh⟩ := hP
  have hx := Bd.exec
  have hby := Bd.bytes
  have hml : c.maxLocals = 1 := hml0
  have hown : s.vm.findClass "com/example/dense_trie/densetrie/CellFields" = some m.cls := findClass_of_methodNamed Bd.named
  have hnm := (name_of_methodNamed Bd.named Bd.method).1
  have X0 : Stand p l e ({ frames := 3, cells := 0, slots := 0, locals := 42 } : Room) s m #[(.int (Int32.ofNat c0))] below meth c s₁ [] 0 0 := Stand.of_body Bd
  have eh0 : s₁.heap = h0 := by rw [← hh, Bd.state]; rfl
  have N0 := Fr.nil n0
  refine Gq.start (Q := Q3 Z c0 h0 n0) (kc := ({ frames := 3, cells := 0, slots := 0, locals := 42 } : Room).cells) (ks := ({ frames := 3, cells := 0, slots := 0, locals := 42 } : Room).slots) (ef3 m (Int32.ofNat c0)) ?_
  refine Gq.go (s₁.setTop (mkF m 1 #[.val (.int (Int32.ofNat c0))] [(.int (Int32.ofNat c0))])) (fun tt_ kk_ => XS.iloadN X0.here hx rfl (hb hby d3_0) rfl kk_) ?_
  refine Gq.go (s₁.setTop (mkF m 2 #[.val (.int (Int32.ofNat c0))] [(.long ((Int32.ofNat c0).toInt64))])) (fun tt_ kk_ => XS.i2l X0.here hx rfl (hb hby d3_1) rfl kk_) ?_
  refine Gq.go (s₁.setTop (mkF m 3 #[.val (.int (Int32.ofNat c0))] [(.long (1 : Int64)), (.long ((Int32.ofNat c0).toInt64))])) (fun tt_ kk_ => XS.lconst X0.here hx rfl (hb hby d3_2) kk_) ?_
  refine Gq.go (s₁.setTop (mkF m 4 #[.val (.int (Int32.ofNat c0))] [(.long (((Int32.ofNat c0).toInt64) + (1 : Int64)))])) (fun tt_ kk_ => XS.ladd X0.here hx rfl (hb hby d3_3) rfl kk_) ?_
  rw [show (((Int32.ofNat c0).toInt64) + (1 : Int64)) = (Int64.ofNat (c0 + 1)) from own_top hc0]
  obtain ⟨r1, T1, L1, X1, hQ1, st1⟩ := callT (pc := 4) (Ls := #[.val (.int (Int32.ofNat c0))]) X0 hx hZ hown eh0 [(.long (Int64.ofNat (c0 + 1)))] [] (hw _ (List.mem_of_getElem? (i := 13) rfl)) (hw _ (List.mem_of_getElem? (i := 14) rfl)) (hw _ (List.mem_of_getElem? (i := 3) rfl)) (hw _ (List.mem_of_getElem? (i := 15) rfl)) (by decide) (rm4 l Z a0 hw [] (c0 + 1) h0 n0 Z0 (Nat.succ_pos _) hc0) pd_1 rfl (by rw [hml]; rfl) (W := 0) (Nat.le_of_eq rfl) (by decide) (by decide) (by decide) (by decide) (hb hby d3_4)
  obtain ⟨⟨B, rfl, hB1, hB2, hB3⟩, N1q, eh1⟩ := hQ1
  have N1 := Fr.app N0 N1q
  refine Gq.go (T1.setTop (mkF m 7 #[.val (.int (Int32.ofNat c0))] [(.int (Int32.ofNat (B + 1)))])) (fun tt_ kk_ => st1 tt_ kk_) ?_
  refine Gq.retI X1 hx Bd.notSynchronized Bd.returns (by simp) (hb hby d3_7) rfl (by decide) (by decide) ?_
  show Q3 Z c0 h0 n0 _ T1.heap _
  rw [eh1]
  exact ⟨⟨B, rfl, hB1, hB2, hB3⟩, N1, rfl⟩
theorem d1_0 : decode prog_4_method_1_code 0 = .ok (.aload_n 0, 1) := by decide +kernel
theorem d1_1 : decode prog_4_method_1_code 1 = .ok (.invokespecial 3, 3) := by decide +kernel
theorem d1_4 : decode prog_4_method_1_code 4 = .ok (.aload_n 0, 1) := by decide +kernel
theorem d1_5 : decode prog_4_method_1_code 5 = .ok (.iload_n 1, 1) := by decide +kernel
theorem d1_6 : decode prog_4_method_1_code 6 = .ok (.invokestatic 9, 3) := by decide +kernel
theorem d1_9 : decode prog_4_method_1_code 9 = .ok (.putfield 15, 3) := by decide +kernel
theorem d1_12 : decode prog_4_method_1_code 12 = .ok (.aload_n 0, 1) := by decide +kernel
theorem d1_13 : decode prog_4_method_1_code 13 = .ok (.iload_n 2, 1) := by decide +kernel
theorem d1_14 : decode prog_4_method_1_code 14 = .ok (.putfield 19, 3) := by decide +kernel
theorem d1_17 : decode prog_4_method_1_code 17 = .ok (.aload_n 0, 1) := by decide +kernel
theorem d1_18 : decode prog_4_method_1_code 18 = .ok (.aload_n 0, 1) := by decide +kernel
theorem d1_19 : decode prog_4_method_1_code 19 = .ok (.getfield 15, 3) := by decide +kernel
theorem d1_22 : decode prog_4_method_1_code 22 = .ok (.iconst 1, 1) := by decide +kernel
theorem d1_23 : decode prog_4_method_1_code 23 = .ok (.iadd, 1) := by decide +kernel
theorem d1_24 : decode prog_4_method_1_code 24 = .ok (.iload_n 2, 1) := by decide +kernel
theorem d1_25 : decode prog_4_method_1_code 25 = .ok (.iadd, 1) := by decide +kernel
theorem d1_26 : decode prog_4_method_1_code 26 = .ok (.putfield 22, 3) := by decide +kernel
theorem d1_29 : decode prog_4_method_1_code 29 = .ok (.aload_n 0, 1) := by decide +kernel
theorem d1_30 : decode prog_4_method_1_code 30 = .ok (.lconst 1, 1) := by decide +kernel
theorem d1_31 : decode prog_4_method_1_code 31 = .ok (.aload_n 0, 1) := by decide +kernel
theorem d1_32 : decode prog_4_method_1_code 32 = .ok (.getfield 15, 3) := by decide +kernel
theorem d1_35 : decode prog_4_method_1_code 35 = .ok (.lshl, 1) := by decide +kernel
theorem d1_36 : decode prog_4_method_1_code 36 = .ok (.lconst 1, 1) := by decide +kernel
theorem d1_37 : decode prog_4_method_1_code 37 = .ok (.lsub, 1) := by decide +kernel
theorem d1_38 : decode prog_4_method_1_code 38 = .ok (.putfield 25, 3) := by decide +kernel
theorem d1_41 : decode prog_4_method_1_code 41 = .ok (.aload_n 0, 1) := by decide +kernel
theorem d1_42 : decode prog_4_method_1_code 42 = .ok (.lconst 1, 1) := by decide +kernel
theorem d1_43 : decode prog_4_method_1_code 43 = .ok (.iload_n 2, 1) := by decide +kernel
theorem d1_44 : decode prog_4_method_1_code 44 = .ok (.lshl, 1) := by decide +kernel
theorem d1_45 : decode prog_4_method_1_code 45 = .ok (.lconst 1, 1) := by decide +kernel
theorem d1_46 : decode prog_4_method_1_code 46 = .ok (.lsub, 1) := by decide +kernel
theorem d1_47 : decode prog_4_method_1_code 47 = .ok (.putfield 29, 3) := by decide +kernel
theorem d1_50 : decode prog_4_method_1_code 50 = .ok (.aload_n 0, 1) := by decide +kernel
theorem d1_51 : decode prog_4_method_1_code 51 = .ok (.lconst 1, 1) := by decide +kernel
theorem d1_52 : decode prog_4_method_1_code 52 = .ok (.iload_n 2, 1) := by decide +kernel
theorem d1_53 : decode prog_4_method_1_code 53 = .ok (.iconst 1, 1) := by decide +kernel
theorem d1_54 : decode prog_4_method_1_code 54 = .ok (.iadd, 1) := by decide +kernel
theorem d1_55 : decode prog_4_method_1_code 55 = .ok (.lshl, 1) := by decide +kernel
theorem d1_56 : decode prog_4_method_1_code 56 = .ok (.lconst 1, 1) := by decide +kernel
theorem d1_57 : decode prog_4_method_1_code 57 = .ok (.lsub, 1) := by decide +kernel
theorem d1_58 : decode prog_4_method_1_code 58 = .ok (.putfield 32, 3) := by decide +kernel
theorem d1_61 : decode prog_4_method_1_code 61 = .ok (.aload_n 0, 1) := by decide +kernel
theorem d1_62 : decode prog_4_method_1_code 62 = .ok (.lconst 1, 1) := by decide +kernel
theorem d1_63 : decode prog_4_method_1_code 63 = .ok (.iload_n 2, 1) := by decide +kernel
theorem d1_64 : decode prog_4_method_1_code 64 = .ok (.lshl, 1) := by decide +kernel
theorem d1_65 : decode prog_4_method_1_code 65 = .ok (.putfield 35, 3) := by decide +kernel
theorem d1_68 : decode prog_4_method_1_code 68 = .ok (.return_, 1) := by decide +kernel
theorem ef1 (m : MethodId) (y0 : Addr) (y1 : Int32) (y2 : Int32) : entryFrame m #[(.ref y0), (.int y1), (.int y2)] 3 = mkF m 0 #[.val (.ref y0), .val (.int y1), .val (.int y2)] [] := by first | (simp [entryFrame, mkF, argsToLocals, Value.category]; done) | rfl
def Q1 (Z : State) (a1 : Addr) (c0 : Nat) (pb : Nat) (h0 : Heap) (n0 : Nat) (v : Option Value) (h : Heap) (L : List Loc) : Prop := v = none ∧ Fr n0 L ∧ Keep h0 h [a1] ∧ ∃ B : Nat, B ≤ 31 ∧ 2 ^ B ≤ c0 + 1 ∧ c0 + 1 < 2 ^ (B + 1) ∧ Fld Z h a1 "com/example/dense_trie/densetrie/CellFields" "labelBits" "I" (.int (Int32.ofNat (B + 1))) ∧ Fld Z h a1 "com/example/dense_trie/densetrie/CellFields" "payloadBits" "I" (.int (Int32.ofNat pb)) ∧ Fld Z h a1 "com/example/dense_trie/densetrie/CellFields" "reachMask" "J" (.long (((1 : Int64) <<< (((Int32.ofNat pb) + (1 : Int32)) &&& 0x3f).toInt64) - (1 : Int64))) ∧ Fld Z h a1 "com/example/dense_trie/densetrie/CellFields" "valueFlag" "J" (.long ((1 : Int64) <<< ((Int32.ofNat pb) &&& 0x3f).toInt64))
set_option maxRecDepth 65536 in
set_option maxHeartbeats 40000000 in
theorem rm1 (l : Launch) (Z : State) (a0 : Array Value) (hw : ∀ d ∈ tables_1, d.before a0 Z = true) (ws : List Jvm.Cond) (a1 : Addr) (c0 : Nat) (pb : Nat) (h0 : Heap) (n0 : Nat) (Z0 : n0 ≤ h0.size) (hc0 : c0 < 2147483648) (Ea : Exa Z h0 a1 "com/example/dense_trie/densetrie/CellFields") (F_labelBits : Fld Z h0 a1 "com/example/dense_trie/densetrie/CellFields" "labelBits" "I" (.int (0 : Int32))) (F_payloadBits : Fld Z h0 a1 "com/example/dense_trie/densetrie/CellFields" "payloadBits" "I" (.int (0 : Int32))) (F_cellBits : Fld Z h0 a1 "com/example/dense_trie/densetrie/CellFields" "cellBits" "I" (.int (0 : Int32))) (F_labelMask : Fld Z h0 a1 "com/example/dense_trie/densetrie/CellFields" "labelMask" "J" (.long (0 : Int64))) (F_payloadMask : Fld Z h0 a1 "com/example/dense_trie/densetrie/CellFields" "payloadMask" "J" (.long (0 : Int64))) (F_reachMask : Fld Z h0 a1 "com/example/dense_trie/densetrie/CellFields" "reachMask" "J" (.long (0 : Int64))) (F_valueFlag : Fld Z h0 a1 "com/example/dense_trie/densetrie/CellFields" "valueFlag" "J" (.long (0 : Int64))) (ga : n0 ≤ a1) :
    MetFree l (⟨"com/example/dense_trie/densetrie/CellFields", "<init>", "(II)V"⟩ : MethodName) (head1 (Jvm.Cond.code (⟨"com/example/dense_trie/densetrie/CellFields", "<init>", "(II)V"⟩ : MethodName) prog_4_method_1_code 3 none :: ws) ({ frames := 4, cells := 0, slots := 0, locals := 55 } : Room)) (fun a U => a = #[(.ref a1), (.int (Int32.ofNat c0)), (.int (Int32.ofNat pb))] ∧ Z.Warmed39 U.vm ∧ U.heap = h0) (fun _ _ _ _ _ => True) (fun _ U o U' => ∃ v L, o = .returned v ∧ Q1 Z a1 c0 pb h0 n0 v U'.heap L ∧ FrameEnd U o U' L ({ frames := 4, cells := 0, slots := 0, locals := 55 } : Room).cells ({ frames := 4, cells := 0, slots := 0, locals := 55 } : Room).slots) := by
  refine MetFree.of_bodySF (plainFor_of_name pn_com_example_dense_trie_densetrie_CellFields) hisR ?_
  intro p e s m args below meth c s₁ Bd hml0 hP hK
  obtain ⟨rfl, hZ, hh⟩ := hP
  have hx := Bd.exec
  have hby := Bd.bytes
  have hml : c.maxLocals = 3 := hml0
  have hown : s.vm.findClass "com/example/dense_trie/densetrie/CellFields" = some m.cls := findClass_of_methodNamed Bd.named
  have hnm := (name_of_methodNamed Bd.named Bd.method).1
  have X0 : Stand p l e ({ frames := 4, cells := 0, slots := 0, locals := 55 } : Room) s m #[(.ref a1), (.int (Int32.ofNat c0)), (.int (Int32.ofNat pb))] below meth c s₁ [] 0 0 := Stand.of_body Bd
  have eh0 : s₁.heap = h0 := by rw [← hh, Bd.state]; rfl
  have N0 := Fr.nil n0
  refine Gq.start (Q := Q1 Z a1 c0 pb h0 n0) (kc := ({ frames := 4, cells := 0, slots := 0, locals := 55 } : Room).cells) (ks := ({ frames := 4, cells := 0, slots := 0, locals := 55 } : Room).slots) (ef1 m a1 (Int32.ofNat c0) (Int32.ofNat pb)) ?_
  refine Gq.go (s₁.setTop (mkF m 1 #[.val (.ref a1), .val (.int (Int32.ofNat c0)), .val (.int (Int32.ofNat pb))] [(.ref a1)])) (fun tt_ kk_ => XS.aloadN X0.here hx rfl (hb hby d1_0) rfl rfl kk_) ?_
  obtain ⟨T1, X1, eh1, st1⟩ := initO X0 hx hZ hown (hw _ (List.mem_of_getElem? (i := 7) rfl)) (hw _ (List.mem_of_getElem? (i := 8) rfl)) (hw _ (List.mem_of_getElem? (i := 9) rfl)) eh0 (g := (mkF m 1 #[.val (.ref a1), .val (.int (Int32.ofNat c0)), .val (.int (Int32.ofNat pb))] [(.ref a1)])) rfl (by rw [hml]; rfl) rfl (hb hby d1_1) (by decide) (W := 0) (by show 2 * 0 + _ ≤ _; exact Nat.le_of_eq rfl) (by decide)
  refine Gq.go (T1.setTop (mkF m 4 #[.val (.ref a1), .val (.int (Int32.ofNat c0)), .val (.int (Int32.ofNat pb))] [])) (fun tt_ kk_ => st1 _ kk_) ?_
  refine Gq.go (T1.setTop (mkF m 5 #[.val (.ref a1), .val (.int (Int32.ofNat c0)), .val (.int (Int32.ofNat pb))] [(.ref a1)])) (fun tt_ kk_ => XS.aloadN X1.here hx rfl (hb hby d1_4) rfl rfl kk_) ?_
  refine Gq.go (T1.setTop (mkF m 6 #[.val (.ref a1), .val (.int (Int32.ofNat c0)), .val (.int (Int32.ofNat pb))] [(.int (Int32.ofNat c0)), (.ref a1)])) (fun tt_ kk_ => XS.iloadN X1.here hx rfl (hb hby d1_5) rfl kk_) ?_
  obtain ⟨r2, T2, L2, X2, hQ2, st2⟩ := callT (pc := 6) (Ls := #[.val (.ref a1), .val (.int (Int32.ofNat c0)), .val (.int (Int32.ofNat pb))]) X1 hx hZ hown eh1 [(.int (Int32.ofNat c0))] [(.ref a1)] (hw _ (List.mem_of_getElem? (i := 10) rfl)) (hw _ (List.mem_of_getElem? (i := 11) rfl)) (hw _ (List.mem_of_getElem? (i := 3) rfl)) (hw _ (List.mem_of_getElem? (i := 12) rfl)) (by decide) (rm3 l Z a0 hw [] c0 h0 n0 Z0 hc0) pd_0 rfl (by rw [hml]; rfl) (W := 1) (Nat.le_of_eq rfl) (by decide) (by decide) (by decide) (by decide) (hb hby d1_6)
  obtain ⟨⟨B, rfl, hB1, hB2, hB3⟩, N2q, eh2⟩ := hQ2
  have N2 := Fr.app N0 N2q
  refine Gq.go (T2.setTop (mkF m 9 #[.val (.ref a1), .val (.int (Int32.ofNat c0)), .val (.int (Int32.ofNat pb))] [(.int (Int32.ofNat (B + 1))), (.ref a1)])) (fun tt_ kk_ => st2 tt_ kk_) ?_
  obtain ⟨T3, h3, X3, eh3, W3, st3⟩ := putF X2 hx hZ hown (host := "") (Or.inl (hw _ (List.mem_of_getElem? (i := 25) rfl))) Via.refl eh2 F_labelBits Ea (Or.inr ⟨(hw _ (List.mem_of_getElem? (i := 26) rfl)), rfl, hnm⟩) (hw _ (List.mem_of_getElem? (i := 2) rfl)) (ty := .int) (by decide) rfl rfl (g := (mkF m 9 #[.val (.ref a1), .val (.int (Int32.ofNat c0)), .val (.int (Int32.ofNat pb))] [(.int (Int32.ofNat (B + 1))), (.ref a1)])) rfl rfl (hb hby d1_9)
  have Fw3 := F_labelBits.same W3
  have fa4 := Ea.wr W3
  have fa5 := F_payloadBits.other W3 (Or.inr (slot_ne (Or.inr (hw _ (List.mem_of_getElem? (i := 28) rfl))) (Or.inr (hw _ (List.mem_of_getElem? (i := 26) rfl))) (by decide) (t := .int) (t' := .int) (by decide) (by decide)))
  have fa6 := F_cellBits.other W3 (Or.inr (slot_ne (Or.inr (hw _ (List.mem_of_getElem? (i := 30) rfl))) (Or.inr (hw _ (List.mem_of_getElem? (i := 26) rfl))) (by decide) (t := .int) (t' := .int) (by decide) (by decide)))
  have fa7 := F_labelMask.other W3 (Or.inr (slot_ne (Or.inr (hw _ (List.mem_of_getElem? (i := 32) rfl))) (Or.inr (hw _ (List.mem_of_getElem? (i := 26) rfl))) (by decide) (t := .long) (t' := .int) (by decide) (by decide)))
  have fa8 := F_payloadMask.other W3 (Or.inr (slot_ne (Or.inr (hw _ (List.mem_of_getElem? (i := 34) rfl))) (Or.inr (hw _ (List.mem_of_getElem? (i := 26) rfl))) (by decide) (t := .long) (t' := .int) (by decide) (by decide)))
  have fa9 := F_reachMask.other W3 (Or.inr (slot_ne (Or.inr (hw _ (List.mem_of_getElem? (i := 36) rfl))) (Or.inr (hw _ (List.mem_of_getElem? (i := 26) rfl))) (by decide) (t := .long) (t' := .int) (by decide) (by decide)))
  have fa10 := F_valueFlag.other W3 (Or.inr (slot_ne (Or.inr (hw _ (List.mem_of_getElem? (i := 38) rfl))) (Or.inr (hw _ (List.mem_of_getElem? (i := 26) rfl))) (by decide) (t := .long) (t' := .int) (by decide) (by decide)))
  have za11 : n0 ≤ h3.size := Nat.le_trans Z0 (Nat.le_of_eq W3.size.symm)
  have Ka12 := (Keep.refl h0 [a1]).wr W3 (Or.inl (List.mem_of_getElem? (i := 0) rfl))
  have N3 := Fr.snoc X3 N2 ga
  refine Gq.go (T3.setTop (mkF m 12 #[.val (.ref a1), .val (.int (Int32.ofNat c0)), .val (.int (Int32.ofNat pb))] [])) (fun tt_ kk_ => st3 _ kk_) ?_
  refine Gq.go (T3.setTop (mkF m 13 #[.val (.ref a1), .val (.int (Int32.ofNat c0)), .val (.int (Int32.ofNat pb))] [(.ref a1)])) (fun tt_ kk_ => XS.aloadN X3.here hx rfl (hb hby d1_12) rfl rfl kk_) ?_
  refine Gq.go (T3.setTop (mkF m 14 #[.val (.ref a1), .val (.int (Int32.ofNat c0)), .val (.int (Int32.ofNat pb))] [(.int (Int32.ofNat pb)), (.ref a1)])) (fun tt_ kk_ => XS.iloadN X3.here hx rfl (hb hby d1_13) rfl kk_) ?_
  obtain ⟨T13, h13, X13, eh13, W13, st13⟩ := putF X3 hx hZ hown (host := "") (Or.inl (hw _ (List.mem_of_getElem? (i := 27) rfl))) Via.refl eh3 fa5 fa4 (Or.inr ⟨(hw _ (List.mem_of_getElem? (i := 28) rfl)), rfl, hnm⟩) (hw _ (List.mem_of_getElem? (i := 2) rfl)) (ty := .int) (by decide) rfl rfl (g := (mkF m 14 #[.val (.ref a1), .val (.int (Int32.ofNat c0)), .val (.int (Int32.ofNat pb))] [(.int (Int32.ofNat pb)), (.ref a1)])) rfl rfl (hb hby d1_14)
  have Fw13 := fa5.same W13
  have fa14 := fa4.wr W13
  have fa15 := fa6.other W13 (Or.inr (slot_ne (Or.inr (hw _ (List.mem_of_getElem? (i := 30) rfl))) (Or.inr (hw _ (List.mem_of_getElem? (i := 28) rfl))) (by decide) (t := .int) (t' := .int) (by decide) (by decide)))
  have fa16 := fa7.other W13 (Or.inr (slot_ne (Or.inr (hw _ (List.mem_of_getElem? (i := 32) rfl))) (Or.inr (hw _ (List.mem_of_getElem? (i := 28) rfl))) (by decide) (t := .long) (t' := .int) (by decide) (by decide)))
  have fa17 := fa8.other W13 (Or.inr (slot_ne (Or.inr (hw _ (List.mem_of_getElem? (i := 34) rfl))) (Or.inr (hw _ (List.mem_of_getElem? (i := 28) rfl))) (by decide) (t := .long) (t' := .int) (by decide) (by decide)))
  have fa18 := fa9.other W13 (Or.inr (slot_ne (Or.inr (hw _ (List.mem_of_getElem? (i := 36) rfl))) (Or.inr (hw _ (List.mem_of_getElem? (i := 28) rfl))) (by decide) (t := .long) (t' := .int) (by decide) (by decide)))
  have fa19 := fa10.other W13 (Or.inr (slot_ne (Or.inr (hw _ (List.mem_of_getElem? (i := 38) rfl))) (Or.inr (hw _ (List.mem_of_getElem? (i := 28) rfl))) (by decide) (t := .long) (t' := .int) (by decide) (by decide)))
  have fa20 := Fw3.other W13 (Or.inr (slot_ne (Or.inr (hw _ (List.mem_of_getElem? (i := 26) rfl))) (Or.inr (hw _ (List.mem_of_getElem? (i := 28) rfl))) (by decide) (t := .int) (t' := .int) (by decide) (by decide)))
  have za21 : n0 ≤ h13.size := Nat.le_trans za11 (Nat.le_of_eq W13.size.symm)
  have Ka22 := Ka12.wr W13 (Or.inl (List.mem_of_getElem? (i := 0) rfl))
  have N13 := Fr.snoc X13 N3 ga
  refine Gq.go (T13.setTop (mkF m 17 #[.val (.ref a1), .val (.int (Int32.ofNat c0)), .val (.int (Int32.ofNat pb))] [])) (fun tt_ kk_ => st13 _ kk_) ?_
  refine Gq.go (T13.setTop (mkF m 18 #[.val (.ref a1), .val (.int (Int32.ofNat c0)), .val (.int (Int32.ofNat pb))] [(.ref a1)])) (fun tt_ kk_ => XS.aloadN X13.here hx rfl (hb hby d1_17) rfl rfl kk_) ?_
  refine Gq.go (T13.setTop (mkF m 19 #[.val (.ref a1), .val (.int (Int32.ofNat c0)), .val (.int (Int32.ofNat pb))] [(.ref a1), (.ref a1)])) (fun tt_ kk_ => XS.aloadN X13.here hx rfl (hb hby d1_18) rfl rfl kk_) ?_
  obtain ⟨T23, X23, eh23, st23⟩ := getF X13 hx hZ hown (host := "") (Or.inl (hw _ (List.mem_of_getElem? (i := 25) rfl))) Via.refl eh13 fa20 (g := (mkF m 19 #[.val (.ref a1), .val (.int (Int32.ofNat c0)), .val (.int (Int32.ofNat pb))] [(.ref a1), (.ref a1)])) rfl rfl (hb hby d1_19)
  refine Gq.go (T23.setTop (mkF m 22 #[.val (.ref a1), .val (.int (Int32.ofNat c0)), .val (.int (Int32.ofNat pb))] [(.int (Int32.ofNat (B + 1))), (.ref a1)])) (fun tt_ kk_ => st23 _ kk_) ?_
  refine Gq.go (T23.setTop (mkF m 23 #[.val (.ref a1), .val (.int (Int32.ofNat c0)), .val (.int (Int32.ofNat pb))] [(.int (1 : Int32)), (.int (Int32.ofNat (B + 1))), (.ref a1)])) (fun tt_ kk_ => XS.iconst X23.here hx rfl (hb hby d1_22) kk_) ?_
  refine Gq.go (T23.setTop (mkF m 24 #[.val (.ref a1), .val (.int (Int32.ofNat c0)), .val (.int (Int32.ofNat pb))] [(.int ((Int32.ofNat (B + 1)) + (1 : Int32))), (.ref a1)])) (fun tt_ kk_ => XS.iadd X23.here hx rfl (hb hby d1_23) rfl kk_) ?_
  refine Gq.go (T23.setTop (mkF m 25 #[.val (.ref a1), .val (.int (Int32.ofNat c0)), .val (.int (Int32.ofNat pb))] [(.int (Int32.ofNat pb)), (.int ((Int32.ofNat (B + 1)) + (1 : Int32))), (.ref a1)])) (fun tt_ kk_ => XS.iloadN X23.here hx rfl (hb hby d1_24) rfl kk_) ?_
  refine Gq.go (T23.setTop (mkF m 26 #[.val (.ref a1), .val (.int (Int32.ofNat c0)), .val (.int (Int32.ofNat pb))] [(.int (((Int32.ofNat (B + 1)) + (1 : Int32)) + (Int32.ofNat pb))), (.ref a1)])) (fun tt_ kk_ => XS.iadd X23.here hx rfl (hb hby d1_25) rfl kk_) ?_
  obtain ⟨T24, h24, X24, eh24, W24, st24⟩ := putF X23 hx hZ hown (host := "") (Or.inl (hw _ (List.mem_of_getElem? (i := 29) rfl))) Via.refl eh23 fa15 fa14 (Or.inr ⟨(hw _ (List.mem_of_getElem? (i := 30) rfl)), rfl, hnm⟩) (hw _ (List.mem_of_getElem? (i := 2) rfl)) (ty := .int) (by decide) rfl rfl (g := (mkF m 26 #[.val (.ref a1), .val (.int (Int32.ofNat c0)), .val (.int (Int32.ofNat pb))] [(.int (((Int32.ofNat (B + 1)) + (1 : Int32)) + (Int32.ofNat pb))), (.ref a1)])) rfl rfl (hb hby d1_26)
  have Fw24 := fa15.same W24
  have fa25 := fa14.wr W24
  have fa26 := fa16.other W24 (Or.inr (slot_ne (Or.inr (hw _ (List.mem_of_getElem? (i := 32) rfl))) (Or.inr (hw _ (List.mem_of_getElem? (i := 30) rfl))) (by decide) (t := .long) (t' := .int) (by decide) (by decide)))
  have fa27 := fa17.other W24 (Or.inr (slot_ne (Or.inr (hw _ (List.mem_of_getElem? (i := 34) rfl))) (Or.inr (hw _ (List.mem_of_getElem? (i := 30) rfl))) (by decide) (t := .long) (t' := .int) (by decide) (by decide)))
  have fa28 := fa18.other W24 (Or.inr (slot_ne (Or.inr (hw _ (List.mem_of_getElem? (i := 36) rfl))) (Or.inr (hw _ (List.mem_of_getElem? (i := 30) rfl))) (by decide) (t := .long) (t' := .int) (by decide) (by decide)))
  have fa29 := fa19.other W24 (Or.inr (slot_ne (Or.inr (hw _ (List.mem_of_getElem? (i := 38) rfl))) (Or.inr (hw _ (List.mem_of_getElem? (i := 30) rfl))) (by decide) (t := .long) (t' := .int) (by decide) (by decide)))
  have fa30 := fa20.other W24 (Or.inr (slot_ne (Or.inr (hw _ (List.mem_of_getElem? (i := 26) rfl))) (Or.inr (hw _ (List.mem_of_getElem? (i := 30) rfl))) (by decide) (t := .int) (t' := .int) (by decide) (by decide)))
  have fa31 := Fw13.other W24 (Or.inr (slot_ne (Or.inr (hw _ (List.mem_of_getElem? (i := 28) rfl))) (Or.inr (hw _ (List.mem_of_getElem? (i := 30) rfl))) (by decide) (t := .int) (t' := .int) (by decide) (by decide)))
  have za32 : n0 ≤ h24.size := Nat.le_trans za21 (Nat.le_of_eq W24.size.symm)
  have Ka33 := Ka22.wr W24 (Or.inl (List.mem_of_getElem? (i := 0) rfl))
  have N24 := Fr.snoc X24 N13 ga
  refine Gq.go (T24.setTop (mkF m 29 #[.val (.ref a1), .val (.int (Int32.ofNat c0)), .val (.int (Int32.ofNat pb))] [])) (fun tt_ kk_ => st24 _ kk_) ?_
  refine Gq.go (T24.setTop (mkF m 30 #[.val (.ref a1), .val (.int (Int32.ofNat c0)), .val (.int (Int32.ofNat pb))] [(.ref a1)])) (fun tt_ kk_ => XS.aloadN X24.here hx rfl (hb hby d1_29) rfl rfl kk_) ?_
  refine Gq.go (T24.setTop (mkF m 31 #[.val (.ref a1), .val (.int (Int32.ofNat c0)), .val (.int (Int32.ofNat pb))] [(.long (1 : Int64)), (.ref a1)])) (fun tt_ kk_ => XS.lconst X24.here hx rfl (hb hby d1_30) kk_) ?_
  refine Gq.go (T24.setTop (mkF m 32 #[.val (.ref a1), .val (.int (Int32.ofNat c0)), .val (.int (Int32.ofNat pb))] [(.ref a1), (.long (1 : Int64)), (.ref a1)])) (fun tt_ kk_ => XS.aloadN X24.here hx rfl (hb hby d1_31) rfl rfl kk_) ?_
  obtain ⟨T34, X34, eh34, st34⟩ := getF X24 hx hZ hown (host := "") (Or.inl (hw _ (List.mem_of_getElem? (i := 25) rfl))) Via.refl eh24 fa30 (g := (mkF m 32 #[.val (.ref a1), .val (.int (Int32.ofNat c0)), .val (.int (Int32.ofNat pb))] [(.ref a1), (.long (1 : Int64)), (.ref a1)])) rfl rfl (hb hby d1_32)
  refine Gq.go (T34.setTop (mkF m 35 #[.val (.ref a1), .val (.int (Int32.ofNat c0)), .val (.int (Int32.ofNat pb))] [(.int (Int32.ofNat (B + 1))), (.long (1 : Int64)), (.ref a1)])) (fun tt_ kk_ => st34 _ kk_) ?_
  refine Gq.go (T34.setTop (mkF m 36 #[.val (.ref a1), .val (.int (Int32.ofNat c0)), .val (.int (Int32.ofNat pb))] [(.long ((1 : Int64) <<< ((Int32.ofNat (B + 1)) &&& 0x3f).toInt64)), (.ref a1)])) (fun tt_ kk_ => XS.lshl X34.here hx rfl (hb hby d1_35) rfl kk_) ?_
  refine Gq.go (T34.setTop (mkF m 37 #[.val (.ref a1), .val (.int (Int32.ofNat c0)), .val (.int (Int32.ofNat pb))] [(.long (1 : Int64)), (.long ((1 : Int64) <<< ((Int32.ofNat (B + 1)) &&& 0x3f).toInt64)), (.ref a1)])) (fun tt_ kk_ => XS.lconst X34.here hx rfl (hb hby d1_36) kk_) ?_
  refine Gq.go (T34.setTop (mkF m 38 #[.val (.ref a1), .val (.int (Int32.ofNat c0)), .val (.int (Int32.ofNat pb))] [(.long (((1 : Int64) <<< ((Int32.ofNat (B + 1)) &&& 0x3f).toInt64) - (1 : Int64))), (.ref a1)])) (fun tt_ kk_ => XS.lsub X34.here hx rfl (hb hby d1_37) rfl kk_) ?_
  obtain ⟨T35, h35, X35, eh35, W35, st35⟩ := putF X34 hx hZ hown (host := "") (Or.inl (hw _ (List.mem_of_getElem? (i := 31) rfl))) Via.refl eh34 fa26 fa25 (Or.inr ⟨(hw _ (List.mem_of_getElem? (i := 32) rfl)), rfl, hnm⟩) (hw _ (List.mem_of_getElem? (i := 2) rfl)) (ty := .long) (by decide) rfl rfl (g := (mkF m 38 #[.val (.ref a1), .val (.int (Int32.ofNat c0)), .val (.int (Int32.ofNat pb))] [(.long (((1 : Int64) <<< ((Int32.ofNat (B + 1)) &&& 0x3f).toInt64) - (1 : Int64))), (.ref a1)])) rfl rfl (hb hby d1_38)
  have Fw35 := fa26.same W35
  have fa36 := fa25.wr W35
  have fa37 := fa27.other W35 (Or.inr (slot_ne (Or.inr (hw _ (List.mem_of_getElem? (i := 34) rfl))) (Or.inr (hw _ (List.mem_of_getElem? (i := 32) rfl))) (by decide) (t := .long) (t' := .long) (by decide) (by decide)))
  have fa38 := fa28.other W35 (Or.inr (slot_ne (Or.inr (hw _ (List.mem_of_getElem? (i := 36) rfl))) (Or.inr (hw _ (List.mem_of_getElem? (i := 32) rfl))) (by decide) (t := .long) (t' := .long) (by decide) (by decide)))
  have fa39 := fa29.other W35 (Or.inr (slot_ne (Or.inr (hw _ (List.mem_of_getElem? (i := 38) rfl))) (Or.inr (hw _ (List.mem_of_getElem? (i := 32) rfl))) (by decide) (t := .long) (t' := .long) (by decide) (by decide)))
  have fa40 := fa30.other W35 (Or.inr (slot_ne (Or.inr (hw _ (List.mem_of_getElem? (i := 26) rfl))) (Or.inr (hw _ (List.mem_of_getElem? (i := 32) rfl))) (by decide) (t := .int) (t' := .long) (by decide) (by decide)))
  have fa41 := fa31.other W35 (Or.inr (slot_ne (Or.inr (hw _ (List.mem_of_getElem? (i := 28) rfl))) (Or.inr (hw _ (List.mem_of_getElem? (i := 32) rfl))) (by decide) (t := .int) (t' := .long) (by decide) (by decide)))
  have fa42 := Fw24.other W35 (Or.inr (slot_ne (Or.inr (hw _ (List.mem_of_getElem? (i := 30) rfl))) (Or.inr (hw _ (List.mem_of_getElem? (i := 32) rfl))) (by decide) (t := .int) (t' := .long) (by decide) (by decide)))
  have za43 : n0 ≤ h35.size := Nat.le_trans za32 (Nat.le_of_eq W35.size.symm)
  have Ka44 := Ka33.wr W35 (Or.inl (List.mem_of_getElem? (i := 0) rfl))
  have N35 := Fr.snoc X35 N24 ga
  refine Gq.go (T35.setTop (mkF m 41 #[.val (.ref a1), .val (.int (Int32.ofNat c0)), .val (.int (Int32.ofNat pb))] [])) (fun tt_ kk_ => st35 _ kk_) ?_
  refine Gq.go (T35.setTop (mkF m 42 #[.val (.ref a1), .val (.int (Int32.ofNat c0)), .val (.int (Int32.ofNat pb))] [(.ref a1)])) (fun tt_ kk_ => XS.aloadN X35.here hx rfl (hb hby d1_41) rfl rfl kk_) ?_
  refine Gq.go (T35.setTop (mkF m 43 #[.val (.ref a1), .val (.int (Int32.ofNat c0)), .val (.int (Int32.ofNat pb))] [(.long (1 : Int64)), (.ref a1)])) (fun tt_ kk_ => XS.lconst X35.here hx rfl (hb hby d1_42) kk_) ?_
  refine Gq.go (T35.setTop (mkF m 44 #[.val (.ref a1), .val (.int (Int32.ofNat c0)), .val (.int (Int32.ofNat pb))] [(.int (Int32.ofNat pb)), (.long (1 : Int64)), (.ref a1)])) (fun tt_ kk_ => XS.iloadN X35.here hx rfl (hb hby d1_43) rfl kk_) ?_
  refine Gq.go (T35.setTop (mkF m 45 #[.val (.ref a1), .val (.int (Int32.ofNat c0)), .val (.int (Int32.ofNat pb))] [(.long ((1 : Int64) <<< ((Int32.ofNat pb) &&& 0x3f).toInt64)), (.ref a1)])) (fun tt_ kk_ => XS.lshl X35.here hx rfl (hb hby d1_44) rfl kk_) ?_
  refine Gq.go (T35.setTop (mkF m 46 #[.val (.ref a1), .val (.int (Int32.ofNat c0)), .val (.int (Int32.ofNat pb))] [(.long (1 : Int64)), (.long ((1 : Int64) <<< ((Int32.ofNat pb) &&& 0x3f).toInt64)), (.ref a1)])) (fun tt_ kk_ => XS.lconst X35.here hx rfl (hb hby d1_45) kk_) ?_
  refine Gq.go (T35.setTop (mkF m 47 #[.val (.ref a1), .val (.int (Int32.ofNat c0)), .val (.int (Int32.ofNat pb))] [(.long (((1 : Int64) <<< ((Int32.ofNat pb) &&& 0x3f).toInt64) - (1 : Int64))), (.ref a1)])) (fun tt_ kk_ => XS.lsub X35.here hx rfl (hb hby d1_46) rfl kk_) ?_
  obtain ⟨T45, h45, X45, eh45, W45, st45⟩ := putF X35 hx hZ hown (host := "") (Or.inl (hw _ (List.mem_of_getElem? (i := 33) rfl))) Via.refl eh35 fa37 fa36 (Or.inr ⟨(hw _ (List.mem_of_getElem? (i := 34) rfl)), rfl, hnm⟩) (hw _ (List.mem_of_getElem? (i := 2) rfl)) (ty := .long) (by decide) rfl rfl (g := (mkF m 47 #[.val (.ref a1), .val (.int (Int32.ofNat c0)), .val (.int (Int32.ofNat pb))] [(.long (((1 : Int64) <<< ((Int32.ofNat pb) &&& 0x3f).toInt64) - (1 : Int64))), (.ref a1)])) rfl rfl (hb hby d1_47)
  have Fw45 := fa37.same W45
  have fa46 := fa36.wr W45
  have fa47 := fa38.other W45 (Or.inr (slot_ne (Or.inr (hw _ (List.mem_of_getElem? (i := 36) rfl))) (Or.inr (hw _ (List.mem_of_getElem? (i := 34) rfl))) (by decide) (t := .long) (t' := .long) (by decide) (by decide)))
  have fa48 := fa39.other W45 (Or.inr (slot_ne (Or.inr (hw _ (List.mem_of_getElem? (i := 38) rfl))) (Or.inr (hw _ (List.mem_of_getElem? (i := 34) rfl))) (by decide) (t := .long) (t' := .long) (by decide) (by decide)))
  have fa49 := fa40.other W45 (Or.inr (slot_ne (Or.inr (hw _ (List.mem_of_getElem? (i := 26) rfl))) (Or.inr (hw _ (List.mem_of_getElem? (i := 34) rfl))) (by decide) (t := .int) (t' := .long) (by decide) (by decide)))
  have fa50 := fa41.other W45 (Or.inr (slot_ne (Or.inr (hw _ (List.mem_of_getElem? (i := 28) rfl))) (Or.inr (hw _ (List.mem_of_getElem? (i := 34) rfl))) (by decide) (t := .int) (t' := .long) (by decide) (by decide)))
  have fa51 := fa42.other W45 (Or.inr (slot_ne (Or.inr (hw _ (List.mem_of_getElem? (i := 30) rfl))) (Or.inr (hw _ (List.mem_of_getElem? (i := 34) rfl))) (by decide) (t := .int) (t' := .long) (by decide) (by decide)))
  have fa52 := Fw35.other W45 (Or.inr (slot_ne (Or.inr (hw _ (List.mem_of_getElem? (i := 32) rfl))) (Or.inr (hw _ (List.mem_of_getElem? (i := 34) rfl))) (by decide) (t := .long) (t' := .long) (by decide) (by decide)))
  have za53 : n0 ≤ h45.size := Nat.le_trans za43 (Nat.le_of_eq W45.size.symm)
  have Ka54 := Ka44.wr W45 (Or.inl (List.mem_of_getElem? (i := 0) rfl))
  have N45 := Fr.snoc X45 N35 ga
  refine Gq.go (T45.setTop (mkF m 50 #[.val (.ref a1), .val (.int (Int32.ofNat c0)), .val (.int (Int32.ofNat pb))] [])) (fun tt_ kk_ => st45 _ kk_) ?_
  refine Gq.go (T45.setTop (mkF m 51 #[.val (.ref a1), .val (.int (Int32.ofNat c0)), .val (.int (Int32.ofNat pb))] [(.ref a1)])) (fun tt_ kk_ => XS.aloadN X45.here hx rfl (hb hby d1_50) rfl rfl kk_) ?_
  refine Gq.go (T45.setTop (mkF m 52 #[.val (.ref a1), .val (.int (Int32.ofNat c0)), .val (.int (Int32.ofNat pb))] [(.long (1 : Int64)), (.ref a1)])) (fun tt_ kk_ => XS.lconst X45.here hx rfl (hb hby d1_51) kk_) ?_
  refine Gq.go (T45.setTop (mkF m 53 #[.val (.ref a1), .val (.int (Int32.ofNat c0)), .val (.int (Int32.ofNat pb))] [(.int (Int32.ofNat pb)), (.long (1 : Int64)), (.ref a1)])) (fun tt_ kk_ => XS.iloadN X45.here hx rfl (hb hby d1_52) rfl kk_) ?_
  refine Gq.go (T45.setTop (mkF m 54 #[.val (.ref a1), .val (.int (Int32.ofNat c0)), .val (.int (Int32.ofNat pb))] [(.int (1 : Int32)), (.int (Int32.ofNat pb)), (.long (1 : Int64)), (.ref a1)])) (fun tt_ kk_ => XS.iconst X45.here hx rfl (hb hby d1_53) kk_) ?_
  refine Gq.go (T45.setTop (mkF m 55 #[.val (.ref a1), .val (.int (Int32.ofNat c0)), .val (.int (Int32.ofNat pb))] [(.int ((Int32.ofNat pb) + (1 : Int32))), (.long (1 : Int64)), (.ref a1)])) (fun tt_ kk_ => XS.iadd X45.here hx rfl (hb hby d1_54) rfl kk_) ?_
  refine Gq.go (T45.setTop (mkF m 56 #[.val (.ref a1), .val (.int (Int32.ofNat c0)), .val (.int (Int32.ofNat pb))] [(.long ((1 : Int64) <<< (((Int32.ofNat pb) + (1 : Int32)) &&& 0x3f).toInt64)), (.ref a1)])) (fun tt_ kk_ => XS.lshl X45.here hx rfl (hb hby d1_55) rfl kk_) ?_
  refine Gq.go (T45.setTop (mkF m 57 #[.val (.ref a1), .val (.int (Int32.ofNat c0)), .val (.int (Int32.ofNat pb))] [(.long (1 : Int64)), (.long ((1 : Int64) <<< (((Int32.ofNat pb) + (1 : Int32)) &&& 0x3f).toInt64)), (.ref a1)])) (fun tt_ kk_ => XS.lconst X45.here hx rfl (hb hby d1_56) kk_) ?_
  refine Gq.go (T45.setTop (mkF m 58 #[.val (.ref a1), .val (.int (Int32.ofNat c0)), .val (.int (Int32.ofNat pb))] [(.long (((1 : Int64) <<< (((Int32.ofNat pb) + (1 : Int32)) &&& 0x3f).toInt64) - (1 : Int64))), (.ref a1)])) (fun tt_ kk_ => XS.lsub X45.here hx rfl (hb hby d1_57) rfl kk_) ?_
  obtain ⟨T55, h55, X55, eh55, W55, st55⟩ := putF X45 hx hZ hown (host := "") (Or.inl (hw _ (List.mem_of_getElem? (i := 35) rfl))) Via.refl eh45 fa47 fa46 (Or.inr ⟨(hw _ (List.mem_of_getElem? (i := 36) rfl)), rfl, hnm⟩) (hw _ (List.mem_of_getElem? (i := 2) rfl)) (ty := .long) (by decide) rfl rfl (g := (mkF m 58 #[.val (.ref a1), .val (.int (Int32.ofNat c0)), .val (.int (Int32.ofNat pb))] [(.long (((1 : Int64) <<< (((Int32.ofNat pb) + (1 : Int32)) &&& 0x3f).toInt64) - (1 : Int64))), (.ref a1)])) rfl rfl (hb hby d1_58)
  have Fw55 := fa47.same W55
  have fa56 := fa46.wr W55
  have fa57 := fa48.other W55 (Or.inr (slot_ne (Or.inr (hw _ (List.mem_of_getElem? (i := 38) rfl))) (Or.inr (hw _ (List.mem_of_getElem? (i := 36) rfl))) (by decide) (t := .long) (t' := .long) (by decide) (by decide)))
  have fa58 := fa49.other W55 (Or.inr (slot_ne (Or.inr (hw _ (List.mem_of_getElem? (i := 26) rfl))) (Or.inr (hw _ (List.mem_of_getElem? (i := 36) rfl))) (by decide) (t := .int) (t' := .long) (by decide) (by decide)))
  have fa59 := fa50.other W55 (Or.inr (slot_ne (Or.inr (hw _ (List.mem_of_getElem? (i := 28) rfl))) (Or.inr (hw _ (List.mem_of_getElem? (i := 36) rfl))) (by decide) (t := .int) (t' := .long) (by decide) (by decide)))
  have fa60 := fa51.other W55 (Or.inr (slot_ne (Or.inr (hw _ (List.mem_of_getElem? (i := 30) rfl))) (Or.inr (hw _ (List.mem_of_getElem? (i := 36) rfl))) (by decide) (t := .int) (t' := .long) (by decide) (by decide)))
  have fa61 := fa52.other W55 (Or.inr (slot_ne (Or.inr (hw _ (List.mem_of_getElem? (i := 32) rfl))) (Or.inr (hw _ (List.mem_of_getElem? (i := 36) rfl))) (by decide) (t := .long) (t' := .long) (by decide) (by decide)))
  have fa62 := Fw45.other W55 (Or.inr (slot_ne (Or.inr (hw _ (List.mem_of_getElem? (i := 34) rfl))) (Or.inr (hw _ (List.mem_of_getElem? (i := 36) rfl))) (by decide) (t := .long) (t' := .long) (by decide) (by decide)))
  have za63 : n0 ≤ h55.size := Nat.le_trans za53 (Nat.le_of_eq W55.size.symm)
  have Ka64 := Ka54.wr W55 (Or.inl (List.mem_of_getElem? (i := 0) rfl))
  have N55 := Fr.snoc X55 N45 ga
  refine Gq.go (T55.setTop (mkF m 61 #[.val (.ref a1), .val (.int (Int32.ofNat c0)), .val (.int (Int32.ofNat pb))] [])) (fun tt_ kk_ => st55 _ kk_) ?_
  refine Gq.go (T55.setTop (mkF m 62 #[.val (.ref a1), .val (.int (Int32.ofNat c0)), .val (.int (Int32.ofNat pb))] [(.ref a1)])) (fun tt_ kk_ => XS.aloadN X55.here hx rfl (hb hby d1_61) rfl rfl kk_) ?_
  refine Gq.go (T55.setTop (mkF m 63 #[.val (.ref a1), .val (.int (Int32.ofNat c0)), .val (.int (Int32.ofNat pb))] [(.long (1 : Int64)), (.ref a1)])) (fun tt_ kk_ => XS.lconst X55.here hx rfl (hb hby d1_62) kk_) ?_
  refine Gq.go (T55.setTop (mkF m 64 #[.val (.ref a1), .val (.int (Int32.ofNat c0)), .val (.int (Int32.ofNat pb))] [(.int (Int32.ofNat pb)), (.long (1 : Int64)), (.ref a1)])) (fun tt_ kk_ => XS.iloadN X55.here hx rfl (hb hby d1_63) rfl kk_) ?_
  refine Gq.go (T55.setTop (mkF m 65 #[.val (.ref a1), .val (.int (Int32.ofNat c0)), .val (.int (Int32.ofNat pb))] [(.long ((1 : Int64) <<< ((Int32.ofNat pb) &&& 0x3f).toInt64)), (.ref a1)])) (fun tt_ kk_ => XS.lshl X55.here hx rfl (hb hby d1_64) rfl kk_) ?_
  obtain ⟨T65, h65, X65, eh65, W65, st65⟩ := putF X55 hx hZ hown (host := "") (Or.inl (hw _ (List.mem_of_getElem? (i := 37) rfl))) Via.refl eh55 fa57 fa56 (Or.inr ⟨(hw _ (List.mem_of_getElem? (i := 38) rfl)), rfl, hnm⟩) (hw _ (List.mem_of_getElem? (i := 2) rfl)) (ty := .long) (by decide) rfl rfl (g := (mkF m 65 #[.val (.ref a1), .val (.int (Int32.ofNat c0)), .val (.int (Int32.ofNat pb))] [(.long ((1 : Int64) <<< ((Int32.ofNat pb) &&& 0x3f).toInt64)), (.ref a1)])) rfl rfl (hb hby d1_65)
  have Fw65 := fa57.same W65
  have fa66 := fa56.wr W65
  have fa67 := fa58.other W65 (Or.inr (slot_ne (Or.inr (hw _ (List.mem_of_getElem? (i := 26) rfl))) (Or.inr (hw _ (List.mem_of_getElem? (i := 38) rfl))) (by decide) (t := .int) (t' := .long) (by decide) (by decide)))
  have fa68 := fa59.other W65 (Or.inr (slot_ne (Or.inr (hw _ (List.mem_of_getElem? (i := 28) rfl))) (Or.inr (hw _ (List.mem_of_getElem? (i := 38) rfl))) (by decide) (t := .int) (t' := .long) (by decide) (by decide)))
  have fa69 := fa60.other W65 (Or.inr (slot_ne (Or.inr (hw _ (List.mem_of_getElem? (i := 30) rfl))) (Or.inr (hw _ (List.mem_of_getElem? (i := 38) rfl))) (by decide) (t := .int) (t' := .long) (by decide) (by decide)))
  have fa70 := fa61.other W65 (Or.inr (slot_ne (Or.inr (hw _ (List.mem_of_getElem? (i := 32) rfl))) (Or.inr (hw _ (List.mem_of_getElem? (i := 38) rfl))) (by decide) (t := .long) (t' := .long) (by decide) (by decide)))
  have fa71 := fa62.other W65 (Or.inr (slot_ne (Or.inr (hw _ (List.mem_of_getElem? (i := 34) rfl))) (Or.inr (hw _ (List.mem_of_getElem? (i := 38) rfl))) (by decide) (t := .long) (t' := .long) (by decide) (by decide)))
  have fa72 := Fw55.other W65 (Or.inr (slot_ne (Or.inr (hw _ (List.mem_of_getElem? (i := 36) rfl))) (Or.inr (hw _ (List.mem_of_getElem? (i := 38) rfl))) (by decide) (t := .long) (t' := .long) (by decide) (by decide)))
  have za73 : n0 ≤ h65.size := Nat.le_trans za63 (Nat.le_of_eq W65.size.symm)
  have Ka74 := Ka64.wr W65 (Or.inl (List.mem_of_getElem? (i := 0) rfl))
  have N65 := Fr.snoc X65 N55 ga
  refine Gq.go (T65.setTop (mkF m 68 #[.val (.ref a1), .val (.int (Int32.ofNat c0)), .val (.int (Int32.ofNat pb))] [])) (fun tt_ kk_ => st65 _ kk_) ?_
  refine Gq.retV X65 hx Bd.notSynchronized Bd.returns (hb hby d1_68) (by decide) (by decide) ?_
  show Q1 Z a1 c0 pb h0 n0 _ T65.heap _
  rw [eh65]
  exact ⟨rfl, N65, Ka74, B, hB1, hB2, hB3, fa67, fa68, fa72, Fw65⟩
theorem d7_0 : decode prog_4_method_6_code 0 = .ok (.aload_n 0, 1) := by decide +kernel
theorem d7_1 : decode prog_4_method_6_code 1 = .ok (.getfield 15, 3) := by decide +kernel
theorem d7_4 : decode prog_4_method_6_code 4 = .ok (.ireturn, 1) := by decide +kernel
theorem ef7 (m : MethodId) (y0 : Addr) : entryFrame m #[(.ref y0)] 1 = mkF m 0 #[.val (.ref y0)] [] := by first | (simp [entryFrame, mkF, argsToLocals, Value.category]; done) | rfl
def Q7 (Z : State) (a1 : Addr) (w1 : Int32) (h0 : Heap) (n0 : Nat) (v : Option Value) (h : Heap) (L : List Loc) : Prop := v = some (.int w1) ∧ Fr n0 L ∧ h = h0
set_option maxRecDepth 65536 in
set_option maxHeartbeats 40000000 in
theorem rm7 (l : Launch) (Z : State) (a0 : Array Value) (hw : ∀ d ∈ tables_1, d.before a0 Z = true) (ws : List Jvm.Cond) (a1 : Addr) (w1 : Int32) (h0 : Heap) (n0 : Nat) (Z0 : n0 ≤ h0.size) (F_labelBits : Fld Z h0 a1 "com/example/dense_trie/densetrie/CellFields" "labelBits" "I" (.int w1)) :
    MetFree l (⟨"com/example/dense_trie/densetrie/CellFields", "labelBits", "()I"⟩ : MethodName) (head1 (Jvm.Cond.code (⟨"com/example/dense_trie/densetrie/CellFields", "labelBits", "()I"⟩ : MethodName) prog_4_method_6_code 1 (some .int) :: ws) ({ frames := 0, cells := 0, slots := 0, locals := 0 } : Room)) (fun a U => a = #[(.ref a1)] ∧ Z.Warmed39 U.vm ∧ U.heap = h0) (fun _ _ _ _ _ => True) (fun _ U o U' => ∃ v L, o = .returned v ∧ Q7 Z a1 w1 h0 n0 v U'.heap L ∧ FrameEnd U o U' L ({ frames := 0, cells := 0, slots := 0, locals := 0 } : Room).cells ({ frames := 0, cells := 0, slots := 0, locals := 0 } : Room).slots) := by
  refine MetFree.of_bodySF (plainFor_of_name pn_com_example_dense_trie_densetrie_CellFields) hisR ?_
  intro p e s m args below meth c s₁ Bd hml0 hP hK
  obtain ⟨rfl, hZ, hh⟩ := hP
  have hx := Bd.exec
  have hby := Bd.bytes
  have hml : c.maxLocals = 1 := hml0
  have hown : s.vm.findClass "com/example/dense_trie/densetrie/CellFields" = some m.cls := findClass_of_methodNamed Bd.named
  have hnm := (name_of_methodNamed Bd.named Bd.method).1
  have X0 : Stand p l e ({ frames := 0, cells := 0, slots := 0, locals := 0 } : Room) s m #[(.ref a1)] below meth c s₁ [] 0 0 := Stand.of_body Bd
  have eh0 : s₁.heap = h0 := by rw [← hh, Bd.state]; rfl
  have N0 := Fr.nil n0
  refine Gq.start (Q := Q7 Z a1 w1 h0 n0) (kc := ({ frames := 0, cells := 0, slots := 0, locals := 0 } : Room).cells) (ks := ({ frames := 0, cells := 0, slots := 0, locals := 0 } : Room).slots) (ef7 m a1) ?_
  refine Gq.go (s₁.setTop (mkF m 1 #[.val (.ref a1)] [(.ref a1)])) (fun tt_ kk_ => XS.aloadN X0.here hx rfl (hb hby d7_0) rfl rfl kk_) ?_
  obtain ⟨T1, X1, eh1, st1⟩ := getF X0 hx hZ hown (host := "") (Or.inl (hw _ (List.mem_of_getElem? (i := 25) rfl))) Via.refl eh0 F_labelBits (g := (mkF m 1 #[.val (.ref a1)] [(.ref a1)])) rfl rfl (hb hby d7_1)
  refine Gq.go (T1.setTop (mkF m 4 #[.val (.ref a1)] [(.int w1)])) (fun tt_ kk_ => st1 _ kk_) ?_
  refine Gq.retI X1 hx Bd.notSynchronized Bd.returns (by simp) (hb hby d7_4) rfl (by decide) (by decide) ?_
  show Q7 Z a1 w1 h0 n0 _ T1.heap _
  rw [eh1]
  exact ⟨rfl, N0, rfl⟩
theorem d8_0 : decode prog_4_method_7_code 0 = .ok (.aload_n 0, 1) := by decide +kernel
theorem d8_1 : decode prog_4_method_7_code 1 = .ok (.getfield 19, 3) := by decide +kernel
theorem d8_4 : decode prog_4_method_7_code 4 = .ok (.ireturn, 1) := by decide +kernel
theorem ef8 (m : MethodId) (y0 : Addr) : entryFrame m #[(.ref y0)] 1 = mkF m 0 #[.val (.ref y0)] [] := by first | (simp [entryFrame, mkF, argsToLocals, Value.category]; done) | rfl
def Q8 (Z : State) (a1 : Addr) (w1 : Int32) (h0 : Heap) (n0 : Nat) (v : Option Value) (h : Heap) (L : List Loc) : Prop := v = some (.int w1) ∧ Fr n0 L ∧ h = h0
set_option maxRecDepth 65536 in
set_option maxHeartbeats 40000000 in
theorem rm8 (l : Launch) (Z : State) (a0 : Array Value) (hw : ∀ d ∈ tables_1, d.before a0 Z = true) (ws : List Jvm.Cond) (a1 : Addr) (w1 : Int32) (h0 : Heap) (n0 : Nat) (Z0 : n0 ≤ h0.size) (F_payloadBits : Fld Z h0 a1 "com/example/dense_trie/densetrie/CellFields" "payloadBits" "I" (.int w1)) :
    MetFree l (⟨"com/example/dense_trie/densetrie/CellFields", "payloadBits", "()I"⟩ : MethodName) (head1 (Jvm.Cond.code (⟨"com/example/dense_trie/densetrie/CellFields", "payloadBits", "()I"⟩ : MethodName) prog_4_method_7_code 1 (some .int) :: ws) ({ frames := 0, cells := 0, slots := 0, locals := 0 } : Room)) (fun a U => a = #[(.ref a1)] ∧ Z.Warmed39 U.vm ∧ U.heap = h0) (fun _ _ _ _ _ => True) (fun _ U o U' => ∃ v L, o = .returned v ∧ Q8 Z a1 w1 h0 n0 v U'.heap L ∧ FrameEnd U o U' L ({ frames := 0, cells := 0, slots := 0, locals := 0 } : Room).cells ({ frames := 0, cells := 0, slots := 0, locals := 0 } : Room).slots) := by
  refine MetFree.of_bodySF (plainFor_of_name pn_com_example_dense_trie_densetrie_CellFields) hisR ?_
  intro p e s m args below meth c s₁ Bd hml0 hP hK
  obtain ⟨rfl, hZ, hh⟩ := hP
  have hx := Bd.exec
  have hby := Bd.bytes
  have hml : c.maxLocals = 1 := hml0
  have hown : s.vm.findClass "com/example/dense_trie/densetrie/CellFields" = some m.cls := findClass_of_methodNamed Bd.named
  have hnm := (name_of_methodNamed Bd.named Bd.method).1
  have X0 : Stand p l e ({ frames := 0, cells := 0, slots := 0, locals := 0 } : Room) s m #[(.ref a1)] below meth c s₁ [] 0 0 := Stand.of_body Bd
  have eh0 : s₁.heap = h0 := by rw [← hh, Bd.state]; rfl
  have N0 := Fr.nil n0
  refine Gq.start (Q := Q8 Z a1 w1 h0 n0) (kc := ({ frames := 0, cells := 0, slots := 0, locals := 0 } : Room).cells) (ks := ({ frames := 0, cells := 0, slots := 0, locals := 0 } : Room).slots) (ef8 m a1) ?_
  refine Gq.go (s₁.setTop (mkF m 1 #[.val (.ref a1)] [(.ref a1)])) (fun tt_ kk_ => XS.aloadN X0.here hx rfl (hb hby d8_0) rfl rfl kk_) ?_
  obtain ⟨T1, X1, eh1, st1⟩ := getF X0 hx hZ hown (host := "") (Or.inl (hw _ (List.mem_of_getElem? (i := 27) rfl))) Via.refl eh0 F_payloadBits (g := (mkF m 1 #[.val (.ref a1)] [(.ref a1)])) rfl rfl (hb hby d8_1)
  refine Gq.go (T1.setTop (mkF m 4 #[.val (.ref a1)] [(.int w1)])) (fun tt_ kk_ => st1 _ kk_) ?_
  refine Gq.retI X1 hx Bd.notSynchronized Bd.returns (by simp) (hb hby d8_4) rfl (by decide) (by decide) ?_
  show Q8 Z a1 w1 h0 n0 _ T1.heap _
  rw [eh1]
  exact ⟨rfl, N0, rfl⟩
theorem d10_0 : decode prog_4_method_9_code 0 = .ok (.aload_n 0, 1) := by decide +kernel
theorem d10_1 : decode prog_4_method_9_code 1 = .ok (.getfield 35, 3) := by decide +kernel
theorem d10_4 : decode prog_4_method_9_code 4 = .ok (.lreturn, 1) := by decide +kernel
theorem ef10 (m : MethodId) (y0 : Addr) : entryFrame m #[(.ref y0)] 1 = mkF m 0 #[.val (.ref y0)] [] := by first | (simp [entryFrame, mkF, argsToLocals, Value.category]; done) | rfl
def Q10 (Z : State) (a1 : Addr) (w1 : Int64) (h0 : Heap) (n0 : Nat) (v : Option Value) (h : Heap) (L : List Loc) : Prop := v = some (.long w1) ∧ Fr n0 L ∧ h = h0
set_option maxRecDepth 65536 in
set_option maxHeartbeats 40000000 in
theorem rm10 (l : Launch) (Z : State) (a0 : Array Value) (hw : ∀ d ∈ tables_1, d.before a0 Z = true) (ws : List Jvm.Cond) (a1 : Addr) (w1 : Int64) (h0 : Heap) (n0 : Nat) (Z0 : n0 ≤ h0.size) (F_valueFlag : Fld Z h0 a1 "com/example/dense_trie/densetrie/CellFields" "valueFlag" "J" (.long w1)) :
    MetFree l (⟨"com/example/dense_trie/densetrie/CellFields", "valueFlag", "()J"⟩ : MethodName) (head1 (Jvm.Cond.code (⟨"com/example/dense_trie/densetrie/CellFields", "valueFlag", "()J"⟩ : MethodName) prog_4_method_9_code 1 (some .long) :: ws) ({ frames := 0, cells := 0, slots := 0, locals := 0 } : Room)) (fun a U => a = #[(.ref a1)] ∧ Z.Warmed39 U.vm ∧ U.heap = h0) (fun _ _ _ _ _ => True) (fun _ U o U' => ∃ v L, o = .returned v ∧ Q10 Z a1 w1 h0 n0 v U'.heap L ∧ FrameEnd U o U' L ({ frames := 0, cells := 0, slots := 0, locals := 0 } : Room).cells ({ frames := 0, cells := 0, slots := 0, locals := 0 } : Room).slots) := by
  refine MetFree.of_bodySF (plainFor_of_name pn_com_example_dense_trie_densetrie_CellFields) hisR ?_
  intro p e s m args below meth c s₁ Bd hml0 hP hK
  obtain ⟨rfl, hZ, hh⟩ := hP
  have hx := Bd.exec
  have hby := Bd.bytes
  have hml : c.maxLocals = 1 := hml0
  have hown : s.vm.findClass "com/example/dense_trie/densetrie/CellFields" = some m.cls := findClass_of_methodNamed Bd.named
  have hnm := (name_of_methodNamed Bd.named Bd.method).1
  have X0 : Stand p l e ({ frames := 0, cells := 0, slots := 0, locals := 0 } : Room) s m #[(.ref a1)] below meth c s₁ [] 0 0 := Stand.of_body Bd
  have eh0 : s₁.heap = h0 := by rw [← hh, Bd.state]; rfl
  have N0 := Fr.nil n0
  refine Gq.start (Q := Q10 Z a1 w1 h0 n0) (kc := ({ frames := 0, cells := 0, slots := 0, locals := 0 } : Room).cells) (ks := ({ frames := 0, cells := 0, slots := 0, locals := 0 } : Room).slots) (ef10 m a1) ?_
  refine Gq.go (s₁.setTop (mkF m 1 #[.val (.ref a1)] [(.ref a1)])) (fun tt_ kk_ => XS.aloadN X0.here hx rfl (hb hby d10_0) rfl rfl kk_) ?_
  obtain ⟨T1, X1, eh1, st1⟩ := getF X0 hx hZ hown (host := "") (Or.inl (hw _ (List.mem_of_getElem? (i := 37) rfl))) Via.refl eh0 F_valueFlag (g := (mkF m 1 #[.val (.ref a1)] [(.ref a1)])) rfl rfl (hb hby d10_1)
  refine Gq.go (T1.setTop (mkF m 4 #[.val (.ref a1)] [(.long w1)])) (fun tt_ kk_ => st1 _ kk_) ?_
  refine Gq.retL X1 hx Bd.notSynchronized Bd.returns (hb hby d10_4) (by decide) (by decide) ?_
  show Q10 Z a1 w1 h0 n0 _ T1.heap _
  rw [eh1]
  exact ⟨rfl, N0, rfl⟩
def own_isv (q : Int64) (w1 w2 : Int32) : Int32 := if lcmpW (((q.toUInt64 >>> ((w1 + w2) &&& 0x3f).toInt64.toUInt64).toInt64) &&& (1 : Int64)) (0 : Int64) = (0 : Int32) then (0 : Int32) else (1 : Int32)
theorem own_getBit (q : Int64) {K : Nat} (hK : K < 64) : ((q.toUInt64 >>> (Int32.ofNat K &&& 0x3f).toInt64.toUInt64).toInt64 &&& (1 : Int64) = 0) ↔ q.toBitVec.getLsbD K = false := by
  have e := o64_sh q (Int32.ofNat K) K (o_shamt K hK) hK
  rw [← Int64.toBitVec_inj, Int64.toBitVec_and, e]
  show (q.toBitVec >>> K &&& 1#64 = 0#64) ↔ _
  rw [BitVec.and_one_eq_setWidth_ofBool_getLsbD, BitVec.getLsbD_ushiftRight, Nat.add_zero]
  cases q.toBitVec.getLsbD K
  · simp
  · simp
theorem own_isv0 {q : Int64} {a b : Nat} (h : q.toBitVec.getLsbD (a + b) = false) (hK : a + b < 64) : own_isv q (Int32.ofNat a) (Int32.ofNat b) = 0 := by
  unfold own_isv
  rw [own_add, if_pos ((lw_eq _ _).mpr ((own_getBit q hK).mpr h))]
theorem own_isv1 {q : Int64} {a b : Nat} (h : q.toBitVec.getLsbD (a + b) = true) (hK : a + b < 64) : own_isv q (Int32.ofNat a) (Int32.ofNat b) = 1 := by
  unfold own_isv
  rw [own_add, if_neg]
  intro e
  have := (own_getBit q hK).mp ((lw_eq _ _).mp e)
  rw [h] at this; cases this
theorem own_bitK {K : Nat} (hK : K < 64) (i : Nat) (hi : i < 64) : ((1 : Int64) <<< (Int32.ofNat K &&& 0x3f).toInt64).toBitVec.getLsbD i = decide (K = i) := by
  rw [o_one K hK]
  show (BitVec.ofNat 64 (2 ^ K)).getLsbD i = _
  rw [BitVec.getLsbD_ofNat, Nat.testBit_two_pow]
  simp [hi]
theorem own_f1 (x : Int64) {K : Nat} (hK : K < 64) : (x ||| ((1 : Int64) <<< (Int32.ofNat K &&& 0x3f).toInt64)).toBitVec.getLsbD K = true := by
  rw [Int64.toBitVec_or, BitVec.getLsbD_or, own_bitK hK K hK]; simp
theorem own_f0 (x : Int64) {K : Nat} (hK : K < 64) : (x &&& (((1 : Int64) <<< (Int32.ofNat K &&& 0x3f).toInt64) ^^^ (-1 : Int64))).toBitVec.getLsbD K = false := by
  rw [Int64.toBitVec_and, BitVec.getLsbD_and, Int64.toBitVec_xor, BitVec.getLsbD_xor, own_bitK hK K hK]
  rw [show (-1 : Int64).toBitVec = BitVec.allOnes 64 from by decide, BitVec.getLsbD_allOnes]
  simp [hK]
theorem own_other (x : Int64) {K j : Nat} (hK : K < 64) (hj : j < 64) (hne : ¬ j = K) : (x ^^^ ((1 : Int64) <<< (Int32.ofNat j &&& 0x3f).toInt64)).toBitVec.getLsbD K = x.toBitVec.getLsbD K := by
  rw [Int64.toBitVec_xor, BitVec.getLsbD_xor, own_bitK hj K hK]
  simp [hne]
theorem own_reachN (q : Int64) {a b : Nat} (ha : a < 64) (hb : b + 1 < 63) : ((q.toUInt64 >>> (Int32.ofNat a &&& 0x3f).toInt64.toUInt64).toInt64 &&& (((1 : Int64) <<< ((Int32.ofNat b + (1 : Int32)) &&& 0x3f).toInt64) - (1 : Int64))) = Int64.ofNat (q.toBitVec.toNat / 2 ^ a % 2 ^ (b + 1)) := by
  have e1 : Int32.ofNat b + (1 : Int32) = Int32.ofNat (b + 1) := own_add b 1
  have e2 : Int64.ofNat (2 ^ (b + 1)) - (1 : Int64) = Int64.ofNat (2 ^ (b + 1) - 1) := o64_sub (b := 1) (Nat.one_le_two_pow)
  rw [e1, o_one _ (by omega), e2]
  apply o64_eq_of
  have hp : 2 ^ (b + 1) < 2 ^ 63 := Nat.pow_lt_pow_right (by decide) hb
  rw [Int64.toBitVec_and, BitVec.toNat_and, o64_toNat (by omega), o64_sh q _ a (o_shamt a ha) ha, BitVec.toNat_ushiftRight, Nat.shiftRight_eq_div_pow, Nat.and_two_pow_sub_one_eq_mod]
theorem own_bitN (x a b : Nat) : (2 ^ b ≤ x / 2 ^ a % 2 ^ (b + 1)) ↔ x.testBit (a + b) = true := by
  rw [Nat.testBit_eq_decide_div_mod_eq, decide_eq_true_eq, Nat.pow_add 2 a b, ← Nat.div_div_eq_div_mul]
  generalize x / 2 ^ a = y
  have hp : 0 < 2 ^ b := Nat.two_pow_pos b
  have hm := Nat.mod_lt y hp
  have h2 : y / 2 ^ b % 2 < 2 := Nat.mod_lt _ (by decide)
  rw [Nat.pow_succ, Nat.mod_mul]
  constructor
  · intro h
    rcases Nat.lt_or_ge (y / 2 ^ b % 2) 1 with q | q
    · have : y / 2 ^ b % 2 = 0 := by omega
      rw [this] at h; omega
    · omega
  · intro h; rw [h]; omega
theorem own_reach1 {q : Int64} {a b : Nat} (h : q.toBitVec.getLsbD (a + b) = true) (ha : a < 64) (hb : b + 1 < 63) :
    ¬ lcmpW ((q.toUInt64 >>> (Int32.ofNat a &&& 0x3f).toInt64.toUInt64).toInt64 &&& (((1 : Int64) <<< ((Int32.ofNat b + (1 : Int32)) &&& 0x3f).toInt64) - (1 : Int64))) ((1 : Int64) <<< (Int32.ofNat b &&& 0x3f).toInt64) < 0 := by
  have hp : 2 ^ (b + 1) < 2 ^ 63 := Nat.pow_lt_pow_right (by decide) hb
  have hp2 : 2 ^ b < 2 ^ 63 := Nat.pow_lt_pow_right (by decide) (by omega)
  have hm := Nat.mod_lt (q.toBitVec.toNat / 2 ^ a) (Nat.two_pow_pos (b + 1))
  rw [lw_lt, own_reachN q ha hb, o_one b (by omega), o64_lt (by omega) hp2]
  have := (own_bitN q.toBitVec.toNat a b).mpr (by rw [← h]; rfl)
  omega
theorem own_reach0 {q : Int64} {a b : Nat} (h : q.toBitVec.getLsbD (a + b) = false) (ha : a < 64) (hb : b + 1 < 63) :
    lcmpW ((q.toUInt64 >>> (Int32.ofNat a &&& 0x3f).toInt64.toUInt64).toInt64 &&& (((1 : Int64) <<< ((Int32.ofNat b + (1 : Int32)) &&& 0x3f).toInt64) - (1 : Int64))) ((1 : Int64) <<< (Int32.ofNat b &&& 0x3f).toInt64) < 0 := by
  have hp : 2 ^ (b + 1) < 2 ^ 63 := Nat.pow_lt_pow_right (by decide) hb
  have hp2 : 2 ^ b < 2 ^ 63 := Nat.pow_lt_pow_right (by decide) (by omega)
  have hm := Nat.mod_lt (q.toBitVec.toNat / 2 ^ a) (Nat.two_pow_pos (b + 1))
  rw [lw_lt, own_reachN q ha hb, o_one b (by omega), o64_lt (by omega) hp2]
  have hn : ¬ 2 ^ b ≤ q.toBitVec.toNat / 2 ^ a % 2 ^ (b + 1) := fun c => by
    have := (own_bitN q.toBitVec.toNat a b).mp c
    have e : q.toBitVec.getLsbD (a + b) = q.toBitVec.toNat.testBit (a + b) := rfl
    rw [e, this] at h; cases h
  omega

theorem d9_0 : decode prog_4_method_13_code 0 = .ok (.lload_n 1, 1) := by decide +kernel
theorem d9_1 : decode prog_4_method_13_code 1 = .ok (.aload_n 0, 1) := by decide +kernel
theorem d9_2 : decode prog_4_method_13_code 2 = .ok (.getfield 15, 3) := by decide +kernel
theorem d9_5 : decode prog_4_method_13_code 5 = .ok (.aload_n 0, 1) := by decide +kernel
theorem d9_6 : decode prog_4_method_13_code 6 = .ok (.getfield 19, 3) := by decide +kernel
theorem d9_9 : decode prog_4_method_13_code 9 = .ok (.iadd, 1) := by decide +kernel
theorem d9_10 : decode prog_4_method_13_code 10 = .ok (.lushr, 1) := by decide +kernel
theorem d9_11 : decode prog_4_method_13_code 11 = .ok (.lconst 1, 1) := by decide +kernel
theorem d9_12 : decode prog_4_method_13_code 12 = .ok (.land, 1) := by decide +kernel
theorem d9_13 : decode prog_4_method_13_code 13 = .ok (.lconst 0, 1) := by decide +kernel
theorem d9_14 : decode prog_4_method_13_code 14 = .ok (.lcmp, 1) := by decide +kernel
theorem d9_15 : decode prog_4_method_13_code 15 = .ok (.ifCond .eq 7, 3) := by decide +kernel
theorem d9_18 : decode prog_4_method_13_code 18 = .ok (.iconst 1, 1) := by decide +kernel
theorem d9_19 : decode prog_4_method_13_code 19 = .ok (.goto 4, 3) := by decide +kernel
theorem d9_22 : decode prog_4_method_13_code 22 = .ok (.iconst 0, 1) := by decide +kernel
theorem d9_23 : decode prog_4_method_13_code 23 = .ok (.ireturn, 1) := by decide +kernel
theorem ef9 (m : MethodId) (y0 : Addr) (y1 : Int64) : entryFrame m #[(.ref y0), (.long y1)] 3 = mkF m 0 #[.val (.ref y0), .val (.long y1), .second] [] := by first | (simp [entryFrame, mkF, argsToLocals, Value.category]; done) | rfl
def Q9 (Z : State) (a1 : Addr) (q2 : Int64) (w1 : Int32) (w2 : Int32) (h0 : Heap) (n0 : Nat) (v : Option Value) (h : Heap) (L : List Loc) : Prop := v = some (.int (own_isv q2 w1 w2)) ∧ Fr n0 L ∧ h = h0
set_option maxRecDepth 65536 in
set_option maxHeartbeats 40000000 in
theorem rm9 (l : Launch) (Z : State) (a0 : Array Value) (hw : ∀ d ∈ tables_1, d.before a0 Z = true) (ws : List Jvm.Cond) (a1 : Addr) (q2 : Int64) (w1 : Int32) (w2 : Int32) (h0 : Heap) (n0 : Nat) (Z0 : n0 ≤ h0.size) (F_labelBits : Fld Z h0 a1 "com/example/dense_trie/densetrie/CellFields" "labelBits" "I" (.int w1)) (F_payloadBits : Fld Z h0 a1 "com/example/dense_trie/densetrie/CellFields" "payloadBits" "I" (.int w2)) :
    MetFree l (⟨"com/example/dense_trie/densetrie/CellFields", "isValue", "(J)Z"⟩ : MethodName) (head1 (Jvm.Cond.code (⟨"com/example/dense_trie/densetrie/CellFields", "isValue", "(J)Z"⟩ : MethodName) prog_4_method_13_code 3 (some .boolean) :: ws) ({ frames := 0, cells := 0, slots := 0, locals := 0 } : Room)) (fun a U => a = #[(.ref a1), (.long q2)] ∧ Z.Warmed39 U.vm ∧ U.heap = h0) (fun _ _ _ _ _ => True) (fun _ U o U' => ∃ v L, o = .returned v ∧ Q9 Z a1 q2 w1 w2 h0 n0 v U'.heap L ∧ FrameEnd U o U' L ({ frames := 0, cells := 0, slots := 0, locals := 0 } : Room).cells ({ frames := 0, cells := 0, slots := 0, locals := 0 } : Room).slots) := by
  refine MetFree.of_bodySF (plainFor_of_name pn_com_example_dense_trie_densetrie_CellFields) hisR ?_
  intro p e s m args below meth c s₁ Bd hml0 hP hK
  obtain ⟨rfl, hZ, hh⟩ := hP
  have hx := Bd.exec
  have hby := Bd.bytes
  have hml : c.maxLocals = 3 := hml0
  have hown : s.vm.findClass "com/example/dense_trie/densetrie/CellFields" = some m.cls := findClass_of_methodNamed Bd.named
  have hnm := (name_of_methodNamed Bd.named Bd.method).1
  have X0 : Stand p l e ({ frames := 0, cells := 0, slots := 0, locals := 0 } : Room) s m #[(.ref a1), (.long q2)] below meth c s₁ [] 0 0 := Stand.of_body Bd
  have eh0 : s₁.heap = h0 := by rw [← hh, Bd.state]; rfl
  have N0 := Fr.nil n0
  refine Gq.start (Q := Q9 Z a1 q2 w1 w2 h0 n0) (kc := ({ frames := 0, cells := 0, slots := 0, locals := 0 } : Room).cells) (ks := ({ frames := 0, cells := 0, slots := 0, locals := 0 } : Room).slots) (ef9 m a1 q2) ?_
  refine Gq.go (s₁.setTop (mkF m 1 #[.val (.ref a1), .val (.long q2), .second] [(.long q2)])) (fun tt_ kk_ => XS.lloadN X0.here hx rfl (hb hby d9_0) rfl kk_) ?_
  refine Gq.go (s₁.setTop (mkF m 2 #[.val (.ref a1), .val (.long q2), .second] [(.ref a1), (.long q2)])) (fun tt_ kk_ => XS.aloadN X0.here hx rfl (hb hby d9_1) rfl rfl kk_) ?_
  obtain ⟨T1, X1, eh1, st1⟩ := getF X0 hx hZ hown (host := "") (Or.inl (hw _ (List.mem_of_getElem? (i := 25) rfl))) Via.refl eh0 F_labelBits (g := (mkF m 2 #[.val (.ref a1), .val (.long q2), .second] [(.ref a1), (.long q2)])) rfl rfl (hb hby d9_2)
  refine Gq.go (T1.setTop (mkF m 5 #[.val (.ref a1), .val (.long q2), .second] [(.int w1), (.long q2)])) (fun tt_ kk_ => st1 _ kk_) ?_
  refine Gq.go (T1.setTop (mkF m 6 #[.val (.ref a1), .val (.long q2), .second] [(.ref a1), (.int w1), (.long q2)])) (fun tt_ kk_ => XS.aloadN X1.here hx rfl (hb hby d9_5) rfl rfl kk_) ?_
  obtain ⟨T2, X2, eh2, st2⟩ := getF X1 hx hZ hown (host := "") (Or.inl (hw _ (List.mem_of_getElem? (i := 27) rfl))) Via.refl eh1 F_payloadBits (g := (mkF m 6 #[.val (.ref a1), .val (.long q2), .second] [(.ref a1), (.int w1), (.long q2)])) rfl rfl (hb hby d9_6)
  refine Gq.go (T2.setTop (mkF m 9 #[.val (.ref a1), .val (.long q2), .second] [(.int w2), (.int w1), (.long q2)])) (fun tt_ kk_ => st2 _ kk_) ?_
  refine Gq.go (T2.setTop (mkF m 10 #[.val (.ref a1), .val (.long q2), .second] [(.int (w1 + w2)), (.long q2)])) (fun tt_ kk_ => XS.iadd X2.here hx rfl (hb hby d9_9) rfl kk_) ?_
  refine Gq.go (T2.setTop (mkF m 11 #[.val (.ref a1), .val (.long q2), .second] [(.long ((q2.toUInt64 >>> ((w1 + w2) &&& 0x3f).toInt64.toUInt64).toInt64))])) (fun tt_ kk_ => XS.lushr X2.here hx rfl (hb hby d9_10) rfl kk_) ?_
  refine Gq.go (T2.setTop (mkF m 12 #[.val (.ref a1), .val (.long q2), .second] [(.long (1 : Int64)), (.long ((q2.toUInt64 >>> ((w1 + w2) &&& 0x3f).toInt64.toUInt64).toInt64))])) (fun tt_ kk_ => XS.lconst X2.here hx rfl (hb hby d9_11) kk_) ?_
  refine Gq.go (T2.setTop (mkF m 13 #[.val (.ref a1), .val (.long q2), .second] [(.long (((q2.toUInt64 >>> ((w1 + w2) &&& 0x3f).toInt64.toUInt64).toInt64) &&& (1 : Int64)))])) (fun tt_ kk_ => XS.land X2.here hx rfl (hb hby d9_12) rfl kk_) ?_
  refine Gq.go (T2.setTop (mkF m 14 #[.val (.ref a1), .val (.long q2), .second] [(.long (0 : Int64)), (.long (((q2.toUInt64 >>> ((w1 + w2) &&& 0x3f).toInt64.toUInt64).toInt64) &&& (1 : Int64)))])) (fun tt_ kk_ => XS.lconst X2.here hx rfl (hb hby d9_13) kk_) ?_
  refine Gq.go (T2.setTop (mkF m 15 #[.val (.ref a1), .val (.long q2), .second] [(.int (lcmpW (((q2.toUInt64 >>> ((w1 + w2) &&& 0x3f).toInt64.toUInt64).toInt64) &&& (1 : Int64)) (0 : Int64)))])) (fun tt_ kk_ => XS.lcmp X2.here hx rfl (hb hby d9_14) rfl kk_) ?_
  by_cases hz : (lcmpW (((q2.toUInt64 >>> ((w1 + w2) &&& 0x3f).toInt64.toUInt64).toInt64) &&& (1 : Int64)) (0 : Int64)) = (0 : Int32)
  · refine Gq.go (T2.setTop (mkF m 22 #[.val (.ref a1), .val (.long q2), .second] [])) (fun tt_ kk_ => XS.ifYes X2.here hx rfl (pc0 := 15) (pc' := 22) rfl (hb hby d9_15) rfl ((if0 _ _).trans (teq hz).1) (by decide) (by decide) kk_) ?_
    refine Gq.go (T2.setTop (mkF m 23 #[.val (.ref a1), .val (.long q2), .second] [(.int (0 : Int32))])) (fun tt_ kk_ => XS.iconst X2.here hx rfl (hb hby d9_22) kk_) ?_
    refine Gq.retI X2 hx Bd.notSynchronized Bd.returns (by simp) (hb hby d9_23) rfl (by decide) (by decide) ?_
    show Q9 Z a1 q2 w1 w2 h0 n0 _ T2.heap _
    rw [eh2]
    exact ⟨by unfold own_isv; rw [if_pos hz], N0, rfl⟩
  · refine Gq.go (T2.setTop (mkF m 18 #[.val (.ref a1), .val (.long q2), .second] [])) (fun tt_ kk_ => XS.ifNo X2.here hx rfl (hb hby d9_15) rfl ((if0 _ _).trans (feq hz).1) kk_) ?_
    refine Gq.go (T2.setTop (mkF m 19 #[.val (.ref a1), .val (.long q2), .second] [(.int (1 : Int32))])) (fun tt_ kk_ => XS.iconst X2.here hx rfl (hb hby d9_18) kk_) ?_
    refine Gq.go (T2.setTop (mkF m 23 #[.val (.ref a1), .val (.long q2), .second] [(.int (1 : Int32))])) (fun tt_ kk_ => XS.goto X2.here hx rfl (pc0 := 19) (pc' := 23) rfl (hb hby d9_19) (by decide) (by decide) kk_) ?_
    refine Gq.retI X2 hx Bd.notSynchronized Bd.returns (by simp) (hb hby d9_23) rfl (by decide) (by decide) ?_
    show Q9 Z a1 q2 w1 w2 h0 n0 _ T2.heap _
    rw [eh2]
    exact ⟨by unfold own_isv; rw [if_neg hz], N0, rfl⟩
theorem d11_0 : decode prog_4_method_12_code 0 = .ok (.lload_n 1, 1) := by decide +kernel
theorem d11_1 : decode prog_4_method_12_code 1 = .ok (.aload_n 0, 1) := by decide +kernel
theorem d11_2 : decode prog_4_method_12_code 2 = .ok (.getfield 15, 3) := by decide +kernel
theorem d11_5 : decode prog_4_method_12_code 5 = .ok (.lushr, 1) := by decide +kernel
theorem d11_6 : decode prog_4_method_12_code 6 = .ok (.aload_n 0, 1) := by decide +kernel
theorem d11_7 : decode prog_4_method_12_code 7 = .ok (.getfield 32, 3) := by decide +kernel
theorem d11_10 : decode prog_4_method_12_code 10 = .ok (.land, 1) := by decide +kernel
theorem d11_11 : decode prog_4_method_12_code 11 = .ok (.lreturn, 1) := by decide +kernel
theorem ef11 (m : MethodId) (y0 : Addr) (y1 : Int64) : entryFrame m #[(.ref y0), (.long y1)] 3 = mkF m 0 #[.val (.ref y0), .val (.long y1), .second] [] := by first | (simp [entryFrame, mkF, argsToLocals, Value.category]; done) | rfl
def Q11 (Z : State) (a1 : Addr) (q2 : Int64) (w1 : Int32) (w2 : Int64) (h0 : Heap) (n0 : Nat) (v : Option Value) (h : Heap) (L : List Loc) : Prop := v = some (.long (((q2.toUInt64 >>> (w1 &&& 0x3f).toInt64.toUInt64).toInt64) &&& w2)) ∧ Fr n0 L ∧ h = h0
set_option maxRecDepth 65536 in
set_option maxHeartbeats 40000000 in
theorem rm11 (l : Launch) (Z : State) (a0 : Array Value) (hw : ∀ d ∈ tables_1, d.before a0 Z = true) (ws : List Jvm.Cond) (a1 : Addr) (q2 : Int64) (w1 : Int32) (w2 : Int64) (h0 : Heap) (n0 : Nat) (Z0 : n0 ≤ h0.size) (F_labelBits : Fld Z h0 a1 "com/example/dense_trie/densetrie/CellFields" "labelBits" "I" (.int w1)) (F_reachMask : Fld Z h0 a1 "com/example/dense_trie/densetrie/CellFields" "reachMask" "J" (.long w2)) :
    MetFree l (⟨"com/example/dense_trie/densetrie/CellFields", "reach", "(J)J"⟩ : MethodName) (head1 (Jvm.Cond.code (⟨"com/example/dense_trie/densetrie/CellFields", "reach", "(J)J"⟩ : MethodName) prog_4_method_12_code 3 (some .long) :: ws) ({ frames := 0, cells := 0, slots := 0, locals := 0 } : Room)) (fun a U => a = #[(.ref a1), (.long q2)] ∧ Z.Warmed39 U.vm ∧ U.heap = h0) (fun _ _ _ _ _ => True) (fun _ U o U' => ∃ v L, o = .returned v ∧ Q11 Z a1 q2 w1 w2 h0 n0 v U'.heap L ∧ FrameEnd U o U' L ({ frames := 0, cells := 0, slots := 0, locals := 0 } : Room).cells ({ frames := 0, cells := 0, slots := 0, locals := 0 } : Room).slots) := by
  refine MetFree.of_bodySF (plainFor_of_name pn_com_example_dense_trie_densetrie_CellFields) hisR ?_
  intro p e s m args below meth c s₁ Bd hml0 hP hK
  obtain ⟨rfl, hZ, hh⟩ := hP
  have hx := Bd.exec
  have hby := Bd.bytes
  have hml : c.maxLocals = 3 := hml0
  have hown : s.vm.findClass "com/example/dense_trie/densetrie/CellFields" = some m.cls := findClass_of_methodNamed Bd.named
  have hnm := (name_of_methodNamed Bd.named Bd.method).1
  have X0 : Stand p l e ({ frames := 0, cells := 0, slots := 0, locals := 0 } : Room) s m #[(.ref a1), (.long q2)] below meth c s₁ [] 0 0 := Stand.of_body Bd
  have eh0 : s₁.heap = h0 := by rw [← hh, Bd.state]; rfl
  have N0 := Fr.nil n0
  refine Gq.start (Q := Q11 Z a1 q2 w1 w2 h0 n0) (kc := ({ frames := 0, cells := 0, slots := 0, locals := 0 } : Room).cells) (ks := ({ frames := 0, cells := 0, slots := 0, locals := 0 } : Room).slots) (ef11 m a1 q2) ?_
  refine Gq.go (s₁.setTop (mkF m 1 #[.val (.ref a1), .val (.long q2), .second] [(.long q2)])) (fun tt_ kk_ => XS.lloadN X0.here hx rfl (hb hby d11_0) rfl kk_) ?_
  refine Gq.go (s₁.setTop (mkF m 2 #[.val (.ref a1), .val (.long q2), .second] [(.ref a1), (.long q2)])) (fun tt_ kk_ => XS.aloadN X0.here hx rfl (hb hby d11_1) rfl rfl kk_) ?_
  obtain ⟨T1, X1, eh1, st1⟩ := getF X0 hx hZ hown (host := "") (Or.inl (hw _ (List.mem_of_getElem? (i := 25) rfl))) Via.refl eh0 F_labelBits (g := (mkF m 2 #[.val (.ref a1), .val (.long q2), .second] [(.ref a1), (.long q2)])) rfl rfl (hb hby d11_2)
  refine Gq.go (T1.setTop (mkF m 5 #[.val (.ref a1), .val (.long q2), .second] [(.int w1), (.long q2)])) (fun tt_ kk_ => st1 _ kk_) ?_
  refine Gq.go (T1.setTop (mkF m 6 #[.val (.ref a1), .val (.long q2), .second] [(.long ((q2.toUInt64 >>> (w1 &&& 0x3f).toInt64.toUInt64).toInt64))])) (fun tt_ kk_ => XS.lushr X1.here hx rfl (hb hby d11_5) rfl kk_) ?_
  refine Gq.go (T1.setTop (mkF m 7 #[.val (.ref a1), .val (.long q2), .second] [(.ref a1), (.long ((q2.toUInt64 >>> (w1 &&& 0x3f).toInt64.toUInt64).toInt64))])) (fun tt_ kk_ => XS.aloadN X1.here hx rfl (hb hby d11_6) rfl rfl kk_) ?_
  obtain ⟨T2, X2, eh2, st2⟩ := getF X1 hx hZ hown (host := "") (Or.inl (hw _ (List.mem_of_getElem? (i := 35) rfl))) Via.refl eh1 F_reachMask (g := (mkF m 7 #[.val (.ref a1), .val (.long q2), .second] [(.ref a1), (.long ((q2.toUInt64 >>> (w1 &&& 0x3f).toInt64.toUInt64).toInt64))])) rfl rfl (hb hby d11_7)
  refine Gq.go (T2.setTop (mkF m 10 #[.val (.ref a1), .val (.long q2), .second] [(.long w2), (.long ((q2.toUInt64 >>> (w1 &&& 0x3f).toInt64.toUInt64).toInt64))])) (fun tt_ kk_ => st2 _ kk_) ?_
  refine Gq.go (T2.setTop (mkF m 11 #[.val (.ref a1), .val (.long q2), .second] [(.long (((q2.toUInt64 >>> (w1 &&& 0x3f).toInt64.toUInt64).toInt64) &&& w2))])) (fun tt_ kk_ => XS.land X2.here hx rfl (hb hby d11_10) rfl kk_) ?_
  refine Gq.retL X2 hx Bd.notSynchronized Bd.returns (hb hby d11_11) (by decide) (by decide) ?_
  show Q11 Z a1 q2 w1 w2 h0 n0 _ T2.heap _
  rw [eh2]
  exact ⟨rfl, N0, rfl⟩
theorem pd_2 : parseMethodDescriptor "(II)V" = some ⟨[.int, .int], none⟩ := by decide +kernel
theorem pd_3 : parseMethodDescriptor "()I" = some ⟨[], some .int⟩ := by decide +kernel
theorem pd_4 : parseMethodDescriptor "(J)Z" = some ⟨[.long], some .boolean⟩ := by decide +kernel
theorem pd_5 : parseMethodDescriptor "()J" = some ⟨[], some .long⟩ := by decide +kernel
theorem pd_6 : parseMethodDescriptor "(J)J" = some ⟨[.long], some .long⟩ := by decide +kernel
theorem pn_com_example_dense_trie_densetrie_CellFieldsIsValuePinLaw : plainName "com/example/dense_trie/densetrie/CellFieldsIsValuePinLaw" = true := by first | (simp [plainName, overriddenIn]; done) | decide +kernel
theorem ef0 (m : MethodId) (y0 : Int32) (y1 : Int32) (y2 : Int64) (y3 : Int32) (y4 : Int32) : entryFrame m #[(.int y0), (.int y1), (.long y2), (.int y3), (.int y4)] maxLocals = mkF m 0 #[.val (.int y0), .val (.int y1), .val (.long y2), .second, .val (.int y3), .val (.int y4), .unset, .unset, .unset, .unset, .unset, .unset, .unset, .unset, .unset, .unset, .unset, .unset, .unset, .unset, .unset, .unset] [] := by first | (simp [entryFrame, mkF, argsToLocals, Value.category, maxLocals]; done) | rfl
def Q0 (Z : State) (x0 : Int32) (x1 : Int32) (x2 : Int64) (x3 : Int32) (x4 : Int32) (h0 : Heap) (n0 : Nat) (v : Option Value) (h : Heap) (L : List Loc) : Prop := v = some (.int (1 : Int32)) ∧ Fr n0 L
set_option maxRecDepth 65536 in
set_option maxHeartbeats 40000000 in
theorem rm0 (l : Launch) (Z : State) (a0 : Array Value) (hw : ∀ d ∈ tables_1, d.before a0 Z = true) (ws : List Jvm.Cond) (x0 : Int32) (x1 : Int32) (x2 : Int64) (x3 : Int32) (x4 : Int32) (h0 : Heap) (n0 : Nat) (Z0 : n0 ≤ h0.size)  :
    MetFree l x (head1 (Jvm.Cond.code x code maxLocals ret :: ws) room_1) (fun a U => a = #[(.int x0), (.int x1), (.long x2), (.int x3), (.int x4)] ∧ Z.Warmed39 U.vm ∧ U.heap = h0) (fun _ _ _ _ _ => True) (fun _ U o U' => ∃ v L, o = .returned v ∧ Q0 Z x0 x1 x2 x3 x4 h0 n0 v U'.heap L ∧ FrameEnd U o U' L room_1.cells room_1.slots) := by
  refine MetFree.of_bodySF (plainFor_of_name pn_com_example_dense_trie_densetrie_CellFieldsIsValuePinLaw) hisR ?_
  intro p e s m args below meth c s₁ Bd hml0 hP hK
  obtain ⟨rfl, hZ, hh⟩ := hP
  have hx := Bd.exec
  have hby := Bd.bytes
  have hml : c.maxLocals = 22 := hml0
  have hown : s.vm.findClass "com/example/dense_trie/densetrie/CellFieldsIsValuePinLaw" = some m.cls := findClass_of_methodNamed Bd.named
  have hnm := (name_of_methodNamed Bd.named Bd.method).1
  have X0 : Stand p l e room_1 s m #[(.int x0), (.int x1), (.long x2), (.int x3), (.int x4)] below meth c s₁ [] 0 0 := Stand.of_body Bd
  have eh0 : s₁.heap = h0 := by rw [← hh, Bd.state]; rfl
  have N0 := Fr.nil n0
  refine Gq.start (Q := Q0 Z x0 x1 x2 x3 x4 h0 n0) (kc := room_1.cells) (ks := room_1.slots) (ef0 m x0 x1 x2 x3 x4) ?_
  refine Gq.go (s₁.setTop (mkF m 1 #[.val (.int x0), .val (.int x1), .val (.long x2), .second, .val (.int x3), .val (.int x4), .unset, .unset, .unset, .unset, .unset, .unset, .unset, .unset, .unset, .unset, .unset, .unset, .unset, .unset, .unset, .unset] [(.int x0)])) (fun tt_ kk_ => XS.iloadN X0.here hx rfl (hb hby at_0) rfl kk_) ?_
  refine Gq.go (s₁.setTop (mkF m 3 #[.val (.int x0), .val (.int x1), .val (.long x2), .second, .val (.int x3), .val (.int x4), .unset, .unset, .unset, .unset, .unset, .unset, .unset, .unset, .unset, .unset, .unset, .unset, .unset, .unset, .unset, .unset] [(.int (2147483647 : Int32)), (.int x0)])) (fun tt_ kk_ => X0.ldcInt hx hown (mvT hZ (hw _ (List.mem_of_getElem? (i := 0) rfl))) (g := (mkF m 1 #[.val (.int x0), .val (.int x1), .val (.long x2), .second, .val (.int x3), .val (.int x4), .unset, .unset, .unset, .unset, .unset, .unset, .unset, .unset, .unset, .unset, .unset, .unset, .unset, .unset, .unset, .unset] [(.int x0)])) rfl (hb hby at_1) _ kk_) ?_
  refine Gq.go (s₁.setTop (mkF m 4 #[.val (.int x0), .val (.int x1), .val (.long x2), .second, .val (.int x3), .val (.int x4), .unset, .unset, .unset, .unset, .unset, .unset, .unset, .unset, .unset, .unset, .unset, .unset, .unset, .unset, .unset, .unset] [(.int (x0 &&& (2147483647 : Int32)))])) (fun tt_ kk_ => XS.iand X0.here hx rfl (hb hby at_3) rfl kk_) ?_
  obtain ⟨c0, hc0', ec0⟩ := own_and x0 2147483647 (by decide)
  have hc0 : c0 < 2147483648 := by omega
  rw [show (x0 &&& (2147483647 : Int32)) = (Int32.ofNat c0) from ec0]
  refine Gq.go (s₁.setTop (mkF m 6 #[.val (.int x0), .val (.int x1), .val (.long x2), .second, .val (.int x3), .val (.int x4), .val (.int (Int32.ofNat c0)), .unset, .unset, .unset, .unset, .unset, .unset, .unset, .unset, .unset, .unset, .unset, .unset, .unset, .unset, .unset] [])) (fun tt_ kk_ => XS.istore X0.here hx rfl (hb hby at_4) rfl (l' := #[.val (.int x0), .val (.int x1), .val (.long x2), .second, .val (.int x3), .val (.int x4), .val (.int (Int32.ofNat c0)), .unset, .unset, .unset, .unset, .unset, .unset, .unset, .unset, .unset, .unset, .unset, .unset, .unset, .unset, .unset]) rfl kk_) ?_
  refine Gq.go (s₁.setTop (mkF m 7 #[.val (.int x0), .val (.int x1), .val (.long x2), .second, .val (.int x3), .val (.int x4), .val (.int (Int32.ofNat c0)), .unset, .unset, .unset, .unset, .unset, .unset, .unset, .unset, .unset, .unset, .unset, .unset, .unset, .unset, .unset] [(.int x1)])) (fun tt_ kk_ => XS.iloadN X0.here hx rfl (hb hby at_6) rfl kk_) ?_
  refine Gq.go (s₁.setTop (mkF m 9 #[.val (.int x0), .val (.int x1), .val (.long x2), .second, .val (.int x3), .val (.int x4), .val (.int (Int32.ofNat c0)), .unset, .unset, .unset, .unset, .unset, .unset, .unset, .unset, .unset, .unset, .unset, .unset, .unset, .unset, .unset] [(.int (2147483647 : Int32)), (.int x1)])) (fun tt_ kk_ => X0.ldcInt hx hown (mvT hZ (hw _ (List.mem_of_getElem? (i := 0) rfl))) (g := (mkF m 7 #[.val (.int x0), .val (.int x1), .val (.long x2), .second, .val (.int x3), .val (.int x4), .val (.int (Int32.ofNat c0)), .unset, .unset, .unset, .unset, .unset, .unset, .unset, .unset, .unset, .unset, .unset, .unset, .unset, .unset, .unset] [(.int x1)])) rfl (hb hby at_7) _ kk_) ?_
  refine Gq.go (s₁.setTop (mkF m 10 #[.val (.int x0), .val (.int x1), .val (.long x2), .second, .val (.int x3), .val (.int x4), .val (.int (Int32.ofNat c0)), .unset, .unset, .unset, .unset, .unset, .unset, .unset, .unset, .unset, .unset, .unset, .unset, .unset, .unset, .unset] [(.int (x1 &&& (2147483647 : Int32)))])) (fun tt_ kk_ => XS.iand X0.here hx rfl (hb hby at_9) rfl kk_) ?_
  refine Gq.go (s₁.setTop (mkF m 12 #[.val (.int x0), .val (.int x1), .val (.long x2), .second, .val (.int x3), .val (.int x4), .val (.int (Int32.ofNat c0)), .unset, .unset, .unset, .unset, .unset, .unset, .unset, .unset, .unset, .unset, .unset, .unset, .unset, .unset, .unset] [(.int (32 : Int32)), (.int (x1 &&& (2147483647 : Int32)))])) (fun tt_ kk_ => XS.bipush X0.here hx rfl (hb hby at_10) kk_) ?_
  refine Gq.go (s₁.setTop (mkF m 13 #[.val (.int x0), .val (.int x1), .val (.long x2), .second, .val (.int x3), .val (.int x4), .val (.int (Int32.ofNat c0)), .unset, .unset, .unset, .unset, .unset, .unset, .unset, .unset, .unset, .unset, .unset, .unset, .unset, .unset, .unset] [(.int ((x1 &&& (2147483647 : Int32)) % (32 : Int32)))])) (fun tt_ kk_ => iremM X0 hx rfl (hb hby at_12) rfl (by decide) kk_) ?_
  obtain ⟨pb, hpb, epb⟩ := own_maskrem x1 32 (by decide) (by decide)
  rw [show ((x1 &&& (2147483647 : Int32)) % (32 : Int32)) = (Int32.ofNat pb) from epb]
  refine Gq.go (s₁.setTop (mkF m 15 #[.val (.int x0), .val (.int x1), .val (.long x2), .second, .val (.int x3), .val (.int x4), .val (.int (Int32.ofNat c0)), .val (.int (Int32.ofNat pb)), .unset, .unset, .unset, .unset, .unset, .unset, .unset, .unset, .unset, .unset, .unset, .unset, .unset, .unset] [])) (fun tt_ kk_ => XS.istore X0.here hx rfl (hb hby at_13) rfl (l' := #[.val (.int x0), .val (.int x1), .val (.long x2), .second, .val (.int x3), .val (.int x4), .val (.int (Int32.ofNat c0)), .val (.int (Int32.ofNat pb)), .unset, .unset, .unset, .unset, .unset, .unset, .unset, .unset, .unset, .unset, .unset, .unset, .unset, .unset]) rfl kk_) ?_
  obtain ⟨T1, h1, X1, eh1, E1, A1, D1, -, st1⟩ := newO X0 hx hZ hown (hw _ (List.mem_of_getElem? (i := 1) rfl)) (hw _ (List.mem_of_getElem? (i := 2) rfl)) (hw _ (List.mem_of_getElem? (i := 3) rfl)) eh0 (g := (mkF m 15 #[.val (.int x0), .val (.int x1), .val (.long x2), .second, .val (.int x3), .val (.int x4), .val (.int (Int32.ofNat c0)), .val (.int (Int32.ofNat pb)), .unset, .unset, .unset, .unset, .unset, .unset, .unset, .unset, .unset, .unset, .unset, .unset, .unset, .unset] [])) rfl (hb hby at_15) (by decide) (by decide)
  obtain ⟨b1, aq1⟩ : ∃ z, z = h0.size := ⟨_, rfl⟩
  rw [← aq1] at A1 D1 st1
  have g_b1 : n0 ≤ b1 := Nat.le_trans Z0 (Nat.le_of_eq aq1.symm)
  have za2 : n0 ≤ h1.size := Nat.le_trans Z0 E1.1
  have F1_labelBits : Fld Z h1 b1 "com/example/dense_trie/densetrie/CellFields" "labelBits" "I" (.int (0 : Int32)) := D1 (Or.inr (hw _ (List.mem_of_getElem? (i := 26) rfl))) (ty := .int) (by decide)
  have F1_payloadBits : Fld Z h1 b1 "com/example/dense_trie/densetrie/CellFields" "payloadBits" "I" (.int (0 : Int32)) := D1 (Or.inr (hw _ (List.mem_of_getElem? (i := 28) rfl))) (ty := .int) (by decide)
  have F1_cellBits : Fld Z h1 b1 "com/example/dense_trie/densetrie/CellFields" "cellBits" "I" (.int (0 : Int32)) := D1 (Or.inr (hw _ (List.mem_of_getElem? (i := 30) rfl))) (ty := .int) (by decide)
  have F1_labelMask : Fld Z h1 b1 "com/example/dense_trie/densetrie/CellFields" "labelMask" "J" (.long (0 : Int64)) := D1 (Or.inr (hw _ (List.mem_of_getElem? (i := 32) rfl))) (ty := .long) (by decide)
  have F1_payloadMask : Fld Z h1 b1 "com/example/dense_trie/densetrie/CellFields" "payloadMask" "J" (.long (0 : Int64)) := D1 (Or.inr (hw _ (List.mem_of_getElem? (i := 34) rfl))) (ty := .long) (by decide)
  have F1_reachMask : Fld Z h1 b1 "com/example/dense_trie/densetrie/CellFields" "reachMask" "J" (.long (0 : Int64)) := D1 (Or.inr (hw _ (List.mem_of_getElem? (i := 36) rfl))) (ty := .long) (by decide)
  have F1_valueFlag : Fld Z h1 b1 "com/example/dense_trie/densetrie/CellFields" "valueFlag" "J" (.long (0 : Int64)) := D1 (Or.inr (hw _ (List.mem_of_getElem? (i := 38) rfl))) (ty := .long) (by decide)
  have ta1' := A1.lt
  refine Gq.go (T1.setTop (mkF m 18 #[.val (.int x0), .val (.int x1), .val (.long x2), .second, .val (.int x3), .val (.int x4), .val (.int (Int32.ofNat c0)), .val (.int (Int32.ofNat pb)), .unset, .unset, .unset, .unset, .unset, .unset, .unset, .unset, .unset, .unset, .unset, .unset, .unset, .unset] [(.ref b1)])) (fun tt_ kk_ => st1 tt_ kk_) ?_
  refine Gq.go (T1.setTop (mkF m 19 #[.val (.int x0), .val (.int x1), .val (.long x2), .second, .val (.int x3), .val (.int x4), .val (.int (Int32.ofNat c0)), .val (.int (Int32.ofNat pb)), .unset, .unset, .unset, .unset, .unset, .unset, .unset, .unset, .unset, .unset, .unset, .unset, .unset, .unset] [(.ref b1), (.ref b1)])) (fun tt_ kk_ => XS.dup X1.here hx rfl (hb hby at_18) rfl rfl kk_) ?_
  refine Gq.go (T1.setTop (mkF m 21 #[.val (.int x0), .val (.int x1), .val (.long x2), .second, .val (.int x3), .val (.int x4), .val (.int (Int32.ofNat c0)), .val (.int (Int32.ofNat pb)), .unset, .unset, .unset, .unset, .unset, .unset, .unset, .unset, .unset, .unset, .unset, .unset, .unset, .unset] [(.int (Int32.ofNat c0)), (.ref b1), (.ref b1)])) (fun tt_ kk_ => XS.iload X1.here hx rfl (hb hby at_19) rfl kk_) ?_
  refine Gq.go (T1.setTop (mkF m 23 #[.val (.int x0), .val (.int x1), .val (.long x2), .second, .val (.int x3), .val (.int x4), .val (.int (Int32.ofNat c0)), .val (.int (Int32.ofNat pb)), .unset, .unset, .unset, .unset, .unset, .unset, .unset, .unset, .unset, .unset, .unset, .unset, .unset, .unset] [(.int (Int32.ofNat pb)), (.int (Int32.ofNat c0)), (.ref b1), (.ref b1)])) (fun tt_ kk_ => XS.iload X1.here hx rfl (hb hby at_21) rfl kk_) ?_
  obtain ⟨r3, T3, L3, X3, hQ3, st3⟩ := callI (pc := 23) (Ls := #[.val (.int x0), .val (.int x1), .val (.long x2), .second, .val (.int x3), .val (.int x4), .val (.int (Int32.ofNat c0)), .val (.int (Int32.ofNat pb)), .unset, .unset, .unset, .unset, .unset, .unset, .unset, .unset, .unset, .unset, .unset, .unset, .unset, .unset]) X1 hx hZ hown eh1 b1 [(.int (Int32.ofNat c0)), (.int (Int32.ofNat pb))] [(.ref b1)] (hw _ (List.mem_of_getElem? (i := 4) rfl)) (hw _ (List.mem_of_getElem? (i := 5) rfl)) (hw _ (List.mem_of_getElem? (i := 3) rfl)) (hw _ (List.mem_of_getElem? (i := 6) rfl)) rfl (by decide) (rm1 l Z a0 hw [] b1 c0 pb h1 n0 za2 hc0 A1 F1_labelBits F1_payloadBits F1_cellBits F1_labelMask F1_payloadMask F1_reachMask F1_valueFlag g_b1) pd_2 rfl (by rw [hml]; rfl) (W := 1) (Nat.le_of_eq rfl) (by decide) (by decide) (by decide) (by decide) (hb hby at_23)
  obtain ⟨rfl, N3q, Kc3, B, hB1, hB2, hB3, c3_0, c3_1, c3_2, c3_3⟩ := hQ3
  have N3 := Fr.app N0 N3q
  have fa4 := A1.keep Kc3
  have ta12 := Nat.lt_of_lt_of_le ta1' Kc3.1
  have za13 : n0 ≤ T3.heap.size := Nat.le_trans za2 Kc3.1
  refine Gq.go (T3.setTop (mkF m 26 #[.val (.int x0), .val (.int x1), .val (.long x2), .second, .val (.int x3), .val (.int x4), .val (.int (Int32.ofNat c0)), .val (.int (Int32.ofNat pb)), .unset, .unset, .unset, .unset, .unset, .unset, .unset, .unset, .unset, .unset, .unset, .unset, .unset, .unset] [(.ref b1)])) (fun tt_ kk_ => st3 tt_ kk_) ?_
  refine Gq.go (T3.setTop (mkF m 28 #[.val (.int x0), .val (.int x1), .val (.long x2), .second, .val (.int x3), .val (.int x4), .val (.int (Int32.ofNat c0)), .val (.int (Int32.ofNat pb)), .val (.ref b1), .unset, .unset, .unset, .unset, .unset, .unset, .unset, .unset, .unset, .unset, .unset, .unset, .unset] [])) (fun tt_ kk_ => XS.astore X3.here hx rfl (hb hby at_26) rfl rfl (l' := #[.val (.int x0), .val (.int x1), .val (.long x2), .second, .val (.int x3), .val (.int x4), .val (.int (Int32.ofNat c0)), .val (.int (Int32.ofNat pb)), .val (.ref b1), .unset, .unset, .unset, .unset, .unset, .unset, .unset, .unset, .unset, .unset, .unset, .unset, .unset]) rfl kk_) ?_
  refine Gq.go (T3.setTop (mkF m 30 #[.val (.int x0), .val (.int x1), .val (.long x2), .second, .val (.int x3), .val (.int x4), .val (.int (Int32.ofNat c0)), .val (.int (Int32.ofNat pb)), .val (.ref b1), .unset, .unset, .unset, .unset, .unset, .unset, .unset, .unset, .unset, .unset, .unset, .unset, .unset] [(.ref b1)])) (fun tt_ kk_ => XS.aload X3.here hx rfl (hb hby at_28) rfl rfl kk_) ?_
  obtain ⟨r14, T14, L14, X14, hQ14, st14⟩ := callV (pc := 30) (Ls := #[.val (.int x0), .val (.int x1), .val (.long x2), .second, .val (.int x3), .val (.int x4), .val (.int (Int32.ofNat c0)), .val (.int (Int32.ofNat pb)), .val (.ref b1), .unset, .unset, .unset, .unset, .unset, .unset, .unset, .unset, .unset, .unset, .unset, .unset, .unset]) X3 hx hZ hown rfl b1 [] [] fa4 (hw _ (List.mem_of_getElem? (i := 39) rfl)) (hw _ (List.mem_of_getElem? (i := 40) rfl)) (hw _ (List.mem_of_getElem? (i := 42) rfl)) (hw _ (List.mem_of_getElem? (i := 41) rfl)) (hw _ (List.mem_of_getElem? (i := 3) rfl)) (hw _ (List.mem_of_getElem? (i := 43) rfl)) (by decide) (rm7 l Z a0 hw [] b1 (Int32.ofNat (B + 1)) T3.heap n0 za13 c3_0) pd_3 rfl (by rw [hml]; rfl) (W := 0) (Nat.le_of_eq rfl) (by decide) (by decide) (by decide) (by decide) (hb hby at_30)
  obtain ⟨rfl, N14q, eh14⟩ := hQ14
  have N14 := Fr.app N3 N14q
  refine Gq.go (T14.setTop (mkF m 33 #[.val (.int x0), .val (.int x1), .val (.long x2), .second, .val (.int x3), .val (.int x4), .val (.int (Int32.ofNat c0)), .val (.int (Int32.ofNat pb)), .val (.ref b1), .unset, .unset, .unset, .unset, .unset, .unset, .unset, .unset, .unset, .unset, .unset, .unset, .unset] [(.int (Int32.ofNat (B + 1)))])) (fun tt_ kk_ => st14 tt_ kk_) ?_
  refine Gq.go (T14.setTop (mkF m 35 #[.val (.int x0), .val (.int x1), .val (.long x2), .second, .val (.int x3), .val (.int x4), .val (.int (Int32.ofNat c0)), .val (.int (Int32.ofNat pb)), .val (.ref b1), .val (.int (Int32.ofNat (B + 1))), .unset, .unset, .unset, .unset, .unset, .unset, .unset, .unset, .unset, .unset, .unset, .unset] [])) (fun tt_ kk_ => XS.istore X14.here hx rfl (hb hby at_33) rfl (l' := #[.val (.int x0), .val (.int x1), .val (.long x2), .second, .val (.int x3), .val (.int x4), .val (.int (Int32.ofNat c0)), .val (.int (Int32.ofNat pb)), .val (.ref b1), .val (.int (Int32.ofNat (B + 1))), .unset, .unset, .unset, .unset, .unset, .unset, .unset, .unset, .unset, .unset, .unset, .unset]) rfl kk_) ?_
  refine Gq.go (T14.setTop (mkF m 37 #[.val (.int x0), .val (.int x1), .val (.long x2), .second, .val (.int x3), .val (.int x4), .val (.int (Int32.ofNat c0)), .val (.int (Int32.ofNat pb)), .val (.ref b1), .val (.int (Int32.ofNat (B + 1))), .unset, .unset, .unset, .unset, .unset, .unset, .unset, .unset, .unset, .unset, .unset, .unset] [(.int (Int32.ofNat c0))])) (fun tt_ kk_ => XS.iload X14.here hx rfl (hb hby at_35) rfl kk_) ?_
  refine Gq.go (T14.setTop (mkF m 38 #[.val (.int x0), .val (.int x1), .val (.long x2), .second, .val (.int x3), .val (.int x4), .val (.int (Int32.ofNat c0)), .val (.int (Int32.ofNat pb)), .val (.ref b1), .val (.int (Int32.ofNat (B + 1))), .unset, .unset, .unset, .unset, .unset, .unset, .unset, .unset, .unset, .unset, .unset, .unset] [(.long ((Int32.ofNat c0).toInt64))])) (fun tt_ kk_ => XS.i2l X14.here hx rfl (hb hby at_37) rfl kk_) ?_
  refine Gq.go (T14.setTop (mkF m 39 #[.val (.int x0), .val (.int x1), .val (.long x2), .second, .val (.int x3), .val (.int x4), .val (.int (Int32.ofNat c0)), .val (.int (Int32.ofNat pb)), .val (.ref b1), .val (.int (Int32.ofNat (B + 1))), .unset, .unset, .unset, .unset, .unset, .unset, .unset, .unset, .unset, .unset, .unset, .unset] [(.long (1 : Int64)), (.long ((Int32.ofNat c0).toInt64))])) (fun tt_ kk_ => XS.lconst X14.here hx rfl (hb hby at_38) kk_) ?_
  refine Gq.go (T14.setTop (mkF m 40 #[.val (.int x0), .val (.int x1), .val (.long x2), .second, .val (.int x3), .val (.int x4), .val (.int (Int32.ofNat c0)), .val (.int (Int32.ofNat pb)), .val (.ref b1), .val (.int (Int32.ofNat (B + 1))), .unset, .unset, .unset, .unset, .unset, .unset, .unset, .unset, .unset, .unset, .unset, .unset] [(.long (((Int32.ofNat c0).toInt64) + (1 : Int64)))])) (fun tt_ kk_ => XS.ladd X14.here hx rfl (hb hby at_39) rfl kk_) ?_
  rw [show (((Int32.ofNat c0).toInt64) + (1 : Int64)) = (Int64.ofNat (c0 + 1)) from own_top hc0]
  refine Gq.go (T14.setTop (mkF m 42 #[.val (.int x0), .val (.int x1), .val (.long x2), .second, .val (.int x3), .val (.int x4), .val (.int (Int32.ofNat c0)), .val (.int (Int32.ofNat pb)), .val (.ref b1), .val (.int (Int32.ofNat (B + 1))), .val (.long (Int64.ofNat (c0 + 1))), .second, .unset, .unset, .unset, .unset, .unset, .unset, .unset, .unset, .unset, .unset] [])) (fun tt_ kk_ => XS.lstore X14.here hx rfl (hb hby at_40) rfl (l' := #[.val (.int x0), .val (.int x1), .val (.long x2), .second, .val (.int x3), .val (.int x4), .val (.int (Int32.ofNat c0)), .val (.int (Int32.ofNat pb)), .val (.ref b1), .val (.int (Int32.ofNat (B + 1))), .val (.long (Int64.ofNat (c0 + 1))), .second, .unset, .unset, .unset, .unset, .unset, .unset, .unset, .unset, .unset, .unset]) rfl kk_) ?_
  refine Gq.go (T14.setTop (mkF m 44 #[.val (.int x0), .val (.int x1), .val (.long x2), .second, .val (.int x3), .val (.int x4), .val (.int (Int32.ofNat c0)), .val (.int (Int32.ofNat pb)), .val (.ref b1), .val (.int (Int32.ofNat (B + 1))), .val (.long (Int64.ofNat (c0 + 1))), .second, .unset, .unset, .unset, .unset, .unset, .unset, .unset, .unset, .unset, .unset] [(.int (Int32.ofNat (B + 1)))])) (fun tt_ kk_ => XS.iload X14.here hx rfl (hb hby at_42) rfl kk_) ?_
  refine Gq.go (T14.setTop (mkF m 45 #[.val (.int x0), .val (.int x1), .val (.long x2), .second, .val (.int x3), .val (.int x4), .val (.int (Int32.ofNat c0)), .val (.int (Int32.ofNat pb)), .val (.ref b1), .val (.int (Int32.ofNat (B + 1))), .val (.long (Int64.ofNat (c0 + 1))), .second, .unset, .unset, .unset, .unset, .unset, .unset, .unset, .unset, .unset, .unset] [(.int (1 : Int32)), (.int (Int32.ofNat (B + 1)))])) (fun tt_ kk_ => XS.iconst X14.here hx rfl (hb hby at_44) kk_) ?_
  refine Gq.go (T14.setTop (mkF m 48 #[.val (.int x0), .val (.int x1), .val (.long x2), .second, .val (.int x3), .val (.int x4), .val (.int (Int32.ofNat c0)), .val (.int (Int32.ofNat pb)), .val (.ref b1), .val (.int (Int32.ofNat (B + 1))), .val (.long (Int64.ofNat (c0 + 1))), .second, .unset, .unset, .unset, .unset, .unset, .unset, .unset, .unset, .unset, .unset] [])) (fun tt_ kk_ => XS.icmpNo X14.here hx rfl (hb hby at_45) rfl (flt (fun q => absurd ((own_lt (b := 1) (by omega) (by decide)).mp q) (by omega))).1 kk_) ?_
  refine Gq.go (T14.setTop (mkF m 50 #[.val (.int x0), .val (.int x1), .val (.long x2), .second, .val (.int x3), .val (.int x4), .val (.int (Int32.ofNat c0)), .val (.int (Int32.ofNat pb)), .val (.ref b1), .val (.int (Int32.ofNat (B + 1))), .val (.long (Int64.ofNat (c0 + 1))), .second, .unset, .unset, .unset, .unset, .unset, .unset, .unset, .unset, .unset, .unset] [(.int (Int32.ofNat (B + 1)))])) (fun tt_ kk_ => XS.iload X14.here hx rfl (hb hby at_48) rfl kk_) ?_
  refine Gq.go (T14.setTop (mkF m 52 #[.val (.int x0), .val (.int x1), .val (.long x2), .second, .val (.int x3), .val (.int x4), .val (.int (Int32.ofNat c0)), .val (.int (Int32.ofNat pb)), .val (.ref b1), .val (.int (Int32.ofNat (B + 1))), .val (.long (Int64.ofNat (c0 + 1))), .second, .unset, .unset, .unset, .unset, .unset, .unset, .unset, .unset, .unset, .unset] [(.int (32 : Int32)), (.int (Int32.ofNat (B + 1)))])) (fun tt_ kk_ => XS.bipush X14.here hx rfl (hb hby at_50) kk_) ?_
  refine Gq.go (T14.setTop (mkF m 57 #[.val (.int x0), .val (.int x1), .val (.long x2), .second, .val (.int x3), .val (.int x4), .val (.int (Int32.ofNat c0)), .val (.int (Int32.ofNat pb)), .val (.ref b1), .val (.int (Int32.ofNat (B + 1))), .val (.long (Int64.ofNat (c0 + 1))), .second, .unset, .unset, .unset, .unset, .unset, .unset, .unset, .unset, .unset, .unset] [])) (fun tt_ kk_ => XS.icmpYes X14.here hx rfl (pc0 := 52) (pc' := 57) rfl (hb hby at_52) rfl (flt (fun q => absurd ((own_lt (a := 32) (by decide) (by omega)).mp q) (by omega))).2.2.2 (by decide) (by decide) kk_) ?_
  refine Gq.go (T14.setTop (mkF m 59 #[.val (.int x0), .val (.int x1), .val (.long x2), .second, .val (.int x3), .val (.int x4), .val (.int (Int32.ofNat c0)), .val (.int (Int32.ofNat pb)), .val (.ref b1), .val (.int (Int32.ofNat (B + 1))), .val (.long (Int64.ofNat (c0 + 1))), .second, .unset, .unset, .unset, .unset, .unset, .unset, .unset, .unset, .unset, .unset] [(.long (Int64.ofNat (c0 + 1)))])) (fun tt_ kk_ => XS.lload X14.here hx rfl (hb hby at_57) rfl kk_) ?_
  refine Gq.go (T14.setTop (mkF m 61 #[.val (.int x0), .val (.int x1), .val (.long x2), .second, .val (.int x3), .val (.int x4), .val (.int (Int32.ofNat c0)), .val (.int (Int32.ofNat pb)), .val (.ref b1), .val (.int (Int32.ofNat (B + 1))), .val (.long (Int64.ofNat (c0 + 1))), .second, .unset, .unset, .unset, .unset, .unset, .unset, .unset, .unset, .unset, .unset] [(.int (Int32.ofNat (B + 1))), (.long (Int64.ofNat (c0 + 1)))])) (fun tt_ kk_ => XS.iload X14.here hx rfl (hb hby at_59) rfl kk_) ?_
  refine Gq.go (T14.setTop (mkF m 62 #[.val (.int x0), .val (.int x1), .val (.long x2), .second, .val (.int x3), .val (.int x4), .val (.int (Int32.ofNat c0)), .val (.int (Int32.ofNat pb)), .val (.ref b1), .val (.int (Int32.ofNat (B + 1))), .val (.long (Int64.ofNat (c0 + 1))), .second, .unset, .unset, .unset, .unset, .unset, .unset, .unset, .unset, .unset, .unset] [(.long (((Int64.ofNat (c0 + 1)).toUInt64 >>> ((Int32.ofNat (B + 1)) &&& 0x3f).toInt64.toUInt64).toInt64))])) (fun tt_ kk_ => XS.lushr X14.here hx rfl (hb hby at_61) rfl kk_) ?_
  rw [show (((Int64.ofNat (c0 + 1)).toUInt64 >>> ((Int32.ofNat (B + 1)) &&& 0x3f).toInt64.toUInt64).toInt64) = (Int64.ofNat 0) from by rw [o64_ushr (by omega) _ _ (o_shamt (B + 1) (by omega)) (by omega), Nat.div_eq_of_lt hB3]]
  refine Gq.go (T14.setTop (mkF m 63 #[.val (.int x0), .val (.int x1), .val (.long x2), .second, .val (.int x3), .val (.int x4), .val (.int (Int32.ofNat c0)), .val (.int (Int32.ofNat pb)), .val (.ref b1), .val (.int (Int32.ofNat (B + 1))), .val (.long (Int64.ofNat (c0 + 1))), .second, .unset, .unset, .unset, .unset, .unset, .unset, .unset, .unset, .unset, .unset] [(.long (0 : Int64)), (.long (Int64.ofNat 0))])) (fun tt_ kk_ => XS.lconst X14.here hx rfl (hb hby at_62) kk_) ?_
  refine Gq.go (T14.setTop (mkF m 64 #[.val (.int x0), .val (.int x1), .val (.long x2), .second, .val (.int x3), .val (.int x4), .val (.int (Int32.ofNat c0)), .val (.int (Int32.ofNat pb)), .val (.ref b1), .val (.int (Int32.ofNat (B + 1))), .val (.long (Int64.ofNat (c0 + 1))), .second, .unset, .unset, .unset, .unset, .unset, .unset, .unset, .unset, .unset, .unset] [(.int (lcmpW (Int64.ofNat 0) (0 : Int64)))])) (fun tt_ kk_ => XS.lcmp X14.here hx rfl (hb hby at_63) rfl kk_) ?_
  refine Gq.go (T14.setTop (mkF m 67 #[.val (.int x0), .val (.int x1), .val (.long x2), .second, .val (.int x3), .val (.int x4), .val (.int (Int32.ofNat c0)), .val (.int (Int32.ofNat pb)), .val (.ref b1), .val (.int (Int32.ofNat (B + 1))), .val (.long (Int64.ofNat (c0 + 1))), .second, .unset, .unset, .unset, .unset, .unset, .unset, .unset, .unset, .unset, .unset] [])) (fun tt_ kk_ => XS.ifNo X14.here hx rfl (hb hby at_64) rfl ((if0 _ _).trans (teq (o64_refl (a := 0) (b := 0) rfl)).2) kk_) ?_
  refine Gq.go (T14.setTop (mkF m 69 #[.val (.int x0), .val (.int x1), .val (.long x2), .second, .val (.int x3), .val (.int x4), .val (.int (Int32.ofNat c0)), .val (.int (Int32.ofNat pb)), .val (.ref b1), .val (.int (Int32.ofNat (B + 1))), .val (.long (Int64.ofNat (c0 + 1))), .second, .unset, .unset, .unset, .unset, .unset, .unset, .unset, .unset, .unset, .unset] [(.long (Int64.ofNat (c0 + 1)))])) (fun tt_ kk_ => XS.lload X14.here hx rfl (hb hby at_67) rfl kk_) ?_
  refine Gq.go (T14.setTop (mkF m 71 #[.val (.int x0), .val (.int x1), .val (.long x2), .second, .val (.int x3), .val (.int x4), .val (.int (Int32.ofNat c0)), .val (.int (Int32.ofNat pb)), .val (.ref b1), .val (.int (Int32.ofNat (B + 1))), .val (.long (Int64.ofNat (c0 + 1))), .second, .unset, .unset, .unset, .unset, .unset, .unset, .unset, .unset, .unset, .unset] [(.int (Int32.ofNat (B + 1))), (.long (Int64.ofNat (c0 + 1)))])) (fun tt_ kk_ => XS.iload X14.here hx rfl (hb hby at_69) rfl kk_) ?_
  refine Gq.go (T14.setTop (mkF m 72 #[.val (.int x0), .val (.int x1), .val (.long x2), .second, .val (.int x3), .val (.int x4), .val (.int (Int32.ofNat c0)), .val (.int (Int32.ofNat pb)), .val (.ref b1), .val (.int (Int32.ofNat (B + 1))), .val (.long (Int64.ofNat (c0 + 1))), .second, .unset, .unset, .unset, .unset, .unset, .unset, .unset, .unset, .unset, .unset] [(.int (1 : Int32)), (.int (Int32.ofNat (B + 1))), (.long (Int64.ofNat (c0 + 1)))])) (fun tt_ kk_ => XS.iconst X14.here hx rfl (hb hby at_71) kk_) ?_
  refine Gq.go (T14.setTop (mkF m 73 #[.val (.int x0), .val (.int x1), .val (.long x2), .second, .val (.int x3), .val (.int x4), .val (.int (Int32.ofNat c0)), .val (.int (Int32.ofNat pb)), .val (.ref b1), .val (.int (Int32.ofNat (B + 1))), .val (.long (Int64.ofNat (c0 + 1))), .second, .unset, .unset, .unset, .unset, .unset, .unset, .unset, .unset, .unset, .unset] [(.int ((Int32.ofNat (B + 1)) - (1 : Int32))), (.long (Int64.ofNat (c0 + 1)))])) (fun tt_ kk_ => XS.isub X14.here hx rfl (hb hby at_72) rfl kk_) ?_
  rw [show ((Int32.ofNat (B + 1)) - (1 : Int32)) = (Int32.ofNat B) from by rw [show (1 : Int32) = Int32.ofNat 1 from rfl, own_sub (by omega), Nat.add_sub_cancel]]
  refine Gq.go (T14.setTop (mkF m 74 #[.val (.int x0), .val (.int x1), .val (.long x2), .second, .val (.int x3), .val (.int x4), .val (.int (Int32.ofNat c0)), .val (.int (Int32.ofNat pb)), .val (.ref b1), .val (.int (Int32.ofNat (B + 1))), .val (.long (Int64.ofNat (c0 + 1))), .second, .unset, .unset, .unset, .unset, .unset, .unset, .unset, .unset, .unset, .unset] [(.long (((Int64.ofNat (c0 + 1)).toUInt64 >>> ((Int32.ofNat B) &&& 0x3f).toInt64.toUInt64).toInt64))])) (fun tt_ kk_ => XS.lushr X14.here hx rfl (hb hby at_73) rfl kk_) ?_
  rw [show (((Int64.ofNat (c0 + 1)).toUInt64 >>> ((Int32.ofNat B) &&& 0x3f).toInt64.toUInt64).toInt64) = (Int64.ofNat 1) from by rw [o64_ushr (by omega) _ _ (o_shamt B (by omega)) (by omega), own_div1 hB2 hB3]]
  refine Gq.go (T14.setTop (mkF m 75 #[.val (.int x0), .val (.int x1), .val (.long x2), .second, .val (.int x3), .val (.int x4), .val (.int (Int32.ofNat c0)), .val (.int (Int32.ofNat pb)), .val (.ref b1), .val (.int (Int32.ofNat (B + 1))), .val (.long (Int64.ofNat (c0 + 1))), .second, .unset, .unset, .unset, .unset, .unset, .unset, .unset, .unset, .unset, .unset] [(.long (1 : Int64)), (.long (Int64.ofNat 1))])) (fun tt_ kk_ => XS.lconst X14.here hx rfl (hb hby at_74) kk_) ?_
  refine Gq.go (T14.setTop (mkF m 76 #[.val (.int x0), .val (.int x1), .val (.long x2), .second, .val (.int x3), .val (.int x4), .val (.int (Int32.ofNat c0)), .val (.int (Int32.ofNat pb)), .val (.ref b1), .val (.int (Int32.ofNat (B + 1))), .val (.long (Int64.ofNat (c0 + 1))), .second, .unset, .unset, .unset, .unset, .unset, .unset, .unset, .unset, .unset, .unset] [(.int (lcmpW (Int64.ofNat 1) (1 : Int64)))])) (fun tt_ kk_ => XS.lcmp X14.here hx rfl (hb hby at_75) rfl kk_) ?_
  refine Gq.go (T14.setTop (mkF m 81 #[.val (.int x0), .val (.int x1), .val (.long x2), .second, .val (.int x3), .val (.int x4), .val (.int (Int32.ofNat c0)), .val (.int (Int32.ofNat pb)), .val (.ref b1), .val (.int (Int32.ofNat (B + 1))), .val (.long (Int64.ofNat (c0 + 1))), .second, .unset, .unset, .unset, .unset, .unset, .unset, .unset, .unset, .unset, .unset] [])) (fun tt_ kk_ => XS.ifYes X14.here hx rfl (pc0 := 76) (pc' := 81) rfl (hb hby at_76) rfl ((if0 _ _).trans (teq (o64_refl (a := 1) (b := 1) rfl)).1) (by decide) (by decide) kk_) ?_
  refine Gq.go (T14.setTop (mkF m 83 #[.val (.int x0), .val (.int x1), .val (.long x2), .second, .val (.int x3), .val (.int x4), .val (.int (Int32.ofNat c0)), .val (.int (Int32.ofNat pb)), .val (.ref b1), .val (.int (Int32.ofNat (B + 1))), .val (.long (Int64.ofNat (c0 + 1))), .second, .unset, .unset, .unset, .unset, .unset, .unset, .unset, .unset, .unset, .unset] [(.ref b1)])) (fun tt_ kk_ => XS.aload X14.here hx rfl (hb hby at_81) rfl rfl kk_) ?_
  obtain ⟨r15, T15, L15, X15, hQ15, st15⟩ := callV (pc := 83) (Ls := #[.val (.int x0), .val (.int x1), .val (.long x2), .second, .val (.int x3), .val (.int x4), .val (.int (Int32.ofNat c0)), .val (.int (Int32.ofNat pb)), .val (.ref b1), .val (.int (Int32.ofNat (B + 1))), .val (.long (Int64.ofNat (c0 + 1))), .second, .unset, .unset, .unset, .unset, .unset, .unset, .unset, .unset, .unset, .unset]) X14 hx hZ hown eh14 b1 [] [] fa4 (hw _ (List.mem_of_getElem? (i := 44) rfl)) (hw _ (List.mem_of_getElem? (i := 45) rfl)) (hw _ (List.mem_of_getElem? (i := 47) rfl)) (hw _ (List.mem_of_getElem? (i := 46) rfl)) (hw _ (List.mem_of_getElem? (i := 3) rfl)) (hw _ (List.mem_of_getElem? (i := 48) rfl)) (by decide) (rm8 l Z a0 hw [] b1 (Int32.ofNat pb) T3.heap n0 za13 c3_1) pd_3 rfl (by rw [hml]; rfl) (W := 0) (Nat.le_of_eq rfl) (by decide) (by decide) (by decide) (by decide) (hb hby at_83)
  obtain ⟨rfl, N15q, eh15⟩ := hQ15
  have N15 := Fr.app N14 N15q
  refine Gq.go (T15.setTop (mkF m 86 #[.val (.int x0), .val (.int x1), .val (.long x2), .second, .val (.int x3), .val (.int x4), .val (.int (Int32.ofNat c0)), .val (.int (Int32.ofNat pb)), .val (.ref b1), .val (.int (Int32.ofNat (B + 1))), .val (.long (Int64.ofNat (c0 + 1))), .second, .unset, .unset, .unset, .unset, .unset, .unset, .unset, .unset, .unset, .unset] [(.int (Int32.ofNat pb))])) (fun tt_ kk_ => st15 tt_ kk_) ?_
  refine Gq.go (T15.setTop (mkF m 88 #[.val (.int x0), .val (.int x1), .val (.long x2), .second, .val (.int x3), .val (.int x4), .val (.int (Int32.ofNat c0)), .val (.int (Int32.ofNat pb)), .val (.ref b1), .val (.int (Int32.ofNat (B + 1))), .val (.long (Int64.ofNat (c0 + 1))), .second, .unset, .unset, .unset, .unset, .unset, .unset, .unset, .unset, .unset, .unset] [(.int (Int32.ofNat pb)), (.int (Int32.ofNat pb))])) (fun tt_ kk_ => XS.iload X15.here hx rfl (hb hby at_86) rfl kk_) ?_
  refine Gq.go (T15.setTop (mkF m 93 #[.val (.int x0), .val (.int x1), .val (.long x2), .second, .val (.int x3), .val (.int x4), .val (.int (Int32.ofNat c0)), .val (.int (Int32.ofNat pb)), .val (.ref b1), .val (.int (Int32.ofNat (B + 1))), .val (.long (Int64.ofNat (c0 + 1))), .second, .unset, .unset, .unset, .unset, .unset, .unset, .unset, .unset, .unset, .unset] [])) (fun tt_ kk_ => XS.icmpYes X15.here hx rfl (pc0 := 88) (pc' := 93) rfl (hb hby at_88) rfl (teq rfl).1 (by decide) (by decide) kk_) ?_
  refine Gq.go (T15.setTop (mkF m 95 #[.val (.int x0), .val (.int x1), .val (.long x2), .second, .val (.int x3), .val (.int x4), .val (.int (Int32.ofNat c0)), .val (.int (Int32.ofNat pb)), .val (.ref b1), .val (.int (Int32.ofNat (B + 1))), .val (.long (Int64.ofNat (c0 + 1))), .second, .unset, .unset, .unset, .unset, .unset, .unset, .unset, .unset, .unset, .unset] [(.int (Int32.ofNat (B + 1)))])) (fun tt_ kk_ => XS.iload X15.here hx rfl (hb hby at_93) rfl kk_) ?_
  refine Gq.go (T15.setTop (mkF m 97 #[.val (.int x0), .val (.int x1), .val (.long x2), .second, .val (.int x3), .val (.int x4), .val (.int (Int32.ofNat c0)), .val (.int (Int32.ofNat pb)), .val (.ref b1), .val (.int (Int32.ofNat (B + 1))), .val (.long (Int64.ofNat (c0 + 1))), .second, .unset, .unset, .unset, .unset, .unset, .unset, .unset, .unset, .unset, .unset] [(.int (Int32.ofNat pb)), (.int (Int32.ofNat (B + 1)))])) (fun tt_ kk_ => XS.iload X15.here hx rfl (hb hby at_95) rfl kk_) ?_
  refine Gq.go (T15.setTop (mkF m 98 #[.val (.int x0), .val (.int x1), .val (.long x2), .second, .val (.int x3), .val (.int x4), .val (.int (Int32.ofNat c0)), .val (.int (Int32.ofNat pb)), .val (.ref b1), .val (.int (Int32.ofNat (B + 1))), .val (.long (Int64.ofNat (c0 + 1))), .second, .unset, .unset, .unset, .unset, .unset, .unset, .unset, .unset, .unset, .unset] [(.int ((Int32.ofNat (B + 1)) + (Int32.ofNat pb)))])) (fun tt_ kk_ => XS.iadd X15.here hx rfl (hb hby at_97) rfl kk_) ?_
  rw [show ((Int32.ofNat (B + 1)) + (Int32.ofNat pb)) = (Int32.ofNat (B + 1 + pb)) from own_add _ _]
  refine Gq.go (T15.setTop (mkF m 100 #[.val (.int x0), .val (.int x1), .val (.long x2), .second, .val (.int x3), .val (.int x4), .val (.int (Int32.ofNat c0)), .val (.int (Int32.ofNat pb)), .val (.ref b1), .val (.int (Int32.ofNat (B + 1))), .val (.long (Int64.ofNat (c0 + 1))), .second, .val (.int (Int32.ofNat (B + 1 + pb))), .unset, .unset, .unset, .unset, .unset, .unset, .unset, .unset, .unset] [])) (fun tt_ kk_ => XS.istore X15.here hx rfl (hb hby at_98) rfl (l' := #[.val (.int x0), .val (.int x1), .val (.long x2), .second, .val (.int x3), .val (.int x4), .val (.int (Int32.ofNat c0)), .val (.int (Int32.ofNat pb)), .val (.ref b1), .val (.int (Int32.ofNat (B + 1))), .val (.long (Int64.ofNat (c0 + 1))), .second, .val (.int (Int32.ofNat (B + 1 + pb))), .unset, .unset, .unset, .unset, .unset, .unset, .unset, .unset, .unset]) rfl kk_) ?_
  refine Gq.go (T15.setTop (mkF m 102 #[.val (.int x0), .val (.int x1), .val (.long x2), .second, .val (.int x3), .val (.int x4), .val (.int (Int32.ofNat c0)), .val (.int (Int32.ofNat pb)), .val (.ref b1), .val (.int (Int32.ofNat (B + 1))), .val (.long (Int64.ofNat (c0 + 1))), .second, .val (.int (Int32.ofNat (B + 1 + pb))), .unset, .unset, .unset, .unset, .unset, .unset, .unset, .unset, .unset] [(.int x3)])) (fun tt_ kk_ => XS.iload X15.here hx rfl (hb hby at_100) rfl kk_) ?_
  refine Gq.go (T15.setTop (mkF m 103 #[.val (.int x0), .val (.int x1), .val (.long x2), .second, .val (.int x3), .val (.int x4), .val (.int (Int32.ofNat c0)), .val (.int (Int32.ofNat pb)), .val (.ref b1), .val (.int (Int32.ofNat (B + 1))), .val (.long (Int64.ofNat (c0 + 1))), .second, .val (.int (Int32.ofNat (B + 1 + pb))), .unset, .unset, .unset, .unset, .unset, .unset, .unset, .unset, .unset] [(.int (1 : Int32)), (.int x3)])) (fun tt_ kk_ => XS.iconst X15.here hx rfl (hb hby at_102) kk_) ?_
  refine Gq.go (T15.setTop (mkF m 104 #[.val (.int x0), .val (.int x1), .val (.long x2), .second, .val (.int x3), .val (.int x4), .val (.int (Int32.ofNat c0)), .val (.int (Int32.ofNat pb)), .val (.ref b1), .val (.int (Int32.ofNat (B + 1))), .val (.long (Int64.ofNat (c0 + 1))), .second, .val (.int (Int32.ofNat (B + 1 + pb))), .unset, .unset, .unset, .unset, .unset, .unset, .unset, .unset, .unset] [(.int (x3 &&& (1 : Int32)))])) (fun tt_ kk_ => XS.iand X15.here hx rfl (hb hby at_103) rfl kk_) ?_
  by_cases hfl : (x3 &&& (1 : Int32)) = (0 : Int32)
  · refine Gq.go (T15.setTop (mkF m 111 #[.val (.int x0), .val (.int x1), .val (.long x2), .second, .val (.int x3), .val (.int x4), .val (.int (Int32.ofNat c0)), .val (.int (Int32.ofNat pb)), .val (.ref b1), .val (.int (Int32.ofNat (B + 1))), .val (.long (Int64.ofNat (c0 + 1))), .second, .val (.int (Int32.ofNat (B + 1 + pb))), .unset, .unset, .unset, .unset, .unset, .unset, .unset, .unset, .unset] [])) (fun tt_ kk_ => XS.ifYes X15.here hx rfl (pc0 := 104) (pc' := 111) rfl (hb hby at_104) rfl ((if0 _ _).trans (teq hfl).1) (by decide) (by decide) kk_) ?_
    refine Gq.go (T15.setTop (mkF m 112 #[.val (.int x0), .val (.int x1), .val (.long x2), .second, .val (.int x3), .val (.int x4), .val (.int (Int32.ofNat c0)), .val (.int (Int32.ofNat pb)), .val (.ref b1), .val (.int (Int32.ofNat (B + 1))), .val (.long (Int64.ofNat (c0 + 1))), .second, .val (.int (Int32.ofNat (B + 1 + pb))), .unset, .unset, .unset, .unset, .unset, .unset, .unset, .unset, .unset] [(.int (0 : Int32))])) (fun tt_ kk_ => XS.iconst X15.here hx rfl (hb hby at_111) kk_) ?_
    refine Gq.go (T15.setTop (mkF m 114 #[.val (.int x0), .val (.int x1), .val (.long x2), .second, .val (.int x3), .val (.int x4), .val (.int (Int32.ofNat c0)), .val (.int (Int32.ofNat pb)), .val (.ref b1), .val (.int (Int32.ofNat (B + 1))), .val (.long (Int64.ofNat (c0 + 1))), .second, .val (.int (Int32.ofNat (B + 1 + pb))), .val (.int (0 : Int32)), .unset, .unset, .unset, .unset, .unset, .unset, .unset, .unset] [])) (fun tt_ kk_ => XS.istore X15.here hx rfl (hb hby at_112) rfl (l' := #[.val (.int x0), .val (.int x1), .val (.long x2), .second, .val (.int x3), .val (.int x4), .val (.int (Int32.ofNat c0)), .val (.int (Int32.ofNat pb)), .val (.ref b1), .val (.int (Int32.ofNat (B + 1))), .val (.long (Int64.ofNat (c0 + 1))), .second, .val (.int (Int32.ofNat (B + 1 + pb))), .val (.int (0 : Int32)), .unset, .unset, .unset, .unset, .unset, .unset, .unset, .unset]) rfl kk_) ?_
    refine Gq.go (T15.setTop (mkF m 115 #[.val (.int x0), .val (.int x1), .val (.long x2), .second, .val (.int x3), .val (.int x4), .val (.int (Int32.ofNat c0)), .val (.int (Int32.ofNat pb)), .val (.ref b1), .val (.int (Int32.ofNat (B + 1))), .val (.long (Int64.ofNat (c0 + 1))), .second, .val (.int (Int32.ofNat (B + 1 + pb))), .val (.int (0 : Int32)), .unset, .unset, .unset, .unset, .unset, .unset, .unset, .unset] [(.long (1 : Int64))])) (fun tt_ kk_ => XS.lconst X15.here hx rfl (hb hby at_114) kk_) ?_
    refine Gq.go (T15.setTop (mkF m 117 #[.val (.int x0), .val (.int x1), .val (.long x2), .second, .val (.int x3), .val (.int x4), .val (.int (Int32.ofNat c0)), .val (.int (Int32.ofNat pb)), .val (.ref b1), .val (.int (Int32.ofNat (B + 1))), .val (.long (Int64.ofNat (c0 + 1))), .second, .val (.int (Int32.ofNat (B + 1 + pb))), .val (.int (0 : Int32)), .unset, .unset, .unset, .unset, .unset, .unset, .unset, .unset] [(.int (Int32.ofNat (B + 1 + pb))), (.long (1 : Int64))])) (fun tt_ kk_ => XS.iload X15.here hx rfl (hb hby at_115) rfl kk_) ?_
    refine Gq.go (T15.setTop (mkF m 118 #[.val (.int x0), .val (.int x1), .val (.long x2), .second, .val (.int x3), .val (.int x4), .val (.int (Int32.ofNat c0)), .val (.int (Int32.ofNat pb)), .val (.ref b1), .val (.int (Int32.ofNat (B + 1))), .val (.long (Int64.ofNat (c0 + 1))), .second, .val (.int (Int32.ofNat (B + 1 + pb))), .val (.int (0 : Int32)), .unset, .unset, .unset, .unset, .unset, .unset, .unset, .unset] [(.long ((1 : Int64) <<< ((Int32.ofNat (B + 1 + pb)) &&& 0x3f).toInt64))])) (fun tt_ kk_ => XS.lshl X15.here hx rfl (hb hby at_117) rfl kk_) ?_
    refine Gq.go (T15.setTop (mkF m 120 #[.val (.int x0), .val (.int x1), .val (.long x2), .second, .val (.int x3), .val (.int x4), .val (.int (Int32.ofNat c0)), .val (.int (Int32.ofNat pb)), .val (.ref b1), .val (.int (Int32.ofNat (B + 1))), .val (.long (Int64.ofNat (c0 + 1))), .second, .val (.int (Int32.ofNat (B + 1 + pb))), .val (.int (0 : Int32)), .val (.long ((1 : Int64) <<< ((Int32.ofNat (B + 1 + pb)) &&& 0x3f).toInt64)), .second, .unset, .unset, .unset, .unset, .unset, .unset] [])) (fun tt_ kk_ => XS.lstore X15.here hx rfl (hb hby at_118) rfl (l' := #[.val (.int x0), .val (.int x1), .val (.long x2), .second, .val (.int x3), .val (.int x4), .val (.int (Int32.ofNat c0)), .val (.int (Int32.ofNat pb)), .val (.ref b1), .val (.int (Int32.ofNat (B + 1))), .val (.long (Int64.ofNat (c0 + 1))), .second, .val (.int (Int32.ofNat (B + 1 + pb))), .val (.int (0 : Int32)), .val (.long ((1 : Int64) <<< ((Int32.ofNat (B + 1 + pb)) &&& 0x3f).toInt64)), .second, .unset, .unset, .unset, .unset, .unset, .unset]) rfl kk_) ?_
    refine Gq.go (T15.setTop (mkF m 122 #[.val (.int x0), .val (.int x1), .val (.long x2), .second, .val (.int x3), .val (.int x4), .val (.int (Int32.ofNat c0)), .val (.int (Int32.ofNat pb)), .val (.ref b1), .val (.int (Int32.ofNat (B + 1))), .val (.long (Int64.ofNat (c0 + 1))), .second, .val (.int (Int32.ofNat (B + 1 + pb))), .val (.int (0 : Int32)), .val (.long ((1 : Int64) <<< ((Int32.ofNat (B + 1 + pb)) &&& 0x3f).toInt64)), .second, .unset, .unset, .unset, .unset, .unset, .unset] [(.int (0 : Int32))])) (fun tt_ kk_ => XS.iload X15.here hx rfl (hb hby at_120) rfl kk_) ?_
    refine Gq.go (T15.setTop (mkF m 132 #[.val (.int x0), .val (.int x1), .val (.long x2), .second, .val (.int x3), .val (.int x4), .val (.int (Int32.ofNat c0)), .val (.int (Int32.ofNat pb)), .val (.ref b1), .val (.int (Int32.ofNat (B + 1))), .val (.long (Int64.ofNat (c0 + 1))), .second, .val (.int (Int32.ofNat (B + 1 + pb))), .val (.int (0 : Int32)), .val (.long ((1 : Int64) <<< ((Int32.ofNat (B + 1 + pb)) &&& 0x3f).toInt64)), .second, .unset, .unset, .unset, .unset, .unset, .unset] [])) (fun tt_ kk_ => XS.ifYes X15.here hx rfl (pc0 := 122) (pc' := 132) rfl (hb hby at_122) rfl ((if0 _ _).trans (teq (by decide : ((0 : Int32) = (0 : Int32)))).1) (by decide) (by decide) kk_) ?_
    refine Gq.go (T15.setTop (mkF m 133 #[.val (.int x0), .val (.int x1), .val (.long x2), .second, .val (.int x3), .val (.int x4), .val (.int (Int32.ofNat c0)), .val (.int (Int32.ofNat pb)), .val (.ref b1), .val (.int (Int32.ofNat (B + 1))), .val (.long (Int64.ofNat (c0 + 1))), .second, .val (.int (Int32.ofNat (B + 1 + pb))), .val (.int (0 : Int32)), .val (.long ((1 : Int64) <<< ((Int32.ofNat (B + 1 + pb)) &&& 0x3f).toInt64)), .second, .unset, .unset, .unset, .unset, .unset, .unset] [(.long x2)])) (fun tt_ kk_ => XS.lloadN X15.here hx rfl (hb hby at_132) rfl kk_) ?_
    refine Gq.go (T15.setTop (mkF m 135 #[.val (.int x0), .val (.int x1), .val (.long x2), .second, .val (.int x3), .val (.int x4), .val (.int (Int32.ofNat c0)), .val (.int (Int32.ofNat pb)), .val (.ref b1), .val (.int (Int32.ofNat (B + 1))), .val (.long (Int64.ofNat (c0 + 1))), .second, .val (.int (Int32.ofNat (B + 1 + pb))), .val (.int (0 : Int32)), .val (.long ((1 : Int64) <<< ((Int32.ofNat (B + 1 + pb)) &&& 0x3f).toInt64)), .second, .unset, .unset, .unset, .unset, .unset, .unset] [(.long ((1 : Int64) <<< ((Int32.ofNat (B + 1 + pb)) &&& 0x3f).toInt64)), (.long x2)])) (fun tt_ kk_ => XS.lload X15.here hx rfl (hb hby at_133) rfl kk_) ?_
    refine Gq.go (T15.setTop (mkF m 138 #[.val (.int x0), .val (.int x1), .val (.long x2), .second, .val (.int x3), .val (.int x4), .val (.int (Int32.ofNat c0)), .val (.int (Int32.ofNat pb)), .val (.ref b1), .val (.int (Int32.ofNat (B + 1))), .val (.long (Int64.ofNat (c0 + 1))), .second, .val (.int (Int32.ofNat (B + 1 + pb))), .val (.int (0 : Int32)), .val (.long ((1 : Int64) <<< ((Int32.ofNat (B + 1 + pb)) &&& 0x3f).toInt64)), .second, .unset, .unset, .unset, .unset, .unset, .unset] [(.long (-1 : Int64)), (.long ((1 : Int64) <<< ((Int32.ofNat (B + 1 + pb)) &&& 0x3f).toInt64)), (.long x2)])) (fun tt_ kk_ => X15.ldc2Long hx hown (mvT hZ (hw _ (List.mem_of_getElem? (i := 49) rfl))) (g := (mkF m 135 #[.val (.int x0), .val (.int x1), .val (.long x2), .second, .val (.int x3), .val (.int x4), .val (.int (Int32.ofNat c0)), .val (.int (Int32.ofNat pb)), .val (.ref b1), .val (.int (Int32.ofNat (B + 1))), .val (.long (Int64.ofNat (c0 + 1))), .second, .val (.int (Int32.ofNat (B + 1 + pb))), .val (.int (0 : Int32)), .val (.long ((1 : Int64) <<< ((Int32.ofNat (B + 1 + pb)) &&& 0x3f).toInt64)), .second, .unset, .unset, .unset, .unset, .unset, .unset] [(.long ((1 : Int64) <<< ((Int32.ofNat (B + 1 + pb)) &&& 0x3f).toInt64)), (.long x2)])) rfl (hb hby at_135) _ kk_) ?_
    refine Gq.go (T15.setTop (mkF m 139 #[.val (.int x0), .val (.int x1), .val (.long x2), .second, .val (.int x3), .val (.int x4), .val (.int (Int32.ofNat c0)), .val (.int (Int32.ofNat pb)), .val (.ref b1), .val (.int (Int32.ofNat (B + 1))), .val (.long (Int64.ofNat (c0 + 1))), .second, .val (.int (Int32.ofNat (B + 1 + pb))), .val (.int (0 : Int32)), .val (.long ((1 : Int64) <<< ((Int32.ofNat (B + 1 + pb)) &&& 0x3f).toInt64)), .second, .unset, .unset, .unset, .unset, .unset, .unset] [(.long (((1 : Int64) <<< ((Int32.ofNat (B + 1 + pb)) &&& 0x3f).toInt64) ^^^ (-1 : Int64))), (.long x2)])) (fun tt_ kk_ => XS.lxor X15.here hx rfl (hb hby at_138) rfl kk_) ?_
    refine Gq.go (T15.setTop (mkF m 140 #[.val (.int x0), .val (.int x1), .val (.long x2), .second, .val (.int x3), .val (.int x4), .val (.int (Int32.ofNat c0)), .val (.int (Int32.ofNat pb)), .val (.ref b1), .val (.int (Int32.ofNat (B + 1))), .val (.long (Int64.ofNat (c0 + 1))), .second, .val (.int (Int32.ofNat (B + 1 + pb))), .val (.int (0 : Int32)), .val (.long ((1 : Int64) <<< ((Int32.ofNat (B + 1 + pb)) &&& 0x3f).toInt64)), .second, .unset, .unset, .unset, .unset, .unset, .unset] [(.long (x2 &&& (((1 : Int64) <<< ((Int32.ofNat (B + 1 + pb)) &&& 0x3f).toInt64) ^^^ (-1 : Int64))))])) (fun tt_ kk_ => XS.land X15.here hx rfl (hb hby at_139) rfl kk_) ?_
    refine Gq.go (T15.setTop (mkF m 142 #[.val (.int x0), .val (.int x1), .val (.long x2), .second, .val (.int x3), .val (.int x4), .val (.int (Int32.ofNat c0)), .val (.int (Int32.ofNat pb)), .val (.ref b1), .val (.int (Int32.ofNat (B + 1))), .val (.long (Int64.ofNat (c0 + 1))), .second, .val (.int (Int32.ofNat (B + 1 + pb))), .val (.int (0 : Int32)), .val (.long ((1 : Int64) <<< ((Int32.ofNat (B + 1 + pb)) &&& 0x3f).toInt64)), .second, .val (.long (x2 &&& (((1 : Int64) <<< ((Int32.ofNat (B + 1 + pb)) &&& 0x3f).toInt64) ^^^ (-1 : Int64)))), .second, .unset, .unset, .unset, .unset] [])) (fun tt_ kk_ => XS.lstore X15.here hx rfl (hb hby at_140) rfl (l' := #[.val (.int x0), .val (.int x1), .val (.long x2), .second, .val (.int x3), .val (.int x4), .val (.int (Int32.ofNat c0)), .val (.int (Int32.ofNat pb)), .val (.ref b1), .val (.int (Int32.ofNat (B + 1))), .val (.long (Int64.ofNat (c0 + 1))), .second, .val (.int (Int32.ofNat (B + 1 + pb))), .val (.int (0 : Int32)), .val (.long ((1 : Int64) <<< ((Int32.ofNat (B + 1 + pb)) &&& 0x3f).toInt64)), .second, .val (.long (x2 &&& (((1 : Int64) <<< ((Int32.ofNat (B + 1 + pb)) &&& 0x3f).toInt64) ^^^ (-1 : Int64)))), .second, .unset, .unset, .unset, .unset]) rfl kk_) ?_
    have hf : ((x2 &&& (((1 : Int64) <<< ((Int32.ofNat (B + 1 + pb)) &&& 0x3f).toInt64) ^^^ (-1 : Int64)))).toBitVec.getLsbD (B + 1 + pb) = false := own_f0 x2 (by omega)
    generalize hff : (x2 &&& (((1 : Int64) <<< ((Int32.ofNat (B + 1 + pb)) &&& 0x3f).toInt64) ^^^ (-1 : Int64))) = ff
    rw [hff] at hf
    refine Gq.go (T15.setTop (mkF m 144 #[.val (.int x0), .val (.int x1), .val (.long x2), .second, .val (.int x3), .val (.int x4), .val (.int (Int32.ofNat c0)), .val (.int (Int32.ofNat pb)), .val (.ref b1), .val (.int (Int32.ofNat (B + 1))), .val (.long (Int64.ofNat (c0 + 1))), .second, .val (.int (Int32.ofNat (B + 1 + pb))), .val (.int (0 : Int32)), .val (.long ((1 : Int64) <<< ((Int32.ofNat (B + 1 + pb)) &&& 0x3f).toInt64)), .second, .val (.long ff), .second, .unset, .unset, .unset, .unset] [(.int x4)])) (fun tt_ kk_ => XS.iload X15.here hx rfl (hb hby at_142) rfl kk_) ?_
    refine Gq.go (T15.setTop (mkF m 146 #[.val (.int x0), .val (.int x1), .val (.long x2), .second, .val (.int x3), .val (.int x4), .val (.int (Int32.ofNat c0)), .val (.int (Int32.ofNat pb)), .val (.ref b1), .val (.int (Int32.ofNat (B + 1))), .val (.long (Int64.ofNat (c0 + 1))), .second, .val (.int (Int32.ofNat (B + 1 + pb))), .val (.int (0 : Int32)), .val (.long ((1 : Int64) <<< ((Int32.ofNat (B + 1 + pb)) &&& 0x3f).toInt64)), .second, .val (.long ff), .second, .unset, .unset, .unset, .unset] [(.int (63 : Int32)), (.int x4)])) (fun tt_ kk_ => XS.bipush X15.here hx rfl (hb hby at_144) kk_) ?_
    refine Gq.go (T15.setTop (mkF m 147 #[.val (.int x0), .val (.int x1), .val (.long x2), .second, .val (.int x3), .val (.int x4), .val (.int (Int32.ofNat c0)), .val (.int (Int32.ofNat pb)), .val (.ref b1), .val (.int (Int32.ofNat (B + 1))), .val (.long (Int64.ofNat (c0 + 1))), .second, .val (.int (Int32.ofNat (B + 1 + pb))), .val (.int (0 : Int32)), .val (.long ((1 : Int64) <<< ((Int32.ofNat (B + 1 + pb)) &&& 0x3f).toInt64)), .second, .val (.long ff), .second, .unset, .unset, .unset, .unset] [(.int (x4 &&& (63 : Int32)))])) (fun tt_ kk_ => XS.iand X15.here hx rfl (hb hby at_146) rfl kk_) ?_
    obtain ⟨jj, hjj, ejj⟩ := own_and x4 63 (by decide)
    rw [show (x4 &&& (63 : Int32)) = (Int32.ofNat jj) from ejj]
    refine Gq.go (T15.setTop (mkF m 149 #[.val (.int x0), .val (.int x1), .val (.long x2), .second, .val (.int x3), .val (.int x4), .val (.int (Int32.ofNat c0)), .val (.int (Int32.ofNat pb)), .val (.ref b1), .val (.int (Int32.ofNat (B + 1))), .val (.long (Int64.ofNat (c0 + 1))), .second, .val (.int (Int32.ofNat (B + 1 + pb))), .val (.int (0 : Int32)), .val (.long ((1 : Int64) <<< ((Int32.ofNat (B + 1 + pb)) &&& 0x3f).toInt64)), .second, .val (.long ff), .second, .val (.int (Int32.ofNat jj)), .unset, .unset, .unset] [])) (fun tt_ kk_ => XS.istore X15.here hx rfl (hb hby at_147) rfl (l' := #[.val (.int x0), .val (.int x1), .val (.long x2), .second, .val (.int x3), .val (.int x4), .val (.int (Int32.ofNat c0)), .val (.int (Int32.ofNat pb)), .val (.ref b1), .val (.int (Int32.ofNat (B + 1))), .val (.long (Int64.ofNat (c0 + 1))), .second, .val (.int (Int32.ofNat (B + 1 + pb))), .val (.int (0 : Int32)), .val (.long ((1 : Int64) <<< ((Int32.ofNat (B + 1 + pb)) &&& 0x3f).toInt64)), .second, .val (.long ff), .second, .val (.int (Int32.ofNat jj)), .unset, .unset, .unset]) rfl kk_) ?_
    refine Gq.go (T15.setTop (mkF m 151 #[.val (.int x0), .val (.int x1), .val (.long x2), .second, .val (.int x3), .val (.int x4), .val (.int (Int32.ofNat c0)), .val (.int (Int32.ofNat pb)), .val (.ref b1), .val (.int (Int32.ofNat (B + 1))), .val (.long (Int64.ofNat (c0 + 1))), .second, .val (.int (Int32.ofNat (B + 1 + pb))), .val (.int (0 : Int32)), .val (.long ((1 : Int64) <<< ((Int32.ofNat (B + 1 + pb)) &&& 0x3f).toInt64)), .second, .val (.long ff), .second, .val (.int (Int32.ofNat jj)), .unset, .unset, .unset] [(.int (Int32.ofNat jj))])) (fun tt_ kk_ => XS.iload X15.here hx rfl (hb hby at_149) rfl kk_) ?_
    refine Gq.go (T15.setTop (mkF m 153 #[.val (.int x0), .val (.int x1), .val (.long x2), .second, .val (.int x3), .val (.int x4), .val (.int (Int32.ofNat c0)), .val (.int (Int32.ofNat pb)), .val (.ref b1), .val (.int (Int32.ofNat (B + 1))), .val (.long (Int64.ofNat (c0 + 1))), .second, .val (.int (Int32.ofNat (B + 1 + pb))), .val (.int (0 : Int32)), .val (.long ((1 : Int64) <<< ((Int32.ofNat (B + 1 + pb)) &&& 0x3f).toInt64)), .second, .val (.long ff), .second, .val (.int (Int32.ofNat jj)), .unset, .unset, .unset] [(.int (Int32.ofNat (B + 1 + pb))), (.int (Int32.ofNat jj))])) (fun tt_ kk_ => XS.iload X15.here hx rfl (hb hby at_151) rfl kk_) ?_
    by_cases hjk : jj = B + 1 + pb
    · refine Gq.go (T15.setTop (mkF m 156 #[.val (.int x0), .val (.int x1), .val (.long x2), .second, .val (.int x3), .val (.int x4), .val (.int (Int32.ofNat c0)), .val (.int (Int32.ofNat pb)), .val (.ref b1), .val (.int (Int32.ofNat (B + 1))), .val (.long (Int64.ofNat (c0 + 1))), .second, .val (.int (Int32.ofNat (B + 1 + pb))), .val (.int (0 : Int32)), .val (.long ((1 : Int64) <<< ((Int32.ofNat (B + 1 + pb)) &&& 0x3f).toInt64)), .second, .val (.long ff), .second, .val (.int (Int32.ofNat jj)), .unset, .unset, .unset] [])) (fun tt_ kk_ => XS.icmpNo X15.here hx rfl (hb hby at_153) rfl (teq (congrArg Int32.ofNat hjk)).2 kk_) ?_
      refine Gq.go (T15.setTop (mkF m 158 #[.val (.int x0), .val (.int x1), .val (.long x2), .second, .val (.int x3), .val (.int x4), .val (.int (Int32.ofNat c0)), .val (.int (Int32.ofNat pb)), .val (.ref b1), .val (.int (Int32.ofNat (B + 1))), .val (.long (Int64.ofNat (c0 + 1))), .second, .val (.int (Int32.ofNat (B + 1 + pb))), .val (.int (0 : Int32)), .val (.long ((1 : Int64) <<< ((Int32.ofNat (B + 1 + pb)) &&& 0x3f).toInt64)), .second, .val (.long ff), .second, .val (.int (Int32.ofNat jj)), .unset, .unset, .unset] [(.long ff)])) (fun tt_ kk_ => XS.lload X15.here hx rfl (hb hby at_156) rfl kk_) ?_
      refine Gq.go (T15.setTop (mkF m 168 #[.val (.int x0), .val (.int x1), .val (.long x2), .second, .val (.int x3), .val (.int x4), .val (.int (Int32.ofNat c0)), .val (.int (Int32.ofNat pb)), .val (.ref b1), .val (.int (Int32.ofNat (B + 1))), .val (.long (Int64.ofNat (c0 + 1))), .second, .val (.int (Int32.ofNat (B + 1 + pb))), .val (.int (0 : Int32)), .val (.long ((1 : Int64) <<< ((Int32.ofNat (B + 1 + pb)) &&& 0x3f).toInt64)), .second, .val (.long ff), .second, .val (.int (Int32.ofNat jj)), .unset, .unset, .unset] [(.long ff)])) (fun tt_ kk_ => XS.goto X15.here hx rfl (pc0 := 158) (pc' := 168) rfl (hb hby at_158) (by decide) (by decide) kk_) ?_
      refine Gq.go (T15.setTop (mkF m 170 #[.val (.int x0), .val (.int x1), .val (.long x2), .second, .val (.int x3), .val (.int x4), .val (.int (Int32.ofNat c0)), .val (.int (Int32.ofNat pb)), .val (.ref b1), .val (.int (Int32.ofNat (B + 1))), .val (.long (Int64.ofNat (c0 + 1))), .second, .val (.int (Int32.ofNat (B + 1 + pb))), .val (.int (0 : Int32)), .val (.long ((1 : Int64) <<< ((Int32.ofNat (B + 1 + pb)) &&& 0x3f).toInt64)), .second, .val (.long ff), .second, .val (.int (Int32.ofNat jj)), .val (.long ff), .second, .unset] [])) (fun tt_ kk_ => XS.lstore X15.here hx rfl (hb hby at_168) rfl (l' := #[.val (.int x0), .val (.int x1), .val (.long x2), .second, .val (.int x3), .val (.int x4), .val (.int (Int32.ofNat c0)), .val (.int (Int32.ofNat pb)), .val (.ref b1), .val (.int (Int32.ofNat (B + 1))), .val (.long (Int64.ofNat (c0 + 1))), .second, .val (.int (Int32.ofNat (B + 1 + pb))), .val (.int (0 : Int32)), .val (.long ((1 : Int64) <<< ((Int32.ofNat (B + 1 + pb)) &&& 0x3f).toInt64)), .second, .val (.long ff), .second, .val (.int (Int32.ofNat jj)), .val (.long ff), .second, .unset]) rfl kk_) ?_
      have hg : (ff).toBitVec.getLsbD (B + 1 + pb) = false := hf
      refine Gq.go (T15.setTop (mkF m 172 #[.val (.int x0), .val (.int x1), .val (.long x2), .second, .val (.int x3), .val (.int x4), .val (.int (Int32.ofNat c0)), .val (.int (Int32.ofNat pb)), .val (.ref b1), .val (.int (Int32.ofNat (B + 1))), .val (.long (Int64.ofNat (c0 + 1))), .second, .val (.int (Int32.ofNat (B + 1 + pb))), .val (.int (0 : Int32)), .val (.long ((1 : Int64) <<< ((Int32.ofNat (B + 1 + pb)) &&& 0x3f).toInt64)), .second, .val (.long ff), .second, .val (.int (Int32.ofNat jj)), .val (.long ff), .second, .unset] [(.ref b1)])) (fun tt_ kk_ => XS.aload X15.here hx rfl (hb hby at_170) rfl rfl kk_) ?_
      refine Gq.go (T15.setTop (mkF m 174 #[.val (.int x0), .val (.int x1), .val (.long x2), .second, .val (.int x3), .val (.int x4), .val (.int (Int32.ofNat c0)), .val (.int (Int32.ofNat pb)), .val (.ref b1), .val (.int (Int32.ofNat (B + 1))), .val (.long (Int64.ofNat (c0 + 1))), .second, .val (.int (Int32.ofNat (B + 1 + pb))), .val (.int (0 : Int32)), .val (.long ((1 : Int64) <<< ((Int32.ofNat (B + 1 + pb)) &&& 0x3f).toInt64)), .second, .val (.long ff), .second, .val (.int (Int32.ofNat jj)), .val (.long ff), .second, .unset] [(.long ff), (.ref b1)])) (fun tt_ kk_ => XS.lload X15.here hx rfl (hb hby at_172) rfl kk_) ?_
      obtain ⟨r16, T16, L16, X16, hQ16, st16⟩ := callV (pc := 174) (Ls := #[.val (.int x0), .val (.int x1), .val (.long x2), .second, .val (.int x3), .val (.int x4), .val (.int (Int32.ofNat c0)), .val (.int (Int32.ofNat pb)), .val (.ref b1), .val (.int (Int32.ofNat (B + 1))), .val (.long (Int64.ofNat (c0 + 1))), .second, .val (.int (Int32.ofNat (B + 1 + pb))), .val (.int (0 : Int32)), .val (.long ((1 : Int64) <<< ((Int32.ofNat (B + 1 + pb)) &&& 0x3f).toInt64)), .second, .val (.long ff), .second, .val (.int (Int32.ofNat jj)), .val (.long ff), .second, .unset]) X15 hx hZ hown eh15 b1 [(.long ff)] [] fa4 (hw _ (List.mem_of_getElem? (i := 50) rfl)) (hw _ (List.mem_of_getElem? (i := 51) rfl)) (hw _ (List.mem_of_getElem? (i := 53) rfl)) (hw _ (List.mem_of_getElem? (i := 52) rfl)) (hw _ (List.mem_of_getElem? (i := 3) rfl)) (hw _ (List.mem_of_getElem? (i := 54) rfl)) (by decide) (rm9 l Z a0 hw [] b1 ff (Int32.ofNat (B + 1)) (Int32.ofNat pb) T3.heap n0 za13 c3_0 c3_1) pd_4 rfl (by rw [hml]; rfl) (W := 0) (Nat.le_of_eq rfl) (by decide) (by decide) (by decide) (by decide) (hb hby at_174)
      obtain ⟨rfl, N16q, eh16⟩ := hQ16
      have N16 := Fr.app N15 N16q
      refine Gq.go (T16.setTop (mkF m 177 #[.val (.int x0), .val (.int x1), .val (.long x2), .second, .val (.int x3), .val (.int x4), .val (.int (Int32.ofNat c0)), .val (.int (Int32.ofNat pb)), .val (.ref b1), .val (.int (Int32.ofNat (B + 1))), .val (.long (Int64.ofNat (c0 + 1))), .second, .val (.int (Int32.ofNat (B + 1 + pb))), .val (.int (0 : Int32)), .val (.long ((1 : Int64) <<< ((Int32.ofNat (B + 1 + pb)) &&& 0x3f).toInt64)), .second, .val (.long ff), .second, .val (.int (Int32.ofNat jj)), .val (.long ff), .second, .unset] [(.int (own_isv ff (Int32.ofNat (B + 1)) (Int32.ofNat pb)))])) (fun tt_ kk_ => st16 tt_ kk_) ?_
      refine Gq.go (T16.setTop (mkF m 179 #[.val (.int x0), .val (.int x1), .val (.long x2), .second, .val (.int x3), .val (.int x4), .val (.int (Int32.ofNat c0)), .val (.int (Int32.ofNat pb)), .val (.ref b1), .val (.int (Int32.ofNat (B + 1))), .val (.long (Int64.ofNat (c0 + 1))), .second, .val (.int (Int32.ofNat (B + 1 + pb))), .val (.int (0 : Int32)), .val (.long ((1 : Int64) <<< ((Int32.ofNat (B + 1 + pb)) &&& 0x3f).toInt64)), .second, .val (.long ff), .second, .val (.int (Int32.ofNat jj)), .val (.long ff), .second, .unset] [(.int (0 : Int32)), (.int (own_isv ff (Int32.ofNat (B + 1)) (Int32.ofNat pb)))])) (fun tt_ kk_ => XS.iload X16.here hx rfl (hb hby at_177) rfl kk_) ?_
      refine Gq.go (T16.setTop (mkF m 184 #[.val (.int x0), .val (.int x1), .val (.long x2), .second, .val (.int x3), .val (.int x4), .val (.int (Int32.ofNat c0)), .val (.int (Int32.ofNat pb)), .val (.ref b1), .val (.int (Int32.ofNat (B + 1))), .val (.long (Int64.ofNat (c0 + 1))), .second, .val (.int (Int32.ofNat (B + 1 + pb))), .val (.int (0 : Int32)), .val (.long ((1 : Int64) <<< ((Int32.ofNat (B + 1 + pb)) &&& 0x3f).toInt64)), .second, .val (.long ff), .second, .val (.int (Int32.ofNat jj)), .val (.long ff), .second, .unset] [])) (fun tt_ kk_ => XS.icmpYes X16.here hx rfl (pc0 := 179) (pc' := 184) rfl (hb hby at_179) rfl (teq (own_isv0 hf (by omega))).1 (by decide) (by decide) kk_) ?_
      refine Gq.go (T16.setTop (mkF m 186 #[.val (.int x0), .val (.int x1), .val (.long x2), .second, .val (.int x3), .val (.int x4), .val (.int (Int32.ofNat c0)), .val (.int (Int32.ofNat pb)), .val (.ref b1), .val (.int (Int32.ofNat (B + 1))), .val (.long (Int64.ofNat (c0 + 1))), .second, .val (.int (Int32.ofNat (B + 1 + pb))), .val (.int (0 : Int32)), .val (.long ((1 : Int64) <<< ((Int32.ofNat (B + 1 + pb)) &&& 0x3f).toInt64)), .second, .val (.long ff), .second, .val (.int (Int32.ofNat jj)), .val (.long ff), .second, .unset] [(.ref b1)])) (fun tt_ kk_ => XS.aload X16.here hx rfl (hb hby at_184) rfl rfl kk_) ?_
      refine Gq.go (T16.setTop (mkF m 188 #[.val (.int x0), .val (.int x1), .val (.long x2), .second, .val (.int x3), .val (.int x4), .val (.int (Int32.ofNat c0)), .val (.int (Int32.ofNat pb)), .val (.ref b1), .val (.int (Int32.ofNat (B + 1))), .val (.long (Int64.ofNat (c0 + 1))), .second, .val (.int (Int32.ofNat (B + 1 + pb))), .val (.int (0 : Int32)), .val (.long ((1 : Int64) <<< ((Int32.ofNat (B + 1 + pb)) &&& 0x3f).toInt64)), .second, .val (.long ff), .second, .val (.int (Int32.ofNat jj)), .val (.long ff), .second, .unset] [(.long ff), (.ref b1)])) (fun tt_ kk_ => XS.lload X16.here hx rfl (hb hby at_186) rfl kk_) ?_
      obtain ⟨r17, T17, L17, X17, hQ17, st17⟩ := callV (pc := 188) (Ls := #[.val (.int x0), .val (.int x1), .val (.long x2), .second, .val (.int x3), .val (.int x4), .val (.int (Int32.ofNat c0)), .val (.int (Int32.ofNat pb)), .val (.ref b1), .val (.int (Int32.ofNat (B + 1))), .val (.long (Int64.ofNat (c0 + 1))), .second, .val (.int (Int32.ofNat (B + 1 + pb))), .val (.int (0 : Int32)), .val (.long ((1 : Int64) <<< ((Int32.ofNat (B + 1 + pb)) &&& 0x3f).toInt64)), .second, .val (.long ff), .second, .val (.int (Int32.ofNat jj)), .val (.long ff), .second, .unset]) X16 hx hZ hown eh16 b1 [(.long ff)] [] fa4 (hw _ (List.mem_of_getElem? (i := 50) rfl)) (hw _ (List.mem_of_getElem? (i := 51) rfl)) (hw _ (List.mem_of_getElem? (i := 53) rfl)) (hw _ (List.mem_of_getElem? (i := 52) rfl)) (hw _ (List.mem_of_getElem? (i := 3) rfl)) (hw _ (List.mem_of_getElem? (i := 54) rfl)) (by decide) (rm9 l Z a0 hw [] b1 ff (Int32.ofNat (B + 1)) (Int32.ofNat pb) T3.heap n0 za13 c3_0 c3_1) pd_4 rfl (by rw [hml]; rfl) (W := 0) (Nat.le_of_eq rfl) (by decide) (by decide) (by decide) (by decide) (hb hby at_188)
      obtain ⟨rfl, N17q, eh17⟩ := hQ17
      have N17 := Fr.app N16 N17q
      refine Gq.go (T17.setTop (mkF m 191 #[.val (.int x0), .val (.int x1), .val (.long x2), .second, .val (.int x3), .val (.int x4), .val (.int (Int32.ofNat c0)), .val (.int (Int32.ofNat pb)), .val (.ref b1), .val (.int (Int32.ofNat (B + 1))), .val (.long (Int64.ofNat (c0 + 1))), .second, .val (.int (Int32.ofNat (B + 1 + pb))), .val (.int (0 : Int32)), .val (.long ((1 : Int64) <<< ((Int32.ofNat (B + 1 + pb)) &&& 0x3f).toInt64)), .second, .val (.long ff), .second, .val (.int (Int32.ofNat jj)), .val (.long ff), .second, .unset] [(.int (own_isv ff (Int32.ofNat (B + 1)) (Int32.ofNat pb)))])) (fun tt_ kk_ => st17 tt_ kk_) ?_
      refine Gq.go (T17.setTop (mkF m 193 #[.val (.int x0), .val (.int x1), .val (.long x2), .second, .val (.int x3), .val (.int x4), .val (.int (Int32.ofNat c0)), .val (.int (Int32.ofNat pb)), .val (.ref b1), .val (.int (Int32.ofNat (B + 1))), .val (.long (Int64.ofNat (c0 + 1))), .second, .val (.int (Int32.ofNat (B + 1 + pb))), .val (.int (0 : Int32)), .val (.long ((1 : Int64) <<< ((Int32.ofNat (B + 1 + pb)) &&& 0x3f).toInt64)), .second, .val (.long ff), .second, .val (.int (Int32.ofNat jj)), .val (.long ff), .second, .unset] [(.int (0 : Int32)), (.int (own_isv ff (Int32.ofNat (B + 1)) (Int32.ofNat pb)))])) (fun tt_ kk_ => XS.iload X17.here hx rfl (hb hby at_191) rfl kk_) ?_
      refine Gq.go (T17.setTop (mkF m 198 #[.val (.int x0), .val (.int x1), .val (.long x2), .second, .val (.int x3), .val (.int x4), .val (.int (Int32.ofNat c0)), .val (.int (Int32.ofNat pb)), .val (.ref b1), .val (.int (Int32.ofNat (B + 1))), .val (.long (Int64.ofNat (c0 + 1))), .second, .val (.int (Int32.ofNat (B + 1 + pb))), .val (.int (0 : Int32)), .val (.long ((1 : Int64) <<< ((Int32.ofNat (B + 1 + pb)) &&& 0x3f).toInt64)), .second, .val (.long ff), .second, .val (.int (Int32.ofNat jj)), .val (.long ff), .second, .unset] [])) (fun tt_ kk_ => XS.icmpYes X17.here hx rfl (pc0 := 193) (pc' := 198) rfl (hb hby at_193) rfl (teq (own_isv0 hg (by omega))).1 (by decide) (by decide) kk_) ?_
      refine Gq.go (T17.setTop (mkF m 200 #[.val (.int x0), .val (.int x1), .val (.long x2), .second, .val (.int x3), .val (.int x4), .val (.int (Int32.ofNat c0)), .val (.int (Int32.ofNat pb)), .val (.ref b1), .val (.int (Int32.ofNat (B + 1))), .val (.long (Int64.ofNat (c0 + 1))), .second, .val (.int (Int32.ofNat (B + 1 + pb))), .val (.int (0 : Int32)), .val (.long ((1 : Int64) <<< ((Int32.ofNat (B + 1 + pb)) &&& 0x3f).toInt64)), .second, .val (.long ff), .second, .val (.int (Int32.ofNat jj)), .val (.long ff), .second, .unset] [(.ref b1)])) (fun tt_ kk_ => XS.aload X17.here hx rfl (hb hby at_198) rfl rfl kk_) ?_
      obtain ⟨r18, T18, L18, X18, hQ18, st18⟩ := callV (pc := 200) (Ls := #[.val (.int x0), .val (.int x1), .val (.long x2), .second, .val (.int x3), .val (.int x4), .val (.int (Int32.ofNat c0)), .val (.int (Int32.ofNat pb)), .val (.ref b1), .val (.int (Int32.ofNat (B + 1))), .val (.long (Int64.ofNat (c0 + 1))), .second, .val (.int (Int32.ofNat (B + 1 + pb))), .val (.int (0 : Int32)), .val (.long ((1 : Int64) <<< ((Int32.ofNat (B + 1 + pb)) &&& 0x3f).toInt64)), .second, .val (.long ff), .second, .val (.int (Int32.ofNat jj)), .val (.long ff), .second, .unset]) X17 hx hZ hown eh17 b1 [] [] fa4 (hw _ (List.mem_of_getElem? (i := 55) rfl)) (hw _ (List.mem_of_getElem? (i := 56) rfl)) (hw _ (List.mem_of_getElem? (i := 58) rfl)) (hw _ (List.mem_of_getElem? (i := 57) rfl)) (hw _ (List.mem_of_getElem? (i := 3) rfl)) (hw _ (List.mem_of_getElem? (i := 59) rfl)) (by decide) (rm10 l Z a0 hw [] b1 ((1 : Int64) <<< ((Int32.ofNat pb) &&& 0x3f).toInt64) T3.heap n0 za13 c3_3) pd_5 rfl (by rw [hml]; rfl) (W := 0) (Nat.le_of_eq rfl) (by decide) (by decide) (by decide) (by decide) (hb hby at_200)
      obtain ⟨rfl, N18q, eh18⟩ := hQ18
      have N18 := Fr.app N17 N18q
      refine Gq.go (T18.setTop (mkF m 203 #[.val (.int x0), .val (.int x1), .val (.long x2), .second, .val (.int x3), .val (.int x4), .val (.int (Int32.ofNat c0)), .val (.int (Int32.ofNat pb)), .val (.ref b1), .val (.int (Int32.ofNat (B + 1))), .val (.long (Int64.ofNat (c0 + 1))), .second, .val (.int (Int32.ofNat (B + 1 + pb))), .val (.int (0 : Int32)), .val (.long ((1 : Int64) <<< ((Int32.ofNat (B + 1 + pb)) &&& 0x3f).toInt64)), .second, .val (.long ff), .second, .val (.int (Int32.ofNat jj)), .val (.long ff), .second, .unset] [(.long ((1 : Int64) <<< ((Int32.ofNat pb) &&& 0x3f).toInt64))])) (fun tt_ kk_ => st18 tt_ kk_) ?_
      refine Gq.go (T18.setTop (mkF m 204 #[.val (.int x0), .val (.int x1), .val (.long x2), .second, .val (.int x3), .val (.int x4), .val (.int (Int32.ofNat c0)), .val (.int (Int32.ofNat pb)), .val (.ref b1), .val (.int (Int32.ofNat (B + 1))), .val (.long (Int64.ofNat (c0 + 1))), .second, .val (.int (Int32.ofNat (B + 1 + pb))), .val (.int (0 : Int32)), .val (.long ((1 : Int64) <<< ((Int32.ofNat (B + 1 + pb)) &&& 0x3f).toInt64)), .second, .val (.long ff), .second, .val (.int (Int32.ofNat jj)), .val (.long ff), .second, .unset] [(.long (1 : Int64)), (.long ((1 : Int64) <<< ((Int32.ofNat pb) &&& 0x3f).toInt64))])) (fun tt_ kk_ => XS.lconst X18.here hx rfl (hb hby at_203) kk_) ?_
      refine Gq.go (T18.setTop (mkF m 206 #[.val (.int x0), .val (.int x1), .val (.long x2), .second, .val (.int x3), .val (.int x4), .val (.int (Int32.ofNat c0)), .val (.int (Int32.ofNat pb)), .val (.ref b1), .val (.int (Int32.ofNat (B + 1))), .val (.long (Int64.ofNat (c0 + 1))), .second, .val (.int (Int32.ofNat (B + 1 + pb))), .val (.int (0 : Int32)), .val (.long ((1 : Int64) <<< ((Int32.ofNat (B + 1 + pb)) &&& 0x3f).toInt64)), .second, .val (.long ff), .second, .val (.int (Int32.ofNat jj)), .val (.long ff), .second, .unset] [(.int (Int32.ofNat pb)), (.long (1 : Int64)), (.long ((1 : Int64) <<< ((Int32.ofNat pb) &&& 0x3f).toInt64))])) (fun tt_ kk_ => XS.iload X18.here hx rfl (hb hby at_204) rfl kk_) ?_
      refine Gq.go (T18.setTop (mkF m 207 #[.val (.int x0), .val (.int x1), .val (.long x2), .second, .val (.int x3), .val (.int x4), .val (.int (Int32.ofNat c0)), .val (.int (Int32.ofNat pb)), .val (.ref b1), .val (.int (Int32.ofNat (B + 1))), .val (.long (Int64.ofNat (c0 + 1))), .second, .val (.int (Int32.ofNat (B + 1 + pb))), .val (.int (0 : Int32)), .val (.long ((1 : Int64) <<< ((Int32.ofNat (B + 1 + pb)) &&& 0x3f).toInt64)), .second, .val (.long ff), .second, .val (.int (Int32.ofNat jj)), .val (.long ff), .second, .unset] [(.long ((1 : Int64) <<< ((Int32.ofNat pb) &&& 0x3f).toInt64)), (.long ((1 : Int64) <<< ((Int32.ofNat pb) &&& 0x3f).toInt64))])) (fun tt_ kk_ => XS.lshl X18.here hx rfl (hb hby at_206) rfl kk_) ?_
      refine Gq.go (T18.setTop (mkF m 208 #[.val (.int x0), .val (.int x1), .val (.long x2), .second, .val (.int x3), .val (.int x4), .val (.int (Int32.ofNat c0)), .val (.int (Int32.ofNat pb)), .val (.ref b1), .val (.int (Int32.ofNat (B + 1))), .val (.long (Int64.ofNat (c0 + 1))), .second, .val (.int (Int32.ofNat (B + 1 + pb))), .val (.int (0 : Int32)), .val (.long ((1 : Int64) <<< ((Int32.ofNat (B + 1 + pb)) &&& 0x3f).toInt64)), .second, .val (.long ff), .second, .val (.int (Int32.ofNat jj)), .val (.long ff), .second, .unset] [(.int (lcmpW ((1 : Int64) <<< ((Int32.ofNat pb) &&& 0x3f).toInt64) ((1 : Int64) <<< ((Int32.ofNat pb) &&& 0x3f).toInt64)))])) (fun tt_ kk_ => XS.lcmp X18.here hx rfl (hb hby at_207) rfl kk_) ?_
      refine Gq.go (T18.setTop (mkF m 213 #[.val (.int x0), .val (.int x1), .val (.long x2), .second, .val (.int x3), .val (.int x4), .val (.int (Int32.ofNat c0)), .val (.int (Int32.ofNat pb)), .val (.ref b1), .val (.int (Int32.ofNat (B + 1))), .val (.long (Int64.ofNat (c0 + 1))), .second, .val (.int (Int32.ofNat (B + 1 + pb))), .val (.int (0 : Int32)), .val (.long ((1 : Int64) <<< ((Int32.ofNat (B + 1 + pb)) &&& 0x3f).toInt64)), .second, .val (.long ff), .second, .val (.int (Int32.ofNat jj)), .val (.long ff), .second, .unset] [])) (fun tt_ kk_ => XS.ifYes X18.here hx rfl (pc0 := 208) (pc' := 213) rfl (hb hby at_208) rfl ((if0 _ _).trans (teq ((lw_eq _ _).mpr rfl)).1) (by decide) (by decide) kk_) ?_
      refine Gq.go (T18.setTop (mkF m 215 #[.val (.int x0), .val (.int x1), .val (.long x2), .second, .val (.int x3), .val (.int x4), .val (.int (Int32.ofNat c0)), .val (.int (Int32.ofNat pb)), .val (.ref b1), .val (.int (Int32.ofNat (B + 1))), .val (.long (Int64.ofNat (c0 + 1))), .second, .val (.int (Int32.ofNat (B + 1 + pb))), .val (.int (0 : Int32)), .val (.long ((1 : Int64) <<< ((Int32.ofNat (B + 1 + pb)) &&& 0x3f).toInt64)), .second, .val (.long ff), .second, .val (.int (Int32.ofNat jj)), .val (.long ff), .second, .unset] [(.ref b1)])) (fun tt_ kk_ => XS.aload X18.here hx rfl (hb hby at_213) rfl rfl kk_) ?_
      refine Gq.go (T18.setTop (mkF m 217 #[.val (.int x0), .val (.int x1), .val (.long x2), .second, .val (.int x3), .val (.int x4), .val (.int (Int32.ofNat c0)), .val (.int (Int32.ofNat pb)), .val (.ref b1), .val (.int (Int32.ofNat (B + 1))), .val (.long (Int64.ofNat (c0 + 1))), .second, .val (.int (Int32.ofNat (B + 1 + pb))), .val (.int (0 : Int32)), .val (.long ((1 : Int64) <<< ((Int32.ofNat (B + 1 + pb)) &&& 0x3f).toInt64)), .second, .val (.long ff), .second, .val (.int (Int32.ofNat jj)), .val (.long ff), .second, .unset] [(.long ff), (.ref b1)])) (fun tt_ kk_ => XS.lload X18.here hx rfl (hb hby at_215) rfl kk_) ?_
      obtain ⟨r19, T19, L19, X19, hQ19, st19⟩ := callV (pc := 217) (Ls := #[.val (.int x0), .val (.int x1), .val (.long x2), .second, .val (.int x3), .val (.int x4), .val (.int (Int32.ofNat c0)), .val (.int (Int32.ofNat pb)), .val (.ref b1), .val (.int (Int32.ofNat (B + 1))), .val (.long (Int64.ofNat (c0 + 1))), .second, .val (.int (Int32.ofNat (B + 1 + pb))), .val (.int (0 : Int32)), .val (.long ((1 : Int64) <<< ((Int32.ofNat (B + 1 + pb)) &&& 0x3f).toInt64)), .second, .val (.long ff), .second, .val (.int (Int32.ofNat jj)), .val (.long ff), .second, .unset]) X18 hx hZ hown eh18 b1 [(.long ff)] [] fa4 (hw _ (List.mem_of_getElem? (i := 60) rfl)) (hw _ (List.mem_of_getElem? (i := 61) rfl)) (hw _ (List.mem_of_getElem? (i := 63) rfl)) (hw _ (List.mem_of_getElem? (i := 62) rfl)) (hw _ (List.mem_of_getElem? (i := 3) rfl)) (hw _ (List.mem_of_getElem? (i := 64) rfl)) (by decide) (rm11 l Z a0 hw [] b1 ff (Int32.ofNat (B + 1)) (((1 : Int64) <<< (((Int32.ofNat pb) + (1 : Int32)) &&& 0x3f).toInt64) - (1 : Int64)) T3.heap n0 za13 c3_0 c3_2) pd_6 rfl (by rw [hml]; rfl) (W := 0) (Nat.le_of_eq rfl) (by decide) (by decide) (by decide) (by decide) (hb hby at_217)
      obtain ⟨rfl, N19q, eh19⟩ := hQ19
      have N19 := Fr.app N18 N19q
      refine Gq.go (T19.setTop (mkF m 220 #[.val (.int x0), .val (.int x1), .val (.long x2), .second, .val (.int x3), .val (.int x4), .val (.int (Int32.ofNat c0)), .val (.int (Int32.ofNat pb)), .val (.ref b1), .val (.int (Int32.ofNat (B + 1))), .val (.long (Int64.ofNat (c0 + 1))), .second, .val (.int (Int32.ofNat (B + 1 + pb))), .val (.int (0 : Int32)), .val (.long ((1 : Int64) <<< ((Int32.ofNat (B + 1 + pb)) &&& 0x3f).toInt64)), .second, .val (.long ff), .second, .val (.int (Int32.ofNat jj)), .val (.long ff), .second, .unset] [(.long (((ff.toUInt64 >>> ((Int32.ofNat (B + 1)) &&& 0x3f).toInt64.toUInt64).toInt64) &&& (((1 : Int64) <<< (((Int32.ofNat pb) + (1 : Int32)) &&& 0x3f).toInt64) - (1 : Int64))))])) (fun tt_ kk_ => st19 tt_ kk_) ?_
      refine Gq.go (T19.setTop (mkF m 222 #[.val (.int x0), .val (.int x1), .val (.long x2), .second, .val (.int x3), .val (.int x4), .val (.int (Int32.ofNat c0)), .val (.int (Int32.ofNat pb)), .val (.ref b1), .val (.int (Int32.ofNat (B + 1))), .val (.long (Int64.ofNat (c0 + 1))), .second, .val (.int (Int32.ofNat (B + 1 + pb))), .val (.int (0 : Int32)), .val (.long ((1 : Int64) <<< ((Int32.ofNat (B + 1 + pb)) &&& 0x3f).toInt64)), .second, .val (.long ff), .second, .val (.int (Int32.ofNat jj)), .val (.long ff), .second, .unset] [(.ref b1), (.long (((ff.toUInt64 >>> ((Int32.ofNat (B + 1)) &&& 0x3f).toInt64.toUInt64).toInt64) &&& (((1 : Int64) <<< (((Int32.ofNat pb) + (1 : Int32)) &&& 0x3f).toInt64) - (1 : Int64))))])) (fun tt_ kk_ => XS.aload X19.here hx rfl (hb hby at_220) rfl rfl kk_) ?_
      obtain ⟨r20, T20, L20, X20, hQ20, st20⟩ := callV (pc := 222) (Ls := #[.val (.int x0), .val (.int x1), .val (.long x2), .second, .val (.int x3), .val (.int x4), .val (.int (Int32.ofNat c0)), .val (.int (Int32.ofNat pb)), .val (.ref b1), .val (.int (Int32.ofNat (B + 1))), .val (.long (Int64.ofNat (c0 + 1))), .second, .val (.int (Int32.ofNat (B + 1 + pb))), .val (.int (0 : Int32)), .val (.long ((1 : Int64) <<< ((Int32.ofNat (B + 1 + pb)) &&& 0x3f).toInt64)), .second, .val (.long ff), .second, .val (.int (Int32.ofNat jj)), .val (.long ff), .second, .unset]) X19 hx hZ hown eh19 b1 [] [(.long (((ff.toUInt64 >>> ((Int32.ofNat (B + 1)) &&& 0x3f).toInt64.toUInt64).toInt64) &&& (((1 : Int64) <<< (((Int32.ofNat pb) + (1 : Int32)) &&& 0x3f).toInt64) - (1 : Int64))))] fa4 (hw _ (List.mem_of_getElem? (i := 55) rfl)) (hw _ (List.mem_of_getElem? (i := 56) rfl)) (hw _ (List.mem_of_getElem? (i := 58) rfl)) (hw _ (List.mem_of_getElem? (i := 57) rfl)) (hw _ (List.mem_of_getElem? (i := 3) rfl)) (hw _ (List.mem_of_getElem? (i := 59) rfl)) (by decide) (rm10 l Z a0 hw [] b1 ((1 : Int64) <<< ((Int32.ofNat pb) &&& 0x3f).toInt64) T3.heap n0 za13 c3_3) pd_5 rfl (by rw [hml]; rfl) (W := 2) (Nat.le_of_eq rfl) (by decide) (by decide) (by decide) (by decide) (hb hby at_222)
      obtain ⟨rfl, N20q, eh20⟩ := hQ20
      have N20 := Fr.app N19 N20q
      refine Gq.go (T20.setTop (mkF m 225 #[.val (.int x0), .val (.int x1), .val (.long x2), .second, .val (.int x3), .val (.int x4), .val (.int (Int32.ofNat c0)), .val (.int (Int32.ofNat pb)), .val (.ref b1), .val (.int (Int32.ofNat (B + 1))), .val (.long (Int64.ofNat (c0 + 1))), .second, .val (.int (Int32.ofNat (B + 1 + pb))), .val (.int (0 : Int32)), .val (.long ((1 : Int64) <<< ((Int32.ofNat (B + 1 + pb)) &&& 0x3f).toInt64)), .second, .val (.long ff), .second, .val (.int (Int32.ofNat jj)), .val (.long ff), .second, .unset] [(.long ((1 : Int64) <<< ((Int32.ofNat pb) &&& 0x3f).toInt64)), (.long (((ff.toUInt64 >>> ((Int32.ofNat (B + 1)) &&& 0x3f).toInt64.toUInt64).toInt64) &&& (((1 : Int64) <<< (((Int32.ofNat pb) + (1 : Int32)) &&& 0x3f).toInt64) - (1 : Int64))))])) (fun tt_ kk_ => st20 tt_ kk_) ?_
      refine Gq.go (T20.setTop (mkF m 226 #[.val (.int x0), .val (.int x1), .val (.long x2), .second, .val (.int x3), .val (.int x4), .val (.int (Int32.ofNat c0)), .val (.int (Int32.ofNat pb)), .val (.ref b1), .val (.int (Int32.ofNat (B + 1))), .val (.long (Int64.ofNat (c0 + 1))), .second, .val (.int (Int32.ofNat (B + 1 + pb))), .val (.int (0 : Int32)), .val (.long ((1 : Int64) <<< ((Int32.ofNat (B + 1 + pb)) &&& 0x3f).toInt64)), .second, .val (.long ff), .second, .val (.int (Int32.ofNat jj)), .val (.long ff), .second, .unset] [(.int (lcmpW (((ff.toUInt64 >>> ((Int32.ofNat (B + 1)) &&& 0x3f).toInt64.toUInt64).toInt64) &&& (((1 : Int64) <<< (((Int32.ofNat pb) + (1 : Int32)) &&& 0x3f).toInt64) - (1 : Int64))) ((1 : Int64) <<< ((Int32.ofNat pb) &&& 0x3f).toInt64)))])) (fun tt_ kk_ => XS.lcmp X20.here hx rfl (hb hby at_225) rfl kk_) ?_
      refine Gq.go (T20.setTop (mkF m 233 #[.val (.int x0), .val (.int x1), .val (.long x2), .second, .val (.int x3), .val (.int x4), .val (.int (Int32.ofNat c0)), .val (.int (Int32.ofNat pb)), .val (.ref b1), .val (.int (Int32.ofNat (B + 1))), .val (.long (Int64.ofNat (c0 + 1))), .second, .val (.int (Int32.ofNat (B + 1 + pb))), .val (.int (0 : Int32)), .val (.long ((1 : Int64) <<< ((Int32.ofNat (B + 1 + pb)) &&& 0x3f).toInt64)), .second, .val (.long ff), .second, .val (.int (Int32.ofNat jj)), .val (.long ff), .second, .unset] [])) (fun tt_ kk_ => XS.ifYes X20.here hx rfl (pc0 := 226) (pc' := 233) rfl (hb hby at_226) rfl ((if0 _ _).trans (tlt (own_reach0 hf (by omega) (by omega))).1) (by decide) (by decide) kk_) ?_
      refine Gq.go (T20.setTop (mkF m 234 #[.val (.int x0), .val (.int x1), .val (.long x2), .second, .val (.int x3), .val (.int x4), .val (.int (Int32.ofNat c0)), .val (.int (Int32.ofNat pb)), .val (.ref b1), .val (.int (Int32.ofNat (B + 1))), .val (.long (Int64.ofNat (c0 + 1))), .second, .val (.int (Int32.ofNat (B + 1 + pb))), .val (.int (0 : Int32)), .val (.long ((1 : Int64) <<< ((Int32.ofNat (B + 1 + pb)) &&& 0x3f).toInt64)), .second, .val (.long ff), .second, .val (.int (Int32.ofNat jj)), .val (.long ff), .second, .unset] [(.int (0 : Int32))])) (fun tt_ kk_ => XS.iconst X20.here hx rfl (hb hby at_233) kk_) ?_
      refine Gq.go (T20.setTop (mkF m 236 #[.val (.int x0), .val (.int x1), .val (.long x2), .second, .val (.int x3), .val (.int x4), .val (.int (Int32.ofNat c0)), .val (.int (Int32.ofNat pb)), .val (.ref b1), .val (.int (Int32.ofNat (B + 1))), .val (.long (Int64.ofNat (c0 + 1))), .second, .val (.int (Int32.ofNat (B + 1 + pb))), .val (.int (0 : Int32)), .val (.long ((1 : Int64) <<< ((Int32.ofNat (B + 1 + pb)) &&& 0x3f).toInt64)), .second, .val (.long ff), .second, .val (.int (Int32.ofNat jj)), .val (.long ff), .second, .val (.int (0 : Int32))] [])) (fun tt_ kk_ => XS.istore X20.here hx rfl (hb hby at_234) rfl (l' := #[.val (.int x0), .val (.int x1), .val (.long x2), .second, .val (.int x3), .val (.int x4), .val (.int (Int32.ofNat c0)), .val (.int (Int32.ofNat pb)), .val (.ref b1), .val (.int (Int32.ofNat (B + 1))), .val (.long (Int64.ofNat (c0 + 1))), .second, .val (.int (Int32.ofNat (B + 1 + pb))), .val (.int (0 : Int32)), .val (.long ((1 : Int64) <<< ((Int32.ofNat (B + 1 + pb)) &&& 0x3f).toInt64)), .second, .val (.long ff), .second, .val (.int (Int32.ofNat jj)), .val (.long ff), .second, .val (.int (0 : Int32))]) rfl kk_) ?_
      refine Gq.go (T20.setTop (mkF m 238 #[.val (.int x0), .val (.int x1), .val (.long x2), .second, .val (.int x3), .val (.int x4), .val (.int (Int32.ofNat c0)), .val (.int (Int32.ofNat pb)), .val (.ref b1), .val (.int (Int32.ofNat (B + 1))), .val (.long (Int64.ofNat (c0 + 1))), .second, .val (.int (Int32.ofNat (B + 1 + pb))), .val (.int (0 : Int32)), .val (.long ((1 : Int64) <<< ((Int32.ofNat (B + 1 + pb)) &&& 0x3f).toInt64)), .second, .val (.long ff), .second, .val (.int (Int32.ofNat jj)), .val (.long ff), .second, .val (.int (0 : Int32))] [(.int (0 : Int32))])) (fun tt_ kk_ => XS.iload X20.here hx rfl (hb hby at_236) rfl kk_) ?_
      refine Gq.go (T20.setTop (mkF m 240 #[.val (.int x0), .val (.int x1), .val (.long x2), .second, .val (.int x3), .val (.int x4), .val (.int (Int32.ofNat c0)), .val (.int (Int32.ofNat pb)), .val (.ref b1), .val (.int (Int32.ofNat (B + 1))), .val (.long (Int64.ofNat (c0 + 1))), .second, .val (.int (Int32.ofNat (B + 1 + pb))), .val (.int (0 : Int32)), .val (.long ((1 : Int64) <<< ((Int32.ofNat (B + 1 + pb)) &&& 0x3f).toInt64)), .second, .val (.long ff), .second, .val (.int (Int32.ofNat jj)), .val (.long ff), .second, .val (.int (0 : Int32))] [(.int (0 : Int32)), (.int (0 : Int32))])) (fun tt_ kk_ => XS.iload X20.here hx rfl (hb hby at_238) rfl kk_) ?_
      refine Gq.go (T20.setTop (mkF m 243 #[.val (.int x0), .val (.int x1), .val (.long x2), .second, .val (.int x3), .val (.int x4), .val (.int (Int32.ofNat c0)), .val (.int (Int32.ofNat pb)), .val (.ref b1), .val (.int (Int32.ofNat (B + 1))), .val (.long (Int64.ofNat (c0 + 1))), .second, .val (.int (Int32.ofNat (B + 1 + pb))), .val (.int (0 : Int32)), .val (.long ((1 : Int64) <<< ((Int32.ofNat (B + 1 + pb)) &&& 0x3f).toInt64)), .second, .val (.long ff), .second, .val (.int (Int32.ofNat jj)), .val (.long ff), .second, .val (.int (0 : Int32))] [])) (fun tt_ kk_ => XS.icmpNo X20.here hx rfl (hb hby at_240) rfl (teq (by decide : ((0 : Int32) = (0 : Int32)))).2 kk_) ?_
      refine Gq.go (T20.setTop (mkF m 244 #[.val (.int x0), .val (.int x1), .val (.long x2), .second, .val (.int x3), .val (.int x4), .val (.int (Int32.ofNat c0)), .val (.int (Int32.ofNat pb)), .val (.ref b1), .val (.int (Int32.ofNat (B + 1))), .val (.long (Int64.ofNat (c0 + 1))), .second, .val (.int (Int32.ofNat (B + 1 + pb))), .val (.int (0 : Int32)), .val (.long ((1 : Int64) <<< ((Int32.ofNat (B + 1 + pb)) &&& 0x3f).toInt64)), .second, .val (.long ff), .second, .val (.int (Int32.ofNat jj)), .val (.long ff), .second, .val (.int (0 : Int32))] [(.int (1 : Int32))])) (fun tt_ kk_ => XS.iconst X20.here hx rfl (hb hby at_243) kk_) ?_
      refine Gq.go (T20.setTop (mkF m 248 #[.val (.int x0), .val (.int x1), .val (.long x2), .second, .val (.int x3), .val (.int x4), .val (.int (Int32.ofNat c0)), .val (.int (Int32.ofNat pb)), .val (.ref b1), .val (.int (Int32.ofNat (B + 1))), .val (.long (Int64.ofNat (c0 + 1))), .second, .val (.int (Int32.ofNat (B + 1 + pb))), .val (.int (0 : Int32)), .val (.long ((1 : Int64) <<< ((Int32.ofNat (B + 1 + pb)) &&& 0x3f).toInt64)), .second, .val (.long ff), .second, .val (.int (Int32.ofNat jj)), .val (.long ff), .second, .val (.int (0 : Int32))] [(.int (1 : Int32))])) (fun tt_ kk_ => XS.goto X20.here hx rfl (pc0 := 244) (pc' := 248) rfl (hb hby at_244) (by decide) (by decide) kk_) ?_
      refine Gq.retI X20 hx Bd.notSynchronized Bd.returns (by simp) (hb hby at_248) rfl (by decide) (by decide) ?_
      show Q0 Z x0 x1 x2 x3 x4 h0 n0 _ T20.heap _
      rw [eh20]
      exact ⟨rfl, N20⟩
    · have hne := hjk
      refine Gq.go (T15.setTop (mkF m 161 #[.val (.int x0), .val (.int x1), .val (.long x2), .second, .val (.int x3), .val (.int x4), .val (.int (Int32.ofNat c0)), .val (.int (Int32.ofNat pb)), .val (.ref b1), .val (.int (Int32.ofNat (B + 1))), .val (.long (Int64.ofNat (c0 + 1))), .second, .val (.int (Int32.ofNat (B + 1 + pb))), .val (.int (0 : Int32)), .val (.long ((1 : Int64) <<< ((Int32.ofNat (B + 1 + pb)) &&& 0x3f).toInt64)), .second, .val (.long ff), .second, .val (.int (Int32.ofNat jj)), .unset, .unset, .unset] [])) (fun tt_ kk_ => XS.icmpYes X15.here hx rfl (pc0 := 153) (pc' := 161) rfl (hb hby at_153) rfl (feq (fun q => hjk ((own_eqn (by omega) (by omega)).mp q))).2 (by decide) (by decide) kk_) ?_
      refine Gq.go (T15.setTop (mkF m 163 #[.val (.int x0), .val (.int x1), .val (.long x2), .second, .val (.int x3), .val (.int x4), .val (.int (Int32.ofNat c0)), .val (.int (Int32.ofNat pb)), .val (.ref b1), .val (.int (Int32.ofNat (B + 1))), .val (.long (Int64.ofNat (c0 + 1))), .second, .val (.int (Int32.ofNat (B + 1 + pb))), .val (.int (0 : Int32)), .val (.long ((1 : Int64) <<< ((Int32.ofNat (B + 1 + pb)) &&& 0x3f).toInt64)), .second, .val (.long ff), .second, .val (.int (Int32.ofNat jj)), .unset, .unset, .unset] [(.long ff)])) (fun tt_ kk_ => XS.lload X15.here hx rfl (hb hby at_161) rfl kk_) ?_
      refine Gq.go (T15.setTop (mkF m 164 #[.val (.int x0), .val (.int x1), .val (.long x2), .second, .val (.int x3), .val (.int x4), .val (.int (Int32.ofNat c0)), .val (.int (Int32.ofNat pb)), .val (.ref b1), .val (.int (Int32.ofNat (B + 1))), .val (.long (Int64.ofNat (c0 + 1))), .second, .val (.int (Int32.ofNat (B + 1 + pb))), .val (.int (0 : Int32)), .val (.long ((1 : Int64) <<< ((Int32.ofNat (B + 1 + pb)) &&& 0x3f).toInt64)), .second, .val (.long ff), .second, .val (.int (Int32.ofNat jj)), .unset, .unset, .unset] [(.long (1 : Int64)), (.long ff)])) (fun tt_ kk_ => XS.lconst X15.here hx rfl (hb hby at_163) kk_) ?_
      refine Gq.go (T15.setTop (mkF m 166 #[.val (.int x0), .val (.int x1), .val (.long x2), .second, .val (.int x3), .val (.int x4), .val (.int (Int32.ofNat c0)), .val (.int (Int32.ofNat pb)), .val (.ref b1), .val (.int (Int32.ofNat (B + 1))), .val (.long (Int64.ofNat (c0 + 1))), .second, .val (.int (Int32.ofNat (B + 1 + pb))), .val (.int (0 : Int32)), .val (.long ((1 : Int64) <<< ((Int32.ofNat (B + 1 + pb)) &&& 0x3f).toInt64)), .second, .val (.long ff), .second, .val (.int (Int32.ofNat jj)), .unset, .unset, .unset] [(.int (Int32.ofNat jj)), (.long (1 : Int64)), (.long ff)])) (fun tt_ kk_ => XS.iload X15.here hx rfl (hb hby at_164) rfl kk_) ?_
      refine Gq.go (T15.setTop (mkF m 167 #[.val (.int x0), .val (.int x1), .val (.long x2), .second, .val (.int x3), .val (.int x4), .val (.int (Int32.ofNat c0)), .val (.int (Int32.ofNat pb)), .val (.ref b1), .val (.int (Int32.ofNat (B + 1))), .val (.long (Int64.ofNat (c0 + 1))), .second, .val (.int (Int32.ofNat (B + 1 + pb))), .val (.int (0 : Int32)), .val (.long ((1 : Int64) <<< ((Int32.ofNat (B + 1 + pb)) &&& 0x3f).toInt64)), .second, .val (.long ff), .second, .val (.int (Int32.ofNat jj)), .unset, .unset, .unset] [(.long ((1 : Int64) <<< ((Int32.ofNat jj) &&& 0x3f).toInt64)), (.long ff)])) (fun tt_ kk_ => XS.lshl X15.here hx rfl (hb hby at_166) rfl kk_) ?_
      refine Gq.go (T15.setTop (mkF m 168 #[.val (.int x0), .val (.int x1), .val (.long x2), .second, .val (.int x3), .val (.int x4), .val (.int (Int32.ofNat c0)), .val (.int (Int32.ofNat pb)), .val (.ref b1), .val (.int (Int32.ofNat (B + 1))), .val (.long (Int64.ofNat (c0 + 1))), .second, .val (.int (Int32.ofNat (B + 1 + pb))), .val (.int (0 : Int32)), .val (.long ((1 : Int64) <<< ((Int32.ofNat (B + 1 + pb)) &&& 0x3f).toInt64)), .second, .val (.long ff), .second, .val (.int (Int32.ofNat jj)), .unset, .unset, .unset] [(.long (ff ^^^ ((1 : Int64) <<< ((Int32.ofNat jj) &&& 0x3f).toInt64)))])) (fun tt_ kk_ => XS.lxor X15.here hx rfl (hb hby at_167) rfl kk_) ?_
      refine Gq.go (T15.setTop (mkF m 170 #[.val (.int x0), .val (.int x1), .val (.long x2), .second, .val (.int x3), .val (.int x4), .val (.int (Int32.ofNat c0)), .val (.int (Int32.ofNat pb)), .val (.ref b1), .val (.int (Int32.ofNat (B + 1))), .val (.long (Int64.ofNat (c0 + 1))), .second, .val (.int (Int32.ofNat (B + 1 + pb))), .val (.int (0 : Int32)), .val (.long ((1 : Int64) <<< ((Int32.ofNat (B + 1 + pb)) &&& 0x3f).toInt64)), .second, .val (.long ff), .second, .val (.int (Int32.ofNat jj)), .val (.long (ff ^^^ ((1 : Int64) <<< ((Int32.ofNat jj) &&& 0x3f).toInt64))), .second, .unset] [])) (fun tt_ kk_ => XS.lstore X15.here hx rfl (hb hby at_168) rfl (l' := #[.val (.int x0), .val (.int x1), .val (.long x2), .second, .val (.int x3), .val (.int x4), .val (.int (Int32.ofNat c0)), .val (.int (Int32.ofNat pb)), .val (.ref b1), .val (.int (Int32.ofNat (B + 1))), .val (.long (Int64.ofNat (c0 + 1))), .second, .val (.int (Int32.ofNat (B + 1 + pb))), .val (.int (0 : Int32)), .val (.long ((1 : Int64) <<< ((Int32.ofNat (B + 1 + pb)) &&& 0x3f).toInt64)), .second, .val (.long ff), .second, .val (.int (Int32.ofNat jj)), .val (.long (ff ^^^ ((1 : Int64) <<< ((Int32.ofNat jj) &&& 0x3f).toInt64))), .second, .unset]) rfl kk_) ?_
      have hg : ((ff ^^^ ((1 : Int64) <<< ((Int32.ofNat jj) &&& 0x3f).toInt64))).toBitVec.getLsbD (B + 1 + pb) = false := by rw [own_other ff (by omega) (by omega) hne]; exact hf
      generalize hgg : (ff ^^^ ((1 : Int64) <<< ((Int32.ofNat jj) &&& 0x3f).toInt64)) = gg
      rw [hgg] at hg
      refine Gq.go (T15.setTop (mkF m 172 #[.val (.int x0), .val (.int x1), .val (.long x2), .second, .val (.int x3), .val (.int x4), .val (.int (Int32.ofNat c0)), .val (.int (Int32.ofNat pb)), .val (.ref b1), .val (.int (Int32.ofNat (B + 1))), .val (.long (Int64.ofNat (c0 + 1))), .second, .val (.int (Int32.ofNat (B + 1 + pb))), .val (.int (0 : Int32)), .val (.long ((1 : Int64) <<< ((Int32.ofNat (B + 1 + pb)) &&& 0x3f).toInt64)), .second, .val (.long ff), .second, .val (.int (Int32.ofNat jj)), .val (.long gg), .second, .unset] [(.ref b1)])) (fun tt_ kk_ => XS.aload X15.here hx rfl (hb hby at_170) rfl rfl kk_) ?_
      refine Gq.go (T15.setTop (mkF m 174 #[.val (.int x0), .val (.int x1), .val (.long x2), .second, .val (.int x3), .val (.int x4), .val (.int (Int32.ofNat c0)), .val (.int (Int32.ofNat pb)), .val (.ref b1), .val (.int (Int32.ofNat (B + 1))), .val (.long (Int64.ofNat (c0 + 1))), .second, .val (.int (Int32.ofNat (B + 1 + pb))), .val (.int (0 : Int32)), .val (.long ((1 : Int64) <<< ((Int32.ofNat (B + 1 + pb)) &&& 0x3f).toInt64)), .second, .val (.long ff), .second, .val (.int (Int32.ofNat jj)), .val (.long gg), .second, .unset] [(.long ff), (.ref b1)])) (fun tt_ kk_ => XS.lload X15.here hx rfl (hb hby at_172) rfl kk_) ?_
      obtain ⟨r21, T21, L21, X21, hQ21, st21⟩ := callV (pc := 174) (Ls := #[.val (.int x0), .val (.int x1), .val (.long x2), .second, .val (.int x3), .val (.int x4), .val (.int (Int32.ofNat c0)), .val (.int (Int32.ofNat pb)), .val (.ref b1), .val (.int (Int32.ofNat (B + 1))), .val (.long (Int64.ofNat (c0 + 1))), .second, .val (.int (Int32.ofNat (B + 1 + pb))), .val (.int (0 : Int32)), .val (.long ((1 : Int64) <<< ((Int32.ofNat (B + 1 + pb)) &&& 0x3f).toInt64)), .second, .val (.long ff), .second, .val (.int (Int32.ofNat jj)), .val (.long gg), .second, .unset]) X15 hx hZ hown eh15 b1 [(.long ff)] [] fa4 (hw _ (List.mem_of_getElem? (i := 50) rfl)) (hw _ (List.mem_of_getElem? (i := 51) rfl)) (hw _ (List.mem_of_getElem? (i := 53) rfl)) (hw _ (List.mem_of_getElem? (i := 52) rfl)) (hw _ (List.mem_of_getElem? (i := 3) rfl)) (hw _ (List.mem_of_getElem? (i := 54) rfl)) (by decide) (rm9 l Z a0 hw [] b1 ff (Int32.ofNat (B + 1)) (Int32.ofNat pb) T3.heap n0 za13 c3_0 c3_1) pd_4 rfl (by rw [hml]; rfl) (W := 0) (Nat.le_of_eq rfl) (by decide) (by decide) (by decide) (by decide) (hb hby at_174)
      obtain ⟨rfl, N21q, eh21⟩ := hQ21
      have N21 := Fr.app N15 N21q
      refine Gq.go (T21.setTop (mkF m 177 #[.val (.int x0), .val (.int x1), .val (.long x2), .second, .val (.int x3), .val (.int x4), .val (.int (Int32.ofNat c0)), .val (.int (Int32.ofNat pb)), .val (.ref b1), .val (.int (Int32.ofNat (B + 1))), .val (.long (Int64.ofNat (c0 + 1))), .second, .val (.int (Int32.ofNat (B + 1 + pb))), .val (.int (0 : Int32)), .val (.long ((1 : Int64) <<< ((Int32.ofNat (B + 1 + pb)) &&& 0x3f).toInt64)), .second, .val (.long ff), .second, .val (.int (Int32.ofNat jj)), .val (.long gg), .second, .unset] [(.int (own_isv ff (Int32.ofNat (B + 1)) (Int32.ofNat pb)))])) (fun tt_ kk_ => st21 tt_ kk_) ?_
      refine Gq.go (T21.setTop (mkF m 179 #[.val (.int x0), .val (.int x1), .val (.long x2), .second, .val (.int x3), .val (.int x4), .val (.int (Int32.ofNat c0)), .val (.int (Int32.ofNat pb)), .val (.ref b1), .val (.int (Int32.ofNat (B + 1))), .val (.long (Int64.ofNat (c0 + 1))), .second, .val (.int (Int32.ofNat (B + 1 + pb))), .val (.int (0 : Int32)), .val (.long ((1 : Int64) <<< ((Int32.ofNat (B + 1 + pb)) &&& 0x3f).toInt64)), .second, .val (.long ff), .second, .val (.int (Int32.ofNat jj)), .val (.long gg), .second, .unset] [(.int (0 : Int32)), (.int (own_isv ff (Int32.ofNat (B + 1)) (Int32.ofNat pb)))])) (fun tt_ kk_ => XS.iload X21.here hx rfl (hb hby at_177) rfl kk_) ?_
      refine Gq.go (T21.setTop (mkF m 184 #[.val (.int x0), .val (.int x1), .val (.long x2), .second, .val (.int x3), .val (.int x4), .val (.int (Int32.ofNat c0)), .val (.int (Int32.ofNat pb)), .val (.ref b1), .val (.int (Int32.ofNat (B + 1))), .val (.long (Int64.ofNat (c0 + 1))), .second, .val (.int (Int32.ofNat (B + 1 + pb))), .val (.int (0 : Int32)), .val (.long ((1 : Int64) <<< ((Int32.ofNat (B + 1 + pb)) &&& 0x3f).toInt64)), .second, .val (.long ff), .second, .val (.int (Int32.ofNat jj)), .val (.long gg), .second, .unset] [])) (fun tt_ kk_ => XS.icmpYes X21.here hx rfl (pc0 := 179) (pc' := 184) rfl (hb hby at_179) rfl (teq (own_isv0 hf (by omega))).1 (by decide) (by decide) kk_) ?_
      refine Gq.go (T21.setTop (mkF m 186 #[.val (.int x0), .val (.int x1), .val (.long x2), .second, .val (.int x3), .val (.int x4), .val (.int (Int32.ofNat c0)), .val (.int (Int32.ofNat pb)), .val (.ref b1), .val (.int (Int32.ofNat (B + 1))), .val (.long (Int64.ofNat (c0 + 1))), .second, .val (.int (Int32.ofNat (B + 1 + pb))), .val (.int (0 : Int32)), .val (.long ((1 : Int64) <<< ((Int32.ofNat (B + 1 + pb)) &&& 0x3f).toInt64)), .second, .val (.long ff), .second, .val (.int (Int32.ofNat jj)), .val (.long gg), .second, .unset] [(.ref b1)])) (fun tt_ kk_ => XS.aload X21.here hx rfl (hb hby at_184) rfl rfl kk_) ?_
      refine Gq.go (T21.setTop (mkF m 188 #[.val (.int x0), .val (.int x1), .val (.long x2), .second, .val (.int x3), .val (.int x4), .val (.int (Int32.ofNat c0)), .val (.int (Int32.ofNat pb)), .val (.ref b1), .val (.int (Int32.ofNat (B + 1))), .val (.long (Int64.ofNat (c0 + 1))), .second, .val (.int (Int32.ofNat (B + 1 + pb))), .val (.int (0 : Int32)), .val (.long ((1 : Int64) <<< ((Int32.ofNat (B + 1 + pb)) &&& 0x3f).toInt64)), .second, .val (.long ff), .second, .val (.int (Int32.ofNat jj)), .val (.long gg), .second, .unset] [(.long gg), (.ref b1)])) (fun tt_ kk_ => XS.lload X21.here hx rfl (hb hby at_186) rfl kk_) ?_
      obtain ⟨r22, T22, L22, X22, hQ22, st22⟩ := callV (pc := 188) (Ls := #[.val (.int x0), .val (.int x1), .val (.long x2), .second, .val (.int x3), .val (.int x4), .val (.int (Int32.ofNat c0)), .val (.int (Int32.ofNat pb)), .val (.ref b1), .val (.int (Int32.ofNat (B + 1))), .val (.long (Int64.ofNat (c0 + 1))), .second, .val (.int (Int32.ofNat (B + 1 + pb))), .val (.int (0 : Int32)), .val (.long ((1 : Int64) <<< ((Int32.ofNat (B + 1 + pb)) &&& 0x3f).toInt64)), .second, .val (.long ff), .second, .val (.int (Int32.ofNat jj)), .val (.long gg), .second, .unset]) X21 hx hZ hown eh21 b1 [(.long gg)] [] fa4 (hw _ (List.mem_of_getElem? (i := 50) rfl)) (hw _ (List.mem_of_getElem? (i := 51) rfl)) (hw _ (List.mem_of_getElem? (i := 53) rfl)) (hw _ (List.mem_of_getElem? (i := 52) rfl)) (hw _ (List.mem_of_getElem? (i := 3) rfl)) (hw _ (List.mem_of_getElem? (i := 54) rfl)) (by decide) (rm9 l Z a0 hw [] b1 gg (Int32.ofNat (B + 1)) (Int32.ofNat pb) T3.heap n0 za13 c3_0 c3_1) pd_4 rfl (by rw [hml]; rfl) (W := 0) (Nat.le_of_eq rfl) (by decide) (by decide) (by decide) (by decide) (hb hby at_188)
      obtain ⟨rfl, N22q, eh22⟩ := hQ22
      have N22 := Fr.app N21 N22q
      refine Gq.go (T22.setTop (mkF m 191 #[.val (.int x0), .val (.int x1), .val (.long x2), .second, .val (.int x3), .val (.int x4), .val (.int (Int32.ofNat c0)), .val (.int (Int32.ofNat pb)), .val (.ref b1), .val (.int (Int32.ofNat (B + 1))), .val (.long (Int64.ofNat (c0 + 1))), .second, .val (.int (Int32.ofNat (B + 1 + pb))), .val (.int (0 : Int32)), .val (.long ((1 : Int64) <<< ((Int32.ofNat (B + 1 + pb)) &&& 0x3f).toInt64)), .second, .val (.long ff), .second, .val (.int (Int32.ofNat jj)), .val (.long gg), .second, .unset] [(.int (own_isv gg (Int32.ofNat (B + 1)) (Int32.ofNat pb)))])) (fun tt_ kk_ => st22 tt_ kk_) ?_
      refine Gq.go (T22.setTop (mkF m 193 #[.val (.int x0), .val (.int x1), .val (.long x2), .second, .val (.int x3), .val (.int x4), .val (.int (Int32.ofNat c0)), .val (.int (Int32.ofNat pb)), .val (.ref b1), .val (.int (Int32.ofNat (B + 1))), .val (.long (Int64.ofNat (c0 + 1))), .second, .val (.int (Int32.ofNat (B + 1 + pb))), .val (.int (0 : Int32)), .val (.long ((1 : Int64) <<< ((Int32.ofNat (B + 1 + pb)) &&& 0x3f).toInt64)), .second, .val (.long ff), .second, .val (.int (Int32.ofNat jj)), .val (.long gg), .second, .unset] [(.int (0 : Int32)), (.int (own_isv gg (Int32.ofNat (B + 1)) (Int32.ofNat pb)))])) (fun tt_ kk_ => XS.iload X22.here hx rfl (hb hby at_191) rfl kk_) ?_
      refine Gq.go (T22.setTop (mkF m 198 #[.val (.int x0), .val (.int x1), .val (.long x2), .second, .val (.int x3), .val (.int x4), .val (.int (Int32.ofNat c0)), .val (.int (Int32.ofNat pb)), .val (.ref b1), .val (.int (Int32.ofNat (B + 1))), .val (.long (Int64.ofNat (c0 + 1))), .second, .val (.int (Int32.ofNat (B + 1 + pb))), .val (.int (0 : Int32)), .val (.long ((1 : Int64) <<< ((Int32.ofNat (B + 1 + pb)) &&& 0x3f).toInt64)), .second, .val (.long ff), .second, .val (.int (Int32.ofNat jj)), .val (.long gg), .second, .unset] [])) (fun tt_ kk_ => XS.icmpYes X22.here hx rfl (pc0 := 193) (pc' := 198) rfl (hb hby at_193) rfl (teq (own_isv0 hg (by omega))).1 (by decide) (by decide) kk_) ?_
      refine Gq.go (T22.setTop (mkF m 200 #[.val (.int x0), .val (.int x1), .val (.long x2), .second, .val (.int x3), .val (.int x4), .val (.int (Int32.ofNat c0)), .val (.int (Int32.ofNat pb)), .val (.ref b1), .val (.int (Int32.ofNat (B + 1))), .val (.long (Int64.ofNat (c0 + 1))), .second, .val (.int (Int32.ofNat (B + 1 + pb))), .val (.int (0 : Int32)), .val (.long ((1 : Int64) <<< ((Int32.ofNat (B + 1 + pb)) &&& 0x3f).toInt64)), .second, .val (.long ff), .second, .val (.int (Int32.ofNat jj)), .val (.long gg), .second, .unset] [(.ref b1)])) (fun tt_ kk_ => XS.aload X22.here hx rfl (hb hby at_198) rfl rfl kk_) ?_
      obtain ⟨r23, T23, L23, X23, hQ23, st23⟩ := callV (pc := 200) (Ls := #[.val (.int x0), .val (.int x1), .val (.long x2), .second, .val (.int x3), .val (.int x4), .val (.int (Int32.ofNat c0)), .val (.int (Int32.ofNat pb)), .val (.ref b1), .val (.int (Int32.ofNat (B + 1))), .val (.long (Int64.ofNat (c0 + 1))), .second, .val (.int (Int32.ofNat (B + 1 + pb))), .val (.int (0 : Int32)), .val (.long ((1 : Int64) <<< ((Int32.ofNat (B + 1 + pb)) &&& 0x3f).toInt64)), .second, .val (.long ff), .second, .val (.int (Int32.ofNat jj)), .val (.long gg), .second, .unset]) X22 hx hZ hown eh22 b1 [] [] fa4 (hw _ (List.mem_of_getElem? (i := 55) rfl)) (hw _ (List.mem_of_getElem? (i := 56) rfl)) (hw _ (List.mem_of_getElem? (i := 58) rfl)) (hw _ (List.mem_of_getElem? (i := 57) rfl)) (hw _ (List.mem_of_getElem? (i := 3) rfl)) (hw _ (List.mem_of_getElem? (i := 59) rfl)) (by decide) (rm10 l Z a0 hw [] b1 ((1 : Int64) <<< ((Int32.ofNat pb) &&& 0x3f).toInt64) T3.heap n0 za13 c3_3) pd_5 rfl (by rw [hml]; rfl) (W := 0) (Nat.le_of_eq rfl) (by decide) (by decide) (by decide) (by decide) (hb hby at_200)
      obtain ⟨rfl, N23q, eh23⟩ := hQ23
      have N23 := Fr.app N22 N23q
      refine Gq.go (T23.setTop (mkF m 203 #[.val (.int x0), .val (.int x1), .val (.long x2), .second, .val (.int x3), .val (.int x4), .val (.int (Int32.ofNat c0)), .val (.int (Int32.ofNat pb)), .val (.ref b1), .val (.int (Int32.ofNat (B + 1))), .val (.long (Int64.ofNat (c0 + 1))), .second, .val (.int (Int32.ofNat (B + 1 + pb))), .val (.int (0 : Int32)), .val (.long ((1 : Int64) <<< ((Int32.ofNat (B + 1 + pb)) &&& 0x3f).toInt64)), .second, .val (.long ff), .second, .val (.int (Int32.ofNat jj)), .val (.long gg), .second, .unset] [(.long ((1 : Int64) <<< ((Int32.ofNat pb) &&& 0x3f).toInt64))])) (fun tt_ kk_ => st23 tt_ kk_) ?_
      refine Gq.go (T23.setTop (mkF m 204 #[.val (.int x0), .val (.int x1), .val (.long x2), .second, .val (.int x3), .val (.int x4), .val (.int (Int32.ofNat c0)), .val (.int (Int32.ofNat pb)), .val (.ref b1), .val (.int (Int32.ofNat (B + 1))), .val (.long (Int64.ofNat (c0 + 1))), .second, .val (.int (Int32.ofNat (B + 1 + pb))), .val (.int (0 : Int32)), .val (.long ((1 : Int64) <<< ((Int32.ofNat (B + 1 + pb)) &&& 0x3f).toInt64)), .second, .val (.long ff), .second, .val (.int (Int32.ofNat jj)), .val (.long gg), .second, .unset] [(.long (1 : Int64)), (.long ((1 : Int64) <<< ((Int32.ofNat pb) &&& 0x3f).toInt64))])) (fun tt_ kk_ => XS.lconst X23.here hx rfl (hb hby at_203) kk_) ?_
      refine Gq.go (T23.setTop (mkF m 206 #[.val (.int x0), .val (.int x1), .val (.long x2), .second, .val (.int x3), .val (.int x4), .val (.int (Int32.ofNat c0)), .val (.int (Int32.ofNat pb)), .val (.ref b1), .val (.int (Int32.ofNat (B + 1))), .val (.long (Int64.ofNat (c0 + 1))), .second, .val (.int (Int32.ofNat (B + 1 + pb))), .val (.int (0 : Int32)), .val (.long ((1 : Int64) <<< ((Int32.ofNat (B + 1 + pb)) &&& 0x3f).toInt64)), .second, .val (.long ff), .second, .val (.int (Int32.ofNat jj)), .val (.long gg), .second, .unset] [(.int (Int32.ofNat pb)), (.long (1 : Int64)), (.long ((1 : Int64) <<< ((Int32.ofNat pb) &&& 0x3f).toInt64))])) (fun tt_ kk_ => XS.iload X23.here hx rfl (hb hby at_204) rfl kk_) ?_
      refine Gq.go (T23.setTop (mkF m 207 #[.val (.int x0), .val (.int x1), .val (.long x2), .second, .val (.int x3), .val (.int x4), .val (.int (Int32.ofNat c0)), .val (.int (Int32.ofNat pb)), .val (.ref b1), .val (.int (Int32.ofNat (B + 1))), .val (.long (Int64.ofNat (c0 + 1))), .second, .val (.int (Int32.ofNat (B + 1 + pb))), .val (.int (0 : Int32)), .val (.long ((1 : Int64) <<< ((Int32.ofNat (B + 1 + pb)) &&& 0x3f).toInt64)), .second, .val (.long ff), .second, .val (.int (Int32.ofNat jj)), .val (.long gg), .second, .unset] [(.long ((1 : Int64) <<< ((Int32.ofNat pb) &&& 0x3f).toInt64)), (.long ((1 : Int64) <<< ((Int32.ofNat pb) &&& 0x3f).toInt64))])) (fun tt_ kk_ => XS.lshl X23.here hx rfl (hb hby at_206) rfl kk_) ?_
      refine Gq.go (T23.setTop (mkF m 208 #[.val (.int x0), .val (.int x1), .val (.long x2), .second, .val (.int x3), .val (.int x4), .val (.int (Int32.ofNat c0)), .val (.int (Int32.ofNat pb)), .val (.ref b1), .val (.int (Int32.ofNat (B + 1))), .val (.long (Int64.ofNat (c0 + 1))), .second, .val (.int (Int32.ofNat (B + 1 + pb))), .val (.int (0 : Int32)), .val (.long ((1 : Int64) <<< ((Int32.ofNat (B + 1 + pb)) &&& 0x3f).toInt64)), .second, .val (.long ff), .second, .val (.int (Int32.ofNat jj)), .val (.long gg), .second, .unset] [(.int (lcmpW ((1 : Int64) <<< ((Int32.ofNat pb) &&& 0x3f).toInt64) ((1 : Int64) <<< ((Int32.ofNat pb) &&& 0x3f).toInt64)))])) (fun tt_ kk_ => XS.lcmp X23.here hx rfl (hb hby at_207) rfl kk_) ?_
      refine Gq.go (T23.setTop (mkF m 213 #[.val (.int x0), .val (.int x1), .val (.long x2), .second, .val (.int x3), .val (.int x4), .val (.int (Int32.ofNat c0)), .val (.int (Int32.ofNat pb)), .val (.ref b1), .val (.int (Int32.ofNat (B + 1))), .val (.long (Int64.ofNat (c0 + 1))), .second, .val (.int (Int32.ofNat (B + 1 + pb))), .val (.int (0 : Int32)), .val (.long ((1 : Int64) <<< ((Int32.ofNat (B + 1 + pb)) &&& 0x3f).toInt64)), .second, .val (.long ff), .second, .val (.int (Int32.ofNat jj)), .val (.long gg), .second, .unset] [])) (fun tt_ kk_ => XS.ifYes X23.here hx rfl (pc0 := 208) (pc' := 213) rfl (hb hby at_208) rfl ((if0 _ _).trans (teq ((lw_eq _ _).mpr rfl)).1) (by decide) (by decide) kk_) ?_
      refine Gq.go (T23.setTop (mkF m 215 #[.val (.int x0), .val (.int x1), .val (.long x2), .second, .val (.int x3), .val (.int x4), .val (.int (Int32.ofNat c0)), .val (.int (Int32.ofNat pb)), .val (.ref b1), .val (.int (Int32.ofNat (B + 1))), .val (.long (Int64.ofNat (c0 + 1))), .second, .val (.int (Int32.ofNat (B + 1 + pb))), .val (.int (0 : Int32)), .val (.long ((1 : Int64) <<< ((Int32.ofNat (B + 1 + pb)) &&& 0x3f).toInt64)), .second, .val (.long ff), .second, .val (.int (Int32.ofNat jj)), .val (.long gg), .second, .unset] [(.ref b1)])) (fun tt_ kk_ => XS.aload X23.here hx rfl (hb hby at_213) rfl rfl kk_) ?_
      refine Gq.go (T23.setTop (mkF m 217 #[.val (.int x0), .val (.int x1), .val (.long x2), .second, .val (.int x3), .val (.int x4), .val (.int (Int32.ofNat c0)), .val (.int (Int32.ofNat pb)), .val (.ref b1), .val (.int (Int32.ofNat (B + 1))), .val (.long (Int64.ofNat (c0 + 1))), .second, .val (.int (Int32.ofNat (B + 1 + pb))), .val (.int (0 : Int32)), .val (.long ((1 : Int64) <<< ((Int32.ofNat (B + 1 + pb)) &&& 0x3f).toInt64)), .second, .val (.long ff), .second, .val (.int (Int32.ofNat jj)), .val (.long gg), .second, .unset] [(.long ff), (.ref b1)])) (fun tt_ kk_ => XS.lload X23.here hx rfl (hb hby at_215) rfl kk_) ?_
      obtain ⟨r24, T24, L24, X24, hQ24, st24⟩ := callV (pc := 217) (Ls := #[.val (.int x0), .val (.int x1), .val (.long x2), .second, .val (.int x3), .val (.int x4), .val (.int (Int32.ofNat c0)), .val (.int (Int32.ofNat pb)), .val (.ref b1), .val (.int (Int32.ofNat (B + 1))), .val (.long (Int64.ofNat (c0 + 1))), .second, .val (.int (Int32.ofNat (B + 1 + pb))), .val (.int (0 : Int32)), .val (.long ((1 : Int64) <<< ((Int32.ofNat (B + 1 + pb)) &&& 0x3f).toInt64)), .second, .val (.long ff), .second, .val (.int (Int32.ofNat jj)), .val (.long gg), .second, .unset]) X23 hx hZ hown eh23 b1 [(.long ff)] [] fa4 (hw _ (List.mem_of_getElem? (i := 60) rfl)) (hw _ (List.mem_of_getElem? (i := 61) rfl)) (hw _ (List.mem_of_getElem? (i := 63) rfl)) (hw _ (List.mem_of_getElem? (i := 62) rfl)) (hw _ (List.mem_of_getElem? (i := 3) rfl)) (hw _ (List.mem_of_getElem? (i := 64) rfl)) (by decide) (rm11 l Z a0 hw [] b1 ff (Int32.ofNat (B + 1)) (((1 : Int64) <<< (((Int32.ofNat pb) + (1 : Int32)) &&& 0x3f).toInt64) - (1 : Int64)) T3.heap n0 za13 c3_0 c3_2) pd_6 rfl (by rw [hml]; rfl) (W := 0) (Nat.le_of_eq rfl) (by decide) (by decide) (by decide) (by decide) (hb hby at_217)
      obtain ⟨rfl, N24q, eh24⟩ := hQ24
      have N24 := Fr.app N23 N24q
      refine Gq.go (T24.setTop (mkF m 220 #[.val (.int x0), .val (.int x1), .val (.long x2), .second, .val (.int x3), .val (.int x4), .val (.int (Int32.ofNat c0)), .val (.int (Int32.ofNat pb)), .val (.ref b1), .val (.int (Int32.ofNat (B + 1))), .val (.long (Int64.ofNat (c0 + 1))), .second, .val (.int (Int32.ofNat (B + 1 + pb))), .val (.int (0 : Int32)), .val (.long ((1 : Int64) <<< ((Int32.ofNat (B + 1 + pb)) &&& 0x3f).toInt64)), .second, .val (.long ff), .second, .val (.int (Int32.ofNat jj)), .val (.long gg), .second, .unset] [(.long (((ff.toUInt64 >>> ((Int32.ofNat (B + 1)) &&& 0x3f).toInt64.toUInt64).toInt64) &&& (((1 : Int64) <<< (((Int32.ofNat pb) + (1 : Int32)) &&& 0x3f).toInt64) - (1 : Int64))))])) (fun tt_ kk_ => st24 tt_ kk_) ?_
      refine Gq.go (T24.setTop (mkF m 222 #[.val (.int x0), .val (.int x1), .val (.long x2), .second, .val (.int x3), .val (.int x4), .val (.int (Int32.ofNat c0)), .val (.int (Int32.ofNat pb)), .val (.ref b1), .val (.int (Int32.ofNat (B + 1))), .val (.long (Int64.ofNat (c0 + 1))), .second, .val (.int (Int32.ofNat (B + 1 + pb))), .val (.int (0 : Int32)), .val (.long ((1 : Int64) <<< ((Int32.ofNat (B + 1 + pb)) &&& 0x3f).toInt64)), .second, .val (.long ff), .second, .val (.int (Int32.ofNat jj)), .val (.long gg), .second, .unset] [(.ref b1), (.long (((ff.toUInt64 >>> ((Int32.ofNat (B + 1)) &&& 0x3f).toInt64.toUInt64).toInt64) &&& (((1 : Int64) <<< (((Int32.ofNat pb) + (1 : Int32)) &&& 0x3f).toInt64) - (1 : Int64))))])) (fun tt_ kk_ => XS.aload X24.here hx rfl (hb hby at_220) rfl rfl kk_) ?_
      obtain ⟨r25, T25, L25, X25, hQ25, st25⟩ := callV (pc := 222) (Ls := #[.val (.int x0), .val (.int x1), .val (.long x2), .second, .val (.int x3), .val (.int x4), .val (.int (Int32.ofNat c0)), .val (.int (Int32.ofNat pb)), .val (.ref b1), .val (.int (Int32.ofNat (B + 1))), .val (.long (Int64.ofNat (c0 + 1))), .second, .val (.int (Int32.ofNat (B + 1 + pb))), .val (.int (0 : Int32)), .val (.long ((1 : Int64) <<< ((Int32.ofNat (B + 1 + pb)) &&& 0x3f).toInt64)), .second, .val (.long ff), .second, .val (.int (Int32.ofNat jj)), .val (.long gg), .second, .unset]) X24 hx hZ hown eh24 b1 [] [(.long (((ff.toUInt64 >>> ((Int32.ofNat (B + 1)) &&& 0x3f).toInt64.toUInt64).toInt64) &&& (((1 : Int64) <<< (((Int32.ofNat pb) + (1 : Int32)) &&& 0x3f).toInt64) - (1 : Int64))))] fa4 (hw _ (List.mem_of_getElem? (i := 55) rfl)) (hw _ (List.mem_of_getElem? (i := 56) rfl)) (hw _ (List.mem_of_getElem? (i := 58) rfl)) (hw _ (List.mem_of_getElem? (i := 57) rfl)) (hw _ (List.mem_of_getElem? (i := 3) rfl)) (hw _ (List.mem_of_getElem? (i := 59) rfl)) (by decide) (rm10 l Z a0 hw [] b1 ((1 : Int64) <<< ((Int32.ofNat pb) &&& 0x3f).toInt64) T3.heap n0 za13 c3_3) pd_5 rfl (by rw [hml]; rfl) (W := 2) (Nat.le_of_eq rfl) (by decide) (by decide) (by decide) (by decide) (hb hby at_222)
      obtain ⟨rfl, N25q, eh25⟩ := hQ25
      have N25 := Fr.app N24 N25q
      refine Gq.go (T25.setTop (mkF m 225 #[.val (.int x0), .val (.int x1), .val (.long x2), .second, .val (.int x3), .val (.int x4), .val (.int (Int32.ofNat c0)), .val (.int (Int32.ofNat pb)), .val (.ref b1), .val (.int (Int32.ofNat (B + 1))), .val (.long (Int64.ofNat (c0 + 1))), .second, .val (.int (Int32.ofNat (B + 1 + pb))), .val (.int (0 : Int32)), .val (.long ((1 : Int64) <<< ((Int32.ofNat (B + 1 + pb)) &&& 0x3f).toInt64)), .second, .val (.long ff), .second, .val (.int (Int32.ofNat jj)), .val (.long gg), .second, .unset] [(.long ((1 : Int64) <<< ((Int32.ofNat pb) &&& 0x3f).toInt64)), (.long (((ff.toUInt64 >>> ((Int32.ofNat (B + 1)) &&& 0x3f).toInt64.toUInt64).toInt64) &&& (((1 : Int64) <<< (((Int32.ofNat pb) + (1 : Int32)) &&& 0x3f).toInt64) - (1 : Int64))))])) (fun tt_ kk_ => st25 tt_ kk_) ?_
      refine Gq.go (T25.setTop (mkF m 226 #[.val (.int x0), .val (.int x1), .val (.long x2), .second, .val (.int x3), .val (.int x4), .val (.int (Int32.ofNat c0)), .val (.int (Int32.ofNat pb)), .val (.ref b1), .val (.int (Int32.ofNat (B + 1))), .val (.long (Int64.ofNat (c0 + 1))), .second, .val (.int (Int32.ofNat (B + 1 + pb))), .val (.int (0 : Int32)), .val (.long ((1 : Int64) <<< ((Int32.ofNat (B + 1 + pb)) &&& 0x3f).toInt64)), .second, .val (.long ff), .second, .val (.int (Int32.ofNat jj)), .val (.long gg), .second, .unset] [(.int (lcmpW (((ff.toUInt64 >>> ((Int32.ofNat (B + 1)) &&& 0x3f).toInt64.toUInt64).toInt64) &&& (((1 : Int64) <<< (((Int32.ofNat pb) + (1 : Int32)) &&& 0x3f).toInt64) - (1 : Int64))) ((1 : Int64) <<< ((Int32.ofNat pb) &&& 0x3f).toInt64)))])) (fun tt_ kk_ => XS.lcmp X25.here hx rfl (hb hby at_225) rfl kk_) ?_
      refine Gq.go (T25.setTop (mkF m 233 #[.val (.int x0), .val (.int x1), .val (.long x2), .second, .val (.int x3), .val (.int x4), .val (.int (Int32.ofNat c0)), .val (.int (Int32.ofNat pb)), .val (.ref b1), .val (.int (Int32.ofNat (B + 1))), .val (.long (Int64.ofNat (c0 + 1))), .second, .val (.int (Int32.ofNat (B + 1 + pb))), .val (.int (0 : Int32)), .val (.long ((1 : Int64) <<< ((Int32.ofNat (B + 1 + pb)) &&& 0x3f).toInt64)), .second, .val (.long ff), .second, .val (.int (Int32.ofNat jj)), .val (.long gg), .second, .unset] [])) (fun tt_ kk_ => XS.ifYes X25.here hx rfl (pc0 := 226) (pc' := 233) rfl (hb hby at_226) rfl ((if0 _ _).trans (tlt (own_reach0 hf (by omega) (by omega))).1) (by decide) (by decide) kk_) ?_
      refine Gq.go (T25.setTop (mkF m 234 #[.val (.int x0), .val (.int x1), .val (.long x2), .second, .val (.int x3), .val (.int x4), .val (.int (Int32.ofNat c0)), .val (.int (Int32.ofNat pb)), .val (.ref b1), .val (.int (Int32.ofNat (B + 1))), .val (.long (Int64.ofNat (c0 + 1))), .second, .val (.int (Int32.ofNat (B + 1 + pb))), .val (.int (0 : Int32)), .val (.long ((1 : Int64) <<< ((Int32.ofNat (B + 1 + pb)) &&& 0x3f).toInt64)), .second, .val (.long ff), .second, .val (.int (Int32.ofNat jj)), .val (.long gg), .second, .unset] [(.int (0 : Int32))])) (fun tt_ kk_ => XS.iconst X25.here hx rfl (hb hby at_233) kk_) ?_
      refine Gq.go (T25.setTop (mkF m 236 #[.val (.int x0), .val (.int x1), .val (.long x2), .second, .val (.int x3), .val (.int x4), .val (.int (Int32.ofNat c0)), .val (.int (Int32.ofNat pb)), .val (.ref b1), .val (.int (Int32.ofNat (B + 1))), .val (.long (Int64.ofNat (c0 + 1))), .second, .val (.int (Int32.ofNat (B + 1 + pb))), .val (.int (0 : Int32)), .val (.long ((1 : Int64) <<< ((Int32.ofNat (B + 1 + pb)) &&& 0x3f).toInt64)), .second, .val (.long ff), .second, .val (.int (Int32.ofNat jj)), .val (.long gg), .second, .val (.int (0 : Int32))] [])) (fun tt_ kk_ => XS.istore X25.here hx rfl (hb hby at_234) rfl (l' := #[.val (.int x0), .val (.int x1), .val (.long x2), .second, .val (.int x3), .val (.int x4), .val (.int (Int32.ofNat c0)), .val (.int (Int32.ofNat pb)), .val (.ref b1), .val (.int (Int32.ofNat (B + 1))), .val (.long (Int64.ofNat (c0 + 1))), .second, .val (.int (Int32.ofNat (B + 1 + pb))), .val (.int (0 : Int32)), .val (.long ((1 : Int64) <<< ((Int32.ofNat (B + 1 + pb)) &&& 0x3f).toInt64)), .second, .val (.long ff), .second, .val (.int (Int32.ofNat jj)), .val (.long gg), .second, .val (.int (0 : Int32))]) rfl kk_) ?_
      refine Gq.go (T25.setTop (mkF m 238 #[.val (.int x0), .val (.int x1), .val (.long x2), .second, .val (.int x3), .val (.int x4), .val (.int (Int32.ofNat c0)), .val (.int (Int32.ofNat pb)), .val (.ref b1), .val (.int (Int32.ofNat (B + 1))), .val (.long (Int64.ofNat (c0 + 1))), .second, .val (.int (Int32.ofNat (B + 1 + pb))), .val (.int (0 : Int32)), .val (.long ((1 : Int64) <<< ((Int32.ofNat (B + 1 + pb)) &&& 0x3f).toInt64)), .second, .val (.long ff), .second, .val (.int (Int32.ofNat jj)), .val (.long gg), .second, .val (.int (0 : Int32))] [(.int (0 : Int32))])) (fun tt_ kk_ => XS.iload X25.here hx rfl (hb hby at_236) rfl kk_) ?_
      refine Gq.go (T25.setTop (mkF m 240 #[.val (.int x0), .val (.int x1), .val (.long x2), .second, .val (.int x3), .val (.int x4), .val (.int (Int32.ofNat c0)), .val (.int (Int32.ofNat pb)), .val (.ref b1), .val (.int (Int32.ofNat (B + 1))), .val (.long (Int64.ofNat (c0 + 1))), .second, .val (.int (Int32.ofNat (B + 1 + pb))), .val (.int (0 : Int32)), .val (.long ((1 : Int64) <<< ((Int32.ofNat (B + 1 + pb)) &&& 0x3f).toInt64)), .second, .val (.long ff), .second, .val (.int (Int32.ofNat jj)), .val (.long gg), .second, .val (.int (0 : Int32))] [(.int (0 : Int32)), (.int (0 : Int32))])) (fun tt_ kk_ => XS.iload X25.here hx rfl (hb hby at_238) rfl kk_) ?_
      refine Gq.go (T25.setTop (mkF m 243 #[.val (.int x0), .val (.int x1), .val (.long x2), .second, .val (.int x3), .val (.int x4), .val (.int (Int32.ofNat c0)), .val (.int (Int32.ofNat pb)), .val (.ref b1), .val (.int (Int32.ofNat (B + 1))), .val (.long (Int64.ofNat (c0 + 1))), .second, .val (.int (Int32.ofNat (B + 1 + pb))), .val (.int (0 : Int32)), .val (.long ((1 : Int64) <<< ((Int32.ofNat (B + 1 + pb)) &&& 0x3f).toInt64)), .second, .val (.long ff), .second, .val (.int (Int32.ofNat jj)), .val (.long gg), .second, .val (.int (0 : Int32))] [])) (fun tt_ kk_ => XS.icmpNo X25.here hx rfl (hb hby at_240) rfl (teq (by decide : ((0 : Int32) = (0 : Int32)))).2 kk_) ?_
      refine Gq.go (T25.setTop (mkF m 244 #[.val (.int x0), .val (.int x1), .val (.long x2), .second, .val (.int x3), .val (.int x4), .val (.int (Int32.ofNat c0)), .val (.int (Int32.ofNat pb)), .val (.ref b1), .val (.int (Int32.ofNat (B + 1))), .val (.long (Int64.ofNat (c0 + 1))), .second, .val (.int (Int32.ofNat (B + 1 + pb))), .val (.int (0 : Int32)), .val (.long ((1 : Int64) <<< ((Int32.ofNat (B + 1 + pb)) &&& 0x3f).toInt64)), .second, .val (.long ff), .second, .val (.int (Int32.ofNat jj)), .val (.long gg), .second, .val (.int (0 : Int32))] [(.int (1 : Int32))])) (fun tt_ kk_ => XS.iconst X25.here hx rfl (hb hby at_243) kk_) ?_
      refine Gq.go (T25.setTop (mkF m 248 #[.val (.int x0), .val (.int x1), .val (.long x2), .second, .val (.int x3), .val (.int x4), .val (.int (Int32.ofNat c0)), .val (.int (Int32.ofNat pb)), .val (.ref b1), .val (.int (Int32.ofNat (B + 1))), .val (.long (Int64.ofNat (c0 + 1))), .second, .val (.int (Int32.ofNat (B + 1 + pb))), .val (.int (0 : Int32)), .val (.long ((1 : Int64) <<< ((Int32.ofNat (B + 1 + pb)) &&& 0x3f).toInt64)), .second, .val (.long ff), .second, .val (.int (Int32.ofNat jj)), .val (.long gg), .second, .val (.int (0 : Int32))] [(.int (1 : Int32))])) (fun tt_ kk_ => XS.goto X25.here hx rfl (pc0 := 244) (pc' := 248) rfl (hb hby at_244) (by decide) (by decide) kk_) ?_
      refine Gq.retI X25 hx Bd.notSynchronized Bd.returns (by simp) (hb hby at_248) rfl (by decide) (by decide) ?_
      show Q0 Z x0 x1 x2 x3 x4 h0 n0 _ T25.heap _
      rw [eh25]
      exact ⟨rfl, N25⟩
  · refine Gq.go (T15.setTop (mkF m 107 #[.val (.int x0), .val (.int x1), .val (.long x2), .second, .val (.int x3), .val (.int x4), .val (.int (Int32.ofNat c0)), .val (.int (Int32.ofNat pb)), .val (.ref b1), .val (.int (Int32.ofNat (B + 1))), .val (.long (Int64.ofNat (c0 + 1))), .second, .val (.int (Int32.ofNat (B + 1 + pb))), .unset, .unset, .unset, .unset, .unset, .unset, .unset, .unset, .unset] [])) (fun tt_ kk_ => XS.ifNo X15.here hx rfl (hb hby at_104) rfl ((if0 _ _).trans (feq hfl).1) kk_) ?_
    refine Gq.go (T15.setTop (mkF m 108 #[.val (.int x0), .val (.int x1), .val (.long x2), .second, .val (.int x3), .val (.int x4), .val (.int (Int32.ofNat c0)), .val (.int (Int32.ofNat pb)), .val (.ref b1), .val (.int (Int32.ofNat (B + 1))), .val (.long (Int64.ofNat (c0 + 1))), .second, .val (.int (Int32.ofNat (B + 1 + pb))), .unset, .unset, .unset, .unset, .unset, .unset, .unset, .unset, .unset] [(.int (1 : Int32))])) (fun tt_ kk_ => XS.iconst X15.here hx rfl (hb hby at_107) kk_) ?_
    refine Gq.go (T15.setTop (mkF m 112 #[.val (.int x0), .val (.int x1), .val (.long x2), .second, .val (.int x3), .val (.int x4), .val (.int (Int32.ofNat c0)), .val (.int (Int32.ofNat pb)), .val (.ref b1), .val (.int (Int32.ofNat (B + 1))), .val (.long (Int64.ofNat (c0 + 1))), .second, .val (.int (Int32.ofNat (B + 1 + pb))), .unset, .unset, .unset, .unset, .unset, .unset, .unset, .unset, .unset] [(.int (1 : Int32))])) (fun tt_ kk_ => XS.goto X15.here hx rfl (pc0 := 108) (pc' := 112) rfl (hb hby at_108) (by decide) (by decide) kk_) ?_
    refine Gq.go (T15.setTop (mkF m 114 #[.val (.int x0), .val (.int x1), .val (.long x2), .second, .val (.int x3), .val (.int x4), .val (.int (Int32.ofNat c0)), .val (.int (Int32.ofNat pb)), .val (.ref b1), .val (.int (Int32.ofNat (B + 1))), .val (.long (Int64.ofNat (c0 + 1))), .second, .val (.int (Int32.ofNat (B + 1 + pb))), .val (.int (1 : Int32)), .unset, .unset, .unset, .unset, .unset, .unset, .unset, .unset] [])) (fun tt_ kk_ => XS.istore X15.here hx rfl (hb hby at_112) rfl (l' := #[.val (.int x0), .val (.int x1), .val (.long x2), .second, .val (.int x3), .val (.int x4), .val (.int (Int32.ofNat c0)), .val (.int (Int32.ofNat pb)), .val (.ref b1), .val (.int (Int32.ofNat (B + 1))), .val (.long (Int64.ofNat (c0 + 1))), .second, .val (.int (Int32.ofNat (B + 1 + pb))), .val (.int (1 : Int32)), .unset, .unset, .unset, .unset, .unset, .unset, .unset, .unset]) rfl kk_) ?_
    refine Gq.go (T15.setTop (mkF m 115 #[.val (.int x0), .val (.int x1), .val (.long x2), .second, .val (.int x3), .val (.int x4), .val (.int (Int32.ofNat c0)), .val (.int (Int32.ofNat pb)), .val (.ref b1), .val (.int (Int32.ofNat (B + 1))), .val (.long (Int64.ofNat (c0 + 1))), .second, .val (.int (Int32.ofNat (B + 1 + pb))), .val (.int (1 : Int32)), .unset, .unset, .unset, .unset, .unset, .unset, .unset, .unset] [(.long (1 : Int64))])) (fun tt_ kk_ => XS.lconst X15.here hx rfl (hb hby at_114) kk_) ?_
    refine Gq.go (T15.setTop (mkF m 117 #[.val (.int x0), .val (.int x1), .val (.long x2), .second, .val (.int x3), .val (.int x4), .val (.int (Int32.ofNat c0)), .val (.int (Int32.ofNat pb)), .val (.ref b1), .val (.int (Int32.ofNat (B + 1))), .val (.long (Int64.ofNat (c0 + 1))), .second, .val (.int (Int32.ofNat (B + 1 + pb))), .val (.int (1 : Int32)), .unset, .unset, .unset, .unset, .unset, .unset, .unset, .unset] [(.int (Int32.ofNat (B + 1 + pb))), (.long (1 : Int64))])) (fun tt_ kk_ => XS.iload X15.here hx rfl (hb hby at_115) rfl kk_) ?_
    refine Gq.go (T15.setTop (mkF m 118 #[.val (.int x0), .val (.int x1), .val (.long x2), .second, .val (.int x3), .val (.int x4), .val (.int (Int32.ofNat c0)), .val (.int (Int32.ofNat pb)), .val (.ref b1), .val (.int (Int32.ofNat (B + 1))), .val (.long (Int64.ofNat (c0 + 1))), .second, .val (.int (Int32.ofNat (B + 1 + pb))), .val (.int (1 : Int32)), .unset, .unset, .unset, .unset, .unset, .unset, .unset, .unset] [(.long ((1 : Int64) <<< ((Int32.ofNat (B + 1 + pb)) &&& 0x3f).toInt64))])) (fun tt_ kk_ => XS.lshl X15.here hx rfl (hb hby at_117) rfl kk_) ?_
    refine Gq.go (T15.setTop (mkF m 120 #[.val (.int x0), .val (.int x1), .val (.long x2), .second, .val (.int x3), .val (.int x4), .val (.int (Int32.ofNat c0)), .val (.int (Int32.ofNat pb)), .val (.ref b1), .val (.int (Int32.ofNat (B + 1))), .val (.long (Int64.ofNat (c0 + 1))), .second, .val (.int (Int32.ofNat (B + 1 + pb))), .val (.int (1 : Int32)), .val (.long ((1 : Int64) <<< ((Int32.ofNat (B + 1 + pb)) &&& 0x3f).toInt64)), .second, .unset, .unset, .unset, .unset, .unset, .unset] [])) (fun tt_ kk_ => XS.lstore X15.here hx rfl (hb hby at_118) rfl (l' := #[.val (.int x0), .val (.int x1), .val (.long x2), .second, .val (.int x3), .val (.int x4), .val (.int (Int32.ofNat c0)), .val (.int (Int32.ofNat pb)), .val (.ref b1), .val (.int (Int32.ofNat (B + 1))), .val (.long (Int64.ofNat (c0 + 1))), .second, .val (.int (Int32.ofNat (B + 1 + pb))), .val (.int (1 : Int32)), .val (.long ((1 : Int64) <<< ((Int32.ofNat (B + 1 + pb)) &&& 0x3f).toInt64)), .second, .unset, .unset, .unset, .unset, .unset, .unset]) rfl kk_) ?_
    refine Gq.go (T15.setTop (mkF m 122 #[.val (.int x0), .val (.int x1), .val (.long x2), .second, .val (.int x3), .val (.int x4), .val (.int (Int32.ofNat c0)), .val (.int (Int32.ofNat pb)), .val (.ref b1), .val (.int (Int32.ofNat (B + 1))), .val (.long (Int64.ofNat (c0 + 1))), .second, .val (.int (Int32.ofNat (B + 1 + pb))), .val (.int (1 : Int32)), .val (.long ((1 : Int64) <<< ((Int32.ofNat (B + 1 + pb)) &&& 0x3f).toInt64)), .second, .unset, .unset, .unset, .unset, .unset, .unset] [(.int (1 : Int32))])) (fun tt_ kk_ => XS.iload X15.here hx rfl (hb hby at_120) rfl kk_) ?_
    refine Gq.go (T15.setTop (mkF m 125 #[.val (.int x0), .val (.int x1), .val (.long x2), .second, .val (.int x3), .val (.int x4), .val (.int (Int32.ofNat c0)), .val (.int (Int32.ofNat pb)), .val (.ref b1), .val (.int (Int32.ofNat (B + 1))), .val (.long (Int64.ofNat (c0 + 1))), .second, .val (.int (Int32.ofNat (B + 1 + pb))), .val (.int (1 : Int32)), .val (.long ((1 : Int64) <<< ((Int32.ofNat (B + 1 + pb)) &&& 0x3f).toInt64)), .second, .unset, .unset, .unset, .unset, .unset, .unset] [])) (fun tt_ kk_ => XS.ifNo X15.here hx rfl (hb hby at_122) rfl ((if0 _ _).trans (feq (by decide : ¬ ((1 : Int32) = (0 : Int32)))).1) kk_) ?_
    refine Gq.go (T15.setTop (mkF m 126 #[.val (.int x0), .val (.int x1), .val (.long x2), .second, .val (.int x3), .val (.int x4), .val (.int (Int32.ofNat c0)), .val (.int (Int32.ofNat pb)), .val (.ref b1), .val (.int (Int32.ofNat (B + 1))), .val (.long (Int64.ofNat (c0 + 1))), .second, .val (.int (Int32.ofNat (B + 1 + pb))), .val (.int (1 : Int32)), .val (.long ((1 : Int64) <<< ((Int32.ofNat (B + 1 + pb)) &&& 0x3f).toInt64)), .second, .unset, .unset, .unset, .unset, .unset, .unset] [(.long x2)])) (fun tt_ kk_ => XS.lloadN X15.here hx rfl (hb hby at_125) rfl kk_) ?_
    refine Gq.go (T15.setTop (mkF m 128 #[.val (.int x0), .val (.int x1), .val (.long x2), .second, .val (.int x3), .val (.int x4), .val (.int (Int32.ofNat c0)), .val (.int (Int32.ofNat pb)), .val (.ref b1), .val (.int (Int32.ofNat (B + 1))), .val (.long (Int64.ofNat (c0 + 1))), .second, .val (.int (Int32.ofNat (B + 1 + pb))), .val (.int (1 : Int32)), .val (.long ((1 : Int64) <<< ((Int32.ofNat (B + 1 + pb)) &&& 0x3f).toInt64)), .second, .unset, .unset, .unset, .unset, .unset, .unset] [(.long ((1 : Int64) <<< ((Int32.ofNat (B + 1 + pb)) &&& 0x3f).toInt64)), (.long x2)])) (fun tt_ kk_ => XS.lload X15.here hx rfl (hb hby at_126) rfl kk_) ?_
    refine Gq.go (T15.setTop (mkF m 129 #[.val (.int x0), .val (.int x1), .val (.long x2), .second, .val (.int x3), .val (.int x4), .val (.int (Int32.ofNat c0)), .val (.int (Int32.ofNat pb)), .val (.ref b1), .val (.int (Int32.ofNat (B + 1))), .val (.long (Int64.ofNat (c0 + 1))), .second, .val (.int (Int32.ofNat (B + 1 + pb))), .val (.int (1 : Int32)), .val (.long ((1 : Int64) <<< ((Int32.ofNat (B + 1 + pb)) &&& 0x3f).toInt64)), .second, .unset, .unset, .unset, .unset, .unset, .unset] [(.long (x2 ||| ((1 : Int64) <<< ((Int32.ofNat (B + 1 + pb)) &&& 0x3f).toInt64)))])) (fun tt_ kk_ => XS.lor X15.here hx rfl (hb hby at_128) rfl kk_) ?_
    refine Gq.go (T15.setTop (mkF m 140 #[.val (.int x0), .val (.int x1), .val (.long x2), .second, .val (.int x3), .val (.int x4), .val (.int (Int32.ofNat c0)), .val (.int (Int32.ofNat pb)), .val (.ref b1), .val (.int (Int32.ofNat (B + 1))), .val (.long (Int64.ofNat (c0 + 1))), .second, .val (.int (Int32.ofNat (B + 1 + pb))), .val (.int (1 : Int32)), .val (.long ((1 : Int64) <<< ((Int32.ofNat (B + 1 + pb)) &&& 0x3f).toInt64)), .second, .unset, .unset, .unset, .unset, .unset, .unset] [(.long (x2 ||| ((1 : Int64) <<< ((Int32.ofNat (B + 1 + pb)) &&& 0x3f).toInt64)))])) (fun tt_ kk_ => XS.goto X15.here hx rfl (pc0 := 129) (pc' := 140) rfl (hb hby at_129) (by decide) (by decide) kk_) ?_
    refine Gq.go (T15.setTop (mkF m 142 #[.val (.int x0), .val (.int x1), .val (.long x2), .second, .val (.int x3), .val (.int x4), .val (.int (Int32.ofNat c0)), .val (.int (Int32.ofNat pb)), .val (.ref b1), .val (.int (Int32.ofNat (B + 1))), .val (.long (Int64.ofNat (c0 + 1))), .second, .val (.int (Int32.ofNat (B + 1 + pb))), .val (.int (1 : Int32)), .val (.long ((1 : Int64) <<< ((Int32.ofNat (B + 1 + pb)) &&& 0x3f).toInt64)), .second, .val (.long (x2 ||| ((1 : Int64) <<< ((Int32.ofNat (B + 1 + pb)) &&& 0x3f).toInt64))), .second, .unset, .unset, .unset, .unset] [])) (fun tt_ kk_ => XS.lstore X15.here hx rfl (hb hby at_140) rfl (l' := #[.val (.int x0), .val (.int x1), .val (.long x2), .second, .val (.int x3), .val (.int x4), .val (.int (Int32.ofNat c0)), .val (.int (Int32.ofNat pb)), .val (.ref b1), .val (.int (Int32.ofNat (B + 1))), .val (.long (Int64.ofNat (c0 + 1))), .second, .val (.int (Int32.ofNat (B + 1 + pb))), .val (.int (1 : Int32)), .val (.long ((1 : Int64) <<< ((Int32.ofNat (B + 1 + pb)) &&& 0x3f).toInt64)), .second, .val (.long (x2 ||| ((1 : Int64) <<< ((Int32.ofNat (B + 1 + pb)) &&& 0x3f).toInt64))), .second, .unset, .unset, .unset, .unset]) rfl kk_) ?_
    have hf : ((x2 ||| ((1 : Int64) <<< ((Int32.ofNat (B + 1 + pb)) &&& 0x3f).toInt64))).toBitVec.getLsbD (B + 1 + pb) = true := own_f1 x2 (by omega)
    generalize hff : (x2 ||| ((1 : Int64) <<< ((Int32.ofNat (B + 1 + pb)) &&& 0x3f).toInt64)) = ff
    rw [hff] at hf
    refine Gq.go (T15.setTop (mkF m 144 #[.val (.int x0), .val (.int x1), .val (.long x2), .second, .val (.int x3), .val (.int x4), .val (.int (Int32.ofNat c0)), .val (.int (Int32.ofNat pb)), .val (.ref b1), .val (.int (Int32.ofNat (B + 1))), .val (.long (Int64.ofNat (c0 + 1))), .second, .val (.int (Int32.ofNat (B + 1 + pb))), .val (.int (1 : Int32)), .val (.long ((1 : Int64) <<< ((Int32.ofNat (B + 1 + pb)) &&& 0x3f).toInt64)), .second, .val (.long ff), .second, .unset, .unset, .unset, .unset] [(.int x4)])) (fun tt_ kk_ => XS.iload X15.here hx rfl (hb hby at_142) rfl kk_) ?_
    refine Gq.go (T15.setTop (mkF m 146 #[.val (.int x0), .val (.int x1), .val (.long x2), .second, .val (.int x3), .val (.int x4), .val (.int (Int32.ofNat c0)), .val (.int (Int32.ofNat pb)), .val (.ref b1), .val (.int (Int32.ofNat (B + 1))), .val (.long (Int64.ofNat (c0 + 1))), .second, .val (.int (Int32.ofNat (B + 1 + pb))), .val (.int (1 : Int32)), .val (.long ((1 : Int64) <<< ((Int32.ofNat (B + 1 + pb)) &&& 0x3f).toInt64)), .second, .val (.long ff), .second, .unset, .unset, .unset, .unset] [(.int (63 : Int32)), (.int x4)])) (fun tt_ kk_ => XS.bipush X15.here hx rfl (hb hby at_144) kk_) ?_
    refine Gq.go (T15.setTop (mkF m 147 #[.val (.int x0), .val (.int x1), .val (.long x2), .second, .val (.int x3), .val (.int x4), .val (.int (Int32.ofNat c0)), .val (.int (Int32.ofNat pb)), .val (.ref b1), .val (.int (Int32.ofNat (B + 1))), .val (.long (Int64.ofNat (c0 + 1))), .second, .val (.int (Int32.ofNat (B + 1 + pb))), .val (.int (1 : Int32)), .val (.long ((1 : Int64) <<< ((Int32.ofNat (B + 1 + pb)) &&& 0x3f).toInt64)), .second, .val (.long ff), .second, .unset, .unset, .unset, .unset] [(.int (x4 &&& (63 : Int32)))])) (fun tt_ kk_ => XS.iand X15.here hx rfl (hb hby at_146) rfl kk_) ?_
    obtain ⟨jj, hjj, ejj⟩ := own_and x4 63 (by decide)
    rw [show (x4 &&& (63 : Int32)) = (Int32.ofNat jj) from ejj]
    refine Gq.go (T15.setTop (mkF m 149 #[.val (.int x0), .val (.int x1), .val (.long x2), .second, .val (.int x3), .val (.int x4), .val (.int (Int32.ofNat c0)), .val (.int (Int32.ofNat pb)), .val (.ref b1), .val (.int (Int32.ofNat (B + 1))), .val (.long (Int64.ofNat (c0 + 1))), .second, .val (.int (Int32.ofNat (B + 1 + pb))), .val (.int (1 : Int32)), .val (.long ((1 : Int64) <<< ((Int32.ofNat (B + 1 + pb)) &&& 0x3f).toInt64)), .second, .val (.long ff), .second, .val (.int (Int32.ofNat jj)), .unset, .unset, .unset] [])) (fun tt_ kk_ => XS.istore X15.here hx rfl (hb hby at_147) rfl (l' := #[.val (.int x0), .val (.int x1), .val (.long x2), .second, .val (.int x3), .val (.int x4), .val (.int (Int32.ofNat c0)), .val (.int (Int32.ofNat pb)), .val (.ref b1), .val (.int (Int32.ofNat (B + 1))), .val (.long (Int64.ofNat (c0 + 1))), .second, .val (.int (Int32.ofNat (B + 1 + pb))), .val (.int (1 : Int32)), .val (.long ((1 : Int64) <<< ((Int32.ofNat (B + 1 + pb)) &&& 0x3f).toInt64)), .second, .val (.long ff), .second, .val (.int (Int32.ofNat jj)), .unset, .unset, .unset]) rfl kk_) ?_
    refine Gq.go (T15.setTop (mkF m 151 #[.val (.int x0), .val (.int x1), .val (.long x2), .second, .val (.int x3), .val (.int x4), .val (.int (Int32.ofNat c0)), .val (.int (Int32.ofNat pb)), .val (.ref b1), .val (.int (Int32.ofNat (B + 1))), .val (.long (Int64.ofNat (c0 + 1))), .second, .val (.int (Int32.ofNat (B + 1 + pb))), .val (.int (1 : Int32)), .val (.long ((1 : Int64) <<< ((Int32.ofNat (B + 1 + pb)) &&& 0x3f).toInt64)), .second, .val (.long ff), .second, .val (.int (Int32.ofNat jj)), .unset, .unset, .unset] [(.int (Int32.ofNat jj))])) (fun tt_ kk_ => XS.iload X15.here hx rfl (hb hby at_149) rfl kk_) ?_
    refine Gq.go (T15.setTop (mkF m 153 #[.val (.int x0), .val (.int x1), .val (.long x2), .second, .val (.int x3), .val (.int x4), .val (.int (Int32.ofNat c0)), .val (.int (Int32.ofNat pb)), .val (.ref b1), .val (.int (Int32.ofNat (B + 1))), .val (.long (Int64.ofNat (c0 + 1))), .second, .val (.int (Int32.ofNat (B + 1 + pb))), .val (.int (1 : Int32)), .val (.long ((1 : Int64) <<< ((Int32.ofNat (B + 1 + pb)) &&& 0x3f).toInt64)), .second, .val (.long ff), .second, .val (.int (Int32.ofNat jj)), .unset, .unset, .unset] [(.int (Int32.ofNat (B + 1 + pb))), (.int (Int32.ofNat jj))])) (fun tt_ kk_ => XS.iload X15.here hx rfl (hb hby at_151) rfl kk_) ?_
    by_cases hjk : jj = B + 1 + pb
    · refine Gq.go (T15.setTop (mkF m 156 #[.val (.int x0), .val (.int x1), .val (.long x2), .second, .val (.int x3), .val (.int x4), .val (.int (Int32.ofNat c0)), .val (.int (Int32.ofNat pb)), .val (.ref b1), .val (.int (Int32.ofNat (B + 1))), .val (.long (Int64.ofNat (c0 + 1))), .second, .val (.int (Int32.ofNat (B + 1 + pb))), .val (.int (1 : Int32)), .val (.long ((1 : Int64) <<< ((Int32.ofNat (B + 1 + pb)) &&& 0x3f).toInt64)), .second, .val (.long ff), .second, .val (.int (Int32.ofNat jj)), .unset, .unset, .unset] [])) (fun tt_ kk_ => XS.icmpNo X15.here hx rfl (hb hby at_153) rfl (teq (congrArg Int32.ofNat hjk)).2 kk_) ?_
      refine Gq.go (T15.setTop (mkF m 158 #[.val (.int x0), .val (.int x1), .val (.long x2), .second, .val (.int x3), .val (.int x4), .val (.int (Int32.ofNat c0)), .val (.int (Int32.ofNat pb)), .val (.ref b1), .val (.int (Int32.ofNat (B + 1))), .val (.long (Int64.ofNat (c0 + 1))), .second, .val (.int (Int32.ofNat (B + 1 + pb))), .val (.int (1 : Int32)), .val (.long ((1 : Int64) <<< ((Int32.ofNat (B + 1 + pb)) &&& 0x3f).toInt64)), .second, .val (.long ff), .second, .val (.int (Int32.ofNat jj)), .unset, .unset, .unset] [(.long ff)])) (fun tt_ kk_ => XS.lload X15.here hx rfl (hb hby at_156) rfl kk_) ?_
      refine Gq.go (T15.setTop (mkF m 168 #[.val (.int x0), .val (.int x1), .val (.long x2), .second, .val (.int x3), .val (.int x4), .val (.int (Int32.ofNat c0)), .val (.int (Int32.ofNat pb)), .val (.ref b1), .val (.int (Int32.ofNat (B + 1))), .val (.long (Int64.ofNat (c0 + 1))), .second, .val (.int (Int32.ofNat (B + 1 + pb))), .val (.int (1 : Int32)), .val (.long ((1 : Int64) <<< ((Int32.ofNat (B + 1 + pb)) &&& 0x3f).toInt64)), .second, .val (.long ff), .second, .val (.int (Int32.ofNat jj)), .unset, .unset, .unset] [(.long ff)])) (fun tt_ kk_ => XS.goto X15.here hx rfl (pc0 := 158) (pc' := 168) rfl (hb hby at_158) (by decide) (by decide) kk_) ?_
      refine Gq.go (T15.setTop (mkF m 170 #[.val (.int x0), .val (.int x1), .val (.long x2), .second, .val (.int x3), .val (.int x4), .val (.int (Int32.ofNat c0)), .val (.int (Int32.ofNat pb)), .val (.ref b1), .val (.int (Int32.ofNat (B + 1))), .val (.long (Int64.ofNat (c0 + 1))), .second, .val (.int (Int32.ofNat (B + 1 + pb))), .val (.int (1 : Int32)), .val (.long ((1 : Int64) <<< ((Int32.ofNat (B + 1 + pb)) &&& 0x3f).toInt64)), .second, .val (.long ff), .second, .val (.int (Int32.ofNat jj)), .val (.long ff), .second, .unset] [])) (fun tt_ kk_ => XS.lstore X15.here hx rfl (hb hby at_168) rfl (l' := #[.val (.int x0), .val (.int x1), .val (.long x2), .second, .val (.int x3), .val (.int x4), .val (.int (Int32.ofNat c0)), .val (.int (Int32.ofNat pb)), .val (.ref b1), .val (.int (Int32.ofNat (B + 1))), .val (.long (Int64.ofNat (c0 + 1))), .second, .val (.int (Int32.ofNat (B + 1 + pb))), .val (.int (1 : Int32)), .val (.long ((1 : Int64) <<< ((Int32.ofNat (B + 1 + pb)) &&& 0x3f).toInt64)), .second, .val (.long ff), .second, .val (.int (Int32.ofNat jj)), .val (.long ff), .second, .unset]) rfl kk_) ?_
      have hg : (ff).toBitVec.getLsbD (B + 1 + pb) = true := hf
      refine Gq.go (T15.setTop (mkF m 172 #[.val (.int x0), .val (.int x1), .val (.long x2), .second, .val (.int x3), .val (.int x4), .val (.int (Int32.ofNat c0)), .val (.int (Int32.ofNat pb)), .val (.ref b1), .val (.int (Int32.ofNat (B + 1))), .val (.long (Int64.ofNat (c0 + 1))), .second, .val (.int (Int32.ofNat (B + 1 + pb))), .val (.int (1 : Int32)), .val (.long ((1 : Int64) <<< ((Int32.ofNat (B + 1 + pb)) &&& 0x3f).toInt64)), .second, .val (.long ff), .second, .val (.int (Int32.ofNat jj)), .val (.long ff), .second, .unset] [(.ref b1)])) (fun tt_ kk_ => XS.aload X15.here hx rfl (hb hby at_170) rfl rfl kk_) ?_
      refine Gq.go (T15.setTop (mkF m 174 #[.val (.int x0), .val (.int x1), .val (.long x2), .second, .val (.int x3), .val (.int x4), .val (.int (Int32.ofNat c0)), .val (.int (Int32.ofNat pb)), .val (.ref b1), .val (.int (Int32.ofNat (B + 1))), .val (.long (Int64.ofNat (c0 + 1))), .second, .val (.int (Int32.ofNat (B + 1 + pb))), .val (.int (1 : Int32)), .val (.long ((1 : Int64) <<< ((Int32.ofNat (B + 1 + pb)) &&& 0x3f).toInt64)), .second, .val (.long ff), .second, .val (.int (Int32.ofNat jj)), .val (.long ff), .second, .unset] [(.long ff), (.ref b1)])) (fun tt_ kk_ => XS.lload X15.here hx rfl (hb hby at_172) rfl kk_) ?_
      obtain ⟨r26, T26, L26, X26, hQ26, st26⟩ := callV (pc := 174) (Ls := #[.val (.int x0), .val (.int x1), .val (.long x2), .second, .val (.int x3), .val (.int x4), .val (.int (Int32.ofNat c0)), .val (.int (Int32.ofNat pb)), .val (.ref b1), .val (.int (Int32.ofNat (B + 1))), .val (.long (Int64.ofNat (c0 + 1))), .second, .val (.int (Int32.ofNat (B + 1 + pb))), .val (.int (1 : Int32)), .val (.long ((1 : Int64) <<< ((Int32.ofNat (B + 1 + pb)) &&& 0x3f).toInt64)), .second, .val (.long ff), .second, .val (.int (Int32.ofNat jj)), .val (.long ff), .second, .unset]) X15 hx hZ hown eh15 b1 [(.long ff)] [] fa4 (hw _ (List.mem_of_getElem? (i := 50) rfl)) (hw _ (List.mem_of_getElem? (i := 51) rfl)) (hw _ (List.mem_of_getElem? (i := 53) rfl)) (hw _ (List.mem_of_getElem? (i := 52) rfl)) (hw _ (List.mem_of_getElem? (i := 3) rfl)) (hw _ (List.mem_of_getElem? (i := 54) rfl)) (by decide) (rm9 l Z a0 hw [] b1 ff (Int32.ofNat (B + 1)) (Int32.ofNat pb) T3.heap n0 za13 c3_0 c3_1) pd_4 rfl (by rw [hml]; rfl) (W := 0) (Nat.le_of_eq rfl) (by decide) (by decide) (by decide) (by decide) (hb hby at_174)
      obtain ⟨rfl, N26q, eh26⟩ := hQ26
      have N26 := Fr.app N15 N26q
      refine Gq.go (T26.setTop (mkF m 177 #[.val (.int x0), .val (.int x1), .val (.long x2), .second, .val (.int x3), .val (.int x4), .val (.int (Int32.ofNat c0)), .val (.int (Int32.ofNat pb)), .val (.ref b1), .val (.int (Int32.ofNat (B + 1))), .val (.long (Int64.ofNat (c0 + 1))), .second, .val (.int (Int32.ofNat (B + 1 + pb))), .val (.int (1 : Int32)), .val (.long ((1 : Int64) <<< ((Int32.ofNat (B + 1 + pb)) &&& 0x3f).toInt64)), .second, .val (.long ff), .second, .val (.int (Int32.ofNat jj)), .val (.long ff), .second, .unset] [(.int (own_isv ff (Int32.ofNat (B + 1)) (Int32.ofNat pb)))])) (fun tt_ kk_ => st26 tt_ kk_) ?_
      refine Gq.go (T26.setTop (mkF m 179 #[.val (.int x0), .val (.int x1), .val (.long x2), .second, .val (.int x3), .val (.int x4), .val (.int (Int32.ofNat c0)), .val (.int (Int32.ofNat pb)), .val (.ref b1), .val (.int (Int32.ofNat (B + 1))), .val (.long (Int64.ofNat (c0 + 1))), .second, .val (.int (Int32.ofNat (B + 1 + pb))), .val (.int (1 : Int32)), .val (.long ((1 : Int64) <<< ((Int32.ofNat (B + 1 + pb)) &&& 0x3f).toInt64)), .second, .val (.long ff), .second, .val (.int (Int32.ofNat jj)), .val (.long ff), .second, .unset] [(.int (1 : Int32)), (.int (own_isv ff (Int32.ofNat (B + 1)) (Int32.ofNat pb)))])) (fun tt_ kk_ => XS.iload X26.here hx rfl (hb hby at_177) rfl kk_) ?_
      refine Gq.go (T26.setTop (mkF m 184 #[.val (.int x0), .val (.int x1), .val (.long x2), .second, .val (.int x3), .val (.int x4), .val (.int (Int32.ofNat c0)), .val (.int (Int32.ofNat pb)), .val (.ref b1), .val (.int (Int32.ofNat (B + 1))), .val (.long (Int64.ofNat (c0 + 1))), .second, .val (.int (Int32.ofNat (B + 1 + pb))), .val (.int (1 : Int32)), .val (.long ((1 : Int64) <<< ((Int32.ofNat (B + 1 + pb)) &&& 0x3f).toInt64)), .second, .val (.long ff), .second, .val (.int (Int32.ofNat jj)), .val (.long ff), .second, .unset] [])) (fun tt_ kk_ => XS.icmpYes X26.here hx rfl (pc0 := 179) (pc' := 184) rfl (hb hby at_179) rfl (teq (own_isv1 hf (by omega))).1 (by decide) (by decide) kk_) ?_
      refine Gq.go (T26.setTop (mkF m 186 #[.val (.int x0), .val (.int x1), .val (.long x2), .second, .val (.int x3), .val (.int x4), .val (.int (Int32.ofNat c0)), .val (.int (Int32.ofNat pb)), .val (.ref b1), .val (.int (Int32.ofNat (B + 1))), .val (.long (Int64.ofNat (c0 + 1))), .second, .val (.int (Int32.ofNat (B + 1 + pb))), .val (.int (1 : Int32)), .val (.long ((1 : Int64) <<< ((Int32.ofNat (B + 1 + pb)) &&& 0x3f).toInt64)), .second, .val (.long ff), .second, .val (.int (Int32.ofNat jj)), .val (.long ff), .second, .unset] [(.ref b1)])) (fun tt_ kk_ => XS.aload X26.here hx rfl (hb hby at_184) rfl rfl kk_) ?_
      refine Gq.go (T26.setTop (mkF m 188 #[.val (.int x0), .val (.int x1), .val (.long x2), .second, .val (.int x3), .val (.int x4), .val (.int (Int32.ofNat c0)), .val (.int (Int32.ofNat pb)), .val (.ref b1), .val (.int (Int32.ofNat (B + 1))), .val (.long (Int64.ofNat (c0 + 1))), .second, .val (.int (Int32.ofNat (B + 1 + pb))), .val (.int (1 : Int32)), .val (.long ((1 : Int64) <<< ((Int32.ofNat (B + 1 + pb)) &&& 0x3f).toInt64)), .second, .val (.long ff), .second, .val (.int (Int32.ofNat jj)), .val (.long ff), .second, .unset] [(.long ff), (.ref b1)])) (fun tt_ kk_ => XS.lload X26.here hx rfl (hb hby at_186) rfl kk_) ?_
      obtain ⟨r27, T27, L27, X27, hQ27, st27⟩ := callV (pc := 188) (Ls := #[.val (.int x0), .val (.int x1), .val (.long x2), .second, .val (.int x3), .val (.int x4), .val (.int (Int32.ofNat c0)), .val (.int (Int32.ofNat pb)), .val (.ref b1), .val (.int (Int32.ofNat (B + 1))), .val (.long (Int64.ofNat (c0 + 1))), .second, .val (.int (Int32.ofNat (B + 1 + pb))), .val (.int (1 : Int32)), .val (.long ((1 : Int64) <<< ((Int32.ofNat (B + 1 + pb)) &&& 0x3f).toInt64)), .second, .val (.long ff), .second, .val (.int (Int32.ofNat jj)), .val (.long ff), .second, .unset]) X26 hx hZ hown eh26 b1 [(.long ff)] [] fa4 (hw _ (List.mem_of_getElem? (i := 50) rfl)) (hw _ (List.mem_of_getElem? (i := 51) rfl)) (hw _ (List.mem_of_getElem? (i := 53) rfl)) (hw _ (List.mem_of_getElem? (i := 52) rfl)) (hw _ (List.mem_of_getElem? (i := 3) rfl)) (hw _ (List.mem_of_getElem? (i := 54) rfl)) (by decide) (rm9 l Z a0 hw [] b1 ff (Int32.ofNat (B + 1)) (Int32.ofNat pb) T3.heap n0 za13 c3_0 c3_1) pd_4 rfl (by rw [hml]; rfl) (W := 0) (Nat.le_of_eq rfl) (by decide) (by decide) (by decide) (by decide) (hb hby at_188)
      obtain ⟨rfl, N27q, eh27⟩ := hQ27
      have N27 := Fr.app N26 N27q
      refine Gq.go (T27.setTop (mkF m 191 #[.val (.int x0), .val (.int x1), .val (.long x2), .second, .val (.int x3), .val (.int x4), .val (.int (Int32.ofNat c0)), .val (.int (Int32.ofNat pb)), .val (.ref b1), .val (.int (Int32.ofNat (B + 1))), .val (.long (Int64.ofNat (c0 + 1))), .second, .val (.int (Int32.ofNat (B + 1 + pb))), .val (.int (1 : Int32)), .val (.long ((1 : Int64) <<< ((Int32.ofNat (B + 1 + pb)) &&& 0x3f).toInt64)), .second, .val (.long ff), .second, .val (.int (Int32.ofNat jj)), .val (.long ff), .second, .unset] [(.int (own_isv ff (Int32.ofNat (B + 1)) (Int32.ofNat pb)))])) (fun tt_ kk_ => st27 tt_ kk_) ?_
      refine Gq.go (T27.setTop (mkF m 193 #[.val (.int x0), .val (.int x1), .val (.long x2), .second, .val (.int x3), .val (.int x4), .val (.int (Int32.ofNat c0)), .val (.int (Int32.ofNat pb)), .val (.ref b1), .val (.int (Int32.ofNat (B + 1))), .val (.long (Int64.ofNat (c0 + 1))), .second, .val (.int (Int32.ofNat (B + 1 + pb))), .val (.int (1 : Int32)), .val (.long ((1 : Int64) <<< ((Int32.ofNat (B + 1 + pb)) &&& 0x3f).toInt64)), .second, .val (.long ff), .second, .val (.int (Int32.ofNat jj)), .val (.long ff), .second, .unset] [(.int (1 : Int32)), (.int (own_isv ff (Int32.ofNat (B + 1)) (Int32.ofNat pb)))])) (fun tt_ kk_ => XS.iload X27.here hx rfl (hb hby at_191) rfl kk_) ?_
      refine Gq.go (T27.setTop (mkF m 198 #[.val (.int x0), .val (.int x1), .val (.long x2), .second, .val (.int x3), .val (.int x4), .val (.int (Int32.ofNat c0)), .val (.int (Int32.ofNat pb)), .val (.ref b1), .val (.int (Int32.ofNat (B + 1))), .val (.long (Int64.ofNat (c0 + 1))), .second, .val (.int (Int32.ofNat (B + 1 + pb))), .val (.int (1 : Int32)), .val (.long ((1 : Int64) <<< ((Int32.ofNat (B + 1 + pb)) &&& 0x3f).toInt64)), .second, .val (.long ff), .second, .val (.int (Int32.ofNat jj)), .val (.long ff), .second, .unset] [])) (fun tt_ kk_ => XS.icmpYes X27.here hx rfl (pc0 := 193) (pc' := 198) rfl (hb hby at_193) rfl (teq (own_isv1 hg (by omega))).1 (by decide) (by decide) kk_) ?_
      refine Gq.go (T27.setTop (mkF m 200 #[.val (.int x0), .val (.int x1), .val (.long x2), .second, .val (.int x3), .val (.int x4), .val (.int (Int32.ofNat c0)), .val (.int (Int32.ofNat pb)), .val (.ref b1), .val (.int (Int32.ofNat (B + 1))), .val (.long (Int64.ofNat (c0 + 1))), .second, .val (.int (Int32.ofNat (B + 1 + pb))), .val (.int (1 : Int32)), .val (.long ((1 : Int64) <<< ((Int32.ofNat (B + 1 + pb)) &&& 0x3f).toInt64)), .second, .val (.long ff), .second, .val (.int (Int32.ofNat jj)), .val (.long ff), .second, .unset] [(.ref b1)])) (fun tt_ kk_ => XS.aload X27.here hx rfl (hb hby at_198) rfl rfl kk_) ?_
      obtain ⟨r28, T28, L28, X28, hQ28, st28⟩ := callV (pc := 200) (Ls := #[.val (.int x0), .val (.int x1), .val (.long x2), .second, .val (.int x3), .val (.int x4), .val (.int (Int32.ofNat c0)), .val (.int (Int32.ofNat pb)), .val (.ref b1), .val (.int (Int32.ofNat (B + 1))), .val (.long (Int64.ofNat (c0 + 1))), .second, .val (.int (Int32.ofNat (B + 1 + pb))), .val (.int (1 : Int32)), .val (.long ((1 : Int64) <<< ((Int32.ofNat (B + 1 + pb)) &&& 0x3f).toInt64)), .second, .val (.long ff), .second, .val (.int (Int32.ofNat jj)), .val (.long ff), .second, .unset]) X27 hx hZ hown eh27 b1 [] [] fa4 (hw _ (List.mem_of_getElem? (i := 55) rfl)) (hw _ (List.mem_of_getElem? (i := 56) rfl)) (hw _ (List.mem_of_getElem? (i := 58) rfl)) (hw _ (List.mem_of_getElem? (i := 57) rfl)) (hw _ (List.mem_of_getElem? (i := 3) rfl)) (hw _ (List.mem_of_getElem? (i := 59) rfl)) (by decide) (rm10 l Z a0 hw [] b1 ((1 : Int64) <<< ((Int32.ofNat pb) &&& 0x3f).toInt64) T3.heap n0 za13 c3_3) pd_5 rfl (by rw [hml]; rfl) (W := 0) (Nat.le_of_eq rfl) (by decide) (by decide) (by decide) (by decide) (hb hby at_200)
      obtain ⟨rfl, N28q, eh28⟩ := hQ28
      have N28 := Fr.app N27 N28q
      refine Gq.go (T28.setTop (mkF m 203 #[.val (.int x0), .val (.int x1), .val (.long x2), .second, .val (.int x3), .val (.int x4), .val (.int (Int32.ofNat c0)), .val (.int (Int32.ofNat pb)), .val (.ref b1), .val (.int (Int32.ofNat (B + 1))), .val (.long (Int64.ofNat (c0 + 1))), .second, .val (.int (Int32.ofNat (B + 1 + pb))), .val (.int (1 : Int32)), .val (.long ((1 : Int64) <<< ((Int32.ofNat (B + 1 + pb)) &&& 0x3f).toInt64)), .second, .val (.long ff), .second, .val (.int (Int32.ofNat jj)), .val (.long ff), .second, .unset] [(.long ((1 : Int64) <<< ((Int32.ofNat pb) &&& 0x3f).toInt64))])) (fun tt_ kk_ => st28 tt_ kk_) ?_
      refine Gq.go (T28.setTop (mkF m 204 #[.val (.int x0), .val (.int x1), .val (.long x2), .second, .val (.int x3), .val (.int x4), .val (.int (Int32.ofNat c0)), .val (.int (Int32.ofNat pb)), .val (.ref b1), .val (.int (Int32.ofNat (B + 1))), .val (.long (Int64.ofNat (c0 + 1))), .second, .val (.int (Int32.ofNat (B + 1 + pb))), .val (.int (1 : Int32)), .val (.long ((1 : Int64) <<< ((Int32.ofNat (B + 1 + pb)) &&& 0x3f).toInt64)), .second, .val (.long ff), .second, .val (.int (Int32.ofNat jj)), .val (.long ff), .second, .unset] [(.long (1 : Int64)), (.long ((1 : Int64) <<< ((Int32.ofNat pb) &&& 0x3f).toInt64))])) (fun tt_ kk_ => XS.lconst X28.here hx rfl (hb hby at_203) kk_) ?_
      refine Gq.go (T28.setTop (mkF m 206 #[.val (.int x0), .val (.int x1), .val (.long x2), .second, .val (.int x3), .val (.int x4), .val (.int (Int32.ofNat c0)), .val (.int (Int32.ofNat pb)), .val (.ref b1), .val (.int (Int32.ofNat (B + 1))), .val (.long (Int64.ofNat (c0 + 1))), .second, .val (.int (Int32.ofNat (B + 1 + pb))), .val (.int (1 : Int32)), .val (.long ((1 : Int64) <<< ((Int32.ofNat (B + 1 + pb)) &&& 0x3f).toInt64)), .second, .val (.long ff), .second, .val (.int (Int32.ofNat jj)), .val (.long ff), .second, .unset] [(.int (Int32.ofNat pb)), (.long (1 : Int64)), (.long ((1 : Int64) <<< ((Int32.ofNat pb) &&& 0x3f).toInt64))])) (fun tt_ kk_ => XS.iload X28.here hx rfl (hb hby at_204) rfl kk_) ?_
      refine Gq.go (T28.setTop (mkF m 207 #[.val (.int x0), .val (.int x1), .val (.long x2), .second, .val (.int x3), .val (.int x4), .val (.int (Int32.ofNat c0)), .val (.int (Int32.ofNat pb)), .val (.ref b1), .val (.int (Int32.ofNat (B + 1))), .val (.long (Int64.ofNat (c0 + 1))), .second, .val (.int (Int32.ofNat (B + 1 + pb))), .val (.int (1 : Int32)), .val (.long ((1 : Int64) <<< ((Int32.ofNat (B + 1 + pb)) &&& 0x3f).toInt64)), .second, .val (.long ff), .second, .val (.int (Int32.ofNat jj)), .val (.long ff), .second, .unset] [(.long ((1 : Int64) <<< ((Int32.ofNat pb) &&& 0x3f).toInt64)), (.long ((1 : Int64) <<< ((Int32.ofNat pb) &&& 0x3f).toInt64))])) (fun tt_ kk_ => XS.lshl X28.here hx rfl (hb hby at_206) rfl kk_) ?_
      refine Gq.go (T28.setTop (mkF m 208 #[.val (.int x0), .val (.int x1), .val (.long x2), .second, .val (.int x3), .val (.int x4), .val (.int (Int32.ofNat c0)), .val (.int (Int32.ofNat pb)), .val (.ref b1), .val (.int (Int32.ofNat (B + 1))), .val (.long (Int64.ofNat (c0 + 1))), .second, .val (.int (Int32.ofNat (B + 1 + pb))), .val (.int (1 : Int32)), .val (.long ((1 : Int64) <<< ((Int32.ofNat (B + 1 + pb)) &&& 0x3f).toInt64)), .second, .val (.long ff), .second, .val (.int (Int32.ofNat jj)), .val (.long ff), .second, .unset] [(.int (lcmpW ((1 : Int64) <<< ((Int32.ofNat pb) &&& 0x3f).toInt64) ((1 : Int64) <<< ((Int32.ofNat pb) &&& 0x3f).toInt64)))])) (fun tt_ kk_ => XS.lcmp X28.here hx rfl (hb hby at_207) rfl kk_) ?_
      refine Gq.go (T28.setTop (mkF m 213 #[.val (.int x0), .val (.int x1), .val (.long x2), .second, .val (.int x3), .val (.int x4), .val (.int (Int32.ofNat c0)), .val (.int (Int32.ofNat pb)), .val (.ref b1), .val (.int (Int32.ofNat (B + 1))), .val (.long (Int64.ofNat (c0 + 1))), .second, .val (.int (Int32.ofNat (B + 1 + pb))), .val (.int (1 : Int32)), .val (.long ((1 : Int64) <<< ((Int32.ofNat (B + 1 + pb)) &&& 0x3f).toInt64)), .second, .val (.long ff), .second, .val (.int (Int32.ofNat jj)), .val (.long ff), .second, .unset] [])) (fun tt_ kk_ => XS.ifYes X28.here hx rfl (pc0 := 208) (pc' := 213) rfl (hb hby at_208) rfl ((if0 _ _).trans (teq ((lw_eq _ _).mpr rfl)).1) (by decide) (by decide) kk_) ?_
      refine Gq.go (T28.setTop (mkF m 215 #[.val (.int x0), .val (.int x1), .val (.long x2), .second, .val (.int x3), .val (.int x4), .val (.int (Int32.ofNat c0)), .val (.int (Int32.ofNat pb)), .val (.ref b1), .val (.int (Int32.ofNat (B + 1))), .val (.long (Int64.ofNat (c0 + 1))), .second, .val (.int (Int32.ofNat (B + 1 + pb))), .val (.int (1 : Int32)), .val (.long ((1 : Int64) <<< ((Int32.ofNat (B + 1 + pb)) &&& 0x3f).toInt64)), .second, .val (.long ff), .second, .val (.int (Int32.ofNat jj)), .val (.long ff), .second, .unset] [(.ref b1)])) (fun tt_ kk_ => XS.aload X28.here hx rfl (hb hby at_213) rfl rfl kk_) ?_
      refine Gq.go (T28.setTop (mkF m 217 #[.val (.int x0), .val (.int x1), .val (.long x2), .second, .val (.int x3), .val (.int x4), .val (.int (Int32.ofNat c0)), .val (.int (Int32.ofNat pb)), .val (.ref b1), .val (.int (Int32.ofNat (B + 1))), .val (.long (Int64.ofNat (c0 + 1))), .second, .val (.int (Int32.ofNat (B + 1 + pb))), .val (.int (1 : Int32)), .val (.long ((1 : Int64) <<< ((Int32.ofNat (B + 1 + pb)) &&& 0x3f).toInt64)), .second, .val (.long ff), .second, .val (.int (Int32.ofNat jj)), .val (.long ff), .second, .unset] [(.long ff), (.ref b1)])) (fun tt_ kk_ => XS.lload X28.here hx rfl (hb hby at_215) rfl kk_) ?_
      obtain ⟨r29, T29, L29, X29, hQ29, st29⟩ := callV (pc := 217) (Ls := #[.val (.int x0), .val (.int x1), .val (.long x2), .second, .val (.int x3), .val (.int x4), .val (.int (Int32.ofNat c0)), .val (.int (Int32.ofNat pb)), .val (.ref b1), .val (.int (Int32.ofNat (B + 1))), .val (.long (Int64.ofNat (c0 + 1))), .second, .val (.int (Int32.ofNat (B + 1 + pb))), .val (.int (1 : Int32)), .val (.long ((1 : Int64) <<< ((Int32.ofNat (B + 1 + pb)) &&& 0x3f).toInt64)), .second, .val (.long ff), .second, .val (.int (Int32.ofNat jj)), .val (.long ff), .second, .unset]) X28 hx hZ hown eh28 b1 [(.long ff)] [] fa4 (hw _ (List.mem_of_getElem? (i := 60) rfl)) (hw _ (List.mem_of_getElem? (i := 61) rfl)) (hw _ (List.mem_of_getElem? (i := 63) rfl)) (hw _ (List.mem_of_getElem? (i := 62) rfl)) (hw _ (List.mem_of_getElem? (i := 3) rfl)) (hw _ (List.mem_of_getElem? (i := 64) rfl)) (by decide) (rm11 l Z a0 hw [] b1 ff (Int32.ofNat (B + 1)) (((1 : Int64) <<< (((Int32.ofNat pb) + (1 : Int32)) &&& 0x3f).toInt64) - (1 : Int64)) T3.heap n0 za13 c3_0 c3_2) pd_6 rfl (by rw [hml]; rfl) (W := 0) (Nat.le_of_eq rfl) (by decide) (by decide) (by decide) (by decide) (hb hby at_217)
      obtain ⟨rfl, N29q, eh29⟩ := hQ29
      have N29 := Fr.app N28 N29q
      refine Gq.go (T29.setTop (mkF m 220 #[.val (.int x0), .val (.int x1), .val (.long x2), .second, .val (.int x3), .val (.int x4), .val (.int (Int32.ofNat c0)), .val (.int (Int32.ofNat pb)), .val (.ref b1), .val (.int (Int32.ofNat (B + 1))), .val (.long (Int64.ofNat (c0 + 1))), .second, .val (.int (Int32.ofNat (B + 1 + pb))), .val (.int (1 : Int32)), .val (.long ((1 : Int64) <<< ((Int32.ofNat (B + 1 + pb)) &&& 0x3f).toInt64)), .second, .val (.long ff), .second, .val (.int (Int32.ofNat jj)), .val (.long ff), .second, .unset] [(.long (((ff.toUInt64 >>> ((Int32.ofNat (B + 1)) &&& 0x3f).toInt64.toUInt64).toInt64) &&& (((1 : Int64) <<< (((Int32.ofNat pb) + (1 : Int32)) &&& 0x3f).toInt64) - (1 : Int64))))])) (fun tt_ kk_ => st29 tt_ kk_) ?_
      refine Gq.go (T29.setTop (mkF m 222 #[.val (.int x0), .val (.int x1), .val (.long x2), .second, .val (.int x3), .val (.int x4), .val (.int (Int32.ofNat c0)), .val (.int (Int32.ofNat pb)), .val (.ref b1), .val (.int (Int32.ofNat (B + 1))), .val (.long (Int64.ofNat (c0 + 1))), .second, .val (.int (Int32.ofNat (B + 1 + pb))), .val (.int (1 : Int32)), .val (.long ((1 : Int64) <<< ((Int32.ofNat (B + 1 + pb)) &&& 0x3f).toInt64)), .second, .val (.long ff), .second, .val (.int (Int32.ofNat jj)), .val (.long ff), .second, .unset] [(.ref b1), (.long (((ff.toUInt64 >>> ((Int32.ofNat (B + 1)) &&& 0x3f).toInt64.toUInt64).toInt64) &&& (((1 : Int64) <<< (((Int32.ofNat pb) + (1 : Int32)) &&& 0x3f).toInt64) - (1 : Int64))))])) (fun tt_ kk_ => XS.aload X29.here hx rfl (hb hby at_220) rfl rfl kk_) ?_
      obtain ⟨r30, T30, L30, X30, hQ30, st30⟩ := callV (pc := 222) (Ls := #[.val (.int x0), .val (.int x1), .val (.long x2), .second, .val (.int x3), .val (.int x4), .val (.int (Int32.ofNat c0)), .val (.int (Int32.ofNat pb)), .val (.ref b1), .val (.int (Int32.ofNat (B + 1))), .val (.long (Int64.ofNat (c0 + 1))), .second, .val (.int (Int32.ofNat (B + 1 + pb))), .val (.int (1 : Int32)), .val (.long ((1 : Int64) <<< ((Int32.ofNat (B + 1 + pb)) &&& 0x3f).toInt64)), .second, .val (.long ff), .second, .val (.int (Int32.ofNat jj)), .val (.long ff), .second, .unset]) X29 hx hZ hown eh29 b1 [] [(.long (((ff.toUInt64 >>> ((Int32.ofNat (B + 1)) &&& 0x3f).toInt64.toUInt64).toInt64) &&& (((1 : Int64) <<< (((Int32.ofNat pb) + (1 : Int32)) &&& 0x3f).toInt64) - (1 : Int64))))] fa4 (hw _ (List.mem_of_getElem? (i := 55) rfl)) (hw _ (List.mem_of_getElem? (i := 56) rfl)) (hw _ (List.mem_of_getElem? (i := 58) rfl)) (hw _ (List.mem_of_getElem? (i := 57) rfl)) (hw _ (List.mem_of_getElem? (i := 3) rfl)) (hw _ (List.mem_of_getElem? (i := 59) rfl)) (by decide) (rm10 l Z a0 hw [] b1 ((1 : Int64) <<< ((Int32.ofNat pb) &&& 0x3f).toInt64) T3.heap n0 za13 c3_3) pd_5 rfl (by rw [hml]; rfl) (W := 2) (Nat.le_of_eq rfl) (by decide) (by decide) (by decide) (by decide) (hb hby at_222)
      obtain ⟨rfl, N30q, eh30⟩ := hQ30
      have N30 := Fr.app N29 N30q
      refine Gq.go (T30.setTop (mkF m 225 #[.val (.int x0), .val (.int x1), .val (.long x2), .second, .val (.int x3), .val (.int x4), .val (.int (Int32.ofNat c0)), .val (.int (Int32.ofNat pb)), .val (.ref b1), .val (.int (Int32.ofNat (B + 1))), .val (.long (Int64.ofNat (c0 + 1))), .second, .val (.int (Int32.ofNat (B + 1 + pb))), .val (.int (1 : Int32)), .val (.long ((1 : Int64) <<< ((Int32.ofNat (B + 1 + pb)) &&& 0x3f).toInt64)), .second, .val (.long ff), .second, .val (.int (Int32.ofNat jj)), .val (.long ff), .second, .unset] [(.long ((1 : Int64) <<< ((Int32.ofNat pb) &&& 0x3f).toInt64)), (.long (((ff.toUInt64 >>> ((Int32.ofNat (B + 1)) &&& 0x3f).toInt64.toUInt64).toInt64) &&& (((1 : Int64) <<< (((Int32.ofNat pb) + (1 : Int32)) &&& 0x3f).toInt64) - (1 : Int64))))])) (fun tt_ kk_ => st30 tt_ kk_) ?_
      refine Gq.go (T30.setTop (mkF m 226 #[.val (.int x0), .val (.int x1), .val (.long x2), .second, .val (.int x3), .val (.int x4), .val (.int (Int32.ofNat c0)), .val (.int (Int32.ofNat pb)), .val (.ref b1), .val (.int (Int32.ofNat (B + 1))), .val (.long (Int64.ofNat (c0 + 1))), .second, .val (.int (Int32.ofNat (B + 1 + pb))), .val (.int (1 : Int32)), .val (.long ((1 : Int64) <<< ((Int32.ofNat (B + 1 + pb)) &&& 0x3f).toInt64)), .second, .val (.long ff), .second, .val (.int (Int32.ofNat jj)), .val (.long ff), .second, .unset] [(.int (lcmpW (((ff.toUInt64 >>> ((Int32.ofNat (B + 1)) &&& 0x3f).toInt64.toUInt64).toInt64) &&& (((1 : Int64) <<< (((Int32.ofNat pb) + (1 : Int32)) &&& 0x3f).toInt64) - (1 : Int64))) ((1 : Int64) <<< ((Int32.ofNat pb) &&& 0x3f).toInt64)))])) (fun tt_ kk_ => XS.lcmp X30.here hx rfl (hb hby at_225) rfl kk_) ?_
      refine Gq.go (T30.setTop (mkF m 229 #[.val (.int x0), .val (.int x1), .val (.long x2), .second, .val (.int x3), .val (.int x4), .val (.int (Int32.ofNat c0)), .val (.int (Int32.ofNat pb)), .val (.ref b1), .val (.int (Int32.ofNat (B + 1))), .val (.long (Int64.ofNat (c0 + 1))), .second, .val (.int (Int32.ofNat (B + 1 + pb))), .val (.int (1 : Int32)), .val (.long ((1 : Int64) <<< ((Int32.ofNat (B + 1 + pb)) &&& 0x3f).toInt64)), .second, .val (.long ff), .second, .val (.int (Int32.ofNat jj)), .val (.long ff), .second, .unset] [])) (fun tt_ kk_ => XS.ifNo X30.here hx rfl (hb hby at_226) rfl ((if0 _ _).trans (flt (own_reach1 hf (by omega) (by omega))).1) kk_) ?_
      refine Gq.go (T30.setTop (mkF m 230 #[.val (.int x0), .val (.int x1), .val (.long x2), .second, .val (.int x3), .val (.int x4), .val (.int (Int32.ofNat c0)), .val (.int (Int32.ofNat pb)), .val (.ref b1), .val (.int (Int32.ofNat (B + 1))), .val (.long (Int64.ofNat (c0 + 1))), .second, .val (.int (Int32.ofNat (B + 1 + pb))), .val (.int (1 : Int32)), .val (.long ((1 : Int64) <<< ((Int32.ofNat (B + 1 + pb)) &&& 0x3f).toInt64)), .second, .val (.long ff), .second, .val (.int (Int32.ofNat jj)), .val (.long ff), .second, .unset] [(.int (1 : Int32))])) (fun tt_ kk_ => XS.iconst X30.here hx rfl (hb hby at_229) kk_) ?_
      refine Gq.go (T30.setTop (mkF m 234 #[.val (.int x0), .val (.int x1), .val (.long x2), .second, .val (.int x3), .val (.int x4), .val (.int (Int32.ofNat c0)), .val (.int (Int32.ofNat pb)), .val (.ref b1), .val (.int (Int32.ofNat (B + 1))), .val (.long (Int64.ofNat (c0 + 1))), .second, .val (.int (Int32.ofNat (B + 1 + pb))), .val (.int (1 : Int32)), .val (.long ((1 : Int64) <<< ((Int32.ofNat (B + 1 + pb)) &&& 0x3f).toInt64)), .second, .val (.long ff), .second, .val (.int (Int32.ofNat jj)), .val (.long ff), .second, .unset] [(.int (1 : Int32))])) (fun tt_ kk_ => XS.goto X30.here hx rfl (pc0 := 230) (pc' := 234) rfl (hb hby at_230) (by decide) (by decide) kk_) ?_
      refine Gq.go (T30.setTop (mkF m 236 #[.val (.int x0), .val (.int x1), .val (.long x2), .second, .val (.int x3), .val (.int x4), .val (.int (Int32.ofNat c0)), .val (.int (Int32.ofNat pb)), .val (.ref b1), .val (.int (Int32.ofNat (B + 1))), .val (.long (Int64.ofNat (c0 + 1))), .second, .val (.int (Int32.ofNat (B + 1 + pb))), .val (.int (1 : Int32)), .val (.long ((1 : Int64) <<< ((Int32.ofNat (B + 1 + pb)) &&& 0x3f).toInt64)), .second, .val (.long ff), .second, .val (.int (Int32.ofNat jj)), .val (.long ff), .second, .val (.int (1 : Int32))] [])) (fun tt_ kk_ => XS.istore X30.here hx rfl (hb hby at_234) rfl (l' := #[.val (.int x0), .val (.int x1), .val (.long x2), .second, .val (.int x3), .val (.int x4), .val (.int (Int32.ofNat c0)), .val (.int (Int32.ofNat pb)), .val (.ref b1), .val (.int (Int32.ofNat (B + 1))), .val (.long (Int64.ofNat (c0 + 1))), .second, .val (.int (Int32.ofNat (B + 1 + pb))), .val (.int (1 : Int32)), .val (.long ((1 : Int64) <<< ((Int32.ofNat (B + 1 + pb)) &&& 0x3f).toInt64)), .second, .val (.long ff), .second, .val (.int (Int32.ofNat jj)), .val (.long ff), .second, .val (.int (1 : Int32))]) rfl kk_) ?_
      refine Gq.go (T30.setTop (mkF m 238 #[.val (.int x0), .val (.int x1), .val (.long x2), .second, .val (.int x3), .val (.int x4), .val (.int (Int32.ofNat c0)), .val (.int (Int32.ofNat pb)), .val (.ref b1), .val (.int (Int32.ofNat (B + 1))), .val (.long (Int64.ofNat (c0 + 1))), .second, .val (.int (Int32.ofNat (B + 1 + pb))), .val (.int (1 : Int32)), .val (.long ((1 : Int64) <<< ((Int32.ofNat (B + 1 + pb)) &&& 0x3f).toInt64)), .second, .val (.long ff), .second, .val (.int (Int32.ofNat jj)), .val (.long ff), .second, .val (.int (1 : Int32))] [(.int (1 : Int32))])) (fun tt_ kk_ => XS.iload X30.here hx rfl (hb hby at_236) rfl kk_) ?_
      refine Gq.go (T30.setTop (mkF m 240 #[.val (.int x0), .val (.int x1), .val (.long x2), .second, .val (.int x3), .val (.int x4), .val (.int (Int32.ofNat c0)), .val (.int (Int32.ofNat pb)), .val (.ref b1), .val (.int (Int32.ofNat (B + 1))), .val (.long (Int64.ofNat (c0 + 1))), .second, .val (.int (Int32.ofNat (B + 1 + pb))), .val (.int (1 : Int32)), .val (.long ((1 : Int64) <<< ((Int32.ofNat (B + 1 + pb)) &&& 0x3f).toInt64)), .second, .val (.long ff), .second, .val (.int (Int32.ofNat jj)), .val (.long ff), .second, .val (.int (1 : Int32))] [(.int (1 : Int32)), (.int (1 : Int32))])) (fun tt_ kk_ => XS.iload X30.here hx rfl (hb hby at_238) rfl kk_) ?_
      refine Gq.go (T30.setTop (mkF m 243 #[.val (.int x0), .val (.int x1), .val (.long x2), .second, .val (.int x3), .val (.int x4), .val (.int (Int32.ofNat c0)), .val (.int (Int32.ofNat pb)), .val (.ref b1), .val (.int (Int32.ofNat (B + 1))), .val (.long (Int64.ofNat (c0 + 1))), .second, .val (.int (Int32.ofNat (B + 1 + pb))), .val (.int (1 : Int32)), .val (.long ((1 : Int64) <<< ((Int32.ofNat (B + 1 + pb)) &&& 0x3f).toInt64)), .second, .val (.long ff), .second, .val (.int (Int32.ofNat jj)), .val (.long ff), .second, .val (.int (1 : Int32))] [])) (fun tt_ kk_ => XS.icmpNo X30.here hx rfl (hb hby at_240) rfl (teq (by decide : ((1 : Int32) = (1 : Int32)))).2 kk_) ?_
      refine Gq.go (T30.setTop (mkF m 244 #[.val (.int x0), .val (.int x1), .val (.long x2), .second, .val (.int x3), .val (.int x4), .val (.int (Int32.ofNat c0)), .val (.int (Int32.ofNat pb)), .val (.ref b1), .val (.int (Int32.ofNat (B + 1))), .val (.long (Int64.ofNat (c0 + 1))), .second, .val (.int (Int32.ofNat (B + 1 + pb))), .val (.int (1 : Int32)), .val (.long ((1 : Int64) <<< ((Int32.ofNat (B + 1 + pb)) &&& 0x3f).toInt64)), .second, .val (.long ff), .second, .val (.int (Int32.ofNat jj)), .val (.long ff), .second, .val (.int (1 : Int32))] [(.int (1 : Int32))])) (fun tt_ kk_ => XS.iconst X30.here hx rfl (hb hby at_243) kk_) ?_
      refine Gq.go (T30.setTop (mkF m 248 #[.val (.int x0), .val (.int x1), .val (.long x2), .second, .val (.int x3), .val (.int x4), .val (.int (Int32.ofNat c0)), .val (.int (Int32.ofNat pb)), .val (.ref b1), .val (.int (Int32.ofNat (B + 1))), .val (.long (Int64.ofNat (c0 + 1))), .second, .val (.int (Int32.ofNat (B + 1 + pb))), .val (.int (1 : Int32)), .val (.long ((1 : Int64) <<< ((Int32.ofNat (B + 1 + pb)) &&& 0x3f).toInt64)), .second, .val (.long ff), .second, .val (.int (Int32.ofNat jj)), .val (.long ff), .second, .val (.int (1 : Int32))] [(.int (1 : Int32))])) (fun tt_ kk_ => XS.goto X30.here hx rfl (pc0 := 244) (pc' := 248) rfl (hb hby at_244) (by decide) (by decide) kk_) ?_
      refine Gq.retI X30 hx Bd.notSynchronized Bd.returns (by simp) (hb hby at_248) rfl (by decide) (by decide) ?_
      show Q0 Z x0 x1 x2 x3 x4 h0 n0 _ T30.heap _
      rw [eh30]
      exact ⟨rfl, N30⟩
    · have hne := hjk
      refine Gq.go (T15.setTop (mkF m 161 #[.val (.int x0), .val (.int x1), .val (.long x2), .second, .val (.int x3), .val (.int x4), .val (.int (Int32.ofNat c0)), .val (.int (Int32.ofNat pb)), .val (.ref b1), .val (.int (Int32.ofNat (B + 1))), .val (.long (Int64.ofNat (c0 + 1))), .second, .val (.int (Int32.ofNat (B + 1 + pb))), .val (.int (1 : Int32)), .val (.long ((1 : Int64) <<< ((Int32.ofNat (B + 1 + pb)) &&& 0x3f).toInt64)), .second, .val (.long ff), .second, .val (.int (Int32.ofNat jj)), .unset, .unset, .unset] [])) (fun tt_ kk_ => XS.icmpYes X15.here hx rfl (pc0 := 153) (pc' := 161) rfl (hb hby at_153) rfl (feq (fun q => hjk ((own_eqn (by omega) (by omega)).mp q))).2 (by decide) (by decide) kk_) ?_
      refine Gq.go (T15.setTop (mkF m 163 #[.val (.int x0), .val (.int x1), .val (.long x2), .second, .val (.int x3), .val (.int x4), .val (.int (Int32.ofNat c0)), .val (.int (Int32.ofNat pb)), .val (.ref b1), .val (.int (Int32.ofNat (B + 1))), .val (.long (Int64.ofNat (c0 + 1))), .second, .val (.int (Int32.ofNat (B + 1 + pb))), .val (.int (1 : Int32)), .val (.long ((1 : Int64) <<< ((Int32.ofNat (B + 1 + pb)) &&& 0x3f).toInt64)), .second, .val (.long ff), .second, .val (.int (Int32.ofNat jj)), .unset, .unset, .unset] [(.long ff)])) (fun tt_ kk_ => XS.lload X15.here hx rfl (hb hby at_161) rfl kk_) ?_
      refine Gq.go (T15.setTop (mkF m 164 #[.val (.int x0), .val (.int x1), .val (.long x2), .second, .val (.int x3), .val (.int x4), .val (.int (Int32.ofNat c0)), .val (.int (Int32.ofNat pb)), .val (.ref b1), .val (.int (Int32.ofNat (B + 1))), .val (.long (Int64.ofNat (c0 + 1))), .second, .val (.int (Int32.ofNat (B + 1 + pb))), .val (.int (1 : Int32)), .val (.long ((1 : Int64) <<< ((Int32.ofNat (B + 1 + pb)) &&& 0x3f).toInt64)), .second, .val (.long ff), .second, .val (.int (Int32.ofNat jj)), .unset, .unset, .unset] [(.long (1 : Int64)), (.long ff)])) (fun tt_ kk_ => XS.lconst X15.here hx rfl (hb hby at_163) kk_) ?_
      refine Gq.go (T15.setTop (mkF m 166 #[.val (.int x0), .val (.int x1), .val (.long x2), .second, .val (.int x3), .val (.int x4), .val (.int (Int32.ofNat c0)), .val (.int (Int32.ofNat pb)), .val (.ref b1), .val (.int (Int32.ofNat (B + 1))), .val (.long (Int64.ofNat (c0 + 1))), .second, .val (.int (Int32.ofNat (B + 1 + pb))), .val (.int (1 : Int32)), .val (.long ((1 : Int64) <<< ((Int32.ofNat (B + 1 + pb)) &&& 0x3f).toInt64)), .second, .val (.long ff), .second, .val (.int (Int32.ofNat jj)), .unset, .unset, .unset] [(.int (Int32.ofNat jj)), (.long (1 : Int64)), (.long ff)])) (fun tt_ kk_ => XS.iload X15.here hx rfl (hb hby at_164) rfl kk_) ?_
      refine Gq.go (T15.setTop (mkF m 167 #[.val (.int x0), .val (.int x1), .val (.long x2), .second, .val (.int x3), .val (.int x4), .val (.int (Int32.ofNat c0)), .val (.int (Int32.ofNat pb)), .val (.ref b1), .val (.int (Int32.ofNat (B + 1))), .val (.long (Int64.ofNat (c0 + 1))), .second, .val (.int (Int32.ofNat (B + 1 + pb))), .val (.int (1 : Int32)), .val (.long ((1 : Int64) <<< ((Int32.ofNat (B + 1 + pb)) &&& 0x3f).toInt64)), .second, .val (.long ff), .second, .val (.int (Int32.ofNat jj)), .unset, .unset, .unset] [(.long ((1 : Int64) <<< ((Int32.ofNat jj) &&& 0x3f).toInt64)), (.long ff)])) (fun tt_ kk_ => XS.lshl X15.here hx rfl (hb hby at_166) rfl kk_) ?_
      refine Gq.go (T15.setTop (mkF m 168 #[.val (.int x0), .val (.int x1), .val (.long x2), .second, .val (.int x3), .val (.int x4), .val (.int (Int32.ofNat c0)), .val (.int (Int32.ofNat pb)), .val (.ref b1), .val (.int (Int32.ofNat (B + 1))), .val (.long (Int64.ofNat (c0 + 1))), .second, .val (.int (Int32.ofNat (B + 1 + pb))), .val (.int (1 : Int32)), .val (.long ((1 : Int64) <<< ((Int32.ofNat (B + 1 + pb)) &&& 0x3f).toInt64)), .second, .val (.long ff), .second, .val (.int (Int32.ofNat jj)), .unset, .unset, .unset] [(.long (ff ^^^ ((1 : Int64) <<< ((Int32.ofNat jj) &&& 0x3f).toInt64)))])) (fun tt_ kk_ => XS.lxor X15.here hx rfl (hb hby at_167) rfl kk_) ?_
      refine Gq.go (T15.setTop (mkF m 170 #[.val (.int x0), .val (.int x1), .val (.long x2), .second, .val (.int x3), .val (.int x4), .val (.int (Int32.ofNat c0)), .val (.int (Int32.ofNat pb)), .val (.ref b1), .val (.int (Int32.ofNat (B + 1))), .val (.long (Int64.ofNat (c0 + 1))), .second, .val (.int (Int32.ofNat (B + 1 + pb))), .val (.int (1 : Int32)), .val (.long ((1 : Int64) <<< ((Int32.ofNat (B + 1 + pb)) &&& 0x3f).toInt64)), .second, .val (.long ff), .second, .val (.int (Int32.ofNat jj)), .val (.long (ff ^^^ ((1 : Int64) <<< ((Int32.ofNat jj) &&& 0x3f).toInt64))), .second, .unset] [])) (fun tt_ kk_ => XS.lstore X15.here hx rfl (hb hby at_168) rfl (l' := #[.val (.int x0), .val (.int x1), .val (.long x2), .second, .val (.int x3), .val (.int x4), .val (.int (Int32.ofNat c0)), .val (.int (Int32.ofNat pb)), .val (.ref b1), .val (.int (Int32.ofNat (B + 1))), .val (.long (Int64.ofNat (c0 + 1))), .second, .val (.int (Int32.ofNat (B + 1 + pb))), .val (.int (1 : Int32)), .val (.long ((1 : Int64) <<< ((Int32.ofNat (B + 1 + pb)) &&& 0x3f).toInt64)), .second, .val (.long ff), .second, .val (.int (Int32.ofNat jj)), .val (.long (ff ^^^ ((1 : Int64) <<< ((Int32.ofNat jj) &&& 0x3f).toInt64))), .second, .unset]) rfl kk_) ?_
      have hg : ((ff ^^^ ((1 : Int64) <<< ((Int32.ofNat jj) &&& 0x3f).toInt64))).toBitVec.getLsbD (B + 1 + pb) = true := by rw [own_other ff (by omega) (by omega) hne]; exact hf
      generalize hgg : (ff ^^^ ((1 : Int64) <<< ((Int32.ofNat jj) &&& 0x3f).toInt64)) = gg
      rw [hgg] at hg
      refine Gq.go (T15.setTop (mkF m 172 #[.val (.int x0), .val (.int x1), .val (.long x2), .second, .val (.int x3), .val (.int x4), .val (.int (Int32.ofNat c0)), .val (.int (Int32.ofNat pb)), .val (.ref b1), .val (.int (Int32.ofNat (B + 1))), .val (.long (Int64.ofNat (c0 + 1))), .second, .val (.int (Int32.ofNat (B + 1 + pb))), .val (.int (1 : Int32)), .val (.long ((1 : Int64) <<< ((Int32.ofNat (B + 1 + pb)) &&& 0x3f).toInt64)), .second, .val (.long ff), .second, .val (.int (Int32.ofNat jj)), .val (.long gg), .second, .unset] [(.ref b1)])) (fun tt_ kk_ => XS.aload X15.here hx rfl (hb hby at_170) rfl rfl kk_) ?_
      refine Gq.go (T15.setTop (mkF m 174 #[.val (.int x0), .val (.int x1), .val (.long x2), .second, .val (.int x3), .val (.int x4), .val (.int (Int32.ofNat c0)), .val (.int (Int32.ofNat pb)), .val (.ref b1), .val (.int (Int32.ofNat (B + 1))), .val (.long (Int64.ofNat (c0 + 1))), .second, .val (.int (Int32.ofNat (B + 1 + pb))), .val (.int (1 : Int32)), .val (.long ((1 : Int64) <<< ((Int32.ofNat (B + 1 + pb)) &&& 0x3f).toInt64)), .second, .val (.long ff), .second, .val (.int (Int32.ofNat jj)), .val (.long gg), .second, .unset] [(.long ff), (.ref b1)])) (fun tt_ kk_ => XS.lload X15.here hx rfl (hb hby at_172) rfl kk_) ?_
      obtain ⟨r31, T31, L31, X31, hQ31, st31⟩ := callV (pc := 174) (Ls := #[.val (.int x0), .val (.int x1), .val (.long x2), .second, .val (.int x3), .val (.int x4), .val (.int (Int32.ofNat c0)), .val (.int (Int32.ofNat pb)), .val (.ref b1), .val (.int (Int32.ofNat (B + 1))), .val (.long (Int64.ofNat (c0 + 1))), .second, .val (.int (Int32.ofNat (B + 1 + pb))), .val (.int (1 : Int32)), .val (.long ((1 : Int64) <<< ((Int32.ofNat (B + 1 + pb)) &&& 0x3f).toInt64)), .second, .val (.long ff), .second, .val (.int (Int32.ofNat jj)), .val (.long gg), .second, .unset]) X15 hx hZ hown eh15 b1 [(.long ff)] [] fa4 (hw _ (List.mem_of_getElem? (i := 50) rfl)) (hw _ (List.mem_of_getElem? (i := 51) rfl)) (hw _ (List.mem_of_getElem? (i := 53) rfl)) (hw _ (List.mem_of_getElem? (i := 52) rfl)) (hw _ (List.mem_of_getElem? (i := 3) rfl)) (hw _ (List.mem_of_getElem? (i := 54) rfl)) (by decide) (rm9 l Z a0 hw [] b1 ff (Int32.ofNat (B + 1)) (Int32.ofNat pb) T3.heap n0 za13 c3_0 c3_1) pd_4 rfl (by rw [hml]; rfl) (W := 0) (Nat.le_of_eq rfl) (by decide) (by decide) (by decide) (by decide) (hb hby at_174)
      obtain ⟨rfl, N31q, eh31⟩ := hQ31
      have N31 := Fr.app N15 N31q
      refine Gq.go (T31.setTop (mkF m 177 #[.val (.int x0), .val (.int x1), .val (.long x2), .second, .val (.int x3), .val (.int x4), .val (.int (Int32.ofNat c0)), .val (.int (Int32.ofNat pb)), .val (.ref b1), .val (.int (Int32.ofNat (B + 1))), .val (.long (Int64.ofNat (c0 + 1))), .second, .val (.int (Int32.ofNat (B + 1 + pb))), .val (.int (1 : Int32)), .val (.long ((1 : Int64) <<< ((Int32.ofNat (B + 1 + pb)) &&& 0x3f).toInt64)), .second, .val (.long ff), .second, .val (.int (Int32.ofNat jj)), .val (.long gg), .second, .unset] [(.int (own_isv ff (Int32.ofNat (B + 1)) (Int32.ofNat pb)))])) (fun tt_ kk_ => st31 tt_ kk_) ?_
      refine Gq.go (T31.setTop (mkF m 179 #[.val (.int x0), .val (.int x1), .val (.long x2), .second, .val (.int x3), .val (.int x4), .val (.int (Int32.ofNat c0)), .val (.int (Int32.ofNat pb)), .val (.ref b1), .val (.int (Int32.ofNat (B + 1))), .val (.long (Int64.ofNat (c0 + 1))), .second, .val (.int (Int32.ofNat (B + 1 + pb))), .val (.int (1 : Int32)), .val (.long ((1 : Int64) <<< ((Int32.ofNat (B + 1 + pb)) &&& 0x3f).toInt64)), .second, .val (.long ff), .second, .val (.int (Int32.ofNat jj)), .val (.long gg), .second, .unset] [(.int (1 : Int32)), (.int (own_isv ff (Int32.ofNat (B + 1)) (Int32.ofNat pb)))])) (fun tt_ kk_ => XS.iload X31.here hx rfl (hb hby at_177) rfl kk_) ?_
      refine Gq.go (T31.setTop (mkF m 184 #[.val (.int x0), .val (.int x1), .val (.long x2), .second, .val (.int x3), .val (.int x4), .val (.int (Int32.ofNat c0)), .val (.int (Int32.ofNat pb)), .val (.ref b1), .val (.int (Int32.ofNat (B + 1))), .val (.long (Int64.ofNat (c0 + 1))), .second, .val (.int (Int32.ofNat (B + 1 + pb))), .val (.int (1 : Int32)), .val (.long ((1 : Int64) <<< ((Int32.ofNat (B + 1 + pb)) &&& 0x3f).toInt64)), .second, .val (.long ff), .second, .val (.int (Int32.ofNat jj)), .val (.long gg), .second, .unset] [])) (fun tt_ kk_ => XS.icmpYes X31.here hx rfl (pc0 := 179) (pc' := 184) rfl (hb hby at_179) rfl (teq (own_isv1 hf (by omega))).1 (by decide) (by decide) kk_) ?_
      refine Gq.go (T31.setTop (mkF m 186 #[.val (.int x0), .val (.int x1), .val (.long x2), .second, .val (.int x3), .val (.int x4), .val (.int (Int32.ofNat c0)), .val (.int (Int32.ofNat pb)), .val (.ref b1), .val (.int (Int32.ofNat (B + 1))), .val (.long (Int64.ofNat (c0 + 1))), .second, .val (.int (Int32.ofNat (B + 1 + pb))), .val (.int (1 : Int32)), .val (.long ((1 : Int64) <<< ((Int32.ofNat (B + 1 + pb)) &&& 0x3f).toInt64)), .second, .val (.long ff), .second, .val (.int (Int32.ofNat jj)), .val (.long gg), .second, .unset] [(.ref b1)])) (fun tt_ kk_ => XS.aload X31.here hx rfl (hb hby at_184) rfl rfl kk_) ?_
      refine Gq.go (T31.setTop (mkF m 188 #[.val (.int x0), .val (.int x1), .val (.long x2), .second, .val (.int x3), .val (.int x4), .val (.int (Int32.ofNat c0)), .val (.int (Int32.ofNat pb)), .val (.ref b1), .val (.int (Int32.ofNat (B + 1))), .val (.long (Int64.ofNat (c0 + 1))), .second, .val (.int (Int32.ofNat (B + 1 + pb))), .val (.int (1 : Int32)), .val (.long ((1 : Int64) <<< ((Int32.ofNat (B + 1 + pb)) &&& 0x3f).toInt64)), .second, .val (.long ff), .second, .val (.int (Int32.ofNat jj)), .val (.long gg), .second, .unset] [(.long gg), (.ref b1)])) (fun tt_ kk_ => XS.lload X31.here hx rfl (hb hby at_186) rfl kk_) ?_
      obtain ⟨r32, T32, L32, X32, hQ32, st32⟩ := callV (pc := 188) (Ls := #[.val (.int x0), .val (.int x1), .val (.long x2), .second, .val (.int x3), .val (.int x4), .val (.int (Int32.ofNat c0)), .val (.int (Int32.ofNat pb)), .val (.ref b1), .val (.int (Int32.ofNat (B + 1))), .val (.long (Int64.ofNat (c0 + 1))), .second, .val (.int (Int32.ofNat (B + 1 + pb))), .val (.int (1 : Int32)), .val (.long ((1 : Int64) <<< ((Int32.ofNat (B + 1 + pb)) &&& 0x3f).toInt64)), .second, .val (.long ff), .second, .val (.int (Int32.ofNat jj)), .val (.long gg), .second, .unset]) X31 hx hZ hown eh31 b1 [(.long gg)] [] fa4 (hw _ (List.mem_of_getElem? (i := 50) rfl)) (hw _ (List.mem_of_getElem? (i := 51) rfl)) (hw _ (List.mem_of_getElem? (i := 53) rfl)) (hw _ (List.mem_of_getElem? (i := 52) rfl)) (hw _ (List.mem_of_getElem? (i := 3) rfl)) (hw _ (List.mem_of_getElem? (i := 54) rfl)) (by decide) (rm9 l Z a0 hw [] b1 gg (Int32.ofNat (B + 1)) (Int32.ofNat pb) T3.heap n0 za13 c3_0 c3_1) pd_4 rfl (by rw [hml]; rfl) (W := 0) (Nat.le_of_eq rfl) (by decide) (by decide) (by decide) (by decide) (hb hby at_188)
      obtain ⟨rfl, N32q, eh32⟩ := hQ32
      have N32 := Fr.app N31 N32q
      refine Gq.go (T32.setTop (mkF m 191 #[.val (.int x0), .val (.int x1), .val (.long x2), .second, .val (.int x3), .val (.int x4), .val (.int (Int32.ofNat c0)), .val (.int (Int32.ofNat pb)), .val (.ref b1), .val (.int (Int32.ofNat (B + 1))), .val (.long (Int64.ofNat (c0 + 1))), .second, .val (.int (Int32.ofNat (B + 1 + pb))), .val (.int (1 : Int32)), .val (.long ((1 : Int64) <<< ((Int32.ofNat (B + 1 + pb)) &&& 0x3f).toInt64)), .second, .val (.long ff), .second, .val (.int (Int32.ofNat jj)), .val (.long gg), .second, .unset] [(.int (own_isv gg (Int32.ofNat (B + 1)) (Int32.ofNat pb)))])) (fun tt_ kk_ => st32 tt_ kk_) ?_
      refine Gq.go (T32.setTop (mkF m 193 #[.val (.int x0), .val (.int x1), .val (.long x2), .second, .val (.int x3), .val (.int x4), .val (.int (Int32.ofNat c0)), .val (.int (Int32.ofNat pb)), .val (.ref b1), .val (.int (Int32.ofNat (B + 1))), .val (.long (Int64.ofNat (c0 + 1))), .second, .val (.int (Int32.ofNat (B + 1 + pb))), .val (.int (1 : Int32)), .val (.long ((1 : Int64) <<< ((Int32.ofNat (B + 1 + pb)) &&& 0x3f).toInt64)), .second, .val (.long ff), .second, .val (.int (Int32.ofNat jj)), .val (.long gg), .second, .unset] [(.int (1 : Int32)), (.int (own_isv gg (Int32.ofNat (B + 1)) (Int32.ofNat pb)))])) (fun tt_ kk_ => XS.iload X32.here hx rfl (hb hby at_191) rfl kk_) ?_
      refine Gq.go (T32.setTop (mkF m 198 #[.val (.int x0), .val (.int x1), .val (.long x2), .second, .val (.int x3), .val (.int x4), .val (.int (Int32.ofNat c0)), .val (.int (Int32.ofNat pb)), .val (.ref b1), .val (.int (Int32.ofNat (B + 1))), .val (.long (Int64.ofNat (c0 + 1))), .second, .val (.int (Int32.ofNat (B + 1 + pb))), .val (.int (1 : Int32)), .val (.long ((1 : Int64) <<< ((Int32.ofNat (B + 1 + pb)) &&& 0x3f).toInt64)), .second, .val (.long ff), .second, .val (.int (Int32.ofNat jj)), .val (.long gg), .second, .unset] [])) (fun tt_ kk_ => XS.icmpYes X32.here hx rfl (pc0 := 193) (pc' := 198) rfl (hb hby at_193) rfl (teq (own_isv1 hg (by omega))).1 (by decide) (by decide) kk_) ?_
      refine Gq.go (T32.setTop (mkF m 200 #[.val (.int x0), .val (.int x1), .val (.long x2), .second, .val (.int x3), .val (.int x4), .val (.int (Int32.ofNat c0)), .val (.int (Int32.ofNat pb)), .val (.ref b1), .val (.int (Int32.ofNat (B + 1))), .val (.long (Int64.ofNat (c0 + 1))), .second, .val (.int (Int32.ofNat (B + 1 + pb))), .val (.int (1 : Int32)), .val (.long ((1 : Int64) <<< ((Int32.ofNat (B + 1 + pb)) &&& 0x3f).toInt64)), .second, .val (.long ff), .second, .val (.int (Int32.ofNat jj)), .val (.long gg), .second, .unset] [(.ref b1)])) (fun tt_ kk_ => XS.aload X32.here hx rfl (hb hby at_198) rfl rfl kk_) ?_
      obtain ⟨r33, T33, L33, X33, hQ33, st33⟩ := callV (pc := 200) (Ls := #[.val (.int x0), .val (.int x1), .val (.long x2), .second, .val (.int x3), .val (.int x4), .val (.int (Int32.ofNat c0)), .val (.int (Int32.ofNat pb)), .val (.ref b1), .val (.int (Int32.ofNat (B + 1))), .val (.long (Int64.ofNat (c0 + 1))), .second, .val (.int (Int32.ofNat (B + 1 + pb))), .val (.int (1 : Int32)), .val (.long ((1 : Int64) <<< ((Int32.ofNat (B + 1 + pb)) &&& 0x3f).toInt64)), .second, .val (.long ff), .second, .val (.int (Int32.ofNat jj)), .val (.long gg), .second, .unset]) X32 hx hZ hown eh32 b1 [] [] fa4 (hw _ (List.mem_of_getElem? (i := 55) rfl)) (hw _ (List.mem_of_getElem? (i := 56) rfl)) (hw _ (List.mem_of_getElem? (i := 58) rfl)) (hw _ (List.mem_of_getElem? (i := 57) rfl)) (hw _ (List.mem_of_getElem? (i := 3) rfl)) (hw _ (List.mem_of_getElem? (i := 59) rfl)) (by decide) (rm10 l Z a0 hw [] b1 ((1 : Int64) <<< ((Int32.ofNat pb) &&& 0x3f).toInt64) T3.heap n0 za13 c3_3) pd_5 rfl (by rw [hml]; rfl) (W := 0) (Nat.le_of_eq rfl) (by decide) (by decide) (by decide) (by decide) (hb hby at_200)
      obtain ⟨rfl, N33q, eh33⟩ := hQ33
      have N33 := Fr.app N32 N33q
      refine Gq.go (T33.setTop (mkF m 203 #[.val (.int x0), .val (.int x1), .val (.long x2), .second, .val (.int x3), .val (.int x4), .val (.int (Int32.ofNat c0)), .val (.int (Int32.ofNat pb)), .val (.ref b1), .val (.int (Int32.ofNat (B + 1))), .val (.long (Int64.ofNat (c0 + 1))), .second, .val (.int (Int32.ofNat (B + 1 + pb))), .val (.int (1 : Int32)), .val (.long ((1 : Int64) <<< ((Int32.ofNat (B + 1 + pb)) &&& 0x3f).toInt64)), .second, .val (.long ff), .second, .val (.int (Int32.ofNat jj)), .val (.long gg), .second, .unset] [(.long ((1 : Int64) <<< ((Int32.ofNat pb) &&& 0x3f).toInt64))])) (fun tt_ kk_ => st33 tt_ kk_) ?_
      refine Gq.go (T33.setTop (mkF m 204 #[.val (.int x0), .val (.int x1), .val (.long x2), .second, .val (.int x3), .val (.int x4), .val (.int (Int32.ofNat c0)), .val (.int (Int32.ofNat pb)), .val (.ref b1), .val (.int (Int32.ofNat (B + 1))), .val (.long (Int64.ofNat (c0 + 1))), .second, .val (.int (Int32.ofNat (B + 1 + pb))), .val (.int (1 : Int32)), .val (.long ((1 : Int64) <<< ((Int32.ofNat (B + 1 + pb)) &&& 0x3f).toInt64)), .second, .val (.long ff), .second, .val (.int (Int32.ofNat jj)), .val (.long gg), .second, .unset] [(.long (1 : Int64)), (.long ((1 : Int64) <<< ((Int32.ofNat pb) &&& 0x3f).toInt64))])) (fun tt_ kk_ => XS.lconst X33.here hx rfl (hb hby at_203) kk_) ?_
      refine Gq.go (T33.setTop (mkF m 206 #[.val (.int x0), .val (.int x1), .val (.long x2), .second, .val (.int x3), .val (.int x4), .val (.int (Int32.ofNat c0)), .val (.int (Int32.ofNat pb)), .val (.ref b1), .val (.int (Int32.ofNat (B + 1))), .val (.long (Int64.ofNat (c0 + 1))), .second, .val (.int (Int32.ofNat (B + 1 + pb))), .val (.int (1 : Int32)), .val (.long ((1 : Int64) <<< ((Int32.ofNat (B + 1 + pb)) &&& 0x3f).toInt64)), .second, .val (.long ff), .second, .val (.int (Int32.ofNat jj)), .val (.long gg), .second, .unset] [(.int (Int32.ofNat pb)), (.long (1 : Int64)), (.long ((1 : Int64) <<< ((Int32.ofNat pb) &&& 0x3f).toInt64))])) (fun tt_ kk_ => XS.iload X33.here hx rfl (hb hby at_204) rfl kk_) ?_
      refine Gq.go (T33.setTop (mkF m 207 #[.val (.int x0), .val (.int x1), .val (.long x2), .second, .val (.int x3), .val (.int x4), .val (.int (Int32.ofNat c0)), .val (.int (Int32.ofNat pb)), .val (.ref b1), .val (.int (Int32.ofNat (B + 1))), .val (.long (Int64.ofNat (c0 + 1))), .second, .val (.int (Int32.ofNat (B + 1 + pb))), .val (.int (1 : Int32)), .val (.long ((1 : Int64) <<< ((Int32.ofNat (B + 1 + pb)) &&& 0x3f).toInt64)), .second, .val (.long ff), .second, .val (.int (Int32.ofNat jj)), .val (.long gg), .second, .unset] [(.long ((1 : Int64) <<< ((Int32.ofNat pb) &&& 0x3f).toInt64)), (.long ((1 : Int64) <<< ((Int32.ofNat pb) &&& 0x3f).toInt64))])) (fun tt_ kk_ => XS.lshl X33.here hx rfl (hb hby at_206) rfl kk_) ?_
      refine Gq.go (T33.setTop (mkF m 208 #[.val (.int x0), .val (.int x1), .val (.long x2), .second, .val (.int x3), .val (.int x4), .val (.int (Int32.ofNat c0)), .val (.int (Int32.ofNat pb)), .val (.ref b1), .val (.int (Int32.ofNat (B + 1))), .val (.long (Int64.ofNat (c0 + 1))), .second, .val (.int (Int32.ofNat (B + 1 + pb))), .val (.int (1 : Int32)), .val (.long ((1 : Int64) <<< ((Int32.ofNat (B + 1 + pb)) &&& 0x3f).toInt64)), .second, .val (.long ff), .second, .val (.int (Int32.ofNat jj)), .val (.long gg), .second, .unset] [(.int (lcmpW ((1 : Int64) <<< ((Int32.ofNat pb) &&& 0x3f).toInt64) ((1 : Int64) <<< ((Int32.ofNat pb) &&& 0x3f).toInt64)))])) (fun tt_ kk_ => XS.lcmp X33.here hx rfl (hb hby at_207) rfl kk_) ?_
      refine Gq.go (T33.setTop (mkF m 213 #[.val (.int x0), .val (.int x1), .val (.long x2), .second, .val (.int x3), .val (.int x4), .val (.int (Int32.ofNat c0)), .val (.int (Int32.ofNat pb)), .val (.ref b1), .val (.int (Int32.ofNat (B + 1))), .val (.long (Int64.ofNat (c0 + 1))), .second, .val (.int (Int32.ofNat (B + 1 + pb))), .val (.int (1 : Int32)), .val (.long ((1 : Int64) <<< ((Int32.ofNat (B + 1 + pb)) &&& 0x3f).toInt64)), .second, .val (.long ff), .second, .val (.int (Int32.ofNat jj)), .val (.long gg), .second, .unset] [])) (fun tt_ kk_ => XS.ifYes X33.here hx rfl (pc0 := 208) (pc' := 213) rfl (hb hby at_208) rfl ((if0 _ _).trans (teq ((lw_eq _ _).mpr rfl)).1) (by decide) (by decide) kk_) ?_
      refine Gq.go (T33.setTop (mkF m 215 #[.val (.int x0), .val (.int x1), .val (.long x2), .second, .val (.int x3), .val (.int x4), .val (.int (Int32.ofNat c0)), .val (.int (Int32.ofNat pb)), .val (.ref b1), .val (.int (Int32.ofNat (B + 1))), .val (.long (Int64.ofNat (c0 + 1))), .second, .val (.int (Int32.ofNat (B + 1 + pb))), .val (.int (1 : Int32)), .val (.long ((1 : Int64) <<< ((Int32.ofNat (B + 1 + pb)) &&& 0x3f).toInt64)), .second, .val (.long ff), .second, .val (.int (Int32.ofNat jj)), .val (.long gg), .second, .unset] [(.ref b1)])) (fun tt_ kk_ => XS.aload X33.here hx rfl (hb hby at_213) rfl rfl kk_) ?_
      refine Gq.go (T33.setTop (mkF m 217 #[.val (.int x0), .val (.int x1), .val (.long x2), .second, .val (.int x3), .val (.int x4), .val (.int (Int32.ofNat c0)), .val (.int (Int32.ofNat pb)), .val (.ref b1), .val (.int (Int32.ofNat (B + 1))), .val (.long (Int64.ofNat (c0 + 1))), .second, .val (.int (Int32.ofNat (B + 1 + pb))), .val (.int (1 : Int32)), .val (.long ((1 : Int64) <<< ((Int32.ofNat (B + 1 + pb)) &&& 0x3f).toInt64)), .second, .val (.long ff), .second, .val (.int (Int32.ofNat jj)), .val (.long gg), .second, .unset] [(.long ff), (.ref b1)])) (fun tt_ kk_ => XS.lload X33.here hx rfl (hb hby at_215) rfl kk_) ?_
      obtain ⟨r34, T34, L34, X34, hQ34, st34⟩ := callV (pc := 217) (Ls := #[.val (.int x0), .val (.int x1), .val (.long x2), .second, .val (.int x3), .val (.int x4), .val (.int (Int32.ofNat c0)), .val (.int (Int32.ofNat pb)), .val (.ref b1), .val (.int (Int32.ofNat (B + 1))), .val (.long (Int64.ofNat (c0 + 1))), .second, .val (.int (Int32.ofNat (B + 1 + pb))), .val (.int (1 : Int32)), .val (.long ((1 : Int64) <<< ((Int32.ofNat (B + 1 + pb)) &&& 0x3f).toInt64)), .second, .val (.long ff), .second, .val (.int (Int32.ofNat jj)), .val (.long gg), .second, .unset]) X33 hx hZ hown eh33 b1 [(.long ff)] [] fa4 (hw _ (List.mem_of_getElem? (i := 60) rfl)) (hw _ (List.mem_of_getElem? (i := 61) rfl)) (hw _ (List.mem_of_getElem? (i := 63) rfl)) (hw _ (List.mem_of_getElem? (i := 62) rfl)) (hw _ (List.mem_of_getElem? (i := 3) rfl)) (hw _ (List.mem_of_getElem? (i := 64) rfl)) (by decide) (rm11 l Z a0 hw [] b1 ff (Int32.ofNat (B + 1)) (((1 : Int64) <<< (((Int32.ofNat pb) + (1 : Int32)) &&& 0x3f).toInt64) - (1 : Int64)) T3.heap n0 za13 c3_0 c3_2) pd_6 rfl (by rw [hml]; rfl) (W := 0) (Nat.le_of_eq rfl) (by decide) (by decide) (by decide) (by decide) (hb hby at_217)
      obtain ⟨rfl, N34q, eh34⟩ := hQ34
      have N34 := Fr.app N33 N34q
      refine Gq.go (T34.setTop (mkF m 220 #[.val (.int x0), .val (.int x1), .val (.long x2), .second, .val (.int x3), .val (.int x4), .val (.int (Int32.ofNat c0)), .val (.int (Int32.ofNat pb)), .val (.ref b1), .val (.int (Int32.ofNat (B + 1))), .val (.long (Int64.ofNat (c0 + 1))), .second, .val (.int (Int32.ofNat (B + 1 + pb))), .val (.int (1 : Int32)), .val (.long ((1 : Int64) <<< ((Int32.ofNat (B + 1 + pb)) &&& 0x3f).toInt64)), .second, .val (.long ff), .second, .val (.int (Int32.ofNat jj)), .val (.long gg), .second, .unset] [(.long (((ff.toUInt64 >>> ((Int32.ofNat (B + 1)) &&& 0x3f).toInt64.toUInt64).toInt64) &&& (((1 : Int64) <<< (((Int32.ofNat pb) + (1 : Int32)) &&& 0x3f).toInt64) - (1 : Int64))))])) (fun tt_ kk_ => st34 tt_ kk_) ?_
      refine Gq.go (T34.setTop (mkF m 222 #[.val (.int x0), .val (.int x1), .val (.long x2), .second, .val (.int x3), .val (.int x4), .val (.int (Int32.ofNat c0)), .val (.int (Int32.ofNat pb)), .val (.ref b1), .val (.int (Int32.ofNat (B + 1))), .val (.long (Int64.ofNat (c0 + 1))), .second, .val (.int (Int32.ofNat (B + 1 + pb))), .val (.int (1 : Int32)), .val (.long ((1 : Int64) <<< ((Int32.ofNat (B + 1 + pb)) &&& 0x3f).toInt64)), .second, .val (.long ff), .second, .val (.int (Int32.ofNat jj)), .val (.long gg), .second, .unset] [(.ref b1), (.long (((ff.toUInt64 >>> ((Int32.ofNat (B + 1)) &&& 0x3f).toInt64.toUInt64).toInt64) &&& (((1 : Int64) <<< (((Int32.ofNat pb) + (1 : Int32)) &&& 0x3f).toInt64) - (1 : Int64))))])) (fun tt_ kk_ => XS.aload X34.here hx rfl (hb hby at_220) rfl rfl kk_) ?_
      obtain ⟨r35, T35, L35, X35, hQ35, st35⟩ := callV (pc := 222) (Ls := #[.val (.int x0), .val (.int x1), .val (.long x2), .second, .val (.int x3), .val (.int x4), .val (.int (Int32.ofNat c0)), .val (.int (Int32.ofNat pb)), .val (.ref b1), .val (.int (Int32.ofNat (B + 1))), .val (.long (Int64.ofNat (c0 + 1))), .second, .val (.int (Int32.ofNat (B + 1 + pb))), .val (.int (1 : Int32)), .val (.long ((1 : Int64) <<< ((Int32.ofNat (B + 1 + pb)) &&& 0x3f).toInt64)), .second, .val (.long ff), .second, .val (.int (Int32.ofNat jj)), .val (.long gg), .second, .unset]) X34 hx hZ hown eh34 b1 [] [(.long (((ff.toUInt64 >>> ((Int32.ofNat (B + 1)) &&& 0x3f).toInt64.toUInt64).toInt64) &&& (((1 : Int64) <<< (((Int32.ofNat pb) + (1 : Int32)) &&& 0x3f).toInt64) - (1 : Int64))))] fa4 (hw _ (List.mem_of_getElem? (i := 55) rfl)) (hw _ (List.mem_of_getElem? (i := 56) rfl)) (hw _ (List.mem_of_getElem? (i := 58) rfl)) (hw _ (List.mem_of_getElem? (i := 57) rfl)) (hw _ (List.mem_of_getElem? (i := 3) rfl)) (hw _ (List.mem_of_getElem? (i := 59) rfl)) (by decide) (rm10 l Z a0 hw [] b1 ((1 : Int64) <<< ((Int32.ofNat pb) &&& 0x3f).toInt64) T3.heap n0 za13 c3_3) pd_5 rfl (by rw [hml]; rfl) (W := 2) (Nat.le_of_eq rfl) (by decide) (by decide) (by decide) (by decide) (hb hby at_222)
      obtain ⟨rfl, N35q, eh35⟩ := hQ35
      have N35 := Fr.app N34 N35q
      refine Gq.go (T35.setTop (mkF m 225 #[.val (.int x0), .val (.int x1), .val (.long x2), .second, .val (.int x3), .val (.int x4), .val (.int (Int32.ofNat c0)), .val (.int (Int32.ofNat pb)), .val (.ref b1), .val (.int (Int32.ofNat (B + 1))), .val (.long (Int64.ofNat (c0 + 1))), .second, .val (.int (Int32.ofNat (B + 1 + pb))), .val (.int (1 : Int32)), .val (.long ((1 : Int64) <<< ((Int32.ofNat (B + 1 + pb)) &&& 0x3f).toInt64)), .second, .val (.long ff), .second, .val (.int (Int32.ofNat jj)), .val (.long gg), .second, .unset] [(.long ((1 : Int64) <<< ((Int32.ofNat pb) &&& 0x3f).toInt64)), (.long (((ff.toUInt64 >>> ((Int32.ofNat (B + 1)) &&& 0x3f).toInt64.toUInt64).toInt64) &&& (((1 : Int64) <<< (((Int32.ofNat pb) + (1 : Int32)) &&& 0x3f).toInt64) - (1 : Int64))))])) (fun tt_ kk_ => st35 tt_ kk_) ?_
      refine Gq.go (T35.setTop (mkF m 226 #[.val (.int x0), .val (.int x1), .val (.long x2), .second, .val (.int x3), .val (.int x4), .val (.int (Int32.ofNat c0)), .val (.int (Int32.ofNat pb)), .val (.ref b1), .val (.int (Int32.ofNat (B + 1))), .val (.long (Int64.ofNat (c0 + 1))), .second, .val (.int (Int32.ofNat (B + 1 + pb))), .val (.int (1 : Int32)), .val (.long ((1 : Int64) <<< ((Int32.ofNat (B + 1 + pb)) &&& 0x3f).toInt64)), .second, .val (.long ff), .second, .val (.int (Int32.ofNat jj)), .val (.long gg), .second, .unset] [(.int (lcmpW (((ff.toUInt64 >>> ((Int32.ofNat (B + 1)) &&& 0x3f).toInt64.toUInt64).toInt64) &&& (((1 : Int64) <<< (((Int32.ofNat pb) + (1 : Int32)) &&& 0x3f).toInt64) - (1 : Int64))) ((1 : Int64) <<< ((Int32.ofNat pb) &&& 0x3f).toInt64)))])) (fun tt_ kk_ => XS.lcmp X35.here hx rfl (hb hby at_225) rfl kk_) ?_
      refine Gq.go (T35.setTop (mkF m 229 #[.val (.int x0), .val (.int x1), .val (.long x2), .second, .val (.int x3), .val (.int x4), .val (.int (Int32.ofNat c0)), .val (.int (Int32.ofNat pb)), .val (.ref b1), .val (.int (Int32.ofNat (B + 1))), .val (.long (Int64.ofNat (c0 + 1))), .second, .val (.int (Int32.ofNat (B + 1 + pb))), .val (.int (1 : Int32)), .val (.long ((1 : Int64) <<< ((Int32.ofNat (B + 1 + pb)) &&& 0x3f).toInt64)), .second, .val (.long ff), .second, .val (.int (Int32.ofNat jj)), .val (.long gg), .second, .unset] [])) (fun tt_ kk_ => XS.ifNo X35.here hx rfl (hb hby at_226) rfl ((if0 _ _).trans (flt (own_reach1 hf (by omega) (by omega))).1) kk_) ?_
      refine Gq.go (T35.setTop (mkF m 230 #[.val (.int x0), .val (.int x1), .val (.long x2), .second, .val (.int x3), .val (.int x4), .val (.int (Int32.ofNat c0)), .val (.int (Int32.ofNat pb)), .val (.ref b1), .val (.int (Int32.ofNat (B + 1))), .val (.long (Int64.ofNat (c0 + 1))), .second, .val (.int (Int32.ofNat (B + 1 + pb))), .val (.int (1 : Int32)), .val (.long ((1 : Int64) <<< ((Int32.ofNat (B + 1 + pb)) &&& 0x3f).toInt64)), .second, .val (.long ff), .second, .val (.int (Int32.ofNat jj)), .val (.long gg), .second, .unset] [(.int (1 : Int32))])) (fun tt_ kk_ => XS.iconst X35.here hx rfl (hb hby at_229) kk_) ?_
      refine Gq.go (T35.setTop (mkF m 234 #[.val (.int x0), .val (.int x1), .val (.long x2), .second, .val (.int x3), .val (.int x4), .val (.int (Int32.ofNat c0)), .val (.int (Int32.ofNat pb)), .val (.ref b1), .val (.int (Int32.ofNat (B + 1))), .val (.long (Int64.ofNat (c0 + 1))), .second, .val (.int (Int32.ofNat (B + 1 + pb))), .val (.int (1 : Int32)), .val (.long ((1 : Int64) <<< ((Int32.ofNat (B + 1 + pb)) &&& 0x3f).toInt64)), .second, .val (.long ff), .second, .val (.int (Int32.ofNat jj)), .val (.long gg), .second, .unset] [(.int (1 : Int32))])) (fun tt_ kk_ => XS.goto X35.here hx rfl (pc0 := 230) (pc' := 234) rfl (hb hby at_230) (by decide) (by decide) kk_) ?_
      refine Gq.go (T35.setTop (mkF m 236 #[.val (.int x0), .val (.int x1), .val (.long x2), .second, .val (.int x3), .val (.int x4), .val (.int (Int32.ofNat c0)), .val (.int (Int32.ofNat pb)), .val (.ref b1), .val (.int (Int32.ofNat (B + 1))), .val (.long (Int64.ofNat (c0 + 1))), .second, .val (.int (Int32.ofNat (B + 1 + pb))), .val (.int (1 : Int32)), .val (.long ((1 : Int64) <<< ((Int32.ofNat (B + 1 + pb)) &&& 0x3f).toInt64)), .second, .val (.long ff), .second, .val (.int (Int32.ofNat jj)), .val (.long gg), .second, .val (.int (1 : Int32))] [])) (fun tt_ kk_ => XS.istore X35.here hx rfl (hb hby at_234) rfl (l' := #[.val (.int x0), .val (.int x1), .val (.long x2), .second, .val (.int x3), .val (.int x4), .val (.int (Int32.ofNat c0)), .val (.int (Int32.ofNat pb)), .val (.ref b1), .val (.int (Int32.ofNat (B + 1))), .val (.long (Int64.ofNat (c0 + 1))), .second, .val (.int (Int32.ofNat (B + 1 + pb))), .val (.int (1 : Int32)), .val (.long ((1 : Int64) <<< ((Int32.ofNat (B + 1 + pb)) &&& 0x3f).toInt64)), .second, .val (.long ff), .second, .val (.int (Int32.ofNat jj)), .val (.long gg), .second, .val (.int (1 : Int32))]) rfl kk_) ?_
      refine Gq.go (T35.setTop (mkF m 238 #[.val (.int x0), .val (.int x1), .val (.long x2), .second, .val (.int x3), .val (.int x4), .val (.int (Int32.ofNat c0)), .val (.int (Int32.ofNat pb)), .val (.ref b1), .val (.int (Int32.ofNat (B + 1))), .val (.long (Int64.ofNat (c0 + 1))), .second, .val (.int (Int32.ofNat (B + 1 + pb))), .val (.int (1 : Int32)), .val (.long ((1 : Int64) <<< ((Int32.ofNat (B + 1 + pb)) &&& 0x3f).toInt64)), .second, .val (.long ff), .second, .val (.int (Int32.ofNat jj)), .val (.long gg), .second, .val (.int (1 : Int32))] [(.int (1 : Int32))])) (fun tt_ kk_ => XS.iload X35.here hx rfl (hb hby at_236) rfl kk_) ?_
      refine Gq.go (T35.setTop (mkF m 240 #[.val (.int x0), .val (.int x1), .val (.long x2), .second, .val (.int x3), .val (.int x4), .val (.int (Int32.ofNat c0)), .val (.int (Int32.ofNat pb)), .val (.ref b1), .val (.int (Int32.ofNat (B + 1))), .val (.long (Int64.ofNat (c0 + 1))), .second, .val (.int (Int32.ofNat (B + 1 + pb))), .val (.int (1 : Int32)), .val (.long ((1 : Int64) <<< ((Int32.ofNat (B + 1 + pb)) &&& 0x3f).toInt64)), .second, .val (.long ff), .second, .val (.int (Int32.ofNat jj)), .val (.long gg), .second, .val (.int (1 : Int32))] [(.int (1 : Int32)), (.int (1 : Int32))])) (fun tt_ kk_ => XS.iload X35.here hx rfl (hb hby at_238) rfl kk_) ?_
      refine Gq.go (T35.setTop (mkF m 243 #[.val (.int x0), .val (.int x1), .val (.long x2), .second, .val (.int x3), .val (.int x4), .val (.int (Int32.ofNat c0)), .val (.int (Int32.ofNat pb)), .val (.ref b1), .val (.int (Int32.ofNat (B + 1))), .val (.long (Int64.ofNat (c0 + 1))), .second, .val (.int (Int32.ofNat (B + 1 + pb))), .val (.int (1 : Int32)), .val (.long ((1 : Int64) <<< ((Int32.ofNat (B + 1 + pb)) &&& 0x3f).toInt64)), .second, .val (.long ff), .second, .val (.int (Int32.ofNat jj)), .val (.long gg), .second, .val (.int (1 : Int32))] [])) (fun tt_ kk_ => XS.icmpNo X35.here hx rfl (hb hby at_240) rfl (teq (by decide : ((1 : Int32) = (1 : Int32)))).2 kk_) ?_
      refine Gq.go (T35.setTop (mkF m 244 #[.val (.int x0), .val (.int x1), .val (.long x2), .second, .val (.int x3), .val (.int x4), .val (.int (Int32.ofNat c0)), .val (.int (Int32.ofNat pb)), .val (.ref b1), .val (.int (Int32.ofNat (B + 1))), .val (.long (Int64.ofNat (c0 + 1))), .second, .val (.int (Int32.ofNat (B + 1 + pb))), .val (.int (1 : Int32)), .val (.long ((1 : Int64) <<< ((Int32.ofNat (B + 1 + pb)) &&& 0x3f).toInt64)), .second, .val (.long ff), .second, .val (.int (Int32.ofNat jj)), .val (.long gg), .second, .val (.int (1 : Int32))] [(.int (1 : Int32))])) (fun tt_ kk_ => XS.iconst X35.here hx rfl (hb hby at_243) kk_) ?_
      refine Gq.go (T35.setTop (mkF m 248 #[.val (.int x0), .val (.int x1), .val (.long x2), .second, .val (.int x3), .val (.int x4), .val (.int (Int32.ofNat c0)), .val (.int (Int32.ofNat pb)), .val (.ref b1), .val (.int (Int32.ofNat (B + 1))), .val (.long (Int64.ofNat (c0 + 1))), .second, .val (.int (Int32.ofNat (B + 1 + pb))), .val (.int (1 : Int32)), .val (.long ((1 : Int64) <<< ((Int32.ofNat (B + 1 + pb)) &&& 0x3f).toInt64)), .second, .val (.long ff), .second, .val (.int (Int32.ofNat jj)), .val (.long gg), .second, .val (.int (1 : Int32))] [(.int (1 : Int32))])) (fun tt_ kk_ => XS.goto X35.here hx rfl (pc0 := 244) (pc' := 248) rfl (hb hby at_244) (by decide) (by decide) kk_) ?_
      refine Gq.retI X35 hx Bd.notSynchronized Bd.returns (by simp) (hb hby at_248) rfl (by decide) (by decide) ?_
      show Q0 Z x0 x1 x2 x3 x4 h0 n0 _ T35.heap _
      rw [eh35]
      exact ⟨rfl, N35⟩
set_option maxRecDepth 65536 in
set_option maxHeartbeats 40000000 in
theorem comes_1 {Post : Tables → Env → Array Value → State → Outcome → State → Prop} (hpost : ∀ tb e args s v u, (limb_1_1.after args s (.returned v) u = true ∧ limb_1_2.after args s (.returned v) u = true ∧ True) → FrameEnd s (.returned v) u (Jvm.fieldLocs frame_1_writes args s ++ Jvm.arrayLocs frame_1_arrays args s ++ Jvm.staticLocs frame_1_statics s) 16 128 → Post tb e args s (.returned v) u) :
    ArmFor flags0 classFile x code maxLocals ret World_1 tables_1 room_1 Calls_1 rest_1 Pre_1 Post := by
  intro l hfl _ _ p e ha hc hk s m args below hf hA hF happ hP
  obtain ⟨hcalls, hrest, hpre⟩ := hP
  obtain ⟨-, -, -, hnamed, -, -, -, hat⟩ := (Spec.applies_iff hf).mp happ
  obtain ⟨hg, hn⟩ := and_e (Cond.before_iff.mp (show (Jvm.Cond.and given_1 narrow_1).before args s = true from hpre))
  obtain ⟨g1, g2⟩ := and_e hg
  obtain ⟨g3, g4⟩ := and_e g2
  obtain ⟨g5, g6⟩ := and_e g4
  obtain ⟨g7, g8⟩ := and_e g6
  obtain ⟨g9, g10⟩ := and_e g8
  obtain ⟨w0, w1, w2, w3, w4, rfl⟩ : ∃ w0 w1 w2 w3 w4 : Value, args = #[w0, w1, w2, w3, w4] := by
    have hs : args.size = 5 := by simpa [Cond.value, given_1] using g1
    obtain ⟨L⟩ := args
    match L, hs with
    | [w0, w1, w2, w3, w4], _ => exact ⟨w0, w1, w2, w3, w4, rfl⟩
  have hw := fun d (hd : d ∈ tables_1) => atoms_spec (ws := Jvm.Cond.code x code maxLocals ret :: tables_1) hat d (List.mem_cons_of_mem _ hd)
  obtain ⟨i0, ei0⟩ := is_v g3
  obtain rfl : w0 = (.int i0) := Option.some.inj ei0
  obtain ⟨i1, ei1⟩ := is_v g5
  obtain rfl : w1 = (.int i1) := Option.some.inj ei1
  obtain ⟨i2, ei2⟩ := isL_v g7
  obtain rfl : w2 = (.long i2) := Option.some.inj ei2
  obtain ⟨i3, ei3⟩ := is_v g9
  obtain rfl : w3 = (.int i3) := Option.some.inj ei3
  obtain ⟨i4, ei4⟩ := is_v g10
  obtain rfl : w4 = (.int i4) := Option.some.inj ei4
  obtain ⟨n, o, h1, h2, h3, _, L, rfl, ⟨rfl, N⟩, hq⟩ := rm0 l s _ hw tables_1 i0 i1 i2 i3 i4 s.heap s.heap.size (Nat.le_refl _)  p e ha hc hk s m _ below hf ((Spec.applies_iff_loose hf).mp happ).1 ⟨rfl, State.Warmed39.refl s, rfl⟩ trivial
  refine ⟨n, _, h1, h2, h3, hpost _ _ _ _ _ _ ⟨Cond.after_iff.mpr rfl, Cond.after_iff.mpr (eq_i res_at (Term.int_eval (1)) rfl), trivial⟩ ⟨hq.1, hq.2.1, (hq.2.2.sift fun y hy => Or.inr (N y hy)).mono (by decide) (by decide)⟩⟩
theorem main_1_1 : Claimed_1_1 := comes_1 fun _ _ _ _ _ _ h hF => ⟨h.1, hF⟩
theorem main_1_2 : Claimed_1_2 := comes_1 fun _ _ _ _ _ _ h hF => ⟨h.2.1, hF⟩
end Jvm.Pilot.@@N@@
namespace Jvm.Pilot.@@N@@
open Jvm Jvm.ClassFile Sem Op Lib Jvm.Free Jvm.Stand Jvm.Pilot.@@N@@.Jvm.D
/-! MADE BY PROGRAM (witnessworld.py) out of the Statement's table words and the real class files: 15 classes; the members and pool entries that the words name. The judged class is class 1, her method 1. -/
namespace start1
open Jvm.ClassFile
def u (s : String) : CpInfo := .utf8 (stringToUtf16 s)
/-- a pool by its gaps: so many unusable entries, then the entry; so many at the end -/
def gap : Nat → List CpInfo → List CpInfo
  | 0, r => r
  | n + 1, r => .unusable :: gap n r
def poolList (es : List (Nat × CpInfo)) (last : Nat) : List CpInfo := es.foldr (fun e r => gap e.1 (e.2 :: r)) (gap last [])
def pool (es : List (Nat × CpInfo)) (last : Nat) : Array CpInfo := ⟨poolList es last⟩
def fileOf (pool : Array CpInfo) (this : Nat) (attrs : Array Attribute := #[]) (ms : Array MethodInfo := #[]) (fl : Nat := 33) (sup : Nat := 0) (ifs : Array Nat := #[]) (fds : Array FieldInfo := #[]) : ClassFile where
  minorVersion := 0
  majorVersion := 65
  constantPool := pool
  accessFlags := fl
  thisClass := this
  superClass := sup
  interfaces := ifs
  fields := fds
  methods := ms
  attributes := attrs
def plain (name : String) (sup : Option ClassId) : Class where
  name := name
  kind := .ordinary
  loader := none
  accessFlags := 33
  super := sup
  interfaces := #[]
  cf := none
  fields := #[]
  methods := #[]
  instanceTypes := #[]
  staticTypes := #[]
  resolved := #[]
  callSites := []
  init := .initialized
  statics := none
  mirror := none

def pool0 : Array CpInfo := pool [(5, u "<init>"), (0, u "()V"), (1, .class_ 10), (1, u "java/lang/Object")] 113

def k0c0 : Code := { maxStack := 0, maxLocals := 1, code := object_method_1_code, exceptionTable := #[], attributes := #[] }
def k0m0 : Method := { name := "<init>", desc := "()V", sig := { parameters := [], returnType := none }, accessFlags := 1, code := some k0c0 }
/-- java/lang/Object -/
def k0 : Class := { plain "java/lang/Object" none with
  accessFlags := 33
  interfaces := #[]
  cf := some (fileOf pool0 8 #[] #[{ accessFlags := 1, nameIndex := 5, descriptorIndex := 6, attributes := #[] }] 33 0 #[] #[])
  fields := #[]
  methods := #[k0m0]
  instanceTypes := #[]
  staticTypes := #[]
  resolved := Array.replicate 124 none
  statics := none }

def pool1 : Array CpInfo := pool [(2, .class_ 4), (1, u "java/lang/Object"), (0, u "<init>"), (0, u "()V"), (0, .integer 2147483647), (0, .class_ 9), (0, u "com/example/dense_trie/densetrie/CellFields"), (0, .methodref 8 11), (0, .nameAndType 5 12), (0, u "(II)V"), (0, .methodref 8 14), (0, .nameAndType 15 16), (0, u "labelBits"), (0, u "()I"), (0, .methodref 8 18), (0, .nameAndType 19 16), (0, u "payloadBits"), (0, .long 18446744073709551615), (1, .methodref 8 23), (0, .nameAndType 24 25), (0, u "isValue"), (0, u "(J)Z"), (0, .methodref 8 27), (0, .nameAndType 28 29), (0, u "valueFlag"), (0, u "()J"), (0, .methodref 8 31), (0, .nameAndType 32 33), (0, u "reach"), (0, u "(J)J"), (0, .class_ 35), (0, u "com/example/dense_trie/densetrie/CellFieldsIsValuePinLaw"), (2, u "law"), (0, u "(IIJII)Z")] 3

def k1m0 : Method := { name := "<init>", desc := "()V", sig := { parameters := [], returnType := none }, accessFlags := 1, code := none }
def k1c1 : Code := { maxStack := 6, maxLocals := 22, code := code, exceptionTable := #[], attributes := #[] }
def k1m1 : Method := { name := "law", desc := "(IIJII)Z", sig := { parameters := [.int, .int, .long, .int, .int], returnType := some .boolean }, accessFlags := 9, code := some k1c1 }
/-- com/example/dense_trie/densetrie/CellFieldsIsValuePinLaw -/
def k1 : Class := { plain "com/example/dense_trie/densetrie/CellFieldsIsValuePinLaw" (some 0) with
  accessFlags := 49
  interfaces := #[]
  cf := some (fileOf pool1 34 #[] #[{ accessFlags := 1, nameIndex := 5, descriptorIndex := 6, attributes := #[] }, { accessFlags := 9, nameIndex := 38, descriptorIndex := 39, attributes := #[] }] 49 2 #[] #[])
  fields := #[]
  methods := #[k1m0, k1m1]
  instanceTypes := #[]
  staticTypes := #[]
  resolved := Array.replicate 43 none
  statics := none }

def pool2 : Array CpInfo := pool [(1, .class_ 2), (0, u "java/lang/Long"), (0, .methodref 4 5), (0, .class_ 6), (0, .nameAndType 7 8), (0, u "java/lang/Object"), (0, u "<init>"), (0, u "()V"), (0, .methodref 10 11), (0, .class_ 12), (0, .nameAndType 13 14), (0, u "com/example/dense_trie/densetrie/CellFields"), (0, u "labelBitsFor"), (0, u "(I)I"), (0, .fieldref 10 16), (0, .nameAndType 17 18), (0, u "labelBits"), (0, u "I"), (0, .fieldref 10 20), (0, .nameAndType 21 18), (0, u "payloadBits"), (0, .fieldref 10 23), (0, .nameAndType 24 18), (0, u "cellBits"), (0, .fieldref 10 26), (0, .nameAndType 27 28), (0, u "labelMask"), (0, u "J"), (0, .fieldref 10 30), (0, .nameAndType 31 28), (0, u "payloadMask"), (0, .fieldref 10 33), (0, .nameAndType 34 28), (0, u "reachMask"), (0, .fieldref 10 36), (0, .nameAndType 37 28), (0, u "valueFlag"), (4, .methodref 10 43), (0, .nameAndType 44 45), (0, u "bitsFor"), (0, u "(J)I"), (6, .methodref 1 53), (0, .nameAndType 54 45), (0, u "numberOfLeadingZeros"), (2, u "LONGS"), (0, u "Ljava/lang/invoke/VarHandle;"), (34, u "MAX_PAYLOAD_BITS"), (2, u "PADDING"), (1, u "(II)V"), (4, u "()I"), (1, u "()J"), (3, u "reach"), (0, u "(J)J"), (0, u "isValue"), (0, u "(J)Z")] 11

def k2c0 : Code := { maxStack := 5, maxLocals := 3, code := prog_4_method_1_code, exceptionTable := #[], attributes := #[] }
def k2m0 : Method := { name := "<init>", desc := "(II)V", sig := { parameters := [.int, .int], returnType := none }, accessFlags := 0, code := some k2c0 }
def k2c1 : Code := { maxStack := 4, maxLocals := 1, code := prog_4_method_3_code, exceptionTable := #[], attributes := #[] }
def k2m1 : Method := { name := "labelBitsFor", desc := "(I)I", sig := { parameters := [.int], returnType := some .int }, accessFlags := 8, code := some k2c1 }
def k2c2 : Code := { maxStack := 3, maxLocals := 2, code := prog_4_method_5_code, exceptionTable := #[], attributes := #[] }
def k2m2 : Method := { name := "bitsFor", desc := "(J)I", sig := { parameters := [.long], returnType := some .int }, accessFlags := 8, code := some k2c2 }
def k2c3 : Code := { maxStack := 1, maxLocals := 1, code := prog_4_method_6_code, exceptionTable := #[], attributes := #[] }
def k2m3 : Method := { name := "labelBits", desc := "()I", sig := { parameters := [], returnType := some .int }, accessFlags := 0, code := some k2c3 }
def k2c4 : Code := { maxStack := 1, maxLocals := 1, code := prog_4_method_7_code, exceptionTable := #[], attributes := #[] }
def k2m4 : Method := { name := "payloadBits", desc := "()I", sig := { parameters := [], returnType := some .int }, accessFlags := 0, code := some k2c4 }
def k2c5 : Code := { maxStack := 2, maxLocals := 1, code := prog_4_method_9_code, exceptionTable := #[], attributes := #[] }
def k2m5 : Method := { name := "valueFlag", desc := "()J", sig := { parameters := [], returnType := some .long }, accessFlags := 0, code := some k2c5 }
def k2c6 : Code := { maxStack := 4, maxLocals := 3, code := prog_4_method_12_code, exceptionTable := #[], attributes := #[] }
def k2m6 : Method := { name := "reach", desc := "(J)J", sig := { parameters := [.long], returnType := some .long }, accessFlags := 0, code := some k2c6 }
def k2c7 : Code := { maxStack := 4, maxLocals := 3, code := prog_4_method_13_code, exceptionTable := #[], attributes := #[] }
def k2m7 : Method := { name := "isValue", desc := "(J)Z", sig := { parameters := [.long], returnType := some .boolean }, accessFlags := 0, code := some k2c7 }
/-- com/example/dense_trie/densetrie/CellFields -/
def k2 : Class := { plain "com/example/dense_trie/densetrie/CellFields" (some 0) with
  accessFlags := 32
  interfaces := #[]
  cf := some (fileOf pool2 10 #[] #[{ accessFlags := 0, nameIndex := 7, descriptorIndex := 98, attributes := #[] }, { accessFlags := 8, nameIndex := 13, descriptorIndex := 14, attributes := #[] }, { accessFlags := 8, nameIndex := 44, descriptorIndex := 45, attributes := #[] }, { accessFlags := 0, nameIndex := 17, descriptorIndex := 103, attributes := #[] }, { accessFlags := 0, nameIndex := 21, descriptorIndex := 103, attributes := #[] }, { accessFlags := 0, nameIndex := 37, descriptorIndex := 105, attributes := #[] }, { accessFlags := 0, nameIndex := 109, descriptorIndex := 110, attributes := #[] }, { accessFlags := 0, nameIndex := 111, descriptorIndex := 112, attributes := #[] }] 32 4 #[] #[{ accessFlags := 24, nameIndex := 93, descriptorIndex := 18, attributes := #[] }, { accessFlags := 26, nameIndex := 57, descriptorIndex := 58, attributes := #[] }, { accessFlags := 26, nameIndex := 96, descriptorIndex := 18, attributes := #[] }, { accessFlags := 18, nameIndex := 17, descriptorIndex := 18, attributes := #[] }, { accessFlags := 18, nameIndex := 21, descriptorIndex := 18, attributes := #[] }, { accessFlags := 18, nameIndex := 24, descriptorIndex := 18, attributes := #[] }, { accessFlags := 18, nameIndex := 27, descriptorIndex := 28, attributes := #[] }, { accessFlags := 18, nameIndex := 31, descriptorIndex := 28, attributes := #[] }, { accessFlags := 18, nameIndex := 34, descriptorIndex := 28, attributes := #[] }, { accessFlags := 18, nameIndex := 37, descriptorIndex := 28, attributes := #[] }])
  fields := #[{ name := "MAX_PAYLOAD_BITS", type := .int, accessFlags := 24, slot := 0, constantValue := 0 }, { name := "LONGS", type := (.object "java/lang/invoke/VarHandle"), accessFlags := 26, slot := 1, constantValue := 0 }, { name := "PADDING", type := .int, accessFlags := 26, slot := 2, constantValue := 0 }, { name := "labelBits", type := .int, accessFlags := 18, slot := 0, constantValue := 0 }, { name := "payloadBits", type := .int, accessFlags := 18, slot := 1, constantValue := 0 }, { name := "cellBits", type := .int, accessFlags := 18, slot := 2, constantValue := 0 }, { name := "labelMask", type := .long, accessFlags := 18, slot := 3, constantValue := 0 }, { name := "payloadMask", type := .long, accessFlags := 18, slot := 4, constantValue := 0 }, { name := "reachMask", type := .long, accessFlags := 18, slot := 5, constantValue := 0 }, { name := "valueFlag", type := .long, accessFlags := 18, slot := 6, constantValue := 0 }]
  methods := #[k2m0, k2m1, k2m2, k2m3, k2m4, k2m5, k2m6, k2m7]
  instanceTypes := #[.int, .int, .int, .long, .long, .long, .long]
  staticTypes := #[.int, (.object "java/lang/invoke/VarHandle"), .int]
  resolved := Array.replicate 124 none
  statics := none }

def pool3 : Array CpInfo := pool [(1, .class_ 2), (0, u "java/io/Serializable"), (0, .class_ 4), (0, u "java/lang/Object")] 2

/-- java/io/Serializable -/
def k3 : Class := { plain "java/io/Serializable" (some 0) with
  accessFlags := 1537
  interfaces := #[]
  cf := some (fileOf pool3 1 #[] #[] 1537 3 #[] #[])
  fields := #[]
  methods := #[]
  instanceTypes := #[]
  staticTypes := #[]
  resolved := Array.replicate 7 none
  statics := none }

def pool4 : Array CpInfo := pool [(2, .class_ 4), (1, u "java/lang/Object"), (0, u "<init>"), (0, u "()V"), (1, .class_ 10), (1, u "java/lang/Number"), (2, .class_ 14), (0, u "java/io/Serializable"), (0, u "serialVersionUID"), (0, u "J")] 20

def k4m0 : Method := { name := "<init>", desc := "()V", sig := { parameters := [], returnType := none }, accessFlags := 1, code := none }
/-- java/lang/Number -/
def k4 : Class := { plain "java/lang/Number" (some 0) with
  accessFlags := 1057
  interfaces := #[3]
  cf := some (fileOf pool4 8 #[] #[{ accessFlags := 1, nameIndex := 5, descriptorIndex := 6, attributes := #[] }] 1057 2 #[13] #[{ accessFlags := 26, nameIndex := 15, descriptorIndex := 16, attributes := #[] }])
  fields := #[{ name := "serialVersionUID", type := .long, accessFlags := 26, slot := 0, constantValue := 0 }]
  methods := #[k4m0]
  instanceTypes := #[]
  staticTypes := #[.long]
  resolved := Array.replicate 37 none
  statics := none }

def pool5 : Array CpInfo := pool [(1, .class_ 2), (0, u "java/lang/Comparable"), (0, .class_ 4), (0, u "java/lang/Object")] 7

/-- java/lang/Comparable -/
def k5 : Class := { plain "java/lang/Comparable" (some 0) with
  accessFlags := 1537
  interfaces := #[]
  cf := some (fileOf pool5 1 #[] #[] 1537 3 #[] #[])
  fields := #[]
  methods := #[]
  instanceTypes := #[]
  staticTypes := #[]
  resolved := Array.replicate 12 none
  statics := none }

def pool6 : Array CpInfo := pool [(1, .class_ 2), (0, u "java/lang/constant/Constable"), (0, .class_ 4), (0, u "java/lang/Object")] 6

/-- java/lang/constant/Constable -/
def k6 : Class := { plain "java/lang/constant/Constable" (some 0) with
  accessFlags := 1537
  interfaces := #[]
  cf := some (fileOf pool6 1 #[] #[] 1537 3 #[] #[])
  fields := #[]
  methods := #[]
  instanceTypes := #[]
  staticTypes := #[]
  resolved := Array.replicate 11 none
  statics := none }

def pool7 : Array CpInfo := pool [(1, .class_ 2), (0, u "java/lang/constant/ConstantDesc"), (0, .class_ 4), (0, u "java/lang/Object")] 32

/-- java/lang/constant/ConstantDesc -/
def k7 : Class := { plain "java/lang/constant/ConstantDesc" (some 0) with
  accessFlags := 1537
  interfaces := #[]
  cf := some (fileOf pool7 1 #[] #[] 1537 3 #[] #[])
  fields := #[]
  methods := #[]
  instanceTypes := #[]
  staticTypes := #[]
  resolved := Array.replicate 37 none
  statics := none }

def pool8 : Array CpInfo := pool [(1, .class_ 2), (0, u "java/lang/Long"), (15, .class_ 20), (1, u "java/lang/Integer"), (79, u "numberOfLeadingZeros"), (0, u "(J)I"), (133, .class_ 237), (1, u "java/lang/Long$LongCache"), (33, .class_ 272), (0, u "java/lang/Number"), (2, u "value"), (0, u "J"), (31, .methodref 18 309), (0, .nameAndType 100 310), (0, u "(I)I"), (50, u "TYPE"), (0, u "Ljava/lang/Class;"), (0, .class_ 364), (0, u "java/lang/Comparable"), (0, .class_ 366), (0, u "java/lang/constant/Constable"), (0, .class_ 368), (0, u "java/lang/constant/ConstantDesc"), (0, u "MIN_VALUE"), (1, u "MAX_VALUE"), (4, u "SIZE"), (0, u "I"), (1, u "BYTES"), (1, u "serialVersionUID")] 142

def k8c0 : Code := { maxStack := 3, maxLocals := 3, code := jdk_35_method_48_code, exceptionTable := #[], attributes := #[] }
def k8m0 : Method := { name := "numberOfLeadingZeros", desc := "(J)I", sig := { parameters := [.long], returnType := some .int }, accessFlags := 9, code := some k8c0 }
/-- java/lang/Long -/
def k8 : Class := { plain "java/lang/Long" (some 4) with
  accessFlags := 49
  interfaces := #[5, 6, 7]
  cf := some (fileOf pool8 1 #[.nestMembers #[235]] #[{ accessFlags := 9, nameIndex := 100, descriptorIndex := 101, attributes := #[] }] 49 271 #[363, 365, 367] #[{ accessFlags := 25, nameIndex := 369, descriptorIndex := 276, attributes := #[] }, { accessFlags := 25, nameIndex := 371, descriptorIndex := 276, attributes := #[] }, { accessFlags := 25, nameIndex := 361, descriptorIndex := 362, attributes := #[] }, { accessFlags := 18, nameIndex := 275, descriptorIndex := 276, attributes := #[] }, { accessFlags := 25, nameIndex := 376, descriptorIndex := 377, attributes := #[] }, { accessFlags := 25, nameIndex := 379, descriptorIndex := 377, attributes := #[] }, { accessFlags := 26, nameIndex := 381, descriptorIndex := 276, attributes := #[] }])
  fields := #[{ name := "MIN_VALUE", type := .long, accessFlags := 25, slot := 0, constantValue := 0 }, { name := "MAX_VALUE", type := .long, accessFlags := 25, slot := 1, constantValue := 0 }, { name := "TYPE", type := (.object "java/lang/Class"), accessFlags := 25, slot := 2, constantValue := 0 }, { name := "value", type := .long, accessFlags := 18, slot := 0, constantValue := 0 }, { name := "SIZE", type := .int, accessFlags := 25, slot := 3, constantValue := 0 }, { name := "BYTES", type := .int, accessFlags := 25, slot := 4, constantValue := 0 }, { name := "serialVersionUID", type := .long, accessFlags := 26, slot := 5, constantValue := 0 }]
  methods := #[k8m0]
  instanceTypes := #[.long]
  staticTypes := #[.long, .long, (.object "java/lang/Class"), .int, .int, .long]
  resolved := Array.replicate 524 none
  statics := none }

def pool9 : Array CpInfo := pool [(1, .class_ 2), (0, u "java/lang/Integer"), (16, u "digits"), (0, u "[C"), (32, u "numberOfLeadingZeros"), (0, u "(I)I"), (30, u "DigitOnes"), (0, u "[B"), (2, u "DigitTens"), (99, .class_ 190), (0, u "java/lang/Integer$IntegerCache"), (3, u "I"), (8, .class_ 204), (0, u "java/lang/Number"), (2, u "value"), (56, .integer 65536), (37, u "TYPE"), (0, u "Ljava/lang/Class;"), (0, .class_ 305), (0, u "java/lang/Comparable"), (0, .class_ 307), (0, u "java/lang/constant/Constable"), (0, .class_ 309), (0, u "java/lang/constant/ConstantDesc"), (0, u "MIN_VALUE"), (1, u "MAX_VALUE"), (3, u "SIZE"), (1, u "BYTES"), (1, u "serialVersionUID"), (0, u "J")] 131

def k9c0 : Code := { maxStack := 3, maxLocals := 2, code := jdk_33_method_47_code, exceptionTable := #[], attributes := #[] }
def k9m0 : Method := { name := "numberOfLeadingZeros", desc := "(I)I", sig := { parameters := [.int], returnType := some .int }, accessFlags := 9, code := some k9c0 }
/-- java/lang/Integer -/
def k9 : Class := { plain "java/lang/Integer" (some 4) with
  accessFlags := 49
  interfaces := #[5, 6, 7]
  cf := some (fileOf pool9 1 #[.nestMembers #[189]] #[{ accessFlags := 9, nameIndex := 53, descriptorIndex := 54, attributes := #[] }] 49 203 #[304, 306, 308] #[{ accessFlags := 25, nameIndex := 310, descriptorIndex := 194, attributes := #[] }, { accessFlags := 25, nameIndex := 312, descriptorIndex := 194, attributes := #[] }, { accessFlags := 25, nameIndex := 302, descriptorIndex := 303, attributes := #[] }, { accessFlags := 24, nameIndex := 19, descriptorIndex := 20, attributes := #[] }, { accessFlags := 24, nameIndex := 89, descriptorIndex := 86, attributes := #[] }, { accessFlags := 24, nameIndex := 85, descriptorIndex := 86, attributes := #[] }, { accessFlags := 18, nameIndex := 207, descriptorIndex := 194, attributes := #[] }, { accessFlags := 25, nameIndex := 316, descriptorIndex := 194, attributes := #[] }, { accessFlags := 25, nameIndex := 318, descriptorIndex := 194, attributes := #[] }, { accessFlags := 26, nameIndex := 320, descriptorIndex := 321, attributes := #[] }])
  fields := #[{ name := "MIN_VALUE", type := .int, accessFlags := 25, slot := 0, constantValue := 0 }, { name := "MAX_VALUE", type := .int, accessFlags := 25, slot := 1, constantValue := 0 }, { name := "TYPE", type := (.object "java/lang/Class"), accessFlags := 25, slot := 2, constantValue := 0 }, { name := "digits", type := (.array .char), accessFlags := 24, slot := 3, constantValue := 0 }, { name := "DigitTens", type := (.array .byte), accessFlags := 24, slot := 4, constantValue := 0 }, { name := "DigitOnes", type := (.array .byte), accessFlags := 24, slot := 5, constantValue := 0 }, { name := "value", type := .int, accessFlags := 18, slot := 0, constantValue := 0 }, { name := "SIZE", type := .int, accessFlags := 25, slot := 6, constantValue := 0 }, { name := "BYTES", type := .int, accessFlags := 25, slot := 7, constantValue := 0 }, { name := "serialVersionUID", type := .long, accessFlags := 26, slot := 8, constantValue := 0 }]
  methods := #[k9m0]
  instanceTypes := #[.int]
  staticTypes := #[.int, .int, (.object "java/lang/Class"), (.array .char), (.array .byte), (.array .byte), .int, .int, .long]
  resolved := Array.replicate 453 none
  statics := none }

def pool10 : Array CpInfo := pool [(1, u "java/lang/Cloneable"), (0, .class_ 1), (0, u "java/lang/Object"), (0, .class_ 3)] 3

/-- java/lang/Cloneable -/
def k10 : Class := { plain "java/lang/Cloneable" (some 0) with
  accessFlags := 1537
  interfaces := #[]
  cf := some (fileOf pool10 2 #[] #[] 1537 4 #[] #[])
  fields := #[]
  methods := #[]
  instanceTypes := #[]
  staticTypes := #[]
  resolved := Array.replicate 8 none
  statics := none }

/-- the primitive byte -/
def k11 : Class := { plain "byte" none with kind := .primitive 'B', accessFlags := 0x411 }
/-- [B -/
def k12 : Class := { plain "[B" (some 0) with kind := .array 11 .byte, interfaces := #[10, 3], accessFlags := 1041 }

/-- the primitive int -/
def k13 : Class := { plain "int" none with kind := .primitive 'I', accessFlags := 0x411 }
/-- [I -/
def k14 : Class := { plain "[I" (some 0) with kind := .array 13 .int, interfaces := #[10, 3], accessFlags := 1041 }

def heap : Heap := #[]
def classes : Array Class := #[k0, k1, k2, k3, k4, k5, k6, k7, k8, k9, k10, k11, k12, k13, k14]
def interned : List (Array UInt16 × Addr) := []
def slotsUsed : Nat := 0
def theMethod : MethodId := ⟨1, 1⟩
def args0 : Array Value := #[.int 1, .int 2, .long 3, .int 4, .int 5]
def aboutOver (below : List Frame) : State where
  vm := { classes := classes, interned := interned.toArray }
  heap := heap
  slotsUsed := slotsUsed
  threads := #[{ frames := .invoking theMethod args0 :: below }]
def below0 : List Frame := [.native { method := ⟨0, 0⟩, args := #[] }]
def about1 : State := aboutOver below0
def p0 : Program := .bare "" "" ""
def e0 : Env := launch0.env 0 0 0
theorem w_frames : about1.frames = Frame.invoking theMethod args0 :: below0 := rfl
set_option maxRecDepth 65536 in
theorem w_args : argsFit about1.vm theMethod args0 = true := by decide +kernel
set_option maxRecDepth 65536 in
theorem w_heap : heapFits about1 = true := by decide +kernel
set_option maxRecDepth 65536 in
theorem w_runnable : about1.curStatus? = some .runnable := by decide +kernel
set_option maxRecDepth 65536 in
theorem w_alone : about1.alone = true := by decide +kernel
set_option maxRecDepth 65536 in
theorem w_named : about1.methodNamed? x = some theMethod := by decide +kernel
set_option maxRecDepth 65536 in
theorem w_hears : about1.hears theMethod below0 = true := by decide +kernel
set_option maxRecDepth 65536 in
theorem w_ripe : about1.ripe theMethod args0 below0 = true := by decide +kernel
theorem w_running : about1.status = .running := rfl
set_option maxRecDepth 65536 in
theorem w_room : about1.hasRoom e0.platform room_1 = true :=
  launch0.hasRoom_least _ room_1 (by decide +kernel) (by decide +kernel) (by decide +kernel) (by decide +kernel) (by decide +kernel) (by decide +kernel)
theorem allAtoms_all (ts : List Jvm.Cond) (a : Array Jvm.Value) (st : Jvm.State) : (allAtoms ts).before a st = ts.all (fun c => c.before a st) := by
  induction ts with
  | nil => rfl
  | cons c t ih =>
    show (Jvm.Cond.and c (allAtoms t)).before a st = _
    rw [Jvm.Cond.before_and, ih, List.all_cons]
def words1 : List Jvm.Cond := Jvm.Cond.code x code maxLocals ret :: tables_1
/-- a 'code' word, met by the world's own term for the bytes: nothing is compared byte by byte -/
theorem code_word {y : MethodName} {bytes : ByteArray} {mx : Nat} {rt : Option FieldType} {a : Array Value} {s : State} {m : MethodId} {meth : Method} {c : Code} (h1 : s.methodNamed? y = some m) (h2 : s.vm.method? m = some meth) (h3 : meth.code = some c) (h4 : c.code = bytes)
    (h5 : (c.maxLocals == mx && c.exceptionTable.isEmpty && decide (c.maxStack ≤ mostOperands) && decide (meth.sig.returnType = rt) && !meth.locks && decide (parseMethodDescriptor y.desc = some meth.sig)) = true) : (Jvm.Cond.code y bytes mx rt).before a s = true := by
  simp only [Bool.and_eq_true, beq_iff_eq, Bool.not_eq_true', decide_eq_true_eq] at h5
  obtain ⟨⟨⟨⟨⟨g1, g2⟩, g3⟩, g4⟩, g5⟩, g6⟩ := h5
  simp [Cond.before, Cond.holds, Cond.value, h1, h2, h3, h4, g1, g2, g3, g4, g5, g6]
def isCode : Jvm.Cond → Bool
  | .code _ _ _ _ => true
  | _ => false
theorem all_split {L : List Jvm.Cond} {P : Jvm.Cond → Bool} (h1 : L.all (fun c => isCode c || P c) = true) (h2 : ∀ c ∈ L.filter isCode, P c = true) : L.all P = true := by
  refine List.all_eq_true.mpr fun c hc => ?_
  have h := List.all_eq_true.mp h1 c hc
  rcases Bool.eq_false_or_eq_true (isCode c) with hi | hi
  · exact h2 c (List.mem_filter.mpr ⟨hc, hi⟩)
  · simpa [hi] using h
set_option maxRecDepth 65536 in
theorem w_c0 : (Jvm.Cond.code x code maxLocals ret).before args0 about1 = true := code_word (m := ⟨1, 1⟩) (meth := k1m1) (c := k1c1) (by decide +kernel) rfl rfl rfl (by decide +kernel)
set_option maxRecDepth 65536 in
theorem w_c1 : (Jvm.Cond.code ({ cls := "com/example/dense_trie/densetrie/CellFields", name := "<init>", desc := "(II)V" } : Jvm.MethodName) prog_4_method_1_code (3 : Nat) (Option.none : Option Jvm.ClassFile.FieldType)).before args0 about1 = true := code_word (m := ⟨2, 0⟩) (meth := k2m0) (c := k2c0) (by decide +kernel) rfl rfl rfl (by decide +kernel)
set_option maxRecDepth 65536 in
theorem w_c2 : (Jvm.Cond.code ({ cls := "java/lang/Object", name := "<init>", desc := "()V" } : Jvm.MethodName) object_method_1_code (1 : Nat) (Option.none : Option Jvm.ClassFile.FieldType)).before args0 about1 = true := code_word (m := ⟨0, 0⟩) (meth := k0m0) (c := k0c0) (by decide +kernel) rfl rfl rfl (by decide +kernel)
set_option maxRecDepth 65536 in
theorem w_c3 : (Jvm.Cond.code ({ cls := "com/example/dense_trie/densetrie/CellFields", name := "labelBitsFor", desc := "(I)I" } : Jvm.MethodName) prog_4_method_3_code (1 : Nat) (Option.some Jvm.ClassFile.FieldType.int)).before args0 about1 = true := code_word (m := ⟨2, 1⟩) (meth := k2m1) (c := k2c1) (by decide +kernel) rfl rfl rfl (by decide +kernel)
set_option maxRecDepth 65536 in
theorem w_c4 : (Jvm.Cond.code ({ cls := "com/example/dense_trie/densetrie/CellFields", name := "bitsFor", desc := "(J)I" } : Jvm.MethodName) prog_4_method_5_code (2 : Nat) (Option.some Jvm.ClassFile.FieldType.int)).before args0 about1 = true := code_word (m := ⟨2, 2⟩) (meth := k2m2) (c := k2c2) (by decide +kernel) rfl rfl rfl (by decide +kernel)
set_option maxRecDepth 65536 in
theorem w_c5 : (Jvm.Cond.code ({ cls := "java/lang/Long", name := "numberOfLeadingZeros", desc := "(J)I" } : Jvm.MethodName) jdk_35_method_48_code (3 : Nat) (Option.some Jvm.ClassFile.FieldType.int)).before args0 about1 = true := code_word (m := ⟨8, 0⟩) (meth := k8m0) (c := k8c0) (by decide +kernel) rfl rfl rfl (by decide +kernel)
set_option maxRecDepth 65536 in
theorem w_c6 : (Jvm.Cond.code ({ cls := "java/lang/Integer", name := "numberOfLeadingZeros", desc := "(I)I" } : Jvm.MethodName) jdk_33_method_47_code (2 : Nat) (Option.some Jvm.ClassFile.FieldType.int)).before args0 about1 = true := code_word (m := ⟨9, 0⟩) (meth := k9m0) (c := k9c0) (by decide +kernel) rfl rfl rfl (by decide +kernel)
set_option maxRecDepth 65536 in
theorem w_c7 : (Jvm.Cond.code ({ cls := "com/example/dense_trie/densetrie/CellFields", name := "labelBits", desc := "()I" } : Jvm.MethodName) prog_4_method_6_code (1 : Nat) (Option.some Jvm.ClassFile.FieldType.int)).before args0 about1 = true := code_word (m := ⟨2, 3⟩) (meth := k2m3) (c := k2c3) (by decide +kernel) rfl rfl rfl (by decide +kernel)
set_option maxRecDepth 65536 in
theorem w_c8 : (Jvm.Cond.code ({ cls := "com/example/dense_trie/densetrie/CellFields", name := "payloadBits", desc := "()I" } : Jvm.MethodName) prog_4_method_7_code (1 : Nat) (Option.some Jvm.ClassFile.FieldType.int)).before args0 about1 = true := code_word (m := ⟨2, 4⟩) (meth := k2m4) (c := k2c4) (by decide +kernel) rfl rfl rfl (by decide +kernel)
set_option maxRecDepth 65536 in
theorem w_c9 : (Jvm.Cond.code ({ cls := "com/example/dense_trie/densetrie/CellFields", name := "isValue", desc := "(J)Z" } : Jvm.MethodName) prog_4_method_13_code (3 : Nat) (Option.some Jvm.ClassFile.FieldType.boolean)).before args0 about1 = true := code_word (m := ⟨2, 7⟩) (meth := k2m7) (c := k2c7) (by decide +kernel) rfl rfl rfl (by decide +kernel)
set_option maxRecDepth 65536 in
theorem w_c10 : (Jvm.Cond.code ({ cls := "com/example/dense_trie/densetrie/CellFields", name := "valueFlag", desc := "()J" } : Jvm.MethodName) prog_4_method_9_code (1 : Nat) (Option.some Jvm.ClassFile.FieldType.long)).before args0 about1 = true := code_word (m := ⟨2, 5⟩) (meth := k2m5) (c := k2c5) (by decide +kernel) rfl rfl rfl (by decide +kernel)
set_option maxRecDepth 65536 in
theorem w_c11 : (Jvm.Cond.code ({ cls := "com/example/dense_trie/densetrie/CellFields", name := "reach", desc := "(J)J" } : Jvm.MethodName) prog_4_method_12_code (3 : Nat) (Option.some Jvm.ClassFile.FieldType.long)).before args0 about1 = true := code_word (m := ⟨2, 6⟩) (meth := k2m6) (c := k2c6) (by decide +kernel) rfl rfl rfl (by decide +kernel)
def codes1 : List Jvm.Cond := [Jvm.Cond.code x code maxLocals ret, Jvm.Cond.code ({ cls := "com/example/dense_trie/densetrie/CellFields", name := "<init>", desc := "(II)V" } : Jvm.MethodName) prog_4_method_1_code (3 : Nat) (Option.none : Option Jvm.ClassFile.FieldType), Jvm.Cond.code ({ cls := "java/lang/Object", name := "<init>", desc := "()V" } : Jvm.MethodName) object_method_1_code (1 : Nat) (Option.none : Option Jvm.ClassFile.FieldType), Jvm.Cond.code ({ cls := "com/example/dense_trie/densetrie/CellFields", name := "labelBitsFor", desc := "(I)I" } : Jvm.MethodName) prog_4_method_3_code (1 : Nat) (Option.some Jvm.ClassFile.FieldType.int), Jvm.Cond.code ({ cls := "com/example/dense_trie/densetrie/CellFields", name := "bitsFor", desc := "(J)I" } : Jvm.MethodName) prog_4_method_5_code (2 : Nat) (Option.some Jvm.ClassFile.FieldType.int), Jvm.Cond.code ({ cls := "java/lang/Long", name := "numberOfLeadingZeros", desc := "(J)I" } : Jvm.MethodName) jdk_35_method_48_code (3 : Nat) (Option.some Jvm.ClassFile.FieldType.int), Jvm.Cond.code ({ cls := "java/lang/Integer", name := "numberOfLeadingZeros", desc := "(I)I" } : Jvm.MethodName) jdk_33_method_47_code (2 : Nat) (Option.some Jvm.ClassFile.FieldType.int), Jvm.Cond.code ({ cls := "com/example/dense_trie/densetrie/CellFields", name := "labelBits", desc := "()I" } : Jvm.MethodName) prog_4_method_6_code (1 : Nat) (Option.some Jvm.ClassFile.FieldType.int), Jvm.Cond.code ({ cls := "com/example/dense_trie/densetrie/CellFields", name := "payloadBits", desc := "()I" } : Jvm.MethodName) prog_4_method_7_code (1 : Nat) (Option.some Jvm.ClassFile.FieldType.int), Jvm.Cond.code ({ cls := "com/example/dense_trie/densetrie/CellFields", name := "isValue", desc := "(J)Z" } : Jvm.MethodName) prog_4_method_13_code (3 : Nat) (Option.some Jvm.ClassFile.FieldType.boolean), Jvm.Cond.code ({ cls := "com/example/dense_trie/densetrie/CellFields", name := "valueFlag", desc := "()J" } : Jvm.MethodName) prog_4_method_9_code (1 : Nat) (Option.some Jvm.ClassFile.FieldType.long), Jvm.Cond.code ({ cls := "com/example/dense_trie/densetrie/CellFields", name := "reach", desc := "(J)J" } : Jvm.MethodName) prog_4_method_12_code (3 : Nat) (Option.some Jvm.ClassFile.FieldType.long)]
set_option maxRecDepth 65536 in
theorem codes_eq : words1.filter isCode = codes1 := rfl
theorem w_codes : ∀ c ∈ words1.filter isCode, c.before args0 about1 = true := by
  rw [codes_eq]
  intro c hc
  simp only [codes1, List.mem_cons, List.not_mem_nil, or_false] at hc
  rcases hc with rfl | rfl | rfl | rfl | rfl | rfl | rfl | rfl | rfl | rfl | rfl | rfl
  · exact w_c0
  · exact w_c1
  · exact w_c2
  · exact w_c3
  · exact w_c4
  · exact w_c5
  · exact w_c6
  · exact w_c7
  · exact w_c8
  · exact w_c9
  · exact w_c10
  · exact w_c11
set_option maxRecDepth 65536 in
theorem w_t1 : (words1.take 24).all (fun c => isCode c || c.before args0 about1) = true := by decide +kernel
set_option maxRecDepth 65536 in
theorem w_t2 : ((words1.drop 24).take 24).all (fun c => isCode c || c.before args0 about1) = true := by decide +kernel
set_option maxRecDepth 65536 in
theorem w_t3 : ((words1.drop 24).drop 24).all (fun c => isCode c || c.before args0 about1) = true := by decide +kernel
theorem w_tables : (allAtoms (Jvm.Cond.code x code maxLocals ret :: tables_1)).before args0 about1 = true := by
  rw [allAtoms_all]
  show words1.all (fun c => c.before args0 about1) = true
  refine all_split ?_ w_codes
  rw [← List.take_append_drop 24 words1, List.all_append, w_t1, ← List.take_append_drop 24 (words1.drop 24), List.all_append, w_t2, w_t3]
  rfl
set_option maxRecDepth 65536 in
theorem w_case : (Jvm.Cond.and given_1 narrow_1).before args0 about1 = true := by decide +kernel
theorem w_applies : (headSpec (Jvm.Cond.code x code maxLocals ret :: tables_1) room_1).applies x e0.platform about1 = true :=
  (Spec.applies_iff w_frames).mpr ⟨w_running, w_runnable, w_alone, w_named, w_hears, w_ripe, w_room, w_tables⟩
theorem atStart : AtStart classFile x code maxLocals ret World_1 tables_1 room_1 Calls_1 rest_1 Pre_1 launch0 p0 e0 about1 theMethod args0 below0 :=
  ⟨lists_1, trivial, launch0.admits_env _ _ _, launch0.least_env, fairChoices_fair.cas, fairChoices_fair.clock, w_frames, w_args, w_heap, w_applies, trivial, trivial, w_case⟩
end start1
theorem witness_1 : WitnessClaimed_1 := ⟨start1.p0, start1.e0, start1.about1, start1.theMethod, start1.args0, start1.below0, start1.atStart⟩
end Jvm.Pilot.@@N@@
