import JvmDerived
import JvmDerived.Pilot.@@N@@Statement
import JvmDerived.Pilot.@@N@@Code
set_option linter.unusedVariables false
set_option linter.unusedSimpArgs false
namespace Jvm.Pilot.@@N@@
open Jvm Jvm.ClassFile Sem Op Lib Jvm.Free Jvm.Stand Jvm.LawKit Jvm.RoadKit Bundle Jvm.Pilot.@@N@@.Jvm.D
-- own kit: the walk's goal, the ends of a walk, arrays as functions of the place, calls by contract
section OwnKit
variable {p : Program} {l : Launch} {e : Env} {R : Room} {s : State} {m : MethodId} {args : Array Value} {below : List Frame} {meth : Method} {c : Code} {T : State} {locs : List Loc} {cells slots : Nat} {Z : State} {a0 : Array Value} {h h' : Heap} {kc ks : Nat} {Q : Option Value → Heap → List Loc → Prop} {tb : Tables} {B : State}
def Gq (tb : Tables) (e : Env) (below : List Frame) (s : State) (Q : Option Value → Heap → List Loc → Prop) (kc ks : Nat) (A : State) : Prop :=
  ∃ t o, Steps tb e below A t ∧ t.status = .running ∧ Ended t below o ∧ ∃ v L, o = .returned v ∧ Q v t.heap L ∧ FrameEnd s o t L kc ks
theorem Gq.go (A : State) (k : ∀ t, Steps tb e below A t → Steps tb e below B t) (g : Gq tb e below s Q kc ks A) : Gq tb e below s Q kc ks B := by
  obtain ⟨t, o, h1, h2⟩ := g
  exact ⟨t, o, k t h1, h2⟩
theorem Gq.start {T : State} {g g' : JFrame} (q : g = g') (k : Gq tb e below s Q kc ks (T.setTop g')) : Gq tb e below s Q kc ks (T.setTop g) := q ▸ k
theorem Gq.fin {A : State} (X : Stand p l e R s m args below meth c T locs cells slots) (hlocks : meth.locks = false) {v : Option Value} (hv : meth.sig.returnType = none → v = none)
    (st : ∀ fs, (∀ (f : JFrame) (acts : List Action), f.method = m → f.locked = none → f.entered = [] → (doReturn e (T.setTop f) acts v).1 = T.setFrames fs) → Steps p.tables e below A (T.setFrames fs))
    (h1 : cells ≤ kc) (h2 : slots ≤ ks) (q : Q v T.heap locs) : Gq p.tables e below s Q kc ks A := by
  obtain ⟨fs, hr, hrun, hended, hW, hsame⟩ := X.leave (v := v) hv hlocks
  exact ⟨_, _, st fs hr, hrun, hended, _, _, rfl, q, ⟨_, rfl⟩, hW, hsame.mono h1 h2⟩
theorem Gq.retI (X : Stand p l e R s m args below meth c T locs cells slots) (hx : p.tables.exec = Jvm.exec) (hlocks : meth.locks = false) {pc : Nat} {Ls : Array Slot} {w : Int32} {rest : List Value} {t : FieldType} (hret : meth.sig.returnType = some t)
    (ht : t = .int ∨ t = .boolean ∨ t = .byte ∨ t = .char ∨ t = .short) (hd : decode c.code pc = .ok (.ireturn, 1)) (hn : narrow t (.int w) = .int w) (h1 : cells ≤ kc) (h2 : slots ≤ ks) (q : Q (some (.int w)) T.heap locs) :
    Gq p.tables e below s Q kc ks (T.setTop (mkF m pc Ls (.int w :: rest))) :=
  Gq.fin X hlocks (fun h => by rw [hret] at h; cases h) (fun fs hr => retOut X hx hret hn (Or.inl ⟨rfl, ht, _, rfl⟩) hd hr) h1 h2 q
theorem Gq.retL (X : Stand p l e R s m args below meth c T locs cells slots) (hx : p.tables.exec = Jvm.exec) (hlocks : meth.locks = false) {pc : Nat} {Ls : Array Slot} {w : Int64} {rest : List Value} (hret : meth.sig.returnType = some .long)
    (hd : decode c.code pc = .ok (.lreturn, 1)) (h1 : cells ≤ kc) (h2 : slots ≤ ks) (q : Q (some (.long w)) T.heap locs) :
    Gq p.tables e below s Q kc ks (T.setTop (mkF m pc Ls (.long w :: rest))) :=
  Gq.fin X hlocks (fun h => by rw [hret] at h; cases h) (fun fs hr => retOut X hx hret rfl (Or.inr (Or.inl ⟨rfl, rfl, _, rfl⟩)) hd hr) h1 h2 q
theorem Gq.retA (X : Stand p l e R s m args below meth c T locs cells slots) (hx : p.tables.exec = Jvm.exec) (hlocks : meth.locks = false) {pc : Nat} {Ls : Array Slot} {w : Value} {rest : List Value} {t : FieldType} (hret : meth.sig.returnType = some t) (hn : narrow t w = w)
    (ht : t.isReference = true) (hw : w.isRef = true) (hd : decode c.code pc = .ok (.areturn, 1)) (h1 : cells ≤ kc) (h2 : slots ≤ ks) (q : Q (some w) T.heap locs) :
    Gq p.tables e below s Q kc ks (T.setTop (mkF m pc Ls (w :: rest))) :=
  Gq.fin X hlocks (fun h => by rw [hret] at h; cases h) (fun fs hr => retOut X hx hret hn (Or.inr (Or.inr (Or.inr (Or.inr ⟨rfl, ht, hw⟩)))) hd hr) h1 h2 q
theorem Gq.retV (X : Stand p l e R s m args below meth c T locs cells slots) (hx : p.tables.exec = Jvm.exec) (hlocks : meth.locks = false) {pc : Nat} {Ls : Array Slot} (hret : meth.sig.returnType = none)
    (hd : decode c.code pc = .ok (.return_, 1)) (h1 : cells ≤ kc) (h2 : slots ≤ ks) (q : Q none T.heap locs) : Gq p.tables e below s Q kc ks (T.setTop (mkF m pc Ls [])) :=
  Gq.fin X hlocks (fun _ => rfl) (fun fs hr => X.returnOut hx hret hd hr) h1 h2 q
/-- an array: n places, place j holds f j -/
def LA (Z : State) (h : Heap) (a : Addr) (ty : FieldType) (n : Nat) (f : Nat → Value) : Prop := ∃ c : Cell, Arr Z h a c ty ∧ c.slots.size = n ∧ n < 2 ^ 31 ∧ ∀ j, j < n → c.slots[j]? = some (f j)
def upd (f : Nat → Value) (j : Nat) (v : Value) : Nat → Value := fun i => if i = j then v else f i
def gl (vs : List Value) (d : Value) : Nat → Value := fun i => vs.getD i d
section Facts
variable {a b : Addr} {ty : FieldType} {n j : Nat} {f g : Nat → Value} {v d : Value} {sl : Nat} {ws : List Addr} {vs : List Value}
theorem LA.lt (F : LA Z h a ty n f) : a < h.size := by obtain ⟨c, A, -⟩ := F; exact A.lt
theorem LA.ext (F : LA Z h a ty n f) (E : Ext h h') : LA Z h' a ty n f := by obtain ⟨c, A, r⟩ := F; exact ⟨c, A.ext E, r⟩
theorem LA.other (F : LA Z h b ty n f) (W : Wr h h' a sl v) (q : b ≠ a) : LA Z h' b ty n f := by obtain ⟨c, A, r⟩ := F; exact ⟨c, A.other W q, r⟩
theorem LA.keep (F : LA Z h a ty n f) (K : Keep h h' ws) (q : a ∉ ws) : LA Z h' a ty n f := by obtain ⟨c, A, r⟩ := F; exact ⟨c, ⟨K.2.1 a c A.1 q, A.2⟩, r⟩
theorem LA.congr (F : LA Z h a ty n f) (q : ∀ j, j < n → f j = g j) : LA Z h a ty n g := by obtain ⟨c, A, r1, r2, r3⟩ := F; exact ⟨c, A, r1, r2, fun j hj => by rw [r3 j hj, q j hj]⟩
theorem LA.new {k : ClassId} {z : Int32} (A : Arr Z h a (newA k ty z) ty) (q : ¬ z < 0) (hn : z.toNatClampNeg = n) : LA Z h a ty n (fun _ => defaultValue ty) := by
  subst hn
  exact ⟨_, A, sz_new _ _ _, (back32 q).2, fun j hj => by simp [newA, hj]⟩
theorem LA.set (F : LA Z h a ty n f) (W : Wr h h' a j v) : LA Z h' a ty n (upd f j v) := by
  obtain ⟨c, A, r1, r2, r3⟩ := F
  refine ⟨_, A.same W, by rw [sz_set]; exact r1, r2, fun i hi => ?_⟩
  have e1 : i < c.slots.size := by omega
  have r := r3 i hi
  simp only [upd, Cell.setSlot]
  by_cases q : i = j
  · subst q; simp [e1]
  · rw [Array.getElem?_setIfInBounds_ne (Ne.symm q), if_neg q]; exact r
theorem LA.setL (F : LA Z h a ty n (gl vs d)) (W : Wr h h' a j v) (hj : j < vs.length) : LA Z h' a ty n (gl (vs.set j v) d) := by
  refine (F.set W).congr fun i hi => ?_
  simp only [upd, gl, List.getD_eq_getElem?_getD, List.getElem?_set]
  by_cases q : i = j
  · subst q; simp [hj]
  · rw [if_neg q, if_neg (Ne.symm q)]
theorem LA.list (F : LA Z h a ty n (fun _ => d)) : LA Z h a ty n (gl (List.replicate n d) d) := F.congr fun j hj => by
  simp [gl, List.getD_eq_getElem?_getD, List.getElem?_replicate, hj]
end Facts
section Steps
variable {a : Addr} {n i : Nat} {f : Nat → Value} {pc : Nat} {Ls : Array Slot} {rest : List Value} {j : Int32}
theorem inb {cl : Cell} (S : cl.slots.size = n) (hi : j.toNatClampNeg = i) (hj : ¬ j < 0) (hn : i < n) : ¬ (j < 0 ∨ cl.slots.size ≤ j.toNatClampNeg) := by
  intro q; rcases q with q | q
  · exact hj q
  · omega
theorem ldJ (X : Stand p l e R s m args below meth c T locs cells slots) (hx : p.tables.exec = Jvm.exec) (hZ : Z.Warmed39 s.vm) (eT : T.heap = h) (V : LA Z h a .long n f) {x : Int64} (hj : ¬ j < 0) (hi : j.toNatClampNeg = i) (hn : i < n) (hv : f i = .long x) (hd : decode c.code pc = .ok (.laload, 1)) :
    ∀ t, Steps p.tables e below (T.setTop (mkF m (pc + 1) Ls (.long x :: rest))) t → Steps p.tables e below (T.setTop (mkF m pc Ls (.int j :: .ref a :: rest))) t := fun t k => by
  obtain ⟨cl, A, S, -, H⟩ := V
  exact X.laload hx (by rw [eT]; exact A.1) (State.isArrayOf_alike hZ.alike A.2.1) A.2.2 (inb S hi hj hn) (by rw [hi, H i hn, hv]) (g := mkF m pc Ls (.int j :: .ref a :: rest)) rfl rfl hd _ k
theorem ldI (X : Stand p l e R s m args below meth c T locs cells slots) (hx : p.tables.exec = Jvm.exec) (hZ : Z.Warmed39 s.vm) (eT : T.heap = h) (V : LA Z h a .int n f) {x : Int32} (hj : ¬ j < 0) (hi : j.toNatClampNeg = i) (hn : i < n) (hv : f i = .int x) (hd : decode c.code pc = .ok (.iaload, 1)) :
    ∀ t, Steps p.tables e below (T.setTop (mkF m (pc + 1) Ls (.int x :: rest))) t → Steps p.tables e below (T.setTop (mkF m pc Ls (.int j :: .ref a :: rest))) t := fun t k => by
  obtain ⟨cl, A, S, -, H⟩ := V
  exact X.iaload hx (by rw [eT]; exact A.1) (State.isArrayOf_alike hZ.alike A.2.1) A.2.2 (inb S hi hj hn) (by rw [hi, H i hn, hv]) (g := mkF m pc Ls (.int j :: .ref a :: rest)) rfl rfl hd _ k
theorem ldB (X : Stand p l e R s m args below meth c T locs cells slots) (hx : p.tables.exec = Jvm.exec) (hZ : Z.Warmed39 s.vm) (eT : T.heap = h) (V : LA Z h a .byte n f) {x : Int32} (hj : ¬ j < 0) (hi : j.toNatClampNeg = i) (hn : i < n) (hv : f i = .int x) (hd : decode c.code pc = .ok (.baload, 1)) :
    ∀ t, Steps p.tables e below (T.setTop (mkF m (pc + 1) Ls (.int x :: rest))) t → Steps p.tables e below (T.setTop (mkF m pc Ls (.int j :: .ref a :: rest))) t := fun t k => by
  obtain ⟨cl, A, S, -, H⟩ := V
  exact X.baloadBytes hx (by rw [eT]; exact A.1) (State.isArrayOf_alike hZ.alike A.2.1) A.2.2 (inb S hi hj hn) (by rw [hi, H i hn, hv]) (g := mkF m pc Ls (.int j :: .ref a :: rest)) rfl rfl hd _ k
theorem lenA (X : Stand p l e R s m args below meth c T locs cells slots) (hx : p.tables.exec = Jvm.exec) (hZ : Z.Warmed39 s.vm) (eT : T.heap = h) {ty : FieldType} (V : LA Z h a ty n f) (hd : decode c.code pc = .ok (.arraylength, 1)) :
    ∀ t, Steps p.tables e below (T.setTop (mkF m (pc + 1) Ls (.int (Int32.ofNat n) :: rest))) t → Steps p.tables e below (T.setTop (mkF m pc Ls (.ref a :: rest))) t := fun t k => by
  obtain ⟨cl, A, S, -, H⟩ := V
  refine X.arraylength hx (by rw [eT]; exact A.1) (State.isArrayOf_alike hZ.alike A.2.1) (g := mkF m pc Ls (.ref a :: rest)) rfl rfl hd _ ?_
  rw [S]; exact k
theorem stoJ (X : Stand p l e R s m args below meth c T locs cells slots) (hx : p.tables.exec = Jvm.exec) (hZ : Z.Warmed39 s.vm) (eT : T.heap = h) (V : LA Z h a .long n f) {x : Int64} (hj : ¬ j < 0) (hi : j.toNatClampNeg = i) (hn : i < n) (hd : decode c.code pc = .ok (.lastore, 1)) :
    ∃ T' h', Stand p l e R s m args below meth c T' (locs ++ [⟨a, i⟩]) cells slots ∧ T'.heap = h' ∧ Wr h h' a i (.long x) ∧ ∀ t, Steps p.tables e below (T'.setTop (mkF m (pc + 1) Ls rest)) t → Steps p.tables e below (T.setTop (mkF m pc Ls (.long x :: .int j :: .ref a :: rest))) t := by
  obtain ⟨cl, A, S, -, H⟩ := V
  obtain ⟨T', h', X', e', W, st⟩ := stJ X hx hZ eT A (j := j) (x := x) (inb S hi hj hn) (g := mkF m pc Ls (.long x :: .int j :: .ref a :: rest)) rfl rfl hd
  subst hi
  exact ⟨T', h', X', e', W, st⟩
theorem stoI (X : Stand p l e R s m args below meth c T locs cells slots) (hx : p.tables.exec = Jvm.exec) (hZ : Z.Warmed39 s.vm) (eT : T.heap = h) (V : LA Z h a .int n f) {x : Int32} (hj : ¬ j < 0) (hi : j.toNatClampNeg = i) (hn : i < n) (hd : decode c.code pc = .ok (.iastore, 1)) :
    ∃ T' h', Stand p l e R s m args below meth c T' (locs ++ [⟨a, i⟩]) cells slots ∧ T'.heap = h' ∧ Wr h h' a i (.int x) ∧ ∀ t, Steps p.tables e below (T'.setTop (mkF m (pc + 1) Ls rest)) t → Steps p.tables e below (T.setTop (mkF m pc Ls (.int x :: .int j :: .ref a :: rest))) t := by
  obtain ⟨cl, A, S, -, H⟩ := V
  obtain ⟨T', h', X', e', W, st⟩ := stI X hx hZ eT A (j := j) (x := x) (inb S hi hj hn) (g := mkF m pc Ls (.int x :: .int j :: .ref a :: rest)) rfl rfl hd
  subst hi
  exact ⟨T', h', X', e', W, st⟩
theorem stoB (X : Stand p l e R s m args below meth c T locs cells slots) (hx : p.tables.exec = Jvm.exec) (hZ : Z.Warmed39 s.vm) (eT : T.heap = h) (V : LA Z h a .byte n f) {x : Int32} (hj : ¬ j < 0) (hi : j.toNatClampNeg = i) (hn : i < n) (hd : decode c.code pc = .ok (.bastore, 1)) :
    ∃ T' h', Stand p l e R s m args below meth c T' (locs ++ [⟨a, i⟩]) cells slots ∧ T'.heap = h' ∧ Wr h h' a i (.int x.toInt8.toInt32) ∧ ∀ t, Steps p.tables e below (T'.setTop (mkF m (pc + 1) Ls rest)) t → Steps p.tables e below (T.setTop (mkF m pc Ls (.int x :: .int j :: .ref a :: rest))) t := by
  obtain ⟨cl, A, S, -, H⟩ := V
  obtain ⟨T', h', X', e', W, st⟩ := stB X hx hZ eT A (j := j) (x := x) (inb S hi hj hn) (g := mkF m pc Ls (.int x :: .int j :: .ref a :: rest)) rfl rfl hd
  subst hi
  exact ⟨T', h', X', e', W, st⟩
theorem mkA (X : Stand p l e R s m args below meth c T locs cells slots) (hx : p.tables.exec = Jvm.exec) (hZ : Z.Warmed39 s.vm) {aty : ArrayType} (w : (Cond.arrayClass (newarray.typeOf aty)).before a0 Z = true) (eT : T.heap = h) {z : Int32} (hz : ¬ z < 0) (hn : z.toNatClampNeg = n)
    (hb : n * 8 ≤ 536870912) (hc : cells + 1 ≤ R.cells) (hl : slots + n ≤ R.slots) (hd : decode c.code pc = .ok (.newarray aty, 2)) :
    ∃ T' h' b, Stand p l e R s m args below meth c T' locs (cells + 1) (slots + n) ∧ T'.heap = h' ∧ Ext h h' ∧ b = h.size ∧ LA Z h' b (newarray.typeOf aty) n (fun _ => defaultValue (newarray.typeOf aty)) ∧
      ∀ t, Steps p.tables e below (T'.setTop (mkF m (pc + 2) Ls (.ref b :: rest))) t → Steps p.tables e below (T.setTop (mkF m pc Ls (.int z :: rest))) t := by
  obtain ⟨T', h', k, X', e', E, A, st⟩ := newP X hx hZ w eT (g := mkF m pc Ls (.int z :: rest)) rfl hd rfl hz (cap := n) (Nat.le_of_eq hn) hb hc hl
  exact ⟨T', h', _, X', e', E, rfl, LA.new A hz hn, st⟩
end Steps
section Calls
variable {own : String} {index : Nat} {y : MethodName} {bytes : ByteArray} {maxL : Nat} {ret : Option FieldType} {rm : Room} {W pc : Nat} {Ls : Array Slot} {Qc : Option Value → Heap → List Loc → Prop} {ps : List FieldType} {r : Option FieldType}
theorem callT (X : Stand p l e R s m args below meth c T locs cells slots) (hx : p.tables.exec = Jvm.exec) (hZ : Z.Warmed39 s.vm) (hown : s.vm.findClass own = some m.cls) (eT : T.heap = h) (argsL rest : List Value)
    (w1 : (Cond.methodLink own index y).before a0 Z = true) (w2 : (Cond.static y).before a0 Z = true) (w3 : (Cond.initialized y.cls).before a0 Z = true) (w4 : (Cond.code y bytes maxL ret).before a0 Z = true)
    (hy : y.cls ≠ "java/lang/invoke/MethodHandle" ∧ y.cls ≠ "java/lang/invoke/VarHandle")
    (hM : MetFree l y (head1 [Cond.code y bytes maxL ret] rm) (fun a U => a = argsL.toArray ∧ Z.Warmed39 U.vm ∧ U.heap = h) (fun _ _ _ _ _ => True) (fun _ U o U' => ∃ v L, o = .returned v ∧ Qc v U'.heap L ∧ FrameEnd U o U' L rm.cells rm.slots))
    (hpd : parseMethodDescriptor y.desc = some ⟨ps, r⟩) (hll : argsL.length = ps.length) (hsize : Ls.size = c.maxLocals) (hW : 2 * 0 + (rest.map fun v => v.category).sum ≤ W)
    (hf : rm.frames + 1 ≤ R.frames) (hl : W + (maxL + 11) + rm.locals ≤ R.locals) (hc : cells + rm.cells ≤ R.cells) (hs : slots + rm.slots ≤ R.slots) (hd : decode c.code pc = .ok (.invokestatic index, 3)) :
    ∃ v T' L, Stand p l e R s m args below meth c T' (locs ++ L) (cells + rm.cells) (slots + rm.slots) ∧ Qc v T'.heap L ∧
      ∀ t, Steps p.tables e below (T'.setTop (mkF m (pc + 3) Ls (v.toList ++ rest))) t → Steps p.tables e below (T.setTop (mkF m pc Ls (argsL.reverse ++ rest))) t := by
  obtain ⟨v, vm1, ⟨T', L', k', n'⟩, -, X', ⟨L, hQ, e1, e2, e3⟩, st⟩ := Jvm.LawKit.callS X hx (y := y) hown (mvT hZ w1) (mvT hZ w2) (mvT hZ w3) (mvT hZ w4) hy (backOf (W := W) hM hZ w4 w3 hf hl) (g := mkF m pc Ls (argsL.reverse ++ rest)) rfl hsize (argsL := argsL) (rest := rest) (lenOf hpd hll) rfl hW hd (fun _ _ => ⟨rfl, eT, hc, hs⟩)
  dsimp only [Pt.U, Pt.locs, Pt.cells, Pt.slots] at X' e1 e2 e3 st hQ
  subst e1 e2 e3
  exact ⟨v, T', L, X', hQ, st⟩
theorem callI (X : Stand p l e R s m args below meth c T locs cells slots) (hx : p.tables.exec = Jvm.exec) (hZ : Z.Warmed39 s.vm) (hown : s.vm.findClass own = some m.cls) (eT : T.heap = h) (a : Addr) (argsL rest : List Value)
    (w1 : (Cond.methodLink own index y).before a0 Z = true) (w2 : (Cond.instanceMethod y).before a0 Z = true) (w3 : (Cond.initialized y.cls).before a0 Z = true) (w4 : (Cond.code y bytes maxL none).before a0 Z = true) (hy1 : y.name = "<init>")
    (hy : y.cls ≠ "java/lang/invoke/MethodHandle" ∧ y.cls ≠ "java/lang/invoke/VarHandle")
    (hM : MetFree l y (head1 [Cond.code y bytes maxL none] rm) (fun a' U => a' = (.ref a :: argsL).toArray ∧ Z.Warmed39 U.vm ∧ U.heap = h) (fun _ _ _ _ _ => True) (fun _ U o U' => ∃ v L, o = .returned v ∧ Qc v U'.heap L ∧ FrameEnd U o U' L rm.cells rm.slots))
    (hpd : parseMethodDescriptor y.desc = some ⟨ps, r⟩) (hll : argsL.length = ps.length) (hsize : Ls.size = c.maxLocals) (hW : 2 * 0 + (rest.map fun v => v.category).sum ≤ W)
    (hf : rm.frames + 1 ≤ R.frames) (hl : W + (maxL + 11) + rm.locals ≤ R.locals) (hc : cells + rm.cells ≤ R.cells) (hs : slots + rm.slots ≤ R.slots) (hd : decode c.code pc = .ok (.invokespecial index, 3)) :
    ∃ v T' L, Stand p l e R s m args below meth c T' (locs ++ L) (cells + rm.cells) (slots + rm.slots) ∧ Qc v T'.heap L ∧
      ∀ t, Steps p.tables e below (T'.setTop (mkF m (pc + 3) Ls (v.toList ++ rest))) t → Steps p.tables e below (T.setTop (mkF m pc Ls (argsL.reverse ++ .ref a :: rest))) t := by
  obtain ⟨v, vm1, ⟨T', L', k', n'⟩, -, X', ⟨L, hQ, e1, e2, e3⟩, st⟩ := X.specialBack hx (y := y) hy1 hown (mvT hZ w1) (mvT hZ w2) (mvT hZ w4) hy (backOf (W := W) hM hZ w4 w3 hf hl) (g := mkF m pc Ls (argsL.reverse ++ .ref a :: rest)) rfl hsize (Steps.refl _) (a := a) (argsL := argsL) (rest := rest) (lenOf hpd hll) rfl hW hd (fun _ _ => ⟨rfl, eT, hc, hs⟩)
  dsimp only [Pt.U, Pt.locs, Pt.cells, Pt.slots] at X' e1 e2 e3 st hQ
  subst e1 e2 e3
  exact ⟨v, T', L, X', hQ, fun t k => st.trans k⟩
theorem callV (X : Stand p l e R s m args below meth c T locs cells slots) (hx : p.tables.exec = Jvm.exec) (hZ : Z.Warmed39 s.vm) (hown : s.vm.findClass own = some m.cls) (eT : T.heap = h) (a : Addr) (argsL rest : List Value) {C : String} (E : Exa Z h a C)
    (w1 : (Cond.methodLink own index y).before a0 Z = true) (w2 : (Cond.declares y).before a0 Z = true) (w5 : (Cond.selects C y y).before a0 Z = true) (w6 : (Cond.instanceMethod y).before a0 Z = true) (w3 : (Cond.initialized y.cls).before a0 Z = true) (w4 : (Cond.code y bytes maxL ret).before a0 Z = true)
    (hy : y.cls ≠ "java/lang/invoke/MethodHandle" ∧ y.cls ≠ "java/lang/invoke/VarHandle")
    (hM : MetFree l y (head1 [Cond.code y bytes maxL ret] rm) (fun a' U => a' = (.ref a :: argsL).toArray ∧ Z.Warmed39 U.vm ∧ U.heap = h) (fun _ _ _ _ _ => True) (fun _ U o U' => ∃ v L, o = .returned v ∧ Qc v U'.heap L ∧ FrameEnd U o U' L rm.cells rm.slots))
    (hpd : parseMethodDescriptor y.desc = some ⟨ps, r⟩) (hll : argsL.length = ps.length) (hsize : Ls.size = c.maxLocals) (hW : 2 * 0 + (rest.map fun v => v.category).sum ≤ W)
    (hf : rm.frames + 1 ≤ R.frames) (hl : W + (maxL + 11) + rm.locals ≤ R.locals) (hc : cells + rm.cells ≤ R.cells) (hs : slots + rm.slots ≤ R.slots) (hd : decode c.code pc = .ok (.invokevirtual index, 3)) :
    ∃ v T' L, Stand p l e R s m args below meth c T' (locs ++ L) (cells + rm.cells) (slots + rm.slots) ∧ Qc v T'.heap L ∧
      ∀ t, Steps p.tables e below (T'.setTop (mkF m (pc + 3) Ls (v.toList ++ rest))) t → Steps p.tables e below (T.setTop (mkF m pc Ls (argsL.reverse ++ .ref a :: rest))) t := by
  obtain ⟨cq, kq, qa, qb, qc⟩ := isOf hZ eT E
  obtain ⟨v, vm1, ⟨T', L', k', n'⟩, -, X', ⟨L, hQ, e1, e2, e3⟩, st⟩ := X.virtualBack hx (y := y) (z := y) hown (mvT hZ w1) (mvT hZ w2) (notFace_of_selects (args := #[]) (mvT hZ w5)) (mvT hZ w5) (mvT hZ w6) hy (backOf (W := W) hM hZ w4 w3 hf hl) qa qc (g := mkF m pc Ls (argsL.reverse ++ .ref a :: rest)) rfl hsize (Steps.refl _) (argsL := argsL) (rest := rest) (lenOf hpd hll) rfl hW hd (fun _ _ => ⟨rfl, eT, hc, hs⟩)
  dsimp only [Pt.U, Pt.locs, Pt.cells, Pt.slots] at X' e1 e2 e3 st hQ
  subst e1 e2 e3
  exact ⟨v, T', L, X', hQ, fun t k => st.trans k⟩
end Calls
end OwnKit
-- own numbers: small naturals as ints
theorem own_ofNat_toInt {i : Nat} (h : i < 2 ^ 31) : (Int32.ofNat i).toInt = i := Int32.toInt_ofNat_of_lt h
theorem own_nc {i : Nat} (h : i < 2 ^ 31) : (Int32.ofNat i).toNatClampNeg = i := by
  show (Int32.ofNat i).toInt.toNat = i
  rw [own_ofNat_toInt h]; rfl
theorem own_nn {i : Nat} (h : i < 2 ^ 31) : ¬ Int32.ofNat i < 0 := by
  rw [Int32.lt_iff_toInt_lt, own_ofNat_toInt h]
  show ¬ (i : Int) < 0
  omega
theorem own_lt {a b : Nat} (ha : a < 2 ^ 31) (hb : b < 2 ^ 31) : Int32.ofNat a < Int32.ofNat b ↔ a < b := by
  rw [Int32.lt_iff_toInt_lt, own_ofNat_toInt ha, own_ofNat_toInt hb]
  omega
theorem own_eqn {a b : Nat} (ha : a < 2 ^ 31) (hb : b < 2 ^ 31) : Int32.ofNat a = Int32.ofNat b ↔ a = b := by
  rw [← Int32.toInt_inj, own_ofNat_toInt ha, own_ofNat_toInt hb]
  omega
theorem own_add (a b : Nat) : Int32.ofNat a + Int32.ofNat b = Int32.ofNat (a + b) := (Int32.ofNat_add a b).symm
theorem own_sub {a b : Nat} (h : b ≤ a) : Int32.ofNat a - Int32.ofNat b = Int32.ofNat (a - b) := by
  have e : Int32.ofNat (a - b) + Int32.ofNat b = Int32.ofNat a := by rw [own_add, Nat.sub_add_cancel h]
  rw [← e, Int32.add_sub_cancel]
theorem own_ofBits (x : Int32) : x = Int32.ofNat x.toBitVec.toNat := by
  apply Int32.toBitVec_inj.mp
  show _ = BitVec.ofNat 32 _
  simp
theorem own_andN (x : Int32) (m : Nat) (hm : m < 2 ^ 32) : ∃ n : Nat, n ≤ m ∧ n = x.toBitVec.toNat &&& m ∧ (x &&& Int32.ofNat m) = Int32.ofNat n := by
  refine ⟨(x &&& Int32.ofNat m).toBitVec.toNat, ?_, ?_, own_ofBits _⟩
  · rw [Int32.toBitVec_and, BitVec.toNat_and]
    refine Nat.le_trans Nat.and_le_right ?_
    show (BitVec.ofNat 32 m).toNat ≤ m
    rw [BitVec.toNat_ofNat]; exact Nat.mod_le _ _
  · rw [Int32.toBitVec_and, BitVec.toNat_and]
    congr 1
    show (BitVec.ofNat 32 m).toNat = m
    rw [BitVec.toNat_ofNat]; exact Nat.mod_eq_of_lt hm
theorem own_and (x : Int32) (m : Nat) (hm : m < 2 ^ 32) : ∃ n : Nat, n ≤ m ∧ (x &&& Int32.ofNat m) = Int32.ofNat n := by
  obtain ⟨n, h1, -, h2⟩ := own_andN x m hm; exact ⟨n, h1, h2⟩
theorem own_rem {n d : Nat} (hn : n < 2 ^ 31) (hd : d < 2 ^ 31) : Int32.ofNat n % Int32.ofNat d = Int32.ofNat (n % d) := by
  apply Int32.toInt_inj.mp
  have h1 : n % d ≤ n := Nat.mod_le _ _
  rw [Int32.toInt_mod, own_ofNat_toInt hn, own_ofNat_toInt hd, own_ofNat_toInt (by omega), Int.ofNat_tmod]
theorem own_div {n d : Nat} (hn : n < 2 ^ 31) (hd : d < 2 ^ 31) : Int32.ofNat n / Int32.ofNat d = Int32.ofNat (n / d) := by
  apply Int32.toInt_inj.mp
  have h1 : n / d ≤ n := Nat.div_le_self _ _
  rw [Int32.toInt_div, own_ofNat_toInt hn, own_ofNat_toInt hd, own_ofNat_toInt (by omega), ← Int.ofNat_tdiv]
  generalize n / d = q at h1
  refine Int.bmod_eq_of_le ?_ ?_ <;> omega
theorem own_maskrem (k : Int32) (d : Nat) (h0 : 0 < d) (hd : d < 2 ^ 31) : ∃ i : Nat, i < d ∧ (k &&& (2147483647 : Int32)) % Int32.ofNat d = Int32.ofNat i := by
  obtain ⟨n, h1, h2⟩ := own_and k 2147483647 (by decide)
  refine ⟨n % d, Nat.mod_lt _ h0, ?_⟩
  rw [show (2147483647 : Int32) = Int32.ofNat 2147483647 from rfl, h2, own_rem (by omega) hd]
theorem own_ints (vs : List Int32) (i : Nat) : ∃ x, gl (vs.map Value.int) (.int (0 : Int32)) i = .int x := by
  simp only [gl, List.getD_eq_getElem?_getD, List.getElem?_map]
  cases vs[i]? with
  | none => exact ⟨_, rfl⟩
  | some y => exact ⟨_, rfl⟩

theorem d1_0 : decode prog_279_method_8_code 0 = .ok (.iload_n 0, 1) := by decide +kernel
theorem d1_1 : decode prog_279_method_8_code 1 = .ok (.bipush 9, 2) := by decide +kernel
theorem d1_3 : decode prog_279_method_8_code 3 = .ok (.if_icmp .eq 51, 3) := by decide +kernel
theorem d1_6 : decode prog_279_method_8_code 6 = .ok (.iload_n 0, 1) := by decide +kernel
theorem d1_7 : decode prog_279_method_8_code 7 = .ok (.bipush 10, 2) := by decide +kernel
theorem d1_9 : decode prog_279_method_8_code 9 = .ok (.if_icmp .eq 45, 3) := by decide +kernel
theorem d1_12 : decode prog_279_method_8_code 12 = .ok (.iload_n 0, 1) := by decide +kernel
theorem d1_13 : decode prog_279_method_8_code 13 = .ok (.bipush 13, 2) := by decide +kernel
theorem d1_15 : decode prog_279_method_8_code 15 = .ok (.if_icmp .eq 39, 3) := by decide +kernel
theorem d1_18 : decode prog_279_method_8_code 18 = .ok (.iload_n 0, 1) := by decide +kernel
theorem d1_19 : decode prog_279_method_8_code 19 = .ok (.bipush 32, 2) := by decide +kernel
theorem d1_21 : decode prog_279_method_8_code 21 = .ok (.if_icmp .lt 9, 3) := by decide +kernel
theorem d1_24 : decode prog_279_method_8_code 24 = .ok (.iload_n 0, 1) := by decide +kernel
theorem d1_25 : decode prog_279_method_8_code 25 = .ok (.ldc 74, 2) := by decide +kernel
theorem d1_27 : decode prog_279_method_8_code 27 = .ok (.if_icmp .le 27, 3) := by decide +kernel
theorem d1_30 : decode prog_279_method_8_code 30 = .ok (.iload_n 0, 1) := by decide +kernel
theorem d1_31 : decode prog_279_method_8_code 31 = .ok (.ldc 75, 2) := by decide +kernel
theorem d1_33 : decode prog_279_method_8_code 33 = .ok (.if_icmp .lt 9, 3) := by decide +kernel
theorem d1_36 : decode prog_279_method_8_code 36 = .ok (.iload_n 0, 1) := by decide +kernel
theorem d1_37 : decode prog_279_method_8_code 37 = .ok (.ldc 76, 2) := by decide +kernel
theorem d1_39 : decode prog_279_method_8_code 39 = .ok (.if_icmp .le 15, 3) := by decide +kernel
theorem d1_42 : decode prog_279_method_8_code 42 = .ok (.iload_n 0, 1) := by decide +kernel
theorem d1_43 : decode prog_279_method_8_code 43 = .ok (.ldc 77, 2) := by decide +kernel
theorem d1_45 : decode prog_279_method_8_code 45 = .ok (.if_icmp .lt 13, 3) := by decide +kernel
theorem d1_48 : decode prog_279_method_8_code 48 = .ok (.iload_n 0, 1) := by decide +kernel
theorem d1_49 : decode prog_279_method_8_code 49 = .ok (.ldc 78, 2) := by decide +kernel
theorem d1_51 : decode prog_279_method_8_code 51 = .ok (.if_icmp .gt 7, 3) := by decide +kernel
theorem d1_54 : decode prog_279_method_8_code 54 = .ok (.iconst 1, 1) := by decide +kernel
theorem d1_55 : decode prog_279_method_8_code 55 = .ok (.goto 4, 3) := by decide +kernel
theorem d1_58 : decode prog_279_method_8_code 58 = .ok (.iconst 0, 1) := by decide +kernel
theorem d1_59 : decode prog_279_method_8_code 59 = .ok (.ireturn, 1) := by decide +kernel
def own_isChar (p0 : Int32) : Int32 := (if p0 = (9 : Int32) then (1 : Int32) else (if p0 = (10 : Int32) then (1 : Int32) else (if p0 = (13 : Int32) then (1 : Int32) else (if p0 < (32 : Int32) then (if p0 < (57344 : Int32) then (if p0 < (65536 : Int32) then (0 : Int32) else (if (1114111 : Int32) < p0 then (0 : Int32) else (1 : Int32))) else (if (65533 : Int32) < p0 then (if p0 < (65536 : Int32) then (0 : Int32) else (if (1114111 : Int32) < p0 then (0 : Int32) else (1 : Int32))) else (1 : Int32))) else (if (55295 : Int32) < p0 then (if p0 < (57344 : Int32) then (if p0 < (65536 : Int32) then (0 : Int32) else (if (1114111 : Int32) < p0 then (0 : Int32) else (1 : Int32))) else (if (65533 : Int32) < p0 then (if p0 < (65536 : Int32) then (0 : Int32) else (if (1114111 : Int32) < p0 then (0 : Int32) else (1 : Int32))) else (1 : Int32))) else (1 : Int32))))))
theorem pn_com_example_arbor2_arbor2_model_XmlNames : plainName "com/example/arbor2/arbor2/model/XmlNames" = true := by first | (simp [plainName, overriddenIn]; done) | decide +kernel
theorem ef_own_isChar (m : MethodId) (y0 : Int32) : entryFrame m #[(.int y0)] 1 = mkF m 0 #[.val (.int y0)] [] := by first | (simp [entryFrame, mkF, argsToLocals, Value.category]; done) | rfl
def Q_own_isChar (Z : State) (p0 : Int32) (h0 : Heap) (n0 : Nat) (v : Option Value) (h : Heap) (L : List Loc) : Prop := v = some (.int (own_isChar p0)) ∧ Fr n0 L ∧ h = h0
set_option maxRecDepth 65536 in
set_option maxHeartbeats 40000000 in
theorem rm_own_isChar (l : Launch) (Z : State) (a0 : Array Value) (hw : ∀ d ∈ tables_1, d.before a0 Z = true) (ws : List Jvm.Cond) (p0 : Int32) (h0 : Heap) (n0 : Nat) (Z0 : n0 ≤ h0.size)  :
    MetFree l (⟨"com/example/arbor2/arbor2/model/XmlNames", "isChar", "(I)Z"⟩ : MethodName) (head1 (Jvm.Cond.code (⟨"com/example/arbor2/arbor2/model/XmlNames", "isChar", "(I)Z"⟩ : MethodName) prog_279_method_8_code 1 (some .boolean) :: ws) ({ frames := 0, cells := 0, slots := 0, locals := 0 } : Room)) (fun a U => a = #[(.int p0)] ∧ Z.Warmed39 U.vm ∧ U.heap = h0) (fun _ _ _ _ _ => True) (fun _ U o U' => ∃ v L, o = .returned v ∧ Q_own_isChar Z p0 h0 n0 v U'.heap L ∧ FrameEnd U o U' L ({ frames := 0, cells := 0, slots := 0, locals := 0 } : Room).cells ({ frames := 0, cells := 0, slots := 0, locals := 0 } : Room).slots) := by
  refine MetFree.of_bodySF (plainFor_of_name pn_com_example_arbor2_arbor2_model_XmlNames) hisR ?_
  intro p e s m args below meth c s₁ Bd hml0 hP hK
  obtain ⟨rfl, hZ, hh⟩ := hP
  have hx := Bd.exec
  have hby := Bd.bytes
  have hml : c.maxLocals = 1 := hml0
  have hown : s.vm.findClass "com/example/arbor2/arbor2/model/XmlNames" = some m.cls := findClass_of_methodNamed Bd.named
  have hnm := (name_of_methodNamed Bd.named Bd.method).1
  have X0 : Stand p l e ({ frames := 0, cells := 0, slots := 0, locals := 0 } : Room) s m #[(.int p0)] below meth c s₁ [] 0 0 := Stand.of_body Bd
  have eh0 : s₁.heap = h0 := by rw [← hh, Bd.state]; rfl
  have N0 := Fr.nil n0
  refine Gq.start (Q := Q_own_isChar Z p0 h0 n0) (kc := ({ frames := 0, cells := 0, slots := 0, locals := 0 } : Room).cells) (ks := ({ frames := 0, cells := 0, slots := 0, locals := 0 } : Room).slots) (ef_own_isChar m p0) ?_
  refine Gq.go (s₁.setTop (mkF m 1 #[.val (.int p0)] [(.int p0)])) (fun tt_ kk_ => XS.iloadN X0.here hx rfl (hb hby d1_0) rfl kk_) ?_
  refine Gq.go (s₁.setTop (mkF m 3 #[.val (.int p0)] [(.int (9 : Int32)), (.int p0)])) (fun tt_ kk_ => XS.bipush X0.here hx rfl (hb hby d1_1) kk_) ?_
  by_cases c3_1 : p0 = (9 : Int32)
  · refine Gq.go (s₁.setTop (mkF m 54 #[.val (.int p0)] [])) (fun tt_ kk_ => XS.icmpYes X0.here hx rfl (pc0 := 3) (pc' := 54) rfl (hb hby d1_3) rfl (teq c3_1).1 (by decide) (by decide) kk_) ?_
    refine Gq.go (s₁.setTop (mkF m 55 #[.val (.int p0)] [(.int (1 : Int32))])) (fun tt_ kk_ => XS.iconst X0.here hx rfl (hb hby d1_54) kk_) ?_
    refine Gq.go (s₁.setTop (mkF m 59 #[.val (.int p0)] [(.int (1 : Int32))])) (fun tt_ kk_ => XS.goto X0.here hx rfl (pc0 := 55) (pc' := 59) rfl (hb hby d1_55) (by decide) (by decide) kk_) ?_
    refine Gq.retI X0 hx Bd.notSynchronized Bd.returns (by simp) (hb hby d1_59) rfl (by decide) (by decide) ?_
    show Q_own_isChar Z p0 h0 n0 _ s₁.heap _
    rw [eh0]
    exact ⟨by unfold own_isChar; rw [if_pos c3_1], N0, rfl⟩
  · refine Gq.go (s₁.setTop (mkF m 6 #[.val (.int p0)] [])) (fun tt_ kk_ => XS.icmpNo X0.here hx rfl (hb hby d1_3) rfl (feq c3_1).1 kk_) ?_
    refine Gq.go (s₁.setTop (mkF m 7 #[.val (.int p0)] [(.int p0)])) (fun tt_ kk_ => XS.iloadN X0.here hx rfl (hb hby d1_6) rfl kk_) ?_
    refine Gq.go (s₁.setTop (mkF m 9 #[.val (.int p0)] [(.int (10 : Int32)), (.int p0)])) (fun tt_ kk_ => XS.bipush X0.here hx rfl (hb hby d1_7) kk_) ?_
    by_cases c9_2 : p0 = (10 : Int32)
    · refine Gq.go (s₁.setTop (mkF m 54 #[.val (.int p0)] [])) (fun tt_ kk_ => XS.icmpYes X0.here hx rfl (pc0 := 9) (pc' := 54) rfl (hb hby d1_9) rfl (teq c9_2).1 (by decide) (by decide) kk_) ?_
      refine Gq.go (s₁.setTop (mkF m 55 #[.val (.int p0)] [(.int (1 : Int32))])) (fun tt_ kk_ => XS.iconst X0.here hx rfl (hb hby d1_54) kk_) ?_
      refine Gq.go (s₁.setTop (mkF m 59 #[.val (.int p0)] [(.int (1 : Int32))])) (fun tt_ kk_ => XS.goto X0.here hx rfl (pc0 := 55) (pc' := 59) rfl (hb hby d1_55) (by decide) (by decide) kk_) ?_
      refine Gq.retI X0 hx Bd.notSynchronized Bd.returns (by simp) (hb hby d1_59) rfl (by decide) (by decide) ?_
      show Q_own_isChar Z p0 h0 n0 _ s₁.heap _
      rw [eh0]
      exact ⟨by unfold own_isChar; rw [if_neg c3_1, if_pos c9_2], N0, rfl⟩
    · refine Gq.go (s₁.setTop (mkF m 12 #[.val (.int p0)] [])) (fun tt_ kk_ => XS.icmpNo X0.here hx rfl (hb hby d1_9) rfl (feq c9_2).1 kk_) ?_
      refine Gq.go (s₁.setTop (mkF m 13 #[.val (.int p0)] [(.int p0)])) (fun tt_ kk_ => XS.iloadN X0.here hx rfl (hb hby d1_12) rfl kk_) ?_
      refine Gq.go (s₁.setTop (mkF m 15 #[.val (.int p0)] [(.int (13 : Int32)), (.int p0)])) (fun tt_ kk_ => XS.bipush X0.here hx rfl (hb hby d1_13) kk_) ?_
      by_cases c15_3 : p0 = (13 : Int32)
      · refine Gq.go (s₁.setTop (mkF m 54 #[.val (.int p0)] [])) (fun tt_ kk_ => XS.icmpYes X0.here hx rfl (pc0 := 15) (pc' := 54) rfl (hb hby d1_15) rfl (teq c15_3).1 (by decide) (by decide) kk_) ?_
        refine Gq.go (s₁.setTop (mkF m 55 #[.val (.int p0)] [(.int (1 : Int32))])) (fun tt_ kk_ => XS.iconst X0.here hx rfl (hb hby d1_54) kk_) ?_
        refine Gq.go (s₁.setTop (mkF m 59 #[.val (.int p0)] [(.int (1 : Int32))])) (fun tt_ kk_ => XS.goto X0.here hx rfl (pc0 := 55) (pc' := 59) rfl (hb hby d1_55) (by decide) (by decide) kk_) ?_
        refine Gq.retI X0 hx Bd.notSynchronized Bd.returns (by simp) (hb hby d1_59) rfl (by decide) (by decide) ?_
        show Q_own_isChar Z p0 h0 n0 _ s₁.heap _
        rw [eh0]
        exact ⟨by unfold own_isChar; rw [if_neg c3_1, if_neg c9_2, if_pos c15_3], N0, rfl⟩
      · refine Gq.go (s₁.setTop (mkF m 18 #[.val (.int p0)] [])) (fun tt_ kk_ => XS.icmpNo X0.here hx rfl (hb hby d1_15) rfl (feq c15_3).1 kk_) ?_
        refine Gq.go (s₁.setTop (mkF m 19 #[.val (.int p0)] [(.int p0)])) (fun tt_ kk_ => XS.iloadN X0.here hx rfl (hb hby d1_18) rfl kk_) ?_
        refine Gq.go (s₁.setTop (mkF m 21 #[.val (.int p0)] [(.int (32 : Int32)), (.int p0)])) (fun tt_ kk_ => XS.bipush X0.here hx rfl (hb hby d1_19) kk_) ?_
        by_cases c21_4 : p0 < (32 : Int32)
        · refine Gq.go (s₁.setTop (mkF m 30 #[.val (.int p0)] [])) (fun tt_ kk_ => XS.icmpYes X0.here hx rfl (pc0 := 21) (pc' := 30) rfl (hb hby d1_21) rfl (tlt c21_4).1 (by decide) (by decide) kk_) ?_
          refine Gq.go (s₁.setTop (mkF m 31 #[.val (.int p0)] [(.int p0)])) (fun tt_ kk_ => XS.iloadN X0.here hx rfl (hb hby d1_30) rfl kk_) ?_
          refine Gq.go (s₁.setTop (mkF m 33 #[.val (.int p0)] [(.int (57344 : Int32)), (.int p0)])) (fun tt_ kk_ => X0.ldcInt hx hown (mvT hZ (hw _ (List.mem_of_getElem? (i := 16) rfl))) (g := (mkF m 31 #[.val (.int p0)] [(.int p0)])) rfl (hb hby d1_31) _ kk_) ?_
          by_cases c33_5 : p0 < (57344 : Int32)
          · refine Gq.go (s₁.setTop (mkF m 42 #[.val (.int p0)] [])) (fun tt_ kk_ => XS.icmpYes X0.here hx rfl (pc0 := 33) (pc' := 42) rfl (hb hby d1_33) rfl (tlt c33_5).1 (by decide) (by decide) kk_) ?_
            refine Gq.go (s₁.setTop (mkF m 43 #[.val (.int p0)] [(.int p0)])) (fun tt_ kk_ => XS.iloadN X0.here hx rfl (hb hby d1_42) rfl kk_) ?_
            refine Gq.go (s₁.setTop (mkF m 45 #[.val (.int p0)] [(.int (65536 : Int32)), (.int p0)])) (fun tt_ kk_ => X0.ldcInt hx hown (mvT hZ (hw _ (List.mem_of_getElem? (i := 17) rfl))) (g := (mkF m 43 #[.val (.int p0)] [(.int p0)])) rfl (hb hby d1_43) _ kk_) ?_
            by_cases c45_6 : p0 < (65536 : Int32)
            · refine Gq.go (s₁.setTop (mkF m 58 #[.val (.int p0)] [])) (fun tt_ kk_ => XS.icmpYes X0.here hx rfl (pc0 := 45) (pc' := 58) rfl (hb hby d1_45) rfl (tlt c45_6).1 (by decide) (by decide) kk_) ?_
              refine Gq.go (s₁.setTop (mkF m 59 #[.val (.int p0)] [(.int (0 : Int32))])) (fun tt_ kk_ => XS.iconst X0.here hx rfl (hb hby d1_58) kk_) ?_
              refine Gq.retI X0 hx Bd.notSynchronized Bd.returns (by simp) (hb hby d1_59) rfl (by decide) (by decide) ?_
              show Q_own_isChar Z p0 h0 n0 _ s₁.heap _
              rw [eh0]
              exact ⟨by unfold own_isChar; rw [if_neg c3_1, if_neg c9_2, if_neg c15_3, if_pos c21_4, if_pos c33_5, if_pos c45_6], N0, rfl⟩
            · refine Gq.go (s₁.setTop (mkF m 48 #[.val (.int p0)] [])) (fun tt_ kk_ => XS.icmpNo X0.here hx rfl (hb hby d1_45) rfl (flt c45_6).1 kk_) ?_
              refine Gq.go (s₁.setTop (mkF m 49 #[.val (.int p0)] [(.int p0)])) (fun tt_ kk_ => XS.iloadN X0.here hx rfl (hb hby d1_48) rfl kk_) ?_
              refine Gq.go (s₁.setTop (mkF m 51 #[.val (.int p0)] [(.int (1114111 : Int32)), (.int p0)])) (fun tt_ kk_ => X0.ldcInt hx hown (mvT hZ (hw _ (List.mem_of_getElem? (i := 24) rfl))) (g := (mkF m 49 #[.val (.int p0)] [(.int p0)])) rfl (hb hby d1_49) _ kk_) ?_
              by_cases c51_7 : (1114111 : Int32) < p0
              · refine Gq.go (s₁.setTop (mkF m 58 #[.val (.int p0)] [])) (fun tt_ kk_ => XS.icmpYes X0.here hx rfl (pc0 := 51) (pc' := 58) rfl (hb hby d1_51) rfl (tlt c51_7).2.2.1 (by decide) (by decide) kk_) ?_
                refine Gq.go (s₁.setTop (mkF m 59 #[.val (.int p0)] [(.int (0 : Int32))])) (fun tt_ kk_ => XS.iconst X0.here hx rfl (hb hby d1_58) kk_) ?_
                refine Gq.retI X0 hx Bd.notSynchronized Bd.returns (by simp) (hb hby d1_59) rfl (by decide) (by decide) ?_
                show Q_own_isChar Z p0 h0 n0 _ s₁.heap _
                rw [eh0]
                exact ⟨by unfold own_isChar; rw [if_neg c3_1, if_neg c9_2, if_neg c15_3, if_pos c21_4, if_pos c33_5, if_neg c45_6, if_pos c51_7], N0, rfl⟩
              · refine Gq.go (s₁.setTop (mkF m 54 #[.val (.int p0)] [])) (fun tt_ kk_ => XS.icmpNo X0.here hx rfl (hb hby d1_51) rfl (flt c51_7).2.2.1 kk_) ?_
                refine Gq.go (s₁.setTop (mkF m 55 #[.val (.int p0)] [(.int (1 : Int32))])) (fun tt_ kk_ => XS.iconst X0.here hx rfl (hb hby d1_54) kk_) ?_
                refine Gq.go (s₁.setTop (mkF m 59 #[.val (.int p0)] [(.int (1 : Int32))])) (fun tt_ kk_ => XS.goto X0.here hx rfl (pc0 := 55) (pc' := 59) rfl (hb hby d1_55) (by decide) (by decide) kk_) ?_
                refine Gq.retI X0 hx Bd.notSynchronized Bd.returns (by simp) (hb hby d1_59) rfl (by decide) (by decide) ?_
                show Q_own_isChar Z p0 h0 n0 _ s₁.heap _
                rw [eh0]
                exact ⟨by unfold own_isChar; rw [if_neg c3_1, if_neg c9_2, if_neg c15_3, if_pos c21_4, if_pos c33_5, if_neg c45_6, if_neg c51_7], N0, rfl⟩
          · refine Gq.go (s₁.setTop (mkF m 36 #[.val (.int p0)] [])) (fun tt_ kk_ => XS.icmpNo X0.here hx rfl (hb hby d1_33) rfl (flt c33_5).1 kk_) ?_
            refine Gq.go (s₁.setTop (mkF m 37 #[.val (.int p0)] [(.int p0)])) (fun tt_ kk_ => XS.iloadN X0.here hx rfl (hb hby d1_36) rfl kk_) ?_
            refine Gq.go (s₁.setTop (mkF m 39 #[.val (.int p0)] [(.int (65533 : Int32)), (.int p0)])) (fun tt_ kk_ => X0.ldcInt hx hown (mvT hZ (hw _ (List.mem_of_getElem? (i := 23) rfl))) (g := (mkF m 37 #[.val (.int p0)] [(.int p0)])) rfl (hb hby d1_37) _ kk_) ?_
            by_cases c39_8 : (65533 : Int32) < p0
            · refine Gq.go (s₁.setTop (mkF m 42 #[.val (.int p0)] [])) (fun tt_ kk_ => XS.icmpNo X0.here hx rfl (hb hby d1_39) rfl (tlt c39_8).2.2.2 kk_) ?_
              refine Gq.go (s₁.setTop (mkF m 43 #[.val (.int p0)] [(.int p0)])) (fun tt_ kk_ => XS.iloadN X0.here hx rfl (hb hby d1_42) rfl kk_) ?_
              refine Gq.go (s₁.setTop (mkF m 45 #[.val (.int p0)] [(.int (65536 : Int32)), (.int p0)])) (fun tt_ kk_ => X0.ldcInt hx hown (mvT hZ (hw _ (List.mem_of_getElem? (i := 17) rfl))) (g := (mkF m 43 #[.val (.int p0)] [(.int p0)])) rfl (hb hby d1_43) _ kk_) ?_
              by_cases c45_9 : p0 < (65536 : Int32)
              · refine Gq.go (s₁.setTop (mkF m 58 #[.val (.int p0)] [])) (fun tt_ kk_ => XS.icmpYes X0.here hx rfl (pc0 := 45) (pc' := 58) rfl (hb hby d1_45) rfl (tlt c45_9).1 (by decide) (by decide) kk_) ?_
                refine Gq.go (s₁.setTop (mkF m 59 #[.val (.int p0)] [(.int (0 : Int32))])) (fun tt_ kk_ => XS.iconst X0.here hx rfl (hb hby d1_58) kk_) ?_
                refine Gq.retI X0 hx Bd.notSynchronized Bd.returns (by simp) (hb hby d1_59) rfl (by decide) (by decide) ?_
                show Q_own_isChar Z p0 h0 n0 _ s₁.heap _
                rw [eh0]
                exact ⟨by unfold own_isChar; rw [if_neg c3_1, if_neg c9_2, if_neg c15_3, if_pos c21_4, if_neg c33_5, if_pos c39_8, if_pos c45_9], N0, rfl⟩
              · refine Gq.go (s₁.setTop (mkF m 48 #[.val (.int p0)] [])) (fun tt_ kk_ => XS.icmpNo X0.here hx rfl (hb hby d1_45) rfl (flt c45_9).1 kk_) ?_
                refine Gq.go (s₁.setTop (mkF m 49 #[.val (.int p0)] [(.int p0)])) (fun tt_ kk_ => XS.iloadN X0.here hx rfl (hb hby d1_48) rfl kk_) ?_
                refine Gq.go (s₁.setTop (mkF m 51 #[.val (.int p0)] [(.int (1114111 : Int32)), (.int p0)])) (fun tt_ kk_ => X0.ldcInt hx hown (mvT hZ (hw _ (List.mem_of_getElem? (i := 24) rfl))) (g := (mkF m 49 #[.val (.int p0)] [(.int p0)])) rfl (hb hby d1_49) _ kk_) ?_
                by_cases c51_10 : (1114111 : Int32) < p0
                · refine Gq.go (s₁.setTop (mkF m 58 #[.val (.int p0)] [])) (fun tt_ kk_ => XS.icmpYes X0.here hx rfl (pc0 := 51) (pc' := 58) rfl (hb hby d1_51) rfl (tlt c51_10).2.2.1 (by decide) (by decide) kk_) ?_
                  refine Gq.go (s₁.setTop (mkF m 59 #[.val (.int p0)] [(.int (0 : Int32))])) (fun tt_ kk_ => XS.iconst X0.here hx rfl (hb hby d1_58) kk_) ?_
                  refine Gq.retI X0 hx Bd.notSynchronized Bd.returns (by simp) (hb hby d1_59) rfl (by decide) (by decide) ?_
                  show Q_own_isChar Z p0 h0 n0 _ s₁.heap _
                  rw [eh0]
                  exact ⟨by unfold own_isChar; rw [if_neg c3_1, if_neg c9_2, if_neg c15_3, if_pos c21_4, if_neg c33_5, if_pos c39_8, if_neg c45_9, if_pos c51_10], N0, rfl⟩
                · refine Gq.go (s₁.setTop (mkF m 54 #[.val (.int p0)] [])) (fun tt_ kk_ => XS.icmpNo X0.here hx rfl (hb hby d1_51) rfl (flt c51_10).2.2.1 kk_) ?_
                  refine Gq.go (s₁.setTop (mkF m 55 #[.val (.int p0)] [(.int (1 : Int32))])) (fun tt_ kk_ => XS.iconst X0.here hx rfl (hb hby d1_54) kk_) ?_
                  refine Gq.go (s₁.setTop (mkF m 59 #[.val (.int p0)] [(.int (1 : Int32))])) (fun tt_ kk_ => XS.goto X0.here hx rfl (pc0 := 55) (pc' := 59) rfl (hb hby d1_55) (by decide) (by decide) kk_) ?_
                  refine Gq.retI X0 hx Bd.notSynchronized Bd.returns (by simp) (hb hby d1_59) rfl (by decide) (by decide) ?_
                  show Q_own_isChar Z p0 h0 n0 _ s₁.heap _
                  rw [eh0]
                  exact ⟨by unfold own_isChar; rw [if_neg c3_1, if_neg c9_2, if_neg c15_3, if_pos c21_4, if_neg c33_5, if_pos c39_8, if_neg c45_9, if_neg c51_10], N0, rfl⟩
            · refine Gq.go (s₁.setTop (mkF m 54 #[.val (.int p0)] [])) (fun tt_ kk_ => XS.icmpYes X0.here hx rfl (pc0 := 39) (pc' := 54) rfl (hb hby d1_39) rfl (flt c39_8).2.2.2 (by decide) (by decide) kk_) ?_
              refine Gq.go (s₁.setTop (mkF m 55 #[.val (.int p0)] [(.int (1 : Int32))])) (fun tt_ kk_ => XS.iconst X0.here hx rfl (hb hby d1_54) kk_) ?_
              refine Gq.go (s₁.setTop (mkF m 59 #[.val (.int p0)] [(.int (1 : Int32))])) (fun tt_ kk_ => XS.goto X0.here hx rfl (pc0 := 55) (pc' := 59) rfl (hb hby d1_55) (by decide) (by decide) kk_) ?_
              refine Gq.retI X0 hx Bd.notSynchronized Bd.returns (by simp) (hb hby d1_59) rfl (by decide) (by decide) ?_
              show Q_own_isChar Z p0 h0 n0 _ s₁.heap _
              rw [eh0]
              exact ⟨by unfold own_isChar; rw [if_neg c3_1, if_neg c9_2, if_neg c15_3, if_pos c21_4, if_neg c33_5, if_neg c39_8], N0, rfl⟩
        · refine Gq.go (s₁.setTop (mkF m 24 #[.val (.int p0)] [])) (fun tt_ kk_ => XS.icmpNo X0.here hx rfl (hb hby d1_21) rfl (flt c21_4).1 kk_) ?_
          refine Gq.go (s₁.setTop (mkF m 25 #[.val (.int p0)] [(.int p0)])) (fun tt_ kk_ => XS.iloadN X0.here hx rfl (hb hby d1_24) rfl kk_) ?_
          refine Gq.go (s₁.setTop (mkF m 27 #[.val (.int p0)] [(.int (55295 : Int32)), (.int p0)])) (fun tt_ kk_ => X0.ldcInt hx hown (mvT hZ (hw _ (List.mem_of_getElem? (i := 22) rfl))) (g := (mkF m 25 #[.val (.int p0)] [(.int p0)])) rfl (hb hby d1_25) _ kk_) ?_
          by_cases c27_11 : (55295 : Int32) < p0
          · refine Gq.go (s₁.setTop (mkF m 30 #[.val (.int p0)] [])) (fun tt_ kk_ => XS.icmpNo X0.here hx rfl (hb hby d1_27) rfl (tlt c27_11).2.2.2 kk_) ?_
            refine Gq.go (s₁.setTop (mkF m 31 #[.val (.int p0)] [(.int p0)])) (fun tt_ kk_ => XS.iloadN X0.here hx rfl (hb hby d1_30) rfl kk_) ?_
            refine Gq.go (s₁.setTop (mkF m 33 #[.val (.int p0)] [(.int (57344 : Int32)), (.int p0)])) (fun tt_ kk_ => X0.ldcInt hx hown (mvT hZ (hw _ (List.mem_of_getElem? (i := 16) rfl))) (g := (mkF m 31 #[.val (.int p0)] [(.int p0)])) rfl (hb hby d1_31) _ kk_) ?_
            by_cases c33_12 : p0 < (57344 : Int32)
            · refine Gq.go (s₁.setTop (mkF m 42 #[.val (.int p0)] [])) (fun tt_ kk_ => XS.icmpYes X0.here hx rfl (pc0 := 33) (pc' := 42) rfl (hb hby d1_33) rfl (tlt c33_12).1 (by decide) (by decide) kk_) ?_
              refine Gq.go (s₁.setTop (mkF m 43 #[.val (.int p0)] [(.int p0)])) (fun tt_ kk_ => XS.iloadN X0.here hx rfl (hb hby d1_42) rfl kk_) ?_
              refine Gq.go (s₁.setTop (mkF m 45 #[.val (.int p0)] [(.int (65536 : Int32)), (.int p0)])) (fun tt_ kk_ => X0.ldcInt hx hown (mvT hZ (hw _ (List.mem_of_getElem? (i := 17) rfl))) (g := (mkF m 43 #[.val (.int p0)] [(.int p0)])) rfl (hb hby d1_43) _ kk_) ?_
              by_cases c45_13 : p0 < (65536 : Int32)
              · refine Gq.go (s₁.setTop (mkF m 58 #[.val (.int p0)] [])) (fun tt_ kk_ => XS.icmpYes X0.here hx rfl (pc0 := 45) (pc' := 58) rfl (hb hby d1_45) rfl (tlt c45_13).1 (by decide) (by decide) kk_) ?_
                refine Gq.go (s₁.setTop (mkF m 59 #[.val (.int p0)] [(.int (0 : Int32))])) (fun tt_ kk_ => XS.iconst X0.here hx rfl (hb hby d1_58) kk_) ?_
                refine Gq.retI X0 hx Bd.notSynchronized Bd.returns (by simp) (hb hby d1_59) rfl (by decide) (by decide) ?_
                show Q_own_isChar Z p0 h0 n0 _ s₁.heap _
                rw [eh0]
                exact ⟨by unfold own_isChar; rw [if_neg c3_1, if_neg c9_2, if_neg c15_3, if_neg c21_4, if_pos c27_11, if_pos c33_12, if_pos c45_13], N0, rfl⟩
              · refine Gq.go (s₁.setTop (mkF m 48 #[.val (.int p0)] [])) (fun tt_ kk_ => XS.icmpNo X0.here hx rfl (hb hby d1_45) rfl (flt c45_13).1 kk_) ?_
                refine Gq.go (s₁.setTop (mkF m 49 #[.val (.int p0)] [(.int p0)])) (fun tt_ kk_ => XS.iloadN X0.here hx rfl (hb hby d1_48) rfl kk_) ?_
                refine Gq.go (s₁.setTop (mkF m 51 #[.val (.int p0)] [(.int (1114111 : Int32)), (.int p0)])) (fun tt_ kk_ => X0.ldcInt hx hown (mvT hZ (hw _ (List.mem_of_getElem? (i := 24) rfl))) (g := (mkF m 49 #[.val (.int p0)] [(.int p0)])) rfl (hb hby d1_49) _ kk_) ?_
                by_cases c51_14 : (1114111 : Int32) < p0
                · refine Gq.go (s₁.setTop (mkF m 58 #[.val (.int p0)] [])) (fun tt_ kk_ => XS.icmpYes X0.here hx rfl (pc0 := 51) (pc' := 58) rfl (hb hby d1_51) rfl (tlt c51_14).2.2.1 (by decide) (by decide) kk_) ?_
                  refine Gq.go (s₁.setTop (mkF m 59 #[.val (.int p0)] [(.int (0 : Int32))])) (fun tt_ kk_ => XS.iconst X0.here hx rfl (hb hby d1_58) kk_) ?_
                  refine Gq.retI X0 hx Bd.notSynchronized Bd.returns (by simp) (hb hby d1_59) rfl (by decide) (by decide) ?_
                  show Q_own_isChar Z p0 h0 n0 _ s₁.heap _
                  rw [eh0]
                  exact ⟨by unfold own_isChar; rw [if_neg c3_1, if_neg c9_2, if_neg c15_3, if_neg c21_4, if_pos c27_11, if_pos c33_12, if_neg c45_13, if_pos c51_14], N0, rfl⟩
                · refine Gq.go (s₁.setTop (mkF m 54 #[.val (.int p0)] [])) (fun tt_ kk_ => XS.icmpNo X0.here hx rfl (hb hby d1_51) rfl (flt c51_14).2.2.1 kk_) ?_
                  refine Gq.go (s₁.setTop (mkF m 55 #[.val (.int p0)] [(.int (1 : Int32))])) (fun tt_ kk_ => XS.iconst X0.here hx rfl (hb hby d1_54) kk_) ?_
                  refine Gq.go (s₁.setTop (mkF m 59 #[.val (.int p0)] [(.int (1 : Int32))])) (fun tt_ kk_ => XS.goto X0.here hx rfl (pc0 := 55) (pc' := 59) rfl (hb hby d1_55) (by decide) (by decide) kk_) ?_
                  refine Gq.retI X0 hx Bd.notSynchronized Bd.returns (by simp) (hb hby d1_59) rfl (by decide) (by decide) ?_
                  show Q_own_isChar Z p0 h0 n0 _ s₁.heap _
                  rw [eh0]
                  exact ⟨by unfold own_isChar; rw [if_neg c3_1, if_neg c9_2, if_neg c15_3, if_neg c21_4, if_pos c27_11, if_pos c33_12, if_neg c45_13, if_neg c51_14], N0, rfl⟩
            · refine Gq.go (s₁.setTop (mkF m 36 #[.val (.int p0)] [])) (fun tt_ kk_ => XS.icmpNo X0.here hx rfl (hb hby d1_33) rfl (flt c33_12).1 kk_) ?_
              refine Gq.go (s₁.setTop (mkF m 37 #[.val (.int p0)] [(.int p0)])) (fun tt_ kk_ => XS.iloadN X0.here hx rfl (hb hby d1_36) rfl kk_) ?_
              refine Gq.go (s₁.setTop (mkF m 39 #[.val (.int p0)] [(.int (65533 : Int32)), (.int p0)])) (fun tt_ kk_ => X0.ldcInt hx hown (mvT hZ (hw _ (List.mem_of_getElem? (i := 23) rfl))) (g := (mkF m 37 #[.val (.int p0)] [(.int p0)])) rfl (hb hby d1_37) _ kk_) ?_
              by_cases c39_15 : (65533 : Int32) < p0
              · refine Gq.go (s₁.setTop (mkF m 42 #[.val (.int p0)] [])) (fun tt_ kk_ => XS.icmpNo X0.here hx rfl (hb hby d1_39) rfl (tlt c39_15).2.2.2 kk_) ?_
                refine Gq.go (s₁.setTop (mkF m 43 #[.val (.int p0)] [(.int p0)])) (fun tt_ kk_ => XS.iloadN X0.here hx rfl (hb hby d1_42) rfl kk_) ?_
                refine Gq.go (s₁.setTop (mkF m 45 #[.val (.int p0)] [(.int (65536 : Int32)), (.int p0)])) (fun tt_ kk_ => X0.ldcInt hx hown (mvT hZ (hw _ (List.mem_of_getElem? (i := 17) rfl))) (g := (mkF m 43 #[.val (.int p0)] [(.int p0)])) rfl (hb hby d1_43) _ kk_) ?_
                by_cases c45_16 : p0 < (65536 : Int32)
                · refine Gq.go (s₁.setTop (mkF m 58 #[.val (.int p0)] [])) (fun tt_ kk_ => XS.icmpYes X0.here hx rfl (pc0 := 45) (pc' := 58) rfl (hb hby d1_45) rfl (tlt c45_16).1 (by decide) (by decide) kk_) ?_
                  refine Gq.go (s₁.setTop (mkF m 59 #[.val (.int p0)] [(.int (0 : Int32))])) (fun tt_ kk_ => XS.iconst X0.here hx rfl (hb hby d1_58) kk_) ?_
                  refine Gq.retI X0 hx Bd.notSynchronized Bd.returns (by simp) (hb hby d1_59) rfl (by decide) (by decide) ?_
                  show Q_own_isChar Z p0 h0 n0 _ s₁.heap _
                  rw [eh0]
                  exact ⟨by unfold own_isChar; rw [if_neg c3_1, if_neg c9_2, if_neg c15_3, if_neg c21_4, if_pos c27_11, if_neg c33_12, if_pos c39_15, if_pos c45_16], N0, rfl⟩
                · refine Gq.go (s₁.setTop (mkF m 48 #[.val (.int p0)] [])) (fun tt_ kk_ => XS.icmpNo X0.here hx rfl (hb hby d1_45) rfl (flt c45_16).1 kk_) ?_
                  refine Gq.go (s₁.setTop (mkF m 49 #[.val (.int p0)] [(.int p0)])) (fun tt_ kk_ => XS.iloadN X0.here hx rfl (hb hby d1_48) rfl kk_) ?_
                  refine Gq.go (s₁.setTop (mkF m 51 #[.val (.int p0)] [(.int (1114111 : Int32)), (.int p0)])) (fun tt_ kk_ => X0.ldcInt hx hown (mvT hZ (hw _ (List.mem_of_getElem? (i := 24) rfl))) (g := (mkF m 49 #[.val (.int p0)] [(.int p0)])) rfl (hb hby d1_49) _ kk_) ?_
                  by_cases c51_17 : (1114111 : Int32) < p0
                  · refine Gq.go (s₁.setTop (mkF m 58 #[.val (.int p0)] [])) (fun tt_ kk_ => XS.icmpYes X0.here hx rfl (pc0 := 51) (pc' := 58) rfl (hb hby d1_51) rfl (tlt c51_17).2.2.1 (by decide) (by decide) kk_) ?_
                    refine Gq.go (s₁.setTop (mkF m 59 #[.val (.int p0)] [(.int (0 : Int32))])) (fun tt_ kk_ => XS.iconst X0.here hx rfl (hb hby d1_58) kk_) ?_
                    refine Gq.retI X0 hx Bd.notSynchronized Bd.returns (by simp) (hb hby d1_59) rfl (by decide) (by decide) ?_
                    show Q_own_isChar Z p0 h0 n0 _ s₁.heap _
                    rw [eh0]
                    exact ⟨by unfold own_isChar; rw [if_neg c3_1, if_neg c9_2, if_neg c15_3, if_neg c21_4, if_pos c27_11, if_neg c33_12, if_pos c39_15, if_neg c45_16, if_pos c51_17], N0, rfl⟩
                  · refine Gq.go (s₁.setTop (mkF m 54 #[.val (.int p0)] [])) (fun tt_ kk_ => XS.icmpNo X0.here hx rfl (hb hby d1_51) rfl (flt c51_17).2.2.1 kk_) ?_
                    refine Gq.go (s₁.setTop (mkF m 55 #[.val (.int p0)] [(.int (1 : Int32))])) (fun tt_ kk_ => XS.iconst X0.here hx rfl (hb hby d1_54) kk_) ?_
                    refine Gq.go (s₁.setTop (mkF m 59 #[.val (.int p0)] [(.int (1 : Int32))])) (fun tt_ kk_ => XS.goto X0.here hx rfl (pc0 := 55) (pc' := 59) rfl (hb hby d1_55) (by decide) (by decide) kk_) ?_
                    refine Gq.retI X0 hx Bd.notSynchronized Bd.returns (by simp) (hb hby d1_59) rfl (by decide) (by decide) ?_
                    show Q_own_isChar Z p0 h0 n0 _ s₁.heap _
                    rw [eh0]
                    exact ⟨by unfold own_isChar; rw [if_neg c3_1, if_neg c9_2, if_neg c15_3, if_neg c21_4, if_pos c27_11, if_neg c33_12, if_pos c39_15, if_neg c45_16, if_neg c51_17], N0, rfl⟩
              · refine Gq.go (s₁.setTop (mkF m 54 #[.val (.int p0)] [])) (fun tt_ kk_ => XS.icmpYes X0.here hx rfl (pc0 := 39) (pc' := 54) rfl (hb hby d1_39) rfl (flt c39_15).2.2.2 (by decide) (by decide) kk_) ?_
                refine Gq.go (s₁.setTop (mkF m 55 #[.val (.int p0)] [(.int (1 : Int32))])) (fun tt_ kk_ => XS.iconst X0.here hx rfl (hb hby d1_54) kk_) ?_
                refine Gq.go (s₁.setTop (mkF m 59 #[.val (.int p0)] [(.int (1 : Int32))])) (fun tt_ kk_ => XS.goto X0.here hx rfl (pc0 := 55) (pc' := 59) rfl (hb hby d1_55) (by decide) (by decide) kk_) ?_
                refine Gq.retI X0 hx Bd.notSynchronized Bd.returns (by simp) (hb hby d1_59) rfl (by decide) (by decide) ?_
                show Q_own_isChar Z p0 h0 n0 _ s₁.heap _
                rw [eh0]
                exact ⟨by unfold own_isChar; rw [if_neg c3_1, if_neg c9_2, if_neg c15_3, if_neg c21_4, if_pos c27_11, if_neg c33_12, if_neg c39_15], N0, rfl⟩
          · refine Gq.go (s₁.setTop (mkF m 54 #[.val (.int p0)] [])) (fun tt_ kk_ => XS.icmpYes X0.here hx rfl (pc0 := 27) (pc' := 54) rfl (hb hby d1_27) rfl (flt c27_11).2.2.2 (by decide) (by decide) kk_) ?_
            refine Gq.go (s₁.setTop (mkF m 55 #[.val (.int p0)] [(.int (1 : Int32))])) (fun tt_ kk_ => XS.iconst X0.here hx rfl (hb hby d1_54) kk_) ?_
            refine Gq.go (s₁.setTop (mkF m 59 #[.val (.int p0)] [(.int (1 : Int32))])) (fun tt_ kk_ => XS.goto X0.here hx rfl (pc0 := 55) (pc' := 59) rfl (hb hby d1_55) (by decide) (by decide) kk_) ?_
            refine Gq.retI X0 hx Bd.notSynchronized Bd.returns (by simp) (hb hby d1_59) rfl (by decide) (by decide) ?_
            show Q_own_isChar Z p0 h0 n0 _ s₁.heap _
            rw [eh0]
            exact ⟨by unfold own_isChar; rw [if_neg c3_1, if_neg c9_2, if_neg c15_3, if_neg c21_4, if_neg c27_11], N0, rfl⟩
theorem d2_0 : decode method_2_code 0 = .ok (.iload_n 0, 1) := by decide +kernel
theorem d2_1 : decode method_2_code 1 = .ok (.ifCond .lt 9, 3) := by decide +kernel
theorem d2_4 : decode method_2_code 4 = .ok (.iload_n 0, 1) := by decide +kernel
theorem d2_5 : decode method_2_code 5 = .ok (.ldc 7, 2) := by decide +kernel
theorem d2_7 : decode method_2_code 7 = .ok (.if_icmp .le 5, 3) := by decide +kernel
theorem d2_10 : decode method_2_code 10 = .ok (.iconst 0, 1) := by decide +kernel
theorem d2_11 : decode method_2_code 11 = .ok (.ireturn, 1) := by decide +kernel
theorem d2_12 : decode method_2_code 12 = .ok (.iload_n 0, 1) := by decide +kernel
theorem d2_13 : decode method_2_code 13 = .ok (.bipush 8, 2) := by decide +kernel
theorem d2_15 : decode method_2_code 15 = .ok (.if_icmp .gt 5, 3) := by decide +kernel
theorem d2_18 : decode method_2_code 18 = .ok (.iconst 0, 1) := by decide +kernel
theorem d2_19 : decode method_2_code 19 = .ok (.ireturn, 1) := by decide +kernel
theorem d2_20 : decode method_2_code 20 = .ok (.iload_n 0, 1) := by decide +kernel
theorem d2_21 : decode method_2_code 21 = .ok (.bipush 11, 2) := by decide +kernel
theorem d2_23 : decode method_2_code 23 = .ok (.if_icmp .eq 9, 3) := by decide +kernel
theorem d2_26 : decode method_2_code 26 = .ok (.iload_n 0, 1) := by decide +kernel
theorem d2_27 : decode method_2_code 27 = .ok (.bipush 12, 2) := by decide +kernel
theorem d2_29 : decode method_2_code 29 = .ok (.if_icmp .ne 5, 3) := by decide +kernel
theorem d2_32 : decode method_2_code 32 = .ok (.iconst 0, 1) := by decide +kernel
theorem d2_33 : decode method_2_code 33 = .ok (.ireturn, 1) := by decide +kernel
theorem d2_34 : decode method_2_code 34 = .ok (.iload_n 0, 1) := by decide +kernel
theorem d2_35 : decode method_2_code 35 = .ok (.bipush 14, 2) := by decide +kernel
theorem d2_37 : decode method_2_code 37 = .ok (.if_icmp .lt 11, 3) := by decide +kernel
theorem d2_40 : decode method_2_code 40 = .ok (.iload_n 0, 1) := by decide +kernel
theorem d2_41 : decode method_2_code 41 = .ok (.bipush 31, 2) := by decide +kernel
theorem d2_43 : decode method_2_code 43 = .ok (.if_icmp .gt 5, 3) := by decide +kernel
theorem d2_46 : decode method_2_code 46 = .ok (.iconst 0, 1) := by decide +kernel
theorem d2_47 : decode method_2_code 47 = .ok (.ireturn, 1) := by decide +kernel
theorem d2_48 : decode method_2_code 48 = .ok (.iload_n 0, 1) := by decide +kernel
theorem d2_49 : decode method_2_code 49 = .ok (.ldc 8, 2) := by decide +kernel
theorem d2_51 : decode method_2_code 51 = .ok (.if_icmp .lt 11, 3) := by decide +kernel
theorem d2_54 : decode method_2_code 54 = .ok (.iload_n 0, 1) := by decide +kernel
theorem d2_55 : decode method_2_code 55 = .ok (.ldc 9, 2) := by decide +kernel
theorem d2_57 : decode method_2_code 57 = .ok (.if_icmp .gt 5, 3) := by decide +kernel
theorem d2_60 : decode method_2_code 60 = .ok (.iconst 0, 1) := by decide +kernel
theorem d2_61 : decode method_2_code 61 = .ok (.ireturn, 1) := by decide +kernel
theorem d2_62 : decode method_2_code 62 = .ok (.iload_n 0, 1) := by decide +kernel
theorem d2_63 : decode method_2_code 63 = .ok (.ldc 10, 2) := by decide +kernel
theorem d2_65 : decode method_2_code 65 = .ok (.if_icmp .eq 9, 3) := by decide +kernel
theorem d2_68 : decode method_2_code 68 = .ok (.iload_n 0, 1) := by decide +kernel
theorem d2_69 : decode method_2_code 69 = .ok (.ldc 11, 2) := by decide +kernel
theorem d2_71 : decode method_2_code 71 = .ok (.if_icmp .ne 5, 3) := by decide +kernel
theorem d2_74 : decode method_2_code 74 = .ok (.iconst 0, 1) := by decide +kernel
theorem d2_75 : decode method_2_code 75 = .ok (.ireturn, 1) := by decide +kernel
theorem d2_76 : decode method_2_code 76 = .ok (.iconst 1, 1) := by decide +kernel
theorem d2_77 : decode method_2_code 77 = .ok (.ireturn, 1) := by decide +kernel
def own_ref (p0 : Int32) : Int32 := (if p0 < (0 : Int32) then (0 : Int32) else (if (1114111 : Int32) < p0 then (0 : Int32) else (if (8 : Int32) < p0 then (if p0 = (11 : Int32) then (0 : Int32) else (if p0 = (12 : Int32) then (0 : Int32) else (if p0 < (14 : Int32) then (if p0 < (55296 : Int32) then (if p0 = (65534 : Int32) then (0 : Int32) else (if p0 = (65535 : Int32) then (0 : Int32) else (1 : Int32))) else (if (57343 : Int32) < p0 then (if p0 = (65534 : Int32) then (0 : Int32) else (if p0 = (65535 : Int32) then (0 : Int32) else (1 : Int32))) else (0 : Int32))) else (if (31 : Int32) < p0 then (if p0 < (55296 : Int32) then (if p0 = (65534 : Int32) then (0 : Int32) else (if p0 = (65535 : Int32) then (0 : Int32) else (1 : Int32))) else (if (57343 : Int32) < p0 then (if p0 = (65534 : Int32) then (0 : Int32) else (if p0 = (65535 : Int32) then (0 : Int32) else (1 : Int32))) else (0 : Int32))) else (0 : Int32))))) else (0 : Int32))))
theorem pn_com_example_arbor2_arbor2_model_XmlNamesIsCharPinLaw : plainName "com/example/arbor2/arbor2/model/XmlNamesIsCharPinLaw" = true := by first | (simp [plainName, overriddenIn]; done) | decide +kernel
theorem ef_own_ref (m : MethodId) (y0 : Int32) : entryFrame m #[(.int y0)] 1 = mkF m 0 #[.val (.int y0)] [] := by first | (simp [entryFrame, mkF, argsToLocals, Value.category]; done) | rfl
def Q_own_ref (Z : State) (p0 : Int32) (h0 : Heap) (n0 : Nat) (v : Option Value) (h : Heap) (L : List Loc) : Prop := v = some (.int (own_ref p0)) ∧ Fr n0 L ∧ h = h0
set_option maxRecDepth 65536 in
set_option maxHeartbeats 40000000 in
theorem rm_own_ref (l : Launch) (Z : State) (a0 : Array Value) (hw : ∀ d ∈ tables_1, d.before a0 Z = true) (ws : List Jvm.Cond) (p0 : Int32) (h0 : Heap) (n0 : Nat) (Z0 : n0 ≤ h0.size)  :
    MetFree l (⟨"com/example/arbor2/arbor2/model/XmlNamesIsCharPinLaw", "ref", "(I)Z"⟩ : MethodName) (head1 (Jvm.Cond.code (⟨"com/example/arbor2/arbor2/model/XmlNamesIsCharPinLaw", "ref", "(I)Z"⟩ : MethodName) method_2_code 1 (some .boolean) :: ws) ({ frames := 0, cells := 0, slots := 0, locals := 0 } : Room)) (fun a U => a = #[(.int p0)] ∧ Z.Warmed39 U.vm ∧ U.heap = h0) (fun _ _ _ _ _ => True) (fun _ U o U' => ∃ v L, o = .returned v ∧ Q_own_ref Z p0 h0 n0 v U'.heap L ∧ FrameEnd U o U' L ({ frames := 0, cells := 0, slots := 0, locals := 0 } : Room).cells ({ frames := 0, cells := 0, slots := 0, locals := 0 } : Room).slots) := by
  refine MetFree.of_bodySF (plainFor_of_name pn_com_example_arbor2_arbor2_model_XmlNamesIsCharPinLaw) hisR ?_
  intro p e s m args below meth c s₁ Bd hml0 hP hK
  obtain ⟨rfl, hZ, hh⟩ := hP
  have hx := Bd.exec
  have hby := Bd.bytes
  have hml : c.maxLocals = 1 := hml0
  have hown : s.vm.findClass "com/example/arbor2/arbor2/model/XmlNamesIsCharPinLaw" = some m.cls := findClass_of_methodNamed Bd.named
  have hnm := (name_of_methodNamed Bd.named Bd.method).1
  have X0 : Stand p l e ({ frames := 0, cells := 0, slots := 0, locals := 0 } : Room) s m #[(.int p0)] below meth c s₁ [] 0 0 := Stand.of_body Bd
  have eh0 : s₁.heap = h0 := by rw [← hh, Bd.state]; rfl
  have N0 := Fr.nil n0
  refine Gq.start (Q := Q_own_ref Z p0 h0 n0) (kc := ({ frames := 0, cells := 0, slots := 0, locals := 0 } : Room).cells) (ks := ({ frames := 0, cells := 0, slots := 0, locals := 0 } : Room).slots) (ef_own_ref m p0) ?_
  refine Gq.go (s₁.setTop (mkF m 1 #[.val (.int p0)] [(.int p0)])) (fun tt_ kk_ => XS.iloadN X0.here hx rfl (hb hby d2_0) rfl kk_) ?_
  by_cases c1_1 : p0 < (0 : Int32)
  · refine Gq.go (s₁.setTop (mkF m 10 #[.val (.int p0)] [])) (fun tt_ kk_ => XS.ifYes X0.here hx rfl (pc0 := 1) (pc' := 10) rfl (hb hby d2_1) rfl ((if0 _ _).trans (tlt c1_1).1) (by decide) (by decide) kk_) ?_
    refine Gq.go (s₁.setTop (mkF m 11 #[.val (.int p0)] [(.int (0 : Int32))])) (fun tt_ kk_ => XS.iconst X0.here hx rfl (hb hby d2_10) kk_) ?_
    refine Gq.retI X0 hx Bd.notSynchronized Bd.returns (by simp) (hb hby d2_11) rfl (by decide) (by decide) ?_
    show Q_own_ref Z p0 h0 n0 _ s₁.heap _
    rw [eh0]
    exact ⟨by unfold own_ref; rw [if_pos c1_1], N0, rfl⟩
  · refine Gq.go (s₁.setTop (mkF m 4 #[.val (.int p0)] [])) (fun tt_ kk_ => XS.ifNo X0.here hx rfl (hb hby d2_1) rfl ((if0 _ _).trans (flt c1_1).1) kk_) ?_
    refine Gq.go (s₁.setTop (mkF m 5 #[.val (.int p0)] [(.int p0)])) (fun tt_ kk_ => XS.iloadN X0.here hx rfl (hb hby d2_4) rfl kk_) ?_
    refine Gq.go (s₁.setTop (mkF m 7 #[.val (.int p0)] [(.int (1114111 : Int32)), (.int p0)])) (fun tt_ kk_ => X0.ldcInt hx hown (mvT hZ (hw _ (List.mem_of_getElem? (i := 8) rfl))) (g := (mkF m 5 #[.val (.int p0)] [(.int p0)])) rfl (hb hby d2_5) _ kk_) ?_
    by_cases c7_2 : (1114111 : Int32) < p0
    · refine Gq.go (s₁.setTop (mkF m 10 #[.val (.int p0)] [])) (fun tt_ kk_ => XS.icmpNo X0.here hx rfl (hb hby d2_7) rfl (tlt c7_2).2.2.2 kk_) ?_
      refine Gq.go (s₁.setTop (mkF m 11 #[.val (.int p0)] [(.int (0 : Int32))])) (fun tt_ kk_ => XS.iconst X0.here hx rfl (hb hby d2_10) kk_) ?_
      refine Gq.retI X0 hx Bd.notSynchronized Bd.returns (by simp) (hb hby d2_11) rfl (by decide) (by decide) ?_
      show Q_own_ref Z p0 h0 n0 _ s₁.heap _
      rw [eh0]
      exact ⟨by unfold own_ref; rw [if_neg c1_1, if_pos c7_2], N0, rfl⟩
    · refine Gq.go (s₁.setTop (mkF m 12 #[.val (.int p0)] [])) (fun tt_ kk_ => XS.icmpYes X0.here hx rfl (pc0 := 7) (pc' := 12) rfl (hb hby d2_7) rfl (flt c7_2).2.2.2 (by decide) (by decide) kk_) ?_
      refine Gq.go (s₁.setTop (mkF m 13 #[.val (.int p0)] [(.int p0)])) (fun tt_ kk_ => XS.iloadN X0.here hx rfl (hb hby d2_12) rfl kk_) ?_
      refine Gq.go (s₁.setTop (mkF m 15 #[.val (.int p0)] [(.int (8 : Int32)), (.int p0)])) (fun tt_ kk_ => XS.bipush X0.here hx rfl (hb hby d2_13) kk_) ?_
      by_cases c15_3 : (8 : Int32) < p0
      · refine Gq.go (s₁.setTop (mkF m 20 #[.val (.int p0)] [])) (fun tt_ kk_ => XS.icmpYes X0.here hx rfl (pc0 := 15) (pc' := 20) rfl (hb hby d2_15) rfl (tlt c15_3).2.2.1 (by decide) (by decide) kk_) ?_
        refine Gq.go (s₁.setTop (mkF m 21 #[.val (.int p0)] [(.int p0)])) (fun tt_ kk_ => XS.iloadN X0.here hx rfl (hb hby d2_20) rfl kk_) ?_
        refine Gq.go (s₁.setTop (mkF m 23 #[.val (.int p0)] [(.int (11 : Int32)), (.int p0)])) (fun tt_ kk_ => XS.bipush X0.here hx rfl (hb hby d2_21) kk_) ?_
        by_cases c23_4 : p0 = (11 : Int32)
        · refine Gq.go (s₁.setTop (mkF m 32 #[.val (.int p0)] [])) (fun tt_ kk_ => XS.icmpYes X0.here hx rfl (pc0 := 23) (pc' := 32) rfl (hb hby d2_23) rfl (teq c23_4).1 (by decide) (by decide) kk_) ?_
          refine Gq.go (s₁.setTop (mkF m 33 #[.val (.int p0)] [(.int (0 : Int32))])) (fun tt_ kk_ => XS.iconst X0.here hx rfl (hb hby d2_32) kk_) ?_
          refine Gq.retI X0 hx Bd.notSynchronized Bd.returns (by simp) (hb hby d2_33) rfl (by decide) (by decide) ?_
          show Q_own_ref Z p0 h0 n0 _ s₁.heap _
          rw [eh0]
          exact ⟨by unfold own_ref; rw [if_neg c1_1, if_neg c7_2, if_pos c15_3, if_pos c23_4], N0, rfl⟩
        · refine Gq.go (s₁.setTop (mkF m 26 #[.val (.int p0)] [])) (fun tt_ kk_ => XS.icmpNo X0.here hx rfl (hb hby d2_23) rfl (feq c23_4).1 kk_) ?_
          refine Gq.go (s₁.setTop (mkF m 27 #[.val (.int p0)] [(.int p0)])) (fun tt_ kk_ => XS.iloadN X0.here hx rfl (hb hby d2_26) rfl kk_) ?_
          refine Gq.go (s₁.setTop (mkF m 29 #[.val (.int p0)] [(.int (12 : Int32)), (.int p0)])) (fun tt_ kk_ => XS.bipush X0.here hx rfl (hb hby d2_27) kk_) ?_
          by_cases c29_5 : p0 = (12 : Int32)
          · refine Gq.go (s₁.setTop (mkF m 32 #[.val (.int p0)] [])) (fun tt_ kk_ => XS.icmpNo X0.here hx rfl (hb hby d2_29) rfl (teq c29_5).2 kk_) ?_
            refine Gq.go (s₁.setTop (mkF m 33 #[.val (.int p0)] [(.int (0 : Int32))])) (fun tt_ kk_ => XS.iconst X0.here hx rfl (hb hby d2_32) kk_) ?_
            refine Gq.retI X0 hx Bd.notSynchronized Bd.returns (by simp) (hb hby d2_33) rfl (by decide) (by decide) ?_
            show Q_own_ref Z p0 h0 n0 _ s₁.heap _
            rw [eh0]
            exact ⟨by unfold own_ref; rw [if_neg c1_1, if_neg c7_2, if_pos c15_3, if_neg c23_4, if_pos c29_5], N0, rfl⟩
          · refine Gq.go (s₁.setTop (mkF m 34 #[.val (.int p0)] [])) (fun tt_ kk_ => XS.icmpYes X0.here hx rfl (pc0 := 29) (pc' := 34) rfl (hb hby d2_29) rfl (feq c29_5).2 (by decide) (by decide) kk_) ?_
            refine Gq.go (s₁.setTop (mkF m 35 #[.val (.int p0)] [(.int p0)])) (fun tt_ kk_ => XS.iloadN X0.here hx rfl (hb hby d2_34) rfl kk_) ?_
            refine Gq.go (s₁.setTop (mkF m 37 #[.val (.int p0)] [(.int (14 : Int32)), (.int p0)])) (fun tt_ kk_ => XS.bipush X0.here hx rfl (hb hby d2_35) kk_) ?_
            by_cases c37_6 : p0 < (14 : Int32)
            · refine Gq.go (s₁.setTop (mkF m 48 #[.val (.int p0)] [])) (fun tt_ kk_ => XS.icmpYes X0.here hx rfl (pc0 := 37) (pc' := 48) rfl (hb hby d2_37) rfl (tlt c37_6).1 (by decide) (by decide) kk_) ?_
              refine Gq.go (s₁.setTop (mkF m 49 #[.val (.int p0)] [(.int p0)])) (fun tt_ kk_ => XS.iloadN X0.here hx rfl (hb hby d2_48) rfl kk_) ?_
              refine Gq.go (s₁.setTop (mkF m 51 #[.val (.int p0)] [(.int (55296 : Int32)), (.int p0)])) (fun tt_ kk_ => X0.ldcInt hx hown (mvT hZ (hw _ (List.mem_of_getElem? (i := 2) rfl))) (g := (mkF m 49 #[.val (.int p0)] [(.int p0)])) rfl (hb hby d2_49) _ kk_) ?_
              by_cases c51_7 : p0 < (55296 : Int32)
              · refine Gq.go (s₁.setTop (mkF m 62 #[.val (.int p0)] [])) (fun tt_ kk_ => XS.icmpYes X0.here hx rfl (pc0 := 51) (pc' := 62) rfl (hb hby d2_51) rfl (tlt c51_7).1 (by decide) (by decide) kk_) ?_
                refine Gq.go (s₁.setTop (mkF m 63 #[.val (.int p0)] [(.int p0)])) (fun tt_ kk_ => XS.iloadN X0.here hx rfl (hb hby d2_62) rfl kk_) ?_
                refine Gq.go (s₁.setTop (mkF m 65 #[.val (.int p0)] [(.int (65534 : Int32)), (.int p0)])) (fun tt_ kk_ => X0.ldcInt hx hown (mvT hZ (hw _ (List.mem_of_getElem? (i := 6) rfl))) (g := (mkF m 63 #[.val (.int p0)] [(.int p0)])) rfl (hb hby d2_63) _ kk_) ?_
                by_cases c65_8 : p0 = (65534 : Int32)
                · refine Gq.go (s₁.setTop (mkF m 74 #[.val (.int p0)] [])) (fun tt_ kk_ => XS.icmpYes X0.here hx rfl (pc0 := 65) (pc' := 74) rfl (hb hby d2_65) rfl (teq c65_8).1 (by decide) (by decide) kk_) ?_
                  refine Gq.go (s₁.setTop (mkF m 75 #[.val (.int p0)] [(.int (0 : Int32))])) (fun tt_ kk_ => XS.iconst X0.here hx rfl (hb hby d2_74) kk_) ?_
                  refine Gq.retI X0 hx Bd.notSynchronized Bd.returns (by simp) (hb hby d2_75) rfl (by decide) (by decide) ?_
                  show Q_own_ref Z p0 h0 n0 _ s₁.heap _
                  rw [eh0]
                  exact ⟨by unfold own_ref; rw [if_neg c1_1, if_neg c7_2, if_pos c15_3, if_neg c23_4, if_neg c29_5, if_pos c37_6, if_pos c51_7, if_pos c65_8], N0, rfl⟩
                · refine Gq.go (s₁.setTop (mkF m 68 #[.val (.int p0)] [])) (fun tt_ kk_ => XS.icmpNo X0.here hx rfl (hb hby d2_65) rfl (feq c65_8).1 kk_) ?_
                  refine Gq.go (s₁.setTop (mkF m 69 #[.val (.int p0)] [(.int p0)])) (fun tt_ kk_ => XS.iloadN X0.here hx rfl (hb hby d2_68) rfl kk_) ?_
                  refine Gq.go (s₁.setTop (mkF m 71 #[.val (.int p0)] [(.int (65535 : Int32)), (.int p0)])) (fun tt_ kk_ => X0.ldcInt hx hown (mvT hZ (hw _ (List.mem_of_getElem? (i := 25) rfl))) (g := (mkF m 69 #[.val (.int p0)] [(.int p0)])) rfl (hb hby d2_69) _ kk_) ?_
                  by_cases c71_9 : p0 = (65535 : Int32)
                  · refine Gq.go (s₁.setTop (mkF m 74 #[.val (.int p0)] [])) (fun tt_ kk_ => XS.icmpNo X0.here hx rfl (hb hby d2_71) rfl (teq c71_9).2 kk_) ?_
                    refine Gq.go (s₁.setTop (mkF m 75 #[.val (.int p0)] [(.int (0 : Int32))])) (fun tt_ kk_ => XS.iconst X0.here hx rfl (hb hby d2_74) kk_) ?_
                    refine Gq.retI X0 hx Bd.notSynchronized Bd.returns (by simp) (hb hby d2_75) rfl (by decide) (by decide) ?_
                    show Q_own_ref Z p0 h0 n0 _ s₁.heap _
                    rw [eh0]
                    exact ⟨by unfold own_ref; rw [if_neg c1_1, if_neg c7_2, if_pos c15_3, if_neg c23_4, if_neg c29_5, if_pos c37_6, if_pos c51_7, if_neg c65_8, if_pos c71_9], N0, rfl⟩
                  · refine Gq.go (s₁.setTop (mkF m 76 #[.val (.int p0)] [])) (fun tt_ kk_ => XS.icmpYes X0.here hx rfl (pc0 := 71) (pc' := 76) rfl (hb hby d2_71) rfl (feq c71_9).2 (by decide) (by decide) kk_) ?_
                    refine Gq.go (s₁.setTop (mkF m 77 #[.val (.int p0)] [(.int (1 : Int32))])) (fun tt_ kk_ => XS.iconst X0.here hx rfl (hb hby d2_76) kk_) ?_
                    refine Gq.retI X0 hx Bd.notSynchronized Bd.returns (by simp) (hb hby d2_77) rfl (by decide) (by decide) ?_
                    show Q_own_ref Z p0 h0 n0 _ s₁.heap _
                    rw [eh0]
                    exact ⟨by unfold own_ref; rw [if_neg c1_1, if_neg c7_2, if_pos c15_3, if_neg c23_4, if_neg c29_5, if_pos c37_6, if_pos c51_7, if_neg c65_8, if_neg c71_9], N0, rfl⟩
              · refine Gq.go (s₁.setTop (mkF m 54 #[.val (.int p0)] [])) (fun tt_ kk_ => XS.icmpNo X0.here hx rfl (hb hby d2_51) rfl (flt c51_7).1 kk_) ?_
                refine Gq.go (s₁.setTop (mkF m 55 #[.val (.int p0)] [(.int p0)])) (fun tt_ kk_ => XS.iloadN X0.here hx rfl (hb hby d2_54) rfl kk_) ?_
                refine Gq.go (s₁.setTop (mkF m 57 #[.val (.int p0)] [(.int (57343 : Int32)), (.int p0)])) (fun tt_ kk_ => X0.ldcInt hx hown (mvT hZ (hw _ (List.mem_of_getElem? (i := 3) rfl))) (g := (mkF m 55 #[.val (.int p0)] [(.int p0)])) rfl (hb hby d2_55) _ kk_) ?_
                by_cases c57_10 : (57343 : Int32) < p0
                · refine Gq.go (s₁.setTop (mkF m 62 #[.val (.int p0)] [])) (fun tt_ kk_ => XS.icmpYes X0.here hx rfl (pc0 := 57) (pc' := 62) rfl (hb hby d2_57) rfl (tlt c57_10).2.2.1 (by decide) (by decide) kk_) ?_
                  refine Gq.go (s₁.setTop (mkF m 63 #[.val (.int p0)] [(.int p0)])) (fun tt_ kk_ => XS.iloadN X0.here hx rfl (hb hby d2_62) rfl kk_) ?_
                  refine Gq.go (s₁.setTop (mkF m 65 #[.val (.int p0)] [(.int (65534 : Int32)), (.int p0)])) (fun tt_ kk_ => X0.ldcInt hx hown (mvT hZ (hw _ (List.mem_of_getElem? (i := 6) rfl))) (g := (mkF m 63 #[.val (.int p0)] [(.int p0)])) rfl (hb hby d2_63) _ kk_) ?_
                  by_cases c65_11 : p0 = (65534 : Int32)
                  · refine Gq.go (s₁.setTop (mkF m 74 #[.val (.int p0)] [])) (fun tt_ kk_ => XS.icmpYes X0.here hx rfl (pc0 := 65) (pc' := 74) rfl (hb hby d2_65) rfl (teq c65_11).1 (by decide) (by decide) kk_) ?_
                    refine Gq.go (s₁.setTop (mkF m 75 #[.val (.int p0)] [(.int (0 : Int32))])) (fun tt_ kk_ => XS.iconst X0.here hx rfl (hb hby d2_74) kk_) ?_
                    refine Gq.retI X0 hx Bd.notSynchronized Bd.returns (by simp) (hb hby d2_75) rfl (by decide) (by decide) ?_
                    show Q_own_ref Z p0 h0 n0 _ s₁.heap _
                    rw [eh0]
                    exact ⟨by unfold own_ref; rw [if_neg c1_1, if_neg c7_2, if_pos c15_3, if_neg c23_4, if_neg c29_5, if_pos c37_6, if_neg c51_7, if_pos c57_10, if_pos c65_11], N0, rfl⟩
                  · refine Gq.go (s₁.setTop (mkF m 68 #[.val (.int p0)] [])) (fun tt_ kk_ => XS.icmpNo X0.here hx rfl (hb hby d2_65) rfl (feq c65_11).1 kk_) ?_
                    refine Gq.go (s₁.setTop (mkF m 69 #[.val (.int p0)] [(.int p0)])) (fun tt_ kk_ => XS.iloadN X0.here hx rfl (hb hby d2_68) rfl kk_) ?_
                    refine Gq.go (s₁.setTop (mkF m 71 #[.val (.int p0)] [(.int (65535 : Int32)), (.int p0)])) (fun tt_ kk_ => X0.ldcInt hx hown (mvT hZ (hw _ (List.mem_of_getElem? (i := 25) rfl))) (g := (mkF m 69 #[.val (.int p0)] [(.int p0)])) rfl (hb hby d2_69) _ kk_) ?_
                    by_cases c71_12 : p0 = (65535 : Int32)
                    · refine Gq.go (s₁.setTop (mkF m 74 #[.val (.int p0)] [])) (fun tt_ kk_ => XS.icmpNo X0.here hx rfl (hb hby d2_71) rfl (teq c71_12).2 kk_) ?_
                      refine Gq.go (s₁.setTop (mkF m 75 #[.val (.int p0)] [(.int (0 : Int32))])) (fun tt_ kk_ => XS.iconst X0.here hx rfl (hb hby d2_74) kk_) ?_
                      refine Gq.retI X0 hx Bd.notSynchronized Bd.returns (by simp) (hb hby d2_75) rfl (by decide) (by decide) ?_
                      show Q_own_ref Z p0 h0 n0 _ s₁.heap _
                      rw [eh0]
                      exact ⟨by unfold own_ref; rw [if_neg c1_1, if_neg c7_2, if_pos c15_3, if_neg c23_4, if_neg c29_5, if_pos c37_6, if_neg c51_7, if_pos c57_10, if_neg c65_11, if_pos c71_12], N0, rfl⟩
                    · refine Gq.go (s₁.setTop (mkF m 76 #[.val (.int p0)] [])) (fun tt_ kk_ => XS.icmpYes X0.here hx rfl (pc0 := 71) (pc' := 76) rfl (hb hby d2_71) rfl (feq c71_12).2 (by decide) (by decide) kk_) ?_
                      refine Gq.go (s₁.setTop (mkF m 77 #[.val (.int p0)] [(.int (1 : Int32))])) (fun tt_ kk_ => XS.iconst X0.here hx rfl (hb hby d2_76) kk_) ?_
                      refine Gq.retI X0 hx Bd.notSynchronized Bd.returns (by simp) (hb hby d2_77) rfl (by decide) (by decide) ?_
                      show Q_own_ref Z p0 h0 n0 _ s₁.heap _
                      rw [eh0]
                      exact ⟨by unfold own_ref; rw [if_neg c1_1, if_neg c7_2, if_pos c15_3, if_neg c23_4, if_neg c29_5, if_pos c37_6, if_neg c51_7, if_pos c57_10, if_neg c65_11, if_neg c71_12], N0, rfl⟩
                · refine Gq.go (s₁.setTop (mkF m 60 #[.val (.int p0)] [])) (fun tt_ kk_ => XS.icmpNo X0.here hx rfl (hb hby d2_57) rfl (flt c57_10).2.2.1 kk_) ?_
                  refine Gq.go (s₁.setTop (mkF m 61 #[.val (.int p0)] [(.int (0 : Int32))])) (fun tt_ kk_ => XS.iconst X0.here hx rfl (hb hby d2_60) kk_) ?_
                  refine Gq.retI X0 hx Bd.notSynchronized Bd.returns (by simp) (hb hby d2_61) rfl (by decide) (by decide) ?_
                  show Q_own_ref Z p0 h0 n0 _ s₁.heap _
                  rw [eh0]
                  exact ⟨by unfold own_ref; rw [if_neg c1_1, if_neg c7_2, if_pos c15_3, if_neg c23_4, if_neg c29_5, if_pos c37_6, if_neg c51_7, if_neg c57_10], N0, rfl⟩
            · refine Gq.go (s₁.setTop (mkF m 40 #[.val (.int p0)] [])) (fun tt_ kk_ => XS.icmpNo X0.here hx rfl (hb hby d2_37) rfl (flt c37_6).1 kk_) ?_
              refine Gq.go (s₁.setTop (mkF m 41 #[.val (.int p0)] [(.int p0)])) (fun tt_ kk_ => XS.iloadN X0.here hx rfl (hb hby d2_40) rfl kk_) ?_
              refine Gq.go (s₁.setTop (mkF m 43 #[.val (.int p0)] [(.int (31 : Int32)), (.int p0)])) (fun tt_ kk_ => XS.bipush X0.here hx rfl (hb hby d2_41) kk_) ?_
              by_cases c43_13 : (31 : Int32) < p0
              · refine Gq.go (s₁.setTop (mkF m 48 #[.val (.int p0)] [])) (fun tt_ kk_ => XS.icmpYes X0.here hx rfl (pc0 := 43) (pc' := 48) rfl (hb hby d2_43) rfl (tlt c43_13).2.2.1 (by decide) (by decide) kk_) ?_
                refine Gq.go (s₁.setTop (mkF m 49 #[.val (.int p0)] [(.int p0)])) (fun tt_ kk_ => XS.iloadN X0.here hx rfl (hb hby d2_48) rfl kk_) ?_
                refine Gq.go (s₁.setTop (mkF m 51 #[.val (.int p0)] [(.int (55296 : Int32)), (.int p0)])) (fun tt_ kk_ => X0.ldcInt hx hown (mvT hZ (hw _ (List.mem_of_getElem? (i := 2) rfl))) (g := (mkF m 49 #[.val (.int p0)] [(.int p0)])) rfl (hb hby d2_49) _ kk_) ?_
                by_cases c51_14 : p0 < (55296 : Int32)
                · refine Gq.go (s₁.setTop (mkF m 62 #[.val (.int p0)] [])) (fun tt_ kk_ => XS.icmpYes X0.here hx rfl (pc0 := 51) (pc' := 62) rfl (hb hby d2_51) rfl (tlt c51_14).1 (by decide) (by decide) kk_) ?_
                  refine Gq.go (s₁.setTop (mkF m 63 #[.val (.int p0)] [(.int p0)])) (fun tt_ kk_ => XS.iloadN X0.here hx rfl (hb hby d2_62) rfl kk_) ?_
                  refine Gq.go (s₁.setTop (mkF m 65 #[.val (.int p0)] [(.int (65534 : Int32)), (.int p0)])) (fun tt_ kk_ => X0.ldcInt hx hown (mvT hZ (hw _ (List.mem_of_getElem? (i := 6) rfl))) (g := (mkF m 63 #[.val (.int p0)] [(.int p0)])) rfl (hb hby d2_63) _ kk_) ?_
                  by_cases c65_15 : p0 = (65534 : Int32)
                  · refine Gq.go (s₁.setTop (mkF m 74 #[.val (.int p0)] [])) (fun tt_ kk_ => XS.icmpYes X0.here hx rfl (pc0 := 65) (pc' := 74) rfl (hb hby d2_65) rfl (teq c65_15).1 (by decide) (by decide) kk_) ?_
                    refine Gq.go (s₁.setTop (mkF m 75 #[.val (.int p0)] [(.int (0 : Int32))])) (fun tt_ kk_ => XS.iconst X0.here hx rfl (hb hby d2_74) kk_) ?_
                    refine Gq.retI X0 hx Bd.notSynchronized Bd.returns (by simp) (hb hby d2_75) rfl (by decide) (by decide) ?_
                    show Q_own_ref Z p0 h0 n0 _ s₁.heap _
                    rw [eh0]
                    exact ⟨by unfold own_ref; rw [if_neg c1_1, if_neg c7_2, if_pos c15_3, if_neg c23_4, if_neg c29_5, if_neg c37_6, if_pos c43_13, if_pos c51_14, if_pos c65_15], N0, rfl⟩
                  · refine Gq.go (s₁.setTop (mkF m 68 #[.val (.int p0)] [])) (fun tt_ kk_ => XS.icmpNo X0.here hx rfl (hb hby d2_65) rfl (feq c65_15).1 kk_) ?_
                    refine Gq.go (s₁.setTop (mkF m 69 #[.val (.int p0)] [(.int p0)])) (fun tt_ kk_ => XS.iloadN X0.here hx rfl (hb hby d2_68) rfl kk_) ?_
                    refine Gq.go (s₁.setTop (mkF m 71 #[.val (.int p0)] [(.int (65535 : Int32)), (.int p0)])) (fun tt_ kk_ => X0.ldcInt hx hown (mvT hZ (hw _ (List.mem_of_getElem? (i := 25) rfl))) (g := (mkF m 69 #[.val (.int p0)] [(.int p0)])) rfl (hb hby d2_69) _ kk_) ?_
                    by_cases c71_16 : p0 = (65535 : Int32)
                    · refine Gq.go (s₁.setTop (mkF m 74 #[.val (.int p0)] [])) (fun tt_ kk_ => XS.icmpNo X0.here hx rfl (hb hby d2_71) rfl (teq c71_16).2 kk_) ?_
                      refine Gq.go (s₁.setTop (mkF m 75 #[.val (.int p0)] [(.int (0 : Int32))])) (fun tt_ kk_ => XS.iconst X0.here hx rfl (hb hby d2_74) kk_) ?_
                      refine Gq.retI X0 hx Bd.notSynchronized Bd.returns (by simp) (hb hby d2_75) rfl (by decide) (by decide) ?_
                      show Q_own_ref Z p0 h0 n0 _ s₁.heap _
                      rw [eh0]
                      exact ⟨by unfold own_ref; rw [if_neg c1_1, if_neg c7_2, if_pos c15_3, if_neg c23_4, if_neg c29_5, if_neg c37_6, if_pos c43_13, if_pos c51_14, if_neg c65_15, if_pos c71_16], N0, rfl⟩
                    · refine Gq.go (s₁.setTop (mkF m 76 #[.val (.int p0)] [])) (fun tt_ kk_ => XS.icmpYes X0.here hx rfl (pc0 := 71) (pc' := 76) rfl (hb hby d2_71) rfl (feq c71_16).2 (by decide) (by decide) kk_) ?_
                      refine Gq.go (s₁.setTop (mkF m 77 #[.val (.int p0)] [(.int (1 : Int32))])) (fun tt_ kk_ => XS.iconst X0.here hx rfl (hb hby d2_76) kk_) ?_
                      refine Gq.retI X0 hx Bd.notSynchronized Bd.returns (by simp) (hb hby d2_77) rfl (by decide) (by decide) ?_
                      show Q_own_ref Z p0 h0 n0 _ s₁.heap _
                      rw [eh0]
                      exact ⟨by unfold own_ref; rw [if_neg c1_1, if_neg c7_2, if_pos c15_3, if_neg c23_4, if_neg c29_5, if_neg c37_6, if_pos c43_13, if_pos c51_14, if_neg c65_15, if_neg c71_16], N0, rfl⟩
                · refine Gq.go (s₁.setTop (mkF m 54 #[.val (.int p0)] [])) (fun tt_ kk_ => XS.icmpNo X0.here hx rfl (hb hby d2_51) rfl (flt c51_14).1 kk_) ?_
                  refine Gq.go (s₁.setTop (mkF m 55 #[.val (.int p0)] [(.int p0)])) (fun tt_ kk_ => XS.iloadN X0.here hx rfl (hb hby d2_54) rfl kk_) ?_
                  refine Gq.go (s₁.setTop (mkF m 57 #[.val (.int p0)] [(.int (57343 : Int32)), (.int p0)])) (fun tt_ kk_ => X0.ldcInt hx hown (mvT hZ (hw _ (List.mem_of_getElem? (i := 3) rfl))) (g := (mkF m 55 #[.val (.int p0)] [(.int p0)])) rfl (hb hby d2_55) _ kk_) ?_
                  by_cases c57_17 : (57343 : Int32) < p0
                  · refine Gq.go (s₁.setTop (mkF m 62 #[.val (.int p0)] [])) (fun tt_ kk_ => XS.icmpYes X0.here hx rfl (pc0 := 57) (pc' := 62) rfl (hb hby d2_57) rfl (tlt c57_17).2.2.1 (by decide) (by decide) kk_) ?_
                    refine Gq.go (s₁.setTop (mkF m 63 #[.val (.int p0)] [(.int p0)])) (fun tt_ kk_ => XS.iloadN X0.here hx rfl (hb hby d2_62) rfl kk_) ?_
                    refine Gq.go (s₁.setTop (mkF m 65 #[.val (.int p0)] [(.int (65534 : Int32)), (.int p0)])) (fun tt_ kk_ => X0.ldcInt hx hown (mvT hZ (hw _ (List.mem_of_getElem? (i := 6) rfl))) (g := (mkF m 63 #[.val (.int p0)] [(.int p0)])) rfl (hb hby d2_63) _ kk_) ?_
                    by_cases c65_18 : p0 = (65534 : Int32)
                    · refine Gq.go (s₁.setTop (mkF m 74 #[.val (.int p0)] [])) (fun tt_ kk_ => XS.icmpYes X0.here hx rfl (pc0 := 65) (pc' := 74) rfl (hb hby d2_65) rfl (teq c65_18).1 (by decide) (by decide) kk_) ?_
                      refine Gq.go (s₁.setTop (mkF m 75 #[.val (.int p0)] [(.int (0 : Int32))])) (fun tt_ kk_ => XS.iconst X0.here hx rfl (hb hby d2_74) kk_) ?_
                      refine Gq.retI X0 hx Bd.notSynchronized Bd.returns (by simp) (hb hby d2_75) rfl (by decide) (by decide) ?_
                      show Q_own_ref Z p0 h0 n0 _ s₁.heap _
                      rw [eh0]
                      exact ⟨by unfold own_ref; rw [if_neg c1_1, if_neg c7_2, if_pos c15_3, if_neg c23_4, if_neg c29_5, if_neg c37_6, if_pos c43_13, if_neg c51_14, if_pos c57_17, if_pos c65_18], N0, rfl⟩
                    · refine Gq.go (s₁.setTop (mkF m 68 #[.val (.int p0)] [])) (fun tt_ kk_ => XS.icmpNo X0.here hx rfl (hb hby d2_65) rfl (feq c65_18).1 kk_) ?_
                      refine Gq.go (s₁.setTop (mkF m 69 #[.val (.int p0)] [(.int p0)])) (fun tt_ kk_ => XS.iloadN X0.here hx rfl (hb hby d2_68) rfl kk_) ?_
                      refine Gq.go (s₁.setTop (mkF m 71 #[.val (.int p0)] [(.int (65535 : Int32)), (.int p0)])) (fun tt_ kk_ => X0.ldcInt hx hown (mvT hZ (hw _ (List.mem_of_getElem? (i := 25) rfl))) (g := (mkF m 69 #[.val (.int p0)] [(.int p0)])) rfl (hb hby d2_69) _ kk_) ?_
                      by_cases c71_19 : p0 = (65535 : Int32)
                      · refine Gq.go (s₁.setTop (mkF m 74 #[.val (.int p0)] [])) (fun tt_ kk_ => XS.icmpNo X0.here hx rfl (hb hby d2_71) rfl (teq c71_19).2 kk_) ?_
                        refine Gq.go (s₁.setTop (mkF m 75 #[.val (.int p0)] [(.int (0 : Int32))])) (fun tt_ kk_ => XS.iconst X0.here hx rfl (hb hby d2_74) kk_) ?_
                        refine Gq.retI X0 hx Bd.notSynchronized Bd.returns (by simp) (hb hby d2_75) rfl (by decide) (by decide) ?_
                        show Q_own_ref Z p0 h0 n0 _ s₁.heap _
                        rw [eh0]
                        exact ⟨by unfold own_ref; rw [if_neg c1_1, if_neg c7_2, if_pos c15_3, if_neg c23_4, if_neg c29_5, if_neg c37_6, if_pos c43_13, if_neg c51_14, if_pos c57_17, if_neg c65_18, if_pos c71_19], N0, rfl⟩
                      · refine Gq.go (s₁.setTop (mkF m 76 #[.val (.int p0)] [])) (fun tt_ kk_ => XS.icmpYes X0.here hx rfl (pc0 := 71) (pc' := 76) rfl (hb hby d2_71) rfl (feq c71_19).2 (by decide) (by decide) kk_) ?_
                        refine Gq.go (s₁.setTop (mkF m 77 #[.val (.int p0)] [(.int (1 : Int32))])) (fun tt_ kk_ => XS.iconst X0.here hx rfl (hb hby d2_76) kk_) ?_
                        refine Gq.retI X0 hx Bd.notSynchronized Bd.returns (by simp) (hb hby d2_77) rfl (by decide) (by decide) ?_
                        show Q_own_ref Z p0 h0 n0 _ s₁.heap _
                        rw [eh0]
                        exact ⟨by unfold own_ref; rw [if_neg c1_1, if_neg c7_2, if_pos c15_3, if_neg c23_4, if_neg c29_5, if_neg c37_6, if_pos c43_13, if_neg c51_14, if_pos c57_17, if_neg c65_18, if_neg c71_19], N0, rfl⟩
                  · refine Gq.go (s₁.setTop (mkF m 60 #[.val (.int p0)] [])) (fun tt_ kk_ => XS.icmpNo X0.here hx rfl (hb hby d2_57) rfl (flt c57_17).2.2.1 kk_) ?_
                    refine Gq.go (s₁.setTop (mkF m 61 #[.val (.int p0)] [(.int (0 : Int32))])) (fun tt_ kk_ => XS.iconst X0.here hx rfl (hb hby d2_60) kk_) ?_
                    refine Gq.retI X0 hx Bd.notSynchronized Bd.returns (by simp) (hb hby d2_61) rfl (by decide) (by decide) ?_
                    show Q_own_ref Z p0 h0 n0 _ s₁.heap _
                    rw [eh0]
                    exact ⟨by unfold own_ref; rw [if_neg c1_1, if_neg c7_2, if_pos c15_3, if_neg c23_4, if_neg c29_5, if_neg c37_6, if_pos c43_13, if_neg c51_14, if_neg c57_17], N0, rfl⟩
              · refine Gq.go (s₁.setTop (mkF m 46 #[.val (.int p0)] [])) (fun tt_ kk_ => XS.icmpNo X0.here hx rfl (hb hby d2_43) rfl (flt c43_13).2.2.1 kk_) ?_
                refine Gq.go (s₁.setTop (mkF m 47 #[.val (.int p0)] [(.int (0 : Int32))])) (fun tt_ kk_ => XS.iconst X0.here hx rfl (hb hby d2_46) kk_) ?_
                refine Gq.retI X0 hx Bd.notSynchronized Bd.returns (by simp) (hb hby d2_47) rfl (by decide) (by decide) ?_
                show Q_own_ref Z p0 h0 n0 _ s₁.heap _
                rw [eh0]
                exact ⟨by unfold own_ref; rw [if_neg c1_1, if_neg c7_2, if_pos c15_3, if_neg c23_4, if_neg c29_5, if_neg c37_6, if_neg c43_13], N0, rfl⟩
      · refine Gq.go (s₁.setTop (mkF m 18 #[.val (.int p0)] [])) (fun tt_ kk_ => XS.icmpNo X0.here hx rfl (hb hby d2_15) rfl (flt c15_3).2.2.1 kk_) ?_
        refine Gq.go (s₁.setTop (mkF m 19 #[.val (.int p0)] [(.int (0 : Int32))])) (fun tt_ kk_ => XS.iconst X0.here hx rfl (hb hby d2_18) kk_) ?_
        refine Gq.retI X0 hx Bd.notSynchronized Bd.returns (by simp) (hb hby d2_19) rfl (by decide) (by decide) ?_
        show Q_own_ref Z p0 h0 n0 _ s₁.heap _
        rw [eh0]
        exact ⟨by unfold own_ref; rw [if_neg c1_1, if_neg c7_2, if_neg c15_3], N0, rfl⟩
theorem own_isChar_iff (p0 : Int32) : own_isChar p0 = if p0.toInt = 9 ∨ p0.toInt = 10 ∨ p0.toInt = 13 ∨ (32 ≤ p0.toInt ∧ p0.toInt ≤ 55295) ∨ (57344 ≤ p0.toInt ∧ p0.toInt ≤ 65533) ∨ (65536 ≤ p0.toInt ∧ p0.toInt ≤ 1114111) then 1 else 0 := by
  unfold own_isChar
  simp only [Int32.lt_iff_toInt_lt, ← Int32.toInt_inj (x := p0), Int32.reduceToInt]
  generalize p0.toInt = n
  repeat' split
  all_goals first | rfl | (exfalso; omega)
theorem own_ref_iff (p0 : Int32) : own_ref p0 = if p0.toInt = 9 ∨ p0.toInt = 10 ∨ p0.toInt = 13 ∨ (32 ≤ p0.toInt ∧ p0.toInt ≤ 55295) ∨ (57344 ≤ p0.toInt ∧ p0.toInt ≤ 65533) ∨ (65536 ≤ p0.toInt ∧ p0.toInt ≤ 1114111) then 1 else 0 := by
  unfold own_ref
  simp only [Int32.lt_iff_toInt_lt, ← Int32.toInt_inj (x := p0), Int32.reduceToInt]
  generalize p0.toInt = n
  repeat' split
  all_goals first | rfl | (exfalso; omega)
theorem own_same (p0 : Int32) : own_isChar p0 = own_ref p0 := by rw [own_isChar_iff, own_ref_iff]
theorem pd_0 : parseMethodDescriptor "(I)Z" = some ⟨[.int], some .boolean⟩ := by decide +kernel
theorem ef0 (m : MethodId) (y0 : Int32) (y1 : Int32) (y2 : Int32) : entryFrame m #[(.int y0), (.int y1), (.int y2)] maxLocals = mkF m 0 #[.val (.int y0), .val (.int y1), .val (.int y2), .unset, .unset, .unset, .unset] [] := by first | (simp [entryFrame, mkF, argsToLocals, Value.category, maxLocals]; done) | rfl
def Q0 (Z : State) (x0 : Int32) (x1 : Int32) (x2 : Int32) (h0 : Heap) (n0 : Nat) (v : Option Value) (h : Heap) (L : List Loc) : Prop := v = some (.int (1 : Int32)) ∧ Fr n0 L
set_option maxRecDepth 65536 in
set_option maxHeartbeats 40000000 in
theorem rm0 (l : Launch) (Z : State) (a0 : Array Value) (hw : ∀ d ∈ tables_1, d.before a0 Z = true) (ws : List Jvm.Cond) (x0 : Int32) (x1 : Int32) (x2 : Int32) (h0 : Heap) (n0 : Nat) (Z0 : n0 ≤ h0.size)  :
    MetFree l x (head1 (Jvm.Cond.code x code maxLocals ret :: ws) room_1) (fun a U => a = #[(.int x0), (.int x1), (.int x2)] ∧ Z.Warmed39 U.vm ∧ U.heap = h0) (fun _ _ _ _ _ => True) (fun _ U o U' => ∃ v L, o = .returned v ∧ Q0 Z x0 x1 x2 h0 n0 v U'.heap L ∧ FrameEnd U o U' L room_1.cells room_1.slots) := by
  refine MetFree.of_bodySF (plainFor_of_name pn_com_example_arbor2_arbor2_model_XmlNamesIsCharPinLaw) hisR ?_
  intro p e s m args below meth c s₁ Bd hml0 hP hK
  obtain ⟨rfl, hZ, hh⟩ := hP
  have hx := Bd.exec
  have hby := Bd.bytes
  have hml : c.maxLocals = 7 := hml0
  have hown : s.vm.findClass "com/example/arbor2/arbor2/model/XmlNamesIsCharPinLaw" = some m.cls := findClass_of_methodNamed Bd.named
  have hnm := (name_of_methodNamed Bd.named Bd.method).1
  have X0 : Stand p l e room_1 s m #[(.int x0), (.int x1), (.int x2)] below meth c s₁ [] 0 0 := Stand.of_body Bd
  have eh0 : s₁.heap = h0 := by rw [← hh, Bd.state]; rfl
  have N0 := Fr.nil n0
  refine Gq.start (Q := Q0 Z x0 x1 x2 h0 n0) (kc := room_1.cells) (ks := room_1.slots) (ef0 m x0 x1 x2) ?_
  refine Gq.go (s₁.setTop (mkF m 2 #[.val (.int x0), .val (.int x1), .val (.int x2), .unset, .unset, .unset, .unset] [(.int (18 : Int32))])) (fun tt_ kk_ => XS.bipush X0.here hx rfl (hb hby at_0) kk_) ?_
  obtain ⟨T1, h1, b1, X1, eh1, E1, aq1, V1, st1⟩ := mkA X0 hx hZ (hw _ (List.mem_of_getElem? (i := 0) rfl)) eh0 (z := (18 : Int32)) (n := 18) (Ls := #[.val (.int x0), .val (.int x1), .val (.int x2), .unset, .unset, .unset, .unset]) (rest := []) (by decide) rfl (by decide) (by decide) (by decide) (hb hby at_2)
  have g_b1 : n0 ≤ b1 := Nat.le_trans Z0 (Nat.le_of_eq aq1.symm)
  have za2 : n0 ≤ h1.size := Nat.le_trans Z0 E1.1
  have V1' : LA Z h1 b1 .int 18 (gl [(.int (0 : Int32)), (.int (0 : Int32)), (.int (0 : Int32)), (.int (0 : Int32)), (.int (0 : Int32)), (.int (0 : Int32)), (.int (0 : Int32)), (.int (0 : Int32)), (.int (0 : Int32)), (.int (0 : Int32)), (.int (0 : Int32)), (.int (0 : Int32)), (.int (0 : Int32)), (.int (0 : Int32)), (.int (0 : Int32)), (.int (0 : Int32)), (.int (0 : Int32)), (.int (0 : Int32))] (.int (0 : Int32))) := V1.list
  have ta1' := V1'.lt
  refine Gq.go (T1.setTop (mkF m 4 #[.val (.int x0), .val (.int x1), .val (.int x2), .unset, .unset, .unset, .unset] [(.ref b1)])) (fun tt_ kk_ => st1 tt_ kk_) ?_
  refine Gq.go (T1.setTop (mkF m 5 #[.val (.int x0), .val (.int x1), .val (.int x2), .unset, .unset, .unset, .unset] [(.ref b1), (.ref b1)])) (fun tt_ kk_ => XS.dup X1.here hx rfl (hb hby at_4) rfl rfl kk_) ?_
  refine Gq.go (T1.setTop (mkF m 6 #[.val (.int x0), .val (.int x1), .val (.int x2), .unset, .unset, .unset, .unset] [(.int (0 : Int32)), (.ref b1), (.ref b1)])) (fun tt_ kk_ => XS.iconst X1.here hx rfl (hb hby at_5) kk_) ?_
  refine Gq.go (T1.setTop (mkF m 7 #[.val (.int x0), .val (.int x1), .val (.int x2), .unset, .unset, .unset, .unset] [(.int (0 : Int32)), (.int (0 : Int32)), (.ref b1), (.ref b1)])) (fun tt_ kk_ => XS.iconst X1.here hx rfl (hb hby at_6) kk_) ?_
  obtain ⟨T3, h3, X3, eh3, W3, st3⟩ := stoI X1 hx hZ eh1 V1' (j := (0 : Int32)) (i := 0) (x := (0 : Int32)) (Ls := #[.val (.int x0), .val (.int x1), .val (.int x2), .unset, .unset, .unset, .unset]) (rest := [(.ref b1)]) (by decide) rfl (by decide) (hb hby at_7)
  have ta4 := Nat.lt_of_lt_of_le ta1' (Nat.le_of_eq W3.size.symm)
  have za5 : n0 ≤ h3.size := Nat.le_trans za2 (Nat.le_of_eq W3.size.symm)
  have V3 : LA Z h3 b1 .int 18 (gl [(.int (0 : Int32)), (.int (0 : Int32)), (.int (0 : Int32)), (.int (0 : Int32)), (.int (0 : Int32)), (.int (0 : Int32)), (.int (0 : Int32)), (.int (0 : Int32)), (.int (0 : Int32)), (.int (0 : Int32)), (.int (0 : Int32)), (.int (0 : Int32)), (.int (0 : Int32)), (.int (0 : Int32)), (.int (0 : Int32)), (.int (0 : Int32)), (.int (0 : Int32)), (.int (0 : Int32))] (.int (0 : Int32))) := V1'.setL W3 (Nat.le_of_ble_eq_true rfl)
  have N3 := Fr.snoc X3 N0 g_b1
  refine Gq.go (T3.setTop (mkF m 8 #[.val (.int x0), .val (.int x1), .val (.int x2), .unset, .unset, .unset, .unset] [(.ref b1)])) (fun tt_ kk_ => st3 tt_ kk_) ?_
  refine Gq.go (T3.setTop (mkF m 9 #[.val (.int x0), .val (.int x1), .val (.int x2), .unset, .unset, .unset, .unset] [(.ref b1), (.ref b1)])) (fun tt_ kk_ => XS.dup X3.here hx rfl (hb hby at_8) rfl rfl kk_) ?_
  refine Gq.go (T3.setTop (mkF m 10 #[.val (.int x0), .val (.int x1), .val (.int x2), .unset, .unset, .unset, .unset] [(.int (1 : Int32)), (.ref b1), (.ref b1)])) (fun tt_ kk_ => XS.iconst X3.here hx rfl (hb hby at_9) kk_) ?_
  refine Gq.go (T3.setTop (mkF m 12 #[.val (.int x0), .val (.int x1), .val (.int x2), .unset, .unset, .unset, .unset] [(.int (9 : Int32)), (.int (1 : Int32)), (.ref b1), (.ref b1)])) (fun tt_ kk_ => XS.bipush X3.here hx rfl (hb hby at_10) kk_) ?_
  obtain ⟨T6, h6, X6, eh6, W6, st6⟩ := stoI X3 hx hZ eh3 V3 (j := (1 : Int32)) (i := 1) (x := (9 : Int32)) (Ls := #[.val (.int x0), .val (.int x1), .val (.int x2), .unset, .unset, .unset, .unset]) (rest := [(.ref b1)]) (by decide) rfl (by decide) (hb hby at_12)
  have ta7 := Nat.lt_of_lt_of_le ta4 (Nat.le_of_eq W6.size.symm)
  have za8 : n0 ≤ h6.size := Nat.le_trans za5 (Nat.le_of_eq W6.size.symm)
  have V6 : LA Z h6 b1 .int 18 (gl [(.int (0 : Int32)), (.int (9 : Int32)), (.int (0 : Int32)), (.int (0 : Int32)), (.int (0 : Int32)), (.int (0 : Int32)), (.int (0 : Int32)), (.int (0 : Int32)), (.int (0 : Int32)), (.int (0 : Int32)), (.int (0 : Int32)), (.int (0 : Int32)), (.int (0 : Int32)), (.int (0 : Int32)), (.int (0 : Int32)), (.int (0 : Int32)), (.int (0 : Int32)), (.int (0 : Int32))] (.int (0 : Int32))) := V3.setL W6 (Nat.le_of_ble_eq_true rfl)
  have N6 := Fr.snoc X6 N3 g_b1
  refine Gq.go (T6.setTop (mkF m 13 #[.val (.int x0), .val (.int x1), .val (.int x2), .unset, .unset, .unset, .unset] [(.ref b1)])) (fun tt_ kk_ => st6 tt_ kk_) ?_
  refine Gq.go (T6.setTop (mkF m 14 #[.val (.int x0), .val (.int x1), .val (.int x2), .unset, .unset, .unset, .unset] [(.ref b1), (.ref b1)])) (fun tt_ kk_ => XS.dup X6.here hx rfl (hb hby at_13) rfl rfl kk_) ?_
  refine Gq.go (T6.setTop (mkF m 15 #[.val (.int x0), .val (.int x1), .val (.int x2), .unset, .unset, .unset, .unset] [(.int (2 : Int32)), (.ref b1), (.ref b1)])) (fun tt_ kk_ => XS.iconst X6.here hx rfl (hb hby at_14) kk_) ?_
  refine Gq.go (T6.setTop (mkF m 17 #[.val (.int x0), .val (.int x1), .val (.int x2), .unset, .unset, .unset, .unset] [(.int (10 : Int32)), (.int (2 : Int32)), (.ref b1), (.ref b1)])) (fun tt_ kk_ => XS.bipush X6.here hx rfl (hb hby at_15) kk_) ?_
  obtain ⟨T9, h9, X9, eh9, W9, st9⟩ := stoI X6 hx hZ eh6 V6 (j := (2 : Int32)) (i := 2) (x := (10 : Int32)) (Ls := #[.val (.int x0), .val (.int x1), .val (.int x2), .unset, .unset, .unset, .unset]) (rest := [(.ref b1)]) (by decide) rfl (by decide) (hb hby at_17)
  have ta10 := Nat.lt_of_lt_of_le ta7 (Nat.le_of_eq W9.size.symm)
  have za11 : n0 ≤ h9.size := Nat.le_trans za8 (Nat.le_of_eq W9.size.symm)
  have V9 : LA Z h9 b1 .int 18 (gl [(.int (0 : Int32)), (.int (9 : Int32)), (.int (10 : Int32)), (.int (0 : Int32)), (.int (0 : Int32)), (.int (0 : Int32)), (.int (0 : Int32)), (.int (0 : Int32)), (.int (0 : Int32)), (.int (0 : Int32)), (.int (0 : Int32)), (.int (0 : Int32)), (.int (0 : Int32)), (.int (0 : Int32)), (.int (0 : Int32)), (.int (0 : Int32)), (.int (0 : Int32)), (.int (0 : Int32))] (.int (0 : Int32))) := V6.setL W9 (Nat.le_of_ble_eq_true rfl)
  have N9 := Fr.snoc X9 N6 g_b1
  refine Gq.go (T9.setTop (mkF m 18 #[.val (.int x0), .val (.int x1), .val (.int x2), .unset, .unset, .unset, .unset] [(.ref b1)])) (fun tt_ kk_ => st9 tt_ kk_) ?_
  refine Gq.go (T9.setTop (mkF m 19 #[.val (.int x0), .val (.int x1), .val (.int x2), .unset, .unset, .unset, .unset] [(.ref b1), (.ref b1)])) (fun tt_ kk_ => XS.dup X9.here hx rfl (hb hby at_18) rfl rfl kk_) ?_
  refine Gq.go (T9.setTop (mkF m 20 #[.val (.int x0), .val (.int x1), .val (.int x2), .unset, .unset, .unset, .unset] [(.int (3 : Int32)), (.ref b1), (.ref b1)])) (fun tt_ kk_ => XS.iconst X9.here hx rfl (hb hby at_19) kk_) ?_
  refine Gq.go (T9.setTop (mkF m 22 #[.val (.int x0), .val (.int x1), .val (.int x2), .unset, .unset, .unset, .unset] [(.int (11 : Int32)), (.int (3 : Int32)), (.ref b1), (.ref b1)])) (fun tt_ kk_ => XS.bipush X9.here hx rfl (hb hby at_20) kk_) ?_
  obtain ⟨T12, h12, X12, eh12, W12, st12⟩ := stoI X9 hx hZ eh9 V9 (j := (3 : Int32)) (i := 3) (x := (11 : Int32)) (Ls := #[.val (.int x0), .val (.int x1), .val (.int x2), .unset, .unset, .unset, .unset]) (rest := [(.ref b1)]) (by decide) rfl (by decide) (hb hby at_22)
  have ta13 := Nat.lt_of_lt_of_le ta10 (Nat.le_of_eq W12.size.symm)
  have za14 : n0 ≤ h12.size := Nat.le_trans za11 (Nat.le_of_eq W12.size.symm)
  have V12 : LA Z h12 b1 .int 18 (gl [(.int (0 : Int32)), (.int (9 : Int32)), (.int (10 : Int32)), (.int (11 : Int32)), (.int (0 : Int32)), (.int (0 : Int32)), (.int (0 : Int32)), (.int (0 : Int32)), (.int (0 : Int32)), (.int (0 : Int32)), (.int (0 : Int32)), (.int (0 : Int32)), (.int (0 : Int32)), (.int (0 : Int32)), (.int (0 : Int32)), (.int (0 : Int32)), (.int (0 : Int32)), (.int (0 : Int32))] (.int (0 : Int32))) := V9.setL W12 (Nat.le_of_ble_eq_true rfl)
  have N12 := Fr.snoc X12 N9 g_b1
  refine Gq.go (T12.setTop (mkF m 23 #[.val (.int x0), .val (.int x1), .val (.int x2), .unset, .unset, .unset, .unset] [(.ref b1)])) (fun tt_ kk_ => st12 tt_ kk_) ?_
  refine Gq.go (T12.setTop (mkF m 24 #[.val (.int x0), .val (.int x1), .val (.int x2), .unset, .unset, .unset, .unset] [(.ref b1), (.ref b1)])) (fun tt_ kk_ => XS.dup X12.here hx rfl (hb hby at_23) rfl rfl kk_) ?_
  refine Gq.go (T12.setTop (mkF m 25 #[.val (.int x0), .val (.int x1), .val (.int x2), .unset, .unset, .unset, .unset] [(.int (4 : Int32)), (.ref b1), (.ref b1)])) (fun tt_ kk_ => XS.iconst X12.here hx rfl (hb hby at_24) kk_) ?_
  refine Gq.go (T12.setTop (mkF m 27 #[.val (.int x0), .val (.int x1), .val (.int x2), .unset, .unset, .unset, .unset] [(.int (13 : Int32)), (.int (4 : Int32)), (.ref b1), (.ref b1)])) (fun tt_ kk_ => XS.bipush X12.here hx rfl (hb hby at_25) kk_) ?_
  obtain ⟨T15, h15, X15, eh15, W15, st15⟩ := stoI X12 hx hZ eh12 V12 (j := (4 : Int32)) (i := 4) (x := (13 : Int32)) (Ls := #[.val (.int x0), .val (.int x1), .val (.int x2), .unset, .unset, .unset, .unset]) (rest := [(.ref b1)]) (by decide) rfl (by decide) (hb hby at_27)
  have ta16 := Nat.lt_of_lt_of_le ta13 (Nat.le_of_eq W15.size.symm)
  have za17 : n0 ≤ h15.size := Nat.le_trans za14 (Nat.le_of_eq W15.size.symm)
  have V15 : LA Z h15 b1 .int 18 (gl [(.int (0 : Int32)), (.int (9 : Int32)), (.int (10 : Int32)), (.int (11 : Int32)), (.int (13 : Int32)), (.int (0 : Int32)), (.int (0 : Int32)), (.int (0 : Int32)), (.int (0 : Int32)), (.int (0 : Int32)), (.int (0 : Int32)), (.int (0 : Int32)), (.int (0 : Int32)), (.int (0 : Int32)), (.int (0 : Int32)), (.int (0 : Int32)), (.int (0 : Int32)), (.int (0 : Int32))] (.int (0 : Int32))) := V12.setL W15 (Nat.le_of_ble_eq_true rfl)
  have N15 := Fr.snoc X15 N12 g_b1
  refine Gq.go (T15.setTop (mkF m 28 #[.val (.int x0), .val (.int x1), .val (.int x2), .unset, .unset, .unset, .unset] [(.ref b1)])) (fun tt_ kk_ => st15 tt_ kk_) ?_
  refine Gq.go (T15.setTop (mkF m 29 #[.val (.int x0), .val (.int x1), .val (.int x2), .unset, .unset, .unset, .unset] [(.ref b1), (.ref b1)])) (fun tt_ kk_ => XS.dup X15.here hx rfl (hb hby at_28) rfl rfl kk_) ?_
  refine Gq.go (T15.setTop (mkF m 30 #[.val (.int x0), .val (.int x1), .val (.int x2), .unset, .unset, .unset, .unset] [(.int (5 : Int32)), (.ref b1), (.ref b1)])) (fun tt_ kk_ => XS.iconst X15.here hx rfl (hb hby at_29) kk_) ?_
  refine Gq.go (T15.setTop (mkF m 32 #[.val (.int x0), .val (.int x1), .val (.int x2), .unset, .unset, .unset, .unset] [(.int (14 : Int32)), (.int (5 : Int32)), (.ref b1), (.ref b1)])) (fun tt_ kk_ => XS.bipush X15.here hx rfl (hb hby at_30) kk_) ?_
  obtain ⟨T18, h18, X18, eh18, W18, st18⟩ := stoI X15 hx hZ eh15 V15 (j := (5 : Int32)) (i := 5) (x := (14 : Int32)) (Ls := #[.val (.int x0), .val (.int x1), .val (.int x2), .unset, .unset, .unset, .unset]) (rest := [(.ref b1)]) (by decide) rfl (by decide) (hb hby at_32)
  have ta19 := Nat.lt_of_lt_of_le ta16 (Nat.le_of_eq W18.size.symm)
  have za20 : n0 ≤ h18.size := Nat.le_trans za17 (Nat.le_of_eq W18.size.symm)
  have V18 : LA Z h18 b1 .int 18 (gl [(.int (0 : Int32)), (.int (9 : Int32)), (.int (10 : Int32)), (.int (11 : Int32)), (.int (13 : Int32)), (.int (14 : Int32)), (.int (0 : Int32)), (.int (0 : Int32)), (.int (0 : Int32)), (.int (0 : Int32)), (.int (0 : Int32)), (.int (0 : Int32)), (.int (0 : Int32)), (.int (0 : Int32)), (.int (0 : Int32)), (.int (0 : Int32)), (.int (0 : Int32)), (.int (0 : Int32))] (.int (0 : Int32))) := V15.setL W18 (Nat.le_of_ble_eq_true rfl)
  have N18 := Fr.snoc X18 N15 g_b1
  refine Gq.go (T18.setTop (mkF m 33 #[.val (.int x0), .val (.int x1), .val (.int x2), .unset, .unset, .unset, .unset] [(.ref b1)])) (fun tt_ kk_ => st18 tt_ kk_) ?_
  refine Gq.go (T18.setTop (mkF m 34 #[.val (.int x0), .val (.int x1), .val (.int x2), .unset, .unset, .unset, .unset] [(.ref b1), (.ref b1)])) (fun tt_ kk_ => XS.dup X18.here hx rfl (hb hby at_33) rfl rfl kk_) ?_
  refine Gq.go (T18.setTop (mkF m 36 #[.val (.int x0), .val (.int x1), .val (.int x2), .unset, .unset, .unset, .unset] [(.int (6 : Int32)), (.ref b1), (.ref b1)])) (fun tt_ kk_ => XS.bipush X18.here hx rfl (hb hby at_34) kk_) ?_
  refine Gq.go (T18.setTop (mkF m 38 #[.val (.int x0), .val (.int x1), .val (.int x2), .unset, .unset, .unset, .unset] [(.int (32 : Int32)), (.int (6 : Int32)), (.ref b1), (.ref b1)])) (fun tt_ kk_ => XS.bipush X18.here hx rfl (hb hby at_36) kk_) ?_
  obtain ⟨T21, h21, X21, eh21, W21, st21⟩ := stoI X18 hx hZ eh18 V18 (j := (6 : Int32)) (i := 6) (x := (32 : Int32)) (Ls := #[.val (.int x0), .val (.int x1), .val (.int x2), .unset, .unset, .unset, .unset]) (rest := [(.ref b1)]) (by decide) rfl (by decide) (hb hby at_38)
  have ta22 := Nat.lt_of_lt_of_le ta19 (Nat.le_of_eq W21.size.symm)
  have za23 : n0 ≤ h21.size := Nat.le_trans za20 (Nat.le_of_eq W21.size.symm)
  have V21 : LA Z h21 b1 .int 18 (gl [(.int (0 : Int32)), (.int (9 : Int32)), (.int (10 : Int32)), (.int (11 : Int32)), (.int (13 : Int32)), (.int (14 : Int32)), (.int (32 : Int32)), (.int (0 : Int32)), (.int (0 : Int32)), (.int (0 : Int32)), (.int (0 : Int32)), (.int (0 : Int32)), (.int (0 : Int32)), (.int (0 : Int32)), (.int (0 : Int32)), (.int (0 : Int32)), (.int (0 : Int32)), (.int (0 : Int32))] (.int (0 : Int32))) := V18.setL W21 (Nat.le_of_ble_eq_true rfl)
  have N21 := Fr.snoc X21 N18 g_b1
  refine Gq.go (T21.setTop (mkF m 39 #[.val (.int x0), .val (.int x1), .val (.int x2), .unset, .unset, .unset, .unset] [(.ref b1)])) (fun tt_ kk_ => st21 tt_ kk_) ?_
  refine Gq.go (T21.setTop (mkF m 40 #[.val (.int x0), .val (.int x1), .val (.int x2), .unset, .unset, .unset, .unset] [(.ref b1), (.ref b1)])) (fun tt_ kk_ => XS.dup X21.here hx rfl (hb hby at_39) rfl rfl kk_) ?_
  refine Gq.go (T21.setTop (mkF m 42 #[.val (.int x0), .val (.int x1), .val (.int x2), .unset, .unset, .unset, .unset] [(.int (7 : Int32)), (.ref b1), (.ref b1)])) (fun tt_ kk_ => XS.bipush X21.here hx rfl (hb hby at_40) kk_) ?_
  refine Gq.go (T21.setTop (mkF m 44 #[.val (.int x0), .val (.int x1), .val (.int x2), .unset, .unset, .unset, .unset] [(.int (55295 : Int32)), (.int (7 : Int32)), (.ref b1), (.ref b1)])) (fun tt_ kk_ => X21.ldcInt hx hown (mvT hZ (hw _ (List.mem_of_getElem? (i := 1) rfl))) (g := (mkF m 42 #[.val (.int x0), .val (.int x1), .val (.int x2), .unset, .unset, .unset, .unset] [(.int (7 : Int32)), (.ref b1), (.ref b1)])) rfl (hb hby at_42) _ kk_) ?_
  obtain ⟨T24, h24, X24, eh24, W24, st24⟩ := stoI X21 hx hZ eh21 V21 (j := (7 : Int32)) (i := 7) (x := (55295 : Int32)) (Ls := #[.val (.int x0), .val (.int x1), .val (.int x2), .unset, .unset, .unset, .unset]) (rest := [(.ref b1)]) (by decide) rfl (by decide) (hb hby at_44)
  have ta25 := Nat.lt_of_lt_of_le ta22 (Nat.le_of_eq W24.size.symm)
  have za26 : n0 ≤ h24.size := Nat.le_trans za23 (Nat.le_of_eq W24.size.symm)
  have V24 : LA Z h24 b1 .int 18 (gl [(.int (0 : Int32)), (.int (9 : Int32)), (.int (10 : Int32)), (.int (11 : Int32)), (.int (13 : Int32)), (.int (14 : Int32)), (.int (32 : Int32)), (.int (55295 : Int32)), (.int (0 : Int32)), (.int (0 : Int32)), (.int (0 : Int32)), (.int (0 : Int32)), (.int (0 : Int32)), (.int (0 : Int32)), (.int (0 : Int32)), (.int (0 : Int32)), (.int (0 : Int32)), (.int (0 : Int32))] (.int (0 : Int32))) := V21.setL W24 (Nat.le_of_ble_eq_true rfl)
  have N24 := Fr.snoc X24 N21 g_b1
  refine Gq.go (T24.setTop (mkF m 45 #[.val (.int x0), .val (.int x1), .val (.int x2), .unset, .unset, .unset, .unset] [(.ref b1)])) (fun tt_ kk_ => st24 tt_ kk_) ?_
  refine Gq.go (T24.setTop (mkF m 46 #[.val (.int x0), .val (.int x1), .val (.int x2), .unset, .unset, .unset, .unset] [(.ref b1), (.ref b1)])) (fun tt_ kk_ => XS.dup X24.here hx rfl (hb hby at_45) rfl rfl kk_) ?_
  refine Gq.go (T24.setTop (mkF m 48 #[.val (.int x0), .val (.int x1), .val (.int x2), .unset, .unset, .unset, .unset] [(.int (8 : Int32)), (.ref b1), (.ref b1)])) (fun tt_ kk_ => XS.bipush X24.here hx rfl (hb hby at_46) kk_) ?_
  refine Gq.go (T24.setTop (mkF m 50 #[.val (.int x0), .val (.int x1), .val (.int x2), .unset, .unset, .unset, .unset] [(.int (55296 : Int32)), (.int (8 : Int32)), (.ref b1), (.ref b1)])) (fun tt_ kk_ => X24.ldcInt hx hown (mvT hZ (hw _ (List.mem_of_getElem? (i := 2) rfl))) (g := (mkF m 48 #[.val (.int x0), .val (.int x1), .val (.int x2), .unset, .unset, .unset, .unset] [(.int (8 : Int32)), (.ref b1), (.ref b1)])) rfl (hb hby at_48) _ kk_) ?_
  obtain ⟨T27, h27, X27, eh27, W27, st27⟩ := stoI X24 hx hZ eh24 V24 (j := (8 : Int32)) (i := 8) (x := (55296 : Int32)) (Ls := #[.val (.int x0), .val (.int x1), .val (.int x2), .unset, .unset, .unset, .unset]) (rest := [(.ref b1)]) (by decide) rfl (by decide) (hb hby at_50)
  have ta28 := Nat.lt_of_lt_of_le ta25 (Nat.le_of_eq W27.size.symm)
  have za29 : n0 ≤ h27.size := Nat.le_trans za26 (Nat.le_of_eq W27.size.symm)
  have V27 : LA Z h27 b1 .int 18 (gl [(.int (0 : Int32)), (.int (9 : Int32)), (.int (10 : Int32)), (.int (11 : Int32)), (.int (13 : Int32)), (.int (14 : Int32)), (.int (32 : Int32)), (.int (55295 : Int32)), (.int (55296 : Int32)), (.int (0 : Int32)), (.int (0 : Int32)), (.int (0 : Int32)), (.int (0 : Int32)), (.int (0 : Int32)), (.int (0 : Int32)), (.int (0 : Int32)), (.int (0 : Int32)), (.int (0 : Int32))] (.int (0 : Int32))) := V24.setL W27 (Nat.le_of_ble_eq_true rfl)
  have N27 := Fr.snoc X27 N24 g_b1
  refine Gq.go (T27.setTop (mkF m 51 #[.val (.int x0), .val (.int x1), .val (.int x2), .unset, .unset, .unset, .unset] [(.ref b1)])) (fun tt_ kk_ => st27 tt_ kk_) ?_
  refine Gq.go (T27.setTop (mkF m 52 #[.val (.int x0), .val (.int x1), .val (.int x2), .unset, .unset, .unset, .unset] [(.ref b1), (.ref b1)])) (fun tt_ kk_ => XS.dup X27.here hx rfl (hb hby at_51) rfl rfl kk_) ?_
  refine Gq.go (T27.setTop (mkF m 54 #[.val (.int x0), .val (.int x1), .val (.int x2), .unset, .unset, .unset, .unset] [(.int (9 : Int32)), (.ref b1), (.ref b1)])) (fun tt_ kk_ => XS.bipush X27.here hx rfl (hb hby at_52) kk_) ?_
  refine Gq.go (T27.setTop (mkF m 56 #[.val (.int x0), .val (.int x1), .val (.int x2), .unset, .unset, .unset, .unset] [(.int (57343 : Int32)), (.int (9 : Int32)), (.ref b1), (.ref b1)])) (fun tt_ kk_ => X27.ldcInt hx hown (mvT hZ (hw _ (List.mem_of_getElem? (i := 3) rfl))) (g := (mkF m 54 #[.val (.int x0), .val (.int x1), .val (.int x2), .unset, .unset, .unset, .unset] [(.int (9 : Int32)), (.ref b1), (.ref b1)])) rfl (hb hby at_54) _ kk_) ?_
  obtain ⟨T30, h30, X30, eh30, W30, st30⟩ := stoI X27 hx hZ eh27 V27 (j := (9 : Int32)) (i := 9) (x := (57343 : Int32)) (Ls := #[.val (.int x0), .val (.int x1), .val (.int x2), .unset, .unset, .unset, .unset]) (rest := [(.ref b1)]) (by decide) rfl (by decide) (hb hby at_56)
  have ta31 := Nat.lt_of_lt_of_le ta28 (Nat.le_of_eq W30.size.symm)
  have za32 : n0 ≤ h30.size := Nat.le_trans za29 (Nat.le_of_eq W30.size.symm)
  have V30 : LA Z h30 b1 .int 18 (gl [(.int (0 : Int32)), (.int (9 : Int32)), (.int (10 : Int32)), (.int (11 : Int32)), (.int (13 : Int32)), (.int (14 : Int32)), (.int (32 : Int32)), (.int (55295 : Int32)), (.int (55296 : Int32)), (.int (57343 : Int32)), (.int (0 : Int32)), (.int (0 : Int32)), (.int (0 : Int32)), (.int (0 : Int32)), (.int (0 : Int32)), (.int (0 : Int32)), (.int (0 : Int32)), (.int (0 : Int32))] (.int (0 : Int32))) := V27.setL W30 (Nat.le_of_ble_eq_true rfl)
  have N30 := Fr.snoc X30 N27 g_b1
  refine Gq.go (T30.setTop (mkF m 57 #[.val (.int x0), .val (.int x1), .val (.int x2), .unset, .unset, .unset, .unset] [(.ref b1)])) (fun tt_ kk_ => st30 tt_ kk_) ?_
  refine Gq.go (T30.setTop (mkF m 58 #[.val (.int x0), .val (.int x1), .val (.int x2), .unset, .unset, .unset, .unset] [(.ref b1), (.ref b1)])) (fun tt_ kk_ => XS.dup X30.here hx rfl (hb hby at_57) rfl rfl kk_) ?_
  refine Gq.go (T30.setTop (mkF m 60 #[.val (.int x0), .val (.int x1), .val (.int x2), .unset, .unset, .unset, .unset] [(.int (10 : Int32)), (.ref b1), (.ref b1)])) (fun tt_ kk_ => XS.bipush X30.here hx rfl (hb hby at_58) kk_) ?_
  refine Gq.go (T30.setTop (mkF m 62 #[.val (.int x0), .val (.int x1), .val (.int x2), .unset, .unset, .unset, .unset] [(.int (57344 : Int32)), (.int (10 : Int32)), (.ref b1), (.ref b1)])) (fun tt_ kk_ => X30.ldcInt hx hown (mvT hZ (hw _ (List.mem_of_getElem? (i := 4) rfl))) (g := (mkF m 60 #[.val (.int x0), .val (.int x1), .val (.int x2), .unset, .unset, .unset, .unset] [(.int (10 : Int32)), (.ref b1), (.ref b1)])) rfl (hb hby at_60) _ kk_) ?_
  obtain ⟨T33, h33, X33, eh33, W33, st33⟩ := stoI X30 hx hZ eh30 V30 (j := (10 : Int32)) (i := 10) (x := (57344 : Int32)) (Ls := #[.val (.int x0), .val (.int x1), .val (.int x2), .unset, .unset, .unset, .unset]) (rest := [(.ref b1)]) (by decide) rfl (by decide) (hb hby at_62)
  have ta34 := Nat.lt_of_lt_of_le ta31 (Nat.le_of_eq W33.size.symm)
  have za35 : n0 ≤ h33.size := Nat.le_trans za32 (Nat.le_of_eq W33.size.symm)
  have V33 : LA Z h33 b1 .int 18 (gl [(.int (0 : Int32)), (.int (9 : Int32)), (.int (10 : Int32)), (.int (11 : Int32)), (.int (13 : Int32)), (.int (14 : Int32)), (.int (32 : Int32)), (.int (55295 : Int32)), (.int (55296 : Int32)), (.int (57343 : Int32)), (.int (57344 : Int32)), (.int (0 : Int32)), (.int (0 : Int32)), (.int (0 : Int32)), (.int (0 : Int32)), (.int (0 : Int32)), (.int (0 : Int32)), (.int (0 : Int32))] (.int (0 : Int32))) := V30.setL W33 (Nat.le_of_ble_eq_true rfl)
  have N33 := Fr.snoc X33 N30 g_b1
  refine Gq.go (T33.setTop (mkF m 63 #[.val (.int x0), .val (.int x1), .val (.int x2), .unset, .unset, .unset, .unset] [(.ref b1)])) (fun tt_ kk_ => st33 tt_ kk_) ?_
  refine Gq.go (T33.setTop (mkF m 64 #[.val (.int x0), .val (.int x1), .val (.int x2), .unset, .unset, .unset, .unset] [(.ref b1), (.ref b1)])) (fun tt_ kk_ => XS.dup X33.here hx rfl (hb hby at_63) rfl rfl kk_) ?_
  refine Gq.go (T33.setTop (mkF m 66 #[.val (.int x0), .val (.int x1), .val (.int x2), .unset, .unset, .unset, .unset] [(.int (11 : Int32)), (.ref b1), (.ref b1)])) (fun tt_ kk_ => XS.bipush X33.here hx rfl (hb hby at_64) kk_) ?_
  refine Gq.go (T33.setTop (mkF m 68 #[.val (.int x0), .val (.int x1), .val (.int x2), .unset, .unset, .unset, .unset] [(.int (65533 : Int32)), (.int (11 : Int32)), (.ref b1), (.ref b1)])) (fun tt_ kk_ => X33.ldcInt hx hown (mvT hZ (hw _ (List.mem_of_getElem? (i := 5) rfl))) (g := (mkF m 66 #[.val (.int x0), .val (.int x1), .val (.int x2), .unset, .unset, .unset, .unset] [(.int (11 : Int32)), (.ref b1), (.ref b1)])) rfl (hb hby at_66) _ kk_) ?_
  obtain ⟨T36, h36, X36, eh36, W36, st36⟩ := stoI X33 hx hZ eh33 V33 (j := (11 : Int32)) (i := 11) (x := (65533 : Int32)) (Ls := #[.val (.int x0), .val (.int x1), .val (.int x2), .unset, .unset, .unset, .unset]) (rest := [(.ref b1)]) (by decide) rfl (by decide) (hb hby at_68)
  have ta37 := Nat.lt_of_lt_of_le ta34 (Nat.le_of_eq W36.size.symm)
  have za38 : n0 ≤ h36.size := Nat.le_trans za35 (Nat.le_of_eq W36.size.symm)
  have V36 : LA Z h36 b1 .int 18 (gl [(.int (0 : Int32)), (.int (9 : Int32)), (.int (10 : Int32)), (.int (11 : Int32)), (.int (13 : Int32)), (.int (14 : Int32)), (.int (32 : Int32)), (.int (55295 : Int32)), (.int (55296 : Int32)), (.int (57343 : Int32)), (.int (57344 : Int32)), (.int (65533 : Int32)), (.int (0 : Int32)), (.int (0 : Int32)), (.int (0 : Int32)), (.int (0 : Int32)), (.int (0 : Int32)), (.int (0 : Int32))] (.int (0 : Int32))) := V33.setL W36 (Nat.le_of_ble_eq_true rfl)
  have N36 := Fr.snoc X36 N33 g_b1
  refine Gq.go (T36.setTop (mkF m 69 #[.val (.int x0), .val (.int x1), .val (.int x2), .unset, .unset, .unset, .unset] [(.ref b1)])) (fun tt_ kk_ => st36 tt_ kk_) ?_
  refine Gq.go (T36.setTop (mkF m 70 #[.val (.int x0), .val (.int x1), .val (.int x2), .unset, .unset, .unset, .unset] [(.ref b1), (.ref b1)])) (fun tt_ kk_ => XS.dup X36.here hx rfl (hb hby at_69) rfl rfl kk_) ?_
  refine Gq.go (T36.setTop (mkF m 72 #[.val (.int x0), .val (.int x1), .val (.int x2), .unset, .unset, .unset, .unset] [(.int (12 : Int32)), (.ref b1), (.ref b1)])) (fun tt_ kk_ => XS.bipush X36.here hx rfl (hb hby at_70) kk_) ?_
  refine Gq.go (T36.setTop (mkF m 74 #[.val (.int x0), .val (.int x1), .val (.int x2), .unset, .unset, .unset, .unset] [(.int (65534 : Int32)), (.int (12 : Int32)), (.ref b1), (.ref b1)])) (fun tt_ kk_ => X36.ldcInt hx hown (mvT hZ (hw _ (List.mem_of_getElem? (i := 6) rfl))) (g := (mkF m 72 #[.val (.int x0), .val (.int x1), .val (.int x2), .unset, .unset, .unset, .unset] [(.int (12 : Int32)), (.ref b1), (.ref b1)])) rfl (hb hby at_72) _ kk_) ?_
  obtain ⟨T39, h39, X39, eh39, W39, st39⟩ := stoI X36 hx hZ eh36 V36 (j := (12 : Int32)) (i := 12) (x := (65534 : Int32)) (Ls := #[.val (.int x0), .val (.int x1), .val (.int x2), .unset, .unset, .unset, .unset]) (rest := [(.ref b1)]) (by decide) rfl (by decide) (hb hby at_74)
  have ta40 := Nat.lt_of_lt_of_le ta37 (Nat.le_of_eq W39.size.symm)
  have za41 : n0 ≤ h39.size := Nat.le_trans za38 (Nat.le_of_eq W39.size.symm)
  have V39 : LA Z h39 b1 .int 18 (gl [(.int (0 : Int32)), (.int (9 : Int32)), (.int (10 : Int32)), (.int (11 : Int32)), (.int (13 : Int32)), (.int (14 : Int32)), (.int (32 : Int32)), (.int (55295 : Int32)), (.int (55296 : Int32)), (.int (57343 : Int32)), (.int (57344 : Int32)), (.int (65533 : Int32)), (.int (65534 : Int32)), (.int (0 : Int32)), (.int (0 : Int32)), (.int (0 : Int32)), (.int (0 : Int32)), (.int (0 : Int32))] (.int (0 : Int32))) := V36.setL W39 (Nat.le_of_ble_eq_true rfl)
  have N39 := Fr.snoc X39 N36 g_b1
  refine Gq.go (T39.setTop (mkF m 75 #[.val (.int x0), .val (.int x1), .val (.int x2), .unset, .unset, .unset, .unset] [(.ref b1)])) (fun tt_ kk_ => st39 tt_ kk_) ?_
  refine Gq.go (T39.setTop (mkF m 76 #[.val (.int x0), .val (.int x1), .val (.int x2), .unset, .unset, .unset, .unset] [(.ref b1), (.ref b1)])) (fun tt_ kk_ => XS.dup X39.here hx rfl (hb hby at_75) rfl rfl kk_) ?_
  refine Gq.go (T39.setTop (mkF m 78 #[.val (.int x0), .val (.int x1), .val (.int x2), .unset, .unset, .unset, .unset] [(.int (13 : Int32)), (.ref b1), (.ref b1)])) (fun tt_ kk_ => XS.bipush X39.here hx rfl (hb hby at_76) kk_) ?_
  refine Gq.go (T39.setTop (mkF m 80 #[.val (.int x0), .val (.int x1), .val (.int x2), .unset, .unset, .unset, .unset] [(.int (65536 : Int32)), (.int (13 : Int32)), (.ref b1), (.ref b1)])) (fun tt_ kk_ => X39.ldcInt hx hown (mvT hZ (hw _ (List.mem_of_getElem? (i := 7) rfl))) (g := (mkF m 78 #[.val (.int x0), .val (.int x1), .val (.int x2), .unset, .unset, .unset, .unset] [(.int (13 : Int32)), (.ref b1), (.ref b1)])) rfl (hb hby at_78) _ kk_) ?_
  obtain ⟨T42, h42, X42, eh42, W42, st42⟩ := stoI X39 hx hZ eh39 V39 (j := (13 : Int32)) (i := 13) (x := (65536 : Int32)) (Ls := #[.val (.int x0), .val (.int x1), .val (.int x2), .unset, .unset, .unset, .unset]) (rest := [(.ref b1)]) (by decide) rfl (by decide) (hb hby at_80)
  have ta43 := Nat.lt_of_lt_of_le ta40 (Nat.le_of_eq W42.size.symm)
  have za44 : n0 ≤ h42.size := Nat.le_trans za41 (Nat.le_of_eq W42.size.symm)
  have V42 : LA Z h42 b1 .int 18 (gl [(.int (0 : Int32)), (.int (9 : Int32)), (.int (10 : Int32)), (.int (11 : Int32)), (.int (13 : Int32)), (.int (14 : Int32)), (.int (32 : Int32)), (.int (55295 : Int32)), (.int (55296 : Int32)), (.int (57343 : Int32)), (.int (57344 : Int32)), (.int (65533 : Int32)), (.int (65534 : Int32)), (.int (65536 : Int32)), (.int (0 : Int32)), (.int (0 : Int32)), (.int (0 : Int32)), (.int (0 : Int32))] (.int (0 : Int32))) := V39.setL W42 (Nat.le_of_ble_eq_true rfl)
  have N42 := Fr.snoc X42 N39 g_b1
  refine Gq.go (T42.setTop (mkF m 81 #[.val (.int x0), .val (.int x1), .val (.int x2), .unset, .unset, .unset, .unset] [(.ref b1)])) (fun tt_ kk_ => st42 tt_ kk_) ?_
  refine Gq.go (T42.setTop (mkF m 82 #[.val (.int x0), .val (.int x1), .val (.int x2), .unset, .unset, .unset, .unset] [(.ref b1), (.ref b1)])) (fun tt_ kk_ => XS.dup X42.here hx rfl (hb hby at_81) rfl rfl kk_) ?_
  refine Gq.go (T42.setTop (mkF m 84 #[.val (.int x0), .val (.int x1), .val (.int x2), .unset, .unset, .unset, .unset] [(.int (14 : Int32)), (.ref b1), (.ref b1)])) (fun tt_ kk_ => XS.bipush X42.here hx rfl (hb hby at_82) kk_) ?_
  refine Gq.go (T42.setTop (mkF m 86 #[.val (.int x0), .val (.int x1), .val (.int x2), .unset, .unset, .unset, .unset] [(.int (1114111 : Int32)), (.int (14 : Int32)), (.ref b1), (.ref b1)])) (fun tt_ kk_ => X42.ldcInt hx hown (mvT hZ (hw _ (List.mem_of_getElem? (i := 8) rfl))) (g := (mkF m 84 #[.val (.int x0), .val (.int x1), .val (.int x2), .unset, .unset, .unset, .unset] [(.int (14 : Int32)), (.ref b1), (.ref b1)])) rfl (hb hby at_84) _ kk_) ?_
  obtain ⟨T45, h45, X45, eh45, W45, st45⟩ := stoI X42 hx hZ eh42 V42 (j := (14 : Int32)) (i := 14) (x := (1114111 : Int32)) (Ls := #[.val (.int x0), .val (.int x1), .val (.int x2), .unset, .unset, .unset, .unset]) (rest := [(.ref b1)]) (by decide) rfl (by decide) (hb hby at_86)
  have ta46 := Nat.lt_of_lt_of_le ta43 (Nat.le_of_eq W45.size.symm)
  have za47 : n0 ≤ h45.size := Nat.le_trans za44 (Nat.le_of_eq W45.size.symm)
  have V45 : LA Z h45 b1 .int 18 (gl [(.int (0 : Int32)), (.int (9 : Int32)), (.int (10 : Int32)), (.int (11 : Int32)), (.int (13 : Int32)), (.int (14 : Int32)), (.int (32 : Int32)), (.int (55295 : Int32)), (.int (55296 : Int32)), (.int (57343 : Int32)), (.int (57344 : Int32)), (.int (65533 : Int32)), (.int (65534 : Int32)), (.int (65536 : Int32)), (.int (1114111 : Int32)), (.int (0 : Int32)), (.int (0 : Int32)), (.int (0 : Int32))] (.int (0 : Int32))) := V42.setL W45 (Nat.le_of_ble_eq_true rfl)
  have N45 := Fr.snoc X45 N42 g_b1
  refine Gq.go (T45.setTop (mkF m 87 #[.val (.int x0), .val (.int x1), .val (.int x2), .unset, .unset, .unset, .unset] [(.ref b1)])) (fun tt_ kk_ => st45 tt_ kk_) ?_
  refine Gq.go (T45.setTop (mkF m 88 #[.val (.int x0), .val (.int x1), .val (.int x2), .unset, .unset, .unset, .unset] [(.ref b1), (.ref b1)])) (fun tt_ kk_ => XS.dup X45.here hx rfl (hb hby at_87) rfl rfl kk_) ?_
  refine Gq.go (T45.setTop (mkF m 90 #[.val (.int x0), .val (.int x1), .val (.int x2), .unset, .unset, .unset, .unset] [(.int (15 : Int32)), (.ref b1), (.ref b1)])) (fun tt_ kk_ => XS.bipush X45.here hx rfl (hb hby at_88) kk_) ?_
  refine Gq.go (T45.setTop (mkF m 92 #[.val (.int x0), .val (.int x1), .val (.int x2), .unset, .unset, .unset, .unset] [(.int (1114112 : Int32)), (.int (15 : Int32)), (.ref b1), (.ref b1)])) (fun tt_ kk_ => X45.ldcInt hx hown (mvT hZ (hw _ (List.mem_of_getElem? (i := 9) rfl))) (g := (mkF m 90 #[.val (.int x0), .val (.int x1), .val (.int x2), .unset, .unset, .unset, .unset] [(.int (15 : Int32)), (.ref b1), (.ref b1)])) rfl (hb hby at_90) _ kk_) ?_
  obtain ⟨T48, h48, X48, eh48, W48, st48⟩ := stoI X45 hx hZ eh45 V45 (j := (15 : Int32)) (i := 15) (x := (1114112 : Int32)) (Ls := #[.val (.int x0), .val (.int x1), .val (.int x2), .unset, .unset, .unset, .unset]) (rest := [(.ref b1)]) (by decide) rfl (by decide) (hb hby at_92)
  have ta49 := Nat.lt_of_lt_of_le ta46 (Nat.le_of_eq W48.size.symm)
  have za50 : n0 ≤ h48.size := Nat.le_trans za47 (Nat.le_of_eq W48.size.symm)
  have V48 : LA Z h48 b1 .int 18 (gl [(.int (0 : Int32)), (.int (9 : Int32)), (.int (10 : Int32)), (.int (11 : Int32)), (.int (13 : Int32)), (.int (14 : Int32)), (.int (32 : Int32)), (.int (55295 : Int32)), (.int (55296 : Int32)), (.int (57343 : Int32)), (.int (57344 : Int32)), (.int (65533 : Int32)), (.int (65534 : Int32)), (.int (65536 : Int32)), (.int (1114111 : Int32)), (.int (1114112 : Int32)), (.int (0 : Int32)), (.int (0 : Int32))] (.int (0 : Int32))) := V45.setL W48 (Nat.le_of_ble_eq_true rfl)
  have N48 := Fr.snoc X48 N45 g_b1
  refine Gq.go (T48.setTop (mkF m 93 #[.val (.int x0), .val (.int x1), .val (.int x2), .unset, .unset, .unset, .unset] [(.ref b1)])) (fun tt_ kk_ => st48 tt_ kk_) ?_
  refine Gq.go (T48.setTop (mkF m 94 #[.val (.int x0), .val (.int x1), .val (.int x2), .unset, .unset, .unset, .unset] [(.ref b1), (.ref b1)])) (fun tt_ kk_ => XS.dup X48.here hx rfl (hb hby at_93) rfl rfl kk_) ?_
  refine Gq.go (T48.setTop (mkF m 96 #[.val (.int x0), .val (.int x1), .val (.int x2), .unset, .unset, .unset, .unset] [(.int (16 : Int32)), (.ref b1), (.ref b1)])) (fun tt_ kk_ => XS.bipush X48.here hx rfl (hb hby at_94) kk_) ?_
  refine Gq.go (T48.setTop (mkF m 98 #[.val (.int x0), .val (.int x1), .val (.int x2), .unset, .unset, .unset, .unset] [(.int (-2147483648 : Int32)), (.int (16 : Int32)), (.ref b1), (.ref b1)])) (fun tt_ kk_ => X48.ldcInt hx hown (mvT hZ (hw _ (List.mem_of_getElem? (i := 10) rfl))) (g := (mkF m 96 #[.val (.int x0), .val (.int x1), .val (.int x2), .unset, .unset, .unset, .unset] [(.int (16 : Int32)), (.ref b1), (.ref b1)])) rfl (hb hby at_96) _ kk_) ?_
  obtain ⟨T51, h51, X51, eh51, W51, st51⟩ := stoI X48 hx hZ eh48 V48 (j := (16 : Int32)) (i := 16) (x := (-2147483648 : Int32)) (Ls := #[.val (.int x0), .val (.int x1), .val (.int x2), .unset, .unset, .unset, .unset]) (rest := [(.ref b1)]) (by decide) rfl (by decide) (hb hby at_98)
  have ta52 := Nat.lt_of_lt_of_le ta49 (Nat.le_of_eq W51.size.symm)
  have za53 : n0 ≤ h51.size := Nat.le_trans za50 (Nat.le_of_eq W51.size.symm)
  have V51 : LA Z h51 b1 .int 18 (gl [(.int (0 : Int32)), (.int (9 : Int32)), (.int (10 : Int32)), (.int (11 : Int32)), (.int (13 : Int32)), (.int (14 : Int32)), (.int (32 : Int32)), (.int (55295 : Int32)), (.int (55296 : Int32)), (.int (57343 : Int32)), (.int (57344 : Int32)), (.int (65533 : Int32)), (.int (65534 : Int32)), (.int (65536 : Int32)), (.int (1114111 : Int32)), (.int (1114112 : Int32)), (.int (-2147483648 : Int32)), (.int (0 : Int32))] (.int (0 : Int32))) := V48.setL W51 (Nat.le_of_ble_eq_true rfl)
  have N51 := Fr.snoc X51 N48 g_b1
  refine Gq.go (T51.setTop (mkF m 99 #[.val (.int x0), .val (.int x1), .val (.int x2), .unset, .unset, .unset, .unset] [(.ref b1)])) (fun tt_ kk_ => st51 tt_ kk_) ?_
  refine Gq.go (T51.setTop (mkF m 100 #[.val (.int x0), .val (.int x1), .val (.int x2), .unset, .unset, .unset, .unset] [(.ref b1), (.ref b1)])) (fun tt_ kk_ => XS.dup X51.here hx rfl (hb hby at_99) rfl rfl kk_) ?_
  refine Gq.go (T51.setTop (mkF m 102 #[.val (.int x0), .val (.int x1), .val (.int x2), .unset, .unset, .unset, .unset] [(.int (17 : Int32)), (.ref b1), (.ref b1)])) (fun tt_ kk_ => XS.bipush X51.here hx rfl (hb hby at_100) kk_) ?_
  refine Gq.go (T51.setTop (mkF m 104 #[.val (.int x0), .val (.int x1), .val (.int x2), .unset, .unset, .unset, .unset] [(.int (2147483647 : Int32)), (.int (17 : Int32)), (.ref b1), (.ref b1)])) (fun tt_ kk_ => X51.ldcInt hx hown (mvT hZ (hw _ (List.mem_of_getElem? (i := 11) rfl))) (g := (mkF m 102 #[.val (.int x0), .val (.int x1), .val (.int x2), .unset, .unset, .unset, .unset] [(.int (17 : Int32)), (.ref b1), (.ref b1)])) rfl (hb hby at_102) _ kk_) ?_
  obtain ⟨T54, h54, X54, eh54, W54, st54⟩ := stoI X51 hx hZ eh51 V51 (j := (17 : Int32)) (i := 17) (x := (2147483647 : Int32)) (Ls := #[.val (.int x0), .val (.int x1), .val (.int x2), .unset, .unset, .unset, .unset]) (rest := [(.ref b1)]) (by decide) rfl (by decide) (hb hby at_104)
  have ta55 := Nat.lt_of_lt_of_le ta52 (Nat.le_of_eq W54.size.symm)
  have za56 : n0 ≤ h54.size := Nat.le_trans za53 (Nat.le_of_eq W54.size.symm)
  have V54 : LA Z h54 b1 .int 18 (gl [(.int (0 : Int32)), (.int (9 : Int32)), (.int (10 : Int32)), (.int (11 : Int32)), (.int (13 : Int32)), (.int (14 : Int32)), (.int (32 : Int32)), (.int (55295 : Int32)), (.int (55296 : Int32)), (.int (57343 : Int32)), (.int (57344 : Int32)), (.int (65533 : Int32)), (.int (65534 : Int32)), (.int (65536 : Int32)), (.int (1114111 : Int32)), (.int (1114112 : Int32)), (.int (-2147483648 : Int32)), (.int (2147483647 : Int32))] (.int (0 : Int32))) := V51.setL W54 (Nat.le_of_ble_eq_true rfl)
  have N54 := Fr.snoc X54 N51 g_b1
  refine Gq.go (T54.setTop (mkF m 105 #[.val (.int x0), .val (.int x1), .val (.int x2), .unset, .unset, .unset, .unset] [(.ref b1)])) (fun tt_ kk_ => st54 tt_ kk_) ?_
  refine Gq.go (T54.setTop (mkF m 106 #[.val (.int x0), .val (.int x1), .val (.int x2), .val (.ref b1), .unset, .unset, .unset] [])) (fun tt_ kk_ => XS.astoreN X54.here hx rfl (hb hby at_105) rfl rfl (l' := #[.val (.int x0), .val (.int x1), .val (.int x2), .val (.ref b1), .unset, .unset, .unset]) rfl kk_) ?_
  refine Gq.go (T54.setTop (mkF m 107 #[.val (.int x0), .val (.int x1), .val (.int x2), .val (.ref b1), .unset, .unset, .unset] [(.ref b1)])) (fun tt_ kk_ => XS.aloadN X54.here hx rfl (hb hby at_106) rfl rfl kk_) ?_
  refine Gq.go (T54.setTop (mkF m 108 #[.val (.int x0), .val (.int x1), .val (.int x2), .val (.ref b1), .unset, .unset, .unset] [(.int x1), (.ref b1)])) (fun tt_ kk_ => XS.iloadN X54.here hx rfl (hb hby at_107) rfl kk_) ?_
  refine Gq.go (T54.setTop (mkF m 110 #[.val (.int x0), .val (.int x1), .val (.int x2), .val (.ref b1), .unset, .unset, .unset] [(.int (2147483647 : Int32)), (.int x1), (.ref b1)])) (fun tt_ kk_ => X54.ldcInt hx hown (mvT hZ (hw _ (List.mem_of_getElem? (i := 11) rfl))) (g := (mkF m 108 #[.val (.int x0), .val (.int x1), .val (.int x2), .val (.ref b1), .unset, .unset, .unset] [(.int x1), (.ref b1)])) rfl (hb hby at_108) _ kk_) ?_
  refine Gq.go (T54.setTop (mkF m 111 #[.val (.int x0), .val (.int x1), .val (.int x2), .val (.ref b1), .unset, .unset, .unset] [(.int (x1 &&& (2147483647 : Int32))), (.ref b1)])) (fun tt_ kk_ => XS.iand X54.here hx rfl (hb hby at_110) rfl kk_) ?_
  refine Gq.go (T54.setTop (mkF m 113 #[.val (.int x0), .val (.int x1), .val (.int x2), .val (.ref b1), .unset, .unset, .unset] [(.int (18 : Int32)), (.int (x1 &&& (2147483647 : Int32))), (.ref b1)])) (fun tt_ kk_ => XS.bipush X54.here hx rfl (hb hby at_111) kk_) ?_
  refine Gq.go (T54.setTop (mkF m 114 #[.val (.int x0), .val (.int x1), .val (.int x2), .val (.ref b1), .unset, .unset, .unset] [(.int ((x1 &&& (2147483647 : Int32)) % (18 : Int32))), (.ref b1)])) (fun tt_ kk_ => iremM X54 hx rfl (hb hby at_113) rfl (by decide) kk_) ?_
  obtain ⟨i1, hi1, ei1⟩ := own_maskrem x1 18 (by decide) (by decide)
  rw [show ((x1 &&& (2147483647 : Int32)) % (18 : Int32)) = Int32.ofNat i1 from ei1]
  obtain ⟨xv, hxv⟩ := own_ints [(0 : Int32), (9 : Int32), (10 : Int32), (11 : Int32), (13 : Int32), (14 : Int32), (32 : Int32), (55295 : Int32), (55296 : Int32), (57343 : Int32), (57344 : Int32), (65533 : Int32), (65534 : Int32), (65536 : Int32), (1114111 : Int32), (1114112 : Int32), (-2147483648 : Int32), (2147483647 : Int32)] i1
  refine Gq.go (T54.setTop (mkF m 115 #[.val (.int x0), .val (.int x1), .val (.int x2), .val (.ref b1), .unset, .unset, .unset] [(.int xv)])) (fun tt_ kk_ => ldI X54 hx hZ eh54 V54 (j := (Int32.ofNat i1)) (i := i1) (x := xv) (own_nn (by omega)) (own_nc (by omega)) hi1 hxv (hb hby at_114) tt_ kk_) ?_
  refine Gq.go (T54.setTop (mkF m 116 #[.val (.int x0), .val (.int x1), .val (.int x2), .val (.ref b1), .unset, .unset, .unset] [(.int x2), (.int xv)])) (fun tt_ kk_ => XS.iloadN X54.here hx rfl (hb hby at_115) rfl kk_) ?_
  refine Gq.go (T54.setTop (mkF m 117 #[.val (.int x0), .val (.int x1), .val (.int x2), .val (.ref b1), .unset, .unset, .unset] [(.int (3 : Int32)), (.int x2), (.int xv)])) (fun tt_ kk_ => XS.iconst X54.here hx rfl (hb hby at_116) kk_) ?_
  refine Gq.go (T54.setTop (mkF m 118 #[.val (.int x0), .val (.int x1), .val (.int x2), .val (.ref b1), .unset, .unset, .unset] [(.int (x2 &&& (3 : Int32))), (.int xv)])) (fun tt_ kk_ => XS.iand X54.here hx rfl (hb hby at_117) rfl kk_) ?_
  refine Gq.go (T54.setTop (mkF m 119 #[.val (.int x0), .val (.int x1), .val (.int x2), .val (.ref b1), .unset, .unset, .unset] [(.int (1 : Int32)), (.int (x2 &&& (3 : Int32))), (.int xv)])) (fun tt_ kk_ => XS.iconst X54.here hx rfl (hb hby at_118) kk_) ?_
  refine Gq.go (T54.setTop (mkF m 120 #[.val (.int x0), .val (.int x1), .val (.int x2), .val (.ref b1), .unset, .unset, .unset] [(.int ((x2 &&& (3 : Int32)) - (1 : Int32))), (.int xv)])) (fun tt_ kk_ => XS.isub X54.here hx rfl (hb hby at_119) rfl kk_) ?_
  refine Gq.go (T54.setTop (mkF m 121 #[.val (.int x0), .val (.int x1), .val (.int x2), .val (.ref b1), .unset, .unset, .unset] [(.int (xv + ((x2 &&& (3 : Int32)) - (1 : Int32))))])) (fun tt_ kk_ => XS.iadd X54.here hx rfl (hb hby at_120) rfl kk_) ?_
  refine Gq.go (T54.setTop (mkF m 123 #[.val (.int x0), .val (.int x1), .val (.int x2), .val (.ref b1), .val (.int (xv + ((x2 &&& (3 : Int32)) - (1 : Int32)))), .unset, .unset] [])) (fun tt_ kk_ => XS.istore X54.here hx rfl (hb hby at_121) rfl (l' := #[.val (.int x0), .val (.int x1), .val (.int x2), .val (.ref b1), .val (.int (xv + ((x2 &&& (3 : Int32)) - (1 : Int32)))), .unset, .unset]) rfl kk_) ?_
  generalize hv121 : (xv + ((x2 &&& (3 : Int32)) - (1 : Int32))) = v121
  refine Gq.go (T54.setTop (mkF m 124 #[.val (.int x0), .val (.int x1), .val (.int x2), .val (.ref b1), .val (.int v121), .unset, .unset] [(.int x0)])) (fun tt_ kk_ => XS.iloadN X54.here hx rfl (hb hby at_123) rfl kk_) ?_
  obtain ⟨r57, T57, L57, X57, hQ57, st57⟩ := callT (pc := 124) (Ls := #[.val (.int x0), .val (.int x1), .val (.int x2), .val (.ref b1), .val (.int v121), .unset, .unset]) X54 hx hZ hown eh54 [(.int x0)] [] (hw _ (List.mem_of_getElem? (i := 12) rfl)) (hw _ (List.mem_of_getElem? (i := 13) rfl)) (hw _ (List.mem_of_getElem? (i := 14) rfl)) (hw _ (List.mem_of_getElem? (i := 15) rfl)) (by decide) (rm_own_isChar l Z a0 hw [] x0 h54 n0 za56) pd_0 rfl (by rw [hml]; rfl) (W := 0) (Nat.le_of_eq rfl) (by decide) (by decide) (by decide) (by decide) (hb hby at_124)
  obtain ⟨rfl, N57q, eh57⟩ := hQ57
  have N57 := Fr.app N54 N57q
  refine Gq.go (T57.setTop (mkF m 127 #[.val (.int x0), .val (.int x1), .val (.int x2), .val (.ref b1), .val (.int v121), .unset, .unset] [(.int (own_isChar x0))])) (fun tt_ kk_ => st57 tt_ kk_) ?_
  refine Gq.go (T57.setTop (mkF m 128 #[.val (.int x0), .val (.int x1), .val (.int x2), .val (.ref b1), .val (.int v121), .unset, .unset] [(.int x0), (.int (own_isChar x0))])) (fun tt_ kk_ => XS.iloadN X57.here hx rfl (hb hby at_127) rfl kk_) ?_
  obtain ⟨r58, T58, L58, X58, hQ58, st58⟩ := callT (pc := 128) (Ls := #[.val (.int x0), .val (.int x1), .val (.int x2), .val (.ref b1), .val (.int v121), .unset, .unset]) X57 hx hZ hown eh57 [(.int x0)] [(.int (own_isChar x0))] (hw _ (List.mem_of_getElem? (i := 18) rfl)) (hw _ (List.mem_of_getElem? (i := 19) rfl)) (hw _ (List.mem_of_getElem? (i := 20) rfl)) (hw _ (List.mem_of_getElem? (i := 21) rfl)) (by decide) (rm_own_ref l Z a0 hw [] x0 h54 n0 za56) pd_0 rfl (by rw [hml]; rfl) (W := 1) (Nat.le_of_eq rfl) (by decide) (by decide) (by decide) (by decide) (hb hby at_128)
  obtain ⟨rfl, N58q, eh58⟩ := hQ58
  have N58 := Fr.app N57 N58q
  refine Gq.go (T58.setTop (mkF m 131 #[.val (.int x0), .val (.int x1), .val (.int x2), .val (.ref b1), .val (.int v121), .unset, .unset] [(.int (own_ref x0)), (.int (own_isChar x0))])) (fun tt_ kk_ => st58 tt_ kk_) ?_
  refine Gq.go (T58.setTop (mkF m 134 #[.val (.int x0), .val (.int x1), .val (.int x2), .val (.ref b1), .val (.int v121), .unset, .unset] [])) (fun tt_ kk_ => XS.icmpNo X58.here hx rfl (hb hby at_131) rfl (teq (own_same _)).2 kk_) ?_
  refine Gq.go (T58.setTop (mkF m 135 #[.val (.int x0), .val (.int x1), .val (.int x2), .val (.ref b1), .val (.int v121), .unset, .unset] [(.int (1 : Int32))])) (fun tt_ kk_ => XS.iconst X58.here hx rfl (hb hby at_134) kk_) ?_
  refine Gq.go (T58.setTop (mkF m 139 #[.val (.int x0), .val (.int x1), .val (.int x2), .val (.ref b1), .val (.int v121), .unset, .unset] [(.int (1 : Int32))])) (fun tt_ kk_ => XS.goto X58.here hx rfl (pc0 := 135) (pc' := 139) rfl (hb hby at_135) (by decide) (by decide) kk_) ?_
  refine Gq.go (T58.setTop (mkF m 141 #[.val (.int x0), .val (.int x1), .val (.int x2), .val (.ref b1), .val (.int v121), .val (.int (1 : Int32)), .unset] [])) (fun tt_ kk_ => XS.istore X58.here hx rfl (hb hby at_139) rfl (l' := #[.val (.int x0), .val (.int x1), .val (.int x2), .val (.ref b1), .val (.int v121), .val (.int (1 : Int32)), .unset]) rfl kk_) ?_
  refine Gq.go (T58.setTop (mkF m 143 #[.val (.int x0), .val (.int x1), .val (.int x2), .val (.ref b1), .val (.int v121), .val (.int (1 : Int32)), .unset] [(.int v121)])) (fun tt_ kk_ => XS.iload X58.here hx rfl (hb hby at_141) rfl kk_) ?_
  obtain ⟨r59, T59, L59, X59, hQ59, st59⟩ := callT (pc := 143) (Ls := #[.val (.int x0), .val (.int x1), .val (.int x2), .val (.ref b1), .val (.int v121), .val (.int (1 : Int32)), .unset]) X58 hx hZ hown eh58 [(.int v121)] [] (hw _ (List.mem_of_getElem? (i := 12) rfl)) (hw _ (List.mem_of_getElem? (i := 13) rfl)) (hw _ (List.mem_of_getElem? (i := 14) rfl)) (hw _ (List.mem_of_getElem? (i := 15) rfl)) (by decide) (rm_own_isChar l Z a0 hw [] v121 h54 n0 za56) pd_0 rfl (by rw [hml]; rfl) (W := 0) (Nat.le_of_eq rfl) (by decide) (by decide) (by decide) (by decide) (hb hby at_143)
  obtain ⟨rfl, N59q, eh59⟩ := hQ59
  have N59 := Fr.app N58 N59q
  refine Gq.go (T59.setTop (mkF m 146 #[.val (.int x0), .val (.int x1), .val (.int x2), .val (.ref b1), .val (.int v121), .val (.int (1 : Int32)), .unset] [(.int (own_isChar v121))])) (fun tt_ kk_ => st59 tt_ kk_) ?_
  refine Gq.go (T59.setTop (mkF m 148 #[.val (.int x0), .val (.int x1), .val (.int x2), .val (.ref b1), .val (.int v121), .val (.int (1 : Int32)), .unset] [(.int v121), (.int (own_isChar v121))])) (fun tt_ kk_ => XS.iload X59.here hx rfl (hb hby at_146) rfl kk_) ?_
  obtain ⟨r60, T60, L60, X60, hQ60, st60⟩ := callT (pc := 148) (Ls := #[.val (.int x0), .val (.int x1), .val (.int x2), .val (.ref b1), .val (.int v121), .val (.int (1 : Int32)), .unset]) X59 hx hZ hown eh59 [(.int v121)] [(.int (own_isChar v121))] (hw _ (List.mem_of_getElem? (i := 18) rfl)) (hw _ (List.mem_of_getElem? (i := 19) rfl)) (hw _ (List.mem_of_getElem? (i := 20) rfl)) (hw _ (List.mem_of_getElem? (i := 21) rfl)) (by decide) (rm_own_ref l Z a0 hw [] v121 h54 n0 za56) pd_0 rfl (by rw [hml]; rfl) (W := 1) (Nat.le_of_eq rfl) (by decide) (by decide) (by decide) (by decide) (hb hby at_148)
  obtain ⟨rfl, N60q, eh60⟩ := hQ60
  have N60 := Fr.app N59 N60q
  refine Gq.go (T60.setTop (mkF m 151 #[.val (.int x0), .val (.int x1), .val (.int x2), .val (.ref b1), .val (.int v121), .val (.int (1 : Int32)), .unset] [(.int (own_ref v121)), (.int (own_isChar v121))])) (fun tt_ kk_ => st60 tt_ kk_) ?_
  refine Gq.go (T60.setTop (mkF m 154 #[.val (.int x0), .val (.int x1), .val (.int x2), .val (.ref b1), .val (.int v121), .val (.int (1 : Int32)), .unset] [])) (fun tt_ kk_ => XS.icmpNo X60.here hx rfl (hb hby at_151) rfl (teq (own_same _)).2 kk_) ?_
  refine Gq.go (T60.setTop (mkF m 155 #[.val (.int x0), .val (.int x1), .val (.int x2), .val (.ref b1), .val (.int v121), .val (.int (1 : Int32)), .unset] [(.int (1 : Int32))])) (fun tt_ kk_ => XS.iconst X60.here hx rfl (hb hby at_154) kk_) ?_
  refine Gq.go (T60.setTop (mkF m 159 #[.val (.int x0), .val (.int x1), .val (.int x2), .val (.ref b1), .val (.int v121), .val (.int (1 : Int32)), .unset] [(.int (1 : Int32))])) (fun tt_ kk_ => XS.goto X60.here hx rfl (pc0 := 155) (pc' := 159) rfl (hb hby at_155) (by decide) (by decide) kk_) ?_
  refine Gq.go (T60.setTop (mkF m 161 #[.val (.int x0), .val (.int x1), .val (.int x2), .val (.ref b1), .val (.int v121), .val (.int (1 : Int32)), .val (.int (1 : Int32))] [])) (fun tt_ kk_ => XS.istore X60.here hx rfl (hb hby at_159) rfl (l' := #[.val (.int x0), .val (.int x1), .val (.int x2), .val (.ref b1), .val (.int v121), .val (.int (1 : Int32)), .val (.int (1 : Int32))]) rfl kk_) ?_
  refine Gq.go (T60.setTop (mkF m 163 #[.val (.int x0), .val (.int x1), .val (.int x2), .val (.ref b1), .val (.int v121), .val (.int (1 : Int32)), .val (.int (1 : Int32))] [(.int (1 : Int32))])) (fun tt_ kk_ => XS.iload X60.here hx rfl (hb hby at_161) rfl kk_) ?_
  refine Gq.go (T60.setTop (mkF m 166 #[.val (.int x0), .val (.int x1), .val (.int x2), .val (.ref b1), .val (.int v121), .val (.int (1 : Int32)), .val (.int (1 : Int32))] [])) (fun tt_ kk_ => XS.ifNo X60.here hx rfl (hb hby at_163) rfl ((if0 _ _).trans (feq (by decide : ¬ ((1 : Int32) = (0 : Int32)))).1) kk_) ?_
  refine Gq.go (T60.setTop (mkF m 168 #[.val (.int x0), .val (.int x1), .val (.int x2), .val (.ref b1), .val (.int v121), .val (.int (1 : Int32)), .val (.int (1 : Int32))] [(.int (1 : Int32))])) (fun tt_ kk_ => XS.iload X60.here hx rfl (hb hby at_166) rfl kk_) ?_
  refine Gq.go (T60.setTop (mkF m 171 #[.val (.int x0), .val (.int x1), .val (.int x2), .val (.ref b1), .val (.int v121), .val (.int (1 : Int32)), .val (.int (1 : Int32))] [])) (fun tt_ kk_ => XS.ifNo X60.here hx rfl (hb hby at_168) rfl ((if0 _ _).trans (feq (by decide : ¬ ((1 : Int32) = (0 : Int32)))).1) kk_) ?_
  refine Gq.go (T60.setTop (mkF m 172 #[.val (.int x0), .val (.int x1), .val (.int x2), .val (.ref b1), .val (.int v121), .val (.int (1 : Int32)), .val (.int (1 : Int32))] [(.int (1 : Int32))])) (fun tt_ kk_ => XS.iconst X60.here hx rfl (hb hby at_171) kk_) ?_
  refine Gq.go (T60.setTop (mkF m 176 #[.val (.int x0), .val (.int x1), .val (.int x2), .val (.ref b1), .val (.int v121), .val (.int (1 : Int32)), .val (.int (1 : Int32))] [(.int (1 : Int32))])) (fun tt_ kk_ => XS.goto X60.here hx rfl (pc0 := 172) (pc' := 176) rfl (hb hby at_172) (by decide) (by decide) kk_) ?_
  refine Gq.retI X60 hx Bd.notSynchronized Bd.returns (by simp) (hb hby at_176) rfl (by decide) (by decide) ?_
  show Q0 Z x0 x1 x2 h0 n0 _ T60.heap _
  rw [eh60]
  exact ⟨rfl, N60⟩
set_option maxRecDepth 65536 in
set_option maxHeartbeats 40000000 in
theorem comes_1 {Post : Tables → Env → Array Value → State → Outcome → State → Prop} (hpost : ∀ tb e args s v u, (limb_1_1.after args s (.returned v) u = true ∧ limb_1_2.after args s (.returned v) u = true ∧ True) → FrameEnd s (.returned v) u (Jvm.fieldLocs frame_1_writes args s ++ Jvm.arrayLocs frame_1_arrays args s ++ Jvm.staticLocs frame_1_statics s) 16 128 → Post tb e args s (.returned v) u) :
    ArmFor flags0 classFile x code maxLocals ret World_1 tables_1 room_1 Calls_1 rest_1 Pre_1 Post := by
  intro l hfl _ _ p e ha hc hk s m args below hf hA hF happ hP
  obtain ⟨hcalls, hrest, hpre⟩ := hP
  obtain ⟨-, -, -, hnamed, -, -, -, hat⟩ := (Spec.applies_iff hf).mp happ
  obtain ⟨hg, hn⟩ := and_e (Cond.before_iff.mp (show (Jvm.Cond.and given_1 narrow_1).before args s = true from hpre))
  obtain ⟨g1, g2⟩ := and_e hg
  obtain ⟨g3, g4⟩ := and_e g2
  obtain ⟨g5, g6⟩ := and_e g4
  obtain ⟨w0, w1, w2, rfl⟩ : ∃ w0 w1 w2 : Value, args = #[w0, w1, w2] := by
    have hs : args.size = 3 := by simpa [Cond.value, given_1] using g1
    obtain ⟨L⟩ := args
    match L, hs with
    | [w0, w1, w2], _ => exact ⟨w0, w1, w2, rfl⟩
  have hw := fun d (hd : d ∈ tables_1) => atoms_spec (ws := Jvm.Cond.code x code maxLocals ret :: tables_1) hat d (List.mem_cons_of_mem _ hd)
  obtain ⟨i0, ei0⟩ := is_v g3
  obtain rfl : w0 = (.int i0) := Option.some.inj ei0
  obtain ⟨i1, ei1⟩ := is_v g5
  obtain rfl : w1 = (.int i1) := Option.some.inj ei1
  obtain ⟨i2, ei2⟩ := is_v g6
  obtain rfl : w2 = (.int i2) := Option.some.inj ei2
  obtain ⟨n, o, h1, h2, h3, _, L, rfl, ⟨rfl, N⟩, hq⟩ := rm0 l s _ hw tables_1 i0 i1 i2 s.heap s.heap.size (Nat.le_refl _)  p e ha hc hk s m _ below hf ((Spec.applies_iff_loose hf).mp happ).1 ⟨rfl, State.Warmed39.refl s, rfl⟩ trivial
  refine ⟨n, _, h1, h2, h3, hpost _ _ _ _ _ _ ⟨Cond.after_iff.mpr rfl, Cond.after_iff.mpr (eq_i res_at (Term.int_eval (1)) rfl), trivial⟩ ⟨hq.1, hq.2.1, (hq.2.2.sift fun y hy => Or.inr (N y hy)).mono (by decide) (by decide)⟩⟩
theorem main_1_1 : Claimed_1_1 := comes_1 fun _ _ _ _ _ _ h hF => ⟨h.1, hF⟩
theorem main_1_2 : Claimed_1_2 := comes_1 fun _ _ _ _ _ _ h hF => ⟨h.2.1, hF⟩
end Jvm.Pilot.@@N@@
namespace Jvm.Pilot.@@N@@
open Jvm Jvm.ClassFile Sem Op Lib Jvm.Free Jvm.Stand Jvm.Pilot.@@N@@.Jvm.D
/-! MADE BY PROGRAM (witnessworld.py) out of the Statement's table words and the real class files: 9 classes; the members and pool entries that the words name. The judged class is class 1, her method 2. -/
namespace start1
open Jvm.ClassFile
def u (s : String) : CpInfo := .utf8 (stringToUtf16 s)
/-- a pool by its gaps: so many unusable entries, then the entry; so many at the end -/
def gap : Nat → List CpInfo → List CpInfo
  | 0, r => r
  | n + 1, r => .unusable :: gap n r
def poolList (es : List (Nat × CpInfo)) (last : Nat) : List CpInfo := es.foldr (fun e r => gap e.1 (e.2 :: r)) (gap last [])
def pool (es : List (Nat × CpInfo)) (last : Nat) : Array CpInfo := ⟨poolList es last⟩
def fileOf (pool : Array CpInfo) (this : Nat) (attrs : Array Attribute := #[]) (ms : Array MethodInfo := #[]) (fl : Nat := 33) (sup : Nat := 0) (ifs : Array Nat := #[]) (fds : Array FieldInfo := #[]) : ClassFile where
  minorVersion := 0
  majorVersion := 65
  constantPool := pool
  accessFlags := fl
  thisClass := this
  superClass := sup
  interfaces := ifs
  fields := fds
  methods := ms
  attributes := attrs
def plain (name : String) (sup : Option ClassId) : Class where
  name := name
  kind := .ordinary
  loader := none
  accessFlags := 33
  super := sup
  interfaces := #[]
  cf := none
  fields := #[]
  methods := #[]
  instanceTypes := #[]
  staticTypes := #[]
  resolved := #[]
  callSites := []
  init := .initialized
  statics := none
  mirror := none

def pool0 : Array CpInfo := pool [(5, u "<init>"), (0, u "()V"), (1, .class_ 10), (1, u "java/lang/Object")] 113

def k0m0 : Method := { name := "<init>", desc := "()V", sig := { parameters := [], returnType := none }, accessFlags := 1, code := none }
/-- java/lang/Object -/
def k0 : Class := { plain "java/lang/Object" none with
  accessFlags := 33
  interfaces := #[]
  cf := some (fileOf pool0 8 #[] #[{ accessFlags := 1, nameIndex := 5, descriptorIndex := 6, attributes := #[] }] 33 0 #[] #[])
  fields := #[]
  methods := #[k0m0]
  instanceTypes := #[]
  staticTypes := #[]
  resolved := Array.replicate 124 none
  statics := none }

def pool1 : Array CpInfo := pool [(2, .class_ 4), (1, u "java/lang/Object"), (0, u "<init>"), (0, u "()V"), (0, .integer 1114111), (0, .integer 55296), (0, .integer 57343), (0, .integer 65534), (0, .integer 65535), (0, .integer 55295), (0, .integer 57344), (0, .integer 65533), (0, .integer 65536), (0, .integer 1114112), (2, .integer 2147483648), (0, .integer 2147483647), (0, .methodref 22 23), (0, .class_ 24), (0, .nameAndType 25 26), (0, u "com/example/arbor2/arbor2/model/XmlNames"), (0, u "isChar"), (0, u "(I)Z"), (0, .methodref 28 29), (0, .class_ 30), (0, .nameAndType 31 26), (0, u "com/example/arbor2/arbor2/model/XmlNamesIsCharPinLaw"), (0, u "ref"), (3, u "law"), (0, u "(III)Z")] 4

def k1m0 : Method := { name := "<init>", desc := "()V", sig := { parameters := [], returnType := none }, accessFlags := 2, code := none }
def k1c1 : Code := { maxStack := 2, maxLocals := 1, code := method_2_code, exceptionTable := #[], attributes := #[] }
def k1m1 : Method := { name := "ref", desc := "(I)Z", sig := { parameters := [.int], returnType := some .boolean }, accessFlags := 10, code := some k1c1 }
def k1c2 : Code := { maxStack := 4, maxLocals := 7, code := code, exceptionTable := #[], attributes := #[] }
def k1m2 : Method := { name := "law", desc := "(III)Z", sig := { parameters := [.int, .int, .int], returnType := some .boolean }, accessFlags := 9, code := some k1c2 }
/-- com/example/arbor2/arbor2/model/XmlNamesIsCharPinLaw -/
def k1 : Class := { plain "com/example/arbor2/arbor2/model/XmlNamesIsCharPinLaw" (some 0) with
  accessFlags := 49
  interfaces := #[]
  cf := some (fileOf pool1 28 #[] #[{ accessFlags := 2, nameIndex := 5, descriptorIndex := 6, attributes := #[] }, { accessFlags := 10, nameIndex := 31, descriptorIndex := 26, attributes := #[] }, { accessFlags := 9, nameIndex := 35, descriptorIndex := 36, attributes := #[] }] 49 2 #[] #[])
  fields := #[]
  methods := #[k1m0, k1m1, k1m2]
  instanceTypes := #[]
  staticTypes := #[]
  resolved := Array.replicate 41 none
  statics := none }

def pool2 : Array CpInfo := pool [(2, .class_ 4), (1, u "java/lang/Object"), (0, u "<init>"), (0, u "()V"), (0, .class_ 8), (0, u "com/example/arbor2/arbor2/model/XmlNames"), (2, u "ASCII_NAME_START"), (0, u "[Z"), (2, u "NAME_START_RANGES"), (0, u "[[I"), (6, u "ASCII_NAME_ONLY"), (3, u "(I)Z"), (2, u "NAME_ONLY_RANGES"), (43, .integer 55295), (0, .integer 57344), (0, .integer 65533), (0, .integer 65536), (0, .integer 1114111), (20, u "ASCII"), (0, u "I"), (8, u "isChar")] 5

def k2m0 : Method := { name := "<init>", desc := "()V", sig := { parameters := [], returnType := none }, accessFlags := 2, code := none }
def k2c1 : Code := { maxStack := 2, maxLocals := 1, code := prog_279_method_8_code, exceptionTable := #[], attributes := #[] }
def k2m1 : Method := { name := "isChar", desc := "(I)Z", sig := { parameters := [.int], returnType := some .boolean }, accessFlags := 9, code := some k2c1 }
/-- com/example/arbor2/arbor2/model/XmlNames -/
def k2 : Class := { plain "com/example/arbor2/arbor2/model/XmlNames" (some 0) with
  accessFlags := 33
  interfaces := #[]
  cf := some (fileOf pool2 7 #[] #[{ accessFlags := 2, nameIndex := 5, descriptorIndex := 6, attributes := #[] }, { accessFlags := 9, nameIndex := 109, descriptorIndex := 27, attributes := #[] }] 33 2 #[] #[{ accessFlags := 26, nameIndex := 15, descriptorIndex := 16, attributes := #[] }, { accessFlags := 26, nameIndex := 30, descriptorIndex := 16, attributes := #[] }, { accessFlags := 26, nameIndex := 99, descriptorIndex := 100, attributes := #[] }, { accessFlags := 26, nameIndex := 11, descriptorIndex := 12, attributes := #[] }, { accessFlags := 26, nameIndex := 23, descriptorIndex := 12, attributes := #[] }])
  fields := #[{ name := "NAME_START_RANGES", type := (.array (.array .int)), accessFlags := 26, slot := 0, constantValue := 0 }, { name := "NAME_ONLY_RANGES", type := (.array (.array .int)), accessFlags := 26, slot := 1, constantValue := 0 }, { name := "ASCII", type := .int, accessFlags := 26, slot := 2, constantValue := 0 }, { name := "ASCII_NAME_START", type := (.array .boolean), accessFlags := 26, slot := 3, constantValue := 0 }, { name := "ASCII_NAME_ONLY", type := (.array .boolean), accessFlags := 26, slot := 4, constantValue := 0 }]
  methods := #[k2m0, k2m1]
  instanceTypes := #[]
  staticTypes := #[(.array (.array .int)), (.array (.array .int)), .int, (.array .boolean), (.array .boolean)]
  resolved := Array.replicate 115 none
  statics := none }

def pool3 : Array CpInfo := pool [(1, u "java/lang/Cloneable"), (0, .class_ 1), (0, u "java/lang/Object"), (0, .class_ 3)] 3

/-- java/lang/Cloneable -/
def k3 : Class := { plain "java/lang/Cloneable" (some 0) with
  accessFlags := 1537
  interfaces := #[]
  cf := some (fileOf pool3 2 #[] #[] 1537 4 #[] #[])
  fields := #[]
  methods := #[]
  instanceTypes := #[]
  staticTypes := #[]
  resolved := Array.replicate 8 none
  statics := none }

def pool4 : Array CpInfo := pool [(1, u "java/io/Serializable"), (0, .class_ 1), (0, u "java/lang/Object"), (0, .class_ 3)] 3

/-- java/io/Serializable -/
def k4 : Class := { plain "java/io/Serializable" (some 0) with
  accessFlags := 1537
  interfaces := #[]
  cf := some (fileOf pool4 2 #[] #[] 1537 4 #[] #[])
  fields := #[]
  methods := #[]
  instanceTypes := #[]
  staticTypes := #[]
  resolved := Array.replicate 8 none
  statics := none }

/-- the primitive byte -/
def k5 : Class := { plain "byte" none with kind := .primitive 'B', accessFlags := 0x411 }
/-- [B -/
def k6 : Class := { plain "[B" (some 0) with kind := .array 5 .byte, interfaces := #[3, 4], accessFlags := 1041 }

/-- the primitive int -/
def k7 : Class := { plain "int" none with kind := .primitive 'I', accessFlags := 0x411 }
/-- [I -/
def k8 : Class := { plain "[I" (some 0) with kind := .array 7 .int, interfaces := #[3, 4], accessFlags := 1041 }

def heap : Heap := #[]
def classes : Array Class := #[k0, k1, k2, k3, k4, k5, k6, k7, k8]
def interned : List (Array UInt16 × Addr) := []
def slotsUsed : Nat := 0
def theMethod : MethodId := ⟨1, 2⟩
def args0 : Array Value := #[.int 5, .int 6, .int 7]
def aboutOver (below : List Frame) : State where
  vm := { classes := classes, interned := interned.toArray }
  heap := heap
  slotsUsed := slotsUsed
  threads := #[{ frames := .invoking theMethod args0 :: below }]
def below0 : List Frame := [.native { method := ⟨0, 0⟩, args := #[] }]
def about1 : State := aboutOver below0
def p0 : Program := .bare "" "" ""
def e0 : Env := launch0.env 0 0 0
theorem w_frames : about1.frames = Frame.invoking theMethod args0 :: below0 := rfl
set_option maxRecDepth 65536 in
theorem w_args : argsFit about1.vm theMethod args0 = true := by decide +kernel
set_option maxRecDepth 65536 in
theorem w_heap : heapFits about1 = true := by decide +kernel
set_option maxRecDepth 65536 in
theorem w_runnable : about1.curStatus? = some .runnable := by decide +kernel
set_option maxRecDepth 65536 in
theorem w_alone : about1.alone = true := by decide +kernel
set_option maxRecDepth 65536 in
theorem w_named : about1.methodNamed? x = some theMethod := by decide +kernel
set_option maxRecDepth 65536 in
theorem w_hears : about1.hears theMethod below0 = true := by decide +kernel
set_option maxRecDepth 65536 in
theorem w_ripe : about1.ripe theMethod args0 below0 = true := by decide +kernel
theorem w_running : about1.status = .running := rfl
set_option maxRecDepth 65536 in
theorem w_room : about1.hasRoom e0.platform room_1 = true :=
  launch0.hasRoom_least _ room_1 (by decide +kernel) (by decide +kernel) (by decide +kernel) (by decide +kernel) (by decide +kernel) (by decide +kernel)
theorem allAtoms_all (ts : List Jvm.Cond) (a : Array Jvm.Value) (st : Jvm.State) : (allAtoms ts).before a st = ts.all (fun c => c.before a st) := by
  induction ts with
  | nil => rfl
  | cons c t ih =>
    show (Jvm.Cond.and c (allAtoms t)).before a st = _
    rw [Jvm.Cond.before_and, ih, List.all_cons]
def words1 : List Jvm.Cond := Jvm.Cond.code x code maxLocals ret :: tables_1
/-- a 'code' word, met by the world's own term for the bytes: nothing is compared byte by byte -/
theorem code_word {y : MethodName} {bytes : ByteArray} {mx : Nat} {rt : Option FieldType} {a : Array Value} {s : State} {m : MethodId} {meth : Method} {c : Code} (h1 : s.methodNamed? y = some m) (h2 : s.vm.method? m = some meth) (h3 : meth.code = some c) (h4 : c.code = bytes)
    (h5 : (c.maxLocals == mx && c.exceptionTable.isEmpty && decide (c.maxStack ≤ mostOperands) && decide (meth.sig.returnType = rt) && !meth.locks && decide (parseMethodDescriptor y.desc = some meth.sig)) = true) : (Jvm.Cond.code y bytes mx rt).before a s = true := by
  simp only [Bool.and_eq_true, beq_iff_eq, Bool.not_eq_true', decide_eq_true_eq] at h5
  obtain ⟨⟨⟨⟨⟨g1, g2⟩, g3⟩, g4⟩, g5⟩, g6⟩ := h5
  simp [Cond.before, Cond.holds, Cond.value, h1, h2, h3, h4, g1, g2, g3, g4, g5, g6]
def isCode : Jvm.Cond → Bool
  | .code _ _ _ _ => true
  | _ => false
theorem all_split {L : List Jvm.Cond} {P : Jvm.Cond → Bool} (h1 : L.all (fun c => isCode c || P c) = true) (h2 : ∀ c ∈ L.filter isCode, P c = true) : L.all P = true := by
  refine List.all_eq_true.mpr fun c hc => ?_
  have h := List.all_eq_true.mp h1 c hc
  rcases Bool.eq_false_or_eq_true (isCode c) with hi | hi
  · exact h2 c (List.mem_filter.mpr ⟨hc, hi⟩)
  · simpa [hi] using h
set_option maxRecDepth 65536 in
theorem w_c0 : (Jvm.Cond.code x code maxLocals ret).before args0 about1 = true := code_word (m := ⟨1, 2⟩) (meth := k1m2) (c := k1c2) (by decide +kernel) rfl rfl rfl (by decide +kernel)
set_option maxRecDepth 65536 in
theorem w_c1 : (Jvm.Cond.code ({ cls := "com/example/arbor2/arbor2/model/XmlNames", name := "isChar", desc := "(I)Z" } : Jvm.MethodName) prog_279_method_8_code (1 : Nat) (Option.some Jvm.ClassFile.FieldType.boolean)).before args0 about1 = true := code_word (m := ⟨2, 1⟩) (meth := k2m1) (c := k2c1) (by decide +kernel) rfl rfl rfl (by decide +kernel)
set_option maxRecDepth 65536 in
theorem w_c2 : (Jvm.Cond.code ({ cls := "com/example/arbor2/arbor2/model/XmlNamesIsCharPinLaw", name := "ref", desc := "(I)Z" } : Jvm.MethodName) method_2_code (1 : Nat) (Option.some Jvm.ClassFile.FieldType.boolean)).before args0 about1 = true := code_word (m := ⟨1, 1⟩) (meth := k1m1) (c := k1c1) (by decide +kernel) rfl rfl rfl (by decide +kernel)
def codes1 : List Jvm.Cond := [Jvm.Cond.code x code maxLocals ret, Jvm.Cond.code ({ cls := "com/example/arbor2/arbor2/model/XmlNames", name := "isChar", desc := "(I)Z" } : Jvm.MethodName) prog_279_method_8_code (1 : Nat) (Option.some Jvm.ClassFile.FieldType.boolean), Jvm.Cond.code ({ cls := "com/example/arbor2/arbor2/model/XmlNamesIsCharPinLaw", name := "ref", desc := "(I)Z" } : Jvm.MethodName) method_2_code (1 : Nat) (Option.some Jvm.ClassFile.FieldType.boolean)]
set_option maxRecDepth 65536 in
theorem codes_eq : words1.filter isCode = codes1 := rfl
theorem w_codes : ∀ c ∈ words1.filter isCode, c.before args0 about1 = true := by
  rw [codes_eq]
  intro c hc
  simp only [codes1, List.mem_cons, List.not_mem_nil, or_false] at hc
  rcases hc with rfl | rfl | rfl
  · exact w_c0
  · exact w_c1
  · exact w_c2
set_option maxRecDepth 65536 in
theorem w_t1 : (words1.take 24).all (fun c => isCode c || c.before args0 about1) = true := by decide +kernel
set_option maxRecDepth 65536 in
theorem w_t2 : (words1.drop 24).all (fun c => isCode c || c.before args0 about1) = true := by decide +kernel
theorem w_tables : (allAtoms (Jvm.Cond.code x code maxLocals ret :: tables_1)).before args0 about1 = true := by
  rw [allAtoms_all]
  show words1.all (fun c => c.before args0 about1) = true
  refine all_split ?_ w_codes
  rw [← List.take_append_drop 24 words1, List.all_append, w_t1, w_t2]
  rfl
set_option maxRecDepth 65536 in
theorem w_case : (Jvm.Cond.and given_1 narrow_1).before args0 about1 = true := by decide +kernel
theorem w_applies : (headSpec (Jvm.Cond.code x code maxLocals ret :: tables_1) room_1).applies x e0.platform about1 = true :=
  (Spec.applies_iff w_frames).mpr ⟨w_running, w_runnable, w_alone, w_named, w_hears, w_ripe, w_room, w_tables⟩
theorem atStart : AtStart classFile x code maxLocals ret World_1 tables_1 room_1 Calls_1 rest_1 Pre_1 launch0 p0 e0 about1 theMethod args0 below0 :=
  ⟨lists_1, trivial, launch0.admits_env _ _ _, launch0.least_env, fairChoices_fair.cas, fairChoices_fair.clock, w_frames, w_args, w_heap, w_applies, trivial, trivial, w_case⟩
end start1
theorem witness_1 : WitnessClaimed_1 := ⟨start1.p0, start1.e0, start1.about1, start1.theMethod, start1.args0, start1.below0, start1.atStart⟩
end Jvm.Pilot.@@N@@
