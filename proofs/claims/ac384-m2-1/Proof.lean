import JvmDerived
import JvmDerived.Pilot.@@N@@Statement
import JvmDerived.Pilot.@@N@@Code
set_option linter.unusedVariables false
set_option linter.unusedSimpArgs false
namespace Jvm.Pilot.@@N@@
open Jvm Jvm.ClassFile Sem Op Lib Jvm.Free Jvm.Stand Jvm.LawKit Jvm.RoadKit Bundle Jvm.Pilot.@@N@@.Jvm.D
-- own kit: the walk's goal, the ends of a walk, arrays as functions of the place, calls by contract
section OwnKit
variable {p : Program} {l : Launch} {e : Env} {R : Room} {s : State} {m : MethodId} {args : Array Value} {below : List Frame} {meth : Method} {c : Code} {T : State} {locs : List Loc} {cells slots : Nat} {Z : State} {a0 : Array Value} {h h' : Heap} {kc ks : Nat} {Q : Option Value → Heap → List Loc → Prop} {tb : Tables} {B : State}
def Gq (tb : Tables) (e : Env) (below : List Frame) (s : State) (Q : Option Value → Heap → List Loc → Prop) (kc ks : Nat) (A : State) : Prop :=
  ∃ t o, Steps tb e below A t ∧ t.status = .running ∧ Ended t below o ∧ ∃ v L, o = .returned v ∧ Q v t.heap L ∧ FrameEnd s o t L kc ks
theorem Gq.go (A : State) (k : ∀ t, Steps tb e below A t → Steps tb e below B t) (g : Gq tb e below s Q kc ks A) : Gq tb e below s Q kc ks B := by
  obtain ⟨t, o, h1, h2⟩ := g
  exact ⟨t, o, k t h1, h2⟩
theorem Gq.start {T : State} {g g' : JFrame} (q : g = g') (k : Gq tb e below s Q kc ks (T.setTop g')) : Gq tb e below s Q kc ks (T.setTop g) := q ▸ k
theorem Gq.fin {A : State} (X : Stand p l e R s m args below meth c T locs cells slots) (hlocks : meth.locks = false) {v : Option Value} (hv : meth.sig.returnType = none → v = none)
    (st : ∀ fs, (∀ (f : JFrame) (acts : List Action), f.method = m → f.locked = none → f.entered = [] → (doReturn e (T.setTop f) acts v).1 = T.setFrames fs) → Steps p.tables e below A (T.setFrames fs))
    (h1 : cells ≤ kc) (h2 : slots ≤ ks) (q : Q v T.heap locs) : Gq p.tables e below s Q kc ks A := by
  obtain ⟨fs, hr, hrun, hended, hW, hsame⟩ := X.leave (v := v) hv hlocks
  exact ⟨_, _, st fs hr, hrun, hended, _, _, rfl, q, ⟨_, rfl⟩, hW, hsame.mono h1 h2⟩
theorem Gq.retI (X : Stand p l e R s m args below meth c T locs cells slots) (hx : p.tables.exec = Jvm.exec) (hlocks : meth.locks = false) {pc : Nat} {Ls : Array Slot} {w : Int32} {rest : List Value} {t : FieldType} (hret : meth.sig.returnType = some t)
    (ht : t = .int ∨ t = .boolean ∨ t = .byte ∨ t = .char ∨ t = .short) (hd : decode c.code pc = .ok (.ireturn, 1)) (hn : narrow t (.int w) = .int w) (h1 : cells ≤ kc) (h2 : slots ≤ ks) (q : Q (some (.int w)) T.heap locs) :
    Gq p.tables e below s Q kc ks (T.setTop (mkF m pc Ls (.int w :: rest))) :=
  Gq.fin X hlocks (fun h => by rw [hret] at h; cases h) (fun fs hr => retOut X hx hret hn (Or.inl ⟨rfl, ht, _, rfl⟩) hd hr) h1 h2 q
theorem Gq.retL (X : Stand p l e R s m args below meth c T locs cells slots) (hx : p.tables.exec = Jvm.exec) (hlocks : meth.locks = false) {pc : Nat} {Ls : Array Slot} {w : Int64} {rest : List Value} (hret : meth.sig.returnType = some .long)
    (hd : decode c.code pc = .ok (.lreturn, 1)) (h1 : cells ≤ kc) (h2 : slots ≤ ks) (q : Q (some (.long w)) T.heap locs) :
    Gq p.tables e below s Q kc ks (T.setTop (mkF m pc Ls (.long w :: rest))) :=
  Gq.fin X hlocks (fun h => by rw [hret] at h; cases h) (fun fs hr => retOut X hx hret rfl (Or.inr (Or.inl ⟨rfl, rfl, _, rfl⟩)) hd hr) h1 h2 q
theorem Gq.retA (X : Stand p l e R s m args below meth c T locs cells slots) (hx : p.tables.exec = Jvm.exec) (hlocks : meth.locks = false) {pc : Nat} {Ls : Array Slot} {w : Value} {rest : List Value} {t : FieldType} (hret : meth.sig.returnType = some t) (hn : narrow t w = w)
    (ht : t.isReference = true) (hw : w.isRef = true) (hd : decode c.code pc = .ok (.areturn, 1)) (h1 : cells ≤ kc) (h2 : slots ≤ ks) (q : Q (some w) T.heap locs) :
    Gq p.tables e below s Q kc ks (T.setTop (mkF m pc Ls (w :: rest))) :=
  Gq.fin X hlocks (fun h => by rw [hret] at h; cases h) (fun fs hr => retOut X hx hret hn (Or.inr (Or.inr (Or.inr (Or.inr ⟨rfl, ht, hw⟩)))) hd hr) h1 h2 q
theorem Gq.retV (X : Stand p l e R s m args below meth c T locs cells slots) (hx : p.tables.exec = Jvm.exec) (hlocks : meth.locks = false) {pc : Nat} {Ls : Array Slot} (hret : meth.sig.returnType = none)
    (hd : decode c.code pc = .ok (.return_, 1)) (h1 : cells ≤ kc) (h2 : slots ≤ ks) (q : Q none T.heap locs) : Gq p.tables e below s Q kc ks (T.setTop (mkF m pc Ls [])) :=
  Gq.fin X hlocks (fun _ => rfl) (fun fs hr => X.returnOut hx hret hd hr) h1 h2 q
/-- an array: n places, place j holds f j -/
def LA (Z : State) (h : Heap) (a : Addr) (ty : FieldType) (n : Nat) (f : Nat → Value) : Prop := ∃ c : Cell, Arr Z h a c ty ∧ c.slots.size = n ∧ n < 2 ^ 31 ∧ ∀ j, j < n → c.slots[j]? = some (f j)
def upd (f : Nat → Value) (j : Nat) (v : Value) : Nat → Value := fun i => if i = j then v else f i
def gl (vs : List Value) (d : Value) : Nat → Value := fun i => vs.getD i d
section Facts
variable {a b : Addr} {ty : FieldType} {n j : Nat} {f g : Nat → Value} {v d : Value} {sl : Nat} {ws : List Addr} {vs : List Value}
theorem LA.lt (F : LA Z h a ty n f) : a < h.size := by obtain ⟨c, A, -⟩ := F; exact A.lt
theorem LA.ext (F : LA Z h a ty n f) (E : Ext h h') : LA Z h' a ty n f := by obtain ⟨c, A, r⟩ := F; exact ⟨c, A.ext E, r⟩
theorem LA.other (F : LA Z h b ty n f) (W : Wr h h' a sl v) (q : b ≠ a) : LA Z h' b ty n f := by obtain ⟨c, A, r⟩ := F; exact ⟨c, A.other W q, r⟩
theorem LA.keep (F : LA Z h a ty n f) (K : Keep h h' ws) (q : a ∉ ws) : LA Z h' a ty n f := by obtain ⟨c, A, r⟩ := F; exact ⟨c, ⟨K.2.1 a c A.1 q, A.2⟩, r⟩
theorem LA.congr (F : LA Z h a ty n f) (q : ∀ j, j < n → f j = g j) : LA Z h a ty n g := by obtain ⟨c, A, r1, r2, r3⟩ := F; exact ⟨c, A, r1, r2, fun j hj => by rw [r3 j hj, q j hj]⟩
theorem LA.new {k : ClassId} {z : Int32} (A : Arr Z h a (newA k ty z) ty) (q : ¬ z < 0) (hn : z.toNatClampNeg = n) : LA Z h a ty n (fun _ => defaultValue ty) := by
  subst hn
  exact ⟨_, A, sz_new _ _ _, (back32 q).2, fun j hj => by simp [newA, hj]⟩
theorem LA.set (F : LA Z h a ty n f) (W : Wr h h' a j v) : LA Z h' a ty n (upd f j v) := by
  obtain ⟨c, A, r1, r2, r3⟩ := F
  refine ⟨_, A.same W, by rw [sz_set]; exact r1, r2, fun i hi => ?_⟩
  have e1 : i < c.slots.size := by omega
  have r := r3 i hi
  simp only [upd, Cell.setSlot]
  by_cases q : i = j
  · subst q; simp [e1]
  · rw [Array.getElem?_setIfInBounds_ne (Ne.symm q), if_neg q]; exact r
theorem LA.setL (F : LA Z h a ty n (gl vs d)) (W : Wr h h' a j v) (hj : j < vs.length) : LA Z h' a ty n (gl (vs.set j v) d) := by
  refine (F.set W).congr fun i hi => ?_
  simp only [upd, gl, List.getD_eq_getElem?_getD, List.getElem?_set]
  by_cases q : i = j
  · subst q; simp [hj]
  · rw [if_neg q, if_neg (Ne.symm q)]
theorem LA.list (F : LA Z h a ty n (fun _ => d)) : LA Z h a ty n (gl (List.replicate n d) d) := F.congr fun j hj => by
  simp [gl, List.getD_eq_getElem?_getD, List.getElem?_replicate, hj]
end Facts
section Steps
variable {a : Addr} {n i : Nat} {f : Nat → Value} {pc : Nat} {Ls : Array Slot} {rest : List Value} {j : Int32}
theorem inb {cl : Cell} (S : cl.slots.size = n) (hi : j.toNatClampNeg = i) (hj : ¬ j < 0) (hn : i < n) : ¬ (j < 0 ∨ cl.slots.size ≤ j.toNatClampNeg) := by
  intro q; rcases q with q | q
  · exact hj q
  · omega
theorem ldJ (X : Stand p l e R s m args below meth c T locs cells slots) (hx : p.tables.exec = Jvm.exec) (hZ : Z.Warmed39 s.vm) (eT : T.heap = h) (V : LA Z h a .long n f) {x : Int64} (hj : ¬ j < 0) (hi : j.toNatClampNeg = i) (hn : i < n) (hv : f i = .long x) (hd : decode c.code pc = .ok (.laload, 1)) :
    ∀ t, Steps p.tables e below (T.setTop (mkF m (pc + 1) Ls (.long x :: rest))) t → Steps p.tables e below (T.setTop (mkF m pc Ls (.int j :: .ref a :: rest))) t := fun t k => by
  obtain ⟨cl, A, S, -, H⟩ := V
  exact X.laload hx (by rw [eT]; exact A.1) (State.isArrayOf_alike hZ.alike A.2.1) A.2.2 (inb S hi hj hn) (by rw [hi, H i hn, hv]) (g := mkF m pc Ls (.int j :: .ref a :: rest)) rfl rfl hd _ k
theorem ldI (X : Stand p l e R s m args below meth c T locs cells slots) (hx : p.tables.exec = Jvm.exec) (hZ : Z.Warmed39 s.vm) (eT : T.heap = h) (V : LA Z h a .int n f) {x : Int32} (hj : ¬ j < 0) (hi : j.toNatClampNeg = i) (hn : i < n) (hv : f i = .int x) (hd : decode c.code pc = .ok (.iaload, 1)) :
    ∀ t, Steps p.tables e below (T.setTop (mkF m (pc + 1) Ls (.int x :: rest))) t → Steps p.tables e below (T.setTop (mkF m pc Ls (.int j :: .ref a :: rest))) t := fun t k => by
  obtain ⟨cl, A, S, -, H⟩ := V
  exact X.iaload hx (by rw [eT]; exact A.1) (State.isArrayOf_alike hZ.alike A.2.1) A.2.2 (inb S hi hj hn) (by rw [hi, H i hn, hv]) (g := mkF m pc Ls (.int j :: .ref a :: rest)) rfl rfl hd _ k
theorem ldB (X : Stand p l e R s m args below meth c T locs cells slots) (hx : p.tables.exec = Jvm.exec) (hZ : Z.Warmed39 s.vm) (eT : T.heap = h) (V : LA Z h a .byte n f) {x : Int32} (hj : ¬ j < 0) (hi : j.toNatClampNeg = i) (hn : i < n) (hv : f i = .int x) (hd : decode c.code pc = .ok (.baload, 1)) :
    ∀ t, Steps p.tables e below (T.setTop (mkF m (pc + 1) Ls (.int x :: rest))) t → Steps p.tables e below (T.setTop (mkF m pc Ls (.int j :: .ref a :: rest))) t := fun t k => by
  obtain ⟨cl, A, S, -, H⟩ := V
  exact X.baloadBytes hx (by rw [eT]; exact A.1) (State.isArrayOf_alike hZ.alike A.2.1) A.2.2 (inb S hi hj hn) (by rw [hi, H i hn, hv]) (g := mkF m pc Ls (.int j :: .ref a :: rest)) rfl rfl hd _ k
theorem lenA (X : Stand p l e R s m args below meth c T locs cells slots) (hx : p.tables.exec = Jvm.exec) (hZ : Z.Warmed39 s.vm) (eT : T.heap = h) {ty : FieldType} (V : LA Z h a ty n f) (hd : decode c.code pc = .ok (.arraylength, 1)) :
    ∀ t, Steps p.tables e below (T.setTop (mkF m (pc + 1) Ls (.int (Int32.ofNat n) :: rest))) t → Steps p.tables e below (T.setTop (mkF m pc Ls (.ref a :: rest))) t := fun t k => by
  obtain ⟨cl, A, S, -, H⟩ := V
  refine X.arraylength hx (by rw [eT]; exact A.1) (State.isArrayOf_alike hZ.alike A.2.1) (g := mkF m pc Ls (.ref a :: rest)) rfl rfl hd _ ?_
  rw [S]; exact k
theorem stoJ (X : Stand p l e R s m args below meth c T locs cells slots) (hx : p.tables.exec = Jvm.exec) (hZ : Z.Warmed39 s.vm) (eT : T.heap = h) (V : LA Z h a .long n f) {x : Int64} (hj : ¬ j < 0) (hi : j.toNatClampNeg = i) (hn : i < n) (hd : decode c.code pc = .ok (.lastore, 1)) :
    ∃ T' h', Stand p l e R s m args below meth c T' (locs ++ [⟨a, i⟩]) cells slots ∧ T'.heap = h' ∧ Wr h h' a i (.long x) ∧ ∀ t, Steps p.tables e below (T'.setTop (mkF m (pc + 1) Ls rest)) t → Steps p.tables e below (T.setTop (mkF m pc Ls (.long x :: .int j :: .ref a :: rest))) t := by
  obtain ⟨cl, A, S, -, H⟩ := V
  obtain ⟨T', h', X', e', W, st⟩ := stJ X hx hZ eT A (j := j) (x := x) (inb S hi hj hn) (g := mkF m pc Ls (.long x :: .int j :: .ref a :: rest)) rfl rfl hd
  subst hi
  exact ⟨T', h', X', e', W, st⟩
theorem stoI (X : Stand p l e R s m args below meth c T locs cells slots) (hx : p.tables.exec = Jvm.exec) (hZ : Z.Warmed39 s.vm) (eT : T.heap = h) (V : LA Z h a .int n f) {x : Int32} (hj : ¬ j < 0) (hi : j.toNatClampNeg = i) (hn : i < n) (hd : decode c.code pc = .ok (.iastore, 1)) :
    ∃ T' h', Stand p l e R s m args below meth c T' (locs ++ [⟨a, i⟩]) cells slots ∧ T'.heap = h' ∧ Wr h h' a i (.int x) ∧ ∀ t, Steps p.tables e below (T'.setTop (mkF m (pc + 1) Ls rest)) t → Steps p.tables e below (T.setTop (mkF m pc Ls (.int x :: .int j :: .ref a :: rest))) t := by
  obtain ⟨cl, A, S, -, H⟩ := V
  obtain ⟨T', h', X', e', W, st⟩ := stI X hx hZ eT A (j := j) (x := x) (inb S hi hj hn) (g := mkF m pc Ls (.int x :: .int j :: .ref a :: rest)) rfl rfl hd
  subst hi
  exact ⟨T', h', X', e', W, st⟩
theorem stoB (X : Stand p l e R s m args below meth c T locs cells slots) (hx : p.tables.exec = Jvm.exec) (hZ : Z.Warmed39 s.vm) (eT : T.heap = h) (V : LA Z h a .byte n f) {x : Int32} (hj : ¬ j < 0) (hi : j.toNatClampNeg = i) (hn : i < n) (hd : decode c.code pc = .ok (.bastore, 1)) :
    ∃ T' h', Stand p l e R s m args below meth c T' (locs ++ [⟨a, i⟩]) cells slots ∧ T'.heap = h' ∧ Wr h h' a i (.int x.toInt8.toInt32) ∧ ∀ t, Steps p.tables e below (T'.setTop (mkF m (pc + 1) Ls rest)) t → Steps p.tables e below (T.setTop (mkF m pc Ls (.int x :: .int j :: .ref a :: rest))) t := by
  obtain ⟨cl, A, S, -, H⟩ := V
  obtain ⟨T', h', X', e', W, st⟩ := stB X hx hZ eT A (j := j) (x := x) (inb S hi hj hn) (g := mkF m pc Ls (.int x :: .int j :: .ref a :: rest)) rfl rfl hd
  subst hi
  exact ⟨T', h', X', e', W, st⟩
theorem mkA (X : Stand p l e R s m args below meth c T locs cells slots) (hx : p.tables.exec = Jvm.exec) (hZ : Z.Warmed39 s.vm) {aty : ArrayType} (w : (Cond.arrayClass (newarray.typeOf aty)).before a0 Z = true) (eT : T.heap = h) {z : Int32} (hz : ¬ z < 0) (hn : z.toNatClampNeg = n)
    (hb : n * 8 ≤ 536870912) (hc : cells + 1 ≤ R.cells) (hl : slots + n ≤ R.slots) (hd : decode c.code pc = .ok (.newarray aty, 2)) :
    ∃ T' h' b, Stand p l e R s m args below meth c T' locs (cells + 1) (slots + n) ∧ T'.heap = h' ∧ Ext h h' ∧ b = h.size ∧ LA Z h' b (newarray.typeOf aty) n (fun _ => defaultValue (newarray.typeOf aty)) ∧
      ∀ t, Steps p.tables e below (T'.setTop (mkF m (pc + 2) Ls (.ref b :: rest))) t → Steps p.tables e below (T.setTop (mkF m pc Ls (.int z :: rest))) t := by
  obtain ⟨T', h', k, X', e', E, A, st⟩ := newP X hx hZ w eT (g := mkF m pc Ls (.int z :: rest)) rfl hd rfl hz (cap := n) (Nat.le_of_eq hn) hb hc hl
  exact ⟨T', h', _, X', e', E, rfl, LA.new A hz hn, st⟩
end Steps
section Calls
variable {own : String} {index : Nat} {y : MethodName} {bytes : ByteArray} {maxL : Nat} {ret : Option FieldType} {rm : Room} {W pc : Nat} {Ls : Array Slot} {Qc : Option Value → Heap → List Loc → Prop} {ps : List FieldType} {r : Option FieldType}
theorem callT (X : Stand p l e R s m args below meth c T locs cells slots) (hx : p.tables.exec = Jvm.exec) (hZ : Z.Warmed39 s.vm) (hown : s.vm.findClass own = some m.cls) (eT : T.heap = h) (argsL rest : List Value)
    (w1 : (Cond.methodLink own index y).before a0 Z = true) (w2 : (Cond.static y).before a0 Z = true) (w3 : (Cond.initialized y.cls).before a0 Z = true) (w4 : (Cond.code y bytes maxL ret).before a0 Z = true)
    (hy : y.cls ≠ "java/lang/invoke/MethodHandle" ∧ y.cls ≠ "java/lang/invoke/VarHandle")
    (hM : MetFree l y (head1 [Cond.code y bytes maxL ret] rm) (fun a U => a = argsL.toArray ∧ Z.Warmed39 U.vm ∧ U.heap = h) (fun _ _ _ _ _ => True) (fun _ U o U' => ∃ v L, o = .returned v ∧ Qc v U'.heap L ∧ FrameEnd U o U' L rm.cells rm.slots))
    (hpd : parseMethodDescriptor y.desc = some ⟨ps, r⟩) (hll : argsL.length = ps.length) (hsize : Ls.size = c.maxLocals) (hW : 2 * 0 + (rest.map fun v => v.category).sum ≤ W)
    (hf : rm.frames + 1 ≤ R.frames) (hl : W + (maxL + 11) + rm.locals ≤ R.locals) (hc : cells + rm.cells ≤ R.cells) (hs : slots + rm.slots ≤ R.slots) (hd : decode c.code pc = .ok (.invokestatic index, 3)) :
    ∃ v T' L, Stand p l e R s m args below meth c T' (locs ++ L) (cells + rm.cells) (slots + rm.slots) ∧ Qc v T'.heap L ∧
      ∀ t, Steps p.tables e below (T'.setTop (mkF m (pc + 3) Ls (v.toList ++ rest))) t → Steps p.tables e below (T.setTop (mkF m pc Ls (argsL.reverse ++ rest))) t := by
  obtain ⟨v, vm1, ⟨T', L', k', n'⟩, -, X', ⟨L, hQ, e1, e2, e3⟩, st⟩ := Jvm.LawKit.callS X hx (y := y) hown (mvT hZ w1) (mvT hZ w2) (mvT hZ w3) (mvT hZ w4) hy (backOf (W := W) hM hZ w4 w3 hf hl) (g := mkF m pc Ls (argsL.reverse ++ rest)) rfl hsize (argsL := argsL) (rest := rest) (lenOf hpd hll) rfl hW hd (fun _ _ => ⟨rfl, eT, hc, hs⟩)
  dsimp only [Pt.U, Pt.locs, Pt.cells, Pt.slots] at X' e1 e2 e3 st hQ
  subst e1 e2 e3
  exact ⟨v, T', L, X', hQ, st⟩
theorem callI (X : Stand p l e R s m args below meth c T locs cells slots) (hx : p.tables.exec = Jvm.exec) (hZ : Z.Warmed39 s.vm) (hown : s.vm.findClass own = some m.cls) (eT : T.heap = h) (a : Addr) (argsL rest : List Value)
    (w1 : (Cond.methodLink own index y).before a0 Z = true) (w2 : (Cond.instanceMethod y).before a0 Z = true) (w3 : (Cond.initialized y.cls).before a0 Z = true) (w4 : (Cond.code y bytes maxL none).before a0 Z = true) (hy1 : y.name = "<init>")
    (hy : y.cls ≠ "java/lang/invoke/MethodHandle" ∧ y.cls ≠ "java/lang/invoke/VarHandle")
    (hM : MetFree l y (head1 [Cond.code y bytes maxL none] rm) (fun a' U => a' = (.ref a :: argsL).toArray ∧ Z.Warmed39 U.vm ∧ U.heap = h) (fun _ _ _ _ _ => True) (fun _ U o U' => ∃ v L, o = .returned v ∧ Qc v U'.heap L ∧ FrameEnd U o U' L rm.cells rm.slots))
    (hpd : parseMethodDescriptor y.desc = some ⟨ps, r⟩) (hll : argsL.length = ps.length) (hsize : Ls.size = c.maxLocals) (hW : 2 * 0 + (rest.map fun v => v.category).sum ≤ W)
    (hf : rm.frames + 1 ≤ R.frames) (hl : W + (maxL + 11) + rm.locals ≤ R.locals) (hc : cells + rm.cells ≤ R.cells) (hs : slots + rm.slots ≤ R.slots) (hd : decode c.code pc = .ok (.invokespecial index, 3)) :
    ∃ v T' L, Stand p l e R s m args below meth c T' (locs ++ L) (cells + rm.cells) (slots + rm.slots) ∧ Qc v T'.heap L ∧
      ∀ t, Steps p.tables e below (T'.setTop (mkF m (pc + 3) Ls (v.toList ++ rest))) t → Steps p.tables e below (T.setTop (mkF m pc Ls (argsL.reverse ++ .ref a :: rest))) t := by
  obtain ⟨v, vm1, ⟨T', L', k', n'⟩, -, X', ⟨L, hQ, e1, e2, e3⟩, st⟩ := X.specialBack hx (y := y) hy1 hown (mvT hZ w1) (mvT hZ w2) (mvT hZ w4) hy (backOf (W := W) hM hZ w4 w3 hf hl) (g := mkF m pc Ls (argsL.reverse ++ .ref a :: rest)) rfl hsize (Steps.refl _) (a := a) (argsL := argsL) (rest := rest) (lenOf hpd hll) rfl hW hd (fun _ _ => ⟨rfl, eT, hc, hs⟩)
  dsimp only [Pt.U, Pt.locs, Pt.cells, Pt.slots] at X' e1 e2 e3 st hQ
  subst e1 e2 e3
  exact ⟨v, T', L, X', hQ, fun t k => st.trans k⟩
theorem callV (X : Stand p l e R s m args below meth c T locs cells slots) (hx : p.tables.exec = Jvm.exec) (hZ : Z.Warmed39 s.vm) (hown : s.vm.findClass own = some m.cls) (eT : T.heap = h) (a : Addr) (argsL rest : List Value) {C : String} (E : Exa Z h a C)
    (w1 : (Cond.methodLink own index y).before a0 Z = true) (w2 : (Cond.declares y).before a0 Z = true) (w5 : (Cond.selects C y y).before a0 Z = true) (w6 : (Cond.instanceMethod y).before a0 Z = true) (w3 : (Cond.initialized y.cls).before a0 Z = true) (w4 : (Cond.code y bytes maxL ret).before a0 Z = true)
    (hy : y.cls ≠ "java/lang/invoke/MethodHandle" ∧ y.cls ≠ "java/lang/invoke/VarHandle")
    (hM : MetFree l y (head1 [Cond.code y bytes maxL ret] rm) (fun a' U => a' = (.ref a :: argsL).toArray ∧ Z.Warmed39 U.vm ∧ U.heap = h) (fun _ _ _ _ _ => True) (fun _ U o U' => ∃ v L, o = .returned v ∧ Qc v U'.heap L ∧ FrameEnd U o U' L rm.cells rm.slots))
    (hpd : parseMethodDescriptor y.desc = some ⟨ps, r⟩) (hll : argsL.length = ps.length) (hsize : Ls.size = c.maxLocals) (hW : 2 * 0 + (rest.map fun v => v.category).sum ≤ W)
    (hf : rm.frames + 1 ≤ R.frames) (hl : W + (maxL + 11) + rm.locals ≤ R.locals) (hc : cells + rm.cells ≤ R.cells) (hs : slots + rm.slots ≤ R.slots) (hd : decode c.code pc = .ok (.invokevirtual index, 3)) :
    ∃ v T' L, Stand p l e R s m args below meth c T' (locs ++ L) (cells + rm.cells) (slots + rm.slots) ∧ Qc v T'.heap L ∧
      ∀ t, Steps p.tables e below (T'.setTop (mkF m (pc + 3) Ls (v.toList ++ rest))) t → Steps p.tables e below (T.setTop (mkF m pc Ls (argsL.reverse ++ .ref a :: rest))) t := by
  obtain ⟨cq, kq, qa, qb, qc⟩ := isOf hZ eT E
  obtain ⟨v, vm1, ⟨T', L', k', n'⟩, -, X', ⟨L, hQ, e1, e2, e3⟩, st⟩ := X.virtualBack hx (y := y) (z := y) hown (mvT hZ w1) (mvT hZ w2) (notFace_of_selects (args := #[]) (mvT hZ w5)) (mvT hZ w5) (mvT hZ w6) hy (backOf (W := W) hM hZ w4 w3 hf hl) qa qc (g := mkF m pc Ls (argsL.reverse ++ .ref a :: rest)) rfl hsize (Steps.refl _) (argsL := argsL) (rest := rest) (lenOf hpd hll) rfl hW hd (fun _ _ => ⟨rfl, eT, hc, hs⟩)
  dsimp only [Pt.U, Pt.locs, Pt.cells, Pt.slots] at X' e1 e2 e3 st hQ
  subst e1 e2 e3
  exact ⟨v, T', L, X', hQ, fun t k => st.trans k⟩
end Calls
end OwnKit
-- own kit, second part: arrays with their class, clone, references in arrays, private and interface calls
section OwnKit2
variable {p : Program} {l : Launch} {e : Env} {R : Room} {s : State} {m : MethodId} {args : Array Value} {below : List Frame} {meth : Method} {c : Code} {T : State} {locs : List Loc} {cells slots : Nat} {Z : State} {a0 : Array Value} {h h' : Heap}
section Steps
variable {a : Addr} {n i : Nat} {f : Nat → Value} {pc : Nat} {Ls : Array Slot} {rest : List Value} {j : Int32}
theorem mkAE (X : Stand p l e R s m args below meth c T locs cells slots) (hx : p.tables.exec = Jvm.exec) (hZ : Z.Warmed39 s.vm) {aty : ArrayType} (w : (Cond.arrayClass (newarray.typeOf aty)).before a0 Z = true) (eT : T.heap = h) {z : Int32} (hz : ¬ z < 0) (hn : z.toNatClampNeg = n)
    (hb : n * 8 ≤ 536870912) (hc : cells + 1 ≤ R.cells) (hl : slots + n ≤ R.slots) {ad : String} (had : "[" ++ (newarray.typeOf aty).toString = ad) (hd : decode c.code pc = .ok (.newarray aty, 2)) :
    ∃ T' h' b, Stand p l e R s m args below meth c T' locs (cells + 1) (slots + n) ∧ T'.heap = h' ∧ Ext h h' ∧ b = h.size ∧ LA Z h' b (newarray.typeOf aty) n (fun _ => defaultValue (newarray.typeOf aty)) ∧ Exa Z h' b ad ∧
      ∀ t, Steps p.tables e below (T'.setTop (mkF m (pc + 2) Ls (.ref b :: rest))) t → Steps p.tables e below (T.setTop (mkF m pc Ls (.int z :: rest))) t := by
  obtain ⟨T', h', k, X', e', E, A, EX, st⟩ := newPE X hx hZ w eT (g := mkF m pc Ls (.int z :: rest)) rfl hd rfl hz (cap := n) (Nat.le_of_eq hn) hb hc hl had
  exact ⟨T', h', _, X', e', E, rfl, LA.new A hz hn, EX, st⟩
theorem cloneL (X : Stand p l e R s m args below meth c T locs cells slots) (hx : p.tables.exec = Jvm.exec) (hZ : Z.Warmed39 s.vm) {own ad : String} {index : Nat} (hown : s.vm.findClass own = some m.cls)
    (w1 : (Cond.methodLink own index ⟨ad, "clone", "()Ljava/lang/Object;"⟩).before a0 Z = true) (w2 : (Cond.sameMethod ad "java/lang/Object" "clone" "()Ljava/lang/Object;").before a0 Z = true) (w3 : (Cond.native ⟨"java/lang/Object", "clone", "()Ljava/lang/Object;"⟩).before a0 Z = true)
    (w4 : (Cond.instanceMethod ⟨"java/lang/Object", "clone", "()Ljava/lang/Object;"⟩).before a0 Z = true) (w5 : (Cond.selects ad ⟨ad, "clone", "()Ljava/lang/Object;"⟩ ⟨"java/lang/Object", "clone", "()Ljava/lang/Object;"⟩).before a0 Z = true) (w6 : (Cond.castable ad "java/lang/Cloneable").before a0 Z = true)
    (eT : T.heap = h) {ty : FieldType} (V : LA Z h a ty n f) (E : Exa Z h a ad) (hfit : ∀ j, j < n → fits ty (f j) = true) (hsize : Ls.size = c.maxLocals) (hd : decode c.code pc = .ok (.invokevirtual index, 3))
    (hf : 1 ≤ R.frames) {W : Nat} (hW : 2 * 0 + (rest.map fun v => v.category).sum ≤ W) (hl : W + 14 ≤ R.locals) (hc : cells + 1 ≤ R.cells) (hsl : slots + n ≤ R.slots) :
    ∃ T' h' b, Stand p l e R s m args below meth c T' locs (cells + 1) (slots + n) ∧ T'.heap = h' ∧ Ext h h' ∧ b = h.size ∧ LA Z h' b ty n f ∧ Exa Z h' b ad ∧
      ∀ t, Steps p.tables e below (T'.setTop (mkF m (pc + 3) Ls (.ref b :: rest))) t → Steps p.tables e below (T.setTop (mkF m pc Ls (.ref a :: rest))) t := by
  obtain ⟨cl, A, S, hn, H⟩ := V
  have F : FitC Z cl := fitC_of A fun i hi v hv => by
    rw [H i (by omega)] at hv; cases hv; exact hfit i (by omega)
  obtain ⟨T', h', X', e', ex, A', E', st⟩ := cloneA X hx hZ hown w1 w2 w3 w4 w5 w6 eT A E F (g := mkF m pc Ls (.ref a :: rest)) rfl hsize rfl hd hf hW hl (cap := n) (by omega) hc hsl
  exact ⟨T', h', _, X', e', ex, rfl, ⟨cloneOf cl, A', S, hn, H⟩, E', st⟩
theorem mkC (X : Stand p l e R s m args below meth c T locs cells slots) (hx : p.tables.exec = Jvm.exec) (hZ : Z.Warmed39 s.vm) {aty : ArrayType} (w : (Cond.arrayClass (newarray.typeOf aty)).before a0 Z = true) (eT : T.heap = h) {z : Int32} (hz : ¬ z < 0) (hn : z.toNatClampNeg = n) (cap : Nat) (hcap : n ≤ cap)
    (hb : cap * 8 ≤ 536870912) (hc : cells + 1 ≤ R.cells) (hl : slots + cap ≤ R.slots) (hd : decode c.code pc = .ok (.newarray aty, 2)) :
    ∃ T' h' b, Stand p l e R s m args below meth c T' locs (cells + 1) (slots + cap) ∧ T'.heap = h' ∧ Ext h h' ∧ b = h.size ∧ LA Z h' b (newarray.typeOf aty) n (fun _ => defaultValue (newarray.typeOf aty)) ∧
      ∀ t, Steps p.tables e below (T'.setTop (mkF m (pc + 2) Ls (.ref b :: rest))) t → Steps p.tables e below (T.setTop (mkF m pc Ls (.int z :: rest))) t := by
  obtain ⟨T', h', k, X', e', E, A, st⟩ := newP X hx hZ w eT (g := mkF m pc Ls (.int z :: rest)) rfl hd rfl hz (cap := cap) (by omega) hb hc hl
  exact ⟨T', h', _, X', e', E, rfl, LA.new A hz hn, st⟩
end Steps
/-- an Object[]: its class takes objects; n places, place j holds f j -/
def RA (Z : State) (h : Heap) (a : Addr) (n : Nat) (f : Nat → Value) : Prop := ∃ c : Cell, Arr Z h a c (.object "java/lang/Object") ∧ Ovr Z c.cls "java/lang/Object" ∧ c.slots.size = n ∧ n < 2 ^ 31 ∧ ∀ j, j < n → c.slots[j]? = some (f j)
section Refs
variable {a b : Addr} {n i : Nat} {f g : Nat → Value} {pc : Nat} {Ls : Array Slot} {rest : List Value} {j : Int32} {v d : Value} {sl : Nat} {ws : List Addr} {vs : List Value}
theorem RA.lt (F : RA Z h a n f) : a < h.size := by obtain ⟨c, A, -⟩ := F; exact A.lt
theorem RA.ext (F : RA Z h a n f) (E : Ext h h') : RA Z h' a n f := by obtain ⟨c, A, r⟩ := F; exact ⟨c, A.ext E, r⟩
theorem RA.other (F : RA Z h b n f) (W : Wr h h' a sl v) (q : b ≠ a) : RA Z h' b n f := by obtain ⟨c, A, r⟩ := F; exact ⟨c, A.other W q, r⟩
theorem RA.keep (F : RA Z h a n f) (K : Keep h h' ws) (q : a ∉ ws) : RA Z h' a n f := by obtain ⟨c, A, r⟩ := F; exact ⟨c, ⟨K.2.1 a c A.1 q, A.2⟩, r⟩
theorem RA.congr (F : RA Z h a n f) (q : ∀ j, j < n → f j = g j) : RA Z h a n g := by obtain ⟨c, A, r0, r1, r2, r3⟩ := F; exact ⟨c, A, r0, r1, r2, fun j hj => by rw [r3 j hj, q j hj]⟩
theorem RA.list (F : RA Z h a n (fun _ => d)) : RA Z h a n (gl (List.replicate n d) d) := F.congr fun j hj => by
  simp [gl, List.getD_eq_getElem?_getD, List.getElem?_replicate, hj]
theorem RA.setL (F : RA Z h a n (gl vs d)) (W : Wr h h' a i v) (hj : i < vs.length) : RA Z h' a n (gl (vs.set i v) d) := by
  obtain ⟨c, A, r0, r1, r2, r3⟩ := F
  refine ⟨_, A.same W, r0, by rw [sz_set]; exact r1, r2, fun k hk => ?_⟩
  have e1 : k < c.slots.size := by omega
  have r := r3 k hk
  simp only [gl, Cell.setSlot, List.getD_eq_getElem?_getD, List.getElem?_set]
  by_cases q : k = i
  · subst q; simp [e1, hj]
  · rw [Array.getElem?_setIfInBounds_ne (Ne.symm q), if_neg (Ne.symm q)]; rw [r]; simp only [gl, List.getD_eq_getElem?_getD]
theorem lenR (X : Stand p l e R s m args below meth c T locs cells slots) (hx : p.tables.exec = Jvm.exec) (hZ : Z.Warmed39 s.vm) (eT : T.heap = h) (V : RA Z h a n f) (hd : decode c.code pc = .ok (.arraylength, 1)) :
    ∀ t, Steps p.tables e below (T.setTop (mkF m (pc + 1) Ls (.int (Int32.ofNat n) :: rest))) t → Steps p.tables e below (T.setTop (mkF m pc Ls (.ref a :: rest))) t := fun t k => by
  obtain ⟨cl, A, O, S, -, H⟩ := V
  refine X.arraylength hx (by rw [eT]; exact A.1) (State.isArrayOf_alike hZ.alike A.2.1) (g := mkF m pc Ls (.ref a :: rest)) rfl rfl hd _ ?_
  rw [S]; exact k
theorem ldR (X : Stand p l e R s m args below meth c T locs cells slots) (hx : p.tables.exec = Jvm.exec) (hZ : Z.Warmed39 s.vm) (eT : T.heap = h) (V : RA Z h a n f) (hj : ¬ j < 0) (hi : j.toNatClampNeg = i) (hn : i < n) (hv : f i = v) (hd : decode c.code pc = .ok (.aaload, 1)) :
    ∀ t, Steps p.tables e below (T.setTop (mkF m (pc + 1) Ls (v :: rest))) t → Steps p.tables e below (T.setTop (mkF m pc Ls (.int j :: .ref a :: rest))) t := fun t k => by
  obtain ⟨cl, A, O, S, -, H⟩ := V
  exact X.aaload hx (by rw [eT]; exact A.1) (State.isArrayOf_alike hZ.alike A.2.1) rfl A.2.2 (inb S hi hj hn) (by rw [hi, H i hn, hv]) (g := mkF m pc Ls (.int j :: .ref a :: rest)) rfl rfl hd _ k
theorem stoR (X : Stand p l e R s m args below meth c T locs cells slots) (hx : p.tables.exec = Jvm.exec) (hZ : Z.Warmed39 s.vm) (eT : T.heap = h) (V : RA Z h a n f) {y : Addr} (I : Ins Z h y "java/lang/Object" true) (hj : ¬ j < 0) (hi : j.toNatClampNeg = i) (hn : i < n) (hd : decode c.code pc = .ok (.aastore, 1)) :
    ∃ T' h', Stand p l e R s m args below meth c T' (locs ++ [⟨a, i⟩]) cells slots ∧ T'.heap = h' ∧ Wr h h' a i (.ref y) ∧ ∀ t, Steps p.tables e below (T'.setTop (mkF m (pc + 1) Ls rest)) t → Steps p.tables e below (T.setTop (mkF m pc Ls (.ref y :: .int j :: .ref a :: rest))) t := by
  obtain ⟨cl, A, O, S, -, H⟩ := V
  obtain ⟨T', h', X', e', W, st⟩ := stR X hx hZ eT A (j := j) (v := .ref y) (inb S hi hj hn) rfl (Sto.of A O I) (g := mkF m pc Ls (.ref y :: .int j :: .ref a :: rest)) rfl rfl hd
  subst hi
  exact ⟨T', h', X', e', W, st⟩
theorem mkR (X : Stand p l e R s m args below meth c T locs cells slots) (hx : p.tables.exec = Jvm.exec) (hZ : Z.Warmed39 s.vm) {own : String} {index : Nat} (hown : s.vm.findClass own = some m.cls) (w1 : (Cond.classLink own index "java/lang/Object").before a0 Z = true) (w2 : (Cond.arrayOver (.object "java/lang/Object")).before a0 Z = true) (eT : T.heap = h)
    {z : Int32} (hz : ¬ z < 0) (hn : z.toNatClampNeg = n) (hb : n * 8 ≤ 536870912) (hc : cells + 1 ≤ R.cells) (hl : slots + n ≤ R.slots) (hd : decode c.code pc = .ok (.anewarray index, 3)) :
    ∃ T' h' b, Stand p l e R s m args below meth c T' locs (cells + 1) (slots + n) ∧ T'.heap = h' ∧ Ext h h' ∧ b = h.size ∧ RA Z h' b n (fun _ => .null) ∧
      ∀ t, Steps p.tables e below (T'.setTop (mkF m (pc + 3) Ls (.ref b :: rest))) t → Steps p.tables e below (T.setTop (mkF m pc Ls (.int z :: rest))) t := by
  obtain ⟨T', h', k, X', e', E, A, O, st⟩ := newR X hx hZ hown w1 w2 eT (g := mkF m pc Ls (.int z :: rest)) rfl hd rfl hz (cap := n) (Nat.le_of_eq hn) hb hc hl
  obtain ⟨c2, A2, S2, L2, H2⟩ := LA.new A hz hn
  have ec : c2 = newA k (.object "java/lang/Object") z := Option.some.inj (A2.1.symm.trans A.1)
  subst ec
  exact ⟨T', h', _, X', e', E, rfl, ⟨_, A, O, S2, L2, H2⟩, st⟩
theorem arv_of {ty : FieldType} (V : LA Z h a ty n f) (q : ∀ j, j < n → fits ty (f j) = true) : ∃ k, Arv Z h a k ty (Int32.ofNat n) ((List.range n).map f) (defaultValue ty) := by
  obtain ⟨cl, A, S, hn, H⟩ := V
  have e1 : (Int32.ofNat n).toInt = n := Int32.toInt_ofNat_of_lt hn
  have e2 : (Int32.ofNat n).toNatClampNeg = n := by show (Int32.ofNat n).toInt.toNat = n; rw [e1]; rfl
  have e3 : ∀ i, i < n → ((List.range n).map f).getD i (defaultValue ty) = f i := fun i hi => by
    simp [List.getD_eq_getElem?_getD, List.getElem?_map, List.getElem?_range hi]
  refine ⟨cl.cls, cl, A, rfl, by rw [e2]; exact S, ?_, fun i hi => ?_, fun i hi => ?_⟩
  · rw [Int32.lt_iff_toInt_lt, e1]; show ¬ (n : Int) < 0; omega
  · rw [e3 i (by omega)]; exact H i (by omega)
  · rw [e3 i (by omega)]; exact q i (by omega)
theorem la_of {ty : FieldType} {k : ClassId} {z : Int32} (V : Arv Z h a k ty z vs d) (hz : z.toNatClampNeg = n) (hn : n < 2 ^ 31) : LA Z h a ty n (gl vs d) ∧ ∀ j, j < n → fits ty (gl vs d j) = true := by
  obtain ⟨cl, A, -, S, -, H, Gf⟩ := V
  exact ⟨⟨cl, A, by omega, hn, fun j hj => H j (by omega)⟩, fun j hj => Gf j (by omega)⟩
theorem cpL (X : Stand p l e R s m args below meth c T locs cells slots) (hx : p.tables.exec = Jvm.exec) (hZ : Z.Warmed39 s.vm) {own : String} {index : Nat} (hown : s.vm.findClass own = some m.cls)
    (w1 : (Cond.methodLink own index Jvm.Stand.acN).before a0 Z = true) (w2 : (Cond.native Jvm.Stand.acN).before a0 Z = true) (w3 : (Cond.static Jvm.Stand.acN).before a0 Z = true) (w4 : (Cond.initialized "java/lang/System").before a0 Z = true) (eT : T.heap = h)
    {n' : Nat} (A : LA Z h a .int n f) (fA : ∀ j, j < n → fits .int (f j) = true) (B : LA Z h b .int n' g) (fB : ∀ j, j < n' → fits .int (g j) = true) {sp dp nn : Nat} (h1 : sp + nn ≤ n) (h2 : dp + nn ≤ n') {n0 : Nat} (N : Fr n0 locs) (ge : n0 ≤ b)
    (hsize : Ls.size = c.maxLocals) (hd : decode c.code pc = .ok (.invokestatic index, 3)) (hf : 1 ≤ R.frames) {W : Nat} (hW : 2 * 0 + (rest.map fun v => v.category).sum ≤ W) (hlo : W + (nativeFrameWords "java/lang/System" "arraycopy" 5 + 11) ≤ R.locals) :
    ∃ T' h' L g', Stand p l e R s m args below meth c T' L cells slots ∧ T'.heap = h' ∧ Fr n0 L ∧ Keep h h' [b] ∧ LA Z h' b .int n' g' ∧ (∀ j, j < n' → fits .int (g' j) = true) ∧
      ∀ t, Steps p.tables e below (T'.setTop (mkF m (pc + 3) Ls rest)) t → Steps p.tables e below (T.setTop (mkF m pc Ls (.int (Int32.ofNat nn) :: .int (Int32.ofNat dp) :: .ref b :: .int (Int32.ofNat sp) :: .ref a :: rest))) t := by
  obtain ⟨kA, VA⟩ := arv_of A fA
  obtain ⟨kB, VB⟩ := arv_of B fB
  have hn1 : n < 2 ^ 31 := by obtain ⟨_, _, _, q, _⟩ := A; exact q
  have hn2 : n' < 2 ^ 31 := by obtain ⟨_, _, _, q, _⟩ := B; exact q
  have nc : ∀ {i : Nat}, i < 2 ^ 31 → (Int32.ofNat i).toNatClampNeg = i := fun {i} hi => by
    show (Int32.ofNat i).toInt.toNat = i; rw [Int32.toInt_ofNat_of_lt hi]; rfl
  have nn' : ∀ {i : Nat}, i < 2 ^ 31 → ¬ Int32.ofNat i < 0 := fun {i} hi => by
    rw [Int32.lt_iff_toInt_lt, Int32.toInt_ofNat_of_lt hi]; show ¬ (i : Int) < 0; omega
  obtain ⟨T', h', L, X', e', N', K, V', st⟩ := cpA X hx hZ hown w1 w2 w3 w4 eT VA VB (Or.inl ⟨rfl, rfl⟩) (sp := Int32.ofNat sp) (dp := Int32.ofNat dp) (nn := Int32.ofNat nn) (nn' (by omega)) (nn' (by omega)) (nn' (by omega))
    (by rw [nc (by omega), nc (by omega), nc (by omega)]; omega) (by rw [nc (by omega), nc (by omega), nc (by omega)]; omega) rfl (by rw [nc (by omega), nc (by omega)]; simp; omega) N ge (g := mkF m pc Ls (.int (Int32.ofNat nn) :: .int (Int32.ofNat dp) :: .ref b :: .int (Int32.ofNat sp) :: .ref a :: rest)) rfl hsize rfl hd hf hW hlo
  obtain ⟨V1, V2⟩ := la_of V' (nc hn2) hn2
  exact ⟨T', h', L, _, X', e', N', K, V1, V2, st⟩
end Refs
section Calls2
variable {own : String} {index count : Nat} {y xi : MethodName} {bytes : ByteArray} {maxL : Nat} {ret : Option FieldType} {rm : Room} {W pc : Nat} {Ls : Array Slot} {Qc : Option Value → Heap → List Loc → Prop} {ps : List FieldType} {r : Option FieldType}
theorem callP (X : Stand p l e R s m args below meth c T locs cells slots) (hx : p.tables.exec = Jvm.exec) (hZ : Z.Warmed39 s.vm) (hown : s.vm.findClass own = some m.cls) (eT : T.heap = h) (a : Addr) (argsL rest : List Value) {C : String} (E : Exa Z h a C)
    (w1 : (Cond.methodLink own index y).before a0 Z = true) (w6 : (Cond.instanceMethod y).before a0 Z = true) (w5 : (Cond.selects y.cls y y).before a0 Z = true) (w7 : (Cond.privateMethod y).before a0 Z = true) (w3 : (Cond.initialized y.cls).before a0 Z = true) (w4 : (Cond.code y bytes maxL ret).before a0 Z = true)
    (hy : y.cls ≠ "java/lang/invoke/MethodHandle" ∧ y.cls ≠ "java/lang/invoke/VarHandle")
    (hM : MetFree l y (head1 [Cond.code y bytes maxL ret] rm) (fun a' U => a' = (.ref a :: argsL).toArray ∧ Z.Warmed39 U.vm ∧ U.heap = h) (fun _ _ _ _ _ => True) (fun _ U o U' => ∃ v L, o = .returned v ∧ Qc v U'.heap L ∧ FrameEnd U o U' L rm.cells rm.slots))
    (hpd : parseMethodDescriptor y.desc = some ⟨ps, r⟩) (hll : argsL.length = ps.length) (hsize : Ls.size = c.maxLocals) (hW : 2 * 0 + (rest.map fun v => v.category).sum ≤ W)
    (hf : rm.frames + 1 ≤ R.frames) (hl : W + (maxL + 11) + rm.locals ≤ R.locals) (hc : cells + rm.cells ≤ R.cells) (hs : slots + rm.slots ≤ R.slots) (hd : decode c.code pc = .ok (.invokevirtual index, 3)) :
    ∃ v T' L, Stand p l e R s m args below meth c T' (locs ++ L) (cells + rm.cells) (slots + rm.slots) ∧ Qc v T'.heap L ∧
      ∀ t, Steps p.tables e below (T'.setTop (mkF m (pc + 3) Ls (v.toList ++ rest))) t → Steps p.tables e below (T.setTop (mkF m pc Ls (argsL.reverse ++ .ref a :: rest))) t := by
  obtain ⟨cq, q1, q2⟩ := E.cell
  obtain ⟨v, vm1, ⟨T', L', k', n'⟩, -, X', ⟨L, hQ, e1, e2, e3⟩, st⟩ := X.privateBack hx (y := y) hown (mvT hZ w1) (mvT hZ w6) (mvT hZ w5) (Cond.privateMethod_at (mvP hZ w7 (args := #[]))) (mvT hZ w4) hy (backOf (W := W) hM hZ w4 w3 hf hl) (g := mkF m pc Ls (argsL.reverse ++ .ref a :: rest)) rfl hsize (Steps.refl _) (a := a) (by rw [eT]; exact q1) q2 (argsL := argsL) (rest := rest) (lenOf hpd hll) rfl hW hd (fun _ _ => ⟨rfl, eT, hc, hs⟩)
  dsimp only [Pt.U, Pt.locs, Pt.cells, Pt.slots] at X' e1 e2 e3 st hQ
  subst e1 e2 e3
  exact ⟨v, T', L, X', hQ, fun t k => st.trans k⟩
theorem callP2 (X : Stand p l e R s m args below meth c T locs cells slots) (hx : p.tables.exec = Jvm.exec) (hZ : Z.Warmed39 s.vm) (hown : s.vm.findClass own = some m.cls) (eT : T.heap = h) (a : Addr) (argsL rest : List Value) {C : String} (E : Exa Z h a C) {y2 : MethodName} (w5 : (Cond.selects y2.cls y2 y2).before a0 Z = true) (hcl : y2.cls = y.cls)
    (w1 : (Cond.methodLink own index y).before a0 Z = true) (w6 : (Cond.instanceMethod y).before a0 Z = true) (w7 : (Cond.privateMethod y).before a0 Z = true) (w3 : (Cond.initialized y.cls).before a0 Z = true) (w4 : (Cond.code y bytes maxL ret).before a0 Z = true)
    (hy : y.cls ≠ "java/lang/invoke/MethodHandle" ∧ y.cls ≠ "java/lang/invoke/VarHandle")
    (hM : MetFree l y (head1 [Cond.code y bytes maxL ret] rm) (fun a' U => a' = (.ref a :: argsL).toArray ∧ Z.Warmed39 U.vm ∧ U.heap = h) (fun _ _ _ _ _ => True) (fun _ U o U' => ∃ v L, o = .returned v ∧ Qc v U'.heap L ∧ FrameEnd U o U' L rm.cells rm.slots))
    (hpd : parseMethodDescriptor y.desc = some ⟨ps, r⟩) (hll : argsL.length = ps.length) (hsize : Ls.size = c.maxLocals) (hW : 2 * 0 + (rest.map fun v => v.category).sum ≤ W)
    (hf : rm.frames + 1 ≤ R.frames) (hl : W + (maxL + 11) + rm.locals ≤ R.locals) (hc : cells + rm.cells ≤ R.cells) (hs : slots + rm.slots ≤ R.slots) (hd : decode c.code pc = .ok (.invokevirtual index, 3)) :
    ∃ v T' L, Stand p l e R s m args below meth c T' (locs ++ L) (cells + rm.cells) (slots + rm.slots) ∧ Qc v T'.heap L ∧
      ∀ t, Steps p.tables e below (T'.setTop (mkF m (pc + 3) Ls (v.toList ++ rest))) t → Steps p.tables e below (T.setTop (mkF m pc Ls (argsL.reverse ++ .ref a :: rest))) t := by
  obtain ⟨cq, q1, q2⟩ := E.cell
  have hpr : s.PrivateAt y := Cond.privateMethod_at (mvP hZ w7 (args := #[]))
  have hin : (Cond.instanceMethod y).before args s = true := mvT hZ w6
  obtain ⟨c5, r5, m5, z1, z2, z3, z4, k5, z5, z6⟩ := Cond.selects_spec (mvT (args := args) hZ w5)
  have hse : (Cond.selects y.cls y y).before args s = true := selects_self_of_private (by rw [← hcl]; exact findClass_of_methodNamed z3) z5 z6 hpr hin hy
  obtain ⟨v, vm1, ⟨T', L', k', n'⟩, -, X', ⟨L, hQ, e1, e2, e3⟩, st⟩ := X.privateBack hx (y := y) hown (mvT hZ w1) hin hse hpr (mvT hZ w4) hy (backOf (W := W) hM hZ w4 w3 hf hl) (g := mkF m pc Ls (argsL.reverse ++ .ref a :: rest)) rfl hsize (Steps.refl _) (a := a) (by rw [eT]; exact q1) q2 (argsL := argsL) (rest := rest) (lenOf hpd hll) rfl hW hd (fun _ _ => ⟨rfl, eT, hc, hs⟩)
  dsimp only [Pt.U, Pt.locs, Pt.cells, Pt.slots] at X' e1 e2 e3 st hQ
  subst e1 e2 e3
  exact ⟨v, T', L, X', hQ, fun t k => st.trans k⟩
theorem callF (X : Stand p l e R s m args below meth c T locs cells slots) (hx : p.tables.exec = Jvm.exec) (hZ : Z.Warmed39 s.vm) (hown : s.vm.findClass own = some m.cls) (eT : T.heap = h) (a : Addr) (argsL rest : List Value) {C : String} (E : Exa Z h a C)
    (w1 : (Cond.methodLink own index xi).before a0 Z = true) (w2 : (Cond.declares xi).before a0 Z = true) (w8 : (Cond.interfaceMethod xi.cls xi.cls xi.name xi.desc).before args s = true) (w5 : (Cond.selects C xi y).before a0 Z = true) (w6 : (Cond.instanceMethod y).before a0 Z = true) (w7 : (Cond.publicMethod y).before a0 Z = true)
    (w9 : (Cond.unhidden C xi.name xi.desc).before a0 Z = true) (w10 : (Cond.castable C xi.cls).before a0 Z = true) (w3 : (Cond.initialized y.cls).before a0 Z = true) (w4 : (Cond.code y bytes maxL ret).before a0 Z = true)
    (hy : xi.cls ≠ "java/lang/invoke/MethodHandle" ∧ xi.cls ≠ "java/lang/invoke/VarHandle")
    (hM : MetFree l y (head1 [Cond.code y bytes maxL ret] rm) (fun a' U => a' = (.ref a :: argsL).toArray ∧ Z.Warmed39 U.vm ∧ U.heap = h) (fun _ _ _ _ _ => True) (fun _ U o U' => ∃ v L, o = .returned v ∧ Qc v U'.heap L ∧ FrameEnd U o U' L rm.cells rm.slots))
    (hpd : parseMethodDescriptor xi.desc = some ⟨ps, r⟩) (hll : argsL.length = ps.length) (hsize : Ls.size = c.maxLocals) (hW : 2 * 0 + (rest.map fun v => v.category).sum ≤ W)
    (hf : rm.frames + 1 ≤ R.frames) (hl : W + (maxL + 11) + rm.locals ≤ R.locals) (hc : cells + rm.cells ≤ R.cells) (hs : slots + rm.slots ≤ R.slots) (hd : decode c.code pc = .ok (.invokeinterface index count, 5)) :
    ∃ v T' L, Stand p l e R s m args below meth c T' (locs ++ L) (cells + rm.cells) (slots + rm.slots) ∧ Qc v T'.heap L ∧
      ∀ t, Steps p.tables e below (T'.setTop (mkF m (pc + 5) Ls (v.toList ++ rest))) t → Steps p.tables e below (T.setTop (mkF m pc Ls (argsL.reverse ++ .ref a :: rest))) t := by
  obtain ⟨cq, kq, qa, qb, qc⟩ := isOf hZ eT E
  obtain ⟨v, vm1, ⟨T', L', k', n'⟩, -, X', ⟨L, hQ, e1, e2, e3⟩, st⟩ := X.interfaceBack hx (xi := xi) (y := y) hown (mvT hZ w1) (mvT hZ w2) w8 (mvT hZ w5) (mvT hZ w6) (mvT hZ w7) (mvT hZ w9) (mvT hZ w10) hy (backOf (W := W) hM hZ w4 w3 hf hl) qa qb qc (g := mkF m pc Ls (argsL.reverse ++ .ref a :: rest)) rfl hsize (Steps.refl _) (argsL := argsL) (rest := rest) (lenOf hpd hll) rfl hW hd (fun _ _ => ⟨rfl, eT, hc, hs⟩)
  dsimp only [Pt.U, Pt.locs, Pt.cells, Pt.slots] at X' e1 e2 e3 st hQ
  subst e1 e2 e3
  exact ⟨v, T', L, X', hQ, fun t k => st.trans k⟩
end Calls2
end OwnKit2

-- own numbers: small naturals as ints
theorem own_ofNat_toInt {i : Nat} (h : i < 2 ^ 31) : (Int32.ofNat i).toInt = i := Int32.toInt_ofNat_of_lt h
theorem own_nc {i : Nat} (h : i < 2 ^ 31) : (Int32.ofNat i).toNatClampNeg = i := by
  show (Int32.ofNat i).toInt.toNat = i
  rw [own_ofNat_toInt h]; rfl
theorem own_nn {i : Nat} (h : i < 2 ^ 31) : ¬ Int32.ofNat i < 0 := by
  rw [Int32.lt_iff_toInt_lt, own_ofNat_toInt h]
  show ¬ (i : Int) < 0
  omega
theorem own_lt {a b : Nat} (ha : a < 2 ^ 31) (hb : b < 2 ^ 31) : Int32.ofNat a < Int32.ofNat b ↔ a < b := by
  rw [Int32.lt_iff_toInt_lt, own_ofNat_toInt ha, own_ofNat_toInt hb]
  omega
theorem own_eqn {a b : Nat} (ha : a < 2 ^ 31) (hb : b < 2 ^ 31) : Int32.ofNat a = Int32.ofNat b ↔ a = b := by
  rw [← Int32.toInt_inj, own_ofNat_toInt ha, own_ofNat_toInt hb]
  omega
theorem own_add (a b : Nat) : Int32.ofNat a + Int32.ofNat b = Int32.ofNat (a + b) := (Int32.ofNat_add a b).symm
theorem own_sub {a b : Nat} (h : b ≤ a) : Int32.ofNat a - Int32.ofNat b = Int32.ofNat (a - b) := by
  have e : Int32.ofNat (a - b) + Int32.ofNat b = Int32.ofNat a := by rw [own_add, Nat.sub_add_cancel h]
  rw [← e, Int32.add_sub_cancel]
theorem own_ofBits (x : Int32) : x = Int32.ofNat x.toBitVec.toNat := by
  apply Int32.toBitVec_inj.mp
  show _ = BitVec.ofNat 32 _
  simp
theorem own_andN (x : Int32) (m : Nat) (hm : m < 2 ^ 32) : ∃ n : Nat, n ≤ m ∧ n = x.toBitVec.toNat &&& m ∧ (x &&& Int32.ofNat m) = Int32.ofNat n := by
  refine ⟨(x &&& Int32.ofNat m).toBitVec.toNat, ?_, ?_, own_ofBits _⟩
  · rw [Int32.toBitVec_and, BitVec.toNat_and]
    refine Nat.le_trans Nat.and_le_right ?_
    show (BitVec.ofNat 32 m).toNat ≤ m
    rw [BitVec.toNat_ofNat]; exact Nat.mod_le _ _
  · rw [Int32.toBitVec_and, BitVec.toNat_and]
    congr 1
    show (BitVec.ofNat 32 m).toNat = m
    rw [BitVec.toNat_ofNat]; exact Nat.mod_eq_of_lt hm
theorem own_and (x : Int32) (m : Nat) (hm : m < 2 ^ 32) : ∃ n : Nat, n ≤ m ∧ (x &&& Int32.ofNat m) = Int32.ofNat n := by
  obtain ⟨n, h1, -, h2⟩ := own_andN x m hm; exact ⟨n, h1, h2⟩
theorem own_rem {n d : Nat} (hn : n < 2 ^ 31) (hd : d < 2 ^ 31) : Int32.ofNat n % Int32.ofNat d = Int32.ofNat (n % d) := by
  apply Int32.toInt_inj.mp
  have h1 : n % d ≤ n := Nat.mod_le _ _
  rw [Int32.toInt_mod, own_ofNat_toInt hn, own_ofNat_toInt hd, own_ofNat_toInt (by omega), Int.ofNat_tmod]
theorem own_div {n d : Nat} (hn : n < 2 ^ 31) (hd : d < 2 ^ 31) : Int32.ofNat n / Int32.ofNat d = Int32.ofNat (n / d) := by
  apply Int32.toInt_inj.mp
  have h1 : n / d ≤ n := Nat.div_le_self _ _
  rw [Int32.toInt_div, own_ofNat_toInt hn, own_ofNat_toInt hd, own_ofNat_toInt (by omega), ← Int.ofNat_tdiv]
  generalize n / d = q at h1
  refine Int.bmod_eq_of_le ?_ ?_ <;> omega
theorem own_maskrem (k : Int32) (d : Nat) (h0 : 0 < d) (hd : d < 2 ^ 31) : ∃ i : Nat, i < d ∧ (k &&& (2147483647 : Int32)) % Int32.ofNat d = Int32.ofNat i := by
  obtain ⟨n, h1, h2⟩ := own_and k 2147483647 (by decide)
  refine ⟨n % d, Nat.mod_lt _ h0, ?_⟩
  rw [show (2147483647 : Int32) = Int32.ofNat 2147483647 from rfl, h2, own_rem (by omega) hd]
theorem own_ints (vs : List Int32) (i : Nat) : ∃ x, gl (vs.map Value.int) (.int (0 : Int32)) i = .int x := by
  simp only [gl, List.getD_eq_getElem?_getD, List.getElem?_map]
  cases vs[i]? with
  | none => exact ⟨_, rfl⟩
  | some y => exact ⟨_, rfl⟩

def own_rf (B R : Nat → Int32) (st : Int32) : Nat → Nat → Int32
  | 0, _ => -1
  | k + 1, i => if B i = st then R i else own_rf B R st k (i + 1)
def own_R (b : Int32) (j : Nat) : Int32 := [b ||| (0 : Int32), b ||| (1 : Int32), b ||| (2 : Int32), b ||| (3 : Int32), b ||| (4 : Int32), b ||| (5 : Int32), b ||| (6 : Int32), b ||| (7 : Int32), b ||| (8 : Int32)].getD j 0
theorem own_nm (x k : Int32) (hk : k.toBitVec.getLsbD 31 = false) : (x &&& (2147483632 : Int32)) ||| k ≠ -1 := fun e => by
  have h := congrArg (fun z : Int32 => z.toBitVec.getLsbD 31) e
  simp only [Int32.toBitVec_or, Int32.toBitVec_and, BitVec.getLsbD_or, BitVec.getLsbD_and, hk] at h
  rw [show (2147483632 : Int32).toBitVec.getLsbD 31 = false from by decide, show (-1 : Int32).toBitVec.getLsbD 31 = true from by decide] at h
  simp at h
theorem own_9 {j : Nat} (h : j < 9) : j = 0 ∨ j = 1 ∨ j = 2 ∨ j = 3 ∨ j = 4 ∨ j = 5 ∨ j = 6 ∨ j = 7 ∨ j = 8 := by omega
theorem own_hR (x : Int32) : ∀ j, j < 9 → own_R (x &&& (2147483632 : Int32)) j ≠ -1 := fun j hj => by
  rcases own_9 hj with rfl | rfl | rfl | rfl | rfl | rfl | rfl | rfl | rfl <;> exact own_nm x _ (by decide)
def own_F (u0 u1 u2 : Nat) (j : Nat) : Nat := [0, u0, u0 + u1, u0 + u1 + u2].getD j 0
theorem own_F_eq (u0 u1 u2 : Nat) : ∀ j, j < 4 → gl [.int (0 : Int32), .int (Int32.ofNat u0), .int (Int32.ofNat (u0 + u1)), .int (Int32.ofNat (u0 + u1 + u2))] (.int (0 : Int32)) j = .int (Int32.ofNat (own_F u0 u1 u2 j)) := fun j hj => by
  have hc : j = 0 ∨ j = 1 ∨ j = 2 ∨ j = 3 := by omega
  rcases hc with rfl | rfl | rfl | rfl <;> rfl
theorem own_glmap (vs : List Int32) (i : Nat) : gl (vs.map Value.int) (.int (0 : Int32)) i = .int (vs.getD i 0) := by
  simp only [gl, List.getD_eq_getElem?_getD, List.getElem?_map]
  cases vs[i]? <;> rfl
theorem own_fit0 (n : Nat) : ∀ j, j < n → fits .int ((fun _ : Nat => Value.int (0 : Int32)) j) = true := fun _ _ => rfl
theorem own_4 {k : Nat} (h : k ≤ 3) : k = 0 ∨ k = 1 ∨ k = 2 ∨ k = 3 := by omega
theorem own_empty {args : Array Value} {s : State} {d0 : Addr} {t : Term} {ty : FieldType} (h6 : (Cond.arrayOf t ty).value args s none s [] = some true) (ed : t.eval args s none [] s = some (.ref d0)) (h8 : (Cond.eq (Term.length t) (Term.int 0)).value args s none s [] = some true) : ∃ fd, LA s s.heap d0 ty 0 fd := by
  obtain ⟨c, A⟩ := Arr.start ed h6
  have ha := A.fin (Vm.Alike.refl _)
  by_cases hs : c.slots.size < 2 ^ 31
  · have hl := len_f ed ha hs
    have he : c.slots.size.toInt32 = 0 := gotT (Cond.eq_ints hl (Term.int_eval 0)) h8
    have hz : c.slots.size = 0 := by
      have q := congrArg Int32.toInt he
      rw [len_toInt hs] at q
      have e0 : (0 : Int32).toInt = 0 := by decide
      rw [e0] at q; omega
    exact ⟨fun _ => .null, c, A, hz, by decide, fun j hj => absurd hj (Nat.not_lt_zero _)⟩
  · exfalso
    have hl : (Term.length t).eval args s none [] s = none := by simp [Term.eval, ed, ha, hs]
    simp [Cond.value, hl] at h8

theorem d10_0 : decode jdk_29_method_65_code 0 = .ok (.iload_n 0, 1) := by decide +kernel
theorem d10_1 : decode jdk_29_method_65_code 1 = .ok (.iload_n 1, 1) := by decide +kernel
theorem d10_2 : decode jdk_29_method_65_code 2 = .ok (.if_icmp .lt 7, 3) := by decide +kernel
theorem d10_5 : decode jdk_29_method_65_code 5 = .ok (.iload_n 0, 1) := by decide +kernel
theorem d10_6 : decode jdk_29_method_65_code 6 = .ok (.goto 4, 3) := by decide +kernel
theorem d10_9 : decode jdk_29_method_65_code 9 = .ok (.iload_n 1, 1) := by decide +kernel
theorem d10_10 : decode jdk_29_method_65_code 10 = .ok (.ireturn, 1) := by decide +kernel
def own_max (p0 : Int32) (p1 : Int32) : Int32 := (if p0 < p1 then p1 else p0)
theorem ef_own_max (m : MethodId) (y0 : Int32) (y1 : Int32) : entryFrame m #[(.int y0), (.int y1)] 2 = mkF m 0 #[.val (.int y0), .val (.int y1)] [] := by first | (simp [entryFrame, mkF, argsToLocals, Value.category]; done) | rfl
def Q_own_max (Z : State) (p0 : Int32) (p1 : Int32) (h0 : Heap) (n0 : Nat) (v : Option Value) (h : Heap) (L : List Loc) : Prop := v = some (.int (own_max p0 p1)) ∧ Fr n0 L ∧ h = h0
set_option maxRecDepth 65536 in
set_option maxHeartbeats 40000000 in
theorem rm_own_max (l : Launch) (Z : State) (a0 : Array Value) (hw : ∀ d ∈ tables_1, d.before a0 Z = true) (ws : List Jvm.Cond) (p0 : Int32) (p1 : Int32) (h0 : Heap) (n0 : Nat) (Z0 : n0 ≤ h0.size)  :
    MetFree l (⟨"java/lang/Math", "max", "(II)I"⟩ : MethodName) (head1 (Jvm.Cond.code (⟨"java/lang/Math", "max", "(II)I"⟩ : MethodName) jdk_29_method_65_code 2 (some .int) :: ws) ({ frames := 0, cells := 0, slots := 0, locals := 0 } : Room)) (fun a U => a = #[(.int p0), (.int p1)] ∧ Z.Warmed39 U.vm ∧ U.heap = h0) (fun _ _ _ _ _ => True) (fun _ U o U' => ∃ v L, o = .returned v ∧ Q_own_max Z p0 p1 h0 n0 v U'.heap L ∧ FrameEnd U o U' L ({ frames := 0, cells := 0, slots := 0, locals := 0 } : Room).cells ({ frames := 0, cells := 0, slots := 0, locals := 0 } : Room).slots) := by
  refine MetFree.of_bodySF (Jvm.Free.JP.mathPlain rfl (by decide +kernel)) hisR ?_
  intro p e s m args below meth c s₁ Bd hml0 hP hK
  obtain ⟨rfl, hZ, hh⟩ := hP
  have hx := Bd.exec
  have hby := Bd.bytes
  have hml : c.maxLocals = 2 := hml0
  have hown : s.vm.findClass "java/lang/Math" = some m.cls := findClass_of_methodNamed Bd.named
  have hnm := (name_of_methodNamed Bd.named Bd.method).1
  have X0 : Stand p l e ({ frames := 0, cells := 0, slots := 0, locals := 0 } : Room) s m #[(.int p0), (.int p1)] below meth c s₁ [] 0 0 := Stand.of_body Bd
  have eh0 : s₁.heap = h0 := by rw [← hh, Bd.state]; rfl
  have N0 := Fr.nil n0
  refine Gq.start (Q := Q_own_max Z p0 p1 h0 n0) (kc := ({ frames := 0, cells := 0, slots := 0, locals := 0 } : Room).cells) (ks := ({ frames := 0, cells := 0, slots := 0, locals := 0 } : Room).slots) (ef_own_max m p0 p1) ?_
  refine Gq.go (s₁.setTop (mkF m 1 #[.val (.int p0), .val (.int p1)] [(.int p0)])) (fun tt_ kk_ => XS.iloadN X0.here hx rfl (hb hby d10_0) rfl kk_) ?_
  refine Gq.go (s₁.setTop (mkF m 2 #[.val (.int p0), .val (.int p1)] [(.int p1), (.int p0)])) (fun tt_ kk_ => XS.iloadN X0.here hx rfl (hb hby d10_1) rfl kk_) ?_
  by_cases c2_1 : p0 < p1
  · refine Gq.go (s₁.setTop (mkF m 9 #[.val (.int p0), .val (.int p1)] [])) (fun tt_ kk_ => XS.icmpYes X0.here hx rfl (pc0 := 2) (pc' := 9) rfl (hb hby d10_2) rfl (tlt c2_1).1 (by decide) (by decide) kk_) ?_
    refine Gq.go (s₁.setTop (mkF m 10 #[.val (.int p0), .val (.int p1)] [(.int p1)])) (fun tt_ kk_ => XS.iloadN X0.here hx rfl (hb hby d10_9) rfl kk_) ?_
    refine Gq.retI X0 hx Bd.notSynchronized Bd.returns (by simp) (hb hby d10_10) rfl (by decide) (by decide) ?_
    show Q_own_max Z p0 p1 h0 n0 _ s₁.heap _
    rw [eh0]
    exact ⟨by unfold own_max; rw [if_pos c2_1], N0, rfl⟩
  · refine Gq.go (s₁.setTop (mkF m 5 #[.val (.int p0), .val (.int p1)] [])) (fun tt_ kk_ => XS.icmpNo X0.here hx rfl (hb hby d10_2) rfl (flt c2_1).1 kk_) ?_
    refine Gq.go (s₁.setTop (mkF m 6 #[.val (.int p0), .val (.int p1)] [(.int p0)])) (fun tt_ kk_ => XS.iloadN X0.here hx rfl (hb hby d10_5) rfl kk_) ?_
    refine Gq.go (s₁.setTop (mkF m 10 #[.val (.int p0), .val (.int p1)] [(.int p0)])) (fun tt_ kk_ => XS.goto X0.here hx rfl (pc0 := 6) (pc' := 10) rfl (hb hby d10_6) (by decide) (by decide) kk_) ?_
    refine Gq.retI X0 hx Bd.notSynchronized Bd.returns (by simp) (hb hby d10_10) rfl (by decide) (by decide) ?_
    show Q_own_max Z p0 p1 h0 n0 _ s₁.heap _
    rw [eh0]
    exact ⟨by unfold own_max; rw [if_neg c2_1], N0, rfl⟩
theorem d18_0 : decode method_3_code 0 = .ok (.iload_n 0, 1) := by decide +kernel
theorem d18_1 : decode method_3_code 1 = .ok (.iload_n 1, 1) := by decide +kernel
theorem d18_2 : decode method_3_code 2 = .ok (.iushr, 1) := by decide +kernel
theorem d18_3 : decode method_3_code 3 = .ok (.iconst 1, 1) := by decide +kernel
theorem d18_4 : decode method_3_code 4 = .ok (.iand, 1) := by decide +kernel
theorem d18_5 : decode method_3_code 5 = .ok (.ifCond .eq 7, 3) := by decide +kernel
theorem d18_8 : decode method_3_code 8 = .ok (.iload_n 2, 1) := by decide +kernel
theorem d18_9 : decode method_3_code 9 = .ok (.goto 4, 3) := by decide +kernel
theorem d18_12 : decode method_3_code 12 = .ok (.iload_n 3, 1) := by decide +kernel
theorem d18_13 : decode method_3_code 13 = .ok (.ireturn, 1) := by decide +kernel
def own_pk (p0 : Int32) (p1 : Int32) (p2 : Int32) (p3 : Int32) : Int32 := (if (((p0.toUInt32 >>> (p1 &&& 31).toUInt32).toInt32) &&& (1 : Int32)) = (0 : Int32) then p3 else p2)
theorem pn_com_example_arbor2_arbor2_analysis_TracksReachedFromPinLaw : plainName "com/example/arbor2/arbor2/analysis/TracksReachedFromPinLaw" = true := by first | (simp [plainName, overriddenIn]; done) | decide +kernel
theorem ef_own_pk (m : MethodId) (y0 : Int32) (y1 : Int32) (y2 : Int32) (y3 : Int32) : entryFrame m #[(.int y0), (.int y1), (.int y2), (.int y3)] 4 = mkF m 0 #[.val (.int y0), .val (.int y1), .val (.int y2), .val (.int y3)] [] := by first | (simp [entryFrame, mkF, argsToLocals, Value.category]; done) | rfl
def Q_own_pk (Z : State) (p0 : Int32) (p1 : Int32) (p2 : Int32) (p3 : Int32) (h0 : Heap) (n0 : Nat) (v : Option Value) (h : Heap) (L : List Loc) : Prop := v = some (.int (own_pk p0 p1 p2 p3)) ∧ Fr n0 L ∧ h = h0
set_option maxRecDepth 65536 in
set_option maxHeartbeats 40000000 in
theorem rm_own_pk (l : Launch) (Z : State) (a0 : Array Value) (hw : ∀ d ∈ tables_1, d.before a0 Z = true) (ws : List Jvm.Cond) (p0 : Int32) (p1 : Int32) (p2 : Int32) (p3 : Int32) (h0 : Heap) (n0 : Nat) (Z0 : n0 ≤ h0.size)  :
    MetFree l (⟨"com/example/arbor2/arbor2/analysis/TracksReachedFromPinLaw", "pick", "(IIII)I"⟩ : MethodName) (head1 (Jvm.Cond.code (⟨"com/example/arbor2/arbor2/analysis/TracksReachedFromPinLaw", "pick", "(IIII)I"⟩ : MethodName) method_3_code 4 (some .int) :: ws) ({ frames := 0, cells := 0, slots := 0, locals := 0 } : Room)) (fun a U => a = #[(.int p0), (.int p1), (.int p2), (.int p3)] ∧ Z.Warmed39 U.vm ∧ U.heap = h0) (fun _ _ _ _ _ => True) (fun _ U o U' => ∃ v L, o = .returned v ∧ Q_own_pk Z p0 p1 p2 p3 h0 n0 v U'.heap L ∧ FrameEnd U o U' L ({ frames := 0, cells := 0, slots := 0, locals := 0 } : Room).cells ({ frames := 0, cells := 0, slots := 0, locals := 0 } : Room).slots) := by
  refine MetFree.of_bodySF (plainFor_of_name pn_com_example_arbor2_arbor2_analysis_TracksReachedFromPinLaw) hisR ?_
  intro p e s m args below meth c s₁ Bd hml0 hP hK
  obtain ⟨rfl, hZ, hh⟩ := hP
  have hx := Bd.exec
  have hby := Bd.bytes
  have hml : c.maxLocals = 4 := hml0
  have hown : s.vm.findClass "com/example/arbor2/arbor2/analysis/TracksReachedFromPinLaw" = some m.cls := findClass_of_methodNamed Bd.named
  have hnm := (name_of_methodNamed Bd.named Bd.method).1
  have X0 : Stand p l e ({ frames := 0, cells := 0, slots := 0, locals := 0 } : Room) s m #[(.int p0), (.int p1), (.int p2), (.int p3)] below meth c s₁ [] 0 0 := Stand.of_body Bd
  have eh0 : s₁.heap = h0 := by rw [← hh, Bd.state]; rfl
  have N0 := Fr.nil n0
  refine Gq.start (Q := Q_own_pk Z p0 p1 p2 p3 h0 n0) (kc := ({ frames := 0, cells := 0, slots := 0, locals := 0 } : Room).cells) (ks := ({ frames := 0, cells := 0, slots := 0, locals := 0 } : Room).slots) (ef_own_pk m p0 p1 p2 p3) ?_
  refine Gq.go (s₁.setTop (mkF m 1 #[.val (.int p0), .val (.int p1), .val (.int p2), .val (.int p3)] [(.int p0)])) (fun tt_ kk_ => XS.iloadN X0.here hx rfl (hb hby d18_0) rfl kk_) ?_
  refine Gq.go (s₁.setTop (mkF m 2 #[.val (.int p0), .val (.int p1), .val (.int p2), .val (.int p3)] [(.int p1), (.int p0)])) (fun tt_ kk_ => XS.iloadN X0.here hx rfl (hb hby d18_1) rfl kk_) ?_
  refine Gq.go (s₁.setTop (mkF m 3 #[.val (.int p0), .val (.int p1), .val (.int p2), .val (.int p3)] [(.int ((p0.toUInt32 >>> (p1 &&& 31).toUInt32).toInt32))])) (fun tt_ kk_ => XS.iushr X0.here hx rfl (hb hby d18_2) rfl kk_) ?_
  refine Gq.go (s₁.setTop (mkF m 4 #[.val (.int p0), .val (.int p1), .val (.int p2), .val (.int p3)] [(.int (1 : Int32)), (.int ((p0.toUInt32 >>> (p1 &&& 31).toUInt32).toInt32))])) (fun tt_ kk_ => XS.iconst X0.here hx rfl (hb hby d18_3) kk_) ?_
  refine Gq.go (s₁.setTop (mkF m 5 #[.val (.int p0), .val (.int p1), .val (.int p2), .val (.int p3)] [(.int (((p0.toUInt32 >>> (p1 &&& 31).toUInt32).toInt32) &&& (1 : Int32)))])) (fun tt_ kk_ => XS.iand X0.here hx rfl (hb hby d18_4) rfl kk_) ?_
  by_cases c5_1 : (((p0.toUInt32 >>> (p1 &&& 31).toUInt32).toInt32) &&& (1 : Int32)) = (0 : Int32)
  · refine Gq.go (s₁.setTop (mkF m 12 #[.val (.int p0), .val (.int p1), .val (.int p2), .val (.int p3)] [])) (fun tt_ kk_ => XS.ifYes X0.here hx rfl (pc0 := 5) (pc' := 12) rfl (hb hby d18_5) rfl ((if0 _ _).trans (teq c5_1).1) (by decide) (by decide) kk_) ?_
    refine Gq.go (s₁.setTop (mkF m 13 #[.val (.int p0), .val (.int p1), .val (.int p2), .val (.int p3)] [(.int p3)])) (fun tt_ kk_ => XS.iloadN X0.here hx rfl (hb hby d18_12) rfl kk_) ?_
    refine Gq.retI X0 hx Bd.notSynchronized Bd.returns (by simp) (hb hby d18_13) rfl (by decide) (by decide) ?_
    show Q_own_pk Z p0 p1 p2 p3 h0 n0 _ s₁.heap _
    rw [eh0]
    exact ⟨by unfold own_pk; rw [if_pos c5_1], N0, rfl⟩
  · refine Gq.go (s₁.setTop (mkF m 8 #[.val (.int p0), .val (.int p1), .val (.int p2), .val (.int p3)] [])) (fun tt_ kk_ => XS.ifNo X0.here hx rfl (hb hby d18_5) rfl ((if0 _ _).trans (feq c5_1).1) kk_) ?_
    refine Gq.go (s₁.setTop (mkF m 9 #[.val (.int p0), .val (.int p1), .val (.int p2), .val (.int p3)] [(.int p2)])) (fun tt_ kk_ => XS.iloadN X0.here hx rfl (hb hby d18_8) rfl kk_) ?_
    refine Gq.go (s₁.setTop (mkF m 13 #[.val (.int p0), .val (.int p1), .val (.int p2), .val (.int p3)] [(.int p2)])) (fun tt_ kk_ => XS.goto X0.here hx rfl (pc0 := 9) (pc' := 13) rfl (hb hby d18_9) (by decide) (by decide) kk_) ?_
    refine Gq.retI X0 hx Bd.notSynchronized Bd.returns (by simp) (hb hby d18_13) rfl (by decide) (by decide) ?_
    show Q_own_pk Z p0 p1 p2 p3 h0 n0 _ s₁.heap _
    rw [eh0]
    exact ⟨by unfold own_pk; rw [if_neg c5_1], N0, rfl⟩
theorem d3_0 : decode jdk_22_method_1_code 0 = .ok (.aload_n 0, 1) := by decide +kernel
theorem d3_1 : decode jdk_22_method_1_code 1 = .ok (.invokespecial 1, 3) := by decide +kernel
theorem d3_4 : decode jdk_22_method_1_code 4 = .ok (.return_, 1) := by decide +kernel
theorem pn_java_util_AbstractCollection : plainName "java/util/AbstractCollection" = true := by first | (simp [plainName, overriddenIn]; done) | decide +kernel
theorem ef3 (m : MethodId) (y0 : Addr) : entryFrame m #[(.ref y0)] 1 = mkF m 0 #[.val (.ref y0)] [] := by first | (simp [entryFrame, mkF, argsToLocals, Value.category]; done) | rfl
def Q3 (Z : State) (a1 : Addr) (h0 : Heap) (n0 : Nat) (v : Option Value) (h : Heap) (L : List Loc) : Prop := v = none ∧ Fr n0 L ∧ h = h0
set_option maxRecDepth 65536 in
set_option maxHeartbeats 40000000 in
theorem rm3 (l : Launch) (Z : State) (a0 : Array Value) (hw : ∀ d ∈ tables_1, d.before a0 Z = true) (ws : List Jvm.Cond) (a1 : Addr) (h0 : Heap) (n0 : Nat) (Z0 : n0 ≤ h0.size)  :
    MetFree l (⟨"java/util/AbstractCollection", "<init>", "()V"⟩ : MethodName) (head1 (Jvm.Cond.code (⟨"java/util/AbstractCollection", "<init>", "()V"⟩ : MethodName) jdk_22_method_1_code 1 none :: ws) ({ frames := 1, cells := 0, slots := 0, locals := 12 } : Room)) (fun a U => a = #[(.ref a1)] ∧ Z.Warmed39 U.vm ∧ U.heap = h0) (fun _ _ _ _ _ => True) (fun _ U o U' => ∃ v L, o = .returned v ∧ Q3 Z a1 h0 n0 v U'.heap L ∧ FrameEnd U o U' L ({ frames := 1, cells := 0, slots := 0, locals := 12 } : Room).cells ({ frames := 1, cells := 0, slots := 0, locals := 12 } : Room).slots) := by
  refine MetFree.of_bodySF (plainFor_of_name pn_java_util_AbstractCollection) hisR ?_
  intro p e s m args below meth c s₁ Bd hml0 hP hK
  obtain ⟨rfl, hZ, hh⟩ := hP
  have hx := Bd.exec
  have hby := Bd.bytes
  have hml : c.maxLocals = 1 := hml0
  have hown : s.vm.findClass "java/util/AbstractCollection" = some m.cls := findClass_of_methodNamed Bd.named
  have hnm := (name_of_methodNamed Bd.named Bd.method).1
  have X0 : Stand p l e ({ frames := 1, cells := 0, slots := 0, locals := 12 } : Room) s m #[(.ref a1)] below meth c s₁ [] 0 0 := Stand.of_body Bd
  have eh0 : s₁.heap = h0 := by rw [← hh, Bd.state]; rfl
  have N0 := Fr.nil n0
  refine Gq.start (Q := Q3 Z a1 h0 n0) (kc := ({ frames := 1, cells := 0, slots := 0, locals := 12 } : Room).cells) (ks := ({ frames := 1, cells := 0, slots := 0, locals := 12 } : Room).slots) (ef3 m a1) ?_
  refine Gq.go (s₁.setTop (mkF m 1 #[.val (.ref a1)] [(.ref a1)])) (fun tt_ kk_ => XS.aloadN X0.here hx rfl (hb hby d3_0) rfl rfl kk_) ?_
  obtain ⟨T1, X1, eh1, st1⟩ := initO X0 hx hZ hown (hw _ (List.mem_of_getElem? (i := 18) rfl)) (hw _ (List.mem_of_getElem? (i := 19) rfl)) (hw _ (List.mem_of_getElem? (i := 20) rfl)) eh0 (g := (mkF m 1 #[.val (.ref a1)] [(.ref a1)])) rfl (by rw [hml]; rfl) rfl (hb hby d3_1) (by decide) (W := 0) (by show 2 * 0 + _ ≤ _; exact Nat.le_of_eq rfl) (by decide)
  refine Gq.go (T1.setTop (mkF m 4 #[.val (.ref a1)] [])) (fun tt_ kk_ => st1 _ kk_) ?_
  refine Gq.retV X1 hx Bd.notSynchronized Bd.returns (hb hby d3_4) (by decide) (by decide) ?_
  show Q3 Z a1 h0 n0 _ T1.heap _
  rw [eh1]
  exact ⟨rfl, N0, rfl⟩
theorem d2_0 : decode jdk_39_method_1_code 0 = .ok (.aload_n 0, 1) := by decide +kernel
theorem d2_1 : decode jdk_39_method_1_code 1 = .ok (.invokespecial 1, 3) := by decide +kernel
theorem d2_4 : decode jdk_39_method_1_code 4 = .ok (.aload_n 0, 1) := by decide +kernel
theorem d2_5 : decode jdk_39_method_1_code 5 = .ok (.iconst 0, 1) := by decide +kernel
theorem d2_6 : decode jdk_39_method_1_code 6 = .ok (.putfield 7, 3) := by decide +kernel
theorem d2_9 : decode jdk_39_method_1_code 9 = .ok (.return_, 1) := by decide +kernel
theorem pd_0 : parseMethodDescriptor "()V" = some ⟨[], none⟩ := by decide +kernel
theorem pn_java_util_AbstractList : plainName "java/util/AbstractList" = true := by first | (simp [plainName, overriddenIn]; done) | decide +kernel
theorem ef2 (m : MethodId) (y0 : Addr) : entryFrame m #[(.ref y0)] 1 = mkF m 0 #[.val (.ref y0)] [] := by first | (simp [entryFrame, mkF, argsToLocals, Value.category]; done) | rfl
def Q2 (Z : State) (a1 : Addr) (h0 : Heap) (n0 : Nat) (v : Option Value) (h : Heap) (L : List Loc) : Prop := v = none ∧ Fr n0 L ∧ Keep h0 h [a1] ∧ Fld Z h a1 "java/util/AbstractList" "modCount" "I" (.int (0 : Int32)) ∧ Fld Z h a1 "java/util/ArrayList" "elementData" "[Ljava/lang/Object;" .null ∧ Fld Z h a1 "java/util/ArrayList" "size" "I" (.int (0 : Int32))
set_option maxRecDepth 65536 in
set_option maxHeartbeats 40000000 in
theorem rm2 (l : Launch) (Z : State) (a0 : Array Value) (hw : ∀ d ∈ tables_1, d.before a0 Z = true) (ws : List Jvm.Cond) (a1 : Addr) (h0 : Heap) (n0 : Nat) (Z0 : n0 ≤ h0.size) (Ea : Exa Z h0 a1 "java/util/ArrayList") (ga : n0 ≤ a1) (Fm : Fld Z h0 a1 "java/util/AbstractList" "modCount" "I" (.int (0 : Int32))) (Fe : Fld Z h0 a1 "java/util/ArrayList" "elementData" "[Ljava/lang/Object;" .null) (Fs : Fld Z h0 a1 "java/util/ArrayList" "size" "I" (.int (0 : Int32))) :
    MetFree l (⟨"java/util/AbstractList", "<init>", "()V"⟩ : MethodName) (head1 (Jvm.Cond.code (⟨"java/util/AbstractList", "<init>", "()V"⟩ : MethodName) jdk_39_method_1_code 1 none :: ws) ({ frames := 2, cells := 0, slots := 0, locals := 24 } : Room)) (fun a U => a = #[(.ref a1)] ∧ Z.Warmed39 U.vm ∧ U.heap = h0) (fun _ _ _ _ _ => True) (fun _ U o U' => ∃ v L, o = .returned v ∧ Q2 Z a1 h0 n0 v U'.heap L ∧ FrameEnd U o U' L ({ frames := 2, cells := 0, slots := 0, locals := 24 } : Room).cells ({ frames := 2, cells := 0, slots := 0, locals := 24 } : Room).slots) := by
  refine MetFree.of_bodySF (plainFor_of_name pn_java_util_AbstractList) hisR ?_
  intro p e s m args below meth c s₁ Bd hml0 hP hK
  obtain ⟨rfl, hZ, hh⟩ := hP
  have hx := Bd.exec
  have hby := Bd.bytes
  have hml : c.maxLocals = 1 := hml0
  have hown : s.vm.findClass "java/util/AbstractList" = some m.cls := findClass_of_methodNamed Bd.named
  have hnm := (name_of_methodNamed Bd.named Bd.method).1
  have X0 : Stand p l e ({ frames := 2, cells := 0, slots := 0, locals := 24 } : Room) s m #[(.ref a1)] below meth c s₁ [] 0 0 := Stand.of_body Bd
  have eh0 : s₁.heap = h0 := by rw [← hh, Bd.state]; rfl
  have N0 := Fr.nil n0
  refine Gq.start (Q := Q2 Z a1 h0 n0) (kc := ({ frames := 2, cells := 0, slots := 0, locals := 24 } : Room).cells) (ks := ({ frames := 2, cells := 0, slots := 0, locals := 24 } : Room).slots) (ef2 m a1) ?_
  refine Gq.go (s₁.setTop (mkF m 1 #[.val (.ref a1)] [(.ref a1)])) (fun tt_ kk_ => XS.aloadN X0.here hx rfl (hb hby d2_0) rfl rfl kk_) ?_
  obtain ⟨r1, T1, L1, X1, hQ1, st1⟩ := callI (pc := 1) (Ls := #[.val (.ref a1)]) X0 hx hZ hown eh0 a1 [] [] (hw _ (List.mem_of_getElem? (i := 12) rfl)) (hw _ (List.mem_of_getElem? (i := 13) rfl)) (hw _ (List.mem_of_getElem? (i := 16) rfl)) (hw _ (List.mem_of_getElem? (i := 17) rfl)) rfl (by decide) (rm3 l Z a0 hw [] a1 h0 n0 Z0) pd_0 rfl (by rw [hml]; rfl) (W := 0) (Nat.le_of_eq rfl) (by decide) (by decide) (by decide) (by decide) (hb hby d2_1)
  obtain ⟨rfl, N1q, eh1⟩ := hQ1
  have N1 := Fr.app N0 N1q
  refine Gq.go (T1.setTop (mkF m 4 #[.val (.ref a1)] [])) (fun tt_ kk_ => st1 tt_ kk_) ?_
  refine Gq.go (T1.setTop (mkF m 5 #[.val (.ref a1)] [(.ref a1)])) (fun tt_ kk_ => XS.aloadN X1.here hx rfl (hb hby d2_4) rfl rfl kk_) ?_
  refine Gq.go (T1.setTop (mkF m 6 #[.val (.ref a1)] [(.int (0 : Int32)), (.ref a1)])) (fun tt_ kk_ => XS.iconst X1.here hx rfl (hb hby d2_5) kk_) ?_
  obtain ⟨T2, h2, X2, eh2, W2, st2⟩ := putF X1 hx hZ hown (host := "") (Or.inl (hw _ (List.mem_of_getElem? (i := 21) rfl))) Via.refl eh1 Fm Ea (Or.inl (hw _ (List.mem_of_getElem? (i := 22) rfl))) (hw _ (List.mem_of_getElem? (i := 1) rfl)) (ty := .int) (by decide) rfl rfl (g := (mkF m 6 #[.val (.ref a1)] [(.int (0 : Int32)), (.ref a1)])) rfl rfl (hb hby d2_6)
  have Fw2 := Fm.same W2
  have fa3 := Ea.wr W2
  have fa4 := Fe.other W2 (Or.inr (slot_ne (Or.inl (hw _ (List.mem_of_getElem? (i := 25) rfl))) (Or.inl (hw _ (List.mem_of_getElem? (i := 22) rfl))) (by decide) (t := (.array (.object "java/lang/Object"))) (t' := .int) (by decide) (by decide)))
  have fa5 := Fs.other W2 (Or.inr (slot_ne (Or.inl (hw _ (List.mem_of_getElem? (i := 39) rfl))) (Or.inl (hw _ (List.mem_of_getElem? (i := 22) rfl))) (by decide) (t := .int) (t' := .int) (by decide) (by decide)))
  have ta6 := Nat.lt_of_lt_of_le Ea.lt (Nat.le_of_eq W2.size.symm)
  have za7 : n0 ≤ h2.size := Nat.le_trans Z0 (Nat.le_of_eq W2.size.symm)
  have Ka8 := (Keep.refl h0 [a1]).wr W2 (Or.inl (List.mem_of_getElem? (i := 0) rfl))
  have N2 := Fr.snoc X2 N1 ga
  refine Gq.go (T2.setTop (mkF m 9 #[.val (.ref a1)] [])) (fun tt_ kk_ => st2 _ kk_) ?_
  refine Gq.retV X2 hx Bd.notSynchronized Bd.returns (hb hby d2_9) (by decide) (by decide) ?_
  show Q2 Z a1 h0 n0 _ T2.heap _
  rw [eh2]
  exact ⟨rfl, N2, Ka8, Fw2, fa4, fa5⟩
theorem d1_0 : decode jdk_38_method_2_code 0 = .ok (.aload_n 0, 1) := by decide +kernel
theorem d1_1 : decode jdk_38_method_2_code 1 = .ok (.invokespecial 1, 3) := by decide +kernel
theorem d1_4 : decode jdk_38_method_2_code 4 = .ok (.aload_n 0, 1) := by decide +kernel
theorem d1_5 : decode jdk_38_method_2_code 5 = .ok (.getstatic 39, 3) := by decide +kernel
theorem d1_8 : decode jdk_38_method_2_code 8 = .ok (.putfield 9, 3) := by decide +kernel
theorem d1_11 : decode jdk_38_method_2_code 11 = .ok (.return_, 1) := by decide +kernel
theorem pn_java_util_ArrayList : plainName "java/util/ArrayList" = true := by first | (simp [plainName, overriddenIn]; done) | decide +kernel
theorem ef1 (m : MethodId) (y0 : Addr) : entryFrame m #[(.ref y0)] 1 = mkF m 0 #[.val (.ref y0)] [] := by first | (simp [entryFrame, mkF, argsToLocals, Value.category]; done) | rfl
def Q1 (Z : State) (a1 : Addr) (d0 : Addr) (h0 : Heap) (n0 : Nat) (v : Option Value) (h : Heap) (L : List Loc) : Prop := v = none ∧ Fr n0 L ∧ Keep h0 h [a1] ∧ Fld Z h a1 "java/util/AbstractList" "modCount" "I" (.int (0 : Int32)) ∧ Fld Z h a1 "java/util/ArrayList" "elementData" "[Ljava/lang/Object;" (.ref d0) ∧ Fld Z h a1 "java/util/ArrayList" "size" "I" (.int (0 : Int32))
set_option maxRecDepth 65536 in
set_option maxHeartbeats 40000000 in
theorem rm1 (l : Launch) (Z : State) (a0 : Array Value) (hw : ∀ d ∈ tables_1, d.before a0 Z = true) (ws : List Jvm.Cond) (a1 : Addr) (d0 : Addr) (h0 : Heap) (n0 : Nat) (Z0 : n0 ≤ h0.size) (Ea : Exa Z h0 a1 "java/util/ArrayList") (ga : n0 ≤ a1) (Fm : Fld Z h0 a1 "java/util/AbstractList" "modCount" "I" (.int (0 : Int32))) (Fe : Fld Z h0 a1 "java/util/ArrayList" "elementData" "[Ljava/lang/Object;" .null) (Fs : Fld Z h0 a1 "java/util/ArrayList" "size" "I" (.int (0 : Int32))) (Ol : Old Z n0 h0) (Sd : Sta Z Z.heap "java/util/ArrayList" "DEFAULTCAPACITY_EMPTY_ELEMENTDATA" "[Ljava/lang/Object;" (.ref d0)) :
    MetFree l (⟨"java/util/ArrayList", "<init>", "()V"⟩ : MethodName) (head1 (Jvm.Cond.code (⟨"java/util/ArrayList", "<init>", "()V"⟩ : MethodName) jdk_38_method_2_code 1 none :: ws) ({ frames := 3, cells := 0, slots := 0, locals := 36 } : Room)) (fun a U => a = #[(.ref a1)] ∧ Z.Warmed39 U.vm ∧ U.heap = h0) (fun _ _ _ _ _ => True) (fun _ U o U' => ∃ v L, o = .returned v ∧ Q1 Z a1 d0 h0 n0 v U'.heap L ∧ FrameEnd U o U' L ({ frames := 3, cells := 0, slots := 0, locals := 36 } : Room).cells ({ frames := 3, cells := 0, slots := 0, locals := 36 } : Room).slots) := by
  refine MetFree.of_bodySF (plainFor_of_name pn_java_util_ArrayList) hisR ?_
  intro p e s m args below meth c s₁ Bd hml0 hP hK
  obtain ⟨rfl, hZ, hh⟩ := hP
  have hx := Bd.exec
  have hby := Bd.bytes
  have hml : c.maxLocals = 1 := hml0
  have hown : s.vm.findClass "java/util/ArrayList" = some m.cls := findClass_of_methodNamed Bd.named
  have hnm := (name_of_methodNamed Bd.named Bd.method).1
  have X0 : Stand p l e ({ frames := 3, cells := 0, slots := 0, locals := 36 } : Room) s m #[(.ref a1)] below meth c s₁ [] 0 0 := Stand.of_body Bd
  have eh0 : s₁.heap = h0 := by rw [← hh, Bd.state]; rfl
  have N0 := Fr.nil n0
  refine Gq.start (Q := Q1 Z a1 d0 h0 n0) (kc := ({ frames := 3, cells := 0, slots := 0, locals := 36 } : Room).cells) (ks := ({ frames := 3, cells := 0, slots := 0, locals := 36 } : Room).slots) (ef1 m a1) ?_
  refine Gq.go (s₁.setTop (mkF m 1 #[.val (.ref a1)] [(.ref a1)])) (fun tt_ kk_ => XS.aloadN X0.here hx rfl (hb hby d1_0) rfl rfl kk_) ?_
  obtain ⟨r1, T1, L1, X1, hQ1, st1⟩ := callI (pc := 1) (Ls := #[.val (.ref a1)]) X0 hx hZ hown eh0 a1 [] [] (hw _ (List.mem_of_getElem? (i := 6) rfl)) (hw _ (List.mem_of_getElem? (i := 7) rfl)) (hw _ (List.mem_of_getElem? (i := 10) rfl)) (hw _ (List.mem_of_getElem? (i := 11) rfl)) rfl (by decide) (rm2 l Z a0 hw [] a1 h0 n0 Z0 Ea ga Fm Fe Fs) pd_0 rfl (by rw [hml]; rfl) (W := 0) (Nat.le_of_eq rfl) (by decide) (by decide) (by decide) (by decide) (hb hby d1_1)
  obtain ⟨rfl, N1q, Kc1, c1_0, c1_1, c1_2⟩ := hQ1
  have N1 := Fr.app N0 N1q
  have fa2 := Ea.keep Kc1
  have fa6 := Ol.keep Kc1 (allS ga all0)
  have ta7 := Nat.lt_of_lt_of_le Ea.lt Kc1.1
  have za8 : n0 ≤ T1.heap.size := Nat.le_trans Z0 Kc1.1
  have Ka9 := (Keep.refl h0 [a1]).trans Kc1 (allS (Or.inl (List.mem_of_getElem? (i := 0) rfl)) all0)
  refine Gq.go (T1.setTop (mkF m 4 #[.val (.ref a1)] [])) (fun tt_ kk_ => st1 tt_ kk_) ?_
  refine Gq.go (T1.setTop (mkF m 5 #[.val (.ref a1)] [(.ref a1)])) (fun tt_ kk_ => XS.aloadN X1.here hx rfl (hb hby d1_4) rfl rfl kk_) ?_
  obtain ⟨T10, X10, eh10, st10⟩ := getS2 X1 hx hZ hown (host := "") (Or.inl (hw _ (List.mem_of_getElem? (i := 23) rfl))) Via.refl rfl (Sta.ext fa6.2 Sd) (g := (mkF m 5 #[.val (.ref a1)] [(.ref a1)])) rfl (hb hby d1_5)
  refine Gq.go (T10.setTop (mkF m 8 #[.val (.ref a1)] [(.ref d0), (.ref a1)])) (fun tt_ kk_ => st10 _ kk_) ?_
  obtain ⟨T11, h11, X11, eh11, W11, st11⟩ := putF X10 hx hZ hown (host := "") (Or.inl (hw _ (List.mem_of_getElem? (i := 24) rfl))) Via.refl eh10 c1_1 fa2 (Or.inl (hw _ (List.mem_of_getElem? (i := 25) rfl))) (hw _ (List.mem_of_getElem? (i := 1) rfl)) (ty := (.array (.object "java/lang/Object"))) (by decide) rfl rfl (g := (mkF m 8 #[.val (.ref a1)] [(.ref d0), (.ref a1)])) rfl rfl (hb hby d1_8)
  have Fw11 := c1_1.same W11
  have fa12 := fa2.wr W11
  have fa13 := fa6.wr W11 ga
  have fa14 := c1_0.other W11 (Or.inr (slot_ne (Or.inl (hw _ (List.mem_of_getElem? (i := 22) rfl))) (Or.inl (hw _ (List.mem_of_getElem? (i := 25) rfl))) (by decide) (t := .int) (t' := (.array (.object "java/lang/Object"))) (by decide) (by decide)))
  have fa15 := c1_2.other W11 (Or.inr (slot_ne (Or.inl (hw _ (List.mem_of_getElem? (i := 39) rfl))) (Or.inl (hw _ (List.mem_of_getElem? (i := 25) rfl))) (by decide) (t := .int) (t' := (.array (.object "java/lang/Object"))) (by decide) (by decide)))
  have ta16 := Nat.lt_of_lt_of_le ta7 (Nat.le_of_eq W11.size.symm)
  have za17 : n0 ≤ h11.size := Nat.le_trans za8 (Nat.le_of_eq W11.size.symm)
  have Ka18 := Ka9.wr W11 (Or.inl (List.mem_of_getElem? (i := 0) rfl))
  have N11 := Fr.snoc X11 N1 ga
  refine Gq.go (T11.setTop (mkF m 11 #[.val (.ref a1)] [])) (fun tt_ kk_ => st11 _ kk_) ?_
  refine Gq.retV X11 hx Bd.notSynchronized Bd.returns (hb hby d1_11) (by decide) (by decide) ?_
  show Q1 Z a1 d0 h0 n0 _ T11.heap _
  rw [eh11]
  exact ⟨rfl, N11, Ka18, fa14, Fw11, fa15⟩
theorem d9_0 : decode jdk_38_method_6_code 0 = .ok (.aload_n 0, 1) := by decide +kernel
theorem d9_1 : decode jdk_38_method_6_code 1 = .ok (.getfield 9, 3) := by decide +kernel
theorem d9_4 : decode jdk_38_method_6_code 4 = .ok (.arraylength, 1) := by decide +kernel
theorem d9_5 : decode jdk_38_method_6_code 5 = .ok (.istore_n 2, 1) := by decide +kernel
theorem d9_6 : decode jdk_38_method_6_code 6 = .ok (.iload_n 2, 1) := by decide +kernel
theorem d9_7 : decode jdk_38_method_6_code 7 = .ok (.ifCond .gt 13, 3) := by decide +kernel
theorem d9_10 : decode jdk_38_method_6_code 10 = .ok (.aload_n 0, 1) := by decide +kernel
theorem d9_11 : decode jdk_38_method_6_code 11 = .ok (.getfield 9, 3) := by decide +kernel
theorem d9_14 : decode jdk_38_method_6_code 14 = .ok (.getstatic 39, 3) := by decide +kernel
theorem d9_17 : decode jdk_38_method_6_code 17 = .ok (.if_acmp .eq 28, 3) := by decide +kernel
theorem d9_45 : decode jdk_38_method_6_code 45 = .ok (.aload_n 0, 1) := by decide +kernel
theorem d9_46 : decode jdk_38_method_6_code 46 = .ok (.bipush 10, 2) := by decide +kernel
theorem d9_48 : decode jdk_38_method_6_code 48 = .ok (.iload_n 1, 1) := by decide +kernel
theorem d9_49 : decode jdk_38_method_6_code 49 = .ok (.invokestatic 79, 3) := by decide +kernel
theorem d9_52 : decode jdk_38_method_6_code 52 = .ok (.anewarray 7, 3) := by decide +kernel
theorem d9_55 : decode jdk_38_method_6_code 55 = .ok (.dup_x1, 1) := by decide +kernel
theorem d9_56 : decode jdk_38_method_6_code 56 = .ok (.putfield 9, 3) := by decide +kernel
theorem d9_59 : decode jdk_38_method_6_code 59 = .ok (.areturn, 1) := by decide +kernel
theorem pd_1 : parseMethodDescriptor "(II)I" = some ⟨[.int, .int], some .int⟩ := by decide +kernel
theorem ef9 (m : MethodId) (y0 : Addr) (y1 : Int32) : entryFrame m #[(.ref y0), (.int y1)] 4 = mkF m 0 #[.val (.ref y0), .val (.int y1), .unset, .unset] [] := by first | (simp [entryFrame, mkF, argsToLocals, Value.category]; done) | rfl
def Q9 (Z : State) (a1 : Addr) (d0 : Addr) (mc : Int32) (fd : Nat → Value) (h0 : Heap) (n0 : Nat) (v : Option Value) (h : Heap) (L : List Loc) : Prop := (∃ el : Addr, v = some (.ref el) ∧ n0 ≤ el ∧ h0.size ≤ el ∧ Fld Z h a1 "java/util/AbstractList" "modCount" "I" (.int mc) ∧ Fld Z h a1 "java/util/ArrayList" "elementData" "[Ljava/lang/Object;" (.ref el) ∧ Fld Z h a1 "java/util/ArrayList" "size" "I" (.int (0 : Int32)) ∧ RA Z h el 10 (gl [.null, .null, .null, .null, .null, .null, .null, .null, .null, .null] .null)) ∧ Fr n0 L ∧ Keep h0 h [a1]
set_option maxRecDepth 65536 in
set_option maxHeartbeats 40000000 in
theorem rm9 (l : Launch) (Z : State) (a0 : Array Value) (hw : ∀ d ∈ tables_1, d.before a0 Z = true) (ws : List Jvm.Cond) (a1 : Addr) (d0 : Addr) (mc : Int32) (fd : Nat → Value) (h0 : Heap) (n0 : Nat) (Z0 : n0 ≤ h0.size) (Ea : Exa Z h0 a1 "java/util/ArrayList") (ga : n0 ≤ a1) (Fm : Fld Z h0 a1 "java/util/AbstractList" "modCount" "I" (.int mc)) (Fe : Fld Z h0 a1 "java/util/ArrayList" "elementData" "[Ljava/lang/Object;" (.ref d0)) (Fs : Fld Z h0 a1 "java/util/ArrayList" "size" "I" (.int (0 : Int32))) (Ol : Old Z n0 h0) (Sd : Sta Z Z.heap "java/util/ArrayList" "DEFAULTCAPACITY_EMPTY_ELEMENTDATA" "[Ljava/lang/Object;" (.ref d0)) (Vd : LA Z h0 d0 (.object "java/lang/Object") 0 fd) (nda : d0 ≠ a1) :
    MetFree l (⟨"java/util/ArrayList", "grow", "(I)[Ljava/lang/Object;"⟩ : MethodName) (head1 (Jvm.Cond.code (⟨"java/util/ArrayList", "grow", "(I)[Ljava/lang/Object;"⟩ : MethodName) jdk_38_method_6_code 4 (some (.array (.object "java/lang/Object"))) :: ws) ({ frames := 1, cells := 1, slots := 10, locals := 14 } : Room)) (fun a U => a = #[(.ref a1), (.int (1 : Int32))] ∧ Z.Warmed39 U.vm ∧ U.heap = h0) (fun _ _ _ _ _ => True) (fun _ U o U' => ∃ v L, o = .returned v ∧ Q9 Z a1 d0 mc fd h0 n0 v U'.heap L ∧ FrameEnd U o U' L ({ frames := 1, cells := 1, slots := 10, locals := 14 } : Room).cells ({ frames := 1, cells := 1, slots := 10, locals := 14 } : Room).slots) := by
  refine MetFree.of_bodySF (plainFor_of_name pn_java_util_ArrayList) hisR ?_
  intro p e s m args below meth c s₁ Bd hml0 hP hK
  obtain ⟨rfl, hZ, hh⟩ := hP
  have hx := Bd.exec
  have hby := Bd.bytes
  have hml : c.maxLocals = 4 := hml0
  have hown : s.vm.findClass "java/util/ArrayList" = some m.cls := findClass_of_methodNamed Bd.named
  have hnm := (name_of_methodNamed Bd.named Bd.method).1
  have X0 : Stand p l e ({ frames := 1, cells := 1, slots := 10, locals := 14 } : Room) s m #[(.ref a1), (.int (1 : Int32))] below meth c s₁ [] 0 0 := Stand.of_body Bd
  have eh0 : s₁.heap = h0 := by rw [← hh, Bd.state]; rfl
  have N0 := Fr.nil n0
  refine Gq.start (Q := Q9 Z a1 d0 mc fd h0 n0) (kc := ({ frames := 1, cells := 1, slots := 10, locals := 14 } : Room).cells) (ks := ({ frames := 1, cells := 1, slots := 10, locals := 14 } : Room).slots) (ef9 m a1 (1 : Int32)) ?_
  refine Gq.go (s₁.setTop (mkF m 1 #[.val (.ref a1), .val (.int (1 : Int32)), .unset, .unset] [(.ref a1)])) (fun tt_ kk_ => XS.aloadN X0.here hx rfl (hb hby d9_0) rfl rfl kk_) ?_
  obtain ⟨T1, X1, eh1, st1⟩ := getF X0 hx hZ hown (host := "") (Or.inl (hw _ (List.mem_of_getElem? (i := 24) rfl))) Via.refl eh0 Fe (g := (mkF m 1 #[.val (.ref a1), .val (.int (1 : Int32)), .unset, .unset] [(.ref a1)])) rfl rfl (hb hby d9_1)
  refine Gq.go (T1.setTop (mkF m 4 #[.val (.ref a1), .val (.int (1 : Int32)), .unset, .unset] [(.ref d0)])) (fun tt_ kk_ => st1 _ kk_) ?_
  refine Gq.go (T1.setTop (mkF m 5 #[.val (.ref a1), .val (.int (1 : Int32)), .unset, .unset] [(.int (0 : Int32))])) (fun tt_ kk_ => lenA X1 hx hZ eh1 Vd (hb hby d9_4) tt_ kk_) ?_
  refine Gq.go (T1.setTop (mkF m 6 #[.val (.ref a1), .val (.int (1 : Int32)), .val (.int (0 : Int32)), .unset] [])) (fun tt_ kk_ => XS.istoreN X1.here hx rfl (hb hby d9_5) rfl (l' := #[.val (.ref a1), .val (.int (1 : Int32)), .val (.int (0 : Int32)), .unset]) rfl kk_) ?_
  refine Gq.go (T1.setTop (mkF m 7 #[.val (.ref a1), .val (.int (1 : Int32)), .val (.int (0 : Int32)), .unset] [(.int (0 : Int32))])) (fun tt_ kk_ => XS.iloadN X1.here hx rfl (hb hby d9_6) rfl kk_) ?_
  refine Gq.go (T1.setTop (mkF m 10 #[.val (.ref a1), .val (.int (1 : Int32)), .val (.int (0 : Int32)), .unset] [])) (fun tt_ kk_ => XS.ifNo X1.here hx rfl (hb hby d9_7) rfl ((if0 _ _).trans (flt (by decide : ¬ ((0 : Int32) < (0 : Int32)))).2.2.1) kk_) ?_
  refine Gq.go (T1.setTop (mkF m 11 #[.val (.ref a1), .val (.int (1 : Int32)), .val (.int (0 : Int32)), .unset] [(.ref a1)])) (fun tt_ kk_ => XS.aloadN X1.here hx rfl (hb hby d9_10) rfl rfl kk_) ?_
  obtain ⟨T2, X2, eh2, st2⟩ := getF X1 hx hZ hown (host := "") (Or.inl (hw _ (List.mem_of_getElem? (i := 24) rfl))) Via.refl eh1 Fe (g := (mkF m 11 #[.val (.ref a1), .val (.int (1 : Int32)), .val (.int (0 : Int32)), .unset] [(.ref a1)])) rfl rfl (hb hby d9_11)
  refine Gq.go (T2.setTop (mkF m 14 #[.val (.ref a1), .val (.int (1 : Int32)), .val (.int (0 : Int32)), .unset] [(.ref d0)])) (fun tt_ kk_ => st2 _ kk_) ?_
  obtain ⟨T3, X3, eh3, st3⟩ := getS2 X2 hx hZ hown (host := "") (Or.inl (hw _ (List.mem_of_getElem? (i := 23) rfl))) Via.refl eh2 (Sta.ext Ol.2 Sd) (g := (mkF m 14 #[.val (.ref a1), .val (.int (1 : Int32)), .val (.int (0 : Int32)), .unset] [(.ref d0)])) rfl (hb hby d9_14)
  refine Gq.go (T3.setTop (mkF m 17 #[.val (.ref a1), .val (.int (1 : Int32)), .val (.int (0 : Int32)), .unset] [(.ref d0), (.ref d0)])) (fun tt_ kk_ => st3 _ kk_) ?_
  refine Gq.go (T3.setTop (mkF m 45 #[.val (.ref a1), .val (.int (1 : Int32)), .val (.int (0 : Int32)), .unset] [])) (fun tt_ kk_ => Jvm.RoadKit.acmp (g := (mkF m 17 #[.val (.ref a1), .val (.int (1 : Int32)), .val (.int (0 : Int32)), .unset] [(.ref d0), (.ref d0)])) X3 hx rfl rfl rfl (pc0 := 17) (pc' := 45) (same := true) rfl (hb hby d9_17) rfl (decide_eq_true rfl) (by decide) (by decide) kk_) ?_
  refine Gq.go (T3.setTop (mkF m 46 #[.val (.ref a1), .val (.int (1 : Int32)), .val (.int (0 : Int32)), .unset] [(.ref a1)])) (fun tt_ kk_ => XS.aloadN X3.here hx rfl (hb hby d9_45) rfl rfl kk_) ?_
  refine Gq.go (T3.setTop (mkF m 48 #[.val (.ref a1), .val (.int (1 : Int32)), .val (.int (0 : Int32)), .unset] [(.int (10 : Int32)), (.ref a1)])) (fun tt_ kk_ => XS.bipush X3.here hx rfl (hb hby d9_46) kk_) ?_
  refine Gq.go (T3.setTop (mkF m 49 #[.val (.ref a1), .val (.int (1 : Int32)), .val (.int (0 : Int32)), .unset] [(.int (1 : Int32)), (.int (10 : Int32)), (.ref a1)])) (fun tt_ kk_ => XS.iloadN X3.here hx rfl (hb hby d9_48) rfl kk_) ?_
  obtain ⟨r4, T4, L4, X4, hQ4, st4⟩ := callT (pc := 49) (Ls := #[.val (.ref a1), .val (.int (1 : Int32)), .val (.int (0 : Int32)), .unset]) X3 hx hZ hown eh3 [(.int (10 : Int32)), (.int (1 : Int32))] [(.ref a1)] (hw _ (List.mem_of_getElem? (i := 55) rfl)) (hw _ (List.mem_of_getElem? (i := 56) rfl)) (hw _ (List.mem_of_getElem? (i := 57) rfl)) (hw _ (List.mem_of_getElem? (i := 58) rfl)) (by decide) (rm_own_max l Z a0 hw [] (10 : Int32) (1 : Int32) h0 n0 Z0) pd_1 rfl (by rw [hml]; rfl) (W := 1) (Nat.le_of_eq rfl) (by decide) (by decide) (by decide) (by decide) (hb hby d9_49)
  obtain ⟨rfl, N4q, eh4⟩ := hQ4
  have N4 := Fr.app N0 N4q
  refine Gq.go (T4.setTop (mkF m 52 #[.val (.ref a1), .val (.int (1 : Int32)), .val (.int (0 : Int32)), .unset] [(.int (own_max (10 : Int32) (1 : Int32))), (.ref a1)])) (fun tt_ kk_ => st4 tt_ kk_) ?_
  rw [show (own_max (10 : Int32) (1 : Int32)) = (10 : Int32) from (by decide)]
  obtain ⟨T5, h5, b5, X5, eh5, E5, aq5, V5, st5⟩ := mkR X4 hx hZ hown (hw _ (List.mem_of_getElem? (i := 59) rfl)) (hw _ (List.mem_of_getElem? (i := 60) rfl)) eh4 (z := (10 : Int32)) (n := 10) (Ls := #[.val (.ref a1), .val (.int (1 : Int32)), .val (.int (0 : Int32)), .unset]) (rest := [(.ref a1)]) (by decide) rfl (by decide) (by decide) (by decide) (hb hby d9_52)
  have g_b5 : n0 ≤ b5 := Nat.le_trans Z0 (Nat.le_of_eq aq5.symm)
  have sz_b5 : h0.size ≤ b5 := Nat.le_trans (Keep.refl h0 [a1]).1 (Nat.le_of_eq aq5.symm)
  have ne_a1_b5 : a1 ≠ b5 := Nat.ne_of_lt (Nat.lt_of_lt_of_le Ea.lt (Nat.le_of_eq aq5.symm))
  have ne_d0_b5 : d0 ≠ b5 := Nat.ne_of_lt (Nat.lt_of_lt_of_le Vd.lt (Nat.le_of_eq aq5.symm))
  have fa6 := Ea.ext E5
  have fa7 := Fm.ext E5
  have fa8 := Fe.ext E5
  have fa9 := Fs.ext E5
  have fa10 := Ol.ext E5
  have fa11 := Vd.ext E5
  have ta12 := Nat.lt_of_lt_of_le Ea.lt E5.1
  have ta13 := Nat.lt_of_lt_of_le Vd.lt E5.1
  have za14 : n0 ≤ h5.size := Nat.le_trans Z0 E5.1
  have Ka15 := (Keep.refl h0 [a1]).ext E5
  have V5' : RA Z h5 b5 10 (gl [.null, .null, .null, .null, .null, .null, .null, .null, .null, .null] .null) := V5.list
  have ta5' := V5'.lt
  refine Gq.go (T5.setTop (mkF m 55 #[.val (.ref a1), .val (.int (1 : Int32)), .val (.int (0 : Int32)), .unset] [(.ref b5), (.ref a1)])) (fun tt_ kk_ => st5 tt_ kk_) ?_
  refine Gq.go (T5.setTop (mkF m 56 #[.val (.ref a1), .val (.int (1 : Int32)), .val (.int (0 : Int32)), .unset] [(.ref b5), (.ref a1), (.ref b5)])) (fun tt_ kk_ => XS.dupX1 X5.here hx rfl (hb hby d9_55) rfl rfl rfl kk_) ?_
  obtain ⟨T16, h16, X16, eh16, W16, st16⟩ := putF X5 hx hZ hown (host := "") (Or.inl (hw _ (List.mem_of_getElem? (i := 24) rfl))) Via.refl eh5 fa8 fa6 (Or.inl (hw _ (List.mem_of_getElem? (i := 25) rfl))) (hw _ (List.mem_of_getElem? (i := 1) rfl)) (ty := (.array (.object "java/lang/Object"))) (by decide) rfl rfl (g := (mkF m 56 #[.val (.ref a1), .val (.int (1 : Int32)), .val (.int (0 : Int32)), .unset] [(.ref b5), (.ref a1), (.ref b5)])) rfl rfl (hb hby d9_56)
  have Fw16 := fa8.same W16
  have fa17 := fa6.wr W16
  have fa18 := fa7.other W16 (Or.inr (slot_ne (Or.inl (hw _ (List.mem_of_getElem? (i := 22) rfl))) (Or.inl (hw _ (List.mem_of_getElem? (i := 25) rfl))) (by decide) (t := .int) (t' := (.array (.object "java/lang/Object"))) (by decide) (by decide)))
  have fa19 := fa9.other W16 (Or.inr (slot_ne (Or.inl (hw _ (List.mem_of_getElem? (i := 39) rfl))) (Or.inl (hw _ (List.mem_of_getElem? (i := 25) rfl))) (by decide) (t := .int) (t' := (.array (.object "java/lang/Object"))) (by decide) (by decide)))
  have fa20 := fa10.wr W16 ga
  have fa21 := fa11.other W16 nda
  have fa22 := V5'.other W16 (Ne.symm ne_a1_b5)
  have ta23 := Nat.lt_of_lt_of_le ta12 (Nat.le_of_eq W16.size.symm)
  have ta24 := Nat.lt_of_lt_of_le ta13 (Nat.le_of_eq W16.size.symm)
  have ta25 := Nat.lt_of_lt_of_le ta5' (Nat.le_of_eq W16.size.symm)
  have za26 : n0 ≤ h16.size := Nat.le_trans za14 (Nat.le_of_eq W16.size.symm)
  have Ka27 := Ka15.wr W16 (Or.inl (List.mem_of_getElem? (i := 0) rfl))
  have N16 := Fr.snoc X16 N4 ga
  refine Gq.go (T16.setTop (mkF m 59 #[.val (.ref a1), .val (.int (1 : Int32)), .val (.int (0 : Int32)), .unset] [(.ref b5)])) (fun tt_ kk_ => st16 _ kk_) ?_
  refine Gq.retA X16 hx Bd.notSynchronized Bd.returns rfl rfl rfl (hb hby d9_59) (by decide) (by decide) ?_
  show Q9 Z a1 d0 mc fd h0 n0 _ T16.heap _
  rw [eh16]
  exact ⟨⟨b5, rfl, g_b5, sz_b5, fa18, Fw16, fa19, fa22⟩, N16, Ka27⟩
theorem d8_0 : decode jdk_38_method_7_code 0 = .ok (.aload_n 0, 1) := by decide +kernel
theorem d8_1 : decode jdk_38_method_7_code 1 = .ok (.aload_n 0, 1) := by decide +kernel
theorem d8_2 : decode jdk_38_method_7_code 2 = .ok (.getfield 48, 3) := by decide +kernel
theorem d8_5 : decode jdk_38_method_7_code 5 = .ok (.iconst 1, 1) := by decide +kernel
theorem d8_6 : decode jdk_38_method_7_code 6 = .ok (.iadd, 1) := by decide +kernel
theorem d8_7 : decode jdk_38_method_7_code 7 = .ok (.invokevirtual 69, 3) := by decide +kernel
theorem d8_10 : decode jdk_38_method_7_code 10 = .ok (.areturn, 1) := by decide +kernel
theorem pd_2 : parseMethodDescriptor "(I)[Ljava/lang/Object;" = some ⟨[.int], some (.array (.object "java/lang/Object"))⟩ := by decide +kernel
theorem ef8 (m : MethodId) (y0 : Addr) : entryFrame m #[(.ref y0)] 1 = mkF m 0 #[.val (.ref y0)] [] := by first | (simp [entryFrame, mkF, argsToLocals, Value.category]; done) | rfl
def Q8 (Z : State) (a1 : Addr) (d0 : Addr) (mc : Int32) (fd : Nat → Value) (h0 : Heap) (n0 : Nat) (v : Option Value) (h : Heap) (L : List Loc) : Prop := (∃ el : Addr, v = some (.ref el) ∧ n0 ≤ el ∧ h0.size ≤ el ∧ Fld Z h a1 "java/util/AbstractList" "modCount" "I" (.int mc) ∧ Fld Z h a1 "java/util/ArrayList" "elementData" "[Ljava/lang/Object;" (.ref el) ∧ Fld Z h a1 "java/util/ArrayList" "size" "I" (.int (0 : Int32)) ∧ RA Z h el 10 (gl [.null, .null, .null, .null, .null, .null, .null, .null, .null, .null] .null)) ∧ Fr n0 L ∧ Keep h0 h [a1]
set_option maxRecDepth 65536 in
set_option maxHeartbeats 40000000 in
theorem rm8 (l : Launch) (Z : State) (a0 : Array Value) (hw : ∀ d ∈ tables_1, d.before a0 Z = true) (ws : List Jvm.Cond) (a1 : Addr) (d0 : Addr) (mc : Int32) (fd : Nat → Value) (h0 : Heap) (n0 : Nat) (Z0 : n0 ≤ h0.size) (Ea : Exa Z h0 a1 "java/util/ArrayList") (ga : n0 ≤ a1) (Fm : Fld Z h0 a1 "java/util/AbstractList" "modCount" "I" (.int mc)) (Fe : Fld Z h0 a1 "java/util/ArrayList" "elementData" "[Ljava/lang/Object;" (.ref d0)) (Fs : Fld Z h0 a1 "java/util/ArrayList" "size" "I" (.int (0 : Int32))) (Ol : Old Z n0 h0) (Sd : Sta Z Z.heap "java/util/ArrayList" "DEFAULTCAPACITY_EMPTY_ELEMENTDATA" "[Ljava/lang/Object;" (.ref d0)) (Vd : LA Z h0 d0 (.object "java/lang/Object") 0 fd) (nda : d0 ≠ a1) :
    MetFree l (⟨"java/util/ArrayList", "grow", "()[Ljava/lang/Object;"⟩ : MethodName) (head1 (Jvm.Cond.code (⟨"java/util/ArrayList", "grow", "()[Ljava/lang/Object;"⟩ : MethodName) jdk_38_method_7_code 1 (some (.array (.object "java/lang/Object"))) :: ws) ({ frames := 2, cells := 1, slots := 10, locals := 29 } : Room)) (fun a U => a = #[(.ref a1)] ∧ Z.Warmed39 U.vm ∧ U.heap = h0) (fun _ _ _ _ _ => True) (fun _ U o U' => ∃ v L, o = .returned v ∧ Q8 Z a1 d0 mc fd h0 n0 v U'.heap L ∧ FrameEnd U o U' L ({ frames := 2, cells := 1, slots := 10, locals := 29 } : Room).cells ({ frames := 2, cells := 1, slots := 10, locals := 29 } : Room).slots) := by
  refine MetFree.of_bodySF (plainFor_of_name pn_java_util_ArrayList) hisR ?_
  intro p e s m args below meth c s₁ Bd hml0 hP hK
  obtain ⟨rfl, hZ, hh⟩ := hP
  have hx := Bd.exec
  have hby := Bd.bytes
  have hml : c.maxLocals = 1 := hml0
  have hown : s.vm.findClass "java/util/ArrayList" = some m.cls := findClass_of_methodNamed Bd.named
  have hnm := (name_of_methodNamed Bd.named Bd.method).1
  have X0 : Stand p l e ({ frames := 2, cells := 1, slots := 10, locals := 29 } : Room) s m #[(.ref a1)] below meth c s₁ [] 0 0 := Stand.of_body Bd
  have eh0 : s₁.heap = h0 := by rw [← hh, Bd.state]; rfl
  have N0 := Fr.nil n0
  refine Gq.start (Q := Q8 Z a1 d0 mc fd h0 n0) (kc := ({ frames := 2, cells := 1, slots := 10, locals := 29 } : Room).cells) (ks := ({ frames := 2, cells := 1, slots := 10, locals := 29 } : Room).slots) (ef8 m a1) ?_
  refine Gq.go (s₁.setTop (mkF m 1 #[.val (.ref a1)] [(.ref a1)])) (fun tt_ kk_ => XS.aloadN X0.here hx rfl (hb hby d8_0) rfl rfl kk_) ?_
  refine Gq.go (s₁.setTop (mkF m 2 #[.val (.ref a1)] [(.ref a1), (.ref a1)])) (fun tt_ kk_ => XS.aloadN X0.here hx rfl (hb hby d8_1) rfl rfl kk_) ?_
  obtain ⟨T1, X1, eh1, st1⟩ := getF X0 hx hZ hown (host := "") (Or.inl (hw _ (List.mem_of_getElem? (i := 38) rfl))) Via.refl eh0 Fs (g := (mkF m 2 #[.val (.ref a1)] [(.ref a1), (.ref a1)])) rfl rfl (hb hby d8_2)
  refine Gq.go (T1.setTop (mkF m 5 #[.val (.ref a1)] [(.int (0 : Int32)), (.ref a1)])) (fun tt_ kk_ => st1 _ kk_) ?_
  refine Gq.go (T1.setTop (mkF m 6 #[.val (.ref a1)] [(.int (1 : Int32)), (.int (0 : Int32)), (.ref a1)])) (fun tt_ kk_ => XS.iconst X1.here hx rfl (hb hby d8_5) kk_) ?_
  refine Gq.go (T1.setTop (mkF m 7 #[.val (.ref a1)] [(.int (1 : Int32)), (.ref a1)])) (fun tt_ kk_ => XS.iadd X1.here hx rfl (hb hby d8_6) rfl kk_) ?_
  obtain ⟨r2, T2, L2, X2, hQ2, st2⟩ := callP (pc := 7) (Ls := #[.val (.ref a1)]) X1 hx hZ hown eh1 a1 [(.int (1 : Int32))] [] Ea (hw _ (List.mem_of_getElem? (i := 50) rfl)) (hw _ (List.mem_of_getElem? (i := 51) rfl)) (hw _ (List.mem_of_getElem? (i := 53) rfl)) (hw _ (List.mem_of_getElem? (i := 52) rfl)) (hw _ (List.mem_of_getElem? (i := 2) rfl)) (hw _ (List.mem_of_getElem? (i := 54) rfl)) (by decide) (rm9 l Z a0 hw [] a1 d0 mc fd h0 n0 Z0 Ea ga Fm Fe Fs Ol Sd Vd nda) pd_2 rfl (by rw [hml]; rfl) (W := 0) (Nat.le_of_eq rfl) (by decide) (by decide) (by decide) (by decide) (hb hby d8_7)
  obtain ⟨⟨el2, rfl, gel2, szel2, c2_0, c2_1, c2_2, c2_3⟩, N2q, Kc2⟩ := hQ2
  have N2 := Fr.app N0 N2q
  have ne_a1_el2 : a1 ≠ el2 := Nat.ne_of_lt (Nat.lt_of_lt_of_le Ea.lt szel2)
  have ne_d0_el2 : d0 ≠ el2 := Nat.ne_of_lt (Nat.lt_of_lt_of_le Vd.lt szel2)
  have szh2 : h0.size ≤ el2 := Nat.le_trans (Keep.refl h0 [a1]).1 szel2
  have fa3 := Ea.keep Kc2
  have fa7 := Ol.keep Kc2 (allS ga all0)
  have fa8 := Vd.keep Kc2 (ninS nda nin0)
  have ta9 := Nat.lt_of_lt_of_le Ea.lt Kc2.1
  have ta10 := Nat.lt_of_lt_of_le Vd.lt Kc2.1
  have za11 : n0 ≤ T2.heap.size := Nat.le_trans Z0 Kc2.1
  have Ka12 := (Keep.refl h0 [a1]).trans Kc2 (allS (Or.inl (List.mem_of_getElem? (i := 0) rfl)) all0)
  have tael2 := c2_3.lt
  refine Gq.go (T2.setTop (mkF m 10 #[.val (.ref a1)] [(.ref el2)])) (fun tt_ kk_ => st2 tt_ kk_) ?_
  refine Gq.retA X2 hx Bd.notSynchronized Bd.returns rfl rfl rfl (hb hby d8_10) (by decide) (by decide) ?_
  show Q8 Z a1 d0 mc fd h0 n0 _ T2.heap _
  exact ⟨⟨el2, rfl, gel2, szh2, c2_0, c2_1, c2_2, c2_3⟩, N2, Ka12⟩
theorem d7_0 : decode jdk_38_method_24_code 0 = .ok (.iload_n 3, 1) := by decide +kernel
theorem d7_1 : decode jdk_38_method_24_code 1 = .ok (.aload_n 2, 1) := by decide +kernel
theorem d7_2 : decode jdk_38_method_24_code 2 = .ok (.arraylength, 1) := by decide +kernel
theorem d7_3 : decode jdk_38_method_24_code 3 = .ok (.if_icmp .ne 8, 3) := by decide +kernel
theorem d7_6 : decode jdk_38_method_24_code 6 = .ok (.aload_n 0, 1) := by decide +kernel
theorem d7_7 : decode jdk_38_method_24_code 7 = .ok (.invokevirtual 129, 3) := by decide +kernel
theorem d7_10 : decode jdk_38_method_24_code 10 = .ok (.astore_n 2, 1) := by decide +kernel
theorem d7_11 : decode jdk_38_method_24_code 11 = .ok (.aload_n 2, 1) := by decide +kernel
theorem d7_12 : decode jdk_38_method_24_code 12 = .ok (.iload_n 3, 1) := by decide +kernel
theorem d7_13 : decode jdk_38_method_24_code 13 = .ok (.aload_n 1, 1) := by decide +kernel
theorem d7_14 : decode jdk_38_method_24_code 14 = .ok (.aastore, 1) := by decide +kernel
theorem d7_15 : decode jdk_38_method_24_code 15 = .ok (.aload_n 0, 1) := by decide +kernel
theorem d7_16 : decode jdk_38_method_24_code 16 = .ok (.iload_n 3, 1) := by decide +kernel
theorem d7_17 : decode jdk_38_method_24_code 17 = .ok (.iconst 1, 1) := by decide +kernel
theorem d7_18 : decode jdk_38_method_24_code 18 = .ok (.iadd, 1) := by decide +kernel
theorem d7_19 : decode jdk_38_method_24_code 19 = .ok (.putfield 48, 3) := by decide +kernel
theorem d7_22 : decode jdk_38_method_24_code 22 = .ok (.return_, 1) := by decide +kernel
theorem pd_3 : parseMethodDescriptor "()[Ljava/lang/Object;" = some ⟨[], some (.array (.object "java/lang/Object"))⟩ := by decide +kernel
theorem ef24a (m : MethodId) (y0 : Addr) (y1 : Addr) (y2 : Addr) (y3 : Int32) : entryFrame m #[(.ref y0), (.ref y1), (.ref y2), (.int y3)] 4 = mkF m 0 #[.val (.ref y0), .val (.ref y1), .val (.ref y2), .val (.int y3)] [] := by first | (simp [entryFrame, mkF, argsToLocals, Value.category]; done) | rfl
def Q24a (Z : State) (a1 : Addr) (d0 : Addr) (mc : Int32) (fd : Nat → Value) (y : Addr) (h0 : Heap) (n0 : Nat) (v : Option Value) (h : Heap) (L : List Loc) : Prop := (∃ el : Addr, v = none ∧ n0 ≤ el ∧ h0.size ≤ el ∧ Fld Z h a1 "java/util/AbstractList" "modCount" "I" (.int mc) ∧ Fld Z h a1 "java/util/ArrayList" "elementData" "[Ljava/lang/Object;" (.ref el) ∧ Fld Z h a1 "java/util/ArrayList" "size" "I" (.int (1 : Int32)) ∧ RA Z h el 10 (gl [(.ref y), .null, .null, .null, .null, .null, .null, .null, .null, .null] .null)) ∧ Fr n0 L ∧ Keep h0 h [a1]
set_option maxRecDepth 65536 in
set_option maxHeartbeats 40000000 in
theorem rm24a (l : Launch) (Z : State) (a0 : Array Value) (hw : ∀ d ∈ tables_1, d.before a0 Z = true) (ws : List Jvm.Cond) (a1 : Addr) (d0 : Addr) (mc : Int32) (fd : Nat → Value) (y : Addr) (h0 : Heap) (n0 : Nat) (Z0 : n0 ≤ h0.size) (Ea : Exa Z h0 a1 "java/util/ArrayList") (ga : n0 ≤ a1) (Fm : Fld Z h0 a1 "java/util/AbstractList" "modCount" "I" (.int mc)) (Fe : Fld Z h0 a1 "java/util/ArrayList" "elementData" "[Ljava/lang/Object;" (.ref d0)) (Fs : Fld Z h0 a1 "java/util/ArrayList" "size" "I" (.int (0 : Int32))) (Ol : Old Z n0 h0) (Sd : Sta Z Z.heap "java/util/ArrayList" "DEFAULTCAPACITY_EMPTY_ELEMENTDATA" "[Ljava/lang/Object;" (.ref d0)) (Vd : LA Z h0 d0 (.object "java/lang/Object") 0 fd) (nda : d0 ≠ a1) (Ey : Exa Z h0 y "[I") :
    MetFree l (⟨"java/util/ArrayList", "add", "(Ljava/lang/Object;[Ljava/lang/Object;I)V"⟩ : MethodName) (head1 (Jvm.Cond.code (⟨"java/util/ArrayList", "add", "(Ljava/lang/Object;[Ljava/lang/Object;I)V"⟩ : MethodName) jdk_38_method_24_code 4 none :: ws) ({ frames := 3, cells := 1, slots := 10, locals := 41 } : Room)) (fun a U => a = #[(.ref a1), (.ref y), (.ref d0), (.int (0 : Int32))] ∧ Z.Warmed39 U.vm ∧ U.heap = h0) (fun _ _ _ _ _ => True) (fun _ U o U' => ∃ v L, o = .returned v ∧ Q24a Z a1 d0 mc fd y h0 n0 v U'.heap L ∧ FrameEnd U o U' L ({ frames := 3, cells := 1, slots := 10, locals := 41 } : Room).cells ({ frames := 3, cells := 1, slots := 10, locals := 41 } : Room).slots) := by
  refine MetFree.of_bodySF (plainFor_of_name pn_java_util_ArrayList) hisR ?_
  intro p e s m args below meth c s₁ Bd hml0 hP hK
  obtain ⟨rfl, hZ, hh⟩ := hP
  have hx := Bd.exec
  have hby := Bd.bytes
  have hml : c.maxLocals = 4 := hml0
  have hown : s.vm.findClass "java/util/ArrayList" = some m.cls := findClass_of_methodNamed Bd.named
  have hnm := (name_of_methodNamed Bd.named Bd.method).1
  have X0 : Stand p l e ({ frames := 3, cells := 1, slots := 10, locals := 41 } : Room) s m #[(.ref a1), (.ref y), (.ref d0), (.int (0 : Int32))] below meth c s₁ [] 0 0 := Stand.of_body Bd
  have eh0 : s₁.heap = h0 := by rw [← hh, Bd.state]; rfl
  have N0 := Fr.nil n0
  refine Gq.start (Q := Q24a Z a1 d0 mc fd y h0 n0) (kc := ({ frames := 3, cells := 1, slots := 10, locals := 41 } : Room).cells) (ks := ({ frames := 3, cells := 1, slots := 10, locals := 41 } : Room).slots) (ef24a m a1 y d0 (0 : Int32)) ?_
  refine Gq.go (s₁.setTop (mkF m 1 #[.val (.ref a1), .val (.ref y), .val (.ref d0), .val (.int (0 : Int32))] [(.int (0 : Int32))])) (fun tt_ kk_ => XS.iloadN X0.here hx rfl (hb hby d7_0) rfl kk_) ?_
  refine Gq.go (s₁.setTop (mkF m 2 #[.val (.ref a1), .val (.ref y), .val (.ref d0), .val (.int (0 : Int32))] [(.ref d0), (.int (0 : Int32))])) (fun tt_ kk_ => XS.aloadN X0.here hx rfl (hb hby d7_1) rfl rfl kk_) ?_
  refine Gq.go (s₁.setTop (mkF m 3 #[.val (.ref a1), .val (.ref y), .val (.ref d0), .val (.int (0 : Int32))] [(.int (0 : Int32)), (.int (0 : Int32))])) (fun tt_ kk_ => lenA X0 hx hZ eh0 Vd (hb hby d7_2) tt_ kk_) ?_
  refine Gq.go (s₁.setTop (mkF m 6 #[.val (.ref a1), .val (.ref y), .val (.ref d0), .val (.int (0 : Int32))] [])) (fun tt_ kk_ => XS.icmpNo X0.here hx rfl (hb hby d7_3) rfl (teq (by decide : ((0 : Int32) = (0 : Int32)))).2 kk_) ?_
  refine Gq.go (s₁.setTop (mkF m 7 #[.val (.ref a1), .val (.ref y), .val (.ref d0), .val (.int (0 : Int32))] [(.ref a1)])) (fun tt_ kk_ => XS.aloadN X0.here hx rfl (hb hby d7_6) rfl rfl kk_) ?_
  obtain ⟨r1, T1, L1, X1, hQ1, st1⟩ := callP (pc := 7) (Ls := #[.val (.ref a1), .val (.ref y), .val (.ref d0), .val (.int (0 : Int32))]) X0 hx hZ hown eh0 a1 [] [] Ea (hw _ (List.mem_of_getElem? (i := 45) rfl)) (hw _ (List.mem_of_getElem? (i := 46) rfl)) (hw _ (List.mem_of_getElem? (i := 48) rfl)) (hw _ (List.mem_of_getElem? (i := 47) rfl)) (hw _ (List.mem_of_getElem? (i := 2) rfl)) (hw _ (List.mem_of_getElem? (i := 49) rfl)) (by decide) (rm8 l Z a0 hw [] a1 d0 mc fd h0 n0 Z0 Ea ga Fm Fe Fs Ol Sd Vd nda) pd_3 rfl (by rw [hml]; rfl) (W := 0) (Nat.le_of_eq rfl) (by decide) (by decide) (by decide) (by decide) (hb hby d7_7)
  obtain ⟨⟨el1, rfl, gel1, szel1, c1_0, c1_1, c1_2, c1_3⟩, N1q, Kc1⟩ := hQ1
  have N1 := Fr.app N0 N1q
  have ne_a1_el1 : a1 ≠ el1 := Nat.ne_of_lt (Nat.lt_of_lt_of_le Ea.lt szel1)
  have ne_d0_el1 : d0 ≠ el1 := Nat.ne_of_lt (Nat.lt_of_lt_of_le Vd.lt szel1)
  have szh1 : h0.size ≤ el1 := Nat.le_trans (Keep.refl h0 [a1]).1 szel1
  have fa2 := Ea.keep Kc1
  have fa6 := Ol.keep Kc1 (allS ga all0)
  have fa7 := Vd.keep Kc1 (ninS nda nin0)
  have fa8 := Ey.keep Kc1
  have ta9 := Nat.lt_of_lt_of_le Ea.lt Kc1.1
  have ta10 := Nat.lt_of_lt_of_le Vd.lt Kc1.1
  have za11 : n0 ≤ T1.heap.size := Nat.le_trans Z0 Kc1.1
  have Ka12 := (Keep.refl h0 [a1]).trans Kc1 (allS (Or.inl (List.mem_of_getElem? (i := 0) rfl)) all0)
  have tael1 := c1_3.lt
  refine Gq.go (T1.setTop (mkF m 10 #[.val (.ref a1), .val (.ref y), .val (.ref d0), .val (.int (0 : Int32))] [(.ref el1)])) (fun tt_ kk_ => st1 tt_ kk_) ?_
  refine Gq.go (T1.setTop (mkF m 11 #[.val (.ref a1), .val (.ref y), .val (.ref el1), .val (.int (0 : Int32))] [])) (fun tt_ kk_ => XS.astoreN X1.here hx rfl (hb hby d7_10) rfl rfl (l' := #[.val (.ref a1), .val (.ref y), .val (.ref el1), .val (.int (0 : Int32))]) rfl kk_) ?_
  refine Gq.go (T1.setTop (mkF m 12 #[.val (.ref a1), .val (.ref y), .val (.ref el1), .val (.int (0 : Int32))] [(.ref el1)])) (fun tt_ kk_ => XS.aloadN X1.here hx rfl (hb hby d7_11) rfl rfl kk_) ?_
  refine Gq.go (T1.setTop (mkF m 13 #[.val (.ref a1), .val (.ref y), .val (.ref el1), .val (.int (0 : Int32))] [(.int (0 : Int32)), (.ref el1)])) (fun tt_ kk_ => XS.iloadN X1.here hx rfl (hb hby d7_12) rfl kk_) ?_
  refine Gq.go (T1.setTop (mkF m 14 #[.val (.ref a1), .val (.ref y), .val (.ref el1), .val (.int (0 : Int32))] [(.ref y), (.int (0 : Int32)), (.ref el1)])) (fun tt_ kk_ => XS.aloadN X1.here hx rfl (hb hby d7_13) rfl rfl kk_) ?_
  obtain ⟨T13, h13, X13, eh13, W13, st13⟩ := stoR X1 hx hZ rfl c1_3 (Ins.of_exa fa8 (hw _ (List.mem_of_getElem? (i := 61) rfl))) (j := (0 : Int32)) (i := 0) (Ls := #[.val (.ref a1), .val (.ref y), .val (.ref el1), .val (.int (0 : Int32))]) (rest := []) (by decide) rfl (by decide) (hb hby d7_14)
  have fa14 := fa2.wr W13
  have fa15 := fa6.wr W13 gel1
  have fa16 := fa7.other W13 ne_d0_el1
  have fa17 := fa8.wr W13
  have fa18 := c1_0.other W13 (Or.inl ne_a1_el1)
  have fa19 := c1_1.other W13 (Or.inl ne_a1_el1)
  have fa20 := c1_2.other W13 (Or.inl ne_a1_el1)
  have ta21 := Nat.lt_of_lt_of_le ta9 (Nat.le_of_eq W13.size.symm)
  have ta22 := Nat.lt_of_lt_of_le ta10 (Nat.le_of_eq W13.size.symm)
  have ta23 := Nat.lt_of_lt_of_le tael1 (Nat.le_of_eq W13.size.symm)
  have za24 : n0 ≤ h13.size := Nat.le_trans za11 (Nat.le_of_eq W13.size.symm)
  have V13 : RA Z h13 el1 10 (gl [(.ref y), .null, .null, .null, .null, .null, .null, .null, .null, .null] .null) := c1_3.setL W13 (Nat.le_of_ble_eq_true rfl)
  have Ka25 := Ka12.wr W13 (Or.inr szh1)
  have N13 := Fr.snoc X13 N1 gel1
  refine Gq.go (T13.setTop (mkF m 15 #[.val (.ref a1), .val (.ref y), .val (.ref el1), .val (.int (0 : Int32))] [])) (fun tt_ kk_ => st13 tt_ kk_) ?_
  refine Gq.go (T13.setTop (mkF m 16 #[.val (.ref a1), .val (.ref y), .val (.ref el1), .val (.int (0 : Int32))] [(.ref a1)])) (fun tt_ kk_ => XS.aloadN X13.here hx rfl (hb hby d7_15) rfl rfl kk_) ?_
  refine Gq.go (T13.setTop (mkF m 17 #[.val (.ref a1), .val (.ref y), .val (.ref el1), .val (.int (0 : Int32))] [(.int (0 : Int32)), (.ref a1)])) (fun tt_ kk_ => XS.iloadN X13.here hx rfl (hb hby d7_16) rfl kk_) ?_
  refine Gq.go (T13.setTop (mkF m 18 #[.val (.ref a1), .val (.ref y), .val (.ref el1), .val (.int (0 : Int32))] [(.int (1 : Int32)), (.int (0 : Int32)), (.ref a1)])) (fun tt_ kk_ => XS.iconst X13.here hx rfl (hb hby d7_17) kk_) ?_
  refine Gq.go (T13.setTop (mkF m 19 #[.val (.ref a1), .val (.ref y), .val (.ref el1), .val (.int (0 : Int32))] [(.int (1 : Int32)), (.ref a1)])) (fun tt_ kk_ => XS.iadd X13.here hx rfl (hb hby d7_18) rfl kk_) ?_
  obtain ⟨T26, h26, X26, eh26, W26, st26⟩ := putF X13 hx hZ hown (host := "") (Or.inl (hw _ (List.mem_of_getElem? (i := 38) rfl))) Via.refl eh13 fa20 fa14 (Or.inl (hw _ (List.mem_of_getElem? (i := 39) rfl))) (hw _ (List.mem_of_getElem? (i := 1) rfl)) (ty := .int) (by decide) rfl rfl (g := (mkF m 19 #[.val (.ref a1), .val (.ref y), .val (.ref el1), .val (.int (0 : Int32))] [(.int (1 : Int32)), (.ref a1)])) rfl rfl (hb hby d7_19)
  have Fw26 := fa20.same W26
  have fa27 := fa14.wr W26
  have fa28 := fa15.wr W26 ga
  have fa29 := fa16.other W26 nda
  have fa30 := fa17.wr W26
  have fa31 := fa18.other W26 (Or.inr (slot_ne (Or.inl (hw _ (List.mem_of_getElem? (i := 22) rfl))) (Or.inl (hw _ (List.mem_of_getElem? (i := 39) rfl))) (by decide) (t := .int) (t' := .int) (by decide) (by decide)))
  have fa32 := fa19.other W26 (Or.inr (slot_ne (Or.inl (hw _ (List.mem_of_getElem? (i := 25) rfl))) (Or.inl (hw _ (List.mem_of_getElem? (i := 39) rfl))) (by decide) (t := (.array (.object "java/lang/Object"))) (t' := .int) (by decide) (by decide)))
  have fa33 := V13.other W26 (Ne.symm ne_a1_el1)
  have ta34 := Nat.lt_of_lt_of_le ta21 (Nat.le_of_eq W26.size.symm)
  have ta35 := Nat.lt_of_lt_of_le ta22 (Nat.le_of_eq W26.size.symm)
  have ta36 := Nat.lt_of_lt_of_le ta23 (Nat.le_of_eq W26.size.symm)
  have za37 : n0 ≤ h26.size := Nat.le_trans za24 (Nat.le_of_eq W26.size.symm)
  have Ka38 := Ka25.wr W26 (Or.inl (List.mem_of_getElem? (i := 0) rfl))
  have N26 := Fr.snoc X26 N13 ga
  refine Gq.go (T26.setTop (mkF m 22 #[.val (.ref a1), .val (.ref y), .val (.ref el1), .val (.int (0 : Int32))] [])) (fun tt_ kk_ => st26 _ kk_) ?_
  refine Gq.retV X26 hx Bd.notSynchronized Bd.returns (hb hby d7_22) (by decide) (by decide) ?_
  show Q24a Z a1 d0 mc fd y h0 n0 _ T26.heap _
  rw [eh26]
  exact ⟨⟨el1, rfl, gel1, szh1, fa31, fa32, Fw26, fa33⟩, N26, Ka38⟩
theorem d6_0 : decode jdk_38_method_25_code 0 = .ok (.aload_n 0, 1) := by decide +kernel
theorem d6_1 : decode jdk_38_method_25_code 1 = .ok (.dup, 1) := by decide +kernel
theorem d6_2 : decode jdk_38_method_25_code 2 = .ok (.getfield 63, 3) := by decide +kernel
theorem d6_5 : decode jdk_38_method_25_code 5 = .ok (.iconst 1, 1) := by decide +kernel
theorem d6_6 : decode jdk_38_method_25_code 6 = .ok (.iadd, 1) := by decide +kernel
theorem d6_7 : decode jdk_38_method_25_code 7 = .ok (.putfield 63, 3) := by decide +kernel
theorem d6_10 : decode jdk_38_method_25_code 10 = .ok (.aload_n 0, 1) := by decide +kernel
theorem d6_11 : decode jdk_38_method_25_code 11 = .ok (.aload_n 1, 1) := by decide +kernel
theorem d6_12 : decode jdk_38_method_25_code 12 = .ok (.aload_n 0, 1) := by decide +kernel
theorem d6_13 : decode jdk_38_method_25_code 13 = .ok (.getfield 9, 3) := by decide +kernel
theorem d6_16 : decode jdk_38_method_25_code 16 = .ok (.aload_n 0, 1) := by decide +kernel
theorem d6_17 : decode jdk_38_method_25_code 17 = .ok (.getfield 48, 3) := by decide +kernel
theorem d6_20 : decode jdk_38_method_25_code 20 = .ok (.invokevirtual 131, 3) := by decide +kernel
theorem d6_23 : decode jdk_38_method_25_code 23 = .ok (.iconst 1, 1) := by decide +kernel
theorem d6_24 : decode jdk_38_method_25_code 24 = .ok (.ireturn, 1) := by decide +kernel
theorem pd_4 : parseMethodDescriptor "(Ljava/lang/Object;[Ljava/lang/Object;I)V" = some ⟨[(.object "java/lang/Object"), (.array (.object "java/lang/Object")), .int], none⟩ := by decide +kernel
theorem ef25a (m : MethodId) (y0 : Addr) (y1 : Addr) : entryFrame m #[(.ref y0), (.ref y1)] 2 = mkF m 0 #[.val (.ref y0), .val (.ref y1)] [] := by first | (simp [entryFrame, mkF, argsToLocals, Value.category]; done) | rfl
def Q25a (Z : State) (a1 : Addr) (d0 : Addr) (mc : Int32) (fd : Nat → Value) (y : Addr) (h0 : Heap) (n0 : Nat) (v : Option Value) (h : Heap) (L : List Loc) : Prop := (∃ el : Addr, v = some (.int (1 : Int32)) ∧ n0 ≤ el ∧ h0.size ≤ el ∧ Fld Z h a1 "java/util/AbstractList" "modCount" "I" (.int (mc + (1 : Int32))) ∧ Fld Z h a1 "java/util/ArrayList" "elementData" "[Ljava/lang/Object;" (.ref el) ∧ Fld Z h a1 "java/util/ArrayList" "size" "I" (.int (1 : Int32)) ∧ RA Z h el 10 (gl [(.ref y), .null, .null, .null, .null, .null, .null, .null, .null, .null] .null)) ∧ Fr n0 L ∧ Keep h0 h [a1]
set_option maxRecDepth 65536 in
set_option maxHeartbeats 40000000 in
theorem rm25a (l : Launch) (Z : State) (a0 : Array Value) (hw : ∀ d ∈ tables_1, d.before a0 Z = true) (ws : List Jvm.Cond) (a1 : Addr) (d0 : Addr) (mc : Int32) (fd : Nat → Value) (y : Addr) (h0 : Heap) (n0 : Nat) (Z0 : n0 ≤ h0.size) (Ea : Exa Z h0 a1 "java/util/ArrayList") (ga : n0 ≤ a1) (Fm : Fld Z h0 a1 "java/util/AbstractList" "modCount" "I" (.int mc)) (Fe : Fld Z h0 a1 "java/util/ArrayList" "elementData" "[Ljava/lang/Object;" (.ref d0)) (Fs : Fld Z h0 a1 "java/util/ArrayList" "size" "I" (.int (0 : Int32))) (Ol : Old Z n0 h0) (Sd : Sta Z Z.heap "java/util/ArrayList" "DEFAULTCAPACITY_EMPTY_ELEMENTDATA" "[Ljava/lang/Object;" (.ref d0)) (Vd : LA Z h0 d0 (.object "java/lang/Object") 0 fd) (nda : d0 ≠ a1) (Ey : Exa Z h0 y "[I") :
    MetFree l (⟨"java/util/ArrayList", "add", "(Ljava/lang/Object;)Z"⟩ : MethodName) (head1 (Jvm.Cond.code (⟨"java/util/ArrayList", "add", "(Ljava/lang/Object;)Z"⟩ : MethodName) jdk_38_method_25_code 2 (some .boolean) :: ws) ({ frames := 4, cells := 1, slots := 10, locals := 56 } : Room)) (fun a U => a = #[(.ref a1), (.ref y)] ∧ Z.Warmed39 U.vm ∧ U.heap = h0) (fun _ _ _ _ _ => True) (fun _ U o U' => ∃ v L, o = .returned v ∧ Q25a Z a1 d0 mc fd y h0 n0 v U'.heap L ∧ FrameEnd U o U' L ({ frames := 4, cells := 1, slots := 10, locals := 56 } : Room).cells ({ frames := 4, cells := 1, slots := 10, locals := 56 } : Room).slots) := by
  refine MetFree.of_bodySF (plainFor_of_name pn_java_util_ArrayList) hisR ?_
  intro p e s m args below meth c s₁ Bd hml0 hP hK
  obtain ⟨rfl, hZ, hh⟩ := hP
  have hx := Bd.exec
  have hby := Bd.bytes
  have hml : c.maxLocals = 2 := hml0
  have hown : s.vm.findClass "java/util/ArrayList" = some m.cls := findClass_of_methodNamed Bd.named
  have hnm := (name_of_methodNamed Bd.named Bd.method).1
  have X0 : Stand p l e ({ frames := 4, cells := 1, slots := 10, locals := 56 } : Room) s m #[(.ref a1), (.ref y)] below meth c s₁ [] 0 0 := Stand.of_body Bd
  have eh0 : s₁.heap = h0 := by rw [← hh, Bd.state]; rfl
  have N0 := Fr.nil n0
  refine Gq.start (Q := Q25a Z a1 d0 mc fd y h0 n0) (kc := ({ frames := 4, cells := 1, slots := 10, locals := 56 } : Room).cells) (ks := ({ frames := 4, cells := 1, slots := 10, locals := 56 } : Room).slots) (ef25a m a1 y) ?_
  refine Gq.go (s₁.setTop (mkF m 1 #[.val (.ref a1), .val (.ref y)] [(.ref a1)])) (fun tt_ kk_ => XS.aloadN X0.here hx rfl (hb hby d6_0) rfl rfl kk_) ?_
  refine Gq.go (s₁.setTop (mkF m 2 #[.val (.ref a1), .val (.ref y)] [(.ref a1), (.ref a1)])) (fun tt_ kk_ => XS.dup X0.here hx rfl (hb hby d6_1) rfl rfl kk_) ?_
  obtain ⟨T1, X1, eh1, st1⟩ := getF X0 hx hZ hown (host := "") (Or.inl (hw _ (List.mem_of_getElem? (i := 36) rfl))) (Via.of (hw _ (List.mem_of_getElem? (i := 37) rfl))) eh0 Fm (g := (mkF m 2 #[.val (.ref a1), .val (.ref y)] [(.ref a1), (.ref a1)])) rfl rfl (hb hby d6_2)
  refine Gq.go (T1.setTop (mkF m 5 #[.val (.ref a1), .val (.ref y)] [(.int mc), (.ref a1)])) (fun tt_ kk_ => st1 _ kk_) ?_
  refine Gq.go (T1.setTop (mkF m 6 #[.val (.ref a1), .val (.ref y)] [(.int (1 : Int32)), (.int mc), (.ref a1)])) (fun tt_ kk_ => XS.iconst X1.here hx rfl (hb hby d6_5) kk_) ?_
  refine Gq.go (T1.setTop (mkF m 7 #[.val (.ref a1), .val (.ref y)] [(.int (mc + (1 : Int32))), (.ref a1)])) (fun tt_ kk_ => XS.iadd X1.here hx rfl (hb hby d6_6) rfl kk_) ?_
  obtain ⟨T2, h2, X2, eh2, W2, st2⟩ := putF X1 hx hZ hown (host := "") (Or.inl (hw _ (List.mem_of_getElem? (i := 36) rfl))) (Via.of (hw _ (List.mem_of_getElem? (i := 37) rfl))) eh1 Fm Ea (Or.inl (hw _ (List.mem_of_getElem? (i := 22) rfl))) (hw _ (List.mem_of_getElem? (i := 1) rfl)) (ty := .int) (by decide) rfl rfl (g := (mkF m 7 #[.val (.ref a1), .val (.ref y)] [(.int (mc + (1 : Int32))), (.ref a1)])) rfl rfl (hb hby d6_7)
  have Fw2 := Fm.same W2
  have fa3 := Ea.wr W2
  have fa4 := Fe.other W2 (Or.inr (slot_ne (Or.inl (hw _ (List.mem_of_getElem? (i := 25) rfl))) (Or.inl (hw _ (List.mem_of_getElem? (i := 22) rfl))) (by decide) (t := (.array (.object "java/lang/Object"))) (t' := .int) (by decide) (by decide)))
  have fa5 := Fs.other W2 (Or.inr (slot_ne (Or.inl (hw _ (List.mem_of_getElem? (i := 39) rfl))) (Or.inl (hw _ (List.mem_of_getElem? (i := 22) rfl))) (by decide) (t := .int) (t' := .int) (by decide) (by decide)))
  have fa6 := Ol.wr W2 ga
  have fa7 := Vd.other W2 nda
  have fa8 := Ey.wr W2
  have ta9 := Nat.lt_of_lt_of_le Ea.lt (Nat.le_of_eq W2.size.symm)
  have ta10 := Nat.lt_of_lt_of_le Vd.lt (Nat.le_of_eq W2.size.symm)
  have za11 : n0 ≤ h2.size := Nat.le_trans Z0 (Nat.le_of_eq W2.size.symm)
  have Ka12 := (Keep.refl h0 [a1]).wr W2 (Or.inl (List.mem_of_getElem? (i := 0) rfl))
  have N2 := Fr.snoc X2 N0 ga
  refine Gq.go (T2.setTop (mkF m 10 #[.val (.ref a1), .val (.ref y)] [])) (fun tt_ kk_ => st2 _ kk_) ?_
  refine Gq.go (T2.setTop (mkF m 11 #[.val (.ref a1), .val (.ref y)] [(.ref a1)])) (fun tt_ kk_ => XS.aloadN X2.here hx rfl (hb hby d6_10) rfl rfl kk_) ?_
  refine Gq.go (T2.setTop (mkF m 12 #[.val (.ref a1), .val (.ref y)] [(.ref y), (.ref a1)])) (fun tt_ kk_ => XS.aloadN X2.here hx rfl (hb hby d6_11) rfl rfl kk_) ?_
  refine Gq.go (T2.setTop (mkF m 13 #[.val (.ref a1), .val (.ref y)] [(.ref a1), (.ref y), (.ref a1)])) (fun tt_ kk_ => XS.aloadN X2.here hx rfl (hb hby d6_12) rfl rfl kk_) ?_
  obtain ⟨T13, X13, eh13, st13⟩ := getF X2 hx hZ hown (host := "") (Or.inl (hw _ (List.mem_of_getElem? (i := 24) rfl))) Via.refl eh2 fa4 (g := (mkF m 13 #[.val (.ref a1), .val (.ref y)] [(.ref a1), (.ref y), (.ref a1)])) rfl rfl (hb hby d6_13)
  refine Gq.go (T13.setTop (mkF m 16 #[.val (.ref a1), .val (.ref y)] [(.ref d0), (.ref y), (.ref a1)])) (fun tt_ kk_ => st13 _ kk_) ?_
  refine Gq.go (T13.setTop (mkF m 17 #[.val (.ref a1), .val (.ref y)] [(.ref a1), (.ref d0), (.ref y), (.ref a1)])) (fun tt_ kk_ => XS.aloadN X13.here hx rfl (hb hby d6_16) rfl rfl kk_) ?_
  obtain ⟨T14, X14, eh14, st14⟩ := getF X13 hx hZ hown (host := "") (Or.inl (hw _ (List.mem_of_getElem? (i := 38) rfl))) Via.refl eh13 fa5 (g := (mkF m 17 #[.val (.ref a1), .val (.ref y)] [(.ref a1), (.ref d0), (.ref y), (.ref a1)])) rfl rfl (hb hby d6_17)
  refine Gq.go (T14.setTop (mkF m 20 #[.val (.ref a1), .val (.ref y)] [(.int (0 : Int32)), (.ref d0), (.ref y), (.ref a1)])) (fun tt_ kk_ => st14 _ kk_) ?_
  obtain ⟨r15, T15, L15, X15, hQ15, st15⟩ := callP (pc := 20) (Ls := #[.val (.ref a1), .val (.ref y)]) X14 hx hZ hown eh14 a1 [(.ref y), (.ref d0), (.int (0 : Int32))] [] fa3 (hw _ (List.mem_of_getElem? (i := 40) rfl)) (hw _ (List.mem_of_getElem? (i := 41) rfl)) (hw _ (List.mem_of_getElem? (i := 43) rfl)) (hw _ (List.mem_of_getElem? (i := 42) rfl)) (hw _ (List.mem_of_getElem? (i := 2) rfl)) (hw _ (List.mem_of_getElem? (i := 44) rfl)) (by decide) (rm24a l Z a0 hw [] a1 d0 (mc + (1 : Int32)) fd y h2 n0 za11 fa3 ga Fw2 fa4 fa5 fa6 Sd fa7 nda fa8) pd_4 rfl (by rw [hml]; rfl) (W := 0) (Nat.le_of_eq rfl) (by decide) (by decide) (by decide) (by decide) (hb hby d6_20)
  obtain ⟨⟨el15, rfl, gel15, szel15, c15_0, c15_1, c15_2, c15_3⟩, N15q, Kc15⟩ := hQ15
  have N15 := Fr.app N2 N15q
  have ne_a1_el15 : a1 ≠ el15 := Nat.ne_of_lt (Nat.lt_of_lt_of_le ta9 szel15)
  have ne_d0_el15 : d0 ≠ el15 := Nat.ne_of_lt (Nat.lt_of_lt_of_le ta10 szel15)
  have szh15 : h0.size ≤ el15 := Nat.le_trans Ka12.1 szel15
  have fa16 := fa3.keep Kc15
  have fa19 := fa6.keep Kc15 (allS ga all0)
  have fa20 := fa7.keep Kc15 (ninS nda nin0)
  have fa21 := fa8.keep Kc15
  have ta23 := Nat.lt_of_lt_of_le ta9 Kc15.1
  have ta24 := Nat.lt_of_lt_of_le ta10 Kc15.1
  have za25 : n0 ≤ T15.heap.size := Nat.le_trans za11 Kc15.1
  have Ka26 := Ka12.trans Kc15 (allS (Or.inl (List.mem_of_getElem? (i := 0) rfl)) all0)
  have tael15 := c15_3.lt
  refine Gq.go (T15.setTop (mkF m 23 #[.val (.ref a1), .val (.ref y)] [])) (fun tt_ kk_ => st15 tt_ kk_) ?_
  refine Gq.go (T15.setTop (mkF m 24 #[.val (.ref a1), .val (.ref y)] [(.int (1 : Int32))])) (fun tt_ kk_ => XS.iconst X15.here hx rfl (hb hby d6_23) kk_) ?_
  refine Gq.retI X15 hx Bd.notSynchronized Bd.returns (by simp) (hb hby d6_24) rfl (by decide) (by decide) ?_
  show Q25a Z a1 d0 mc fd y h0 n0 _ T15.heap _
  exact ⟨⟨el15, rfl, gel15, szh15, c15_0, c15_1, c15_2, c15_3⟩, N15, Ka26⟩
theorem ef24b (m : MethodId) (y0 : Addr) (y1 : Addr) (y2 : Addr) (y3 : Int32) : entryFrame m #[(.ref y0), (.ref y1), (.ref y2), (.int y3)] 4 = mkF m 0 #[.val (.ref y0), .val (.ref y1), .val (.ref y2), .val (.int y3)] [] := by first | (simp [entryFrame, mkF, argsToLocals, Value.category]; done) | rfl
def Q24b (Z : State) (a1 : Addr) (y : Addr) (el : Addr) (vs : List Value) (k : Nat) (mc : Int32) (h0 : Heap) (n0 : Nat) (v : Option Value) (h : Heap) (L : List Loc) : Prop := v = none ∧ Fr n0 L ∧ Keep h0 h [a1, el] ∧ Fld Z h a1 "java/util/AbstractList" "modCount" "I" (.int mc) ∧ Fld Z h a1 "java/util/ArrayList" "elementData" "[Ljava/lang/Object;" (.ref el) ∧ Fld Z h a1 "java/util/ArrayList" "size" "I" (.int (Int32.ofNat (k + 1))) ∧ RA Z h el 10 (gl (vs.set k (.ref y)) .null)
set_option maxRecDepth 65536 in
set_option maxHeartbeats 40000000 in
theorem rm24b (l : Launch) (Z : State) (a0 : Array Value) (hw : ∀ d ∈ tables_1, d.before a0 Z = true) (ws : List Jvm.Cond) (a1 : Addr) (y : Addr) (el : Addr) (vs : List Value) (k : Nat) (mc : Int32) (h0 : Heap) (n0 : Nat) (Z0 : n0 ≤ h0.size) (Ea : Exa Z h0 a1 "java/util/ArrayList") (ga : n0 ≤ a1) (Fm : Fld Z h0 a1 "java/util/AbstractList" "modCount" "I" (.int mc)) (Fe : Fld Z h0 a1 "java/util/ArrayList" "elementData" "[Ljava/lang/Object;" (.ref el)) (Fs : Fld Z h0 a1 "java/util/ArrayList" "size" "I" (.int (Int32.ofNat k))) (Ey : Exa Z h0 y "[I") (Re : RA Z h0 el 10 (gl vs .null)) (hk : k < 10) (hlv : k < vs.length) (gel : n0 ≤ el) (nea : el ≠ a1) :
    MetFree l (⟨"java/util/ArrayList", "add", "(Ljava/lang/Object;[Ljava/lang/Object;I)V"⟩ : MethodName) (head1 (Jvm.Cond.code (⟨"java/util/ArrayList", "add", "(Ljava/lang/Object;[Ljava/lang/Object;I)V"⟩ : MethodName) jdk_38_method_24_code 4 none :: ws) ({ frames := 0, cells := 0, slots := 0, locals := 0 } : Room)) (fun a U => a = #[(.ref a1), (.ref y), (.ref el), (.int (Int32.ofNat k))] ∧ Z.Warmed39 U.vm ∧ U.heap = h0) (fun _ _ _ _ _ => True) (fun _ U o U' => ∃ v L, o = .returned v ∧ Q24b Z a1 y el vs k mc h0 n0 v U'.heap L ∧ FrameEnd U o U' L ({ frames := 0, cells := 0, slots := 0, locals := 0 } : Room).cells ({ frames := 0, cells := 0, slots := 0, locals := 0 } : Room).slots) := by
  refine MetFree.of_bodySF (plainFor_of_name pn_java_util_ArrayList) hisR ?_
  intro p e s m args below meth c s₁ Bd hml0 hP hK
  obtain ⟨rfl, hZ, hh⟩ := hP
  have hx := Bd.exec
  have hby := Bd.bytes
  have hml : c.maxLocals = 4 := hml0
  have hown : s.vm.findClass "java/util/ArrayList" = some m.cls := findClass_of_methodNamed Bd.named
  have hnm := (name_of_methodNamed Bd.named Bd.method).1
  have X0 : Stand p l e ({ frames := 0, cells := 0, slots := 0, locals := 0 } : Room) s m #[(.ref a1), (.ref y), (.ref el), (.int (Int32.ofNat k))] below meth c s₁ [] 0 0 := Stand.of_body Bd
  have eh0 : s₁.heap = h0 := by rw [← hh, Bd.state]; rfl
  have N0 := Fr.nil n0
  refine Gq.start (Q := Q24b Z a1 y el vs k mc h0 n0) (kc := ({ frames := 0, cells := 0, slots := 0, locals := 0 } : Room).cells) (ks := ({ frames := 0, cells := 0, slots := 0, locals := 0 } : Room).slots) (ef24b m a1 y el (Int32.ofNat k)) ?_
  refine Gq.go (s₁.setTop (mkF m 1 #[.val (.ref a1), .val (.ref y), .val (.ref el), .val (.int (Int32.ofNat k))] [(.int (Int32.ofNat k))])) (fun tt_ kk_ => XS.iloadN X0.here hx rfl (hb hby d7_0) rfl kk_) ?_
  refine Gq.go (s₁.setTop (mkF m 2 #[.val (.ref a1), .val (.ref y), .val (.ref el), .val (.int (Int32.ofNat k))] [(.ref el), (.int (Int32.ofNat k))])) (fun tt_ kk_ => XS.aloadN X0.here hx rfl (hb hby d7_1) rfl rfl kk_) ?_
  refine Gq.go (s₁.setTop (mkF m 3 #[.val (.ref a1), .val (.ref y), .val (.ref el), .val (.int (Int32.ofNat k))] [(.int (10 : Int32)), (.int (Int32.ofNat k))])) (fun tt_ kk_ => lenR X0 hx hZ eh0 Re (hb hby d7_2) tt_ kk_) ?_
  refine Gq.go (s₁.setTop (mkF m 11 #[.val (.ref a1), .val (.ref y), .val (.ref el), .val (.int (Int32.ofNat k))] [])) (fun tt_ kk_ => XS.icmpYes X0.here hx rfl (pc0 := 3) (pc' := 11) rfl (hb hby d7_3) rfl (feq (fun q => absurd ((own_eqn (b := 10) (by omega) (by decide)).mp q) (by omega))).2 (by decide) (by decide) kk_) ?_
  refine Gq.go (s₁.setTop (mkF m 12 #[.val (.ref a1), .val (.ref y), .val (.ref el), .val (.int (Int32.ofNat k))] [(.ref el)])) (fun tt_ kk_ => XS.aloadN X0.here hx rfl (hb hby d7_11) rfl rfl kk_) ?_
  refine Gq.go (s₁.setTop (mkF m 13 #[.val (.ref a1), .val (.ref y), .val (.ref el), .val (.int (Int32.ofNat k))] [(.int (Int32.ofNat k)), (.ref el)])) (fun tt_ kk_ => XS.iloadN X0.here hx rfl (hb hby d7_12) rfl kk_) ?_
  refine Gq.go (s₁.setTop (mkF m 14 #[.val (.ref a1), .val (.ref y), .val (.ref el), .val (.int (Int32.ofNat k))] [(.ref y), (.int (Int32.ofNat k)), (.ref el)])) (fun tt_ kk_ => XS.aloadN X0.here hx rfl (hb hby d7_13) rfl rfl kk_) ?_
  obtain ⟨T1, h1, X1, eh1, W1, st1⟩ := stoR X0 hx hZ eh0 Re (Ins.of_exa Ey (hw _ (List.mem_of_getElem? (i := 61) rfl))) (j := (Int32.ofNat k)) (i := k) (Ls := #[.val (.ref a1), .val (.ref y), .val (.ref el), .val (.int (Int32.ofNat k))]) (rest := []) (own_nn (by omega)) (own_nc (by omega)) hk (hb hby d7_14)
  have fa2 := Ea.wr W1
  have fa3 := Fm.other W1 (Or.inl (Ne.symm nea))
  have fa4 := Fe.other W1 (Or.inl (Ne.symm nea))
  have fa5 := Fs.other W1 (Or.inl (Ne.symm nea))
  have fa6 := Ey.wr W1
  have ta7 := Nat.lt_of_lt_of_le Ea.lt (Nat.le_of_eq W1.size.symm)
  have ta8 := Nat.lt_of_lt_of_le Re.lt (Nat.le_of_eq W1.size.symm)
  have za9 : n0 ≤ h1.size := Nat.le_trans Z0 (Nat.le_of_eq W1.size.symm)
  have V1 : RA Z h1 el 10 (gl (vs.set k (.ref y)) .null) := Re.setL W1 hlv
  have Ka10 := (Keep.refl h0 [a1, el]).wr W1 (Or.inl (List.mem_of_getElem? (i := 1) rfl))
  have N1 := Fr.snoc X1 N0 gel
  refine Gq.go (T1.setTop (mkF m 15 #[.val (.ref a1), .val (.ref y), .val (.ref el), .val (.int (Int32.ofNat k))] [])) (fun tt_ kk_ => st1 tt_ kk_) ?_
  refine Gq.go (T1.setTop (mkF m 16 #[.val (.ref a1), .val (.ref y), .val (.ref el), .val (.int (Int32.ofNat k))] [(.ref a1)])) (fun tt_ kk_ => XS.aloadN X1.here hx rfl (hb hby d7_15) rfl rfl kk_) ?_
  refine Gq.go (T1.setTop (mkF m 17 #[.val (.ref a1), .val (.ref y), .val (.ref el), .val (.int (Int32.ofNat k))] [(.int (Int32.ofNat k)), (.ref a1)])) (fun tt_ kk_ => XS.iloadN X1.here hx rfl (hb hby d7_16) rfl kk_) ?_
  refine Gq.go (T1.setTop (mkF m 18 #[.val (.ref a1), .val (.ref y), .val (.ref el), .val (.int (Int32.ofNat k))] [(.int (1 : Int32)), (.int (Int32.ofNat k)), (.ref a1)])) (fun tt_ kk_ => XS.iconst X1.here hx rfl (hb hby d7_17) kk_) ?_
  refine Gq.go (T1.setTop (mkF m 19 #[.val (.ref a1), .val (.ref y), .val (.ref el), .val (.int (Int32.ofNat k))] [(.int ((Int32.ofNat k) + (1 : Int32))), (.ref a1)])) (fun tt_ kk_ => XS.iadd X1.here hx rfl (hb hby d7_18) rfl kk_) ?_
  rw [show ((Int32.ofNat k) + (1 : Int32)) = (Int32.ofNat (k + 1)) from own_add k 1]
  obtain ⟨T11, h11, X11, eh11, W11, st11⟩ := putF X1 hx hZ hown (host := "") (Or.inl (hw _ (List.mem_of_getElem? (i := 38) rfl))) Via.refl eh1 fa5 fa2 (Or.inl (hw _ (List.mem_of_getElem? (i := 39) rfl))) (hw _ (List.mem_of_getElem? (i := 1) rfl)) (ty := .int) (by decide) rfl rfl (g := (mkF m 19 #[.val (.ref a1), .val (.ref y), .val (.ref el), .val (.int (Int32.ofNat k))] [(.int (Int32.ofNat (k + 1))), (.ref a1)])) rfl rfl (hb hby d7_19)
  have Fw11 := fa5.same W11
  have fa12 := fa2.wr W11
  have fa13 := fa3.other W11 (Or.inr (slot_ne (Or.inl (hw _ (List.mem_of_getElem? (i := 22) rfl))) (Or.inl (hw _ (List.mem_of_getElem? (i := 39) rfl))) (by decide) (t := .int) (t' := .int) (by decide) (by decide)))
  have fa14 := fa4.other W11 (Or.inr (slot_ne (Or.inl (hw _ (List.mem_of_getElem? (i := 25) rfl))) (Or.inl (hw _ (List.mem_of_getElem? (i := 39) rfl))) (by decide) (t := (.array (.object "java/lang/Object"))) (t' := .int) (by decide) (by decide)))
  have fa15 := fa6.wr W11
  have fa16 := V1.other W11 nea
  have ta17 := Nat.lt_of_lt_of_le ta7 (Nat.le_of_eq W11.size.symm)
  have ta18 := Nat.lt_of_lt_of_le ta8 (Nat.le_of_eq W11.size.symm)
  have za19 : n0 ≤ h11.size := Nat.le_trans za9 (Nat.le_of_eq W11.size.symm)
  have Ka20 := Ka10.wr W11 (Or.inl (List.mem_of_getElem? (i := 0) rfl))
  have N11 := Fr.snoc X11 N1 ga
  refine Gq.go (T11.setTop (mkF m 22 #[.val (.ref a1), .val (.ref y), .val (.ref el), .val (.int (Int32.ofNat k))] [])) (fun tt_ kk_ => st11 _ kk_) ?_
  refine Gq.retV X11 hx Bd.notSynchronized Bd.returns (hb hby d7_22) (by decide) (by decide) ?_
  show Q24b Z a1 y el vs k mc h0 n0 _ T11.heap _
  rw [eh11]
  exact ⟨rfl, N11, Ka20, fa13, fa14, Fw11, fa16⟩
theorem ef25b (m : MethodId) (y0 : Addr) (y1 : Addr) : entryFrame m #[(.ref y0), (.ref y1)] 2 = mkF m 0 #[.val (.ref y0), .val (.ref y1)] [] := by first | (simp [entryFrame, mkF, argsToLocals, Value.category]; done) | rfl
def Q25b (Z : State) (a1 : Addr) (y : Addr) (el : Addr) (vs : List Value) (k : Nat) (mc : Int32) (h0 : Heap) (n0 : Nat) (v : Option Value) (h : Heap) (L : List Loc) : Prop := v = some (.int (1 : Int32)) ∧ Fr n0 L ∧ Keep h0 h [a1, el] ∧ Fld Z h a1 "java/util/AbstractList" "modCount" "I" (.int (mc + (1 : Int32))) ∧ Fld Z h a1 "java/util/ArrayList" "elementData" "[Ljava/lang/Object;" (.ref el) ∧ Fld Z h a1 "java/util/ArrayList" "size" "I" (.int (Int32.ofNat (k + 1))) ∧ RA Z h el 10 (gl (vs.set k (.ref y)) .null)
set_option maxRecDepth 65536 in
set_option maxHeartbeats 40000000 in
theorem rm25b (l : Launch) (Z : State) (a0 : Array Value) (hw : ∀ d ∈ tables_1, d.before a0 Z = true) (ws : List Jvm.Cond) (a1 : Addr) (y : Addr) (el : Addr) (vs : List Value) (k : Nat) (mc : Int32) (h0 : Heap) (n0 : Nat) (Z0 : n0 ≤ h0.size) (Ea : Exa Z h0 a1 "java/util/ArrayList") (ga : n0 ≤ a1) (Fm : Fld Z h0 a1 "java/util/AbstractList" "modCount" "I" (.int mc)) (Fe : Fld Z h0 a1 "java/util/ArrayList" "elementData" "[Ljava/lang/Object;" (.ref el)) (Fs : Fld Z h0 a1 "java/util/ArrayList" "size" "I" (.int (Int32.ofNat k))) (Ey : Exa Z h0 y "[I") (Re : RA Z h0 el 10 (gl vs .null)) (hk : k < 10) (hlv : k < vs.length) (gel : n0 ≤ el) (nea : el ≠ a1) :
    MetFree l (⟨"java/util/ArrayList", "add", "(Ljava/lang/Object;)Z"⟩ : MethodName) (head1 (Jvm.Cond.code (⟨"java/util/ArrayList", "add", "(Ljava/lang/Object;)Z"⟩ : MethodName) jdk_38_method_25_code 2 (some .boolean) :: ws) ({ frames := 1, cells := 0, slots := 0, locals := 15 } : Room)) (fun a U => a = #[(.ref a1), (.ref y)] ∧ Z.Warmed39 U.vm ∧ U.heap = h0) (fun _ _ _ _ _ => True) (fun _ U o U' => ∃ v L, o = .returned v ∧ Q25b Z a1 y el vs k mc h0 n0 v U'.heap L ∧ FrameEnd U o U' L ({ frames := 1, cells := 0, slots := 0, locals := 15 } : Room).cells ({ frames := 1, cells := 0, slots := 0, locals := 15 } : Room).slots) := by
  refine MetFree.of_bodySF (plainFor_of_name pn_java_util_ArrayList) hisR ?_
  intro p e s m args below meth c s₁ Bd hml0 hP hK
  obtain ⟨rfl, hZ, hh⟩ := hP
  have hx := Bd.exec
  have hby := Bd.bytes
  have hml : c.maxLocals = 2 := hml0
  have hown : s.vm.findClass "java/util/ArrayList" = some m.cls := findClass_of_methodNamed Bd.named
  have hnm := (name_of_methodNamed Bd.named Bd.method).1
  have X0 : Stand p l e ({ frames := 1, cells := 0, slots := 0, locals := 15 } : Room) s m #[(.ref a1), (.ref y)] below meth c s₁ [] 0 0 := Stand.of_body Bd
  have eh0 : s₁.heap = h0 := by rw [← hh, Bd.state]; rfl
  have N0 := Fr.nil n0
  refine Gq.start (Q := Q25b Z a1 y el vs k mc h0 n0) (kc := ({ frames := 1, cells := 0, slots := 0, locals := 15 } : Room).cells) (ks := ({ frames := 1, cells := 0, slots := 0, locals := 15 } : Room).slots) (ef25b m a1 y) ?_
  refine Gq.go (s₁.setTop (mkF m 1 #[.val (.ref a1), .val (.ref y)] [(.ref a1)])) (fun tt_ kk_ => XS.aloadN X0.here hx rfl (hb hby d6_0) rfl rfl kk_) ?_
  refine Gq.go (s₁.setTop (mkF m 2 #[.val (.ref a1), .val (.ref y)] [(.ref a1), (.ref a1)])) (fun tt_ kk_ => XS.dup X0.here hx rfl (hb hby d6_1) rfl rfl kk_) ?_
  obtain ⟨T1, X1, eh1, st1⟩ := getF X0 hx hZ hown (host := "") (Or.inl (hw _ (List.mem_of_getElem? (i := 36) rfl))) (Via.of (hw _ (List.mem_of_getElem? (i := 37) rfl))) eh0 Fm (g := (mkF m 2 #[.val (.ref a1), .val (.ref y)] [(.ref a1), (.ref a1)])) rfl rfl (hb hby d6_2)
  refine Gq.go (T1.setTop (mkF m 5 #[.val (.ref a1), .val (.ref y)] [(.int mc), (.ref a1)])) (fun tt_ kk_ => st1 _ kk_) ?_
  refine Gq.go (T1.setTop (mkF m 6 #[.val (.ref a1), .val (.ref y)] [(.int (1 : Int32)), (.int mc), (.ref a1)])) (fun tt_ kk_ => XS.iconst X1.here hx rfl (hb hby d6_5) kk_) ?_
  refine Gq.go (T1.setTop (mkF m 7 #[.val (.ref a1), .val (.ref y)] [(.int (mc + (1 : Int32))), (.ref a1)])) (fun tt_ kk_ => XS.iadd X1.here hx rfl (hb hby d6_6) rfl kk_) ?_
  obtain ⟨T2, h2, X2, eh2, W2, st2⟩ := putF X1 hx hZ hown (host := "") (Or.inl (hw _ (List.mem_of_getElem? (i := 36) rfl))) (Via.of (hw _ (List.mem_of_getElem? (i := 37) rfl))) eh1 Fm Ea (Or.inl (hw _ (List.mem_of_getElem? (i := 22) rfl))) (hw _ (List.mem_of_getElem? (i := 1) rfl)) (ty := .int) (by decide) rfl rfl (g := (mkF m 7 #[.val (.ref a1), .val (.ref y)] [(.int (mc + (1 : Int32))), (.ref a1)])) rfl rfl (hb hby d6_7)
  have Fw2 := Fm.same W2
  have fa3 := Ea.wr W2
  have fa4 := Fe.other W2 (Or.inr (slot_ne (Or.inl (hw _ (List.mem_of_getElem? (i := 25) rfl))) (Or.inl (hw _ (List.mem_of_getElem? (i := 22) rfl))) (by decide) (t := (.array (.object "java/lang/Object"))) (t' := .int) (by decide) (by decide)))
  have fa5 := Fs.other W2 (Or.inr (slot_ne (Or.inl (hw _ (List.mem_of_getElem? (i := 39) rfl))) (Or.inl (hw _ (List.mem_of_getElem? (i := 22) rfl))) (by decide) (t := .int) (t' := .int) (by decide) (by decide)))
  have fa6 := Ey.wr W2
  have fa7 := Re.other W2 nea
  have ta8 := Nat.lt_of_lt_of_le Ea.lt (Nat.le_of_eq W2.size.symm)
  have ta9 := Nat.lt_of_lt_of_le Re.lt (Nat.le_of_eq W2.size.symm)
  have za10 : n0 ≤ h2.size := Nat.le_trans Z0 (Nat.le_of_eq W2.size.symm)
  have Ka11 := (Keep.refl h0 [a1, el]).wr W2 (Or.inl (List.mem_of_getElem? (i := 0) rfl))
  have N2 := Fr.snoc X2 N0 ga
  refine Gq.go (T2.setTop (mkF m 10 #[.val (.ref a1), .val (.ref y)] [])) (fun tt_ kk_ => st2 _ kk_) ?_
  refine Gq.go (T2.setTop (mkF m 11 #[.val (.ref a1), .val (.ref y)] [(.ref a1)])) (fun tt_ kk_ => XS.aloadN X2.here hx rfl (hb hby d6_10) rfl rfl kk_) ?_
  refine Gq.go (T2.setTop (mkF m 12 #[.val (.ref a1), .val (.ref y)] [(.ref y), (.ref a1)])) (fun tt_ kk_ => XS.aloadN X2.here hx rfl (hb hby d6_11) rfl rfl kk_) ?_
  refine Gq.go (T2.setTop (mkF m 13 #[.val (.ref a1), .val (.ref y)] [(.ref a1), (.ref y), (.ref a1)])) (fun tt_ kk_ => XS.aloadN X2.here hx rfl (hb hby d6_12) rfl rfl kk_) ?_
  obtain ⟨T12, X12, eh12, st12⟩ := getF X2 hx hZ hown (host := "") (Or.inl (hw _ (List.mem_of_getElem? (i := 24) rfl))) Via.refl eh2 fa4 (g := (mkF m 13 #[.val (.ref a1), .val (.ref y)] [(.ref a1), (.ref y), (.ref a1)])) rfl rfl (hb hby d6_13)
  refine Gq.go (T12.setTop (mkF m 16 #[.val (.ref a1), .val (.ref y)] [(.ref el), (.ref y), (.ref a1)])) (fun tt_ kk_ => st12 _ kk_) ?_
  refine Gq.go (T12.setTop (mkF m 17 #[.val (.ref a1), .val (.ref y)] [(.ref a1), (.ref el), (.ref y), (.ref a1)])) (fun tt_ kk_ => XS.aloadN X12.here hx rfl (hb hby d6_16) rfl rfl kk_) ?_
  obtain ⟨T13, X13, eh13, st13⟩ := getF X12 hx hZ hown (host := "") (Or.inl (hw _ (List.mem_of_getElem? (i := 38) rfl))) Via.refl eh12 fa5 (g := (mkF m 17 #[.val (.ref a1), .val (.ref y)] [(.ref a1), (.ref el), (.ref y), (.ref a1)])) rfl rfl (hb hby d6_17)
  refine Gq.go (T13.setTop (mkF m 20 #[.val (.ref a1), .val (.ref y)] [(.int (Int32.ofNat k)), (.ref el), (.ref y), (.ref a1)])) (fun tt_ kk_ => st13 _ kk_) ?_
  obtain ⟨r14, T14, L14, X14, hQ14, st14⟩ := callP (pc := 20) (Ls := #[.val (.ref a1), .val (.ref y)]) X13 hx hZ hown eh13 a1 [(.ref y), (.ref el), (.int (Int32.ofNat k))] [] fa3 (hw _ (List.mem_of_getElem? (i := 40) rfl)) (hw _ (List.mem_of_getElem? (i := 41) rfl)) (hw _ (List.mem_of_getElem? (i := 43) rfl)) (hw _ (List.mem_of_getElem? (i := 42) rfl)) (hw _ (List.mem_of_getElem? (i := 2) rfl)) (hw _ (List.mem_of_getElem? (i := 44) rfl)) (by decide) (rm24b l Z a0 hw [] a1 y el vs k (mc + (1 : Int32)) h2 n0 za10 fa3 ga Fw2 fa4 fa5 fa6 fa7 hk hlv gel nea) pd_4 rfl (by rw [hml]; rfl) (W := 0) (Nat.le_of_eq rfl) (by decide) (by decide) (by decide) (by decide) (hb hby d6_20)
  obtain ⟨rfl, N14q, Kc14, c14_0, c14_1, c14_2, c14_3⟩ := hQ14
  have N14 := Fr.app N2 N14q
  have fa15 := fa3.keep Kc14
  have fa18 := fa6.keep Kc14
  have ta21 := Nat.lt_of_lt_of_le ta8 Kc14.1
  have ta22 := Nat.lt_of_lt_of_le ta9 Kc14.1
  have za23 : n0 ≤ T14.heap.size := Nat.le_trans za10 Kc14.1
  have Ka24 := Ka11.trans Kc14 (allS (Or.inl (List.mem_of_getElem? (i := 0) rfl)) (allS (Or.inl (List.mem_of_getElem? (i := 1) rfl)) all0))
  refine Gq.go (T14.setTop (mkF m 23 #[.val (.ref a1), .val (.ref y)] [])) (fun tt_ kk_ => st14 tt_ kk_) ?_
  refine Gq.go (T14.setTop (mkF m 24 #[.val (.ref a1), .val (.ref y)] [(.int (1 : Int32))])) (fun tt_ kk_ => XS.iconst X14.here hx rfl (hb hby d6_23) kk_) ?_
  refine Gq.retI X14 hx Bd.notSynchronized Bd.returns (by simp) (hb hby d6_24) rfl (by decide) (by decide) ?_
  show Q25b Z a1 y el vs k mc h0 n0 _ T14.heap _
  exact ⟨rfl, N14, Ka24, c14_0, c14_1, c14_2, c14_3⟩
theorem d14_0 : decode jdk_41_method_11_code 0 = .ok (.iload_n 0, 1) := by decide +kernel
theorem d14_1 : decode jdk_41_method_11_code 1 = .ok (.ifCond .lt 8, 3) := by decide +kernel
theorem d14_4 : decode jdk_41_method_11_code 4 = .ok (.iload_n 0, 1) := by decide +kernel
theorem d14_5 : decode jdk_41_method_11_code 5 = .ok (.iload_n 1, 1) := by decide +kernel
theorem d14_6 : decode jdk_41_method_11_code 6 = .ok (.if_icmp .lt 10, 3) := by decide +kernel
theorem d14_16 : decode jdk_41_method_11_code 16 = .ok (.iload_n 0, 1) := by decide +kernel
theorem d14_17 : decode jdk_41_method_11_code 17 = .ok (.ireturn, 1) := by decide +kernel
theorem pn_jdk_internal_util_Preconditions : plainName "jdk/internal/util/Preconditions" = true := by first | (simp [plainName, overriddenIn]; done) | decide +kernel
theorem ef14 (m : MethodId) (y0 : Int32) (y1 : Int32) : entryFrame m #[(.int y0), (.int y1), .null] 3 = mkF m 0 #[.val (.int y0), .val (.int y1), .val .null] [] := by first | (simp [entryFrame, mkF, argsToLocals, Value.category]; done) | rfl
def Q14 (Z : State) (i : Nat) (len : Nat) (h0 : Heap) (n0 : Nat) (v : Option Value) (h : Heap) (L : List Loc) : Prop := v = some (.int (Int32.ofNat i)) ∧ Fr n0 L ∧ h = h0
set_option maxRecDepth 65536 in
set_option maxHeartbeats 40000000 in
theorem rm14 (l : Launch) (Z : State) (a0 : Array Value) (hw : ∀ d ∈ tables_1, d.before a0 Z = true) (ws : List Jvm.Cond) (i : Nat) (len : Nat) (h0 : Heap) (n0 : Nat) (Z0 : n0 ≤ h0.size) (hi : i < len) (hl : len < 2 ^ 31) :
    MetFree l (⟨"jdk/internal/util/Preconditions", "checkIndex", "(IILjava/util/function/BiFunction;)I"⟩ : MethodName) (head1 (Jvm.Cond.code (⟨"jdk/internal/util/Preconditions", "checkIndex", "(IILjava/util/function/BiFunction;)I"⟩ : MethodName) jdk_41_method_11_code 3 (some .int) :: ws) ({ frames := 0, cells := 0, slots := 0, locals := 0 } : Room)) (fun a U => a = #[(.int (Int32.ofNat i)), (.int (Int32.ofNat len)), .null] ∧ Z.Warmed39 U.vm ∧ U.heap = h0) (fun _ _ _ _ _ => True) (fun _ U o U' => ∃ v L, o = .returned v ∧ Q14 Z i len h0 n0 v U'.heap L ∧ FrameEnd U o U' L ({ frames := 0, cells := 0, slots := 0, locals := 0 } : Room).cells ({ frames := 0, cells := 0, slots := 0, locals := 0 } : Room).slots) := by
  refine MetFree.of_bodySF (plainFor_of_name pn_jdk_internal_util_Preconditions) hisR ?_
  intro p e s m args below meth c s₁ Bd hml0 hP hK
  obtain ⟨rfl, hZ, hh⟩ := hP
  have hx := Bd.exec
  have hby := Bd.bytes
  have hml : c.maxLocals = 3 := hml0
  have hown : s.vm.findClass "jdk/internal/util/Preconditions" = some m.cls := findClass_of_methodNamed Bd.named
  have hnm := (name_of_methodNamed Bd.named Bd.method).1
  have X0 : Stand p l e ({ frames := 0, cells := 0, slots := 0, locals := 0 } : Room) s m #[(.int (Int32.ofNat i)), (.int (Int32.ofNat len)), .null] below meth c s₁ [] 0 0 := Stand.of_body Bd
  have eh0 : s₁.heap = h0 := by rw [← hh, Bd.state]; rfl
  have N0 := Fr.nil n0
  refine Gq.start (Q := Q14 Z i len h0 n0) (kc := ({ frames := 0, cells := 0, slots := 0, locals := 0 } : Room).cells) (ks := ({ frames := 0, cells := 0, slots := 0, locals := 0 } : Room).slots) (ef14 m (Int32.ofNat i) (Int32.ofNat len)) ?_
  refine Gq.go (s₁.setTop (mkF m 1 #[.val (.int (Int32.ofNat i)), .val (.int (Int32.ofNat len)), .val .null] [(.int (Int32.ofNat i))])) (fun tt_ kk_ => XS.iloadN X0.here hx rfl (hb hby d14_0) rfl kk_) ?_
  refine Gq.go (s₁.setTop (mkF m 4 #[.val (.int (Int32.ofNat i)), .val (.int (Int32.ofNat len)), .val .null] [])) (fun tt_ kk_ => XS.ifNo X0.here hx rfl (hb hby d14_1) rfl ((if0 _ _).trans (flt (own_nn (by omega))).1) kk_) ?_
  refine Gq.go (s₁.setTop (mkF m 5 #[.val (.int (Int32.ofNat i)), .val (.int (Int32.ofNat len)), .val .null] [(.int (Int32.ofNat i))])) (fun tt_ kk_ => XS.iloadN X0.here hx rfl (hb hby d14_4) rfl kk_) ?_
  refine Gq.go (s₁.setTop (mkF m 6 #[.val (.int (Int32.ofNat i)), .val (.int (Int32.ofNat len)), .val .null] [(.int (Int32.ofNat len)), (.int (Int32.ofNat i))])) (fun tt_ kk_ => XS.iloadN X0.here hx rfl (hb hby d14_5) rfl kk_) ?_
  refine Gq.go (s₁.setTop (mkF m 16 #[.val (.int (Int32.ofNat i)), .val (.int (Int32.ofNat len)), .val .null] [])) (fun tt_ kk_ => XS.icmpYes X0.here hx rfl (pc0 := 6) (pc' := 16) rfl (hb hby d14_6) rfl (tlt ((own_lt (by omega) hl).mpr hi)).1 (by decide) (by decide) kk_) ?_
  refine Gq.go (s₁.setTop (mkF m 17 #[.val (.int (Int32.ofNat i)), .val (.int (Int32.ofNat len)), .val .null] [(.int (Int32.ofNat i))])) (fun tt_ kk_ => XS.iloadN X0.here hx rfl (hb hby d14_16) rfl kk_) ?_
  refine Gq.retI X0 hx Bd.notSynchronized Bd.returns (by simp) (hb hby d14_17) rfl (by decide) (by decide) ?_
  show Q14 Z i len h0 n0 _ s₁.heap _
  rw [eh0]
  exact ⟨rfl, N0, rfl⟩
theorem d13_0 : decode jdk_31_method_17_code 0 = .ok (.iload_n 0, 1) := by decide +kernel
theorem d13_1 : decode jdk_31_method_17_code 1 = .ok (.iload_n 1, 1) := by decide +kernel
theorem d13_2 : decode jdk_31_method_17_code 2 = .ok (.aconst_null, 1) := by decide +kernel
theorem d13_3 : decode jdk_31_method_17_code 3 = .ok (.invokestatic 105, 3) := by decide +kernel
theorem d13_6 : decode jdk_31_method_17_code 6 = .ok (.ireturn, 1) := by decide +kernel
theorem pd_5 : parseMethodDescriptor "(IILjava/util/function/BiFunction;)I" = some ⟨[.int, .int, (.object "java/util/function/BiFunction")], some .int⟩ := by decide +kernel
theorem pn_java_util_Objects : plainName "java/util/Objects" = true := by first | (simp [plainName, overriddenIn]; done) | decide +kernel
theorem ef13 (m : MethodId) (y0 : Int32) (y1 : Int32) : entryFrame m #[(.int y0), (.int y1)] 2 = mkF m 0 #[.val (.int y0), .val (.int y1)] [] := by first | (simp [entryFrame, mkF, argsToLocals, Value.category]; done) | rfl
def Q13 (Z : State) (i : Nat) (len : Nat) (h0 : Heap) (n0 : Nat) (v : Option Value) (h : Heap) (L : List Loc) : Prop := v = some (.int (Int32.ofNat i)) ∧ Fr n0 L ∧ h = h0
set_option maxRecDepth 65536 in
set_option maxHeartbeats 40000000 in
theorem rm13 (l : Launch) (Z : State) (a0 : Array Value) (hw : ∀ d ∈ tables_1, d.before a0 Z = true) (ws : List Jvm.Cond) (i : Nat) (len : Nat) (h0 : Heap) (n0 : Nat) (Z0 : n0 ≤ h0.size) (hi : i < len) (hl : len < 2 ^ 31) :
    MetFree l (⟨"java/util/Objects", "checkIndex", "(II)I"⟩ : MethodName) (head1 (Jvm.Cond.code (⟨"java/util/Objects", "checkIndex", "(II)I"⟩ : MethodName) jdk_31_method_17_code 2 (some .int) :: ws) ({ frames := 1, cells := 0, slots := 0, locals := 14 } : Room)) (fun a U => a = #[(.int (Int32.ofNat i)), (.int (Int32.ofNat len))] ∧ Z.Warmed39 U.vm ∧ U.heap = h0) (fun _ _ _ _ _ => True) (fun _ U o U' => ∃ v L, o = .returned v ∧ Q13 Z i len h0 n0 v U'.heap L ∧ FrameEnd U o U' L ({ frames := 1, cells := 0, slots := 0, locals := 14 } : Room).cells ({ frames := 1, cells := 0, slots := 0, locals := 14 } : Room).slots) := by
  refine MetFree.of_bodySF (plainFor_of_name pn_java_util_Objects) hisR ?_
  intro p e s m args below meth c s₁ Bd hml0 hP hK
  obtain ⟨rfl, hZ, hh⟩ := hP
  have hx := Bd.exec
  have hby := Bd.bytes
  have hml : c.maxLocals = 2 := hml0
  have hown : s.vm.findClass "java/util/Objects" = some m.cls := findClass_of_methodNamed Bd.named
  have hnm := (name_of_methodNamed Bd.named Bd.method).1
  have X0 : Stand p l e ({ frames := 1, cells := 0, slots := 0, locals := 14 } : Room) s m #[(.int (Int32.ofNat i)), (.int (Int32.ofNat len))] below meth c s₁ [] 0 0 := Stand.of_body Bd
  have eh0 : s₁.heap = h0 := by rw [← hh, Bd.state]; rfl
  have N0 := Fr.nil n0
  refine Gq.start (Q := Q13 Z i len h0 n0) (kc := ({ frames := 1, cells := 0, slots := 0, locals := 14 } : Room).cells) (ks := ({ frames := 1, cells := 0, slots := 0, locals := 14 } : Room).slots) (ef13 m (Int32.ofNat i) (Int32.ofNat len)) ?_
  refine Gq.go (s₁.setTop (mkF m 1 #[.val (.int (Int32.ofNat i)), .val (.int (Int32.ofNat len))] [(.int (Int32.ofNat i))])) (fun tt_ kk_ => XS.iloadN X0.here hx rfl (hb hby d13_0) rfl kk_) ?_
  refine Gq.go (s₁.setTop (mkF m 2 #[.val (.int (Int32.ofNat i)), .val (.int (Int32.ofNat len))] [(.int (Int32.ofNat len)), (.int (Int32.ofNat i))])) (fun tt_ kk_ => XS.iloadN X0.here hx rfl (hb hby d13_1) rfl kk_) ?_
  refine Gq.go (s₁.setTop (mkF m 3 #[.val (.int (Int32.ofNat i)), .val (.int (Int32.ofNat len))] [.null, (.int (Int32.ofNat len)), (.int (Int32.ofNat i))])) (fun tt_ kk_ => XS.aconstNull X0.here hx rfl (hb hby d13_2) kk_) ?_
  obtain ⟨r1, T1, L1, X1, hQ1, st1⟩ := callT (pc := 3) (Ls := #[.val (.int (Int32.ofNat i)), .val (.int (Int32.ofNat len))]) X0 hx hZ hown eh0 [(.int (Int32.ofNat i)), (.int (Int32.ofNat len)), .null] [] (hw _ (List.mem_of_getElem? (i := 86) rfl)) (hw _ (List.mem_of_getElem? (i := 87) rfl)) (hw _ (List.mem_of_getElem? (i := 88) rfl)) (hw _ (List.mem_of_getElem? (i := 89) rfl)) (by decide) (rm14 l Z a0 hw [] i len h0 n0 Z0 hi hl) pd_5 rfl (by rw [hml]; rfl) (W := 0) (Nat.le_of_eq rfl) (by decide) (by decide) (by decide) (by decide) (hb hby d13_3)
  obtain ⟨rfl, N1q, eh1⟩ := hQ1
  have N1 := Fr.app N0 N1q
  refine Gq.go (T1.setTop (mkF m 6 #[.val (.int (Int32.ofNat i)), .val (.int (Int32.ofNat len))] [(.int (Int32.ofNat i))])) (fun tt_ kk_ => st1 tt_ kk_) ?_
  refine Gq.retI X1 hx Bd.notSynchronized Bd.returns (by simp) (hb hby d13_6) rfl (by decide) (by decide) ?_
  show Q13 Z i len h0 n0 _ T1.heap _
  rw [eh1]
  exact ⟨rfl, N1, rfl⟩
theorem d15_0 : decode jdk_38_method_18_code 0 = .ok (.aload_n 0, 1) := by decide +kernel
theorem d15_1 : decode jdk_38_method_18_code 1 = .ok (.getfield 9, 3) := by decide +kernel
theorem d15_4 : decode jdk_38_method_18_code 4 = .ok (.iload_n 1, 1) := by decide +kernel
theorem d15_5 : decode jdk_38_method_18_code 5 = .ok (.aaload, 1) := by decide +kernel
theorem d15_6 : decode jdk_38_method_18_code 6 = .ok (.areturn, 1) := by decide +kernel
theorem ef15 (m : MethodId) (y0 : Addr) (y1 : Int32) : entryFrame m #[(.ref y0), (.int y1)] 2 = mkF m 0 #[.val (.ref y0), .val (.int y1)] [] := by first | (simp [entryFrame, mkF, argsToLocals, Value.category]; done) | rfl
def Q15 (Z : State) (a1 : Addr) (i : Nat) (el : Addr) (f : Nat → Value) (y : Addr) (h0 : Heap) (n0 : Nat) (v : Option Value) (h : Heap) (L : List Loc) : Prop := v = some (.ref y) ∧ Fr n0 L ∧ h = h0
set_option maxRecDepth 65536 in
set_option maxHeartbeats 40000000 in
theorem rm15 (l : Launch) (Z : State) (a0 : Array Value) (hw : ∀ d ∈ tables_1, d.before a0 Z = true) (ws : List Jvm.Cond) (a1 : Addr) (i : Nat) (el : Addr) (f : Nat → Value) (y : Addr) (h0 : Heap) (n0 : Nat) (Z0 : n0 ≤ h0.size) (Fe : Fld Z h0 a1 "java/util/ArrayList" "elementData" "[Ljava/lang/Object;" (.ref el)) (Re : RA Z h0 el 10 f) (hi : i < 10) (hv : f i = .ref y) :
    MetFree l (⟨"java/util/ArrayList", "elementData", "(I)Ljava/lang/Object;"⟩ : MethodName) (head1 (Jvm.Cond.code (⟨"java/util/ArrayList", "elementData", "(I)Ljava/lang/Object;"⟩ : MethodName) jdk_38_method_18_code 2 (some (.object "java/lang/Object")) :: ws) ({ frames := 0, cells := 0, slots := 0, locals := 0 } : Room)) (fun a U => a = #[(.ref a1), (.int (Int32.ofNat i))] ∧ Z.Warmed39 U.vm ∧ U.heap = h0) (fun _ _ _ _ _ => True) (fun _ U o U' => ∃ v L, o = .returned v ∧ Q15 Z a1 i el f y h0 n0 v U'.heap L ∧ FrameEnd U o U' L ({ frames := 0, cells := 0, slots := 0, locals := 0 } : Room).cells ({ frames := 0, cells := 0, slots := 0, locals := 0 } : Room).slots) := by
  refine MetFree.of_bodySF (plainFor_of_name pn_java_util_ArrayList) hisR ?_
  intro p e s m args below meth c s₁ Bd hml0 hP hK
  obtain ⟨rfl, hZ, hh⟩ := hP
  have hx := Bd.exec
  have hby := Bd.bytes
  have hml : c.maxLocals = 2 := hml0
  have hown : s.vm.findClass "java/util/ArrayList" = some m.cls := findClass_of_methodNamed Bd.named
  have hnm := (name_of_methodNamed Bd.named Bd.method).1
  have X0 : Stand p l e ({ frames := 0, cells := 0, slots := 0, locals := 0 } : Room) s m #[(.ref a1), (.int (Int32.ofNat i))] below meth c s₁ [] 0 0 := Stand.of_body Bd
  have eh0 : s₁.heap = h0 := by rw [← hh, Bd.state]; rfl
  have N0 := Fr.nil n0
  refine Gq.start (Q := Q15 Z a1 i el f y h0 n0) (kc := ({ frames := 0, cells := 0, slots := 0, locals := 0 } : Room).cells) (ks := ({ frames := 0, cells := 0, slots := 0, locals := 0 } : Room).slots) (ef15 m a1 (Int32.ofNat i)) ?_
  refine Gq.go (s₁.setTop (mkF m 1 #[.val (.ref a1), .val (.int (Int32.ofNat i))] [(.ref a1)])) (fun tt_ kk_ => XS.aloadN X0.here hx rfl (hb hby d15_0) rfl rfl kk_) ?_
  obtain ⟨T1, X1, eh1, st1⟩ := getF X0 hx hZ hown (host := "") (Or.inl (hw _ (List.mem_of_getElem? (i := 24) rfl))) Via.refl eh0 Fe (g := (mkF m 1 #[.val (.ref a1), .val (.int (Int32.ofNat i))] [(.ref a1)])) rfl rfl (hb hby d15_1)
  refine Gq.go (T1.setTop (mkF m 4 #[.val (.ref a1), .val (.int (Int32.ofNat i))] [(.ref el)])) (fun tt_ kk_ => st1 _ kk_) ?_
  refine Gq.go (T1.setTop (mkF m 5 #[.val (.ref a1), .val (.int (Int32.ofNat i))] [(.int (Int32.ofNat i)), (.ref el)])) (fun tt_ kk_ => XS.iloadN X1.here hx rfl (hb hby d15_4) rfl kk_) ?_
  refine Gq.go (T1.setTop (mkF m 6 #[.val (.ref a1), .val (.int (Int32.ofNat i))] [(.ref y)])) (fun tt_ kk_ => ldR X1 hx hZ eh1 Re (j := (Int32.ofNat i)) (i := i) (v := (.ref y)) (own_nn (by omega)) (own_nc (by omega)) hi hv (hb hby d15_5) tt_ kk_) ?_
  refine Gq.retA X1 hx Bd.notSynchronized Bd.returns rfl rfl rfl (hb hby d15_6) (by decide) (by decide) ?_
  show Q15 Z a1 i el f y h0 n0 _ T1.heap _
  rw [eh1]
  exact ⟨rfl, N0, rfl⟩
theorem d12_0 : decode jdk_38_method_20_code 0 = .ok (.iload_n 1, 1) := by decide +kernel
theorem d12_1 : decode jdk_38_method_20_code 1 = .ok (.aload_n 0, 1) := by decide +kernel
theorem d12_2 : decode jdk_38_method_20_code 2 = .ok (.getfield 48, 3) := by decide +kernel
theorem d12_5 : decode jdk_38_method_20_code 5 = .ok (.invokestatic 118, 3) := by decide +kernel
theorem d12_8 : decode jdk_38_method_20_code 8 = .ok (.pop, 1) := by decide +kernel
theorem d12_9 : decode jdk_38_method_20_code 9 = .ok (.aload_n 0, 1) := by decide +kernel
theorem d12_10 : decode jdk_38_method_20_code 10 = .ok (.iload_n 1, 1) := by decide +kernel
theorem d12_11 : decode jdk_38_method_20_code 11 = .ok (.invokevirtual 123, 3) := by decide +kernel
theorem d12_14 : decode jdk_38_method_20_code 14 = .ok (.areturn, 1) := by decide +kernel
theorem pd_6 : parseMethodDescriptor "(I)Ljava/lang/Object;" = some ⟨[.int], some (.object "java/lang/Object")⟩ := by decide +kernel
theorem ef12 (m : MethodId) (y0 : Addr) (y1 : Int32) : entryFrame m #[(.ref y0), (.int y1)] 2 = mkF m 0 #[.val (.ref y0), .val (.int y1)] [] := by first | (simp [entryFrame, mkF, argsToLocals, Value.category]; done) | rfl
def Q12 (Z : State) (a1 : Addr) (i : Nat) (el : Addr) (f : Nat → Value) (y : Addr) (h0 : Heap) (n0 : Nat) (v : Option Value) (h : Heap) (L : List Loc) : Prop := v = some (.ref y) ∧ Fr n0 L ∧ h = h0
set_option maxRecDepth 65536 in
set_option maxHeartbeats 40000000 in
theorem rm12 (l : Launch) (Z : State) (a0 : Array Value) (hw : ∀ d ∈ tables_1, d.before a0 Z = true) (ws : List Jvm.Cond) (a1 : Addr) (i : Nat) (el : Addr) (f : Nat → Value) (y : Addr) (h0 : Heap) (n0 : Nat) (Z0 : n0 ≤ h0.size) (Ea : Exa Z h0 a1 "java/util/ArrayList") (Fe : Fld Z h0 a1 "java/util/ArrayList" "elementData" "[Ljava/lang/Object;" (.ref el)) (Fs : Fld Z h0 a1 "java/util/ArrayList" "size" "I" (.int (3 : Int32))) (Re : RA Z h0 el 10 f) (hi : i < 3) (hv : f i = .ref y) :
    MetFree l (⟨"java/util/ArrayList", "get", "(I)Ljava/lang/Object;"⟩ : MethodName) (head1 (Jvm.Cond.code (⟨"java/util/ArrayList", "get", "(I)Ljava/lang/Object;"⟩ : MethodName) jdk_38_method_20_code 2 (some (.object "java/lang/Object")) :: ws) ({ frames := 2, cells := 0, slots := 0, locals := 27 } : Room)) (fun a U => a = #[(.ref a1), (.int (Int32.ofNat i))] ∧ Z.Warmed39 U.vm ∧ U.heap = h0) (fun _ _ _ _ _ => True) (fun _ U o U' => ∃ v L, o = .returned v ∧ Q12 Z a1 i el f y h0 n0 v U'.heap L ∧ FrameEnd U o U' L ({ frames := 2, cells := 0, slots := 0, locals := 27 } : Room).cells ({ frames := 2, cells := 0, slots := 0, locals := 27 } : Room).slots) := by
  refine MetFree.of_bodySF (plainFor_of_name pn_java_util_ArrayList) hisR ?_
  intro p e s m args below meth c s₁ Bd hml0 hP hK
  obtain ⟨rfl, hZ, hh⟩ := hP
  have hx := Bd.exec
  have hby := Bd.bytes
  have hml : c.maxLocals = 2 := hml0
  have hown : s.vm.findClass "java/util/ArrayList" = some m.cls := findClass_of_methodNamed Bd.named
  have hnm := (name_of_methodNamed Bd.named Bd.method).1
  have X0 : Stand p l e ({ frames := 2, cells := 0, slots := 0, locals := 27 } : Room) s m #[(.ref a1), (.int (Int32.ofNat i))] below meth c s₁ [] 0 0 := Stand.of_body Bd
  have eh0 : s₁.heap = h0 := by rw [← hh, Bd.state]; rfl
  have N0 := Fr.nil n0
  refine Gq.start (Q := Q12 Z a1 i el f y h0 n0) (kc := ({ frames := 2, cells := 0, slots := 0, locals := 27 } : Room).cells) (ks := ({ frames := 2, cells := 0, slots := 0, locals := 27 } : Room).slots) (ef12 m a1 (Int32.ofNat i)) ?_
  refine Gq.go (s₁.setTop (mkF m 1 #[.val (.ref a1), .val (.int (Int32.ofNat i))] [(.int (Int32.ofNat i))])) (fun tt_ kk_ => XS.iloadN X0.here hx rfl (hb hby d12_0) rfl kk_) ?_
  refine Gq.go (s₁.setTop (mkF m 2 #[.val (.ref a1), .val (.int (Int32.ofNat i))] [(.ref a1), (.int (Int32.ofNat i))])) (fun tt_ kk_ => XS.aloadN X0.here hx rfl (hb hby d12_1) rfl rfl kk_) ?_
  obtain ⟨T1, X1, eh1, st1⟩ := getF X0 hx hZ hown (host := "") (Or.inl (hw _ (List.mem_of_getElem? (i := 38) rfl))) Via.refl eh0 Fs (g := (mkF m 2 #[.val (.ref a1), .val (.int (Int32.ofNat i))] [(.ref a1), (.int (Int32.ofNat i))])) rfl rfl (hb hby d12_2)
  refine Gq.go (T1.setTop (mkF m 5 #[.val (.ref a1), .val (.int (Int32.ofNat i))] [(.int (3 : Int32)), (.int (Int32.ofNat i))])) (fun tt_ kk_ => st1 _ kk_) ?_
  obtain ⟨r2, T2, L2, X2, hQ2, st2⟩ := callT (pc := 5) (Ls := #[.val (.ref a1), .val (.int (Int32.ofNat i))]) X1 hx hZ hown eh1 [(.int (Int32.ofNat i)), (.int (3 : Int32))] [] (hw _ (List.mem_of_getElem? (i := 82) rfl)) (hw _ (List.mem_of_getElem? (i := 83) rfl)) (hw _ (List.mem_of_getElem? (i := 84) rfl)) (hw _ (List.mem_of_getElem? (i := 85) rfl)) (by decide) (rm13 l Z a0 hw [] i 3 h0 n0 Z0 hi (by decide)) pd_1 rfl (by rw [hml]; rfl) (W := 0) (Nat.le_of_eq rfl) (by decide) (by decide) (by decide) (by decide) (hb hby d12_5)
  obtain ⟨rfl, N2q, eh2⟩ := hQ2
  have N2 := Fr.app N0 N2q
  refine Gq.go (T2.setTop (mkF m 8 #[.val (.ref a1), .val (.int (Int32.ofNat i))] [(.int (Int32.ofNat i))])) (fun tt_ kk_ => st2 tt_ kk_) ?_
  refine Gq.go (T2.setTop (mkF m 9 #[.val (.ref a1), .val (.int (Int32.ofNat i))] [])) (fun tt_ kk_ => XS.pop X2.here hx rfl (hb hby d12_8) rfl rfl kk_) ?_
  refine Gq.go (T2.setTop (mkF m 10 #[.val (.ref a1), .val (.int (Int32.ofNat i))] [(.ref a1)])) (fun tt_ kk_ => XS.aloadN X2.here hx rfl (hb hby d12_9) rfl rfl kk_) ?_
  refine Gq.go (T2.setTop (mkF m 11 #[.val (.ref a1), .val (.int (Int32.ofNat i))] [(.int (Int32.ofNat i)), (.ref a1)])) (fun tt_ kk_ => XS.iloadN X2.here hx rfl (hb hby d12_10) rfl kk_) ?_
  obtain ⟨r3, T3, L3, X3, hQ3, st3⟩ := callV (pc := 11) (Ls := #[.val (.ref a1), .val (.int (Int32.ofNat i))]) X2 hx hZ hown eh2 a1 [(.int (Int32.ofNat i))] [] Ea (hw _ (List.mem_of_getElem? (i := 90) rfl)) (hw _ (List.mem_of_getElem? (i := 91) rfl)) (hw _ (List.mem_of_getElem? (i := 93) rfl)) (hw _ (List.mem_of_getElem? (i := 92) rfl)) (hw _ (List.mem_of_getElem? (i := 2) rfl)) (hw _ (List.mem_of_getElem? (i := 94) rfl)) (by decide) (rm15 l Z a0 hw [] a1 i el f y h0 n0 Z0 Fe Re (by omega) hv) pd_6 rfl (by rw [hml]; rfl) (W := 0) (Nat.le_of_eq rfl) (by decide) (by decide) (by decide) (by decide) (hb hby d12_11)
  obtain ⟨rfl, N3q, eh3⟩ := hQ3
  have N3 := Fr.app N2 N3q
  refine Gq.go (T3.setTop (mkF m 14 #[.val (.ref a1), .val (.int (Int32.ofNat i))] [(.ref y)])) (fun tt_ kk_ => st3 tt_ kk_) ?_
  refine Gq.retA X3 hx Bd.notSynchronized Bd.returns rfl rfl rfl (hb hby d12_14) (by decide) (by decide) ?_
  show Q12 Z a1 i el f y h0 n0 _ T3.heap _
  rw [eh3]
  exact ⟨rfl, N3, rfl⟩
theorem d5_0 : decode method_2_code 0 = .ok (.iload_n 0, 1) := by decide +kernel
theorem d5_1 : decode method_2_code 1 = .ok (.ifCond .ne 7, 3) := by decide +kernel
theorem d5_4 : decode method_2_code 4 = .ok (.iconst 0, 1) := by decide +kernel
theorem d5_5 : decode method_2_code 5 = .ok (.newarray .int, 2) := by decide +kernel
theorem d5_7 : decode method_2_code 7 = .ok (.areturn, 1) := by decide +kernel
theorem d5_8 : decode method_2_code 8 = .ok (.iload_n 0, 1) := by decide +kernel
theorem d5_9 : decode method_2_code 9 = .ok (.iconst 1, 1) := by decide +kernel
theorem d5_10 : decode method_2_code 10 = .ok (.if_icmp .ne 7, 3) := by decide +kernel
theorem d5_13 : decode method_2_code 13 = .ok (.iconst 1, 1) := by decide +kernel
theorem d5_14 : decode method_2_code 14 = .ok (.newarray .int, 2) := by decide +kernel
theorem d5_16 : decode method_2_code 16 = .ok (.areturn, 1) := by decide +kernel
theorem d5_17 : decode method_2_code 17 = .ok (.iload_n 0, 1) := by decide +kernel
theorem d5_18 : decode method_2_code 18 = .ok (.iconst 2, 1) := by decide +kernel
theorem d5_19 : decode method_2_code 19 = .ok (.if_icmp .ne 7, 3) := by decide +kernel
theorem d5_22 : decode method_2_code 22 = .ok (.iconst 2, 1) := by decide +kernel
theorem d5_23 : decode method_2_code 23 = .ok (.newarray .int, 2) := by decide +kernel
theorem d5_25 : decode method_2_code 25 = .ok (.areturn, 1) := by decide +kernel
theorem d5_26 : decode method_2_code 26 = .ok (.iconst 3, 1) := by decide +kernel
theorem d5_27 : decode method_2_code 27 = .ok (.newarray .int, 2) := by decide +kernel
theorem d5_29 : decode method_2_code 29 = .ok (.areturn, 1) := by decide +kernel
theorem ef5 (m : MethodId) (y0 : Int32) : entryFrame m #[(.int y0)] 1 = mkF m 0 #[.val (.int y0)] [] := by first | (simp [entryFrame, mkF, argsToLocals, Value.category]; done) | rfl
def Q5 (Z : State) (kk : Nat) (h0 : Heap) (n0 : Nat) (v : Option Value) (h : Heap) (L : List Loc) : Prop := (∃ b : Addr, v = some (.ref b) ∧ n0 ≤ b ∧ h0.size ≤ b ∧ LA Z h b .int kk (fun _ => .int (0 : Int32)) ∧ Exa Z h b "[I") ∧ Fr n0 L ∧ Keep h0 h []
set_option maxRecDepth 65536 in
set_option maxHeartbeats 40000000 in
theorem rm5 (l : Launch) (Z : State) (a0 : Array Value) (hw : ∀ d ∈ tables_1, d.before a0 Z = true) (ws : List Jvm.Cond) (kk : Nat) (h0 : Heap) (n0 : Nat) (Z0 : n0 ≤ h0.size) (hkk : kk ≤ 3) :
    MetFree l (⟨"com/example/arbor2/arbor2/analysis/TracksReachedFromPinLaw", "blank", "(I)[I"⟩ : MethodName) (head1 (Jvm.Cond.code (⟨"com/example/arbor2/arbor2/analysis/TracksReachedFromPinLaw", "blank", "(I)[I"⟩ : MethodName) method_2_code 1 (some (.array .int)) :: ws) ({ frames := 0, cells := 1, slots := 3, locals := 0 } : Room)) (fun a U => a = #[(.int (Int32.ofNat kk))] ∧ Z.Warmed39 U.vm ∧ U.heap = h0) (fun _ _ _ _ _ => True) (fun _ U o U' => ∃ v L, o = .returned v ∧ Q5 Z kk h0 n0 v U'.heap L ∧ FrameEnd U o U' L ({ frames := 0, cells := 1, slots := 3, locals := 0 } : Room).cells ({ frames := 0, cells := 1, slots := 3, locals := 0 } : Room).slots) := by
  refine MetFree.of_bodySF (plainFor_of_name pn_com_example_arbor2_arbor2_analysis_TracksReachedFromPinLaw) hisR ?_
  intro p e s m args below meth c s₁ Bd hml0 hP hK
  obtain ⟨rfl, hZ, hh⟩ := hP
  have hx := Bd.exec
  have hby := Bd.bytes
  have hml : c.maxLocals = 1 := hml0
  have hown : s.vm.findClass "com/example/arbor2/arbor2/analysis/TracksReachedFromPinLaw" = some m.cls := findClass_of_methodNamed Bd.named
  have hnm := (name_of_methodNamed Bd.named Bd.method).1
  have X0 : Stand p l e ({ frames := 0, cells := 1, slots := 3, locals := 0 } : Room) s m #[(.int (Int32.ofNat kk))] below meth c s₁ [] 0 0 := Stand.of_body Bd
  have eh0 : s₁.heap = h0 := by rw [← hh, Bd.state]; rfl
  have N0 := Fr.nil n0
  refine Gq.start (Q := Q5 Z kk h0 n0) (kc := ({ frames := 0, cells := 1, slots := 3, locals := 0 } : Room).cells) (ks := ({ frames := 0, cells := 1, slots := 3, locals := 0 } : Room).slots) (ef5 m (Int32.ofNat kk)) ?_
  rcases own_4 hkk with rfl | rfl | rfl | rfl
  · rw [show Int32.ofNat 0 = (0 : Int32) from rfl]
    refine Gq.go (s₁.setTop (mkF m 1 #[.val (.int (0 : Int32))] [(.int (0 : Int32))])) (fun tt_ kk_ => XS.iloadN X0.here hx rfl (hb hby d5_0) rfl kk_) ?_
    refine Gq.go (s₁.setTop (mkF m 4 #[.val (.int (0 : Int32))] [])) (fun tt_ kk_ => XS.ifNo X0.here hx rfl (hb hby d5_1) rfl ((if0 _ _).trans (teq (by decide : ((0 : Int32) = (0 : Int32)))).2) kk_) ?_
    refine Gq.go (s₁.setTop (mkF m 5 #[.val (.int (0 : Int32))] [(.int (0 : Int32))])) (fun tt_ kk_ => XS.iconst X0.here hx rfl (hb hby d5_4) kk_) ?_
    obtain ⟨T1, h1, b1, X1, eh1, E1, aq1, V1, A1, st1⟩ := mkAE X0 hx hZ (hw _ (List.mem_of_getElem? (i := 30) rfl)) eh0 (z := (0 : Int32)) (n := 0) (Ls := #[.val (.int (0 : Int32))]) (rest := []) (by decide) rfl (by decide) (by decide) (by decide) (ad := "[I") rfl (hb hby d5_5)
    have g_b1 : n0 ≤ b1 := Nat.le_trans Z0 (Nat.le_of_eq aq1.symm)
    have sz_b1 : h0.size ≤ b1 := Nat.le_trans (Keep.refl h0 []).1 (Nat.le_of_eq aq1.symm)
    have za2 : n0 ≤ h1.size := Nat.le_trans Z0 E1.1
    have Ka3 := (Keep.refl h0 []).ext E1
    have V1' : LA Z h1 b1 .int 0 (fun _ => (.int (0 : Int32))) := V1
    have ta1' := V1'.lt
    refine Gq.go (T1.setTop (mkF m 7 #[.val (.int (0 : Int32))] [(.ref b1)])) (fun tt_ kk_ => st1 tt_ kk_) ?_
    refine Gq.retA X1 hx Bd.notSynchronized Bd.returns rfl rfl rfl (hb hby d5_7) (by decide) (by decide) ?_
    show Q5 Z 0 h0 n0 _ T1.heap _
    rw [eh1]
    exact ⟨⟨b1, rfl, g_b1, sz_b1, V1', A1⟩, N0, Ka3⟩
  · rw [show Int32.ofNat 1 = (1 : Int32) from rfl]
    refine Gq.go (s₁.setTop (mkF m 1 #[.val (.int (1 : Int32))] [(.int (1 : Int32))])) (fun tt_ kk_ => XS.iloadN X0.here hx rfl (hb hby d5_0) rfl kk_) ?_
    refine Gq.go (s₁.setTop (mkF m 8 #[.val (.int (1 : Int32))] [])) (fun tt_ kk_ => XS.ifYes X0.here hx rfl (pc0 := 1) (pc' := 8) rfl (hb hby d5_1) rfl ((if0 _ _).trans (feq (by decide : ¬ ((1 : Int32) = (0 : Int32)))).2) (by decide) (by decide) kk_) ?_
    refine Gq.go (s₁.setTop (mkF m 9 #[.val (.int (1 : Int32))] [(.int (1 : Int32))])) (fun tt_ kk_ => XS.iloadN X0.here hx rfl (hb hby d5_8) rfl kk_) ?_
    refine Gq.go (s₁.setTop (mkF m 10 #[.val (.int (1 : Int32))] [(.int (1 : Int32)), (.int (1 : Int32))])) (fun tt_ kk_ => XS.iconst X0.here hx rfl (hb hby d5_9) kk_) ?_
    refine Gq.go (s₁.setTop (mkF m 13 #[.val (.int (1 : Int32))] [])) (fun tt_ kk_ => XS.icmpNo X0.here hx rfl (hb hby d5_10) rfl (teq (by decide : ((1 : Int32) = (1 : Int32)))).2 kk_) ?_
    refine Gq.go (s₁.setTop (mkF m 14 #[.val (.int (1 : Int32))] [(.int (1 : Int32))])) (fun tt_ kk_ => XS.iconst X0.here hx rfl (hb hby d5_13) kk_) ?_
    obtain ⟨T4, h4, b4, X4, eh4, E4, aq4, V4, A4, st4⟩ := mkAE X0 hx hZ (hw _ (List.mem_of_getElem? (i := 30) rfl)) eh0 (z := (1 : Int32)) (n := 1) (Ls := #[.val (.int (1 : Int32))]) (rest := []) (by decide) rfl (by decide) (by decide) (by decide) (ad := "[I") rfl (hb hby d5_14)
    have g_b4 : n0 ≤ b4 := Nat.le_trans Z0 (Nat.le_of_eq aq4.symm)
    have sz_b4 : h0.size ≤ b4 := Nat.le_trans (Keep.refl h0 []).1 (Nat.le_of_eq aq4.symm)
    have za5 : n0 ≤ h4.size := Nat.le_trans Z0 E4.1
    have Ka6 := (Keep.refl h0 []).ext E4
    have V4' : LA Z h4 b4 .int 1 (fun _ => (.int (0 : Int32))) := V4
    have ta4' := V4'.lt
    refine Gq.go (T4.setTop (mkF m 16 #[.val (.int (1 : Int32))] [(.ref b4)])) (fun tt_ kk_ => st4 tt_ kk_) ?_
    refine Gq.retA X4 hx Bd.notSynchronized Bd.returns rfl rfl rfl (hb hby d5_16) (by decide) (by decide) ?_
    show Q5 Z 1 h0 n0 _ T4.heap _
    rw [eh4]
    exact ⟨⟨b4, rfl, g_b4, sz_b4, V4', A4⟩, N0, Ka6⟩
  · rw [show Int32.ofNat 2 = (2 : Int32) from rfl]
    refine Gq.go (s₁.setTop (mkF m 1 #[.val (.int (2 : Int32))] [(.int (2 : Int32))])) (fun tt_ kk_ => XS.iloadN X0.here hx rfl (hb hby d5_0) rfl kk_) ?_
    refine Gq.go (s₁.setTop (mkF m 8 #[.val (.int (2 : Int32))] [])) (fun tt_ kk_ => XS.ifYes X0.here hx rfl (pc0 := 1) (pc' := 8) rfl (hb hby d5_1) rfl ((if0 _ _).trans (feq (by decide : ¬ ((2 : Int32) = (0 : Int32)))).2) (by decide) (by decide) kk_) ?_
    refine Gq.go (s₁.setTop (mkF m 9 #[.val (.int (2 : Int32))] [(.int (2 : Int32))])) (fun tt_ kk_ => XS.iloadN X0.here hx rfl (hb hby d5_8) rfl kk_) ?_
    refine Gq.go (s₁.setTop (mkF m 10 #[.val (.int (2 : Int32))] [(.int (1 : Int32)), (.int (2 : Int32))])) (fun tt_ kk_ => XS.iconst X0.here hx rfl (hb hby d5_9) kk_) ?_
    refine Gq.go (s₁.setTop (mkF m 17 #[.val (.int (2 : Int32))] [])) (fun tt_ kk_ => XS.icmpYes X0.here hx rfl (pc0 := 10) (pc' := 17) rfl (hb hby d5_10) rfl (feq (by decide : ¬ ((2 : Int32) = (1 : Int32)))).2 (by decide) (by decide) kk_) ?_
    refine Gq.go (s₁.setTop (mkF m 18 #[.val (.int (2 : Int32))] [(.int (2 : Int32))])) (fun tt_ kk_ => XS.iloadN X0.here hx rfl (hb hby d5_17) rfl kk_) ?_
    refine Gq.go (s₁.setTop (mkF m 19 #[.val (.int (2 : Int32))] [(.int (2 : Int32)), (.int (2 : Int32))])) (fun tt_ kk_ => XS.iconst X0.here hx rfl (hb hby d5_18) kk_) ?_
    refine Gq.go (s₁.setTop (mkF m 22 #[.val (.int (2 : Int32))] [])) (fun tt_ kk_ => XS.icmpNo X0.here hx rfl (hb hby d5_19) rfl (teq (by decide : ((2 : Int32) = (2 : Int32)))).2 kk_) ?_
    refine Gq.go (s₁.setTop (mkF m 23 #[.val (.int (2 : Int32))] [(.int (2 : Int32))])) (fun tt_ kk_ => XS.iconst X0.here hx rfl (hb hby d5_22) kk_) ?_
    obtain ⟨T7, h7, b7, X7, eh7, E7, aq7, V7, A7, st7⟩ := mkAE X0 hx hZ (hw _ (List.mem_of_getElem? (i := 30) rfl)) eh0 (z := (2 : Int32)) (n := 2) (Ls := #[.val (.int (2 : Int32))]) (rest := []) (by decide) rfl (by decide) (by decide) (by decide) (ad := "[I") rfl (hb hby d5_23)
    have g_b7 : n0 ≤ b7 := Nat.le_trans Z0 (Nat.le_of_eq aq7.symm)
    have sz_b7 : h0.size ≤ b7 := Nat.le_trans (Keep.refl h0 []).1 (Nat.le_of_eq aq7.symm)
    have za8 : n0 ≤ h7.size := Nat.le_trans Z0 E7.1
    have Ka9 := (Keep.refl h0 []).ext E7
    have V7' : LA Z h7 b7 .int 2 (fun _ => (.int (0 : Int32))) := V7
    have ta7' := V7'.lt
    refine Gq.go (T7.setTop (mkF m 25 #[.val (.int (2 : Int32))] [(.ref b7)])) (fun tt_ kk_ => st7 tt_ kk_) ?_
    refine Gq.retA X7 hx Bd.notSynchronized Bd.returns rfl rfl rfl (hb hby d5_25) (by decide) (by decide) ?_
    show Q5 Z 2 h0 n0 _ T7.heap _
    rw [eh7]
    exact ⟨⟨b7, rfl, g_b7, sz_b7, V7', A7⟩, N0, Ka9⟩
  · rw [show Int32.ofNat 3 = (3 : Int32) from rfl]
    refine Gq.go (s₁.setTop (mkF m 1 #[.val (.int (3 : Int32))] [(.int (3 : Int32))])) (fun tt_ kk_ => XS.iloadN X0.here hx rfl (hb hby d5_0) rfl kk_) ?_
    refine Gq.go (s₁.setTop (mkF m 8 #[.val (.int (3 : Int32))] [])) (fun tt_ kk_ => XS.ifYes X0.here hx rfl (pc0 := 1) (pc' := 8) rfl (hb hby d5_1) rfl ((if0 _ _).trans (feq (by decide : ¬ ((3 : Int32) = (0 : Int32)))).2) (by decide) (by decide) kk_) ?_
    refine Gq.go (s₁.setTop (mkF m 9 #[.val (.int (3 : Int32))] [(.int (3 : Int32))])) (fun tt_ kk_ => XS.iloadN X0.here hx rfl (hb hby d5_8) rfl kk_) ?_
    refine Gq.go (s₁.setTop (mkF m 10 #[.val (.int (3 : Int32))] [(.int (1 : Int32)), (.int (3 : Int32))])) (fun tt_ kk_ => XS.iconst X0.here hx rfl (hb hby d5_9) kk_) ?_
    refine Gq.go (s₁.setTop (mkF m 17 #[.val (.int (3 : Int32))] [])) (fun tt_ kk_ => XS.icmpYes X0.here hx rfl (pc0 := 10) (pc' := 17) rfl (hb hby d5_10) rfl (feq (by decide : ¬ ((3 : Int32) = (1 : Int32)))).2 (by decide) (by decide) kk_) ?_
    refine Gq.go (s₁.setTop (mkF m 18 #[.val (.int (3 : Int32))] [(.int (3 : Int32))])) (fun tt_ kk_ => XS.iloadN X0.here hx rfl (hb hby d5_17) rfl kk_) ?_
    refine Gq.go (s₁.setTop (mkF m 19 #[.val (.int (3 : Int32))] [(.int (2 : Int32)), (.int (3 : Int32))])) (fun tt_ kk_ => XS.iconst X0.here hx rfl (hb hby d5_18) kk_) ?_
    refine Gq.go (s₁.setTop (mkF m 26 #[.val (.int (3 : Int32))] [])) (fun tt_ kk_ => XS.icmpYes X0.here hx rfl (pc0 := 19) (pc' := 26) rfl (hb hby d5_19) rfl (feq (by decide : ¬ ((3 : Int32) = (2 : Int32)))).2 (by decide) (by decide) kk_) ?_
    refine Gq.go (s₁.setTop (mkF m 27 #[.val (.int (3 : Int32))] [(.int (3 : Int32))])) (fun tt_ kk_ => XS.iconst X0.here hx rfl (hb hby d5_26) kk_) ?_
    obtain ⟨T10, h10, b10, X10, eh10, E10, aq10, V10, A10, st10⟩ := mkAE X0 hx hZ (hw _ (List.mem_of_getElem? (i := 30) rfl)) eh0 (z := (3 : Int32)) (n := 3) (Ls := #[.val (.int (3 : Int32))]) (rest := []) (by decide) rfl (by decide) (by decide) (by decide) (ad := "[I") rfl (hb hby d5_27)
    have g_b10 : n0 ≤ b10 := Nat.le_trans Z0 (Nat.le_of_eq aq10.symm)
    have sz_b10 : h0.size ≤ b10 := Nat.le_trans (Keep.refl h0 []).1 (Nat.le_of_eq aq10.symm)
    have za11 : n0 ≤ h10.size := Nat.le_trans Z0 E10.1
    have Ka12 := (Keep.refl h0 []).ext E10
    have V10' : LA Z h10 b10 .int 3 (fun _ => (.int (0 : Int32))) := V10
    have ta10' := V10'.lt
    refine Gq.go (T10.setTop (mkF m 29 #[.val (.int (3 : Int32))] [(.ref b10)])) (fun tt_ kk_ => st10 tt_ kk_) ?_
    refine Gq.retA X10 hx Bd.notSynchronized Bd.returns rfl rfl rfl (hb hby d5_29) (by decide) (by decide) ?_
    show Q5 Z 3 h0 n0 _ T10.heap _
    rw [eh10]
    exact ⟨⟨b10, rfl, g_b10, sz_b10, V10', A10⟩, N0, Ka12⟩
theorem d17_0 : decode jdk_65_method_30_code 0 = .ok (.iload_n 1, 1) := by decide +kernel
theorem d17_1 : decode jdk_65_method_30_code 1 = .ok (.iload_n 2, 1) := by decide +kernel
theorem d17_2 : decode jdk_65_method_30_code 2 = .ok (.if_icmp .le 44, 3) := by decide +kernel
theorem d17_46 : decode jdk_65_method_30_code 46 = .ok (.iload_n 1, 1) := by decide +kernel
theorem d17_47 : decode jdk_65_method_30_code 47 = .ok (.ifCond .ge 12, 3) := by decide +kernel
theorem d17_59 : decode jdk_65_method_30_code 59 = .ok (.iload_n 2, 1) := by decide +kernel
theorem d17_60 : decode jdk_65_method_30_code 60 = .ok (.iload_n 0, 1) := by decide +kernel
theorem d17_61 : decode jdk_65_method_30_code 61 = .ok (.if_icmp .le 12, 3) := by decide +kernel
theorem d17_73 : decode jdk_65_method_30_code 73 = .ok (.return_, 1) := by decide +kernel
theorem pn_java_util_Arrays : plainName "java/util/Arrays" = true := by first | (simp [plainName, overriddenIn]; done) | decide +kernel
theorem ef17 (m : MethodId) (y0 : Int32) (y1 : Int32) (y2 : Int32) : entryFrame m #[(.int y0), (.int y1), (.int y2)] 3 = mkF m 0 #[.val (.int y0), .val (.int y1), .val (.int y2)] [] := by first | (simp [entryFrame, mkF, argsToLocals, Value.category]; done) | rfl
def Q17 (Z : State) (n : Nat) (lo : Nat) (hi : Nat) (h0 : Heap) (n0 : Nat) (v : Option Value) (h : Heap) (L : List Loc) : Prop := v = none ∧ Fr n0 L ∧ h = h0
set_option maxRecDepth 65536 in
set_option maxHeartbeats 40000000 in
theorem rm17 (l : Launch) (Z : State) (a0 : Array Value) (hw : ∀ d ∈ tables_1, d.before a0 Z = true) (ws : List Jvm.Cond) (n : Nat) (lo : Nat) (hi : Nat) (h0 : Heap) (n0 : Nat) (Z0 : n0 ≤ h0.size) (h1 : lo ≤ hi) (h2 : hi ≤ n) (h3 : n < 2 ^ 31) :
    MetFree l (⟨"java/util/Arrays", "rangeCheck", "(III)V"⟩ : MethodName) (head1 (Jvm.Cond.code (⟨"java/util/Arrays", "rangeCheck", "(III)V"⟩ : MethodName) jdk_65_method_30_code 3 none :: ws) ({ frames := 0, cells := 0, slots := 0, locals := 0 } : Room)) (fun a U => a = #[(.int (Int32.ofNat n)), (.int (Int32.ofNat lo)), (.int (Int32.ofNat hi))] ∧ Z.Warmed39 U.vm ∧ U.heap = h0) (fun _ _ _ _ _ => True) (fun _ U o U' => ∃ v L, o = .returned v ∧ Q17 Z n lo hi h0 n0 v U'.heap L ∧ FrameEnd U o U' L ({ frames := 0, cells := 0, slots := 0, locals := 0 } : Room).cells ({ frames := 0, cells := 0, slots := 0, locals := 0 } : Room).slots) := by
  refine MetFree.of_bodySF (plainFor_of_name pn_java_util_Arrays) hisR ?_
  intro p e s m args below meth c s₁ Bd hml0 hP hK
  obtain ⟨rfl, hZ, hh⟩ := hP
  have hx := Bd.exec
  have hby := Bd.bytes
  have hml : c.maxLocals = 3 := hml0
  have hown : s.vm.findClass "java/util/Arrays" = some m.cls := findClass_of_methodNamed Bd.named
  have hnm := (name_of_methodNamed Bd.named Bd.method).1
  have X0 : Stand p l e ({ frames := 0, cells := 0, slots := 0, locals := 0 } : Room) s m #[(.int (Int32.ofNat n)), (.int (Int32.ofNat lo)), (.int (Int32.ofNat hi))] below meth c s₁ [] 0 0 := Stand.of_body Bd
  have eh0 : s₁.heap = h0 := by rw [← hh, Bd.state]; rfl
  have N0 := Fr.nil n0
  refine Gq.start (Q := Q17 Z n lo hi h0 n0) (kc := ({ frames := 0, cells := 0, slots := 0, locals := 0 } : Room).cells) (ks := ({ frames := 0, cells := 0, slots := 0, locals := 0 } : Room).slots) (ef17 m (Int32.ofNat n) (Int32.ofNat lo) (Int32.ofNat hi)) ?_
  refine Gq.go (s₁.setTop (mkF m 1 #[.val (.int (Int32.ofNat n)), .val (.int (Int32.ofNat lo)), .val (.int (Int32.ofNat hi))] [(.int (Int32.ofNat lo))])) (fun tt_ kk_ => XS.iloadN X0.here hx rfl (hb hby d17_0) rfl kk_) ?_
  refine Gq.go (s₁.setTop (mkF m 2 #[.val (.int (Int32.ofNat n)), .val (.int (Int32.ofNat lo)), .val (.int (Int32.ofNat hi))] [(.int (Int32.ofNat hi)), (.int (Int32.ofNat lo))])) (fun tt_ kk_ => XS.iloadN X0.here hx rfl (hb hby d17_1) rfl kk_) ?_
  refine Gq.go (s₁.setTop (mkF m 46 #[.val (.int (Int32.ofNat n)), .val (.int (Int32.ofNat lo)), .val (.int (Int32.ofNat hi))] [])) (fun tt_ kk_ => XS.icmpYes X0.here hx rfl (pc0 := 2) (pc' := 46) rfl (hb hby d17_2) rfl (flt (fun q => absurd ((own_lt (by omega) (by omega)).mp q) (by omega))).2.2.2 (by decide) (by decide) kk_) ?_
  refine Gq.go (s₁.setTop (mkF m 47 #[.val (.int (Int32.ofNat n)), .val (.int (Int32.ofNat lo)), .val (.int (Int32.ofNat hi))] [(.int (Int32.ofNat lo))])) (fun tt_ kk_ => XS.iloadN X0.here hx rfl (hb hby d17_46) rfl kk_) ?_
  refine Gq.go (s₁.setTop (mkF m 59 #[.val (.int (Int32.ofNat n)), .val (.int (Int32.ofNat lo)), .val (.int (Int32.ofNat hi))] [])) (fun tt_ kk_ => XS.ifYes X0.here hx rfl (pc0 := 47) (pc' := 59) rfl (hb hby d17_47) rfl ((if0 _ _).trans (flt (own_nn (by omega))).2.1) (by decide) (by decide) kk_) ?_
  refine Gq.go (s₁.setTop (mkF m 60 #[.val (.int (Int32.ofNat n)), .val (.int (Int32.ofNat lo)), .val (.int (Int32.ofNat hi))] [(.int (Int32.ofNat hi))])) (fun tt_ kk_ => XS.iloadN X0.here hx rfl (hb hby d17_59) rfl kk_) ?_
  refine Gq.go (s₁.setTop (mkF m 61 #[.val (.int (Int32.ofNat n)), .val (.int (Int32.ofNat lo)), .val (.int (Int32.ofNat hi))] [(.int (Int32.ofNat n)), (.int (Int32.ofNat hi))])) (fun tt_ kk_ => XS.iloadN X0.here hx rfl (hb hby d17_60) rfl kk_) ?_
  refine Gq.go (s₁.setTop (mkF m 73 #[.val (.int (Int32.ofNat n)), .val (.int (Int32.ofNat lo)), .val (.int (Int32.ofNat hi))] [])) (fun tt_ kk_ => XS.icmpYes X0.here hx rfl (pc0 := 61) (pc' := 73) rfl (hb hby d17_61) rfl (flt (fun q => absurd ((own_lt (by omega) (by omega)).mp q) (by omega))).2.2.2 (by decide) (by decide) kk_) ?_
  refine Gq.retV X0 hx Bd.notSynchronized Bd.returns (hb hby d17_73) (by decide) (by decide) ?_
  show Q17 Z n lo hi h0 n0 _ s₁.heap _
  rw [eh0]
  exact ⟨rfl, N0, rfl⟩
theorem d16_0 : decode jdk_65_method_104_code 0 = .ok (.aload_n 0, 1) := by decide +kernel
theorem d16_1 : decode jdk_65_method_104_code 1 = .ok (.arraylength, 1) := by decide +kernel
theorem d16_2 : decode jdk_65_method_104_code 2 = .ok (.iload_n 1, 1) := by decide +kernel
theorem d16_3 : decode jdk_65_method_104_code 3 = .ok (.iload_n 2, 1) := by decide +kernel
theorem d16_4 : decode jdk_65_method_104_code 4 = .ok (.invokestatic 13, 3) := by decide +kernel
theorem d16_7 : decode jdk_65_method_104_code 7 = .ok (.iload_n 1, 1) := by decide +kernel
theorem d16_8 : decode jdk_65_method_104_code 8 = .ok (.istore 4, 2) := by decide +kernel
theorem d16_10 : decode jdk_65_method_104_code 10 = .ok (.iload 4, 2) := by decide +kernel
theorem d16_12 : decode jdk_65_method_104_code 12 = .ok (.iload_n 2, 1) := by decide +kernel
theorem d16_13 : decode jdk_65_method_104_code 13 = .ok (.if_icmp .ge 14, 3) := by decide +kernel
theorem d16_16 : decode jdk_65_method_104_code 16 = .ok (.aload_n 0, 1) := by decide +kernel
theorem d16_17 : decode jdk_65_method_104_code 17 = .ok (.iload 4, 2) := by decide +kernel
theorem d16_19 : decode jdk_65_method_104_code 19 = .ok (.iload_n 3, 1) := by decide +kernel
theorem d16_20 : decode jdk_65_method_104_code 20 = .ok (.iastore, 1) := by decide +kernel
theorem d16_21 : decode jdk_65_method_104_code 21 = .ok (.iinc 4 1, 3) := by decide +kernel
theorem d16_24 : decode jdk_65_method_104_code 24 = .ok (.goto (-14), 3) := by decide +kernel
theorem d16_27 : decode jdk_65_method_104_code 27 = .ok (.return_, 1) := by decide +kernel
theorem pd_7 : parseMethodDescriptor "(III)V" = some ⟨[.int, .int, .int], none⟩ := by decide +kernel
theorem ef16 (m : MethodId) (y0 : Addr) (y1 : Int32) (y2 : Int32) (y3 : Int32) : entryFrame m #[(.ref y0), (.int y1), (.int y2), (.int y3)] 5 = mkF m 0 #[.val (.ref y0), .val (.int y1), .val (.int y2), .val (.int y3), .unset] [] := by first | (simp [entryFrame, mkF, argsToLocals, Value.category]; done) | rfl
def Q16 (Z : State) (a1 : Addr) (n : Nat) (lo : Nat) (hi : Nat) (p3 : Int32) (f : Nat → Value) (h0 : Heap) (n0 : Nat) (v : Option Value) (h : Heap) (L : List Loc) : Prop := v = none ∧ Fr n0 L ∧ Keep h0 h [a1] ∧ ∃ f' : Nat → Value, LA Z h a1 .int n f'
set_option maxRecDepth 65536 in
set_option maxHeartbeats 40000000 in
theorem rm16 (l : Launch) (Z : State) (a0 : Array Value) (hw : ∀ d ∈ tables_1, d.before a0 Z = true) (ws : List Jvm.Cond) (a1 : Addr) (n : Nat) (lo : Nat) (hi : Nat) (p3 : Int32) (f : Nat → Value) (h0 : Heap) (n0 : Nat) (Z0 : n0 ≤ h0.size) (V1 : LA Z h0 a1 .int n f) (h1 : lo ≤ hi) (h2 : hi ≤ n) (h3 : n < 2 ^ 31) (ga : n0 ≤ a1) :
    MetFree l (⟨"java/util/Arrays", "fill", "([IIII)V"⟩ : MethodName) (head1 (Jvm.Cond.code (⟨"java/util/Arrays", "fill", "([IIII)V"⟩ : MethodName) jdk_65_method_104_code 5 none :: ws) ({ frames := 1, cells := 0, slots := 0, locals := 14 } : Room)) (fun a U => a = #[(.ref a1), (.int (Int32.ofNat lo)), (.int (Int32.ofNat hi)), (.int p3)] ∧ Z.Warmed39 U.vm ∧ U.heap = h0) (fun _ _ _ _ _ => True) (fun _ U o U' => ∃ v L, o = .returned v ∧ Q16 Z a1 n lo hi p3 f h0 n0 v U'.heap L ∧ FrameEnd U o U' L ({ frames := 1, cells := 0, slots := 0, locals := 14 } : Room).cells ({ frames := 1, cells := 0, slots := 0, locals := 14 } : Room).slots) := by
  refine MetFree.of_bodySF (plainFor_of_name pn_java_util_Arrays) hisR ?_
  intro p e s m args below meth c s₁ Bd hml0 hP hK
  obtain ⟨rfl, hZ, hh⟩ := hP
  have hx := Bd.exec
  have hby := Bd.bytes
  have hml : c.maxLocals = 5 := hml0
  have hown : s.vm.findClass "java/util/Arrays" = some m.cls := findClass_of_methodNamed Bd.named
  have hnm := (name_of_methodNamed Bd.named Bd.method).1
  have X0 : Stand p l e ({ frames := 1, cells := 0, slots := 0, locals := 14 } : Room) s m #[(.ref a1), (.int (Int32.ofNat lo)), (.int (Int32.ofNat hi)), (.int p3)] below meth c s₁ [] 0 0 := Stand.of_body Bd
  have eh0 : s₁.heap = h0 := by rw [← hh, Bd.state]; rfl
  have N0 := Fr.nil n0
  refine Gq.start (Q := Q16 Z a1 n lo hi p3 f h0 n0) (kc := ({ frames := 1, cells := 0, slots := 0, locals := 14 } : Room).cells) (ks := ({ frames := 1, cells := 0, slots := 0, locals := 14 } : Room).slots) (ef16 m a1 (Int32.ofNat lo) (Int32.ofNat hi) p3) ?_
  refine Gq.go (s₁.setTop (mkF m 1 #[.val (.ref a1), .val (.int (Int32.ofNat lo)), .val (.int (Int32.ofNat hi)), .val (.int p3), .unset] [(.ref a1)])) (fun tt_ kk_ => XS.aloadN X0.here hx rfl (hb hby d16_0) rfl rfl kk_) ?_
  refine Gq.go (s₁.setTop (mkF m 2 #[.val (.ref a1), .val (.int (Int32.ofNat lo)), .val (.int (Int32.ofNat hi)), .val (.int p3), .unset] [(.int (Int32.ofNat n))])) (fun tt_ kk_ => lenA X0 hx hZ eh0 V1 (hb hby d16_1) tt_ kk_) ?_
  refine Gq.go (s₁.setTop (mkF m 3 #[.val (.ref a1), .val (.int (Int32.ofNat lo)), .val (.int (Int32.ofNat hi)), .val (.int p3), .unset] [(.int (Int32.ofNat lo)), (.int (Int32.ofNat n))])) (fun tt_ kk_ => XS.iloadN X0.here hx rfl (hb hby d16_2) rfl kk_) ?_
  refine Gq.go (s₁.setTop (mkF m 4 #[.val (.ref a1), .val (.int (Int32.ofNat lo)), .val (.int (Int32.ofNat hi)), .val (.int p3), .unset] [(.int (Int32.ofNat hi)), (.int (Int32.ofNat lo)), (.int (Int32.ofNat n))])) (fun tt_ kk_ => XS.iloadN X0.here hx rfl (hb hby d16_3) rfl kk_) ?_
  obtain ⟨r1, T1, L1, X1, hQ1, st1⟩ := callT (pc := 4) (Ls := #[.val (.ref a1), .val (.int (Int32.ofNat lo)), .val (.int (Int32.ofNat hi)), .val (.int p3), .unset]) X0 hx hZ hown eh0 [(.int (Int32.ofNat n)), (.int (Int32.ofNat lo)), (.int (Int32.ofNat hi))] [] (hw _ (List.mem_of_getElem? (i := 105) rfl)) (hw _ (List.mem_of_getElem? (i := 106) rfl)) (hw _ (List.mem_of_getElem? (i := 103) rfl)) (hw _ (List.mem_of_getElem? (i := 107) rfl)) (by decide) (rm17 l Z a0 hw [] n lo hi h0 n0 Z0 h1 h2 h3) pd_7 rfl (by rw [hml]; rfl) (W := 0) (Nat.le_of_eq rfl) (by decide) (by decide) (by decide) (by decide) (hb hby d16_4)
  obtain ⟨rfl, N1q, eh1⟩ := hQ1
  have N1 := Fr.app N0 N1q
  refine Gq.go (T1.setTop (mkF m 7 #[.val (.ref a1), .val (.int (Int32.ofNat lo)), .val (.int (Int32.ofNat hi)), .val (.int p3), .unset] [])) (fun tt_ kk_ => st1 tt_ kk_) ?_
  have loop : ∀ k i : Nat, i + k = hi → ∀ (Tq : State) (Lq : List Loc) (hq : Heap) (fq : Nat → Value), Stand p l e ({ frames := 1, cells := 0, slots := 0, locals := 14 } : Room) s m #[(.ref a1), (.int (Int32.ofNat lo)), (.int (Int32.ofNat hi)), (.int p3)] below meth c Tq Lq 0 0 → Tq.heap = hq → Fr n0 Lq → n0 ≤ hq.size → LA Z hq a1 .int n fq → Keep h0 hq [a1] → Gq p.tables e below s (Q16 Z a1 n lo hi p3 f h0 n0) ({ frames := 1, cells := 0, slots := 0, locals := 14 } : Room).cells ({ frames := 1, cells := 0, slots := 0, locals := 14 } : Room).slots (Tq.setTop (mkF m 10 #[.val (.ref a1), .val (.int (Int32.ofNat lo)), .val (.int (Int32.ofNat hi)), .val (.int p3), .val (.int (Int32.ofNat i))] [])) := by
    intro k
    induction k with
    | zero =>
      intro i hik Tq Lq hq fq Xq ehq Nq zq Vq Kq
      refine Gq.go (Tq.setTop (mkF m 12 #[.val (.ref a1), .val (.int (Int32.ofNat lo)), .val (.int (Int32.ofNat hi)), .val (.int p3), .val (.int (Int32.ofNat i))] [(.int (Int32.ofNat i))])) (fun tt_ kk_ => XS.iload Xq.here hx rfl (hb hby d16_10) rfl kk_) ?_
      refine Gq.go (Tq.setTop (mkF m 13 #[.val (.ref a1), .val (.int (Int32.ofNat lo)), .val (.int (Int32.ofNat hi)), .val (.int p3), .val (.int (Int32.ofNat i))] [(.int (Int32.ofNat hi)), (.int (Int32.ofNat i))])) (fun tt_ kk_ => XS.iloadN Xq.here hx rfl (hb hby d16_12) rfl kk_) ?_
      refine Gq.go (Tq.setTop (mkF m 27 #[.val (.ref a1), .val (.int (Int32.ofNat lo)), .val (.int (Int32.ofNat hi)), .val (.int p3), .val (.int (Int32.ofNat i))] [])) (fun tt_ kk_ => XS.icmpYes Xq.here hx rfl (pc0 := 13) (pc' := 27) rfl (hb hby d16_13) rfl (flt (fun q => absurd ((own_lt (by omega) (by omega)).mp q) (by omega))).2.1 (by decide) (by decide) kk_) ?_
      refine Gq.retV Xq hx Bd.notSynchronized Bd.returns (hb hby d16_27) (by decide) (by decide) ?_
      show Q16 Z a1 n lo hi p3 f h0 n0 _ Tq.heap _
      rw [ehq]
      exact ⟨rfl, Nq, Kq, fq, Vq⟩
    | succ k ih =>
      intro i hik Tq Lq hq fq Xq ehq Nq zq Vq Kq
      refine Gq.go (Tq.setTop (mkF m 12 #[.val (.ref a1), .val (.int (Int32.ofNat lo)), .val (.int (Int32.ofNat hi)), .val (.int p3), .val (.int (Int32.ofNat i))] [(.int (Int32.ofNat i))])) (fun tt_ kk_ => XS.iload Xq.here hx rfl (hb hby d16_10) rfl kk_) ?_
      refine Gq.go (Tq.setTop (mkF m 13 #[.val (.ref a1), .val (.int (Int32.ofNat lo)), .val (.int (Int32.ofNat hi)), .val (.int p3), .val (.int (Int32.ofNat i))] [(.int (Int32.ofNat hi)), (.int (Int32.ofNat i))])) (fun tt_ kk_ => XS.iloadN Xq.here hx rfl (hb hby d16_12) rfl kk_) ?_
      refine Gq.go (Tq.setTop (mkF m 16 #[.val (.ref a1), .val (.int (Int32.ofNat lo)), .val (.int (Int32.ofNat hi)), .val (.int p3), .val (.int (Int32.ofNat i))] [])) (fun tt_ kk_ => XS.icmpNo Xq.here hx rfl (hb hby d16_13) rfl (tlt ((own_lt (by omega) (by omega)).mpr (by omega))).2.1 kk_) ?_
      refine Gq.go (Tq.setTop (mkF m 17 #[.val (.ref a1), .val (.int (Int32.ofNat lo)), .val (.int (Int32.ofNat hi)), .val (.int p3), .val (.int (Int32.ofNat i))] [(.ref a1)])) (fun tt_ kk_ => XS.aloadN Xq.here hx rfl (hb hby d16_16) rfl rfl kk_) ?_
      refine Gq.go (Tq.setTop (mkF m 19 #[.val (.ref a1), .val (.int (Int32.ofNat lo)), .val (.int (Int32.ofNat hi)), .val (.int p3), .val (.int (Int32.ofNat i))] [(.int (Int32.ofNat i)), (.ref a1)])) (fun tt_ kk_ => XS.iload Xq.here hx rfl (hb hby d16_17) rfl kk_) ?_
      refine Gq.go (Tq.setTop (mkF m 20 #[.val (.ref a1), .val (.int (Int32.ofNat lo)), .val (.int (Int32.ofNat hi)), .val (.int p3), .val (.int (Int32.ofNat i))] [(.int p3), (.int (Int32.ofNat i)), (.ref a1)])) (fun tt_ kk_ => XS.iloadN Xq.here hx rfl (hb hby d16_19) rfl kk_) ?_
      obtain ⟨T2, h2, X2, eh2, W2, st2⟩ := stoI Xq hx hZ ehq Vq (j := (Int32.ofNat i)) (i := i) (x := p3) (Ls := #[.val (.ref a1), .val (.int (Int32.ofNat lo)), .val (.int (Int32.ofNat hi)), .val (.int p3), .val (.int (Int32.ofNat i))]) (rest := []) (own_nn (by omega)) (own_nc (by omega)) (by omega) (hb hby d16_20)
      have ta3 := Nat.lt_of_lt_of_le Vq.lt (Nat.le_of_eq W2.size.symm)
      have za4 : n0 ≤ h2.size := Nat.le_trans zq (Nat.le_of_eq W2.size.symm)
      have V2 : LA Z h2 a1 .int n (upd fq i (.int p3)) := Vq.set W2
      have Ka5 := Kq.wr W2 (Or.inl (List.mem_of_getElem? (i := 0) rfl))
      have N2 := Fr.snoc X2 Nq ga
      refine Gq.go (T2.setTop (mkF m 21 #[.val (.ref a1), .val (.int (Int32.ofNat lo)), .val (.int (Int32.ofNat hi)), .val (.int p3), .val (.int (Int32.ofNat i))] [])) (fun tt_ kk_ => st2 tt_ kk_) ?_
      refine Gq.go (T2.setTop (mkF m 24 #[.val (.ref a1), .val (.int (Int32.ofNat lo)), .val (.int (Int32.ofNat hi)), .val (.int p3), .val (.int ((Int32.ofNat i) + (1 : Int32)))] [])) (fun tt_ kk_ => XS.iinc X2.here hx rfl (hb hby d16_21) rfl (l' := #[.val (.ref a1), .val (.int (Int32.ofNat lo)), .val (.int (Int32.ofNat hi)), .val (.int p3), .val (.int ((Int32.ofNat i) + (1 : Int32)))]) rfl kk_) ?_
      rw [show ((Int32.ofNat i) + (1 : Int32)) = Int32.ofNat (i + 1) from own_add i 1]
      refine Gq.go (T2.setTop (mkF m 10 #[.val (.ref a1), .val (.int (Int32.ofNat lo)), .val (.int (Int32.ofNat hi)), .val (.int p3), .val (.int (Int32.ofNat (i + 1)))] [])) (fun tt_ kk_ => XS.goto X2.here hx rfl (pc0 := 24) (pc' := 10) rfl (hb hby d16_24) (by decide) (by decide) kk_) ?_
      exact ih (i + 1) (by omega) _ _ _ _ X2 eh2 N2 za4 V2 Ka5
  refine Gq.go (T1.setTop (mkF m 8 #[.val (.ref a1), .val (.int (Int32.ofNat lo)), .val (.int (Int32.ofNat hi)), .val (.int p3), .unset] [(.int (Int32.ofNat lo))])) (fun tt_ kk_ => XS.iloadN X1.here hx rfl (hb hby d16_7) rfl kk_) ?_
  refine Gq.go (T1.setTop (mkF m 10 #[.val (.ref a1), .val (.int (Int32.ofNat lo)), .val (.int (Int32.ofNat hi)), .val (.int p3), .val (.int (Int32.ofNat lo))] [])) (fun tt_ kk_ => XS.istore X1.here hx rfl (hb hby d16_8) rfl (l' := #[.val (.ref a1), .val (.int (Int32.ofNat lo)), .val (.int (Int32.ofNat hi)), .val (.int p3), .val (.int (Int32.ofNat lo))]) rfl kk_) ?_
  exact loop (hi - lo) lo (by omega) _ _ _ _ X1 eh1 N1 Z0 V1 (Keep.refl h0 [a1])
theorem d11_0 : decode prog_46_method_1_code 0 = .ok (.aload_n 0, 1) := by decide +kernel
theorem d11_1 : decode prog_46_method_1_code 1 = .ok (.invokespecial 1, 3) := by decide +kernel
theorem d11_4 : decode prog_46_method_1_code 4 = .ok (.aload_n 0, 1) := by decide +kernel
theorem d11_5 : decode prog_46_method_1_code 5 = .ok (.aload_n 1, 1) := by decide +kernel
theorem d11_6 : decode prog_46_method_1_code 6 = .ok (.putfield 7, 3) := by decide +kernel
theorem d11_9 : decode prog_46_method_1_code 9 = .ok (.aload_n 0, 1) := by decide +kernel
theorem d11_10 : decode prog_46_method_1_code 10 = .ok (.aload_n 1, 1) := by decide +kernel
theorem d11_11 : decode prog_46_method_1_code 11 = .ok (.arraylength, 1) := by decide +kernel
theorem d11_12 : decode prog_46_method_1_code 12 = .ok (.iconst 1, 1) := by decide +kernel
theorem d11_13 : decode prog_46_method_1_code 13 = .ok (.iadd, 1) := by decide +kernel
theorem d11_14 : decode prog_46_method_1_code 14 = .ok (.newarray .int, 2) := by decide +kernel
theorem d11_16 : decode prog_46_method_1_code 16 = .ok (.putfield 13, 3) := by decide +kernel
theorem d11_19 : decode prog_46_method_1_code 19 = .ok (.iconst 0, 1) := by decide +kernel
theorem d11_20 : decode prog_46_method_1_code 20 = .ok (.istore 5, 2) := by decide +kernel
theorem d11_22 : decode prog_46_method_1_code 22 = .ok (.iload 5, 2) := by decide +kernel
theorem d11_24 : decode prog_46_method_1_code 24 = .ok (.aload_n 1, 1) := by decide +kernel
theorem d11_25 : decode prog_46_method_1_code 25 = .ok (.arraylength, 1) := by decide +kernel
theorem d11_26 : decode prog_46_method_1_code 26 = .ok (.if_icmp .ge 38, 3) := by decide +kernel
theorem d11_29 : decode prog_46_method_1_code 29 = .ok (.aload_n 0, 1) := by decide +kernel
theorem d11_30 : decode prog_46_method_1_code 30 = .ok (.getfield 13, 3) := by decide +kernel
theorem d11_33 : decode prog_46_method_1_code 33 = .ok (.iload 5, 2) := by decide +kernel
theorem d11_35 : decode prog_46_method_1_code 35 = .ok (.iconst 1, 1) := by decide +kernel
theorem d11_36 : decode prog_46_method_1_code 36 = .ok (.iadd, 1) := by decide +kernel
theorem d11_37 : decode prog_46_method_1_code 37 = .ok (.aload_n 0, 1) := by decide +kernel
theorem d11_38 : decode prog_46_method_1_code 38 = .ok (.getfield 13, 3) := by decide +kernel
theorem d11_41 : decode prog_46_method_1_code 41 = .ok (.iload 5, 2) := by decide +kernel
theorem d11_43 : decode prog_46_method_1_code 43 = .ok (.iaload, 1) := by decide +kernel
theorem d11_44 : decode prog_46_method_1_code 44 = .ok (.aload_n 2, 1) := by decide +kernel
theorem d11_45 : decode prog_46_method_1_code 45 = .ok (.iload 5, 2) := by decide +kernel
theorem d11_47 : decode prog_46_method_1_code 47 = .ok (.invokeinterface 16 2, 5) := by decide +kernel
theorem d11_52 : decode prog_46_method_1_code 52 = .ok (.checkcast 22, 3) := by decide +kernel
theorem d11_55 : decode prog_46_method_1_code 55 = .ok (.arraylength, 1) := by decide +kernel
theorem d11_56 : decode prog_46_method_1_code 56 = .ok (.iadd, 1) := by decide +kernel
theorem d11_57 : decode prog_46_method_1_code 57 = .ok (.iastore, 1) := by decide +kernel
theorem d11_58 : decode prog_46_method_1_code 58 = .ok (.iinc 5 1, 3) := by decide +kernel
theorem d11_61 : decode prog_46_method_1_code 61 = .ok (.goto (-39), 3) := by decide +kernel
theorem d11_64 : decode prog_46_method_1_code 64 = .ok (.aload_n 0, 1) := by decide +kernel
theorem d11_65 : decode prog_46_method_1_code 65 = .ok (.aload_n 0, 1) := by decide +kernel
theorem d11_66 : decode prog_46_method_1_code 66 = .ok (.getfield 13, 3) := by decide +kernel
theorem d11_69 : decode prog_46_method_1_code 69 = .ok (.aload_n 1, 1) := by decide +kernel
theorem d11_70 : decode prog_46_method_1_code 70 = .ok (.arraylength, 1) := by decide +kernel
theorem d11_71 : decode prog_46_method_1_code 71 = .ok (.iaload, 1) := by decide +kernel
theorem d11_72 : decode prog_46_method_1_code 72 = .ok (.newarray .int, 2) := by decide +kernel
theorem d11_74 : decode prog_46_method_1_code 74 = .ok (.putfield 23, 3) := by decide +kernel
theorem d11_77 : decode prog_46_method_1_code 77 = .ok (.aload_n 0, 1) := by decide +kernel
theorem d11_78 : decode prog_46_method_1_code 78 = .ok (.aload_n 0, 1) := by decide +kernel
theorem d11_79 : decode prog_46_method_1_code 79 = .ok (.getfield 23, 3) := by decide +kernel
theorem d11_82 : decode prog_46_method_1_code 82 = .ok (.arraylength, 1) := by decide +kernel
theorem d11_83 : decode prog_46_method_1_code 83 = .ok (.newarray .int, 2) := by decide +kernel
theorem d11_85 : decode prog_46_method_1_code 85 = .ok (.putfield 26, 3) := by decide +kernel
theorem d11_88 : decode prog_46_method_1_code 88 = .ok (.iconst 0, 1) := by decide +kernel
theorem d11_89 : decode prog_46_method_1_code 89 = .ok (.istore 5, 2) := by decide +kernel
theorem d11_91 : decode prog_46_method_1_code 91 = .ok (.iload 5, 2) := by decide +kernel
theorem d11_93 : decode prog_46_method_1_code 93 = .ok (.aload_n 1, 1) := by decide +kernel
theorem d11_94 : decode prog_46_method_1_code 94 = .ok (.arraylength, 1) := by decide +kernel
theorem d11_95 : decode prog_46_method_1_code 95 = .ok (.if_icmp .ge 69, 3) := by decide +kernel
theorem d11_98 : decode prog_46_method_1_code 98 = .ok (.aload_n 0, 1) := by decide +kernel
theorem d11_99 : decode prog_46_method_1_code 99 = .ok (.getfield 23, 3) := by decide +kernel
theorem d11_102 : decode prog_46_method_1_code 102 = .ok (.aload_n 0, 1) := by decide +kernel
theorem d11_103 : decode prog_46_method_1_code 103 = .ok (.getfield 13, 3) := by decide +kernel
theorem d11_106 : decode prog_46_method_1_code 106 = .ok (.iload 5, 2) := by decide +kernel
theorem d11_108 : decode prog_46_method_1_code 108 = .ok (.iaload, 1) := by decide +kernel
theorem d11_109 : decode prog_46_method_1_code 109 = .ok (.aload_n 0, 1) := by decide +kernel
theorem d11_110 : decode prog_46_method_1_code 110 = .ok (.getfield 13, 3) := by decide +kernel
theorem d11_113 : decode prog_46_method_1_code 113 = .ok (.iload 5, 2) := by decide +kernel
theorem d11_115 : decode prog_46_method_1_code 115 = .ok (.iconst 1, 1) := by decide +kernel
theorem d11_116 : decode prog_46_method_1_code 116 = .ok (.iadd, 1) := by decide +kernel
theorem d11_117 : decode prog_46_method_1_code 117 = .ok (.iaload, 1) := by decide +kernel
theorem d11_118 : decode prog_46_method_1_code 118 = .ok (.iload 5, 2) := by decide +kernel
theorem d11_120 : decode prog_46_method_1_code 120 = .ok (.invokestatic 29, 3) := by decide +kernel
theorem d11_123 : decode prog_46_method_1_code 123 = .ok (.aload_n 2, 1) := by decide +kernel
theorem d11_124 : decode prog_46_method_1_code 124 = .ok (.iload 5, 2) := by decide +kernel
theorem d11_126 : decode prog_46_method_1_code 126 = .ok (.invokeinterface 16 2, 5) := by decide +kernel
theorem d11_131 : decode prog_46_method_1_code 131 = .ok (.iconst 0, 1) := by decide +kernel
theorem d11_132 : decode prog_46_method_1_code 132 = .ok (.aload_n 0, 1) := by decide +kernel
theorem d11_133 : decode prog_46_method_1_code 133 = .ok (.getfield 26, 3) := by decide +kernel
theorem d11_136 : decode prog_46_method_1_code 136 = .ok (.aload_n 0, 1) := by decide +kernel
theorem d11_137 : decode prog_46_method_1_code 137 = .ok (.getfield 13, 3) := by decide +kernel
theorem d11_140 : decode prog_46_method_1_code 140 = .ok (.iload 5, 2) := by decide +kernel
theorem d11_142 : decode prog_46_method_1_code 142 = .ok (.iaload, 1) := by decide +kernel
theorem d11_143 : decode prog_46_method_1_code 143 = .ok (.aload_n 2, 1) := by decide +kernel
theorem d11_144 : decode prog_46_method_1_code 144 = .ok (.iload 5, 2) := by decide +kernel
theorem d11_146 : decode prog_46_method_1_code 146 = .ok (.invokeinterface 16 2, 5) := by decide +kernel
theorem d11_151 : decode prog_46_method_1_code 151 = .ok (.checkcast 22, 3) := by decide +kernel
theorem d11_154 : decode prog_46_method_1_code 154 = .ok (.arraylength, 1) := by decide +kernel
theorem d11_155 : decode prog_46_method_1_code 155 = .ok (.invokestatic 35, 3) := by decide +kernel
theorem d11_158 : decode prog_46_method_1_code 158 = .ok (.iinc 5 1, 3) := by decide +kernel
theorem d11_161 : decode prog_46_method_1_code 161 = .ok (.goto (-70), 3) := by decide +kernel
theorem d11_164 : decode prog_46_method_1_code 164 = .ok (.aload_n 0, 1) := by decide +kernel
theorem d11_165 : decode prog_46_method_1_code 165 = .ok (.iload_n 3, 1) := by decide +kernel
theorem d11_166 : decode prog_46_method_1_code 166 = .ok (.putfield 41, 3) := by decide +kernel
theorem d11_169 : decode prog_46_method_1_code 169 = .ok (.aload_n 0, 1) := by decide +kernel
theorem d11_170 : decode prog_46_method_1_code 170 = .ok (.iload 4, 2) := by decide +kernel
theorem d11_172 : decode prog_46_method_1_code 172 = .ok (.putfield 45, 3) := by decide +kernel
theorem d11_175 : decode prog_46_method_1_code 175 = .ok (.return_, 1) := by decide +kernel
theorem pd_8 : parseMethodDescriptor "([IIII)V" = some ⟨[(.array .int), .int, .int, .int], none⟩ := by decide +kernel
theorem pn_com_example_arbor2_arbor2_analysis_Tracks : plainName "com/example/arbor2/arbor2/analysis/Tracks" = true := by first | (simp [plainName, overriddenIn]; done) | decide +kernel
theorem ef11 (m : MethodId) (y0 : Addr) (y1 : Addr) (y2 : Addr) (y3 : Int32) (y4 : Int32) : entryFrame m #[(.ref y0), (.ref y1), (.ref y2), (.int y3), (.int y4)] 6 = mkF m 0 #[.val (.ref y0), .val (.ref y1), .val (.ref y2), .val (.int y3), .val (.int y4), .unset] [] := by first | (simp [entryFrame, mkF, argsToLocals, Value.category]; done) | rfl
def Q11 (Z : State) (a1 : Addr) (a2 : Addr) (a3 : Addr) (p3 : Int32) (p4 : Int32) (f2 : Nat → Value) (el : Addr) (y0 : Addr) (y1 : Addr) (y2 : Addr) (u0 : Nat) (u1 : Nat) (u2 : Nat) (h0 : Heap) (n0 : Nat) (v : Option Value) (h : Heap) (L : List Loc) : Prop := v = none ∧ Fr n0 L ∧ Keep h0 h [a1] ∧ ∃ fs : Addr, n0 ≤ fs ∧ h0.size ≤ fs ∧ Fld Z h a1 "com/example/arbor2/arbor2/analysis/Tracks" "firstSlots" "[I" (.ref fs) ∧ LA Z h fs .int 4 (gl [(.int (0 : Int32)), (.int (Int32.ofNat u0)), (.int (Int32.ofNat (u0 + u1))), (.int (Int32.ofNat (u0 + u1 + u2)))] (.int (0 : Int32)))
set_option maxRecDepth 65536 in
set_option maxHeartbeats 40000000 in
theorem rm11 (l : Launch) (Z : State) (a0 : Array Value) (hw : ∀ d ∈ tables_1, d.before a0 Z = true) (ws : List Jvm.Cond) (a1 : Addr) (a2 : Addr) (a3 : Addr) (p3 : Int32) (p4 : Int32) (f2 : Nat → Value) (el : Addr) (y0 : Addr) (y1 : Addr) (y2 : Addr) (u0 : Nat) (u1 : Nat) (u2 : Nat) (h0 : Heap) (n0 : Nat) (Z0 : n0 ≤ h0.size) (Ea : Exa Z h0 a1 "com/example/arbor2/arbor2/analysis/Tracks") (ga : n0 ≤ a1) (F_selections : Fld Z h0 a1 "com/example/arbor2/arbor2/analysis/Tracks" "selections" "[I" .null) (F_firstSlots : Fld Z h0 a1 "com/example/arbor2/arbor2/analysis/Tracks" "firstSlots" "[I" .null) (F_slotTracks : Fld Z h0 a1 "com/example/arbor2/arbor2/analysis/Tracks" "slotTracks" "[I" .null) (F_begins : Fld Z h0 a1 "com/example/arbor2/arbor2/analysis/Tracks" "begins" "[I" .null) (F_sink : Fld Z h0 a1 "com/example/arbor2/arbor2/analysis/Tracks" "sink" "I" (.int (0 : Int32))) (F_sharesPairs : Fld Z h0 a1 "com/example/arbor2/arbor2/analysis/Tracks" "sharesPairs" "Z" (.int (0 : Int32))) (V2 : LA Z h0 a2 .int 3 f2) (E3 : Exa Z h0 a3 "java/util/ArrayList") (Fe3 : Fld Z h0 a3 "java/util/ArrayList" "elementData" "[Ljava/lang/Object;" (.ref el)) (Fs3 : Fld Z h0 a3 "java/util/ArrayList" "size" "I" (.int (3 : Int32))) (R3 : RA Z h0 el 10 (gl [(.ref y0), (.ref y1), (.ref y2), .null, .null, .null, .null, .null, .null, .null] .null)) (Ey0 : Exa Z h0 y0 "[I") (Vy0 : LA Z h0 y0 .int u0 (fun _ => .int (0 : Int32))) (hu0 : u0 ≤ 3) (Ey1 : Exa Z h0 y1 "[I") (Vy1 : LA Z h0 y1 .int u1 (fun _ => .int (0 : Int32))) (hu1 : u1 ≤ 3) (Ey2 : Exa Z h0 y2 "[I") (Vy2 : LA Z h0 y2 .int u2 (fun _ => .int (0 : Int32))) (hu2 : u2 ≤ 3) (n_a2 : a2 ≠ a1) (n_a3 : a3 ≠ a1) (n_el : el ≠ a1) (n_y0 : y0 ≠ a1) (n_y1 : y1 ≠ a1) (n_y2 : y2 ≠ a1) :
    MetFree l (⟨"com/example/arbor2/arbor2/analysis/Tracks", "<init>", "([ILjava/util/List;IZ)V"⟩ : MethodName) (head1 (Jvm.Cond.code (⟨"com/example/arbor2/arbor2/analysis/Tracks", "<init>", "([ILjava/util/List;IZ)V"⟩ : MethodName) prog_46_method_1_code 6 none :: ws) ({ frames := 3, cells := 3, slots := 22, locals := 44 } : Room)) (fun a U => a = #[(.ref a1), (.ref a2), (.ref a3), (.int p3), (.int p4)] ∧ Z.Warmed39 U.vm ∧ U.heap = h0) (fun _ _ _ _ _ => True) (fun _ U o U' => ∃ v L, o = .returned v ∧ Q11 Z a1 a2 a3 p3 p4 f2 el y0 y1 y2 u0 u1 u2 h0 n0 v U'.heap L ∧ FrameEnd U o U' L ({ frames := 3, cells := 3, slots := 22, locals := 44 } : Room).cells ({ frames := 3, cells := 3, slots := 22, locals := 44 } : Room).slots) := by
  refine MetFree.of_bodySF (plainFor_of_name pn_com_example_arbor2_arbor2_analysis_Tracks) hisR ?_
  intro p e s m args below meth c s₁ Bd hml0 hP hK
  obtain ⟨rfl, hZ, hh⟩ := hP
  have hx := Bd.exec
  have hby := Bd.bytes
  have hml : c.maxLocals = 6 := hml0
  have hown : s.vm.findClass "com/example/arbor2/arbor2/analysis/Tracks" = some m.cls := findClass_of_methodNamed Bd.named
  have hnm := (name_of_methodNamed Bd.named Bd.method).1
  have X0 : Stand p l e ({ frames := 3, cells := 3, slots := 22, locals := 44 } : Room) s m #[(.ref a1), (.ref a2), (.ref a3), (.int p3), (.int p4)] below meth c s₁ [] 0 0 := Stand.of_body Bd
  have eh0 : s₁.heap = h0 := by rw [← hh, Bd.state]; rfl
  have N0 := Fr.nil n0
  refine Gq.start (Q := Q11 Z a1 a2 a3 p3 p4 f2 el y0 y1 y2 u0 u1 u2 h0 n0) (kc := ({ frames := 3, cells := 3, slots := 22, locals := 44 } : Room).cells) (ks := ({ frames := 3, cells := 3, slots := 22, locals := 44 } : Room).slots) (ef11 m a1 a2 a3 p3 p4) ?_
  refine Gq.go (s₁.setTop (mkF m 1 #[.val (.ref a1), .val (.ref a2), .val (.ref a3), .val (.int p3), .val (.int p4), .unset] [(.ref a1)])) (fun tt_ kk_ => XS.aloadN X0.here hx rfl (hb hby d11_0) rfl rfl kk_) ?_
  obtain ⟨T1, X1, eh1, st1⟩ := initO X0 hx hZ hown (hw _ (List.mem_of_getElem? (i := 68) rfl)) (hw _ (List.mem_of_getElem? (i := 19) rfl)) (hw _ (List.mem_of_getElem? (i := 20) rfl)) eh0 (g := (mkF m 1 #[.val (.ref a1), .val (.ref a2), .val (.ref a3), .val (.int p3), .val (.int p4), .unset] [(.ref a1)])) rfl (by rw [hml]; rfl) rfl (hb hby d11_1) (by decide) (W := 0) (by show 2 * 0 + _ ≤ _; exact Nat.le_of_eq rfl) (by decide)
  refine Gq.go (T1.setTop (mkF m 4 #[.val (.ref a1), .val (.ref a2), .val (.ref a3), .val (.int p3), .val (.int p4), .unset] [])) (fun tt_ kk_ => st1 _ kk_) ?_
  refine Gq.go (T1.setTop (mkF m 5 #[.val (.ref a1), .val (.ref a2), .val (.ref a3), .val (.int p3), .val (.int p4), .unset] [(.ref a1)])) (fun tt_ kk_ => XS.aloadN X1.here hx rfl (hb hby d11_4) rfl rfl kk_) ?_
  refine Gq.go (T1.setTop (mkF m 6 #[.val (.ref a1), .val (.ref a2), .val (.ref a3), .val (.int p3), .val (.int p4), .unset] [(.ref a2), (.ref a1)])) (fun tt_ kk_ => XS.aloadN X1.here hx rfl (hb hby d11_5) rfl rfl kk_) ?_
  obtain ⟨T2, h2, X2, eh2, W2, st2⟩ := putF X1 hx hZ hown (host := "") (Or.inl (hw _ (List.mem_of_getElem? (i := 69) rfl))) Via.refl eh1 F_selections Ea (Or.inr ⟨(hw _ (List.mem_of_getElem? (i := 70) rfl)), rfl, hnm⟩) (hw _ (List.mem_of_getElem? (i := 63) rfl)) (ty := (.array .int)) (by decide) rfl rfl (g := (mkF m 6 #[.val (.ref a1), .val (.ref a2), .val (.ref a3), .val (.int p3), .val (.int p4), .unset] [(.ref a2), (.ref a1)])) rfl rfl (hb hby d11_6)
  have Fw2 := F_selections.same W2
  have fa3 := Ea.wr W2
  have fa4 := F_firstSlots.other W2 (Or.inr (slot_ne (Or.inr (hw _ (List.mem_of_getElem? (i := 72) rfl))) (Or.inr (hw _ (List.mem_of_getElem? (i := 70) rfl))) (by decide) (t := (.array .int)) (t' := (.array .int)) (by decide) (by decide)))
  have fa5 := F_slotTracks.other W2 (Or.inr (slot_ne (Or.inr (hw _ (List.mem_of_getElem? (i := 98) rfl))) (Or.inr (hw _ (List.mem_of_getElem? (i := 70) rfl))) (by decide) (t := (.array .int)) (t' := (.array .int)) (by decide) (by decide)))
  have fa6 := F_begins.other W2 (Or.inr (slot_ne (Or.inr (hw _ (List.mem_of_getElem? (i := 100) rfl))) (Or.inr (hw _ (List.mem_of_getElem? (i := 70) rfl))) (by decide) (t := (.array .int)) (t' := (.array .int)) (by decide) (by decide)))
  have fa7 := F_sink.other W2 (Or.inr (slot_ne (Or.inr (hw _ (List.mem_of_getElem? (i := 113) rfl))) (Or.inr (hw _ (List.mem_of_getElem? (i := 70) rfl))) (by decide) (t := .int) (t' := (.array .int)) (by decide) (by decide)))
  have fa8 := F_sharesPairs.other W2 (Or.inr (slot_ne (Or.inr (hw _ (List.mem_of_getElem? (i := 115) rfl))) (Or.inr (hw _ (List.mem_of_getElem? (i := 70) rfl))) (by decide) (t := .boolean) (t' := (.array .int)) (by decide) (by decide)))
  have fa9 := V2.other W2 n_a2
  have fa10 := E3.wr W2
  have fa11 := Fe3.other W2 (Or.inl n_a3)
  have fa12 := Fs3.other W2 (Or.inl n_a3)
  have fa13 := R3.other W2 n_el
  have fa14 := Ey0.wr W2
  have fa15 := Vy0.other W2 n_y0
  have fa16 := Ey1.wr W2
  have fa17 := Vy1.other W2 n_y1
  have fa18 := Ey2.wr W2
  have fa19 := Vy2.other W2 n_y2
  have ta20 := Nat.lt_of_lt_of_le Ea.lt (Nat.le_of_eq W2.size.symm)
  have ta21 := Nat.lt_of_lt_of_le V2.lt (Nat.le_of_eq W2.size.symm)
  have ta22 := Nat.lt_of_lt_of_le E3.lt (Nat.le_of_eq W2.size.symm)
  have ta23 := Nat.lt_of_lt_of_le R3.lt (Nat.le_of_eq W2.size.symm)
  have ta24 := Nat.lt_of_lt_of_le Ey0.lt (Nat.le_of_eq W2.size.symm)
  have ta25 := Nat.lt_of_lt_of_le Ey1.lt (Nat.le_of_eq W2.size.symm)
  have ta26 := Nat.lt_of_lt_of_le Ey2.lt (Nat.le_of_eq W2.size.symm)
  have za27 : n0 ≤ h2.size := Nat.le_trans Z0 (Nat.le_of_eq W2.size.symm)
  have Ka28 := (Keep.refl h0 [a1]).wr W2 (Or.inl (List.mem_of_getElem? (i := 0) rfl))
  have N2 := Fr.snoc X2 N0 ga
  refine Gq.go (T2.setTop (mkF m 9 #[.val (.ref a1), .val (.ref a2), .val (.ref a3), .val (.int p3), .val (.int p4), .unset] [])) (fun tt_ kk_ => st2 _ kk_) ?_
  refine Gq.go (T2.setTop (mkF m 10 #[.val (.ref a1), .val (.ref a2), .val (.ref a3), .val (.int p3), .val (.int p4), .unset] [(.ref a1)])) (fun tt_ kk_ => XS.aloadN X2.here hx rfl (hb hby d11_9) rfl rfl kk_) ?_
  refine Gq.go (T2.setTop (mkF m 11 #[.val (.ref a1), .val (.ref a2), .val (.ref a3), .val (.int p3), .val (.int p4), .unset] [(.ref a2), (.ref a1)])) (fun tt_ kk_ => XS.aloadN X2.here hx rfl (hb hby d11_10) rfl rfl kk_) ?_
  refine Gq.go (T2.setTop (mkF m 12 #[.val (.ref a1), .val (.ref a2), .val (.ref a3), .val (.int p3), .val (.int p4), .unset] [(.int (3 : Int32)), (.ref a1)])) (fun tt_ kk_ => lenA X2 hx hZ eh2 fa9 (hb hby d11_11) tt_ kk_) ?_
  refine Gq.go (T2.setTop (mkF m 13 #[.val (.ref a1), .val (.ref a2), .val (.ref a3), .val (.int p3), .val (.int p4), .unset] [(.int (1 : Int32)), (.int (3 : Int32)), (.ref a1)])) (fun tt_ kk_ => XS.iconst X2.here hx rfl (hb hby d11_12) kk_) ?_
  refine Gq.go (T2.setTop (mkF m 14 #[.val (.ref a1), .val (.ref a2), .val (.ref a3), .val (.int p3), .val (.int p4), .unset] [(.int (4 : Int32)), (.ref a1)])) (fun tt_ kk_ => XS.iadd X2.here hx rfl (hb hby d11_13) rfl kk_) ?_
  obtain ⟨T29, h29, b29, X29, eh29, E29, aq29, V29, st29⟩ := mkA X2 hx hZ (hw _ (List.mem_of_getElem? (i := 30) rfl)) eh2 (z := (4 : Int32)) (n := 4) (Ls := #[.val (.ref a1), .val (.ref a2), .val (.ref a3), .val (.int p3), .val (.int p4), .unset]) (rest := [(.ref a1)]) (by decide) rfl (by decide) (by decide) (by decide) (hb hby d11_14)
  have g_b29 : n0 ≤ b29 := Nat.le_trans za27 (Nat.le_of_eq aq29.symm)
  have sz_b29 : h0.size ≤ b29 := Nat.le_trans Ka28.1 (Nat.le_of_eq aq29.symm)
  have ne_a1_b29 : a1 ≠ b29 := Nat.ne_of_lt (Nat.lt_of_lt_of_le ta20 (Nat.le_of_eq aq29.symm))
  have ne_a2_b29 : a2 ≠ b29 := Nat.ne_of_lt (Nat.lt_of_lt_of_le ta21 (Nat.le_of_eq aq29.symm))
  have ne_a3_b29 : a3 ≠ b29 := Nat.ne_of_lt (Nat.lt_of_lt_of_le ta22 (Nat.le_of_eq aq29.symm))
  have ne_el_b29 : el ≠ b29 := Nat.ne_of_lt (Nat.lt_of_lt_of_le ta23 (Nat.le_of_eq aq29.symm))
  have ne_y0_b29 : y0 ≠ b29 := Nat.ne_of_lt (Nat.lt_of_lt_of_le ta24 (Nat.le_of_eq aq29.symm))
  have ne_y1_b29 : y1 ≠ b29 := Nat.ne_of_lt (Nat.lt_of_lt_of_le ta25 (Nat.le_of_eq aq29.symm))
  have ne_y2_b29 : y2 ≠ b29 := Nat.ne_of_lt (Nat.lt_of_lt_of_le ta26 (Nat.le_of_eq aq29.symm))
  have fa30 := fa3.ext E29
  have fa31 := fa4.ext E29
  have fa32 := fa5.ext E29
  have fa33 := fa6.ext E29
  have fa34 := fa7.ext E29
  have fa35 := fa8.ext E29
  have fa36 := fa9.ext E29
  have fa37 := fa10.ext E29
  have fa38 := fa11.ext E29
  have fa39 := fa12.ext E29
  have fa40 := fa13.ext E29
  have fa41 := fa14.ext E29
  have fa42 := fa15.ext E29
  have fa43 := fa16.ext E29
  have fa44 := fa17.ext E29
  have fa45 := fa18.ext E29
  have fa46 := fa19.ext E29
  have fa47 := Fw2.ext E29
  have ta48 := Nat.lt_of_lt_of_le ta20 E29.1
  have ta49 := Nat.lt_of_lt_of_le ta21 E29.1
  have ta50 := Nat.lt_of_lt_of_le ta22 E29.1
  have ta51 := Nat.lt_of_lt_of_le ta23 E29.1
  have ta52 := Nat.lt_of_lt_of_le ta24 E29.1
  have ta53 := Nat.lt_of_lt_of_le ta25 E29.1
  have ta54 := Nat.lt_of_lt_of_le ta26 E29.1
  have za55 : n0 ≤ h29.size := Nat.le_trans za27 E29.1
  have Ka56 := Ka28.ext E29
  have V29' : LA Z h29 b29 .int 4 (gl [(.int (0 : Int32)), (.int (0 : Int32)), (.int (0 : Int32)), (.int (0 : Int32))] (.int (0 : Int32))) := V29.list
  have ta29' := V29'.lt
  refine Gq.go (T29.setTop (mkF m 16 #[.val (.ref a1), .val (.ref a2), .val (.ref a3), .val (.int p3), .val (.int p4), .unset] [(.ref b29), (.ref a1)])) (fun tt_ kk_ => st29 tt_ kk_) ?_
  obtain ⟨T57, h57, X57, eh57, W57, st57⟩ := putF X29 hx hZ hown (host := "") (Or.inl (hw _ (List.mem_of_getElem? (i := 71) rfl))) Via.refl eh29 fa31 fa30 (Or.inr ⟨(hw _ (List.mem_of_getElem? (i := 72) rfl)), rfl, hnm⟩) (hw _ (List.mem_of_getElem? (i := 63) rfl)) (ty := (.array .int)) (by decide) rfl rfl (g := (mkF m 16 #[.val (.ref a1), .val (.ref a2), .val (.ref a3), .val (.int p3), .val (.int p4), .unset] [(.ref b29), (.ref a1)])) rfl rfl (hb hby d11_16)
  have Fw57 := fa31.same W57
  have fa58 := fa30.wr W57
  have fa59 := fa32.other W57 (Or.inr (slot_ne (Or.inr (hw _ (List.mem_of_getElem? (i := 98) rfl))) (Or.inr (hw _ (List.mem_of_getElem? (i := 72) rfl))) (by decide) (t := (.array .int)) (t' := (.array .int)) (by decide) (by decide)))
  have fa60 := fa33.other W57 (Or.inr (slot_ne (Or.inr (hw _ (List.mem_of_getElem? (i := 100) rfl))) (Or.inr (hw _ (List.mem_of_getElem? (i := 72) rfl))) (by decide) (t := (.array .int)) (t' := (.array .int)) (by decide) (by decide)))
  have fa61 := fa34.other W57 (Or.inr (slot_ne (Or.inr (hw _ (List.mem_of_getElem? (i := 113) rfl))) (Or.inr (hw _ (List.mem_of_getElem? (i := 72) rfl))) (by decide) (t := .int) (t' := (.array .int)) (by decide) (by decide)))
  have fa62 := fa35.other W57 (Or.inr (slot_ne (Or.inr (hw _ (List.mem_of_getElem? (i := 115) rfl))) (Or.inr (hw _ (List.mem_of_getElem? (i := 72) rfl))) (by decide) (t := .boolean) (t' := (.array .int)) (by decide) (by decide)))
  have fa63 := fa36.other W57 n_a2
  have fa64 := fa37.wr W57
  have fa65 := fa38.other W57 (Or.inl n_a3)
  have fa66 := fa39.other W57 (Or.inl n_a3)
  have fa67 := fa40.other W57 n_el
  have fa68 := fa41.wr W57
  have fa69 := fa42.other W57 n_y0
  have fa70 := fa43.wr W57
  have fa71 := fa44.other W57 n_y1
  have fa72 := fa45.wr W57
  have fa73 := fa46.other W57 n_y2
  have fa74 := fa47.other W57 (Or.inr (slot_ne (Or.inr (hw _ (List.mem_of_getElem? (i := 70) rfl))) (Or.inr (hw _ (List.mem_of_getElem? (i := 72) rfl))) (by decide) (t := (.array .int)) (t' := (.array .int)) (by decide) (by decide)))
  have fa75 := V29'.other W57 (Ne.symm ne_a1_b29)
  have ta76 := Nat.lt_of_lt_of_le ta48 (Nat.le_of_eq W57.size.symm)
  have ta77 := Nat.lt_of_lt_of_le ta49 (Nat.le_of_eq W57.size.symm)
  have ta78 := Nat.lt_of_lt_of_le ta50 (Nat.le_of_eq W57.size.symm)
  have ta79 := Nat.lt_of_lt_of_le ta51 (Nat.le_of_eq W57.size.symm)
  have ta80 := Nat.lt_of_lt_of_le ta52 (Nat.le_of_eq W57.size.symm)
  have ta81 := Nat.lt_of_lt_of_le ta53 (Nat.le_of_eq W57.size.symm)
  have ta82 := Nat.lt_of_lt_of_le ta54 (Nat.le_of_eq W57.size.symm)
  have ta83 := Nat.lt_of_lt_of_le ta29' (Nat.le_of_eq W57.size.symm)
  have za84 : n0 ≤ h57.size := Nat.le_trans za55 (Nat.le_of_eq W57.size.symm)
  have Ka85 := Ka56.wr W57 (Or.inl (List.mem_of_getElem? (i := 0) rfl))
  have N57 := Fr.snoc X57 N2 ga
  refine Gq.go (T57.setTop (mkF m 19 #[.val (.ref a1), .val (.ref a2), .val (.ref a3), .val (.int p3), .val (.int p4), .unset] [])) (fun tt_ kk_ => st57 _ kk_) ?_
  refine Gq.go (T57.setTop (mkF m 20 #[.val (.ref a1), .val (.ref a2), .val (.ref a3), .val (.int p3), .val (.int p4), .unset] [(.int (0 : Int32))])) (fun tt_ kk_ => XS.iconst X57.here hx rfl (hb hby d11_19) kk_) ?_
  refine Gq.go (T57.setTop (mkF m 22 #[.val (.ref a1), .val (.ref a2), .val (.ref a3), .val (.int p3), .val (.int p4), .val (.int (0 : Int32))] [])) (fun tt_ kk_ => XS.istore X57.here hx rfl (hb hby d11_20) rfl (l' := #[.val (.ref a1), .val (.ref a2), .val (.ref a3), .val (.int p3), .val (.int p4), .val (.int (0 : Int32))]) rfl kk_) ?_
  refine Gq.go (T57.setTop (mkF m 24 #[.val (.ref a1), .val (.ref a2), .val (.ref a3), .val (.int p3), .val (.int p4), .val (.int (0 : Int32))] [(.int (0 : Int32))])) (fun tt_ kk_ => XS.iload X57.here hx rfl (hb hby d11_22) rfl kk_) ?_
  refine Gq.go (T57.setTop (mkF m 25 #[.val (.ref a1), .val (.ref a2), .val (.ref a3), .val (.int p3), .val (.int p4), .val (.int (0 : Int32))] [(.ref a2), (.int (0 : Int32))])) (fun tt_ kk_ => XS.aloadN X57.here hx rfl (hb hby d11_24) rfl rfl kk_) ?_
  refine Gq.go (T57.setTop (mkF m 26 #[.val (.ref a1), .val (.ref a2), .val (.ref a3), .val (.int p3), .val (.int p4), .val (.int (0 : Int32))] [(.int (3 : Int32)), (.int (0 : Int32))])) (fun tt_ kk_ => lenA X57 hx hZ eh57 fa63 (hb hby d11_25) tt_ kk_) ?_
  refine Gq.go (T57.setTop (mkF m 29 #[.val (.ref a1), .val (.ref a2), .val (.ref a3), .val (.int p3), .val (.int p4), .val (.int (0 : Int32))] [])) (fun tt_ kk_ => XS.icmpNo X57.here hx rfl (hb hby d11_26) rfl (tlt (by decide : ((0 : Int32) < (3 : Int32)))).2.1 kk_) ?_
  refine Gq.go (T57.setTop (mkF m 30 #[.val (.ref a1), .val (.ref a2), .val (.ref a3), .val (.int p3), .val (.int p4), .val (.int (0 : Int32))] [(.ref a1)])) (fun tt_ kk_ => XS.aloadN X57.here hx rfl (hb hby d11_29) rfl rfl kk_) ?_
  obtain ⟨T86, X86, eh86, st86⟩ := getF X57 hx hZ hown (host := "") (Or.inl (hw _ (List.mem_of_getElem? (i := 71) rfl))) Via.refl eh57 Fw57 (g := (mkF m 30 #[.val (.ref a1), .val (.ref a2), .val (.ref a3), .val (.int p3), .val (.int p4), .val (.int (0 : Int32))] [(.ref a1)])) rfl rfl (hb hby d11_30)
  refine Gq.go (T86.setTop (mkF m 33 #[.val (.ref a1), .val (.ref a2), .val (.ref a3), .val (.int p3), .val (.int p4), .val (.int (0 : Int32))] [(.ref b29)])) (fun tt_ kk_ => st86 _ kk_) ?_
  refine Gq.go (T86.setTop (mkF m 35 #[.val (.ref a1), .val (.ref a2), .val (.ref a3), .val (.int p3), .val (.int p4), .val (.int (0 : Int32))] [(.int (0 : Int32)), (.ref b29)])) (fun tt_ kk_ => XS.iload X86.here hx rfl (hb hby d11_33) rfl kk_) ?_
  refine Gq.go (T86.setTop (mkF m 36 #[.val (.ref a1), .val (.ref a2), .val (.ref a3), .val (.int p3), .val (.int p4), .val (.int (0 : Int32))] [(.int (1 : Int32)), (.int (0 : Int32)), (.ref b29)])) (fun tt_ kk_ => XS.iconst X86.here hx rfl (hb hby d11_35) kk_) ?_
  refine Gq.go (T86.setTop (mkF m 37 #[.val (.ref a1), .val (.ref a2), .val (.ref a3), .val (.int p3), .val (.int p4), .val (.int (0 : Int32))] [(.int (1 : Int32)), (.ref b29)])) (fun tt_ kk_ => XS.iadd X86.here hx rfl (hb hby d11_36) rfl kk_) ?_
  refine Gq.go (T86.setTop (mkF m 38 #[.val (.ref a1), .val (.ref a2), .val (.ref a3), .val (.int p3), .val (.int p4), .val (.int (0 : Int32))] [(.ref a1), (.int (1 : Int32)), (.ref b29)])) (fun tt_ kk_ => XS.aloadN X86.here hx rfl (hb hby d11_37) rfl rfl kk_) ?_
  obtain ⟨T87, X87, eh87, st87⟩ := getF X86 hx hZ hown (host := "") (Or.inl (hw _ (List.mem_of_getElem? (i := 71) rfl))) Via.refl eh86 Fw57 (g := (mkF m 38 #[.val (.ref a1), .val (.ref a2), .val (.ref a3), .val (.int p3), .val (.int p4), .val (.int (0 : Int32))] [(.ref a1), (.int (1 : Int32)), (.ref b29)])) rfl rfl (hb hby d11_38)
  refine Gq.go (T87.setTop (mkF m 41 #[.val (.ref a1), .val (.ref a2), .val (.ref a3), .val (.int p3), .val (.int p4), .val (.int (0 : Int32))] [(.ref b29), (.int (1 : Int32)), (.ref b29)])) (fun tt_ kk_ => st87 _ kk_) ?_
  refine Gq.go (T87.setTop (mkF m 43 #[.val (.ref a1), .val (.ref a2), .val (.ref a3), .val (.int p3), .val (.int p4), .val (.int (0 : Int32))] [(.int (0 : Int32)), (.ref b29), (.int (1 : Int32)), (.ref b29)])) (fun tt_ kk_ => XS.iload X87.here hx rfl (hb hby d11_41) rfl kk_) ?_
  refine Gq.go (T87.setTop (mkF m 44 #[.val (.ref a1), .val (.ref a2), .val (.ref a3), .val (.int p3), .val (.int p4), .val (.int (0 : Int32))] [(.int (0 : Int32)), (.int (1 : Int32)), (.ref b29)])) (fun tt_ kk_ => ldI X87 hx hZ eh87 fa75 (j := (0 : Int32)) (i := 0) (x := (0 : Int32)) (by decide) rfl (by decide) rfl (hb hby d11_43) tt_ kk_) ?_
  refine Gq.go (T87.setTop (mkF m 45 #[.val (.ref a1), .val (.ref a2), .val (.ref a3), .val (.int p3), .val (.int p4), .val (.int (0 : Int32))] [(.ref a3), (.int (0 : Int32)), (.int (1 : Int32)), (.ref b29)])) (fun tt_ kk_ => XS.aloadN X87.here hx rfl (hb hby d11_44) rfl rfl kk_) ?_
  refine Gq.go (T87.setTop (mkF m 47 #[.val (.ref a1), .val (.ref a2), .val (.ref a3), .val (.int p3), .val (.int p4), .val (.int (0 : Int32))] [(.int (0 : Int32)), (.ref a3), (.int (0 : Int32)), (.int (1 : Int32)), (.ref b29)])) (fun tt_ kk_ => XS.iload X87.here hx rfl (hb hby d11_45) rfl kk_) ?_
  obtain ⟨r88, T88, L88, X88, hQ88, st88⟩ := callF (pc := 47) (Ls := #[.val (.ref a1), .val (.ref a2), .val (.ref a3), .val (.int p3), .val (.int p4), .val (.int (0 : Int32))]) X87 hx hZ hown eh87 a3 [(.int (0 : Int32))] [(.int (0 : Int32)), (.int (1 : Int32)), (.ref b29)] fa64 (hw _ (List.mem_of_getElem? (i := 73) rfl)) (hw _ (List.mem_of_getElem? (i := 74) rfl)) (mvT hZ (hw _ (List.mem_of_getElem? (i := 75) rfl))) (hw _ (List.mem_of_getElem? (i := 76) rfl)) (hw _ (List.mem_of_getElem? (i := 77) rfl)) (hw _ (List.mem_of_getElem? (i := 78) rfl)) (hw _ (List.mem_of_getElem? (i := 79) rfl)) (hw _ (List.mem_of_getElem? (i := 80) rfl)) (hw _ (List.mem_of_getElem? (i := 2) rfl)) (hw _ (List.mem_of_getElem? (i := 81) rfl)) (by decide) (rm12 l Z a0 hw [] a3 0 el (gl [(.ref y0), (.ref y1), (.ref y2), .null, .null, .null, .null, .null, .null, .null] .null) y0 h57 n0 za84 fa64 fa65 fa66 fa67 (by decide) rfl) pd_6 rfl (by rw [hml]; rfl) (W := 3) (Nat.le_of_eq rfl) (by decide) (by decide) (by decide) (by decide) (hb hby d11_47)
  obtain ⟨rfl, N88q, eh88⟩ := hQ88
  have N88 := Fr.app N57 N88q
  refine Gq.go (T88.setTop (mkF m 52 #[.val (.ref a1), .val (.ref a2), .val (.ref a3), .val (.int p3), .val (.int p4), .val (.int (0 : Int32))] [(.ref y0), (.int (0 : Int32)), (.int (1 : Int32)), (.ref b29)])) (fun tt_ kk_ => st88 tt_ kk_) ?_
  obtain ⟨T89, X89, eh89, st89⟩ := castY X88 hx hZ hown (hw _ (List.mem_of_getElem? (i := 95) rfl)) eh88 (Ins.self fa68) (g := (mkF m 52 #[.val (.ref a1), .val (.ref a2), .val (.ref a3), .val (.int p3), .val (.int p4), .val (.int (0 : Int32))] [(.ref y0), (.int (0 : Int32)), (.int (1 : Int32)), (.ref b29)])) rfl rfl (hb hby d11_52)
  refine Gq.go (T89.setTop (mkF m 55 #[.val (.ref a1), .val (.ref a2), .val (.ref a3), .val (.int p3), .val (.int p4), .val (.int (0 : Int32))] [(.ref y0), (.int (0 : Int32)), (.int (1 : Int32)), (.ref b29)])) (fun tt_ kk_ => st89 _ kk_) ?_
  refine Gq.go (T89.setTop (mkF m 56 #[.val (.ref a1), .val (.ref a2), .val (.ref a3), .val (.int p3), .val (.int p4), .val (.int (0 : Int32))] [(.int (Int32.ofNat u0)), (.int (0 : Int32)), (.int (1 : Int32)), (.ref b29)])) (fun tt_ kk_ => lenA X89 hx hZ eh89 fa69 (hb hby d11_55) tt_ kk_) ?_
  refine Gq.go (T89.setTop (mkF m 57 #[.val (.ref a1), .val (.ref a2), .val (.ref a3), .val (.int p3), .val (.int p4), .val (.int (0 : Int32))] [(.int ((0 : Int32) + (Int32.ofNat u0))), (.int (1 : Int32)), (.ref b29)])) (fun tt_ kk_ => XS.iadd X89.here hx rfl (hb hby d11_56) rfl kk_) ?_
  rw [show ((0 : Int32) + (Int32.ofNat u0)) = (Int32.ofNat u0) from by rw [show (0 : Int32) = Int32.ofNat 0 from rfl, own_add, Nat.zero_add]]
  obtain ⟨T90, h90, X90, eh90, W90, st90⟩ := stoI X89 hx hZ eh89 fa75 (j := (1 : Int32)) (i := 1) (x := (Int32.ofNat u0)) (Ls := #[.val (.ref a1), .val (.ref a2), .val (.ref a3), .val (.int p3), .val (.int p4), .val (.int (0 : Int32))]) (rest := []) (by decide) rfl (by decide) (hb hby d11_57)
  have fa91 := fa58.wr W90
  have fa92 := fa59.other W90 (Or.inl ne_a1_b29)
  have fa93 := fa60.other W90 (Or.inl ne_a1_b29)
  have fa94 := fa61.other W90 (Or.inl ne_a1_b29)
  have fa95 := fa62.other W90 (Or.inl ne_a1_b29)
  have fa96 := fa63.other W90 ne_a2_b29
  have fa97 := fa64.wr W90
  have fa98 := fa65.other W90 (Or.inl ne_a3_b29)
  have fa99 := fa66.other W90 (Or.inl ne_a3_b29)
  have fa100 := fa67.other W90 ne_el_b29
  have fa101 := fa68.wr W90
  have fa102 := fa69.other W90 ne_y0_b29
  have fa103 := fa70.wr W90
  have fa104 := fa71.other W90 ne_y1_b29
  have fa105 := fa72.wr W90
  have fa106 := fa73.other W90 ne_y2_b29
  have fa107 := fa74.other W90 (Or.inl ne_a1_b29)
  have fa108 := Fw57.other W90 (Or.inl ne_a1_b29)
  have ta109 := Nat.lt_of_lt_of_le ta76 (Nat.le_of_eq W90.size.symm)
  have ta110 := Nat.lt_of_lt_of_le ta77 (Nat.le_of_eq W90.size.symm)
  have ta111 := Nat.lt_of_lt_of_le ta78 (Nat.le_of_eq W90.size.symm)
  have ta112 := Nat.lt_of_lt_of_le ta79 (Nat.le_of_eq W90.size.symm)
  have ta113 := Nat.lt_of_lt_of_le ta80 (Nat.le_of_eq W90.size.symm)
  have ta114 := Nat.lt_of_lt_of_le ta81 (Nat.le_of_eq W90.size.symm)
  have ta115 := Nat.lt_of_lt_of_le ta82 (Nat.le_of_eq W90.size.symm)
  have ta116 := Nat.lt_of_lt_of_le ta83 (Nat.le_of_eq W90.size.symm)
  have za117 : n0 ≤ h90.size := Nat.le_trans za84 (Nat.le_of_eq W90.size.symm)
  have V90 : LA Z h90 b29 .int 4 (gl [(.int (0 : Int32)), (.int (Int32.ofNat u0)), (.int (0 : Int32)), (.int (0 : Int32))] (.int (0 : Int32))) := fa75.setL W90 (Nat.le_of_ble_eq_true rfl)
  have Ka118 := Ka85.wr W90 (Or.inr sz_b29)
  have N90 := Fr.snoc X90 N88 g_b29
  refine Gq.go (T90.setTop (mkF m 58 #[.val (.ref a1), .val (.ref a2), .val (.ref a3), .val (.int p3), .val (.int p4), .val (.int (0 : Int32))] [])) (fun tt_ kk_ => st90 tt_ kk_) ?_
  refine Gq.go (T90.setTop (mkF m 61 #[.val (.ref a1), .val (.ref a2), .val (.ref a3), .val (.int p3), .val (.int p4), .val (.int (1 : Int32))] [])) (fun tt_ kk_ => XS.iinc X90.here hx rfl (hb hby d11_58) rfl (l' := #[.val (.ref a1), .val (.ref a2), .val (.ref a3), .val (.int p3), .val (.int p4), .val (.int (1 : Int32))]) rfl kk_) ?_
  refine Gq.go (T90.setTop (mkF m 22 #[.val (.ref a1), .val (.ref a2), .val (.ref a3), .val (.int p3), .val (.int p4), .val (.int (1 : Int32))] [])) (fun tt_ kk_ => XS.goto X90.here hx rfl (pc0 := 61) (pc' := 22) rfl (hb hby d11_61) (by decide) (by decide) kk_) ?_
  refine Gq.go (T90.setTop (mkF m 24 #[.val (.ref a1), .val (.ref a2), .val (.ref a3), .val (.int p3), .val (.int p4), .val (.int (1 : Int32))] [(.int (1 : Int32))])) (fun tt_ kk_ => XS.iload X90.here hx rfl (hb hby d11_22) rfl kk_) ?_
  refine Gq.go (T90.setTop (mkF m 25 #[.val (.ref a1), .val (.ref a2), .val (.ref a3), .val (.int p3), .val (.int p4), .val (.int (1 : Int32))] [(.ref a2), (.int (1 : Int32))])) (fun tt_ kk_ => XS.aloadN X90.here hx rfl (hb hby d11_24) rfl rfl kk_) ?_
  refine Gq.go (T90.setTop (mkF m 26 #[.val (.ref a1), .val (.ref a2), .val (.ref a3), .val (.int p3), .val (.int p4), .val (.int (1 : Int32))] [(.int (3 : Int32)), (.int (1 : Int32))])) (fun tt_ kk_ => lenA X90 hx hZ eh90 fa96 (hb hby d11_25) tt_ kk_) ?_
  refine Gq.go (T90.setTop (mkF m 29 #[.val (.ref a1), .val (.ref a2), .val (.ref a3), .val (.int p3), .val (.int p4), .val (.int (1 : Int32))] [])) (fun tt_ kk_ => XS.icmpNo X90.here hx rfl (hb hby d11_26) rfl (tlt (by decide : ((1 : Int32) < (3 : Int32)))).2.1 kk_) ?_
  refine Gq.go (T90.setTop (mkF m 30 #[.val (.ref a1), .val (.ref a2), .val (.ref a3), .val (.int p3), .val (.int p4), .val (.int (1 : Int32))] [(.ref a1)])) (fun tt_ kk_ => XS.aloadN X90.here hx rfl (hb hby d11_29) rfl rfl kk_) ?_
  obtain ⟨T119, X119, eh119, st119⟩ := getF X90 hx hZ hown (host := "") (Or.inl (hw _ (List.mem_of_getElem? (i := 71) rfl))) Via.refl eh90 fa108 (g := (mkF m 30 #[.val (.ref a1), .val (.ref a2), .val (.ref a3), .val (.int p3), .val (.int p4), .val (.int (1 : Int32))] [(.ref a1)])) rfl rfl (hb hby d11_30)
  refine Gq.go (T119.setTop (mkF m 33 #[.val (.ref a1), .val (.ref a2), .val (.ref a3), .val (.int p3), .val (.int p4), .val (.int (1 : Int32))] [(.ref b29)])) (fun tt_ kk_ => st119 _ kk_) ?_
  refine Gq.go (T119.setTop (mkF m 35 #[.val (.ref a1), .val (.ref a2), .val (.ref a3), .val (.int p3), .val (.int p4), .val (.int (1 : Int32))] [(.int (1 : Int32)), (.ref b29)])) (fun tt_ kk_ => XS.iload X119.here hx rfl (hb hby d11_33) rfl kk_) ?_
  refine Gq.go (T119.setTop (mkF m 36 #[.val (.ref a1), .val (.ref a2), .val (.ref a3), .val (.int p3), .val (.int p4), .val (.int (1 : Int32))] [(.int (1 : Int32)), (.int (1 : Int32)), (.ref b29)])) (fun tt_ kk_ => XS.iconst X119.here hx rfl (hb hby d11_35) kk_) ?_
  refine Gq.go (T119.setTop (mkF m 37 #[.val (.ref a1), .val (.ref a2), .val (.ref a3), .val (.int p3), .val (.int p4), .val (.int (1 : Int32))] [(.int (2 : Int32)), (.ref b29)])) (fun tt_ kk_ => XS.iadd X119.here hx rfl (hb hby d11_36) rfl kk_) ?_
  refine Gq.go (T119.setTop (mkF m 38 #[.val (.ref a1), .val (.ref a2), .val (.ref a3), .val (.int p3), .val (.int p4), .val (.int (1 : Int32))] [(.ref a1), (.int (2 : Int32)), (.ref b29)])) (fun tt_ kk_ => XS.aloadN X119.here hx rfl (hb hby d11_37) rfl rfl kk_) ?_
  obtain ⟨T120, X120, eh120, st120⟩ := getF X119 hx hZ hown (host := "") (Or.inl (hw _ (List.mem_of_getElem? (i := 71) rfl))) Via.refl eh119 fa108 (g := (mkF m 38 #[.val (.ref a1), .val (.ref a2), .val (.ref a3), .val (.int p3), .val (.int p4), .val (.int (1 : Int32))] [(.ref a1), (.int (2 : Int32)), (.ref b29)])) rfl rfl (hb hby d11_38)
  refine Gq.go (T120.setTop (mkF m 41 #[.val (.ref a1), .val (.ref a2), .val (.ref a3), .val (.int p3), .val (.int p4), .val (.int (1 : Int32))] [(.ref b29), (.int (2 : Int32)), (.ref b29)])) (fun tt_ kk_ => st120 _ kk_) ?_
  refine Gq.go (T120.setTop (mkF m 43 #[.val (.ref a1), .val (.ref a2), .val (.ref a3), .val (.int p3), .val (.int p4), .val (.int (1 : Int32))] [(.int (1 : Int32)), (.ref b29), (.int (2 : Int32)), (.ref b29)])) (fun tt_ kk_ => XS.iload X120.here hx rfl (hb hby d11_41) rfl kk_) ?_
  refine Gq.go (T120.setTop (mkF m 44 #[.val (.ref a1), .val (.ref a2), .val (.ref a3), .val (.int p3), .val (.int p4), .val (.int (1 : Int32))] [(.int (Int32.ofNat u0)), (.int (2 : Int32)), (.ref b29)])) (fun tt_ kk_ => ldI X120 hx hZ eh120 V90 (j := (1 : Int32)) (i := 1) (x := (Int32.ofNat u0)) (by decide) rfl (by decide) rfl (hb hby d11_43) tt_ kk_) ?_
  refine Gq.go (T120.setTop (mkF m 45 #[.val (.ref a1), .val (.ref a2), .val (.ref a3), .val (.int p3), .val (.int p4), .val (.int (1 : Int32))] [(.ref a3), (.int (Int32.ofNat u0)), (.int (2 : Int32)), (.ref b29)])) (fun tt_ kk_ => XS.aloadN X120.here hx rfl (hb hby d11_44) rfl rfl kk_) ?_
  refine Gq.go (T120.setTop (mkF m 47 #[.val (.ref a1), .val (.ref a2), .val (.ref a3), .val (.int p3), .val (.int p4), .val (.int (1 : Int32))] [(.int (1 : Int32)), (.ref a3), (.int (Int32.ofNat u0)), (.int (2 : Int32)), (.ref b29)])) (fun tt_ kk_ => XS.iload X120.here hx rfl (hb hby d11_45) rfl kk_) ?_
  obtain ⟨r121, T121, L121, X121, hQ121, st121⟩ := callF (pc := 47) (Ls := #[.val (.ref a1), .val (.ref a2), .val (.ref a3), .val (.int p3), .val (.int p4), .val (.int (1 : Int32))]) X120 hx hZ hown eh120 a3 [(.int (1 : Int32))] [(.int (Int32.ofNat u0)), (.int (2 : Int32)), (.ref b29)] fa97 (hw _ (List.mem_of_getElem? (i := 73) rfl)) (hw _ (List.mem_of_getElem? (i := 74) rfl)) (mvT hZ (hw _ (List.mem_of_getElem? (i := 75) rfl))) (hw _ (List.mem_of_getElem? (i := 76) rfl)) (hw _ (List.mem_of_getElem? (i := 77) rfl)) (hw _ (List.mem_of_getElem? (i := 78) rfl)) (hw _ (List.mem_of_getElem? (i := 79) rfl)) (hw _ (List.mem_of_getElem? (i := 80) rfl)) (hw _ (List.mem_of_getElem? (i := 2) rfl)) (hw _ (List.mem_of_getElem? (i := 81) rfl)) (by decide) (rm12 l Z a0 hw [] a3 1 el (gl [(.ref y0), (.ref y1), (.ref y2), .null, .null, .null, .null, .null, .null, .null] .null) y1 h90 n0 za117 fa97 fa98 fa99 fa100 (by decide) rfl) pd_6 rfl (by rw [hml]; rfl) (W := 3) (Nat.le_of_eq rfl) (by decide) (by decide) (by decide) (by decide) (hb hby d11_47)
  obtain ⟨rfl, N121q, eh121⟩ := hQ121
  have N121 := Fr.app N90 N121q
  refine Gq.go (T121.setTop (mkF m 52 #[.val (.ref a1), .val (.ref a2), .val (.ref a3), .val (.int p3), .val (.int p4), .val (.int (1 : Int32))] [(.ref y1), (.int (Int32.ofNat u0)), (.int (2 : Int32)), (.ref b29)])) (fun tt_ kk_ => st121 tt_ kk_) ?_
  obtain ⟨T122, X122, eh122, st122⟩ := castY X121 hx hZ hown (hw _ (List.mem_of_getElem? (i := 95) rfl)) eh121 (Ins.self fa103) (g := (mkF m 52 #[.val (.ref a1), .val (.ref a2), .val (.ref a3), .val (.int p3), .val (.int p4), .val (.int (1 : Int32))] [(.ref y1), (.int (Int32.ofNat u0)), (.int (2 : Int32)), (.ref b29)])) rfl rfl (hb hby d11_52)
  refine Gq.go (T122.setTop (mkF m 55 #[.val (.ref a1), .val (.ref a2), .val (.ref a3), .val (.int p3), .val (.int p4), .val (.int (1 : Int32))] [(.ref y1), (.int (Int32.ofNat u0)), (.int (2 : Int32)), (.ref b29)])) (fun tt_ kk_ => st122 _ kk_) ?_
  refine Gq.go (T122.setTop (mkF m 56 #[.val (.ref a1), .val (.ref a2), .val (.ref a3), .val (.int p3), .val (.int p4), .val (.int (1 : Int32))] [(.int (Int32.ofNat u1)), (.int (Int32.ofNat u0)), (.int (2 : Int32)), (.ref b29)])) (fun tt_ kk_ => lenA X122 hx hZ eh122 fa104 (hb hby d11_55) tt_ kk_) ?_
  refine Gq.go (T122.setTop (mkF m 57 #[.val (.ref a1), .val (.ref a2), .val (.ref a3), .val (.int p3), .val (.int p4), .val (.int (1 : Int32))] [(.int ((Int32.ofNat u0) + (Int32.ofNat u1))), (.int (2 : Int32)), (.ref b29)])) (fun tt_ kk_ => XS.iadd X122.here hx rfl (hb hby d11_56) rfl kk_) ?_
  rw [show ((Int32.ofNat u0) + (Int32.ofNat u1)) = (Int32.ofNat (u0 + u1)) from own_add _ _]
  obtain ⟨T123, h123, X123, eh123, W123, st123⟩ := stoI X122 hx hZ eh122 V90 (j := (2 : Int32)) (i := 2) (x := (Int32.ofNat (u0 + u1))) (Ls := #[.val (.ref a1), .val (.ref a2), .val (.ref a3), .val (.int p3), .val (.int p4), .val (.int (1 : Int32))]) (rest := []) (by decide) rfl (by decide) (hb hby d11_57)
  have fa124 := fa91.wr W123
  have fa125 := fa92.other W123 (Or.inl ne_a1_b29)
  have fa126 := fa93.other W123 (Or.inl ne_a1_b29)
  have fa127 := fa94.other W123 (Or.inl ne_a1_b29)
  have fa128 := fa95.other W123 (Or.inl ne_a1_b29)
  have fa129 := fa96.other W123 ne_a2_b29
  have fa130 := fa97.wr W123
  have fa131 := fa98.other W123 (Or.inl ne_a3_b29)
  have fa132 := fa99.other W123 (Or.inl ne_a3_b29)
  have fa133 := fa100.other W123 ne_el_b29
  have fa134 := fa101.wr W123
  have fa135 := fa102.other W123 ne_y0_b29
  have fa136 := fa103.wr W123
  have fa137 := fa104.other W123 ne_y1_b29
  have fa138 := fa105.wr W123
  have fa139 := fa106.other W123 ne_y2_b29
  have fa140 := fa107.other W123 (Or.inl ne_a1_b29)
  have fa141 := fa108.other W123 (Or.inl ne_a1_b29)
  have ta142 := Nat.lt_of_lt_of_le ta109 (Nat.le_of_eq W123.size.symm)
  have ta143 := Nat.lt_of_lt_of_le ta110 (Nat.le_of_eq W123.size.symm)
  have ta144 := Nat.lt_of_lt_of_le ta111 (Nat.le_of_eq W123.size.symm)
  have ta145 := Nat.lt_of_lt_of_le ta112 (Nat.le_of_eq W123.size.symm)
  have ta146 := Nat.lt_of_lt_of_le ta113 (Nat.le_of_eq W123.size.symm)
  have ta147 := Nat.lt_of_lt_of_le ta114 (Nat.le_of_eq W123.size.symm)
  have ta148 := Nat.lt_of_lt_of_le ta115 (Nat.le_of_eq W123.size.symm)
  have ta149 := Nat.lt_of_lt_of_le ta116 (Nat.le_of_eq W123.size.symm)
  have za150 : n0 ≤ h123.size := Nat.le_trans za117 (Nat.le_of_eq W123.size.symm)
  have V123 : LA Z h123 b29 .int 4 (gl [(.int (0 : Int32)), (.int (Int32.ofNat u0)), (.int (Int32.ofNat (u0 + u1))), (.int (0 : Int32))] (.int (0 : Int32))) := V90.setL W123 (Nat.le_of_ble_eq_true rfl)
  have Ka151 := Ka118.wr W123 (Or.inr sz_b29)
  have N123 := Fr.snoc X123 N121 g_b29
  refine Gq.go (T123.setTop (mkF m 58 #[.val (.ref a1), .val (.ref a2), .val (.ref a3), .val (.int p3), .val (.int p4), .val (.int (1 : Int32))] [])) (fun tt_ kk_ => st123 tt_ kk_) ?_
  refine Gq.go (T123.setTop (mkF m 61 #[.val (.ref a1), .val (.ref a2), .val (.ref a3), .val (.int p3), .val (.int p4), .val (.int (2 : Int32))] [])) (fun tt_ kk_ => XS.iinc X123.here hx rfl (hb hby d11_58) rfl (l' := #[.val (.ref a1), .val (.ref a2), .val (.ref a3), .val (.int p3), .val (.int p4), .val (.int (2 : Int32))]) rfl kk_) ?_
  refine Gq.go (T123.setTop (mkF m 22 #[.val (.ref a1), .val (.ref a2), .val (.ref a3), .val (.int p3), .val (.int p4), .val (.int (2 : Int32))] [])) (fun tt_ kk_ => XS.goto X123.here hx rfl (pc0 := 61) (pc' := 22) rfl (hb hby d11_61) (by decide) (by decide) kk_) ?_
  refine Gq.go (T123.setTop (mkF m 24 #[.val (.ref a1), .val (.ref a2), .val (.ref a3), .val (.int p3), .val (.int p4), .val (.int (2 : Int32))] [(.int (2 : Int32))])) (fun tt_ kk_ => XS.iload X123.here hx rfl (hb hby d11_22) rfl kk_) ?_
  refine Gq.go (T123.setTop (mkF m 25 #[.val (.ref a1), .val (.ref a2), .val (.ref a3), .val (.int p3), .val (.int p4), .val (.int (2 : Int32))] [(.ref a2), (.int (2 : Int32))])) (fun tt_ kk_ => XS.aloadN X123.here hx rfl (hb hby d11_24) rfl rfl kk_) ?_
  refine Gq.go (T123.setTop (mkF m 26 #[.val (.ref a1), .val (.ref a2), .val (.ref a3), .val (.int p3), .val (.int p4), .val (.int (2 : Int32))] [(.int (3 : Int32)), (.int (2 : Int32))])) (fun tt_ kk_ => lenA X123 hx hZ eh123 fa129 (hb hby d11_25) tt_ kk_) ?_
  refine Gq.go (T123.setTop (mkF m 29 #[.val (.ref a1), .val (.ref a2), .val (.ref a3), .val (.int p3), .val (.int p4), .val (.int (2 : Int32))] [])) (fun tt_ kk_ => XS.icmpNo X123.here hx rfl (hb hby d11_26) rfl (tlt (by decide : ((2 : Int32) < (3 : Int32)))).2.1 kk_) ?_
  refine Gq.go (T123.setTop (mkF m 30 #[.val (.ref a1), .val (.ref a2), .val (.ref a3), .val (.int p3), .val (.int p4), .val (.int (2 : Int32))] [(.ref a1)])) (fun tt_ kk_ => XS.aloadN X123.here hx rfl (hb hby d11_29) rfl rfl kk_) ?_
  obtain ⟨T152, X152, eh152, st152⟩ := getF X123 hx hZ hown (host := "") (Or.inl (hw _ (List.mem_of_getElem? (i := 71) rfl))) Via.refl eh123 fa141 (g := (mkF m 30 #[.val (.ref a1), .val (.ref a2), .val (.ref a3), .val (.int p3), .val (.int p4), .val (.int (2 : Int32))] [(.ref a1)])) rfl rfl (hb hby d11_30)
  refine Gq.go (T152.setTop (mkF m 33 #[.val (.ref a1), .val (.ref a2), .val (.ref a3), .val (.int p3), .val (.int p4), .val (.int (2 : Int32))] [(.ref b29)])) (fun tt_ kk_ => st152 _ kk_) ?_
  refine Gq.go (T152.setTop (mkF m 35 #[.val (.ref a1), .val (.ref a2), .val (.ref a3), .val (.int p3), .val (.int p4), .val (.int (2 : Int32))] [(.int (2 : Int32)), (.ref b29)])) (fun tt_ kk_ => XS.iload X152.here hx rfl (hb hby d11_33) rfl kk_) ?_
  refine Gq.go (T152.setTop (mkF m 36 #[.val (.ref a1), .val (.ref a2), .val (.ref a3), .val (.int p3), .val (.int p4), .val (.int (2 : Int32))] [(.int (1 : Int32)), (.int (2 : Int32)), (.ref b29)])) (fun tt_ kk_ => XS.iconst X152.here hx rfl (hb hby d11_35) kk_) ?_
  refine Gq.go (T152.setTop (mkF m 37 #[.val (.ref a1), .val (.ref a2), .val (.ref a3), .val (.int p3), .val (.int p4), .val (.int (2 : Int32))] [(.int (3 : Int32)), (.ref b29)])) (fun tt_ kk_ => XS.iadd X152.here hx rfl (hb hby d11_36) rfl kk_) ?_
  refine Gq.go (T152.setTop (mkF m 38 #[.val (.ref a1), .val (.ref a2), .val (.ref a3), .val (.int p3), .val (.int p4), .val (.int (2 : Int32))] [(.ref a1), (.int (3 : Int32)), (.ref b29)])) (fun tt_ kk_ => XS.aloadN X152.here hx rfl (hb hby d11_37) rfl rfl kk_) ?_
  obtain ⟨T153, X153, eh153, st153⟩ := getF X152 hx hZ hown (host := "") (Or.inl (hw _ (List.mem_of_getElem? (i := 71) rfl))) Via.refl eh152 fa141 (g := (mkF m 38 #[.val (.ref a1), .val (.ref a2), .val (.ref a3), .val (.int p3), .val (.int p4), .val (.int (2 : Int32))] [(.ref a1), (.int (3 : Int32)), (.ref b29)])) rfl rfl (hb hby d11_38)
  refine Gq.go (T153.setTop (mkF m 41 #[.val (.ref a1), .val (.ref a2), .val (.ref a3), .val (.int p3), .val (.int p4), .val (.int (2 : Int32))] [(.ref b29), (.int (3 : Int32)), (.ref b29)])) (fun tt_ kk_ => st153 _ kk_) ?_
  refine Gq.go (T153.setTop (mkF m 43 #[.val (.ref a1), .val (.ref a2), .val (.ref a3), .val (.int p3), .val (.int p4), .val (.int (2 : Int32))] [(.int (2 : Int32)), (.ref b29), (.int (3 : Int32)), (.ref b29)])) (fun tt_ kk_ => XS.iload X153.here hx rfl (hb hby d11_41) rfl kk_) ?_
  refine Gq.go (T153.setTop (mkF m 44 #[.val (.ref a1), .val (.ref a2), .val (.ref a3), .val (.int p3), .val (.int p4), .val (.int (2 : Int32))] [(.int (Int32.ofNat (u0 + u1))), (.int (3 : Int32)), (.ref b29)])) (fun tt_ kk_ => ldI X153 hx hZ eh153 V123 (j := (2 : Int32)) (i := 2) (x := (Int32.ofNat (u0 + u1))) (by decide) rfl (by decide) rfl (hb hby d11_43) tt_ kk_) ?_
  refine Gq.go (T153.setTop (mkF m 45 #[.val (.ref a1), .val (.ref a2), .val (.ref a3), .val (.int p3), .val (.int p4), .val (.int (2 : Int32))] [(.ref a3), (.int (Int32.ofNat (u0 + u1))), (.int (3 : Int32)), (.ref b29)])) (fun tt_ kk_ => XS.aloadN X153.here hx rfl (hb hby d11_44) rfl rfl kk_) ?_
  refine Gq.go (T153.setTop (mkF m 47 #[.val (.ref a1), .val (.ref a2), .val (.ref a3), .val (.int p3), .val (.int p4), .val (.int (2 : Int32))] [(.int (2 : Int32)), (.ref a3), (.int (Int32.ofNat (u0 + u1))), (.int (3 : Int32)), (.ref b29)])) (fun tt_ kk_ => XS.iload X153.here hx rfl (hb hby d11_45) rfl kk_) ?_
  obtain ⟨r154, T154, L154, X154, hQ154, st154⟩ := callF (pc := 47) (Ls := #[.val (.ref a1), .val (.ref a2), .val (.ref a3), .val (.int p3), .val (.int p4), .val (.int (2 : Int32))]) X153 hx hZ hown eh153 a3 [(.int (2 : Int32))] [(.int (Int32.ofNat (u0 + u1))), (.int (3 : Int32)), (.ref b29)] fa130 (hw _ (List.mem_of_getElem? (i := 73) rfl)) (hw _ (List.mem_of_getElem? (i := 74) rfl)) (mvT hZ (hw _ (List.mem_of_getElem? (i := 75) rfl))) (hw _ (List.mem_of_getElem? (i := 76) rfl)) (hw _ (List.mem_of_getElem? (i := 77) rfl)) (hw _ (List.mem_of_getElem? (i := 78) rfl)) (hw _ (List.mem_of_getElem? (i := 79) rfl)) (hw _ (List.mem_of_getElem? (i := 80) rfl)) (hw _ (List.mem_of_getElem? (i := 2) rfl)) (hw _ (List.mem_of_getElem? (i := 81) rfl)) (by decide) (rm12 l Z a0 hw [] a3 2 el (gl [(.ref y0), (.ref y1), (.ref y2), .null, .null, .null, .null, .null, .null, .null] .null) y2 h123 n0 za150 fa130 fa131 fa132 fa133 (by decide) rfl) pd_6 rfl (by rw [hml]; rfl) (W := 3) (Nat.le_of_eq rfl) (by decide) (by decide) (by decide) (by decide) (hb hby d11_47)
  obtain ⟨rfl, N154q, eh154⟩ := hQ154
  have N154 := Fr.app N123 N154q
  refine Gq.go (T154.setTop (mkF m 52 #[.val (.ref a1), .val (.ref a2), .val (.ref a3), .val (.int p3), .val (.int p4), .val (.int (2 : Int32))] [(.ref y2), (.int (Int32.ofNat (u0 + u1))), (.int (3 : Int32)), (.ref b29)])) (fun tt_ kk_ => st154 tt_ kk_) ?_
  obtain ⟨T155, X155, eh155, st155⟩ := castY X154 hx hZ hown (hw _ (List.mem_of_getElem? (i := 95) rfl)) eh154 (Ins.self fa138) (g := (mkF m 52 #[.val (.ref a1), .val (.ref a2), .val (.ref a3), .val (.int p3), .val (.int p4), .val (.int (2 : Int32))] [(.ref y2), (.int (Int32.ofNat (u0 + u1))), (.int (3 : Int32)), (.ref b29)])) rfl rfl (hb hby d11_52)
  refine Gq.go (T155.setTop (mkF m 55 #[.val (.ref a1), .val (.ref a2), .val (.ref a3), .val (.int p3), .val (.int p4), .val (.int (2 : Int32))] [(.ref y2), (.int (Int32.ofNat (u0 + u1))), (.int (3 : Int32)), (.ref b29)])) (fun tt_ kk_ => st155 _ kk_) ?_
  refine Gq.go (T155.setTop (mkF m 56 #[.val (.ref a1), .val (.ref a2), .val (.ref a3), .val (.int p3), .val (.int p4), .val (.int (2 : Int32))] [(.int (Int32.ofNat u2)), (.int (Int32.ofNat (u0 + u1))), (.int (3 : Int32)), (.ref b29)])) (fun tt_ kk_ => lenA X155 hx hZ eh155 fa139 (hb hby d11_55) tt_ kk_) ?_
  refine Gq.go (T155.setTop (mkF m 57 #[.val (.ref a1), .val (.ref a2), .val (.ref a3), .val (.int p3), .val (.int p4), .val (.int (2 : Int32))] [(.int ((Int32.ofNat (u0 + u1)) + (Int32.ofNat u2))), (.int (3 : Int32)), (.ref b29)])) (fun tt_ kk_ => XS.iadd X155.here hx rfl (hb hby d11_56) rfl kk_) ?_
  rw [show ((Int32.ofNat (u0 + u1)) + (Int32.ofNat u2)) = (Int32.ofNat (u0 + u1 + u2)) from own_add _ _]
  obtain ⟨T156, h156, X156, eh156, W156, st156⟩ := stoI X155 hx hZ eh155 V123 (j := (3 : Int32)) (i := 3) (x := (Int32.ofNat (u0 + u1 + u2))) (Ls := #[.val (.ref a1), .val (.ref a2), .val (.ref a3), .val (.int p3), .val (.int p4), .val (.int (2 : Int32))]) (rest := []) (by decide) rfl (by decide) (hb hby d11_57)
  have fa157 := fa124.wr W156
  have fa158 := fa125.other W156 (Or.inl ne_a1_b29)
  have fa159 := fa126.other W156 (Or.inl ne_a1_b29)
  have fa160 := fa127.other W156 (Or.inl ne_a1_b29)
  have fa161 := fa128.other W156 (Or.inl ne_a1_b29)
  have fa162 := fa129.other W156 ne_a2_b29
  have fa163 := fa130.wr W156
  have fa164 := fa131.other W156 (Or.inl ne_a3_b29)
  have fa165 := fa132.other W156 (Or.inl ne_a3_b29)
  have fa166 := fa133.other W156 ne_el_b29
  have fa167 := fa134.wr W156
  have fa168 := fa135.other W156 ne_y0_b29
  have fa169 := fa136.wr W156
  have fa170 := fa137.other W156 ne_y1_b29
  have fa171 := fa138.wr W156
  have fa172 := fa139.other W156 ne_y2_b29
  have fa173 := fa140.other W156 (Or.inl ne_a1_b29)
  have fa174 := fa141.other W156 (Or.inl ne_a1_b29)
  have ta175 := Nat.lt_of_lt_of_le ta142 (Nat.le_of_eq W156.size.symm)
  have ta176 := Nat.lt_of_lt_of_le ta143 (Nat.le_of_eq W156.size.symm)
  have ta177 := Nat.lt_of_lt_of_le ta144 (Nat.le_of_eq W156.size.symm)
  have ta178 := Nat.lt_of_lt_of_le ta145 (Nat.le_of_eq W156.size.symm)
  have ta179 := Nat.lt_of_lt_of_le ta146 (Nat.le_of_eq W156.size.symm)
  have ta180 := Nat.lt_of_lt_of_le ta147 (Nat.le_of_eq W156.size.symm)
  have ta181 := Nat.lt_of_lt_of_le ta148 (Nat.le_of_eq W156.size.symm)
  have ta182 := Nat.lt_of_lt_of_le ta149 (Nat.le_of_eq W156.size.symm)
  have za183 : n0 ≤ h156.size := Nat.le_trans za150 (Nat.le_of_eq W156.size.symm)
  have V156 : LA Z h156 b29 .int 4 (gl [(.int (0 : Int32)), (.int (Int32.ofNat u0)), (.int (Int32.ofNat (u0 + u1))), (.int (Int32.ofNat (u0 + u1 + u2)))] (.int (0 : Int32))) := V123.setL W156 (Nat.le_of_ble_eq_true rfl)
  have Ka184 := Ka151.wr W156 (Or.inr sz_b29)
  have N156 := Fr.snoc X156 N154 g_b29
  refine Gq.go (T156.setTop (mkF m 58 #[.val (.ref a1), .val (.ref a2), .val (.ref a3), .val (.int p3), .val (.int p4), .val (.int (2 : Int32))] [])) (fun tt_ kk_ => st156 tt_ kk_) ?_
  refine Gq.go (T156.setTop (mkF m 61 #[.val (.ref a1), .val (.ref a2), .val (.ref a3), .val (.int p3), .val (.int p4), .val (.int (3 : Int32))] [])) (fun tt_ kk_ => XS.iinc X156.here hx rfl (hb hby d11_58) rfl (l' := #[.val (.ref a1), .val (.ref a2), .val (.ref a3), .val (.int p3), .val (.int p4), .val (.int (3 : Int32))]) rfl kk_) ?_
  refine Gq.go (T156.setTop (mkF m 22 #[.val (.ref a1), .val (.ref a2), .val (.ref a3), .val (.int p3), .val (.int p4), .val (.int (3 : Int32))] [])) (fun tt_ kk_ => XS.goto X156.here hx rfl (pc0 := 61) (pc' := 22) rfl (hb hby d11_61) (by decide) (by decide) kk_) ?_
  refine Gq.go (T156.setTop (mkF m 24 #[.val (.ref a1), .val (.ref a2), .val (.ref a3), .val (.int p3), .val (.int p4), .val (.int (3 : Int32))] [(.int (3 : Int32))])) (fun tt_ kk_ => XS.iload X156.here hx rfl (hb hby d11_22) rfl kk_) ?_
  refine Gq.go (T156.setTop (mkF m 25 #[.val (.ref a1), .val (.ref a2), .val (.ref a3), .val (.int p3), .val (.int p4), .val (.int (3 : Int32))] [(.ref a2), (.int (3 : Int32))])) (fun tt_ kk_ => XS.aloadN X156.here hx rfl (hb hby d11_24) rfl rfl kk_) ?_
  refine Gq.go (T156.setTop (mkF m 26 #[.val (.ref a1), .val (.ref a2), .val (.ref a3), .val (.int p3), .val (.int p4), .val (.int (3 : Int32))] [(.int (3 : Int32)), (.int (3 : Int32))])) (fun tt_ kk_ => lenA X156 hx hZ eh156 fa162 (hb hby d11_25) tt_ kk_) ?_
  refine Gq.go (T156.setTop (mkF m 64 #[.val (.ref a1), .val (.ref a2), .val (.ref a3), .val (.int p3), .val (.int p4), .val (.int (3 : Int32))] [])) (fun tt_ kk_ => XS.icmpYes X156.here hx rfl (pc0 := 26) (pc' := 64) rfl (hb hby d11_26) rfl (flt (by decide : ¬ ((3 : Int32) < (3 : Int32)))).2.1 (by decide) (by decide) kk_) ?_
  refine Gq.go (T156.setTop (mkF m 65 #[.val (.ref a1), .val (.ref a2), .val (.ref a3), .val (.int p3), .val (.int p4), .val (.int (3 : Int32))] [(.ref a1)])) (fun tt_ kk_ => XS.aloadN X156.here hx rfl (hb hby d11_64) rfl rfl kk_) ?_
  refine Gq.go (T156.setTop (mkF m 66 #[.val (.ref a1), .val (.ref a2), .val (.ref a3), .val (.int p3), .val (.int p4), .val (.int (3 : Int32))] [(.ref a1), (.ref a1)])) (fun tt_ kk_ => XS.aloadN X156.here hx rfl (hb hby d11_65) rfl rfl kk_) ?_
  obtain ⟨T185, X185, eh185, st185⟩ := getF X156 hx hZ hown (host := "") (Or.inl (hw _ (List.mem_of_getElem? (i := 71) rfl))) Via.refl eh156 fa174 (g := (mkF m 66 #[.val (.ref a1), .val (.ref a2), .val (.ref a3), .val (.int p3), .val (.int p4), .val (.int (3 : Int32))] [(.ref a1), (.ref a1)])) rfl rfl (hb hby d11_66)
  refine Gq.go (T185.setTop (mkF m 69 #[.val (.ref a1), .val (.ref a2), .val (.ref a3), .val (.int p3), .val (.int p4), .val (.int (3 : Int32))] [(.ref b29), (.ref a1)])) (fun tt_ kk_ => st185 _ kk_) ?_
  refine Gq.go (T185.setTop (mkF m 70 #[.val (.ref a1), .val (.ref a2), .val (.ref a3), .val (.int p3), .val (.int p4), .val (.int (3 : Int32))] [(.ref a2), (.ref b29), (.ref a1)])) (fun tt_ kk_ => XS.aloadN X185.here hx rfl (hb hby d11_69) rfl rfl kk_) ?_
  refine Gq.go (T185.setTop (mkF m 71 #[.val (.ref a1), .val (.ref a2), .val (.ref a3), .val (.int p3), .val (.int p4), .val (.int (3 : Int32))] [(.int (3 : Int32)), (.ref b29), (.ref a1)])) (fun tt_ kk_ => lenA X185 hx hZ eh185 fa162 (hb hby d11_70) tt_ kk_) ?_
  refine Gq.go (T185.setTop (mkF m 72 #[.val (.ref a1), .val (.ref a2), .val (.ref a3), .val (.int p3), .val (.int p4), .val (.int (3 : Int32))] [(.int (Int32.ofNat (u0 + u1 + u2))), (.ref a1)])) (fun tt_ kk_ => ldI X185 hx hZ eh185 V156 (j := (3 : Int32)) (i := 3) (x := (Int32.ofNat (u0 + u1 + u2))) (by decide) rfl (by decide) rfl (hb hby d11_71) tt_ kk_) ?_
  obtain ⟨T186, h186, b186, X186, eh186, E186, aq186, V186, st186⟩ := mkC X185 hx hZ (hw _ (List.mem_of_getElem? (i := 30) rfl)) eh185 (z := (Int32.ofNat (u0 + u1 + u2))) (n := (u0 + u1 + u2)) (Ls := #[.val (.ref a1), .val (.ref a2), .val (.ref a3), .val (.int p3), .val (.int p4), .val (.int (3 : Int32))]) (rest := [(.ref a1)]) (own_nn (by omega)) (own_nc (by omega)) 9 (by omega) (by decide) (by decide) (by decide) (hb hby d11_72)
  have g_b186 : n0 ≤ b186 := Nat.le_trans za183 (Nat.le_of_eq aq186.symm)
  have sz_b186 : h0.size ≤ b186 := Nat.le_trans Ka184.1 (Nat.le_of_eq aq186.symm)
  have ne_a1_b186 : a1 ≠ b186 := Nat.ne_of_lt (Nat.lt_of_lt_of_le ta175 (Nat.le_of_eq aq186.symm))
  have ne_a2_b186 : a2 ≠ b186 := Nat.ne_of_lt (Nat.lt_of_lt_of_le ta176 (Nat.le_of_eq aq186.symm))
  have ne_a3_b186 : a3 ≠ b186 := Nat.ne_of_lt (Nat.lt_of_lt_of_le ta177 (Nat.le_of_eq aq186.symm))
  have ne_el_b186 : el ≠ b186 := Nat.ne_of_lt (Nat.lt_of_lt_of_le ta178 (Nat.le_of_eq aq186.symm))
  have ne_y0_b186 : y0 ≠ b186 := Nat.ne_of_lt (Nat.lt_of_lt_of_le ta179 (Nat.le_of_eq aq186.symm))
  have ne_y1_b186 : y1 ≠ b186 := Nat.ne_of_lt (Nat.lt_of_lt_of_le ta180 (Nat.le_of_eq aq186.symm))
  have ne_y2_b186 : y2 ≠ b186 := Nat.ne_of_lt (Nat.lt_of_lt_of_le ta181 (Nat.le_of_eq aq186.symm))
  have ne_b29_b186 : b29 ≠ b186 := Nat.ne_of_lt (Nat.lt_of_lt_of_le ta182 (Nat.le_of_eq aq186.symm))
  have fa187 := fa157.ext E186
  have fa188 := fa158.ext E186
  have fa189 := fa159.ext E186
  have fa190 := fa160.ext E186
  have fa191 := fa161.ext E186
  have fa192 := fa162.ext E186
  have fa193 := fa163.ext E186
  have fa194 := fa164.ext E186
  have fa195 := fa165.ext E186
  have fa196 := fa166.ext E186
  have fa197 := fa167.ext E186
  have fa198 := fa168.ext E186
  have fa199 := fa169.ext E186
  have fa200 := fa170.ext E186
  have fa201 := fa171.ext E186
  have fa202 := fa172.ext E186
  have fa203 := fa173.ext E186
  have fa204 := fa174.ext E186
  have fa205 := V156.ext E186
  have ta206 := Nat.lt_of_lt_of_le ta175 E186.1
  have ta207 := Nat.lt_of_lt_of_le ta176 E186.1
  have ta208 := Nat.lt_of_lt_of_le ta177 E186.1
  have ta209 := Nat.lt_of_lt_of_le ta178 E186.1
  have ta210 := Nat.lt_of_lt_of_le ta179 E186.1
  have ta211 := Nat.lt_of_lt_of_le ta180 E186.1
  have ta212 := Nat.lt_of_lt_of_le ta181 E186.1
  have ta213 := Nat.lt_of_lt_of_le ta182 E186.1
  have za214 : n0 ≤ h186.size := Nat.le_trans za183 E186.1
  have Ka215 := Ka184.ext E186
  have V186' : LA Z h186 b186 .int (u0 + u1 + u2) (fun _ => (.int (0 : Int32))) := V186
  have ta186' := V186'.lt
  refine Gq.go (T186.setTop (mkF m 74 #[.val (.ref a1), .val (.ref a2), .val (.ref a3), .val (.int p3), .val (.int p4), .val (.int (3 : Int32))] [(.ref b186), (.ref a1)])) (fun tt_ kk_ => st186 tt_ kk_) ?_
  obtain ⟨T216, h216, X216, eh216, W216, st216⟩ := putF X186 hx hZ hown (host := "") (Or.inl (hw _ (List.mem_of_getElem? (i := 97) rfl))) Via.refl eh186 fa188 fa187 (Or.inr ⟨(hw _ (List.mem_of_getElem? (i := 98) rfl)), rfl, hnm⟩) (hw _ (List.mem_of_getElem? (i := 63) rfl)) (ty := (.array .int)) (by decide) rfl rfl (g := (mkF m 74 #[.val (.ref a1), .val (.ref a2), .val (.ref a3), .val (.int p3), .val (.int p4), .val (.int (3 : Int32))] [(.ref b186), (.ref a1)])) rfl rfl (hb hby d11_74)
  have Fw216 := fa188.same W216
  have fa217 := fa187.wr W216
  have fa218 := fa189.other W216 (Or.inr (slot_ne (Or.inr (hw _ (List.mem_of_getElem? (i := 100) rfl))) (Or.inr (hw _ (List.mem_of_getElem? (i := 98) rfl))) (by decide) (t := (.array .int)) (t' := (.array .int)) (by decide) (by decide)))
  have fa219 := fa190.other W216 (Or.inr (slot_ne (Or.inr (hw _ (List.mem_of_getElem? (i := 113) rfl))) (Or.inr (hw _ (List.mem_of_getElem? (i := 98) rfl))) (by decide) (t := .int) (t' := (.array .int)) (by decide) (by decide)))
  have fa220 := fa191.other W216 (Or.inr (slot_ne (Or.inr (hw _ (List.mem_of_getElem? (i := 115) rfl))) (Or.inr (hw _ (List.mem_of_getElem? (i := 98) rfl))) (by decide) (t := .boolean) (t' := (.array .int)) (by decide) (by decide)))
  have fa221 := fa192.other W216 n_a2
  have fa222 := fa193.wr W216
  have fa223 := fa194.other W216 (Or.inl n_a3)
  have fa224 := fa195.other W216 (Or.inl n_a3)
  have fa225 := fa196.other W216 n_el
  have fa226 := fa197.wr W216
  have fa227 := fa198.other W216 n_y0
  have fa228 := fa199.wr W216
  have fa229 := fa200.other W216 n_y1
  have fa230 := fa201.wr W216
  have fa231 := fa202.other W216 n_y2
  have fa232 := fa203.other W216 (Or.inr (slot_ne (Or.inr (hw _ (List.mem_of_getElem? (i := 70) rfl))) (Or.inr (hw _ (List.mem_of_getElem? (i := 98) rfl))) (by decide) (t := (.array .int)) (t' := (.array .int)) (by decide) (by decide)))
  have fa233 := fa204.other W216 (Or.inr (slot_ne (Or.inr (hw _ (List.mem_of_getElem? (i := 72) rfl))) (Or.inr (hw _ (List.mem_of_getElem? (i := 98) rfl))) (by decide) (t := (.array .int)) (t' := (.array .int)) (by decide) (by decide)))
  have fa234 := fa205.other W216 (Ne.symm ne_a1_b29)
  have fa235 := V186'.other W216 (Ne.symm ne_a1_b186)
  have ta236 := Nat.lt_of_lt_of_le ta206 (Nat.le_of_eq W216.size.symm)
  have ta237 := Nat.lt_of_lt_of_le ta207 (Nat.le_of_eq W216.size.symm)
  have ta238 := Nat.lt_of_lt_of_le ta208 (Nat.le_of_eq W216.size.symm)
  have ta239 := Nat.lt_of_lt_of_le ta209 (Nat.le_of_eq W216.size.symm)
  have ta240 := Nat.lt_of_lt_of_le ta210 (Nat.le_of_eq W216.size.symm)
  have ta241 := Nat.lt_of_lt_of_le ta211 (Nat.le_of_eq W216.size.symm)
  have ta242 := Nat.lt_of_lt_of_le ta212 (Nat.le_of_eq W216.size.symm)
  have ta243 := Nat.lt_of_lt_of_le ta213 (Nat.le_of_eq W216.size.symm)
  have ta244 := Nat.lt_of_lt_of_le ta186' (Nat.le_of_eq W216.size.symm)
  have za245 : n0 ≤ h216.size := Nat.le_trans za214 (Nat.le_of_eq W216.size.symm)
  have Ka246 := Ka215.wr W216 (Or.inl (List.mem_of_getElem? (i := 0) rfl))
  have N216 := Fr.snoc X216 N156 ga
  refine Gq.go (T216.setTop (mkF m 77 #[.val (.ref a1), .val (.ref a2), .val (.ref a3), .val (.int p3), .val (.int p4), .val (.int (3 : Int32))] [])) (fun tt_ kk_ => st216 _ kk_) ?_
  refine Gq.go (T216.setTop (mkF m 78 #[.val (.ref a1), .val (.ref a2), .val (.ref a3), .val (.int p3), .val (.int p4), .val (.int (3 : Int32))] [(.ref a1)])) (fun tt_ kk_ => XS.aloadN X216.here hx rfl (hb hby d11_77) rfl rfl kk_) ?_
  refine Gq.go (T216.setTop (mkF m 79 #[.val (.ref a1), .val (.ref a2), .val (.ref a3), .val (.int p3), .val (.int p4), .val (.int (3 : Int32))] [(.ref a1), (.ref a1)])) (fun tt_ kk_ => XS.aloadN X216.here hx rfl (hb hby d11_78) rfl rfl kk_) ?_
  obtain ⟨T247, X247, eh247, st247⟩ := getF X216 hx hZ hown (host := "") (Or.inl (hw _ (List.mem_of_getElem? (i := 97) rfl))) Via.refl eh216 Fw216 (g := (mkF m 79 #[.val (.ref a1), .val (.ref a2), .val (.ref a3), .val (.int p3), .val (.int p4), .val (.int (3 : Int32))] [(.ref a1), (.ref a1)])) rfl rfl (hb hby d11_79)
  refine Gq.go (T247.setTop (mkF m 82 #[.val (.ref a1), .val (.ref a2), .val (.ref a3), .val (.int p3), .val (.int p4), .val (.int (3 : Int32))] [(.ref b186), (.ref a1)])) (fun tt_ kk_ => st247 _ kk_) ?_
  refine Gq.go (T247.setTop (mkF m 83 #[.val (.ref a1), .val (.ref a2), .val (.ref a3), .val (.int p3), .val (.int p4), .val (.int (3 : Int32))] [(.int (Int32.ofNat (u0 + u1 + u2))), (.ref a1)])) (fun tt_ kk_ => lenA X247 hx hZ eh247 fa235 (hb hby d11_82) tt_ kk_) ?_
  obtain ⟨T248, h248, b248, X248, eh248, E248, aq248, V248, st248⟩ := mkC X247 hx hZ (hw _ (List.mem_of_getElem? (i := 30) rfl)) eh247 (z := (Int32.ofNat (u0 + u1 + u2))) (n := (u0 + u1 + u2)) (Ls := #[.val (.ref a1), .val (.ref a2), .val (.ref a3), .val (.int p3), .val (.int p4), .val (.int (3 : Int32))]) (rest := [(.ref a1)]) (own_nn (by omega)) (own_nc (by omega)) 9 (by omega) (by decide) (by decide) (by decide) (hb hby d11_83)
  have g_b248 : n0 ≤ b248 := Nat.le_trans za245 (Nat.le_of_eq aq248.symm)
  have sz_b248 : h0.size ≤ b248 := Nat.le_trans Ka246.1 (Nat.le_of_eq aq248.symm)
  have ne_a1_b248 : a1 ≠ b248 := Nat.ne_of_lt (Nat.lt_of_lt_of_le ta236 (Nat.le_of_eq aq248.symm))
  have ne_a2_b248 : a2 ≠ b248 := Nat.ne_of_lt (Nat.lt_of_lt_of_le ta237 (Nat.le_of_eq aq248.symm))
  have ne_a3_b248 : a3 ≠ b248 := Nat.ne_of_lt (Nat.lt_of_lt_of_le ta238 (Nat.le_of_eq aq248.symm))
  have ne_el_b248 : el ≠ b248 := Nat.ne_of_lt (Nat.lt_of_lt_of_le ta239 (Nat.le_of_eq aq248.symm))
  have ne_y0_b248 : y0 ≠ b248 := Nat.ne_of_lt (Nat.lt_of_lt_of_le ta240 (Nat.le_of_eq aq248.symm))
  have ne_y1_b248 : y1 ≠ b248 := Nat.ne_of_lt (Nat.lt_of_lt_of_le ta241 (Nat.le_of_eq aq248.symm))
  have ne_y2_b248 : y2 ≠ b248 := Nat.ne_of_lt (Nat.lt_of_lt_of_le ta242 (Nat.le_of_eq aq248.symm))
  have ne_b29_b248 : b29 ≠ b248 := Nat.ne_of_lt (Nat.lt_of_lt_of_le ta243 (Nat.le_of_eq aq248.symm))
  have ne_b186_b248 : b186 ≠ b248 := Nat.ne_of_lt (Nat.lt_of_lt_of_le ta244 (Nat.le_of_eq aq248.symm))
  have fa249 := fa217.ext E248
  have fa250 := fa218.ext E248
  have fa251 := fa219.ext E248
  have fa252 := fa220.ext E248
  have fa253 := fa221.ext E248
  have fa254 := fa222.ext E248
  have fa255 := fa223.ext E248
  have fa256 := fa224.ext E248
  have fa257 := fa225.ext E248
  have fa258 := fa226.ext E248
  have fa259 := fa227.ext E248
  have fa260 := fa228.ext E248
  have fa261 := fa229.ext E248
  have fa262 := fa230.ext E248
  have fa263 := fa231.ext E248
  have fa264 := fa232.ext E248
  have fa265 := fa233.ext E248
  have fa266 := fa234.ext E248
  have fa267 := fa235.ext E248
  have fa268 := Fw216.ext E248
  have ta269 := Nat.lt_of_lt_of_le ta236 E248.1
  have ta270 := Nat.lt_of_lt_of_le ta237 E248.1
  have ta271 := Nat.lt_of_lt_of_le ta238 E248.1
  have ta272 := Nat.lt_of_lt_of_le ta239 E248.1
  have ta273 := Nat.lt_of_lt_of_le ta240 E248.1
  have ta274 := Nat.lt_of_lt_of_le ta241 E248.1
  have ta275 := Nat.lt_of_lt_of_le ta242 E248.1
  have ta276 := Nat.lt_of_lt_of_le ta243 E248.1
  have ta277 := Nat.lt_of_lt_of_le ta244 E248.1
  have za278 : n0 ≤ h248.size := Nat.le_trans za245 E248.1
  have Ka279 := Ka246.ext E248
  have V248' : LA Z h248 b248 .int (u0 + u1 + u2) (fun _ => (.int (0 : Int32))) := V248
  have ta248' := V248'.lt
  refine Gq.go (T248.setTop (mkF m 85 #[.val (.ref a1), .val (.ref a2), .val (.ref a3), .val (.int p3), .val (.int p4), .val (.int (3 : Int32))] [(.ref b248), (.ref a1)])) (fun tt_ kk_ => st248 tt_ kk_) ?_
  obtain ⟨T280, h280, X280, eh280, W280, st280⟩ := putF X248 hx hZ hown (host := "") (Or.inl (hw _ (List.mem_of_getElem? (i := 99) rfl))) Via.refl eh248 fa250 fa249 (Or.inr ⟨(hw _ (List.mem_of_getElem? (i := 100) rfl)), rfl, hnm⟩) (hw _ (List.mem_of_getElem? (i := 63) rfl)) (ty := (.array .int)) (by decide) rfl rfl (g := (mkF m 85 #[.val (.ref a1), .val (.ref a2), .val (.ref a3), .val (.int p3), .val (.int p4), .val (.int (3 : Int32))] [(.ref b248), (.ref a1)])) rfl rfl (hb hby d11_85)
  have Fw280 := fa250.same W280
  have fa281 := fa249.wr W280
  have fa282 := fa251.other W280 (Or.inr (slot_ne (Or.inr (hw _ (List.mem_of_getElem? (i := 113) rfl))) (Or.inr (hw _ (List.mem_of_getElem? (i := 100) rfl))) (by decide) (t := .int) (t' := (.array .int)) (by decide) (by decide)))
  have fa283 := fa252.other W280 (Or.inr (slot_ne (Or.inr (hw _ (List.mem_of_getElem? (i := 115) rfl))) (Or.inr (hw _ (List.mem_of_getElem? (i := 100) rfl))) (by decide) (t := .boolean) (t' := (.array .int)) (by decide) (by decide)))
  have fa284 := fa253.other W280 n_a2
  have fa285 := fa254.wr W280
  have fa286 := fa255.other W280 (Or.inl n_a3)
  have fa287 := fa256.other W280 (Or.inl n_a3)
  have fa288 := fa257.other W280 n_el
  have fa289 := fa258.wr W280
  have fa290 := fa259.other W280 n_y0
  have fa291 := fa260.wr W280
  have fa292 := fa261.other W280 n_y1
  have fa293 := fa262.wr W280
  have fa294 := fa263.other W280 n_y2
  have fa295 := fa264.other W280 (Or.inr (slot_ne (Or.inr (hw _ (List.mem_of_getElem? (i := 70) rfl))) (Or.inr (hw _ (List.mem_of_getElem? (i := 100) rfl))) (by decide) (t := (.array .int)) (t' := (.array .int)) (by decide) (by decide)))
  have fa296 := fa265.other W280 (Or.inr (slot_ne (Or.inr (hw _ (List.mem_of_getElem? (i := 72) rfl))) (Or.inr (hw _ (List.mem_of_getElem? (i := 100) rfl))) (by decide) (t := (.array .int)) (t' := (.array .int)) (by decide) (by decide)))
  have fa297 := fa266.other W280 (Ne.symm ne_a1_b29)
  have fa298 := fa267.other W280 (Ne.symm ne_a1_b186)
  have fa299 := fa268.other W280 (Or.inr (slot_ne (Or.inr (hw _ (List.mem_of_getElem? (i := 98) rfl))) (Or.inr (hw _ (List.mem_of_getElem? (i := 100) rfl))) (by decide) (t := (.array .int)) (t' := (.array .int)) (by decide) (by decide)))
  have fa300 := V248'.other W280 (Ne.symm ne_a1_b248)
  have ta301 := Nat.lt_of_lt_of_le ta269 (Nat.le_of_eq W280.size.symm)
  have ta302 := Nat.lt_of_lt_of_le ta270 (Nat.le_of_eq W280.size.symm)
  have ta303 := Nat.lt_of_lt_of_le ta271 (Nat.le_of_eq W280.size.symm)
  have ta304 := Nat.lt_of_lt_of_le ta272 (Nat.le_of_eq W280.size.symm)
  have ta305 := Nat.lt_of_lt_of_le ta273 (Nat.le_of_eq W280.size.symm)
  have ta306 := Nat.lt_of_lt_of_le ta274 (Nat.le_of_eq W280.size.symm)
  have ta307 := Nat.lt_of_lt_of_le ta275 (Nat.le_of_eq W280.size.symm)
  have ta308 := Nat.lt_of_lt_of_le ta276 (Nat.le_of_eq W280.size.symm)
  have ta309 := Nat.lt_of_lt_of_le ta277 (Nat.le_of_eq W280.size.symm)
  have ta310 := Nat.lt_of_lt_of_le ta248' (Nat.le_of_eq W280.size.symm)
  have za311 : n0 ≤ h280.size := Nat.le_trans za278 (Nat.le_of_eq W280.size.symm)
  have Ka312 := Ka279.wr W280 (Or.inl (List.mem_of_getElem? (i := 0) rfl))
  have N280 := Fr.snoc X280 N216 ga
  refine Gq.go (T280.setTop (mkF m 88 #[.val (.ref a1), .val (.ref a2), .val (.ref a3), .val (.int p3), .val (.int p4), .val (.int (3 : Int32))] [])) (fun tt_ kk_ => st280 _ kk_) ?_
  refine Gq.go (T280.setTop (mkF m 89 #[.val (.ref a1), .val (.ref a2), .val (.ref a3), .val (.int p3), .val (.int p4), .val (.int (3 : Int32))] [(.int (0 : Int32))])) (fun tt_ kk_ => XS.iconst X280.here hx rfl (hb hby d11_88) kk_) ?_
  refine Gq.go (T280.setTop (mkF m 91 #[.val (.ref a1), .val (.ref a2), .val (.ref a3), .val (.int p3), .val (.int p4), .val (.int (0 : Int32))] [])) (fun tt_ kk_ => XS.istore X280.here hx rfl (hb hby d11_89) rfl (l' := #[.val (.ref a1), .val (.ref a2), .val (.ref a3), .val (.int p3), .val (.int p4), .val (.int (0 : Int32))]) rfl kk_) ?_
  refine Gq.go (T280.setTop (mkF m 93 #[.val (.ref a1), .val (.ref a2), .val (.ref a3), .val (.int p3), .val (.int p4), .val (.int (0 : Int32))] [(.int (0 : Int32))])) (fun tt_ kk_ => XS.iload X280.here hx rfl (hb hby d11_91) rfl kk_) ?_
  refine Gq.go (T280.setTop (mkF m 94 #[.val (.ref a1), .val (.ref a2), .val (.ref a3), .val (.int p3), .val (.int p4), .val (.int (0 : Int32))] [(.ref a2), (.int (0 : Int32))])) (fun tt_ kk_ => XS.aloadN X280.here hx rfl (hb hby d11_93) rfl rfl kk_) ?_
  refine Gq.go (T280.setTop (mkF m 95 #[.val (.ref a1), .val (.ref a2), .val (.ref a3), .val (.int p3), .val (.int p4), .val (.int (0 : Int32))] [(.int (3 : Int32)), (.int (0 : Int32))])) (fun tt_ kk_ => lenA X280 hx hZ eh280 fa284 (hb hby d11_94) tt_ kk_) ?_
  refine Gq.go (T280.setTop (mkF m 98 #[.val (.ref a1), .val (.ref a2), .val (.ref a3), .val (.int p3), .val (.int p4), .val (.int (0 : Int32))] [])) (fun tt_ kk_ => XS.icmpNo X280.here hx rfl (hb hby d11_95) rfl (tlt (by decide : ((0 : Int32) < (3 : Int32)))).2.1 kk_) ?_
  refine Gq.go (T280.setTop (mkF m 99 #[.val (.ref a1), .val (.ref a2), .val (.ref a3), .val (.int p3), .val (.int p4), .val (.int (0 : Int32))] [(.ref a1)])) (fun tt_ kk_ => XS.aloadN X280.here hx rfl (hb hby d11_98) rfl rfl kk_) ?_
  obtain ⟨T313, X313, eh313, st313⟩ := getF X280 hx hZ hown (host := "") (Or.inl (hw _ (List.mem_of_getElem? (i := 97) rfl))) Via.refl eh280 fa299 (g := (mkF m 99 #[.val (.ref a1), .val (.ref a2), .val (.ref a3), .val (.int p3), .val (.int p4), .val (.int (0 : Int32))] [(.ref a1)])) rfl rfl (hb hby d11_99)
  refine Gq.go (T313.setTop (mkF m 102 #[.val (.ref a1), .val (.ref a2), .val (.ref a3), .val (.int p3), .val (.int p4), .val (.int (0 : Int32))] [(.ref b186)])) (fun tt_ kk_ => st313 _ kk_) ?_
  refine Gq.go (T313.setTop (mkF m 103 #[.val (.ref a1), .val (.ref a2), .val (.ref a3), .val (.int p3), .val (.int p4), .val (.int (0 : Int32))] [(.ref a1), (.ref b186)])) (fun tt_ kk_ => XS.aloadN X313.here hx rfl (hb hby d11_102) rfl rfl kk_) ?_
  obtain ⟨T314, X314, eh314, st314⟩ := getF X313 hx hZ hown (host := "") (Or.inl (hw _ (List.mem_of_getElem? (i := 71) rfl))) Via.refl eh313 fa296 (g := (mkF m 103 #[.val (.ref a1), .val (.ref a2), .val (.ref a3), .val (.int p3), .val (.int p4), .val (.int (0 : Int32))] [(.ref a1), (.ref b186)])) rfl rfl (hb hby d11_103)
  refine Gq.go (T314.setTop (mkF m 106 #[.val (.ref a1), .val (.ref a2), .val (.ref a3), .val (.int p3), .val (.int p4), .val (.int (0 : Int32))] [(.ref b29), (.ref b186)])) (fun tt_ kk_ => st314 _ kk_) ?_
  refine Gq.go (T314.setTop (mkF m 108 #[.val (.ref a1), .val (.ref a2), .val (.ref a3), .val (.int p3), .val (.int p4), .val (.int (0 : Int32))] [(.int (0 : Int32)), (.ref b29), (.ref b186)])) (fun tt_ kk_ => XS.iload X314.here hx rfl (hb hby d11_106) rfl kk_) ?_
  refine Gq.go (T314.setTop (mkF m 109 #[.val (.ref a1), .val (.ref a2), .val (.ref a3), .val (.int p3), .val (.int p4), .val (.int (0 : Int32))] [(.int (0 : Int32)), (.ref b186)])) (fun tt_ kk_ => ldI X314 hx hZ eh314 fa297 (j := (0 : Int32)) (i := 0) (x := (0 : Int32)) (by decide) rfl (by decide) rfl (hb hby d11_108) tt_ kk_) ?_
  refine Gq.go (T314.setTop (mkF m 110 #[.val (.ref a1), .val (.ref a2), .val (.ref a3), .val (.int p3), .val (.int p4), .val (.int (0 : Int32))] [(.ref a1), (.int (0 : Int32)), (.ref b186)])) (fun tt_ kk_ => XS.aloadN X314.here hx rfl (hb hby d11_109) rfl rfl kk_) ?_
  obtain ⟨T315, X315, eh315, st315⟩ := getF X314 hx hZ hown (host := "") (Or.inl (hw _ (List.mem_of_getElem? (i := 71) rfl))) Via.refl eh314 fa296 (g := (mkF m 110 #[.val (.ref a1), .val (.ref a2), .val (.ref a3), .val (.int p3), .val (.int p4), .val (.int (0 : Int32))] [(.ref a1), (.int (0 : Int32)), (.ref b186)])) rfl rfl (hb hby d11_110)
  refine Gq.go (T315.setTop (mkF m 113 #[.val (.ref a1), .val (.ref a2), .val (.ref a3), .val (.int p3), .val (.int p4), .val (.int (0 : Int32))] [(.ref b29), (.int (0 : Int32)), (.ref b186)])) (fun tt_ kk_ => st315 _ kk_) ?_
  refine Gq.go (T315.setTop (mkF m 115 #[.val (.ref a1), .val (.ref a2), .val (.ref a3), .val (.int p3), .val (.int p4), .val (.int (0 : Int32))] [(.int (0 : Int32)), (.ref b29), (.int (0 : Int32)), (.ref b186)])) (fun tt_ kk_ => XS.iload X315.here hx rfl (hb hby d11_113) rfl kk_) ?_
  refine Gq.go (T315.setTop (mkF m 116 #[.val (.ref a1), .val (.ref a2), .val (.ref a3), .val (.int p3), .val (.int p4), .val (.int (0 : Int32))] [(.int (1 : Int32)), (.int (0 : Int32)), (.ref b29), (.int (0 : Int32)), (.ref b186)])) (fun tt_ kk_ => XS.iconst X315.here hx rfl (hb hby d11_115) kk_) ?_
  refine Gq.go (T315.setTop (mkF m 117 #[.val (.ref a1), .val (.ref a2), .val (.ref a3), .val (.int p3), .val (.int p4), .val (.int (0 : Int32))] [(.int (1 : Int32)), (.ref b29), (.int (0 : Int32)), (.ref b186)])) (fun tt_ kk_ => XS.iadd X315.here hx rfl (hb hby d11_116) rfl kk_) ?_
  refine Gq.go (T315.setTop (mkF m 118 #[.val (.ref a1), .val (.ref a2), .val (.ref a3), .val (.int p3), .val (.int p4), .val (.int (0 : Int32))] [(.int (Int32.ofNat u0)), (.int (0 : Int32)), (.ref b186)])) (fun tt_ kk_ => ldI X315 hx hZ eh315 fa297 (j := (1 : Int32)) (i := 1) (x := (Int32.ofNat u0)) (by decide) rfl (by decide) rfl (hb hby d11_117) tt_ kk_) ?_
  refine Gq.go (T315.setTop (mkF m 120 #[.val (.ref a1), .val (.ref a2), .val (.ref a3), .val (.int p3), .val (.int p4), .val (.int (0 : Int32))] [(.int (0 : Int32)), (.int (Int32.ofNat u0)), (.int (0 : Int32)), (.ref b186)])) (fun tt_ kk_ => XS.iload X315.here hx rfl (hb hby d11_118) rfl kk_) ?_
  obtain ⟨r316, T316, L316, X316, hQ316, st316⟩ := callT (pc := 120) (Ls := #[.val (.ref a1), .val (.ref a2), .val (.ref a3), .val (.int p3), .val (.int p4), .val (.int (0 : Int32))]) X315 hx hZ hown eh315 [(.ref b186), (.int (0 : Int32)), (.int (Int32.ofNat u0)), (.int (0 : Int32))] [] (hw _ (List.mem_of_getElem? (i := 101) rfl)) (hw _ (List.mem_of_getElem? (i := 102) rfl)) (hw _ (List.mem_of_getElem? (i := 103) rfl)) (hw _ (List.mem_of_getElem? (i := 104) rfl)) (by decide) (rm16 l Z a0 hw [] b186 (u0 + u1 + u2) 0 u0 (0 : Int32) (fun _ => (.int (0 : Int32))) h280 n0 za311 fa298 (by omega) (by omega) (by omega) g_b186) pd_8 rfl (by rw [hml]; rfl) (W := 0) (Nat.le_of_eq rfl) (by decide) (by decide) (by decide) (by decide) (hb hby d11_120)
  obtain ⟨rfl, N316q, Kc316, fn316, c316_0⟩ := hQ316
  have N316 := Fr.app N280 N316q
  have fa317 := fa281.keep Kc316
  have fa318 := fa282.keep Kc316 (ninS ne_a1_b186 nin0)
  have fa319 := fa283.keep Kc316 (ninS ne_a1_b186 nin0)
  have fa320 := fa284.keep Kc316 (ninS ne_a2_b186 nin0)
  have fa321 := fa285.keep Kc316
  have fa322 := fa286.keep Kc316 (ninS ne_a3_b186 nin0)
  have fa323 := fa287.keep Kc316 (ninS ne_a3_b186 nin0)
  have fa324 := fa288.keep Kc316 (ninS ne_el_b186 nin0)
  have fa325 := fa289.keep Kc316
  have fa326 := fa290.keep Kc316 (ninS ne_y0_b186 nin0)
  have fa327 := fa291.keep Kc316
  have fa328 := fa292.keep Kc316 (ninS ne_y1_b186 nin0)
  have fa329 := fa293.keep Kc316
  have fa330 := fa294.keep Kc316 (ninS ne_y2_b186 nin0)
  have fa331 := fa295.keep Kc316 (ninS ne_a1_b186 nin0)
  have fa332 := fa296.keep Kc316 (ninS ne_a1_b186 nin0)
  have fa333 := fa297.keep Kc316 (ninS ne_b29_b186 nin0)
  have fa335 := fa299.keep Kc316 (ninS ne_a1_b186 nin0)
  have fa336 := fa300.keep Kc316 (ninS (Ne.symm ne_b186_b248) nin0)
  have fa337 := Fw280.keep Kc316 (ninS ne_a1_b186 nin0)
  have ta338 := Nat.lt_of_lt_of_le ta301 Kc316.1
  have ta339 := Nat.lt_of_lt_of_le ta302 Kc316.1
  have ta340 := Nat.lt_of_lt_of_le ta303 Kc316.1
  have ta341 := Nat.lt_of_lt_of_le ta304 Kc316.1
  have ta342 := Nat.lt_of_lt_of_le ta305 Kc316.1
  have ta343 := Nat.lt_of_lt_of_le ta306 Kc316.1
  have ta344 := Nat.lt_of_lt_of_le ta307 Kc316.1
  have ta345 := Nat.lt_of_lt_of_le ta308 Kc316.1
  have ta346 := Nat.lt_of_lt_of_le ta309 Kc316.1
  have ta347 := Nat.lt_of_lt_of_le ta310 Kc316.1
  have za348 : n0 ≤ T316.heap.size := Nat.le_trans za311 Kc316.1
  have Ka349 := Ka312.trans Kc316 (allS (Or.inr sz_b186) all0)
  refine Gq.go (T316.setTop (mkF m 123 #[.val (.ref a1), .val (.ref a2), .val (.ref a3), .val (.int p3), .val (.int p4), .val (.int (0 : Int32))] [])) (fun tt_ kk_ => st316 tt_ kk_) ?_
  refine Gq.go (T316.setTop (mkF m 124 #[.val (.ref a1), .val (.ref a2), .val (.ref a3), .val (.int p3), .val (.int p4), .val (.int (0 : Int32))] [(.ref a3)])) (fun tt_ kk_ => XS.aloadN X316.here hx rfl (hb hby d11_123) rfl rfl kk_) ?_
  refine Gq.go (T316.setTop (mkF m 126 #[.val (.ref a1), .val (.ref a2), .val (.ref a3), .val (.int p3), .val (.int p4), .val (.int (0 : Int32))] [(.int (0 : Int32)), (.ref a3)])) (fun tt_ kk_ => XS.iload X316.here hx rfl (hb hby d11_124) rfl kk_) ?_
  obtain ⟨r350, T350, L350, X350, hQ350, st350⟩ := callF (pc := 126) (Ls := #[.val (.ref a1), .val (.ref a2), .val (.ref a3), .val (.int p3), .val (.int p4), .val (.int (0 : Int32))]) X316 hx hZ hown rfl a3 [(.int (0 : Int32))] [] fa321 (hw _ (List.mem_of_getElem? (i := 73) rfl)) (hw _ (List.mem_of_getElem? (i := 74) rfl)) (mvT hZ (hw _ (List.mem_of_getElem? (i := 75) rfl))) (hw _ (List.mem_of_getElem? (i := 76) rfl)) (hw _ (List.mem_of_getElem? (i := 77) rfl)) (hw _ (List.mem_of_getElem? (i := 78) rfl)) (hw _ (List.mem_of_getElem? (i := 79) rfl)) (hw _ (List.mem_of_getElem? (i := 80) rfl)) (hw _ (List.mem_of_getElem? (i := 2) rfl)) (hw _ (List.mem_of_getElem? (i := 81) rfl)) (by decide) (rm12 l Z a0 hw [] a3 0 el (gl [(.ref y0), (.ref y1), (.ref y2), .null, .null, .null, .null, .null, .null, .null] .null) y0 T316.heap n0 za348 fa321 fa322 fa323 fa324 (by decide) rfl) pd_6 rfl (by rw [hml]; rfl) (W := 0) (Nat.le_of_eq rfl) (by decide) (by decide) (by decide) (by decide) (hb hby d11_126)
  obtain ⟨rfl, N350q, eh350⟩ := hQ350
  have N350 := Fr.app N316 N350q
  refine Gq.go (T350.setTop (mkF m 131 #[.val (.ref a1), .val (.ref a2), .val (.ref a3), .val (.int p3), .val (.int p4), .val (.int (0 : Int32))] [(.ref y0)])) (fun tt_ kk_ => st350 tt_ kk_) ?_
  refine Gq.go (T350.setTop (mkF m 132 #[.val (.ref a1), .val (.ref a2), .val (.ref a3), .val (.int p3), .val (.int p4), .val (.int (0 : Int32))] [(.int (0 : Int32)), (.ref y0)])) (fun tt_ kk_ => XS.iconst X350.here hx rfl (hb hby d11_131) kk_) ?_
  refine Gq.go (T350.setTop (mkF m 133 #[.val (.ref a1), .val (.ref a2), .val (.ref a3), .val (.int p3), .val (.int p4), .val (.int (0 : Int32))] [(.ref a1), (.int (0 : Int32)), (.ref y0)])) (fun tt_ kk_ => XS.aloadN X350.here hx rfl (hb hby d11_132) rfl rfl kk_) ?_
  obtain ⟨T351, X351, eh351, st351⟩ := getF X350 hx hZ hown (host := "") (Or.inl (hw _ (List.mem_of_getElem? (i := 99) rfl))) Via.refl eh350 fa337 (g := (mkF m 133 #[.val (.ref a1), .val (.ref a2), .val (.ref a3), .val (.int p3), .val (.int p4), .val (.int (0 : Int32))] [(.ref a1), (.int (0 : Int32)), (.ref y0)])) rfl rfl (hb hby d11_133)
  refine Gq.go (T351.setTop (mkF m 136 #[.val (.ref a1), .val (.ref a2), .val (.ref a3), .val (.int p3), .val (.int p4), .val (.int (0 : Int32))] [(.ref b248), (.int (0 : Int32)), (.ref y0)])) (fun tt_ kk_ => st351 _ kk_) ?_
  refine Gq.go (T351.setTop (mkF m 137 #[.val (.ref a1), .val (.ref a2), .val (.ref a3), .val (.int p3), .val (.int p4), .val (.int (0 : Int32))] [(.ref a1), (.ref b248), (.int (0 : Int32)), (.ref y0)])) (fun tt_ kk_ => XS.aloadN X351.here hx rfl (hb hby d11_136) rfl rfl kk_) ?_
  obtain ⟨T352, X352, eh352, st352⟩ := getF X351 hx hZ hown (host := "") (Or.inl (hw _ (List.mem_of_getElem? (i := 71) rfl))) Via.refl eh351 fa332 (g := (mkF m 137 #[.val (.ref a1), .val (.ref a2), .val (.ref a3), .val (.int p3), .val (.int p4), .val (.int (0 : Int32))] [(.ref a1), (.ref b248), (.int (0 : Int32)), (.ref y0)])) rfl rfl (hb hby d11_137)
  refine Gq.go (T352.setTop (mkF m 140 #[.val (.ref a1), .val (.ref a2), .val (.ref a3), .val (.int p3), .val (.int p4), .val (.int (0 : Int32))] [(.ref b29), (.ref b248), (.int (0 : Int32)), (.ref y0)])) (fun tt_ kk_ => st352 _ kk_) ?_
  refine Gq.go (T352.setTop (mkF m 142 #[.val (.ref a1), .val (.ref a2), .val (.ref a3), .val (.int p3), .val (.int p4), .val (.int (0 : Int32))] [(.int (0 : Int32)), (.ref b29), (.ref b248), (.int (0 : Int32)), (.ref y0)])) (fun tt_ kk_ => XS.iload X352.here hx rfl (hb hby d11_140) rfl kk_) ?_
  refine Gq.go (T352.setTop (mkF m 143 #[.val (.ref a1), .val (.ref a2), .val (.ref a3), .val (.int p3), .val (.int p4), .val (.int (0 : Int32))] [(.int (0 : Int32)), (.ref b248), (.int (0 : Int32)), (.ref y0)])) (fun tt_ kk_ => ldI X352 hx hZ eh352 fa333 (j := (0 : Int32)) (i := 0) (x := (0 : Int32)) (by decide) rfl (by decide) rfl (hb hby d11_142) tt_ kk_) ?_
  refine Gq.go (T352.setTop (mkF m 144 #[.val (.ref a1), .val (.ref a2), .val (.ref a3), .val (.int p3), .val (.int p4), .val (.int (0 : Int32))] [(.ref a3), (.int (0 : Int32)), (.ref b248), (.int (0 : Int32)), (.ref y0)])) (fun tt_ kk_ => XS.aloadN X352.here hx rfl (hb hby d11_143) rfl rfl kk_) ?_
  refine Gq.go (T352.setTop (mkF m 146 #[.val (.ref a1), .val (.ref a2), .val (.ref a3), .val (.int p3), .val (.int p4), .val (.int (0 : Int32))] [(.int (0 : Int32)), (.ref a3), (.int (0 : Int32)), (.ref b248), (.int (0 : Int32)), (.ref y0)])) (fun tt_ kk_ => XS.iload X352.here hx rfl (hb hby d11_144) rfl kk_) ?_
  obtain ⟨r353, T353, L353, X353, hQ353, st353⟩ := callF (pc := 146) (Ls := #[.val (.ref a1), .val (.ref a2), .val (.ref a3), .val (.int p3), .val (.int p4), .val (.int (0 : Int32))]) X352 hx hZ hown eh352 a3 [(.int (0 : Int32))] [(.int (0 : Int32)), (.ref b248), (.int (0 : Int32)), (.ref y0)] fa321 (hw _ (List.mem_of_getElem? (i := 73) rfl)) (hw _ (List.mem_of_getElem? (i := 74) rfl)) (mvT hZ (hw _ (List.mem_of_getElem? (i := 75) rfl))) (hw _ (List.mem_of_getElem? (i := 76) rfl)) (hw _ (List.mem_of_getElem? (i := 77) rfl)) (hw _ (List.mem_of_getElem? (i := 78) rfl)) (hw _ (List.mem_of_getElem? (i := 79) rfl)) (hw _ (List.mem_of_getElem? (i := 80) rfl)) (hw _ (List.mem_of_getElem? (i := 2) rfl)) (hw _ (List.mem_of_getElem? (i := 81) rfl)) (by decide) (rm12 l Z a0 hw [] a3 0 el (gl [(.ref y0), (.ref y1), (.ref y2), .null, .null, .null, .null, .null, .null, .null] .null) y0 T316.heap n0 za348 fa321 fa322 fa323 fa324 (by decide) rfl) pd_6 rfl (by rw [hml]; rfl) (W := 4) (Nat.le_of_eq rfl) (by decide) (by decide) (by decide) (by decide) (hb hby d11_146)
  obtain ⟨rfl, N353q, eh353⟩ := hQ353
  have N353 := Fr.app N350 N353q
  refine Gq.go (T353.setTop (mkF m 151 #[.val (.ref a1), .val (.ref a2), .val (.ref a3), .val (.int p3), .val (.int p4), .val (.int (0 : Int32))] [(.ref y0), (.int (0 : Int32)), (.ref b248), (.int (0 : Int32)), (.ref y0)])) (fun tt_ kk_ => st353 tt_ kk_) ?_
  obtain ⟨T354, X354, eh354, st354⟩ := castY X353 hx hZ hown (hw _ (List.mem_of_getElem? (i := 95) rfl)) eh353 (Ins.self fa325) (g := (mkF m 151 #[.val (.ref a1), .val (.ref a2), .val (.ref a3), .val (.int p3), .val (.int p4), .val (.int (0 : Int32))] [(.ref y0), (.int (0 : Int32)), (.ref b248), (.int (0 : Int32)), (.ref y0)])) rfl rfl (hb hby d11_151)
  refine Gq.go (T354.setTop (mkF m 154 #[.val (.ref a1), .val (.ref a2), .val (.ref a3), .val (.int p3), .val (.int p4), .val (.int (0 : Int32))] [(.ref y0), (.int (0 : Int32)), (.ref b248), (.int (0 : Int32)), (.ref y0)])) (fun tt_ kk_ => st354 _ kk_) ?_
  refine Gq.go (T354.setTop (mkF m 155 #[.val (.ref a1), .val (.ref a2), .val (.ref a3), .val (.int p3), .val (.int p4), .val (.int (0 : Int32))] [(.int (Int32.ofNat u0)), (.int (0 : Int32)), (.ref b248), (.int (0 : Int32)), (.ref y0)])) (fun tt_ kk_ => lenA X354 hx hZ eh354 fa326 (hb hby d11_154) tt_ kk_) ?_
  obtain ⟨T355, h355, L355, g355, X355, eh355, N355, Kc355, V355, ft355, st355⟩ := cpL (pc := 155) (Ls := #[.val (.ref a1), .val (.ref a2), .val (.ref a3), .val (.int p3), .val (.int p4), .val (.int (0 : Int32))]) (rest := []) X354 hx hZ hown (hw _ (List.mem_of_getElem? (i := 108) rfl)) (hw _ (List.mem_of_getElem? (i := 111) rfl)) (hw _ (List.mem_of_getElem? (i := 109) rfl)) (hw _ (List.mem_of_getElem? (i := 110) rfl)) eh354 fa326 (own_fit0 _) fa336 (own_fit0 _) (sp := 0) (dp := 0) (nn := u0) (by omega) (by omega) N353 g_b248 (by rw [hml]; rfl) (hb hby d11_155) (by decide) (W := 0) (Nat.le_of_eq rfl) (by decide)
  have fa356 := fa317.keep Kc355
  have fa357 := fa318.keep Kc355 (ninS ne_a1_b248 nin0)
  have fa358 := fa319.keep Kc355 (ninS ne_a1_b248 nin0)
  have fa359 := fa320.keep Kc355 (ninS ne_a2_b248 nin0)
  have fa360 := fa321.keep Kc355
  have fa361 := fa322.keep Kc355 (ninS ne_a3_b248 nin0)
  have fa362 := fa323.keep Kc355 (ninS ne_a3_b248 nin0)
  have fa363 := fa324.keep Kc355 (ninS ne_el_b248 nin0)
  have fa364 := fa325.keep Kc355
  have fa365 := fa326.keep Kc355 (ninS ne_y0_b248 nin0)
  have fa366 := fa327.keep Kc355
  have fa367 := fa328.keep Kc355 (ninS ne_y1_b248 nin0)
  have fa368 := fa329.keep Kc355
  have fa369 := fa330.keep Kc355 (ninS ne_y2_b248 nin0)
  have fa370 := fa331.keep Kc355 (ninS ne_a1_b248 nin0)
  have fa371 := fa332.keep Kc355 (ninS ne_a1_b248 nin0)
  have fa372 := fa333.keep Kc355 (ninS ne_b29_b248 nin0)
  have fa373 := fa335.keep Kc355 (ninS ne_a1_b248 nin0)
  have fa375 := fa337.keep Kc355 (ninS ne_a1_b248 nin0)
  have fa376 := c316_0.keep Kc355 (ninS ne_b186_b248 nin0)
  have ta377 := Nat.lt_of_lt_of_le ta338 Kc355.1
  have ta378 := Nat.lt_of_lt_of_le ta339 Kc355.1
  have ta379 := Nat.lt_of_lt_of_le ta340 Kc355.1
  have ta380 := Nat.lt_of_lt_of_le ta341 Kc355.1
  have ta381 := Nat.lt_of_lt_of_le ta342 Kc355.1
  have ta382 := Nat.lt_of_lt_of_le ta343 Kc355.1
  have ta383 := Nat.lt_of_lt_of_le ta344 Kc355.1
  have ta384 := Nat.lt_of_lt_of_le ta345 Kc355.1
  have ta385 := Nat.lt_of_lt_of_le ta346 Kc355.1
  have ta386 := Nat.lt_of_lt_of_le ta347 Kc355.1
  have za387 : n0 ≤ h355.size := Nat.le_trans za348 Kc355.1
  have Ka388 := Ka349.trans Kc355 (allS (Or.inr sz_b248) all0)
  refine Gq.go (T355.setTop (mkF m 158 #[.val (.ref a1), .val (.ref a2), .val (.ref a3), .val (.int p3), .val (.int p4), .val (.int (0 : Int32))] [])) (fun tt_ kk_ => st355 tt_ kk_) ?_
  refine Gq.go (T355.setTop (mkF m 161 #[.val (.ref a1), .val (.ref a2), .val (.ref a3), .val (.int p3), .val (.int p4), .val (.int (1 : Int32))] [])) (fun tt_ kk_ => XS.iinc X355.here hx rfl (hb hby d11_158) rfl (l' := #[.val (.ref a1), .val (.ref a2), .val (.ref a3), .val (.int p3), .val (.int p4), .val (.int (1 : Int32))]) rfl kk_) ?_
  refine Gq.go (T355.setTop (mkF m 91 #[.val (.ref a1), .val (.ref a2), .val (.ref a3), .val (.int p3), .val (.int p4), .val (.int (1 : Int32))] [])) (fun tt_ kk_ => XS.goto X355.here hx rfl (pc0 := 161) (pc' := 91) rfl (hb hby d11_161) (by decide) (by decide) kk_) ?_
  refine Gq.go (T355.setTop (mkF m 93 #[.val (.ref a1), .val (.ref a2), .val (.ref a3), .val (.int p3), .val (.int p4), .val (.int (1 : Int32))] [(.int (1 : Int32))])) (fun tt_ kk_ => XS.iload X355.here hx rfl (hb hby d11_91) rfl kk_) ?_
  refine Gq.go (T355.setTop (mkF m 94 #[.val (.ref a1), .val (.ref a2), .val (.ref a3), .val (.int p3), .val (.int p4), .val (.int (1 : Int32))] [(.ref a2), (.int (1 : Int32))])) (fun tt_ kk_ => XS.aloadN X355.here hx rfl (hb hby d11_93) rfl rfl kk_) ?_
  refine Gq.go (T355.setTop (mkF m 95 #[.val (.ref a1), .val (.ref a2), .val (.ref a3), .val (.int p3), .val (.int p4), .val (.int (1 : Int32))] [(.int (3 : Int32)), (.int (1 : Int32))])) (fun tt_ kk_ => lenA X355 hx hZ eh355 fa359 (hb hby d11_94) tt_ kk_) ?_
  refine Gq.go (T355.setTop (mkF m 98 #[.val (.ref a1), .val (.ref a2), .val (.ref a3), .val (.int p3), .val (.int p4), .val (.int (1 : Int32))] [])) (fun tt_ kk_ => XS.icmpNo X355.here hx rfl (hb hby d11_95) rfl (tlt (by decide : ((1 : Int32) < (3 : Int32)))).2.1 kk_) ?_
  refine Gq.go (T355.setTop (mkF m 99 #[.val (.ref a1), .val (.ref a2), .val (.ref a3), .val (.int p3), .val (.int p4), .val (.int (1 : Int32))] [(.ref a1)])) (fun tt_ kk_ => XS.aloadN X355.here hx rfl (hb hby d11_98) rfl rfl kk_) ?_
  obtain ⟨T389, X389, eh389, st389⟩ := getF X355 hx hZ hown (host := "") (Or.inl (hw _ (List.mem_of_getElem? (i := 97) rfl))) Via.refl eh355 fa373 (g := (mkF m 99 #[.val (.ref a1), .val (.ref a2), .val (.ref a3), .val (.int p3), .val (.int p4), .val (.int (1 : Int32))] [(.ref a1)])) rfl rfl (hb hby d11_99)
  refine Gq.go (T389.setTop (mkF m 102 #[.val (.ref a1), .val (.ref a2), .val (.ref a3), .val (.int p3), .val (.int p4), .val (.int (1 : Int32))] [(.ref b186)])) (fun tt_ kk_ => st389 _ kk_) ?_
  refine Gq.go (T389.setTop (mkF m 103 #[.val (.ref a1), .val (.ref a2), .val (.ref a3), .val (.int p3), .val (.int p4), .val (.int (1 : Int32))] [(.ref a1), (.ref b186)])) (fun tt_ kk_ => XS.aloadN X389.here hx rfl (hb hby d11_102) rfl rfl kk_) ?_
  obtain ⟨T390, X390, eh390, st390⟩ := getF X389 hx hZ hown (host := "") (Or.inl (hw _ (List.mem_of_getElem? (i := 71) rfl))) Via.refl eh389 fa371 (g := (mkF m 103 #[.val (.ref a1), .val (.ref a2), .val (.ref a3), .val (.int p3), .val (.int p4), .val (.int (1 : Int32))] [(.ref a1), (.ref b186)])) rfl rfl (hb hby d11_103)
  refine Gq.go (T390.setTop (mkF m 106 #[.val (.ref a1), .val (.ref a2), .val (.ref a3), .val (.int p3), .val (.int p4), .val (.int (1 : Int32))] [(.ref b29), (.ref b186)])) (fun tt_ kk_ => st390 _ kk_) ?_
  refine Gq.go (T390.setTop (mkF m 108 #[.val (.ref a1), .val (.ref a2), .val (.ref a3), .val (.int p3), .val (.int p4), .val (.int (1 : Int32))] [(.int (1 : Int32)), (.ref b29), (.ref b186)])) (fun tt_ kk_ => XS.iload X390.here hx rfl (hb hby d11_106) rfl kk_) ?_
  refine Gq.go (T390.setTop (mkF m 109 #[.val (.ref a1), .val (.ref a2), .val (.ref a3), .val (.int p3), .val (.int p4), .val (.int (1 : Int32))] [(.int (Int32.ofNat u0)), (.ref b186)])) (fun tt_ kk_ => ldI X390 hx hZ eh390 fa372 (j := (1 : Int32)) (i := 1) (x := (Int32.ofNat u0)) (by decide) rfl (by decide) rfl (hb hby d11_108) tt_ kk_) ?_
  refine Gq.go (T390.setTop (mkF m 110 #[.val (.ref a1), .val (.ref a2), .val (.ref a3), .val (.int p3), .val (.int p4), .val (.int (1 : Int32))] [(.ref a1), (.int (Int32.ofNat u0)), (.ref b186)])) (fun tt_ kk_ => XS.aloadN X390.here hx rfl (hb hby d11_109) rfl rfl kk_) ?_
  obtain ⟨T391, X391, eh391, st391⟩ := getF X390 hx hZ hown (host := "") (Or.inl (hw _ (List.mem_of_getElem? (i := 71) rfl))) Via.refl eh390 fa371 (g := (mkF m 110 #[.val (.ref a1), .val (.ref a2), .val (.ref a3), .val (.int p3), .val (.int p4), .val (.int (1 : Int32))] [(.ref a1), (.int (Int32.ofNat u0)), (.ref b186)])) rfl rfl (hb hby d11_110)
  refine Gq.go (T391.setTop (mkF m 113 #[.val (.ref a1), .val (.ref a2), .val (.ref a3), .val (.int p3), .val (.int p4), .val (.int (1 : Int32))] [(.ref b29), (.int (Int32.ofNat u0)), (.ref b186)])) (fun tt_ kk_ => st391 _ kk_) ?_
  refine Gq.go (T391.setTop (mkF m 115 #[.val (.ref a1), .val (.ref a2), .val (.ref a3), .val (.int p3), .val (.int p4), .val (.int (1 : Int32))] [(.int (1 : Int32)), (.ref b29), (.int (Int32.ofNat u0)), (.ref b186)])) (fun tt_ kk_ => XS.iload X391.here hx rfl (hb hby d11_113) rfl kk_) ?_
  refine Gq.go (T391.setTop (mkF m 116 #[.val (.ref a1), .val (.ref a2), .val (.ref a3), .val (.int p3), .val (.int p4), .val (.int (1 : Int32))] [(.int (1 : Int32)), (.int (1 : Int32)), (.ref b29), (.int (Int32.ofNat u0)), (.ref b186)])) (fun tt_ kk_ => XS.iconst X391.here hx rfl (hb hby d11_115) kk_) ?_
  refine Gq.go (T391.setTop (mkF m 117 #[.val (.ref a1), .val (.ref a2), .val (.ref a3), .val (.int p3), .val (.int p4), .val (.int (1 : Int32))] [(.int (2 : Int32)), (.ref b29), (.int (Int32.ofNat u0)), (.ref b186)])) (fun tt_ kk_ => XS.iadd X391.here hx rfl (hb hby d11_116) rfl kk_) ?_
  refine Gq.go (T391.setTop (mkF m 118 #[.val (.ref a1), .val (.ref a2), .val (.ref a3), .val (.int p3), .val (.int p4), .val (.int (1 : Int32))] [(.int (Int32.ofNat (u0 + u1))), (.int (Int32.ofNat u0)), (.ref b186)])) (fun tt_ kk_ => ldI X391 hx hZ eh391 fa372 (j := (2 : Int32)) (i := 2) (x := (Int32.ofNat (u0 + u1))) (by decide) rfl (by decide) rfl (hb hby d11_117) tt_ kk_) ?_
  refine Gq.go (T391.setTop (mkF m 120 #[.val (.ref a1), .val (.ref a2), .val (.ref a3), .val (.int p3), .val (.int p4), .val (.int (1 : Int32))] [(.int (1 : Int32)), (.int (Int32.ofNat (u0 + u1))), (.int (Int32.ofNat u0)), (.ref b186)])) (fun tt_ kk_ => XS.iload X391.here hx rfl (hb hby d11_118) rfl kk_) ?_
  obtain ⟨r392, T392, L392, X392, hQ392, st392⟩ := callT (pc := 120) (Ls := #[.val (.ref a1), .val (.ref a2), .val (.ref a3), .val (.int p3), .val (.int p4), .val (.int (1 : Int32))]) X391 hx hZ hown eh391 [(.ref b186), (.int (Int32.ofNat u0)), (.int (Int32.ofNat (u0 + u1))), (.int (1 : Int32))] [] (hw _ (List.mem_of_getElem? (i := 101) rfl)) (hw _ (List.mem_of_getElem? (i := 102) rfl)) (hw _ (List.mem_of_getElem? (i := 103) rfl)) (hw _ (List.mem_of_getElem? (i := 104) rfl)) (by decide) (rm16 l Z a0 hw [] b186 (u0 + u1 + u2) u0 (u0 + u1) (1 : Int32) fn316 h355 n0 za387 fa376 (by omega) (by omega) (by omega) g_b186) pd_8 rfl (by rw [hml]; rfl) (W := 0) (Nat.le_of_eq rfl) (by decide) (by decide) (by decide) (by decide) (hb hby d11_120)
  obtain ⟨rfl, N392q, Kc392, fn392, c392_0⟩ := hQ392
  have N392 := Fr.app N355 N392q
  have fa393 := fa356.keep Kc392
  have fa394 := fa357.keep Kc392 (ninS ne_a1_b186 nin0)
  have fa395 := fa358.keep Kc392 (ninS ne_a1_b186 nin0)
  have fa396 := fa359.keep Kc392 (ninS ne_a2_b186 nin0)
  have fa397 := fa360.keep Kc392
  have fa398 := fa361.keep Kc392 (ninS ne_a3_b186 nin0)
  have fa399 := fa362.keep Kc392 (ninS ne_a3_b186 nin0)
  have fa400 := fa363.keep Kc392 (ninS ne_el_b186 nin0)
  have fa401 := fa364.keep Kc392
  have fa402 := fa365.keep Kc392 (ninS ne_y0_b186 nin0)
  have fa403 := fa366.keep Kc392
  have fa404 := fa367.keep Kc392 (ninS ne_y1_b186 nin0)
  have fa405 := fa368.keep Kc392
  have fa406 := fa369.keep Kc392 (ninS ne_y2_b186 nin0)
  have fa407 := fa370.keep Kc392 (ninS ne_a1_b186 nin0)
  have fa408 := fa371.keep Kc392 (ninS ne_a1_b186 nin0)
  have fa409 := fa372.keep Kc392 (ninS ne_b29_b186 nin0)
  have fa410 := fa373.keep Kc392 (ninS ne_a1_b186 nin0)
  have fa411 := fa375.keep Kc392 (ninS ne_a1_b186 nin0)
  have fa413 := V355.keep Kc392 (ninS (Ne.symm ne_b186_b248) nin0)
  have ta414 := Nat.lt_of_lt_of_le ta377 Kc392.1
  have ta415 := Nat.lt_of_lt_of_le ta378 Kc392.1
  have ta416 := Nat.lt_of_lt_of_le ta379 Kc392.1
  have ta417 := Nat.lt_of_lt_of_le ta380 Kc392.1
  have ta418 := Nat.lt_of_lt_of_le ta381 Kc392.1
  have ta419 := Nat.lt_of_lt_of_le ta382 Kc392.1
  have ta420 := Nat.lt_of_lt_of_le ta383 Kc392.1
  have ta421 := Nat.lt_of_lt_of_le ta384 Kc392.1
  have ta422 := Nat.lt_of_lt_of_le ta385 Kc392.1
  have ta423 := Nat.lt_of_lt_of_le ta386 Kc392.1
  have za424 : n0 ≤ T392.heap.size := Nat.le_trans za387 Kc392.1
  have Ka425 := Ka388.trans Kc392 (allS (Or.inr sz_b186) all0)
  refine Gq.go (T392.setTop (mkF m 123 #[.val (.ref a1), .val (.ref a2), .val (.ref a3), .val (.int p3), .val (.int p4), .val (.int (1 : Int32))] [])) (fun tt_ kk_ => st392 tt_ kk_) ?_
  refine Gq.go (T392.setTop (mkF m 124 #[.val (.ref a1), .val (.ref a2), .val (.ref a3), .val (.int p3), .val (.int p4), .val (.int (1 : Int32))] [(.ref a3)])) (fun tt_ kk_ => XS.aloadN X392.here hx rfl (hb hby d11_123) rfl rfl kk_) ?_
  refine Gq.go (T392.setTop (mkF m 126 #[.val (.ref a1), .val (.ref a2), .val (.ref a3), .val (.int p3), .val (.int p4), .val (.int (1 : Int32))] [(.int (1 : Int32)), (.ref a3)])) (fun tt_ kk_ => XS.iload X392.here hx rfl (hb hby d11_124) rfl kk_) ?_
  obtain ⟨r426, T426, L426, X426, hQ426, st426⟩ := callF (pc := 126) (Ls := #[.val (.ref a1), .val (.ref a2), .val (.ref a3), .val (.int p3), .val (.int p4), .val (.int (1 : Int32))]) X392 hx hZ hown rfl a3 [(.int (1 : Int32))] [] fa397 (hw _ (List.mem_of_getElem? (i := 73) rfl)) (hw _ (List.mem_of_getElem? (i := 74) rfl)) (mvT hZ (hw _ (List.mem_of_getElem? (i := 75) rfl))) (hw _ (List.mem_of_getElem? (i := 76) rfl)) (hw _ (List.mem_of_getElem? (i := 77) rfl)) (hw _ (List.mem_of_getElem? (i := 78) rfl)) (hw _ (List.mem_of_getElem? (i := 79) rfl)) (hw _ (List.mem_of_getElem? (i := 80) rfl)) (hw _ (List.mem_of_getElem? (i := 2) rfl)) (hw _ (List.mem_of_getElem? (i := 81) rfl)) (by decide) (rm12 l Z a0 hw [] a3 1 el (gl [(.ref y0), (.ref y1), (.ref y2), .null, .null, .null, .null, .null, .null, .null] .null) y1 T392.heap n0 za424 fa397 fa398 fa399 fa400 (by decide) rfl) pd_6 rfl (by rw [hml]; rfl) (W := 0) (Nat.le_of_eq rfl) (by decide) (by decide) (by decide) (by decide) (hb hby d11_126)
  obtain ⟨rfl, N426q, eh426⟩ := hQ426
  have N426 := Fr.app N392 N426q
  refine Gq.go (T426.setTop (mkF m 131 #[.val (.ref a1), .val (.ref a2), .val (.ref a3), .val (.int p3), .val (.int p4), .val (.int (1 : Int32))] [(.ref y1)])) (fun tt_ kk_ => st426 tt_ kk_) ?_
  refine Gq.go (T426.setTop (mkF m 132 #[.val (.ref a1), .val (.ref a2), .val (.ref a3), .val (.int p3), .val (.int p4), .val (.int (1 : Int32))] [(.int (0 : Int32)), (.ref y1)])) (fun tt_ kk_ => XS.iconst X426.here hx rfl (hb hby d11_131) kk_) ?_
  refine Gq.go (T426.setTop (mkF m 133 #[.val (.ref a1), .val (.ref a2), .val (.ref a3), .val (.int p3), .val (.int p4), .val (.int (1 : Int32))] [(.ref a1), (.int (0 : Int32)), (.ref y1)])) (fun tt_ kk_ => XS.aloadN X426.here hx rfl (hb hby d11_132) rfl rfl kk_) ?_
  obtain ⟨T427, X427, eh427, st427⟩ := getF X426 hx hZ hown (host := "") (Or.inl (hw _ (List.mem_of_getElem? (i := 99) rfl))) Via.refl eh426 fa411 (g := (mkF m 133 #[.val (.ref a1), .val (.ref a2), .val (.ref a3), .val (.int p3), .val (.int p4), .val (.int (1 : Int32))] [(.ref a1), (.int (0 : Int32)), (.ref y1)])) rfl rfl (hb hby d11_133)
  refine Gq.go (T427.setTop (mkF m 136 #[.val (.ref a1), .val (.ref a2), .val (.ref a3), .val (.int p3), .val (.int p4), .val (.int (1 : Int32))] [(.ref b248), (.int (0 : Int32)), (.ref y1)])) (fun tt_ kk_ => st427 _ kk_) ?_
  refine Gq.go (T427.setTop (mkF m 137 #[.val (.ref a1), .val (.ref a2), .val (.ref a3), .val (.int p3), .val (.int p4), .val (.int (1 : Int32))] [(.ref a1), (.ref b248), (.int (0 : Int32)), (.ref y1)])) (fun tt_ kk_ => XS.aloadN X427.here hx rfl (hb hby d11_136) rfl rfl kk_) ?_
  obtain ⟨T428, X428, eh428, st428⟩ := getF X427 hx hZ hown (host := "") (Or.inl (hw _ (List.mem_of_getElem? (i := 71) rfl))) Via.refl eh427 fa408 (g := (mkF m 137 #[.val (.ref a1), .val (.ref a2), .val (.ref a3), .val (.int p3), .val (.int p4), .val (.int (1 : Int32))] [(.ref a1), (.ref b248), (.int (0 : Int32)), (.ref y1)])) rfl rfl (hb hby d11_137)
  refine Gq.go (T428.setTop (mkF m 140 #[.val (.ref a1), .val (.ref a2), .val (.ref a3), .val (.int p3), .val (.int p4), .val (.int (1 : Int32))] [(.ref b29), (.ref b248), (.int (0 : Int32)), (.ref y1)])) (fun tt_ kk_ => st428 _ kk_) ?_
  refine Gq.go (T428.setTop (mkF m 142 #[.val (.ref a1), .val (.ref a2), .val (.ref a3), .val (.int p3), .val (.int p4), .val (.int (1 : Int32))] [(.int (1 : Int32)), (.ref b29), (.ref b248), (.int (0 : Int32)), (.ref y1)])) (fun tt_ kk_ => XS.iload X428.here hx rfl (hb hby d11_140) rfl kk_) ?_
  refine Gq.go (T428.setTop (mkF m 143 #[.val (.ref a1), .val (.ref a2), .val (.ref a3), .val (.int p3), .val (.int p4), .val (.int (1 : Int32))] [(.int (Int32.ofNat u0)), (.ref b248), (.int (0 : Int32)), (.ref y1)])) (fun tt_ kk_ => ldI X428 hx hZ eh428 fa409 (j := (1 : Int32)) (i := 1) (x := (Int32.ofNat u0)) (by decide) rfl (by decide) rfl (hb hby d11_142) tt_ kk_) ?_
  refine Gq.go (T428.setTop (mkF m 144 #[.val (.ref a1), .val (.ref a2), .val (.ref a3), .val (.int p3), .val (.int p4), .val (.int (1 : Int32))] [(.ref a3), (.int (Int32.ofNat u0)), (.ref b248), (.int (0 : Int32)), (.ref y1)])) (fun tt_ kk_ => XS.aloadN X428.here hx rfl (hb hby d11_143) rfl rfl kk_) ?_
  refine Gq.go (T428.setTop (mkF m 146 #[.val (.ref a1), .val (.ref a2), .val (.ref a3), .val (.int p3), .val (.int p4), .val (.int (1 : Int32))] [(.int (1 : Int32)), (.ref a3), (.int (Int32.ofNat u0)), (.ref b248), (.int (0 : Int32)), (.ref y1)])) (fun tt_ kk_ => XS.iload X428.here hx rfl (hb hby d11_144) rfl kk_) ?_
  obtain ⟨r429, T429, L429, X429, hQ429, st429⟩ := callF (pc := 146) (Ls := #[.val (.ref a1), .val (.ref a2), .val (.ref a3), .val (.int p3), .val (.int p4), .val (.int (1 : Int32))]) X428 hx hZ hown eh428 a3 [(.int (1 : Int32))] [(.int (Int32.ofNat u0)), (.ref b248), (.int (0 : Int32)), (.ref y1)] fa397 (hw _ (List.mem_of_getElem? (i := 73) rfl)) (hw _ (List.mem_of_getElem? (i := 74) rfl)) (mvT hZ (hw _ (List.mem_of_getElem? (i := 75) rfl))) (hw _ (List.mem_of_getElem? (i := 76) rfl)) (hw _ (List.mem_of_getElem? (i := 77) rfl)) (hw _ (List.mem_of_getElem? (i := 78) rfl)) (hw _ (List.mem_of_getElem? (i := 79) rfl)) (hw _ (List.mem_of_getElem? (i := 80) rfl)) (hw _ (List.mem_of_getElem? (i := 2) rfl)) (hw _ (List.mem_of_getElem? (i := 81) rfl)) (by decide) (rm12 l Z a0 hw [] a3 1 el (gl [(.ref y0), (.ref y1), (.ref y2), .null, .null, .null, .null, .null, .null, .null] .null) y1 T392.heap n0 za424 fa397 fa398 fa399 fa400 (by decide) rfl) pd_6 rfl (by rw [hml]; rfl) (W := 4) (Nat.le_of_eq rfl) (by decide) (by decide) (by decide) (by decide) (hb hby d11_146)
  obtain ⟨rfl, N429q, eh429⟩ := hQ429
  have N429 := Fr.app N426 N429q
  refine Gq.go (T429.setTop (mkF m 151 #[.val (.ref a1), .val (.ref a2), .val (.ref a3), .val (.int p3), .val (.int p4), .val (.int (1 : Int32))] [(.ref y1), (.int (Int32.ofNat u0)), (.ref b248), (.int (0 : Int32)), (.ref y1)])) (fun tt_ kk_ => st429 tt_ kk_) ?_
  obtain ⟨T430, X430, eh430, st430⟩ := castY X429 hx hZ hown (hw _ (List.mem_of_getElem? (i := 95) rfl)) eh429 (Ins.self fa403) (g := (mkF m 151 #[.val (.ref a1), .val (.ref a2), .val (.ref a3), .val (.int p3), .val (.int p4), .val (.int (1 : Int32))] [(.ref y1), (.int (Int32.ofNat u0)), (.ref b248), (.int (0 : Int32)), (.ref y1)])) rfl rfl (hb hby d11_151)
  refine Gq.go (T430.setTop (mkF m 154 #[.val (.ref a1), .val (.ref a2), .val (.ref a3), .val (.int p3), .val (.int p4), .val (.int (1 : Int32))] [(.ref y1), (.int (Int32.ofNat u0)), (.ref b248), (.int (0 : Int32)), (.ref y1)])) (fun tt_ kk_ => st430 _ kk_) ?_
  refine Gq.go (T430.setTop (mkF m 155 #[.val (.ref a1), .val (.ref a2), .val (.ref a3), .val (.int p3), .val (.int p4), .val (.int (1 : Int32))] [(.int (Int32.ofNat u1)), (.int (Int32.ofNat u0)), (.ref b248), (.int (0 : Int32)), (.ref y1)])) (fun tt_ kk_ => lenA X430 hx hZ eh430 fa404 (hb hby d11_154) tt_ kk_) ?_
  obtain ⟨T431, h431, L431, g431, X431, eh431, N431, Kc431, V431, ft431, st431⟩ := cpL (pc := 155) (Ls := #[.val (.ref a1), .val (.ref a2), .val (.ref a3), .val (.int p3), .val (.int p4), .val (.int (1 : Int32))]) (rest := []) X430 hx hZ hown (hw _ (List.mem_of_getElem? (i := 108) rfl)) (hw _ (List.mem_of_getElem? (i := 111) rfl)) (hw _ (List.mem_of_getElem? (i := 109) rfl)) (hw _ (List.mem_of_getElem? (i := 110) rfl)) eh430 fa404 (own_fit0 _) fa413 ft355 (sp := 0) (dp := u0) (nn := u1) (by omega) (by omega) N429 g_b248 (by rw [hml]; rfl) (hb hby d11_155) (by decide) (W := 0) (Nat.le_of_eq rfl) (by decide)
  have fa432 := fa393.keep Kc431
  have fa433 := fa394.keep Kc431 (ninS ne_a1_b248 nin0)
  have fa434 := fa395.keep Kc431 (ninS ne_a1_b248 nin0)
  have fa435 := fa396.keep Kc431 (ninS ne_a2_b248 nin0)
  have fa436 := fa397.keep Kc431
  have fa437 := fa398.keep Kc431 (ninS ne_a3_b248 nin0)
  have fa438 := fa399.keep Kc431 (ninS ne_a3_b248 nin0)
  have fa439 := fa400.keep Kc431 (ninS ne_el_b248 nin0)
  have fa440 := fa401.keep Kc431
  have fa441 := fa402.keep Kc431 (ninS ne_y0_b248 nin0)
  have fa442 := fa403.keep Kc431
  have fa443 := fa404.keep Kc431 (ninS ne_y1_b248 nin0)
  have fa444 := fa405.keep Kc431
  have fa445 := fa406.keep Kc431 (ninS ne_y2_b248 nin0)
  have fa446 := fa407.keep Kc431 (ninS ne_a1_b248 nin0)
  have fa447 := fa408.keep Kc431 (ninS ne_a1_b248 nin0)
  have fa448 := fa409.keep Kc431 (ninS ne_b29_b248 nin0)
  have fa449 := fa410.keep Kc431 (ninS ne_a1_b248 nin0)
  have fa450 := fa411.keep Kc431 (ninS ne_a1_b248 nin0)
  have fa452 := c392_0.keep Kc431 (ninS ne_b186_b248 nin0)
  have ta453 := Nat.lt_of_lt_of_le ta414 Kc431.1
  have ta454 := Nat.lt_of_lt_of_le ta415 Kc431.1
  have ta455 := Nat.lt_of_lt_of_le ta416 Kc431.1
  have ta456 := Nat.lt_of_lt_of_le ta417 Kc431.1
  have ta457 := Nat.lt_of_lt_of_le ta418 Kc431.1
  have ta458 := Nat.lt_of_lt_of_le ta419 Kc431.1
  have ta459 := Nat.lt_of_lt_of_le ta420 Kc431.1
  have ta460 := Nat.lt_of_lt_of_le ta421 Kc431.1
  have ta461 := Nat.lt_of_lt_of_le ta422 Kc431.1
  have ta462 := Nat.lt_of_lt_of_le ta423 Kc431.1
  have za463 : n0 ≤ h431.size := Nat.le_trans za424 Kc431.1
  have Ka464 := Ka425.trans Kc431 (allS (Or.inr sz_b248) all0)
  refine Gq.go (T431.setTop (mkF m 158 #[.val (.ref a1), .val (.ref a2), .val (.ref a3), .val (.int p3), .val (.int p4), .val (.int (1 : Int32))] [])) (fun tt_ kk_ => st431 tt_ kk_) ?_
  refine Gq.go (T431.setTop (mkF m 161 #[.val (.ref a1), .val (.ref a2), .val (.ref a3), .val (.int p3), .val (.int p4), .val (.int (2 : Int32))] [])) (fun tt_ kk_ => XS.iinc X431.here hx rfl (hb hby d11_158) rfl (l' := #[.val (.ref a1), .val (.ref a2), .val (.ref a3), .val (.int p3), .val (.int p4), .val (.int (2 : Int32))]) rfl kk_) ?_
  refine Gq.go (T431.setTop (mkF m 91 #[.val (.ref a1), .val (.ref a2), .val (.ref a3), .val (.int p3), .val (.int p4), .val (.int (2 : Int32))] [])) (fun tt_ kk_ => XS.goto X431.here hx rfl (pc0 := 161) (pc' := 91) rfl (hb hby d11_161) (by decide) (by decide) kk_) ?_
  refine Gq.go (T431.setTop (mkF m 93 #[.val (.ref a1), .val (.ref a2), .val (.ref a3), .val (.int p3), .val (.int p4), .val (.int (2 : Int32))] [(.int (2 : Int32))])) (fun tt_ kk_ => XS.iload X431.here hx rfl (hb hby d11_91) rfl kk_) ?_
  refine Gq.go (T431.setTop (mkF m 94 #[.val (.ref a1), .val (.ref a2), .val (.ref a3), .val (.int p3), .val (.int p4), .val (.int (2 : Int32))] [(.ref a2), (.int (2 : Int32))])) (fun tt_ kk_ => XS.aloadN X431.here hx rfl (hb hby d11_93) rfl rfl kk_) ?_
  refine Gq.go (T431.setTop (mkF m 95 #[.val (.ref a1), .val (.ref a2), .val (.ref a3), .val (.int p3), .val (.int p4), .val (.int (2 : Int32))] [(.int (3 : Int32)), (.int (2 : Int32))])) (fun tt_ kk_ => lenA X431 hx hZ eh431 fa435 (hb hby d11_94) tt_ kk_) ?_
  refine Gq.go (T431.setTop (mkF m 98 #[.val (.ref a1), .val (.ref a2), .val (.ref a3), .val (.int p3), .val (.int p4), .val (.int (2 : Int32))] [])) (fun tt_ kk_ => XS.icmpNo X431.here hx rfl (hb hby d11_95) rfl (tlt (by decide : ((2 : Int32) < (3 : Int32)))).2.1 kk_) ?_
  refine Gq.go (T431.setTop (mkF m 99 #[.val (.ref a1), .val (.ref a2), .val (.ref a3), .val (.int p3), .val (.int p4), .val (.int (2 : Int32))] [(.ref a1)])) (fun tt_ kk_ => XS.aloadN X431.here hx rfl (hb hby d11_98) rfl rfl kk_) ?_
  obtain ⟨T465, X465, eh465, st465⟩ := getF X431 hx hZ hown (host := "") (Or.inl (hw _ (List.mem_of_getElem? (i := 97) rfl))) Via.refl eh431 fa449 (g := (mkF m 99 #[.val (.ref a1), .val (.ref a2), .val (.ref a3), .val (.int p3), .val (.int p4), .val (.int (2 : Int32))] [(.ref a1)])) rfl rfl (hb hby d11_99)
  refine Gq.go (T465.setTop (mkF m 102 #[.val (.ref a1), .val (.ref a2), .val (.ref a3), .val (.int p3), .val (.int p4), .val (.int (2 : Int32))] [(.ref b186)])) (fun tt_ kk_ => st465 _ kk_) ?_
  refine Gq.go (T465.setTop (mkF m 103 #[.val (.ref a1), .val (.ref a2), .val (.ref a3), .val (.int p3), .val (.int p4), .val (.int (2 : Int32))] [(.ref a1), (.ref b186)])) (fun tt_ kk_ => XS.aloadN X465.here hx rfl (hb hby d11_102) rfl rfl kk_) ?_
  obtain ⟨T466, X466, eh466, st466⟩ := getF X465 hx hZ hown (host := "") (Or.inl (hw _ (List.mem_of_getElem? (i := 71) rfl))) Via.refl eh465 fa447 (g := (mkF m 103 #[.val (.ref a1), .val (.ref a2), .val (.ref a3), .val (.int p3), .val (.int p4), .val (.int (2 : Int32))] [(.ref a1), (.ref b186)])) rfl rfl (hb hby d11_103)
  refine Gq.go (T466.setTop (mkF m 106 #[.val (.ref a1), .val (.ref a2), .val (.ref a3), .val (.int p3), .val (.int p4), .val (.int (2 : Int32))] [(.ref b29), (.ref b186)])) (fun tt_ kk_ => st466 _ kk_) ?_
  refine Gq.go (T466.setTop (mkF m 108 #[.val (.ref a1), .val (.ref a2), .val (.ref a3), .val (.int p3), .val (.int p4), .val (.int (2 : Int32))] [(.int (2 : Int32)), (.ref b29), (.ref b186)])) (fun tt_ kk_ => XS.iload X466.here hx rfl (hb hby d11_106) rfl kk_) ?_
  refine Gq.go (T466.setTop (mkF m 109 #[.val (.ref a1), .val (.ref a2), .val (.ref a3), .val (.int p3), .val (.int p4), .val (.int (2 : Int32))] [(.int (Int32.ofNat (u0 + u1))), (.ref b186)])) (fun tt_ kk_ => ldI X466 hx hZ eh466 fa448 (j := (2 : Int32)) (i := 2) (x := (Int32.ofNat (u0 + u1))) (by decide) rfl (by decide) rfl (hb hby d11_108) tt_ kk_) ?_
  refine Gq.go (T466.setTop (mkF m 110 #[.val (.ref a1), .val (.ref a2), .val (.ref a3), .val (.int p3), .val (.int p4), .val (.int (2 : Int32))] [(.ref a1), (.int (Int32.ofNat (u0 + u1))), (.ref b186)])) (fun tt_ kk_ => XS.aloadN X466.here hx rfl (hb hby d11_109) rfl rfl kk_) ?_
  obtain ⟨T467, X467, eh467, st467⟩ := getF X466 hx hZ hown (host := "") (Or.inl (hw _ (List.mem_of_getElem? (i := 71) rfl))) Via.refl eh466 fa447 (g := (mkF m 110 #[.val (.ref a1), .val (.ref a2), .val (.ref a3), .val (.int p3), .val (.int p4), .val (.int (2 : Int32))] [(.ref a1), (.int (Int32.ofNat (u0 + u1))), (.ref b186)])) rfl rfl (hb hby d11_110)
  refine Gq.go (T467.setTop (mkF m 113 #[.val (.ref a1), .val (.ref a2), .val (.ref a3), .val (.int p3), .val (.int p4), .val (.int (2 : Int32))] [(.ref b29), (.int (Int32.ofNat (u0 + u1))), (.ref b186)])) (fun tt_ kk_ => st467 _ kk_) ?_
  refine Gq.go (T467.setTop (mkF m 115 #[.val (.ref a1), .val (.ref a2), .val (.ref a3), .val (.int p3), .val (.int p4), .val (.int (2 : Int32))] [(.int (2 : Int32)), (.ref b29), (.int (Int32.ofNat (u0 + u1))), (.ref b186)])) (fun tt_ kk_ => XS.iload X467.here hx rfl (hb hby d11_113) rfl kk_) ?_
  refine Gq.go (T467.setTop (mkF m 116 #[.val (.ref a1), .val (.ref a2), .val (.ref a3), .val (.int p3), .val (.int p4), .val (.int (2 : Int32))] [(.int (1 : Int32)), (.int (2 : Int32)), (.ref b29), (.int (Int32.ofNat (u0 + u1))), (.ref b186)])) (fun tt_ kk_ => XS.iconst X467.here hx rfl (hb hby d11_115) kk_) ?_
  refine Gq.go (T467.setTop (mkF m 117 #[.val (.ref a1), .val (.ref a2), .val (.ref a3), .val (.int p3), .val (.int p4), .val (.int (2 : Int32))] [(.int (3 : Int32)), (.ref b29), (.int (Int32.ofNat (u0 + u1))), (.ref b186)])) (fun tt_ kk_ => XS.iadd X467.here hx rfl (hb hby d11_116) rfl kk_) ?_
  refine Gq.go (T467.setTop (mkF m 118 #[.val (.ref a1), .val (.ref a2), .val (.ref a3), .val (.int p3), .val (.int p4), .val (.int (2 : Int32))] [(.int (Int32.ofNat (u0 + u1 + u2))), (.int (Int32.ofNat (u0 + u1))), (.ref b186)])) (fun tt_ kk_ => ldI X467 hx hZ eh467 fa448 (j := (3 : Int32)) (i := 3) (x := (Int32.ofNat (u0 + u1 + u2))) (by decide) rfl (by decide) rfl (hb hby d11_117) tt_ kk_) ?_
  refine Gq.go (T467.setTop (mkF m 120 #[.val (.ref a1), .val (.ref a2), .val (.ref a3), .val (.int p3), .val (.int p4), .val (.int (2 : Int32))] [(.int (2 : Int32)), (.int (Int32.ofNat (u0 + u1 + u2))), (.int (Int32.ofNat (u0 + u1))), (.ref b186)])) (fun tt_ kk_ => XS.iload X467.here hx rfl (hb hby d11_118) rfl kk_) ?_
  obtain ⟨r468, T468, L468, X468, hQ468, st468⟩ := callT (pc := 120) (Ls := #[.val (.ref a1), .val (.ref a2), .val (.ref a3), .val (.int p3), .val (.int p4), .val (.int (2 : Int32))]) X467 hx hZ hown eh467 [(.ref b186), (.int (Int32.ofNat (u0 + u1))), (.int (Int32.ofNat (u0 + u1 + u2))), (.int (2 : Int32))] [] (hw _ (List.mem_of_getElem? (i := 101) rfl)) (hw _ (List.mem_of_getElem? (i := 102) rfl)) (hw _ (List.mem_of_getElem? (i := 103) rfl)) (hw _ (List.mem_of_getElem? (i := 104) rfl)) (by decide) (rm16 l Z a0 hw [] b186 (u0 + u1 + u2) (u0 + u1) (u0 + u1 + u2) (2 : Int32) fn392 h431 n0 za463 fa452 (by omega) (by omega) (by omega) g_b186) pd_8 rfl (by rw [hml]; rfl) (W := 0) (Nat.le_of_eq rfl) (by decide) (by decide) (by decide) (by decide) (hb hby d11_120)
  obtain ⟨rfl, N468q, Kc468, fn468, c468_0⟩ := hQ468
  have N468 := Fr.app N431 N468q
  have fa469 := fa432.keep Kc468
  have fa470 := fa433.keep Kc468 (ninS ne_a1_b186 nin0)
  have fa471 := fa434.keep Kc468 (ninS ne_a1_b186 nin0)
  have fa472 := fa435.keep Kc468 (ninS ne_a2_b186 nin0)
  have fa473 := fa436.keep Kc468
  have fa474 := fa437.keep Kc468 (ninS ne_a3_b186 nin0)
  have fa475 := fa438.keep Kc468 (ninS ne_a3_b186 nin0)
  have fa476 := fa439.keep Kc468 (ninS ne_el_b186 nin0)
  have fa477 := fa440.keep Kc468
  have fa478 := fa441.keep Kc468 (ninS ne_y0_b186 nin0)
  have fa479 := fa442.keep Kc468
  have fa480 := fa443.keep Kc468 (ninS ne_y1_b186 nin0)
  have fa481 := fa444.keep Kc468
  have fa482 := fa445.keep Kc468 (ninS ne_y2_b186 nin0)
  have fa483 := fa446.keep Kc468 (ninS ne_a1_b186 nin0)
  have fa484 := fa447.keep Kc468 (ninS ne_a1_b186 nin0)
  have fa485 := fa448.keep Kc468 (ninS ne_b29_b186 nin0)
  have fa486 := fa449.keep Kc468 (ninS ne_a1_b186 nin0)
  have fa487 := fa450.keep Kc468 (ninS ne_a1_b186 nin0)
  have fa489 := V431.keep Kc468 (ninS (Ne.symm ne_b186_b248) nin0)
  have ta490 := Nat.lt_of_lt_of_le ta453 Kc468.1
  have ta491 := Nat.lt_of_lt_of_le ta454 Kc468.1
  have ta492 := Nat.lt_of_lt_of_le ta455 Kc468.1
  have ta493 := Nat.lt_of_lt_of_le ta456 Kc468.1
  have ta494 := Nat.lt_of_lt_of_le ta457 Kc468.1
  have ta495 := Nat.lt_of_lt_of_le ta458 Kc468.1
  have ta496 := Nat.lt_of_lt_of_le ta459 Kc468.1
  have ta497 := Nat.lt_of_lt_of_le ta460 Kc468.1
  have ta498 := Nat.lt_of_lt_of_le ta461 Kc468.1
  have ta499 := Nat.lt_of_lt_of_le ta462 Kc468.1
  have za500 : n0 ≤ T468.heap.size := Nat.le_trans za463 Kc468.1
  have Ka501 := Ka464.trans Kc468 (allS (Or.inr sz_b186) all0)
  refine Gq.go (T468.setTop (mkF m 123 #[.val (.ref a1), .val (.ref a2), .val (.ref a3), .val (.int p3), .val (.int p4), .val (.int (2 : Int32))] [])) (fun tt_ kk_ => st468 tt_ kk_) ?_
  refine Gq.go (T468.setTop (mkF m 124 #[.val (.ref a1), .val (.ref a2), .val (.ref a3), .val (.int p3), .val (.int p4), .val (.int (2 : Int32))] [(.ref a3)])) (fun tt_ kk_ => XS.aloadN X468.here hx rfl (hb hby d11_123) rfl rfl kk_) ?_
  refine Gq.go (T468.setTop (mkF m 126 #[.val (.ref a1), .val (.ref a2), .val (.ref a3), .val (.int p3), .val (.int p4), .val (.int (2 : Int32))] [(.int (2 : Int32)), (.ref a3)])) (fun tt_ kk_ => XS.iload X468.here hx rfl (hb hby d11_124) rfl kk_) ?_
  obtain ⟨r502, T502, L502, X502, hQ502, st502⟩ := callF (pc := 126) (Ls := #[.val (.ref a1), .val (.ref a2), .val (.ref a3), .val (.int p3), .val (.int p4), .val (.int (2 : Int32))]) X468 hx hZ hown rfl a3 [(.int (2 : Int32))] [] fa473 (hw _ (List.mem_of_getElem? (i := 73) rfl)) (hw _ (List.mem_of_getElem? (i := 74) rfl)) (mvT hZ (hw _ (List.mem_of_getElem? (i := 75) rfl))) (hw _ (List.mem_of_getElem? (i := 76) rfl)) (hw _ (List.mem_of_getElem? (i := 77) rfl)) (hw _ (List.mem_of_getElem? (i := 78) rfl)) (hw _ (List.mem_of_getElem? (i := 79) rfl)) (hw _ (List.mem_of_getElem? (i := 80) rfl)) (hw _ (List.mem_of_getElem? (i := 2) rfl)) (hw _ (List.mem_of_getElem? (i := 81) rfl)) (by decide) (rm12 l Z a0 hw [] a3 2 el (gl [(.ref y0), (.ref y1), (.ref y2), .null, .null, .null, .null, .null, .null, .null] .null) y2 T468.heap n0 za500 fa473 fa474 fa475 fa476 (by decide) rfl) pd_6 rfl (by rw [hml]; rfl) (W := 0) (Nat.le_of_eq rfl) (by decide) (by decide) (by decide) (by decide) (hb hby d11_126)
  obtain ⟨rfl, N502q, eh502⟩ := hQ502
  have N502 := Fr.app N468 N502q
  refine Gq.go (T502.setTop (mkF m 131 #[.val (.ref a1), .val (.ref a2), .val (.ref a3), .val (.int p3), .val (.int p4), .val (.int (2 : Int32))] [(.ref y2)])) (fun tt_ kk_ => st502 tt_ kk_) ?_
  refine Gq.go (T502.setTop (mkF m 132 #[.val (.ref a1), .val (.ref a2), .val (.ref a3), .val (.int p3), .val (.int p4), .val (.int (2 : Int32))] [(.int (0 : Int32)), (.ref y2)])) (fun tt_ kk_ => XS.iconst X502.here hx rfl (hb hby d11_131) kk_) ?_
  refine Gq.go (T502.setTop (mkF m 133 #[.val (.ref a1), .val (.ref a2), .val (.ref a3), .val (.int p3), .val (.int p4), .val (.int (2 : Int32))] [(.ref a1), (.int (0 : Int32)), (.ref y2)])) (fun tt_ kk_ => XS.aloadN X502.here hx rfl (hb hby d11_132) rfl rfl kk_) ?_
  obtain ⟨T503, X503, eh503, st503⟩ := getF X502 hx hZ hown (host := "") (Or.inl (hw _ (List.mem_of_getElem? (i := 99) rfl))) Via.refl eh502 fa487 (g := (mkF m 133 #[.val (.ref a1), .val (.ref a2), .val (.ref a3), .val (.int p3), .val (.int p4), .val (.int (2 : Int32))] [(.ref a1), (.int (0 : Int32)), (.ref y2)])) rfl rfl (hb hby d11_133)
  refine Gq.go (T503.setTop (mkF m 136 #[.val (.ref a1), .val (.ref a2), .val (.ref a3), .val (.int p3), .val (.int p4), .val (.int (2 : Int32))] [(.ref b248), (.int (0 : Int32)), (.ref y2)])) (fun tt_ kk_ => st503 _ kk_) ?_
  refine Gq.go (T503.setTop (mkF m 137 #[.val (.ref a1), .val (.ref a2), .val (.ref a3), .val (.int p3), .val (.int p4), .val (.int (2 : Int32))] [(.ref a1), (.ref b248), (.int (0 : Int32)), (.ref y2)])) (fun tt_ kk_ => XS.aloadN X503.here hx rfl (hb hby d11_136) rfl rfl kk_) ?_
  obtain ⟨T504, X504, eh504, st504⟩ := getF X503 hx hZ hown (host := "") (Or.inl (hw _ (List.mem_of_getElem? (i := 71) rfl))) Via.refl eh503 fa484 (g := (mkF m 137 #[.val (.ref a1), .val (.ref a2), .val (.ref a3), .val (.int p3), .val (.int p4), .val (.int (2 : Int32))] [(.ref a1), (.ref b248), (.int (0 : Int32)), (.ref y2)])) rfl rfl (hb hby d11_137)
  refine Gq.go (T504.setTop (mkF m 140 #[.val (.ref a1), .val (.ref a2), .val (.ref a3), .val (.int p3), .val (.int p4), .val (.int (2 : Int32))] [(.ref b29), (.ref b248), (.int (0 : Int32)), (.ref y2)])) (fun tt_ kk_ => st504 _ kk_) ?_
  refine Gq.go (T504.setTop (mkF m 142 #[.val (.ref a1), .val (.ref a2), .val (.ref a3), .val (.int p3), .val (.int p4), .val (.int (2 : Int32))] [(.int (2 : Int32)), (.ref b29), (.ref b248), (.int (0 : Int32)), (.ref y2)])) (fun tt_ kk_ => XS.iload X504.here hx rfl (hb hby d11_140) rfl kk_) ?_
  refine Gq.go (T504.setTop (mkF m 143 #[.val (.ref a1), .val (.ref a2), .val (.ref a3), .val (.int p3), .val (.int p4), .val (.int (2 : Int32))] [(.int (Int32.ofNat (u0 + u1))), (.ref b248), (.int (0 : Int32)), (.ref y2)])) (fun tt_ kk_ => ldI X504 hx hZ eh504 fa485 (j := (2 : Int32)) (i := 2) (x := (Int32.ofNat (u0 + u1))) (by decide) rfl (by decide) rfl (hb hby d11_142) tt_ kk_) ?_
  refine Gq.go (T504.setTop (mkF m 144 #[.val (.ref a1), .val (.ref a2), .val (.ref a3), .val (.int p3), .val (.int p4), .val (.int (2 : Int32))] [(.ref a3), (.int (Int32.ofNat (u0 + u1))), (.ref b248), (.int (0 : Int32)), (.ref y2)])) (fun tt_ kk_ => XS.aloadN X504.here hx rfl (hb hby d11_143) rfl rfl kk_) ?_
  refine Gq.go (T504.setTop (mkF m 146 #[.val (.ref a1), .val (.ref a2), .val (.ref a3), .val (.int p3), .val (.int p4), .val (.int (2 : Int32))] [(.int (2 : Int32)), (.ref a3), (.int (Int32.ofNat (u0 + u1))), (.ref b248), (.int (0 : Int32)), (.ref y2)])) (fun tt_ kk_ => XS.iload X504.here hx rfl (hb hby d11_144) rfl kk_) ?_
  obtain ⟨r505, T505, L505, X505, hQ505, st505⟩ := callF (pc := 146) (Ls := #[.val (.ref a1), .val (.ref a2), .val (.ref a3), .val (.int p3), .val (.int p4), .val (.int (2 : Int32))]) X504 hx hZ hown eh504 a3 [(.int (2 : Int32))] [(.int (Int32.ofNat (u0 + u1))), (.ref b248), (.int (0 : Int32)), (.ref y2)] fa473 (hw _ (List.mem_of_getElem? (i := 73) rfl)) (hw _ (List.mem_of_getElem? (i := 74) rfl)) (mvT hZ (hw _ (List.mem_of_getElem? (i := 75) rfl))) (hw _ (List.mem_of_getElem? (i := 76) rfl)) (hw _ (List.mem_of_getElem? (i := 77) rfl)) (hw _ (List.mem_of_getElem? (i := 78) rfl)) (hw _ (List.mem_of_getElem? (i := 79) rfl)) (hw _ (List.mem_of_getElem? (i := 80) rfl)) (hw _ (List.mem_of_getElem? (i := 2) rfl)) (hw _ (List.mem_of_getElem? (i := 81) rfl)) (by decide) (rm12 l Z a0 hw [] a3 2 el (gl [(.ref y0), (.ref y1), (.ref y2), .null, .null, .null, .null, .null, .null, .null] .null) y2 T468.heap n0 za500 fa473 fa474 fa475 fa476 (by decide) rfl) pd_6 rfl (by rw [hml]; rfl) (W := 4) (Nat.le_of_eq rfl) (by decide) (by decide) (by decide) (by decide) (hb hby d11_146)
  obtain ⟨rfl, N505q, eh505⟩ := hQ505
  have N505 := Fr.app N502 N505q
  refine Gq.go (T505.setTop (mkF m 151 #[.val (.ref a1), .val (.ref a2), .val (.ref a3), .val (.int p3), .val (.int p4), .val (.int (2 : Int32))] [(.ref y2), (.int (Int32.ofNat (u0 + u1))), (.ref b248), (.int (0 : Int32)), (.ref y2)])) (fun tt_ kk_ => st505 tt_ kk_) ?_
  obtain ⟨T506, X506, eh506, st506⟩ := castY X505 hx hZ hown (hw _ (List.mem_of_getElem? (i := 95) rfl)) eh505 (Ins.self fa481) (g := (mkF m 151 #[.val (.ref a1), .val (.ref a2), .val (.ref a3), .val (.int p3), .val (.int p4), .val (.int (2 : Int32))] [(.ref y2), (.int (Int32.ofNat (u0 + u1))), (.ref b248), (.int (0 : Int32)), (.ref y2)])) rfl rfl (hb hby d11_151)
  refine Gq.go (T506.setTop (mkF m 154 #[.val (.ref a1), .val (.ref a2), .val (.ref a3), .val (.int p3), .val (.int p4), .val (.int (2 : Int32))] [(.ref y2), (.int (Int32.ofNat (u0 + u1))), (.ref b248), (.int (0 : Int32)), (.ref y2)])) (fun tt_ kk_ => st506 _ kk_) ?_
  refine Gq.go (T506.setTop (mkF m 155 #[.val (.ref a1), .val (.ref a2), .val (.ref a3), .val (.int p3), .val (.int p4), .val (.int (2 : Int32))] [(.int (Int32.ofNat u2)), (.int (Int32.ofNat (u0 + u1))), (.ref b248), (.int (0 : Int32)), (.ref y2)])) (fun tt_ kk_ => lenA X506 hx hZ eh506 fa482 (hb hby d11_154) tt_ kk_) ?_
  obtain ⟨T507, h507, L507, g507, X507, eh507, N507, Kc507, V507, ft507, st507⟩ := cpL (pc := 155) (Ls := #[.val (.ref a1), .val (.ref a2), .val (.ref a3), .val (.int p3), .val (.int p4), .val (.int (2 : Int32))]) (rest := []) X506 hx hZ hown (hw _ (List.mem_of_getElem? (i := 108) rfl)) (hw _ (List.mem_of_getElem? (i := 111) rfl)) (hw _ (List.mem_of_getElem? (i := 109) rfl)) (hw _ (List.mem_of_getElem? (i := 110) rfl)) eh506 fa482 (own_fit0 _) fa489 ft431 (sp := 0) (dp := (u0 + u1)) (nn := u2) (by omega) (by omega) N505 g_b248 (by rw [hml]; rfl) (hb hby d11_155) (by decide) (W := 0) (Nat.le_of_eq rfl) (by decide)
  have fa508 := fa469.keep Kc507
  have fa509 := fa470.keep Kc507 (ninS ne_a1_b248 nin0)
  have fa510 := fa471.keep Kc507 (ninS ne_a1_b248 nin0)
  have fa511 := fa472.keep Kc507 (ninS ne_a2_b248 nin0)
  have fa512 := fa473.keep Kc507
  have fa513 := fa474.keep Kc507 (ninS ne_a3_b248 nin0)
  have fa514 := fa475.keep Kc507 (ninS ne_a3_b248 nin0)
  have fa515 := fa476.keep Kc507 (ninS ne_el_b248 nin0)
  have fa516 := fa477.keep Kc507
  have fa517 := fa478.keep Kc507 (ninS ne_y0_b248 nin0)
  have fa518 := fa479.keep Kc507
  have fa519 := fa480.keep Kc507 (ninS ne_y1_b248 nin0)
  have fa520 := fa481.keep Kc507
  have fa521 := fa482.keep Kc507 (ninS ne_y2_b248 nin0)
  have fa522 := fa483.keep Kc507 (ninS ne_a1_b248 nin0)
  have fa523 := fa484.keep Kc507 (ninS ne_a1_b248 nin0)
  have fa524 := fa485.keep Kc507 (ninS ne_b29_b248 nin0)
  have fa525 := fa486.keep Kc507 (ninS ne_a1_b248 nin0)
  have fa526 := fa487.keep Kc507 (ninS ne_a1_b248 nin0)
  have fa528 := c468_0.keep Kc507 (ninS ne_b186_b248 nin0)
  have ta529 := Nat.lt_of_lt_of_le ta490 Kc507.1
  have ta530 := Nat.lt_of_lt_of_le ta491 Kc507.1
  have ta531 := Nat.lt_of_lt_of_le ta492 Kc507.1
  have ta532 := Nat.lt_of_lt_of_le ta493 Kc507.1
  have ta533 := Nat.lt_of_lt_of_le ta494 Kc507.1
  have ta534 := Nat.lt_of_lt_of_le ta495 Kc507.1
  have ta535 := Nat.lt_of_lt_of_le ta496 Kc507.1
  have ta536 := Nat.lt_of_lt_of_le ta497 Kc507.1
  have ta537 := Nat.lt_of_lt_of_le ta498 Kc507.1
  have ta538 := Nat.lt_of_lt_of_le ta499 Kc507.1
  have za539 : n0 ≤ h507.size := Nat.le_trans za500 Kc507.1
  have Ka540 := Ka501.trans Kc507 (allS (Or.inr sz_b248) all0)
  refine Gq.go (T507.setTop (mkF m 158 #[.val (.ref a1), .val (.ref a2), .val (.ref a3), .val (.int p3), .val (.int p4), .val (.int (2 : Int32))] [])) (fun tt_ kk_ => st507 tt_ kk_) ?_
  refine Gq.go (T507.setTop (mkF m 161 #[.val (.ref a1), .val (.ref a2), .val (.ref a3), .val (.int p3), .val (.int p4), .val (.int (3 : Int32))] [])) (fun tt_ kk_ => XS.iinc X507.here hx rfl (hb hby d11_158) rfl (l' := #[.val (.ref a1), .val (.ref a2), .val (.ref a3), .val (.int p3), .val (.int p4), .val (.int (3 : Int32))]) rfl kk_) ?_
  refine Gq.go (T507.setTop (mkF m 91 #[.val (.ref a1), .val (.ref a2), .val (.ref a3), .val (.int p3), .val (.int p4), .val (.int (3 : Int32))] [])) (fun tt_ kk_ => XS.goto X507.here hx rfl (pc0 := 161) (pc' := 91) rfl (hb hby d11_161) (by decide) (by decide) kk_) ?_
  refine Gq.go (T507.setTop (mkF m 93 #[.val (.ref a1), .val (.ref a2), .val (.ref a3), .val (.int p3), .val (.int p4), .val (.int (3 : Int32))] [(.int (3 : Int32))])) (fun tt_ kk_ => XS.iload X507.here hx rfl (hb hby d11_91) rfl kk_) ?_
  refine Gq.go (T507.setTop (mkF m 94 #[.val (.ref a1), .val (.ref a2), .val (.ref a3), .val (.int p3), .val (.int p4), .val (.int (3 : Int32))] [(.ref a2), (.int (3 : Int32))])) (fun tt_ kk_ => XS.aloadN X507.here hx rfl (hb hby d11_93) rfl rfl kk_) ?_
  refine Gq.go (T507.setTop (mkF m 95 #[.val (.ref a1), .val (.ref a2), .val (.ref a3), .val (.int p3), .val (.int p4), .val (.int (3 : Int32))] [(.int (3 : Int32)), (.int (3 : Int32))])) (fun tt_ kk_ => lenA X507 hx hZ eh507 fa511 (hb hby d11_94) tt_ kk_) ?_
  refine Gq.go (T507.setTop (mkF m 164 #[.val (.ref a1), .val (.ref a2), .val (.ref a3), .val (.int p3), .val (.int p4), .val (.int (3 : Int32))] [])) (fun tt_ kk_ => XS.icmpYes X507.here hx rfl (pc0 := 95) (pc' := 164) rfl (hb hby d11_95) rfl (flt (by decide : ¬ ((3 : Int32) < (3 : Int32)))).2.1 (by decide) (by decide) kk_) ?_
  refine Gq.go (T507.setTop (mkF m 165 #[.val (.ref a1), .val (.ref a2), .val (.ref a3), .val (.int p3), .val (.int p4), .val (.int (3 : Int32))] [(.ref a1)])) (fun tt_ kk_ => XS.aloadN X507.here hx rfl (hb hby d11_164) rfl rfl kk_) ?_
  refine Gq.go (T507.setTop (mkF m 166 #[.val (.ref a1), .val (.ref a2), .val (.ref a3), .val (.int p3), .val (.int p4), .val (.int (3 : Int32))] [(.int p3), (.ref a1)])) (fun tt_ kk_ => XS.iloadN X507.here hx rfl (hb hby d11_165) rfl kk_) ?_
  obtain ⟨T541, h541, X541, eh541, W541, st541⟩ := putF X507 hx hZ hown (host := "") (Or.inl (hw _ (List.mem_of_getElem? (i := 112) rfl))) Via.refl eh507 fa509 fa508 (Or.inr ⟨(hw _ (List.mem_of_getElem? (i := 113) rfl)), rfl, hnm⟩) (hw _ (List.mem_of_getElem? (i := 63) rfl)) (ty := .int) (by decide) rfl rfl (g := (mkF m 166 #[.val (.ref a1), .val (.ref a2), .val (.ref a3), .val (.int p3), .val (.int p4), .val (.int (3 : Int32))] [(.int p3), (.ref a1)])) rfl rfl (hb hby d11_166)
  have Fw541 := fa509.same W541
  have fa542 := fa508.wr W541
  have fa543 := fa510.other W541 (Or.inr (slot_ne (Or.inr (hw _ (List.mem_of_getElem? (i := 115) rfl))) (Or.inr (hw _ (List.mem_of_getElem? (i := 113) rfl))) (by decide) (t := .boolean) (t' := .int) (by decide) (by decide)))
  have fa544 := fa511.other W541 n_a2
  have fa545 := fa512.wr W541
  have fa546 := fa513.other W541 (Or.inl n_a3)
  have fa547 := fa514.other W541 (Or.inl n_a3)
  have fa548 := fa515.other W541 n_el
  have fa549 := fa516.wr W541
  have fa550 := fa517.other W541 n_y0
  have fa551 := fa518.wr W541
  have fa552 := fa519.other W541 n_y1
  have fa553 := fa520.wr W541
  have fa554 := fa521.other W541 n_y2
  have fa555 := fa522.other W541 (Or.inr (slot_ne (Or.inr (hw _ (List.mem_of_getElem? (i := 70) rfl))) (Or.inr (hw _ (List.mem_of_getElem? (i := 113) rfl))) (by decide) (t := (.array .int)) (t' := .int) (by decide) (by decide)))
  have fa556 := fa523.other W541 (Or.inr (slot_ne (Or.inr (hw _ (List.mem_of_getElem? (i := 72) rfl))) (Or.inr (hw _ (List.mem_of_getElem? (i := 113) rfl))) (by decide) (t := (.array .int)) (t' := .int) (by decide) (by decide)))
  have fa557 := fa524.other W541 (Ne.symm ne_a1_b29)
  have fa558 := fa525.other W541 (Or.inr (slot_ne (Or.inr (hw _ (List.mem_of_getElem? (i := 98) rfl))) (Or.inr (hw _ (List.mem_of_getElem? (i := 113) rfl))) (by decide) (t := (.array .int)) (t' := .int) (by decide) (by decide)))
  have fa559 := fa526.other W541 (Or.inr (slot_ne (Or.inr (hw _ (List.mem_of_getElem? (i := 100) rfl))) (Or.inr (hw _ (List.mem_of_getElem? (i := 113) rfl))) (by decide) (t := (.array .int)) (t' := .int) (by decide) (by decide)))
  have fa560 := fa528.other W541 (Ne.symm ne_a1_b186)
  have fa561 := V507.other W541 (Ne.symm ne_a1_b248)
  have ta562 := Nat.lt_of_lt_of_le ta529 (Nat.le_of_eq W541.size.symm)
  have ta563 := Nat.lt_of_lt_of_le ta530 (Nat.le_of_eq W541.size.symm)
  have ta564 := Nat.lt_of_lt_of_le ta531 (Nat.le_of_eq W541.size.symm)
  have ta565 := Nat.lt_of_lt_of_le ta532 (Nat.le_of_eq W541.size.symm)
  have ta566 := Nat.lt_of_lt_of_le ta533 (Nat.le_of_eq W541.size.symm)
  have ta567 := Nat.lt_of_lt_of_le ta534 (Nat.le_of_eq W541.size.symm)
  have ta568 := Nat.lt_of_lt_of_le ta535 (Nat.le_of_eq W541.size.symm)
  have ta569 := Nat.lt_of_lt_of_le ta536 (Nat.le_of_eq W541.size.symm)
  have ta570 := Nat.lt_of_lt_of_le ta537 (Nat.le_of_eq W541.size.symm)
  have ta571 := Nat.lt_of_lt_of_le ta538 (Nat.le_of_eq W541.size.symm)
  have za572 : n0 ≤ h541.size := Nat.le_trans za539 (Nat.le_of_eq W541.size.symm)
  have Ka573 := Ka540.wr W541 (Or.inl (List.mem_of_getElem? (i := 0) rfl))
  have N541 := Fr.snoc X541 N507 ga
  refine Gq.go (T541.setTop (mkF m 169 #[.val (.ref a1), .val (.ref a2), .val (.ref a3), .val (.int p3), .val (.int p4), .val (.int (3 : Int32))] [])) (fun tt_ kk_ => st541 _ kk_) ?_
  refine Gq.go (T541.setTop (mkF m 170 #[.val (.ref a1), .val (.ref a2), .val (.ref a3), .val (.int p3), .val (.int p4), .val (.int (3 : Int32))] [(.ref a1)])) (fun tt_ kk_ => XS.aloadN X541.here hx rfl (hb hby d11_169) rfl rfl kk_) ?_
  refine Gq.go (T541.setTop (mkF m 172 #[.val (.ref a1), .val (.ref a2), .val (.ref a3), .val (.int p3), .val (.int p4), .val (.int (3 : Int32))] [(.int p4), (.ref a1)])) (fun tt_ kk_ => XS.iload X541.here hx rfl (hb hby d11_170) rfl kk_) ?_
  obtain ⟨T574, h574, X574, eh574, W574, st574⟩ := putFN X541 hx hZ hown (hw _ (List.mem_of_getElem? (i := 114) rfl)) Via.refl eh541 fa543 fa542 (Or.inr ⟨(hw _ (List.mem_of_getElem? (i := 115) rfl)), rfl, hnm⟩) (hw _ (List.mem_of_getElem? (i := 63) rfl)) (ty := .boolean) (v' := (.int (nar .boolean p4))) (by decide) rfl (fits_nar_bool _) (g := (mkF m 172 #[.val (.ref a1), .val (.ref a2), .val (.ref a3), .val (.int p3), .val (.int p4), .val (.int (3 : Int32))] [(.int p4), (.ref a1)])) rfl rfl (hb hby d11_172)
  have Fw574 := fa543.same W574
  have fa575 := fa542.wr W574
  have fa576 := fa544.other W574 n_a2
  have fa577 := fa545.wr W574
  have fa578 := fa546.other W574 (Or.inl n_a3)
  have fa579 := fa547.other W574 (Or.inl n_a3)
  have fa580 := fa548.other W574 n_el
  have fa581 := fa549.wr W574
  have fa582 := fa550.other W574 n_y0
  have fa583 := fa551.wr W574
  have fa584 := fa552.other W574 n_y1
  have fa585 := fa553.wr W574
  have fa586 := fa554.other W574 n_y2
  have fa587 := fa555.other W574 (Or.inr (slot_ne (Or.inr (hw _ (List.mem_of_getElem? (i := 70) rfl))) (Or.inr (hw _ (List.mem_of_getElem? (i := 115) rfl))) (by decide) (t := (.array .int)) (t' := .boolean) (by decide) (by decide)))
  have fa588 := fa556.other W574 (Or.inr (slot_ne (Or.inr (hw _ (List.mem_of_getElem? (i := 72) rfl))) (Or.inr (hw _ (List.mem_of_getElem? (i := 115) rfl))) (by decide) (t := (.array .int)) (t' := .boolean) (by decide) (by decide)))
  have fa589 := fa557.other W574 (Ne.symm ne_a1_b29)
  have fa590 := fa558.other W574 (Or.inr (slot_ne (Or.inr (hw _ (List.mem_of_getElem? (i := 98) rfl))) (Or.inr (hw _ (List.mem_of_getElem? (i := 115) rfl))) (by decide) (t := (.array .int)) (t' := .boolean) (by decide) (by decide)))
  have fa591 := fa559.other W574 (Or.inr (slot_ne (Or.inr (hw _ (List.mem_of_getElem? (i := 100) rfl))) (Or.inr (hw _ (List.mem_of_getElem? (i := 115) rfl))) (by decide) (t := (.array .int)) (t' := .boolean) (by decide) (by decide)))
  have fa592 := fa560.other W574 (Ne.symm ne_a1_b186)
  have fa593 := fa561.other W574 (Ne.symm ne_a1_b248)
  have fa594 := Fw541.other W574 (Or.inr (slot_ne (Or.inr (hw _ (List.mem_of_getElem? (i := 113) rfl))) (Or.inr (hw _ (List.mem_of_getElem? (i := 115) rfl))) (by decide) (t := .int) (t' := .boolean) (by decide) (by decide)))
  have ta595 := Nat.lt_of_lt_of_le ta562 (Nat.le_of_eq W574.size.symm)
  have ta596 := Nat.lt_of_lt_of_le ta563 (Nat.le_of_eq W574.size.symm)
  have ta597 := Nat.lt_of_lt_of_le ta564 (Nat.le_of_eq W574.size.symm)
  have ta598 := Nat.lt_of_lt_of_le ta565 (Nat.le_of_eq W574.size.symm)
  have ta599 := Nat.lt_of_lt_of_le ta566 (Nat.le_of_eq W574.size.symm)
  have ta600 := Nat.lt_of_lt_of_le ta567 (Nat.le_of_eq W574.size.symm)
  have ta601 := Nat.lt_of_lt_of_le ta568 (Nat.le_of_eq W574.size.symm)
  have ta602 := Nat.lt_of_lt_of_le ta569 (Nat.le_of_eq W574.size.symm)
  have ta603 := Nat.lt_of_lt_of_le ta570 (Nat.le_of_eq W574.size.symm)
  have ta604 := Nat.lt_of_lt_of_le ta571 (Nat.le_of_eq W574.size.symm)
  have za605 : n0 ≤ h574.size := Nat.le_trans za572 (Nat.le_of_eq W574.size.symm)
  have Ka606 := Ka573.wr W574 (Or.inl (List.mem_of_getElem? (i := 0) rfl))
  have N574 := Fr.snoc X574 N541 ga
  refine Gq.go (T574.setTop (mkF m 175 #[.val (.ref a1), .val (.ref a2), .val (.ref a3), .val (.int p3), .val (.int p4), .val (.int (3 : Int32))] [])) (fun tt_ kk_ => st574 _ kk_) ?_
  refine Gq.retV X574 hx Bd.notSynchronized Bd.returns (hb hby d11_175) (by decide) (by decide) ?_
  show Q11 Z a1 a2 a3 p3 p4 f2 el y0 y1 y2 u0 u1 u2 h0 n0 _ T574.heap _
  rw [eh574]
  exact ⟨rfl, N574, Ka606, b29, g_b29, sz_b29, fa588, fa589⟩
theorem d19_0 : decode prog_46_method_3_code 0 = .ok (.iconst (-1), 1) := by decide +kernel
theorem d19_1 : decode prog_46_method_3_code 1 = .ok (.istore 5, 2) := by decide +kernel
theorem d19_3 : decode prog_46_method_3_code 3 = .ok (.aload_n 0, 1) := by decide +kernel
theorem d19_4 : decode prog_46_method_3_code 4 = .ok (.getfield 13, 3) := by decide +kernel
theorem d19_7 : decode prog_46_method_3_code 7 = .ok (.iload_n 1, 1) := by decide +kernel
theorem d19_8 : decode prog_46_method_3_code 8 = .ok (.iaload, 1) := by decide +kernel
theorem d19_9 : decode prog_46_method_3_code 9 = .ok (.istore 6, 2) := by decide +kernel
theorem d19_11 : decode prog_46_method_3_code 11 = .ok (.iload 6, 2) := by decide +kernel
theorem d19_13 : decode prog_46_method_3_code 13 = .ok (.aload_n 0, 1) := by decide +kernel
theorem d19_14 : decode prog_46_method_3_code 14 = .ok (.getfield 13, 3) := by decide +kernel
theorem d19_17 : decode prog_46_method_3_code 17 = .ok (.iload_n 1, 1) := by decide +kernel
theorem d19_18 : decode prog_46_method_3_code 18 = .ok (.iconst 1, 1) := by decide +kernel
theorem d19_19 : decode prog_46_method_3_code 19 = .ok (.iadd, 1) := by decide +kernel
theorem d19_20 : decode prog_46_method_3_code 20 = .ok (.iaload, 1) := by decide +kernel
theorem d19_21 : decode prog_46_method_3_code 21 = .ok (.if_icmp .ge 34, 3) := by decide +kernel
theorem d19_24 : decode prog_46_method_3_code 24 = .ok (.iload 5, 2) := by decide +kernel
theorem d19_26 : decode prog_46_method_3_code 26 = .ok (.iconst (-1), 1) := by decide +kernel
theorem d19_27 : decode prog_46_method_3_code 27 = .ok (.if_icmp .ne 28, 3) := by decide +kernel
theorem d19_30 : decode prog_46_method_3_code 30 = .ok (.aload_n 3, 1) := by decide +kernel
theorem d19_31 : decode prog_46_method_3_code 31 = .ok (.iload 6, 2) := by decide +kernel
theorem d19_33 : decode prog_46_method_3_code 33 = .ok (.iaload, 1) := by decide +kernel
theorem d19_34 : decode prog_46_method_3_code 34 = .ok (.iload_n 2, 1) := by decide +kernel
theorem d19_35 : decode prog_46_method_3_code 35 = .ok (.if_icmp .ne 11, 3) := by decide +kernel
theorem d19_38 : decode prog_46_method_3_code 38 = .ok (.aload 4, 2) := by decide +kernel
theorem d19_40 : decode prog_46_method_3_code 40 = .ok (.iload 6, 2) := by decide +kernel
theorem d19_42 : decode prog_46_method_3_code 42 = .ok (.iaload, 1) := by decide +kernel
theorem d19_43 : decode prog_46_method_3_code 43 = .ok (.goto 4, 3) := by decide +kernel
theorem d19_46 : decode prog_46_method_3_code 46 = .ok (.iconst (-1), 1) := by decide +kernel
theorem d19_47 : decode prog_46_method_3_code 47 = .ok (.istore 5, 2) := by decide +kernel
theorem d19_49 : decode prog_46_method_3_code 49 = .ok (.iinc 6 1, 3) := by decide +kernel
theorem d19_52 : decode prog_46_method_3_code 52 = .ok (.goto (-41), 3) := by decide +kernel
theorem d19_55 : decode prog_46_method_3_code 55 = .ok (.iload 5, 2) := by decide +kernel
theorem d19_57 : decode prog_46_method_3_code 57 = .ok (.ireturn, 1) := by decide +kernel
theorem ef19 (m : MethodId) (y0 : Addr) (y1 : Int32) (y2 : Int32) (y3 : Addr) (y4 : Addr) : entryFrame m #[(.ref y0), (.int y1), (.int y2), (.ref y3), (.ref y4)] 7 = mkF m 0 #[.val (.ref y0), .val (.int y1), .val (.int y2), .val (.ref y3), .val (.ref y4), .unset, .unset] [] := by first | (simp [entryFrame, mkF, argsToLocals, Value.category]; done) | rfl
def Q19 (Z : State) (a1 : Addr) (t : Nat) (p2 : Int32) (a3 : Addr) (a4 : Addr) (fs : Addr) (F : Nat → Nat) (B : Nat → Int32) (RR : Nat → Int32) (h0 : Heap) (n0 : Nat) (v : Option Value) (h : Heap) (L : List Loc) : Prop := v = some (.int (own_rf B RR p2 (F (t + 1) - F t) (F t))) ∧ Fr n0 L ∧ h = h0
set_option maxRecDepth 65536 in
set_option maxHeartbeats 40000000 in
theorem rm19 (l : Launch) (Z : State) (a0 : Array Value) (hw : ∀ d ∈ tables_1, d.before a0 Z = true) (ws : List Jvm.Cond) (a1 : Addr) (t : Nat) (p2 : Int32) (a3 : Addr) (a4 : Addr) (fs : Addr) (F : Nat → Nat) (B : Nat → Int32) (RR : Nat → Int32) (h0 : Heap) (n0 : Nat) (Z0 : n0 ≤ h0.size) (Ff : Fld Z h0 a1 "com/example/arbor2/arbor2/analysis/Tracks" "firstSlots" "[I" (.ref fs)) (Vf : LA Z h0 fs .int 4 (fun j => .int (Int32.ofNat (F j)))) (V3 : LA Z h0 a3 .int 9 (fun j => .int (B j))) (V4 : LA Z h0 a4 .int 9 (fun j => .int (RR j))) (ht : t < 3) (hF : F t ≤ F (t + 1)) (hF9 : F (t + 1) ≤ 9) (hR : ∀ j, j < 9 → RR j ≠ -1) :
    MetFree l (⟨"com/example/arbor2/arbor2/analysis/Tracks", "reachedFrom", "(II[I[I)I"⟩ : MethodName) (head1 (Jvm.Cond.code (⟨"com/example/arbor2/arbor2/analysis/Tracks", "reachedFrom", "(II[I[I)I"⟩ : MethodName) prog_46_method_3_code 7 (some .int) :: ws) ({ frames := 0, cells := 0, slots := 0, locals := 0 } : Room)) (fun a U => a = #[(.ref a1), (.int (Int32.ofNat t)), (.int p2), (.ref a3), (.ref a4)] ∧ Z.Warmed39 U.vm ∧ U.heap = h0) (fun _ _ _ _ _ => True) (fun _ U o U' => ∃ v L, o = .returned v ∧ Q19 Z a1 t p2 a3 a4 fs F B RR h0 n0 v U'.heap L ∧ FrameEnd U o U' L ({ frames := 0, cells := 0, slots := 0, locals := 0 } : Room).cells ({ frames := 0, cells := 0, slots := 0, locals := 0 } : Room).slots) := by
  refine MetFree.of_bodySF (plainFor_of_name pn_com_example_arbor2_arbor2_analysis_Tracks) hisR ?_
  intro p e s m args below meth c s₁ Bd hml0 hP hK
  obtain ⟨rfl, hZ, hh⟩ := hP
  have hx := Bd.exec
  have hby := Bd.bytes
  have hml : c.maxLocals = 7 := hml0
  have hown : s.vm.findClass "com/example/arbor2/arbor2/analysis/Tracks" = some m.cls := findClass_of_methodNamed Bd.named
  have hnm := (name_of_methodNamed Bd.named Bd.method).1
  have X0 : Stand p l e ({ frames := 0, cells := 0, slots := 0, locals := 0 } : Room) s m #[(.ref a1), (.int (Int32.ofNat t)), (.int p2), (.ref a3), (.ref a4)] below meth c s₁ [] 0 0 := Stand.of_body Bd
  have eh0 : s₁.heap = h0 := by rw [← hh, Bd.state]; rfl
  have N0 := Fr.nil n0
  refine Gq.start (Q := Q19 Z a1 t p2 a3 a4 fs F B RR h0 n0) (kc := ({ frames := 0, cells := 0, slots := 0, locals := 0 } : Room).cells) (ks := ({ frames := 0, cells := 0, slots := 0, locals := 0 } : Room).slots) (ef19 m a1 (Int32.ofNat t) p2 a3 a4) ?_
  refine Gq.go (s₁.setTop (mkF m 1 #[.val (.ref a1), .val (.int (Int32.ofNat t)), .val (.int p2), .val (.ref a3), .val (.ref a4), .unset, .unset] [(.int (-1 : Int32))])) (fun tt_ kk_ => XS.iconst X0.here hx rfl (hb hby d19_0) kk_) ?_
  refine Gq.go (s₁.setTop (mkF m 3 #[.val (.ref a1), .val (.int (Int32.ofNat t)), .val (.int p2), .val (.ref a3), .val (.ref a4), .val (.int (-1 : Int32)), .unset] [])) (fun tt_ kk_ => XS.istore X0.here hx rfl (hb hby d19_1) rfl (l' := #[.val (.ref a1), .val (.int (Int32.ofNat t)), .val (.int p2), .val (.ref a3), .val (.ref a4), .val (.int (-1 : Int32)), .unset]) rfl kk_) ?_
  refine Gq.go (s₁.setTop (mkF m 4 #[.val (.ref a1), .val (.int (Int32.ofNat t)), .val (.int p2), .val (.ref a3), .val (.ref a4), .val (.int (-1 : Int32)), .unset] [(.ref a1)])) (fun tt_ kk_ => XS.aloadN X0.here hx rfl (hb hby d19_3) rfl rfl kk_) ?_
  obtain ⟨T1, X1, eh1, st1⟩ := getF X0 hx hZ hown (host := "") (Or.inl (hw _ (List.mem_of_getElem? (i := 71) rfl))) Via.refl eh0 Ff (g := (mkF m 4 #[.val (.ref a1), .val (.int (Int32.ofNat t)), .val (.int p2), .val (.ref a3), .val (.ref a4), .val (.int (-1 : Int32)), .unset] [(.ref a1)])) rfl rfl (hb hby d19_4)
  refine Gq.go (T1.setTop (mkF m 7 #[.val (.ref a1), .val (.int (Int32.ofNat t)), .val (.int p2), .val (.ref a3), .val (.ref a4), .val (.int (-1 : Int32)), .unset] [(.ref fs)])) (fun tt_ kk_ => st1 _ kk_) ?_
  refine Gq.go (T1.setTop (mkF m 8 #[.val (.ref a1), .val (.int (Int32.ofNat t)), .val (.int p2), .val (.ref a3), .val (.ref a4), .val (.int (-1 : Int32)), .unset] [(.int (Int32.ofNat t)), (.ref fs)])) (fun tt_ kk_ => XS.iloadN X1.here hx rfl (hb hby d19_7) rfl kk_) ?_
  refine Gq.go (T1.setTop (mkF m 9 #[.val (.ref a1), .val (.int (Int32.ofNat t)), .val (.int p2), .val (.ref a3), .val (.ref a4), .val (.int (-1 : Int32)), .unset] [(.int (Int32.ofNat (F t)))])) (fun tt_ kk_ => ldI X1 hx hZ eh1 Vf (j := (Int32.ofNat t)) (i := t) (x := (Int32.ofNat (F t))) (own_nn (by omega)) (own_nc (by omega)) (by omega) rfl (hb hby d19_8) tt_ kk_) ?_
  refine Gq.go (T1.setTop (mkF m 11 #[.val (.ref a1), .val (.int (Int32.ofNat t)), .val (.int p2), .val (.ref a3), .val (.ref a4), .val (.int (-1 : Int32)), .val (.int (Int32.ofNat (F t)))] [])) (fun tt_ kk_ => XS.istore X1.here hx rfl (hb hby d19_9) rfl (l' := #[.val (.ref a1), .val (.int (Int32.ofNat t)), .val (.int p2), .val (.ref a3), .val (.ref a4), .val (.int (-1 : Int32)), .val (.int (Int32.ofNat (F t)))]) rfl kk_) ?_
  have loop : ∀ k i : Nat, i + k = F (t + 1) → own_rf B RR p2 k i = own_rf B RR p2 (F (t + 1) - F t) (F t) → ∀ (Tq : State) (Lq : List Loc), Stand p l e ({ frames := 0, cells := 0, slots := 0, locals := 0 } : Room) s m #[(.ref a1), (.int (Int32.ofNat t)), (.int p2), (.ref a3), (.ref a4)] below meth c Tq Lq 0 0 → Tq.heap = h0 → Fr n0 Lq → Gq p.tables e below s (Q19 Z a1 t p2 a3 a4 fs F B RR h0 n0) ({ frames := 0, cells := 0, slots := 0, locals := 0 } : Room).cells ({ frames := 0, cells := 0, slots := 0, locals := 0 } : Room).slots (Tq.setTop (mkF m 11 #[.val (.ref a1), .val (.int (Int32.ofNat t)), .val (.int p2), .val (.ref a3), .val (.ref a4), .val (.int (-1 : Int32)), .val (.int (Int32.ofNat i))] [])) := by
    intro k
    induction k with
    | zero =>
      intro i hik hrf Tq Lq Xq ehq Nq
      refine Gq.go (Tq.setTop (mkF m 13 #[.val (.ref a1), .val (.int (Int32.ofNat t)), .val (.int p2), .val (.ref a3), .val (.ref a4), .val (.int (-1 : Int32)), .val (.int (Int32.ofNat i))] [(.int (Int32.ofNat i))])) (fun tt_ kk_ => XS.iload Xq.here hx rfl (hb hby d19_11) rfl kk_) ?_
      refine Gq.go (Tq.setTop (mkF m 14 #[.val (.ref a1), .val (.int (Int32.ofNat t)), .val (.int p2), .val (.ref a3), .val (.ref a4), .val (.int (-1 : Int32)), .val (.int (Int32.ofNat i))] [(.ref a1), (.int (Int32.ofNat i))])) (fun tt_ kk_ => XS.aloadN Xq.here hx rfl (hb hby d19_13) rfl rfl kk_) ?_
      obtain ⟨T2, X2, eh2, st2⟩ := getF Xq hx hZ hown (host := "") (Or.inl (hw _ (List.mem_of_getElem? (i := 71) rfl))) Via.refl ehq Ff (g := (mkF m 14 #[.val (.ref a1), .val (.int (Int32.ofNat t)), .val (.int p2), .val (.ref a3), .val (.ref a4), .val (.int (-1 : Int32)), .val (.int (Int32.ofNat i))] [(.ref a1), (.int (Int32.ofNat i))])) rfl rfl (hb hby d19_14)
      refine Gq.go (T2.setTop (mkF m 17 #[.val (.ref a1), .val (.int (Int32.ofNat t)), .val (.int p2), .val (.ref a3), .val (.ref a4), .val (.int (-1 : Int32)), .val (.int (Int32.ofNat i))] [(.ref fs), (.int (Int32.ofNat i))])) (fun tt_ kk_ => st2 _ kk_) ?_
      refine Gq.go (T2.setTop (mkF m 18 #[.val (.ref a1), .val (.int (Int32.ofNat t)), .val (.int p2), .val (.ref a3), .val (.ref a4), .val (.int (-1 : Int32)), .val (.int (Int32.ofNat i))] [(.int (Int32.ofNat t)), (.ref fs), (.int (Int32.ofNat i))])) (fun tt_ kk_ => XS.iloadN X2.here hx rfl (hb hby d19_17) rfl kk_) ?_
      refine Gq.go (T2.setTop (mkF m 19 #[.val (.ref a1), .val (.int (Int32.ofNat t)), .val (.int p2), .val (.ref a3), .val (.ref a4), .val (.int (-1 : Int32)), .val (.int (Int32.ofNat i))] [(.int (1 : Int32)), (.int (Int32.ofNat t)), (.ref fs), (.int (Int32.ofNat i))])) (fun tt_ kk_ => XS.iconst X2.here hx rfl (hb hby d19_18) kk_) ?_
      refine Gq.go (T2.setTop (mkF m 20 #[.val (.ref a1), .val (.int (Int32.ofNat t)), .val (.int p2), .val (.ref a3), .val (.ref a4), .val (.int (-1 : Int32)), .val (.int (Int32.ofNat i))] [(.int ((Int32.ofNat t) + (1 : Int32))), (.ref fs), (.int (Int32.ofNat i))])) (fun tt_ kk_ => XS.iadd X2.here hx rfl (hb hby d19_19) rfl kk_) ?_
      rw [show ((Int32.ofNat t) + (1 : Int32)) = (Int32.ofNat (t + 1)) from own_add t 1]
      refine Gq.go (T2.setTop (mkF m 21 #[.val (.ref a1), .val (.int (Int32.ofNat t)), .val (.int p2), .val (.ref a3), .val (.ref a4), .val (.int (-1 : Int32)), .val (.int (Int32.ofNat i))] [(.int (Int32.ofNat (F (t + 1)))), (.int (Int32.ofNat i))])) (fun tt_ kk_ => ldI X2 hx hZ eh2 Vf (j := (Int32.ofNat (t + 1))) (i := (t + 1)) (x := (Int32.ofNat (F (t + 1)))) (own_nn (by omega)) (own_nc (by omega)) (by omega) rfl (hb hby d19_20) tt_ kk_) ?_
      refine Gq.go (T2.setTop (mkF m 55 #[.val (.ref a1), .val (.int (Int32.ofNat t)), .val (.int p2), .val (.ref a3), .val (.ref a4), .val (.int (-1 : Int32)), .val (.int (Int32.ofNat i))] [])) (fun tt_ kk_ => XS.icmpYes X2.here hx rfl (pc0 := 21) (pc' := 55) rfl (hb hby d19_21) rfl (flt (fun q => absurd ((own_lt (by omega) (by omega)).mp q) (by omega))).2.1 (by decide) (by decide) kk_) ?_
      refine Gq.go (T2.setTop (mkF m 57 #[.val (.ref a1), .val (.int (Int32.ofNat t)), .val (.int p2), .val (.ref a3), .val (.ref a4), .val (.int (-1 : Int32)), .val (.int (Int32.ofNat i))] [(.int (-1 : Int32))])) (fun tt_ kk_ => XS.iload X2.here hx rfl (hb hby d19_55) rfl kk_) ?_
      refine Gq.retI X2 hx Bd.notSynchronized Bd.returns (by simp) (hb hby d19_57) rfl (by decide) (by decide) ?_
      show Q19 Z a1 t p2 a3 a4 fs F B RR h0 n0 _ T2.heap _
      rw [eh2]
      exact ⟨by rw [← hrf]; rfl, Nq, rfl⟩
    | succ k ih =>
      intro i hik hrf Tq Lq Xq ehq Nq
      refine Gq.go (Tq.setTop (mkF m 13 #[.val (.ref a1), .val (.int (Int32.ofNat t)), .val (.int p2), .val (.ref a3), .val (.ref a4), .val (.int (-1 : Int32)), .val (.int (Int32.ofNat i))] [(.int (Int32.ofNat i))])) (fun tt_ kk_ => XS.iload Xq.here hx rfl (hb hby d19_11) rfl kk_) ?_
      refine Gq.go (Tq.setTop (mkF m 14 #[.val (.ref a1), .val (.int (Int32.ofNat t)), .val (.int p2), .val (.ref a3), .val (.ref a4), .val (.int (-1 : Int32)), .val (.int (Int32.ofNat i))] [(.ref a1), (.int (Int32.ofNat i))])) (fun tt_ kk_ => XS.aloadN Xq.here hx rfl (hb hby d19_13) rfl rfl kk_) ?_
      obtain ⟨T3, X3, eh3, st3⟩ := getF Xq hx hZ hown (host := "") (Or.inl (hw _ (List.mem_of_getElem? (i := 71) rfl))) Via.refl ehq Ff (g := (mkF m 14 #[.val (.ref a1), .val (.int (Int32.ofNat t)), .val (.int p2), .val (.ref a3), .val (.ref a4), .val (.int (-1 : Int32)), .val (.int (Int32.ofNat i))] [(.ref a1), (.int (Int32.ofNat i))])) rfl rfl (hb hby d19_14)
      refine Gq.go (T3.setTop (mkF m 17 #[.val (.ref a1), .val (.int (Int32.ofNat t)), .val (.int p2), .val (.ref a3), .val (.ref a4), .val (.int (-1 : Int32)), .val (.int (Int32.ofNat i))] [(.ref fs), (.int (Int32.ofNat i))])) (fun tt_ kk_ => st3 _ kk_) ?_
      refine Gq.go (T3.setTop (mkF m 18 #[.val (.ref a1), .val (.int (Int32.ofNat t)), .val (.int p2), .val (.ref a3), .val (.ref a4), .val (.int (-1 : Int32)), .val (.int (Int32.ofNat i))] [(.int (Int32.ofNat t)), (.ref fs), (.int (Int32.ofNat i))])) (fun tt_ kk_ => XS.iloadN X3.here hx rfl (hb hby d19_17) rfl kk_) ?_
      refine Gq.go (T3.setTop (mkF m 19 #[.val (.ref a1), .val (.int (Int32.ofNat t)), .val (.int p2), .val (.ref a3), .val (.ref a4), .val (.int (-1 : Int32)), .val (.int (Int32.ofNat i))] [(.int (1 : Int32)), (.int (Int32.ofNat t)), (.ref fs), (.int (Int32.ofNat i))])) (fun tt_ kk_ => XS.iconst X3.here hx rfl (hb hby d19_18) kk_) ?_
      refine Gq.go (T3.setTop (mkF m 20 #[.val (.ref a1), .val (.int (Int32.ofNat t)), .val (.int p2), .val (.ref a3), .val (.ref a4), .val (.int (-1 : Int32)), .val (.int (Int32.ofNat i))] [(.int ((Int32.ofNat t) + (1 : Int32))), (.ref fs), (.int (Int32.ofNat i))])) (fun tt_ kk_ => XS.iadd X3.here hx rfl (hb hby d19_19) rfl kk_) ?_
      rw [show ((Int32.ofNat t) + (1 : Int32)) = (Int32.ofNat (t + 1)) from own_add t 1]
      refine Gq.go (T3.setTop (mkF m 21 #[.val (.ref a1), .val (.int (Int32.ofNat t)), .val (.int p2), .val (.ref a3), .val (.ref a4), .val (.int (-1 : Int32)), .val (.int (Int32.ofNat i))] [(.int (Int32.ofNat (F (t + 1)))), (.int (Int32.ofNat i))])) (fun tt_ kk_ => ldI X3 hx hZ eh3 Vf (j := (Int32.ofNat (t + 1))) (i := (t + 1)) (x := (Int32.ofNat (F (t + 1)))) (own_nn (by omega)) (own_nc (by omega)) (by omega) rfl (hb hby d19_20) tt_ kk_) ?_
      refine Gq.go (T3.setTop (mkF m 24 #[.val (.ref a1), .val (.int (Int32.ofNat t)), .val (.int p2), .val (.ref a3), .val (.ref a4), .val (.int (-1 : Int32)), .val (.int (Int32.ofNat i))] [])) (fun tt_ kk_ => XS.icmpNo X3.here hx rfl (hb hby d19_21) rfl (tlt ((own_lt (by omega) (by omega)).mpr (by omega))).2.1 kk_) ?_
      refine Gq.go (T3.setTop (mkF m 26 #[.val (.ref a1), .val (.int (Int32.ofNat t)), .val (.int p2), .val (.ref a3), .val (.ref a4), .val (.int (-1 : Int32)), .val (.int (Int32.ofNat i))] [(.int (-1 : Int32))])) (fun tt_ kk_ => XS.iload X3.here hx rfl (hb hby d19_24) rfl kk_) ?_
      refine Gq.go (T3.setTop (mkF m 27 #[.val (.ref a1), .val (.int (Int32.ofNat t)), .val (.int p2), .val (.ref a3), .val (.ref a4), .val (.int (-1 : Int32)), .val (.int (Int32.ofNat i))] [(.int (-1 : Int32)), (.int (-1 : Int32))])) (fun tt_ kk_ => XS.iconst X3.here hx rfl (hb hby d19_26) kk_) ?_
      refine Gq.go (T3.setTop (mkF m 30 #[.val (.ref a1), .val (.int (Int32.ofNat t)), .val (.int p2), .val (.ref a3), .val (.ref a4), .val (.int (-1 : Int32)), .val (.int (Int32.ofNat i))] [])) (fun tt_ kk_ => XS.icmpNo X3.here hx rfl (hb hby d19_27) rfl (teq (by decide : ((-1 : Int32) = (-1 : Int32)))).2 kk_) ?_
      refine Gq.go (T3.setTop (mkF m 31 #[.val (.ref a1), .val (.int (Int32.ofNat t)), .val (.int p2), .val (.ref a3), .val (.ref a4), .val (.int (-1 : Int32)), .val (.int (Int32.ofNat i))] [(.ref a3)])) (fun tt_ kk_ => XS.aloadN X3.here hx rfl (hb hby d19_30) rfl rfl kk_) ?_
      refine Gq.go (T3.setTop (mkF m 33 #[.val (.ref a1), .val (.int (Int32.ofNat t)), .val (.int p2), .val (.ref a3), .val (.ref a4), .val (.int (-1 : Int32)), .val (.int (Int32.ofNat i))] [(.int (Int32.ofNat i)), (.ref a3)])) (fun tt_ kk_ => XS.iload X3.here hx rfl (hb hby d19_31) rfl kk_) ?_
      refine Gq.go (T3.setTop (mkF m 34 #[.val (.ref a1), .val (.int (Int32.ofNat t)), .val (.int p2), .val (.ref a3), .val (.ref a4), .val (.int (-1 : Int32)), .val (.int (Int32.ofNat i))] [(.int (B i))])) (fun tt_ kk_ => ldI X3 hx hZ eh3 V3 (j := (Int32.ofNat i)) (i := i) (x := (B i)) (own_nn (by omega)) (own_nc (by omega)) (by omega) rfl (hb hby d19_33) tt_ kk_) ?_
      refine Gq.go (T3.setTop (mkF m 35 #[.val (.ref a1), .val (.int (Int32.ofNat t)), .val (.int p2), .val (.ref a3), .val (.ref a4), .val (.int (-1 : Int32)), .val (.int (Int32.ofNat i))] [(.int p2), (.int (B i))])) (fun tt_ kk_ => XS.iloadN X3.here hx rfl (hb hby d19_34) rfl kk_) ?_
      by_cases hB : (B i) = p2
      · refine Gq.go (T3.setTop (mkF m 38 #[.val (.ref a1), .val (.int (Int32.ofNat t)), .val (.int p2), .val (.ref a3), .val (.ref a4), .val (.int (-1 : Int32)), .val (.int (Int32.ofNat i))] [])) (fun tt_ kk_ => XS.icmpNo X3.here hx rfl (hb hby d19_35) rfl (teq hB).2 kk_) ?_
        refine Gq.go (T3.setTop (mkF m 40 #[.val (.ref a1), .val (.int (Int32.ofNat t)), .val (.int p2), .val (.ref a3), .val (.ref a4), .val (.int (-1 : Int32)), .val (.int (Int32.ofNat i))] [(.ref a4)])) (fun tt_ kk_ => XS.aload X3.here hx rfl (hb hby d19_38) rfl rfl kk_) ?_
        refine Gq.go (T3.setTop (mkF m 42 #[.val (.ref a1), .val (.int (Int32.ofNat t)), .val (.int p2), .val (.ref a3), .val (.ref a4), .val (.int (-1 : Int32)), .val (.int (Int32.ofNat i))] [(.int (Int32.ofNat i)), (.ref a4)])) (fun tt_ kk_ => XS.iload X3.here hx rfl (hb hby d19_40) rfl kk_) ?_
        refine Gq.go (T3.setTop (mkF m 43 #[.val (.ref a1), .val (.int (Int32.ofNat t)), .val (.int p2), .val (.ref a3), .val (.ref a4), .val (.int (-1 : Int32)), .val (.int (Int32.ofNat i))] [(.int (RR i))])) (fun tt_ kk_ => ldI X3 hx hZ eh3 V4 (j := (Int32.ofNat i)) (i := i) (x := (RR i)) (own_nn (by omega)) (own_nc (by omega)) (by omega) rfl (hb hby d19_42) tt_ kk_) ?_
        refine Gq.go (T3.setTop (mkF m 47 #[.val (.ref a1), .val (.int (Int32.ofNat t)), .val (.int p2), .val (.ref a3), .val (.ref a4), .val (.int (-1 : Int32)), .val (.int (Int32.ofNat i))] [(.int (RR i))])) (fun tt_ kk_ => XS.goto X3.here hx rfl (pc0 := 43) (pc' := 47) rfl (hb hby d19_43) (by decide) (by decide) kk_) ?_
        refine Gq.go (T3.setTop (mkF m 49 #[.val (.ref a1), .val (.int (Int32.ofNat t)), .val (.int p2), .val (.ref a3), .val (.ref a4), .val (.int (RR i)), .val (.int (Int32.ofNat i))] [])) (fun tt_ kk_ => XS.istore X3.here hx rfl (hb hby d19_47) rfl (l' := #[.val (.ref a1), .val (.int (Int32.ofNat t)), .val (.int p2), .val (.ref a3), .val (.ref a4), .val (.int (RR i)), .val (.int (Int32.ofNat i))]) rfl kk_) ?_
        refine Gq.go (T3.setTop (mkF m 52 #[.val (.ref a1), .val (.int (Int32.ofNat t)), .val (.int p2), .val (.ref a3), .val (.ref a4), .val (.int (RR i)), .val (.int ((Int32.ofNat i) + (1 : Int32)))] [])) (fun tt_ kk_ => XS.iinc X3.here hx rfl (hb hby d19_49) rfl (l' := #[.val (.ref a1), .val (.int (Int32.ofNat t)), .val (.int p2), .val (.ref a3), .val (.ref a4), .val (.int (RR i)), .val (.int ((Int32.ofNat i) + (1 : Int32)))]) rfl kk_) ?_
        rw [show ((Int32.ofNat i) + (1 : Int32)) = Int32.ofNat (i + 1) from own_add i 1]
        refine Gq.go (T3.setTop (mkF m 11 #[.val (.ref a1), .val (.int (Int32.ofNat t)), .val (.int p2), .val (.ref a3), .val (.ref a4), .val (.int (RR i)), .val (.int (Int32.ofNat (i + 1)))] [])) (fun tt_ kk_ => XS.goto X3.here hx rfl (pc0 := 52) (pc' := 11) rfl (hb hby d19_52) (by decide) (by decide) kk_) ?_
        refine Gq.go (T3.setTop (mkF m 13 #[.val (.ref a1), .val (.int (Int32.ofNat t)), .val (.int p2), .val (.ref a3), .val (.ref a4), .val (.int (RR i)), .val (.int (Int32.ofNat (i + 1)))] [(.int (Int32.ofNat (i + 1)))])) (fun tt_ kk_ => XS.iload X3.here hx rfl (hb hby d19_11) rfl kk_) ?_
        refine Gq.go (T3.setTop (mkF m 14 #[.val (.ref a1), .val (.int (Int32.ofNat t)), .val (.int p2), .val (.ref a3), .val (.ref a4), .val (.int (RR i)), .val (.int (Int32.ofNat (i + 1)))] [(.ref a1), (.int (Int32.ofNat (i + 1)))])) (fun tt_ kk_ => XS.aloadN X3.here hx rfl (hb hby d19_13) rfl rfl kk_) ?_
        obtain ⟨T4, X4, eh4, st4⟩ := getF X3 hx hZ hown (host := "") (Or.inl (hw _ (List.mem_of_getElem? (i := 71) rfl))) Via.refl eh3 Ff (g := (mkF m 14 #[.val (.ref a1), .val (.int (Int32.ofNat t)), .val (.int p2), .val (.ref a3), .val (.ref a4), .val (.int (RR i)), .val (.int (Int32.ofNat (i + 1)))] [(.ref a1), (.int (Int32.ofNat (i + 1)))])) rfl rfl (hb hby d19_14)
        refine Gq.go (T4.setTop (mkF m 17 #[.val (.ref a1), .val (.int (Int32.ofNat t)), .val (.int p2), .val (.ref a3), .val (.ref a4), .val (.int (RR i)), .val (.int (Int32.ofNat (i + 1)))] [(.ref fs), (.int (Int32.ofNat (i + 1)))])) (fun tt_ kk_ => st4 _ kk_) ?_
        refine Gq.go (T4.setTop (mkF m 18 #[.val (.ref a1), .val (.int (Int32.ofNat t)), .val (.int p2), .val (.ref a3), .val (.ref a4), .val (.int (RR i)), .val (.int (Int32.ofNat (i + 1)))] [(.int (Int32.ofNat t)), (.ref fs), (.int (Int32.ofNat (i + 1)))])) (fun tt_ kk_ => XS.iloadN X4.here hx rfl (hb hby d19_17) rfl kk_) ?_
        refine Gq.go (T4.setTop (mkF m 19 #[.val (.ref a1), .val (.int (Int32.ofNat t)), .val (.int p2), .val (.ref a3), .val (.ref a4), .val (.int (RR i)), .val (.int (Int32.ofNat (i + 1)))] [(.int (1 : Int32)), (.int (Int32.ofNat t)), (.ref fs), (.int (Int32.ofNat (i + 1)))])) (fun tt_ kk_ => XS.iconst X4.here hx rfl (hb hby d19_18) kk_) ?_
        refine Gq.go (T4.setTop (mkF m 20 #[.val (.ref a1), .val (.int (Int32.ofNat t)), .val (.int p2), .val (.ref a3), .val (.ref a4), .val (.int (RR i)), .val (.int (Int32.ofNat (i + 1)))] [(.int ((Int32.ofNat t) + (1 : Int32))), (.ref fs), (.int (Int32.ofNat (i + 1)))])) (fun tt_ kk_ => XS.iadd X4.here hx rfl (hb hby d19_19) rfl kk_) ?_
        rw [show ((Int32.ofNat t) + (1 : Int32)) = (Int32.ofNat (t + 1)) from own_add t 1]
        refine Gq.go (T4.setTop (mkF m 21 #[.val (.ref a1), .val (.int (Int32.ofNat t)), .val (.int p2), .val (.ref a3), .val (.ref a4), .val (.int (RR i)), .val (.int (Int32.ofNat (i + 1)))] [(.int (Int32.ofNat (F (t + 1)))), (.int (Int32.ofNat (i + 1)))])) (fun tt_ kk_ => ldI X4 hx hZ eh4 Vf (j := (Int32.ofNat (t + 1))) (i := (t + 1)) (x := (Int32.ofNat (F (t + 1)))) (own_nn (by omega)) (own_nc (by omega)) (by omega) rfl (hb hby d19_20) tt_ kk_) ?_
        have hval : RR i = own_rf B RR p2 (F (t + 1) - F t) (F t) := by rw [← hrf]; show _ = (if B i = p2 then RR i else _); rw [if_pos hB]
        by_cases hlast : i + 1 < F (t + 1)
        · refine Gq.go (T4.setTop (mkF m 24 #[.val (.ref a1), .val (.int (Int32.ofNat t)), .val (.int p2), .val (.ref a3), .val (.ref a4), .val (.int (RR i)), .val (.int (Int32.ofNat (i + 1)))] [])) (fun tt_ kk_ => XS.icmpNo X4.here hx rfl (hb hby d19_21) rfl (tlt ((own_lt (by omega) (by omega)).mpr hlast)).2.1 kk_) ?_
          refine Gq.go (T4.setTop (mkF m 26 #[.val (.ref a1), .val (.int (Int32.ofNat t)), .val (.int p2), .val (.ref a3), .val (.ref a4), .val (.int (RR i)), .val (.int (Int32.ofNat (i + 1)))] [(.int (RR i))])) (fun tt_ kk_ => XS.iload X4.here hx rfl (hb hby d19_24) rfl kk_) ?_
          refine Gq.go (T4.setTop (mkF m 27 #[.val (.ref a1), .val (.int (Int32.ofNat t)), .val (.int p2), .val (.ref a3), .val (.ref a4), .val (.int (RR i)), .val (.int (Int32.ofNat (i + 1)))] [(.int (-1 : Int32)), (.int (RR i))])) (fun tt_ kk_ => XS.iconst X4.here hx rfl (hb hby d19_26) kk_) ?_
          refine Gq.go (T4.setTop (mkF m 55 #[.val (.ref a1), .val (.int (Int32.ofNat t)), .val (.int p2), .val (.ref a3), .val (.ref a4), .val (.int (RR i)), .val (.int (Int32.ofNat (i + 1)))] [])) (fun tt_ kk_ => XS.icmpYes X4.here hx rfl (pc0 := 27) (pc' := 55) rfl (hb hby d19_27) rfl (feq (hR i (by omega))).2 (by decide) (by decide) kk_) ?_
          refine Gq.go (T4.setTop (mkF m 57 #[.val (.ref a1), .val (.int (Int32.ofNat t)), .val (.int p2), .val (.ref a3), .val (.ref a4), .val (.int (RR i)), .val (.int (Int32.ofNat (i + 1)))] [(.int (RR i))])) (fun tt_ kk_ => XS.iload X4.here hx rfl (hb hby d19_55) rfl kk_) ?_
          refine Gq.retI X4 hx Bd.notSynchronized Bd.returns (by simp) (hb hby d19_57) rfl (by decide) (by decide) ?_
          show Q19 Z a1 t p2 a3 a4 fs F B RR h0 n0 _ T4.heap _
          rw [eh4]
          exact ⟨by rw [hval], Nq, rfl⟩
        · refine Gq.go (T4.setTop (mkF m 55 #[.val (.ref a1), .val (.int (Int32.ofNat t)), .val (.int p2), .val (.ref a3), .val (.ref a4), .val (.int (RR i)), .val (.int (Int32.ofNat (i + 1)))] [])) (fun tt_ kk_ => XS.icmpYes X4.here hx rfl (pc0 := 21) (pc' := 55) rfl (hb hby d19_21) rfl (flt (fun q => hlast ((own_lt (by omega) (by omega)).mp q))).2.1 (by decide) (by decide) kk_) ?_
          refine Gq.go (T4.setTop (mkF m 57 #[.val (.ref a1), .val (.int (Int32.ofNat t)), .val (.int p2), .val (.ref a3), .val (.ref a4), .val (.int (RR i)), .val (.int (Int32.ofNat (i + 1)))] [(.int (RR i))])) (fun tt_ kk_ => XS.iload X4.here hx rfl (hb hby d19_55) rfl kk_) ?_
          refine Gq.retI X4 hx Bd.notSynchronized Bd.returns (by simp) (hb hby d19_57) rfl (by decide) (by decide) ?_
          show Q19 Z a1 t p2 a3 a4 fs F B RR h0 n0 _ T4.heap _
          rw [eh4]
          exact ⟨by rw [hval], Nq, rfl⟩
      · refine Gq.go (T3.setTop (mkF m 46 #[.val (.ref a1), .val (.int (Int32.ofNat t)), .val (.int p2), .val (.ref a3), .val (.ref a4), .val (.int (-1 : Int32)), .val (.int (Int32.ofNat i))] [])) (fun tt_ kk_ => XS.icmpYes X3.here hx rfl (pc0 := 35) (pc' := 46) rfl (hb hby d19_35) rfl (feq hB).2 (by decide) (by decide) kk_) ?_
        refine Gq.go (T3.setTop (mkF m 47 #[.val (.ref a1), .val (.int (Int32.ofNat t)), .val (.int p2), .val (.ref a3), .val (.ref a4), .val (.int (-1 : Int32)), .val (.int (Int32.ofNat i))] [(.int (-1 : Int32))])) (fun tt_ kk_ => XS.iconst X3.here hx rfl (hb hby d19_46) kk_) ?_
        refine Gq.go (T3.setTop (mkF m 49 #[.val (.ref a1), .val (.int (Int32.ofNat t)), .val (.int p2), .val (.ref a3), .val (.ref a4), .val (.int (-1 : Int32)), .val (.int (Int32.ofNat i))] [])) (fun tt_ kk_ => XS.istore X3.here hx rfl (hb hby d19_47) rfl (l' := #[.val (.ref a1), .val (.int (Int32.ofNat t)), .val (.int p2), .val (.ref a3), .val (.ref a4), .val (.int (-1 : Int32)), .val (.int (Int32.ofNat i))]) rfl kk_) ?_
        refine Gq.go (T3.setTop (mkF m 52 #[.val (.ref a1), .val (.int (Int32.ofNat t)), .val (.int p2), .val (.ref a3), .val (.ref a4), .val (.int (-1 : Int32)), .val (.int ((Int32.ofNat i) + (1 : Int32)))] [])) (fun tt_ kk_ => XS.iinc X3.here hx rfl (hb hby d19_49) rfl (l' := #[.val (.ref a1), .val (.int (Int32.ofNat t)), .val (.int p2), .val (.ref a3), .val (.ref a4), .val (.int (-1 : Int32)), .val (.int ((Int32.ofNat i) + (1 : Int32)))]) rfl kk_) ?_
        rw [show ((Int32.ofNat i) + (1 : Int32)) = Int32.ofNat (i + 1) from own_add i 1]
        refine Gq.go (T3.setTop (mkF m 11 #[.val (.ref a1), .val (.int (Int32.ofNat t)), .val (.int p2), .val (.ref a3), .val (.ref a4), .val (.int (-1 : Int32)), .val (.int (Int32.ofNat (i + 1)))] [])) (fun tt_ kk_ => XS.goto X3.here hx rfl (pc0 := 52) (pc' := 11) rfl (hb hby d19_52) (by decide) (by decide) kk_) ?_
        exact ih (i + 1) (by omega) (by rw [← hrf]; show _ = (if B i = p2 then RR i else own_rf B RR p2 k (i + 1)); rw [if_neg hB]) _ _ X3 eh3 Nq
  exact loop (F (t + 1) - F t) (F t) (by omega) rfl _ _ X1 eh1 N0
theorem pd_9 : parseMethodDescriptor "(I)[I" = some ⟨[.int], some (.array .int)⟩ := by decide +kernel
theorem pd_10 : parseMethodDescriptor "(Ljava/lang/Object;)Z" = some ⟨[(.object "java/lang/Object")], some .boolean⟩ := by decide +kernel
theorem pd_11 : parseMethodDescriptor "([ILjava/util/List;IZ)V" = some ⟨[(.array .int), (.object "java/util/List"), .int, .boolean], none⟩ := by decide +kernel
theorem pd_12 : parseMethodDescriptor "(IIII)I" = some ⟨[.int, .int, .int, .int], some .int⟩ := by decide +kernel
theorem pd_13 : parseMethodDescriptor "(II[I[I)I" = some ⟨[.int, .int, (.array .int), (.array .int)], some .int⟩ := by decide +kernel
theorem ef0 (m : MethodId) (y0 : Int32) (y1 : Int32) (y2 : Int32) (y3 : Int32) (y4 : Int32) (y5 : Int32) : entryFrame m #[(.int y0), (.int y1), (.int y2), (.int y3), (.int y4), (.int y5)] maxLocals = mkF m 0 #[.val (.int y0), .val (.int y1), .val (.int y2), .val (.int y3), .val (.int y4), .val (.int y5), .unset, .unset, .unset, .unset, .unset, .unset, .unset, .unset, .unset, .unset, .unset, .unset, .unset, .unset] [] := by first | (simp [entryFrame, mkF, argsToLocals, Value.category, maxLocals]; done) | rfl
def Q0 (Z : State) (x0 : Int32) (x1 : Int32) (x2 : Int32) (x3 : Int32) (x4 : Int32) (x5 : Int32) (d0 : Addr) (fd : Nat → Value) (h0 : Heap) (n0 : Nat) (v : Option Value) (h : Heap) (L : List Loc) : Prop := v = some (.int (1 : Int32)) ∧ Fr n0 L
set_option maxRecDepth 65536 in
set_option maxHeartbeats 40000000 in
theorem rm0 (l : Launch) (Z : State) (a0 : Array Value) (hw : ∀ d ∈ tables_1, d.before a0 Z = true) (ws : List Jvm.Cond) (x0 : Int32) (x1 : Int32) (x2 : Int32) (x3 : Int32) (x4 : Int32) (x5 : Int32) (d0 : Addr) (fd : Nat → Value) (h0 : Heap) (n0 : Nat) (Z0 : n0 ≤ h0.size) (Ol : Old Z n0 h0) (Sd : Sta Z Z.heap "java/util/ArrayList" "DEFAULTCAPACITY_EMPTY_ELEMENTDATA" "[Ljava/lang/Object;" (.ref d0)) (Vd0 : LA Z Z.heap d0 (.object "java/lang/Object") 0 fd) :
    MetFree l x (head1 (Jvm.Cond.code x code maxLocals ret :: ws) room_1) (fun a U => a = #[(.int x0), (.int x1), (.int x2), (.int x3), (.int x4), (.int x5)] ∧ Z.Warmed39 U.vm ∧ U.heap = h0) (fun _ _ _ _ _ => True) (fun _ U o U' => ∃ v L, o = .returned v ∧ Q0 Z x0 x1 x2 x3 x4 x5 d0 fd h0 n0 v U'.heap L ∧ FrameEnd U o U' L room_1.cells room_1.slots) := by
  refine MetFree.of_bodySF (plainFor_of_name pn_com_example_arbor2_arbor2_analysis_TracksReachedFromPinLaw) hisR ?_
  intro p e s m args below meth c s₁ Bd hml0 hP hK
  obtain ⟨rfl, hZ, hh⟩ := hP
  have hx := Bd.exec
  have hby := Bd.bytes
  have hml : c.maxLocals = 20 := hml0
  have hown : s.vm.findClass "com/example/arbor2/arbor2/analysis/TracksReachedFromPinLaw" = some m.cls := findClass_of_methodNamed Bd.named
  have hnm := (name_of_methodNamed Bd.named Bd.method).1
  have X0 : Stand p l e room_1 s m #[(.int x0), (.int x1), (.int x2), (.int x3), (.int x4), (.int x5)] below meth c s₁ [] 0 0 := Stand.of_body Bd
  have eh0 : s₁.heap = h0 := by rw [← hh, Bd.state]; rfl
  have N0 := Fr.nil n0
  refine Gq.start (Q := Q0 Z x0 x1 x2 x3 x4 x5 d0 fd h0 n0) (kc := room_1.cells) (ks := room_1.slots) (ef0 m x0 x1 x2 x3 x4 x5) ?_
  refine Gq.go (s₁.setTop (mkF m 1 #[.val (.int x0), .val (.int x1), .val (.int x2), .val (.int x3), .val (.int x4), .val (.int x5), .unset, .unset, .unset, .unset, .unset, .unset, .unset, .unset, .unset, .unset, .unset, .unset, .unset, .unset] [(.int x0)])) (fun tt_ kk_ => XS.iloadN X0.here hx rfl (hb hby at_0) rfl kk_) ?_
  refine Gq.go (s₁.setTop (mkF m 2 #[.val (.int x0), .val (.int x1), .val (.int x2), .val (.int x3), .val (.int x4), .val (.int x5), .unset, .unset, .unset, .unset, .unset, .unset, .unset, .unset, .unset, .unset, .unset, .unset, .unset, .unset] [(.int (3 : Int32)), (.int x0)])) (fun tt_ kk_ => XS.iconst X0.here hx rfl (hb hby at_1) kk_) ?_
  refine Gq.go (s₁.setTop (mkF m 3 #[.val (.int x0), .val (.int x1), .val (.int x2), .val (.int x3), .val (.int x4), .val (.int x5), .unset, .unset, .unset, .unset, .unset, .unset, .unset, .unset, .unset, .unset, .unset, .unset, .unset, .unset] [(.int (x0 &&& (3 : Int32)))])) (fun tt_ kk_ => XS.iand X0.here hx rfl (hb hby at_2) rfl kk_) ?_
  obtain ⟨t3, ht3, et3⟩ := own_and x0 3 (by decide)
  rw [show (x0 &&& (3 : Int32)) = (Int32.ofNat t3) from et3]
  refine Gq.go (s₁.setTop (mkF m 4 #[.val (.int x0), .val (.int x1), .val (.int x2), .val (.int x3), .val (.int x4), .val (.int x5), .unset, .unset, .unset, .unset, .unset, .unset, .unset, .unset, .unset, .unset, .unset, .unset, .unset, .unset] [(.int (3 : Int32)), (.int (Int32.ofNat t3))])) (fun tt_ kk_ => XS.iconst X0.here hx rfl (hb hby at_3) kk_) ?_
  refine Gq.go (s₁.setTop (mkF m 5 #[.val (.int x0), .val (.int x1), .val (.int x2), .val (.int x3), .val (.int x4), .val (.int x5), .unset, .unset, .unset, .unset, .unset, .unset, .unset, .unset, .unset, .unset, .unset, .unset, .unset, .unset] [(.int ((Int32.ofNat t3) % (3 : Int32)))])) (fun tt_ kk_ => iremM X0 hx rfl (hb hby at_4) rfl (by decide) kk_) ?_
  rw [show ((Int32.ofNat t3) % (3 : Int32)) = (Int32.ofNat (t3 % 3)) from own_rem (d := 3) (by omega) (by decide)]
  have htt : t3 % 3 < 3 := Nat.mod_lt _ (by decide)
  generalize t3 % 3 = t at htt
  refine Gq.go (s₁.setTop (mkF m 7 #[.val (.int x0), .val (.int x1), .val (.int x2), .val (.int x3), .val (.int x4), .val (.int x5), .val (.int (Int32.ofNat t)), .unset, .unset, .unset, .unset, .unset, .unset, .unset, .unset, .unset, .unset, .unset, .unset, .unset] [])) (fun tt_ kk_ => XS.istore X0.here hx rfl (hb hby at_5) rfl (l' := #[.val (.int x0), .val (.int x1), .val (.int x2), .val (.int x3), .val (.int x4), .val (.int x5), .val (.int (Int32.ofNat t)), .unset, .unset, .unset, .unset, .unset, .unset, .unset, .unset, .unset, .unset, .unset, .unset, .unset]) rfl kk_) ?_
  refine Gq.go (s₁.setTop (mkF m 8 #[.val (.int x0), .val (.int x1), .val (.int x2), .val (.int x3), .val (.int x4), .val (.int x5), .val (.int (Int32.ofNat t)), .unset, .unset, .unset, .unset, .unset, .unset, .unset, .unset, .unset, .unset, .unset, .unset, .unset] [(.int x0)])) (fun tt_ kk_ => XS.iloadN X0.here hx rfl (hb hby at_7) rfl kk_) ?_
  refine Gq.go (s₁.setTop (mkF m 9 #[.val (.int x0), .val (.int x1), .val (.int x2), .val (.int x3), .val (.int x4), .val (.int x5), .val (.int (Int32.ofNat t)), .unset, .unset, .unset, .unset, .unset, .unset, .unset, .unset, .unset, .unset, .unset, .unset, .unset] [(.int (2 : Int32)), (.int x0)])) (fun tt_ kk_ => XS.iconst X0.here hx rfl (hb hby at_8) kk_) ?_
  refine Gq.go (s₁.setTop (mkF m 10 #[.val (.int x0), .val (.int x1), .val (.int x2), .val (.int x3), .val (.int x4), .val (.int x5), .val (.int (Int32.ofNat t)), .unset, .unset, .unset, .unset, .unset, .unset, .unset, .unset, .unset, .unset, .unset, .unset, .unset] [(.int ((x0.toUInt32 >>> ((2 : Int32) &&& 31).toUInt32).toInt32))])) (fun tt_ kk_ => XS.iushr X0.here hx rfl (hb hby at_9) rfl kk_) ?_
  refine Gq.go (s₁.setTop (mkF m 11 #[.val (.int x0), .val (.int x1), .val (.int x2), .val (.int x3), .val (.int x4), .val (.int x5), .val (.int (Int32.ofNat t)), .unset, .unset, .unset, .unset, .unset, .unset, .unset, .unset, .unset, .unset, .unset, .unset, .unset] [(.int (3 : Int32)), (.int ((x0.toUInt32 >>> ((2 : Int32) &&& 31).toUInt32).toInt32))])) (fun tt_ kk_ => XS.iconst X0.here hx rfl (hb hby at_10) kk_) ?_
  refine Gq.go (s₁.setTop (mkF m 12 #[.val (.int x0), .val (.int x1), .val (.int x2), .val (.int x3), .val (.int x4), .val (.int x5), .val (.int (Int32.ofNat t)), .unset, .unset, .unset, .unset, .unset, .unset, .unset, .unset, .unset, .unset, .unset, .unset, .unset] [(.int (((x0.toUInt32 >>> ((2 : Int32) &&& 31).toUInt32).toInt32) &&& (3 : Int32)))])) (fun tt_ kk_ => XS.iand X0.here hx rfl (hb hby at_11) rfl kk_) ?_
  obtain ⟨u0, hu0, eu0⟩ := own_and ((x0.toUInt32 >>> ((2 : Int32) &&& 31).toUInt32).toInt32) 3 (by decide)
  rw [show (((x0.toUInt32 >>> ((2 : Int32) &&& 31).toUInt32).toInt32) &&& (3 : Int32)) = (Int32.ofNat u0) from eu0]
  refine Gq.go (s₁.setTop (mkF m 14 #[.val (.int x0), .val (.int x1), .val (.int x2), .val (.int x3), .val (.int x4), .val (.int x5), .val (.int (Int32.ofNat t)), .val (.int (Int32.ofNat u0)), .unset, .unset, .unset, .unset, .unset, .unset, .unset, .unset, .unset, .unset, .unset, .unset] [])) (fun tt_ kk_ => XS.istore X0.here hx rfl (hb hby at_12) rfl (l' := #[.val (.int x0), .val (.int x1), .val (.int x2), .val (.int x3), .val (.int x4), .val (.int x5), .val (.int (Int32.ofNat t)), .val (.int (Int32.ofNat u0)), .unset, .unset, .unset, .unset, .unset, .unset, .unset, .unset, .unset, .unset, .unset, .unset]) rfl kk_) ?_
  refine Gq.go (s₁.setTop (mkF m 15 #[.val (.int x0), .val (.int x1), .val (.int x2), .val (.int x3), .val (.int x4), .val (.int x5), .val (.int (Int32.ofNat t)), .val (.int (Int32.ofNat u0)), .unset, .unset, .unset, .unset, .unset, .unset, .unset, .unset, .unset, .unset, .unset, .unset] [(.int x0)])) (fun tt_ kk_ => XS.iloadN X0.here hx rfl (hb hby at_14) rfl kk_) ?_
  refine Gq.go (s₁.setTop (mkF m 16 #[.val (.int x0), .val (.int x1), .val (.int x2), .val (.int x3), .val (.int x4), .val (.int x5), .val (.int (Int32.ofNat t)), .val (.int (Int32.ofNat u0)), .unset, .unset, .unset, .unset, .unset, .unset, .unset, .unset, .unset, .unset, .unset, .unset] [(.int (4 : Int32)), (.int x0)])) (fun tt_ kk_ => XS.iconst X0.here hx rfl (hb hby at_15) kk_) ?_
  refine Gq.go (s₁.setTop (mkF m 17 #[.val (.int x0), .val (.int x1), .val (.int x2), .val (.int x3), .val (.int x4), .val (.int x5), .val (.int (Int32.ofNat t)), .val (.int (Int32.ofNat u0)), .unset, .unset, .unset, .unset, .unset, .unset, .unset, .unset, .unset, .unset, .unset, .unset] [(.int ((x0.toUInt32 >>> ((4 : Int32) &&& 31).toUInt32).toInt32))])) (fun tt_ kk_ => XS.iushr X0.here hx rfl (hb hby at_16) rfl kk_) ?_
  refine Gq.go (s₁.setTop (mkF m 18 #[.val (.int x0), .val (.int x1), .val (.int x2), .val (.int x3), .val (.int x4), .val (.int x5), .val (.int (Int32.ofNat t)), .val (.int (Int32.ofNat u0)), .unset, .unset, .unset, .unset, .unset, .unset, .unset, .unset, .unset, .unset, .unset, .unset] [(.int (3 : Int32)), (.int ((x0.toUInt32 >>> ((4 : Int32) &&& 31).toUInt32).toInt32))])) (fun tt_ kk_ => XS.iconst X0.here hx rfl (hb hby at_17) kk_) ?_
  refine Gq.go (s₁.setTop (mkF m 19 #[.val (.int x0), .val (.int x1), .val (.int x2), .val (.int x3), .val (.int x4), .val (.int x5), .val (.int (Int32.ofNat t)), .val (.int (Int32.ofNat u0)), .unset, .unset, .unset, .unset, .unset, .unset, .unset, .unset, .unset, .unset, .unset, .unset] [(.int (((x0.toUInt32 >>> ((4 : Int32) &&& 31).toUInt32).toInt32) &&& (3 : Int32)))])) (fun tt_ kk_ => XS.iand X0.here hx rfl (hb hby at_18) rfl kk_) ?_
  obtain ⟨u1, hu1, eu1⟩ := own_and ((x0.toUInt32 >>> ((4 : Int32) &&& 31).toUInt32).toInt32) 3 (by decide)
  rw [show (((x0.toUInt32 >>> ((4 : Int32) &&& 31).toUInt32).toInt32) &&& (3 : Int32)) = (Int32.ofNat u1) from eu1]
  refine Gq.go (s₁.setTop (mkF m 21 #[.val (.int x0), .val (.int x1), .val (.int x2), .val (.int x3), .val (.int x4), .val (.int x5), .val (.int (Int32.ofNat t)), .val (.int (Int32.ofNat u0)), .val (.int (Int32.ofNat u1)), .unset, .unset, .unset, .unset, .unset, .unset, .unset, .unset, .unset, .unset, .unset] [])) (fun tt_ kk_ => XS.istore X0.here hx rfl (hb hby at_19) rfl (l' := #[.val (.int x0), .val (.int x1), .val (.int x2), .val (.int x3), .val (.int x4), .val (.int x5), .val (.int (Int32.ofNat t)), .val (.int (Int32.ofNat u0)), .val (.int (Int32.ofNat u1)), .unset, .unset, .unset, .unset, .unset, .unset, .unset, .unset, .unset, .unset, .unset]) rfl kk_) ?_
  refine Gq.go (s₁.setTop (mkF m 22 #[.val (.int x0), .val (.int x1), .val (.int x2), .val (.int x3), .val (.int x4), .val (.int x5), .val (.int (Int32.ofNat t)), .val (.int (Int32.ofNat u0)), .val (.int (Int32.ofNat u1)), .unset, .unset, .unset, .unset, .unset, .unset, .unset, .unset, .unset, .unset, .unset] [(.int x0)])) (fun tt_ kk_ => XS.iloadN X0.here hx rfl (hb hby at_21) rfl kk_) ?_
  refine Gq.go (s₁.setTop (mkF m 24 #[.val (.int x0), .val (.int x1), .val (.int x2), .val (.int x3), .val (.int x4), .val (.int x5), .val (.int (Int32.ofNat t)), .val (.int (Int32.ofNat u0)), .val (.int (Int32.ofNat u1)), .unset, .unset, .unset, .unset, .unset, .unset, .unset, .unset, .unset, .unset, .unset] [(.int (6 : Int32)), (.int x0)])) (fun tt_ kk_ => XS.bipush X0.here hx rfl (hb hby at_22) kk_) ?_
  refine Gq.go (s₁.setTop (mkF m 25 #[.val (.int x0), .val (.int x1), .val (.int x2), .val (.int x3), .val (.int x4), .val (.int x5), .val (.int (Int32.ofNat t)), .val (.int (Int32.ofNat u0)), .val (.int (Int32.ofNat u1)), .unset, .unset, .unset, .unset, .unset, .unset, .unset, .unset, .unset, .unset, .unset] [(.int ((x0.toUInt32 >>> ((6 : Int32) &&& 31).toUInt32).toInt32))])) (fun tt_ kk_ => XS.iushr X0.here hx rfl (hb hby at_24) rfl kk_) ?_
  refine Gq.go (s₁.setTop (mkF m 26 #[.val (.int x0), .val (.int x1), .val (.int x2), .val (.int x3), .val (.int x4), .val (.int x5), .val (.int (Int32.ofNat t)), .val (.int (Int32.ofNat u0)), .val (.int (Int32.ofNat u1)), .unset, .unset, .unset, .unset, .unset, .unset, .unset, .unset, .unset, .unset, .unset] [(.int (3 : Int32)), (.int ((x0.toUInt32 >>> ((6 : Int32) &&& 31).toUInt32).toInt32))])) (fun tt_ kk_ => XS.iconst X0.here hx rfl (hb hby at_25) kk_) ?_
  refine Gq.go (s₁.setTop (mkF m 27 #[.val (.int x0), .val (.int x1), .val (.int x2), .val (.int x3), .val (.int x4), .val (.int x5), .val (.int (Int32.ofNat t)), .val (.int (Int32.ofNat u0)), .val (.int (Int32.ofNat u1)), .unset, .unset, .unset, .unset, .unset, .unset, .unset, .unset, .unset, .unset, .unset] [(.int (((x0.toUInt32 >>> ((6 : Int32) &&& 31).toUInt32).toInt32) &&& (3 : Int32)))])) (fun tt_ kk_ => XS.iand X0.here hx rfl (hb hby at_26) rfl kk_) ?_
  obtain ⟨u2, hu2, eu2⟩ := own_and ((x0.toUInt32 >>> ((6 : Int32) &&& 31).toUInt32).toInt32) 3 (by decide)
  rw [show (((x0.toUInt32 >>> ((6 : Int32) &&& 31).toUInt32).toInt32) &&& (3 : Int32)) = (Int32.ofNat u2) from eu2]
  refine Gq.go (s₁.setTop (mkF m 29 #[.val (.int x0), .val (.int x1), .val (.int x2), .val (.int x3), .val (.int x4), .val (.int x5), .val (.int (Int32.ofNat t)), .val (.int (Int32.ofNat u0)), .val (.int (Int32.ofNat u1)), .val (.int (Int32.ofNat u2)), .unset, .unset, .unset, .unset, .unset, .unset, .unset, .unset, .unset, .unset] [])) (fun tt_ kk_ => XS.istore X0.here hx rfl (hb hby at_27) rfl (l' := #[.val (.int x0), .val (.int x1), .val (.int x2), .val (.int x3), .val (.int x4), .val (.int x5), .val (.int (Int32.ofNat t)), .val (.int (Int32.ofNat u0)), .val (.int (Int32.ofNat u1)), .val (.int (Int32.ofNat u2)), .unset, .unset, .unset, .unset, .unset, .unset, .unset, .unset, .unset, .unset]) rfl kk_) ?_
  obtain ⟨T1, h1, X1, eh1, E1, A1, D1, -, st1⟩ := newO X0 hx hZ hown (hw _ (List.mem_of_getElem? (i := 0) rfl)) (hw _ (List.mem_of_getElem? (i := 1) rfl)) (hw _ (List.mem_of_getElem? (i := 2) rfl)) eh0 (g := (mkF m 29 #[.val (.int x0), .val (.int x1), .val (.int x2), .val (.int x3), .val (.int x4), .val (.int x5), .val (.int (Int32.ofNat t)), .val (.int (Int32.ofNat u0)), .val (.int (Int32.ofNat u1)), .val (.int (Int32.ofNat u2)), .unset, .unset, .unset, .unset, .unset, .unset, .unset, .unset, .unset, .unset] [])) rfl (hb hby at_29) (by decide) (by decide)
  obtain ⟨b1, aq1⟩ : ∃ z, z = h0.size := ⟨_, rfl⟩
  rw [← aq1] at A1 D1 st1
  have g_b1 : n0 ≤ b1 := Nat.le_trans Z0 (Nat.le_of_eq aq1.symm)
  have fa2 := Ol.ext E1
  have za3 : n0 ≤ h1.size := Nat.le_trans Z0 E1.1
  have F1_modCount : Fld Z h1 b1 "java/util/AbstractList" "modCount" "I" (.int (0 : Int32)) := D1 (Or.inl (hw _ (List.mem_of_getElem? (i := 22) rfl))) (ty := .int) (by decide)
  have F1_elementData : Fld Z h1 b1 "java/util/ArrayList" "elementData" "[Ljava/lang/Object;" .null := D1 (Or.inl (hw _ (List.mem_of_getElem? (i := 25) rfl))) (ty := (.array (.object "java/lang/Object"))) (by decide)
  have F1_size : Fld Z h1 b1 "java/util/ArrayList" "size" "I" (.int (0 : Int32)) := D1 (Or.inl (hw _ (List.mem_of_getElem? (i := 39) rfl))) (ty := .int) (by decide)
  have ta1' := A1.lt
  refine Gq.go (T1.setTop (mkF m 32 #[.val (.int x0), .val (.int x1), .val (.int x2), .val (.int x3), .val (.int x4), .val (.int x5), .val (.int (Int32.ofNat t)), .val (.int (Int32.ofNat u0)), .val (.int (Int32.ofNat u1)), .val (.int (Int32.ofNat u2)), .unset, .unset, .unset, .unset, .unset, .unset, .unset, .unset, .unset, .unset] [(.ref b1)])) (fun tt_ kk_ => st1 tt_ kk_) ?_
  refine Gq.go (T1.setTop (mkF m 33 #[.val (.int x0), .val (.int x1), .val (.int x2), .val (.int x3), .val (.int x4), .val (.int x5), .val (.int (Int32.ofNat t)), .val (.int (Int32.ofNat u0)), .val (.int (Int32.ofNat u1)), .val (.int (Int32.ofNat u2)), .unset, .unset, .unset, .unset, .unset, .unset, .unset, .unset, .unset, .unset] [(.ref b1), (.ref b1)])) (fun tt_ kk_ => XS.dup X1.here hx rfl (hb hby at_32) rfl rfl kk_) ?_
  obtain ⟨r4, T4, L4, X4, hQ4, st4⟩ := callI (pc := 33) (Ls := #[.val (.int x0), .val (.int x1), .val (.int x2), .val (.int x3), .val (.int x4), .val (.int x5), .val (.int (Int32.ofNat t)), .val (.int (Int32.ofNat u0)), .val (.int (Int32.ofNat u1)), .val (.int (Int32.ofNat u2)), .unset, .unset, .unset, .unset, .unset, .unset, .unset, .unset, .unset, .unset]) X1 hx hZ hown eh1 b1 [] [(.ref b1)] (hw _ (List.mem_of_getElem? (i := 3) rfl)) (hw _ (List.mem_of_getElem? (i := 4) rfl)) (hw _ (List.mem_of_getElem? (i := 2) rfl)) (hw _ (List.mem_of_getElem? (i := 5) rfl)) rfl (by decide) (rm1 l Z a0 hw [] b1 d0 h1 n0 za3 A1 g_b1 F1_modCount F1_elementData F1_size fa2 Sd) pd_0 rfl (by rw [hml]; rfl) (W := 1) (Nat.le_of_eq rfl) (by decide) (by decide) (by decide) (by decide) (hb hby at_33)
  obtain ⟨rfl, N4q, Kc4, c4_0, c4_1, c4_2⟩ := hQ4
  have N4 := Fr.app N0 N4q
  have fa5 := fa2.keep Kc4 (allS g_b1 all0)
  have fa6 := A1.keep Kc4
  have ta10 := Nat.lt_of_lt_of_le ta1' Kc4.1
  have za11 : n0 ≤ T4.heap.size := Nat.le_trans za3 Kc4.1
  refine Gq.go (T4.setTop (mkF m 36 #[.val (.int x0), .val (.int x1), .val (.int x2), .val (.int x3), .val (.int x4), .val (.int x5), .val (.int (Int32.ofNat t)), .val (.int (Int32.ofNat u0)), .val (.int (Int32.ofNat u1)), .val (.int (Int32.ofNat u2)), .unset, .unset, .unset, .unset, .unset, .unset, .unset, .unset, .unset, .unset] [(.ref b1)])) (fun tt_ kk_ => st4 tt_ kk_) ?_
  refine Gq.go (T4.setTop (mkF m 38 #[.val (.int x0), .val (.int x1), .val (.int x2), .val (.int x3), .val (.int x4), .val (.int x5), .val (.int (Int32.ofNat t)), .val (.int (Int32.ofNat u0)), .val (.int (Int32.ofNat u1)), .val (.int (Int32.ofNat u2)), .val (.ref b1), .unset, .unset, .unset, .unset, .unset, .unset, .unset, .unset, .unset] [])) (fun tt_ kk_ => XS.astore X4.here hx rfl (hb hby at_36) rfl rfl (l' := #[.val (.int x0), .val (.int x1), .val (.int x2), .val (.int x3), .val (.int x4), .val (.int x5), .val (.int (Int32.ofNat t)), .val (.int (Int32.ofNat u0)), .val (.int (Int32.ofNat u1)), .val (.int (Int32.ofNat u2)), .val (.ref b1), .unset, .unset, .unset, .unset, .unset, .unset, .unset, .unset, .unset]) rfl kk_) ?_
  refine Gq.go (T4.setTop (mkF m 40 #[.val (.int x0), .val (.int x1), .val (.int x2), .val (.int x3), .val (.int x4), .val (.int x5), .val (.int (Int32.ofNat t)), .val (.int (Int32.ofNat u0)), .val (.int (Int32.ofNat u1)), .val (.int (Int32.ofNat u2)), .val (.ref b1), .unset, .unset, .unset, .unset, .unset, .unset, .unset, .unset, .unset] [(.ref b1)])) (fun tt_ kk_ => XS.aload X4.here hx rfl (hb hby at_38) rfl rfl kk_) ?_
  refine Gq.go (T4.setTop (mkF m 42 #[.val (.int x0), .val (.int x1), .val (.int x2), .val (.int x3), .val (.int x4), .val (.int x5), .val (.int (Int32.ofNat t)), .val (.int (Int32.ofNat u0)), .val (.int (Int32.ofNat u1)), .val (.int (Int32.ofNat u2)), .val (.ref b1), .unset, .unset, .unset, .unset, .unset, .unset, .unset, .unset, .unset] [(.int (Int32.ofNat u0)), (.ref b1)])) (fun tt_ kk_ => XS.iload X4.here hx rfl (hb hby at_40) rfl kk_) ?_
  obtain ⟨r12, T12, L12, X12, hQ12, st12⟩ := callT (pc := 42) (Ls := #[.val (.int x0), .val (.int x1), .val (.int x2), .val (.int x3), .val (.int x4), .val (.int x5), .val (.int (Int32.ofNat t)), .val (.int (Int32.ofNat u0)), .val (.int (Int32.ofNat u1)), .val (.int (Int32.ofNat u2)), .val (.ref b1), .unset, .unset, .unset, .unset, .unset, .unset, .unset, .unset, .unset]) X4 hx hZ hown rfl [(.int (Int32.ofNat u0))] [(.ref b1)] (hw _ (List.mem_of_getElem? (i := 26) rfl)) (hw _ (List.mem_of_getElem? (i := 27) rfl)) (hw _ (List.mem_of_getElem? (i := 28) rfl)) (hw _ (List.mem_of_getElem? (i := 29) rfl)) (by decide) (rm5 l Z a0 hw [] u0 T4.heap n0 za11 hu0) pd_9 rfl (by rw [hml]; rfl) (W := 1) (Nat.le_of_eq rfl) (by decide) (by decide) (by decide) (by decide) (hb hby at_42)
  obtain ⟨⟨b12, rfl, g_b12, szb12, Vc12, Ec12⟩, N12q, Kc12⟩ := hQ12
  have N12 := Fr.app N4 N12q
  have ne_b1_b12 : b1 ≠ b12 := Nat.ne_of_lt (Nat.lt_of_lt_of_le ta10 szb12)
  have fa13 := fa5.keep Kc12 all0
  have fa14 := fa6.keep Kc12
  have fa15 := c4_0.keep Kc12 nin0
  have fa16 := c4_1.keep Kc12 nin0
  have fa17 := c4_2.keep Kc12 nin0
  have ta18 := Nat.lt_of_lt_of_le ta10 Kc12.1
  have za19 : n0 ≤ T12.heap.size := Nat.le_trans za11 Kc12.1
  have tab12 := Vc12.lt
  refine Gq.go (T12.setTop (mkF m 45 #[.val (.int x0), .val (.int x1), .val (.int x2), .val (.int x3), .val (.int x4), .val (.int x5), .val (.int (Int32.ofNat t)), .val (.int (Int32.ofNat u0)), .val (.int (Int32.ofNat u1)), .val (.int (Int32.ofNat u2)), .val (.ref b1), .unset, .unset, .unset, .unset, .unset, .unset, .unset, .unset, .unset] [(.ref b12), (.ref b1)])) (fun tt_ kk_ => st12 tt_ kk_) ?_
  obtain ⟨r20, T20, L20, X20, hQ20, st20⟩ := callV (pc := 45) (Ls := #[.val (.int x0), .val (.int x1), .val (.int x2), .val (.int x3), .val (.int x4), .val (.int x5), .val (.int (Int32.ofNat t)), .val (.int (Int32.ofNat u0)), .val (.int (Int32.ofNat u1)), .val (.int (Int32.ofNat u2)), .val (.ref b1), .unset, .unset, .unset, .unset, .unset, .unset, .unset, .unset, .unset]) X12 hx hZ hown rfl b1 [(.ref b12)] [] fa14 (hw _ (List.mem_of_getElem? (i := 31) rfl)) (hw _ (List.mem_of_getElem? (i := 32) rfl)) (hw _ (List.mem_of_getElem? (i := 34) rfl)) (hw _ (List.mem_of_getElem? (i := 33) rfl)) (hw _ (List.mem_of_getElem? (i := 2) rfl)) (hw _ (List.mem_of_getElem? (i := 35) rfl)) (by decide) (rm25a l Z a0 hw [] b1 d0 (0 : Int32) fd b12 T12.heap n0 za19 fa14 g_b1 fa15 fa16 fa17 fa13 Sd (Vd0.ext fa13.2) (Old.ne fa13 Vd0.lt g_b1) Ec12) pd_10 rfl (by rw [hml]; rfl) (W := 0) (Nat.le_of_eq rfl) (by decide) (by decide) (by decide) (by decide) (hb hby at_45)
  obtain ⟨⟨el20, rfl, gel20, szel20, c20_0, c20_1, c20_2, c20_3⟩, N20q, Kc20⟩ := hQ20
  have N20 := Fr.app N12 N20q
  have ne_b1_el20 : b1 ≠ el20 := Nat.ne_of_lt (Nat.lt_of_lt_of_le ta18 szel20)
  have ne_b12_el20 : b12 ≠ el20 := Nat.ne_of_lt (Nat.lt_of_lt_of_le tab12 szel20)
  have fa21 := fa13.keep Kc20 (allS g_b1 all0)
  have fa22 := fa14.keep Kc20
  have fa26 := Vc12.keep Kc20 (ninS (Ne.symm ne_b1_b12) nin0)
  have fa27 := Ec12.keep Kc20
  have ta28 := Nat.lt_of_lt_of_le ta18 Kc20.1
  have ta29 := Nat.lt_of_lt_of_le tab12 Kc20.1
  have za30 : n0 ≤ T20.heap.size := Nat.le_trans za19 Kc20.1
  have tael20 := c20_3.lt
  refine Gq.go (T20.setTop (mkF m 48 #[.val (.int x0), .val (.int x1), .val (.int x2), .val (.int x3), .val (.int x4), .val (.int x5), .val (.int (Int32.ofNat t)), .val (.int (Int32.ofNat u0)), .val (.int (Int32.ofNat u1)), .val (.int (Int32.ofNat u2)), .val (.ref b1), .unset, .unset, .unset, .unset, .unset, .unset, .unset, .unset, .unset] [(.int (1 : Int32))])) (fun tt_ kk_ => st20 tt_ kk_) ?_
  refine Gq.go (T20.setTop (mkF m 49 #[.val (.int x0), .val (.int x1), .val (.int x2), .val (.int x3), .val (.int x4), .val (.int x5), .val (.int (Int32.ofNat t)), .val (.int (Int32.ofNat u0)), .val (.int (Int32.ofNat u1)), .val (.int (Int32.ofNat u2)), .val (.ref b1), .unset, .unset, .unset, .unset, .unset, .unset, .unset, .unset, .unset] [])) (fun tt_ kk_ => XS.pop X20.here hx rfl (hb hby at_48) rfl rfl kk_) ?_
  refine Gq.go (T20.setTop (mkF m 51 #[.val (.int x0), .val (.int x1), .val (.int x2), .val (.int x3), .val (.int x4), .val (.int x5), .val (.int (Int32.ofNat t)), .val (.int (Int32.ofNat u0)), .val (.int (Int32.ofNat u1)), .val (.int (Int32.ofNat u2)), .val (.ref b1), .unset, .unset, .unset, .unset, .unset, .unset, .unset, .unset, .unset] [(.ref b1)])) (fun tt_ kk_ => XS.aload X20.here hx rfl (hb hby at_49) rfl rfl kk_) ?_
  refine Gq.go (T20.setTop (mkF m 53 #[.val (.int x0), .val (.int x1), .val (.int x2), .val (.int x3), .val (.int x4), .val (.int x5), .val (.int (Int32.ofNat t)), .val (.int (Int32.ofNat u0)), .val (.int (Int32.ofNat u1)), .val (.int (Int32.ofNat u2)), .val (.ref b1), .unset, .unset, .unset, .unset, .unset, .unset, .unset, .unset, .unset] [(.int (Int32.ofNat u1)), (.ref b1)])) (fun tt_ kk_ => XS.iload X20.here hx rfl (hb hby at_51) rfl kk_) ?_
  obtain ⟨r31, T31, L31, X31, hQ31, st31⟩ := callT (pc := 53) (Ls := #[.val (.int x0), .val (.int x1), .val (.int x2), .val (.int x3), .val (.int x4), .val (.int x5), .val (.int (Int32.ofNat t)), .val (.int (Int32.ofNat u0)), .val (.int (Int32.ofNat u1)), .val (.int (Int32.ofNat u2)), .val (.ref b1), .unset, .unset, .unset, .unset, .unset, .unset, .unset, .unset, .unset]) X20 hx hZ hown rfl [(.int (Int32.ofNat u1))] [(.ref b1)] (hw _ (List.mem_of_getElem? (i := 26) rfl)) (hw _ (List.mem_of_getElem? (i := 27) rfl)) (hw _ (List.mem_of_getElem? (i := 28) rfl)) (hw _ (List.mem_of_getElem? (i := 29) rfl)) (by decide) (rm5 l Z a0 hw [] u1 T20.heap n0 za30 hu1) pd_9 rfl (by rw [hml]; rfl) (W := 1) (Nat.le_of_eq rfl) (by decide) (by decide) (by decide) (by decide) (hb hby at_53)
  obtain ⟨⟨b31, rfl, g_b31, szb31, Vc31, Ec31⟩, N31q, Kc31⟩ := hQ31
  have N31 := Fr.app N20 N31q
  have ne_b1_b31 : b1 ≠ b31 := Nat.ne_of_lt (Nat.lt_of_lt_of_le ta28 szb31)
  have ne_b12_b31 : b12 ≠ b31 := Nat.ne_of_lt (Nat.lt_of_lt_of_le ta29 szb31)
  have ne_el20_b31 : el20 ≠ b31 := Nat.ne_of_lt (Nat.lt_of_lt_of_le tael20 szb31)
  have fa32 := fa21.keep Kc31 all0
  have fa33 := fa22.keep Kc31
  have fa34 := fa26.keep Kc31 nin0
  have fa35 := fa27.keep Kc31
  have fa36 := c20_0.keep Kc31 nin0
  have fa37 := c20_1.keep Kc31 nin0
  have fa38 := c20_2.keep Kc31 nin0
  have fa39 := c20_3.keep Kc31 nin0
  have ta40 := Nat.lt_of_lt_of_le ta28 Kc31.1
  have ta41 := Nat.lt_of_lt_of_le ta29 Kc31.1
  have ta42 := Nat.lt_of_lt_of_le tael20 Kc31.1
  have za43 : n0 ≤ T31.heap.size := Nat.le_trans za30 Kc31.1
  have tab31 := Vc31.lt
  refine Gq.go (T31.setTop (mkF m 56 #[.val (.int x0), .val (.int x1), .val (.int x2), .val (.int x3), .val (.int x4), .val (.int x5), .val (.int (Int32.ofNat t)), .val (.int (Int32.ofNat u0)), .val (.int (Int32.ofNat u1)), .val (.int (Int32.ofNat u2)), .val (.ref b1), .unset, .unset, .unset, .unset, .unset, .unset, .unset, .unset, .unset] [(.ref b31), (.ref b1)])) (fun tt_ kk_ => st31 tt_ kk_) ?_
  obtain ⟨r44, T44, L44, X44, hQ44, st44⟩ := callV (pc := 56) (Ls := #[.val (.int x0), .val (.int x1), .val (.int x2), .val (.int x3), .val (.int x4), .val (.int x5), .val (.int (Int32.ofNat t)), .val (.int (Int32.ofNat u0)), .val (.int (Int32.ofNat u1)), .val (.int (Int32.ofNat u2)), .val (.ref b1), .unset, .unset, .unset, .unset, .unset, .unset, .unset, .unset, .unset]) X31 hx hZ hown rfl b1 [(.ref b31)] [] fa33 (hw _ (List.mem_of_getElem? (i := 31) rfl)) (hw _ (List.mem_of_getElem? (i := 32) rfl)) (hw _ (List.mem_of_getElem? (i := 34) rfl)) (hw _ (List.mem_of_getElem? (i := 33) rfl)) (hw _ (List.mem_of_getElem? (i := 2) rfl)) (hw _ (List.mem_of_getElem? (i := 35) rfl)) (by decide) (rm25b l Z a0 hw [] b1 b31 el20 [(.ref b12), .null, .null, .null, .null, .null, .null, .null, .null, .null] 1 ((0 : Int32) + (1 : Int32)) T31.heap n0 za43 fa33 g_b1 fa36 fa37 fa38 Ec31 fa39 (by decide) (Nat.le_of_ble_eq_true rfl) gel20 (Ne.symm ne_b1_el20)) pd_10 rfl (by rw [hml]; rfl) (W := 0) (Nat.le_of_eq rfl) (by decide) (by decide) (by decide) (by decide) (hb hby at_56)
  obtain ⟨rfl, N44q, Kc44, c44_0, c44_1, c44_2, c44_3⟩ := hQ44
  have N44 := Fr.app N31 N44q
  have fa45 := fa32.keep Kc44 (allS g_b1 (allS gel20 all0))
  have fa46 := fa33.keep Kc44
  have fa47 := fa34.keep Kc44 (ninS (Ne.symm ne_b1_b12) (ninS ne_b12_el20 nin0))
  have fa48 := fa35.keep Kc44
  have fa53 := Vc31.keep Kc44 (ninS (Ne.symm ne_b1_b31) (ninS (Ne.symm ne_el20_b31) nin0))
  have fa54 := Ec31.keep Kc44
  have ta55 := Nat.lt_of_lt_of_le ta40 Kc44.1
  have ta56 := Nat.lt_of_lt_of_le ta41 Kc44.1
  have ta57 := Nat.lt_of_lt_of_le ta42 Kc44.1
  have ta58 := Nat.lt_of_lt_of_le tab31 Kc44.1
  have za59 : n0 ≤ T44.heap.size := Nat.le_trans za43 Kc44.1
  have d44_2 : Fld Z T44.heap b1 "java/util/ArrayList" "size" "I" (.int (2 : Int32)) := c44_2
  have d44_3 : RA Z T44.heap el20 10 (gl [(.ref b12), (.ref b31), .null, .null, .null, .null, .null, .null, .null, .null] .null) := c44_3
  refine Gq.go (T44.setTop (mkF m 59 #[.val (.int x0), .val (.int x1), .val (.int x2), .val (.int x3), .val (.int x4), .val (.int x5), .val (.int (Int32.ofNat t)), .val (.int (Int32.ofNat u0)), .val (.int (Int32.ofNat u1)), .val (.int (Int32.ofNat u2)), .val (.ref b1), .unset, .unset, .unset, .unset, .unset, .unset, .unset, .unset, .unset] [(.int (1 : Int32))])) (fun tt_ kk_ => st44 tt_ kk_) ?_
  refine Gq.go (T44.setTop (mkF m 60 #[.val (.int x0), .val (.int x1), .val (.int x2), .val (.int x3), .val (.int x4), .val (.int x5), .val (.int (Int32.ofNat t)), .val (.int (Int32.ofNat u0)), .val (.int (Int32.ofNat u1)), .val (.int (Int32.ofNat u2)), .val (.ref b1), .unset, .unset, .unset, .unset, .unset, .unset, .unset, .unset, .unset] [])) (fun tt_ kk_ => XS.pop X44.here hx rfl (hb hby at_59) rfl rfl kk_) ?_
  refine Gq.go (T44.setTop (mkF m 62 #[.val (.int x0), .val (.int x1), .val (.int x2), .val (.int x3), .val (.int x4), .val (.int x5), .val (.int (Int32.ofNat t)), .val (.int (Int32.ofNat u0)), .val (.int (Int32.ofNat u1)), .val (.int (Int32.ofNat u2)), .val (.ref b1), .unset, .unset, .unset, .unset, .unset, .unset, .unset, .unset, .unset] [(.ref b1)])) (fun tt_ kk_ => XS.aload X44.here hx rfl (hb hby at_60) rfl rfl kk_) ?_
  refine Gq.go (T44.setTop (mkF m 64 #[.val (.int x0), .val (.int x1), .val (.int x2), .val (.int x3), .val (.int x4), .val (.int x5), .val (.int (Int32.ofNat t)), .val (.int (Int32.ofNat u0)), .val (.int (Int32.ofNat u1)), .val (.int (Int32.ofNat u2)), .val (.ref b1), .unset, .unset, .unset, .unset, .unset, .unset, .unset, .unset, .unset] [(.int (Int32.ofNat u2)), (.ref b1)])) (fun tt_ kk_ => XS.iload X44.here hx rfl (hb hby at_62) rfl kk_) ?_
  obtain ⟨r60, T60, L60, X60, hQ60, st60⟩ := callT (pc := 64) (Ls := #[.val (.int x0), .val (.int x1), .val (.int x2), .val (.int x3), .val (.int x4), .val (.int x5), .val (.int (Int32.ofNat t)), .val (.int (Int32.ofNat u0)), .val (.int (Int32.ofNat u1)), .val (.int (Int32.ofNat u2)), .val (.ref b1), .unset, .unset, .unset, .unset, .unset, .unset, .unset, .unset, .unset]) X44 hx hZ hown rfl [(.int (Int32.ofNat u2))] [(.ref b1)] (hw _ (List.mem_of_getElem? (i := 26) rfl)) (hw _ (List.mem_of_getElem? (i := 27) rfl)) (hw _ (List.mem_of_getElem? (i := 28) rfl)) (hw _ (List.mem_of_getElem? (i := 29) rfl)) (by decide) (rm5 l Z a0 hw [] u2 T44.heap n0 za59 hu2) pd_9 rfl (by rw [hml]; rfl) (W := 1) (Nat.le_of_eq rfl) (by decide) (by decide) (by decide) (by decide) (hb hby at_64)
  obtain ⟨⟨b60, rfl, g_b60, szb60, Vc60, Ec60⟩, N60q, Kc60⟩ := hQ60
  have N60 := Fr.app N44 N60q
  have ne_b1_b60 : b1 ≠ b60 := Nat.ne_of_lt (Nat.lt_of_lt_of_le ta55 szb60)
  have ne_b12_b60 : b12 ≠ b60 := Nat.ne_of_lt (Nat.lt_of_lt_of_le ta56 szb60)
  have ne_el20_b60 : el20 ≠ b60 := Nat.ne_of_lt (Nat.lt_of_lt_of_le ta57 szb60)
  have ne_b31_b60 : b31 ≠ b60 := Nat.ne_of_lt (Nat.lt_of_lt_of_le ta58 szb60)
  have fa61 := fa45.keep Kc60 all0
  have fa62 := fa46.keep Kc60
  have fa63 := fa47.keep Kc60 nin0
  have fa64 := fa48.keep Kc60
  have fa65 := fa53.keep Kc60 nin0
  have fa66 := fa54.keep Kc60
  have fa67 := c44_0.keep Kc60 nin0
  have fa68 := c44_1.keep Kc60 nin0
  have fa69 := d44_2.keep Kc60 nin0
  have fa70 := d44_3.keep Kc60 nin0
  have ta71 := Nat.lt_of_lt_of_le ta55 Kc60.1
  have ta72 := Nat.lt_of_lt_of_le ta56 Kc60.1
  have ta73 := Nat.lt_of_lt_of_le ta57 Kc60.1
  have ta74 := Nat.lt_of_lt_of_le ta58 Kc60.1
  have za75 : n0 ≤ T60.heap.size := Nat.le_trans za59 Kc60.1
  have tab60 := Vc60.lt
  refine Gq.go (T60.setTop (mkF m 67 #[.val (.int x0), .val (.int x1), .val (.int x2), .val (.int x3), .val (.int x4), .val (.int x5), .val (.int (Int32.ofNat t)), .val (.int (Int32.ofNat u0)), .val (.int (Int32.ofNat u1)), .val (.int (Int32.ofNat u2)), .val (.ref b1), .unset, .unset, .unset, .unset, .unset, .unset, .unset, .unset, .unset] [(.ref b60), (.ref b1)])) (fun tt_ kk_ => st60 tt_ kk_) ?_
  obtain ⟨r76, T76, L76, X76, hQ76, st76⟩ := callV (pc := 67) (Ls := #[.val (.int x0), .val (.int x1), .val (.int x2), .val (.int x3), .val (.int x4), .val (.int x5), .val (.int (Int32.ofNat t)), .val (.int (Int32.ofNat u0)), .val (.int (Int32.ofNat u1)), .val (.int (Int32.ofNat u2)), .val (.ref b1), .unset, .unset, .unset, .unset, .unset, .unset, .unset, .unset, .unset]) X60 hx hZ hown rfl b1 [(.ref b60)] [] fa62 (hw _ (List.mem_of_getElem? (i := 31) rfl)) (hw _ (List.mem_of_getElem? (i := 32) rfl)) (hw _ (List.mem_of_getElem? (i := 34) rfl)) (hw _ (List.mem_of_getElem? (i := 33) rfl)) (hw _ (List.mem_of_getElem? (i := 2) rfl)) (hw _ (List.mem_of_getElem? (i := 35) rfl)) (by decide) (rm25b l Z a0 hw [] b1 b60 el20 [(.ref b12), (.ref b31), .null, .null, .null, .null, .null, .null, .null, .null] 2 (((0 : Int32) + (1 : Int32)) + (1 : Int32)) T60.heap n0 za75 fa62 g_b1 fa67 fa68 fa69 Ec60 fa70 (by decide) (Nat.le_of_ble_eq_true rfl) gel20 (Ne.symm ne_b1_el20)) pd_10 rfl (by rw [hml]; rfl) (W := 0) (Nat.le_of_eq rfl) (by decide) (by decide) (by decide) (by decide) (hb hby at_67)
  obtain ⟨rfl, N76q, Kc76, c76_0, c76_1, c76_2, c76_3⟩ := hQ76
  have N76 := Fr.app N60 N76q
  have fa77 := fa61.keep Kc76 (allS g_b1 (allS gel20 all0))
  have fa78 := fa62.keep Kc76
  have fa79 := fa63.keep Kc76 (ninS (Ne.symm ne_b1_b12) (ninS ne_b12_el20 nin0))
  have fa80 := fa64.keep Kc76
  have fa81 := fa65.keep Kc76 (ninS (Ne.symm ne_b1_b31) (ninS (Ne.symm ne_el20_b31) nin0))
  have fa82 := fa66.keep Kc76
  have fa87 := Vc60.keep Kc76 (ninS (Ne.symm ne_b1_b60) (ninS (Ne.symm ne_el20_b60) nin0))
  have fa88 := Ec60.keep Kc76
  have ta89 := Nat.lt_of_lt_of_le ta71 Kc76.1
  have ta90 := Nat.lt_of_lt_of_le ta72 Kc76.1
  have ta91 := Nat.lt_of_lt_of_le ta73 Kc76.1
  have ta92 := Nat.lt_of_lt_of_le ta74 Kc76.1
  have ta93 := Nat.lt_of_lt_of_le tab60 Kc76.1
  have za94 : n0 ≤ T76.heap.size := Nat.le_trans za75 Kc76.1
  have d76_2 : Fld Z T76.heap b1 "java/util/ArrayList" "size" "I" (.int (3 : Int32)) := c76_2
  have d76_3 : RA Z T76.heap el20 10 (gl [(.ref b12), (.ref b31), (.ref b60), .null, .null, .null, .null, .null, .null, .null] .null) := c76_3
  refine Gq.go (T76.setTop (mkF m 70 #[.val (.int x0), .val (.int x1), .val (.int x2), .val (.int x3), .val (.int x4), .val (.int x5), .val (.int (Int32.ofNat t)), .val (.int (Int32.ofNat u0)), .val (.int (Int32.ofNat u1)), .val (.int (Int32.ofNat u2)), .val (.ref b1), .unset, .unset, .unset, .unset, .unset, .unset, .unset, .unset, .unset] [(.int (1 : Int32))])) (fun tt_ kk_ => st76 tt_ kk_) ?_
  refine Gq.go (T76.setTop (mkF m 71 #[.val (.int x0), .val (.int x1), .val (.int x2), .val (.int x3), .val (.int x4), .val (.int x5), .val (.int (Int32.ofNat t)), .val (.int (Int32.ofNat u0)), .val (.int (Int32.ofNat u1)), .val (.int (Int32.ofNat u2)), .val (.ref b1), .unset, .unset, .unset, .unset, .unset, .unset, .unset, .unset, .unset] [])) (fun tt_ kk_ => XS.pop X76.here hx rfl (hb hby at_70) rfl rfl kk_) ?_
  refine Gq.go (T76.setTop (mkF m 72 #[.val (.int x0), .val (.int x1), .val (.int x2), .val (.int x3), .val (.int x4), .val (.int x5), .val (.int (Int32.ofNat t)), .val (.int (Int32.ofNat u0)), .val (.int (Int32.ofNat u1)), .val (.int (Int32.ofNat u2)), .val (.ref b1), .unset, .unset, .unset, .unset, .unset, .unset, .unset, .unset, .unset] [(.int (3 : Int32))])) (fun tt_ kk_ => XS.iconst X76.here hx rfl (hb hby at_71) kk_) ?_
  obtain ⟨T95, h95, b95, X95, eh95, E95, aq95, V95, A95, st95⟩ := mkAE X76 hx hZ (hw _ (List.mem_of_getElem? (i := 30) rfl)) rfl (z := (3 : Int32)) (n := 3) (Ls := #[.val (.int x0), .val (.int x1), .val (.int x2), .val (.int x3), .val (.int x4), .val (.int x5), .val (.int (Int32.ofNat t)), .val (.int (Int32.ofNat u0)), .val (.int (Int32.ofNat u1)), .val (.int (Int32.ofNat u2)), .val (.ref b1), .unset, .unset, .unset, .unset, .unset, .unset, .unset, .unset, .unset]) (rest := []) (by decide) rfl (by decide) (by decide) (by decide) (ad := "[I") rfl (hb hby at_72)
  have g_b95 : n0 ≤ b95 := Nat.le_trans za94 (Nat.le_of_eq aq95.symm)
  have ne_b1_b95 : b1 ≠ b95 := Nat.ne_of_lt (Nat.lt_of_lt_of_le ta89 (Nat.le_of_eq aq95.symm))
  have ne_b12_b95 : b12 ≠ b95 := Nat.ne_of_lt (Nat.lt_of_lt_of_le ta90 (Nat.le_of_eq aq95.symm))
  have ne_el20_b95 : el20 ≠ b95 := Nat.ne_of_lt (Nat.lt_of_lt_of_le ta91 (Nat.le_of_eq aq95.symm))
  have ne_b31_b95 : b31 ≠ b95 := Nat.ne_of_lt (Nat.lt_of_lt_of_le ta92 (Nat.le_of_eq aq95.symm))
  have ne_b60_b95 : b60 ≠ b95 := Nat.ne_of_lt (Nat.lt_of_lt_of_le ta93 (Nat.le_of_eq aq95.symm))
  have fa96 := fa77.ext E95
  have fa97 := fa78.ext E95
  have fa98 := fa79.ext E95
  have fa99 := fa80.ext E95
  have fa100 := fa81.ext E95
  have fa101 := fa82.ext E95
  have fa102 := fa87.ext E95
  have fa103 := fa88.ext E95
  have fa104 := c76_0.ext E95
  have fa105 := c76_1.ext E95
  have fa106 := d76_2.ext E95
  have fa107 := d76_3.ext E95
  have ta108 := Nat.lt_of_lt_of_le ta89 E95.1
  have ta109 := Nat.lt_of_lt_of_le ta90 E95.1
  have ta110 := Nat.lt_of_lt_of_le ta91 E95.1
  have ta111 := Nat.lt_of_lt_of_le ta92 E95.1
  have ta112 := Nat.lt_of_lt_of_le ta93 E95.1
  have za113 : n0 ≤ h95.size := Nat.le_trans za94 E95.1
  have V95' : LA Z h95 b95 .int 3 (gl [(.int (0 : Int32)), (.int (0 : Int32)), (.int (0 : Int32))] (.int (0 : Int32))) := V95.list
  have ta95' := V95'.lt
  refine Gq.go (T95.setTop (mkF m 74 #[.val (.int x0), .val (.int x1), .val (.int x2), .val (.int x3), .val (.int x4), .val (.int x5), .val (.int (Int32.ofNat t)), .val (.int (Int32.ofNat u0)), .val (.int (Int32.ofNat u1)), .val (.int (Int32.ofNat u2)), .val (.ref b1), .unset, .unset, .unset, .unset, .unset, .unset, .unset, .unset, .unset] [(.ref b95)])) (fun tt_ kk_ => st95 tt_ kk_) ?_
  refine Gq.go (T95.setTop (mkF m 76 #[.val (.int x0), .val (.int x1), .val (.int x2), .val (.int x3), .val (.int x4), .val (.int x5), .val (.int (Int32.ofNat t)), .val (.int (Int32.ofNat u0)), .val (.int (Int32.ofNat u1)), .val (.int (Int32.ofNat u2)), .val (.ref b1), .val (.ref b95), .unset, .unset, .unset, .unset, .unset, .unset, .unset, .unset] [])) (fun tt_ kk_ => XS.astore X95.here hx rfl (hb hby at_74) rfl rfl (l' := #[.val (.int x0), .val (.int x1), .val (.int x2), .val (.int x3), .val (.int x4), .val (.int x5), .val (.int (Int32.ofNat t)), .val (.int (Int32.ofNat u0)), .val (.int (Int32.ofNat u1)), .val (.int (Int32.ofNat u2)), .val (.ref b1), .val (.ref b95), .unset, .unset, .unset, .unset, .unset, .unset, .unset, .unset]) rfl kk_) ?_
  refine Gq.go (T95.setTop (mkF m 78 #[.val (.int x0), .val (.int x1), .val (.int x2), .val (.int x3), .val (.int x4), .val (.int x5), .val (.int (Int32.ofNat t)), .val (.int (Int32.ofNat u0)), .val (.int (Int32.ofNat u1)), .val (.int (Int32.ofNat u2)), .val (.ref b1), .val (.ref b95), .unset, .unset, .unset, .unset, .unset, .unset, .unset, .unset] [(.ref b95)])) (fun tt_ kk_ => XS.aload X95.here hx rfl (hb hby at_76) rfl rfl kk_) ?_
  refine Gq.go (T95.setTop (mkF m 79 #[.val (.int x0), .val (.int x1), .val (.int x2), .val (.int x3), .val (.int x4), .val (.int x5), .val (.int (Int32.ofNat t)), .val (.int (Int32.ofNat u0)), .val (.int (Int32.ofNat u1)), .val (.int (Int32.ofNat u2)), .val (.ref b1), .val (.ref b95), .unset, .unset, .unset, .unset, .unset, .unset, .unset, .unset] [(.int (0 : Int32)), (.ref b95)])) (fun tt_ kk_ => XS.iconst X95.here hx rfl (hb hby at_78) kk_) ?_
  refine Gq.go (T95.setTop (mkF m 81 #[.val (.int x0), .val (.int x1), .val (.int x2), .val (.int x3), .val (.int x4), .val (.int x5), .val (.int (Int32.ofNat t)), .val (.int (Int32.ofNat u0)), .val (.int (Int32.ofNat u1)), .val (.int (Int32.ofNat u2)), .val (.ref b1), .val (.ref b95), .unset, .unset, .unset, .unset, .unset, .unset, .unset, .unset] [(.int x5), (.int (0 : Int32)), (.ref b95)])) (fun tt_ kk_ => XS.iload X95.here hx rfl (hb hby at_79) rfl kk_) ?_
  refine Gq.go (T95.setTop (mkF m 82 #[.val (.int x0), .val (.int x1), .val (.int x2), .val (.int x3), .val (.int x4), .val (.int x5), .val (.int (Int32.ofNat t)), .val (.int (Int32.ofNat u0)), .val (.int (Int32.ofNat u1)), .val (.int (Int32.ofNat u2)), .val (.ref b1), .val (.ref b95), .unset, .unset, .unset, .unset, .unset, .unset, .unset, .unset] [(.int (1 : Int32)), (.int x5), (.int (0 : Int32)), (.ref b95)])) (fun tt_ kk_ => XS.iconst X95.here hx rfl (hb hby at_81) kk_) ?_
  refine Gq.go (T95.setTop (mkF m 83 #[.val (.int x0), .val (.int x1), .val (.int x2), .val (.int x3), .val (.int x4), .val (.int x5), .val (.int (Int32.ofNat t)), .val (.int (Int32.ofNat u0)), .val (.int (Int32.ofNat u1)), .val (.int (Int32.ofNat u2)), .val (.ref b1), .val (.ref b95), .unset, .unset, .unset, .unset, .unset, .unset, .unset, .unset] [(.int (x5 >>> ((1 : Int32) &&& 31))), (.int (0 : Int32)), (.ref b95)])) (fun tt_ kk_ => XS.ishr X95.here hx rfl (hb hby at_82) rfl kk_) ?_
  obtain ⟨T114, h114, X114, eh114, W114, st114⟩ := stoI X95 hx hZ eh95 V95' (j := (0 : Int32)) (i := 0) (x := (x5 >>> ((1 : Int32) &&& 31))) (Ls := #[.val (.int x0), .val (.int x1), .val (.int x2), .val (.int x3), .val (.int x4), .val (.int x5), .val (.int (Int32.ofNat t)), .val (.int (Int32.ofNat u0)), .val (.int (Int32.ofNat u1)), .val (.int (Int32.ofNat u2)), .val (.ref b1), .val (.ref b95), .unset, .unset, .unset, .unset, .unset, .unset, .unset, .unset]) (rest := []) (by decide) rfl (by decide) (hb hby at_83)
  have fa115 := fa96.wr W114 g_b95
  have fa116 := fa97.wr W114
  have fa117 := fa98.other W114 ne_b12_b95
  have fa118 := fa99.wr W114
  have fa119 := fa100.other W114 ne_b31_b95
  have fa120 := fa101.wr W114
  have fa121 := fa102.other W114 ne_b60_b95
  have fa122 := fa103.wr W114
  have fa123 := fa104.other W114 (Or.inl ne_b1_b95)
  have fa124 := fa105.other W114 (Or.inl ne_b1_b95)
  have fa125 := fa106.other W114 (Or.inl ne_b1_b95)
  have fa126 := fa107.other W114 ne_el20_b95
  have fa127 := A95.wr W114
  have ta128 := Nat.lt_of_lt_of_le ta108 (Nat.le_of_eq W114.size.symm)
  have ta129 := Nat.lt_of_lt_of_le ta109 (Nat.le_of_eq W114.size.symm)
  have ta130 := Nat.lt_of_lt_of_le ta110 (Nat.le_of_eq W114.size.symm)
  have ta131 := Nat.lt_of_lt_of_le ta111 (Nat.le_of_eq W114.size.symm)
  have ta132 := Nat.lt_of_lt_of_le ta112 (Nat.le_of_eq W114.size.symm)
  have ta133 := Nat.lt_of_lt_of_le ta95' (Nat.le_of_eq W114.size.symm)
  have za134 : n0 ≤ h114.size := Nat.le_trans za113 (Nat.le_of_eq W114.size.symm)
  have V114 : LA Z h114 b95 .int 3 (gl [(.int (x5 >>> ((1 : Int32) &&& 31))), (.int (0 : Int32)), (.int (0 : Int32))] (.int (0 : Int32))) := V95'.setL W114 (Nat.le_of_ble_eq_true rfl)
  have N114 := Fr.snoc X114 N76 g_b95
  refine Gq.go (T114.setTop (mkF m 84 #[.val (.int x0), .val (.int x1), .val (.int x2), .val (.int x3), .val (.int x4), .val (.int x5), .val (.int (Int32.ofNat t)), .val (.int (Int32.ofNat u0)), .val (.int (Int32.ofNat u1)), .val (.int (Int32.ofNat u2)), .val (.ref b1), .val (.ref b95), .unset, .unset, .unset, .unset, .unset, .unset, .unset, .unset] [])) (fun tt_ kk_ => st114 tt_ kk_) ?_
  refine Gq.go (T114.setTop (mkF m 86 #[.val (.int x0), .val (.int x1), .val (.int x2), .val (.int x3), .val (.int x4), .val (.int x5), .val (.int (Int32.ofNat t)), .val (.int (Int32.ofNat u0)), .val (.int (Int32.ofNat u1)), .val (.int (Int32.ofNat u2)), .val (.ref b1), .val (.ref b95), .unset, .unset, .unset, .unset, .unset, .unset, .unset, .unset] [(.ref b95)])) (fun tt_ kk_ => XS.aload X114.here hx rfl (hb hby at_84) rfl rfl kk_) ?_
  refine Gq.go (T114.setTop (mkF m 87 #[.val (.int x0), .val (.int x1), .val (.int x2), .val (.int x3), .val (.int x4), .val (.int x5), .val (.int (Int32.ofNat t)), .val (.int (Int32.ofNat u0)), .val (.int (Int32.ofNat u1)), .val (.int (Int32.ofNat u2)), .val (.ref b1), .val (.ref b95), .unset, .unset, .unset, .unset, .unset, .unset, .unset, .unset] [(.int (1 : Int32)), (.ref b95)])) (fun tt_ kk_ => XS.iconst X114.here hx rfl (hb hby at_86) kk_) ?_
  refine Gq.go (T114.setTop (mkF m 89 #[.val (.int x0), .val (.int x1), .val (.int x2), .val (.int x3), .val (.int x4), .val (.int x5), .val (.int (Int32.ofNat t)), .val (.int (Int32.ofNat u0)), .val (.int (Int32.ofNat u1)), .val (.int (Int32.ofNat u2)), .val (.ref b1), .val (.ref b95), .unset, .unset, .unset, .unset, .unset, .unset, .unset, .unset] [(.int x5), (.int (1 : Int32)), (.ref b95)])) (fun tt_ kk_ => XS.iload X114.here hx rfl (hb hby at_87) rfl kk_) ?_
  refine Gq.go (T114.setTop (mkF m 90 #[.val (.int x0), .val (.int x1), .val (.int x2), .val (.int x3), .val (.int x4), .val (.int x5), .val (.int (Int32.ofNat t)), .val (.int (Int32.ofNat u0)), .val (.int (Int32.ofNat u1)), .val (.int (Int32.ofNat u2)), .val (.ref b1), .val (.ref b95), .unset, .unset, .unset, .unset, .unset, .unset, .unset, .unset] [(.int (2 : Int32)), (.int x5), (.int (1 : Int32)), (.ref b95)])) (fun tt_ kk_ => XS.iconst X114.here hx rfl (hb hby at_89) kk_) ?_
  refine Gq.go (T114.setTop (mkF m 91 #[.val (.int x0), .val (.int x1), .val (.int x2), .val (.int x3), .val (.int x4), .val (.int x5), .val (.int (Int32.ofNat t)), .val (.int (Int32.ofNat u0)), .val (.int (Int32.ofNat u1)), .val (.int (Int32.ofNat u2)), .val (.ref b1), .val (.ref b95), .unset, .unset, .unset, .unset, .unset, .unset, .unset, .unset] [(.int (x5 >>> ((2 : Int32) &&& 31))), (.int (1 : Int32)), (.ref b95)])) (fun tt_ kk_ => XS.ishr X114.here hx rfl (hb hby at_90) rfl kk_) ?_
  obtain ⟨T135, h135, X135, eh135, W135, st135⟩ := stoI X114 hx hZ eh114 V114 (j := (1 : Int32)) (i := 1) (x := (x5 >>> ((2 : Int32) &&& 31))) (Ls := #[.val (.int x0), .val (.int x1), .val (.int x2), .val (.int x3), .val (.int x4), .val (.int x5), .val (.int (Int32.ofNat t)), .val (.int (Int32.ofNat u0)), .val (.int (Int32.ofNat u1)), .val (.int (Int32.ofNat u2)), .val (.ref b1), .val (.ref b95), .unset, .unset, .unset, .unset, .unset, .unset, .unset, .unset]) (rest := []) (by decide) rfl (by decide) (hb hby at_91)
  have fa136 := fa115.wr W135 g_b95
  have fa137 := fa116.wr W135
  have fa138 := fa117.other W135 ne_b12_b95
  have fa139 := fa118.wr W135
  have fa140 := fa119.other W135 ne_b31_b95
  have fa141 := fa120.wr W135
  have fa142 := fa121.other W135 ne_b60_b95
  have fa143 := fa122.wr W135
  have fa144 := fa123.other W135 (Or.inl ne_b1_b95)
  have fa145 := fa124.other W135 (Or.inl ne_b1_b95)
  have fa146 := fa125.other W135 (Or.inl ne_b1_b95)
  have fa147 := fa126.other W135 ne_el20_b95
  have fa148 := fa127.wr W135
  have ta149 := Nat.lt_of_lt_of_le ta128 (Nat.le_of_eq W135.size.symm)
  have ta150 := Nat.lt_of_lt_of_le ta129 (Nat.le_of_eq W135.size.symm)
  have ta151 := Nat.lt_of_lt_of_le ta130 (Nat.le_of_eq W135.size.symm)
  have ta152 := Nat.lt_of_lt_of_le ta131 (Nat.le_of_eq W135.size.symm)
  have ta153 := Nat.lt_of_lt_of_le ta132 (Nat.le_of_eq W135.size.symm)
  have ta154 := Nat.lt_of_lt_of_le ta133 (Nat.le_of_eq W135.size.symm)
  have za155 : n0 ≤ h135.size := Nat.le_trans za134 (Nat.le_of_eq W135.size.symm)
  have V135 : LA Z h135 b95 .int 3 (gl [(.int (x5 >>> ((1 : Int32) &&& 31))), (.int (x5 >>> ((2 : Int32) &&& 31))), (.int (0 : Int32))] (.int (0 : Int32))) := V114.setL W135 (Nat.le_of_ble_eq_true rfl)
  have N135 := Fr.snoc X135 N114 g_b95
  refine Gq.go (T135.setTop (mkF m 92 #[.val (.int x0), .val (.int x1), .val (.int x2), .val (.int x3), .val (.int x4), .val (.int x5), .val (.int (Int32.ofNat t)), .val (.int (Int32.ofNat u0)), .val (.int (Int32.ofNat u1)), .val (.int (Int32.ofNat u2)), .val (.ref b1), .val (.ref b95), .unset, .unset, .unset, .unset, .unset, .unset, .unset, .unset] [])) (fun tt_ kk_ => st135 tt_ kk_) ?_
  refine Gq.go (T135.setTop (mkF m 94 #[.val (.int x0), .val (.int x1), .val (.int x2), .val (.int x3), .val (.int x4), .val (.int x5), .val (.int (Int32.ofNat t)), .val (.int (Int32.ofNat u0)), .val (.int (Int32.ofNat u1)), .val (.int (Int32.ofNat u2)), .val (.ref b1), .val (.ref b95), .unset, .unset, .unset, .unset, .unset, .unset, .unset, .unset] [(.ref b95)])) (fun tt_ kk_ => XS.aload X135.here hx rfl (hb hby at_92) rfl rfl kk_) ?_
  refine Gq.go (T135.setTop (mkF m 95 #[.val (.int x0), .val (.int x1), .val (.int x2), .val (.int x3), .val (.int x4), .val (.int x5), .val (.int (Int32.ofNat t)), .val (.int (Int32.ofNat u0)), .val (.int (Int32.ofNat u1)), .val (.int (Int32.ofNat u2)), .val (.ref b1), .val (.ref b95), .unset, .unset, .unset, .unset, .unset, .unset, .unset, .unset] [(.int (2 : Int32)), (.ref b95)])) (fun tt_ kk_ => XS.iconst X135.here hx rfl (hb hby at_94) kk_) ?_
  refine Gq.go (T135.setTop (mkF m 97 #[.val (.int x0), .val (.int x1), .val (.int x2), .val (.int x3), .val (.int x4), .val (.int x5), .val (.int (Int32.ofNat t)), .val (.int (Int32.ofNat u0)), .val (.int (Int32.ofNat u1)), .val (.int (Int32.ofNat u2)), .val (.ref b1), .val (.ref b95), .unset, .unset, .unset, .unset, .unset, .unset, .unset, .unset] [(.int x5), (.int (2 : Int32)), (.ref b95)])) (fun tt_ kk_ => XS.iload X135.here hx rfl (hb hby at_95) rfl kk_) ?_
  refine Gq.go (T135.setTop (mkF m 98 #[.val (.int x0), .val (.int x1), .val (.int x2), .val (.int x3), .val (.int x4), .val (.int x5), .val (.int (Int32.ofNat t)), .val (.int (Int32.ofNat u0)), .val (.int (Int32.ofNat u1)), .val (.int (Int32.ofNat u2)), .val (.ref b1), .val (.ref b95), .unset, .unset, .unset, .unset, .unset, .unset, .unset, .unset] [(.int (3 : Int32)), (.int x5), (.int (2 : Int32)), (.ref b95)])) (fun tt_ kk_ => XS.iconst X135.here hx rfl (hb hby at_97) kk_) ?_
  refine Gq.go (T135.setTop (mkF m 99 #[.val (.int x0), .val (.int x1), .val (.int x2), .val (.int x3), .val (.int x4), .val (.int x5), .val (.int (Int32.ofNat t)), .val (.int (Int32.ofNat u0)), .val (.int (Int32.ofNat u1)), .val (.int (Int32.ofNat u2)), .val (.ref b1), .val (.ref b95), .unset, .unset, .unset, .unset, .unset, .unset, .unset, .unset] [(.int (x5 >>> ((3 : Int32) &&& 31))), (.int (2 : Int32)), (.ref b95)])) (fun tt_ kk_ => XS.ishr X135.here hx rfl (hb hby at_98) rfl kk_) ?_
  obtain ⟨T156, h156, X156, eh156, W156, st156⟩ := stoI X135 hx hZ eh135 V135 (j := (2 : Int32)) (i := 2) (x := (x5 >>> ((3 : Int32) &&& 31))) (Ls := #[.val (.int x0), .val (.int x1), .val (.int x2), .val (.int x3), .val (.int x4), .val (.int x5), .val (.int (Int32.ofNat t)), .val (.int (Int32.ofNat u0)), .val (.int (Int32.ofNat u1)), .val (.int (Int32.ofNat u2)), .val (.ref b1), .val (.ref b95), .unset, .unset, .unset, .unset, .unset, .unset, .unset, .unset]) (rest := []) (by decide) rfl (by decide) (hb hby at_99)
  have fa157 := fa136.wr W156 g_b95
  have fa158 := fa137.wr W156
  have fa159 := fa138.other W156 ne_b12_b95
  have fa160 := fa139.wr W156
  have fa161 := fa140.other W156 ne_b31_b95
  have fa162 := fa141.wr W156
  have fa163 := fa142.other W156 ne_b60_b95
  have fa164 := fa143.wr W156
  have fa165 := fa144.other W156 (Or.inl ne_b1_b95)
  have fa166 := fa145.other W156 (Or.inl ne_b1_b95)
  have fa167 := fa146.other W156 (Or.inl ne_b1_b95)
  have fa168 := fa147.other W156 ne_el20_b95
  have fa169 := fa148.wr W156
  have ta170 := Nat.lt_of_lt_of_le ta149 (Nat.le_of_eq W156.size.symm)
  have ta171 := Nat.lt_of_lt_of_le ta150 (Nat.le_of_eq W156.size.symm)
  have ta172 := Nat.lt_of_lt_of_le ta151 (Nat.le_of_eq W156.size.symm)
  have ta173 := Nat.lt_of_lt_of_le ta152 (Nat.le_of_eq W156.size.symm)
  have ta174 := Nat.lt_of_lt_of_le ta153 (Nat.le_of_eq W156.size.symm)
  have ta175 := Nat.lt_of_lt_of_le ta154 (Nat.le_of_eq W156.size.symm)
  have za176 : n0 ≤ h156.size := Nat.le_trans za155 (Nat.le_of_eq W156.size.symm)
  have V156 : LA Z h156 b95 .int 3 (gl [(.int (x5 >>> ((1 : Int32) &&& 31))), (.int (x5 >>> ((2 : Int32) &&& 31))), (.int (x5 >>> ((3 : Int32) &&& 31)))] (.int (0 : Int32))) := V135.setL W156 (Nat.le_of_ble_eq_true rfl)
  have N156 := Fr.snoc X156 N135 g_b95
  refine Gq.go (T156.setTop (mkF m 100 #[.val (.int x0), .val (.int x1), .val (.int x2), .val (.int x3), .val (.int x4), .val (.int x5), .val (.int (Int32.ofNat t)), .val (.int (Int32.ofNat u0)), .val (.int (Int32.ofNat u1)), .val (.int (Int32.ofNat u2)), .val (.ref b1), .val (.ref b95), .unset, .unset, .unset, .unset, .unset, .unset, .unset, .unset] [])) (fun tt_ kk_ => st156 tt_ kk_) ?_
  obtain ⟨T177, h177, X177, eh177, E177, A177, D177, -, st177⟩ := newO X156 hx hZ hown (hw _ (List.mem_of_getElem? (i := 62) rfl)) (hw _ (List.mem_of_getElem? (i := 63) rfl)) (hw _ (List.mem_of_getElem? (i := 64) rfl)) eh156 (g := (mkF m 100 #[.val (.int x0), .val (.int x1), .val (.int x2), .val (.int x3), .val (.int x4), .val (.int x5), .val (.int (Int32.ofNat t)), .val (.int (Int32.ofNat u0)), .val (.int (Int32.ofNat u1)), .val (.int (Int32.ofNat u2)), .val (.ref b1), .val (.ref b95), .unset, .unset, .unset, .unset, .unset, .unset, .unset, .unset] [])) rfl (hb hby at_100) (by decide) (by decide)
  obtain ⟨b177, aq177⟩ : ∃ z, z = h156.size := ⟨_, rfl⟩
  rw [← aq177] at A177 D177 st177
  have g_b177 : n0 ≤ b177 := Nat.le_trans za176 (Nat.le_of_eq aq177.symm)
  have ne_b1_b177 : b1 ≠ b177 := Nat.ne_of_lt (Nat.lt_of_lt_of_le ta170 (Nat.le_of_eq aq177.symm))
  have ne_b12_b177 : b12 ≠ b177 := Nat.ne_of_lt (Nat.lt_of_lt_of_le ta171 (Nat.le_of_eq aq177.symm))
  have ne_el20_b177 : el20 ≠ b177 := Nat.ne_of_lt (Nat.lt_of_lt_of_le ta172 (Nat.le_of_eq aq177.symm))
  have ne_b31_b177 : b31 ≠ b177 := Nat.ne_of_lt (Nat.lt_of_lt_of_le ta173 (Nat.le_of_eq aq177.symm))
  have ne_b60_b177 : b60 ≠ b177 := Nat.ne_of_lt (Nat.lt_of_lt_of_le ta174 (Nat.le_of_eq aq177.symm))
  have ne_b95_b177 : b95 ≠ b177 := Nat.ne_of_lt (Nat.lt_of_lt_of_le ta175 (Nat.le_of_eq aq177.symm))
  have fa178 := fa157.ext E177
  have fa179 := fa158.ext E177
  have fa180 := fa159.ext E177
  have fa181 := fa160.ext E177
  have fa182 := fa161.ext E177
  have fa183 := fa162.ext E177
  have fa184 := fa163.ext E177
  have fa185 := fa164.ext E177
  have fa186 := fa165.ext E177
  have fa187 := fa166.ext E177
  have fa188 := fa167.ext E177
  have fa189 := fa168.ext E177
  have fa190 := fa169.ext E177
  have fa191 := V156.ext E177
  have ta192 := Nat.lt_of_lt_of_le ta170 E177.1
  have ta193 := Nat.lt_of_lt_of_le ta171 E177.1
  have ta194 := Nat.lt_of_lt_of_le ta172 E177.1
  have ta195 := Nat.lt_of_lt_of_le ta173 E177.1
  have ta196 := Nat.lt_of_lt_of_le ta174 E177.1
  have ta197 := Nat.lt_of_lt_of_le ta175 E177.1
  have za198 : n0 ≤ h177.size := Nat.le_trans za176 E177.1
  have F177_selections : Fld Z h177 b177 "com/example/arbor2/arbor2/analysis/Tracks" "selections" "[I" .null := D177 (Or.inr (hw _ (List.mem_of_getElem? (i := 70) rfl))) (ty := (.array .int)) (by decide)
  have F177_firstSlots : Fld Z h177 b177 "com/example/arbor2/arbor2/analysis/Tracks" "firstSlots" "[I" .null := D177 (Or.inr (hw _ (List.mem_of_getElem? (i := 72) rfl))) (ty := (.array .int)) (by decide)
  have F177_slotTracks : Fld Z h177 b177 "com/example/arbor2/arbor2/analysis/Tracks" "slotTracks" "[I" .null := D177 (Or.inr (hw _ (List.mem_of_getElem? (i := 98) rfl))) (ty := (.array .int)) (by decide)
  have F177_begins : Fld Z h177 b177 "com/example/arbor2/arbor2/analysis/Tracks" "begins" "[I" .null := D177 (Or.inr (hw _ (List.mem_of_getElem? (i := 100) rfl))) (ty := (.array .int)) (by decide)
  have F177_sink : Fld Z h177 b177 "com/example/arbor2/arbor2/analysis/Tracks" "sink" "I" (.int (0 : Int32)) := D177 (Or.inr (hw _ (List.mem_of_getElem? (i := 113) rfl))) (ty := .int) (by decide)
  have F177_sharesPairs : Fld Z h177 b177 "com/example/arbor2/arbor2/analysis/Tracks" "sharesPairs" "Z" (.int (0 : Int32)) := D177 (Or.inr (hw _ (List.mem_of_getElem? (i := 115) rfl))) (ty := .boolean) (by decide)
  have ta177' := A177.lt
  refine Gq.go (T177.setTop (mkF m 103 #[.val (.int x0), .val (.int x1), .val (.int x2), .val (.int x3), .val (.int x4), .val (.int x5), .val (.int (Int32.ofNat t)), .val (.int (Int32.ofNat u0)), .val (.int (Int32.ofNat u1)), .val (.int (Int32.ofNat u2)), .val (.ref b1), .val (.ref b95), .unset, .unset, .unset, .unset, .unset, .unset, .unset, .unset] [(.ref b177)])) (fun tt_ kk_ => st177 tt_ kk_) ?_
  refine Gq.go (T177.setTop (mkF m 104 #[.val (.int x0), .val (.int x1), .val (.int x2), .val (.int x3), .val (.int x4), .val (.int x5), .val (.int (Int32.ofNat t)), .val (.int (Int32.ofNat u0)), .val (.int (Int32.ofNat u1)), .val (.int (Int32.ofNat u2)), .val (.ref b1), .val (.ref b95), .unset, .unset, .unset, .unset, .unset, .unset, .unset, .unset] [(.ref b177), (.ref b177)])) (fun tt_ kk_ => XS.dup X177.here hx rfl (hb hby at_103) rfl rfl kk_) ?_
  refine Gq.go (T177.setTop (mkF m 106 #[.val (.int x0), .val (.int x1), .val (.int x2), .val (.int x3), .val (.int x4), .val (.int x5), .val (.int (Int32.ofNat t)), .val (.int (Int32.ofNat u0)), .val (.int (Int32.ofNat u1)), .val (.int (Int32.ofNat u2)), .val (.ref b1), .val (.ref b95), .unset, .unset, .unset, .unset, .unset, .unset, .unset, .unset] [(.ref b95), (.ref b177), (.ref b177)])) (fun tt_ kk_ => XS.aload X177.here hx rfl (hb hby at_104) rfl rfl kk_) ?_
  refine Gq.go (T177.setTop (mkF m 108 #[.val (.int x0), .val (.int x1), .val (.int x2), .val (.int x3), .val (.int x4), .val (.int x5), .val (.int (Int32.ofNat t)), .val (.int (Int32.ofNat u0)), .val (.int (Int32.ofNat u1)), .val (.int (Int32.ofNat u2)), .val (.ref b1), .val (.ref b95), .unset, .unset, .unset, .unset, .unset, .unset, .unset, .unset] [(.ref b1), (.ref b95), (.ref b177), (.ref b177)])) (fun tt_ kk_ => XS.aload X177.here hx rfl (hb hby at_106) rfl rfl kk_) ?_
  refine Gq.go (T177.setTop (mkF m 109 #[.val (.int x0), .val (.int x1), .val (.int x2), .val (.int x3), .val (.int x4), .val (.int x5), .val (.int (Int32.ofNat t)), .val (.int (Int32.ofNat u0)), .val (.int (Int32.ofNat u1)), .val (.int (Int32.ofNat u2)), .val (.ref b1), .val (.ref b95), .unset, .unset, .unset, .unset, .unset, .unset, .unset, .unset] [(.int (0 : Int32)), (.ref b1), (.ref b95), (.ref b177), (.ref b177)])) (fun tt_ kk_ => XS.iconst X177.here hx rfl (hb hby at_108) kk_) ?_
  refine Gq.go (T177.setTop (mkF m 111 #[.val (.int x0), .val (.int x1), .val (.int x2), .val (.int x3), .val (.int x4), .val (.int x5), .val (.int (Int32.ofNat t)), .val (.int (Int32.ofNat u0)), .val (.int (Int32.ofNat u1)), .val (.int (Int32.ofNat u2)), .val (.ref b1), .val (.ref b95), .unset, .unset, .unset, .unset, .unset, .unset, .unset, .unset] [(.int x5), (.int (0 : Int32)), (.ref b1), (.ref b95), (.ref b177), (.ref b177)])) (fun tt_ kk_ => XS.iload X177.here hx rfl (hb hby at_109) rfl kk_) ?_
  refine Gq.go (T177.setTop (mkF m 112 #[.val (.int x0), .val (.int x1), .val (.int x2), .val (.int x3), .val (.int x4), .val (.int x5), .val (.int (Int32.ofNat t)), .val (.int (Int32.ofNat u0)), .val (.int (Int32.ofNat u1)), .val (.int (Int32.ofNat u2)), .val (.ref b1), .val (.ref b95), .unset, .unset, .unset, .unset, .unset, .unset, .unset, .unset] [(.int (1 : Int32)), (.int x5), (.int (0 : Int32)), (.ref b1), (.ref b95), (.ref b177), (.ref b177)])) (fun tt_ kk_ => XS.iconst X177.here hx rfl (hb hby at_111) kk_) ?_
  refine Gq.go (T177.setTop (mkF m 113 #[.val (.int x0), .val (.int x1), .val (.int x2), .val (.int x3), .val (.int x4), .val (.int x5), .val (.int (Int32.ofNat t)), .val (.int (Int32.ofNat u0)), .val (.int (Int32.ofNat u1)), .val (.int (Int32.ofNat u2)), .val (.ref b1), .val (.ref b95), .unset, .unset, .unset, .unset, .unset, .unset, .unset, .unset] [(.int (x5 &&& (1 : Int32))), (.int (0 : Int32)), (.ref b1), (.ref b95), (.ref b177), (.ref b177)])) (fun tt_ kk_ => XS.iand X177.here hx rfl (hb hby at_112) rfl kk_) ?_
  suffices K121 : ∀ p4 : Int32, Gq p.tables e below s (Q0 Z x0 x1 x2 x3 x4 x5 d0 fd h0 n0) room_1.cells room_1.slots (T177.setTop (mkF m 121 #[.val (.int x0), .val (.int x1), .val (.int x2), .val (.int x3), .val (.int x4), .val (.int x5), .val (.int (Int32.ofNat t)), .val (.int (Int32.ofNat u0)), .val (.int (Int32.ofNat u1)), .val (.int (Int32.ofNat u2)), .val (.ref b1), .val (.ref b95), .unset, .unset, .unset, .unset, .unset, .unset, .unset, .unset] [(.int p4), (.int (0 : Int32)), (.ref b1), (.ref b95), (.ref b177), (.ref b177)])) by
    by_cases hfl : (x5 &&& (1 : Int32)) = (0 : Int32)
    · refine Gq.go (T177.setTop (mkF m 120 #[.val (.int x0), .val (.int x1), .val (.int x2), .val (.int x3), .val (.int x4), .val (.int x5), .val (.int (Int32.ofNat t)), .val (.int (Int32.ofNat u0)), .val (.int (Int32.ofNat u1)), .val (.int (Int32.ofNat u2)), .val (.ref b1), .val (.ref b95), .unset, .unset, .unset, .unset, .unset, .unset, .unset, .unset] [(.int (0 : Int32)), (.ref b1), (.ref b95), (.ref b177), (.ref b177)])) (fun tt_ kk_ => XS.ifYes X177.here hx rfl (pc0 := 113) (pc' := 120) rfl (hb hby at_113) rfl ((if0 _ _).trans (teq hfl).1) (by decide) (by decide) kk_) ?_
      refine Gq.go (T177.setTop (mkF m 121 #[.val (.int x0), .val (.int x1), .val (.int x2), .val (.int x3), .val (.int x4), .val (.int x5), .val (.int (Int32.ofNat t)), .val (.int (Int32.ofNat u0)), .val (.int (Int32.ofNat u1)), .val (.int (Int32.ofNat u2)), .val (.ref b1), .val (.ref b95), .unset, .unset, .unset, .unset, .unset, .unset, .unset, .unset] [(.int (0 : Int32)), (.int (0 : Int32)), (.ref b1), (.ref b95), (.ref b177), (.ref b177)])) (fun tt_ kk_ => XS.iconst X177.here hx rfl (hb hby at_120) kk_) ?_
      exact K121 _
    · refine Gq.go (T177.setTop (mkF m 116 #[.val (.int x0), .val (.int x1), .val (.int x2), .val (.int x3), .val (.int x4), .val (.int x5), .val (.int (Int32.ofNat t)), .val (.int (Int32.ofNat u0)), .val (.int (Int32.ofNat u1)), .val (.int (Int32.ofNat u2)), .val (.ref b1), .val (.ref b95), .unset, .unset, .unset, .unset, .unset, .unset, .unset, .unset] [(.int (0 : Int32)), (.ref b1), (.ref b95), (.ref b177), (.ref b177)])) (fun tt_ kk_ => XS.ifNo X177.here hx rfl (hb hby at_113) rfl ((if0 _ _).trans (feq hfl).1) kk_) ?_
      refine Gq.go (T177.setTop (mkF m 117 #[.val (.int x0), .val (.int x1), .val (.int x2), .val (.int x3), .val (.int x4), .val (.int x5), .val (.int (Int32.ofNat t)), .val (.int (Int32.ofNat u0)), .val (.int (Int32.ofNat u1)), .val (.int (Int32.ofNat u2)), .val (.ref b1), .val (.ref b95), .unset, .unset, .unset, .unset, .unset, .unset, .unset, .unset] [(.int (1 : Int32)), (.int (0 : Int32)), (.ref b1), (.ref b95), (.ref b177), (.ref b177)])) (fun tt_ kk_ => XS.iconst X177.here hx rfl (hb hby at_116) kk_) ?_
      refine Gq.go (T177.setTop (mkF m 121 #[.val (.int x0), .val (.int x1), .val (.int x2), .val (.int x3), .val (.int x4), .val (.int x5), .val (.int (Int32.ofNat t)), .val (.int (Int32.ofNat u0)), .val (.int (Int32.ofNat u1)), .val (.int (Int32.ofNat u2)), .val (.ref b1), .val (.ref b95), .unset, .unset, .unset, .unset, .unset, .unset, .unset, .unset] [(.int (1 : Int32)), (.int (0 : Int32)), (.ref b1), (.ref b95), (.ref b177), (.ref b177)])) (fun tt_ kk_ => XS.goto X177.here hx rfl (pc0 := 117) (pc' := 121) rfl (hb hby at_117) (by decide) (by decide) kk_) ?_
      exact K121 _
  intro p4
  obtain ⟨r199, T199, L199, X199, hQ199, st199⟩ := callI (pc := 121) (Ls := #[.val (.int x0), .val (.int x1), .val (.int x2), .val (.int x3), .val (.int x4), .val (.int x5), .val (.int (Int32.ofNat t)), .val (.int (Int32.ofNat u0)), .val (.int (Int32.ofNat u1)), .val (.int (Int32.ofNat u2)), .val (.ref b1), .val (.ref b95), .unset, .unset, .unset, .unset, .unset, .unset, .unset, .unset]) X177 hx hZ hown eh177 b177 [(.ref b95), (.ref b1), (.int (0 : Int32)), (.int p4)] [(.ref b177)] (hw _ (List.mem_of_getElem? (i := 65) rfl)) (hw _ (List.mem_of_getElem? (i := 66) rfl)) (hw _ (List.mem_of_getElem? (i := 64) rfl)) (hw _ (List.mem_of_getElem? (i := 67) rfl)) rfl (by decide) (rm11 l Z a0 hw [] b177 b95 b1 (0 : Int32) p4 (gl [(.int (x5 >>> ((1 : Int32) &&& 31))), (.int (x5 >>> ((2 : Int32) &&& 31))), (.int (x5 >>> ((3 : Int32) &&& 31)))] (.int (0 : Int32))) el20 b12 b31 b60 u0 u1 u2 h177 n0 za198 A177 g_b177 F177_selections F177_firstSlots F177_slotTracks F177_begins F177_sink F177_sharesPairs fa191 fa179 fa187 fa188 fa189 fa181 fa180 hu0 fa183 fa182 hu1 fa185 fa184 hu2 ne_b95_b177 ne_b1_b177 ne_el20_b177 ne_b12_b177 ne_b31_b177 ne_b60_b177) pd_11 rfl (by rw [hml]; rfl) (W := 1) (Nat.le_of_eq rfl) (by decide) (by decide) (by decide) (by decide) (hb hby at_121)
  obtain ⟨rfl, N199q, Kc199, fs199, g_fs199, szf199, c199_0, c199_1⟩ := hQ199
  have N199 := Fr.app N156 N199q
  have fa200 := fa178.keep Kc199 (allS g_b177 all0)
  have fa201 := fa179.keep Kc199
  have fa202 := fa180.keep Kc199 (ninS ne_b12_b177 nin0)
  have fa203 := fa181.keep Kc199
  have fa204 := fa182.keep Kc199 (ninS ne_b31_b177 nin0)
  have fa205 := fa183.keep Kc199
  have fa206 := fa184.keep Kc199 (ninS ne_b60_b177 nin0)
  have fa207 := fa185.keep Kc199
  have fa208 := fa186.keep Kc199 (ninS ne_b1_b177 nin0)
  have fa209 := fa187.keep Kc199 (ninS ne_b1_b177 nin0)
  have fa210 := fa188.keep Kc199 (ninS ne_b1_b177 nin0)
  have fa211 := fa189.keep Kc199 (ninS ne_el20_b177 nin0)
  have fa212 := fa190.keep Kc199
  have fa213 := fa191.keep Kc199 (ninS ne_b95_b177 nin0)
  have fa214 := A177.keep Kc199
  have ta221 := Nat.lt_of_lt_of_le ta192 Kc199.1
  have ta222 := Nat.lt_of_lt_of_le ta193 Kc199.1
  have ta223 := Nat.lt_of_lt_of_le ta194 Kc199.1
  have ta224 := Nat.lt_of_lt_of_le ta195 Kc199.1
  have ta225 := Nat.lt_of_lt_of_le ta196 Kc199.1
  have ta226 := Nat.lt_of_lt_of_le ta197 Kc199.1
  have ta227 := Nat.lt_of_lt_of_le ta177' Kc199.1
  have za228 : n0 ≤ T199.heap.size := Nat.le_trans za198 Kc199.1
  have VF199 : LA Z T199.heap fs199 .int 4 (fun j => .int (Int32.ofNat (own_F u0 u1 u2 j))) := c199_1.congr (own_F_eq u0 u1 u2)
  have taf199 := VF199.lt
  refine Gq.go (T199.setTop (mkF m 124 #[.val (.int x0), .val (.int x1), .val (.int x2), .val (.int x3), .val (.int x4), .val (.int x5), .val (.int (Int32.ofNat t)), .val (.int (Int32.ofNat u0)), .val (.int (Int32.ofNat u1)), .val (.int (Int32.ofNat u2)), .val (.ref b1), .val (.ref b95), .unset, .unset, .unset, .unset, .unset, .unset, .unset, .unset] [(.ref b177)])) (fun tt_ kk_ => st199 tt_ kk_) ?_
  refine Gq.go (T199.setTop (mkF m 126 #[.val (.int x0), .val (.int x1), .val (.int x2), .val (.int x3), .val (.int x4), .val (.int x5), .val (.int (Int32.ofNat t)), .val (.int (Int32.ofNat u0)), .val (.int (Int32.ofNat u1)), .val (.int (Int32.ofNat u2)), .val (.ref b1), .val (.ref b95), .val (.ref b177), .unset, .unset, .unset, .unset, .unset, .unset, .unset] [])) (fun tt_ kk_ => XS.astore X199.here hx rfl (hb hby at_124) rfl rfl (l' := #[.val (.int x0), .val (.int x1), .val (.int x2), .val (.int x3), .val (.int x4), .val (.int x5), .val (.int (Int32.ofNat t)), .val (.int (Int32.ofNat u0)), .val (.int (Int32.ofNat u1)), .val (.int (Int32.ofNat u2)), .val (.ref b1), .val (.ref b95), .val (.ref b177), .unset, .unset, .unset, .unset, .unset, .unset, .unset]) rfl kk_) ?_
  refine Gq.go (T199.setTop (mkF m 128 #[.val (.int x0), .val (.int x1), .val (.int x2), .val (.int x3), .val (.int x4), .val (.int x5), .val (.int (Int32.ofNat t)), .val (.int (Int32.ofNat u0)), .val (.int (Int32.ofNat u1)), .val (.int (Int32.ofNat u2)), .val (.ref b1), .val (.ref b95), .val (.ref b177), .unset, .unset, .unset, .unset, .unset, .unset, .unset] [(.int (9 : Int32))])) (fun tt_ kk_ => XS.bipush X199.here hx rfl (hb hby at_126) kk_) ?_
  obtain ⟨T229, h229, b229, X229, eh229, E229, aq229, V229, A229, st229⟩ := mkAE X199 hx hZ (hw _ (List.mem_of_getElem? (i := 30) rfl)) rfl (z := (9 : Int32)) (n := 9) (Ls := #[.val (.int x0), .val (.int x1), .val (.int x2), .val (.int x3), .val (.int x4), .val (.int x5), .val (.int (Int32.ofNat t)), .val (.int (Int32.ofNat u0)), .val (.int (Int32.ofNat u1)), .val (.int (Int32.ofNat u2)), .val (.ref b1), .val (.ref b95), .val (.ref b177), .unset, .unset, .unset, .unset, .unset, .unset, .unset]) (rest := []) (by decide) rfl (by decide) (by decide) (by decide) (ad := "[I") rfl (hb hby at_128)
  have g_b229 : n0 ≤ b229 := Nat.le_trans za228 (Nat.le_of_eq aq229.symm)
  have ne_b1_b229 : b1 ≠ b229 := Nat.ne_of_lt (Nat.lt_of_lt_of_le ta221 (Nat.le_of_eq aq229.symm))
  have ne_b12_b229 : b12 ≠ b229 := Nat.ne_of_lt (Nat.lt_of_lt_of_le ta222 (Nat.le_of_eq aq229.symm))
  have ne_el20_b229 : el20 ≠ b229 := Nat.ne_of_lt (Nat.lt_of_lt_of_le ta223 (Nat.le_of_eq aq229.symm))
  have ne_b31_b229 : b31 ≠ b229 := Nat.ne_of_lt (Nat.lt_of_lt_of_le ta224 (Nat.le_of_eq aq229.symm))
  have ne_b60_b229 : b60 ≠ b229 := Nat.ne_of_lt (Nat.lt_of_lt_of_le ta225 (Nat.le_of_eq aq229.symm))
  have ne_b95_b229 : b95 ≠ b229 := Nat.ne_of_lt (Nat.lt_of_lt_of_le ta226 (Nat.le_of_eq aq229.symm))
  have ne_b177_b229 : b177 ≠ b229 := Nat.ne_of_lt (Nat.lt_of_lt_of_le ta227 (Nat.le_of_eq aq229.symm))
  have ne_fs199_b229 : fs199 ≠ b229 := Nat.ne_of_lt (Nat.lt_of_lt_of_le taf199 (Nat.le_of_eq aq229.symm))
  have fa230 := fa200.ext E229
  have fa231 := fa201.ext E229
  have fa232 := fa202.ext E229
  have fa233 := fa203.ext E229
  have fa234 := fa204.ext E229
  have fa235 := fa205.ext E229
  have fa236 := fa206.ext E229
  have fa237 := fa207.ext E229
  have fa238 := fa208.ext E229
  have fa239 := fa209.ext E229
  have fa240 := fa210.ext E229
  have fa241 := fa211.ext E229
  have fa242 := fa212.ext E229
  have fa243 := fa213.ext E229
  have fa244 := fa214.ext E229
  have fa245 := c199_0.ext E229
  have fa246 := VF199.ext E229
  have ta247 := Nat.lt_of_lt_of_le ta221 E229.1
  have ta248 := Nat.lt_of_lt_of_le ta222 E229.1
  have ta249 := Nat.lt_of_lt_of_le ta223 E229.1
  have ta250 := Nat.lt_of_lt_of_le ta224 E229.1
  have ta251 := Nat.lt_of_lt_of_le ta225 E229.1
  have ta252 := Nat.lt_of_lt_of_le ta226 E229.1
  have ta253 := Nat.lt_of_lt_of_le ta227 E229.1
  have ta254 := Nat.lt_of_lt_of_le taf199 E229.1
  have za255 : n0 ≤ h229.size := Nat.le_trans za228 E229.1
  have V229' : LA Z h229 b229 .int 9 (gl [(.int (0 : Int32)), (.int (0 : Int32)), (.int (0 : Int32)), (.int (0 : Int32)), (.int (0 : Int32)), (.int (0 : Int32)), (.int (0 : Int32)), (.int (0 : Int32)), (.int (0 : Int32))] (.int (0 : Int32))) := V229.list
  have ta229' := V229'.lt
  refine Gq.go (T229.setTop (mkF m 130 #[.val (.int x0), .val (.int x1), .val (.int x2), .val (.int x3), .val (.int x4), .val (.int x5), .val (.int (Int32.ofNat t)), .val (.int (Int32.ofNat u0)), .val (.int (Int32.ofNat u1)), .val (.int (Int32.ofNat u2)), .val (.ref b1), .val (.ref b95), .val (.ref b177), .unset, .unset, .unset, .unset, .unset, .unset, .unset] [(.ref b229)])) (fun tt_ kk_ => st229 tt_ kk_) ?_
  refine Gq.go (T229.setTop (mkF m 132 #[.val (.int x0), .val (.int x1), .val (.int x2), .val (.int x3), .val (.int x4), .val (.int x5), .val (.int (Int32.ofNat t)), .val (.int (Int32.ofNat u0)), .val (.int (Int32.ofNat u1)), .val (.int (Int32.ofNat u2)), .val (.ref b1), .val (.ref b95), .val (.ref b177), .val (.ref b229), .unset, .unset, .unset, .unset, .unset, .unset] [])) (fun tt_ kk_ => XS.astore X229.here hx rfl (hb hby at_130) rfl rfl (l' := #[.val (.int x0), .val (.int x1), .val (.int x2), .val (.int x3), .val (.int x4), .val (.int x5), .val (.int (Int32.ofNat t)), .val (.int (Int32.ofNat u0)), .val (.int (Int32.ofNat u1)), .val (.int (Int32.ofNat u2)), .val (.ref b1), .val (.ref b95), .val (.ref b177), .val (.ref b229), .unset, .unset, .unset, .unset, .unset, .unset]) rfl kk_) ?_
  refine Gq.go (T229.setTop (mkF m 134 #[.val (.int x0), .val (.int x1), .val (.int x2), .val (.int x3), .val (.int x4), .val (.int x5), .val (.int (Int32.ofNat t)), .val (.int (Int32.ofNat u0)), .val (.int (Int32.ofNat u1)), .val (.int (Int32.ofNat u2)), .val (.ref b1), .val (.ref b95), .val (.ref b177), .val (.ref b229), .unset, .unset, .unset, .unset, .unset, .unset] [(.ref b229)])) (fun tt_ kk_ => XS.aload X229.here hx rfl (hb hby at_132) rfl rfl kk_) ?_
  refine Gq.go (T229.setTop (mkF m 135 #[.val (.int x0), .val (.int x1), .val (.int x2), .val (.int x3), .val (.int x4), .val (.int x5), .val (.int (Int32.ofNat t)), .val (.int (Int32.ofNat u0)), .val (.int (Int32.ofNat u1)), .val (.int (Int32.ofNat u2)), .val (.ref b1), .val (.ref b95), .val (.ref b177), .val (.ref b229), .unset, .unset, .unset, .unset, .unset, .unset] [(.int (0 : Int32)), (.ref b229)])) (fun tt_ kk_ => XS.iconst X229.here hx rfl (hb hby at_134) kk_) ?_
  refine Gq.go (T229.setTop (mkF m 136 #[.val (.int x0), .val (.int x1), .val (.int x2), .val (.int x3), .val (.int x4), .val (.int x5), .val (.int (Int32.ofNat t)), .val (.int (Int32.ofNat u0)), .val (.int (Int32.ofNat u1)), .val (.int (Int32.ofNat u2)), .val (.ref b1), .val (.ref b95), .val (.ref b177), .val (.ref b229), .unset, .unset, .unset, .unset, .unset, .unset] [(.int x2), (.int (0 : Int32)), (.ref b229)])) (fun tt_ kk_ => XS.iloadN X229.here hx rfl (hb hby at_135) rfl kk_) ?_
  refine Gq.go (T229.setTop (mkF m 137 #[.val (.int x0), .val (.int x1), .val (.int x2), .val (.int x3), .val (.int x4), .val (.int x5), .val (.int (Int32.ofNat t)), .val (.int (Int32.ofNat u0)), .val (.int (Int32.ofNat u1)), .val (.int (Int32.ofNat u2)), .val (.ref b1), .val (.ref b95), .val (.ref b177), .val (.ref b229), .unset, .unset, .unset, .unset, .unset, .unset] [(.int (0 : Int32)), (.int x2), (.int (0 : Int32)), (.ref b229)])) (fun tt_ kk_ => XS.iconst X229.here hx rfl (hb hby at_136) kk_) ?_
  refine Gq.go (T229.setTop (mkF m 138 #[.val (.int x0), .val (.int x1), .val (.int x2), .val (.int x3), .val (.int x4), .val (.int x5), .val (.int (Int32.ofNat t)), .val (.int (Int32.ofNat u0)), .val (.int (Int32.ofNat u1)), .val (.int (Int32.ofNat u2)), .val (.ref b1), .val (.ref b95), .val (.ref b177), .val (.ref b229), .unset, .unset, .unset, .unset, .unset, .unset] [(.int x1), (.int (0 : Int32)), (.int x2), (.int (0 : Int32)), (.ref b229)])) (fun tt_ kk_ => XS.iloadN X229.here hx rfl (hb hby at_137) rfl kk_) ?_
  refine Gq.go (T229.setTop (mkF m 139 #[.val (.int x0), .val (.int x1), .val (.int x2), .val (.int x3), .val (.int x4), .val (.int x5), .val (.int (Int32.ofNat t)), .val (.int (Int32.ofNat u0)), .val (.int (Int32.ofNat u1)), .val (.int (Int32.ofNat u2)), .val (.ref b1), .val (.ref b95), .val (.ref b177), .val (.ref b229), .unset, .unset, .unset, .unset, .unset, .unset] [(.int x3), (.int x1), (.int (0 : Int32)), (.int x2), (.int (0 : Int32)), (.ref b229)])) (fun tt_ kk_ => XS.iloadN X229.here hx rfl (hb hby at_138) rfl kk_) ?_
  obtain ⟨r256, T256, L256, X256, hQ256, st256⟩ := callT (pc := 139) (Ls := #[.val (.int x0), .val (.int x1), .val (.int x2), .val (.int x3), .val (.int x4), .val (.int x5), .val (.int (Int32.ofNat t)), .val (.int (Int32.ofNat u0)), .val (.int (Int32.ofNat u1)), .val (.int (Int32.ofNat u2)), .val (.ref b1), .val (.ref b95), .val (.ref b177), .val (.ref b229), .unset, .unset, .unset, .unset, .unset, .unset]) X229 hx hZ hown eh229 [(.int x2), (.int (0 : Int32)), (.int x1), (.int x3)] [(.int (0 : Int32)), (.ref b229)] (hw _ (List.mem_of_getElem? (i := 116) rfl)) (hw _ (List.mem_of_getElem? (i := 117) rfl)) (hw _ (List.mem_of_getElem? (i := 28) rfl)) (hw _ (List.mem_of_getElem? (i := 118) rfl)) (by decide) (rm_own_pk l Z a0 hw [] x2 (0 : Int32) x1 x3 h229 n0 za255) pd_12 rfl (by rw [hml]; rfl) (W := 2) (Nat.le_of_eq rfl) (by decide) (by decide) (by decide) (by decide) (hb hby at_139)
  obtain ⟨rfl, N256q, eh256⟩ := hQ256
  have N256 := Fr.app N199 N256q
  refine Gq.go (T256.setTop (mkF m 142 #[.val (.int x0), .val (.int x1), .val (.int x2), .val (.int x3), .val (.int x4), .val (.int x5), .val (.int (Int32.ofNat t)), .val (.int (Int32.ofNat u0)), .val (.int (Int32.ofNat u1)), .val (.int (Int32.ofNat u2)), .val (.ref b1), .val (.ref b95), .val (.ref b177), .val (.ref b229), .unset, .unset, .unset, .unset, .unset, .unset] [(.int (own_pk x2 (0 : Int32) x1 x3)), (.int (0 : Int32)), (.ref b229)])) (fun tt_ kk_ => st256 tt_ kk_) ?_
  obtain ⟨T257, h257, X257, eh257, W257, st257⟩ := stoI X256 hx hZ eh256 V229' (j := (0 : Int32)) (i := 0) (x := (own_pk x2 (0 : Int32) x1 x3)) (Ls := #[.val (.int x0), .val (.int x1), .val (.int x2), .val (.int x3), .val (.int x4), .val (.int x5), .val (.int (Int32.ofNat t)), .val (.int (Int32.ofNat u0)), .val (.int (Int32.ofNat u1)), .val (.int (Int32.ofNat u2)), .val (.ref b1), .val (.ref b95), .val (.ref b177), .val (.ref b229), .unset, .unset, .unset, .unset, .unset, .unset]) (rest := []) (by decide) rfl (by decide) (hb hby at_142)
  have fa258 := fa230.wr W257 g_b229
  have fa259 := fa231.wr W257
  have fa260 := fa232.other W257 ne_b12_b229
  have fa261 := fa233.wr W257
  have fa262 := fa234.other W257 ne_b31_b229
  have fa263 := fa235.wr W257
  have fa264 := fa236.other W257 ne_b60_b229
  have fa265 := fa237.wr W257
  have fa266 := fa238.other W257 (Or.inl ne_b1_b229)
  have fa267 := fa239.other W257 (Or.inl ne_b1_b229)
  have fa268 := fa240.other W257 (Or.inl ne_b1_b229)
  have fa269 := fa241.other W257 ne_el20_b229
  have fa270 := fa242.wr W257
  have fa271 := fa243.other W257 ne_b95_b229
  have fa272 := fa244.wr W257
  have fa273 := fa245.other W257 (Or.inl ne_b177_b229)
  have fa274 := fa246.other W257 ne_fs199_b229
  have fa275 := A229.wr W257
  have ta276 := Nat.lt_of_lt_of_le ta247 (Nat.le_of_eq W257.size.symm)
  have ta277 := Nat.lt_of_lt_of_le ta248 (Nat.le_of_eq W257.size.symm)
  have ta278 := Nat.lt_of_lt_of_le ta249 (Nat.le_of_eq W257.size.symm)
  have ta279 := Nat.lt_of_lt_of_le ta250 (Nat.le_of_eq W257.size.symm)
  have ta280 := Nat.lt_of_lt_of_le ta251 (Nat.le_of_eq W257.size.symm)
  have ta281 := Nat.lt_of_lt_of_le ta252 (Nat.le_of_eq W257.size.symm)
  have ta282 := Nat.lt_of_lt_of_le ta253 (Nat.le_of_eq W257.size.symm)
  have ta283 := Nat.lt_of_lt_of_le ta254 (Nat.le_of_eq W257.size.symm)
  have ta284 := Nat.lt_of_lt_of_le ta229' (Nat.le_of_eq W257.size.symm)
  have za285 : n0 ≤ h257.size := Nat.le_trans za255 (Nat.le_of_eq W257.size.symm)
  have V257 : LA Z h257 b229 .int 9 (gl [(.int (own_pk x2 (0 : Int32) x1 x3)), (.int (0 : Int32)), (.int (0 : Int32)), (.int (0 : Int32)), (.int (0 : Int32)), (.int (0 : Int32)), (.int (0 : Int32)), (.int (0 : Int32)), (.int (0 : Int32))] (.int (0 : Int32))) := V229'.setL W257 (Nat.le_of_ble_eq_true rfl)
  have N257 := Fr.snoc X257 N256 g_b229
  refine Gq.go (T257.setTop (mkF m 143 #[.val (.int x0), .val (.int x1), .val (.int x2), .val (.int x3), .val (.int x4), .val (.int x5), .val (.int (Int32.ofNat t)), .val (.int (Int32.ofNat u0)), .val (.int (Int32.ofNat u1)), .val (.int (Int32.ofNat u2)), .val (.ref b1), .val (.ref b95), .val (.ref b177), .val (.ref b229), .unset, .unset, .unset, .unset, .unset, .unset] [])) (fun tt_ kk_ => st257 tt_ kk_) ?_
  refine Gq.go (T257.setTop (mkF m 145 #[.val (.int x0), .val (.int x1), .val (.int x2), .val (.int x3), .val (.int x4), .val (.int x5), .val (.int (Int32.ofNat t)), .val (.int (Int32.ofNat u0)), .val (.int (Int32.ofNat u1)), .val (.int (Int32.ofNat u2)), .val (.ref b1), .val (.ref b95), .val (.ref b177), .val (.ref b229), .unset, .unset, .unset, .unset, .unset, .unset] [(.ref b229)])) (fun tt_ kk_ => XS.aload X257.here hx rfl (hb hby at_143) rfl rfl kk_) ?_
  refine Gq.go (T257.setTop (mkF m 146 #[.val (.int x0), .val (.int x1), .val (.int x2), .val (.int x3), .val (.int x4), .val (.int x5), .val (.int (Int32.ofNat t)), .val (.int (Int32.ofNat u0)), .val (.int (Int32.ofNat u1)), .val (.int (Int32.ofNat u2)), .val (.ref b1), .val (.ref b95), .val (.ref b177), .val (.ref b229), .unset, .unset, .unset, .unset, .unset, .unset] [(.int (1 : Int32)), (.ref b229)])) (fun tt_ kk_ => XS.iconst X257.here hx rfl (hb hby at_145) kk_) ?_
  refine Gq.go (T257.setTop (mkF m 147 #[.val (.int x0), .val (.int x1), .val (.int x2), .val (.int x3), .val (.int x4), .val (.int x5), .val (.int (Int32.ofNat t)), .val (.int (Int32.ofNat u0)), .val (.int (Int32.ofNat u1)), .val (.int (Int32.ofNat u2)), .val (.ref b1), .val (.ref b95), .val (.ref b177), .val (.ref b229), .unset, .unset, .unset, .unset, .unset, .unset] [(.int x2), (.int (1 : Int32)), (.ref b229)])) (fun tt_ kk_ => XS.iloadN X257.here hx rfl (hb hby at_146) rfl kk_) ?_
  refine Gq.go (T257.setTop (mkF m 148 #[.val (.int x0), .val (.int x1), .val (.int x2), .val (.int x3), .val (.int x4), .val (.int x5), .val (.int (Int32.ofNat t)), .val (.int (Int32.ofNat u0)), .val (.int (Int32.ofNat u1)), .val (.int (Int32.ofNat u2)), .val (.ref b1), .val (.ref b95), .val (.ref b177), .val (.ref b229), .unset, .unset, .unset, .unset, .unset, .unset] [(.int (1 : Int32)), (.int x2), (.int (1 : Int32)), (.ref b229)])) (fun tt_ kk_ => XS.iconst X257.here hx rfl (hb hby at_147) kk_) ?_
  refine Gq.go (T257.setTop (mkF m 149 #[.val (.int x0), .val (.int x1), .val (.int x2), .val (.int x3), .val (.int x4), .val (.int x5), .val (.int (Int32.ofNat t)), .val (.int (Int32.ofNat u0)), .val (.int (Int32.ofNat u1)), .val (.int (Int32.ofNat u2)), .val (.ref b1), .val (.ref b95), .val (.ref b177), .val (.ref b229), .unset, .unset, .unset, .unset, .unset, .unset] [(.int x1), (.int (1 : Int32)), (.int x2), (.int (1 : Int32)), (.ref b229)])) (fun tt_ kk_ => XS.iloadN X257.here hx rfl (hb hby at_148) rfl kk_) ?_
  refine Gq.go (T257.setTop (mkF m 150 #[.val (.int x0), .val (.int x1), .val (.int x2), .val (.int x3), .val (.int x4), .val (.int x5), .val (.int (Int32.ofNat t)), .val (.int (Int32.ofNat u0)), .val (.int (Int32.ofNat u1)), .val (.int (Int32.ofNat u2)), .val (.ref b1), .val (.ref b95), .val (.ref b177), .val (.ref b229), .unset, .unset, .unset, .unset, .unset, .unset] [(.int x3), (.int x1), (.int (1 : Int32)), (.int x2), (.int (1 : Int32)), (.ref b229)])) (fun tt_ kk_ => XS.iloadN X257.here hx rfl (hb hby at_149) rfl kk_) ?_
  obtain ⟨r286, T286, L286, X286, hQ286, st286⟩ := callT (pc := 150) (Ls := #[.val (.int x0), .val (.int x1), .val (.int x2), .val (.int x3), .val (.int x4), .val (.int x5), .val (.int (Int32.ofNat t)), .val (.int (Int32.ofNat u0)), .val (.int (Int32.ofNat u1)), .val (.int (Int32.ofNat u2)), .val (.ref b1), .val (.ref b95), .val (.ref b177), .val (.ref b229), .unset, .unset, .unset, .unset, .unset, .unset]) X257 hx hZ hown eh257 [(.int x2), (.int (1 : Int32)), (.int x1), (.int x3)] [(.int (1 : Int32)), (.ref b229)] (hw _ (List.mem_of_getElem? (i := 116) rfl)) (hw _ (List.mem_of_getElem? (i := 117) rfl)) (hw _ (List.mem_of_getElem? (i := 28) rfl)) (hw _ (List.mem_of_getElem? (i := 118) rfl)) (by decide) (rm_own_pk l Z a0 hw [] x2 (1 : Int32) x1 x3 h257 n0 za285) pd_12 rfl (by rw [hml]; rfl) (W := 2) (Nat.le_of_eq rfl) (by decide) (by decide) (by decide) (by decide) (hb hby at_150)
  obtain ⟨rfl, N286q, eh286⟩ := hQ286
  have N286 := Fr.app N257 N286q
  refine Gq.go (T286.setTop (mkF m 153 #[.val (.int x0), .val (.int x1), .val (.int x2), .val (.int x3), .val (.int x4), .val (.int x5), .val (.int (Int32.ofNat t)), .val (.int (Int32.ofNat u0)), .val (.int (Int32.ofNat u1)), .val (.int (Int32.ofNat u2)), .val (.ref b1), .val (.ref b95), .val (.ref b177), .val (.ref b229), .unset, .unset, .unset, .unset, .unset, .unset] [(.int (own_pk x2 (1 : Int32) x1 x3)), (.int (1 : Int32)), (.ref b229)])) (fun tt_ kk_ => st286 tt_ kk_) ?_
  obtain ⟨T287, h287, X287, eh287, W287, st287⟩ := stoI X286 hx hZ eh286 V257 (j := (1 : Int32)) (i := 1) (x := (own_pk x2 (1 : Int32) x1 x3)) (Ls := #[.val (.int x0), .val (.int x1), .val (.int x2), .val (.int x3), .val (.int x4), .val (.int x5), .val (.int (Int32.ofNat t)), .val (.int (Int32.ofNat u0)), .val (.int (Int32.ofNat u1)), .val (.int (Int32.ofNat u2)), .val (.ref b1), .val (.ref b95), .val (.ref b177), .val (.ref b229), .unset, .unset, .unset, .unset, .unset, .unset]) (rest := []) (by decide) rfl (by decide) (hb hby at_153)
  have fa288 := fa258.wr W287 g_b229
  have fa289 := fa259.wr W287
  have fa290 := fa260.other W287 ne_b12_b229
  have fa291 := fa261.wr W287
  have fa292 := fa262.other W287 ne_b31_b229
  have fa293 := fa263.wr W287
  have fa294 := fa264.other W287 ne_b60_b229
  have fa295 := fa265.wr W287
  have fa296 := fa266.other W287 (Or.inl ne_b1_b229)
  have fa297 := fa267.other W287 (Or.inl ne_b1_b229)
  have fa298 := fa268.other W287 (Or.inl ne_b1_b229)
  have fa299 := fa269.other W287 ne_el20_b229
  have fa300 := fa270.wr W287
  have fa301 := fa271.other W287 ne_b95_b229
  have fa302 := fa272.wr W287
  have fa303 := fa273.other W287 (Or.inl ne_b177_b229)
  have fa304 := fa274.other W287 ne_fs199_b229
  have fa305 := fa275.wr W287
  have ta306 := Nat.lt_of_lt_of_le ta276 (Nat.le_of_eq W287.size.symm)
  have ta307 := Nat.lt_of_lt_of_le ta277 (Nat.le_of_eq W287.size.symm)
  have ta308 := Nat.lt_of_lt_of_le ta278 (Nat.le_of_eq W287.size.symm)
  have ta309 := Nat.lt_of_lt_of_le ta279 (Nat.le_of_eq W287.size.symm)
  have ta310 := Nat.lt_of_lt_of_le ta280 (Nat.le_of_eq W287.size.symm)
  have ta311 := Nat.lt_of_lt_of_le ta281 (Nat.le_of_eq W287.size.symm)
  have ta312 := Nat.lt_of_lt_of_le ta282 (Nat.le_of_eq W287.size.symm)
  have ta313 := Nat.lt_of_lt_of_le ta283 (Nat.le_of_eq W287.size.symm)
  have ta314 := Nat.lt_of_lt_of_le ta284 (Nat.le_of_eq W287.size.symm)
  have za315 : n0 ≤ h287.size := Nat.le_trans za285 (Nat.le_of_eq W287.size.symm)
  have V287 : LA Z h287 b229 .int 9 (gl [(.int (own_pk x2 (0 : Int32) x1 x3)), (.int (own_pk x2 (1 : Int32) x1 x3)), (.int (0 : Int32)), (.int (0 : Int32)), (.int (0 : Int32)), (.int (0 : Int32)), (.int (0 : Int32)), (.int (0 : Int32)), (.int (0 : Int32))] (.int (0 : Int32))) := V257.setL W287 (Nat.le_of_ble_eq_true rfl)
  have N287 := Fr.snoc X287 N286 g_b229
  refine Gq.go (T287.setTop (mkF m 154 #[.val (.int x0), .val (.int x1), .val (.int x2), .val (.int x3), .val (.int x4), .val (.int x5), .val (.int (Int32.ofNat t)), .val (.int (Int32.ofNat u0)), .val (.int (Int32.ofNat u1)), .val (.int (Int32.ofNat u2)), .val (.ref b1), .val (.ref b95), .val (.ref b177), .val (.ref b229), .unset, .unset, .unset, .unset, .unset, .unset] [])) (fun tt_ kk_ => st287 tt_ kk_) ?_
  refine Gq.go (T287.setTop (mkF m 156 #[.val (.int x0), .val (.int x1), .val (.int x2), .val (.int x3), .val (.int x4), .val (.int x5), .val (.int (Int32.ofNat t)), .val (.int (Int32.ofNat u0)), .val (.int (Int32.ofNat u1)), .val (.int (Int32.ofNat u2)), .val (.ref b1), .val (.ref b95), .val (.ref b177), .val (.ref b229), .unset, .unset, .unset, .unset, .unset, .unset] [(.ref b229)])) (fun tt_ kk_ => XS.aload X287.here hx rfl (hb hby at_154) rfl rfl kk_) ?_
  refine Gq.go (T287.setTop (mkF m 157 #[.val (.int x0), .val (.int x1), .val (.int x2), .val (.int x3), .val (.int x4), .val (.int x5), .val (.int (Int32.ofNat t)), .val (.int (Int32.ofNat u0)), .val (.int (Int32.ofNat u1)), .val (.int (Int32.ofNat u2)), .val (.ref b1), .val (.ref b95), .val (.ref b177), .val (.ref b229), .unset, .unset, .unset, .unset, .unset, .unset] [(.int (2 : Int32)), (.ref b229)])) (fun tt_ kk_ => XS.iconst X287.here hx rfl (hb hby at_156) kk_) ?_
  refine Gq.go (T287.setTop (mkF m 158 #[.val (.int x0), .val (.int x1), .val (.int x2), .val (.int x3), .val (.int x4), .val (.int x5), .val (.int (Int32.ofNat t)), .val (.int (Int32.ofNat u0)), .val (.int (Int32.ofNat u1)), .val (.int (Int32.ofNat u2)), .val (.ref b1), .val (.ref b95), .val (.ref b177), .val (.ref b229), .unset, .unset, .unset, .unset, .unset, .unset] [(.int x2), (.int (2 : Int32)), (.ref b229)])) (fun tt_ kk_ => XS.iloadN X287.here hx rfl (hb hby at_157) rfl kk_) ?_
  refine Gq.go (T287.setTop (mkF m 159 #[.val (.int x0), .val (.int x1), .val (.int x2), .val (.int x3), .val (.int x4), .val (.int x5), .val (.int (Int32.ofNat t)), .val (.int (Int32.ofNat u0)), .val (.int (Int32.ofNat u1)), .val (.int (Int32.ofNat u2)), .val (.ref b1), .val (.ref b95), .val (.ref b177), .val (.ref b229), .unset, .unset, .unset, .unset, .unset, .unset] [(.int (2 : Int32)), (.int x2), (.int (2 : Int32)), (.ref b229)])) (fun tt_ kk_ => XS.iconst X287.here hx rfl (hb hby at_158) kk_) ?_
  refine Gq.go (T287.setTop (mkF m 160 #[.val (.int x0), .val (.int x1), .val (.int x2), .val (.int x3), .val (.int x4), .val (.int x5), .val (.int (Int32.ofNat t)), .val (.int (Int32.ofNat u0)), .val (.int (Int32.ofNat u1)), .val (.int (Int32.ofNat u2)), .val (.ref b1), .val (.ref b95), .val (.ref b177), .val (.ref b229), .unset, .unset, .unset, .unset, .unset, .unset] [(.int x1), (.int (2 : Int32)), (.int x2), (.int (2 : Int32)), (.ref b229)])) (fun tt_ kk_ => XS.iloadN X287.here hx rfl (hb hby at_159) rfl kk_) ?_
  refine Gq.go (T287.setTop (mkF m 161 #[.val (.int x0), .val (.int x1), .val (.int x2), .val (.int x3), .val (.int x4), .val (.int x5), .val (.int (Int32.ofNat t)), .val (.int (Int32.ofNat u0)), .val (.int (Int32.ofNat u1)), .val (.int (Int32.ofNat u2)), .val (.ref b1), .val (.ref b95), .val (.ref b177), .val (.ref b229), .unset, .unset, .unset, .unset, .unset, .unset] [(.int x3), (.int x1), (.int (2 : Int32)), (.int x2), (.int (2 : Int32)), (.ref b229)])) (fun tt_ kk_ => XS.iloadN X287.here hx rfl (hb hby at_160) rfl kk_) ?_
  obtain ⟨r316, T316, L316, X316, hQ316, st316⟩ := callT (pc := 161) (Ls := #[.val (.int x0), .val (.int x1), .val (.int x2), .val (.int x3), .val (.int x4), .val (.int x5), .val (.int (Int32.ofNat t)), .val (.int (Int32.ofNat u0)), .val (.int (Int32.ofNat u1)), .val (.int (Int32.ofNat u2)), .val (.ref b1), .val (.ref b95), .val (.ref b177), .val (.ref b229), .unset, .unset, .unset, .unset, .unset, .unset]) X287 hx hZ hown eh287 [(.int x2), (.int (2 : Int32)), (.int x1), (.int x3)] [(.int (2 : Int32)), (.ref b229)] (hw _ (List.mem_of_getElem? (i := 116) rfl)) (hw _ (List.mem_of_getElem? (i := 117) rfl)) (hw _ (List.mem_of_getElem? (i := 28) rfl)) (hw _ (List.mem_of_getElem? (i := 118) rfl)) (by decide) (rm_own_pk l Z a0 hw [] x2 (2 : Int32) x1 x3 h287 n0 za315) pd_12 rfl (by rw [hml]; rfl) (W := 2) (Nat.le_of_eq rfl) (by decide) (by decide) (by decide) (by decide) (hb hby at_161)
  obtain ⟨rfl, N316q, eh316⟩ := hQ316
  have N316 := Fr.app N287 N316q
  refine Gq.go (T316.setTop (mkF m 164 #[.val (.int x0), .val (.int x1), .val (.int x2), .val (.int x3), .val (.int x4), .val (.int x5), .val (.int (Int32.ofNat t)), .val (.int (Int32.ofNat u0)), .val (.int (Int32.ofNat u1)), .val (.int (Int32.ofNat u2)), .val (.ref b1), .val (.ref b95), .val (.ref b177), .val (.ref b229), .unset, .unset, .unset, .unset, .unset, .unset] [(.int (own_pk x2 (2 : Int32) x1 x3)), (.int (2 : Int32)), (.ref b229)])) (fun tt_ kk_ => st316 tt_ kk_) ?_
  obtain ⟨T317, h317, X317, eh317, W317, st317⟩ := stoI X316 hx hZ eh316 V287 (j := (2 : Int32)) (i := 2) (x := (own_pk x2 (2 : Int32) x1 x3)) (Ls := #[.val (.int x0), .val (.int x1), .val (.int x2), .val (.int x3), .val (.int x4), .val (.int x5), .val (.int (Int32.ofNat t)), .val (.int (Int32.ofNat u0)), .val (.int (Int32.ofNat u1)), .val (.int (Int32.ofNat u2)), .val (.ref b1), .val (.ref b95), .val (.ref b177), .val (.ref b229), .unset, .unset, .unset, .unset, .unset, .unset]) (rest := []) (by decide) rfl (by decide) (hb hby at_164)
  have fa318 := fa288.wr W317 g_b229
  have fa319 := fa289.wr W317
  have fa320 := fa290.other W317 ne_b12_b229
  have fa321 := fa291.wr W317
  have fa322 := fa292.other W317 ne_b31_b229
  have fa323 := fa293.wr W317
  have fa324 := fa294.other W317 ne_b60_b229
  have fa325 := fa295.wr W317
  have fa326 := fa296.other W317 (Or.inl ne_b1_b229)
  have fa327 := fa297.other W317 (Or.inl ne_b1_b229)
  have fa328 := fa298.other W317 (Or.inl ne_b1_b229)
  have fa329 := fa299.other W317 ne_el20_b229
  have fa330 := fa300.wr W317
  have fa331 := fa301.other W317 ne_b95_b229
  have fa332 := fa302.wr W317
  have fa333 := fa303.other W317 (Or.inl ne_b177_b229)
  have fa334 := fa304.other W317 ne_fs199_b229
  have fa335 := fa305.wr W317
  have ta336 := Nat.lt_of_lt_of_le ta306 (Nat.le_of_eq W317.size.symm)
  have ta337 := Nat.lt_of_lt_of_le ta307 (Nat.le_of_eq W317.size.symm)
  have ta338 := Nat.lt_of_lt_of_le ta308 (Nat.le_of_eq W317.size.symm)
  have ta339 := Nat.lt_of_lt_of_le ta309 (Nat.le_of_eq W317.size.symm)
  have ta340 := Nat.lt_of_lt_of_le ta310 (Nat.le_of_eq W317.size.symm)
  have ta341 := Nat.lt_of_lt_of_le ta311 (Nat.le_of_eq W317.size.symm)
  have ta342 := Nat.lt_of_lt_of_le ta312 (Nat.le_of_eq W317.size.symm)
  have ta343 := Nat.lt_of_lt_of_le ta313 (Nat.le_of_eq W317.size.symm)
  have ta344 := Nat.lt_of_lt_of_le ta314 (Nat.le_of_eq W317.size.symm)
  have za345 : n0 ≤ h317.size := Nat.le_trans za315 (Nat.le_of_eq W317.size.symm)
  have V317 : LA Z h317 b229 .int 9 (gl [(.int (own_pk x2 (0 : Int32) x1 x3)), (.int (own_pk x2 (1 : Int32) x1 x3)), (.int (own_pk x2 (2 : Int32) x1 x3)), (.int (0 : Int32)), (.int (0 : Int32)), (.int (0 : Int32)), (.int (0 : Int32)), (.int (0 : Int32)), (.int (0 : Int32))] (.int (0 : Int32))) := V287.setL W317 (Nat.le_of_ble_eq_true rfl)
  have N317 := Fr.snoc X317 N316 g_b229
  refine Gq.go (T317.setTop (mkF m 165 #[.val (.int x0), .val (.int x1), .val (.int x2), .val (.int x3), .val (.int x4), .val (.int x5), .val (.int (Int32.ofNat t)), .val (.int (Int32.ofNat u0)), .val (.int (Int32.ofNat u1)), .val (.int (Int32.ofNat u2)), .val (.ref b1), .val (.ref b95), .val (.ref b177), .val (.ref b229), .unset, .unset, .unset, .unset, .unset, .unset] [])) (fun tt_ kk_ => st317 tt_ kk_) ?_
  refine Gq.go (T317.setTop (mkF m 167 #[.val (.int x0), .val (.int x1), .val (.int x2), .val (.int x3), .val (.int x4), .val (.int x5), .val (.int (Int32.ofNat t)), .val (.int (Int32.ofNat u0)), .val (.int (Int32.ofNat u1)), .val (.int (Int32.ofNat u2)), .val (.ref b1), .val (.ref b95), .val (.ref b177), .val (.ref b229), .unset, .unset, .unset, .unset, .unset, .unset] [(.ref b229)])) (fun tt_ kk_ => XS.aload X317.here hx rfl (hb hby at_165) rfl rfl kk_) ?_
  refine Gq.go (T317.setTop (mkF m 168 #[.val (.int x0), .val (.int x1), .val (.int x2), .val (.int x3), .val (.int x4), .val (.int x5), .val (.int (Int32.ofNat t)), .val (.int (Int32.ofNat u0)), .val (.int (Int32.ofNat u1)), .val (.int (Int32.ofNat u2)), .val (.ref b1), .val (.ref b95), .val (.ref b177), .val (.ref b229), .unset, .unset, .unset, .unset, .unset, .unset] [(.int (3 : Int32)), (.ref b229)])) (fun tt_ kk_ => XS.iconst X317.here hx rfl (hb hby at_167) kk_) ?_
  refine Gq.go (T317.setTop (mkF m 169 #[.val (.int x0), .val (.int x1), .val (.int x2), .val (.int x3), .val (.int x4), .val (.int x5), .val (.int (Int32.ofNat t)), .val (.int (Int32.ofNat u0)), .val (.int (Int32.ofNat u1)), .val (.int (Int32.ofNat u2)), .val (.ref b1), .val (.ref b95), .val (.ref b177), .val (.ref b229), .unset, .unset, .unset, .unset, .unset, .unset] [(.int x2), (.int (3 : Int32)), (.ref b229)])) (fun tt_ kk_ => XS.iloadN X317.here hx rfl (hb hby at_168) rfl kk_) ?_
  refine Gq.go (T317.setTop (mkF m 170 #[.val (.int x0), .val (.int x1), .val (.int x2), .val (.int x3), .val (.int x4), .val (.int x5), .val (.int (Int32.ofNat t)), .val (.int (Int32.ofNat u0)), .val (.int (Int32.ofNat u1)), .val (.int (Int32.ofNat u2)), .val (.ref b1), .val (.ref b95), .val (.ref b177), .val (.ref b229), .unset, .unset, .unset, .unset, .unset, .unset] [(.int (3 : Int32)), (.int x2), (.int (3 : Int32)), (.ref b229)])) (fun tt_ kk_ => XS.iconst X317.here hx rfl (hb hby at_169) kk_) ?_
  refine Gq.go (T317.setTop (mkF m 171 #[.val (.int x0), .val (.int x1), .val (.int x2), .val (.int x3), .val (.int x4), .val (.int x5), .val (.int (Int32.ofNat t)), .val (.int (Int32.ofNat u0)), .val (.int (Int32.ofNat u1)), .val (.int (Int32.ofNat u2)), .val (.ref b1), .val (.ref b95), .val (.ref b177), .val (.ref b229), .unset, .unset, .unset, .unset, .unset, .unset] [(.int x1), (.int (3 : Int32)), (.int x2), (.int (3 : Int32)), (.ref b229)])) (fun tt_ kk_ => XS.iloadN X317.here hx rfl (hb hby at_170) rfl kk_) ?_
  refine Gq.go (T317.setTop (mkF m 172 #[.val (.int x0), .val (.int x1), .val (.int x2), .val (.int x3), .val (.int x4), .val (.int x5), .val (.int (Int32.ofNat t)), .val (.int (Int32.ofNat u0)), .val (.int (Int32.ofNat u1)), .val (.int (Int32.ofNat u2)), .val (.ref b1), .val (.ref b95), .val (.ref b177), .val (.ref b229), .unset, .unset, .unset, .unset, .unset, .unset] [(.int x3), (.int x1), (.int (3 : Int32)), (.int x2), (.int (3 : Int32)), (.ref b229)])) (fun tt_ kk_ => XS.iloadN X317.here hx rfl (hb hby at_171) rfl kk_) ?_
  obtain ⟨r346, T346, L346, X346, hQ346, st346⟩ := callT (pc := 172) (Ls := #[.val (.int x0), .val (.int x1), .val (.int x2), .val (.int x3), .val (.int x4), .val (.int x5), .val (.int (Int32.ofNat t)), .val (.int (Int32.ofNat u0)), .val (.int (Int32.ofNat u1)), .val (.int (Int32.ofNat u2)), .val (.ref b1), .val (.ref b95), .val (.ref b177), .val (.ref b229), .unset, .unset, .unset, .unset, .unset, .unset]) X317 hx hZ hown eh317 [(.int x2), (.int (3 : Int32)), (.int x1), (.int x3)] [(.int (3 : Int32)), (.ref b229)] (hw _ (List.mem_of_getElem? (i := 116) rfl)) (hw _ (List.mem_of_getElem? (i := 117) rfl)) (hw _ (List.mem_of_getElem? (i := 28) rfl)) (hw _ (List.mem_of_getElem? (i := 118) rfl)) (by decide) (rm_own_pk l Z a0 hw [] x2 (3 : Int32) x1 x3 h317 n0 za345) pd_12 rfl (by rw [hml]; rfl) (W := 2) (Nat.le_of_eq rfl) (by decide) (by decide) (by decide) (by decide) (hb hby at_172)
  obtain ⟨rfl, N346q, eh346⟩ := hQ346
  have N346 := Fr.app N317 N346q
  refine Gq.go (T346.setTop (mkF m 175 #[.val (.int x0), .val (.int x1), .val (.int x2), .val (.int x3), .val (.int x4), .val (.int x5), .val (.int (Int32.ofNat t)), .val (.int (Int32.ofNat u0)), .val (.int (Int32.ofNat u1)), .val (.int (Int32.ofNat u2)), .val (.ref b1), .val (.ref b95), .val (.ref b177), .val (.ref b229), .unset, .unset, .unset, .unset, .unset, .unset] [(.int (own_pk x2 (3 : Int32) x1 x3)), (.int (3 : Int32)), (.ref b229)])) (fun tt_ kk_ => st346 tt_ kk_) ?_
  obtain ⟨T347, h347, X347, eh347, W347, st347⟩ := stoI X346 hx hZ eh346 V317 (j := (3 : Int32)) (i := 3) (x := (own_pk x2 (3 : Int32) x1 x3)) (Ls := #[.val (.int x0), .val (.int x1), .val (.int x2), .val (.int x3), .val (.int x4), .val (.int x5), .val (.int (Int32.ofNat t)), .val (.int (Int32.ofNat u0)), .val (.int (Int32.ofNat u1)), .val (.int (Int32.ofNat u2)), .val (.ref b1), .val (.ref b95), .val (.ref b177), .val (.ref b229), .unset, .unset, .unset, .unset, .unset, .unset]) (rest := []) (by decide) rfl (by decide) (hb hby at_175)
  have fa348 := fa318.wr W347 g_b229
  have fa349 := fa319.wr W347
  have fa350 := fa320.other W347 ne_b12_b229
  have fa351 := fa321.wr W347
  have fa352 := fa322.other W347 ne_b31_b229
  have fa353 := fa323.wr W347
  have fa354 := fa324.other W347 ne_b60_b229
  have fa355 := fa325.wr W347
  have fa356 := fa326.other W347 (Or.inl ne_b1_b229)
  have fa357 := fa327.other W347 (Or.inl ne_b1_b229)
  have fa358 := fa328.other W347 (Or.inl ne_b1_b229)
  have fa359 := fa329.other W347 ne_el20_b229
  have fa360 := fa330.wr W347
  have fa361 := fa331.other W347 ne_b95_b229
  have fa362 := fa332.wr W347
  have fa363 := fa333.other W347 (Or.inl ne_b177_b229)
  have fa364 := fa334.other W347 ne_fs199_b229
  have fa365 := fa335.wr W347
  have ta366 := Nat.lt_of_lt_of_le ta336 (Nat.le_of_eq W347.size.symm)
  have ta367 := Nat.lt_of_lt_of_le ta337 (Nat.le_of_eq W347.size.symm)
  have ta368 := Nat.lt_of_lt_of_le ta338 (Nat.le_of_eq W347.size.symm)
  have ta369 := Nat.lt_of_lt_of_le ta339 (Nat.le_of_eq W347.size.symm)
  have ta370 := Nat.lt_of_lt_of_le ta340 (Nat.le_of_eq W347.size.symm)
  have ta371 := Nat.lt_of_lt_of_le ta341 (Nat.le_of_eq W347.size.symm)
  have ta372 := Nat.lt_of_lt_of_le ta342 (Nat.le_of_eq W347.size.symm)
  have ta373 := Nat.lt_of_lt_of_le ta343 (Nat.le_of_eq W347.size.symm)
  have ta374 := Nat.lt_of_lt_of_le ta344 (Nat.le_of_eq W347.size.symm)
  have za375 : n0 ≤ h347.size := Nat.le_trans za345 (Nat.le_of_eq W347.size.symm)
  have V347 : LA Z h347 b229 .int 9 (gl [(.int (own_pk x2 (0 : Int32) x1 x3)), (.int (own_pk x2 (1 : Int32) x1 x3)), (.int (own_pk x2 (2 : Int32) x1 x3)), (.int (own_pk x2 (3 : Int32) x1 x3)), (.int (0 : Int32)), (.int (0 : Int32)), (.int (0 : Int32)), (.int (0 : Int32)), (.int (0 : Int32))] (.int (0 : Int32))) := V317.setL W347 (Nat.le_of_ble_eq_true rfl)
  have N347 := Fr.snoc X347 N346 g_b229
  refine Gq.go (T347.setTop (mkF m 176 #[.val (.int x0), .val (.int x1), .val (.int x2), .val (.int x3), .val (.int x4), .val (.int x5), .val (.int (Int32.ofNat t)), .val (.int (Int32.ofNat u0)), .val (.int (Int32.ofNat u1)), .val (.int (Int32.ofNat u2)), .val (.ref b1), .val (.ref b95), .val (.ref b177), .val (.ref b229), .unset, .unset, .unset, .unset, .unset, .unset] [])) (fun tt_ kk_ => st347 tt_ kk_) ?_
  refine Gq.go (T347.setTop (mkF m 178 #[.val (.int x0), .val (.int x1), .val (.int x2), .val (.int x3), .val (.int x4), .val (.int x5), .val (.int (Int32.ofNat t)), .val (.int (Int32.ofNat u0)), .val (.int (Int32.ofNat u1)), .val (.int (Int32.ofNat u2)), .val (.ref b1), .val (.ref b95), .val (.ref b177), .val (.ref b229), .unset, .unset, .unset, .unset, .unset, .unset] [(.ref b229)])) (fun tt_ kk_ => XS.aload X347.here hx rfl (hb hby at_176) rfl rfl kk_) ?_
  refine Gq.go (T347.setTop (mkF m 179 #[.val (.int x0), .val (.int x1), .val (.int x2), .val (.int x3), .val (.int x4), .val (.int x5), .val (.int (Int32.ofNat t)), .val (.int (Int32.ofNat u0)), .val (.int (Int32.ofNat u1)), .val (.int (Int32.ofNat u2)), .val (.ref b1), .val (.ref b95), .val (.ref b177), .val (.ref b229), .unset, .unset, .unset, .unset, .unset, .unset] [(.int (4 : Int32)), (.ref b229)])) (fun tt_ kk_ => XS.iconst X347.here hx rfl (hb hby at_178) kk_) ?_
  refine Gq.go (T347.setTop (mkF m 180 #[.val (.int x0), .val (.int x1), .val (.int x2), .val (.int x3), .val (.int x4), .val (.int x5), .val (.int (Int32.ofNat t)), .val (.int (Int32.ofNat u0)), .val (.int (Int32.ofNat u1)), .val (.int (Int32.ofNat u2)), .val (.ref b1), .val (.ref b95), .val (.ref b177), .val (.ref b229), .unset, .unset, .unset, .unset, .unset, .unset] [(.int x2), (.int (4 : Int32)), (.ref b229)])) (fun tt_ kk_ => XS.iloadN X347.here hx rfl (hb hby at_179) rfl kk_) ?_
  refine Gq.go (T347.setTop (mkF m 181 #[.val (.int x0), .val (.int x1), .val (.int x2), .val (.int x3), .val (.int x4), .val (.int x5), .val (.int (Int32.ofNat t)), .val (.int (Int32.ofNat u0)), .val (.int (Int32.ofNat u1)), .val (.int (Int32.ofNat u2)), .val (.ref b1), .val (.ref b95), .val (.ref b177), .val (.ref b229), .unset, .unset, .unset, .unset, .unset, .unset] [(.int (4 : Int32)), (.int x2), (.int (4 : Int32)), (.ref b229)])) (fun tt_ kk_ => XS.iconst X347.here hx rfl (hb hby at_180) kk_) ?_
  refine Gq.go (T347.setTop (mkF m 182 #[.val (.int x0), .val (.int x1), .val (.int x2), .val (.int x3), .val (.int x4), .val (.int x5), .val (.int (Int32.ofNat t)), .val (.int (Int32.ofNat u0)), .val (.int (Int32.ofNat u1)), .val (.int (Int32.ofNat u2)), .val (.ref b1), .val (.ref b95), .val (.ref b177), .val (.ref b229), .unset, .unset, .unset, .unset, .unset, .unset] [(.int x1), (.int (4 : Int32)), (.int x2), (.int (4 : Int32)), (.ref b229)])) (fun tt_ kk_ => XS.iloadN X347.here hx rfl (hb hby at_181) rfl kk_) ?_
  refine Gq.go (T347.setTop (mkF m 183 #[.val (.int x0), .val (.int x1), .val (.int x2), .val (.int x3), .val (.int x4), .val (.int x5), .val (.int (Int32.ofNat t)), .val (.int (Int32.ofNat u0)), .val (.int (Int32.ofNat u1)), .val (.int (Int32.ofNat u2)), .val (.ref b1), .val (.ref b95), .val (.ref b177), .val (.ref b229), .unset, .unset, .unset, .unset, .unset, .unset] [(.int x3), (.int x1), (.int (4 : Int32)), (.int x2), (.int (4 : Int32)), (.ref b229)])) (fun tt_ kk_ => XS.iloadN X347.here hx rfl (hb hby at_182) rfl kk_) ?_
  obtain ⟨r376, T376, L376, X376, hQ376, st376⟩ := callT (pc := 183) (Ls := #[.val (.int x0), .val (.int x1), .val (.int x2), .val (.int x3), .val (.int x4), .val (.int x5), .val (.int (Int32.ofNat t)), .val (.int (Int32.ofNat u0)), .val (.int (Int32.ofNat u1)), .val (.int (Int32.ofNat u2)), .val (.ref b1), .val (.ref b95), .val (.ref b177), .val (.ref b229), .unset, .unset, .unset, .unset, .unset, .unset]) X347 hx hZ hown eh347 [(.int x2), (.int (4 : Int32)), (.int x1), (.int x3)] [(.int (4 : Int32)), (.ref b229)] (hw _ (List.mem_of_getElem? (i := 116) rfl)) (hw _ (List.mem_of_getElem? (i := 117) rfl)) (hw _ (List.mem_of_getElem? (i := 28) rfl)) (hw _ (List.mem_of_getElem? (i := 118) rfl)) (by decide) (rm_own_pk l Z a0 hw [] x2 (4 : Int32) x1 x3 h347 n0 za375) pd_12 rfl (by rw [hml]; rfl) (W := 2) (Nat.le_of_eq rfl) (by decide) (by decide) (by decide) (by decide) (hb hby at_183)
  obtain ⟨rfl, N376q, eh376⟩ := hQ376
  have N376 := Fr.app N347 N376q
  refine Gq.go (T376.setTop (mkF m 186 #[.val (.int x0), .val (.int x1), .val (.int x2), .val (.int x3), .val (.int x4), .val (.int x5), .val (.int (Int32.ofNat t)), .val (.int (Int32.ofNat u0)), .val (.int (Int32.ofNat u1)), .val (.int (Int32.ofNat u2)), .val (.ref b1), .val (.ref b95), .val (.ref b177), .val (.ref b229), .unset, .unset, .unset, .unset, .unset, .unset] [(.int (own_pk x2 (4 : Int32) x1 x3)), (.int (4 : Int32)), (.ref b229)])) (fun tt_ kk_ => st376 tt_ kk_) ?_
  obtain ⟨T377, h377, X377, eh377, W377, st377⟩ := stoI X376 hx hZ eh376 V347 (j := (4 : Int32)) (i := 4) (x := (own_pk x2 (4 : Int32) x1 x3)) (Ls := #[.val (.int x0), .val (.int x1), .val (.int x2), .val (.int x3), .val (.int x4), .val (.int x5), .val (.int (Int32.ofNat t)), .val (.int (Int32.ofNat u0)), .val (.int (Int32.ofNat u1)), .val (.int (Int32.ofNat u2)), .val (.ref b1), .val (.ref b95), .val (.ref b177), .val (.ref b229), .unset, .unset, .unset, .unset, .unset, .unset]) (rest := []) (by decide) rfl (by decide) (hb hby at_186)
  have fa378 := fa348.wr W377 g_b229
  have fa379 := fa349.wr W377
  have fa380 := fa350.other W377 ne_b12_b229
  have fa381 := fa351.wr W377
  have fa382 := fa352.other W377 ne_b31_b229
  have fa383 := fa353.wr W377
  have fa384 := fa354.other W377 ne_b60_b229
  have fa385 := fa355.wr W377
  have fa386 := fa356.other W377 (Or.inl ne_b1_b229)
  have fa387 := fa357.other W377 (Or.inl ne_b1_b229)
  have fa388 := fa358.other W377 (Or.inl ne_b1_b229)
  have fa389 := fa359.other W377 ne_el20_b229
  have fa390 := fa360.wr W377
  have fa391 := fa361.other W377 ne_b95_b229
  have fa392 := fa362.wr W377
  have fa393 := fa363.other W377 (Or.inl ne_b177_b229)
  have fa394 := fa364.other W377 ne_fs199_b229
  have fa395 := fa365.wr W377
  have ta396 := Nat.lt_of_lt_of_le ta366 (Nat.le_of_eq W377.size.symm)
  have ta397 := Nat.lt_of_lt_of_le ta367 (Nat.le_of_eq W377.size.symm)
  have ta398 := Nat.lt_of_lt_of_le ta368 (Nat.le_of_eq W377.size.symm)
  have ta399 := Nat.lt_of_lt_of_le ta369 (Nat.le_of_eq W377.size.symm)
  have ta400 := Nat.lt_of_lt_of_le ta370 (Nat.le_of_eq W377.size.symm)
  have ta401 := Nat.lt_of_lt_of_le ta371 (Nat.le_of_eq W377.size.symm)
  have ta402 := Nat.lt_of_lt_of_le ta372 (Nat.le_of_eq W377.size.symm)
  have ta403 := Nat.lt_of_lt_of_le ta373 (Nat.le_of_eq W377.size.symm)
  have ta404 := Nat.lt_of_lt_of_le ta374 (Nat.le_of_eq W377.size.symm)
  have za405 : n0 ≤ h377.size := Nat.le_trans za375 (Nat.le_of_eq W377.size.symm)
  have V377 : LA Z h377 b229 .int 9 (gl [(.int (own_pk x2 (0 : Int32) x1 x3)), (.int (own_pk x2 (1 : Int32) x1 x3)), (.int (own_pk x2 (2 : Int32) x1 x3)), (.int (own_pk x2 (3 : Int32) x1 x3)), (.int (own_pk x2 (4 : Int32) x1 x3)), (.int (0 : Int32)), (.int (0 : Int32)), (.int (0 : Int32)), (.int (0 : Int32))] (.int (0 : Int32))) := V347.setL W377 (Nat.le_of_ble_eq_true rfl)
  have N377 := Fr.snoc X377 N376 g_b229
  refine Gq.go (T377.setTop (mkF m 187 #[.val (.int x0), .val (.int x1), .val (.int x2), .val (.int x3), .val (.int x4), .val (.int x5), .val (.int (Int32.ofNat t)), .val (.int (Int32.ofNat u0)), .val (.int (Int32.ofNat u1)), .val (.int (Int32.ofNat u2)), .val (.ref b1), .val (.ref b95), .val (.ref b177), .val (.ref b229), .unset, .unset, .unset, .unset, .unset, .unset] [])) (fun tt_ kk_ => st377 tt_ kk_) ?_
  refine Gq.go (T377.setTop (mkF m 189 #[.val (.int x0), .val (.int x1), .val (.int x2), .val (.int x3), .val (.int x4), .val (.int x5), .val (.int (Int32.ofNat t)), .val (.int (Int32.ofNat u0)), .val (.int (Int32.ofNat u1)), .val (.int (Int32.ofNat u2)), .val (.ref b1), .val (.ref b95), .val (.ref b177), .val (.ref b229), .unset, .unset, .unset, .unset, .unset, .unset] [(.ref b229)])) (fun tt_ kk_ => XS.aload X377.here hx rfl (hb hby at_187) rfl rfl kk_) ?_
  refine Gq.go (T377.setTop (mkF m 190 #[.val (.int x0), .val (.int x1), .val (.int x2), .val (.int x3), .val (.int x4), .val (.int x5), .val (.int (Int32.ofNat t)), .val (.int (Int32.ofNat u0)), .val (.int (Int32.ofNat u1)), .val (.int (Int32.ofNat u2)), .val (.ref b1), .val (.ref b95), .val (.ref b177), .val (.ref b229), .unset, .unset, .unset, .unset, .unset, .unset] [(.int (5 : Int32)), (.ref b229)])) (fun tt_ kk_ => XS.iconst X377.here hx rfl (hb hby at_189) kk_) ?_
  refine Gq.go (T377.setTop (mkF m 191 #[.val (.int x0), .val (.int x1), .val (.int x2), .val (.int x3), .val (.int x4), .val (.int x5), .val (.int (Int32.ofNat t)), .val (.int (Int32.ofNat u0)), .val (.int (Int32.ofNat u1)), .val (.int (Int32.ofNat u2)), .val (.ref b1), .val (.ref b95), .val (.ref b177), .val (.ref b229), .unset, .unset, .unset, .unset, .unset, .unset] [(.int x2), (.int (5 : Int32)), (.ref b229)])) (fun tt_ kk_ => XS.iloadN X377.here hx rfl (hb hby at_190) rfl kk_) ?_
  refine Gq.go (T377.setTop (mkF m 192 #[.val (.int x0), .val (.int x1), .val (.int x2), .val (.int x3), .val (.int x4), .val (.int x5), .val (.int (Int32.ofNat t)), .val (.int (Int32.ofNat u0)), .val (.int (Int32.ofNat u1)), .val (.int (Int32.ofNat u2)), .val (.ref b1), .val (.ref b95), .val (.ref b177), .val (.ref b229), .unset, .unset, .unset, .unset, .unset, .unset] [(.int (5 : Int32)), (.int x2), (.int (5 : Int32)), (.ref b229)])) (fun tt_ kk_ => XS.iconst X377.here hx rfl (hb hby at_191) kk_) ?_
  refine Gq.go (T377.setTop (mkF m 193 #[.val (.int x0), .val (.int x1), .val (.int x2), .val (.int x3), .val (.int x4), .val (.int x5), .val (.int (Int32.ofNat t)), .val (.int (Int32.ofNat u0)), .val (.int (Int32.ofNat u1)), .val (.int (Int32.ofNat u2)), .val (.ref b1), .val (.ref b95), .val (.ref b177), .val (.ref b229), .unset, .unset, .unset, .unset, .unset, .unset] [(.int x1), (.int (5 : Int32)), (.int x2), (.int (5 : Int32)), (.ref b229)])) (fun tt_ kk_ => XS.iloadN X377.here hx rfl (hb hby at_192) rfl kk_) ?_
  refine Gq.go (T377.setTop (mkF m 194 #[.val (.int x0), .val (.int x1), .val (.int x2), .val (.int x3), .val (.int x4), .val (.int x5), .val (.int (Int32.ofNat t)), .val (.int (Int32.ofNat u0)), .val (.int (Int32.ofNat u1)), .val (.int (Int32.ofNat u2)), .val (.ref b1), .val (.ref b95), .val (.ref b177), .val (.ref b229), .unset, .unset, .unset, .unset, .unset, .unset] [(.int x3), (.int x1), (.int (5 : Int32)), (.int x2), (.int (5 : Int32)), (.ref b229)])) (fun tt_ kk_ => XS.iloadN X377.here hx rfl (hb hby at_193) rfl kk_) ?_
  obtain ⟨r406, T406, L406, X406, hQ406, st406⟩ := callT (pc := 194) (Ls := #[.val (.int x0), .val (.int x1), .val (.int x2), .val (.int x3), .val (.int x4), .val (.int x5), .val (.int (Int32.ofNat t)), .val (.int (Int32.ofNat u0)), .val (.int (Int32.ofNat u1)), .val (.int (Int32.ofNat u2)), .val (.ref b1), .val (.ref b95), .val (.ref b177), .val (.ref b229), .unset, .unset, .unset, .unset, .unset, .unset]) X377 hx hZ hown eh377 [(.int x2), (.int (5 : Int32)), (.int x1), (.int x3)] [(.int (5 : Int32)), (.ref b229)] (hw _ (List.mem_of_getElem? (i := 116) rfl)) (hw _ (List.mem_of_getElem? (i := 117) rfl)) (hw _ (List.mem_of_getElem? (i := 28) rfl)) (hw _ (List.mem_of_getElem? (i := 118) rfl)) (by decide) (rm_own_pk l Z a0 hw [] x2 (5 : Int32) x1 x3 h377 n0 za405) pd_12 rfl (by rw [hml]; rfl) (W := 2) (Nat.le_of_eq rfl) (by decide) (by decide) (by decide) (by decide) (hb hby at_194)
  obtain ⟨rfl, N406q, eh406⟩ := hQ406
  have N406 := Fr.app N377 N406q
  refine Gq.go (T406.setTop (mkF m 197 #[.val (.int x0), .val (.int x1), .val (.int x2), .val (.int x3), .val (.int x4), .val (.int x5), .val (.int (Int32.ofNat t)), .val (.int (Int32.ofNat u0)), .val (.int (Int32.ofNat u1)), .val (.int (Int32.ofNat u2)), .val (.ref b1), .val (.ref b95), .val (.ref b177), .val (.ref b229), .unset, .unset, .unset, .unset, .unset, .unset] [(.int (own_pk x2 (5 : Int32) x1 x3)), (.int (5 : Int32)), (.ref b229)])) (fun tt_ kk_ => st406 tt_ kk_) ?_
  obtain ⟨T407, h407, X407, eh407, W407, st407⟩ := stoI X406 hx hZ eh406 V377 (j := (5 : Int32)) (i := 5) (x := (own_pk x2 (5 : Int32) x1 x3)) (Ls := #[.val (.int x0), .val (.int x1), .val (.int x2), .val (.int x3), .val (.int x4), .val (.int x5), .val (.int (Int32.ofNat t)), .val (.int (Int32.ofNat u0)), .val (.int (Int32.ofNat u1)), .val (.int (Int32.ofNat u2)), .val (.ref b1), .val (.ref b95), .val (.ref b177), .val (.ref b229), .unset, .unset, .unset, .unset, .unset, .unset]) (rest := []) (by decide) rfl (by decide) (hb hby at_197)
  have fa408 := fa378.wr W407 g_b229
  have fa409 := fa379.wr W407
  have fa410 := fa380.other W407 ne_b12_b229
  have fa411 := fa381.wr W407
  have fa412 := fa382.other W407 ne_b31_b229
  have fa413 := fa383.wr W407
  have fa414 := fa384.other W407 ne_b60_b229
  have fa415 := fa385.wr W407
  have fa416 := fa386.other W407 (Or.inl ne_b1_b229)
  have fa417 := fa387.other W407 (Or.inl ne_b1_b229)
  have fa418 := fa388.other W407 (Or.inl ne_b1_b229)
  have fa419 := fa389.other W407 ne_el20_b229
  have fa420 := fa390.wr W407
  have fa421 := fa391.other W407 ne_b95_b229
  have fa422 := fa392.wr W407
  have fa423 := fa393.other W407 (Or.inl ne_b177_b229)
  have fa424 := fa394.other W407 ne_fs199_b229
  have fa425 := fa395.wr W407
  have ta426 := Nat.lt_of_lt_of_le ta396 (Nat.le_of_eq W407.size.symm)
  have ta427 := Nat.lt_of_lt_of_le ta397 (Nat.le_of_eq W407.size.symm)
  have ta428 := Nat.lt_of_lt_of_le ta398 (Nat.le_of_eq W407.size.symm)
  have ta429 := Nat.lt_of_lt_of_le ta399 (Nat.le_of_eq W407.size.symm)
  have ta430 := Nat.lt_of_lt_of_le ta400 (Nat.le_of_eq W407.size.symm)
  have ta431 := Nat.lt_of_lt_of_le ta401 (Nat.le_of_eq W407.size.symm)
  have ta432 := Nat.lt_of_lt_of_le ta402 (Nat.le_of_eq W407.size.symm)
  have ta433 := Nat.lt_of_lt_of_le ta403 (Nat.le_of_eq W407.size.symm)
  have ta434 := Nat.lt_of_lt_of_le ta404 (Nat.le_of_eq W407.size.symm)
  have za435 : n0 ≤ h407.size := Nat.le_trans za405 (Nat.le_of_eq W407.size.symm)
  have V407 : LA Z h407 b229 .int 9 (gl [(.int (own_pk x2 (0 : Int32) x1 x3)), (.int (own_pk x2 (1 : Int32) x1 x3)), (.int (own_pk x2 (2 : Int32) x1 x3)), (.int (own_pk x2 (3 : Int32) x1 x3)), (.int (own_pk x2 (4 : Int32) x1 x3)), (.int (own_pk x2 (5 : Int32) x1 x3)), (.int (0 : Int32)), (.int (0 : Int32)), (.int (0 : Int32))] (.int (0 : Int32))) := V377.setL W407 (Nat.le_of_ble_eq_true rfl)
  have N407 := Fr.snoc X407 N406 g_b229
  refine Gq.go (T407.setTop (mkF m 198 #[.val (.int x0), .val (.int x1), .val (.int x2), .val (.int x3), .val (.int x4), .val (.int x5), .val (.int (Int32.ofNat t)), .val (.int (Int32.ofNat u0)), .val (.int (Int32.ofNat u1)), .val (.int (Int32.ofNat u2)), .val (.ref b1), .val (.ref b95), .val (.ref b177), .val (.ref b229), .unset, .unset, .unset, .unset, .unset, .unset] [])) (fun tt_ kk_ => st407 tt_ kk_) ?_
  refine Gq.go (T407.setTop (mkF m 200 #[.val (.int x0), .val (.int x1), .val (.int x2), .val (.int x3), .val (.int x4), .val (.int x5), .val (.int (Int32.ofNat t)), .val (.int (Int32.ofNat u0)), .val (.int (Int32.ofNat u1)), .val (.int (Int32.ofNat u2)), .val (.ref b1), .val (.ref b95), .val (.ref b177), .val (.ref b229), .unset, .unset, .unset, .unset, .unset, .unset] [(.ref b229)])) (fun tt_ kk_ => XS.aload X407.here hx rfl (hb hby at_198) rfl rfl kk_) ?_
  refine Gq.go (T407.setTop (mkF m 202 #[.val (.int x0), .val (.int x1), .val (.int x2), .val (.int x3), .val (.int x4), .val (.int x5), .val (.int (Int32.ofNat t)), .val (.int (Int32.ofNat u0)), .val (.int (Int32.ofNat u1)), .val (.int (Int32.ofNat u2)), .val (.ref b1), .val (.ref b95), .val (.ref b177), .val (.ref b229), .unset, .unset, .unset, .unset, .unset, .unset] [(.int (6 : Int32)), (.ref b229)])) (fun tt_ kk_ => XS.bipush X407.here hx rfl (hb hby at_200) kk_) ?_
  refine Gq.go (T407.setTop (mkF m 203 #[.val (.int x0), .val (.int x1), .val (.int x2), .val (.int x3), .val (.int x4), .val (.int x5), .val (.int (Int32.ofNat t)), .val (.int (Int32.ofNat u0)), .val (.int (Int32.ofNat u1)), .val (.int (Int32.ofNat u2)), .val (.ref b1), .val (.ref b95), .val (.ref b177), .val (.ref b229), .unset, .unset, .unset, .unset, .unset, .unset] [(.int x2), (.int (6 : Int32)), (.ref b229)])) (fun tt_ kk_ => XS.iloadN X407.here hx rfl (hb hby at_202) rfl kk_) ?_
  refine Gq.go (T407.setTop (mkF m 205 #[.val (.int x0), .val (.int x1), .val (.int x2), .val (.int x3), .val (.int x4), .val (.int x5), .val (.int (Int32.ofNat t)), .val (.int (Int32.ofNat u0)), .val (.int (Int32.ofNat u1)), .val (.int (Int32.ofNat u2)), .val (.ref b1), .val (.ref b95), .val (.ref b177), .val (.ref b229), .unset, .unset, .unset, .unset, .unset, .unset] [(.int (6 : Int32)), (.int x2), (.int (6 : Int32)), (.ref b229)])) (fun tt_ kk_ => XS.bipush X407.here hx rfl (hb hby at_203) kk_) ?_
  refine Gq.go (T407.setTop (mkF m 206 #[.val (.int x0), .val (.int x1), .val (.int x2), .val (.int x3), .val (.int x4), .val (.int x5), .val (.int (Int32.ofNat t)), .val (.int (Int32.ofNat u0)), .val (.int (Int32.ofNat u1)), .val (.int (Int32.ofNat u2)), .val (.ref b1), .val (.ref b95), .val (.ref b177), .val (.ref b229), .unset, .unset, .unset, .unset, .unset, .unset] [(.int x1), (.int (6 : Int32)), (.int x2), (.int (6 : Int32)), (.ref b229)])) (fun tt_ kk_ => XS.iloadN X407.here hx rfl (hb hby at_205) rfl kk_) ?_
  refine Gq.go (T407.setTop (mkF m 207 #[.val (.int x0), .val (.int x1), .val (.int x2), .val (.int x3), .val (.int x4), .val (.int x5), .val (.int (Int32.ofNat t)), .val (.int (Int32.ofNat u0)), .val (.int (Int32.ofNat u1)), .val (.int (Int32.ofNat u2)), .val (.ref b1), .val (.ref b95), .val (.ref b177), .val (.ref b229), .unset, .unset, .unset, .unset, .unset, .unset] [(.int x3), (.int x1), (.int (6 : Int32)), (.int x2), (.int (6 : Int32)), (.ref b229)])) (fun tt_ kk_ => XS.iloadN X407.here hx rfl (hb hby at_206) rfl kk_) ?_
  obtain ⟨r436, T436, L436, X436, hQ436, st436⟩ := callT (pc := 207) (Ls := #[.val (.int x0), .val (.int x1), .val (.int x2), .val (.int x3), .val (.int x4), .val (.int x5), .val (.int (Int32.ofNat t)), .val (.int (Int32.ofNat u0)), .val (.int (Int32.ofNat u1)), .val (.int (Int32.ofNat u2)), .val (.ref b1), .val (.ref b95), .val (.ref b177), .val (.ref b229), .unset, .unset, .unset, .unset, .unset, .unset]) X407 hx hZ hown eh407 [(.int x2), (.int (6 : Int32)), (.int x1), (.int x3)] [(.int (6 : Int32)), (.ref b229)] (hw _ (List.mem_of_getElem? (i := 116) rfl)) (hw _ (List.mem_of_getElem? (i := 117) rfl)) (hw _ (List.mem_of_getElem? (i := 28) rfl)) (hw _ (List.mem_of_getElem? (i := 118) rfl)) (by decide) (rm_own_pk l Z a0 hw [] x2 (6 : Int32) x1 x3 h407 n0 za435) pd_12 rfl (by rw [hml]; rfl) (W := 2) (Nat.le_of_eq rfl) (by decide) (by decide) (by decide) (by decide) (hb hby at_207)
  obtain ⟨rfl, N436q, eh436⟩ := hQ436
  have N436 := Fr.app N407 N436q
  refine Gq.go (T436.setTop (mkF m 210 #[.val (.int x0), .val (.int x1), .val (.int x2), .val (.int x3), .val (.int x4), .val (.int x5), .val (.int (Int32.ofNat t)), .val (.int (Int32.ofNat u0)), .val (.int (Int32.ofNat u1)), .val (.int (Int32.ofNat u2)), .val (.ref b1), .val (.ref b95), .val (.ref b177), .val (.ref b229), .unset, .unset, .unset, .unset, .unset, .unset] [(.int (own_pk x2 (6 : Int32) x1 x3)), (.int (6 : Int32)), (.ref b229)])) (fun tt_ kk_ => st436 tt_ kk_) ?_
  obtain ⟨T437, h437, X437, eh437, W437, st437⟩ := stoI X436 hx hZ eh436 V407 (j := (6 : Int32)) (i := 6) (x := (own_pk x2 (6 : Int32) x1 x3)) (Ls := #[.val (.int x0), .val (.int x1), .val (.int x2), .val (.int x3), .val (.int x4), .val (.int x5), .val (.int (Int32.ofNat t)), .val (.int (Int32.ofNat u0)), .val (.int (Int32.ofNat u1)), .val (.int (Int32.ofNat u2)), .val (.ref b1), .val (.ref b95), .val (.ref b177), .val (.ref b229), .unset, .unset, .unset, .unset, .unset, .unset]) (rest := []) (by decide) rfl (by decide) (hb hby at_210)
  have fa438 := fa408.wr W437 g_b229
  have fa439 := fa409.wr W437
  have fa440 := fa410.other W437 ne_b12_b229
  have fa441 := fa411.wr W437
  have fa442 := fa412.other W437 ne_b31_b229
  have fa443 := fa413.wr W437
  have fa444 := fa414.other W437 ne_b60_b229
  have fa445 := fa415.wr W437
  have fa446 := fa416.other W437 (Or.inl ne_b1_b229)
  have fa447 := fa417.other W437 (Or.inl ne_b1_b229)
  have fa448 := fa418.other W437 (Or.inl ne_b1_b229)
  have fa449 := fa419.other W437 ne_el20_b229
  have fa450 := fa420.wr W437
  have fa451 := fa421.other W437 ne_b95_b229
  have fa452 := fa422.wr W437
  have fa453 := fa423.other W437 (Or.inl ne_b177_b229)
  have fa454 := fa424.other W437 ne_fs199_b229
  have fa455 := fa425.wr W437
  have ta456 := Nat.lt_of_lt_of_le ta426 (Nat.le_of_eq W437.size.symm)
  have ta457 := Nat.lt_of_lt_of_le ta427 (Nat.le_of_eq W437.size.symm)
  have ta458 := Nat.lt_of_lt_of_le ta428 (Nat.le_of_eq W437.size.symm)
  have ta459 := Nat.lt_of_lt_of_le ta429 (Nat.le_of_eq W437.size.symm)
  have ta460 := Nat.lt_of_lt_of_le ta430 (Nat.le_of_eq W437.size.symm)
  have ta461 := Nat.lt_of_lt_of_le ta431 (Nat.le_of_eq W437.size.symm)
  have ta462 := Nat.lt_of_lt_of_le ta432 (Nat.le_of_eq W437.size.symm)
  have ta463 := Nat.lt_of_lt_of_le ta433 (Nat.le_of_eq W437.size.symm)
  have ta464 := Nat.lt_of_lt_of_le ta434 (Nat.le_of_eq W437.size.symm)
  have za465 : n0 ≤ h437.size := Nat.le_trans za435 (Nat.le_of_eq W437.size.symm)
  have V437 : LA Z h437 b229 .int 9 (gl [(.int (own_pk x2 (0 : Int32) x1 x3)), (.int (own_pk x2 (1 : Int32) x1 x3)), (.int (own_pk x2 (2 : Int32) x1 x3)), (.int (own_pk x2 (3 : Int32) x1 x3)), (.int (own_pk x2 (4 : Int32) x1 x3)), (.int (own_pk x2 (5 : Int32) x1 x3)), (.int (own_pk x2 (6 : Int32) x1 x3)), (.int (0 : Int32)), (.int (0 : Int32))] (.int (0 : Int32))) := V407.setL W437 (Nat.le_of_ble_eq_true rfl)
  have N437 := Fr.snoc X437 N436 g_b229
  refine Gq.go (T437.setTop (mkF m 211 #[.val (.int x0), .val (.int x1), .val (.int x2), .val (.int x3), .val (.int x4), .val (.int x5), .val (.int (Int32.ofNat t)), .val (.int (Int32.ofNat u0)), .val (.int (Int32.ofNat u1)), .val (.int (Int32.ofNat u2)), .val (.ref b1), .val (.ref b95), .val (.ref b177), .val (.ref b229), .unset, .unset, .unset, .unset, .unset, .unset] [])) (fun tt_ kk_ => st437 tt_ kk_) ?_
  refine Gq.go (T437.setTop (mkF m 213 #[.val (.int x0), .val (.int x1), .val (.int x2), .val (.int x3), .val (.int x4), .val (.int x5), .val (.int (Int32.ofNat t)), .val (.int (Int32.ofNat u0)), .val (.int (Int32.ofNat u1)), .val (.int (Int32.ofNat u2)), .val (.ref b1), .val (.ref b95), .val (.ref b177), .val (.ref b229), .unset, .unset, .unset, .unset, .unset, .unset] [(.ref b229)])) (fun tt_ kk_ => XS.aload X437.here hx rfl (hb hby at_211) rfl rfl kk_) ?_
  refine Gq.go (T437.setTop (mkF m 215 #[.val (.int x0), .val (.int x1), .val (.int x2), .val (.int x3), .val (.int x4), .val (.int x5), .val (.int (Int32.ofNat t)), .val (.int (Int32.ofNat u0)), .val (.int (Int32.ofNat u1)), .val (.int (Int32.ofNat u2)), .val (.ref b1), .val (.ref b95), .val (.ref b177), .val (.ref b229), .unset, .unset, .unset, .unset, .unset, .unset] [(.int (7 : Int32)), (.ref b229)])) (fun tt_ kk_ => XS.bipush X437.here hx rfl (hb hby at_213) kk_) ?_
  refine Gq.go (T437.setTop (mkF m 216 #[.val (.int x0), .val (.int x1), .val (.int x2), .val (.int x3), .val (.int x4), .val (.int x5), .val (.int (Int32.ofNat t)), .val (.int (Int32.ofNat u0)), .val (.int (Int32.ofNat u1)), .val (.int (Int32.ofNat u2)), .val (.ref b1), .val (.ref b95), .val (.ref b177), .val (.ref b229), .unset, .unset, .unset, .unset, .unset, .unset] [(.int x2), (.int (7 : Int32)), (.ref b229)])) (fun tt_ kk_ => XS.iloadN X437.here hx rfl (hb hby at_215) rfl kk_) ?_
  refine Gq.go (T437.setTop (mkF m 218 #[.val (.int x0), .val (.int x1), .val (.int x2), .val (.int x3), .val (.int x4), .val (.int x5), .val (.int (Int32.ofNat t)), .val (.int (Int32.ofNat u0)), .val (.int (Int32.ofNat u1)), .val (.int (Int32.ofNat u2)), .val (.ref b1), .val (.ref b95), .val (.ref b177), .val (.ref b229), .unset, .unset, .unset, .unset, .unset, .unset] [(.int (7 : Int32)), (.int x2), (.int (7 : Int32)), (.ref b229)])) (fun tt_ kk_ => XS.bipush X437.here hx rfl (hb hby at_216) kk_) ?_
  refine Gq.go (T437.setTop (mkF m 219 #[.val (.int x0), .val (.int x1), .val (.int x2), .val (.int x3), .val (.int x4), .val (.int x5), .val (.int (Int32.ofNat t)), .val (.int (Int32.ofNat u0)), .val (.int (Int32.ofNat u1)), .val (.int (Int32.ofNat u2)), .val (.ref b1), .val (.ref b95), .val (.ref b177), .val (.ref b229), .unset, .unset, .unset, .unset, .unset, .unset] [(.int x1), (.int (7 : Int32)), (.int x2), (.int (7 : Int32)), (.ref b229)])) (fun tt_ kk_ => XS.iloadN X437.here hx rfl (hb hby at_218) rfl kk_) ?_
  refine Gq.go (T437.setTop (mkF m 220 #[.val (.int x0), .val (.int x1), .val (.int x2), .val (.int x3), .val (.int x4), .val (.int x5), .val (.int (Int32.ofNat t)), .val (.int (Int32.ofNat u0)), .val (.int (Int32.ofNat u1)), .val (.int (Int32.ofNat u2)), .val (.ref b1), .val (.ref b95), .val (.ref b177), .val (.ref b229), .unset, .unset, .unset, .unset, .unset, .unset] [(.int x3), (.int x1), (.int (7 : Int32)), (.int x2), (.int (7 : Int32)), (.ref b229)])) (fun tt_ kk_ => XS.iloadN X437.here hx rfl (hb hby at_219) rfl kk_) ?_
  obtain ⟨r466, T466, L466, X466, hQ466, st466⟩ := callT (pc := 220) (Ls := #[.val (.int x0), .val (.int x1), .val (.int x2), .val (.int x3), .val (.int x4), .val (.int x5), .val (.int (Int32.ofNat t)), .val (.int (Int32.ofNat u0)), .val (.int (Int32.ofNat u1)), .val (.int (Int32.ofNat u2)), .val (.ref b1), .val (.ref b95), .val (.ref b177), .val (.ref b229), .unset, .unset, .unset, .unset, .unset, .unset]) X437 hx hZ hown eh437 [(.int x2), (.int (7 : Int32)), (.int x1), (.int x3)] [(.int (7 : Int32)), (.ref b229)] (hw _ (List.mem_of_getElem? (i := 116) rfl)) (hw _ (List.mem_of_getElem? (i := 117) rfl)) (hw _ (List.mem_of_getElem? (i := 28) rfl)) (hw _ (List.mem_of_getElem? (i := 118) rfl)) (by decide) (rm_own_pk l Z a0 hw [] x2 (7 : Int32) x1 x3 h437 n0 za465) pd_12 rfl (by rw [hml]; rfl) (W := 2) (Nat.le_of_eq rfl) (by decide) (by decide) (by decide) (by decide) (hb hby at_220)
  obtain ⟨rfl, N466q, eh466⟩ := hQ466
  have N466 := Fr.app N437 N466q
  refine Gq.go (T466.setTop (mkF m 223 #[.val (.int x0), .val (.int x1), .val (.int x2), .val (.int x3), .val (.int x4), .val (.int x5), .val (.int (Int32.ofNat t)), .val (.int (Int32.ofNat u0)), .val (.int (Int32.ofNat u1)), .val (.int (Int32.ofNat u2)), .val (.ref b1), .val (.ref b95), .val (.ref b177), .val (.ref b229), .unset, .unset, .unset, .unset, .unset, .unset] [(.int (own_pk x2 (7 : Int32) x1 x3)), (.int (7 : Int32)), (.ref b229)])) (fun tt_ kk_ => st466 tt_ kk_) ?_
  obtain ⟨T467, h467, X467, eh467, W467, st467⟩ := stoI X466 hx hZ eh466 V437 (j := (7 : Int32)) (i := 7) (x := (own_pk x2 (7 : Int32) x1 x3)) (Ls := #[.val (.int x0), .val (.int x1), .val (.int x2), .val (.int x3), .val (.int x4), .val (.int x5), .val (.int (Int32.ofNat t)), .val (.int (Int32.ofNat u0)), .val (.int (Int32.ofNat u1)), .val (.int (Int32.ofNat u2)), .val (.ref b1), .val (.ref b95), .val (.ref b177), .val (.ref b229), .unset, .unset, .unset, .unset, .unset, .unset]) (rest := []) (by decide) rfl (by decide) (hb hby at_223)
  have fa468 := fa438.wr W467 g_b229
  have fa469 := fa439.wr W467
  have fa470 := fa440.other W467 ne_b12_b229
  have fa471 := fa441.wr W467
  have fa472 := fa442.other W467 ne_b31_b229
  have fa473 := fa443.wr W467
  have fa474 := fa444.other W467 ne_b60_b229
  have fa475 := fa445.wr W467
  have fa476 := fa446.other W467 (Or.inl ne_b1_b229)
  have fa477 := fa447.other W467 (Or.inl ne_b1_b229)
  have fa478 := fa448.other W467 (Or.inl ne_b1_b229)
  have fa479 := fa449.other W467 ne_el20_b229
  have fa480 := fa450.wr W467
  have fa481 := fa451.other W467 ne_b95_b229
  have fa482 := fa452.wr W467
  have fa483 := fa453.other W467 (Or.inl ne_b177_b229)
  have fa484 := fa454.other W467 ne_fs199_b229
  have fa485 := fa455.wr W467
  have ta486 := Nat.lt_of_lt_of_le ta456 (Nat.le_of_eq W467.size.symm)
  have ta487 := Nat.lt_of_lt_of_le ta457 (Nat.le_of_eq W467.size.symm)
  have ta488 := Nat.lt_of_lt_of_le ta458 (Nat.le_of_eq W467.size.symm)
  have ta489 := Nat.lt_of_lt_of_le ta459 (Nat.le_of_eq W467.size.symm)
  have ta490 := Nat.lt_of_lt_of_le ta460 (Nat.le_of_eq W467.size.symm)
  have ta491 := Nat.lt_of_lt_of_le ta461 (Nat.le_of_eq W467.size.symm)
  have ta492 := Nat.lt_of_lt_of_le ta462 (Nat.le_of_eq W467.size.symm)
  have ta493 := Nat.lt_of_lt_of_le ta463 (Nat.le_of_eq W467.size.symm)
  have ta494 := Nat.lt_of_lt_of_le ta464 (Nat.le_of_eq W467.size.symm)
  have za495 : n0 ≤ h467.size := Nat.le_trans za465 (Nat.le_of_eq W467.size.symm)
  have V467 : LA Z h467 b229 .int 9 (gl [(.int (own_pk x2 (0 : Int32) x1 x3)), (.int (own_pk x2 (1 : Int32) x1 x3)), (.int (own_pk x2 (2 : Int32) x1 x3)), (.int (own_pk x2 (3 : Int32) x1 x3)), (.int (own_pk x2 (4 : Int32) x1 x3)), (.int (own_pk x2 (5 : Int32) x1 x3)), (.int (own_pk x2 (6 : Int32) x1 x3)), (.int (own_pk x2 (7 : Int32) x1 x3)), (.int (0 : Int32))] (.int (0 : Int32))) := V437.setL W467 (Nat.le_of_ble_eq_true rfl)
  have N467 := Fr.snoc X467 N466 g_b229
  refine Gq.go (T467.setTop (mkF m 224 #[.val (.int x0), .val (.int x1), .val (.int x2), .val (.int x3), .val (.int x4), .val (.int x5), .val (.int (Int32.ofNat t)), .val (.int (Int32.ofNat u0)), .val (.int (Int32.ofNat u1)), .val (.int (Int32.ofNat u2)), .val (.ref b1), .val (.ref b95), .val (.ref b177), .val (.ref b229), .unset, .unset, .unset, .unset, .unset, .unset] [])) (fun tt_ kk_ => st467 tt_ kk_) ?_
  refine Gq.go (T467.setTop (mkF m 226 #[.val (.int x0), .val (.int x1), .val (.int x2), .val (.int x3), .val (.int x4), .val (.int x5), .val (.int (Int32.ofNat t)), .val (.int (Int32.ofNat u0)), .val (.int (Int32.ofNat u1)), .val (.int (Int32.ofNat u2)), .val (.ref b1), .val (.ref b95), .val (.ref b177), .val (.ref b229), .unset, .unset, .unset, .unset, .unset, .unset] [(.ref b229)])) (fun tt_ kk_ => XS.aload X467.here hx rfl (hb hby at_224) rfl rfl kk_) ?_
  refine Gq.go (T467.setTop (mkF m 228 #[.val (.int x0), .val (.int x1), .val (.int x2), .val (.int x3), .val (.int x4), .val (.int x5), .val (.int (Int32.ofNat t)), .val (.int (Int32.ofNat u0)), .val (.int (Int32.ofNat u1)), .val (.int (Int32.ofNat u2)), .val (.ref b1), .val (.ref b95), .val (.ref b177), .val (.ref b229), .unset, .unset, .unset, .unset, .unset, .unset] [(.int (8 : Int32)), (.ref b229)])) (fun tt_ kk_ => XS.bipush X467.here hx rfl (hb hby at_226) kk_) ?_
  refine Gq.go (T467.setTop (mkF m 229 #[.val (.int x0), .val (.int x1), .val (.int x2), .val (.int x3), .val (.int x4), .val (.int x5), .val (.int (Int32.ofNat t)), .val (.int (Int32.ofNat u0)), .val (.int (Int32.ofNat u1)), .val (.int (Int32.ofNat u2)), .val (.ref b1), .val (.ref b95), .val (.ref b177), .val (.ref b229), .unset, .unset, .unset, .unset, .unset, .unset] [(.int x2), (.int (8 : Int32)), (.ref b229)])) (fun tt_ kk_ => XS.iloadN X467.here hx rfl (hb hby at_228) rfl kk_) ?_
  refine Gq.go (T467.setTop (mkF m 231 #[.val (.int x0), .val (.int x1), .val (.int x2), .val (.int x3), .val (.int x4), .val (.int x5), .val (.int (Int32.ofNat t)), .val (.int (Int32.ofNat u0)), .val (.int (Int32.ofNat u1)), .val (.int (Int32.ofNat u2)), .val (.ref b1), .val (.ref b95), .val (.ref b177), .val (.ref b229), .unset, .unset, .unset, .unset, .unset, .unset] [(.int (8 : Int32)), (.int x2), (.int (8 : Int32)), (.ref b229)])) (fun tt_ kk_ => XS.bipush X467.here hx rfl (hb hby at_229) kk_) ?_
  refine Gq.go (T467.setTop (mkF m 232 #[.val (.int x0), .val (.int x1), .val (.int x2), .val (.int x3), .val (.int x4), .val (.int x5), .val (.int (Int32.ofNat t)), .val (.int (Int32.ofNat u0)), .val (.int (Int32.ofNat u1)), .val (.int (Int32.ofNat u2)), .val (.ref b1), .val (.ref b95), .val (.ref b177), .val (.ref b229), .unset, .unset, .unset, .unset, .unset, .unset] [(.int x1), (.int (8 : Int32)), (.int x2), (.int (8 : Int32)), (.ref b229)])) (fun tt_ kk_ => XS.iloadN X467.here hx rfl (hb hby at_231) rfl kk_) ?_
  refine Gq.go (T467.setTop (mkF m 233 #[.val (.int x0), .val (.int x1), .val (.int x2), .val (.int x3), .val (.int x4), .val (.int x5), .val (.int (Int32.ofNat t)), .val (.int (Int32.ofNat u0)), .val (.int (Int32.ofNat u1)), .val (.int (Int32.ofNat u2)), .val (.ref b1), .val (.ref b95), .val (.ref b177), .val (.ref b229), .unset, .unset, .unset, .unset, .unset, .unset] [(.int x3), (.int x1), (.int (8 : Int32)), (.int x2), (.int (8 : Int32)), (.ref b229)])) (fun tt_ kk_ => XS.iloadN X467.here hx rfl (hb hby at_232) rfl kk_) ?_
  obtain ⟨r496, T496, L496, X496, hQ496, st496⟩ := callT (pc := 233) (Ls := #[.val (.int x0), .val (.int x1), .val (.int x2), .val (.int x3), .val (.int x4), .val (.int x5), .val (.int (Int32.ofNat t)), .val (.int (Int32.ofNat u0)), .val (.int (Int32.ofNat u1)), .val (.int (Int32.ofNat u2)), .val (.ref b1), .val (.ref b95), .val (.ref b177), .val (.ref b229), .unset, .unset, .unset, .unset, .unset, .unset]) X467 hx hZ hown eh467 [(.int x2), (.int (8 : Int32)), (.int x1), (.int x3)] [(.int (8 : Int32)), (.ref b229)] (hw _ (List.mem_of_getElem? (i := 116) rfl)) (hw _ (List.mem_of_getElem? (i := 117) rfl)) (hw _ (List.mem_of_getElem? (i := 28) rfl)) (hw _ (List.mem_of_getElem? (i := 118) rfl)) (by decide) (rm_own_pk l Z a0 hw [] x2 (8 : Int32) x1 x3 h467 n0 za495) pd_12 rfl (by rw [hml]; rfl) (W := 2) (Nat.le_of_eq rfl) (by decide) (by decide) (by decide) (by decide) (hb hby at_233)
  obtain ⟨rfl, N496q, eh496⟩ := hQ496
  have N496 := Fr.app N467 N496q
  refine Gq.go (T496.setTop (mkF m 236 #[.val (.int x0), .val (.int x1), .val (.int x2), .val (.int x3), .val (.int x4), .val (.int x5), .val (.int (Int32.ofNat t)), .val (.int (Int32.ofNat u0)), .val (.int (Int32.ofNat u1)), .val (.int (Int32.ofNat u2)), .val (.ref b1), .val (.ref b95), .val (.ref b177), .val (.ref b229), .unset, .unset, .unset, .unset, .unset, .unset] [(.int (own_pk x2 (8 : Int32) x1 x3)), (.int (8 : Int32)), (.ref b229)])) (fun tt_ kk_ => st496 tt_ kk_) ?_
  obtain ⟨T497, h497, X497, eh497, W497, st497⟩ := stoI X496 hx hZ eh496 V467 (j := (8 : Int32)) (i := 8) (x := (own_pk x2 (8 : Int32) x1 x3)) (Ls := #[.val (.int x0), .val (.int x1), .val (.int x2), .val (.int x3), .val (.int x4), .val (.int x5), .val (.int (Int32.ofNat t)), .val (.int (Int32.ofNat u0)), .val (.int (Int32.ofNat u1)), .val (.int (Int32.ofNat u2)), .val (.ref b1), .val (.ref b95), .val (.ref b177), .val (.ref b229), .unset, .unset, .unset, .unset, .unset, .unset]) (rest := []) (by decide) rfl (by decide) (hb hby at_236)
  have fa498 := fa468.wr W497 g_b229
  have fa499 := fa469.wr W497
  have fa500 := fa470.other W497 ne_b12_b229
  have fa501 := fa471.wr W497
  have fa502 := fa472.other W497 ne_b31_b229
  have fa503 := fa473.wr W497
  have fa504 := fa474.other W497 ne_b60_b229
  have fa505 := fa475.wr W497
  have fa506 := fa476.other W497 (Or.inl ne_b1_b229)
  have fa507 := fa477.other W497 (Or.inl ne_b1_b229)
  have fa508 := fa478.other W497 (Or.inl ne_b1_b229)
  have fa509 := fa479.other W497 ne_el20_b229
  have fa510 := fa480.wr W497
  have fa511 := fa481.other W497 ne_b95_b229
  have fa512 := fa482.wr W497
  have fa513 := fa483.other W497 (Or.inl ne_b177_b229)
  have fa514 := fa484.other W497 ne_fs199_b229
  have fa515 := fa485.wr W497
  have ta516 := Nat.lt_of_lt_of_le ta486 (Nat.le_of_eq W497.size.symm)
  have ta517 := Nat.lt_of_lt_of_le ta487 (Nat.le_of_eq W497.size.symm)
  have ta518 := Nat.lt_of_lt_of_le ta488 (Nat.le_of_eq W497.size.symm)
  have ta519 := Nat.lt_of_lt_of_le ta489 (Nat.le_of_eq W497.size.symm)
  have ta520 := Nat.lt_of_lt_of_le ta490 (Nat.le_of_eq W497.size.symm)
  have ta521 := Nat.lt_of_lt_of_le ta491 (Nat.le_of_eq W497.size.symm)
  have ta522 := Nat.lt_of_lt_of_le ta492 (Nat.le_of_eq W497.size.symm)
  have ta523 := Nat.lt_of_lt_of_le ta493 (Nat.le_of_eq W497.size.symm)
  have ta524 := Nat.lt_of_lt_of_le ta494 (Nat.le_of_eq W497.size.symm)
  have za525 : n0 ≤ h497.size := Nat.le_trans za495 (Nat.le_of_eq W497.size.symm)
  have V497 : LA Z h497 b229 .int 9 (gl [(.int (own_pk x2 (0 : Int32) x1 x3)), (.int (own_pk x2 (1 : Int32) x1 x3)), (.int (own_pk x2 (2 : Int32) x1 x3)), (.int (own_pk x2 (3 : Int32) x1 x3)), (.int (own_pk x2 (4 : Int32) x1 x3)), (.int (own_pk x2 (5 : Int32) x1 x3)), (.int (own_pk x2 (6 : Int32) x1 x3)), (.int (own_pk x2 (7 : Int32) x1 x3)), (.int (own_pk x2 (8 : Int32) x1 x3))] (.int (0 : Int32))) := V467.setL W497 (Nat.le_of_ble_eq_true rfl)
  have N497 := Fr.snoc X497 N496 g_b229
  refine Gq.go (T497.setTop (mkF m 237 #[.val (.int x0), .val (.int x1), .val (.int x2), .val (.int x3), .val (.int x4), .val (.int x5), .val (.int (Int32.ofNat t)), .val (.int (Int32.ofNat u0)), .val (.int (Int32.ofNat u1)), .val (.int (Int32.ofNat u2)), .val (.ref b1), .val (.ref b95), .val (.ref b177), .val (.ref b229), .unset, .unset, .unset, .unset, .unset, .unset] [])) (fun tt_ kk_ => st497 tt_ kk_) ?_
  refine Gq.go (T497.setTop (mkF m 239 #[.val (.int x0), .val (.int x1), .val (.int x2), .val (.int x3), .val (.int x4), .val (.int x5), .val (.int (Int32.ofNat t)), .val (.int (Int32.ofNat u0)), .val (.int (Int32.ofNat u1)), .val (.int (Int32.ofNat u2)), .val (.ref b1), .val (.ref b95), .val (.ref b177), .val (.ref b229), .unset, .unset, .unset, .unset, .unset, .unset] [(.int x4)])) (fun tt_ kk_ => XS.iload X497.here hx rfl (hb hby at_237) rfl kk_) ?_
  refine Gq.go (T497.setTop (mkF m 241 #[.val (.int x0), .val (.int x1), .val (.int x2), .val (.int x3), .val (.int x4), .val (.int x5), .val (.int (Int32.ofNat t)), .val (.int (Int32.ofNat u0)), .val (.int (Int32.ofNat u1)), .val (.int (Int32.ofNat u2)), .val (.ref b1), .val (.ref b95), .val (.ref b177), .val (.ref b229), .unset, .unset, .unset, .unset, .unset, .unset] [(.int (2147483632 : Int32)), (.int x4)])) (fun tt_ kk_ => X497.ldcInt hx hown (mvT hZ (hw _ (List.mem_of_getElem? (i := 119) rfl))) (g := (mkF m 239 #[.val (.int x0), .val (.int x1), .val (.int x2), .val (.int x3), .val (.int x4), .val (.int x5), .val (.int (Int32.ofNat t)), .val (.int (Int32.ofNat u0)), .val (.int (Int32.ofNat u1)), .val (.int (Int32.ofNat u2)), .val (.ref b1), .val (.ref b95), .val (.ref b177), .val (.ref b229), .unset, .unset, .unset, .unset, .unset, .unset] [(.int x4)])) rfl (hb hby at_239) _ kk_) ?_
  refine Gq.go (T497.setTop (mkF m 242 #[.val (.int x0), .val (.int x1), .val (.int x2), .val (.int x3), .val (.int x4), .val (.int x5), .val (.int (Int32.ofNat t)), .val (.int (Int32.ofNat u0)), .val (.int (Int32.ofNat u1)), .val (.int (Int32.ofNat u2)), .val (.ref b1), .val (.ref b95), .val (.ref b177), .val (.ref b229), .unset, .unset, .unset, .unset, .unset, .unset] [(.int (x4 &&& (2147483632 : Int32)))])) (fun tt_ kk_ => XS.iand X497.here hx rfl (hb hby at_241) rfl kk_) ?_
  refine Gq.go (T497.setTop (mkF m 244 #[.val (.int x0), .val (.int x1), .val (.int x2), .val (.int x3), .val (.int x4), .val (.int x5), .val (.int (Int32.ofNat t)), .val (.int (Int32.ofNat u0)), .val (.int (Int32.ofNat u1)), .val (.int (Int32.ofNat u2)), .val (.ref b1), .val (.ref b95), .val (.ref b177), .val (.ref b229), .val (.int (x4 &&& (2147483632 : Int32))), .unset, .unset, .unset, .unset, .unset] [])) (fun tt_ kk_ => XS.istore X497.here hx rfl (hb hby at_242) rfl (l' := #[.val (.int x0), .val (.int x1), .val (.int x2), .val (.int x3), .val (.int x4), .val (.int x5), .val (.int (Int32.ofNat t)), .val (.int (Int32.ofNat u0)), .val (.int (Int32.ofNat u1)), .val (.int (Int32.ofNat u2)), .val (.ref b1), .val (.ref b95), .val (.ref b177), .val (.ref b229), .val (.int (x4 &&& (2147483632 : Int32))), .unset, .unset, .unset, .unset, .unset]) rfl kk_) ?_
  refine Gq.go (T497.setTop (mkF m 246 #[.val (.int x0), .val (.int x1), .val (.int x2), .val (.int x3), .val (.int x4), .val (.int x5), .val (.int (Int32.ofNat t)), .val (.int (Int32.ofNat u0)), .val (.int (Int32.ofNat u1)), .val (.int (Int32.ofNat u2)), .val (.ref b1), .val (.ref b95), .val (.ref b177), .val (.ref b229), .val (.int (x4 &&& (2147483632 : Int32))), .unset, .unset, .unset, .unset, .unset] [(.int (9 : Int32))])) (fun tt_ kk_ => XS.bipush X497.here hx rfl (hb hby at_244) kk_) ?_
  obtain ⟨T526, h526, b526, X526, eh526, E526, aq526, V526, A526, st526⟩ := mkAE X497 hx hZ (hw _ (List.mem_of_getElem? (i := 30) rfl)) eh497 (z := (9 : Int32)) (n := 9) (Ls := #[.val (.int x0), .val (.int x1), .val (.int x2), .val (.int x3), .val (.int x4), .val (.int x5), .val (.int (Int32.ofNat t)), .val (.int (Int32.ofNat u0)), .val (.int (Int32.ofNat u1)), .val (.int (Int32.ofNat u2)), .val (.ref b1), .val (.ref b95), .val (.ref b177), .val (.ref b229), .val (.int (x4 &&& (2147483632 : Int32))), .unset, .unset, .unset, .unset, .unset]) (rest := []) (by decide) rfl (by decide) (by decide) (by decide) (ad := "[I") rfl (hb hby at_246)
  have g_b526 : n0 ≤ b526 := Nat.le_trans za525 (Nat.le_of_eq aq526.symm)
  have ne_b1_b526 : b1 ≠ b526 := Nat.ne_of_lt (Nat.lt_of_lt_of_le ta516 (Nat.le_of_eq aq526.symm))
  have ne_b12_b526 : b12 ≠ b526 := Nat.ne_of_lt (Nat.lt_of_lt_of_le ta517 (Nat.le_of_eq aq526.symm))
  have ne_el20_b526 : el20 ≠ b526 := Nat.ne_of_lt (Nat.lt_of_lt_of_le ta518 (Nat.le_of_eq aq526.symm))
  have ne_b31_b526 : b31 ≠ b526 := Nat.ne_of_lt (Nat.lt_of_lt_of_le ta519 (Nat.le_of_eq aq526.symm))
  have ne_b60_b526 : b60 ≠ b526 := Nat.ne_of_lt (Nat.lt_of_lt_of_le ta520 (Nat.le_of_eq aq526.symm))
  have ne_b95_b526 : b95 ≠ b526 := Nat.ne_of_lt (Nat.lt_of_lt_of_le ta521 (Nat.le_of_eq aq526.symm))
  have ne_b177_b526 : b177 ≠ b526 := Nat.ne_of_lt (Nat.lt_of_lt_of_le ta522 (Nat.le_of_eq aq526.symm))
  have ne_fs199_b526 : fs199 ≠ b526 := Nat.ne_of_lt (Nat.lt_of_lt_of_le ta523 (Nat.le_of_eq aq526.symm))
  have ne_b229_b526 : b229 ≠ b526 := Nat.ne_of_lt (Nat.lt_of_lt_of_le ta524 (Nat.le_of_eq aq526.symm))
  have fa527 := fa498.ext E526
  have fa528 := fa499.ext E526
  have fa529 := fa500.ext E526
  have fa530 := fa501.ext E526
  have fa531 := fa502.ext E526
  have fa532 := fa503.ext E526
  have fa533 := fa504.ext E526
  have fa534 := fa505.ext E526
  have fa535 := fa506.ext E526
  have fa536 := fa507.ext E526
  have fa537 := fa508.ext E526
  have fa538 := fa509.ext E526
  have fa539 := fa510.ext E526
  have fa540 := fa511.ext E526
  have fa541 := fa512.ext E526
  have fa542 := fa513.ext E526
  have fa543 := fa514.ext E526
  have fa544 := fa515.ext E526
  have fa545 := V497.ext E526
  have ta546 := Nat.lt_of_lt_of_le ta516 E526.1
  have ta547 := Nat.lt_of_lt_of_le ta517 E526.1
  have ta548 := Nat.lt_of_lt_of_le ta518 E526.1
  have ta549 := Nat.lt_of_lt_of_le ta519 E526.1
  have ta550 := Nat.lt_of_lt_of_le ta520 E526.1
  have ta551 := Nat.lt_of_lt_of_le ta521 E526.1
  have ta552 := Nat.lt_of_lt_of_le ta522 E526.1
  have ta553 := Nat.lt_of_lt_of_le ta523 E526.1
  have ta554 := Nat.lt_of_lt_of_le ta524 E526.1
  have za555 : n0 ≤ h526.size := Nat.le_trans za525 E526.1
  have V526' : LA Z h526 b526 .int 9 (gl [(.int (0 : Int32)), (.int (0 : Int32)), (.int (0 : Int32)), (.int (0 : Int32)), (.int (0 : Int32)), (.int (0 : Int32)), (.int (0 : Int32)), (.int (0 : Int32)), (.int (0 : Int32))] (.int (0 : Int32))) := V526.list
  have ta526' := V526'.lt
  refine Gq.go (T526.setTop (mkF m 248 #[.val (.int x0), .val (.int x1), .val (.int x2), .val (.int x3), .val (.int x4), .val (.int x5), .val (.int (Int32.ofNat t)), .val (.int (Int32.ofNat u0)), .val (.int (Int32.ofNat u1)), .val (.int (Int32.ofNat u2)), .val (.ref b1), .val (.ref b95), .val (.ref b177), .val (.ref b229), .val (.int (x4 &&& (2147483632 : Int32))), .unset, .unset, .unset, .unset, .unset] [(.ref b526)])) (fun tt_ kk_ => st526 tt_ kk_) ?_
  refine Gq.go (T526.setTop (mkF m 250 #[.val (.int x0), .val (.int x1), .val (.int x2), .val (.int x3), .val (.int x4), .val (.int x5), .val (.int (Int32.ofNat t)), .val (.int (Int32.ofNat u0)), .val (.int (Int32.ofNat u1)), .val (.int (Int32.ofNat u2)), .val (.ref b1), .val (.ref b95), .val (.ref b177), .val (.ref b229), .val (.int (x4 &&& (2147483632 : Int32))), .val (.ref b526), .unset, .unset, .unset, .unset] [])) (fun tt_ kk_ => XS.astore X526.here hx rfl (hb hby at_248) rfl rfl (l' := #[.val (.int x0), .val (.int x1), .val (.int x2), .val (.int x3), .val (.int x4), .val (.int x5), .val (.int (Int32.ofNat t)), .val (.int (Int32.ofNat u0)), .val (.int (Int32.ofNat u1)), .val (.int (Int32.ofNat u2)), .val (.ref b1), .val (.ref b95), .val (.ref b177), .val (.ref b229), .val (.int (x4 &&& (2147483632 : Int32))), .val (.ref b526), .unset, .unset, .unset, .unset]) rfl kk_) ?_
  refine Gq.go (T526.setTop (mkF m 252 #[.val (.int x0), .val (.int x1), .val (.int x2), .val (.int x3), .val (.int x4), .val (.int x5), .val (.int (Int32.ofNat t)), .val (.int (Int32.ofNat u0)), .val (.int (Int32.ofNat u1)), .val (.int (Int32.ofNat u2)), .val (.ref b1), .val (.ref b95), .val (.ref b177), .val (.ref b229), .val (.int (x4 &&& (2147483632 : Int32))), .val (.ref b526), .unset, .unset, .unset, .unset] [(.ref b526)])) (fun tt_ kk_ => XS.aload X526.here hx rfl (hb hby at_250) rfl rfl kk_) ?_
  refine Gq.go (T526.setTop (mkF m 253 #[.val (.int x0), .val (.int x1), .val (.int x2), .val (.int x3), .val (.int x4), .val (.int x5), .val (.int (Int32.ofNat t)), .val (.int (Int32.ofNat u0)), .val (.int (Int32.ofNat u1)), .val (.int (Int32.ofNat u2)), .val (.ref b1), .val (.ref b95), .val (.ref b177), .val (.ref b229), .val (.int (x4 &&& (2147483632 : Int32))), .val (.ref b526), .unset, .unset, .unset, .unset] [(.int (0 : Int32)), (.ref b526)])) (fun tt_ kk_ => XS.iconst X526.here hx rfl (hb hby at_252) kk_) ?_
  refine Gq.go (T526.setTop (mkF m 255 #[.val (.int x0), .val (.int x1), .val (.int x2), .val (.int x3), .val (.int x4), .val (.int x5), .val (.int (Int32.ofNat t)), .val (.int (Int32.ofNat u0)), .val (.int (Int32.ofNat u1)), .val (.int (Int32.ofNat u2)), .val (.ref b1), .val (.ref b95), .val (.ref b177), .val (.ref b229), .val (.int (x4 &&& (2147483632 : Int32))), .val (.ref b526), .unset, .unset, .unset, .unset] [(.int (x4 &&& (2147483632 : Int32))), (.int (0 : Int32)), (.ref b526)])) (fun tt_ kk_ => XS.iload X526.here hx rfl (hb hby at_253) rfl kk_) ?_
  refine Gq.go (T526.setTop (mkF m 256 #[.val (.int x0), .val (.int x1), .val (.int x2), .val (.int x3), .val (.int x4), .val (.int x5), .val (.int (Int32.ofNat t)), .val (.int (Int32.ofNat u0)), .val (.int (Int32.ofNat u1)), .val (.int (Int32.ofNat u2)), .val (.ref b1), .val (.ref b95), .val (.ref b177), .val (.ref b229), .val (.int (x4 &&& (2147483632 : Int32))), .val (.ref b526), .unset, .unset, .unset, .unset] [(.int (0 : Int32)), (.int (x4 &&& (2147483632 : Int32))), (.int (0 : Int32)), (.ref b526)])) (fun tt_ kk_ => XS.iconst X526.here hx rfl (hb hby at_255) kk_) ?_
  refine Gq.go (T526.setTop (mkF m 257 #[.val (.int x0), .val (.int x1), .val (.int x2), .val (.int x3), .val (.int x4), .val (.int x5), .val (.int (Int32.ofNat t)), .val (.int (Int32.ofNat u0)), .val (.int (Int32.ofNat u1)), .val (.int (Int32.ofNat u2)), .val (.ref b1), .val (.ref b95), .val (.ref b177), .val (.ref b229), .val (.int (x4 &&& (2147483632 : Int32))), .val (.ref b526), .unset, .unset, .unset, .unset] [(.int ((x4 &&& (2147483632 : Int32)) ||| (0 : Int32))), (.int (0 : Int32)), (.ref b526)])) (fun tt_ kk_ => XS.ior X526.here hx rfl (hb hby at_256) rfl kk_) ?_
  obtain ⟨T556, h556, X556, eh556, W556, st556⟩ := stoI X526 hx hZ eh526 V526' (j := (0 : Int32)) (i := 0) (x := ((x4 &&& (2147483632 : Int32)) ||| (0 : Int32))) (Ls := #[.val (.int x0), .val (.int x1), .val (.int x2), .val (.int x3), .val (.int x4), .val (.int x5), .val (.int (Int32.ofNat t)), .val (.int (Int32.ofNat u0)), .val (.int (Int32.ofNat u1)), .val (.int (Int32.ofNat u2)), .val (.ref b1), .val (.ref b95), .val (.ref b177), .val (.ref b229), .val (.int (x4 &&& (2147483632 : Int32))), .val (.ref b526), .unset, .unset, .unset, .unset]) (rest := []) (by decide) rfl (by decide) (hb hby at_257)
  have fa557 := fa527.wr W556 g_b526
  have fa558 := fa528.wr W556
  have fa559 := fa529.other W556 ne_b12_b526
  have fa560 := fa530.wr W556
  have fa561 := fa531.other W556 ne_b31_b526
  have fa562 := fa532.wr W556
  have fa563 := fa533.other W556 ne_b60_b526
  have fa564 := fa534.wr W556
  have fa565 := fa535.other W556 (Or.inl ne_b1_b526)
  have fa566 := fa536.other W556 (Or.inl ne_b1_b526)
  have fa567 := fa537.other W556 (Or.inl ne_b1_b526)
  have fa568 := fa538.other W556 ne_el20_b526
  have fa569 := fa539.wr W556
  have fa570 := fa540.other W556 ne_b95_b526
  have fa571 := fa541.wr W556
  have fa572 := fa542.other W556 (Or.inl ne_b177_b526)
  have fa573 := fa543.other W556 ne_fs199_b526
  have fa574 := fa544.wr W556
  have fa575 := fa545.other W556 ne_b229_b526
  have fa576 := A526.wr W556
  have ta577 := Nat.lt_of_lt_of_le ta546 (Nat.le_of_eq W556.size.symm)
  have ta578 := Nat.lt_of_lt_of_le ta547 (Nat.le_of_eq W556.size.symm)
  have ta579 := Nat.lt_of_lt_of_le ta548 (Nat.le_of_eq W556.size.symm)
  have ta580 := Nat.lt_of_lt_of_le ta549 (Nat.le_of_eq W556.size.symm)
  have ta581 := Nat.lt_of_lt_of_le ta550 (Nat.le_of_eq W556.size.symm)
  have ta582 := Nat.lt_of_lt_of_le ta551 (Nat.le_of_eq W556.size.symm)
  have ta583 := Nat.lt_of_lt_of_le ta552 (Nat.le_of_eq W556.size.symm)
  have ta584 := Nat.lt_of_lt_of_le ta553 (Nat.le_of_eq W556.size.symm)
  have ta585 := Nat.lt_of_lt_of_le ta554 (Nat.le_of_eq W556.size.symm)
  have ta586 := Nat.lt_of_lt_of_le ta526' (Nat.le_of_eq W556.size.symm)
  have za587 : n0 ≤ h556.size := Nat.le_trans za555 (Nat.le_of_eq W556.size.symm)
  have V556 : LA Z h556 b526 .int 9 (gl [(.int ((x4 &&& (2147483632 : Int32)) ||| (0 : Int32))), (.int (0 : Int32)), (.int (0 : Int32)), (.int (0 : Int32)), (.int (0 : Int32)), (.int (0 : Int32)), (.int (0 : Int32)), (.int (0 : Int32)), (.int (0 : Int32))] (.int (0 : Int32))) := V526'.setL W556 (Nat.le_of_ble_eq_true rfl)
  have N556 := Fr.snoc X556 N497 g_b526
  refine Gq.go (T556.setTop (mkF m 258 #[.val (.int x0), .val (.int x1), .val (.int x2), .val (.int x3), .val (.int x4), .val (.int x5), .val (.int (Int32.ofNat t)), .val (.int (Int32.ofNat u0)), .val (.int (Int32.ofNat u1)), .val (.int (Int32.ofNat u2)), .val (.ref b1), .val (.ref b95), .val (.ref b177), .val (.ref b229), .val (.int (x4 &&& (2147483632 : Int32))), .val (.ref b526), .unset, .unset, .unset, .unset] [])) (fun tt_ kk_ => st556 tt_ kk_) ?_
  refine Gq.go (T556.setTop (mkF m 260 #[.val (.int x0), .val (.int x1), .val (.int x2), .val (.int x3), .val (.int x4), .val (.int x5), .val (.int (Int32.ofNat t)), .val (.int (Int32.ofNat u0)), .val (.int (Int32.ofNat u1)), .val (.int (Int32.ofNat u2)), .val (.ref b1), .val (.ref b95), .val (.ref b177), .val (.ref b229), .val (.int (x4 &&& (2147483632 : Int32))), .val (.ref b526), .unset, .unset, .unset, .unset] [(.ref b526)])) (fun tt_ kk_ => XS.aload X556.here hx rfl (hb hby at_258) rfl rfl kk_) ?_
  refine Gq.go (T556.setTop (mkF m 261 #[.val (.int x0), .val (.int x1), .val (.int x2), .val (.int x3), .val (.int x4), .val (.int x5), .val (.int (Int32.ofNat t)), .val (.int (Int32.ofNat u0)), .val (.int (Int32.ofNat u1)), .val (.int (Int32.ofNat u2)), .val (.ref b1), .val (.ref b95), .val (.ref b177), .val (.ref b229), .val (.int (x4 &&& (2147483632 : Int32))), .val (.ref b526), .unset, .unset, .unset, .unset] [(.int (1 : Int32)), (.ref b526)])) (fun tt_ kk_ => XS.iconst X556.here hx rfl (hb hby at_260) kk_) ?_
  refine Gq.go (T556.setTop (mkF m 263 #[.val (.int x0), .val (.int x1), .val (.int x2), .val (.int x3), .val (.int x4), .val (.int x5), .val (.int (Int32.ofNat t)), .val (.int (Int32.ofNat u0)), .val (.int (Int32.ofNat u1)), .val (.int (Int32.ofNat u2)), .val (.ref b1), .val (.ref b95), .val (.ref b177), .val (.ref b229), .val (.int (x4 &&& (2147483632 : Int32))), .val (.ref b526), .unset, .unset, .unset, .unset] [(.int (x4 &&& (2147483632 : Int32))), (.int (1 : Int32)), (.ref b526)])) (fun tt_ kk_ => XS.iload X556.here hx rfl (hb hby at_261) rfl kk_) ?_
  refine Gq.go (T556.setTop (mkF m 264 #[.val (.int x0), .val (.int x1), .val (.int x2), .val (.int x3), .val (.int x4), .val (.int x5), .val (.int (Int32.ofNat t)), .val (.int (Int32.ofNat u0)), .val (.int (Int32.ofNat u1)), .val (.int (Int32.ofNat u2)), .val (.ref b1), .val (.ref b95), .val (.ref b177), .val (.ref b229), .val (.int (x4 &&& (2147483632 : Int32))), .val (.ref b526), .unset, .unset, .unset, .unset] [(.int (1 : Int32)), (.int (x4 &&& (2147483632 : Int32))), (.int (1 : Int32)), (.ref b526)])) (fun tt_ kk_ => XS.iconst X556.here hx rfl (hb hby at_263) kk_) ?_
  refine Gq.go (T556.setTop (mkF m 265 #[.val (.int x0), .val (.int x1), .val (.int x2), .val (.int x3), .val (.int x4), .val (.int x5), .val (.int (Int32.ofNat t)), .val (.int (Int32.ofNat u0)), .val (.int (Int32.ofNat u1)), .val (.int (Int32.ofNat u2)), .val (.ref b1), .val (.ref b95), .val (.ref b177), .val (.ref b229), .val (.int (x4 &&& (2147483632 : Int32))), .val (.ref b526), .unset, .unset, .unset, .unset] [(.int ((x4 &&& (2147483632 : Int32)) ||| (1 : Int32))), (.int (1 : Int32)), (.ref b526)])) (fun tt_ kk_ => XS.ior X556.here hx rfl (hb hby at_264) rfl kk_) ?_
  obtain ⟨T588, h588, X588, eh588, W588, st588⟩ := stoI X556 hx hZ eh556 V556 (j := (1 : Int32)) (i := 1) (x := ((x4 &&& (2147483632 : Int32)) ||| (1 : Int32))) (Ls := #[.val (.int x0), .val (.int x1), .val (.int x2), .val (.int x3), .val (.int x4), .val (.int x5), .val (.int (Int32.ofNat t)), .val (.int (Int32.ofNat u0)), .val (.int (Int32.ofNat u1)), .val (.int (Int32.ofNat u2)), .val (.ref b1), .val (.ref b95), .val (.ref b177), .val (.ref b229), .val (.int (x4 &&& (2147483632 : Int32))), .val (.ref b526), .unset, .unset, .unset, .unset]) (rest := []) (by decide) rfl (by decide) (hb hby at_265)
  have fa589 := fa557.wr W588 g_b526
  have fa590 := fa558.wr W588
  have fa591 := fa559.other W588 ne_b12_b526
  have fa592 := fa560.wr W588
  have fa593 := fa561.other W588 ne_b31_b526
  have fa594 := fa562.wr W588
  have fa595 := fa563.other W588 ne_b60_b526
  have fa596 := fa564.wr W588
  have fa597 := fa565.other W588 (Or.inl ne_b1_b526)
  have fa598 := fa566.other W588 (Or.inl ne_b1_b526)
  have fa599 := fa567.other W588 (Or.inl ne_b1_b526)
  have fa600 := fa568.other W588 ne_el20_b526
  have fa601 := fa569.wr W588
  have fa602 := fa570.other W588 ne_b95_b526
  have fa603 := fa571.wr W588
  have fa604 := fa572.other W588 (Or.inl ne_b177_b526)
  have fa605 := fa573.other W588 ne_fs199_b526
  have fa606 := fa574.wr W588
  have fa607 := fa575.other W588 ne_b229_b526
  have fa608 := fa576.wr W588
  have ta609 := Nat.lt_of_lt_of_le ta577 (Nat.le_of_eq W588.size.symm)
  have ta610 := Nat.lt_of_lt_of_le ta578 (Nat.le_of_eq W588.size.symm)
  have ta611 := Nat.lt_of_lt_of_le ta579 (Nat.le_of_eq W588.size.symm)
  have ta612 := Nat.lt_of_lt_of_le ta580 (Nat.le_of_eq W588.size.symm)
  have ta613 := Nat.lt_of_lt_of_le ta581 (Nat.le_of_eq W588.size.symm)
  have ta614 := Nat.lt_of_lt_of_le ta582 (Nat.le_of_eq W588.size.symm)
  have ta615 := Nat.lt_of_lt_of_le ta583 (Nat.le_of_eq W588.size.symm)
  have ta616 := Nat.lt_of_lt_of_le ta584 (Nat.le_of_eq W588.size.symm)
  have ta617 := Nat.lt_of_lt_of_le ta585 (Nat.le_of_eq W588.size.symm)
  have ta618 := Nat.lt_of_lt_of_le ta586 (Nat.le_of_eq W588.size.symm)
  have za619 : n0 ≤ h588.size := Nat.le_trans za587 (Nat.le_of_eq W588.size.symm)
  have V588 : LA Z h588 b526 .int 9 (gl [(.int ((x4 &&& (2147483632 : Int32)) ||| (0 : Int32))), (.int ((x4 &&& (2147483632 : Int32)) ||| (1 : Int32))), (.int (0 : Int32)), (.int (0 : Int32)), (.int (0 : Int32)), (.int (0 : Int32)), (.int (0 : Int32)), (.int (0 : Int32)), (.int (0 : Int32))] (.int (0 : Int32))) := V556.setL W588 (Nat.le_of_ble_eq_true rfl)
  have N588 := Fr.snoc X588 N556 g_b526
  refine Gq.go (T588.setTop (mkF m 266 #[.val (.int x0), .val (.int x1), .val (.int x2), .val (.int x3), .val (.int x4), .val (.int x5), .val (.int (Int32.ofNat t)), .val (.int (Int32.ofNat u0)), .val (.int (Int32.ofNat u1)), .val (.int (Int32.ofNat u2)), .val (.ref b1), .val (.ref b95), .val (.ref b177), .val (.ref b229), .val (.int (x4 &&& (2147483632 : Int32))), .val (.ref b526), .unset, .unset, .unset, .unset] [])) (fun tt_ kk_ => st588 tt_ kk_) ?_
  refine Gq.go (T588.setTop (mkF m 268 #[.val (.int x0), .val (.int x1), .val (.int x2), .val (.int x3), .val (.int x4), .val (.int x5), .val (.int (Int32.ofNat t)), .val (.int (Int32.ofNat u0)), .val (.int (Int32.ofNat u1)), .val (.int (Int32.ofNat u2)), .val (.ref b1), .val (.ref b95), .val (.ref b177), .val (.ref b229), .val (.int (x4 &&& (2147483632 : Int32))), .val (.ref b526), .unset, .unset, .unset, .unset] [(.ref b526)])) (fun tt_ kk_ => XS.aload X588.here hx rfl (hb hby at_266) rfl rfl kk_) ?_
  refine Gq.go (T588.setTop (mkF m 269 #[.val (.int x0), .val (.int x1), .val (.int x2), .val (.int x3), .val (.int x4), .val (.int x5), .val (.int (Int32.ofNat t)), .val (.int (Int32.ofNat u0)), .val (.int (Int32.ofNat u1)), .val (.int (Int32.ofNat u2)), .val (.ref b1), .val (.ref b95), .val (.ref b177), .val (.ref b229), .val (.int (x4 &&& (2147483632 : Int32))), .val (.ref b526), .unset, .unset, .unset, .unset] [(.int (2 : Int32)), (.ref b526)])) (fun tt_ kk_ => XS.iconst X588.here hx rfl (hb hby at_268) kk_) ?_
  refine Gq.go (T588.setTop (mkF m 271 #[.val (.int x0), .val (.int x1), .val (.int x2), .val (.int x3), .val (.int x4), .val (.int x5), .val (.int (Int32.ofNat t)), .val (.int (Int32.ofNat u0)), .val (.int (Int32.ofNat u1)), .val (.int (Int32.ofNat u2)), .val (.ref b1), .val (.ref b95), .val (.ref b177), .val (.ref b229), .val (.int (x4 &&& (2147483632 : Int32))), .val (.ref b526), .unset, .unset, .unset, .unset] [(.int (x4 &&& (2147483632 : Int32))), (.int (2 : Int32)), (.ref b526)])) (fun tt_ kk_ => XS.iload X588.here hx rfl (hb hby at_269) rfl kk_) ?_
  refine Gq.go (T588.setTop (mkF m 272 #[.val (.int x0), .val (.int x1), .val (.int x2), .val (.int x3), .val (.int x4), .val (.int x5), .val (.int (Int32.ofNat t)), .val (.int (Int32.ofNat u0)), .val (.int (Int32.ofNat u1)), .val (.int (Int32.ofNat u2)), .val (.ref b1), .val (.ref b95), .val (.ref b177), .val (.ref b229), .val (.int (x4 &&& (2147483632 : Int32))), .val (.ref b526), .unset, .unset, .unset, .unset] [(.int (2 : Int32)), (.int (x4 &&& (2147483632 : Int32))), (.int (2 : Int32)), (.ref b526)])) (fun tt_ kk_ => XS.iconst X588.here hx rfl (hb hby at_271) kk_) ?_
  refine Gq.go (T588.setTop (mkF m 273 #[.val (.int x0), .val (.int x1), .val (.int x2), .val (.int x3), .val (.int x4), .val (.int x5), .val (.int (Int32.ofNat t)), .val (.int (Int32.ofNat u0)), .val (.int (Int32.ofNat u1)), .val (.int (Int32.ofNat u2)), .val (.ref b1), .val (.ref b95), .val (.ref b177), .val (.ref b229), .val (.int (x4 &&& (2147483632 : Int32))), .val (.ref b526), .unset, .unset, .unset, .unset] [(.int ((x4 &&& (2147483632 : Int32)) ||| (2 : Int32))), (.int (2 : Int32)), (.ref b526)])) (fun tt_ kk_ => XS.ior X588.here hx rfl (hb hby at_272) rfl kk_) ?_
  obtain ⟨T620, h620, X620, eh620, W620, st620⟩ := stoI X588 hx hZ eh588 V588 (j := (2 : Int32)) (i := 2) (x := ((x4 &&& (2147483632 : Int32)) ||| (2 : Int32))) (Ls := #[.val (.int x0), .val (.int x1), .val (.int x2), .val (.int x3), .val (.int x4), .val (.int x5), .val (.int (Int32.ofNat t)), .val (.int (Int32.ofNat u0)), .val (.int (Int32.ofNat u1)), .val (.int (Int32.ofNat u2)), .val (.ref b1), .val (.ref b95), .val (.ref b177), .val (.ref b229), .val (.int (x4 &&& (2147483632 : Int32))), .val (.ref b526), .unset, .unset, .unset, .unset]) (rest := []) (by decide) rfl (by decide) (hb hby at_273)
  have fa621 := fa589.wr W620 g_b526
  have fa622 := fa590.wr W620
  have fa623 := fa591.other W620 ne_b12_b526
  have fa624 := fa592.wr W620
  have fa625 := fa593.other W620 ne_b31_b526
  have fa626 := fa594.wr W620
  have fa627 := fa595.other W620 ne_b60_b526
  have fa628 := fa596.wr W620
  have fa629 := fa597.other W620 (Or.inl ne_b1_b526)
  have fa630 := fa598.other W620 (Or.inl ne_b1_b526)
  have fa631 := fa599.other W620 (Or.inl ne_b1_b526)
  have fa632 := fa600.other W620 ne_el20_b526
  have fa633 := fa601.wr W620
  have fa634 := fa602.other W620 ne_b95_b526
  have fa635 := fa603.wr W620
  have fa636 := fa604.other W620 (Or.inl ne_b177_b526)
  have fa637 := fa605.other W620 ne_fs199_b526
  have fa638 := fa606.wr W620
  have fa639 := fa607.other W620 ne_b229_b526
  have fa640 := fa608.wr W620
  have ta641 := Nat.lt_of_lt_of_le ta609 (Nat.le_of_eq W620.size.symm)
  have ta642 := Nat.lt_of_lt_of_le ta610 (Nat.le_of_eq W620.size.symm)
  have ta643 := Nat.lt_of_lt_of_le ta611 (Nat.le_of_eq W620.size.symm)
  have ta644 := Nat.lt_of_lt_of_le ta612 (Nat.le_of_eq W620.size.symm)
  have ta645 := Nat.lt_of_lt_of_le ta613 (Nat.le_of_eq W620.size.symm)
  have ta646 := Nat.lt_of_lt_of_le ta614 (Nat.le_of_eq W620.size.symm)
  have ta647 := Nat.lt_of_lt_of_le ta615 (Nat.le_of_eq W620.size.symm)
  have ta648 := Nat.lt_of_lt_of_le ta616 (Nat.le_of_eq W620.size.symm)
  have ta649 := Nat.lt_of_lt_of_le ta617 (Nat.le_of_eq W620.size.symm)
  have ta650 := Nat.lt_of_lt_of_le ta618 (Nat.le_of_eq W620.size.symm)
  have za651 : n0 ≤ h620.size := Nat.le_trans za619 (Nat.le_of_eq W620.size.symm)
  have V620 : LA Z h620 b526 .int 9 (gl [(.int ((x4 &&& (2147483632 : Int32)) ||| (0 : Int32))), (.int ((x4 &&& (2147483632 : Int32)) ||| (1 : Int32))), (.int ((x4 &&& (2147483632 : Int32)) ||| (2 : Int32))), (.int (0 : Int32)), (.int (0 : Int32)), (.int (0 : Int32)), (.int (0 : Int32)), (.int (0 : Int32)), (.int (0 : Int32))] (.int (0 : Int32))) := V588.setL W620 (Nat.le_of_ble_eq_true rfl)
  have N620 := Fr.snoc X620 N588 g_b526
  refine Gq.go (T620.setTop (mkF m 274 #[.val (.int x0), .val (.int x1), .val (.int x2), .val (.int x3), .val (.int x4), .val (.int x5), .val (.int (Int32.ofNat t)), .val (.int (Int32.ofNat u0)), .val (.int (Int32.ofNat u1)), .val (.int (Int32.ofNat u2)), .val (.ref b1), .val (.ref b95), .val (.ref b177), .val (.ref b229), .val (.int (x4 &&& (2147483632 : Int32))), .val (.ref b526), .unset, .unset, .unset, .unset] [])) (fun tt_ kk_ => st620 tt_ kk_) ?_
  refine Gq.go (T620.setTop (mkF m 276 #[.val (.int x0), .val (.int x1), .val (.int x2), .val (.int x3), .val (.int x4), .val (.int x5), .val (.int (Int32.ofNat t)), .val (.int (Int32.ofNat u0)), .val (.int (Int32.ofNat u1)), .val (.int (Int32.ofNat u2)), .val (.ref b1), .val (.ref b95), .val (.ref b177), .val (.ref b229), .val (.int (x4 &&& (2147483632 : Int32))), .val (.ref b526), .unset, .unset, .unset, .unset] [(.ref b526)])) (fun tt_ kk_ => XS.aload X620.here hx rfl (hb hby at_274) rfl rfl kk_) ?_
  refine Gq.go (T620.setTop (mkF m 277 #[.val (.int x0), .val (.int x1), .val (.int x2), .val (.int x3), .val (.int x4), .val (.int x5), .val (.int (Int32.ofNat t)), .val (.int (Int32.ofNat u0)), .val (.int (Int32.ofNat u1)), .val (.int (Int32.ofNat u2)), .val (.ref b1), .val (.ref b95), .val (.ref b177), .val (.ref b229), .val (.int (x4 &&& (2147483632 : Int32))), .val (.ref b526), .unset, .unset, .unset, .unset] [(.int (3 : Int32)), (.ref b526)])) (fun tt_ kk_ => XS.iconst X620.here hx rfl (hb hby at_276) kk_) ?_
  refine Gq.go (T620.setTop (mkF m 279 #[.val (.int x0), .val (.int x1), .val (.int x2), .val (.int x3), .val (.int x4), .val (.int x5), .val (.int (Int32.ofNat t)), .val (.int (Int32.ofNat u0)), .val (.int (Int32.ofNat u1)), .val (.int (Int32.ofNat u2)), .val (.ref b1), .val (.ref b95), .val (.ref b177), .val (.ref b229), .val (.int (x4 &&& (2147483632 : Int32))), .val (.ref b526), .unset, .unset, .unset, .unset] [(.int (x4 &&& (2147483632 : Int32))), (.int (3 : Int32)), (.ref b526)])) (fun tt_ kk_ => XS.iload X620.here hx rfl (hb hby at_277) rfl kk_) ?_
  refine Gq.go (T620.setTop (mkF m 280 #[.val (.int x0), .val (.int x1), .val (.int x2), .val (.int x3), .val (.int x4), .val (.int x5), .val (.int (Int32.ofNat t)), .val (.int (Int32.ofNat u0)), .val (.int (Int32.ofNat u1)), .val (.int (Int32.ofNat u2)), .val (.ref b1), .val (.ref b95), .val (.ref b177), .val (.ref b229), .val (.int (x4 &&& (2147483632 : Int32))), .val (.ref b526), .unset, .unset, .unset, .unset] [(.int (3 : Int32)), (.int (x4 &&& (2147483632 : Int32))), (.int (3 : Int32)), (.ref b526)])) (fun tt_ kk_ => XS.iconst X620.here hx rfl (hb hby at_279) kk_) ?_
  refine Gq.go (T620.setTop (mkF m 281 #[.val (.int x0), .val (.int x1), .val (.int x2), .val (.int x3), .val (.int x4), .val (.int x5), .val (.int (Int32.ofNat t)), .val (.int (Int32.ofNat u0)), .val (.int (Int32.ofNat u1)), .val (.int (Int32.ofNat u2)), .val (.ref b1), .val (.ref b95), .val (.ref b177), .val (.ref b229), .val (.int (x4 &&& (2147483632 : Int32))), .val (.ref b526), .unset, .unset, .unset, .unset] [(.int ((x4 &&& (2147483632 : Int32)) ||| (3 : Int32))), (.int (3 : Int32)), (.ref b526)])) (fun tt_ kk_ => XS.ior X620.here hx rfl (hb hby at_280) rfl kk_) ?_
  obtain ⟨T652, h652, X652, eh652, W652, st652⟩ := stoI X620 hx hZ eh620 V620 (j := (3 : Int32)) (i := 3) (x := ((x4 &&& (2147483632 : Int32)) ||| (3 : Int32))) (Ls := #[.val (.int x0), .val (.int x1), .val (.int x2), .val (.int x3), .val (.int x4), .val (.int x5), .val (.int (Int32.ofNat t)), .val (.int (Int32.ofNat u0)), .val (.int (Int32.ofNat u1)), .val (.int (Int32.ofNat u2)), .val (.ref b1), .val (.ref b95), .val (.ref b177), .val (.ref b229), .val (.int (x4 &&& (2147483632 : Int32))), .val (.ref b526), .unset, .unset, .unset, .unset]) (rest := []) (by decide) rfl (by decide) (hb hby at_281)
  have fa653 := fa621.wr W652 g_b526
  have fa654 := fa622.wr W652
  have fa655 := fa623.other W652 ne_b12_b526
  have fa656 := fa624.wr W652
  have fa657 := fa625.other W652 ne_b31_b526
  have fa658 := fa626.wr W652
  have fa659 := fa627.other W652 ne_b60_b526
  have fa660 := fa628.wr W652
  have fa661 := fa629.other W652 (Or.inl ne_b1_b526)
  have fa662 := fa630.other W652 (Or.inl ne_b1_b526)
  have fa663 := fa631.other W652 (Or.inl ne_b1_b526)
  have fa664 := fa632.other W652 ne_el20_b526
  have fa665 := fa633.wr W652
  have fa666 := fa634.other W652 ne_b95_b526
  have fa667 := fa635.wr W652
  have fa668 := fa636.other W652 (Or.inl ne_b177_b526)
  have fa669 := fa637.other W652 ne_fs199_b526
  have fa670 := fa638.wr W652
  have fa671 := fa639.other W652 ne_b229_b526
  have fa672 := fa640.wr W652
  have ta673 := Nat.lt_of_lt_of_le ta641 (Nat.le_of_eq W652.size.symm)
  have ta674 := Nat.lt_of_lt_of_le ta642 (Nat.le_of_eq W652.size.symm)
  have ta675 := Nat.lt_of_lt_of_le ta643 (Nat.le_of_eq W652.size.symm)
  have ta676 := Nat.lt_of_lt_of_le ta644 (Nat.le_of_eq W652.size.symm)
  have ta677 := Nat.lt_of_lt_of_le ta645 (Nat.le_of_eq W652.size.symm)
  have ta678 := Nat.lt_of_lt_of_le ta646 (Nat.le_of_eq W652.size.symm)
  have ta679 := Nat.lt_of_lt_of_le ta647 (Nat.le_of_eq W652.size.symm)
  have ta680 := Nat.lt_of_lt_of_le ta648 (Nat.le_of_eq W652.size.symm)
  have ta681 := Nat.lt_of_lt_of_le ta649 (Nat.le_of_eq W652.size.symm)
  have ta682 := Nat.lt_of_lt_of_le ta650 (Nat.le_of_eq W652.size.symm)
  have za683 : n0 ≤ h652.size := Nat.le_trans za651 (Nat.le_of_eq W652.size.symm)
  have V652 : LA Z h652 b526 .int 9 (gl [(.int ((x4 &&& (2147483632 : Int32)) ||| (0 : Int32))), (.int ((x4 &&& (2147483632 : Int32)) ||| (1 : Int32))), (.int ((x4 &&& (2147483632 : Int32)) ||| (2 : Int32))), (.int ((x4 &&& (2147483632 : Int32)) ||| (3 : Int32))), (.int (0 : Int32)), (.int (0 : Int32)), (.int (0 : Int32)), (.int (0 : Int32)), (.int (0 : Int32))] (.int (0 : Int32))) := V620.setL W652 (Nat.le_of_ble_eq_true rfl)
  have N652 := Fr.snoc X652 N620 g_b526
  refine Gq.go (T652.setTop (mkF m 282 #[.val (.int x0), .val (.int x1), .val (.int x2), .val (.int x3), .val (.int x4), .val (.int x5), .val (.int (Int32.ofNat t)), .val (.int (Int32.ofNat u0)), .val (.int (Int32.ofNat u1)), .val (.int (Int32.ofNat u2)), .val (.ref b1), .val (.ref b95), .val (.ref b177), .val (.ref b229), .val (.int (x4 &&& (2147483632 : Int32))), .val (.ref b526), .unset, .unset, .unset, .unset] [])) (fun tt_ kk_ => st652 tt_ kk_) ?_
  refine Gq.go (T652.setTop (mkF m 284 #[.val (.int x0), .val (.int x1), .val (.int x2), .val (.int x3), .val (.int x4), .val (.int x5), .val (.int (Int32.ofNat t)), .val (.int (Int32.ofNat u0)), .val (.int (Int32.ofNat u1)), .val (.int (Int32.ofNat u2)), .val (.ref b1), .val (.ref b95), .val (.ref b177), .val (.ref b229), .val (.int (x4 &&& (2147483632 : Int32))), .val (.ref b526), .unset, .unset, .unset, .unset] [(.ref b526)])) (fun tt_ kk_ => XS.aload X652.here hx rfl (hb hby at_282) rfl rfl kk_) ?_
  refine Gq.go (T652.setTop (mkF m 285 #[.val (.int x0), .val (.int x1), .val (.int x2), .val (.int x3), .val (.int x4), .val (.int x5), .val (.int (Int32.ofNat t)), .val (.int (Int32.ofNat u0)), .val (.int (Int32.ofNat u1)), .val (.int (Int32.ofNat u2)), .val (.ref b1), .val (.ref b95), .val (.ref b177), .val (.ref b229), .val (.int (x4 &&& (2147483632 : Int32))), .val (.ref b526), .unset, .unset, .unset, .unset] [(.int (4 : Int32)), (.ref b526)])) (fun tt_ kk_ => XS.iconst X652.here hx rfl (hb hby at_284) kk_) ?_
  refine Gq.go (T652.setTop (mkF m 287 #[.val (.int x0), .val (.int x1), .val (.int x2), .val (.int x3), .val (.int x4), .val (.int x5), .val (.int (Int32.ofNat t)), .val (.int (Int32.ofNat u0)), .val (.int (Int32.ofNat u1)), .val (.int (Int32.ofNat u2)), .val (.ref b1), .val (.ref b95), .val (.ref b177), .val (.ref b229), .val (.int (x4 &&& (2147483632 : Int32))), .val (.ref b526), .unset, .unset, .unset, .unset] [(.int (x4 &&& (2147483632 : Int32))), (.int (4 : Int32)), (.ref b526)])) (fun tt_ kk_ => XS.iload X652.here hx rfl (hb hby at_285) rfl kk_) ?_
  refine Gq.go (T652.setTop (mkF m 288 #[.val (.int x0), .val (.int x1), .val (.int x2), .val (.int x3), .val (.int x4), .val (.int x5), .val (.int (Int32.ofNat t)), .val (.int (Int32.ofNat u0)), .val (.int (Int32.ofNat u1)), .val (.int (Int32.ofNat u2)), .val (.ref b1), .val (.ref b95), .val (.ref b177), .val (.ref b229), .val (.int (x4 &&& (2147483632 : Int32))), .val (.ref b526), .unset, .unset, .unset, .unset] [(.int (4 : Int32)), (.int (x4 &&& (2147483632 : Int32))), (.int (4 : Int32)), (.ref b526)])) (fun tt_ kk_ => XS.iconst X652.here hx rfl (hb hby at_287) kk_) ?_
  refine Gq.go (T652.setTop (mkF m 289 #[.val (.int x0), .val (.int x1), .val (.int x2), .val (.int x3), .val (.int x4), .val (.int x5), .val (.int (Int32.ofNat t)), .val (.int (Int32.ofNat u0)), .val (.int (Int32.ofNat u1)), .val (.int (Int32.ofNat u2)), .val (.ref b1), .val (.ref b95), .val (.ref b177), .val (.ref b229), .val (.int (x4 &&& (2147483632 : Int32))), .val (.ref b526), .unset, .unset, .unset, .unset] [(.int ((x4 &&& (2147483632 : Int32)) ||| (4 : Int32))), (.int (4 : Int32)), (.ref b526)])) (fun tt_ kk_ => XS.ior X652.here hx rfl (hb hby at_288) rfl kk_) ?_
  obtain ⟨T684, h684, X684, eh684, W684, st684⟩ := stoI X652 hx hZ eh652 V652 (j := (4 : Int32)) (i := 4) (x := ((x4 &&& (2147483632 : Int32)) ||| (4 : Int32))) (Ls := #[.val (.int x0), .val (.int x1), .val (.int x2), .val (.int x3), .val (.int x4), .val (.int x5), .val (.int (Int32.ofNat t)), .val (.int (Int32.ofNat u0)), .val (.int (Int32.ofNat u1)), .val (.int (Int32.ofNat u2)), .val (.ref b1), .val (.ref b95), .val (.ref b177), .val (.ref b229), .val (.int (x4 &&& (2147483632 : Int32))), .val (.ref b526), .unset, .unset, .unset, .unset]) (rest := []) (by decide) rfl (by decide) (hb hby at_289)
  have fa685 := fa653.wr W684 g_b526
  have fa686 := fa654.wr W684
  have fa687 := fa655.other W684 ne_b12_b526
  have fa688 := fa656.wr W684
  have fa689 := fa657.other W684 ne_b31_b526
  have fa690 := fa658.wr W684
  have fa691 := fa659.other W684 ne_b60_b526
  have fa692 := fa660.wr W684
  have fa693 := fa661.other W684 (Or.inl ne_b1_b526)
  have fa694 := fa662.other W684 (Or.inl ne_b1_b526)
  have fa695 := fa663.other W684 (Or.inl ne_b1_b526)
  have fa696 := fa664.other W684 ne_el20_b526
  have fa697 := fa665.wr W684
  have fa698 := fa666.other W684 ne_b95_b526
  have fa699 := fa667.wr W684
  have fa700 := fa668.other W684 (Or.inl ne_b177_b526)
  have fa701 := fa669.other W684 ne_fs199_b526
  have fa702 := fa670.wr W684
  have fa703 := fa671.other W684 ne_b229_b526
  have fa704 := fa672.wr W684
  have ta705 := Nat.lt_of_lt_of_le ta673 (Nat.le_of_eq W684.size.symm)
  have ta706 := Nat.lt_of_lt_of_le ta674 (Nat.le_of_eq W684.size.symm)
  have ta707 := Nat.lt_of_lt_of_le ta675 (Nat.le_of_eq W684.size.symm)
  have ta708 := Nat.lt_of_lt_of_le ta676 (Nat.le_of_eq W684.size.symm)
  have ta709 := Nat.lt_of_lt_of_le ta677 (Nat.le_of_eq W684.size.symm)
  have ta710 := Nat.lt_of_lt_of_le ta678 (Nat.le_of_eq W684.size.symm)
  have ta711 := Nat.lt_of_lt_of_le ta679 (Nat.le_of_eq W684.size.symm)
  have ta712 := Nat.lt_of_lt_of_le ta680 (Nat.le_of_eq W684.size.symm)
  have ta713 := Nat.lt_of_lt_of_le ta681 (Nat.le_of_eq W684.size.symm)
  have ta714 := Nat.lt_of_lt_of_le ta682 (Nat.le_of_eq W684.size.symm)
  have za715 : n0 ≤ h684.size := Nat.le_trans za683 (Nat.le_of_eq W684.size.symm)
  have V684 : LA Z h684 b526 .int 9 (gl [(.int ((x4 &&& (2147483632 : Int32)) ||| (0 : Int32))), (.int ((x4 &&& (2147483632 : Int32)) ||| (1 : Int32))), (.int ((x4 &&& (2147483632 : Int32)) ||| (2 : Int32))), (.int ((x4 &&& (2147483632 : Int32)) ||| (3 : Int32))), (.int ((x4 &&& (2147483632 : Int32)) ||| (4 : Int32))), (.int (0 : Int32)), (.int (0 : Int32)), (.int (0 : Int32)), (.int (0 : Int32))] (.int (0 : Int32))) := V652.setL W684 (Nat.le_of_ble_eq_true rfl)
  have N684 := Fr.snoc X684 N652 g_b526
  refine Gq.go (T684.setTop (mkF m 290 #[.val (.int x0), .val (.int x1), .val (.int x2), .val (.int x3), .val (.int x4), .val (.int x5), .val (.int (Int32.ofNat t)), .val (.int (Int32.ofNat u0)), .val (.int (Int32.ofNat u1)), .val (.int (Int32.ofNat u2)), .val (.ref b1), .val (.ref b95), .val (.ref b177), .val (.ref b229), .val (.int (x4 &&& (2147483632 : Int32))), .val (.ref b526), .unset, .unset, .unset, .unset] [])) (fun tt_ kk_ => st684 tt_ kk_) ?_
  refine Gq.go (T684.setTop (mkF m 292 #[.val (.int x0), .val (.int x1), .val (.int x2), .val (.int x3), .val (.int x4), .val (.int x5), .val (.int (Int32.ofNat t)), .val (.int (Int32.ofNat u0)), .val (.int (Int32.ofNat u1)), .val (.int (Int32.ofNat u2)), .val (.ref b1), .val (.ref b95), .val (.ref b177), .val (.ref b229), .val (.int (x4 &&& (2147483632 : Int32))), .val (.ref b526), .unset, .unset, .unset, .unset] [(.ref b526)])) (fun tt_ kk_ => XS.aload X684.here hx rfl (hb hby at_290) rfl rfl kk_) ?_
  refine Gq.go (T684.setTop (mkF m 293 #[.val (.int x0), .val (.int x1), .val (.int x2), .val (.int x3), .val (.int x4), .val (.int x5), .val (.int (Int32.ofNat t)), .val (.int (Int32.ofNat u0)), .val (.int (Int32.ofNat u1)), .val (.int (Int32.ofNat u2)), .val (.ref b1), .val (.ref b95), .val (.ref b177), .val (.ref b229), .val (.int (x4 &&& (2147483632 : Int32))), .val (.ref b526), .unset, .unset, .unset, .unset] [(.int (5 : Int32)), (.ref b526)])) (fun tt_ kk_ => XS.iconst X684.here hx rfl (hb hby at_292) kk_) ?_
  refine Gq.go (T684.setTop (mkF m 295 #[.val (.int x0), .val (.int x1), .val (.int x2), .val (.int x3), .val (.int x4), .val (.int x5), .val (.int (Int32.ofNat t)), .val (.int (Int32.ofNat u0)), .val (.int (Int32.ofNat u1)), .val (.int (Int32.ofNat u2)), .val (.ref b1), .val (.ref b95), .val (.ref b177), .val (.ref b229), .val (.int (x4 &&& (2147483632 : Int32))), .val (.ref b526), .unset, .unset, .unset, .unset] [(.int (x4 &&& (2147483632 : Int32))), (.int (5 : Int32)), (.ref b526)])) (fun tt_ kk_ => XS.iload X684.here hx rfl (hb hby at_293) rfl kk_) ?_
  refine Gq.go (T684.setTop (mkF m 296 #[.val (.int x0), .val (.int x1), .val (.int x2), .val (.int x3), .val (.int x4), .val (.int x5), .val (.int (Int32.ofNat t)), .val (.int (Int32.ofNat u0)), .val (.int (Int32.ofNat u1)), .val (.int (Int32.ofNat u2)), .val (.ref b1), .val (.ref b95), .val (.ref b177), .val (.ref b229), .val (.int (x4 &&& (2147483632 : Int32))), .val (.ref b526), .unset, .unset, .unset, .unset] [(.int (5 : Int32)), (.int (x4 &&& (2147483632 : Int32))), (.int (5 : Int32)), (.ref b526)])) (fun tt_ kk_ => XS.iconst X684.here hx rfl (hb hby at_295) kk_) ?_
  refine Gq.go (T684.setTop (mkF m 297 #[.val (.int x0), .val (.int x1), .val (.int x2), .val (.int x3), .val (.int x4), .val (.int x5), .val (.int (Int32.ofNat t)), .val (.int (Int32.ofNat u0)), .val (.int (Int32.ofNat u1)), .val (.int (Int32.ofNat u2)), .val (.ref b1), .val (.ref b95), .val (.ref b177), .val (.ref b229), .val (.int (x4 &&& (2147483632 : Int32))), .val (.ref b526), .unset, .unset, .unset, .unset] [(.int ((x4 &&& (2147483632 : Int32)) ||| (5 : Int32))), (.int (5 : Int32)), (.ref b526)])) (fun tt_ kk_ => XS.ior X684.here hx rfl (hb hby at_296) rfl kk_) ?_
  obtain ⟨T716, h716, X716, eh716, W716, st716⟩ := stoI X684 hx hZ eh684 V684 (j := (5 : Int32)) (i := 5) (x := ((x4 &&& (2147483632 : Int32)) ||| (5 : Int32))) (Ls := #[.val (.int x0), .val (.int x1), .val (.int x2), .val (.int x3), .val (.int x4), .val (.int x5), .val (.int (Int32.ofNat t)), .val (.int (Int32.ofNat u0)), .val (.int (Int32.ofNat u1)), .val (.int (Int32.ofNat u2)), .val (.ref b1), .val (.ref b95), .val (.ref b177), .val (.ref b229), .val (.int (x4 &&& (2147483632 : Int32))), .val (.ref b526), .unset, .unset, .unset, .unset]) (rest := []) (by decide) rfl (by decide) (hb hby at_297)
  have fa717 := fa685.wr W716 g_b526
  have fa718 := fa686.wr W716
  have fa719 := fa687.other W716 ne_b12_b526
  have fa720 := fa688.wr W716
  have fa721 := fa689.other W716 ne_b31_b526
  have fa722 := fa690.wr W716
  have fa723 := fa691.other W716 ne_b60_b526
  have fa724 := fa692.wr W716
  have fa725 := fa693.other W716 (Or.inl ne_b1_b526)
  have fa726 := fa694.other W716 (Or.inl ne_b1_b526)
  have fa727 := fa695.other W716 (Or.inl ne_b1_b526)
  have fa728 := fa696.other W716 ne_el20_b526
  have fa729 := fa697.wr W716
  have fa730 := fa698.other W716 ne_b95_b526
  have fa731 := fa699.wr W716
  have fa732 := fa700.other W716 (Or.inl ne_b177_b526)
  have fa733 := fa701.other W716 ne_fs199_b526
  have fa734 := fa702.wr W716
  have fa735 := fa703.other W716 ne_b229_b526
  have fa736 := fa704.wr W716
  have ta737 := Nat.lt_of_lt_of_le ta705 (Nat.le_of_eq W716.size.symm)
  have ta738 := Nat.lt_of_lt_of_le ta706 (Nat.le_of_eq W716.size.symm)
  have ta739 := Nat.lt_of_lt_of_le ta707 (Nat.le_of_eq W716.size.symm)
  have ta740 := Nat.lt_of_lt_of_le ta708 (Nat.le_of_eq W716.size.symm)
  have ta741 := Nat.lt_of_lt_of_le ta709 (Nat.le_of_eq W716.size.symm)
  have ta742 := Nat.lt_of_lt_of_le ta710 (Nat.le_of_eq W716.size.symm)
  have ta743 := Nat.lt_of_lt_of_le ta711 (Nat.le_of_eq W716.size.symm)
  have ta744 := Nat.lt_of_lt_of_le ta712 (Nat.le_of_eq W716.size.symm)
  have ta745 := Nat.lt_of_lt_of_le ta713 (Nat.le_of_eq W716.size.symm)
  have ta746 := Nat.lt_of_lt_of_le ta714 (Nat.le_of_eq W716.size.symm)
  have za747 : n0 ≤ h716.size := Nat.le_trans za715 (Nat.le_of_eq W716.size.symm)
  have V716 : LA Z h716 b526 .int 9 (gl [(.int ((x4 &&& (2147483632 : Int32)) ||| (0 : Int32))), (.int ((x4 &&& (2147483632 : Int32)) ||| (1 : Int32))), (.int ((x4 &&& (2147483632 : Int32)) ||| (2 : Int32))), (.int ((x4 &&& (2147483632 : Int32)) ||| (3 : Int32))), (.int ((x4 &&& (2147483632 : Int32)) ||| (4 : Int32))), (.int ((x4 &&& (2147483632 : Int32)) ||| (5 : Int32))), (.int (0 : Int32)), (.int (0 : Int32)), (.int (0 : Int32))] (.int (0 : Int32))) := V684.setL W716 (Nat.le_of_ble_eq_true rfl)
  have N716 := Fr.snoc X716 N684 g_b526
  refine Gq.go (T716.setTop (mkF m 298 #[.val (.int x0), .val (.int x1), .val (.int x2), .val (.int x3), .val (.int x4), .val (.int x5), .val (.int (Int32.ofNat t)), .val (.int (Int32.ofNat u0)), .val (.int (Int32.ofNat u1)), .val (.int (Int32.ofNat u2)), .val (.ref b1), .val (.ref b95), .val (.ref b177), .val (.ref b229), .val (.int (x4 &&& (2147483632 : Int32))), .val (.ref b526), .unset, .unset, .unset, .unset] [])) (fun tt_ kk_ => st716 tt_ kk_) ?_
  refine Gq.go (T716.setTop (mkF m 300 #[.val (.int x0), .val (.int x1), .val (.int x2), .val (.int x3), .val (.int x4), .val (.int x5), .val (.int (Int32.ofNat t)), .val (.int (Int32.ofNat u0)), .val (.int (Int32.ofNat u1)), .val (.int (Int32.ofNat u2)), .val (.ref b1), .val (.ref b95), .val (.ref b177), .val (.ref b229), .val (.int (x4 &&& (2147483632 : Int32))), .val (.ref b526), .unset, .unset, .unset, .unset] [(.ref b526)])) (fun tt_ kk_ => XS.aload X716.here hx rfl (hb hby at_298) rfl rfl kk_) ?_
  refine Gq.go (T716.setTop (mkF m 302 #[.val (.int x0), .val (.int x1), .val (.int x2), .val (.int x3), .val (.int x4), .val (.int x5), .val (.int (Int32.ofNat t)), .val (.int (Int32.ofNat u0)), .val (.int (Int32.ofNat u1)), .val (.int (Int32.ofNat u2)), .val (.ref b1), .val (.ref b95), .val (.ref b177), .val (.ref b229), .val (.int (x4 &&& (2147483632 : Int32))), .val (.ref b526), .unset, .unset, .unset, .unset] [(.int (6 : Int32)), (.ref b526)])) (fun tt_ kk_ => XS.bipush X716.here hx rfl (hb hby at_300) kk_) ?_
  refine Gq.go (T716.setTop (mkF m 304 #[.val (.int x0), .val (.int x1), .val (.int x2), .val (.int x3), .val (.int x4), .val (.int x5), .val (.int (Int32.ofNat t)), .val (.int (Int32.ofNat u0)), .val (.int (Int32.ofNat u1)), .val (.int (Int32.ofNat u2)), .val (.ref b1), .val (.ref b95), .val (.ref b177), .val (.ref b229), .val (.int (x4 &&& (2147483632 : Int32))), .val (.ref b526), .unset, .unset, .unset, .unset] [(.int (x4 &&& (2147483632 : Int32))), (.int (6 : Int32)), (.ref b526)])) (fun tt_ kk_ => XS.iload X716.here hx rfl (hb hby at_302) rfl kk_) ?_
  refine Gq.go (T716.setTop (mkF m 306 #[.val (.int x0), .val (.int x1), .val (.int x2), .val (.int x3), .val (.int x4), .val (.int x5), .val (.int (Int32.ofNat t)), .val (.int (Int32.ofNat u0)), .val (.int (Int32.ofNat u1)), .val (.int (Int32.ofNat u2)), .val (.ref b1), .val (.ref b95), .val (.ref b177), .val (.ref b229), .val (.int (x4 &&& (2147483632 : Int32))), .val (.ref b526), .unset, .unset, .unset, .unset] [(.int (6 : Int32)), (.int (x4 &&& (2147483632 : Int32))), (.int (6 : Int32)), (.ref b526)])) (fun tt_ kk_ => XS.bipush X716.here hx rfl (hb hby at_304) kk_) ?_
  refine Gq.go (T716.setTop (mkF m 307 #[.val (.int x0), .val (.int x1), .val (.int x2), .val (.int x3), .val (.int x4), .val (.int x5), .val (.int (Int32.ofNat t)), .val (.int (Int32.ofNat u0)), .val (.int (Int32.ofNat u1)), .val (.int (Int32.ofNat u2)), .val (.ref b1), .val (.ref b95), .val (.ref b177), .val (.ref b229), .val (.int (x4 &&& (2147483632 : Int32))), .val (.ref b526), .unset, .unset, .unset, .unset] [(.int ((x4 &&& (2147483632 : Int32)) ||| (6 : Int32))), (.int (6 : Int32)), (.ref b526)])) (fun tt_ kk_ => XS.ior X716.here hx rfl (hb hby at_306) rfl kk_) ?_
  obtain ⟨T748, h748, X748, eh748, W748, st748⟩ := stoI X716 hx hZ eh716 V716 (j := (6 : Int32)) (i := 6) (x := ((x4 &&& (2147483632 : Int32)) ||| (6 : Int32))) (Ls := #[.val (.int x0), .val (.int x1), .val (.int x2), .val (.int x3), .val (.int x4), .val (.int x5), .val (.int (Int32.ofNat t)), .val (.int (Int32.ofNat u0)), .val (.int (Int32.ofNat u1)), .val (.int (Int32.ofNat u2)), .val (.ref b1), .val (.ref b95), .val (.ref b177), .val (.ref b229), .val (.int (x4 &&& (2147483632 : Int32))), .val (.ref b526), .unset, .unset, .unset, .unset]) (rest := []) (by decide) rfl (by decide) (hb hby at_307)
  have fa749 := fa717.wr W748 g_b526
  have fa750 := fa718.wr W748
  have fa751 := fa719.other W748 ne_b12_b526
  have fa752 := fa720.wr W748
  have fa753 := fa721.other W748 ne_b31_b526
  have fa754 := fa722.wr W748
  have fa755 := fa723.other W748 ne_b60_b526
  have fa756 := fa724.wr W748
  have fa757 := fa725.other W748 (Or.inl ne_b1_b526)
  have fa758 := fa726.other W748 (Or.inl ne_b1_b526)
  have fa759 := fa727.other W748 (Or.inl ne_b1_b526)
  have fa760 := fa728.other W748 ne_el20_b526
  have fa761 := fa729.wr W748
  have fa762 := fa730.other W748 ne_b95_b526
  have fa763 := fa731.wr W748
  have fa764 := fa732.other W748 (Or.inl ne_b177_b526)
  have fa765 := fa733.other W748 ne_fs199_b526
  have fa766 := fa734.wr W748
  have fa767 := fa735.other W748 ne_b229_b526
  have fa768 := fa736.wr W748
  have ta769 := Nat.lt_of_lt_of_le ta737 (Nat.le_of_eq W748.size.symm)
  have ta770 := Nat.lt_of_lt_of_le ta738 (Nat.le_of_eq W748.size.symm)
  have ta771 := Nat.lt_of_lt_of_le ta739 (Nat.le_of_eq W748.size.symm)
  have ta772 := Nat.lt_of_lt_of_le ta740 (Nat.le_of_eq W748.size.symm)
  have ta773 := Nat.lt_of_lt_of_le ta741 (Nat.le_of_eq W748.size.symm)
  have ta774 := Nat.lt_of_lt_of_le ta742 (Nat.le_of_eq W748.size.symm)
  have ta775 := Nat.lt_of_lt_of_le ta743 (Nat.le_of_eq W748.size.symm)
  have ta776 := Nat.lt_of_lt_of_le ta744 (Nat.le_of_eq W748.size.symm)
  have ta777 := Nat.lt_of_lt_of_le ta745 (Nat.le_of_eq W748.size.symm)
  have ta778 := Nat.lt_of_lt_of_le ta746 (Nat.le_of_eq W748.size.symm)
  have za779 : n0 ≤ h748.size := Nat.le_trans za747 (Nat.le_of_eq W748.size.symm)
  have V748 : LA Z h748 b526 .int 9 (gl [(.int ((x4 &&& (2147483632 : Int32)) ||| (0 : Int32))), (.int ((x4 &&& (2147483632 : Int32)) ||| (1 : Int32))), (.int ((x4 &&& (2147483632 : Int32)) ||| (2 : Int32))), (.int ((x4 &&& (2147483632 : Int32)) ||| (3 : Int32))), (.int ((x4 &&& (2147483632 : Int32)) ||| (4 : Int32))), (.int ((x4 &&& (2147483632 : Int32)) ||| (5 : Int32))), (.int ((x4 &&& (2147483632 : Int32)) ||| (6 : Int32))), (.int (0 : Int32)), (.int (0 : Int32))] (.int (0 : Int32))) := V716.setL W748 (Nat.le_of_ble_eq_true rfl)
  have N748 := Fr.snoc X748 N716 g_b526
  refine Gq.go (T748.setTop (mkF m 308 #[.val (.int x0), .val (.int x1), .val (.int x2), .val (.int x3), .val (.int x4), .val (.int x5), .val (.int (Int32.ofNat t)), .val (.int (Int32.ofNat u0)), .val (.int (Int32.ofNat u1)), .val (.int (Int32.ofNat u2)), .val (.ref b1), .val (.ref b95), .val (.ref b177), .val (.ref b229), .val (.int (x4 &&& (2147483632 : Int32))), .val (.ref b526), .unset, .unset, .unset, .unset] [])) (fun tt_ kk_ => st748 tt_ kk_) ?_
  refine Gq.go (T748.setTop (mkF m 310 #[.val (.int x0), .val (.int x1), .val (.int x2), .val (.int x3), .val (.int x4), .val (.int x5), .val (.int (Int32.ofNat t)), .val (.int (Int32.ofNat u0)), .val (.int (Int32.ofNat u1)), .val (.int (Int32.ofNat u2)), .val (.ref b1), .val (.ref b95), .val (.ref b177), .val (.ref b229), .val (.int (x4 &&& (2147483632 : Int32))), .val (.ref b526), .unset, .unset, .unset, .unset] [(.ref b526)])) (fun tt_ kk_ => XS.aload X748.here hx rfl (hb hby at_308) rfl rfl kk_) ?_
  refine Gq.go (T748.setTop (mkF m 312 #[.val (.int x0), .val (.int x1), .val (.int x2), .val (.int x3), .val (.int x4), .val (.int x5), .val (.int (Int32.ofNat t)), .val (.int (Int32.ofNat u0)), .val (.int (Int32.ofNat u1)), .val (.int (Int32.ofNat u2)), .val (.ref b1), .val (.ref b95), .val (.ref b177), .val (.ref b229), .val (.int (x4 &&& (2147483632 : Int32))), .val (.ref b526), .unset, .unset, .unset, .unset] [(.int (7 : Int32)), (.ref b526)])) (fun tt_ kk_ => XS.bipush X748.here hx rfl (hb hby at_310) kk_) ?_
  refine Gq.go (T748.setTop (mkF m 314 #[.val (.int x0), .val (.int x1), .val (.int x2), .val (.int x3), .val (.int x4), .val (.int x5), .val (.int (Int32.ofNat t)), .val (.int (Int32.ofNat u0)), .val (.int (Int32.ofNat u1)), .val (.int (Int32.ofNat u2)), .val (.ref b1), .val (.ref b95), .val (.ref b177), .val (.ref b229), .val (.int (x4 &&& (2147483632 : Int32))), .val (.ref b526), .unset, .unset, .unset, .unset] [(.int (x4 &&& (2147483632 : Int32))), (.int (7 : Int32)), (.ref b526)])) (fun tt_ kk_ => XS.iload X748.here hx rfl (hb hby at_312) rfl kk_) ?_
  refine Gq.go (T748.setTop (mkF m 316 #[.val (.int x0), .val (.int x1), .val (.int x2), .val (.int x3), .val (.int x4), .val (.int x5), .val (.int (Int32.ofNat t)), .val (.int (Int32.ofNat u0)), .val (.int (Int32.ofNat u1)), .val (.int (Int32.ofNat u2)), .val (.ref b1), .val (.ref b95), .val (.ref b177), .val (.ref b229), .val (.int (x4 &&& (2147483632 : Int32))), .val (.ref b526), .unset, .unset, .unset, .unset] [(.int (7 : Int32)), (.int (x4 &&& (2147483632 : Int32))), (.int (7 : Int32)), (.ref b526)])) (fun tt_ kk_ => XS.bipush X748.here hx rfl (hb hby at_314) kk_) ?_
  refine Gq.go (T748.setTop (mkF m 317 #[.val (.int x0), .val (.int x1), .val (.int x2), .val (.int x3), .val (.int x4), .val (.int x5), .val (.int (Int32.ofNat t)), .val (.int (Int32.ofNat u0)), .val (.int (Int32.ofNat u1)), .val (.int (Int32.ofNat u2)), .val (.ref b1), .val (.ref b95), .val (.ref b177), .val (.ref b229), .val (.int (x4 &&& (2147483632 : Int32))), .val (.ref b526), .unset, .unset, .unset, .unset] [(.int ((x4 &&& (2147483632 : Int32)) ||| (7 : Int32))), (.int (7 : Int32)), (.ref b526)])) (fun tt_ kk_ => XS.ior X748.here hx rfl (hb hby at_316) rfl kk_) ?_
  obtain ⟨T780, h780, X780, eh780, W780, st780⟩ := stoI X748 hx hZ eh748 V748 (j := (7 : Int32)) (i := 7) (x := ((x4 &&& (2147483632 : Int32)) ||| (7 : Int32))) (Ls := #[.val (.int x0), .val (.int x1), .val (.int x2), .val (.int x3), .val (.int x4), .val (.int x5), .val (.int (Int32.ofNat t)), .val (.int (Int32.ofNat u0)), .val (.int (Int32.ofNat u1)), .val (.int (Int32.ofNat u2)), .val (.ref b1), .val (.ref b95), .val (.ref b177), .val (.ref b229), .val (.int (x4 &&& (2147483632 : Int32))), .val (.ref b526), .unset, .unset, .unset, .unset]) (rest := []) (by decide) rfl (by decide) (hb hby at_317)
  have fa781 := fa749.wr W780 g_b526
  have fa782 := fa750.wr W780
  have fa783 := fa751.other W780 ne_b12_b526
  have fa784 := fa752.wr W780
  have fa785 := fa753.other W780 ne_b31_b526
  have fa786 := fa754.wr W780
  have fa787 := fa755.other W780 ne_b60_b526
  have fa788 := fa756.wr W780
  have fa789 := fa757.other W780 (Or.inl ne_b1_b526)
  have fa790 := fa758.other W780 (Or.inl ne_b1_b526)
  have fa791 := fa759.other W780 (Or.inl ne_b1_b526)
  have fa792 := fa760.other W780 ne_el20_b526
  have fa793 := fa761.wr W780
  have fa794 := fa762.other W780 ne_b95_b526
  have fa795 := fa763.wr W780
  have fa796 := fa764.other W780 (Or.inl ne_b177_b526)
  have fa797 := fa765.other W780 ne_fs199_b526
  have fa798 := fa766.wr W780
  have fa799 := fa767.other W780 ne_b229_b526
  have fa800 := fa768.wr W780
  have ta801 := Nat.lt_of_lt_of_le ta769 (Nat.le_of_eq W780.size.symm)
  have ta802 := Nat.lt_of_lt_of_le ta770 (Nat.le_of_eq W780.size.symm)
  have ta803 := Nat.lt_of_lt_of_le ta771 (Nat.le_of_eq W780.size.symm)
  have ta804 := Nat.lt_of_lt_of_le ta772 (Nat.le_of_eq W780.size.symm)
  have ta805 := Nat.lt_of_lt_of_le ta773 (Nat.le_of_eq W780.size.symm)
  have ta806 := Nat.lt_of_lt_of_le ta774 (Nat.le_of_eq W780.size.symm)
  have ta807 := Nat.lt_of_lt_of_le ta775 (Nat.le_of_eq W780.size.symm)
  have ta808 := Nat.lt_of_lt_of_le ta776 (Nat.le_of_eq W780.size.symm)
  have ta809 := Nat.lt_of_lt_of_le ta777 (Nat.le_of_eq W780.size.symm)
  have ta810 := Nat.lt_of_lt_of_le ta778 (Nat.le_of_eq W780.size.symm)
  have za811 : n0 ≤ h780.size := Nat.le_trans za779 (Nat.le_of_eq W780.size.symm)
  have V780 : LA Z h780 b526 .int 9 (gl [(.int ((x4 &&& (2147483632 : Int32)) ||| (0 : Int32))), (.int ((x4 &&& (2147483632 : Int32)) ||| (1 : Int32))), (.int ((x4 &&& (2147483632 : Int32)) ||| (2 : Int32))), (.int ((x4 &&& (2147483632 : Int32)) ||| (3 : Int32))), (.int ((x4 &&& (2147483632 : Int32)) ||| (4 : Int32))), (.int ((x4 &&& (2147483632 : Int32)) ||| (5 : Int32))), (.int ((x4 &&& (2147483632 : Int32)) ||| (6 : Int32))), (.int ((x4 &&& (2147483632 : Int32)) ||| (7 : Int32))), (.int (0 : Int32))] (.int (0 : Int32))) := V748.setL W780 (Nat.le_of_ble_eq_true rfl)
  have N780 := Fr.snoc X780 N748 g_b526
  refine Gq.go (T780.setTop (mkF m 318 #[.val (.int x0), .val (.int x1), .val (.int x2), .val (.int x3), .val (.int x4), .val (.int x5), .val (.int (Int32.ofNat t)), .val (.int (Int32.ofNat u0)), .val (.int (Int32.ofNat u1)), .val (.int (Int32.ofNat u2)), .val (.ref b1), .val (.ref b95), .val (.ref b177), .val (.ref b229), .val (.int (x4 &&& (2147483632 : Int32))), .val (.ref b526), .unset, .unset, .unset, .unset] [])) (fun tt_ kk_ => st780 tt_ kk_) ?_
  refine Gq.go (T780.setTop (mkF m 320 #[.val (.int x0), .val (.int x1), .val (.int x2), .val (.int x3), .val (.int x4), .val (.int x5), .val (.int (Int32.ofNat t)), .val (.int (Int32.ofNat u0)), .val (.int (Int32.ofNat u1)), .val (.int (Int32.ofNat u2)), .val (.ref b1), .val (.ref b95), .val (.ref b177), .val (.ref b229), .val (.int (x4 &&& (2147483632 : Int32))), .val (.ref b526), .unset, .unset, .unset, .unset] [(.ref b526)])) (fun tt_ kk_ => XS.aload X780.here hx rfl (hb hby at_318) rfl rfl kk_) ?_
  refine Gq.go (T780.setTop (mkF m 322 #[.val (.int x0), .val (.int x1), .val (.int x2), .val (.int x3), .val (.int x4), .val (.int x5), .val (.int (Int32.ofNat t)), .val (.int (Int32.ofNat u0)), .val (.int (Int32.ofNat u1)), .val (.int (Int32.ofNat u2)), .val (.ref b1), .val (.ref b95), .val (.ref b177), .val (.ref b229), .val (.int (x4 &&& (2147483632 : Int32))), .val (.ref b526), .unset, .unset, .unset, .unset] [(.int (8 : Int32)), (.ref b526)])) (fun tt_ kk_ => XS.bipush X780.here hx rfl (hb hby at_320) kk_) ?_
  refine Gq.go (T780.setTop (mkF m 324 #[.val (.int x0), .val (.int x1), .val (.int x2), .val (.int x3), .val (.int x4), .val (.int x5), .val (.int (Int32.ofNat t)), .val (.int (Int32.ofNat u0)), .val (.int (Int32.ofNat u1)), .val (.int (Int32.ofNat u2)), .val (.ref b1), .val (.ref b95), .val (.ref b177), .val (.ref b229), .val (.int (x4 &&& (2147483632 : Int32))), .val (.ref b526), .unset, .unset, .unset, .unset] [(.int (x4 &&& (2147483632 : Int32))), (.int (8 : Int32)), (.ref b526)])) (fun tt_ kk_ => XS.iload X780.here hx rfl (hb hby at_322) rfl kk_) ?_
  refine Gq.go (T780.setTop (mkF m 326 #[.val (.int x0), .val (.int x1), .val (.int x2), .val (.int x3), .val (.int x4), .val (.int x5), .val (.int (Int32.ofNat t)), .val (.int (Int32.ofNat u0)), .val (.int (Int32.ofNat u1)), .val (.int (Int32.ofNat u2)), .val (.ref b1), .val (.ref b95), .val (.ref b177), .val (.ref b229), .val (.int (x4 &&& (2147483632 : Int32))), .val (.ref b526), .unset, .unset, .unset, .unset] [(.int (8 : Int32)), (.int (x4 &&& (2147483632 : Int32))), (.int (8 : Int32)), (.ref b526)])) (fun tt_ kk_ => XS.bipush X780.here hx rfl (hb hby at_324) kk_) ?_
  refine Gq.go (T780.setTop (mkF m 327 #[.val (.int x0), .val (.int x1), .val (.int x2), .val (.int x3), .val (.int x4), .val (.int x5), .val (.int (Int32.ofNat t)), .val (.int (Int32.ofNat u0)), .val (.int (Int32.ofNat u1)), .val (.int (Int32.ofNat u2)), .val (.ref b1), .val (.ref b95), .val (.ref b177), .val (.ref b229), .val (.int (x4 &&& (2147483632 : Int32))), .val (.ref b526), .unset, .unset, .unset, .unset] [(.int ((x4 &&& (2147483632 : Int32)) ||| (8 : Int32))), (.int (8 : Int32)), (.ref b526)])) (fun tt_ kk_ => XS.ior X780.here hx rfl (hb hby at_326) rfl kk_) ?_
  obtain ⟨T812, h812, X812, eh812, W812, st812⟩ := stoI X780 hx hZ eh780 V780 (j := (8 : Int32)) (i := 8) (x := ((x4 &&& (2147483632 : Int32)) ||| (8 : Int32))) (Ls := #[.val (.int x0), .val (.int x1), .val (.int x2), .val (.int x3), .val (.int x4), .val (.int x5), .val (.int (Int32.ofNat t)), .val (.int (Int32.ofNat u0)), .val (.int (Int32.ofNat u1)), .val (.int (Int32.ofNat u2)), .val (.ref b1), .val (.ref b95), .val (.ref b177), .val (.ref b229), .val (.int (x4 &&& (2147483632 : Int32))), .val (.ref b526), .unset, .unset, .unset, .unset]) (rest := []) (by decide) rfl (by decide) (hb hby at_327)
  have fa813 := fa781.wr W812 g_b526
  have fa814 := fa782.wr W812
  have fa815 := fa783.other W812 ne_b12_b526
  have fa816 := fa784.wr W812
  have fa817 := fa785.other W812 ne_b31_b526
  have fa818 := fa786.wr W812
  have fa819 := fa787.other W812 ne_b60_b526
  have fa820 := fa788.wr W812
  have fa821 := fa789.other W812 (Or.inl ne_b1_b526)
  have fa822 := fa790.other W812 (Or.inl ne_b1_b526)
  have fa823 := fa791.other W812 (Or.inl ne_b1_b526)
  have fa824 := fa792.other W812 ne_el20_b526
  have fa825 := fa793.wr W812
  have fa826 := fa794.other W812 ne_b95_b526
  have fa827 := fa795.wr W812
  have fa828 := fa796.other W812 (Or.inl ne_b177_b526)
  have fa829 := fa797.other W812 ne_fs199_b526
  have fa830 := fa798.wr W812
  have fa831 := fa799.other W812 ne_b229_b526
  have fa832 := fa800.wr W812
  have ta833 := Nat.lt_of_lt_of_le ta801 (Nat.le_of_eq W812.size.symm)
  have ta834 := Nat.lt_of_lt_of_le ta802 (Nat.le_of_eq W812.size.symm)
  have ta835 := Nat.lt_of_lt_of_le ta803 (Nat.le_of_eq W812.size.symm)
  have ta836 := Nat.lt_of_lt_of_le ta804 (Nat.le_of_eq W812.size.symm)
  have ta837 := Nat.lt_of_lt_of_le ta805 (Nat.le_of_eq W812.size.symm)
  have ta838 := Nat.lt_of_lt_of_le ta806 (Nat.le_of_eq W812.size.symm)
  have ta839 := Nat.lt_of_lt_of_le ta807 (Nat.le_of_eq W812.size.symm)
  have ta840 := Nat.lt_of_lt_of_le ta808 (Nat.le_of_eq W812.size.symm)
  have ta841 := Nat.lt_of_lt_of_le ta809 (Nat.le_of_eq W812.size.symm)
  have ta842 := Nat.lt_of_lt_of_le ta810 (Nat.le_of_eq W812.size.symm)
  have za843 : n0 ≤ h812.size := Nat.le_trans za811 (Nat.le_of_eq W812.size.symm)
  have V812 : LA Z h812 b526 .int 9 (gl [(.int ((x4 &&& (2147483632 : Int32)) ||| (0 : Int32))), (.int ((x4 &&& (2147483632 : Int32)) ||| (1 : Int32))), (.int ((x4 &&& (2147483632 : Int32)) ||| (2 : Int32))), (.int ((x4 &&& (2147483632 : Int32)) ||| (3 : Int32))), (.int ((x4 &&& (2147483632 : Int32)) ||| (4 : Int32))), (.int ((x4 &&& (2147483632 : Int32)) ||| (5 : Int32))), (.int ((x4 &&& (2147483632 : Int32)) ||| (6 : Int32))), (.int ((x4 &&& (2147483632 : Int32)) ||| (7 : Int32))), (.int ((x4 &&& (2147483632 : Int32)) ||| (8 : Int32)))] (.int (0 : Int32))) := V780.setL W812 (Nat.le_of_ble_eq_true rfl)
  have N812 := Fr.snoc X812 N780 g_b526
  refine Gq.go (T812.setTop (mkF m 328 #[.val (.int x0), .val (.int x1), .val (.int x2), .val (.int x3), .val (.int x4), .val (.int x5), .val (.int (Int32.ofNat t)), .val (.int (Int32.ofNat u0)), .val (.int (Int32.ofNat u1)), .val (.int (Int32.ofNat u2)), .val (.ref b1), .val (.ref b95), .val (.ref b177), .val (.ref b229), .val (.int (x4 &&& (2147483632 : Int32))), .val (.ref b526), .unset, .unset, .unset, .unset] [])) (fun tt_ kk_ => st812 tt_ kk_) ?_
  obtain ⟨B, hBdef⟩ : ∃ B : Nat → Int32, B = fun j => [(own_pk x2 (0 : Int32) x1 x3), (own_pk x2 (1 : Int32) x1 x3), (own_pk x2 (2 : Int32) x1 x3), (own_pk x2 (3 : Int32) x1 x3), (own_pk x2 (4 : Int32) x1 x3), (own_pk x2 (5 : Int32) x1 x3), (own_pk x2 (6 : Int32) x1 x3), (own_pk x2 (7 : Int32) x1 x3), (own_pk x2 (8 : Int32) x1 x3)].getD j 0 := ⟨_, rfl⟩
  have VB : LA Z h812 b229 .int 9 (fun j => .int (B j)) := by rw [hBdef]; exact fa831.congr fun j _ => own_glmap [(own_pk x2 (0 : Int32) x1 x3), (own_pk x2 (1 : Int32) x1 x3), (own_pk x2 (2 : Int32) x1 x3), (own_pk x2 (3 : Int32) x1 x3), (own_pk x2 (4 : Int32) x1 x3), (own_pk x2 (5 : Int32) x1 x3), (own_pk x2 (6 : Int32) x1 x3), (own_pk x2 (7 : Int32) x1 x3), (own_pk x2 (8 : Int32) x1 x3)] j
  obtain ⟨RR, hRdef⟩ : ∃ R : Nat → Int32, R = own_R (x4 &&& (2147483632 : Int32)) := ⟨_, rfl⟩
  have VR : LA Z h812 b526 .int 9 (fun j => .int (RR j)) := by rw [hRdef]; exact V812.congr fun j _ => own_glmap [((x4 &&& (2147483632 : Int32)) ||| (0 : Int32)), ((x4 &&& (2147483632 : Int32)) ||| (1 : Int32)), ((x4 &&& (2147483632 : Int32)) ||| (2 : Int32)), ((x4 &&& (2147483632 : Int32)) ||| (3 : Int32)), ((x4 &&& (2147483632 : Int32)) ||| (4 : Int32)), ((x4 &&& (2147483632 : Int32)) ||| (5 : Int32)), ((x4 &&& (2147483632 : Int32)) ||| (6 : Int32)), ((x4 &&& (2147483632 : Int32)) ||| (7 : Int32)), ((x4 &&& (2147483632 : Int32)) ||| (8 : Int32))] j
  have hR : ∀ j, j < 9 → RR j ≠ -1 := by rw [hRdef]; exact own_hR x4
  have hcase : t = 0 ∨ t = 1 ∨ t = 2 := by omega
  have hFm : own_F u0 u1 u2 t ≤ own_F u0 u1 u2 (t + 1) := by rcases hcase with rfl | rfl | rfl <;> simp [own_F]
  have hF9 : own_F u0 u1 u2 (t + 1) ≤ 9 := by rcases hcase with rfl | rfl | rfl <;> simp [own_F] <;> omega
  refine Gq.go (T812.setTop (mkF m 330 #[.val (.int x0), .val (.int x1), .val (.int x2), .val (.int x3), .val (.int x4), .val (.int x5), .val (.int (Int32.ofNat t)), .val (.int (Int32.ofNat u0)), .val (.int (Int32.ofNat u1)), .val (.int (Int32.ofNat u2)), .val (.ref b1), .val (.ref b95), .val (.ref b177), .val (.ref b229), .val (.int (x4 &&& (2147483632 : Int32))), .val (.ref b526), .unset, .unset, .unset, .unset] [(.ref b177)])) (fun tt_ kk_ => XS.aload X812.here hx rfl (hb hby at_328) rfl rfl kk_) ?_
  refine Gq.go (T812.setTop (mkF m 332 #[.val (.int x0), .val (.int x1), .val (.int x2), .val (.int x3), .val (.int x4), .val (.int x5), .val (.int (Int32.ofNat t)), .val (.int (Int32.ofNat u0)), .val (.int (Int32.ofNat u1)), .val (.int (Int32.ofNat u2)), .val (.ref b1), .val (.ref b95), .val (.ref b177), .val (.ref b229), .val (.int (x4 &&& (2147483632 : Int32))), .val (.ref b526), .unset, .unset, .unset, .unset] [(.int (Int32.ofNat t)), (.ref b177)])) (fun tt_ kk_ => XS.iload X812.here hx rfl (hb hby at_330) rfl kk_) ?_
  refine Gq.go (T812.setTop (mkF m 333 #[.val (.int x0), .val (.int x1), .val (.int x2), .val (.int x3), .val (.int x4), .val (.int x5), .val (.int (Int32.ofNat t)), .val (.int (Int32.ofNat u0)), .val (.int (Int32.ofNat u1)), .val (.int (Int32.ofNat u2)), .val (.ref b1), .val (.ref b95), .val (.ref b177), .val (.ref b229), .val (.int (x4 &&& (2147483632 : Int32))), .val (.ref b526), .unset, .unset, .unset, .unset] [(.int x1), (.int (Int32.ofNat t)), (.ref b177)])) (fun tt_ kk_ => XS.iloadN X812.here hx rfl (hb hby at_332) rfl kk_) ?_
  refine Gq.go (T812.setTop (mkF m 335 #[.val (.int x0), .val (.int x1), .val (.int x2), .val (.int x3), .val (.int x4), .val (.int x5), .val (.int (Int32.ofNat t)), .val (.int (Int32.ofNat u0)), .val (.int (Int32.ofNat u1)), .val (.int (Int32.ofNat u2)), .val (.ref b1), .val (.ref b95), .val (.ref b177), .val (.ref b229), .val (.int (x4 &&& (2147483632 : Int32))), .val (.ref b526), .unset, .unset, .unset, .unset] [(.ref b229), (.int x1), (.int (Int32.ofNat t)), (.ref b177)])) (fun tt_ kk_ => XS.aload X812.here hx rfl (hb hby at_333) rfl rfl kk_) ?_
  refine Gq.go (T812.setTop (mkF m 337 #[.val (.int x0), .val (.int x1), .val (.int x2), .val (.int x3), .val (.int x4), .val (.int x5), .val (.int (Int32.ofNat t)), .val (.int (Int32.ofNat u0)), .val (.int (Int32.ofNat u1)), .val (.int (Int32.ofNat u2)), .val (.ref b1), .val (.ref b95), .val (.ref b177), .val (.ref b229), .val (.int (x4 &&& (2147483632 : Int32))), .val (.ref b526), .unset, .unset, .unset, .unset] [(.ref b526), (.ref b229), (.int x1), (.int (Int32.ofNat t)), (.ref b177)])) (fun tt_ kk_ => XS.aload X812.here hx rfl (hb hby at_335) rfl rfl kk_) ?_
  obtain ⟨r844, T844, L844, X844, hQ844, st844⟩ := callV (pc := 337) (Ls := #[.val (.int x0), .val (.int x1), .val (.int x2), .val (.int x3), .val (.int x4), .val (.int x5), .val (.int (Int32.ofNat t)), .val (.int (Int32.ofNat u0)), .val (.int (Int32.ofNat u1)), .val (.int (Int32.ofNat u2)), .val (.ref b1), .val (.ref b95), .val (.ref b177), .val (.ref b229), .val (.int (x4 &&& (2147483632 : Int32))), .val (.ref b526), .unset, .unset, .unset, .unset]) X812 hx hZ hown eh812 b177 [(.int (Int32.ofNat t)), (.int x1), (.ref b229), (.ref b526)] [] fa827 (hw _ (List.mem_of_getElem? (i := 120) rfl)) (hw _ (List.mem_of_getElem? (i := 121) rfl)) (hw _ (List.mem_of_getElem? (i := 123) rfl)) (hw _ (List.mem_of_getElem? (i := 122) rfl)) (hw _ (List.mem_of_getElem? (i := 64) rfl)) (hw _ (List.mem_of_getElem? (i := 124) rfl)) (by decide) (rm19 l Z a0 hw [] b177 t x1 b229 b526 fs199 (own_F u0 u1 u2) B RR h812 n0 za843 fa828 fa829 VB VR htt hFm hF9 hR) pd_13 rfl (by rw [hml]; rfl) (W := 0) (Nat.le_of_eq rfl) (by decide) (by decide) (by decide) (by decide) (hb hby at_337)
  obtain ⟨rfl, N844q, eh844⟩ := hQ844
  have N844 := Fr.app N812 N844q
  refine Gq.go (T844.setTop (mkF m 340 #[.val (.int x0), .val (.int x1), .val (.int x2), .val (.int x3), .val (.int x4), .val (.int x5), .val (.int (Int32.ofNat t)), .val (.int (Int32.ofNat u0)), .val (.int (Int32.ofNat u1)), .val (.int (Int32.ofNat u2)), .val (.ref b1), .val (.ref b95), .val (.ref b177), .val (.ref b229), .val (.int (x4 &&& (2147483632 : Int32))), .val (.ref b526), .unset, .unset, .unset, .unset] [(.int (own_rf B RR x1 (own_F u0 u1 u2 (t + 1) - own_F u0 u1 u2 t) (own_F u0 u1 u2 t)))])) (fun tt_ kk_ => st844 tt_ kk_) ?_
  refine Gq.go (T844.setTop (mkF m 342 #[.val (.int x0), .val (.int x1), .val (.int x2), .val (.int x3), .val (.int x4), .val (.int x5), .val (.int (Int32.ofNat t)), .val (.int (Int32.ofNat u0)), .val (.int (Int32.ofNat u1)), .val (.int (Int32.ofNat u2)), .val (.ref b1), .val (.ref b95), .val (.ref b177), .val (.ref b229), .val (.int (x4 &&& (2147483632 : Int32))), .val (.ref b526), .val (.int (own_rf B RR x1 (own_F u0 u1 u2 (t + 1) - own_F u0 u1 u2 t) (own_F u0 u1 u2 t))), .unset, .unset, .unset] [])) (fun tt_ kk_ => XS.istore X844.here hx rfl (hb hby at_340) rfl (l' := #[.val (.int x0), .val (.int x1), .val (.int x2), .val (.int x3), .val (.int x4), .val (.int x5), .val (.int (Int32.ofNat t)), .val (.int (Int32.ofNat u0)), .val (.int (Int32.ofNat u1)), .val (.int (Int32.ofNat u2)), .val (.ref b1), .val (.ref b95), .val (.ref b177), .val (.ref b229), .val (.int (x4 &&& (2147483632 : Int32))), .val (.ref b526), .val (.int (own_rf B RR x1 (own_F u0 u1 u2 (t + 1) - own_F u0 u1 u2 t) (own_F u0 u1 u2 t))), .unset, .unset, .unset]) rfl kk_) ?_
  suffices K394 : ∀ f0 nN : Nat, nN ≤ 3 → f0 + nN ≤ 9 → Gq p.tables e below s (Q0 Z x0 x1 x2 x3 x4 x5 d0 fd h0 n0) room_1.cells room_1.slots (T844.setTop (mkF m 394 #[.val (.int x0), .val (.int x1), .val (.int x2), .val (.int x3), .val (.int x4), .val (.int x5), .val (.int (Int32.ofNat t)), .val (.int (Int32.ofNat u0)), .val (.int (Int32.ofNat u1)), .val (.int (Int32.ofNat u2)), .val (.ref b1), .val (.ref b95), .val (.ref b177), .val (.ref b229), .val (.int (x4 &&& (2147483632 : Int32))), .val (.ref b526), .val (.int (own_rf B RR x1 nN f0)), .val (.int (Int32.ofNat f0)), .val (.int (Int32.ofNat nN)), .unset] [])) by
    rcases hcase with rfl | rfl | rfl
    · rw [show Int32.ofNat 0 = (0 : Int32) from rfl]
      rw [show own_rf B RR x1 (own_F u0 u1 u2 (0 + 1) - own_F u0 u1 u2 0) (own_F u0 u1 u2 0) = own_rf B RR x1 u0 0 by simp [own_F]]
      refine Gq.go (T844.setTop (mkF m 344 #[.val (.int x0), .val (.int x1), .val (.int x2), .val (.int x3), .val (.int x4), .val (.int x5), .val (.int (0 : Int32)), .val (.int (Int32.ofNat u0)), .val (.int (Int32.ofNat u1)), .val (.int (Int32.ofNat u2)), .val (.ref b1), .val (.ref b95), .val (.ref b177), .val (.ref b229), .val (.int (x4 &&& (2147483632 : Int32))), .val (.ref b526), .val (.int (own_rf B RR x1 u0 0)), .unset, .unset, .unset] [(.int (0 : Int32))])) (fun tt_ kk_ => XS.iload X844.here hx rfl (hb hby at_342) rfl kk_) ?_
      refine Gq.go (T844.setTop (mkF m 347 #[.val (.int x0), .val (.int x1), .val (.int x2), .val (.int x3), .val (.int x4), .val (.int x5), .val (.int (0 : Int32)), .val (.int (Int32.ofNat u0)), .val (.int (Int32.ofNat u1)), .val (.int (Int32.ofNat u2)), .val (.ref b1), .val (.ref b95), .val (.ref b177), .val (.ref b229), .val (.int (x4 &&& (2147483632 : Int32))), .val (.ref b526), .val (.int (own_rf B RR x1 u0 0)), .unset, .unset, .unset] [])) (fun tt_ kk_ => XS.ifNo X844.here hx rfl (hb hby at_344) rfl ((if0 _ _).trans (teq (by decide : ((0 : Int32) = (0 : Int32)))).2) kk_) ?_
      refine Gq.go (T844.setTop (mkF m 348 #[.val (.int x0), .val (.int x1), .val (.int x2), .val (.int x3), .val (.int x4), .val (.int x5), .val (.int (0 : Int32)), .val (.int (Int32.ofNat u0)), .val (.int (Int32.ofNat u1)), .val (.int (Int32.ofNat u2)), .val (.ref b1), .val (.ref b95), .val (.ref b177), .val (.ref b229), .val (.int (x4 &&& (2147483632 : Int32))), .val (.ref b526), .val (.int (own_rf B RR x1 u0 0)), .unset, .unset, .unset] [(.int (0 : Int32))])) (fun tt_ kk_ => XS.iconst X844.here hx rfl (hb hby at_347) kk_) ?_
      refine Gq.go (T844.setTop (mkF m 367 #[.val (.int x0), .val (.int x1), .val (.int x2), .val (.int x3), .val (.int x4), .val (.int x5), .val (.int (0 : Int32)), .val (.int (Int32.ofNat u0)), .val (.int (Int32.ofNat u1)), .val (.int (Int32.ofNat u2)), .val (.ref b1), .val (.ref b95), .val (.ref b177), .val (.ref b229), .val (.int (x4 &&& (2147483632 : Int32))), .val (.ref b526), .val (.int (own_rf B RR x1 u0 0)), .unset, .unset, .unset] [(.int (0 : Int32))])) (fun tt_ kk_ => XS.goto X844.here hx rfl (pc0 := 348) (pc' := 367) rfl (hb hby at_348) (by decide) (by decide) kk_) ?_
      refine Gq.go (T844.setTop (mkF m 369 #[.val (.int x0), .val (.int x1), .val (.int x2), .val (.int x3), .val (.int x4), .val (.int x5), .val (.int (0 : Int32)), .val (.int (Int32.ofNat u0)), .val (.int (Int32.ofNat u1)), .val (.int (Int32.ofNat u2)), .val (.ref b1), .val (.ref b95), .val (.ref b177), .val (.ref b229), .val (.int (x4 &&& (2147483632 : Int32))), .val (.ref b526), .val (.int (own_rf B RR x1 u0 0)), .val (.int (0 : Int32)), .unset, .unset] [])) (fun tt_ kk_ => XS.istore X844.here hx rfl (hb hby at_367) rfl (l' := #[.val (.int x0), .val (.int x1), .val (.int x2), .val (.int x3), .val (.int x4), .val (.int x5), .val (.int (0 : Int32)), .val (.int (Int32.ofNat u0)), .val (.int (Int32.ofNat u1)), .val (.int (Int32.ofNat u2)), .val (.ref b1), .val (.ref b95), .val (.ref b177), .val (.ref b229), .val (.int (x4 &&& (2147483632 : Int32))), .val (.ref b526), .val (.int (own_rf B RR x1 u0 0)), .val (.int (0 : Int32)), .unset, .unset]) rfl kk_) ?_
      refine Gq.go (T844.setTop (mkF m 371 #[.val (.int x0), .val (.int x1), .val (.int x2), .val (.int x3), .val (.int x4), .val (.int x5), .val (.int (0 : Int32)), .val (.int (Int32.ofNat u0)), .val (.int (Int32.ofNat u1)), .val (.int (Int32.ofNat u2)), .val (.ref b1), .val (.ref b95), .val (.ref b177), .val (.ref b229), .val (.int (x4 &&& (2147483632 : Int32))), .val (.ref b526), .val (.int (own_rf B RR x1 u0 0)), .val (.int (0 : Int32)), .unset, .unset] [(.int (0 : Int32))])) (fun tt_ kk_ => XS.iload X844.here hx rfl (hb hby at_369) rfl kk_) ?_
      refine Gq.go (T844.setTop (mkF m 374 #[.val (.int x0), .val (.int x1), .val (.int x2), .val (.int x3), .val (.int x4), .val (.int x5), .val (.int (0 : Int32)), .val (.int (Int32.ofNat u0)), .val (.int (Int32.ofNat u1)), .val (.int (Int32.ofNat u2)), .val (.ref b1), .val (.ref b95), .val (.ref b177), .val (.ref b229), .val (.int (x4 &&& (2147483632 : Int32))), .val (.ref b526), .val (.int (own_rf B RR x1 u0 0)), .val (.int (0 : Int32)), .unset, .unset] [])) (fun tt_ kk_ => XS.ifNo X844.here hx rfl (hb hby at_371) rfl ((if0 _ _).trans (teq (by decide : ((0 : Int32) = (0 : Int32)))).2) kk_) ?_
      refine Gq.go (T844.setTop (mkF m 376 #[.val (.int x0), .val (.int x1), .val (.int x2), .val (.int x3), .val (.int x4), .val (.int x5), .val (.int (0 : Int32)), .val (.int (Int32.ofNat u0)), .val (.int (Int32.ofNat u1)), .val (.int (Int32.ofNat u2)), .val (.ref b1), .val (.ref b95), .val (.ref b177), .val (.ref b229), .val (.int (x4 &&& (2147483632 : Int32))), .val (.ref b526), .val (.int (own_rf B RR x1 u0 0)), .val (.int (0 : Int32)), .unset, .unset] [(.int (Int32.ofNat u0))])) (fun tt_ kk_ => XS.iload X844.here hx rfl (hb hby at_374) rfl kk_) ?_
      refine Gq.go (T844.setTop (mkF m 392 #[.val (.int x0), .val (.int x1), .val (.int x2), .val (.int x3), .val (.int x4), .val (.int x5), .val (.int (0 : Int32)), .val (.int (Int32.ofNat u0)), .val (.int (Int32.ofNat u1)), .val (.int (Int32.ofNat u2)), .val (.ref b1), .val (.ref b95), .val (.ref b177), .val (.ref b229), .val (.int (x4 &&& (2147483632 : Int32))), .val (.ref b526), .val (.int (own_rf B RR x1 u0 0)), .val (.int (0 : Int32)), .unset, .unset] [(.int (Int32.ofNat u0))])) (fun tt_ kk_ => XS.goto X844.here hx rfl (pc0 := 376) (pc' := 392) rfl (hb hby at_376) (by decide) (by decide) kk_) ?_
      refine Gq.go (T844.setTop (mkF m 394 #[.val (.int x0), .val (.int x1), .val (.int x2), .val (.int x3), .val (.int x4), .val (.int x5), .val (.int (0 : Int32)), .val (.int (Int32.ofNat u0)), .val (.int (Int32.ofNat u1)), .val (.int (Int32.ofNat u2)), .val (.ref b1), .val (.ref b95), .val (.ref b177), .val (.ref b229), .val (.int (x4 &&& (2147483632 : Int32))), .val (.ref b526), .val (.int (own_rf B RR x1 u0 0)), .val (.int (0 : Int32)), .val (.int (Int32.ofNat u0)), .unset] [])) (fun tt_ kk_ => XS.istore X844.here hx rfl (hb hby at_392) rfl (l' := #[.val (.int x0), .val (.int x1), .val (.int x2), .val (.int x3), .val (.int x4), .val (.int x5), .val (.int (0 : Int32)), .val (.int (Int32.ofNat u0)), .val (.int (Int32.ofNat u1)), .val (.int (Int32.ofNat u2)), .val (.ref b1), .val (.ref b95), .val (.ref b177), .val (.ref b229), .val (.int (x4 &&& (2147483632 : Int32))), .val (.ref b526), .val (.int (own_rf B RR x1 u0 0)), .val (.int (0 : Int32)), .val (.int (Int32.ofNat u0)), .unset]) rfl kk_) ?_
      exact K394 0 u0 hu0 (by omega)
    · rw [show Int32.ofNat 1 = (1 : Int32) from rfl]
      rw [show own_rf B RR x1 (own_F u0 u1 u2 (1 + 1) - own_F u0 u1 u2 1) (own_F u0 u1 u2 1) = own_rf B RR x1 u1 u0 by simp [own_F]]
      refine Gq.go (T844.setTop (mkF m 344 #[.val (.int x0), .val (.int x1), .val (.int x2), .val (.int x3), .val (.int x4), .val (.int x5), .val (.int (1 : Int32)), .val (.int (Int32.ofNat u0)), .val (.int (Int32.ofNat u1)), .val (.int (Int32.ofNat u2)), .val (.ref b1), .val (.ref b95), .val (.ref b177), .val (.ref b229), .val (.int (x4 &&& (2147483632 : Int32))), .val (.ref b526), .val (.int (own_rf B RR x1 u1 u0)), .unset, .unset, .unset] [(.int (1 : Int32))])) (fun tt_ kk_ => XS.iload X844.here hx rfl (hb hby at_342) rfl kk_) ?_
      refine Gq.go (T844.setTop (mkF m 351 #[.val (.int x0), .val (.int x1), .val (.int x2), .val (.int x3), .val (.int x4), .val (.int x5), .val (.int (1 : Int32)), .val (.int (Int32.ofNat u0)), .val (.int (Int32.ofNat u1)), .val (.int (Int32.ofNat u2)), .val (.ref b1), .val (.ref b95), .val (.ref b177), .val (.ref b229), .val (.int (x4 &&& (2147483632 : Int32))), .val (.ref b526), .val (.int (own_rf B RR x1 u1 u0)), .unset, .unset, .unset] [])) (fun tt_ kk_ => XS.ifYes X844.here hx rfl (pc0 := 344) (pc' := 351) rfl (hb hby at_344) rfl ((if0 _ _).trans (feq (by decide : ¬ ((1 : Int32) = (0 : Int32)))).2) (by decide) (by decide) kk_) ?_
      refine Gq.go (T844.setTop (mkF m 353 #[.val (.int x0), .val (.int x1), .val (.int x2), .val (.int x3), .val (.int x4), .val (.int x5), .val (.int (1 : Int32)), .val (.int (Int32.ofNat u0)), .val (.int (Int32.ofNat u1)), .val (.int (Int32.ofNat u2)), .val (.ref b1), .val (.ref b95), .val (.ref b177), .val (.ref b229), .val (.int (x4 &&& (2147483632 : Int32))), .val (.ref b526), .val (.int (own_rf B RR x1 u1 u0)), .unset, .unset, .unset] [(.int (1 : Int32))])) (fun tt_ kk_ => XS.iload X844.here hx rfl (hb hby at_351) rfl kk_) ?_
      refine Gq.go (T844.setTop (mkF m 354 #[.val (.int x0), .val (.int x1), .val (.int x2), .val (.int x3), .val (.int x4), .val (.int x5), .val (.int (1 : Int32)), .val (.int (Int32.ofNat u0)), .val (.int (Int32.ofNat u1)), .val (.int (Int32.ofNat u2)), .val (.ref b1), .val (.ref b95), .val (.ref b177), .val (.ref b229), .val (.int (x4 &&& (2147483632 : Int32))), .val (.ref b526), .val (.int (own_rf B RR x1 u1 u0)), .unset, .unset, .unset] [(.int (1 : Int32)), (.int (1 : Int32))])) (fun tt_ kk_ => XS.iconst X844.here hx rfl (hb hby at_353) kk_) ?_
      refine Gq.go (T844.setTop (mkF m 357 #[.val (.int x0), .val (.int x1), .val (.int x2), .val (.int x3), .val (.int x4), .val (.int x5), .val (.int (1 : Int32)), .val (.int (Int32.ofNat u0)), .val (.int (Int32.ofNat u1)), .val (.int (Int32.ofNat u2)), .val (.ref b1), .val (.ref b95), .val (.ref b177), .val (.ref b229), .val (.int (x4 &&& (2147483632 : Int32))), .val (.ref b526), .val (.int (own_rf B RR x1 u1 u0)), .unset, .unset, .unset] [])) (fun tt_ kk_ => XS.icmpNo X844.here hx rfl (hb hby at_354) rfl (teq (by decide : ((1 : Int32) = (1 : Int32)))).2 kk_) ?_
      refine Gq.go (T844.setTop (mkF m 359 #[.val (.int x0), .val (.int x1), .val (.int x2), .val (.int x3), .val (.int x4), .val (.int x5), .val (.int (1 : Int32)), .val (.int (Int32.ofNat u0)), .val (.int (Int32.ofNat u1)), .val (.int (Int32.ofNat u2)), .val (.ref b1), .val (.ref b95), .val (.ref b177), .val (.ref b229), .val (.int (x4 &&& (2147483632 : Int32))), .val (.ref b526), .val (.int (own_rf B RR x1 u1 u0)), .unset, .unset, .unset] [(.int (Int32.ofNat u0))])) (fun tt_ kk_ => XS.iload X844.here hx rfl (hb hby at_357) rfl kk_) ?_
      refine Gq.go (T844.setTop (mkF m 367 #[.val (.int x0), .val (.int x1), .val (.int x2), .val (.int x3), .val (.int x4), .val (.int x5), .val (.int (1 : Int32)), .val (.int (Int32.ofNat u0)), .val (.int (Int32.ofNat u1)), .val (.int (Int32.ofNat u2)), .val (.ref b1), .val (.ref b95), .val (.ref b177), .val (.ref b229), .val (.int (x4 &&& (2147483632 : Int32))), .val (.ref b526), .val (.int (own_rf B RR x1 u1 u0)), .unset, .unset, .unset] [(.int (Int32.ofNat u0))])) (fun tt_ kk_ => XS.goto X844.here hx rfl (pc0 := 359) (pc' := 367) rfl (hb hby at_359) (by decide) (by decide) kk_) ?_
      refine Gq.go (T844.setTop (mkF m 369 #[.val (.int x0), .val (.int x1), .val (.int x2), .val (.int x3), .val (.int x4), .val (.int x5), .val (.int (1 : Int32)), .val (.int (Int32.ofNat u0)), .val (.int (Int32.ofNat u1)), .val (.int (Int32.ofNat u2)), .val (.ref b1), .val (.ref b95), .val (.ref b177), .val (.ref b229), .val (.int (x4 &&& (2147483632 : Int32))), .val (.ref b526), .val (.int (own_rf B RR x1 u1 u0)), .val (.int (Int32.ofNat u0)), .unset, .unset] [])) (fun tt_ kk_ => XS.istore X844.here hx rfl (hb hby at_367) rfl (l' := #[.val (.int x0), .val (.int x1), .val (.int x2), .val (.int x3), .val (.int x4), .val (.int x5), .val (.int (1 : Int32)), .val (.int (Int32.ofNat u0)), .val (.int (Int32.ofNat u1)), .val (.int (Int32.ofNat u2)), .val (.ref b1), .val (.ref b95), .val (.ref b177), .val (.ref b229), .val (.int (x4 &&& (2147483632 : Int32))), .val (.ref b526), .val (.int (own_rf B RR x1 u1 u0)), .val (.int (Int32.ofNat u0)), .unset, .unset]) rfl kk_) ?_
      refine Gq.go (T844.setTop (mkF m 371 #[.val (.int x0), .val (.int x1), .val (.int x2), .val (.int x3), .val (.int x4), .val (.int x5), .val (.int (1 : Int32)), .val (.int (Int32.ofNat u0)), .val (.int (Int32.ofNat u1)), .val (.int (Int32.ofNat u2)), .val (.ref b1), .val (.ref b95), .val (.ref b177), .val (.ref b229), .val (.int (x4 &&& (2147483632 : Int32))), .val (.ref b526), .val (.int (own_rf B RR x1 u1 u0)), .val (.int (Int32.ofNat u0)), .unset, .unset] [(.int (1 : Int32))])) (fun tt_ kk_ => XS.iload X844.here hx rfl (hb hby at_369) rfl kk_) ?_
      refine Gq.go (T844.setTop (mkF m 379 #[.val (.int x0), .val (.int x1), .val (.int x2), .val (.int x3), .val (.int x4), .val (.int x5), .val (.int (1 : Int32)), .val (.int (Int32.ofNat u0)), .val (.int (Int32.ofNat u1)), .val (.int (Int32.ofNat u2)), .val (.ref b1), .val (.ref b95), .val (.ref b177), .val (.ref b229), .val (.int (x4 &&& (2147483632 : Int32))), .val (.ref b526), .val (.int (own_rf B RR x1 u1 u0)), .val (.int (Int32.ofNat u0)), .unset, .unset] [])) (fun tt_ kk_ => XS.ifYes X844.here hx rfl (pc0 := 371) (pc' := 379) rfl (hb hby at_371) rfl ((if0 _ _).trans (feq (by decide : ¬ ((1 : Int32) = (0 : Int32)))).2) (by decide) (by decide) kk_) ?_
      refine Gq.go (T844.setTop (mkF m 381 #[.val (.int x0), .val (.int x1), .val (.int x2), .val (.int x3), .val (.int x4), .val (.int x5), .val (.int (1 : Int32)), .val (.int (Int32.ofNat u0)), .val (.int (Int32.ofNat u1)), .val (.int (Int32.ofNat u2)), .val (.ref b1), .val (.ref b95), .val (.ref b177), .val (.ref b229), .val (.int (x4 &&& (2147483632 : Int32))), .val (.ref b526), .val (.int (own_rf B RR x1 u1 u0)), .val (.int (Int32.ofNat u0)), .unset, .unset] [(.int (1 : Int32))])) (fun tt_ kk_ => XS.iload X844.here hx rfl (hb hby at_379) rfl kk_) ?_
      refine Gq.go (T844.setTop (mkF m 382 #[.val (.int x0), .val (.int x1), .val (.int x2), .val (.int x3), .val (.int x4), .val (.int x5), .val (.int (1 : Int32)), .val (.int (Int32.ofNat u0)), .val (.int (Int32.ofNat u1)), .val (.int (Int32.ofNat u2)), .val (.ref b1), .val (.ref b95), .val (.ref b177), .val (.ref b229), .val (.int (x4 &&& (2147483632 : Int32))), .val (.ref b526), .val (.int (own_rf B RR x1 u1 u0)), .val (.int (Int32.ofNat u0)), .unset, .unset] [(.int (1 : Int32)), (.int (1 : Int32))])) (fun tt_ kk_ => XS.iconst X844.here hx rfl (hb hby at_381) kk_) ?_
      refine Gq.go (T844.setTop (mkF m 385 #[.val (.int x0), .val (.int x1), .val (.int x2), .val (.int x3), .val (.int x4), .val (.int x5), .val (.int (1 : Int32)), .val (.int (Int32.ofNat u0)), .val (.int (Int32.ofNat u1)), .val (.int (Int32.ofNat u2)), .val (.ref b1), .val (.ref b95), .val (.ref b177), .val (.ref b229), .val (.int (x4 &&& (2147483632 : Int32))), .val (.ref b526), .val (.int (own_rf B RR x1 u1 u0)), .val (.int (Int32.ofNat u0)), .unset, .unset] [])) (fun tt_ kk_ => XS.icmpNo X844.here hx rfl (hb hby at_382) rfl (teq (by decide : ((1 : Int32) = (1 : Int32)))).2 kk_) ?_
      refine Gq.go (T844.setTop (mkF m 387 #[.val (.int x0), .val (.int x1), .val (.int x2), .val (.int x3), .val (.int x4), .val (.int x5), .val (.int (1 : Int32)), .val (.int (Int32.ofNat u0)), .val (.int (Int32.ofNat u1)), .val (.int (Int32.ofNat u2)), .val (.ref b1), .val (.ref b95), .val (.ref b177), .val (.ref b229), .val (.int (x4 &&& (2147483632 : Int32))), .val (.ref b526), .val (.int (own_rf B RR x1 u1 u0)), .val (.int (Int32.ofNat u0)), .unset, .unset] [(.int (Int32.ofNat u1))])) (fun tt_ kk_ => XS.iload X844.here hx rfl (hb hby at_385) rfl kk_) ?_
      refine Gq.go (T844.setTop (mkF m 392 #[.val (.int x0), .val (.int x1), .val (.int x2), .val (.int x3), .val (.int x4), .val (.int x5), .val (.int (1 : Int32)), .val (.int (Int32.ofNat u0)), .val (.int (Int32.ofNat u1)), .val (.int (Int32.ofNat u2)), .val (.ref b1), .val (.ref b95), .val (.ref b177), .val (.ref b229), .val (.int (x4 &&& (2147483632 : Int32))), .val (.ref b526), .val (.int (own_rf B RR x1 u1 u0)), .val (.int (Int32.ofNat u0)), .unset, .unset] [(.int (Int32.ofNat u1))])) (fun tt_ kk_ => XS.goto X844.here hx rfl (pc0 := 387) (pc' := 392) rfl (hb hby at_387) (by decide) (by decide) kk_) ?_
      refine Gq.go (T844.setTop (mkF m 394 #[.val (.int x0), .val (.int x1), .val (.int x2), .val (.int x3), .val (.int x4), .val (.int x5), .val (.int (1 : Int32)), .val (.int (Int32.ofNat u0)), .val (.int (Int32.ofNat u1)), .val (.int (Int32.ofNat u2)), .val (.ref b1), .val (.ref b95), .val (.ref b177), .val (.ref b229), .val (.int (x4 &&& (2147483632 : Int32))), .val (.ref b526), .val (.int (own_rf B RR x1 u1 u0)), .val (.int (Int32.ofNat u0)), .val (.int (Int32.ofNat u1)), .unset] [])) (fun tt_ kk_ => XS.istore X844.here hx rfl (hb hby at_392) rfl (l' := #[.val (.int x0), .val (.int x1), .val (.int x2), .val (.int x3), .val (.int x4), .val (.int x5), .val (.int (1 : Int32)), .val (.int (Int32.ofNat u0)), .val (.int (Int32.ofNat u1)), .val (.int (Int32.ofNat u2)), .val (.ref b1), .val (.ref b95), .val (.ref b177), .val (.ref b229), .val (.int (x4 &&& (2147483632 : Int32))), .val (.ref b526), .val (.int (own_rf B RR x1 u1 u0)), .val (.int (Int32.ofNat u0)), .val (.int (Int32.ofNat u1)), .unset]) rfl kk_) ?_
      exact K394 u0 u1 hu1 (by omega)
    · rw [show Int32.ofNat 2 = (2 : Int32) from rfl]
      rw [show own_rf B RR x1 (own_F u0 u1 u2 (2 + 1) - own_F u0 u1 u2 2) (own_F u0 u1 u2 2) = own_rf B RR x1 u2 (u0 + u1) by simp [own_F]]
      refine Gq.go (T844.setTop (mkF m 344 #[.val (.int x0), .val (.int x1), .val (.int x2), .val (.int x3), .val (.int x4), .val (.int x5), .val (.int (2 : Int32)), .val (.int (Int32.ofNat u0)), .val (.int (Int32.ofNat u1)), .val (.int (Int32.ofNat u2)), .val (.ref b1), .val (.ref b95), .val (.ref b177), .val (.ref b229), .val (.int (x4 &&& (2147483632 : Int32))), .val (.ref b526), .val (.int (own_rf B RR x1 u2 (u0 + u1))), .unset, .unset, .unset] [(.int (2 : Int32))])) (fun tt_ kk_ => XS.iload X844.here hx rfl (hb hby at_342) rfl kk_) ?_
      refine Gq.go (T844.setTop (mkF m 351 #[.val (.int x0), .val (.int x1), .val (.int x2), .val (.int x3), .val (.int x4), .val (.int x5), .val (.int (2 : Int32)), .val (.int (Int32.ofNat u0)), .val (.int (Int32.ofNat u1)), .val (.int (Int32.ofNat u2)), .val (.ref b1), .val (.ref b95), .val (.ref b177), .val (.ref b229), .val (.int (x4 &&& (2147483632 : Int32))), .val (.ref b526), .val (.int (own_rf B RR x1 u2 (u0 + u1))), .unset, .unset, .unset] [])) (fun tt_ kk_ => XS.ifYes X844.here hx rfl (pc0 := 344) (pc' := 351) rfl (hb hby at_344) rfl ((if0 _ _).trans (feq (by decide : ¬ ((2 : Int32) = (0 : Int32)))).2) (by decide) (by decide) kk_) ?_
      refine Gq.go (T844.setTop (mkF m 353 #[.val (.int x0), .val (.int x1), .val (.int x2), .val (.int x3), .val (.int x4), .val (.int x5), .val (.int (2 : Int32)), .val (.int (Int32.ofNat u0)), .val (.int (Int32.ofNat u1)), .val (.int (Int32.ofNat u2)), .val (.ref b1), .val (.ref b95), .val (.ref b177), .val (.ref b229), .val (.int (x4 &&& (2147483632 : Int32))), .val (.ref b526), .val (.int (own_rf B RR x1 u2 (u0 + u1))), .unset, .unset, .unset] [(.int (2 : Int32))])) (fun tt_ kk_ => XS.iload X844.here hx rfl (hb hby at_351) rfl kk_) ?_
      refine Gq.go (T844.setTop (mkF m 354 #[.val (.int x0), .val (.int x1), .val (.int x2), .val (.int x3), .val (.int x4), .val (.int x5), .val (.int (2 : Int32)), .val (.int (Int32.ofNat u0)), .val (.int (Int32.ofNat u1)), .val (.int (Int32.ofNat u2)), .val (.ref b1), .val (.ref b95), .val (.ref b177), .val (.ref b229), .val (.int (x4 &&& (2147483632 : Int32))), .val (.ref b526), .val (.int (own_rf B RR x1 u2 (u0 + u1))), .unset, .unset, .unset] [(.int (1 : Int32)), (.int (2 : Int32))])) (fun tt_ kk_ => XS.iconst X844.here hx rfl (hb hby at_353) kk_) ?_
      refine Gq.go (T844.setTop (mkF m 362 #[.val (.int x0), .val (.int x1), .val (.int x2), .val (.int x3), .val (.int x4), .val (.int x5), .val (.int (2 : Int32)), .val (.int (Int32.ofNat u0)), .val (.int (Int32.ofNat u1)), .val (.int (Int32.ofNat u2)), .val (.ref b1), .val (.ref b95), .val (.ref b177), .val (.ref b229), .val (.int (x4 &&& (2147483632 : Int32))), .val (.ref b526), .val (.int (own_rf B RR x1 u2 (u0 + u1))), .unset, .unset, .unset] [])) (fun tt_ kk_ => XS.icmpYes X844.here hx rfl (pc0 := 354) (pc' := 362) rfl (hb hby at_354) rfl (feq (by decide : ¬ ((2 : Int32) = (1 : Int32)))).2 (by decide) (by decide) kk_) ?_
      refine Gq.go (T844.setTop (mkF m 364 #[.val (.int x0), .val (.int x1), .val (.int x2), .val (.int x3), .val (.int x4), .val (.int x5), .val (.int (2 : Int32)), .val (.int (Int32.ofNat u0)), .val (.int (Int32.ofNat u1)), .val (.int (Int32.ofNat u2)), .val (.ref b1), .val (.ref b95), .val (.ref b177), .val (.ref b229), .val (.int (x4 &&& (2147483632 : Int32))), .val (.ref b526), .val (.int (own_rf B RR x1 u2 (u0 + u1))), .unset, .unset, .unset] [(.int (Int32.ofNat u0))])) (fun tt_ kk_ => XS.iload X844.here hx rfl (hb hby at_362) rfl kk_) ?_
      refine Gq.go (T844.setTop (mkF m 366 #[.val (.int x0), .val (.int x1), .val (.int x2), .val (.int x3), .val (.int x4), .val (.int x5), .val (.int (2 : Int32)), .val (.int (Int32.ofNat u0)), .val (.int (Int32.ofNat u1)), .val (.int (Int32.ofNat u2)), .val (.ref b1), .val (.ref b95), .val (.ref b177), .val (.ref b229), .val (.int (x4 &&& (2147483632 : Int32))), .val (.ref b526), .val (.int (own_rf B RR x1 u2 (u0 + u1))), .unset, .unset, .unset] [(.int (Int32.ofNat u1)), (.int (Int32.ofNat u0))])) (fun tt_ kk_ => XS.iload X844.here hx rfl (hb hby at_364) rfl kk_) ?_
      refine Gq.go (T844.setTop (mkF m 367 #[.val (.int x0), .val (.int x1), .val (.int x2), .val (.int x3), .val (.int x4), .val (.int x5), .val (.int (2 : Int32)), .val (.int (Int32.ofNat u0)), .val (.int (Int32.ofNat u1)), .val (.int (Int32.ofNat u2)), .val (.ref b1), .val (.ref b95), .val (.ref b177), .val (.ref b229), .val (.int (x4 &&& (2147483632 : Int32))), .val (.ref b526), .val (.int (own_rf B RR x1 u2 (u0 + u1))), .unset, .unset, .unset] [(.int ((Int32.ofNat u0) + (Int32.ofNat u1)))])) (fun tt_ kk_ => XS.iadd X844.here hx rfl (hb hby at_366) rfl kk_) ?_
      rw [show ((Int32.ofNat u0) + (Int32.ofNat u1)) = (Int32.ofNat (u0 + u1)) from own_add _ _]
      refine Gq.go (T844.setTop (mkF m 369 #[.val (.int x0), .val (.int x1), .val (.int x2), .val (.int x3), .val (.int x4), .val (.int x5), .val (.int (2 : Int32)), .val (.int (Int32.ofNat u0)), .val (.int (Int32.ofNat u1)), .val (.int (Int32.ofNat u2)), .val (.ref b1), .val (.ref b95), .val (.ref b177), .val (.ref b229), .val (.int (x4 &&& (2147483632 : Int32))), .val (.ref b526), .val (.int (own_rf B RR x1 u2 (u0 + u1))), .val (.int (Int32.ofNat (u0 + u1))), .unset, .unset] [])) (fun tt_ kk_ => XS.istore X844.here hx rfl (hb hby at_367) rfl (l' := #[.val (.int x0), .val (.int x1), .val (.int x2), .val (.int x3), .val (.int x4), .val (.int x5), .val (.int (2 : Int32)), .val (.int (Int32.ofNat u0)), .val (.int (Int32.ofNat u1)), .val (.int (Int32.ofNat u2)), .val (.ref b1), .val (.ref b95), .val (.ref b177), .val (.ref b229), .val (.int (x4 &&& (2147483632 : Int32))), .val (.ref b526), .val (.int (own_rf B RR x1 u2 (u0 + u1))), .val (.int (Int32.ofNat (u0 + u1))), .unset, .unset]) rfl kk_) ?_
      refine Gq.go (T844.setTop (mkF m 371 #[.val (.int x0), .val (.int x1), .val (.int x2), .val (.int x3), .val (.int x4), .val (.int x5), .val (.int (2 : Int32)), .val (.int (Int32.ofNat u0)), .val (.int (Int32.ofNat u1)), .val (.int (Int32.ofNat u2)), .val (.ref b1), .val (.ref b95), .val (.ref b177), .val (.ref b229), .val (.int (x4 &&& (2147483632 : Int32))), .val (.ref b526), .val (.int (own_rf B RR x1 u2 (u0 + u1))), .val (.int (Int32.ofNat (u0 + u1))), .unset, .unset] [(.int (2 : Int32))])) (fun tt_ kk_ => XS.iload X844.here hx rfl (hb hby at_369) rfl kk_) ?_
      refine Gq.go (T844.setTop (mkF m 379 #[.val (.int x0), .val (.int x1), .val (.int x2), .val (.int x3), .val (.int x4), .val (.int x5), .val (.int (2 : Int32)), .val (.int (Int32.ofNat u0)), .val (.int (Int32.ofNat u1)), .val (.int (Int32.ofNat u2)), .val (.ref b1), .val (.ref b95), .val (.ref b177), .val (.ref b229), .val (.int (x4 &&& (2147483632 : Int32))), .val (.ref b526), .val (.int (own_rf B RR x1 u2 (u0 + u1))), .val (.int (Int32.ofNat (u0 + u1))), .unset, .unset] [])) (fun tt_ kk_ => XS.ifYes X844.here hx rfl (pc0 := 371) (pc' := 379) rfl (hb hby at_371) rfl ((if0 _ _).trans (feq (by decide : ¬ ((2 : Int32) = (0 : Int32)))).2) (by decide) (by decide) kk_) ?_
      refine Gq.go (T844.setTop (mkF m 381 #[.val (.int x0), .val (.int x1), .val (.int x2), .val (.int x3), .val (.int x4), .val (.int x5), .val (.int (2 : Int32)), .val (.int (Int32.ofNat u0)), .val (.int (Int32.ofNat u1)), .val (.int (Int32.ofNat u2)), .val (.ref b1), .val (.ref b95), .val (.ref b177), .val (.ref b229), .val (.int (x4 &&& (2147483632 : Int32))), .val (.ref b526), .val (.int (own_rf B RR x1 u2 (u0 + u1))), .val (.int (Int32.ofNat (u0 + u1))), .unset, .unset] [(.int (2 : Int32))])) (fun tt_ kk_ => XS.iload X844.here hx rfl (hb hby at_379) rfl kk_) ?_
      refine Gq.go (T844.setTop (mkF m 382 #[.val (.int x0), .val (.int x1), .val (.int x2), .val (.int x3), .val (.int x4), .val (.int x5), .val (.int (2 : Int32)), .val (.int (Int32.ofNat u0)), .val (.int (Int32.ofNat u1)), .val (.int (Int32.ofNat u2)), .val (.ref b1), .val (.ref b95), .val (.ref b177), .val (.ref b229), .val (.int (x4 &&& (2147483632 : Int32))), .val (.ref b526), .val (.int (own_rf B RR x1 u2 (u0 + u1))), .val (.int (Int32.ofNat (u0 + u1))), .unset, .unset] [(.int (1 : Int32)), (.int (2 : Int32))])) (fun tt_ kk_ => XS.iconst X844.here hx rfl (hb hby at_381) kk_) ?_
      refine Gq.go (T844.setTop (mkF m 390 #[.val (.int x0), .val (.int x1), .val (.int x2), .val (.int x3), .val (.int x4), .val (.int x5), .val (.int (2 : Int32)), .val (.int (Int32.ofNat u0)), .val (.int (Int32.ofNat u1)), .val (.int (Int32.ofNat u2)), .val (.ref b1), .val (.ref b95), .val (.ref b177), .val (.ref b229), .val (.int (x4 &&& (2147483632 : Int32))), .val (.ref b526), .val (.int (own_rf B RR x1 u2 (u0 + u1))), .val (.int (Int32.ofNat (u0 + u1))), .unset, .unset] [])) (fun tt_ kk_ => XS.icmpYes X844.here hx rfl (pc0 := 382) (pc' := 390) rfl (hb hby at_382) rfl (feq (by decide : ¬ ((2 : Int32) = (1 : Int32)))).2 (by decide) (by decide) kk_) ?_
      refine Gq.go (T844.setTop (mkF m 392 #[.val (.int x0), .val (.int x1), .val (.int x2), .val (.int x3), .val (.int x4), .val (.int x5), .val (.int (2 : Int32)), .val (.int (Int32.ofNat u0)), .val (.int (Int32.ofNat u1)), .val (.int (Int32.ofNat u2)), .val (.ref b1), .val (.ref b95), .val (.ref b177), .val (.ref b229), .val (.int (x4 &&& (2147483632 : Int32))), .val (.ref b526), .val (.int (own_rf B RR x1 u2 (u0 + u1))), .val (.int (Int32.ofNat (u0 + u1))), .unset, .unset] [(.int (Int32.ofNat u2))])) (fun tt_ kk_ => XS.iload X844.here hx rfl (hb hby at_390) rfl kk_) ?_
      refine Gq.go (T844.setTop (mkF m 394 #[.val (.int x0), .val (.int x1), .val (.int x2), .val (.int x3), .val (.int x4), .val (.int x5), .val (.int (2 : Int32)), .val (.int (Int32.ofNat u0)), .val (.int (Int32.ofNat u1)), .val (.int (Int32.ofNat u2)), .val (.ref b1), .val (.ref b95), .val (.ref b177), .val (.ref b229), .val (.int (x4 &&& (2147483632 : Int32))), .val (.ref b526), .val (.int (own_rf B RR x1 u2 (u0 + u1))), .val (.int (Int32.ofNat (u0 + u1))), .val (.int (Int32.ofNat u2)), .unset] [])) (fun tt_ kk_ => XS.istore X844.here hx rfl (hb hby at_392) rfl (l' := #[.val (.int x0), .val (.int x1), .val (.int x2), .val (.int x3), .val (.int x4), .val (.int x5), .val (.int (2 : Int32)), .val (.int (Int32.ofNat u0)), .val (.int (Int32.ofNat u1)), .val (.int (Int32.ofNat u2)), .val (.ref b1), .val (.ref b95), .val (.ref b177), .val (.ref b229), .val (.int (x4 &&& (2147483632 : Int32))), .val (.ref b526), .val (.int (own_rf B RR x1 u2 (u0 + u1))), .val (.int (Int32.ofNat (u0 + u1))), .val (.int (Int32.ofNat u2)), .unset]) rfl kk_) ?_
      exact K394 (u0 + u1) u2 hu2 (by omega)
  intro f0 nN hnN hfN
  refine Gq.go (T844.setTop (mkF m 395 #[.val (.int x0), .val (.int x1), .val (.int x2), .val (.int x3), .val (.int x4), .val (.int x5), .val (.int (Int32.ofNat t)), .val (.int (Int32.ofNat u0)), .val (.int (Int32.ofNat u1)), .val (.int (Int32.ofNat u2)), .val (.ref b1), .val (.ref b95), .val (.ref b177), .val (.ref b229), .val (.int (x4 &&& (2147483632 : Int32))), .val (.ref b526), .val (.int (own_rf B RR x1 nN f0)), .val (.int (Int32.ofNat f0)), .val (.int (Int32.ofNat nN)), .unset] [(.int (-1 : Int32))])) (fun tt_ kk_ => XS.iconst X844.here hx rfl (hb hby at_394) kk_) ?_
  refine Gq.go (T844.setTop (mkF m 397 #[.val (.int x0), .val (.int x1), .val (.int x2), .val (.int x3), .val (.int x4), .val (.int x5), .val (.int (Int32.ofNat t)), .val (.int (Int32.ofNat u0)), .val (.int (Int32.ofNat u1)), .val (.int (Int32.ofNat u2)), .val (.ref b1), .val (.ref b95), .val (.ref b177), .val (.ref b229), .val (.int (x4 &&& (2147483632 : Int32))), .val (.ref b526), .val (.int (own_rf B RR x1 nN f0)), .val (.int (Int32.ofNat f0)), .val (.int (Int32.ofNat nN)), .val (.int (-1 : Int32))] [])) (fun tt_ kk_ => XS.istore X844.here hx rfl (hb hby at_395) rfl (l' := #[.val (.int x0), .val (.int x1), .val (.int x2), .val (.int x3), .val (.int x4), .val (.int x5), .val (.int (Int32.ofNat t)), .val (.int (Int32.ofNat u0)), .val (.int (Int32.ofNat u1)), .val (.int (Int32.ofNat u2)), .val (.ref b1), .val (.ref b95), .val (.ref b177), .val (.ref b229), .val (.int (x4 &&& (2147483632 : Int32))), .val (.ref b526), .val (.int (own_rf B RR x1 nN f0)), .val (.int (Int32.ofNat f0)), .val (.int (Int32.ofNat nN)), .val (.int (-1 : Int32))]) rfl kk_) ?_
  rcases own_4 hnN with rfl | rfl | rfl | rfl
  · rw [show Int32.ofNat 0 = (0 : Int32) from rfl]
    refine Gq.go (T844.setTop (mkF m 399 #[.val (.int x0), .val (.int x1), .val (.int x2), .val (.int x3), .val (.int x4), .val (.int x5), .val (.int (Int32.ofNat t)), .val (.int (Int32.ofNat u0)), .val (.int (Int32.ofNat u1)), .val (.int (Int32.ofNat u2)), .val (.ref b1), .val (.ref b95), .val (.ref b177), .val (.ref b229), .val (.int (x4 &&& (2147483632 : Int32))), .val (.ref b526), .val (.int (own_rf B RR x1 0 f0)), .val (.int (Int32.ofNat f0)), .val (.int (0 : Int32)), .val (.int (-1 : Int32))] [(.int (0 : Int32))])) (fun tt_ kk_ => XS.iload X844.here hx rfl (hb hby at_397) rfl kk_) ?_
    refine Gq.go (T844.setTop (mkF m 400 #[.val (.int x0), .val (.int x1), .val (.int x2), .val (.int x3), .val (.int x4), .val (.int x5), .val (.int (Int32.ofNat t)), .val (.int (Int32.ofNat u0)), .val (.int (Int32.ofNat u1)), .val (.int (Int32.ofNat u2)), .val (.ref b1), .val (.ref b95), .val (.ref b177), .val (.ref b229), .val (.int (x4 &&& (2147483632 : Int32))), .val (.ref b526), .val (.int (own_rf B RR x1 0 f0)), .val (.int (Int32.ofNat f0)), .val (.int (0 : Int32)), .val (.int (-1 : Int32))] [(.int (3 : Int32)), (.int (0 : Int32))])) (fun tt_ kk_ => XS.iconst X844.here hx rfl (hb hby at_399) kk_) ?_
    refine Gq.go (T844.setTop (mkF m 423 #[.val (.int x0), .val (.int x1), .val (.int x2), .val (.int x3), .val (.int x4), .val (.int x5), .val (.int (Int32.ofNat t)), .val (.int (Int32.ofNat u0)), .val (.int (Int32.ofNat u1)), .val (.int (Int32.ofNat u2)), .val (.ref b1), .val (.ref b95), .val (.ref b177), .val (.ref b229), .val (.int (x4 &&& (2147483632 : Int32))), .val (.ref b526), .val (.int (own_rf B RR x1 0 f0)), .val (.int (Int32.ofNat f0)), .val (.int (0 : Int32)), .val (.int (-1 : Int32))] [])) (fun tt_ kk_ => XS.icmpYes X844.here hx rfl (pc0 := 400) (pc' := 423) rfl (hb hby at_400) rfl (tlt (by decide : ((0 : Int32) < (3 : Int32)))).1 (by decide) (by decide) kk_) ?_
    refine Gq.go (T844.setTop (mkF m 425 #[.val (.int x0), .val (.int x1), .val (.int x2), .val (.int x3), .val (.int x4), .val (.int x5), .val (.int (Int32.ofNat t)), .val (.int (Int32.ofNat u0)), .val (.int (Int32.ofNat u1)), .val (.int (Int32.ofNat u2)), .val (.ref b1), .val (.ref b95), .val (.ref b177), .val (.ref b229), .val (.int (x4 &&& (2147483632 : Int32))), .val (.ref b526), .val (.int (own_rf B RR x1 0 f0)), .val (.int (Int32.ofNat f0)), .val (.int (0 : Int32)), .val (.int (-1 : Int32))] [(.int (0 : Int32))])) (fun tt_ kk_ => XS.iload X844.here hx rfl (hb hby at_423) rfl kk_) ?_
    refine Gq.go (T844.setTop (mkF m 426 #[.val (.int x0), .val (.int x1), .val (.int x2), .val (.int x3), .val (.int x4), .val (.int x5), .val (.int (Int32.ofNat t)), .val (.int (Int32.ofNat u0)), .val (.int (Int32.ofNat u1)), .val (.int (Int32.ofNat u2)), .val (.ref b1), .val (.ref b95), .val (.ref b177), .val (.ref b229), .val (.int (x4 &&& (2147483632 : Int32))), .val (.ref b526), .val (.int (own_rf B RR x1 0 f0)), .val (.int (Int32.ofNat f0)), .val (.int (0 : Int32)), .val (.int (-1 : Int32))] [(.int (2 : Int32)), (.int (0 : Int32))])) (fun tt_ kk_ => XS.iconst X844.here hx rfl (hb hby at_425) kk_) ?_
    refine Gq.go (T844.setTop (mkF m 449 #[.val (.int x0), .val (.int x1), .val (.int x2), .val (.int x3), .val (.int x4), .val (.int x5), .val (.int (Int32.ofNat t)), .val (.int (Int32.ofNat u0)), .val (.int (Int32.ofNat u1)), .val (.int (Int32.ofNat u2)), .val (.ref b1), .val (.ref b95), .val (.ref b177), .val (.ref b229), .val (.int (x4 &&& (2147483632 : Int32))), .val (.ref b526), .val (.int (own_rf B RR x1 0 f0)), .val (.int (Int32.ofNat f0)), .val (.int (0 : Int32)), .val (.int (-1 : Int32))] [])) (fun tt_ kk_ => XS.icmpYes X844.here hx rfl (pc0 := 426) (pc' := 449) rfl (hb hby at_426) rfl (tlt (by decide : ((0 : Int32) < (2 : Int32)))).1 (by decide) (by decide) kk_) ?_
    refine Gq.go (T844.setTop (mkF m 451 #[.val (.int x0), .val (.int x1), .val (.int x2), .val (.int x3), .val (.int x4), .val (.int x5), .val (.int (Int32.ofNat t)), .val (.int (Int32.ofNat u0)), .val (.int (Int32.ofNat u1)), .val (.int (Int32.ofNat u2)), .val (.ref b1), .val (.ref b95), .val (.ref b177), .val (.ref b229), .val (.int (x4 &&& (2147483632 : Int32))), .val (.ref b526), .val (.int (own_rf B RR x1 0 f0)), .val (.int (Int32.ofNat f0)), .val (.int (0 : Int32)), .val (.int (-1 : Int32))] [(.int (0 : Int32))])) (fun tt_ kk_ => XS.iload X844.here hx rfl (hb hby at_449) rfl kk_) ?_
    refine Gq.go (T844.setTop (mkF m 452 #[.val (.int x0), .val (.int x1), .val (.int x2), .val (.int x3), .val (.int x4), .val (.int x5), .val (.int (Int32.ofNat t)), .val (.int (Int32.ofNat u0)), .val (.int (Int32.ofNat u1)), .val (.int (Int32.ofNat u2)), .val (.ref b1), .val (.ref b95), .val (.ref b177), .val (.ref b229), .val (.int (x4 &&& (2147483632 : Int32))), .val (.ref b526), .val (.int (own_rf B RR x1 0 f0)), .val (.int (Int32.ofNat f0)), .val (.int (0 : Int32)), .val (.int (-1 : Int32))] [(.int (1 : Int32)), (.int (0 : Int32))])) (fun tt_ kk_ => XS.iconst X844.here hx rfl (hb hby at_451) kk_) ?_
    refine Gq.go (T844.setTop (mkF m 471 #[.val (.int x0), .val (.int x1), .val (.int x2), .val (.int x3), .val (.int x4), .val (.int x5), .val (.int (Int32.ofNat t)), .val (.int (Int32.ofNat u0)), .val (.int (Int32.ofNat u1)), .val (.int (Int32.ofNat u2)), .val (.ref b1), .val (.ref b95), .val (.ref b177), .val (.ref b229), .val (.int (x4 &&& (2147483632 : Int32))), .val (.ref b526), .val (.int (own_rf B RR x1 0 f0)), .val (.int (Int32.ofNat f0)), .val (.int (0 : Int32)), .val (.int (-1 : Int32))] [])) (fun tt_ kk_ => XS.icmpYes X844.here hx rfl (pc0 := 452) (pc' := 471) rfl (hb hby at_452) rfl (tlt (by decide : ((0 : Int32) < (1 : Int32)))).1 (by decide) (by decide) kk_) ?_
    refine Gq.go (T844.setTop (mkF m 473 #[.val (.int x0), .val (.int x1), .val (.int x2), .val (.int x3), .val (.int x4), .val (.int x5), .val (.int (Int32.ofNat t)), .val (.int (Int32.ofNat u0)), .val (.int (Int32.ofNat u1)), .val (.int (Int32.ofNat u2)), .val (.ref b1), .val (.ref b95), .val (.ref b177), .val (.ref b229), .val (.int (x4 &&& (2147483632 : Int32))), .val (.ref b526), .val (.int (own_rf B RR x1 0 f0)), .val (.int (Int32.ofNat f0)), .val (.int (0 : Int32)), .val (.int (-1 : Int32))] [(.int (own_rf B RR x1 0 f0))])) (fun tt_ kk_ => XS.iload X844.here hx rfl (hb hby at_471) rfl kk_) ?_
    refine Gq.go (T844.setTop (mkF m 475 #[.val (.int x0), .val (.int x1), .val (.int x2), .val (.int x3), .val (.int x4), .val (.int x5), .val (.int (Int32.ofNat t)), .val (.int (Int32.ofNat u0)), .val (.int (Int32.ofNat u1)), .val (.int (Int32.ofNat u2)), .val (.ref b1), .val (.ref b95), .val (.ref b177), .val (.ref b229), .val (.int (x4 &&& (2147483632 : Int32))), .val (.ref b526), .val (.int (own_rf B RR x1 0 f0)), .val (.int (Int32.ofNat f0)), .val (.int (0 : Int32)), .val (.int (-1 : Int32))] [(.int (-1 : Int32)), (.int (own_rf B RR x1 0 f0))])) (fun tt_ kk_ => XS.iload X844.here hx rfl (hb hby at_473) rfl kk_) ?_
    refine Gq.go (T844.setTop (mkF m 478 #[.val (.int x0), .val (.int x1), .val (.int x2), .val (.int x3), .val (.int x4), .val (.int x5), .val (.int (Int32.ofNat t)), .val (.int (Int32.ofNat u0)), .val (.int (Int32.ofNat u1)), .val (.int (Int32.ofNat u2)), .val (.ref b1), .val (.ref b95), .val (.ref b177), .val (.ref b229), .val (.int (x4 &&& (2147483632 : Int32))), .val (.ref b526), .val (.int (own_rf B RR x1 0 f0)), .val (.int (Int32.ofNat f0)), .val (.int (0 : Int32)), .val (.int (-1 : Int32))] [])) (fun tt_ kk_ => XS.icmpNo X844.here hx rfl (hb hby at_475) rfl (teq (show (-1 : Int32) = (-1 : Int32) by rfl)).2 kk_) ?_
    refine Gq.go (T844.setTop (mkF m 479 #[.val (.int x0), .val (.int x1), .val (.int x2), .val (.int x3), .val (.int x4), .val (.int x5), .val (.int (Int32.ofNat t)), .val (.int (Int32.ofNat u0)), .val (.int (Int32.ofNat u1)), .val (.int (Int32.ofNat u2)), .val (.ref b1), .val (.ref b95), .val (.ref b177), .val (.ref b229), .val (.int (x4 &&& (2147483632 : Int32))), .val (.ref b526), .val (.int (own_rf B RR x1 0 f0)), .val (.int (Int32.ofNat f0)), .val (.int (0 : Int32)), .val (.int (-1 : Int32))] [(.int (1 : Int32))])) (fun tt_ kk_ => XS.iconst X844.here hx rfl (hb hby at_478) kk_) ?_
    refine Gq.go (T844.setTop (mkF m 483 #[.val (.int x0), .val (.int x1), .val (.int x2), .val (.int x3), .val (.int x4), .val (.int x5), .val (.int (Int32.ofNat t)), .val (.int (Int32.ofNat u0)), .val (.int (Int32.ofNat u1)), .val (.int (Int32.ofNat u2)), .val (.ref b1), .val (.ref b95), .val (.ref b177), .val (.ref b229), .val (.int (x4 &&& (2147483632 : Int32))), .val (.ref b526), .val (.int (own_rf B RR x1 0 f0)), .val (.int (Int32.ofNat f0)), .val (.int (0 : Int32)), .val (.int (-1 : Int32))] [(.int (1 : Int32))])) (fun tt_ kk_ => XS.goto X844.here hx rfl (pc0 := 479) (pc' := 483) rfl (hb hby at_479) (by decide) (by decide) kk_) ?_
    refine Gq.retI X844 hx Bd.notSynchronized Bd.returns (by simp) (hb hby at_483) rfl (by decide) (by decide) ?_
    show Q0 Z x0 x1 x2 x3 x4 x5 d0 fd h0 n0 _ T844.heap _
    rw [eh844]
    exact ⟨rfl, N844⟩
  · rw [show Int32.ofNat 1 = (1 : Int32) from rfl]
    refine Gq.go (T844.setTop (mkF m 399 #[.val (.int x0), .val (.int x1), .val (.int x2), .val (.int x3), .val (.int x4), .val (.int x5), .val (.int (Int32.ofNat t)), .val (.int (Int32.ofNat u0)), .val (.int (Int32.ofNat u1)), .val (.int (Int32.ofNat u2)), .val (.ref b1), .val (.ref b95), .val (.ref b177), .val (.ref b229), .val (.int (x4 &&& (2147483632 : Int32))), .val (.ref b526), .val (.int (own_rf B RR x1 1 f0)), .val (.int (Int32.ofNat f0)), .val (.int (1 : Int32)), .val (.int (-1 : Int32))] [(.int (1 : Int32))])) (fun tt_ kk_ => XS.iload X844.here hx rfl (hb hby at_397) rfl kk_) ?_
    refine Gq.go (T844.setTop (mkF m 400 #[.val (.int x0), .val (.int x1), .val (.int x2), .val (.int x3), .val (.int x4), .val (.int x5), .val (.int (Int32.ofNat t)), .val (.int (Int32.ofNat u0)), .val (.int (Int32.ofNat u1)), .val (.int (Int32.ofNat u2)), .val (.ref b1), .val (.ref b95), .val (.ref b177), .val (.ref b229), .val (.int (x4 &&& (2147483632 : Int32))), .val (.ref b526), .val (.int (own_rf B RR x1 1 f0)), .val (.int (Int32.ofNat f0)), .val (.int (1 : Int32)), .val (.int (-1 : Int32))] [(.int (3 : Int32)), (.int (1 : Int32))])) (fun tt_ kk_ => XS.iconst X844.here hx rfl (hb hby at_399) kk_) ?_
    refine Gq.go (T844.setTop (mkF m 423 #[.val (.int x0), .val (.int x1), .val (.int x2), .val (.int x3), .val (.int x4), .val (.int x5), .val (.int (Int32.ofNat t)), .val (.int (Int32.ofNat u0)), .val (.int (Int32.ofNat u1)), .val (.int (Int32.ofNat u2)), .val (.ref b1), .val (.ref b95), .val (.ref b177), .val (.ref b229), .val (.int (x4 &&& (2147483632 : Int32))), .val (.ref b526), .val (.int (own_rf B RR x1 1 f0)), .val (.int (Int32.ofNat f0)), .val (.int (1 : Int32)), .val (.int (-1 : Int32))] [])) (fun tt_ kk_ => XS.icmpYes X844.here hx rfl (pc0 := 400) (pc' := 423) rfl (hb hby at_400) rfl (tlt (by decide : ((1 : Int32) < (3 : Int32)))).1 (by decide) (by decide) kk_) ?_
    refine Gq.go (T844.setTop (mkF m 425 #[.val (.int x0), .val (.int x1), .val (.int x2), .val (.int x3), .val (.int x4), .val (.int x5), .val (.int (Int32.ofNat t)), .val (.int (Int32.ofNat u0)), .val (.int (Int32.ofNat u1)), .val (.int (Int32.ofNat u2)), .val (.ref b1), .val (.ref b95), .val (.ref b177), .val (.ref b229), .val (.int (x4 &&& (2147483632 : Int32))), .val (.ref b526), .val (.int (own_rf B RR x1 1 f0)), .val (.int (Int32.ofNat f0)), .val (.int (1 : Int32)), .val (.int (-1 : Int32))] [(.int (1 : Int32))])) (fun tt_ kk_ => XS.iload X844.here hx rfl (hb hby at_423) rfl kk_) ?_
    refine Gq.go (T844.setTop (mkF m 426 #[.val (.int x0), .val (.int x1), .val (.int x2), .val (.int x3), .val (.int x4), .val (.int x5), .val (.int (Int32.ofNat t)), .val (.int (Int32.ofNat u0)), .val (.int (Int32.ofNat u1)), .val (.int (Int32.ofNat u2)), .val (.ref b1), .val (.ref b95), .val (.ref b177), .val (.ref b229), .val (.int (x4 &&& (2147483632 : Int32))), .val (.ref b526), .val (.int (own_rf B RR x1 1 f0)), .val (.int (Int32.ofNat f0)), .val (.int (1 : Int32)), .val (.int (-1 : Int32))] [(.int (2 : Int32)), (.int (1 : Int32))])) (fun tt_ kk_ => XS.iconst X844.here hx rfl (hb hby at_425) kk_) ?_
    refine Gq.go (T844.setTop (mkF m 449 #[.val (.int x0), .val (.int x1), .val (.int x2), .val (.int x3), .val (.int x4), .val (.int x5), .val (.int (Int32.ofNat t)), .val (.int (Int32.ofNat u0)), .val (.int (Int32.ofNat u1)), .val (.int (Int32.ofNat u2)), .val (.ref b1), .val (.ref b95), .val (.ref b177), .val (.ref b229), .val (.int (x4 &&& (2147483632 : Int32))), .val (.ref b526), .val (.int (own_rf B RR x1 1 f0)), .val (.int (Int32.ofNat f0)), .val (.int (1 : Int32)), .val (.int (-1 : Int32))] [])) (fun tt_ kk_ => XS.icmpYes X844.here hx rfl (pc0 := 426) (pc' := 449) rfl (hb hby at_426) rfl (tlt (by decide : ((1 : Int32) < (2 : Int32)))).1 (by decide) (by decide) kk_) ?_
    refine Gq.go (T844.setTop (mkF m 451 #[.val (.int x0), .val (.int x1), .val (.int x2), .val (.int x3), .val (.int x4), .val (.int x5), .val (.int (Int32.ofNat t)), .val (.int (Int32.ofNat u0)), .val (.int (Int32.ofNat u1)), .val (.int (Int32.ofNat u2)), .val (.ref b1), .val (.ref b95), .val (.ref b177), .val (.ref b229), .val (.int (x4 &&& (2147483632 : Int32))), .val (.ref b526), .val (.int (own_rf B RR x1 1 f0)), .val (.int (Int32.ofNat f0)), .val (.int (1 : Int32)), .val (.int (-1 : Int32))] [(.int (1 : Int32))])) (fun tt_ kk_ => XS.iload X844.here hx rfl (hb hby at_449) rfl kk_) ?_
    refine Gq.go (T844.setTop (mkF m 452 #[.val (.int x0), .val (.int x1), .val (.int x2), .val (.int x3), .val (.int x4), .val (.int x5), .val (.int (Int32.ofNat t)), .val (.int (Int32.ofNat u0)), .val (.int (Int32.ofNat u1)), .val (.int (Int32.ofNat u2)), .val (.ref b1), .val (.ref b95), .val (.ref b177), .val (.ref b229), .val (.int (x4 &&& (2147483632 : Int32))), .val (.ref b526), .val (.int (own_rf B RR x1 1 f0)), .val (.int (Int32.ofNat f0)), .val (.int (1 : Int32)), .val (.int (-1 : Int32))] [(.int (1 : Int32)), (.int (1 : Int32))])) (fun tt_ kk_ => XS.iconst X844.here hx rfl (hb hby at_451) kk_) ?_
    refine Gq.go (T844.setTop (mkF m 455 #[.val (.int x0), .val (.int x1), .val (.int x2), .val (.int x3), .val (.int x4), .val (.int x5), .val (.int (Int32.ofNat t)), .val (.int (Int32.ofNat u0)), .val (.int (Int32.ofNat u1)), .val (.int (Int32.ofNat u2)), .val (.ref b1), .val (.ref b95), .val (.ref b177), .val (.ref b229), .val (.int (x4 &&& (2147483632 : Int32))), .val (.ref b526), .val (.int (own_rf B RR x1 1 f0)), .val (.int (Int32.ofNat f0)), .val (.int (1 : Int32)), .val (.int (-1 : Int32))] [])) (fun tt_ kk_ => XS.icmpNo X844.here hx rfl (hb hby at_452) rfl (flt (by decide : ¬ ((1 : Int32) < (1 : Int32)))).1 kk_) ?_
    refine Gq.go (T844.setTop (mkF m 457 #[.val (.int x0), .val (.int x1), .val (.int x2), .val (.int x3), .val (.int x4), .val (.int x5), .val (.int (Int32.ofNat t)), .val (.int (Int32.ofNat u0)), .val (.int (Int32.ofNat u1)), .val (.int (Int32.ofNat u2)), .val (.ref b1), .val (.ref b95), .val (.ref b177), .val (.ref b229), .val (.int (x4 &&& (2147483632 : Int32))), .val (.ref b526), .val (.int (own_rf B RR x1 1 f0)), .val (.int (Int32.ofNat f0)), .val (.int (1 : Int32)), .val (.int (-1 : Int32))] [(.ref b229)])) (fun tt_ kk_ => XS.aload X844.here hx rfl (hb hby at_455) rfl rfl kk_) ?_
    refine Gq.go (T844.setTop (mkF m 459 #[.val (.int x0), .val (.int x1), .val (.int x2), .val (.int x3), .val (.int x4), .val (.int x5), .val (.int (Int32.ofNat t)), .val (.int (Int32.ofNat u0)), .val (.int (Int32.ofNat u1)), .val (.int (Int32.ofNat u2)), .val (.ref b1), .val (.ref b95), .val (.ref b177), .val (.ref b229), .val (.int (x4 &&& (2147483632 : Int32))), .val (.ref b526), .val (.int (own_rf B RR x1 1 f0)), .val (.int (Int32.ofNat f0)), .val (.int (1 : Int32)), .val (.int (-1 : Int32))] [(.int (Int32.ofNat f0)), (.ref b229)])) (fun tt_ kk_ => XS.iload X844.here hx rfl (hb hby at_457) rfl kk_) ?_
    refine Gq.go (T844.setTop (mkF m 460 #[.val (.int x0), .val (.int x1), .val (.int x2), .val (.int x3), .val (.int x4), .val (.int x5), .val (.int (Int32.ofNat t)), .val (.int (Int32.ofNat u0)), .val (.int (Int32.ofNat u1)), .val (.int (Int32.ofNat u2)), .val (.ref b1), .val (.ref b95), .val (.ref b177), .val (.ref b229), .val (.int (x4 &&& (2147483632 : Int32))), .val (.ref b526), .val (.int (own_rf B RR x1 1 f0)), .val (.int (Int32.ofNat f0)), .val (.int (1 : Int32)), .val (.int (-1 : Int32))] [(.int (B f0))])) (fun tt_ kk_ => ldI X844 hx hZ eh844 VB (j := (Int32.ofNat f0)) (i := f0) (x := (B f0)) (own_nn (by omega)) (own_nc (by omega)) (by omega) rfl (hb hby at_459) tt_ kk_) ?_
    refine Gq.go (T844.setTop (mkF m 461 #[.val (.int x0), .val (.int x1), .val (.int x2), .val (.int x3), .val (.int x4), .val (.int x5), .val (.int (Int32.ofNat t)), .val (.int (Int32.ofNat u0)), .val (.int (Int32.ofNat u1)), .val (.int (Int32.ofNat u2)), .val (.ref b1), .val (.ref b95), .val (.ref b177), .val (.ref b229), .val (.int (x4 &&& (2147483632 : Int32))), .val (.ref b526), .val (.int (own_rf B RR x1 1 f0)), .val (.int (Int32.ofNat f0)), .val (.int (1 : Int32)), .val (.int (-1 : Int32))] [(.int x1), (.int (B f0))])) (fun tt_ kk_ => XS.iloadN X844.here hx rfl (hb hby at_460) rfl kk_) ?_
    by_cases hb0 : (B f0) = x1
    · refine Gq.go (T844.setTop (mkF m 464 #[.val (.int x0), .val (.int x1), .val (.int x2), .val (.int x3), .val (.int x4), .val (.int x5), .val (.int (Int32.ofNat t)), .val (.int (Int32.ofNat u0)), .val (.int (Int32.ofNat u1)), .val (.int (Int32.ofNat u2)), .val (.ref b1), .val (.ref b95), .val (.ref b177), .val (.ref b229), .val (.int (x4 &&& (2147483632 : Int32))), .val (.ref b526), .val (.int (own_rf B RR x1 1 f0)), .val (.int (Int32.ofNat f0)), .val (.int (1 : Int32)), .val (.int (-1 : Int32))] [])) (fun tt_ kk_ => XS.icmpNo X844.here hx rfl (hb hby at_461) rfl (teq hb0).2 kk_) ?_
      refine Gq.go (T844.setTop (mkF m 466 #[.val (.int x0), .val (.int x1), .val (.int x2), .val (.int x3), .val (.int x4), .val (.int x5), .val (.int (Int32.ofNat t)), .val (.int (Int32.ofNat u0)), .val (.int (Int32.ofNat u1)), .val (.int (Int32.ofNat u2)), .val (.ref b1), .val (.ref b95), .val (.ref b177), .val (.ref b229), .val (.int (x4 &&& (2147483632 : Int32))), .val (.ref b526), .val (.int (own_rf B RR x1 1 f0)), .val (.int (Int32.ofNat f0)), .val (.int (1 : Int32)), .val (.int (-1 : Int32))] [(.ref b526)])) (fun tt_ kk_ => XS.aload X844.here hx rfl (hb hby at_464) rfl rfl kk_) ?_
      refine Gq.go (T844.setTop (mkF m 468 #[.val (.int x0), .val (.int x1), .val (.int x2), .val (.int x3), .val (.int x4), .val (.int x5), .val (.int (Int32.ofNat t)), .val (.int (Int32.ofNat u0)), .val (.int (Int32.ofNat u1)), .val (.int (Int32.ofNat u2)), .val (.ref b1), .val (.ref b95), .val (.ref b177), .val (.ref b229), .val (.int (x4 &&& (2147483632 : Int32))), .val (.ref b526), .val (.int (own_rf B RR x1 1 f0)), .val (.int (Int32.ofNat f0)), .val (.int (1 : Int32)), .val (.int (-1 : Int32))] [(.int (Int32.ofNat f0)), (.ref b526)])) (fun tt_ kk_ => XS.iload X844.here hx rfl (hb hby at_466) rfl kk_) ?_
      refine Gq.go (T844.setTop (mkF m 469 #[.val (.int x0), .val (.int x1), .val (.int x2), .val (.int x3), .val (.int x4), .val (.int x5), .val (.int (Int32.ofNat t)), .val (.int (Int32.ofNat u0)), .val (.int (Int32.ofNat u1)), .val (.int (Int32.ofNat u2)), .val (.ref b1), .val (.ref b95), .val (.ref b177), .val (.ref b229), .val (.int (x4 &&& (2147483632 : Int32))), .val (.ref b526), .val (.int (own_rf B RR x1 1 f0)), .val (.int (Int32.ofNat f0)), .val (.int (1 : Int32)), .val (.int (-1 : Int32))] [(.int (RR f0))])) (fun tt_ kk_ => ldI X844 hx hZ eh844 VR (j := (Int32.ofNat f0)) (i := f0) (x := (RR f0)) (own_nn (by omega)) (own_nc (by omega)) (by omega) rfl (hb hby at_468) tt_ kk_) ?_
      refine Gq.go (T844.setTop (mkF m 471 #[.val (.int x0), .val (.int x1), .val (.int x2), .val (.int x3), .val (.int x4), .val (.int x5), .val (.int (Int32.ofNat t)), .val (.int (Int32.ofNat u0)), .val (.int (Int32.ofNat u1)), .val (.int (Int32.ofNat u2)), .val (.ref b1), .val (.ref b95), .val (.ref b177), .val (.ref b229), .val (.int (x4 &&& (2147483632 : Int32))), .val (.ref b526), .val (.int (own_rf B RR x1 1 f0)), .val (.int (Int32.ofNat f0)), .val (.int (1 : Int32)), .val (.int (RR f0))] [])) (fun tt_ kk_ => XS.istore X844.here hx rfl (hb hby at_469) rfl (l' := #[.val (.int x0), .val (.int x1), .val (.int x2), .val (.int x3), .val (.int x4), .val (.int x5), .val (.int (Int32.ofNat t)), .val (.int (Int32.ofNat u0)), .val (.int (Int32.ofNat u1)), .val (.int (Int32.ofNat u2)), .val (.ref b1), .val (.ref b95), .val (.ref b177), .val (.ref b229), .val (.int (x4 &&& (2147483632 : Int32))), .val (.ref b526), .val (.int (own_rf B RR x1 1 f0)), .val (.int (Int32.ofNat f0)), .val (.int (1 : Int32)), .val (.int (RR f0))]) rfl kk_) ?_
      refine Gq.go (T844.setTop (mkF m 473 #[.val (.int x0), .val (.int x1), .val (.int x2), .val (.int x3), .val (.int x4), .val (.int x5), .val (.int (Int32.ofNat t)), .val (.int (Int32.ofNat u0)), .val (.int (Int32.ofNat u1)), .val (.int (Int32.ofNat u2)), .val (.ref b1), .val (.ref b95), .val (.ref b177), .val (.ref b229), .val (.int (x4 &&& (2147483632 : Int32))), .val (.ref b526), .val (.int (own_rf B RR x1 1 f0)), .val (.int (Int32.ofNat f0)), .val (.int (1 : Int32)), .val (.int (RR f0))] [(.int (own_rf B RR x1 1 f0))])) (fun tt_ kk_ => XS.iload X844.here hx rfl (hb hby at_471) rfl kk_) ?_
      refine Gq.go (T844.setTop (mkF m 475 #[.val (.int x0), .val (.int x1), .val (.int x2), .val (.int x3), .val (.int x4), .val (.int x5), .val (.int (Int32.ofNat t)), .val (.int (Int32.ofNat u0)), .val (.int (Int32.ofNat u1)), .val (.int (Int32.ofNat u2)), .val (.ref b1), .val (.ref b95), .val (.ref b177), .val (.ref b229), .val (.int (x4 &&& (2147483632 : Int32))), .val (.ref b526), .val (.int (own_rf B RR x1 1 f0)), .val (.int (Int32.ofNat f0)), .val (.int (1 : Int32)), .val (.int (RR f0))] [(.int (RR f0)), (.int (own_rf B RR x1 1 f0))])) (fun tt_ kk_ => XS.iload X844.here hx rfl (hb hby at_473) rfl kk_) ?_
      refine Gq.go (T844.setTop (mkF m 478 #[.val (.int x0), .val (.int x1), .val (.int x2), .val (.int x3), .val (.int x4), .val (.int x5), .val (.int (Int32.ofNat t)), .val (.int (Int32.ofNat u0)), .val (.int (Int32.ofNat u1)), .val (.int (Int32.ofNat u2)), .val (.ref b1), .val (.ref b95), .val (.ref b177), .val (.ref b229), .val (.int (x4 &&& (2147483632 : Int32))), .val (.ref b526), .val (.int (own_rf B RR x1 1 f0)), .val (.int (Int32.ofNat f0)), .val (.int (1 : Int32)), .val (.int (RR f0))] [])) (fun tt_ kk_ => XS.icmpNo X844.here hx rfl (hb hby at_475) rfl (teq (show (if B (f0) = x1 then RR (f0) else (-1 : Int32)) = (RR f0) by rw [if_pos hb0])).2 kk_) ?_
      refine Gq.go (T844.setTop (mkF m 479 #[.val (.int x0), .val (.int x1), .val (.int x2), .val (.int x3), .val (.int x4), .val (.int x5), .val (.int (Int32.ofNat t)), .val (.int (Int32.ofNat u0)), .val (.int (Int32.ofNat u1)), .val (.int (Int32.ofNat u2)), .val (.ref b1), .val (.ref b95), .val (.ref b177), .val (.ref b229), .val (.int (x4 &&& (2147483632 : Int32))), .val (.ref b526), .val (.int (own_rf B RR x1 1 f0)), .val (.int (Int32.ofNat f0)), .val (.int (1 : Int32)), .val (.int (RR f0))] [(.int (1 : Int32))])) (fun tt_ kk_ => XS.iconst X844.here hx rfl (hb hby at_478) kk_) ?_
      refine Gq.go (T844.setTop (mkF m 483 #[.val (.int x0), .val (.int x1), .val (.int x2), .val (.int x3), .val (.int x4), .val (.int x5), .val (.int (Int32.ofNat t)), .val (.int (Int32.ofNat u0)), .val (.int (Int32.ofNat u1)), .val (.int (Int32.ofNat u2)), .val (.ref b1), .val (.ref b95), .val (.ref b177), .val (.ref b229), .val (.int (x4 &&& (2147483632 : Int32))), .val (.ref b526), .val (.int (own_rf B RR x1 1 f0)), .val (.int (Int32.ofNat f0)), .val (.int (1 : Int32)), .val (.int (RR f0))] [(.int (1 : Int32))])) (fun tt_ kk_ => XS.goto X844.here hx rfl (pc0 := 479) (pc' := 483) rfl (hb hby at_479) (by decide) (by decide) kk_) ?_
      refine Gq.retI X844 hx Bd.notSynchronized Bd.returns (by simp) (hb hby at_483) rfl (by decide) (by decide) ?_
      show Q0 Z x0 x1 x2 x3 x4 x5 d0 fd h0 n0 _ T844.heap _
      rw [eh844]
      exact ⟨rfl, N844⟩
    · refine Gq.go (T844.setTop (mkF m 471 #[.val (.int x0), .val (.int x1), .val (.int x2), .val (.int x3), .val (.int x4), .val (.int x5), .val (.int (Int32.ofNat t)), .val (.int (Int32.ofNat u0)), .val (.int (Int32.ofNat u1)), .val (.int (Int32.ofNat u2)), .val (.ref b1), .val (.ref b95), .val (.ref b177), .val (.ref b229), .val (.int (x4 &&& (2147483632 : Int32))), .val (.ref b526), .val (.int (own_rf B RR x1 1 f0)), .val (.int (Int32.ofNat f0)), .val (.int (1 : Int32)), .val (.int (-1 : Int32))] [])) (fun tt_ kk_ => XS.icmpYes X844.here hx rfl (pc0 := 461) (pc' := 471) rfl (hb hby at_461) rfl (feq hb0).2 (by decide) (by decide) kk_) ?_
      refine Gq.go (T844.setTop (mkF m 473 #[.val (.int x0), .val (.int x1), .val (.int x2), .val (.int x3), .val (.int x4), .val (.int x5), .val (.int (Int32.ofNat t)), .val (.int (Int32.ofNat u0)), .val (.int (Int32.ofNat u1)), .val (.int (Int32.ofNat u2)), .val (.ref b1), .val (.ref b95), .val (.ref b177), .val (.ref b229), .val (.int (x4 &&& (2147483632 : Int32))), .val (.ref b526), .val (.int (own_rf B RR x1 1 f0)), .val (.int (Int32.ofNat f0)), .val (.int (1 : Int32)), .val (.int (-1 : Int32))] [(.int (own_rf B RR x1 1 f0))])) (fun tt_ kk_ => XS.iload X844.here hx rfl (hb hby at_471) rfl kk_) ?_
      refine Gq.go (T844.setTop (mkF m 475 #[.val (.int x0), .val (.int x1), .val (.int x2), .val (.int x3), .val (.int x4), .val (.int x5), .val (.int (Int32.ofNat t)), .val (.int (Int32.ofNat u0)), .val (.int (Int32.ofNat u1)), .val (.int (Int32.ofNat u2)), .val (.ref b1), .val (.ref b95), .val (.ref b177), .val (.ref b229), .val (.int (x4 &&& (2147483632 : Int32))), .val (.ref b526), .val (.int (own_rf B RR x1 1 f0)), .val (.int (Int32.ofNat f0)), .val (.int (1 : Int32)), .val (.int (-1 : Int32))] [(.int (-1 : Int32)), (.int (own_rf B RR x1 1 f0))])) (fun tt_ kk_ => XS.iload X844.here hx rfl (hb hby at_473) rfl kk_) ?_
      refine Gq.go (T844.setTop (mkF m 478 #[.val (.int x0), .val (.int x1), .val (.int x2), .val (.int x3), .val (.int x4), .val (.int x5), .val (.int (Int32.ofNat t)), .val (.int (Int32.ofNat u0)), .val (.int (Int32.ofNat u1)), .val (.int (Int32.ofNat u2)), .val (.ref b1), .val (.ref b95), .val (.ref b177), .val (.ref b229), .val (.int (x4 &&& (2147483632 : Int32))), .val (.ref b526), .val (.int (own_rf B RR x1 1 f0)), .val (.int (Int32.ofNat f0)), .val (.int (1 : Int32)), .val (.int (-1 : Int32))] [])) (fun tt_ kk_ => XS.icmpNo X844.here hx rfl (hb hby at_475) rfl (teq (show (if B (f0) = x1 then RR (f0) else (-1 : Int32)) = (-1 : Int32) by rw [if_neg hb0])).2 kk_) ?_
      refine Gq.go (T844.setTop (mkF m 479 #[.val (.int x0), .val (.int x1), .val (.int x2), .val (.int x3), .val (.int x4), .val (.int x5), .val (.int (Int32.ofNat t)), .val (.int (Int32.ofNat u0)), .val (.int (Int32.ofNat u1)), .val (.int (Int32.ofNat u2)), .val (.ref b1), .val (.ref b95), .val (.ref b177), .val (.ref b229), .val (.int (x4 &&& (2147483632 : Int32))), .val (.ref b526), .val (.int (own_rf B RR x1 1 f0)), .val (.int (Int32.ofNat f0)), .val (.int (1 : Int32)), .val (.int (-1 : Int32))] [(.int (1 : Int32))])) (fun tt_ kk_ => XS.iconst X844.here hx rfl (hb hby at_478) kk_) ?_
      refine Gq.go (T844.setTop (mkF m 483 #[.val (.int x0), .val (.int x1), .val (.int x2), .val (.int x3), .val (.int x4), .val (.int x5), .val (.int (Int32.ofNat t)), .val (.int (Int32.ofNat u0)), .val (.int (Int32.ofNat u1)), .val (.int (Int32.ofNat u2)), .val (.ref b1), .val (.ref b95), .val (.ref b177), .val (.ref b229), .val (.int (x4 &&& (2147483632 : Int32))), .val (.ref b526), .val (.int (own_rf B RR x1 1 f0)), .val (.int (Int32.ofNat f0)), .val (.int (1 : Int32)), .val (.int (-1 : Int32))] [(.int (1 : Int32))])) (fun tt_ kk_ => XS.goto X844.here hx rfl (pc0 := 479) (pc' := 483) rfl (hb hby at_479) (by decide) (by decide) kk_) ?_
      refine Gq.retI X844 hx Bd.notSynchronized Bd.returns (by simp) (hb hby at_483) rfl (by decide) (by decide) ?_
      show Q0 Z x0 x1 x2 x3 x4 x5 d0 fd h0 n0 _ T844.heap _
      rw [eh844]
      exact ⟨rfl, N844⟩
  · rw [show Int32.ofNat 2 = (2 : Int32) from rfl]
    refine Gq.go (T844.setTop (mkF m 399 #[.val (.int x0), .val (.int x1), .val (.int x2), .val (.int x3), .val (.int x4), .val (.int x5), .val (.int (Int32.ofNat t)), .val (.int (Int32.ofNat u0)), .val (.int (Int32.ofNat u1)), .val (.int (Int32.ofNat u2)), .val (.ref b1), .val (.ref b95), .val (.ref b177), .val (.ref b229), .val (.int (x4 &&& (2147483632 : Int32))), .val (.ref b526), .val (.int (own_rf B RR x1 2 f0)), .val (.int (Int32.ofNat f0)), .val (.int (2 : Int32)), .val (.int (-1 : Int32))] [(.int (2 : Int32))])) (fun tt_ kk_ => XS.iload X844.here hx rfl (hb hby at_397) rfl kk_) ?_
    refine Gq.go (T844.setTop (mkF m 400 #[.val (.int x0), .val (.int x1), .val (.int x2), .val (.int x3), .val (.int x4), .val (.int x5), .val (.int (Int32.ofNat t)), .val (.int (Int32.ofNat u0)), .val (.int (Int32.ofNat u1)), .val (.int (Int32.ofNat u2)), .val (.ref b1), .val (.ref b95), .val (.ref b177), .val (.ref b229), .val (.int (x4 &&& (2147483632 : Int32))), .val (.ref b526), .val (.int (own_rf B RR x1 2 f0)), .val (.int (Int32.ofNat f0)), .val (.int (2 : Int32)), .val (.int (-1 : Int32))] [(.int (3 : Int32)), (.int (2 : Int32))])) (fun tt_ kk_ => XS.iconst X844.here hx rfl (hb hby at_399) kk_) ?_
    refine Gq.go (T844.setTop (mkF m 423 #[.val (.int x0), .val (.int x1), .val (.int x2), .val (.int x3), .val (.int x4), .val (.int x5), .val (.int (Int32.ofNat t)), .val (.int (Int32.ofNat u0)), .val (.int (Int32.ofNat u1)), .val (.int (Int32.ofNat u2)), .val (.ref b1), .val (.ref b95), .val (.ref b177), .val (.ref b229), .val (.int (x4 &&& (2147483632 : Int32))), .val (.ref b526), .val (.int (own_rf B RR x1 2 f0)), .val (.int (Int32.ofNat f0)), .val (.int (2 : Int32)), .val (.int (-1 : Int32))] [])) (fun tt_ kk_ => XS.icmpYes X844.here hx rfl (pc0 := 400) (pc' := 423) rfl (hb hby at_400) rfl (tlt (by decide : ((2 : Int32) < (3 : Int32)))).1 (by decide) (by decide) kk_) ?_
    refine Gq.go (T844.setTop (mkF m 425 #[.val (.int x0), .val (.int x1), .val (.int x2), .val (.int x3), .val (.int x4), .val (.int x5), .val (.int (Int32.ofNat t)), .val (.int (Int32.ofNat u0)), .val (.int (Int32.ofNat u1)), .val (.int (Int32.ofNat u2)), .val (.ref b1), .val (.ref b95), .val (.ref b177), .val (.ref b229), .val (.int (x4 &&& (2147483632 : Int32))), .val (.ref b526), .val (.int (own_rf B RR x1 2 f0)), .val (.int (Int32.ofNat f0)), .val (.int (2 : Int32)), .val (.int (-1 : Int32))] [(.int (2 : Int32))])) (fun tt_ kk_ => XS.iload X844.here hx rfl (hb hby at_423) rfl kk_) ?_
    refine Gq.go (T844.setTop (mkF m 426 #[.val (.int x0), .val (.int x1), .val (.int x2), .val (.int x3), .val (.int x4), .val (.int x5), .val (.int (Int32.ofNat t)), .val (.int (Int32.ofNat u0)), .val (.int (Int32.ofNat u1)), .val (.int (Int32.ofNat u2)), .val (.ref b1), .val (.ref b95), .val (.ref b177), .val (.ref b229), .val (.int (x4 &&& (2147483632 : Int32))), .val (.ref b526), .val (.int (own_rf B RR x1 2 f0)), .val (.int (Int32.ofNat f0)), .val (.int (2 : Int32)), .val (.int (-1 : Int32))] [(.int (2 : Int32)), (.int (2 : Int32))])) (fun tt_ kk_ => XS.iconst X844.here hx rfl (hb hby at_425) kk_) ?_
    refine Gq.go (T844.setTop (mkF m 429 #[.val (.int x0), .val (.int x1), .val (.int x2), .val (.int x3), .val (.int x4), .val (.int x5), .val (.int (Int32.ofNat t)), .val (.int (Int32.ofNat u0)), .val (.int (Int32.ofNat u1)), .val (.int (Int32.ofNat u2)), .val (.ref b1), .val (.ref b95), .val (.ref b177), .val (.ref b229), .val (.int (x4 &&& (2147483632 : Int32))), .val (.ref b526), .val (.int (own_rf B RR x1 2 f0)), .val (.int (Int32.ofNat f0)), .val (.int (2 : Int32)), .val (.int (-1 : Int32))] [])) (fun tt_ kk_ => XS.icmpNo X844.here hx rfl (hb hby at_426) rfl (flt (by decide : ¬ ((2 : Int32) < (2 : Int32)))).1 kk_) ?_
    refine Gq.go (T844.setTop (mkF m 431 #[.val (.int x0), .val (.int x1), .val (.int x2), .val (.int x3), .val (.int x4), .val (.int x5), .val (.int (Int32.ofNat t)), .val (.int (Int32.ofNat u0)), .val (.int (Int32.ofNat u1)), .val (.int (Int32.ofNat u2)), .val (.ref b1), .val (.ref b95), .val (.ref b177), .val (.ref b229), .val (.int (x4 &&& (2147483632 : Int32))), .val (.ref b526), .val (.int (own_rf B RR x1 2 f0)), .val (.int (Int32.ofNat f0)), .val (.int (2 : Int32)), .val (.int (-1 : Int32))] [(.ref b229)])) (fun tt_ kk_ => XS.aload X844.here hx rfl (hb hby at_429) rfl rfl kk_) ?_
    refine Gq.go (T844.setTop (mkF m 433 #[.val (.int x0), .val (.int x1), .val (.int x2), .val (.int x3), .val (.int x4), .val (.int x5), .val (.int (Int32.ofNat t)), .val (.int (Int32.ofNat u0)), .val (.int (Int32.ofNat u1)), .val (.int (Int32.ofNat u2)), .val (.ref b1), .val (.ref b95), .val (.ref b177), .val (.ref b229), .val (.int (x4 &&& (2147483632 : Int32))), .val (.ref b526), .val (.int (own_rf B RR x1 2 f0)), .val (.int (Int32.ofNat f0)), .val (.int (2 : Int32)), .val (.int (-1 : Int32))] [(.int (Int32.ofNat f0)), (.ref b229)])) (fun tt_ kk_ => XS.iload X844.here hx rfl (hb hby at_431) rfl kk_) ?_
    refine Gq.go (T844.setTop (mkF m 434 #[.val (.int x0), .val (.int x1), .val (.int x2), .val (.int x3), .val (.int x4), .val (.int x5), .val (.int (Int32.ofNat t)), .val (.int (Int32.ofNat u0)), .val (.int (Int32.ofNat u1)), .val (.int (Int32.ofNat u2)), .val (.ref b1), .val (.ref b95), .val (.ref b177), .val (.ref b229), .val (.int (x4 &&& (2147483632 : Int32))), .val (.ref b526), .val (.int (own_rf B RR x1 2 f0)), .val (.int (Int32.ofNat f0)), .val (.int (2 : Int32)), .val (.int (-1 : Int32))] [(.int (1 : Int32)), (.int (Int32.ofNat f0)), (.ref b229)])) (fun tt_ kk_ => XS.iconst X844.here hx rfl (hb hby at_433) kk_) ?_
    refine Gq.go (T844.setTop (mkF m 435 #[.val (.int x0), .val (.int x1), .val (.int x2), .val (.int x3), .val (.int x4), .val (.int x5), .val (.int (Int32.ofNat t)), .val (.int (Int32.ofNat u0)), .val (.int (Int32.ofNat u1)), .val (.int (Int32.ofNat u2)), .val (.ref b1), .val (.ref b95), .val (.ref b177), .val (.ref b229), .val (.int (x4 &&& (2147483632 : Int32))), .val (.ref b526), .val (.int (own_rf B RR x1 2 f0)), .val (.int (Int32.ofNat f0)), .val (.int (2 : Int32)), .val (.int (-1 : Int32))] [(.int ((Int32.ofNat f0) + (1 : Int32))), (.ref b229)])) (fun tt_ kk_ => XS.iadd X844.here hx rfl (hb hby at_434) rfl kk_) ?_
    rw [show ((Int32.ofNat f0) + (1 : Int32)) = (Int32.ofNat (f0 + 1)) from own_add f0 1]
    refine Gq.go (T844.setTop (mkF m 436 #[.val (.int x0), .val (.int x1), .val (.int x2), .val (.int x3), .val (.int x4), .val (.int x5), .val (.int (Int32.ofNat t)), .val (.int (Int32.ofNat u0)), .val (.int (Int32.ofNat u1)), .val (.int (Int32.ofNat u2)), .val (.ref b1), .val (.ref b95), .val (.ref b177), .val (.ref b229), .val (.int (x4 &&& (2147483632 : Int32))), .val (.ref b526), .val (.int (own_rf B RR x1 2 f0)), .val (.int (Int32.ofNat f0)), .val (.int (2 : Int32)), .val (.int (-1 : Int32))] [(.int (B (f0 + 1)))])) (fun tt_ kk_ => ldI X844 hx hZ eh844 VB (j := (Int32.ofNat (f0 + 1))) (i := (f0 + 1)) (x := (B (f0 + 1))) (own_nn (by omega)) (own_nc (by omega)) (by omega) rfl (hb hby at_435) tt_ kk_) ?_
    refine Gq.go (T844.setTop (mkF m 437 #[.val (.int x0), .val (.int x1), .val (.int x2), .val (.int x3), .val (.int x4), .val (.int x5), .val (.int (Int32.ofNat t)), .val (.int (Int32.ofNat u0)), .val (.int (Int32.ofNat u1)), .val (.int (Int32.ofNat u2)), .val (.ref b1), .val (.ref b95), .val (.ref b177), .val (.ref b229), .val (.int (x4 &&& (2147483632 : Int32))), .val (.ref b526), .val (.int (own_rf B RR x1 2 f0)), .val (.int (Int32.ofNat f0)), .val (.int (2 : Int32)), .val (.int (-1 : Int32))] [(.int x1), (.int (B (f0 + 1)))])) (fun tt_ kk_ => XS.iloadN X844.here hx rfl (hb hby at_436) rfl kk_) ?_
    by_cases hb1 : (B (f0 + 1)) = x1
    · refine Gq.go (T844.setTop (mkF m 440 #[.val (.int x0), .val (.int x1), .val (.int x2), .val (.int x3), .val (.int x4), .val (.int x5), .val (.int (Int32.ofNat t)), .val (.int (Int32.ofNat u0)), .val (.int (Int32.ofNat u1)), .val (.int (Int32.ofNat u2)), .val (.ref b1), .val (.ref b95), .val (.ref b177), .val (.ref b229), .val (.int (x4 &&& (2147483632 : Int32))), .val (.ref b526), .val (.int (own_rf B RR x1 2 f0)), .val (.int (Int32.ofNat f0)), .val (.int (2 : Int32)), .val (.int (-1 : Int32))] [])) (fun tt_ kk_ => XS.icmpNo X844.here hx rfl (hb hby at_437) rfl (teq hb1).2 kk_) ?_
      refine Gq.go (T844.setTop (mkF m 442 #[.val (.int x0), .val (.int x1), .val (.int x2), .val (.int x3), .val (.int x4), .val (.int x5), .val (.int (Int32.ofNat t)), .val (.int (Int32.ofNat u0)), .val (.int (Int32.ofNat u1)), .val (.int (Int32.ofNat u2)), .val (.ref b1), .val (.ref b95), .val (.ref b177), .val (.ref b229), .val (.int (x4 &&& (2147483632 : Int32))), .val (.ref b526), .val (.int (own_rf B RR x1 2 f0)), .val (.int (Int32.ofNat f0)), .val (.int (2 : Int32)), .val (.int (-1 : Int32))] [(.ref b526)])) (fun tt_ kk_ => XS.aload X844.here hx rfl (hb hby at_440) rfl rfl kk_) ?_
      refine Gq.go (T844.setTop (mkF m 444 #[.val (.int x0), .val (.int x1), .val (.int x2), .val (.int x3), .val (.int x4), .val (.int x5), .val (.int (Int32.ofNat t)), .val (.int (Int32.ofNat u0)), .val (.int (Int32.ofNat u1)), .val (.int (Int32.ofNat u2)), .val (.ref b1), .val (.ref b95), .val (.ref b177), .val (.ref b229), .val (.int (x4 &&& (2147483632 : Int32))), .val (.ref b526), .val (.int (own_rf B RR x1 2 f0)), .val (.int (Int32.ofNat f0)), .val (.int (2 : Int32)), .val (.int (-1 : Int32))] [(.int (Int32.ofNat f0)), (.ref b526)])) (fun tt_ kk_ => XS.iload X844.here hx rfl (hb hby at_442) rfl kk_) ?_
      refine Gq.go (T844.setTop (mkF m 445 #[.val (.int x0), .val (.int x1), .val (.int x2), .val (.int x3), .val (.int x4), .val (.int x5), .val (.int (Int32.ofNat t)), .val (.int (Int32.ofNat u0)), .val (.int (Int32.ofNat u1)), .val (.int (Int32.ofNat u2)), .val (.ref b1), .val (.ref b95), .val (.ref b177), .val (.ref b229), .val (.int (x4 &&& (2147483632 : Int32))), .val (.ref b526), .val (.int (own_rf B RR x1 2 f0)), .val (.int (Int32.ofNat f0)), .val (.int (2 : Int32)), .val (.int (-1 : Int32))] [(.int (1 : Int32)), (.int (Int32.ofNat f0)), (.ref b526)])) (fun tt_ kk_ => XS.iconst X844.here hx rfl (hb hby at_444) kk_) ?_
      refine Gq.go (T844.setTop (mkF m 446 #[.val (.int x0), .val (.int x1), .val (.int x2), .val (.int x3), .val (.int x4), .val (.int x5), .val (.int (Int32.ofNat t)), .val (.int (Int32.ofNat u0)), .val (.int (Int32.ofNat u1)), .val (.int (Int32.ofNat u2)), .val (.ref b1), .val (.ref b95), .val (.ref b177), .val (.ref b229), .val (.int (x4 &&& (2147483632 : Int32))), .val (.ref b526), .val (.int (own_rf B RR x1 2 f0)), .val (.int (Int32.ofNat f0)), .val (.int (2 : Int32)), .val (.int (-1 : Int32))] [(.int ((Int32.ofNat f0) + (1 : Int32))), (.ref b526)])) (fun tt_ kk_ => XS.iadd X844.here hx rfl (hb hby at_445) rfl kk_) ?_
      rw [show ((Int32.ofNat f0) + (1 : Int32)) = (Int32.ofNat (f0 + 1)) from own_add f0 1]
      refine Gq.go (T844.setTop (mkF m 447 #[.val (.int x0), .val (.int x1), .val (.int x2), .val (.int x3), .val (.int x4), .val (.int x5), .val (.int (Int32.ofNat t)), .val (.int (Int32.ofNat u0)), .val (.int (Int32.ofNat u1)), .val (.int (Int32.ofNat u2)), .val (.ref b1), .val (.ref b95), .val (.ref b177), .val (.ref b229), .val (.int (x4 &&& (2147483632 : Int32))), .val (.ref b526), .val (.int (own_rf B RR x1 2 f0)), .val (.int (Int32.ofNat f0)), .val (.int (2 : Int32)), .val (.int (-1 : Int32))] [(.int (RR (f0 + 1)))])) (fun tt_ kk_ => ldI X844 hx hZ eh844 VR (j := (Int32.ofNat (f0 + 1))) (i := (f0 + 1)) (x := (RR (f0 + 1))) (own_nn (by omega)) (own_nc (by omega)) (by omega) rfl (hb hby at_446) tt_ kk_) ?_
      refine Gq.go (T844.setTop (mkF m 449 #[.val (.int x0), .val (.int x1), .val (.int x2), .val (.int x3), .val (.int x4), .val (.int x5), .val (.int (Int32.ofNat t)), .val (.int (Int32.ofNat u0)), .val (.int (Int32.ofNat u1)), .val (.int (Int32.ofNat u2)), .val (.ref b1), .val (.ref b95), .val (.ref b177), .val (.ref b229), .val (.int (x4 &&& (2147483632 : Int32))), .val (.ref b526), .val (.int (own_rf B RR x1 2 f0)), .val (.int (Int32.ofNat f0)), .val (.int (2 : Int32)), .val (.int (RR (f0 + 1)))] [])) (fun tt_ kk_ => XS.istore X844.here hx rfl (hb hby at_447) rfl (l' := #[.val (.int x0), .val (.int x1), .val (.int x2), .val (.int x3), .val (.int x4), .val (.int x5), .val (.int (Int32.ofNat t)), .val (.int (Int32.ofNat u0)), .val (.int (Int32.ofNat u1)), .val (.int (Int32.ofNat u2)), .val (.ref b1), .val (.ref b95), .val (.ref b177), .val (.ref b229), .val (.int (x4 &&& (2147483632 : Int32))), .val (.ref b526), .val (.int (own_rf B RR x1 2 f0)), .val (.int (Int32.ofNat f0)), .val (.int (2 : Int32)), .val (.int (RR (f0 + 1)))]) rfl kk_) ?_
      refine Gq.go (T844.setTop (mkF m 451 #[.val (.int x0), .val (.int x1), .val (.int x2), .val (.int x3), .val (.int x4), .val (.int x5), .val (.int (Int32.ofNat t)), .val (.int (Int32.ofNat u0)), .val (.int (Int32.ofNat u1)), .val (.int (Int32.ofNat u2)), .val (.ref b1), .val (.ref b95), .val (.ref b177), .val (.ref b229), .val (.int (x4 &&& (2147483632 : Int32))), .val (.ref b526), .val (.int (own_rf B RR x1 2 f0)), .val (.int (Int32.ofNat f0)), .val (.int (2 : Int32)), .val (.int (RR (f0 + 1)))] [(.int (2 : Int32))])) (fun tt_ kk_ => XS.iload X844.here hx rfl (hb hby at_449) rfl kk_) ?_
      refine Gq.go (T844.setTop (mkF m 452 #[.val (.int x0), .val (.int x1), .val (.int x2), .val (.int x3), .val (.int x4), .val (.int x5), .val (.int (Int32.ofNat t)), .val (.int (Int32.ofNat u0)), .val (.int (Int32.ofNat u1)), .val (.int (Int32.ofNat u2)), .val (.ref b1), .val (.ref b95), .val (.ref b177), .val (.ref b229), .val (.int (x4 &&& (2147483632 : Int32))), .val (.ref b526), .val (.int (own_rf B RR x1 2 f0)), .val (.int (Int32.ofNat f0)), .val (.int (2 : Int32)), .val (.int (RR (f0 + 1)))] [(.int (1 : Int32)), (.int (2 : Int32))])) (fun tt_ kk_ => XS.iconst X844.here hx rfl (hb hby at_451) kk_) ?_
      refine Gq.go (T844.setTop (mkF m 455 #[.val (.int x0), .val (.int x1), .val (.int x2), .val (.int x3), .val (.int x4), .val (.int x5), .val (.int (Int32.ofNat t)), .val (.int (Int32.ofNat u0)), .val (.int (Int32.ofNat u1)), .val (.int (Int32.ofNat u2)), .val (.ref b1), .val (.ref b95), .val (.ref b177), .val (.ref b229), .val (.int (x4 &&& (2147483632 : Int32))), .val (.ref b526), .val (.int (own_rf B RR x1 2 f0)), .val (.int (Int32.ofNat f0)), .val (.int (2 : Int32)), .val (.int (RR (f0 + 1)))] [])) (fun tt_ kk_ => XS.icmpNo X844.here hx rfl (hb hby at_452) rfl (flt (by decide : ¬ ((2 : Int32) < (1 : Int32)))).1 kk_) ?_
      refine Gq.go (T844.setTop (mkF m 457 #[.val (.int x0), .val (.int x1), .val (.int x2), .val (.int x3), .val (.int x4), .val (.int x5), .val (.int (Int32.ofNat t)), .val (.int (Int32.ofNat u0)), .val (.int (Int32.ofNat u1)), .val (.int (Int32.ofNat u2)), .val (.ref b1), .val (.ref b95), .val (.ref b177), .val (.ref b229), .val (.int (x4 &&& (2147483632 : Int32))), .val (.ref b526), .val (.int (own_rf B RR x1 2 f0)), .val (.int (Int32.ofNat f0)), .val (.int (2 : Int32)), .val (.int (RR (f0 + 1)))] [(.ref b229)])) (fun tt_ kk_ => XS.aload X844.here hx rfl (hb hby at_455) rfl rfl kk_) ?_
      refine Gq.go (T844.setTop (mkF m 459 #[.val (.int x0), .val (.int x1), .val (.int x2), .val (.int x3), .val (.int x4), .val (.int x5), .val (.int (Int32.ofNat t)), .val (.int (Int32.ofNat u0)), .val (.int (Int32.ofNat u1)), .val (.int (Int32.ofNat u2)), .val (.ref b1), .val (.ref b95), .val (.ref b177), .val (.ref b229), .val (.int (x4 &&& (2147483632 : Int32))), .val (.ref b526), .val (.int (own_rf B RR x1 2 f0)), .val (.int (Int32.ofNat f0)), .val (.int (2 : Int32)), .val (.int (RR (f0 + 1)))] [(.int (Int32.ofNat f0)), (.ref b229)])) (fun tt_ kk_ => XS.iload X844.here hx rfl (hb hby at_457) rfl kk_) ?_
      refine Gq.go (T844.setTop (mkF m 460 #[.val (.int x0), .val (.int x1), .val (.int x2), .val (.int x3), .val (.int x4), .val (.int x5), .val (.int (Int32.ofNat t)), .val (.int (Int32.ofNat u0)), .val (.int (Int32.ofNat u1)), .val (.int (Int32.ofNat u2)), .val (.ref b1), .val (.ref b95), .val (.ref b177), .val (.ref b229), .val (.int (x4 &&& (2147483632 : Int32))), .val (.ref b526), .val (.int (own_rf B RR x1 2 f0)), .val (.int (Int32.ofNat f0)), .val (.int (2 : Int32)), .val (.int (RR (f0 + 1)))] [(.int (B f0))])) (fun tt_ kk_ => ldI X844 hx hZ eh844 VB (j := (Int32.ofNat f0)) (i := f0) (x := (B f0)) (own_nn (by omega)) (own_nc (by omega)) (by omega) rfl (hb hby at_459) tt_ kk_) ?_
      refine Gq.go (T844.setTop (mkF m 461 #[.val (.int x0), .val (.int x1), .val (.int x2), .val (.int x3), .val (.int x4), .val (.int x5), .val (.int (Int32.ofNat t)), .val (.int (Int32.ofNat u0)), .val (.int (Int32.ofNat u1)), .val (.int (Int32.ofNat u2)), .val (.ref b1), .val (.ref b95), .val (.ref b177), .val (.ref b229), .val (.int (x4 &&& (2147483632 : Int32))), .val (.ref b526), .val (.int (own_rf B RR x1 2 f0)), .val (.int (Int32.ofNat f0)), .val (.int (2 : Int32)), .val (.int (RR (f0 + 1)))] [(.int x1), (.int (B f0))])) (fun tt_ kk_ => XS.iloadN X844.here hx rfl (hb hby at_460) rfl kk_) ?_
      by_cases hb0 : (B f0) = x1
      · refine Gq.go (T844.setTop (mkF m 464 #[.val (.int x0), .val (.int x1), .val (.int x2), .val (.int x3), .val (.int x4), .val (.int x5), .val (.int (Int32.ofNat t)), .val (.int (Int32.ofNat u0)), .val (.int (Int32.ofNat u1)), .val (.int (Int32.ofNat u2)), .val (.ref b1), .val (.ref b95), .val (.ref b177), .val (.ref b229), .val (.int (x4 &&& (2147483632 : Int32))), .val (.ref b526), .val (.int (own_rf B RR x1 2 f0)), .val (.int (Int32.ofNat f0)), .val (.int (2 : Int32)), .val (.int (RR (f0 + 1)))] [])) (fun tt_ kk_ => XS.icmpNo X844.here hx rfl (hb hby at_461) rfl (teq hb0).2 kk_) ?_
        refine Gq.go (T844.setTop (mkF m 466 #[.val (.int x0), .val (.int x1), .val (.int x2), .val (.int x3), .val (.int x4), .val (.int x5), .val (.int (Int32.ofNat t)), .val (.int (Int32.ofNat u0)), .val (.int (Int32.ofNat u1)), .val (.int (Int32.ofNat u2)), .val (.ref b1), .val (.ref b95), .val (.ref b177), .val (.ref b229), .val (.int (x4 &&& (2147483632 : Int32))), .val (.ref b526), .val (.int (own_rf B RR x1 2 f0)), .val (.int (Int32.ofNat f0)), .val (.int (2 : Int32)), .val (.int (RR (f0 + 1)))] [(.ref b526)])) (fun tt_ kk_ => XS.aload X844.here hx rfl (hb hby at_464) rfl rfl kk_) ?_
        refine Gq.go (T844.setTop (mkF m 468 #[.val (.int x0), .val (.int x1), .val (.int x2), .val (.int x3), .val (.int x4), .val (.int x5), .val (.int (Int32.ofNat t)), .val (.int (Int32.ofNat u0)), .val (.int (Int32.ofNat u1)), .val (.int (Int32.ofNat u2)), .val (.ref b1), .val (.ref b95), .val (.ref b177), .val (.ref b229), .val (.int (x4 &&& (2147483632 : Int32))), .val (.ref b526), .val (.int (own_rf B RR x1 2 f0)), .val (.int (Int32.ofNat f0)), .val (.int (2 : Int32)), .val (.int (RR (f0 + 1)))] [(.int (Int32.ofNat f0)), (.ref b526)])) (fun tt_ kk_ => XS.iload X844.here hx rfl (hb hby at_466) rfl kk_) ?_
        refine Gq.go (T844.setTop (mkF m 469 #[.val (.int x0), .val (.int x1), .val (.int x2), .val (.int x3), .val (.int x4), .val (.int x5), .val (.int (Int32.ofNat t)), .val (.int (Int32.ofNat u0)), .val (.int (Int32.ofNat u1)), .val (.int (Int32.ofNat u2)), .val (.ref b1), .val (.ref b95), .val (.ref b177), .val (.ref b229), .val (.int (x4 &&& (2147483632 : Int32))), .val (.ref b526), .val (.int (own_rf B RR x1 2 f0)), .val (.int (Int32.ofNat f0)), .val (.int (2 : Int32)), .val (.int (RR (f0 + 1)))] [(.int (RR f0))])) (fun tt_ kk_ => ldI X844 hx hZ eh844 VR (j := (Int32.ofNat f0)) (i := f0) (x := (RR f0)) (own_nn (by omega)) (own_nc (by omega)) (by omega) rfl (hb hby at_468) tt_ kk_) ?_
        refine Gq.go (T844.setTop (mkF m 471 #[.val (.int x0), .val (.int x1), .val (.int x2), .val (.int x3), .val (.int x4), .val (.int x5), .val (.int (Int32.ofNat t)), .val (.int (Int32.ofNat u0)), .val (.int (Int32.ofNat u1)), .val (.int (Int32.ofNat u2)), .val (.ref b1), .val (.ref b95), .val (.ref b177), .val (.ref b229), .val (.int (x4 &&& (2147483632 : Int32))), .val (.ref b526), .val (.int (own_rf B RR x1 2 f0)), .val (.int (Int32.ofNat f0)), .val (.int (2 : Int32)), .val (.int (RR f0))] [])) (fun tt_ kk_ => XS.istore X844.here hx rfl (hb hby at_469) rfl (l' := #[.val (.int x0), .val (.int x1), .val (.int x2), .val (.int x3), .val (.int x4), .val (.int x5), .val (.int (Int32.ofNat t)), .val (.int (Int32.ofNat u0)), .val (.int (Int32.ofNat u1)), .val (.int (Int32.ofNat u2)), .val (.ref b1), .val (.ref b95), .val (.ref b177), .val (.ref b229), .val (.int (x4 &&& (2147483632 : Int32))), .val (.ref b526), .val (.int (own_rf B RR x1 2 f0)), .val (.int (Int32.ofNat f0)), .val (.int (2 : Int32)), .val (.int (RR f0))]) rfl kk_) ?_
        refine Gq.go (T844.setTop (mkF m 473 #[.val (.int x0), .val (.int x1), .val (.int x2), .val (.int x3), .val (.int x4), .val (.int x5), .val (.int (Int32.ofNat t)), .val (.int (Int32.ofNat u0)), .val (.int (Int32.ofNat u1)), .val (.int (Int32.ofNat u2)), .val (.ref b1), .val (.ref b95), .val (.ref b177), .val (.ref b229), .val (.int (x4 &&& (2147483632 : Int32))), .val (.ref b526), .val (.int (own_rf B RR x1 2 f0)), .val (.int (Int32.ofNat f0)), .val (.int (2 : Int32)), .val (.int (RR f0))] [(.int (own_rf B RR x1 2 f0))])) (fun tt_ kk_ => XS.iload X844.here hx rfl (hb hby at_471) rfl kk_) ?_
        refine Gq.go (T844.setTop (mkF m 475 #[.val (.int x0), .val (.int x1), .val (.int x2), .val (.int x3), .val (.int x4), .val (.int x5), .val (.int (Int32.ofNat t)), .val (.int (Int32.ofNat u0)), .val (.int (Int32.ofNat u1)), .val (.int (Int32.ofNat u2)), .val (.ref b1), .val (.ref b95), .val (.ref b177), .val (.ref b229), .val (.int (x4 &&& (2147483632 : Int32))), .val (.ref b526), .val (.int (own_rf B RR x1 2 f0)), .val (.int (Int32.ofNat f0)), .val (.int (2 : Int32)), .val (.int (RR f0))] [(.int (RR f0)), (.int (own_rf B RR x1 2 f0))])) (fun tt_ kk_ => XS.iload X844.here hx rfl (hb hby at_473) rfl kk_) ?_
        refine Gq.go (T844.setTop (mkF m 478 #[.val (.int x0), .val (.int x1), .val (.int x2), .val (.int x3), .val (.int x4), .val (.int x5), .val (.int (Int32.ofNat t)), .val (.int (Int32.ofNat u0)), .val (.int (Int32.ofNat u1)), .val (.int (Int32.ofNat u2)), .val (.ref b1), .val (.ref b95), .val (.ref b177), .val (.ref b229), .val (.int (x4 &&& (2147483632 : Int32))), .val (.ref b526), .val (.int (own_rf B RR x1 2 f0)), .val (.int (Int32.ofNat f0)), .val (.int (2 : Int32)), .val (.int (RR f0))] [])) (fun tt_ kk_ => XS.icmpNo X844.here hx rfl (hb hby at_475) rfl (teq (show (if B (f0) = x1 then RR (f0) else (if B (f0 + 1) = x1 then RR (f0 + 1) else (-1 : Int32))) = (RR f0) by rw [if_pos hb0])).2 kk_) ?_
        refine Gq.go (T844.setTop (mkF m 479 #[.val (.int x0), .val (.int x1), .val (.int x2), .val (.int x3), .val (.int x4), .val (.int x5), .val (.int (Int32.ofNat t)), .val (.int (Int32.ofNat u0)), .val (.int (Int32.ofNat u1)), .val (.int (Int32.ofNat u2)), .val (.ref b1), .val (.ref b95), .val (.ref b177), .val (.ref b229), .val (.int (x4 &&& (2147483632 : Int32))), .val (.ref b526), .val (.int (own_rf B RR x1 2 f0)), .val (.int (Int32.ofNat f0)), .val (.int (2 : Int32)), .val (.int (RR f0))] [(.int (1 : Int32))])) (fun tt_ kk_ => XS.iconst X844.here hx rfl (hb hby at_478) kk_) ?_
        refine Gq.go (T844.setTop (mkF m 483 #[.val (.int x0), .val (.int x1), .val (.int x2), .val (.int x3), .val (.int x4), .val (.int x5), .val (.int (Int32.ofNat t)), .val (.int (Int32.ofNat u0)), .val (.int (Int32.ofNat u1)), .val (.int (Int32.ofNat u2)), .val (.ref b1), .val (.ref b95), .val (.ref b177), .val (.ref b229), .val (.int (x4 &&& (2147483632 : Int32))), .val (.ref b526), .val (.int (own_rf B RR x1 2 f0)), .val (.int (Int32.ofNat f0)), .val (.int (2 : Int32)), .val (.int (RR f0))] [(.int (1 : Int32))])) (fun tt_ kk_ => XS.goto X844.here hx rfl (pc0 := 479) (pc' := 483) rfl (hb hby at_479) (by decide) (by decide) kk_) ?_
        refine Gq.retI X844 hx Bd.notSynchronized Bd.returns (by simp) (hb hby at_483) rfl (by decide) (by decide) ?_
        show Q0 Z x0 x1 x2 x3 x4 x5 d0 fd h0 n0 _ T844.heap _
        rw [eh844]
        exact ⟨rfl, N844⟩
      · refine Gq.go (T844.setTop (mkF m 471 #[.val (.int x0), .val (.int x1), .val (.int x2), .val (.int x3), .val (.int x4), .val (.int x5), .val (.int (Int32.ofNat t)), .val (.int (Int32.ofNat u0)), .val (.int (Int32.ofNat u1)), .val (.int (Int32.ofNat u2)), .val (.ref b1), .val (.ref b95), .val (.ref b177), .val (.ref b229), .val (.int (x4 &&& (2147483632 : Int32))), .val (.ref b526), .val (.int (own_rf B RR x1 2 f0)), .val (.int (Int32.ofNat f0)), .val (.int (2 : Int32)), .val (.int (RR (f0 + 1)))] [])) (fun tt_ kk_ => XS.icmpYes X844.here hx rfl (pc0 := 461) (pc' := 471) rfl (hb hby at_461) rfl (feq hb0).2 (by decide) (by decide) kk_) ?_
        refine Gq.go (T844.setTop (mkF m 473 #[.val (.int x0), .val (.int x1), .val (.int x2), .val (.int x3), .val (.int x4), .val (.int x5), .val (.int (Int32.ofNat t)), .val (.int (Int32.ofNat u0)), .val (.int (Int32.ofNat u1)), .val (.int (Int32.ofNat u2)), .val (.ref b1), .val (.ref b95), .val (.ref b177), .val (.ref b229), .val (.int (x4 &&& (2147483632 : Int32))), .val (.ref b526), .val (.int (own_rf B RR x1 2 f0)), .val (.int (Int32.ofNat f0)), .val (.int (2 : Int32)), .val (.int (RR (f0 + 1)))] [(.int (own_rf B RR x1 2 f0))])) (fun tt_ kk_ => XS.iload X844.here hx rfl (hb hby at_471) rfl kk_) ?_
        refine Gq.go (T844.setTop (mkF m 475 #[.val (.int x0), .val (.int x1), .val (.int x2), .val (.int x3), .val (.int x4), .val (.int x5), .val (.int (Int32.ofNat t)), .val (.int (Int32.ofNat u0)), .val (.int (Int32.ofNat u1)), .val (.int (Int32.ofNat u2)), .val (.ref b1), .val (.ref b95), .val (.ref b177), .val (.ref b229), .val (.int (x4 &&& (2147483632 : Int32))), .val (.ref b526), .val (.int (own_rf B RR x1 2 f0)), .val (.int (Int32.ofNat f0)), .val (.int (2 : Int32)), .val (.int (RR (f0 + 1)))] [(.int (RR (f0 + 1))), (.int (own_rf B RR x1 2 f0))])) (fun tt_ kk_ => XS.iload X844.here hx rfl (hb hby at_473) rfl kk_) ?_
        refine Gq.go (T844.setTop (mkF m 478 #[.val (.int x0), .val (.int x1), .val (.int x2), .val (.int x3), .val (.int x4), .val (.int x5), .val (.int (Int32.ofNat t)), .val (.int (Int32.ofNat u0)), .val (.int (Int32.ofNat u1)), .val (.int (Int32.ofNat u2)), .val (.ref b1), .val (.ref b95), .val (.ref b177), .val (.ref b229), .val (.int (x4 &&& (2147483632 : Int32))), .val (.ref b526), .val (.int (own_rf B RR x1 2 f0)), .val (.int (Int32.ofNat f0)), .val (.int (2 : Int32)), .val (.int (RR (f0 + 1)))] [])) (fun tt_ kk_ => XS.icmpNo X844.here hx rfl (hb hby at_475) rfl (teq (show (if B (f0) = x1 then RR (f0) else (if B (f0 + 1) = x1 then RR (f0 + 1) else (-1 : Int32))) = (RR (f0 + 1)) by rw [if_neg hb0, if_pos hb1])).2 kk_) ?_
        refine Gq.go (T844.setTop (mkF m 479 #[.val (.int x0), .val (.int x1), .val (.int x2), .val (.int x3), .val (.int x4), .val (.int x5), .val (.int (Int32.ofNat t)), .val (.int (Int32.ofNat u0)), .val (.int (Int32.ofNat u1)), .val (.int (Int32.ofNat u2)), .val (.ref b1), .val (.ref b95), .val (.ref b177), .val (.ref b229), .val (.int (x4 &&& (2147483632 : Int32))), .val (.ref b526), .val (.int (own_rf B RR x1 2 f0)), .val (.int (Int32.ofNat f0)), .val (.int (2 : Int32)), .val (.int (RR (f0 + 1)))] [(.int (1 : Int32))])) (fun tt_ kk_ => XS.iconst X844.here hx rfl (hb hby at_478) kk_) ?_
        refine Gq.go (T844.setTop (mkF m 483 #[.val (.int x0), .val (.int x1), .val (.int x2), .val (.int x3), .val (.int x4), .val (.int x5), .val (.int (Int32.ofNat t)), .val (.int (Int32.ofNat u0)), .val (.int (Int32.ofNat u1)), .val (.int (Int32.ofNat u2)), .val (.ref b1), .val (.ref b95), .val (.ref b177), .val (.ref b229), .val (.int (x4 &&& (2147483632 : Int32))), .val (.ref b526), .val (.int (own_rf B RR x1 2 f0)), .val (.int (Int32.ofNat f0)), .val (.int (2 : Int32)), .val (.int (RR (f0 + 1)))] [(.int (1 : Int32))])) (fun tt_ kk_ => XS.goto X844.here hx rfl (pc0 := 479) (pc' := 483) rfl (hb hby at_479) (by decide) (by decide) kk_) ?_
        refine Gq.retI X844 hx Bd.notSynchronized Bd.returns (by simp) (hb hby at_483) rfl (by decide) (by decide) ?_
        show Q0 Z x0 x1 x2 x3 x4 x5 d0 fd h0 n0 _ T844.heap _
        rw [eh844]
        exact ⟨rfl, N844⟩
    · refine Gq.go (T844.setTop (mkF m 449 #[.val (.int x0), .val (.int x1), .val (.int x2), .val (.int x3), .val (.int x4), .val (.int x5), .val (.int (Int32.ofNat t)), .val (.int (Int32.ofNat u0)), .val (.int (Int32.ofNat u1)), .val (.int (Int32.ofNat u2)), .val (.ref b1), .val (.ref b95), .val (.ref b177), .val (.ref b229), .val (.int (x4 &&& (2147483632 : Int32))), .val (.ref b526), .val (.int (own_rf B RR x1 2 f0)), .val (.int (Int32.ofNat f0)), .val (.int (2 : Int32)), .val (.int (-1 : Int32))] [])) (fun tt_ kk_ => XS.icmpYes X844.here hx rfl (pc0 := 437) (pc' := 449) rfl (hb hby at_437) rfl (feq hb1).2 (by decide) (by decide) kk_) ?_
      refine Gq.go (T844.setTop (mkF m 451 #[.val (.int x0), .val (.int x1), .val (.int x2), .val (.int x3), .val (.int x4), .val (.int x5), .val (.int (Int32.ofNat t)), .val (.int (Int32.ofNat u0)), .val (.int (Int32.ofNat u1)), .val (.int (Int32.ofNat u2)), .val (.ref b1), .val (.ref b95), .val (.ref b177), .val (.ref b229), .val (.int (x4 &&& (2147483632 : Int32))), .val (.ref b526), .val (.int (own_rf B RR x1 2 f0)), .val (.int (Int32.ofNat f0)), .val (.int (2 : Int32)), .val (.int (-1 : Int32))] [(.int (2 : Int32))])) (fun tt_ kk_ => XS.iload X844.here hx rfl (hb hby at_449) rfl kk_) ?_
      refine Gq.go (T844.setTop (mkF m 452 #[.val (.int x0), .val (.int x1), .val (.int x2), .val (.int x3), .val (.int x4), .val (.int x5), .val (.int (Int32.ofNat t)), .val (.int (Int32.ofNat u0)), .val (.int (Int32.ofNat u1)), .val (.int (Int32.ofNat u2)), .val (.ref b1), .val (.ref b95), .val (.ref b177), .val (.ref b229), .val (.int (x4 &&& (2147483632 : Int32))), .val (.ref b526), .val (.int (own_rf B RR x1 2 f0)), .val (.int (Int32.ofNat f0)), .val (.int (2 : Int32)), .val (.int (-1 : Int32))] [(.int (1 : Int32)), (.int (2 : Int32))])) (fun tt_ kk_ => XS.iconst X844.here hx rfl (hb hby at_451) kk_) ?_
      refine Gq.go (T844.setTop (mkF m 455 #[.val (.int x0), .val (.int x1), .val (.int x2), .val (.int x3), .val (.int x4), .val (.int x5), .val (.int (Int32.ofNat t)), .val (.int (Int32.ofNat u0)), .val (.int (Int32.ofNat u1)), .val (.int (Int32.ofNat u2)), .val (.ref b1), .val (.ref b95), .val (.ref b177), .val (.ref b229), .val (.int (x4 &&& (2147483632 : Int32))), .val (.ref b526), .val (.int (own_rf B RR x1 2 f0)), .val (.int (Int32.ofNat f0)), .val (.int (2 : Int32)), .val (.int (-1 : Int32))] [])) (fun tt_ kk_ => XS.icmpNo X844.here hx rfl (hb hby at_452) rfl (flt (by decide : ¬ ((2 : Int32) < (1 : Int32)))).1 kk_) ?_
      refine Gq.go (T844.setTop (mkF m 457 #[.val (.int x0), .val (.int x1), .val (.int x2), .val (.int x3), .val (.int x4), .val (.int x5), .val (.int (Int32.ofNat t)), .val (.int (Int32.ofNat u0)), .val (.int (Int32.ofNat u1)), .val (.int (Int32.ofNat u2)), .val (.ref b1), .val (.ref b95), .val (.ref b177), .val (.ref b229), .val (.int (x4 &&& (2147483632 : Int32))), .val (.ref b526), .val (.int (own_rf B RR x1 2 f0)), .val (.int (Int32.ofNat f0)), .val (.int (2 : Int32)), .val (.int (-1 : Int32))] [(.ref b229)])) (fun tt_ kk_ => XS.aload X844.here hx rfl (hb hby at_455) rfl rfl kk_) ?_
      refine Gq.go (T844.setTop (mkF m 459 #[.val (.int x0), .val (.int x1), .val (.int x2), .val (.int x3), .val (.int x4), .val (.int x5), .val (.int (Int32.ofNat t)), .val (.int (Int32.ofNat u0)), .val (.int (Int32.ofNat u1)), .val (.int (Int32.ofNat u2)), .val (.ref b1), .val (.ref b95), .val (.ref b177), .val (.ref b229), .val (.int (x4 &&& (2147483632 : Int32))), .val (.ref b526), .val (.int (own_rf B RR x1 2 f0)), .val (.int (Int32.ofNat f0)), .val (.int (2 : Int32)), .val (.int (-1 : Int32))] [(.int (Int32.ofNat f0)), (.ref b229)])) (fun tt_ kk_ => XS.iload X844.here hx rfl (hb hby at_457) rfl kk_) ?_
      refine Gq.go (T844.setTop (mkF m 460 #[.val (.int x0), .val (.int x1), .val (.int x2), .val (.int x3), .val (.int x4), .val (.int x5), .val (.int (Int32.ofNat t)), .val (.int (Int32.ofNat u0)), .val (.int (Int32.ofNat u1)), .val (.int (Int32.ofNat u2)), .val (.ref b1), .val (.ref b95), .val (.ref b177), .val (.ref b229), .val (.int (x4 &&& (2147483632 : Int32))), .val (.ref b526), .val (.int (own_rf B RR x1 2 f0)), .val (.int (Int32.ofNat f0)), .val (.int (2 : Int32)), .val (.int (-1 : Int32))] [(.int (B f0))])) (fun tt_ kk_ => ldI X844 hx hZ eh844 VB (j := (Int32.ofNat f0)) (i := f0) (x := (B f0)) (own_nn (by omega)) (own_nc (by omega)) (by omega) rfl (hb hby at_459) tt_ kk_) ?_
      refine Gq.go (T844.setTop (mkF m 461 #[.val (.int x0), .val (.int x1), .val (.int x2), .val (.int x3), .val (.int x4), .val (.int x5), .val (.int (Int32.ofNat t)), .val (.int (Int32.ofNat u0)), .val (.int (Int32.ofNat u1)), .val (.int (Int32.ofNat u2)), .val (.ref b1), .val (.ref b95), .val (.ref b177), .val (.ref b229), .val (.int (x4 &&& (2147483632 : Int32))), .val (.ref b526), .val (.int (own_rf B RR x1 2 f0)), .val (.int (Int32.ofNat f0)), .val (.int (2 : Int32)), .val (.int (-1 : Int32))] [(.int x1), (.int (B f0))])) (fun tt_ kk_ => XS.iloadN X844.here hx rfl (hb hby at_460) rfl kk_) ?_
      by_cases hb0 : (B f0) = x1
      · refine Gq.go (T844.setTop (mkF m 464 #[.val (.int x0), .val (.int x1), .val (.int x2), .val (.int x3), .val (.int x4), .val (.int x5), .val (.int (Int32.ofNat t)), .val (.int (Int32.ofNat u0)), .val (.int (Int32.ofNat u1)), .val (.int (Int32.ofNat u2)), .val (.ref b1), .val (.ref b95), .val (.ref b177), .val (.ref b229), .val (.int (x4 &&& (2147483632 : Int32))), .val (.ref b526), .val (.int (own_rf B RR x1 2 f0)), .val (.int (Int32.ofNat f0)), .val (.int (2 : Int32)), .val (.int (-1 : Int32))] [])) (fun tt_ kk_ => XS.icmpNo X844.here hx rfl (hb hby at_461) rfl (teq hb0).2 kk_) ?_
        refine Gq.go (T844.setTop (mkF m 466 #[.val (.int x0), .val (.int x1), .val (.int x2), .val (.int x3), .val (.int x4), .val (.int x5), .val (.int (Int32.ofNat t)), .val (.int (Int32.ofNat u0)), .val (.int (Int32.ofNat u1)), .val (.int (Int32.ofNat u2)), .val (.ref b1), .val (.ref b95), .val (.ref b177), .val (.ref b229), .val (.int (x4 &&& (2147483632 : Int32))), .val (.ref b526), .val (.int (own_rf B RR x1 2 f0)), .val (.int (Int32.ofNat f0)), .val (.int (2 : Int32)), .val (.int (-1 : Int32))] [(.ref b526)])) (fun tt_ kk_ => XS.aload X844.here hx rfl (hb hby at_464) rfl rfl kk_) ?_
        refine Gq.go (T844.setTop (mkF m 468 #[.val (.int x0), .val (.int x1), .val (.int x2), .val (.int x3), .val (.int x4), .val (.int x5), .val (.int (Int32.ofNat t)), .val (.int (Int32.ofNat u0)), .val (.int (Int32.ofNat u1)), .val (.int (Int32.ofNat u2)), .val (.ref b1), .val (.ref b95), .val (.ref b177), .val (.ref b229), .val (.int (x4 &&& (2147483632 : Int32))), .val (.ref b526), .val (.int (own_rf B RR x1 2 f0)), .val (.int (Int32.ofNat f0)), .val (.int (2 : Int32)), .val (.int (-1 : Int32))] [(.int (Int32.ofNat f0)), (.ref b526)])) (fun tt_ kk_ => XS.iload X844.here hx rfl (hb hby at_466) rfl kk_) ?_
        refine Gq.go (T844.setTop (mkF m 469 #[.val (.int x0), .val (.int x1), .val (.int x2), .val (.int x3), .val (.int x4), .val (.int x5), .val (.int (Int32.ofNat t)), .val (.int (Int32.ofNat u0)), .val (.int (Int32.ofNat u1)), .val (.int (Int32.ofNat u2)), .val (.ref b1), .val (.ref b95), .val (.ref b177), .val (.ref b229), .val (.int (x4 &&& (2147483632 : Int32))), .val (.ref b526), .val (.int (own_rf B RR x1 2 f0)), .val (.int (Int32.ofNat f0)), .val (.int (2 : Int32)), .val (.int (-1 : Int32))] [(.int (RR f0))])) (fun tt_ kk_ => ldI X844 hx hZ eh844 VR (j := (Int32.ofNat f0)) (i := f0) (x := (RR f0)) (own_nn (by omega)) (own_nc (by omega)) (by omega) rfl (hb hby at_468) tt_ kk_) ?_
        refine Gq.go (T844.setTop (mkF m 471 #[.val (.int x0), .val (.int x1), .val (.int x2), .val (.int x3), .val (.int x4), .val (.int x5), .val (.int (Int32.ofNat t)), .val (.int (Int32.ofNat u0)), .val (.int (Int32.ofNat u1)), .val (.int (Int32.ofNat u2)), .val (.ref b1), .val (.ref b95), .val (.ref b177), .val (.ref b229), .val (.int (x4 &&& (2147483632 : Int32))), .val (.ref b526), .val (.int (own_rf B RR x1 2 f0)), .val (.int (Int32.ofNat f0)), .val (.int (2 : Int32)), .val (.int (RR f0))] [])) (fun tt_ kk_ => XS.istore X844.here hx rfl (hb hby at_469) rfl (l' := #[.val (.int x0), .val (.int x1), .val (.int x2), .val (.int x3), .val (.int x4), .val (.int x5), .val (.int (Int32.ofNat t)), .val (.int (Int32.ofNat u0)), .val (.int (Int32.ofNat u1)), .val (.int (Int32.ofNat u2)), .val (.ref b1), .val (.ref b95), .val (.ref b177), .val (.ref b229), .val (.int (x4 &&& (2147483632 : Int32))), .val (.ref b526), .val (.int (own_rf B RR x1 2 f0)), .val (.int (Int32.ofNat f0)), .val (.int (2 : Int32)), .val (.int (RR f0))]) rfl kk_) ?_
        refine Gq.go (T844.setTop (mkF m 473 #[.val (.int x0), .val (.int x1), .val (.int x2), .val (.int x3), .val (.int x4), .val (.int x5), .val (.int (Int32.ofNat t)), .val (.int (Int32.ofNat u0)), .val (.int (Int32.ofNat u1)), .val (.int (Int32.ofNat u2)), .val (.ref b1), .val (.ref b95), .val (.ref b177), .val (.ref b229), .val (.int (x4 &&& (2147483632 : Int32))), .val (.ref b526), .val (.int (own_rf B RR x1 2 f0)), .val (.int (Int32.ofNat f0)), .val (.int (2 : Int32)), .val (.int (RR f0))] [(.int (own_rf B RR x1 2 f0))])) (fun tt_ kk_ => XS.iload X844.here hx rfl (hb hby at_471) rfl kk_) ?_
        refine Gq.go (T844.setTop (mkF m 475 #[.val (.int x0), .val (.int x1), .val (.int x2), .val (.int x3), .val (.int x4), .val (.int x5), .val (.int (Int32.ofNat t)), .val (.int (Int32.ofNat u0)), .val (.int (Int32.ofNat u1)), .val (.int (Int32.ofNat u2)), .val (.ref b1), .val (.ref b95), .val (.ref b177), .val (.ref b229), .val (.int (x4 &&& (2147483632 : Int32))), .val (.ref b526), .val (.int (own_rf B RR x1 2 f0)), .val (.int (Int32.ofNat f0)), .val (.int (2 : Int32)), .val (.int (RR f0))] [(.int (RR f0)), (.int (own_rf B RR x1 2 f0))])) (fun tt_ kk_ => XS.iload X844.here hx rfl (hb hby at_473) rfl kk_) ?_
        refine Gq.go (T844.setTop (mkF m 478 #[.val (.int x0), .val (.int x1), .val (.int x2), .val (.int x3), .val (.int x4), .val (.int x5), .val (.int (Int32.ofNat t)), .val (.int (Int32.ofNat u0)), .val (.int (Int32.ofNat u1)), .val (.int (Int32.ofNat u2)), .val (.ref b1), .val (.ref b95), .val (.ref b177), .val (.ref b229), .val (.int (x4 &&& (2147483632 : Int32))), .val (.ref b526), .val (.int (own_rf B RR x1 2 f0)), .val (.int (Int32.ofNat f0)), .val (.int (2 : Int32)), .val (.int (RR f0))] [])) (fun tt_ kk_ => XS.icmpNo X844.here hx rfl (hb hby at_475) rfl (teq (show (if B (f0) = x1 then RR (f0) else (if B (f0 + 1) = x1 then RR (f0 + 1) else (-1 : Int32))) = (RR f0) by rw [if_pos hb0])).2 kk_) ?_
        refine Gq.go (T844.setTop (mkF m 479 #[.val (.int x0), .val (.int x1), .val (.int x2), .val (.int x3), .val (.int x4), .val (.int x5), .val (.int (Int32.ofNat t)), .val (.int (Int32.ofNat u0)), .val (.int (Int32.ofNat u1)), .val (.int (Int32.ofNat u2)), .val (.ref b1), .val (.ref b95), .val (.ref b177), .val (.ref b229), .val (.int (x4 &&& (2147483632 : Int32))), .val (.ref b526), .val (.int (own_rf B RR x1 2 f0)), .val (.int (Int32.ofNat f0)), .val (.int (2 : Int32)), .val (.int (RR f0))] [(.int (1 : Int32))])) (fun tt_ kk_ => XS.iconst X844.here hx rfl (hb hby at_478) kk_) ?_
        refine Gq.go (T844.setTop (mkF m 483 #[.val (.int x0), .val (.int x1), .val (.int x2), .val (.int x3), .val (.int x4), .val (.int x5), .val (.int (Int32.ofNat t)), .val (.int (Int32.ofNat u0)), .val (.int (Int32.ofNat u1)), .val (.int (Int32.ofNat u2)), .val (.ref b1), .val (.ref b95), .val (.ref b177), .val (.ref b229), .val (.int (x4 &&& (2147483632 : Int32))), .val (.ref b526), .val (.int (own_rf B RR x1 2 f0)), .val (.int (Int32.ofNat f0)), .val (.int (2 : Int32)), .val (.int (RR f0))] [(.int (1 : Int32))])) (fun tt_ kk_ => XS.goto X844.here hx rfl (pc0 := 479) (pc' := 483) rfl (hb hby at_479) (by decide) (by decide) kk_) ?_
        refine Gq.retI X844 hx Bd.notSynchronized Bd.returns (by simp) (hb hby at_483) rfl (by decide) (by decide) ?_
        show Q0 Z x0 x1 x2 x3 x4 x5 d0 fd h0 n0 _ T844.heap _
        rw [eh844]
        exact ⟨rfl, N844⟩
      · refine Gq.go (T844.setTop (mkF m 471 #[.val (.int x0), .val (.int x1), .val (.int x2), .val (.int x3), .val (.int x4), .val (.int x5), .val (.int (Int32.ofNat t)), .val (.int (Int32.ofNat u0)), .val (.int (Int32.ofNat u1)), .val (.int (Int32.ofNat u2)), .val (.ref b1), .val (.ref b95), .val (.ref b177), .val (.ref b229), .val (.int (x4 &&& (2147483632 : Int32))), .val (.ref b526), .val (.int (own_rf B RR x1 2 f0)), .val (.int (Int32.ofNat f0)), .val (.int (2 : Int32)), .val (.int (-1 : Int32))] [])) (fun tt_ kk_ => XS.icmpYes X844.here hx rfl (pc0 := 461) (pc' := 471) rfl (hb hby at_461) rfl (feq hb0).2 (by decide) (by decide) kk_) ?_
        refine Gq.go (T844.setTop (mkF m 473 #[.val (.int x0), .val (.int x1), .val (.int x2), .val (.int x3), .val (.int x4), .val (.int x5), .val (.int (Int32.ofNat t)), .val (.int (Int32.ofNat u0)), .val (.int (Int32.ofNat u1)), .val (.int (Int32.ofNat u2)), .val (.ref b1), .val (.ref b95), .val (.ref b177), .val (.ref b229), .val (.int (x4 &&& (2147483632 : Int32))), .val (.ref b526), .val (.int (own_rf B RR x1 2 f0)), .val (.int (Int32.ofNat f0)), .val (.int (2 : Int32)), .val (.int (-1 : Int32))] [(.int (own_rf B RR x1 2 f0))])) (fun tt_ kk_ => XS.iload X844.here hx rfl (hb hby at_471) rfl kk_) ?_
        refine Gq.go (T844.setTop (mkF m 475 #[.val (.int x0), .val (.int x1), .val (.int x2), .val (.int x3), .val (.int x4), .val (.int x5), .val (.int (Int32.ofNat t)), .val (.int (Int32.ofNat u0)), .val (.int (Int32.ofNat u1)), .val (.int (Int32.ofNat u2)), .val (.ref b1), .val (.ref b95), .val (.ref b177), .val (.ref b229), .val (.int (x4 &&& (2147483632 : Int32))), .val (.ref b526), .val (.int (own_rf B RR x1 2 f0)), .val (.int (Int32.ofNat f0)), .val (.int (2 : Int32)), .val (.int (-1 : Int32))] [(.int (-1 : Int32)), (.int (own_rf B RR x1 2 f0))])) (fun tt_ kk_ => XS.iload X844.here hx rfl (hb hby at_473) rfl kk_) ?_
        refine Gq.go (T844.setTop (mkF m 478 #[.val (.int x0), .val (.int x1), .val (.int x2), .val (.int x3), .val (.int x4), .val (.int x5), .val (.int (Int32.ofNat t)), .val (.int (Int32.ofNat u0)), .val (.int (Int32.ofNat u1)), .val (.int (Int32.ofNat u2)), .val (.ref b1), .val (.ref b95), .val (.ref b177), .val (.ref b229), .val (.int (x4 &&& (2147483632 : Int32))), .val (.ref b526), .val (.int (own_rf B RR x1 2 f0)), .val (.int (Int32.ofNat f0)), .val (.int (2 : Int32)), .val (.int (-1 : Int32))] [])) (fun tt_ kk_ => XS.icmpNo X844.here hx rfl (hb hby at_475) rfl (teq (show (if B (f0) = x1 then RR (f0) else (if B (f0 + 1) = x1 then RR (f0 + 1) else (-1 : Int32))) = (-1 : Int32) by rw [if_neg hb0, if_neg hb1])).2 kk_) ?_
        refine Gq.go (T844.setTop (mkF m 479 #[.val (.int x0), .val (.int x1), .val (.int x2), .val (.int x3), .val (.int x4), .val (.int x5), .val (.int (Int32.ofNat t)), .val (.int (Int32.ofNat u0)), .val (.int (Int32.ofNat u1)), .val (.int (Int32.ofNat u2)), .val (.ref b1), .val (.ref b95), .val (.ref b177), .val (.ref b229), .val (.int (x4 &&& (2147483632 : Int32))), .val (.ref b526), .val (.int (own_rf B RR x1 2 f0)), .val (.int (Int32.ofNat f0)), .val (.int (2 : Int32)), .val (.int (-1 : Int32))] [(.int (1 : Int32))])) (fun tt_ kk_ => XS.iconst X844.here hx rfl (hb hby at_478) kk_) ?_
        refine Gq.go (T844.setTop (mkF m 483 #[.val (.int x0), .val (.int x1), .val (.int x2), .val (.int x3), .val (.int x4), .val (.int x5), .val (.int (Int32.ofNat t)), .val (.int (Int32.ofNat u0)), .val (.int (Int32.ofNat u1)), .val (.int (Int32.ofNat u2)), .val (.ref b1), .val (.ref b95), .val (.ref b177), .val (.ref b229), .val (.int (x4 &&& (2147483632 : Int32))), .val (.ref b526), .val (.int (own_rf B RR x1 2 f0)), .val (.int (Int32.ofNat f0)), .val (.int (2 : Int32)), .val (.int (-1 : Int32))] [(.int (1 : Int32))])) (fun tt_ kk_ => XS.goto X844.here hx rfl (pc0 := 479) (pc' := 483) rfl (hb hby at_479) (by decide) (by decide) kk_) ?_
        refine Gq.retI X844 hx Bd.notSynchronized Bd.returns (by simp) (hb hby at_483) rfl (by decide) (by decide) ?_
        show Q0 Z x0 x1 x2 x3 x4 x5 d0 fd h0 n0 _ T844.heap _
        rw [eh844]
        exact ⟨rfl, N844⟩
  · rw [show Int32.ofNat 3 = (3 : Int32) from rfl]
    refine Gq.go (T844.setTop (mkF m 399 #[.val (.int x0), .val (.int x1), .val (.int x2), .val (.int x3), .val (.int x4), .val (.int x5), .val (.int (Int32.ofNat t)), .val (.int (Int32.ofNat u0)), .val (.int (Int32.ofNat u1)), .val (.int (Int32.ofNat u2)), .val (.ref b1), .val (.ref b95), .val (.ref b177), .val (.ref b229), .val (.int (x4 &&& (2147483632 : Int32))), .val (.ref b526), .val (.int (own_rf B RR x1 3 f0)), .val (.int (Int32.ofNat f0)), .val (.int (3 : Int32)), .val (.int (-1 : Int32))] [(.int (3 : Int32))])) (fun tt_ kk_ => XS.iload X844.here hx rfl (hb hby at_397) rfl kk_) ?_
    refine Gq.go (T844.setTop (mkF m 400 #[.val (.int x0), .val (.int x1), .val (.int x2), .val (.int x3), .val (.int x4), .val (.int x5), .val (.int (Int32.ofNat t)), .val (.int (Int32.ofNat u0)), .val (.int (Int32.ofNat u1)), .val (.int (Int32.ofNat u2)), .val (.ref b1), .val (.ref b95), .val (.ref b177), .val (.ref b229), .val (.int (x4 &&& (2147483632 : Int32))), .val (.ref b526), .val (.int (own_rf B RR x1 3 f0)), .val (.int (Int32.ofNat f0)), .val (.int (3 : Int32)), .val (.int (-1 : Int32))] [(.int (3 : Int32)), (.int (3 : Int32))])) (fun tt_ kk_ => XS.iconst X844.here hx rfl (hb hby at_399) kk_) ?_
    refine Gq.go (T844.setTop (mkF m 403 #[.val (.int x0), .val (.int x1), .val (.int x2), .val (.int x3), .val (.int x4), .val (.int x5), .val (.int (Int32.ofNat t)), .val (.int (Int32.ofNat u0)), .val (.int (Int32.ofNat u1)), .val (.int (Int32.ofNat u2)), .val (.ref b1), .val (.ref b95), .val (.ref b177), .val (.ref b229), .val (.int (x4 &&& (2147483632 : Int32))), .val (.ref b526), .val (.int (own_rf B RR x1 3 f0)), .val (.int (Int32.ofNat f0)), .val (.int (3 : Int32)), .val (.int (-1 : Int32))] [])) (fun tt_ kk_ => XS.icmpNo X844.here hx rfl (hb hby at_400) rfl (flt (by decide : ¬ ((3 : Int32) < (3 : Int32)))).1 kk_) ?_
    refine Gq.go (T844.setTop (mkF m 405 #[.val (.int x0), .val (.int x1), .val (.int x2), .val (.int x3), .val (.int x4), .val (.int x5), .val (.int (Int32.ofNat t)), .val (.int (Int32.ofNat u0)), .val (.int (Int32.ofNat u1)), .val (.int (Int32.ofNat u2)), .val (.ref b1), .val (.ref b95), .val (.ref b177), .val (.ref b229), .val (.int (x4 &&& (2147483632 : Int32))), .val (.ref b526), .val (.int (own_rf B RR x1 3 f0)), .val (.int (Int32.ofNat f0)), .val (.int (3 : Int32)), .val (.int (-1 : Int32))] [(.ref b229)])) (fun tt_ kk_ => XS.aload X844.here hx rfl (hb hby at_403) rfl rfl kk_) ?_
    refine Gq.go (T844.setTop (mkF m 407 #[.val (.int x0), .val (.int x1), .val (.int x2), .val (.int x3), .val (.int x4), .val (.int x5), .val (.int (Int32.ofNat t)), .val (.int (Int32.ofNat u0)), .val (.int (Int32.ofNat u1)), .val (.int (Int32.ofNat u2)), .val (.ref b1), .val (.ref b95), .val (.ref b177), .val (.ref b229), .val (.int (x4 &&& (2147483632 : Int32))), .val (.ref b526), .val (.int (own_rf B RR x1 3 f0)), .val (.int (Int32.ofNat f0)), .val (.int (3 : Int32)), .val (.int (-1 : Int32))] [(.int (Int32.ofNat f0)), (.ref b229)])) (fun tt_ kk_ => XS.iload X844.here hx rfl (hb hby at_405) rfl kk_) ?_
    refine Gq.go (T844.setTop (mkF m 408 #[.val (.int x0), .val (.int x1), .val (.int x2), .val (.int x3), .val (.int x4), .val (.int x5), .val (.int (Int32.ofNat t)), .val (.int (Int32.ofNat u0)), .val (.int (Int32.ofNat u1)), .val (.int (Int32.ofNat u2)), .val (.ref b1), .val (.ref b95), .val (.ref b177), .val (.ref b229), .val (.int (x4 &&& (2147483632 : Int32))), .val (.ref b526), .val (.int (own_rf B RR x1 3 f0)), .val (.int (Int32.ofNat f0)), .val (.int (3 : Int32)), .val (.int (-1 : Int32))] [(.int (2 : Int32)), (.int (Int32.ofNat f0)), (.ref b229)])) (fun tt_ kk_ => XS.iconst X844.here hx rfl (hb hby at_407) kk_) ?_
    refine Gq.go (T844.setTop (mkF m 409 #[.val (.int x0), .val (.int x1), .val (.int x2), .val (.int x3), .val (.int x4), .val (.int x5), .val (.int (Int32.ofNat t)), .val (.int (Int32.ofNat u0)), .val (.int (Int32.ofNat u1)), .val (.int (Int32.ofNat u2)), .val (.ref b1), .val (.ref b95), .val (.ref b177), .val (.ref b229), .val (.int (x4 &&& (2147483632 : Int32))), .val (.ref b526), .val (.int (own_rf B RR x1 3 f0)), .val (.int (Int32.ofNat f0)), .val (.int (3 : Int32)), .val (.int (-1 : Int32))] [(.int ((Int32.ofNat f0) + (2 : Int32))), (.ref b229)])) (fun tt_ kk_ => XS.iadd X844.here hx rfl (hb hby at_408) rfl kk_) ?_
    rw [show ((Int32.ofNat f0) + (2 : Int32)) = (Int32.ofNat (f0 + 2)) from own_add f0 2]
    refine Gq.go (T844.setTop (mkF m 410 #[.val (.int x0), .val (.int x1), .val (.int x2), .val (.int x3), .val (.int x4), .val (.int x5), .val (.int (Int32.ofNat t)), .val (.int (Int32.ofNat u0)), .val (.int (Int32.ofNat u1)), .val (.int (Int32.ofNat u2)), .val (.ref b1), .val (.ref b95), .val (.ref b177), .val (.ref b229), .val (.int (x4 &&& (2147483632 : Int32))), .val (.ref b526), .val (.int (own_rf B RR x1 3 f0)), .val (.int (Int32.ofNat f0)), .val (.int (3 : Int32)), .val (.int (-1 : Int32))] [(.int (B (f0 + 2)))])) (fun tt_ kk_ => ldI X844 hx hZ eh844 VB (j := (Int32.ofNat (f0 + 2))) (i := (f0 + 2)) (x := (B (f0 + 2))) (own_nn (by omega)) (own_nc (by omega)) (by omega) rfl (hb hby at_409) tt_ kk_) ?_
    refine Gq.go (T844.setTop (mkF m 411 #[.val (.int x0), .val (.int x1), .val (.int x2), .val (.int x3), .val (.int x4), .val (.int x5), .val (.int (Int32.ofNat t)), .val (.int (Int32.ofNat u0)), .val (.int (Int32.ofNat u1)), .val (.int (Int32.ofNat u2)), .val (.ref b1), .val (.ref b95), .val (.ref b177), .val (.ref b229), .val (.int (x4 &&& (2147483632 : Int32))), .val (.ref b526), .val (.int (own_rf B RR x1 3 f0)), .val (.int (Int32.ofNat f0)), .val (.int (3 : Int32)), .val (.int (-1 : Int32))] [(.int x1), (.int (B (f0 + 2)))])) (fun tt_ kk_ => XS.iloadN X844.here hx rfl (hb hby at_410) rfl kk_) ?_
    by_cases hb2 : (B (f0 + 2)) = x1
    · refine Gq.go (T844.setTop (mkF m 414 #[.val (.int x0), .val (.int x1), .val (.int x2), .val (.int x3), .val (.int x4), .val (.int x5), .val (.int (Int32.ofNat t)), .val (.int (Int32.ofNat u0)), .val (.int (Int32.ofNat u1)), .val (.int (Int32.ofNat u2)), .val (.ref b1), .val (.ref b95), .val (.ref b177), .val (.ref b229), .val (.int (x4 &&& (2147483632 : Int32))), .val (.ref b526), .val (.int (own_rf B RR x1 3 f0)), .val (.int (Int32.ofNat f0)), .val (.int (3 : Int32)), .val (.int (-1 : Int32))] [])) (fun tt_ kk_ => XS.icmpNo X844.here hx rfl (hb hby at_411) rfl (teq hb2).2 kk_) ?_
      refine Gq.go (T844.setTop (mkF m 416 #[.val (.int x0), .val (.int x1), .val (.int x2), .val (.int x3), .val (.int x4), .val (.int x5), .val (.int (Int32.ofNat t)), .val (.int (Int32.ofNat u0)), .val (.int (Int32.ofNat u1)), .val (.int (Int32.ofNat u2)), .val (.ref b1), .val (.ref b95), .val (.ref b177), .val (.ref b229), .val (.int (x4 &&& (2147483632 : Int32))), .val (.ref b526), .val (.int (own_rf B RR x1 3 f0)), .val (.int (Int32.ofNat f0)), .val (.int (3 : Int32)), .val (.int (-1 : Int32))] [(.ref b526)])) (fun tt_ kk_ => XS.aload X844.here hx rfl (hb hby at_414) rfl rfl kk_) ?_
      refine Gq.go (T844.setTop (mkF m 418 #[.val (.int x0), .val (.int x1), .val (.int x2), .val (.int x3), .val (.int x4), .val (.int x5), .val (.int (Int32.ofNat t)), .val (.int (Int32.ofNat u0)), .val (.int (Int32.ofNat u1)), .val (.int (Int32.ofNat u2)), .val (.ref b1), .val (.ref b95), .val (.ref b177), .val (.ref b229), .val (.int (x4 &&& (2147483632 : Int32))), .val (.ref b526), .val (.int (own_rf B RR x1 3 f0)), .val (.int (Int32.ofNat f0)), .val (.int (3 : Int32)), .val (.int (-1 : Int32))] [(.int (Int32.ofNat f0)), (.ref b526)])) (fun tt_ kk_ => XS.iload X844.here hx rfl (hb hby at_416) rfl kk_) ?_
      refine Gq.go (T844.setTop (mkF m 419 #[.val (.int x0), .val (.int x1), .val (.int x2), .val (.int x3), .val (.int x4), .val (.int x5), .val (.int (Int32.ofNat t)), .val (.int (Int32.ofNat u0)), .val (.int (Int32.ofNat u1)), .val (.int (Int32.ofNat u2)), .val (.ref b1), .val (.ref b95), .val (.ref b177), .val (.ref b229), .val (.int (x4 &&& (2147483632 : Int32))), .val (.ref b526), .val (.int (own_rf B RR x1 3 f0)), .val (.int (Int32.ofNat f0)), .val (.int (3 : Int32)), .val (.int (-1 : Int32))] [(.int (2 : Int32)), (.int (Int32.ofNat f0)), (.ref b526)])) (fun tt_ kk_ => XS.iconst X844.here hx rfl (hb hby at_418) kk_) ?_
      refine Gq.go (T844.setTop (mkF m 420 #[.val (.int x0), .val (.int x1), .val (.int x2), .val (.int x3), .val (.int x4), .val (.int x5), .val (.int (Int32.ofNat t)), .val (.int (Int32.ofNat u0)), .val (.int (Int32.ofNat u1)), .val (.int (Int32.ofNat u2)), .val (.ref b1), .val (.ref b95), .val (.ref b177), .val (.ref b229), .val (.int (x4 &&& (2147483632 : Int32))), .val (.ref b526), .val (.int (own_rf B RR x1 3 f0)), .val (.int (Int32.ofNat f0)), .val (.int (3 : Int32)), .val (.int (-1 : Int32))] [(.int ((Int32.ofNat f0) + (2 : Int32))), (.ref b526)])) (fun tt_ kk_ => XS.iadd X844.here hx rfl (hb hby at_419) rfl kk_) ?_
      rw [show ((Int32.ofNat f0) + (2 : Int32)) = (Int32.ofNat (f0 + 2)) from own_add f0 2]
      refine Gq.go (T844.setTop (mkF m 421 #[.val (.int x0), .val (.int x1), .val (.int x2), .val (.int x3), .val (.int x4), .val (.int x5), .val (.int (Int32.ofNat t)), .val (.int (Int32.ofNat u0)), .val (.int (Int32.ofNat u1)), .val (.int (Int32.ofNat u2)), .val (.ref b1), .val (.ref b95), .val (.ref b177), .val (.ref b229), .val (.int (x4 &&& (2147483632 : Int32))), .val (.ref b526), .val (.int (own_rf B RR x1 3 f0)), .val (.int (Int32.ofNat f0)), .val (.int (3 : Int32)), .val (.int (-1 : Int32))] [(.int (RR (f0 + 2)))])) (fun tt_ kk_ => ldI X844 hx hZ eh844 VR (j := (Int32.ofNat (f0 + 2))) (i := (f0 + 2)) (x := (RR (f0 + 2))) (own_nn (by omega)) (own_nc (by omega)) (by omega) rfl (hb hby at_420) tt_ kk_) ?_
      refine Gq.go (T844.setTop (mkF m 423 #[.val (.int x0), .val (.int x1), .val (.int x2), .val (.int x3), .val (.int x4), .val (.int x5), .val (.int (Int32.ofNat t)), .val (.int (Int32.ofNat u0)), .val (.int (Int32.ofNat u1)), .val (.int (Int32.ofNat u2)), .val (.ref b1), .val (.ref b95), .val (.ref b177), .val (.ref b229), .val (.int (x4 &&& (2147483632 : Int32))), .val (.ref b526), .val (.int (own_rf B RR x1 3 f0)), .val (.int (Int32.ofNat f0)), .val (.int (3 : Int32)), .val (.int (RR (f0 + 2)))] [])) (fun tt_ kk_ => XS.istore X844.here hx rfl (hb hby at_421) rfl (l' := #[.val (.int x0), .val (.int x1), .val (.int x2), .val (.int x3), .val (.int x4), .val (.int x5), .val (.int (Int32.ofNat t)), .val (.int (Int32.ofNat u0)), .val (.int (Int32.ofNat u1)), .val (.int (Int32.ofNat u2)), .val (.ref b1), .val (.ref b95), .val (.ref b177), .val (.ref b229), .val (.int (x4 &&& (2147483632 : Int32))), .val (.ref b526), .val (.int (own_rf B RR x1 3 f0)), .val (.int (Int32.ofNat f0)), .val (.int (3 : Int32)), .val (.int (RR (f0 + 2)))]) rfl kk_) ?_
      refine Gq.go (T844.setTop (mkF m 425 #[.val (.int x0), .val (.int x1), .val (.int x2), .val (.int x3), .val (.int x4), .val (.int x5), .val (.int (Int32.ofNat t)), .val (.int (Int32.ofNat u0)), .val (.int (Int32.ofNat u1)), .val (.int (Int32.ofNat u2)), .val (.ref b1), .val (.ref b95), .val (.ref b177), .val (.ref b229), .val (.int (x4 &&& (2147483632 : Int32))), .val (.ref b526), .val (.int (own_rf B RR x1 3 f0)), .val (.int (Int32.ofNat f0)), .val (.int (3 : Int32)), .val (.int (RR (f0 + 2)))] [(.int (3 : Int32))])) (fun tt_ kk_ => XS.iload X844.here hx rfl (hb hby at_423) rfl kk_) ?_
      refine Gq.go (T844.setTop (mkF m 426 #[.val (.int x0), .val (.int x1), .val (.int x2), .val (.int x3), .val (.int x4), .val (.int x5), .val (.int (Int32.ofNat t)), .val (.int (Int32.ofNat u0)), .val (.int (Int32.ofNat u1)), .val (.int (Int32.ofNat u2)), .val (.ref b1), .val (.ref b95), .val (.ref b177), .val (.ref b229), .val (.int (x4 &&& (2147483632 : Int32))), .val (.ref b526), .val (.int (own_rf B RR x1 3 f0)), .val (.int (Int32.ofNat f0)), .val (.int (3 : Int32)), .val (.int (RR (f0 + 2)))] [(.int (2 : Int32)), (.int (3 : Int32))])) (fun tt_ kk_ => XS.iconst X844.here hx rfl (hb hby at_425) kk_) ?_
      refine Gq.go (T844.setTop (mkF m 429 #[.val (.int x0), .val (.int x1), .val (.int x2), .val (.int x3), .val (.int x4), .val (.int x5), .val (.int (Int32.ofNat t)), .val (.int (Int32.ofNat u0)), .val (.int (Int32.ofNat u1)), .val (.int (Int32.ofNat u2)), .val (.ref b1), .val (.ref b95), .val (.ref b177), .val (.ref b229), .val (.int (x4 &&& (2147483632 : Int32))), .val (.ref b526), .val (.int (own_rf B RR x1 3 f0)), .val (.int (Int32.ofNat f0)), .val (.int (3 : Int32)), .val (.int (RR (f0 + 2)))] [])) (fun tt_ kk_ => XS.icmpNo X844.here hx rfl (hb hby at_426) rfl (flt (by decide : ¬ ((3 : Int32) < (2 : Int32)))).1 kk_) ?_
      refine Gq.go (T844.setTop (mkF m 431 #[.val (.int x0), .val (.int x1), .val (.int x2), .val (.int x3), .val (.int x4), .val (.int x5), .val (.int (Int32.ofNat t)), .val (.int (Int32.ofNat u0)), .val (.int (Int32.ofNat u1)), .val (.int (Int32.ofNat u2)), .val (.ref b1), .val (.ref b95), .val (.ref b177), .val (.ref b229), .val (.int (x4 &&& (2147483632 : Int32))), .val (.ref b526), .val (.int (own_rf B RR x1 3 f0)), .val (.int (Int32.ofNat f0)), .val (.int (3 : Int32)), .val (.int (RR (f0 + 2)))] [(.ref b229)])) (fun tt_ kk_ => XS.aload X844.here hx rfl (hb hby at_429) rfl rfl kk_) ?_
      refine Gq.go (T844.setTop (mkF m 433 #[.val (.int x0), .val (.int x1), .val (.int x2), .val (.int x3), .val (.int x4), .val (.int x5), .val (.int (Int32.ofNat t)), .val (.int (Int32.ofNat u0)), .val (.int (Int32.ofNat u1)), .val (.int (Int32.ofNat u2)), .val (.ref b1), .val (.ref b95), .val (.ref b177), .val (.ref b229), .val (.int (x4 &&& (2147483632 : Int32))), .val (.ref b526), .val (.int (own_rf B RR x1 3 f0)), .val (.int (Int32.ofNat f0)), .val (.int (3 : Int32)), .val (.int (RR (f0 + 2)))] [(.int (Int32.ofNat f0)), (.ref b229)])) (fun tt_ kk_ => XS.iload X844.here hx rfl (hb hby at_431) rfl kk_) ?_
      refine Gq.go (T844.setTop (mkF m 434 #[.val (.int x0), .val (.int x1), .val (.int x2), .val (.int x3), .val (.int x4), .val (.int x5), .val (.int (Int32.ofNat t)), .val (.int (Int32.ofNat u0)), .val (.int (Int32.ofNat u1)), .val (.int (Int32.ofNat u2)), .val (.ref b1), .val (.ref b95), .val (.ref b177), .val (.ref b229), .val (.int (x4 &&& (2147483632 : Int32))), .val (.ref b526), .val (.int (own_rf B RR x1 3 f0)), .val (.int (Int32.ofNat f0)), .val (.int (3 : Int32)), .val (.int (RR (f0 + 2)))] [(.int (1 : Int32)), (.int (Int32.ofNat f0)), (.ref b229)])) (fun tt_ kk_ => XS.iconst X844.here hx rfl (hb hby at_433) kk_) ?_
      refine Gq.go (T844.setTop (mkF m 435 #[.val (.int x0), .val (.int x1), .val (.int x2), .val (.int x3), .val (.int x4), .val (.int x5), .val (.int (Int32.ofNat t)), .val (.int (Int32.ofNat u0)), .val (.int (Int32.ofNat u1)), .val (.int (Int32.ofNat u2)), .val (.ref b1), .val (.ref b95), .val (.ref b177), .val (.ref b229), .val (.int (x4 &&& (2147483632 : Int32))), .val (.ref b526), .val (.int (own_rf B RR x1 3 f0)), .val (.int (Int32.ofNat f0)), .val (.int (3 : Int32)), .val (.int (RR (f0 + 2)))] [(.int ((Int32.ofNat f0) + (1 : Int32))), (.ref b229)])) (fun tt_ kk_ => XS.iadd X844.here hx rfl (hb hby at_434) rfl kk_) ?_
      rw [show ((Int32.ofNat f0) + (1 : Int32)) = (Int32.ofNat (f0 + 1)) from own_add f0 1]
      refine Gq.go (T844.setTop (mkF m 436 #[.val (.int x0), .val (.int x1), .val (.int x2), .val (.int x3), .val (.int x4), .val (.int x5), .val (.int (Int32.ofNat t)), .val (.int (Int32.ofNat u0)), .val (.int (Int32.ofNat u1)), .val (.int (Int32.ofNat u2)), .val (.ref b1), .val (.ref b95), .val (.ref b177), .val (.ref b229), .val (.int (x4 &&& (2147483632 : Int32))), .val (.ref b526), .val (.int (own_rf B RR x1 3 f0)), .val (.int (Int32.ofNat f0)), .val (.int (3 : Int32)), .val (.int (RR (f0 + 2)))] [(.int (B (f0 + 1)))])) (fun tt_ kk_ => ldI X844 hx hZ eh844 VB (j := (Int32.ofNat (f0 + 1))) (i := (f0 + 1)) (x := (B (f0 + 1))) (own_nn (by omega)) (own_nc (by omega)) (by omega) rfl (hb hby at_435) tt_ kk_) ?_
      refine Gq.go (T844.setTop (mkF m 437 #[.val (.int x0), .val (.int x1), .val (.int x2), .val (.int x3), .val (.int x4), .val (.int x5), .val (.int (Int32.ofNat t)), .val (.int (Int32.ofNat u0)), .val (.int (Int32.ofNat u1)), .val (.int (Int32.ofNat u2)), .val (.ref b1), .val (.ref b95), .val (.ref b177), .val (.ref b229), .val (.int (x4 &&& (2147483632 : Int32))), .val (.ref b526), .val (.int (own_rf B RR x1 3 f0)), .val (.int (Int32.ofNat f0)), .val (.int (3 : Int32)), .val (.int (RR (f0 + 2)))] [(.int x1), (.int (B (f0 + 1)))])) (fun tt_ kk_ => XS.iloadN X844.here hx rfl (hb hby at_436) rfl kk_) ?_
      by_cases hb1 : (B (f0 + 1)) = x1
      · refine Gq.go (T844.setTop (mkF m 440 #[.val (.int x0), .val (.int x1), .val (.int x2), .val (.int x3), .val (.int x4), .val (.int x5), .val (.int (Int32.ofNat t)), .val (.int (Int32.ofNat u0)), .val (.int (Int32.ofNat u1)), .val (.int (Int32.ofNat u2)), .val (.ref b1), .val (.ref b95), .val (.ref b177), .val (.ref b229), .val (.int (x4 &&& (2147483632 : Int32))), .val (.ref b526), .val (.int (own_rf B RR x1 3 f0)), .val (.int (Int32.ofNat f0)), .val (.int (3 : Int32)), .val (.int (RR (f0 + 2)))] [])) (fun tt_ kk_ => XS.icmpNo X844.here hx rfl (hb hby at_437) rfl (teq hb1).2 kk_) ?_
        refine Gq.go (T844.setTop (mkF m 442 #[.val (.int x0), .val (.int x1), .val (.int x2), .val (.int x3), .val (.int x4), .val (.int x5), .val (.int (Int32.ofNat t)), .val (.int (Int32.ofNat u0)), .val (.int (Int32.ofNat u1)), .val (.int (Int32.ofNat u2)), .val (.ref b1), .val (.ref b95), .val (.ref b177), .val (.ref b229), .val (.int (x4 &&& (2147483632 : Int32))), .val (.ref b526), .val (.int (own_rf B RR x1 3 f0)), .val (.int (Int32.ofNat f0)), .val (.int (3 : Int32)), .val (.int (RR (f0 + 2)))] [(.ref b526)])) (fun tt_ kk_ => XS.aload X844.here hx rfl (hb hby at_440) rfl rfl kk_) ?_
        refine Gq.go (T844.setTop (mkF m 444 #[.val (.int x0), .val (.int x1), .val (.int x2), .val (.int x3), .val (.int x4), .val (.int x5), .val (.int (Int32.ofNat t)), .val (.int (Int32.ofNat u0)), .val (.int (Int32.ofNat u1)), .val (.int (Int32.ofNat u2)), .val (.ref b1), .val (.ref b95), .val (.ref b177), .val (.ref b229), .val (.int (x4 &&& (2147483632 : Int32))), .val (.ref b526), .val (.int (own_rf B RR x1 3 f0)), .val (.int (Int32.ofNat f0)), .val (.int (3 : Int32)), .val (.int (RR (f0 + 2)))] [(.int (Int32.ofNat f0)), (.ref b526)])) (fun tt_ kk_ => XS.iload X844.here hx rfl (hb hby at_442) rfl kk_) ?_
        refine Gq.go (T844.setTop (mkF m 445 #[.val (.int x0), .val (.int x1), .val (.int x2), .val (.int x3), .val (.int x4), .val (.int x5), .val (.int (Int32.ofNat t)), .val (.int (Int32.ofNat u0)), .val (.int (Int32.ofNat u1)), .val (.int (Int32.ofNat u2)), .val (.ref b1), .val (.ref b95), .val (.ref b177), .val (.ref b229), .val (.int (x4 &&& (2147483632 : Int32))), .val (.ref b526), .val (.int (own_rf B RR x1 3 f0)), .val (.int (Int32.ofNat f0)), .val (.int (3 : Int32)), .val (.int (RR (f0 + 2)))] [(.int (1 : Int32)), (.int (Int32.ofNat f0)), (.ref b526)])) (fun tt_ kk_ => XS.iconst X844.here hx rfl (hb hby at_444) kk_) ?_
        refine Gq.go (T844.setTop (mkF m 446 #[.val (.int x0), .val (.int x1), .val (.int x2), .val (.int x3), .val (.int x4), .val (.int x5), .val (.int (Int32.ofNat t)), .val (.int (Int32.ofNat u0)), .val (.int (Int32.ofNat u1)), .val (.int (Int32.ofNat u2)), .val (.ref b1), .val (.ref b95), .val (.ref b177), .val (.ref b229), .val (.int (x4 &&& (2147483632 : Int32))), .val (.ref b526), .val (.int (own_rf B RR x1 3 f0)), .val (.int (Int32.ofNat f0)), .val (.int (3 : Int32)), .val (.int (RR (f0 + 2)))] [(.int ((Int32.ofNat f0) + (1 : Int32))), (.ref b526)])) (fun tt_ kk_ => XS.iadd X844.here hx rfl (hb hby at_445) rfl kk_) ?_
        rw [show ((Int32.ofNat f0) + (1 : Int32)) = (Int32.ofNat (f0 + 1)) from own_add f0 1]
        refine Gq.go (T844.setTop (mkF m 447 #[.val (.int x0), .val (.int x1), .val (.int x2), .val (.int x3), .val (.int x4), .val (.int x5), .val (.int (Int32.ofNat t)), .val (.int (Int32.ofNat u0)), .val (.int (Int32.ofNat u1)), .val (.int (Int32.ofNat u2)), .val (.ref b1), .val (.ref b95), .val (.ref b177), .val (.ref b229), .val (.int (x4 &&& (2147483632 : Int32))), .val (.ref b526), .val (.int (own_rf B RR x1 3 f0)), .val (.int (Int32.ofNat f0)), .val (.int (3 : Int32)), .val (.int (RR (f0 + 2)))] [(.int (RR (f0 + 1)))])) (fun tt_ kk_ => ldI X844 hx hZ eh844 VR (j := (Int32.ofNat (f0 + 1))) (i := (f0 + 1)) (x := (RR (f0 + 1))) (own_nn (by omega)) (own_nc (by omega)) (by omega) rfl (hb hby at_446) tt_ kk_) ?_
        refine Gq.go (T844.setTop (mkF m 449 #[.val (.int x0), .val (.int x1), .val (.int x2), .val (.int x3), .val (.int x4), .val (.int x5), .val (.int (Int32.ofNat t)), .val (.int (Int32.ofNat u0)), .val (.int (Int32.ofNat u1)), .val (.int (Int32.ofNat u2)), .val (.ref b1), .val (.ref b95), .val (.ref b177), .val (.ref b229), .val (.int (x4 &&& (2147483632 : Int32))), .val (.ref b526), .val (.int (own_rf B RR x1 3 f0)), .val (.int (Int32.ofNat f0)), .val (.int (3 : Int32)), .val (.int (RR (f0 + 1)))] [])) (fun tt_ kk_ => XS.istore X844.here hx rfl (hb hby at_447) rfl (l' := #[.val (.int x0), .val (.int x1), .val (.int x2), .val (.int x3), .val (.int x4), .val (.int x5), .val (.int (Int32.ofNat t)), .val (.int (Int32.ofNat u0)), .val (.int (Int32.ofNat u1)), .val (.int (Int32.ofNat u2)), .val (.ref b1), .val (.ref b95), .val (.ref b177), .val (.ref b229), .val (.int (x4 &&& (2147483632 : Int32))), .val (.ref b526), .val (.int (own_rf B RR x1 3 f0)), .val (.int (Int32.ofNat f0)), .val (.int (3 : Int32)), .val (.int (RR (f0 + 1)))]) rfl kk_) ?_
        refine Gq.go (T844.setTop (mkF m 451 #[.val (.int x0), .val (.int x1), .val (.int x2), .val (.int x3), .val (.int x4), .val (.int x5), .val (.int (Int32.ofNat t)), .val (.int (Int32.ofNat u0)), .val (.int (Int32.ofNat u1)), .val (.int (Int32.ofNat u2)), .val (.ref b1), .val (.ref b95), .val (.ref b177), .val (.ref b229), .val (.int (x4 &&& (2147483632 : Int32))), .val (.ref b526), .val (.int (own_rf B RR x1 3 f0)), .val (.int (Int32.ofNat f0)), .val (.int (3 : Int32)), .val (.int (RR (f0 + 1)))] [(.int (3 : Int32))])) (fun tt_ kk_ => XS.iload X844.here hx rfl (hb hby at_449) rfl kk_) ?_
        refine Gq.go (T844.setTop (mkF m 452 #[.val (.int x0), .val (.int x1), .val (.int x2), .val (.int x3), .val (.int x4), .val (.int x5), .val (.int (Int32.ofNat t)), .val (.int (Int32.ofNat u0)), .val (.int (Int32.ofNat u1)), .val (.int (Int32.ofNat u2)), .val (.ref b1), .val (.ref b95), .val (.ref b177), .val (.ref b229), .val (.int (x4 &&& (2147483632 : Int32))), .val (.ref b526), .val (.int (own_rf B RR x1 3 f0)), .val (.int (Int32.ofNat f0)), .val (.int (3 : Int32)), .val (.int (RR (f0 + 1)))] [(.int (1 : Int32)), (.int (3 : Int32))])) (fun tt_ kk_ => XS.iconst X844.here hx rfl (hb hby at_451) kk_) ?_
        refine Gq.go (T844.setTop (mkF m 455 #[.val (.int x0), .val (.int x1), .val (.int x2), .val (.int x3), .val (.int x4), .val (.int x5), .val (.int (Int32.ofNat t)), .val (.int (Int32.ofNat u0)), .val (.int (Int32.ofNat u1)), .val (.int (Int32.ofNat u2)), .val (.ref b1), .val (.ref b95), .val (.ref b177), .val (.ref b229), .val (.int (x4 &&& (2147483632 : Int32))), .val (.ref b526), .val (.int (own_rf B RR x1 3 f0)), .val (.int (Int32.ofNat f0)), .val (.int (3 : Int32)), .val (.int (RR (f0 + 1)))] [])) (fun tt_ kk_ => XS.icmpNo X844.here hx rfl (hb hby at_452) rfl (flt (by decide : ¬ ((3 : Int32) < (1 : Int32)))).1 kk_) ?_
        refine Gq.go (T844.setTop (mkF m 457 #[.val (.int x0), .val (.int x1), .val (.int x2), .val (.int x3), .val (.int x4), .val (.int x5), .val (.int (Int32.ofNat t)), .val (.int (Int32.ofNat u0)), .val (.int (Int32.ofNat u1)), .val (.int (Int32.ofNat u2)), .val (.ref b1), .val (.ref b95), .val (.ref b177), .val (.ref b229), .val (.int (x4 &&& (2147483632 : Int32))), .val (.ref b526), .val (.int (own_rf B RR x1 3 f0)), .val (.int (Int32.ofNat f0)), .val (.int (3 : Int32)), .val (.int (RR (f0 + 1)))] [(.ref b229)])) (fun tt_ kk_ => XS.aload X844.here hx rfl (hb hby at_455) rfl rfl kk_) ?_
        refine Gq.go (T844.setTop (mkF m 459 #[.val (.int x0), .val (.int x1), .val (.int x2), .val (.int x3), .val (.int x4), .val (.int x5), .val (.int (Int32.ofNat t)), .val (.int (Int32.ofNat u0)), .val (.int (Int32.ofNat u1)), .val (.int (Int32.ofNat u2)), .val (.ref b1), .val (.ref b95), .val (.ref b177), .val (.ref b229), .val (.int (x4 &&& (2147483632 : Int32))), .val (.ref b526), .val (.int (own_rf B RR x1 3 f0)), .val (.int (Int32.ofNat f0)), .val (.int (3 : Int32)), .val (.int (RR (f0 + 1)))] [(.int (Int32.ofNat f0)), (.ref b229)])) (fun tt_ kk_ => XS.iload X844.here hx rfl (hb hby at_457) rfl kk_) ?_
        refine Gq.go (T844.setTop (mkF m 460 #[.val (.int x0), .val (.int x1), .val (.int x2), .val (.int x3), .val (.int x4), .val (.int x5), .val (.int (Int32.ofNat t)), .val (.int (Int32.ofNat u0)), .val (.int (Int32.ofNat u1)), .val (.int (Int32.ofNat u2)), .val (.ref b1), .val (.ref b95), .val (.ref b177), .val (.ref b229), .val (.int (x4 &&& (2147483632 : Int32))), .val (.ref b526), .val (.int (own_rf B RR x1 3 f0)), .val (.int (Int32.ofNat f0)), .val (.int (3 : Int32)), .val (.int (RR (f0 + 1)))] [(.int (B f0))])) (fun tt_ kk_ => ldI X844 hx hZ eh844 VB (j := (Int32.ofNat f0)) (i := f0) (x := (B f0)) (own_nn (by omega)) (own_nc (by omega)) (by omega) rfl (hb hby at_459) tt_ kk_) ?_
        refine Gq.go (T844.setTop (mkF m 461 #[.val (.int x0), .val (.int x1), .val (.int x2), .val (.int x3), .val (.int x4), .val (.int x5), .val (.int (Int32.ofNat t)), .val (.int (Int32.ofNat u0)), .val (.int (Int32.ofNat u1)), .val (.int (Int32.ofNat u2)), .val (.ref b1), .val (.ref b95), .val (.ref b177), .val (.ref b229), .val (.int (x4 &&& (2147483632 : Int32))), .val (.ref b526), .val (.int (own_rf B RR x1 3 f0)), .val (.int (Int32.ofNat f0)), .val (.int (3 : Int32)), .val (.int (RR (f0 + 1)))] [(.int x1), (.int (B f0))])) (fun tt_ kk_ => XS.iloadN X844.here hx rfl (hb hby at_460) rfl kk_) ?_
        by_cases hb0 : (B f0) = x1
        · refine Gq.go (T844.setTop (mkF m 464 #[.val (.int x0), .val (.int x1), .val (.int x2), .val (.int x3), .val (.int x4), .val (.int x5), .val (.int (Int32.ofNat t)), .val (.int (Int32.ofNat u0)), .val (.int (Int32.ofNat u1)), .val (.int (Int32.ofNat u2)), .val (.ref b1), .val (.ref b95), .val (.ref b177), .val (.ref b229), .val (.int (x4 &&& (2147483632 : Int32))), .val (.ref b526), .val (.int (own_rf B RR x1 3 f0)), .val (.int (Int32.ofNat f0)), .val (.int (3 : Int32)), .val (.int (RR (f0 + 1)))] [])) (fun tt_ kk_ => XS.icmpNo X844.here hx rfl (hb hby at_461) rfl (teq hb0).2 kk_) ?_
          refine Gq.go (T844.setTop (mkF m 466 #[.val (.int x0), .val (.int x1), .val (.int x2), .val (.int x3), .val (.int x4), .val (.int x5), .val (.int (Int32.ofNat t)), .val (.int (Int32.ofNat u0)), .val (.int (Int32.ofNat u1)), .val (.int (Int32.ofNat u2)), .val (.ref b1), .val (.ref b95), .val (.ref b177), .val (.ref b229), .val (.int (x4 &&& (2147483632 : Int32))), .val (.ref b526), .val (.int (own_rf B RR x1 3 f0)), .val (.int (Int32.ofNat f0)), .val (.int (3 : Int32)), .val (.int (RR (f0 + 1)))] [(.ref b526)])) (fun tt_ kk_ => XS.aload X844.here hx rfl (hb hby at_464) rfl rfl kk_) ?_
          refine Gq.go (T844.setTop (mkF m 468 #[.val (.int x0), .val (.int x1), .val (.int x2), .val (.int x3), .val (.int x4), .val (.int x5), .val (.int (Int32.ofNat t)), .val (.int (Int32.ofNat u0)), .val (.int (Int32.ofNat u1)), .val (.int (Int32.ofNat u2)), .val (.ref b1), .val (.ref b95), .val (.ref b177), .val (.ref b229), .val (.int (x4 &&& (2147483632 : Int32))), .val (.ref b526), .val (.int (own_rf B RR x1 3 f0)), .val (.int (Int32.ofNat f0)), .val (.int (3 : Int32)), .val (.int (RR (f0 + 1)))] [(.int (Int32.ofNat f0)), (.ref b526)])) (fun tt_ kk_ => XS.iload X844.here hx rfl (hb hby at_466) rfl kk_) ?_
          refine Gq.go (T844.setTop (mkF m 469 #[.val (.int x0), .val (.int x1), .val (.int x2), .val (.int x3), .val (.int x4), .val (.int x5), .val (.int (Int32.ofNat t)), .val (.int (Int32.ofNat u0)), .val (.int (Int32.ofNat u1)), .val (.int (Int32.ofNat u2)), .val (.ref b1), .val (.ref b95), .val (.ref b177), .val (.ref b229), .val (.int (x4 &&& (2147483632 : Int32))), .val (.ref b526), .val (.int (own_rf B RR x1 3 f0)), .val (.int (Int32.ofNat f0)), .val (.int (3 : Int32)), .val (.int (RR (f0 + 1)))] [(.int (RR f0))])) (fun tt_ kk_ => ldI X844 hx hZ eh844 VR (j := (Int32.ofNat f0)) (i := f0) (x := (RR f0)) (own_nn (by omega)) (own_nc (by omega)) (by omega) rfl (hb hby at_468) tt_ kk_) ?_
          refine Gq.go (T844.setTop (mkF m 471 #[.val (.int x0), .val (.int x1), .val (.int x2), .val (.int x3), .val (.int x4), .val (.int x5), .val (.int (Int32.ofNat t)), .val (.int (Int32.ofNat u0)), .val (.int (Int32.ofNat u1)), .val (.int (Int32.ofNat u2)), .val (.ref b1), .val (.ref b95), .val (.ref b177), .val (.ref b229), .val (.int (x4 &&& (2147483632 : Int32))), .val (.ref b526), .val (.int (own_rf B RR x1 3 f0)), .val (.int (Int32.ofNat f0)), .val (.int (3 : Int32)), .val (.int (RR f0))] [])) (fun tt_ kk_ => XS.istore X844.here hx rfl (hb hby at_469) rfl (l' := #[.val (.int x0), .val (.int x1), .val (.int x2), .val (.int x3), .val (.int x4), .val (.int x5), .val (.int (Int32.ofNat t)), .val (.int (Int32.ofNat u0)), .val (.int (Int32.ofNat u1)), .val (.int (Int32.ofNat u2)), .val (.ref b1), .val (.ref b95), .val (.ref b177), .val (.ref b229), .val (.int (x4 &&& (2147483632 : Int32))), .val (.ref b526), .val (.int (own_rf B RR x1 3 f0)), .val (.int (Int32.ofNat f0)), .val (.int (3 : Int32)), .val (.int (RR f0))]) rfl kk_) ?_
          refine Gq.go (T844.setTop (mkF m 473 #[.val (.int x0), .val (.int x1), .val (.int x2), .val (.int x3), .val (.int x4), .val (.int x5), .val (.int (Int32.ofNat t)), .val (.int (Int32.ofNat u0)), .val (.int (Int32.ofNat u1)), .val (.int (Int32.ofNat u2)), .val (.ref b1), .val (.ref b95), .val (.ref b177), .val (.ref b229), .val (.int (x4 &&& (2147483632 : Int32))), .val (.ref b526), .val (.int (own_rf B RR x1 3 f0)), .val (.int (Int32.ofNat f0)), .val (.int (3 : Int32)), .val (.int (RR f0))] [(.int (own_rf B RR x1 3 f0))])) (fun tt_ kk_ => XS.iload X844.here hx rfl (hb hby at_471) rfl kk_) ?_
          refine Gq.go (T844.setTop (mkF m 475 #[.val (.int x0), .val (.int x1), .val (.int x2), .val (.int x3), .val (.int x4), .val (.int x5), .val (.int (Int32.ofNat t)), .val (.int (Int32.ofNat u0)), .val (.int (Int32.ofNat u1)), .val (.int (Int32.ofNat u2)), .val (.ref b1), .val (.ref b95), .val (.ref b177), .val (.ref b229), .val (.int (x4 &&& (2147483632 : Int32))), .val (.ref b526), .val (.int (own_rf B RR x1 3 f0)), .val (.int (Int32.ofNat f0)), .val (.int (3 : Int32)), .val (.int (RR f0))] [(.int (RR f0)), (.int (own_rf B RR x1 3 f0))])) (fun tt_ kk_ => XS.iload X844.here hx rfl (hb hby at_473) rfl kk_) ?_
          refine Gq.go (T844.setTop (mkF m 478 #[.val (.int x0), .val (.int x1), .val (.int x2), .val (.int x3), .val (.int x4), .val (.int x5), .val (.int (Int32.ofNat t)), .val (.int (Int32.ofNat u0)), .val (.int (Int32.ofNat u1)), .val (.int (Int32.ofNat u2)), .val (.ref b1), .val (.ref b95), .val (.ref b177), .val (.ref b229), .val (.int (x4 &&& (2147483632 : Int32))), .val (.ref b526), .val (.int (own_rf B RR x1 3 f0)), .val (.int (Int32.ofNat f0)), .val (.int (3 : Int32)), .val (.int (RR f0))] [])) (fun tt_ kk_ => XS.icmpNo X844.here hx rfl (hb hby at_475) rfl (teq (show (if B (f0) = x1 then RR (f0) else (if B (f0 + 1) = x1 then RR (f0 + 1) else (if B (f0 + 2) = x1 then RR (f0 + 2) else (-1 : Int32)))) = (RR f0) by rw [if_pos hb0])).2 kk_) ?_
          refine Gq.go (T844.setTop (mkF m 479 #[.val (.int x0), .val (.int x1), .val (.int x2), .val (.int x3), .val (.int x4), .val (.int x5), .val (.int (Int32.ofNat t)), .val (.int (Int32.ofNat u0)), .val (.int (Int32.ofNat u1)), .val (.int (Int32.ofNat u2)), .val (.ref b1), .val (.ref b95), .val (.ref b177), .val (.ref b229), .val (.int (x4 &&& (2147483632 : Int32))), .val (.ref b526), .val (.int (own_rf B RR x1 3 f0)), .val (.int (Int32.ofNat f0)), .val (.int (3 : Int32)), .val (.int (RR f0))] [(.int (1 : Int32))])) (fun tt_ kk_ => XS.iconst X844.here hx rfl (hb hby at_478) kk_) ?_
          refine Gq.go (T844.setTop (mkF m 483 #[.val (.int x0), .val (.int x1), .val (.int x2), .val (.int x3), .val (.int x4), .val (.int x5), .val (.int (Int32.ofNat t)), .val (.int (Int32.ofNat u0)), .val (.int (Int32.ofNat u1)), .val (.int (Int32.ofNat u2)), .val (.ref b1), .val (.ref b95), .val (.ref b177), .val (.ref b229), .val (.int (x4 &&& (2147483632 : Int32))), .val (.ref b526), .val (.int (own_rf B RR x1 3 f0)), .val (.int (Int32.ofNat f0)), .val (.int (3 : Int32)), .val (.int (RR f0))] [(.int (1 : Int32))])) (fun tt_ kk_ => XS.goto X844.here hx rfl (pc0 := 479) (pc' := 483) rfl (hb hby at_479) (by decide) (by decide) kk_) ?_
          refine Gq.retI X844 hx Bd.notSynchronized Bd.returns (by simp) (hb hby at_483) rfl (by decide) (by decide) ?_
          show Q0 Z x0 x1 x2 x3 x4 x5 d0 fd h0 n0 _ T844.heap _
          rw [eh844]
          exact ⟨rfl, N844⟩
        · refine Gq.go (T844.setTop (mkF m 471 #[.val (.int x0), .val (.int x1), .val (.int x2), .val (.int x3), .val (.int x4), .val (.int x5), .val (.int (Int32.ofNat t)), .val (.int (Int32.ofNat u0)), .val (.int (Int32.ofNat u1)), .val (.int (Int32.ofNat u2)), .val (.ref b1), .val (.ref b95), .val (.ref b177), .val (.ref b229), .val (.int (x4 &&& (2147483632 : Int32))), .val (.ref b526), .val (.int (own_rf B RR x1 3 f0)), .val (.int (Int32.ofNat f0)), .val (.int (3 : Int32)), .val (.int (RR (f0 + 1)))] [])) (fun tt_ kk_ => XS.icmpYes X844.here hx rfl (pc0 := 461) (pc' := 471) rfl (hb hby at_461) rfl (feq hb0).2 (by decide) (by decide) kk_) ?_
          refine Gq.go (T844.setTop (mkF m 473 #[.val (.int x0), .val (.int x1), .val (.int x2), .val (.int x3), .val (.int x4), .val (.int x5), .val (.int (Int32.ofNat t)), .val (.int (Int32.ofNat u0)), .val (.int (Int32.ofNat u1)), .val (.int (Int32.ofNat u2)), .val (.ref b1), .val (.ref b95), .val (.ref b177), .val (.ref b229), .val (.int (x4 &&& (2147483632 : Int32))), .val (.ref b526), .val (.int (own_rf B RR x1 3 f0)), .val (.int (Int32.ofNat f0)), .val (.int (3 : Int32)), .val (.int (RR (f0 + 1)))] [(.int (own_rf B RR x1 3 f0))])) (fun tt_ kk_ => XS.iload X844.here hx rfl (hb hby at_471) rfl kk_) ?_
          refine Gq.go (T844.setTop (mkF m 475 #[.val (.int x0), .val (.int x1), .val (.int x2), .val (.int x3), .val (.int x4), .val (.int x5), .val (.int (Int32.ofNat t)), .val (.int (Int32.ofNat u0)), .val (.int (Int32.ofNat u1)), .val (.int (Int32.ofNat u2)), .val (.ref b1), .val (.ref b95), .val (.ref b177), .val (.ref b229), .val (.int (x4 &&& (2147483632 : Int32))), .val (.ref b526), .val (.int (own_rf B RR x1 3 f0)), .val (.int (Int32.ofNat f0)), .val (.int (3 : Int32)), .val (.int (RR (f0 + 1)))] [(.int (RR (f0 + 1))), (.int (own_rf B RR x1 3 f0))])) (fun tt_ kk_ => XS.iload X844.here hx rfl (hb hby at_473) rfl kk_) ?_
          refine Gq.go (T844.setTop (mkF m 478 #[.val (.int x0), .val (.int x1), .val (.int x2), .val (.int x3), .val (.int x4), .val (.int x5), .val (.int (Int32.ofNat t)), .val (.int (Int32.ofNat u0)), .val (.int (Int32.ofNat u1)), .val (.int (Int32.ofNat u2)), .val (.ref b1), .val (.ref b95), .val (.ref b177), .val (.ref b229), .val (.int (x4 &&& (2147483632 : Int32))), .val (.ref b526), .val (.int (own_rf B RR x1 3 f0)), .val (.int (Int32.ofNat f0)), .val (.int (3 : Int32)), .val (.int (RR (f0 + 1)))] [])) (fun tt_ kk_ => XS.icmpNo X844.here hx rfl (hb hby at_475) rfl (teq (show (if B (f0) = x1 then RR (f0) else (if B (f0 + 1) = x1 then RR (f0 + 1) else (if B (f0 + 2) = x1 then RR (f0 + 2) else (-1 : Int32)))) = (RR (f0 + 1)) by rw [if_neg hb0, if_pos hb1])).2 kk_) ?_
          refine Gq.go (T844.setTop (mkF m 479 #[.val (.int x0), .val (.int x1), .val (.int x2), .val (.int x3), .val (.int x4), .val (.int x5), .val (.int (Int32.ofNat t)), .val (.int (Int32.ofNat u0)), .val (.int (Int32.ofNat u1)), .val (.int (Int32.ofNat u2)), .val (.ref b1), .val (.ref b95), .val (.ref b177), .val (.ref b229), .val (.int (x4 &&& (2147483632 : Int32))), .val (.ref b526), .val (.int (own_rf B RR x1 3 f0)), .val (.int (Int32.ofNat f0)), .val (.int (3 : Int32)), .val (.int (RR (f0 + 1)))] [(.int (1 : Int32))])) (fun tt_ kk_ => XS.iconst X844.here hx rfl (hb hby at_478) kk_) ?_
          refine Gq.go (T844.setTop (mkF m 483 #[.val (.int x0), .val (.int x1), .val (.int x2), .val (.int x3), .val (.int x4), .val (.int x5), .val (.int (Int32.ofNat t)), .val (.int (Int32.ofNat u0)), .val (.int (Int32.ofNat u1)), .val (.int (Int32.ofNat u2)), .val (.ref b1), .val (.ref b95), .val (.ref b177), .val (.ref b229), .val (.int (x4 &&& (2147483632 : Int32))), .val (.ref b526), .val (.int (own_rf B RR x1 3 f0)), .val (.int (Int32.ofNat f0)), .val (.int (3 : Int32)), .val (.int (RR (f0 + 1)))] [(.int (1 : Int32))])) (fun tt_ kk_ => XS.goto X844.here hx rfl (pc0 := 479) (pc' := 483) rfl (hb hby at_479) (by decide) (by decide) kk_) ?_
          refine Gq.retI X844 hx Bd.notSynchronized Bd.returns (by simp) (hb hby at_483) rfl (by decide) (by decide) ?_
          show Q0 Z x0 x1 x2 x3 x4 x5 d0 fd h0 n0 _ T844.heap _
          rw [eh844]
          exact ⟨rfl, N844⟩
      · refine Gq.go (T844.setTop (mkF m 449 #[.val (.int x0), .val (.int x1), .val (.int x2), .val (.int x3), .val (.int x4), .val (.int x5), .val (.int (Int32.ofNat t)), .val (.int (Int32.ofNat u0)), .val (.int (Int32.ofNat u1)), .val (.int (Int32.ofNat u2)), .val (.ref b1), .val (.ref b95), .val (.ref b177), .val (.ref b229), .val (.int (x4 &&& (2147483632 : Int32))), .val (.ref b526), .val (.int (own_rf B RR x1 3 f0)), .val (.int (Int32.ofNat f0)), .val (.int (3 : Int32)), .val (.int (RR (f0 + 2)))] [])) (fun tt_ kk_ => XS.icmpYes X844.here hx rfl (pc0 := 437) (pc' := 449) rfl (hb hby at_437) rfl (feq hb1).2 (by decide) (by decide) kk_) ?_
        refine Gq.go (T844.setTop (mkF m 451 #[.val (.int x0), .val (.int x1), .val (.int x2), .val (.int x3), .val (.int x4), .val (.int x5), .val (.int (Int32.ofNat t)), .val (.int (Int32.ofNat u0)), .val (.int (Int32.ofNat u1)), .val (.int (Int32.ofNat u2)), .val (.ref b1), .val (.ref b95), .val (.ref b177), .val (.ref b229), .val (.int (x4 &&& (2147483632 : Int32))), .val (.ref b526), .val (.int (own_rf B RR x1 3 f0)), .val (.int (Int32.ofNat f0)), .val (.int (3 : Int32)), .val (.int (RR (f0 + 2)))] [(.int (3 : Int32))])) (fun tt_ kk_ => XS.iload X844.here hx rfl (hb hby at_449) rfl kk_) ?_
        refine Gq.go (T844.setTop (mkF m 452 #[.val (.int x0), .val (.int x1), .val (.int x2), .val (.int x3), .val (.int x4), .val (.int x5), .val (.int (Int32.ofNat t)), .val (.int (Int32.ofNat u0)), .val (.int (Int32.ofNat u1)), .val (.int (Int32.ofNat u2)), .val (.ref b1), .val (.ref b95), .val (.ref b177), .val (.ref b229), .val (.int (x4 &&& (2147483632 : Int32))), .val (.ref b526), .val (.int (own_rf B RR x1 3 f0)), .val (.int (Int32.ofNat f0)), .val (.int (3 : Int32)), .val (.int (RR (f0 + 2)))] [(.int (1 : Int32)), (.int (3 : Int32))])) (fun tt_ kk_ => XS.iconst X844.here hx rfl (hb hby at_451) kk_) ?_
        refine Gq.go (T844.setTop (mkF m 455 #[.val (.int x0), .val (.int x1), .val (.int x2), .val (.int x3), .val (.int x4), .val (.int x5), .val (.int (Int32.ofNat t)), .val (.int (Int32.ofNat u0)), .val (.int (Int32.ofNat u1)), .val (.int (Int32.ofNat u2)), .val (.ref b1), .val (.ref b95), .val (.ref b177), .val (.ref b229), .val (.int (x4 &&& (2147483632 : Int32))), .val (.ref b526), .val (.int (own_rf B RR x1 3 f0)), .val (.int (Int32.ofNat f0)), .val (.int (3 : Int32)), .val (.int (RR (f0 + 2)))] [])) (fun tt_ kk_ => XS.icmpNo X844.here hx rfl (hb hby at_452) rfl (flt (by decide : ¬ ((3 : Int32) < (1 : Int32)))).1 kk_) ?_
        refine Gq.go (T844.setTop (mkF m 457 #[.val (.int x0), .val (.int x1), .val (.int x2), .val (.int x3), .val (.int x4), .val (.int x5), .val (.int (Int32.ofNat t)), .val (.int (Int32.ofNat u0)), .val (.int (Int32.ofNat u1)), .val (.int (Int32.ofNat u2)), .val (.ref b1), .val (.ref b95), .val (.ref b177), .val (.ref b229), .val (.int (x4 &&& (2147483632 : Int32))), .val (.ref b526), .val (.int (own_rf B RR x1 3 f0)), .val (.int (Int32.ofNat f0)), .val (.int (3 : Int32)), .val (.int (RR (f0 + 2)))] [(.ref b229)])) (fun tt_ kk_ => XS.aload X844.here hx rfl (hb hby at_455) rfl rfl kk_) ?_
        refine Gq.go (T844.setTop (mkF m 459 #[.val (.int x0), .val (.int x1), .val (.int x2), .val (.int x3), .val (.int x4), .val (.int x5), .val (.int (Int32.ofNat t)), .val (.int (Int32.ofNat u0)), .val (.int (Int32.ofNat u1)), .val (.int (Int32.ofNat u2)), .val (.ref b1), .val (.ref b95), .val (.ref b177), .val (.ref b229), .val (.int (x4 &&& (2147483632 : Int32))), .val (.ref b526), .val (.int (own_rf B RR x1 3 f0)), .val (.int (Int32.ofNat f0)), .val (.int (3 : Int32)), .val (.int (RR (f0 + 2)))] [(.int (Int32.ofNat f0)), (.ref b229)])) (fun tt_ kk_ => XS.iload X844.here hx rfl (hb hby at_457) rfl kk_) ?_
        refine Gq.go (T844.setTop (mkF m 460 #[.val (.int x0), .val (.int x1), .val (.int x2), .val (.int x3), .val (.int x4), .val (.int x5), .val (.int (Int32.ofNat t)), .val (.int (Int32.ofNat u0)), .val (.int (Int32.ofNat u1)), .val (.int (Int32.ofNat u2)), .val (.ref b1), .val (.ref b95), .val (.ref b177), .val (.ref b229), .val (.int (x4 &&& (2147483632 : Int32))), .val (.ref b526), .val (.int (own_rf B RR x1 3 f0)), .val (.int (Int32.ofNat f0)), .val (.int (3 : Int32)), .val (.int (RR (f0 + 2)))] [(.int (B f0))])) (fun tt_ kk_ => ldI X844 hx hZ eh844 VB (j := (Int32.ofNat f0)) (i := f0) (x := (B f0)) (own_nn (by omega)) (own_nc (by omega)) (by omega) rfl (hb hby at_459) tt_ kk_) ?_
        refine Gq.go (T844.setTop (mkF m 461 #[.val (.int x0), .val (.int x1), .val (.int x2), .val (.int x3), .val (.int x4), .val (.int x5), .val (.int (Int32.ofNat t)), .val (.int (Int32.ofNat u0)), .val (.int (Int32.ofNat u1)), .val (.int (Int32.ofNat u2)), .val (.ref b1), .val (.ref b95), .val (.ref b177), .val (.ref b229), .val (.int (x4 &&& (2147483632 : Int32))), .val (.ref b526), .val (.int (own_rf B RR x1 3 f0)), .val (.int (Int32.ofNat f0)), .val (.int (3 : Int32)), .val (.int (RR (f0 + 2)))] [(.int x1), (.int (B f0))])) (fun tt_ kk_ => XS.iloadN X844.here hx rfl (hb hby at_460) rfl kk_) ?_
        by_cases hb0 : (B f0) = x1
        · refine Gq.go (T844.setTop (mkF m 464 #[.val (.int x0), .val (.int x1), .val (.int x2), .val (.int x3), .val (.int x4), .val (.int x5), .val (.int (Int32.ofNat t)), .val (.int (Int32.ofNat u0)), .val (.int (Int32.ofNat u1)), .val (.int (Int32.ofNat u2)), .val (.ref b1), .val (.ref b95), .val (.ref b177), .val (.ref b229), .val (.int (x4 &&& (2147483632 : Int32))), .val (.ref b526), .val (.int (own_rf B RR x1 3 f0)), .val (.int (Int32.ofNat f0)), .val (.int (3 : Int32)), .val (.int (RR (f0 + 2)))] [])) (fun tt_ kk_ => XS.icmpNo X844.here hx rfl (hb hby at_461) rfl (teq hb0).2 kk_) ?_
          refine Gq.go (T844.setTop (mkF m 466 #[.val (.int x0), .val (.int x1), .val (.int x2), .val (.int x3), .val (.int x4), .val (.int x5), .val (.int (Int32.ofNat t)), .val (.int (Int32.ofNat u0)), .val (.int (Int32.ofNat u1)), .val (.int (Int32.ofNat u2)), .val (.ref b1), .val (.ref b95), .val (.ref b177), .val (.ref b229), .val (.int (x4 &&& (2147483632 : Int32))), .val (.ref b526), .val (.int (own_rf B RR x1 3 f0)), .val (.int (Int32.ofNat f0)), .val (.int (3 : Int32)), .val (.int (RR (f0 + 2)))] [(.ref b526)])) (fun tt_ kk_ => XS.aload X844.here hx rfl (hb hby at_464) rfl rfl kk_) ?_
          refine Gq.go (T844.setTop (mkF m 468 #[.val (.int x0), .val (.int x1), .val (.int x2), .val (.int x3), .val (.int x4), .val (.int x5), .val (.int (Int32.ofNat t)), .val (.int (Int32.ofNat u0)), .val (.int (Int32.ofNat u1)), .val (.int (Int32.ofNat u2)), .val (.ref b1), .val (.ref b95), .val (.ref b177), .val (.ref b229), .val (.int (x4 &&& (2147483632 : Int32))), .val (.ref b526), .val (.int (own_rf B RR x1 3 f0)), .val (.int (Int32.ofNat f0)), .val (.int (3 : Int32)), .val (.int (RR (f0 + 2)))] [(.int (Int32.ofNat f0)), (.ref b526)])) (fun tt_ kk_ => XS.iload X844.here hx rfl (hb hby at_466) rfl kk_) ?_
          refine Gq.go (T844.setTop (mkF m 469 #[.val (.int x0), .val (.int x1), .val (.int x2), .val (.int x3), .val (.int x4), .val (.int x5), .val (.int (Int32.ofNat t)), .val (.int (Int32.ofNat u0)), .val (.int (Int32.ofNat u1)), .val (.int (Int32.ofNat u2)), .val (.ref b1), .val (.ref b95), .val (.ref b177), .val (.ref b229), .val (.int (x4 &&& (2147483632 : Int32))), .val (.ref b526), .val (.int (own_rf B RR x1 3 f0)), .val (.int (Int32.ofNat f0)), .val (.int (3 : Int32)), .val (.int (RR (f0 + 2)))] [(.int (RR f0))])) (fun tt_ kk_ => ldI X844 hx hZ eh844 VR (j := (Int32.ofNat f0)) (i := f0) (x := (RR f0)) (own_nn (by omega)) (own_nc (by omega)) (by omega) rfl (hb hby at_468) tt_ kk_) ?_
          refine Gq.go (T844.setTop (mkF m 471 #[.val (.int x0), .val (.int x1), .val (.int x2), .val (.int x3), .val (.int x4), .val (.int x5), .val (.int (Int32.ofNat t)), .val (.int (Int32.ofNat u0)), .val (.int (Int32.ofNat u1)), .val (.int (Int32.ofNat u2)), .val (.ref b1), .val (.ref b95), .val (.ref b177), .val (.ref b229), .val (.int (x4 &&& (2147483632 : Int32))), .val (.ref b526), .val (.int (own_rf B RR x1 3 f0)), .val (.int (Int32.ofNat f0)), .val (.int (3 : Int32)), .val (.int (RR f0))] [])) (fun tt_ kk_ => XS.istore X844.here hx rfl (hb hby at_469) rfl (l' := #[.val (.int x0), .val (.int x1), .val (.int x2), .val (.int x3), .val (.int x4), .val (.int x5), .val (.int (Int32.ofNat t)), .val (.int (Int32.ofNat u0)), .val (.int (Int32.ofNat u1)), .val (.int (Int32.ofNat u2)), .val (.ref b1), .val (.ref b95), .val (.ref b177), .val (.ref b229), .val (.int (x4 &&& (2147483632 : Int32))), .val (.ref b526), .val (.int (own_rf B RR x1 3 f0)), .val (.int (Int32.ofNat f0)), .val (.int (3 : Int32)), .val (.int (RR f0))]) rfl kk_) ?_
          refine Gq.go (T844.setTop (mkF m 473 #[.val (.int x0), .val (.int x1), .val (.int x2), .val (.int x3), .val (.int x4), .val (.int x5), .val (.int (Int32.ofNat t)), .val (.int (Int32.ofNat u0)), .val (.int (Int32.ofNat u1)), .val (.int (Int32.ofNat u2)), .val (.ref b1), .val (.ref b95), .val (.ref b177), .val (.ref b229), .val (.int (x4 &&& (2147483632 : Int32))), .val (.ref b526), .val (.int (own_rf B RR x1 3 f0)), .val (.int (Int32.ofNat f0)), .val (.int (3 : Int32)), .val (.int (RR f0))] [(.int (own_rf B RR x1 3 f0))])) (fun tt_ kk_ => XS.iload X844.here hx rfl (hb hby at_471) rfl kk_) ?_
          refine Gq.go (T844.setTop (mkF m 475 #[.val (.int x0), .val (.int x1), .val (.int x2), .val (.int x3), .val (.int x4), .val (.int x5), .val (.int (Int32.ofNat t)), .val (.int (Int32.ofNat u0)), .val (.int (Int32.ofNat u1)), .val (.int (Int32.ofNat u2)), .val (.ref b1), .val (.ref b95), .val (.ref b177), .val (.ref b229), .val (.int (x4 &&& (2147483632 : Int32))), .val (.ref b526), .val (.int (own_rf B RR x1 3 f0)), .val (.int (Int32.ofNat f0)), .val (.int (3 : Int32)), .val (.int (RR f0))] [(.int (RR f0)), (.int (own_rf B RR x1 3 f0))])) (fun tt_ kk_ => XS.iload X844.here hx rfl (hb hby at_473) rfl kk_) ?_
          refine Gq.go (T844.setTop (mkF m 478 #[.val (.int x0), .val (.int x1), .val (.int x2), .val (.int x3), .val (.int x4), .val (.int x5), .val (.int (Int32.ofNat t)), .val (.int (Int32.ofNat u0)), .val (.int (Int32.ofNat u1)), .val (.int (Int32.ofNat u2)), .val (.ref b1), .val (.ref b95), .val (.ref b177), .val (.ref b229), .val (.int (x4 &&& (2147483632 : Int32))), .val (.ref b526), .val (.int (own_rf B RR x1 3 f0)), .val (.int (Int32.ofNat f0)), .val (.int (3 : Int32)), .val (.int (RR f0))] [])) (fun tt_ kk_ => XS.icmpNo X844.here hx rfl (hb hby at_475) rfl (teq (show (if B (f0) = x1 then RR (f0) else (if B (f0 + 1) = x1 then RR (f0 + 1) else (if B (f0 + 2) = x1 then RR (f0 + 2) else (-1 : Int32)))) = (RR f0) by rw [if_pos hb0])).2 kk_) ?_
          refine Gq.go (T844.setTop (mkF m 479 #[.val (.int x0), .val (.int x1), .val (.int x2), .val (.int x3), .val (.int x4), .val (.int x5), .val (.int (Int32.ofNat t)), .val (.int (Int32.ofNat u0)), .val (.int (Int32.ofNat u1)), .val (.int (Int32.ofNat u2)), .val (.ref b1), .val (.ref b95), .val (.ref b177), .val (.ref b229), .val (.int (x4 &&& (2147483632 : Int32))), .val (.ref b526), .val (.int (own_rf B RR x1 3 f0)), .val (.int (Int32.ofNat f0)), .val (.int (3 : Int32)), .val (.int (RR f0))] [(.int (1 : Int32))])) (fun tt_ kk_ => XS.iconst X844.here hx rfl (hb hby at_478) kk_) ?_
          refine Gq.go (T844.setTop (mkF m 483 #[.val (.int x0), .val (.int x1), .val (.int x2), .val (.int x3), .val (.int x4), .val (.int x5), .val (.int (Int32.ofNat t)), .val (.int (Int32.ofNat u0)), .val (.int (Int32.ofNat u1)), .val (.int (Int32.ofNat u2)), .val (.ref b1), .val (.ref b95), .val (.ref b177), .val (.ref b229), .val (.int (x4 &&& (2147483632 : Int32))), .val (.ref b526), .val (.int (own_rf B RR x1 3 f0)), .val (.int (Int32.ofNat f0)), .val (.int (3 : Int32)), .val (.int (RR f0))] [(.int (1 : Int32))])) (fun tt_ kk_ => XS.goto X844.here hx rfl (pc0 := 479) (pc' := 483) rfl (hb hby at_479) (by decide) (by decide) kk_) ?_
          refine Gq.retI X844 hx Bd.notSynchronized Bd.returns (by simp) (hb hby at_483) rfl (by decide) (by decide) ?_
          show Q0 Z x0 x1 x2 x3 x4 x5 d0 fd h0 n0 _ T844.heap _
          rw [eh844]
          exact ⟨rfl, N844⟩
        · refine Gq.go (T844.setTop (mkF m 471 #[.val (.int x0), .val (.int x1), .val (.int x2), .val (.int x3), .val (.int x4), .val (.int x5), .val (.int (Int32.ofNat t)), .val (.int (Int32.ofNat u0)), .val (.int (Int32.ofNat u1)), .val (.int (Int32.ofNat u2)), .val (.ref b1), .val (.ref b95), .val (.ref b177), .val (.ref b229), .val (.int (x4 &&& (2147483632 : Int32))), .val (.ref b526), .val (.int (own_rf B RR x1 3 f0)), .val (.int (Int32.ofNat f0)), .val (.int (3 : Int32)), .val (.int (RR (f0 + 2)))] [])) (fun tt_ kk_ => XS.icmpYes X844.here hx rfl (pc0 := 461) (pc' := 471) rfl (hb hby at_461) rfl (feq hb0).2 (by decide) (by decide) kk_) ?_
          refine Gq.go (T844.setTop (mkF m 473 #[.val (.int x0), .val (.int x1), .val (.int x2), .val (.int x3), .val (.int x4), .val (.int x5), .val (.int (Int32.ofNat t)), .val (.int (Int32.ofNat u0)), .val (.int (Int32.ofNat u1)), .val (.int (Int32.ofNat u2)), .val (.ref b1), .val (.ref b95), .val (.ref b177), .val (.ref b229), .val (.int (x4 &&& (2147483632 : Int32))), .val (.ref b526), .val (.int (own_rf B RR x1 3 f0)), .val (.int (Int32.ofNat f0)), .val (.int (3 : Int32)), .val (.int (RR (f0 + 2)))] [(.int (own_rf B RR x1 3 f0))])) (fun tt_ kk_ => XS.iload X844.here hx rfl (hb hby at_471) rfl kk_) ?_
          refine Gq.go (T844.setTop (mkF m 475 #[.val (.int x0), .val (.int x1), .val (.int x2), .val (.int x3), .val (.int x4), .val (.int x5), .val (.int (Int32.ofNat t)), .val (.int (Int32.ofNat u0)), .val (.int (Int32.ofNat u1)), .val (.int (Int32.ofNat u2)), .val (.ref b1), .val (.ref b95), .val (.ref b177), .val (.ref b229), .val (.int (x4 &&& (2147483632 : Int32))), .val (.ref b526), .val (.int (own_rf B RR x1 3 f0)), .val (.int (Int32.ofNat f0)), .val (.int (3 : Int32)), .val (.int (RR (f0 + 2)))] [(.int (RR (f0 + 2))), (.int (own_rf B RR x1 3 f0))])) (fun tt_ kk_ => XS.iload X844.here hx rfl (hb hby at_473) rfl kk_) ?_
          refine Gq.go (T844.setTop (mkF m 478 #[.val (.int x0), .val (.int x1), .val (.int x2), .val (.int x3), .val (.int x4), .val (.int x5), .val (.int (Int32.ofNat t)), .val (.int (Int32.ofNat u0)), .val (.int (Int32.ofNat u1)), .val (.int (Int32.ofNat u2)), .val (.ref b1), .val (.ref b95), .val (.ref b177), .val (.ref b229), .val (.int (x4 &&& (2147483632 : Int32))), .val (.ref b526), .val (.int (own_rf B RR x1 3 f0)), .val (.int (Int32.ofNat f0)), .val (.int (3 : Int32)), .val (.int (RR (f0 + 2)))] [])) (fun tt_ kk_ => XS.icmpNo X844.here hx rfl (hb hby at_475) rfl (teq (show (if B (f0) = x1 then RR (f0) else (if B (f0 + 1) = x1 then RR (f0 + 1) else (if B (f0 + 2) = x1 then RR (f0 + 2) else (-1 : Int32)))) = (RR (f0 + 2)) by rw [if_neg hb0, if_neg hb1, if_pos hb2])).2 kk_) ?_
          refine Gq.go (T844.setTop (mkF m 479 #[.val (.int x0), .val (.int x1), .val (.int x2), .val (.int x3), .val (.int x4), .val (.int x5), .val (.int (Int32.ofNat t)), .val (.int (Int32.ofNat u0)), .val (.int (Int32.ofNat u1)), .val (.int (Int32.ofNat u2)), .val (.ref b1), .val (.ref b95), .val (.ref b177), .val (.ref b229), .val (.int (x4 &&& (2147483632 : Int32))), .val (.ref b526), .val (.int (own_rf B RR x1 3 f0)), .val (.int (Int32.ofNat f0)), .val (.int (3 : Int32)), .val (.int (RR (f0 + 2)))] [(.int (1 : Int32))])) (fun tt_ kk_ => XS.iconst X844.here hx rfl (hb hby at_478) kk_) ?_
          refine Gq.go (T844.setTop (mkF m 483 #[.val (.int x0), .val (.int x1), .val (.int x2), .val (.int x3), .val (.int x4), .val (.int x5), .val (.int (Int32.ofNat t)), .val (.int (Int32.ofNat u0)), .val (.int (Int32.ofNat u1)), .val (.int (Int32.ofNat u2)), .val (.ref b1), .val (.ref b95), .val (.ref b177), .val (.ref b229), .val (.int (x4 &&& (2147483632 : Int32))), .val (.ref b526), .val (.int (own_rf B RR x1 3 f0)), .val (.int (Int32.ofNat f0)), .val (.int (3 : Int32)), .val (.int (RR (f0 + 2)))] [(.int (1 : Int32))])) (fun tt_ kk_ => XS.goto X844.here hx rfl (pc0 := 479) (pc' := 483) rfl (hb hby at_479) (by decide) (by decide) kk_) ?_
          refine Gq.retI X844 hx Bd.notSynchronized Bd.returns (by simp) (hb hby at_483) rfl (by decide) (by decide) ?_
          show Q0 Z x0 x1 x2 x3 x4 x5 d0 fd h0 n0 _ T844.heap _
          rw [eh844]
          exact ⟨rfl, N844⟩
    · refine Gq.go (T844.setTop (mkF m 423 #[.val (.int x0), .val (.int x1), .val (.int x2), .val (.int x3), .val (.int x4), .val (.int x5), .val (.int (Int32.ofNat t)), .val (.int (Int32.ofNat u0)), .val (.int (Int32.ofNat u1)), .val (.int (Int32.ofNat u2)), .val (.ref b1), .val (.ref b95), .val (.ref b177), .val (.ref b229), .val (.int (x4 &&& (2147483632 : Int32))), .val (.ref b526), .val (.int (own_rf B RR x1 3 f0)), .val (.int (Int32.ofNat f0)), .val (.int (3 : Int32)), .val (.int (-1 : Int32))] [])) (fun tt_ kk_ => XS.icmpYes X844.here hx rfl (pc0 := 411) (pc' := 423) rfl (hb hby at_411) rfl (feq hb2).2 (by decide) (by decide) kk_) ?_
      refine Gq.go (T844.setTop (mkF m 425 #[.val (.int x0), .val (.int x1), .val (.int x2), .val (.int x3), .val (.int x4), .val (.int x5), .val (.int (Int32.ofNat t)), .val (.int (Int32.ofNat u0)), .val (.int (Int32.ofNat u1)), .val (.int (Int32.ofNat u2)), .val (.ref b1), .val (.ref b95), .val (.ref b177), .val (.ref b229), .val (.int (x4 &&& (2147483632 : Int32))), .val (.ref b526), .val (.int (own_rf B RR x1 3 f0)), .val (.int (Int32.ofNat f0)), .val (.int (3 : Int32)), .val (.int (-1 : Int32))] [(.int (3 : Int32))])) (fun tt_ kk_ => XS.iload X844.here hx rfl (hb hby at_423) rfl kk_) ?_
      refine Gq.go (T844.setTop (mkF m 426 #[.val (.int x0), .val (.int x1), .val (.int x2), .val (.int x3), .val (.int x4), .val (.int x5), .val (.int (Int32.ofNat t)), .val (.int (Int32.ofNat u0)), .val (.int (Int32.ofNat u1)), .val (.int (Int32.ofNat u2)), .val (.ref b1), .val (.ref b95), .val (.ref b177), .val (.ref b229), .val (.int (x4 &&& (2147483632 : Int32))), .val (.ref b526), .val (.int (own_rf B RR x1 3 f0)), .val (.int (Int32.ofNat f0)), .val (.int (3 : Int32)), .val (.int (-1 : Int32))] [(.int (2 : Int32)), (.int (3 : Int32))])) (fun tt_ kk_ => XS.iconst X844.here hx rfl (hb hby at_425) kk_) ?_
      refine Gq.go (T844.setTop (mkF m 429 #[.val (.int x0), .val (.int x1), .val (.int x2), .val (.int x3), .val (.int x4), .val (.int x5), .val (.int (Int32.ofNat t)), .val (.int (Int32.ofNat u0)), .val (.int (Int32.ofNat u1)), .val (.int (Int32.ofNat u2)), .val (.ref b1), .val (.ref b95), .val (.ref b177), .val (.ref b229), .val (.int (x4 &&& (2147483632 : Int32))), .val (.ref b526), .val (.int (own_rf B RR x1 3 f0)), .val (.int (Int32.ofNat f0)), .val (.int (3 : Int32)), .val (.int (-1 : Int32))] [])) (fun tt_ kk_ => XS.icmpNo X844.here hx rfl (hb hby at_426) rfl (flt (by decide : ¬ ((3 : Int32) < (2 : Int32)))).1 kk_) ?_
      refine Gq.go (T844.setTop (mkF m 431 #[.val (.int x0), .val (.int x1), .val (.int x2), .val (.int x3), .val (.int x4), .val (.int x5), .val (.int (Int32.ofNat t)), .val (.int (Int32.ofNat u0)), .val (.int (Int32.ofNat u1)), .val (.int (Int32.ofNat u2)), .val (.ref b1), .val (.ref b95), .val (.ref b177), .val (.ref b229), .val (.int (x4 &&& (2147483632 : Int32))), .val (.ref b526), .val (.int (own_rf B RR x1 3 f0)), .val (.int (Int32.ofNat f0)), .val (.int (3 : Int32)), .val (.int (-1 : Int32))] [(.ref b229)])) (fun tt_ kk_ => XS.aload X844.here hx rfl (hb hby at_429) rfl rfl kk_) ?_
      refine Gq.go (T844.setTop (mkF m 433 #[.val (.int x0), .val (.int x1), .val (.int x2), .val (.int x3), .val (.int x4), .val (.int x5), .val (.int (Int32.ofNat t)), .val (.int (Int32.ofNat u0)), .val (.int (Int32.ofNat u1)), .val (.int (Int32.ofNat u2)), .val (.ref b1), .val (.ref b95), .val (.ref b177), .val (.ref b229), .val (.int (x4 &&& (2147483632 : Int32))), .val (.ref b526), .val (.int (own_rf B RR x1 3 f0)), .val (.int (Int32.ofNat f0)), .val (.int (3 : Int32)), .val (.int (-1 : Int32))] [(.int (Int32.ofNat f0)), (.ref b229)])) (fun tt_ kk_ => XS.iload X844.here hx rfl (hb hby at_431) rfl kk_) ?_
      refine Gq.go (T844.setTop (mkF m 434 #[.val (.int x0), .val (.int x1), .val (.int x2), .val (.int x3), .val (.int x4), .val (.int x5), .val (.int (Int32.ofNat t)), .val (.int (Int32.ofNat u0)), .val (.int (Int32.ofNat u1)), .val (.int (Int32.ofNat u2)), .val (.ref b1), .val (.ref b95), .val (.ref b177), .val (.ref b229), .val (.int (x4 &&& (2147483632 : Int32))), .val (.ref b526), .val (.int (own_rf B RR x1 3 f0)), .val (.int (Int32.ofNat f0)), .val (.int (3 : Int32)), .val (.int (-1 : Int32))] [(.int (1 : Int32)), (.int (Int32.ofNat f0)), (.ref b229)])) (fun tt_ kk_ => XS.iconst X844.here hx rfl (hb hby at_433) kk_) ?_
      refine Gq.go (T844.setTop (mkF m 435 #[.val (.int x0), .val (.int x1), .val (.int x2), .val (.int x3), .val (.int x4), .val (.int x5), .val (.int (Int32.ofNat t)), .val (.int (Int32.ofNat u0)), .val (.int (Int32.ofNat u1)), .val (.int (Int32.ofNat u2)), .val (.ref b1), .val (.ref b95), .val (.ref b177), .val (.ref b229), .val (.int (x4 &&& (2147483632 : Int32))), .val (.ref b526), .val (.int (own_rf B RR x1 3 f0)), .val (.int (Int32.ofNat f0)), .val (.int (3 : Int32)), .val (.int (-1 : Int32))] [(.int ((Int32.ofNat f0) + (1 : Int32))), (.ref b229)])) (fun tt_ kk_ => XS.iadd X844.here hx rfl (hb hby at_434) rfl kk_) ?_
      rw [show ((Int32.ofNat f0) + (1 : Int32)) = (Int32.ofNat (f0 + 1)) from own_add f0 1]
      refine Gq.go (T844.setTop (mkF m 436 #[.val (.int x0), .val (.int x1), .val (.int x2), .val (.int x3), .val (.int x4), .val (.int x5), .val (.int (Int32.ofNat t)), .val (.int (Int32.ofNat u0)), .val (.int (Int32.ofNat u1)), .val (.int (Int32.ofNat u2)), .val (.ref b1), .val (.ref b95), .val (.ref b177), .val (.ref b229), .val (.int (x4 &&& (2147483632 : Int32))), .val (.ref b526), .val (.int (own_rf B RR x1 3 f0)), .val (.int (Int32.ofNat f0)), .val (.int (3 : Int32)), .val (.int (-1 : Int32))] [(.int (B (f0 + 1)))])) (fun tt_ kk_ => ldI X844 hx hZ eh844 VB (j := (Int32.ofNat (f0 + 1))) (i := (f0 + 1)) (x := (B (f0 + 1))) (own_nn (by omega)) (own_nc (by omega)) (by omega) rfl (hb hby at_435) tt_ kk_) ?_
      refine Gq.go (T844.setTop (mkF m 437 #[.val (.int x0), .val (.int x1), .val (.int x2), .val (.int x3), .val (.int x4), .val (.int x5), .val (.int (Int32.ofNat t)), .val (.int (Int32.ofNat u0)), .val (.int (Int32.ofNat u1)), .val (.int (Int32.ofNat u2)), .val (.ref b1), .val (.ref b95), .val (.ref b177), .val (.ref b229), .val (.int (x4 &&& (2147483632 : Int32))), .val (.ref b526), .val (.int (own_rf B RR x1 3 f0)), .val (.int (Int32.ofNat f0)), .val (.int (3 : Int32)), .val (.int (-1 : Int32))] [(.int x1), (.int (B (f0 + 1)))])) (fun tt_ kk_ => XS.iloadN X844.here hx rfl (hb hby at_436) rfl kk_) ?_
      by_cases hb1 : (B (f0 + 1)) = x1
      · refine Gq.go (T844.setTop (mkF m 440 #[.val (.int x0), .val (.int x1), .val (.int x2), .val (.int x3), .val (.int x4), .val (.int x5), .val (.int (Int32.ofNat t)), .val (.int (Int32.ofNat u0)), .val (.int (Int32.ofNat u1)), .val (.int (Int32.ofNat u2)), .val (.ref b1), .val (.ref b95), .val (.ref b177), .val (.ref b229), .val (.int (x4 &&& (2147483632 : Int32))), .val (.ref b526), .val (.int (own_rf B RR x1 3 f0)), .val (.int (Int32.ofNat f0)), .val (.int (3 : Int32)), .val (.int (-1 : Int32))] [])) (fun tt_ kk_ => XS.icmpNo X844.here hx rfl (hb hby at_437) rfl (teq hb1).2 kk_) ?_
        refine Gq.go (T844.setTop (mkF m 442 #[.val (.int x0), .val (.int x1), .val (.int x2), .val (.int x3), .val (.int x4), .val (.int x5), .val (.int (Int32.ofNat t)), .val (.int (Int32.ofNat u0)), .val (.int (Int32.ofNat u1)), .val (.int (Int32.ofNat u2)), .val (.ref b1), .val (.ref b95), .val (.ref b177), .val (.ref b229), .val (.int (x4 &&& (2147483632 : Int32))), .val (.ref b526), .val (.int (own_rf B RR x1 3 f0)), .val (.int (Int32.ofNat f0)), .val (.int (3 : Int32)), .val (.int (-1 : Int32))] [(.ref b526)])) (fun tt_ kk_ => XS.aload X844.here hx rfl (hb hby at_440) rfl rfl kk_) ?_
        refine Gq.go (T844.setTop (mkF m 444 #[.val (.int x0), .val (.int x1), .val (.int x2), .val (.int x3), .val (.int x4), .val (.int x5), .val (.int (Int32.ofNat t)), .val (.int (Int32.ofNat u0)), .val (.int (Int32.ofNat u1)), .val (.int (Int32.ofNat u2)), .val (.ref b1), .val (.ref b95), .val (.ref b177), .val (.ref b229), .val (.int (x4 &&& (2147483632 : Int32))), .val (.ref b526), .val (.int (own_rf B RR x1 3 f0)), .val (.int (Int32.ofNat f0)), .val (.int (3 : Int32)), .val (.int (-1 : Int32))] [(.int (Int32.ofNat f0)), (.ref b526)])) (fun tt_ kk_ => XS.iload X844.here hx rfl (hb hby at_442) rfl kk_) ?_
        refine Gq.go (T844.setTop (mkF m 445 #[.val (.int x0), .val (.int x1), .val (.int x2), .val (.int x3), .val (.int x4), .val (.int x5), .val (.int (Int32.ofNat t)), .val (.int (Int32.ofNat u0)), .val (.int (Int32.ofNat u1)), .val (.int (Int32.ofNat u2)), .val (.ref b1), .val (.ref b95), .val (.ref b177), .val (.ref b229), .val (.int (x4 &&& (2147483632 : Int32))), .val (.ref b526), .val (.int (own_rf B RR x1 3 f0)), .val (.int (Int32.ofNat f0)), .val (.int (3 : Int32)), .val (.int (-1 : Int32))] [(.int (1 : Int32)), (.int (Int32.ofNat f0)), (.ref b526)])) (fun tt_ kk_ => XS.iconst X844.here hx rfl (hb hby at_444) kk_) ?_
        refine Gq.go (T844.setTop (mkF m 446 #[.val (.int x0), .val (.int x1), .val (.int x2), .val (.int x3), .val (.int x4), .val (.int x5), .val (.int (Int32.ofNat t)), .val (.int (Int32.ofNat u0)), .val (.int (Int32.ofNat u1)), .val (.int (Int32.ofNat u2)), .val (.ref b1), .val (.ref b95), .val (.ref b177), .val (.ref b229), .val (.int (x4 &&& (2147483632 : Int32))), .val (.ref b526), .val (.int (own_rf B RR x1 3 f0)), .val (.int (Int32.ofNat f0)), .val (.int (3 : Int32)), .val (.int (-1 : Int32))] [(.int ((Int32.ofNat f0) + (1 : Int32))), (.ref b526)])) (fun tt_ kk_ => XS.iadd X844.here hx rfl (hb hby at_445) rfl kk_) ?_
        rw [show ((Int32.ofNat f0) + (1 : Int32)) = (Int32.ofNat (f0 + 1)) from own_add f0 1]
        refine Gq.go (T844.setTop (mkF m 447 #[.val (.int x0), .val (.int x1), .val (.int x2), .val (.int x3), .val (.int x4), .val (.int x5), .val (.int (Int32.ofNat t)), .val (.int (Int32.ofNat u0)), .val (.int (Int32.ofNat u1)), .val (.int (Int32.ofNat u2)), .val (.ref b1), .val (.ref b95), .val (.ref b177), .val (.ref b229), .val (.int (x4 &&& (2147483632 : Int32))), .val (.ref b526), .val (.int (own_rf B RR x1 3 f0)), .val (.int (Int32.ofNat f0)), .val (.int (3 : Int32)), .val (.int (-1 : Int32))] [(.int (RR (f0 + 1)))])) (fun tt_ kk_ => ldI X844 hx hZ eh844 VR (j := (Int32.ofNat (f0 + 1))) (i := (f0 + 1)) (x := (RR (f0 + 1))) (own_nn (by omega)) (own_nc (by omega)) (by omega) rfl (hb hby at_446) tt_ kk_) ?_
        refine Gq.go (T844.setTop (mkF m 449 #[.val (.int x0), .val (.int x1), .val (.int x2), .val (.int x3), .val (.int x4), .val (.int x5), .val (.int (Int32.ofNat t)), .val (.int (Int32.ofNat u0)), .val (.int (Int32.ofNat u1)), .val (.int (Int32.ofNat u2)), .val (.ref b1), .val (.ref b95), .val (.ref b177), .val (.ref b229), .val (.int (x4 &&& (2147483632 : Int32))), .val (.ref b526), .val (.int (own_rf B RR x1 3 f0)), .val (.int (Int32.ofNat f0)), .val (.int (3 : Int32)), .val (.int (RR (f0 + 1)))] [])) (fun tt_ kk_ => XS.istore X844.here hx rfl (hb hby at_447) rfl (l' := #[.val (.int x0), .val (.int x1), .val (.int x2), .val (.int x3), .val (.int x4), .val (.int x5), .val (.int (Int32.ofNat t)), .val (.int (Int32.ofNat u0)), .val (.int (Int32.ofNat u1)), .val (.int (Int32.ofNat u2)), .val (.ref b1), .val (.ref b95), .val (.ref b177), .val (.ref b229), .val (.int (x4 &&& (2147483632 : Int32))), .val (.ref b526), .val (.int (own_rf B RR x1 3 f0)), .val (.int (Int32.ofNat f0)), .val (.int (3 : Int32)), .val (.int (RR (f0 + 1)))]) rfl kk_) ?_
        refine Gq.go (T844.setTop (mkF m 451 #[.val (.int x0), .val (.int x1), .val (.int x2), .val (.int x3), .val (.int x4), .val (.int x5), .val (.int (Int32.ofNat t)), .val (.int (Int32.ofNat u0)), .val (.int (Int32.ofNat u1)), .val (.int (Int32.ofNat u2)), .val (.ref b1), .val (.ref b95), .val (.ref b177), .val (.ref b229), .val (.int (x4 &&& (2147483632 : Int32))), .val (.ref b526), .val (.int (own_rf B RR x1 3 f0)), .val (.int (Int32.ofNat f0)), .val (.int (3 : Int32)), .val (.int (RR (f0 + 1)))] [(.int (3 : Int32))])) (fun tt_ kk_ => XS.iload X844.here hx rfl (hb hby at_449) rfl kk_) ?_
        refine Gq.go (T844.setTop (mkF m 452 #[.val (.int x0), .val (.int x1), .val (.int x2), .val (.int x3), .val (.int x4), .val (.int x5), .val (.int (Int32.ofNat t)), .val (.int (Int32.ofNat u0)), .val (.int (Int32.ofNat u1)), .val (.int (Int32.ofNat u2)), .val (.ref b1), .val (.ref b95), .val (.ref b177), .val (.ref b229), .val (.int (x4 &&& (2147483632 : Int32))), .val (.ref b526), .val (.int (own_rf B RR x1 3 f0)), .val (.int (Int32.ofNat f0)), .val (.int (3 : Int32)), .val (.int (RR (f0 + 1)))] [(.int (1 : Int32)), (.int (3 : Int32))])) (fun tt_ kk_ => XS.iconst X844.here hx rfl (hb hby at_451) kk_) ?_
        refine Gq.go (T844.setTop (mkF m 455 #[.val (.int x0), .val (.int x1), .val (.int x2), .val (.int x3), .val (.int x4), .val (.int x5), .val (.int (Int32.ofNat t)), .val (.int (Int32.ofNat u0)), .val (.int (Int32.ofNat u1)), .val (.int (Int32.ofNat u2)), .val (.ref b1), .val (.ref b95), .val (.ref b177), .val (.ref b229), .val (.int (x4 &&& (2147483632 : Int32))), .val (.ref b526), .val (.int (own_rf B RR x1 3 f0)), .val (.int (Int32.ofNat f0)), .val (.int (3 : Int32)), .val (.int (RR (f0 + 1)))] [])) (fun tt_ kk_ => XS.icmpNo X844.here hx rfl (hb hby at_452) rfl (flt (by decide : ¬ ((3 : Int32) < (1 : Int32)))).1 kk_) ?_
        refine Gq.go (T844.setTop (mkF m 457 #[.val (.int x0), .val (.int x1), .val (.int x2), .val (.int x3), .val (.int x4), .val (.int x5), .val (.int (Int32.ofNat t)), .val (.int (Int32.ofNat u0)), .val (.int (Int32.ofNat u1)), .val (.int (Int32.ofNat u2)), .val (.ref b1), .val (.ref b95), .val (.ref b177), .val (.ref b229), .val (.int (x4 &&& (2147483632 : Int32))), .val (.ref b526), .val (.int (own_rf B RR x1 3 f0)), .val (.int (Int32.ofNat f0)), .val (.int (3 : Int32)), .val (.int (RR (f0 + 1)))] [(.ref b229)])) (fun tt_ kk_ => XS.aload X844.here hx rfl (hb hby at_455) rfl rfl kk_) ?_
        refine Gq.go (T844.setTop (mkF m 459 #[.val (.int x0), .val (.int x1), .val (.int x2), .val (.int x3), .val (.int x4), .val (.int x5), .val (.int (Int32.ofNat t)), .val (.int (Int32.ofNat u0)), .val (.int (Int32.ofNat u1)), .val (.int (Int32.ofNat u2)), .val (.ref b1), .val (.ref b95), .val (.ref b177), .val (.ref b229), .val (.int (x4 &&& (2147483632 : Int32))), .val (.ref b526), .val (.int (own_rf B RR x1 3 f0)), .val (.int (Int32.ofNat f0)), .val (.int (3 : Int32)), .val (.int (RR (f0 + 1)))] [(.int (Int32.ofNat f0)), (.ref b229)])) (fun tt_ kk_ => XS.iload X844.here hx rfl (hb hby at_457) rfl kk_) ?_
        refine Gq.go (T844.setTop (mkF m 460 #[.val (.int x0), .val (.int x1), .val (.int x2), .val (.int x3), .val (.int x4), .val (.int x5), .val (.int (Int32.ofNat t)), .val (.int (Int32.ofNat u0)), .val (.int (Int32.ofNat u1)), .val (.int (Int32.ofNat u2)), .val (.ref b1), .val (.ref b95), .val (.ref b177), .val (.ref b229), .val (.int (x4 &&& (2147483632 : Int32))), .val (.ref b526), .val (.int (own_rf B RR x1 3 f0)), .val (.int (Int32.ofNat f0)), .val (.int (3 : Int32)), .val (.int (RR (f0 + 1)))] [(.int (B f0))])) (fun tt_ kk_ => ldI X844 hx hZ eh844 VB (j := (Int32.ofNat f0)) (i := f0) (x := (B f0)) (own_nn (by omega)) (own_nc (by omega)) (by omega) rfl (hb hby at_459) tt_ kk_) ?_
        refine Gq.go (T844.setTop (mkF m 461 #[.val (.int x0), .val (.int x1), .val (.int x2), .val (.int x3), .val (.int x4), .val (.int x5), .val (.int (Int32.ofNat t)), .val (.int (Int32.ofNat u0)), .val (.int (Int32.ofNat u1)), .val (.int (Int32.ofNat u2)), .val (.ref b1), .val (.ref b95), .val (.ref b177), .val (.ref b229), .val (.int (x4 &&& (2147483632 : Int32))), .val (.ref b526), .val (.int (own_rf B RR x1 3 f0)), .val (.int (Int32.ofNat f0)), .val (.int (3 : Int32)), .val (.int (RR (f0 + 1)))] [(.int x1), (.int (B f0))])) (fun tt_ kk_ => XS.iloadN X844.here hx rfl (hb hby at_460) rfl kk_) ?_
        by_cases hb0 : (B f0) = x1
        · refine Gq.go (T844.setTop (mkF m 464 #[.val (.int x0), .val (.int x1), .val (.int x2), .val (.int x3), .val (.int x4), .val (.int x5), .val (.int (Int32.ofNat t)), .val (.int (Int32.ofNat u0)), .val (.int (Int32.ofNat u1)), .val (.int (Int32.ofNat u2)), .val (.ref b1), .val (.ref b95), .val (.ref b177), .val (.ref b229), .val (.int (x4 &&& (2147483632 : Int32))), .val (.ref b526), .val (.int (own_rf B RR x1 3 f0)), .val (.int (Int32.ofNat f0)), .val (.int (3 : Int32)), .val (.int (RR (f0 + 1)))] [])) (fun tt_ kk_ => XS.icmpNo X844.here hx rfl (hb hby at_461) rfl (teq hb0).2 kk_) ?_
          refine Gq.go (T844.setTop (mkF m 466 #[.val (.int x0), .val (.int x1), .val (.int x2), .val (.int x3), .val (.int x4), .val (.int x5), .val (.int (Int32.ofNat t)), .val (.int (Int32.ofNat u0)), .val (.int (Int32.ofNat u1)), .val (.int (Int32.ofNat u2)), .val (.ref b1), .val (.ref b95), .val (.ref b177), .val (.ref b229), .val (.int (x4 &&& (2147483632 : Int32))), .val (.ref b526), .val (.int (own_rf B RR x1 3 f0)), .val (.int (Int32.ofNat f0)), .val (.int (3 : Int32)), .val (.int (RR (f0 + 1)))] [(.ref b526)])) (fun tt_ kk_ => XS.aload X844.here hx rfl (hb hby at_464) rfl rfl kk_) ?_
          refine Gq.go (T844.setTop (mkF m 468 #[.val (.int x0), .val (.int x1), .val (.int x2), .val (.int x3), .val (.int x4), .val (.int x5), .val (.int (Int32.ofNat t)), .val (.int (Int32.ofNat u0)), .val (.int (Int32.ofNat u1)), .val (.int (Int32.ofNat u2)), .val (.ref b1), .val (.ref b95), .val (.ref b177), .val (.ref b229), .val (.int (x4 &&& (2147483632 : Int32))), .val (.ref b526), .val (.int (own_rf B RR x1 3 f0)), .val (.int (Int32.ofNat f0)), .val (.int (3 : Int32)), .val (.int (RR (f0 + 1)))] [(.int (Int32.ofNat f0)), (.ref b526)])) (fun tt_ kk_ => XS.iload X844.here hx rfl (hb hby at_466) rfl kk_) ?_
          refine Gq.go (T844.setTop (mkF m 469 #[.val (.int x0), .val (.int x1), .val (.int x2), .val (.int x3), .val (.int x4), .val (.int x5), .val (.int (Int32.ofNat t)), .val (.int (Int32.ofNat u0)), .val (.int (Int32.ofNat u1)), .val (.int (Int32.ofNat u2)), .val (.ref b1), .val (.ref b95), .val (.ref b177), .val (.ref b229), .val (.int (x4 &&& (2147483632 : Int32))), .val (.ref b526), .val (.int (own_rf B RR x1 3 f0)), .val (.int (Int32.ofNat f0)), .val (.int (3 : Int32)), .val (.int (RR (f0 + 1)))] [(.int (RR f0))])) (fun tt_ kk_ => ldI X844 hx hZ eh844 VR (j := (Int32.ofNat f0)) (i := f0) (x := (RR f0)) (own_nn (by omega)) (own_nc (by omega)) (by omega) rfl (hb hby at_468) tt_ kk_) ?_
          refine Gq.go (T844.setTop (mkF m 471 #[.val (.int x0), .val (.int x1), .val (.int x2), .val (.int x3), .val (.int x4), .val (.int x5), .val (.int (Int32.ofNat t)), .val (.int (Int32.ofNat u0)), .val (.int (Int32.ofNat u1)), .val (.int (Int32.ofNat u2)), .val (.ref b1), .val (.ref b95), .val (.ref b177), .val (.ref b229), .val (.int (x4 &&& (2147483632 : Int32))), .val (.ref b526), .val (.int (own_rf B RR x1 3 f0)), .val (.int (Int32.ofNat f0)), .val (.int (3 : Int32)), .val (.int (RR f0))] [])) (fun tt_ kk_ => XS.istore X844.here hx rfl (hb hby at_469) rfl (l' := #[.val (.int x0), .val (.int x1), .val (.int x2), .val (.int x3), .val (.int x4), .val (.int x5), .val (.int (Int32.ofNat t)), .val (.int (Int32.ofNat u0)), .val (.int (Int32.ofNat u1)), .val (.int (Int32.ofNat u2)), .val (.ref b1), .val (.ref b95), .val (.ref b177), .val (.ref b229), .val (.int (x4 &&& (2147483632 : Int32))), .val (.ref b526), .val (.int (own_rf B RR x1 3 f0)), .val (.int (Int32.ofNat f0)), .val (.int (3 : Int32)), .val (.int (RR f0))]) rfl kk_) ?_
          refine Gq.go (T844.setTop (mkF m 473 #[.val (.int x0), .val (.int x1), .val (.int x2), .val (.int x3), .val (.int x4), .val (.int x5), .val (.int (Int32.ofNat t)), .val (.int (Int32.ofNat u0)), .val (.int (Int32.ofNat u1)), .val (.int (Int32.ofNat u2)), .val (.ref b1), .val (.ref b95), .val (.ref b177), .val (.ref b229), .val (.int (x4 &&& (2147483632 : Int32))), .val (.ref b526), .val (.int (own_rf B RR x1 3 f0)), .val (.int (Int32.ofNat f0)), .val (.int (3 : Int32)), .val (.int (RR f0))] [(.int (own_rf B RR x1 3 f0))])) (fun tt_ kk_ => XS.iload X844.here hx rfl (hb hby at_471) rfl kk_) ?_
          refine Gq.go (T844.setTop (mkF m 475 #[.val (.int x0), .val (.int x1), .val (.int x2), .val (.int x3), .val (.int x4), .val (.int x5), .val (.int (Int32.ofNat t)), .val (.int (Int32.ofNat u0)), .val (.int (Int32.ofNat u1)), .val (.int (Int32.ofNat u2)), .val (.ref b1), .val (.ref b95), .val (.ref b177), .val (.ref b229), .val (.int (x4 &&& (2147483632 : Int32))), .val (.ref b526), .val (.int (own_rf B RR x1 3 f0)), .val (.int (Int32.ofNat f0)), .val (.int (3 : Int32)), .val (.int (RR f0))] [(.int (RR f0)), (.int (own_rf B RR x1 3 f0))])) (fun tt_ kk_ => XS.iload X844.here hx rfl (hb hby at_473) rfl kk_) ?_
          refine Gq.go (T844.setTop (mkF m 478 #[.val (.int x0), .val (.int x1), .val (.int x2), .val (.int x3), .val (.int x4), .val (.int x5), .val (.int (Int32.ofNat t)), .val (.int (Int32.ofNat u0)), .val (.int (Int32.ofNat u1)), .val (.int (Int32.ofNat u2)), .val (.ref b1), .val (.ref b95), .val (.ref b177), .val (.ref b229), .val (.int (x4 &&& (2147483632 : Int32))), .val (.ref b526), .val (.int (own_rf B RR x1 3 f0)), .val (.int (Int32.ofNat f0)), .val (.int (3 : Int32)), .val (.int (RR f0))] [])) (fun tt_ kk_ => XS.icmpNo X844.here hx rfl (hb hby at_475) rfl (teq (show (if B (f0) = x1 then RR (f0) else (if B (f0 + 1) = x1 then RR (f0 + 1) else (if B (f0 + 2) = x1 then RR (f0 + 2) else (-1 : Int32)))) = (RR f0) by rw [if_pos hb0])).2 kk_) ?_
          refine Gq.go (T844.setTop (mkF m 479 #[.val (.int x0), .val (.int x1), .val (.int x2), .val (.int x3), .val (.int x4), .val (.int x5), .val (.int (Int32.ofNat t)), .val (.int (Int32.ofNat u0)), .val (.int (Int32.ofNat u1)), .val (.int (Int32.ofNat u2)), .val (.ref b1), .val (.ref b95), .val (.ref b177), .val (.ref b229), .val (.int (x4 &&& (2147483632 : Int32))), .val (.ref b526), .val (.int (own_rf B RR x1 3 f0)), .val (.int (Int32.ofNat f0)), .val (.int (3 : Int32)), .val (.int (RR f0))] [(.int (1 : Int32))])) (fun tt_ kk_ => XS.iconst X844.here hx rfl (hb hby at_478) kk_) ?_
          refine Gq.go (T844.setTop (mkF m 483 #[.val (.int x0), .val (.int x1), .val (.int x2), .val (.int x3), .val (.int x4), .val (.int x5), .val (.int (Int32.ofNat t)), .val (.int (Int32.ofNat u0)), .val (.int (Int32.ofNat u1)), .val (.int (Int32.ofNat u2)), .val (.ref b1), .val (.ref b95), .val (.ref b177), .val (.ref b229), .val (.int (x4 &&& (2147483632 : Int32))), .val (.ref b526), .val (.int (own_rf B RR x1 3 f0)), .val (.int (Int32.ofNat f0)), .val (.int (3 : Int32)), .val (.int (RR f0))] [(.int (1 : Int32))])) (fun tt_ kk_ => XS.goto X844.here hx rfl (pc0 := 479) (pc' := 483) rfl (hb hby at_479) (by decide) (by decide) kk_) ?_
          refine Gq.retI X844 hx Bd.notSynchronized Bd.returns (by simp) (hb hby at_483) rfl (by decide) (by decide) ?_
          show Q0 Z x0 x1 x2 x3 x4 x5 d0 fd h0 n0 _ T844.heap _
          rw [eh844]
          exact ⟨rfl, N844⟩
        · refine Gq.go (T844.setTop (mkF m 471 #[.val (.int x0), .val (.int x1), .val (.int x2), .val (.int x3), .val (.int x4), .val (.int x5), .val (.int (Int32.ofNat t)), .val (.int (Int32.ofNat u0)), .val (.int (Int32.ofNat u1)), .val (.int (Int32.ofNat u2)), .val (.ref b1), .val (.ref b95), .val (.ref b177), .val (.ref b229), .val (.int (x4 &&& (2147483632 : Int32))), .val (.ref b526), .val (.int (own_rf B RR x1 3 f0)), .val (.int (Int32.ofNat f0)), .val (.int (3 : Int32)), .val (.int (RR (f0 + 1)))] [])) (fun tt_ kk_ => XS.icmpYes X844.here hx rfl (pc0 := 461) (pc' := 471) rfl (hb hby at_461) rfl (feq hb0).2 (by decide) (by decide) kk_) ?_
          refine Gq.go (T844.setTop (mkF m 473 #[.val (.int x0), .val (.int x1), .val (.int x2), .val (.int x3), .val (.int x4), .val (.int x5), .val (.int (Int32.ofNat t)), .val (.int (Int32.ofNat u0)), .val (.int (Int32.ofNat u1)), .val (.int (Int32.ofNat u2)), .val (.ref b1), .val (.ref b95), .val (.ref b177), .val (.ref b229), .val (.int (x4 &&& (2147483632 : Int32))), .val (.ref b526), .val (.int (own_rf B RR x1 3 f0)), .val (.int (Int32.ofNat f0)), .val (.int (3 : Int32)), .val (.int (RR (f0 + 1)))] [(.int (own_rf B RR x1 3 f0))])) (fun tt_ kk_ => XS.iload X844.here hx rfl (hb hby at_471) rfl kk_) ?_
          refine Gq.go (T844.setTop (mkF m 475 #[.val (.int x0), .val (.int x1), .val (.int x2), .val (.int x3), .val (.int x4), .val (.int x5), .val (.int (Int32.ofNat t)), .val (.int (Int32.ofNat u0)), .val (.int (Int32.ofNat u1)), .val (.int (Int32.ofNat u2)), .val (.ref b1), .val (.ref b95), .val (.ref b177), .val (.ref b229), .val (.int (x4 &&& (2147483632 : Int32))), .val (.ref b526), .val (.int (own_rf B RR x1 3 f0)), .val (.int (Int32.ofNat f0)), .val (.int (3 : Int32)), .val (.int (RR (f0 + 1)))] [(.int (RR (f0 + 1))), (.int (own_rf B RR x1 3 f0))])) (fun tt_ kk_ => XS.iload X844.here hx rfl (hb hby at_473) rfl kk_) ?_
          refine Gq.go (T844.setTop (mkF m 478 #[.val (.int x0), .val (.int x1), .val (.int x2), .val (.int x3), .val (.int x4), .val (.int x5), .val (.int (Int32.ofNat t)), .val (.int (Int32.ofNat u0)), .val (.int (Int32.ofNat u1)), .val (.int (Int32.ofNat u2)), .val (.ref b1), .val (.ref b95), .val (.ref b177), .val (.ref b229), .val (.int (x4 &&& (2147483632 : Int32))), .val (.ref b526), .val (.int (own_rf B RR x1 3 f0)), .val (.int (Int32.ofNat f0)), .val (.int (3 : Int32)), .val (.int (RR (f0 + 1)))] [])) (fun tt_ kk_ => XS.icmpNo X844.here hx rfl (hb hby at_475) rfl (teq (show (if B (f0) = x1 then RR (f0) else (if B (f0 + 1) = x1 then RR (f0 + 1) else (if B (f0 + 2) = x1 then RR (f0 + 2) else (-1 : Int32)))) = (RR (f0 + 1)) by rw [if_neg hb0, if_pos hb1])).2 kk_) ?_
          refine Gq.go (T844.setTop (mkF m 479 #[.val (.int x0), .val (.int x1), .val (.int x2), .val (.int x3), .val (.int x4), .val (.int x5), .val (.int (Int32.ofNat t)), .val (.int (Int32.ofNat u0)), .val (.int (Int32.ofNat u1)), .val (.int (Int32.ofNat u2)), .val (.ref b1), .val (.ref b95), .val (.ref b177), .val (.ref b229), .val (.int (x4 &&& (2147483632 : Int32))), .val (.ref b526), .val (.int (own_rf B RR x1 3 f0)), .val (.int (Int32.ofNat f0)), .val (.int (3 : Int32)), .val (.int (RR (f0 + 1)))] [(.int (1 : Int32))])) (fun tt_ kk_ => XS.iconst X844.here hx rfl (hb hby at_478) kk_) ?_
          refine Gq.go (T844.setTop (mkF m 483 #[.val (.int x0), .val (.int x1), .val (.int x2), .val (.int x3), .val (.int x4), .val (.int x5), .val (.int (Int32.ofNat t)), .val (.int (Int32.ofNat u0)), .val (.int (Int32.ofNat u1)), .val (.int (Int32.ofNat u2)), .val (.ref b1), .val (.ref b95), .val (.ref b177), .val (.ref b229), .val (.int (x4 &&& (2147483632 : Int32))), .val (.ref b526), .val (.int (own_rf B RR x1 3 f0)), .val (.int (Int32.ofNat f0)), .val (.int (3 : Int32)), .val (.int (RR (f0 + 1)))] [(.int (1 : Int32))])) (fun tt_ kk_ => XS.goto X844.here hx rfl (pc0 := 479) (pc' := 483) rfl (hb hby at_479) (by decide) (by decide) kk_) ?_
          refine Gq.retI X844 hx Bd.notSynchronized Bd.returns (by simp) (hb hby at_483) rfl (by decide) (by decide) ?_
          show Q0 Z x0 x1 x2 x3 x4 x5 d0 fd h0 n0 _ T844.heap _
          rw [eh844]
          exact ⟨rfl, N844⟩
      · refine Gq.go (T844.setTop (mkF m 449 #[.val (.int x0), .val (.int x1), .val (.int x2), .val (.int x3), .val (.int x4), .val (.int x5), .val (.int (Int32.ofNat t)), .val (.int (Int32.ofNat u0)), .val (.int (Int32.ofNat u1)), .val (.int (Int32.ofNat u2)), .val (.ref b1), .val (.ref b95), .val (.ref b177), .val (.ref b229), .val (.int (x4 &&& (2147483632 : Int32))), .val (.ref b526), .val (.int (own_rf B RR x1 3 f0)), .val (.int (Int32.ofNat f0)), .val (.int (3 : Int32)), .val (.int (-1 : Int32))] [])) (fun tt_ kk_ => XS.icmpYes X844.here hx rfl (pc0 := 437) (pc' := 449) rfl (hb hby at_437) rfl (feq hb1).2 (by decide) (by decide) kk_) ?_
        refine Gq.go (T844.setTop (mkF m 451 #[.val (.int x0), .val (.int x1), .val (.int x2), .val (.int x3), .val (.int x4), .val (.int x5), .val (.int (Int32.ofNat t)), .val (.int (Int32.ofNat u0)), .val (.int (Int32.ofNat u1)), .val (.int (Int32.ofNat u2)), .val (.ref b1), .val (.ref b95), .val (.ref b177), .val (.ref b229), .val (.int (x4 &&& (2147483632 : Int32))), .val (.ref b526), .val (.int (own_rf B RR x1 3 f0)), .val (.int (Int32.ofNat f0)), .val (.int (3 : Int32)), .val (.int (-1 : Int32))] [(.int (3 : Int32))])) (fun tt_ kk_ => XS.iload X844.here hx rfl (hb hby at_449) rfl kk_) ?_
        refine Gq.go (T844.setTop (mkF m 452 #[.val (.int x0), .val (.int x1), .val (.int x2), .val (.int x3), .val (.int x4), .val (.int x5), .val (.int (Int32.ofNat t)), .val (.int (Int32.ofNat u0)), .val (.int (Int32.ofNat u1)), .val (.int (Int32.ofNat u2)), .val (.ref b1), .val (.ref b95), .val (.ref b177), .val (.ref b229), .val (.int (x4 &&& (2147483632 : Int32))), .val (.ref b526), .val (.int (own_rf B RR x1 3 f0)), .val (.int (Int32.ofNat f0)), .val (.int (3 : Int32)), .val (.int (-1 : Int32))] [(.int (1 : Int32)), (.int (3 : Int32))])) (fun tt_ kk_ => XS.iconst X844.here hx rfl (hb hby at_451) kk_) ?_
        refine Gq.go (T844.setTop (mkF m 455 #[.val (.int x0), .val (.int x1), .val (.int x2), .val (.int x3), .val (.int x4), .val (.int x5), .val (.int (Int32.ofNat t)), .val (.int (Int32.ofNat u0)), .val (.int (Int32.ofNat u1)), .val (.int (Int32.ofNat u2)), .val (.ref b1), .val (.ref b95), .val (.ref b177), .val (.ref b229), .val (.int (x4 &&& (2147483632 : Int32))), .val (.ref b526), .val (.int (own_rf B RR x1 3 f0)), .val (.int (Int32.ofNat f0)), .val (.int (3 : Int32)), .val (.int (-1 : Int32))] [])) (fun tt_ kk_ => XS.icmpNo X844.here hx rfl (hb hby at_452) rfl (flt (by decide : ¬ ((3 : Int32) < (1 : Int32)))).1 kk_) ?_
        refine Gq.go (T844.setTop (mkF m 457 #[.val (.int x0), .val (.int x1), .val (.int x2), .val (.int x3), .val (.int x4), .val (.int x5), .val (.int (Int32.ofNat t)), .val (.int (Int32.ofNat u0)), .val (.int (Int32.ofNat u1)), .val (.int (Int32.ofNat u2)), .val (.ref b1), .val (.ref b95), .val (.ref b177), .val (.ref b229), .val (.int (x4 &&& (2147483632 : Int32))), .val (.ref b526), .val (.int (own_rf B RR x1 3 f0)), .val (.int (Int32.ofNat f0)), .val (.int (3 : Int32)), .val (.int (-1 : Int32))] [(.ref b229)])) (fun tt_ kk_ => XS.aload X844.here hx rfl (hb hby at_455) rfl rfl kk_) ?_
        refine Gq.go (T844.setTop (mkF m 459 #[.val (.int x0), .val (.int x1), .val (.int x2), .val (.int x3), .val (.int x4), .val (.int x5), .val (.int (Int32.ofNat t)), .val (.int (Int32.ofNat u0)), .val (.int (Int32.ofNat u1)), .val (.int (Int32.ofNat u2)), .val (.ref b1), .val (.ref b95), .val (.ref b177), .val (.ref b229), .val (.int (x4 &&& (2147483632 : Int32))), .val (.ref b526), .val (.int (own_rf B RR x1 3 f0)), .val (.int (Int32.ofNat f0)), .val (.int (3 : Int32)), .val (.int (-1 : Int32))] [(.int (Int32.ofNat f0)), (.ref b229)])) (fun tt_ kk_ => XS.iload X844.here hx rfl (hb hby at_457) rfl kk_) ?_
        refine Gq.go (T844.setTop (mkF m 460 #[.val (.int x0), .val (.int x1), .val (.int x2), .val (.int x3), .val (.int x4), .val (.int x5), .val (.int (Int32.ofNat t)), .val (.int (Int32.ofNat u0)), .val (.int (Int32.ofNat u1)), .val (.int (Int32.ofNat u2)), .val (.ref b1), .val (.ref b95), .val (.ref b177), .val (.ref b229), .val (.int (x4 &&& (2147483632 : Int32))), .val (.ref b526), .val (.int (own_rf B RR x1 3 f0)), .val (.int (Int32.ofNat f0)), .val (.int (3 : Int32)), .val (.int (-1 : Int32))] [(.int (B f0))])) (fun tt_ kk_ => ldI X844 hx hZ eh844 VB (j := (Int32.ofNat f0)) (i := f0) (x := (B f0)) (own_nn (by omega)) (own_nc (by omega)) (by omega) rfl (hb hby at_459) tt_ kk_) ?_
        refine Gq.go (T844.setTop (mkF m 461 #[.val (.int x0), .val (.int x1), .val (.int x2), .val (.int x3), .val (.int x4), .val (.int x5), .val (.int (Int32.ofNat t)), .val (.int (Int32.ofNat u0)), .val (.int (Int32.ofNat u1)), .val (.int (Int32.ofNat u2)), .val (.ref b1), .val (.ref b95), .val (.ref b177), .val (.ref b229), .val (.int (x4 &&& (2147483632 : Int32))), .val (.ref b526), .val (.int (own_rf B RR x1 3 f0)), .val (.int (Int32.ofNat f0)), .val (.int (3 : Int32)), .val (.int (-1 : Int32))] [(.int x1), (.int (B f0))])) (fun tt_ kk_ => XS.iloadN X844.here hx rfl (hb hby at_460) rfl kk_) ?_
        by_cases hb0 : (B f0) = x1
        · refine Gq.go (T844.setTop (mkF m 464 #[.val (.int x0), .val (.int x1), .val (.int x2), .val (.int x3), .val (.int x4), .val (.int x5), .val (.int (Int32.ofNat t)), .val (.int (Int32.ofNat u0)), .val (.int (Int32.ofNat u1)), .val (.int (Int32.ofNat u2)), .val (.ref b1), .val (.ref b95), .val (.ref b177), .val (.ref b229), .val (.int (x4 &&& (2147483632 : Int32))), .val (.ref b526), .val (.int (own_rf B RR x1 3 f0)), .val (.int (Int32.ofNat f0)), .val (.int (3 : Int32)), .val (.int (-1 : Int32))] [])) (fun tt_ kk_ => XS.icmpNo X844.here hx rfl (hb hby at_461) rfl (teq hb0).2 kk_) ?_
          refine Gq.go (T844.setTop (mkF m 466 #[.val (.int x0), .val (.int x1), .val (.int x2), .val (.int x3), .val (.int x4), .val (.int x5), .val (.int (Int32.ofNat t)), .val (.int (Int32.ofNat u0)), .val (.int (Int32.ofNat u1)), .val (.int (Int32.ofNat u2)), .val (.ref b1), .val (.ref b95), .val (.ref b177), .val (.ref b229), .val (.int (x4 &&& (2147483632 : Int32))), .val (.ref b526), .val (.int (own_rf B RR x1 3 f0)), .val (.int (Int32.ofNat f0)), .val (.int (3 : Int32)), .val (.int (-1 : Int32))] [(.ref b526)])) (fun tt_ kk_ => XS.aload X844.here hx rfl (hb hby at_464) rfl rfl kk_) ?_
          refine Gq.go (T844.setTop (mkF m 468 #[.val (.int x0), .val (.int x1), .val (.int x2), .val (.int x3), .val (.int x4), .val (.int x5), .val (.int (Int32.ofNat t)), .val (.int (Int32.ofNat u0)), .val (.int (Int32.ofNat u1)), .val (.int (Int32.ofNat u2)), .val (.ref b1), .val (.ref b95), .val (.ref b177), .val (.ref b229), .val (.int (x4 &&& (2147483632 : Int32))), .val (.ref b526), .val (.int (own_rf B RR x1 3 f0)), .val (.int (Int32.ofNat f0)), .val (.int (3 : Int32)), .val (.int (-1 : Int32))] [(.int (Int32.ofNat f0)), (.ref b526)])) (fun tt_ kk_ => XS.iload X844.here hx rfl (hb hby at_466) rfl kk_) ?_
          refine Gq.go (T844.setTop (mkF m 469 #[.val (.int x0), .val (.int x1), .val (.int x2), .val (.int x3), .val (.int x4), .val (.int x5), .val (.int (Int32.ofNat t)), .val (.int (Int32.ofNat u0)), .val (.int (Int32.ofNat u1)), .val (.int (Int32.ofNat u2)), .val (.ref b1), .val (.ref b95), .val (.ref b177), .val (.ref b229), .val (.int (x4 &&& (2147483632 : Int32))), .val (.ref b526), .val (.int (own_rf B RR x1 3 f0)), .val (.int (Int32.ofNat f0)), .val (.int (3 : Int32)), .val (.int (-1 : Int32))] [(.int (RR f0))])) (fun tt_ kk_ => ldI X844 hx hZ eh844 VR (j := (Int32.ofNat f0)) (i := f0) (x := (RR f0)) (own_nn (by omega)) (own_nc (by omega)) (by omega) rfl (hb hby at_468) tt_ kk_) ?_
          refine Gq.go (T844.setTop (mkF m 471 #[.val (.int x0), .val (.int x1), .val (.int x2), .val (.int x3), .val (.int x4), .val (.int x5), .val (.int (Int32.ofNat t)), .val (.int (Int32.ofNat u0)), .val (.int (Int32.ofNat u1)), .val (.int (Int32.ofNat u2)), .val (.ref b1), .val (.ref b95), .val (.ref b177), .val (.ref b229), .val (.int (x4 &&& (2147483632 : Int32))), .val (.ref b526), .val (.int (own_rf B RR x1 3 f0)), .val (.int (Int32.ofNat f0)), .val (.int (3 : Int32)), .val (.int (RR f0))] [])) (fun tt_ kk_ => XS.istore X844.here hx rfl (hb hby at_469) rfl (l' := #[.val (.int x0), .val (.int x1), .val (.int x2), .val (.int x3), .val (.int x4), .val (.int x5), .val (.int (Int32.ofNat t)), .val (.int (Int32.ofNat u0)), .val (.int (Int32.ofNat u1)), .val (.int (Int32.ofNat u2)), .val (.ref b1), .val (.ref b95), .val (.ref b177), .val (.ref b229), .val (.int (x4 &&& (2147483632 : Int32))), .val (.ref b526), .val (.int (own_rf B RR x1 3 f0)), .val (.int (Int32.ofNat f0)), .val (.int (3 : Int32)), .val (.int (RR f0))]) rfl kk_) ?_
          refine Gq.go (T844.setTop (mkF m 473 #[.val (.int x0), .val (.int x1), .val (.int x2), .val (.int x3), .val (.int x4), .val (.int x5), .val (.int (Int32.ofNat t)), .val (.int (Int32.ofNat u0)), .val (.int (Int32.ofNat u1)), .val (.int (Int32.ofNat u2)), .val (.ref b1), .val (.ref b95), .val (.ref b177), .val (.ref b229), .val (.int (x4 &&& (2147483632 : Int32))), .val (.ref b526), .val (.int (own_rf B RR x1 3 f0)), .val (.int (Int32.ofNat f0)), .val (.int (3 : Int32)), .val (.int (RR f0))] [(.int (own_rf B RR x1 3 f0))])) (fun tt_ kk_ => XS.iload X844.here hx rfl (hb hby at_471) rfl kk_) ?_
          refine Gq.go (T844.setTop (mkF m 475 #[.val (.int x0), .val (.int x1), .val (.int x2), .val (.int x3), .val (.int x4), .val (.int x5), .val (.int (Int32.ofNat t)), .val (.int (Int32.ofNat u0)), .val (.int (Int32.ofNat u1)), .val (.int (Int32.ofNat u2)), .val (.ref b1), .val (.ref b95), .val (.ref b177), .val (.ref b229), .val (.int (x4 &&& (2147483632 : Int32))), .val (.ref b526), .val (.int (own_rf B RR x1 3 f0)), .val (.int (Int32.ofNat f0)), .val (.int (3 : Int32)), .val (.int (RR f0))] [(.int (RR f0)), (.int (own_rf B RR x1 3 f0))])) (fun tt_ kk_ => XS.iload X844.here hx rfl (hb hby at_473) rfl kk_) ?_
          refine Gq.go (T844.setTop (mkF m 478 #[.val (.int x0), .val (.int x1), .val (.int x2), .val (.int x3), .val (.int x4), .val (.int x5), .val (.int (Int32.ofNat t)), .val (.int (Int32.ofNat u0)), .val (.int (Int32.ofNat u1)), .val (.int (Int32.ofNat u2)), .val (.ref b1), .val (.ref b95), .val (.ref b177), .val (.ref b229), .val (.int (x4 &&& (2147483632 : Int32))), .val (.ref b526), .val (.int (own_rf B RR x1 3 f0)), .val (.int (Int32.ofNat f0)), .val (.int (3 : Int32)), .val (.int (RR f0))] [])) (fun tt_ kk_ => XS.icmpNo X844.here hx rfl (hb hby at_475) rfl (teq (show (if B (f0) = x1 then RR (f0) else (if B (f0 + 1) = x1 then RR (f0 + 1) else (if B (f0 + 2) = x1 then RR (f0 + 2) else (-1 : Int32)))) = (RR f0) by rw [if_pos hb0])).2 kk_) ?_
          refine Gq.go (T844.setTop (mkF m 479 #[.val (.int x0), .val (.int x1), .val (.int x2), .val (.int x3), .val (.int x4), .val (.int x5), .val (.int (Int32.ofNat t)), .val (.int (Int32.ofNat u0)), .val (.int (Int32.ofNat u1)), .val (.int (Int32.ofNat u2)), .val (.ref b1), .val (.ref b95), .val (.ref b177), .val (.ref b229), .val (.int (x4 &&& (2147483632 : Int32))), .val (.ref b526), .val (.int (own_rf B RR x1 3 f0)), .val (.int (Int32.ofNat f0)), .val (.int (3 : Int32)), .val (.int (RR f0))] [(.int (1 : Int32))])) (fun tt_ kk_ => XS.iconst X844.here hx rfl (hb hby at_478) kk_) ?_
          refine Gq.go (T844.setTop (mkF m 483 #[.val (.int x0), .val (.int x1), .val (.int x2), .val (.int x3), .val (.int x4), .val (.int x5), .val (.int (Int32.ofNat t)), .val (.int (Int32.ofNat u0)), .val (.int (Int32.ofNat u1)), .val (.int (Int32.ofNat u2)), .val (.ref b1), .val (.ref b95), .val (.ref b177), .val (.ref b229), .val (.int (x4 &&& (2147483632 : Int32))), .val (.ref b526), .val (.int (own_rf B RR x1 3 f0)), .val (.int (Int32.ofNat f0)), .val (.int (3 : Int32)), .val (.int (RR f0))] [(.int (1 : Int32))])) (fun tt_ kk_ => XS.goto X844.here hx rfl (pc0 := 479) (pc' := 483) rfl (hb hby at_479) (by decide) (by decide) kk_) ?_
          refine Gq.retI X844 hx Bd.notSynchronized Bd.returns (by simp) (hb hby at_483) rfl (by decide) (by decide) ?_
          show Q0 Z x0 x1 x2 x3 x4 x5 d0 fd h0 n0 _ T844.heap _
          rw [eh844]
          exact ⟨rfl, N844⟩
        · refine Gq.go (T844.setTop (mkF m 471 #[.val (.int x0), .val (.int x1), .val (.int x2), .val (.int x3), .val (.int x4), .val (.int x5), .val (.int (Int32.ofNat t)), .val (.int (Int32.ofNat u0)), .val (.int (Int32.ofNat u1)), .val (.int (Int32.ofNat u2)), .val (.ref b1), .val (.ref b95), .val (.ref b177), .val (.ref b229), .val (.int (x4 &&& (2147483632 : Int32))), .val (.ref b526), .val (.int (own_rf B RR x1 3 f0)), .val (.int (Int32.ofNat f0)), .val (.int (3 : Int32)), .val (.int (-1 : Int32))] [])) (fun tt_ kk_ => XS.icmpYes X844.here hx rfl (pc0 := 461) (pc' := 471) rfl (hb hby at_461) rfl (feq hb0).2 (by decide) (by decide) kk_) ?_
          refine Gq.go (T844.setTop (mkF m 473 #[.val (.int x0), .val (.int x1), .val (.int x2), .val (.int x3), .val (.int x4), .val (.int x5), .val (.int (Int32.ofNat t)), .val (.int (Int32.ofNat u0)), .val (.int (Int32.ofNat u1)), .val (.int (Int32.ofNat u2)), .val (.ref b1), .val (.ref b95), .val (.ref b177), .val (.ref b229), .val (.int (x4 &&& (2147483632 : Int32))), .val (.ref b526), .val (.int (own_rf B RR x1 3 f0)), .val (.int (Int32.ofNat f0)), .val (.int (3 : Int32)), .val (.int (-1 : Int32))] [(.int (own_rf B RR x1 3 f0))])) (fun tt_ kk_ => XS.iload X844.here hx rfl (hb hby at_471) rfl kk_) ?_
          refine Gq.go (T844.setTop (mkF m 475 #[.val (.int x0), .val (.int x1), .val (.int x2), .val (.int x3), .val (.int x4), .val (.int x5), .val (.int (Int32.ofNat t)), .val (.int (Int32.ofNat u0)), .val (.int (Int32.ofNat u1)), .val (.int (Int32.ofNat u2)), .val (.ref b1), .val (.ref b95), .val (.ref b177), .val (.ref b229), .val (.int (x4 &&& (2147483632 : Int32))), .val (.ref b526), .val (.int (own_rf B RR x1 3 f0)), .val (.int (Int32.ofNat f0)), .val (.int (3 : Int32)), .val (.int (-1 : Int32))] [(.int (-1 : Int32)), (.int (own_rf B RR x1 3 f0))])) (fun tt_ kk_ => XS.iload X844.here hx rfl (hb hby at_473) rfl kk_) ?_
          refine Gq.go (T844.setTop (mkF m 478 #[.val (.int x0), .val (.int x1), .val (.int x2), .val (.int x3), .val (.int x4), .val (.int x5), .val (.int (Int32.ofNat t)), .val (.int (Int32.ofNat u0)), .val (.int (Int32.ofNat u1)), .val (.int (Int32.ofNat u2)), .val (.ref b1), .val (.ref b95), .val (.ref b177), .val (.ref b229), .val (.int (x4 &&& (2147483632 : Int32))), .val (.ref b526), .val (.int (own_rf B RR x1 3 f0)), .val (.int (Int32.ofNat f0)), .val (.int (3 : Int32)), .val (.int (-1 : Int32))] [])) (fun tt_ kk_ => XS.icmpNo X844.here hx rfl (hb hby at_475) rfl (teq (show (if B (f0) = x1 then RR (f0) else (if B (f0 + 1) = x1 then RR (f0 + 1) else (if B (f0 + 2) = x1 then RR (f0 + 2) else (-1 : Int32)))) = (-1 : Int32) by rw [if_neg hb0, if_neg hb1, if_neg hb2])).2 kk_) ?_
          refine Gq.go (T844.setTop (mkF m 479 #[.val (.int x0), .val (.int x1), .val (.int x2), .val (.int x3), .val (.int x4), .val (.int x5), .val (.int (Int32.ofNat t)), .val (.int (Int32.ofNat u0)), .val (.int (Int32.ofNat u1)), .val (.int (Int32.ofNat u2)), .val (.ref b1), .val (.ref b95), .val (.ref b177), .val (.ref b229), .val (.int (x4 &&& (2147483632 : Int32))), .val (.ref b526), .val (.int (own_rf B RR x1 3 f0)), .val (.int (Int32.ofNat f0)), .val (.int (3 : Int32)), .val (.int (-1 : Int32))] [(.int (1 : Int32))])) (fun tt_ kk_ => XS.iconst X844.here hx rfl (hb hby at_478) kk_) ?_
          refine Gq.go (T844.setTop (mkF m 483 #[.val (.int x0), .val (.int x1), .val (.int x2), .val (.int x3), .val (.int x4), .val (.int x5), .val (.int (Int32.ofNat t)), .val (.int (Int32.ofNat u0)), .val (.int (Int32.ofNat u1)), .val (.int (Int32.ofNat u2)), .val (.ref b1), .val (.ref b95), .val (.ref b177), .val (.ref b229), .val (.int (x4 &&& (2147483632 : Int32))), .val (.ref b526), .val (.int (own_rf B RR x1 3 f0)), .val (.int (Int32.ofNat f0)), .val (.int (3 : Int32)), .val (.int (-1 : Int32))] [(.int (1 : Int32))])) (fun tt_ kk_ => XS.goto X844.here hx rfl (pc0 := 479) (pc' := 483) rfl (hb hby at_479) (by decide) (by decide) kk_) ?_
          refine Gq.retI X844 hx Bd.notSynchronized Bd.returns (by simp) (hb hby at_483) rfl (by decide) (by decide) ?_
          show Q0 Z x0 x1 x2 x3 x4 x5 d0 fd h0 n0 _ T844.heap _
          rw [eh844]
          exact ⟨rfl, N844⟩
set_option maxRecDepth 65536 in
set_option maxHeartbeats 40000000 in
theorem comes_1 {Post : Tables → Env → Array Value → State → Outcome → State → Prop} (hpost : ∀ tb e args s v u, (limb_1_1.after args s (.returned v) u = true ∧ limb_1_2.after args s (.returned v) u = true ∧ True) → FrameEnd s (.returned v) u (Jvm.fieldLocs frame_1_writes args s ++ Jvm.arrayLocs frame_1_arrays args s ++ Jvm.staticLocs frame_1_statics s) 32 256 → Post tb e args s (.returned v) u) :
    ArmFor flags0 classFile x code maxLocals ret World_1 tables_1 room_1 Calls_1 rest_1 Pre_1 Post := by
  intro l hfl _ _ p e ha hc hk s m args below hf hA hF happ hP
  obtain ⟨hcalls, hrest, hpre⟩ := hP
  obtain ⟨-, -, -, hnamed, -, -, -, hat⟩ := (Spec.applies_iff hf).mp happ
  obtain ⟨hg, hn⟩ := and_e (Cond.before_iff.mp (show (Jvm.Cond.and given_1 narrow_1).before args s = true from hpre))
  obtain ⟨g1, g2⟩ := and_e hg
  obtain ⟨g3, g4⟩ := and_e g2
  obtain ⟨g5, g6⟩ := and_e g4
  obtain ⟨g7, g8⟩ := and_e g6
  obtain ⟨g9, g10⟩ := and_e g8
  obtain ⟨g11, g12⟩ := and_e g10
  obtain ⟨w0, w1, w2, w3, w4, w5, rfl⟩ : ∃ w0 w1 w2 w3 w4 w5 : Value, args = #[w0, w1, w2, w3, w4, w5] := by
    have hs : args.size = 6 := by simpa [Cond.value, given_1] using g1
    obtain ⟨L⟩ := args
    match L, hs with
    | [w0, w1, w2, w3, w4, w5], _ => exact ⟨w0, w1, w2, w3, w4, w5, rfl⟩
  have hw := fun d (hd : d ∈ tables_1) => atoms_spec (ws := Jvm.Cond.code x code maxLocals ret :: tables_1) hat d (List.mem_cons_of_mem _ hd)
  obtain ⟨i0, ei0⟩ := is_v g3
  obtain rfl : w0 = (.int i0) := Option.some.inj ei0
  obtain ⟨i1, ei1⟩ := is_v g5
  obtain rfl : w1 = (.int i1) := Option.some.inj ei1
  obtain ⟨i2, ei2⟩ := is_v g7
  obtain rfl : w2 = (.int i2) := Option.some.inj ei2
  obtain ⟨i3, ei3⟩ := is_v g9
  obtain rfl : w3 = (.int i3) := Option.some.inj ei3
  obtain ⟨i4, ei4⟩ := is_v g11
  obtain rfl : w4 = (.int i4) := Option.some.inj ei4
  obtain ⟨i5, ei5⟩ := is_v g12
  obtain rfl : w5 = (.int i5) := Option.some.inj ei5
  obtain ⟨hsets, hown0⟩ := atoms_of _ (rest_1_c_eq ▸ (show rest_1_c.before _ s = true from hrest))
  obtain ⟨d0, ed0⟩ := arr_v (Cond.before_iff.mp (hsets _ (List.mem_of_getElem? (i := 6) rfl)))
  have Sd := Sta.start ed0 (Or.inr ⟨(hw _ (List.mem_of_getElem? (i := 2) rfl)), hsets _ (List.mem_of_getElem? (i := 2) rfl)⟩)
  obtain ⟨fd, Vd0⟩ := own_empty (Cond.before_iff.mp (hsets _ (List.mem_of_getElem? (i := 6) rfl))) ed0 (Cond.before_iff.mp (hsets _ (List.mem_of_getElem? (i := 8) rfl)))
  obtain ⟨n, o, h1, h2, h3, _, L, rfl, ⟨rfl, N⟩, hq⟩ := rm0 l s _ hw tables_1 i0 i1 i2 i3 i4 i5 d0 fd s.heap s.heap.size (Nat.le_refl _) (Old.start s) Sd Vd0 p e ha hc hk s m _ below hf ((Spec.applies_iff_loose hf).mp happ).1 ⟨rfl, State.Warmed39.refl s, rfl⟩ trivial
  refine ⟨n, _, h1, h2, h3, hpost _ _ _ _ _ _ ⟨Cond.after_iff.mpr rfl, Cond.after_iff.mpr (eq_i res_at (Term.int_eval (1)) rfl), trivial⟩ ⟨hq.1, hq.2.1, (hq.2.2.sift fun y hy => Or.inr (N y hy)).mono (by decide) (by decide)⟩⟩
theorem main_1_1 : Claimed_1_1 := comes_1 fun _ _ _ _ _ _ h hF => ⟨h.1, hF⟩
theorem main_1_2 : Claimed_1_2 := comes_1 fun _ _ _ _ _ _ h hF => ⟨h.2.1, hF⟩
end Jvm.Pilot.@@N@@
namespace Jvm.Pilot.@@N@@
open Jvm Jvm.ClassFile Sem Op Lib Jvm.Free Jvm.Stand Jvm.Pilot.@@N@@.Jvm.D
/-! MADE BY PROGRAM (witnessworld.py) out of the Statement's table words and the real class files: 23 classes; the members and pool entries that the words name. The judged class is class 1, her method 3. -/
namespace start1
open Jvm.ClassFile
def u (s : String) : CpInfo := .utf8 (stringToUtf16 s)
/-- a pool by its gaps: so many unusable entries, then the entry; so many at the end -/
def gap : Nat → List CpInfo → List CpInfo
  | 0, r => r
  | n + 1, r => .unusable :: gap n r
def poolList (es : List (Nat × CpInfo)) (last : Nat) : List CpInfo := es.foldr (fun e r => gap e.1 (e.2 :: r)) (gap last [])
def pool (es : List (Nat × CpInfo)) (last : Nat) : Array CpInfo := ⟨poolList es last⟩
def fileOf (pool : Array CpInfo) (this : Nat) (attrs : Array Attribute := #[]) (ms : Array MethodInfo := #[]) (fl : Nat := 33) (sup : Nat := 0) (ifs : Array Nat := #[]) (fds : Array FieldInfo := #[]) : ClassFile where
  minorVersion := 0
  majorVersion := 65
  constantPool := pool
  accessFlags := fl
  thisClass := this
  superClass := sup
  interfaces := ifs
  fields := fds
  methods := ms
  attributes := attrs
def plain (name : String) (sup : Option ClassId) : Class where
  name := name
  kind := .ordinary
  loader := none
  accessFlags := 33
  super := sup
  interfaces := #[]
  cf := none
  fields := #[]
  methods := #[]
  instanceTypes := #[]
  staticTypes := #[]
  resolved := #[]
  callSites := []
  init := .initialized
  statics := none
  mirror := none

def pool0 : Array CpInfo := pool [(5, u "<init>"), (0, u "()V"), (1, .class_ 10), (1, u "java/lang/Object")] 113

def k0c0 : Code := { maxStack := 0, maxLocals := 1, code := object_method_1_code, exceptionTable := #[], attributes := #[] }
def k0m0 : Method := { name := "<init>", desc := "()V", sig := { parameters := [], returnType := none }, accessFlags := 1, code := some k0c0 }
/-- java/lang/Object -/
def k0 : Class := { plain "java/lang/Object" none with
  accessFlags := 33
  interfaces := #[]
  cf := some (fileOf pool0 8 #[] #[{ accessFlags := 1, nameIndex := 5, descriptorIndex := 6, attributes := #[] }] 33 0 #[] #[])
  fields := #[]
  methods := #[k0m0]
  instanceTypes := #[]
  staticTypes := #[]
  resolved := Array.replicate 124 none
  statics := none }

def pool1 : Array CpInfo := pool [(2, .class_ 4), (0, .nameAndType 5 6), (0, u "java/lang/Object"), (0, u "<init>"), (0, u "()V"), (0, .class_ 8), (0, u "java/util/ArrayList"), (0, .methodref 7 3), (0, .methodref 11 12), (0, .class_ 13), (0, .nameAndType 14 15), (0, u "com/example/arbor2/arbor2/analysis/TracksReachedFromPinLaw"), (0, u "blank"), (0, u "(I)[I"), (0, .methodref 7 17), (0, .nameAndType 18 19), (0, u "add"), (0, u "(Ljava/lang/Object;)Z"), (0, .class_ 21), (0, u "com/example/arbor2/arbor2/analysis/Tracks"), (0, .methodref 20 23), (0, .nameAndType 5 24), (0, u "([ILjava/util/List;IZ)V"), (0, .methodref 11 26), (0, .nameAndType 27 28), (0, u "pick"), (0, u "(IIII)I"), (0, .integer 2147483632), (0, .methodref 20 31), (0, .nameAndType 32 33), (0, u "reachedFrom"), (0, u "(II[I[I)I"), (3, u "law"), (0, u "(IIIIII)Z")] 4

def k1m0 : Method := { name := "<init>", desc := "()V", sig := { parameters := [], returnType := none }, accessFlags := 1, code := none }
def k1c1 : Code := { maxStack := 2, maxLocals := 1, code := method_2_code, exceptionTable := #[], attributes := #[] }
def k1m1 : Method := { name := "blank", desc := "(I)[I", sig := { parameters := [.int], returnType := some (.array .int) }, accessFlags := 10, code := some k1c1 }
def k1c2 : Code := { maxStack := 2, maxLocals := 4, code := method_3_code, exceptionTable := #[], attributes := #[] }
def k1m2 : Method := { name := "pick", desc := "(IIII)I", sig := { parameters := [.int, .int, .int, .int], returnType := some .int }, accessFlags := 10, code := some k1c2 }
def k1c3 : Code := { maxStack := 7, maxLocals := 20, code := code, exceptionTable := #[], attributes := #[] }
def k1m3 : Method := { name := "law", desc := "(IIIIII)Z", sig := { parameters := [.int, .int, .int, .int, .int, .int], returnType := some .boolean }, accessFlags := 9, code := some k1c3 }
/-- com/example/arbor2/arbor2/analysis/TracksReachedFromPinLaw -/
def k1 : Class := { plain "com/example/arbor2/arbor2/analysis/TracksReachedFromPinLaw" (some 0) with
  accessFlags := 49
  interfaces := #[]
  cf := some (fileOf pool1 11 #[] #[{ accessFlags := 1, nameIndex := 5, descriptorIndex := 6, attributes := #[] }, { accessFlags := 10, nameIndex := 14, descriptorIndex := 15, attributes := #[] }, { accessFlags := 10, nameIndex := 27, descriptorIndex := 28, attributes := #[] }, { accessFlags := 9, nameIndex := 37, descriptorIndex := 38, attributes := #[] }] 49 2 #[] #[])
  fields := #[]
  methods := #[k1m0, k1m1, k1m2, k1m3]
  instanceTypes := #[]
  staticTypes := #[]
  resolved := Array.replicate 43 none
  statics := none }

def pool2 : Array CpInfo := pool [(8, .class_ 10), (1, u "java/lang/Iterable"), (24, .class_ 36), (0, u "java/lang/Object")] 25

/-- java/lang/Iterable -/
def k2 : Class := { plain "java/lang/Iterable" (some 0) with
  accessFlags := 1537
  interfaces := #[]
  cf := some (fileOf pool2 8 #[] #[] 1537 35 #[] #[])
  fields := #[]
  methods := #[]
  instanceTypes := #[]
  staticTypes := #[]
  resolved := Array.replicate 62 none
  statics := none }

def pool3 : Array CpInfo := pool [(10, .class_ 12), (1, u "java/util/Collection"), (47, .class_ 61), (0, u "java/lang/Object"), (0, .class_ 63), (0, u "java/lang/Iterable")] 51

/-- java/util/Collection -/
def k3 : Class := { plain "java/util/Collection" (some 0) with
  accessFlags := 1537
  interfaces := #[2]
  cf := some (fileOf pool3 10 #[] #[] 1537 60 #[62] #[])
  fields := #[]
  methods := #[]
  instanceTypes := #[]
  staticTypes := #[]
  resolved := Array.replicate 115 none
  statics := none }

def pool4 : Array CpInfo := pool [(1, .methodref 2 3), (0, .class_ 4), (0, .nameAndType 5 6), (0, u "java/lang/Object"), (0, u "<init>"), (0, u "()V"), (1, .class_ 10), (1, u "java/util/AbstractCollection"), (66, .class_ 78), (0, u "java/util/Collection")] 81

def k4c0 : Code := { maxStack := 1, maxLocals := 1, code := jdk_22_method_1_code, exceptionTable := #[], attributes := #[] }
def k4m0 : Method := { name := "<init>", desc := "()V", sig := { parameters := [], returnType := none }, accessFlags := 4, code := some k4c0 }
/-- java/util/AbstractCollection -/
def k4 : Class := { plain "java/util/AbstractCollection" (some 0) with
  accessFlags := 1057
  interfaces := #[3]
  cf := some (fileOf pool4 8 #[] #[{ accessFlags := 4, nameIndex := 5, descriptorIndex := 6, attributes := #[] }] 1057 2 #[77] #[])
  fields := #[]
  methods := #[k4m0]
  instanceTypes := #[]
  staticTypes := #[]
  resolved := Array.replicate 160 none
  statics := none }

def pool5 : Array CpInfo := pool [(8, .class_ 10), (1, u "java/util/SequencedCollection"), (15, .class_ 27), (0, u "java/lang/Object"), (0, .class_ 29), (0, u "java/util/Collection")] 27

/-- java/util/SequencedCollection -/
def k5 : Class := { plain "java/util/SequencedCollection" (some 0) with
  accessFlags := 1537
  interfaces := #[3]
  cf := some (fileOf pool5 8 #[] #[] 1537 26 #[28] #[])
  fields := #[]
  methods := #[]
  instanceTypes := #[]
  staticTypes := #[]
  resolved := Array.replicate 57 none
  statics := none }

def pool6 : Array CpInfo := pool [(8, .class_ 10), (1, u "java/util/List"), (64, u "get"), (0, u "(I)Ljava/lang/Object;"), (26, .class_ 104), (0, u "java/lang/Object"), (15, .class_ 121), (0, u "java/util/SequencedCollection")] 129

def k6m0 : Method := { name := "get", desc := "(I)Ljava/lang/Object;", sig := { parameters := [.int], returnType := some (.object "java/lang/Object") }, accessFlags := 1025, code := none }
/-- java/util/List -/
def k6 : Class := { plain "java/util/List" (some 0) with
  accessFlags := 1537
  interfaces := #[5]
  cf := some (fileOf pool6 8 #[] #[{ accessFlags := 1025, nameIndex := 75, descriptorIndex := 76, attributes := #[] }] 1537 103 #[120] #[])
  fields := #[]
  methods := #[k6m0]
  instanceTypes := #[]
  staticTypes := #[]
  resolved := Array.replicate 251 none
  statics := none }

def pool7 : Array CpInfo := pool [(1, .methodref 2 3), (0, .class_ 4), (0, .nameAndType 5 6), (0, u "java/util/AbstractCollection"), (0, u "<init>"), (0, u "()V"), (0, .fieldref 8 9), (0, .class_ 10), (0, .nameAndType 11 12), (0, u "java/util/AbstractList"), (0, u "modCount"), (0, u "I"), (64, .class_ 78), (0, u "java/util/AbstractList$Itr"), (3, .class_ 83), (0, u "java/util/AbstractList$ListItr"), (9, .class_ 94), (0, u "java/util/AbstractList$RandomAccessSubList"), (3, .class_ 99), (0, u "java/util/AbstractList$SubList"), (33, .class_ 134), (0, u "java/util/List"), (73, .class_ 209), (0, u "java/util/AbstractList$SubList$1"), (0, .class_ 211), (0, u "java/util/AbstractList$RandomAccessSpliterator")] 6

def k7c0 : Code := { maxStack := 2, maxLocals := 1, code := jdk_39_method_1_code, exceptionTable := #[], attributes := #[] }
def k7m0 : Method := { name := "<init>", desc := "()V", sig := { parameters := [], returnType := none }, accessFlags := 4, code := some k7c0 }
/-- java/util/AbstractList -/
def k7 : Class := { plain "java/util/AbstractList" (some 4) with
  accessFlags := 1057
  interfaces := #[6]
  cf := some (fileOf pool7 8 #[.nestMembers #[93, 98, 208, 210, 82, 77]] #[{ accessFlags := 4, nameIndex := 5, descriptorIndex := 6, attributes := #[] }] 1057 2 #[133] #[{ accessFlags := 132, nameIndex := 11, descriptorIndex := 12, attributes := #[] }])
  fields := #[{ name := "modCount", type := .int, accessFlags := 132, slot := 0, constantValue := 0 }]
  methods := #[k7m0]
  instanceTypes := #[.int]
  staticTypes := #[]
  resolved := Array.replicate 218 none
  statics := none }

def pool8 : Array CpInfo := pool [(1, .class_ 2), (0, u "java/util/RandomAccess"), (0, .class_ 4), (0, u "java/lang/Object")] 2

/-- java/util/RandomAccess -/
def k8 : Class := { plain "java/util/RandomAccess" (some 0) with
  accessFlags := 1537
  interfaces := #[]
  cf := some (fileOf pool8 1 #[] #[] 1537 3 #[] #[])
  fields := #[]
  methods := #[]
  instanceTypes := #[]
  staticTypes := #[]
  resolved := Array.replicate 7 none
  statics := none }

def pool9 : Array CpInfo := pool [(1, .class_ 2), (0, u "java/lang/Cloneable"), (0, .class_ 4), (0, u "java/lang/Object")] 2

/-- java/lang/Cloneable -/
def k9 : Class := { plain "java/lang/Cloneable" (some 0) with
  accessFlags := 1537
  interfaces := #[]
  cf := some (fileOf pool9 1 #[] #[] 1537 3 #[] #[])
  fields := #[]
  methods := #[]
  instanceTypes := #[]
  staticTypes := #[]
  resolved := Array.replicate 7 none
  statics := none }

def pool10 : Array CpInfo := pool [(1, .class_ 2), (0, u "java/io/Serializable"), (0, .class_ 4), (0, u "java/lang/Object")] 2

/-- java/io/Serializable -/
def k10 : Class := { plain "java/io/Serializable" (some 0) with
  accessFlags := 1537
  interfaces := #[]
  cf := some (fileOf pool10 1 #[] #[] 1537 3 #[] #[])
  fields := #[]
  methods := #[]
  instanceTypes := #[]
  staticTypes := #[]
  resolved := Array.replicate 7 none
  statics := none }

def pool11 : Array CpInfo := pool [(1, .methodref 2 3), (0, .class_ 4), (0, .nameAndType 5 6), (0, u "java/util/AbstractList"), (0, u "<init>"), (0, u "()V"), (0, .class_ 8), (0, u "java/lang/Object"), (0, .fieldref 10 11), (0, .class_ 12), (0, .nameAndType 13 14), (0, u "java/util/ArrayList"), (0, u "elementData"), (0, u "[Ljava/lang/Object;"), (2, u "EMPTY_ELEMENTDATA"), (21, .fieldref 10 40), (0, .nameAndType 41 14), (0, u "DEFAULTCAPACITY_EMPTY_ELEMENTDATA"), (5, u "()[Ljava/lang/Object;"), (0, .fieldref 10 49), (0, .nameAndType 50 51), (0, u "size"), (0, u "I"), (11, .fieldref 10 64), (0, .nameAndType 65 51), (0, u "modCount"), (3, .methodref 10 70), (0, .nameAndType 71 72), (0, u "grow"), (0, u "(I)[Ljava/lang/Object;"), (6, .methodref 80 81), (0, .class_ 82), (0, .nameAndType 83 84), (0, u "java/lang/Math"), (0, u "max"), (0, u "(II)I"), (11, u "(Ljava/lang/Object;)Z"), (21, .methodref 119 120), (0, .class_ 121), (0, .nameAndType 122 84), (0, u "java/util/Objects"), (0, u "checkIndex"), (0, .methodref 10 124), (0, .nameAndType 13 125), (0, u "(I)Ljava/lang/Object;"), (3, .methodref 10 130), (0, .nameAndType 71 47), (0, .methodref 10 132), (0, .nameAndType 133 134), (0, u "add"), (0, u "(Ljava/lang/Object;[Ljava/lang/Object;I)V"), (13, .class_ 149), (0, u "java/util/List"), (112, .class_ 263), (0, u "java/util/ArrayList$ListItr"), (3, .class_ 268), (0, u "java/util/ArrayList$Itr"), (7, .class_ 277), (0, u "java/util/ArrayList$SubList"), (12, .class_ 291), (0, u "java/util/ArrayList$ArrayListSpliterator"), (37, .class_ 330), (0, u "java/util/RandomAccess"), (0, .class_ 332), (0, u "java/lang/Cloneable"), (0, .class_ 334), (0, u "java/io/Serializable"), (0, u "serialVersionUID"), (0, u "J"), (3, u "DEFAULT_CAPACITY"), (40, u "get"), (118, .class_ 501), (0, u "java/util/ArrayList$SubList$2"), (0, .class_ 503), (0, u "java/util/ArrayList$SubList$1")] 5

def k11c0 : Code := { maxStack := 2, maxLocals := 1, code := jdk_38_method_2_code, exceptionTable := #[], attributes := #[] }
def k11m0 : Method := { name := "<init>", desc := "()V", sig := { parameters := [], returnType := none }, accessFlags := 1, code := some k11c0 }
def k11c1 : Code := { maxStack := 4, maxLocals := 4, code := jdk_38_method_6_code, exceptionTable := #[], attributes := #[] }
def k11m1 : Method := { name := "grow", desc := "(I)[Ljava/lang/Object;", sig := { parameters := [.int], returnType := some (.array (.object "java/lang/Object")) }, accessFlags := 2, code := some k11c1 }
def k11c2 : Code := { maxStack := 3, maxLocals := 1, code := jdk_38_method_7_code, exceptionTable := #[], attributes := #[] }
def k11m2 : Method := { name := "grow", desc := "()[Ljava/lang/Object;", sig := { parameters := [], returnType := some (.array (.object "java/lang/Object")) }, accessFlags := 2, code := some k11c2 }
def k11c3 : Code := { maxStack := 2, maxLocals := 2, code := jdk_38_method_18_code, exceptionTable := #[], attributes := #[] }
def k11m3 : Method := { name := "elementData", desc := "(I)Ljava/lang/Object;", sig := { parameters := [.int], returnType := some (.object "java/lang/Object") }, accessFlags := 0, code := some k11c3 }
def k11c4 : Code := { maxStack := 2, maxLocals := 2, code := jdk_38_method_20_code, exceptionTable := #[], attributes := #[] }
def k11m4 : Method := { name := "get", desc := "(I)Ljava/lang/Object;", sig := { parameters := [.int], returnType := some (.object "java/lang/Object") }, accessFlags := 1, code := some k11c4 }
def k11c5 : Code := { maxStack := 3, maxLocals := 4, code := jdk_38_method_24_code, exceptionTable := #[], attributes := #[] }
def k11m5 : Method := { name := "add", desc := "(Ljava/lang/Object;[Ljava/lang/Object;I)V", sig := { parameters := [(.object "java/lang/Object"), (.array (.object "java/lang/Object")), .int], returnType := none }, accessFlags := 2, code := some k11c5 }
def k11c6 : Code := { maxStack := 4, maxLocals := 2, code := jdk_38_method_25_code, exceptionTable := #[], attributes := #[] }
def k11m6 : Method := { name := "add", desc := "(Ljava/lang/Object;)Z", sig := { parameters := [(.object "java/lang/Object")], returnType := some .boolean }, accessFlags := 1, code := some k11c6 }
/-- java/util/ArrayList -/
def k11 : Class := { plain "java/util/ArrayList" (some 7) with
  accessFlags := 33
  interfaces := #[6, 8, 9, 10]
  cf := some (fileOf pool11 10 #[.nestMembers #[290, 276, 500, 502, 262, 267]] #[{ accessFlags := 1, nameIndex := 5, descriptorIndex := 6, attributes := #[] }, { accessFlags := 2, nameIndex := 71, descriptorIndex := 72, attributes := #[] }, { accessFlags := 2, nameIndex := 71, descriptorIndex := 47, attributes := #[] }, { accessFlags := 0, nameIndex := 13, descriptorIndex := 125, attributes := #[] }, { accessFlags := 1, nameIndex := 381, descriptorIndex := 125, attributes := #[] }, { accessFlags := 2, nameIndex := 133, descriptorIndex := 134, attributes := #[] }, { accessFlags := 1, nameIndex := 133, descriptorIndex := 96, attributes := #[] }] 33 2 #[148, 329, 331, 333] #[{ accessFlags := 26, nameIndex := 335, descriptorIndex := 336, attributes := #[] }, { accessFlags := 26, nameIndex := 340, descriptorIndex := 51, attributes := #[] }, { accessFlags := 26, nameIndex := 17, descriptorIndex := 14, attributes := #[] }, { accessFlags := 26, nameIndex := 41, descriptorIndex := 14, attributes := #[] }, { accessFlags := 128, nameIndex := 13, descriptorIndex := 14, attributes := #[] }, { accessFlags := 2, nameIndex := 50, descriptorIndex := 51, attributes := #[] }])
  fields := #[{ name := "serialVersionUID", type := .long, accessFlags := 26, slot := 0, constantValue := 0 }, { name := "DEFAULT_CAPACITY", type := .int, accessFlags := 26, slot := 1, constantValue := 0 }, { name := "EMPTY_ELEMENTDATA", type := (.array (.object "java/lang/Object")), accessFlags := 26, slot := 2, constantValue := 0 }, { name := "DEFAULTCAPACITY_EMPTY_ELEMENTDATA", type := (.array (.object "java/lang/Object")), accessFlags := 26, slot := 3, constantValue := 0 }, { name := "elementData", type := (.array (.object "java/lang/Object")), accessFlags := 128, slot := 1, constantValue := 0 }, { name := "size", type := .int, accessFlags := 2, slot := 2, constantValue := 0 }]
  methods := #[k11m0, k11m1, k11m2, k11m3, k11m4, k11m5, k11m6]
  instanceTypes := #[.int, (.array (.object "java/lang/Object")), .int]
  staticTypes := #[.long, .int, (.array (.object "java/lang/Object")), (.array (.object "java/lang/Object"))]
  resolved := Array.replicate 509 none
  statics := some 0 }

def pool12 : Array CpInfo := pool [(1, .class_ 2), (0, u "java/lang/Math"), (1, .class_ 6), (1, u "java/lang/Object"), (0, u "<init>"), (0, u "()V"), (89, .class_ 100), (1, u "java/lang/Math$RandomNumberGeneratorHolder"), (71, u "negativeZeroFloatBits"), (0, u "J"), (2, u "negativeZeroDoubleBits"), (21, u "max"), (46, u "$assertionsDisabled"), (0, u "Z"), (88, u "(II)I"), (2, u "twoToTheDoubleScaleDown"), (0, u "D"), (4, u "twoToTheDoubleScaleUp"), (9, u "E"), (3, u "PI"), (2, u "TAU"), (2, u "DEGREES_TO_RADIANS"), (0, u "RADIANS_TO_DEGREES")] 94

def k12m0 : Method := { name := "<init>", desc := "()V", sig := { parameters := [], returnType := none }, accessFlags := 2, code := none }
def k12c1 : Code := { maxStack := 2, maxLocals := 2, code := jdk_29_method_65_code, exceptionTable := #[], attributes := #[] }
def k12m1 : Method := { name := "max", desc := "(II)I", sig := { parameters := [.int, .int], returnType := some .int }, accessFlags := 9, code := some k12c1 }
/-- java/lang/Math -/
def k12 : Class := { plain "java/lang/Math" (some 0) with
  accessFlags := 49
  interfaces := #[]
  cf := some (fileOf pool12 1 #[.nestMembers #[98]] #[{ accessFlags := 2, nameIndex := 7, descriptorIndex := 8, attributes := #[] }, { accessFlags := 9, nameIndex := 198, descriptorIndex := 335, attributes := #[] }] 49 4 #[] #[{ accessFlags := 25, nameIndex := 354, descriptorIndex := 339, attributes := #[] }, { accessFlags := 25, nameIndex := 358, descriptorIndex := 339, attributes := #[] }, { accessFlags := 25, nameIndex := 361, descriptorIndex := 339, attributes := #[] }, { accessFlags := 26, nameIndex := 364, descriptorIndex := 339, attributes := #[] }, { accessFlags := 26, nameIndex := 365, descriptorIndex := 339, attributes := #[] }, { accessFlags := 26, nameIndex := 172, descriptorIndex := 173, attributes := #[] }, { accessFlags := 26, nameIndex := 176, descriptorIndex := 173, attributes := #[] }, { accessFlags := 8, nameIndex := 344, descriptorIndex := 339, attributes := #[] }, { accessFlags := 8, nameIndex := 338, descriptorIndex := 339, attributes := #[] }, { accessFlags := 4120, nameIndex := 245, descriptorIndex := 246, attributes := #[] }])
  fields := #[{ name := "E", type := .double, accessFlags := 25, slot := 0, constantValue := 0 }, { name := "PI", type := .double, accessFlags := 25, slot := 1, constantValue := 0 }, { name := "TAU", type := .double, accessFlags := 25, slot := 2, constantValue := 0 }, { name := "DEGREES_TO_RADIANS", type := .double, accessFlags := 26, slot := 3, constantValue := 0 }, { name := "RADIANS_TO_DEGREES", type := .double, accessFlags := 26, slot := 4, constantValue := 0 }, { name := "negativeZeroFloatBits", type := .long, accessFlags := 26, slot := 5, constantValue := 0 }, { name := "negativeZeroDoubleBits", type := .long, accessFlags := 26, slot := 6, constantValue := 0 }, { name := "twoToTheDoubleScaleUp", type := .double, accessFlags := 8, slot := 7, constantValue := 0 }, { name := "twoToTheDoubleScaleDown", type := .double, accessFlags := 8, slot := 8, constantValue := 0 }, { name := "$assertionsDisabled", type := .boolean, accessFlags := 4120, slot := 9, constantValue := 0 }]
  methods := #[k12m0, k12m1]
  instanceTypes := #[]
  staticTypes := #[.double, .double, .double, .double, .double, .long, .long, .double, .double, .boolean]
  resolved := Array.replicate 460 none
  statics := none }

def pool13 : Array CpInfo := pool [(1, .methodref 2 3), (0, .class_ 4), (0, .nameAndType 5 6), (0, u "java/lang/Object"), (0, u "<init>"), (0, u "()V"), (0, .fieldref 8 9), (0, .class_ 10), (0, .nameAndType 11 12), (0, u "com/example/arbor2/arbor2/analysis/Tracks"), (0, u "selections"), (0, u "[I"), (0, .fieldref 8 14), (0, .nameAndType 15 12), (0, u "firstSlots"), (0, .interfaceMethodref 17 18), (0, .class_ 19), (0, .nameAndType 20 21), (0, u "java/util/List"), (0, u "get"), (0, u "(I)Ljava/lang/Object;"), (0, .class_ 12), (0, .fieldref 8 24), (0, .nameAndType 25 12), (0, u "slotTracks"), (0, .fieldref 8 27), (0, .nameAndType 28 12), (0, u "begins"), (0, .methodref 30 31), (0, .class_ 32), (0, .nameAndType 33 34), (0, u "java/util/Arrays"), (0, u "fill"), (0, u "([IIII)V"), (0, .methodref 36 37), (0, .class_ 38), (0, .nameAndType 39 40), (0, u "java/lang/System"), (0, u "arraycopy"), (0, u "(Ljava/lang/Object;ILjava/lang/Object;II)V"), (0, .fieldref 8 42), (0, .nameAndType 43 44), (0, u "sink"), (0, u "I"), (0, .fieldref 8 46), (0, .nameAndType 47 48), (0, u "sharesPairs"), (0, u "Z"), (132, u "([ILjava/util/List;IZ)V"), (2, u "NONE"), (0, u "Lcom/example/arbor2/arbor2/analysis/Tracks;"), (0, u "GUESSED"), (2, u "NOT_BEGUN"), (6, u "reachedFrom"), (0, u "(II[I[I)I")] 48

def k13c0 : Code := { maxStack := 6, maxLocals := 6, code := prog_46_method_1_code, exceptionTable := #[], attributes := #[] }
def k13m0 : Method := { name := "<init>", desc := "([ILjava/util/List;IZ)V", sig := { parameters := [(.array .int), (.object "java/util/List"), .int, .boolean], returnType := none }, accessFlags := 0, code := some k13c0 }
def k13c1 : Code := { maxStack := 4, maxLocals := 7, code := prog_46_method_3_code, exceptionTable := #[], attributes := #[] }
def k13m1 : Method := { name := "reachedFrom", desc := "(II[I[I)I", sig := { parameters := [.int, .int, (.array .int), (.array .int)], returnType := some .int }, accessFlags := 0, code := some k13c1 }
/-- com/example/arbor2/arbor2/analysis/Tracks -/
def k13 : Class := { plain "com/example/arbor2/arbor2/analysis/Tracks" (some 0) with
  accessFlags := 32
  interfaces := #[]
  cf := some (fileOf pool13 8 #[] #[{ accessFlags := 0, nameIndex := 5, descriptorIndex := 181, attributes := #[] }, { accessFlags := 0, nameIndex := 196, descriptorIndex := 197, attributes := #[] }] 32 2 #[] #[{ accessFlags := 24, nameIndex := 186, descriptorIndex := 44, attributes := #[] }, { accessFlags := 24, nameIndex := 189, descriptorIndex := 44, attributes := #[] }, { accessFlags := 24, nameIndex := 184, descriptorIndex := 185, attributes := #[] }, { accessFlags := 18, nameIndex := 11, descriptorIndex := 12, attributes := #[] }, { accessFlags := 18, nameIndex := 15, descriptorIndex := 12, attributes := #[] }, { accessFlags := 18, nameIndex := 25, descriptorIndex := 12, attributes := #[] }, { accessFlags := 18, nameIndex := 28, descriptorIndex := 12, attributes := #[] }, { accessFlags := 18, nameIndex := 43, descriptorIndex := 44, attributes := #[] }, { accessFlags := 18, nameIndex := 47, descriptorIndex := 48, attributes := #[] }])
  fields := #[{ name := "GUESSED", type := .int, accessFlags := 24, slot := 0, constantValue := 0 }, { name := "NOT_BEGUN", type := .int, accessFlags := 24, slot := 1, constantValue := 0 }, { name := "NONE", type := (.object "com/example/arbor2/arbor2/analysis/Tracks"), accessFlags := 24, slot := 2, constantValue := 0 }, { name := "selections", type := (.array .int), accessFlags := 18, slot := 0, constantValue := 0 }, { name := "firstSlots", type := (.array .int), accessFlags := 18, slot := 1, constantValue := 0 }, { name := "slotTracks", type := (.array .int), accessFlags := 18, slot := 2, constantValue := 0 }, { name := "begins", type := (.array .int), accessFlags := 18, slot := 3, constantValue := 0 }, { name := "sink", type := .int, accessFlags := 18, slot := 4, constantValue := 0 }, { name := "sharesPairs", type := .boolean, accessFlags := 18, slot := 5, constantValue := 0 }]
  methods := #[k13m0, k13m1]
  instanceTypes := #[(.array .int), (.array .int), (.array .int), (.array .int), .int, .boolean]
  staticTypes := #[.int, .int, (.object "com/example/arbor2/arbor2/analysis/Tracks")]
  resolved := Array.replicate 246 none
  statics := none }

def pool14 : Array CpInfo := pool [(2, .class_ 4), (1, u "java/lang/Object"), (0, u "<init>"), (0, u "()V"), (35, .class_ 44), (1, u "java/util/Objects"), (60, .methodref 106 107), (0, .class_ 108), (0, .nameAndType 109 110), (0, u "jdk/internal/util/Preconditions"), (0, u "checkIndex"), (0, u "(IILjava/util/function/BiFunction;)I"), (60, u "(II)I")] 12

def k14m0 : Method := { name := "<init>", desc := "()V", sig := { parameters := [], returnType := none }, accessFlags := 2, code := none }
def k14c1 : Code := { maxStack := 3, maxLocals := 2, code := jdk_31_method_17_code, exceptionTable := #[], attributes := #[] }
def k14m1 : Method := { name := "checkIndex", desc := "(II)I", sig := { parameters := [.int, .int], returnType := some .int }, accessFlags := 9, code := some k14c1 }
/-- java/util/Objects -/
def k14 : Class := { plain "java/util/Objects" (some 0) with
  accessFlags := 49
  interfaces := #[]
  cf := some (fileOf pool14 42 #[] #[{ accessFlags := 2, nameIndex := 5, descriptorIndex := 6, attributes := #[] }, { accessFlags := 9, nameIndex := 109, descriptorIndex := 171, attributes := #[] }] 49 2 #[] #[])
  fields := #[]
  methods := #[k14m0, k14m1]
  instanceTypes := #[]
  staticTypes := #[]
  resolved := Array.replicate 184 none
  statics := none }

def pool15 : Array CpInfo := pool [(2, .class_ 4), (1, u "java/lang/Object"), (0, u "<init>"), (0, u "()V"), (17, .class_ 26), (1, u "jdk/internal/util/Preconditions"), (6, u "checkIndex"), (21, .class_ 56), (0, u "jdk/internal/util/Preconditions$4"), (57, .class_ 115), (0, u "jdk/internal/util/Preconditions$1"), (7, u "SIOOBE_FORMATTER"), (0, u "Ljava/util/function/BiFunction;"), (0, .class_ 126), (0, u "jdk/internal/util/Preconditions$2"), (3, u "AIOOBE_FORMATTER"), (0, .class_ 132), (0, u "jdk/internal/util/Preconditions$3"), (3, u "IOOBE_FORMATTER"), (41, u "(IILjava/util/function/BiFunction;)I")] 15

def k15m0 : Method := { name := "<init>", desc := "()V", sig := { parameters := [], returnType := none }, accessFlags := 1, code := none }
def k15c1 : Code := { maxStack := 3, maxLocals := 3, code := jdk_41_method_11_code, exceptionTable := #[], attributes := #[] }
def k15m1 : Method := { name := "checkIndex", desc := "(IILjava/util/function/BiFunction;)I", sig := { parameters := [.int, .int, (.object "java/util/function/BiFunction")], returnType := some .int }, accessFlags := 9, code := some k15c1 }
/-- jdk/internal/util/Preconditions -/
def k15 : Class := { plain "jdk/internal/util/Preconditions" (some 0) with
  accessFlags := 33
  interfaces := #[]
  cf := some (fileOf pool15 24 #[.nestMembers #[55, 131, 125, 114]] #[{ accessFlags := 1, nameIndex := 5, descriptorIndex := 6, attributes := #[] }, { accessFlags := 9, nameIndex := 33, descriptorIndex := 178, attributes := #[] }] 33 2 #[] #[{ accessFlags := 25, nameIndex := 123, descriptorIndex := 124, attributes := #[] }, { accessFlags := 25, nameIndex := 130, descriptorIndex := 124, attributes := #[] }, { accessFlags := 25, nameIndex := 136, descriptorIndex := 124, attributes := #[] }])
  fields := #[{ name := "SIOOBE_FORMATTER", type := (.object "java/util/function/BiFunction"), accessFlags := 25, slot := 0, constantValue := 0 }, { name := "AIOOBE_FORMATTER", type := (.object "java/util/function/BiFunction"), accessFlags := 25, slot := 1, constantValue := 0 }, { name := "IOOBE_FORMATTER", type := (.object "java/util/function/BiFunction"), accessFlags := 25, slot := 2, constantValue := 0 }]
  methods := #[k15m0, k15m1]
  instanceTypes := #[]
  staticTypes := #[(.object "java/util/function/BiFunction"), (.object "java/util/function/BiFunction"), (.object "java/util/function/BiFunction")]
  resolved := Array.replicate 194 none
  statics := none }

def pool16 : Array CpInfo := pool [(2, .class_ 4), (1, u "java/lang/Object"), (0, u "<init>"), (0, u "()V"), (5, u "([IIII)V"), (0, .methodref 14 15), (0, .class_ 16), (0, .nameAndType 17 18), (0, u "java/util/Arrays"), (0, u "rangeCheck"), (0, u "(III)V"), (55, .class_ 76), (1, u "java/util/Arrays$NaturalOrder"), (36, .class_ 115), (1, u "java/util/Arrays$LegacyMergeSort"), (1, u "Z"), (257, .class_ 376), (0, u "java/util/Arrays$ArrayList"), (68, u "$assertionsDisabled"), (269, u "MIN_ARRAY_SORT_GRAN"), (0, u "I"), (2, u "INSERTIONSORT_THRESHOLD"), (120, u "fill"), (134, .class_ 976), (0, u "java/util/Arrays$ArrayItr")] 52

def k16m0 : Method := { name := "<init>", desc := "()V", sig := { parameters := [], returnType := none }, accessFlags := 2, code := none }
def k16c1 : Code := { maxStack := 4, maxLocals := 3, code := jdk_65_method_30_code, exceptionTable := #[], attributes := #[] }
def k16m1 : Method := { name := "rangeCheck", desc := "(III)V", sig := { parameters := [.int, .int, .int], returnType := none }, accessFlags := 8, code := some k16c1 }
def k16c2 : Code := { maxStack := 3, maxLocals := 5, code := jdk_65_method_104_code, exceptionTable := #[], attributes := #[] }
def k16m2 : Method := { name := "fill", desc := "([IIII)V", sig := { parameters := [(.array .int), .int, .int, .int], returnType := none }, accessFlags := 9, code := some k16c2 }
/-- java/util/Arrays -/
def k16 : Class := { plain "java/util/Arrays" (some 0) with
  accessFlags := 49
  interfaces := #[]
  cf := some (fileOf pool16 14 #[.nestMembers #[975, 375, 113, 74]] #[{ accessFlags := 2, nameIndex := 5, descriptorIndex := 6, attributes := #[] }, { accessFlags := 8, nameIndex := 17, descriptorIndex := 18, attributes := #[] }, { accessFlags := 9, nameIndex := 840, descriptorIndex := 12, attributes := #[] }] 49 2 #[] #[{ accessFlags := 26, nameIndex := 715, descriptorIndex := 716, attributes := #[] }, { accessFlags := 26, nameIndex := 719, descriptorIndex := 716, attributes := #[] }, { accessFlags := 4120, nameIndex := 445, descriptorIndex := 117, attributes := #[] }])
  fields := #[{ name := "MIN_ARRAY_SORT_GRAN", type := .int, accessFlags := 26, slot := 0, constantValue := 0 }, { name := "INSERTIONSORT_THRESHOLD", type := .int, accessFlags := 26, slot := 1, constantValue := 0 }, { name := "$assertionsDisabled", type := .boolean, accessFlags := 4120, slot := 2, constantValue := 0 }]
  methods := #[k16m0, k16m1, k16m2]
  instanceTypes := #[]
  staticTypes := #[.int, .int, .boolean]
  resolved := Array.replicate 1029 none
  statics := none }

def pool17 : Array CpInfo := pool [(2, .class_ 4), (1, u "java/lang/Object"), (0, u "<init>"), (0, u "()V"), (1, .class_ 10), (1, u "java/lang/System"), (0, u "allowSecurityManager"), (0, u "I"), (16, u "cons"), (0, u "Ljava/io/Console;"), (77, .class_ 110), (1, u "java/lang/System$CallersHolder"), (43, u "initialErrStream"), (0, u "Ljava/io/PrintStream;"), (19, u "security"), (0, u "Ljava/lang/SecurityManager;"), (31, .class_ 209), (0, u "java/lang/System$1"), (7, u "props"), (0, u "Ljava/util/Properties;"), (2, u "lineSeparator"), (0, u "Ljava/lang/String;"), (96, .class_ 321), (1, u "java/lang/System$LoggerFinder"), (5, .class_ 328), (0, u "java/lang/System$Logger"), (67, u "err"), (2, u "out"), (91, u "notSupportedJnuEncoding"), (15, u "in"), (17, u "initialIn"), (0, u "Ljava/io/InputStream;"), (35, u "bootLayer"), (0, u "Ljava/lang/ModuleLayer;"), (99, .class_ 664), (0, u "java/lang/System$2"), (9, u "NEVER"), (2, u "MAYBE"), (49, u "arraycopy"), (0, u "(Ljava/lang/Object;ILjava/lang/Object;II)V"), (72, .class_ 802), (0, u "java/lang/System$Logger$Level")] 31

def k17m0 : Method := { name := "<init>", desc := "()V", sig := { parameters := [], returnType := none }, accessFlags := 2, code := none }
def k17m1 : Method := { name := "arraycopy", desc := "(Ljava/lang/Object;ILjava/lang/Object;II)V", sig := { parameters := [(.object "java/lang/Object"), .int, (.object "java/lang/Object"), .int, .int], returnType := none }, accessFlags := 265, code := none }
/-- java/lang/System -/
def k17 : Class := { plain "java/lang/System" (some 0) with
  accessFlags := 49
  interfaces := #[]
  cf := some (fileOf pool17 8 #[.nestMembers #[319, 327, 801, 108, 663, 208]] #[{ accessFlags := 2, nameIndex := 5, descriptorIndex := 6, attributes := #[] }, { accessFlags := 265, nameIndex := 727, descriptorIndex := 728, attributes := #[] }] 49 2 #[] #[{ accessFlags := 25, nameIndex := 507, descriptorIndex := 526, attributes := #[] }, { accessFlags := 25, nameIndex := 399, descriptorIndex := 155, attributes := #[] }, { accessFlags := 25, nameIndex := 396, descriptorIndex := 155, attributes := #[] }, { accessFlags := 10, nameIndex := 525, descriptorIndex := 526, attributes := #[] }, { accessFlags := 26, nameIndex := 674, descriptorIndex := 12, attributes := #[] }, { accessFlags := 26, nameIndex := 677, descriptorIndex := 12, attributes := #[] }, { accessFlags := 10, nameIndex := 11, descriptorIndex := 12, attributes := #[] }, { accessFlags := 74, nameIndex := 175, descriptorIndex := 176, attributes := #[] }, { accessFlags := 10, nameIndex := 491, descriptorIndex := 222, attributes := #[] }, { accessFlags := 74, nameIndex := 29, descriptorIndex := 30, attributes := #[] }, { accessFlags := 74, nameIndex := 154, descriptorIndex := 155, attributes := #[] }, { accessFlags := 10, nameIndex := 217, descriptorIndex := 218, attributes := #[] }, { accessFlags := 10, nameIndex := 221, descriptorIndex := 222, attributes := #[] }, { accessFlags := 8, nameIndex := 562, descriptorIndex := 563, attributes := #[] }])
  fields := #[{ name := "in", type := (.object "java/io/InputStream"), accessFlags := 25, slot := 0, constantValue := 0 }, { name := "out", type := (.object "java/io/PrintStream"), accessFlags := 25, slot := 1, constantValue := 0 }, { name := "err", type := (.object "java/io/PrintStream"), accessFlags := 25, slot := 2, constantValue := 0 }, { name := "initialIn", type := (.object "java/io/InputStream"), accessFlags := 10, slot := 3, constantValue := 0 }, { name := "NEVER", type := .int, accessFlags := 26, slot := 4, constantValue := 0 }, { name := "MAYBE", type := .int, accessFlags := 26, slot := 5, constantValue := 0 }, { name := "allowSecurityManager", type := .int, accessFlags := 10, slot := 6, constantValue := 0 }, { name := "security", type := (.object "java/lang/SecurityManager"), accessFlags := 74, slot := 7, constantValue := 0 }, { name := "notSupportedJnuEncoding", type := (.object "java/lang/String"), accessFlags := 10, slot := 8, constantValue := 0 }, { name := "cons", type := (.object "java/io/Console"), accessFlags := 74, slot := 9, constantValue := 0 }, { name := "initialErrStream", type := (.object "java/io/PrintStream"), accessFlags := 74, slot := 10, constantValue := 0 }, { name := "props", type := (.object "java/util/Properties"), accessFlags := 10, slot := 11, constantValue := 0 }, { name := "lineSeparator", type := (.object "java/lang/String"), accessFlags := 10, slot := 12, constantValue := 0 }, { name := "bootLayer", type := (.object "java/lang/ModuleLayer"), accessFlags := 8, slot := 13, constantValue := 0 }]
  methods := #[k17m0, k17m1]
  instanceTypes := #[]
  staticTypes := #[(.object "java/io/InputStream"), (.object "java/io/PrintStream"), (.object "java/io/PrintStream"), (.object "java/io/InputStream"), .int, .int, .int, (.object "java/lang/SecurityManager"), (.object "java/lang/String"), (.object "java/io/Console"), (.object "java/io/PrintStream"), (.object "java/util/Properties"), (.object "java/lang/String"), (.object "java/lang/ModuleLayer")]
  resolved := Array.replicate 834 none
  statics := none }

/-- the primitive byte -/
def k18 : Class := { plain "byte" none with kind := .primitive 'B', accessFlags := 0x411 }
/-- [B -/
def k19 : Class := { plain "[B" (some 0) with kind := .array 18 .byte, interfaces := #[9, 10], accessFlags := 1041 }

/-- the primitive int -/
def k20 : Class := { plain "int" none with kind := .primitive 'I', accessFlags := 0x411 }
/-- [I -/
def k21 : Class := { plain "[I" (some 0) with kind := .array 20 .int, interfaces := #[9, 10], accessFlags := 1041 }

/-- [Ljava/lang/Object; -/
def k22 : Class := { plain "[Ljava/lang/Object;" (some 0) with kind := .array 0 (.object "java/lang/Object"), interfaces := #[9, 10], accessFlags := 1041 }

def heap : Heap := #[{ cls := 11, slots := #[.long 0, .int 0, .ref 1, .ref 2], vm := .statics 11 },
  { cls := 22, slots := #[], vm := .none },
  { cls := 22, slots := #[], vm := .none }]
def classes : Array Class := #[k0, k1, k2, k3, k4, k5, k6, k7, k8, k9, k10, k11, k12, k13, k14, k15, k16, k17, k18, k19, k20, k21, k22]
def interned : List (Array UInt16 × Addr) := []
def slotsUsed : Nat := 4
def theMethod : MethodId := ⟨1, 3⟩
def args0 : Array Value := #[.int 1, .int 2, .int 3, .int 4, .int 5, .int 6]
def aboutOver (below : List Frame) : State where
  vm := { classes := classes, interned := interned.toArray }
  heap := heap
  slotsUsed := slotsUsed
  threads := #[{ frames := .invoking theMethod args0 :: below }]
def below0 : List Frame := [.native { method := ⟨0, 0⟩, args := #[] }]
def about1 : State := aboutOver below0
def p0 : Program := .bare "" "" ""
def e0 : Env := launch0.env 0 0 0
theorem w_frames : about1.frames = Frame.invoking theMethod args0 :: below0 := rfl
set_option maxRecDepth 65536 in
theorem w_args : argsFit about1.vm theMethod args0 = true := by decide +kernel
set_option maxRecDepth 65536 in
theorem w_heap : heapFits about1 = true := by decide +kernel
set_option maxRecDepth 65536 in
theorem w_runnable : about1.curStatus? = some .runnable := by decide +kernel
set_option maxRecDepth 65536 in
theorem w_alone : about1.alone = true := by decide +kernel
set_option maxRecDepth 65536 in
theorem w_named : about1.methodNamed? x = some theMethod := by decide +kernel
set_option maxRecDepth 65536 in
theorem w_hears : about1.hears theMethod below0 = true := by decide +kernel
set_option maxRecDepth 65536 in
theorem w_ripe : about1.ripe theMethod args0 below0 = true := by decide +kernel
theorem w_running : about1.status = .running := rfl
set_option maxRecDepth 65536 in
theorem w_room : about1.hasRoom e0.platform room_1 = true :=
  launch0.hasRoom_least _ room_1 (by decide +kernel) (by decide +kernel) (by decide +kernel) (by decide +kernel) (by decide +kernel) (by decide +kernel)
theorem allAtoms_all (ts : List Jvm.Cond) (a : Array Jvm.Value) (st : Jvm.State) : (allAtoms ts).before a st = ts.all (fun c => c.before a st) := by
  induction ts with
  | nil => rfl
  | cons c t ih =>
    show (Jvm.Cond.and c (allAtoms t)).before a st = _
    rw [Jvm.Cond.before_and, ih, List.all_cons]
def words1 : List Jvm.Cond := Jvm.Cond.code x code maxLocals ret :: tables_1
/-- a 'code' word, met by the world's own term for the bytes: nothing is compared byte by byte -/
theorem code_word {y : MethodName} {bytes : ByteArray} {mx : Nat} {rt : Option FieldType} {a : Array Value} {s : State} {m : MethodId} {meth : Method} {c : Code} (h1 : s.methodNamed? y = some m) (h2 : s.vm.method? m = some meth) (h3 : meth.code = some c) (h4 : c.code = bytes)
    (h5 : (c.maxLocals == mx && c.exceptionTable.isEmpty && decide (c.maxStack ≤ mostOperands) && decide (meth.sig.returnType = rt) && !meth.locks && decide (parseMethodDescriptor y.desc = some meth.sig)) = true) : (Jvm.Cond.code y bytes mx rt).before a s = true := by
  simp only [Bool.and_eq_true, beq_iff_eq, Bool.not_eq_true', decide_eq_true_eq] at h5
  obtain ⟨⟨⟨⟨⟨g1, g2⟩, g3⟩, g4⟩, g5⟩, g6⟩ := h5
  simp [Cond.before, Cond.holds, Cond.value, h1, h2, h3, h4, g1, g2, g3, g4, g5, g6]
def isCode : Jvm.Cond → Bool
  | .code _ _ _ _ => true
  | _ => false
theorem all_split {L : List Jvm.Cond} {P : Jvm.Cond → Bool} (h1 : L.all (fun c => isCode c || P c) = true) (h2 : ∀ c ∈ L.filter isCode, P c = true) : L.all P = true := by
  refine List.all_eq_true.mpr fun c hc => ?_
  have h := List.all_eq_true.mp h1 c hc
  rcases Bool.eq_false_or_eq_true (isCode c) with hi | hi
  · exact h2 c (List.mem_filter.mpr ⟨hc, hi⟩)
  · simpa [hi] using h
set_option maxRecDepth 65536 in
theorem w_c0 : (Jvm.Cond.code x code maxLocals ret).before args0 about1 = true := code_word (m := ⟨1, 3⟩) (meth := k1m3) (c := k1c3) (by decide +kernel) rfl rfl rfl (by decide +kernel)
set_option maxRecDepth 65536 in
theorem w_c1 : (Jvm.Cond.code ({ cls := "java/util/ArrayList", name := "<init>", desc := "()V" } : Jvm.MethodName) jdk_38_method_2_code (1 : Nat) (Option.none : Option Jvm.ClassFile.FieldType)).before args0 about1 = true := code_word (m := ⟨11, 0⟩) (meth := k11m0) (c := k11c0) (by decide +kernel) rfl rfl rfl (by decide +kernel)
set_option maxRecDepth 65536 in
theorem w_c2 : (Jvm.Cond.code ({ cls := "java/util/AbstractList", name := "<init>", desc := "()V" } : Jvm.MethodName) jdk_39_method_1_code (1 : Nat) (Option.none : Option Jvm.ClassFile.FieldType)).before args0 about1 = true := code_word (m := ⟨7, 0⟩) (meth := k7m0) (c := k7c0) (by decide +kernel) rfl rfl rfl (by decide +kernel)
set_option maxRecDepth 65536 in
theorem w_c3 : (Jvm.Cond.code ({ cls := "java/util/AbstractCollection", name := "<init>", desc := "()V" } : Jvm.MethodName) jdk_22_method_1_code (1 : Nat) (Option.none : Option Jvm.ClassFile.FieldType)).before args0 about1 = true := code_word (m := ⟨4, 0⟩) (meth := k4m0) (c := k4c0) (by decide +kernel) rfl rfl rfl (by decide +kernel)
set_option maxRecDepth 65536 in
theorem w_c4 : (Jvm.Cond.code ({ cls := "java/lang/Object", name := "<init>", desc := "()V" } : Jvm.MethodName) object_method_1_code (1 : Nat) (Option.none : Option Jvm.ClassFile.FieldType)).before args0 about1 = true := code_word (m := ⟨0, 0⟩) (meth := k0m0) (c := k0c0) (by decide +kernel) rfl rfl rfl (by decide +kernel)
set_option maxRecDepth 65536 in
theorem w_c5 : (Jvm.Cond.code ({ cls := "com/example/arbor2/arbor2/analysis/TracksReachedFromPinLaw", name := "blank", desc := "(I)[I" } : Jvm.MethodName) method_2_code (1 : Nat) (Option.some (Jvm.ClassFile.FieldType.array Jvm.ClassFile.FieldType.int))).before args0 about1 = true := code_word (m := ⟨1, 1⟩) (meth := k1m1) (c := k1c1) (by decide +kernel) rfl rfl rfl (by decide +kernel)
set_option maxRecDepth 65536 in
theorem w_c6 : (Jvm.Cond.code ({ cls := "java/util/ArrayList", name := "add", desc := "(Ljava/lang/Object;)Z" } : Jvm.MethodName) jdk_38_method_25_code (2 : Nat) (Option.some Jvm.ClassFile.FieldType.boolean)).before args0 about1 = true := code_word (m := ⟨11, 6⟩) (meth := k11m6) (c := k11c6) (by decide +kernel) rfl rfl rfl (by decide +kernel)
set_option maxRecDepth 65536 in
theorem w_c7 : (Jvm.Cond.code ({ cls := "java/util/ArrayList", name := "add", desc := "(Ljava/lang/Object;[Ljava/lang/Object;I)V" } : Jvm.MethodName) jdk_38_method_24_code (4 : Nat) (Option.none : Option Jvm.ClassFile.FieldType)).before args0 about1 = true := code_word (m := ⟨11, 5⟩) (meth := k11m5) (c := k11c5) (by decide +kernel) rfl rfl rfl (by decide +kernel)
set_option maxRecDepth 65536 in
theorem w_c8 : (Jvm.Cond.code ({ cls := "java/util/ArrayList", name := "grow", desc := "()[Ljava/lang/Object;" } : Jvm.MethodName) jdk_38_method_7_code (1 : Nat) (Option.some (Jvm.ClassFile.FieldType.array (Jvm.ClassFile.FieldType.object "java/lang/Object")))).before args0 about1 = true := code_word (m := ⟨11, 2⟩) (meth := k11m2) (c := k11c2) (by decide +kernel) rfl rfl rfl (by decide +kernel)
set_option maxRecDepth 65536 in
theorem w_c9 : (Jvm.Cond.code ({ cls := "java/util/ArrayList", name := "grow", desc := "(I)[Ljava/lang/Object;" } : Jvm.MethodName) jdk_38_method_6_code (4 : Nat) (Option.some (Jvm.ClassFile.FieldType.array (Jvm.ClassFile.FieldType.object "java/lang/Object")))).before args0 about1 = true := code_word (m := ⟨11, 1⟩) (meth := k11m1) (c := k11c1) (by decide +kernel) rfl rfl rfl (by decide +kernel)
set_option maxRecDepth 65536 in
theorem w_c10 : (Jvm.Cond.code ({ cls := "java/lang/Math", name := "max", desc := "(II)I" } : Jvm.MethodName) jdk_29_method_65_code (2 : Nat) (Option.some Jvm.ClassFile.FieldType.int)).before args0 about1 = true := code_word (m := ⟨12, 1⟩) (meth := k12m1) (c := k12c1) (by decide +kernel) rfl rfl rfl (by decide +kernel)
set_option maxRecDepth 65536 in
theorem w_c11 : (Jvm.Cond.code ({ cls := "com/example/arbor2/arbor2/analysis/Tracks", name := "<init>", desc := "([ILjava/util/List;IZ)V" } : Jvm.MethodName) prog_46_method_1_code (6 : Nat) (Option.none : Option Jvm.ClassFile.FieldType)).before args0 about1 = true := code_word (m := ⟨13, 0⟩) (meth := k13m0) (c := k13c0) (by decide +kernel) rfl rfl rfl (by decide +kernel)
set_option maxRecDepth 65536 in
theorem w_c12 : (Jvm.Cond.code ({ cls := "java/util/ArrayList", name := "get", desc := "(I)Ljava/lang/Object;" } : Jvm.MethodName) jdk_38_method_20_code (2 : Nat) (Option.some (Jvm.ClassFile.FieldType.object "java/lang/Object"))).before args0 about1 = true := code_word (m := ⟨11, 4⟩) (meth := k11m4) (c := k11c4) (by decide +kernel) rfl rfl rfl (by decide +kernel)
set_option maxRecDepth 65536 in
theorem w_c13 : (Jvm.Cond.code ({ cls := "java/util/Objects", name := "checkIndex", desc := "(II)I" } : Jvm.MethodName) jdk_31_method_17_code (2 : Nat) (Option.some Jvm.ClassFile.FieldType.int)).before args0 about1 = true := code_word (m := ⟨14, 1⟩) (meth := k14m1) (c := k14c1) (by decide +kernel) rfl rfl rfl (by decide +kernel)
set_option maxRecDepth 65536 in
theorem w_c14 : (Jvm.Cond.code ({ cls := "jdk/internal/util/Preconditions", name := "checkIndex", desc := "(IILjava/util/function/BiFunction;)I" } : Jvm.MethodName) jdk_41_method_11_code (3 : Nat) (Option.some Jvm.ClassFile.FieldType.int)).before args0 about1 = true := code_word (m := ⟨15, 1⟩) (meth := k15m1) (c := k15c1) (by decide +kernel) rfl rfl rfl (by decide +kernel)
set_option maxRecDepth 65536 in
theorem w_c15 : (Jvm.Cond.code ({ cls := "java/util/ArrayList", name := "elementData", desc := "(I)Ljava/lang/Object;" } : Jvm.MethodName) jdk_38_method_18_code (2 : Nat) (Option.some (Jvm.ClassFile.FieldType.object "java/lang/Object"))).before args0 about1 = true := code_word (m := ⟨11, 3⟩) (meth := k11m3) (c := k11c3) (by decide +kernel) rfl rfl rfl (by decide +kernel)
set_option maxRecDepth 65536 in
theorem w_c16 : (Jvm.Cond.code ({ cls := "java/util/Arrays", name := "fill", desc := "([IIII)V" } : Jvm.MethodName) jdk_65_method_104_code (5 : Nat) (Option.none : Option Jvm.ClassFile.FieldType)).before args0 about1 = true := code_word (m := ⟨16, 2⟩) (meth := k16m2) (c := k16c2) (by decide +kernel) rfl rfl rfl (by decide +kernel)
set_option maxRecDepth 65536 in
theorem w_c17 : (Jvm.Cond.code ({ cls := "java/util/Arrays", name := "rangeCheck", desc := "(III)V" } : Jvm.MethodName) jdk_65_method_30_code (3 : Nat) (Option.none : Option Jvm.ClassFile.FieldType)).before args0 about1 = true := code_word (m := ⟨16, 1⟩) (meth := k16m1) (c := k16c1) (by decide +kernel) rfl rfl rfl (by decide +kernel)
set_option maxRecDepth 65536 in
theorem w_c18 : (Jvm.Cond.code ({ cls := "com/example/arbor2/arbor2/analysis/TracksReachedFromPinLaw", name := "pick", desc := "(IIII)I" } : Jvm.MethodName) method_3_code (4 : Nat) (Option.some Jvm.ClassFile.FieldType.int)).before args0 about1 = true := code_word (m := ⟨1, 2⟩) (meth := k1m2) (c := k1c2) (by decide +kernel) rfl rfl rfl (by decide +kernel)
set_option maxRecDepth 65536 in
theorem w_c19 : (Jvm.Cond.code ({ cls := "com/example/arbor2/arbor2/analysis/Tracks", name := "reachedFrom", desc := "(II[I[I)I" } : Jvm.MethodName) prog_46_method_3_code (7 : Nat) (Option.some Jvm.ClassFile.FieldType.int)).before args0 about1 = true := code_word (m := ⟨13, 1⟩) (meth := k13m1) (c := k13c1) (by decide +kernel) rfl rfl rfl (by decide +kernel)
def codes1 : List Jvm.Cond := [Jvm.Cond.code x code maxLocals ret, Jvm.Cond.code ({ cls := "java/util/ArrayList", name := "<init>", desc := "()V" } : Jvm.MethodName) jdk_38_method_2_code (1 : Nat) (Option.none : Option Jvm.ClassFile.FieldType), Jvm.Cond.code ({ cls := "java/util/AbstractList", name := "<init>", desc := "()V" } : Jvm.MethodName) jdk_39_method_1_code (1 : Nat) (Option.none : Option Jvm.ClassFile.FieldType), Jvm.Cond.code ({ cls := "java/util/AbstractCollection", name := "<init>", desc := "()V" } : Jvm.MethodName) jdk_22_method_1_code (1 : Nat) (Option.none : Option Jvm.ClassFile.FieldType), Jvm.Cond.code ({ cls := "java/lang/Object", name := "<init>", desc := "()V" } : Jvm.MethodName) object_method_1_code (1 : Nat) (Option.none : Option Jvm.ClassFile.FieldType), Jvm.Cond.code ({ cls := "com/example/arbor2/arbor2/analysis/TracksReachedFromPinLaw", name := "blank", desc := "(I)[I" } : Jvm.MethodName) method_2_code (1 : Nat) (Option.some (Jvm.ClassFile.FieldType.array Jvm.ClassFile.FieldType.int)), Jvm.Cond.code ({ cls := "java/util/ArrayList", name := "add", desc := "(Ljava/lang/Object;)Z" } : Jvm.MethodName) jdk_38_method_25_code (2 : Nat) (Option.some Jvm.ClassFile.FieldType.boolean), Jvm.Cond.code ({ cls := "java/util/ArrayList", name := "add", desc := "(Ljava/lang/Object;[Ljava/lang/Object;I)V" } : Jvm.MethodName) jdk_38_method_24_code (4 : Nat) (Option.none : Option Jvm.ClassFile.FieldType), Jvm.Cond.code ({ cls := "java/util/ArrayList", name := "grow", desc := "()[Ljava/lang/Object;" } : Jvm.MethodName) jdk_38_method_7_code (1 : Nat) (Option.some (Jvm.ClassFile.FieldType.array (Jvm.ClassFile.FieldType.object "java/lang/Object"))), Jvm.Cond.code ({ cls := "java/util/ArrayList", name := "grow", desc := "(I)[Ljava/lang/Object;" } : Jvm.MethodName) jdk_38_method_6_code (4 : Nat) (Option.some (Jvm.ClassFile.FieldType.array (Jvm.ClassFile.FieldType.object "java/lang/Object"))), Jvm.Cond.code ({ cls := "java/lang/Math", name := "max", desc := "(II)I" } : Jvm.MethodName) jdk_29_method_65_code (2 : Nat) (Option.some Jvm.ClassFile.FieldType.int), Jvm.Cond.code ({ cls := "com/example/arbor2/arbor2/analysis/Tracks", name := "<init>", desc := "([ILjava/util/List;IZ)V" } : Jvm.MethodName) prog_46_method_1_code (6 : Nat) (Option.none : Option Jvm.ClassFile.FieldType), Jvm.Cond.code ({ cls := "java/util/ArrayList", name := "get", desc := "(I)Ljava/lang/Object;" } : Jvm.MethodName) jdk_38_method_20_code (2 : Nat) (Option.some (Jvm.ClassFile.FieldType.object "java/lang/Object")), Jvm.Cond.code ({ cls := "java/util/Objects", name := "checkIndex", desc := "(II)I" } : Jvm.MethodName) jdk_31_method_17_code (2 : Nat) (Option.some Jvm.ClassFile.FieldType.int), Jvm.Cond.code ({ cls := "jdk/internal/util/Preconditions", name := "checkIndex", desc := "(IILjava/util/function/BiFunction;)I" } : Jvm.MethodName) jdk_41_method_11_code (3 : Nat) (Option.some Jvm.ClassFile.FieldType.int), Jvm.Cond.code ({ cls := "java/util/ArrayList", name := "elementData", desc := "(I)Ljava/lang/Object;" } : Jvm.MethodName) jdk_38_method_18_code (2 : Nat) (Option.some (Jvm.ClassFile.FieldType.object "java/lang/Object")), Jvm.Cond.code ({ cls := "java/util/Arrays", name := "fill", desc := "([IIII)V" } : Jvm.MethodName) jdk_65_method_104_code (5 : Nat) (Option.none : Option Jvm.ClassFile.FieldType), Jvm.Cond.code ({ cls := "java/util/Arrays", name := "rangeCheck", desc := "(III)V" } : Jvm.MethodName) jdk_65_method_30_code (3 : Nat) (Option.none : Option Jvm.ClassFile.FieldType), Jvm.Cond.code ({ cls := "com/example/arbor2/arbor2/analysis/TracksReachedFromPinLaw", name := "pick", desc := "(IIII)I" } : Jvm.MethodName) method_3_code (4 : Nat) (Option.some Jvm.ClassFile.FieldType.int), Jvm.Cond.code ({ cls := "com/example/arbor2/arbor2/analysis/Tracks", name := "reachedFrom", desc := "(II[I[I)I" } : Jvm.MethodName) prog_46_method_3_code (7 : Nat) (Option.some Jvm.ClassFile.FieldType.int)]
set_option maxRecDepth 65536 in
theorem codes_eq : words1.filter isCode = codes1 := rfl
theorem w_codes : ∀ c ∈ words1.filter isCode, c.before args0 about1 = true := by
  rw [codes_eq]
  intro c hc
  simp only [codes1, List.mem_cons, List.not_mem_nil, or_false] at hc
  rcases hc with rfl | rfl | rfl | rfl | rfl | rfl | rfl | rfl | rfl | rfl | rfl | rfl | rfl | rfl | rfl | rfl | rfl | rfl | rfl | rfl
  · exact w_c0
  · exact w_c1
  · exact w_c2
  · exact w_c3
  · exact w_c4
  · exact w_c5
  · exact w_c6
  · exact w_c7
  · exact w_c8
  · exact w_c9
  · exact w_c10
  · exact w_c11
  · exact w_c12
  · exact w_c13
  · exact w_c14
  · exact w_c15
  · exact w_c16
  · exact w_c17
  · exact w_c18
  · exact w_c19
set_option maxRecDepth 65536 in
theorem w_t1 : (words1.take 24).all (fun c => isCode c || c.before args0 about1) = true := by decide +kernel
set_option maxRecDepth 65536 in
theorem w_t2 : ((words1.drop 24).take 24).all (fun c => isCode c || c.before args0 about1) = true := by decide +kernel
set_option maxRecDepth 65536 in
theorem w_t3 : (((words1.drop 24).drop 24).take 24).all (fun c => isCode c || c.before args0 about1) = true := by decide +kernel
set_option maxRecDepth 65536 in
theorem w_t4 : ((((words1.drop 24).drop 24).drop 24).take 24).all (fun c => isCode c || c.before args0 about1) = true := by decide +kernel
set_option maxRecDepth 65536 in
theorem w_t5 : (((((words1.drop 24).drop 24).drop 24).drop 24).take 24).all (fun c => isCode c || c.before args0 about1) = true := by decide +kernel
set_option maxRecDepth 65536 in
theorem w_t6 : (((((words1.drop 24).drop 24).drop 24).drop 24).drop 24).all (fun c => isCode c || c.before args0 about1) = true := by decide +kernel
theorem w_tables : (allAtoms (Jvm.Cond.code x code maxLocals ret :: tables_1)).before args0 about1 = true := by
  rw [allAtoms_all]
  show words1.all (fun c => c.before args0 about1) = true
  refine all_split ?_ w_codes
  rw [← List.take_append_drop 24 words1, List.all_append, w_t1, ← List.take_append_drop 24 (words1.drop 24), List.all_append, w_t2, ← List.take_append_drop 24 ((words1.drop 24).drop 24), List.all_append, w_t3, ← List.take_append_drop 24 (((words1.drop 24).drop 24).drop 24), List.all_append, w_t4, ← List.take_append_drop 24 ((((words1.drop 24).drop 24).drop 24).drop 24), List.all_append, w_t5, w_t6]
  rfl
set_option maxRecDepth 65536 in
theorem w_rest : rest_1_c.before args0 about1 = true := by decide +kernel
set_option maxRecDepth 65536 in
theorem w_case : (Jvm.Cond.and given_1 narrow_1).before args0 about1 = true := by decide +kernel
theorem w_applies : (headSpec (Jvm.Cond.code x code maxLocals ret :: tables_1) room_1).applies x e0.platform about1 = true :=
  (Spec.applies_iff w_frames).mpr ⟨w_running, w_runnable, w_alone, w_named, w_hears, w_ripe, w_room, w_tables⟩
theorem atStart : AtStart classFile x code maxLocals ret World_1 tables_1 room_1 Calls_1 rest_1 Pre_1 launch0 p0 e0 about1 theMethod args0 below0 :=
  ⟨lists_1, trivial, launch0.admits_env _ _ _, launch0.least_env, fairChoices_fair.cas, fairChoices_fair.clock, w_frames, w_args, w_heap, w_applies, trivial, w_rest, w_case⟩
end start1
theorem witness_1 : WitnessClaimed_1 := ⟨start1.p0, start1.e0, start1.about1, start1.theMethod, start1.args0, start1.below0, start1.atStart⟩
end Jvm.Pilot.@@N@@
