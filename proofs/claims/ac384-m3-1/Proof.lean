import JvmDerived
import JvmDerived.Pilot.@@N@@Statement
import JvmDerived.Pilot.@@N@@Code
set_option linter.unusedVariables false
set_option linter.unusedSimpArgs false
namespace Jvm.Pilot.@@N@@
open Jvm Jvm.ClassFile Sem Op Lib Jvm.Free Jvm.Stand Jvm.LawKit Jvm.RoadKit Bundle Jvm.Pilot.@@N@@.Jvm.D
-- own kit: the walk's goal, the ends of a walk, arrays as functions of the place, calls by contract
section OwnKit
variable {p : Program} {l : Launch} {e : Env} {R : Room} {s : State} {m : MethodId} {args : Array Value} {below : List Frame} {meth : Method} {c : Code} {T : State} {locs : List Loc} {cells slots : Nat} {Z : State} {a0 : Array Value} {h h' : Heap} {kc ks : Nat} {Q : Option Value → Heap → List Loc → Prop} {tb : Tables} {B : State}
def Gq (tb : Tables) (e : Env) (below : List Frame) (s : State) (Q : Option Value → Heap → List Loc → Prop) (kc ks : Nat) (A : State) : Prop :=
  ∃ t o, Steps tb e below A t ∧ t.status = .running ∧ Ended t below o ∧ ∃ v L, o = .returned v ∧ Q v t.heap L ∧ FrameEnd s o t L kc ks
theorem Gq.go (A : State) (k : ∀ t, Steps tb e below A t → Steps tb e below B t) (g : Gq tb e below s Q kc ks A) : Gq tb e below s Q kc ks B := by
  obtain ⟨t, o, h1, h2⟩ := g
  exact ⟨t, o, k t h1, h2⟩
theorem Gq.start {T : State} {g g' : JFrame} (q : g = g') (k : Gq tb e below s Q kc ks (T.setTop g')) : Gq tb e below s Q kc ks (T.setTop g) := q ▸ k
theorem Gq.fin {A : State} (X : Stand p l e R s m args below meth c T locs cells slots) (hlocks : meth.locks = false) {v : Option Value} (hv : meth.sig.returnType = none → v = none)
    (st : ∀ fs, (∀ (f : JFrame) (acts : List Action), f.method = m → f.locked = none → f.entered = [] → (doReturn e (T.setTop f) acts v).1 = T.setFrames fs) → Steps p.tables e below A (T.setFrames fs))
    (h1 : cells ≤ kc) (h2 : slots ≤ ks) (q : Q v T.heap locs) : Gq p.tables e below s Q kc ks A := by
  obtain ⟨fs, hr, hrun, hended, hW, hsame⟩ := X.leave (v := v) hv hlocks
  exact ⟨_, _, st fs hr, hrun, hended, _, _, rfl, q, ⟨_, rfl⟩, hW, hsame.mono h1 h2⟩
theorem Gq.retI (X : Stand p l e R s m args below meth c T locs cells slots) (hx : p.tables.exec = Jvm.exec) (hlocks : meth.locks = false) {pc : Nat} {Ls : Array Slot} {w : Int32} {rest : List Value} {t : FieldType} (hret : meth.sig.returnType = some t)
    (ht : t = .int ∨ t = .boolean ∨ t = .byte ∨ t = .char ∨ t = .short) (hd : decode c.code pc = .ok (.ireturn, 1)) (hn : narrow t (.int w) = .int w) (h1 : cells ≤ kc) (h2 : slots ≤ ks) (q : Q (some (.int w)) T.heap locs) :
    Gq p.tables e below s Q kc ks (T.setTop (mkF m pc Ls (.int w :: rest))) :=
  Gq.fin X hlocks (fun h => by rw [hret] at h; cases h) (fun fs hr => retOut X hx hret hn (Or.inl ⟨rfl, ht, _, rfl⟩) hd hr) h1 h2 q
theorem Gq.retL (X : Stand p l e R s m args below meth c T locs cells slots) (hx : p.tables.exec = Jvm.exec) (hlocks : meth.locks = false) {pc : Nat} {Ls : Array Slot} {w : Int64} {rest : List Value} (hret : meth.sig.returnType = some .long)
    (hd : decode c.code pc = .ok (.lreturn, 1)) (h1 : cells ≤ kc) (h2 : slots ≤ ks) (q : Q (some (.long w)) T.heap locs) :
    Gq p.tables e below s Q kc ks (T.setTop (mkF m pc Ls (.long w :: rest))) :=
  Gq.fin X hlocks (fun h => by rw [hret] at h; cases h) (fun fs hr => retOut X hx hret rfl (Or.inr (Or.inl ⟨rfl, rfl, _, rfl⟩)) hd hr) h1 h2 q
theorem Gq.retA (X : Stand p l e R s m args below meth c T locs cells slots) (hx : p.tables.exec = Jvm.exec) (hlocks : meth.locks = false) {pc : Nat} {Ls : Array Slot} {w : Value} {rest : List Value} {t : FieldType} (hret : meth.sig.returnType = some t) (hn : narrow t w = w)
    (ht : t.isReference = true) (hw : w.isRef = true) (hd : decode c.code pc = .ok (.areturn, 1)) (h1 : cells ≤ kc) (h2 : slots ≤ ks) (q : Q (some w) T.heap locs) :
    Gq p.tables e below s Q kc ks (T.setTop (mkF m pc Ls (w :: rest))) :=
  Gq.fin X hlocks (fun h => by rw [hret] at h; cases h) (fun fs hr => retOut X hx hret hn (Or.inr (Or.inr (Or.inr (Or.inr ⟨rfl, ht, hw⟩)))) hd hr) h1 h2 q
theorem Gq.retV (X : Stand p l e R s m args below meth c T locs cells slots) (hx : p.tables.exec = Jvm.exec) (hlocks : meth.locks = false) {pc : Nat} {Ls : Array Slot} (hret : meth.sig.returnType = none)
    (hd : decode c.code pc = .ok (.return_, 1)) (h1 : cells ≤ kc) (h2 : slots ≤ ks) (q : Q none T.heap locs) : Gq p.tables e below s Q kc ks (T.setTop (mkF m pc Ls [])) :=
  Gq.fin X hlocks (fun _ => rfl) (fun fs hr => X.returnOut hx hret hd hr) h1 h2 q
/-- an array: n places, place j holds f j -/
def LA (Z : State) (h : Heap) (a : Addr) (ty : FieldType) (n : Nat) (f : Nat → Value) : Prop := ∃ c : Cell, Arr Z h a c ty ∧ c.slots.size = n ∧ n < 2 ^ 31 ∧ ∀ j, j < n → c.slots[j]? = some (f j)
def upd (f : Nat → Value) (j : Nat) (v : Value) : Nat → Value := fun i => if i = j then v else f i
def gl (vs : List Value) (d : Value) : Nat → Value := fun i => vs.getD i d
section Facts
variable {a b : Addr} {ty : FieldType} {n j : Nat} {f g : Nat → Value} {v d : Value} {sl : Nat} {ws : List Addr} {vs : List Value}
theorem LA.lt (F : LA Z h a ty n f) : a < h.size := by obtain ⟨c, A, -⟩ := F; exact A.lt
theorem LA.ext (F : LA Z h a ty n f) (E : Ext h h') : LA Z h' a ty n f := by obtain ⟨c, A, r⟩ := F; exact ⟨c, A.ext E, r⟩
theorem LA.other (F : LA Z h b ty n f) (W : Wr h h' a sl v) (q : b ≠ a) : LA Z h' b ty n f := by obtain ⟨c, A, r⟩ := F; exact ⟨c, A.other W q, r⟩
theorem LA.keep (F : LA Z h a ty n f) (K : Keep h h' ws) (q : a ∉ ws) : LA Z h' a ty n f := by obtain ⟨c, A, r⟩ := F; exact ⟨c, ⟨K.2.1 a c A.1 q, A.2⟩, r⟩
theorem LA.congr (F : LA Z h a ty n f) (q : ∀ j, j < n → f j = g j) : LA Z h a ty n g := by obtain ⟨c, A, r1, r2, r3⟩ := F; exact ⟨c, A, r1, r2, fun j hj => by rw [r3 j hj, q j hj]⟩
theorem LA.new {k : ClassId} {z : Int32} (A : Arr Z h a (newA k ty z) ty) (q : ¬ z < 0) (hn : z.toNatClampNeg = n) : LA Z h a ty n (fun _ => defaultValue ty) := by
  subst hn
  exact ⟨_, A, sz_new _ _ _, (back32 q).2, fun j hj => by simp [newA, hj]⟩
theorem LA.set (F : LA Z h a ty n f) (W : Wr h h' a j v) : LA Z h' a ty n (upd f j v) := by
  obtain ⟨c, A, r1, r2, r3⟩ := F
  refine ⟨_, A.same W, by rw [sz_set]; exact r1, r2, fun i hi => ?_⟩
  have e1 : i < c.slots.size := by omega
  have r := r3 i hi
  simp only [upd, Cell.setSlot]
  by_cases q : i = j
  · subst q; simp [e1]
  · rw [Array.getElem?_setIfInBounds_ne (Ne.symm q), if_neg q]; exact r
theorem LA.setL (F : LA Z h a ty n (gl vs d)) (W : Wr h h' a j v) (hj : j < vs.length) : LA Z h' a ty n (gl (vs.set j v) d) := by
  refine (F.set W).congr fun i hi => ?_
  simp only [upd, gl, List.getD_eq_getElem?_getD, List.getElem?_set]
  by_cases q : i = j
  · subst q; simp [hj]
  · rw [if_neg q, if_neg (Ne.symm q)]
theorem LA.list (F : LA Z h a ty n (fun _ => d)) : LA Z h a ty n (gl (List.replicate n d) d) := F.congr fun j hj => by
  simp [gl, List.getD_eq_getElem?_getD, List.getElem?_replicate, hj]
end Facts
section Steps
variable {a : Addr} {n i : Nat} {f : Nat → Value} {pc : Nat} {Ls : Array Slot} {rest : List Value} {j : Int32}
theorem inb {cl : Cell} (S : cl.slots.size = n) (hi : j.toNatClampNeg = i) (hj : ¬ j < 0) (hn : i < n) : ¬ (j < 0 ∨ cl.slots.size ≤ j.toNatClampNeg) := by
  intro q; rcases q with q | q
  · exact hj q
  · omega
theorem ldJ (X : Stand p l e R s m args below meth c T locs cells slots) (hx : p.tables.exec = Jvm.exec) (hZ : Z.Warmed39 s.vm) (eT : T.heap = h) (V : LA Z h a .long n f) {x : Int64} (hj : ¬ j < 0) (hi : j.toNatClampNeg = i) (hn : i < n) (hv : f i = .long x) (hd : decode c.code pc = .ok (.laload, 1)) :
    ∀ t, Steps p.tables e below (T.setTop (mkF m (pc + 1) Ls (.long x :: rest))) t → Steps p.tables e below (T.setTop (mkF m pc Ls (.int j :: .ref a :: rest))) t := fun t k => by
  obtain ⟨cl, A, S, -, H⟩ := V
  exact X.laload hx (by rw [eT]; exact A.1) (State.isArrayOf_alike hZ.alike A.2.1) A.2.2 (inb S hi hj hn) (by rw [hi, H i hn, hv]) (g := mkF m pc Ls (.int j :: .ref a :: rest)) rfl rfl hd _ k
theorem ldI (X : Stand p l e R s m args below meth c T locs cells slots) (hx : p.tables.exec = Jvm.exec) (hZ : Z.Warmed39 s.vm) (eT : T.heap = h) (V : LA Z h a .int n f) {x : Int32} (hj : ¬ j < 0) (hi : j.toNatClampNeg = i) (hn : i < n) (hv : f i = .int x) (hd : decode c.code pc = .ok (.iaload, 1)) :
    ∀ t, Steps p.tables e below (T.setTop (mkF m (pc + 1) Ls (.int x :: rest))) t → Steps p.tables e below (T.setTop (mkF m pc Ls (.int j :: .ref a :: rest))) t := fun t k => by
  obtain ⟨cl, A, S, -, H⟩ := V
  exact X.iaload hx (by rw [eT]; exact A.1) (State.isArrayOf_alike hZ.alike A.2.1) A.2.2 (inb S hi hj hn) (by rw [hi, H i hn, hv]) (g := mkF m pc Ls (.int j :: .ref a :: rest)) rfl rfl hd _ k
theorem ldB (X : Stand p l e R s m args below meth c T locs cells slots) (hx : p.tables.exec = Jvm.exec) (hZ : Z.Warmed39 s.vm) (eT : T.heap = h) (V : LA Z h a .byte n f) {x : Int32} (hj : ¬ j < 0) (hi : j.toNatClampNeg = i) (hn : i < n) (hv : f i = .int x) (hd : decode c.code pc = .ok (.baload, 1)) :
    ∀ t, Steps p.tables e below (T.setTop (mkF m (pc + 1) Ls (.int x :: rest))) t → Steps p.tables e below (T.setTop (mkF m pc Ls (.int j :: .ref a :: rest))) t := fun t k => by
  obtain ⟨cl, A, S, -, H⟩ := V
  exact X.baloadBytes hx (by rw [eT]; exact A.1) (State.isArrayOf_alike hZ.alike A.2.1) A.2.2 (inb S hi hj hn) (by rw [hi, H i hn, hv]) (g := mkF m pc Ls (.int j :: .ref a :: rest)) rfl rfl hd _ k
theorem lenA (X : Stand p l e R s m args below meth c T locs cells slots) (hx : p.tables.exec = Jvm.exec) (hZ : Z.Warmed39 s.vm) (eT : T.heap = h) {ty : FieldType} (V : LA Z h a ty n f) (hd : decode c.code pc = .ok (.arraylength, 1)) :
    ∀ t, Steps p.tables e below (T.setTop (mkF m (pc + 1) Ls (.int (Int32.ofNat n) :: rest))) t → Steps p.tables e below (T.setTop (mkF m pc Ls (.ref a :: rest))) t := fun t k => by
  obtain ⟨cl, A, S, -, H⟩ := V
  refine X.arraylength hx (by rw [eT]; exact A.1) (State.isArrayOf_alike hZ.alike A.2.1) (g := mkF m pc Ls (.ref a :: rest)) rfl rfl hd _ ?_
  rw [S]; exact k
theorem stoJ (X : Stand p l e R s m args below meth c T locs cells slots) (hx : p.tables.exec = Jvm.exec) (hZ : Z.Warmed39 s.vm) (eT : T.heap = h) (V : LA Z h a .long n f) {x : Int64} (hj : ¬ j < 0) (hi : j.toNatClampNeg = i) (hn : i < n) (hd : decode c.code pc = .ok (.lastore, 1)) :
    ∃ T' h', Stand p l e R s m args below meth c T' (locs ++ [⟨a, i⟩]) cells slots ∧ T'.heap = h' ∧ Wr h h' a i (.long x) ∧ ∀ t, Steps p.tables e below (T'.setTop (mkF m (pc + 1) Ls rest)) t → Steps p.tables e below (T.setTop (mkF m pc Ls (.long x :: .int j :: .ref a :: rest))) t := by
  obtain ⟨cl, A, S, -, H⟩ := V
  obtain ⟨T', h', X', e', W, st⟩ := stJ X hx hZ eT A (j := j) (x := x) (inb S hi hj hn) (g := mkF m pc Ls (.long x :: .int j :: .ref a :: rest)) rfl rfl hd
  subst hi
  exact ⟨T', h', X', e', W, st⟩
theorem stoI (X : Stand p l e R s m args below meth c T locs cells slots) (hx : p.tables.exec = Jvm.exec) (hZ : Z.Warmed39 s.vm) (eT : T.heap = h) (V : LA Z h a .int n f) {x : Int32} (hj : ¬ j < 0) (hi : j.toNatClampNeg = i) (hn : i < n) (hd : decode c.code pc = .ok (.iastore, 1)) :
    ∃ T' h', Stand p l e R s m args below meth c T' (locs ++ [⟨a, i⟩]) cells slots ∧ T'.heap = h' ∧ Wr h h' a i (.int x) ∧ ∀ t, Steps p.tables e below (T'.setTop (mkF m (pc + 1) Ls rest)) t → Steps p.tables e below (T.setTop (mkF m pc Ls (.int x :: .int j :: .ref a :: rest))) t := by
  obtain ⟨cl, A, S, -, H⟩ := V
  obtain ⟨T', h', X', e', W, st⟩ := stI X hx hZ eT A (j := j) (x := x) (inb S hi hj hn) (g := mkF m pc Ls (.int x :: .int j :: .ref a :: rest)) rfl rfl hd
  subst hi
  exact ⟨T', h', X', e', W, st⟩
theorem stoB (X : Stand p l e R s m args below meth c T locs cells slots) (hx : p.tables.exec = Jvm.exec) (hZ : Z.Warmed39 s.vm) (eT : T.heap = h) (V : LA Z h a .byte n f) {x : Int32} (hj : ¬ j < 0) (hi : j.toNatClampNeg = i) (hn : i < n) (hd : decode c.code pc = .ok (.bastore, 1)) :
    ∃ T' h', Stand p l e R s m args below meth c T' (locs ++ [⟨a, i⟩]) cells slots ∧ T'.heap = h' ∧ Wr h h' a i (.int x.toInt8.toInt32) ∧ ∀ t, Steps p.tables e below (T'.setTop (mkF m (pc + 1) Ls rest)) t → Steps p.tables e below (T.setTop (mkF m pc Ls (.int x :: .int j :: .ref a :: rest))) t := by
  obtain ⟨cl, A, S, -, H⟩ := V
  obtain ⟨T', h', X', e', W, st⟩ := stB X hx hZ eT A (j := j) (x := x) (inb S hi hj hn) (g := mkF m pc Ls (.int x :: .int j :: .ref a :: rest)) rfl rfl hd
  subst hi
  exact ⟨T', h', X', e', W, st⟩
theorem mkA (X : Stand p l e R s m args below meth c T locs cells slots) (hx : p.tables.exec = Jvm.exec) (hZ : Z.Warmed39 s.vm) {aty : ArrayType} (w : (Cond.arrayClass (newarray.typeOf aty)).before a0 Z = true) (eT : T.heap = h) {z : Int32} (hz : ¬ z < 0) (hn : z.toNatClampNeg = n)
    (hb : n * 8 ≤ 536870912) (hc : cells + 1 ≤ R.cells) (hl : slots + n ≤ R.slots) (hd : decode c.code pc = .ok (.newarray aty, 2)) :
    ∃ T' h' b, Stand p l e R s m args below meth c T' locs (cells + 1) (slots + n) ∧ T'.heap = h' ∧ Ext h h' ∧ b = h.size ∧ LA Z h' b (newarray.typeOf aty) n (fun _ => defaultValue (newarray.typeOf aty)) ∧
      ∀ t, Steps p.tables e below (T'.setTop (mkF m (pc + 2) Ls (.ref b :: rest))) t → Steps p.tables e below (T.setTop (mkF m pc Ls (.int z :: rest))) t := by
  obtain ⟨T', h', k, X', e', E, A, st⟩ := newP X hx hZ w eT (g := mkF m pc Ls (.int z :: rest)) rfl hd rfl hz (cap := n) (Nat.le_of_eq hn) hb hc hl
  exact ⟨T', h', _, X', e', E, rfl, LA.new A hz hn, st⟩
end Steps
section Calls
variable {own : String} {index : Nat} {y : MethodName} {bytes : ByteArray} {maxL : Nat} {ret : Option FieldType} {rm : Room} {W pc : Nat} {Ls : Array Slot} {Qc : Option Value → Heap → List Loc → Prop} {ps : List FieldType} {r : Option FieldType}
theorem callT (X : Stand p l e R s m args below meth c T locs cells slots) (hx : p.tables.exec = Jvm.exec) (hZ : Z.Warmed39 s.vm) (hown : s.vm.findClass own = some m.cls) (eT : T.heap = h) (argsL rest : List Value)
    (w1 : (Cond.methodLink own index y).before a0 Z = true) (w2 : (Cond.static y).before a0 Z = true) (w3 : (Cond.initialized y.cls).before a0 Z = true) (w4 : (Cond.code y bytes maxL ret).before a0 Z = true)
    (hy : y.cls ≠ "java/lang/invoke/MethodHandle" ∧ y.cls ≠ "java/lang/invoke/VarHandle")
    (hM : MetFree l y (head1 [Cond.code y bytes maxL ret] rm) (fun a U => a = argsL.toArray ∧ Z.Warmed39 U.vm ∧ U.heap = h) (fun _ _ _ _ _ => True) (fun _ U o U' => ∃ v L, o = .returned v ∧ Qc v U'.heap L ∧ FrameEnd U o U' L rm.cells rm.slots))
    (hpd : parseMethodDescriptor y.desc = some ⟨ps, r⟩) (hll : argsL.length = ps.length) (hsize : Ls.size = c.maxLocals) (hW : 2 * 0 + (rest.map fun v => v.category).sum ≤ W)
    (hf : rm.frames + 1 ≤ R.frames) (hl : W + (maxL + 11) + rm.locals ≤ R.locals) (hc : cells + rm.cells ≤ R.cells) (hs : slots + rm.slots ≤ R.slots) (hd : decode c.code pc = .ok (.invokestatic index, 3)) :
    ∃ v T' L, Stand p l e R s m args below meth c T' (locs ++ L) (cells + rm.cells) (slots + rm.slots) ∧ Qc v T'.heap L ∧
      ∀ t, Steps p.tables e below (T'.setTop (mkF m (pc + 3) Ls (v.toList ++ rest))) t → Steps p.tables e below (T.setTop (mkF m pc Ls (argsL.reverse ++ rest))) t := by
  obtain ⟨v, vm1, ⟨T', L', k', n'⟩, -, X', ⟨L, hQ, e1, e2, e3⟩, st⟩ := Jvm.LawKit.callS X hx (y := y) hown (mvT hZ w1) (mvT hZ w2) (mvT hZ w3) (mvT hZ w4) hy (backOf (W := W) hM hZ w4 w3 hf hl) (g := mkF m pc Ls (argsL.reverse ++ rest)) rfl hsize (argsL := argsL) (rest := rest) (lenOf hpd hll) rfl hW hd (fun _ _ => ⟨rfl, eT, hc, hs⟩)
  dsimp only [Pt.U, Pt.locs, Pt.cells, Pt.slots] at X' e1 e2 e3 st hQ
  subst e1 e2 e3
  exact ⟨v, T', L, X', hQ, st⟩
theorem callI (X : Stand p l e R s m args below meth c T locs cells slots) (hx : p.tables.exec = Jvm.exec) (hZ : Z.Warmed39 s.vm) (hown : s.vm.findClass own = some m.cls) (eT : T.heap = h) (a : Addr) (argsL rest : List Value)
    (w1 : (Cond.methodLink own index y).before a0 Z = true) (w2 : (Cond.instanceMethod y).before a0 Z = true) (w3 : (Cond.initialized y.cls).before a0 Z = true) (w4 : (Cond.code y bytes maxL none).before a0 Z = true) (hy1 : y.name = "<init>")
    (hy : y.cls ≠ "java/lang/invoke/MethodHandle" ∧ y.cls ≠ "java/lang/invoke/VarHandle")
    (hM : MetFree l y (head1 [Cond.code y bytes maxL none] rm) (fun a' U => a' = (.ref a :: argsL).toArray ∧ Z.Warmed39 U.vm ∧ U.heap = h) (fun _ _ _ _ _ => True) (fun _ U o U' => ∃ v L, o = .returned v ∧ Qc v U'.heap L ∧ FrameEnd U o U' L rm.cells rm.slots))
    (hpd : parseMethodDescriptor y.desc = some ⟨ps, r⟩) (hll : argsL.length = ps.length) (hsize : Ls.size = c.maxLocals) (hW : 2 * 0 + (rest.map fun v => v.category).sum ≤ W)
    (hf : rm.frames + 1 ≤ R.frames) (hl : W + (maxL + 11) + rm.locals ≤ R.locals) (hc : cells + rm.cells ≤ R.cells) (hs : slots + rm.slots ≤ R.slots) (hd : decode c.code pc = .ok (.invokespecial index, 3)) :
    ∃ v T' L, Stand p l e R s m args below meth c T' (locs ++ L) (cells + rm.cells) (slots + rm.slots) ∧ Qc v T'.heap L ∧
      ∀ t, Steps p.tables e below (T'.setTop (mkF m (pc + 3) Ls (v.toList ++ rest))) t → Steps p.tables e below (T.setTop (mkF m pc Ls (argsL.reverse ++ .ref a :: rest))) t := by
  obtain ⟨v, vm1, ⟨T', L', k', n'⟩, -, X', ⟨L, hQ, e1, e2, e3⟩, st⟩ := X.specialBack hx (y := y) hy1 hown (mvT hZ w1) (mvT hZ w2) (mvT hZ w4) hy (backOf (W := W) hM hZ w4 w3 hf hl) (g := mkF m pc Ls (argsL.reverse ++ .ref a :: rest)) rfl hsize (Steps.refl _) (a := a) (argsL := argsL) (rest := rest) (lenOf hpd hll) rfl hW hd (fun _ _ => ⟨rfl, eT, hc, hs⟩)
  dsimp only [Pt.U, Pt.locs, Pt.cells, Pt.slots] at X' e1 e2 e3 st hQ
  subst e1 e2 e3
  exact ⟨v, T', L, X', hQ, fun t k => st.trans k⟩
theorem callV (X : Stand p l e R s m args below meth c T locs cells slots) (hx : p.tables.exec = Jvm.exec) (hZ : Z.Warmed39 s.vm) (hown : s.vm.findClass own = some m.cls) (eT : T.heap = h) (a : Addr) (argsL rest : List Value) {C : String} (E : Exa Z h a C)
    (w1 : (Cond.methodLink own index y).before a0 Z = true) (w2 : (Cond.declares y).before a0 Z = true) (w5 : (Cond.selects C y y).before a0 Z = true) (w6 : (Cond.instanceMethod y).before a0 Z = true) (w3 : (Cond.initialized y.cls).before a0 Z = true) (w4 : (Cond.code y bytes maxL ret).before a0 Z = true)
    (hy : y.cls ≠ "java/lang/invoke/MethodHandle" ∧ y.cls ≠ "java/lang/invoke/VarHandle")
    (hM : MetFree l y (head1 [Cond.code y bytes maxL ret] rm) (fun a' U => a' = (.ref a :: argsL).toArray ∧ Z.Warmed39 U.vm ∧ U.heap = h) (fun _ _ _ _ _ => True) (fun _ U o U' => ∃ v L, o = .returned v ∧ Qc v U'.heap L ∧ FrameEnd U o U' L rm.cells rm.slots))
    (hpd : parseMethodDescriptor y.desc = some ⟨ps, r⟩) (hll : argsL.length = ps.length) (hsize : Ls.size = c.maxLocals) (hW : 2 * 0 + (rest.map fun v => v.category).sum ≤ W)
    (hf : rm.frames + 1 ≤ R.frames) (hl : W + (maxL + 11) + rm.locals ≤ R.locals) (hc : cells + rm.cells ≤ R.cells) (hs : slots + rm.slots ≤ R.slots) (hd : decode c.code pc = .ok (.invokevirtual index, 3)) :
    ∃ v T' L, Stand p l e R s m args below meth c T' (locs ++ L) (cells + rm.cells) (slots + rm.slots) ∧ Qc v T'.heap L ∧
      ∀ t, Steps p.tables e below (T'.setTop (mkF m (pc + 3) Ls (v.toList ++ rest))) t → Steps p.tables e below (T.setTop (mkF m pc Ls (argsL.reverse ++ .ref a :: rest))) t := by
  obtain ⟨cq, kq, qa, qb, qc⟩ := isOf hZ eT E
  obtain ⟨v, vm1, ⟨T', L', k', n'⟩, -, X', ⟨L, hQ, e1, e2, e3⟩, st⟩ := X.virtualBack hx (y := y) (z := y) hown (mvT hZ w1) (mvT hZ w2) (notFace_of_selects (args := #[]) (mvT hZ w5)) (mvT hZ w5) (mvT hZ w6) hy (backOf (W := W) hM hZ w4 w3 hf hl) qa qc (g := mkF m pc Ls (argsL.reverse ++ .ref a :: rest)) rfl hsize (Steps.refl _) (argsL := argsL) (rest := rest) (lenOf hpd hll) rfl hW hd (fun _ _ => ⟨rfl, eT, hc, hs⟩)
  dsimp only [Pt.U, Pt.locs, Pt.cells, Pt.slots] at X' e1 e2 e3 st hQ
  subst e1 e2 e3
  exact ⟨v, T', L, X', hQ, fun t k => st.trans k⟩
end Calls
end OwnKit
-- own kit, second part: arrays with their class, clone, references in arrays, private and interface calls
section OwnKit2
variable {p : Program} {l : Launch} {e : Env} {R : Room} {s : State} {m : MethodId} {args : Array Value} {below : List Frame} {meth : Method} {c : Code} {T : State} {locs : List Loc} {cells slots : Nat} {Z : State} {a0 : Array Value} {h h' : Heap}
section Steps
variable {a : Addr} {n i : Nat} {f : Nat → Value} {pc : Nat} {Ls : Array Slot} {rest : List Value} {j : Int32}
theorem mkAE (X : Stand p l e R s m args below meth c T locs cells slots) (hx : p.tables.exec = Jvm.exec) (hZ : Z.Warmed39 s.vm) {aty : ArrayType} (w : (Cond.arrayClass (newarray.typeOf aty)).before a0 Z = true) (eT : T.heap = h) {z : Int32} (hz : ¬ z < 0) (hn : z.toNatClampNeg = n)
    (hb : n * 8 ≤ 536870912) (hc : cells + 1 ≤ R.cells) (hl : slots + n ≤ R.slots) {ad : String} (had : "[" ++ (newarray.typeOf aty).toString = ad) (hd : decode c.code pc = .ok (.newarray aty, 2)) :
    ∃ T' h' b, Stand p l e R s m args below meth c T' locs (cells + 1) (slots + n) ∧ T'.heap = h' ∧ Ext h h' ∧ b = h.size ∧ LA Z h' b (newarray.typeOf aty) n (fun _ => defaultValue (newarray.typeOf aty)) ∧ Exa Z h' b ad ∧
      ∀ t, Steps p.tables e below (T'.setTop (mkF m (pc + 2) Ls (.ref b :: rest))) t → Steps p.tables e below (T.setTop (mkF m pc Ls (.int z :: rest))) t := by
  obtain ⟨T', h', k, X', e', E, A, EX, st⟩ := newPE X hx hZ w eT (g := mkF m pc Ls (.int z :: rest)) rfl hd rfl hz (cap := n) (Nat.le_of_eq hn) hb hc hl had
  exact ⟨T', h', _, X', e', E, rfl, LA.new A hz hn, EX, st⟩
theorem cloneL (X : Stand p l e R s m args below meth c T locs cells slots) (hx : p.tables.exec = Jvm.exec) (hZ : Z.Warmed39 s.vm) {own ad : String} {index : Nat} (hown : s.vm.findClass own = some m.cls)
    (w1 : (Cond.methodLink own index ⟨ad, "clone", "()Ljava/lang/Object;"⟩).before a0 Z = true) (w2 : (Cond.sameMethod ad "java/lang/Object" "clone" "()Ljava/lang/Object;").before a0 Z = true) (w3 : (Cond.native ⟨"java/lang/Object", "clone", "()Ljava/lang/Object;"⟩).before a0 Z = true)
    (w4 : (Cond.instanceMethod ⟨"java/lang/Object", "clone", "()Ljava/lang/Object;"⟩).before a0 Z = true) (w5 : (Cond.selects ad ⟨ad, "clone", "()Ljava/lang/Object;"⟩ ⟨"java/lang/Object", "clone", "()Ljava/lang/Object;"⟩).before a0 Z = true) (w6 : (Cond.castable ad "java/lang/Cloneable").before a0 Z = true)
    (eT : T.heap = h) {ty : FieldType} (V : LA Z h a ty n f) (E : Exa Z h a ad) (hfit : ∀ j, j < n → fits ty (f j) = true) (hsize : Ls.size = c.maxLocals) (hd : decode c.code pc = .ok (.invokevirtual index, 3))
    (hf : 1 ≤ R.frames) {W : Nat} (hW : 2 * 0 + (rest.map fun v => v.category).sum ≤ W) (hl : W + 14 ≤ R.locals) (hc : cells + 1 ≤ R.cells) (hsl : slots + n ≤ R.slots) :
    ∃ T' h' b, Stand p l e R s m args below meth c T' locs (cells + 1) (slots + n) ∧ T'.heap = h' ∧ Ext h h' ∧ b = h.size ∧ LA Z h' b ty n f ∧ Exa Z h' b ad ∧
      ∀ t, Steps p.tables e below (T'.setTop (mkF m (pc + 3) Ls (.ref b :: rest))) t → Steps p.tables e below (T.setTop (mkF m pc Ls (.ref a :: rest))) t := by
  obtain ⟨cl, A, S, hn, H⟩ := V
  have F : FitC Z cl := fitC_of A fun i hi v hv => by
    rw [H i (by omega)] at hv; cases hv; exact hfit i (by omega)
  obtain ⟨T', h', X', e', ex, A', E', st⟩ := cloneA X hx hZ hown w1 w2 w3 w4 w5 w6 eT A E F (g := mkF m pc Ls (.ref a :: rest)) rfl hsize rfl hd hf hW hl (cap := n) (by omega) hc hsl
  exact ⟨T', h', _, X', e', ex, rfl, ⟨cloneOf cl, A', S, hn, H⟩, E', st⟩
theorem mkC (X : Stand p l e R s m args below meth c T locs cells slots) (hx : p.tables.exec = Jvm.exec) (hZ : Z.Warmed39 s.vm) {aty : ArrayType} (w : (Cond.arrayClass (newarray.typeOf aty)).before a0 Z = true) (eT : T.heap = h) {z : Int32} (hz : ¬ z < 0) (hn : z.toNatClampNeg = n) (cap : Nat) (hcap : n ≤ cap)
    (hb : cap * 8 ≤ 536870912) (hc : cells + 1 ≤ R.cells) (hl : slots + cap ≤ R.slots) (hd : decode c.code pc = .ok (.newarray aty, 2)) :
    ∃ T' h' b, Stand p l e R s m args below meth c T' locs (cells + 1) (slots + cap) ∧ T'.heap = h' ∧ Ext h h' ∧ b = h.size ∧ LA Z h' b (newarray.typeOf aty) n (fun _ => defaultValue (newarray.typeOf aty)) ∧
      ∀ t, Steps p.tables e below (T'.setTop (mkF m (pc + 2) Ls (.ref b :: rest))) t → Steps p.tables e below (T.setTop (mkF m pc Ls (.int z :: rest))) t := by
  obtain ⟨T', h', k, X', e', E, A, st⟩ := newP X hx hZ w eT (g := mkF m pc Ls (.int z :: rest)) rfl hd rfl hz (cap := cap) (by omega) hb hc hl
  exact ⟨T', h', _, X', e', E, rfl, LA.new A hz hn, st⟩
end Steps
/-- an Object[]: its class takes objects; n places, place j holds f j -/
def RA (Z : State) (h : Heap) (a : Addr) (n : Nat) (f : Nat → Value) : Prop := ∃ c : Cell, Arr Z h a c (.object "java/lang/Object") ∧ Ovr Z c.cls "java/lang/Object" ∧ c.slots.size = n ∧ n < 2 ^ 31 ∧ ∀ j, j < n → c.slots[j]? = some (f j)
section Refs
variable {a b : Addr} {n i : Nat} {f g : Nat → Value} {pc : Nat} {Ls : Array Slot} {rest : List Value} {j : Int32} {v d : Value} {sl : Nat} {ws : List Addr} {vs : List Value}
theorem RA.lt (F : RA Z h a n f) : a < h.size := by obtain ⟨c, A, -⟩ := F; exact A.lt
theorem RA.ext (F : RA Z h a n f) (E : Ext h h') : RA Z h' a n f := by obtain ⟨c, A, r⟩ := F; exact ⟨c, A.ext E, r⟩
theorem RA.other (F : RA Z h b n f) (W : Wr h h' a sl v) (q : b ≠ a) : RA Z h' b n f := by obtain ⟨c, A, r⟩ := F; exact ⟨c, A.other W q, r⟩
theorem RA.keep (F : RA Z h a n f) (K : Keep h h' ws) (q : a ∉ ws) : RA Z h' a n f := by obtain ⟨c, A, r⟩ := F; exact ⟨c, ⟨K.2.1 a c A.1 q, A.2⟩, r⟩
theorem RA.congr (F : RA Z h a n f) (q : ∀ j, j < n → f j = g j) : RA Z h a n g := by obtain ⟨c, A, r0, r1, r2, r3⟩ := F; exact ⟨c, A, r0, r1, r2, fun j hj => by rw [r3 j hj, q j hj]⟩
theorem RA.list (F : RA Z h a n (fun _ => d)) : RA Z h a n (gl (List.replicate n d) d) := F.congr fun j hj => by
  simp [gl, List.getD_eq_getElem?_getD, List.getElem?_replicate, hj]
theorem RA.setL (F : RA Z h a n (gl vs d)) (W : Wr h h' a i v) (hj : i < vs.length) : RA Z h' a n (gl (vs.set i v) d) := by
  obtain ⟨c, A, r0, r1, r2, r3⟩ := F
  refine ⟨_, A.same W, r0, by rw [sz_set]; exact r1, r2, fun k hk => ?_⟩
  have e1 : k < c.slots.size := by omega
  have r := r3 k hk
  simp only [gl, Cell.setSlot, List.getD_eq_getElem?_getD, List.getElem?_set]
  by_cases q : k = i
  · subst q; simp [e1, hj]
  · rw [Array.getElem?_setIfInBounds_ne (Ne.symm q), if_neg (Ne.symm q)]; rw [r]; simp only [gl, List.getD_eq_getElem?_getD]
theorem lenR (X : Stand p l e R s m args below meth c T locs cells slots) (hx : p.tables.exec = Jvm.exec) (hZ : Z.Warmed39 s.vm) (eT : T.heap = h) (V : RA Z h a n f) (hd : decode c.code pc = .ok (.arraylength, 1)) :
    ∀ t, Steps p.tables e below (T.setTop (mkF m (pc + 1) Ls (.int (Int32.ofNat n) :: rest))) t → Steps p.tables e below (T.setTop (mkF m pc Ls (.ref a :: rest))) t := fun t k => by
  obtain ⟨cl, A, O, S, -, H⟩ := V
  refine X.arraylength hx (by rw [eT]; exact A.1) (State.isArrayOf_alike hZ.alike A.2.1) (g := mkF m pc Ls (.ref a :: rest)) rfl rfl hd _ ?_
  rw [S]; exact k
theorem ldR (X : Stand p l e R s m args below meth c T locs cells slots) (hx : p.tables.exec = Jvm.exec) (hZ : Z.Warmed39 s.vm) (eT : T.heap = h) (V : RA Z h a n f) (hj : ¬ j < 0) (hi : j.toNatClampNeg = i) (hn : i < n) (hv : f i = v) (hd : decode c.code pc = .ok (.aaload, 1)) :
    ∀ t, Steps p.tables e below (T.setTop (mkF m (pc + 1) Ls (v :: rest))) t → Steps p.tables e below (T.setTop (mkF m pc Ls (.int j :: .ref a :: rest))) t := fun t k => by
  obtain ⟨cl, A, O, S, -, H⟩ := V
  exact X.aaload hx (by rw [eT]; exact A.1) (State.isArrayOf_alike hZ.alike A.2.1) rfl A.2.2 (inb S hi hj hn) (by rw [hi, H i hn, hv]) (g := mkF m pc Ls (.int j :: .ref a :: rest)) rfl rfl hd _ k
theorem stoR (X : Stand p l e R s m args below meth c T locs cells slots) (hx : p.tables.exec = Jvm.exec) (hZ : Z.Warmed39 s.vm) (eT : T.heap = h) (V : RA Z h a n f) {y : Addr} (I : Ins Z h y "java/lang/Object" true) (hj : ¬ j < 0) (hi : j.toNatClampNeg = i) (hn : i < n) (hd : decode c.code pc = .ok (.aastore, 1)) :
    ∃ T' h', Stand p l e R s m args below meth c T' (locs ++ [⟨a, i⟩]) cells slots ∧ T'.heap = h' ∧ Wr h h' a i (.ref y) ∧ ∀ t, Steps p.tables e below (T'.setTop (mkF m (pc + 1) Ls rest)) t → Steps p.tables e below (T.setTop (mkF m pc Ls (.ref y :: .int j :: .ref a :: rest))) t := by
  obtain ⟨cl, A, O, S, -, H⟩ := V
  obtain ⟨T', h', X', e', W, st⟩ := stR X hx hZ eT A (j := j) (v := .ref y) (inb S hi hj hn) rfl (Sto.of A O I) (g := mkF m pc Ls (.ref y :: .int j :: .ref a :: rest)) rfl rfl hd
  subst hi
  exact ⟨T', h', X', e', W, st⟩
theorem mkR (X : Stand p l e R s m args below meth c T locs cells slots) (hx : p.tables.exec = Jvm.exec) (hZ : Z.Warmed39 s.vm) {own : String} {index : Nat} (hown : s.vm.findClass own = some m.cls) (w1 : (Cond.classLink own index "java/lang/Object").before a0 Z = true) (w2 : (Cond.arrayOver (.object "java/lang/Object")).before a0 Z = true) (eT : T.heap = h)
    {z : Int32} (hz : ¬ z < 0) (hn : z.toNatClampNeg = n) (hb : n * 8 ≤ 536870912) (hc : cells + 1 ≤ R.cells) (hl : slots + n ≤ R.slots) (hd : decode c.code pc = .ok (.anewarray index, 3)) :
    ∃ T' h' b, Stand p l e R s m args below meth c T' locs (cells + 1) (slots + n) ∧ T'.heap = h' ∧ Ext h h' ∧ b = h.size ∧ RA Z h' b n (fun _ => .null) ∧
      ∀ t, Steps p.tables e below (T'.setTop (mkF m (pc + 3) Ls (.ref b :: rest))) t → Steps p.tables e below (T.setTop (mkF m pc Ls (.int z :: rest))) t := by
  obtain ⟨T', h', k, X', e', E, A, O, st⟩ := newR X hx hZ hown w1 w2 eT (g := mkF m pc Ls (.int z :: rest)) rfl hd rfl hz (cap := n) (Nat.le_of_eq hn) hb hc hl
  obtain ⟨c2, A2, S2, L2, H2⟩ := LA.new A hz hn
  have ec : c2 = newA k (.object "java/lang/Object") z := Option.some.inj (A2.1.symm.trans A.1)
  subst ec
  exact ⟨T', h', _, X', e', E, rfl, ⟨_, A, O, S2, L2, H2⟩, st⟩
theorem arv_of {ty : FieldType} (V : LA Z h a ty n f) (q : ∀ j, j < n → fits ty (f j) = true) : ∃ k, Arv Z h a k ty (Int32.ofNat n) ((List.range n).map f) (defaultValue ty) := by
  obtain ⟨cl, A, S, hn, H⟩ := V
  have e1 : (Int32.ofNat n).toInt = n := Int32.toInt_ofNat_of_lt hn
  have e2 : (Int32.ofNat n).toNatClampNeg = n := by show (Int32.ofNat n).toInt.toNat = n; rw [e1]; rfl
  have e3 : ∀ i, i < n → ((List.range n).map f).getD i (defaultValue ty) = f i := fun i hi => by
    simp [List.getD_eq_getElem?_getD, List.getElem?_map, List.getElem?_range hi]
  refine ⟨cl.cls, cl, A, rfl, by rw [e2]; exact S, ?_, fun i hi => ?_, fun i hi => ?_⟩
  · rw [Int32.lt_iff_toInt_lt, e1]; show ¬ (n : Int) < 0; omega
  · rw [e3 i (by omega)]; exact H i (by omega)
  · rw [e3 i (by omega)]; exact q i (by omega)
theorem la_of {ty : FieldType} {k : ClassId} {z : Int32} (V : Arv Z h a k ty z vs d) (hz : z.toNatClampNeg = n) (hn : n < 2 ^ 31) : LA Z h a ty n (gl vs d) ∧ ∀ j, j < n → fits ty (gl vs d j) = true := by
  obtain ⟨cl, A, -, S, -, H, Gf⟩ := V
  exact ⟨⟨cl, A, by omega, hn, fun j hj => H j (by omega)⟩, fun j hj => Gf j (by omega)⟩
theorem cpL (X : Stand p l e R s m args below meth c T locs cells slots) (hx : p.tables.exec = Jvm.exec) (hZ : Z.Warmed39 s.vm) {own : String} {index : Nat} (hown : s.vm.findClass own = some m.cls)
    (w1 : (Cond.methodLink own index Jvm.Stand.acN).before a0 Z = true) (w2 : (Cond.native Jvm.Stand.acN).before a0 Z = true) (w3 : (Cond.static Jvm.Stand.acN).before a0 Z = true) (w4 : (Cond.initialized "java/lang/System").before a0 Z = true) (eT : T.heap = h)
    {n' : Nat} (A : LA Z h a .int n f) (fA : ∀ j, j < n → fits .int (f j) = true) (B : LA Z h b .int n' g) (fB : ∀ j, j < n' → fits .int (g j) = true) {sp dp nn : Nat} (h1 : sp + nn ≤ n) (h2 : dp + nn ≤ n') {n0 : Nat} (N : Fr n0 locs) (ge : n0 ≤ b)
    (hsize : Ls.size = c.maxLocals) (hd : decode c.code pc = .ok (.invokestatic index, 3)) (hf : 1 ≤ R.frames) {W : Nat} (hW : 2 * 0 + (rest.map fun v => v.category).sum ≤ W) (hlo : W + (nativeFrameWords "java/lang/System" "arraycopy" 5 + 11) ≤ R.locals) :
    ∃ T' h' L g', Stand p l e R s m args below meth c T' L cells slots ∧ T'.heap = h' ∧ Fr n0 L ∧ Keep h h' [b] ∧ LA Z h' b .int n' g' ∧ (∀ j, j < n' → fits .int (g' j) = true) ∧
      ∀ t, Steps p.tables e below (T'.setTop (mkF m (pc + 3) Ls rest)) t → Steps p.tables e below (T.setTop (mkF m pc Ls (.int (Int32.ofNat nn) :: .int (Int32.ofNat dp) :: .ref b :: .int (Int32.ofNat sp) :: .ref a :: rest))) t := by
  obtain ⟨kA, VA⟩ := arv_of A fA
  obtain ⟨kB, VB⟩ := arv_of B fB
  have hn1 : n < 2 ^ 31 := by obtain ⟨_, _, _, q, _⟩ := A; exact q
  have hn2 : n' < 2 ^ 31 := by obtain ⟨_, _, _, q, _⟩ := B; exact q
  have nc : ∀ {i : Nat}, i < 2 ^ 31 → (Int32.ofNat i).toNatClampNeg = i := fun {i} hi => by
    show (Int32.ofNat i).toInt.toNat = i; rw [Int32.toInt_ofNat_of_lt hi]; rfl
  have nn' : ∀ {i : Nat}, i < 2 ^ 31 → ¬ Int32.ofNat i < 0 := fun {i} hi => by
    rw [Int32.lt_iff_toInt_lt, Int32.toInt_ofNat_of_lt hi]; show ¬ (i : Int) < 0; omega
  obtain ⟨T', h', L, X', e', N', K, V', st⟩ := cpA X hx hZ hown w1 w2 w3 w4 eT VA VB (Or.inl ⟨rfl, rfl⟩) (sp := Int32.ofNat sp) (dp := Int32.ofNat dp) (nn := Int32.ofNat nn) (nn' (by omega)) (nn' (by omega)) (nn' (by omega))
    (by rw [nc (by omega), nc (by omega), nc (by omega)]; omega) (by rw [nc (by omega), nc (by omega), nc (by omega)]; omega) rfl (by rw [nc (by omega), nc (by omega)]; simp; omega) N ge (g := mkF m pc Ls (.int (Int32.ofNat nn) :: .int (Int32.ofNat dp) :: .ref b :: .int (Int32.ofNat sp) :: .ref a :: rest)) rfl hsize rfl hd hf hW hlo
  obtain ⟨V1, V2⟩ := la_of V' (nc hn2) hn2
  exact ⟨T', h', L, _, X', e', N', K, V1, V2, st⟩
end Refs
section Calls2
variable {own : String} {index count : Nat} {y xi : MethodName} {bytes : ByteArray} {maxL : Nat} {ret : Option FieldType} {rm : Room} {W pc : Nat} {Ls : Array Slot} {Qc : Option Value → Heap → List Loc → Prop} {ps : List FieldType} {r : Option FieldType}
theorem callP (X : Stand p l e R s m args below meth c T locs cells slots) (hx : p.tables.exec = Jvm.exec) (hZ : Z.Warmed39 s.vm) (hown : s.vm.findClass own = some m.cls) (eT : T.heap = h) (a : Addr) (argsL rest : List Value) {C : String} (E : Exa Z h a C)
    (w1 : (Cond.methodLink own index y).before a0 Z = true) (w6 : (Cond.instanceMethod y).before a0 Z = true) (w5 : (Cond.selects y.cls y y).before a0 Z = true) (w7 : (Cond.privateMethod y).before a0 Z = true) (w3 : (Cond.initialized y.cls).before a0 Z = true) (w4 : (Cond.code y bytes maxL ret).before a0 Z = true)
    (hy : y.cls ≠ "java/lang/invoke/MethodHandle" ∧ y.cls ≠ "java/lang/invoke/VarHandle")
    (hM : MetFree l y (head1 [Cond.code y bytes maxL ret] rm) (fun a' U => a' = (.ref a :: argsL).toArray ∧ Z.Warmed39 U.vm ∧ U.heap = h) (fun _ _ _ _ _ => True) (fun _ U o U' => ∃ v L, o = .returned v ∧ Qc v U'.heap L ∧ FrameEnd U o U' L rm.cells rm.slots))
    (hpd : parseMethodDescriptor y.desc = some ⟨ps, r⟩) (hll : argsL.length = ps.length) (hsize : Ls.size = c.maxLocals) (hW : 2 * 0 + (rest.map fun v => v.category).sum ≤ W)
    (hf : rm.frames + 1 ≤ R.frames) (hl : W + (maxL + 11) + rm.locals ≤ R.locals) (hc : cells + rm.cells ≤ R.cells) (hs : slots + rm.slots ≤ R.slots) (hd : decode c.code pc = .ok (.invokevirtual index, 3)) :
    ∃ v T' L, Stand p l e R s m args below meth c T' (locs ++ L) (cells + rm.cells) (slots + rm.slots) ∧ Qc v T'.heap L ∧
      ∀ t, Steps p.tables e below (T'.setTop (mkF m (pc + 3) Ls (v.toList ++ rest))) t → Steps p.tables e below (T.setTop (mkF m pc Ls (argsL.reverse ++ .ref a :: rest))) t := by
  obtain ⟨cq, q1, q2⟩ := E.cell
  obtain ⟨v, vm1, ⟨T', L', k', n'⟩, -, X', ⟨L, hQ, e1, e2, e3⟩, st⟩ := X.privateBack hx (y := y) hown (mvT hZ w1) (mvT hZ w6) (mvT hZ w5) (Cond.privateMethod_at (mvP hZ w7 (args := #[]))) (mvT hZ w4) hy (backOf (W := W) hM hZ w4 w3 hf hl) (g := mkF m pc Ls (argsL.reverse ++ .ref a :: rest)) rfl hsize (Steps.refl _) (a := a) (by rw [eT]; exact q1) q2 (argsL := argsL) (rest := rest) (lenOf hpd hll) rfl hW hd (fun _ _ => ⟨rfl, eT, hc, hs⟩)
  dsimp only [Pt.U, Pt.locs, Pt.cells, Pt.slots] at X' e1 e2 e3 st hQ
  subst e1 e2 e3
  exact ⟨v, T', L, X', hQ, fun t k => st.trans k⟩
theorem callP2 (X : Stand p l e R s m args below meth c T locs cells slots) (hx : p.tables.exec = Jvm.exec) (hZ : Z.Warmed39 s.vm) (hown : s.vm.findClass own = some m.cls) (eT : T.heap = h) (a : Addr) (argsL rest : List Value) {C : String} (E : Exa Z h a C) {y2 : MethodName} (w5 : (Cond.selects y2.cls y2 y2).before a0 Z = true) (hcl : y2.cls = y.cls)
    (w1 : (Cond.methodLink own index y).before a0 Z = true) (w6 : (Cond.instanceMethod y).before a0 Z = true) (w7 : (Cond.privateMethod y).before a0 Z = true) (w3 : (Cond.initialized y.cls).before a0 Z = true) (w4 : (Cond.code y bytes maxL ret).before a0 Z = true)
    (hy : y.cls ≠ "java/lang/invoke/MethodHandle" ∧ y.cls ≠ "java/lang/invoke/VarHandle")
    (hM : MetFree l y (head1 [Cond.code y bytes maxL ret] rm) (fun a' U => a' = (.ref a :: argsL).toArray ∧ Z.Warmed39 U.vm ∧ U.heap = h) (fun _ _ _ _ _ => True) (fun _ U o U' => ∃ v L, o = .returned v ∧ Qc v U'.heap L ∧ FrameEnd U o U' L rm.cells rm.slots))
    (hpd : parseMethodDescriptor y.desc = some ⟨ps, r⟩) (hll : argsL.length = ps.length) (hsize : Ls.size = c.maxLocals) (hW : 2 * 0 + (rest.map fun v => v.category).sum ≤ W)
    (hf : rm.frames + 1 ≤ R.frames) (hl : W + (maxL + 11) + rm.locals ≤ R.locals) (hc : cells + rm.cells ≤ R.cells) (hs : slots + rm.slots ≤ R.slots) (hd : decode c.code pc = .ok (.invokevirtual index, 3)) :
    ∃ v T' L, Stand p l e R s m args below meth c T' (locs ++ L) (cells + rm.cells) (slots + rm.slots) ∧ Qc v T'.heap L ∧
      ∀ t, Steps p.tables e below (T'.setTop (mkF m (pc + 3) Ls (v.toList ++ rest))) t → Steps p.tables e below (T.setTop (mkF m pc Ls (argsL.reverse ++ .ref a :: rest))) t := by
  obtain ⟨cq, q1, q2⟩ := E.cell
  have hpr : s.PrivateAt y := Cond.privateMethod_at (mvP hZ w7 (args := #[]))
  have hin : (Cond.instanceMethod y).before args s = true := mvT hZ w6
  obtain ⟨c5, r5, m5, z1, z2, z3, z4, k5, z5, z6⟩ := Cond.selects_spec (mvT (args := args) hZ w5)
  have hse : (Cond.selects y.cls y y).before args s = true := selects_self_of_private (by rw [← hcl]; exact findClass_of_methodNamed z3) z5 z6 hpr hin hy
  obtain ⟨v, vm1, ⟨T', L', k', n'⟩, -, X', ⟨L, hQ, e1, e2, e3⟩, st⟩ := X.privateBack hx (y := y) hown (mvT hZ w1) hin hse hpr (mvT hZ w4) hy (backOf (W := W) hM hZ w4 w3 hf hl) (g := mkF m pc Ls (argsL.reverse ++ .ref a :: rest)) rfl hsize (Steps.refl _) (a := a) (by rw [eT]; exact q1) q2 (argsL := argsL) (rest := rest) (lenOf hpd hll) rfl hW hd (fun _ _ => ⟨rfl, eT, hc, hs⟩)
  dsimp only [Pt.U, Pt.locs, Pt.cells, Pt.slots] at X' e1 e2 e3 st hQ
  subst e1 e2 e3
  exact ⟨v, T', L, X', hQ, fun t k => st.trans k⟩
theorem callF (X : Stand p l e R s m args below meth c T locs cells slots) (hx : p.tables.exec = Jvm.exec) (hZ : Z.Warmed39 s.vm) (hown : s.vm.findClass own = some m.cls) (eT : T.heap = h) (a : Addr) (argsL rest : List Value) {C : String} (E : Exa Z h a C)
    (w1 : (Cond.methodLink own index xi).before a0 Z = true) (w2 : (Cond.declares xi).before a0 Z = true) (w8 : (Cond.interfaceMethod xi.cls xi.cls xi.name xi.desc).before args s = true) (w5 : (Cond.selects C xi y).before a0 Z = true) (w6 : (Cond.instanceMethod y).before a0 Z = true) (w7 : (Cond.publicMethod y).before a0 Z = true)
    (w9 : (Cond.unhidden C xi.name xi.desc).before a0 Z = true) (w10 : (Cond.castable C xi.cls).before a0 Z = true) (w3 : (Cond.initialized y.cls).before a0 Z = true) (w4 : (Cond.code y bytes maxL ret).before a0 Z = true)
    (hy : xi.cls ≠ "java/lang/invoke/MethodHandle" ∧ xi.cls ≠ "java/lang/invoke/VarHandle")
    (hM : MetFree l y (head1 [Cond.code y bytes maxL ret] rm) (fun a' U => a' = (.ref a :: argsL).toArray ∧ Z.Warmed39 U.vm ∧ U.heap = h) (fun _ _ _ _ _ => True) (fun _ U o U' => ∃ v L, o = .returned v ∧ Qc v U'.heap L ∧ FrameEnd U o U' L rm.cells rm.slots))
    (hpd : parseMethodDescriptor xi.desc = some ⟨ps, r⟩) (hll : argsL.length = ps.length) (hsize : Ls.size = c.maxLocals) (hW : 2 * 0 + (rest.map fun v => v.category).sum ≤ W)
    (hf : rm.frames + 1 ≤ R.frames) (hl : W + (maxL + 11) + rm.locals ≤ R.locals) (hc : cells + rm.cells ≤ R.cells) (hs : slots + rm.slots ≤ R.slots) (hd : decode c.code pc = .ok (.invokeinterface index count, 5)) :
    ∃ v T' L, Stand p l e R s m args below meth c T' (locs ++ L) (cells + rm.cells) (slots + rm.slots) ∧ Qc v T'.heap L ∧
      ∀ t, Steps p.tables e below (T'.setTop (mkF m (pc + 5) Ls (v.toList ++ rest))) t → Steps p.tables e below (T.setTop (mkF m pc Ls (argsL.reverse ++ .ref a :: rest))) t := by
  obtain ⟨cq, kq, qa, qb, qc⟩ := isOf hZ eT E
  obtain ⟨v, vm1, ⟨T', L', k', n'⟩, -, X', ⟨L, hQ, e1, e2, e3⟩, st⟩ := X.interfaceBack hx (xi := xi) (y := y) hown (mvT hZ w1) (mvT hZ w2) w8 (mvT hZ w5) (mvT hZ w6) (mvT hZ w7) (mvT hZ w9) (mvT hZ w10) hy (backOf (W := W) hM hZ w4 w3 hf hl) qa qb qc (g := mkF m pc Ls (argsL.reverse ++ .ref a :: rest)) rfl hsize (Steps.refl _) (argsL := argsL) (rest := rest) (lenOf hpd hll) rfl hW hd (fun _ _ => ⟨rfl, eT, hc, hs⟩)
  dsimp only [Pt.U, Pt.locs, Pt.cells, Pt.slots] at X' e1 e2 e3 st hQ
  subst e1 e2 e3
  exact ⟨v, T', L, X', hQ, fun t k => st.trans k⟩
end Calls2
end OwnKit2

-- own numbers: small naturals as ints
theorem own_ofNat_toInt {i : Nat} (h : i < 2 ^ 31) : (Int32.ofNat i).toInt = i := Int32.toInt_ofNat_of_lt h
theorem own_nc {i : Nat} (h : i < 2 ^ 31) : (Int32.ofNat i).toNatClampNeg = i := by
  show (Int32.ofNat i).toInt.toNat = i
  rw [own_ofNat_toInt h]; rfl
theorem own_nn {i : Nat} (h : i < 2 ^ 31) : ¬ Int32.ofNat i < 0 := by
  rw [Int32.lt_iff_toInt_lt, own_ofNat_toInt h]
  show ¬ (i : Int) < 0
  omega
theorem own_lt {a b : Nat} (ha : a < 2 ^ 31) (hb : b < 2 ^ 31) : Int32.ofNat a < Int32.ofNat b ↔ a < b := by
  rw [Int32.lt_iff_toInt_lt, own_ofNat_toInt ha, own_ofNat_toInt hb]
  omega
theorem own_eqn {a b : Nat} (ha : a < 2 ^ 31) (hb : b < 2 ^ 31) : Int32.ofNat a = Int32.ofNat b ↔ a = b := by
  rw [← Int32.toInt_inj, own_ofNat_toInt ha, own_ofNat_toInt hb]
  omega
theorem own_add (a b : Nat) : Int32.ofNat a + Int32.ofNat b = Int32.ofNat (a + b) := (Int32.ofNat_add a b).symm
theorem own_sub {a b : Nat} (h : b ≤ a) : Int32.ofNat a - Int32.ofNat b = Int32.ofNat (a - b) := by
  have e : Int32.ofNat (a - b) + Int32.ofNat b = Int32.ofNat a := by rw [own_add, Nat.sub_add_cancel h]
  rw [← e, Int32.add_sub_cancel]
theorem own_ofBits (x : Int32) : x = Int32.ofNat x.toBitVec.toNat := by
  apply Int32.toBitVec_inj.mp
  show _ = BitVec.ofNat 32 _
  simp
theorem own_andN (x : Int32) (m : Nat) (hm : m < 2 ^ 32) : ∃ n : Nat, n ≤ m ∧ n = x.toBitVec.toNat &&& m ∧ (x &&& Int32.ofNat m) = Int32.ofNat n := by
  refine ⟨(x &&& Int32.ofNat m).toBitVec.toNat, ?_, ?_, own_ofBits _⟩
  · rw [Int32.toBitVec_and, BitVec.toNat_and]
    refine Nat.le_trans Nat.and_le_right ?_
    show (BitVec.ofNat 32 m).toNat ≤ m
    rw [BitVec.toNat_ofNat]; exact Nat.mod_le _ _
  · rw [Int32.toBitVec_and, BitVec.toNat_and]
    congr 1
    show (BitVec.ofNat 32 m).toNat = m
    rw [BitVec.toNat_ofNat]; exact Nat.mod_eq_of_lt hm
theorem own_and (x : Int32) (m : Nat) (hm : m < 2 ^ 32) : ∃ n : Nat, n ≤ m ∧ (x &&& Int32.ofNat m) = Int32.ofNat n := by
  obtain ⟨n, h1, -, h2⟩ := own_andN x m hm; exact ⟨n, h1, h2⟩
theorem own_rem {n d : Nat} (hn : n < 2 ^ 31) (hd : d < 2 ^ 31) : Int32.ofNat n % Int32.ofNat d = Int32.ofNat (n % d) := by
  apply Int32.toInt_inj.mp
  have h1 : n % d ≤ n := Nat.mod_le _ _
  rw [Int32.toInt_mod, own_ofNat_toInt hn, own_ofNat_toInt hd, own_ofNat_toInt (by omega), Int.ofNat_tmod]
theorem own_div {n d : Nat} (hn : n < 2 ^ 31) (hd : d < 2 ^ 31) : Int32.ofNat n / Int32.ofNat d = Int32.ofNat (n / d) := by
  apply Int32.toInt_inj.mp
  have h1 : n / d ≤ n := Nat.div_le_self _ _
  rw [Int32.toInt_div, own_ofNat_toInt hn, own_ofNat_toInt hd, own_ofNat_toInt (by omega), ← Int.ofNat_tdiv]
  generalize n / d = q at h1
  refine Int.bmod_eq_of_le ?_ ?_ <;> omega
theorem own_maskrem (k : Int32) (d : Nat) (h0 : 0 < d) (hd : d < 2 ^ 31) : ∃ i : Nat, i < d ∧ (k &&& (2147483647 : Int32)) % Int32.ofNat d = Int32.ofNat i := by
  obtain ⟨n, h1, h2⟩ := own_and k 2147483647 (by decide)
  refine ⟨n % d, Nat.mod_lt _ h0, ?_⟩
  rw [show (2147483647 : Int32) = Int32.ofNat 2147483647 from rfl, h2, own_rem (by omega) hd]
theorem own_ints (vs : List Int32) (i : Nat) : ∃ x, gl (vs.map Value.int) (.int (0 : Int32)) i = .int x := by
  simp only [gl, List.getD_eq_getElem?_getD, List.getElem?_map]
  cases vs[i]? with
  | none => exact ⟨_, rfl⟩
  | some y => exact ⟨_, rfl⟩

theorem d7_0 : decode method_3_code 0 = .ok (.iload_n 0, 1) := by decide +kernel
theorem d7_1 : decode method_3_code 1 = .ok (.ifCond .ge 5, 3) := by decide +kernel
theorem d7_4 : decode method_3_code 4 = .ok (.iload_n 1, 1) := by decide +kernel
theorem d7_5 : decode method_3_code 5 = .ok (.ireturn, 1) := by decide +kernel
theorem d7_6 : decode method_3_code 6 = .ok (.iload_n 0, 1) := by decide +kernel
theorem d7_7 : decode method_3_code 7 = .ok (.ifCond .ne 5, 3) := by decide +kernel
theorem d7_10 : decode method_3_code 10 = .ok (.iload_n 2, 1) := by decide +kernel
theorem d7_11 : decode method_3_code 11 = .ok (.ireturn, 1) := by decide +kernel
theorem d7_12 : decode method_3_code 12 = .ok (.iload_n 0, 1) := by decide +kernel
theorem d7_13 : decode method_3_code 13 = .ok (.iconst 1, 1) := by decide +kernel
theorem d7_14 : decode method_3_code 14 = .ok (.if_icmp .ne 5, 3) := by decide +kernel
theorem d7_17 : decode method_3_code 17 = .ok (.iload_n 3, 1) := by decide +kernel
theorem d7_18 : decode method_3_code 18 = .ok (.ireturn, 1) := by decide +kernel
theorem d7_19 : decode method_3_code 19 = .ok (.iload 4, 2) := by decide +kernel
theorem d7_21 : decode method_3_code 21 = .ok (.ireturn, 1) := by decide +kernel
def own_pick (p0 : Int32) (p1 : Int32) (p2 : Int32) (p3 : Int32) (p4 : Int32) : Int32 := (if p0 < (0 : Int32) then p1 else (if p0 = (0 : Int32) then p2 else (if p0 = (1 : Int32) then p3 else p4)))
theorem pn_com_example_arbor2_arbor2_analysis_TracksAdvancePinLaw : plainName "com/example/arbor2/arbor2/analysis/TracksAdvancePinLaw" = true := by first | (simp [plainName, overriddenIn]; done) | decide +kernel
theorem ef_own_pick (m : MethodId) (y0 : Int32) (y1 : Int32) (y2 : Int32) (y3 : Int32) (y4 : Int32) : entryFrame m #[(.int y0), (.int y1), (.int y2), (.int y3), (.int y4)] 5 = mkF m 0 #[.val (.int y0), .val (.int y1), .val (.int y2), .val (.int y3), .val (.int y4)] [] := by first | (simp [entryFrame, mkF, argsToLocals, Value.category]; done) | rfl
def Q_own_pick (Z : State) (p0 : Int32) (p1 : Int32) (p2 : Int32) (p3 : Int32) (p4 : Int32) (h0 : Heap) (n0 : Nat) (v : Option Value) (h : Heap) (L : List Loc) : Prop := v = some (.int (own_pick p0 p1 p2 p3 p4)) ∧ Fr n0 L ∧ h = h0
set_option maxRecDepth 65536 in
set_option maxHeartbeats 40000000 in
theorem rm_own_pick (l : Launch) (Z : State) (a0 : Array Value) (hw : ∀ d ∈ tables_1, d.before a0 Z = true) (ws : List Jvm.Cond) (p0 : Int32) (p1 : Int32) (p2 : Int32) (p3 : Int32) (p4 : Int32) (h0 : Heap) (n0 : Nat) (Z0 : n0 ≤ h0.size)  :
    MetFree l (⟨"com/example/arbor2/arbor2/analysis/TracksAdvancePinLaw", "pick", "(IIIII)I"⟩ : MethodName) (head1 (Jvm.Cond.code (⟨"com/example/arbor2/arbor2/analysis/TracksAdvancePinLaw", "pick", "(IIIII)I"⟩ : MethodName) method_3_code 5 (some .int) :: ws) ({ frames := 0, cells := 0, slots := 0, locals := 0 } : Room)) (fun a U => a = #[(.int p0), (.int p1), (.int p2), (.int p3), (.int p4)] ∧ Z.Warmed39 U.vm ∧ U.heap = h0) (fun _ _ _ _ _ => True) (fun _ U o U' => ∃ v L, o = .returned v ∧ Q_own_pick Z p0 p1 p2 p3 p4 h0 n0 v U'.heap L ∧ FrameEnd U o U' L ({ frames := 0, cells := 0, slots := 0, locals := 0 } : Room).cells ({ frames := 0, cells := 0, slots := 0, locals := 0 } : Room).slots) := by
  refine MetFree.of_bodySF (plainFor_of_name pn_com_example_arbor2_arbor2_analysis_TracksAdvancePinLaw) hisR ?_
  intro p e s m args below meth c s₁ Bd hml0 hP hK
  obtain ⟨rfl, hZ, hh⟩ := hP
  have hx := Bd.exec
  have hby := Bd.bytes
  have hml : c.maxLocals = 5 := hml0
  have hown : s.vm.findClass "com/example/arbor2/arbor2/analysis/TracksAdvancePinLaw" = some m.cls := findClass_of_methodNamed Bd.named
  have hnm := (name_of_methodNamed Bd.named Bd.method).1
  have X0 : Stand p l e ({ frames := 0, cells := 0, slots := 0, locals := 0 } : Room) s m #[(.int p0), (.int p1), (.int p2), (.int p3), (.int p4)] below meth c s₁ [] 0 0 := Stand.of_body Bd
  have eh0 : s₁.heap = h0 := by rw [← hh, Bd.state]; rfl
  have N0 := Fr.nil n0
  refine Gq.start (Q := Q_own_pick Z p0 p1 p2 p3 p4 h0 n0) (kc := ({ frames := 0, cells := 0, slots := 0, locals := 0 } : Room).cells) (ks := ({ frames := 0, cells := 0, slots := 0, locals := 0 } : Room).slots) (ef_own_pick m p0 p1 p2 p3 p4) ?_
  refine Gq.go (s₁.setTop (mkF m 1 #[.val (.int p0), .val (.int p1), .val (.int p2), .val (.int p3), .val (.int p4)] [(.int p0)])) (fun tt_ kk_ => XS.iloadN X0.here hx rfl (hb hby d7_0) rfl kk_) ?_
  by_cases c1_1 : p0 < (0 : Int32)
  · refine Gq.go (s₁.setTop (mkF m 4 #[.val (.int p0), .val (.int p1), .val (.int p2), .val (.int p3), .val (.int p4)] [])) (fun tt_ kk_ => XS.ifNo X0.here hx rfl (hb hby d7_1) rfl ((if0 _ _).trans (tlt c1_1).2.1) kk_) ?_
    refine Gq.go (s₁.setTop (mkF m 5 #[.val (.int p0), .val (.int p1), .val (.int p2), .val (.int p3), .val (.int p4)] [(.int p1)])) (fun tt_ kk_ => XS.iloadN X0.here hx rfl (hb hby d7_4) rfl kk_) ?_
    refine Gq.retI X0 hx Bd.notSynchronized Bd.returns (by simp) (hb hby d7_5) rfl (by decide) (by decide) ?_
    show Q_own_pick Z p0 p1 p2 p3 p4 h0 n0 _ s₁.heap _
    rw [eh0]
    exact ⟨by unfold own_pick; rw [if_pos c1_1], N0, rfl⟩
  · refine Gq.go (s₁.setTop (mkF m 6 #[.val (.int p0), .val (.int p1), .val (.int p2), .val (.int p3), .val (.int p4)] [])) (fun tt_ kk_ => XS.ifYes X0.here hx rfl (pc0 := 1) (pc' := 6) rfl (hb hby d7_1) rfl ((if0 _ _).trans (flt c1_1).2.1) (by decide) (by decide) kk_) ?_
    refine Gq.go (s₁.setTop (mkF m 7 #[.val (.int p0), .val (.int p1), .val (.int p2), .val (.int p3), .val (.int p4)] [(.int p0)])) (fun tt_ kk_ => XS.iloadN X0.here hx rfl (hb hby d7_6) rfl kk_) ?_
    by_cases c7_2 : p0 = (0 : Int32)
    · refine Gq.go (s₁.setTop (mkF m 10 #[.val (.int p0), .val (.int p1), .val (.int p2), .val (.int p3), .val (.int p4)] [])) (fun tt_ kk_ => XS.ifNo X0.here hx rfl (hb hby d7_7) rfl ((if0 _ _).trans (teq c7_2).2) kk_) ?_
      refine Gq.go (s₁.setTop (mkF m 11 #[.val (.int p0), .val (.int p1), .val (.int p2), .val (.int p3), .val (.int p4)] [(.int p2)])) (fun tt_ kk_ => XS.iloadN X0.here hx rfl (hb hby d7_10) rfl kk_) ?_
      refine Gq.retI X0 hx Bd.notSynchronized Bd.returns (by simp) (hb hby d7_11) rfl (by decide) (by decide) ?_
      show Q_own_pick Z p0 p1 p2 p3 p4 h0 n0 _ s₁.heap _
      rw [eh0]
      exact ⟨by unfold own_pick; rw [if_neg c1_1, if_pos c7_2], N0, rfl⟩
    · refine Gq.go (s₁.setTop (mkF m 12 #[.val (.int p0), .val (.int p1), .val (.int p2), .val (.int p3), .val (.int p4)] [])) (fun tt_ kk_ => XS.ifYes X0.here hx rfl (pc0 := 7) (pc' := 12) rfl (hb hby d7_7) rfl ((if0 _ _).trans (feq c7_2).2) (by decide) (by decide) kk_) ?_
      refine Gq.go (s₁.setTop (mkF m 13 #[.val (.int p0), .val (.int p1), .val (.int p2), .val (.int p3), .val (.int p4)] [(.int p0)])) (fun tt_ kk_ => XS.iloadN X0.here hx rfl (hb hby d7_12) rfl kk_) ?_
      refine Gq.go (s₁.setTop (mkF m 14 #[.val (.int p0), .val (.int p1), .val (.int p2), .val (.int p3), .val (.int p4)] [(.int (1 : Int32)), (.int p0)])) (fun tt_ kk_ => XS.iconst X0.here hx rfl (hb hby d7_13) kk_) ?_
      by_cases c14_3 : p0 = (1 : Int32)
      · refine Gq.go (s₁.setTop (mkF m 17 #[.val (.int p0), .val (.int p1), .val (.int p2), .val (.int p3), .val (.int p4)] [])) (fun tt_ kk_ => XS.icmpNo X0.here hx rfl (hb hby d7_14) rfl (teq c14_3).2 kk_) ?_
        refine Gq.go (s₁.setTop (mkF m 18 #[.val (.int p0), .val (.int p1), .val (.int p2), .val (.int p3), .val (.int p4)] [(.int p3)])) (fun tt_ kk_ => XS.iloadN X0.here hx rfl (hb hby d7_17) rfl kk_) ?_
        refine Gq.retI X0 hx Bd.notSynchronized Bd.returns (by simp) (hb hby d7_18) rfl (by decide) (by decide) ?_
        show Q_own_pick Z p0 p1 p2 p3 p4 h0 n0 _ s₁.heap _
        rw [eh0]
        exact ⟨by unfold own_pick; rw [if_neg c1_1, if_neg c7_2, if_pos c14_3], N0, rfl⟩
      · refine Gq.go (s₁.setTop (mkF m 19 #[.val (.int p0), .val (.int p1), .val (.int p2), .val (.int p3), .val (.int p4)] [])) (fun tt_ kk_ => XS.icmpYes X0.here hx rfl (pc0 := 14) (pc' := 19) rfl (hb hby d7_14) rfl (feq c14_3).2 (by decide) (by decide) kk_) ?_
        refine Gq.go (s₁.setTop (mkF m 21 #[.val (.int p0), .val (.int p1), .val (.int p2), .val (.int p3), .val (.int p4)] [(.int p4)])) (fun tt_ kk_ => XS.iload X0.here hx rfl (hb hby d7_19) rfl kk_) ?_
        refine Gq.retI X0 hx Bd.notSynchronized Bd.returns (by simp) (hb hby d7_21) rfl (by decide) (by decide) ?_
        show Q_own_pick Z p0 p1 p2 p3 p4 h0 n0 _ s₁.heap _
        rw [eh0]
        exact ⟨by unfold own_pick; rw [if_neg c1_1, if_neg c7_2, if_neg c14_3], N0, rfl⟩
theorem own_pick_neg {a r v0 v1 v2 : Int32} (h : a < (0 : Int32)) : own_pick a r v0 v1 v2 = r := by unfold own_pick; rw [if_pos h]
theorem own_pick_at {a r v0 v1 v2 : Int32} {m : Nat} (hm : m < 3) (e : a = Int32.ofNat m) : gl [.int v0, .int v1, .int v2] (.int (0 : Int32)) m = .int (own_pick a r v0 v1 v2) := by
  subst e
  have hc : m = 0 ∨ m = 1 ∨ m = 2 := by omega
  rcases hc with rfl | rfl | rfl <;> rfl
theorem own_rem3 {x : Int32} (h : ¬ x < (0 : Int32)) : ∃ m : Nat, m < 3 ∧ x % (3 : Int32) = Int32.ofNat m := by
  have h0 : (0 : Int32).toInt = 0 := by decide
  rw [Int32.lt_iff_toInt_lt, h0] at h
  have h2 := x.toInt_lt
  have e : x = Int32.ofNat x.toInt.toNat := by
    apply Int32.toInt_inj.mp
    rw [own_ofNat_toInt (by omega)]; omega
  refine ⟨x.toInt.toNat % 3, Nat.mod_lt _ (by decide), ?_⟩
  conv => lhs; rw [e]
  exact own_rem (d := 3) (by omega) (by decide)
theorem own_fit2 (r0 r1 : Int32) : ∀ j, j < 2 → fits .int (gl [.int r0, .int r1] (.int (0 : Int32)) j) = true := fun j hj => by
  have hc : j = 0 ∨ j = 1 := by omega
  rcases hc with rfl | rfl <;> rfl
theorem d3_0 : decode jdk_22_method_1_code 0 = .ok (.aload_n 0, 1) := by decide +kernel
theorem d3_1 : decode jdk_22_method_1_code 1 = .ok (.invokespecial 1, 3) := by decide +kernel
theorem d3_4 : decode jdk_22_method_1_code 4 = .ok (.return_, 1) := by decide +kernel
theorem pn_java_util_AbstractCollection : plainName "java/util/AbstractCollection" = true := by first | (simp [plainName, overriddenIn]; done) | decide +kernel
theorem ef3 (m : MethodId) (y0 : Addr) : entryFrame m #[(.ref y0)] 1 = mkF m 0 #[.val (.ref y0)] [] := by first | (simp [entryFrame, mkF, argsToLocals, Value.category]; done) | rfl
def Q3 (Z : State) (a1 : Addr) (h0 : Heap) (n0 : Nat) (v : Option Value) (h : Heap) (L : List Loc) : Prop := v = none ∧ Fr n0 L ∧ h = h0
set_option maxRecDepth 65536 in
set_option maxHeartbeats 40000000 in
theorem rm3 (l : Launch) (Z : State) (a0 : Array Value) (hw : ∀ d ∈ tables_1, d.before a0 Z = true) (ws : List Jvm.Cond) (a1 : Addr) (h0 : Heap) (n0 : Nat) (Z0 : n0 ≤ h0.size) (Ea : Exa Z h0 a1 "java/util/ArrayList") (ga : n0 ≤ a1) :
    MetFree l (⟨"java/util/AbstractCollection", "<init>", "()V"⟩ : MethodName) (head1 (Jvm.Cond.code (⟨"java/util/AbstractCollection", "<init>", "()V"⟩ : MethodName) jdk_22_method_1_code 1 none :: ws) ({ frames := 1, cells := 0, slots := 0, locals := 12 } : Room)) (fun a U => a = #[(.ref a1)] ∧ Z.Warmed39 U.vm ∧ U.heap = h0) (fun _ _ _ _ _ => True) (fun _ U o U' => ∃ v L, o = .returned v ∧ Q3 Z a1 h0 n0 v U'.heap L ∧ FrameEnd U o U' L ({ frames := 1, cells := 0, slots := 0, locals := 12 } : Room).cells ({ frames := 1, cells := 0, slots := 0, locals := 12 } : Room).slots) := by
  refine MetFree.of_bodySF (plainFor_of_name pn_java_util_AbstractCollection) hisR ?_
  intro p e s m args below meth c s₁ Bd hml0 hP hK
  obtain ⟨rfl, hZ, hh⟩ := hP
  have hx := Bd.exec
  have hby := Bd.bytes
  have hml : c.maxLocals = 1 := hml0
  have hown : s.vm.findClass "java/util/AbstractCollection" = some m.cls := findClass_of_methodNamed Bd.named
  have hnm := (name_of_methodNamed Bd.named Bd.method).1
  have X0 : Stand p l e ({ frames := 1, cells := 0, slots := 0, locals := 12 } : Room) s m #[(.ref a1)] below meth c s₁ [] 0 0 := Stand.of_body Bd
  have eh0 : s₁.heap = h0 := by rw [← hh, Bd.state]; rfl
  have N0 := Fr.nil n0
  refine Gq.start (Q := Q3 Z a1 h0 n0) (kc := ({ frames := 1, cells := 0, slots := 0, locals := 12 } : Room).cells) (ks := ({ frames := 1, cells := 0, slots := 0, locals := 12 } : Room).slots) (ef3 m a1) ?_
  refine Gq.go (s₁.setTop (mkF m 1 #[.val (.ref a1)] [(.ref a1)])) (fun tt_ kk_ => XS.aloadN X0.here hx rfl (hb hby d3_0) rfl rfl kk_) ?_
  obtain ⟨T1, X1, eh1, st1⟩ := initO X0 hx hZ hown (hw _ (List.mem_of_getElem? (i := 22) rfl)) (hw _ (List.mem_of_getElem? (i := 23) rfl)) (hw _ (List.mem_of_getElem? (i := 24) rfl)) eh0 (g := (mkF m 1 #[.val (.ref a1)] [(.ref a1)])) rfl (by rw [hml]; rfl) rfl (hb hby d3_1) (by decide) (W := 0) (by show 2 * 0 + _ ≤ _; exact Nat.le_of_eq rfl) (by decide)
  refine Gq.go (T1.setTop (mkF m 4 #[.val (.ref a1)] [])) (fun tt_ kk_ => st1 _ kk_) ?_
  refine Gq.retV X1 hx Bd.notSynchronized Bd.returns (hb hby d3_4) (by decide) (by decide) ?_
  show Q3 Z a1 h0 n0 _ T1.heap _
  rw [eh1]
  exact ⟨rfl, N0, rfl⟩
theorem d2_0 : decode jdk_39_method_1_code 0 = .ok (.aload_n 0, 1) := by decide +kernel
theorem d2_1 : decode jdk_39_method_1_code 1 = .ok (.invokespecial 1, 3) := by decide +kernel
theorem d2_4 : decode jdk_39_method_1_code 4 = .ok (.aload_n 0, 1) := by decide +kernel
theorem d2_5 : decode jdk_39_method_1_code 5 = .ok (.iconst 0, 1) := by decide +kernel
theorem d2_6 : decode jdk_39_method_1_code 6 = .ok (.putfield 7, 3) := by decide +kernel
theorem d2_9 : decode jdk_39_method_1_code 9 = .ok (.return_, 1) := by decide +kernel
theorem pd_0 : parseMethodDescriptor "()V" = some ⟨[], none⟩ := by decide +kernel
theorem pn_java_util_AbstractList : plainName "java/util/AbstractList" = true := by first | (simp [plainName, overriddenIn]; done) | decide +kernel
theorem ef2 (m : MethodId) (y0 : Addr) : entryFrame m #[(.ref y0)] 1 = mkF m 0 #[.val (.ref y0)] [] := by first | (simp [entryFrame, mkF, argsToLocals, Value.category]; done) | rfl
def Q2 (Z : State) (a1 : Addr) (h0 : Heap) (n0 : Nat) (v : Option Value) (h : Heap) (L : List Loc) : Prop := v = none ∧ Fr n0 L ∧ Keep h0 h [a1] ∧ Fld Z h a1 "java/util/AbstractList" "modCount" "I" (.int (0 : Int32)) ∧ Fld Z h a1 "java/util/ArrayList" "elementData" "[Ljava/lang/Object;" .null
set_option maxRecDepth 65536 in
set_option maxHeartbeats 40000000 in
theorem rm2 (l : Launch) (Z : State) (a0 : Array Value) (hw : ∀ d ∈ tables_1, d.before a0 Z = true) (ws : List Jvm.Cond) (a1 : Addr) (h0 : Heap) (n0 : Nat) (Z0 : n0 ≤ h0.size) (Ea : Exa Z h0 a1 "java/util/ArrayList") (ga : n0 ≤ a1) (Fm : Fld Z h0 a1 "java/util/AbstractList" "modCount" "I" (.int (0 : Int32))) (Fe : Fld Z h0 a1 "java/util/ArrayList" "elementData" "[Ljava/lang/Object;" .null) :
    MetFree l (⟨"java/util/AbstractList", "<init>", "()V"⟩ : MethodName) (head1 (Jvm.Cond.code (⟨"java/util/AbstractList", "<init>", "()V"⟩ : MethodName) jdk_39_method_1_code 1 none :: ws) ({ frames := 2, cells := 0, slots := 0, locals := 24 } : Room)) (fun a U => a = #[(.ref a1)] ∧ Z.Warmed39 U.vm ∧ U.heap = h0) (fun _ _ _ _ _ => True) (fun _ U o U' => ∃ v L, o = .returned v ∧ Q2 Z a1 h0 n0 v U'.heap L ∧ FrameEnd U o U' L ({ frames := 2, cells := 0, slots := 0, locals := 24 } : Room).cells ({ frames := 2, cells := 0, slots := 0, locals := 24 } : Room).slots) := by
  refine MetFree.of_bodySF (plainFor_of_name pn_java_util_AbstractList) hisR ?_
  intro p e s m args below meth c s₁ Bd hml0 hP hK
  obtain ⟨rfl, hZ, hh⟩ := hP
  have hx := Bd.exec
  have hby := Bd.bytes
  have hml : c.maxLocals = 1 := hml0
  have hown : s.vm.findClass "java/util/AbstractList" = some m.cls := findClass_of_methodNamed Bd.named
  have hnm := (name_of_methodNamed Bd.named Bd.method).1
  have X0 : Stand p l e ({ frames := 2, cells := 0, slots := 0, locals := 24 } : Room) s m #[(.ref a1)] below meth c s₁ [] 0 0 := Stand.of_body Bd
  have eh0 : s₁.heap = h0 := by rw [← hh, Bd.state]; rfl
  have N0 := Fr.nil n0
  refine Gq.start (Q := Q2 Z a1 h0 n0) (kc := ({ frames := 2, cells := 0, slots := 0, locals := 24 } : Room).cells) (ks := ({ frames := 2, cells := 0, slots := 0, locals := 24 } : Room).slots) (ef2 m a1) ?_
  refine Gq.go (s₁.setTop (mkF m 1 #[.val (.ref a1)] [(.ref a1)])) (fun tt_ kk_ => XS.aloadN X0.here hx rfl (hb hby d2_0) rfl rfl kk_) ?_
  obtain ⟨r1, T1, L1, X1, hQ1, st1⟩ := callI (pc := 1) (Ls := #[.val (.ref a1)]) X0 hx hZ hown eh0 a1 [] [] (hw _ (List.mem_of_getElem? (i := 16) rfl)) (hw _ (List.mem_of_getElem? (i := 17) rfl)) (hw _ (List.mem_of_getElem? (i := 20) rfl)) (hw _ (List.mem_of_getElem? (i := 21) rfl)) rfl (by decide) (rm3 l Z a0 hw [] a1 h0 n0 Z0 Ea ga) pd_0 rfl (by rw [hml]; rfl) (W := 0) (Nat.le_of_eq rfl) (by decide) (by decide) (by decide) (by decide) (hb hby d2_1)
  obtain ⟨rfl, N1q, eh1⟩ := hQ1
  have N1 := Fr.app N0 N1q
  refine Gq.go (T1.setTop (mkF m 4 #[.val (.ref a1)] [])) (fun tt_ kk_ => st1 tt_ kk_) ?_
  refine Gq.go (T1.setTop (mkF m 5 #[.val (.ref a1)] [(.ref a1)])) (fun tt_ kk_ => XS.aloadN X1.here hx rfl (hb hby d2_4) rfl rfl kk_) ?_
  refine Gq.go (T1.setTop (mkF m 6 #[.val (.ref a1)] [(.int (0 : Int32)), (.ref a1)])) (fun tt_ kk_ => XS.iconst X1.here hx rfl (hb hby d2_5) kk_) ?_
  obtain ⟨T2, h2, X2, eh2, W2, st2⟩ := putF X1 hx hZ hown (host := "") (Or.inl (hw _ (List.mem_of_getElem? (i := 25) rfl))) Via.refl eh1 Fm Ea (Or.inl (hw _ (List.mem_of_getElem? (i := 26) rfl))) (hw _ (List.mem_of_getElem? (i := 5) rfl)) (ty := .int) (by decide) rfl rfl (g := (mkF m 6 #[.val (.ref a1)] [(.int (0 : Int32)), (.ref a1)])) rfl rfl (hb hby d2_6)
  have Fw2 := Fm.same W2
  have fa3 := Ea.wr W2
  have fa4 := Fe.other W2 (Or.inr (slot_ne (Or.inl (hw _ (List.mem_of_getElem? (i := 29) rfl))) (Or.inl (hw _ (List.mem_of_getElem? (i := 26) rfl))) (by decide) (t := (.array (.object "java/lang/Object"))) (t' := .int) (by decide) (by decide)))
  have za5 : n0 ≤ h2.size := Nat.le_trans Z0 (Nat.le_of_eq W2.size.symm)
  have Ka6 := (Keep.refl h0 [a1]).wr W2 (Or.inl (List.mem_of_getElem? (i := 0) rfl))
  have N2 := Fr.snoc X2 N1 ga
  refine Gq.go (T2.setTop (mkF m 9 #[.val (.ref a1)] [])) (fun tt_ kk_ => st2 _ kk_) ?_
  refine Gq.retV X2 hx Bd.notSynchronized Bd.returns (hb hby d2_9) (by decide) (by decide) ?_
  show Q2 Z a1 h0 n0 _ T2.heap _
  rw [eh2]
  exact ⟨rfl, N2, Ka6, Fw2, fa4⟩
theorem d1_0 : decode jdk_38_method_2_code 0 = .ok (.aload_n 0, 1) := by decide +kernel
theorem d1_1 : decode jdk_38_method_2_code 1 = .ok (.invokespecial 1, 3) := by decide +kernel
theorem d1_4 : decode jdk_38_method_2_code 4 = .ok (.aload_n 0, 1) := by decide +kernel
theorem d1_5 : decode jdk_38_method_2_code 5 = .ok (.getstatic 39, 3) := by decide +kernel
theorem d1_8 : decode jdk_38_method_2_code 8 = .ok (.putfield 9, 3) := by decide +kernel
theorem d1_11 : decode jdk_38_method_2_code 11 = .ok (.return_, 1) := by decide +kernel
theorem pn_java_util_ArrayList : plainName "java/util/ArrayList" = true := by first | (simp [plainName, overriddenIn]; done) | decide +kernel
theorem ef1 (m : MethodId) (y0 : Addr) : entryFrame m #[(.ref y0)] 1 = mkF m 0 #[.val (.ref y0)] [] := by first | (simp [entryFrame, mkF, argsToLocals, Value.category]; done) | rfl
def Q1 (Z : State) (a1 : Addr) (d0 : Addr) (h0 : Heap) (n0 : Nat) (v : Option Value) (h : Heap) (L : List Loc) : Prop := v = none ∧ Fr n0 L ∧ Keep h0 h [a1]
set_option maxRecDepth 65536 in
set_option maxHeartbeats 40000000 in
theorem rm1 (l : Launch) (Z : State) (a0 : Array Value) (hw : ∀ d ∈ tables_1, d.before a0 Z = true) (ws : List Jvm.Cond) (a1 : Addr) (d0 : Addr) (h0 : Heap) (n0 : Nat) (Z0 : n0 ≤ h0.size) (Ea : Exa Z h0 a1 "java/util/ArrayList") (ga : n0 ≤ a1) (Fm : Fld Z h0 a1 "java/util/AbstractList" "modCount" "I" (.int (0 : Int32))) (Fe : Fld Z h0 a1 "java/util/ArrayList" "elementData" "[Ljava/lang/Object;" .null) (Ol : Old Z n0 h0) (Sd : Sta Z Z.heap "java/util/ArrayList" "DEFAULTCAPACITY_EMPTY_ELEMENTDATA" "[Ljava/lang/Object;" (.ref d0)) :
    MetFree l (⟨"java/util/ArrayList", "<init>", "()V"⟩ : MethodName) (head1 (Jvm.Cond.code (⟨"java/util/ArrayList", "<init>", "()V"⟩ : MethodName) jdk_38_method_2_code 1 none :: ws) ({ frames := 3, cells := 0, slots := 0, locals := 36 } : Room)) (fun a U => a = #[(.ref a1)] ∧ Z.Warmed39 U.vm ∧ U.heap = h0) (fun _ _ _ _ _ => True) (fun _ U o U' => ∃ v L, o = .returned v ∧ Q1 Z a1 d0 h0 n0 v U'.heap L ∧ FrameEnd U o U' L ({ frames := 3, cells := 0, slots := 0, locals := 36 } : Room).cells ({ frames := 3, cells := 0, slots := 0, locals := 36 } : Room).slots) := by
  refine MetFree.of_bodySF (plainFor_of_name pn_java_util_ArrayList) hisR ?_
  intro p e s m args below meth c s₁ Bd hml0 hP hK
  obtain ⟨rfl, hZ, hh⟩ := hP
  have hx := Bd.exec
  have hby := Bd.bytes
  have hml : c.maxLocals = 1 := hml0
  have hown : s.vm.findClass "java/util/ArrayList" = some m.cls := findClass_of_methodNamed Bd.named
  have hnm := (name_of_methodNamed Bd.named Bd.method).1
  have X0 : Stand p l e ({ frames := 3, cells := 0, slots := 0, locals := 36 } : Room) s m #[(.ref a1)] below meth c s₁ [] 0 0 := Stand.of_body Bd
  have eh0 : s₁.heap = h0 := by rw [← hh, Bd.state]; rfl
  have N0 := Fr.nil n0
  refine Gq.start (Q := Q1 Z a1 d0 h0 n0) (kc := ({ frames := 3, cells := 0, slots := 0, locals := 36 } : Room).cells) (ks := ({ frames := 3, cells := 0, slots := 0, locals := 36 } : Room).slots) (ef1 m a1) ?_
  refine Gq.go (s₁.setTop (mkF m 1 #[.val (.ref a1)] [(.ref a1)])) (fun tt_ kk_ => XS.aloadN X0.here hx rfl (hb hby d1_0) rfl rfl kk_) ?_
  obtain ⟨r1, T1, L1, X1, hQ1, st1⟩ := callI (pc := 1) (Ls := #[.val (.ref a1)]) X0 hx hZ hown eh0 a1 [] [] (hw _ (List.mem_of_getElem? (i := 10) rfl)) (hw _ (List.mem_of_getElem? (i := 11) rfl)) (hw _ (List.mem_of_getElem? (i := 14) rfl)) (hw _ (List.mem_of_getElem? (i := 15) rfl)) rfl (by decide) (rm2 l Z a0 hw [] a1 h0 n0 Z0 Ea ga Fm Fe) pd_0 rfl (by rw [hml]; rfl) (W := 0) (Nat.le_of_eq rfl) (by decide) (by decide) (by decide) (by decide) (hb hby d1_1)
  obtain ⟨rfl, N1q, Kc1, c1_0, c1_1⟩ := hQ1
  have N1 := Fr.app N0 N1q
  have fa2 := Ea.keep Kc1
  have fa5 := Ol.keep Kc1 (allS ga all0)
  have za6 : n0 ≤ T1.heap.size := Nat.le_trans Z0 Kc1.1
  have Ka7 := (Keep.refl h0 [a1]).trans Kc1 (allS (Or.inl (List.mem_of_getElem? (i := 0) rfl)) all0)
  refine Gq.go (T1.setTop (mkF m 4 #[.val (.ref a1)] [])) (fun tt_ kk_ => st1 tt_ kk_) ?_
  refine Gq.go (T1.setTop (mkF m 5 #[.val (.ref a1)] [(.ref a1)])) (fun tt_ kk_ => XS.aloadN X1.here hx rfl (hb hby d1_4) rfl rfl kk_) ?_
  obtain ⟨T8, X8, eh8, st8⟩ := getS2 X1 hx hZ hown (host := "") (Or.inl (hw _ (List.mem_of_getElem? (i := 27) rfl))) Via.refl rfl (Sta.ext fa5.2 Sd) (g := (mkF m 5 #[.val (.ref a1)] [(.ref a1)])) rfl (hb hby d1_5)
  refine Gq.go (T8.setTop (mkF m 8 #[.val (.ref a1)] [(.ref d0), (.ref a1)])) (fun tt_ kk_ => st8 _ kk_) ?_
  obtain ⟨T9, h9, X9, eh9, W9, st9⟩ := putF X8 hx hZ hown (host := "") (Or.inl (hw _ (List.mem_of_getElem? (i := 28) rfl))) Via.refl eh8 c1_1 fa2 (Or.inl (hw _ (List.mem_of_getElem? (i := 29) rfl))) (hw _ (List.mem_of_getElem? (i := 5) rfl)) (ty := (.array (.object "java/lang/Object"))) (by decide) rfl rfl (g := (mkF m 8 #[.val (.ref a1)] [(.ref d0), (.ref a1)])) rfl rfl (hb hby d1_8)
  have Fw9 := c1_1.same W9
  have fa10 := fa2.wr W9
  have fa11 := fa5.wr W9 ga
  have fa12 := c1_0.other W9 (Or.inr (slot_ne (Or.inl (hw _ (List.mem_of_getElem? (i := 26) rfl))) (Or.inl (hw _ (List.mem_of_getElem? (i := 29) rfl))) (by decide) (t := .int) (t' := (.array (.object "java/lang/Object"))) (by decide) (by decide)))
  have za13 : n0 ≤ h9.size := Nat.le_trans za6 (Nat.le_of_eq W9.size.symm)
  have Ka14 := Ka7.wr W9 (Or.inl (List.mem_of_getElem? (i := 0) rfl))
  have N9 := Fr.snoc X9 N1 ga
  refine Gq.go (T9.setTop (mkF m 11 #[.val (.ref a1)] [])) (fun tt_ kk_ => st9 _ kk_) ?_
  refine Gq.retV X9 hx Bd.notSynchronized Bd.returns (hb hby d1_11) (by decide) (by decide) ?_
  show Q1 Z a1 d0 h0 n0 _ T9.heap _
  rw [eh9]
  exact ⟨rfl, N9, Ka14⟩
theorem d5_0 : decode prog_46_method_1_code 0 = .ok (.aload_n 0, 1) := by decide +kernel
theorem d5_1 : decode prog_46_method_1_code 1 = .ok (.invokespecial 1, 3) := by decide +kernel
theorem d5_4 : decode prog_46_method_1_code 4 = .ok (.aload_n 0, 1) := by decide +kernel
theorem d5_5 : decode prog_46_method_1_code 5 = .ok (.aload_n 1, 1) := by decide +kernel
theorem d5_6 : decode prog_46_method_1_code 6 = .ok (.putfield 7, 3) := by decide +kernel
theorem d5_9 : decode prog_46_method_1_code 9 = .ok (.aload_n 0, 1) := by decide +kernel
theorem d5_10 : decode prog_46_method_1_code 10 = .ok (.aload_n 1, 1) := by decide +kernel
theorem d5_11 : decode prog_46_method_1_code 11 = .ok (.arraylength, 1) := by decide +kernel
theorem d5_12 : decode prog_46_method_1_code 12 = .ok (.iconst 1, 1) := by decide +kernel
theorem d5_13 : decode prog_46_method_1_code 13 = .ok (.iadd, 1) := by decide +kernel
theorem d5_14 : decode prog_46_method_1_code 14 = .ok (.newarray .int, 2) := by decide +kernel
theorem d5_16 : decode prog_46_method_1_code 16 = .ok (.putfield 13, 3) := by decide +kernel
theorem d5_19 : decode prog_46_method_1_code 19 = .ok (.iconst 0, 1) := by decide +kernel
theorem d5_20 : decode prog_46_method_1_code 20 = .ok (.istore 5, 2) := by decide +kernel
theorem d5_22 : decode prog_46_method_1_code 22 = .ok (.iload 5, 2) := by decide +kernel
theorem d5_24 : decode prog_46_method_1_code 24 = .ok (.aload_n 1, 1) := by decide +kernel
theorem d5_25 : decode prog_46_method_1_code 25 = .ok (.arraylength, 1) := by decide +kernel
theorem d5_26 : decode prog_46_method_1_code 26 = .ok (.if_icmp .ge 38, 3) := by decide +kernel
theorem d5_64 : decode prog_46_method_1_code 64 = .ok (.aload_n 0, 1) := by decide +kernel
theorem d5_65 : decode prog_46_method_1_code 65 = .ok (.aload_n 0, 1) := by decide +kernel
theorem d5_66 : decode prog_46_method_1_code 66 = .ok (.getfield 13, 3) := by decide +kernel
theorem d5_69 : decode prog_46_method_1_code 69 = .ok (.aload_n 1, 1) := by decide +kernel
theorem d5_70 : decode prog_46_method_1_code 70 = .ok (.arraylength, 1) := by decide +kernel
theorem d5_71 : decode prog_46_method_1_code 71 = .ok (.iaload, 1) := by decide +kernel
theorem d5_72 : decode prog_46_method_1_code 72 = .ok (.newarray .int, 2) := by decide +kernel
theorem d5_74 : decode prog_46_method_1_code 74 = .ok (.putfield 23, 3) := by decide +kernel
theorem d5_77 : decode prog_46_method_1_code 77 = .ok (.aload_n 0, 1) := by decide +kernel
theorem d5_78 : decode prog_46_method_1_code 78 = .ok (.aload_n 0, 1) := by decide +kernel
theorem d5_79 : decode prog_46_method_1_code 79 = .ok (.getfield 23, 3) := by decide +kernel
theorem d5_82 : decode prog_46_method_1_code 82 = .ok (.arraylength, 1) := by decide +kernel
theorem d5_83 : decode prog_46_method_1_code 83 = .ok (.newarray .int, 2) := by decide +kernel
theorem d5_85 : decode prog_46_method_1_code 85 = .ok (.putfield 26, 3) := by decide +kernel
theorem d5_88 : decode prog_46_method_1_code 88 = .ok (.iconst 0, 1) := by decide +kernel
theorem d5_89 : decode prog_46_method_1_code 89 = .ok (.istore 5, 2) := by decide +kernel
theorem d5_91 : decode prog_46_method_1_code 91 = .ok (.iload 5, 2) := by decide +kernel
theorem d5_93 : decode prog_46_method_1_code 93 = .ok (.aload_n 1, 1) := by decide +kernel
theorem d5_94 : decode prog_46_method_1_code 94 = .ok (.arraylength, 1) := by decide +kernel
theorem d5_95 : decode prog_46_method_1_code 95 = .ok (.if_icmp .ge 69, 3) := by decide +kernel
theorem d5_164 : decode prog_46_method_1_code 164 = .ok (.aload_n 0, 1) := by decide +kernel
theorem d5_165 : decode prog_46_method_1_code 165 = .ok (.iload_n 3, 1) := by decide +kernel
theorem d5_166 : decode prog_46_method_1_code 166 = .ok (.putfield 41, 3) := by decide +kernel
theorem d5_169 : decode prog_46_method_1_code 169 = .ok (.aload_n 0, 1) := by decide +kernel
theorem d5_170 : decode prog_46_method_1_code 170 = .ok (.iload 4, 2) := by decide +kernel
theorem d5_172 : decode prog_46_method_1_code 172 = .ok (.putfield 45, 3) := by decide +kernel
theorem d5_175 : decode prog_46_method_1_code 175 = .ok (.return_, 1) := by decide +kernel
theorem pn_com_example_arbor2_arbor2_analysis_Tracks : plainName "com/example/arbor2/arbor2/analysis/Tracks" = true := by first | (simp [plainName, overriddenIn]; done) | decide +kernel
theorem ef5 (m : MethodId) (y0 : Addr) (y1 : Addr) (y2 : Addr) (y3 : Int32) (y4 : Int32) : entryFrame m #[(.ref y0), (.ref y1), (.ref y2), (.int y3), (.int y4)] 6 = mkF m 0 #[.val (.ref y0), .val (.ref y1), .val (.ref y2), .val (.int y3), .val (.int y4), .unset] [] := by first | (simp [entryFrame, mkF, argsToLocals, Value.category]; done) | rfl
def Q5 (Z : State) (a1 : Addr) (a2 : Addr) (a3 : Addr) (p3 : Int32) (p4 : Int32) (h0 : Heap) (n0 : Nat) (v : Option Value) (h : Heap) (L : List Loc) : Prop := v = none ∧ Fr n0 L ∧ Keep h0 h [a1]
set_option maxRecDepth 65536 in
set_option maxHeartbeats 40000000 in
theorem rm5 (l : Launch) (Z : State) (a0 : Array Value) (hw : ∀ d ∈ tables_1, d.before a0 Z = true) (ws : List Jvm.Cond) (a1 : Addr) (a2 : Addr) (a3 : Addr) (p3 : Int32) (p4 : Int32) (h0 : Heap) (n0 : Nat) (Z0 : n0 ≤ h0.size) (Ea : Exa Z h0 a1 "com/example/arbor2/arbor2/analysis/Tracks") (ga : n0 ≤ a1) (F_selections : Fld Z h0 a1 "com/example/arbor2/arbor2/analysis/Tracks" "selections" "[I" .null) (F_firstSlots : Fld Z h0 a1 "com/example/arbor2/arbor2/analysis/Tracks" "firstSlots" "[I" .null) (F_slotTracks : Fld Z h0 a1 "com/example/arbor2/arbor2/analysis/Tracks" "slotTracks" "[I" .null) (F_begins : Fld Z h0 a1 "com/example/arbor2/arbor2/analysis/Tracks" "begins" "[I" .null) (F_sink : Fld Z h0 a1 "com/example/arbor2/arbor2/analysis/Tracks" "sink" "I" (.int (0 : Int32))) (F_sharesPairs : Fld Z h0 a1 "com/example/arbor2/arbor2/analysis/Tracks" "sharesPairs" "Z" (.int (0 : Int32))) (V2 : LA Z h0 a2 .int 0 (gl [] (.int (0 : Int32)))) (n21 : a2 ≠ a1) :
    MetFree l (⟨"com/example/arbor2/arbor2/analysis/Tracks", "<init>", "([ILjava/util/List;IZ)V"⟩ : MethodName) (head1 (Jvm.Cond.code (⟨"com/example/arbor2/arbor2/analysis/Tracks", "<init>", "([ILjava/util/List;IZ)V"⟩ : MethodName) prog_46_method_1_code 6 none :: ws) ({ frames := 1, cells := 3, slots := 1, locals := 12 } : Room)) (fun a U => a = #[(.ref a1), (.ref a2), (.ref a3), (.int p3), (.int p4)] ∧ Z.Warmed39 U.vm ∧ U.heap = h0) (fun _ _ _ _ _ => True) (fun _ U o U' => ∃ v L, o = .returned v ∧ Q5 Z a1 a2 a3 p3 p4 h0 n0 v U'.heap L ∧ FrameEnd U o U' L ({ frames := 1, cells := 3, slots := 1, locals := 12 } : Room).cells ({ frames := 1, cells := 3, slots := 1, locals := 12 } : Room).slots) := by
  refine MetFree.of_bodySF (plainFor_of_name pn_com_example_arbor2_arbor2_analysis_Tracks) hisR ?_
  intro p e s m args below meth c s₁ Bd hml0 hP hK
  obtain ⟨rfl, hZ, hh⟩ := hP
  have hx := Bd.exec
  have hby := Bd.bytes
  have hml : c.maxLocals = 6 := hml0
  have hown : s.vm.findClass "com/example/arbor2/arbor2/analysis/Tracks" = some m.cls := findClass_of_methodNamed Bd.named
  have hnm := (name_of_methodNamed Bd.named Bd.method).1
  have X0 : Stand p l e ({ frames := 1, cells := 3, slots := 1, locals := 12 } : Room) s m #[(.ref a1), (.ref a2), (.ref a3), (.int p3), (.int p4)] below meth c s₁ [] 0 0 := Stand.of_body Bd
  have eh0 : s₁.heap = h0 := by rw [← hh, Bd.state]; rfl
  have N0 := Fr.nil n0
  refine Gq.start (Q := Q5 Z a1 a2 a3 p3 p4 h0 n0) (kc := ({ frames := 1, cells := 3, slots := 1, locals := 12 } : Room).cells) (ks := ({ frames := 1, cells := 3, slots := 1, locals := 12 } : Room).slots) (ef5 m a1 a2 a3 p3 p4) ?_
  refine Gq.go (s₁.setTop (mkF m 1 #[.val (.ref a1), .val (.ref a2), .val (.ref a3), .val (.int p3), .val (.int p4), .unset] [(.ref a1)])) (fun tt_ kk_ => XS.aloadN X0.here hx rfl (hb hby d5_0) rfl rfl kk_) ?_
  obtain ⟨T1, X1, eh1, st1⟩ := initO X0 hx hZ hown (hw _ (List.mem_of_getElem? (i := 33) rfl)) (hw _ (List.mem_of_getElem? (i := 23) rfl)) (hw _ (List.mem_of_getElem? (i := 24) rfl)) eh0 (g := (mkF m 1 #[.val (.ref a1), .val (.ref a2), .val (.ref a3), .val (.int p3), .val (.int p4), .unset] [(.ref a1)])) rfl (by rw [hml]; rfl) rfl (hb hby d5_1) (by decide) (W := 0) (by show 2 * 0 + _ ≤ _; exact Nat.le_of_eq rfl) (by decide)
  refine Gq.go (T1.setTop (mkF m 4 #[.val (.ref a1), .val (.ref a2), .val (.ref a3), .val (.int p3), .val (.int p4), .unset] [])) (fun tt_ kk_ => st1 _ kk_) ?_
  refine Gq.go (T1.setTop (mkF m 5 #[.val (.ref a1), .val (.ref a2), .val (.ref a3), .val (.int p3), .val (.int p4), .unset] [(.ref a1)])) (fun tt_ kk_ => XS.aloadN X1.here hx rfl (hb hby d5_4) rfl rfl kk_) ?_
  refine Gq.go (T1.setTop (mkF m 6 #[.val (.ref a1), .val (.ref a2), .val (.ref a3), .val (.int p3), .val (.int p4), .unset] [(.ref a2), (.ref a1)])) (fun tt_ kk_ => XS.aloadN X1.here hx rfl (hb hby d5_5) rfl rfl kk_) ?_
  obtain ⟨T2, h2, X2, eh2, W2, st2⟩ := putF X1 hx hZ hown (host := "") (Or.inl (hw _ (List.mem_of_getElem? (i := 34) rfl))) Via.refl eh1 F_selections Ea (Or.inr ⟨(hw _ (List.mem_of_getElem? (i := 35) rfl)), rfl, hnm⟩) (hw _ (List.mem_of_getElem? (i := 2) rfl)) (ty := (.array .int)) (by decide) rfl rfl (g := (mkF m 6 #[.val (.ref a1), .val (.ref a2), .val (.ref a3), .val (.int p3), .val (.int p4), .unset] [(.ref a2), (.ref a1)])) rfl rfl (hb hby d5_6)
  have Fw2 := F_selections.same W2
  have fa3 := Ea.wr W2
  have fa4 := F_firstSlots.other W2 (Or.inr (slot_ne (Or.inr (hw _ (List.mem_of_getElem? (i := 37) rfl))) (Or.inr (hw _ (List.mem_of_getElem? (i := 35) rfl))) (by decide) (t := (.array .int)) (t' := (.array .int)) (by decide) (by decide)))
  have fa5 := F_slotTracks.other W2 (Or.inr (slot_ne (Or.inr (hw _ (List.mem_of_getElem? (i := 39) rfl))) (Or.inr (hw _ (List.mem_of_getElem? (i := 35) rfl))) (by decide) (t := (.array .int)) (t' := (.array .int)) (by decide) (by decide)))
  have fa6 := F_begins.other W2 (Or.inr (slot_ne (Or.inr (hw _ (List.mem_of_getElem? (i := 41) rfl))) (Or.inr (hw _ (List.mem_of_getElem? (i := 35) rfl))) (by decide) (t := (.array .int)) (t' := (.array .int)) (by decide) (by decide)))
  have fa7 := F_sink.other W2 (Or.inr (slot_ne (Or.inr (hw _ (List.mem_of_getElem? (i := 43) rfl))) (Or.inr (hw _ (List.mem_of_getElem? (i := 35) rfl))) (by decide) (t := .int) (t' := (.array .int)) (by decide) (by decide)))
  have fa8 := F_sharesPairs.other W2 (Or.inr (slot_ne (Or.inr (hw _ (List.mem_of_getElem? (i := 45) rfl))) (Or.inr (hw _ (List.mem_of_getElem? (i := 35) rfl))) (by decide) (t := .boolean) (t' := (.array .int)) (by decide) (by decide)))
  have fa9 := V2.other W2 n21
  have ta10 := Nat.lt_of_lt_of_le Ea.lt (Nat.le_of_eq W2.size.symm)
  have za11 : n0 ≤ h2.size := Nat.le_trans Z0 (Nat.le_of_eq W2.size.symm)
  have Ka12 := (Keep.refl h0 [a1]).wr W2 (Or.inl (List.mem_of_getElem? (i := 0) rfl))
  have N2 := Fr.snoc X2 N0 ga
  refine Gq.go (T2.setTop (mkF m 9 #[.val (.ref a1), .val (.ref a2), .val (.ref a3), .val (.int p3), .val (.int p4), .unset] [])) (fun tt_ kk_ => st2 _ kk_) ?_
  refine Gq.go (T2.setTop (mkF m 10 #[.val (.ref a1), .val (.ref a2), .val (.ref a3), .val (.int p3), .val (.int p4), .unset] [(.ref a1)])) (fun tt_ kk_ => XS.aloadN X2.here hx rfl (hb hby d5_9) rfl rfl kk_) ?_
  refine Gq.go (T2.setTop (mkF m 11 #[.val (.ref a1), .val (.ref a2), .val (.ref a3), .val (.int p3), .val (.int p4), .unset] [(.ref a2), (.ref a1)])) (fun tt_ kk_ => XS.aloadN X2.here hx rfl (hb hby d5_10) rfl rfl kk_) ?_
  refine Gq.go (T2.setTop (mkF m 12 #[.val (.ref a1), .val (.ref a2), .val (.ref a3), .val (.int p3), .val (.int p4), .unset] [(.int (0 : Int32)), (.ref a1)])) (fun tt_ kk_ => lenA X2 hx hZ eh2 fa9 (hb hby d5_11) tt_ kk_) ?_
  refine Gq.go (T2.setTop (mkF m 13 #[.val (.ref a1), .val (.ref a2), .val (.ref a3), .val (.int p3), .val (.int p4), .unset] [(.int (1 : Int32)), (.int (0 : Int32)), (.ref a1)])) (fun tt_ kk_ => XS.iconst X2.here hx rfl (hb hby d5_12) kk_) ?_
  refine Gq.go (T2.setTop (mkF m 14 #[.val (.ref a1), .val (.ref a2), .val (.ref a3), .val (.int p3), .val (.int p4), .unset] [(.int (1 : Int32)), (.ref a1)])) (fun tt_ kk_ => XS.iadd X2.here hx rfl (hb hby d5_13) rfl kk_) ?_
  obtain ⟨T13, h13, b13, X13, eh13, E13, aq13, V13, st13⟩ := mkA X2 hx hZ (hw _ (List.mem_of_getElem? (i := 0) rfl)) eh2 (z := (1 : Int32)) (n := 1) (Ls := #[.val (.ref a1), .val (.ref a2), .val (.ref a3), .val (.int p3), .val (.int p4), .unset]) (rest := [(.ref a1)]) (by decide) rfl (by decide) (by decide) (by decide) (hb hby d5_14)
  have g_b13 : n0 ≤ b13 := Nat.le_trans za11 (Nat.le_of_eq aq13.symm)
  have sz_b13 : h0.size ≤ b13 := Nat.le_trans Ka12.1 (Nat.le_of_eq aq13.symm)
  have ne_a1_b13 : a1 ≠ b13 := Nat.ne_of_lt (Nat.lt_of_lt_of_le ta10 (Nat.le_of_eq aq13.symm))
  have fa14 := fa3.ext E13
  have fa15 := fa4.ext E13
  have fa16 := fa5.ext E13
  have fa17 := fa6.ext E13
  have fa18 := fa7.ext E13
  have fa19 := fa8.ext E13
  have fa20 := fa9.ext E13
  have fa21 := Fw2.ext E13
  have ta22 := Nat.lt_of_lt_of_le ta10 E13.1
  have za23 : n0 ≤ h13.size := Nat.le_trans za11 E13.1
  have Ka24 := Ka12.ext E13
  have V13' : LA Z h13 b13 .int 1 (gl [(.int (0 : Int32))] (.int (0 : Int32))) := V13.list
  have ta13' := V13'.lt
  refine Gq.go (T13.setTop (mkF m 16 #[.val (.ref a1), .val (.ref a2), .val (.ref a3), .val (.int p3), .val (.int p4), .unset] [(.ref b13), (.ref a1)])) (fun tt_ kk_ => st13 tt_ kk_) ?_
  obtain ⟨T25, h25, X25, eh25, W25, st25⟩ := putF X13 hx hZ hown (host := "") (Or.inl (hw _ (List.mem_of_getElem? (i := 36) rfl))) Via.refl eh13 fa15 fa14 (Or.inr ⟨(hw _ (List.mem_of_getElem? (i := 37) rfl)), rfl, hnm⟩) (hw _ (List.mem_of_getElem? (i := 2) rfl)) (ty := (.array .int)) (by decide) rfl rfl (g := (mkF m 16 #[.val (.ref a1), .val (.ref a2), .val (.ref a3), .val (.int p3), .val (.int p4), .unset] [(.ref b13), (.ref a1)])) rfl rfl (hb hby d5_16)
  have Fw25 := fa15.same W25
  have fa26 := fa14.wr W25
  have fa27 := fa16.other W25 (Or.inr (slot_ne (Or.inr (hw _ (List.mem_of_getElem? (i := 39) rfl))) (Or.inr (hw _ (List.mem_of_getElem? (i := 37) rfl))) (by decide) (t := (.array .int)) (t' := (.array .int)) (by decide) (by decide)))
  have fa28 := fa17.other W25 (Or.inr (slot_ne (Or.inr (hw _ (List.mem_of_getElem? (i := 41) rfl))) (Or.inr (hw _ (List.mem_of_getElem? (i := 37) rfl))) (by decide) (t := (.array .int)) (t' := (.array .int)) (by decide) (by decide)))
  have fa29 := fa18.other W25 (Or.inr (slot_ne (Or.inr (hw _ (List.mem_of_getElem? (i := 43) rfl))) (Or.inr (hw _ (List.mem_of_getElem? (i := 37) rfl))) (by decide) (t := .int) (t' := (.array .int)) (by decide) (by decide)))
  have fa30 := fa19.other W25 (Or.inr (slot_ne (Or.inr (hw _ (List.mem_of_getElem? (i := 45) rfl))) (Or.inr (hw _ (List.mem_of_getElem? (i := 37) rfl))) (by decide) (t := .boolean) (t' := (.array .int)) (by decide) (by decide)))
  have fa31 := fa20.other W25 n21
  have fa32 := fa21.other W25 (Or.inr (slot_ne (Or.inr (hw _ (List.mem_of_getElem? (i := 35) rfl))) (Or.inr (hw _ (List.mem_of_getElem? (i := 37) rfl))) (by decide) (t := (.array .int)) (t' := (.array .int)) (by decide) (by decide)))
  have fa33 := V13'.other W25 (Ne.symm ne_a1_b13)
  have ta34 := Nat.lt_of_lt_of_le ta22 (Nat.le_of_eq W25.size.symm)
  have ta35 := Nat.lt_of_lt_of_le ta13' (Nat.le_of_eq W25.size.symm)
  have za36 : n0 ≤ h25.size := Nat.le_trans za23 (Nat.le_of_eq W25.size.symm)
  have Ka37 := Ka24.wr W25 (Or.inl (List.mem_of_getElem? (i := 0) rfl))
  have N25 := Fr.snoc X25 N2 ga
  refine Gq.go (T25.setTop (mkF m 19 #[.val (.ref a1), .val (.ref a2), .val (.ref a3), .val (.int p3), .val (.int p4), .unset] [])) (fun tt_ kk_ => st25 _ kk_) ?_
  refine Gq.go (T25.setTop (mkF m 20 #[.val (.ref a1), .val (.ref a2), .val (.ref a3), .val (.int p3), .val (.int p4), .unset] [(.int (0 : Int32))])) (fun tt_ kk_ => XS.iconst X25.here hx rfl (hb hby d5_19) kk_) ?_
  refine Gq.go (T25.setTop (mkF m 22 #[.val (.ref a1), .val (.ref a2), .val (.ref a3), .val (.int p3), .val (.int p4), .val (.int (0 : Int32))] [])) (fun tt_ kk_ => XS.istore X25.here hx rfl (hb hby d5_20) rfl (l' := #[.val (.ref a1), .val (.ref a2), .val (.ref a3), .val (.int p3), .val (.int p4), .val (.int (0 : Int32))]) rfl kk_) ?_
  refine Gq.go (T25.setTop (mkF m 24 #[.val (.ref a1), .val (.ref a2), .val (.ref a3), .val (.int p3), .val (.int p4), .val (.int (0 : Int32))] [(.int (0 : Int32))])) (fun tt_ kk_ => XS.iload X25.here hx rfl (hb hby d5_22) rfl kk_) ?_
  refine Gq.go (T25.setTop (mkF m 25 #[.val (.ref a1), .val (.ref a2), .val (.ref a3), .val (.int p3), .val (.int p4), .val (.int (0 : Int32))] [(.ref a2), (.int (0 : Int32))])) (fun tt_ kk_ => XS.aloadN X25.here hx rfl (hb hby d5_24) rfl rfl kk_) ?_
  refine Gq.go (T25.setTop (mkF m 26 #[.val (.ref a1), .val (.ref a2), .val (.ref a3), .val (.int p3), .val (.int p4), .val (.int (0 : Int32))] [(.int (0 : Int32)), (.int (0 : Int32))])) (fun tt_ kk_ => lenA X25 hx hZ eh25 fa31 (hb hby d5_25) tt_ kk_) ?_
  refine Gq.go (T25.setTop (mkF m 64 #[.val (.ref a1), .val (.ref a2), .val (.ref a3), .val (.int p3), .val (.int p4), .val (.int (0 : Int32))] [])) (fun tt_ kk_ => XS.icmpYes X25.here hx rfl (pc0 := 26) (pc' := 64) rfl (hb hby d5_26) rfl (flt (by decide : ¬ ((0 : Int32) < (0 : Int32)))).2.1 (by decide) (by decide) kk_) ?_
  refine Gq.go (T25.setTop (mkF m 65 #[.val (.ref a1), .val (.ref a2), .val (.ref a3), .val (.int p3), .val (.int p4), .val (.int (0 : Int32))] [(.ref a1)])) (fun tt_ kk_ => XS.aloadN X25.here hx rfl (hb hby d5_64) rfl rfl kk_) ?_
  refine Gq.go (T25.setTop (mkF m 66 #[.val (.ref a1), .val (.ref a2), .val (.ref a3), .val (.int p3), .val (.int p4), .val (.int (0 : Int32))] [(.ref a1), (.ref a1)])) (fun tt_ kk_ => XS.aloadN X25.here hx rfl (hb hby d5_65) rfl rfl kk_) ?_
  obtain ⟨T38, X38, eh38, st38⟩ := getF X25 hx hZ hown (host := "") (Or.inl (hw _ (List.mem_of_getElem? (i := 36) rfl))) Via.refl eh25 Fw25 (g := (mkF m 66 #[.val (.ref a1), .val (.ref a2), .val (.ref a3), .val (.int p3), .val (.int p4), .val (.int (0 : Int32))] [(.ref a1), (.ref a1)])) rfl rfl (hb hby d5_66)
  refine Gq.go (T38.setTop (mkF m 69 #[.val (.ref a1), .val (.ref a2), .val (.ref a3), .val (.int p3), .val (.int p4), .val (.int (0 : Int32))] [(.ref b13), (.ref a1)])) (fun tt_ kk_ => st38 _ kk_) ?_
  refine Gq.go (T38.setTop (mkF m 70 #[.val (.ref a1), .val (.ref a2), .val (.ref a3), .val (.int p3), .val (.int p4), .val (.int (0 : Int32))] [(.ref a2), (.ref b13), (.ref a1)])) (fun tt_ kk_ => XS.aloadN X38.here hx rfl (hb hby d5_69) rfl rfl kk_) ?_
  refine Gq.go (T38.setTop (mkF m 71 #[.val (.ref a1), .val (.ref a2), .val (.ref a3), .val (.int p3), .val (.int p4), .val (.int (0 : Int32))] [(.int (0 : Int32)), (.ref b13), (.ref a1)])) (fun tt_ kk_ => lenA X38 hx hZ eh38 fa31 (hb hby d5_70) tt_ kk_) ?_
  refine Gq.go (T38.setTop (mkF m 72 #[.val (.ref a1), .val (.ref a2), .val (.ref a3), .val (.int p3), .val (.int p4), .val (.int (0 : Int32))] [(.int (0 : Int32)), (.ref a1)])) (fun tt_ kk_ => ldI X38 hx hZ eh38 fa33 (j := (0 : Int32)) (i := 0) (x := (0 : Int32)) (by decide) rfl (by decide) rfl (hb hby d5_71) tt_ kk_) ?_
  obtain ⟨T39, h39, b39, X39, eh39, E39, aq39, V39, st39⟩ := mkA X38 hx hZ (hw _ (List.mem_of_getElem? (i := 0) rfl)) eh38 (z := (0 : Int32)) (n := 0) (Ls := #[.val (.ref a1), .val (.ref a2), .val (.ref a3), .val (.int p3), .val (.int p4), .val (.int (0 : Int32))]) (rest := [(.ref a1)]) (by decide) rfl (by decide) (by decide) (by decide) (hb hby d5_72)
  have g_b39 : n0 ≤ b39 := Nat.le_trans za36 (Nat.le_of_eq aq39.symm)
  have sz_b39 : h0.size ≤ b39 := Nat.le_trans Ka37.1 (Nat.le_of_eq aq39.symm)
  have ne_a1_b39 : a1 ≠ b39 := Nat.ne_of_lt (Nat.lt_of_lt_of_le ta34 (Nat.le_of_eq aq39.symm))
  have ne_b13_b39 : b13 ≠ b39 := Nat.ne_of_lt (Nat.lt_of_lt_of_le ta35 (Nat.le_of_eq aq39.symm))
  have fa40 := fa26.ext E39
  have fa41 := fa27.ext E39
  have fa42 := fa28.ext E39
  have fa43 := fa29.ext E39
  have fa44 := fa30.ext E39
  have fa45 := fa31.ext E39
  have fa46 := fa32.ext E39
  have fa47 := fa33.ext E39
  have fa48 := Fw25.ext E39
  have ta49 := Nat.lt_of_lt_of_le ta34 E39.1
  have ta50 := Nat.lt_of_lt_of_le ta35 E39.1
  have za51 : n0 ≤ h39.size := Nat.le_trans za36 E39.1
  have Ka52 := Ka37.ext E39
  have V39' : LA Z h39 b39 .int 0 (gl [] (.int (0 : Int32))) := V39.list
  have ta39' := V39'.lt
  refine Gq.go (T39.setTop (mkF m 74 #[.val (.ref a1), .val (.ref a2), .val (.ref a3), .val (.int p3), .val (.int p4), .val (.int (0 : Int32))] [(.ref b39), (.ref a1)])) (fun tt_ kk_ => st39 tt_ kk_) ?_
  obtain ⟨T53, h53, X53, eh53, W53, st53⟩ := putF X39 hx hZ hown (host := "") (Or.inl (hw _ (List.mem_of_getElem? (i := 38) rfl))) Via.refl eh39 fa41 fa40 (Or.inr ⟨(hw _ (List.mem_of_getElem? (i := 39) rfl)), rfl, hnm⟩) (hw _ (List.mem_of_getElem? (i := 2) rfl)) (ty := (.array .int)) (by decide) rfl rfl (g := (mkF m 74 #[.val (.ref a1), .val (.ref a2), .val (.ref a3), .val (.int p3), .val (.int p4), .val (.int (0 : Int32))] [(.ref b39), (.ref a1)])) rfl rfl (hb hby d5_74)
  have Fw53 := fa41.same W53
  have fa54 := fa40.wr W53
  have fa55 := fa42.other W53 (Or.inr (slot_ne (Or.inr (hw _ (List.mem_of_getElem? (i := 41) rfl))) (Or.inr (hw _ (List.mem_of_getElem? (i := 39) rfl))) (by decide) (t := (.array .int)) (t' := (.array .int)) (by decide) (by decide)))
  have fa56 := fa43.other W53 (Or.inr (slot_ne (Or.inr (hw _ (List.mem_of_getElem? (i := 43) rfl))) (Or.inr (hw _ (List.mem_of_getElem? (i := 39) rfl))) (by decide) (t := .int) (t' := (.array .int)) (by decide) (by decide)))
  have fa57 := fa44.other W53 (Or.inr (slot_ne (Or.inr (hw _ (List.mem_of_getElem? (i := 45) rfl))) (Or.inr (hw _ (List.mem_of_getElem? (i := 39) rfl))) (by decide) (t := .boolean) (t' := (.array .int)) (by decide) (by decide)))
  have fa58 := fa45.other W53 n21
  have fa59 := fa46.other W53 (Or.inr (slot_ne (Or.inr (hw _ (List.mem_of_getElem? (i := 35) rfl))) (Or.inr (hw _ (List.mem_of_getElem? (i := 39) rfl))) (by decide) (t := (.array .int)) (t' := (.array .int)) (by decide) (by decide)))
  have fa60 := fa47.other W53 (Ne.symm ne_a1_b13)
  have fa61 := fa48.other W53 (Or.inr (slot_ne (Or.inr (hw _ (List.mem_of_getElem? (i := 37) rfl))) (Or.inr (hw _ (List.mem_of_getElem? (i := 39) rfl))) (by decide) (t := (.array .int)) (t' := (.array .int)) (by decide) (by decide)))
  have fa62 := V39'.other W53 (Ne.symm ne_a1_b39)
  have ta63 := Nat.lt_of_lt_of_le ta49 (Nat.le_of_eq W53.size.symm)
  have ta64 := Nat.lt_of_lt_of_le ta50 (Nat.le_of_eq W53.size.symm)
  have ta65 := Nat.lt_of_lt_of_le ta39' (Nat.le_of_eq W53.size.symm)
  have za66 : n0 ≤ h53.size := Nat.le_trans za51 (Nat.le_of_eq W53.size.symm)
  have Ka67 := Ka52.wr W53 (Or.inl (List.mem_of_getElem? (i := 0) rfl))
  have N53 := Fr.snoc X53 N25 ga
  refine Gq.go (T53.setTop (mkF m 77 #[.val (.ref a1), .val (.ref a2), .val (.ref a3), .val (.int p3), .val (.int p4), .val (.int (0 : Int32))] [])) (fun tt_ kk_ => st53 _ kk_) ?_
  refine Gq.go (T53.setTop (mkF m 78 #[.val (.ref a1), .val (.ref a2), .val (.ref a3), .val (.int p3), .val (.int p4), .val (.int (0 : Int32))] [(.ref a1)])) (fun tt_ kk_ => XS.aloadN X53.here hx rfl (hb hby d5_77) rfl rfl kk_) ?_
  refine Gq.go (T53.setTop (mkF m 79 #[.val (.ref a1), .val (.ref a2), .val (.ref a3), .val (.int p3), .val (.int p4), .val (.int (0 : Int32))] [(.ref a1), (.ref a1)])) (fun tt_ kk_ => XS.aloadN X53.here hx rfl (hb hby d5_78) rfl rfl kk_) ?_
  obtain ⟨T68, X68, eh68, st68⟩ := getF X53 hx hZ hown (host := "") (Or.inl (hw _ (List.mem_of_getElem? (i := 38) rfl))) Via.refl eh53 Fw53 (g := (mkF m 79 #[.val (.ref a1), .val (.ref a2), .val (.ref a3), .val (.int p3), .val (.int p4), .val (.int (0 : Int32))] [(.ref a1), (.ref a1)])) rfl rfl (hb hby d5_79)
  refine Gq.go (T68.setTop (mkF m 82 #[.val (.ref a1), .val (.ref a2), .val (.ref a3), .val (.int p3), .val (.int p4), .val (.int (0 : Int32))] [(.ref b39), (.ref a1)])) (fun tt_ kk_ => st68 _ kk_) ?_
  refine Gq.go (T68.setTop (mkF m 83 #[.val (.ref a1), .val (.ref a2), .val (.ref a3), .val (.int p3), .val (.int p4), .val (.int (0 : Int32))] [(.int (0 : Int32)), (.ref a1)])) (fun tt_ kk_ => lenA X68 hx hZ eh68 fa62 (hb hby d5_82) tt_ kk_) ?_
  obtain ⟨T69, h69, b69, X69, eh69, E69, aq69, V69, st69⟩ := mkA X68 hx hZ (hw _ (List.mem_of_getElem? (i := 0) rfl)) eh68 (z := (0 : Int32)) (n := 0) (Ls := #[.val (.ref a1), .val (.ref a2), .val (.ref a3), .val (.int p3), .val (.int p4), .val (.int (0 : Int32))]) (rest := [(.ref a1)]) (by decide) rfl (by decide) (by decide) (by decide) (hb hby d5_83)
  have g_b69 : n0 ≤ b69 := Nat.le_trans za66 (Nat.le_of_eq aq69.symm)
  have sz_b69 : h0.size ≤ b69 := Nat.le_trans Ka67.1 (Nat.le_of_eq aq69.symm)
  have ne_a1_b69 : a1 ≠ b69 := Nat.ne_of_lt (Nat.lt_of_lt_of_le ta63 (Nat.le_of_eq aq69.symm))
  have ne_b13_b69 : b13 ≠ b69 := Nat.ne_of_lt (Nat.lt_of_lt_of_le ta64 (Nat.le_of_eq aq69.symm))
  have ne_b39_b69 : b39 ≠ b69 := Nat.ne_of_lt (Nat.lt_of_lt_of_le ta65 (Nat.le_of_eq aq69.symm))
  have fa70 := fa54.ext E69
  have fa71 := fa55.ext E69
  have fa72 := fa56.ext E69
  have fa73 := fa57.ext E69
  have fa74 := fa58.ext E69
  have fa75 := fa59.ext E69
  have fa76 := fa60.ext E69
  have fa77 := fa61.ext E69
  have fa78 := fa62.ext E69
  have fa79 := Fw53.ext E69
  have ta80 := Nat.lt_of_lt_of_le ta63 E69.1
  have ta81 := Nat.lt_of_lt_of_le ta64 E69.1
  have ta82 := Nat.lt_of_lt_of_le ta65 E69.1
  have za83 : n0 ≤ h69.size := Nat.le_trans za66 E69.1
  have Ka84 := Ka67.ext E69
  have V69' : LA Z h69 b69 .int 0 (gl [] (.int (0 : Int32))) := V69.list
  have ta69' := V69'.lt
  refine Gq.go (T69.setTop (mkF m 85 #[.val (.ref a1), .val (.ref a2), .val (.ref a3), .val (.int p3), .val (.int p4), .val (.int (0 : Int32))] [(.ref b69), (.ref a1)])) (fun tt_ kk_ => st69 tt_ kk_) ?_
  obtain ⟨T85, h85, X85, eh85, W85, st85⟩ := putF X69 hx hZ hown (host := "") (Or.inl (hw _ (List.mem_of_getElem? (i := 40) rfl))) Via.refl eh69 fa71 fa70 (Or.inr ⟨(hw _ (List.mem_of_getElem? (i := 41) rfl)), rfl, hnm⟩) (hw _ (List.mem_of_getElem? (i := 2) rfl)) (ty := (.array .int)) (by decide) rfl rfl (g := (mkF m 85 #[.val (.ref a1), .val (.ref a2), .val (.ref a3), .val (.int p3), .val (.int p4), .val (.int (0 : Int32))] [(.ref b69), (.ref a1)])) rfl rfl (hb hby d5_85)
  have Fw85 := fa71.same W85
  have fa86 := fa70.wr W85
  have fa87 := fa72.other W85 (Or.inr (slot_ne (Or.inr (hw _ (List.mem_of_getElem? (i := 43) rfl))) (Or.inr (hw _ (List.mem_of_getElem? (i := 41) rfl))) (by decide) (t := .int) (t' := (.array .int)) (by decide) (by decide)))
  have fa88 := fa73.other W85 (Or.inr (slot_ne (Or.inr (hw _ (List.mem_of_getElem? (i := 45) rfl))) (Or.inr (hw _ (List.mem_of_getElem? (i := 41) rfl))) (by decide) (t := .boolean) (t' := (.array .int)) (by decide) (by decide)))
  have fa89 := fa74.other W85 n21
  have fa90 := fa75.other W85 (Or.inr (slot_ne (Or.inr (hw _ (List.mem_of_getElem? (i := 35) rfl))) (Or.inr (hw _ (List.mem_of_getElem? (i := 41) rfl))) (by decide) (t := (.array .int)) (t' := (.array .int)) (by decide) (by decide)))
  have fa91 := fa76.other W85 (Ne.symm ne_a1_b13)
  have fa92 := fa77.other W85 (Or.inr (slot_ne (Or.inr (hw _ (List.mem_of_getElem? (i := 37) rfl))) (Or.inr (hw _ (List.mem_of_getElem? (i := 41) rfl))) (by decide) (t := (.array .int)) (t' := (.array .int)) (by decide) (by decide)))
  have fa93 := fa78.other W85 (Ne.symm ne_a1_b39)
  have fa94 := fa79.other W85 (Or.inr (slot_ne (Or.inr (hw _ (List.mem_of_getElem? (i := 39) rfl))) (Or.inr (hw _ (List.mem_of_getElem? (i := 41) rfl))) (by decide) (t := (.array .int)) (t' := (.array .int)) (by decide) (by decide)))
  have fa95 := V69'.other W85 (Ne.symm ne_a1_b69)
  have ta96 := Nat.lt_of_lt_of_le ta80 (Nat.le_of_eq W85.size.symm)
  have ta97 := Nat.lt_of_lt_of_le ta81 (Nat.le_of_eq W85.size.symm)
  have ta98 := Nat.lt_of_lt_of_le ta82 (Nat.le_of_eq W85.size.symm)
  have ta99 := Nat.lt_of_lt_of_le ta69' (Nat.le_of_eq W85.size.symm)
  have za100 : n0 ≤ h85.size := Nat.le_trans za83 (Nat.le_of_eq W85.size.symm)
  have Ka101 := Ka84.wr W85 (Or.inl (List.mem_of_getElem? (i := 0) rfl))
  have N85 := Fr.snoc X85 N53 ga
  refine Gq.go (T85.setTop (mkF m 88 #[.val (.ref a1), .val (.ref a2), .val (.ref a3), .val (.int p3), .val (.int p4), .val (.int (0 : Int32))] [])) (fun tt_ kk_ => st85 _ kk_) ?_
  refine Gq.go (T85.setTop (mkF m 89 #[.val (.ref a1), .val (.ref a2), .val (.ref a3), .val (.int p3), .val (.int p4), .val (.int (0 : Int32))] [(.int (0 : Int32))])) (fun tt_ kk_ => XS.iconst X85.here hx rfl (hb hby d5_88) kk_) ?_
  refine Gq.go (T85.setTop (mkF m 91 #[.val (.ref a1), .val (.ref a2), .val (.ref a3), .val (.int p3), .val (.int p4), .val (.int (0 : Int32))] [])) (fun tt_ kk_ => XS.istore X85.here hx rfl (hb hby d5_89) rfl (l' := #[.val (.ref a1), .val (.ref a2), .val (.ref a3), .val (.int p3), .val (.int p4), .val (.int (0 : Int32))]) rfl kk_) ?_
  refine Gq.go (T85.setTop (mkF m 93 #[.val (.ref a1), .val (.ref a2), .val (.ref a3), .val (.int p3), .val (.int p4), .val (.int (0 : Int32))] [(.int (0 : Int32))])) (fun tt_ kk_ => XS.iload X85.here hx rfl (hb hby d5_91) rfl kk_) ?_
  refine Gq.go (T85.setTop (mkF m 94 #[.val (.ref a1), .val (.ref a2), .val (.ref a3), .val (.int p3), .val (.int p4), .val (.int (0 : Int32))] [(.ref a2), (.int (0 : Int32))])) (fun tt_ kk_ => XS.aloadN X85.here hx rfl (hb hby d5_93) rfl rfl kk_) ?_
  refine Gq.go (T85.setTop (mkF m 95 #[.val (.ref a1), .val (.ref a2), .val (.ref a3), .val (.int p3), .val (.int p4), .val (.int (0 : Int32))] [(.int (0 : Int32)), (.int (0 : Int32))])) (fun tt_ kk_ => lenA X85 hx hZ eh85 fa89 (hb hby d5_94) tt_ kk_) ?_
  refine Gq.go (T85.setTop (mkF m 164 #[.val (.ref a1), .val (.ref a2), .val (.ref a3), .val (.int p3), .val (.int p4), .val (.int (0 : Int32))] [])) (fun tt_ kk_ => XS.icmpYes X85.here hx rfl (pc0 := 95) (pc' := 164) rfl (hb hby d5_95) rfl (flt (by decide : ¬ ((0 : Int32) < (0 : Int32)))).2.1 (by decide) (by decide) kk_) ?_
  refine Gq.go (T85.setTop (mkF m 165 #[.val (.ref a1), .val (.ref a2), .val (.ref a3), .val (.int p3), .val (.int p4), .val (.int (0 : Int32))] [(.ref a1)])) (fun tt_ kk_ => XS.aloadN X85.here hx rfl (hb hby d5_164) rfl rfl kk_) ?_
  refine Gq.go (T85.setTop (mkF m 166 #[.val (.ref a1), .val (.ref a2), .val (.ref a3), .val (.int p3), .val (.int p4), .val (.int (0 : Int32))] [(.int p3), (.ref a1)])) (fun tt_ kk_ => XS.iloadN X85.here hx rfl (hb hby d5_165) rfl kk_) ?_
  obtain ⟨T102, h102, X102, eh102, W102, st102⟩ := putF X85 hx hZ hown (host := "") (Or.inl (hw _ (List.mem_of_getElem? (i := 42) rfl))) Via.refl eh85 fa87 fa86 (Or.inr ⟨(hw _ (List.mem_of_getElem? (i := 43) rfl)), rfl, hnm⟩) (hw _ (List.mem_of_getElem? (i := 2) rfl)) (ty := .int) (by decide) rfl rfl (g := (mkF m 166 #[.val (.ref a1), .val (.ref a2), .val (.ref a3), .val (.int p3), .val (.int p4), .val (.int (0 : Int32))] [(.int p3), (.ref a1)])) rfl rfl (hb hby d5_166)
  have Fw102 := fa87.same W102
  have fa103 := fa86.wr W102
  have fa104 := fa88.other W102 (Or.inr (slot_ne (Or.inr (hw _ (List.mem_of_getElem? (i := 45) rfl))) (Or.inr (hw _ (List.mem_of_getElem? (i := 43) rfl))) (by decide) (t := .boolean) (t' := .int) (by decide) (by decide)))
  have fa105 := fa89.other W102 n21
  have fa106 := fa90.other W102 (Or.inr (slot_ne (Or.inr (hw _ (List.mem_of_getElem? (i := 35) rfl))) (Or.inr (hw _ (List.mem_of_getElem? (i := 43) rfl))) (by decide) (t := (.array .int)) (t' := .int) (by decide) (by decide)))
  have fa107 := fa91.other W102 (Ne.symm ne_a1_b13)
  have fa108 := fa92.other W102 (Or.inr (slot_ne (Or.inr (hw _ (List.mem_of_getElem? (i := 37) rfl))) (Or.inr (hw _ (List.mem_of_getElem? (i := 43) rfl))) (by decide) (t := (.array .int)) (t' := .int) (by decide) (by decide)))
  have fa109 := fa93.other W102 (Ne.symm ne_a1_b39)
  have fa110 := fa94.other W102 (Or.inr (slot_ne (Or.inr (hw _ (List.mem_of_getElem? (i := 39) rfl))) (Or.inr (hw _ (List.mem_of_getElem? (i := 43) rfl))) (by decide) (t := (.array .int)) (t' := .int) (by decide) (by decide)))
  have fa111 := fa95.other W102 (Ne.symm ne_a1_b69)
  have fa112 := Fw85.other W102 (Or.inr (slot_ne (Or.inr (hw _ (List.mem_of_getElem? (i := 41) rfl))) (Or.inr (hw _ (List.mem_of_getElem? (i := 43) rfl))) (by decide) (t := (.array .int)) (t' := .int) (by decide) (by decide)))
  have ta113 := Nat.lt_of_lt_of_le ta96 (Nat.le_of_eq W102.size.symm)
  have ta114 := Nat.lt_of_lt_of_le ta97 (Nat.le_of_eq W102.size.symm)
  have ta115 := Nat.lt_of_lt_of_le ta98 (Nat.le_of_eq W102.size.symm)
  have ta116 := Nat.lt_of_lt_of_le ta99 (Nat.le_of_eq W102.size.symm)
  have za117 : n0 ≤ h102.size := Nat.le_trans za100 (Nat.le_of_eq W102.size.symm)
  have Ka118 := Ka101.wr W102 (Or.inl (List.mem_of_getElem? (i := 0) rfl))
  have N102 := Fr.snoc X102 N85 ga
  refine Gq.go (T102.setTop (mkF m 169 #[.val (.ref a1), .val (.ref a2), .val (.ref a3), .val (.int p3), .val (.int p4), .val (.int (0 : Int32))] [])) (fun tt_ kk_ => st102 _ kk_) ?_
  refine Gq.go (T102.setTop (mkF m 170 #[.val (.ref a1), .val (.ref a2), .val (.ref a3), .val (.int p3), .val (.int p4), .val (.int (0 : Int32))] [(.ref a1)])) (fun tt_ kk_ => XS.aloadN X102.here hx rfl (hb hby d5_169) rfl rfl kk_) ?_
  refine Gq.go (T102.setTop (mkF m 172 #[.val (.ref a1), .val (.ref a2), .val (.ref a3), .val (.int p3), .val (.int p4), .val (.int (0 : Int32))] [(.int p4), (.ref a1)])) (fun tt_ kk_ => XS.iload X102.here hx rfl (hb hby d5_170) rfl kk_) ?_
  obtain ⟨T119, h119, X119, eh119, W119, st119⟩ := putFN X102 hx hZ hown (hw _ (List.mem_of_getElem? (i := 44) rfl)) Via.refl eh102 fa104 fa103 (Or.inr ⟨(hw _ (List.mem_of_getElem? (i := 45) rfl)), rfl, hnm⟩) (hw _ (List.mem_of_getElem? (i := 2) rfl)) (ty := .boolean) (v' := (.int (nar .boolean p4))) (by decide) rfl (fits_nar_bool _) (g := (mkF m 172 #[.val (.ref a1), .val (.ref a2), .val (.ref a3), .val (.int p3), .val (.int p4), .val (.int (0 : Int32))] [(.int p4), (.ref a1)])) rfl rfl (hb hby d5_172)
  have Fw119 := fa104.same W119
  have fa120 := fa103.wr W119
  have fa121 := fa105.other W119 n21
  have fa122 := fa106.other W119 (Or.inr (slot_ne (Or.inr (hw _ (List.mem_of_getElem? (i := 35) rfl))) (Or.inr (hw _ (List.mem_of_getElem? (i := 45) rfl))) (by decide) (t := (.array .int)) (t' := .boolean) (by decide) (by decide)))
  have fa123 := fa107.other W119 (Ne.symm ne_a1_b13)
  have fa124 := fa108.other W119 (Or.inr (slot_ne (Or.inr (hw _ (List.mem_of_getElem? (i := 37) rfl))) (Or.inr (hw _ (List.mem_of_getElem? (i := 45) rfl))) (by decide) (t := (.array .int)) (t' := .boolean) (by decide) (by decide)))
  have fa125 := fa109.other W119 (Ne.symm ne_a1_b39)
  have fa126 := fa110.other W119 (Or.inr (slot_ne (Or.inr (hw _ (List.mem_of_getElem? (i := 39) rfl))) (Or.inr (hw _ (List.mem_of_getElem? (i := 45) rfl))) (by decide) (t := (.array .int)) (t' := .boolean) (by decide) (by decide)))
  have fa127 := fa111.other W119 (Ne.symm ne_a1_b69)
  have fa128 := fa112.other W119 (Or.inr (slot_ne (Or.inr (hw _ (List.mem_of_getElem? (i := 41) rfl))) (Or.inr (hw _ (List.mem_of_getElem? (i := 45) rfl))) (by decide) (t := (.array .int)) (t' := .boolean) (by decide) (by decide)))
  have fa129 := Fw102.other W119 (Or.inr (slot_ne (Or.inr (hw _ (List.mem_of_getElem? (i := 43) rfl))) (Or.inr (hw _ (List.mem_of_getElem? (i := 45) rfl))) (by decide) (t := .int) (t' := .boolean) (by decide) (by decide)))
  have ta130 := Nat.lt_of_lt_of_le ta113 (Nat.le_of_eq W119.size.symm)
  have ta131 := Nat.lt_of_lt_of_le ta114 (Nat.le_of_eq W119.size.symm)
  have ta132 := Nat.lt_of_lt_of_le ta115 (Nat.le_of_eq W119.size.symm)
  have ta133 := Nat.lt_of_lt_of_le ta116 (Nat.le_of_eq W119.size.symm)
  have za134 : n0 ≤ h119.size := Nat.le_trans za117 (Nat.le_of_eq W119.size.symm)
  have Ka135 := Ka118.wr W119 (Or.inl (List.mem_of_getElem? (i := 0) rfl))
  have N119 := Fr.snoc X119 N102 ga
  refine Gq.go (T119.setTop (mkF m 175 #[.val (.ref a1), .val (.ref a2), .val (.ref a3), .val (.int p3), .val (.int p4), .val (.int (0 : Int32))] [])) (fun tt_ kk_ => st119 _ kk_) ?_
  refine Gq.retV X119 hx Bd.notSynchronized Bd.returns (hb hby d5_175) (by decide) (by decide) ?_
  show Q5 Z a1 a2 a3 p3 p4 h0 n0 _ T119.heap _
  rw [eh119]
  exact ⟨rfl, N119, Ka135⟩
theorem d6_0 : decode prog_46_method_7_code 0 = .ok (.aload_n 1, 1) := by decide +kernel
theorem d6_1 : decode prog_46_method_7_code 1 = .ok (.invokevirtual 49, 3) := by decide +kernel
theorem d6_4 : decode prog_46_method_7_code 4 = .ok (.checkcast 22, 3) := by decide +kernel
theorem d6_7 : decode prog_46_method_7_code 7 = .ok (.astore 4, 2) := by decide +kernel
theorem d6_9 : decode prog_46_method_7_code 9 = .ok (.iconst 0, 1) := by decide +kernel
theorem d6_10 : decode prog_46_method_7_code 10 = .ok (.istore 5, 2) := by decide +kernel
theorem d6_12 : decode prog_46_method_7_code 12 = .ok (.iload 5, 2) := by decide +kernel
theorem d6_14 : decode prog_46_method_7_code 14 = .ok (.aload_n 1, 1) := by decide +kernel
theorem d6_15 : decode prog_46_method_7_code 15 = .ok (.arraylength, 1) := by decide +kernel
theorem d6_16 : decode prog_46_method_7_code 16 = .ok (.if_icmp .ge 27, 3) := by decide +kernel
theorem d6_19 : decode prog_46_method_7_code 19 = .ok (.aload_n 2, 1) := by decide +kernel
theorem d6_20 : decode prog_46_method_7_code 20 = .ok (.iload 5, 2) := by decide +kernel
theorem d6_22 : decode prog_46_method_7_code 22 = .ok (.iaload, 1) := by decide +kernel
theorem d6_23 : decode prog_46_method_7_code 23 = .ok (.ifCond .lt 14, 3) := by decide +kernel
theorem d6_26 : decode prog_46_method_7_code 26 = .ok (.aload 4, 2) := by decide +kernel
theorem d6_28 : decode prog_46_method_7_code 28 = .ok (.iload 5, 2) := by decide +kernel
theorem d6_30 : decode prog_46_method_7_code 30 = .ok (.aload_n 3, 1) := by decide +kernel
theorem d6_31 : decode prog_46_method_7_code 31 = .ok (.aload_n 2, 1) := by decide +kernel
theorem d6_32 : decode prog_46_method_7_code 32 = .ok (.iload 5, 2) := by decide +kernel
theorem d6_34 : decode prog_46_method_7_code 34 = .ok (.iaload, 1) := by decide +kernel
theorem d6_35 : decode prog_46_method_7_code 35 = .ok (.iaload, 1) := by decide +kernel
theorem d6_36 : decode prog_46_method_7_code 36 = .ok (.iastore, 1) := by decide +kernel
theorem d6_37 : decode prog_46_method_7_code 37 = .ok (.iinc 5 1, 3) := by decide +kernel
theorem d6_40 : decode prog_46_method_7_code 40 = .ok (.goto (-28), 3) := by decide +kernel
theorem d6_43 : decode prog_46_method_7_code 43 = .ok (.aload 4, 2) := by decide +kernel
theorem d6_45 : decode prog_46_method_7_code 45 = .ok (.areturn, 1) := by decide +kernel
theorem ef6 (m : MethodId) (y0 : Addr) (y1 : Addr) (y2 : Addr) (y3 : Addr) : entryFrame m #[(.ref y0), (.ref y1), (.ref y2), (.ref y3)] 6 = mkF m 0 #[.val (.ref y0), .val (.ref y1), .val (.ref y2), .val (.ref y3), .unset, .unset] [] := by first | (simp [entryFrame, mkF, argsToLocals, Value.category]; done) | rfl
def Q6 (Z : State) (a1 : Addr) (a2 : Addr) (a3 : Addr) (a4 : Addr) (r0 : Int32) (r1 : Int32) (k0 : Int32) (k1 : Int32) (v0 : Int32) (v1 : Int32) (v2 : Int32) (h0 : Heap) (n0 : Nat) (v : Option Value) (h : Heap) (L : List Loc) : Prop := (∃ b : Addr, v = some (.ref b) ∧ n0 ≤ b ∧ h0.size ≤ b ∧ LA Z h b .int 2 (gl [(.int (own_pick k0 r0 v0 v1 v2)), (.int (own_pick k1 r1 v0 v1 v2))] (.int (0 : Int32)))) ∧ Fr n0 L ∧ Keep h0 h []
set_option maxRecDepth 65536 in
set_option maxHeartbeats 40000000 in
theorem rm6 (l : Launch) (Z : State) (a0 : Array Value) (hw : ∀ d ∈ tables_1, d.before a0 Z = true) (ws : List Jvm.Cond) (a1 : Addr) (a2 : Addr) (a3 : Addr) (a4 : Addr) (r0 : Int32) (r1 : Int32) (k0 : Int32) (k1 : Int32) (v0 : Int32) (v1 : Int32) (v2 : Int32) (h0 : Heap) (n0 : Nat) (Z0 : n0 ≤ h0.size) (E2 : Exa Z h0 a2 "[I") (V2 : LA Z h0 a2 .int 2 (gl [(.int r0), (.int r1)] (.int (0 : Int32)))) (V3 : LA Z h0 a3 .int 2 (gl [(.int k0), (.int k1)] (.int (0 : Int32)))) (V4 : LA Z h0 a4 .int 3 (gl [(.int v0), (.int v1), (.int v2)] (.int (0 : Int32)))) (hk0 : (k0 < (0 : Int32) ∨ ∃ m : Nat, m < 3 ∧ k0 = Int32.ofNat m)) (hk1 : (k1 < (0 : Int32) ∨ ∃ m : Nat, m < 3 ∧ k1 = Int32.ofNat m)) :
    MetFree l (⟨"com/example/arbor2/arbor2/analysis/Tracks", "advance", "([I[I[I)[I"⟩ : MethodName) (head1 (Jvm.Cond.code (⟨"com/example/arbor2/arbor2/analysis/Tracks", "advance", "([I[I[I)[I"⟩ : MethodName) prog_46_method_7_code 6 (some (.array .int)) :: ws) ({ frames := 1, cells := 1, slots := 2, locals := 14 } : Room)) (fun a U => a = #[(.ref a1), (.ref a2), (.ref a3), (.ref a4)] ∧ Z.Warmed39 U.vm ∧ U.heap = h0) (fun _ _ _ _ _ => True) (fun _ U o U' => ∃ v L, o = .returned v ∧ Q6 Z a1 a2 a3 a4 r0 r1 k0 k1 v0 v1 v2 h0 n0 v U'.heap L ∧ FrameEnd U o U' L ({ frames := 1, cells := 1, slots := 2, locals := 14 } : Room).cells ({ frames := 1, cells := 1, slots := 2, locals := 14 } : Room).slots) := by
  refine MetFree.of_bodySF (plainFor_of_name pn_com_example_arbor2_arbor2_analysis_Tracks) hisR ?_
  intro p e s m args below meth c s₁ Bd hml0 hP hK
  obtain ⟨rfl, hZ, hh⟩ := hP
  have hx := Bd.exec
  have hby := Bd.bytes
  have hml : c.maxLocals = 6 := hml0
  have hown : s.vm.findClass "com/example/arbor2/arbor2/analysis/Tracks" = some m.cls := findClass_of_methodNamed Bd.named
  have hnm := (name_of_methodNamed Bd.named Bd.method).1
  have X0 : Stand p l e ({ frames := 1, cells := 1, slots := 2, locals := 14 } : Room) s m #[(.ref a1), (.ref a2), (.ref a3), (.ref a4)] below meth c s₁ [] 0 0 := Stand.of_body Bd
  have eh0 : s₁.heap = h0 := by rw [← hh, Bd.state]; rfl
  have N0 := Fr.nil n0
  refine Gq.start (Q := Q6 Z a1 a2 a3 a4 r0 r1 k0 k1 v0 v1 v2 h0 n0) (kc := ({ frames := 1, cells := 1, slots := 2, locals := 14 } : Room).cells) (ks := ({ frames := 1, cells := 1, slots := 2, locals := 14 } : Room).slots) (ef6 m a1 a2 a3 a4) ?_
  refine Gq.go (s₁.setTop (mkF m 1 #[.val (.ref a1), .val (.ref a2), .val (.ref a3), .val (.ref a4), .unset, .unset] [(.ref a2)])) (fun tt_ kk_ => XS.aloadN X0.here hx rfl (hb hby d6_0) rfl rfl kk_) ?_
  obtain ⟨T1, h1, b1, X1, eh1, E1, aq1, V1, A1, st1⟩ := cloneL (pc := 1) (Ls := #[.val (.ref a1), .val (.ref a2), .val (.ref a3), .val (.ref a4), .unset, .unset]) (rest := []) X0 hx hZ hown (hw _ (List.mem_of_getElem? (i := 51) rfl)) (hw _ (List.mem_of_getElem? (i := 52) rfl)) (hw _ (List.mem_of_getElem? (i := 56) rfl)) (hw _ (List.mem_of_getElem? (i := 54) rfl)) (hw _ (List.mem_of_getElem? (i := 55) rfl)) (hw _ (List.mem_of_getElem? (i := 57) rfl)) eh0 V2 E2 (own_fit2 r0 r1) (by rw [hml]; rfl) (hb hby d6_1) (by decide) (W := 0) (Nat.le_of_eq rfl) (by decide) (by decide) (by decide)
  have g_b1 : n0 ≤ b1 := Nat.le_trans Z0 (Nat.le_of_eq aq1.symm)
  have sz_b1 : h0.size ≤ b1 := Nat.le_trans (Keep.refl h0 []).1 (Nat.le_of_eq aq1.symm)
  have ne_a2_b1 : a2 ≠ b1 := Nat.ne_of_lt (Nat.lt_of_lt_of_le V2.lt (Nat.le_of_eq aq1.symm))
  have ne_a3_b1 : a3 ≠ b1 := Nat.ne_of_lt (Nat.lt_of_lt_of_le V3.lt (Nat.le_of_eq aq1.symm))
  have ne_a4_b1 : a4 ≠ b1 := Nat.ne_of_lt (Nat.lt_of_lt_of_le V4.lt (Nat.le_of_eq aq1.symm))
  have fa2 := E2.ext E1
  have fa3 := V2.ext E1
  have fa4 := V3.ext E1
  have fa5 := V4.ext E1
  have ta6 := Nat.lt_of_lt_of_le V2.lt E1.1
  have ta7 := Nat.lt_of_lt_of_le V3.lt E1.1
  have ta8 := Nat.lt_of_lt_of_le V4.lt E1.1
  have za9 : n0 ≤ h1.size := Nat.le_trans Z0 E1.1
  have Ka10 := (Keep.refl h0 []).ext E1
  have ta1' := V1.lt
  refine Gq.go (T1.setTop (mkF m 4 #[.val (.ref a1), .val (.ref a2), .val (.ref a3), .val (.ref a4), .unset, .unset] [(.ref b1)])) (fun tt_ kk_ => st1 tt_ kk_) ?_
  obtain ⟨T11, X11, eh11, st11⟩ := castY X1 hx hZ hown (hw _ (List.mem_of_getElem? (i := 58) rfl)) eh1 (Ins.self A1) (g := (mkF m 4 #[.val (.ref a1), .val (.ref a2), .val (.ref a3), .val (.ref a4), .unset, .unset] [(.ref b1)])) rfl rfl (hb hby d6_4)
  refine Gq.go (T11.setTop (mkF m 7 #[.val (.ref a1), .val (.ref a2), .val (.ref a3), .val (.ref a4), .unset, .unset] [(.ref b1)])) (fun tt_ kk_ => st11 _ kk_) ?_
  refine Gq.go (T11.setTop (mkF m 9 #[.val (.ref a1), .val (.ref a2), .val (.ref a3), .val (.ref a4), .val (.ref b1), .unset] [])) (fun tt_ kk_ => XS.astore X11.here hx rfl (hb hby d6_7) rfl rfl (l' := #[.val (.ref a1), .val (.ref a2), .val (.ref a3), .val (.ref a4), .val (.ref b1), .unset]) rfl kk_) ?_
  refine Gq.go (T11.setTop (mkF m 10 #[.val (.ref a1), .val (.ref a2), .val (.ref a3), .val (.ref a4), .val (.ref b1), .unset] [(.int (0 : Int32))])) (fun tt_ kk_ => XS.iconst X11.here hx rfl (hb hby d6_9) kk_) ?_
  refine Gq.go (T11.setTop (mkF m 12 #[.val (.ref a1), .val (.ref a2), .val (.ref a3), .val (.ref a4), .val (.ref b1), .val (.int (0 : Int32))] [])) (fun tt_ kk_ => XS.istore X11.here hx rfl (hb hby d6_10) rfl (l' := #[.val (.ref a1), .val (.ref a2), .val (.ref a3), .val (.ref a4), .val (.ref b1), .val (.int (0 : Int32))]) rfl kk_) ?_
  refine Gq.go (T11.setTop (mkF m 14 #[.val (.ref a1), .val (.ref a2), .val (.ref a3), .val (.ref a4), .val (.ref b1), .val (.int (0 : Int32))] [(.int (0 : Int32))])) (fun tt_ kk_ => XS.iload X11.here hx rfl (hb hby d6_12) rfl kk_) ?_
  refine Gq.go (T11.setTop (mkF m 15 #[.val (.ref a1), .val (.ref a2), .val (.ref a3), .val (.ref a4), .val (.ref b1), .val (.int (0 : Int32))] [(.ref a2), (.int (0 : Int32))])) (fun tt_ kk_ => XS.aloadN X11.here hx rfl (hb hby d6_14) rfl rfl kk_) ?_
  refine Gq.go (T11.setTop (mkF m 16 #[.val (.ref a1), .val (.ref a2), .val (.ref a3), .val (.ref a4), .val (.ref b1), .val (.int (0 : Int32))] [(.int (2 : Int32)), (.int (0 : Int32))])) (fun tt_ kk_ => lenA X11 hx hZ eh11 fa3 (hb hby d6_15) tt_ kk_) ?_
  refine Gq.go (T11.setTop (mkF m 19 #[.val (.ref a1), .val (.ref a2), .val (.ref a3), .val (.ref a4), .val (.ref b1), .val (.int (0 : Int32))] [])) (fun tt_ kk_ => XS.icmpNo X11.here hx rfl (hb hby d6_16) rfl (tlt (by decide : ((0 : Int32) < (2 : Int32)))).2.1 kk_) ?_
  refine Gq.go (T11.setTop (mkF m 20 #[.val (.ref a1), .val (.ref a2), .val (.ref a3), .val (.ref a4), .val (.ref b1), .val (.int (0 : Int32))] [(.ref a3)])) (fun tt_ kk_ => XS.aloadN X11.here hx rfl (hb hby d6_19) rfl rfl kk_) ?_
  refine Gq.go (T11.setTop (mkF m 22 #[.val (.ref a1), .val (.ref a2), .val (.ref a3), .val (.ref a4), .val (.ref b1), .val (.int (0 : Int32))] [(.int (0 : Int32)), (.ref a3)])) (fun tt_ kk_ => XS.iload X11.here hx rfl (hb hby d6_20) rfl kk_) ?_
  refine Gq.go (T11.setTop (mkF m 23 #[.val (.ref a1), .val (.ref a2), .val (.ref a3), .val (.ref a4), .val (.ref b1), .val (.int (0 : Int32))] [(.int k0)])) (fun tt_ kk_ => ldI X11 hx hZ eh11 fa4 (j := (0 : Int32)) (i := 0) (x := k0) (by decide) rfl (by decide) rfl (hb hby d6_22) tt_ kk_) ?_
  by_cases hn0 : k0 < (0 : Int32)
  · refine Gq.go (T11.setTop (mkF m 37 #[.val (.ref a1), .val (.ref a2), .val (.ref a3), .val (.ref a4), .val (.ref b1), .val (.int (0 : Int32))] [])) (fun tt_ kk_ => XS.ifYes X11.here hx rfl (pc0 := 23) (pc' := 37) rfl (hb hby d6_23) rfl ((if0 _ _).trans (tlt hn0).1) (by decide) (by decide) kk_) ?_
    refine Gq.go (T11.setTop (mkF m 40 #[.val (.ref a1), .val (.ref a2), .val (.ref a3), .val (.ref a4), .val (.ref b1), .val (.int (1 : Int32))] [])) (fun tt_ kk_ => XS.iinc X11.here hx rfl (hb hby d6_37) rfl (l' := #[.val (.ref a1), .val (.ref a2), .val (.ref a3), .val (.ref a4), .val (.ref b1), .val (.int (1 : Int32))]) rfl kk_) ?_
    refine Gq.go (T11.setTop (mkF m 12 #[.val (.ref a1), .val (.ref a2), .val (.ref a3), .val (.ref a4), .val (.ref b1), .val (.int (1 : Int32))] [])) (fun tt_ kk_ => XS.goto X11.here hx rfl (pc0 := 40) (pc' := 12) rfl (hb hby d6_40) (by decide) (by decide) kk_) ?_
    refine Gq.go (T11.setTop (mkF m 14 #[.val (.ref a1), .val (.ref a2), .val (.ref a3), .val (.ref a4), .val (.ref b1), .val (.int (1 : Int32))] [(.int (1 : Int32))])) (fun tt_ kk_ => XS.iload X11.here hx rfl (hb hby d6_12) rfl kk_) ?_
    refine Gq.go (T11.setTop (mkF m 15 #[.val (.ref a1), .val (.ref a2), .val (.ref a3), .val (.ref a4), .val (.ref b1), .val (.int (1 : Int32))] [(.ref a2), (.int (1 : Int32))])) (fun tt_ kk_ => XS.aloadN X11.here hx rfl (hb hby d6_14) rfl rfl kk_) ?_
    refine Gq.go (T11.setTop (mkF m 16 #[.val (.ref a1), .val (.ref a2), .val (.ref a3), .val (.ref a4), .val (.ref b1), .val (.int (1 : Int32))] [(.int (2 : Int32)), (.int (1 : Int32))])) (fun tt_ kk_ => lenA X11 hx hZ eh11 fa3 (hb hby d6_15) tt_ kk_) ?_
    refine Gq.go (T11.setTop (mkF m 19 #[.val (.ref a1), .val (.ref a2), .val (.ref a3), .val (.ref a4), .val (.ref b1), .val (.int (1 : Int32))] [])) (fun tt_ kk_ => XS.icmpNo X11.here hx rfl (hb hby d6_16) rfl (tlt (by decide : ((1 : Int32) < (2 : Int32)))).2.1 kk_) ?_
    refine Gq.go (T11.setTop (mkF m 20 #[.val (.ref a1), .val (.ref a2), .val (.ref a3), .val (.ref a4), .val (.ref b1), .val (.int (1 : Int32))] [(.ref a3)])) (fun tt_ kk_ => XS.aloadN X11.here hx rfl (hb hby d6_19) rfl rfl kk_) ?_
    refine Gq.go (T11.setTop (mkF m 22 #[.val (.ref a1), .val (.ref a2), .val (.ref a3), .val (.ref a4), .val (.ref b1), .val (.int (1 : Int32))] [(.int (1 : Int32)), (.ref a3)])) (fun tt_ kk_ => XS.iload X11.here hx rfl (hb hby d6_20) rfl kk_) ?_
    refine Gq.go (T11.setTop (mkF m 23 #[.val (.ref a1), .val (.ref a2), .val (.ref a3), .val (.ref a4), .val (.ref b1), .val (.int (1 : Int32))] [(.int k1)])) (fun tt_ kk_ => ldI X11 hx hZ eh11 fa4 (j := (1 : Int32)) (i := 1) (x := k1) (by decide) rfl (by decide) rfl (hb hby d6_22) tt_ kk_) ?_
    by_cases hn1 : k1 < (0 : Int32)
    · refine Gq.go (T11.setTop (mkF m 37 #[.val (.ref a1), .val (.ref a2), .val (.ref a3), .val (.ref a4), .val (.ref b1), .val (.int (1 : Int32))] [])) (fun tt_ kk_ => XS.ifYes X11.here hx rfl (pc0 := 23) (pc' := 37) rfl (hb hby d6_23) rfl ((if0 _ _).trans (tlt hn1).1) (by decide) (by decide) kk_) ?_
      refine Gq.go (T11.setTop (mkF m 40 #[.val (.ref a1), .val (.ref a2), .val (.ref a3), .val (.ref a4), .val (.ref b1), .val (.int (2 : Int32))] [])) (fun tt_ kk_ => XS.iinc X11.here hx rfl (hb hby d6_37) rfl (l' := #[.val (.ref a1), .val (.ref a2), .val (.ref a3), .val (.ref a4), .val (.ref b1), .val (.int (2 : Int32))]) rfl kk_) ?_
      refine Gq.go (T11.setTop (mkF m 12 #[.val (.ref a1), .val (.ref a2), .val (.ref a3), .val (.ref a4), .val (.ref b1), .val (.int (2 : Int32))] [])) (fun tt_ kk_ => XS.goto X11.here hx rfl (pc0 := 40) (pc' := 12) rfl (hb hby d6_40) (by decide) (by decide) kk_) ?_
      refine Gq.go (T11.setTop (mkF m 14 #[.val (.ref a1), .val (.ref a2), .val (.ref a3), .val (.ref a4), .val (.ref b1), .val (.int (2 : Int32))] [(.int (2 : Int32))])) (fun tt_ kk_ => XS.iload X11.here hx rfl (hb hby d6_12) rfl kk_) ?_
      refine Gq.go (T11.setTop (mkF m 15 #[.val (.ref a1), .val (.ref a2), .val (.ref a3), .val (.ref a4), .val (.ref b1), .val (.int (2 : Int32))] [(.ref a2), (.int (2 : Int32))])) (fun tt_ kk_ => XS.aloadN X11.here hx rfl (hb hby d6_14) rfl rfl kk_) ?_
      refine Gq.go (T11.setTop (mkF m 16 #[.val (.ref a1), .val (.ref a2), .val (.ref a3), .val (.ref a4), .val (.ref b1), .val (.int (2 : Int32))] [(.int (2 : Int32)), (.int (2 : Int32))])) (fun tt_ kk_ => lenA X11 hx hZ eh11 fa3 (hb hby d6_15) tt_ kk_) ?_
      refine Gq.go (T11.setTop (mkF m 43 #[.val (.ref a1), .val (.ref a2), .val (.ref a3), .val (.ref a4), .val (.ref b1), .val (.int (2 : Int32))] [])) (fun tt_ kk_ => XS.icmpYes X11.here hx rfl (pc0 := 16) (pc' := 43) rfl (hb hby d6_16) rfl (flt (by decide : ¬ ((2 : Int32) < (2 : Int32)))).2.1 (by decide) (by decide) kk_) ?_
      refine Gq.go (T11.setTop (mkF m 45 #[.val (.ref a1), .val (.ref a2), .val (.ref a3), .val (.ref a4), .val (.ref b1), .val (.int (2 : Int32))] [(.ref b1)])) (fun tt_ kk_ => XS.aload X11.here hx rfl (hb hby d6_43) rfl rfl kk_) ?_
      refine Gq.retA X11 hx Bd.notSynchronized Bd.returns rfl rfl rfl (hb hby d6_45) (by decide) (by decide) ?_
      show Q6 Z a1 a2 a3 a4 r0 r1 k0 k1 v0 v1 v2 h0 n0 _ T11.heap _
      rw [eh11]
      exact ⟨⟨b1, rfl, g_b1, sz_b1, (by rw [own_pick_neg hn0, own_pick_neg hn1]; exact V1)⟩, N0, Ka10⟩
    · refine Gq.go (T11.setTop (mkF m 26 #[.val (.ref a1), .val (.ref a2), .val (.ref a3), .val (.ref a4), .val (.ref b1), .val (.int (1 : Int32))] [])) (fun tt_ kk_ => XS.ifNo X11.here hx rfl (hb hby d6_23) rfl ((if0 _ _).trans (flt hn1).1) kk_) ?_
      obtain ⟨m1, hm1, em1⟩ := hk1.resolve_left hn1
      refine Gq.go (T11.setTop (mkF m 28 #[.val (.ref a1), .val (.ref a2), .val (.ref a3), .val (.ref a4), .val (.ref b1), .val (.int (1 : Int32))] [(.ref b1)])) (fun tt_ kk_ => XS.aload X11.here hx rfl (hb hby d6_26) rfl rfl kk_) ?_
      refine Gq.go (T11.setTop (mkF m 30 #[.val (.ref a1), .val (.ref a2), .val (.ref a3), .val (.ref a4), .val (.ref b1), .val (.int (1 : Int32))] [(.int (1 : Int32)), (.ref b1)])) (fun tt_ kk_ => XS.iload X11.here hx rfl (hb hby d6_28) rfl kk_) ?_
      refine Gq.go (T11.setTop (mkF m 31 #[.val (.ref a1), .val (.ref a2), .val (.ref a3), .val (.ref a4), .val (.ref b1), .val (.int (1 : Int32))] [(.ref a4), (.int (1 : Int32)), (.ref b1)])) (fun tt_ kk_ => XS.aloadN X11.here hx rfl (hb hby d6_30) rfl rfl kk_) ?_
      refine Gq.go (T11.setTop (mkF m 32 #[.val (.ref a1), .val (.ref a2), .val (.ref a3), .val (.ref a4), .val (.ref b1), .val (.int (1 : Int32))] [(.ref a3), (.ref a4), (.int (1 : Int32)), (.ref b1)])) (fun tt_ kk_ => XS.aloadN X11.here hx rfl (hb hby d6_31) rfl rfl kk_) ?_
      refine Gq.go (T11.setTop (mkF m 34 #[.val (.ref a1), .val (.ref a2), .val (.ref a3), .val (.ref a4), .val (.ref b1), .val (.int (1 : Int32))] [(.int (1 : Int32)), (.ref a3), (.ref a4), (.int (1 : Int32)), (.ref b1)])) (fun tt_ kk_ => XS.iload X11.here hx rfl (hb hby d6_32) rfl kk_) ?_
      refine Gq.go (T11.setTop (mkF m 35 #[.val (.ref a1), .val (.ref a2), .val (.ref a3), .val (.ref a4), .val (.ref b1), .val (.int (1 : Int32))] [(.int k1), (.ref a4), (.int (1 : Int32)), (.ref b1)])) (fun tt_ kk_ => ldI X11 hx hZ eh11 fa4 (j := (1 : Int32)) (i := 1) (x := k1) (by decide) rfl (by decide) rfl (hb hby d6_34) tt_ kk_) ?_
      refine Gq.go (T11.setTop (mkF m 36 #[.val (.ref a1), .val (.ref a2), .val (.ref a3), .val (.ref a4), .val (.ref b1), .val (.int (1 : Int32))] [(.int (own_pick k1 r1 v0 v1 v2)), (.int (1 : Int32)), (.ref b1)])) (fun tt_ kk_ => ldI X11 hx hZ eh11 fa5 (j := k1) (i := m1) (x := (own_pick k1 r1 v0 v1 v2)) hn1 (by rw [em1]; exact own_nc (by omega)) hm1 (own_pick_at hm1 em1) (hb hby d6_35) tt_ kk_) ?_
      obtain ⟨T12, h12, X12, eh12, W12, st12⟩ := stoI X11 hx hZ eh11 V1 (j := (1 : Int32)) (i := 1) (x := (own_pick k1 r1 v0 v1 v2)) (Ls := #[.val (.ref a1), .val (.ref a2), .val (.ref a3), .val (.ref a4), .val (.ref b1), .val (.int (1 : Int32))]) (rest := []) (by decide) rfl (by decide) (hb hby d6_36)
      have fa13 := fa2.wr W12
      have fa14 := fa3.other W12 ne_a2_b1
      have fa15 := fa4.other W12 ne_a3_b1
      have fa16 := fa5.other W12 ne_a4_b1
      have fa17 := A1.wr W12
      have ta18 := Nat.lt_of_lt_of_le ta6 (Nat.le_of_eq W12.size.symm)
      have ta19 := Nat.lt_of_lt_of_le ta7 (Nat.le_of_eq W12.size.symm)
      have ta20 := Nat.lt_of_lt_of_le ta8 (Nat.le_of_eq W12.size.symm)
      have ta21 := Nat.lt_of_lt_of_le ta1' (Nat.le_of_eq W12.size.symm)
      have za22 : n0 ≤ h12.size := Nat.le_trans za9 (Nat.le_of_eq W12.size.symm)
      have V12 : LA Z h12 b1 .int 2 (gl [(.int r0), (.int (own_pick k1 r1 v0 v1 v2))] (.int (0 : Int32))) := V1.setL W12 (Nat.le_of_ble_eq_true rfl)
      have Ka23 := Ka10.wr W12 (Or.inr sz_b1)
      have N12 := Fr.snoc X12 N0 g_b1
      refine Gq.go (T12.setTop (mkF m 37 #[.val (.ref a1), .val (.ref a2), .val (.ref a3), .val (.ref a4), .val (.ref b1), .val (.int (1 : Int32))] [])) (fun tt_ kk_ => st12 tt_ kk_) ?_
      refine Gq.go (T12.setTop (mkF m 40 #[.val (.ref a1), .val (.ref a2), .val (.ref a3), .val (.ref a4), .val (.ref b1), .val (.int (2 : Int32))] [])) (fun tt_ kk_ => XS.iinc X12.here hx rfl (hb hby d6_37) rfl (l' := #[.val (.ref a1), .val (.ref a2), .val (.ref a3), .val (.ref a4), .val (.ref b1), .val (.int (2 : Int32))]) rfl kk_) ?_
      refine Gq.go (T12.setTop (mkF m 12 #[.val (.ref a1), .val (.ref a2), .val (.ref a3), .val (.ref a4), .val (.ref b1), .val (.int (2 : Int32))] [])) (fun tt_ kk_ => XS.goto X12.here hx rfl (pc0 := 40) (pc' := 12) rfl (hb hby d6_40) (by decide) (by decide) kk_) ?_
      refine Gq.go (T12.setTop (mkF m 14 #[.val (.ref a1), .val (.ref a2), .val (.ref a3), .val (.ref a4), .val (.ref b1), .val (.int (2 : Int32))] [(.int (2 : Int32))])) (fun tt_ kk_ => XS.iload X12.here hx rfl (hb hby d6_12) rfl kk_) ?_
      refine Gq.go (T12.setTop (mkF m 15 #[.val (.ref a1), .val (.ref a2), .val (.ref a3), .val (.ref a4), .val (.ref b1), .val (.int (2 : Int32))] [(.ref a2), (.int (2 : Int32))])) (fun tt_ kk_ => XS.aloadN X12.here hx rfl (hb hby d6_14) rfl rfl kk_) ?_
      refine Gq.go (T12.setTop (mkF m 16 #[.val (.ref a1), .val (.ref a2), .val (.ref a3), .val (.ref a4), .val (.ref b1), .val (.int (2 : Int32))] [(.int (2 : Int32)), (.int (2 : Int32))])) (fun tt_ kk_ => lenA X12 hx hZ eh12 fa14 (hb hby d6_15) tt_ kk_) ?_
      refine Gq.go (T12.setTop (mkF m 43 #[.val (.ref a1), .val (.ref a2), .val (.ref a3), .val (.ref a4), .val (.ref b1), .val (.int (2 : Int32))] [])) (fun tt_ kk_ => XS.icmpYes X12.here hx rfl (pc0 := 16) (pc' := 43) rfl (hb hby d6_16) rfl (flt (by decide : ¬ ((2 : Int32) < (2 : Int32)))).2.1 (by decide) (by decide) kk_) ?_
      refine Gq.go (T12.setTop (mkF m 45 #[.val (.ref a1), .val (.ref a2), .val (.ref a3), .val (.ref a4), .val (.ref b1), .val (.int (2 : Int32))] [(.ref b1)])) (fun tt_ kk_ => XS.aload X12.here hx rfl (hb hby d6_43) rfl rfl kk_) ?_
      refine Gq.retA X12 hx Bd.notSynchronized Bd.returns rfl rfl rfl (hb hby d6_45) (by decide) (by decide) ?_
      show Q6 Z a1 a2 a3 a4 r0 r1 k0 k1 v0 v1 v2 h0 n0 _ T12.heap _
      rw [eh12]
      exact ⟨⟨b1, rfl, g_b1, sz_b1, (by rw [own_pick_neg hn0]; exact V12)⟩, N12, Ka23⟩
  · refine Gq.go (T11.setTop (mkF m 26 #[.val (.ref a1), .val (.ref a2), .val (.ref a3), .val (.ref a4), .val (.ref b1), .val (.int (0 : Int32))] [])) (fun tt_ kk_ => XS.ifNo X11.here hx rfl (hb hby d6_23) rfl ((if0 _ _).trans (flt hn0).1) kk_) ?_
    obtain ⟨m0, hm0, em0⟩ := hk0.resolve_left hn0
    refine Gq.go (T11.setTop (mkF m 28 #[.val (.ref a1), .val (.ref a2), .val (.ref a3), .val (.ref a4), .val (.ref b1), .val (.int (0 : Int32))] [(.ref b1)])) (fun tt_ kk_ => XS.aload X11.here hx rfl (hb hby d6_26) rfl rfl kk_) ?_
    refine Gq.go (T11.setTop (mkF m 30 #[.val (.ref a1), .val (.ref a2), .val (.ref a3), .val (.ref a4), .val (.ref b1), .val (.int (0 : Int32))] [(.int (0 : Int32)), (.ref b1)])) (fun tt_ kk_ => XS.iload X11.here hx rfl (hb hby d6_28) rfl kk_) ?_
    refine Gq.go (T11.setTop (mkF m 31 #[.val (.ref a1), .val (.ref a2), .val (.ref a3), .val (.ref a4), .val (.ref b1), .val (.int (0 : Int32))] [(.ref a4), (.int (0 : Int32)), (.ref b1)])) (fun tt_ kk_ => XS.aloadN X11.here hx rfl (hb hby d6_30) rfl rfl kk_) ?_
    refine Gq.go (T11.setTop (mkF m 32 #[.val (.ref a1), .val (.ref a2), .val (.ref a3), .val (.ref a4), .val (.ref b1), .val (.int (0 : Int32))] [(.ref a3), (.ref a4), (.int (0 : Int32)), (.ref b1)])) (fun tt_ kk_ => XS.aloadN X11.here hx rfl (hb hby d6_31) rfl rfl kk_) ?_
    refine Gq.go (T11.setTop (mkF m 34 #[.val (.ref a1), .val (.ref a2), .val (.ref a3), .val (.ref a4), .val (.ref b1), .val (.int (0 : Int32))] [(.int (0 : Int32)), (.ref a3), (.ref a4), (.int (0 : Int32)), (.ref b1)])) (fun tt_ kk_ => XS.iload X11.here hx rfl (hb hby d6_32) rfl kk_) ?_
    refine Gq.go (T11.setTop (mkF m 35 #[.val (.ref a1), .val (.ref a2), .val (.ref a3), .val (.ref a4), .val (.ref b1), .val (.int (0 : Int32))] [(.int k0), (.ref a4), (.int (0 : Int32)), (.ref b1)])) (fun tt_ kk_ => ldI X11 hx hZ eh11 fa4 (j := (0 : Int32)) (i := 0) (x := k0) (by decide) rfl (by decide) rfl (hb hby d6_34) tt_ kk_) ?_
    refine Gq.go (T11.setTop (mkF m 36 #[.val (.ref a1), .val (.ref a2), .val (.ref a3), .val (.ref a4), .val (.ref b1), .val (.int (0 : Int32))] [(.int (own_pick k0 r0 v0 v1 v2)), (.int (0 : Int32)), (.ref b1)])) (fun tt_ kk_ => ldI X11 hx hZ eh11 fa5 (j := k0) (i := m0) (x := (own_pick k0 r0 v0 v1 v2)) hn0 (by rw [em0]; exact own_nc (by omega)) hm0 (own_pick_at hm0 em0) (hb hby d6_35) tt_ kk_) ?_
    obtain ⟨T24, h24, X24, eh24, W24, st24⟩ := stoI X11 hx hZ eh11 V1 (j := (0 : Int32)) (i := 0) (x := (own_pick k0 r0 v0 v1 v2)) (Ls := #[.val (.ref a1), .val (.ref a2), .val (.ref a3), .val (.ref a4), .val (.ref b1), .val (.int (0 : Int32))]) (rest := []) (by decide) rfl (by decide) (hb hby d6_36)
    have fa25 := fa2.wr W24
    have fa26 := fa3.other W24 ne_a2_b1
    have fa27 := fa4.other W24 ne_a3_b1
    have fa28 := fa5.other W24 ne_a4_b1
    have fa29 := A1.wr W24
    have ta30 := Nat.lt_of_lt_of_le ta6 (Nat.le_of_eq W24.size.symm)
    have ta31 := Nat.lt_of_lt_of_le ta7 (Nat.le_of_eq W24.size.symm)
    have ta32 := Nat.lt_of_lt_of_le ta8 (Nat.le_of_eq W24.size.symm)
    have ta33 := Nat.lt_of_lt_of_le ta1' (Nat.le_of_eq W24.size.symm)
    have za34 : n0 ≤ h24.size := Nat.le_trans za9 (Nat.le_of_eq W24.size.symm)
    have V24 : LA Z h24 b1 .int 2 (gl [(.int (own_pick k0 r0 v0 v1 v2)), (.int r1)] (.int (0 : Int32))) := V1.setL W24 (Nat.le_of_ble_eq_true rfl)
    have Ka35 := Ka10.wr W24 (Or.inr sz_b1)
    have N24 := Fr.snoc X24 N0 g_b1
    refine Gq.go (T24.setTop (mkF m 37 #[.val (.ref a1), .val (.ref a2), .val (.ref a3), .val (.ref a4), .val (.ref b1), .val (.int (0 : Int32))] [])) (fun tt_ kk_ => st24 tt_ kk_) ?_
    refine Gq.go (T24.setTop (mkF m 40 #[.val (.ref a1), .val (.ref a2), .val (.ref a3), .val (.ref a4), .val (.ref b1), .val (.int (1 : Int32))] [])) (fun tt_ kk_ => XS.iinc X24.here hx rfl (hb hby d6_37) rfl (l' := #[.val (.ref a1), .val (.ref a2), .val (.ref a3), .val (.ref a4), .val (.ref b1), .val (.int (1 : Int32))]) rfl kk_) ?_
    refine Gq.go (T24.setTop (mkF m 12 #[.val (.ref a1), .val (.ref a2), .val (.ref a3), .val (.ref a4), .val (.ref b1), .val (.int (1 : Int32))] [])) (fun tt_ kk_ => XS.goto X24.here hx rfl (pc0 := 40) (pc' := 12) rfl (hb hby d6_40) (by decide) (by decide) kk_) ?_
    refine Gq.go (T24.setTop (mkF m 14 #[.val (.ref a1), .val (.ref a2), .val (.ref a3), .val (.ref a4), .val (.ref b1), .val (.int (1 : Int32))] [(.int (1 : Int32))])) (fun tt_ kk_ => XS.iload X24.here hx rfl (hb hby d6_12) rfl kk_) ?_
    refine Gq.go (T24.setTop (mkF m 15 #[.val (.ref a1), .val (.ref a2), .val (.ref a3), .val (.ref a4), .val (.ref b1), .val (.int (1 : Int32))] [(.ref a2), (.int (1 : Int32))])) (fun tt_ kk_ => XS.aloadN X24.here hx rfl (hb hby d6_14) rfl rfl kk_) ?_
    refine Gq.go (T24.setTop (mkF m 16 #[.val (.ref a1), .val (.ref a2), .val (.ref a3), .val (.ref a4), .val (.ref b1), .val (.int (1 : Int32))] [(.int (2 : Int32)), (.int (1 : Int32))])) (fun tt_ kk_ => lenA X24 hx hZ eh24 fa26 (hb hby d6_15) tt_ kk_) ?_
    refine Gq.go (T24.setTop (mkF m 19 #[.val (.ref a1), .val (.ref a2), .val (.ref a3), .val (.ref a4), .val (.ref b1), .val (.int (1 : Int32))] [])) (fun tt_ kk_ => XS.icmpNo X24.here hx rfl (hb hby d6_16) rfl (tlt (by decide : ((1 : Int32) < (2 : Int32)))).2.1 kk_) ?_
    refine Gq.go (T24.setTop (mkF m 20 #[.val (.ref a1), .val (.ref a2), .val (.ref a3), .val (.ref a4), .val (.ref b1), .val (.int (1 : Int32))] [(.ref a3)])) (fun tt_ kk_ => XS.aloadN X24.here hx rfl (hb hby d6_19) rfl rfl kk_) ?_
    refine Gq.go (T24.setTop (mkF m 22 #[.val (.ref a1), .val (.ref a2), .val (.ref a3), .val (.ref a4), .val (.ref b1), .val (.int (1 : Int32))] [(.int (1 : Int32)), (.ref a3)])) (fun tt_ kk_ => XS.iload X24.here hx rfl (hb hby d6_20) rfl kk_) ?_
    refine Gq.go (T24.setTop (mkF m 23 #[.val (.ref a1), .val (.ref a2), .val (.ref a3), .val (.ref a4), .val (.ref b1), .val (.int (1 : Int32))] [(.int k1)])) (fun tt_ kk_ => ldI X24 hx hZ eh24 fa27 (j := (1 : Int32)) (i := 1) (x := k1) (by decide) rfl (by decide) rfl (hb hby d6_22) tt_ kk_) ?_
    by_cases hn1 : k1 < (0 : Int32)
    · refine Gq.go (T24.setTop (mkF m 37 #[.val (.ref a1), .val (.ref a2), .val (.ref a3), .val (.ref a4), .val (.ref b1), .val (.int (1 : Int32))] [])) (fun tt_ kk_ => XS.ifYes X24.here hx rfl (pc0 := 23) (pc' := 37) rfl (hb hby d6_23) rfl ((if0 _ _).trans (tlt hn1).1) (by decide) (by decide) kk_) ?_
      refine Gq.go (T24.setTop (mkF m 40 #[.val (.ref a1), .val (.ref a2), .val (.ref a3), .val (.ref a4), .val (.ref b1), .val (.int (2 : Int32))] [])) (fun tt_ kk_ => XS.iinc X24.here hx rfl (hb hby d6_37) rfl (l' := #[.val (.ref a1), .val (.ref a2), .val (.ref a3), .val (.ref a4), .val (.ref b1), .val (.int (2 : Int32))]) rfl kk_) ?_
      refine Gq.go (T24.setTop (mkF m 12 #[.val (.ref a1), .val (.ref a2), .val (.ref a3), .val (.ref a4), .val (.ref b1), .val (.int (2 : Int32))] [])) (fun tt_ kk_ => XS.goto X24.here hx rfl (pc0 := 40) (pc' := 12) rfl (hb hby d6_40) (by decide) (by decide) kk_) ?_
      refine Gq.go (T24.setTop (mkF m 14 #[.val (.ref a1), .val (.ref a2), .val (.ref a3), .val (.ref a4), .val (.ref b1), .val (.int (2 : Int32))] [(.int (2 : Int32))])) (fun tt_ kk_ => XS.iload X24.here hx rfl (hb hby d6_12) rfl kk_) ?_
      refine Gq.go (T24.setTop (mkF m 15 #[.val (.ref a1), .val (.ref a2), .val (.ref a3), .val (.ref a4), .val (.ref b1), .val (.int (2 : Int32))] [(.ref a2), (.int (2 : Int32))])) (fun tt_ kk_ => XS.aloadN X24.here hx rfl (hb hby d6_14) rfl rfl kk_) ?_
      refine Gq.go (T24.setTop (mkF m 16 #[.val (.ref a1), .val (.ref a2), .val (.ref a3), .val (.ref a4), .val (.ref b1), .val (.int (2 : Int32))] [(.int (2 : Int32)), (.int (2 : Int32))])) (fun tt_ kk_ => lenA X24 hx hZ eh24 fa26 (hb hby d6_15) tt_ kk_) ?_
      refine Gq.go (T24.setTop (mkF m 43 #[.val (.ref a1), .val (.ref a2), .val (.ref a3), .val (.ref a4), .val (.ref b1), .val (.int (2 : Int32))] [])) (fun tt_ kk_ => XS.icmpYes X24.here hx rfl (pc0 := 16) (pc' := 43) rfl (hb hby d6_16) rfl (flt (by decide : ¬ ((2 : Int32) < (2 : Int32)))).2.1 (by decide) (by decide) kk_) ?_
      refine Gq.go (T24.setTop (mkF m 45 #[.val (.ref a1), .val (.ref a2), .val (.ref a3), .val (.ref a4), .val (.ref b1), .val (.int (2 : Int32))] [(.ref b1)])) (fun tt_ kk_ => XS.aload X24.here hx rfl (hb hby d6_43) rfl rfl kk_) ?_
      refine Gq.retA X24 hx Bd.notSynchronized Bd.returns rfl rfl rfl (hb hby d6_45) (by decide) (by decide) ?_
      show Q6 Z a1 a2 a3 a4 r0 r1 k0 k1 v0 v1 v2 h0 n0 _ T24.heap _
      rw [eh24]
      exact ⟨⟨b1, rfl, g_b1, sz_b1, (by rw [own_pick_neg hn1]; exact V24)⟩, N24, Ka35⟩
    · refine Gq.go (T24.setTop (mkF m 26 #[.val (.ref a1), .val (.ref a2), .val (.ref a3), .val (.ref a4), .val (.ref b1), .val (.int (1 : Int32))] [])) (fun tt_ kk_ => XS.ifNo X24.here hx rfl (hb hby d6_23) rfl ((if0 _ _).trans (flt hn1).1) kk_) ?_
      obtain ⟨m1, hm1, em1⟩ := hk1.resolve_left hn1
      refine Gq.go (T24.setTop (mkF m 28 #[.val (.ref a1), .val (.ref a2), .val (.ref a3), .val (.ref a4), .val (.ref b1), .val (.int (1 : Int32))] [(.ref b1)])) (fun tt_ kk_ => XS.aload X24.here hx rfl (hb hby d6_26) rfl rfl kk_) ?_
      refine Gq.go (T24.setTop (mkF m 30 #[.val (.ref a1), .val (.ref a2), .val (.ref a3), .val (.ref a4), .val (.ref b1), .val (.int (1 : Int32))] [(.int (1 : Int32)), (.ref b1)])) (fun tt_ kk_ => XS.iload X24.here hx rfl (hb hby d6_28) rfl kk_) ?_
      refine Gq.go (T24.setTop (mkF m 31 #[.val (.ref a1), .val (.ref a2), .val (.ref a3), .val (.ref a4), .val (.ref b1), .val (.int (1 : Int32))] [(.ref a4), (.int (1 : Int32)), (.ref b1)])) (fun tt_ kk_ => XS.aloadN X24.here hx rfl (hb hby d6_30) rfl rfl kk_) ?_
      refine Gq.go (T24.setTop (mkF m 32 #[.val (.ref a1), .val (.ref a2), .val (.ref a3), .val (.ref a4), .val (.ref b1), .val (.int (1 : Int32))] [(.ref a3), (.ref a4), (.int (1 : Int32)), (.ref b1)])) (fun tt_ kk_ => XS.aloadN X24.here hx rfl (hb hby d6_31) rfl rfl kk_) ?_
      refine Gq.go (T24.setTop (mkF m 34 #[.val (.ref a1), .val (.ref a2), .val (.ref a3), .val (.ref a4), .val (.ref b1), .val (.int (1 : Int32))] [(.int (1 : Int32)), (.ref a3), (.ref a4), (.int (1 : Int32)), (.ref b1)])) (fun tt_ kk_ => XS.iload X24.here hx rfl (hb hby d6_32) rfl kk_) ?_
      refine Gq.go (T24.setTop (mkF m 35 #[.val (.ref a1), .val (.ref a2), .val (.ref a3), .val (.ref a4), .val (.ref b1), .val (.int (1 : Int32))] [(.int k1), (.ref a4), (.int (1 : Int32)), (.ref b1)])) (fun tt_ kk_ => ldI X24 hx hZ eh24 fa27 (j := (1 : Int32)) (i := 1) (x := k1) (by decide) rfl (by decide) rfl (hb hby d6_34) tt_ kk_) ?_
      refine Gq.go (T24.setTop (mkF m 36 #[.val (.ref a1), .val (.ref a2), .val (.ref a3), .val (.ref a4), .val (.ref b1), .val (.int (1 : Int32))] [(.int (own_pick k1 r1 v0 v1 v2)), (.int (1 : Int32)), (.ref b1)])) (fun tt_ kk_ => ldI X24 hx hZ eh24 fa28 (j := k1) (i := m1) (x := (own_pick k1 r1 v0 v1 v2)) hn1 (by rw [em1]; exact own_nc (by omega)) hm1 (own_pick_at hm1 em1) (hb hby d6_35) tt_ kk_) ?_
      obtain ⟨T36, h36, X36, eh36, W36, st36⟩ := stoI X24 hx hZ eh24 V24 (j := (1 : Int32)) (i := 1) (x := (own_pick k1 r1 v0 v1 v2)) (Ls := #[.val (.ref a1), .val (.ref a2), .val (.ref a3), .val (.ref a4), .val (.ref b1), .val (.int (1 : Int32))]) (rest := []) (by decide) rfl (by decide) (hb hby d6_36)
      have fa37 := fa25.wr W36
      have fa38 := fa26.other W36 ne_a2_b1
      have fa39 := fa27.other W36 ne_a3_b1
      have fa40 := fa28.other W36 ne_a4_b1
      have fa41 := fa29.wr W36
      have ta42 := Nat.lt_of_lt_of_le ta30 (Nat.le_of_eq W36.size.symm)
      have ta43 := Nat.lt_of_lt_of_le ta31 (Nat.le_of_eq W36.size.symm)
      have ta44 := Nat.lt_of_lt_of_le ta32 (Nat.le_of_eq W36.size.symm)
      have ta45 := Nat.lt_of_lt_of_le ta33 (Nat.le_of_eq W36.size.symm)
      have za46 : n0 ≤ h36.size := Nat.le_trans za34 (Nat.le_of_eq W36.size.symm)
      have V36 : LA Z h36 b1 .int 2 (gl [(.int (own_pick k0 r0 v0 v1 v2)), (.int (own_pick k1 r1 v0 v1 v2))] (.int (0 : Int32))) := V24.setL W36 (Nat.le_of_ble_eq_true rfl)
      have Ka47 := Ka35.wr W36 (Or.inr sz_b1)
      have N36 := Fr.snoc X36 N24 g_b1
      refine Gq.go (T36.setTop (mkF m 37 #[.val (.ref a1), .val (.ref a2), .val (.ref a3), .val (.ref a4), .val (.ref b1), .val (.int (1 : Int32))] [])) (fun tt_ kk_ => st36 tt_ kk_) ?_
      refine Gq.go (T36.setTop (mkF m 40 #[.val (.ref a1), .val (.ref a2), .val (.ref a3), .val (.ref a4), .val (.ref b1), .val (.int (2 : Int32))] [])) (fun tt_ kk_ => XS.iinc X36.here hx rfl (hb hby d6_37) rfl (l' := #[.val (.ref a1), .val (.ref a2), .val (.ref a3), .val (.ref a4), .val (.ref b1), .val (.int (2 : Int32))]) rfl kk_) ?_
      refine Gq.go (T36.setTop (mkF m 12 #[.val (.ref a1), .val (.ref a2), .val (.ref a3), .val (.ref a4), .val (.ref b1), .val (.int (2 : Int32))] [])) (fun tt_ kk_ => XS.goto X36.here hx rfl (pc0 := 40) (pc' := 12) rfl (hb hby d6_40) (by decide) (by decide) kk_) ?_
      refine Gq.go (T36.setTop (mkF m 14 #[.val (.ref a1), .val (.ref a2), .val (.ref a3), .val (.ref a4), .val (.ref b1), .val (.int (2 : Int32))] [(.int (2 : Int32))])) (fun tt_ kk_ => XS.iload X36.here hx rfl (hb hby d6_12) rfl kk_) ?_
      refine Gq.go (T36.setTop (mkF m 15 #[.val (.ref a1), .val (.ref a2), .val (.ref a3), .val (.ref a4), .val (.ref b1), .val (.int (2 : Int32))] [(.ref a2), (.int (2 : Int32))])) (fun tt_ kk_ => XS.aloadN X36.here hx rfl (hb hby d6_14) rfl rfl kk_) ?_
      refine Gq.go (T36.setTop (mkF m 16 #[.val (.ref a1), .val (.ref a2), .val (.ref a3), .val (.ref a4), .val (.ref b1), .val (.int (2 : Int32))] [(.int (2 : Int32)), (.int (2 : Int32))])) (fun tt_ kk_ => lenA X36 hx hZ eh36 fa38 (hb hby d6_15) tt_ kk_) ?_
      refine Gq.go (T36.setTop (mkF m 43 #[.val (.ref a1), .val (.ref a2), .val (.ref a3), .val (.ref a4), .val (.ref b1), .val (.int (2 : Int32))] [])) (fun tt_ kk_ => XS.icmpYes X36.here hx rfl (pc0 := 16) (pc' := 43) rfl (hb hby d6_16) rfl (flt (by decide : ¬ ((2 : Int32) < (2 : Int32)))).2.1 (by decide) (by decide) kk_) ?_
      refine Gq.go (T36.setTop (mkF m 45 #[.val (.ref a1), .val (.ref a2), .val (.ref a3), .val (.ref a4), .val (.ref b1), .val (.int (2 : Int32))] [(.ref b1)])) (fun tt_ kk_ => XS.aload X36.here hx rfl (hb hby d6_43) rfl rfl kk_) ?_
      refine Gq.retA X36 hx Bd.notSynchronized Bd.returns rfl rfl rfl (hb hby d6_45) (by decide) (by decide) ?_
      show Q6 Z a1 a2 a3 a4 r0 r1 k0 k1 v0 v1 v2 h0 n0 _ T36.heap _
      rw [eh36]
      exact ⟨⟨b1, rfl, g_b1, sz_b1, (by skip; exact V36)⟩, N36, Ka47⟩
theorem pd_1 : parseMethodDescriptor "([ILjava/util/List;IZ)V" = some ⟨[(.array .int), (.object "java/util/List"), .int, .boolean], none⟩ := by decide +kernel
theorem pd_2 : parseMethodDescriptor "([I[I[I)[I" = some ⟨[(.array .int), (.array .int), (.array .int)], some (.array .int)⟩ := by decide +kernel
theorem pd_3 : parseMethodDescriptor "(IIIII)I" = some ⟨[.int, .int, .int, .int, .int], some .int⟩ := by decide +kernel
theorem ef0 (m : MethodId) (y0 : Int32) (y1 : Int32) (y2 : Int32) (y3 : Int32) (y4 : Int64) (y5 : Int32) : entryFrame m #[(.int y0), (.int y1), (.int y2), (.int y3), (.long y4), (.int y5)] maxLocals = mkF m 0 #[.val (.int y0), .val (.int y1), .val (.int y2), .val (.int y3), .val (.long y4), .second, .val (.int y5), .unset, .unset, .unset, .unset, .unset, .unset, .unset, .unset, .unset, .unset] [] := by first | (simp [entryFrame, mkF, argsToLocals, Value.category, maxLocals]; done) | rfl
def Q0 (Z : State) (x0 : Int32) (x1 : Int32) (x2 : Int32) (x3 : Int32) (x4 : Int64) (x5 : Int32) (d0 : Addr) (h0 : Heap) (n0 : Nat) (v : Option Value) (h : Heap) (L : List Loc) : Prop := v = some (.int (1 : Int32)) ∧ Fr n0 L
set_option maxRecDepth 65536 in
set_option maxHeartbeats 40000000 in
theorem rm0 (l : Launch) (Z : State) (a0 : Array Value) (hw : ∀ d ∈ tables_1, d.before a0 Z = true) (ws : List Jvm.Cond) (x0 : Int32) (x1 : Int32) (x2 : Int32) (x3 : Int32) (x4 : Int64) (x5 : Int32) (d0 : Addr) (h0 : Heap) (n0 : Nat) (Z0 : n0 ≤ h0.size) (Ol : Old Z n0 h0) (Sd : Sta Z Z.heap "java/util/ArrayList" "DEFAULTCAPACITY_EMPTY_ELEMENTDATA" "[Ljava/lang/Object;" (.ref d0)) :
    MetFree l x (head1 (Jvm.Cond.code x code maxLocals ret :: ws) room_1) (fun a U => a = #[(.int x0), (.int x1), (.int x2), (.int x3), (.long x4), (.int x5)] ∧ Z.Warmed39 U.vm ∧ U.heap = h0) (fun _ _ _ _ _ => True) (fun _ U o U' => ∃ v L, o = .returned v ∧ Q0 Z x0 x1 x2 x3 x4 x5 d0 h0 n0 v U'.heap L ∧ FrameEnd U o U' L room_1.cells room_1.slots) := by
  refine MetFree.of_bodySF (plainFor_of_name pn_com_example_arbor2_arbor2_analysis_TracksAdvancePinLaw) hisR ?_
  intro p e s m args below meth c s₁ Bd hml0 hP hK
  obtain ⟨rfl, hZ, hh⟩ := hP
  have hx := Bd.exec
  have hby := Bd.bytes
  have hml : c.maxLocals = 17 := hml0
  have hown : s.vm.findClass "com/example/arbor2/arbor2/analysis/TracksAdvancePinLaw" = some m.cls := findClass_of_methodNamed Bd.named
  have hnm := (name_of_methodNamed Bd.named Bd.method).1
  have X0 : Stand p l e room_1 s m #[(.int x0), (.int x1), (.int x2), (.int x3), (.long x4), (.int x5)] below meth c s₁ [] 0 0 := Stand.of_body Bd
  have eh0 : s₁.heap = h0 := by rw [← hh, Bd.state]; rfl
  have N0 := Fr.nil n0
  refine Gq.start (Q := Q0 Z x0 x1 x2 x3 x4 x5 d0 h0 n0) (kc := room_1.cells) (ks := room_1.slots) (ef0 m x0 x1 x2 x3 x4 x5) ?_
  refine Gq.go (s₁.setTop (mkF m 1 #[.val (.int x0), .val (.int x1), .val (.int x2), .val (.int x3), .val (.long x4), .second, .val (.int x5), .unset, .unset, .unset, .unset, .unset, .unset, .unset, .unset, .unset, .unset] [(.int x2)])) (fun tt_ kk_ => XS.iloadN X0.here hx rfl (hb hby at_0) rfl kk_) ?_
  suffices K13 : ∀ k0 : Int32, (k0 < (0 : Int32) ∨ ∃ m : Nat, m < 3 ∧ k0 = Int32.ofNat m) → Gq p.tables e below s (Q0 Z x0 x1 x2 x3 x4 x5 d0 h0 n0) room_1.cells room_1.slots (s₁.setTop (mkF m 13 #[.val (.int x0), .val (.int x1), .val (.int x2), .val (.int x3), .val (.long x4), .second, .val (.int x5), .val (.int k0), .unset, .unset, .unset, .unset, .unset, .unset, .unset, .unset, .unset] [])) by
    by_cases hx0 : x2 < (0 : Int32)
    · refine Gq.go (s₁.setTop (mkF m 10 #[.val (.int x0), .val (.int x1), .val (.int x2), .val (.int x3), .val (.long x4), .second, .val (.int x5), .unset, .unset, .unset, .unset, .unset, .unset, .unset, .unset, .unset, .unset] [])) (fun tt_ kk_ => XS.ifYes X0.here hx rfl (pc0 := 1) (pc' := 10) rfl (hb hby at_1) rfl ((if0 _ _).trans (tlt hx0).1) (by decide) (by decide) kk_) ?_
      refine Gq.go (s₁.setTop (mkF m 11 #[.val (.int x0), .val (.int x1), .val (.int x2), .val (.int x3), .val (.long x4), .second, .val (.int x5), .unset, .unset, .unset, .unset, .unset, .unset, .unset, .unset, .unset, .unset] [(.int x2)])) (fun tt_ kk_ => XS.iloadN X0.here hx rfl (hb hby at_10) rfl kk_) ?_
      refine Gq.go (s₁.setTop (mkF m 13 #[.val (.int x0), .val (.int x1), .val (.int x2), .val (.int x3), .val (.long x4), .second, .val (.int x5), .val (.int x2), .unset, .unset, .unset, .unset, .unset, .unset, .unset, .unset, .unset] [])) (fun tt_ kk_ => XS.istore X0.here hx rfl (hb hby at_11) rfl (l' := #[.val (.int x0), .val (.int x1), .val (.int x2), .val (.int x3), .val (.long x4), .second, .val (.int x5), .val (.int x2), .unset, .unset, .unset, .unset, .unset, .unset, .unset, .unset, .unset]) rfl kk_) ?_
      exact K13 _ (Or.inl hx0)
    · refine Gq.go (s₁.setTop (mkF m 4 #[.val (.int x0), .val (.int x1), .val (.int x2), .val (.int x3), .val (.long x4), .second, .val (.int x5), .unset, .unset, .unset, .unset, .unset, .unset, .unset, .unset, .unset, .unset] [])) (fun tt_ kk_ => XS.ifNo X0.here hx rfl (hb hby at_1) rfl ((if0 _ _).trans (flt hx0).1) kk_) ?_
      refine Gq.go (s₁.setTop (mkF m 5 #[.val (.int x0), .val (.int x1), .val (.int x2), .val (.int x3), .val (.long x4), .second, .val (.int x5), .unset, .unset, .unset, .unset, .unset, .unset, .unset, .unset, .unset, .unset] [(.int x2)])) (fun tt_ kk_ => XS.iloadN X0.here hx rfl (hb hby at_4) rfl kk_) ?_
      refine Gq.go (s₁.setTop (mkF m 6 #[.val (.int x0), .val (.int x1), .val (.int x2), .val (.int x3), .val (.long x4), .second, .val (.int x5), .unset, .unset, .unset, .unset, .unset, .unset, .unset, .unset, .unset, .unset] [(.int (3 : Int32)), (.int x2)])) (fun tt_ kk_ => XS.iconst X0.here hx rfl (hb hby at_5) kk_) ?_
      refine Gq.go (s₁.setTop (mkF m 7 #[.val (.int x0), .val (.int x1), .val (.int x2), .val (.int x3), .val (.long x4), .second, .val (.int x5), .unset, .unset, .unset, .unset, .unset, .unset, .unset, .unset, .unset, .unset] [(.int (x2 % (3 : Int32)))])) (fun tt_ kk_ => iremM X0 hx rfl (hb hby at_6) rfl (by decide) kk_) ?_
      refine Gq.go (s₁.setTop (mkF m 11 #[.val (.int x0), .val (.int x1), .val (.int x2), .val (.int x3), .val (.long x4), .second, .val (.int x5), .unset, .unset, .unset, .unset, .unset, .unset, .unset, .unset, .unset, .unset] [(.int (x2 % (3 : Int32)))])) (fun tt_ kk_ => XS.goto X0.here hx rfl (pc0 := 7) (pc' := 11) rfl (hb hby at_7) (by decide) (by decide) kk_) ?_
      refine Gq.go (s₁.setTop (mkF m 13 #[.val (.int x0), .val (.int x1), .val (.int x2), .val (.int x3), .val (.long x4), .second, .val (.int x5), .val (.int (x2 % (3 : Int32))), .unset, .unset, .unset, .unset, .unset, .unset, .unset, .unset, .unset] [])) (fun tt_ kk_ => XS.istore X0.here hx rfl (hb hby at_11) rfl (l' := #[.val (.int x0), .val (.int x1), .val (.int x2), .val (.int x3), .val (.long x4), .second, .val (.int x5), .val (.int (x2 % (3 : Int32))), .unset, .unset, .unset, .unset, .unset, .unset, .unset, .unset, .unset]) rfl kk_) ?_
      exact K13 _ (Or.inr (own_rem3 hx0))
  intro k0 hk0
  refine Gq.go (s₁.setTop (mkF m 14 #[.val (.int x0), .val (.int x1), .val (.int x2), .val (.int x3), .val (.long x4), .second, .val (.int x5), .val (.int k0), .unset, .unset, .unset, .unset, .unset, .unset, .unset, .unset, .unset] [(.int x3)])) (fun tt_ kk_ => XS.iloadN X0.here hx rfl (hb hby at_13) rfl kk_) ?_
  suffices K26 : ∀ k1 : Int32, (k1 < (0 : Int32) ∨ ∃ m : Nat, m < 3 ∧ k1 = Int32.ofNat m) → Gq p.tables e below s (Q0 Z x0 x1 x2 x3 x4 x5 d0 h0 n0) room_1.cells room_1.slots (s₁.setTop (mkF m 26 #[.val (.int x0), .val (.int x1), .val (.int x2), .val (.int x3), .val (.long x4), .second, .val (.int x5), .val (.int k0), .val (.int k1), .unset, .unset, .unset, .unset, .unset, .unset, .unset, .unset] [])) by
    by_cases hx1 : x3 < (0 : Int32)
    · refine Gq.go (s₁.setTop (mkF m 23 #[.val (.int x0), .val (.int x1), .val (.int x2), .val (.int x3), .val (.long x4), .second, .val (.int x5), .val (.int k0), .unset, .unset, .unset, .unset, .unset, .unset, .unset, .unset, .unset] [])) (fun tt_ kk_ => XS.ifYes X0.here hx rfl (pc0 := 14) (pc' := 23) rfl (hb hby at_14) rfl ((if0 _ _).trans (tlt hx1).1) (by decide) (by decide) kk_) ?_
      refine Gq.go (s₁.setTop (mkF m 24 #[.val (.int x0), .val (.int x1), .val (.int x2), .val (.int x3), .val (.long x4), .second, .val (.int x5), .val (.int k0), .unset, .unset, .unset, .unset, .unset, .unset, .unset, .unset, .unset] [(.int x3)])) (fun tt_ kk_ => XS.iloadN X0.here hx rfl (hb hby at_23) rfl kk_) ?_
      refine Gq.go (s₁.setTop (mkF m 26 #[.val (.int x0), .val (.int x1), .val (.int x2), .val (.int x3), .val (.long x4), .second, .val (.int x5), .val (.int k0), .val (.int x3), .unset, .unset, .unset, .unset, .unset, .unset, .unset, .unset] [])) (fun tt_ kk_ => XS.istore X0.here hx rfl (hb hby at_24) rfl (l' := #[.val (.int x0), .val (.int x1), .val (.int x2), .val (.int x3), .val (.long x4), .second, .val (.int x5), .val (.int k0), .val (.int x3), .unset, .unset, .unset, .unset, .unset, .unset, .unset, .unset]) rfl kk_) ?_
      exact K26 _ (Or.inl hx1)
    · refine Gq.go (s₁.setTop (mkF m 17 #[.val (.int x0), .val (.int x1), .val (.int x2), .val (.int x3), .val (.long x4), .second, .val (.int x5), .val (.int k0), .unset, .unset, .unset, .unset, .unset, .unset, .unset, .unset, .unset] [])) (fun tt_ kk_ => XS.ifNo X0.here hx rfl (hb hby at_14) rfl ((if0 _ _).trans (flt hx1).1) kk_) ?_
      refine Gq.go (s₁.setTop (mkF m 18 #[.val (.int x0), .val (.int x1), .val (.int x2), .val (.int x3), .val (.long x4), .second, .val (.int x5), .val (.int k0), .unset, .unset, .unset, .unset, .unset, .unset, .unset, .unset, .unset] [(.int x3)])) (fun tt_ kk_ => XS.iloadN X0.here hx rfl (hb hby at_17) rfl kk_) ?_
      refine Gq.go (s₁.setTop (mkF m 19 #[.val (.int x0), .val (.int x1), .val (.int x2), .val (.int x3), .val (.long x4), .second, .val (.int x5), .val (.int k0), .unset, .unset, .unset, .unset, .unset, .unset, .unset, .unset, .unset] [(.int (3 : Int32)), (.int x3)])) (fun tt_ kk_ => XS.iconst X0.here hx rfl (hb hby at_18) kk_) ?_
      refine Gq.go (s₁.setTop (mkF m 20 #[.val (.int x0), .val (.int x1), .val (.int x2), .val (.int x3), .val (.long x4), .second, .val (.int x5), .val (.int k0), .unset, .unset, .unset, .unset, .unset, .unset, .unset, .unset, .unset] [(.int (x3 % (3 : Int32)))])) (fun tt_ kk_ => iremM X0 hx rfl (hb hby at_19) rfl (by decide) kk_) ?_
      refine Gq.go (s₁.setTop (mkF m 24 #[.val (.int x0), .val (.int x1), .val (.int x2), .val (.int x3), .val (.long x4), .second, .val (.int x5), .val (.int k0), .unset, .unset, .unset, .unset, .unset, .unset, .unset, .unset, .unset] [(.int (x3 % (3 : Int32)))])) (fun tt_ kk_ => XS.goto X0.here hx rfl (pc0 := 20) (pc' := 24) rfl (hb hby at_20) (by decide) (by decide) kk_) ?_
      refine Gq.go (s₁.setTop (mkF m 26 #[.val (.int x0), .val (.int x1), .val (.int x2), .val (.int x3), .val (.long x4), .second, .val (.int x5), .val (.int k0), .val (.int (x3 % (3 : Int32))), .unset, .unset, .unset, .unset, .unset, .unset, .unset, .unset] [])) (fun tt_ kk_ => XS.istore X0.here hx rfl (hb hby at_24) rfl (l' := #[.val (.int x0), .val (.int x1), .val (.int x2), .val (.int x3), .val (.long x4), .second, .val (.int x5), .val (.int k0), .val (.int (x3 % (3 : Int32))), .unset, .unset, .unset, .unset, .unset, .unset, .unset, .unset]) rfl kk_) ?_
      exact K26 _ (Or.inr (own_rem3 hx1))
  intro k1 hk1
  refine Gq.go (s₁.setTop (mkF m 28 #[.val (.int x0), .val (.int x1), .val (.int x2), .val (.int x3), .val (.long x4), .second, .val (.int x5), .val (.int k0), .val (.int k1), .unset, .unset, .unset, .unset, .unset, .unset, .unset, .unset] [(.long x4)])) (fun tt_ kk_ => XS.lload X0.here hx rfl (hb hby at_26) rfl kk_) ?_
  refine Gq.go (s₁.setTop (mkF m 29 #[.val (.int x0), .val (.int x1), .val (.int x2), .val (.int x3), .val (.long x4), .second, .val (.int x5), .val (.int k0), .val (.int k1), .unset, .unset, .unset, .unset, .unset, .unset, .unset, .unset] [(.int (x4.toInt32))])) (fun tt_ kk_ => XS.l2i X0.here hx rfl (hb hby at_28) rfl kk_) ?_
  refine Gq.go (s₁.setTop (mkF m 31 #[.val (.int x0), .val (.int x1), .val (.int x2), .val (.int x3), .val (.long x4), .second, .val (.int x5), .val (.int k0), .val (.int k1), .val (.int (x4.toInt32)), .unset, .unset, .unset, .unset, .unset, .unset, .unset] [])) (fun tt_ kk_ => XS.istore X0.here hx rfl (hb hby at_29) rfl (l' := #[.val (.int x0), .val (.int x1), .val (.int x2), .val (.int x3), .val (.long x4), .second, .val (.int x5), .val (.int k0), .val (.int k1), .val (.int (x4.toInt32)), .unset, .unset, .unset, .unset, .unset, .unset, .unset]) rfl kk_) ?_
  generalize hv29 : (x4.toInt32) = v29
  refine Gq.go (s₁.setTop (mkF m 33 #[.val (.int x0), .val (.int x1), .val (.int x2), .val (.int x3), .val (.long x4), .second, .val (.int x5), .val (.int k0), .val (.int k1), .val (.int v29), .unset, .unset, .unset, .unset, .unset, .unset, .unset] [(.long x4)])) (fun tt_ kk_ => XS.lload X0.here hx rfl (hb hby at_31) rfl kk_) ?_
  refine Gq.go (s₁.setTop (mkF m 35 #[.val (.int x0), .val (.int x1), .val (.int x2), .val (.int x3), .val (.long x4), .second, .val (.int x5), .val (.int k0), .val (.int k1), .val (.int v29), .unset, .unset, .unset, .unset, .unset, .unset, .unset] [(.int (32 : Int32)), (.long x4)])) (fun tt_ kk_ => XS.bipush X0.here hx rfl (hb hby at_33) kk_) ?_
  refine Gq.go (s₁.setTop (mkF m 36 #[.val (.int x0), .val (.int x1), .val (.int x2), .val (.int x3), .val (.long x4), .second, .val (.int x5), .val (.int k0), .val (.int k1), .val (.int v29), .unset, .unset, .unset, .unset, .unset, .unset, .unset] [(.long ((x4.toUInt64 >>> ((32 : Int32) &&& 0x3f).toInt64.toUInt64).toInt64))])) (fun tt_ kk_ => XS.lushr X0.here hx rfl (hb hby at_35) rfl kk_) ?_
  refine Gq.go (s₁.setTop (mkF m 37 #[.val (.int x0), .val (.int x1), .val (.int x2), .val (.int x3), .val (.long x4), .second, .val (.int x5), .val (.int k0), .val (.int k1), .val (.int v29), .unset, .unset, .unset, .unset, .unset, .unset, .unset] [(.int (((x4.toUInt64 >>> ((32 : Int32) &&& 0x3f).toInt64.toUInt64).toInt64).toInt32))])) (fun tt_ kk_ => XS.l2i X0.here hx rfl (hb hby at_36) rfl kk_) ?_
  refine Gq.go (s₁.setTop (mkF m 39 #[.val (.int x0), .val (.int x1), .val (.int x2), .val (.int x3), .val (.long x4), .second, .val (.int x5), .val (.int k0), .val (.int k1), .val (.int v29), .val (.int (((x4.toUInt64 >>> ((32 : Int32) &&& 0x3f).toInt64.toUInt64).toInt64).toInt32)), .unset, .unset, .unset, .unset, .unset, .unset] [])) (fun tt_ kk_ => XS.istore X0.here hx rfl (hb hby at_37) rfl (l' := #[.val (.int x0), .val (.int x1), .val (.int x2), .val (.int x3), .val (.long x4), .second, .val (.int x5), .val (.int k0), .val (.int k1), .val (.int v29), .val (.int (((x4.toUInt64 >>> ((32 : Int32) &&& 0x3f).toInt64.toUInt64).toInt64).toInt32)), .unset, .unset, .unset, .unset, .unset, .unset]) rfl kk_) ?_
  generalize hv37 : (((x4.toUInt64 >>> ((32 : Int32) &&& 0x3f).toInt64.toUInt64).toInt64).toInt32) = v37
  refine Gq.go (s₁.setTop (mkF m 40 #[.val (.int x0), .val (.int x1), .val (.int x2), .val (.int x3), .val (.long x4), .second, .val (.int x5), .val (.int k0), .val (.int k1), .val (.int v29), .val (.int v37), .unset, .unset, .unset, .unset, .unset, .unset] [(.int (2 : Int32))])) (fun tt_ kk_ => XS.iconst X0.here hx rfl (hb hby at_39) kk_) ?_
  obtain ⟨T1, h1, b1, X1, eh1, E1, aq1, V1, A1, st1⟩ := mkAE X0 hx hZ (hw _ (List.mem_of_getElem? (i := 0) rfl)) eh0 (z := (2 : Int32)) (n := 2) (Ls := #[.val (.int x0), .val (.int x1), .val (.int x2), .val (.int x3), .val (.long x4), .second, .val (.int x5), .val (.int k0), .val (.int k1), .val (.int v29), .val (.int v37), .unset, .unset, .unset, .unset, .unset, .unset]) (rest := []) (by decide) rfl (by decide) (by decide) (by decide) (ad := "[I") rfl (hb hby at_40)
  have g_b1 : n0 ≤ b1 := Nat.le_trans Z0 (Nat.le_of_eq aq1.symm)
  have fa2 := Ol.ext E1
  have za3 : n0 ≤ h1.size := Nat.le_trans Z0 E1.1
  have V1' : LA Z h1 b1 .int 2 (gl [(.int (0 : Int32)), (.int (0 : Int32))] (.int (0 : Int32))) := V1.list
  have ta1' := V1'.lt
  refine Gq.go (T1.setTop (mkF m 42 #[.val (.int x0), .val (.int x1), .val (.int x2), .val (.int x3), .val (.long x4), .second, .val (.int x5), .val (.int k0), .val (.int k1), .val (.int v29), .val (.int v37), .unset, .unset, .unset, .unset, .unset, .unset] [(.ref b1)])) (fun tt_ kk_ => st1 tt_ kk_) ?_
  refine Gq.go (T1.setTop (mkF m 43 #[.val (.int x0), .val (.int x1), .val (.int x2), .val (.int x3), .val (.long x4), .second, .val (.int x5), .val (.int k0), .val (.int k1), .val (.int v29), .val (.int v37), .unset, .unset, .unset, .unset, .unset, .unset] [(.ref b1), (.ref b1)])) (fun tt_ kk_ => XS.dup X1.here hx rfl (hb hby at_42) rfl rfl kk_) ?_
  refine Gq.go (T1.setTop (mkF m 44 #[.val (.int x0), .val (.int x1), .val (.int x2), .val (.int x3), .val (.long x4), .second, .val (.int x5), .val (.int k0), .val (.int k1), .val (.int v29), .val (.int v37), .unset, .unset, .unset, .unset, .unset, .unset] [(.int (0 : Int32)), (.ref b1), (.ref b1)])) (fun tt_ kk_ => XS.iconst X1.here hx rfl (hb hby at_43) kk_) ?_
  refine Gq.go (T1.setTop (mkF m 45 #[.val (.int x0), .val (.int x1), .val (.int x2), .val (.int x3), .val (.long x4), .second, .val (.int x5), .val (.int k0), .val (.int k1), .val (.int v29), .val (.int v37), .unset, .unset, .unset, .unset, .unset, .unset] [(.int x0), (.int (0 : Int32)), (.ref b1), (.ref b1)])) (fun tt_ kk_ => XS.iloadN X1.here hx rfl (hb hby at_44) rfl kk_) ?_
  obtain ⟨T4, h4, X4, eh4, W4, st4⟩ := stoI X1 hx hZ eh1 V1' (j := (0 : Int32)) (i := 0) (x := x0) (Ls := #[.val (.int x0), .val (.int x1), .val (.int x2), .val (.int x3), .val (.long x4), .second, .val (.int x5), .val (.int k0), .val (.int k1), .val (.int v29), .val (.int v37), .unset, .unset, .unset, .unset, .unset, .unset]) (rest := [(.ref b1)]) (by decide) rfl (by decide) (hb hby at_45)
  have fa5 := fa2.wr W4 g_b1
  have fa6 := A1.wr W4
  have ta7 := Nat.lt_of_lt_of_le ta1' (Nat.le_of_eq W4.size.symm)
  have za8 : n0 ≤ h4.size := Nat.le_trans za3 (Nat.le_of_eq W4.size.symm)
  have V4 : LA Z h4 b1 .int 2 (gl [(.int x0), (.int (0 : Int32))] (.int (0 : Int32))) := V1'.setL W4 (Nat.le_of_ble_eq_true rfl)
  have N4 := Fr.snoc X4 N0 g_b1
  refine Gq.go (T4.setTop (mkF m 46 #[.val (.int x0), .val (.int x1), .val (.int x2), .val (.int x3), .val (.long x4), .second, .val (.int x5), .val (.int k0), .val (.int k1), .val (.int v29), .val (.int v37), .unset, .unset, .unset, .unset, .unset, .unset] [(.ref b1)])) (fun tt_ kk_ => st4 tt_ kk_) ?_
  refine Gq.go (T4.setTop (mkF m 47 #[.val (.int x0), .val (.int x1), .val (.int x2), .val (.int x3), .val (.long x4), .second, .val (.int x5), .val (.int k0), .val (.int k1), .val (.int v29), .val (.int v37), .unset, .unset, .unset, .unset, .unset, .unset] [(.ref b1), (.ref b1)])) (fun tt_ kk_ => XS.dup X4.here hx rfl (hb hby at_46) rfl rfl kk_) ?_
  refine Gq.go (T4.setTop (mkF m 48 #[.val (.int x0), .val (.int x1), .val (.int x2), .val (.int x3), .val (.long x4), .second, .val (.int x5), .val (.int k0), .val (.int k1), .val (.int v29), .val (.int v37), .unset, .unset, .unset, .unset, .unset, .unset] [(.int (1 : Int32)), (.ref b1), (.ref b1)])) (fun tt_ kk_ => XS.iconst X4.here hx rfl (hb hby at_47) kk_) ?_
  refine Gq.go (T4.setTop (mkF m 49 #[.val (.int x0), .val (.int x1), .val (.int x2), .val (.int x3), .val (.long x4), .second, .val (.int x5), .val (.int k0), .val (.int k1), .val (.int v29), .val (.int v37), .unset, .unset, .unset, .unset, .unset, .unset] [(.int x1), (.int (1 : Int32)), (.ref b1), (.ref b1)])) (fun tt_ kk_ => XS.iloadN X4.here hx rfl (hb hby at_48) rfl kk_) ?_
  obtain ⟨T9, h9, X9, eh9, W9, st9⟩ := stoI X4 hx hZ eh4 V4 (j := (1 : Int32)) (i := 1) (x := x1) (Ls := #[.val (.int x0), .val (.int x1), .val (.int x2), .val (.int x3), .val (.long x4), .second, .val (.int x5), .val (.int k0), .val (.int k1), .val (.int v29), .val (.int v37), .unset, .unset, .unset, .unset, .unset, .unset]) (rest := [(.ref b1)]) (by decide) rfl (by decide) (hb hby at_49)
  have fa10 := fa5.wr W9 g_b1
  have fa11 := fa6.wr W9
  have ta12 := Nat.lt_of_lt_of_le ta7 (Nat.le_of_eq W9.size.symm)
  have za13 : n0 ≤ h9.size := Nat.le_trans za8 (Nat.le_of_eq W9.size.symm)
  have V9 : LA Z h9 b1 .int 2 (gl [(.int x0), (.int x1)] (.int (0 : Int32))) := V4.setL W9 (Nat.le_of_ble_eq_true rfl)
  have N9 := Fr.snoc X9 N4 g_b1
  refine Gq.go (T9.setTop (mkF m 50 #[.val (.int x0), .val (.int x1), .val (.int x2), .val (.int x3), .val (.long x4), .second, .val (.int x5), .val (.int k0), .val (.int k1), .val (.int v29), .val (.int v37), .unset, .unset, .unset, .unset, .unset, .unset] [(.ref b1)])) (fun tt_ kk_ => st9 tt_ kk_) ?_
  refine Gq.go (T9.setTop (mkF m 52 #[.val (.int x0), .val (.int x1), .val (.int x2), .val (.int x3), .val (.long x4), .second, .val (.int x5), .val (.int k0), .val (.int k1), .val (.int v29), .val (.int v37), .val (.ref b1), .unset, .unset, .unset, .unset, .unset] [])) (fun tt_ kk_ => XS.astore X9.here hx rfl (hb hby at_50) rfl rfl (l' := #[.val (.int x0), .val (.int x1), .val (.int x2), .val (.int x3), .val (.long x4), .second, .val (.int x5), .val (.int k0), .val (.int k1), .val (.int v29), .val (.int v37), .val (.ref b1), .unset, .unset, .unset, .unset, .unset]) rfl kk_) ?_
  refine Gq.go (T9.setTop (mkF m 53 #[.val (.int x0), .val (.int x1), .val (.int x2), .val (.int x3), .val (.long x4), .second, .val (.int x5), .val (.int k0), .val (.int k1), .val (.int v29), .val (.int v37), .val (.ref b1), .unset, .unset, .unset, .unset, .unset] [(.int (2 : Int32))])) (fun tt_ kk_ => XS.iconst X9.here hx rfl (hb hby at_52) kk_) ?_
  obtain ⟨T14, h14, b14, X14, eh14, E14, aq14, V14, A14, st14⟩ := mkAE X9 hx hZ (hw _ (List.mem_of_getElem? (i := 0) rfl)) eh9 (z := (2 : Int32)) (n := 2) (Ls := #[.val (.int x0), .val (.int x1), .val (.int x2), .val (.int x3), .val (.long x4), .second, .val (.int x5), .val (.int k0), .val (.int k1), .val (.int v29), .val (.int v37), .val (.ref b1), .unset, .unset, .unset, .unset, .unset]) (rest := []) (by decide) rfl (by decide) (by decide) (by decide) (ad := "[I") rfl (hb hby at_53)
  have g_b14 : n0 ≤ b14 := Nat.le_trans za13 (Nat.le_of_eq aq14.symm)
  have ne_b1_b14 : b1 ≠ b14 := Nat.ne_of_lt (Nat.lt_of_lt_of_le ta12 (Nat.le_of_eq aq14.symm))
  have fa15 := fa10.ext E14
  have fa16 := fa11.ext E14
  have fa17 := V9.ext E14
  have ta18 := Nat.lt_of_lt_of_le ta12 E14.1
  have za19 : n0 ≤ h14.size := Nat.le_trans za13 E14.1
  have V14' : LA Z h14 b14 .int 2 (gl [(.int (0 : Int32)), (.int (0 : Int32))] (.int (0 : Int32))) := V14.list
  have ta14' := V14'.lt
  refine Gq.go (T14.setTop (mkF m 55 #[.val (.int x0), .val (.int x1), .val (.int x2), .val (.int x3), .val (.long x4), .second, .val (.int x5), .val (.int k0), .val (.int k1), .val (.int v29), .val (.int v37), .val (.ref b1), .unset, .unset, .unset, .unset, .unset] [(.ref b14)])) (fun tt_ kk_ => st14 tt_ kk_) ?_
  refine Gq.go (T14.setTop (mkF m 56 #[.val (.int x0), .val (.int x1), .val (.int x2), .val (.int x3), .val (.long x4), .second, .val (.int x5), .val (.int k0), .val (.int k1), .val (.int v29), .val (.int v37), .val (.ref b1), .unset, .unset, .unset, .unset, .unset] [(.ref b14), (.ref b14)])) (fun tt_ kk_ => XS.dup X14.here hx rfl (hb hby at_55) rfl rfl kk_) ?_
  refine Gq.go (T14.setTop (mkF m 57 #[.val (.int x0), .val (.int x1), .val (.int x2), .val (.int x3), .val (.long x4), .second, .val (.int x5), .val (.int k0), .val (.int k1), .val (.int v29), .val (.int v37), .val (.ref b1), .unset, .unset, .unset, .unset, .unset] [(.int (0 : Int32)), (.ref b14), (.ref b14)])) (fun tt_ kk_ => XS.iconst X14.here hx rfl (hb hby at_56) kk_) ?_
  refine Gq.go (T14.setTop (mkF m 59 #[.val (.int x0), .val (.int x1), .val (.int x2), .val (.int x3), .val (.long x4), .second, .val (.int x5), .val (.int k0), .val (.int k1), .val (.int v29), .val (.int v37), .val (.ref b1), .unset, .unset, .unset, .unset, .unset] [(.int k0), (.int (0 : Int32)), (.ref b14), (.ref b14)])) (fun tt_ kk_ => XS.iload X14.here hx rfl (hb hby at_57) rfl kk_) ?_
  obtain ⟨T20, h20, X20, eh20, W20, st20⟩ := stoI X14 hx hZ eh14 V14' (j := (0 : Int32)) (i := 0) (x := k0) (Ls := #[.val (.int x0), .val (.int x1), .val (.int x2), .val (.int x3), .val (.long x4), .second, .val (.int x5), .val (.int k0), .val (.int k1), .val (.int v29), .val (.int v37), .val (.ref b1), .unset, .unset, .unset, .unset, .unset]) (rest := [(.ref b14)]) (by decide) rfl (by decide) (hb hby at_59)
  have fa21 := fa15.wr W20 g_b14
  have fa22 := fa16.wr W20
  have fa23 := fa17.other W20 ne_b1_b14
  have fa24 := A14.wr W20
  have ta25 := Nat.lt_of_lt_of_le ta18 (Nat.le_of_eq W20.size.symm)
  have ta26 := Nat.lt_of_lt_of_le ta14' (Nat.le_of_eq W20.size.symm)
  have za27 : n0 ≤ h20.size := Nat.le_trans za19 (Nat.le_of_eq W20.size.symm)
  have V20 : LA Z h20 b14 .int 2 (gl [(.int k0), (.int (0 : Int32))] (.int (0 : Int32))) := V14'.setL W20 (Nat.le_of_ble_eq_true rfl)
  have N20 := Fr.snoc X20 N9 g_b14
  refine Gq.go (T20.setTop (mkF m 60 #[.val (.int x0), .val (.int x1), .val (.int x2), .val (.int x3), .val (.long x4), .second, .val (.int x5), .val (.int k0), .val (.int k1), .val (.int v29), .val (.int v37), .val (.ref b1), .unset, .unset, .unset, .unset, .unset] [(.ref b14)])) (fun tt_ kk_ => st20 tt_ kk_) ?_
  refine Gq.go (T20.setTop (mkF m 61 #[.val (.int x0), .val (.int x1), .val (.int x2), .val (.int x3), .val (.long x4), .second, .val (.int x5), .val (.int k0), .val (.int k1), .val (.int v29), .val (.int v37), .val (.ref b1), .unset, .unset, .unset, .unset, .unset] [(.ref b14), (.ref b14)])) (fun tt_ kk_ => XS.dup X20.here hx rfl (hb hby at_60) rfl rfl kk_) ?_
  refine Gq.go (T20.setTop (mkF m 62 #[.val (.int x0), .val (.int x1), .val (.int x2), .val (.int x3), .val (.long x4), .second, .val (.int x5), .val (.int k0), .val (.int k1), .val (.int v29), .val (.int v37), .val (.ref b1), .unset, .unset, .unset, .unset, .unset] [(.int (1 : Int32)), (.ref b14), (.ref b14)])) (fun tt_ kk_ => XS.iconst X20.here hx rfl (hb hby at_61) kk_) ?_
  refine Gq.go (T20.setTop (mkF m 64 #[.val (.int x0), .val (.int x1), .val (.int x2), .val (.int x3), .val (.long x4), .second, .val (.int x5), .val (.int k0), .val (.int k1), .val (.int v29), .val (.int v37), .val (.ref b1), .unset, .unset, .unset, .unset, .unset] [(.int k1), (.int (1 : Int32)), (.ref b14), (.ref b14)])) (fun tt_ kk_ => XS.iload X20.here hx rfl (hb hby at_62) rfl kk_) ?_
  obtain ⟨T28, h28, X28, eh28, W28, st28⟩ := stoI X20 hx hZ eh20 V20 (j := (1 : Int32)) (i := 1) (x := k1) (Ls := #[.val (.int x0), .val (.int x1), .val (.int x2), .val (.int x3), .val (.long x4), .second, .val (.int x5), .val (.int k0), .val (.int k1), .val (.int v29), .val (.int v37), .val (.ref b1), .unset, .unset, .unset, .unset, .unset]) (rest := [(.ref b14)]) (by decide) rfl (by decide) (hb hby at_64)
  have fa29 := fa21.wr W28 g_b14
  have fa30 := fa22.wr W28
  have fa31 := fa23.other W28 ne_b1_b14
  have fa32 := fa24.wr W28
  have ta33 := Nat.lt_of_lt_of_le ta25 (Nat.le_of_eq W28.size.symm)
  have ta34 := Nat.lt_of_lt_of_le ta26 (Nat.le_of_eq W28.size.symm)
  have za35 : n0 ≤ h28.size := Nat.le_trans za27 (Nat.le_of_eq W28.size.symm)
  have V28 : LA Z h28 b14 .int 2 (gl [(.int k0), (.int k1)] (.int (0 : Int32))) := V20.setL W28 (Nat.le_of_ble_eq_true rfl)
  have N28 := Fr.snoc X28 N20 g_b14
  refine Gq.go (T28.setTop (mkF m 65 #[.val (.int x0), .val (.int x1), .val (.int x2), .val (.int x3), .val (.long x4), .second, .val (.int x5), .val (.int k0), .val (.int k1), .val (.int v29), .val (.int v37), .val (.ref b1), .unset, .unset, .unset, .unset, .unset] [(.ref b14)])) (fun tt_ kk_ => st28 tt_ kk_) ?_
  refine Gq.go (T28.setTop (mkF m 67 #[.val (.int x0), .val (.int x1), .val (.int x2), .val (.int x3), .val (.long x4), .second, .val (.int x5), .val (.int k0), .val (.int k1), .val (.int v29), .val (.int v37), .val (.ref b1), .val (.ref b14), .unset, .unset, .unset, .unset] [])) (fun tt_ kk_ => XS.astore X28.here hx rfl (hb hby at_65) rfl rfl (l' := #[.val (.int x0), .val (.int x1), .val (.int x2), .val (.int x3), .val (.long x4), .second, .val (.int x5), .val (.int k0), .val (.int k1), .val (.int v29), .val (.int v37), .val (.ref b1), .val (.ref b14), .unset, .unset, .unset, .unset]) rfl kk_) ?_
  refine Gq.go (T28.setTop (mkF m 68 #[.val (.int x0), .val (.int x1), .val (.int x2), .val (.int x3), .val (.long x4), .second, .val (.int x5), .val (.int k0), .val (.int k1), .val (.int v29), .val (.int v37), .val (.ref b1), .val (.ref b14), .unset, .unset, .unset, .unset] [(.int (3 : Int32))])) (fun tt_ kk_ => XS.iconst X28.here hx rfl (hb hby at_67) kk_) ?_
  obtain ⟨T36, h36, b36, X36, eh36, E36, aq36, V36, A36, st36⟩ := mkAE X28 hx hZ (hw _ (List.mem_of_getElem? (i := 0) rfl)) eh28 (z := (3 : Int32)) (n := 3) (Ls := #[.val (.int x0), .val (.int x1), .val (.int x2), .val (.int x3), .val (.long x4), .second, .val (.int x5), .val (.int k0), .val (.int k1), .val (.int v29), .val (.int v37), .val (.ref b1), .val (.ref b14), .unset, .unset, .unset, .unset]) (rest := []) (by decide) rfl (by decide) (by decide) (by decide) (ad := "[I") rfl (hb hby at_68)
  have g_b36 : n0 ≤ b36 := Nat.le_trans za35 (Nat.le_of_eq aq36.symm)
  have ne_b1_b36 : b1 ≠ b36 := Nat.ne_of_lt (Nat.lt_of_lt_of_le ta33 (Nat.le_of_eq aq36.symm))
  have ne_b14_b36 : b14 ≠ b36 := Nat.ne_of_lt (Nat.lt_of_lt_of_le ta34 (Nat.le_of_eq aq36.symm))
  have fa37 := fa29.ext E36
  have fa38 := fa30.ext E36
  have fa39 := fa31.ext E36
  have fa40 := fa32.ext E36
  have fa41 := V28.ext E36
  have ta42 := Nat.lt_of_lt_of_le ta33 E36.1
  have ta43 := Nat.lt_of_lt_of_le ta34 E36.1
  have za44 : n0 ≤ h36.size := Nat.le_trans za35 E36.1
  have V36' : LA Z h36 b36 .int 3 (gl [(.int (0 : Int32)), (.int (0 : Int32)), (.int (0 : Int32))] (.int (0 : Int32))) := V36.list
  have ta36' := V36'.lt
  refine Gq.go (T36.setTop (mkF m 70 #[.val (.int x0), .val (.int x1), .val (.int x2), .val (.int x3), .val (.long x4), .second, .val (.int x5), .val (.int k0), .val (.int k1), .val (.int v29), .val (.int v37), .val (.ref b1), .val (.ref b14), .unset, .unset, .unset, .unset] [(.ref b36)])) (fun tt_ kk_ => st36 tt_ kk_) ?_
  refine Gq.go (T36.setTop (mkF m 71 #[.val (.int x0), .val (.int x1), .val (.int x2), .val (.int x3), .val (.long x4), .second, .val (.int x5), .val (.int k0), .val (.int k1), .val (.int v29), .val (.int v37), .val (.ref b1), .val (.ref b14), .unset, .unset, .unset, .unset] [(.ref b36), (.ref b36)])) (fun tt_ kk_ => XS.dup X36.here hx rfl (hb hby at_70) rfl rfl kk_) ?_
  refine Gq.go (T36.setTop (mkF m 72 #[.val (.int x0), .val (.int x1), .val (.int x2), .val (.int x3), .val (.long x4), .second, .val (.int x5), .val (.int k0), .val (.int k1), .val (.int v29), .val (.int v37), .val (.ref b1), .val (.ref b14), .unset, .unset, .unset, .unset] [(.int (0 : Int32)), (.ref b36), (.ref b36)])) (fun tt_ kk_ => XS.iconst X36.here hx rfl (hb hby at_71) kk_) ?_
  refine Gq.go (T36.setTop (mkF m 74 #[.val (.int x0), .val (.int x1), .val (.int x2), .val (.int x3), .val (.long x4), .second, .val (.int x5), .val (.int k0), .val (.int k1), .val (.int v29), .val (.int v37), .val (.ref b1), .val (.ref b14), .unset, .unset, .unset, .unset] [(.int v29), (.int (0 : Int32)), (.ref b36), (.ref b36)])) (fun tt_ kk_ => XS.iload X36.here hx rfl (hb hby at_72) rfl kk_) ?_
  obtain ⟨T45, h45, X45, eh45, W45, st45⟩ := stoI X36 hx hZ eh36 V36' (j := (0 : Int32)) (i := 0) (x := v29) (Ls := #[.val (.int x0), .val (.int x1), .val (.int x2), .val (.int x3), .val (.long x4), .second, .val (.int x5), .val (.int k0), .val (.int k1), .val (.int v29), .val (.int v37), .val (.ref b1), .val (.ref b14), .unset, .unset, .unset, .unset]) (rest := [(.ref b36)]) (by decide) rfl (by decide) (hb hby at_74)
  have fa46 := fa37.wr W45 g_b36
  have fa47 := fa38.wr W45
  have fa48 := fa39.other W45 ne_b1_b36
  have fa49 := fa40.wr W45
  have fa50 := fa41.other W45 ne_b14_b36
  have fa51 := A36.wr W45
  have ta52 := Nat.lt_of_lt_of_le ta42 (Nat.le_of_eq W45.size.symm)
  have ta53 := Nat.lt_of_lt_of_le ta43 (Nat.le_of_eq W45.size.symm)
  have ta54 := Nat.lt_of_lt_of_le ta36' (Nat.le_of_eq W45.size.symm)
  have za55 : n0 ≤ h45.size := Nat.le_trans za44 (Nat.le_of_eq W45.size.symm)
  have V45 : LA Z h45 b36 .int 3 (gl [(.int v29), (.int (0 : Int32)), (.int (0 : Int32))] (.int (0 : Int32))) := V36'.setL W45 (Nat.le_of_ble_eq_true rfl)
  have N45 := Fr.snoc X45 N28 g_b36
  refine Gq.go (T45.setTop (mkF m 75 #[.val (.int x0), .val (.int x1), .val (.int x2), .val (.int x3), .val (.long x4), .second, .val (.int x5), .val (.int k0), .val (.int k1), .val (.int v29), .val (.int v37), .val (.ref b1), .val (.ref b14), .unset, .unset, .unset, .unset] [(.ref b36)])) (fun tt_ kk_ => st45 tt_ kk_) ?_
  refine Gq.go (T45.setTop (mkF m 76 #[.val (.int x0), .val (.int x1), .val (.int x2), .val (.int x3), .val (.long x4), .second, .val (.int x5), .val (.int k0), .val (.int k1), .val (.int v29), .val (.int v37), .val (.ref b1), .val (.ref b14), .unset, .unset, .unset, .unset] [(.ref b36), (.ref b36)])) (fun tt_ kk_ => XS.dup X45.here hx rfl (hb hby at_75) rfl rfl kk_) ?_
  refine Gq.go (T45.setTop (mkF m 77 #[.val (.int x0), .val (.int x1), .val (.int x2), .val (.int x3), .val (.long x4), .second, .val (.int x5), .val (.int k0), .val (.int k1), .val (.int v29), .val (.int v37), .val (.ref b1), .val (.ref b14), .unset, .unset, .unset, .unset] [(.int (1 : Int32)), (.ref b36), (.ref b36)])) (fun tt_ kk_ => XS.iconst X45.here hx rfl (hb hby at_76) kk_) ?_
  refine Gq.go (T45.setTop (mkF m 79 #[.val (.int x0), .val (.int x1), .val (.int x2), .val (.int x3), .val (.long x4), .second, .val (.int x5), .val (.int k0), .val (.int k1), .val (.int v29), .val (.int v37), .val (.ref b1), .val (.ref b14), .unset, .unset, .unset, .unset] [(.int v37), (.int (1 : Int32)), (.ref b36), (.ref b36)])) (fun tt_ kk_ => XS.iload X45.here hx rfl (hb hby at_77) rfl kk_) ?_
  obtain ⟨T56, h56, X56, eh56, W56, st56⟩ := stoI X45 hx hZ eh45 V45 (j := (1 : Int32)) (i := 1) (x := v37) (Ls := #[.val (.int x0), .val (.int x1), .val (.int x2), .val (.int x3), .val (.long x4), .second, .val (.int x5), .val (.int k0), .val (.int k1), .val (.int v29), .val (.int v37), .val (.ref b1), .val (.ref b14), .unset, .unset, .unset, .unset]) (rest := [(.ref b36)]) (by decide) rfl (by decide) (hb hby at_79)
  have fa57 := fa46.wr W56 g_b36
  have fa58 := fa47.wr W56
  have fa59 := fa48.other W56 ne_b1_b36
  have fa60 := fa49.wr W56
  have fa61 := fa50.other W56 ne_b14_b36
  have fa62 := fa51.wr W56
  have ta63 := Nat.lt_of_lt_of_le ta52 (Nat.le_of_eq W56.size.symm)
  have ta64 := Nat.lt_of_lt_of_le ta53 (Nat.le_of_eq W56.size.symm)
  have ta65 := Nat.lt_of_lt_of_le ta54 (Nat.le_of_eq W56.size.symm)
  have za66 : n0 ≤ h56.size := Nat.le_trans za55 (Nat.le_of_eq W56.size.symm)
  have V56 : LA Z h56 b36 .int 3 (gl [(.int v29), (.int v37), (.int (0 : Int32))] (.int (0 : Int32))) := V45.setL W56 (Nat.le_of_ble_eq_true rfl)
  have N56 := Fr.snoc X56 N45 g_b36
  refine Gq.go (T56.setTop (mkF m 80 #[.val (.int x0), .val (.int x1), .val (.int x2), .val (.int x3), .val (.long x4), .second, .val (.int x5), .val (.int k0), .val (.int k1), .val (.int v29), .val (.int v37), .val (.ref b1), .val (.ref b14), .unset, .unset, .unset, .unset] [(.ref b36)])) (fun tt_ kk_ => st56 tt_ kk_) ?_
  refine Gq.go (T56.setTop (mkF m 81 #[.val (.int x0), .val (.int x1), .val (.int x2), .val (.int x3), .val (.long x4), .second, .val (.int x5), .val (.int k0), .val (.int k1), .val (.int v29), .val (.int v37), .val (.ref b1), .val (.ref b14), .unset, .unset, .unset, .unset] [(.ref b36), (.ref b36)])) (fun tt_ kk_ => XS.dup X56.here hx rfl (hb hby at_80) rfl rfl kk_) ?_
  refine Gq.go (T56.setTop (mkF m 82 #[.val (.int x0), .val (.int x1), .val (.int x2), .val (.int x3), .val (.long x4), .second, .val (.int x5), .val (.int k0), .val (.int k1), .val (.int v29), .val (.int v37), .val (.ref b1), .val (.ref b14), .unset, .unset, .unset, .unset] [(.int (2 : Int32)), (.ref b36), (.ref b36)])) (fun tt_ kk_ => XS.iconst X56.here hx rfl (hb hby at_81) kk_) ?_
  refine Gq.go (T56.setTop (mkF m 84 #[.val (.int x0), .val (.int x1), .val (.int x2), .val (.int x3), .val (.long x4), .second, .val (.int x5), .val (.int k0), .val (.int k1), .val (.int v29), .val (.int v37), .val (.ref b1), .val (.ref b14), .unset, .unset, .unset, .unset] [(.int x5), (.int (2 : Int32)), (.ref b36), (.ref b36)])) (fun tt_ kk_ => XS.iload X56.here hx rfl (hb hby at_82) rfl kk_) ?_
  obtain ⟨T67, h67, X67, eh67, W67, st67⟩ := stoI X56 hx hZ eh56 V56 (j := (2 : Int32)) (i := 2) (x := x5) (Ls := #[.val (.int x0), .val (.int x1), .val (.int x2), .val (.int x3), .val (.long x4), .second, .val (.int x5), .val (.int k0), .val (.int k1), .val (.int v29), .val (.int v37), .val (.ref b1), .val (.ref b14), .unset, .unset, .unset, .unset]) (rest := [(.ref b36)]) (by decide) rfl (by decide) (hb hby at_84)
  have fa68 := fa57.wr W67 g_b36
  have fa69 := fa58.wr W67
  have fa70 := fa59.other W67 ne_b1_b36
  have fa71 := fa60.wr W67
  have fa72 := fa61.other W67 ne_b14_b36
  have fa73 := fa62.wr W67
  have ta74 := Nat.lt_of_lt_of_le ta63 (Nat.le_of_eq W67.size.symm)
  have ta75 := Nat.lt_of_lt_of_le ta64 (Nat.le_of_eq W67.size.symm)
  have ta76 := Nat.lt_of_lt_of_le ta65 (Nat.le_of_eq W67.size.symm)
  have za77 : n0 ≤ h67.size := Nat.le_trans za66 (Nat.le_of_eq W67.size.symm)
  have V67 : LA Z h67 b36 .int 3 (gl [(.int v29), (.int v37), (.int x5)] (.int (0 : Int32))) := V56.setL W67 (Nat.le_of_ble_eq_true rfl)
  have N67 := Fr.snoc X67 N56 g_b36
  refine Gq.go (T67.setTop (mkF m 85 #[.val (.int x0), .val (.int x1), .val (.int x2), .val (.int x3), .val (.long x4), .second, .val (.int x5), .val (.int k0), .val (.int k1), .val (.int v29), .val (.int v37), .val (.ref b1), .val (.ref b14), .unset, .unset, .unset, .unset] [(.ref b36)])) (fun tt_ kk_ => st67 tt_ kk_) ?_
  refine Gq.go (T67.setTop (mkF m 87 #[.val (.int x0), .val (.int x1), .val (.int x2), .val (.int x3), .val (.long x4), .second, .val (.int x5), .val (.int k0), .val (.int k1), .val (.int v29), .val (.int v37), .val (.ref b1), .val (.ref b14), .val (.ref b36), .unset, .unset, .unset] [])) (fun tt_ kk_ => XS.astore X67.here hx rfl (hb hby at_85) rfl rfl (l' := #[.val (.int x0), .val (.int x1), .val (.int x2), .val (.int x3), .val (.long x4), .second, .val (.int x5), .val (.int k0), .val (.int k1), .val (.int v29), .val (.int v37), .val (.ref b1), .val (.ref b14), .val (.ref b36), .unset, .unset, .unset]) rfl kk_) ?_
  obtain ⟨T78, h78, X78, eh78, E78, A78, D78, -, st78⟩ := newO X67 hx hZ hown (hw _ (List.mem_of_getElem? (i := 1) rfl)) (hw _ (List.mem_of_getElem? (i := 2) rfl)) (hw _ (List.mem_of_getElem? (i := 3) rfl)) eh67 (g := (mkF m 87 #[.val (.int x0), .val (.int x1), .val (.int x2), .val (.int x3), .val (.long x4), .second, .val (.int x5), .val (.int k0), .val (.int k1), .val (.int v29), .val (.int v37), .val (.ref b1), .val (.ref b14), .val (.ref b36), .unset, .unset, .unset] [])) rfl (hb hby at_87) (by decide) (by decide)
  obtain ⟨b78, aq78⟩ : ∃ z, z = h67.size := ⟨_, rfl⟩
  rw [← aq78] at A78 D78 st78
  have g_b78 : n0 ≤ b78 := Nat.le_trans za77 (Nat.le_of_eq aq78.symm)
  have ne_b1_b78 : b1 ≠ b78 := Nat.ne_of_lt (Nat.lt_of_lt_of_le ta74 (Nat.le_of_eq aq78.symm))
  have ne_b14_b78 : b14 ≠ b78 := Nat.ne_of_lt (Nat.lt_of_lt_of_le ta75 (Nat.le_of_eq aq78.symm))
  have ne_b36_b78 : b36 ≠ b78 := Nat.ne_of_lt (Nat.lt_of_lt_of_le ta76 (Nat.le_of_eq aq78.symm))
  have fa79 := fa68.ext E78
  have fa80 := fa69.ext E78
  have fa81 := fa70.ext E78
  have fa82 := fa71.ext E78
  have fa83 := fa72.ext E78
  have fa84 := fa73.ext E78
  have fa85 := V67.ext E78
  have ta86 := Nat.lt_of_lt_of_le ta74 E78.1
  have ta87 := Nat.lt_of_lt_of_le ta75 E78.1
  have ta88 := Nat.lt_of_lt_of_le ta76 E78.1
  have za89 : n0 ≤ h78.size := Nat.le_trans za77 E78.1
  have F78_selections : Fld Z h78 b78 "com/example/arbor2/arbor2/analysis/Tracks" "selections" "[I" .null := D78 (Or.inr (hw _ (List.mem_of_getElem? (i := 35) rfl))) (ty := (.array .int)) (by decide)
  have F78_firstSlots : Fld Z h78 b78 "com/example/arbor2/arbor2/analysis/Tracks" "firstSlots" "[I" .null := D78 (Or.inr (hw _ (List.mem_of_getElem? (i := 37) rfl))) (ty := (.array .int)) (by decide)
  have F78_slotTracks : Fld Z h78 b78 "com/example/arbor2/arbor2/analysis/Tracks" "slotTracks" "[I" .null := D78 (Or.inr (hw _ (List.mem_of_getElem? (i := 39) rfl))) (ty := (.array .int)) (by decide)
  have F78_begins : Fld Z h78 b78 "com/example/arbor2/arbor2/analysis/Tracks" "begins" "[I" .null := D78 (Or.inr (hw _ (List.mem_of_getElem? (i := 41) rfl))) (ty := (.array .int)) (by decide)
  have F78_sink : Fld Z h78 b78 "com/example/arbor2/arbor2/analysis/Tracks" "sink" "I" (.int (0 : Int32)) := D78 (Or.inr (hw _ (List.mem_of_getElem? (i := 43) rfl))) (ty := .int) (by decide)
  have F78_sharesPairs : Fld Z h78 b78 "com/example/arbor2/arbor2/analysis/Tracks" "sharesPairs" "Z" (.int (0 : Int32)) := D78 (Or.inr (hw _ (List.mem_of_getElem? (i := 45) rfl))) (ty := .boolean) (by decide)
  have ta78' := A78.lt
  refine Gq.go (T78.setTop (mkF m 90 #[.val (.int x0), .val (.int x1), .val (.int x2), .val (.int x3), .val (.long x4), .second, .val (.int x5), .val (.int k0), .val (.int k1), .val (.int v29), .val (.int v37), .val (.ref b1), .val (.ref b14), .val (.ref b36), .unset, .unset, .unset] [(.ref b78)])) (fun tt_ kk_ => st78 tt_ kk_) ?_
  refine Gq.go (T78.setTop (mkF m 91 #[.val (.int x0), .val (.int x1), .val (.int x2), .val (.int x3), .val (.long x4), .second, .val (.int x5), .val (.int k0), .val (.int k1), .val (.int v29), .val (.int v37), .val (.ref b1), .val (.ref b14), .val (.ref b36), .unset, .unset, .unset] [(.ref b78), (.ref b78)])) (fun tt_ kk_ => XS.dup X78.here hx rfl (hb hby at_90) rfl rfl kk_) ?_
  refine Gq.go (T78.setTop (mkF m 92 #[.val (.int x0), .val (.int x1), .val (.int x2), .val (.int x3), .val (.long x4), .second, .val (.int x5), .val (.int k0), .val (.int k1), .val (.int v29), .val (.int v37), .val (.ref b1), .val (.ref b14), .val (.ref b36), .unset, .unset, .unset] [(.int (0 : Int32)), (.ref b78), (.ref b78)])) (fun tt_ kk_ => XS.iconst X78.here hx rfl (hb hby at_91) kk_) ?_
  obtain ⟨T90, h90, b90, X90, eh90, E90, aq90, V90, A90, st90⟩ := mkAE X78 hx hZ (hw _ (List.mem_of_getElem? (i := 0) rfl)) eh78 (z := (0 : Int32)) (n := 0) (Ls := #[.val (.int x0), .val (.int x1), .val (.int x2), .val (.int x3), .val (.long x4), .second, .val (.int x5), .val (.int k0), .val (.int k1), .val (.int v29), .val (.int v37), .val (.ref b1), .val (.ref b14), .val (.ref b36), .unset, .unset, .unset]) (rest := [(.ref b78), (.ref b78)]) (by decide) rfl (by decide) (by decide) (by decide) (ad := "[I") rfl (hb hby at_92)
  have g_b90 : n0 ≤ b90 := Nat.le_trans za89 (Nat.le_of_eq aq90.symm)
  have ne_b1_b90 : b1 ≠ b90 := Nat.ne_of_lt (Nat.lt_of_lt_of_le ta86 (Nat.le_of_eq aq90.symm))
  have ne_b14_b90 : b14 ≠ b90 := Nat.ne_of_lt (Nat.lt_of_lt_of_le ta87 (Nat.le_of_eq aq90.symm))
  have ne_b36_b90 : b36 ≠ b90 := Nat.ne_of_lt (Nat.lt_of_lt_of_le ta88 (Nat.le_of_eq aq90.symm))
  have ne_b78_b90 : b78 ≠ b90 := Nat.ne_of_lt (Nat.lt_of_lt_of_le ta78' (Nat.le_of_eq aq90.symm))
  have fa91 := fa79.ext E90
  have fa92 := fa80.ext E90
  have fa93 := fa81.ext E90
  have fa94 := fa82.ext E90
  have fa95 := fa83.ext E90
  have fa96 := fa84.ext E90
  have fa97 := fa85.ext E90
  have fa98 := A78.ext E90
  have fa99 := F78_selections.ext E90
  have fa100 := F78_firstSlots.ext E90
  have fa101 := F78_slotTracks.ext E90
  have fa102 := F78_begins.ext E90
  have fa103 := F78_sink.ext E90
  have fa104 := F78_sharesPairs.ext E90
  have ta105 := Nat.lt_of_lt_of_le ta86 E90.1
  have ta106 := Nat.lt_of_lt_of_le ta87 E90.1
  have ta107 := Nat.lt_of_lt_of_le ta88 E90.1
  have ta108 := Nat.lt_of_lt_of_le ta78' E90.1
  have za109 : n0 ≤ h90.size := Nat.le_trans za89 E90.1
  have V90' : LA Z h90 b90 .int 0 (gl [] (.int (0 : Int32))) := V90.list
  have ta90' := V90'.lt
  refine Gq.go (T90.setTop (mkF m 94 #[.val (.int x0), .val (.int x1), .val (.int x2), .val (.int x3), .val (.long x4), .second, .val (.int x5), .val (.int k0), .val (.int k1), .val (.int v29), .val (.int v37), .val (.ref b1), .val (.ref b14), .val (.ref b36), .unset, .unset, .unset] [(.ref b90), (.ref b78), (.ref b78)])) (fun tt_ kk_ => st90 tt_ kk_) ?_
  obtain ⟨T110, h110, X110, eh110, E110, A110, D110, -, st110⟩ := newO X90 hx hZ hown (hw _ (List.mem_of_getElem? (i := 4) rfl)) (hw _ (List.mem_of_getElem? (i := 5) rfl)) (hw _ (List.mem_of_getElem? (i := 6) rfl)) eh90 (g := (mkF m 94 #[.val (.int x0), .val (.int x1), .val (.int x2), .val (.int x3), .val (.long x4), .second, .val (.int x5), .val (.int k0), .val (.int k1), .val (.int v29), .val (.int v37), .val (.ref b1), .val (.ref b14), .val (.ref b36), .unset, .unset, .unset] [(.ref b90), (.ref b78), (.ref b78)])) rfl (hb hby at_94) (by decide) (by decide)
  obtain ⟨b110, aq110⟩ : ∃ z, z = h90.size := ⟨_, rfl⟩
  rw [← aq110] at A110 D110 st110
  have g_b110 : n0 ≤ b110 := Nat.le_trans za109 (Nat.le_of_eq aq110.symm)
  have ne_b1_b110 : b1 ≠ b110 := Nat.ne_of_lt (Nat.lt_of_lt_of_le ta105 (Nat.le_of_eq aq110.symm))
  have ne_b14_b110 : b14 ≠ b110 := Nat.ne_of_lt (Nat.lt_of_lt_of_le ta106 (Nat.le_of_eq aq110.symm))
  have ne_b36_b110 : b36 ≠ b110 := Nat.ne_of_lt (Nat.lt_of_lt_of_le ta107 (Nat.le_of_eq aq110.symm))
  have ne_b78_b110 : b78 ≠ b110 := Nat.ne_of_lt (Nat.lt_of_lt_of_le ta108 (Nat.le_of_eq aq110.symm))
  have ne_b90_b110 : b90 ≠ b110 := Nat.ne_of_lt (Nat.lt_of_lt_of_le ta90' (Nat.le_of_eq aq110.symm))
  have fa111 := fa91.ext E110
  have fa112 := fa92.ext E110
  have fa113 := fa93.ext E110
  have fa114 := fa94.ext E110
  have fa115 := fa95.ext E110
  have fa116 := fa96.ext E110
  have fa117 := fa97.ext E110
  have fa118 := fa98.ext E110
  have fa119 := fa99.ext E110
  have fa120 := fa100.ext E110
  have fa121 := fa101.ext E110
  have fa122 := fa102.ext E110
  have fa123 := fa103.ext E110
  have fa124 := fa104.ext E110
  have fa125 := V90'.ext E110
  have fa126 := A90.ext E110
  have ta127 := Nat.lt_of_lt_of_le ta105 E110.1
  have ta128 := Nat.lt_of_lt_of_le ta106 E110.1
  have ta129 := Nat.lt_of_lt_of_le ta107 E110.1
  have ta130 := Nat.lt_of_lt_of_le ta108 E110.1
  have ta131 := Nat.lt_of_lt_of_le ta90' E110.1
  have za132 : n0 ≤ h110.size := Nat.le_trans za109 E110.1
  have F110_modCount : Fld Z h110 b110 "java/util/AbstractList" "modCount" "I" (.int (0 : Int32)) := D110 (Or.inl (hw _ (List.mem_of_getElem? (i := 26) rfl))) (ty := .int) (by decide)
  have F110_elementData : Fld Z h110 b110 "java/util/ArrayList" "elementData" "[Ljava/lang/Object;" .null := D110 (Or.inl (hw _ (List.mem_of_getElem? (i := 29) rfl))) (ty := (.array (.object "java/lang/Object"))) (by decide)
  have ta110' := A110.lt
  refine Gq.go (T110.setTop (mkF m 97 #[.val (.int x0), .val (.int x1), .val (.int x2), .val (.int x3), .val (.long x4), .second, .val (.int x5), .val (.int k0), .val (.int k1), .val (.int v29), .val (.int v37), .val (.ref b1), .val (.ref b14), .val (.ref b36), .unset, .unset, .unset] [(.ref b110), (.ref b90), (.ref b78), (.ref b78)])) (fun tt_ kk_ => st110 tt_ kk_) ?_
  refine Gq.go (T110.setTop (mkF m 98 #[.val (.int x0), .val (.int x1), .val (.int x2), .val (.int x3), .val (.long x4), .second, .val (.int x5), .val (.int k0), .val (.int k1), .val (.int v29), .val (.int v37), .val (.ref b1), .val (.ref b14), .val (.ref b36), .unset, .unset, .unset] [(.ref b110), (.ref b110), (.ref b90), (.ref b78), (.ref b78)])) (fun tt_ kk_ => XS.dup X110.here hx rfl (hb hby at_97) rfl rfl kk_) ?_
  obtain ⟨r133, T133, L133, X133, hQ133, st133⟩ := callI (pc := 98) (Ls := #[.val (.int x0), .val (.int x1), .val (.int x2), .val (.int x3), .val (.long x4), .second, .val (.int x5), .val (.int k0), .val (.int k1), .val (.int v29), .val (.int v37), .val (.ref b1), .val (.ref b14), .val (.ref b36), .unset, .unset, .unset]) X110 hx hZ hown eh110 b110 [] [(.ref b110), (.ref b90), (.ref b78), (.ref b78)] (hw _ (List.mem_of_getElem? (i := 7) rfl)) (hw _ (List.mem_of_getElem? (i := 8) rfl)) (hw _ (List.mem_of_getElem? (i := 6) rfl)) (hw _ (List.mem_of_getElem? (i := 9) rfl)) rfl (by decide) (rm1 l Z a0 hw [] b110 d0 h110 n0 za132 A110 g_b110 F110_modCount F110_elementData fa111 Sd) pd_0 rfl (by rw [hml]; rfl) (W := 4) (Nat.le_of_eq rfl) (by decide) (by decide) (by decide) (by decide) (hb hby at_98)
  obtain ⟨rfl, N133q, Kc133⟩ := hQ133
  have N133 := Fr.app N67 N133q
  have fa134 := fa111.keep Kc133 (allS g_b110 all0)
  have fa135 := fa112.keep Kc133
  have fa136 := fa113.keep Kc133 (ninS ne_b1_b110 nin0)
  have fa137 := fa114.keep Kc133
  have fa138 := fa115.keep Kc133 (ninS ne_b14_b110 nin0)
  have fa139 := fa116.keep Kc133
  have fa140 := fa117.keep Kc133 (ninS ne_b36_b110 nin0)
  have fa141 := fa118.keep Kc133
  have fa142 := fa119.keep Kc133 (ninS ne_b78_b110 nin0)
  have fa143 := fa120.keep Kc133 (ninS ne_b78_b110 nin0)
  have fa144 := fa121.keep Kc133 (ninS ne_b78_b110 nin0)
  have fa145 := fa122.keep Kc133 (ninS ne_b78_b110 nin0)
  have fa146 := fa123.keep Kc133 (ninS ne_b78_b110 nin0)
  have fa147 := fa124.keep Kc133 (ninS ne_b78_b110 nin0)
  have fa148 := fa125.keep Kc133 (ninS ne_b90_b110 nin0)
  have fa149 := fa126.keep Kc133
  have fa150 := A110.keep Kc133
  have ta153 := Nat.lt_of_lt_of_le ta127 Kc133.1
  have ta154 := Nat.lt_of_lt_of_le ta128 Kc133.1
  have ta155 := Nat.lt_of_lt_of_le ta129 Kc133.1
  have ta156 := Nat.lt_of_lt_of_le ta130 Kc133.1
  have ta157 := Nat.lt_of_lt_of_le ta131 Kc133.1
  have ta158 := Nat.lt_of_lt_of_le ta110' Kc133.1
  have za159 : n0 ≤ T133.heap.size := Nat.le_trans za132 Kc133.1
  refine Gq.go (T133.setTop (mkF m 101 #[.val (.int x0), .val (.int x1), .val (.int x2), .val (.int x3), .val (.long x4), .second, .val (.int x5), .val (.int k0), .val (.int k1), .val (.int v29), .val (.int v37), .val (.ref b1), .val (.ref b14), .val (.ref b36), .unset, .unset, .unset] [(.ref b110), (.ref b90), (.ref b78), (.ref b78)])) (fun tt_ kk_ => st133 tt_ kk_) ?_
  refine Gq.go (T133.setTop (mkF m 102 #[.val (.int x0), .val (.int x1), .val (.int x2), .val (.int x3), .val (.long x4), .second, .val (.int x5), .val (.int k0), .val (.int k1), .val (.int v29), .val (.int v37), .val (.ref b1), .val (.ref b14), .val (.ref b36), .unset, .unset, .unset] [(.int (-1 : Int32)), (.ref b110), (.ref b90), (.ref b78), (.ref b78)])) (fun tt_ kk_ => XS.iconst X133.here hx rfl (hb hby at_101) kk_) ?_
  refine Gq.go (T133.setTop (mkF m 103 #[.val (.int x0), .val (.int x1), .val (.int x2), .val (.int x3), .val (.long x4), .second, .val (.int x5), .val (.int k0), .val (.int k1), .val (.int v29), .val (.int v37), .val (.ref b1), .val (.ref b14), .val (.ref b36), .unset, .unset, .unset] [(.int (1 : Int32)), (.int (-1 : Int32)), (.ref b110), (.ref b90), (.ref b78), (.ref b78)])) (fun tt_ kk_ => XS.iconst X133.here hx rfl (hb hby at_102) kk_) ?_
  obtain ⟨r160, T160, L160, X160, hQ160, st160⟩ := callI (pc := 103) (Ls := #[.val (.int x0), .val (.int x1), .val (.int x2), .val (.int x3), .val (.long x4), .second, .val (.int x5), .val (.int k0), .val (.int k1), .val (.int v29), .val (.int v37), .val (.ref b1), .val (.ref b14), .val (.ref b36), .unset, .unset, .unset]) X133 hx hZ hown rfl b78 [(.ref b90), (.ref b110), (.int (-1 : Int32)), (.int (1 : Int32))] [(.ref b78)] (hw _ (List.mem_of_getElem? (i := 30) rfl)) (hw _ (List.mem_of_getElem? (i := 31) rfl)) (hw _ (List.mem_of_getElem? (i := 3) rfl)) (hw _ (List.mem_of_getElem? (i := 32) rfl)) rfl (by decide) (rm5 l Z a0 hw [] b78 b90 b110 (-1 : Int32) (1 : Int32) T133.heap n0 za159 fa141 g_b78 fa142 fa143 fa144 fa145 fa146 fa147 fa148 (Ne.symm ne_b78_b90)) pd_1 rfl (by rw [hml]; rfl) (W := 1) (Nat.le_of_eq rfl) (by decide) (by decide) (by decide) (by decide) (hb hby at_103)
  obtain ⟨rfl, N160q, Kc160⟩ := hQ160
  have N160 := Fr.app N133 N160q
  have fa161 := fa134.keep Kc160 (allS g_b78 all0)
  have fa162 := fa135.keep Kc160
  have fa163 := fa136.keep Kc160 (ninS ne_b1_b78 nin0)
  have fa164 := fa137.keep Kc160
  have fa165 := fa138.keep Kc160 (ninS ne_b14_b78 nin0)
  have fa166 := fa139.keep Kc160
  have fa167 := fa140.keep Kc160 (ninS ne_b36_b78 nin0)
  have fa168 := fa141.keep Kc160
  have fa175 := fa148.keep Kc160 (ninS (Ne.symm ne_b78_b90) nin0)
  have fa176 := fa149.keep Kc160
  have fa177 := fa150.keep Kc160
  have ta178 := Nat.lt_of_lt_of_le ta153 Kc160.1
  have ta179 := Nat.lt_of_lt_of_le ta154 Kc160.1
  have ta180 := Nat.lt_of_lt_of_le ta155 Kc160.1
  have ta181 := Nat.lt_of_lt_of_le ta156 Kc160.1
  have ta182 := Nat.lt_of_lt_of_le ta157 Kc160.1
  have ta183 := Nat.lt_of_lt_of_le ta158 Kc160.1
  have za184 : n0 ≤ T160.heap.size := Nat.le_trans za159 Kc160.1
  refine Gq.go (T160.setTop (mkF m 106 #[.val (.int x0), .val (.int x1), .val (.int x2), .val (.int x3), .val (.long x4), .second, .val (.int x5), .val (.int k0), .val (.int k1), .val (.int v29), .val (.int v37), .val (.ref b1), .val (.ref b14), .val (.ref b36), .unset, .unset, .unset] [(.ref b78)])) (fun tt_ kk_ => st160 tt_ kk_) ?_
  refine Gq.go (T160.setTop (mkF m 108 #[.val (.int x0), .val (.int x1), .val (.int x2), .val (.int x3), .val (.long x4), .second, .val (.int x5), .val (.int k0), .val (.int k1), .val (.int v29), .val (.int v37), .val (.ref b1), .val (.ref b14), .val (.ref b36), .val (.ref b78), .unset, .unset] [])) (fun tt_ kk_ => XS.astore X160.here hx rfl (hb hby at_106) rfl rfl (l' := #[.val (.int x0), .val (.int x1), .val (.int x2), .val (.int x3), .val (.long x4), .second, .val (.int x5), .val (.int k0), .val (.int k1), .val (.int v29), .val (.int v37), .val (.ref b1), .val (.ref b14), .val (.ref b36), .val (.ref b78), .unset, .unset]) rfl kk_) ?_
  refine Gq.go (T160.setTop (mkF m 110 #[.val (.int x0), .val (.int x1), .val (.int x2), .val (.int x3), .val (.long x4), .second, .val (.int x5), .val (.int k0), .val (.int k1), .val (.int v29), .val (.int v37), .val (.ref b1), .val (.ref b14), .val (.ref b36), .val (.ref b78), .unset, .unset] [(.ref b78)])) (fun tt_ kk_ => XS.aload X160.here hx rfl (hb hby at_108) rfl rfl kk_) ?_
  refine Gq.go (T160.setTop (mkF m 112 #[.val (.int x0), .val (.int x1), .val (.int x2), .val (.int x3), .val (.long x4), .second, .val (.int x5), .val (.int k0), .val (.int k1), .val (.int v29), .val (.int v37), .val (.ref b1), .val (.ref b14), .val (.ref b36), .val (.ref b78), .unset, .unset] [(.ref b1), (.ref b78)])) (fun tt_ kk_ => XS.aload X160.here hx rfl (hb hby at_110) rfl rfl kk_) ?_
  refine Gq.go (T160.setTop (mkF m 114 #[.val (.int x0), .val (.int x1), .val (.int x2), .val (.int x3), .val (.long x4), .second, .val (.int x5), .val (.int k0), .val (.int k1), .val (.int v29), .val (.int v37), .val (.ref b1), .val (.ref b14), .val (.ref b36), .val (.ref b78), .unset, .unset] [(.ref b14), (.ref b1), (.ref b78)])) (fun tt_ kk_ => XS.aload X160.here hx rfl (hb hby at_112) rfl rfl kk_) ?_
  refine Gq.go (T160.setTop (mkF m 116 #[.val (.int x0), .val (.int x1), .val (.int x2), .val (.int x3), .val (.long x4), .second, .val (.int x5), .val (.int k0), .val (.int k1), .val (.int v29), .val (.int v37), .val (.ref b1), .val (.ref b14), .val (.ref b36), .val (.ref b78), .unset, .unset] [(.ref b36), (.ref b14), (.ref b1), (.ref b78)])) (fun tt_ kk_ => XS.aload X160.here hx rfl (hb hby at_114) rfl rfl kk_) ?_
  obtain ⟨r185, T185, L185, X185, hQ185, st185⟩ := callV (pc := 116) (Ls := #[.val (.int x0), .val (.int x1), .val (.int x2), .val (.int x3), .val (.long x4), .second, .val (.int x5), .val (.int k0), .val (.int k1), .val (.int v29), .val (.int v37), .val (.ref b1), .val (.ref b14), .val (.ref b36), .val (.ref b78), .unset, .unset]) X160 hx hZ hown rfl b78 [(.ref b1), (.ref b14), (.ref b36)] [] fa168 (hw _ (List.mem_of_getElem? (i := 46) rfl)) (hw _ (List.mem_of_getElem? (i := 47) rfl)) (hw _ (List.mem_of_getElem? (i := 49) rfl)) (hw _ (List.mem_of_getElem? (i := 48) rfl)) (hw _ (List.mem_of_getElem? (i := 3) rfl)) (hw _ (List.mem_of_getElem? (i := 50) rfl)) (by decide) (rm6 l Z a0 hw [] b78 b1 b14 b36 x0 x1 k0 k1 v29 v37 x5 T160.heap n0 za184 fa162 fa163 fa165 fa167 hk0 hk1) pd_2 rfl (by rw [hml]; rfl) (W := 0) (Nat.le_of_eq rfl) (by decide) (by decide) (by decide) (by decide) (hb hby at_116)
  obtain ⟨⟨b185, rfl, g_b185, sz185, Vc185⟩, N185q, Kc185⟩ := hQ185
  have N185 := Fr.app N160 N185q
  have fa186 := fa161.keep Kc185 all0
  have fa187 := fa162.keep Kc185
  have fa188 := fa163.keep Kc185 nin0
  have fa189 := fa164.keep Kc185
  have fa190 := fa165.keep Kc185 nin0
  have fa191 := fa166.keep Kc185
  have fa192 := fa167.keep Kc185 nin0
  have fa193 := fa168.keep Kc185
  have fa194 := fa175.keep Kc185 nin0
  have fa195 := fa176.keep Kc185
  have fa196 := fa177.keep Kc185
  have ta197 := Nat.lt_of_lt_of_le ta178 Kc185.1
  have ta198 := Nat.lt_of_lt_of_le ta179 Kc185.1
  have ta199 := Nat.lt_of_lt_of_le ta180 Kc185.1
  have ta200 := Nat.lt_of_lt_of_le ta181 Kc185.1
  have ta201 := Nat.lt_of_lt_of_le ta182 Kc185.1
  have ta202 := Nat.lt_of_lt_of_le ta183 Kc185.1
  have za203 : n0 ≤ T185.heap.size := Nat.le_trans za184 Kc185.1
  refine Gq.go (T185.setTop (mkF m 119 #[.val (.int x0), .val (.int x1), .val (.int x2), .val (.int x3), .val (.long x4), .second, .val (.int x5), .val (.int k0), .val (.int k1), .val (.int v29), .val (.int v37), .val (.ref b1), .val (.ref b14), .val (.ref b36), .val (.ref b78), .unset, .unset] [(.ref b185)])) (fun tt_ kk_ => st185 tt_ kk_) ?_
  refine Gq.go (T185.setTop (mkF m 121 #[.val (.int x0), .val (.int x1), .val (.int x2), .val (.int x3), .val (.long x4), .second, .val (.int x5), .val (.int k0), .val (.int k1), .val (.int v29), .val (.int v37), .val (.ref b1), .val (.ref b14), .val (.ref b36), .val (.ref b78), .val (.ref b185), .unset] [])) (fun tt_ kk_ => XS.astore X185.here hx rfl (hb hby at_119) rfl rfl (l' := #[.val (.int x0), .val (.int x1), .val (.int x2), .val (.int x3), .val (.long x4), .second, .val (.int x5), .val (.int k0), .val (.int k1), .val (.int v29), .val (.int v37), .val (.ref b1), .val (.ref b14), .val (.ref b36), .val (.ref b78), .val (.ref b185), .unset]) rfl kk_) ?_
  refine Gq.go (T185.setTop (mkF m 123 #[.val (.int x0), .val (.int x1), .val (.int x2), .val (.int x3), .val (.long x4), .second, .val (.int x5), .val (.int k0), .val (.int k1), .val (.int v29), .val (.int v37), .val (.ref b1), .val (.ref b14), .val (.ref b36), .val (.ref b78), .val (.ref b185), .unset] [(.ref b185)])) (fun tt_ kk_ => XS.aload X185.here hx rfl (hb hby at_121) rfl rfl kk_) ?_
  refine Gq.go (T185.setTop (mkF m 124 #[.val (.int x0), .val (.int x1), .val (.int x2), .val (.int x3), .val (.long x4), .second, .val (.int x5), .val (.int k0), .val (.int k1), .val (.int v29), .val (.int v37), .val (.ref b1), .val (.ref b14), .val (.ref b36), .val (.ref b78), .val (.ref b185), .unset] [(.int (2 : Int32))])) (fun tt_ kk_ => lenA X185 hx hZ rfl Vc185 (hb hby at_123) tt_ kk_) ?_
  refine Gq.go (T185.setTop (mkF m 125 #[.val (.int x0), .val (.int x1), .val (.int x2), .val (.int x3), .val (.long x4), .second, .val (.int x5), .val (.int k0), .val (.int k1), .val (.int v29), .val (.int v37), .val (.ref b1), .val (.ref b14), .val (.ref b36), .val (.ref b78), .val (.ref b185), .unset] [(.int (2 : Int32)), (.int (2 : Int32))])) (fun tt_ kk_ => XS.iconst X185.here hx rfl (hb hby at_124) kk_) ?_
  refine Gq.go (T185.setTop (mkF m 130 #[.val (.int x0), .val (.int x1), .val (.int x2), .val (.int x3), .val (.long x4), .second, .val (.int x5), .val (.int k0), .val (.int k1), .val (.int v29), .val (.int v37), .val (.ref b1), .val (.ref b14), .val (.ref b36), .val (.ref b78), .val (.ref b185), .unset] [])) (fun tt_ kk_ => XS.icmpYes X185.here hx rfl (pc0 := 125) (pc' := 130) rfl (hb hby at_125) rfl (teq (by decide)).1 (by decide) (by decide) kk_) ?_
  refine Gq.go (T185.setTop (mkF m 132 #[.val (.int x0), .val (.int x1), .val (.int x2), .val (.int x3), .val (.long x4), .second, .val (.int x5), .val (.int k0), .val (.int k1), .val (.int v29), .val (.int v37), .val (.ref b1), .val (.ref b14), .val (.ref b36), .val (.ref b78), .val (.ref b185), .unset] [(.ref b1)])) (fun tt_ kk_ => XS.aload X185.here hx rfl (hb hby at_130) rfl rfl kk_) ?_
  refine Gq.go (T185.setTop (mkF m 133 #[.val (.int x0), .val (.int x1), .val (.int x2), .val (.int x3), .val (.long x4), .second, .val (.int x5), .val (.int k0), .val (.int k1), .val (.int v29), .val (.int v37), .val (.ref b1), .val (.ref b14), .val (.ref b36), .val (.ref b78), .val (.ref b185), .unset] [(.int (0 : Int32)), (.ref b1)])) (fun tt_ kk_ => XS.iconst X185.here hx rfl (hb hby at_132) kk_) ?_
  refine Gq.go (T185.setTop (mkF m 134 #[.val (.int x0), .val (.int x1), .val (.int x2), .val (.int x3), .val (.long x4), .second, .val (.int x5), .val (.int k0), .val (.int k1), .val (.int v29), .val (.int v37), .val (.ref b1), .val (.ref b14), .val (.ref b36), .val (.ref b78), .val (.ref b185), .unset] [(.int x0)])) (fun tt_ kk_ => ldI X185 hx hZ rfl fa188 (j := (0 : Int32)) (i := 0) (x := x0) (by decide) rfl (by decide) rfl (hb hby at_133) tt_ kk_) ?_
  refine Gq.go (T185.setTop (mkF m 135 #[.val (.int x0), .val (.int x1), .val (.int x2), .val (.int x3), .val (.long x4), .second, .val (.int x5), .val (.int k0), .val (.int k1), .val (.int v29), .val (.int v37), .val (.ref b1), .val (.ref b14), .val (.ref b36), .val (.ref b78), .val (.ref b185), .unset] [(.int x0), (.int x0)])) (fun tt_ kk_ => XS.iloadN X185.here hx rfl (hb hby at_134) rfl kk_) ?_
  refine Gq.go (T185.setTop (mkF m 138 #[.val (.int x0), .val (.int x1), .val (.int x2), .val (.int x3), .val (.long x4), .second, .val (.int x5), .val (.int k0), .val (.int k1), .val (.int v29), .val (.int v37), .val (.ref b1), .val (.ref b14), .val (.ref b36), .val (.ref b78), .val (.ref b185), .unset] [])) (fun tt_ kk_ => XS.icmpNo X185.here hx rfl (hb hby at_135) rfl (teq rfl).2 kk_) ?_
  refine Gq.go (T185.setTop (mkF m 140 #[.val (.int x0), .val (.int x1), .val (.int x2), .val (.int x3), .val (.long x4), .second, .val (.int x5), .val (.int k0), .val (.int k1), .val (.int v29), .val (.int v37), .val (.ref b1), .val (.ref b14), .val (.ref b36), .val (.ref b78), .val (.ref b185), .unset] [(.ref b1)])) (fun tt_ kk_ => XS.aload X185.here hx rfl (hb hby at_138) rfl rfl kk_) ?_
  refine Gq.go (T185.setTop (mkF m 141 #[.val (.int x0), .val (.int x1), .val (.int x2), .val (.int x3), .val (.long x4), .second, .val (.int x5), .val (.int k0), .val (.int k1), .val (.int v29), .val (.int v37), .val (.ref b1), .val (.ref b14), .val (.ref b36), .val (.ref b78), .val (.ref b185), .unset] [(.int (1 : Int32)), (.ref b1)])) (fun tt_ kk_ => XS.iconst X185.here hx rfl (hb hby at_140) kk_) ?_
  refine Gq.go (T185.setTop (mkF m 142 #[.val (.int x0), .val (.int x1), .val (.int x2), .val (.int x3), .val (.long x4), .second, .val (.int x5), .val (.int k0), .val (.int k1), .val (.int v29), .val (.int v37), .val (.ref b1), .val (.ref b14), .val (.ref b36), .val (.ref b78), .val (.ref b185), .unset] [(.int x1)])) (fun tt_ kk_ => ldI X185 hx hZ rfl fa188 (j := (1 : Int32)) (i := 1) (x := x1) (by decide) rfl (by decide) rfl (hb hby at_141) tt_ kk_) ?_
  refine Gq.go (T185.setTop (mkF m 143 #[.val (.int x0), .val (.int x1), .val (.int x2), .val (.int x3), .val (.long x4), .second, .val (.int x5), .val (.int k0), .val (.int k1), .val (.int v29), .val (.int v37), .val (.ref b1), .val (.ref b14), .val (.ref b36), .val (.ref b78), .val (.ref b185), .unset] [(.int x1), (.int x1)])) (fun tt_ kk_ => XS.iloadN X185.here hx rfl (hb hby at_142) rfl kk_) ?_
  refine Gq.go (T185.setTop (mkF m 146 #[.val (.int x0), .val (.int x1), .val (.int x2), .val (.int x3), .val (.long x4), .second, .val (.int x5), .val (.int k0), .val (.int k1), .val (.int v29), .val (.int v37), .val (.ref b1), .val (.ref b14), .val (.ref b36), .val (.ref b78), .val (.ref b185), .unset] [])) (fun tt_ kk_ => XS.icmpNo X185.here hx rfl (hb hby at_143) rfl (teq rfl).2 kk_) ?_
  refine Gq.go (T185.setTop (mkF m 148 #[.val (.int x0), .val (.int x1), .val (.int x2), .val (.int x3), .val (.long x4), .second, .val (.int x5), .val (.int k0), .val (.int k1), .val (.int v29), .val (.int v37), .val (.ref b1), .val (.ref b14), .val (.ref b36), .val (.ref b78), .val (.ref b185), .unset] [(.ref b14)])) (fun tt_ kk_ => XS.aload X185.here hx rfl (hb hby at_146) rfl rfl kk_) ?_
  refine Gq.go (T185.setTop (mkF m 149 #[.val (.int x0), .val (.int x1), .val (.int x2), .val (.int x3), .val (.long x4), .second, .val (.int x5), .val (.int k0), .val (.int k1), .val (.int v29), .val (.int v37), .val (.ref b1), .val (.ref b14), .val (.ref b36), .val (.ref b78), .val (.ref b185), .unset] [(.int (0 : Int32)), (.ref b14)])) (fun tt_ kk_ => XS.iconst X185.here hx rfl (hb hby at_148) kk_) ?_
  refine Gq.go (T185.setTop (mkF m 150 #[.val (.int x0), .val (.int x1), .val (.int x2), .val (.int x3), .val (.long x4), .second, .val (.int x5), .val (.int k0), .val (.int k1), .val (.int v29), .val (.int v37), .val (.ref b1), .val (.ref b14), .val (.ref b36), .val (.ref b78), .val (.ref b185), .unset] [(.int k0)])) (fun tt_ kk_ => ldI X185 hx hZ rfl fa190 (j := (0 : Int32)) (i := 0) (x := k0) (by decide) rfl (by decide) rfl (hb hby at_149) tt_ kk_) ?_
  refine Gq.go (T185.setTop (mkF m 152 #[.val (.int x0), .val (.int x1), .val (.int x2), .val (.int x3), .val (.long x4), .second, .val (.int x5), .val (.int k0), .val (.int k1), .val (.int v29), .val (.int v37), .val (.ref b1), .val (.ref b14), .val (.ref b36), .val (.ref b78), .val (.ref b185), .unset] [(.int k0), (.int k0)])) (fun tt_ kk_ => XS.iload X185.here hx rfl (hb hby at_150) rfl kk_) ?_
  refine Gq.go (T185.setTop (mkF m 155 #[.val (.int x0), .val (.int x1), .val (.int x2), .val (.int x3), .val (.long x4), .second, .val (.int x5), .val (.int k0), .val (.int k1), .val (.int v29), .val (.int v37), .val (.ref b1), .val (.ref b14), .val (.ref b36), .val (.ref b78), .val (.ref b185), .unset] [])) (fun tt_ kk_ => XS.icmpNo X185.here hx rfl (hb hby at_152) rfl (teq rfl).2 kk_) ?_
  refine Gq.go (T185.setTop (mkF m 157 #[.val (.int x0), .val (.int x1), .val (.int x2), .val (.int x3), .val (.long x4), .second, .val (.int x5), .val (.int k0), .val (.int k1), .val (.int v29), .val (.int v37), .val (.ref b1), .val (.ref b14), .val (.ref b36), .val (.ref b78), .val (.ref b185), .unset] [(.ref b14)])) (fun tt_ kk_ => XS.aload X185.here hx rfl (hb hby at_155) rfl rfl kk_) ?_
  refine Gq.go (T185.setTop (mkF m 158 #[.val (.int x0), .val (.int x1), .val (.int x2), .val (.int x3), .val (.long x4), .second, .val (.int x5), .val (.int k0), .val (.int k1), .val (.int v29), .val (.int v37), .val (.ref b1), .val (.ref b14), .val (.ref b36), .val (.ref b78), .val (.ref b185), .unset] [(.int (1 : Int32)), (.ref b14)])) (fun tt_ kk_ => XS.iconst X185.here hx rfl (hb hby at_157) kk_) ?_
  refine Gq.go (T185.setTop (mkF m 159 #[.val (.int x0), .val (.int x1), .val (.int x2), .val (.int x3), .val (.long x4), .second, .val (.int x5), .val (.int k0), .val (.int k1), .val (.int v29), .val (.int v37), .val (.ref b1), .val (.ref b14), .val (.ref b36), .val (.ref b78), .val (.ref b185), .unset] [(.int k1)])) (fun tt_ kk_ => ldI X185 hx hZ rfl fa190 (j := (1 : Int32)) (i := 1) (x := k1) (by decide) rfl (by decide) rfl (hb hby at_158) tt_ kk_) ?_
  refine Gq.go (T185.setTop (mkF m 161 #[.val (.int x0), .val (.int x1), .val (.int x2), .val (.int x3), .val (.long x4), .second, .val (.int x5), .val (.int k0), .val (.int k1), .val (.int v29), .val (.int v37), .val (.ref b1), .val (.ref b14), .val (.ref b36), .val (.ref b78), .val (.ref b185), .unset] [(.int k1), (.int k1)])) (fun tt_ kk_ => XS.iload X185.here hx rfl (hb hby at_159) rfl kk_) ?_
  refine Gq.go (T185.setTop (mkF m 164 #[.val (.int x0), .val (.int x1), .val (.int x2), .val (.int x3), .val (.long x4), .second, .val (.int x5), .val (.int k0), .val (.int k1), .val (.int v29), .val (.int v37), .val (.ref b1), .val (.ref b14), .val (.ref b36), .val (.ref b78), .val (.ref b185), .unset] [])) (fun tt_ kk_ => XS.icmpNo X185.here hx rfl (hb hby at_161) rfl (teq rfl).2 kk_) ?_
  refine Gq.go (T185.setTop (mkF m 166 #[.val (.int x0), .val (.int x1), .val (.int x2), .val (.int x3), .val (.long x4), .second, .val (.int x5), .val (.int k0), .val (.int k1), .val (.int v29), .val (.int v37), .val (.ref b1), .val (.ref b14), .val (.ref b36), .val (.ref b78), .val (.ref b185), .unset] [(.ref b36)])) (fun tt_ kk_ => XS.aload X185.here hx rfl (hb hby at_164) rfl rfl kk_) ?_
  refine Gq.go (T185.setTop (mkF m 167 #[.val (.int x0), .val (.int x1), .val (.int x2), .val (.int x3), .val (.long x4), .second, .val (.int x5), .val (.int k0), .val (.int k1), .val (.int v29), .val (.int v37), .val (.ref b1), .val (.ref b14), .val (.ref b36), .val (.ref b78), .val (.ref b185), .unset] [(.int (0 : Int32)), (.ref b36)])) (fun tt_ kk_ => XS.iconst X185.here hx rfl (hb hby at_166) kk_) ?_
  refine Gq.go (T185.setTop (mkF m 168 #[.val (.int x0), .val (.int x1), .val (.int x2), .val (.int x3), .val (.long x4), .second, .val (.int x5), .val (.int k0), .val (.int k1), .val (.int v29), .val (.int v37), .val (.ref b1), .val (.ref b14), .val (.ref b36), .val (.ref b78), .val (.ref b185), .unset] [(.int v29)])) (fun tt_ kk_ => ldI X185 hx hZ rfl fa192 (j := (0 : Int32)) (i := 0) (x := v29) (by decide) rfl (by decide) rfl (hb hby at_167) tt_ kk_) ?_
  refine Gq.go (T185.setTop (mkF m 170 #[.val (.int x0), .val (.int x1), .val (.int x2), .val (.int x3), .val (.long x4), .second, .val (.int x5), .val (.int k0), .val (.int k1), .val (.int v29), .val (.int v37), .val (.ref b1), .val (.ref b14), .val (.ref b36), .val (.ref b78), .val (.ref b185), .unset] [(.int v29), (.int v29)])) (fun tt_ kk_ => XS.iload X185.here hx rfl (hb hby at_168) rfl kk_) ?_
  refine Gq.go (T185.setTop (mkF m 173 #[.val (.int x0), .val (.int x1), .val (.int x2), .val (.int x3), .val (.long x4), .second, .val (.int x5), .val (.int k0), .val (.int k1), .val (.int v29), .val (.int v37), .val (.ref b1), .val (.ref b14), .val (.ref b36), .val (.ref b78), .val (.ref b185), .unset] [])) (fun tt_ kk_ => XS.icmpNo X185.here hx rfl (hb hby at_170) rfl (teq rfl).2 kk_) ?_
  refine Gq.go (T185.setTop (mkF m 175 #[.val (.int x0), .val (.int x1), .val (.int x2), .val (.int x3), .val (.long x4), .second, .val (.int x5), .val (.int k0), .val (.int k1), .val (.int v29), .val (.int v37), .val (.ref b1), .val (.ref b14), .val (.ref b36), .val (.ref b78), .val (.ref b185), .unset] [(.ref b36)])) (fun tt_ kk_ => XS.aload X185.here hx rfl (hb hby at_173) rfl rfl kk_) ?_
  refine Gq.go (T185.setTop (mkF m 176 #[.val (.int x0), .val (.int x1), .val (.int x2), .val (.int x3), .val (.long x4), .second, .val (.int x5), .val (.int k0), .val (.int k1), .val (.int v29), .val (.int v37), .val (.ref b1), .val (.ref b14), .val (.ref b36), .val (.ref b78), .val (.ref b185), .unset] [(.int (1 : Int32)), (.ref b36)])) (fun tt_ kk_ => XS.iconst X185.here hx rfl (hb hby at_175) kk_) ?_
  refine Gq.go (T185.setTop (mkF m 177 #[.val (.int x0), .val (.int x1), .val (.int x2), .val (.int x3), .val (.long x4), .second, .val (.int x5), .val (.int k0), .val (.int k1), .val (.int v29), .val (.int v37), .val (.ref b1), .val (.ref b14), .val (.ref b36), .val (.ref b78), .val (.ref b185), .unset] [(.int v37)])) (fun tt_ kk_ => ldI X185 hx hZ rfl fa192 (j := (1 : Int32)) (i := 1) (x := v37) (by decide) rfl (by decide) rfl (hb hby at_176) tt_ kk_) ?_
  refine Gq.go (T185.setTop (mkF m 179 #[.val (.int x0), .val (.int x1), .val (.int x2), .val (.int x3), .val (.long x4), .second, .val (.int x5), .val (.int k0), .val (.int k1), .val (.int v29), .val (.int v37), .val (.ref b1), .val (.ref b14), .val (.ref b36), .val (.ref b78), .val (.ref b185), .unset] [(.int v37), (.int v37)])) (fun tt_ kk_ => XS.iload X185.here hx rfl (hb hby at_177) rfl kk_) ?_
  refine Gq.go (T185.setTop (mkF m 182 #[.val (.int x0), .val (.int x1), .val (.int x2), .val (.int x3), .val (.long x4), .second, .val (.int x5), .val (.int k0), .val (.int k1), .val (.int v29), .val (.int v37), .val (.ref b1), .val (.ref b14), .val (.ref b36), .val (.ref b78), .val (.ref b185), .unset] [])) (fun tt_ kk_ => XS.icmpNo X185.here hx rfl (hb hby at_179) rfl (teq rfl).2 kk_) ?_
  refine Gq.go (T185.setTop (mkF m 184 #[.val (.int x0), .val (.int x1), .val (.int x2), .val (.int x3), .val (.long x4), .second, .val (.int x5), .val (.int k0), .val (.int k1), .val (.int v29), .val (.int v37), .val (.ref b1), .val (.ref b14), .val (.ref b36), .val (.ref b78), .val (.ref b185), .unset] [(.ref b36)])) (fun tt_ kk_ => XS.aload X185.here hx rfl (hb hby at_182) rfl rfl kk_) ?_
  refine Gq.go (T185.setTop (mkF m 185 #[.val (.int x0), .val (.int x1), .val (.int x2), .val (.int x3), .val (.long x4), .second, .val (.int x5), .val (.int k0), .val (.int k1), .val (.int v29), .val (.int v37), .val (.ref b1), .val (.ref b14), .val (.ref b36), .val (.ref b78), .val (.ref b185), .unset] [(.int (2 : Int32)), (.ref b36)])) (fun tt_ kk_ => XS.iconst X185.here hx rfl (hb hby at_184) kk_) ?_
  refine Gq.go (T185.setTop (mkF m 186 #[.val (.int x0), .val (.int x1), .val (.int x2), .val (.int x3), .val (.long x4), .second, .val (.int x5), .val (.int k0), .val (.int k1), .val (.int v29), .val (.int v37), .val (.ref b1), .val (.ref b14), .val (.ref b36), .val (.ref b78), .val (.ref b185), .unset] [(.int x5)])) (fun tt_ kk_ => ldI X185 hx hZ rfl fa192 (j := (2 : Int32)) (i := 2) (x := x5) (by decide) rfl (by decide) rfl (hb hby at_185) tt_ kk_) ?_
  refine Gq.go (T185.setTop (mkF m 188 #[.val (.int x0), .val (.int x1), .val (.int x2), .val (.int x3), .val (.long x4), .second, .val (.int x5), .val (.int k0), .val (.int k1), .val (.int v29), .val (.int v37), .val (.ref b1), .val (.ref b14), .val (.ref b36), .val (.ref b78), .val (.ref b185), .unset] [(.int x5), (.int x5)])) (fun tt_ kk_ => XS.iload X185.here hx rfl (hb hby at_186) rfl kk_) ?_
  refine Gq.go (T185.setTop (mkF m 191 #[.val (.int x0), .val (.int x1), .val (.int x2), .val (.int x3), .val (.long x4), .second, .val (.int x5), .val (.int k0), .val (.int k1), .val (.int v29), .val (.int v37), .val (.ref b1), .val (.ref b14), .val (.ref b36), .val (.ref b78), .val (.ref b185), .unset] [])) (fun tt_ kk_ => XS.icmpNo X185.here hx rfl (hb hby at_188) rfl (teq rfl).2 kk_) ?_
  refine Gq.go (T185.setTop (mkF m 192 #[.val (.int x0), .val (.int x1), .val (.int x2), .val (.int x3), .val (.long x4), .second, .val (.int x5), .val (.int k0), .val (.int k1), .val (.int v29), .val (.int v37), .val (.ref b1), .val (.ref b14), .val (.ref b36), .val (.ref b78), .val (.ref b185), .unset] [(.int (1 : Int32))])) (fun tt_ kk_ => XS.iconst X185.here hx rfl (hb hby at_191) kk_) ?_
  refine Gq.go (T185.setTop (mkF m 196 #[.val (.int x0), .val (.int x1), .val (.int x2), .val (.int x3), .val (.long x4), .second, .val (.int x5), .val (.int k0), .val (.int k1), .val (.int v29), .val (.int v37), .val (.ref b1), .val (.ref b14), .val (.ref b36), .val (.ref b78), .val (.ref b185), .unset] [(.int (1 : Int32))])) (fun tt_ kk_ => XS.goto X185.here hx rfl (pc0 := 192) (pc' := 196) rfl (hb hby at_192) (by decide) (by decide) kk_) ?_
  refine Gq.go (T185.setTop (mkF m 198 #[.val (.int x0), .val (.int x1), .val (.int x2), .val (.int x3), .val (.long x4), .second, .val (.int x5), .val (.int k0), .val (.int k1), .val (.int v29), .val (.int v37), .val (.ref b1), .val (.ref b14), .val (.ref b36), .val (.ref b78), .val (.ref b185), .val (.int (1 : Int32))] [])) (fun tt_ kk_ => XS.istore X185.here hx rfl (hb hby at_196) rfl (l' := #[.val (.int x0), .val (.int x1), .val (.int x2), .val (.int x3), .val (.long x4), .second, .val (.int x5), .val (.int k0), .val (.int k1), .val (.int v29), .val (.int v37), .val (.ref b1), .val (.ref b14), .val (.ref b36), .val (.ref b78), .val (.ref b185), .val (.int (1 : Int32))]) rfl kk_) ?_
  refine Gq.go (T185.setTop (mkF m 200 #[.val (.int x0), .val (.int x1), .val (.int x2), .val (.int x3), .val (.long x4), .second, .val (.int x5), .val (.int k0), .val (.int k1), .val (.int v29), .val (.int v37), .val (.ref b1), .val (.ref b14), .val (.ref b36), .val (.ref b78), .val (.ref b185), .val (.int (1 : Int32))] [(.int (1 : Int32))])) (fun tt_ kk_ => XS.iload X185.here hx rfl (hb hby at_198) rfl kk_) ?_
  refine Gq.go (T185.setTop (mkF m 203 #[.val (.int x0), .val (.int x1), .val (.int x2), .val (.int x3), .val (.long x4), .second, .val (.int x5), .val (.int k0), .val (.int k1), .val (.int v29), .val (.int v37), .val (.ref b1), .val (.ref b14), .val (.ref b36), .val (.ref b78), .val (.ref b185), .val (.int (1 : Int32))] [])) (fun tt_ kk_ => XS.ifNo X185.here hx rfl (hb hby at_200) rfl ((if0 _ _).trans (feq (by decide : ¬ ((1 : Int32) = (0 : Int32)))).1) kk_) ?_
  refine Gq.go (T185.setTop (mkF m 205 #[.val (.int x0), .val (.int x1), .val (.int x2), .val (.int x3), .val (.long x4), .second, .val (.int x5), .val (.int k0), .val (.int k1), .val (.int v29), .val (.int v37), .val (.ref b1), .val (.ref b14), .val (.ref b36), .val (.ref b78), .val (.ref b185), .val (.int (1 : Int32))] [(.ref b185)])) (fun tt_ kk_ => XS.aload X185.here hx rfl (hb hby at_203) rfl rfl kk_) ?_
  refine Gq.go (T185.setTop (mkF m 206 #[.val (.int x0), .val (.int x1), .val (.int x2), .val (.int x3), .val (.long x4), .second, .val (.int x5), .val (.int k0), .val (.int k1), .val (.int v29), .val (.int v37), .val (.ref b1), .val (.ref b14), .val (.ref b36), .val (.ref b78), .val (.ref b185), .val (.int (1 : Int32))] [(.int (0 : Int32)), (.ref b185)])) (fun tt_ kk_ => XS.iconst X185.here hx rfl (hb hby at_205) kk_) ?_
  refine Gq.go (T185.setTop (mkF m 207 #[.val (.int x0), .val (.int x1), .val (.int x2), .val (.int x3), .val (.long x4), .second, .val (.int x5), .val (.int k0), .val (.int k1), .val (.int v29), .val (.int v37), .val (.ref b1), .val (.ref b14), .val (.ref b36), .val (.ref b78), .val (.ref b185), .val (.int (1 : Int32))] [(.int (own_pick k0 x0 v29 v37 x5))])) (fun tt_ kk_ => ldI X185 hx hZ rfl Vc185 (j := (0 : Int32)) (i := 0) (x := (own_pick k0 x0 v29 v37 x5)) (by decide) rfl (by decide) rfl (hb hby at_206) tt_ kk_) ?_
  refine Gq.go (T185.setTop (mkF m 209 #[.val (.int x0), .val (.int x1), .val (.int x2), .val (.int x3), .val (.long x4), .second, .val (.int x5), .val (.int k0), .val (.int k1), .val (.int v29), .val (.int v37), .val (.ref b1), .val (.ref b14), .val (.ref b36), .val (.ref b78), .val (.ref b185), .val (.int (1 : Int32))] [(.int k0), (.int (own_pick k0 x0 v29 v37 x5))])) (fun tt_ kk_ => XS.iload X185.here hx rfl (hb hby at_207) rfl kk_) ?_
  refine Gq.go (T185.setTop (mkF m 210 #[.val (.int x0), .val (.int x1), .val (.int x2), .val (.int x3), .val (.long x4), .second, .val (.int x5), .val (.int k0), .val (.int k1), .val (.int v29), .val (.int v37), .val (.ref b1), .val (.ref b14), .val (.ref b36), .val (.ref b78), .val (.ref b185), .val (.int (1 : Int32))] [(.int x0), (.int k0), (.int (own_pick k0 x0 v29 v37 x5))])) (fun tt_ kk_ => XS.iloadN X185.here hx rfl (hb hby at_209) rfl kk_) ?_
  refine Gq.go (T185.setTop (mkF m 212 #[.val (.int x0), .val (.int x1), .val (.int x2), .val (.int x3), .val (.long x4), .second, .val (.int x5), .val (.int k0), .val (.int k1), .val (.int v29), .val (.int v37), .val (.ref b1), .val (.ref b14), .val (.ref b36), .val (.ref b78), .val (.ref b185), .val (.int (1 : Int32))] [(.int v29), (.int x0), (.int k0), (.int (own_pick k0 x0 v29 v37 x5))])) (fun tt_ kk_ => XS.iload X185.here hx rfl (hb hby at_210) rfl kk_) ?_
  refine Gq.go (T185.setTop (mkF m 214 #[.val (.int x0), .val (.int x1), .val (.int x2), .val (.int x3), .val (.long x4), .second, .val (.int x5), .val (.int k0), .val (.int k1), .val (.int v29), .val (.int v37), .val (.ref b1), .val (.ref b14), .val (.ref b36), .val (.ref b78), .val (.ref b185), .val (.int (1 : Int32))] [(.int v37), (.int v29), (.int x0), (.int k0), (.int (own_pick k0 x0 v29 v37 x5))])) (fun tt_ kk_ => XS.iload X185.here hx rfl (hb hby at_212) rfl kk_) ?_
  refine Gq.go (T185.setTop (mkF m 216 #[.val (.int x0), .val (.int x1), .val (.int x2), .val (.int x3), .val (.long x4), .second, .val (.int x5), .val (.int k0), .val (.int k1), .val (.int v29), .val (.int v37), .val (.ref b1), .val (.ref b14), .val (.ref b36), .val (.ref b78), .val (.ref b185), .val (.int (1 : Int32))] [(.int x5), (.int v37), (.int v29), (.int x0), (.int k0), (.int (own_pick k0 x0 v29 v37 x5))])) (fun tt_ kk_ => XS.iload X185.here hx rfl (hb hby at_214) rfl kk_) ?_
  obtain ⟨r204, T204, L204, X204, hQ204, st204⟩ := callT (pc := 216) (Ls := #[.val (.int x0), .val (.int x1), .val (.int x2), .val (.int x3), .val (.long x4), .second, .val (.int x5), .val (.int k0), .val (.int k1), .val (.int v29), .val (.int v37), .val (.ref b1), .val (.ref b14), .val (.ref b36), .val (.ref b78), .val (.ref b185), .val (.int (1 : Int32))]) X185 hx hZ hown rfl [(.int k0), (.int x0), (.int v29), (.int v37), (.int x5)] [(.int (own_pick k0 x0 v29 v37 x5))] (hw _ (List.mem_of_getElem? (i := 60) rfl)) (hw _ (List.mem_of_getElem? (i := 61) rfl)) (hw _ (List.mem_of_getElem? (i := 62) rfl)) (hw _ (List.mem_of_getElem? (i := 63) rfl)) (by decide) (rm_own_pick l Z a0 hw [] k0 x0 v29 v37 x5 T185.heap n0 za203) pd_3 rfl (by rw [hml]; rfl) (W := 1) (Nat.le_of_eq rfl) (by decide) (by decide) (by decide) (by decide) (hb hby at_216)
  obtain ⟨rfl, N204q, eh204⟩ := hQ204
  have N204 := Fr.app N185 N204q
  refine Gq.go (T204.setTop (mkF m 219 #[.val (.int x0), .val (.int x1), .val (.int x2), .val (.int x3), .val (.long x4), .second, .val (.int x5), .val (.int k0), .val (.int k1), .val (.int v29), .val (.int v37), .val (.ref b1), .val (.ref b14), .val (.ref b36), .val (.ref b78), .val (.ref b185), .val (.int (1 : Int32))] [(.int (own_pick k0 x0 v29 v37 x5)), (.int (own_pick k0 x0 v29 v37 x5))])) (fun tt_ kk_ => st204 tt_ kk_) ?_
  refine Gq.go (T204.setTop (mkF m 222 #[.val (.int x0), .val (.int x1), .val (.int x2), .val (.int x3), .val (.long x4), .second, .val (.int x5), .val (.int k0), .val (.int k1), .val (.int v29), .val (.int v37), .val (.ref b1), .val (.ref b14), .val (.ref b36), .val (.ref b78), .val (.ref b185), .val (.int (1 : Int32))] [])) (fun tt_ kk_ => XS.icmpNo X204.here hx rfl (hb hby at_219) rfl (teq rfl).2 kk_) ?_
  refine Gq.go (T204.setTop (mkF m 224 #[.val (.int x0), .val (.int x1), .val (.int x2), .val (.int x3), .val (.long x4), .second, .val (.int x5), .val (.int k0), .val (.int k1), .val (.int v29), .val (.int v37), .val (.ref b1), .val (.ref b14), .val (.ref b36), .val (.ref b78), .val (.ref b185), .val (.int (1 : Int32))] [(.ref b185)])) (fun tt_ kk_ => XS.aload X204.here hx rfl (hb hby at_222) rfl rfl kk_) ?_
  refine Gq.go (T204.setTop (mkF m 225 #[.val (.int x0), .val (.int x1), .val (.int x2), .val (.int x3), .val (.long x4), .second, .val (.int x5), .val (.int k0), .val (.int k1), .val (.int v29), .val (.int v37), .val (.ref b1), .val (.ref b14), .val (.ref b36), .val (.ref b78), .val (.ref b185), .val (.int (1 : Int32))] [(.int (1 : Int32)), (.ref b185)])) (fun tt_ kk_ => XS.iconst X204.here hx rfl (hb hby at_224) kk_) ?_
  refine Gq.go (T204.setTop (mkF m 226 #[.val (.int x0), .val (.int x1), .val (.int x2), .val (.int x3), .val (.long x4), .second, .val (.int x5), .val (.int k0), .val (.int k1), .val (.int v29), .val (.int v37), .val (.ref b1), .val (.ref b14), .val (.ref b36), .val (.ref b78), .val (.ref b185), .val (.int (1 : Int32))] [(.int (own_pick k1 x1 v29 v37 x5))])) (fun tt_ kk_ => ldI X204 hx hZ eh204 Vc185 (j := (1 : Int32)) (i := 1) (x := (own_pick k1 x1 v29 v37 x5)) (by decide) rfl (by decide) rfl (hb hby at_225) tt_ kk_) ?_
  refine Gq.go (T204.setTop (mkF m 228 #[.val (.int x0), .val (.int x1), .val (.int x2), .val (.int x3), .val (.long x4), .second, .val (.int x5), .val (.int k0), .val (.int k1), .val (.int v29), .val (.int v37), .val (.ref b1), .val (.ref b14), .val (.ref b36), .val (.ref b78), .val (.ref b185), .val (.int (1 : Int32))] [(.int k1), (.int (own_pick k1 x1 v29 v37 x5))])) (fun tt_ kk_ => XS.iload X204.here hx rfl (hb hby at_226) rfl kk_) ?_
  refine Gq.go (T204.setTop (mkF m 229 #[.val (.int x0), .val (.int x1), .val (.int x2), .val (.int x3), .val (.long x4), .second, .val (.int x5), .val (.int k0), .val (.int k1), .val (.int v29), .val (.int v37), .val (.ref b1), .val (.ref b14), .val (.ref b36), .val (.ref b78), .val (.ref b185), .val (.int (1 : Int32))] [(.int x1), (.int k1), (.int (own_pick k1 x1 v29 v37 x5))])) (fun tt_ kk_ => XS.iloadN X204.here hx rfl (hb hby at_228) rfl kk_) ?_
  refine Gq.go (T204.setTop (mkF m 231 #[.val (.int x0), .val (.int x1), .val (.int x2), .val (.int x3), .val (.long x4), .second, .val (.int x5), .val (.int k0), .val (.int k1), .val (.int v29), .val (.int v37), .val (.ref b1), .val (.ref b14), .val (.ref b36), .val (.ref b78), .val (.ref b185), .val (.int (1 : Int32))] [(.int v29), (.int x1), (.int k1), (.int (own_pick k1 x1 v29 v37 x5))])) (fun tt_ kk_ => XS.iload X204.here hx rfl (hb hby at_229) rfl kk_) ?_
  refine Gq.go (T204.setTop (mkF m 233 #[.val (.int x0), .val (.int x1), .val (.int x2), .val (.int x3), .val (.long x4), .second, .val (.int x5), .val (.int k0), .val (.int k1), .val (.int v29), .val (.int v37), .val (.ref b1), .val (.ref b14), .val (.ref b36), .val (.ref b78), .val (.ref b185), .val (.int (1 : Int32))] [(.int v37), (.int v29), (.int x1), (.int k1), (.int (own_pick k1 x1 v29 v37 x5))])) (fun tt_ kk_ => XS.iload X204.here hx rfl (hb hby at_231) rfl kk_) ?_
  refine Gq.go (T204.setTop (mkF m 235 #[.val (.int x0), .val (.int x1), .val (.int x2), .val (.int x3), .val (.long x4), .second, .val (.int x5), .val (.int k0), .val (.int k1), .val (.int v29), .val (.int v37), .val (.ref b1), .val (.ref b14), .val (.ref b36), .val (.ref b78), .val (.ref b185), .val (.int (1 : Int32))] [(.int x5), (.int v37), (.int v29), (.int x1), (.int k1), (.int (own_pick k1 x1 v29 v37 x5))])) (fun tt_ kk_ => XS.iload X204.here hx rfl (hb hby at_233) rfl kk_) ?_
  obtain ⟨r205, T205, L205, X205, hQ205, st205⟩ := callT (pc := 235) (Ls := #[.val (.int x0), .val (.int x1), .val (.int x2), .val (.int x3), .val (.long x4), .second, .val (.int x5), .val (.int k0), .val (.int k1), .val (.int v29), .val (.int v37), .val (.ref b1), .val (.ref b14), .val (.ref b36), .val (.ref b78), .val (.ref b185), .val (.int (1 : Int32))]) X204 hx hZ hown eh204 [(.int k1), (.int x1), (.int v29), (.int v37), (.int x5)] [(.int (own_pick k1 x1 v29 v37 x5))] (hw _ (List.mem_of_getElem? (i := 60) rfl)) (hw _ (List.mem_of_getElem? (i := 61) rfl)) (hw _ (List.mem_of_getElem? (i := 62) rfl)) (hw _ (List.mem_of_getElem? (i := 63) rfl)) (by decide) (rm_own_pick l Z a0 hw [] k1 x1 v29 v37 x5 T185.heap n0 za203) pd_3 rfl (by rw [hml]; rfl) (W := 1) (Nat.le_of_eq rfl) (by decide) (by decide) (by decide) (by decide) (hb hby at_235)
  obtain ⟨rfl, N205q, eh205⟩ := hQ205
  have N205 := Fr.app N204 N205q
  refine Gq.go (T205.setTop (mkF m 238 #[.val (.int x0), .val (.int x1), .val (.int x2), .val (.int x3), .val (.long x4), .second, .val (.int x5), .val (.int k0), .val (.int k1), .val (.int v29), .val (.int v37), .val (.ref b1), .val (.ref b14), .val (.ref b36), .val (.ref b78), .val (.ref b185), .val (.int (1 : Int32))] [(.int (own_pick k1 x1 v29 v37 x5)), (.int (own_pick k1 x1 v29 v37 x5))])) (fun tt_ kk_ => st205 tt_ kk_) ?_
  refine Gq.go (T205.setTop (mkF m 241 #[.val (.int x0), .val (.int x1), .val (.int x2), .val (.int x3), .val (.long x4), .second, .val (.int x5), .val (.int k0), .val (.int k1), .val (.int v29), .val (.int v37), .val (.ref b1), .val (.ref b14), .val (.ref b36), .val (.ref b78), .val (.ref b185), .val (.int (1 : Int32))] [])) (fun tt_ kk_ => XS.icmpNo X205.here hx rfl (hb hby at_238) rfl (teq rfl).2 kk_) ?_
  refine Gq.go (T205.setTop (mkF m 242 #[.val (.int x0), .val (.int x1), .val (.int x2), .val (.int x3), .val (.long x4), .second, .val (.int x5), .val (.int k0), .val (.int k1), .val (.int v29), .val (.int v37), .val (.ref b1), .val (.ref b14), .val (.ref b36), .val (.ref b78), .val (.ref b185), .val (.int (1 : Int32))] [(.int (1 : Int32))])) (fun tt_ kk_ => XS.iconst X205.here hx rfl (hb hby at_241) kk_) ?_
  refine Gq.go (T205.setTop (mkF m 246 #[.val (.int x0), .val (.int x1), .val (.int x2), .val (.int x3), .val (.long x4), .second, .val (.int x5), .val (.int k0), .val (.int k1), .val (.int v29), .val (.int v37), .val (.ref b1), .val (.ref b14), .val (.ref b36), .val (.ref b78), .val (.ref b185), .val (.int (1 : Int32))] [(.int (1 : Int32))])) (fun tt_ kk_ => XS.goto X205.here hx rfl (pc0 := 242) (pc' := 246) rfl (hb hby at_242) (by decide) (by decide) kk_) ?_
  refine Gq.retI X205 hx Bd.notSynchronized Bd.returns (by simp) (hb hby at_246) rfl (by decide) (by decide) ?_
  show Q0 Z x0 x1 x2 x3 x4 x5 d0 h0 n0 _ T205.heap _
  rw [eh205]
  exact ⟨rfl, N205⟩
set_option maxRecDepth 65536 in
set_option maxHeartbeats 40000000 in
theorem comes_1 {Post : Tables → Env → Array Value → State → Outcome → State → Prop} (hpost : ∀ tb e args s v u, (limb_1_1.after args s (.returned v) u = true ∧ limb_1_2.after args s (.returned v) u = true ∧ True) → FrameEnd s (.returned v) u (Jvm.fieldLocs frame_1_writes args s ++ Jvm.arrayLocs frame_1_arrays args s ++ Jvm.staticLocs frame_1_statics s) 32 128 → Post tb e args s (.returned v) u) :
    ArmFor flags0 classFile x code maxLocals ret World_1 tables_1 room_1 Calls_1 rest_1 Pre_1 Post := by
  intro l hfl _ _ p e ha hc hk s m args below hf hA hF happ hP
  obtain ⟨hcalls, hrest, hpre⟩ := hP
  obtain ⟨-, -, -, hnamed, -, -, -, hat⟩ := (Spec.applies_iff hf).mp happ
  obtain ⟨hg, hn⟩ := and_e (Cond.before_iff.mp (show (Jvm.Cond.and given_1 narrow_1).before args s = true from hpre))
  obtain ⟨g1, g2⟩ := and_e hg
  obtain ⟨g3, g4⟩ := and_e g2
  obtain ⟨g5, g6⟩ := and_e g4
  obtain ⟨g7, g8⟩ := and_e g6
  obtain ⟨g9, g10⟩ := and_e g8
  obtain ⟨g11, g12⟩ := and_e g10
  obtain ⟨w0, w1, w2, w3, w4, w5, rfl⟩ : ∃ w0 w1 w2 w3 w4 w5 : Value, args = #[w0, w1, w2, w3, w4, w5] := by
    have hs : args.size = 6 := by simpa [Cond.value, given_1] using g1
    obtain ⟨L⟩ := args
    match L, hs with
    | [w0, w1, w2, w3, w4, w5], _ => exact ⟨w0, w1, w2, w3, w4, w5, rfl⟩
  have hw := fun d (hd : d ∈ tables_1) => atoms_spec (ws := Jvm.Cond.code x code maxLocals ret :: tables_1) hat d (List.mem_cons_of_mem _ hd)
  obtain ⟨i0, ei0⟩ := is_v g3
  obtain rfl : w0 = (.int i0) := Option.some.inj ei0
  obtain ⟨i1, ei1⟩ := is_v g5
  obtain rfl : w1 = (.int i1) := Option.some.inj ei1
  obtain ⟨i2, ei2⟩ := is_v g7
  obtain rfl : w2 = (.int i2) := Option.some.inj ei2
  obtain ⟨i3, ei3⟩ := is_v g9
  obtain rfl : w3 = (.int i3) := Option.some.inj ei3
  obtain ⟨i4, ei4⟩ := isL_v g11
  obtain rfl : w4 = (.long i4) := Option.some.inj ei4
  obtain ⟨i5, ei5⟩ := is_v g12
  obtain rfl : w5 = (.int i5) := Option.some.inj ei5
  obtain ⟨hsets, hown0⟩ := atoms_of _ (rest_1_c_eq ▸ (show rest_1_c.before _ s = true from hrest))
  obtain ⟨d0, ed0⟩ := arr_v (Cond.before_iff.mp (hsets _ (List.mem_of_getElem? (i := 6) rfl)))
  have Sd := Sta.start ed0 (Or.inr ⟨(hw _ (List.mem_of_getElem? (i := 6) rfl)), hsets _ (List.mem_of_getElem? (i := 2) rfl)⟩)
  obtain ⟨n, o, h1, h2, h3, _, L, rfl, ⟨rfl, N⟩, hq⟩ := rm0 l s _ hw tables_1 i0 i1 i2 i3 i4 i5 d0 s.heap s.heap.size (Nat.le_refl _) (Old.start s) Sd p e ha hc hk s m _ below hf ((Spec.applies_iff_loose hf).mp happ).1 ⟨rfl, State.Warmed39.refl s, rfl⟩ trivial
  refine ⟨n, _, h1, h2, h3, hpost _ _ _ _ _ _ ⟨Cond.after_iff.mpr rfl, Cond.after_iff.mpr (eq_i res_at (Term.int_eval (1)) rfl), trivial⟩ ⟨hq.1, hq.2.1, (hq.2.2.sift fun y hy => Or.inr (N y hy)).mono (by decide) (by decide)⟩⟩
theorem main_1_1 : Claimed_1_1 := comes_1 fun _ _ _ _ _ _ h hF => ⟨h.1, hF⟩
theorem main_1_2 : Claimed_1_2 := comes_1 fun _ _ _ _ _ _ h hF => ⟨h.2.1, hF⟩
end Jvm.Pilot.@@N@@
namespace Jvm.Pilot.@@N@@
open Jvm Jvm.ClassFile Sem Op Lib Jvm.Free Jvm.Stand Jvm.Pilot.@@N@@.Jvm.D
/-! MADE BY PROGRAM (witnessworld.py) out of the Statement's table words and the real class files: 18 classes; the members and pool entries that the words name. The judged class is class 1, her method 1. -/
namespace start1
open Jvm.ClassFile
def u (s : String) : CpInfo := .utf8 (stringToUtf16 s)
/-- a pool by its gaps: so many unusable entries, then the entry; so many at the end -/
def gap : Nat → List CpInfo → List CpInfo
  | 0, r => r
  | n + 1, r => .unusable :: gap n r
def poolList (es : List (Nat × CpInfo)) (last : Nat) : List CpInfo := es.foldr (fun e r => gap e.1 (e.2 :: r)) (gap last [])
def pool (es : List (Nat × CpInfo)) (last : Nat) : Array CpInfo := ⟨poolList es last⟩
def fileOf (pool : Array CpInfo) (this : Nat) (attrs : Array Attribute := #[]) (ms : Array MethodInfo := #[]) (fl : Nat := 33) (sup : Nat := 0) (ifs : Array Nat := #[]) (fds : Array FieldInfo := #[]) : ClassFile where
  minorVersion := 0
  majorVersion := 65
  constantPool := pool
  accessFlags := fl
  thisClass := this
  superClass := sup
  interfaces := ifs
  fields := fds
  methods := ms
  attributes := attrs
def plain (name : String) (sup : Option ClassId) : Class where
  name := name
  kind := .ordinary
  loader := none
  accessFlags := 33
  super := sup
  interfaces := #[]
  cf := none
  fields := #[]
  methods := #[]
  instanceTypes := #[]
  staticTypes := #[]
  resolved := #[]
  callSites := []
  init := .initialized
  statics := none
  mirror := none

def pool0 : Array CpInfo := pool [(5, u "<init>"), (0, u "()V"), (1, .class_ 10), (1, u "java/lang/Object"), (85, u "clone"), (0, u "()Ljava/lang/Object;")] 26

def k0c0 : Code := { maxStack := 0, maxLocals := 1, code := object_method_1_code, exceptionTable := #[], attributes := #[] }
def k0m0 : Method := { name := "<init>", desc := "()V", sig := { parameters := [], returnType := none }, accessFlags := 1, code := some k0c0 }
def k0m1 : Method := { name := "clone", desc := "()Ljava/lang/Object;", sig := { parameters := [], returnType := some (.object "java/lang/Object") }, accessFlags := 260, code := none }
/-- java/lang/Object -/
def k0 : Class := { plain "java/lang/Object" none with
  accessFlags := 33
  interfaces := #[]
  cf := some (fileOf pool0 8 #[] #[{ accessFlags := 1, nameIndex := 5, descriptorIndex := 6, attributes := #[] }, { accessFlags := 260, nameIndex := 96, descriptorIndex := 97, attributes := #[] }] 33 0 #[] #[])
  fields := #[]
  methods := #[k0m0, k0m1]
  instanceTypes := #[]
  staticTypes := #[]
  resolved := Array.replicate 124 none
  statics := none }

def pool1 : Array CpInfo := pool [(2, .class_ 4), (0, .nameAndType 5 6), (0, u "java/lang/Object"), (0, u "<init>"), (0, u "()V"), (0, .class_ 8), (0, u "com/example/arbor2/arbor2/analysis/Tracks"), (0, .class_ 10), (0, u "java/util/ArrayList"), (0, .methodref 9 3), (0, .methodref 7 13), (0, .nameAndType 5 14), (0, u "([ILjava/util/List;IZ)V"), (0, .methodref 7 16), (0, .nameAndType 17 18), (0, u "advance"), (0, u "([I[I[I)[I"), (0, .methodref 20 21), (0, .class_ 22), (0, .nameAndType 23 24), (0, u "com/example/arbor2/arbor2/analysis/TracksAdvancePinLaw"), (0, u "pick"), (0, u "(IIIII)I"), (2, u "law"), (0, u "(IIIIJI)Z")] 5

def k1m0 : Method := { name := "<init>", desc := "()V", sig := { parameters := [], returnType := none }, accessFlags := 1, code := none }
def k1c1 : Code := { maxStack := 6, maxLocals := 17, code := code, exceptionTable := #[], attributes := #[] }
def k1m1 : Method := { name := "law", desc := "(IIIIJI)Z", sig := { parameters := [.int, .int, .int, .int, .long, .int], returnType := some .boolean }, accessFlags := 9, code := some k1c1 }
def k1c2 : Code := { maxStack := 2, maxLocals := 5, code := method_3_code, exceptionTable := #[], attributes := #[] }
def k1m2 : Method := { name := "pick", desc := "(IIIII)I", sig := { parameters := [.int, .int, .int, .int, .int], returnType := some .int }, accessFlags := 10, code := some k1c2 }
/-- com/example/arbor2/arbor2/analysis/TracksAdvancePinLaw -/
def k1 : Class := { plain "com/example/arbor2/arbor2/analysis/TracksAdvancePinLaw" (some 0) with
  accessFlags := 49
  interfaces := #[]
  cf := some (fileOf pool1 20 #[] #[{ accessFlags := 1, nameIndex := 5, descriptorIndex := 6, attributes := #[] }, { accessFlags := 9, nameIndex := 27, descriptorIndex := 28, attributes := #[] }, { accessFlags := 10, nameIndex := 23, descriptorIndex := 24, attributes := #[] }] 49 2 #[] #[])
  fields := #[]
  methods := #[k1m0, k1m1, k1m2]
  instanceTypes := #[]
  staticTypes := #[]
  resolved := Array.replicate 34 none
  statics := none }

def pool2 : Array CpInfo := pool [(1, .methodref 2 3), (0, .class_ 4), (0, .nameAndType 5 6), (0, u "java/lang/Object"), (0, u "<init>"), (0, u "()V"), (0, .fieldref 8 9), (0, .class_ 10), (0, .nameAndType 11 12), (0, u "com/example/arbor2/arbor2/analysis/Tracks"), (0, u "selections"), (0, u "[I"), (0, .fieldref 8 14), (0, .nameAndType 15 12), (0, u "firstSlots"), (6, .class_ 12), (0, .fieldref 8 24), (0, .nameAndType 25 12), (0, u "slotTracks"), (0, .fieldref 8 27), (0, .nameAndType 28 12), (0, u "begins"), (12, .fieldref 8 42), (0, .nameAndType 43 44), (0, u "sink"), (0, u "I"), (0, .fieldref 8 46), (0, .nameAndType 47 48), (0, u "sharesPairs"), (0, u "Z"), (0, .methodref 22 50), (0, .nameAndType 51 52), (0, u "clone"), (0, u "()Ljava/lang/Object;"), (128, u "([ILjava/util/List;IZ)V"), (2, u "NONE"), (0, u "Lcom/example/arbor2/arbor2/analysis/Tracks;"), (0, u "GUESSED"), (2, u "NOT_BEGUN"), (14, u "advance"), (0, u "([I[I[I)[I")] 40

def k2c0 : Code := { maxStack := 6, maxLocals := 6, code := prog_46_method_1_code, exceptionTable := #[], attributes := #[] }
def k2m0 : Method := { name := "<init>", desc := "([ILjava/util/List;IZ)V", sig := { parameters := [(.array .int), (.object "java/util/List"), .int, .boolean], returnType := none }, accessFlags := 0, code := some k2c0 }
def k2c1 : Code := { maxStack := 5, maxLocals := 6, code := prog_46_method_7_code, exceptionTable := #[], attributes := #[] }
def k2m1 : Method := { name := "advance", desc := "([I[I[I)[I", sig := { parameters := [(.array .int), (.array .int), (.array .int)], returnType := some (.array .int) }, accessFlags := 0, code := some k2c1 }
/-- com/example/arbor2/arbor2/analysis/Tracks -/
def k2 : Class := { plain "com/example/arbor2/arbor2/analysis/Tracks" (some 0) with
  accessFlags := 32
  interfaces := #[]
  cf := some (fileOf pool2 8 #[] #[{ accessFlags := 0, nameIndex := 5, descriptorIndex := 181, attributes := #[] }, { accessFlags := 0, nameIndex := 204, descriptorIndex := 205, attributes := #[] }] 32 2 #[] #[{ accessFlags := 24, nameIndex := 186, descriptorIndex := 44, attributes := #[] }, { accessFlags := 24, nameIndex := 189, descriptorIndex := 44, attributes := #[] }, { accessFlags := 24, nameIndex := 184, descriptorIndex := 185, attributes := #[] }, { accessFlags := 18, nameIndex := 11, descriptorIndex := 12, attributes := #[] }, { accessFlags := 18, nameIndex := 15, descriptorIndex := 12, attributes := #[] }, { accessFlags := 18, nameIndex := 25, descriptorIndex := 12, attributes := #[] }, { accessFlags := 18, nameIndex := 28, descriptorIndex := 12, attributes := #[] }, { accessFlags := 18, nameIndex := 43, descriptorIndex := 44, attributes := #[] }, { accessFlags := 18, nameIndex := 47, descriptorIndex := 48, attributes := #[] }])
  fields := #[{ name := "GUESSED", type := .int, accessFlags := 24, slot := 0, constantValue := 0 }, { name := "NOT_BEGUN", type := .int, accessFlags := 24, slot := 1, constantValue := 0 }, { name := "NONE", type := (.object "com/example/arbor2/arbor2/analysis/Tracks"), accessFlags := 24, slot := 2, constantValue := 0 }, { name := "selections", type := (.array .int), accessFlags := 18, slot := 0, constantValue := 0 }, { name := "firstSlots", type := (.array .int), accessFlags := 18, slot := 1, constantValue := 0 }, { name := "slotTracks", type := (.array .int), accessFlags := 18, slot := 2, constantValue := 0 }, { name := "begins", type := (.array .int), accessFlags := 18, slot := 3, constantValue := 0 }, { name := "sink", type := .int, accessFlags := 18, slot := 4, constantValue := 0 }, { name := "sharesPairs", type := .boolean, accessFlags := 18, slot := 5, constantValue := 0 }]
  methods := #[k2m0, k2m1]
  instanceTypes := #[(.array .int), (.array .int), (.array .int), (.array .int), .int, .boolean]
  staticTypes := #[.int, .int, (.object "com/example/arbor2/arbor2/analysis/Tracks")]
  resolved := Array.replicate 246 none
  statics := none }

def pool3 : Array CpInfo := pool [(8, .class_ 10), (1, u "java/lang/Iterable"), (24, .class_ 36), (0, u "java/lang/Object")] 25

/-- java/lang/Iterable -/
def k3 : Class := { plain "java/lang/Iterable" (some 0) with
  accessFlags := 1537
  interfaces := #[]
  cf := some (fileOf pool3 8 #[] #[] 1537 35 #[] #[])
  fields := #[]
  methods := #[]
  instanceTypes := #[]
  staticTypes := #[]
  resolved := Array.replicate 62 none
  statics := none }

def pool4 : Array CpInfo := pool [(10, .class_ 12), (1, u "java/util/Collection"), (47, .class_ 61), (0, u "java/lang/Object"), (0, .class_ 63), (0, u "java/lang/Iterable")] 51

/-- java/util/Collection -/
def k4 : Class := { plain "java/util/Collection" (some 0) with
  accessFlags := 1537
  interfaces := #[3]
  cf := some (fileOf pool4 10 #[] #[] 1537 60 #[62] #[])
  fields := #[]
  methods := #[]
  instanceTypes := #[]
  staticTypes := #[]
  resolved := Array.replicate 115 none
  statics := none }

def pool5 : Array CpInfo := pool [(1, .methodref 2 3), (0, .class_ 4), (0, .nameAndType 5 6), (0, u "java/lang/Object"), (0, u "<init>"), (0, u "()V"), (1, .class_ 10), (1, u "java/util/AbstractCollection"), (66, .class_ 78), (0, u "java/util/Collection")] 81

def k5c0 : Code := { maxStack := 1, maxLocals := 1, code := jdk_22_method_1_code, exceptionTable := #[], attributes := #[] }
def k5m0 : Method := { name := "<init>", desc := "()V", sig := { parameters := [], returnType := none }, accessFlags := 4, code := some k5c0 }
/-- java/util/AbstractCollection -/
def k5 : Class := { plain "java/util/AbstractCollection" (some 0) with
  accessFlags := 1057
  interfaces := #[4]
  cf := some (fileOf pool5 8 #[] #[{ accessFlags := 4, nameIndex := 5, descriptorIndex := 6, attributes := #[] }] 1057 2 #[77] #[])
  fields := #[]
  methods := #[k5m0]
  instanceTypes := #[]
  staticTypes := #[]
  resolved := Array.replicate 160 none
  statics := none }

def pool6 : Array CpInfo := pool [(8, .class_ 10), (1, u "java/util/SequencedCollection"), (15, .class_ 27), (0, u "java/lang/Object"), (0, .class_ 29), (0, u "java/util/Collection")] 27

/-- java/util/SequencedCollection -/
def k6 : Class := { plain "java/util/SequencedCollection" (some 0) with
  accessFlags := 1537
  interfaces := #[4]
  cf := some (fileOf pool6 8 #[] #[] 1537 26 #[28] #[])
  fields := #[]
  methods := #[]
  instanceTypes := #[]
  staticTypes := #[]
  resolved := Array.replicate 57 none
  statics := none }

def pool7 : Array CpInfo := pool [(8, .class_ 10), (1, u "java/util/List"), (92, .class_ 104), (0, u "java/lang/Object"), (15, .class_ 121), (0, u "java/util/SequencedCollection")] 129

/-- java/util/List -/
def k7 : Class := { plain "java/util/List" (some 0) with
  accessFlags := 1537
  interfaces := #[6]
  cf := some (fileOf pool7 8 #[] #[] 1537 103 #[120] #[])
  fields := #[]
  methods := #[]
  instanceTypes := #[]
  staticTypes := #[]
  resolved := Array.replicate 251 none
  statics := none }

def pool8 : Array CpInfo := pool [(1, .methodref 2 3), (0, .class_ 4), (0, .nameAndType 5 6), (0, u "java/util/AbstractCollection"), (0, u "<init>"), (0, u "()V"), (0, .fieldref 8 9), (0, .class_ 10), (0, .nameAndType 11 12), (0, u "java/util/AbstractList"), (0, u "modCount"), (0, u "I"), (64, .class_ 78), (0, u "java/util/AbstractList$Itr"), (3, .class_ 83), (0, u "java/util/AbstractList$ListItr"), (9, .class_ 94), (0, u "java/util/AbstractList$RandomAccessSubList"), (3, .class_ 99), (0, u "java/util/AbstractList$SubList"), (33, .class_ 134), (0, u "java/util/List"), (73, .class_ 209), (0, u "java/util/AbstractList$SubList$1"), (0, .class_ 211), (0, u "java/util/AbstractList$RandomAccessSpliterator")] 6

def k8c0 : Code := { maxStack := 2, maxLocals := 1, code := jdk_39_method_1_code, exceptionTable := #[], attributes := #[] }
def k8m0 : Method := { name := "<init>", desc := "()V", sig := { parameters := [], returnType := none }, accessFlags := 4, code := some k8c0 }
/-- java/util/AbstractList -/
def k8 : Class := { plain "java/util/AbstractList" (some 5) with
  accessFlags := 1057
  interfaces := #[7]
  cf := some (fileOf pool8 8 #[.nestMembers #[93, 98, 208, 210, 82, 77]] #[{ accessFlags := 4, nameIndex := 5, descriptorIndex := 6, attributes := #[] }] 1057 2 #[133] #[{ accessFlags := 132, nameIndex := 11, descriptorIndex := 12, attributes := #[] }])
  fields := #[{ name := "modCount", type := .int, accessFlags := 132, slot := 0, constantValue := 0 }]
  methods := #[k8m0]
  instanceTypes := #[.int]
  staticTypes := #[]
  resolved := Array.replicate 218 none
  statics := none }

def pool9 : Array CpInfo := pool [(1, .class_ 2), (0, u "java/util/RandomAccess"), (0, .class_ 4), (0, u "java/lang/Object")] 2

/-- java/util/RandomAccess -/
def k9 : Class := { plain "java/util/RandomAccess" (some 0) with
  accessFlags := 1537
  interfaces := #[]
  cf := some (fileOf pool9 1 #[] #[] 1537 3 #[] #[])
  fields := #[]
  methods := #[]
  instanceTypes := #[]
  staticTypes := #[]
  resolved := Array.replicate 7 none
  statics := none }

def pool10 : Array CpInfo := pool [(1, .class_ 2), (0, u "java/lang/Cloneable"), (0, .class_ 4), (0, u "java/lang/Object")] 2

/-- java/lang/Cloneable -/
def k10 : Class := { plain "java/lang/Cloneable" (some 0) with
  accessFlags := 1537
  interfaces := #[]
  cf := some (fileOf pool10 1 #[] #[] 1537 3 #[] #[])
  fields := #[]
  methods := #[]
  instanceTypes := #[]
  staticTypes := #[]
  resolved := Array.replicate 7 none
  statics := none }

def pool11 : Array CpInfo := pool [(1, .class_ 2), (0, u "java/io/Serializable"), (0, .class_ 4), (0, u "java/lang/Object")] 2

/-- java/io/Serializable -/
def k11 : Class := { plain "java/io/Serializable" (some 0) with
  accessFlags := 1537
  interfaces := #[]
  cf := some (fileOf pool11 1 #[] #[] 1537 3 #[] #[])
  fields := #[]
  methods := #[]
  instanceTypes := #[]
  staticTypes := #[]
  resolved := Array.replicate 7 none
  statics := none }

def pool12 : Array CpInfo := pool [(1, .methodref 2 3), (0, .class_ 4), (0, .nameAndType 5 6), (0, u "java/util/AbstractList"), (0, u "<init>"), (0, u "()V"), (2, .fieldref 10 11), (0, .class_ 12), (0, .nameAndType 13 14), (0, u "java/util/ArrayList"), (0, u "elementData"), (0, u "[Ljava/lang/Object;"), (2, u "EMPTY_ELEMENTDATA"), (21, .fieldref 10 40), (0, .nameAndType 41 14), (0, u "DEFAULTCAPACITY_EMPTY_ELEMENTDATA"), (8, u "size"), (0, u "I"), (96, .class_ 149), (0, u "java/util/List"), (112, .class_ 263), (0, u "java/util/ArrayList$ListItr"), (3, .class_ 268), (0, u "java/util/ArrayList$Itr"), (7, .class_ 277), (0, u "java/util/ArrayList$SubList"), (12, .class_ 291), (0, u "java/util/ArrayList$ArrayListSpliterator"), (37, .class_ 330), (0, u "java/util/RandomAccess"), (0, .class_ 332), (0, u "java/lang/Cloneable"), (0, .class_ 334), (0, u "java/io/Serializable"), (0, u "serialVersionUID"), (0, u "J"), (3, u "DEFAULT_CAPACITY"), (159, .class_ 501), (0, u "java/util/ArrayList$SubList$2"), (0, .class_ 503), (0, u "java/util/ArrayList$SubList$1")] 5

def k12c0 : Code := { maxStack := 2, maxLocals := 1, code := jdk_38_method_2_code, exceptionTable := #[], attributes := #[] }
def k12m0 : Method := { name := "<init>", desc := "()V", sig := { parameters := [], returnType := none }, accessFlags := 1, code := some k12c0 }
/-- java/util/ArrayList -/
def k12 : Class := { plain "java/util/ArrayList" (some 8) with
  accessFlags := 33
  interfaces := #[7, 9, 10, 11]
  cf := some (fileOf pool12 10 #[.nestMembers #[290, 276, 500, 502, 262, 267]] #[{ accessFlags := 1, nameIndex := 5, descriptorIndex := 6, attributes := #[] }] 33 2 #[148, 329, 331, 333] #[{ accessFlags := 26, nameIndex := 335, descriptorIndex := 336, attributes := #[] }, { accessFlags := 26, nameIndex := 340, descriptorIndex := 51, attributes := #[] }, { accessFlags := 26, nameIndex := 17, descriptorIndex := 14, attributes := #[] }, { accessFlags := 26, nameIndex := 41, descriptorIndex := 14, attributes := #[] }, { accessFlags := 128, nameIndex := 13, descriptorIndex := 14, attributes := #[] }, { accessFlags := 2, nameIndex := 50, descriptorIndex := 51, attributes := #[] }])
  fields := #[{ name := "serialVersionUID", type := .long, accessFlags := 26, slot := 0, constantValue := 0 }, { name := "DEFAULT_CAPACITY", type := .int, accessFlags := 26, slot := 1, constantValue := 0 }, { name := "EMPTY_ELEMENTDATA", type := (.array (.object "java/lang/Object")), accessFlags := 26, slot := 2, constantValue := 0 }, { name := "DEFAULTCAPACITY_EMPTY_ELEMENTDATA", type := (.array (.object "java/lang/Object")), accessFlags := 26, slot := 3, constantValue := 0 }, { name := "elementData", type := (.array (.object "java/lang/Object")), accessFlags := 128, slot := 1, constantValue := 0 }, { name := "size", type := .int, accessFlags := 2, slot := 2, constantValue := 0 }]
  methods := #[k12m0]
  instanceTypes := #[.int, (.array (.object "java/lang/Object")), .int]
  staticTypes := #[.long, .int, (.array (.object "java/lang/Object")), (.array (.object "java/lang/Object"))]
  resolved := Array.replicate 509 none
  statics := some 0 }

/-- the primitive byte -/
def k13 : Class := { plain "byte" none with kind := .primitive 'B', accessFlags := 0x411 }
/-- [B -/
def k14 : Class := { plain "[B" (some 0) with kind := .array 13 .byte, interfaces := #[10, 11], accessFlags := 1041 }

/-- the primitive int -/
def k15 : Class := { plain "int" none with kind := .primitive 'I', accessFlags := 0x411 }
/-- [I -/
def k16 : Class := { plain "[I" (some 0) with kind := .array 15 .int, interfaces := #[10, 11], accessFlags := 1041 }

/-- [Ljava/lang/Object; -/
def k17 : Class := { plain "[Ljava/lang/Object;" (some 0) with kind := .array 0 (.object "java/lang/Object"), interfaces := #[10, 11], accessFlags := 1041 }

def heap : Heap := #[{ cls := 12, slots := #[.long 0, .int 0, .ref 1, .ref 2], vm := .statics 12 },
  { cls := 17, slots := #[], vm := .none },
  { cls := 17, slots := #[], vm := .none }]
def classes : Array Class := #[k0, k1, k2, k3, k4, k5, k6, k7, k8, k9, k10, k11, k12, k13, k14, k15, k16, k17]
def interned : List (Array UInt16 × Addr) := []
def slotsUsed : Nat := 4
def theMethod : MethodId := ⟨1, 1⟩
def args0 : Array Value := #[.int 1, .int 2, .int 3, .int 4, .long 5, .int 6]
def aboutOver (below : List Frame) : State where
  vm := { classes := classes, interned := interned.toArray }
  heap := heap
  slotsUsed := slotsUsed
  threads := #[{ frames := .invoking theMethod args0 :: below }]
def below0 : List Frame := [.native { method := ⟨0, 0⟩, args := #[] }]
def about1 : State := aboutOver below0
def p0 : Program := .bare "" "" ""
def e0 : Env := launch0.env 0 0 0
theorem w_frames : about1.frames = Frame.invoking theMethod args0 :: below0 := rfl
set_option maxRecDepth 65536 in
theorem w_args : argsFit about1.vm theMethod args0 = true := by decide +kernel
set_option maxRecDepth 65536 in
theorem w_heap : heapFits about1 = true := by decide +kernel
set_option maxRecDepth 65536 in
theorem w_runnable : about1.curStatus? = some .runnable := by decide +kernel
set_option maxRecDepth 65536 in
theorem w_alone : about1.alone = true := by decide +kernel
set_option maxRecDepth 65536 in
theorem w_named : about1.methodNamed? x = some theMethod := by decide +kernel
set_option maxRecDepth 65536 in
theorem w_hears : about1.hears theMethod below0 = true := by decide +kernel
set_option maxRecDepth 65536 in
theorem w_ripe : about1.ripe theMethod args0 below0 = true := by decide +kernel
theorem w_running : about1.status = .running := rfl
set_option maxRecDepth 65536 in
theorem w_room : about1.hasRoom e0.platform room_1 = true :=
  launch0.hasRoom_least _ room_1 (by decide +kernel) (by decide +kernel) (by decide +kernel) (by decide +kernel) (by decide +kernel) (by decide +kernel)
theorem allAtoms_all (ts : List Jvm.Cond) (a : Array Jvm.Value) (st : Jvm.State) : (allAtoms ts).before a st = ts.all (fun c => c.before a st) := by
  induction ts with
  | nil => rfl
  | cons c t ih =>
    show (Jvm.Cond.and c (allAtoms t)).before a st = _
    rw [Jvm.Cond.before_and, ih, List.all_cons]
def words1 : List Jvm.Cond := Jvm.Cond.code x code maxLocals ret :: tables_1
/-- a 'code' word, met by the world's own term for the bytes: nothing is compared byte by byte -/
theorem code_word {y : MethodName} {bytes : ByteArray} {mx : Nat} {rt : Option FieldType} {a : Array Value} {s : State} {m : MethodId} {meth : Method} {c : Code} (h1 : s.methodNamed? y = some m) (h2 : s.vm.method? m = some meth) (h3 : meth.code = some c) (h4 : c.code = bytes)
    (h5 : (c.maxLocals == mx && c.exceptionTable.isEmpty && decide (c.maxStack ≤ mostOperands) && decide (meth.sig.returnType = rt) && !meth.locks && decide (parseMethodDescriptor y.desc = some meth.sig)) = true) : (Jvm.Cond.code y bytes mx rt).before a s = true := by
  simp only [Bool.and_eq_true, beq_iff_eq, Bool.not_eq_true', decide_eq_true_eq] at h5
  obtain ⟨⟨⟨⟨⟨g1, g2⟩, g3⟩, g4⟩, g5⟩, g6⟩ := h5
  simp [Cond.before, Cond.holds, Cond.value, h1, h2, h3, h4, g1, g2, g3, g4, g5, g6]
def isCode : Jvm.Cond → Bool
  | .code _ _ _ _ => true
  | _ => false
theorem all_split {L : List Jvm.Cond} {P : Jvm.Cond → Bool} (h1 : L.all (fun c => isCode c || P c) = true) (h2 : ∀ c ∈ L.filter isCode, P c = true) : L.all P = true := by
  refine List.all_eq_true.mpr fun c hc => ?_
  have h := List.all_eq_true.mp h1 c hc
  rcases Bool.eq_false_or_eq_true (isCode c) with hi | hi
  · exact h2 c (List.mem_filter.mpr ⟨hc, hi⟩)
  · simpa [hi] using h
set_option maxRecDepth 65536 in
theorem w_c0 : (Jvm.Cond.code x code maxLocals ret).before args0 about1 = true := code_word (m := ⟨1, 1⟩) (meth := k1m1) (c := k1c1) (by decide +kernel) rfl rfl rfl (by decide +kernel)
set_option maxRecDepth 65536 in
theorem w_c1 : (Jvm.Cond.code ({ cls := "java/util/ArrayList", name := "<init>", desc := "()V" } : Jvm.MethodName) jdk_38_method_2_code (1 : Nat) (Option.none : Option Jvm.ClassFile.FieldType)).before args0 about1 = true := code_word (m := ⟨12, 0⟩) (meth := k12m0) (c := k12c0) (by decide +kernel) rfl rfl rfl (by decide +kernel)
set_option maxRecDepth 65536 in
theorem w_c2 : (Jvm.Cond.code ({ cls := "java/util/AbstractList", name := "<init>", desc := "()V" } : Jvm.MethodName) jdk_39_method_1_code (1 : Nat) (Option.none : Option Jvm.ClassFile.FieldType)).before args0 about1 = true := code_word (m := ⟨8, 0⟩) (meth := k8m0) (c := k8c0) (by decide +kernel) rfl rfl rfl (by decide +kernel)
set_option maxRecDepth 65536 in
theorem w_c3 : (Jvm.Cond.code ({ cls := "java/util/AbstractCollection", name := "<init>", desc := "()V" } : Jvm.MethodName) jdk_22_method_1_code (1 : Nat) (Option.none : Option Jvm.ClassFile.FieldType)).before args0 about1 = true := code_word (m := ⟨5, 0⟩) (meth := k5m0) (c := k5c0) (by decide +kernel) rfl rfl rfl (by decide +kernel)
set_option maxRecDepth 65536 in
theorem w_c4 : (Jvm.Cond.code ({ cls := "java/lang/Object", name := "<init>", desc := "()V" } : Jvm.MethodName) object_method_1_code (1 : Nat) (Option.none : Option Jvm.ClassFile.FieldType)).before args0 about1 = true := code_word (m := ⟨0, 0⟩) (meth := k0m0) (c := k0c0) (by decide +kernel) rfl rfl rfl (by decide +kernel)
set_option maxRecDepth 65536 in
theorem w_c5 : (Jvm.Cond.code ({ cls := "com/example/arbor2/arbor2/analysis/Tracks", name := "<init>", desc := "([ILjava/util/List;IZ)V" } : Jvm.MethodName) prog_46_method_1_code (6 : Nat) (Option.none : Option Jvm.ClassFile.FieldType)).before args0 about1 = true := code_word (m := ⟨2, 0⟩) (meth := k2m0) (c := k2c0) (by decide +kernel) rfl rfl rfl (by decide +kernel)
set_option maxRecDepth 65536 in
theorem w_c6 : (Jvm.Cond.code ({ cls := "com/example/arbor2/arbor2/analysis/Tracks", name := "advance", desc := "([I[I[I)[I" } : Jvm.MethodName) prog_46_method_7_code (6 : Nat) (Option.some (Jvm.ClassFile.FieldType.array Jvm.ClassFile.FieldType.int))).before args0 about1 = true := code_word (m := ⟨2, 1⟩) (meth := k2m1) (c := k2c1) (by decide +kernel) rfl rfl rfl (by decide +kernel)
set_option maxRecDepth 65536 in
theorem w_c7 : (Jvm.Cond.code ({ cls := "com/example/arbor2/arbor2/analysis/TracksAdvancePinLaw", name := "pick", desc := "(IIIII)I" } : Jvm.MethodName) method_3_code (5 : Nat) (Option.some Jvm.ClassFile.FieldType.int)).before args0 about1 = true := code_word (m := ⟨1, 2⟩) (meth := k1m2) (c := k1c2) (by decide +kernel) rfl rfl rfl (by decide +kernel)
def codes1 : List Jvm.Cond := [Jvm.Cond.code x code maxLocals ret, Jvm.Cond.code ({ cls := "java/util/ArrayList", name := "<init>", desc := "()V" } : Jvm.MethodName) jdk_38_method_2_code (1 : Nat) (Option.none : Option Jvm.ClassFile.FieldType), Jvm.Cond.code ({ cls := "java/util/AbstractList", name := "<init>", desc := "()V" } : Jvm.MethodName) jdk_39_method_1_code (1 : Nat) (Option.none : Option Jvm.ClassFile.FieldType), Jvm.Cond.code ({ cls := "java/util/AbstractCollection", name := "<init>", desc := "()V" } : Jvm.MethodName) jdk_22_method_1_code (1 : Nat) (Option.none : Option Jvm.ClassFile.FieldType), Jvm.Cond.code ({ cls := "java/lang/Object", name := "<init>", desc := "()V" } : Jvm.MethodName) object_method_1_code (1 : Nat) (Option.none : Option Jvm.ClassFile.FieldType), Jvm.Cond.code ({ cls := "com/example/arbor2/arbor2/analysis/Tracks", name := "<init>", desc := "([ILjava/util/List;IZ)V" } : Jvm.MethodName) prog_46_method_1_code (6 : Nat) (Option.none : Option Jvm.ClassFile.FieldType), Jvm.Cond.code ({ cls := "com/example/arbor2/arbor2/analysis/Tracks", name := "advance", desc := "([I[I[I)[I" } : Jvm.MethodName) prog_46_method_7_code (6 : Nat) (Option.some (Jvm.ClassFile.FieldType.array Jvm.ClassFile.FieldType.int)), Jvm.Cond.code ({ cls := "com/example/arbor2/arbor2/analysis/TracksAdvancePinLaw", name := "pick", desc := "(IIIII)I" } : Jvm.MethodName) method_3_code (5 : Nat) (Option.some Jvm.ClassFile.FieldType.int)]
set_option maxRecDepth 65536 in
theorem codes_eq : words1.filter isCode = codes1 := rfl
theorem w_codes : ∀ c ∈ words1.filter isCode, c.before args0 about1 = true := by
  rw [codes_eq]
  intro c hc
  simp only [codes1, List.mem_cons, List.not_mem_nil, or_false] at hc
  rcases hc with rfl | rfl | rfl | rfl | rfl | rfl | rfl | rfl
  · exact w_c0
  · exact w_c1
  · exact w_c2
  · exact w_c3
  · exact w_c4
  · exact w_c5
  · exact w_c6
  · exact w_c7
set_option maxRecDepth 65536 in
theorem w_t1 : (words1.take 24).all (fun c => isCode c || c.before args0 about1) = true := by decide +kernel
set_option maxRecDepth 65536 in
theorem w_t2 : ((words1.drop 24).take 24).all (fun c => isCode c || c.before args0 about1) = true := by decide +kernel
set_option maxRecDepth 65536 in
theorem w_t3 : ((words1.drop 24).drop 24).all (fun c => isCode c || c.before args0 about1) = true := by decide +kernel
theorem w_tables : (allAtoms (Jvm.Cond.code x code maxLocals ret :: tables_1)).before args0 about1 = true := by
  rw [allAtoms_all]
  show words1.all (fun c => c.before args0 about1) = true
  refine all_split ?_ w_codes
  rw [← List.take_append_drop 24 words1, List.all_append, w_t1, ← List.take_append_drop 24 (words1.drop 24), List.all_append, w_t2, w_t3]
  rfl
set_option maxRecDepth 65536 in
theorem w_rest : rest_1_c.before args0 about1 = true := by decide +kernel
set_option maxRecDepth 65536 in
theorem w_case : (Jvm.Cond.and given_1 narrow_1).before args0 about1 = true := by decide +kernel
theorem w_applies : (headSpec (Jvm.Cond.code x code maxLocals ret :: tables_1) room_1).applies x e0.platform about1 = true :=
  (Spec.applies_iff w_frames).mpr ⟨w_running, w_runnable, w_alone, w_named, w_hears, w_ripe, w_room, w_tables⟩
theorem atStart : AtStart classFile x code maxLocals ret World_1 tables_1 room_1 Calls_1 rest_1 Pre_1 launch0 p0 e0 about1 theMethod args0 below0 :=
  ⟨lists_1, trivial, launch0.admits_env _ _ _, launch0.least_env, fairChoices_fair.cas, fairChoices_fair.clock, w_frames, w_args, w_heap, w_applies, trivial, w_rest, w_case⟩
end start1
theorem witness_1 : WitnessClaimed_1 := ⟨start1.p0, start1.e0, start1.about1, start1.theMethod, start1.args0, start1.below0, start1.atStart⟩
end Jvm.Pilot.@@N@@
