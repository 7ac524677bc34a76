import JvmDerived
import JvmDerived.Pilot.@@N@@Statement
import JvmDerived.Pilot.@@N@@Code
set_option linter.unusedVariables false
set_option linter.unusedSimpArgs false
namespace Jvm.Pilot.@@N@@
open Jvm Jvm.ClassFile Sem Op Lib Jvm.Free Jvm.Stand Jvm.LawKit Jvm.RoadKit Bundle Jvm.Pilot.@@N@@.Jvm.D
-- own kit: the walk's goal, the ends of a walk, arrays as functions of the place, calls by contract
section OwnKit
variable {p : Program} {l : Launch} {e : Env} {R : Room} {s : State} {m : MethodId} {args : Array Value} {below : List Frame} {meth : Method} {c : Code} {T : State} {locs : List Loc} {cells slots : Nat} {Z : State} {a0 : Array Value} {h h' : Heap} {kc ks : Nat} {Q : Option Value → Heap → List Loc → Prop} {tb : Tables} {B : State}
def Gq (tb : Tables) (e : Env) (below : List Frame) (s : State) (Q : Option Value → Heap → List Loc → Prop) (kc ks : Nat) (A : State) : Prop :=
  ∃ t o, Steps tb e below A t ∧ t.status = .running ∧ Ended t below o ∧ ∃ v L, o = .returned v ∧ Q v t.heap L ∧ FrameEnd s o t L kc ks
theorem Gq.go (A : State) (k : ∀ t, Steps tb e below A t → Steps tb e below B t) (g : Gq tb e below s Q kc ks A) : Gq tb e below s Q kc ks B := by
  obtain ⟨t, o, h1, h2⟩ := g
  exact ⟨t, o, k t h1, h2⟩
theorem Gq.start {T : State} {g g' : JFrame} (q : g = g') (k : Gq tb e below s Q kc ks (T.setTop g')) : Gq tb e below s Q kc ks (T.setTop g) := q ▸ k
theorem Gq.fin {A : State} (X : Stand p l e R s m args below meth c T locs cells slots) (hlocks : meth.locks = false) {v : Option Value} (hv : meth.sig.returnType = none → v = none)
    (st : ∀ fs, (∀ (f : JFrame) (acts : List Action), f.method = m → f.locked = none → f.entered = [] → (doReturn e (T.setTop f) acts v).1 = T.setFrames fs) → Steps p.tables e below A (T.setFrames fs))
    (h1 : cells ≤ kc) (h2 : slots ≤ ks) (q : Q v T.heap locs) : Gq p.tables e below s Q kc ks A := by
  obtain ⟨fs, hr, hrun, hended, hW, hsame⟩ := X.leave (v := v) hv hlocks
  exact ⟨_, _, st fs hr, hrun, hended, _, _, rfl, q, ⟨_, rfl⟩, hW, hsame.mono h1 h2⟩
theorem Gq.retI (X : Stand p l e R s m args below meth c T locs cells slots) (hx : p.tables.exec = Jvm.exec) (hlocks : meth.locks = false) {pc : Nat} {Ls : Array Slot} {w : Int32} {rest : List Value} {t : FieldType} (hret : meth.sig.returnType = some t)
    (ht : t = .int ∨ t = .boolean ∨ t = .byte ∨ t = .char ∨ t = .short) (hd : decode c.code pc = .ok (.ireturn, 1)) (hn : narrow t (.int w) = .int w) (h1 : cells ≤ kc) (h2 : slots ≤ ks) (q : Q (some (.int w)) T.heap locs) :
    Gq p.tables e below s Q kc ks (T.setTop (mkF m pc Ls (.int w :: rest))) :=
  Gq.fin X hlocks (fun h => by rw [hret] at h; cases h) (fun fs hr => retOut X hx hret hn (Or.inl ⟨rfl, ht, _, rfl⟩) hd hr) h1 h2 q
theorem Gq.retL (X : Stand p l e R s m args below meth c T locs cells slots) (hx : p.tables.exec = Jvm.exec) (hlocks : meth.locks = false) {pc : Nat} {Ls : Array Slot} {w : Int64} {rest : List Value} (hret : meth.sig.returnType = some .long)
    (hd : decode c.code pc = .ok (.lreturn, 1)) (h1 : cells ≤ kc) (h2 : slots ≤ ks) (q : Q (some (.long w)) T.heap locs) :
    Gq p.tables e below s Q kc ks (T.setTop (mkF m pc Ls (.long w :: rest))) :=
  Gq.fin X hlocks (fun h => by rw [hret] at h; cases h) (fun fs hr => retOut X hx hret rfl (Or.inr (Or.inl ⟨rfl, rfl, _, rfl⟩)) hd hr) h1 h2 q
theorem Gq.retA (X : Stand p l e R s m args below meth c T locs cells slots) (hx : p.tables.exec = Jvm.exec) (hlocks : meth.locks = false) {pc : Nat} {Ls : Array Slot} {w : Value} {rest : List Value} {t : FieldType} (hret : meth.sig.returnType = some t) (hn : narrow t w = w)
    (ht : t.isReference = true) (hw : w.isRef = true) (hd : decode c.code pc = .ok (.areturn, 1)) (h1 : cells ≤ kc) (h2 : slots ≤ ks) (q : Q (some w) T.heap locs) :
    Gq p.tables e below s Q kc ks (T.setTop (mkF m pc Ls (w :: rest))) :=
  Gq.fin X hlocks (fun h => by rw [hret] at h; cases h) (fun fs hr => retOut X hx hret hn (Or.inr (Or.inr (Or.inr (Or.inr ⟨rfl, ht, hw⟩)))) hd hr) h1 h2 q
theorem Gq.retV (X : Stand p l e R s m args below meth c T locs cells slots) (hx : p.tables.exec = Jvm.exec) (hlocks : meth.locks = false) {pc : Nat} {Ls : Array Slot} (hret : meth.sig.returnType = none)
    (hd : decode c.code pc = .ok (.return_, 1)) (h1 : cells ≤ kc) (h2 : slots ≤ ks) (q : Q none T.heap locs) : Gq p.tables e below s Q kc ks (T.setTop (mkF m pc Ls [])) :=
  Gq.fin X hlocks (fun _ => rfl) (fun fs hr => X.returnOut hx hret hd hr) h1 h2 q
/-- an array: n places, place j holds f j -/
def LA (Z : State) (h : Heap) (a : Addr) (ty : FieldType) (n : Nat) (f : Nat → Value) : Prop := ∃ c : Cell, Arr Z h a c ty ∧ c.slots.size = n ∧ n < 2 ^ 31 ∧ ∀ j, j < n → c.slots[j]? = some (f j)
def upd (f : Nat → Value) (j : Nat) (v : Value) : Nat → Value := fun i => if i = j then v else f i
def gl (vs : List Value) (d : Value) : Nat → Value := fun i => vs.getD i d
section Facts
variable {a b : Addr} {ty : FieldType} {n j : Nat} {f g : Nat → Value} {v d : Value} {sl : Nat} {ws : List Addr} {vs : List Value}
theorem LA.lt (F : LA Z h a ty n f) : a < h.size := by obtain ⟨c, A, -⟩ := F; exact A.lt
theorem LA.ext (F : LA Z h a ty n f) (E : Ext h h') : LA Z h' a ty n f := by obtain ⟨c, A, r⟩ := F; exact ⟨c, A.ext E, r⟩
theorem LA.other (F : LA Z h b ty n f) (W : Wr h h' a sl v) (q : b ≠ a) : LA Z h' b ty n f := by obtain ⟨c, A, r⟩ := F; exact ⟨c, A.other W q, r⟩
theorem LA.keep (F : LA Z h a ty n f) (K : Keep h h' ws) (q : a ∉ ws) : LA Z h' a ty n f := by obtain ⟨c, A, r⟩ := F; exact ⟨c, ⟨K.2.1 a c A.1 q, A.2⟩, r⟩
theorem LA.congr (F : LA Z h a ty n f) (q : ∀ j, j < n → f j = g j) : LA Z h a ty n g := by obtain ⟨c, A, r1, r2, r3⟩ := F; exact ⟨c, A, r1, r2, fun j hj => by rw [r3 j hj, q j hj]⟩
theorem LA.new {k : ClassId} {z : Int32} (A : Arr Z h a (newA k ty z) ty) (q : ¬ z < 0) (hn : z.toNatClampNeg = n) : LA Z h a ty n (fun _ => defaultValue ty) := by
  subst hn
  exact ⟨_, A, sz_new _ _ _, (back32 q).2, fun j hj => by simp [newA, hj]⟩
theorem LA.set (F : LA Z h a ty n f) (W : Wr h h' a j v) : LA Z h' a ty n (upd f j v) := by
  obtain ⟨c, A, r1, r2, r3⟩ := F
  refine ⟨_, A.same W, by rw [sz_set]; exact r1, r2, fun i hi => ?_⟩
  have e1 : i < c.slots.size := by omega
  have r := r3 i hi
  simp only [upd, Cell.setSlot]
  by_cases q : i = j
  · subst q; simp [e1]
  · rw [Array.getElem?_setIfInBounds_ne (Ne.symm q), if_neg q]; exact r
theorem LA.setL (F : LA Z h a ty n (gl vs d)) (W : Wr h h' a j v) (hj : j < vs.length) : LA Z h' a ty n (gl (vs.set j v) d) := by
  refine (F.set W).congr fun i hi => ?_
  simp only [upd, gl, List.getD_eq_getElem?_getD, List.getElem?_set]
  by_cases q : i = j
  · subst q; simp [hj]
  · rw [if_neg q, if_neg (Ne.symm q)]
theorem LA.list (F : LA Z h a ty n (fun _ => d)) : LA Z h a ty n (gl (List.replicate n d) d) := F.congr fun j hj => by
  simp [gl, List.getD_eq_getElem?_getD, List.getElem?_replicate, hj]
end Facts
section Steps
variable {a : Addr} {n i : Nat} {f : Nat → Value} {pc : Nat} {Ls : Array Slot} {rest : List Value} {j : Int32}
theorem inb {cl : Cell} (S : cl.slots.size = n) (hi : j.toNatClampNeg = i) (hj : ¬ j < 0) (hn : i < n) : ¬ (j < 0 ∨ cl.slots.size ≤ j.toNatClampNeg) := by
  intro q; rcases q with q | q
  · exact hj q
  · omega
theorem ldJ (X : Stand p l e R s m args below meth c T locs cells slots) (hx : p.tables.exec = Jvm.exec) (hZ : Z.Warmed39 s.vm) (eT : T.heap = h) (V : LA Z h a .long n f) {x : Int64} (hj : ¬ j < 0) (hi : j.toNatClampNeg = i) (hn : i < n) (hv : f i = .long x) (hd : decode c.code pc = .ok (.laload, 1)) :
    ∀ t, Steps p.tables e below (T.setTop (mkF m (pc + 1) Ls (.long x :: rest))) t → Steps p.tables e below (T.setTop (mkF m pc Ls (.int j :: .ref a :: rest))) t := fun t k => by
  obtain ⟨cl, A, S, -, H⟩ := V
  exact X.laload hx (by rw [eT]; exact A.1) (State.isArrayOf_alike hZ.alike A.2.1) A.2.2 (inb S hi hj hn) (by rw [hi, H i hn, hv]) (g := mkF m pc Ls (.int j :: .ref a :: rest)) rfl rfl hd _ k
theorem ldI (X : Stand p l e R s m args below meth c T locs cells slots) (hx : p.tables.exec = Jvm.exec) (hZ : Z.Warmed39 s.vm) (eT : T.heap = h) (V : LA Z h a .int n f) {x : Int32} (hj : ¬ j < 0) (hi : j.toNatClampNeg = i) (hn : i < n) (hv : f i = .int x) (hd : decode c.code pc = .ok (.iaload, 1)) :
    ∀ t, Steps p.tables e below (T.setTop (mkF m (pc + 1) Ls (.int x :: rest))) t → Steps p.tables e below (T.setTop (mkF m pc Ls (.int j :: .ref a :: rest))) t := fun t k => by
  obtain ⟨cl, A, S, -, H⟩ := V
  exact X.iaload hx (by rw [eT]; exact A.1) (State.isArrayOf_alike hZ.alike A.2.1) A.2.2 (inb S hi hj hn) (by rw [hi, H i hn, hv]) (g := mkF m pc Ls (.int j :: .ref a :: rest)) rfl rfl hd _ k
theorem ldB (X : Stand p l e R s m args below meth c T locs cells slots) (hx : p.tables.exec = Jvm.exec) (hZ : Z.Warmed39 s.vm) (eT : T.heap = h) (V : LA Z h a .byte n f) {x : Int32} (hj : ¬ j < 0) (hi : j.toNatClampNeg = i) (hn : i < n) (hv : f i = .int x) (hd : decode c.code pc = .ok (.baload, 1)) :
    ∀ t, Steps p.tables e below (T.setTop (mkF m (pc + 1) Ls (.int x :: rest))) t → Steps p.tables e below (T.setTop (mkF m pc Ls (.int j :: .ref a :: rest))) t := fun t k => by
  obtain ⟨cl, A, S, -, H⟩ := V
  exact X.baloadBytes hx (by rw [eT]; exact A.1) (State.isArrayOf_alike hZ.alike A.2.1) A.2.2 (inb S hi hj hn) (by rw [hi, H i hn, hv]) (g := mkF m pc Ls (.int j :: .ref a :: rest)) rfl rfl hd _ k
theorem lenA (X : Stand p l e R s m args below meth c T locs cells slots) (hx : p.tables.exec = Jvm.exec) (hZ : Z.Warmed39 s.vm) (eT : T.heap = h) {ty : FieldType} (V : LA Z h a ty n f) (hd : decode c.code pc = .ok (.arraylength, 1)) :
    ∀ t, Steps p.tables e below (T.setTop (mkF m (pc + 1) Ls (.int (Int32.ofNat n) :: rest))) t → Steps p.tables e below (T.setTop (mkF m pc Ls (.ref a :: rest))) t := fun t k => by
  obtain ⟨cl, A, S, -, H⟩ := V
  refine X.arraylength hx (by rw [eT]; exact A.1) (State.isArrayOf_alike hZ.alike A.2.1) (g := mkF m pc Ls (.ref a :: rest)) rfl rfl hd _ ?_
  rw [S]; exact k
theorem stoJ (X : Stand p l e R s m args below meth c T locs cells slots) (hx : p.tables.exec = Jvm.exec) (hZ : Z.Warmed39 s.vm) (eT : T.heap = h) (V : LA Z h a .long n f) {x : Int64} (hj : ¬ j < 0) (hi : j.toNatClampNeg = i) (hn : i < n) (hd : decode c.code pc = .ok (.lastore, 1)) :
    ∃ T' h', Stand p l e R s m args below meth c T' (locs ++ [⟨a, i⟩]) cells slots ∧ T'.heap = h' ∧ Wr h h' a i (.long x) ∧ ∀ t, Steps p.tables e below (T'.setTop (mkF m (pc + 1) Ls rest)) t → Steps p.tables e below (T.setTop (mkF m pc Ls (.long x :: .int j :: .ref a :: rest))) t := by
  obtain ⟨cl, A, S, -, H⟩ := V
  obtain ⟨T', h', X', e', W, st⟩ := stJ X hx hZ eT A (j := j) (x := x) (inb S hi hj hn) (g := mkF m pc Ls (.long x :: .int j :: .ref a :: rest)) rfl rfl hd
  subst hi
  exact ⟨T', h', X', e', W, st⟩
theorem stoI (X : Stand p l e R s m args below meth c T locs cells slots) (hx : p.tables.exec = Jvm.exec) (hZ : Z.Warmed39 s.vm) (eT : T.heap = h) (V : LA Z h a .int n f) {x : Int32} (hj : ¬ j < 0) (hi : j.toNatClampNeg = i) (hn : i < n) (hd : decode c.code pc = .ok (.iastore, 1)) :
    ∃ T' h', Stand p l e R s m args below meth c T' (locs ++ [⟨a, i⟩]) cells slots ∧ T'.heap = h' ∧ Wr h h' a i (.int x) ∧ ∀ t, Steps p.tables e below (T'.setTop (mkF m (pc + 1) Ls rest)) t → Steps p.tables e below (T.setTop (mkF m pc Ls (.int x :: .int j :: .ref a :: rest))) t := by
  obtain ⟨cl, A, S, -, H⟩ := V
  obtain ⟨T', h', X', e', W, st⟩ := stI X hx hZ eT A (j := j) (x := x) (inb S hi hj hn) (g := mkF m pc Ls (.int x :: .int j :: .ref a :: rest)) rfl rfl hd
  subst hi
  exact ⟨T', h', X', e', W, st⟩
theorem stoB (X : Stand p l e R s m args below meth c T locs cells slots) (hx : p.tables.exec = Jvm.exec) (hZ : Z.Warmed39 s.vm) (eT : T.heap = h) (V : LA Z h a .byte n f) {x : Int32} (hj : ¬ j < 0) (hi : j.toNatClampNeg = i) (hn : i < n) (hd : decode c.code pc = .ok (.bastore, 1)) :
    ∃ T' h', Stand p l e R s m args below meth c T' (locs ++ [⟨a, i⟩]) cells slots ∧ T'.heap = h' ∧ Wr h h' a i (.int x.toInt8.toInt32) ∧ ∀ t, Steps p.tables e below (T'.setTop (mkF m (pc + 1) Ls rest)) t → Steps p.tables e below (T.setTop (mkF m pc Ls (.int x :: .int j :: .ref a :: rest))) t := by
  obtain ⟨cl, A, S, -, H⟩ := V
  obtain ⟨T', h', X', e', W, st⟩ := stB X hx hZ eT A (j := j) (x := x) (inb S hi hj hn) (g := mkF m pc Ls (.int x :: .int j :: .ref a :: rest)) rfl rfl hd
  subst hi
  exact ⟨T', h', X', e', W, st⟩
theorem mkA (X : Stand p l e R s m args below meth c T locs cells slots) (hx : p.tables.exec = Jvm.exec) (hZ : Z.Warmed39 s.vm) {aty : ArrayType} (w : (Cond.arrayClass (newarray.typeOf aty)).before a0 Z = true) (eT : T.heap = h) {z : Int32} (hz : ¬ z < 0) (hn : z.toNatClampNeg = n)
    (hb : n * 8 ≤ 536870912) (hc : cells + 1 ≤ R.cells) (hl : slots + n ≤ R.slots) (hd : decode c.code pc = .ok (.newarray aty, 2)) :
    ∃ T' h' b, Stand p l e R s m args below meth c T' locs (cells + 1) (slots + n) ∧ T'.heap = h' ∧ Ext h h' ∧ b = h.size ∧ LA Z h' b (newarray.typeOf aty) n (fun _ => defaultValue (newarray.typeOf aty)) ∧
      ∀ t, Steps p.tables e below (T'.setTop (mkF m (pc + 2) Ls (.ref b :: rest))) t → Steps p.tables e below (T.setTop (mkF m pc Ls (.int z :: rest))) t := by
  obtain ⟨T', h', k, X', e', E, A, st⟩ := newP X hx hZ w eT (g := mkF m pc Ls (.int z :: rest)) rfl hd rfl hz (cap := n) (Nat.le_of_eq hn) hb hc hl
  exact ⟨T', h', _, X', e', E, rfl, LA.new A hz hn, st⟩
end Steps
section Calls
variable {own : String} {index : Nat} {y : MethodName} {bytes : ByteArray} {maxL : Nat} {ret : Option FieldType} {rm : Room} {W pc : Nat} {Ls : Array Slot} {Qc : Option Value → Heap → List Loc → Prop} {ps : List FieldType} {r : Option FieldType}
theorem callT (X : Stand p l e R s m args below meth c T locs cells slots) (hx : p.tables.exec = Jvm.exec) (hZ : Z.Warmed39 s.vm) (hown : s.vm.findClass own = some m.cls) (eT : T.heap = h) (argsL rest : List Value)
    (w1 : (Cond.methodLink own index y).before a0 Z = true) (w2 : (Cond.static y).before a0 Z = true) (w3 : (Cond.initialized y.cls).before a0 Z = true) (w4 : (Cond.code y bytes maxL ret).before a0 Z = true)
    (hy : y.cls ≠ "java/lang/invoke/MethodHandle" ∧ y.cls ≠ "java/lang/invoke/VarHandle")
    (hM : MetFree l y (head1 [Cond.code y bytes maxL ret] rm) (fun a U => a = argsL.toArray ∧ Z.Warmed39 U.vm ∧ U.heap = h) (fun _ _ _ _ _ => True) (fun _ U o U' => ∃ v L, o = .returned v ∧ Qc v U'.heap L ∧ FrameEnd U o U' L rm.cells rm.slots))
    (hpd : parseMethodDescriptor y.desc = some ⟨ps, r⟩) (hll : argsL.length = ps.length) (hsize : Ls.size = c.maxLocals) (hW : 2 * 0 + (rest.map fun v => v.category).sum ≤ W)
    (hf : rm.frames + 1 ≤ R.frames) (hl : W + (maxL + 11) + rm.locals ≤ R.locals) (hc : cells + rm.cells ≤ R.cells) (hs : slots + rm.slots ≤ R.slots) (hd : decode c.code pc = .ok (.invokestatic index, 3)) :
    ∃ v T' L, Stand p l e R s m args below meth c T' (locs ++ L) (cells + rm.cells) (slots + rm.slots) ∧ Qc v T'.heap L ∧
      ∀ t, Steps p.tables e below (T'.setTop (mkF m (pc + 3) Ls (v.toList ++ rest))) t → Steps p.tables e below (T.setTop (mkF m pc Ls (argsL.reverse ++ rest))) t := by
  obtain ⟨v, vm1, ⟨T', L', k', n'⟩, -, X', ⟨L, hQ, e1, e2, e3⟩, st⟩ := Jvm.LawKit.callS X hx (y := y) hown (mvT hZ w1) (mvT hZ w2) (mvT hZ w3) (mvT hZ w4) hy (backOf (W := W) hM hZ w4 w3 hf hl) (g := mkF m pc Ls (argsL.reverse ++ rest)) rfl hsize (argsL := argsL) (rest := rest) (lenOf hpd hll) rfl hW hd (fun _ _ => ⟨rfl, eT, hc, hs⟩)
  dsimp only [Pt.U, Pt.locs, Pt.cells, Pt.slots] at X' e1 e2 e3 st hQ
  subst e1 e2 e3
  exact ⟨v, T', L, X', hQ, st⟩
theorem callI (X : Stand p l e R s m args below meth c T locs cells slots) (hx : p.tables.exec = Jvm.exec) (hZ : Z.Warmed39 s.vm) (hown : s.vm.findClass own = some m.cls) (eT : T.heap = h) (a : Addr) (argsL rest : List Value)
    (w1 : (Cond.methodLink own index y).before a0 Z = true) (w2 : (Cond.instanceMethod y).before a0 Z = true) (w3 : (Cond.initialized y.cls).before a0 Z = true) (w4 : (Cond.code y bytes maxL none).before a0 Z = true) (hy1 : y.name = "<init>")
    (hy : y.cls ≠ "java/lang/invoke/MethodHandle" ∧ y.cls ≠ "java/lang/invoke/VarHandle")
    (hM : MetFree l y (head1 [Cond.code y bytes maxL none] rm) (fun a' U => a' = (.ref a :: argsL).toArray ∧ Z.Warmed39 U.vm ∧ U.heap = h) (fun _ _ _ _ _ => True) (fun _ U o U' => ∃ v L, o = .returned v ∧ Qc v U'.heap L ∧ FrameEnd U o U' L rm.cells rm.slots))
    (hpd : parseMethodDescriptor y.desc = some ⟨ps, r⟩) (hll : argsL.length = ps.length) (hsize : Ls.size = c.maxLocals) (hW : 2 * 0 + (rest.map fun v => v.category).sum ≤ W)
    (hf : rm.frames + 1 ≤ R.frames) (hl : W + (maxL + 11) + rm.locals ≤ R.locals) (hc : cells + rm.cells ≤ R.cells) (hs : slots + rm.slots ≤ R.slots) (hd : decode c.code pc = .ok (.invokespecial index, 3)) :
    ∃ v T' L, Stand p l e R s m args below meth c T' (locs ++ L) (cells + rm.cells) (slots + rm.slots) ∧ Qc v T'.heap L ∧
      ∀ t, Steps p.tables e below (T'.setTop (mkF m (pc + 3) Ls (v.toList ++ rest))) t → Steps p.tables e below (T.setTop (mkF m pc Ls (argsL.reverse ++ .ref a :: rest))) t := by
  obtain ⟨v, vm1, ⟨T', L', k', n'⟩, -, X', ⟨L, hQ, e1, e2, e3⟩, st⟩ := X.specialBack hx (y := y) hy1 hown (mvT hZ w1) (mvT hZ w2) (mvT hZ w4) hy (backOf (W := W) hM hZ w4 w3 hf hl) (g := mkF m pc Ls (argsL.reverse ++ .ref a :: rest)) rfl hsize (Steps.refl _) (a := a) (argsL := argsL) (rest := rest) (lenOf hpd hll) rfl hW hd (fun _ _ => ⟨rfl, eT, hc, hs⟩)
  dsimp only [Pt.U, Pt.locs, Pt.cells, Pt.slots] at X' e1 e2 e3 st hQ
  subst e1 e2 e3
  exact ⟨v, T', L, X', hQ, fun t k => st.trans k⟩
theorem callV (X : Stand p l e R s m args below meth c T locs cells slots) (hx : p.tables.exec = Jvm.exec) (hZ : Z.Warmed39 s.vm) (hown : s.vm.findClass own = some m.cls) (eT : T.heap = h) (a : Addr) (argsL rest : List Value) {C : String} (E : Exa Z h a C)
    (w1 : (Cond.methodLink own index y).before a0 Z = true) (w2 : (Cond.declares y).before a0 Z = true) (w5 : (Cond.selects C y y).before a0 Z = true) (w6 : (Cond.instanceMethod y).before a0 Z = true) (w3 : (Cond.initialized y.cls).before a0 Z = true) (w4 : (Cond.code y bytes maxL ret).before a0 Z = true)
    (hy : y.cls ≠ "java/lang/invoke/MethodHandle" ∧ y.cls ≠ "java/lang/invoke/VarHandle")
    (hM : MetFree l y (head1 [Cond.code y bytes maxL ret] rm) (fun a' U => a' = (.ref a :: argsL).toArray ∧ Z.Warmed39 U.vm ∧ U.heap = h) (fun _ _ _ _ _ => True) (fun _ U o U' => ∃ v L, o = .returned v ∧ Qc v U'.heap L ∧ FrameEnd U o U' L rm.cells rm.slots))
    (hpd : parseMethodDescriptor y.desc = some ⟨ps, r⟩) (hll : argsL.length = ps.length) (hsize : Ls.size = c.maxLocals) (hW : 2 * 0 + (rest.map fun v => v.category).sum ≤ W)
    (hf : rm.frames + 1 ≤ R.frames) (hl : W + (maxL + 11) + rm.locals ≤ R.locals) (hc : cells + rm.cells ≤ R.cells) (hs : slots + rm.slots ≤ R.slots) (hd : decode c.code pc = .ok (.invokevirtual index, 3)) :
    ∃ v T' L, Stand p l e R s m args below meth c T' (locs ++ L) (cells + rm.cells) (slots + rm.slots) ∧ Qc v T'.heap L ∧
      ∀ t, Steps p.tables e below (T'.setTop (mkF m (pc + 3) Ls (v.toList ++ rest))) t → Steps p.tables e below (T.setTop (mkF m pc Ls (argsL.reverse ++ .ref a :: rest))) t := by
  obtain ⟨cq, kq, qa, qb, qc⟩ := isOf hZ eT E
  obtain ⟨v, vm1, ⟨T', L', k', n'⟩, -, X', ⟨L, hQ, e1, e2, e3⟩, st⟩ := X.virtualBack hx (y := y) (z := y) hown (mvT hZ w1) (mvT hZ w2) (notFace_of_selects (args := #[]) (mvT hZ w5)) (mvT hZ w5) (mvT hZ w6) hy (backOf (W := W) hM hZ w4 w3 hf hl) qa qc (g := mkF m pc Ls (argsL.reverse ++ .ref a :: rest)) rfl hsize (Steps.refl _) (argsL := argsL) (rest := rest) (lenOf hpd hll) rfl hW hd (fun _ _ => ⟨rfl, eT, hc, hs⟩)
  dsimp only [Pt.U, Pt.locs, Pt.cells, Pt.slots] at X' e1 e2 e3 st hQ
  subst e1 e2 e3
  exact ⟨v, T', L, X', hQ, fun t k => st.trans k⟩
end Calls
end OwnKit
theorem own_sx1 (s f g : Int64) (h : s = 1) : f ^^^ ((-s) &&& (f ^^^ g)) = g := by
  subst h
  apply Int64.toBitVec_inj.mp
  simp only [Int64.toBitVec_xor, Int64.toBitVec_and, show (-(1 : Int64)).toBitVec = BitVec.allOnes 64 from by decide, BitVec.allOnes_and]
  rw [← BitVec.xor_assoc, BitVec.xor_self, BitVec.zero_xor]
theorem own_sx2 (s f g : Int64) (h : s = 1) : g ^^^ ((-s) &&& (f ^^^ g)) = f := by
  subst h
  apply Int64.toBitVec_inj.mp
  simp only [Int64.toBitVec_xor, Int64.toBitVec_and, show (-(1 : Int64)).toBitVec = BitVec.allOnes 64 from by decide, BitVec.allOnes_and]
  rw [BitVec.xor_comm f.toBitVec, ← BitVec.xor_assoc, BitVec.xor_self, BitVec.zero_xor]
theorem own_sx0 (s f y : Int64) (h : s = 0) : f ^^^ ((-s) &&& y) = f := by
  subst h
  apply Int64.toBitVec_inj.mp
  simp only [Int64.toBitVec_xor, Int64.toBitVec_and, show (-(0 : Int64)).toBitVec = 0#64 from by decide, BitVec.zero_and, BitVec.xor_zero]
theorem own_bit (x : Int64) : x &&& 1 = 0 ∨ x &&& 1 = 1 := by
  have h : ∀ b : BitVec 64, b &&& 1#64 = 0#64 ∨ b &&& 1#64 = 1#64 := fun b => by
    rw [BitVec.and_one_eq_setWidth_ofBool_getLsbD]
    cases b.getLsbD 0
    · left; decide
    · right; decide
  rcases h x.toBitVec with h | h
  · left; exact Int64.toBitVec_inj.mp h
  · right; exact Int64.toBitVec_inj.mp h
theorem d1_0 : decode prog_47_method_7_code 0 = .ok (.lload_n 0, 1) := by decide +kernel
theorem d1_1 : decode prog_47_method_7_code 1 = .ok (.lneg, 1) := by decide +kernel
theorem d1_2 : decode prog_47_method_7_code 2 = .ok (.lstore 4, 2) := by decide +kernel
theorem d1_4 : decode prog_47_method_7_code 4 = .ok (.iconst 0, 1) := by decide +kernel
theorem d1_5 : decode prog_47_method_7_code 5 = .ok (.istore 6, 2) := by decide +kernel
theorem d1_7 : decode prog_47_method_7_code 7 = .ok (.iload 6, 2) := by decide +kernel
theorem d1_9 : decode prog_47_method_7_code 9 = .ok (.iconst 5, 1) := by decide +kernel
theorem d1_10 : decode prog_47_method_7_code 10 = .ok (.if_icmp .ge 41, 3) := by decide +kernel
theorem d1_13 : decode prog_47_method_7_code 13 = .ok (.lload 4, 2) := by decide +kernel
theorem d1_15 : decode prog_47_method_7_code 15 = .ok (.aload_n 2, 1) := by decide +kernel
theorem d1_16 : decode prog_47_method_7_code 16 = .ok (.iload 6, 2) := by decide +kernel
theorem d1_18 : decode prog_47_method_7_code 18 = .ok (.laload, 1) := by decide +kernel
theorem d1_19 : decode prog_47_method_7_code 19 = .ok (.aload_n 3, 1) := by decide +kernel
theorem d1_20 : decode prog_47_method_7_code 20 = .ok (.iload 6, 2) := by decide +kernel
theorem d1_22 : decode prog_47_method_7_code 22 = .ok (.laload, 1) := by decide +kernel
theorem d1_23 : decode prog_47_method_7_code 23 = .ok (.lxor, 1) := by decide +kernel
theorem d1_24 : decode prog_47_method_7_code 24 = .ok (.land, 1) := by decide +kernel
theorem d1_25 : decode prog_47_method_7_code 25 = .ok (.lstore 7, 2) := by decide +kernel
theorem d1_27 : decode prog_47_method_7_code 27 = .ok (.aload_n 2, 1) := by decide +kernel
theorem d1_28 : decode prog_47_method_7_code 28 = .ok (.iload 6, 2) := by decide +kernel
theorem d1_30 : decode prog_47_method_7_code 30 = .ok (.dup2, 1) := by decide +kernel
theorem d1_31 : decode prog_47_method_7_code 31 = .ok (.laload, 1) := by decide +kernel
theorem d1_32 : decode prog_47_method_7_code 32 = .ok (.lload 7, 2) := by decide +kernel
theorem d1_34 : decode prog_47_method_7_code 34 = .ok (.lxor, 1) := by decide +kernel
theorem d1_35 : decode prog_47_method_7_code 35 = .ok (.lastore, 1) := by decide +kernel
theorem d1_36 : decode prog_47_method_7_code 36 = .ok (.aload_n 3, 1) := by decide +kernel
theorem d1_37 : decode prog_47_method_7_code 37 = .ok (.iload 6, 2) := by decide +kernel
theorem d1_39 : decode prog_47_method_7_code 39 = .ok (.dup2, 1) := by decide +kernel
theorem d1_40 : decode prog_47_method_7_code 40 = .ok (.laload, 1) := by decide +kernel
theorem d1_41 : decode prog_47_method_7_code 41 = .ok (.lload 7, 2) := by decide +kernel
theorem d1_43 : decode prog_47_method_7_code 43 = .ok (.lxor, 1) := by decide +kernel
theorem d1_44 : decode prog_47_method_7_code 44 = .ok (.lastore, 1) := by decide +kernel
theorem d1_45 : decode prog_47_method_7_code 45 = .ok (.iinc 6 1, 3) := by decide +kernel
theorem d1_48 : decode prog_47_method_7_code 48 = .ok (.goto (-41), 3) := by decide +kernel
theorem d1_51 : decode prog_47_method_7_code 51 = .ok (.return_, 1) := by decide +kernel
theorem pn_com_example_rolebridge_rolebridge_Field25519 : plainName "com/example/rolebridge/rolebridge/Field25519" = true := by first | (simp [plainName, overriddenIn]; done) | decide +kernel
theorem ef1 (m : MethodId) (y0 : Int64) (y1 : Addr) (y2 : Addr) : entryFrame m #[(.long y0), (.ref y1), (.ref y2)] 9 = mkF m 0 #[.val (.long y0), .second, .val (.ref y1), .val (.ref y2), .unset, .unset, .unset, .unset, .unset] [] := by first | (simp [entryFrame, mkF, argsToLocals, Value.category]; done) | rfl
def Q1 (Z : State) (q1 : Int64) (a2 : Addr) (a3 : Addr) (f0 : Int64) (f1 : Int64) (f2 : Int64) (f3 : Int64) (f4 : Int64) (k0 : Int64) (k1 : Int64) (k2 : Int64) (k3 : Int64) (k4 : Int64) (h0 : Heap) (n0 : Nat) (v : Option Value) (h : Heap) (L : List Loc) : Prop := v = none ∧ Fr n0 L ∧ Keep h0 h [a2, a3] ∧ LA Z h a2 .long 5 (gl [(.long (f0 ^^^ ((-q1) &&& (f0 ^^^ k0)))), (.long (f1 ^^^ ((-q1) &&& (f1 ^^^ k1)))), (.long (f2 ^^^ ((-q1) &&& (f2 ^^^ k2)))), (.long (f3 ^^^ ((-q1) &&& (f3 ^^^ k3)))), (.long (f4 ^^^ ((-q1) &&& (f4 ^^^ k4))))] (.long (0 : Int64))) ∧ LA Z h a3 .long 5 (gl [(.long (k0 ^^^ ((-q1) &&& (f0 ^^^ k0)))), (.long (k1 ^^^ ((-q1) &&& (f1 ^^^ k1)))), (.long (k2 ^^^ ((-q1) &&& (f2 ^^^ k2)))), (.long (k3 ^^^ ((-q1) &&& (f3 ^^^ k3)))), (.long (k4 ^^^ ((-q1) &&& (f4 ^^^ k4))))] (.long (0 : Int64)))
set_option maxRecDepth 65536 in
set_option maxHeartbeats 40000000 in
theorem rm1 (l : Launch) (Z : State) (a0 : Array Value) (hw : ∀ d ∈ tables_1, d.before a0 Z = true) (ws : List Jvm.Cond) (q1 : Int64) (a2 : Addr) (a3 : Addr) (f0 : Int64) (f1 : Int64) (f2 : Int64) (f3 : Int64) (f4 : Int64) (k0 : Int64) (k1 : Int64) (k2 : Int64) (k3 : Int64) (k4 : Int64) (h0 : Heap) (n0 : Nat) (Z0 : n0 ≤ h0.size) (V2 : LA Z h0 a2 .long 5 (gl [(.long f0), (.long f1), (.long f2), (.long f3), (.long f4)] (.long (0 : Int64)))) (V3 : LA Z h0 a3 .long 5 (gl [(.long k0), (.long k1), (.long k2), (.long k3), (.long k4)] (.long (0 : Int64)))) (n23 : a2 ≠ a3) (g2 : n0 ≤ a2) (g3 : n0 ≤ a3) :
    MetFree l (⟨"com/example/rolebridge/rolebridge/Field25519", "swap", "(J[J[J)V"⟩ : MethodName) (head1 (Jvm.Cond.code (⟨"com/example/rolebridge/rolebridge/Field25519", "swap", "(J[J[J)V"⟩ : MethodName) prog_47_method_7_code 9 none :: ws) ({ frames := 0, cells := 0, slots := 0, locals := 0 } : Room)) (fun a U => a = #[(.long q1), (.ref a2), (.ref a3)] ∧ Z.Warmed39 U.vm ∧ U.heap = h0) (fun _ _ _ _ _ => True) (fun _ U o U' => ∃ v L, o = .returned v ∧ Q1 Z q1 a2 a3 f0 f1 f2 f3 f4 k0 k1 k2 k3 k4 h0 n0 v U'.heap L ∧ FrameEnd U o U' L ({ frames := 0, cells := 0, slots := 0, locals := 0 } : Room).cells ({ frames := 0, cells := 0, slots := 0, locals := 0 } : Room).slots) := by
  refine MetFree.of_bodySF (plainFor_of_name pn_com_example_rolebridge_rolebridge_Field25519) hisR ?_
  intro p e s m args below meth c s₁ Bd hml0 hP hK
  obtain ⟨rfl, hZ, hh⟩ := hP
  have hx := Bd.exec
  have hby := Bd.bytes
  have hml : c.maxLocals = 9 := hml0
  have hown : s.vm.findClass "com/example/rolebridge/rolebridge/Field25519" = some m.cls := findClass_of_methodNamed Bd.named
  have hnm := (name_of_methodNamed Bd.named Bd.method).1
  have X0 : Stand p l e ({ frames := 0, cells := 0, slots := 0, locals := 0 } : Room) s m #[(.long q1), (.ref a2), (.ref a3)] below meth c s₁ [] 0 0 := Stand.of_body Bd
  have eh0 : s₁.heap = h0 := by rw [← hh, Bd.state]; rfl
  have N0 := Fr.nil n0
  refine Gq.start (Q := Q1 Z q1 a2 a3 f0 f1 f2 f3 f4 k0 k1 k2 k3 k4 h0 n0) (kc := ({ frames := 0, cells := 0, slots := 0, locals := 0 } : Room).cells) (ks := ({ frames := 0, cells := 0, slots := 0, locals := 0 } : Room).slots) (ef1 m q1 a2 a3) ?_
  refine Gq.go (s₁.setTop (mkF m 1 #[.val (.long q1), .second, .val (.ref a2), .val (.ref a3), .unset, .unset, .unset, .unset, .unset] [(.long q1)])) (fun tt_ kk_ => XS.lloadN X0.here hx rfl (hb hby d1_0) rfl kk_) ?_
  refine Gq.go (s₁.setTop (mkF m 2 #[.val (.long q1), .second, .val (.ref a2), .val (.ref a3), .unset, .unset, .unset, .unset, .unset] [(.long (-q1))])) (fun tt_ kk_ => XS.lneg X0.here hx rfl (hb hby d1_1) rfl kk_) ?_
  refine Gq.go (s₁.setTop (mkF m 4 #[.val (.long q1), .second, .val (.ref a2), .val (.ref a3), .val (.long (-q1)), .second, .unset, .unset, .unset] [])) (fun tt_ kk_ => XS.lstore X0.here hx rfl (hb hby d1_2) rfl (l' := #[.val (.long q1), .second, .val (.ref a2), .val (.ref a3), .val (.long (-q1)), .second, .unset, .unset, .unset]) rfl kk_) ?_
  refine Gq.go (s₁.setTop (mkF m 5 #[.val (.long q1), .second, .val (.ref a2), .val (.ref a3), .val (.long (-q1)), .second, .unset, .unset, .unset] [(.int (0 : Int32))])) (fun tt_ kk_ => XS.iconst X0.here hx rfl (hb hby d1_4) kk_) ?_
  refine Gq.go (s₁.setTop (mkF m 7 #[.val (.long q1), .second, .val (.ref a2), .val (.ref a3), .val (.long (-q1)), .second, .val (.int (0 : Int32)), .unset, .unset] [])) (fun tt_ kk_ => XS.istore X0.here hx rfl (hb hby d1_5) rfl (l' := #[.val (.long q1), .second, .val (.ref a2), .val (.ref a3), .val (.long (-q1)), .second, .val (.int (0 : Int32)), .unset, .unset]) rfl kk_) ?_
  refine Gq.go (s₁.setTop (mkF m 9 #[.val (.long q1), .second, .val (.ref a2), .val (.ref a3), .val (.long (-q1)), .second, .val (.int (0 : Int32)), .unset, .unset] [(.int (0 : Int32))])) (fun tt_ kk_ => XS.iload X0.here hx rfl (hb hby d1_7) rfl kk_) ?_
  refine Gq.go (s₁.setTop (mkF m 10 #[.val (.long q1), .second, .val (.ref a2), .val (.ref a3), .val (.long (-q1)), .second, .val (.int (0 : Int32)), .unset, .unset] [(.int (5 : Int32)), (.int (0 : Int32))])) (fun tt_ kk_ => XS.iconst X0.here hx rfl (hb hby d1_9) kk_) ?_
  refine Gq.go (s₁.setTop (mkF m 13 #[.val (.long q1), .second, .val (.ref a2), .val (.ref a3), .val (.long (-q1)), .second, .val (.int (0 : Int32)), .unset, .unset] [])) (fun tt_ kk_ => XS.icmpNo X0.here hx rfl (hb hby d1_10) rfl (tlt (by decide : ((0 : Int32) < (5 : Int32)))).2.1 kk_) ?_
  refine Gq.go (s₁.setTop (mkF m 15 #[.val (.long q1), .second, .val (.ref a2), .val (.ref a3), .val (.long (-q1)), .second, .val (.int (0 : Int32)), .unset, .unset] [(.long (-q1))])) (fun tt_ kk_ => XS.lload X0.here hx rfl (hb hby d1_13) rfl kk_) ?_
  refine Gq.go (s₁.setTop (mkF m 16 #[.val (.long q1), .second, .val (.ref a2), .val (.ref a3), .val (.long (-q1)), .second, .val (.int (0 : Int32)), .unset, .unset] [(.ref a2), (.long (-q1))])) (fun tt_ kk_ => XS.aloadN X0.here hx rfl (hb hby d1_15) rfl rfl kk_) ?_
  refine Gq.go (s₁.setTop (mkF m 18 #[.val (.long q1), .second, .val (.ref a2), .val (.ref a3), .val (.long (-q1)), .second, .val (.int (0 : Int32)), .unset, .unset] [(.int (0 : Int32)), (.ref a2), (.long (-q1))])) (fun tt_ kk_ => XS.iload X0.here hx rfl (hb hby d1_16) rfl kk_) ?_
  refine Gq.go (s₁.setTop (mkF m 19 #[.val (.long q1), .second, .val (.ref a2), .val (.ref a3), .val (.long (-q1)), .second, .val (.int (0 : Int32)), .unset, .unset] [(.long f0), (.long (-q1))])) (fun tt_ kk_ => ldJ X0 hx hZ eh0 V2 (j := (0 : Int32)) (i := 0) (x := f0) (by decide) rfl (by decide) rfl (hb hby d1_18) tt_ kk_) ?_
  refine Gq.go (s₁.setTop (mkF m 20 #[.val (.long q1), .second, .val (.ref a2), .val (.ref a3), .val (.long (-q1)), .second, .val (.int (0 : Int32)), .unset, .unset] [(.ref a3), (.long f0), (.long (-q1))])) (fun tt_ kk_ => XS.aloadN X0.here hx rfl (hb hby d1_19) rfl rfl kk_) ?_
  refine Gq.go (s₁.setTop (mkF m 22 #[.val (.long q1), .second, .val (.ref a2), .val (.ref a3), .val (.long (-q1)), .second, .val (.int (0 : Int32)), .unset, .unset] [(.int (0 : Int32)), (.ref a3), (.long f0), (.long (-q1))])) (fun tt_ kk_ => XS.iload X0.here hx rfl (hb hby d1_20) rfl kk_) ?_
  refine Gq.go (s₁.setTop (mkF m 23 #[.val (.long q1), .second, .val (.ref a2), .val (.ref a3), .val (.long (-q1)), .second, .val (.int (0 : Int32)), .unset, .unset] [(.long k0), (.long f0), (.long (-q1))])) (fun tt_ kk_ => ldJ X0 hx hZ eh0 V3 (j := (0 : Int32)) (i := 0) (x := k0) (by decide) rfl (by decide) rfl (hb hby d1_22) tt_ kk_) ?_
  refine Gq.go (s₁.setTop (mkF m 24 #[.val (.long q1), .second, .val (.ref a2), .val (.ref a3), .val (.long (-q1)), .second, .val (.int (0 : Int32)), .unset, .unset] [(.long (f0 ^^^ k0)), (.long (-q1))])) (fun tt_ kk_ => XS.lxor X0.here hx rfl (hb hby d1_23) rfl kk_) ?_
  refine Gq.go (s₁.setTop (mkF m 25 #[.val (.long q1), .second, .val (.ref a2), .val (.ref a3), .val (.long (-q1)), .second, .val (.int (0 : Int32)), .unset, .unset] [(.long ((-q1) &&& (f0 ^^^ k0)))])) (fun tt_ kk_ => XS.land X0.here hx rfl (hb hby d1_24) rfl kk_) ?_
  refine Gq.go (s₁.setTop (mkF m 27 #[.val (.long q1), .second, .val (.ref a2), .val (.ref a3), .val (.long (-q1)), .second, .val (.int (0 : Int32)), .val (.long ((-q1) &&& (f0 ^^^ k0))), .second] [])) (fun tt_ kk_ => XS.lstore X0.here hx rfl (hb hby d1_25) rfl (l' := #[.val (.long q1), .second, .val (.ref a2), .val (.ref a3), .val (.long (-q1)), .second, .val (.int (0 : Int32)), .val (.long ((-q1) &&& (f0 ^^^ k0))), .second]) rfl kk_) ?_
  refine Gq.go (s₁.setTop (mkF m 28 #[.val (.long q1), .second, .val (.ref a2), .val (.ref a3), .val (.long (-q1)), .second, .val (.int (0 : Int32)), .val (.long ((-q1) &&& (f0 ^^^ k0))), .second] [(.ref a2)])) (fun tt_ kk_ => XS.aloadN X0.here hx rfl (hb hby d1_27) rfl rfl kk_) ?_
  refine Gq.go (s₁.setTop (mkF m 30 #[.val (.long q1), .second, .val (.ref a2), .val (.ref a3), .val (.long (-q1)), .second, .val (.int (0 : Int32)), .val (.long ((-q1) &&& (f0 ^^^ k0))), .second] [(.int (0 : Int32)), (.ref a2)])) (fun tt_ kk_ => XS.iload X0.here hx rfl (hb hby d1_28) rfl kk_) ?_
  refine Gq.go (s₁.setTop (mkF m 31 #[.val (.long q1), .second, .val (.ref a2), .val (.ref a3), .val (.long (-q1)), .second, .val (.int (0 : Int32)), .val (.long ((-q1) &&& (f0 ^^^ k0))), .second] [(.int (0 : Int32)), (.ref a2), (.int (0 : Int32)), (.ref a2)])) (fun tt_ kk_ => Jvm.Free.XT.dup2 X0.here hx rfl (hb hby d1_30) rfl rfl rfl kk_) ?_
  refine Gq.go (s₁.setTop (mkF m 32 #[.val (.long q1), .second, .val (.ref a2), .val (.ref a3), .val (.long (-q1)), .second, .val (.int (0 : Int32)), .val (.long ((-q1) &&& (f0 ^^^ k0))), .second] [(.long f0), (.int (0 : Int32)), (.ref a2)])) (fun tt_ kk_ => ldJ X0 hx hZ eh0 V2 (j := (0 : Int32)) (i := 0) (x := f0) (by decide) rfl (by decide) rfl (hb hby d1_31) tt_ kk_) ?_
  refine Gq.go (s₁.setTop (mkF m 34 #[.val (.long q1), .second, .val (.ref a2), .val (.ref a3), .val (.long (-q1)), .second, .val (.int (0 : Int32)), .val (.long ((-q1) &&& (f0 ^^^ k0))), .second] [(.long ((-q1) &&& (f0 ^^^ k0))), (.long f0), (.int (0 : Int32)), (.ref a2)])) (fun tt_ kk_ => XS.lload X0.here hx rfl (hb hby d1_32) rfl kk_) ?_
  refine Gq.go (s₁.setTop (mkF m 35 #[.val (.long q1), .second, .val (.ref a2), .val (.ref a3), .val (.long (-q1)), .second, .val (.int (0 : Int32)), .val (.long ((-q1) &&& (f0 ^^^ k0))), .second] [(.long (f0 ^^^ ((-q1) &&& (f0 ^^^ k0)))), (.int (0 : Int32)), (.ref a2)])) (fun tt_ kk_ => XS.lxor X0.here hx rfl (hb hby d1_34) rfl kk_) ?_
  obtain ⟨T1, h1, X1, eh1, W1, st1⟩ := stoJ X0 hx hZ eh0 V2 (j := (0 : Int32)) (i := 0) (x := (f0 ^^^ ((-q1) &&& (f0 ^^^ k0)))) (Ls := #[.val (.long q1), .second, .val (.ref a2), .val (.ref a3), .val (.long (-q1)), .second, .val (.int (0 : Int32)), .val (.long ((-q1) &&& (f0 ^^^ k0))), .second]) (rest := []) (by decide) rfl (by decide) (hb hby d1_35)
  have fa2 := V3.other W1 (Ne.symm n23)
  have za3 : n0 ≤ h1.size := Nat.le_trans Z0 (Nat.le_of_eq W1.size.symm)
  have V1 : LA Z h1 a2 .long 5 (gl [(.long (f0 ^^^ ((-q1) &&& (f0 ^^^ k0)))), (.long f1), (.long f2), (.long f3), (.long f4)] (.long (0 : Int64))) := V2.setL W1 (Nat.le_of_ble_eq_true rfl)
  have Ka4 := (Keep.refl h0 [a2, a3]).wr W1 (Or.inl (List.mem_of_getElem? (i := 0) rfl))
  have N1 := Fr.snoc X1 N0 g2
  refine Gq.go (T1.setTop (mkF m 36 #[.val (.long q1), .second, .val (.ref a2), .val (.ref a3), .val (.long (-q1)), .second, .val (.int (0 : Int32)), .val (.long ((-q1) &&& (f0 ^^^ k0))), .second] [])) (fun tt_ kk_ => st1 tt_ kk_) ?_
  refine Gq.go (T1.setTop (mkF m 37 #[.val (.long q1), .second, .val (.ref a2), .val (.ref a3), .val (.long (-q1)), .second, .val (.int (0 : Int32)), .val (.long ((-q1) &&& (f0 ^^^ k0))), .second] [(.ref a3)])) (fun tt_ kk_ => XS.aloadN X1.here hx rfl (hb hby d1_36) rfl rfl kk_) ?_
  refine Gq.go (T1.setTop (mkF m 39 #[.val (.long q1), .second, .val (.ref a2), .val (.ref a3), .val (.long (-q1)), .second, .val (.int (0 : Int32)), .val (.long ((-q1) &&& (f0 ^^^ k0))), .second] [(.int (0 : Int32)), (.ref a3)])) (fun tt_ kk_ => XS.iload X1.here hx rfl (hb hby d1_37) rfl kk_) ?_
  refine Gq.go (T1.setTop (mkF m 40 #[.val (.long q1), .second, .val (.ref a2), .val (.ref a3), .val (.long (-q1)), .second, .val (.int (0 : Int32)), .val (.long ((-q1) &&& (f0 ^^^ k0))), .second] [(.int (0 : Int32)), (.ref a3), (.int (0 : Int32)), (.ref a3)])) (fun tt_ kk_ => Jvm.Free.XT.dup2 X1.here hx rfl (hb hby d1_39) rfl rfl rfl kk_) ?_
  refine Gq.go (T1.setTop (mkF m 41 #[.val (.long q1), .second, .val (.ref a2), .val (.ref a3), .val (.long (-q1)), .second, .val (.int (0 : Int32)), .val (.long ((-q1) &&& (f0 ^^^ k0))), .second] [(.long k0), (.int (0 : Int32)), (.ref a3)])) (fun tt_ kk_ => ldJ X1 hx hZ eh1 fa2 (j := (0 : Int32)) (i := 0) (x := k0) (by decide) rfl (by decide) rfl (hb hby d1_40) tt_ kk_) ?_
  refine Gq.go (T1.setTop (mkF m 43 #[.val (.long q1), .second, .val (.ref a2), .val (.ref a3), .val (.long (-q1)), .second, .val (.int (0 : Int32)), .val (.long ((-q1) &&& (f0 ^^^ k0))), .second] [(.long ((-q1) &&& (f0 ^^^ k0))), (.long k0), (.int (0 : Int32)), (.ref a3)])) (fun tt_ kk_ => XS.lload X1.here hx rfl (hb hby d1_41) rfl kk_) ?_
  refine Gq.go (T1.setTop (mkF m 44 #[.val (.long q1), .second, .val (.ref a2), .val (.ref a3), .val (.long (-q1)), .second, .val (.int (0 : Int32)), .val (.long ((-q1) &&& (f0 ^^^ k0))), .second] [(.long (k0 ^^^ ((-q1) &&& (f0 ^^^ k0)))), (.int (0 : Int32)), (.ref a3)])) (fun tt_ kk_ => XS.lxor X1.here hx rfl (hb hby d1_43) rfl kk_) ?_
  obtain ⟨T5, h5, X5, eh5, W5, st5⟩ := stoJ X1 hx hZ eh1 fa2 (j := (0 : Int32)) (i := 0) (x := (k0 ^^^ ((-q1) &&& (f0 ^^^ k0)))) (Ls := #[.val (.long q1), .second, .val (.ref a2), .val (.ref a3), .val (.long (-q1)), .second, .val (.int (0 : Int32)), .val (.long ((-q1) &&& (f0 ^^^ k0))), .second]) (rest := []) (by decide) rfl (by decide) (hb hby d1_44)
  have fa6 := V1.other W5 n23
  have za7 : n0 ≤ h5.size := Nat.le_trans za3 (Nat.le_of_eq W5.size.symm)
  have V5 : LA Z h5 a3 .long 5 (gl [(.long (k0 ^^^ ((-q1) &&& (f0 ^^^ k0)))), (.long k1), (.long k2), (.long k3), (.long k4)] (.long (0 : Int64))) := fa2.setL W5 (Nat.le_of_ble_eq_true rfl)
  have Ka8 := Ka4.wr W5 (Or.inl (List.mem_of_getElem? (i := 1) rfl))
  have N5 := Fr.snoc X5 N1 g3
  refine Gq.go (T5.setTop (mkF m 45 #[.val (.long q1), .second, .val (.ref a2), .val (.ref a3), .val (.long (-q1)), .second, .val (.int (0 : Int32)), .val (.long ((-q1) &&& (f0 ^^^ k0))), .second] [])) (fun tt_ kk_ => st5 tt_ kk_) ?_
  refine Gq.go (T5.setTop (mkF m 48 #[.val (.long q1), .second, .val (.ref a2), .val (.ref a3), .val (.long (-q1)), .second, .val (.int (1 : Int32)), .val (.long ((-q1) &&& (f0 ^^^ k0))), .second] [])) (fun tt_ kk_ => XS.iinc X5.here hx rfl (hb hby d1_45) rfl (l' := #[.val (.long q1), .second, .val (.ref a2), .val (.ref a3), .val (.long (-q1)), .second, .val (.int (1 : Int32)), .val (.long ((-q1) &&& (f0 ^^^ k0))), .second]) rfl kk_) ?_
  refine Gq.go (T5.setTop (mkF m 7 #[.val (.long q1), .second, .val (.ref a2), .val (.ref a3), .val (.long (-q1)), .second, .val (.int (1 : Int32)), .val (.long ((-q1) &&& (f0 ^^^ k0))), .second] [])) (fun tt_ kk_ => XS.goto X5.here hx rfl (pc0 := 48) (pc' := 7) rfl (hb hby d1_48) (by decide) (by decide) kk_) ?_
  refine Gq.go (T5.setTop (mkF m 9 #[.val (.long q1), .second, .val (.ref a2), .val (.ref a3), .val (.long (-q1)), .second, .val (.int (1 : Int32)), .val (.long ((-q1) &&& (f0 ^^^ k0))), .second] [(.int (1 : Int32))])) (fun tt_ kk_ => XS.iload X5.here hx rfl (hb hby d1_7) rfl kk_) ?_
  refine Gq.go (T5.setTop (mkF m 10 #[.val (.long q1), .second, .val (.ref a2), .val (.ref a3), .val (.long (-q1)), .second, .val (.int (1 : Int32)), .val (.long ((-q1) &&& (f0 ^^^ k0))), .second] [(.int (5 : Int32)), (.int (1 : Int32))])) (fun tt_ kk_ => XS.iconst X5.here hx rfl (hb hby d1_9) kk_) ?_
  refine Gq.go (T5.setTop (mkF m 13 #[.val (.long q1), .second, .val (.ref a2), .val (.ref a3), .val (.long (-q1)), .second, .val (.int (1 : Int32)), .val (.long ((-q1) &&& (f0 ^^^ k0))), .second] [])) (fun tt_ kk_ => XS.icmpNo X5.here hx rfl (hb hby d1_10) rfl (tlt (by decide : ((1 : Int32) < (5 : Int32)))).2.1 kk_) ?_
  refine Gq.go (T5.setTop (mkF m 15 #[.val (.long q1), .second, .val (.ref a2), .val (.ref a3), .val (.long (-q1)), .second, .val (.int (1 : Int32)), .val (.long ((-q1) &&& (f0 ^^^ k0))), .second] [(.long (-q1))])) (fun tt_ kk_ => XS.lload X5.here hx rfl (hb hby d1_13) rfl kk_) ?_
  refine Gq.go (T5.setTop (mkF m 16 #[.val (.long q1), .second, .val (.ref a2), .val (.ref a3), .val (.long (-q1)), .second, .val (.int (1 : Int32)), .val (.long ((-q1) &&& (f0 ^^^ k0))), .second] [(.ref a2), (.long (-q1))])) (fun tt_ kk_ => XS.aloadN X5.here hx rfl (hb hby d1_15) rfl rfl kk_) ?_
  refine Gq.go (T5.setTop (mkF m 18 #[.val (.long q1), .second, .val (.ref a2), .val (.ref a3), .val (.long (-q1)), .second, .val (.int (1 : Int32)), .val (.long ((-q1) &&& (f0 ^^^ k0))), .second] [(.int (1 : Int32)), (.ref a2), (.long (-q1))])) (fun tt_ kk_ => XS.iload X5.here hx rfl (hb hby d1_16) rfl kk_) ?_
  refine Gq.go (T5.setTop (mkF m 19 #[.val (.long q1), .second, .val (.ref a2), .val (.ref a3), .val (.long (-q1)), .second, .val (.int (1 : Int32)), .val (.long ((-q1) &&& (f0 ^^^ k0))), .second] [(.long f1), (.long (-q1))])) (fun tt_ kk_ => ldJ X5 hx hZ eh5 fa6 (j := (1 : Int32)) (i := 1) (x := f1) (by decide) rfl (by decide) rfl (hb hby d1_18) tt_ kk_) ?_
  refine Gq.go (T5.setTop (mkF m 20 #[.val (.long q1), .second, .val (.ref a2), .val (.ref a3), .val (.long (-q1)), .second, .val (.int (1 : Int32)), .val (.long ((-q1) &&& (f0 ^^^ k0))), .second] [(.ref a3), (.long f1), (.long (-q1))])) (fun tt_ kk_ => XS.aloadN X5.here hx rfl (hb hby d1_19) rfl rfl kk_) ?_
  refine Gq.go (T5.setTop (mkF m 22 #[.val (.long q1), .second, .val (.ref a2), .val (.ref a3), .val (.long (-q1)), .second, .val (.int (1 : Int32)), .val (.long ((-q1) &&& (f0 ^^^ k0))), .second] [(.int (1 : Int32)), (.ref a3), (.long f1), (.long (-q1))])) (fun tt_ kk_ => XS.iload X5.here hx rfl (hb hby d1_20) rfl kk_) ?_
  refine Gq.go (T5.setTop (mkF m 23 #[.val (.long q1), .second, .val (.ref a2), .val (.ref a3), .val (.long (-q1)), .second, .val (.int (1 : Int32)), .val (.long ((-q1) &&& (f0 ^^^ k0))), .second] [(.long k1), (.long f1), (.long (-q1))])) (fun tt_ kk_ => ldJ X5 hx hZ eh5 V5 (j := (1 : Int32)) (i := 1) (x := k1) (by decide) rfl (by decide) rfl (hb hby d1_22) tt_ kk_) ?_
  refine Gq.go (T5.setTop (mkF m 24 #[.val (.long q1), .second, .val (.ref a2), .val (.ref a3), .val (.long (-q1)), .second, .val (.int (1 : Int32)), .val (.long ((-q1) &&& (f0 ^^^ k0))), .second] [(.long (f1 ^^^ k1)), (.long (-q1))])) (fun tt_ kk_ => XS.lxor X5.here hx rfl (hb hby d1_23) rfl kk_) ?_
  refine Gq.go (T5.setTop (mkF m 25 #[.val (.long q1), .second, .val (.ref a2), .val (.ref a3), .val (.long (-q1)), .second, .val (.int (1 : Int32)), .val (.long ((-q1) &&& (f0 ^^^ k0))), .second] [(.long ((-q1) &&& (f1 ^^^ k1)))])) (fun tt_ kk_ => XS.land X5.here hx rfl (hb hby d1_24) rfl kk_) ?_
  refine Gq.go (T5.setTop (mkF m 27 #[.val (.long q1), .second, .val (.ref a2), .val (.ref a3), .val (.long (-q1)), .second, .val (.int (1 : Int32)), .val (.long ((-q1) &&& (f1 ^^^ k1))), .second] [])) (fun tt_ kk_ => XS.lstore X5.here hx rfl (hb hby d1_25) rfl (l' := #[.val (.long q1), .second, .val (.ref a2), .val (.ref a3), .val (.long (-q1)), .second, .val (.int (1 : Int32)), .val (.long ((-q1) &&& (f1 ^^^ k1))), .second]) rfl kk_) ?_
  refine Gq.go (T5.setTop (mkF m 28 #[.val (.long q1), .second, .val (.ref a2), .val (.ref a3), .val (.long (-q1)), .second, .val (.int (1 : Int32)), .val (.long ((-q1) &&& (f1 ^^^ k1))), .second] [(.ref a2)])) (fun tt_ kk_ => XS.aloadN X5.here hx rfl (hb hby d1_27) rfl rfl kk_) ?_
  refine Gq.go (T5.setTop (mkF m 30 #[.val (.long q1), .second, .val (.ref a2), .val (.ref a3), .val (.long (-q1)), .second, .val (.int (1 : Int32)), .val (.long ((-q1) &&& (f1 ^^^ k1))), .second] [(.int (1 : Int32)), (.ref a2)])) (fun tt_ kk_ => XS.iload X5.here hx rfl (hb hby d1_28) rfl kk_) ?_
  refine Gq.go (T5.setTop (mkF m 31 #[.val (.long q1), .second, .val (.ref a2), .val (.ref a3), .val (.long (-q1)), .second, .val (.int (1 : Int32)), .val (.long ((-q1) &&& (f1 ^^^ k1))), .second] [(.int (1 : Int32)), (.ref a2), (.int (1 : Int32)), (.ref a2)])) (fun tt_ kk_ => Jvm.Free.XT.dup2 X5.here hx rfl (hb hby d1_30) rfl rfl rfl kk_) ?_
  refine Gq.go (T5.setTop (mkF m 32 #[.val (.long q1), .second, .val (.ref a2), .val (.ref a3), .val (.long (-q1)), .second, .val (.int (1 : Int32)), .val (.long ((-q1) &&& (f1 ^^^ k1))), .second] [(.long f1), (.int (1 : Int32)), (.ref a2)])) (fun tt_ kk_ => ldJ X5 hx hZ eh5 fa6 (j := (1 : Int32)) (i := 1) (x := f1) (by decide) rfl (by decide) rfl (hb hby d1_31) tt_ kk_) ?_
  refine Gq.go (T5.setTop (mkF m 34 #[.val (.long q1), .second, .val (.ref a2), .val (.ref a3), .val (.long (-q1)), .second, .val (.int (1 : Int32)), .val (.long ((-q1) &&& (f1 ^^^ k1))), .second] [(.long ((-q1) &&& (f1 ^^^ k1))), (.long f1), (.int (1 : Int32)), (.ref a2)])) (fun tt_ kk_ => XS.lload X5.here hx rfl (hb hby d1_32) rfl kk_) ?_
  refine Gq.go (T5.setTop (mkF m 35 #[.val (.long q1), .second, .val (.ref a2), .val (.ref a3), .val (.long (-q1)), .second, .val (.int (1 : Int32)), .val (.long ((-q1) &&& (f1 ^^^ k1))), .second] [(.long (f1 ^^^ ((-q1) &&& (f1 ^^^ k1)))), (.int (1 : Int32)), (.ref a2)])) (fun tt_ kk_ => XS.lxor X5.here hx rfl (hb hby d1_34) rfl kk_) ?_
  obtain ⟨T9, h9, X9, eh9, W9, st9⟩ := stoJ X5 hx hZ eh5 fa6 (j := (1 : Int32)) (i := 1) (x := (f1 ^^^ ((-q1) &&& (f1 ^^^ k1)))) (Ls := #[.val (.long q1), .second, .val (.ref a2), .val (.ref a3), .val (.long (-q1)), .second, .val (.int (1 : Int32)), .val (.long ((-q1) &&& (f1 ^^^ k1))), .second]) (rest := []) (by decide) rfl (by decide) (hb hby d1_35)
  have fa10 := V5.other W9 (Ne.symm n23)
  have za11 : n0 ≤ h9.size := Nat.le_trans za7 (Nat.le_of_eq W9.size.symm)
  have V9 : LA Z h9 a2 .long 5 (gl [(.long (f0 ^^^ ((-q1) &&& (f0 ^^^ k0)))), (.long (f1 ^^^ ((-q1) &&& (f1 ^^^ k1)))), (.long f2), (.long f3), (.long f4)] (.long (0 : Int64))) := fa6.setL W9 (Nat.le_of_ble_eq_true rfl)
  have Ka12 := Ka8.wr W9 (Or.inl (List.mem_of_getElem? (i := 0) rfl))
  have N9 := Fr.snoc X9 N5 g2
  refine Gq.go (T9.setTop (mkF m 36 #[.val (.long q1), .second, .val (.ref a2), .val (.ref a3), .val (.long (-q1)), .second, .val (.int (1 : Int32)), .val (.long ((-q1) &&& (f1 ^^^ k1))), .second] [])) (fun tt_ kk_ => st9 tt_ kk_) ?_
  refine Gq.go (T9.setTop (mkF m 37 #[.val (.long q1), .second, .val (.ref a2), .val (.ref a3), .val (.long (-q1)), .second, .val (.int (1 : Int32)), .val (.long ((-q1) &&& (f1 ^^^ k1))), .second] [(.ref a3)])) (fun tt_ kk_ => XS.aloadN X9.here hx rfl (hb hby d1_36) rfl rfl kk_) ?_
  refine Gq.go (T9.setTop (mkF m 39 #[.val (.long q1), .second, .val (.ref a2), .val (.ref a3), .val (.long (-q1)), .second, .val (.int (1 : Int32)), .val (.long ((-q1) &&& (f1 ^^^ k1))), .second] [(.int (1 : Int32)), (.ref a3)])) (fun tt_ kk_ => XS.iload X9.here hx rfl (hb hby d1_37) rfl kk_) ?_
  refine Gq.go (T9.setTop (mkF m 40 #[.val (.long q1), .second, .val (.ref a2), .val (.ref a3), .val (.long (-q1)), .second, .val (.int (1 : Int32)), .val (.long ((-q1) &&& (f1 ^^^ k1))), .second] [(.int (1 : Int32)), (.ref a3), (.int (1 : Int32)), (.ref a3)])) (fun tt_ kk_ => Jvm.Free.XT.dup2 X9.here hx rfl (hb hby d1_39) rfl rfl rfl kk_) ?_
  refine Gq.go (T9.setTop (mkF m 41 #[.val (.long q1), .second, .val (.ref a2), .val (.ref a3), .val (.long (-q1)), .second, .val (.int (1 : Int32)), .val (.long ((-q1) &&& (f1 ^^^ k1))), .second] [(.long k1), (.int (1 : Int32)), (.ref a3)])) (fun tt_ kk_ => ldJ X9 hx hZ eh9 fa10 (j := (1 : Int32)) (i := 1) (x := k1) (by decide) rfl (by decide) rfl (hb hby d1_40) tt_ kk_) ?_
  refine Gq.go (T9.setTop (mkF m 43 #[.val (.long q1), .second, .val (.ref a2), .val (.ref a3), .val (.long (-q1)), .second, .val (.int (1 : Int32)), .val (.long ((-q1) &&& (f1 ^^^ k1))), .second] [(.long ((-q1) &&& (f1 ^^^ k1))), (.long k1), (.int (1 : Int32)), (.ref a3)])) (fun tt_ kk_ => XS.lload X9.here hx rfl (hb hby d1_41) rfl kk_) ?_
  refine Gq.go (T9.setTop (mkF m 44 #[.val (.long q1), .second, .val (.ref a2), .val (.ref a3), .val (.long (-q1)), .second, .val (.int (1 : Int32)), .val (.long ((-q1) &&& (f1 ^^^ k1))), .second] [(.long (k1 ^^^ ((-q1) &&& (f1 ^^^ k1)))), (.int (1 : Int32)), (.ref a3)])) (fun tt_ kk_ => XS.lxor X9.here hx rfl (hb hby d1_43) rfl kk_) ?_
  obtain ⟨T13, h13, X13, eh13, W13, st13⟩ := stoJ X9 hx hZ eh9 fa10 (j := (1 : Int32)) (i := 1) (x := (k1 ^^^ ((-q1) &&& (f1 ^^^ k1)))) (Ls := #[.val (.long q1), .second, .val (.ref a2), .val (.ref a3), .val (.long (-q1)), .second, .val (.int (1 : Int32)), .val (.long ((-q1) &&& (f1 ^^^ k1))), .second]) (rest := []) (by decide) rfl (by decide) (hb hby d1_44)
  have fa14 := V9.other W13 n23
  have za15 : n0 ≤ h13.size := Nat.le_trans za11 (Nat.le_of_eq W13.size.symm)
  have V13 : LA Z h13 a3 .long 5 (gl [(.long (k0 ^^^ ((-q1) &&& (f0 ^^^ k0)))), (.long (k1 ^^^ ((-q1) &&& (f1 ^^^ k1)))), (.long k2), (.long k3), (.long k4)] (.long (0 : Int64))) := fa10.setL W13 (Nat.le_of_ble_eq_true rfl)
  have Ka16 := Ka12.wr W13 (Or.inl (List.mem_of_getElem? (i := 1) rfl))
  have N13 := Fr.snoc X13 N9 g3
  refine Gq.go (T13.setTop (mkF m 45 #[.val (.long q1), .second, .val (.ref a2), .val (.ref a3), .val (.long (-q1)), .second, .val (.int (1 : Int32)), .val (.long ((-q1) &&& (f1 ^^^ k1))), .second] [])) (fun tt_ kk_ => st13 tt_ kk_) ?_
  refine Gq.go (T13.setTop (mkF m 48 #[.val (.long q1), .second, .val (.ref a2), .val (.ref a3), .val (.long (-q1)), .second, .val (.int (2 : Int32)), .val (.long ((-q1) &&& (f1 ^^^ k1))), .second] [])) (fun tt_ kk_ => XS.iinc X13.here hx rfl (hb hby d1_45) rfl (l' := #[.val (.long q1), .second, .val (.ref a2), .val (.ref a3), .val (.long (-q1)), .second, .val (.int (2 : Int32)), .val (.long ((-q1) &&& (f1 ^^^ k1))), .second]) rfl kk_) ?_
  refine Gq.go (T13.setTop (mkF m 7 #[.val (.long q1), .second, .val (.ref a2), .val (.ref a3), .val (.long (-q1)), .second, .val (.int (2 : Int32)), .val (.long ((-q1) &&& (f1 ^^^ k1))), .second] [])) (fun tt_ kk_ => XS.goto X13.here hx rfl (pc0 := 48) (pc' := 7) rfl (hb hby d1_48) (by decide) (by decide) kk_) ?_
  refine Gq.go (T13.setTop (mkF m 9 #[.val (.long q1), .second, .val (.ref a2), .val (.ref a3), .val (.long (-q1)), .second, .val (.int (2 : Int32)), .val (.long ((-q1) &&& (f1 ^^^ k1))), .second] [(.int (2 : Int32))])) (fun tt_ kk_ => XS.iload X13.here hx rfl (hb hby d1_7) rfl kk_) ?_
  refine Gq.go (T13.setTop (mkF m 10 #[.val (.long q1), .second, .val (.ref a2), .val (.ref a3), .val (.long (-q1)), .second, .val (.int (2 : Int32)), .val (.long ((-q1) &&& (f1 ^^^ k1))), .second] [(.int (5 : Int32)), (.int (2 : Int32))])) (fun tt_ kk_ => XS.iconst X13.here hx rfl (hb hby d1_9) kk_) ?_
  refine Gq.go (T13.setTop (mkF m 13 #[.val (.long q1), .second, .val (.ref a2), .val (.ref a3), .val (.long (-q1)), .second, .val (.int (2 : Int32)), .val (.long ((-q1) &&& (f1 ^^^ k1))), .second] [])) (fun tt_ kk_ => XS.icmpNo X13.here hx rfl (hb hby d1_10) rfl (tlt (by decide : ((2 : Int32) < (5 : Int32)))).2.1 kk_) ?_
  refine Gq.go (T13.setTop (mkF m 15 #[.val (.long q1), .second, .val (.ref a2), .val (.ref a3), .val (.long (-q1)), .second, .val (.int (2 : Int32)), .val (.long ((-q1) &&& (f1 ^^^ k1))), .second] [(.long (-q1))])) (fun tt_ kk_ => XS.lload X13.here hx rfl (hb hby d1_13) rfl kk_) ?_
  refine Gq.go (T13.setTop (mkF m 16 #[.val (.long q1), .second, .val (.ref a2), .val (.ref a3), .val (.long (-q1)), .second, .val (.int (2 : Int32)), .val (.long ((-q1) &&& (f1 ^^^ k1))), .second] [(.ref a2), (.long (-q1))])) (fun tt_ kk_ => XS.aloadN X13.here hx rfl (hb hby d1_15) rfl rfl kk_) ?_
  refine Gq.go (T13.setTop (mkF m 18 #[.val (.long q1), .second, .val (.ref a2), .val (.ref a3), .val (.long (-q1)), .second, .val (.int (2 : Int32)), .val (.long ((-q1) &&& (f1 ^^^ k1))), .second] [(.int (2 : Int32)), (.ref a2), (.long (-q1))])) (fun tt_ kk_ => XS.iload X13.here hx rfl (hb hby d1_16) rfl kk_) ?_
  refine Gq.go (T13.setTop (mkF m 19 #[.val (.long q1), .second, .val (.ref a2), .val (.ref a3), .val (.long (-q1)), .second, .val (.int (2 : Int32)), .val (.long ((-q1) &&& (f1 ^^^ k1))), .second] [(.long f2), (.long (-q1))])) (fun tt_ kk_ => ldJ X13 hx hZ eh13 fa14 (j := (2 : Int32)) (i := 2) (x := f2) (by decide) rfl (by decide) rfl (hb hby d1_18) tt_ kk_) ?_
  refine Gq.go (T13.setTop (mkF m 20 #[.val (.long q1), .second, .val (.ref a2), .val (.ref a3), .val (.long (-q1)), .second, .val (.int (2 : Int32)), .val (.long ((-q1) &&& (f1 ^^^ k1))), .second] [(.ref a3), (.long f2), (.long (-q1))])) (fun tt_ kk_ => XS.aloadN X13.here hx rfl (hb hby d1_19) rfl rfl kk_) ?_
  refine Gq.go (T13.setTop (mkF m 22 #[.val (.long q1), .second, .val (.ref a2), .val (.ref a3), .val (.long (-q1)), .second, .val (.int (2 : Int32)), .val (.long ((-q1) &&& (f1 ^^^ k1))), .second] [(.int (2 : Int32)), (.ref a3), (.long f2), (.long (-q1))])) (fun tt_ kk_ => XS.iload X13.here hx rfl (hb hby d1_20) rfl kk_) ?_
  refine Gq.go (T13.setTop (mkF m 23 #[.val (.long q1), .second, .val (.ref a2), .val (.ref a3), .val (.long (-q1)), .second, .val (.int (2 : Int32)), .val (.long ((-q1) &&& (f1 ^^^ k1))), .second] [(.long k2), (.long f2), (.long (-q1))])) (fun tt_ kk_ => ldJ X13 hx hZ eh13 V13 (j := (2 : Int32)) (i := 2) (x := k2) (by decide) rfl (by decide) rfl (hb hby d1_22) tt_ kk_) ?_
  refine Gq.go (T13.setTop (mkF m 24 #[.val (.long q1), .second, .val (.ref a2), .val (.ref a3), .val (.long (-q1)), .second, .val (.int (2 : Int32)), .val (.long ((-q1) &&& (f1 ^^^ k1))), .second] [(.long (f2 ^^^ k2)), (.long (-q1))])) (fun tt_ kk_ => XS.lxor X13.here hx rfl (hb hby d1_23) rfl kk_) ?_
  refine Gq.go (T13.setTop (mkF m 25 #[.val (.long q1), .second, .val (.ref a2), .val (.ref a3), .val (.long (-q1)), .second, .val (.int (2 : Int32)), .val (.long ((-q1) &&& (f1 ^^^ k1))), .second] [(.long ((-q1) &&& (f2 ^^^ k2)))])) (fun tt_ kk_ => XS.land X13.here hx rfl (hb hby d1_24) rfl kk_) ?_
  refine Gq.go (T13.setTop (mkF m 27 #[.val (.long q1), .second, .val (.ref a2), .val (.ref a3), .val (.long (-q1)), .second, .val (.int (2 : Int32)), .val (.long ((-q1) &&& (f2 ^^^ k2))), .second] [])) (fun tt_ kk_ => XS.lstore X13.here hx rfl (hb hby d1_25) rfl (l' := #[.val (.long q1), .second, .val (.ref a2), .val (.ref a3), .val (.long (-q1)), .second, .val (.int (2 : Int32)), .val (.long ((-q1) &&& (f2 ^^^ k2))), .second]) rfl kk_) ?_
  refine Gq.go (T13.setTop (mkF m 28 #[.val (.long q1), .second, .val (.ref a2), .val (.ref a3), .val (.long (-q1)), .second, .val (.int (2 : Int32)), .val (.long ((-q1) &&& (f2 ^^^ k2))), .second] [(.ref a2)])) (fun tt_ kk_ => XS.aloadN X13.here hx rfl (hb hby d1_27) rfl rfl kk_) ?_
  refine Gq.go (T13.setTop (mkF m 30 #[.val (.long q1), .second, .val (.ref a2), .val (.ref a3), .val (.long (-q1)), .second, .val (.int (2 : Int32)), .val (.long ((-q1) &&& (f2 ^^^ k2))), .second] [(.int (2 : Int32)), (.ref a2)])) (fun tt_ kk_ => XS.iload X13.here hx rfl (hb hby d1_28) rfl kk_) ?_
  refine Gq.go (T13.setTop (mkF m 31 #[.val (.long q1), .second, .val (.ref a2), .val (.ref a3), .val (.long (-q1)), .second, .val (.int (2 : Int32)), .val (.long ((-q1) &&& (f2 ^^^ k2))), .second] [(.int (2 : Int32)), (.ref a2), (.int (2 : Int32)), (.ref a2)])) (fun tt_ kk_ => Jvm.Free.XT.dup2 X13.here hx rfl (hb hby d1_30) rfl rfl rfl kk_) ?_
  refine Gq.go (T13.setTop (mkF m 32 #[.val (.long q1), .second, .val (.ref a2), .val (.ref a3), .val (.long (-q1)), .second, .val (.int (2 : Int32)), .val (.long ((-q1) &&& (f2 ^^^ k2))), .second] [(.long f2), (.int (2 : Int32)), (.ref a2)])) (fun tt_ kk_ => ldJ X13 hx hZ eh13 fa14 (j := (2 : Int32)) (i := 2) (x := f2) (by decide) rfl (by decide) rfl (hb hby d1_31) tt_ kk_) ?_
  refine Gq.go (T13.setTop (mkF m 34 #[.val (.long q1), .second, .val (.ref a2), .val (.ref a3), .val (.long (-q1)), .second, .val (.int (2 : Int32)), .val (.long ((-q1) &&& (f2 ^^^ k2))), .second] [(.long ((-q1) &&& (f2 ^^^ k2))), (.long f2), (.int (2 : Int32)), (.ref a2)])) (fun tt_ kk_ => XS.lload X13.here hx rfl (hb hby d1_32) rfl kk_) ?_
  refine Gq.go (T13.setTop (mkF m 35 #[.val (.long q1), .second, .val (.ref a2), .val (.ref a3), .val (.long (-q1)), .second, .val (.int (2 : Int32)), .val (.long ((-q1) &&& (f2 ^^^ k2))), .second] [(.long (f2 ^^^ ((-q1) &&& (f2 ^^^ k2)))), (.int (2 : Int32)), (.ref a2)])) (fun tt_ kk_ => XS.lxor X13.here hx rfl (hb hby d1_34) rfl kk_) ?_
  obtain ⟨T17, h17, X17, eh17, W17, st17⟩ := stoJ X13 hx hZ eh13 fa14 (j := (2 : Int32)) (i := 2) (x := (f2 ^^^ ((-q1) &&& (f2 ^^^ k2)))) (Ls := #[.val (.long q1), .second, .val (.ref a2), .val (.ref a3), .val (.long (-q1)), .second, .val (.int (2 : Int32)), .val (.long ((-q1) &&& (f2 ^^^ k2))), .second]) (rest := []) (by decide) rfl (by decide) (hb hby d1_35)
  have fa18 := V13.other W17 (Ne.symm n23)
  have za19 : n0 ≤ h17.size := Nat.le_trans za15 (Nat.le_of_eq W17.size.symm)
  have V17 : LA Z h17 a2 .long 5 (gl [(.long (f0 ^^^ ((-q1) &&& (f0 ^^^ k0)))), (.long (f1 ^^^ ((-q1) &&& (f1 ^^^ k1)))), (.long (f2 ^^^ ((-q1) &&& (f2 ^^^ k2)))), (.long f3), (.long f4)] (.long (0 : Int64))) := fa14.setL W17 (Nat.le_of_ble_eq_true rfl)
  have Ka20 := Ka16.wr W17 (Or.inl (List.mem_of_getElem? (i := 0) rfl))
  have N17 := Fr.snoc X17 N13 g2
  refine Gq.go (T17.setTop (mkF m 36 #[.val (.long q1), .second, .val (.ref a2), .val (.ref a3), .val (.long (-q1)), .second, .val (.int (2 : Int32)), .val (.long ((-q1) &&& (f2 ^^^ k2))), .second] [])) (fun tt_ kk_ => st17 tt_ kk_) ?_
  refine Gq.go (T17.setTop (mkF m 37 #[.val (.long q1), .second, .val (.ref a2), .val (.ref a3), .val (.long (-q1)), .second, .val (.int (2 : Int32)), .val (.long ((-q1) &&& (f2 ^^^ k2))), .second] [(.ref a3)])) (fun tt_ kk_ => XS.aloadN X17.here hx rfl (hb hby d1_36) rfl rfl kk_) ?_
  refine Gq.go (T17.setTop (mkF m 39 #[.val (.long q1), .second, .val (.ref a2), .val (.ref a3), .val (.long (-q1)), .second, .val (.int (2 : Int32)), .val (.long ((-q1) &&& (f2 ^^^ k2))), .second] [(.int (2 : Int32)), (.ref a3)])) (fun tt_ kk_ => XS.iload X17.here hx rfl (hb hby d1_37) rfl kk_) ?_
  refine Gq.go (T17.setTop (mkF m 40 #[.val (.long q1), .second, .val (.ref a2), .val (.ref a3), .val (.long (-q1)), .second, .val (.int (2 : Int32)), .val (.long ((-q1) &&& (f2 ^^^ k2))), .second] [(.int (2 : Int32)), (.ref a3), (.int (2 : Int32)), (.ref a3)])) (fun tt_ kk_ => Jvm.Free.XT.dup2 X17.here hx rfl (hb hby d1_39) rfl rfl rfl kk_) ?_
  refine Gq.go (T17.setTop (mkF m 41 #[.val (.long q1), .second, .val (.ref a2), .val (.ref a3), .val (.long (-q1)), .second, .val (.int (2 : Int32)), .val (.long ((-q1) &&& (f2 ^^^ k2))), .second] [(.long k2), (.int (2 : Int32)), (.ref a3)])) (fun tt_ kk_ => ldJ X17 hx hZ eh17 fa18 (j := (2 : Int32)) (i := 2) (x := k2) (by decide) rfl (by decide) rfl (hb hby d1_40) tt_ kk_) ?_
  refine Gq.go (T17.setTop (mkF m 43 #[.val (.long q1), .second, .val (.ref a2), .val (.ref a3), .val (.long (-q1)), .second, .val (.int (2 : Int32)), .val (.long ((-q1) &&& (f2 ^^^ k2))), .second] [(.long ((-q1) &&& (f2 ^^^ k2))), (.long k2), (.int (2 : Int32)), (.ref a3)])) (fun tt_ kk_ => XS.lload X17.here hx rfl (hb hby d1_41) rfl kk_) ?_
  refine Gq.go (T17.setTop (mkF m 44 #[.val (.long q1), .second, .val (.ref a2), .val (.ref a3), .val (.long (-q1)), .second, .val (.int (2 : Int32)), .val (.long ((-q1) &&& (f2 ^^^ k2))), .second] [(.long (k2 ^^^ ((-q1) &&& (f2 ^^^ k2)))), (.int (2 : Int32)), (.ref a3)])) (fun tt_ kk_ => XS.lxor X17.here hx rfl (hb hby d1_43) rfl kk_) ?_
  obtain ⟨T21, h21, X21, eh21, W21, st21⟩ := stoJ X17 hx hZ eh17 fa18 (j := (2 : Int32)) (i := 2) (x := (k2 ^^^ ((-q1) &&& (f2 ^^^ k2)))) (Ls := #[.val (.long q1), .second, .val (.ref a2), .val (.ref a3), .val (.long (-q1)), .second, .val (.int (2 : Int32)), .val (.long ((-q1) &&& (f2 ^^^ k2))), .second]) (rest := []) (by decide) rfl (by decide) (hb hby d1_44)
  have fa22 := V17.other W21 n23
  have za23 : n0 ≤ h21.size := Nat.le_trans za19 (Nat.le_of_eq W21.size.symm)
  have V21 : LA Z h21 a3 .long 5 (gl [(.long (k0 ^^^ ((-q1) &&& (f0 ^^^ k0)))), (.long (k1 ^^^ ((-q1) &&& (f1 ^^^ k1)))), (.long (k2 ^^^ ((-q1) &&& (f2 ^^^ k2)))), (.long k3), (.long k4)] (.long (0 : Int64))) := fa18.setL W21 (Nat.le_of_ble_eq_true rfl)
  have Ka24 := Ka20.wr W21 (Or.inl (List.mem_of_getElem? (i := 1) rfl))
  have N21 := Fr.snoc X21 N17 g3
  refine Gq.go (T21.setTop (mkF m 45 #[.val (.long q1), .second, .val (.ref a2), .val (.ref a3), .val (.long (-q1)), .second, .val (.int (2 : Int32)), .val (.long ((-q1) &&& (f2 ^^^ k2))), .second] [])) (fun tt_ kk_ => st21 tt_ kk_) ?_
  refine Gq.go (T21.setTop (mkF m 48 #[.val (.long q1), .second, .val (.ref a2), .val (.ref a3), .val (.long (-q1)), .second, .val (.int (3 : Int32)), .val (.long ((-q1) &&& (f2 ^^^ k2))), .second] [])) (fun tt_ kk_ => XS.iinc X21.here hx rfl (hb hby d1_45) rfl (l' := #[.val (.long q1), .second, .val (.ref a2), .val (.ref a3), .val (.long (-q1)), .second, .val (.int (3 : Int32)), .val (.long ((-q1) &&& (f2 ^^^ k2))), .second]) rfl kk_) ?_
  refine Gq.go (T21.setTop (mkF m 7 #[.val (.long q1), .second, .val (.ref a2), .val (.ref a3), .val (.long (-q1)), .second, .val (.int (3 : Int32)), .val (.long ((-q1) &&& (f2 ^^^ k2))), .second] [])) (fun tt_ kk_ => XS.goto X21.here hx rfl (pc0 := 48) (pc' := 7) rfl (hb hby d1_48) (by decide) (by decide) kk_) ?_
  refine Gq.go (T21.setTop (mkF m 9 #[.val (.long q1), .second, .val (.ref a2), .val (.ref a3), .val (.long (-q1)), .second, .val (.int (3 : Int32)), .val (.long ((-q1) &&& (f2 ^^^ k2))), .second] [(.int (3 : Int32))])) (fun tt_ kk_ => XS.iload X21.here hx rfl (hb hby d1_7) rfl kk_) ?_
  refine Gq.go (T21.setTop (mkF m 10 #[.val (.long q1), .second, .val (.ref a2), .val (.ref a3), .val (.long (-q1)), .second, .val (.int (3 : Int32)), .val (.long ((-q1) &&& (f2 ^^^ k2))), .second] [(.int (5 : Int32)), (.int (3 : Int32))])) (fun tt_ kk_ => XS.iconst X21.here hx rfl (hb hby d1_9) kk_) ?_
  refine Gq.go (T21.setTop (mkF m 13 #[.val (.long q1), .second, .val (.ref a2), .val (.ref a3), .val (.long (-q1)), .second, .val (.int (3 : Int32)), .val (.long ((-q1) &&& (f2 ^^^ k2))), .second] [])) (fun tt_ kk_ => XS.icmpNo X21.here hx rfl (hb hby d1_10) rfl (tlt (by decide : ((3 : Int32) < (5 : Int32)))).2.1 kk_) ?_
  refine Gq.go (T21.setTop (mkF m 15 #[.val (.long q1), .second, .val (.ref a2), .val (.ref a3), .val (.long (-q1)), .second, .val (.int (3 : Int32)), .val (.long ((-q1) &&& (f2 ^^^ k2))), .second] [(.long (-q1))])) (fun tt_ kk_ => XS.lload X21.here hx rfl (hb hby d1_13) rfl kk_) ?_
  refine Gq.go (T21.setTop (mkF m 16 #[.val (.long q1), .second, .val (.ref a2), .val (.ref a3), .val (.long (-q1)), .second, .val (.int (3 : Int32)), .val (.long ((-q1) &&& (f2 ^^^ k2))), .second] [(.ref a2), (.long (-q1))])) (fun tt_ kk_ => XS.aloadN X21.here hx rfl (hb hby d1_15) rfl rfl kk_) ?_
  refine Gq.go (T21.setTop (mkF m 18 #[.val (.long q1), .second, .val (.ref a2), .val (.ref a3), .val (.long (-q1)), .second, .val (.int (3 : Int32)), .val (.long ((-q1) &&& (f2 ^^^ k2))), .second] [(.int (3 : Int32)), (.ref a2), (.long (-q1))])) (fun tt_ kk_ => XS.iload X21.here hx rfl (hb hby d1_16) rfl kk_) ?_
  refine Gq.go (T21.setTop (mkF m 19 #[.val (.long q1), .second, .val (.ref a2), .val (.ref a3), .val (.long (-q1)), .second, .val (.int (3 : Int32)), .val (.long ((-q1) &&& (f2 ^^^ k2))), .second] [(.long f3), (.long (-q1))])) (fun tt_ kk_ => ldJ X21 hx hZ eh21 fa22 (j := (3 : Int32)) (i := 3) (x := f3) (by decide) rfl (by decide) rfl (hb hby d1_18) tt_ kk_) ?_
  refine Gq.go (T21.setTop (mkF m 20 #[.val (.long q1), .second, .val (.ref a2), .val (.ref a3), .val (.long (-q1)), .second, .val (.int (3 : Int32)), .val (.long ((-q1) &&& (f2 ^^^ k2))), .second] [(.ref a3), (.long f3), (.long (-q1))])) (fun tt_ kk_ => XS.aloadN X21.here hx rfl (hb hby d1_19) rfl rfl kk_) ?_
  refine Gq.go (T21.setTop (mkF m 22 #[.val (.long q1), .second, .val (.ref a2), .val (.ref a3), .val (.long (-q1)), .second, .val (.int (3 : Int32)), .val (.long ((-q1) &&& (f2 ^^^ k2))), .second] [(.int (3 : Int32)), (.ref a3), (.long f3), (.long (-q1))])) (fun tt_ kk_ => XS.iload X21.here hx rfl (hb hby d1_20) rfl kk_) ?_
  refine Gq.go (T21.setTop (mkF m 23 #[.val (.long q1), .second, .val (.ref a2), .val (.ref a3), .val (.long (-q1)), .second, .val (.int (3 : Int32)), .val (.long ((-q1) &&& (f2 ^^^ k2))), .second] [(.long k3), (.long f3), (.long (-q1))])) (fun tt_ kk_ => ldJ X21 hx hZ eh21 V21 (j := (3 : Int32)) (i := 3) (x := k3) (by decide) rfl (by decide) rfl (hb hby d1_22) tt_ kk_) ?_
  refine Gq.go (T21.setTop (mkF m 24 #[.val (.long q1), .second, .val (.ref a2), .val (.ref a3), .val (.long (-q1)), .second, .val (.int (3 : Int32)), .val (.long ((-q1) &&& (f2 ^^^ k2))), .second] [(.long (f3 ^^^ k3)), (.long (-q1))])) (fun tt_ kk_ => XS.lxor X21.here hx rfl (hb hby d1_23) rfl kk_) ?_
  refine Gq.go (T21.setTop (mkF m 25 #[.val (.long q1), .second, .val (.ref a2), .val (.ref a3), .val (.long (-q1)), .second, .val (.int (3 : Int32)), .val (.long ((-q1) &&& (f2 ^^^ k2))), .second] [(.long ((-q1) &&& (f3 ^^^ k3)))])) (fun tt_ kk_ => XS.land X21.here hx rfl (hb hby d1_24) rfl kk_) ?_
  refine Gq.go (T21.setTop (mkF m 27 #[.val (.long q1), .second, .val (.ref a2), .val (.ref a3), .val (.long (-q1)), .second, .val (.int (3 : Int32)), .val (.long ((-q1) &&& (f3 ^^^ k3))), .second] [])) (fun tt_ kk_ => XS.lstore X21.here hx rfl (hb hby d1_25) rfl (l' := #[.val (.long q1), .second, .val (.ref a2), .val (.ref a3), .val (.long (-q1)), .second, .val (.int (3 : Int32)), .val (.long ((-q1) &&& (f3 ^^^ k3))), .second]) rfl kk_) ?_
  refine Gq.go (T21.setTop (mkF m 28 #[.val (.long q1), .second, .val (.ref a2), .val (.ref a3), .val (.long (-q1)), .second, .val (.int (3 : Int32)), .val (.long ((-q1) &&& (f3 ^^^ k3))), .second] [(.ref a2)])) (fun tt_ kk_ => XS.aloadN X21.here hx rfl (hb hby d1_27) rfl rfl kk_) ?_
  refine Gq.go (T21.setTop (mkF m 30 #[.val (.long q1), .second, .val (.ref a2), .val (.ref a3), .val (.long (-q1)), .second, .val (.int (3 : Int32)), .val (.long ((-q1) &&& (f3 ^^^ k3))), .second] [(.int (3 : Int32)), (.ref a2)])) (fun tt_ kk_ => XS.iload X21.here hx rfl (hb hby d1_28) rfl kk_) ?_
  refine Gq.go (T21.setTop (mkF m 31 #[.val (.long q1), .second, .val (.ref a2), .val (.ref a3), .val (.long (-q1)), .second, .val (.int (3 : Int32)), .val (.long ((-q1) &&& (f3 ^^^ k3))), .second] [(.int (3 : Int32)), (.ref a2), (.int (3 : Int32)), (.ref a2)])) (fun tt_ kk_ => Jvm.Free.XT.dup2 X21.here hx rfl (hb hby d1_30) rfl rfl rfl kk_) ?_
  refine Gq.go (T21.setTop (mkF m 32 #[.val (.long q1), .second, .val (.ref a2), .val (.ref a3), .val (.long (-q1)), .second, .val (.int (3 : Int32)), .val (.long ((-q1) &&& (f3 ^^^ k3))), .second] [(.long f3), (.int (3 : Int32)), (.ref a2)])) (fun tt_ kk_ => ldJ X21 hx hZ eh21 fa22 (j := (3 : Int32)) (i := 3) (x := f3) (by decide) rfl (by decide) rfl (hb hby d1_31) tt_ kk_) ?_
  refine Gq.go (T21.setTop (mkF m 34 #[.val (.long q1), .second, .val (.ref a2), .val (.ref a3), .val (.long (-q1)), .second, .val (.int (3 : Int32)), .val (.long ((-q1) &&& (f3 ^^^ k3))), .second] [(.long ((-q1) &&& (f3 ^^^ k3))), (.long f3), (.int (3 : Int32)), (.ref a2)])) (fun tt_ kk_ => XS.lload X21.here hx rfl (hb hby d1_32) rfl kk_) ?_
  refine Gq.go (T21.setTop (mkF m 35 #[.val (.long q1), .second, .val (.ref a2), .val (.ref a3), .val (.long (-q1)), .second, .val (.int (3 : Int32)), .val (.long ((-q1) &&& (f3 ^^^ k3))), .second] [(.long (f3 ^^^ ((-q1) &&& (f3 ^^^ k3)))), (.int (3 : Int32)), (.ref a2)])) (fun tt_ kk_ => XS.lxor X21.here hx rfl (hb hby d1_34) rfl kk_) ?_
  obtain ⟨T25, h25, X25, eh25, W25, st25⟩ := stoJ X21 hx hZ eh21 fa22 (j := (3 : Int32)) (i := 3) (x := (f3 ^^^ ((-q1) &&& (f3 ^^^ k3)))) (Ls := #[.val (.long q1), .second, .val (.ref a2), .val (.ref a3), .val (.long (-q1)), .second, .val (.int (3 : Int32)), .val (.long ((-q1) &&& (f3 ^^^ k3))), .second]) (rest := []) (by decide) rfl (by decide) (hb hby d1_35)
  have fa26 := V21.other W25 (Ne.symm n23)
  have za27 : n0 ≤ h25.size := Nat.le_trans za23 (Nat.le_of_eq W25.size.symm)
  have V25 : LA Z h25 a2 .long 5 (gl [(.long (f0 ^^^ ((-q1) &&& (f0 ^^^ k0)))), (.long (f1 ^^^ ((-q1) &&& (f1 ^^^ k1)))), (.long (f2 ^^^ ((-q1) &&& (f2 ^^^ k2)))), (.long (f3 ^^^ ((-q1) &&& (f3 ^^^ k3)))), (.long f4)] (.long (0 : Int64))) := fa22.setL W25 (Nat.le_of_ble_eq_true rfl)
  have Ka28 := Ka24.wr W25 (Or.inl (List.mem_of_getElem? (i := 0) rfl))
  have N25 := Fr.snoc X25 N21 g2
  refine Gq.go (T25.setTop (mkF m 36 #[.val (.long q1), .second, .val (.ref a2), .val (.ref a3), .val (.long (-q1)), .second, .val (.int (3 : Int32)), .val (.long ((-q1) &&& (f3 ^^^ k3))), .second] [])) (fun tt_ kk_ => st25 tt_ kk_) ?_
  refine Gq.go (T25.setTop (mkF m 37 #[.val (.long q1), .second, .val (.ref a2), .val (.ref a3), .val (.long (-q1)), .second, .val (.int (3 : Int32)), .val (.long ((-q1) &&& (f3 ^^^ k3))), .second] [(.ref a3)])) (fun tt_ kk_ => XS.aloadN X25.here hx rfl (hb hby d1_36) rfl rfl kk_) ?_
  refine Gq.go (T25.setTop (mkF m 39 #[.val (.long q1), .second, .val (.ref a2), .val (.ref a3), .val (.long (-q1)), .second, .val (.int (3 : Int32)), .val (.long ((-q1) &&& (f3 ^^^ k3))), .second] [(.int (3 : Int32)), (.ref a3)])) (fun tt_ kk_ => XS.iload X25.here hx rfl (hb hby d1_37) rfl kk_) ?_
  refine Gq.go (T25.setTop (mkF m 40 #[.val (.long q1), .second, .val (.ref a2), .val (.ref a3), .val (.long (-q1)), .second, .val (.int (3 : Int32)), .val (.long ((-q1) &&& (f3 ^^^ k3))), .second] [(.int (3 : Int32)), (.ref a3), (.int (3 : Int32)), (.ref a3)])) (fun tt_ kk_ => Jvm.Free.XT.dup2 X25.here hx rfl (hb hby d1_39) rfl rfl rfl kk_) ?_
  refine Gq.go (T25.setTop (mkF m 41 #[.val (.long q1), .second, .val (.ref a2), .val (.ref a3), .val (.long (-q1)), .second, .val (.int (3 : Int32)), .val (.long ((-q1) &&& (f3 ^^^ k3))), .second] [(.long k3), (.int (3 : Int32)), (.ref a3)])) (fun tt_ kk_ => ldJ X25 hx hZ eh25 fa26 (j := (3 : Int32)) (i := 3) (x := k3) (by decide) rfl (by decide) rfl (hb hby d1_40) tt_ kk_) ?_
  refine Gq.go (T25.setTop (mkF m 43 #[.val (.long q1), .second, .val (.ref a2), .val (.ref a3), .val (.long (-q1)), .second, .val (.int (3 : Int32)), .val (.long ((-q1) &&& (f3 ^^^ k3))), .second] [(.long ((-q1) &&& (f3 ^^^ k3))), (.long k3), (.int (3 : Int32)), (.ref a3)])) (fun tt_ kk_ => XS.lload X25.here hx rfl (hb hby d1_41) rfl kk_) ?_
  refine Gq.go (T25.setTop (mkF m 44 #[.val (.long q1), .second, .val (.ref a2), .val (.ref a3), .val (.long (-q1)), .second, .val (.int (3 : Int32)), .val (.long ((-q1) &&& (f3 ^^^ k3))), .second] [(.long (k3 ^^^ ((-q1) &&& (f3 ^^^ k3)))), (.int (3 : Int32)), (.ref a3)])) (fun tt_ kk_ => XS.lxor X25.here hx rfl (hb hby d1_43) rfl kk_) ?_
  obtain ⟨T29, h29, X29, eh29, W29, st29⟩ := stoJ X25 hx hZ eh25 fa26 (j := (3 : Int32)) (i := 3) (x := (k3 ^^^ ((-q1) &&& (f3 ^^^ k3)))) (Ls := #[.val (.long q1), .second, .val (.ref a2), .val (.ref a3), .val (.long (-q1)), .second, .val (.int (3 : Int32)), .val (.long ((-q1) &&& (f3 ^^^ k3))), .second]) (rest := []) (by decide) rfl (by decide) (hb hby d1_44)
  have fa30 := V25.other W29 n23
  have za31 : n0 ≤ h29.size := Nat.le_trans za27 (Nat.le_of_eq W29.size.symm)
  have V29 : LA Z h29 a3 .long 5 (gl [(.long (k0 ^^^ ((-q1) &&& (f0 ^^^ k0)))), (.long (k1 ^^^ ((-q1) &&& (f1 ^^^ k1)))), (.long (k2 ^^^ ((-q1) &&& (f2 ^^^ k2)))), (.long (k3 ^^^ ((-q1) &&& (f3 ^^^ k3)))), (.long k4)] (.long (0 : Int64))) := fa26.setL W29 (Nat.le_of_ble_eq_true rfl)
  have Ka32 := Ka28.wr W29 (Or.inl (List.mem_of_getElem? (i := 1) rfl))
  have N29 := Fr.snoc X29 N25 g3
  refine Gq.go (T29.setTop (mkF m 45 #[.val (.long q1), .second, .val (.ref a2), .val (.ref a3), .val (.long (-q1)), .second, .val (.int (3 : Int32)), .val (.long ((-q1) &&& (f3 ^^^ k3))), .second] [])) (fun tt_ kk_ => st29 tt_ kk_) ?_
  refine Gq.go (T29.setTop (mkF m 48 #[.val (.long q1), .second, .val (.ref a2), .val (.ref a3), .val (.long (-q1)), .second, .val (.int (4 : Int32)), .val (.long ((-q1) &&& (f3 ^^^ k3))), .second] [])) (fun tt_ kk_ => XS.iinc X29.here hx rfl (hb hby d1_45) rfl (l' := #[.val (.long q1), .second, .val (.ref a2), .val (.ref a3), .val (.long (-q1)), .second, .val (.int (4 : Int32)), .val (.long ((-q1) &&& (f3 ^^^ k3))), .second]) rfl kk_) ?_
  refine Gq.go (T29.setTop (mkF m 7 #[.val (.long q1), .second, .val (.ref a2), .val (.ref a3), .val (.long (-q1)), .second, .val (.int (4 : Int32)), .val (.long ((-q1) &&& (f3 ^^^ k3))), .second] [])) (fun tt_ kk_ => XS.goto X29.here hx rfl (pc0 := 48) (pc' := 7) rfl (hb hby d1_48) (by decide) (by decide) kk_) ?_
  refine Gq.go (T29.setTop (mkF m 9 #[.val (.long q1), .second, .val (.ref a2), .val (.ref a3), .val (.long (-q1)), .second, .val (.int (4 : Int32)), .val (.long ((-q1) &&& (f3 ^^^ k3))), .second] [(.int (4 : Int32))])) (fun tt_ kk_ => XS.iload X29.here hx rfl (hb hby d1_7) rfl kk_) ?_
  refine Gq.go (T29.setTop (mkF m 10 #[.val (.long q1), .second, .val (.ref a2), .val (.ref a3), .val (.long (-q1)), .second, .val (.int (4 : Int32)), .val (.long ((-q1) &&& (f3 ^^^ k3))), .second] [(.int (5 : Int32)), (.int (4 : Int32))])) (fun tt_ kk_ => XS.iconst X29.here hx rfl (hb hby d1_9) kk_) ?_
  refine Gq.go (T29.setTop (mkF m 13 #[.val (.long q1), .second, .val (.ref a2), .val (.ref a3), .val (.long (-q1)), .second, .val (.int (4 : Int32)), .val (.long ((-q1) &&& (f3 ^^^ k3))), .second] [])) (fun tt_ kk_ => XS.icmpNo X29.here hx rfl (hb hby d1_10) rfl (tlt (by decide : ((4 : Int32) < (5 : Int32)))).2.1 kk_) ?_
  refine Gq.go (T29.setTop (mkF m 15 #[.val (.long q1), .second, .val (.ref a2), .val (.ref a3), .val (.long (-q1)), .second, .val (.int (4 : Int32)), .val (.long ((-q1) &&& (f3 ^^^ k3))), .second] [(.long (-q1))])) (fun tt_ kk_ => XS.lload X29.here hx rfl (hb hby d1_13) rfl kk_) ?_
  refine Gq.go (T29.setTop (mkF m 16 #[.val (.long q1), .second, .val (.ref a2), .val (.ref a3), .val (.long (-q1)), .second, .val (.int (4 : Int32)), .val (.long ((-q1) &&& (f3 ^^^ k3))), .second] [(.ref a2), (.long (-q1))])) (fun tt_ kk_ => XS.aloadN X29.here hx rfl (hb hby d1_15) rfl rfl kk_) ?_
  refine Gq.go (T29.setTop (mkF m 18 #[.val (.long q1), .second, .val (.ref a2), .val (.ref a3), .val (.long (-q1)), .second, .val (.int (4 : Int32)), .val (.long ((-q1) &&& (f3 ^^^ k3))), .second] [(.int (4 : Int32)), (.ref a2), (.long (-q1))])) (fun tt_ kk_ => XS.iload X29.here hx rfl (hb hby d1_16) rfl kk_) ?_
  refine Gq.go (T29.setTop (mkF m 19 #[.val (.long q1), .second, .val (.ref a2), .val (.ref a3), .val (.long (-q1)), .second, .val (.int (4 : Int32)), .val (.long ((-q1) &&& (f3 ^^^ k3))), .second] [(.long f4), (.long (-q1))])) (fun tt_ kk_ => ldJ X29 hx hZ eh29 fa30 (j := (4 : Int32)) (i := 4) (x := f4) (by decide) rfl (by decide) rfl (hb hby d1_18) tt_ kk_) ?_
  refine Gq.go (T29.setTop (mkF m 20 #[.val (.long q1), .second, .val (.ref a2), .val (.ref a3), .val (.long (-q1)), .second, .val (.int (4 : Int32)), .val (.long ((-q1) &&& (f3 ^^^ k3))), .second] [(.ref a3), (.long f4), (.long (-q1))])) (fun tt_ kk_ => XS.aloadN X29.here hx rfl (hb hby d1_19) rfl rfl kk_) ?_
  refine Gq.go (T29.setTop (mkF m 22 #[.val (.long q1), .second, .val (.ref a2), .val (.ref a3), .val (.long (-q1)), .second, .val (.int (4 : Int32)), .val (.long ((-q1) &&& (f3 ^^^ k3))), .second] [(.int (4 : Int32)), (.ref a3), (.long f4), (.long (-q1))])) (fun tt_ kk_ => XS.iload X29.here hx rfl (hb hby d1_20) rfl kk_) ?_
  refine Gq.go (T29.setTop (mkF m 23 #[.val (.long q1), .second, .val (.ref a2), .val (.ref a3), .val (.long (-q1)), .second, .val (.int (4 : Int32)), .val (.long ((-q1) &&& (f3 ^^^ k3))), .second] [(.long k4), (.long f4), (.long (-q1))])) (fun tt_ kk_ => ldJ X29 hx hZ eh29 V29 (j := (4 : Int32)) (i := 4) (x := k4) (by decide) rfl (by decide) rfl (hb hby d1_22) tt_ kk_) ?_
  refine Gq.go (T29.setTop (mkF m 24 #[.val (.long q1), .second, .val (.ref a2), .val (.ref a3), .val (.long (-q1)), .second, .val (.int (4 : Int32)), .val (.long ((-q1) &&& (f3 ^^^ k3))), .second] [(.long (f4 ^^^ k4)), (.long (-q1))])) (fun tt_ kk_ => XS.lxor X29.here hx rfl (hb hby d1_23) rfl kk_) ?_
  refine Gq.go (T29.setTop (mkF m 25 #[.val (.long q1), .second, .val (.ref a2), .val (.ref a3), .val (.long (-q1)), .second, .val (.int (4 : Int32)), .val (.long ((-q1) &&& (f3 ^^^ k3))), .second] [(.long ((-q1) &&& (f4 ^^^ k4)))])) (fun tt_ kk_ => XS.land X29.here hx rfl (hb hby d1_24) rfl kk_) ?_
  refine Gq.go (T29.setTop (mkF m 27 #[.val (.long q1), .second, .val (.ref a2), .val (.ref a3), .val (.long (-q1)), .second, .val (.int (4 : Int32)), .val (.long ((-q1) &&& (f4 ^^^ k4))), .second] [])) (fun tt_ kk_ => XS.lstore X29.here hx rfl (hb hby d1_25) rfl (l' := #[.val (.long q1), .second, .val (.ref a2), .val (.ref a3), .val (.long (-q1)), .second, .val (.int (4 : Int32)), .val (.long ((-q1) &&& (f4 ^^^ k4))), .second]) rfl kk_) ?_
  refine Gq.go (T29.setTop (mkF m 28 #[.val (.long q1), .second, .val (.ref a2), .val (.ref a3), .val (.long (-q1)), .second, .val (.int (4 : Int32)), .val (.long ((-q1) &&& (f4 ^^^ k4))), .second] [(.ref a2)])) (fun tt_ kk_ => XS.aloadN X29.here hx rfl (hb hby d1_27) rfl rfl kk_) ?_
  refine Gq.go (T29.setTop (mkF m 30 #[.val (.long q1), .second, .val (.ref a2), .val (.ref a3), .val (.long (-q1)), .second, .val (.int (4 : Int32)), .val (.long ((-q1) &&& (f4 ^^^ k4))), .second] [(.int (4 : Int32)), (.ref a2)])) (fun tt_ kk_ => XS.iload X29.here hx rfl (hb hby d1_28) rfl kk_) ?_
  refine Gq.go (T29.setTop (mkF m 31 #[.val (.long q1), .second, .val (.ref a2), .val (.ref a3), .val (.long (-q1)), .second, .val (.int (4 : Int32)), .val (.long ((-q1) &&& (f4 ^^^ k4))), .second] [(.int (4 : Int32)), (.ref a2), (.int (4 : Int32)), (.ref a2)])) (fun tt_ kk_ => Jvm.Free.XT.dup2 X29.here hx rfl (hb hby d1_30) rfl rfl rfl kk_) ?_
  refine Gq.go (T29.setTop (mkF m 32 #[.val (.long q1), .second, .val (.ref a2), .val (.ref a3), .val (.long (-q1)), .second, .val (.int (4 : Int32)), .val (.long ((-q1) &&& (f4 ^^^ k4))), .second] [(.long f4), (.int (4 : Int32)), (.ref a2)])) (fun tt_ kk_ => ldJ X29 hx hZ eh29 fa30 (j := (4 : Int32)) (i := 4) (x := f4) (by decide) rfl (by decide) rfl (hb hby d1_31) tt_ kk_) ?_
  refine Gq.go (T29.setTop (mkF m 34 #[.val (.long q1), .second, .val (.ref a2), .val (.ref a3), .val (.long (-q1)), .second, .val (.int (4 : Int32)), .val (.long ((-q1) &&& (f4 ^^^ k4))), .second] [(.long ((-q1) &&& (f4 ^^^ k4))), (.long f4), (.int (4 : Int32)), (.ref a2)])) (fun tt_ kk_ => XS.lload X29.here hx rfl (hb hby d1_32) rfl kk_) ?_
  refine Gq.go (T29.setTop (mkF m 35 #[.val (.long q1), .second, .val (.ref a2), .val (.ref a3), .val (.long (-q1)), .second, .val (.int (4 : Int32)), .val (.long ((-q1) &&& (f4 ^^^ k4))), .second] [(.long (f4 ^^^ ((-q1) &&& (f4 ^^^ k4)))), (.int (4 : Int32)), (.ref a2)])) (fun tt_ kk_ => XS.lxor X29.here hx rfl (hb hby d1_34) rfl kk_) ?_
  obtain ⟨T33, h33, X33, eh33, W33, st33⟩ := stoJ X29 hx hZ eh29 fa30 (j := (4 : Int32)) (i := 4) (x := (f4 ^^^ ((-q1) &&& (f4 ^^^ k4)))) (Ls := #[.val (.long q1), .second, .val (.ref a2), .val (.ref a3), .val (.long (-q1)), .second, .val (.int (4 : Int32)), .val (.long ((-q1) &&& (f4 ^^^ k4))), .second]) (rest := []) (by decide) rfl (by decide) (hb hby d1_35)
  have fa34 := V29.other W33 (Ne.symm n23)
  have za35 : n0 ≤ h33.size := Nat.le_trans za31 (Nat.le_of_eq W33.size.symm)
  have V33 : LA Z h33 a2 .long 5 (gl [(.long (f0 ^^^ ((-q1) &&& (f0 ^^^ k0)))), (.long (f1 ^^^ ((-q1) &&& (f1 ^^^ k1)))), (.long (f2 ^^^ ((-q1) &&& (f2 ^^^ k2)))), (.long (f3 ^^^ ((-q1) &&& (f3 ^^^ k3)))), (.long (f4 ^^^ ((-q1) &&& (f4 ^^^ k4))))] (.long (0 : Int64))) := fa30.setL W33 (Nat.le_of_ble_eq_true rfl)
  have Ka36 := Ka32.wr W33 (Or.inl (List.mem_of_getElem? (i := 0) rfl))
  have N33 := Fr.snoc X33 N29 g2
  refine Gq.go (T33.setTop (mkF m 36 #[.val (.long q1), .second, .val (.ref a2), .val (.ref a3), .val (.long (-q1)), .second, .val (.int (4 : Int32)), .val (.long ((-q1) &&& (f4 ^^^ k4))), .second] [])) (fun tt_ kk_ => st33 tt_ kk_) ?_
  refine Gq.go (T33.setTop (mkF m 37 #[.val (.long q1), .second, .val (.ref a2), .val (.ref a3), .val (.long (-q1)), .second, .val (.int (4 : Int32)), .val (.long ((-q1) &&& (f4 ^^^ k4))), .second] [(.ref a3)])) (fun tt_ kk_ => XS.aloadN X33.here hx rfl (hb hby d1_36) rfl rfl kk_) ?_
  refine Gq.go (T33.setTop (mkF m 39 #[.val (.long q1), .second, .val (.ref a2), .val (.ref a3), .val (.long (-q1)), .second, .val (.int (4 : Int32)), .val (.long ((-q1) &&& (f4 ^^^ k4))), .second] [(.int (4 : Int32)), (.ref a3)])) (fun tt_ kk_ => XS.iload X33.here hx rfl (hb hby d1_37) rfl kk_) ?_
  refine Gq.go (T33.setTop (mkF m 40 #[.val (.long q1), .second, .val (.ref a2), .val (.ref a3), .val (.long (-q1)), .second, .val (.int (4 : Int32)), .val (.long ((-q1) &&& (f4 ^^^ k4))), .second] [(.int (4 : Int32)), (.ref a3), (.int (4 : Int32)), (.ref a3)])) (fun tt_ kk_ => Jvm.Free.XT.dup2 X33.here hx rfl (hb hby d1_39) rfl rfl rfl kk_) ?_
  refine Gq.go (T33.setTop (mkF m 41 #[.val (.long q1), .second, .val (.ref a2), .val (.ref a3), .val (.long (-q1)), .second, .val (.int (4 : Int32)), .val (.long ((-q1) &&& (f4 ^^^ k4))), .second] [(.long k4), (.int (4 : Int32)), (.ref a3)])) (fun tt_ kk_ => ldJ X33 hx hZ eh33 fa34 (j := (4 : Int32)) (i := 4) (x := k4) (by decide) rfl (by decide) rfl (hb hby d1_40) tt_ kk_) ?_
  refine Gq.go (T33.setTop (mkF m 43 #[.val (.long q1), .second, .val (.ref a2), .val (.ref a3), .val (.long (-q1)), .second, .val (.int (4 : Int32)), .val (.long ((-q1) &&& (f4 ^^^ k4))), .second] [(.long ((-q1) &&& (f4 ^^^ k4))), (.long k4), (.int (4 : Int32)), (.ref a3)])) (fun tt_ kk_ => XS.lload X33.here hx rfl (hb hby d1_41) rfl kk_) ?_
  refine Gq.go (T33.setTop (mkF m 44 #[.val (.long q1), .second, .val (.ref a2), .val (.ref a3), .val (.long (-q1)), .second, .val (.int (4 : Int32)), .val (.long ((-q1) &&& (f4 ^^^ k4))), .second] [(.long (k4 ^^^ ((-q1) &&& (f4 ^^^ k4)))), (.int (4 : Int32)), (.ref a3)])) (fun tt_ kk_ => XS.lxor X33.here hx rfl (hb hby d1_43) rfl kk_) ?_
  obtain ⟨T37, h37, X37, eh37, W37, st37⟩ := stoJ X33 hx hZ eh33 fa34 (j := (4 : Int32)) (i := 4) (x := (k4 ^^^ ((-q1) &&& (f4 ^^^ k4)))) (Ls := #[.val (.long q1), .second, .val (.ref a2), .val (.ref a3), .val (.long (-q1)), .second, .val (.int (4 : Int32)), .val (.long ((-q1) &&& (f4 ^^^ k4))), .second]) (rest := []) (by decide) rfl (by decide) (hb hby d1_44)
  have fa38 := V33.other W37 n23
  have za39 : n0 ≤ h37.size := Nat.le_trans za35 (Nat.le_of_eq W37.size.symm)
  have V37 : LA Z h37 a3 .long 5 (gl [(.long (k0 ^^^ ((-q1) &&& (f0 ^^^ k0)))), (.long (k1 ^^^ ((-q1) &&& (f1 ^^^ k1)))), (.long (k2 ^^^ ((-q1) &&& (f2 ^^^ k2)))), (.long (k3 ^^^ ((-q1) &&& (f3 ^^^ k3)))), (.long (k4 ^^^ ((-q1) &&& (f4 ^^^ k4))))] (.long (0 : Int64))) := fa34.setL W37 (Nat.le_of_ble_eq_true rfl)
  have Ka40 := Ka36.wr W37 (Or.inl (List.mem_of_getElem? (i := 1) rfl))
  have N37 := Fr.snoc X37 N33 g3
  refine Gq.go (T37.setTop (mkF m 45 #[.val (.long q1), .second, .val (.ref a2), .val (.ref a3), .val (.long (-q1)), .second, .val (.int (4 : Int32)), .val (.long ((-q1) &&& (f4 ^^^ k4))), .second] [])) (fun tt_ kk_ => st37 tt_ kk_) ?_
  refine Gq.go (T37.setTop (mkF m 48 #[.val (.long q1), .second, .val (.ref a2), .val (.ref a3), .val (.long (-q1)), .second, .val (.int (5 : Int32)), .val (.long ((-q1) &&& (f4 ^^^ k4))), .second] [])) (fun tt_ kk_ => XS.iinc X37.here hx rfl (hb hby d1_45) rfl (l' := #[.val (.long q1), .second, .val (.ref a2), .val (.ref a3), .val (.long (-q1)), .second, .val (.int (5 : Int32)), .val (.long ((-q1) &&& (f4 ^^^ k4))), .second]) rfl kk_) ?_
  refine Gq.go (T37.setTop (mkF m 7 #[.val (.long q1), .second, .val (.ref a2), .val (.ref a3), .val (.long (-q1)), .second, .val (.int (5 : Int32)), .val (.long ((-q1) &&& (f4 ^^^ k4))), .second] [])) (fun tt_ kk_ => XS.goto X37.here hx rfl (pc0 := 48) (pc' := 7) rfl (hb hby d1_48) (by decide) (by decide) kk_) ?_
  refine Gq.go (T37.setTop (mkF m 9 #[.val (.long q1), .second, .val (.ref a2), .val (.ref a3), .val (.long (-q1)), .second, .val (.int (5 : Int32)), .val (.long ((-q1) &&& (f4 ^^^ k4))), .second] [(.int (5 : Int32))])) (fun tt_ kk_ => XS.iload X37.here hx rfl (hb hby d1_7) rfl kk_) ?_
  refine Gq.go (T37.setTop (mkF m 10 #[.val (.long q1), .second, .val (.ref a2), .val (.ref a3), .val (.long (-q1)), .second, .val (.int (5 : Int32)), .val (.long ((-q1) &&& (f4 ^^^ k4))), .second] [(.int (5 : Int32)), (.int (5 : Int32))])) (fun tt_ kk_ => XS.iconst X37.here hx rfl (hb hby d1_9) kk_) ?_
  refine Gq.go (T37.setTop (mkF m 51 #[.val (.long q1), .second, .val (.ref a2), .val (.ref a3), .val (.long (-q1)), .second, .val (.int (5 : Int32)), .val (.long ((-q1) &&& (f4 ^^^ k4))), .second] [])) (fun tt_ kk_ => XS.icmpYes X37.here hx rfl (pc0 := 10) (pc' := 51) rfl (hb hby d1_10) rfl (flt (by decide : ¬ ((5 : Int32) < (5 : Int32)))).2.1 (by decide) (by decide) kk_) ?_
  refine Gq.retV X37 hx Bd.notSynchronized Bd.returns (hb hby d1_51) (by decide) (by decide) ?_
  show Q1 Z q1 a2 a3 f0 f1 f2 f3 f4 k0 k1 k2 k3 k4 h0 n0 _ T37.heap _
  rw [eh37]
  exact ⟨rfl, N37, Ka40, fa38, V37⟩
theorem d2_0 : decode method_2_code 0 = .ok (.aload_n 0, 1) := by decide +kernel
theorem d2_1 : decode method_2_code 1 = .ok (.iconst 0, 1) := by decide +kernel
theorem d2_2 : decode method_2_code 2 = .ok (.laload, 1) := by decide +kernel
theorem d2_3 : decode method_2_code 3 = .ok (.aload_n 1, 1) := by decide +kernel
theorem d2_4 : decode method_2_code 4 = .ok (.iconst 0, 1) := by decide +kernel
theorem d2_5 : decode method_2_code 5 = .ok (.laload, 1) := by decide +kernel
theorem d2_6 : decode method_2_code 6 = .ok (.lcmp, 1) := by decide +kernel
theorem d2_7 : decode method_2_code 7 = .ok (.ifCond .ne 47, 3) := by decide +kernel
theorem d2_10 : decode method_2_code 10 = .ok (.aload_n 0, 1) := by decide +kernel
theorem d2_11 : decode method_2_code 11 = .ok (.iconst 1, 1) := by decide +kernel
theorem d2_12 : decode method_2_code 12 = .ok (.laload, 1) := by decide +kernel
theorem d2_13 : decode method_2_code 13 = .ok (.aload_n 1, 1) := by decide +kernel
theorem d2_14 : decode method_2_code 14 = .ok (.iconst 1, 1) := by decide +kernel
theorem d2_15 : decode method_2_code 15 = .ok (.laload, 1) := by decide +kernel
theorem d2_16 : decode method_2_code 16 = .ok (.lcmp, 1) := by decide +kernel
theorem d2_17 : decode method_2_code 17 = .ok (.ifCond .ne 37, 3) := by decide +kernel
theorem d2_20 : decode method_2_code 20 = .ok (.aload_n 0, 1) := by decide +kernel
theorem d2_21 : decode method_2_code 21 = .ok (.iconst 2, 1) := by decide +kernel
theorem d2_22 : decode method_2_code 22 = .ok (.laload, 1) := by decide +kernel
theorem d2_23 : decode method_2_code 23 = .ok (.aload_n 1, 1) := by decide +kernel
theorem d2_24 : decode method_2_code 24 = .ok (.iconst 2, 1) := by decide +kernel
theorem d2_25 : decode method_2_code 25 = .ok (.laload, 1) := by decide +kernel
theorem d2_26 : decode method_2_code 26 = .ok (.lcmp, 1) := by decide +kernel
theorem d2_27 : decode method_2_code 27 = .ok (.ifCond .ne 27, 3) := by decide +kernel
theorem d2_30 : decode method_2_code 30 = .ok (.aload_n 0, 1) := by decide +kernel
theorem d2_31 : decode method_2_code 31 = .ok (.iconst 3, 1) := by decide +kernel
theorem d2_32 : decode method_2_code 32 = .ok (.laload, 1) := by decide +kernel
theorem d2_33 : decode method_2_code 33 = .ok (.aload_n 1, 1) := by decide +kernel
theorem d2_34 : decode method_2_code 34 = .ok (.iconst 3, 1) := by decide +kernel
theorem d2_35 : decode method_2_code 35 = .ok (.laload, 1) := by decide +kernel
theorem d2_36 : decode method_2_code 36 = .ok (.lcmp, 1) := by decide +kernel
theorem d2_37 : decode method_2_code 37 = .ok (.ifCond .ne 17, 3) := by decide +kernel
theorem d2_40 : decode method_2_code 40 = .ok (.aload_n 0, 1) := by decide +kernel
theorem d2_41 : decode method_2_code 41 = .ok (.iconst 4, 1) := by decide +kernel
theorem d2_42 : decode method_2_code 42 = .ok (.laload, 1) := by decide +kernel
theorem d2_43 : decode method_2_code 43 = .ok (.aload_n 1, 1) := by decide +kernel
theorem d2_44 : decode method_2_code 44 = .ok (.iconst 4, 1) := by decide +kernel
theorem d2_45 : decode method_2_code 45 = .ok (.laload, 1) := by decide +kernel
theorem d2_46 : decode method_2_code 46 = .ok (.lcmp, 1) := by decide +kernel
theorem d2_47 : decode method_2_code 47 = .ok (.ifCond .ne 7, 3) := by decide +kernel
theorem d2_50 : decode method_2_code 50 = .ok (.iconst 1, 1) := by decide +kernel
theorem d2_51 : decode method_2_code 51 = .ok (.goto 4, 3) := by decide +kernel
theorem d2_55 : decode method_2_code 55 = .ok (.ireturn, 1) := by decide +kernel
theorem pn_com_example_rolebridge_rolebridge_Field25519SwapPinLaw : plainName "com/example/rolebridge/rolebridge/Field25519SwapPinLaw" = true := by first | (simp [plainName, overriddenIn]; done) | decide +kernel
theorem ef2 (m : MethodId) (y0 : Addr) (y1 : Addr) : entryFrame m #[(.ref y0), (.ref y1)] 2 = mkF m 0 #[.val (.ref y0), .val (.ref y1)] [] := by first | (simp [entryFrame, mkF, argsToLocals, Value.category]; done) | rfl
def Q2 (Z : State) (a1 : Addr) (a2 : Addr) (f0 : Int64) (f1 : Int64) (f2 : Int64) (f3 : Int64) (f4 : Int64) (k0 : Int64) (k1 : Int64) (k2 : Int64) (k3 : Int64) (k4 : Int64) (h0 : Heap) (n0 : Nat) (v : Option Value) (h : Heap) (L : List Loc) : Prop := v = some (.int (1 : Int32)) ∧ Fr n0 L ∧ h = h0
set_option maxRecDepth 65536 in
set_option maxHeartbeats 40000000 in
theorem rm2 (l : Launch) (Z : State) (a0 : Array Value) (hw : ∀ d ∈ tables_1, d.before a0 Z = true) (ws : List Jvm.Cond) (a1 : Addr) (a2 : Addr) (f0 : Int64) (f1 : Int64) (f2 : Int64) (f3 : Int64) (f4 : Int64) (k0 : Int64) (k1 : Int64) (k2 : Int64) (k3 : Int64) (k4 : Int64) (h0 : Heap) (n0 : Nat) (Z0 : n0 ≤ h0.size) (V1 : LA Z h0 a1 .long 5 (gl [(.long f0), (.long f1), (.long f2), (.long f3), (.long f4)] (.long (0 : Int64)))) (V2 : LA Z h0 a2 .long 5 (gl [(.long k0), (.long k1), (.long k2), (.long k3), (.long k4)] (.long (0 : Int64)))) (d0 : f0 = k0) (d1 : f1 = k1) (d2 : f2 = k2) (d3 : f3 = k3) (d4 : f4 = k4) :
    MetFree l (⟨"com/example/rolebridge/rolebridge/Field25519SwapPinLaw", "same", "([J[J)Z"⟩ : MethodName) (head1 (Jvm.Cond.code (⟨"com/example/rolebridge/rolebridge/Field25519SwapPinLaw", "same", "([J[J)Z"⟩ : MethodName) method_2_code 2 (some .boolean) :: ws) ({ frames := 0, cells := 0, slots := 0, locals := 0 } : Room)) (fun a U => a = #[(.ref a1), (.ref a2)] ∧ Z.Warmed39 U.vm ∧ U.heap = h0) (fun _ _ _ _ _ => True) (fun _ U o U' => ∃ v L, o = .returned v ∧ Q2 Z a1 a2 f0 f1 f2 f3 f4 k0 k1 k2 k3 k4 h0 n0 v U'.heap L ∧ FrameEnd U o U' L ({ frames := 0, cells := 0, slots := 0, locals := 0 } : Room).cells ({ frames := 0, cells := 0, slots := 0, locals := 0 } : Room).slots) := by
  refine MetFree.of_bodySF (plainFor_of_name pn_com_example_rolebridge_rolebridge_Field25519SwapPinLaw) hisR ?_
  intro p e s m args below meth c s₁ Bd hml0 hP hK
  obtain ⟨rfl, hZ, hh⟩ := hP
  have hx := Bd.exec
  have hby := Bd.bytes
  have hml : c.maxLocals = 2 := hml0
  have hown : s.vm.findClass "com/example/rolebridge/rolebridge/Field25519SwapPinLaw" = some m.cls := findClass_of_methodNamed Bd.named
  have hnm := (name_of_methodNamed Bd.named Bd.method).1
  have X0 : Stand p l e ({ frames := 0, cells := 0, slots := 0, locals := 0 } : Room) s m #[(.ref a1), (.ref a2)] below meth c s₁ [] 0 0 := Stand.of_body Bd
  have eh0 : s₁.heap = h0 := by rw [← hh, Bd.state]; rfl
  have N0 := Fr.nil n0
  refine Gq.start (Q := Q2 Z a1 a2 f0 f1 f2 f3 f4 k0 k1 k2 k3 k4 h0 n0) (kc := ({ frames := 0, cells := 0, slots := 0, locals := 0 } : Room).cells) (ks := ({ frames := 0, cells := 0, slots := 0, locals := 0 } : Room).slots) (ef2 m a1 a2) ?_
  refine Gq.go (s₁.setTop (mkF m 1 #[.val (.ref a1), .val (.ref a2)] [(.ref a1)])) (fun tt_ kk_ => XS.aloadN X0.here hx rfl (hb hby d2_0) rfl rfl kk_) ?_
  refine Gq.go (s₁.setTop (mkF m 2 #[.val (.ref a1), .val (.ref a2)] [(.int (0 : Int32)), (.ref a1)])) (fun tt_ kk_ => XS.iconst X0.here hx rfl (hb hby d2_1) kk_) ?_
  refine Gq.go (s₁.setTop (mkF m 3 #[.val (.ref a1), .val (.ref a2)] [(.long f0)])) (fun tt_ kk_ => ldJ X0 hx hZ eh0 V1 (j := (0 : Int32)) (i := 0) (x := f0) (by decide) rfl (by decide) rfl (hb hby d2_2) tt_ kk_) ?_
  refine Gq.go (s₁.setTop (mkF m 4 #[.val (.ref a1), .val (.ref a2)] [(.ref a2), (.long f0)])) (fun tt_ kk_ => XS.aloadN X0.here hx rfl (hb hby d2_3) rfl rfl kk_) ?_
  refine Gq.go (s₁.setTop (mkF m 5 #[.val (.ref a1), .val (.ref a2)] [(.int (0 : Int32)), (.ref a2), (.long f0)])) (fun tt_ kk_ => XS.iconst X0.here hx rfl (hb hby d2_4) kk_) ?_
  refine Gq.go (s₁.setTop (mkF m 6 #[.val (.ref a1), .val (.ref a2)] [(.long k0), (.long f0)])) (fun tt_ kk_ => ldJ X0 hx hZ eh0 V2 (j := (0 : Int32)) (i := 0) (x := k0) (by decide) rfl (by decide) rfl (hb hby d2_5) tt_ kk_) ?_
  refine Gq.go (s₁.setTop (mkF m 7 #[.val (.ref a1), .val (.ref a2)] [(.int (lcmpW f0 k0))])) (fun tt_ kk_ => XS.lcmp X0.here hx rfl (hb hby d2_6) rfl kk_) ?_
  refine Gq.go (s₁.setTop (mkF m 10 #[.val (.ref a1), .val (.ref a2)] [])) (fun tt_ kk_ => XS.ifNo X0.here hx rfl (hb hby d2_7) rfl ((if0 _ _).trans (teq ((lw_eq _ _).mpr d0)).2) kk_) ?_
  refine Gq.go (s₁.setTop (mkF m 11 #[.val (.ref a1), .val (.ref a2)] [(.ref a1)])) (fun tt_ kk_ => XS.aloadN X0.here hx rfl (hb hby d2_10) rfl rfl kk_) ?_
  refine Gq.go (s₁.setTop (mkF m 12 #[.val (.ref a1), .val (.ref a2)] [(.int (1 : Int32)), (.ref a1)])) (fun tt_ kk_ => XS.iconst X0.here hx rfl (hb hby d2_11) kk_) ?_
  refine Gq.go (s₁.setTop (mkF m 13 #[.val (.ref a1), .val (.ref a2)] [(.long f1)])) (fun tt_ kk_ => ldJ X0 hx hZ eh0 V1 (j := (1 : Int32)) (i := 1) (x := f1) (by decide) rfl (by decide) rfl (hb hby d2_12) tt_ kk_) ?_
  refine Gq.go (s₁.setTop (mkF m 14 #[.val (.ref a1), .val (.ref a2)] [(.ref a2), (.long f1)])) (fun tt_ kk_ => XS.aloadN X0.here hx rfl (hb hby d2_13) rfl rfl kk_) ?_
  refine Gq.go (s₁.setTop (mkF m 15 #[.val (.ref a1), .val (.ref a2)] [(.int (1 : Int32)), (.ref a2), (.long f1)])) (fun tt_ kk_ => XS.iconst X0.here hx rfl (hb hby d2_14) kk_) ?_
  refine Gq.go (s₁.setTop (mkF m 16 #[.val (.ref a1), .val (.ref a2)] [(.long k1), (.long f1)])) (fun tt_ kk_ => ldJ X0 hx hZ eh0 V2 (j := (1 : Int32)) (i := 1) (x := k1) (by decide) rfl (by decide) rfl (hb hby d2_15) tt_ kk_) ?_
  refine Gq.go (s₁.setTop (mkF m 17 #[.val (.ref a1), .val (.ref a2)] [(.int (lcmpW f1 k1))])) (fun tt_ kk_ => XS.lcmp X0.here hx rfl (hb hby d2_16) rfl kk_) ?_
  refine Gq.go (s₁.setTop (mkF m 20 #[.val (.ref a1), .val (.ref a2)] [])) (fun tt_ kk_ => XS.ifNo X0.here hx rfl (hb hby d2_17) rfl ((if0 _ _).trans (teq ((lw_eq _ _).mpr d1)).2) kk_) ?_
  refine Gq.go (s₁.setTop (mkF m 21 #[.val (.ref a1), .val (.ref a2)] [(.ref a1)])) (fun tt_ kk_ => XS.aloadN X0.here hx rfl (hb hby d2_20) rfl rfl kk_) ?_
  refine Gq.go (s₁.setTop (mkF m 22 #[.val (.ref a1), .val (.ref a2)] [(.int (2 : Int32)), (.ref a1)])) (fun tt_ kk_ => XS.iconst X0.here hx rfl (hb hby d2_21) kk_) ?_
  refine Gq.go (s₁.setTop (mkF m 23 #[.val (.ref a1), .val (.ref a2)] [(.long f2)])) (fun tt_ kk_ => ldJ X0 hx hZ eh0 V1 (j := (2 : Int32)) (i := 2) (x := f2) (by decide) rfl (by decide) rfl (hb hby d2_22) tt_ kk_) ?_
  refine Gq.go (s₁.setTop (mkF m 24 #[.val (.ref a1), .val (.ref a2)] [(.ref a2), (.long f2)])) (fun tt_ kk_ => XS.aloadN X0.here hx rfl (hb hby d2_23) rfl rfl kk_) ?_
  refine Gq.go (s₁.setTop (mkF m 25 #[.val (.ref a1), .val (.ref a2)] [(.int (2 : Int32)), (.ref a2), (.long f2)])) (fun tt_ kk_ => XS.iconst X0.here hx rfl (hb hby d2_24) kk_) ?_
  refine Gq.go (s₁.setTop (mkF m 26 #[.val (.ref a1), .val (.ref a2)] [(.long k2), (.long f2)])) (fun tt_ kk_ => ldJ X0 hx hZ eh0 V2 (j := (2 : Int32)) (i := 2) (x := k2) (by decide) rfl (by decide) rfl (hb hby d2_25) tt_ kk_) ?_
  refine Gq.go (s₁.setTop (mkF m 27 #[.val (.ref a1), .val (.ref a2)] [(.int (lcmpW f2 k2))])) (fun tt_ kk_ => XS.lcmp X0.here hx rfl (hb hby d2_26) rfl kk_) ?_
  refine Gq.go (s₁.setTop (mkF m 30 #[.val (.ref a1), .val (.ref a2)] [])) (fun tt_ kk_ => XS.ifNo X0.here hx rfl (hb hby d2_27) rfl ((if0 _ _).trans (teq ((lw_eq _ _).mpr d2)).2) kk_) ?_
  refine Gq.go (s₁.setTop (mkF m 31 #[.val (.ref a1), .val (.ref a2)] [(.ref a1)])) (fun tt_ kk_ => XS.aloadN X0.here hx rfl (hb hby d2_30) rfl rfl kk_) ?_
  refine Gq.go (s₁.setTop (mkF m 32 #[.val (.ref a1), .val (.ref a2)] [(.int (3 : Int32)), (.ref a1)])) (fun tt_ kk_ => XS.iconst X0.here hx rfl (hb hby d2_31) kk_) ?_
  refine Gq.go (s₁.setTop (mkF m 33 #[.val (.ref a1), .val (.ref a2)] [(.long f3)])) (fun tt_ kk_ => ldJ X0 hx hZ eh0 V1 (j := (3 : Int32)) (i := 3) (x := f3) (by decide) rfl (by decide) rfl (hb hby d2_32) tt_ kk_) ?_
  refine Gq.go (s₁.setTop (mkF m 34 #[.val (.ref a1), .val (.ref a2)] [(.ref a2), (.long f3)])) (fun tt_ kk_ => XS.aloadN X0.here hx rfl (hb hby d2_33) rfl rfl kk_) ?_
  refine Gq.go (s₁.setTop (mkF m 35 #[.val (.ref a1), .val (.ref a2)] [(.int (3 : Int32)), (.ref a2), (.long f3)])) (fun tt_ kk_ => XS.iconst X0.here hx rfl (hb hby d2_34) kk_) ?_
  refine Gq.go (s₁.setTop (mkF m 36 #[.val (.ref a1), .val (.ref a2)] [(.long k3), (.long f3)])) (fun tt_ kk_ => ldJ X0 hx hZ eh0 V2 (j := (3 : Int32)) (i := 3) (x := k3) (by decide) rfl (by decide) rfl (hb hby d2_35) tt_ kk_) ?_
  refine Gq.go (s₁.setTop (mkF m 37 #[.val (.ref a1), .val (.ref a2)] [(.int (lcmpW f3 k3))])) (fun tt_ kk_ => XS.lcmp X0.here hx rfl (hb hby d2_36) rfl kk_) ?_
  refine Gq.go (s₁.setTop (mkF m 40 #[.val (.ref a1), .val (.ref a2)] [])) (fun tt_ kk_ => XS.ifNo X0.here hx rfl (hb hby d2_37) rfl ((if0 _ _).trans (teq ((lw_eq _ _).mpr d3)).2) kk_) ?_
  refine Gq.go (s₁.setTop (mkF m 41 #[.val (.ref a1), .val (.ref a2)] [(.ref a1)])) (fun tt_ kk_ => XS.aloadN X0.here hx rfl (hb hby d2_40) rfl rfl kk_) ?_
  refine Gq.go (s₁.setTop (mkF m 42 #[.val (.ref a1), .val (.ref a2)] [(.int (4 : Int32)), (.ref a1)])) (fun tt_ kk_ => XS.iconst X0.here hx rfl (hb hby d2_41) kk_) ?_
  refine Gq.go (s₁.setTop (mkF m 43 #[.val (.ref a1), .val (.ref a2)] [(.long f4)])) (fun tt_ kk_ => ldJ X0 hx hZ eh0 V1 (j := (4 : Int32)) (i := 4) (x := f4) (by decide) rfl (by decide) rfl (hb hby d2_42) tt_ kk_) ?_
  refine Gq.go (s₁.setTop (mkF m 44 #[.val (.ref a1), .val (.ref a2)] [(.ref a2), (.long f4)])) (fun tt_ kk_ => XS.aloadN X0.here hx rfl (hb hby d2_43) rfl rfl kk_) ?_
  refine Gq.go (s₁.setTop (mkF m 45 #[.val (.ref a1), .val (.ref a2)] [(.int (4 : Int32)), (.ref a2), (.long f4)])) (fun tt_ kk_ => XS.iconst X0.here hx rfl (hb hby d2_44) kk_) ?_
  refine Gq.go (s₁.setTop (mkF m 46 #[.val (.ref a1), .val (.ref a2)] [(.long k4), (.long f4)])) (fun tt_ kk_ => ldJ X0 hx hZ eh0 V2 (j := (4 : Int32)) (i := 4) (x := k4) (by decide) rfl (by decide) rfl (hb hby d2_45) tt_ kk_) ?_
  refine Gq.go (s₁.setTop (mkF m 47 #[.val (.ref a1), .val (.ref a2)] [(.int (lcmpW f4 k4))])) (fun tt_ kk_ => XS.lcmp X0.here hx rfl (hb hby d2_46) rfl kk_) ?_
  refine Gq.go (s₁.setTop (mkF m 50 #[.val (.ref a1), .val (.ref a2)] [])) (fun tt_ kk_ => XS.ifNo X0.here hx rfl (hb hby d2_47) rfl ((if0 _ _).trans (teq ((lw_eq _ _).mpr d4)).2) kk_) ?_
  refine Gq.go (s₁.setTop (mkF m 51 #[.val (.ref a1), .val (.ref a2)] [(.int (1 : Int32))])) (fun tt_ kk_ => XS.iconst X0.here hx rfl (hb hby d2_50) kk_) ?_
  refine Gq.go (s₁.setTop (mkF m 55 #[.val (.ref a1), .val (.ref a2)] [(.int (1 : Int32))])) (fun tt_ kk_ => XS.goto X0.here hx rfl (pc0 := 51) (pc' := 55) rfl (hb hby d2_51) (by decide) (by decide) kk_) ?_
  refine Gq.retI X0 hx Bd.notSynchronized Bd.returns (by simp) (hb hby d2_55) rfl (by decide) (by decide) ?_
  show Q2 Z a1 a2 f0 f1 f2 f3 f4 k0 k1 k2 k3 k4 h0 n0 _ s₁.heap _
  rw [eh0]
  exact ⟨rfl, N0, rfl⟩
theorem pd_0 : parseMethodDescriptor "(J[J[J)V" = some ⟨[.long, (.array .long), (.array .long)], none⟩ := by decide +kernel
theorem pd_1 : parseMethodDescriptor "([J[J)Z" = some ⟨[(.array .long), (.array .long)], some .boolean⟩ := by decide +kernel
theorem ef0 (m : MethodId) (y0 : Int64) (y1 : Int64) (y2 : Int64) (y3 : Int64) (y4 : Int64) (y5 : Int64) : entryFrame m #[(.long y0), (.long y1), (.long y2), (.long y3), (.long y4), (.long y5)] maxLocals = mkF m 0 #[.val (.long y0), .second, .val (.long y1), .second, .val (.long y2), .second, .val (.long y3), .second, .val (.long y4), .second, .val (.long y5), .second, .unset, .unset, .unset, .unset, .unset, .unset] [] := by first | (simp [entryFrame, mkF, argsToLocals, Value.category, maxLocals]; done) | rfl
def Q0 (Z : State) (x0 : Int64) (x1 : Int64) (x2 : Int64) (x3 : Int64) (x4 : Int64) (x5 : Int64) (h0 : Heap) (n0 : Nat) (v : Option Value) (h : Heap) (L : List Loc) : Prop := v = some (.int (1 : Int32)) ∧ Fr n0 L
set_option maxRecDepth 65536 in
set_option maxHeartbeats 40000000 in
theorem rm0 (l : Launch) (Z : State) (a0 : Array Value) (hw : ∀ d ∈ tables_1, d.before a0 Z = true) (ws : List Jvm.Cond) (x0 : Int64) (x1 : Int64) (x2 : Int64) (x3 : Int64) (x4 : Int64) (x5 : Int64) (h0 : Heap) (n0 : Nat) (Z0 : n0 ≤ h0.size)  :
    MetFree l x (head1 (Jvm.Cond.code x code maxLocals ret :: ws) room_1) (fun a U => a = #[(.long x0), (.long x1), (.long x2), (.long x3), (.long x4), (.long x5)] ∧ Z.Warmed39 U.vm ∧ U.heap = h0) (fun _ _ _ _ _ => True) (fun _ U o U' => ∃ v L, o = .returned v ∧ Q0 Z x0 x1 x2 x3 x4 x5 h0 n0 v U'.heap L ∧ FrameEnd U o U' L room_1.cells room_1.slots) := by
  refine MetFree.of_bodySF (plainFor_of_name pn_com_example_rolebridge_rolebridge_Field25519SwapPinLaw) hisR ?_
  intro p e s m args below meth c s₁ Bd hml0 hP hK
  obtain ⟨rfl, hZ, hh⟩ := hP
  have hx := Bd.exec
  have hby := Bd.bytes
  have hml : c.maxLocals = 18 := hml0
  have hown : s.vm.findClass "com/example/rolebridge/rolebridge/Field25519SwapPinLaw" = some m.cls := findClass_of_methodNamed Bd.named
  have hnm := (name_of_methodNamed Bd.named Bd.method).1
  have X0 : Stand p l e room_1 s m #[(.long x0), (.long x1), (.long x2), (.long x3), (.long x4), (.long x5)] below meth c s₁ [] 0 0 := Stand.of_body Bd
  have eh0 : s₁.heap = h0 := by rw [← hh, Bd.state]; rfl
  have N0 := Fr.nil n0
  refine Gq.start (Q := Q0 Z x0 x1 x2 x3 x4 x5 h0 n0) (kc := room_1.cells) (ks := room_1.slots) (ef0 m x0 x1 x2 x3 x4 x5) ?_
  refine Gq.go (s₁.setTop (mkF m 1 #[.val (.long x0), .second, .val (.long x1), .second, .val (.long x2), .second, .val (.long x3), .second, .val (.long x4), .second, .val (.long x5), .second, .unset, .unset, .unset, .unset, .unset, .unset] [(.long x0)])) (fun tt_ kk_ => XS.lloadN X0.here hx rfl (hb hby at_0) rfl kk_) ?_
  refine Gq.go (s₁.setTop (mkF m 2 #[.val (.long x0), .second, .val (.long x1), .second, .val (.long x2), .second, .val (.long x3), .second, .val (.long x4), .second, .val (.long x5), .second, .unset, .unset, .unset, .unset, .unset, .unset] [(.long (1 : Int64)), (.long x0)])) (fun tt_ kk_ => XS.lconst X0.here hx rfl (hb hby at_1) kk_) ?_
  refine Gq.go (s₁.setTop (mkF m 3 #[.val (.long x0), .second, .val (.long x1), .second, .val (.long x2), .second, .val (.long x3), .second, .val (.long x4), .second, .val (.long x5), .second, .unset, .unset, .unset, .unset, .unset, .unset] [(.long (x0 &&& (1 : Int64)))])) (fun tt_ kk_ => XS.land X0.here hx rfl (hb hby at_2) rfl kk_) ?_
  refine Gq.go (s₁.setTop (mkF m 5 #[.val (.long x0), .second, .val (.long x1), .second, .val (.long x2), .second, .val (.long x3), .second, .val (.long x4), .second, .val (.long x5), .second, .val (.long (x0 &&& (1 : Int64))), .second, .unset, .unset, .unset, .unset] [])) (fun tt_ kk_ => XS.lstore X0.here hx rfl (hb hby at_3) rfl (l' := #[.val (.long x0), .second, .val (.long x1), .second, .val (.long x2), .second, .val (.long x3), .second, .val (.long x4), .second, .val (.long x5), .second, .val (.long (x0 &&& (1 : Int64))), .second, .unset, .unset, .unset, .unset]) rfl kk_) ?_
  generalize hv3 : (x0 &&& (1 : Int64)) = v3
  refine Gq.go (s₁.setTop (mkF m 6 #[.val (.long x0), .second, .val (.long x1), .second, .val (.long x2), .second, .val (.long x3), .second, .val (.long x4), .second, .val (.long x5), .second, .val (.long v3), .second, .unset, .unset, .unset, .unset] [(.int (5 : Int32))])) (fun tt_ kk_ => XS.iconst X0.here hx rfl (hb hby at_5) kk_) ?_
  obtain ⟨T1, h1, b1, X1, eh1, E1, aq1, V1, st1⟩ := mkA X0 hx hZ (hw _ (List.mem_of_getElem? (i := 0) rfl)) eh0 (z := (5 : Int32)) (n := 5) (Ls := #[.val (.long x0), .second, .val (.long x1), .second, .val (.long x2), .second, .val (.long x3), .second, .val (.long x4), .second, .val (.long x5), .second, .val (.long v3), .second, .unset, .unset, .unset, .unset]) (rest := []) (by decide) rfl (by decide) (by decide) (by decide) (hb hby at_6)
  have g_b1 : n0 ≤ b1 := Nat.le_trans Z0 (Nat.le_of_eq aq1.symm)
  have za2 : n0 ≤ h1.size := Nat.le_trans Z0 E1.1
  have V1' : LA Z h1 b1 .long 5 (gl [(.long (0 : Int64)), (.long (0 : Int64)), (.long (0 : Int64)), (.long (0 : Int64)), (.long (0 : Int64))] (.long (0 : Int64))) := V1.list
  have ta1' := V1'.lt
  refine Gq.go (T1.setTop (mkF m 8 #[.val (.long x0), .second, .val (.long x1), .second, .val (.long x2), .second, .val (.long x3), .second, .val (.long x4), .second, .val (.long x5), .second, .val (.long v3), .second, .unset, .unset, .unset, .unset] [(.ref b1)])) (fun tt_ kk_ => st1 tt_ kk_) ?_
  refine Gq.go (T1.setTop (mkF m 9 #[.val (.long x0), .second, .val (.long x1), .second, .val (.long x2), .second, .val (.long x3), .second, .val (.long x4), .second, .val (.long x5), .second, .val (.long v3), .second, .unset, .unset, .unset, .unset] [(.ref b1), (.ref b1)])) (fun tt_ kk_ => XS.dup X1.here hx rfl (hb hby at_8) rfl rfl kk_) ?_
  refine Gq.go (T1.setTop (mkF m 10 #[.val (.long x0), .second, .val (.long x1), .second, .val (.long x2), .second, .val (.long x3), .second, .val (.long x4), .second, .val (.long x5), .second, .val (.long v3), .second, .unset, .unset, .unset, .unset] [(.int (0 : Int32)), (.ref b1), (.ref b1)])) (fun tt_ kk_ => XS.iconst X1.here hx rfl (hb hby at_9) kk_) ?_
  refine Gq.go (T1.setTop (mkF m 11 #[.val (.long x0), .second, .val (.long x1), .second, .val (.long x2), .second, .val (.long x3), .second, .val (.long x4), .second, .val (.long x5), .second, .val (.long v3), .second, .unset, .unset, .unset, .unset] [(.long x1), (.int (0 : Int32)), (.ref b1), (.ref b1)])) (fun tt_ kk_ => XS.lloadN X1.here hx rfl (hb hby at_10) rfl kk_) ?_
  obtain ⟨T3, h3, X3, eh3, W3, st3⟩ := stoJ X1 hx hZ eh1 V1' (j := (0 : Int32)) (i := 0) (x := x1) (Ls := #[.val (.long x0), .second, .val (.long x1), .second, .val (.long x2), .second, .val (.long x3), .second, .val (.long x4), .second, .val (.long x5), .second, .val (.long v3), .second, .unset, .unset, .unset, .unset]) (rest := [(.ref b1)]) (by decide) rfl (by decide) (hb hby at_11)
  have ta4 := Nat.lt_of_lt_of_le ta1' (Nat.le_of_eq W3.size.symm)
  have za5 : n0 ≤ h3.size := Nat.le_trans za2 (Nat.le_of_eq W3.size.symm)
  have V3 : LA Z h3 b1 .long 5 (gl [(.long x1), (.long (0 : Int64)), (.long (0 : Int64)), (.long (0 : Int64)), (.long (0 : Int64))] (.long (0 : Int64))) := V1'.setL W3 (Nat.le_of_ble_eq_true rfl)
  have N3 := Fr.snoc X3 N0 g_b1
  refine Gq.go (T3.setTop (mkF m 12 #[.val (.long x0), .second, .val (.long x1), .second, .val (.long x2), .second, .val (.long x3), .second, .val (.long x4), .second, .val (.long x5), .second, .val (.long v3), .second, .unset, .unset, .unset, .unset] [(.ref b1)])) (fun tt_ kk_ => st3 tt_ kk_) ?_
  refine Gq.go (T3.setTop (mkF m 13 #[.val (.long x0), .second, .val (.long x1), .second, .val (.long x2), .second, .val (.long x3), .second, .val (.long x4), .second, .val (.long x5), .second, .val (.long v3), .second, .unset, .unset, .unset, .unset] [(.ref b1), (.ref b1)])) (fun tt_ kk_ => XS.dup X3.here hx rfl (hb hby at_12) rfl rfl kk_) ?_
  refine Gq.go (T3.setTop (mkF m 14 #[.val (.long x0), .second, .val (.long x1), .second, .val (.long x2), .second, .val (.long x3), .second, .val (.long x4), .second, .val (.long x5), .second, .val (.long v3), .second, .unset, .unset, .unset, .unset] [(.int (1 : Int32)), (.ref b1), (.ref b1)])) (fun tt_ kk_ => XS.iconst X3.here hx rfl (hb hby at_13) kk_) ?_
  refine Gq.go (T3.setTop (mkF m 16 #[.val (.long x0), .second, .val (.long x1), .second, .val (.long x2), .second, .val (.long x3), .second, .val (.long x4), .second, .val (.long x5), .second, .val (.long v3), .second, .unset, .unset, .unset, .unset] [(.long x2), (.int (1 : Int32)), (.ref b1), (.ref b1)])) (fun tt_ kk_ => XS.lload X3.here hx rfl (hb hby at_14) rfl kk_) ?_
  obtain ⟨T6, h6, X6, eh6, W6, st6⟩ := stoJ X3 hx hZ eh3 V3 (j := (1 : Int32)) (i := 1) (x := x2) (Ls := #[.val (.long x0), .second, .val (.long x1), .second, .val (.long x2), .second, .val (.long x3), .second, .val (.long x4), .second, .val (.long x5), .second, .val (.long v3), .second, .unset, .unset, .unset, .unset]) (rest := [(.ref b1)]) (by decide) rfl (by decide) (hb hby at_16)
  have ta7 := Nat.lt_of_lt_of_le ta4 (Nat.le_of_eq W6.size.symm)
  have za8 : n0 ≤ h6.size := Nat.le_trans za5 (Nat.le_of_eq W6.size.symm)
  have V6 : LA Z h6 b1 .long 5 (gl [(.long x1), (.long x2), (.long (0 : Int64)), (.long (0 : Int64)), (.long (0 : Int64))] (.long (0 : Int64))) := V3.setL W6 (Nat.le_of_ble_eq_true rfl)
  have N6 := Fr.snoc X6 N3 g_b1
  refine Gq.go (T6.setTop (mkF m 17 #[.val (.long x0), .second, .val (.long x1), .second, .val (.long x2), .second, .val (.long x3), .second, .val (.long x4), .second, .val (.long x5), .second, .val (.long v3), .second, .unset, .unset, .unset, .unset] [(.ref b1)])) (fun tt_ kk_ => st6 tt_ kk_) ?_
  refine Gq.go (T6.setTop (mkF m 18 #[.val (.long x0), .second, .val (.long x1), .second, .val (.long x2), .second, .val (.long x3), .second, .val (.long x4), .second, .val (.long x5), .second, .val (.long v3), .second, .unset, .unset, .unset, .unset] [(.ref b1), (.ref b1)])) (fun tt_ kk_ => XS.dup X6.here hx rfl (hb hby at_17) rfl rfl kk_) ?_
  refine Gq.go (T6.setTop (mkF m 19 #[.val (.long x0), .second, .val (.long x1), .second, .val (.long x2), .second, .val (.long x3), .second, .val (.long x4), .second, .val (.long x5), .second, .val (.long v3), .second, .unset, .unset, .unset, .unset] [(.int (2 : Int32)), (.ref b1), (.ref b1)])) (fun tt_ kk_ => XS.iconst X6.here hx rfl (hb hby at_18) kk_) ?_
  refine Gq.go (T6.setTop (mkF m 21 #[.val (.long x0), .second, .val (.long x1), .second, .val (.long x2), .second, .val (.long x3), .second, .val (.long x4), .second, .val (.long x5), .second, .val (.long v3), .second, .unset, .unset, .unset, .unset] [(.long x3), (.int (2 : Int32)), (.ref b1), (.ref b1)])) (fun tt_ kk_ => XS.lload X6.here hx rfl (hb hby at_19) rfl kk_) ?_
  obtain ⟨T9, h9, X9, eh9, W9, st9⟩ := stoJ X6 hx hZ eh6 V6 (j := (2 : Int32)) (i := 2) (x := x3) (Ls := #[.val (.long x0), .second, .val (.long x1), .second, .val (.long x2), .second, .val (.long x3), .second, .val (.long x4), .second, .val (.long x5), .second, .val (.long v3), .second, .unset, .unset, .unset, .unset]) (rest := [(.ref b1)]) (by decide) rfl (by decide) (hb hby at_21)
  have ta10 := Nat.lt_of_lt_of_le ta7 (Nat.le_of_eq W9.size.symm)
  have za11 : n0 ≤ h9.size := Nat.le_trans za8 (Nat.le_of_eq W9.size.symm)
  have V9 : LA Z h9 b1 .long 5 (gl [(.long x1), (.long x2), (.long x3), (.long (0 : Int64)), (.long (0 : Int64))] (.long (0 : Int64))) := V6.setL W9 (Nat.le_of_ble_eq_true rfl)
  have N9 := Fr.snoc X9 N6 g_b1
  refine Gq.go (T9.setTop (mkF m 22 #[.val (.long x0), .second, .val (.long x1), .second, .val (.long x2), .second, .val (.long x3), .second, .val (.long x4), .second, .val (.long x5), .second, .val (.long v3), .second, .unset, .unset, .unset, .unset] [(.ref b1)])) (fun tt_ kk_ => st9 tt_ kk_) ?_
  refine Gq.go (T9.setTop (mkF m 23 #[.val (.long x0), .second, .val (.long x1), .second, .val (.long x2), .second, .val (.long x3), .second, .val (.long x4), .second, .val (.long x5), .second, .val (.long v3), .second, .unset, .unset, .unset, .unset] [(.ref b1), (.ref b1)])) (fun tt_ kk_ => XS.dup X9.here hx rfl (hb hby at_22) rfl rfl kk_) ?_
  refine Gq.go (T9.setTop (mkF m 24 #[.val (.long x0), .second, .val (.long x1), .second, .val (.long x2), .second, .val (.long x3), .second, .val (.long x4), .second, .val (.long x5), .second, .val (.long v3), .second, .unset, .unset, .unset, .unset] [(.int (3 : Int32)), (.ref b1), (.ref b1)])) (fun tt_ kk_ => XS.iconst X9.here hx rfl (hb hby at_23) kk_) ?_
  refine Gq.go (T9.setTop (mkF m 26 #[.val (.long x0), .second, .val (.long x1), .second, .val (.long x2), .second, .val (.long x3), .second, .val (.long x4), .second, .val (.long x5), .second, .val (.long v3), .second, .unset, .unset, .unset, .unset] [(.long x4), (.int (3 : Int32)), (.ref b1), (.ref b1)])) (fun tt_ kk_ => XS.lload X9.here hx rfl (hb hby at_24) rfl kk_) ?_
  obtain ⟨T12, h12, X12, eh12, W12, st12⟩ := stoJ X9 hx hZ eh9 V9 (j := (3 : Int32)) (i := 3) (x := x4) (Ls := #[.val (.long x0), .second, .val (.long x1), .second, .val (.long x2), .second, .val (.long x3), .second, .val (.long x4), .second, .val (.long x5), .second, .val (.long v3), .second, .unset, .unset, .unset, .unset]) (rest := [(.ref b1)]) (by decide) rfl (by decide) (hb hby at_26)
  have ta13 := Nat.lt_of_lt_of_le ta10 (Nat.le_of_eq W12.size.symm)
  have za14 : n0 ≤ h12.size := Nat.le_trans za11 (Nat.le_of_eq W12.size.symm)
  have V12 : LA Z h12 b1 .long 5 (gl [(.long x1), (.long x2), (.long x3), (.long x4), (.long (0 : Int64))] (.long (0 : Int64))) := V9.setL W12 (Nat.le_of_ble_eq_true rfl)
  have N12 := Fr.snoc X12 N9 g_b1
  refine Gq.go (T12.setTop (mkF m 27 #[.val (.long x0), .second, .val (.long x1), .second, .val (.long x2), .second, .val (.long x3), .second, .val (.long x4), .second, .val (.long x5), .second, .val (.long v3), .second, .unset, .unset, .unset, .unset] [(.ref b1)])) (fun tt_ kk_ => st12 tt_ kk_) ?_
  refine Gq.go (T12.setTop (mkF m 28 #[.val (.long x0), .second, .val (.long x1), .second, .val (.long x2), .second, .val (.long x3), .second, .val (.long x4), .second, .val (.long x5), .second, .val (.long v3), .second, .unset, .unset, .unset, .unset] [(.ref b1), (.ref b1)])) (fun tt_ kk_ => XS.dup X12.here hx rfl (hb hby at_27) rfl rfl kk_) ?_
  refine Gq.go (T12.setTop (mkF m 29 #[.val (.long x0), .second, .val (.long x1), .second, .val (.long x2), .second, .val (.long x3), .second, .val (.long x4), .second, .val (.long x5), .second, .val (.long v3), .second, .unset, .unset, .unset, .unset] [(.int (4 : Int32)), (.ref b1), (.ref b1)])) (fun tt_ kk_ => XS.iconst X12.here hx rfl (hb hby at_28) kk_) ?_
  refine Gq.go (T12.setTop (mkF m 31 #[.val (.long x0), .second, .val (.long x1), .second, .val (.long x2), .second, .val (.long x3), .second, .val (.long x4), .second, .val (.long x5), .second, .val (.long v3), .second, .unset, .unset, .unset, .unset] [(.long x5), (.int (4 : Int32)), (.ref b1), (.ref b1)])) (fun tt_ kk_ => XS.lload X12.here hx rfl (hb hby at_29) rfl kk_) ?_
  obtain ⟨T15, h15, X15, eh15, W15, st15⟩ := stoJ X12 hx hZ eh12 V12 (j := (4 : Int32)) (i := 4) (x := x5) (Ls := #[.val (.long x0), .second, .val (.long x1), .second, .val (.long x2), .second, .val (.long x3), .second, .val (.long x4), .second, .val (.long x5), .second, .val (.long v3), .second, .unset, .unset, .unset, .unset]) (rest := [(.ref b1)]) (by decide) rfl (by decide) (hb hby at_31)
  have ta16 := Nat.lt_of_lt_of_le ta13 (Nat.le_of_eq W15.size.symm)
  have za17 : n0 ≤ h15.size := Nat.le_trans za14 (Nat.le_of_eq W15.size.symm)
  have V15 : LA Z h15 b1 .long 5 (gl [(.long x1), (.long x2), (.long x3), (.long x4), (.long x5)] (.long (0 : Int64))) := V12.setL W15 (Nat.le_of_ble_eq_true rfl)
  have N15 := Fr.snoc X15 N12 g_b1
  refine Gq.go (T15.setTop (mkF m 32 #[.val (.long x0), .second, .val (.long x1), .second, .val (.long x2), .second, .val (.long x3), .second, .val (.long x4), .second, .val (.long x5), .second, .val (.long v3), .second, .unset, .unset, .unset, .unset] [(.ref b1)])) (fun tt_ kk_ => st15 tt_ kk_) ?_
  refine Gq.go (T15.setTop (mkF m 34 #[.val (.long x0), .second, .val (.long x1), .second, .val (.long x2), .second, .val (.long x3), .second, .val (.long x4), .second, .val (.long x5), .second, .val (.long v3), .second, .val (.ref b1), .unset, .unset, .unset] [])) (fun tt_ kk_ => XS.astore X15.here hx rfl (hb hby at_32) rfl rfl (l' := #[.val (.long x0), .second, .val (.long x1), .second, .val (.long x2), .second, .val (.long x3), .second, .val (.long x4), .second, .val (.long x5), .second, .val (.long v3), .second, .val (.ref b1), .unset, .unset, .unset]) rfl kk_) ?_
  refine Gq.go (T15.setTop (mkF m 35 #[.val (.long x0), .second, .val (.long x1), .second, .val (.long x2), .second, .val (.long x3), .second, .val (.long x4), .second, .val (.long x5), .second, .val (.long v3), .second, .val (.ref b1), .unset, .unset, .unset] [(.int (5 : Int32))])) (fun tt_ kk_ => XS.iconst X15.here hx rfl (hb hby at_34) kk_) ?_
  obtain ⟨T18, h18, b18, X18, eh18, E18, aq18, V18, st18⟩ := mkA X15 hx hZ (hw _ (List.mem_of_getElem? (i := 0) rfl)) eh15 (z := (5 : Int32)) (n := 5) (Ls := #[.val (.long x0), .second, .val (.long x1), .second, .val (.long x2), .second, .val (.long x3), .second, .val (.long x4), .second, .val (.long x5), .second, .val (.long v3), .second, .val (.ref b1), .unset, .unset, .unset]) (rest := []) (by decide) rfl (by decide) (by decide) (by decide) (hb hby at_35)
  have g_b18 : n0 ≤ b18 := Nat.le_trans za17 (Nat.le_of_eq aq18.symm)
  have ne_b1_b18 : b1 ≠ b18 := Nat.ne_of_lt (Nat.lt_of_lt_of_le ta16 (Nat.le_of_eq aq18.symm))
  have fa19 := V15.ext E18
  have ta20 := Nat.lt_of_lt_of_le ta16 E18.1
  have za21 : n0 ≤ h18.size := Nat.le_trans za17 E18.1
  have V18' : LA Z h18 b18 .long 5 (gl [(.long (0 : Int64)), (.long (0 : Int64)), (.long (0 : Int64)), (.long (0 : Int64)), (.long (0 : Int64))] (.long (0 : Int64))) := V18.list
  have ta18' := V18'.lt
  refine Gq.go (T18.setTop (mkF m 37 #[.val (.long x0), .second, .val (.long x1), .second, .val (.long x2), .second, .val (.long x3), .second, .val (.long x4), .second, .val (.long x5), .second, .val (.long v3), .second, .val (.ref b1), .unset, .unset, .unset] [(.ref b18)])) (fun tt_ kk_ => st18 tt_ kk_) ?_
  refine Gq.go (T18.setTop (mkF m 38 #[.val (.long x0), .second, .val (.long x1), .second, .val (.long x2), .second, .val (.long x3), .second, .val (.long x4), .second, .val (.long x5), .second, .val (.long v3), .second, .val (.ref b1), .unset, .unset, .unset] [(.ref b18), (.ref b18)])) (fun tt_ kk_ => XS.dup X18.here hx rfl (hb hby at_37) rfl rfl kk_) ?_
  refine Gq.go (T18.setTop (mkF m 39 #[.val (.long x0), .second, .val (.long x1), .second, .val (.long x2), .second, .val (.long x3), .second, .val (.long x4), .second, .val (.long x5), .second, .val (.long v3), .second, .val (.ref b1), .unset, .unset, .unset] [(.int (0 : Int32)), (.ref b18), (.ref b18)])) (fun tt_ kk_ => XS.iconst X18.here hx rfl (hb hby at_38) kk_) ?_
  refine Gq.go (T18.setTop (mkF m 41 #[.val (.long x0), .second, .val (.long x1), .second, .val (.long x2), .second, .val (.long x3), .second, .val (.long x4), .second, .val (.long x5), .second, .val (.long v3), .second, .val (.ref b1), .unset, .unset, .unset] [(.long x3), (.int (0 : Int32)), (.ref b18), (.ref b18)])) (fun tt_ kk_ => XS.lload X18.here hx rfl (hb hby at_39) rfl kk_) ?_
  obtain ⟨T22, h22, X22, eh22, W22, st22⟩ := stoJ X18 hx hZ eh18 V18' (j := (0 : Int32)) (i := 0) (x := x3) (Ls := #[.val (.long x0), .second, .val (.long x1), .second, .val (.long x2), .second, .val (.long x3), .second, .val (.long x4), .second, .val (.long x5), .second, .val (.long v3), .second, .val (.ref b1), .unset, .unset, .unset]) (rest := [(.ref b18)]) (by decide) rfl (by decide) (hb hby at_41)
  have fa23 := fa19.other W22 ne_b1_b18
  have ta24 := Nat.lt_of_lt_of_le ta20 (Nat.le_of_eq W22.size.symm)
  have ta25 := Nat.lt_of_lt_of_le ta18' (Nat.le_of_eq W22.size.symm)
  have za26 : n0 ≤ h22.size := Nat.le_trans za21 (Nat.le_of_eq W22.size.symm)
  have V22 : LA Z h22 b18 .long 5 (gl [(.long x3), (.long (0 : Int64)), (.long (0 : Int64)), (.long (0 : Int64)), (.long (0 : Int64))] (.long (0 : Int64))) := V18'.setL W22 (Nat.le_of_ble_eq_true rfl)
  have N22 := Fr.snoc X22 N15 g_b18
  refine Gq.go (T22.setTop (mkF m 42 #[.val (.long x0), .second, .val (.long x1), .second, .val (.long x2), .second, .val (.long x3), .second, .val (.long x4), .second, .val (.long x5), .second, .val (.long v3), .second, .val (.ref b1), .unset, .unset, .unset] [(.ref b18)])) (fun tt_ kk_ => st22 tt_ kk_) ?_
  refine Gq.go (T22.setTop (mkF m 43 #[.val (.long x0), .second, .val (.long x1), .second, .val (.long x2), .second, .val (.long x3), .second, .val (.long x4), .second, .val (.long x5), .second, .val (.long v3), .second, .val (.ref b1), .unset, .unset, .unset] [(.ref b18), (.ref b18)])) (fun tt_ kk_ => XS.dup X22.here hx rfl (hb hby at_42) rfl rfl kk_) ?_
  refine Gq.go (T22.setTop (mkF m 44 #[.val (.long x0), .second, .val (.long x1), .second, .val (.long x2), .second, .val (.long x3), .second, .val (.long x4), .second, .val (.long x5), .second, .val (.long v3), .second, .val (.ref b1), .unset, .unset, .unset] [(.int (1 : Int32)), (.ref b18), (.ref b18)])) (fun tt_ kk_ => XS.iconst X22.here hx rfl (hb hby at_43) kk_) ?_
  refine Gq.go (T22.setTop (mkF m 46 #[.val (.long x0), .second, .val (.long x1), .second, .val (.long x2), .second, .val (.long x3), .second, .val (.long x4), .second, .val (.long x5), .second, .val (.long v3), .second, .val (.ref b1), .unset, .unset, .unset] [(.long x4), (.int (1 : Int32)), (.ref b18), (.ref b18)])) (fun tt_ kk_ => XS.lload X22.here hx rfl (hb hby at_44) rfl kk_) ?_
  refine Gq.go (T22.setTop (mkF m 47 #[.val (.long x0), .second, .val (.long x1), .second, .val (.long x2), .second, .val (.long x3), .second, .val (.long x4), .second, .val (.long x5), .second, .val (.long v3), .second, .val (.ref b1), .unset, .unset, .unset] [(.long x1), (.long x4), (.int (1 : Int32)), (.ref b18), (.ref b18)])) (fun tt_ kk_ => XS.lloadN X22.here hx rfl (hb hby at_46) rfl kk_) ?_
  refine Gq.go (T22.setTop (mkF m 48 #[.val (.long x0), .second, .val (.long x1), .second, .val (.long x2), .second, .val (.long x3), .second, .val (.long x4), .second, .val (.long x5), .second, .val (.long v3), .second, .val (.ref b1), .unset, .unset, .unset] [(.long (x4 ^^^ x1)), (.int (1 : Int32)), (.ref b18), (.ref b18)])) (fun tt_ kk_ => XS.lxor X22.here hx rfl (hb hby at_47) rfl kk_) ?_
  obtain ⟨T27, h27, X27, eh27, W27, st27⟩ := stoJ X22 hx hZ eh22 V22 (j := (1 : Int32)) (i := 1) (x := (x4 ^^^ x1)) (Ls := #[.val (.long x0), .second, .val (.long x1), .second, .val (.long x2), .second, .val (.long x3), .second, .val (.long x4), .second, .val (.long x5), .second, .val (.long v3), .second, .val (.ref b1), .unset, .unset, .unset]) (rest := [(.ref b18)]) (by decide) rfl (by decide) (hb hby at_48)
  have fa28 := fa23.other W27 ne_b1_b18
  have ta29 := Nat.lt_of_lt_of_le ta24 (Nat.le_of_eq W27.size.symm)
  have ta30 := Nat.lt_of_lt_of_le ta25 (Nat.le_of_eq W27.size.symm)
  have za31 : n0 ≤ h27.size := Nat.le_trans za26 (Nat.le_of_eq W27.size.symm)
  have V27 : LA Z h27 b18 .long 5 (gl [(.long x3), (.long (x4 ^^^ x1)), (.long (0 : Int64)), (.long (0 : Int64)), (.long (0 : Int64))] (.long (0 : Int64))) := V22.setL W27 (Nat.le_of_ble_eq_true rfl)
  have N27 := Fr.snoc X27 N22 g_b18
  refine Gq.go (T27.setTop (mkF m 49 #[.val (.long x0), .second, .val (.long x1), .second, .val (.long x2), .second, .val (.long x3), .second, .val (.long x4), .second, .val (.long x5), .second, .val (.long v3), .second, .val (.ref b1), .unset, .unset, .unset] [(.ref b18)])) (fun tt_ kk_ => st27 tt_ kk_) ?_
  refine Gq.go (T27.setTop (mkF m 50 #[.val (.long x0), .second, .val (.long x1), .second, .val (.long x2), .second, .val (.long x3), .second, .val (.long x4), .second, .val (.long x5), .second, .val (.long v3), .second, .val (.ref b1), .unset, .unset, .unset] [(.ref b18), (.ref b18)])) (fun tt_ kk_ => XS.dup X27.here hx rfl (hb hby at_49) rfl rfl kk_) ?_
  refine Gq.go (T27.setTop (mkF m 51 #[.val (.long x0), .second, .val (.long x1), .second, .val (.long x2), .second, .val (.long x3), .second, .val (.long x4), .second, .val (.long x5), .second, .val (.long v3), .second, .val (.ref b1), .unset, .unset, .unset] [(.int (2 : Int32)), (.ref b18), (.ref b18)])) (fun tt_ kk_ => XS.iconst X27.here hx rfl (hb hby at_50) kk_) ?_
  refine Gq.go (T27.setTop (mkF m 53 #[.val (.long x0), .second, .val (.long x1), .second, .val (.long x2), .second, .val (.long x3), .second, .val (.long x4), .second, .val (.long x5), .second, .val (.long v3), .second, .val (.ref b1), .unset, .unset, .unset] [(.long x5), (.int (2 : Int32)), (.ref b18), (.ref b18)])) (fun tt_ kk_ => XS.lload X27.here hx rfl (hb hby at_51) rfl kk_) ?_
  obtain ⟨T32, h32, X32, eh32, W32, st32⟩ := stoJ X27 hx hZ eh27 V27 (j := (2 : Int32)) (i := 2) (x := x5) (Ls := #[.val (.long x0), .second, .val (.long x1), .second, .val (.long x2), .second, .val (.long x3), .second, .val (.long x4), .second, .val (.long x5), .second, .val (.long v3), .second, .val (.ref b1), .unset, .unset, .unset]) (rest := [(.ref b18)]) (by decide) rfl (by decide) (hb hby at_53)
  have fa33 := fa28.other W32 ne_b1_b18
  have ta34 := Nat.lt_of_lt_of_le ta29 (Nat.le_of_eq W32.size.symm)
  have ta35 := Nat.lt_of_lt_of_le ta30 (Nat.le_of_eq W32.size.symm)
  have za36 : n0 ≤ h32.size := Nat.le_trans za31 (Nat.le_of_eq W32.size.symm)
  have V32 : LA Z h32 b18 .long 5 (gl [(.long x3), (.long (x4 ^^^ x1)), (.long x5), (.long (0 : Int64)), (.long (0 : Int64))] (.long (0 : Int64))) := V27.setL W32 (Nat.le_of_ble_eq_true rfl)
  have N32 := Fr.snoc X32 N27 g_b18
  refine Gq.go (T32.setTop (mkF m 54 #[.val (.long x0), .second, .val (.long x1), .second, .val (.long x2), .second, .val (.long x3), .second, .val (.long x4), .second, .val (.long x5), .second, .val (.long v3), .second, .val (.ref b1), .unset, .unset, .unset] [(.ref b18)])) (fun tt_ kk_ => st32 tt_ kk_) ?_
  refine Gq.go (T32.setTop (mkF m 55 #[.val (.long x0), .second, .val (.long x1), .second, .val (.long x2), .second, .val (.long x3), .second, .val (.long x4), .second, .val (.long x5), .second, .val (.long v3), .second, .val (.ref b1), .unset, .unset, .unset] [(.ref b18), (.ref b18)])) (fun tt_ kk_ => XS.dup X32.here hx rfl (hb hby at_54) rfl rfl kk_) ?_
  refine Gq.go (T32.setTop (mkF m 56 #[.val (.long x0), .second, .val (.long x1), .second, .val (.long x2), .second, .val (.long x3), .second, .val (.long x4), .second, .val (.long x5), .second, .val (.long v3), .second, .val (.ref b1), .unset, .unset, .unset] [(.int (3 : Int32)), (.ref b18), (.ref b18)])) (fun tt_ kk_ => XS.iconst X32.here hx rfl (hb hby at_55) kk_) ?_
  refine Gq.go (T32.setTop (mkF m 57 #[.val (.long x0), .second, .val (.long x1), .second, .val (.long x2), .second, .val (.long x3), .second, .val (.long x4), .second, .val (.long x5), .second, .val (.long v3), .second, .val (.ref b1), .unset, .unset, .unset] [(.long x1), (.int (3 : Int32)), (.ref b18), (.ref b18)])) (fun tt_ kk_ => XS.lloadN X32.here hx rfl (hb hby at_56) rfl kk_) ?_
  refine Gq.go (T32.setTop (mkF m 59 #[.val (.long x0), .second, .val (.long x1), .second, .val (.long x2), .second, .val (.long x3), .second, .val (.long x4), .second, .val (.long x5), .second, .val (.long v3), .second, .val (.ref b1), .unset, .unset, .unset] [(.long x2), (.long x1), (.int (3 : Int32)), (.ref b18), (.ref b18)])) (fun tt_ kk_ => XS.lload X32.here hx rfl (hb hby at_57) rfl kk_) ?_
  refine Gq.go (T32.setTop (mkF m 60 #[.val (.long x0), .second, .val (.long x1), .second, .val (.long x2), .second, .val (.long x3), .second, .val (.long x4), .second, .val (.long x5), .second, .val (.long v3), .second, .val (.ref b1), .unset, .unset, .unset] [(.long (x1 + x2)), (.int (3 : Int32)), (.ref b18), (.ref b18)])) (fun tt_ kk_ => XS.ladd X32.here hx rfl (hb hby at_59) rfl kk_) ?_
  obtain ⟨T37, h37, X37, eh37, W37, st37⟩ := stoJ X32 hx hZ eh32 V32 (j := (3 : Int32)) (i := 3) (x := (x1 + x2)) (Ls := #[.val (.long x0), .second, .val (.long x1), .second, .val (.long x2), .second, .val (.long x3), .second, .val (.long x4), .second, .val (.long x5), .second, .val (.long v3), .second, .val (.ref b1), .unset, .unset, .unset]) (rest := [(.ref b18)]) (by decide) rfl (by decide) (hb hby at_60)
  have fa38 := fa33.other W37 ne_b1_b18
  have ta39 := Nat.lt_of_lt_of_le ta34 (Nat.le_of_eq W37.size.symm)
  have ta40 := Nat.lt_of_lt_of_le ta35 (Nat.le_of_eq W37.size.symm)
  have za41 : n0 ≤ h37.size := Nat.le_trans za36 (Nat.le_of_eq W37.size.symm)
  have V37 : LA Z h37 b18 .long 5 (gl [(.long x3), (.long (x4 ^^^ x1)), (.long x5), (.long (x1 + x2)), (.long (0 : Int64))] (.long (0 : Int64))) := V32.setL W37 (Nat.le_of_ble_eq_true rfl)
  have N37 := Fr.snoc X37 N32 g_b18
  refine Gq.go (T37.setTop (mkF m 61 #[.val (.long x0), .second, .val (.long x1), .second, .val (.long x2), .second, .val (.long x3), .second, .val (.long x4), .second, .val (.long x5), .second, .val (.long v3), .second, .val (.ref b1), .unset, .unset, .unset] [(.ref b18)])) (fun tt_ kk_ => st37 tt_ kk_) ?_
  refine Gq.go (T37.setTop (mkF m 62 #[.val (.long x0), .second, .val (.long x1), .second, .val (.long x2), .second, .val (.long x3), .second, .val (.long x4), .second, .val (.long x5), .second, .val (.long v3), .second, .val (.ref b1), .unset, .unset, .unset] [(.ref b18), (.ref b18)])) (fun tt_ kk_ => XS.dup X37.here hx rfl (hb hby at_61) rfl rfl kk_) ?_
  refine Gq.go (T37.setTop (mkF m 63 #[.val (.long x0), .second, .val (.long x1), .second, .val (.long x2), .second, .val (.long x3), .second, .val (.long x4), .second, .val (.long x5), .second, .val (.long v3), .second, .val (.ref b1), .unset, .unset, .unset] [(.int (4 : Int32)), (.ref b18), (.ref b18)])) (fun tt_ kk_ => XS.iconst X37.here hx rfl (hb hby at_62) kk_) ?_
  refine Gq.go (T37.setTop (mkF m 65 #[.val (.long x0), .second, .val (.long x1), .second, .val (.long x2), .second, .val (.long x3), .second, .val (.long x4), .second, .val (.long x5), .second, .val (.long v3), .second, .val (.ref b1), .unset, .unset, .unset] [(.long x2), (.int (4 : Int32)), (.ref b18), (.ref b18)])) (fun tt_ kk_ => XS.lload X37.here hx rfl (hb hby at_63) rfl kk_) ?_
  refine Gq.go (T37.setTop (mkF m 67 #[.val (.long x0), .second, .val (.long x1), .second, .val (.long x2), .second, .val (.long x3), .second, .val (.long x4), .second, .val (.long x5), .second, .val (.long v3), .second, .val (.ref b1), .unset, .unset, .unset] [(.long x5), (.long x2), (.int (4 : Int32)), (.ref b18), (.ref b18)])) (fun tt_ kk_ => XS.lload X37.here hx rfl (hb hby at_65) rfl kk_) ?_
  refine Gq.go (T37.setTop (mkF m 68 #[.val (.long x0), .second, .val (.long x1), .second, .val (.long x2), .second, .val (.long x3), .second, .val (.long x4), .second, .val (.long x5), .second, .val (.long v3), .second, .val (.ref b1), .unset, .unset, .unset] [(.long (x2 ^^^ x5)), (.int (4 : Int32)), (.ref b18), (.ref b18)])) (fun tt_ kk_ => XS.lxor X37.here hx rfl (hb hby at_67) rfl kk_) ?_
  obtain ⟨T42, h42, X42, eh42, W42, st42⟩ := stoJ X37 hx hZ eh37 V37 (j := (4 : Int32)) (i := 4) (x := (x2 ^^^ x5)) (Ls := #[.val (.long x0), .second, .val (.long x1), .second, .val (.long x2), .second, .val (.long x3), .second, .val (.long x4), .second, .val (.long x5), .second, .val (.long v3), .second, .val (.ref b1), .unset, .unset, .unset]) (rest := [(.ref b18)]) (by decide) rfl (by decide) (hb hby at_68)
  have fa43 := fa38.other W42 ne_b1_b18
  have ta44 := Nat.lt_of_lt_of_le ta39 (Nat.le_of_eq W42.size.symm)
  have ta45 := Nat.lt_of_lt_of_le ta40 (Nat.le_of_eq W42.size.symm)
  have za46 : n0 ≤ h42.size := Nat.le_trans za41 (Nat.le_of_eq W42.size.symm)
  have V42 : LA Z h42 b18 .long 5 (gl [(.long x3), (.long (x4 ^^^ x1)), (.long x5), (.long (x1 + x2)), (.long (x2 ^^^ x5))] (.long (0 : Int64))) := V37.setL W42 (Nat.le_of_ble_eq_true rfl)
  have N42 := Fr.snoc X42 N37 g_b18
  refine Gq.go (T42.setTop (mkF m 69 #[.val (.long x0), .second, .val (.long x1), .second, .val (.long x2), .second, .val (.long x3), .second, .val (.long x4), .second, .val (.long x5), .second, .val (.long v3), .second, .val (.ref b1), .unset, .unset, .unset] [(.ref b18)])) (fun tt_ kk_ => st42 tt_ kk_) ?_
  refine Gq.go (T42.setTop (mkF m 71 #[.val (.long x0), .second, .val (.long x1), .second, .val (.long x2), .second, .val (.long x3), .second, .val (.long x4), .second, .val (.long x5), .second, .val (.long v3), .second, .val (.ref b1), .val (.ref b18), .unset, .unset] [])) (fun tt_ kk_ => XS.astore X42.here hx rfl (hb hby at_69) rfl rfl (l' := #[.val (.long x0), .second, .val (.long x1), .second, .val (.long x2), .second, .val (.long x3), .second, .val (.long x4), .second, .val (.long x5), .second, .val (.long v3), .second, .val (.ref b1), .val (.ref b18), .unset, .unset]) rfl kk_) ?_
  refine Gq.go (T42.setTop (mkF m 72 #[.val (.long x0), .second, .val (.long x1), .second, .val (.long x2), .second, .val (.long x3), .second, .val (.long x4), .second, .val (.long x5), .second, .val (.long v3), .second, .val (.ref b1), .val (.ref b18), .unset, .unset] [(.int (5 : Int32))])) (fun tt_ kk_ => XS.iconst X42.here hx rfl (hb hby at_71) kk_) ?_
  obtain ⟨T47, h47, b47, X47, eh47, E47, aq47, V47, st47⟩ := mkA X42 hx hZ (hw _ (List.mem_of_getElem? (i := 0) rfl)) eh42 (z := (5 : Int32)) (n := 5) (Ls := #[.val (.long x0), .second, .val (.long x1), .second, .val (.long x2), .second, .val (.long x3), .second, .val (.long x4), .second, .val (.long x5), .second, .val (.long v3), .second, .val (.ref b1), .val (.ref b18), .unset, .unset]) (rest := []) (by decide) rfl (by decide) (by decide) (by decide) (hb hby at_72)
  have g_b47 : n0 ≤ b47 := Nat.le_trans za46 (Nat.le_of_eq aq47.symm)
  have ne_b1_b47 : b1 ≠ b47 := Nat.ne_of_lt (Nat.lt_of_lt_of_le ta44 (Nat.le_of_eq aq47.symm))
  have ne_b18_b47 : b18 ≠ b47 := Nat.ne_of_lt (Nat.lt_of_lt_of_le ta45 (Nat.le_of_eq aq47.symm))
  have fa48 := fa43.ext E47
  have fa49 := V42.ext E47
  have ta50 := Nat.lt_of_lt_of_le ta44 E47.1
  have ta51 := Nat.lt_of_lt_of_le ta45 E47.1
  have za52 : n0 ≤ h47.size := Nat.le_trans za46 E47.1
  have V47' : LA Z h47 b47 .long 5 (gl [(.long (0 : Int64)), (.long (0 : Int64)), (.long (0 : Int64)), (.long (0 : Int64)), (.long (0 : Int64))] (.long (0 : Int64))) := V47.list
  have ta47' := V47'.lt
  refine Gq.go (T47.setTop (mkF m 74 #[.val (.long x0), .second, .val (.long x1), .second, .val (.long x2), .second, .val (.long x3), .second, .val (.long x4), .second, .val (.long x5), .second, .val (.long v3), .second, .val (.ref b1), .val (.ref b18), .unset, .unset] [(.ref b47)])) (fun tt_ kk_ => st47 tt_ kk_) ?_
  refine Gq.go (T47.setTop (mkF m 75 #[.val (.long x0), .second, .val (.long x1), .second, .val (.long x2), .second, .val (.long x3), .second, .val (.long x4), .second, .val (.long x5), .second, .val (.long v3), .second, .val (.ref b1), .val (.ref b18), .unset, .unset] [(.ref b47), (.ref b47)])) (fun tt_ kk_ => XS.dup X47.here hx rfl (hb hby at_74) rfl rfl kk_) ?_
  refine Gq.go (T47.setTop (mkF m 76 #[.val (.long x0), .second, .val (.long x1), .second, .val (.long x2), .second, .val (.long x3), .second, .val (.long x4), .second, .val (.long x5), .second, .val (.long v3), .second, .val (.ref b1), .val (.ref b18), .unset, .unset] [(.int (0 : Int32)), (.ref b47), (.ref b47)])) (fun tt_ kk_ => XS.iconst X47.here hx rfl (hb hby at_75) kk_) ?_
  refine Gq.go (T47.setTop (mkF m 77 #[.val (.long x0), .second, .val (.long x1), .second, .val (.long x2), .second, .val (.long x3), .second, .val (.long x4), .second, .val (.long x5), .second, .val (.long v3), .second, .val (.ref b1), .val (.ref b18), .unset, .unset] [(.long x1), (.int (0 : Int32)), (.ref b47), (.ref b47)])) (fun tt_ kk_ => XS.lloadN X47.here hx rfl (hb hby at_76) rfl kk_) ?_
  obtain ⟨T53, h53, X53, eh53, W53, st53⟩ := stoJ X47 hx hZ eh47 V47' (j := (0 : Int32)) (i := 0) (x := x1) (Ls := #[.val (.long x0), .second, .val (.long x1), .second, .val (.long x2), .second, .val (.long x3), .second, .val (.long x4), .second, .val (.long x5), .second, .val (.long v3), .second, .val (.ref b1), .val (.ref b18), .unset, .unset]) (rest := [(.ref b47)]) (by decide) rfl (by decide) (hb hby at_77)
  have fa54 := fa48.other W53 ne_b1_b47
  have fa55 := fa49.other W53 ne_b18_b47
  have ta56 := Nat.lt_of_lt_of_le ta50 (Nat.le_of_eq W53.size.symm)
  have ta57 := Nat.lt_of_lt_of_le ta51 (Nat.le_of_eq W53.size.symm)
  have ta58 := Nat.lt_of_lt_of_le ta47' (Nat.le_of_eq W53.size.symm)
  have za59 : n0 ≤ h53.size := Nat.le_trans za52 (Nat.le_of_eq W53.size.symm)
  have V53 : LA Z h53 b47 .long 5 (gl [(.long x1), (.long (0 : Int64)), (.long (0 : Int64)), (.long (0 : Int64)), (.long (0 : Int64))] (.long (0 : Int64))) := V47'.setL W53 (Nat.le_of_ble_eq_true rfl)
  have N53 := Fr.snoc X53 N42 g_b47
  refine Gq.go (T53.setTop (mkF m 78 #[.val (.long x0), .second, .val (.long x1), .second, .val (.long x2), .second, .val (.long x3), .second, .val (.long x4), .second, .val (.long x5), .second, .val (.long v3), .second, .val (.ref b1), .val (.ref b18), .unset, .unset] [(.ref b47)])) (fun tt_ kk_ => st53 tt_ kk_) ?_
  refine Gq.go (T53.setTop (mkF m 79 #[.val (.long x0), .second, .val (.long x1), .second, .val (.long x2), .second, .val (.long x3), .second, .val (.long x4), .second, .val (.long x5), .second, .val (.long v3), .second, .val (.ref b1), .val (.ref b18), .unset, .unset] [(.ref b47), (.ref b47)])) (fun tt_ kk_ => XS.dup X53.here hx rfl (hb hby at_78) rfl rfl kk_) ?_
  refine Gq.go (T53.setTop (mkF m 80 #[.val (.long x0), .second, .val (.long x1), .second, .val (.long x2), .second, .val (.long x3), .second, .val (.long x4), .second, .val (.long x5), .second, .val (.long v3), .second, .val (.ref b1), .val (.ref b18), .unset, .unset] [(.int (1 : Int32)), (.ref b47), (.ref b47)])) (fun tt_ kk_ => XS.iconst X53.here hx rfl (hb hby at_79) kk_) ?_
  refine Gq.go (T53.setTop (mkF m 82 #[.val (.long x0), .second, .val (.long x1), .second, .val (.long x2), .second, .val (.long x3), .second, .val (.long x4), .second, .val (.long x5), .second, .val (.long v3), .second, .val (.ref b1), .val (.ref b18), .unset, .unset] [(.long x2), (.int (1 : Int32)), (.ref b47), (.ref b47)])) (fun tt_ kk_ => XS.lload X53.here hx rfl (hb hby at_80) rfl kk_) ?_
  obtain ⟨T60, h60, X60, eh60, W60, st60⟩ := stoJ X53 hx hZ eh53 V53 (j := (1 : Int32)) (i := 1) (x := x2) (Ls := #[.val (.long x0), .second, .val (.long x1), .second, .val (.long x2), .second, .val (.long x3), .second, .val (.long x4), .second, .val (.long x5), .second, .val (.long v3), .second, .val (.ref b1), .val (.ref b18), .unset, .unset]) (rest := [(.ref b47)]) (by decide) rfl (by decide) (hb hby at_82)
  have fa61 := fa54.other W60 ne_b1_b47
  have fa62 := fa55.other W60 ne_b18_b47
  have ta63 := Nat.lt_of_lt_of_le ta56 (Nat.le_of_eq W60.size.symm)
  have ta64 := Nat.lt_of_lt_of_le ta57 (Nat.le_of_eq W60.size.symm)
  have ta65 := Nat.lt_of_lt_of_le ta58 (Nat.le_of_eq W60.size.symm)
  have za66 : n0 ≤ h60.size := Nat.le_trans za59 (Nat.le_of_eq W60.size.symm)
  have V60 : LA Z h60 b47 .long 5 (gl [(.long x1), (.long x2), (.long (0 : Int64)), (.long (0 : Int64)), (.long (0 : Int64))] (.long (0 : Int64))) := V53.setL W60 (Nat.le_of_ble_eq_true rfl)
  have N60 := Fr.snoc X60 N53 g_b47
  refine Gq.go (T60.setTop (mkF m 83 #[.val (.long x0), .second, .val (.long x1), .second, .val (.long x2), .second, .val (.long x3), .second, .val (.long x4), .second, .val (.long x5), .second, .val (.long v3), .second, .val (.ref b1), .val (.ref b18), .unset, .unset] [(.ref b47)])) (fun tt_ kk_ => st60 tt_ kk_) ?_
  refine Gq.go (T60.setTop (mkF m 84 #[.val (.long x0), .second, .val (.long x1), .second, .val (.long x2), .second, .val (.long x3), .second, .val (.long x4), .second, .val (.long x5), .second, .val (.long v3), .second, .val (.ref b1), .val (.ref b18), .unset, .unset] [(.ref b47), (.ref b47)])) (fun tt_ kk_ => XS.dup X60.here hx rfl (hb hby at_83) rfl rfl kk_) ?_
  refine Gq.go (T60.setTop (mkF m 85 #[.val (.long x0), .second, .val (.long x1), .second, .val (.long x2), .second, .val (.long x3), .second, .val (.long x4), .second, .val (.long x5), .second, .val (.long v3), .second, .val (.ref b1), .val (.ref b18), .unset, .unset] [(.int (2 : Int32)), (.ref b47), (.ref b47)])) (fun tt_ kk_ => XS.iconst X60.here hx rfl (hb hby at_84) kk_) ?_
  refine Gq.go (T60.setTop (mkF m 87 #[.val (.long x0), .second, .val (.long x1), .second, .val (.long x2), .second, .val (.long x3), .second, .val (.long x4), .second, .val (.long x5), .second, .val (.long v3), .second, .val (.ref b1), .val (.ref b18), .unset, .unset] [(.long x3), (.int (2 : Int32)), (.ref b47), (.ref b47)])) (fun tt_ kk_ => XS.lload X60.here hx rfl (hb hby at_85) rfl kk_) ?_
  obtain ⟨T67, h67, X67, eh67, W67, st67⟩ := stoJ X60 hx hZ eh60 V60 (j := (2 : Int32)) (i := 2) (x := x3) (Ls := #[.val (.long x0), .second, .val (.long x1), .second, .val (.long x2), .second, .val (.long x3), .second, .val (.long x4), .second, .val (.long x5), .second, .val (.long v3), .second, .val (.ref b1), .val (.ref b18), .unset, .unset]) (rest := [(.ref b47)]) (by decide) rfl (by decide) (hb hby at_87)
  have fa68 := fa61.other W67 ne_b1_b47
  have fa69 := fa62.other W67 ne_b18_b47
  have ta70 := Nat.lt_of_lt_of_le ta63 (Nat.le_of_eq W67.size.symm)
  have ta71 := Nat.lt_of_lt_of_le ta64 (Nat.le_of_eq W67.size.symm)
  have ta72 := Nat.lt_of_lt_of_le ta65 (Nat.le_of_eq W67.size.symm)
  have za73 : n0 ≤ h67.size := Nat.le_trans za66 (Nat.le_of_eq W67.size.symm)
  have V67 : LA Z h67 b47 .long 5 (gl [(.long x1), (.long x2), (.long x3), (.long (0 : Int64)), (.long (0 : Int64))] (.long (0 : Int64))) := V60.setL W67 (Nat.le_of_ble_eq_true rfl)
  have N67 := Fr.snoc X67 N60 g_b47
  refine Gq.go (T67.setTop (mkF m 88 #[.val (.long x0), .second, .val (.long x1), .second, .val (.long x2), .second, .val (.long x3), .second, .val (.long x4), .second, .val (.long x5), .second, .val (.long v3), .second, .val (.ref b1), .val (.ref b18), .unset, .unset] [(.ref b47)])) (fun tt_ kk_ => st67 tt_ kk_) ?_
  refine Gq.go (T67.setTop (mkF m 89 #[.val (.long x0), .second, .val (.long x1), .second, .val (.long x2), .second, .val (.long x3), .second, .val (.long x4), .second, .val (.long x5), .second, .val (.long v3), .second, .val (.ref b1), .val (.ref b18), .unset, .unset] [(.ref b47), (.ref b47)])) (fun tt_ kk_ => XS.dup X67.here hx rfl (hb hby at_88) rfl rfl kk_) ?_
  refine Gq.go (T67.setTop (mkF m 90 #[.val (.long x0), .second, .val (.long x1), .second, .val (.long x2), .second, .val (.long x3), .second, .val (.long x4), .second, .val (.long x5), .second, .val (.long v3), .second, .val (.ref b1), .val (.ref b18), .unset, .unset] [(.int (3 : Int32)), (.ref b47), (.ref b47)])) (fun tt_ kk_ => XS.iconst X67.here hx rfl (hb hby at_89) kk_) ?_
  refine Gq.go (T67.setTop (mkF m 92 #[.val (.long x0), .second, .val (.long x1), .second, .val (.long x2), .second, .val (.long x3), .second, .val (.long x4), .second, .val (.long x5), .second, .val (.long v3), .second, .val (.ref b1), .val (.ref b18), .unset, .unset] [(.long x4), (.int (3 : Int32)), (.ref b47), (.ref b47)])) (fun tt_ kk_ => XS.lload X67.here hx rfl (hb hby at_90) rfl kk_) ?_
  obtain ⟨T74, h74, X74, eh74, W74, st74⟩ := stoJ X67 hx hZ eh67 V67 (j := (3 : Int32)) (i := 3) (x := x4) (Ls := #[.val (.long x0), .second, .val (.long x1), .second, .val (.long x2), .second, .val (.long x3), .second, .val (.long x4), .second, .val (.long x5), .second, .val (.long v3), .second, .val (.ref b1), .val (.ref b18), .unset, .unset]) (rest := [(.ref b47)]) (by decide) rfl (by decide) (hb hby at_92)
  have fa75 := fa68.other W74 ne_b1_b47
  have fa76 := fa69.other W74 ne_b18_b47
  have ta77 := Nat.lt_of_lt_of_le ta70 (Nat.le_of_eq W74.size.symm)
  have ta78 := Nat.lt_of_lt_of_le ta71 (Nat.le_of_eq W74.size.symm)
  have ta79 := Nat.lt_of_lt_of_le ta72 (Nat.le_of_eq W74.size.symm)
  have za80 : n0 ≤ h74.size := Nat.le_trans za73 (Nat.le_of_eq W74.size.symm)
  have V74 : LA Z h74 b47 .long 5 (gl [(.long x1), (.long x2), (.long x3), (.long x4), (.long (0 : Int64))] (.long (0 : Int64))) := V67.setL W74 (Nat.le_of_ble_eq_true rfl)
  have N74 := Fr.snoc X74 N67 g_b47
  refine Gq.go (T74.setTop (mkF m 93 #[.val (.long x0), .second, .val (.long x1), .second, .val (.long x2), .second, .val (.long x3), .second, .val (.long x4), .second, .val (.long x5), .second, .val (.long v3), .second, .val (.ref b1), .val (.ref b18), .unset, .unset] [(.ref b47)])) (fun tt_ kk_ => st74 tt_ kk_) ?_
  refine Gq.go (T74.setTop (mkF m 94 #[.val (.long x0), .second, .val (.long x1), .second, .val (.long x2), .second, .val (.long x3), .second, .val (.long x4), .second, .val (.long x5), .second, .val (.long v3), .second, .val (.ref b1), .val (.ref b18), .unset, .unset] [(.ref b47), (.ref b47)])) (fun tt_ kk_ => XS.dup X74.here hx rfl (hb hby at_93) rfl rfl kk_) ?_
  refine Gq.go (T74.setTop (mkF m 95 #[.val (.long x0), .second, .val (.long x1), .second, .val (.long x2), .second, .val (.long x3), .second, .val (.long x4), .second, .val (.long x5), .second, .val (.long v3), .second, .val (.ref b1), .val (.ref b18), .unset, .unset] [(.int (4 : Int32)), (.ref b47), (.ref b47)])) (fun tt_ kk_ => XS.iconst X74.here hx rfl (hb hby at_94) kk_) ?_
  refine Gq.go (T74.setTop (mkF m 97 #[.val (.long x0), .second, .val (.long x1), .second, .val (.long x2), .second, .val (.long x3), .second, .val (.long x4), .second, .val (.long x5), .second, .val (.long v3), .second, .val (.ref b1), .val (.ref b18), .unset, .unset] [(.long x5), (.int (4 : Int32)), (.ref b47), (.ref b47)])) (fun tt_ kk_ => XS.lload X74.here hx rfl (hb hby at_95) rfl kk_) ?_
  obtain ⟨T81, h81, X81, eh81, W81, st81⟩ := stoJ X74 hx hZ eh74 V74 (j := (4 : Int32)) (i := 4) (x := x5) (Ls := #[.val (.long x0), .second, .val (.long x1), .second, .val (.long x2), .second, .val (.long x3), .second, .val (.long x4), .second, .val (.long x5), .second, .val (.long v3), .second, .val (.ref b1), .val (.ref b18), .unset, .unset]) (rest := [(.ref b47)]) (by decide) rfl (by decide) (hb hby at_97)
  have fa82 := fa75.other W81 ne_b1_b47
  have fa83 := fa76.other W81 ne_b18_b47
  have ta84 := Nat.lt_of_lt_of_le ta77 (Nat.le_of_eq W81.size.symm)
  have ta85 := Nat.lt_of_lt_of_le ta78 (Nat.le_of_eq W81.size.symm)
  have ta86 := Nat.lt_of_lt_of_le ta79 (Nat.le_of_eq W81.size.symm)
  have za87 : n0 ≤ h81.size := Nat.le_trans za80 (Nat.le_of_eq W81.size.symm)
  have V81 : LA Z h81 b47 .long 5 (gl [(.long x1), (.long x2), (.long x3), (.long x4), (.long x5)] (.long (0 : Int64))) := V74.setL W81 (Nat.le_of_ble_eq_true rfl)
  have N81 := Fr.snoc X81 N74 g_b47
  refine Gq.go (T81.setTop (mkF m 98 #[.val (.long x0), .second, .val (.long x1), .second, .val (.long x2), .second, .val (.long x3), .second, .val (.long x4), .second, .val (.long x5), .second, .val (.long v3), .second, .val (.ref b1), .val (.ref b18), .unset, .unset] [(.ref b47)])) (fun tt_ kk_ => st81 tt_ kk_) ?_
  refine Gq.go (T81.setTop (mkF m 100 #[.val (.long x0), .second, .val (.long x1), .second, .val (.long x2), .second, .val (.long x3), .second, .val (.long x4), .second, .val (.long x5), .second, .val (.long v3), .second, .val (.ref b1), .val (.ref b18), .val (.ref b47), .unset] [])) (fun tt_ kk_ => XS.astore X81.here hx rfl (hb hby at_98) rfl rfl (l' := #[.val (.long x0), .second, .val (.long x1), .second, .val (.long x2), .second, .val (.long x3), .second, .val (.long x4), .second, .val (.long x5), .second, .val (.long v3), .second, .val (.ref b1), .val (.ref b18), .val (.ref b47), .unset]) rfl kk_) ?_
  refine Gq.go (T81.setTop (mkF m 101 #[.val (.long x0), .second, .val (.long x1), .second, .val (.long x2), .second, .val (.long x3), .second, .val (.long x4), .second, .val (.long x5), .second, .val (.long v3), .second, .val (.ref b1), .val (.ref b18), .val (.ref b47), .unset] [(.int (5 : Int32))])) (fun tt_ kk_ => XS.iconst X81.here hx rfl (hb hby at_100) kk_) ?_
  obtain ⟨T88, h88, b88, X88, eh88, E88, aq88, V88, st88⟩ := mkA X81 hx hZ (hw _ (List.mem_of_getElem? (i := 0) rfl)) eh81 (z := (5 : Int32)) (n := 5) (Ls := #[.val (.long x0), .second, .val (.long x1), .second, .val (.long x2), .second, .val (.long x3), .second, .val (.long x4), .second, .val (.long x5), .second, .val (.long v3), .second, .val (.ref b1), .val (.ref b18), .val (.ref b47), .unset]) (rest := []) (by decide) rfl (by decide) (by decide) (by decide) (hb hby at_101)
  have g_b88 : n0 ≤ b88 := Nat.le_trans za87 (Nat.le_of_eq aq88.symm)
  have ne_b1_b88 : b1 ≠ b88 := Nat.ne_of_lt (Nat.lt_of_lt_of_le ta84 (Nat.le_of_eq aq88.symm))
  have ne_b18_b88 : b18 ≠ b88 := Nat.ne_of_lt (Nat.lt_of_lt_of_le ta85 (Nat.le_of_eq aq88.symm))
  have ne_b47_b88 : b47 ≠ b88 := Nat.ne_of_lt (Nat.lt_of_lt_of_le ta86 (Nat.le_of_eq aq88.symm))
  have fa89 := fa82.ext E88
  have fa90 := fa83.ext E88
  have fa91 := V81.ext E88
  have ta92 := Nat.lt_of_lt_of_le ta84 E88.1
  have ta93 := Nat.lt_of_lt_of_le ta85 E88.1
  have ta94 := Nat.lt_of_lt_of_le ta86 E88.1
  have za95 : n0 ≤ h88.size := Nat.le_trans za87 E88.1
  have V88' : LA Z h88 b88 .long 5 (gl [(.long (0 : Int64)), (.long (0 : Int64)), (.long (0 : Int64)), (.long (0 : Int64)), (.long (0 : Int64))] (.long (0 : Int64))) := V88.list
  have ta88' := V88'.lt
  refine Gq.go (T88.setTop (mkF m 103 #[.val (.long x0), .second, .val (.long x1), .second, .val (.long x2), .second, .val (.long x3), .second, .val (.long x4), .second, .val (.long x5), .second, .val (.long v3), .second, .val (.ref b1), .val (.ref b18), .val (.ref b47), .unset] [(.ref b88)])) (fun tt_ kk_ => st88 tt_ kk_) ?_
  refine Gq.go (T88.setTop (mkF m 104 #[.val (.long x0), .second, .val (.long x1), .second, .val (.long x2), .second, .val (.long x3), .second, .val (.long x4), .second, .val (.long x5), .second, .val (.long v3), .second, .val (.ref b1), .val (.ref b18), .val (.ref b47), .unset] [(.ref b88), (.ref b88)])) (fun tt_ kk_ => XS.dup X88.here hx rfl (hb hby at_103) rfl rfl kk_) ?_
  refine Gq.go (T88.setTop (mkF m 105 #[.val (.long x0), .second, .val (.long x1), .second, .val (.long x2), .second, .val (.long x3), .second, .val (.long x4), .second, .val (.long x5), .second, .val (.long v3), .second, .val (.ref b1), .val (.ref b18), .val (.ref b47), .unset] [(.int (0 : Int32)), (.ref b88), (.ref b88)])) (fun tt_ kk_ => XS.iconst X88.here hx rfl (hb hby at_104) kk_) ?_
  refine Gq.go (T88.setTop (mkF m 107 #[.val (.long x0), .second, .val (.long x1), .second, .val (.long x2), .second, .val (.long x3), .second, .val (.long x4), .second, .val (.long x5), .second, .val (.long v3), .second, .val (.ref b1), .val (.ref b18), .val (.ref b47), .unset] [(.long x3), (.int (0 : Int32)), (.ref b88), (.ref b88)])) (fun tt_ kk_ => XS.lload X88.here hx rfl (hb hby at_105) rfl kk_) ?_
  obtain ⟨T96, h96, X96, eh96, W96, st96⟩ := stoJ X88 hx hZ eh88 V88' (j := (0 : Int32)) (i := 0) (x := x3) (Ls := #[.val (.long x0), .second, .val (.long x1), .second, .val (.long x2), .second, .val (.long x3), .second, .val (.long x4), .second, .val (.long x5), .second, .val (.long v3), .second, .val (.ref b1), .val (.ref b18), .val (.ref b47), .unset]) (rest := [(.ref b88)]) (by decide) rfl (by decide) (hb hby at_107)
  have fa97 := fa89.other W96 ne_b1_b88
  have fa98 := fa90.other W96 ne_b18_b88
  have fa99 := fa91.other W96 ne_b47_b88
  have ta100 := Nat.lt_of_lt_of_le ta92 (Nat.le_of_eq W96.size.symm)
  have ta101 := Nat.lt_of_lt_of_le ta93 (Nat.le_of_eq W96.size.symm)
  have ta102 := Nat.lt_of_lt_of_le ta94 (Nat.le_of_eq W96.size.symm)
  have ta103 := Nat.lt_of_lt_of_le ta88' (Nat.le_of_eq W96.size.symm)
  have za104 : n0 ≤ h96.size := Nat.le_trans za95 (Nat.le_of_eq W96.size.symm)
  have V96 : LA Z h96 b88 .long 5 (gl [(.long x3), (.long (0 : Int64)), (.long (0 : Int64)), (.long (0 : Int64)), (.long (0 : Int64))] (.long (0 : Int64))) := V88'.setL W96 (Nat.le_of_ble_eq_true rfl)
  have N96 := Fr.snoc X96 N81 g_b88
  refine Gq.go (T96.setTop (mkF m 108 #[.val (.long x0), .second, .val (.long x1), .second, .val (.long x2), .second, .val (.long x3), .second, .val (.long x4), .second, .val (.long x5), .second, .val (.long v3), .second, .val (.ref b1), .val (.ref b18), .val (.ref b47), .unset] [(.ref b88)])) (fun tt_ kk_ => st96 tt_ kk_) ?_
  refine Gq.go (T96.setTop (mkF m 109 #[.val (.long x0), .second, .val (.long x1), .second, .val (.long x2), .second, .val (.long x3), .second, .val (.long x4), .second, .val (.long x5), .second, .val (.long v3), .second, .val (.ref b1), .val (.ref b18), .val (.ref b47), .unset] [(.ref b88), (.ref b88)])) (fun tt_ kk_ => XS.dup X96.here hx rfl (hb hby at_108) rfl rfl kk_) ?_
  refine Gq.go (T96.setTop (mkF m 110 #[.val (.long x0), .second, .val (.long x1), .second, .val (.long x2), .second, .val (.long x3), .second, .val (.long x4), .second, .val (.long x5), .second, .val (.long v3), .second, .val (.ref b1), .val (.ref b18), .val (.ref b47), .unset] [(.int (1 : Int32)), (.ref b88), (.ref b88)])) (fun tt_ kk_ => XS.iconst X96.here hx rfl (hb hby at_109) kk_) ?_
  refine Gq.go (T96.setTop (mkF m 112 #[.val (.long x0), .second, .val (.long x1), .second, .val (.long x2), .second, .val (.long x3), .second, .val (.long x4), .second, .val (.long x5), .second, .val (.long v3), .second, .val (.ref b1), .val (.ref b18), .val (.ref b47), .unset] [(.long x4), (.int (1 : Int32)), (.ref b88), (.ref b88)])) (fun tt_ kk_ => XS.lload X96.here hx rfl (hb hby at_110) rfl kk_) ?_
  refine Gq.go (T96.setTop (mkF m 113 #[.val (.long x0), .second, .val (.long x1), .second, .val (.long x2), .second, .val (.long x3), .second, .val (.long x4), .second, .val (.long x5), .second, .val (.long v3), .second, .val (.ref b1), .val (.ref b18), .val (.ref b47), .unset] [(.long x1), (.long x4), (.int (1 : Int32)), (.ref b88), (.ref b88)])) (fun tt_ kk_ => XS.lloadN X96.here hx rfl (hb hby at_112) rfl kk_) ?_
  refine Gq.go (T96.setTop (mkF m 114 #[.val (.long x0), .second, .val (.long x1), .second, .val (.long x2), .second, .val (.long x3), .second, .val (.long x4), .second, .val (.long x5), .second, .val (.long v3), .second, .val (.ref b1), .val (.ref b18), .val (.ref b47), .unset] [(.long (x4 ^^^ x1)), (.int (1 : Int32)), (.ref b88), (.ref b88)])) (fun tt_ kk_ => XS.lxor X96.here hx rfl (hb hby at_113) rfl kk_) ?_
  obtain ⟨T105, h105, X105, eh105, W105, st105⟩ := stoJ X96 hx hZ eh96 V96 (j := (1 : Int32)) (i := 1) (x := (x4 ^^^ x1)) (Ls := #[.val (.long x0), .second, .val (.long x1), .second, .val (.long x2), .second, .val (.long x3), .second, .val (.long x4), .second, .val (.long x5), .second, .val (.long v3), .second, .val (.ref b1), .val (.ref b18), .val (.ref b47), .unset]) (rest := [(.ref b88)]) (by decide) rfl (by decide) (hb hby at_114)
  have fa106 := fa97.other W105 ne_b1_b88
  have fa107 := fa98.other W105 ne_b18_b88
  have fa108 := fa99.other W105 ne_b47_b88
  have ta109 := Nat.lt_of_lt_of_le ta100 (Nat.le_of_eq W105.size.symm)
  have ta110 := Nat.lt_of_lt_of_le ta101 (Nat.le_of_eq W105.size.symm)
  have ta111 := Nat.lt_of_lt_of_le ta102 (Nat.le_of_eq W105.size.symm)
  have ta112 := Nat.lt_of_lt_of_le ta103 (Nat.le_of_eq W105.size.symm)
  have za113 : n0 ≤ h105.size := Nat.le_trans za104 (Nat.le_of_eq W105.size.symm)
  have V105 : LA Z h105 b88 .long 5 (gl [(.long x3), (.long (x4 ^^^ x1)), (.long (0 : Int64)), (.long (0 : Int64)), (.long (0 : Int64))] (.long (0 : Int64))) := V96.setL W105 (Nat.le_of_ble_eq_true rfl)
  have N105 := Fr.snoc X105 N96 g_b88
  refine Gq.go (T105.setTop (mkF m 115 #[.val (.long x0), .second, .val (.long x1), .second, .val (.long x2), .second, .val (.long x3), .second, .val (.long x4), .second, .val (.long x5), .second, .val (.long v3), .second, .val (.ref b1), .val (.ref b18), .val (.ref b47), .unset] [(.ref b88)])) (fun tt_ kk_ => st105 tt_ kk_) ?_
  refine Gq.go (T105.setTop (mkF m 116 #[.val (.long x0), .second, .val (.long x1), .second, .val (.long x2), .second, .val (.long x3), .second, .val (.long x4), .second, .val (.long x5), .second, .val (.long v3), .second, .val (.ref b1), .val (.ref b18), .val (.ref b47), .unset] [(.ref b88), (.ref b88)])) (fun tt_ kk_ => XS.dup X105.here hx rfl (hb hby at_115) rfl rfl kk_) ?_
  refine Gq.go (T105.setTop (mkF m 117 #[.val (.long x0), .second, .val (.long x1), .second, .val (.long x2), .second, .val (.long x3), .second, .val (.long x4), .second, .val (.long x5), .second, .val (.long v3), .second, .val (.ref b1), .val (.ref b18), .val (.ref b47), .unset] [(.int (2 : Int32)), (.ref b88), (.ref b88)])) (fun tt_ kk_ => XS.iconst X105.here hx rfl (hb hby at_116) kk_) ?_
  refine Gq.go (T105.setTop (mkF m 119 #[.val (.long x0), .second, .val (.long x1), .second, .val (.long x2), .second, .val (.long x3), .second, .val (.long x4), .second, .val (.long x5), .second, .val (.long v3), .second, .val (.ref b1), .val (.ref b18), .val (.ref b47), .unset] [(.long x5), (.int (2 : Int32)), (.ref b88), (.ref b88)])) (fun tt_ kk_ => XS.lload X105.here hx rfl (hb hby at_117) rfl kk_) ?_
  obtain ⟨T114, h114, X114, eh114, W114, st114⟩ := stoJ X105 hx hZ eh105 V105 (j := (2 : Int32)) (i := 2) (x := x5) (Ls := #[.val (.long x0), .second, .val (.long x1), .second, .val (.long x2), .second, .val (.long x3), .second, .val (.long x4), .second, .val (.long x5), .second, .val (.long v3), .second, .val (.ref b1), .val (.ref b18), .val (.ref b47), .unset]) (rest := [(.ref b88)]) (by decide) rfl (by decide) (hb hby at_119)
  have fa115 := fa106.other W114 ne_b1_b88
  have fa116 := fa107.other W114 ne_b18_b88
  have fa117 := fa108.other W114 ne_b47_b88
  have ta118 := Nat.lt_of_lt_of_le ta109 (Nat.le_of_eq W114.size.symm)
  have ta119 := Nat.lt_of_lt_of_le ta110 (Nat.le_of_eq W114.size.symm)
  have ta120 := Nat.lt_of_lt_of_le ta111 (Nat.le_of_eq W114.size.symm)
  have ta121 := Nat.lt_of_lt_of_le ta112 (Nat.le_of_eq W114.size.symm)
  have za122 : n0 ≤ h114.size := Nat.le_trans za113 (Nat.le_of_eq W114.size.symm)
  have V114 : LA Z h114 b88 .long 5 (gl [(.long x3), (.long (x4 ^^^ x1)), (.long x5), (.long (0 : Int64)), (.long (0 : Int64))] (.long (0 : Int64))) := V105.setL W114 (Nat.le_of_ble_eq_true rfl)
  have N114 := Fr.snoc X114 N105 g_b88
  refine Gq.go (T114.setTop (mkF m 120 #[.val (.long x0), .second, .val (.long x1), .second, .val (.long x2), .second, .val (.long x3), .second, .val (.long x4), .second, .val (.long x5), .second, .val (.long v3), .second, .val (.ref b1), .val (.ref b18), .val (.ref b47), .unset] [(.ref b88)])) (fun tt_ kk_ => st114 tt_ kk_) ?_
  refine Gq.go (T114.setTop (mkF m 121 #[.val (.long x0), .second, .val (.long x1), .second, .val (.long x2), .second, .val (.long x3), .second, .val (.long x4), .second, .val (.long x5), .second, .val (.long v3), .second, .val (.ref b1), .val (.ref b18), .val (.ref b47), .unset] [(.ref b88), (.ref b88)])) (fun tt_ kk_ => XS.dup X114.here hx rfl (hb hby at_120) rfl rfl kk_) ?_
  refine Gq.go (T114.setTop (mkF m 122 #[.val (.long x0), .second, .val (.long x1), .second, .val (.long x2), .second, .val (.long x3), .second, .val (.long x4), .second, .val (.long x5), .second, .val (.long v3), .second, .val (.ref b1), .val (.ref b18), .val (.ref b47), .unset] [(.int (3 : Int32)), (.ref b88), (.ref b88)])) (fun tt_ kk_ => XS.iconst X114.here hx rfl (hb hby at_121) kk_) ?_
  refine Gq.go (T114.setTop (mkF m 123 #[.val (.long x0), .second, .val (.long x1), .second, .val (.long x2), .second, .val (.long x3), .second, .val (.long x4), .second, .val (.long x5), .second, .val (.long v3), .second, .val (.ref b1), .val (.ref b18), .val (.ref b47), .unset] [(.long x1), (.int (3 : Int32)), (.ref b88), (.ref b88)])) (fun tt_ kk_ => XS.lloadN X114.here hx rfl (hb hby at_122) rfl kk_) ?_
  refine Gq.go (T114.setTop (mkF m 125 #[.val (.long x0), .second, .val (.long x1), .second, .val (.long x2), .second, .val (.long x3), .second, .val (.long x4), .second, .val (.long x5), .second, .val (.long v3), .second, .val (.ref b1), .val (.ref b18), .val (.ref b47), .unset] [(.long x2), (.long x1), (.int (3 : Int32)), (.ref b88), (.ref b88)])) (fun tt_ kk_ => XS.lload X114.here hx rfl (hb hby at_123) rfl kk_) ?_
  refine Gq.go (T114.setTop (mkF m 126 #[.val (.long x0), .second, .val (.long x1), .second, .val (.long x2), .second, .val (.long x3), .second, .val (.long x4), .second, .val (.long x5), .second, .val (.long v3), .second, .val (.ref b1), .val (.ref b18), .val (.ref b47), .unset] [(.long (x1 + x2)), (.int (3 : Int32)), (.ref b88), (.ref b88)])) (fun tt_ kk_ => XS.ladd X114.here hx rfl (hb hby at_125) rfl kk_) ?_
  obtain ⟨T123, h123, X123, eh123, W123, st123⟩ := stoJ X114 hx hZ eh114 V114 (j := (3 : Int32)) (i := 3) (x := (x1 + x2)) (Ls := #[.val (.long x0), .second, .val (.long x1), .second, .val (.long x2), .second, .val (.long x3), .second, .val (.long x4), .second, .val (.long x5), .second, .val (.long v3), .second, .val (.ref b1), .val (.ref b18), .val (.ref b47), .unset]) (rest := [(.ref b88)]) (by decide) rfl (by decide) (hb hby at_126)
  have fa124 := fa115.other W123 ne_b1_b88
  have fa125 := fa116.other W123 ne_b18_b88
  have fa126 := fa117.other W123 ne_b47_b88
  have ta127 := Nat.lt_of_lt_of_le ta118 (Nat.le_of_eq W123.size.symm)
  have ta128 := Nat.lt_of_lt_of_le ta119 (Nat.le_of_eq W123.size.symm)
  have ta129 := Nat.lt_of_lt_of_le ta120 (Nat.le_of_eq W123.size.symm)
  have ta130 := Nat.lt_of_lt_of_le ta121 (Nat.le_of_eq W123.size.symm)
  have za131 : n0 ≤ h123.size := Nat.le_trans za122 (Nat.le_of_eq W123.size.symm)
  have V123 : LA Z h123 b88 .long 5 (gl [(.long x3), (.long (x4 ^^^ x1)), (.long x5), (.long (x1 + x2)), (.long (0 : Int64))] (.long (0 : Int64))) := V114.setL W123 (Nat.le_of_ble_eq_true rfl)
  have N123 := Fr.snoc X123 N114 g_b88
  refine Gq.go (T123.setTop (mkF m 127 #[.val (.long x0), .second, .val (.long x1), .second, .val (.long x2), .second, .val (.long x3), .second, .val (.long x4), .second, .val (.long x5), .second, .val (.long v3), .second, .val (.ref b1), .val (.ref b18), .val (.ref b47), .unset] [(.ref b88)])) (fun tt_ kk_ => st123 tt_ kk_) ?_
  refine Gq.go (T123.setTop (mkF m 128 #[.val (.long x0), .second, .val (.long x1), .second, .val (.long x2), .second, .val (.long x3), .second, .val (.long x4), .second, .val (.long x5), .second, .val (.long v3), .second, .val (.ref b1), .val (.ref b18), .val (.ref b47), .unset] [(.ref b88), (.ref b88)])) (fun tt_ kk_ => XS.dup X123.here hx rfl (hb hby at_127) rfl rfl kk_) ?_
  refine Gq.go (T123.setTop (mkF m 129 #[.val (.long x0), .second, .val (.long x1), .second, .val (.long x2), .second, .val (.long x3), .second, .val (.long x4), .second, .val (.long x5), .second, .val (.long v3), .second, .val (.ref b1), .val (.ref b18), .val (.ref b47), .unset] [(.int (4 : Int32)), (.ref b88), (.ref b88)])) (fun tt_ kk_ => XS.iconst X123.here hx rfl (hb hby at_128) kk_) ?_
  refine Gq.go (T123.setTop (mkF m 131 #[.val (.long x0), .second, .val (.long x1), .second, .val (.long x2), .second, .val (.long x3), .second, .val (.long x4), .second, .val (.long x5), .second, .val (.long v3), .second, .val (.ref b1), .val (.ref b18), .val (.ref b47), .unset] [(.long x2), (.int (4 : Int32)), (.ref b88), (.ref b88)])) (fun tt_ kk_ => XS.lload X123.here hx rfl (hb hby at_129) rfl kk_) ?_
  refine Gq.go (T123.setTop (mkF m 133 #[.val (.long x0), .second, .val (.long x1), .second, .val (.long x2), .second, .val (.long x3), .second, .val (.long x4), .second, .val (.long x5), .second, .val (.long v3), .second, .val (.ref b1), .val (.ref b18), .val (.ref b47), .unset] [(.long x5), (.long x2), (.int (4 : Int32)), (.ref b88), (.ref b88)])) (fun tt_ kk_ => XS.lload X123.here hx rfl (hb hby at_131) rfl kk_) ?_
  refine Gq.go (T123.setTop (mkF m 134 #[.val (.long x0), .second, .val (.long x1), .second, .val (.long x2), .second, .val (.long x3), .second, .val (.long x4), .second, .val (.long x5), .second, .val (.long v3), .second, .val (.ref b1), .val (.ref b18), .val (.ref b47), .unset] [(.long (x2 ^^^ x5)), (.int (4 : Int32)), (.ref b88), (.ref b88)])) (fun tt_ kk_ => XS.lxor X123.here hx rfl (hb hby at_133) rfl kk_) ?_
  obtain ⟨T132, h132, X132, eh132, W132, st132⟩ := stoJ X123 hx hZ eh123 V123 (j := (4 : Int32)) (i := 4) (x := (x2 ^^^ x5)) (Ls := #[.val (.long x0), .second, .val (.long x1), .second, .val (.long x2), .second, .val (.long x3), .second, .val (.long x4), .second, .val (.long x5), .second, .val (.long v3), .second, .val (.ref b1), .val (.ref b18), .val (.ref b47), .unset]) (rest := [(.ref b88)]) (by decide) rfl (by decide) (hb hby at_134)
  have fa133 := fa124.other W132 ne_b1_b88
  have fa134 := fa125.other W132 ne_b18_b88
  have fa135 := fa126.other W132 ne_b47_b88
  have ta136 := Nat.lt_of_lt_of_le ta127 (Nat.le_of_eq W132.size.symm)
  have ta137 := Nat.lt_of_lt_of_le ta128 (Nat.le_of_eq W132.size.symm)
  have ta138 := Nat.lt_of_lt_of_le ta129 (Nat.le_of_eq W132.size.symm)
  have ta139 := Nat.lt_of_lt_of_le ta130 (Nat.le_of_eq W132.size.symm)
  have za140 : n0 ≤ h132.size := Nat.le_trans za131 (Nat.le_of_eq W132.size.symm)
  have V132 : LA Z h132 b88 .long 5 (gl [(.long x3), (.long (x4 ^^^ x1)), (.long x5), (.long (x1 + x2)), (.long (x2 ^^^ x5))] (.long (0 : Int64))) := V123.setL W132 (Nat.le_of_ble_eq_true rfl)
  have N132 := Fr.snoc X132 N123 g_b88
  refine Gq.go (T132.setTop (mkF m 135 #[.val (.long x0), .second, .val (.long x1), .second, .val (.long x2), .second, .val (.long x3), .second, .val (.long x4), .second, .val (.long x5), .second, .val (.long v3), .second, .val (.ref b1), .val (.ref b18), .val (.ref b47), .unset] [(.ref b88)])) (fun tt_ kk_ => st132 tt_ kk_) ?_
  refine Gq.go (T132.setTop (mkF m 137 #[.val (.long x0), .second, .val (.long x1), .second, .val (.long x2), .second, .val (.long x3), .second, .val (.long x4), .second, .val (.long x5), .second, .val (.long v3), .second, .val (.ref b1), .val (.ref b18), .val (.ref b47), .val (.ref b88)] [])) (fun tt_ kk_ => XS.astore X132.here hx rfl (hb hby at_135) rfl rfl (l' := #[.val (.long x0), .second, .val (.long x1), .second, .val (.long x2), .second, .val (.long x3), .second, .val (.long x4), .second, .val (.long x5), .second, .val (.long v3), .second, .val (.ref b1), .val (.ref b18), .val (.ref b47), .val (.ref b88)]) rfl kk_) ?_
  refine Gq.go (T132.setTop (mkF m 139 #[.val (.long x0), .second, .val (.long x1), .second, .val (.long x2), .second, .val (.long x3), .second, .val (.long x4), .second, .val (.long x5), .second, .val (.long v3), .second, .val (.ref b1), .val (.ref b18), .val (.ref b47), .val (.ref b88)] [(.long v3)])) (fun tt_ kk_ => XS.lload X132.here hx rfl (hb hby at_137) rfl kk_) ?_
  refine Gq.go (T132.setTop (mkF m 141 #[.val (.long x0), .second, .val (.long x1), .second, .val (.long x2), .second, .val (.long x3), .second, .val (.long x4), .second, .val (.long x5), .second, .val (.long v3), .second, .val (.ref b1), .val (.ref b18), .val (.ref b47), .val (.ref b88)] [(.ref b1), (.long v3)])) (fun tt_ kk_ => XS.aload X132.here hx rfl (hb hby at_139) rfl rfl kk_) ?_
  refine Gq.go (T132.setTop (mkF m 143 #[.val (.long x0), .second, .val (.long x1), .second, .val (.long x2), .second, .val (.long x3), .second, .val (.long x4), .second, .val (.long x5), .second, .val (.long v3), .second, .val (.ref b1), .val (.ref b18), .val (.ref b47), .val (.ref b88)] [(.ref b18), (.ref b1), (.long v3)])) (fun tt_ kk_ => XS.aload X132.here hx rfl (hb hby at_141) rfl rfl kk_) ?_
  obtain ⟨r141, T141, L141, X141, hQ141, st141⟩ := callT (pc := 143) (Ls := #[.val (.long x0), .second, .val (.long x1), .second, .val (.long x2), .second, .val (.long x3), .second, .val (.long x4), .second, .val (.long x5), .second, .val (.long v3), .second, .val (.ref b1), .val (.ref b18), .val (.ref b47), .val (.ref b88)]) X132 hx hZ hown eh132 [(.long v3), (.ref b1), (.ref b18)] [] (hw _ (List.mem_of_getElem? (i := 1) rfl)) (hw _ (List.mem_of_getElem? (i := 2) rfl)) (hw _ (List.mem_of_getElem? (i := 3) rfl)) (hw _ (List.mem_of_getElem? (i := 4) rfl)) (by decide) (rm1 l Z a0 hw [] v3 b1 b18 x1 x2 x3 x4 x5 x3 (x4 ^^^ x1) x5 (x1 + x2) (x2 ^^^ x5) h132 n0 za140 fa133 fa134 ne_b1_b18 g_b1 g_b18) pd_0 rfl (by rw [hml]; rfl) (W := 0) (Nat.le_of_eq rfl) (by decide) (by decide) (by decide) (by decide) (hb hby at_143)
  obtain ⟨rfl, N141q, Kc141, c141_0, c141_1⟩ := hQ141
  have N141 := Fr.app N132 N141q
  have fa144 := fa135.keep Kc141 (ninS (Ne.symm ne_b1_b47) (ninS (Ne.symm ne_b18_b47) nin0))
  have fa145 := V132.keep Kc141 (ninS (Ne.symm ne_b1_b88) (ninS (Ne.symm ne_b18_b88) nin0))
  have ta146 := Nat.lt_of_lt_of_le ta136 Kc141.1
  have ta147 := Nat.lt_of_lt_of_le ta137 Kc141.1
  have ta148 := Nat.lt_of_lt_of_le ta138 Kc141.1
  have ta149 := Nat.lt_of_lt_of_le ta139 Kc141.1
  have za150 : n0 ≤ T141.heap.size := Nat.le_trans za140 Kc141.1
  refine Gq.go (T141.setTop (mkF m 146 #[.val (.long x0), .second, .val (.long x1), .second, .val (.long x2), .second, .val (.long x3), .second, .val (.long x4), .second, .val (.long x5), .second, .val (.long v3), .second, .val (.ref b1), .val (.ref b18), .val (.ref b47), .val (.ref b88)] [])) (fun tt_ kk_ => st141 tt_ kk_) ?_
  refine Gq.go (T141.setTop (mkF m 148 #[.val (.long x0), .second, .val (.long x1), .second, .val (.long x2), .second, .val (.long x3), .second, .val (.long x4), .second, .val (.long x5), .second, .val (.long v3), .second, .val (.ref b1), .val (.ref b18), .val (.ref b47), .val (.ref b88)] [(.long v3)])) (fun tt_ kk_ => XS.lload X141.here hx rfl (hb hby at_146) rfl kk_) ?_
  refine Gq.go (T141.setTop (mkF m 149 #[.val (.long x0), .second, .val (.long x1), .second, .val (.long x2), .second, .val (.long x3), .second, .val (.long x4), .second, .val (.long x5), .second, .val (.long v3), .second, .val (.ref b1), .val (.ref b18), .val (.ref b47), .val (.ref b88)] [(.long (1 : Int64)), (.long v3)])) (fun tt_ kk_ => XS.lconst X141.here hx rfl (hb hby at_148) kk_) ?_
  refine Gq.go (T141.setTop (mkF m 150 #[.val (.long x0), .second, .val (.long x1), .second, .val (.long x2), .second, .val (.long x3), .second, .val (.long x4), .second, .val (.long x5), .second, .val (.long v3), .second, .val (.ref b1), .val (.ref b18), .val (.ref b47), .val (.ref b88)] [(.int (lcmpW v3 (1 : Int64)))])) (fun tt_ kk_ => XS.lcmp X141.here hx rfl (hb hby at_149) rfl kk_) ?_
  by_cases hs : v3 = (1 : Int64)
  · refine Gq.go (T141.setTop (mkF m 153 #[.val (.long x0), .second, .val (.long x1), .second, .val (.long x2), .second, .val (.long x3), .second, .val (.long x4), .second, .val (.long x5), .second, .val (.long v3), .second, .val (.ref b1), .val (.ref b18), .val (.ref b47), .val (.ref b88)] [])) (fun tt_ kk_ => XS.ifNo X141.here hx rfl (hb hby at_150) rfl ((if0 _ _).trans (teq ((lw_eq _ _).mpr hs)).2) kk_) ?_
    refine Gq.go (T141.setTop (mkF m 155 #[.val (.long x0), .second, .val (.long x1), .second, .val (.long x2), .second, .val (.long x3), .second, .val (.long x4), .second, .val (.long x5), .second, .val (.long v3), .second, .val (.ref b1), .val (.ref b18), .val (.ref b47), .val (.ref b88)] [(.ref b1)])) (fun tt_ kk_ => XS.aload X141.here hx rfl (hb hby at_153) rfl rfl kk_) ?_
    refine Gq.go (T141.setTop (mkF m 157 #[.val (.long x0), .second, .val (.long x1), .second, .val (.long x2), .second, .val (.long x3), .second, .val (.long x4), .second, .val (.long x5), .second, .val (.long v3), .second, .val (.ref b1), .val (.ref b18), .val (.ref b47), .val (.ref b88)] [(.ref b88), (.ref b1)])) (fun tt_ kk_ => XS.aload X141.here hx rfl (hb hby at_155) rfl rfl kk_) ?_
    obtain ⟨r151, T151, L151, X151, hQ151, st151⟩ := callT (pc := 157) (Ls := #[.val (.long x0), .second, .val (.long x1), .second, .val (.long x2), .second, .val (.long x3), .second, .val (.long x4), .second, .val (.long x5), .second, .val (.long v3), .second, .val (.ref b1), .val (.ref b18), .val (.ref b47), .val (.ref b88)]) X141 hx hZ hown rfl [(.ref b1), (.ref b88)] [] (hw _ (List.mem_of_getElem? (i := 5) rfl)) (hw _ (List.mem_of_getElem? (i := 6) rfl)) (hw _ (List.mem_of_getElem? (i := 7) rfl)) (hw _ (List.mem_of_getElem? (i := 8) rfl)) (by decide) (rm2 l Z a0 hw [] b1 b88 (x1 ^^^ ((-v3) &&& (x1 ^^^ x3))) (x2 ^^^ ((-v3) &&& (x2 ^^^ (x4 ^^^ x1)))) (x3 ^^^ ((-v3) &&& (x3 ^^^ x5))) (x4 ^^^ ((-v3) &&& (x4 ^^^ (x1 + x2)))) (x5 ^^^ ((-v3) &&& (x5 ^^^ (x2 ^^^ x5)))) x3 (x4 ^^^ x1) x5 (x1 + x2) (x2 ^^^ x5) T141.heap n0 za150 c141_0 fa145 (own_sx1 _ _ _ hs) (own_sx1 _ _ _ hs) (own_sx1 _ _ _ hs) (own_sx1 _ _ _ hs) (own_sx1 _ _ _ hs)) pd_1 rfl (by rw [hml]; rfl) (W := 0) (Nat.le_of_eq rfl) (by decide) (by decide) (by decide) (by decide) (hb hby at_157)
    obtain ⟨rfl, N151q, eh151⟩ := hQ151
    have N151 := Fr.app N141 N151q
    refine Gq.go (T151.setTop (mkF m 160 #[.val (.long x0), .second, .val (.long x1), .second, .val (.long x2), .second, .val (.long x3), .second, .val (.long x4), .second, .val (.long x5), .second, .val (.long v3), .second, .val (.ref b1), .val (.ref b18), .val (.ref b47), .val (.ref b88)] [(.int (1 : Int32))])) (fun tt_ kk_ => st151 tt_ kk_) ?_
    refine Gq.go (T151.setTop (mkF m 163 #[.val (.long x0), .second, .val (.long x1), .second, .val (.long x2), .second, .val (.long x3), .second, .val (.long x4), .second, .val (.long x5), .second, .val (.long v3), .second, .val (.ref b1), .val (.ref b18), .val (.ref b47), .val (.ref b88)] [])) (fun tt_ kk_ => XS.ifNo X151.here hx rfl (hb hby at_160) rfl ((if0 _ _).trans (feq (by decide : ¬ ((1 : Int32) = (0 : Int32)))).1) kk_) ?_
    refine Gq.go (T151.setTop (mkF m 165 #[.val (.long x0), .second, .val (.long x1), .second, .val (.long x2), .second, .val (.long x3), .second, .val (.long x4), .second, .val (.long x5), .second, .val (.long v3), .second, .val (.ref b1), .val (.ref b18), .val (.ref b47), .val (.ref b88)] [(.ref b18)])) (fun tt_ kk_ => XS.aload X151.here hx rfl (hb hby at_163) rfl rfl kk_) ?_
    refine Gq.go (T151.setTop (mkF m 167 #[.val (.long x0), .second, .val (.long x1), .second, .val (.long x2), .second, .val (.long x3), .second, .val (.long x4), .second, .val (.long x5), .second, .val (.long v3), .second, .val (.ref b1), .val (.ref b18), .val (.ref b47), .val (.ref b88)] [(.ref b47), (.ref b18)])) (fun tt_ kk_ => XS.aload X151.here hx rfl (hb hby at_165) rfl rfl kk_) ?_
    obtain ⟨r152, T152, L152, X152, hQ152, st152⟩ := callT (pc := 167) (Ls := #[.val (.long x0), .second, .val (.long x1), .second, .val (.long x2), .second, .val (.long x3), .second, .val (.long x4), .second, .val (.long x5), .second, .val (.long v3), .second, .val (.ref b1), .val (.ref b18), .val (.ref b47), .val (.ref b88)]) X151 hx hZ hown eh151 [(.ref b18), (.ref b47)] [] (hw _ (List.mem_of_getElem? (i := 5) rfl)) (hw _ (List.mem_of_getElem? (i := 6) rfl)) (hw _ (List.mem_of_getElem? (i := 7) rfl)) (hw _ (List.mem_of_getElem? (i := 8) rfl)) (by decide) (rm2 l Z a0 hw [] b18 b47 (x3 ^^^ ((-v3) &&& (x1 ^^^ x3))) ((x4 ^^^ x1) ^^^ ((-v3) &&& (x2 ^^^ (x4 ^^^ x1)))) (x5 ^^^ ((-v3) &&& (x3 ^^^ x5))) ((x1 + x2) ^^^ ((-v3) &&& (x4 ^^^ (x1 + x2)))) ((x2 ^^^ x5) ^^^ ((-v3) &&& (x5 ^^^ (x2 ^^^ x5)))) x1 x2 x3 x4 x5 T141.heap n0 za150 c141_1 fa144 (own_sx2 _ _ _ hs) (own_sx2 _ _ _ hs) (own_sx2 _ _ _ hs) (own_sx2 _ _ _ hs) (own_sx2 _ _ _ hs)) pd_1 rfl (by rw [hml]; rfl) (W := 0) (Nat.le_of_eq rfl) (by decide) (by decide) (by decide) (by decide) (hb hby at_167)
    obtain ⟨rfl, N152q, eh152⟩ := hQ152
    have N152 := Fr.app N151 N152q
    refine Gq.go (T152.setTop (mkF m 170 #[.val (.long x0), .second, .val (.long x1), .second, .val (.long x2), .second, .val (.long x3), .second, .val (.long x4), .second, .val (.long x5), .second, .val (.long v3), .second, .val (.ref b1), .val (.ref b18), .val (.ref b47), .val (.ref b88)] [(.int (1 : Int32))])) (fun tt_ kk_ => st152 tt_ kk_) ?_
    refine Gq.go (T152.setTop (mkF m 173 #[.val (.long x0), .second, .val (.long x1), .second, .val (.long x2), .second, .val (.long x3), .second, .val (.long x4), .second, .val (.long x5), .second, .val (.long v3), .second, .val (.ref b1), .val (.ref b18), .val (.ref b47), .val (.ref b88)] [])) (fun tt_ kk_ => XS.ifNo X152.here hx rfl (hb hby at_170) rfl ((if0 _ _).trans (feq (by decide : ¬ ((1 : Int32) = (0 : Int32)))).1) kk_) ?_
    refine Gq.go (T152.setTop (mkF m 174 #[.val (.long x0), .second, .val (.long x1), .second, .val (.long x2), .second, .val (.long x3), .second, .val (.long x4), .second, .val (.long x5), .second, .val (.long v3), .second, .val (.ref b1), .val (.ref b18), .val (.ref b47), .val (.ref b88)] [(.int (1 : Int32))])) (fun tt_ kk_ => XS.iconst X152.here hx rfl (hb hby at_173) kk_) ?_
    refine Gq.go (T152.setTop (mkF m 178 #[.val (.long x0), .second, .val (.long x1), .second, .val (.long x2), .second, .val (.long x3), .second, .val (.long x4), .second, .val (.long x5), .second, .val (.long v3), .second, .val (.ref b1), .val (.ref b18), .val (.ref b47), .val (.ref b88)] [(.int (1 : Int32))])) (fun tt_ kk_ => XS.goto X152.here hx rfl (pc0 := 174) (pc' := 178) rfl (hb hby at_174) (by decide) (by decide) kk_) ?_
    refine Gq.retI X152 hx Bd.notSynchronized Bd.returns (by simp) (hb hby at_178) rfl (by decide) (by decide) ?_
    show Q0 Z x0 x1 x2 x3 x4 x5 h0 n0 _ T152.heap _
    rw [eh152]
    exact ⟨rfl, N152⟩
  · have hz : v3 = (0 : Int64) := by subst hv3; exact (own_bit x0).resolve_right hs
    refine Gq.go (T141.setTop (mkF m 179 #[.val (.long x0), .second, .val (.long x1), .second, .val (.long x2), .second, .val (.long x3), .second, .val (.long x4), .second, .val (.long x5), .second, .val (.long v3), .second, .val (.ref b1), .val (.ref b18), .val (.ref b47), .val (.ref b88)] [])) (fun tt_ kk_ => XS.ifYes X141.here hx rfl (pc0 := 150) (pc' := 179) rfl (hb hby at_150) rfl ((if0 _ _).trans (feq (fun q => hs ((lw_eq _ _).mp q))).2) (by decide) (by decide) kk_) ?_
    refine Gq.go (T141.setTop (mkF m 181 #[.val (.long x0), .second, .val (.long x1), .second, .val (.long x2), .second, .val (.long x3), .second, .val (.long x4), .second, .val (.long x5), .second, .val (.long v3), .second, .val (.ref b1), .val (.ref b18), .val (.ref b47), .val (.ref b88)] [(.ref b1)])) (fun tt_ kk_ => XS.aload X141.here hx rfl (hb hby at_179) rfl rfl kk_) ?_
    refine Gq.go (T141.setTop (mkF m 183 #[.val (.long x0), .second, .val (.long x1), .second, .val (.long x2), .second, .val (.long x3), .second, .val (.long x4), .second, .val (.long x5), .second, .val (.long v3), .second, .val (.ref b1), .val (.ref b18), .val (.ref b47), .val (.ref b88)] [(.ref b47), (.ref b1)])) (fun tt_ kk_ => XS.aload X141.here hx rfl (hb hby at_181) rfl rfl kk_) ?_
    obtain ⟨r153, T153, L153, X153, hQ153, st153⟩ := callT (pc := 183) (Ls := #[.val (.long x0), .second, .val (.long x1), .second, .val (.long x2), .second, .val (.long x3), .second, .val (.long x4), .second, .val (.long x5), .second, .val (.long v3), .second, .val (.ref b1), .val (.ref b18), .val (.ref b47), .val (.ref b88)]) X141 hx hZ hown rfl [(.ref b1), (.ref b47)] [] (hw _ (List.mem_of_getElem? (i := 5) rfl)) (hw _ (List.mem_of_getElem? (i := 6) rfl)) (hw _ (List.mem_of_getElem? (i := 7) rfl)) (hw _ (List.mem_of_getElem? (i := 8) rfl)) (by decide) (rm2 l Z a0 hw [] b1 b47 (x1 ^^^ ((-v3) &&& (x1 ^^^ x3))) (x2 ^^^ ((-v3) &&& (x2 ^^^ (x4 ^^^ x1)))) (x3 ^^^ ((-v3) &&& (x3 ^^^ x5))) (x4 ^^^ ((-v3) &&& (x4 ^^^ (x1 + x2)))) (x5 ^^^ ((-v3) &&& (x5 ^^^ (x2 ^^^ x5)))) x1 x2 x3 x4 x5 T141.heap n0 za150 c141_0 fa144 (own_sx0 _ _ _ hz) (own_sx0 _ _ _ hz) (own_sx0 _ _ _ hz) (own_sx0 _ _ _ hz) (own_sx0 _ _ _ hz)) pd_1 rfl (by rw [hml]; rfl) (W := 0) (Nat.le_of_eq rfl) (by decide) (by decide) (by decide) (by decide) (hb hby at_183)
    obtain ⟨rfl, N153q, eh153⟩ := hQ153
    have N153 := Fr.app N141 N153q
    refine Gq.go (T153.setTop (mkF m 186 #[.val (.long x0), .second, .val (.long x1), .second, .val (.long x2), .second, .val (.long x3), .second, .val (.long x4), .second, .val (.long x5), .second, .val (.long v3), .second, .val (.ref b1), .val (.ref b18), .val (.ref b47), .val (.ref b88)] [(.int (1 : Int32))])) (fun tt_ kk_ => st153 tt_ kk_) ?_
    refine Gq.go (T153.setTop (mkF m 189 #[.val (.long x0), .second, .val (.long x1), .second, .val (.long x2), .second, .val (.long x3), .second, .val (.long x4), .second, .val (.long x5), .second, .val (.long v3), .second, .val (.ref b1), .val (.ref b18), .val (.ref b47), .val (.ref b88)] [])) (fun tt_ kk_ => XS.ifNo X153.here hx rfl (hb hby at_186) rfl ((if0 _ _).trans (feq (by decide : ¬ ((1 : Int32) = (0 : Int32)))).1) kk_) ?_
    refine Gq.go (T153.setTop (mkF m 191 #[.val (.long x0), .second, .val (.long x1), .second, .val (.long x2), .second, .val (.long x3), .second, .val (.long x4), .second, .val (.long x5), .second, .val (.long v3), .second, .val (.ref b1), .val (.ref b18), .val (.ref b47), .val (.ref b88)] [(.ref b18)])) (fun tt_ kk_ => XS.aload X153.here hx rfl (hb hby at_189) rfl rfl kk_) ?_
    refine Gq.go (T153.setTop (mkF m 193 #[.val (.long x0), .second, .val (.long x1), .second, .val (.long x2), .second, .val (.long x3), .second, .val (.long x4), .second, .val (.long x5), .second, .val (.long v3), .second, .val (.ref b1), .val (.ref b18), .val (.ref b47), .val (.ref b88)] [(.ref b88), (.ref b18)])) (fun tt_ kk_ => XS.aload X153.here hx rfl (hb hby at_191) rfl rfl kk_) ?_
    obtain ⟨r154, T154, L154, X154, hQ154, st154⟩ := callT (pc := 193) (Ls := #[.val (.long x0), .second, .val (.long x1), .second, .val (.long x2), .second, .val (.long x3), .second, .val (.long x4), .second, .val (.long x5), .second, .val (.long v3), .second, .val (.ref b1), .val (.ref b18), .val (.ref b47), .val (.ref b88)]) X153 hx hZ hown eh153 [(.ref b18), (.ref b88)] [] (hw _ (List.mem_of_getElem? (i := 5) rfl)) (hw _ (List.mem_of_getElem? (i := 6) rfl)) (hw _ (List.mem_of_getElem? (i := 7) rfl)) (hw _ (List.mem_of_getElem? (i := 8) rfl)) (by decide) (rm2 l Z a0 hw [] b18 b88 (x3 ^^^ ((-v3) &&& (x1 ^^^ x3))) ((x4 ^^^ x1) ^^^ ((-v3) &&& (x2 ^^^ (x4 ^^^ x1)))) (x5 ^^^ ((-v3) &&& (x3 ^^^ x5))) ((x1 + x2) ^^^ ((-v3) &&& (x4 ^^^ (x1 + x2)))) ((x2 ^^^ x5) ^^^ ((-v3) &&& (x5 ^^^ (x2 ^^^ x5)))) x3 (x4 ^^^ x1) x5 (x1 + x2) (x2 ^^^ x5) T141.heap n0 za150 c141_1 fa145 (own_sx0 _ _ _ hz) (own_sx0 _ _ _ hz) (own_sx0 _ _ _ hz) (own_sx0 _ _ _ hz) (own_sx0 _ _ _ hz)) pd_1 rfl (by rw [hml]; rfl) (W := 0) (Nat.le_of_eq rfl) (by decide) (by decide) (by decide) (by decide) (hb hby at_193)
    obtain ⟨rfl, N154q, eh154⟩ := hQ154
    have N154 := Fr.app N153 N154q
    refine Gq.go (T154.setTop (mkF m 196 #[.val (.long x0), .second, .val (.long x1), .second, .val (.long x2), .second, .val (.long x3), .second, .val (.long x4), .second, .val (.long x5), .second, .val (.long v3), .second, .val (.ref b1), .val (.ref b18), .val (.ref b47), .val (.ref b88)] [(.int (1 : Int32))])) (fun tt_ kk_ => st154 tt_ kk_) ?_
    refine Gq.go (T154.setTop (mkF m 199 #[.val (.long x0), .second, .val (.long x1), .second, .val (.long x2), .second, .val (.long x3), .second, .val (.long x4), .second, .val (.long x5), .second, .val (.long v3), .second, .val (.ref b1), .val (.ref b18), .val (.ref b47), .val (.ref b88)] [])) (fun tt_ kk_ => XS.ifNo X154.here hx rfl (hb hby at_196) rfl ((if0 _ _).trans (feq (by decide : ¬ ((1 : Int32) = (0 : Int32)))).1) kk_) ?_
    refine Gq.go (T154.setTop (mkF m 200 #[.val (.long x0), .second, .val (.long x1), .second, .val (.long x2), .second, .val (.long x3), .second, .val (.long x4), .second, .val (.long x5), .second, .val (.long v3), .second, .val (.ref b1), .val (.ref b18), .val (.ref b47), .val (.ref b88)] [(.int (1 : Int32))])) (fun tt_ kk_ => XS.iconst X154.here hx rfl (hb hby at_199) kk_) ?_
    refine Gq.go (T154.setTop (mkF m 204 #[.val (.long x0), .second, .val (.long x1), .second, .val (.long x2), .second, .val (.long x3), .second, .val (.long x4), .second, .val (.long x5), .second, .val (.long v3), .second, .val (.ref b1), .val (.ref b18), .val (.ref b47), .val (.ref b88)] [(.int (1 : Int32))])) (fun tt_ kk_ => XS.goto X154.here hx rfl (pc0 := 200) (pc' := 204) rfl (hb hby at_200) (by decide) (by decide) kk_) ?_
    refine Gq.retI X154 hx Bd.notSynchronized Bd.returns (by simp) (hb hby at_204) rfl (by decide) (by decide) ?_
    show Q0 Z x0 x1 x2 x3 x4 x5 h0 n0 _ T154.heap _
    rw [eh154]
    exact ⟨rfl, N154⟩
set_option maxRecDepth 65536 in
set_option maxHeartbeats 40000000 in
theorem comes_1 {Post : Tables → Env → Array Value → State → Outcome → State → Prop} (hpost : ∀ tb e args s v u, (limb_1_1.after args s (.returned v) u = true ∧ limb_1_2.after args s (.returned v) u = true ∧ True) → FrameEnd s (.returned v) u (Jvm.fieldLocs frame_1_writes args s ++ Jvm.arrayLocs frame_1_arrays args s ++ Jvm.staticLocs frame_1_statics s) 16 128 → Post tb e args s (.returned v) u) :
    ArmFor flags0 classFile x code maxLocals ret World_1 tables_1 room_1 Calls_1 rest_1 Pre_1 Post := by
  intro l hfl _ _ p e ha hc hk s m args below hf hA hF happ hP
  obtain ⟨hcalls, hrest, hpre⟩ := hP
  obtain ⟨-, -, -, hnamed, -, -, -, hat⟩ := (Spec.applies_iff hf).mp happ
  obtain ⟨hg, hn⟩ := and_e (Cond.before_iff.mp (show (Jvm.Cond.and given_1 narrow_1).before args s = true from hpre))
  obtain ⟨g1, g2⟩ := and_e hg
  obtain ⟨g3, g4⟩ := and_e g2
  obtain ⟨g5, g6⟩ := and_e g4
  obtain ⟨g7, g8⟩ := and_e g6
  obtain ⟨g9, g10⟩ := and_e g8
  obtain ⟨g11, g12⟩ := and_e g10
  obtain ⟨w0, w1, w2, w3, w4, w5, rfl⟩ : ∃ w0 w1 w2 w3 w4 w5 : Value, args = #[w0, w1, w2, w3, w4, w5] := by
    have hs : args.size = 6 := by simpa [Cond.value, given_1] using g1
    obtain ⟨L⟩ := args
    match L, hs with
    | [w0, w1, w2, w3, w4, w5], _ => exact ⟨w0, w1, w2, w3, w4, w5, rfl⟩
  have hw := fun d (hd : d ∈ tables_1) => atoms_spec (ws := Jvm.Cond.code x code maxLocals ret :: tables_1) hat d (List.mem_cons_of_mem _ hd)
  obtain ⟨i0, ei0⟩ := isL_v g3
  obtain rfl : w0 = (.long i0) := Option.some.inj ei0
  obtain ⟨i1, ei1⟩ := isL_v g5
  obtain rfl : w1 = (.long i1) := Option.some.inj ei1
  obtain ⟨i2, ei2⟩ := isL_v g7
  obtain rfl : w2 = (.long i2) := Option.some.inj ei2
  obtain ⟨i3, ei3⟩ := isL_v g9
  obtain rfl : w3 = (.long i3) := Option.some.inj ei3
  obtain ⟨i4, ei4⟩ := isL_v g11
  obtain rfl : w4 = (.long i4) := Option.some.inj ei4
  obtain ⟨i5, ei5⟩ := isL_v g12
  obtain rfl : w5 = (.long i5) := Option.some.inj ei5
  obtain ⟨n, o, h1, h2, h3, _, L, rfl, ⟨rfl, N⟩, hq⟩ := rm0 l s _ hw tables_1 i0 i1 i2 i3 i4 i5 s.heap s.heap.size (Nat.le_refl _)  p e ha hc hk s m _ below hf ((Spec.applies_iff_loose hf).mp happ).1 ⟨rfl, State.Warmed39.refl s, rfl⟩ trivial
  refine ⟨n, _, h1, h2, h3, hpost _ _ _ _ _ _ ⟨Cond.after_iff.mpr rfl, Cond.after_iff.mpr (eq_i res_at (Term.int_eval (1)) rfl), trivial⟩ ⟨hq.1, hq.2.1, (hq.2.2.sift fun y hy => Or.inr (N y hy)).mono (by decide) (by decide)⟩⟩
theorem main_1_1 : Claimed_1_1 := comes_1 fun _ _ _ _ _ _ h hF => ⟨h.1, hF⟩
theorem main_1_2 : Claimed_1_2 := comes_1 fun _ _ _ _ _ _ h hF => ⟨h.2.1, hF⟩
end Jvm.Pilot.@@N@@
namespace Jvm.Pilot.@@N@@
open Jvm Jvm.ClassFile Sem Op Lib Jvm.Free Jvm.Stand Jvm.Pilot.@@N@@.Jvm.D
/-! MADE BY PROGRAM (witnessworld.py) out of the Statement's table words and the real class files: 11 classes; the members and pool entries that the words name. The judged class is class 1, her method 2. -/
namespace start1
open Jvm.ClassFile
def u (s : String) : CpInfo := .utf8 (stringToUtf16 s)
/-- a pool by its gaps: so many unusable entries, then the entry; so many at the end -/
def gap : Nat → List CpInfo → List CpInfo
  | 0, r => r
  | n + 1, r => .unusable :: gap n r
def poolList (es : List (Nat × CpInfo)) (last : Nat) : List CpInfo := es.foldr (fun e r => gap e.1 (e.2 :: r)) (gap last [])
def pool (es : List (Nat × CpInfo)) (last : Nat) : Array CpInfo := ⟨poolList es last⟩
def fileOf (pool : Array CpInfo) (this : Nat) (attrs : Array Attribute := #[]) (ms : Array MethodInfo := #[]) (fl : Nat := 33) (sup : Nat := 0) (ifs : Array Nat := #[]) (fds : Array FieldInfo := #[]) : ClassFile where
  minorVersion := 0
  majorVersion := 65
  constantPool := pool
  accessFlags := fl
  thisClass := this
  superClass := sup
  interfaces := ifs
  fields := fds
  methods := ms
  attributes := attrs
def plain (name : String) (sup : Option ClassId) : Class where
  name := name
  kind := .ordinary
  loader := none
  accessFlags := 33
  super := sup
  interfaces := #[]
  cf := none
  fields := #[]
  methods := #[]
  instanceTypes := #[]
  staticTypes := #[]
  resolved := #[]
  callSites := []
  init := .initialized
  statics := none
  mirror := none

def pool0 : Array CpInfo := pool [(5, u "<init>"), (0, u "()V"), (1, .class_ 10), (1, u "java/lang/Object")] 113

def k0m0 : Method := { name := "<init>", desc := "()V", sig := { parameters := [], returnType := none }, accessFlags := 1, code := none }
/-- java/lang/Object -/
def k0 : Class := { plain "java/lang/Object" none with
  accessFlags := 33
  interfaces := #[]
  cf := some (fileOf pool0 8 #[] #[{ accessFlags := 1, nameIndex := 5, descriptorIndex := 6, attributes := #[] }] 33 0 #[] #[])
  fields := #[]
  methods := #[k0m0]
  instanceTypes := #[]
  staticTypes := #[]
  resolved := Array.replicate 124 none
  statics := none }

def pool1 : Array CpInfo := pool [(2, .class_ 4), (1, u "java/lang/Object"), (0, u "<init>"), (0, u "()V"), (0, .methodref 8 9), (0, .class_ 10), (0, .nameAndType 11 12), (0, u "com/example/rolebridge/rolebridge/Field25519"), (0, u "swap"), (0, u "(J[J[J)V"), (0, .methodref 14 15), (0, .class_ 16), (0, .nameAndType 17 18), (0, u "com/example/rolebridge/rolebridge/Field25519SwapPinLaw"), (0, u "same"), (0, u "([J[J)Z"), (3, u "law"), (0, u "(JJJJJJ)Z")] 4

def k1m0 : Method := { name := "<init>", desc := "()V", sig := { parameters := [], returnType := none }, accessFlags := 2, code := none }
def k1c1 : Code := { maxStack := 4, maxLocals := 2, code := method_2_code, exceptionTable := #[], attributes := #[] }
def k1m1 : Method := { name := "same", desc := "([J[J)Z", sig := { parameters := [(.array .long), (.array .long)], returnType := some .boolean }, accessFlags := 10, code := some k1c1 }
def k1c2 : Code := { maxStack := 7, maxLocals := 18, code := code, exceptionTable := #[], attributes := #[] }
def k1m2 : Method := { name := "law", desc := "(JJJJJJ)Z", sig := { parameters := [.long, .long, .long, .long, .long, .long], returnType := some .boolean }, accessFlags := 9, code := some k1c2 }
/-- com/example/rolebridge/rolebridge/Field25519SwapPinLaw -/
def k1 : Class := { plain "com/example/rolebridge/rolebridge/Field25519SwapPinLaw" (some 0) with
  accessFlags := 49
  interfaces := #[]
  cf := some (fileOf pool1 14 #[] #[{ accessFlags := 2, nameIndex := 5, descriptorIndex := 6, attributes := #[] }, { accessFlags := 10, nameIndex := 17, descriptorIndex := 18, attributes := #[] }, { accessFlags := 9, nameIndex := 22, descriptorIndex := 23, attributes := #[] }] 49 2 #[] #[])
  fields := #[]
  methods := #[k1m0, k1m1, k1m2]
  instanceTypes := #[]
  staticTypes := #[]
  resolved := Array.replicate 28 none
  statics := none }

def pool2 : Array CpInfo := pool [(1, .class_ 2), (0, u "com/example/rolebridge/rolebridge/Field25519"), (1, .class_ 6), (1, u "java/lang/Object"), (0, u "<init>"), (0, u "()V"), (62, u "LENGTH"), (0, u "I"), (2, u "LIMB_BITS"), (1, u "LIMB"), (0, u "J"), (0, u "P_LOW"), (13, u "swap"), (0, u "(J[J[J)V")] 7

def k2m0 : Method := { name := "<init>", desc := "()V", sig := { parameters := [], returnType := none }, accessFlags := 2, code := none }
def k2c1 : Code := { maxStack := 6, maxLocals := 9, code := prog_47_method_7_code, exceptionTable := #[], attributes := #[] }
def k2m1 : Method := { name := "swap", desc := "(J[J[J)V", sig := { parameters := [.long, (.array .long), (.array .long)], returnType := none }, accessFlags := 8, code := some k2c1 }
/-- com/example/rolebridge/rolebridge/Field25519 -/
def k2 : Class := { plain "com/example/rolebridge/rolebridge/Field25519" (some 0) with
  accessFlags := 48
  interfaces := #[]
  cf := some (fileOf pool2 1 #[] #[{ accessFlags := 2, nameIndex := 7, descriptorIndex := 8, attributes := #[] }, { accessFlags := 8, nameIndex := 93, descriptorIndex := 94, attributes := #[] }] 48 4 #[] #[{ accessFlags := 24, nameIndex := 71, descriptorIndex := 72, attributes := #[] }, { accessFlags := 26, nameIndex := 75, descriptorIndex := 72, attributes := #[] }, { accessFlags := 26, nameIndex := 77, descriptorIndex := 78, attributes := #[] }, { accessFlags := 26, nameIndex := 79, descriptorIndex := 78, attributes := #[] }])
  fields := #[{ name := "LENGTH", type := .int, accessFlags := 24, slot := 0, constantValue := 0 }, { name := "LIMB_BITS", type := .int, accessFlags := 26, slot := 1, constantValue := 0 }, { name := "LIMB", type := .long, accessFlags := 26, slot := 2, constantValue := 0 }, { name := "P_LOW", type := .long, accessFlags := 26, slot := 3, constantValue := 0 }]
  methods := #[k2m0, k2m1]
  instanceTypes := #[]
  staticTypes := #[.int, .int, .long, .long]
  resolved := Array.replicate 102 none
  statics := none }

def pool3 : Array CpInfo := pool [(1, u "java/lang/Cloneable"), (0, .class_ 1), (0, u "java/lang/Object"), (0, .class_ 3)] 3

/-- java/lang/Cloneable -/
def k3 : Class := { plain "java/lang/Cloneable" (some 0) with
  accessFlags := 1537
  interfaces := #[]
  cf := some (fileOf pool3 2 #[] #[] 1537 4 #[] #[])
  fields := #[]
  methods := #[]
  instanceTypes := #[]
  staticTypes := #[]
  resolved := Array.replicate 8 none
  statics := none }

def pool4 : Array CpInfo := pool [(1, u "java/io/Serializable"), (0, .class_ 1), (0, u "java/lang/Object"), (0, .class_ 3)] 3

/-- java/io/Serializable -/
def k4 : Class := { plain "java/io/Serializable" (some 0) with
  accessFlags := 1537
  interfaces := #[]
  cf := some (fileOf pool4 2 #[] #[] 1537 4 #[] #[])
  fields := #[]
  methods := #[]
  instanceTypes := #[]
  staticTypes := #[]
  resolved := Array.replicate 8 none
  statics := none }

/-- the primitive byte -/
def k5 : Class := { plain "byte" none with kind := .primitive 'B', accessFlags := 0x411 }
/-- [B -/
def k6 : Class := { plain "[B" (some 0) with kind := .array 5 .byte, interfaces := #[3, 4], accessFlags := 1041 }

/-- the primitive int -/
def k7 : Class := { plain "int" none with kind := .primitive 'I', accessFlags := 0x411 }
/-- [I -/
def k8 : Class := { plain "[I" (some 0) with kind := .array 7 .int, interfaces := #[3, 4], accessFlags := 1041 }

/-- the primitive long -/
def k9 : Class := { plain "long" none with kind := .primitive 'J', accessFlags := 0x411 }
/-- [J -/
def k10 : Class := { plain "[J" (some 0) with kind := .array 9 .long, interfaces := #[3, 4], accessFlags := 1041 }

def heap : Heap := #[]
def classes : Array Class := #[k0, k1, k2, k3, k4, k5, k6, k7, k8, k9, k10]
def interned : List (Array UInt16 × Addr) := []
def slotsUsed : Nat := 0
def theMethod : MethodId := ⟨1, 2⟩
def args0 : Array Value := #[.long 1, .long 2, .long 3, .long 4, .long 5, .long 6]
def aboutOver (below : List Frame) : State where
  vm := { classes := classes, interned := interned.toArray }
  heap := heap
  slotsUsed := slotsUsed
  threads := #[{ frames := .invoking theMethod args0 :: below }]
def below0 : List Frame := [.native { method := ⟨0, 0⟩, args := #[] }]
def about1 : State := aboutOver below0
def p0 : Program := .bare "" "" ""
def e0 : Env := launch0.env 0 0 0
theorem w_frames : about1.frames = Frame.invoking theMethod args0 :: below0 := rfl
set_option maxRecDepth 65536 in
theorem w_args : argsFit about1.vm theMethod args0 = true := by decide +kernel
set_option maxRecDepth 65536 in
theorem w_heap : heapFits about1 = true := by decide +kernel
set_option maxRecDepth 65536 in
theorem w_runnable : about1.curStatus? = some .runnable := by decide +kernel
set_option maxRecDepth 65536 in
theorem w_alone : about1.alone = true := by decide +kernel
set_option maxRecDepth 65536 in
theorem w_named : about1.methodNamed? x = some theMethod := by decide +kernel
set_option maxRecDepth 65536 in
theorem w_hears : about1.hears theMethod below0 = true := by decide +kernel
set_option maxRecDepth 65536 in
theorem w_ripe : about1.ripe theMethod args0 below0 = true := by decide +kernel
theorem w_running : about1.status = .running := rfl
set_option maxRecDepth 65536 in
theorem w_room : about1.hasRoom e0.platform room_1 = true :=
  launch0.hasRoom_least _ room_1 (by decide +kernel) (by decide +kernel) (by decide +kernel) (by decide +kernel) (by decide +kernel) (by decide +kernel)
theorem allAtoms_all (ts : List Jvm.Cond) (a : Array Jvm.Value) (st : Jvm.State) : (allAtoms ts).before a st = ts.all (fun c => c.before a st) := by
  induction ts with
  | nil => rfl
  | cons c t ih =>
    show (Jvm.Cond.and c (allAtoms t)).before a st = _
    rw [Jvm.Cond.before_and, ih, List.all_cons]
def words1 : List Jvm.Cond := Jvm.Cond.code x code maxLocals ret :: tables_1
/-- a 'code' word, met by the world's own term for the bytes: nothing is compared byte by byte -/
theorem code_word {y : MethodName} {bytes : ByteArray} {mx : Nat} {rt : Option FieldType} {a : Array Value} {s : State} {m : MethodId} {meth : Method} {c : Code} (h1 : s.methodNamed? y = some m) (h2 : s.vm.method? m = some meth) (h3 : meth.code = some c) (h4 : c.code = bytes)
    (h5 : (c.maxLocals == mx && c.exceptionTable.isEmpty && decide (c.maxStack ≤ mostOperands) && decide (meth.sig.returnType = rt) && !meth.locks && decide (parseMethodDescriptor y.desc = some meth.sig)) = true) : (Jvm.Cond.code y bytes mx rt).before a s = true := by
  simp only [Bool.and_eq_true, beq_iff_eq, Bool.not_eq_true', decide_eq_true_eq] at h5
  obtain ⟨⟨⟨⟨⟨g1, g2⟩, g3⟩, g4⟩, g5⟩, g6⟩ := h5
  simp [Cond.before, Cond.holds, Cond.value, h1, h2, h3, h4, g1, g2, g3, g4, g5, g6]
def isCode : Jvm.Cond → Bool
  | .code _ _ _ _ => true
  | _ => false
theorem all_split {L : List Jvm.Cond} {P : Jvm.Cond → Bool} (h1 : L.all (fun c => isCode c || P c) = true) (h2 : ∀ c ∈ L.filter isCode, P c = true) : L.all P = true := by
  refine List.all_eq_true.mpr fun c hc => ?_
  have h := List.all_eq_true.mp h1 c hc
  rcases Bool.eq_false_or_eq_true (isCode c) with hi | hi
  · exact h2 c (List.mem_filter.mpr ⟨hc, hi⟩)
  · simpa [hi] using h
set_option maxRecDepth 65536 in
theorem w_c0 : (Jvm.Cond.code x code maxLocals ret).before args0 about1 = true := code_word (m := ⟨1, 2⟩) (meth := k1m2) (c := k1c2) (by decide +kernel) rfl rfl rfl (by decide +kernel)
set_option maxRecDepth 65536 in
theorem w_c1 : (Jvm.Cond.code ({ cls := "com/example/rolebridge/rolebridge/Field25519", name := "swap", desc := "(J[J[J)V" } : Jvm.MethodName) prog_47_method_7_code (9 : Nat) (Option.none : Option Jvm.ClassFile.FieldType)).before args0 about1 = true := code_word (m := ⟨2, 1⟩) (meth := k2m1) (c := k2c1) (by decide +kernel) rfl rfl rfl (by decide +kernel)
set_option maxRecDepth 65536 in
theorem w_c2 : (Jvm.Cond.code ({ cls := "com/example/rolebridge/rolebridge/Field25519SwapPinLaw", name := "same", desc := "([J[J)Z" } : Jvm.MethodName) method_2_code (2 : Nat) (Option.some Jvm.ClassFile.FieldType.boolean)).before args0 about1 = true := code_word (m := ⟨1, 1⟩) (meth := k1m1) (c := k1c1) (by decide +kernel) rfl rfl rfl (by decide +kernel)
def codes1 : List Jvm.Cond := [Jvm.Cond.code x code maxLocals ret, Jvm.Cond.code ({ cls := "com/example/rolebridge/rolebridge/Field25519", name := "swap", desc := "(J[J[J)V" } : Jvm.MethodName) prog_47_method_7_code (9 : Nat) (Option.none : Option Jvm.ClassFile.FieldType), Jvm.Cond.code ({ cls := "com/example/rolebridge/rolebridge/Field25519SwapPinLaw", name := "same", desc := "([J[J)Z" } : Jvm.MethodName) method_2_code (2 : Nat) (Option.some Jvm.ClassFile.FieldType.boolean)]
set_option maxRecDepth 65536 in
theorem codes_eq : words1.filter isCode = codes1 := rfl
theorem w_codes : ∀ c ∈ words1.filter isCode, c.before args0 about1 = true := by
  rw [codes_eq]
  intro c hc
  simp only [codes1, List.mem_cons, List.not_mem_nil, or_false] at hc
  rcases hc with rfl | rfl | rfl
  · exact w_c0
  · exact w_c1
  · exact w_c2
set_option maxRecDepth 65536 in
theorem w_t1 : words1.all (fun c => isCode c || c.before args0 about1) = true := by decide +kernel
theorem w_tables : (allAtoms (Jvm.Cond.code x code maxLocals ret :: tables_1)).before args0 about1 = true := by
  rw [allAtoms_all]
  show words1.all (fun c => c.before args0 about1) = true
  refine all_split ?_ w_codes
  rw [w_t1]
set_option maxRecDepth 65536 in
theorem w_case : (Jvm.Cond.and given_1 narrow_1).before args0 about1 = true := by decide +kernel
theorem w_applies : (headSpec (Jvm.Cond.code x code maxLocals ret :: tables_1) room_1).applies x e0.platform about1 = true :=
  (Spec.applies_iff w_frames).mpr ⟨w_running, w_runnable, w_alone, w_named, w_hears, w_ripe, w_room, w_tables⟩
theorem atStart : AtStart classFile x code maxLocals ret World_1 tables_1 room_1 Calls_1 rest_1 Pre_1 launch0 p0 e0 about1 theMethod args0 below0 :=
  ⟨lists_1, trivial, launch0.admits_env _ _ _, launch0.least_env, fairChoices_fair.cas, fairChoices_fair.clock, w_frames, w_args, w_heap, w_applies, trivial, trivial, w_case⟩
end start1
theorem witness_1 : WitnessClaimed_1 := ⟨start1.p0, start1.e0, start1.about1, start1.theMethod, start1.args0, start1.below0, start1.atStart⟩
end Jvm.Pilot.@@N@@
