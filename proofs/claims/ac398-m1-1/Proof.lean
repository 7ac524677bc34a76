import JvmDerived
import JvmDerived.Pilot.@@N@@Statement
import JvmDerived.Pilot.@@N@@Code
set_option linter.unusedVariables false
set_option linter.unusedSimpArgs false
namespace Jvm.Pilot.@@N@@
open Jvm Jvm.ClassFile Sem Op Lib Jvm.Free Jvm.Stand Jvm.LawKit Jvm.RoadKit Bundle Jvm.Pilot.@@N@@.Jvm.D
-- own kit: the walk's goal, the ends of a walk, arrays as functions of the place, calls by contract
section OwnKit
variable {p : Program} {l : Launch} {e : Env} {R : Room} {s : State} {m : MethodId} {args : Array Value} {below : List Frame} {meth : Method} {c : Code} {T : State} {locs : List Loc} {cells slots : Nat} {Z : State} {a0 : Array Value} {h h' : Heap} {kc ks : Nat} {Q : Option Value → Heap → List Loc → Prop} {tb : Tables} {B : State}
def Gq (tb : Tables) (e : Env) (below : List Frame) (s : State) (Q : Option Value → Heap → List Loc → Prop) (kc ks : Nat) (A : State) : Prop :=
  ∃ t o, Steps tb e below A t ∧ t.status = .running ∧ Ended t below o ∧ ∃ v L, o = .returned v ∧ Q v t.heap L ∧ FrameEnd s o t L kc ks
theorem Gq.go (A : State) (k : ∀ t, Steps tb e below A t → Steps tb e below B t) (g : Gq tb e below s Q kc ks A) : Gq tb e below s Q kc ks B := by
  obtain ⟨t, o, h1, h2⟩ := g
  exact ⟨t, o, k t h1, h2⟩
theorem Gq.start {T : State} {g g' : JFrame} (q : g = g') (k : Gq tb e below s Q kc ks (T.setTop g')) : Gq tb e below s Q kc ks (T.setTop g) := q ▸ k
theorem Gq.fin {A : State} (X : Stand p l e R s m args below meth c T locs cells slots) (hlocks : meth.locks = false) {v : Option Value} (hv : meth.sig.returnType = none → v = none)
    (st : ∀ fs, (∀ (f : JFrame) (acts : List Action), f.method = m → f.locked = none → f.entered = [] → (doReturn e (T.setTop f) acts v).1 = T.setFrames fs) → Steps p.tables e below A (T.setFrames fs))
    (h1 : cells ≤ kc) (h2 : slots ≤ ks) (q : Q v T.heap locs) : Gq p.tables e below s Q kc ks A := by
  obtain ⟨fs, hr, hrun, hended, hW, hsame⟩ := X.leave (v := v) hv hlocks
  exact ⟨_, _, st fs hr, hrun, hended, _, _, rfl, q, ⟨_, rfl⟩, hW, hsame.mono h1 h2⟩
theorem Gq.retI (X : Stand p l e R s m args below meth c T locs cells slots) (hx : p.tables.exec = Jvm.exec) (hlocks : meth.locks = false) {pc : Nat} {Ls : Array Slot} {w : Int32} {rest : List Value} {t : FieldType} (hret : meth.sig.returnType = some t)
    (ht : t = .int ∨ t = .boolean ∨ t = .byte ∨ t = .char ∨ t = .short) (hd : decode c.code pc = .ok (.ireturn, 1)) (hn : narrow t (.int w) = .int w) (h1 : cells ≤ kc) (h2 : slots ≤ ks) (q : Q (some (.int w)) T.heap locs) :
    Gq p.tables e below s Q kc ks (T.setTop (mkF m pc Ls (.int w :: rest))) :=
  Gq.fin X hlocks (fun h => by rw [hret] at h; cases h) (fun fs hr => retOut X hx hret hn (Or.inl ⟨rfl, ht, _, rfl⟩) hd hr) h1 h2 q
theorem Gq.retL (X : Stand p l e R s m args below meth c T locs cells slots) (hx : p.tables.exec = Jvm.exec) (hlocks : meth.locks = false) {pc : Nat} {Ls : Array Slot} {w : Int64} {rest : List Value} (hret : meth.sig.returnType = some .long)
    (hd : decode c.code pc = .ok (.lreturn, 1)) (h1 : cells ≤ kc) (h2 : slots ≤ ks) (q : Q (some (.long w)) T.heap locs) :
    Gq p.tables e below s Q kc ks (T.setTop (mkF m pc Ls (.long w :: rest))) :=
  Gq.fin X hlocks (fun h => by rw [hret] at h; cases h) (fun fs hr => retOut X hx hret rfl (Or.inr (Or.inl ⟨rfl, rfl, _, rfl⟩)) hd hr) h1 h2 q
theorem Gq.retA (X : Stand p l e R s m args below meth c T locs cells slots) (hx : p.tables.exec = Jvm.exec) (hlocks : meth.locks = false) {pc : Nat} {Ls : Array Slot} {w : Value} {rest : List Value} {t : FieldType} (hret : meth.sig.returnType = some t) (hn : narrow t w = w)
    (ht : t.isReference = true) (hw : w.isRef = true) (hd : decode c.code pc = .ok (.areturn, 1)) (h1 : cells ≤ kc) (h2 : slots ≤ ks) (q : Q (some w) T.heap locs) :
    Gq p.tables e below s Q kc ks (T.setTop (mkF m pc Ls (w :: rest))) :=
  Gq.fin X hlocks (fun h => by rw [hret] at h; cases h) (fun fs hr => retOut X hx hret hn (Or.inr (Or.inr (Or.inr (Or.inr ⟨rfl, ht, hw⟩)))) hd hr) h1 h2 q
theorem Gq.retV (X : Stand p l e R s m args below meth c T locs cells slots) (hx : p.tables.exec = Jvm.exec) (hlocks : meth.locks = false) {pc : Nat} {Ls : Array Slot} (hret : meth.sig.returnType = none)
    (hd : decode c.code pc = .ok (.return_, 1)) (h1 : cells ≤ kc) (h2 : slots ≤ ks) (q : Q none T.heap locs) : Gq p.tables e below s Q kc ks (T.setTop (mkF m pc Ls [])) :=
  Gq.fin X hlocks (fun _ => rfl) (fun fs hr => X.returnOut hx hret hd hr) h1 h2 q
/-- an array: n places, place j holds f j -/
def LA (Z : State) (h : Heap) (a : Addr) (ty : FieldType) (n : Nat) (f : Nat → Value) : Prop := ∃ c : Cell, Arr Z h a c ty ∧ c.slots.size = n ∧ n < 2 ^ 31 ∧ ∀ j, j < n → c.slots[j]? = some (f j)
def upd (f : Nat → Value) (j : Nat) (v : Value) : Nat → Value := fun i => if i = j then v else f i
def gl (vs : List Value) (d : Value) : Nat → Value := fun i => vs.getD i d
section Facts
variable {a b : Addr} {ty : FieldType} {n j : Nat} {f g : Nat → Value} {v d : Value} {sl : Nat} {ws : List Addr} {vs : List Value}
theorem LA.lt (F : LA Z h a ty n f) : a < h.size := by obtain ⟨c, A, -⟩ := F; exact A.lt
theorem LA.ext (F : LA Z h a ty n f) (E : Ext h h') : LA Z h' a ty n f := by obtain ⟨c, A, r⟩ := F; exact ⟨c, A.ext E, r⟩
theorem LA.other (F : LA Z h b ty n f) (W : Wr h h' a sl v) (q : b ≠ a) : LA Z h' b ty n f := by obtain ⟨c, A, r⟩ := F; exact ⟨c, A.other W q, r⟩
theorem LA.keep (F : LA Z h a ty n f) (K : Keep h h' ws) (q : a ∉ ws) : LA Z h' a ty n f := by obtain ⟨c, A, r⟩ := F; exact ⟨c, ⟨K.2.1 a c A.1 q, A.2⟩, r⟩
theorem LA.congr (F : LA Z h a ty n f) (q : ∀ j, j < n → f j = g j) : LA Z h a ty n g := by obtain ⟨c, A, r1, r2, r3⟩ := F; exact ⟨c, A, r1, r2, fun j hj => by rw [r3 j hj, q j hj]⟩
theorem LA.new {k : ClassId} {z : Int32} (A : Arr Z h a (newA k ty z) ty) (q : ¬ z < 0) (hn : z.toNatClampNeg = n) : LA Z h a ty n (fun _ => defaultValue ty) := by
  subst hn
  exact ⟨_, A, sz_new _ _ _, (back32 q).2, fun j hj => by simp [newA, hj]⟩
theorem LA.set (F : LA Z h a ty n f) (W : Wr h h' a j v) : LA Z h' a ty n (upd f j v) := by
  obtain ⟨c, A, r1, r2, r3⟩ := F
  refine ⟨_, A.same W, by rw [sz_set]; exact r1, r2, fun i hi => ?_⟩
  have e1 : i < c.slots.size := by omega
  have r := r3 i hi
  simp only [upd, Cell.setSlot]
  by_cases q : i = j
  · subst q; simp [e1]
  · rw [Array.getElem?_setIfInBounds_ne (Ne.symm q), if_neg q]; exact r
theorem LA.setL (F : LA Z h a ty n (gl vs d)) (W : Wr h h' a j v) (hj : j < vs.length) : LA Z h' a ty n (gl (vs.set j v) d) := by
  refine (F.set W).congr fun i hi => ?_
  simp only [upd, gl, List.getD_eq_getElem?_getD, List.getElem?_set]
  by_cases q : i = j
  · subst q; simp [hj]
  · rw [if_neg q, if_neg (Ne.symm q)]
theorem LA.list (F : LA Z h a ty n (fun _ => d)) : LA Z h a ty n (gl (List.replicate n d) d) := F.congr fun j hj => by
  simp [gl, List.getD_eq_getElem?_getD, List.getElem?_replicate, hj]
end Facts
section Steps
variable {a : Addr} {n i : Nat} {f : Nat → Value} {pc : Nat} {Ls : Array Slot} {rest : List Value} {j : Int32}
theorem inb {cl : Cell} (S : cl.slots.size = n) (hi : j.toNatClampNeg = i) (hj : ¬ j < 0) (hn : i < n) : ¬ (j < 0 ∨ cl.slots.size ≤ j.toNatClampNeg) := by
  intro q; rcases q with q | q
  · exact hj q
  · omega
theorem ldJ (X : Stand p l e R s m args below meth c T locs cells slots) (hx : p.tables.exec = Jvm.exec) (hZ : Z.Warmed39 s.vm) (eT : T.heap = h) (V : LA Z h a .long n f) {x : Int64} (hj : ¬ j < 0) (hi : j.toNatClampNeg = i) (hn : i < n) (hv : f i = .long x) (hd : decode c.code pc = .ok (.laload, 1)) :
    ∀ t, Steps p.tables e below (T.setTop (mkF m (pc + 1) Ls (.long x :: rest))) t → Steps p.tables e below (T.setTop (mkF m pc Ls (.int j :: .ref a :: rest))) t := fun t k => by
  obtain ⟨cl, A, S, -, H⟩ := V
  exact X.laload hx (by rw [eT]; exact A.1) (State.isArrayOf_alike hZ.alike A.2.1) A.2.2 (inb S hi hj hn) (by rw [hi, H i hn, hv]) (g := mkF m pc Ls (.int j :: .ref a :: rest)) rfl rfl hd _ k
theorem ldI (X : Stand p l e R s m args below meth c T locs cells slots) (hx : p.tables.exec = Jvm.exec) (hZ : Z.Warmed39 s.vm) (eT : T.heap = h) (V : LA Z h a .int n f) {x : Int32} (hj : ¬ j < 0) (hi : j.toNatClampNeg = i) (hn : i < n) (hv : f i = .int x) (hd : decode c.code pc = .ok (.iaload, 1)) :
    ∀ t, Steps p.tables e below (T.setTop (mkF m (pc + 1) Ls (.int x :: rest))) t → Steps p.tables e below (T.setTop (mkF m pc Ls (.int j :: .ref a :: rest))) t := fun t k => by
  obtain ⟨cl, A, S, -, H⟩ := V
  exact X.iaload hx (by rw [eT]; exact A.1) (State.isArrayOf_alike hZ.alike A.2.1) A.2.2 (inb S hi hj hn) (by rw [hi, H i hn, hv]) (g := mkF m pc Ls (.int j :: .ref a :: rest)) rfl rfl hd _ k
theorem ldB (X : Stand p l e R s m args below meth c T locs cells slots) (hx : p.tables.exec = Jvm.exec) (hZ : Z.Warmed39 s.vm) (eT : T.heap = h) (V : LA Z h a .byte n f) {x : Int32} (hj : ¬ j < 0) (hi : j.toNatClampNeg = i) (hn : i < n) (hv : f i = .int x) (hd : decode c.code pc = .ok (.baload, 1)) :
    ∀ t, Steps p.tables e below (T.setTop (mkF m (pc + 1) Ls (.int x :: rest))) t → Steps p.tables e below (T.setTop (mkF m pc Ls (.int j :: .ref a :: rest))) t := fun t k => by
  obtain ⟨cl, A, S, -, H⟩ := V
  exact X.baloadBytes hx (by rw [eT]; exact A.1) (State.isArrayOf_alike hZ.alike A.2.1) A.2.2 (inb S hi hj hn) (by rw [hi, H i hn, hv]) (g := mkF m pc Ls (.int j :: .ref a :: rest)) rfl rfl hd _ k
theorem lenA (X : Stand p l e R s m args below meth c T locs cells slots) (hx : p.tables.exec = Jvm.exec) (hZ : Z.Warmed39 s.vm) (eT : T.heap = h) {ty : FieldType} (V : LA Z h a ty n f) (hd : decode c.code pc = .ok (.arraylength, 1)) :
    ∀ t, Steps p.tables e below (T.setTop (mkF m (pc + 1) Ls (.int (Int32.ofNat n) :: rest))) t → Steps p.tables e below (T.setTop (mkF m pc Ls (.ref a :: rest))) t := fun t k => by
  obtain ⟨cl, A, S, -, H⟩ := V
  refine X.arraylength hx (by rw [eT]; exact A.1) (State.isArrayOf_alike hZ.alike A.2.1) (g := mkF m pc Ls (.ref a :: rest)) rfl rfl hd _ ?_
  rw [S]; exact k
theorem stoJ (X : Stand p l e R s m args below meth c T locs cells slots) (hx : p.tables.exec = Jvm.exec) (hZ : Z.Warmed39 s.vm) (eT : T.heap = h) (V : LA Z h a .long n f) {x : Int64} (hj : ¬ j < 0) (hi : j.toNatClampNeg = i) (hn : i < n) (hd : decode c.code pc = .ok (.lastore, 1)) :
    ∃ T' h', Stand p l e R s m args below meth c T' (locs ++ [⟨a, i⟩]) cells slots ∧ T'.heap = h' ∧ Wr h h' a i (.long x) ∧ ∀ t, Steps p.tables e below (T'.setTop (mkF m (pc + 1) Ls rest)) t → Steps p.tables e below (T.setTop (mkF m pc Ls (.long x :: .int j :: .ref a :: rest))) t := by
  obtain ⟨cl, A, S, -, H⟩ := V
  obtain ⟨T', h', X', e', W, st⟩ := stJ X hx hZ eT A (j := j) (x := x) (inb S hi hj hn) (g := mkF m pc Ls (.long x :: .int j :: .ref a :: rest)) rfl rfl hd
  subst hi
  exact ⟨T', h', X', e', W, st⟩
theorem stoI (X : Stand p l e R s m args below meth c T locs cells slots) (hx : p.tables.exec = Jvm.exec) (hZ : Z.Warmed39 s.vm) (eT : T.heap = h) (V : LA Z h a .int n f) {x : Int32} (hj : ¬ j < 0) (hi : j.toNatClampNeg = i) (hn : i < n) (hd : decode c.code pc = .ok (.iastore, 1)) :
    ∃ T' h', Stand p l e R s m args below meth c T' (locs ++ [⟨a, i⟩]) cells slots ∧ T'.heap = h' ∧ Wr h h' a i (.int x) ∧ ∀ t, Steps p.tables e below (T'.setTop (mkF m (pc + 1) Ls rest)) t → Steps p.tables e below (T.setTop (mkF m pc Ls (.int x :: .int j :: .ref a :: rest))) t := by
  obtain ⟨cl, A, S, -, H⟩ := V
  obtain ⟨T', h', X', e', W, st⟩ := stI X hx hZ eT A (j := j) (x := x) (inb S hi hj hn) (g := mkF m pc Ls (.int x :: .int j :: .ref a :: rest)) rfl rfl hd
  subst hi
  exact ⟨T', h', X', e', W, st⟩
theorem stoB (X : Stand p l e R s m args below meth c T locs cells slots) (hx : p.tables.exec = Jvm.exec) (hZ : Z.Warmed39 s.vm) (eT : T.heap = h) (V : LA Z h a .byte n f) {x : Int32} (hj : ¬ j < 0) (hi : j.toNatClampNeg = i) (hn : i < n) (hd : decode c.code pc = .ok (.bastore, 1)) :
    ∃ T' h', Stand p l e R s m args below meth c T' (locs ++ [⟨a, i⟩]) cells slots ∧ T'.heap = h' ∧ Wr h h' a i (.int x.toInt8.toInt32) ∧ ∀ t, Steps p.tables e below (T'.setTop (mkF m (pc + 1) Ls rest)) t → Steps p.tables e below (T.setTop (mkF m pc Ls (.int x :: .int j :: .ref a :: rest))) t := by
  obtain ⟨cl, A, S, -, H⟩ := V
  obtain ⟨T', h', X', e', W, st⟩ := stB X hx hZ eT A (j := j) (x := x) (inb S hi hj hn) (g := mkF m pc Ls (.int x :: .int j :: .ref a :: rest)) rfl rfl hd
  subst hi
  exact ⟨T', h', X', e', W, st⟩
theorem mkA (X : Stand p l e R s m args below meth c T locs cells slots) (hx : p.tables.exec = Jvm.exec) (hZ : Z.Warmed39 s.vm) {aty : ArrayType} (w : (Cond.arrayClass (newarray.typeOf aty)).before a0 Z = true) (eT : T.heap = h) {z : Int32} (hz : ¬ z < 0) (hn : z.toNatClampNeg = n)
    (hb : n * 8 ≤ 536870912) (hc : cells + 1 ≤ R.cells) (hl : slots + n ≤ R.slots) (hd : decode c.code pc = .ok (.newarray aty, 2)) :
    ∃ T' h' b, Stand p l e R s m args below meth c T' locs (cells + 1) (slots + n) ∧ T'.heap = h' ∧ Ext h h' ∧ b = h.size ∧ LA Z h' b (newarray.typeOf aty) n (fun _ => defaultValue (newarray.typeOf aty)) ∧
      ∀ t, Steps p.tables e below (T'.setTop (mkF m (pc + 2) Ls (.ref b :: rest))) t → Steps p.tables e below (T.setTop (mkF m pc Ls (.int z :: rest))) t := by
  obtain ⟨T', h', k, X', e', E, A, st⟩ := newP X hx hZ w eT (g := mkF m pc Ls (.int z :: rest)) rfl hd rfl hz (cap := n) (Nat.le_of_eq hn) hb hc hl
  exact ⟨T', h', _, X', e', E, rfl, LA.new A hz hn, st⟩
end Steps
section Calls
variable {own : String} {index : Nat} {y : MethodName} {bytes : ByteArray} {maxL : Nat} {ret : Option FieldType} {rm : Room} {W pc : Nat} {Ls : Array Slot} {Qc : Option Value → Heap → List Loc → Prop} {ps : List FieldType} {r : Option FieldType}
theorem callT (X : Stand p l e R s m args below meth c T locs cells slots) (hx : p.tables.exec = Jvm.exec) (hZ : Z.Warmed39 s.vm) (hown : s.vm.findClass own = some m.cls) (eT : T.heap = h) (argsL rest : List Value)
    (w1 : (Cond.methodLink own index y).before a0 Z = true) (w2 : (Cond.static y).before a0 Z = true) (w3 : (Cond.initialized y.cls).before a0 Z = true) (w4 : (Cond.code y bytes maxL ret).before a0 Z = true)
    (hy : y.cls ≠ "java/lang/invoke/MethodHandle" ∧ y.cls ≠ "java/lang/invoke/VarHandle")
    (hM : MetFree l y (head1 [Cond.code y bytes maxL ret] rm) (fun a U => a = argsL.toArray ∧ Z.Warmed39 U.vm ∧ U.heap = h) (fun _ _ _ _ _ => True) (fun _ U o U' => ∃ v L, o = .returned v ∧ Qc v U'.heap L ∧ FrameEnd U o U' L rm.cells rm.slots))
    (hpd : parseMethodDescriptor y.desc = some ⟨ps, r⟩) (hll : argsL.length = ps.length) (hsize : Ls.size = c.maxLocals) (hW : 2 * 0 + (rest.map fun v => v.category).sum ≤ W)
    (hf : rm.frames + 1 ≤ R.frames) (hl : W + (maxL + 11) + rm.locals ≤ R.locals) (hc : cells + rm.cells ≤ R.cells) (hs : slots + rm.slots ≤ R.slots) (hd : decode c.code pc = .ok (.invokestatic index, 3)) :
    ∃ v T' L, Stand p l e R s m args below meth c T' (locs ++ L) (cells + rm.cells) (slots + rm.slots) ∧ Qc v T'.heap L ∧
      ∀ t, Steps p.tables e below (T'.setTop (mkF m (pc + 3) Ls (v.toList ++ rest))) t → Steps p.tables e below (T.setTop (mkF m pc Ls (argsL.reverse ++ rest))) t := by
  obtain ⟨v, vm1, ⟨T', L', k', n'⟩, -, X', ⟨L, hQ, e1, e2, e3⟩, st⟩ := Jvm.LawKit.callS X hx (y := y) hown (mvT hZ w1) (mvT hZ w2) (mvT hZ w3) (mvT hZ w4) hy (backOf (W := W) hM hZ w4 w3 hf hl) (g := mkF m pc Ls (argsL.reverse ++ rest)) rfl hsize (argsL := argsL) (rest := rest) (lenOf hpd hll) rfl hW hd (fun _ _ => ⟨rfl, eT, hc, hs⟩)
  dsimp only [Pt.U, Pt.locs, Pt.cells, Pt.slots] at X' e1 e2 e3 st hQ
  subst e1 e2 e3
  exact ⟨v, T', L, X', hQ, st⟩
theorem callI (X : Stand p l e R s m args below meth c T locs cells slots) (hx : p.tables.exec = Jvm.exec) (hZ : Z.Warmed39 s.vm) (hown : s.vm.findClass own = some m.cls) (eT : T.heap = h) (a : Addr) (argsL rest : List Value)
    (w1 : (Cond.methodLink own index y).before a0 Z = true) (w2 : (Cond.instanceMethod y).before a0 Z = true) (w3 : (Cond.initialized y.cls).before a0 Z = true) (w4 : (Cond.code y bytes maxL none).before a0 Z = true) (hy1 : y.name = "<init>")
    (hy : y.cls ≠ "java/lang/invoke/MethodHandle" ∧ y.cls ≠ "java/lang/invoke/VarHandle")
    (hM : MetFree l y (head1 [Cond.code y bytes maxL none] rm) (fun a' U => a' = (.ref a :: argsL).toArray ∧ Z.Warmed39 U.vm ∧ U.heap = h) (fun _ _ _ _ _ => True) (fun _ U o U' => ∃ v L, o = .returned v ∧ Qc v U'.heap L ∧ FrameEnd U o U' L rm.cells rm.slots))
    (hpd : parseMethodDescriptor y.desc = some ⟨ps, r⟩) (hll : argsL.length = ps.length) (hsize : Ls.size = c.maxLocals) (hW : 2 * 0 + (rest.map fun v => v.category).sum ≤ W)
    (hf : rm.frames + 1 ≤ R.frames) (hl : W + (maxL + 11) + rm.locals ≤ R.locals) (hc : cells + rm.cells ≤ R.cells) (hs : slots + rm.slots ≤ R.slots) (hd : decode c.code pc = .ok (.invokespecial index, 3)) :
    ∃ v T' L, Stand p l e R s m args below meth c T' (locs ++ L) (cells + rm.cells) (slots + rm.slots) ∧ Qc v T'.heap L ∧
      ∀ t, Steps p.tables e below (T'.setTop (mkF m (pc + 3) Ls (v.toList ++ rest))) t → Steps p.tables e below (T.setTop (mkF m pc Ls (argsL.reverse ++ .ref a :: rest))) t := by
  obtain ⟨v, vm1, ⟨T', L', k', n'⟩, -, X', ⟨L, hQ, e1, e2, e3⟩, st⟩ := X.specialBack hx (y := y) hy1 hown (mvT hZ w1) (mvT hZ w2) (mvT hZ w4) hy (backOf (W := W) hM hZ w4 w3 hf hl) (g := mkF m pc Ls (argsL.reverse ++ .ref a :: rest)) rfl hsize (Steps.refl _) (a := a) (argsL := argsL) (rest := rest) (lenOf hpd hll) rfl hW hd (fun _ _ => ⟨rfl, eT, hc, hs⟩)
  dsimp only [Pt.U, Pt.locs, Pt.cells, Pt.slots] at X' e1 e2 e3 st hQ
  subst e1 e2 e3
  exact ⟨v, T', L, X', hQ, fun t k => st.trans k⟩
theorem callV (X : Stand p l e R s m args below meth c T locs cells slots) (hx : p.tables.exec = Jvm.exec) (hZ : Z.Warmed39 s.vm) (hown : s.vm.findClass own = some m.cls) (eT : T.heap = h) (a : Addr) (argsL rest : List Value) {C : String} (E : Exa Z h a C)
    (w1 : (Cond.methodLink own index y).before a0 Z = true) (w2 : (Cond.declares y).before a0 Z = true) (w5 : (Cond.selects C y y).before a0 Z = true) (w6 : (Cond.instanceMethod y).before a0 Z = true) (w3 : (Cond.initialized y.cls).before a0 Z = true) (w4 : (Cond.code y bytes maxL ret).before a0 Z = true)
    (hy : y.cls ≠ "java/lang/invoke/MethodHandle" ∧ y.cls ≠ "java/lang/invoke/VarHandle")
    (hM : MetFree l y (head1 [Cond.code y bytes maxL ret] rm) (fun a' U => a' = (.ref a :: argsL).toArray ∧ Z.Warmed39 U.vm ∧ U.heap = h) (fun _ _ _ _ _ => True) (fun _ U o U' => ∃ v L, o = .returned v ∧ Qc v U'.heap L ∧ FrameEnd U o U' L rm.cells rm.slots))
    (hpd : parseMethodDescriptor y.desc = some ⟨ps, r⟩) (hll : argsL.length = ps.length) (hsize : Ls.size = c.maxLocals) (hW : 2 * 0 + (rest.map fun v => v.category).sum ≤ W)
    (hf : rm.frames + 1 ≤ R.frames) (hl : W + (maxL + 11) + rm.locals ≤ R.locals) (hc : cells + rm.cells ≤ R.cells) (hs : slots + rm.slots ≤ R.slots) (hd : decode c.code pc = .ok (.invokevirtual index, 3)) :
    ∃ v T' L, Stand p l e R s m args below meth c T' (locs ++ L) (cells + rm.cells) (slots + rm.slots) ∧ Qc v T'.heap L ∧
      ∀ t, Steps p.tables e below (T'.setTop (mkF m (pc + 3) Ls (v.toList ++ rest))) t → Steps p.tables e below (T.setTop (mkF m pc Ls (argsL.reverse ++ .ref a :: rest))) t := by
  obtain ⟨cq, kq, qa, qb, qc⟩ := isOf hZ eT E
  obtain ⟨v, vm1, ⟨T', L', k', n'⟩, -, X', ⟨L, hQ, e1, e2, e3⟩, st⟩ := X.virtualBack hx (y := y) (z := y) hown (mvT hZ w1) (mvT hZ w2) (notFace_of_selects (args := #[]) (mvT hZ w5)) (mvT hZ w5) (mvT hZ w6) hy (backOf (W := W) hM hZ w4 w3 hf hl) qa qc (g := mkF m pc Ls (argsL.reverse ++ .ref a :: rest)) rfl hsize (Steps.refl _) (argsL := argsL) (rest := rest) (lenOf hpd hll) rfl hW hd (fun _ _ => ⟨rfl, eT, hc, hs⟩)
  dsimp only [Pt.U, Pt.locs, Pt.cells, Pt.slots] at X' e1 e2 e3 st hQ
  subst e1 e2 e3
  exact ⟨v, T', L, X', hQ, fun t k => st.trans k⟩
end Calls
end OwnKit
-- own numbers: small naturals as ints
theorem own_ofNat_toInt {i : Nat} (h : i < 2 ^ 31) : (Int32.ofNat i).toInt = i := Int32.toInt_ofNat_of_lt h
theorem own_nc {i : Nat} (h : i < 2 ^ 31) : (Int32.ofNat i).toNatClampNeg = i := by
  show (Int32.ofNat i).toInt.toNat = i
  rw [own_ofNat_toInt h]; rfl
theorem own_nn {i : Nat} (h : i < 2 ^ 31) : ¬ Int32.ofNat i < 0 := by
  rw [Int32.lt_iff_toInt_lt, own_ofNat_toInt h]
  show ¬ (i : Int) < 0
  omega
theorem own_lt {a b : Nat} (ha : a < 2 ^ 31) (hb : b < 2 ^ 31) : Int32.ofNat a < Int32.ofNat b ↔ a < b := by
  rw [Int32.lt_iff_toInt_lt, own_ofNat_toInt ha, own_ofNat_toInt hb]
  omega
theorem own_eqn {a b : Nat} (ha : a < 2 ^ 31) (hb : b < 2 ^ 31) : Int32.ofNat a = Int32.ofNat b ↔ a = b := by
  rw [← Int32.toInt_inj, own_ofNat_toInt ha, own_ofNat_toInt hb]
  omega
theorem own_add (a b : Nat) : Int32.ofNat a + Int32.ofNat b = Int32.ofNat (a + b) := (Int32.ofNat_add a b).symm
theorem own_sub {a b : Nat} (h : b ≤ a) : Int32.ofNat a - Int32.ofNat b = Int32.ofNat (a - b) := by
  have e : Int32.ofNat (a - b) + Int32.ofNat b = Int32.ofNat a := by rw [own_add, Nat.sub_add_cancel h]
  rw [← e, Int32.add_sub_cancel]
theorem own_ofBits (x : Int32) : x = Int32.ofNat x.toBitVec.toNat := by
  apply Int32.toBitVec_inj.mp
  show _ = BitVec.ofNat 32 _
  simp
theorem own_andN (x : Int32) (m : Nat) (hm : m < 2 ^ 32) : ∃ n : Nat, n ≤ m ∧ n = x.toBitVec.toNat &&& m ∧ (x &&& Int32.ofNat m) = Int32.ofNat n := by
  refine ⟨(x &&& Int32.ofNat m).toBitVec.toNat, ?_, ?_, own_ofBits _⟩
  · rw [Int32.toBitVec_and, BitVec.toNat_and]
    refine Nat.le_trans Nat.and_le_right ?_
    show (BitVec.ofNat 32 m).toNat ≤ m
    rw [BitVec.toNat_ofNat]; exact Nat.mod_le _ _
  · rw [Int32.toBitVec_and, BitVec.toNat_and]
    congr 1
    show (BitVec.ofNat 32 m).toNat = m
    rw [BitVec.toNat_ofNat]; exact Nat.mod_eq_of_lt hm
theorem own_and (x : Int32) (m : Nat) (hm : m < 2 ^ 32) : ∃ n : Nat, n ≤ m ∧ (x &&& Int32.ofNat m) = Int32.ofNat n := by
  obtain ⟨n, h1, -, h2⟩ := own_andN x m hm; exact ⟨n, h1, h2⟩
theorem own_rem {n d : Nat} (hn : n < 2 ^ 31) (hd : d < 2 ^ 31) : Int32.ofNat n % Int32.ofNat d = Int32.ofNat (n % d) := by
  apply Int32.toInt_inj.mp
  have h1 : n % d ≤ n := Nat.mod_le _ _
  rw [Int32.toInt_mod, own_ofNat_toInt hn, own_ofNat_toInt hd, own_ofNat_toInt (by omega), Int.ofNat_tmod]
theorem own_div {n d : Nat} (hn : n < 2 ^ 31) (hd : d < 2 ^ 31) : Int32.ofNat n / Int32.ofNat d = Int32.ofNat (n / d) := by
  apply Int32.toInt_inj.mp
  have h1 : n / d ≤ n := Nat.div_le_self _ _
  rw [Int32.toInt_div, own_ofNat_toInt hn, own_ofNat_toInt hd, own_ofNat_toInt (by omega), ← Int.ofNat_tdiv]
  generalize n / d = q at h1
  refine Int.bmod_eq_of_le ?_ ?_ <;> omega
theorem own_maskrem (k : Int32) (d : Nat) (h0 : 0 < d) (hd : d < 2 ^ 31) : ∃ i : Nat, i < d ∧ (k &&& (2147483647 : Int32)) % Int32.ofNat d = Int32.ofNat i := by
  obtain ⟨n, h1, h2⟩ := own_and k 2147483647 (by decide)
  refine ⟨n % d, Nat.mod_lt _ h0, ?_⟩
  rw [show (2147483647 : Int32) = Int32.ofNat 2147483647 from rfl, h2, own_rem (by omega) hd]
theorem own_ints (vs : List Int32) (i : Nat) : ∃ x, gl (vs.map Value.int) (.int (0 : Int32)) i = .int x := by
  simp only [gl, List.getD_eq_getElem?_getD, List.getElem?_map]
  cases vs[i]? with
  | none => exact ⟨_, rfl⟩
  | some y => exact ⟨_, rfl⟩


theorem d1_0 : decode method_3_code 0 = .ok (.iload_n 0, 1) := by decide +kernel
theorem d1_1 : decode method_3_code 1 = .ok (.iload_n 1, 1) := by decide +kernel
theorem d1_2 : decode method_3_code 2 = .ok (.if_icmp .lt 12, 3) := by decide +kernel
theorem d1_5 : decode method_3_code 5 = .ok (.iload_n 0, 1) := by decide +kernel
theorem d1_6 : decode method_3_code 6 = .ok (.iload_n 2, 1) := by decide +kernel
theorem d1_7 : decode method_3_code 7 = .ok (.if_icmp .ge 7, 3) := by decide +kernel
theorem d1_10 : decode method_3_code 10 = .ok (.iconst 1, 1) := by decide +kernel
theorem d1_11 : decode method_3_code 11 = .ok (.goto 4, 3) := by decide +kernel
theorem d1_14 : decode method_3_code 14 = .ok (.iconst 0, 1) := by decide +kernel
theorem d1_15 : decode method_3_code 15 = .ok (.ireturn, 1) := by decide +kernel
def own_inside (p0 : Int32) (p1 : Int32) (p2 : Int32) : Int32 := (if p0 < p1 then (0 : Int32) else (if p0 < p2 then (1 : Int32) else (0 : Int32)))
theorem pn_com_example_clearwright_clearwright_model_TradeIdIsValidPinLaw : plainName "com/example/clearwright/clearwright/model/TradeIdIsValidPinLaw" = true := by first | (simp [plainName, overriddenIn]; done) | decide +kernel
theorem ef_own_inside (m : MethodId) (y0 : Int32) (y1 : Int32) (y2 : Int32) : entryFrame m #[(.int y0), (.int y1), (.int y2)] 3 = mkF m 0 #[.val (.int y0), .val (.int y1), .val (.int y2)] [] := by first | (simp [entryFrame, mkF, argsToLocals, Value.category]; done) | rfl
def Q_own_inside (Z : State) (p0 : Int32) (p1 : Int32) (p2 : Int32) (h0 : Heap) (n0 : Nat) (v : Option Value) (h : Heap) (L : List Loc) : Prop := v = some (.int (own_inside p0 p1 p2)) ∧ Fr n0 L ∧ h = h0
set_option maxRecDepth 65536 in
set_option maxHeartbeats 40000000 in
theorem rm_own_inside (l : Launch) (Z : State) (a0 : Array Value) (hw : ∀ d ∈ tables_1, d.before a0 Z = true) (ws : List Jvm.Cond) (p0 : Int32) (p1 : Int32) (p2 : Int32) (h0 : Heap) (n0 : Nat) (Z0 : n0 ≤ h0.size)  :
    MetFree l (⟨"com/example/clearwright/clearwright/model/TradeIdIsValidPinLaw", "inside", "(III)Z"⟩ : MethodName) (head1 (Jvm.Cond.code (⟨"com/example/clearwright/clearwright/model/TradeIdIsValidPinLaw", "inside", "(III)Z"⟩ : MethodName) method_3_code 3 (some .boolean) :: ws) ({ frames := 0, cells := 0, slots := 0, locals := 0 } : Room)) (fun a U => a = #[(.int p0), (.int p1), (.int p2)] ∧ Z.Warmed39 U.vm ∧ U.heap = h0) (fun _ _ _ _ _ => True) (fun _ U o U' => ∃ v L, o = .returned v ∧ Q_own_inside Z p0 p1 p2 h0 n0 v U'.heap L ∧ FrameEnd U o U' L ({ frames := 0, cells := 0, slots := 0, locals := 0 } : Room).cells ({ frames := 0, cells := 0, slots := 0, locals := 0 } : Room).slots) := by
  refine MetFree.of_bodySF (plainFor_of_name pn_com_example_clearwright_clearwright_model_TradeIdIsValidPinLaw) hisR ?_
  intro p e s m args below meth c s₁ Bd hml0 hP hK
  obtain ⟨rfl, hZ, hh⟩ := hP
  have hx := Bd.exec
  have hby := Bd.bytes
  have hml : c.maxLocals = 3 := hml0
  have hown : s.vm.findClass "com/example/clearwright/clearwright/model/TradeIdIsValidPinLaw" = some m.cls := findClass_of_methodNamed Bd.named
  have hnm := (name_of_methodNamed Bd.named Bd.method).1
  have X0 : Stand p l e ({ frames := 0, cells := 0, slots := 0, locals := 0 } : Room) s m #[(.int p0), (.int p1), (.int p2)] below meth c s₁ [] 0 0 := Stand.of_body Bd
  have eh0 : s₁.heap = h0 := by rw [← hh, Bd.state]; rfl
  have N0 := Fr.nil n0
  refine Gq.start (Q := Q_own_inside Z p0 p1 p2 h0 n0) (kc := ({ frames := 0, cells := 0, slots := 0, locals := 0 } : Room).cells) (ks := ({ frames := 0, cells := 0, slots := 0, locals := 0 } : Room).slots) (ef_own_inside m p0 p1 p2) ?_
  refine Gq.go (s₁.setTop (mkF m 1 #[.val (.int p0), .val (.int p1), .val (.int p2)] [(.int p0)])) (fun tt_ kk_ => XS.iloadN X0.here hx rfl (hb hby d1_0) rfl kk_) ?_
  refine Gq.go (s₁.setTop (mkF m 2 #[.val (.int p0), .val (.int p1), .val (.int p2)] [(.int p1), (.int p0)])) (fun tt_ kk_ => XS.iloadN X0.here hx rfl (hb hby d1_1) rfl kk_) ?_
  by_cases c2_1 : p0 < p1
  · refine Gq.go (s₁.setTop (mkF m 14 #[.val (.int p0), .val (.int p1), .val (.int p2)] [])) (fun tt_ kk_ => XS.icmpYes X0.here hx rfl (pc0 := 2) (pc' := 14) rfl (hb hby d1_2) rfl (tlt c2_1).1 (by decide) (by decide) kk_) ?_
    refine Gq.go (s₁.setTop (mkF m 15 #[.val (.int p0), .val (.int p1), .val (.int p2)] [(.int (0 : Int32))])) (fun tt_ kk_ => XS.iconst X0.here hx rfl (hb hby d1_14) kk_) ?_
    refine Gq.retI X0 hx Bd.notSynchronized Bd.returns (by simp) (hb hby d1_15) rfl (by decide) (by decide) ?_
    show Q_own_inside Z p0 p1 p2 h0 n0 _ s₁.heap _
    rw [eh0]
    exact ⟨by unfold own_inside; rw [if_pos c2_1], N0, rfl⟩
  · refine Gq.go (s₁.setTop (mkF m 5 #[.val (.int p0), .val (.int p1), .val (.int p2)] [])) (fun tt_ kk_ => XS.icmpNo X0.here hx rfl (hb hby d1_2) rfl (flt c2_1).1 kk_) ?_
    refine Gq.go (s₁.setTop (mkF m 6 #[.val (.int p0), .val (.int p1), .val (.int p2)] [(.int p0)])) (fun tt_ kk_ => XS.iloadN X0.here hx rfl (hb hby d1_5) rfl kk_) ?_
    refine Gq.go (s₁.setTop (mkF m 7 #[.val (.int p0), .val (.int p1), .val (.int p2)] [(.int p2), (.int p0)])) (fun tt_ kk_ => XS.iloadN X0.here hx rfl (hb hby d1_6) rfl kk_) ?_
    by_cases c7_2 : p0 < p2
    · refine Gq.go (s₁.setTop (mkF m 10 #[.val (.int p0), .val (.int p1), .val (.int p2)] [])) (fun tt_ kk_ => XS.icmpNo X0.here hx rfl (hb hby d1_7) rfl (tlt c7_2).2.1 kk_) ?_
      refine Gq.go (s₁.setTop (mkF m 11 #[.val (.int p0), .val (.int p1), .val (.int p2)] [(.int (1 : Int32))])) (fun tt_ kk_ => XS.iconst X0.here hx rfl (hb hby d1_10) kk_) ?_
      refine Gq.go (s₁.setTop (mkF m 15 #[.val (.int p0), .val (.int p1), .val (.int p2)] [(.int (1 : Int32))])) (fun tt_ kk_ => XS.goto X0.here hx rfl (pc0 := 11) (pc' := 15) rfl (hb hby d1_11) (by decide) (by decide) kk_) ?_
      refine Gq.retI X0 hx Bd.notSynchronized Bd.returns (by simp) (hb hby d1_15) rfl (by decide) (by decide) ?_
      show Q_own_inside Z p0 p1 p2 h0 n0 _ s₁.heap _
      rw [eh0]
      exact ⟨by unfold own_inside; rw [if_neg c2_1, if_pos c7_2], N0, rfl⟩
    · refine Gq.go (s₁.setTop (mkF m 14 #[.val (.int p0), .val (.int p1), .val (.int p2)] [])) (fun tt_ kk_ => XS.icmpYes X0.here hx rfl (pc0 := 7) (pc' := 14) rfl (hb hby d1_7) rfl (flt c7_2).2.1 (by decide) (by decide) kk_) ?_
      refine Gq.go (s₁.setTop (mkF m 15 #[.val (.int p0), .val (.int p1), .val (.int p2)] [(.int (0 : Int32))])) (fun tt_ kk_ => XS.iconst X0.here hx rfl (hb hby d1_14) kk_) ?_
      refine Gq.retI X0 hx Bd.notSynchronized Bd.returns (by simp) (hb hby d1_15) rfl (by decide) (by decide) ?_
      show Q_own_inside Z p0 p1 p2 h0 n0 _ s₁.heap _
      rw [eh0]
      exact ⟨by unfold own_inside; rw [if_neg c2_1, if_neg c7_2], N0, rfl⟩
theorem d2_0 : decode method_2_code 0 = .ok (.iload_n 0, 1) := by decide +kernel
theorem d2_1 : decode method_2_code 1 = .ok (.sipush 255, 3) := by decide +kernel
theorem d2_4 : decode method_2_code 4 = .ok (.iand, 1) := by decide +kernel
theorem d2_5 : decode method_2_code 5 = .ok (.istore_n 1, 1) := by decide +kernel
theorem d2_6 : decode method_2_code 6 = .ok (.iload_n 1, 1) := by decide +kernel
theorem d2_7 : decode method_2_code 7 = .ok (.bipush 65, 2) := by decide +kernel
theorem d2_9 : decode method_2_code 9 = .ok (.if_icmp .lt 11, 3) := by decide +kernel
theorem d2_12 : decode method_2_code 12 = .ok (.iload_n 1, 1) := by decide +kernel
theorem d2_13 : decode method_2_code 13 = .ok (.bipush 90, 2) := by decide +kernel
theorem d2_15 : decode method_2_code 15 = .ok (.if_icmp .gt 5, 3) := by decide +kernel
theorem d2_18 : decode method_2_code 18 = .ok (.iconst 1, 1) := by decide +kernel
theorem d2_19 : decode method_2_code 19 = .ok (.ireturn, 1) := by decide +kernel
theorem d2_20 : decode method_2_code 20 = .ok (.iload_n 1, 1) := by decide +kernel
theorem d2_21 : decode method_2_code 21 = .ok (.bipush 97, 2) := by decide +kernel
theorem d2_23 : decode method_2_code 23 = .ok (.if_icmp .lt 11, 3) := by decide +kernel
theorem d2_26 : decode method_2_code 26 = .ok (.iload_n 1, 1) := by decide +kernel
theorem d2_27 : decode method_2_code 27 = .ok (.bipush 122, 2) := by decide +kernel
theorem d2_29 : decode method_2_code 29 = .ok (.if_icmp .gt 5, 3) := by decide +kernel
theorem d2_32 : decode method_2_code 32 = .ok (.iconst 1, 1) := by decide +kernel
theorem d2_33 : decode method_2_code 33 = .ok (.ireturn, 1) := by decide +kernel
theorem d2_34 : decode method_2_code 34 = .ok (.iload_n 1, 1) := by decide +kernel
theorem d2_35 : decode method_2_code 35 = .ok (.bipush 48, 2) := by decide +kernel
theorem d2_37 : decode method_2_code 37 = .ok (.if_icmp .lt 11, 3) := by decide +kernel
theorem d2_40 : decode method_2_code 40 = .ok (.iload_n 1, 1) := by decide +kernel
theorem d2_41 : decode method_2_code 41 = .ok (.bipush 57, 2) := by decide +kernel
theorem d2_43 : decode method_2_code 43 = .ok (.if_icmp .gt 5, 3) := by decide +kernel
theorem d2_46 : decode method_2_code 46 = .ok (.iconst 1, 1) := by decide +kernel
theorem d2_47 : decode method_2_code 47 = .ok (.ireturn, 1) := by decide +kernel
theorem d2_48 : decode method_2_code 48 = .ok (.iload_n 1, 1) := by decide +kernel
theorem d2_49 : decode method_2_code 49 = .ok (.bipush 45, 2) := by decide +kernel
theorem d2_51 : decode method_2_code 51 = .ok (.if_icmp .ne 7, 3) := by decide +kernel
theorem d2_54 : decode method_2_code 54 = .ok (.iconst 1, 1) := by decide +kernel
theorem d2_55 : decode method_2_code 55 = .ok (.goto 4, 3) := by decide +kernel
theorem d2_58 : decode method_2_code 58 = .ok (.iconst 0, 1) := by decide +kernel
theorem d2_59 : decode method_2_code 59 = .ok (.ireturn, 1) := by decide +kernel
def own_ok (p0 : Int32) : Int32 := (if (p0 &&& (255 : Int32)) < (65 : Int32) then (if (p0 &&& (255 : Int32)) < (97 : Int32) then (if (p0 &&& (255 : Int32)) < (48 : Int32) then (if (p0 &&& (255 : Int32)) = (45 : Int32) then (1 : Int32) else (0 : Int32)) else (if (57 : Int32) < (p0 &&& (255 : Int32)) then (if (p0 &&& (255 : Int32)) = (45 : Int32) then (1 : Int32) else (0 : Int32)) else (1 : Int32))) else (if (122 : Int32) < (p0 &&& (255 : Int32)) then (if (p0 &&& (255 : Int32)) < (48 : Int32) then (if (p0 &&& (255 : Int32)) = (45 : Int32) then (1 : Int32) else (0 : Int32)) else (if (57 : Int32) < (p0 &&& (255 : Int32)) then (if (p0 &&& (255 : Int32)) = (45 : Int32) then (1 : Int32) else (0 : Int32)) else (1 : Int32))) else (1 : Int32))) else (if (90 : Int32) < (p0 &&& (255 : Int32)) then (if (p0 &&& (255 : Int32)) < (97 : Int32) then (if (p0 &&& (255 : Int32)) < (48 : Int32) then (if (p0 &&& (255 : Int32)) = (45 : Int32) then (1 : Int32) else (0 : Int32)) else (if (57 : Int32) < (p0 &&& (255 : Int32)) then (if (p0 &&& (255 : Int32)) = (45 : Int32) then (1 : Int32) else (0 : Int32)) else (1 : Int32))) else (if (122 : Int32) < (p0 &&& (255 : Int32)) then (if (p0 &&& (255 : Int32)) < (48 : Int32) then (if (p0 &&& (255 : Int32)) = (45 : Int32) then (1 : Int32) else (0 : Int32)) else (if (57 : Int32) < (p0 &&& (255 : Int32)) then (if (p0 &&& (255 : Int32)) = (45 : Int32) then (1 : Int32) else (0 : Int32)) else (1 : Int32))) else (1 : Int32))) else (1 : Int32)))
theorem ef_own_ok (m : MethodId) (y0 : Int32) : entryFrame m #[(.int y0)] 2 = mkF m 0 #[.val (.int y0), .unset] [] := by first | (simp [entryFrame, mkF, argsToLocals, Value.category]; done) | rfl
def Q_own_ok (Z : State) (p0 : Int32) (h0 : Heap) (n0 : Nat) (v : Option Value) (h : Heap) (L : List Loc) : Prop := v = some (.int (own_ok p0)) ∧ Fr n0 L ∧ h = h0
set_option maxRecDepth 65536 in
set_option maxHeartbeats 40000000 in
theorem rm_own_ok (l : Launch) (Z : State) (a0 : Array Value) (hw : ∀ d ∈ tables_1, d.before a0 Z = true) (ws : List Jvm.Cond) (p0 : Int32) (h0 : Heap) (n0 : Nat) (Z0 : n0 ≤ h0.size)  :
    MetFree l (⟨"com/example/clearwright/clearwright/model/TradeIdIsValidPinLaw", "ok", "(B)Z"⟩ : MethodName) (head1 (Jvm.Cond.code (⟨"com/example/clearwright/clearwright/model/TradeIdIsValidPinLaw", "ok", "(B)Z"⟩ : MethodName) method_2_code 2 (some .boolean) :: ws) ({ frames := 0, cells := 0, slots := 0, locals := 0 } : Room)) (fun a U => a = #[(.int p0)] ∧ Z.Warmed39 U.vm ∧ U.heap = h0) (fun _ _ _ _ _ => True) (fun _ U o U' => ∃ v L, o = .returned v ∧ Q_own_ok Z p0 h0 n0 v U'.heap L ∧ FrameEnd U o U' L ({ frames := 0, cells := 0, slots := 0, locals := 0 } : Room).cells ({ frames := 0, cells := 0, slots := 0, locals := 0 } : Room).slots) := by
  refine MetFree.of_bodySF (plainFor_of_name pn_com_example_clearwright_clearwright_model_TradeIdIsValidPinLaw) hisR ?_
  intro p e s m args below meth c s₁ Bd hml0 hP hK
  obtain ⟨rfl, hZ, hh⟩ := hP
  have hx := Bd.exec
  have hby := Bd.bytes
  have hml : c.maxLocals = 2 := hml0
  have hown : s.vm.findClass "com/example/clearwright/clearwright/model/TradeIdIsValidPinLaw" = some m.cls := findClass_of_methodNamed Bd.named
  have hnm := (name_of_methodNamed Bd.named Bd.method).1
  have X0 : Stand p l e ({ frames := 0, cells := 0, slots := 0, locals := 0 } : Room) s m #[(.int p0)] below meth c s₁ [] 0 0 := Stand.of_body Bd
  have eh0 : s₁.heap = h0 := by rw [← hh, Bd.state]; rfl
  have N0 := Fr.nil n0
  refine Gq.start (Q := Q_own_ok Z p0 h0 n0) (kc := ({ frames := 0, cells := 0, slots := 0, locals := 0 } : Room).cells) (ks := ({ frames := 0, cells := 0, slots := 0, locals := 0 } : Room).slots) (ef_own_ok m p0) ?_
  refine Gq.go (s₁.setTop (mkF m 1 #[.val (.int p0), .unset] [(.int p0)])) (fun tt_ kk_ => XS.iloadN X0.here hx rfl (hb hby d2_0) rfl kk_) ?_
  refine Gq.go (s₁.setTop (mkF m 4 #[.val (.int p0), .unset] [(.int (255 : Int32)), (.int p0)])) (fun tt_ kk_ => XS.sipush X0.here hx rfl (hb hby d2_1) kk_) ?_
  refine Gq.go (s₁.setTop (mkF m 5 #[.val (.int p0), .unset] [(.int (p0 &&& (255 : Int32)))])) (fun tt_ kk_ => XS.iand X0.here hx rfl (hb hby d2_4) rfl kk_) ?_
  refine Gq.go (s₁.setTop (mkF m 6 #[.val (.int p0), .val (.int (p0 &&& (255 : Int32)))] [])) (fun tt_ kk_ => XS.istoreN X0.here hx rfl (hb hby d2_5) rfl (l' := #[.val (.int p0), .val (.int (p0 &&& (255 : Int32)))]) rfl kk_) ?_
  refine Gq.go (s₁.setTop (mkF m 7 #[.val (.int p0), .val (.int (p0 &&& (255 : Int32)))] [(.int (p0 &&& (255 : Int32)))])) (fun tt_ kk_ => XS.iloadN X0.here hx rfl (hb hby d2_6) rfl kk_) ?_
  refine Gq.go (s₁.setTop (mkF m 9 #[.val (.int p0), .val (.int (p0 &&& (255 : Int32)))] [(.int (65 : Int32)), (.int (p0 &&& (255 : Int32)))])) (fun tt_ kk_ => XS.bipush X0.here hx rfl (hb hby d2_7) kk_) ?_
  by_cases c9_1 : (p0 &&& (255 : Int32)) < (65 : Int32)
  · refine Gq.go (s₁.setTop (mkF m 20 #[.val (.int p0), .val (.int (p0 &&& (255 : Int32)))] [])) (fun tt_ kk_ => XS.icmpYes X0.here hx rfl (pc0 := 9) (pc' := 20) rfl (hb hby d2_9) rfl (tlt c9_1).1 (by decide) (by decide) kk_) ?_
    refine Gq.go (s₁.setTop (mkF m 21 #[.val (.int p0), .val (.int (p0 &&& (255 : Int32)))] [(.int (p0 &&& (255 : Int32)))])) (fun tt_ kk_ => XS.iloadN X0.here hx rfl (hb hby d2_20) rfl kk_) ?_
    refine Gq.go (s₁.setTop (mkF m 23 #[.val (.int p0), .val (.int (p0 &&& (255 : Int32)))] [(.int (97 : Int32)), (.int (p0 &&& (255 : Int32)))])) (fun tt_ kk_ => XS.bipush X0.here hx rfl (hb hby d2_21) kk_) ?_
    by_cases c23_2 : (p0 &&& (255 : Int32)) < (97 : Int32)
    · refine Gq.go (s₁.setTop (mkF m 34 #[.val (.int p0), .val (.int (p0 &&& (255 : Int32)))] [])) (fun tt_ kk_ => XS.icmpYes X0.here hx rfl (pc0 := 23) (pc' := 34) rfl (hb hby d2_23) rfl (tlt c23_2).1 (by decide) (by decide) kk_) ?_
      refine Gq.go (s₁.setTop (mkF m 35 #[.val (.int p0), .val (.int (p0 &&& (255 : Int32)))] [(.int (p0 &&& (255 : Int32)))])) (fun tt_ kk_ => XS.iloadN X0.here hx rfl (hb hby d2_34) rfl kk_) ?_
      refine Gq.go (s₁.setTop (mkF m 37 #[.val (.int p0), .val (.int (p0 &&& (255 : Int32)))] [(.int (48 : Int32)), (.int (p0 &&& (255 : Int32)))])) (fun tt_ kk_ => XS.bipush X0.here hx rfl (hb hby d2_35) kk_) ?_
      by_cases c37_3 : (p0 &&& (255 : Int32)) < (48 : Int32)
      · refine Gq.go (s₁.setTop (mkF m 48 #[.val (.int p0), .val (.int (p0 &&& (255 : Int32)))] [])) (fun tt_ kk_ => XS.icmpYes X0.here hx rfl (pc0 := 37) (pc' := 48) rfl (hb hby d2_37) rfl (tlt c37_3).1 (by decide) (by decide) kk_) ?_
        refine Gq.go (s₁.setTop (mkF m 49 #[.val (.int p0), .val (.int (p0 &&& (255 : Int32)))] [(.int (p0 &&& (255 : Int32)))])) (fun tt_ kk_ => XS.iloadN X0.here hx rfl (hb hby d2_48) rfl kk_) ?_
        refine Gq.go (s₁.setTop (mkF m 51 #[.val (.int p0), .val (.int (p0 &&& (255 : Int32)))] [(.int (45 : Int32)), (.int (p0 &&& (255 : Int32)))])) (fun tt_ kk_ => XS.bipush X0.here hx rfl (hb hby d2_49) kk_) ?_
        by_cases c51_4 : (p0 &&& (255 : Int32)) = (45 : Int32)
        · refine Gq.go (s₁.setTop (mkF m 54 #[.val (.int p0), .val (.int (p0 &&& (255 : Int32)))] [])) (fun tt_ kk_ => XS.icmpNo X0.here hx rfl (hb hby d2_51) rfl (teq c51_4).2 kk_) ?_
          refine Gq.go (s₁.setTop (mkF m 55 #[.val (.int p0), .val (.int (p0 &&& (255 : Int32)))] [(.int (1 : Int32))])) (fun tt_ kk_ => XS.iconst X0.here hx rfl (hb hby d2_54) kk_) ?_
          refine Gq.go (s₁.setTop (mkF m 59 #[.val (.int p0), .val (.int (p0 &&& (255 : Int32)))] [(.int (1 : Int32))])) (fun tt_ kk_ => XS.goto X0.here hx rfl (pc0 := 55) (pc' := 59) rfl (hb hby d2_55) (by decide) (by decide) kk_) ?_
          refine Gq.retI X0 hx Bd.notSynchronized Bd.returns (by simp) (hb hby d2_59) rfl (by decide) (by decide) ?_
          show Q_own_ok Z p0 h0 n0 _ s₁.heap _
          rw [eh0]
          exact ⟨by unfold own_ok; rw [if_pos c9_1, if_pos c23_2, if_pos c37_3, if_pos c51_4], N0, rfl⟩
        · refine Gq.go (s₁.setTop (mkF m 58 #[.val (.int p0), .val (.int (p0 &&& (255 : Int32)))] [])) (fun tt_ kk_ => XS.icmpYes X0.here hx rfl (pc0 := 51) (pc' := 58) rfl (hb hby d2_51) rfl (feq c51_4).2 (by decide) (by decide) kk_) ?_
          refine Gq.go (s₁.setTop (mkF m 59 #[.val (.int p0), .val (.int (p0 &&& (255 : Int32)))] [(.int (0 : Int32))])) (fun tt_ kk_ => XS.iconst X0.here hx rfl (hb hby d2_58) kk_) ?_
          refine Gq.retI X0 hx Bd.notSynchronized Bd.returns (by simp) (hb hby d2_59) rfl (by decide) (by decide) ?_
          show Q_own_ok Z p0 h0 n0 _ s₁.heap _
          rw [eh0]
          exact ⟨by unfold own_ok; rw [if_pos c9_1, if_pos c23_2, if_pos c37_3, if_neg c51_4], N0, rfl⟩
      · refine Gq.go (s₁.setTop (mkF m 40 #[.val (.int p0), .val (.int (p0 &&& (255 : Int32)))] [])) (fun tt_ kk_ => XS.icmpNo X0.here hx rfl (hb hby d2_37) rfl (flt c37_3).1 kk_) ?_
        refine Gq.go (s₁.setTop (mkF m 41 #[.val (.int p0), .val (.int (p0 &&& (255 : Int32)))] [(.int (p0 &&& (255 : Int32)))])) (fun tt_ kk_ => XS.iloadN X0.here hx rfl (hb hby d2_40) rfl kk_) ?_
        refine Gq.go (s₁.setTop (mkF m 43 #[.val (.int p0), .val (.int (p0 &&& (255 : Int32)))] [(.int (57 : Int32)), (.int (p0 &&& (255 : Int32)))])) (fun tt_ kk_ => XS.bipush X0.here hx rfl (hb hby d2_41) kk_) ?_
        by_cases c43_5 : (57 : Int32) < (p0 &&& (255 : Int32))
        · refine Gq.go (s₁.setTop (mkF m 48 #[.val (.int p0), .val (.int (p0 &&& (255 : Int32)))] [])) (fun tt_ kk_ => XS.icmpYes X0.here hx rfl (pc0 := 43) (pc' := 48) rfl (hb hby d2_43) rfl (tlt c43_5).2.2.1 (by decide) (by decide) kk_) ?_
          refine Gq.go (s₁.setTop (mkF m 49 #[.val (.int p0), .val (.int (p0 &&& (255 : Int32)))] [(.int (p0 &&& (255 : Int32)))])) (fun tt_ kk_ => XS.iloadN X0.here hx rfl (hb hby d2_48) rfl kk_) ?_
          refine Gq.go (s₁.setTop (mkF m 51 #[.val (.int p0), .val (.int (p0 &&& (255 : Int32)))] [(.int (45 : Int32)), (.int (p0 &&& (255 : Int32)))])) (fun tt_ kk_ => XS.bipush X0.here hx rfl (hb hby d2_49) kk_) ?_
          by_cases c51_6 : (p0 &&& (255 : Int32)) = (45 : Int32)
          · refine Gq.go (s₁.setTop (mkF m 54 #[.val (.int p0), .val (.int (p0 &&& (255 : Int32)))] [])) (fun tt_ kk_ => XS.icmpNo X0.here hx rfl (hb hby d2_51) rfl (teq c51_6).2 kk_) ?_
            refine Gq.go (s₁.setTop (mkF m 55 #[.val (.int p0), .val (.int (p0 &&& (255 : Int32)))] [(.int (1 : Int32))])) (fun tt_ kk_ => XS.iconst X0.here hx rfl (hb hby d2_54) kk_) ?_
            refine Gq.go (s₁.setTop (mkF m 59 #[.val (.int p0), .val (.int (p0 &&& (255 : Int32)))] [(.int (1 : Int32))])) (fun tt_ kk_ => XS.goto X0.here hx rfl (pc0 := 55) (pc' := 59) rfl (hb hby d2_55) (by decide) (by decide) kk_) ?_
            refine Gq.retI X0 hx Bd.notSynchronized Bd.returns (by simp) (hb hby d2_59) rfl (by decide) (by decide) ?_
            show Q_own_ok Z p0 h0 n0 _ s₁.heap _
            rw [eh0]
            exact ⟨by unfold own_ok; rw [if_pos c9_1, if_pos c23_2, if_neg c37_3, if_pos c43_5, if_pos c51_6], N0, rfl⟩
          · refine Gq.go (s₁.setTop (mkF m 58 #[.val (.int p0), .val (.int (p0 &&& (255 : Int32)))] [])) (fun tt_ kk_ => XS.icmpYes X0.here hx rfl (pc0 := 51) (pc' := 58) rfl (hb hby d2_51) rfl (feq c51_6).2 (by decide) (by decide) kk_) ?_
            refine Gq.go (s₁.setTop (mkF m 59 #[.val (.int p0), .val (.int (p0 &&& (255 : Int32)))] [(.int (0 : Int32))])) (fun tt_ kk_ => XS.iconst X0.here hx rfl (hb hby d2_58) kk_) ?_
            refine Gq.retI X0 hx Bd.notSynchronized Bd.returns (by simp) (hb hby d2_59) rfl (by decide) (by decide) ?_
            show Q_own_ok Z p0 h0 n0 _ s₁.heap _
            rw [eh0]
            exact ⟨by unfold own_ok; rw [if_pos c9_1, if_pos c23_2, if_neg c37_3, if_pos c43_5, if_neg c51_6], N0, rfl⟩
        · refine Gq.go (s₁.setTop (mkF m 46 #[.val (.int p0), .val (.int (p0 &&& (255 : Int32)))] [])) (fun tt_ kk_ => XS.icmpNo X0.here hx rfl (hb hby d2_43) rfl (flt c43_5).2.2.1 kk_) ?_
          refine Gq.go (s₁.setTop (mkF m 47 #[.val (.int p0), .val (.int (p0 &&& (255 : Int32)))] [(.int (1 : Int32))])) (fun tt_ kk_ => XS.iconst X0.here hx rfl (hb hby d2_46) kk_) ?_
          refine Gq.retI X0 hx Bd.notSynchronized Bd.returns (by simp) (hb hby d2_47) rfl (by decide) (by decide) ?_
          show Q_own_ok Z p0 h0 n0 _ s₁.heap _
          rw [eh0]
          exact ⟨by unfold own_ok; rw [if_pos c9_1, if_pos c23_2, if_neg c37_3, if_neg c43_5], N0, rfl⟩
    · refine Gq.go (s₁.setTop (mkF m 26 #[.val (.int p0), .val (.int (p0 &&& (255 : Int32)))] [])) (fun tt_ kk_ => XS.icmpNo X0.here hx rfl (hb hby d2_23) rfl (flt c23_2).1 kk_) ?_
      refine Gq.go (s₁.setTop (mkF m 27 #[.val (.int p0), .val (.int (p0 &&& (255 : Int32)))] [(.int (p0 &&& (255 : Int32)))])) (fun tt_ kk_ => XS.iloadN X0.here hx rfl (hb hby d2_26) rfl kk_) ?_
      refine Gq.go (s₁.setTop (mkF m 29 #[.val (.int p0), .val (.int (p0 &&& (255 : Int32)))] [(.int (122 : Int32)), (.int (p0 &&& (255 : Int32)))])) (fun tt_ kk_ => XS.bipush X0.here hx rfl (hb hby d2_27) kk_) ?_
      by_cases c29_7 : (122 : Int32) < (p0 &&& (255 : Int32))
      · refine Gq.go (s₁.setTop (mkF m 34 #[.val (.int p0), .val (.int (p0 &&& (255 : Int32)))] [])) (fun tt_ kk_ => XS.icmpYes X0.here hx rfl (pc0 := 29) (pc' := 34) rfl (hb hby d2_29) rfl (tlt c29_7).2.2.1 (by decide) (by decide) kk_) ?_
        refine Gq.go (s₁.setTop (mkF m 35 #[.val (.int p0), .val (.int (p0 &&& (255 : Int32)))] [(.int (p0 &&& (255 : Int32)))])) (fun tt_ kk_ => XS.iloadN X0.here hx rfl (hb hby d2_34) rfl kk_) ?_
        refine Gq.go (s₁.setTop (mkF m 37 #[.val (.int p0), .val (.int (p0 &&& (255 : Int32)))] [(.int (48 : Int32)), (.int (p0 &&& (255 : Int32)))])) (fun tt_ kk_ => XS.bipush X0.here hx rfl (hb hby d2_35) kk_) ?_
        by_cases c37_8 : (p0 &&& (255 : Int32)) < (48 : Int32)
        · refine Gq.go (s₁.setTop (mkF m 48 #[.val (.int p0), .val (.int (p0 &&& (255 : Int32)))] [])) (fun tt_ kk_ => XS.icmpYes X0.here hx rfl (pc0 := 37) (pc' := 48) rfl (hb hby d2_37) rfl (tlt c37_8).1 (by decide) (by decide) kk_) ?_
          refine Gq.go (s₁.setTop (mkF m 49 #[.val (.int p0), .val (.int (p0 &&& (255 : Int32)))] [(.int (p0 &&& (255 : Int32)))])) (fun tt_ kk_ => XS.iloadN X0.here hx rfl (hb hby d2_48) rfl kk_) ?_
          refine Gq.go (s₁.setTop (mkF m 51 #[.val (.int p0), .val (.int (p0 &&& (255 : Int32)))] [(.int (45 : Int32)), (.int (p0 &&& (255 : Int32)))])) (fun tt_ kk_ => XS.bipush X0.here hx rfl (hb hby d2_49) kk_) ?_
          by_cases c51_9 : (p0 &&& (255 : Int32)) = (45 : Int32)
          · refine Gq.go (s₁.setTop (mkF m 54 #[.val (.int p0), .val (.int (p0 &&& (255 : Int32)))] [])) (fun tt_ kk_ => XS.icmpNo X0.here hx rfl (hb hby d2_51) rfl (teq c51_9).2 kk_) ?_
            refine Gq.go (s₁.setTop (mkF m 55 #[.val (.int p0), .val (.int (p0 &&& (255 : Int32)))] [(.int (1 : Int32))])) (fun tt_ kk_ => XS.iconst X0.here hx rfl (hb hby d2_54) kk_) ?_
            refine Gq.go (s₁.setTop (mkF m 59 #[.val (.int p0), .val (.int (p0 &&& (255 : Int32)))] [(.int (1 : Int32))])) (fun tt_ kk_ => XS.goto X0.here hx rfl (pc0 := 55) (pc' := 59) rfl (hb hby d2_55) (by decide) (by decide) kk_) ?_
            refine Gq.retI X0 hx Bd.notSynchronized Bd.returns (by simp) (hb hby d2_59) rfl (by decide) (by decide) ?_
            show Q_own_ok Z p0 h0 n0 _ s₁.heap _
            rw [eh0]
            exact ⟨by unfold own_ok; rw [if_pos c9_1, if_neg c23_2, if_pos c29_7, if_pos c37_8, if_pos c51_9], N0, rfl⟩
          · refine Gq.go (s₁.setTop (mkF m 58 #[.val (.int p0), .val (.int (p0 &&& (255 : Int32)))] [])) (fun tt_ kk_ => XS.icmpYes X0.here hx rfl (pc0 := 51) (pc' := 58) rfl (hb hby d2_51) rfl (feq c51_9).2 (by decide) (by decide) kk_) ?_
            refine Gq.go (s₁.setTop (mkF m 59 #[.val (.int p0), .val (.int (p0 &&& (255 : Int32)))] [(.int (0 : Int32))])) (fun tt_ kk_ => XS.iconst X0.here hx rfl (hb hby d2_58) kk_) ?_
            refine Gq.retI X0 hx Bd.notSynchronized Bd.returns (by simp) (hb hby d2_59) rfl (by decide) (by decide) ?_
            show Q_own_ok Z p0 h0 n0 _ s₁.heap _
            rw [eh0]
            exact ⟨by unfold own_ok; rw [if_pos c9_1, if_neg c23_2, if_pos c29_7, if_pos c37_8, if_neg c51_9], N0, rfl⟩
        · refine Gq.go (s₁.setTop (mkF m 40 #[.val (.int p0), .val (.int (p0 &&& (255 : Int32)))] [])) (fun tt_ kk_ => XS.icmpNo X0.here hx rfl (hb hby d2_37) rfl (flt c37_8).1 kk_) ?_
          refine Gq.go (s₁.setTop (mkF m 41 #[.val (.int p0), .val (.int (p0 &&& (255 : Int32)))] [(.int (p0 &&& (255 : Int32)))])) (fun tt_ kk_ => XS.iloadN X0.here hx rfl (hb hby d2_40) rfl kk_) ?_
          refine Gq.go (s₁.setTop (mkF m 43 #[.val (.int p0), .val (.int (p0 &&& (255 : Int32)))] [(.int (57 : Int32)), (.int (p0 &&& (255 : Int32)))])) (fun tt_ kk_ => XS.bipush X0.here hx rfl (hb hby d2_41) kk_) ?_
          by_cases c43_10 : (57 : Int32) < (p0 &&& (255 : Int32))
          · refine Gq.go (s₁.setTop (mkF m 48 #[.val (.int p0), .val (.int (p0 &&& (255 : Int32)))] [])) (fun tt_ kk_ => XS.icmpYes X0.here hx rfl (pc0 := 43) (pc' := 48) rfl (hb hby d2_43) rfl (tlt c43_10).2.2.1 (by decide) (by decide) kk_) ?_
            refine Gq.go (s₁.setTop (mkF m 49 #[.val (.int p0), .val (.int (p0 &&& (255 : Int32)))] [(.int (p0 &&& (255 : Int32)))])) (fun tt_ kk_ => XS.iloadN X0.here hx rfl (hb hby d2_48) rfl kk_) ?_
            refine Gq.go (s₁.setTop (mkF m 51 #[.val (.int p0), .val (.int (p0 &&& (255 : Int32)))] [(.int (45 : Int32)), (.int (p0 &&& (255 : Int32)))])) (fun tt_ kk_ => XS.bipush X0.here hx rfl (hb hby d2_49) kk_) ?_
            by_cases c51_11 : (p0 &&& (255 : Int32)) = (45 : Int32)
            · refine Gq.go (s₁.setTop (mkF m 54 #[.val (.int p0), .val (.int (p0 &&& (255 : Int32)))] [])) (fun tt_ kk_ => XS.icmpNo X0.here hx rfl (hb hby d2_51) rfl (teq c51_11).2 kk_) ?_
              refine Gq.go (s₁.setTop (mkF m 55 #[.val (.int p0), .val (.int (p0 &&& (255 : Int32)))] [(.int (1 : Int32))])) (fun tt_ kk_ => XS.iconst X0.here hx rfl (hb hby d2_54) kk_) ?_
              refine Gq.go (s₁.setTop (mkF m 59 #[.val (.int p0), .val (.int (p0 &&& (255 : Int32)))] [(.int (1 : Int32))])) (fun tt_ kk_ => XS.goto X0.here hx rfl (pc0 := 55) (pc' := 59) rfl (hb hby d2_55) (by decide) (by decide) kk_) ?_
              refine Gq.retI X0 hx Bd.notSynchronized Bd.returns (by simp) (hb hby d2_59) rfl (by decide) (by decide) ?_
              show Q_own_ok Z p0 h0 n0 _ s₁.heap _
              rw [eh0]
              exact ⟨by unfold own_ok; rw [if_pos c9_1, if_neg c23_2, if_pos c29_7, if_neg c37_8, if_pos c43_10, if_pos c51_11], N0, rfl⟩
            · refine Gq.go (s₁.setTop (mkF m 58 #[.val (.int p0), .val (.int (p0 &&& (255 : Int32)))] [])) (fun tt_ kk_ => XS.icmpYes X0.here hx rfl (pc0 := 51) (pc' := 58) rfl (hb hby d2_51) rfl (feq c51_11).2 (by decide) (by decide) kk_) ?_
              refine Gq.go (s₁.setTop (mkF m 59 #[.val (.int p0), .val (.int (p0 &&& (255 : Int32)))] [(.int (0 : Int32))])) (fun tt_ kk_ => XS.iconst X0.here hx rfl (hb hby d2_58) kk_) ?_
              refine Gq.retI X0 hx Bd.notSynchronized Bd.returns (by simp) (hb hby d2_59) rfl (by decide) (by decide) ?_
              show Q_own_ok Z p0 h0 n0 _ s₁.heap _
              rw [eh0]
              exact ⟨by unfold own_ok; rw [if_pos c9_1, if_neg c23_2, if_pos c29_7, if_neg c37_8, if_pos c43_10, if_neg c51_11], N0, rfl⟩
          · refine Gq.go (s₁.setTop (mkF m 46 #[.val (.int p0), .val (.int (p0 &&& (255 : Int32)))] [])) (fun tt_ kk_ => XS.icmpNo X0.here hx rfl (hb hby d2_43) rfl (flt c43_10).2.2.1 kk_) ?_
            refine Gq.go (s₁.setTop (mkF m 47 #[.val (.int p0), .val (.int (p0 &&& (255 : Int32)))] [(.int (1 : Int32))])) (fun tt_ kk_ => XS.iconst X0.here hx rfl (hb hby d2_46) kk_) ?_
            refine Gq.retI X0 hx Bd.notSynchronized Bd.returns (by simp) (hb hby d2_47) rfl (by decide) (by decide) ?_
            show Q_own_ok Z p0 h0 n0 _ s₁.heap _
            rw [eh0]
            exact ⟨by unfold own_ok; rw [if_pos c9_1, if_neg c23_2, if_pos c29_7, if_neg c37_8, if_neg c43_10], N0, rfl⟩
      · refine Gq.go (s₁.setTop (mkF m 32 #[.val (.int p0), .val (.int (p0 &&& (255 : Int32)))] [])) (fun tt_ kk_ => XS.icmpNo X0.here hx rfl (hb hby d2_29) rfl (flt c29_7).2.2.1 kk_) ?_
        refine Gq.go (s₁.setTop (mkF m 33 #[.val (.int p0), .val (.int (p0 &&& (255 : Int32)))] [(.int (1 : Int32))])) (fun tt_ kk_ => XS.iconst X0.here hx rfl (hb hby d2_32) kk_) ?_
        refine Gq.retI X0 hx Bd.notSynchronized Bd.returns (by simp) (hb hby d2_33) rfl (by decide) (by decide) ?_
        show Q_own_ok Z p0 h0 n0 _ s₁.heap _
        rw [eh0]
        exact ⟨by unfold own_ok; rw [if_pos c9_1, if_neg c23_2, if_neg c29_7], N0, rfl⟩
  · refine Gq.go (s₁.setTop (mkF m 12 #[.val (.int p0), .val (.int (p0 &&& (255 : Int32)))] [])) (fun tt_ kk_ => XS.icmpNo X0.here hx rfl (hb hby d2_9) rfl (flt c9_1).1 kk_) ?_
    refine Gq.go (s₁.setTop (mkF m 13 #[.val (.int p0), .val (.int (p0 &&& (255 : Int32)))] [(.int (p0 &&& (255 : Int32)))])) (fun tt_ kk_ => XS.iloadN X0.here hx rfl (hb hby d2_12) rfl kk_) ?_
    refine Gq.go (s₁.setTop (mkF m 15 #[.val (.int p0), .val (.int (p0 &&& (255 : Int32)))] [(.int (90 : Int32)), (.int (p0 &&& (255 : Int32)))])) (fun tt_ kk_ => XS.bipush X0.here hx rfl (hb hby d2_13) kk_) ?_
    by_cases c15_12 : (90 : Int32) < (p0 &&& (255 : Int32))
    · refine Gq.go (s₁.setTop (mkF m 20 #[.val (.int p0), .val (.int (p0 &&& (255 : Int32)))] [])) (fun tt_ kk_ => XS.icmpYes X0.here hx rfl (pc0 := 15) (pc' := 20) rfl (hb hby d2_15) rfl (tlt c15_12).2.2.1 (by decide) (by decide) kk_) ?_
      refine Gq.go (s₁.setTop (mkF m 21 #[.val (.int p0), .val (.int (p0 &&& (255 : Int32)))] [(.int (p0 &&& (255 : Int32)))])) (fun tt_ kk_ => XS.iloadN X0.here hx rfl (hb hby d2_20) rfl kk_) ?_
      refine Gq.go (s₁.setTop (mkF m 23 #[.val (.int p0), .val (.int (p0 &&& (255 : Int32)))] [(.int (97 : Int32)), (.int (p0 &&& (255 : Int32)))])) (fun tt_ kk_ => XS.bipush X0.here hx rfl (hb hby d2_21) kk_) ?_
      by_cases c23_13 : (p0 &&& (255 : Int32)) < (97 : Int32)
      · refine Gq.go (s₁.setTop (mkF m 34 #[.val (.int p0), .val (.int (p0 &&& (255 : Int32)))] [])) (fun tt_ kk_ => XS.icmpYes X0.here hx rfl (pc0 := 23) (pc' := 34) rfl (hb hby d2_23) rfl (tlt c23_13).1 (by decide) (by decide) kk_) ?_
        refine Gq.go (s₁.setTop (mkF m 35 #[.val (.int p0), .val (.int (p0 &&& (255 : Int32)))] [(.int (p0 &&& (255 : Int32)))])) (fun tt_ kk_ => XS.iloadN X0.here hx rfl (hb hby d2_34) rfl kk_) ?_
        refine Gq.go (s₁.setTop (mkF m 37 #[.val (.int p0), .val (.int (p0 &&& (255 : Int32)))] [(.int (48 : Int32)), (.int (p0 &&& (255 : Int32)))])) (fun tt_ kk_ => XS.bipush X0.here hx rfl (hb hby d2_35) kk_) ?_
        by_cases c37_14 : (p0 &&& (255 : Int32)) < (48 : Int32)
        · refine Gq.go (s₁.setTop (mkF m 48 #[.val (.int p0), .val (.int (p0 &&& (255 : Int32)))] [])) (fun tt_ kk_ => XS.icmpYes X0.here hx rfl (pc0 := 37) (pc' := 48) rfl (hb hby d2_37) rfl (tlt c37_14).1 (by decide) (by decide) kk_) ?_
          refine Gq.go (s₁.setTop (mkF m 49 #[.val (.int p0), .val (.int (p0 &&& (255 : Int32)))] [(.int (p0 &&& (255 : Int32)))])) (fun tt_ kk_ => XS.iloadN X0.here hx rfl (hb hby d2_48) rfl kk_) ?_
          refine Gq.go (s₁.setTop (mkF m 51 #[.val (.int p0), .val (.int (p0 &&& (255 : Int32)))] [(.int (45 : Int32)), (.int (p0 &&& (255 : Int32)))])) (fun tt_ kk_ => XS.bipush X0.here hx rfl (hb hby d2_49) kk_) ?_
          by_cases c51_15 : (p0 &&& (255 : Int32)) = (45 : Int32)
          · refine Gq.go (s₁.setTop (mkF m 54 #[.val (.int p0), .val (.int (p0 &&& (255 : Int32)))] [])) (fun tt_ kk_ => XS.icmpNo X0.here hx rfl (hb hby d2_51) rfl (teq c51_15).2 kk_) ?_
            refine Gq.go (s₁.setTop (mkF m 55 #[.val (.int p0), .val (.int (p0 &&& (255 : Int32)))] [(.int (1 : Int32))])) (fun tt_ kk_ => XS.iconst X0.here hx rfl (hb hby d2_54) kk_) ?_
            refine Gq.go (s₁.setTop (mkF m 59 #[.val (.int p0), .val (.int (p0 &&& (255 : Int32)))] [(.int (1 : Int32))])) (fun tt_ kk_ => XS.goto X0.here hx rfl (pc0 := 55) (pc' := 59) rfl (hb hby d2_55) (by decide) (by decide) kk_) ?_
            refine Gq.retI X0 hx Bd.notSynchronized Bd.returns (by simp) (hb hby d2_59) rfl (by decide) (by decide) ?_
            show Q_own_ok Z p0 h0 n0 _ s₁.heap _
            rw [eh0]
            exact ⟨by unfold own_ok; rw [if_neg c9_1, if_pos c15_12, if_pos c23_13, if_pos c37_14, if_pos c51_15], N0, rfl⟩
          · refine Gq.go (s₁.setTop (mkF m 58 #[.val (.int p0), .val (.int (p0 &&& (255 : Int32)))] [])) (fun tt_ kk_ => XS.icmpYes X0.here hx rfl (pc0 := 51) (pc' := 58) rfl (hb hby d2_51) rfl (feq c51_15).2 (by decide) (by decide) kk_) ?_
            refine Gq.go (s₁.setTop (mkF m 59 #[.val (.int p0), .val (.int (p0 &&& (255 : Int32)))] [(.int (0 : Int32))])) (fun tt_ kk_ => XS.iconst X0.here hx rfl (hb hby d2_58) kk_) ?_
            refine Gq.retI X0 hx Bd.notSynchronized Bd.returns (by simp) (hb hby d2_59) rfl (by decide) (by decide) ?_
            show Q_own_ok Z p0 h0 n0 _ s₁.heap _
            rw [eh0]
            exact ⟨by unfold own_ok; rw [if_neg c9_1, if_pos c15_12, if_pos c23_13, if_pos c37_14, if_neg c51_15], N0, rfl⟩
        · refine Gq.go (s₁.setTop (mkF m 40 #[.val (.int p0), .val (.int (p0 &&& (255 : Int32)))] [])) (fun tt_ kk_ => XS.icmpNo X0.here hx rfl (hb hby d2_37) rfl (flt c37_14).1 kk_) ?_
          refine Gq.go (s₁.setTop (mkF m 41 #[.val (.int p0), .val (.int (p0 &&& (255 : Int32)))] [(.int (p0 &&& (255 : Int32)))])) (fun tt_ kk_ => XS.iloadN X0.here hx rfl (hb hby d2_40) rfl kk_) ?_
          refine Gq.go (s₁.setTop (mkF m 43 #[.val (.int p0), .val (.int (p0 &&& (255 : Int32)))] [(.int (57 : Int32)), (.int (p0 &&& (255 : Int32)))])) (fun tt_ kk_ => XS.bipush X0.here hx rfl (hb hby d2_41) kk_) ?_
          by_cases c43_16 : (57 : Int32) < (p0 &&& (255 : Int32))
          · refine Gq.go (s₁.setTop (mkF m 48 #[.val (.int p0), .val (.int (p0 &&& (255 : Int32)))] [])) (fun tt_ kk_ => XS.icmpYes X0.here hx rfl (pc0 := 43) (pc' := 48) rfl (hb hby d2_43) rfl (tlt c43_16).2.2.1 (by decide) (by decide) kk_) ?_
            refine Gq.go (s₁.setTop (mkF m 49 #[.val (.int p0), .val (.int (p0 &&& (255 : Int32)))] [(.int (p0 &&& (255 : Int32)))])) (fun tt_ kk_ => XS.iloadN X0.here hx rfl (hb hby d2_48) rfl kk_) ?_
            refine Gq.go (s₁.setTop (mkF m 51 #[.val (.int p0), .val (.int (p0 &&& (255 : Int32)))] [(.int (45 : Int32)), (.int (p0 &&& (255 : Int32)))])) (fun tt_ kk_ => XS.bipush X0.here hx rfl (hb hby d2_49) kk_) ?_
            by_cases c51_17 : (p0 &&& (255 : Int32)) = (45 : Int32)
            · refine Gq.go (s₁.setTop (mkF m 54 #[.val (.int p0), .val (.int (p0 &&& (255 : Int32)))] [])) (fun tt_ kk_ => XS.icmpNo X0.here hx rfl (hb hby d2_51) rfl (teq c51_17).2 kk_) ?_
              refine Gq.go (s₁.setTop (mkF m 55 #[.val (.int p0), .val (.int (p0 &&& (255 : Int32)))] [(.int (1 : Int32))])) (fun tt_ kk_ => XS.iconst X0.here hx rfl (hb hby d2_54) kk_) ?_
              refine Gq.go (s₁.setTop (mkF m 59 #[.val (.int p0), .val (.int (p0 &&& (255 : Int32)))] [(.int (1 : Int32))])) (fun tt_ kk_ => XS.goto X0.here hx rfl (pc0 := 55) (pc' := 59) rfl (hb hby d2_55) (by decide) (by decide) kk_) ?_
              refine Gq.retI X0 hx Bd.notSynchronized Bd.returns (by simp) (hb hby d2_59) rfl (by decide) (by decide) ?_
              show Q_own_ok Z p0 h0 n0 _ s₁.heap _
              rw [eh0]
              exact ⟨by unfold own_ok; rw [if_neg c9_1, if_pos c15_12, if_pos c23_13, if_neg c37_14, if_pos c43_16, if_pos c51_17], N0, rfl⟩
            · refine Gq.go (s₁.setTop (mkF m 58 #[.val (.int p0), .val (.int (p0 &&& (255 : Int32)))] [])) (fun tt_ kk_ => XS.icmpYes X0.here hx rfl (pc0 := 51) (pc' := 58) rfl (hb hby d2_51) rfl (feq c51_17).2 (by decide) (by decide) kk_) ?_
              refine Gq.go (s₁.setTop (mkF m 59 #[.val (.int p0), .val (.int (p0 &&& (255 : Int32)))] [(.int (0 : Int32))])) (fun tt_ kk_ => XS.iconst X0.here hx rfl (hb hby d2_58) kk_) ?_
              refine Gq.retI X0 hx Bd.notSynchronized Bd.returns (by simp) (hb hby d2_59) rfl (by decide) (by decide) ?_
              show Q_own_ok Z p0 h0 n0 _ s₁.heap _
              rw [eh0]
              exact ⟨by unfold own_ok; rw [if_neg c9_1, if_pos c15_12, if_pos c23_13, if_neg c37_14, if_pos c43_16, if_neg c51_17], N0, rfl⟩
          · refine Gq.go (s₁.setTop (mkF m 46 #[.val (.int p0), .val (.int (p0 &&& (255 : Int32)))] [])) (fun tt_ kk_ => XS.icmpNo X0.here hx rfl (hb hby d2_43) rfl (flt c43_16).2.2.1 kk_) ?_
            refine Gq.go (s₁.setTop (mkF m 47 #[.val (.int p0), .val (.int (p0 &&& (255 : Int32)))] [(.int (1 : Int32))])) (fun tt_ kk_ => XS.iconst X0.here hx rfl (hb hby d2_46) kk_) ?_
            refine Gq.retI X0 hx Bd.notSynchronized Bd.returns (by simp) (hb hby d2_47) rfl (by decide) (by decide) ?_
            show Q_own_ok Z p0 h0 n0 _ s₁.heap _
            rw [eh0]
            exact ⟨by unfold own_ok; rw [if_neg c9_1, if_pos c15_12, if_pos c23_13, if_neg c37_14, if_neg c43_16], N0, rfl⟩
      · refine Gq.go (s₁.setTop (mkF m 26 #[.val (.int p0), .val (.int (p0 &&& (255 : Int32)))] [])) (fun tt_ kk_ => XS.icmpNo X0.here hx rfl (hb hby d2_23) rfl (flt c23_13).1 kk_) ?_
        refine Gq.go (s₁.setTop (mkF m 27 #[.val (.int p0), .val (.int (p0 &&& (255 : Int32)))] [(.int (p0 &&& (255 : Int32)))])) (fun tt_ kk_ => XS.iloadN X0.here hx rfl (hb hby d2_26) rfl kk_) ?_
        refine Gq.go (s₁.setTop (mkF m 29 #[.val (.int p0), .val (.int (p0 &&& (255 : Int32)))] [(.int (122 : Int32)), (.int (p0 &&& (255 : Int32)))])) (fun tt_ kk_ => XS.bipush X0.here hx rfl (hb hby d2_27) kk_) ?_
        by_cases c29_18 : (122 : Int32) < (p0 &&& (255 : Int32))
        · refine Gq.go (s₁.setTop (mkF m 34 #[.val (.int p0), .val (.int (p0 &&& (255 : Int32)))] [])) (fun tt_ kk_ => XS.icmpYes X0.here hx rfl (pc0 := 29) (pc' := 34) rfl (hb hby d2_29) rfl (tlt c29_18).2.2.1 (by decide) (by decide) kk_) ?_
          refine Gq.go (s₁.setTop (mkF m 35 #[.val (.int p0), .val (.int (p0 &&& (255 : Int32)))] [(.int (p0 &&& (255 : Int32)))])) (fun tt_ kk_ => XS.iloadN X0.here hx rfl (hb hby d2_34) rfl kk_) ?_
          refine Gq.go (s₁.setTop (mkF m 37 #[.val (.int p0), .val (.int (p0 &&& (255 : Int32)))] [(.int (48 : Int32)), (.int (p0 &&& (255 : Int32)))])) (fun tt_ kk_ => XS.bipush X0.here hx rfl (hb hby d2_35) kk_) ?_
          by_cases c37_19 : (p0 &&& (255 : Int32)) < (48 : Int32)
          · refine Gq.go (s₁.setTop (mkF m 48 #[.val (.int p0), .val (.int (p0 &&& (255 : Int32)))] [])) (fun tt_ kk_ => XS.icmpYes X0.here hx rfl (pc0 := 37) (pc' := 48) rfl (hb hby d2_37) rfl (tlt c37_19).1 (by decide) (by decide) kk_) ?_
            refine Gq.go (s₁.setTop (mkF m 49 #[.val (.int p0), .val (.int (p0 &&& (255 : Int32)))] [(.int (p0 &&& (255 : Int32)))])) (fun tt_ kk_ => XS.iloadN X0.here hx rfl (hb hby d2_48) rfl kk_) ?_
            refine Gq.go (s₁.setTop (mkF m 51 #[.val (.int p0), .val (.int (p0 &&& (255 : Int32)))] [(.int (45 : Int32)), (.int (p0 &&& (255 : Int32)))])) (fun tt_ kk_ => XS.bipush X0.here hx rfl (hb hby d2_49) kk_) ?_
            by_cases c51_20 : (p0 &&& (255 : Int32)) = (45 : Int32)
            · refine Gq.go (s₁.setTop (mkF m 54 #[.val (.int p0), .val (.int (p0 &&& (255 : Int32)))] [])) (fun tt_ kk_ => XS.icmpNo X0.here hx rfl (hb hby d2_51) rfl (teq c51_20).2 kk_) ?_
              refine Gq.go (s₁.setTop (mkF m 55 #[.val (.int p0), .val (.int (p0 &&& (255 : Int32)))] [(.int (1 : Int32))])) (fun tt_ kk_ => XS.iconst X0.here hx rfl (hb hby d2_54) kk_) ?_
              refine Gq.go (s₁.setTop (mkF m 59 #[.val (.int p0), .val (.int (p0 &&& (255 : Int32)))] [(.int (1 : Int32))])) (fun tt_ kk_ => XS.goto X0.here hx rfl (pc0 := 55) (pc' := 59) rfl (hb hby d2_55) (by decide) (by decide) kk_) ?_
              refine Gq.retI X0 hx Bd.notSynchronized Bd.returns (by simp) (hb hby d2_59) rfl (by decide) (by decide) ?_
              show Q_own_ok Z p0 h0 n0 _ s₁.heap _
              rw [eh0]
              exact ⟨by unfold own_ok; rw [if_neg c9_1, if_pos c15_12, if_neg c23_13, if_pos c29_18, if_pos c37_19, if_pos c51_20], N0, rfl⟩
            · refine Gq.go (s₁.setTop (mkF m 58 #[.val (.int p0), .val (.int (p0 &&& (255 : Int32)))] [])) (fun tt_ kk_ => XS.icmpYes X0.here hx rfl (pc0 := 51) (pc' := 58) rfl (hb hby d2_51) rfl (feq c51_20).2 (by decide) (by decide) kk_) ?_
              refine Gq.go (s₁.setTop (mkF m 59 #[.val (.int p0), .val (.int (p0 &&& (255 : Int32)))] [(.int (0 : Int32))])) (fun tt_ kk_ => XS.iconst X0.here hx rfl (hb hby d2_58) kk_) ?_
              refine Gq.retI X0 hx Bd.notSynchronized Bd.returns (by simp) (hb hby d2_59) rfl (by decide) (by decide) ?_
              show Q_own_ok Z p0 h0 n0 _ s₁.heap _
              rw [eh0]
              exact ⟨by unfold own_ok; rw [if_neg c9_1, if_pos c15_12, if_neg c23_13, if_pos c29_18, if_pos c37_19, if_neg c51_20], N0, rfl⟩
          · refine Gq.go (s₁.setTop (mkF m 40 #[.val (.int p0), .val (.int (p0 &&& (255 : Int32)))] [])) (fun tt_ kk_ => XS.icmpNo X0.here hx rfl (hb hby d2_37) rfl (flt c37_19).1 kk_) ?_
            refine Gq.go (s₁.setTop (mkF m 41 #[.val (.int p0), .val (.int (p0 &&& (255 : Int32)))] [(.int (p0 &&& (255 : Int32)))])) (fun tt_ kk_ => XS.iloadN X0.here hx rfl (hb hby d2_40) rfl kk_) ?_
            refine Gq.go (s₁.setTop (mkF m 43 #[.val (.int p0), .val (.int (p0 &&& (255 : Int32)))] [(.int (57 : Int32)), (.int (p0 &&& (255 : Int32)))])) (fun tt_ kk_ => XS.bipush X0.here hx rfl (hb hby d2_41) kk_) ?_
            by_cases c43_21 : (57 : Int32) < (p0 &&& (255 : Int32))
            · refine Gq.go (s₁.setTop (mkF m 48 #[.val (.int p0), .val (.int (p0 &&& (255 : Int32)))] [])) (fun tt_ kk_ => XS.icmpYes X0.here hx rfl (pc0 := 43) (pc' := 48) rfl (hb hby d2_43) rfl (tlt c43_21).2.2.1 (by decide) (by decide) kk_) ?_
              refine Gq.go (s₁.setTop (mkF m 49 #[.val (.int p0), .val (.int (p0 &&& (255 : Int32)))] [(.int (p0 &&& (255 : Int32)))])) (fun tt_ kk_ => XS.iloadN X0.here hx rfl (hb hby d2_48) rfl kk_) ?_
              refine Gq.go (s₁.setTop (mkF m 51 #[.val (.int p0), .val (.int (p0 &&& (255 : Int32)))] [(.int (45 : Int32)), (.int (p0 &&& (255 : Int32)))])) (fun tt_ kk_ => XS.bipush X0.here hx rfl (hb hby d2_49) kk_) ?_
              by_cases c51_22 : (p0 &&& (255 : Int32)) = (45 : Int32)
              · refine Gq.go (s₁.setTop (mkF m 54 #[.val (.int p0), .val (.int (p0 &&& (255 : Int32)))] [])) (fun tt_ kk_ => XS.icmpNo X0.here hx rfl (hb hby d2_51) rfl (teq c51_22).2 kk_) ?_
                refine Gq.go (s₁.setTop (mkF m 55 #[.val (.int p0), .val (.int (p0 &&& (255 : Int32)))] [(.int (1 : Int32))])) (fun tt_ kk_ => XS.iconst X0.here hx rfl (hb hby d2_54) kk_) ?_
                refine Gq.go (s₁.setTop (mkF m 59 #[.val (.int p0), .val (.int (p0 &&& (255 : Int32)))] [(.int (1 : Int32))])) (fun tt_ kk_ => XS.goto X0.here hx rfl (pc0 := 55) (pc' := 59) rfl (hb hby d2_55) (by decide) (by decide) kk_) ?_
                refine Gq.retI X0 hx Bd.notSynchronized Bd.returns (by simp) (hb hby d2_59) rfl (by decide) (by decide) ?_
                show Q_own_ok Z p0 h0 n0 _ s₁.heap _
                rw [eh0]
                exact ⟨by unfold own_ok; rw [if_neg c9_1, if_pos c15_12, if_neg c23_13, if_pos c29_18, if_neg c37_19, if_pos c43_21, if_pos c51_22], N0, rfl⟩
              · refine Gq.go (s₁.setTop (mkF m 58 #[.val (.int p0), .val (.int (p0 &&& (255 : Int32)))] [])) (fun tt_ kk_ => XS.icmpYes X0.here hx rfl (pc0 := 51) (pc' := 58) rfl (hb hby d2_51) rfl (feq c51_22).2 (by decide) (by decide) kk_) ?_
                refine Gq.go (s₁.setTop (mkF m 59 #[.val (.int p0), .val (.int (p0 &&& (255 : Int32)))] [(.int (0 : Int32))])) (fun tt_ kk_ => XS.iconst X0.here hx rfl (hb hby d2_58) kk_) ?_
                refine Gq.retI X0 hx Bd.notSynchronized Bd.returns (by simp) (hb hby d2_59) rfl (by decide) (by decide) ?_
                show Q_own_ok Z p0 h0 n0 _ s₁.heap _
                rw [eh0]
                exact ⟨by unfold own_ok; rw [if_neg c9_1, if_pos c15_12, if_neg c23_13, if_pos c29_18, if_neg c37_19, if_pos c43_21, if_neg c51_22], N0, rfl⟩
            · refine Gq.go (s₁.setTop (mkF m 46 #[.val (.int p0), .val (.int (p0 &&& (255 : Int32)))] [])) (fun tt_ kk_ => XS.icmpNo X0.here hx rfl (hb hby d2_43) rfl (flt c43_21).2.2.1 kk_) ?_
              refine Gq.go (s₁.setTop (mkF m 47 #[.val (.int p0), .val (.int (p0 &&& (255 : Int32)))] [(.int (1 : Int32))])) (fun tt_ kk_ => XS.iconst X0.here hx rfl (hb hby d2_46) kk_) ?_
              refine Gq.retI X0 hx Bd.notSynchronized Bd.returns (by simp) (hb hby d2_47) rfl (by decide) (by decide) ?_
              show Q_own_ok Z p0 h0 n0 _ s₁.heap _
              rw [eh0]
              exact ⟨by unfold own_ok; rw [if_neg c9_1, if_pos c15_12, if_neg c23_13, if_pos c29_18, if_neg c37_19, if_neg c43_21], N0, rfl⟩
        · refine Gq.go (s₁.setTop (mkF m 32 #[.val (.int p0), .val (.int (p0 &&& (255 : Int32)))] [])) (fun tt_ kk_ => XS.icmpNo X0.here hx rfl (hb hby d2_29) rfl (flt c29_18).2.2.1 kk_) ?_
          refine Gq.go (s₁.setTop (mkF m 33 #[.val (.int p0), .val (.int (p0 &&& (255 : Int32)))] [(.int (1 : Int32))])) (fun tt_ kk_ => XS.iconst X0.here hx rfl (hb hby d2_32) kk_) ?_
          refine Gq.retI X0 hx Bd.notSynchronized Bd.returns (by simp) (hb hby d2_33) rfl (by decide) (by decide) ?_
          show Q_own_ok Z p0 h0 n0 _ s₁.heap _
          rw [eh0]
          exact ⟨by unfold own_ok; rw [if_neg c9_1, if_pos c15_12, if_neg c23_13, if_neg c29_18], N0, rfl⟩
    · refine Gq.go (s₁.setTop (mkF m 18 #[.val (.int p0), .val (.int (p0 &&& (255 : Int32)))] [])) (fun tt_ kk_ => XS.icmpNo X0.here hx rfl (hb hby d2_15) rfl (flt c15_12).2.2.1 kk_) ?_
      refine Gq.go (s₁.setTop (mkF m 19 #[.val (.int p0), .val (.int (p0 &&& (255 : Int32)))] [(.int (1 : Int32))])) (fun tt_ kk_ => XS.iconst X0.here hx rfl (hb hby d2_18) kk_) ?_
      refine Gq.retI X0 hx Bd.notSynchronized Bd.returns (by simp) (hb hby d2_19) rfl (by decide) (by decide) ?_
      show Q_own_ok Z p0 h0 n0 _ s₁.heap _
      rw [eh0]
      exact ⟨by unfold own_ok; rw [if_neg c9_1, if_neg c15_12], N0, rfl⟩
theorem d3_0 : decode prog_77_method_3_code 0 = .ok (.iload_n 2, 1) := by decide +kernel
theorem d3_1 : decode prog_77_method_3_code 1 = .ok (.iload_n 1, 1) := by decide +kernel
theorem d3_2 : decode prog_77_method_3_code 2 = .ok (.if_icmp .eq 11, 3) := by decide +kernel
theorem d3_5 : decode prog_77_method_3_code 5 = .ok (.iload_n 2, 1) := by decide +kernel
theorem d3_6 : decode prog_77_method_3_code 6 = .ok (.iload_n 1, 1) := by decide +kernel
theorem d3_7 : decode prog_77_method_3_code 7 = .ok (.isub, 1) := by decide +kernel
theorem d3_8 : decode prog_77_method_3_code 8 = .ok (.bipush 32, 2) := by decide +kernel
theorem d3_10 : decode prog_77_method_3_code 10 = .ok (.if_icmp .le 5, 3) := by decide +kernel
theorem d3_13 : decode prog_77_method_3_code 13 = .ok (.iconst 0, 1) := by decide +kernel
theorem d3_14 : decode prog_77_method_3_code 14 = .ok (.ireturn, 1) := by decide +kernel
theorem d3_15 : decode prog_77_method_3_code 15 = .ok (.iload_n 1, 1) := by decide +kernel
theorem d3_16 : decode prog_77_method_3_code 16 = .ok (.istore_n 3, 1) := by decide +kernel
theorem d3_17 : decode prog_77_method_3_code 17 = .ok (.iload_n 3, 1) := by decide +kernel
theorem d3_18 : decode prog_77_method_3_code 18 = .ok (.iload_n 2, 1) := by decide +kernel
theorem d3_19 : decode prog_77_method_3_code 19 = .ok (.if_icmp .ge 65, 3) := by decide +kernel
theorem d3_22 : decode prog_77_method_3_code 22 = .ok (.aload_n 0, 1) := by decide +kernel
theorem d3_23 : decode prog_77_method_3_code 23 = .ok (.iload_n 3, 1) := by decide +kernel
theorem d3_24 : decode prog_77_method_3_code 24 = .ok (.baload, 1) := by decide +kernel
theorem d3_25 : decode prog_77_method_3_code 25 = .ok (.istore 4, 2) := by decide +kernel
theorem d3_27 : decode prog_77_method_3_code 27 = .ok (.iload 4, 2) := by decide +kernel
theorem d3_29 : decode prog_77_method_3_code 29 = .ok (.bipush 65, 2) := by decide +kernel
theorem d3_31 : decode prog_77_method_3_code 31 = .ok (.if_icmp .lt 10, 3) := by decide +kernel
theorem d3_34 : decode prog_77_method_3_code 34 = .ok (.iload 4, 2) := by decide +kernel
theorem d3_36 : decode prog_77_method_3_code 36 = .ok (.bipush 90, 2) := by decide +kernel
theorem d3_38 : decode prog_77_method_3_code 38 = .ok (.if_icmp .le 40, 3) := by decide +kernel
theorem d3_41 : decode prog_77_method_3_code 41 = .ok (.iload 4, 2) := by decide +kernel
theorem d3_43 : decode prog_77_method_3_code 43 = .ok (.bipush 97, 2) := by decide +kernel
theorem d3_45 : decode prog_77_method_3_code 45 = .ok (.if_icmp .lt 10, 3) := by decide +kernel
theorem d3_48 : decode prog_77_method_3_code 48 = .ok (.iload 4, 2) := by decide +kernel
theorem d3_50 : decode prog_77_method_3_code 50 = .ok (.bipush 122, 2) := by decide +kernel
theorem d3_52 : decode prog_77_method_3_code 52 = .ok (.if_icmp .le 26, 3) := by decide +kernel
theorem d3_55 : decode prog_77_method_3_code 55 = .ok (.iload 4, 2) := by decide +kernel
theorem d3_57 : decode prog_77_method_3_code 57 = .ok (.bipush 48, 2) := by decide +kernel
theorem d3_59 : decode prog_77_method_3_code 59 = .ok (.if_icmp .lt 10, 3) := by decide +kernel
theorem d3_62 : decode prog_77_method_3_code 62 = .ok (.iload 4, 2) := by decide +kernel
theorem d3_64 : decode prog_77_method_3_code 64 = .ok (.bipush 57, 2) := by decide +kernel
theorem d3_66 : decode prog_77_method_3_code 66 = .ok (.if_icmp .le 12, 3) := by decide +kernel
theorem d3_69 : decode prog_77_method_3_code 69 = .ok (.iload 4, 2) := by decide +kernel
theorem d3_71 : decode prog_77_method_3_code 71 = .ok (.bipush 45, 2) := by decide +kernel
theorem d3_73 : decode prog_77_method_3_code 73 = .ok (.if_icmp .eq 5, 3) := by decide +kernel
theorem d3_76 : decode prog_77_method_3_code 76 = .ok (.iconst 0, 1) := by decide +kernel
theorem d3_77 : decode prog_77_method_3_code 77 = .ok (.ireturn, 1) := by decide +kernel
theorem d3_78 : decode prog_77_method_3_code 78 = .ok (.iinc 3 1, 3) := by decide +kernel
theorem d3_81 : decode prog_77_method_3_code 81 = .ok (.goto (-64), 3) := by decide +kernel
theorem d3_84 : decode prog_77_method_3_code 84 = .ok (.iconst 1, 1) := by decide +kernel
theorem d3_85 : decode prog_77_method_3_code 85 = .ok (.ireturn, 1) := by decide +kernel
def own_v (x : Int32) : Int32 := (if x < (65 : Int32) then (if x < (97 : Int32) then (if x < (48 : Int32) then (if x = (45 : Int32) then (1 : Int32) else (0 : Int32)) else (if (57 : Int32) < x then (if x = (45 : Int32) then (1 : Int32) else (0 : Int32)) else (1 : Int32))) else (if (122 : Int32) < x then (if x < (48 : Int32) then (if x = (45 : Int32) then (1 : Int32) else (0 : Int32)) else (if (57 : Int32) < x then (if x = (45 : Int32) then (1 : Int32) else (0 : Int32)) else (1 : Int32))) else (1 : Int32))) else (if (90 : Int32) < x then (if x < (97 : Int32) then (if x < (48 : Int32) then (if x = (45 : Int32) then (1 : Int32) else (0 : Int32)) else (if (57 : Int32) < x then (if x = (45 : Int32) then (1 : Int32) else (0 : Int32)) else (1 : Int32))) else (if (122 : Int32) < x then (if x < (48 : Int32) then (if x = (45 : Int32) then (1 : Int32) else (0 : Int32)) else (if (57 : Int32) < x then (if x = (45 : Int32) then (1 : Int32) else (0 : Int32)) else (1 : Int32))) else (1 : Int32))) else (1 : Int32)))
theorem own_ext {g : Nat → Int32} {s i : Nat} (h : ∀ j, s ≤ j → j < i → own_v (g j) = 1) (hi : own_v (g i) = 1) : ∀ j, s ≤ j → j < i + 1 → own_v (g j) = 1 := fun j h1 h2 => by
  by_cases q : j = i
  · subst q; exact hi
  · exact h j h1 (by omega)
theorem own_p1 (x : Int32) : ∃ q : Nat, q < 40 ∧ (x &&& (255 : Int32)) % (40 : Int32) = Int32.ofNat q := by
  obtain ⟨n, h1, h2⟩ := own_and x 255 (by decide)
  refine ⟨n % 40, Nat.mod_lt _ (by decide), ?_⟩
  rw [show (255 : Int32) = Int32.ofNat 255 from rfl, h2]
  exact own_rem (d := 40) (by omega) (by decide)
theorem own_p2 (x : Int32) : ∃ q : Nat, q < 40 ∧ (((x.toUInt32 >>> ((8 : Int32) &&& 31).toUInt32).toInt32) &&& (255 : Int32)) % (40 : Int32) = Int32.ofNat q := own_p1 _
theorem own_p3 (x : Int32) : ∃ q : Nat, q < 40 ∧ (((x.toUInt32 >>> ((16 : Int32) &&& 31).toUInt32).toInt32) &&& (255 : Int32)) % (40 : Int32) = Int32.ofNat q := own_p1 _
def own_base : List Int32 := [97, 90, 48, 45, 122, 65, 57, 109, 97, 90, 48, 45, 122, 65, 57, 109, 97, 90, 48, 45, 122, 65, 57, 109, 97, 90, 48, 45, 122, 65, 57, 109, 97, 90, 48, 45, 122, 65, 57, 109]
theorem own_base_ok : ∀ i, i < 40 → own_v (own_base.getD i 0) = 1 := by decide +kernel
def own_b2 (x : Int32) : Int32 := (x.toInt8.toInt32).toInt8.toInt32
def own_gb (q1 q2 q3 : Nat) (x3 x4 x5 : Int32) (i : Nat) : Int32 := if i = q3 then own_b2 x5 else if i = q2 then own_b2 x4 else if i = q1 then own_b2 x3 else own_base.getD i 0
theorem own_glb (i : Nat) : gl (own_base.map (fun x => Value.int x.toInt8.toInt32)) (.int (0 : Int32)) i = .int (own_base.getD i 0) := by
  have h : ∀ i, i < 40 → own_base.getD i 0 = (own_base.getD i 0).toInt8.toInt32 := by decide +kernel
  simp only [gl, List.getD_eq_getElem?_getD, List.getElem?_map]
  by_cases q : i < 40
  · have e := h i q
    rw [List.getD_eq_getElem?_getD] at e
    have hl : i < own_base.length := q
    rw [List.getElem?_eq_getElem hl] at e ⊢
    simp only [Option.map_some, Option.getD_some] at e ⊢
    rw [← e]
  · rw [List.getElem?_eq_none (show own_base.length ≤ i from Nat.le_of_not_lt q)]; rfl
theorem own_gb_eq {q1 q2 q3 : Nat} {x3 x4 x5 : Int32} {i : Nat} (hi : i < 40) : upd (upd (upd (gl (own_base.map (fun x => Value.int x.toInt8.toInt32)) (.int (0 : Int32))) q1 (.int (x3.toInt8.toInt32).toInt8.toInt32)) q2 (.int (x4.toInt8.toInt32).toInt8.toInt32)) q3 (.int (x5.toInt8.toInt32).toInt8.toInt32) i = .int (own_gb q1 q2 q3 x3 x4 x5 i) := by
  unfold own_gb upd own_b2
  by_cases h3 : i = q3
  · rw [if_pos h3, if_pos h3]
  · rw [if_neg h3, if_neg h3]
    by_cases h2 : i = q2
    · rw [if_pos h2, if_pos h2]
    · rw [if_neg h2, if_neg h2]
      by_cases h1 : i = q1
      · rw [if_pos h1, if_pos h1]
      · rw [if_neg h1, if_neg h1]; exact own_glb i
theorem own_b2_ok (x : Int32) : own_ok (own_b2 x) = own_v (own_b2 x) := by
  have h : ∀ b : BitVec 8, own_ok (Int8.ofBitVec b).toInt32 = own_v (Int8.ofBitVec b).toInt32 := by decide +kernel
  exact h (x.toInt8.toInt32).toInt8.toBitVec
theorem own_v01 (x : Int32) : own_v x = 0 ∨ own_v x = 1 := by
  unfold own_v
  repeat' split
  all_goals first | exact Or.inl rfl | exact Or.inr rfl
theorem own_ok01 (x : Int32) : own_ok x = 0 ∨ own_ok x = 1 := by
  unfold own_ok
  repeat' split
  all_goals first | exact Or.inl rfl | exact Or.inr rfl
theorem own_inside1 {q s e : Nat} (hq : q < 2 ^ 31) (hs : s < 2 ^ 31) (he : e < 2 ^ 31) (h : s ≤ q ∧ q < e) : own_inside (Int32.ofNat q) (Int32.ofNat s) (Int32.ofNat e) = 1 := by
  unfold own_inside
  rw [if_neg (fun c => absurd ((own_lt hq hs).mp c) (by omega)), if_pos ((own_lt hq he).mpr h.2)]
theorem own_inside0 {q s e : Nat} (hq : q < 2 ^ 31) (hs : s < 2 ^ 31) (he : e < 2 ^ 31) (h : ¬ own_inside (Int32.ofNat q) (Int32.ofNat s) (Int32.ofNat e) = 0) : s ≤ q ∧ q < e := by
  unfold own_inside at h
  by_cases c : Int32.ofNat q < Int32.ofNat s
  · rw [if_pos c] at h; exact absurd rfl h
  · rw [if_neg c] at h
    by_cases d : Int32.ofNat q < Int32.ofNat e
    · rw [own_lt hq hs] at c; rw [own_lt hq he] at d; omega
    · rw [if_neg d] at h; exact absurd rfl h
theorem own_and1 {z : Int32} {P R : Prop} (h : (z = 1 ∧ P) ∨ (z = 0 ∧ ¬ P)) (r : R) : (z = 1 ∧ (P ∧ R)) ∨ (z = 0 ∧ ¬ (P ∧ R)) := by
  rcases h with ⟨a, b⟩ | ⟨a, b⟩
  · exact Or.inl ⟨a, b, r⟩
  · exact Or.inr ⟨a, fun c => b c.1⟩
theorem own_and0 {z : Int32} {P R : Prop} (h : (z = 1 ∧ P) ∨ (z = 0 ∧ ¬ P)) (r : ¬ R) : ((0 : Int32) = 1 ∧ (P ∧ R)) ∨ ((0 : Int32) = 0 ∧ ¬ (P ∧ R)) := Or.inr ⟨rfl, fun c => r c.2⟩
theorem own_join {q1 q2 q3 s0 ln : Nat} {x3 x4 x5 z : Int32} {v : Option Value}
    (hV : (v = some (.int (1 : Int32)) ∧ ¬ (s0 = s0 + ln) ∧ ¬ (32 < s0 + ln - s0) ∧ ∀ i, s0 ≤ i → i < s0 + ln → own_v (own_gb q1 q2 q3 x3 x4 x5 i) = 1) ∨ (v = some (.int (0 : Int32)) ∧ (s0 = s0 + ln ∨ 32 < s0 + ln - s0 ∨ ∃ i, s0 ≤ i ∧ i < s0 + ln ∧ own_v (own_gb q1 q2 q3 x3 x4 x5 i) = 0)))
    (hz : (z = 1 ∧ ((((1 ≤ ln ∧ ln ≤ 32) ∧ (s0 ≤ q1 ∧ q1 < s0 + ln → own_ok (own_gb q1 q2 q3 x3 x4 x5 q1) = 1)) ∧ (s0 ≤ q2 ∧ q2 < s0 + ln → own_ok (own_gb q1 q2 q3 x3 x4 x5 q2) = 1)) ∧ (s0 ≤ q3 ∧ q3 < s0 + ln → own_ok (own_gb q1 q2 q3 x3 x4 x5 q3) = 1))) ∨
      (z = 0 ∧ ¬ ((((1 ≤ ln ∧ ln ≤ 32) ∧ (s0 ≤ q1 ∧ q1 < s0 + ln → own_ok (own_gb q1 q2 q3 x3 x4 x5 q1) = 1)) ∧ (s0 ≤ q2 ∧ q2 < s0 + ln → own_ok (own_gb q1 q2 q3 x3 x4 x5 q2) = 1)) ∧ (s0 ≤ q3 ∧ q3 < s0 + ln → own_ok (own_gb q1 q2 q3 x3 x4 x5 q3) = 1))))
    (h1 : q1 < 40) (h2 : q2 < 40) (h3 : q3 < 40) (h40 : s0 + ln ≤ 40) : v = some (.int z) := by
  have hat : ∀ i, (i = q1 ∨ i = q2 ∨ i = q3) → own_ok (own_gb q1 q2 q3 x3 x4 x5 i) = own_v (own_gb q1 q2 q3 x3 x4 x5 i) := fun i h => by
    unfold own_gb
    by_cases c3 : i = q3
    · rw [if_pos c3]; exact own_b2_ok x5
    · rw [if_neg c3]
      by_cases c2 : i = q2
      · rw [if_pos c2]; exact own_b2_ok x4
      · rw [if_neg c2]
        by_cases c1 : i = q1
        · rw [if_pos c1]; exact own_b2_ok x3
        · exact absurd h (by simp [c1, c2, c3])
  have hother : ∀ i, i < 40 → ¬ i = q1 → ¬ i = q2 → ¬ i = q3 → own_v (own_gb q1 q2 q3 x3 x4 x5 i) = 1 := fun i hi c1 c2 c3 => by
    unfold own_gb
    rw [if_neg c3, if_neg c2, if_neg c1]
    exact own_base_ok i hi
  rcases hV with ⟨rfl, a, b, hall⟩ | ⟨rfl, hbad⟩
  · rcases hz with ⟨rfl, -⟩ | ⟨rfl, hn⟩
    · rfl
    · exact absurd ⟨⟨⟨⟨by omega, by omega⟩, fun c => by rw [hat q1 (Or.inl rfl)]; exact hall q1 c.1 c.2⟩, fun c => by rw [hat q2 (Or.inr (Or.inl rfl))]; exact hall q2 c.1 c.2⟩, fun c => by rw [hat q3 (Or.inr (Or.inr rfl))]; exact hall q3 c.1 c.2⟩ hn
  · rcases hz with ⟨rfl, ⟨⟨⟨⟨l1, l2⟩, k1⟩, k2⟩, k3⟩⟩ | ⟨rfl, -⟩
    · rcases hbad with c | c | ⟨i, i1, i2, i3⟩
      · omega
      · omega
      · have hv1 : own_v (own_gb q1 q2 q3 x3 x4 x5 i) = 1 := by
          by_cases c1 : i = q1
          · subst c1; rw [← hat i (Or.inl rfl)]; exact k1 ⟨i1, i2⟩
          · by_cases c2 : i = q2
            · subst c2; rw [← hat i (Or.inr (Or.inl rfl))]; exact k2 ⟨i1, i2⟩
            · by_cases c3 : i = q3
              · subst c3; rw [← hat i (Or.inr (Or.inr rfl))]; exact k3 ⟨i1, i2⟩
              · exact hother i (by omega) c1 c2 c3
        rw [hv1] at i3; exact absurd i3 (by decide)
    · rfl

theorem pn_com_example_clearwright_clearwright_model_TradeId : plainName "com/example/clearwright/clearwright/model/TradeId" = true := by first | (simp [plainName, overriddenIn]; done) | decide +kernel
theorem ef3 (m : MethodId) (y0 : Addr) (y1 : Int32) (y2 : Int32) : entryFrame m #[(.ref y0), (.int y1), (.int y2)] 5 = mkF m 0 #[.val (.ref y0), .val (.int y1), .val (.int y2), .unset, .unset] [] := by first | (simp [entryFrame, mkF, argsToLocals, Value.category]; done) | rfl
def Q3 (Z : State) (a1 : Addr) (g : Nat → Int32) (s0 : Nat) (e0 : Nat) (h0 : Heap) (n0 : Nat) (v : Option Value) (h : Heap) (L : List Loc) : Prop := ((v = some (.int (1 : Int32)) ∧ ¬ (s0 = e0) ∧ ¬ (32 < e0 - s0) ∧ ∀ i, s0 ≤ i → i < e0 → own_v (g i) = 1) ∨ (v = some (.int (0 : Int32)) ∧ (s0 = e0 ∨ 32 < e0 - s0 ∨ ∃ i, s0 ≤ i ∧ i < e0 ∧ own_v (g i) = 0))) ∧ Fr n0 L ∧ h = h0
set_option maxRecDepth 65536 in
set_option maxHeartbeats 40000000 in
theorem rm3 (l : Launch) (Z : State) (a0 : Array Value) (hw : ∀ d ∈ tables_1, d.before a0 Z = true) (ws : List Jvm.Cond) (a1 : Addr) (g : Nat → Int32) (s0 : Nat) (e0 : Nat) (h0 : Heap) (n0 : Nat) (Z0 : n0 ≤ h0.size) (V1 : LA Z h0 a1 .byte 40 (fun i => .int (g i))) (hs : s0 ≤ e0) (he : e0 ≤ 40) :
    MetFree l (⟨"com/example/clearwright/clearwright/model/TradeId", "isValid", "([BII)Z"⟩ : MethodName) (head1 (Jvm.Cond.code (⟨"com/example/clearwright/clearwright/model/TradeId", "isValid", "([BII)Z"⟩ : MethodName) prog_77_method_3_code 5 (some .boolean) :: ws) ({ frames := 0, cells := 0, slots := 0, locals := 0 } : Room)) (fun a U => a = #[(.ref a1), (.int (Int32.ofNat s0)), (.int (Int32.ofNat e0))] ∧ Z.Warmed39 U.vm ∧ U.heap = h0) (fun _ _ _ _ _ => True) (fun _ U o U' => ∃ v L, o = .returned v ∧ Q3 Z a1 g s0 e0 h0 n0 v U'.heap L ∧ FrameEnd U o U' L ({ frames := 0, cells := 0, slots := 0, locals := 0 } : Room).cells ({ frames := 0, cells := 0, slots := 0, locals := 0 } : Room).slots) := by
  refine MetFree.of_bodySF (plainFor_of_name pn_com_example_clearwright_clearwright_model_TradeId) hisR ?_
  intro p e s m args below meth c s₁ Bd hml0 hP hK
  obtain ⟨rfl, hZ, hh⟩ := hP
  have hx := Bd.exec
  have hby := Bd.bytes
  have hml : c.maxLocals = 5 := hml0
  have hown : s.vm.findClass "com/example/clearwright/clearwright/model/TradeId" = some m.cls := findClass_of_methodNamed Bd.named
  have hnm := (name_of_methodNamed Bd.named Bd.method).1
  have X0 : Stand p l e ({ frames := 0, cells := 0, slots := 0, locals := 0 } : Room) s m #[(.ref a1), (.int (Int32.ofNat s0)), (.int (Int32.ofNat e0))] below meth c s₁ [] 0 0 := Stand.of_body Bd
  have eh0 : s₁.heap = h0 := by rw [← hh, Bd.state]; rfl
  have N0 := Fr.nil n0
  refine Gq.start (Q := Q3 Z a1 g s0 e0 h0 n0) (kc := ({ frames := 0, cells := 0, slots := 0, locals := 0 } : Room).cells) (ks := ({ frames := 0, cells := 0, slots := 0, locals := 0 } : Room).slots) (ef3 m a1 (Int32.ofNat s0) (Int32.ofNat e0)) ?_
  refine Gq.go (s₁.setTop (mkF m 1 #[.val (.ref a1), .val (.int (Int32.ofNat s0)), .val (.int (Int32.ofNat e0)), .unset, .unset] [(.int (Int32.ofNat e0))])) (fun tt_ kk_ => XS.iloadN X0.here hx rfl (hb hby d3_0) rfl kk_) ?_
  refine Gq.go (s₁.setTop (mkF m 2 #[.val (.ref a1), .val (.int (Int32.ofNat s0)), .val (.int (Int32.ofNat e0)), .unset, .unset] [(.int (Int32.ofNat s0)), (.int (Int32.ofNat e0))])) (fun tt_ kk_ => XS.iloadN X0.here hx rfl (hb hby d3_1) rfl kk_) ?_
  by_cases hse : s0 = e0
  · refine Gq.go (s₁.setTop (mkF m 13 #[.val (.ref a1), .val (.int (Int32.ofNat s0)), .val (.int (Int32.ofNat e0)), .unset, .unset] [])) (fun tt_ kk_ => XS.icmpYes X0.here hx rfl (pc0 := 2) (pc' := 13) rfl (hb hby d3_2) rfl (teq (congrArg Int32.ofNat hse.symm)).1 (by decide) (by decide) kk_) ?_
    refine Gq.go (s₁.setTop (mkF m 14 #[.val (.ref a1), .val (.int (Int32.ofNat s0)), .val (.int (Int32.ofNat e0)), .unset, .unset] [(.int (0 : Int32))])) (fun tt_ kk_ => XS.iconst X0.here hx rfl (hb hby d3_13) kk_) ?_
    refine Gq.retI X0 hx Bd.notSynchronized Bd.returns (by simp) (hb hby d3_14) rfl (by decide) (by decide) ?_
    show Q3 Z a1 g s0 e0 h0 n0 _ s₁.heap _
    rw [eh0]
    exact ⟨Or.inr ⟨rfl, Or.inl hse⟩, N0, rfl⟩
  · refine Gq.go (s₁.setTop (mkF m 5 #[.val (.ref a1), .val (.int (Int32.ofNat s0)), .val (.int (Int32.ofNat e0)), .unset, .unset] [])) (fun tt_ kk_ => XS.icmpNo X0.here hx rfl (hb hby d3_2) rfl (feq (fun q => hse ((own_eqn (by omega) (by omega)).mp q).symm)).1 kk_) ?_
    refine Gq.go (s₁.setTop (mkF m 6 #[.val (.ref a1), .val (.int (Int32.ofNat s0)), .val (.int (Int32.ofNat e0)), .unset, .unset] [(.int (Int32.ofNat e0))])) (fun tt_ kk_ => XS.iloadN X0.here hx rfl (hb hby d3_5) rfl kk_) ?_
    refine Gq.go (s₁.setTop (mkF m 7 #[.val (.ref a1), .val (.int (Int32.ofNat s0)), .val (.int (Int32.ofNat e0)), .unset, .unset] [(.int (Int32.ofNat s0)), (.int (Int32.ofNat e0))])) (fun tt_ kk_ => XS.iloadN X0.here hx rfl (hb hby d3_6) rfl kk_) ?_
    refine Gq.go (s₁.setTop (mkF m 8 #[.val (.ref a1), .val (.int (Int32.ofNat s0)), .val (.int (Int32.ofNat e0)), .unset, .unset] [(.int ((Int32.ofNat e0) - (Int32.ofNat s0)))])) (fun tt_ kk_ => XS.isub X0.here hx rfl (hb hby d3_7) rfl kk_) ?_
    rw [show ((Int32.ofNat e0) - (Int32.ofNat s0)) = (Int32.ofNat (e0 - s0)) from own_sub hs]
    refine Gq.go (s₁.setTop (mkF m 10 #[.val (.ref a1), .val (.int (Int32.ofNat s0)), .val (.int (Int32.ofNat e0)), .unset, .unset] [(.int (32 : Int32)), (.int (Int32.ofNat (e0 - s0)))])) (fun tt_ kk_ => XS.bipush X0.here hx rfl (hb hby d3_8) kk_) ?_
    by_cases h32 : 32 < e0 - s0
    · refine Gq.go (s₁.setTop (mkF m 13 #[.val (.ref a1), .val (.int (Int32.ofNat s0)), .val (.int (Int32.ofNat e0)), .unset, .unset] [])) (fun tt_ kk_ => XS.icmpNo X0.here hx rfl (hb hby d3_10) rfl (tlt ((own_lt (a := 32) (by decide) (by omega)).mpr h32)).2.2.2 kk_) ?_
      refine Gq.go (s₁.setTop (mkF m 14 #[.val (.ref a1), .val (.int (Int32.ofNat s0)), .val (.int (Int32.ofNat e0)), .unset, .unset] [(.int (0 : Int32))])) (fun tt_ kk_ => XS.iconst X0.here hx rfl (hb hby d3_13) kk_) ?_
      refine Gq.retI X0 hx Bd.notSynchronized Bd.returns (by simp) (hb hby d3_14) rfl (by decide) (by decide) ?_
      show Q3 Z a1 g s0 e0 h0 n0 _ s₁.heap _
      rw [eh0]
      exact ⟨Or.inr ⟨rfl, Or.inr (Or.inl h32)⟩, N0, rfl⟩
    · refine Gq.go (s₁.setTop (mkF m 15 #[.val (.ref a1), .val (.int (Int32.ofNat s0)), .val (.int (Int32.ofNat e0)), .unset, .unset] [])) (fun tt_ kk_ => XS.icmpYes X0.here hx rfl (pc0 := 10) (pc' := 15) rfl (hb hby d3_10) rfl (flt (fun q => h32 ((own_lt (a := 32) (by decide) (by omega)).mp q))).2.2.2 (by decide) (by decide) kk_) ?_
      have loop : ∀ k i : Nat, i + k = e0 → s0 ≤ i → (∀ j, s0 ≤ j → j < i → own_v (g j) = 1) → ∀ sl : Slot, (sl = .unset ∨ ∃ y : Int32, sl = .val (.int y)) → Gq p.tables e below s (Q3 Z a1 g s0 e0 h0 n0) ({ frames := 0, cells := 0, slots := 0, locals := 0 } : Room).cells ({ frames := 0, cells := 0, slots := 0, locals := 0 } : Room).slots (s₁.setTop (mkF m 17 #[.val (.ref a1), .val (.int (Int32.ofNat s0)), .val (.int (Int32.ofNat e0)), .val (.int (Int32.ofNat i)), sl] [])) := by
        intro k
        induction k with
        | zero =>
          intro i hi hsi hall sl hsl
          have hie : e0 = i := by omega
          subst hie
          refine Gq.go (s₁.setTop (mkF m 18 #[.val (.ref a1), .val (.int (Int32.ofNat s0)), .val (.int (Int32.ofNat e0)), .val (.int (Int32.ofNat e0)), sl] [(.int (Int32.ofNat e0))])) (fun tt_ kk_ => XS.iloadN X0.here hx rfl (hb hby d3_17) rfl kk_) ?_
          refine Gq.go (s₁.setTop (mkF m 19 #[.val (.ref a1), .val (.int (Int32.ofNat s0)), .val (.int (Int32.ofNat e0)), .val (.int (Int32.ofNat e0)), sl] [(.int (Int32.ofNat e0)), (.int (Int32.ofNat e0))])) (fun tt_ kk_ => XS.iloadN X0.here hx rfl (hb hby d3_18) rfl kk_) ?_
          refine Gq.go (s₁.setTop (mkF m 84 #[.val (.ref a1), .val (.int (Int32.ofNat s0)), .val (.int (Int32.ofNat e0)), .val (.int (Int32.ofNat e0)), sl] [])) (fun tt_ kk_ => XS.icmpYes X0.here hx rfl (pc0 := 19) (pc' := 84) rfl (hb hby d3_19) rfl (flt (fun q => absurd ((own_lt (by omega) (by omega)).mp q) (by omega))).2.1 (by decide) (by decide) kk_) ?_
          refine Gq.go (s₁.setTop (mkF m 85 #[.val (.ref a1), .val (.int (Int32.ofNat s0)), .val (.int (Int32.ofNat e0)), .val (.int (Int32.ofNat e0)), sl] [(.int (1 : Int32))])) (fun tt_ kk_ => XS.iconst X0.here hx rfl (hb hby d3_84) kk_) ?_
          refine Gq.retI X0 hx Bd.notSynchronized Bd.returns (by simp) (hb hby d3_85) rfl (by decide) (by decide) ?_
          show Q3 Z a1 g s0 e0 h0 n0 _ s₁.heap _
          rw [eh0]
          exact ⟨Or.inl ⟨rfl, hse, h32, hall⟩, N0, rfl⟩
        | succ k ih =>
          intro i hi hsi hall sl hsl
          have hst : storeLocals #[.val (.ref a1), .val (.int (Int32.ofNat s0)), .val (.int (Int32.ofNat e0)), .val (.int (Int32.ofNat i)), sl] 4 (.int (g i)) = some #[.val (.ref a1), .val (.int (Int32.ofNat s0)), .val (.int (Int32.ofNat e0)), .val (.int (Int32.ofNat i)), .val (.int (g i))] := by rcases hsl with rfl | ⟨y, rfl⟩ <;> rfl
          refine Gq.go (s₁.setTop (mkF m 18 #[.val (.ref a1), .val (.int (Int32.ofNat s0)), .val (.int (Int32.ofNat e0)), .val (.int (Int32.ofNat i)), sl] [(.int (Int32.ofNat i))])) (fun tt_ kk_ => XS.iloadN X0.here hx rfl (hb hby d3_17) rfl kk_) ?_
          refine Gq.go (s₁.setTop (mkF m 19 #[.val (.ref a1), .val (.int (Int32.ofNat s0)), .val (.int (Int32.ofNat e0)), .val (.int (Int32.ofNat i)), sl] [(.int (Int32.ofNat e0)), (.int (Int32.ofNat i))])) (fun tt_ kk_ => XS.iloadN X0.here hx rfl (hb hby d3_18) rfl kk_) ?_
          refine Gq.go (s₁.setTop (mkF m 22 #[.val (.ref a1), .val (.int (Int32.ofNat s0)), .val (.int (Int32.ofNat e0)), .val (.int (Int32.ofNat i)), sl] [])) (fun tt_ kk_ => XS.icmpNo X0.here hx rfl (hb hby d3_19) rfl (tlt ((own_lt (by omega) (by omega)).mpr (by omega))).2.1 kk_) ?_
          refine Gq.go (s₁.setTop (mkF m 23 #[.val (.ref a1), .val (.int (Int32.ofNat s0)), .val (.int (Int32.ofNat e0)), .val (.int (Int32.ofNat i)), sl] [(.ref a1)])) (fun tt_ kk_ => XS.aloadN X0.here hx rfl (hb hby d3_22) rfl rfl kk_) ?_
          refine Gq.go (s₁.setTop (mkF m 24 #[.val (.ref a1), .val (.int (Int32.ofNat s0)), .val (.int (Int32.ofNat e0)), .val (.int (Int32.ofNat i)), sl] [(.int (Int32.ofNat i)), (.ref a1)])) (fun tt_ kk_ => XS.iloadN X0.here hx rfl (hb hby d3_23) rfl kk_) ?_
          refine Gq.go (s₁.setTop (mkF m 25 #[.val (.ref a1), .val (.int (Int32.ofNat s0)), .val (.int (Int32.ofNat e0)), .val (.int (Int32.ofNat i)), sl] [(.int (g i))])) (fun tt_ kk_ => ldB X0 hx hZ eh0 V1 (j := (Int32.ofNat i)) (i := i) (x := (g i)) (own_nn (by omega)) (own_nc (by omega)) (by omega) rfl (hb hby d3_24) tt_ kk_) ?_
          refine Gq.go (s₁.setTop (mkF m 27 #[.val (.ref a1), .val (.int (Int32.ofNat s0)), .val (.int (Int32.ofNat e0)), .val (.int (Int32.ofNat i)), .val (.int (g i))] [])) (fun tt_ kk_ => XS.istore X0.here hx rfl (hb hby d3_25) rfl (l' := #[.val (.ref a1), .val (.int (Int32.ofNat s0)), .val (.int (Int32.ofNat e0)), .val (.int (Int32.ofNat i)), .val (.int (g i))]) hst kk_) ?_
          have Kgood : own_v (g i) = 1 → Gq p.tables e below s (Q3 Z a1 g s0 e0 h0 n0) ({ frames := 0, cells := 0, slots := 0, locals := 0 } : Room).cells ({ frames := 0, cells := 0, slots := 0, locals := 0 } : Room).slots (s₁.setTop (mkF m 78 #[.val (.ref a1), .val (.int (Int32.ofNat s0)), .val (.int (Int32.ofNat e0)), .val (.int (Int32.ofNat i)), .val (.int (g i))] [])) := by
            intro hg
            refine Gq.go (s₁.setTop (mkF m 81 #[.val (.ref a1), .val (.int (Int32.ofNat s0)), .val (.int (Int32.ofNat e0)), .val (.int ((Int32.ofNat i) + (1 : Int32))), .val (.int (g i))] [])) (fun tt_ kk_ => XS.iinc X0.here hx rfl (hb hby d3_78) rfl (l' := #[.val (.ref a1), .val (.int (Int32.ofNat s0)), .val (.int (Int32.ofNat e0)), .val (.int ((Int32.ofNat i) + (1 : Int32))), .val (.int (g i))]) rfl kk_) ?_
            rw [show ((Int32.ofNat i) + (1 : Int32)) = Int32.ofNat (i + 1) from own_add i 1]
            refine Gq.go (s₁.setTop (mkF m 17 #[.val (.ref a1), .val (.int (Int32.ofNat s0)), .val (.int (Int32.ofNat e0)), .val (.int (Int32.ofNat (i + 1))), .val (.int (g i))] [])) (fun tt_ kk_ => XS.goto X0.here hx rfl (pc0 := 81) (pc' := 17) rfl (hb hby d3_81) (by decide) (by decide) kk_) ?_
            exact ih (i + 1) (by omega) (by omega) (own_ext hall hg) _ (Or.inr ⟨_, rfl⟩)
          have Kbad : own_v (g i) = 0 → Gq p.tables e below s (Q3 Z a1 g s0 e0 h0 n0) ({ frames := 0, cells := 0, slots := 0, locals := 0 } : Room).cells ({ frames := 0, cells := 0, slots := 0, locals := 0 } : Room).slots (s₁.setTop (mkF m 76 #[.val (.ref a1), .val (.int (Int32.ofNat s0)), .val (.int (Int32.ofNat e0)), .val (.int (Int32.ofNat i)), .val (.int (g i))] [])) := by
            intro hg
            refine Gq.go (s₁.setTop (mkF m 77 #[.val (.ref a1), .val (.int (Int32.ofNat s0)), .val (.int (Int32.ofNat e0)), .val (.int (Int32.ofNat i)), .val (.int (g i))] [(.int (0 : Int32))])) (fun tt_ kk_ => XS.iconst X0.here hx rfl (hb hby d3_76) kk_) ?_
            refine Gq.retI X0 hx Bd.notSynchronized Bd.returns (by simp) (hb hby d3_77) rfl (by decide) (by decide) ?_
            show Q3 Z a1 g s0 e0 h0 n0 _ s₁.heap _
            rw [eh0]
            exact ⟨Or.inr ⟨rfl, Or.inr (Or.inr ⟨i, hsi, by omega, hg⟩)⟩, N0, rfl⟩
          refine Gq.go (s₁.setTop (mkF m 29 #[.val (.ref a1), .val (.int (Int32.ofNat s0)), .val (.int (Int32.ofNat e0)), .val (.int (Int32.ofNat i)), .val (.int (g i))] [(.int (g i))])) (fun tt_ kk_ => XS.iload X0.here hx rfl (hb hby d3_27) rfl kk_) ?_
          refine Gq.go (s₁.setTop (mkF m 31 #[.val (.ref a1), .val (.int (Int32.ofNat s0)), .val (.int (Int32.ofNat e0)), .val (.int (Int32.ofNat i)), .val (.int (g i))] [(.int (65 : Int32)), (.int (g i))])) (fun tt_ kk_ => XS.bipush X0.here hx rfl (hb hby d3_29) kk_) ?_
          by_cases c31_1 : (g i) < (65 : Int32)
          · refine Gq.go (s₁.setTop (mkF m 41 #[.val (.ref a1), .val (.int (Int32.ofNat s0)), .val (.int (Int32.ofNat e0)), .val (.int (Int32.ofNat i)), .val (.int (g i))] [])) (fun tt_ kk_ => XS.icmpYes X0.here hx rfl (pc0 := 31) (pc' := 41) rfl (hb hby d3_31) rfl (tlt c31_1).1 (by decide) (by decide) kk_) ?_
            refine Gq.go (s₁.setTop (mkF m 43 #[.val (.ref a1), .val (.int (Int32.ofNat s0)), .val (.int (Int32.ofNat e0)), .val (.int (Int32.ofNat i)), .val (.int (g i))] [(.int (g i))])) (fun tt_ kk_ => XS.iload X0.here hx rfl (hb hby d3_41) rfl kk_) ?_
            refine Gq.go (s₁.setTop (mkF m 45 #[.val (.ref a1), .val (.int (Int32.ofNat s0)), .val (.int (Int32.ofNat e0)), .val (.int (Int32.ofNat i)), .val (.int (g i))] [(.int (97 : Int32)), (.int (g i))])) (fun tt_ kk_ => XS.bipush X0.here hx rfl (hb hby d3_43) kk_) ?_
            by_cases c45_2 : (g i) < (97 : Int32)
            · refine Gq.go (s₁.setTop (mkF m 55 #[.val (.ref a1), .val (.int (Int32.ofNat s0)), .val (.int (Int32.ofNat e0)), .val (.int (Int32.ofNat i)), .val (.int (g i))] [])) (fun tt_ kk_ => XS.icmpYes X0.here hx rfl (pc0 := 45) (pc' := 55) rfl (hb hby d3_45) rfl (tlt c45_2).1 (by decide) (by decide) kk_) ?_
              refine Gq.go (s₁.setTop (mkF m 57 #[.val (.ref a1), .val (.int (Int32.ofNat s0)), .val (.int (Int32.ofNat e0)), .val (.int (Int32.ofNat i)), .val (.int (g i))] [(.int (g i))])) (fun tt_ kk_ => XS.iload X0.here hx rfl (hb hby d3_55) rfl kk_) ?_
              refine Gq.go (s₁.setTop (mkF m 59 #[.val (.ref a1), .val (.int (Int32.ofNat s0)), .val (.int (Int32.ofNat e0)), .val (.int (Int32.ofNat i)), .val (.int (g i))] [(.int (48 : Int32)), (.int (g i))])) (fun tt_ kk_ => XS.bipush X0.here hx rfl (hb hby d3_57) kk_) ?_
              by_cases c59_3 : (g i) < (48 : Int32)
              · refine Gq.go (s₁.setTop (mkF m 69 #[.val (.ref a1), .val (.int (Int32.ofNat s0)), .val (.int (Int32.ofNat e0)), .val (.int (Int32.ofNat i)), .val (.int (g i))] [])) (fun tt_ kk_ => XS.icmpYes X0.here hx rfl (pc0 := 59) (pc' := 69) rfl (hb hby d3_59) rfl (tlt c59_3).1 (by decide) (by decide) kk_) ?_
                refine Gq.go (s₁.setTop (mkF m 71 #[.val (.ref a1), .val (.int (Int32.ofNat s0)), .val (.int (Int32.ofNat e0)), .val (.int (Int32.ofNat i)), .val (.int (g i))] [(.int (g i))])) (fun tt_ kk_ => XS.iload X0.here hx rfl (hb hby d3_69) rfl kk_) ?_
                refine Gq.go (s₁.setTop (mkF m 73 #[.val (.ref a1), .val (.int (Int32.ofNat s0)), .val (.int (Int32.ofNat e0)), .val (.int (Int32.ofNat i)), .val (.int (g i))] [(.int (45 : Int32)), (.int (g i))])) (fun tt_ kk_ => XS.bipush X0.here hx rfl (hb hby d3_71) kk_) ?_
                by_cases c73_4 : (g i) = (45 : Int32)
                · refine Gq.go (s₁.setTop (mkF m 78 #[.val (.ref a1), .val (.int (Int32.ofNat s0)), .val (.int (Int32.ofNat e0)), .val (.int (Int32.ofNat i)), .val (.int (g i))] [])) (fun tt_ kk_ => XS.icmpYes X0.here hx rfl (pc0 := 73) (pc' := 78) rfl (hb hby d3_73) rfl (teq c73_4).1 (by decide) (by decide) kk_) ?_
                  exact Kgood (by unfold own_v; rw [if_pos c31_1, if_pos c45_2, if_pos c59_3, if_pos c73_4])
                · refine Gq.go (s₁.setTop (mkF m 76 #[.val (.ref a1), .val (.int (Int32.ofNat s0)), .val (.int (Int32.ofNat e0)), .val (.int (Int32.ofNat i)), .val (.int (g i))] [])) (fun tt_ kk_ => XS.icmpNo X0.here hx rfl (hb hby d3_73) rfl (feq c73_4).1 kk_) ?_
                  exact Kbad (by unfold own_v; rw [if_pos c31_1, if_pos c45_2, if_pos c59_3, if_neg c73_4])
              · refine Gq.go (s₁.setTop (mkF m 62 #[.val (.ref a1), .val (.int (Int32.ofNat s0)), .val (.int (Int32.ofNat e0)), .val (.int (Int32.ofNat i)), .val (.int (g i))] [])) (fun tt_ kk_ => XS.icmpNo X0.here hx rfl (hb hby d3_59) rfl (flt c59_3).1 kk_) ?_
                refine Gq.go (s₁.setTop (mkF m 64 #[.val (.ref a1), .val (.int (Int32.ofNat s0)), .val (.int (Int32.ofNat e0)), .val (.int (Int32.ofNat i)), .val (.int (g i))] [(.int (g i))])) (fun tt_ kk_ => XS.iload X0.here hx rfl (hb hby d3_62) rfl kk_) ?_
                refine Gq.go (s₁.setTop (mkF m 66 #[.val (.ref a1), .val (.int (Int32.ofNat s0)), .val (.int (Int32.ofNat e0)), .val (.int (Int32.ofNat i)), .val (.int (g i))] [(.int (57 : Int32)), (.int (g i))])) (fun tt_ kk_ => XS.bipush X0.here hx rfl (hb hby d3_64) kk_) ?_
                by_cases c66_5 : (57 : Int32) < (g i)
                · refine Gq.go (s₁.setTop (mkF m 69 #[.val (.ref a1), .val (.int (Int32.ofNat s0)), .val (.int (Int32.ofNat e0)), .val (.int (Int32.ofNat i)), .val (.int (g i))] [])) (fun tt_ kk_ => XS.icmpNo X0.here hx rfl (hb hby d3_66) rfl (tlt c66_5).2.2.2 kk_) ?_
                  refine Gq.go (s₁.setTop (mkF m 71 #[.val (.ref a1), .val (.int (Int32.ofNat s0)), .val (.int (Int32.ofNat e0)), .val (.int (Int32.ofNat i)), .val (.int (g i))] [(.int (g i))])) (fun tt_ kk_ => XS.iload X0.here hx rfl (hb hby d3_69) rfl kk_) ?_
                  refine Gq.go (s₁.setTop (mkF m 73 #[.val (.ref a1), .val (.int (Int32.ofNat s0)), .val (.int (Int32.ofNat e0)), .val (.int (Int32.ofNat i)), .val (.int (g i))] [(.int (45 : Int32)), (.int (g i))])) (fun tt_ kk_ => XS.bipush X0.here hx rfl (hb hby d3_71) kk_) ?_
                  by_cases c73_6 : (g i) = (45 : Int32)
                  · refine Gq.go (s₁.setTop (mkF m 78 #[.val (.ref a1), .val (.int (Int32.ofNat s0)), .val (.int (Int32.ofNat e0)), .val (.int (Int32.ofNat i)), .val (.int (g i))] [])) (fun tt_ kk_ => XS.icmpYes X0.here hx rfl (pc0 := 73) (pc' := 78) rfl (hb hby d3_73) rfl (teq c73_6).1 (by decide) (by decide) kk_) ?_
                    exact Kgood (by unfold own_v; rw [if_pos c31_1, if_pos c45_2, if_neg c59_3, if_pos c66_5, if_pos c73_6])
                  · refine Gq.go (s₁.setTop (mkF m 76 #[.val (.ref a1), .val (.int (Int32.ofNat s0)), .val (.int (Int32.ofNat e0)), .val (.int (Int32.ofNat i)), .val (.int (g i))] [])) (fun tt_ kk_ => XS.icmpNo X0.here hx rfl (hb hby d3_73) rfl (feq c73_6).1 kk_) ?_
                    exact Kbad (by unfold own_v; rw [if_pos c31_1, if_pos c45_2, if_neg c59_3, if_pos c66_5, if_neg c73_6])
                · refine Gq.go (s₁.setTop (mkF m 78 #[.val (.ref a1), .val (.int (Int32.ofNat s0)), .val (.int (Int32.ofNat e0)), .val (.int (Int32.ofNat i)), .val (.int (g i))] [])) (fun tt_ kk_ => XS.icmpYes X0.here hx rfl (pc0 := 66) (pc' := 78) rfl (hb hby d3_66) rfl (flt c66_5).2.2.2 (by decide) (by decide) kk_) ?_
                  exact Kgood (by unfold own_v; rw [if_pos c31_1, if_pos c45_2, if_neg c59_3, if_neg c66_5])
            · refine Gq.go (s₁.setTop (mkF m 48 #[.val (.ref a1), .val (.int (Int32.ofNat s0)), .val (.int (Int32.ofNat e0)), .val (.int (Int32.ofNat i)), .val (.int (g i))] [])) (fun tt_ kk_ => XS.icmpNo X0.here hx rfl (hb hby d3_45) rfl (flt c45_2).1 kk_) ?_
              refine Gq.go (s₁.setTop (mkF m 50 #[.val (.ref a1), .val (.int (Int32.ofNat s0)), .val (.int (Int32.ofNat e0)), .val (.int (Int32.ofNat i)), .val (.int (g i))] [(.int (g i))])) (fun tt_ kk_ => XS.iload X0.here hx rfl (hb hby d3_48) rfl kk_) ?_
              refine Gq.go (s₁.setTop (mkF m 52 #[.val (.ref a1), .val (.int (Int32.ofNat s0)), .val (.int (Int32.ofNat e0)), .val (.int (Int32.ofNat i)), .val (.int (g i))] [(.int (122 : Int32)), (.int (g i))])) (fun tt_ kk_ => XS.bipush X0.here hx rfl (hb hby d3_50) kk_) ?_
              by_cases c52_7 : (122 : Int32) < (g i)
              · refine Gq.go (s₁.setTop (mkF m 55 #[.val (.ref a1), .val (.int (Int32.ofNat s0)), .val (.int (Int32.ofNat e0)), .val (.int (Int32.ofNat i)), .val (.int (g i))] [])) (fun tt_ kk_ => XS.icmpNo X0.here hx rfl (hb hby d3_52) rfl (tlt c52_7).2.2.2 kk_) ?_
                refine Gq.go (s₁.setTop (mkF m 57 #[.val (.ref a1), .val (.int (Int32.ofNat s0)), .val (.int (Int32.ofNat e0)), .val (.int (Int32.ofNat i)), .val (.int (g i))] [(.int (g i))])) (fun tt_ kk_ => XS.iload X0.here hx rfl (hb hby d3_55) rfl kk_) ?_
                refine Gq.go (s₁.setTop (mkF m 59 #[.val (.ref a1), .val (.int (Int32.ofNat s0)), .val (.int (Int32.ofNat e0)), .val (.int (Int32.ofNat i)), .val (.int (g i))] [(.int (48 : Int32)), (.int (g i))])) (fun tt_ kk_ => XS.bipush X0.here hx rfl (hb hby d3_57) kk_) ?_
                by_cases c59_8 : (g i) < (48 : Int32)
                · refine Gq.go (s₁.setTop (mkF m 69 #[.val (.ref a1), .val (.int (Int32.ofNat s0)), .val (.int (Int32.ofNat e0)), .val (.int (Int32.ofNat i)), .val (.int (g i))] [])) (fun tt_ kk_ => XS.icmpYes X0.here hx rfl (pc0 := 59) (pc' := 69) rfl (hb hby d3_59) rfl (tlt c59_8).1 (by decide) (by decide) kk_) ?_
                  refine Gq.go (s₁.setTop (mkF m 71 #[.val (.ref a1), .val (.int (Int32.ofNat s0)), .val (.int (Int32.ofNat e0)), .val (.int (Int32.ofNat i)), .val (.int (g i))] [(.int (g i))])) (fun tt_ kk_ => XS.iload X0.here hx rfl (hb hby d3_69) rfl kk_) ?_
                  refine Gq.go (s₁.setTop (mkF m 73 #[.val (.ref a1), .val (.int (Int32.ofNat s0)), .val (.int (Int32.ofNat e0)), .val (.int (Int32.ofNat i)), .val (.int (g i))] [(.int (45 : Int32)), (.int (g i))])) (fun tt_ kk_ => XS.bipush X0.here hx rfl (hb hby d3_71) kk_) ?_
                  by_cases c73_9 : (g i) = (45 : Int32)
                  · refine Gq.go (s₁.setTop (mkF m 78 #[.val (.ref a1), .val (.int (Int32.ofNat s0)), .val (.int (Int32.ofNat e0)), .val (.int (Int32.ofNat i)), .val (.int (g i))] [])) (fun tt_ kk_ => XS.icmpYes X0.here hx rfl (pc0 := 73) (pc' := 78) rfl (hb hby d3_73) rfl (teq c73_9).1 (by decide) (by decide) kk_) ?_
                    exact Kgood (by unfold own_v; rw [if_pos c31_1, if_neg c45_2, if_pos c52_7, if_pos c59_8, if_pos c73_9])
                  · refine Gq.go (s₁.setTop (mkF m 76 #[.val (.ref a1), .val (.int (Int32.ofNat s0)), .val (.int (Int32.ofNat e0)), .val (.int (Int32.ofNat i)), .val (.int (g i))] [])) (fun tt_ kk_ => XS.icmpNo X0.here hx rfl (hb hby d3_73) rfl (feq c73_9).1 kk_) ?_
                    exact Kbad (by unfold own_v; rw [if_pos c31_1, if_neg c45_2, if_pos c52_7, if_pos c59_8, if_neg c73_9])
                · refine Gq.go (s₁.setTop (mkF m 62 #[.val (.ref a1), .val (.int (Int32.ofNat s0)), .val (.int (Int32.ofNat e0)), .val (.int (Int32.ofNat i)), .val (.int (g i))] [])) (fun tt_ kk_ => XS.icmpNo X0.here hx rfl (hb hby d3_59) rfl (flt c59_8).1 kk_) ?_
                  refine Gq.go (s₁.setTop (mkF m 64 #[.val (.ref a1), .val (.int (Int32.ofNat s0)), .val (.int (Int32.ofNat e0)), .val (.int (Int32.ofNat i)), .val (.int (g i))] [(.int (g i))])) (fun tt_ kk_ => XS.iload X0.here hx rfl (hb hby d3_62) rfl kk_) ?_
                  refine Gq.go (s₁.setTop (mkF m 66 #[.val (.ref a1), .val (.int (Int32.ofNat s0)), .val (.int (Int32.ofNat e0)), .val (.int (Int32.ofNat i)), .val (.int (g i))] [(.int (57 : Int32)), (.int (g i))])) (fun tt_ kk_ => XS.bipush X0.here hx rfl (hb hby d3_64) kk_) ?_
                  by_cases c66_10 : (57 : Int32) < (g i)
                  · refine Gq.go (s₁.setTop (mkF m 69 #[.val (.ref a1), .val (.int (Int32.ofNat s0)), .val (.int (Int32.ofNat e0)), .val (.int (Int32.ofNat i)), .val (.int (g i))] [])) (fun tt_ kk_ => XS.icmpNo X0.here hx rfl (hb hby d3_66) rfl (tlt c66_10).2.2.2 kk_) ?_
                    refine Gq.go (s₁.setTop (mkF m 71 #[.val (.ref a1), .val (.int (Int32.ofNat s0)), .val (.int (Int32.ofNat e0)), .val (.int (Int32.ofNat i)), .val (.int (g i))] [(.int (g i))])) (fun tt_ kk_ => XS.iload X0.here hx rfl (hb hby d3_69) rfl kk_) ?_
                    refine Gq.go (s₁.setTop (mkF m 73 #[.val (.ref a1), .val (.int (Int32.ofNat s0)), .val (.int (Int32.ofNat e0)), .val (.int (Int32.ofNat i)), .val (.int (g i))] [(.int (45 : Int32)), (.int (g i))])) (fun tt_ kk_ => XS.bipush X0.here hx rfl (hb hby d3_71) kk_) ?_
                    by_cases c73_11 : (g i) = (45 : Int32)
                    · refine Gq.go (s₁.setTop (mkF m 78 #[.val (.ref a1), .val (.int (Int32.ofNat s0)), .val (.int (Int32.ofNat e0)), .val (.int (Int32.ofNat i)), .val (.int (g i))] [])) (fun tt_ kk_ => XS.icmpYes X0.here hx rfl (pc0 := 73) (pc' := 78) rfl (hb hby d3_73) rfl (teq c73_11).1 (by decide) (by decide) kk_) ?_
                      exact Kgood (by unfold own_v; rw [if_pos c31_1, if_neg c45_2, if_pos c52_7, if_neg c59_8, if_pos c66_10, if_pos c73_11])
                    · refine Gq.go (s₁.setTop (mkF m 76 #[.val (.ref a1), .val (.int (Int32.ofNat s0)), .val (.int (Int32.ofNat e0)), .val (.int (Int32.ofNat i)), .val (.int (g i))] [])) (fun tt_ kk_ => XS.icmpNo X0.here hx rfl (hb hby d3_73) rfl (feq c73_11).1 kk_) ?_
                      exact Kbad (by unfold own_v; rw [if_pos c31_1, if_neg c45_2, if_pos c52_7, if_neg c59_8, if_pos c66_10, if_neg c73_11])
                  · refine Gq.go (s₁.setTop (mkF m 78 #[.val (.ref a1), .val (.int (Int32.ofNat s0)), .val (.int (Int32.ofNat e0)), .val (.int (Int32.ofNat i)), .val (.int (g i))] [])) (fun tt_ kk_ => XS.icmpYes X0.here hx rfl (pc0 := 66) (pc' := 78) rfl (hb hby d3_66) rfl (flt c66_10).2.2.2 (by decide) (by decide) kk_) ?_
                    exact Kgood (by unfold own_v; rw [if_pos c31_1, if_neg c45_2, if_pos c52_7, if_neg c59_8, if_neg c66_10])
              · refine Gq.go (s₁.setTop (mkF m 78 #[.val (.ref a1), .val (.int (Int32.ofNat s0)), .val (.int (Int32.ofNat e0)), .val (.int (Int32.ofNat i)), .val (.int (g i))] [])) (fun tt_ kk_ => XS.icmpYes X0.here hx rfl (pc0 := 52) (pc' := 78) rfl (hb hby d3_52) rfl (flt c52_7).2.2.2 (by decide) (by decide) kk_) ?_
                exact Kgood (by unfold own_v; rw [if_pos c31_1, if_neg c45_2, if_neg c52_7])
          · refine Gq.go (s₁.setTop (mkF m 34 #[.val (.ref a1), .val (.int (Int32.ofNat s0)), .val (.int (Int32.ofNat e0)), .val (.int (Int32.ofNat i)), .val (.int (g i))] [])) (fun tt_ kk_ => XS.icmpNo X0.here hx rfl (hb hby d3_31) rfl (flt c31_1).1 kk_) ?_
            refine Gq.go (s₁.setTop (mkF m 36 #[.val (.ref a1), .val (.int (Int32.ofNat s0)), .val (.int (Int32.ofNat e0)), .val (.int (Int32.ofNat i)), .val (.int (g i))] [(.int (g i))])) (fun tt_ kk_ => XS.iload X0.here hx rfl (hb hby d3_34) rfl kk_) ?_
            refine Gq.go (s₁.setTop (mkF m 38 #[.val (.ref a1), .val (.int (Int32.ofNat s0)), .val (.int (Int32.ofNat e0)), .val (.int (Int32.ofNat i)), .val (.int (g i))] [(.int (90 : Int32)), (.int (g i))])) (fun tt_ kk_ => XS.bipush X0.here hx rfl (hb hby d3_36) kk_) ?_
            by_cases c38_12 : (90 : Int32) < (g i)
            · refine Gq.go (s₁.setTop (mkF m 41 #[.val (.ref a1), .val (.int (Int32.ofNat s0)), .val (.int (Int32.ofNat e0)), .val (.int (Int32.ofNat i)), .val (.int (g i))] [])) (fun tt_ kk_ => XS.icmpNo X0.here hx rfl (hb hby d3_38) rfl (tlt c38_12).2.2.2 kk_) ?_
              refine Gq.go (s₁.setTop (mkF m 43 #[.val (.ref a1), .val (.int (Int32.ofNat s0)), .val (.int (Int32.ofNat e0)), .val (.int (Int32.ofNat i)), .val (.int (g i))] [(.int (g i))])) (fun tt_ kk_ => XS.iload X0.here hx rfl (hb hby d3_41) rfl kk_) ?_
              refine Gq.go (s₁.setTop (mkF m 45 #[.val (.ref a1), .val (.int (Int32.ofNat s0)), .val (.int (Int32.ofNat e0)), .val (.int (Int32.ofNat i)), .val (.int (g i))] [(.int (97 : Int32)), (.int (g i))])) (fun tt_ kk_ => XS.bipush X0.here hx rfl (hb hby d3_43) kk_) ?_
              by_cases c45_13 : (g i) < (97 : Int32)
              · refine Gq.go (s₁.setTop (mkF m 55 #[.val (.ref a1), .val (.int (Int32.ofNat s0)), .val (.int (Int32.ofNat e0)), .val (.int (Int32.ofNat i)), .val (.int (g i))] [])) (fun tt_ kk_ => XS.icmpYes X0.here hx rfl (pc0 := 45) (pc' := 55) rfl (hb hby d3_45) rfl (tlt c45_13).1 (by decide) (by decide) kk_) ?_
                refine Gq.go (s₁.setTop (mkF m 57 #[.val (.ref a1), .val (.int (Int32.ofNat s0)), .val (.int (Int32.ofNat e0)), .val (.int (Int32.ofNat i)), .val (.int (g i))] [(.int (g i))])) (fun tt_ kk_ => XS.iload X0.here hx rfl (hb hby d3_55) rfl kk_) ?_
                refine Gq.go (s₁.setTop (mkF m 59 #[.val (.ref a1), .val (.int (Int32.ofNat s0)), .val (.int (Int32.ofNat e0)), .val (.int (Int32.ofNat i)), .val (.int (g i))] [(.int (48 : Int32)), (.int (g i))])) (fun tt_ kk_ => XS.bipush X0.here hx rfl (hb hby d3_57) kk_) ?_
                by_cases c59_14 : (g i) < (48 : Int32)
                · refine Gq.go (s₁.setTop (mkF m 69 #[.val (.ref a1), .val (.int (Int32.ofNat s0)), .val (.int (Int32.ofNat e0)), .val (.int (Int32.ofNat i)), .val (.int (g i))] [])) (fun tt_ kk_ => XS.icmpYes X0.here hx rfl (pc0 := 59) (pc' := 69) rfl (hb hby d3_59) rfl (tlt c59_14).1 (by decide) (by decide) kk_) ?_
                  refine Gq.go (s₁.setTop (mkF m 71 #[.val (.ref a1), .val (.int (Int32.ofNat s0)), .val (.int (Int32.ofNat e0)), .val (.int (Int32.ofNat i)), .val (.int (g i))] [(.int (g i))])) (fun tt_ kk_ => XS.iload X0.here hx rfl (hb hby d3_69) rfl kk_) ?_
                  refine Gq.go (s₁.setTop (mkF m 73 #[.val (.ref a1), .val (.int (Int32.ofNat s0)), .val (.int (Int32.ofNat e0)), .val (.int (Int32.ofNat i)), .val (.int (g i))] [(.int (45 : Int32)), (.int (g i))])) (fun tt_ kk_ => XS.bipush X0.here hx rfl (hb hby d3_71) kk_) ?_
                  by_cases c73_15 : (g i) = (45 : Int32)
                  · refine Gq.go (s₁.setTop (mkF m 78 #[.val (.ref a1), .val (.int (Int32.ofNat s0)), .val (.int (Int32.ofNat e0)), .val (.int (Int32.ofNat i)), .val (.int (g i))] [])) (fun tt_ kk_ => XS.icmpYes X0.here hx rfl (pc0 := 73) (pc' := 78) rfl (hb hby d3_73) rfl (teq c73_15).1 (by decide) (by decide) kk_) ?_
                    exact Kgood (by unfold own_v; rw [if_neg c31_1, if_pos c38_12, if_pos c45_13, if_pos c59_14, if_pos c73_15])
                  · refine Gq.go (s₁.setTop (mkF m 76 #[.val (.ref a1), .val (.int (Int32.ofNat s0)), .val (.int (Int32.ofNat e0)), .val (.int (Int32.ofNat i)), .val (.int (g i))] [])) (fun tt_ kk_ => XS.icmpNo X0.here hx rfl (hb hby d3_73) rfl (feq c73_15).1 kk_) ?_
                    exact Kbad (by unfold own_v; rw [if_neg c31_1, if_pos c38_12, if_pos c45_13, if_pos c59_14, if_neg c73_15])
                · refine Gq.go (s₁.setTop (mkF m 62 #[.val (.ref a1), .val (.int (Int32.ofNat s0)), .val (.int (Int32.ofNat e0)), .val (.int (Int32.ofNat i)), .val (.int (g i))] [])) (fun tt_ kk_ => XS.icmpNo X0.here hx rfl (hb hby d3_59) rfl (flt c59_14).1 kk_) ?_
                  refine Gq.go (s₁.setTop (mkF m 64 #[.val (.ref a1), .val (.int (Int32.ofNat s0)), .val (.int (Int32.ofNat e0)), .val (.int (Int32.ofNat i)), .val (.int (g i))] [(.int (g i))])) (fun tt_ kk_ => XS.iload X0.here hx rfl (hb hby d3_62) rfl kk_) ?_
                  refine Gq.go (s₁.setTop (mkF m 66 #[.val (.ref a1), .val (.int (Int32.ofNat s0)), .val (.int (Int32.ofNat e0)), .val (.int (Int32.ofNat i)), .val (.int (g i))] [(.int (57 : Int32)), (.int (g i))])) (fun tt_ kk_ => XS.bipush X0.here hx rfl (hb hby d3_64) kk_) ?_
                  by_cases c66_16 : (57 : Int32) < (g i)
                  · refine Gq.go (s₁.setTop (mkF m 69 #[.val (.ref a1), .val (.int (Int32.ofNat s0)), .val (.int (Int32.ofNat e0)), .val (.int (Int32.ofNat i)), .val (.int (g i))] [])) (fun tt_ kk_ => XS.icmpNo X0.here hx rfl (hb hby d3_66) rfl (tlt c66_16).2.2.2 kk_) ?_
                    refine Gq.go (s₁.setTop (mkF m 71 #[.val (.ref a1), .val (.int (Int32.ofNat s0)), .val (.int (Int32.ofNat e0)), .val (.int (Int32.ofNat i)), .val (.int (g i))] [(.int (g i))])) (fun tt_ kk_ => XS.iload X0.here hx rfl (hb hby d3_69) rfl kk_) ?_
                    refine Gq.go (s₁.setTop (mkF m 73 #[.val (.ref a1), .val (.int (Int32.ofNat s0)), .val (.int (Int32.ofNat e0)), .val (.int (Int32.ofNat i)), .val (.int (g i))] [(.int (45 : Int32)), (.int (g i))])) (fun tt_ kk_ => XS.bipush X0.here hx rfl (hb hby d3_71) kk_) ?_
                    by_cases c73_17 : (g i) = (45 : Int32)
                    · refine Gq.go (s₁.setTop (mkF m 78 #[.val (.ref a1), .val (.int (Int32.ofNat s0)), .val (.int (Int32.ofNat e0)), .val (.int (Int32.ofNat i)), .val (.int (g i))] [])) (fun tt_ kk_ => XS.icmpYes X0.here hx rfl (pc0 := 73) (pc' := 78) rfl (hb hby d3_73) rfl (teq c73_17).1 (by decide) (by decide) kk_) ?_
                      exact Kgood (by unfold own_v; rw [if_neg c31_1, if_pos c38_12, if_pos c45_13, if_neg c59_14, if_pos c66_16, if_pos c73_17])
                    · refine Gq.go (s₁.setTop (mkF m 76 #[.val (.ref a1), .val (.int (Int32.ofNat s0)), .val (.int (Int32.ofNat e0)), .val (.int (Int32.ofNat i)), .val (.int (g i))] [])) (fun tt_ kk_ => XS.icmpNo X0.here hx rfl (hb hby d3_73) rfl (feq c73_17).1 kk_) ?_
                      exact Kbad (by unfold own_v; rw [if_neg c31_1, if_pos c38_12, if_pos c45_13, if_neg c59_14, if_pos c66_16, if_neg c73_17])
                  · refine Gq.go (s₁.setTop (mkF m 78 #[.val (.ref a1), .val (.int (Int32.ofNat s0)), .val (.int (Int32.ofNat e0)), .val (.int (Int32.ofNat i)), .val (.int (g i))] [])) (fun tt_ kk_ => XS.icmpYes X0.here hx rfl (pc0 := 66) (pc' := 78) rfl (hb hby d3_66) rfl (flt c66_16).2.2.2 (by decide) (by decide) kk_) ?_
                    exact Kgood (by unfold own_v; rw [if_neg c31_1, if_pos c38_12, if_pos c45_13, if_neg c59_14, if_neg c66_16])
              · refine Gq.go (s₁.setTop (mkF m 48 #[.val (.ref a1), .val (.int (Int32.ofNat s0)), .val (.int (Int32.ofNat e0)), .val (.int (Int32.ofNat i)), .val (.int (g i))] [])) (fun tt_ kk_ => XS.icmpNo X0.here hx rfl (hb hby d3_45) rfl (flt c45_13).1 kk_) ?_
                refine Gq.go (s₁.setTop (mkF m 50 #[.val (.ref a1), .val (.int (Int32.ofNat s0)), .val (.int (Int32.ofNat e0)), .val (.int (Int32.ofNat i)), .val (.int (g i))] [(.int (g i))])) (fun tt_ kk_ => XS.iload X0.here hx rfl (hb hby d3_48) rfl kk_) ?_
                refine Gq.go (s₁.setTop (mkF m 52 #[.val (.ref a1), .val (.int (Int32.ofNat s0)), .val (.int (Int32.ofNat e0)), .val (.int (Int32.ofNat i)), .val (.int (g i))] [(.int (122 : Int32)), (.int (g i))])) (fun tt_ kk_ => XS.bipush X0.here hx rfl (hb hby d3_50) kk_) ?_
                by_cases c52_18 : (122 : Int32) < (g i)
                · refine Gq.go (s₁.setTop (mkF m 55 #[.val (.ref a1), .val (.int (Int32.ofNat s0)), .val (.int (Int32.ofNat e0)), .val (.int (Int32.ofNat i)), .val (.int (g i))] [])) (fun tt_ kk_ => XS.icmpNo X0.here hx rfl (hb hby d3_52) rfl (tlt c52_18).2.2.2 kk_) ?_
                  refine Gq.go (s₁.setTop (mkF m 57 #[.val (.ref a1), .val (.int (Int32.ofNat s0)), .val (.int (Int32.ofNat e0)), .val (.int (Int32.ofNat i)), .val (.int (g i))] [(.int (g i))])) (fun tt_ kk_ => XS.iload X0.here hx rfl (hb hby d3_55) rfl kk_) ?_
                  refine Gq.go (s₁.setTop (mkF m 59 #[.val (.ref a1), .val (.int (Int32.ofNat s0)), .val (.int (Int32.ofNat e0)), .val (.int (Int32.ofNat i)), .val (.int (g i))] [(.int (48 : Int32)), (.int (g i))])) (fun tt_ kk_ => XS.bipush X0.here hx rfl (hb hby d3_57) kk_) ?_
                  by_cases c59_19 : (g i) < (48 : Int32)
                  · refine Gq.go (s₁.setTop (mkF m 69 #[.val (.ref a1), .val (.int (Int32.ofNat s0)), .val (.int (Int32.ofNat e0)), .val (.int (Int32.ofNat i)), .val (.int (g i))] [])) (fun tt_ kk_ => XS.icmpYes X0.here hx rfl (pc0 := 59) (pc' := 69) rfl (hb hby d3_59) rfl (tlt c59_19).1 (by decide) (by decide) kk_) ?_
                    refine Gq.go (s₁.setTop (mkF m 71 #[.val (.ref a1), .val (.int (Int32.ofNat s0)), .val (.int (Int32.ofNat e0)), .val (.int (Int32.ofNat i)), .val (.int (g i))] [(.int (g i))])) (fun tt_ kk_ => XS.iload X0.here hx rfl (hb hby d3_69) rfl kk_) ?_
                    refine Gq.go (s₁.setTop (mkF m 73 #[.val (.ref a1), .val (.int (Int32.ofNat s0)), .val (.int (Int32.ofNat e0)), .val (.int (Int32.ofNat i)), .val (.int (g i))] [(.int (45 : Int32)), (.int (g i))])) (fun tt_ kk_ => XS.bipush X0.here hx rfl (hb hby d3_71) kk_) ?_
                    by_cases c73_20 : (g i) = (45 : Int32)
                    · refine Gq.go (s₁.setTop (mkF m 78 #[.val (.ref a1), .val (.int (Int32.ofNat s0)), .val (.int (Int32.ofNat e0)), .val (.int (Int32.ofNat i)), .val (.int (g i))] [])) (fun tt_ kk_ => XS.icmpYes X0.here hx rfl (pc0 := 73) (pc' := 78) rfl (hb hby d3_73) rfl (teq c73_20).1 (by decide) (by decide) kk_) ?_
                      exact Kgood (by unfold own_v; rw [if_neg c31_1, if_pos c38_12, if_neg c45_13, if_pos c52_18, if_pos c59_19, if_pos c73_20])
                    · refine Gq.go (s₁.setTop (mkF m 76 #[.val (.ref a1), .val (.int (Int32.ofNat s0)), .val (.int (Int32.ofNat e0)), .val (.int (Int32.ofNat i)), .val (.int (g i))] [])) (fun tt_ kk_ => XS.icmpNo X0.here hx rfl (hb hby d3_73) rfl (feq c73_20).1 kk_) ?_
                      exact Kbad (by unfold own_v; rw [if_neg c31_1, if_pos c38_12, if_neg c45_13, if_pos c52_18, if_pos c59_19, if_neg c73_20])
                  · refine Gq.go (s₁.setTop (mkF m 62 #[.val (.ref a1), .val (.int (Int32.ofNat s0)), .val (.int (Int32.ofNat e0)), .val (.int (Int32.ofNat i)), .val (.int (g i))] [])) (fun tt_ kk_ => XS.icmpNo X0.here hx rfl (hb hby d3_59) rfl (flt c59_19).1 kk_) ?_
                    refine Gq.go (s₁.setTop (mkF m 64 #[.val (.ref a1), .val (.int (Int32.ofNat s0)), .val (.int (Int32.ofNat e0)), .val (.int (Int32.ofNat i)), .val (.int (g i))] [(.int (g i))])) (fun tt_ kk_ => XS.iload X0.here hx rfl (hb hby d3_62) rfl kk_) ?_
                    refine Gq.go (s₁.setTop (mkF m 66 #[.val (.ref a1), .val (.int (Int32.ofNat s0)), .val (.int (Int32.ofNat e0)), .val (.int (Int32.ofNat i)), .val (.int (g i))] [(.int (57 : Int32)), (.int (g i))])) (fun tt_ kk_ => XS.bipush X0.here hx rfl (hb hby d3_64) kk_) ?_
                    by_cases c66_21 : (57 : Int32) < (g i)
                    · refine Gq.go (s₁.setTop (mkF m 69 #[.val (.ref a1), .val (.int (Int32.ofNat s0)), .val (.int (Int32.ofNat e0)), .val (.int (Int32.ofNat i)), .val (.int (g i))] [])) (fun tt_ kk_ => XS.icmpNo X0.here hx rfl (hb hby d3_66) rfl (tlt c66_21).2.2.2 kk_) ?_
                      refine Gq.go (s₁.setTop (mkF m 71 #[.val (.ref a1), .val (.int (Int32.ofNat s0)), .val (.int (Int32.ofNat e0)), .val (.int (Int32.ofNat i)), .val (.int (g i))] [(.int (g i))])) (fun tt_ kk_ => XS.iload X0.here hx rfl (hb hby d3_69) rfl kk_) ?_
                      refine Gq.go (s₁.setTop (mkF m 73 #[.val (.ref a1), .val (.int (Int32.ofNat s0)), .val (.int (Int32.ofNat e0)), .val (.int (Int32.ofNat i)), .val (.int (g i))] [(.int (45 : Int32)), (.int (g i))])) (fun tt_ kk_ => XS.bipush X0.here hx rfl (hb hby d3_71) kk_) ?_
                      by_cases c73_22 : (g i) = (45 : Int32)
                      · refine Gq.go (s₁.setTop (mkF m 78 #[.val (.ref a1), .val (.int (Int32.ofNat s0)), .val (.int (Int32.ofNat e0)), .val (.int (Int32.ofNat i)), .val (.int (g i))] [])) (fun tt_ kk_ => XS.icmpYes X0.here hx rfl (pc0 := 73) (pc' := 78) rfl (hb hby d3_73) rfl (teq c73_22).1 (by decide) (by decide) kk_) ?_
                        exact Kgood (by unfold own_v; rw [if_neg c31_1, if_pos c38_12, if_neg c45_13, if_pos c52_18, if_neg c59_19, if_pos c66_21, if_pos c73_22])
                      · refine Gq.go (s₁.setTop (mkF m 76 #[.val (.ref a1), .val (.int (Int32.ofNat s0)), .val (.int (Int32.ofNat e0)), .val (.int (Int32.ofNat i)), .val (.int (g i))] [])) (fun tt_ kk_ => XS.icmpNo X0.here hx rfl (hb hby d3_73) rfl (feq c73_22).1 kk_) ?_
                        exact Kbad (by unfold own_v; rw [if_neg c31_1, if_pos c38_12, if_neg c45_13, if_pos c52_18, if_neg c59_19, if_pos c66_21, if_neg c73_22])
                    · refine Gq.go (s₁.setTop (mkF m 78 #[.val (.ref a1), .val (.int (Int32.ofNat s0)), .val (.int (Int32.ofNat e0)), .val (.int (Int32.ofNat i)), .val (.int (g i))] [])) (fun tt_ kk_ => XS.icmpYes X0.here hx rfl (pc0 := 66) (pc' := 78) rfl (hb hby d3_66) rfl (flt c66_21).2.2.2 (by decide) (by decide) kk_) ?_
                      exact Kgood (by unfold own_v; rw [if_neg c31_1, if_pos c38_12, if_neg c45_13, if_pos c52_18, if_neg c59_19, if_neg c66_21])
                · refine Gq.go (s₁.setTop (mkF m 78 #[.val (.ref a1), .val (.int (Int32.ofNat s0)), .val (.int (Int32.ofNat e0)), .val (.int (Int32.ofNat i)), .val (.int (g i))] [])) (fun tt_ kk_ => XS.icmpYes X0.here hx rfl (pc0 := 52) (pc' := 78) rfl (hb hby d3_52) rfl (flt c52_18).2.2.2 (by decide) (by decide) kk_) ?_
                  exact Kgood (by unfold own_v; rw [if_neg c31_1, if_pos c38_12, if_neg c45_13, if_neg c52_18])
            · refine Gq.go (s₁.setTop (mkF m 78 #[.val (.ref a1), .val (.int (Int32.ofNat s0)), .val (.int (Int32.ofNat e0)), .val (.int (Int32.ofNat i)), .val (.int (g i))] [])) (fun tt_ kk_ => XS.icmpYes X0.here hx rfl (pc0 := 38) (pc' := 78) rfl (hb hby d3_38) rfl (flt c38_12).2.2.2 (by decide) (by decide) kk_) ?_
              exact Kgood (by unfold own_v; rw [if_neg c31_1, if_neg c38_12])
      refine Gq.go (s₁.setTop (mkF m 16 #[.val (.ref a1), .val (.int (Int32.ofNat s0)), .val (.int (Int32.ofNat e0)), .unset, .unset] [(.int (Int32.ofNat s0))])) (fun tt_ kk_ => XS.iloadN X0.here hx rfl (hb hby d3_15) rfl kk_) ?_
      refine Gq.go (s₁.setTop (mkF m 17 #[.val (.ref a1), .val (.int (Int32.ofNat s0)), .val (.int (Int32.ofNat e0)), .val (.int (Int32.ofNat s0)), .unset] [])) (fun tt_ kk_ => XS.istoreN X0.here hx rfl (hb hby d3_16) rfl (l' := #[.val (.ref a1), .val (.int (Int32.ofNat s0)), .val (.int (Int32.ofNat e0)), .val (.int (Int32.ofNat s0)), .unset]) rfl kk_) ?_
      exact loop (e0 - s0) s0 (by omega) (Nat.le_refl _) (fun j h1 h2 => absurd h1 (by omega)) _ (Or.inl rfl)
theorem pd_0 : parseMethodDescriptor "(III)Z" = some ⟨[.int, .int, .int], some .boolean⟩ := by decide +kernel
theorem pd_1 : parseMethodDescriptor "(B)Z" = some ⟨[.byte], some .boolean⟩ := by decide +kernel
theorem pd_2 : parseMethodDescriptor "([BII)Z" = some ⟨[(.array .byte), .int, .int], some .boolean⟩ := by decide +kernel
theorem ef0 (m : MethodId) (y0 : Int32) (y1 : Int32) (y2 : Int32) (y3 : Int32) (y4 : Int32) (y5 : Int32) : entryFrame m #[(.int y0), (.int y1), (.int y2), (.int y3), (.int y4), (.int y5)] maxLocals = mkF m 0 #[.val (.int y0), .val (.int y1), .val (.int y2), .val (.int y3), .val (.int y4), .val (.int y5), .unset, .unset, .unset, .unset, .unset, .unset, .unset, .unset] [] := by first | (simp [entryFrame, mkF, argsToLocals, Value.category, maxLocals]; done) | rfl
def Q0 (Z : State) (x0 : Int32) (x1 : Int32) (x2 : Int32) (x3 : Int32) (x4 : Int32) (x5 : Int32) (h0 : Heap) (n0 : Nat) (v : Option Value) (h : Heap) (L : List Loc) : Prop := v = some (.int (1 : Int32)) ∧ Fr n0 L
set_option maxRecDepth 65536 in
set_option maxHeartbeats 40000000 in
theorem rm0 (l : Launch) (Z : State) (a0 : Array Value) (hw : ∀ d ∈ tables_1, d.before a0 Z = true) (ws : List Jvm.Cond) (x0 : Int32) (x1 : Int32) (x2 : Int32) (x3 : Int32) (x4 : Int32) (x5 : Int32) (h0 : Heap) (n0 : Nat) (Z0 : n0 ≤ h0.size)  :
    MetFree l x (head1 (Jvm.Cond.code x code maxLocals ret :: ws) room_1) (fun a U => a = #[(.int x0), (.int x1), (.int x2), (.int x3), (.int x4), (.int x5)] ∧ Z.Warmed39 U.vm ∧ U.heap = h0) (fun _ _ _ _ _ => True) (fun _ U o U' => ∃ v L, o = .returned v ∧ Q0 Z x0 x1 x2 x3 x4 x5 h0 n0 v U'.heap L ∧ FrameEnd U o U' L room_1.cells room_1.slots) := by
  refine MetFree.of_bodySF (plainFor_of_name pn_com_example_clearwright_clearwright_model_TradeIdIsValidPinLaw) hisR ?_
  intro p e s m args below meth c s₁ Bd hml0 hP hK
  obtain ⟨rfl, hZ, hh⟩ := hP
  have hx := Bd.exec
  have hby := Bd.bytes
  have hml : c.maxLocals = 14 := hml0
  have hown : s.vm.findClass "com/example/clearwright/clearwright/model/TradeIdIsValidPinLaw" = some m.cls := findClass_of_methodNamed Bd.named
  have hnm := (name_of_methodNamed Bd.named Bd.method).1
  have X0 : Stand p l e room_1 s m #[(.int x0), (.int x1), (.int x2), (.int x3), (.int x4), (.int x5)] below meth c s₁ [] 0 0 := Stand.of_body Bd
  have eh0 : s₁.heap = h0 := by rw [← hh, Bd.state]; rfl
  have N0 := Fr.nil n0
  refine Gq.start (Q := Q0 Z x0 x1 x2 x3 x4 x5 h0 n0) (kc := room_1.cells) (ks := room_1.slots) (ef0 m x0 x1 x2 x3 x4 x5) ?_
  refine Gq.go (s₁.setTop (mkF m 2 #[.val (.int x0), .val (.int x1), .val (.int x2), .val (.int x3), .val (.int x4), .val (.int x5), .unset, .unset, .unset, .unset, .unset, .unset, .unset, .unset] [(.int (40 : Int32))])) (fun tt_ kk_ => XS.bipush X0.here hx rfl (hb hby at_0) kk_) ?_
  obtain ⟨T1, h1, b1, X1, eh1, E1, aq1, V1, st1⟩ := mkA X0 hx hZ (hw _ (List.mem_of_getElem? (i := 0) rfl)) eh0 (z := (40 : Int32)) (n := 40) (Ls := #[.val (.int x0), .val (.int x1), .val (.int x2), .val (.int x3), .val (.int x4), .val (.int x5), .unset, .unset, .unset, .unset, .unset, .unset, .unset, .unset]) (rest := []) (by decide) rfl (by decide) (by decide) (by decide) (hb hby at_2)
  have g_b1 : n0 ≤ b1 := Nat.le_trans Z0 (Nat.le_of_eq aq1.symm)
  have za2 : n0 ≤ h1.size := Nat.le_trans Z0 E1.1
  have V1' : LA Z h1 b1 .byte 40 (gl [(.int (0 : Int32)), (.int (0 : Int32)), (.int (0 : Int32)), (.int (0 : Int32)), (.int (0 : Int32)), (.int (0 : Int32)), (.int (0 : Int32)), (.int (0 : Int32)), (.int (0 : Int32)), (.int (0 : Int32)), (.int (0 : Int32)), (.int (0 : Int32)), (.int (0 : Int32)), (.int (0 : Int32)), (.int (0 : Int32)), (.int (0 : Int32)), (.int (0 : Int32)), (.int (0 : Int32)), (.int (0 : Int32)), (.int (0 : Int32)), (.int (0 : Int32)), (.int (0 : Int32)), (.int (0 : Int32)), (.int (0 : Int32)), (.int (0 : Int32)), (.int (0 : Int32)), (.int (0 : Int32)), (.int (0 : Int32)), (.int (0 : Int32)), (.int (0 : Int32)), (.int (0 : Int32)), (.int (0 : Int32)), (.int (0 : Int32)), (.int (0 : Int32)), (.int (0 : Int32)), (.int (0 : Int32)), (.int (0 : Int32)), (.int (0 : Int32)), (.int (0 : Int32)), (.int (0 : Int32))] (.int (0 : Int32))) := V1.list
  have ta1' := V1'.lt
  refine Gq.go (T1.setTop (mkF m 4 #[.val (.int x0), .val (.int x1), .val (.int x2), .val (.int x3), .val (.int x4), .val (.int x5), .unset, .unset, .unset, .unset, .unset, .unset, .unset, .unset] [(.ref b1)])) (fun tt_ kk_ => st1 tt_ kk_) ?_
  refine Gq.go (T1.setTop (mkF m 5 #[.val (.int x0), .val (.int x1), .val (.int x2), .val (.int x3), .val (.int x4), .val (.int x5), .unset, .unset, .unset, .unset, .unset, .unset, .unset, .unset] [(.ref b1), (.ref b1)])) (fun tt_ kk_ => XS.dup X1.here hx rfl (hb hby at_4) rfl rfl kk_) ?_
  refine Gq.go (T1.setTop (mkF m 6 #[.val (.int x0), .val (.int x1), .val (.int x2), .val (.int x3), .val (.int x4), .val (.int x5), .unset, .unset, .unset, .unset, .unset, .unset, .unset, .unset] [(.int (0 : Int32)), (.ref b1), (.ref b1)])) (fun tt_ kk_ => XS.iconst X1.here hx rfl (hb hby at_5) kk_) ?_
  refine Gq.go (T1.setTop (mkF m 8 #[.val (.int x0), .val (.int x1), .val (.int x2), .val (.int x3), .val (.int x4), .val (.int x5), .unset, .unset, .unset, .unset, .unset, .unset, .unset, .unset] [(.int (97 : Int32)), (.int (0 : Int32)), (.ref b1), (.ref b1)])) (fun tt_ kk_ => XS.bipush X1.here hx rfl (hb hby at_6) kk_) ?_
  obtain ⟨T3, h3, X3, eh3, W3, st3⟩ := stoB X1 hx hZ eh1 V1' (j := (0 : Int32)) (i := 0) (x := (97 : Int32)) (Ls := #[.val (.int x0), .val (.int x1), .val (.int x2), .val (.int x3), .val (.int x4), .val (.int x5), .unset, .unset, .unset, .unset, .unset, .unset, .unset, .unset]) (rest := [(.ref b1)]) (by decide) rfl (by decide) (hb hby at_8)
  have ta4 := Nat.lt_of_lt_of_le ta1' (Nat.le_of_eq W3.size.symm)
  have za5 : n0 ≤ h3.size := Nat.le_trans za2 (Nat.le_of_eq W3.size.symm)
  have V3 : LA Z h3 b1 .byte 40 (gl [(.int (97 : Int32).toInt8.toInt32), (.int (0 : Int32)), (.int (0 : Int32)), (.int (0 : Int32)), (.int (0 : Int32)), (.int (0 : Int32)), (.int (0 : Int32)), (.int (0 : Int32)), (.int (0 : Int32)), (.int (0 : Int32)), (.int (0 : Int32)), (.int (0 : Int32)), (.int (0 : Int32)), (.int (0 : Int32)), (.int (0 : Int32)), (.int (0 : Int32)), (.int (0 : Int32)), (.int (0 : Int32)), (.int (0 : Int32)), (.int (0 : Int32)), (.int (0 : Int32)), (.int (0 : Int32)), (.int (0 : Int32)), (.int (0 : Int32)), (.int (0 : Int32)), (.int (0 : Int32)), (.int (0 : Int32)), (.int (0 : Int32)), (.int (0 : Int32)), (.int (0 : Int32)), (.int (0 : Int32)), (.int (0 : Int32)), (.int (0 : Int32)), (.int (0 : Int32)), (.int (0 : Int32)), (.int (0 : Int32)), (.int (0 : Int32)), (.int (0 : Int32)), (.int (0 : Int32)), (.int (0 : Int32))] (.int (0 : Int32))) := V1'.setL W3 (Nat.le_of_ble_eq_true rfl)
  have N3 := Fr.snoc X3 N0 g_b1
  refine Gq.go (T3.setTop (mkF m 9 #[.val (.int x0), .val (.int x1), .val (.int x2), .val (.int x3), .val (.int x4), .val (.int x5), .unset, .unset, .unset, .unset, .unset, .unset, .unset, .unset] [(.ref b1)])) (fun tt_ kk_ => st3 tt_ kk_) ?_
  refine Gq.go (T3.setTop (mkF m 10 #[.val (.int x0), .val (.int x1), .val (.int x2), .val (.int x3), .val (.int x4), .val (.int x5), .unset, .unset, .unset, .unset, .unset, .unset, .unset, .unset] [(.ref b1), (.ref b1)])) (fun tt_ kk_ => XS.dup X3.here hx rfl (hb hby at_9) rfl rfl kk_) ?_
  refine Gq.go (T3.setTop (mkF m 11 #[.val (.int x0), .val (.int x1), .val (.int x2), .val (.int x3), .val (.int x4), .val (.int x5), .unset, .unset, .unset, .unset, .unset, .unset, .unset, .unset] [(.int (1 : Int32)), (.ref b1), (.ref b1)])) (fun tt_ kk_ => XS.iconst X3.here hx rfl (hb hby at_10) kk_) ?_
  refine Gq.go (T3.setTop (mkF m 13 #[.val (.int x0), .val (.int x1), .val (.int x2), .val (.int x3), .val (.int x4), .val (.int x5), .unset, .unset, .unset, .unset, .unset, .unset, .unset, .unset] [(.int (90 : Int32)), (.int (1 : Int32)), (.ref b1), (.ref b1)])) (fun tt_ kk_ => XS.bipush X3.here hx rfl (hb hby at_11) kk_) ?_
  obtain ⟨T6, h6, X6, eh6, W6, st6⟩ := stoB X3 hx hZ eh3 V3 (j := (1 : Int32)) (i := 1) (x := (90 : Int32)) (Ls := #[.val (.int x0), .val (.int x1), .val (.int x2), .val (.int x3), .val (.int x4), .val (.int x5), .unset, .unset, .unset, .unset, .unset, .unset, .unset, .unset]) (rest := [(.ref b1)]) (by decide) rfl (by decide) (hb hby at_13)
  have ta7 := Nat.lt_of_lt_of_le ta4 (Nat.le_of_eq W6.size.symm)
  have za8 : n0 ≤ h6.size := Nat.le_trans za5 (Nat.le_of_eq W6.size.symm)
  have V6 : LA Z h6 b1 .byte 40 (gl [(.int (97 : Int32).toInt8.toInt32), (.int (90 : Int32).toInt8.toInt32), (.int (0 : Int32)), (.int (0 : Int32)), (.int (0 : Int32)), (.int (0 : Int32)), (.int (0 : Int32)), (.int (0 : Int32)), (.int (0 : Int32)), (.int (0 : Int32)), (.int (0 : Int32)), (.int (0 : Int32)), (.int (0 : Int32)), (.int (0 : Int32)), (.int (0 : Int32)), (.int (0 : Int32)), (.int (0 : Int32)), (.int (0 : Int32)), (.int (0 : Int32)), (.int (0 : Int32)), (.int (0 : Int32)), (.int (0 : Int32)), (.int (0 : Int32)), (.int (0 : Int32)), (.int (0 : Int32)), (.int (0 : Int32)), (.int (0 : Int32)), (.int (0 : Int32)), (.int (0 : Int32)), (.int (0 : Int32)), (.int (0 : Int32)), (.int (0 : Int32)), (.int (0 : Int32)), (.int (0 : Int32)), (.int (0 : Int32)), (.int (0 : Int32)), (.int (0 : Int32)), (.int (0 : Int32)), (.int (0 : Int32)), (.int (0 : Int32))] (.int (0 : Int32))) := V3.setL W6 (Nat.le_of_ble_eq_true rfl)
  have N6 := Fr.snoc X6 N3 g_b1
  refine Gq.go (T6.setTop (mkF m 14 #[.val (.int x0), .val (.int x1), .val (.int x2), .val (.int x3), .val (.int x4), .val (.int x5), .unset, .unset, .unset, .unset, .unset, .unset, .unset, .unset] [(.ref b1)])) (fun tt_ kk_ => st6 tt_ kk_) ?_
  refine Gq.go (T6.setTop (mkF m 15 #[.val (.int x0), .val (.int x1), .val (.int x2), .val (.int x3), .val (.int x4), .val (.int x5), .unset, .unset, .unset, .unset, .unset, .unset, .unset, .unset] [(.ref b1), (.ref b1)])) (fun tt_ kk_ => XS.dup X6.here hx rfl (hb hby at_14) rfl rfl kk_) ?_
  refine Gq.go (T6.setTop (mkF m 16 #[.val (.int x0), .val (.int x1), .val (.int x2), .val (.int x3), .val (.int x4), .val (.int x5), .unset, .unset, .unset, .unset, .unset, .unset, .unset, .unset] [(.int (2 : Int32)), (.ref b1), (.ref b1)])) (fun tt_ kk_ => XS.iconst X6.here hx rfl (hb hby at_15) kk_) ?_
  refine Gq.go (T6.setTop (mkF m 18 #[.val (.int x0), .val (.int x1), .val (.int x2), .val (.int x3), .val (.int x4), .val (.int x5), .unset, .unset, .unset, .unset, .unset, .unset, .unset, .unset] [(.int (48 : Int32)), (.int (2 : Int32)), (.ref b1), (.ref b1)])) (fun tt_ kk_ => XS.bipush X6.here hx rfl (hb hby at_16) kk_) ?_
  obtain ⟨T9, h9, X9, eh9, W9, st9⟩ := stoB X6 hx hZ eh6 V6 (j := (2 : Int32)) (i := 2) (x := (48 : Int32)) (Ls := #[.val (.int x0), .val (.int x1), .val (.int x2), .val (.int x3), .val (.int x4), .val (.int x5), .unset, .unset, .unset, .unset, .unset, .unset, .unset, .unset]) (rest := [(.ref b1)]) (by decide) rfl (by decide) (hb hby at_18)
  have ta10 := Nat.lt_of_lt_of_le ta7 (Nat.le_of_eq W9.size.symm)
  have za11 : n0 ≤ h9.size := Nat.le_trans za8 (Nat.le_of_eq W9.size.symm)
  have V9 : LA Z h9 b1 .byte 40 (gl [(.int (97 : Int32).toInt8.toInt32), (.int (90 : Int32).toInt8.toInt32), (.int (48 : Int32).toInt8.toInt32), (.int (0 : Int32)), (.int (0 : Int32)), (.int (0 : Int32)), (.int (0 : Int32)), (.int (0 : Int32)), (.int (0 : Int32)), (.int (0 : Int32)), (.int (0 : Int32)), (.int (0 : Int32)), (.int (0 : Int32)), (.int (0 : Int32)), (.int (0 : Int32)), (.int (0 : Int32)), (.int (0 : Int32)), (.int (0 : Int32)), (.int (0 : Int32)), (.int (0 : Int32)), (.int (0 : Int32)), (.int (0 : Int32)), (.int (0 : Int32)), (.int (0 : Int32)), (.int (0 : Int32)), (.int (0 : Int32)), (.int (0 : Int32)), (.int (0 : Int32)), (.int (0 : Int32)), (.int (0 : Int32)), (.int (0 : Int32)), (.int (0 : Int32)), (.int (0 : Int32)), (.int (0 : Int32)), (.int (0 : Int32)), (.int (0 : Int32)), (.int (0 : Int32)), (.int (0 : Int32)), (.int (0 : Int32)), (.int (0 : Int32))] (.int (0 : Int32))) := V6.setL W9 (Nat.le_of_ble_eq_true rfl)
  have N9 := Fr.snoc X9 N6 g_b1
  refine Gq.go (T9.setTop (mkF m 19 #[.val (.int x0), .val (.int x1), .val (.int x2), .val (.int x3), .val (.int x4), .val (.int x5), .unset, .unset, .unset, .unset, .unset, .unset, .unset, .unset] [(.ref b1)])) (fun tt_ kk_ => st9 tt_ kk_) ?_
  refine Gq.go (T9.setTop (mkF m 20 #[.val (.int x0), .val (.int x1), .val (.int x2), .val (.int x3), .val (.int x4), .val (.int x5), .unset, .unset, .unset, .unset, .unset, .unset, .unset, .unset] [(.ref b1), (.ref b1)])) (fun tt_ kk_ => XS.dup X9.here hx rfl (hb hby at_19) rfl rfl kk_) ?_
  refine Gq.go (T9.setTop (mkF m 21 #[.val (.int x0), .val (.int x1), .val (.int x2), .val (.int x3), .val (.int x4), .val (.int x5), .unset, .unset, .unset, .unset, .unset, .unset, .unset, .unset] [(.int (3 : Int32)), (.ref b1), (.ref b1)])) (fun tt_ kk_ => XS.iconst X9.here hx rfl (hb hby at_20) kk_) ?_
  refine Gq.go (T9.setTop (mkF m 23 #[.val (.int x0), .val (.int x1), .val (.int x2), .val (.int x3), .val (.int x4), .val (.int x5), .unset, .unset, .unset, .unset, .unset, .unset, .unset, .unset] [(.int (45 : Int32)), (.int (3 : Int32)), (.ref b1), (.ref b1)])) (fun tt_ kk_ => XS.bipush X9.here hx rfl (hb hby at_21) kk_) ?_
  obtain ⟨T12, h12, X12, eh12, W12, st12⟩ := stoB X9 hx hZ eh9 V9 (j := (3 : Int32)) (i := 3) (x := (45 : Int32)) (Ls := #[.val (.int x0), .val (.int x1), .val (.int x2), .val (.int x3), .val (.int x4), .val (.int x5), .unset, .unset, .unset, .unset, .unset, .unset, .unset, .unset]) (rest := [(.ref b1)]) (by decide) rfl (by decide) (hb hby at_23)
  have ta13 := Nat.lt_of_lt_of_le ta10 (Nat.le_of_eq W12.size.symm)
  have za14 : n0 ≤ h12.size := Nat.le_trans za11 (Nat.le_of_eq W12.size.symm)
  have V12 : LA Z h12 b1 .byte 40 (gl [(.int (97 : Int32).toInt8.toInt32), (.int (90 : Int32).toInt8.toInt32), (.int (48 : Int32).toInt8.toInt32), (.int (45 : Int32).toInt8.toInt32), (.int (0 : Int32)), (.int (0 : Int32)), (.int (0 : Int32)), (.int (0 : Int32)), (.int (0 : Int32)), (.int (0 : Int32)), (.int (0 : Int32)), (.int (0 : Int32)), (.int (0 : Int32)), (.int (0 : Int32)), (.int (0 : Int32)), (.int (0 : Int32)), (.int (0 : Int32)), (.int (0 : Int32)), (.int (0 : Int32)), (.int (0 : Int32)), (.int (0 : Int32)), (.int (0 : Int32)), (.int (0 : Int32)), (.int (0 : Int32)), (.int (0 : Int32)), (.int (0 : Int32)), (.int (0 : Int32)), (.int (0 : Int32)), (.int (0 : Int32)), (.int (0 : Int32)), (.int (0 : Int32)), (.int (0 : Int32)), (.int (0 : Int32)), (.int (0 : Int32)), (.int (0 : Int32)), (.int (0 : Int32)), (.int (0 : Int32)), (.int (0 : Int32)), (.int (0 : Int32)), (.int (0 : Int32))] (.int (0 : Int32))) := V9.setL W12 (Nat.le_of_ble_eq_true rfl)
  have N12 := Fr.snoc X12 N9 g_b1
  refine Gq.go (T12.setTop (mkF m 24 #[.val (.int x0), .val (.int x1), .val (.int x2), .val (.int x3), .val (.int x4), .val (.int x5), .unset, .unset, .unset, .unset, .unset, .unset, .unset, .unset] [(.ref b1)])) (fun tt_ kk_ => st12 tt_ kk_) ?_
  refine Gq.go (T12.setTop (mkF m 25 #[.val (.int x0), .val (.int x1), .val (.int x2), .val (.int x3), .val (.int x4), .val (.int x5), .unset, .unset, .unset, .unset, .unset, .unset, .unset, .unset] [(.ref b1), (.ref b1)])) (fun tt_ kk_ => XS.dup X12.here hx rfl (hb hby at_24) rfl rfl kk_) ?_
  refine Gq.go (T12.setTop (mkF m 26 #[.val (.int x0), .val (.int x1), .val (.int x2), .val (.int x3), .val (.int x4), .val (.int x5), .unset, .unset, .unset, .unset, .unset, .unset, .unset, .unset] [(.int (4 : Int32)), (.ref b1), (.ref b1)])) (fun tt_ kk_ => XS.iconst X12.here hx rfl (hb hby at_25) kk_) ?_
  refine Gq.go (T12.setTop (mkF m 28 #[.val (.int x0), .val (.int x1), .val (.int x2), .val (.int x3), .val (.int x4), .val (.int x5), .unset, .unset, .unset, .unset, .unset, .unset, .unset, .unset] [(.int (122 : Int32)), (.int (4 : Int32)), (.ref b1), (.ref b1)])) (fun tt_ kk_ => XS.bipush X12.here hx rfl (hb hby at_26) kk_) ?_
  obtain ⟨T15, h15, X15, eh15, W15, st15⟩ := stoB X12 hx hZ eh12 V12 (j := (4 : Int32)) (i := 4) (x := (122 : Int32)) (Ls := #[.val (.int x0), .val (.int x1), .val (.int x2), .val (.int x3), .val (.int x4), .val (.int x5), .unset, .unset, .unset, .unset, .unset, .unset, .unset, .unset]) (rest := [(.ref b1)]) (by decide) rfl (by decide) (hb hby at_28)
  have ta16 := Nat.lt_of_lt_of_le ta13 (Nat.le_of_eq W15.size.symm)
  have za17 : n0 ≤ h15.size := Nat.le_trans za14 (Nat.le_of_eq W15.size.symm)
  have V15 : LA Z h15 b1 .byte 40 (gl [(.int (97 : Int32).toInt8.toInt32), (.int (90 : Int32).toInt8.toInt32), (.int (48 : Int32).toInt8.toInt32), (.int (45 : Int32).toInt8.toInt32), (.int (122 : Int32).toInt8.toInt32), (.int (0 : Int32)), (.int (0 : Int32)), (.int (0 : Int32)), (.int (0 : Int32)), (.int (0 : Int32)), (.int (0 : Int32)), (.int (0 : Int32)), (.int (0 : Int32)), (.int (0 : Int32)), (.int (0 : Int32)), (.int (0 : Int32)), (.int (0 : Int32)), (.int (0 : Int32)), (.int (0 : Int32)), (.int (0 : Int32)), (.int (0 : Int32)), (.int (0 : Int32)), (.int (0 : Int32)), (.int (0 : Int32)), (.int (0 : Int32)), (.int (0 : Int32)), (.int (0 : Int32)), (.int (0 : Int32)), (.int (0 : Int32)), (.int (0 : Int32)), (.int (0 : Int32)), (.int (0 : Int32)), (.int (0 : Int32)), (.int (0 : Int32)), (.int (0 : Int32)), (.int (0 : Int32)), (.int (0 : Int32)), (.int (0 : Int32)), (.int (0 : Int32)), (.int (0 : Int32))] (.int (0 : Int32))) := V12.setL W15 (Nat.le_of_ble_eq_true rfl)
  have N15 := Fr.snoc X15 N12 g_b1
  refine Gq.go (T15.setTop (mkF m 29 #[.val (.int x0), .val (.int x1), .val (.int x2), .val (.int x3), .val (.int x4), .val (.int x5), .unset, .unset, .unset, .unset, .unset, .unset, .unset, .unset] [(.ref b1)])) (fun tt_ kk_ => st15 tt_ kk_) ?_
  refine Gq.go (T15.setTop (mkF m 30 #[.val (.int x0), .val (.int x1), .val (.int x2), .val (.int x3), .val (.int x4), .val (.int x5), .unset, .unset, .unset, .unset, .unset, .unset, .unset, .unset] [(.ref b1), (.ref b1)])) (fun tt_ kk_ => XS.dup X15.here hx rfl (hb hby at_29) rfl rfl kk_) ?_
  refine Gq.go (T15.setTop (mkF m 31 #[.val (.int x0), .val (.int x1), .val (.int x2), .val (.int x3), .val (.int x4), .val (.int x5), .unset, .unset, .unset, .unset, .unset, .unset, .unset, .unset] [(.int (5 : Int32)), (.ref b1), (.ref b1)])) (fun tt_ kk_ => XS.iconst X15.here hx rfl (hb hby at_30) kk_) ?_
  refine Gq.go (T15.setTop (mkF m 33 #[.val (.int x0), .val (.int x1), .val (.int x2), .val (.int x3), .val (.int x4), .val (.int x5), .unset, .unset, .unset, .unset, .unset, .unset, .unset, .unset] [(.int (65 : Int32)), (.int (5 : Int32)), (.ref b1), (.ref b1)])) (fun tt_ kk_ => XS.bipush X15.here hx rfl (hb hby at_31) kk_) ?_
  obtain ⟨T18, h18, X18, eh18, W18, st18⟩ := stoB X15 hx hZ eh15 V15 (j := (5 : Int32)) (i := 5) (x := (65 : Int32)) (Ls := #[.val (.int x0), .val (.int x1), .val (.int x2), .val (.int x3), .val (.int x4), .val (.int x5), .unset, .unset, .unset, .unset, .unset, .unset, .unset, .unset]) (rest := [(.ref b1)]) (by decide) rfl (by decide) (hb hby at_33)
  have ta19 := Nat.lt_of_lt_of_le ta16 (Nat.le_of_eq W18.size.symm)
  have za20 : n0 ≤ h18.size := Nat.le_trans za17 (Nat.le_of_eq W18.size.symm)
  have V18 : LA Z h18 b1 .byte 40 (gl [(.int (97 : Int32).toInt8.toInt32), (.int (90 : Int32).toInt8.toInt32), (.int (48 : Int32).toInt8.toInt32), (.int (45 : Int32).toInt8.toInt32), (.int (122 : Int32).toInt8.toInt32), (.int (65 : Int32).toInt8.toInt32), (.int (0 : Int32)), (.int (0 : Int32)), (.int (0 : Int32)), (.int (0 : Int32)), (.int (0 : Int32)), (.int (0 : Int32)), (.int (0 : Int32)), (.int (0 : Int32)), (.int (0 : Int32)), (.int (0 : Int32)), (.int (0 : Int32)), (.int (0 : Int32)), (.int (0 : Int32)), (.int (0 : Int32)), (.int (0 : Int32)), (.int (0 : Int32)), (.int (0 : Int32)), (.int (0 : Int32)), (.int (0 : Int32)), (.int (0 : Int32)), (.int (0 : Int32)), (.int (0 : Int32)), (.int (0 : Int32)), (.int (0 : Int32)), (.int (0 : Int32)), (.int (0 : Int32)), (.int (0 : Int32)), (.int (0 : Int32)), (.int (0 : Int32)), (.int (0 : Int32)), (.int (0 : Int32)), (.int (0 : Int32)), (.int (0 : Int32)), (.int (0 : Int32))] (.int (0 : Int32))) := V15.setL W18 (Nat.le_of_ble_eq_true rfl)
  have N18 := Fr.snoc X18 N15 g_b1
  refine Gq.go (T18.setTop (mkF m 34 #[.val (.int x0), .val (.int x1), .val (.int x2), .val (.int x3), .val (.int x4), .val (.int x5), .unset, .unset, .unset, .unset, .unset, .unset, .unset, .unset] [(.ref b1)])) (fun tt_ kk_ => st18 tt_ kk_) ?_
  refine Gq.go (T18.setTop (mkF m 35 #[.val (.int x0), .val (.int x1), .val (.int x2), .val (.int x3), .val (.int x4), .val (.int x5), .unset, .unset, .unset, .unset, .unset, .unset, .unset, .unset] [(.ref b1), (.ref b1)])) (fun tt_ kk_ => XS.dup X18.here hx rfl (hb hby at_34) rfl rfl kk_) ?_
  refine Gq.go (T18.setTop (mkF m 37 #[.val (.int x0), .val (.int x1), .val (.int x2), .val (.int x3), .val (.int x4), .val (.int x5), .unset, .unset, .unset, .unset, .unset, .unset, .unset, .unset] [(.int (6 : Int32)), (.ref b1), (.ref b1)])) (fun tt_ kk_ => XS.bipush X18.here hx rfl (hb hby at_35) kk_) ?_
  refine Gq.go (T18.setTop (mkF m 39 #[.val (.int x0), .val (.int x1), .val (.int x2), .val (.int x3), .val (.int x4), .val (.int x5), .unset, .unset, .unset, .unset, .unset, .unset, .unset, .unset] [(.int (57 : Int32)), (.int (6 : Int32)), (.ref b1), (.ref b1)])) (fun tt_ kk_ => XS.bipush X18.here hx rfl (hb hby at_37) kk_) ?_
  obtain ⟨T21, h21, X21, eh21, W21, st21⟩ := stoB X18 hx hZ eh18 V18 (j := (6 : Int32)) (i := 6) (x := (57 : Int32)) (Ls := #[.val (.int x0), .val (.int x1), .val (.int x2), .val (.int x3), .val (.int x4), .val (.int x5), .unset, .unset, .unset, .unset, .unset, .unset, .unset, .unset]) (rest := [(.ref b1)]) (by decide) rfl (by decide) (hb hby at_39)
  have ta22 := Nat.lt_of_lt_of_le ta19 (Nat.le_of_eq W21.size.symm)
  have za23 : n0 ≤ h21.size := Nat.le_trans za20 (Nat.le_of_eq W21.size.symm)
  have V21 : LA Z h21 b1 .byte 40 (gl [(.int (97 : Int32).toInt8.toInt32), (.int (90 : Int32).toInt8.toInt32), (.int (48 : Int32).toInt8.toInt32), (.int (45 : Int32).toInt8.toInt32), (.int (122 : Int32).toInt8.toInt32), (.int (65 : Int32).toInt8.toInt32), (.int (57 : Int32).toInt8.toInt32), (.int (0 : Int32)), (.int (0 : Int32)), (.int (0 : Int32)), (.int (0 : Int32)), (.int (0 : Int32)), (.int (0 : Int32)), (.int (0 : Int32)), (.int (0 : Int32)), (.int (0 : Int32)), (.int (0 : Int32)), (.int (0 : Int32)), (.int (0 : Int32)), (.int (0 : Int32)), (.int (0 : Int32)), (.int (0 : Int32)), (.int (0 : Int32)), (.int (0 : Int32)), (.int (0 : Int32)), (.int (0 : Int32)), (.int (0 : Int32)), (.int (0 : Int32)), (.int (0 : Int32)), (.int (0 : Int32)), (.int (0 : Int32)), (.int (0 : Int32)), (.int (0 : Int32)), (.int (0 : Int32)), (.int (0 : Int32)), (.int (0 : Int32)), (.int (0 : Int32)), (.int (0 : Int32)), (.int (0 : Int32)), (.int (0 : Int32))] (.int (0 : Int32))) := V18.setL W21 (Nat.le_of_ble_eq_true rfl)
  have N21 := Fr.snoc X21 N18 g_b1
  refine Gq.go (T21.setTop (mkF m 40 #[.val (.int x0), .val (.int x1), .val (.int x2), .val (.int x3), .val (.int x4), .val (.int x5), .unset, .unset, .unset, .unset, .unset, .unset, .unset, .unset] [(.ref b1)])) (fun tt_ kk_ => st21 tt_ kk_) ?_
  refine Gq.go (T21.setTop (mkF m 41 #[.val (.int x0), .val (.int x1), .val (.int x2), .val (.int x3), .val (.int x4), .val (.int x5), .unset, .unset, .unset, .unset, .unset, .unset, .unset, .unset] [(.ref b1), (.ref b1)])) (fun tt_ kk_ => XS.dup X21.here hx rfl (hb hby at_40) rfl rfl kk_) ?_
  refine Gq.go (T21.setTop (mkF m 43 #[.val (.int x0), .val (.int x1), .val (.int x2), .val (.int x3), .val (.int x4), .val (.int x5), .unset, .unset, .unset, .unset, .unset, .unset, .unset, .unset] [(.int (7 : Int32)), (.ref b1), (.ref b1)])) (fun tt_ kk_ => XS.bipush X21.here hx rfl (hb hby at_41) kk_) ?_
  refine Gq.go (T21.setTop (mkF m 45 #[.val (.int x0), .val (.int x1), .val (.int x2), .val (.int x3), .val (.int x4), .val (.int x5), .unset, .unset, .unset, .unset, .unset, .unset, .unset, .unset] [(.int (109 : Int32)), (.int (7 : Int32)), (.ref b1), (.ref b1)])) (fun tt_ kk_ => XS.bipush X21.here hx rfl (hb hby at_43) kk_) ?_
  obtain ⟨T24, h24, X24, eh24, W24, st24⟩ := stoB X21 hx hZ eh21 V21 (j := (7 : Int32)) (i := 7) (x := (109 : Int32)) (Ls := #[.val (.int x0), .val (.int x1), .val (.int x2), .val (.int x3), .val (.int x4), .val (.int x5), .unset, .unset, .unset, .unset, .unset, .unset, .unset, .unset]) (rest := [(.ref b1)]) (by decide) rfl (by decide) (hb hby at_45)
  have ta25 := Nat.lt_of_lt_of_le ta22 (Nat.le_of_eq W24.size.symm)
  have za26 : n0 ≤ h24.size := Nat.le_trans za23 (Nat.le_of_eq W24.size.symm)
  have V24 : LA Z h24 b1 .byte 40 (gl [(.int (97 : Int32).toInt8.toInt32), (.int (90 : Int32).toInt8.toInt32), (.int (48 : Int32).toInt8.toInt32), (.int (45 : Int32).toInt8.toInt32), (.int (122 : Int32).toInt8.toInt32), (.int (65 : Int32).toInt8.toInt32), (.int (57 : Int32).toInt8.toInt32), (.int (109 : Int32).toInt8.toInt32), (.int (0 : Int32)), (.int (0 : Int32)), (.int (0 : Int32)), (.int (0 : Int32)), (.int (0 : Int32)), (.int (0 : Int32)), (.int (0 : Int32)), (.int (0 : Int32)), (.int (0 : Int32)), (.int (0 : Int32)), (.int (0 : Int32)), (.int (0 : Int32)), (.int (0 : Int32)), (.int (0 : Int32)), (.int (0 : Int32)), (.int (0 : Int32)), (.int (0 : Int32)), (.int (0 : Int32)), (.int (0 : Int32)), (.int (0 : Int32)), (.int (0 : Int32)), (.int (0 : Int32)), (.int (0 : Int32)), (.int (0 : Int32)), (.int (0 : Int32)), (.int (0 : Int32)), (.int (0 : Int32)), (.int (0 : Int32)), (.int (0 : Int32)), (.int (0 : Int32)), (.int (0 : Int32)), (.int (0 : Int32))] (.int (0 : Int32))) := V21.setL W24 (Nat.le_of_ble_eq_true rfl)
  have N24 := Fr.snoc X24 N21 g_b1
  refine Gq.go (T24.setTop (mkF m 46 #[.val (.int x0), .val (.int x1), .val (.int x2), .val (.int x3), .val (.int x4), .val (.int x5), .unset, .unset, .unset, .unset, .unset, .unset, .unset, .unset] [(.ref b1)])) (fun tt_ kk_ => st24 tt_ kk_) ?_
  refine Gq.go (T24.setTop (mkF m 47 #[.val (.int x0), .val (.int x1), .val (.int x2), .val (.int x3), .val (.int x4), .val (.int x5), .unset, .unset, .unset, .unset, .unset, .unset, .unset, .unset] [(.ref b1), (.ref b1)])) (fun tt_ kk_ => XS.dup X24.here hx rfl (hb hby at_46) rfl rfl kk_) ?_
  refine Gq.go (T24.setTop (mkF m 49 #[.val (.int x0), .val (.int x1), .val (.int x2), .val (.int x3), .val (.int x4), .val (.int x5), .unset, .unset, .unset, .unset, .unset, .unset, .unset, .unset] [(.int (8 : Int32)), (.ref b1), (.ref b1)])) (fun tt_ kk_ => XS.bipush X24.here hx rfl (hb hby at_47) kk_) ?_
  refine Gq.go (T24.setTop (mkF m 51 #[.val (.int x0), .val (.int x1), .val (.int x2), .val (.int x3), .val (.int x4), .val (.int x5), .unset, .unset, .unset, .unset, .unset, .unset, .unset, .unset] [(.int (97 : Int32)), (.int (8 : Int32)), (.ref b1), (.ref b1)])) (fun tt_ kk_ => XS.bipush X24.here hx rfl (hb hby at_49) kk_) ?_
  obtain ⟨T27, h27, X27, eh27, W27, st27⟩ := stoB X24 hx hZ eh24 V24 (j := (8 : Int32)) (i := 8) (x := (97 : Int32)) (Ls := #[.val (.int x0), .val (.int x1), .val (.int x2), .val (.int x3), .val (.int x4), .val (.int x5), .unset, .unset, .unset, .unset, .unset, .unset, .unset, .unset]) (rest := [(.ref b1)]) (by decide) rfl (by decide) (hb hby at_51)
  have ta28 := Nat.lt_of_lt_of_le ta25 (Nat.le_of_eq W27.size.symm)
  have za29 : n0 ≤ h27.size := Nat.le_trans za26 (Nat.le_of_eq W27.size.symm)
  have V27 : LA Z h27 b1 .byte 40 (gl [(.int (97 : Int32).toInt8.toInt32), (.int (90 : Int32).toInt8.toInt32), (.int (48 : Int32).toInt8.toInt32), (.int (45 : Int32).toInt8.toInt32), (.int (122 : Int32).toInt8.toInt32), (.int (65 : Int32).toInt8.toInt32), (.int (57 : Int32).toInt8.toInt32), (.int (109 : Int32).toInt8.toInt32), (.int (97 : Int32).toInt8.toInt32), (.int (0 : Int32)), (.int (0 : Int32)), (.int (0 : Int32)), (.int (0 : Int32)), (.int (0 : Int32)), (.int (0 : Int32)), (.int (0 : Int32)), (.int (0 : Int32)), (.int (0 : Int32)), (.int (0 : Int32)), (.int (0 : Int32)), (.int (0 : Int32)), (.int (0 : Int32)), (.int (0 : Int32)), (.int (0 : Int32)), (.int (0 : Int32)), (.int (0 : Int32)), (.int (0 : Int32)), (.int (0 : Int32)), (.int (0 : Int32)), (.int (0 : Int32)), (.int (0 : Int32)), (.int (0 : Int32)), (.int (0 : Int32)), (.int (0 : Int32)), (.int (0 : Int32)), (.int (0 : Int32)), (.int (0 : Int32)), (.int (0 : Int32)), (.int (0 : Int32)), (.int (0 : Int32))] (.int (0 : Int32))) := V24.setL W27 (Nat.le_of_ble_eq_true rfl)
  have N27 := Fr.snoc X27 N24 g_b1
  refine Gq.go (T27.setTop (mkF m 52 #[.val (.int x0), .val (.int x1), .val (.int x2), .val (.int x3), .val (.int x4), .val (.int x5), .unset, .unset, .unset, .unset, .unset, .unset, .unset, .unset] [(.ref b1)])) (fun tt_ kk_ => st27 tt_ kk_) ?_
  refine Gq.go (T27.setTop (mkF m 53 #[.val (.int x0), .val (.int x1), .val (.int x2), .val (.int x3), .val (.int x4), .val (.int x5), .unset, .unset, .unset, .unset, .unset, .unset, .unset, .unset] [(.ref b1), (.ref b1)])) (fun tt_ kk_ => XS.dup X27.here hx rfl (hb hby at_52) rfl rfl kk_) ?_
  refine Gq.go (T27.setTop (mkF m 55 #[.val (.int x0), .val (.int x1), .val (.int x2), .val (.int x3), .val (.int x4), .val (.int x5), .unset, .unset, .unset, .unset, .unset, .unset, .unset, .unset] [(.int (9 : Int32)), (.ref b1), (.ref b1)])) (fun tt_ kk_ => XS.bipush X27.here hx rfl (hb hby at_53) kk_) ?_
  refine Gq.go (T27.setTop (mkF m 57 #[.val (.int x0), .val (.int x1), .val (.int x2), .val (.int x3), .val (.int x4), .val (.int x5), .unset, .unset, .unset, .unset, .unset, .unset, .unset, .unset] [(.int (90 : Int32)), (.int (9 : Int32)), (.ref b1), (.ref b1)])) (fun tt_ kk_ => XS.bipush X27.here hx rfl (hb hby at_55) kk_) ?_
  obtain ⟨T30, h30, X30, eh30, W30, st30⟩ := stoB X27 hx hZ eh27 V27 (j := (9 : Int32)) (i := 9) (x := (90 : Int32)) (Ls := #[.val (.int x0), .val (.int x1), .val (.int x2), .val (.int x3), .val (.int x4), .val (.int x5), .unset, .unset, .unset, .unset, .unset, .unset, .unset, .unset]) (rest := [(.ref b1)]) (by decide) rfl (by decide) (hb hby at_57)
  have ta31 := Nat.lt_of_lt_of_le ta28 (Nat.le_of_eq W30.size.symm)
  have za32 : n0 ≤ h30.size := Nat.le_trans za29 (Nat.le_of_eq W30.size.symm)
  have V30 : LA Z h30 b1 .byte 40 (gl [(.int (97 : Int32).toInt8.toInt32), (.int (90 : Int32).toInt8.toInt32), (.int (48 : Int32).toInt8.toInt32), (.int (45 : Int32).toInt8.toInt32), (.int (122 : Int32).toInt8.toInt32), (.int (65 : Int32).toInt8.toInt32), (.int (57 : Int32).toInt8.toInt32), (.int (109 : Int32).toInt8.toInt32), (.int (97 : Int32).toInt8.toInt32), (.int (90 : Int32).toInt8.toInt32), (.int (0 : Int32)), (.int (0 : Int32)), (.int (0 : Int32)), (.int (0 : Int32)), (.int (0 : Int32)), (.int (0 : Int32)), (.int (0 : Int32)), (.int (0 : Int32)), (.int (0 : Int32)), (.int (0 : Int32)), (.int (0 : Int32)), (.int (0 : Int32)), (.int (0 : Int32)), (.int (0 : Int32)), (.int (0 : Int32)), (.int (0 : Int32)), (.int (0 : Int32)), (.int (0 : Int32)), (.int (0 : Int32)), (.int (0 : Int32)), (.int (0 : Int32)), (.int (0 : Int32)), (.int (0 : Int32)), (.int (0 : Int32)), (.int (0 : Int32)), (.int (0 : Int32)), (.int (0 : Int32)), (.int (0 : Int32)), (.int (0 : Int32)), (.int (0 : Int32))] (.int (0 : Int32))) := V27.setL W30 (Nat.le_of_ble_eq_true rfl)
  have N30 := Fr.snoc X30 N27 g_b1
  refine Gq.go (T30.setTop (mkF m 58 #[.val (.int x0), .val (.int x1), .val (.int x2), .val (.int x3), .val (.int x4), .val (.int x5), .unset, .unset, .unset, .unset, .unset, .unset, .unset, .unset] [(.ref b1)])) (fun tt_ kk_ => st30 tt_ kk_) ?_
  refine Gq.go (T30.setTop (mkF m 59 #[.val (.int x0), .val (.int x1), .val (.int x2), .val (.int x3), .val (.int x4), .val (.int x5), .unset, .unset, .unset, .unset, .unset, .unset, .unset, .unset] [(.ref b1), (.ref b1)])) (fun tt_ kk_ => XS.dup X30.here hx rfl (hb hby at_58) rfl rfl kk_) ?_
  refine Gq.go (T30.setTop (mkF m 61 #[.val (.int x0), .val (.int x1), .val (.int x2), .val (.int x3), .val (.int x4), .val (.int x5), .unset, .unset, .unset, .unset, .unset, .unset, .unset, .unset] [(.int (10 : Int32)), (.ref b1), (.ref b1)])) (fun tt_ kk_ => XS.bipush X30.here hx rfl (hb hby at_59) kk_) ?_
  refine Gq.go (T30.setTop (mkF m 63 #[.val (.int x0), .val (.int x1), .val (.int x2), .val (.int x3), .val (.int x4), .val (.int x5), .unset, .unset, .unset, .unset, .unset, .unset, .unset, .unset] [(.int (48 : Int32)), (.int (10 : Int32)), (.ref b1), (.ref b1)])) (fun tt_ kk_ => XS.bipush X30.here hx rfl (hb hby at_61) kk_) ?_
  obtain ⟨T33, h33, X33, eh33, W33, st33⟩ := stoB X30 hx hZ eh30 V30 (j := (10 : Int32)) (i := 10) (x := (48 : Int32)) (Ls := #[.val (.int x0), .val (.int x1), .val (.int x2), .val (.int x3), .val (.int x4), .val (.int x5), .unset, .unset, .unset, .unset, .unset, .unset, .unset, .unset]) (rest := [(.ref b1)]) (by decide) rfl (by decide) (hb hby at_63)
  have ta34 := Nat.lt_of_lt_of_le ta31 (Nat.le_of_eq W33.size.symm)
  have za35 : n0 ≤ h33.size := Nat.le_trans za32 (Nat.le_of_eq W33.size.symm)
  have V33 : LA Z h33 b1 .byte 40 (gl [(.int (97 : Int32).toInt8.toInt32), (.int (90 : Int32).toInt8.toInt32), (.int (48 : Int32).toInt8.toInt32), (.int (45 : Int32).toInt8.toInt32), (.int (122 : Int32).toInt8.toInt32), (.int (65 : Int32).toInt8.toInt32), (.int (57 : Int32).toInt8.toInt32), (.int (109 : Int32).toInt8.toInt32), (.int (97 : Int32).toInt8.toInt32), (.int (90 : Int32).toInt8.toInt32), (.int (48 : Int32).toInt8.toInt32), (.int (0 : Int32)), (.int (0 : Int32)), (.int (0 : Int32)), (.int (0 : Int32)), (.int (0 : Int32)), (.int (0 : Int32)), (.int (0 : Int32)), (.int (0 : Int32)), (.int (0 : Int32)), (.int (0 : Int32)), (.int (0 : Int32)), (.int (0 : Int32)), (.int (0 : Int32)), (.int (0 : Int32)), (.int (0 : Int32)), (.int (0 : Int32)), (.int (0 : Int32)), (.int (0 : Int32)), (.int (0 : Int32)), (.int (0 : Int32)), (.int (0 : Int32)), (.int (0 : Int32)), (.int (0 : Int32)), (.int (0 : Int32)), (.int (0 : Int32)), (.int (0 : Int32)), (.int (0 : Int32)), (.int (0 : Int32)), (.int (0 : Int32))] (.int (0 : Int32))) := V30.setL W33 (Nat.le_of_ble_eq_true rfl)
  have N33 := Fr.snoc X33 N30 g_b1
  refine Gq.go (T33.setTop (mkF m 64 #[.val (.int x0), .val (.int x1), .val (.int x2), .val (.int x3), .val (.int x4), .val (.int x5), .unset, .unset, .unset, .unset, .unset, .unset, .unset, .unset] [(.ref b1)])) (fun tt_ kk_ => st33 tt_ kk_) ?_
  refine Gq.go (T33.setTop (mkF m 65 #[.val (.int x0), .val (.int x1), .val (.int x2), .val (.int x3), .val (.int x4), .val (.int x5), .unset, .unset, .unset, .unset, .unset, .unset, .unset, .unset] [(.ref b1), (.ref b1)])) (fun tt_ kk_ => XS.dup X33.here hx rfl (hb hby at_64) rfl rfl kk_) ?_
  refine Gq.go (T33.setTop (mkF m 67 #[.val (.int x0), .val (.int x1), .val (.int x2), .val (.int x3), .val (.int x4), .val (.int x5), .unset, .unset, .unset, .unset, .unset, .unset, .unset, .unset] [(.int (11 : Int32)), (.ref b1), (.ref b1)])) (fun tt_ kk_ => XS.bipush X33.here hx rfl (hb hby at_65) kk_) ?_
  refine Gq.go (T33.setTop (mkF m 69 #[.val (.int x0), .val (.int x1), .val (.int x2), .val (.int x3), .val (.int x4), .val (.int x5), .unset, .unset, .unset, .unset, .unset, .unset, .unset, .unset] [(.int (45 : Int32)), (.int (11 : Int32)), (.ref b1), (.ref b1)])) (fun tt_ kk_ => XS.bipush X33.here hx rfl (hb hby at_67) kk_) ?_
  obtain ⟨T36, h36, X36, eh36, W36, st36⟩ := stoB X33 hx hZ eh33 V33 (j := (11 : Int32)) (i := 11) (x := (45 : Int32)) (Ls := #[.val (.int x0), .val (.int x1), .val (.int x2), .val (.int x3), .val (.int x4), .val (.int x5), .unset, .unset, .unset, .unset, .unset, .unset, .unset, .unset]) (rest := [(.ref b1)]) (by decide) rfl (by decide) (hb hby at_69)
  have ta37 := Nat.lt_of_lt_of_le ta34 (Nat.le_of_eq W36.size.symm)
  have za38 : n0 ≤ h36.size := Nat.le_trans za35 (Nat.le_of_eq W36.size.symm)
  have V36 : LA Z h36 b1 .byte 40 (gl [(.int (97 : Int32).toInt8.toInt32), (.int (90 : Int32).toInt8.toInt32), (.int (48 : Int32).toInt8.toInt32), (.int (45 : Int32).toInt8.toInt32), (.int (122 : Int32).toInt8.toInt32), (.int (65 : Int32).toInt8.toInt32), (.int (57 : Int32).toInt8.toInt32), (.int (109 : Int32).toInt8.toInt32), (.int (97 : Int32).toInt8.toInt32), (.int (90 : Int32).toInt8.toInt32), (.int (48 : Int32).toInt8.toInt32), (.int (45 : Int32).toInt8.toInt32), (.int (0 : Int32)), (.int (0 : Int32)), (.int (0 : Int32)), (.int (0 : Int32)), (.int (0 : Int32)), (.int (0 : Int32)), (.int (0 : Int32)), (.int (0 : Int32)), (.int (0 : Int32)), (.int (0 : Int32)), (.int (0 : Int32)), (.int (0 : Int32)), (.int (0 : Int32)), (.int (0 : Int32)), (.int (0 : Int32)), (.int (0 : Int32)), (.int (0 : Int32)), (.int (0 : Int32)), (.int (0 : Int32)), (.int (0 : Int32)), (.int (0 : Int32)), (.int (0 : Int32)), (.int (0 : Int32)), (.int (0 : Int32)), (.int (0 : Int32)), (.int (0 : Int32)), (.int (0 : Int32)), (.int (0 : Int32))] (.int (0 : Int32))) := V33.setL W36 (Nat.le_of_ble_eq_true rfl)
  have N36 := Fr.snoc X36 N33 g_b1
  refine Gq.go (T36.setTop (mkF m 70 #[.val (.int x0), .val (.int x1), .val (.int x2), .val (.int x3), .val (.int x4), .val (.int x5), .unset, .unset, .unset, .unset, .unset, .unset, .unset, .unset] [(.ref b1)])) (fun tt_ kk_ => st36 tt_ kk_) ?_
  refine Gq.go (T36.setTop (mkF m 71 #[.val (.int x0), .val (.int x1), .val (.int x2), .val (.int x3), .val (.int x4), .val (.int x5), .unset, .unset, .unset, .unset, .unset, .unset, .unset, .unset] [(.ref b1), (.ref b1)])) (fun tt_ kk_ => XS.dup X36.here hx rfl (hb hby at_70) rfl rfl kk_) ?_
  refine Gq.go (T36.setTop (mkF m 73 #[.val (.int x0), .val (.int x1), .val (.int x2), .val (.int x3), .val (.int x4), .val (.int x5), .unset, .unset, .unset, .unset, .unset, .unset, .unset, .unset] [(.int (12 : Int32)), (.ref b1), (.ref b1)])) (fun tt_ kk_ => XS.bipush X36.here hx rfl (hb hby at_71) kk_) ?_
  refine Gq.go (T36.setTop (mkF m 75 #[.val (.int x0), .val (.int x1), .val (.int x2), .val (.int x3), .val (.int x4), .val (.int x5), .unset, .unset, .unset, .unset, .unset, .unset, .unset, .unset] [(.int (122 : Int32)), (.int (12 : Int32)), (.ref b1), (.ref b1)])) (fun tt_ kk_ => XS.bipush X36.here hx rfl (hb hby at_73) kk_) ?_
  obtain ⟨T39, h39, X39, eh39, W39, st39⟩ := stoB X36 hx hZ eh36 V36 (j := (12 : Int32)) (i := 12) (x := (122 : Int32)) (Ls := #[.val (.int x0), .val (.int x1), .val (.int x2), .val (.int x3), .val (.int x4), .val (.int x5), .unset, .unset, .unset, .unset, .unset, .unset, .unset, .unset]) (rest := [(.ref b1)]) (by decide) rfl (by decide) (hb hby at_75)
  have ta40 := Nat.lt_of_lt_of_le ta37 (Nat.le_of_eq W39.size.symm)
  have za41 : n0 ≤ h39.size := Nat.le_trans za38 (Nat.le_of_eq W39.size.symm)
  have V39 : LA Z h39 b1 .byte 40 (gl [(.int (97 : Int32).toInt8.toInt32), (.int (90 : Int32).toInt8.toInt32), (.int (48 : Int32).toInt8.toInt32), (.int (45 : Int32).toInt8.toInt32), (.int (122 : Int32).toInt8.toInt32), (.int (65 : Int32).toInt8.toInt32), (.int (57 : Int32).toInt8.toInt32), (.int (109 : Int32).toInt8.toInt32), (.int (97 : Int32).toInt8.toInt32), (.int (90 : Int32).toInt8.toInt32), (.int (48 : Int32).toInt8.toInt32), (.int (45 : Int32).toInt8.toInt32), (.int (122 : Int32).toInt8.toInt32), (.int (0 : Int32)), (.int (0 : Int32)), (.int (0 : Int32)), (.int (0 : Int32)), (.int (0 : Int32)), (.int (0 : Int32)), (.int (0 : Int32)), (.int (0 : Int32)), (.int (0 : Int32)), (.int (0 : Int32)), (.int (0 : Int32)), (.int (0 : Int32)), (.int (0 : Int32)), (.int (0 : Int32)), (.int (0 : Int32)), (.int (0 : Int32)), (.int (0 : Int32)), (.int (0 : Int32)), (.int (0 : Int32)), (.int (0 : Int32)), (.int (0 : Int32)), (.int (0 : Int32)), (.int (0 : Int32)), (.int (0 : Int32)), (.int (0 : Int32)), (.int (0 : Int32)), (.int (0 : Int32))] (.int (0 : Int32))) := V36.setL W39 (Nat.le_of_ble_eq_true rfl)
  have N39 := Fr.snoc X39 N36 g_b1
  refine Gq.go (T39.setTop (mkF m 76 #[.val (.int x0), .val (.int x1), .val (.int x2), .val (.int x3), .val (.int x4), .val (.int x5), .unset, .unset, .unset, .unset, .unset, .unset, .unset, .unset] [(.ref b1)])) (fun tt_ kk_ => st39 tt_ kk_) ?_
  refine Gq.go (T39.setTop (mkF m 77 #[.val (.int x0), .val (.int x1), .val (.int x2), .val (.int x3), .val (.int x4), .val (.int x5), .unset, .unset, .unset, .unset, .unset, .unset, .unset, .unset] [(.ref b1), (.ref b1)])) (fun tt_ kk_ => XS.dup X39.here hx rfl (hb hby at_76) rfl rfl kk_) ?_
  refine Gq.go (T39.setTop (mkF m 79 #[.val (.int x0), .val (.int x1), .val (.int x2), .val (.int x3), .val (.int x4), .val (.int x5), .unset, .unset, .unset, .unset, .unset, .unset, .unset, .unset] [(.int (13 : Int32)), (.ref b1), (.ref b1)])) (fun tt_ kk_ => XS.bipush X39.here hx rfl (hb hby at_77) kk_) ?_
  refine Gq.go (T39.setTop (mkF m 81 #[.val (.int x0), .val (.int x1), .val (.int x2), .val (.int x3), .val (.int x4), .val (.int x5), .unset, .unset, .unset, .unset, .unset, .unset, .unset, .unset] [(.int (65 : Int32)), (.int (13 : Int32)), (.ref b1), (.ref b1)])) (fun tt_ kk_ => XS.bipush X39.here hx rfl (hb hby at_79) kk_) ?_
  obtain ⟨T42, h42, X42, eh42, W42, st42⟩ := stoB X39 hx hZ eh39 V39 (j := (13 : Int32)) (i := 13) (x := (65 : Int32)) (Ls := #[.val (.int x0), .val (.int x1), .val (.int x2), .val (.int x3), .val (.int x4), .val (.int x5), .unset, .unset, .unset, .unset, .unset, .unset, .unset, .unset]) (rest := [(.ref b1)]) (by decide) rfl (by decide) (hb hby at_81)
  have ta43 := Nat.lt_of_lt_of_le ta40 (Nat.le_of_eq W42.size.symm)
  have za44 : n0 ≤ h42.size := Nat.le_trans za41 (Nat.le_of_eq W42.size.symm)
  have V42 : LA Z h42 b1 .byte 40 (gl [(.int (97 : Int32).toInt8.toInt32), (.int (90 : Int32).toInt8.toInt32), (.int (48 : Int32).toInt8.toInt32), (.int (45 : Int32).toInt8.toInt32), (.int (122 : Int32).toInt8.toInt32), (.int (65 : Int32).toInt8.toInt32), (.int (57 : Int32).toInt8.toInt32), (.int (109 : Int32).toInt8.toInt32), (.int (97 : Int32).toInt8.toInt32), (.int (90 : Int32).toInt8.toInt32), (.int (48 : Int32).toInt8.toInt32), (.int (45 : Int32).toInt8.toInt32), (.int (122 : Int32).toInt8.toInt32), (.int (65 : Int32).toInt8.toInt32), (.int (0 : Int32)), (.int (0 : Int32)), (.int (0 : Int32)), (.int (0 : Int32)), (.int (0 : Int32)), (.int (0 : Int32)), (.int (0 : Int32)), (.int (0 : Int32)), (.int (0 : Int32)), (.int (0 : Int32)), (.int (0 : Int32)), (.int (0 : Int32)), (.int (0 : Int32)), (.int (0 : Int32)), (.int (0 : Int32)), (.int (0 : Int32)), (.int (0 : Int32)), (.int (0 : Int32)), (.int (0 : Int32)), (.int (0 : Int32)), (.int (0 : Int32)), (.int (0 : Int32)), (.int (0 : Int32)), (.int (0 : Int32)), (.int (0 : Int32)), (.int (0 : Int32))] (.int (0 : Int32))) := V39.setL W42 (Nat.le_of_ble_eq_true rfl)
  have N42 := Fr.snoc X42 N39 g_b1
  refine Gq.go (T42.setTop (mkF m 82 #[.val (.int x0), .val (.int x1), .val (.int x2), .val (.int x3), .val (.int x4), .val (.int x5), .unset, .unset, .unset, .unset, .unset, .unset, .unset, .unset] [(.ref b1)])) (fun tt_ kk_ => st42 tt_ kk_) ?_
  refine Gq.go (T42.setTop (mkF m 83 #[.val (.int x0), .val (.int x1), .val (.int x2), .val (.int x3), .val (.int x4), .val (.int x5), .unset, .unset, .unset, .unset, .unset, .unset, .unset, .unset] [(.ref b1), (.ref b1)])) (fun tt_ kk_ => XS.dup X42.here hx rfl (hb hby at_82) rfl rfl kk_) ?_
  refine Gq.go (T42.setTop (mkF m 85 #[.val (.int x0), .val (.int x1), .val (.int x2), .val (.int x3), .val (.int x4), .val (.int x5), .unset, .unset, .unset, .unset, .unset, .unset, .unset, .unset] [(.int (14 : Int32)), (.ref b1), (.ref b1)])) (fun tt_ kk_ => XS.bipush X42.here hx rfl (hb hby at_83) kk_) ?_
  refine Gq.go (T42.setTop (mkF m 87 #[.val (.int x0), .val (.int x1), .val (.int x2), .val (.int x3), .val (.int x4), .val (.int x5), .unset, .unset, .unset, .unset, .unset, .unset, .unset, .unset] [(.int (57 : Int32)), (.int (14 : Int32)), (.ref b1), (.ref b1)])) (fun tt_ kk_ => XS.bipush X42.here hx rfl (hb hby at_85) kk_) ?_
  obtain ⟨T45, h45, X45, eh45, W45, st45⟩ := stoB X42 hx hZ eh42 V42 (j := (14 : Int32)) (i := 14) (x := (57 : Int32)) (Ls := #[.val (.int x0), .val (.int x1), .val (.int x2), .val (.int x3), .val (.int x4), .val (.int x5), .unset, .unset, .unset, .unset, .unset, .unset, .unset, .unset]) (rest := [(.ref b1)]) (by decide) rfl (by decide) (hb hby at_87)
  have ta46 := Nat.lt_of_lt_of_le ta43 (Nat.le_of_eq W45.size.symm)
  have za47 : n0 ≤ h45.size := Nat.le_trans za44 (Nat.le_of_eq W45.size.symm)
  have V45 : LA Z h45 b1 .byte 40 (gl [(.int (97 : Int32).toInt8.toInt32), (.int (90 : Int32).toInt8.toInt32), (.int (48 : Int32).toInt8.toInt32), (.int (45 : Int32).toInt8.toInt32), (.int (122 : Int32).toInt8.toInt32), (.int (65 : Int32).toInt8.toInt32), (.int (57 : Int32).toInt8.toInt32), (.int (109 : Int32).toInt8.toInt32), (.int (97 : Int32).toInt8.toInt32), (.int (90 : Int32).toInt8.toInt32), (.int (48 : Int32).toInt8.toInt32), (.int (45 : Int32).toInt8.toInt32), (.int (122 : Int32).toInt8.toInt32), (.int (65 : Int32).toInt8.toInt32), (.int (57 : Int32).toInt8.toInt32), (.int (0 : Int32)), (.int (0 : Int32)), (.int (0 : Int32)), (.int (0 : Int32)), (.int (0 : Int32)), (.int (0 : Int32)), (.int (0 : Int32)), (.int (0 : Int32)), (.int (0 : Int32)), (.int (0 : Int32)), (.int (0 : Int32)), (.int (0 : Int32)), (.int (0 : Int32)), (.int (0 : Int32)), (.int (0 : Int32)), (.int (0 : Int32)), (.int (0 : Int32)), (.int (0 : Int32)), (.int (0 : Int32)), (.int (0 : Int32)), (.int (0 : Int32)), (.int (0 : Int32)), (.int (0 : Int32)), (.int (0 : Int32)), (.int (0 : Int32))] (.int (0 : Int32))) := V42.setL W45 (Nat.le_of_ble_eq_true rfl)
  have N45 := Fr.snoc X45 N42 g_b1
  refine Gq.go (T45.setTop (mkF m 88 #[.val (.int x0), .val (.int x1), .val (.int x2), .val (.int x3), .val (.int x4), .val (.int x5), .unset, .unset, .unset, .unset, .unset, .unset, .unset, .unset] [(.ref b1)])) (fun tt_ kk_ => st45 tt_ kk_) ?_
  refine Gq.go (T45.setTop (mkF m 89 #[.val (.int x0), .val (.int x1), .val (.int x2), .val (.int x3), .val (.int x4), .val (.int x5), .unset, .unset, .unset, .unset, .unset, .unset, .unset, .unset] [(.ref b1), (.ref b1)])) (fun tt_ kk_ => XS.dup X45.here hx rfl (hb hby at_88) rfl rfl kk_) ?_
  refine Gq.go (T45.setTop (mkF m 91 #[.val (.int x0), .val (.int x1), .val (.int x2), .val (.int x3), .val (.int x4), .val (.int x5), .unset, .unset, .unset, .unset, .unset, .unset, .unset, .unset] [(.int (15 : Int32)), (.ref b1), (.ref b1)])) (fun tt_ kk_ => XS.bipush X45.here hx rfl (hb hby at_89) kk_) ?_
  refine Gq.go (T45.setTop (mkF m 93 #[.val (.int x0), .val (.int x1), .val (.int x2), .val (.int x3), .val (.int x4), .val (.int x5), .unset, .unset, .unset, .unset, .unset, .unset, .unset, .unset] [(.int (109 : Int32)), (.int (15 : Int32)), (.ref b1), (.ref b1)])) (fun tt_ kk_ => XS.bipush X45.here hx rfl (hb hby at_91) kk_) ?_
  obtain ⟨T48, h48, X48, eh48, W48, st48⟩ := stoB X45 hx hZ eh45 V45 (j := (15 : Int32)) (i := 15) (x := (109 : Int32)) (Ls := #[.val (.int x0), .val (.int x1), .val (.int x2), .val (.int x3), .val (.int x4), .val (.int x5), .unset, .unset, .unset, .unset, .unset, .unset, .unset, .unset]) (rest := [(.ref b1)]) (by decide) rfl (by decide) (hb hby at_93)
  have ta49 := Nat.lt_of_lt_of_le ta46 (Nat.le_of_eq W48.size.symm)
  have za50 : n0 ≤ h48.size := Nat.le_trans za47 (Nat.le_of_eq W48.size.symm)
  have V48 : LA Z h48 b1 .byte 40 (gl [(.int (97 : Int32).toInt8.toInt32), (.int (90 : Int32).toInt8.toInt32), (.int (48 : Int32).toInt8.toInt32), (.int (45 : Int32).toInt8.toInt32), (.int (122 : Int32).toInt8.toInt32), (.int (65 : Int32).toInt8.toInt32), (.int (57 : Int32).toInt8.toInt32), (.int (109 : Int32).toInt8.toInt32), (.int (97 : Int32).toInt8.toInt32), (.int (90 : Int32).toInt8.toInt32), (.int (48 : Int32).toInt8.toInt32), (.int (45 : Int32).toInt8.toInt32), (.int (122 : Int32).toInt8.toInt32), (.int (65 : Int32).toInt8.toInt32), (.int (57 : Int32).toInt8.toInt32), (.int (109 : Int32).toInt8.toInt32), (.int (0 : Int32)), (.int (0 : Int32)), (.int (0 : Int32)), (.int (0 : Int32)), (.int (0 : Int32)), (.int (0 : Int32)), (.int (0 : Int32)), (.int (0 : Int32)), (.int (0 : Int32)), (.int (0 : Int32)), (.int (0 : Int32)), (.int (0 : Int32)), (.int (0 : Int32)), (.int (0 : Int32)), (.int (0 : Int32)), (.int (0 : Int32)), (.int (0 : Int32)), (.int (0 : Int32)), (.int (0 : Int32)), (.int (0 : Int32)), (.int (0 : Int32)), (.int (0 : Int32)), (.int (0 : Int32)), (.int (0 : Int32))] (.int (0 : Int32))) := V45.setL W48 (Nat.le_of_ble_eq_true rfl)
  have N48 := Fr.snoc X48 N45 g_b1
  refine Gq.go (T48.setTop (mkF m 94 #[.val (.int x0), .val (.int x1), .val (.int x2), .val (.int x3), .val (.int x4), .val (.int x5), .unset, .unset, .unset, .unset, .unset, .unset, .unset, .unset] [(.ref b1)])) (fun tt_ kk_ => st48 tt_ kk_) ?_
  refine Gq.go (T48.setTop (mkF m 95 #[.val (.int x0), .val (.int x1), .val (.int x2), .val (.int x3), .val (.int x4), .val (.int x5), .unset, .unset, .unset, .unset, .unset, .unset, .unset, .unset] [(.ref b1), (.ref b1)])) (fun tt_ kk_ => XS.dup X48.here hx rfl (hb hby at_94) rfl rfl kk_) ?_
  refine Gq.go (T48.setTop (mkF m 97 #[.val (.int x0), .val (.int x1), .val (.int x2), .val (.int x3), .val (.int x4), .val (.int x5), .unset, .unset, .unset, .unset, .unset, .unset, .unset, .unset] [(.int (16 : Int32)), (.ref b1), (.ref b1)])) (fun tt_ kk_ => XS.bipush X48.here hx rfl (hb hby at_95) kk_) ?_
  refine Gq.go (T48.setTop (mkF m 99 #[.val (.int x0), .val (.int x1), .val (.int x2), .val (.int x3), .val (.int x4), .val (.int x5), .unset, .unset, .unset, .unset, .unset, .unset, .unset, .unset] [(.int (97 : Int32)), (.int (16 : Int32)), (.ref b1), (.ref b1)])) (fun tt_ kk_ => XS.bipush X48.here hx rfl (hb hby at_97) kk_) ?_
  obtain ⟨T51, h51, X51, eh51, W51, st51⟩ := stoB X48 hx hZ eh48 V48 (j := (16 : Int32)) (i := 16) (x := (97 : Int32)) (Ls := #[.val (.int x0), .val (.int x1), .val (.int x2), .val (.int x3), .val (.int x4), .val (.int x5), .unset, .unset, .unset, .unset, .unset, .unset, .unset, .unset]) (rest := [(.ref b1)]) (by decide) rfl (by decide) (hb hby at_99)
  have ta52 := Nat.lt_of_lt_of_le ta49 (Nat.le_of_eq W51.size.symm)
  have za53 : n0 ≤ h51.size := Nat.le_trans za50 (Nat.le_of_eq W51.size.symm)
  have V51 : LA Z h51 b1 .byte 40 (gl [(.int (97 : Int32).toInt8.toInt32), (.int (90 : Int32).toInt8.toInt32), (.int (48 : Int32).toInt8.toInt32), (.int (45 : Int32).toInt8.toInt32), (.int (122 : Int32).toInt8.toInt32), (.int (65 : Int32).toInt8.toInt32), (.int (57 : Int32).toInt8.toInt32), (.int (109 : Int32).toInt8.toInt32), (.int (97 : Int32).toInt8.toInt32), (.int (90 : Int32).toInt8.toInt32), (.int (48 : Int32).toInt8.toInt32), (.int (45 : Int32).toInt8.toInt32), (.int (122 : Int32).toInt8.toInt32), (.int (65 : Int32).toInt8.toInt32), (.int (57 : Int32).toInt8.toInt32), (.int (109 : Int32).toInt8.toInt32), (.int (97 : Int32).toInt8.toInt32), (.int (0 : Int32)), (.int (0 : Int32)), (.int (0 : Int32)), (.int (0 : Int32)), (.int (0 : Int32)), (.int (0 : Int32)), (.int (0 : Int32)), (.int (0 : Int32)), (.int (0 : Int32)), (.int (0 : Int32)), (.int (0 : Int32)), (.int (0 : Int32)), (.int (0 : Int32)), (.int (0 : Int32)), (.int (0 : Int32)), (.int (0 : Int32)), (.int (0 : Int32)), (.int (0 : Int32)), (.int (0 : Int32)), (.int (0 : Int32)), (.int (0 : Int32)), (.int (0 : Int32)), (.int (0 : Int32))] (.int (0 : Int32))) := V48.setL W51 (Nat.le_of_ble_eq_true rfl)
  have N51 := Fr.snoc X51 N48 g_b1
  refine Gq.go (T51.setTop (mkF m 100 #[.val (.int x0), .val (.int x1), .val (.int x2), .val (.int x3), .val (.int x4), .val (.int x5), .unset, .unset, .unset, .unset, .unset, .unset, .unset, .unset] [(.ref b1)])) (fun tt_ kk_ => st51 tt_ kk_) ?_
  refine Gq.go (T51.setTop (mkF m 101 #[.val (.int x0), .val (.int x1), .val (.int x2), .val (.int x3), .val (.int x4), .val (.int x5), .unset, .unset, .unset, .unset, .unset, .unset, .unset, .unset] [(.ref b1), (.ref b1)])) (fun tt_ kk_ => XS.dup X51.here hx rfl (hb hby at_100) rfl rfl kk_) ?_
  refine Gq.go (T51.setTop (mkF m 103 #[.val (.int x0), .val (.int x1), .val (.int x2), .val (.int x3), .val (.int x4), .val (.int x5), .unset, .unset, .unset, .unset, .unset, .unset, .unset, .unset] [(.int (17 : Int32)), (.ref b1), (.ref b1)])) (fun tt_ kk_ => XS.bipush X51.here hx rfl (hb hby at_101) kk_) ?_
  refine Gq.go (T51.setTop (mkF m 105 #[.val (.int x0), .val (.int x1), .val (.int x2), .val (.int x3), .val (.int x4), .val (.int x5), .unset, .unset, .unset, .unset, .unset, .unset, .unset, .unset] [(.int (90 : Int32)), (.int (17 : Int32)), (.ref b1), (.ref b1)])) (fun tt_ kk_ => XS.bipush X51.here hx rfl (hb hby at_103) kk_) ?_
  obtain ⟨T54, h54, X54, eh54, W54, st54⟩ := stoB X51 hx hZ eh51 V51 (j := (17 : Int32)) (i := 17) (x := (90 : Int32)) (Ls := #[.val (.int x0), .val (.int x1), .val (.int x2), .val (.int x3), .val (.int x4), .val (.int x5), .unset, .unset, .unset, .unset, .unset, .unset, .unset, .unset]) (rest := [(.ref b1)]) (by decide) rfl (by decide) (hb hby at_105)
  have ta55 := Nat.lt_of_lt_of_le ta52 (Nat.le_of_eq W54.size.symm)
  have za56 : n0 ≤ h54.size := Nat.le_trans za53 (Nat.le_of_eq W54.size.symm)
  have V54 : LA Z h54 b1 .byte 40 (gl [(.int (97 : Int32).toInt8.toInt32), (.int (90 : Int32).toInt8.toInt32), (.int (48 : Int32).toInt8.toInt32), (.int (45 : Int32).toInt8.toInt32), (.int (122 : Int32).toInt8.toInt32), (.int (65 : Int32).toInt8.toInt32), (.int (57 : Int32).toInt8.toInt32), (.int (109 : Int32).toInt8.toInt32), (.int (97 : Int32).toInt8.toInt32), (.int (90 : Int32).toInt8.toInt32), (.int (48 : Int32).toInt8.toInt32), (.int (45 : Int32).toInt8.toInt32), (.int (122 : Int32).toInt8.toInt32), (.int (65 : Int32).toInt8.toInt32), (.int (57 : Int32).toInt8.toInt32), (.int (109 : Int32).toInt8.toInt32), (.int (97 : Int32).toInt8.toInt32), (.int (90 : Int32).toInt8.toInt32), (.int (0 : Int32)), (.int (0 : Int32)), (.int (0 : Int32)), (.int (0 : Int32)), (.int (0 : Int32)), (.int (0 : Int32)), (.int (0 : Int32)), (.int (0 : Int32)), (.int (0 : Int32)), (.int (0 : Int32)), (.int (0 : Int32)), (.int (0 : Int32)), (.int (0 : Int32)), (.int (0 : Int32)), (.int (0 : Int32)), (.int (0 : Int32)), (.int (0 : Int32)), (.int (0 : Int32)), (.int (0 : Int32)), (.int (0 : Int32)), (.int (0 : Int32)), (.int (0 : Int32))] (.int (0 : Int32))) := V51.setL W54 (Nat.le_of_ble_eq_true rfl)
  have N54 := Fr.snoc X54 N51 g_b1
  refine Gq.go (T54.setTop (mkF m 106 #[.val (.int x0), .val (.int x1), .val (.int x2), .val (.int x3), .val (.int x4), .val (.int x5), .unset, .unset, .unset, .unset, .unset, .unset, .unset, .unset] [(.ref b1)])) (fun tt_ kk_ => st54 tt_ kk_) ?_
  refine Gq.go (T54.setTop (mkF m 107 #[.val (.int x0), .val (.int x1), .val (.int x2), .val (.int x3), .val (.int x4), .val (.int x5), .unset, .unset, .unset, .unset, .unset, .unset, .unset, .unset] [(.ref b1), (.ref b1)])) (fun tt_ kk_ => XS.dup X54.here hx rfl (hb hby at_106) rfl rfl kk_) ?_
  refine Gq.go (T54.setTop (mkF m 109 #[.val (.int x0), .val (.int x1), .val (.int x2), .val (.int x3), .val (.int x4), .val (.int x5), .unset, .unset, .unset, .unset, .unset, .unset, .unset, .unset] [(.int (18 : Int32)), (.ref b1), (.ref b1)])) (fun tt_ kk_ => XS.bipush X54.here hx rfl (hb hby at_107) kk_) ?_
  refine Gq.go (T54.setTop (mkF m 111 #[.val (.int x0), .val (.int x1), .val (.int x2), .val (.int x3), .val (.int x4), .val (.int x5), .unset, .unset, .unset, .unset, .unset, .unset, .unset, .unset] [(.int (48 : Int32)), (.int (18 : Int32)), (.ref b1), (.ref b1)])) (fun tt_ kk_ => XS.bipush X54.here hx rfl (hb hby at_109) kk_) ?_
  obtain ⟨T57, h57, X57, eh57, W57, st57⟩ := stoB X54 hx hZ eh54 V54 (j := (18 : Int32)) (i := 18) (x := (48 : Int32)) (Ls := #[.val (.int x0), .val (.int x1), .val (.int x2), .val (.int x3), .val (.int x4), .val (.int x5), .unset, .unset, .unset, .unset, .unset, .unset, .unset, .unset]) (rest := [(.ref b1)]) (by decide) rfl (by decide) (hb hby at_111)
  have ta58 := Nat.lt_of_lt_of_le ta55 (Nat.le_of_eq W57.size.symm)
  have za59 : n0 ≤ h57.size := Nat.le_trans za56 (Nat.le_of_eq W57.size.symm)
  have V57 : LA Z h57 b1 .byte 40 (gl [(.int (97 : Int32).toInt8.toInt32), (.int (90 : Int32).toInt8.toInt32), (.int (48 : Int32).toInt8.toInt32), (.int (45 : Int32).toInt8.toInt32), (.int (122 : Int32).toInt8.toInt32), (.int (65 : Int32).toInt8.toInt32), (.int (57 : Int32).toInt8.toInt32), (.int (109 : Int32).toInt8.toInt32), (.int (97 : Int32).toInt8.toInt32), (.int (90 : Int32).toInt8.toInt32), (.int (48 : Int32).toInt8.toInt32), (.int (45 : Int32).toInt8.toInt32), (.int (122 : Int32).toInt8.toInt32), (.int (65 : Int32).toInt8.toInt32), (.int (57 : Int32).toInt8.toInt32), (.int (109 : Int32).toInt8.toInt32), (.int (97 : Int32).toInt8.toInt32), (.int (90 : Int32).toInt8.toInt32), (.int (48 : Int32).toInt8.toInt32), (.int (0 : Int32)), (.int (0 : Int32)), (.int (0 : Int32)), (.int (0 : Int32)), (.int (0 : Int32)), (.int (0 : Int32)), (.int (0 : Int32)), (.int (0 : Int32)), (.int (0 : Int32)), (.int (0 : Int32)), (.int (0 : Int32)), (.int (0 : Int32)), (.int (0 : Int32)), (.int (0 : Int32)), (.int (0 : Int32)), (.int (0 : Int32)), (.int (0 : Int32)), (.int (0 : Int32)), (.int (0 : Int32)), (.int (0 : Int32)), (.int (0 : Int32))] (.int (0 : Int32))) := V54.setL W57 (Nat.le_of_ble_eq_true rfl)
  have N57 := Fr.snoc X57 N54 g_b1
  refine Gq.go (T57.setTop (mkF m 112 #[.val (.int x0), .val (.int x1), .val (.int x2), .val (.int x3), .val (.int x4), .val (.int x5), .unset, .unset, .unset, .unset, .unset, .unset, .unset, .unset] [(.ref b1)])) (fun tt_ kk_ => st57 tt_ kk_) ?_
  refine Gq.go (T57.setTop (mkF m 113 #[.val (.int x0), .val (.int x1), .val (.int x2), .val (.int x3), .val (.int x4), .val (.int x5), .unset, .unset, .unset, .unset, .unset, .unset, .unset, .unset] [(.ref b1), (.ref b1)])) (fun tt_ kk_ => XS.dup X57.here hx rfl (hb hby at_112) rfl rfl kk_) ?_
  refine Gq.go (T57.setTop (mkF m 115 #[.val (.int x0), .val (.int x1), .val (.int x2), .val (.int x3), .val (.int x4), .val (.int x5), .unset, .unset, .unset, .unset, .unset, .unset, .unset, .unset] [(.int (19 : Int32)), (.ref b1), (.ref b1)])) (fun tt_ kk_ => XS.bipush X57.here hx rfl (hb hby at_113) kk_) ?_
  refine Gq.go (T57.setTop (mkF m 117 #[.val (.int x0), .val (.int x1), .val (.int x2), .val (.int x3), .val (.int x4), .val (.int x5), .unset, .unset, .unset, .unset, .unset, .unset, .unset, .unset] [(.int (45 : Int32)), (.int (19 : Int32)), (.ref b1), (.ref b1)])) (fun tt_ kk_ => XS.bipush X57.here hx rfl (hb hby at_115) kk_) ?_
  obtain ⟨T60, h60, X60, eh60, W60, st60⟩ := stoB X57 hx hZ eh57 V57 (j := (19 : Int32)) (i := 19) (x := (45 : Int32)) (Ls := #[.val (.int x0), .val (.int x1), .val (.int x2), .val (.int x3), .val (.int x4), .val (.int x5), .unset, .unset, .unset, .unset, .unset, .unset, .unset, .unset]) (rest := [(.ref b1)]) (by decide) rfl (by decide) (hb hby at_117)
  have ta61 := Nat.lt_of_lt_of_le ta58 (Nat.le_of_eq W60.size.symm)
  have za62 : n0 ≤ h60.size := Nat.le_trans za59 (Nat.le_of_eq W60.size.symm)
  have V60 : LA Z h60 b1 .byte 40 (gl [(.int (97 : Int32).toInt8.toInt32), (.int (90 : Int32).toInt8.toInt32), (.int (48 : Int32).toInt8.toInt32), (.int (45 : Int32).toInt8.toInt32), (.int (122 : Int32).toInt8.toInt32), (.int (65 : Int32).toInt8.toInt32), (.int (57 : Int32).toInt8.toInt32), (.int (109 : Int32).toInt8.toInt32), (.int (97 : Int32).toInt8.toInt32), (.int (90 : Int32).toInt8.toInt32), (.int (48 : Int32).toInt8.toInt32), (.int (45 : Int32).toInt8.toInt32), (.int (122 : Int32).toInt8.toInt32), (.int (65 : Int32).toInt8.toInt32), (.int (57 : Int32).toInt8.toInt32), (.int (109 : Int32).toInt8.toInt32), (.int (97 : Int32).toInt8.toInt32), (.int (90 : Int32).toInt8.toInt32), (.int (48 : Int32).toInt8.toInt32), (.int (45 : Int32).toInt8.toInt32), (.int (0 : Int32)), (.int (0 : Int32)), (.int (0 : Int32)), (.int (0 : Int32)), (.int (0 : Int32)), (.int (0 : Int32)), (.int (0 : Int32)), (.int (0 : Int32)), (.int (0 : Int32)), (.int (0 : Int32)), (.int (0 : Int32)), (.int (0 : Int32)), (.int (0 : Int32)), (.int (0 : Int32)), (.int (0 : Int32)), (.int (0 : Int32)), (.int (0 : Int32)), (.int (0 : Int32)), (.int (0 : Int32)), (.int (0 : Int32))] (.int (0 : Int32))) := V57.setL W60 (Nat.le_of_ble_eq_true rfl)
  have N60 := Fr.snoc X60 N57 g_b1
  refine Gq.go (T60.setTop (mkF m 118 #[.val (.int x0), .val (.int x1), .val (.int x2), .val (.int x3), .val (.int x4), .val (.int x5), .unset, .unset, .unset, .unset, .unset, .unset, .unset, .unset] [(.ref b1)])) (fun tt_ kk_ => st60 tt_ kk_) ?_
  refine Gq.go (T60.setTop (mkF m 119 #[.val (.int x0), .val (.int x1), .val (.int x2), .val (.int x3), .val (.int x4), .val (.int x5), .unset, .unset, .unset, .unset, .unset, .unset, .unset, .unset] [(.ref b1), (.ref b1)])) (fun tt_ kk_ => XS.dup X60.here hx rfl (hb hby at_118) rfl rfl kk_) ?_
  refine Gq.go (T60.setTop (mkF m 121 #[.val (.int x0), .val (.int x1), .val (.int x2), .val (.int x3), .val (.int x4), .val (.int x5), .unset, .unset, .unset, .unset, .unset, .unset, .unset, .unset] [(.int (20 : Int32)), (.ref b1), (.ref b1)])) (fun tt_ kk_ => XS.bipush X60.here hx rfl (hb hby at_119) kk_) ?_
  refine Gq.go (T60.setTop (mkF m 123 #[.val (.int x0), .val (.int x1), .val (.int x2), .val (.int x3), .val (.int x4), .val (.int x5), .unset, .unset, .unset, .unset, .unset, .unset, .unset, .unset] [(.int (122 : Int32)), (.int (20 : Int32)), (.ref b1), (.ref b1)])) (fun tt_ kk_ => XS.bipush X60.here hx rfl (hb hby at_121) kk_) ?_
  obtain ⟨T63, h63, X63, eh63, W63, st63⟩ := stoB X60 hx hZ eh60 V60 (j := (20 : Int32)) (i := 20) (x := (122 : Int32)) (Ls := #[.val (.int x0), .val (.int x1), .val (.int x2), .val (.int x3), .val (.int x4), .val (.int x5), .unset, .unset, .unset, .unset, .unset, .unset, .unset, .unset]) (rest := [(.ref b1)]) (by decide) rfl (by decide) (hb hby at_123)
  have ta64 := Nat.lt_of_lt_of_le ta61 (Nat.le_of_eq W63.size.symm)
  have za65 : n0 ≤ h63.size := Nat.le_trans za62 (Nat.le_of_eq W63.size.symm)
  have V63 : LA Z h63 b1 .byte 40 (gl [(.int (97 : Int32).toInt8.toInt32), (.int (90 : Int32).toInt8.toInt32), (.int (48 : Int32).toInt8.toInt32), (.int (45 : Int32).toInt8.toInt32), (.int (122 : Int32).toInt8.toInt32), (.int (65 : Int32).toInt8.toInt32), (.int (57 : Int32).toInt8.toInt32), (.int (109 : Int32).toInt8.toInt32), (.int (97 : Int32).toInt8.toInt32), (.int (90 : Int32).toInt8.toInt32), (.int (48 : Int32).toInt8.toInt32), (.int (45 : Int32).toInt8.toInt32), (.int (122 : Int32).toInt8.toInt32), (.int (65 : Int32).toInt8.toInt32), (.int (57 : Int32).toInt8.toInt32), (.int (109 : Int32).toInt8.toInt32), (.int (97 : Int32).toInt8.toInt32), (.int (90 : Int32).toInt8.toInt32), (.int (48 : Int32).toInt8.toInt32), (.int (45 : Int32).toInt8.toInt32), (.int (122 : Int32).toInt8.toInt32), (.int (0 : Int32)), (.int (0 : Int32)), (.int (0 : Int32)), (.int (0 : Int32)), (.int (0 : Int32)), (.int (0 : Int32)), (.int (0 : Int32)), (.int (0 : Int32)), (.int (0 : Int32)), (.int (0 : Int32)), (.int (0 : Int32)), (.int (0 : Int32)), (.int (0 : Int32)), (.int (0 : Int32)), (.int (0 : Int32)), (.int (0 : Int32)), (.int (0 : Int32)), (.int (0 : Int32)), (.int (0 : Int32))] (.int (0 : Int32))) := V60.setL W63 (Nat.le_of_ble_eq_true rfl)
  have N63 := Fr.snoc X63 N60 g_b1
  refine Gq.go (T63.setTop (mkF m 124 #[.val (.int x0), .val (.int x1), .val (.int x2), .val (.int x3), .val (.int x4), .val (.int x5), .unset, .unset, .unset, .unset, .unset, .unset, .unset, .unset] [(.ref b1)])) (fun tt_ kk_ => st63 tt_ kk_) ?_
  refine Gq.go (T63.setTop (mkF m 125 #[.val (.int x0), .val (.int x1), .val (.int x2), .val (.int x3), .val (.int x4), .val (.int x5), .unset, .unset, .unset, .unset, .unset, .unset, .unset, .unset] [(.ref b1), (.ref b1)])) (fun tt_ kk_ => XS.dup X63.here hx rfl (hb hby at_124) rfl rfl kk_) ?_
  refine Gq.go (T63.setTop (mkF m 127 #[.val (.int x0), .val (.int x1), .val (.int x2), .val (.int x3), .val (.int x4), .val (.int x5), .unset, .unset, .unset, .unset, .unset, .unset, .unset, .unset] [(.int (21 : Int32)), (.ref b1), (.ref b1)])) (fun tt_ kk_ => XS.bipush X63.here hx rfl (hb hby at_125) kk_) ?_
  refine Gq.go (T63.setTop (mkF m 129 #[.val (.int x0), .val (.int x1), .val (.int x2), .val (.int x3), .val (.int x4), .val (.int x5), .unset, .unset, .unset, .unset, .unset, .unset, .unset, .unset] [(.int (65 : Int32)), (.int (21 : Int32)), (.ref b1), (.ref b1)])) (fun tt_ kk_ => XS.bipush X63.here hx rfl (hb hby at_127) kk_) ?_
  obtain ⟨T66, h66, X66, eh66, W66, st66⟩ := stoB X63 hx hZ eh63 V63 (j := (21 : Int32)) (i := 21) (x := (65 : Int32)) (Ls := #[.val (.int x0), .val (.int x1), .val (.int x2), .val (.int x3), .val (.int x4), .val (.int x5), .unset, .unset, .unset, .unset, .unset, .unset, .unset, .unset]) (rest := [(.ref b1)]) (by decide) rfl (by decide) (hb hby at_129)
  have ta67 := Nat.lt_of_lt_of_le ta64 (Nat.le_of_eq W66.size.symm)
  have za68 : n0 ≤ h66.size := Nat.le_trans za65 (Nat.le_of_eq W66.size.symm)
  have V66 : LA Z h66 b1 .byte 40 (gl [(.int (97 : Int32).toInt8.toInt32), (.int (90 : Int32).toInt8.toInt32), (.int (48 : Int32).toInt8.toInt32), (.int (45 : Int32).toInt8.toInt32), (.int (122 : Int32).toInt8.toInt32), (.int (65 : Int32).toInt8.toInt32), (.int (57 : Int32).toInt8.toInt32), (.int (109 : Int32).toInt8.toInt32), (.int (97 : Int32).toInt8.toInt32), (.int (90 : Int32).toInt8.toInt32), (.int (48 : Int32).toInt8.toInt32), (.int (45 : Int32).toInt8.toInt32), (.int (122 : Int32).toInt8.toInt32), (.int (65 : Int32).toInt8.toInt32), (.int (57 : Int32).toInt8.toInt32), (.int (109 : Int32).toInt8.toInt32), (.int (97 : Int32).toInt8.toInt32), (.int (90 : Int32).toInt8.toInt32), (.int (48 : Int32).toInt8.toInt32), (.int (45 : Int32).toInt8.toInt32), (.int (122 : Int32).toInt8.toInt32), (.int (65 : Int32).toInt8.toInt32), (.int (0 : Int32)), (.int (0 : Int32)), (.int (0 : Int32)), (.int (0 : Int32)), (.int (0 : Int32)), (.int (0 : Int32)), (.int (0 : Int32)), (.int (0 : Int32)), (.int (0 : Int32)), (.int (0 : Int32)), (.int (0 : Int32)), (.int (0 : Int32)), (.int (0 : Int32)), (.int (0 : Int32)), (.int (0 : Int32)), (.int (0 : Int32)), (.int (0 : Int32)), (.int (0 : Int32))] (.int (0 : Int32))) := V63.setL W66 (Nat.le_of_ble_eq_true rfl)
  have N66 := Fr.snoc X66 N63 g_b1
  refine Gq.go (T66.setTop (mkF m 130 #[.val (.int x0), .val (.int x1), .val (.int x2), .val (.int x3), .val (.int x4), .val (.int x5), .unset, .unset, .unset, .unset, .unset, .unset, .unset, .unset] [(.ref b1)])) (fun tt_ kk_ => st66 tt_ kk_) ?_
  refine Gq.go (T66.setTop (mkF m 131 #[.val (.int x0), .val (.int x1), .val (.int x2), .val (.int x3), .val (.int x4), .val (.int x5), .unset, .unset, .unset, .unset, .unset, .unset, .unset, .unset] [(.ref b1), (.ref b1)])) (fun tt_ kk_ => XS.dup X66.here hx rfl (hb hby at_130) rfl rfl kk_) ?_
  refine Gq.go (T66.setTop (mkF m 133 #[.val (.int x0), .val (.int x1), .val (.int x2), .val (.int x3), .val (.int x4), .val (.int x5), .unset, .unset, .unset, .unset, .unset, .unset, .unset, .unset] [(.int (22 : Int32)), (.ref b1), (.ref b1)])) (fun tt_ kk_ => XS.bipush X66.here hx rfl (hb hby at_131) kk_) ?_
  refine Gq.go (T66.setTop (mkF m 135 #[.val (.int x0), .val (.int x1), .val (.int x2), .val (.int x3), .val (.int x4), .val (.int x5), .unset, .unset, .unset, .unset, .unset, .unset, .unset, .unset] [(.int (57 : Int32)), (.int (22 : Int32)), (.ref b1), (.ref b1)])) (fun tt_ kk_ => XS.bipush X66.here hx rfl (hb hby at_133) kk_) ?_
  obtain ⟨T69, h69, X69, eh69, W69, st69⟩ := stoB X66 hx hZ eh66 V66 (j := (22 : Int32)) (i := 22) (x := (57 : Int32)) (Ls := #[.val (.int x0), .val (.int x1), .val (.int x2), .val (.int x3), .val (.int x4), .val (.int x5), .unset, .unset, .unset, .unset, .unset, .unset, .unset, .unset]) (rest := [(.ref b1)]) (by decide) rfl (by decide) (hb hby at_135)
  have ta70 := Nat.lt_of_lt_of_le ta67 (Nat.le_of_eq W69.size.symm)
  have za71 : n0 ≤ h69.size := Nat.le_trans za68 (Nat.le_of_eq W69.size.symm)
  have V69 : LA Z h69 b1 .byte 40 (gl [(.int (97 : Int32).toInt8.toInt32), (.int (90 : Int32).toInt8.toInt32), (.int (48 : Int32).toInt8.toInt32), (.int (45 : Int32).toInt8.toInt32), (.int (122 : Int32).toInt8.toInt32), (.int (65 : Int32).toInt8.toInt32), (.int (57 : Int32).toInt8.toInt32), (.int (109 : Int32).toInt8.toInt32), (.int (97 : Int32).toInt8.toInt32), (.int (90 : Int32).toInt8.toInt32), (.int (48 : Int32).toInt8.toInt32), (.int (45 : Int32).toInt8.toInt32), (.int (122 : Int32).toInt8.toInt32), (.int (65 : Int32).toInt8.toInt32), (.int (57 : Int32).toInt8.toInt32), (.int (109 : Int32).toInt8.toInt32), (.int (97 : Int32).toInt8.toInt32), (.int (90 : Int32).toInt8.toInt32), (.int (48 : Int32).toInt8.toInt32), (.int (45 : Int32).toInt8.toInt32), (.int (122 : Int32).toInt8.toInt32), (.int (65 : Int32).toInt8.toInt32), (.int (57 : Int32).toInt8.toInt32), (.int (0 : Int32)), (.int (0 : Int32)), (.int (0 : Int32)), (.int (0 : Int32)), (.int (0 : Int32)), (.int (0 : Int32)), (.int (0 : Int32)), (.int (0 : Int32)), (.int (0 : Int32)), (.int (0 : Int32)), (.int (0 : Int32)), (.int (0 : Int32)), (.int (0 : Int32)), (.int (0 : Int32)), (.int (0 : Int32)), (.int (0 : Int32)), (.int (0 : Int32))] (.int (0 : Int32))) := V66.setL W69 (Nat.le_of_ble_eq_true rfl)
  have N69 := Fr.snoc X69 N66 g_b1
  refine Gq.go (T69.setTop (mkF m 136 #[.val (.int x0), .val (.int x1), .val (.int x2), .val (.int x3), .val (.int x4), .val (.int x5), .unset, .unset, .unset, .unset, .unset, .unset, .unset, .unset] [(.ref b1)])) (fun tt_ kk_ => st69 tt_ kk_) ?_
  refine Gq.go (T69.setTop (mkF m 137 #[.val (.int x0), .val (.int x1), .val (.int x2), .val (.int x3), .val (.int x4), .val (.int x5), .unset, .unset, .unset, .unset, .unset, .unset, .unset, .unset] [(.ref b1), (.ref b1)])) (fun tt_ kk_ => XS.dup X69.here hx rfl (hb hby at_136) rfl rfl kk_) ?_
  refine Gq.go (T69.setTop (mkF m 139 #[.val (.int x0), .val (.int x1), .val (.int x2), .val (.int x3), .val (.int x4), .val (.int x5), .unset, .unset, .unset, .unset, .unset, .unset, .unset, .unset] [(.int (23 : Int32)), (.ref b1), (.ref b1)])) (fun tt_ kk_ => XS.bipush X69.here hx rfl (hb hby at_137) kk_) ?_
  refine Gq.go (T69.setTop (mkF m 141 #[.val (.int x0), .val (.int x1), .val (.int x2), .val (.int x3), .val (.int x4), .val (.int x5), .unset, .unset, .unset, .unset, .unset, .unset, .unset, .unset] [(.int (109 : Int32)), (.int (23 : Int32)), (.ref b1), (.ref b1)])) (fun tt_ kk_ => XS.bipush X69.here hx rfl (hb hby at_139) kk_) ?_
  obtain ⟨T72, h72, X72, eh72, W72, st72⟩ := stoB X69 hx hZ eh69 V69 (j := (23 : Int32)) (i := 23) (x := (109 : Int32)) (Ls := #[.val (.int x0), .val (.int x1), .val (.int x2), .val (.int x3), .val (.int x4), .val (.int x5), .unset, .unset, .unset, .unset, .unset, .unset, .unset, .unset]) (rest := [(.ref b1)]) (by decide) rfl (by decide) (hb hby at_141)
  have ta73 := Nat.lt_of_lt_of_le ta70 (Nat.le_of_eq W72.size.symm)
  have za74 : n0 ≤ h72.size := Nat.le_trans za71 (Nat.le_of_eq W72.size.symm)
  have V72 : LA Z h72 b1 .byte 40 (gl [(.int (97 : Int32).toInt8.toInt32), (.int (90 : Int32).toInt8.toInt32), (.int (48 : Int32).toInt8.toInt32), (.int (45 : Int32).toInt8.toInt32), (.int (122 : Int32).toInt8.toInt32), (.int (65 : Int32).toInt8.toInt32), (.int (57 : Int32).toInt8.toInt32), (.int (109 : Int32).toInt8.toInt32), (.int (97 : Int32).toInt8.toInt32), (.int (90 : Int32).toInt8.toInt32), (.int (48 : Int32).toInt8.toInt32), (.int (45 : Int32).toInt8.toInt32), (.int (122 : Int32).toInt8.toInt32), (.int (65 : Int32).toInt8.toInt32), (.int (57 : Int32).toInt8.toInt32), (.int (109 : Int32).toInt8.toInt32), (.int (97 : Int32).toInt8.toInt32), (.int (90 : Int32).toInt8.toInt32), (.int (48 : Int32).toInt8.toInt32), (.int (45 : Int32).toInt8.toInt32), (.int (122 : Int32).toInt8.toInt32), (.int (65 : Int32).toInt8.toInt32), (.int (57 : Int32).toInt8.toInt32), (.int (109 : Int32).toInt8.toInt32), (.int (0 : Int32)), (.int (0 : Int32)), (.int (0 : Int32)), (.int (0 : Int32)), (.int (0 : Int32)), (.int (0 : Int32)), (.int (0 : Int32)), (.int (0 : Int32)), (.int (0 : Int32)), (.int (0 : Int32)), (.int (0 : Int32)), (.int (0 : Int32)), (.int (0 : Int32)), (.int (0 : Int32)), (.int (0 : Int32)), (.int (0 : Int32))] (.int (0 : Int32))) := V69.setL W72 (Nat.le_of_ble_eq_true rfl)
  have N72 := Fr.snoc X72 N69 g_b1
  refine Gq.go (T72.setTop (mkF m 142 #[.val (.int x0), .val (.int x1), .val (.int x2), .val (.int x3), .val (.int x4), .val (.int x5), .unset, .unset, .unset, .unset, .unset, .unset, .unset, .unset] [(.ref b1)])) (fun tt_ kk_ => st72 tt_ kk_) ?_
  refine Gq.go (T72.setTop (mkF m 143 #[.val (.int x0), .val (.int x1), .val (.int x2), .val (.int x3), .val (.int x4), .val (.int x5), .unset, .unset, .unset, .unset, .unset, .unset, .unset, .unset] [(.ref b1), (.ref b1)])) (fun tt_ kk_ => XS.dup X72.here hx rfl (hb hby at_142) rfl rfl kk_) ?_
  refine Gq.go (T72.setTop (mkF m 145 #[.val (.int x0), .val (.int x1), .val (.int x2), .val (.int x3), .val (.int x4), .val (.int x5), .unset, .unset, .unset, .unset, .unset, .unset, .unset, .unset] [(.int (24 : Int32)), (.ref b1), (.ref b1)])) (fun tt_ kk_ => XS.bipush X72.here hx rfl (hb hby at_143) kk_) ?_
  refine Gq.go (T72.setTop (mkF m 147 #[.val (.int x0), .val (.int x1), .val (.int x2), .val (.int x3), .val (.int x4), .val (.int x5), .unset, .unset, .unset, .unset, .unset, .unset, .unset, .unset] [(.int (97 : Int32)), (.int (24 : Int32)), (.ref b1), (.ref b1)])) (fun tt_ kk_ => XS.bipush X72.here hx rfl (hb hby at_145) kk_) ?_
  obtain ⟨T75, h75, X75, eh75, W75, st75⟩ := stoB X72 hx hZ eh72 V72 (j := (24 : Int32)) (i := 24) (x := (97 : Int32)) (Ls := #[.val (.int x0), .val (.int x1), .val (.int x2), .val (.int x3), .val (.int x4), .val (.int x5), .unset, .unset, .unset, .unset, .unset, .unset, .unset, .unset]) (rest := [(.ref b1)]) (by decide) rfl (by decide) (hb hby at_147)
  have ta76 := Nat.lt_of_lt_of_le ta73 (Nat.le_of_eq W75.size.symm)
  have za77 : n0 ≤ h75.size := Nat.le_trans za74 (Nat.le_of_eq W75.size.symm)
  have V75 : LA Z h75 b1 .byte 40 (gl [(.int (97 : Int32).toInt8.toInt32), (.int (90 : Int32).toInt8.toInt32), (.int (48 : Int32).toInt8.toInt32), (.int (45 : Int32).toInt8.toInt32), (.int (122 : Int32).toInt8.toInt32), (.int (65 : Int32).toInt8.toInt32), (.int (57 : Int32).toInt8.toInt32), (.int (109 : Int32).toInt8.toInt32), (.int (97 : Int32).toInt8.toInt32), (.int (90 : Int32).toInt8.toInt32), (.int (48 : Int32).toInt8.toInt32), (.int (45 : Int32).toInt8.toInt32), (.int (122 : Int32).toInt8.toInt32), (.int (65 : Int32).toInt8.toInt32), (.int (57 : Int32).toInt8.toInt32), (.int (109 : Int32).toInt8.toInt32), (.int (97 : Int32).toInt8.toInt32), (.int (90 : Int32).toInt8.toInt32), (.int (48 : Int32).toInt8.toInt32), (.int (45 : Int32).toInt8.toInt32), (.int (122 : Int32).toInt8.toInt32), (.int (65 : Int32).toInt8.toInt32), (.int (57 : Int32).toInt8.toInt32), (.int (109 : Int32).toInt8.toInt32), (.int (97 : Int32).toInt8.toInt32), (.int (0 : Int32)), (.int (0 : Int32)), (.int (0 : Int32)), (.int (0 : Int32)), (.int (0 : Int32)), (.int (0 : Int32)), (.int (0 : Int32)), (.int (0 : Int32)), (.int (0 : Int32)), (.int (0 : Int32)), (.int (0 : Int32)), (.int (0 : Int32)), (.int (0 : Int32)), (.int (0 : Int32)), (.int (0 : Int32))] (.int (0 : Int32))) := V72.setL W75 (Nat.le_of_ble_eq_true rfl)
  have N75 := Fr.snoc X75 N72 g_b1
  refine Gq.go (T75.setTop (mkF m 148 #[.val (.int x0), .val (.int x1), .val (.int x2), .val (.int x3), .val (.int x4), .val (.int x5), .unset, .unset, .unset, .unset, .unset, .unset, .unset, .unset] [(.ref b1)])) (fun tt_ kk_ => st75 tt_ kk_) ?_
  refine Gq.go (T75.setTop (mkF m 149 #[.val (.int x0), .val (.int x1), .val (.int x2), .val (.int x3), .val (.int x4), .val (.int x5), .unset, .unset, .unset, .unset, .unset, .unset, .unset, .unset] [(.ref b1), (.ref b1)])) (fun tt_ kk_ => XS.dup X75.here hx rfl (hb hby at_148) rfl rfl kk_) ?_
  refine Gq.go (T75.setTop (mkF m 151 #[.val (.int x0), .val (.int x1), .val (.int x2), .val (.int x3), .val (.int x4), .val (.int x5), .unset, .unset, .unset, .unset, .unset, .unset, .unset, .unset] [(.int (25 : Int32)), (.ref b1), (.ref b1)])) (fun tt_ kk_ => XS.bipush X75.here hx rfl (hb hby at_149) kk_) ?_
  refine Gq.go (T75.setTop (mkF m 153 #[.val (.int x0), .val (.int x1), .val (.int x2), .val (.int x3), .val (.int x4), .val (.int x5), .unset, .unset, .unset, .unset, .unset, .unset, .unset, .unset] [(.int (90 : Int32)), (.int (25 : Int32)), (.ref b1), (.ref b1)])) (fun tt_ kk_ => XS.bipush X75.here hx rfl (hb hby at_151) kk_) ?_
  obtain ⟨T78, h78, X78, eh78, W78, st78⟩ := stoB X75 hx hZ eh75 V75 (j := (25 : Int32)) (i := 25) (x := (90 : Int32)) (Ls := #[.val (.int x0), .val (.int x1), .val (.int x2), .val (.int x3), .val (.int x4), .val (.int x5), .unset, .unset, .unset, .unset, .unset, .unset, .unset, .unset]) (rest := [(.ref b1)]) (by decide) rfl (by decide) (hb hby at_153)
  have ta79 := Nat.lt_of_lt_of_le ta76 (Nat.le_of_eq W78.size.symm)
  have za80 : n0 ≤ h78.size := Nat.le_trans za77 (Nat.le_of_eq W78.size.symm)
  have V78 : LA Z h78 b1 .byte 40 (gl [(.int (97 : Int32).toInt8.toInt32), (.int (90 : Int32).toInt8.toInt32), (.int (48 : Int32).toInt8.toInt32), (.int (45 : Int32).toInt8.toInt32), (.int (122 : Int32).toInt8.toInt32), (.int (65 : Int32).toInt8.toInt32), (.int (57 : Int32).toInt8.toInt32), (.int (109 : Int32).toInt8.toInt32), (.int (97 : Int32).toInt8.toInt32), (.int (90 : Int32).toInt8.toInt32), (.int (48 : Int32).toInt8.toInt32), (.int (45 : Int32).toInt8.toInt32), (.int (122 : Int32).toInt8.toInt32), (.int (65 : Int32).toInt8.toInt32), (.int (57 : Int32).toInt8.toInt32), (.int (109 : Int32).toInt8.toInt32), (.int (97 : Int32).toInt8.toInt32), (.int (90 : Int32).toInt8.toInt32), (.int (48 : Int32).toInt8.toInt32), (.int (45 : Int32).toInt8.toInt32), (.int (122 : Int32).toInt8.toInt32), (.int (65 : Int32).toInt8.toInt32), (.int (57 : Int32).toInt8.toInt32), (.int (109 : Int32).toInt8.toInt32), (.int (97 : Int32).toInt8.toInt32), (.int (90 : Int32).toInt8.toInt32), (.int (0 : Int32)), (.int (0 : Int32)), (.int (0 : Int32)), (.int (0 : Int32)), (.int (0 : Int32)), (.int (0 : Int32)), (.int (0 : Int32)), (.int (0 : Int32)), (.int (0 : Int32)), (.int (0 : Int32)), (.int (0 : Int32)), (.int (0 : Int32)), (.int (0 : Int32)), (.int (0 : Int32))] (.int (0 : Int32))) := V75.setL W78 (Nat.le_of_ble_eq_true rfl)
  have N78 := Fr.snoc X78 N75 g_b1
  refine Gq.go (T78.setTop (mkF m 154 #[.val (.int x0), .val (.int x1), .val (.int x2), .val (.int x3), .val (.int x4), .val (.int x5), .unset, .unset, .unset, .unset, .unset, .unset, .unset, .unset] [(.ref b1)])) (fun tt_ kk_ => st78 tt_ kk_) ?_
  refine Gq.go (T78.setTop (mkF m 155 #[.val (.int x0), .val (.int x1), .val (.int x2), .val (.int x3), .val (.int x4), .val (.int x5), .unset, .unset, .unset, .unset, .unset, .unset, .unset, .unset] [(.ref b1), (.ref b1)])) (fun tt_ kk_ => XS.dup X78.here hx rfl (hb hby at_154) rfl rfl kk_) ?_
  refine Gq.go (T78.setTop (mkF m 157 #[.val (.int x0), .val (.int x1), .val (.int x2), .val (.int x3), .val (.int x4), .val (.int x5), .unset, .unset, .unset, .unset, .unset, .unset, .unset, .unset] [(.int (26 : Int32)), (.ref b1), (.ref b1)])) (fun tt_ kk_ => XS.bipush X78.here hx rfl (hb hby at_155) kk_) ?_
  refine Gq.go (T78.setTop (mkF m 159 #[.val (.int x0), .val (.int x1), .val (.int x2), .val (.int x3), .val (.int x4), .val (.int x5), .unset, .unset, .unset, .unset, .unset, .unset, .unset, .unset] [(.int (48 : Int32)), (.int (26 : Int32)), (.ref b1), (.ref b1)])) (fun tt_ kk_ => XS.bipush X78.here hx rfl (hb hby at_157) kk_) ?_
  obtain ⟨T81, h81, X81, eh81, W81, st81⟩ := stoB X78 hx hZ eh78 V78 (j := (26 : Int32)) (i := 26) (x := (48 : Int32)) (Ls := #[.val (.int x0), .val (.int x1), .val (.int x2), .val (.int x3), .val (.int x4), .val (.int x5), .unset, .unset, .unset, .unset, .unset, .unset, .unset, .unset]) (rest := [(.ref b1)]) (by decide) rfl (by decide) (hb hby at_159)
  have ta82 := Nat.lt_of_lt_of_le ta79 (Nat.le_of_eq W81.size.symm)
  have za83 : n0 ≤ h81.size := Nat.le_trans za80 (Nat.le_of_eq W81.size.symm)
  have V81 : LA Z h81 b1 .byte 40 (gl [(.int (97 : Int32).toInt8.toInt32), (.int (90 : Int32).toInt8.toInt32), (.int (48 : Int32).toInt8.toInt32), (.int (45 : Int32).toInt8.toInt32), (.int (122 : Int32).toInt8.toInt32), (.int (65 : Int32).toInt8.toInt32), (.int (57 : Int32).toInt8.toInt32), (.int (109 : Int32).toInt8.toInt32), (.int (97 : Int32).toInt8.toInt32), (.int (90 : Int32).toInt8.toInt32), (.int (48 : Int32).toInt8.toInt32), (.int (45 : Int32).toInt8.toInt32), (.int (122 : Int32).toInt8.toInt32), (.int (65 : Int32).toInt8.toInt32), (.int (57 : Int32).toInt8.toInt32), (.int (109 : Int32).toInt8.toInt32), (.int (97 : Int32).toInt8.toInt32), (.int (90 : Int32).toInt8.toInt32), (.int (48 : Int32).toInt8.toInt32), (.int (45 : Int32).toInt8.toInt32), (.int (122 : Int32).toInt8.toInt32), (.int (65 : Int32).toInt8.toInt32), (.int (57 : Int32).toInt8.toInt32), (.int (109 : Int32).toInt8.toInt32), (.int (97 : Int32).toInt8.toInt32), (.int (90 : Int32).toInt8.toInt32), (.int (48 : Int32).toInt8.toInt32), (.int (0 : Int32)), (.int (0 : Int32)), (.int (0 : Int32)), (.int (0 : Int32)), (.int (0 : Int32)), (.int (0 : Int32)), (.int (0 : Int32)), (.int (0 : Int32)), (.int (0 : Int32)), (.int (0 : Int32)), (.int (0 : Int32)), (.int (0 : Int32)), (.int (0 : Int32))] (.int (0 : Int32))) := V78.setL W81 (Nat.le_of_ble_eq_true rfl)
  have N81 := Fr.snoc X81 N78 g_b1
  refine Gq.go (T81.setTop (mkF m 160 #[.val (.int x0), .val (.int x1), .val (.int x2), .val (.int x3), .val (.int x4), .val (.int x5), .unset, .unset, .unset, .unset, .unset, .unset, .unset, .unset] [(.ref b1)])) (fun tt_ kk_ => st81 tt_ kk_) ?_
  refine Gq.go (T81.setTop (mkF m 161 #[.val (.int x0), .val (.int x1), .val (.int x2), .val (.int x3), .val (.int x4), .val (.int x5), .unset, .unset, .unset, .unset, .unset, .unset, .unset, .unset] [(.ref b1), (.ref b1)])) (fun tt_ kk_ => XS.dup X81.here hx rfl (hb hby at_160) rfl rfl kk_) ?_
  refine Gq.go (T81.setTop (mkF m 163 #[.val (.int x0), .val (.int x1), .val (.int x2), .val (.int x3), .val (.int x4), .val (.int x5), .unset, .unset, .unset, .unset, .unset, .unset, .unset, .unset] [(.int (27 : Int32)), (.ref b1), (.ref b1)])) (fun tt_ kk_ => XS.bipush X81.here hx rfl (hb hby at_161) kk_) ?_
  refine Gq.go (T81.setTop (mkF m 165 #[.val (.int x0), .val (.int x1), .val (.int x2), .val (.int x3), .val (.int x4), .val (.int x5), .unset, .unset, .unset, .unset, .unset, .unset, .unset, .unset] [(.int (45 : Int32)), (.int (27 : Int32)), (.ref b1), (.ref b1)])) (fun tt_ kk_ => XS.bipush X81.here hx rfl (hb hby at_163) kk_) ?_
  obtain ⟨T84, h84, X84, eh84, W84, st84⟩ := stoB X81 hx hZ eh81 V81 (j := (27 : Int32)) (i := 27) (x := (45 : Int32)) (Ls := #[.val (.int x0), .val (.int x1), .val (.int x2), .val (.int x3), .val (.int x4), .val (.int x5), .unset, .unset, .unset, .unset, .unset, .unset, .unset, .unset]) (rest := [(.ref b1)]) (by decide) rfl (by decide) (hb hby at_165)
  have ta85 := Nat.lt_of_lt_of_le ta82 (Nat.le_of_eq W84.size.symm)
  have za86 : n0 ≤ h84.size := Nat.le_trans za83 (Nat.le_of_eq W84.size.symm)
  have V84 : LA Z h84 b1 .byte 40 (gl [(.int (97 : Int32).toInt8.toInt32), (.int (90 : Int32).toInt8.toInt32), (.int (48 : Int32).toInt8.toInt32), (.int (45 : Int32).toInt8.toInt32), (.int (122 : Int32).toInt8.toInt32), (.int (65 : Int32).toInt8.toInt32), (.int (57 : Int32).toInt8.toInt32), (.int (109 : Int32).toInt8.toInt32), (.int (97 : Int32).toInt8.toInt32), (.int (90 : Int32).toInt8.toInt32), (.int (48 : Int32).toInt8.toInt32), (.int (45 : Int32).toInt8.toInt32), (.int (122 : Int32).toInt8.toInt32), (.int (65 : Int32).toInt8.toInt32), (.int (57 : Int32).toInt8.toInt32), (.int (109 : Int32).toInt8.toInt32), (.int (97 : Int32).toInt8.toInt32), (.int (90 : Int32).toInt8.toInt32), (.int (48 : Int32).toInt8.toInt32), (.int (45 : Int32).toInt8.toInt32), (.int (122 : Int32).toInt8.toInt32), (.int (65 : Int32).toInt8.toInt32), (.int (57 : Int32).toInt8.toInt32), (.int (109 : Int32).toInt8.toInt32), (.int (97 : Int32).toInt8.toInt32), (.int (90 : Int32).toInt8.toInt32), (.int (48 : Int32).toInt8.toInt32), (.int (45 : Int32).toInt8.toInt32), (.int (0 : Int32)), (.int (0 : Int32)), (.int (0 : Int32)), (.int (0 : Int32)), (.int (0 : Int32)), (.int (0 : Int32)), (.int (0 : Int32)), (.int (0 : Int32)), (.int (0 : Int32)), (.int (0 : Int32)), (.int (0 : Int32)), (.int (0 : Int32))] (.int (0 : Int32))) := V81.setL W84 (Nat.le_of_ble_eq_true rfl)
  have N84 := Fr.snoc X84 N81 g_b1
  refine Gq.go (T84.setTop (mkF m 166 #[.val (.int x0), .val (.int x1), .val (.int x2), .val (.int x3), .val (.int x4), .val (.int x5), .unset, .unset, .unset, .unset, .unset, .unset, .unset, .unset] [(.ref b1)])) (fun tt_ kk_ => st84 tt_ kk_) ?_
  refine Gq.go (T84.setTop (mkF m 167 #[.val (.int x0), .val (.int x1), .val (.int x2), .val (.int x3), .val (.int x4), .val (.int x5), .unset, .unset, .unset, .unset, .unset, .unset, .unset, .unset] [(.ref b1), (.ref b1)])) (fun tt_ kk_ => XS.dup X84.here hx rfl (hb hby at_166) rfl rfl kk_) ?_
  refine Gq.go (T84.setTop (mkF m 169 #[.val (.int x0), .val (.int x1), .val (.int x2), .val (.int x3), .val (.int x4), .val (.int x5), .unset, .unset, .unset, .unset, .unset, .unset, .unset, .unset] [(.int (28 : Int32)), (.ref b1), (.ref b1)])) (fun tt_ kk_ => XS.bipush X84.here hx rfl (hb hby at_167) kk_) ?_
  refine Gq.go (T84.setTop (mkF m 171 #[.val (.int x0), .val (.int x1), .val (.int x2), .val (.int x3), .val (.int x4), .val (.int x5), .unset, .unset, .unset, .unset, .unset, .unset, .unset, .unset] [(.int (122 : Int32)), (.int (28 : Int32)), (.ref b1), (.ref b1)])) (fun tt_ kk_ => XS.bipush X84.here hx rfl (hb hby at_169) kk_) ?_
  obtain ⟨T87, h87, X87, eh87, W87, st87⟩ := stoB X84 hx hZ eh84 V84 (j := (28 : Int32)) (i := 28) (x := (122 : Int32)) (Ls := #[.val (.int x0), .val (.int x1), .val (.int x2), .val (.int x3), .val (.int x4), .val (.int x5), .unset, .unset, .unset, .unset, .unset, .unset, .unset, .unset]) (rest := [(.ref b1)]) (by decide) rfl (by decide) (hb hby at_171)
  have ta88 := Nat.lt_of_lt_of_le ta85 (Nat.le_of_eq W87.size.symm)
  have za89 : n0 ≤ h87.size := Nat.le_trans za86 (Nat.le_of_eq W87.size.symm)
  have V87 : LA Z h87 b1 .byte 40 (gl [(.int (97 : Int32).toInt8.toInt32), (.int (90 : Int32).toInt8.toInt32), (.int (48 : Int32).toInt8.toInt32), (.int (45 : Int32).toInt8.toInt32), (.int (122 : Int32).toInt8.toInt32), (.int (65 : Int32).toInt8.toInt32), (.int (57 : Int32).toInt8.toInt32), (.int (109 : Int32).toInt8.toInt32), (.int (97 : Int32).toInt8.toInt32), (.int (90 : Int32).toInt8.toInt32), (.int (48 : Int32).toInt8.toInt32), (.int (45 : Int32).toInt8.toInt32), (.int (122 : Int32).toInt8.toInt32), (.int (65 : Int32).toInt8.toInt32), (.int (57 : Int32).toInt8.toInt32), (.int (109 : Int32).toInt8.toInt32), (.int (97 : Int32).toInt8.toInt32), (.int (90 : Int32).toInt8.toInt32), (.int (48 : Int32).toInt8.toInt32), (.int (45 : Int32).toInt8.toInt32), (.int (122 : Int32).toInt8.toInt32), (.int (65 : Int32).toInt8.toInt32), (.int (57 : Int32).toInt8.toInt32), (.int (109 : Int32).toInt8.toInt32), (.int (97 : Int32).toInt8.toInt32), (.int (90 : Int32).toInt8.toInt32), (.int (48 : Int32).toInt8.toInt32), (.int (45 : Int32).toInt8.toInt32), (.int (122 : Int32).toInt8.toInt32), (.int (0 : Int32)), (.int (0 : Int32)), (.int (0 : Int32)), (.int (0 : Int32)), (.int (0 : Int32)), (.int (0 : Int32)), (.int (0 : Int32)), (.int (0 : Int32)), (.int (0 : Int32)), (.int (0 : Int32)), (.int (0 : Int32))] (.int (0 : Int32))) := V84.setL W87 (Nat.le_of_ble_eq_true rfl)
  have N87 := Fr.snoc X87 N84 g_b1
  refine Gq.go (T87.setTop (mkF m 172 #[.val (.int x0), .val (.int x1), .val (.int x2), .val (.int x3), .val (.int x4), .val (.int x5), .unset, .unset, .unset, .unset, .unset, .unset, .unset, .unset] [(.ref b1)])) (fun tt_ kk_ => st87 tt_ kk_) ?_
  refine Gq.go (T87.setTop (mkF m 173 #[.val (.int x0), .val (.int x1), .val (.int x2), .val (.int x3), .val (.int x4), .val (.int x5), .unset, .unset, .unset, .unset, .unset, .unset, .unset, .unset] [(.ref b1), (.ref b1)])) (fun tt_ kk_ => XS.dup X87.here hx rfl (hb hby at_172) rfl rfl kk_) ?_
  refine Gq.go (T87.setTop (mkF m 175 #[.val (.int x0), .val (.int x1), .val (.int x2), .val (.int x3), .val (.int x4), .val (.int x5), .unset, .unset, .unset, .unset, .unset, .unset, .unset, .unset] [(.int (29 : Int32)), (.ref b1), (.ref b1)])) (fun tt_ kk_ => XS.bipush X87.here hx rfl (hb hby at_173) kk_) ?_
  refine Gq.go (T87.setTop (mkF m 177 #[.val (.int x0), .val (.int x1), .val (.int x2), .val (.int x3), .val (.int x4), .val (.int x5), .unset, .unset, .unset, .unset, .unset, .unset, .unset, .unset] [(.int (65 : Int32)), (.int (29 : Int32)), (.ref b1), (.ref b1)])) (fun tt_ kk_ => XS.bipush X87.here hx rfl (hb hby at_175) kk_) ?_
  obtain ⟨T90, h90, X90, eh90, W90, st90⟩ := stoB X87 hx hZ eh87 V87 (j := (29 : Int32)) (i := 29) (x := (65 : Int32)) (Ls := #[.val (.int x0), .val (.int x1), .val (.int x2), .val (.int x3), .val (.int x4), .val (.int x5), .unset, .unset, .unset, .unset, .unset, .unset, .unset, .unset]) (rest := [(.ref b1)]) (by decide) rfl (by decide) (hb hby at_177)
  have ta91 := Nat.lt_of_lt_of_le ta88 (Nat.le_of_eq W90.size.symm)
  have za92 : n0 ≤ h90.size := Nat.le_trans za89 (Nat.le_of_eq W90.size.symm)
  have V90 : LA Z h90 b1 .byte 40 (gl [(.int (97 : Int32).toInt8.toInt32), (.int (90 : Int32).toInt8.toInt32), (.int (48 : Int32).toInt8.toInt32), (.int (45 : Int32).toInt8.toInt32), (.int (122 : Int32).toInt8.toInt32), (.int (65 : Int32).toInt8.toInt32), (.int (57 : Int32).toInt8.toInt32), (.int (109 : Int32).toInt8.toInt32), (.int (97 : Int32).toInt8.toInt32), (.int (90 : Int32).toInt8.toInt32), (.int (48 : Int32).toInt8.toInt32), (.int (45 : Int32).toInt8.toInt32), (.int (122 : Int32).toInt8.toInt32), (.int (65 : Int32).toInt8.toInt32), (.int (57 : Int32).toInt8.toInt32), (.int (109 : Int32).toInt8.toInt32), (.int (97 : Int32).toInt8.toInt32), (.int (90 : Int32).toInt8.toInt32), (.int (48 : Int32).toInt8.toInt32), (.int (45 : Int32).toInt8.toInt32), (.int (122 : Int32).toInt8.toInt32), (.int (65 : Int32).toInt8.toInt32), (.int (57 : Int32).toInt8.toInt32), (.int (109 : Int32).toInt8.toInt32), (.int (97 : Int32).toInt8.toInt32), (.int (90 : Int32).toInt8.toInt32), (.int (48 : Int32).toInt8.toInt32), (.int (45 : Int32).toInt8.toInt32), (.int (122 : Int32).toInt8.toInt32), (.int (65 : Int32).toInt8.toInt32), (.int (0 : Int32)), (.int (0 : Int32)), (.int (0 : Int32)), (.int (0 : Int32)), (.int (0 : Int32)), (.int (0 : Int32)), (.int (0 : Int32)), (.int (0 : Int32)), (.int (0 : Int32)), (.int (0 : Int32))] (.int (0 : Int32))) := V87.setL W90 (Nat.le_of_ble_eq_true rfl)
  have N90 := Fr.snoc X90 N87 g_b1
  refine Gq.go (T90.setTop (mkF m 178 #[.val (.int x0), .val (.int x1), .val (.int x2), .val (.int x3), .val (.int x4), .val (.int x5), .unset, .unset, .unset, .unset, .unset, .unset, .unset, .unset] [(.ref b1)])) (fun tt_ kk_ => st90 tt_ kk_) ?_
  refine Gq.go (T90.setTop (mkF m 179 #[.val (.int x0), .val (.int x1), .val (.int x2), .val (.int x3), .val (.int x4), .val (.int x5), .unset, .unset, .unset, .unset, .unset, .unset, .unset, .unset] [(.ref b1), (.ref b1)])) (fun tt_ kk_ => XS.dup X90.here hx rfl (hb hby at_178) rfl rfl kk_) ?_
  refine Gq.go (T90.setTop (mkF m 181 #[.val (.int x0), .val (.int x1), .val (.int x2), .val (.int x3), .val (.int x4), .val (.int x5), .unset, .unset, .unset, .unset, .unset, .unset, .unset, .unset] [(.int (30 : Int32)), (.ref b1), (.ref b1)])) (fun tt_ kk_ => XS.bipush X90.here hx rfl (hb hby at_179) kk_) ?_
  refine Gq.go (T90.setTop (mkF m 183 #[.val (.int x0), .val (.int x1), .val (.int x2), .val (.int x3), .val (.int x4), .val (.int x5), .unset, .unset, .unset, .unset, .unset, .unset, .unset, .unset] [(.int (57 : Int32)), (.int (30 : Int32)), (.ref b1), (.ref b1)])) (fun tt_ kk_ => XS.bipush X90.here hx rfl (hb hby at_181) kk_) ?_
  obtain ⟨T93, h93, X93, eh93, W93, st93⟩ := stoB X90 hx hZ eh90 V90 (j := (30 : Int32)) (i := 30) (x := (57 : Int32)) (Ls := #[.val (.int x0), .val (.int x1), .val (.int x2), .val (.int x3), .val (.int x4), .val (.int x5), .unset, .unset, .unset, .unset, .unset, .unset, .unset, .unset]) (rest := [(.ref b1)]) (by decide) rfl (by decide) (hb hby at_183)
  have ta94 := Nat.lt_of_lt_of_le ta91 (Nat.le_of_eq W93.size.symm)
  have za95 : n0 ≤ h93.size := Nat.le_trans za92 (Nat.le_of_eq W93.size.symm)
  have V93 : LA Z h93 b1 .byte 40 (gl [(.int (97 : Int32).toInt8.toInt32), (.int (90 : Int32).toInt8.toInt32), (.int (48 : Int32).toInt8.toInt32), (.int (45 : Int32).toInt8.toInt32), (.int (122 : Int32).toInt8.toInt32), (.int (65 : Int32).toInt8.toInt32), (.int (57 : Int32).toInt8.toInt32), (.int (109 : Int32).toInt8.toInt32), (.int (97 : Int32).toInt8.toInt32), (.int (90 : Int32).toInt8.toInt32), (.int (48 : Int32).toInt8.toInt32), (.int (45 : Int32).toInt8.toInt32), (.int (122 : Int32).toInt8.toInt32), (.int (65 : Int32).toInt8.toInt32), (.int (57 : Int32).toInt8.toInt32), (.int (109 : Int32).toInt8.toInt32), (.int (97 : Int32).toInt8.toInt32), (.int (90 : Int32).toInt8.toInt32), (.int (48 : Int32).toInt8.toInt32), (.int (45 : Int32).toInt8.toInt32), (.int (122 : Int32).toInt8.toInt32), (.int (65 : Int32).toInt8.toInt32), (.int (57 : Int32).toInt8.toInt32), (.int (109 : Int32).toInt8.toInt32), (.int (97 : Int32).toInt8.toInt32), (.int (90 : Int32).toInt8.toInt32), (.int (48 : Int32).toInt8.toInt32), (.int (45 : Int32).toInt8.toInt32), (.int (122 : Int32).toInt8.toInt32), (.int (65 : Int32).toInt8.toInt32), (.int (57 : Int32).toInt8.toInt32), (.int (0 : Int32)), (.int (0 : Int32)), (.int (0 : Int32)), (.int (0 : Int32)), (.int (0 : Int32)), (.int (0 : Int32)), (.int (0 : Int32)), (.int (0 : Int32)), (.int (0 : Int32))] (.int (0 : Int32))) := V90.setL W93 (Nat.le_of_ble_eq_true rfl)
  have N93 := Fr.snoc X93 N90 g_b1
  refine Gq.go (T93.setTop (mkF m 184 #[.val (.int x0), .val (.int x1), .val (.int x2), .val (.int x3), .val (.int x4), .val (.int x5), .unset, .unset, .unset, .unset, .unset, .unset, .unset, .unset] [(.ref b1)])) (fun tt_ kk_ => st93 tt_ kk_) ?_
  refine Gq.go (T93.setTop (mkF m 185 #[.val (.int x0), .val (.int x1), .val (.int x2), .val (.int x3), .val (.int x4), .val (.int x5), .unset, .unset, .unset, .unset, .unset, .unset, .unset, .unset] [(.ref b1), (.ref b1)])) (fun tt_ kk_ => XS.dup X93.here hx rfl (hb hby at_184) rfl rfl kk_) ?_
  refine Gq.go (T93.setTop (mkF m 187 #[.val (.int x0), .val (.int x1), .val (.int x2), .val (.int x3), .val (.int x4), .val (.int x5), .unset, .unset, .unset, .unset, .unset, .unset, .unset, .unset] [(.int (31 : Int32)), (.ref b1), (.ref b1)])) (fun tt_ kk_ => XS.bipush X93.here hx rfl (hb hby at_185) kk_) ?_
  refine Gq.go (T93.setTop (mkF m 189 #[.val (.int x0), .val (.int x1), .val (.int x2), .val (.int x3), .val (.int x4), .val (.int x5), .unset, .unset, .unset, .unset, .unset, .unset, .unset, .unset] [(.int (109 : Int32)), (.int (31 : Int32)), (.ref b1), (.ref b1)])) (fun tt_ kk_ => XS.bipush X93.here hx rfl (hb hby at_187) kk_) ?_
  obtain ⟨T96, h96, X96, eh96, W96, st96⟩ := stoB X93 hx hZ eh93 V93 (j := (31 : Int32)) (i := 31) (x := (109 : Int32)) (Ls := #[.val (.int x0), .val (.int x1), .val (.int x2), .val (.int x3), .val (.int x4), .val (.int x5), .unset, .unset, .unset, .unset, .unset, .unset, .unset, .unset]) (rest := [(.ref b1)]) (by decide) rfl (by decide) (hb hby at_189)
  have ta97 := Nat.lt_of_lt_of_le ta94 (Nat.le_of_eq W96.size.symm)
  have za98 : n0 ≤ h96.size := Nat.le_trans za95 (Nat.le_of_eq W96.size.symm)
  have V96 : LA Z h96 b1 .byte 40 (gl [(.int (97 : Int32).toInt8.toInt32), (.int (90 : Int32).toInt8.toInt32), (.int (48 : Int32).toInt8.toInt32), (.int (45 : Int32).toInt8.toInt32), (.int (122 : Int32).toInt8.toInt32), (.int (65 : Int32).toInt8.toInt32), (.int (57 : Int32).toInt8.toInt32), (.int (109 : Int32).toInt8.toInt32), (.int (97 : Int32).toInt8.toInt32), (.int (90 : Int32).toInt8.toInt32), (.int (48 : Int32).toInt8.toInt32), (.int (45 : Int32).toInt8.toInt32), (.int (122 : Int32).toInt8.toInt32), (.int (65 : Int32).toInt8.toInt32), (.int (57 : Int32).toInt8.toInt32), (.int (109 : Int32).toInt8.toInt32), (.int (97 : Int32).toInt8.toInt32), (.int (90 : Int32).toInt8.toInt32), (.int (48 : Int32).toInt8.toInt32), (.int (45 : Int32).toInt8.toInt32), (.int (122 : Int32).toInt8.toInt32), (.int (65 : Int32).toInt8.toInt32), (.int (57 : Int32).toInt8.toInt32), (.int (109 : Int32).toInt8.toInt32), (.int (97 : Int32).toInt8.toInt32), (.int (90 : Int32).toInt8.toInt32), (.int (48 : Int32).toInt8.toInt32), (.int (45 : Int32).toInt8.toInt32), (.int (122 : Int32).toInt8.toInt32), (.int (65 : Int32).toInt8.toInt32), (.int (57 : Int32).toInt8.toInt32), (.int (109 : Int32).toInt8.toInt32), (.int (0 : Int32)), (.int (0 : Int32)), (.int (0 : Int32)), (.int (0 : Int32)), (.int (0 : Int32)), (.int (0 : Int32)), (.int (0 : Int32)), (.int (0 : Int32))] (.int (0 : Int32))) := V93.setL W96 (Nat.le_of_ble_eq_true rfl)
  have N96 := Fr.snoc X96 N93 g_b1
  refine Gq.go (T96.setTop (mkF m 190 #[.val (.int x0), .val (.int x1), .val (.int x2), .val (.int x3), .val (.int x4), .val (.int x5), .unset, .unset, .unset, .unset, .unset, .unset, .unset, .unset] [(.ref b1)])) (fun tt_ kk_ => st96 tt_ kk_) ?_
  refine Gq.go (T96.setTop (mkF m 191 #[.val (.int x0), .val (.int x1), .val (.int x2), .val (.int x3), .val (.int x4), .val (.int x5), .unset, .unset, .unset, .unset, .unset, .unset, .unset, .unset] [(.ref b1), (.ref b1)])) (fun tt_ kk_ => XS.dup X96.here hx rfl (hb hby at_190) rfl rfl kk_) ?_
  refine Gq.go (T96.setTop (mkF m 193 #[.val (.int x0), .val (.int x1), .val (.int x2), .val (.int x3), .val (.int x4), .val (.int x5), .unset, .unset, .unset, .unset, .unset, .unset, .unset, .unset] [(.int (32 : Int32)), (.ref b1), (.ref b1)])) (fun tt_ kk_ => XS.bipush X96.here hx rfl (hb hby at_191) kk_) ?_
  refine Gq.go (T96.setTop (mkF m 195 #[.val (.int x0), .val (.int x1), .val (.int x2), .val (.int x3), .val (.int x4), .val (.int x5), .unset, .unset, .unset, .unset, .unset, .unset, .unset, .unset] [(.int (97 : Int32)), (.int (32 : Int32)), (.ref b1), (.ref b1)])) (fun tt_ kk_ => XS.bipush X96.here hx rfl (hb hby at_193) kk_) ?_
  obtain ⟨T99, h99, X99, eh99, W99, st99⟩ := stoB X96 hx hZ eh96 V96 (j := (32 : Int32)) (i := 32) (x := (97 : Int32)) (Ls := #[.val (.int x0), .val (.int x1), .val (.int x2), .val (.int x3), .val (.int x4), .val (.int x5), .unset, .unset, .unset, .unset, .unset, .unset, .unset, .unset]) (rest := [(.ref b1)]) (by decide) rfl (by decide) (hb hby at_195)
  have ta100 := Nat.lt_of_lt_of_le ta97 (Nat.le_of_eq W99.size.symm)
  have za101 : n0 ≤ h99.size := Nat.le_trans za98 (Nat.le_of_eq W99.size.symm)
  have V99 : LA Z h99 b1 .byte 40 (gl [(.int (97 : Int32).toInt8.toInt32), (.int (90 : Int32).toInt8.toInt32), (.int (48 : Int32).toInt8.toInt32), (.int (45 : Int32).toInt8.toInt32), (.int (122 : Int32).toInt8.toInt32), (.int (65 : Int32).toInt8.toInt32), (.int (57 : Int32).toInt8.toInt32), (.int (109 : Int32).toInt8.toInt32), (.int (97 : Int32).toInt8.toInt32), (.int (90 : Int32).toInt8.toInt32), (.int (48 : Int32).toInt8.toInt32), (.int (45 : Int32).toInt8.toInt32), (.int (122 : Int32).toInt8.toInt32), (.int (65 : Int32).toInt8.toInt32), (.int (57 : Int32).toInt8.toInt32), (.int (109 : Int32).toInt8.toInt32), (.int (97 : Int32).toInt8.toInt32), (.int (90 : Int32).toInt8.toInt32), (.int (48 : Int32).toInt8.toInt32), (.int (45 : Int32).toInt8.toInt32), (.int (122 : Int32).toInt8.toInt32), (.int (65 : Int32).toInt8.toInt32), (.int (57 : Int32).toInt8.toInt32), (.int (109 : Int32).toInt8.toInt32), (.int (97 : Int32).toInt8.toInt32), (.int (90 : Int32).toInt8.toInt32), (.int (48 : Int32).toInt8.toInt32), (.int (45 : Int32).toInt8.toInt32), (.int (122 : Int32).toInt8.toInt32), (.int (65 : Int32).toInt8.toInt32), (.int (57 : Int32).toInt8.toInt32), (.int (109 : Int32).toInt8.toInt32), (.int (97 : Int32).toInt8.toInt32), (.int (0 : Int32)), (.int (0 : Int32)), (.int (0 : Int32)), (.int (0 : Int32)), (.int (0 : Int32)), (.int (0 : Int32)), (.int (0 : Int32))] (.int (0 : Int32))) := V96.setL W99 (Nat.le_of_ble_eq_true rfl)
  have N99 := Fr.snoc X99 N96 g_b1
  refine Gq.go (T99.setTop (mkF m 196 #[.val (.int x0), .val (.int x1), .val (.int x2), .val (.int x3), .val (.int x4), .val (.int x5), .unset, .unset, .unset, .unset, .unset, .unset, .unset, .unset] [(.ref b1)])) (fun tt_ kk_ => st99 tt_ kk_) ?_
  refine Gq.go (T99.setTop (mkF m 197 #[.val (.int x0), .val (.int x1), .val (.int x2), .val (.int x3), .val (.int x4), .val (.int x5), .unset, .unset, .unset, .unset, .unset, .unset, .unset, .unset] [(.ref b1), (.ref b1)])) (fun tt_ kk_ => XS.dup X99.here hx rfl (hb hby at_196) rfl rfl kk_) ?_
  refine Gq.go (T99.setTop (mkF m 199 #[.val (.int x0), .val (.int x1), .val (.int x2), .val (.int x3), .val (.int x4), .val (.int x5), .unset, .unset, .unset, .unset, .unset, .unset, .unset, .unset] [(.int (33 : Int32)), (.ref b1), (.ref b1)])) (fun tt_ kk_ => XS.bipush X99.here hx rfl (hb hby at_197) kk_) ?_
  refine Gq.go (T99.setTop (mkF m 201 #[.val (.int x0), .val (.int x1), .val (.int x2), .val (.int x3), .val (.int x4), .val (.int x5), .unset, .unset, .unset, .unset, .unset, .unset, .unset, .unset] [(.int (90 : Int32)), (.int (33 : Int32)), (.ref b1), (.ref b1)])) (fun tt_ kk_ => XS.bipush X99.here hx rfl (hb hby at_199) kk_) ?_
  obtain ⟨T102, h102, X102, eh102, W102, st102⟩ := stoB X99 hx hZ eh99 V99 (j := (33 : Int32)) (i := 33) (x := (90 : Int32)) (Ls := #[.val (.int x0), .val (.int x1), .val (.int x2), .val (.int x3), .val (.int x4), .val (.int x5), .unset, .unset, .unset, .unset, .unset, .unset, .unset, .unset]) (rest := [(.ref b1)]) (by decide) rfl (by decide) (hb hby at_201)
  have ta103 := Nat.lt_of_lt_of_le ta100 (Nat.le_of_eq W102.size.symm)
  have za104 : n0 ≤ h102.size := Nat.le_trans za101 (Nat.le_of_eq W102.size.symm)
  have V102 : LA Z h102 b1 .byte 40 (gl [(.int (97 : Int32).toInt8.toInt32), (.int (90 : Int32).toInt8.toInt32), (.int (48 : Int32).toInt8.toInt32), (.int (45 : Int32).toInt8.toInt32), (.int (122 : Int32).toInt8.toInt32), (.int (65 : Int32).toInt8.toInt32), (.int (57 : Int32).toInt8.toInt32), (.int (109 : Int32).toInt8.toInt32), (.int (97 : Int32).toInt8.toInt32), (.int (90 : Int32).toInt8.toInt32), (.int (48 : Int32).toInt8.toInt32), (.int (45 : Int32).toInt8.toInt32), (.int (122 : Int32).toInt8.toInt32), (.int (65 : Int32).toInt8.toInt32), (.int (57 : Int32).toInt8.toInt32), (.int (109 : Int32).toInt8.toInt32), (.int (97 : Int32).toInt8.toInt32), (.int (90 : Int32).toInt8.toInt32), (.int (48 : Int32).toInt8.toInt32), (.int (45 : Int32).toInt8.toInt32), (.int (122 : Int32).toInt8.toInt32), (.int (65 : Int32).toInt8.toInt32), (.int (57 : Int32).toInt8.toInt32), (.int (109 : Int32).toInt8.toInt32), (.int (97 : Int32).toInt8.toInt32), (.int (90 : Int32).toInt8.toInt32), (.int (48 : Int32).toInt8.toInt32), (.int (45 : Int32).toInt8.toInt32), (.int (122 : Int32).toInt8.toInt32), (.int (65 : Int32).toInt8.toInt32), (.int (57 : Int32).toInt8.toInt32), (.int (109 : Int32).toInt8.toInt32), (.int (97 : Int32).toInt8.toInt32), (.int (90 : Int32).toInt8.toInt32), (.int (0 : Int32)), (.int (0 : Int32)), (.int (0 : Int32)), (.int (0 : Int32)), (.int (0 : Int32)), (.int (0 : Int32))] (.int (0 : Int32))) := V99.setL W102 (Nat.le_of_ble_eq_true rfl)
  have N102 := Fr.snoc X102 N99 g_b1
  refine Gq.go (T102.setTop (mkF m 202 #[.val (.int x0), .val (.int x1), .val (.int x2), .val (.int x3), .val (.int x4), .val (.int x5), .unset, .unset, .unset, .unset, .unset, .unset, .unset, .unset] [(.ref b1)])) (fun tt_ kk_ => st102 tt_ kk_) ?_
  refine Gq.go (T102.setTop (mkF m 203 #[.val (.int x0), .val (.int x1), .val (.int x2), .val (.int x3), .val (.int x4), .val (.int x5), .unset, .unset, .unset, .unset, .unset, .unset, .unset, .unset] [(.ref b1), (.ref b1)])) (fun tt_ kk_ => XS.dup X102.here hx rfl (hb hby at_202) rfl rfl kk_) ?_
  refine Gq.go (T102.setTop (mkF m 205 #[.val (.int x0), .val (.int x1), .val (.int x2), .val (.int x3), .val (.int x4), .val (.int x5), .unset, .unset, .unset, .unset, .unset, .unset, .unset, .unset] [(.int (34 : Int32)), (.ref b1), (.ref b1)])) (fun tt_ kk_ => XS.bipush X102.here hx rfl (hb hby at_203) kk_) ?_
  refine Gq.go (T102.setTop (mkF m 207 #[.val (.int x0), .val (.int x1), .val (.int x2), .val (.int x3), .val (.int x4), .val (.int x5), .unset, .unset, .unset, .unset, .unset, .unset, .unset, .unset] [(.int (48 : Int32)), (.int (34 : Int32)), (.ref b1), (.ref b1)])) (fun tt_ kk_ => XS.bipush X102.here hx rfl (hb hby at_205) kk_) ?_
  obtain ⟨T105, h105, X105, eh105, W105, st105⟩ := stoB X102 hx hZ eh102 V102 (j := (34 : Int32)) (i := 34) (x := (48 : Int32)) (Ls := #[.val (.int x0), .val (.int x1), .val (.int x2), .val (.int x3), .val (.int x4), .val (.int x5), .unset, .unset, .unset, .unset, .unset, .unset, .unset, .unset]) (rest := [(.ref b1)]) (by decide) rfl (by decide) (hb hby at_207)
  have ta106 := Nat.lt_of_lt_of_le ta103 (Nat.le_of_eq W105.size.symm)
  have za107 : n0 ≤ h105.size := Nat.le_trans za104 (Nat.le_of_eq W105.size.symm)
  have V105 : LA Z h105 b1 .byte 40 (gl [(.int (97 : Int32).toInt8.toInt32), (.int (90 : Int32).toInt8.toInt32), (.int (48 : Int32).toInt8.toInt32), (.int (45 : Int32).toInt8.toInt32), (.int (122 : Int32).toInt8.toInt32), (.int (65 : Int32).toInt8.toInt32), (.int (57 : Int32).toInt8.toInt32), (.int (109 : Int32).toInt8.toInt32), (.int (97 : Int32).toInt8.toInt32), (.int (90 : Int32).toInt8.toInt32), (.int (48 : Int32).toInt8.toInt32), (.int (45 : Int32).toInt8.toInt32), (.int (122 : Int32).toInt8.toInt32), (.int (65 : Int32).toInt8.toInt32), (.int (57 : Int32).toInt8.toInt32), (.int (109 : Int32).toInt8.toInt32), (.int (97 : Int32).toInt8.toInt32), (.int (90 : Int32).toInt8.toInt32), (.int (48 : Int32).toInt8.toInt32), (.int (45 : Int32).toInt8.toInt32), (.int (122 : Int32).toInt8.toInt32), (.int (65 : Int32).toInt8.toInt32), (.int (57 : Int32).toInt8.toInt32), (.int (109 : Int32).toInt8.toInt32), (.int (97 : Int32).toInt8.toInt32), (.int (90 : Int32).toInt8.toInt32), (.int (48 : Int32).toInt8.toInt32), (.int (45 : Int32).toInt8.toInt32), (.int (122 : Int32).toInt8.toInt32), (.int (65 : Int32).toInt8.toInt32), (.int (57 : Int32).toInt8.toInt32), (.int (109 : Int32).toInt8.toInt32), (.int (97 : Int32).toInt8.toInt32), (.int (90 : Int32).toInt8.toInt32), (.int (48 : Int32).toInt8.toInt32), (.int (0 : Int32)), (.int (0 : Int32)), (.int (0 : Int32)), (.int (0 : Int32)), (.int (0 : Int32))] (.int (0 : Int32))) := V102.setL W105 (Nat.le_of_ble_eq_true rfl)
  have N105 := Fr.snoc X105 N102 g_b1
  refine Gq.go (T105.setTop (mkF m 208 #[.val (.int x0), .val (.int x1), .val (.int x2), .val (.int x3), .val (.int x4), .val (.int x5), .unset, .unset, .unset, .unset, .unset, .unset, .unset, .unset] [(.ref b1)])) (fun tt_ kk_ => st105 tt_ kk_) ?_
  refine Gq.go (T105.setTop (mkF m 209 #[.val (.int x0), .val (.int x1), .val (.int x2), .val (.int x3), .val (.int x4), .val (.int x5), .unset, .unset, .unset, .unset, .unset, .unset, .unset, .unset] [(.ref b1), (.ref b1)])) (fun tt_ kk_ => XS.dup X105.here hx rfl (hb hby at_208) rfl rfl kk_) ?_
  refine Gq.go (T105.setTop (mkF m 211 #[.val (.int x0), .val (.int x1), .val (.int x2), .val (.int x3), .val (.int x4), .val (.int x5), .unset, .unset, .unset, .unset, .unset, .unset, .unset, .unset] [(.int (35 : Int32)), (.ref b1), (.ref b1)])) (fun tt_ kk_ => XS.bipush X105.here hx rfl (hb hby at_209) kk_) ?_
  refine Gq.go (T105.setTop (mkF m 213 #[.val (.int x0), .val (.int x1), .val (.int x2), .val (.int x3), .val (.int x4), .val (.int x5), .unset, .unset, .unset, .unset, .unset, .unset, .unset, .unset] [(.int (45 : Int32)), (.int (35 : Int32)), (.ref b1), (.ref b1)])) (fun tt_ kk_ => XS.bipush X105.here hx rfl (hb hby at_211) kk_) ?_
  obtain ⟨T108, h108, X108, eh108, W108, st108⟩ := stoB X105 hx hZ eh105 V105 (j := (35 : Int32)) (i := 35) (x := (45 : Int32)) (Ls := #[.val (.int x0), .val (.int x1), .val (.int x2), .val (.int x3), .val (.int x4), .val (.int x5), .unset, .unset, .unset, .unset, .unset, .unset, .unset, .unset]) (rest := [(.ref b1)]) (by decide) rfl (by decide) (hb hby at_213)
  have ta109 := Nat.lt_of_lt_of_le ta106 (Nat.le_of_eq W108.size.symm)
  have za110 : n0 ≤ h108.size := Nat.le_trans za107 (Nat.le_of_eq W108.size.symm)
  have V108 : LA Z h108 b1 .byte 40 (gl [(.int (97 : Int32).toInt8.toInt32), (.int (90 : Int32).toInt8.toInt32), (.int (48 : Int32).toInt8.toInt32), (.int (45 : Int32).toInt8.toInt32), (.int (122 : Int32).toInt8.toInt32), (.int (65 : Int32).toInt8.toInt32), (.int (57 : Int32).toInt8.toInt32), (.int (109 : Int32).toInt8.toInt32), (.int (97 : Int32).toInt8.toInt32), (.int (90 : Int32).toInt8.toInt32), (.int (48 : Int32).toInt8.toInt32), (.int (45 : Int32).toInt8.toInt32), (.int (122 : Int32).toInt8.toInt32), (.int (65 : Int32).toInt8.toInt32), (.int (57 : Int32).toInt8.toInt32), (.int (109 : Int32).toInt8.toInt32), (.int (97 : Int32).toInt8.toInt32), (.int (90 : Int32).toInt8.toInt32), (.int (48 : Int32).toInt8.toInt32), (.int (45 : Int32).toInt8.toInt32), (.int (122 : Int32).toInt8.toInt32), (.int (65 : Int32).toInt8.toInt32), (.int (57 : Int32).toInt8.toInt32), (.int (109 : Int32).toInt8.toInt32), (.int (97 : Int32).toInt8.toInt32), (.int (90 : Int32).toInt8.toInt32), (.int (48 : Int32).toInt8.toInt32), (.int (45 : Int32).toInt8.toInt32), (.int (122 : Int32).toInt8.toInt32), (.int (65 : Int32).toInt8.toInt32), (.int (57 : Int32).toInt8.toInt32), (.int (109 : Int32).toInt8.toInt32), (.int (97 : Int32).toInt8.toInt32), (.int (90 : Int32).toInt8.toInt32), (.int (48 : Int32).toInt8.toInt32), (.int (45 : Int32).toInt8.toInt32), (.int (0 : Int32)), (.int (0 : Int32)), (.int (0 : Int32)), (.int (0 : Int32))] (.int (0 : Int32))) := V105.setL W108 (Nat.le_of_ble_eq_true rfl)
  have N108 := Fr.snoc X108 N105 g_b1
  refine Gq.go (T108.setTop (mkF m 214 #[.val (.int x0), .val (.int x1), .val (.int x2), .val (.int x3), .val (.int x4), .val (.int x5), .unset, .unset, .unset, .unset, .unset, .unset, .unset, .unset] [(.ref b1)])) (fun tt_ kk_ => st108 tt_ kk_) ?_
  refine Gq.go (T108.setTop (mkF m 215 #[.val (.int x0), .val (.int x1), .val (.int x2), .val (.int x3), .val (.int x4), .val (.int x5), .unset, .unset, .unset, .unset, .unset, .unset, .unset, .unset] [(.ref b1), (.ref b1)])) (fun tt_ kk_ => XS.dup X108.here hx rfl (hb hby at_214) rfl rfl kk_) ?_
  refine Gq.go (T108.setTop (mkF m 217 #[.val (.int x0), .val (.int x1), .val (.int x2), .val (.int x3), .val (.int x4), .val (.int x5), .unset, .unset, .unset, .unset, .unset, .unset, .unset, .unset] [(.int (36 : Int32)), (.ref b1), (.ref b1)])) (fun tt_ kk_ => XS.bipush X108.here hx rfl (hb hby at_215) kk_) ?_
  refine Gq.go (T108.setTop (mkF m 219 #[.val (.int x0), .val (.int x1), .val (.int x2), .val (.int x3), .val (.int x4), .val (.int x5), .unset, .unset, .unset, .unset, .unset, .unset, .unset, .unset] [(.int (122 : Int32)), (.int (36 : Int32)), (.ref b1), (.ref b1)])) (fun tt_ kk_ => XS.bipush X108.here hx rfl (hb hby at_217) kk_) ?_
  obtain ⟨T111, h111, X111, eh111, W111, st111⟩ := stoB X108 hx hZ eh108 V108 (j := (36 : Int32)) (i := 36) (x := (122 : Int32)) (Ls := #[.val (.int x0), .val (.int x1), .val (.int x2), .val (.int x3), .val (.int x4), .val (.int x5), .unset, .unset, .unset, .unset, .unset, .unset, .unset, .unset]) (rest := [(.ref b1)]) (by decide) rfl (by decide) (hb hby at_219)
  have ta112 := Nat.lt_of_lt_of_le ta109 (Nat.le_of_eq W111.size.symm)
  have za113 : n0 ≤ h111.size := Nat.le_trans za110 (Nat.le_of_eq W111.size.symm)
  have V111 : LA Z h111 b1 .byte 40 (gl [(.int (97 : Int32).toInt8.toInt32), (.int (90 : Int32).toInt8.toInt32), (.int (48 : Int32).toInt8.toInt32), (.int (45 : Int32).toInt8.toInt32), (.int (122 : Int32).toInt8.toInt32), (.int (65 : Int32).toInt8.toInt32), (.int (57 : Int32).toInt8.toInt32), (.int (109 : Int32).toInt8.toInt32), (.int (97 : Int32).toInt8.toInt32), (.int (90 : Int32).toInt8.toInt32), (.int (48 : Int32).toInt8.toInt32), (.int (45 : Int32).toInt8.toInt32), (.int (122 : Int32).toInt8.toInt32), (.int (65 : Int32).toInt8.toInt32), (.int (57 : Int32).toInt8.toInt32), (.int (109 : Int32).toInt8.toInt32), (.int (97 : Int32).toInt8.toInt32), (.int (90 : Int32).toInt8.toInt32), (.int (48 : Int32).toInt8.toInt32), (.int (45 : Int32).toInt8.toInt32), (.int (122 : Int32).toInt8.toInt32), (.int (65 : Int32).toInt8.toInt32), (.int (57 : Int32).toInt8.toInt32), (.int (109 : Int32).toInt8.toInt32), (.int (97 : Int32).toInt8.toInt32), (.int (90 : Int32).toInt8.toInt32), (.int (48 : Int32).toInt8.toInt32), (.int (45 : Int32).toInt8.toInt32), (.int (122 : Int32).toInt8.toInt32), (.int (65 : Int32).toInt8.toInt32), (.int (57 : Int32).toInt8.toInt32), (.int (109 : Int32).toInt8.toInt32), (.int (97 : Int32).toInt8.toInt32), (.int (90 : Int32).toInt8.toInt32), (.int (48 : Int32).toInt8.toInt32), (.int (45 : Int32).toInt8.toInt32), (.int (122 : Int32).toInt8.toInt32), (.int (0 : Int32)), (.int (0 : Int32)), (.int (0 : Int32))] (.int (0 : Int32))) := V108.setL W111 (Nat.le_of_ble_eq_true rfl)
  have N111 := Fr.snoc X111 N108 g_b1
  refine Gq.go (T111.setTop (mkF m 220 #[.val (.int x0), .val (.int x1), .val (.int x2), .val (.int x3), .val (.int x4), .val (.int x5), .unset, .unset, .unset, .unset, .unset, .unset, .unset, .unset] [(.ref b1)])) (fun tt_ kk_ => st111 tt_ kk_) ?_
  refine Gq.go (T111.setTop (mkF m 221 #[.val (.int x0), .val (.int x1), .val (.int x2), .val (.int x3), .val (.int x4), .val (.int x5), .unset, .unset, .unset, .unset, .unset, .unset, .unset, .unset] [(.ref b1), (.ref b1)])) (fun tt_ kk_ => XS.dup X111.here hx rfl (hb hby at_220) rfl rfl kk_) ?_
  refine Gq.go (T111.setTop (mkF m 223 #[.val (.int x0), .val (.int x1), .val (.int x2), .val (.int x3), .val (.int x4), .val (.int x5), .unset, .unset, .unset, .unset, .unset, .unset, .unset, .unset] [(.int (37 : Int32)), (.ref b1), (.ref b1)])) (fun tt_ kk_ => XS.bipush X111.here hx rfl (hb hby at_221) kk_) ?_
  refine Gq.go (T111.setTop (mkF m 225 #[.val (.int x0), .val (.int x1), .val (.int x2), .val (.int x3), .val (.int x4), .val (.int x5), .unset, .unset, .unset, .unset, .unset, .unset, .unset, .unset] [(.int (65 : Int32)), (.int (37 : Int32)), (.ref b1), (.ref b1)])) (fun tt_ kk_ => XS.bipush X111.here hx rfl (hb hby at_223) kk_) ?_
  obtain ⟨T114, h114, X114, eh114, W114, st114⟩ := stoB X111 hx hZ eh111 V111 (j := (37 : Int32)) (i := 37) (x := (65 : Int32)) (Ls := #[.val (.int x0), .val (.int x1), .val (.int x2), .val (.int x3), .val (.int x4), .val (.int x5), .unset, .unset, .unset, .unset, .unset, .unset, .unset, .unset]) (rest := [(.ref b1)]) (by decide) rfl (by decide) (hb hby at_225)
  have ta115 := Nat.lt_of_lt_of_le ta112 (Nat.le_of_eq W114.size.symm)
  have za116 : n0 ≤ h114.size := Nat.le_trans za113 (Nat.le_of_eq W114.size.symm)
  have V114 : LA Z h114 b1 .byte 40 (gl [(.int (97 : Int32).toInt8.toInt32), (.int (90 : Int32).toInt8.toInt32), (.int (48 : Int32).toInt8.toInt32), (.int (45 : Int32).toInt8.toInt32), (.int (122 : Int32).toInt8.toInt32), (.int (65 : Int32).toInt8.toInt32), (.int (57 : Int32).toInt8.toInt32), (.int (109 : Int32).toInt8.toInt32), (.int (97 : Int32).toInt8.toInt32), (.int (90 : Int32).toInt8.toInt32), (.int (48 : Int32).toInt8.toInt32), (.int (45 : Int32).toInt8.toInt32), (.int (122 : Int32).toInt8.toInt32), (.int (65 : Int32).toInt8.toInt32), (.int (57 : Int32).toInt8.toInt32), (.int (109 : Int32).toInt8.toInt32), (.int (97 : Int32).toInt8.toInt32), (.int (90 : Int32).toInt8.toInt32), (.int (48 : Int32).toInt8.toInt32), (.int (45 : Int32).toInt8.toInt32), (.int (122 : Int32).toInt8.toInt32), (.int (65 : Int32).toInt8.toInt32), (.int (57 : Int32).toInt8.toInt32), (.int (109 : Int32).toInt8.toInt32), (.int (97 : Int32).toInt8.toInt32), (.int (90 : Int32).toInt8.toInt32), (.int (48 : Int32).toInt8.toInt32), (.int (45 : Int32).toInt8.toInt32), (.int (122 : Int32).toInt8.toInt32), (.int (65 : Int32).toInt8.toInt32), (.int (57 : Int32).toInt8.toInt32), (.int (109 : Int32).toInt8.toInt32), (.int (97 : Int32).toInt8.toInt32), (.int (90 : Int32).toInt8.toInt32), (.int (48 : Int32).toInt8.toInt32), (.int (45 : Int32).toInt8.toInt32), (.int (122 : Int32).toInt8.toInt32), (.int (65 : Int32).toInt8.toInt32), (.int (0 : Int32)), (.int (0 : Int32))] (.int (0 : Int32))) := V111.setL W114 (Nat.le_of_ble_eq_true rfl)
  have N114 := Fr.snoc X114 N111 g_b1
  refine Gq.go (T114.setTop (mkF m 226 #[.val (.int x0), .val (.int x1), .val (.int x2), .val (.int x3), .val (.int x4), .val (.int x5), .unset, .unset, .unset, .unset, .unset, .unset, .unset, .unset] [(.ref b1)])) (fun tt_ kk_ => st114 tt_ kk_) ?_
  refine Gq.go (T114.setTop (mkF m 227 #[.val (.int x0), .val (.int x1), .val (.int x2), .val (.int x3), .val (.int x4), .val (.int x5), .unset, .unset, .unset, .unset, .unset, .unset, .unset, .unset] [(.ref b1), (.ref b1)])) (fun tt_ kk_ => XS.dup X114.here hx rfl (hb hby at_226) rfl rfl kk_) ?_
  refine Gq.go (T114.setTop (mkF m 229 #[.val (.int x0), .val (.int x1), .val (.int x2), .val (.int x3), .val (.int x4), .val (.int x5), .unset, .unset, .unset, .unset, .unset, .unset, .unset, .unset] [(.int (38 : Int32)), (.ref b1), (.ref b1)])) (fun tt_ kk_ => XS.bipush X114.here hx rfl (hb hby at_227) kk_) ?_
  refine Gq.go (T114.setTop (mkF m 231 #[.val (.int x0), .val (.int x1), .val (.int x2), .val (.int x3), .val (.int x4), .val (.int x5), .unset, .unset, .unset, .unset, .unset, .unset, .unset, .unset] [(.int (57 : Int32)), (.int (38 : Int32)), (.ref b1), (.ref b1)])) (fun tt_ kk_ => XS.bipush X114.here hx rfl (hb hby at_229) kk_) ?_
  obtain ⟨T117, h117, X117, eh117, W117, st117⟩ := stoB X114 hx hZ eh114 V114 (j := (38 : Int32)) (i := 38) (x := (57 : Int32)) (Ls := #[.val (.int x0), .val (.int x1), .val (.int x2), .val (.int x3), .val (.int x4), .val (.int x5), .unset, .unset, .unset, .unset, .unset, .unset, .unset, .unset]) (rest := [(.ref b1)]) (by decide) rfl (by decide) (hb hby at_231)
  have ta118 := Nat.lt_of_lt_of_le ta115 (Nat.le_of_eq W117.size.symm)
  have za119 : n0 ≤ h117.size := Nat.le_trans za116 (Nat.le_of_eq W117.size.symm)
  have V117 : LA Z h117 b1 .byte 40 (gl [(.int (97 : Int32).toInt8.toInt32), (.int (90 : Int32).toInt8.toInt32), (.int (48 : Int32).toInt8.toInt32), (.int (45 : Int32).toInt8.toInt32), (.int (122 : Int32).toInt8.toInt32), (.int (65 : Int32).toInt8.toInt32), (.int (57 : Int32).toInt8.toInt32), (.int (109 : Int32).toInt8.toInt32), (.int (97 : Int32).toInt8.toInt32), (.int (90 : Int32).toInt8.toInt32), (.int (48 : Int32).toInt8.toInt32), (.int (45 : Int32).toInt8.toInt32), (.int (122 : Int32).toInt8.toInt32), (.int (65 : Int32).toInt8.toInt32), (.int (57 : Int32).toInt8.toInt32), (.int (109 : Int32).toInt8.toInt32), (.int (97 : Int32).toInt8.toInt32), (.int (90 : Int32).toInt8.toInt32), (.int (48 : Int32).toInt8.toInt32), (.int (45 : Int32).toInt8.toInt32), (.int (122 : Int32).toInt8.toInt32), (.int (65 : Int32).toInt8.toInt32), (.int (57 : Int32).toInt8.toInt32), (.int (109 : Int32).toInt8.toInt32), (.int (97 : Int32).toInt8.toInt32), (.int (90 : Int32).toInt8.toInt32), (.int (48 : Int32).toInt8.toInt32), (.int (45 : Int32).toInt8.toInt32), (.int (122 : Int32).toInt8.toInt32), (.int (65 : Int32).toInt8.toInt32), (.int (57 : Int32).toInt8.toInt32), (.int (109 : Int32).toInt8.toInt32), (.int (97 : Int32).toInt8.toInt32), (.int (90 : Int32).toInt8.toInt32), (.int (48 : Int32).toInt8.toInt32), (.int (45 : Int32).toInt8.toInt32), (.int (122 : Int32).toInt8.toInt32), (.int (65 : Int32).toInt8.toInt32), (.int (57 : Int32).toInt8.toInt32), (.int (0 : Int32))] (.int (0 : Int32))) := V114.setL W117 (Nat.le_of_ble_eq_true rfl)
  have N117 := Fr.snoc X117 N114 g_b1
  refine Gq.go (T117.setTop (mkF m 232 #[.val (.int x0), .val (.int x1), .val (.int x2), .val (.int x3), .val (.int x4), .val (.int x5), .unset, .unset, .unset, .unset, .unset, .unset, .unset, .unset] [(.ref b1)])) (fun tt_ kk_ => st117 tt_ kk_) ?_
  refine Gq.go (T117.setTop (mkF m 233 #[.val (.int x0), .val (.int x1), .val (.int x2), .val (.int x3), .val (.int x4), .val (.int x5), .unset, .unset, .unset, .unset, .unset, .unset, .unset, .unset] [(.ref b1), (.ref b1)])) (fun tt_ kk_ => XS.dup X117.here hx rfl (hb hby at_232) rfl rfl kk_) ?_
  refine Gq.go (T117.setTop (mkF m 235 #[.val (.int x0), .val (.int x1), .val (.int x2), .val (.int x3), .val (.int x4), .val (.int x5), .unset, .unset, .unset, .unset, .unset, .unset, .unset, .unset] [(.int (39 : Int32)), (.ref b1), (.ref b1)])) (fun tt_ kk_ => XS.bipush X117.here hx rfl (hb hby at_233) kk_) ?_
  refine Gq.go (T117.setTop (mkF m 237 #[.val (.int x0), .val (.int x1), .val (.int x2), .val (.int x3), .val (.int x4), .val (.int x5), .unset, .unset, .unset, .unset, .unset, .unset, .unset, .unset] [(.int (109 : Int32)), (.int (39 : Int32)), (.ref b1), (.ref b1)])) (fun tt_ kk_ => XS.bipush X117.here hx rfl (hb hby at_235) kk_) ?_
  obtain ⟨T120, h120, X120, eh120, W120, st120⟩ := stoB X117 hx hZ eh117 V117 (j := (39 : Int32)) (i := 39) (x := (109 : Int32)) (Ls := #[.val (.int x0), .val (.int x1), .val (.int x2), .val (.int x3), .val (.int x4), .val (.int x5), .unset, .unset, .unset, .unset, .unset, .unset, .unset, .unset]) (rest := [(.ref b1)]) (by decide) rfl (by decide) (hb hby at_237)
  have ta121 := Nat.lt_of_lt_of_le ta118 (Nat.le_of_eq W120.size.symm)
  have za122 : n0 ≤ h120.size := Nat.le_trans za119 (Nat.le_of_eq W120.size.symm)
  have V120 : LA Z h120 b1 .byte 40 (gl [(.int (97 : Int32).toInt8.toInt32), (.int (90 : Int32).toInt8.toInt32), (.int (48 : Int32).toInt8.toInt32), (.int (45 : Int32).toInt8.toInt32), (.int (122 : Int32).toInt8.toInt32), (.int (65 : Int32).toInt8.toInt32), (.int (57 : Int32).toInt8.toInt32), (.int (109 : Int32).toInt8.toInt32), (.int (97 : Int32).toInt8.toInt32), (.int (90 : Int32).toInt8.toInt32), (.int (48 : Int32).toInt8.toInt32), (.int (45 : Int32).toInt8.toInt32), (.int (122 : Int32).toInt8.toInt32), (.int (65 : Int32).toInt8.toInt32), (.int (57 : Int32).toInt8.toInt32), (.int (109 : Int32).toInt8.toInt32), (.int (97 : Int32).toInt8.toInt32), (.int (90 : Int32).toInt8.toInt32), (.int (48 : Int32).toInt8.toInt32), (.int (45 : Int32).toInt8.toInt32), (.int (122 : Int32).toInt8.toInt32), (.int (65 : Int32).toInt8.toInt32), (.int (57 : Int32).toInt8.toInt32), (.int (109 : Int32).toInt8.toInt32), (.int (97 : Int32).toInt8.toInt32), (.int (90 : Int32).toInt8.toInt32), (.int (48 : Int32).toInt8.toInt32), (.int (45 : Int32).toInt8.toInt32), (.int (122 : Int32).toInt8.toInt32), (.int (65 : Int32).toInt8.toInt32), (.int (57 : Int32).toInt8.toInt32), (.int (109 : Int32).toInt8.toInt32), (.int (97 : Int32).toInt8.toInt32), (.int (90 : Int32).toInt8.toInt32), (.int (48 : Int32).toInt8.toInt32), (.int (45 : Int32).toInt8.toInt32), (.int (122 : Int32).toInt8.toInt32), (.int (65 : Int32).toInt8.toInt32), (.int (57 : Int32).toInt8.toInt32), (.int (109 : Int32).toInt8.toInt32)] (.int (0 : Int32))) := V117.setL W120 (Nat.le_of_ble_eq_true rfl)
  have N120 := Fr.snoc X120 N117 g_b1
  refine Gq.go (T120.setTop (mkF m 238 #[.val (.int x0), .val (.int x1), .val (.int x2), .val (.int x3), .val (.int x4), .val (.int x5), .unset, .unset, .unset, .unset, .unset, .unset, .unset, .unset] [(.ref b1)])) (fun tt_ kk_ => st120 tt_ kk_) ?_
  refine Gq.go (T120.setTop (mkF m 240 #[.val (.int x0), .val (.int x1), .val (.int x2), .val (.int x3), .val (.int x4), .val (.int x5), .val (.ref b1), .unset, .unset, .unset, .unset, .unset, .unset, .unset] [])) (fun tt_ kk_ => XS.astore X120.here hx rfl (hb hby at_238) rfl rfl (l' := #[.val (.int x0), .val (.int x1), .val (.int x2), .val (.int x3), .val (.int x4), .val (.int x5), .val (.ref b1), .unset, .unset, .unset, .unset, .unset, .unset, .unset]) rfl kk_) ?_
  refine Gq.go (T120.setTop (mkF m 241 #[.val (.int x0), .val (.int x1), .val (.int x2), .val (.int x3), .val (.int x4), .val (.int x5), .val (.ref b1), .unset, .unset, .unset, .unset, .unset, .unset, .unset] [(.int x2)])) (fun tt_ kk_ => XS.iloadN X120.here hx rfl (hb hby at_240) rfl kk_) ?_
  refine Gq.go (T120.setTop (mkF m 244 #[.val (.int x0), .val (.int x1), .val (.int x2), .val (.int x3), .val (.int x4), .val (.int x5), .val (.ref b1), .unset, .unset, .unset, .unset, .unset, .unset, .unset] [(.int (255 : Int32)), (.int x2)])) (fun tt_ kk_ => XS.sipush X120.here hx rfl (hb hby at_241) kk_) ?_
  refine Gq.go (T120.setTop (mkF m 245 #[.val (.int x0), .val (.int x1), .val (.int x2), .val (.int x3), .val (.int x4), .val (.int x5), .val (.ref b1), .unset, .unset, .unset, .unset, .unset, .unset, .unset] [(.int (x2 &&& (255 : Int32)))])) (fun tt_ kk_ => XS.iand X120.here hx rfl (hb hby at_244) rfl kk_) ?_
  refine Gq.go (T120.setTop (mkF m 247 #[.val (.int x0), .val (.int x1), .val (.int x2), .val (.int x3), .val (.int x4), .val (.int x5), .val (.ref b1), .unset, .unset, .unset, .unset, .unset, .unset, .unset] [(.int (40 : Int32)), (.int (x2 &&& (255 : Int32)))])) (fun tt_ kk_ => XS.bipush X120.here hx rfl (hb hby at_245) kk_) ?_
  refine Gq.go (T120.setTop (mkF m 248 #[.val (.int x0), .val (.int x1), .val (.int x2), .val (.int x3), .val (.int x4), .val (.int x5), .val (.ref b1), .unset, .unset, .unset, .unset, .unset, .unset, .unset] [(.int ((x2 &&& (255 : Int32)) % (40 : Int32)))])) (fun tt_ kk_ => iremM X120 hx rfl (hb hby at_247) rfl (by decide) kk_) ?_
  obtain ⟨q1, hq1, eq1⟩ := own_p1 x2
  rw [show ((x2 &&& (255 : Int32)) % (40 : Int32)) = (Int32.ofNat q1) from eq1]
  refine Gq.go (T120.setTop (mkF m 250 #[.val (.int x0), .val (.int x1), .val (.int x2), .val (.int x3), .val (.int x4), .val (.int x5), .val (.ref b1), .val (.int (Int32.ofNat q1)), .unset, .unset, .unset, .unset, .unset, .unset] [])) (fun tt_ kk_ => XS.istore X120.here hx rfl (hb hby at_248) rfl (l' := #[.val (.int x0), .val (.int x1), .val (.int x2), .val (.int x3), .val (.int x4), .val (.int x5), .val (.ref b1), .val (.int (Int32.ofNat q1)), .unset, .unset, .unset, .unset, .unset, .unset]) rfl kk_) ?_
  refine Gq.go (T120.setTop (mkF m 251 #[.val (.int x0), .val (.int x1), .val (.int x2), .val (.int x3), .val (.int x4), .val (.int x5), .val (.ref b1), .val (.int (Int32.ofNat q1)), .unset, .unset, .unset, .unset, .unset, .unset] [(.int x2)])) (fun tt_ kk_ => XS.iloadN X120.here hx rfl (hb hby at_250) rfl kk_) ?_
  refine Gq.go (T120.setTop (mkF m 253 #[.val (.int x0), .val (.int x1), .val (.int x2), .val (.int x3), .val (.int x4), .val (.int x5), .val (.ref b1), .val (.int (Int32.ofNat q1)), .unset, .unset, .unset, .unset, .unset, .unset] [(.int (8 : Int32)), (.int x2)])) (fun tt_ kk_ => XS.bipush X120.here hx rfl (hb hby at_251) kk_) ?_
  refine Gq.go (T120.setTop (mkF m 254 #[.val (.int x0), .val (.int x1), .val (.int x2), .val (.int x3), .val (.int x4), .val (.int x5), .val (.ref b1), .val (.int (Int32.ofNat q1)), .unset, .unset, .unset, .unset, .unset, .unset] [(.int ((x2.toUInt32 >>> ((8 : Int32) &&& 31).toUInt32).toInt32))])) (fun tt_ kk_ => XS.iushr X120.here hx rfl (hb hby at_253) rfl kk_) ?_
  refine Gq.go (T120.setTop (mkF m 257 #[.val (.int x0), .val (.int x1), .val (.int x2), .val (.int x3), .val (.int x4), .val (.int x5), .val (.ref b1), .val (.int (Int32.ofNat q1)), .unset, .unset, .unset, .unset, .unset, .unset] [(.int (255 : Int32)), (.int ((x2.toUInt32 >>> ((8 : Int32) &&& 31).toUInt32).toInt32))])) (fun tt_ kk_ => XS.sipush X120.here hx rfl (hb hby at_254) kk_) ?_
  refine Gq.go (T120.setTop (mkF m 258 #[.val (.int x0), .val (.int x1), .val (.int x2), .val (.int x3), .val (.int x4), .val (.int x5), .val (.ref b1), .val (.int (Int32.ofNat q1)), .unset, .unset, .unset, .unset, .unset, .unset] [(.int (((x2.toUInt32 >>> ((8 : Int32) &&& 31).toUInt32).toInt32) &&& (255 : Int32)))])) (fun tt_ kk_ => XS.iand X120.here hx rfl (hb hby at_257) rfl kk_) ?_
  refine Gq.go (T120.setTop (mkF m 260 #[.val (.int x0), .val (.int x1), .val (.int x2), .val (.int x3), .val (.int x4), .val (.int x5), .val (.ref b1), .val (.int (Int32.ofNat q1)), .unset, .unset, .unset, .unset, .unset, .unset] [(.int (40 : Int32)), (.int (((x2.toUInt32 >>> ((8 : Int32) &&& 31).toUInt32).toInt32) &&& (255 : Int32)))])) (fun tt_ kk_ => XS.bipush X120.here hx rfl (hb hby at_258) kk_) ?_
  refine Gq.go (T120.setTop (mkF m 261 #[.val (.int x0), .val (.int x1), .val (.int x2), .val (.int x3), .val (.int x4), .val (.int x5), .val (.ref b1), .val (.int (Int32.ofNat q1)), .unset, .unset, .unset, .unset, .unset, .unset] [(.int ((((x2.toUInt32 >>> ((8 : Int32) &&& 31).toUInt32).toInt32) &&& (255 : Int32)) % (40 : Int32)))])) (fun tt_ kk_ => iremM X120 hx rfl (hb hby at_260) rfl (by decide) kk_) ?_
  obtain ⟨q2, hq2, eq2⟩ := own_p2 x2
  rw [show ((((x2.toUInt32 >>> ((8 : Int32) &&& 31).toUInt32).toInt32) &&& (255 : Int32)) % (40 : Int32)) = (Int32.ofNat q2) from eq2]
  refine Gq.go (T120.setTop (mkF m 263 #[.val (.int x0), .val (.int x1), .val (.int x2), .val (.int x3), .val (.int x4), .val (.int x5), .val (.ref b1), .val (.int (Int32.ofNat q1)), .val (.int (Int32.ofNat q2)), .unset, .unset, .unset, .unset, .unset] [])) (fun tt_ kk_ => XS.istore X120.here hx rfl (hb hby at_261) rfl (l' := #[.val (.int x0), .val (.int x1), .val (.int x2), .val (.int x3), .val (.int x4), .val (.int x5), .val (.ref b1), .val (.int (Int32.ofNat q1)), .val (.int (Int32.ofNat q2)), .unset, .unset, .unset, .unset, .unset]) rfl kk_) ?_
  refine Gq.go (T120.setTop (mkF m 264 #[.val (.int x0), .val (.int x1), .val (.int x2), .val (.int x3), .val (.int x4), .val (.int x5), .val (.ref b1), .val (.int (Int32.ofNat q1)), .val (.int (Int32.ofNat q2)), .unset, .unset, .unset, .unset, .unset] [(.int x2)])) (fun tt_ kk_ => XS.iloadN X120.here hx rfl (hb hby at_263) rfl kk_) ?_
  refine Gq.go (T120.setTop (mkF m 266 #[.val (.int x0), .val (.int x1), .val (.int x2), .val (.int x3), .val (.int x4), .val (.int x5), .val (.ref b1), .val (.int (Int32.ofNat q1)), .val (.int (Int32.ofNat q2)), .unset, .unset, .unset, .unset, .unset] [(.int (16 : Int32)), (.int x2)])) (fun tt_ kk_ => XS.bipush X120.here hx rfl (hb hby at_264) kk_) ?_
  refine Gq.go (T120.setTop (mkF m 267 #[.val (.int x0), .val (.int x1), .val (.int x2), .val (.int x3), .val (.int x4), .val (.int x5), .val (.ref b1), .val (.int (Int32.ofNat q1)), .val (.int (Int32.ofNat q2)), .unset, .unset, .unset, .unset, .unset] [(.int ((x2.toUInt32 >>> ((16 : Int32) &&& 31).toUInt32).toInt32))])) (fun tt_ kk_ => XS.iushr X120.here hx rfl (hb hby at_266) rfl kk_) ?_
  refine Gq.go (T120.setTop (mkF m 270 #[.val (.int x0), .val (.int x1), .val (.int x2), .val (.int x3), .val (.int x4), .val (.int x5), .val (.ref b1), .val (.int (Int32.ofNat q1)), .val (.int (Int32.ofNat q2)), .unset, .unset, .unset, .unset, .unset] [(.int (255 : Int32)), (.int ((x2.toUInt32 >>> ((16 : Int32) &&& 31).toUInt32).toInt32))])) (fun tt_ kk_ => XS.sipush X120.here hx rfl (hb hby at_267) kk_) ?_
  refine Gq.go (T120.setTop (mkF m 271 #[.val (.int x0), .val (.int x1), .val (.int x2), .val (.int x3), .val (.int x4), .val (.int x5), .val (.ref b1), .val (.int (Int32.ofNat q1)), .val (.int (Int32.ofNat q2)), .unset, .unset, .unset, .unset, .unset] [(.int (((x2.toUInt32 >>> ((16 : Int32) &&& 31).toUInt32).toInt32) &&& (255 : Int32)))])) (fun tt_ kk_ => XS.iand X120.here hx rfl (hb hby at_270) rfl kk_) ?_
  refine Gq.go (T120.setTop (mkF m 273 #[.val (.int x0), .val (.int x1), .val (.int x2), .val (.int x3), .val (.int x4), .val (.int x5), .val (.ref b1), .val (.int (Int32.ofNat q1)), .val (.int (Int32.ofNat q2)), .unset, .unset, .unset, .unset, .unset] [(.int (40 : Int32)), (.int (((x2.toUInt32 >>> ((16 : Int32) &&& 31).toUInt32).toInt32) &&& (255 : Int32)))])) (fun tt_ kk_ => XS.bipush X120.here hx rfl (hb hby at_271) kk_) ?_
  refine Gq.go (T120.setTop (mkF m 274 #[.val (.int x0), .val (.int x1), .val (.int x2), .val (.int x3), .val (.int x4), .val (.int x5), .val (.ref b1), .val (.int (Int32.ofNat q1)), .val (.int (Int32.ofNat q2)), .unset, .unset, .unset, .unset, .unset] [(.int ((((x2.toUInt32 >>> ((16 : Int32) &&& 31).toUInt32).toInt32) &&& (255 : Int32)) % (40 : Int32)))])) (fun tt_ kk_ => iremM X120 hx rfl (hb hby at_273) rfl (by decide) kk_) ?_
  obtain ⟨q3, hq3, eq3⟩ := own_p3 x2
  rw [show ((((x2.toUInt32 >>> ((16 : Int32) &&& 31).toUInt32).toInt32) &&& (255 : Int32)) % (40 : Int32)) = (Int32.ofNat q3) from eq3]
  refine Gq.go (T120.setTop (mkF m 276 #[.val (.int x0), .val (.int x1), .val (.int x2), .val (.int x3), .val (.int x4), .val (.int x5), .val (.ref b1), .val (.int (Int32.ofNat q1)), .val (.int (Int32.ofNat q2)), .val (.int (Int32.ofNat q3)), .unset, .unset, .unset, .unset] [])) (fun tt_ kk_ => XS.istore X120.here hx rfl (hb hby at_274) rfl (l' := #[.val (.int x0), .val (.int x1), .val (.int x2), .val (.int x3), .val (.int x4), .val (.int x5), .val (.ref b1), .val (.int (Int32.ofNat q1)), .val (.int (Int32.ofNat q2)), .val (.int (Int32.ofNat q3)), .unset, .unset, .unset, .unset]) rfl kk_) ?_
  refine Gq.go (T120.setTop (mkF m 278 #[.val (.int x0), .val (.int x1), .val (.int x2), .val (.int x3), .val (.int x4), .val (.int x5), .val (.ref b1), .val (.int (Int32.ofNat q1)), .val (.int (Int32.ofNat q2)), .val (.int (Int32.ofNat q3)), .unset, .unset, .unset, .unset] [(.ref b1)])) (fun tt_ kk_ => XS.aload X120.here hx rfl (hb hby at_276) rfl rfl kk_) ?_
  refine Gq.go (T120.setTop (mkF m 280 #[.val (.int x0), .val (.int x1), .val (.int x2), .val (.int x3), .val (.int x4), .val (.int x5), .val (.ref b1), .val (.int (Int32.ofNat q1)), .val (.int (Int32.ofNat q2)), .val (.int (Int32.ofNat q3)), .unset, .unset, .unset, .unset] [(.int (Int32.ofNat q1)), (.ref b1)])) (fun tt_ kk_ => XS.iload X120.here hx rfl (hb hby at_278) rfl kk_) ?_
  refine Gq.go (T120.setTop (mkF m 281 #[.val (.int x0), .val (.int x1), .val (.int x2), .val (.int x3), .val (.int x4), .val (.int x5), .val (.ref b1), .val (.int (Int32.ofNat q1)), .val (.int (Int32.ofNat q2)), .val (.int (Int32.ofNat q3)), .unset, .unset, .unset, .unset] [(.int x3), (.int (Int32.ofNat q1)), (.ref b1)])) (fun tt_ kk_ => XS.iloadN X120.here hx rfl (hb hby at_280) rfl kk_) ?_
  refine Gq.go (T120.setTop (mkF m 282 #[.val (.int x0), .val (.int x1), .val (.int x2), .val (.int x3), .val (.int x4), .val (.int x5), .val (.ref b1), .val (.int (Int32.ofNat q1)), .val (.int (Int32.ofNat q2)), .val (.int (Int32.ofNat q3)), .unset, .unset, .unset, .unset] [(.int (x3.toInt8.toInt32)), (.int (Int32.ofNat q1)), (.ref b1)])) (fun tt_ kk_ => XS.i2b X120.here hx rfl (hb hby at_281) rfl kk_) ?_
  obtain ⟨T123, h123, X123, eh123, W123, st123⟩ := stoB X120 hx hZ eh120 V120 (j := (Int32.ofNat q1)) (i := q1) (x := (x3.toInt8.toInt32)) (Ls := #[.val (.int x0), .val (.int x1), .val (.int x2), .val (.int x3), .val (.int x4), .val (.int x5), .val (.ref b1), .val (.int (Int32.ofNat q1)), .val (.int (Int32.ofNat q2)), .val (.int (Int32.ofNat q3)), .unset, .unset, .unset, .unset]) (rest := []) (own_nn (by omega)) (own_nc (by omega)) hq1 (hb hby at_282)
  have ta124 := Nat.lt_of_lt_of_le ta121 (Nat.le_of_eq W123.size.symm)
  have za125 : n0 ≤ h123.size := Nat.le_trans za122 (Nat.le_of_eq W123.size.symm)
  have V123 : LA Z h123 b1 .byte 40 (upd (gl [(.int (97 : Int32).toInt8.toInt32), (.int (90 : Int32).toInt8.toInt32), (.int (48 : Int32).toInt8.toInt32), (.int (45 : Int32).toInt8.toInt32), (.int (122 : Int32).toInt8.toInt32), (.int (65 : Int32).toInt8.toInt32), (.int (57 : Int32).toInt8.toInt32), (.int (109 : Int32).toInt8.toInt32), (.int (97 : Int32).toInt8.toInt32), (.int (90 : Int32).toInt8.toInt32), (.int (48 : Int32).toInt8.toInt32), (.int (45 : Int32).toInt8.toInt32), (.int (122 : Int32).toInt8.toInt32), (.int (65 : Int32).toInt8.toInt32), (.int (57 : Int32).toInt8.toInt32), (.int (109 : Int32).toInt8.toInt32), (.int (97 : Int32).toInt8.toInt32), (.int (90 : Int32).toInt8.toInt32), (.int (48 : Int32).toInt8.toInt32), (.int (45 : Int32).toInt8.toInt32), (.int (122 : Int32).toInt8.toInt32), (.int (65 : Int32).toInt8.toInt32), (.int (57 : Int32).toInt8.toInt32), (.int (109 : Int32).toInt8.toInt32), (.int (97 : Int32).toInt8.toInt32), (.int (90 : Int32).toInt8.toInt32), (.int (48 : Int32).toInt8.toInt32), (.int (45 : Int32).toInt8.toInt32), (.int (122 : Int32).toInt8.toInt32), (.int (65 : Int32).toInt8.toInt32), (.int (57 : Int32).toInt8.toInt32), (.int (109 : Int32).toInt8.toInt32), (.int (97 : Int32).toInt8.toInt32), (.int (90 : Int32).toInt8.toInt32), (.int (48 : Int32).toInt8.toInt32), (.int (45 : Int32).toInt8.toInt32), (.int (122 : Int32).toInt8.toInt32), (.int (65 : Int32).toInt8.toInt32), (.int (57 : Int32).toInt8.toInt32), (.int (109 : Int32).toInt8.toInt32)] (.int (0 : Int32))) q1 (.int (x3.toInt8.toInt32).toInt8.toInt32)) := V120.set W123
  have N123 := Fr.snoc X123 N120 g_b1
  refine Gq.go (T123.setTop (mkF m 283 #[.val (.int x0), .val (.int x1), .val (.int x2), .val (.int x3), .val (.int x4), .val (.int x5), .val (.ref b1), .val (.int (Int32.ofNat q1)), .val (.int (Int32.ofNat q2)), .val (.int (Int32.ofNat q3)), .unset, .unset, .unset, .unset] [])) (fun tt_ kk_ => st123 tt_ kk_) ?_
  refine Gq.go (T123.setTop (mkF m 285 #[.val (.int x0), .val (.int x1), .val (.int x2), .val (.int x3), .val (.int x4), .val (.int x5), .val (.ref b1), .val (.int (Int32.ofNat q1)), .val (.int (Int32.ofNat q2)), .val (.int (Int32.ofNat q3)), .unset, .unset, .unset, .unset] [(.ref b1)])) (fun tt_ kk_ => XS.aload X123.here hx rfl (hb hby at_283) rfl rfl kk_) ?_
  refine Gq.go (T123.setTop (mkF m 287 #[.val (.int x0), .val (.int x1), .val (.int x2), .val (.int x3), .val (.int x4), .val (.int x5), .val (.ref b1), .val (.int (Int32.ofNat q1)), .val (.int (Int32.ofNat q2)), .val (.int (Int32.ofNat q3)), .unset, .unset, .unset, .unset] [(.int (Int32.ofNat q2)), (.ref b1)])) (fun tt_ kk_ => XS.iload X123.here hx rfl (hb hby at_285) rfl kk_) ?_
  refine Gq.go (T123.setTop (mkF m 289 #[.val (.int x0), .val (.int x1), .val (.int x2), .val (.int x3), .val (.int x4), .val (.int x5), .val (.ref b1), .val (.int (Int32.ofNat q1)), .val (.int (Int32.ofNat q2)), .val (.int (Int32.ofNat q3)), .unset, .unset, .unset, .unset] [(.int x4), (.int (Int32.ofNat q2)), (.ref b1)])) (fun tt_ kk_ => XS.iload X123.here hx rfl (hb hby at_287) rfl kk_) ?_
  refine Gq.go (T123.setTop (mkF m 290 #[.val (.int x0), .val (.int x1), .val (.int x2), .val (.int x3), .val (.int x4), .val (.int x5), .val (.ref b1), .val (.int (Int32.ofNat q1)), .val (.int (Int32.ofNat q2)), .val (.int (Int32.ofNat q3)), .unset, .unset, .unset, .unset] [(.int (x4.toInt8.toInt32)), (.int (Int32.ofNat q2)), (.ref b1)])) (fun tt_ kk_ => XS.i2b X123.here hx rfl (hb hby at_289) rfl kk_) ?_
  obtain ⟨T126, h126, X126, eh126, W126, st126⟩ := stoB X123 hx hZ eh123 V123 (j := (Int32.ofNat q2)) (i := q2) (x := (x4.toInt8.toInt32)) (Ls := #[.val (.int x0), .val (.int x1), .val (.int x2), .val (.int x3), .val (.int x4), .val (.int x5), .val (.ref b1), .val (.int (Int32.ofNat q1)), .val (.int (Int32.ofNat q2)), .val (.int (Int32.ofNat q3)), .unset, .unset, .unset, .unset]) (rest := []) (own_nn (by omega)) (own_nc (by omega)) hq2 (hb hby at_290)
  have ta127 := Nat.lt_of_lt_of_le ta124 (Nat.le_of_eq W126.size.symm)
  have za128 : n0 ≤ h126.size := Nat.le_trans za125 (Nat.le_of_eq W126.size.symm)
  have V126 : LA Z h126 b1 .byte 40 (upd (upd (gl [(.int (97 : Int32).toInt8.toInt32), (.int (90 : Int32).toInt8.toInt32), (.int (48 : Int32).toInt8.toInt32), (.int (45 : Int32).toInt8.toInt32), (.int (122 : Int32).toInt8.toInt32), (.int (65 : Int32).toInt8.toInt32), (.int (57 : Int32).toInt8.toInt32), (.int (109 : Int32).toInt8.toInt32), (.int (97 : Int32).toInt8.toInt32), (.int (90 : Int32).toInt8.toInt32), (.int (48 : Int32).toInt8.toInt32), (.int (45 : Int32).toInt8.toInt32), (.int (122 : Int32).toInt8.toInt32), (.int (65 : Int32).toInt8.toInt32), (.int (57 : Int32).toInt8.toInt32), (.int (109 : Int32).toInt8.toInt32), (.int (97 : Int32).toInt8.toInt32), (.int (90 : Int32).toInt8.toInt32), (.int (48 : Int32).toInt8.toInt32), (.int (45 : Int32).toInt8.toInt32), (.int (122 : Int32).toInt8.toInt32), (.int (65 : Int32).toInt8.toInt32), (.int (57 : Int32).toInt8.toInt32), (.int (109 : Int32).toInt8.toInt32), (.int (97 : Int32).toInt8.toInt32), (.int (90 : Int32).toInt8.toInt32), (.int (48 : Int32).toInt8.toInt32), (.int (45 : Int32).toInt8.toInt32), (.int (122 : Int32).toInt8.toInt32), (.int (65 : Int32).toInt8.toInt32), (.int (57 : Int32).toInt8.toInt32), (.int (109 : Int32).toInt8.toInt32), (.int (97 : Int32).toInt8.toInt32), (.int (90 : Int32).toInt8.toInt32), (.int (48 : Int32).toInt8.toInt32), (.int (45 : Int32).toInt8.toInt32), (.int (122 : Int32).toInt8.toInt32), (.int (65 : Int32).toInt8.toInt32), (.int (57 : Int32).toInt8.toInt32), (.int (109 : Int32).toInt8.toInt32)] (.int (0 : Int32))) q1 (.int (x3.toInt8.toInt32).toInt8.toInt32)) q2 (.int (x4.toInt8.toInt32).toInt8.toInt32)) := V123.set W126
  have N126 := Fr.snoc X126 N123 g_b1
  refine Gq.go (T126.setTop (mkF m 291 #[.val (.int x0), .val (.int x1), .val (.int x2), .val (.int x3), .val (.int x4), .val (.int x5), .val (.ref b1), .val (.int (Int32.ofNat q1)), .val (.int (Int32.ofNat q2)), .val (.int (Int32.ofNat q3)), .unset, .unset, .unset, .unset] [])) (fun tt_ kk_ => st126 tt_ kk_) ?_
  refine Gq.go (T126.setTop (mkF m 293 #[.val (.int x0), .val (.int x1), .val (.int x2), .val (.int x3), .val (.int x4), .val (.int x5), .val (.ref b1), .val (.int (Int32.ofNat q1)), .val (.int (Int32.ofNat q2)), .val (.int (Int32.ofNat q3)), .unset, .unset, .unset, .unset] [(.ref b1)])) (fun tt_ kk_ => XS.aload X126.here hx rfl (hb hby at_291) rfl rfl kk_) ?_
  refine Gq.go (T126.setTop (mkF m 295 #[.val (.int x0), .val (.int x1), .val (.int x2), .val (.int x3), .val (.int x4), .val (.int x5), .val (.ref b1), .val (.int (Int32.ofNat q1)), .val (.int (Int32.ofNat q2)), .val (.int (Int32.ofNat q3)), .unset, .unset, .unset, .unset] [(.int (Int32.ofNat q3)), (.ref b1)])) (fun tt_ kk_ => XS.iload X126.here hx rfl (hb hby at_293) rfl kk_) ?_
  refine Gq.go (T126.setTop (mkF m 297 #[.val (.int x0), .val (.int x1), .val (.int x2), .val (.int x3), .val (.int x4), .val (.int x5), .val (.ref b1), .val (.int (Int32.ofNat q1)), .val (.int (Int32.ofNat q2)), .val (.int (Int32.ofNat q3)), .unset, .unset, .unset, .unset] [(.int x5), (.int (Int32.ofNat q3)), (.ref b1)])) (fun tt_ kk_ => XS.iload X126.here hx rfl (hb hby at_295) rfl kk_) ?_
  refine Gq.go (T126.setTop (mkF m 298 #[.val (.int x0), .val (.int x1), .val (.int x2), .val (.int x3), .val (.int x4), .val (.int x5), .val (.ref b1), .val (.int (Int32.ofNat q1)), .val (.int (Int32.ofNat q2)), .val (.int (Int32.ofNat q3)), .unset, .unset, .unset, .unset] [(.int (x5.toInt8.toInt32)), (.int (Int32.ofNat q3)), (.ref b1)])) (fun tt_ kk_ => XS.i2b X126.here hx rfl (hb hby at_297) rfl kk_) ?_
  obtain ⟨T129, h129, X129, eh129, W129, st129⟩ := stoB X126 hx hZ eh126 V126 (j := (Int32.ofNat q3)) (i := q3) (x := (x5.toInt8.toInt32)) (Ls := #[.val (.int x0), .val (.int x1), .val (.int x2), .val (.int x3), .val (.int x4), .val (.int x5), .val (.ref b1), .val (.int (Int32.ofNat q1)), .val (.int (Int32.ofNat q2)), .val (.int (Int32.ofNat q3)), .unset, .unset, .unset, .unset]) (rest := []) (own_nn (by omega)) (own_nc (by omega)) hq3 (hb hby at_298)
  have ta130 := Nat.lt_of_lt_of_le ta127 (Nat.le_of_eq W129.size.symm)
  have za131 : n0 ≤ h129.size := Nat.le_trans za128 (Nat.le_of_eq W129.size.symm)
  have V129 : LA Z h129 b1 .byte 40 (upd (upd (upd (gl [(.int (97 : Int32).toInt8.toInt32), (.int (90 : Int32).toInt8.toInt32), (.int (48 : Int32).toInt8.toInt32), (.int (45 : Int32).toInt8.toInt32), (.int (122 : Int32).toInt8.toInt32), (.int (65 : Int32).toInt8.toInt32), (.int (57 : Int32).toInt8.toInt32), (.int (109 : Int32).toInt8.toInt32), (.int (97 : Int32).toInt8.toInt32), (.int (90 : Int32).toInt8.toInt32), (.int (48 : Int32).toInt8.toInt32), (.int (45 : Int32).toInt8.toInt32), (.int (122 : Int32).toInt8.toInt32), (.int (65 : Int32).toInt8.toInt32), (.int (57 : Int32).toInt8.toInt32), (.int (109 : Int32).toInt8.toInt32), (.int (97 : Int32).toInt8.toInt32), (.int (90 : Int32).toInt8.toInt32), (.int (48 : Int32).toInt8.toInt32), (.int (45 : Int32).toInt8.toInt32), (.int (122 : Int32).toInt8.toInt32), (.int (65 : Int32).toInt8.toInt32), (.int (57 : Int32).toInt8.toInt32), (.int (109 : Int32).toInt8.toInt32), (.int (97 : Int32).toInt8.toInt32), (.int (90 : Int32).toInt8.toInt32), (.int (48 : Int32).toInt8.toInt32), (.int (45 : Int32).toInt8.toInt32), (.int (122 : Int32).toInt8.toInt32), (.int (65 : Int32).toInt8.toInt32), (.int (57 : Int32).toInt8.toInt32), (.int (109 : Int32).toInt8.toInt32), (.int (97 : Int32).toInt8.toInt32), (.int (90 : Int32).toInt8.toInt32), (.int (48 : Int32).toInt8.toInt32), (.int (45 : Int32).toInt8.toInt32), (.int (122 : Int32).toInt8.toInt32), (.int (65 : Int32).toInt8.toInt32), (.int (57 : Int32).toInt8.toInt32), (.int (109 : Int32).toInt8.toInt32)] (.int (0 : Int32))) q1 (.int (x3.toInt8.toInt32).toInt8.toInt32)) q2 (.int (x4.toInt8.toInt32).toInt8.toInt32)) q3 (.int (x5.toInt8.toInt32).toInt8.toInt32)) := V126.set W129
  have N129 := Fr.snoc X129 N126 g_b1
  refine Gq.go (T129.setTop (mkF m 299 #[.val (.int x0), .val (.int x1), .val (.int x2), .val (.int x3), .val (.int x4), .val (.int x5), .val (.ref b1), .val (.int (Int32.ofNat q1)), .val (.int (Int32.ofNat q2)), .val (.int (Int32.ofNat q3)), .unset, .unset, .unset, .unset] [])) (fun tt_ kk_ => st129 tt_ kk_) ?_
  refine Gq.go (T129.setTop (mkF m 300 #[.val (.int x0), .val (.int x1), .val (.int x2), .val (.int x3), .val (.int x4), .val (.int x5), .val (.ref b1), .val (.int (Int32.ofNat q1)), .val (.int (Int32.ofNat q2)), .val (.int (Int32.ofNat q3)), .unset, .unset, .unset, .unset] [(.int x0)])) (fun tt_ kk_ => XS.iloadN X129.here hx rfl (hb hby at_299) rfl kk_) ?_
  refine Gq.go (T129.setTop (mkF m 302 #[.val (.int x0), .val (.int x1), .val (.int x2), .val (.int x3), .val (.int x4), .val (.int x5), .val (.ref b1), .val (.int (Int32.ofNat q1)), .val (.int (Int32.ofNat q2)), .val (.int (Int32.ofNat q3)), .unset, .unset, .unset, .unset] [(.int (7 : Int32)), (.int x0)])) (fun tt_ kk_ => XS.bipush X129.here hx rfl (hb hby at_300) kk_) ?_
  refine Gq.go (T129.setTop (mkF m 303 #[.val (.int x0), .val (.int x1), .val (.int x2), .val (.int x3), .val (.int x4), .val (.int x5), .val (.ref b1), .val (.int (Int32.ofNat q1)), .val (.int (Int32.ofNat q2)), .val (.int (Int32.ofNat q3)), .unset, .unset, .unset, .unset] [(.int (x0 &&& (7 : Int32)))])) (fun tt_ kk_ => XS.iand X129.here hx rfl (hb hby at_302) rfl kk_) ?_
  obtain ⟨s0, hs0, es0⟩ := own_and x0 7 (by decide)
  rw [show (x0 &&& (7 : Int32)) = (Int32.ofNat s0) from es0]
  refine Gq.go (T129.setTop (mkF m 305 #[.val (.int x0), .val (.int x1), .val (.int x2), .val (.int x3), .val (.int x4), .val (.int x5), .val (.ref b1), .val (.int (Int32.ofNat q1)), .val (.int (Int32.ofNat q2)), .val (.int (Int32.ofNat q3)), .val (.int (Int32.ofNat s0)), .unset, .unset, .unset] [])) (fun tt_ kk_ => XS.istore X129.here hx rfl (hb hby at_303) rfl (l' := #[.val (.int x0), .val (.int x1), .val (.int x2), .val (.int x3), .val (.int x4), .val (.int x5), .val (.ref b1), .val (.int (Int32.ofNat q1)), .val (.int (Int32.ofNat q2)), .val (.int (Int32.ofNat q3)), .val (.int (Int32.ofNat s0)), .unset, .unset, .unset]) rfl kk_) ?_
  refine Gq.go (T129.setTop (mkF m 306 #[.val (.int x0), .val (.int x1), .val (.int x2), .val (.int x3), .val (.int x4), .val (.int x5), .val (.ref b1), .val (.int (Int32.ofNat q1)), .val (.int (Int32.ofNat q2)), .val (.int (Int32.ofNat q3)), .val (.int (Int32.ofNat s0)), .unset, .unset, .unset] [(.int x1)])) (fun tt_ kk_ => XS.iloadN X129.here hx rfl (hb hby at_305) rfl kk_) ?_
  refine Gq.go (T129.setTop (mkF m 308 #[.val (.int x0), .val (.int x1), .val (.int x2), .val (.int x3), .val (.int x4), .val (.int x5), .val (.ref b1), .val (.int (Int32.ofNat q1)), .val (.int (Int32.ofNat q2)), .val (.int (Int32.ofNat q3)), .val (.int (Int32.ofNat s0)), .unset, .unset, .unset] [(.int (2147483647 : Int32)), (.int x1)])) (fun tt_ kk_ => X129.ldcInt hx hown (mvT hZ (hw _ (List.mem_of_getElem? (i := 1) rfl))) (g := (mkF m 306 #[.val (.int x0), .val (.int x1), .val (.int x2), .val (.int x3), .val (.int x4), .val (.int x5), .val (.ref b1), .val (.int (Int32.ofNat q1)), .val (.int (Int32.ofNat q2)), .val (.int (Int32.ofNat q3)), .val (.int (Int32.ofNat s0)), .unset, .unset, .unset] [(.int x1)])) rfl (hb hby at_306) _ kk_) ?_
  refine Gq.go (T129.setTop (mkF m 309 #[.val (.int x0), .val (.int x1), .val (.int x2), .val (.int x3), .val (.int x4), .val (.int x5), .val (.ref b1), .val (.int (Int32.ofNat q1)), .val (.int (Int32.ofNat q2)), .val (.int (Int32.ofNat q3)), .val (.int (Int32.ofNat s0)), .unset, .unset, .unset] [(.int (x1 &&& (2147483647 : Int32)))])) (fun tt_ kk_ => XS.iand X129.here hx rfl (hb hby at_308) rfl kk_) ?_
  refine Gq.go (T129.setTop (mkF m 311 #[.val (.int x0), .val (.int x1), .val (.int x2), .val (.int x3), .val (.int x4), .val (.int x5), .val (.ref b1), .val (.int (Int32.ofNat q1)), .val (.int (Int32.ofNat q2)), .val (.int (Int32.ofNat q3)), .val (.int (Int32.ofNat s0)), .unset, .unset, .unset] [(.int (34 : Int32)), (.int (x1 &&& (2147483647 : Int32)))])) (fun tt_ kk_ => XS.bipush X129.here hx rfl (hb hby at_309) kk_) ?_
  refine Gq.go (T129.setTop (mkF m 312 #[.val (.int x0), .val (.int x1), .val (.int x2), .val (.int x3), .val (.int x4), .val (.int x5), .val (.ref b1), .val (.int (Int32.ofNat q1)), .val (.int (Int32.ofNat q2)), .val (.int (Int32.ofNat q3)), .val (.int (Int32.ofNat s0)), .unset, .unset, .unset] [(.int ((x1 &&& (2147483647 : Int32)) % (34 : Int32)))])) (fun tt_ kk_ => iremM X129 hx rfl (hb hby at_311) rfl (by decide) kk_) ?_
  obtain ⟨ln, hln, eln⟩ := own_maskrem x1 34 (by decide) (by decide)
  rw [show ((x1 &&& (2147483647 : Int32)) % (34 : Int32)) = (Int32.ofNat ln) from eln]
  refine Gq.go (T129.setTop (mkF m 314 #[.val (.int x0), .val (.int x1), .val (.int x2), .val (.int x3), .val (.int x4), .val (.int x5), .val (.ref b1), .val (.int (Int32.ofNat q1)), .val (.int (Int32.ofNat q2)), .val (.int (Int32.ofNat q3)), .val (.int (Int32.ofNat s0)), .val (.int (Int32.ofNat ln)), .unset, .unset] [])) (fun tt_ kk_ => XS.istore X129.here hx rfl (hb hby at_312) rfl (l' := #[.val (.int x0), .val (.int x1), .val (.int x2), .val (.int x3), .val (.int x4), .val (.int x5), .val (.ref b1), .val (.int (Int32.ofNat q1)), .val (.int (Int32.ofNat q2)), .val (.int (Int32.ofNat q3)), .val (.int (Int32.ofNat s0)), .val (.int (Int32.ofNat ln)), .unset, .unset]) rfl kk_) ?_
  refine Gq.go (T129.setTop (mkF m 316 #[.val (.int x0), .val (.int x1), .val (.int x2), .val (.int x3), .val (.int x4), .val (.int x5), .val (.ref b1), .val (.int (Int32.ofNat q1)), .val (.int (Int32.ofNat q2)), .val (.int (Int32.ofNat q3)), .val (.int (Int32.ofNat s0)), .val (.int (Int32.ofNat ln)), .unset, .unset] [(.int (Int32.ofNat s0))])) (fun tt_ kk_ => XS.iload X129.here hx rfl (hb hby at_314) rfl kk_) ?_
  refine Gq.go (T129.setTop (mkF m 318 #[.val (.int x0), .val (.int x1), .val (.int x2), .val (.int x3), .val (.int x4), .val (.int x5), .val (.ref b1), .val (.int (Int32.ofNat q1)), .val (.int (Int32.ofNat q2)), .val (.int (Int32.ofNat q3)), .val (.int (Int32.ofNat s0)), .val (.int (Int32.ofNat ln)), .unset, .unset] [(.int (Int32.ofNat ln)), (.int (Int32.ofNat s0))])) (fun tt_ kk_ => XS.iload X129.here hx rfl (hb hby at_316) rfl kk_) ?_
  refine Gq.go (T129.setTop (mkF m 319 #[.val (.int x0), .val (.int x1), .val (.int x2), .val (.int x3), .val (.int x4), .val (.int x5), .val (.ref b1), .val (.int (Int32.ofNat q1)), .val (.int (Int32.ofNat q2)), .val (.int (Int32.ofNat q3)), .val (.int (Int32.ofNat s0)), .val (.int (Int32.ofNat ln)), .unset, .unset] [(.int ((Int32.ofNat s0) + (Int32.ofNat ln)))])) (fun tt_ kk_ => XS.iadd X129.here hx rfl (hb hby at_318) rfl kk_) ?_
  rw [show ((Int32.ofNat s0) + (Int32.ofNat ln)) = (Int32.ofNat (s0 + ln)) from own_add _ _]
  have VG : LA Z h129 b1 .byte 40 (fun i => .int ((own_gb q1 q2 q3 x3 x4 x5) i)) := V129.congr fun i hi => own_gb_eq hi
  refine Gq.go (T129.setTop (mkF m 321 #[.val (.int x0), .val (.int x1), .val (.int x2), .val (.int x3), .val (.int x4), .val (.int x5), .val (.ref b1), .val (.int (Int32.ofNat q1)), .val (.int (Int32.ofNat q2)), .val (.int (Int32.ofNat q3)), .val (.int (Int32.ofNat s0)), .val (.int (Int32.ofNat ln)), .val (.int (Int32.ofNat (s0 + ln))), .unset] [])) (fun tt_ kk_ => XS.istore X129.here hx rfl (hb hby at_319) rfl (l' := #[.val (.int x0), .val (.int x1), .val (.int x2), .val (.int x3), .val (.int x4), .val (.int x5), .val (.ref b1), .val (.int (Int32.ofNat q1)), .val (.int (Int32.ofNat q2)), .val (.int (Int32.ofNat q3)), .val (.int (Int32.ofNat s0)), .val (.int (Int32.ofNat ln)), .val (.int (Int32.ofNat (s0 + ln))), .unset]) rfl kk_) ?_
  refine Gq.go (T129.setTop (mkF m 323 #[.val (.int x0), .val (.int x1), .val (.int x2), .val (.int x3), .val (.int x4), .val (.int x5), .val (.ref b1), .val (.int (Int32.ofNat q1)), .val (.int (Int32.ofNat q2)), .val (.int (Int32.ofNat q3)), .val (.int (Int32.ofNat s0)), .val (.int (Int32.ofNat ln)), .val (.int (Int32.ofNat (s0 + ln))), .unset] [(.int (Int32.ofNat ln))])) (fun tt_ kk_ => XS.iload X129.here hx rfl (hb hby at_321) rfl kk_) ?_
  refine Gq.go (T129.setTop (mkF m 324 #[.val (.int x0), .val (.int x1), .val (.int x2), .val (.int x3), .val (.int x4), .val (.int x5), .val (.ref b1), .val (.int (Int32.ofNat q1)), .val (.int (Int32.ofNat q2)), .val (.int (Int32.ofNat q3)), .val (.int (Int32.ofNat s0)), .val (.int (Int32.ofNat ln)), .val (.int (Int32.ofNat (s0 + ln))), .unset] [(.int (1 : Int32)), (.int (Int32.ofNat ln))])) (fun tt_ kk_ => XS.iconst X129.here hx rfl (hb hby at_323) kk_) ?_
  suffices K341 : ∀ (Tj341 : State) (Lj341 : List Loc), Stand p l e room_1 s m #[(.int x0), (.int x1), (.int x2), (.int x3), (.int x4), (.int x5)] below meth c Tj341 Lj341 1 40 → Tj341.heap = h129 → Fr n0 Lj341 → ∀ z0 : Int32, (z0 = 1 ∧ (1 ≤ ln ∧ ln ≤ 32)) ∨ (z0 = 0 ∧ ¬ (1 ≤ ln ∧ ln ≤ 32)) → Gq p.tables e below s (Q0 Z x0 x1 x2 x3 x4 x5 h0 n0) room_1.cells room_1.slots (Tj341.setTop (mkF m 341 #[.val (.int x0), .val (.int x1), .val (.int x2), .val (.int x3), .val (.int x4), .val (.int x5), .val (.ref b1), .val (.int (Int32.ofNat q1)), .val (.int (Int32.ofNat q2)), .val (.int (Int32.ofNat q3)), .val (.int (Int32.ofNat s0)), .val (.int (Int32.ofNat ln)), .val (.int (Int32.ofNat (s0 + ln))), .val (.int z0)] [])) by
    by_cases hl1 : ln < 1
    · refine Gq.go (T129.setTop (mkF m 338 #[.val (.int x0), .val (.int x1), .val (.int x2), .val (.int x3), .val (.int x4), .val (.int x5), .val (.ref b1), .val (.int (Int32.ofNat q1)), .val (.int (Int32.ofNat q2)), .val (.int (Int32.ofNat q3)), .val (.int (Int32.ofNat s0)), .val (.int (Int32.ofNat ln)), .val (.int (Int32.ofNat (s0 + ln))), .unset] [])) (fun tt_ kk_ => XS.icmpYes X129.here hx rfl (pc0 := 324) (pc' := 338) rfl (hb hby at_324) rfl (tlt ((own_lt (b := 1) (by omega) (by decide)).mpr hl1)).1 (by decide) (by decide) kk_) ?_
      refine Gq.go (T129.setTop (mkF m 339 #[.val (.int x0), .val (.int x1), .val (.int x2), .val (.int x3), .val (.int x4), .val (.int x5), .val (.ref b1), .val (.int (Int32.ofNat q1)), .val (.int (Int32.ofNat q2)), .val (.int (Int32.ofNat q3)), .val (.int (Int32.ofNat s0)), .val (.int (Int32.ofNat ln)), .val (.int (Int32.ofNat (s0 + ln))), .unset] [(.int (0 : Int32))])) (fun tt_ kk_ => XS.iconst X129.here hx rfl (hb hby at_338) kk_) ?_
      refine Gq.go (T129.setTop (mkF m 341 #[.val (.int x0), .val (.int x1), .val (.int x2), .val (.int x3), .val (.int x4), .val (.int x5), .val (.ref b1), .val (.int (Int32.ofNat q1)), .val (.int (Int32.ofNat q2)), .val (.int (Int32.ofNat q3)), .val (.int (Int32.ofNat s0)), .val (.int (Int32.ofNat ln)), .val (.int (Int32.ofNat (s0 + ln))), .val (.int (0 : Int32))] [])) (fun tt_ kk_ => XS.istore X129.here hx rfl (hb hby at_339) rfl (l' := #[.val (.int x0), .val (.int x1), .val (.int x2), .val (.int x3), .val (.int x4), .val (.int x5), .val (.ref b1), .val (.int (Int32.ofNat q1)), .val (.int (Int32.ofNat q2)), .val (.int (Int32.ofNat q3)), .val (.int (Int32.ofNat s0)), .val (.int (Int32.ofNat ln)), .val (.int (Int32.ofNat (s0 + ln))), .val (.int (0 : Int32))]) rfl kk_) ?_
      exact K341 _ _ X129 eh129 N129 _ (Or.inr ⟨rfl, by omega⟩)
    · refine Gq.go (T129.setTop (mkF m 327 #[.val (.int x0), .val (.int x1), .val (.int x2), .val (.int x3), .val (.int x4), .val (.int x5), .val (.ref b1), .val (.int (Int32.ofNat q1)), .val (.int (Int32.ofNat q2)), .val (.int (Int32.ofNat q3)), .val (.int (Int32.ofNat s0)), .val (.int (Int32.ofNat ln)), .val (.int (Int32.ofNat (s0 + ln))), .unset] [])) (fun tt_ kk_ => XS.icmpNo X129.here hx rfl (hb hby at_324) rfl (flt (fun q => hl1 ((own_lt (b := 1) (by omega) (by decide)).mp q))).1 kk_) ?_
      refine Gq.go (T129.setTop (mkF m 329 #[.val (.int x0), .val (.int x1), .val (.int x2), .val (.int x3), .val (.int x4), .val (.int x5), .val (.ref b1), .val (.int (Int32.ofNat q1)), .val (.int (Int32.ofNat q2)), .val (.int (Int32.ofNat q3)), .val (.int (Int32.ofNat s0)), .val (.int (Int32.ofNat ln)), .val (.int (Int32.ofNat (s0 + ln))), .unset] [(.int (Int32.ofNat ln))])) (fun tt_ kk_ => XS.iload X129.here hx rfl (hb hby at_327) rfl kk_) ?_
      refine Gq.go (T129.setTop (mkF m 331 #[.val (.int x0), .val (.int x1), .val (.int x2), .val (.int x3), .val (.int x4), .val (.int x5), .val (.ref b1), .val (.int (Int32.ofNat q1)), .val (.int (Int32.ofNat q2)), .val (.int (Int32.ofNat q3)), .val (.int (Int32.ofNat s0)), .val (.int (Int32.ofNat ln)), .val (.int (Int32.ofNat (s0 + ln))), .unset] [(.int (32 : Int32)), (.int (Int32.ofNat ln))])) (fun tt_ kk_ => XS.bipush X129.here hx rfl (hb hby at_329) kk_) ?_
      by_cases hl2 : 32 < ln
      · refine Gq.go (T129.setTop (mkF m 338 #[.val (.int x0), .val (.int x1), .val (.int x2), .val (.int x3), .val (.int x4), .val (.int x5), .val (.ref b1), .val (.int (Int32.ofNat q1)), .val (.int (Int32.ofNat q2)), .val (.int (Int32.ofNat q3)), .val (.int (Int32.ofNat s0)), .val (.int (Int32.ofNat ln)), .val (.int (Int32.ofNat (s0 + ln))), .unset] [])) (fun tt_ kk_ => XS.icmpYes X129.here hx rfl (pc0 := 331) (pc' := 338) rfl (hb hby at_331) rfl (tlt ((own_lt (a := 32) (by decide) (by omega)).mpr hl2)).2.2.1 (by decide) (by decide) kk_) ?_
        refine Gq.go (T129.setTop (mkF m 339 #[.val (.int x0), .val (.int x1), .val (.int x2), .val (.int x3), .val (.int x4), .val (.int x5), .val (.ref b1), .val (.int (Int32.ofNat q1)), .val (.int (Int32.ofNat q2)), .val (.int (Int32.ofNat q3)), .val (.int (Int32.ofNat s0)), .val (.int (Int32.ofNat ln)), .val (.int (Int32.ofNat (s0 + ln))), .unset] [(.int (0 : Int32))])) (fun tt_ kk_ => XS.iconst X129.here hx rfl (hb hby at_338) kk_) ?_
        refine Gq.go (T129.setTop (mkF m 341 #[.val (.int x0), .val (.int x1), .val (.int x2), .val (.int x3), .val (.int x4), .val (.int x5), .val (.ref b1), .val (.int (Int32.ofNat q1)), .val (.int (Int32.ofNat q2)), .val (.int (Int32.ofNat q3)), .val (.int (Int32.ofNat s0)), .val (.int (Int32.ofNat ln)), .val (.int (Int32.ofNat (s0 + ln))), .val (.int (0 : Int32))] [])) (fun tt_ kk_ => XS.istore X129.here hx rfl (hb hby at_339) rfl (l' := #[.val (.int x0), .val (.int x1), .val (.int x2), .val (.int x3), .val (.int x4), .val (.int x5), .val (.ref b1), .val (.int (Int32.ofNat q1)), .val (.int (Int32.ofNat q2)), .val (.int (Int32.ofNat q3)), .val (.int (Int32.ofNat s0)), .val (.int (Int32.ofNat ln)), .val (.int (Int32.ofNat (s0 + ln))), .val (.int (0 : Int32))]) rfl kk_) ?_
        exact K341 _ _ X129 eh129 N129 _ (Or.inr ⟨rfl, by omega⟩)
      · refine Gq.go (T129.setTop (mkF m 334 #[.val (.int x0), .val (.int x1), .val (.int x2), .val (.int x3), .val (.int x4), .val (.int x5), .val (.ref b1), .val (.int (Int32.ofNat q1)), .val (.int (Int32.ofNat q2)), .val (.int (Int32.ofNat q3)), .val (.int (Int32.ofNat s0)), .val (.int (Int32.ofNat ln)), .val (.int (Int32.ofNat (s0 + ln))), .unset] [])) (fun tt_ kk_ => XS.icmpNo X129.here hx rfl (hb hby at_331) rfl (flt (fun q => hl2 ((own_lt (a := 32) (by decide) (by omega)).mp q))).2.2.1 kk_) ?_
        refine Gq.go (T129.setTop (mkF m 335 #[.val (.int x0), .val (.int x1), .val (.int x2), .val (.int x3), .val (.int x4), .val (.int x5), .val (.ref b1), .val (.int (Int32.ofNat q1)), .val (.int (Int32.ofNat q2)), .val (.int (Int32.ofNat q3)), .val (.int (Int32.ofNat s0)), .val (.int (Int32.ofNat ln)), .val (.int (Int32.ofNat (s0 + ln))), .unset] [(.int (1 : Int32))])) (fun tt_ kk_ => XS.iconst X129.here hx rfl (hb hby at_334) kk_) ?_
        refine Gq.go (T129.setTop (mkF m 339 #[.val (.int x0), .val (.int x1), .val (.int x2), .val (.int x3), .val (.int x4), .val (.int x5), .val (.ref b1), .val (.int (Int32.ofNat q1)), .val (.int (Int32.ofNat q2)), .val (.int (Int32.ofNat q3)), .val (.int (Int32.ofNat s0)), .val (.int (Int32.ofNat ln)), .val (.int (Int32.ofNat (s0 + ln))), .unset] [(.int (1 : Int32))])) (fun tt_ kk_ => XS.goto X129.here hx rfl (pc0 := 335) (pc' := 339) rfl (hb hby at_335) (by decide) (by decide) kk_) ?_
        refine Gq.go (T129.setTop (mkF m 341 #[.val (.int x0), .val (.int x1), .val (.int x2), .val (.int x3), .val (.int x4), .val (.int x5), .val (.ref b1), .val (.int (Int32.ofNat q1)), .val (.int (Int32.ofNat q2)), .val (.int (Int32.ofNat q3)), .val (.int (Int32.ofNat s0)), .val (.int (Int32.ofNat ln)), .val (.int (Int32.ofNat (s0 + ln))), .val (.int (1 : Int32))] [])) (fun tt_ kk_ => XS.istore X129.here hx rfl (hb hby at_339) rfl (l' := #[.val (.int x0), .val (.int x1), .val (.int x2), .val (.int x3), .val (.int x4), .val (.int x5), .val (.ref b1), .val (.int (Int32.ofNat q1)), .val (.int (Int32.ofNat q2)), .val (.int (Int32.ofNat q3)), .val (.int (Int32.ofNat s0)), .val (.int (Int32.ofNat ln)), .val (.int (Int32.ofNat (s0 + ln))), .val (.int (1 : Int32))]) rfl kk_) ?_
        exact K341 _ _ X129 eh129 N129 _ (Or.inl ⟨rfl, by omega⟩)
  intro Tj341 Lj341 Xj341 ehj341 Nj341 z0 hz0
  suffices K367 : ∀ (Tj367 : State) (Lj367 : List Loc), Stand p l e room_1 s m #[(.int x0), (.int x1), (.int x2), (.int x3), (.int x4), (.int x5)] below meth c Tj367 Lj367 1 40 → Tj367.heap = h129 → Fr n0 Lj367 → ∀ z1 : Int32, (z1 = 1 ∧ ((1 ≤ ln ∧ ln ≤ 32) ∧ (s0 ≤ q1 ∧ q1 < s0 + ln → own_ok ((own_gb q1 q2 q3 x3 x4 x5) q1) = 1))) ∨ (z1 = 0 ∧ ¬ ((1 ≤ ln ∧ ln ≤ 32) ∧ (s0 ≤ q1 ∧ q1 < s0 + ln → own_ok ((own_gb q1 q2 q3 x3 x4 x5) q1) = 1))) → Gq p.tables e below s (Q0 Z x0 x1 x2 x3 x4 x5 h0 n0) room_1.cells room_1.slots (Tj367.setTop (mkF m 367 #[.val (.int x0), .val (.int x1), .val (.int x2), .val (.int x3), .val (.int x4), .val (.int x5), .val (.ref b1), .val (.int (Int32.ofNat q1)), .val (.int (Int32.ofNat q2)), .val (.int (Int32.ofNat q3)), .val (.int (Int32.ofNat s0)), .val (.int (Int32.ofNat ln)), .val (.int (Int32.ofNat (s0 + ln))), .val (.int z1)] [])) by
    refine Gq.go (Tj341.setTop (mkF m 343 #[.val (.int x0), .val (.int x1), .val (.int x2), .val (.int x3), .val (.int x4), .val (.int x5), .val (.ref b1), .val (.int (Int32.ofNat q1)), .val (.int (Int32.ofNat q2)), .val (.int (Int32.ofNat q3)), .val (.int (Int32.ofNat s0)), .val (.int (Int32.ofNat ln)), .val (.int (Int32.ofNat (s0 + ln))), .val (.int z0)] [(.int (Int32.ofNat q1))])) (fun tt_ kk_ => XS.iload Xj341.here hx rfl (hb hby at_341) rfl kk_) ?_
    refine Gq.go (Tj341.setTop (mkF m 345 #[.val (.int x0), .val (.int x1), .val (.int x2), .val (.int x3), .val (.int x4), .val (.int x5), .val (.ref b1), .val (.int (Int32.ofNat q1)), .val (.int (Int32.ofNat q2)), .val (.int (Int32.ofNat q3)), .val (.int (Int32.ofNat s0)), .val (.int (Int32.ofNat ln)), .val (.int (Int32.ofNat (s0 + ln))), .val (.int z0)] [(.int (Int32.ofNat s0)), (.int (Int32.ofNat q1))])) (fun tt_ kk_ => XS.iload Xj341.here hx rfl (hb hby at_343) rfl kk_) ?_
    refine Gq.go (Tj341.setTop (mkF m 347 #[.val (.int x0), .val (.int x1), .val (.int x2), .val (.int x3), .val (.int x4), .val (.int x5), .val (.ref b1), .val (.int (Int32.ofNat q1)), .val (.int (Int32.ofNat q2)), .val (.int (Int32.ofNat q3)), .val (.int (Int32.ofNat s0)), .val (.int (Int32.ofNat ln)), .val (.int (Int32.ofNat (s0 + ln))), .val (.int z0)] [(.int (Int32.ofNat (s0 + ln))), (.int (Int32.ofNat s0)), (.int (Int32.ofNat q1))])) (fun tt_ kk_ => XS.iload Xj341.here hx rfl (hb hby at_345) rfl kk_) ?_
    obtain ⟨r132, T132, L132, X132, hQ132, st132⟩ := callT (pc := 347) (Ls := #[.val (.int x0), .val (.int x1), .val (.int x2), .val (.int x3), .val (.int x4), .val (.int x5), .val (.ref b1), .val (.int (Int32.ofNat q1)), .val (.int (Int32.ofNat q2)), .val (.int (Int32.ofNat q3)), .val (.int (Int32.ofNat s0)), .val (.int (Int32.ofNat ln)), .val (.int (Int32.ofNat (s0 + ln))), .val (.int z0)]) Xj341 hx hZ hown ehj341 [(.int (Int32.ofNat q1)), (.int (Int32.ofNat s0)), (.int (Int32.ofNat (s0 + ln)))] [] (hw _ (List.mem_of_getElem? (i := 2) rfl)) (hw _ (List.mem_of_getElem? (i := 3) rfl)) (hw _ (List.mem_of_getElem? (i := 4) rfl)) (hw _ (List.mem_of_getElem? (i := 5) rfl)) (by decide) (rm_own_inside l Z a0 hw [] (Int32.ofNat q1) (Int32.ofNat s0) (Int32.ofNat (s0 + ln)) h129 n0 za131) pd_0 rfl (by rw [hml]; rfl) (W := 0) (Nat.le_of_eq rfl) (by decide) (by decide) (by decide) (by decide) (hb hby at_347)
    obtain ⟨rfl, N132q, eh132⟩ := hQ132
    have N132 := Fr.app Nj341 N132q
    refine Gq.go (T132.setTop (mkF m 350 #[.val (.int x0), .val (.int x1), .val (.int x2), .val (.int x3), .val (.int x4), .val (.int x5), .val (.ref b1), .val (.int (Int32.ofNat q1)), .val (.int (Int32.ofNat q2)), .val (.int (Int32.ofNat q3)), .val (.int (Int32.ofNat s0)), .val (.int (Int32.ofNat ln)), .val (.int (Int32.ofNat (s0 + ln))), .val (.int z0)] [(.int (own_inside (Int32.ofNat q1) (Int32.ofNat s0) (Int32.ofNat (s0 + ln))))])) (fun tt_ kk_ => st132 tt_ kk_) ?_
    by_cases hin : (own_inside (Int32.ofNat q1) (Int32.ofNat s0) (Int32.ofNat (s0 + ln))) = (0 : Int32)
    · refine Gq.go (T132.setTop (mkF m 367 #[.val (.int x0), .val (.int x1), .val (.int x2), .val (.int x3), .val (.int x4), .val (.int x5), .val (.ref b1), .val (.int (Int32.ofNat q1)), .val (.int (Int32.ofNat q2)), .val (.int (Int32.ofNat q3)), .val (.int (Int32.ofNat s0)), .val (.int (Int32.ofNat ln)), .val (.int (Int32.ofNat (s0 + ln))), .val (.int z0)] [])) (fun tt_ kk_ => XS.ifYes X132.here hx rfl (pc0 := 350) (pc' := 367) rfl (hb hby at_350) rfl ((if0 _ _).trans (teq hin).1) (by decide) (by decide) kk_) ?_
      have hno : ¬ (s0 ≤ q1 ∧ q1 < s0 + ln) := fun c => by rw [own_inside1 (by omega) (by omega) (by omega) c] at hin; cases hin
      exact K367 _ _ X132 eh132 N132 _ (own_and1 hz0 (fun c => absurd c hno))
    · refine Gq.go (T132.setTop (mkF m 353 #[.val (.int x0), .val (.int x1), .val (.int x2), .val (.int x3), .val (.int x4), .val (.int x5), .val (.ref b1), .val (.int (Int32.ofNat q1)), .val (.int (Int32.ofNat q2)), .val (.int (Int32.ofNat q3)), .val (.int (Int32.ofNat s0)), .val (.int (Int32.ofNat ln)), .val (.int (Int32.ofNat (s0 + ln))), .val (.int z0)] [])) (fun tt_ kk_ => XS.ifNo X132.here hx rfl (hb hby at_350) rfl ((if0 _ _).trans (feq hin).1) kk_) ?_
      have hyes : s0 ≤ q1 ∧ q1 < s0 + ln := own_inside0 (by omega) (by omega) (by omega) hin
      refine Gq.go (T132.setTop (mkF m 355 #[.val (.int x0), .val (.int x1), .val (.int x2), .val (.int x3), .val (.int x4), .val (.int x5), .val (.ref b1), .val (.int (Int32.ofNat q1)), .val (.int (Int32.ofNat q2)), .val (.int (Int32.ofNat q3)), .val (.int (Int32.ofNat s0)), .val (.int (Int32.ofNat ln)), .val (.int (Int32.ofNat (s0 + ln))), .val (.int z0)] [(.ref b1)])) (fun tt_ kk_ => XS.aload X132.here hx rfl (hb hby at_353) rfl rfl kk_) ?_
      refine Gq.go (T132.setTop (mkF m 357 #[.val (.int x0), .val (.int x1), .val (.int x2), .val (.int x3), .val (.int x4), .val (.int x5), .val (.ref b1), .val (.int (Int32.ofNat q1)), .val (.int (Int32.ofNat q2)), .val (.int (Int32.ofNat q3)), .val (.int (Int32.ofNat s0)), .val (.int (Int32.ofNat ln)), .val (.int (Int32.ofNat (s0 + ln))), .val (.int z0)] [(.int (Int32.ofNat q1)), (.ref b1)])) (fun tt_ kk_ => XS.iload X132.here hx rfl (hb hby at_355) rfl kk_) ?_
      refine Gq.go (T132.setTop (mkF m 358 #[.val (.int x0), .val (.int x1), .val (.int x2), .val (.int x3), .val (.int x4), .val (.int x5), .val (.ref b1), .val (.int (Int32.ofNat q1)), .val (.int (Int32.ofNat q2)), .val (.int (Int32.ofNat q3)), .val (.int (Int32.ofNat s0)), .val (.int (Int32.ofNat ln)), .val (.int (Int32.ofNat (s0 + ln))), .val (.int z0)] [(.int ((own_gb q1 q2 q3 x3 x4 x5) q1))])) (fun tt_ kk_ => ldB X132 hx hZ eh132 VG (j := (Int32.ofNat q1)) (i := q1) (x := ((own_gb q1 q2 q3 x3 x4 x5) q1)) (own_nn (by omega)) (own_nc (by omega)) hq1 rfl (hb hby at_357) tt_ kk_) ?_
      obtain ⟨r133, T133, L133, X133, hQ133, st133⟩ := callT (pc := 358) (Ls := #[.val (.int x0), .val (.int x1), .val (.int x2), .val (.int x3), .val (.int x4), .val (.int x5), .val (.ref b1), .val (.int (Int32.ofNat q1)), .val (.int (Int32.ofNat q2)), .val (.int (Int32.ofNat q3)), .val (.int (Int32.ofNat s0)), .val (.int (Int32.ofNat ln)), .val (.int (Int32.ofNat (s0 + ln))), .val (.int z0)]) X132 hx hZ hown eh132 [(.int ((own_gb q1 q2 q3 x3 x4 x5) q1))] [] (hw _ (List.mem_of_getElem? (i := 6) rfl)) (hw _ (List.mem_of_getElem? (i := 7) rfl)) (hw _ (List.mem_of_getElem? (i := 4) rfl)) (hw _ (List.mem_of_getElem? (i := 8) rfl)) (by decide) (rm_own_ok l Z a0 hw [] ((own_gb q1 q2 q3 x3 x4 x5) q1) h129 n0 za131) pd_1 rfl (by rw [hml]; rfl) (W := 0) (Nat.le_of_eq rfl) (by decide) (by decide) (by decide) (by decide) (hb hby at_358)
      obtain ⟨rfl, N133q, eh133⟩ := hQ133
      have N133 := Fr.app N132 N133q
      refine Gq.go (T133.setTop (mkF m 361 #[.val (.int x0), .val (.int x1), .val (.int x2), .val (.int x3), .val (.int x4), .val (.int x5), .val (.ref b1), .val (.int (Int32.ofNat q1)), .val (.int (Int32.ofNat q2)), .val (.int (Int32.ofNat q3)), .val (.int (Int32.ofNat s0)), .val (.int (Int32.ofNat ln)), .val (.int (Int32.ofNat (s0 + ln))), .val (.int z0)] [(.int (own_ok ((own_gb q1 q2 q3 x3 x4 x5) q1)))])) (fun tt_ kk_ => st133 tt_ kk_) ?_
      by_cases hok : (own_ok ((own_gb q1 q2 q3 x3 x4 x5) q1)) = (0 : Int32)
      · refine Gq.go (T133.setTop (mkF m 364 #[.val (.int x0), .val (.int x1), .val (.int x2), .val (.int x3), .val (.int x4), .val (.int x5), .val (.ref b1), .val (.int (Int32.ofNat q1)), .val (.int (Int32.ofNat q2)), .val (.int (Int32.ofNat q3)), .val (.int (Int32.ofNat s0)), .val (.int (Int32.ofNat ln)), .val (.int (Int32.ofNat (s0 + ln))), .val (.int z0)] [])) (fun tt_ kk_ => XS.ifNo X133.here hx rfl (hb hby at_361) rfl ((if0 _ _).trans (teq hok).2) kk_) ?_
        refine Gq.go (T133.setTop (mkF m 365 #[.val (.int x0), .val (.int x1), .val (.int x2), .val (.int x3), .val (.int x4), .val (.int x5), .val (.ref b1), .val (.int (Int32.ofNat q1)), .val (.int (Int32.ofNat q2)), .val (.int (Int32.ofNat q3)), .val (.int (Int32.ofNat s0)), .val (.int (Int32.ofNat ln)), .val (.int (Int32.ofNat (s0 + ln))), .val (.int z0)] [(.int (0 : Int32))])) (fun tt_ kk_ => XS.iconst X133.here hx rfl (hb hby at_364) kk_) ?_
        refine Gq.go (T133.setTop (mkF m 367 #[.val (.int x0), .val (.int x1), .val (.int x2), .val (.int x3), .val (.int x4), .val (.int x5), .val (.ref b1), .val (.int (Int32.ofNat q1)), .val (.int (Int32.ofNat q2)), .val (.int (Int32.ofNat q3)), .val (.int (Int32.ofNat s0)), .val (.int (Int32.ofNat ln)), .val (.int (Int32.ofNat (s0 + ln))), .val (.int (0 : Int32))] [])) (fun tt_ kk_ => XS.istore X133.here hx rfl (hb hby at_365) rfl (l' := #[.val (.int x0), .val (.int x1), .val (.int x2), .val (.int x3), .val (.int x4), .val (.int x5), .val (.ref b1), .val (.int (Int32.ofNat q1)), .val (.int (Int32.ofNat q2)), .val (.int (Int32.ofNat q3)), .val (.int (Int32.ofNat s0)), .val (.int (Int32.ofNat ln)), .val (.int (Int32.ofNat (s0 + ln))), .val (.int (0 : Int32))]) rfl kk_) ?_
        exact K367 _ _ X133 eh133 N133 _ (own_and0 hz0 (fun c => absurd (c hyes) (by rw [hok]; decide)))
      · refine Gq.go (T133.setTop (mkF m 367 #[.val (.int x0), .val (.int x1), .val (.int x2), .val (.int x3), .val (.int x4), .val (.int x5), .val (.ref b1), .val (.int (Int32.ofNat q1)), .val (.int (Int32.ofNat q2)), .val (.int (Int32.ofNat q3)), .val (.int (Int32.ofNat s0)), .val (.int (Int32.ofNat ln)), .val (.int (Int32.ofNat (s0 + ln))), .val (.int z0)] [])) (fun tt_ kk_ => XS.ifYes X133.here hx rfl (pc0 := 361) (pc' := 367) rfl (hb hby at_361) rfl ((if0 _ _).trans (feq hok).2) (by decide) (by decide) kk_) ?_
        exact K367 _ _ X133 eh133 N133 _ (own_and1 hz0 (fun _ => (own_ok01 _).resolve_left hok))
  intro Tj367 Lj367 Xj367 ehj367 Nj367 z1 hz1
  suffices K393 : ∀ (Tj393 : State) (Lj393 : List Loc), Stand p l e room_1 s m #[(.int x0), (.int x1), (.int x2), (.int x3), (.int x4), (.int x5)] below meth c Tj393 Lj393 1 40 → Tj393.heap = h129 → Fr n0 Lj393 → ∀ z2 : Int32, (z2 = 1 ∧ (((1 ≤ ln ∧ ln ≤ 32) ∧ (s0 ≤ q1 ∧ q1 < s0 + ln → own_ok ((own_gb q1 q2 q3 x3 x4 x5) q1) = 1)) ∧ (s0 ≤ q2 ∧ q2 < s0 + ln → own_ok ((own_gb q1 q2 q3 x3 x4 x5) q2) = 1))) ∨ (z2 = 0 ∧ ¬ (((1 ≤ ln ∧ ln ≤ 32) ∧ (s0 ≤ q1 ∧ q1 < s0 + ln → own_ok ((own_gb q1 q2 q3 x3 x4 x5) q1) = 1)) ∧ (s0 ≤ q2 ∧ q2 < s0 + ln → own_ok ((own_gb q1 q2 q3 x3 x4 x5) q2) = 1))) → Gq p.tables e below s (Q0 Z x0 x1 x2 x3 x4 x5 h0 n0) room_1.cells room_1.slots (Tj393.setTop (mkF m 393 #[.val (.int x0), .val (.int x1), .val (.int x2), .val (.int x3), .val (.int x4), .val (.int x5), .val (.ref b1), .val (.int (Int32.ofNat q1)), .val (.int (Int32.ofNat q2)), .val (.int (Int32.ofNat q3)), .val (.int (Int32.ofNat s0)), .val (.int (Int32.ofNat ln)), .val (.int (Int32.ofNat (s0 + ln))), .val (.int z2)] [])) by
    refine Gq.go (Tj367.setTop (mkF m 369 #[.val (.int x0), .val (.int x1), .val (.int x2), .val (.int x3), .val (.int x4), .val (.int x5), .val (.ref b1), .val (.int (Int32.ofNat q1)), .val (.int (Int32.ofNat q2)), .val (.int (Int32.ofNat q3)), .val (.int (Int32.ofNat s0)), .val (.int (Int32.ofNat ln)), .val (.int (Int32.ofNat (s0 + ln))), .val (.int z1)] [(.int (Int32.ofNat q2))])) (fun tt_ kk_ => XS.iload Xj367.here hx rfl (hb hby at_367) rfl kk_) ?_
    refine Gq.go (Tj367.setTop (mkF m 371 #[.val (.int x0), .val (.int x1), .val (.int x2), .val (.int x3), .val (.int x4), .val (.int x5), .val (.ref b1), .val (.int (Int32.ofNat q1)), .val (.int (Int32.ofNat q2)), .val (.int (Int32.ofNat q3)), .val (.int (Int32.ofNat s0)), .val (.int (Int32.ofNat ln)), .val (.int (Int32.ofNat (s0 + ln))), .val (.int z1)] [(.int (Int32.ofNat s0)), (.int (Int32.ofNat q2))])) (fun tt_ kk_ => XS.iload Xj367.here hx rfl (hb hby at_369) rfl kk_) ?_
    refine Gq.go (Tj367.setTop (mkF m 373 #[.val (.int x0), .val (.int x1), .val (.int x2), .val (.int x3), .val (.int x4), .val (.int x5), .val (.ref b1), .val (.int (Int32.ofNat q1)), .val (.int (Int32.ofNat q2)), .val (.int (Int32.ofNat q3)), .val (.int (Int32.ofNat s0)), .val (.int (Int32.ofNat ln)), .val (.int (Int32.ofNat (s0 + ln))), .val (.int z1)] [(.int (Int32.ofNat (s0 + ln))), (.int (Int32.ofNat s0)), (.int (Int32.ofNat q2))])) (fun tt_ kk_ => XS.iload Xj367.here hx rfl (hb hby at_371) rfl kk_) ?_
    obtain ⟨r134, T134, L134, X134, hQ134, st134⟩ := callT (pc := 373) (Ls := #[.val (.int x0), .val (.int x1), .val (.int x2), .val (.int x3), .val (.int x4), .val (.int x5), .val (.ref b1), .val (.int (Int32.ofNat q1)), .val (.int (Int32.ofNat q2)), .val (.int (Int32.ofNat q3)), .val (.int (Int32.ofNat s0)), .val (.int (Int32.ofNat ln)), .val (.int (Int32.ofNat (s0 + ln))), .val (.int z1)]) Xj367 hx hZ hown ehj367 [(.int (Int32.ofNat q2)), (.int (Int32.ofNat s0)), (.int (Int32.ofNat (s0 + ln)))] [] (hw _ (List.mem_of_getElem? (i := 2) rfl)) (hw _ (List.mem_of_getElem? (i := 3) rfl)) (hw _ (List.mem_of_getElem? (i := 4) rfl)) (hw _ (List.mem_of_getElem? (i := 5) rfl)) (by decide) (rm_own_inside l Z a0 hw [] (Int32.ofNat q2) (Int32.ofNat s0) (Int32.ofNat (s0 + ln)) h129 n0 za131) pd_0 rfl (by rw [hml]; rfl) (W := 0) (Nat.le_of_eq rfl) (by decide) (by decide) (by decide) (by decide) (hb hby at_373)
    obtain ⟨rfl, N134q, eh134⟩ := hQ134
    have N134 := Fr.app Nj367 N134q
    refine Gq.go (T134.setTop (mkF m 376 #[.val (.int x0), .val (.int x1), .val (.int x2), .val (.int x3), .val (.int x4), .val (.int x5), .val (.ref b1), .val (.int (Int32.ofNat q1)), .val (.int (Int32.ofNat q2)), .val (.int (Int32.ofNat q3)), .val (.int (Int32.ofNat s0)), .val (.int (Int32.ofNat ln)), .val (.int (Int32.ofNat (s0 + ln))), .val (.int z1)] [(.int (own_inside (Int32.ofNat q2) (Int32.ofNat s0) (Int32.ofNat (s0 + ln))))])) (fun tt_ kk_ => st134 tt_ kk_) ?_
    by_cases hin : (own_inside (Int32.ofNat q2) (Int32.ofNat s0) (Int32.ofNat (s0 + ln))) = (0 : Int32)
    · refine Gq.go (T134.setTop (mkF m 393 #[.val (.int x0), .val (.int x1), .val (.int x2), .val (.int x3), .val (.int x4), .val (.int x5), .val (.ref b1), .val (.int (Int32.ofNat q1)), .val (.int (Int32.ofNat q2)), .val (.int (Int32.ofNat q3)), .val (.int (Int32.ofNat s0)), .val (.int (Int32.ofNat ln)), .val (.int (Int32.ofNat (s0 + ln))), .val (.int z1)] [])) (fun tt_ kk_ => XS.ifYes X134.here hx rfl (pc0 := 376) (pc' := 393) rfl (hb hby at_376) rfl ((if0 _ _).trans (teq hin).1) (by decide) (by decide) kk_) ?_
      have hno : ¬ (s0 ≤ q2 ∧ q2 < s0 + ln) := fun c => by rw [own_inside1 (by omega) (by omega) (by omega) c] at hin; cases hin
      exact K393 _ _ X134 eh134 N134 _ (own_and1 hz1 (fun c => absurd c hno))
    · refine Gq.go (T134.setTop (mkF m 379 #[.val (.int x0), .val (.int x1), .val (.int x2), .val (.int x3), .val (.int x4), .val (.int x5), .val (.ref b1), .val (.int (Int32.ofNat q1)), .val (.int (Int32.ofNat q2)), .val (.int (Int32.ofNat q3)), .val (.int (Int32.ofNat s0)), .val (.int (Int32.ofNat ln)), .val (.int (Int32.ofNat (s0 + ln))), .val (.int z1)] [])) (fun tt_ kk_ => XS.ifNo X134.here hx rfl (hb hby at_376) rfl ((if0 _ _).trans (feq hin).1) kk_) ?_
      have hyes : s0 ≤ q2 ∧ q2 < s0 + ln := own_inside0 (by omega) (by omega) (by omega) hin
      refine Gq.go (T134.setTop (mkF m 381 #[.val (.int x0), .val (.int x1), .val (.int x2), .val (.int x3), .val (.int x4), .val (.int x5), .val (.ref b1), .val (.int (Int32.ofNat q1)), .val (.int (Int32.ofNat q2)), .val (.int (Int32.ofNat q3)), .val (.int (Int32.ofNat s0)), .val (.int (Int32.ofNat ln)), .val (.int (Int32.ofNat (s0 + ln))), .val (.int z1)] [(.ref b1)])) (fun tt_ kk_ => XS.aload X134.here hx rfl (hb hby at_379) rfl rfl kk_) ?_
      refine Gq.go (T134.setTop (mkF m 383 #[.val (.int x0), .val (.int x1), .val (.int x2), .val (.int x3), .val (.int x4), .val (.int x5), .val (.ref b1), .val (.int (Int32.ofNat q1)), .val (.int (Int32.ofNat q2)), .val (.int (Int32.ofNat q3)), .val (.int (Int32.ofNat s0)), .val (.int (Int32.ofNat ln)), .val (.int (Int32.ofNat (s0 + ln))), .val (.int z1)] [(.int (Int32.ofNat q2)), (.ref b1)])) (fun tt_ kk_ => XS.iload X134.here hx rfl (hb hby at_381) rfl kk_) ?_
      refine Gq.go (T134.setTop (mkF m 384 #[.val (.int x0), .val (.int x1), .val (.int x2), .val (.int x3), .val (.int x4), .val (.int x5), .val (.ref b1), .val (.int (Int32.ofNat q1)), .val (.int (Int32.ofNat q2)), .val (.int (Int32.ofNat q3)), .val (.int (Int32.ofNat s0)), .val (.int (Int32.ofNat ln)), .val (.int (Int32.ofNat (s0 + ln))), .val (.int z1)] [(.int ((own_gb q1 q2 q3 x3 x4 x5) q2))])) (fun tt_ kk_ => ldB X134 hx hZ eh134 VG (j := (Int32.ofNat q2)) (i := q2) (x := ((own_gb q1 q2 q3 x3 x4 x5) q2)) (own_nn (by omega)) (own_nc (by omega)) hq2 rfl (hb hby at_383) tt_ kk_) ?_
      obtain ⟨r135, T135, L135, X135, hQ135, st135⟩ := callT (pc := 384) (Ls := #[.val (.int x0), .val (.int x1), .val (.int x2), .val (.int x3), .val (.int x4), .val (.int x5), .val (.ref b1), .val (.int (Int32.ofNat q1)), .val (.int (Int32.ofNat q2)), .val (.int (Int32.ofNat q3)), .val (.int (Int32.ofNat s0)), .val (.int (Int32.ofNat ln)), .val (.int (Int32.ofNat (s0 + ln))), .val (.int z1)]) X134 hx hZ hown eh134 [(.int ((own_gb q1 q2 q3 x3 x4 x5) q2))] [] (hw _ (List.mem_of_getElem? (i := 6) rfl)) (hw _ (List.mem_of_getElem? (i := 7) rfl)) (hw _ (List.mem_of_getElem? (i := 4) rfl)) (hw _ (List.mem_of_getElem? (i := 8) rfl)) (by decide) (rm_own_ok l Z a0 hw [] ((own_gb q1 q2 q3 x3 x4 x5) q2) h129 n0 za131) pd_1 rfl (by rw [hml]; rfl) (W := 0) (Nat.le_of_eq rfl) (by decide) (by decide) (by decide) (by decide) (hb hby at_384)
      obtain ⟨rfl, N135q, eh135⟩ := hQ135
      have N135 := Fr.app N134 N135q
      refine Gq.go (T135.setTop (mkF m 387 #[.val (.int x0), .val (.int x1), .val (.int x2), .val (.int x3), .val (.int x4), .val (.int x5), .val (.ref b1), .val (.int (Int32.ofNat q1)), .val (.int (Int32.ofNat q2)), .val (.int (Int32.ofNat q3)), .val (.int (Int32.ofNat s0)), .val (.int (Int32.ofNat ln)), .val (.int (Int32.ofNat (s0 + ln))), .val (.int z1)] [(.int (own_ok ((own_gb q1 q2 q3 x3 x4 x5) q2)))])) (fun tt_ kk_ => st135 tt_ kk_) ?_
      by_cases hok : (own_ok ((own_gb q1 q2 q3 x3 x4 x5) q2)) = (0 : Int32)
      · refine Gq.go (T135.setTop (mkF m 390 #[.val (.int x0), .val (.int x1), .val (.int x2), .val (.int x3), .val (.int x4), .val (.int x5), .val (.ref b1), .val (.int (Int32.ofNat q1)), .val (.int (Int32.ofNat q2)), .val (.int (Int32.ofNat q3)), .val (.int (Int32.ofNat s0)), .val (.int (Int32.ofNat ln)), .val (.int (Int32.ofNat (s0 + ln))), .val (.int z1)] [])) (fun tt_ kk_ => XS.ifNo X135.here hx rfl (hb hby at_387) rfl ((if0 _ _).trans (teq hok).2) kk_) ?_
        refine Gq.go (T135.setTop (mkF m 391 #[.val (.int x0), .val (.int x1), .val (.int x2), .val (.int x3), .val (.int x4), .val (.int x5), .val (.ref b1), .val (.int (Int32.ofNat q1)), .val (.int (Int32.ofNat q2)), .val (.int (Int32.ofNat q3)), .val (.int (Int32.ofNat s0)), .val (.int (Int32.ofNat ln)), .val (.int (Int32.ofNat (s0 + ln))), .val (.int z1)] [(.int (0 : Int32))])) (fun tt_ kk_ => XS.iconst X135.here hx rfl (hb hby at_390) kk_) ?_
        refine Gq.go (T135.setTop (mkF m 393 #[.val (.int x0), .val (.int x1), .val (.int x2), .val (.int x3), .val (.int x4), .val (.int x5), .val (.ref b1), .val (.int (Int32.ofNat q1)), .val (.int (Int32.ofNat q2)), .val (.int (Int32.ofNat q3)), .val (.int (Int32.ofNat s0)), .val (.int (Int32.ofNat ln)), .val (.int (Int32.ofNat (s0 + ln))), .val (.int (0 : Int32))] [])) (fun tt_ kk_ => XS.istore X135.here hx rfl (hb hby at_391) rfl (l' := #[.val (.int x0), .val (.int x1), .val (.int x2), .val (.int x3), .val (.int x4), .val (.int x5), .val (.ref b1), .val (.int (Int32.ofNat q1)), .val (.int (Int32.ofNat q2)), .val (.int (Int32.ofNat q3)), .val (.int (Int32.ofNat s0)), .val (.int (Int32.ofNat ln)), .val (.int (Int32.ofNat (s0 + ln))), .val (.int (0 : Int32))]) rfl kk_) ?_
        exact K393 _ _ X135 eh135 N135 _ (own_and0 hz1 (fun c => absurd (c hyes) (by rw [hok]; decide)))
      · refine Gq.go (T135.setTop (mkF m 393 #[.val (.int x0), .val (.int x1), .val (.int x2), .val (.int x3), .val (.int x4), .val (.int x5), .val (.ref b1), .val (.int (Int32.ofNat q1)), .val (.int (Int32.ofNat q2)), .val (.int (Int32.ofNat q3)), .val (.int (Int32.ofNat s0)), .val (.int (Int32.ofNat ln)), .val (.int (Int32.ofNat (s0 + ln))), .val (.int z1)] [])) (fun tt_ kk_ => XS.ifYes X135.here hx rfl (pc0 := 387) (pc' := 393) rfl (hb hby at_387) rfl ((if0 _ _).trans (feq hok).2) (by decide) (by decide) kk_) ?_
        exact K393 _ _ X135 eh135 N135 _ (own_and1 hz1 (fun _ => (own_ok01 _).resolve_left hok))
  intro Tj393 Lj393 Xj393 ehj393 Nj393 z2 hz2
  suffices K419 : ∀ (Tj419 : State) (Lj419 : List Loc), Stand p l e room_1 s m #[(.int x0), (.int x1), (.int x2), (.int x3), (.int x4), (.int x5)] below meth c Tj419 Lj419 1 40 → Tj419.heap = h129 → Fr n0 Lj419 → ∀ z3 : Int32, (z3 = 1 ∧ ((((1 ≤ ln ∧ ln ≤ 32) ∧ (s0 ≤ q1 ∧ q1 < s0 + ln → own_ok ((own_gb q1 q2 q3 x3 x4 x5) q1) = 1)) ∧ (s0 ≤ q2 ∧ q2 < s0 + ln → own_ok ((own_gb q1 q2 q3 x3 x4 x5) q2) = 1)) ∧ (s0 ≤ q3 ∧ q3 < s0 + ln → own_ok ((own_gb q1 q2 q3 x3 x4 x5) q3) = 1))) ∨ (z3 = 0 ∧ ¬ ((((1 ≤ ln ∧ ln ≤ 32) ∧ (s0 ≤ q1 ∧ q1 < s0 + ln → own_ok ((own_gb q1 q2 q3 x3 x4 x5) q1) = 1)) ∧ (s0 ≤ q2 ∧ q2 < s0 + ln → own_ok ((own_gb q1 q2 q3 x3 x4 x5) q2) = 1)) ∧ (s0 ≤ q3 ∧ q3 < s0 + ln → own_ok ((own_gb q1 q2 q3 x3 x4 x5) q3) = 1))) → Gq p.tables e below s (Q0 Z x0 x1 x2 x3 x4 x5 h0 n0) room_1.cells room_1.slots (Tj419.setTop (mkF m 419 #[.val (.int x0), .val (.int x1), .val (.int x2), .val (.int x3), .val (.int x4), .val (.int x5), .val (.ref b1), .val (.int (Int32.ofNat q1)), .val (.int (Int32.ofNat q2)), .val (.int (Int32.ofNat q3)), .val (.int (Int32.ofNat s0)), .val (.int (Int32.ofNat ln)), .val (.int (Int32.ofNat (s0 + ln))), .val (.int z3)] [])) by
    refine Gq.go (Tj393.setTop (mkF m 395 #[.val (.int x0), .val (.int x1), .val (.int x2), .val (.int x3), .val (.int x4), .val (.int x5), .val (.ref b1), .val (.int (Int32.ofNat q1)), .val (.int (Int32.ofNat q2)), .val (.int (Int32.ofNat q3)), .val (.int (Int32.ofNat s0)), .val (.int (Int32.ofNat ln)), .val (.int (Int32.ofNat (s0 + ln))), .val (.int z2)] [(.int (Int32.ofNat q3))])) (fun tt_ kk_ => XS.iload Xj393.here hx rfl (hb hby at_393) rfl kk_) ?_
    refine Gq.go (Tj393.setTop (mkF m 397 #[.val (.int x0), .val (.int x1), .val (.int x2), .val (.int x3), .val (.int x4), .val (.int x5), .val (.ref b1), .val (.int (Int32.ofNat q1)), .val (.int (Int32.ofNat q2)), .val (.int (Int32.ofNat q3)), .val (.int (Int32.ofNat s0)), .val (.int (Int32.ofNat ln)), .val (.int (Int32.ofNat (s0 + ln))), .val (.int z2)] [(.int (Int32.ofNat s0)), (.int (Int32.ofNat q3))])) (fun tt_ kk_ => XS.iload Xj393.here hx rfl (hb hby at_395) rfl kk_) ?_
    refine Gq.go (Tj393.setTop (mkF m 399 #[.val (.int x0), .val (.int x1), .val (.int x2), .val (.int x3), .val (.int x4), .val (.int x5), .val (.ref b1), .val (.int (Int32.ofNat q1)), .val (.int (Int32.ofNat q2)), .val (.int (Int32.ofNat q3)), .val (.int (Int32.ofNat s0)), .val (.int (Int32.ofNat ln)), .val (.int (Int32.ofNat (s0 + ln))), .val (.int z2)] [(.int (Int32.ofNat (s0 + ln))), (.int (Int32.ofNat s0)), (.int (Int32.ofNat q3))])) (fun tt_ kk_ => XS.iload Xj393.here hx rfl (hb hby at_397) rfl kk_) ?_
    obtain ⟨r136, T136, L136, X136, hQ136, st136⟩ := callT (pc := 399) (Ls := #[.val (.int x0), .val (.int x1), .val (.int x2), .val (.int x3), .val (.int x4), .val (.int x5), .val (.ref b1), .val (.int (Int32.ofNat q1)), .val (.int (Int32.ofNat q2)), .val (.int (Int32.ofNat q3)), .val (.int (Int32.ofNat s0)), .val (.int (Int32.ofNat ln)), .val (.int (Int32.ofNat (s0 + ln))), .val (.int z2)]) Xj393 hx hZ hown ehj393 [(.int (Int32.ofNat q3)), (.int (Int32.ofNat s0)), (.int (Int32.ofNat (s0 + ln)))] [] (hw _ (List.mem_of_getElem? (i := 2) rfl)) (hw _ (List.mem_of_getElem? (i := 3) rfl)) (hw _ (List.mem_of_getElem? (i := 4) rfl)) (hw _ (List.mem_of_getElem? (i := 5) rfl)) (by decide) (rm_own_inside l Z a0 hw [] (Int32.ofNat q3) (Int32.ofNat s0) (Int32.ofNat (s0 + ln)) h129 n0 za131) pd_0 rfl (by rw [hml]; rfl) (W := 0) (Nat.le_of_eq rfl) (by decide) (by decide) (by decide) (by decide) (hb hby at_399)
    obtain ⟨rfl, N136q, eh136⟩ := hQ136
    have N136 := Fr.app Nj393 N136q
    refine Gq.go (T136.setTop (mkF m 402 #[.val (.int x0), .val (.int x1), .val (.int x2), .val (.int x3), .val (.int x4), .val (.int x5), .val (.ref b1), .val (.int (Int32.ofNat q1)), .val (.int (Int32.ofNat q2)), .val (.int (Int32.ofNat q3)), .val (.int (Int32.ofNat s0)), .val (.int (Int32.ofNat ln)), .val (.int (Int32.ofNat (s0 + ln))), .val (.int z2)] [(.int (own_inside (Int32.ofNat q3) (Int32.ofNat s0) (Int32.ofNat (s0 + ln))))])) (fun tt_ kk_ => st136 tt_ kk_) ?_
    by_cases hin : (own_inside (Int32.ofNat q3) (Int32.ofNat s0) (Int32.ofNat (s0 + ln))) = (0 : Int32)
    · refine Gq.go (T136.setTop (mkF m 419 #[.val (.int x0), .val (.int x1), .val (.int x2), .val (.int x3), .val (.int x4), .val (.int x5), .val (.ref b1), .val (.int (Int32.ofNat q1)), .val (.int (Int32.ofNat q2)), .val (.int (Int32.ofNat q3)), .val (.int (Int32.ofNat s0)), .val (.int (Int32.ofNat ln)), .val (.int (Int32.ofNat (s0 + ln))), .val (.int z2)] [])) (fun tt_ kk_ => XS.ifYes X136.here hx rfl (pc0 := 402) (pc' := 419) rfl (hb hby at_402) rfl ((if0 _ _).trans (teq hin).1) (by decide) (by decide) kk_) ?_
      have hno : ¬ (s0 ≤ q3 ∧ q3 < s0 + ln) := fun c => by rw [own_inside1 (by omega) (by omega) (by omega) c] at hin; cases hin
      exact K419 _ _ X136 eh136 N136 _ (own_and1 hz2 (fun c => absurd c hno))
    · refine Gq.go (T136.setTop (mkF m 405 #[.val (.int x0), .val (.int x1), .val (.int x2), .val (.int x3), .val (.int x4), .val (.int x5), .val (.ref b1), .val (.int (Int32.ofNat q1)), .val (.int (Int32.ofNat q2)), .val (.int (Int32.ofNat q3)), .val (.int (Int32.ofNat s0)), .val (.int (Int32.ofNat ln)), .val (.int (Int32.ofNat (s0 + ln))), .val (.int z2)] [])) (fun tt_ kk_ => XS.ifNo X136.here hx rfl (hb hby at_402) rfl ((if0 _ _).trans (feq hin).1) kk_) ?_
      have hyes : s0 ≤ q3 ∧ q3 < s0 + ln := own_inside0 (by omega) (by omega) (by omega) hin
      refine Gq.go (T136.setTop (mkF m 407 #[.val (.int x0), .val (.int x1), .val (.int x2), .val (.int x3), .val (.int x4), .val (.int x5), .val (.ref b1), .val (.int (Int32.ofNat q1)), .val (.int (Int32.ofNat q2)), .val (.int (Int32.ofNat q3)), .val (.int (Int32.ofNat s0)), .val (.int (Int32.ofNat ln)), .val (.int (Int32.ofNat (s0 + ln))), .val (.int z2)] [(.ref b1)])) (fun tt_ kk_ => XS.aload X136.here hx rfl (hb hby at_405) rfl rfl kk_) ?_
      refine Gq.go (T136.setTop (mkF m 409 #[.val (.int x0), .val (.int x1), .val (.int x2), .val (.int x3), .val (.int x4), .val (.int x5), .val (.ref b1), .val (.int (Int32.ofNat q1)), .val (.int (Int32.ofNat q2)), .val (.int (Int32.ofNat q3)), .val (.int (Int32.ofNat s0)), .val (.int (Int32.ofNat ln)), .val (.int (Int32.ofNat (s0 + ln))), .val (.int z2)] [(.int (Int32.ofNat q3)), (.ref b1)])) (fun tt_ kk_ => XS.iload X136.here hx rfl (hb hby at_407) rfl kk_) ?_
      refine Gq.go (T136.setTop (mkF m 410 #[.val (.int x0), .val (.int x1), .val (.int x2), .val (.int x3), .val (.int x4), .val (.int x5), .val (.ref b1), .val (.int (Int32.ofNat q1)), .val (.int (Int32.ofNat q2)), .val (.int (Int32.ofNat q3)), .val (.int (Int32.ofNat s0)), .val (.int (Int32.ofNat ln)), .val (.int (Int32.ofNat (s0 + ln))), .val (.int z2)] [(.int ((own_gb q1 q2 q3 x3 x4 x5) q3))])) (fun tt_ kk_ => ldB X136 hx hZ eh136 VG (j := (Int32.ofNat q3)) (i := q3) (x := ((own_gb q1 q2 q3 x3 x4 x5) q3)) (own_nn (by omega)) (own_nc (by omega)) hq3 rfl (hb hby at_409) tt_ kk_) ?_
      obtain ⟨r137, T137, L137, X137, hQ137, st137⟩ := callT (pc := 410) (Ls := #[.val (.int x0), .val (.int x1), .val (.int x2), .val (.int x3), .val (.int x4), .val (.int x5), .val (.ref b1), .val (.int (Int32.ofNat q1)), .val (.int (Int32.ofNat q2)), .val (.int (Int32.ofNat q3)), .val (.int (Int32.ofNat s0)), .val (.int (Int32.ofNat ln)), .val (.int (Int32.ofNat (s0 + ln))), .val (.int z2)]) X136 hx hZ hown eh136 [(.int ((own_gb q1 q2 q3 x3 x4 x5) q3))] [] (hw _ (List.mem_of_getElem? (i := 6) rfl)) (hw _ (List.mem_of_getElem? (i := 7) rfl)) (hw _ (List.mem_of_getElem? (i := 4) rfl)) (hw _ (List.mem_of_getElem? (i := 8) rfl)) (by decide) (rm_own_ok l Z a0 hw [] ((own_gb q1 q2 q3 x3 x4 x5) q3) h129 n0 za131) pd_1 rfl (by rw [hml]; rfl) (W := 0) (Nat.le_of_eq rfl) (by decide) (by decide) (by decide) (by decide) (hb hby at_410)
      obtain ⟨rfl, N137q, eh137⟩ := hQ137
      have N137 := Fr.app N136 N137q
      refine Gq.go (T137.setTop (mkF m 413 #[.val (.int x0), .val (.int x1), .val (.int x2), .val (.int x3), .val (.int x4), .val (.int x5), .val (.ref b1), .val (.int (Int32.ofNat q1)), .val (.int (Int32.ofNat q2)), .val (.int (Int32.ofNat q3)), .val (.int (Int32.ofNat s0)), .val (.int (Int32.ofNat ln)), .val (.int (Int32.ofNat (s0 + ln))), .val (.int z2)] [(.int (own_ok ((own_gb q1 q2 q3 x3 x4 x5) q3)))])) (fun tt_ kk_ => st137 tt_ kk_) ?_
      by_cases hok : (own_ok ((own_gb q1 q2 q3 x3 x4 x5) q3)) = (0 : Int32)
      · refine Gq.go (T137.setTop (mkF m 416 #[.val (.int x0), .val (.int x1), .val (.int x2), .val (.int x3), .val (.int x4), .val (.int x5), .val (.ref b1), .val (.int (Int32.ofNat q1)), .val (.int (Int32.ofNat q2)), .val (.int (Int32.ofNat q3)), .val (.int (Int32.ofNat s0)), .val (.int (Int32.ofNat ln)), .val (.int (Int32.ofNat (s0 + ln))), .val (.int z2)] [])) (fun tt_ kk_ => XS.ifNo X137.here hx rfl (hb hby at_413) rfl ((if0 _ _).trans (teq hok).2) kk_) ?_
        refine Gq.go (T137.setTop (mkF m 417 #[.val (.int x0), .val (.int x1), .val (.int x2), .val (.int x3), .val (.int x4), .val (.int x5), .val (.ref b1), .val (.int (Int32.ofNat q1)), .val (.int (Int32.ofNat q2)), .val (.int (Int32.ofNat q3)), .val (.int (Int32.ofNat s0)), .val (.int (Int32.ofNat ln)), .val (.int (Int32.ofNat (s0 + ln))), .val (.int z2)] [(.int (0 : Int32))])) (fun tt_ kk_ => XS.iconst X137.here hx rfl (hb hby at_416) kk_) ?_
        refine Gq.go (T137.setTop (mkF m 419 #[.val (.int x0), .val (.int x1), .val (.int x2), .val (.int x3), .val (.int x4), .val (.int x5), .val (.ref b1), .val (.int (Int32.ofNat q1)), .val (.int (Int32.ofNat q2)), .val (.int (Int32.ofNat q3)), .val (.int (Int32.ofNat s0)), .val (.int (Int32.ofNat ln)), .val (.int (Int32.ofNat (s0 + ln))), .val (.int (0 : Int32))] [])) (fun tt_ kk_ => XS.istore X137.here hx rfl (hb hby at_417) rfl (l' := #[.val (.int x0), .val (.int x1), .val (.int x2), .val (.int x3), .val (.int x4), .val (.int x5), .val (.ref b1), .val (.int (Int32.ofNat q1)), .val (.int (Int32.ofNat q2)), .val (.int (Int32.ofNat q3)), .val (.int (Int32.ofNat s0)), .val (.int (Int32.ofNat ln)), .val (.int (Int32.ofNat (s0 + ln))), .val (.int (0 : Int32))]) rfl kk_) ?_
        exact K419 _ _ X137 eh137 N137 _ (own_and0 hz2 (fun c => absurd (c hyes) (by rw [hok]; decide)))
      · refine Gq.go (T137.setTop (mkF m 419 #[.val (.int x0), .val (.int x1), .val (.int x2), .val (.int x3), .val (.int x4), .val (.int x5), .val (.ref b1), .val (.int (Int32.ofNat q1)), .val (.int (Int32.ofNat q2)), .val (.int (Int32.ofNat q3)), .val (.int (Int32.ofNat s0)), .val (.int (Int32.ofNat ln)), .val (.int (Int32.ofNat (s0 + ln))), .val (.int z2)] [])) (fun tt_ kk_ => XS.ifYes X137.here hx rfl (pc0 := 413) (pc' := 419) rfl (hb hby at_413) rfl ((if0 _ _).trans (feq hok).2) (by decide) (by decide) kk_) ?_
        exact K419 _ _ X137 eh137 N137 _ (own_and1 hz2 (fun _ => (own_ok01 _).resolve_left hok))
  intro Tj419 Lj419 Xj419 ehj419 Nj419 z3 hz3
  refine Gq.go (Tj419.setTop (mkF m 421 #[.val (.int x0), .val (.int x1), .val (.int x2), .val (.int x3), .val (.int x4), .val (.int x5), .val (.ref b1), .val (.int (Int32.ofNat q1)), .val (.int (Int32.ofNat q2)), .val (.int (Int32.ofNat q3)), .val (.int (Int32.ofNat s0)), .val (.int (Int32.ofNat ln)), .val (.int (Int32.ofNat (s0 + ln))), .val (.int z3)] [(.ref b1)])) (fun tt_ kk_ => XS.aload Xj419.here hx rfl (hb hby at_419) rfl rfl kk_) ?_
  refine Gq.go (Tj419.setTop (mkF m 423 #[.val (.int x0), .val (.int x1), .val (.int x2), .val (.int x3), .val (.int x4), .val (.int x5), .val (.ref b1), .val (.int (Int32.ofNat q1)), .val (.int (Int32.ofNat q2)), .val (.int (Int32.ofNat q3)), .val (.int (Int32.ofNat s0)), .val (.int (Int32.ofNat ln)), .val (.int (Int32.ofNat (s0 + ln))), .val (.int z3)] [(.int (Int32.ofNat s0)), (.ref b1)])) (fun tt_ kk_ => XS.iload Xj419.here hx rfl (hb hby at_421) rfl kk_) ?_
  refine Gq.go (Tj419.setTop (mkF m 425 #[.val (.int x0), .val (.int x1), .val (.int x2), .val (.int x3), .val (.int x4), .val (.int x5), .val (.ref b1), .val (.int (Int32.ofNat q1)), .val (.int (Int32.ofNat q2)), .val (.int (Int32.ofNat q3)), .val (.int (Int32.ofNat s0)), .val (.int (Int32.ofNat ln)), .val (.int (Int32.ofNat (s0 + ln))), .val (.int z3)] [(.int (Int32.ofNat (s0 + ln))), (.int (Int32.ofNat s0)), (.ref b1)])) (fun tt_ kk_ => XS.iload Xj419.here hx rfl (hb hby at_423) rfl kk_) ?_
  obtain ⟨r138, T138, L138, X138, hQ138, st138⟩ := callT (pc := 425) (Ls := #[.val (.int x0), .val (.int x1), .val (.int x2), .val (.int x3), .val (.int x4), .val (.int x5), .val (.ref b1), .val (.int (Int32.ofNat q1)), .val (.int (Int32.ofNat q2)), .val (.int (Int32.ofNat q3)), .val (.int (Int32.ofNat s0)), .val (.int (Int32.ofNat ln)), .val (.int (Int32.ofNat (s0 + ln))), .val (.int z3)]) Xj419 hx hZ hown ehj419 [(.ref b1), (.int (Int32.ofNat s0)), (.int (Int32.ofNat (s0 + ln)))] [] (hw _ (List.mem_of_getElem? (i := 9) rfl)) (hw _ (List.mem_of_getElem? (i := 10) rfl)) (hw _ (List.mem_of_getElem? (i := 11) rfl)) (hw _ (List.mem_of_getElem? (i := 12) rfl)) (by decide) (rm3 l Z a0 hw [] b1 (own_gb q1 q2 q3 x3 x4 x5) s0 (s0 + ln) h129 n0 za131 VG (Nat.le_add_right _ _) (by omega)) pd_2 rfl (by rw [hml]; rfl) (W := 0) (Nat.le_of_eq rfl) (by decide) (by decide) (by decide) (by decide) (hb hby at_425)
  obtain ⟨hV, N138q, eh138⟩ := hQ138
  have N138 := Fr.app Nj419 N138q
  have hr : r138 = some (.int z3) := own_join hV hz3 hq1 hq2 hq3 (by omega)
  subst hr
  refine Gq.go (T138.setTop (mkF m 428 #[.val (.int x0), .val (.int x1), .val (.int x2), .val (.int x3), .val (.int x4), .val (.int x5), .val (.ref b1), .val (.int (Int32.ofNat q1)), .val (.int (Int32.ofNat q2)), .val (.int (Int32.ofNat q3)), .val (.int (Int32.ofNat s0)), .val (.int (Int32.ofNat ln)), .val (.int (Int32.ofNat (s0 + ln))), .val (.int z3)] [(.int z3)])) (fun tt_ kk_ => st138 tt_ kk_) ?_
  refine Gq.go (T138.setTop (mkF m 430 #[.val (.int x0), .val (.int x1), .val (.int x2), .val (.int x3), .val (.int x4), .val (.int x5), .val (.ref b1), .val (.int (Int32.ofNat q1)), .val (.int (Int32.ofNat q2)), .val (.int (Int32.ofNat q3)), .val (.int (Int32.ofNat s0)), .val (.int (Int32.ofNat ln)), .val (.int (Int32.ofNat (s0 + ln))), .val (.int z3)] [(.int z3), (.int z3)])) (fun tt_ kk_ => XS.iload X138.here hx rfl (hb hby at_428) rfl kk_) ?_
  refine Gq.go (T138.setTop (mkF m 433 #[.val (.int x0), .val (.int x1), .val (.int x2), .val (.int x3), .val (.int x4), .val (.int x5), .val (.ref b1), .val (.int (Int32.ofNat q1)), .val (.int (Int32.ofNat q2)), .val (.int (Int32.ofNat q3)), .val (.int (Int32.ofNat s0)), .val (.int (Int32.ofNat ln)), .val (.int (Int32.ofNat (s0 + ln))), .val (.int z3)] [])) (fun tt_ kk_ => XS.icmpNo X138.here hx rfl (hb hby at_430) rfl (teq rfl).2 kk_) ?_
  refine Gq.go (T138.setTop (mkF m 434 #[.val (.int x0), .val (.int x1), .val (.int x2), .val (.int x3), .val (.int x4), .val (.int x5), .val (.ref b1), .val (.int (Int32.ofNat q1)), .val (.int (Int32.ofNat q2)), .val (.int (Int32.ofNat q3)), .val (.int (Int32.ofNat s0)), .val (.int (Int32.ofNat ln)), .val (.int (Int32.ofNat (s0 + ln))), .val (.int z3)] [(.int (1 : Int32))])) (fun tt_ kk_ => XS.iconst X138.here hx rfl (hb hby at_433) kk_) ?_
  refine Gq.go (T138.setTop (mkF m 438 #[.val (.int x0), .val (.int x1), .val (.int x2), .val (.int x3), .val (.int x4), .val (.int x5), .val (.ref b1), .val (.int (Int32.ofNat q1)), .val (.int (Int32.ofNat q2)), .val (.int (Int32.ofNat q3)), .val (.int (Int32.ofNat s0)), .val (.int (Int32.ofNat ln)), .val (.int (Int32.ofNat (s0 + ln))), .val (.int z3)] [(.int (1 : Int32))])) (fun tt_ kk_ => XS.goto X138.here hx rfl (pc0 := 434) (pc' := 438) rfl (hb hby at_434) (by decide) (by decide) kk_) ?_
  refine Gq.retI X138 hx Bd.notSynchronized Bd.returns (by simp) (hb hby at_438) rfl (by decide) (by decide) ?_
  show Q0 Z x0 x1 x2 x3 x4 x5 h0 n0 _ T138.heap _
  rw [eh138]
  exact ⟨rfl, N138⟩
set_option maxRecDepth 65536 in
set_option maxHeartbeats 40000000 in
theorem comes_1 {Post : Tables → Env → Array Value → State → Outcome → State → Prop} (hpost : ∀ tb e args s v u, (limb_1_1.after args s (.returned v) u = true ∧ limb_1_2.after args s (.returned v) u = true ∧ True) → FrameEnd s (.returned v) u (Jvm.fieldLocs frame_1_writes args s ++ Jvm.arrayLocs frame_1_arrays args s ++ Jvm.staticLocs frame_1_statics s) 16 192 → Post tb e args s (.returned v) u) :
    ArmFor flags0 classFile x code maxLocals ret World_1 tables_1 room_1 Calls_1 rest_1 Pre_1 Post := by
  intro l hfl _ _ p e ha hc hk s m args below hf hA hF happ hP
  obtain ⟨hcalls, hrest, hpre⟩ := hP
  obtain ⟨-, -, -, hnamed, -, -, -, hat⟩ := (Spec.applies_iff hf).mp happ
  obtain ⟨hg, hn⟩ := and_e (Cond.before_iff.mp (show (Jvm.Cond.and given_1 narrow_1).before args s = true from hpre))
  obtain ⟨g1, g2⟩ := and_e hg
  obtain ⟨g3, g4⟩ := and_e g2
  obtain ⟨g5, g6⟩ := and_e g4
  obtain ⟨g7, g8⟩ := and_e g6
  obtain ⟨g9, g10⟩ := and_e g8
  obtain ⟨g11, g12⟩ := and_e g10
  obtain ⟨w0, w1, w2, w3, w4, w5, rfl⟩ : ∃ w0 w1 w2 w3 w4 w5 : Value, args = #[w0, w1, w2, w3, w4, w5] := by
    have hs : args.size = 6 := by simpa [Cond.value, given_1] using g1
    obtain ⟨L⟩ := args
    match L, hs with
    | [w0, w1, w2, w3, w4, w5], _ => exact ⟨w0, w1, w2, w3, w4, w5, rfl⟩
  have hw := fun d (hd : d ∈ tables_1) => atoms_spec (ws := Jvm.Cond.code x code maxLocals ret :: tables_1) hat d (List.mem_cons_of_mem _ hd)
  obtain ⟨i0, ei0⟩ := is_v g3
  obtain rfl : w0 = (.int i0) := Option.some.inj ei0
  obtain ⟨i1, ei1⟩ := is_v g5
  obtain rfl : w1 = (.int i1) := Option.some.inj ei1
  obtain ⟨i2, ei2⟩ := is_v g7
  obtain rfl : w2 = (.int i2) := Option.some.inj ei2
  obtain ⟨i3, ei3⟩ := is_v g9
  obtain rfl : w3 = (.int i3) := Option.some.inj ei3
  obtain ⟨i4, ei4⟩ := is_v g11
  obtain rfl : w4 = (.int i4) := Option.some.inj ei4
  obtain ⟨i5, ei5⟩ := is_v g12
  obtain rfl : w5 = (.int i5) := Option.some.inj ei5
  obtain ⟨n, o, h1, h2, h3, _, L, rfl, ⟨rfl, N⟩, hq⟩ := rm0 l s _ hw tables_1 i0 i1 i2 i3 i4 i5 s.heap s.heap.size (Nat.le_refl _)  p e ha hc hk s m _ below hf ((Spec.applies_iff_loose hf).mp happ).1 ⟨rfl, State.Warmed39.refl s, rfl⟩ trivial
  refine ⟨n, _, h1, h2, h3, hpost _ _ _ _ _ _ ⟨Cond.after_iff.mpr rfl, Cond.after_iff.mpr (eq_i res_at (Term.int_eval (1)) rfl), trivial⟩ ⟨hq.1, hq.2.1, (hq.2.2.sift fun y hy => Or.inr (N y hy)).mono (by decide) (by decide)⟩⟩
theorem main_1_1 : Claimed_1_1 := comes_1 fun _ _ _ _ _ _ h hF => ⟨h.1, hF⟩
theorem main_1_2 : Claimed_1_2 := comes_1 fun _ _ _ _ _ _ h hF => ⟨h.2.1, hF⟩
end Jvm.Pilot.@@N@@
namespace Jvm.Pilot.@@N@@
open Jvm Jvm.ClassFile Sem Op Lib Jvm.Free Jvm.Stand Jvm.Pilot.@@N@@.Jvm.D
/-! MADE BY PROGRAM (witnessworld.py) out of the Statement's table words and the real class files: 9 classes; the members and pool entries that the words name. The judged class is class 1, her method 3. -/
namespace start1
open Jvm.ClassFile
def u (s : String) : CpInfo := .utf8 (stringToUtf16 s)
/-- a pool by its gaps: so many unusable entries, then the entry; so many at the end -/
def gap : Nat → List CpInfo → List CpInfo
  | 0, r => r
  | n + 1, r => .unusable :: gap n r
def poolList (es : List (Nat × CpInfo)) (last : Nat) : List CpInfo := es.foldr (fun e r => gap e.1 (e.2 :: r)) (gap last [])
def pool (es : List (Nat × CpInfo)) (last : Nat) : Array CpInfo := ⟨poolList es last⟩
def fileOf (pool : Array CpInfo) (this : Nat) (attrs : Array Attribute := #[]) (ms : Array MethodInfo := #[]) (fl : Nat := 33) (sup : Nat := 0) (ifs : Array Nat := #[]) (fds : Array FieldInfo := #[]) : ClassFile where
  minorVersion := 0
  majorVersion := 65
  constantPool := pool
  accessFlags := fl
  thisClass := this
  superClass := sup
  interfaces := ifs
  fields := fds
  methods := ms
  attributes := attrs
def plain (name : String) (sup : Option ClassId) : Class where
  name := name
  kind := .ordinary
  loader := none
  accessFlags := 33
  super := sup
  interfaces := #[]
  cf := none
  fields := #[]
  methods := #[]
  instanceTypes := #[]
  staticTypes := #[]
  resolved := #[]
  callSites := []
  init := .initialized
  statics := none
  mirror := none

def pool0 : Array CpInfo := pool [(5, u "<init>"), (0, u "()V"), (1, .class_ 10), (1, u "java/lang/Object")] 113

def k0m0 : Method := { name := "<init>", desc := "()V", sig := { parameters := [], returnType := none }, accessFlags := 1, code := none }
/-- java/lang/Object -/
def k0 : Class := { plain "java/lang/Object" none with
  accessFlags := 33
  interfaces := #[]
  cf := some (fileOf pool0 8 #[] #[{ accessFlags := 1, nameIndex := 5, descriptorIndex := 6, attributes := #[] }] 33 0 #[] #[])
  fields := #[]
  methods := #[k0m0]
  instanceTypes := #[]
  staticTypes := #[]
  resolved := Array.replicate 124 none
  statics := none }

def pool1 : Array CpInfo := pool [(2, .class_ 4), (1, u "java/lang/Object"), (0, u "<init>"), (0, u "()V"), (0, .integer 2147483647), (0, .methodref 9 10), (0, .class_ 11), (0, .nameAndType 12 13), (0, u "com/example/clearwright/clearwright/model/TradeIdIsValidPinLaw"), (0, u "inside"), (0, u "(III)Z"), (0, .methodref 9 15), (0, .nameAndType 16 17), (0, u "ok"), (0, u "(B)Z"), (0, .methodref 19 20), (0, .class_ 21), (0, .nameAndType 22 23), (0, u "com/example/clearwright/clearwright/model/TradeId"), (0, u "isValid"), (0, u "([BII)Z"), (3, u "law"), (0, u "(IIIIII)Z")] 4

def k1m0 : Method := { name := "<init>", desc := "()V", sig := { parameters := [], returnType := none }, accessFlags := 1, code := none }
def k1c1 : Code := { maxStack := 2, maxLocals := 2, code := method_2_code, exceptionTable := #[], attributes := #[] }
def k1m1 : Method := { name := "ok", desc := "(B)Z", sig := { parameters := [.byte], returnType := some .boolean }, accessFlags := 10, code := some k1c1 }
def k1c2 : Code := { maxStack := 2, maxLocals := 3, code := method_3_code, exceptionTable := #[], attributes := #[] }
def k1m2 : Method := { name := "inside", desc := "(III)Z", sig := { parameters := [.int, .int, .int], returnType := some .boolean }, accessFlags := 10, code := some k1c2 }
def k1c3 : Code := { maxStack := 4, maxLocals := 14, code := code, exceptionTable := #[], attributes := #[] }
def k1m3 : Method := { name := "law", desc := "(IIIIII)Z", sig := { parameters := [.int, .int, .int, .int, .int, .int], returnType := some .boolean }, accessFlags := 9, code := some k1c3 }
/-- com/example/clearwright/clearwright/model/TradeIdIsValidPinLaw -/
def k1 : Class := { plain "com/example/clearwright/clearwright/model/TradeIdIsValidPinLaw" (some 0) with
  accessFlags := 49
  interfaces := #[]
  cf := some (fileOf pool1 9 #[] #[{ accessFlags := 1, nameIndex := 5, descriptorIndex := 6, attributes := #[] }, { accessFlags := 10, nameIndex := 16, descriptorIndex := 17, attributes := #[] }, { accessFlags := 10, nameIndex := 12, descriptorIndex := 13, attributes := #[] }, { accessFlags := 9, nameIndex := 27, descriptorIndex := 28, attributes := #[] }] 49 2 #[] #[])
  fields := #[]
  methods := #[k1m0, k1m1, k1m2, k1m3]
  instanceTypes := #[]
  staticTypes := #[]
  resolved := Array.replicate 33 none
  statics := none }

def pool2 : Array CpInfo := pool [(2, .class_ 4), (1, u "java/lang/Object"), (0, u "<init>"), (0, u "()V"), (13, .class_ 22), (1, u "com/example/clearwright/clearwright/model/TradeId"), (0, u "isValid"), (0, u "([BII)Z"), (0, u "MAX_LENGTH"), (0, u "I")] 8

def k2m0 : Method := { name := "<init>", desc := "()V", sig := { parameters := [], returnType := none }, accessFlags := 2, code := none }
def k2c1 : Code := { maxStack := 2, maxLocals := 5, code := prog_77_method_3_code, exceptionTable := #[], attributes := #[] }
def k2m1 : Method := { name := "isValid", desc := "([BII)Z", sig := { parameters := [(.array .byte), .int, .int], returnType := some .boolean }, accessFlags := 9, code := some k2c1 }
/-- com/example/clearwright/clearwright/model/TradeId -/
def k2 : Class := { plain "com/example/clearwright/clearwright/model/TradeId" (some 0) with
  accessFlags := 49
  interfaces := #[]
  cf := some (fileOf pool2 20 #[] #[{ accessFlags := 2, nameIndex := 5, descriptorIndex := 6, attributes := #[] }, { accessFlags := 9, nameIndex := 23, descriptorIndex := 24, attributes := #[] }] 49 2 #[] #[{ accessFlags := 25, nameIndex := 25, descriptorIndex := 26, attributes := #[] }])
  fields := #[{ name := "MAX_LENGTH", type := .int, accessFlags := 25, slot := 0, constantValue := 0 }]
  methods := #[k2m0, k2m1]
  instanceTypes := #[]
  staticTypes := #[.int]
  resolved := Array.replicate 35 none
  statics := none }

def pool3 : Array CpInfo := pool [(1, u "java/lang/Cloneable"), (0, .class_ 1), (0, u "java/lang/Object"), (0, .class_ 3)] 3

/-- java/lang/Cloneable -/
def k3 : Class := { plain "java/lang/Cloneable" (some 0) with
  accessFlags := 1537
  interfaces := #[]
  cf := some (fileOf pool3 2 #[] #[] 1537 4 #[] #[])
  fields := #[]
  methods := #[]
  instanceTypes := #[]
  staticTypes := #[]
  resolved := Array.replicate 8 none
  statics := none }

def pool4 : Array CpInfo := pool [(1, u "java/io/Serializable"), (0, .class_ 1), (0, u "java/lang/Object"), (0, .class_ 3)] 3

/-- java/io/Serializable -/
def k4 : Class := { plain "java/io/Serializable" (some 0) with
  accessFlags := 1537
  interfaces := #[]
  cf := some (fileOf pool4 2 #[] #[] 1537 4 #[] #[])
  fields := #[]
  methods := #[]
  instanceTypes := #[]
  staticTypes := #[]
  resolved := Array.replicate 8 none
  statics := none }

/-- the primitive byte -/
def k5 : Class := { plain "byte" none with kind := .primitive 'B', accessFlags := 0x411 }
/-- [B -/
def k6 : Class := { plain "[B" (some 0) with kind := .array 5 .byte, interfaces := #[3, 4], accessFlags := 1041 }

/-- the primitive int -/
def k7 : Class := { plain "int" none with kind := .primitive 'I', accessFlags := 0x411 }
/-- [I -/
def k8 : Class := { plain "[I" (some 0) with kind := .array 7 .int, interfaces := #[3, 4], accessFlags := 1041 }

def heap : Heap := #[]
def classes : Array Class := #[k0, k1, k2, k3, k4, k5, k6, k7, k8]
def interned : List (Array UInt16 × Addr) := []
def slotsUsed : Nat := 0
def theMethod : MethodId := ⟨1, 3⟩
def args0 : Array Value := #[.int 1, .int 2, .int 3, .int 4, .int 5, .int 6]
def aboutOver (below : List Frame) : State where
  vm := { classes := classes, interned := interned.toArray }
  heap := heap
  slotsUsed := slotsUsed
  threads := #[{ frames := .invoking theMethod args0 :: below }]
def below0 : List Frame := [.native { method := ⟨0, 0⟩, args := #[] }]
def about1 : State := aboutOver below0
def p0 : Program := .bare "" "" ""
def e0 : Env := launch0.env 0 0 0
theorem w_frames : about1.frames = Frame.invoking theMethod args0 :: below0 := rfl
set_option maxRecDepth 65536 in
theorem w_args : argsFit about1.vm theMethod args0 = true := by decide +kernel
set_option maxRecDepth 65536 in
theorem w_heap : heapFits about1 = true := by decide +kernel
set_option maxRecDepth 65536 in
theorem w_runnable : about1.curStatus? = some .runnable := by decide +kernel
set_option maxRecDepth 65536 in
theorem w_alone : about1.alone = true := by decide +kernel
set_option maxRecDepth 65536 in
theorem w_named : about1.methodNamed? x = some theMethod := by decide +kernel
set_option maxRecDepth 65536 in
theorem w_hears : about1.hears theMethod below0 = true := by decide +kernel
set_option maxRecDepth 65536 in
theorem w_ripe : about1.ripe theMethod args0 below0 = true := by decide +kernel
theorem w_running : about1.status = .running := rfl
set_option maxRecDepth 65536 in
theorem w_room : about1.hasRoom e0.platform room_1 = true :=
  launch0.hasRoom_least _ room_1 (by decide +kernel) (by decide +kernel) (by decide +kernel) (by decide +kernel) (by decide +kernel) (by decide +kernel)
theorem allAtoms_all (ts : List Jvm.Cond) (a : Array Jvm.Value) (st : Jvm.State) : (allAtoms ts).before a st = ts.all (fun c => c.before a st) := by
  induction ts with
  | nil => rfl
  | cons c t ih =>
    show (Jvm.Cond.and c (allAtoms t)).before a st = _
    rw [Jvm.Cond.before_and, ih, List.all_cons]
def words1 : List Jvm.Cond := Jvm.Cond.code x code maxLocals ret :: tables_1
/-- a 'code' word, met by the world's own term for the bytes: nothing is compared byte by byte -/
theorem code_word {y : MethodName} {bytes : ByteArray} {mx : Nat} {rt : Option FieldType} {a : Array Value} {s : State} {m : MethodId} {meth : Method} {c : Code} (h1 : s.methodNamed? y = some m) (h2 : s.vm.method? m = some meth) (h3 : meth.code = some c) (h4 : c.code = bytes)
    (h5 : (c.maxLocals == mx && c.exceptionTable.isEmpty && decide (c.maxStack ≤ mostOperands) && decide (meth.sig.returnType = rt) && !meth.locks && decide (parseMethodDescriptor y.desc = some meth.sig)) = true) : (Jvm.Cond.code y bytes mx rt).before a s = true := by
  simp only [Bool.and_eq_true, beq_iff_eq, Bool.not_eq_true', decide_eq_true_eq] at h5
  obtain ⟨⟨⟨⟨⟨g1, g2⟩, g3⟩, g4⟩, g5⟩, g6⟩ := h5
  simp [Cond.before, Cond.holds, Cond.value, h1, h2, h3, h4, g1, g2, g3, g4, g5, g6]
def isCode : Jvm.Cond → Bool
  | .code _ _ _ _ => true
  | _ => false
theorem all_split {L : List Jvm.Cond} {P : Jvm.Cond → Bool} (h1 : L.all (fun c => isCode c || P c) = true) (h2 : ∀ c ∈ L.filter isCode, P c = true) : L.all P = true := by
  refine List.all_eq_true.mpr fun c hc => ?_
  have h := List.all_eq_true.mp h1 c hc
  rcases Bool.eq_false_or_eq_true (isCode c) with hi | hi
  · exact h2 c (List.mem_filter.mpr ⟨hc, hi⟩)
  · simpa [hi] using h
set_option maxRecDepth 65536 in
theorem w_c0 : (Jvm.Cond.code x code maxLocals ret).before args0 about1 = true := code_word (m := ⟨1, 3⟩) (meth := k1m3) (c := k1c3) (by decide +kernel) rfl rfl rfl (by decide +kernel)
set_option maxRecDepth 65536 in
theorem w_c1 : (Jvm.Cond.code ({ cls := "com/example/clearwright/clearwright/model/TradeIdIsValidPinLaw", name := "inside", desc := "(III)Z" } : Jvm.MethodName) method_3_code (3 : Nat) (Option.some Jvm.ClassFile.FieldType.boolean)).before args0 about1 = true := code_word (m := ⟨1, 2⟩) (meth := k1m2) (c := k1c2) (by decide +kernel) rfl rfl rfl (by decide +kernel)
set_option maxRecDepth 65536 in
theorem w_c2 : (Jvm.Cond.code ({ cls := "com/example/clearwright/clearwright/model/TradeIdIsValidPinLaw", name := "ok", desc := "(B)Z" } : Jvm.MethodName) method_2_code (2 : Nat) (Option.some Jvm.ClassFile.FieldType.boolean)).before args0 about1 = true := code_word (m := ⟨1, 1⟩) (meth := k1m1) (c := k1c1) (by decide +kernel) rfl rfl rfl (by decide +kernel)
set_option maxRecDepth 65536 in
theorem w_c3 : (Jvm.Cond.code ({ cls := "com/example/clearwright/clearwright/model/TradeId", name := "isValid", desc := "([BII)Z" } : Jvm.MethodName) prog_77_method_3_code (5 : Nat) (Option.some Jvm.ClassFile.FieldType.boolean)).before args0 about1 = true := code_word (m := ⟨2, 1⟩) (meth := k2m1) (c := k2c1) (by decide +kernel) rfl rfl rfl (by decide +kernel)
def codes1 : List Jvm.Cond := [Jvm.Cond.code x code maxLocals ret, Jvm.Cond.code ({ cls := "com/example/clearwright/clearwright/model/TradeIdIsValidPinLaw", name := "inside", desc := "(III)Z" } : Jvm.MethodName) method_3_code (3 : Nat) (Option.some Jvm.ClassFile.FieldType.boolean), Jvm.Cond.code ({ cls := "com/example/clearwright/clearwright/model/TradeIdIsValidPinLaw", name := "ok", desc := "(B)Z" } : Jvm.MethodName) method_2_code (2 : Nat) (Option.some Jvm.ClassFile.FieldType.boolean), Jvm.Cond.code ({ cls := "com/example/clearwright/clearwright/model/TradeId", name := "isValid", desc := "([BII)Z" } : Jvm.MethodName) prog_77_method_3_code (5 : Nat) (Option.some Jvm.ClassFile.FieldType.boolean)]
set_option maxRecDepth 65536 in
theorem codes_eq : words1.filter isCode = codes1 := rfl
theorem w_codes : ∀ c ∈ words1.filter isCode, c.before args0 about1 = true := by
  rw [codes_eq]
  intro c hc
  simp only [codes1, List.mem_cons, List.not_mem_nil, or_false] at hc
  rcases hc with rfl | rfl | rfl | rfl
  · exact w_c0
  · exact w_c1
  · exact w_c2
  · exact w_c3
set_option maxRecDepth 65536 in
theorem w_t1 : words1.all (fun c => isCode c || c.before args0 about1) = true := by decide +kernel
theorem w_tables : (allAtoms (Jvm.Cond.code x code maxLocals ret :: tables_1)).before args0 about1 = true := by
  rw [allAtoms_all]
  show words1.all (fun c => c.before args0 about1) = true
  refine all_split ?_ w_codes
  rw [w_t1]
set_option maxRecDepth 65536 in
theorem w_case : (Jvm.Cond.and given_1 narrow_1).before args0 about1 = true := by decide +kernel
theorem w_applies : (headSpec (Jvm.Cond.code x code maxLocals ret :: tables_1) room_1).applies x e0.platform about1 = true :=
  (Spec.applies_iff w_frames).mpr ⟨w_running, w_runnable, w_alone, w_named, w_hears, w_ripe, w_room, w_tables⟩
theorem atStart : AtStart classFile x code maxLocals ret World_1 tables_1 room_1 Calls_1 rest_1 Pre_1 launch0 p0 e0 about1 theMethod args0 below0 :=
  ⟨lists_1, trivial, launch0.admits_env _ _ _, launch0.least_env, fairChoices_fair.cas, fairChoices_fair.clock, w_frames, w_args, w_heap, w_applies, trivial, trivial, w_case⟩
end start1
theorem witness_1 : WitnessClaimed_1 := ⟨start1.p0, start1.e0, start1.about1, start1.theMethod, start1.args0, start1.below0, start1.atStart⟩
end Jvm.Pilot.@@N@@
