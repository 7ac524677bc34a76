import JvmDerived
import JvmDerived.Pilot.@@N@@Statement
import JvmDerived.Pilot.@@N@@Code
set_option linter.unusedVariables false
set_option linter.unusedSimpArgs false
namespace Jvm.Pilot.@@N@@
open Jvm Jvm.ClassFile Sem Op Lib Jvm.Free Jvm.Stand Jvm.LawKit Jvm.RoadKit Bundle Jvm.Pilot.@@N@@.Jvm.D
-- own kit: the walk's goal, the ends of a walk, arrays as functions of the place, calls by contract
section OwnKit
variable {p : Program} {l : Launch} {e : Env} {R : Room} {s : State} {m : MethodId} {args : Array Value} {below : List Frame} {meth : Method} {c : Code} {T : State} {locs : List Loc} {cells slots : Nat} {Z : State} {a0 : Array Value} {h h' : Heap} {kc ks : Nat} {Q : Option Value → Heap → List Loc → Prop} {tb : Tables} {B : State}
def Gq (tb : Tables) (e : Env) (below : List Frame) (s : State) (Q : Option Value → Heap → List Loc → Prop) (kc ks : Nat) (A : State) : Prop :=
  ∃ t o, Steps tb e below A t ∧ t.status = .running ∧ Ended t below o ∧ ∃ v L, o = .returned v ∧ Q v t.heap L ∧ FrameEnd s o t L kc ks
theorem Gq.go (A : State) (k : ∀ t, Steps tb e below A t → Steps tb e below B t) (g : Gq tb e below s Q kc ks A) : Gq tb e below s Q kc ks B := by
  obtain ⟨t, o, h1, h2⟩ := g
  exact ⟨t, o, k t h1, h2⟩
theorem Gq.start {T : State} {g g' : JFrame} (q : g = g') (k : Gq tb e below s Q kc ks (T.setTop g')) : Gq tb e below s Q kc ks (T.setTop g) := q ▸ k
theorem Gq.fin {A : State} (X : Stand p l e R s m args below meth c T locs cells slots) (hlocks : meth.locks = false) {v : Option Value} (hv : meth.sig.returnType = none → v = none)
    (st : ∀ fs, (∀ (f : JFrame) (acts : List Action), f.method = m → f.locked = none → f.entered = [] → (doReturn e (T.setTop f) acts v).1 = T.setFrames fs) → Steps p.tables e below A (T.setFrames fs))
    (h1 : cells ≤ kc) (h2 : slots ≤ ks) (q : Q v T.heap locs) : Gq p.tables e below s Q kc ks A := by
  obtain ⟨fs, hr, hrun, hended, hW, hsame⟩ := X.leave (v := v) hv hlocks
  exact ⟨_, _, st fs hr, hrun, hended, _, _, rfl, q, ⟨_, rfl⟩, hW, hsame.mono h1 h2⟩
theorem Gq.retI (X : Stand p l e R s m args below meth c T locs cells slots) (hx : p.tables.exec = Jvm.exec) (hlocks : meth.locks = false) {pc : Nat} {Ls : Array Slot} {w : Int32} {rest : List Value} {t : FieldType} (hret : meth.sig.returnType = some t)
    (ht : t = .int ∨ t = .boolean ∨ t = .byte ∨ t = .char ∨ t = .short) (hd : decode c.code pc = .ok (.ireturn, 1)) (hn : narrow t (.int w) = .int w) (h1 : cells ≤ kc) (h2 : slots ≤ ks) (q : Q (some (.int w)) T.heap locs) :
    Gq p.tables e below s Q kc ks (T.setTop (mkF m pc Ls (.int w :: rest))) :=
  Gq.fin X hlocks (fun h => by rw [hret] at h; cases h) (fun fs hr => retOut X hx hret hn (Or.inl ⟨rfl, ht, _, rfl⟩) hd hr) h1 h2 q
theorem Gq.retL (X : Stand p l e R s m args below meth c T locs cells slots) (hx : p.tables.exec = Jvm.exec) (hlocks : meth.locks = false) {pc : Nat} {Ls : Array Slot} {w : Int64} {rest : List Value} (hret : meth.sig.returnType = some .long)
    (hd : decode c.code pc = .ok (.lreturn, 1)) (h1 : cells ≤ kc) (h2 : slots ≤ ks) (q : Q (some (.long w)) T.heap locs) :
    Gq p.tables e below s Q kc ks (T.setTop (mkF m pc Ls (.long w :: rest))) :=
  Gq.fin X hlocks (fun h => by rw [hret] at h; cases h) (fun fs hr => retOut X hx hret rfl (Or.inr (Or.inl ⟨rfl, rfl, _, rfl⟩)) hd hr) h1 h2 q
theorem Gq.retA (X : Stand p l e R s m args below meth c T locs cells slots) (hx : p.tables.exec = Jvm.exec) (hlocks : meth.locks = false) {pc : Nat} {Ls : Array Slot} {w : Value} {rest : List Value} {t : FieldType} (hret : meth.sig.returnType = some t) (hn : narrow t w = w)
    (ht : t.isReference = true) (hw : w.isRef = true) (hd : decode c.code pc = .ok (.areturn, 1)) (h1 : cells ≤ kc) (h2 : slots ≤ ks) (q : Q (some w) T.heap locs) :
    Gq p.tables e below s Q kc ks (T.setTop (mkF m pc Ls (w :: rest))) :=
  Gq.fin X hlocks (fun h => by rw [hret] at h; cases h) (fun fs hr => retOut X hx hret hn (Or.inr (Or.inr (Or.inr (Or.inr ⟨rfl, ht, hw⟩)))) hd hr) h1 h2 q
theorem Gq.retV (X : Stand p l e R s m args below meth c T locs cells slots) (hx : p.tables.exec = Jvm.exec) (hlocks : meth.locks = false) {pc : Nat} {Ls : Array Slot} (hret : meth.sig.returnType = none)
    (hd : decode c.code pc = .ok (.return_, 1)) (h1 : cells ≤ kc) (h2 : slots ≤ ks) (q : Q none T.heap locs) : Gq p.tables e below s Q kc ks (T.setTop (mkF m pc Ls [])) :=
  Gq.fin X hlocks (fun _ => rfl) (fun fs hr => X.returnOut hx hret hd hr) h1 h2 q
/-- an array: n places, place j holds f j -/
def LA (Z : State) (h : Heap) (a : Addr) (ty : FieldType) (n : Nat) (f : Nat → Value) : Prop := ∃ c : Cell, Arr Z h a c ty ∧ c.slots.size = n ∧ n < 2 ^ 31 ∧ ∀ j, j < n → c.slots[j]? = some (f j)
def upd (f : Nat → Value) (j : Nat) (v : Value) : Nat → Value := fun i => if i = j then v else f i
def gl (vs : List Value) (d : Value) : Nat → Value := fun i => vs.getD i d
section Facts
variable {a b : Addr} {ty : FieldType} {n j : Nat} {f g : Nat → Value} {v d : Value} {sl : Nat} {ws : List Addr} {vs : List Value}
theorem LA.lt (F : LA Z h a ty n f) : a < h.size := by obtain ⟨c, A, -⟩ := F; exact A.lt
theorem LA.ext (F : LA Z h a ty n f) (E : Ext h h') : LA Z h' a ty n f := by obtain ⟨c, A, r⟩ := F; exact ⟨c, A.ext E, r⟩
theorem LA.other (F : LA Z h b ty n f) (W : Wr h h' a sl v) (q : b ≠ a) : LA Z h' b ty n f := by obtain ⟨c, A, r⟩ := F; exact ⟨c, A.other W q, r⟩
theorem LA.keep (F : LA Z h a ty n f) (K : Keep h h' ws) (q : a ∉ ws) : LA Z h' a ty n f := by obtain ⟨c, A, r⟩ := F; exact ⟨c, ⟨K.2.1 a c A.1 q, A.2⟩, r⟩
theorem LA.congr (F : LA Z h a ty n f) (q : ∀ j, j < n → f j = g j) : LA Z h a ty n g := by obtain ⟨c, A, r1, r2, r3⟩ := F; exact ⟨c, A, r1, r2, fun j hj => by rw [r3 j hj, q j hj]⟩
theorem LA.new {k : ClassId} {z : Int32} (A : Arr Z h a (newA k ty z) ty) (q : ¬ z < 0) (hn : z.toNatClampNeg = n) : LA Z h a ty n (fun _ => defaultValue ty) := by
  subst hn
  exact ⟨_, A, sz_new _ _ _, (back32 q).2, fun j hj => by simp [newA, hj]⟩
theorem LA.set (F : LA Z h a ty n f) (W : Wr h h' a j v) : LA Z h' a ty n (upd f j v) := by
  obtain ⟨c, A, r1, r2, r3⟩ := F
  refine ⟨_, A.same W, by rw [sz_set]; exact r1, r2, fun i hi => ?_⟩
  have e1 : i < c.slots.size := by omega
  have r := r3 i hi
  simp only [upd, Cell.setSlot]
  by_cases q : i = j
  · subst q; simp [e1]
  · rw [Array.getElem?_setIfInBounds_ne (Ne.symm q), if_neg q]; exact r
theorem LA.setL (F : LA Z h a ty n (gl vs d)) (W : Wr h h' a j v) (hj : j < vs.length) : LA Z h' a ty n (gl (vs.set j v) d) := by
  refine (F.set W).congr fun i hi => ?_
  simp only [upd, gl, List.getD_eq_getElem?_getD, List.getElem?_set]
  by_cases q : i = j
  · subst q; simp [hj]
  · rw [if_neg q, if_neg (Ne.symm q)]
theorem LA.list (F : LA Z h a ty n (fun _ => d)) : LA Z h a ty n (gl (List.replicate n d) d) := F.congr fun j hj => by
  simp [gl, List.getD_eq_getElem?_getD, List.getElem?_replicate, hj]
end Facts
section Steps
variable {a : Addr} {n i : Nat} {f : Nat → Value} {pc : Nat} {Ls : Array Slot} {rest : List Value} {j : Int32}
theorem inb {cl : Cell} (S : cl.slots.size = n) (hi : j.toNatClampNeg = i) (hj : ¬ j < 0) (hn : i < n) : ¬ (j < 0 ∨ cl.slots.size ≤ j.toNatClampNeg) := by
  intro q; rcases q with q | q
  · exact hj q
  · omega
theorem ldJ (X : Stand p l e R s m args below meth c T locs cells slots) (hx : p.tables.exec = Jvm.exec) (hZ : Z.Warmed39 s.vm) (eT : T.heap = h) (V : LA Z h a .long n f) {x : Int64} (hj : ¬ j < 0) (hi : j.toNatClampNeg = i) (hn : i < n) (hv : f i = .long x) (hd : decode c.code pc = .ok (.laload, 1)) :
    ∀ t, Steps p.tables e below (T.setTop (mkF m (pc + 1) Ls (.long x :: rest))) t → Steps p.tables e below (T.setTop (mkF m pc Ls (.int j :: .ref a :: rest))) t := fun t k => by
  obtain ⟨cl, A, S, -, H⟩ := V
  exact X.laload hx (by rw [eT]; exact A.1) (State.isArrayOf_alike hZ.alike A.2.1) A.2.2 (inb S hi hj hn) (by rw [hi, H i hn, hv]) (g := mkF m pc Ls (.int j :: .ref a :: rest)) rfl rfl hd _ k
theorem ldI (X : Stand p l e R s m args below meth c T locs cells slots) (hx : p.tables.exec = Jvm.exec) (hZ : Z.Warmed39 s.vm) (eT : T.heap = h) (V : LA Z h a .int n f) {x : Int32} (hj : ¬ j < 0) (hi : j.toNatClampNeg = i) (hn : i < n) (hv : f i = .int x) (hd : decode c.code pc = .ok (.iaload, 1)) :
    ∀ t, Steps p.tables e below (T.setTop (mkF m (pc + 1) Ls (.int x :: rest))) t → Steps p.tables e below (T.setTop (mkF m pc Ls (.int j :: .ref a :: rest))) t := fun t k => by
  obtain ⟨cl, A, S, -, H⟩ := V
  exact X.iaload hx (by rw [eT]; exact A.1) (State.isArrayOf_alike hZ.alike A.2.1) A.2.2 (inb S hi hj hn) (by rw [hi, H i hn, hv]) (g := mkF m pc Ls (.int j :: .ref a :: rest)) rfl rfl hd _ k
theorem ldB (X : Stand p l e R s m args below meth c T locs cells slots) (hx : p.tables.exec = Jvm.exec) (hZ : Z.Warmed39 s.vm) (eT : T.heap = h) (V : LA Z h a .byte n f) {x : Int32} (hj : ¬ j < 0) (hi : j.toNatClampNeg = i) (hn : i < n) (hv : f i = .int x) (hd : decode c.code pc = .ok (.baload, 1)) :
    ∀ t, Steps p.tables e below (T.setTop (mkF m (pc + 1) Ls (.int x :: rest))) t → Steps p.tables e below (T.setTop (mkF m pc Ls (.int j :: .ref a :: rest))) t := fun t k => by
  obtain ⟨cl, A, S, -, H⟩ := V
  exact X.baloadBytes hx (by rw [eT]; exact A.1) (State.isArrayOf_alike hZ.alike A.2.1) A.2.2 (inb S hi hj hn) (by rw [hi, H i hn, hv]) (g := mkF m pc Ls (.int j :: .ref a :: rest)) rfl rfl hd _ k
theorem lenA (X : Stand p l e R s m args below meth c T locs cells slots) (hx : p.tables.exec = Jvm.exec) (hZ : Z.Warmed39 s.vm) (eT : T.heap = h) {ty : FieldType} (V : LA Z h a ty n f) (hd : decode c.code pc = .ok (.arraylength, 1)) :
    ∀ t, Steps p.tables e below (T.setTop (mkF m (pc + 1) Ls (.int (Int32.ofNat n) :: rest))) t → Steps p.tables e below (T.setTop (mkF m pc Ls (.ref a :: rest))) t := fun t k => by
  obtain ⟨cl, A, S, -, H⟩ := V
  refine X.arraylength hx (by rw [eT]; exact A.1) (State.isArrayOf_alike hZ.alike A.2.1) (g := mkF m pc Ls (.ref a :: rest)) rfl rfl hd _ ?_
  rw [S]; exact k
theorem stoJ (X : Stand p l e R s m args below meth c T locs cells slots) (hx : p.tables.exec = Jvm.exec) (hZ : Z.Warmed39 s.vm) (eT : T.heap = h) (V : LA Z h a .long n f) {x : Int64} (hj : ¬ j < 0) (hi : j.toNatClampNeg = i) (hn : i < n) (hd : decode c.code pc = .ok (.lastore, 1)) :
    ∃ T' h', Stand p l e R s m args below meth c T' (locs ++ [⟨a, i⟩]) cells slots ∧ T'.heap = h' ∧ Wr h h' a i (.long x) ∧ ∀ t, Steps p.tables e below (T'.setTop (mkF m (pc + 1) Ls rest)) t → Steps p.tables e below (T.setTop (mkF m pc Ls (.long x :: .int j :: .ref a :: rest))) t := by
  obtain ⟨cl, A, S, -, H⟩ := V
  obtain ⟨T', h', X', e', W, st⟩ := stJ X hx hZ eT A (j := j) (x := x) (inb S hi hj hn) (g := mkF m pc Ls (.long x :: .int j :: .ref a :: rest)) rfl rfl hd
  subst hi
  exact ⟨T', h', X', e', W, st⟩
theorem stoI (X : Stand p l e R s m args below meth c T locs cells slots) (hx : p.tables.exec = Jvm.exec) (hZ : Z.Warmed39 s.vm) (eT : T.heap = h) (V : LA Z h a .int n f) {x : Int32} (hj : ¬ j < 0) (hi : j.toNatClampNeg = i) (hn : i < n) (hd : decode c.code pc = .ok (.iastore, 1)) :
    ∃ T' h', Stand p l e R s m args below meth c T' (locs ++ [⟨a, i⟩]) cells slots ∧ T'.heap = h' ∧ Wr h h' a i (.int x) ∧ ∀ t, Steps p.tables e below (T'.setTop (mkF m (pc + 1) Ls rest)) t → Steps p.tables e below (T.setTop (mkF m pc Ls (.int x :: .int j :: .ref a :: rest))) t := by
  obtain ⟨cl, A, S, -, H⟩ := V
  obtain ⟨T', h', X', e', W, st⟩ := stI X hx hZ eT A (j := j) (x := x) (inb S hi hj hn) (g := mkF m pc Ls (.int x :: .int j :: .ref a :: rest)) rfl rfl hd
  subst hi
  exact ⟨T', h', X', e', W, st⟩
theorem stoB (X : Stand p l e R s m args below meth c T locs cells slots) (hx : p.tables.exec = Jvm.exec) (hZ : Z.Warmed39 s.vm) (eT : T.heap = h) (V : LA Z h a .byte n f) {x : Int32} (hj : ¬ j < 0) (hi : j.toNatClampNeg = i) (hn : i < n) (hd : decode c.code pc = .ok (.bastore, 1)) :
    ∃ T' h', Stand p l e R s m args below meth c T' (locs ++ [⟨a, i⟩]) cells slots ∧ T'.heap = h' ∧ Wr h h' a i (.int x.toInt8.toInt32) ∧ ∀ t, Steps p.tables e below (T'.setTop (mkF m (pc + 1) Ls rest)) t → Steps p.tables e below (T.setTop (mkF m pc Ls (.int x :: .int j :: .ref a :: rest))) t := by
  obtain ⟨cl, A, S, -, H⟩ := V
  obtain ⟨T', h', X', e', W, st⟩ := stB X hx hZ eT A (j := j) (x := x) (inb S hi hj hn) (g := mkF m pc Ls (.int x :: .int j :: .ref a :: rest)) rfl rfl hd
  subst hi
  exact ⟨T', h', X', e', W, st⟩
theorem mkA (X : Stand p l e R s m args below meth c T locs cells slots) (hx : p.tables.exec = Jvm.exec) (hZ : Z.Warmed39 s.vm) {aty : ArrayType} (w : (Cond.arrayClass (newarray.typeOf aty)).before a0 Z = true) (eT : T.heap = h) {z : Int32} (hz : ¬ z < 0) (hn : z.toNatClampNeg = n)
    (hb : n * 8 ≤ 536870912) (hc : cells + 1 ≤ R.cells) (hl : slots + n ≤ R.slots) (hd : decode c.code pc = .ok (.newarray aty, 2)) :
    ∃ T' h' b, Stand p l e R s m args below meth c T' locs (cells + 1) (slots + n) ∧ T'.heap = h' ∧ Ext h h' ∧ b = h.size ∧ LA Z h' b (newarray.typeOf aty) n (fun _ => defaultValue (newarray.typeOf aty)) ∧
      ∀ t, Steps p.tables e below (T'.setTop (mkF m (pc + 2) Ls (.ref b :: rest))) t → Steps p.tables e below (T.setTop (mkF m pc Ls (.int z :: rest))) t := by
  obtain ⟨T', h', k, X', e', E, A, st⟩ := newP X hx hZ w eT (g := mkF m pc Ls (.int z :: rest)) rfl hd rfl hz (cap := n) (Nat.le_of_eq hn) hb hc hl
  exact ⟨T', h', _, X', e', E, rfl, LA.new A hz hn, st⟩
end Steps
section Calls
variable {own : String} {index : Nat} {y : MethodName} {bytes : ByteArray} {maxL : Nat} {ret : Option FieldType} {rm : Room} {W pc : Nat} {Ls : Array Slot} {Qc : Option Value → Heap → List Loc → Prop} {ps : List FieldType} {r : Option FieldType}
theorem callT (X : Stand p l e R s m args below meth c T locs cells slots) (hx : p.tables.exec = Jvm.exec) (hZ : Z.Warmed39 s.vm) (hown : s.vm.findClass own = some m.cls) (eT : T.heap = h) (argsL rest : List Value)
    (w1 : (Cond.methodLink own index y).before a0 Z = true) (w2 : (Cond.static y).before a0 Z = true) (w3 : (Cond.initialized y.cls).before a0 Z = true) (w4 : (Cond.code y bytes maxL ret).before a0 Z = true)
    (hy : y.cls ≠ "java/lang/invoke/MethodHandle" ∧ y.cls ≠ "java/lang/invoke/VarHandle")
    (hM : MetFree l y (head1 [Cond.code y bytes maxL ret] rm) (fun a U => a = argsL.toArray ∧ Z.Warmed39 U.vm ∧ U.heap = h) (fun _ _ _ _ _ => True) (fun _ U o U' => ∃ v L, o = .returned v ∧ Qc v U'.heap L ∧ FrameEnd U o U' L rm.cells rm.slots))
    (hpd : parseMethodDescriptor y.desc = some ⟨ps, r⟩) (hll : argsL.length = ps.length) (hsize : Ls.size = c.maxLocals) (hW : 2 * 0 + (rest.map fun v => v.category).sum ≤ W)
    (hf : rm.frames + 1 ≤ R.frames) (hl : W + (maxL + 11) + rm.locals ≤ R.locals) (hc : cells + rm.cells ≤ R.cells) (hs : slots + rm.slots ≤ R.slots) (hd : decode c.code pc = .ok (.invokestatic index, 3)) :
    ∃ v T' L, Stand p l e R s m args below meth c T' (locs ++ L) (cells + rm.cells) (slots + rm.slots) ∧ Qc v T'.heap L ∧
      ∀ t, Steps p.tables e below (T'.setTop (mkF m (pc + 3) Ls (v.toList ++ rest))) t → Steps p.tables e below (T.setTop (mkF m pc Ls (argsL.reverse ++ rest))) t := by
  obtain ⟨v, vm1, ⟨T', L', k', n'⟩, -, X', ⟨L, hQ, e1, e2, e3⟩, st⟩ := Jvm.LawKit.callS X hx (y := y) hown (mvT hZ w1) (mvT hZ w2) (mvT hZ w3) (mvT hZ w4) hy (backOf (W := W) hM hZ w4 w3 hf hl) (g := mkF m pc Ls (argsL.reverse ++ rest)) rfl hsize (argsL := argsL) (rest := rest) (lenOf hpd hll) rfl hW hd (fun _ _ => ⟨rfl, eT, hc, hs⟩)
  dsimp only [Pt.U, Pt.locs, Pt.cells, Pt.slots] at X' e1 e2 e3 st hQ
  subst e1 e2 e3
  exact ⟨v, T', L, X', hQ, st⟩
theorem callI (X : Stand p l e R s m args below meth c T locs cells slots) (hx : p.tables.exec = Jvm.exec) (hZ : Z.Warmed39 s.vm) (hown : s.vm.findClass own = some m.cls) (eT : T.heap = h) (a : Addr) (argsL rest : List Value)
    (w1 : (Cond.methodLink own index y).before a0 Z = true) (w2 : (Cond.instanceMethod y).before a0 Z = true) (w3 : (Cond.initialized y.cls).before a0 Z = true) (w4 : (Cond.code y bytes maxL none).before a0 Z = true) (hy1 : y.name = "<init>")
    (hy : y.cls ≠ "java/lang/invoke/MethodHandle" ∧ y.cls ≠ "java/lang/invoke/VarHandle")
    (hM : MetFree l y (head1 [Cond.code y bytes maxL none] rm) (fun a' U => a' = (.ref a :: argsL).toArray ∧ Z.Warmed39 U.vm ∧ U.heap = h) (fun _ _ _ _ _ => True) (fun _ U o U' => ∃ v L, o = .returned v ∧ Qc v U'.heap L ∧ FrameEnd U o U' L rm.cells rm.slots))
    (hpd : parseMethodDescriptor y.desc = some ⟨ps, r⟩) (hll : argsL.length = ps.length) (hsize : Ls.size = c.maxLocals) (hW : 2 * 0 + (rest.map fun v => v.category).sum ≤ W)
    (hf : rm.frames + 1 ≤ R.frames) (hl : W + (maxL + 11) + rm.locals ≤ R.locals) (hc : cells + rm.cells ≤ R.cells) (hs : slots + rm.slots ≤ R.slots) (hd : decode c.code pc = .ok (.invokespecial index, 3)) :
    ∃ v T' L, Stand p l e R s m args below meth c T' (locs ++ L) (cells + rm.cells) (slots + rm.slots) ∧ Qc v T'.heap L ∧
      ∀ t, Steps p.tables e below (T'.setTop (mkF m (pc + 3) Ls (v.toList ++ rest))) t → Steps p.tables e below (T.setTop (mkF m pc Ls (argsL.reverse ++ .ref a :: rest))) t := by
  obtain ⟨v, vm1, ⟨T', L', k', n'⟩, -, X', ⟨L, hQ, e1, e2, e3⟩, st⟩ := X.specialBack hx (y := y) hy1 hown (mvT hZ w1) (mvT hZ w2) (mvT hZ w4) hy (backOf (W := W) hM hZ w4 w3 hf hl) (g := mkF m pc Ls (argsL.reverse ++ .ref a :: rest)) rfl hsize (Steps.refl _) (a := a) (argsL := argsL) (rest := rest) (lenOf hpd hll) rfl hW hd (fun _ _ => ⟨rfl, eT, hc, hs⟩)
  dsimp only [Pt.U, Pt.locs, Pt.cells, Pt.slots] at X' e1 e2 e3 st hQ
  subst e1 e2 e3
  exact ⟨v, T', L, X', hQ, fun t k => st.trans k⟩
theorem callV (X : Stand p l e R s m args below meth c T locs cells slots) (hx : p.tables.exec = Jvm.exec) (hZ : Z.Warmed39 s.vm) (hown : s.vm.findClass own = some m.cls) (eT : T.heap = h) (a : Addr) (argsL rest : List Value) {C : String} (E : Exa Z h a C)
    (w1 : (Cond.methodLink own index y).before a0 Z = true) (w2 : (Cond.declares y).before a0 Z = true) (w5 : (Cond.selects C y y).before a0 Z = true) (w6 : (Cond.instanceMethod y).before a0 Z = true) (w3 : (Cond.initialized y.cls).before a0 Z = true) (w4 : (Cond.code y bytes maxL ret).before a0 Z = true)
    (hy : y.cls ≠ "java/lang/invoke/MethodHandle" ∧ y.cls ≠ "java/lang/invoke/VarHandle")
    (hM : MetFree l y (head1 [Cond.code y bytes maxL ret] rm) (fun a' U => a' = (.ref a :: argsL).toArray ∧ Z.Warmed39 U.vm ∧ U.heap = h) (fun _ _ _ _ _ => True) (fun _ U o U' => ∃ v L, o = .returned v ∧ Qc v U'.heap L ∧ FrameEnd U o U' L rm.cells rm.slots))
    (hpd : parseMethodDescriptor y.desc = some ⟨ps, r⟩) (hll : argsL.length = ps.length) (hsize : Ls.size = c.maxLocals) (hW : 2 * 0 + (rest.map fun v => v.category).sum ≤ W)
    (hf : rm.frames + 1 ≤ R.frames) (hl : W + (maxL + 11) + rm.locals ≤ R.locals) (hc : cells + rm.cells ≤ R.cells) (hs : slots + rm.slots ≤ R.slots) (hd : decode c.code pc = .ok (.invokevirtual index, 3)) :
    ∃ v T' L, Stand p l e R s m args below meth c T' (locs ++ L) (cells + rm.cells) (slots + rm.slots) ∧ Qc v T'.heap L ∧
      ∀ t, Steps p.tables e below (T'.setTop (mkF m (pc + 3) Ls (v.toList ++ rest))) t → Steps p.tables e below (T.setTop (mkF m pc Ls (argsL.reverse ++ .ref a :: rest))) t := by
  obtain ⟨cq, kq, qa, qb, qc⟩ := isOf hZ eT E
  obtain ⟨v, vm1, ⟨T', L', k', n'⟩, -, X', ⟨L, hQ, e1, e2, e3⟩, st⟩ := X.virtualBack hx (y := y) (z := y) hown (mvT hZ w1) (mvT hZ w2) (notFace_of_selects (args := #[]) (mvT hZ w5)) (mvT hZ w5) (mvT hZ w6) hy (backOf (W := W) hM hZ w4 w3 hf hl) qa qc (g := mkF m pc Ls (argsL.reverse ++ .ref a :: rest)) rfl hsize (Steps.refl _) (argsL := argsL) (rest := rest) (lenOf hpd hll) rfl hW hd (fun _ _ => ⟨rfl, eT, hc, hs⟩)
  dsimp only [Pt.U, Pt.locs, Pt.cells, Pt.slots] at X' e1 e2 e3 st hQ
  subst e1 e2 e3
  exact ⟨v, T', L, X', hQ, fun t k => st.trans k⟩
end Calls
end OwnKit
-- own numbers: small naturals as ints
theorem own_ofNat_toInt {i : Nat} (h : i < 2 ^ 31) : (Int32.ofNat i).toInt = i := Int32.toInt_ofNat_of_lt h
theorem own_nc {i : Nat} (h : i < 2 ^ 31) : (Int32.ofNat i).toNatClampNeg = i := by
  show (Int32.ofNat i).toInt.toNat = i
  rw [own_ofNat_toInt h]; rfl
theorem own_nn {i : Nat} (h : i < 2 ^ 31) : ¬ Int32.ofNat i < 0 := by
  rw [Int32.lt_iff_toInt_lt, own_ofNat_toInt h]
  show ¬ (i : Int) < 0
  omega
theorem own_lt {a b : Nat} (ha : a < 2 ^ 31) (hb : b < 2 ^ 31) : Int32.ofNat a < Int32.ofNat b ↔ a < b := by
  rw [Int32.lt_iff_toInt_lt, own_ofNat_toInt ha, own_ofNat_toInt hb]
  omega
theorem own_eqn {a b : Nat} (ha : a < 2 ^ 31) (hb : b < 2 ^ 31) : Int32.ofNat a = Int32.ofNat b ↔ a = b := by
  rw [← Int32.toInt_inj, own_ofNat_toInt ha, own_ofNat_toInt hb]
  omega
theorem own_add (a b : Nat) : Int32.ofNat a + Int32.ofNat b = Int32.ofNat (a + b) := (Int32.ofNat_add a b).symm
theorem own_sub {a b : Nat} (h : b ≤ a) : Int32.ofNat a - Int32.ofNat b = Int32.ofNat (a - b) := by
  have e : Int32.ofNat (a - b) + Int32.ofNat b = Int32.ofNat a := by rw [own_add, Nat.sub_add_cancel h]
  rw [← e, Int32.add_sub_cancel]
theorem own_ofBits (x : Int32) : x = Int32.ofNat x.toBitVec.toNat := by
  apply Int32.toBitVec_inj.mp
  show _ = BitVec.ofNat 32 _
  simp
theorem own_andN (x : Int32) (m : Nat) (hm : m < 2 ^ 32) : ∃ n : Nat, n ≤ m ∧ n = x.toBitVec.toNat &&& m ∧ (x &&& Int32.ofNat m) = Int32.ofNat n := by
  refine ⟨(x &&& Int32.ofNat m).toBitVec.toNat, ?_, ?_, own_ofBits _⟩
  · rw [Int32.toBitVec_and, BitVec.toNat_and]
    refine Nat.le_trans Nat.and_le_right ?_
    show (BitVec.ofNat 32 m).toNat ≤ m
    rw [BitVec.toNat_ofNat]; exact Nat.mod_le _ _
  · rw [Int32.toBitVec_and, BitVec.toNat_and]
    congr 1
    show (BitVec.ofNat 32 m).toNat = m
    rw [BitVec.toNat_ofNat]; exact Nat.mod_eq_of_lt hm
theorem own_and (x : Int32) (m : Nat) (hm : m < 2 ^ 32) : ∃ n : Nat, n ≤ m ∧ (x &&& Int32.ofNat m) = Int32.ofNat n := by
  obtain ⟨n, h1, -, h2⟩ := own_andN x m hm; exact ⟨n, h1, h2⟩
theorem own_rem {n d : Nat} (hn : n < 2 ^ 31) (hd : d < 2 ^ 31) : Int32.ofNat n % Int32.ofNat d = Int32.ofNat (n % d) := by
  apply Int32.toInt_inj.mp
  have h1 : n % d ≤ n := Nat.mod_le _ _
  rw [Int32.toInt_mod, own_ofNat_toInt hn, own_ofNat_toInt hd, own_ofNat_toInt (by omega), Int.ofNat_tmod]
theorem own_div {n d : Nat} (hn : n < 2 ^ 31) (hd : d < 2 ^ 31) : Int32.ofNat n / Int32.ofNat d = Int32.ofNat (n / d) := by
  apply Int32.toInt_inj.mp
  have h1 : n / d ≤ n := Nat.div_le_self _ _
  rw [Int32.toInt_div, own_ofNat_toInt hn, own_ofNat_toInt hd, own_ofNat_toInt (by omega), ← Int.ofNat_tdiv]
  generalize n / d = q at h1
  refine Int.bmod_eq_of_le ?_ ?_ <;> omega
theorem own_maskrem (k : Int32) (d : Nat) (h0 : 0 < d) (hd : d < 2 ^ 31) : ∃ i : Nat, i < d ∧ (k &&& (2147483647 : Int32)) % Int32.ofNat d = Int32.ofNat i := by
  obtain ⟨n, h1, h2⟩ := own_and k 2147483647 (by decide)
  refine ⟨n % d, Nat.mod_lt _ h0, ?_⟩
  rw [show (2147483647 : Int32) = Int32.ofNat 2147483647 from rfl, h2, own_rem (by omega) hd]
theorem own_ints (vs : List Int32) (i : Nat) : ∃ x, gl (vs.map Value.int) (.int (0 : Int32)) i = .int x := by
  simp only [gl, List.getD_eq_getElem?_getD, List.getElem?_map]
  cases vs[i]? with
  | none => exact ⟨_, rfl⟩
  | some y => exact ⟨_, rfl⟩

-- own numbers: naturals as longs
theorem o64_bits (x : Int64) : x = Int64.ofNat x.toBitVec.toNat := by
  apply Int64.toBitVec_inj.mp
  show _ = BitVec.ofNat 64 _
  simp
theorem o64_toNat {n : Nat} (h : n < 2 ^ 64) : (Int64.ofNat n).toBitVec.toNat = n := by
  show (BitVec.ofNat 64 n).toNat = n
  rw [BitVec.toNat_ofNat]; exact Nat.mod_eq_of_lt h
theorem o64_eq_of {x : Int64} {n : Nat} (h : x.toBitVec.toNat = n) : x = Int64.ofNat n := by subst h; exact o64_bits x
theorem o64_add (a b : Nat) : Int64.ofNat a + Int64.ofNat b = Int64.ofNat (a + b) := (Int64.ofNat_add a b).symm
theorem o64_mul (a b : Nat) : Int64.ofNat a * Int64.ofNat b = Int64.ofNat (a * b) := (Int64.ofNat_mul a b).symm
theorem o64_sub {a b : Nat} (h : b ≤ a) : Int64.ofNat a - Int64.ofNat b = Int64.ofNat (a - b) := by
  have e : Int64.ofNat (a - b) + Int64.ofNat b = Int64.ofNat a := by rw [o64_add, Nat.sub_add_cancel h]
  rw [← e, Int64.add_sub_cancel]
theorem o64_and {a m : Nat} (ha : a < 2 ^ 64) (hm : m < 2 ^ 64) : Int64.ofNat a &&& Int64.ofNat m = Int64.ofNat (a &&& m) := by
  apply o64_eq_of
  rw [Int64.toBitVec_and, BitVec.toNat_and, o64_toNat ha, o64_toNat hm]
theorem o64_toInt {n : Nat} (h : n < 2 ^ 63) : (Int64.ofNat n).toInt = n := Int64.toInt_ofNat_of_lt h
theorem o64_lt {a b : Nat} (ha : a < 2 ^ 63) (hb : b < 2 ^ 63) : Int64.ofNat a < Int64.ofNat b ↔ a < b := by
  rw [Int64.lt_iff_toInt_lt, o64_toInt ha, o64_toInt hb]
  omega
theorem o64_rem {n d : Nat} (hn : n < 2 ^ 63) (hd : d < 2 ^ 63) : Int64.ofNat n % Int64.ofNat d = Int64.ofNat (n % d) := by
  apply Int64.toInt_inj.mp
  have h1 : n % d ≤ n := Nat.mod_le _ _
  rw [Int64.toInt_mod, o64_toInt hn, o64_toInt hd, o64_toInt (by omega), Int.ofNat_tmod]
theorem o64_div {n d : Nat} (hn : n < 2 ^ 63) (hd : d < 2 ^ 63) : Int64.ofNat n / Int64.ofNat d = Int64.ofNat (n / d) := by
  apply Int64.toInt_inj.mp
  have h1 : n / d ≤ n := Nat.div_le_self _ _
  rw [Int64.toInt_div, o64_toInt hn, o64_toInt hd, o64_toInt (by omega), ← Int.ofNat_tdiv]
  generalize n / d = q at h1
  refine Int.bmod_eq_of_le ?_ ?_ <;> omega
theorem o64_sh (x : Int64) (k : Int32) (j : Nat) (hk : (k &&& 0x3f).toInt64.toUInt64.toBitVec.toNat = j) (hj : j < 64) : ((x.toUInt64 >>> (k &&& 0x3f).toInt64.toUInt64).toInt64).toBitVec = x.toBitVec >>> j := by
  subst hk
  show x.toUInt64.toBitVec >>> (((k &&& 0x3f).toInt64.toUInt64).toBitVec % 64#64).toNat = _
  congr 1
  rw [BitVec.toNat_umod]
  exact Nat.mod_eq_of_lt hj
theorem o64_ushr {a : Nat} (ha : a < 2 ^ 64) (k : Int32) (j : Nat) (hk : (k &&& 0x3f).toInt64.toUInt64.toBitVec.toNat = j) (hj : j < 64) : ((Int64.ofNat a).toUInt64 >>> (k &&& 0x3f).toInt64.toUInt64).toInt64 = Int64.ofNat (a / 2 ^ j) := by
  apply o64_eq_of
  rw [o64_sh _ k j hk hj, BitVec.toNat_ushiftRight, o64_toNat ha, Nat.shiftRight_eq_div_pow]
theorem o64_ge0 {n : Nat} (h : n < 2 ^ 63) : ¬ lcmpW (Int64.ofNat n) (0 : Int64) < 0 := fun q =>
  absurd ((o64_lt h (by decide : (0 : Nat) < 2 ^ 63)).mp ((lw_lt _ _).mp q)) (Nat.not_lt_zero _)
theorem o64_le {a b : Nat} (ha : a < 2 ^ 63) (hb : b < 2 ^ 63) (h : a ≤ b) : ¬ 0 < lcmpW (Int64.ofNat a) (Int64.ofNat b) := fun q =>
  absurd ((o64_lt hb ha).mp ((lw_gt _ _).mp q)) (Nat.not_lt.mpr h)
theorem o64_refl {a b : Nat} (h : a = b) : lcmpW (Int64.ofNat a) (Int64.ofNat b) = 0 := (lw_eq _ _).mpr (h ▸ rfl)
theorem o64_pos (x : Int64) : ∃ n : Nat, n < 2 ^ 63 ∧ x &&& (9223372036854775807 : Int64) = Int64.ofNat n := by
  refine ⟨(x &&& (9223372036854775807 : Int64)).toBitVec.toNat, ?_, o64_bits _⟩
  rw [Int64.toBitVec_and, BitVec.toNat_and]
  exact Nat.lt_of_le_of_lt Nat.and_le_right (by decide)
theorem own_lrem_eq (x y : Int64) : x - x / y * y = x % y := by
  apply Int64.toInt_inj.mp
  rw [Int64.toInt_sub, Int64.toInt_mul, Int64.toInt_div, Int64.toInt_mod]
  have h1 : (x % y).toInt.bmod (2 ^ 64) = (x % y).toInt := Int.bmod_eq_of_le (by have := (x % y).le_toInt; omega) (by have := (x % y).toInt_lt; omega)
  rw [Int64.toInt_mod] at h1
  rw [← h1]
  have h2 : x.toInt.tmod y.toInt = x.toInt - x.toInt.tdiv y.toInt * y.toInt := by rw [Int.tmod_def, Int.mul_comm]
  rw [h2]
  simp
theorem lremM {tb : Tables} [Ours tb] {e : Env} {below : List Frame} {T target : State} {m : MethodId} {c : Code} {g : JFrame} (h : At T m c below) (hx : tb.exec = Jvm.exec) (hg : g.method = m) {x y : Int64} {rest : List Value} (hd : decode c.code g.pc = .ok (.lrem, 1)) (hs : g.stack = .long y :: .long x :: rest) (hy : y ≠ 0)
    (hr : Steps tb e below (T.setTop { g with pc := g.pc + 1, stack := .long (x % y) :: rest }) target) : Steps tb e below (T.setTop g) target :=
  XS.lrem h hx hg hd hs hy (by rw [own_lrem_eq]; exact hr)

theorem o32_toNat {n : Nat} (h : n < 2 ^ 32) : (Int32.ofNat n).toBitVec.toNat = n := by
  show (BitVec.ofNat 32 n).toNat = n
  rw [BitVec.toNat_ofNat]; exact Nat.mod_eq_of_lt h
theorem o32_eq_of {x : Int32} {n : Nat} (h : x.toBitVec.toNat = n) : x = Int32.ofNat n := by subst h; exact own_ofBits x
theorem o32_sh (x : Int32) (k : Int32) (j : Nat) (hk : (k &&& 31).toUInt32.toBitVec.toNat = j) (hj : j < 32) : ((x.toUInt32 >>> (k &&& 31).toUInt32).toInt32).toBitVec = x.toBitVec >>> j := by
  subst hk
  show x.toUInt32.toBitVec >>> (((k &&& 31).toUInt32).toBitVec % 32#32).toNat = _
  congr 1
  rw [BitVec.toNat_umod]
  exact Nat.mod_eq_of_lt hj
theorem o32_ushr {a : Nat} (ha : a < 2 ^ 32) (k : Int32) (j : Nat) (hk : (k &&& 31).toUInt32.toBitVec.toNat = j) (hj : j < 32) : ((Int32.ofNat a).toUInt32 >>> (k &&& 31).toUInt32).toInt32 = Int32.ofNat (a / 2 ^ j) := by
  apply o32_eq_of
  rw [o32_sh _ k j hk hj, BitVec.toNat_ushiftRight, o32_toNat ha, Nat.shiftRight_eq_div_pow]
theorem own_subc {c : Nat} (d : Nat) (h : d ≤ c) : Int32.ofNat c + -(Int32.ofNat d) = Int32.ofNat (c - d) := by
  rw [← Int32.sub_eq_add_neg, own_sub h]
theorem own_finB {n B : Nat} (h : 2 ^ B ≤ n) (hn : n < 2147483648) : B < 31 := (Nat.pow_lt_pow_iff_right (a := 2) (by decide)).mp (Nat.lt_of_le_of_lt h hn)
theorem own_dd {n m j k : Nat} (h : n / 2 ^ j = m) : n / 2 ^ (j + k) = m / 2 ^ k := by
  rw [Nat.pow_add, ← Nat.div_div_eq_div_mul, h]
theorem own_fin {n m j : Nat} (h : n / 2 ^ j = m) (h0 : 0 < m) (h4 : m < 4) : 2 ^ (j + m / 2) ≤ n ∧ n < 2 ^ (j + m / 2 + 1) := by
  have hp : 0 < 2 ^ j := Nat.two_pow_pos j
  have h1 : 2 ^ j * m ≤ n := by rw [← h]; exact Nat.mul_div_le n (2 ^ j)
  have h2 : n < 2 ^ j * (m + 1) := by rw [← h]; exact Nat.lt_mul_div_succ n hp
  have hm : m = 1 ∨ m = 2 ∨ m = 3 := by omega
  rcases hm with rfl | rfl | rfl
  · simp only [Nat.reduceDiv, Nat.add_zero, Nat.pow_succ] at *; omega
  · simp only [Nat.reduceDiv, Nat.pow_succ] at *; omega
  · simp only [Nat.reduceDiv, Nat.pow_succ] at *; omega
theorem own_div1 {n B : Nat} (h1 : 2 ^ B ≤ n) (h2 : n < 2 ^ (B + 1)) : n / 2 ^ B = 1 := by
  have hp : 0 < 2 ^ B := Nat.two_pow_pos B
  rw [Nat.pow_succ] at h2
  exact Nat.div_eq_of_lt_le (by omega) (by omega)
theorem o64_toInt32 (n : Nat) : (Int64.ofNat n).toInt32 = Int32.ofNat n := by
  apply Int32.toBitVec_inj.mp
  show BitVec.signExtend 32 (BitVec.ofNat 64 n) = BitVec.ofNat 32 n
  rw [BitVec.signExtend_eq_setWidth_of_le _ (by decide)]
  apply BitVec.eq_of_toNat_eq
  simp only [BitVec.toNat_setWidth, BitVec.toNat_ofNat]
  omega
theorem own_hi {n : Nat} (h : n ≤ 2147483648) : (((Int64.ofNat n).toUInt64 >>> ((32 : Int32) &&& 0x3f).toInt64.toUInt64).toInt64).toInt32 = (0 : Int32) := by
  rw [o64_ushr (by omega) 32 32 (by decide) (by decide), o64_toInt32, Nat.div_eq_of_lt (by omega)]
  rfl
theorem own_top {c : Nat} (h : c < 2147483648) : (Int32.ofNat c).toInt64 + (1 : Int64) = Int64.ofNat (c + 1) := by
  rw [← o64_add]
  congr 1
  apply Int64.toInt_inj.mp
  rw [Int32.toInt_toInt64, own_ofNat_toInt h, o64_toInt (by omega)]
theorem o_shamt : ∀ j, j < 64 → (Int32.ofNat j &&& 0x3f).toInt64.toUInt64.toBitVec.toNat = j := by decide +kernel
theorem o_one : ∀ j, j < 64 → (1 : Int64) <<< (Int32.ofNat j &&& 0x3f).toInt64 = Int64.ofNat (2 ^ j) := by decide +kernel

theorem d2_0 : decode jdk_29_method_69_code 0 = .ok (.iload_n 0, 1) := by decide +kernel
theorem d2_1 : decode jdk_29_method_69_code 1 = .ok (.iload_n 1, 1) := by decide +kernel
theorem d2_2 : decode jdk_29_method_69_code 2 = .ok (.if_icmp .gt 7, 3) := by decide +kernel
theorem d2_5 : decode jdk_29_method_69_code 5 = .ok (.iload_n 0, 1) := by decide +kernel
theorem d2_6 : decode jdk_29_method_69_code 6 = .ok (.goto 4, 3) := by decide +kernel
theorem d2_9 : decode jdk_29_method_69_code 9 = .ok (.iload_n 1, 1) := by decide +kernel
theorem d2_10 : decode jdk_29_method_69_code 10 = .ok (.ireturn, 1) := by decide +kernel
def own_min (p0 : Int32) (p1 : Int32) : Int32 := (if p1 < p0 then p1 else p0)
theorem ef_own_min (m : MethodId) (y0 : Int32) (y1 : Int32) : entryFrame m #[(.int y0), (.int y1)] 2 = mkF m 0 #[.val (.int y0), .val (.int y1)] [] := by first | (simp [entryFrame, mkF, argsToLocals, Value.category]; done) | rfl
def Q_own_min (Z : State) (p0 : Int32) (p1 : Int32) (h0 : Heap) (n0 : Nat) (v : Option Value) (h : Heap) (L : List Loc) : Prop := v = some (.int (own_min p0 p1)) ∧ Fr n0 L ∧ h = h0
set_option maxRecDepth 65536 in
set_option maxHeartbeats 40000000 in
theorem rm_own_min (l : Launch) (Z : State) (a0 : Array Value) (hw : ∀ d ∈ tables_1, d.before a0 Z = true) (ws : List Jvm.Cond) (p0 : Int32) (p1 : Int32) (h0 : Heap) (n0 : Nat) (Z0 : n0 ≤ h0.size)  :
    MetFree l (⟨"java/lang/Math", "min", "(II)I"⟩ : MethodName) (head1 (Jvm.Cond.code (⟨"java/lang/Math", "min", "(II)I"⟩ : MethodName) jdk_29_method_69_code 2 (some .int) :: ws) ({ frames := 0, cells := 0, slots := 0, locals := 0 } : Room)) (fun a U => a = #[(.int p0), (.int p1)] ∧ Z.Warmed39 U.vm ∧ U.heap = h0) (fun _ _ _ _ _ => True) (fun _ U o U' => ∃ v L, o = .returned v ∧ Q_own_min Z p0 p1 h0 n0 v U'.heap L ∧ FrameEnd U o U' L ({ frames := 0, cells := 0, slots := 0, locals := 0 } : Room).cells ({ frames := 0, cells := 0, slots := 0, locals := 0 } : Room).slots) := by
  refine MetFree.of_bodySF (Jvm.Free.JP.mathPlain rfl (by decide +kernel)) hisR ?_
  intro p e s m args below meth c s₁ Bd hml0 hP hK
  obtain ⟨rfl, hZ, hh⟩ := hP
  have hx := Bd.exec
  have hby := Bd.bytes
  have hml : c.maxLocals = 2 := hml0
  have hown : s.vm.findClass "java/lang/Math" = some m.cls := findClass_of_methodNamed Bd.named
  have hnm := (name_of_methodNamed Bd.named Bd.method).1
  have X0 : Stand p l e ({ frames := 0, cells := 0, slots := 0, locals := 0 } : Room) s m #[(.int p0), (.int p1)] below meth c s₁ [] 0 0 := Stand.of_body Bd
  have eh0 : s₁.heap = h0 := by rw [← hh, Bd.state]; rfl
  have N0 := Fr.nil n0
  refine Gq.start (Q := Q_own_min Z p0 p1 h0 n0) (kc := ({ frames := 0, cells := 0, slots := 0, locals := 0 } : Room).cells) (ks := ({ frames := 0, cells := 0, slots := 0, locals := 0 } : Room).slots) (ef_own_min m p0 p1) ?_
  refine Gq.go (s₁.setTop (mkF m 1 #[.val (.int p0), .val (.int p1)] [(.int p0)])) (fun tt_ kk_ => XS.iloadN X0.here hx rfl (hb hby d2_0) rfl kk_) ?_
  refine Gq.go (s₁.setTop (mkF m 2 #[.val (.int p0), .val (.int p1)] [(.int p1), (.int p0)])) (fun tt_ kk_ => XS.iloadN X0.here hx rfl (hb hby d2_1) rfl kk_) ?_
  by_cases c2_1 : p1 < p0
  · refine Gq.go (s₁.setTop (mkF m 9 #[.val (.int p0), .val (.int p1)] [])) (fun tt_ kk_ => XS.icmpYes X0.here hx rfl (pc0 := 2) (pc' := 9) rfl (hb hby d2_2) rfl (tlt c2_1).2.2.1 (by decide) (by decide) kk_) ?_
    refine Gq.go (s₁.setTop (mkF m 10 #[.val (.int p0), .val (.int p1)] [(.int p1)])) (fun tt_ kk_ => XS.iloadN X0.here hx rfl (hb hby d2_9) rfl kk_) ?_
    refine Gq.retI X0 hx Bd.notSynchronized Bd.returns (by simp) (hb hby d2_10) rfl (by decide) (by decide) ?_
    show Q_own_min Z p0 p1 h0 n0 _ s₁.heap _
    rw [eh0]
    exact ⟨by unfold own_min; rw [if_pos c2_1], N0, rfl⟩
  · refine Gq.go (s₁.setTop (mkF m 5 #[.val (.int p0), .val (.int p1)] [])) (fun tt_ kk_ => XS.icmpNo X0.here hx rfl (hb hby d2_2) rfl (flt c2_1).2.2.1 kk_) ?_
    refine Gq.go (s₁.setTop (mkF m 6 #[.val (.int p0), .val (.int p1)] [(.int p0)])) (fun tt_ kk_ => XS.iloadN X0.here hx rfl (hb hby d2_5) rfl kk_) ?_
    refine Gq.go (s₁.setTop (mkF m 10 #[.val (.int p0), .val (.int p1)] [(.int p0)])) (fun tt_ kk_ => XS.goto X0.here hx rfl (pc0 := 6) (pc' := 10) rfl (hb hby d2_6) (by decide) (by decide) kk_) ?_
    refine Gq.retI X0 hx Bd.notSynchronized Bd.returns (by simp) (hb hby d2_10) rfl (by decide) (by decide) ?_
    show Q_own_min Z p0 p1 h0 n0 _ s₁.heap _
    rw [eh0]
    exact ⟨by unfold own_min; rw [if_neg c2_1], N0, rfl⟩
theorem d3_0 : decode jdk_29_method_65_code 0 = .ok (.iload_n 0, 1) := by decide +kernel
theorem d3_1 : decode jdk_29_method_65_code 1 = .ok (.iload_n 1, 1) := by decide +kernel
theorem d3_2 : decode jdk_29_method_65_code 2 = .ok (.if_icmp .lt 7, 3) := by decide +kernel
theorem d3_5 : decode jdk_29_method_65_code 5 = .ok (.iload_n 0, 1) := by decide +kernel
theorem d3_6 : decode jdk_29_method_65_code 6 = .ok (.goto 4, 3) := by decide +kernel
theorem d3_9 : decode jdk_29_method_65_code 9 = .ok (.iload_n 1, 1) := by decide +kernel
theorem d3_10 : decode jdk_29_method_65_code 10 = .ok (.ireturn, 1) := by decide +kernel
def own_max (p0 : Int32) (p1 : Int32) : Int32 := (if p0 < p1 then p1 else p0)
theorem ef_own_max (m : MethodId) (y0 : Int32) (y1 : Int32) : entryFrame m #[(.int y0), (.int y1)] 2 = mkF m 0 #[.val (.int y0), .val (.int y1)] [] := by first | (simp [entryFrame, mkF, argsToLocals, Value.category]; done) | rfl
def Q_own_max (Z : State) (p0 : Int32) (p1 : Int32) (h0 : Heap) (n0 : Nat) (v : Option Value) (h : Heap) (L : List Loc) : Prop := v = some (.int (own_max p0 p1)) ∧ Fr n0 L ∧ h = h0
set_option maxRecDepth 65536 in
set_option maxHeartbeats 40000000 in
theorem rm_own_max (l : Launch) (Z : State) (a0 : Array Value) (hw : ∀ d ∈ tables_1, d.before a0 Z = true) (ws : List Jvm.Cond) (p0 : Int32) (p1 : Int32) (h0 : Heap) (n0 : Nat) (Z0 : n0 ≤ h0.size)  :
    MetFree l (⟨"java/lang/Math", "max", "(II)I"⟩ : MethodName) (head1 (Jvm.Cond.code (⟨"java/lang/Math", "max", "(II)I"⟩ : MethodName) jdk_29_method_65_code 2 (some .int) :: ws) ({ frames := 0, cells := 0, slots := 0, locals := 0 } : Room)) (fun a U => a = #[(.int p0), (.int p1)] ∧ Z.Warmed39 U.vm ∧ U.heap = h0) (fun _ _ _ _ _ => True) (fun _ U o U' => ∃ v L, o = .returned v ∧ Q_own_max Z p0 p1 h0 n0 v U'.heap L ∧ FrameEnd U o U' L ({ frames := 0, cells := 0, slots := 0, locals := 0 } : Room).cells ({ frames := 0, cells := 0, slots := 0, locals := 0 } : Room).slots) := by
  refine MetFree.of_bodySF (Jvm.Free.JP.mathPlain rfl (by decide +kernel)) hisR ?_
  intro p e s m args below meth c s₁ Bd hml0 hP hK
  obtain ⟨rfl, hZ, hh⟩ := hP
  have hx := Bd.exec
  have hby := Bd.bytes
  have hml : c.maxLocals = 2 := hml0
  have hown : s.vm.findClass "java/lang/Math" = some m.cls := findClass_of_methodNamed Bd.named
  have hnm := (name_of_methodNamed Bd.named Bd.method).1
  have X0 : Stand p l e ({ frames := 0, cells := 0, slots := 0, locals := 0 } : Room) s m #[(.int p0), (.int p1)] below meth c s₁ [] 0 0 := Stand.of_body Bd
  have eh0 : s₁.heap = h0 := by rw [← hh, Bd.state]; rfl
  have N0 := Fr.nil n0
  refine Gq.start (Q := Q_own_max Z p0 p1 h0 n0) (kc := ({ frames := 0, cells := 0, slots := 0, locals := 0 } : Room).cells) (ks := ({ frames := 0, cells := 0, slots := 0, locals := 0 } : Room).slots) (ef_own_max m p0 p1) ?_
  refine Gq.go (s₁.setTop (mkF m 1 #[.val (.int p0), .val (.int p1)] [(.int p0)])) (fun tt_ kk_ => XS.iloadN X0.here hx rfl (hb hby d3_0) rfl kk_) ?_
  refine Gq.go (s₁.setTop (mkF m 2 #[.val (.int p0), .val (.int p1)] [(.int p1), (.int p0)])) (fun tt_ kk_ => XS.iloadN X0.here hx rfl (hb hby d3_1) rfl kk_) ?_
  by_cases c2_1 : p0 < p1
  · refine Gq.go (s₁.setTop (mkF m 9 #[.val (.int p0), .val (.int p1)] [])) (fun tt_ kk_ => XS.icmpYes X0.here hx rfl (pc0 := 2) (pc' := 9) rfl (hb hby d3_2) rfl (tlt c2_1).1 (by decide) (by decide) kk_) ?_
    refine Gq.go (s₁.setTop (mkF m 10 #[.val (.int p0), .val (.int p1)] [(.int p1)])) (fun tt_ kk_ => XS.iloadN X0.here hx rfl (hb hby d3_9) rfl kk_) ?_
    refine Gq.retI X0 hx Bd.notSynchronized Bd.returns (by simp) (hb hby d3_10) rfl (by decide) (by decide) ?_
    show Q_own_max Z p0 p1 h0 n0 _ s₁.heap _
    rw [eh0]
    exact ⟨by unfold own_max; rw [if_pos c2_1], N0, rfl⟩
  · refine Gq.go (s₁.setTop (mkF m 5 #[.val (.int p0), .val (.int p1)] [])) (fun tt_ kk_ => XS.icmpNo X0.here hx rfl (hb hby d3_2) rfl (flt c2_1).1 kk_) ?_
    refine Gq.go (s₁.setTop (mkF m 6 #[.val (.int p0), .val (.int p1)] [(.int p0)])) (fun tt_ kk_ => XS.iloadN X0.here hx rfl (hb hby d3_5) rfl kk_) ?_
    refine Gq.go (s₁.setTop (mkF m 10 #[.val (.int p0), .val (.int p1)] [(.int p0)])) (fun tt_ kk_ => XS.goto X0.here hx rfl (pc0 := 6) (pc' := 10) rfl (hb hby d3_6) (by decide) (by decide) kk_) ?_
    refine Gq.retI X0 hx Bd.notSynchronized Bd.returns (by simp) (hb hby d3_10) rfl (by decide) (by decide) ?_
    show Q_own_max Z p0 p1 h0 n0 _ s₁.heap _
    rw [eh0]
    exact ⟨by unfold own_max; rw [if_neg c2_1], N0, rfl⟩
theorem own_i8 {n : Nat} (h : n < 128) : (Int32.ofNat n).toInt8.toInt32 = Int32.ofNat n := by
  have q : ∀ n, n < 128 → (Int32.ofNat n).toInt8.toInt32 = Int32.ofNat n := by decide +kernel
  exact q n h
theorem own_pow (j : Nat) (h : j < 17) : 0 < 10 ^ j ∧ 10 ^ j < 2 ^ 63 := ⟨Nat.pow_pos (by decide), Nat.lt_of_le_of_lt (Nat.pow_le_pow_right (by decide) (show j ≤ 16 by omega)) (by decide)⟩
theorem own_ne0 {n : Nat} (h1 : 0 < n) (h2 : n < 2 ^ 63) : Int64.ofNat n ≠ 0 := fun e => by
  have := congrArg Int64.toInt e
  rw [o64_toInt h2] at this
  have e0 : (0 : Int64).toInt = 0 := by decide
  rw [e0] at this; omega
def own_dg (c : Int32) : Option Nat := if c < (48 : Int32) then none else if (57 : Int32) < c then none else some (c.toInt.toNat - 48)
def own_ov (g : Nat → Int32) (s : Nat) : Nat → Option Nat
  | 0 => some 0
  | k + 1 => match own_ov g s k with
    | none => none
    | some V => match own_dg (g (s + k)) with
      | none => none
      | some d => some (10 * V + d)
def own_enc : Option Nat → Int64
  | none => -1
  | some V => Int64.ofNat V
def own_st (g : Nat → Int32) (k s e : Nat) (o : Option Nat) : Option Nat := if k < s then o else if e ≤ k then o else match o with
  | none => none
  | some V => match own_dg (g k) with
    | none => none
    | some d => some (10 * V + d)
def own_wn (g : Nat → Int32) (s e : Nat) : Int64 := if s = e then -1 else if 18 < e - s then -1 else own_enc (own_ov g s (e - s))
theorem own_st_none (g : Nat → Int32) (k s e : Nat) : own_st g k s e none = none := by
  unfold own_st
  split
  · rfl
  · split <;> rfl
theorem own_dg_lo {c : Int32} (h : c < (48 : Int32)) : own_dg c = none := by unfold own_dg; rw [if_pos h]
theorem own_dg_hi {c : Int32} (h : ¬ c < (48 : Int32)) (h2 : (57 : Int32) < c) : own_dg c = none := by unfold own_dg; rw [if_neg h, if_pos h2]
theorem own_dg_ok {c : Int32} (h : ¬ c < (48 : Int32)) (h2 : ¬ (57 : Int32) < c) : own_dg c = some (c.toInt.toNat - 48) := by unfold own_dg; rw [if_neg h, if_neg h2]
theorem own_dg_le {c : Int32} {d : Nat} (h : own_dg c = some d) : d ≤ 9 := by
  unfold own_dg at h
  split at h
  · cases h
  · split at h
    · cases h
    · rename_i h1 h2
      rw [Int32.lt_iff_toInt_lt] at h1 h2
      have e1 : (48 : Int32).toInt = 48 := by decide
      have e2 : (57 : Int32).toInt = 57 := by decide
      cases h; omega
theorem own_ov_lt (g : Nat → Int32) (s : Nat) : ∀ k V, own_ov g s k = some V → V < 10 ^ k
  | 0, V, h => by cases h; decide
  | k + 1, V, h => by
    unfold own_ov at h
    split at h
    · cases h
    · rename_i W hW
      split at h
      · cases h
      · rename_i d hd
        cases h
        have h1 := own_ov_lt g s k W hW
        have h2 := own_dg_le hd
        rw [Nat.pow_succ]; omega
theorem own_ov_63 {g : Nat → Int32} {s k V : Nat} (h : own_ov g s k = some V) (hk : k ≤ 18) : V < 2 ^ 63 :=
  Nat.lt_trans (Nat.lt_of_lt_of_le (own_ov_lt g s k V h) (Nat.pow_le_pow_right (by decide) hk)) (by decide)
theorem own_ov_next {g : Nat → Int32} {s i V : Nat} (h : own_ov g s (i - s) = some V) (hs : s ≤ i) : own_ov g s (i - s + 1) = match own_dg (g i) with | none => none | some d => some (10 * V + d) := by
  show (match own_ov g s (i - s) with | none => none | some V => match own_dg (g (s + (i - s))) with | none => none | some d => some (10 * V + d)) = _
  rw [h, Nat.add_sub_cancel' hs]
theorem own_ov_none {g : Nat → Int32} {s : Nat} {k : Nat} (h : own_ov g s k = none) : ∀ j, own_ov g s (k + j) = none
  | 0 => h
  | j + 1 => by
    show (match own_ov g s (k + j) with | none => none | some V => match own_dg (g (s + (k + j))) with | none => none | some d => some (10 * V + d)) = none
    rw [own_ov_none h j]
theorem own_wn_none {g : Nat → Int32} {s e k : Nat} (h1 : ¬ s = e) (h2 : ¬ 18 < e - s) (hk : k ≤ e - s) (h : own_ov g s k = none) : own_wn g s e = -1 := by
  unfold own_wn
  rw [if_neg h1, if_neg h2]
  have := own_ov_none h (e - s - k)
  rw [Nat.add_sub_cancel' hk] at this
  rw [this]; rfl
theorem own_st_ov (g : Nat → Int32) (s e k : Nat) (hs : s ≤ e) : own_st g k s e (own_ov g s (min e k - s)) = own_ov g s (min e (k + 1) - s) := by
  unfold own_st
  by_cases h1 : k < s
  · rw [if_pos h1, show min e k - s = 0 by omega, show min e (k + 1) - s = 0 by omega]
  · rw [if_neg h1]
    by_cases h2 : e ≤ k
    · rw [if_pos h2, show min e k = e by omega, show min e (k + 1) = e by omega]
    · rw [if_neg h2, show min e k - s = k - s by omega, show min e (k + 1) - s = (k - s) + 1 by omega]
      show _ = (match own_ov g s (k - s) with | none => none | some V => match own_dg (g (s + (k - s))) with | none => none | some d => some (10 * V + d))
      rw [Nat.add_sub_cancel' (show s ≤ k by omega)]
theorem own_digit {D i : Nat} : own_dg (Int32.ofNat (48 + D / 10 ^ (15 - i) % 10)) = some (D / 10 ^ (15 - i) % 10) := by
  have h := Nat.mod_lt (D / 10 ^ (15 - i)) (show 0 < 10 by decide)
  generalize D / 10 ^ (15 - i) % 10 = d at h
  have q : ∀ d, d < 10 → own_dg (Int32.ofNat (48 + d)) = some d := by decide +kernel
  exact q d h
theorem own_lead {g : Nat → Int32} {D s : Nat} (hg : ∀ i, i < 16 → g i = Int32.ofNat (48 + D / 10 ^ (15 - i) % 10)) {a : Nat} (h1 : s ≤ a) (h2 : a ≤ 16) : own_ov g s (a - s) = some (D / 10 ^ (16 - a) % 10 ^ (a - s)) := by
  have key : ∀ k, s + k ≤ 16 → own_ov g s k = some (D / 10 ^ (16 - (s + k)) % 10 ^ k) := by
    intro k
    induction k with
    | zero => intro _; show some 0 = _; rw [Nat.pow_zero, Nat.mod_one]
    | succ k ih =>
      intro hk
      show (match own_ov g s k with | none => none | some V => match own_dg (g (s + k)) with | none => none | some d => some (10 * V + d)) = _
      rw [ih (by omega), hg (s + k) (by omega), own_digit]
      show some _ = some _
      congr 1
      rw [show 16 - (s + (k + 1)) = 15 - (s + k) by omega, show 16 - (s + k) = (15 - (s + k)) + 1 by omega, Nat.pow_succ 10 (15 - (s + k)), ← Nat.div_div_eq_div_mul, Nat.pow_succ 10 k, Nat.mul_comm (10 ^ k) 10, Nat.mod_mul]
      omega
  have := key (a - s) (by omega)
  rw [show s + (a - s) = a by omega] at this
  exact this
theorem own_min_eq {e : Nat} (h : e ≤ 20) : own_min (Int32.ofNat e) (16 : Int32) = Int32.ofNat (min e 16) := by
  have q : ∀ e, e < 21 → own_min (Int32.ofNat e) (16 : Int32) = Int32.ofNat (min e 16) := by decide +kernel
  exact q e (by omega)
theorem own_min_eq2 {a b : Nat} (ha : a < 21) (hb : b < 21) : own_min (Int32.ofNat a) (Int32.ofNat b) = Int32.ofNat (min a b) := by
  have q : ∀ a, a < 21 → ∀ b, b < 21 → own_min (Int32.ofNat a) (Int32.ofNat b) = Int32.ofNat (min a b) := by decide +kernel
  exact q a ha b hb
theorem own_max_eq2 {a b : Nat} (ha : a < 21) (hb : b < 21) : own_max (Int32.ofNat a) (Int32.ofNat b) = Int32.ofNat (max a b) := by
  have q : ∀ a, a < 21 → ∀ b, b < 21 → own_max (Int32.ofNat a) (Int32.ofNat b) = Int32.ofNat (max a b) := by decide +kernel
  exact q a ha b hb
theorem own_dig {c : Int32} (h1 : ¬ c < (48 : Int32)) (h2 : ¬ (57 : Int32) < c) : (c - (48 : Int32)).toInt64 = Int64.ofNat (c.toInt.toNat - 48) := by
  rw [Int32.lt_iff_toInt_lt] at h1 h2
  have e1 : (48 : Int32).toInt = 48 := by decide
  have e2 : (57 : Int32).toInt = 57 := by decide
  apply Int64.toInt_inj.mp
  rw [Int32.toInt_toInt64, Int32.toInt_sub, e1, o64_toInt (by omega), Int.bmod_eq_of_le (by omega) (by omega)]
  omega
theorem own_d1 {c : Int32} (h : -128 ≤ c.toInt ∧ c.toInt ≤ 127) : c - (48 : Int32) < (0 : Int32) ↔ c < (48 : Int32) := by
  have e1 : (48 : Int32).toInt = 48 := by decide
  have e0 : (0 : Int32).toInt = 0 := by decide
  rw [Int32.lt_iff_toInt_lt, Int32.lt_iff_toInt_lt, Int32.toInt_sub, e1, e0, Int.bmod_eq_of_le (by omega) (by omega)]
  omega
theorem own_d2 {c : Int32} (h : -128 ≤ c.toInt ∧ c.toInt ≤ 127) : (9 : Int32) < c - (48 : Int32) ↔ (57 : Int32) < c := by
  have e1 : (48 : Int32).toInt = 48 := by decide
  have e0 : (9 : Int32).toInt = 9 := by decide
  have e2 : (57 : Int32).toInt = 57 := by decide
  rw [Int32.lt_iff_toInt_lt, Int32.lt_iff_toInt_lt, Int32.toInt_sub, e1, e0, e2, Int.bmod_eq_of_le (by omega) (by omega)]
  omega
theorem own_dmod (x : Int64) : ∃ D : Nat, D < 10 ^ 16 ∧ (x &&& (9223372036854775807 : Int64)) % (10000000000000000 : Int64) = Int64.ofNat D := by
  obtain ⟨n, h1, h2⟩ := o64_pos x
  refine ⟨n % 10000000000000000, Nat.mod_lt _ (by decide), ?_⟩
  rw [h2]; exact o64_rem (d := 10000000000000000) h1 (by decide)
theorem own_pows : ∀ j, j < 17 → gl [(.long (1 : Int64)), (.long (10 : Int64)), (.long (100 : Int64)), (.long (1000 : Int64)), (.long (10000 : Int64)), (.long (100000 : Int64)), (.long (1000000 : Int64)), (.long (10000000 : Int64)), (.long (100000000 : Int64)), (.long (1000000000 : Int64)), (.long (10000000000 : Int64)), (.long (100000000000 : Int64)), (.long (1000000000000 : Int64)), (.long (10000000000000 : Int64)), (.long (100000000000000 : Int64)), (.long (1000000000000000 : Int64)), (.long (10000000000000000 : Int64))] (.long (0 : Int64)) j = .long (Int64.ofNat (10 ^ j)) := by
  intro j hj
  have hc : j = 0 ∨ j = 1 ∨ j = 2 ∨ j = 3 ∨ j = 4 ∨ j = 5 ∨ j = 6 ∨ j = 7 ∨ j = 8 ∨ j = 9 ∨ j = 10 ∨ j = 11 ∨ j = 12 ∨ j = 13 ∨ j = 14 ∨ j = 15 ∨ j = 16 := by omega
  rcases hc with rfl | rfl | rfl | rfl | rfl | rfl | rfl | rfl | rfl | rfl | rfl | rfl | rfl | rfl | rfl | rfl | rfl <;> rfl
def own_gg (D : Nat) (t0 t1 t2 t3 : Int32) (i : Nat) : Int32 := if i < 16 then Int32.ofNat (48 + D / 10 ^ (15 - i) % 10) else if i = 16 then t0 else if i = 17 then t1 else if i = 18 then t2 else t3
theorem own_gg_d (D : Nat) (t0 t1 t2 t3 : Int32) : ∀ i, i < 16 → own_gg D t0 t1 t2 t3 i = Int32.ofNat (48 + D / 10 ^ (15 - i) % 10) := fun i hi => by unfold own_gg; rw [if_pos hi]
theorem own_byte (x : Int32) : -128 ≤ x.toInt8.toInt32.toInt ∧ x.toInt8.toInt32.toInt ≤ 127 := by
  rw [Int8.toInt_toInt32]
  have h1 := x.toInt8.le_toInt
  have h2 := x.toInt8.toInt_lt
  omega
theorem own_gg_b (D : Nat) (t0 t1 t2 t3 : Int32) : ∀ i, i < 20 → -128 ≤ (own_gg D (t0.toInt8.toInt32) (t1.toInt8.toInt32) (t2.toInt8.toInt32) (t3.toInt8.toInt32) i).toInt ∧ (own_gg D (t0.toInt8.toInt32) (t1.toInt8.toInt32) (t2.toInt8.toInt32) (t3.toInt8.toInt32) i).toInt ≤ 127 := fun i hi => by
  unfold own_gg
  by_cases h : i < 16
  · rw [if_pos h, own_ofNat_toInt (by omega)]; omega
  · rw [if_neg h]
    split
    · exact own_byte t0
    · split
      · exact own_byte t1
      · split
        · exact own_byte t2
        · exact own_byte t3
theorem own_20 (D : Nat) (t0 t1 t2 t3 : Int32) : ∀ i, i < 20 → gl [(.int (Int32.ofNat (48 + D / 10 ^ (15 - 0) % 10)).toInt8.toInt32), (.int (Int32.ofNat (48 + D / 10 ^ (15 - 1) % 10)).toInt8.toInt32), (.int (Int32.ofNat (48 + D / 10 ^ (15 - 2) % 10)).toInt8.toInt32), (.int (Int32.ofNat (48 + D / 10 ^ (15 - 3) % 10)).toInt8.toInt32), (.int (Int32.ofNat (48 + D / 10 ^ (15 - 4) % 10)).toInt8.toInt32), (.int (Int32.ofNat (48 + D / 10 ^ (15 - 5) % 10)).toInt8.toInt32), (.int (Int32.ofNat (48 + D / 10 ^ (15 - 6) % 10)).toInt8.toInt32), (.int (Int32.ofNat (48 + D / 10 ^ (15 - 7) % 10)).toInt8.toInt32), (.int (Int32.ofNat (48 + D / 10 ^ (15 - 8) % 10)).toInt8.toInt32), (.int (Int32.ofNat (48 + D / 10 ^ (15 - 9) % 10)).toInt8.toInt32), (.int (Int32.ofNat (48 + D / 10 ^ (15 - 10) % 10)).toInt8.toInt32), (.int (Int32.ofNat (48 + D / 10 ^ (15 - 11) % 10)).toInt8.toInt32), (.int (Int32.ofNat (48 + D / 10 ^ (15 - 12) % 10)).toInt8.toInt32), (.int (Int32.ofNat (48 + D / 10 ^ (15 - 13) % 10)).toInt8.toInt32), (.int (Int32.ofNat (48 + D / 10 ^ (15 - 14) % 10)).toInt8.toInt32), (.int (Int32.ofNat (48 + D / 10 ^ (15 - 15) % 10)).toInt8.toInt32), (.int t0), (.int t1), (.int t2), (.int t3)] (.int (0 : Int32)) i = .int (own_gg D t0 t1 t2 t3 i) := by
  intro j hj
  have hc : j = 0 ∨ j = 1 ∨ j = 2 ∨ j = 3 ∨ j = 4 ∨ j = 5 ∨ j = 6 ∨ j = 7 ∨ j = 8 ∨ j = 9 ∨ j = 10 ∨ j = 11 ∨ j = 12 ∨ j = 13 ∨ j = 14 ∨ j = 15 ∨ j = 16 ∨ j = 17 ∨ j = 18 ∨ j = 19 := by omega
  rcases hc with rfl | rfl | rfl | rfl | rfl | rfl | rfl | rfl | rfl | rfl | rfl | rfl | rfl | rfl | rfl | rfl | rfl | rfl | rfl | rfl
  all_goals first | rfl | exact congrArg Value.int (own_i8 (by omega))

theorem d1_0 : decode method_3_code 0 = .ok (.ldc2_w 69, 3) := by decide +kernel
theorem d1_3 : decode method_3_code 3 = .ok (.lload_n 0, 1) := by decide +kernel
theorem d1_4 : decode method_3_code 4 = .ok (.aload_n 2, 1) := by decide +kernel
theorem d1_5 : decode method_3_code 5 = .ok (.bipush 15, 2) := by decide +kernel
theorem d1_7 : decode method_3_code 7 = .ok (.iload_n 3, 1) := by decide +kernel
theorem d1_8 : decode method_3_code 8 = .ok (.isub, 1) := by decide +kernel
theorem d1_9 : decode method_3_code 9 = .ok (.laload, 1) := by decide +kernel
theorem d1_10 : decode method_3_code 10 = .ok (.ldiv, 1) := by decide +kernel
theorem d1_11 : decode method_3_code 11 = .ok (.ldc2_w 7, 3) := by decide +kernel
theorem d1_14 : decode method_3_code 14 = .ok (.lrem, 1) := by decide +kernel
theorem d1_15 : decode method_3_code 15 = .ok (.ladd, 1) := by decide +kernel
theorem d1_16 : decode method_3_code 16 = .ok (.l2i, 1) := by decide +kernel
theorem d1_17 : decode method_3_code 17 = .ok (.i2b, 1) := by decide +kernel
theorem d1_18 : decode method_3_code 18 = .ok (.ireturn, 1) := by decide +kernel
theorem pn_com_example_clearwright_clearwright_io_NumberTextWholeNumberPinLaw : plainName "com/example/clearwright/clearwright/io/NumberTextWholeNumberPinLaw" = true := by first | (simp [plainName, overriddenIn]; done) | decide +kernel
theorem ef1 (m : MethodId) (y0 : Int64) (y1 : Addr) (y2 : Int32) : entryFrame m #[(.long y0), (.ref y1), (.int y2)] 4 = mkF m 0 #[.val (.long y0), .second, .val (.ref y1), .val (.int y2)] [] := by first | (simp [entryFrame, mkF, argsToLocals, Value.category]; done) | rfl
def Q1 (Z : State) (D : Nat) (a2 : Addr) (i : Nat) (h0 : Heap) (n0 : Nat) (v : Option Value) (h : Heap) (L : List Loc) : Prop := v = some (.int (Int32.ofNat (48 + D / 10 ^ (15 - i) % 10))) ∧ Fr n0 L ∧ h = h0
set_option maxRecDepth 65536 in
set_option maxHeartbeats 40000000 in
theorem rm1 (l : Launch) (Z : State) (a0 : Array Value) (hw : ∀ d ∈ tables_1, d.before a0 Z = true) (ws : List Jvm.Cond) (D : Nat) (a2 : Addr) (i : Nat) (h0 : Heap) (n0 : Nat) (Z0 : n0 ≤ h0.size) (V2 : LA Z h0 a2 .long 17 (fun j => .long (Int64.ofNat (10 ^ j)))) (hD : D < 10 ^ 16) (hi : i < 16) :
    MetFree l (⟨"com/example/clearwright/clearwright/io/NumberTextWholeNumberPinLaw", "digit", "(J[JI)B"⟩ : MethodName) (head1 (Jvm.Cond.code (⟨"com/example/clearwright/clearwright/io/NumberTextWholeNumberPinLaw", "digit", "(J[JI)B"⟩ : MethodName) method_3_code 4 (some .byte) :: ws) ({ frames := 0, cells := 0, slots := 0, locals := 0 } : Room)) (fun a U => a = #[(.long (Int64.ofNat D)), (.ref a2), (.int (Int32.ofNat i))] ∧ Z.Warmed39 U.vm ∧ U.heap = h0) (fun _ _ _ _ _ => True) (fun _ U o U' => ∃ v L, o = .returned v ∧ Q1 Z D a2 i h0 n0 v U'.heap L ∧ FrameEnd U o U' L ({ frames := 0, cells := 0, slots := 0, locals := 0 } : Room).cells ({ frames := 0, cells := 0, slots := 0, locals := 0 } : Room).slots) := by
  refine MetFree.of_bodySF (plainFor_of_name pn_com_example_clearwright_clearwright_io_NumberTextWholeNumberPinLaw) hisR ?_
  intro p e s m args below meth c s₁ Bd hml0 hP hK
  obtain ⟨rfl, hZ, hh⟩ := hP
  have hx := Bd.exec
  have hby := Bd.bytes
  have hml : c.maxLocals = 4 := hml0
  have hown : s.vm.findClass "com/example/clearwright/clearwright/io/NumberTextWholeNumberPinLaw" = some m.cls := findClass_of_methodNamed Bd.named
  have hnm := (name_of_methodNamed Bd.named Bd.method).1
  have X0 : Stand p l e ({ frames := 0, cells := 0, slots := 0, locals := 0 } : Room) s m #[(.long (Int64.ofNat D)), (.ref a2), (.int (Int32.ofNat i))] below meth c s₁ [] 0 0 := Stand.of_body Bd
  have eh0 : s₁.heap = h0 := by rw [← hh, Bd.state]; rfl
  have N0 := Fr.nil n0
  refine Gq.start (Q := Q1 Z D a2 i h0 n0) (kc := ({ frames := 0, cells := 0, slots := 0, locals := 0 } : Room).cells) (ks := ({ frames := 0, cells := 0, slots := 0, locals := 0 } : Room).slots) (ef1 m (Int64.ofNat D) a2 (Int32.ofNat i)) ?_
  have hp := own_pow (15 - i) (by omega)
  have hq : D / 10 ^ (15 - i) ≤ D := Nat.div_le_self _ _
  have hD' : D < 10000000000000000 := hD
  refine Gq.go (s₁.setTop (mkF m 3 #[.val (.long (Int64.ofNat D)), .second, .val (.ref a2), .val (.int (Int32.ofNat i))] [(.long (48 : Int64))])) (fun tt_ kk_ => X0.ldc2Long hx hown (mvT hZ (hw _ (List.mem_of_getElem? (i := 23) rfl))) (g := (mkF m 0 #[.val (.long (Int64.ofNat D)), .second, .val (.ref a2), .val (.int (Int32.ofNat i))] [])) rfl (hb hby d1_0) _ kk_) ?_
  refine Gq.go (s₁.setTop (mkF m 4 #[.val (.long (Int64.ofNat D)), .second, .val (.ref a2), .val (.int (Int32.ofNat i))] [(.long (Int64.ofNat D)), (.long (48 : Int64))])) (fun tt_ kk_ => XS.lloadN X0.here hx rfl (hb hby d1_3) rfl kk_) ?_
  refine Gq.go (s₁.setTop (mkF m 5 #[.val (.long (Int64.ofNat D)), .second, .val (.ref a2), .val (.int (Int32.ofNat i))] [(.ref a2), (.long (Int64.ofNat D)), (.long (48 : Int64))])) (fun tt_ kk_ => XS.aloadN X0.here hx rfl (hb hby d1_4) rfl rfl kk_) ?_
  refine Gq.go (s₁.setTop (mkF m 7 #[.val (.long (Int64.ofNat D)), .second, .val (.ref a2), .val (.int (Int32.ofNat i))] [(.int (15 : Int32)), (.ref a2), (.long (Int64.ofNat D)), (.long (48 : Int64))])) (fun tt_ kk_ => XS.bipush X0.here hx rfl (hb hby d1_5) kk_) ?_
  refine Gq.go (s₁.setTop (mkF m 8 #[.val (.long (Int64.ofNat D)), .second, .val (.ref a2), .val (.int (Int32.ofNat i))] [(.int (Int32.ofNat i)), (.int (15 : Int32)), (.ref a2), (.long (Int64.ofNat D)), (.long (48 : Int64))])) (fun tt_ kk_ => XS.iloadN X0.here hx rfl (hb hby d1_7) rfl kk_) ?_
  refine Gq.go (s₁.setTop (mkF m 9 #[.val (.long (Int64.ofNat D)), .second, .val (.ref a2), .val (.int (Int32.ofNat i))] [(.int ((15 : Int32) - (Int32.ofNat i))), (.ref a2), (.long (Int64.ofNat D)), (.long (48 : Int64))])) (fun tt_ kk_ => XS.isub X0.here hx rfl (hb hby d1_8) rfl kk_) ?_
  rw [show ((15 : Int32) - (Int32.ofNat i)) = (Int32.ofNat (15 - i)) from own_sub (a := 15) (by omega)]
  refine Gq.go (s₁.setTop (mkF m 10 #[.val (.long (Int64.ofNat D)), .second, .val (.ref a2), .val (.int (Int32.ofNat i))] [(.long (Int64.ofNat (10 ^ (15 - i)))), (.long (Int64.ofNat D)), (.long (48 : Int64))])) (fun tt_ kk_ => ldJ X0 hx hZ eh0 V2 (j := (Int32.ofNat (15 - i))) (i := (15 - i)) (x := (Int64.ofNat (10 ^ (15 - i)))) (own_nn (by omega)) (own_nc (by omega)) (by omega) rfl (hb hby d1_9) tt_ kk_) ?_
  refine Gq.go (s₁.setTop (mkF m 11 #[.val (.long (Int64.ofNat D)), .second, .val (.ref a2), .val (.int (Int32.ofNat i))] [(.long ((Int64.ofNat D) / (Int64.ofNat (10 ^ (15 - i))))), (.long (48 : Int64))])) (fun tt_ kk_ => XS.ldiv X0.here hx rfl (hb hby d1_10) rfl (own_ne0 hp.1 hp.2) kk_) ?_
  rw [show ((Int64.ofNat D) / (Int64.ofNat (10 ^ (15 - i)))) = (Int64.ofNat (D / 10 ^ (15 - i))) from o64_div (by omega) (by omega)]
  refine Gq.go (s₁.setTop (mkF m 14 #[.val (.long (Int64.ofNat D)), .second, .val (.ref a2), .val (.int (Int32.ofNat i))] [(.long (10 : Int64)), (.long (Int64.ofNat (D / 10 ^ (15 - i)))), (.long (48 : Int64))])) (fun tt_ kk_ => X0.ldc2Long hx hown (mvT hZ (hw _ (List.mem_of_getElem? (i := 1) rfl))) (g := (mkF m 11 #[.val (.long (Int64.ofNat D)), .second, .val (.ref a2), .val (.int (Int32.ofNat i))] [(.long (Int64.ofNat (D / 10 ^ (15 - i)))), (.long (48 : Int64))])) rfl (hb hby d1_11) _ kk_) ?_
  refine Gq.go (s₁.setTop (mkF m 15 #[.val (.long (Int64.ofNat D)), .second, .val (.ref a2), .val (.int (Int32.ofNat i))] [(.long ((Int64.ofNat (D / 10 ^ (15 - i))) % (10 : Int64))), (.long (48 : Int64))])) (fun tt_ kk_ => lremM X0.here hx rfl (hb hby d1_14) rfl (by decide) kk_) ?_
  rw [show ((Int64.ofNat (D / 10 ^ (15 - i))) % (10 : Int64)) = (Int64.ofNat (D / 10 ^ (15 - i) % 10)) from o64_rem (d := 10) (by omega) (by decide)]
  refine Gq.go (s₁.setTop (mkF m 16 #[.val (.long (Int64.ofNat D)), .second, .val (.ref a2), .val (.int (Int32.ofNat i))] [(.long ((48 : Int64) + (Int64.ofNat (D / 10 ^ (15 - i) % 10))))])) (fun tt_ kk_ => XS.ladd X0.here hx rfl (hb hby d1_15) rfl kk_) ?_
  rw [show ((48 : Int64) + (Int64.ofNat (D / 10 ^ (15 - i) % 10))) = (Int64.ofNat (48 + D / 10 ^ (15 - i) % 10)) from o64_add 48 _]
  refine Gq.go (s₁.setTop (mkF m 17 #[.val (.long (Int64.ofNat D)), .second, .val (.ref a2), .val (.int (Int32.ofNat i))] [(.int ((Int64.ofNat (48 + D / 10 ^ (15 - i) % 10)).toInt32))])) (fun tt_ kk_ => XS.l2i X0.here hx rfl (hb hby d1_16) rfl kk_) ?_
  rw [show ((Int64.ofNat (48 + D / 10 ^ (15 - i) % 10)).toInt32) = (Int32.ofNat (48 + D / 10 ^ (15 - i) % 10)) from o64_toInt32 _]
  refine Gq.go (s₁.setTop (mkF m 18 #[.val (.long (Int64.ofNat D)), .second, .val (.ref a2), .val (.int (Int32.ofNat i))] [(.int ((Int32.ofNat (48 + D / 10 ^ (15 - i) % 10)).toInt8.toInt32))])) (fun tt_ kk_ => XS.i2b X0.here hx rfl (hb hby d1_17) rfl kk_) ?_
  rw [show ((Int32.ofNat (48 + D / 10 ^ (15 - i) % 10)).toInt8.toInt32) = (Int32.ofNat (48 + D / 10 ^ (15 - i) % 10)) from own_i8 (by omega)]
  refine Gq.retI X0 hx Bd.notSynchronized Bd.returns (by simp) (hb hby d1_18) (congrArg Value.int (own_i8 (by omega))) (by decide) (by decide) ?_
  show Q1 Z D a2 i h0 n0 _ s₁.heap _
  rw [eh0]
  exact ⟨rfl, N0, rfl⟩
theorem d5_0 : decode method_5_code 0 = .ok (.lload 4, 2) := by decide +kernel
theorem d5_2 : decode method_5_code 2 = .ok (.lconst 0, 1) := by decide +kernel
theorem d5_3 : decode method_5_code 3 = .ok (.lcmp, 1) := by decide +kernel
theorem d5_4 : decode method_5_code 4 = .ok (.ifCond .lt 13, 3) := by decide +kernel
theorem d5_7 : decode method_5_code 7 = .ok (.iload_n 1, 1) := by decide +kernel
theorem d5_8 : decode method_5_code 8 = .ok (.iload_n 2, 1) := by decide +kernel
theorem d5_9 : decode method_5_code 9 = .ok (.if_icmp .lt 8, 3) := by decide +kernel
theorem d5_12 : decode method_5_code 12 = .ok (.iload_n 1, 1) := by decide +kernel
theorem d5_13 : decode method_5_code 13 = .ok (.iload_n 3, 1) := by decide +kernel
theorem d5_14 : decode method_5_code 14 = .ok (.if_icmp .lt 6, 3) := by decide +kernel
theorem d5_17 : decode method_5_code 17 = .ok (.lload 4, 2) := by decide +kernel
theorem d5_19 : decode method_5_code 19 = .ok (.lreturn, 1) := by decide +kernel
theorem d5_20 : decode method_5_code 20 = .ok (.aload_n 0, 1) := by decide +kernel
theorem d5_21 : decode method_5_code 21 = .ok (.iload_n 1, 1) := by decide +kernel
theorem d5_22 : decode method_5_code 22 = .ok (.baload, 1) := by decide +kernel
theorem d5_23 : decode method_5_code 23 = .ok (.istore 6, 2) := by decide +kernel
theorem d5_25 : decode method_5_code 25 = .ok (.iload 6, 2) := by decide +kernel
theorem d5_27 : decode method_5_code 27 = .ok (.bipush 48, 2) := by decide +kernel
theorem d5_29 : decode method_5_code 29 = .ok (.if_icmp .lt 10, 3) := by decide +kernel
theorem d5_32 : decode method_5_code 32 = .ok (.iload 6, 2) := by decide +kernel
theorem d5_34 : decode method_5_code 34 = .ok (.bipush 57, 2) := by decide +kernel
theorem d5_36 : decode method_5_code 36 = .ok (.if_icmp .le 7, 3) := by decide +kernel
theorem d5_39 : decode method_5_code 39 = .ok (.ldc2_w 71, 3) := by decide +kernel
theorem d5_42 : decode method_5_code 42 = .ok (.lreturn, 1) := by decide +kernel
theorem d5_43 : decode method_5_code 43 = .ok (.ldc2_w 7, 3) := by decide +kernel
theorem d5_46 : decode method_5_code 46 = .ok (.lload 4, 2) := by decide +kernel
theorem d5_48 : decode method_5_code 48 = .ok (.lmul, 1) := by decide +kernel
theorem d5_49 : decode method_5_code 49 = .ok (.iload 6, 2) := by decide +kernel
theorem d5_51 : decode method_5_code 51 = .ok (.bipush 48, 2) := by decide +kernel
theorem d5_53 : decode method_5_code 53 = .ok (.isub, 1) := by decide +kernel
theorem d5_54 : decode method_5_code 54 = .ok (.i2l, 1) := by decide +kernel
theorem d5_55 : decode method_5_code 55 = .ok (.ladd, 1) := by decide +kernel
theorem d5_56 : decode method_5_code 56 = .ok (.lreturn, 1) := by decide +kernel
theorem ef5 (m : MethodId) (y0 : Addr) (y1 : Int32) (y2 : Int32) (y3 : Int32) (y4 : Int64) : entryFrame m #[(.ref y0), (.int y1), (.int y2), (.int y3), (.long y4)] 7 = mkF m 0 #[.val (.ref y0), .val (.int y1), .val (.int y2), .val (.int y3), .val (.long y4), .second, .unset] [] := by first | (simp [entryFrame, mkF, argsToLocals, Value.category]; done) | rfl
def Q5 (Z : State) (a1 : Addr) (g : Nat → Int32) (k : Nat) (s0 : Nat) (e0 : Nat) (oo : Option Nat) (h0 : Heap) (n0 : Nat) (v : Option Value) (h : Heap) (L : List Loc) : Prop := v = some (.long (own_enc (own_st g k s0 e0 oo))) ∧ Fr n0 L ∧ h = h0
set_option maxRecDepth 65536 in
set_option maxHeartbeats 40000000 in
theorem rm5 (l : Launch) (Z : State) (a0 : Array Value) (hw : ∀ d ∈ tables_1, d.before a0 Z = true) (ws : List Jvm.Cond) (a1 : Addr) (g : Nat → Int32) (k : Nat) (s0 : Nat) (e0 : Nat) (oo : Option Nat) (h0 : Heap) (n0 : Nat) (Z0 : n0 ≤ h0.size) (V1 : LA Z h0 a1 .byte 20 (fun i => .int (g i))) (hbyt : ∀ i, i < 20 → -128 ≤ (g i).toInt ∧ (g i).toInt ≤ 127) (hk : k < 20) (hs : s0 ≤ 20) (he : e0 ≤ 20) (ho : ∀ V, oo = some V → V < 2 ^ 63) :
    MetFree l (⟨"com/example/clearwright/clearwright/io/NumberTextWholeNumberPinLaw", "step", "([BIIIJ)J"⟩ : MethodName) (head1 (Jvm.Cond.code (⟨"com/example/clearwright/clearwright/io/NumberTextWholeNumberPinLaw", "step", "([BIIIJ)J"⟩ : MethodName) method_5_code 7 (some .long) :: ws) ({ frames := 0, cells := 0, slots := 0, locals := 0 } : Room)) (fun a U => a = #[(.ref a1), (.int (Int32.ofNat k)), (.int (Int32.ofNat s0)), (.int (Int32.ofNat e0)), (.long (own_enc oo))] ∧ Z.Warmed39 U.vm ∧ U.heap = h0) (fun _ _ _ _ _ => True) (fun _ U o U' => ∃ v L, o = .returned v ∧ Q5 Z a1 g k s0 e0 oo h0 n0 v U'.heap L ∧ FrameEnd U o U' L ({ frames := 0, cells := 0, slots := 0, locals := 0 } : Room).cells ({ frames := 0, cells := 0, slots := 0, locals := 0 } : Room).slots) := by
  refine MetFree.of_bodySF (plainFor_of_name pn_com_example_clearwright_clearwright_io_NumberTextWholeNumberPinLaw) hisR ?_
  intro p e s m args below meth c s₁ Bd hml0 hP hK
  obtain ⟨rfl, hZ, hh⟩ := hP
  have hx := Bd.exec
  have hby := Bd.bytes
  have hml : c.maxLocals = 7 := hml0
  have hown : s.vm.findClass "com/example/clearwright/clearwright/io/NumberTextWholeNumberPinLaw" = some m.cls := findClass_of_methodNamed Bd.named
  have hnm := (name_of_methodNamed Bd.named Bd.method).1
  have X0 : Stand p l e ({ frames := 0, cells := 0, slots := 0, locals := 0 } : Room) s m #[(.ref a1), (.int (Int32.ofNat k)), (.int (Int32.ofNat s0)), (.int (Int32.ofNat e0)), (.long (own_enc oo))] below meth c s₁ [] 0 0 := Stand.of_body Bd
  have eh0 : s₁.heap = h0 := by rw [← hh, Bd.state]; rfl
  have N0 := Fr.nil n0
  refine Gq.start (Q := Q5 Z a1 g k s0 e0 oo h0 n0) (kc := ({ frames := 0, cells := 0, slots := 0, locals := 0 } : Room).cells) (ks := ({ frames := 0, cells := 0, slots := 0, locals := 0 } : Room).slots) (ef5 m a1 (Int32.ofNat k) (Int32.ofNat s0) (Int32.ofNat e0) (own_enc oo)) ?_
  refine Gq.go (s₁.setTop (mkF m 2 #[.val (.ref a1), .val (.int (Int32.ofNat k)), .val (.int (Int32.ofNat s0)), .val (.int (Int32.ofNat e0)), .val (.long (own_enc oo)), .second, .unset] [(.long (own_enc oo))])) (fun tt_ kk_ => XS.lload X0.here hx rfl (hb hby d5_0) rfl kk_) ?_
  refine Gq.go (s₁.setTop (mkF m 3 #[.val (.ref a1), .val (.int (Int32.ofNat k)), .val (.int (Int32.ofNat s0)), .val (.int (Int32.ofNat e0)), .val (.long (own_enc oo)), .second, .unset] [(.long (0 : Int64)), (.long (own_enc oo))])) (fun tt_ kk_ => XS.lconst X0.here hx rfl (hb hby d5_2) kk_) ?_
  refine Gq.go (s₁.setTop (mkF m 4 #[.val (.ref a1), .val (.int (Int32.ofNat k)), .val (.int (Int32.ofNat s0)), .val (.int (Int32.ofNat e0)), .val (.long (own_enc oo)), .second, .unset] [(.int (lcmpW (own_enc oo) (0 : Int64)))])) (fun tt_ kk_ => XS.lcmp X0.here hx rfl (hb hby d5_3) rfl kk_) ?_
  cases oo with
  | none =>
    refine Gq.go (s₁.setTop (mkF m 17 #[.val (.ref a1), .val (.int (Int32.ofNat k)), .val (.int (Int32.ofNat s0)), .val (.int (Int32.ofNat e0)), .val (.long (own_enc none)), .second, .unset] [])) (fun tt_ kk_ => XS.ifYes X0.here hx rfl (pc0 := 4) (pc' := 17) rfl (hb hby d5_4) rfl ((if0 _ _).trans (tlt (by decide : lcmpW (own_enc none) (0 : Int64) < 0)).1) (by decide) (by decide) kk_) ?_
    refine Gq.go (s₁.setTop (mkF m 19 #[.val (.ref a1), .val (.int (Int32.ofNat k)), .val (.int (Int32.ofNat s0)), .val (.int (Int32.ofNat e0)), .val (.long (own_enc none)), .second, .unset] [(.long (own_enc none))])) (fun tt_ kk_ => XS.lload X0.here hx rfl (hb hby d5_17) rfl kk_) ?_
    refine Gq.retL X0 hx Bd.notSynchronized Bd.returns (hb hby d5_19) (by decide) (by decide) ?_
    show Q5 Z a1 g k s0 e0 none h0 n0 _ s₁.heap _
    rw [eh0]
    exact ⟨by rw [own_st_none], N0, rfl⟩
  | some V =>
    have hV := ho V rfl
    show Gq p.tables e below s (Q5 Z a1 g k s0 e0 (some V) h0 n0) ({ frames := 0, cells := 0, slots := 0, locals := 0 } : Room).cells ({ frames := 0, cells := 0, slots := 0, locals := 0 } : Room).slots (s₁.setTop (mkF m 4 #[.val (.ref a1), .val (.int (Int32.ofNat k)), .val (.int (Int32.ofNat s0)), .val (.int (Int32.ofNat e0)), .val (.long (Int64.ofNat V)), .second, .unset] [(.int (lcmpW (Int64.ofNat V) (0 : Int64)))]))
    refine Gq.go (s₁.setTop (mkF m 7 #[.val (.ref a1), .val (.int (Int32.ofNat k)), .val (.int (Int32.ofNat s0)), .val (.int (Int32.ofNat e0)), .val (.long (Int64.ofNat V)), .second, .unset] [])) (fun tt_ kk_ => XS.ifNo X0.here hx rfl (hb hby d5_4) rfl ((if0 _ _).trans (flt (o64_ge0 hV)).1) kk_) ?_
    refine Gq.go (s₁.setTop (mkF m 8 #[.val (.ref a1), .val (.int (Int32.ofNat k)), .val (.int (Int32.ofNat s0)), .val (.int (Int32.ofNat e0)), .val (.long (Int64.ofNat V)), .second, .unset] [(.int (Int32.ofNat k))])) (fun tt_ kk_ => XS.iloadN X0.here hx rfl (hb hby d5_7) rfl kk_) ?_
    refine Gq.go (s₁.setTop (mkF m 9 #[.val (.ref a1), .val (.int (Int32.ofNat k)), .val (.int (Int32.ofNat s0)), .val (.int (Int32.ofNat e0)), .val (.long (Int64.ofNat V)), .second, .unset] [(.int (Int32.ofNat s0)), (.int (Int32.ofNat k))])) (fun tt_ kk_ => XS.iloadN X0.here hx rfl (hb hby d5_8) rfl kk_) ?_
    by_cases hks : k < s0
    · refine Gq.go (s₁.setTop (mkF m 17 #[.val (.ref a1), .val (.int (Int32.ofNat k)), .val (.int (Int32.ofNat s0)), .val (.int (Int32.ofNat e0)), .val (.long (Int64.ofNat V)), .second, .unset] [])) (fun tt_ kk_ => XS.icmpYes X0.here hx rfl (pc0 := 9) (pc' := 17) rfl (hb hby d5_9) rfl (tlt ((own_lt (by omega) (by omega)).mpr hks)).1 (by decide) (by decide) kk_) ?_
      refine Gq.go (s₁.setTop (mkF m 19 #[.val (.ref a1), .val (.int (Int32.ofNat k)), .val (.int (Int32.ofNat s0)), .val (.int (Int32.ofNat e0)), .val (.long (Int64.ofNat V)), .second, .unset] [(.long (Int64.ofNat V))])) (fun tt_ kk_ => XS.lload X0.here hx rfl (hb hby d5_17) rfl kk_) ?_
      refine Gq.retL X0 hx Bd.notSynchronized Bd.returns (hb hby d5_19) (by decide) (by decide) ?_
      show Q5 Z a1 g k s0 e0 (some V) h0 n0 _ s₁.heap _
      rw [eh0]
      exact ⟨by unfold own_st; rw [if_pos hks]; rfl, N0, rfl⟩
    · refine Gq.go (s₁.setTop (mkF m 12 #[.val (.ref a1), .val (.int (Int32.ofNat k)), .val (.int (Int32.ofNat s0)), .val (.int (Int32.ofNat e0)), .val (.long (Int64.ofNat V)), .second, .unset] [])) (fun tt_ kk_ => XS.icmpNo X0.here hx rfl (hb hby d5_9) rfl (flt (fun q => hks ((own_lt (by omega) (by omega)).mp q))).1 kk_) ?_
      refine Gq.go (s₁.setTop (mkF m 13 #[.val (.ref a1), .val (.int (Int32.ofNat k)), .val (.int (Int32.ofNat s0)), .val (.int (Int32.ofNat e0)), .val (.long (Int64.ofNat V)), .second, .unset] [(.int (Int32.ofNat k))])) (fun tt_ kk_ => XS.iloadN X0.here hx rfl (hb hby d5_12) rfl kk_) ?_
      refine Gq.go (s₁.setTop (mkF m 14 #[.val (.ref a1), .val (.int (Int32.ofNat k)), .val (.int (Int32.ofNat s0)), .val (.int (Int32.ofNat e0)), .val (.long (Int64.ofNat V)), .second, .unset] [(.int (Int32.ofNat e0)), (.int (Int32.ofNat k))])) (fun tt_ kk_ => XS.iloadN X0.here hx rfl (hb hby d5_13) rfl kk_) ?_
      by_cases hke : k < e0
      · refine Gq.go (s₁.setTop (mkF m 20 #[.val (.ref a1), .val (.int (Int32.ofNat k)), .val (.int (Int32.ofNat s0)), .val (.int (Int32.ofNat e0)), .val (.long (Int64.ofNat V)), .second, .unset] [])) (fun tt_ kk_ => XS.icmpYes X0.here hx rfl (pc0 := 14) (pc' := 20) rfl (hb hby d5_14) rfl (tlt ((own_lt (by omega) (by omega)).mpr hke)).1 (by decide) (by decide) kk_) ?_
        refine Gq.go (s₁.setTop (mkF m 21 #[.val (.ref a1), .val (.int (Int32.ofNat k)), .val (.int (Int32.ofNat s0)), .val (.int (Int32.ofNat e0)), .val (.long (Int64.ofNat V)), .second, .unset] [(.ref a1)])) (fun tt_ kk_ => XS.aloadN X0.here hx rfl (hb hby d5_20) rfl rfl kk_) ?_
        refine Gq.go (s₁.setTop (mkF m 22 #[.val (.ref a1), .val (.int (Int32.ofNat k)), .val (.int (Int32.ofNat s0)), .val (.int (Int32.ofNat e0)), .val (.long (Int64.ofNat V)), .second, .unset] [(.int (Int32.ofNat k)), (.ref a1)])) (fun tt_ kk_ => XS.iloadN X0.here hx rfl (hb hby d5_21) rfl kk_) ?_
        refine Gq.go (s₁.setTop (mkF m 23 #[.val (.ref a1), .val (.int (Int32.ofNat k)), .val (.int (Int32.ofNat s0)), .val (.int (Int32.ofNat e0)), .val (.long (Int64.ofNat V)), .second, .unset] [(.int (g k))])) (fun tt_ kk_ => ldB X0 hx hZ eh0 V1 (j := (Int32.ofNat k)) (i := k) (x := (g k)) (own_nn (by omega)) (own_nc (by omega)) hk rfl (hb hby d5_22) tt_ kk_) ?_
        refine Gq.go (s₁.setTop (mkF m 25 #[.val (.ref a1), .val (.int (Int32.ofNat k)), .val (.int (Int32.ofNat s0)), .val (.int (Int32.ofNat e0)), .val (.long (Int64.ofNat V)), .second, .val (.int (g k))] [])) (fun tt_ kk_ => XS.istore X0.here hx rfl (hb hby d5_23) rfl (l' := #[.val (.ref a1), .val (.int (Int32.ofNat k)), .val (.int (Int32.ofNat s0)), .val (.int (Int32.ofNat e0)), .val (.long (Int64.ofNat V)), .second, .val (.int (g k))]) rfl kk_) ?_
        refine Gq.go (s₁.setTop (mkF m 27 #[.val (.ref a1), .val (.int (Int32.ofNat k)), .val (.int (Int32.ofNat s0)), .val (.int (Int32.ofNat e0)), .val (.long (Int64.ofNat V)), .second, .val (.int (g k))] [(.int (g k))])) (fun tt_ kk_ => XS.iload X0.here hx rfl (hb hby d5_25) rfl kk_) ?_
        refine Gq.go (s₁.setTop (mkF m 29 #[.val (.ref a1), .val (.int (Int32.ofNat k)), .val (.int (Int32.ofNat s0)), .val (.int (Int32.ofNat e0)), .val (.long (Int64.ofNat V)), .second, .val (.int (g k))] [(.int (48 : Int32)), (.int (g k))])) (fun tt_ kk_ => XS.bipush X0.here hx rfl (hb hby d5_27) kk_) ?_
        by_cases hd1 : (g k) < (48 : Int32)
        · refine Gq.go (s₁.setTop (mkF m 39 #[.val (.ref a1), .val (.int (Int32.ofNat k)), .val (.int (Int32.ofNat s0)), .val (.int (Int32.ofNat e0)), .val (.long (Int64.ofNat V)), .second, .val (.int (g k))] [])) (fun tt_ kk_ => XS.icmpYes X0.here hx rfl (pc0 := 29) (pc' := 39) rfl (hb hby d5_29) rfl (tlt hd1).1 (by decide) (by decide) kk_) ?_
          refine Gq.go (s₁.setTop (mkF m 42 #[.val (.ref a1), .val (.int (Int32.ofNat k)), .val (.int (Int32.ofNat s0)), .val (.int (Int32.ofNat e0)), .val (.long (Int64.ofNat V)), .second, .val (.int (g k))] [(.long (-1 : Int64))])) (fun tt_ kk_ => X0.ldc2Long hx hown (mvT hZ (hw _ (List.mem_of_getElem? (i := 43) rfl))) (g := (mkF m 39 #[.val (.ref a1), .val (.int (Int32.ofNat k)), .val (.int (Int32.ofNat s0)), .val (.int (Int32.ofNat e0)), .val (.long (Int64.ofNat V)), .second, .val (.int (g k))] [])) rfl (hb hby d5_39) _ kk_) ?_
          refine Gq.retL X0 hx Bd.notSynchronized Bd.returns (hb hby d5_42) (by decide) (by decide) ?_
          show Q5 Z a1 g k s0 e0 (some V) h0 n0 _ s₁.heap _
          rw [eh0]
          exact ⟨by unfold own_st; rw [if_neg hks, if_neg (by omega)]; show _ = some (Value.long (own_enc (match own_dg (g k) with | none => none | some d => some (10 * V + d)))); unfold own_dg; rw [if_pos hd1]; rfl, N0, rfl⟩
        · refine Gq.go (s₁.setTop (mkF m 32 #[.val (.ref a1), .val (.int (Int32.ofNat k)), .val (.int (Int32.ofNat s0)), .val (.int (Int32.ofNat e0)), .val (.long (Int64.ofNat V)), .second, .val (.int (g k))] [])) (fun tt_ kk_ => XS.icmpNo X0.here hx rfl (hb hby d5_29) rfl (flt hd1).1 kk_) ?_
          refine Gq.go (s₁.setTop (mkF m 34 #[.val (.ref a1), .val (.int (Int32.ofNat k)), .val (.int (Int32.ofNat s0)), .val (.int (Int32.ofNat e0)), .val (.long (Int64.ofNat V)), .second, .val (.int (g k))] [(.int (g k))])) (fun tt_ kk_ => XS.iload X0.here hx rfl (hb hby d5_32) rfl kk_) ?_
          refine Gq.go (s₁.setTop (mkF m 36 #[.val (.ref a1), .val (.int (Int32.ofNat k)), .val (.int (Int32.ofNat s0)), .val (.int (Int32.ofNat e0)), .val (.long (Int64.ofNat V)), .second, .val (.int (g k))] [(.int (57 : Int32)), (.int (g k))])) (fun tt_ kk_ => XS.bipush X0.here hx rfl (hb hby d5_34) kk_) ?_
          by_cases hd2 : (57 : Int32) < (g k)
          · refine Gq.go (s₁.setTop (mkF m 39 #[.val (.ref a1), .val (.int (Int32.ofNat k)), .val (.int (Int32.ofNat s0)), .val (.int (Int32.ofNat e0)), .val (.long (Int64.ofNat V)), .second, .val (.int (g k))] [])) (fun tt_ kk_ => XS.icmpNo X0.here hx rfl (hb hby d5_36) rfl (tlt hd2).2.2.2 kk_) ?_
            refine Gq.go (s₁.setTop (mkF m 42 #[.val (.ref a1), .val (.int (Int32.ofNat k)), .val (.int (Int32.ofNat s0)), .val (.int (Int32.ofNat e0)), .val (.long (Int64.ofNat V)), .second, .val (.int (g k))] [(.long (-1 : Int64))])) (fun tt_ kk_ => X0.ldc2Long hx hown (mvT hZ (hw _ (List.mem_of_getElem? (i := 43) rfl))) (g := (mkF m 39 #[.val (.ref a1), .val (.int (Int32.ofNat k)), .val (.int (Int32.ofNat s0)), .val (.int (Int32.ofNat e0)), .val (.long (Int64.ofNat V)), .second, .val (.int (g k))] [])) rfl (hb hby d5_39) _ kk_) ?_
            refine Gq.retL X0 hx Bd.notSynchronized Bd.returns (hb hby d5_42) (by decide) (by decide) ?_
            show Q5 Z a1 g k s0 e0 (some V) h0 n0 _ s₁.heap _
            rw [eh0]
            exact ⟨by unfold own_st; rw [if_neg hks, if_neg (by omega)]; show _ = some (Value.long (own_enc (match own_dg (g k) with | none => none | some d => some (10 * V + d)))); unfold own_dg; rw [if_neg hd1, if_pos hd2]; rfl, N0, rfl⟩
          · refine Gq.go (s₁.setTop (mkF m 43 #[.val (.ref a1), .val (.int (Int32.ofNat k)), .val (.int (Int32.ofNat s0)), .val (.int (Int32.ofNat e0)), .val (.long (Int64.ofNat V)), .second, .val (.int (g k))] [])) (fun tt_ kk_ => XS.icmpYes X0.here hx rfl (pc0 := 36) (pc' := 43) rfl (hb hby d5_36) rfl (flt hd2).2.2.2 (by decide) (by decide) kk_) ?_
            refine Gq.go (s₁.setTop (mkF m 46 #[.val (.ref a1), .val (.int (Int32.ofNat k)), .val (.int (Int32.ofNat s0)), .val (.int (Int32.ofNat e0)), .val (.long (Int64.ofNat V)), .second, .val (.int (g k))] [(.long (10 : Int64))])) (fun tt_ kk_ => X0.ldc2Long hx hown (mvT hZ (hw _ (List.mem_of_getElem? (i := 1) rfl))) (g := (mkF m 43 #[.val (.ref a1), .val (.int (Int32.ofNat k)), .val (.int (Int32.ofNat s0)), .val (.int (Int32.ofNat e0)), .val (.long (Int64.ofNat V)), .second, .val (.int (g k))] [])) rfl (hb hby d5_43) _ kk_) ?_
            refine Gq.go (s₁.setTop (mkF m 48 #[.val (.ref a1), .val (.int (Int32.ofNat k)), .val (.int (Int32.ofNat s0)), .val (.int (Int32.ofNat e0)), .val (.long (Int64.ofNat V)), .second, .val (.int (g k))] [(.long (Int64.ofNat V)), (.long (10 : Int64))])) (fun tt_ kk_ => XS.lload X0.here hx rfl (hb hby d5_46) rfl kk_) ?_
            refine Gq.go (s₁.setTop (mkF m 49 #[.val (.ref a1), .val (.int (Int32.ofNat k)), .val (.int (Int32.ofNat s0)), .val (.int (Int32.ofNat e0)), .val (.long (Int64.ofNat V)), .second, .val (.int (g k))] [(.long ((10 : Int64) * (Int64.ofNat V)))])) (fun tt_ kk_ => XS.lmul X0.here hx rfl (hb hby d5_48) rfl kk_) ?_
            rw [show ((10 : Int64) * (Int64.ofNat V)) = (Int64.ofNat (10 * V)) from o64_mul 10 V]
            refine Gq.go (s₁.setTop (mkF m 51 #[.val (.ref a1), .val (.int (Int32.ofNat k)), .val (.int (Int32.ofNat s0)), .val (.int (Int32.ofNat e0)), .val (.long (Int64.ofNat V)), .second, .val (.int (g k))] [(.int (g k)), (.long (Int64.ofNat (10 * V)))])) (fun tt_ kk_ => XS.iload X0.here hx rfl (hb hby d5_49) rfl kk_) ?_
            refine Gq.go (s₁.setTop (mkF m 53 #[.val (.ref a1), .val (.int (Int32.ofNat k)), .val (.int (Int32.ofNat s0)), .val (.int (Int32.ofNat e0)), .val (.long (Int64.ofNat V)), .second, .val (.int (g k))] [(.int (48 : Int32)), (.int (g k)), (.long (Int64.ofNat (10 * V)))])) (fun tt_ kk_ => XS.bipush X0.here hx rfl (hb hby d5_51) kk_) ?_
            refine Gq.go (s₁.setTop (mkF m 54 #[.val (.ref a1), .val (.int (Int32.ofNat k)), .val (.int (Int32.ofNat s0)), .val (.int (Int32.ofNat e0)), .val (.long (Int64.ofNat V)), .second, .val (.int (g k))] [(.int ((g k) - (48 : Int32))), (.long (Int64.ofNat (10 * V)))])) (fun tt_ kk_ => XS.isub X0.here hx rfl (hb hby d5_53) rfl kk_) ?_
            refine Gq.go (s₁.setTop (mkF m 55 #[.val (.ref a1), .val (.int (Int32.ofNat k)), .val (.int (Int32.ofNat s0)), .val (.int (Int32.ofNat e0)), .val (.long (Int64.ofNat V)), .second, .val (.int (g k))] [(.long (((g k) - (48 : Int32)).toInt64)), (.long (Int64.ofNat (10 * V)))])) (fun tt_ kk_ => XS.i2l X0.here hx rfl (hb hby d5_54) rfl kk_) ?_
            rw [show (((g k) - (48 : Int32)).toInt64) = (Int64.ofNat ((g k).toInt.toNat - 48)) from own_dig hd1 hd2]
            refine Gq.go (s₁.setTop (mkF m 56 #[.val (.ref a1), .val (.int (Int32.ofNat k)), .val (.int (Int32.ofNat s0)), .val (.int (Int32.ofNat e0)), .val (.long (Int64.ofNat V)), .second, .val (.int (g k))] [(.long ((Int64.ofNat (10 * V)) + (Int64.ofNat ((g k).toInt.toNat - 48))))])) (fun tt_ kk_ => XS.ladd X0.here hx rfl (hb hby d5_55) rfl kk_) ?_
            rw [show ((Int64.ofNat (10 * V)) + (Int64.ofNat ((g k).toInt.toNat - 48))) = (Int64.ofNat (10 * V + ((g k).toInt.toNat - 48))) from o64_add _ _]
            refine Gq.retL X0 hx Bd.notSynchronized Bd.returns (hb hby d5_56) (by decide) (by decide) ?_
            show Q5 Z a1 g k s0 e0 (some V) h0 n0 _ s₁.heap _
            rw [eh0]
            exact ⟨by unfold own_st; rw [if_neg hks, if_neg (by omega)]; show _ = some (Value.long (own_enc (match own_dg (g k) with | none => none | some d => some (10 * V + d)))); unfold own_dg; rw [if_neg hd1, if_neg hd2]; rfl, N0, rfl⟩
      · refine Gq.go (s₁.setTop (mkF m 17 #[.val (.ref a1), .val (.int (Int32.ofNat k)), .val (.int (Int32.ofNat s0)), .val (.int (Int32.ofNat e0)), .val (.long (Int64.ofNat V)), .second, .unset] [])) (fun tt_ kk_ => XS.icmpNo X0.here hx rfl (hb hby d5_14) rfl (flt (fun q => hke ((own_lt (by omega) (by omega)).mp q))).1 kk_) ?_
        refine Gq.go (s₁.setTop (mkF m 19 #[.val (.ref a1), .val (.int (Int32.ofNat k)), .val (.int (Int32.ofNat s0)), .val (.int (Int32.ofNat e0)), .val (.long (Int64.ofNat V)), .second, .unset] [(.long (Int64.ofNat V))])) (fun tt_ kk_ => XS.lload X0.here hx rfl (hb hby d5_17) rfl kk_) ?_
        refine Gq.retL X0 hx Bd.notSynchronized Bd.returns (hb hby d5_19) (by decide) (by decide) ?_
        show Q5 Z a1 g k s0 e0 (some V) h0 n0 _ s₁.heap _
        rw [eh0]
        exact ⟨by unfold own_st; rw [if_neg hks, if_pos (by omega)]; rfl, N0, rfl⟩
theorem d6_0 : decode prog_25_method_3_code 0 = .ok (.iload_n 2, 1) := by decide +kernel
theorem d6_1 : decode prog_25_method_3_code 1 = .ok (.iload_n 1, 1) := by decide +kernel
theorem d6_2 : decode prog_25_method_3_code 2 = .ok (.if_icmp .eq 11, 3) := by decide +kernel
theorem d6_5 : decode prog_25_method_3_code 5 = .ok (.iload_n 2, 1) := by decide +kernel
theorem d6_6 : decode prog_25_method_3_code 6 = .ok (.iload_n 1, 1) := by decide +kernel
theorem d6_7 : decode prog_25_method_3_code 7 = .ok (.isub, 1) := by decide +kernel
theorem d6_8 : decode prog_25_method_3_code 8 = .ok (.bipush 18, 2) := by decide +kernel
theorem d6_10 : decode prog_25_method_3_code 10 = .ok (.if_icmp .le 7, 3) := by decide +kernel
theorem d6_13 : decode prog_25_method_3_code 13 = .ok (.ldc2_w 17, 3) := by decide +kernel
theorem d6_16 : decode prog_25_method_3_code 16 = .ok (.lreturn, 1) := by decide +kernel
theorem d6_17 : decode prog_25_method_3_code 17 = .ok (.lconst 0, 1) := by decide +kernel
theorem d6_18 : decode prog_25_method_3_code 18 = .ok (.lstore_n 3, 1) := by decide +kernel
theorem d6_19 : decode prog_25_method_3_code 19 = .ok (.iload_n 1, 1) := by decide +kernel
theorem d6_20 : decode prog_25_method_3_code 20 = .ok (.istore 5, 2) := by decide +kernel
theorem d6_22 : decode prog_25_method_3_code 22 = .ok (.iload 5, 2) := by decide +kernel
theorem d6_24 : decode prog_25_method_3_code 24 = .ok (.iload_n 2, 1) := by decide +kernel
theorem d6_25 : decode prog_25_method_3_code 25 = .ok (.if_icmp .ge 44, 3) := by decide +kernel
theorem d6_28 : decode prog_25_method_3_code 28 = .ok (.aload_n 0, 1) := by decide +kernel
theorem d6_29 : decode prog_25_method_3_code 29 = .ok (.iload 5, 2) := by decide +kernel
theorem d6_31 : decode prog_25_method_3_code 31 = .ok (.baload, 1) := by decide +kernel
theorem d6_32 : decode prog_25_method_3_code 32 = .ok (.bipush 48, 2) := by decide +kernel
theorem d6_34 : decode prog_25_method_3_code 34 = .ok (.isub, 1) := by decide +kernel
theorem d6_35 : decode prog_25_method_3_code 35 = .ok (.istore 6, 2) := by decide +kernel
theorem d6_37 : decode prog_25_method_3_code 37 = .ok (.iload 6, 2) := by decide +kernel
theorem d6_39 : decode prog_25_method_3_code 39 = .ok (.ifCond .lt 10, 3) := by decide +kernel
theorem d6_42 : decode prog_25_method_3_code 42 = .ok (.iload 6, 2) := by decide +kernel
theorem d6_44 : decode prog_25_method_3_code 44 = .ok (.bipush 9, 2) := by decide +kernel
theorem d6_46 : decode prog_25_method_3_code 46 = .ok (.if_icmp .le 7, 3) := by decide +kernel
theorem d6_49 : decode prog_25_method_3_code 49 = .ok (.ldc2_w 17, 3) := by decide +kernel
theorem d6_52 : decode prog_25_method_3_code 52 = .ok (.lreturn, 1) := by decide +kernel
theorem d6_53 : decode prog_25_method_3_code 53 = .ok (.ldc2_w 19, 3) := by decide +kernel
theorem d6_56 : decode prog_25_method_3_code 56 = .ok (.lload_n 3, 1) := by decide +kernel
theorem d6_57 : decode prog_25_method_3_code 57 = .ok (.lmul, 1) := by decide +kernel
theorem d6_58 : decode prog_25_method_3_code 58 = .ok (.iload 6, 2) := by decide +kernel
theorem d6_60 : decode prog_25_method_3_code 60 = .ok (.i2l, 1) := by decide +kernel
theorem d6_61 : decode prog_25_method_3_code 61 = .ok (.ladd, 1) := by decide +kernel
theorem d6_62 : decode prog_25_method_3_code 62 = .ok (.lstore_n 3, 1) := by decide +kernel
theorem d6_63 : decode prog_25_method_3_code 63 = .ok (.iinc 5 1, 3) := by decide +kernel
theorem d6_66 : decode prog_25_method_3_code 66 = .ok (.goto (-44), 3) := by decide +kernel
theorem d6_69 : decode prog_25_method_3_code 69 = .ok (.lload_n 3, 1) := by decide +kernel
theorem d6_70 : decode prog_25_method_3_code 70 = .ok (.lreturn, 1) := by decide +kernel
theorem pn_com_example_clearwright_clearwright_io_NumberText : plainName "com/example/clearwright/clearwright/io/NumberText" = true := by first | (simp [plainName, overriddenIn]; done) | decide +kernel
theorem ef6 (m : MethodId) (y0 : Addr) (y1 : Int32) (y2 : Int32) : entryFrame m #[(.ref y0), (.int y1), (.int y2)] 7 = mkF m 0 #[.val (.ref y0), .val (.int y1), .val (.int y2), .unset, .unset, .unset, .unset] [] := by first | (simp [entryFrame, mkF, argsToLocals, Value.category]; done) | rfl
def Q6 (Z : State) (a1 : Addr) (g : Nat → Int32) (s0 : Nat) (e0 : Nat) (h0 : Heap) (n0 : Nat) (v : Option Value) (h : Heap) (L : List Loc) : Prop := v = some (.long (own_wn g s0 e0)) ∧ Fr n0 L ∧ h = h0
set_option maxRecDepth 65536 in
set_option maxHeartbeats 40000000 in
theorem rm6 (l : Launch) (Z : State) (a0 : Array Value) (hw : ∀ d ∈ tables_1, d.before a0 Z = true) (ws : List Jvm.Cond) (a1 : Addr) (g : Nat → Int32) (s0 : Nat) (e0 : Nat) (h0 : Heap) (n0 : Nat) (Z0 : n0 ≤ h0.size) (V1 : LA Z h0 a1 .byte 20 (fun i => .int (g i))) (hbyt : ∀ i, i < 20 → -128 ≤ (g i).toInt ∧ (g i).toInt ≤ 127) (hs : s0 ≤ e0) (he : e0 ≤ 20) :
    MetFree l (⟨"com/example/clearwright/clearwright/io/NumberText", "wholeNumber", "([BII)J"⟩ : MethodName) (head1 (Jvm.Cond.code (⟨"com/example/clearwright/clearwright/io/NumberText", "wholeNumber", "([BII)J"⟩ : MethodName) prog_25_method_3_code 7 (some .long) :: ws) ({ frames := 0, cells := 0, slots := 0, locals := 0 } : Room)) (fun a U => a = #[(.ref a1), (.int (Int32.ofNat s0)), (.int (Int32.ofNat e0))] ∧ Z.Warmed39 U.vm ∧ U.heap = h0) (fun _ _ _ _ _ => True) (fun _ U o U' => ∃ v L, o = .returned v ∧ Q6 Z a1 g s0 e0 h0 n0 v U'.heap L ∧ FrameEnd U o U' L ({ frames := 0, cells := 0, slots := 0, locals := 0 } : Room).cells ({ frames := 0, cells := 0, slots := 0, locals := 0 } : Room).slots) := by
  refine MetFree.of_bodySF (plainFor_of_name pn_com_example_clearwright_clearwright_io_NumberText) hisR ?_
  intro p e s m args below meth c s₁ Bd hml0 hP hK
  obtain ⟨rfl, hZ, hh⟩ := hP
  have hx := Bd.exec
  have hby := Bd.bytes
  have hml : c.maxLocals = 7 := hml0
  have hown : s.vm.findClass "com/example/clearwright/clearwright/io/NumberText" = some m.cls := findClass_of_methodNamed Bd.named
  have hnm := (name_of_methodNamed Bd.named Bd.method).1
  have X0 : Stand p l e ({ frames := 0, cells := 0, slots := 0, locals := 0 } : Room) s m #[(.ref a1), (.int (Int32.ofNat s0)), (.int (Int32.ofNat e0))] below meth c s₁ [] 0 0 := Stand.of_body Bd
  have eh0 : s₁.heap = h0 := by rw [← hh, Bd.state]; rfl
  have N0 := Fr.nil n0
  refine Gq.start (Q := Q6 Z a1 g s0 e0 h0 n0) (kc := ({ frames := 0, cells := 0, slots := 0, locals := 0 } : Room).cells) (ks := ({ frames := 0, cells := 0, slots := 0, locals := 0 } : Room).slots) (ef6 m a1 (Int32.ofNat s0) (Int32.ofNat e0)) ?_
  refine Gq.go (s₁.setTop (mkF m 1 #[.val (.ref a1), .val (.int (Int32.ofNat s0)), .val (.int (Int32.ofNat e0)), .unset, .unset, .unset, .unset] [(.int (Int32.ofNat e0))])) (fun tt_ kk_ => XS.iloadN X0.here hx rfl (hb hby d6_0) rfl kk_) ?_
  refine Gq.go (s₁.setTop (mkF m 2 #[.val (.ref a1), .val (.int (Int32.ofNat s0)), .val (.int (Int32.ofNat e0)), .unset, .unset, .unset, .unset] [(.int (Int32.ofNat s0)), (.int (Int32.ofNat e0))])) (fun tt_ kk_ => XS.iloadN X0.here hx rfl (hb hby d6_1) rfl kk_) ?_
  by_cases hse : s0 = e0
  · refine Gq.go (s₁.setTop (mkF m 13 #[.val (.ref a1), .val (.int (Int32.ofNat s0)), .val (.int (Int32.ofNat e0)), .unset, .unset, .unset, .unset] [])) (fun tt_ kk_ => XS.icmpYes X0.here hx rfl (pc0 := 2) (pc' := 13) rfl (hb hby d6_2) rfl (teq (congrArg Int32.ofNat hse.symm)).1 (by decide) (by decide) kk_) ?_
    refine Gq.go (s₁.setTop (mkF m 16 #[.val (.ref a1), .val (.int (Int32.ofNat s0)), .val (.int (Int32.ofNat e0)), .unset, .unset, .unset, .unset] [(.long (-1 : Int64))])) (fun tt_ kk_ => X0.ldc2Long hx hown (mvT hZ (hw _ (List.mem_of_getElem? (i := 44) rfl))) (g := (mkF m 13 #[.val (.ref a1), .val (.int (Int32.ofNat s0)), .val (.int (Int32.ofNat e0)), .unset, .unset, .unset, .unset] [])) rfl (hb hby d6_13) _ kk_) ?_
    refine Gq.retL X0 hx Bd.notSynchronized Bd.returns (hb hby d6_16) (by decide) (by decide) ?_
    show Q6 Z a1 g s0 e0 h0 n0 _ s₁.heap _
    rw [eh0]
    exact ⟨by unfold own_wn; rw [if_pos hse], N0, rfl⟩
  · refine Gq.go (s₁.setTop (mkF m 5 #[.val (.ref a1), .val (.int (Int32.ofNat s0)), .val (.int (Int32.ofNat e0)), .unset, .unset, .unset, .unset] [])) (fun tt_ kk_ => XS.icmpNo X0.here hx rfl (hb hby d6_2) rfl (feq (fun q => hse ((own_eqn (by omega) (by omega)).mp q).symm)).1 kk_) ?_
    refine Gq.go (s₁.setTop (mkF m 6 #[.val (.ref a1), .val (.int (Int32.ofNat s0)), .val (.int (Int32.ofNat e0)), .unset, .unset, .unset, .unset] [(.int (Int32.ofNat e0))])) (fun tt_ kk_ => XS.iloadN X0.here hx rfl (hb hby d6_5) rfl kk_) ?_
    refine Gq.go (s₁.setTop (mkF m 7 #[.val (.ref a1), .val (.int (Int32.ofNat s0)), .val (.int (Int32.ofNat e0)), .unset, .unset, .unset, .unset] [(.int (Int32.ofNat s0)), (.int (Int32.ofNat e0))])) (fun tt_ kk_ => XS.iloadN X0.here hx rfl (hb hby d6_6) rfl kk_) ?_
    refine Gq.go (s₁.setTop (mkF m 8 #[.val (.ref a1), .val (.int (Int32.ofNat s0)), .val (.int (Int32.ofNat e0)), .unset, .unset, .unset, .unset] [(.int ((Int32.ofNat e0) - (Int32.ofNat s0)))])) (fun tt_ kk_ => XS.isub X0.here hx rfl (hb hby d6_7) rfl kk_) ?_
    rw [show ((Int32.ofNat e0) - (Int32.ofNat s0)) = (Int32.ofNat (e0 - s0)) from own_sub hs]
    refine Gq.go (s₁.setTop (mkF m 10 #[.val (.ref a1), .val (.int (Int32.ofNat s0)), .val (.int (Int32.ofNat e0)), .unset, .unset, .unset, .unset] [(.int (18 : Int32)), (.int (Int32.ofNat (e0 - s0)))])) (fun tt_ kk_ => XS.bipush X0.here hx rfl (hb hby d6_8) kk_) ?_
    by_cases h18 : 18 < e0 - s0
    · refine Gq.go (s₁.setTop (mkF m 13 #[.val (.ref a1), .val (.int (Int32.ofNat s0)), .val (.int (Int32.ofNat e0)), .unset, .unset, .unset, .unset] [])) (fun tt_ kk_ => XS.icmpNo X0.here hx rfl (hb hby d6_10) rfl (tlt ((own_lt (a := 18) (by decide) (by omega)).mpr h18)).2.2.2 kk_) ?_
      refine Gq.go (s₁.setTop (mkF m 16 #[.val (.ref a1), .val (.int (Int32.ofNat s0)), .val (.int (Int32.ofNat e0)), .unset, .unset, .unset, .unset] [(.long (-1 : Int64))])) (fun tt_ kk_ => X0.ldc2Long hx hown (mvT hZ (hw _ (List.mem_of_getElem? (i := 44) rfl))) (g := (mkF m 13 #[.val (.ref a1), .val (.int (Int32.ofNat s0)), .val (.int (Int32.ofNat e0)), .unset, .unset, .unset, .unset] [])) rfl (hb hby d6_13) _ kk_) ?_
      refine Gq.retL X0 hx Bd.notSynchronized Bd.returns (hb hby d6_16) (by decide) (by decide) ?_
      show Q6 Z a1 g s0 e0 h0 n0 _ s₁.heap _
      rw [eh0]
      exact ⟨by unfold own_wn; rw [if_neg hse, if_pos h18], N0, rfl⟩
    · refine Gq.go (s₁.setTop (mkF m 17 #[.val (.ref a1), .val (.int (Int32.ofNat s0)), .val (.int (Int32.ofNat e0)), .unset, .unset, .unset, .unset] [])) (fun tt_ kk_ => XS.icmpYes X0.here hx rfl (pc0 := 10) (pc' := 17) rfl (hb hby d6_10) rfl (flt (fun q => h18 ((own_lt (a := 18) (by decide) (by omega)).mp q))).2.2.2 (by decide) (by decide) kk_) ?_
      have loop : ∀ k i V : Nat, i + k = e0 → s0 ≤ i → own_ov g s0 (i - s0) = some V → ∀ sl : Slot, (sl = .unset ∨ ∃ y : Int32, sl = .val (.int y)) → Gq p.tables e below s (Q6 Z a1 g s0 e0 h0 n0) ({ frames := 0, cells := 0, slots := 0, locals := 0 } : Room).cells ({ frames := 0, cells := 0, slots := 0, locals := 0 } : Room).slots (s₁.setTop (mkF m 22 #[.val (.ref a1), .val (.int (Int32.ofNat s0)), .val (.int (Int32.ofNat e0)), .val (.long (Int64.ofNat V)), .second, .val (.int (Int32.ofNat i)), sl] [])) := by
        intro k
        induction k with
        | zero =>
          intro i V hi hsi hV sl hsl
          have hie : e0 = i := by omega
          subst hie
          refine Gq.go (s₁.setTop (mkF m 24 #[.val (.ref a1), .val (.int (Int32.ofNat s0)), .val (.int (Int32.ofNat e0)), .val (.long (Int64.ofNat V)), .second, .val (.int (Int32.ofNat e0)), sl] [(.int (Int32.ofNat e0))])) (fun tt_ kk_ => XS.iload X0.here hx rfl (hb hby d6_22) rfl kk_) ?_
          refine Gq.go (s₁.setTop (mkF m 25 #[.val (.ref a1), .val (.int (Int32.ofNat s0)), .val (.int (Int32.ofNat e0)), .val (.long (Int64.ofNat V)), .second, .val (.int (Int32.ofNat e0)), sl] [(.int (Int32.ofNat e0)), (.int (Int32.ofNat e0))])) (fun tt_ kk_ => XS.iloadN X0.here hx rfl (hb hby d6_24) rfl kk_) ?_
          refine Gq.go (s₁.setTop (mkF m 69 #[.val (.ref a1), .val (.int (Int32.ofNat s0)), .val (.int (Int32.ofNat e0)), .val (.long (Int64.ofNat V)), .second, .val (.int (Int32.ofNat e0)), sl] [])) (fun tt_ kk_ => XS.icmpYes X0.here hx rfl (pc0 := 25) (pc' := 69) rfl (hb hby d6_25) rfl (flt (fun q => absurd ((own_lt (by omega) (by omega)).mp q) (by omega))).2.1 (by decide) (by decide) kk_) ?_
          refine Gq.go (s₁.setTop (mkF m 70 #[.val (.ref a1), .val (.int (Int32.ofNat s0)), .val (.int (Int32.ofNat e0)), .val (.long (Int64.ofNat V)), .second, .val (.int (Int32.ofNat e0)), sl] [(.long (Int64.ofNat V))])) (fun tt_ kk_ => XS.lloadN X0.here hx rfl (hb hby d6_69) rfl kk_) ?_
          refine Gq.retL X0 hx Bd.notSynchronized Bd.returns (hb hby d6_70) (by decide) (by decide) ?_
          show Q6 Z a1 g s0 e0 h0 n0 _ s₁.heap _
          rw [eh0]
          exact ⟨by unfold own_wn; rw [if_neg hse, if_neg h18, hV]; rfl, N0, rfl⟩
        | succ k ih =>
          intro i V hi hsi hV sl hsl
          have hbi := hbyt i (by omega)
          have hst : storeLocals #[.val (.ref a1), .val (.int (Int32.ofNat s0)), .val (.int (Int32.ofNat e0)), .val (.long (Int64.ofNat V)), .second, .val (.int (Int32.ofNat i)), sl] 6 (.int ((g i) - (48 : Int32))) = some #[.val (.ref a1), .val (.int (Int32.ofNat s0)), .val (.int (Int32.ofNat e0)), .val (.long (Int64.ofNat V)), .second, .val (.int (Int32.ofNat i)), .val (.int ((g i) - (48 : Int32)))] := by rcases hsl with rfl | ⟨y, rfl⟩ <;> rfl
          refine Gq.go (s₁.setTop (mkF m 24 #[.val (.ref a1), .val (.int (Int32.ofNat s0)), .val (.int (Int32.ofNat e0)), .val (.long (Int64.ofNat V)), .second, .val (.int (Int32.ofNat i)), sl] [(.int (Int32.ofNat i))])) (fun tt_ kk_ => XS.iload X0.here hx rfl (hb hby d6_22) rfl kk_) ?_
          refine Gq.go (s₁.setTop (mkF m 25 #[.val (.ref a1), .val (.int (Int32.ofNat s0)), .val (.int (Int32.ofNat e0)), .val (.long (Int64.ofNat V)), .second, .val (.int (Int32.ofNat i)), sl] [(.int (Int32.ofNat e0)), (.int (Int32.ofNat i))])) (fun tt_ kk_ => XS.iloadN X0.here hx rfl (hb hby d6_24) rfl kk_) ?_
          refine Gq.go (s₁.setTop (mkF m 28 #[.val (.ref a1), .val (.int (Int32.ofNat s0)), .val (.int (Int32.ofNat e0)), .val (.long (Int64.ofNat V)), .second, .val (.int (Int32.ofNat i)), sl] [])) (fun tt_ kk_ => XS.icmpNo X0.here hx rfl (hb hby d6_25) rfl (tlt ((own_lt (by omega) (by omega)).mpr (by omega))).2.1 kk_) ?_
          refine Gq.go (s₁.setTop (mkF m 29 #[.val (.ref a1), .val (.int (Int32.ofNat s0)), .val (.int (Int32.ofNat e0)), .val (.long (Int64.ofNat V)), .second, .val (.int (Int32.ofNat i)), sl] [(.ref a1)])) (fun tt_ kk_ => XS.aloadN X0.here hx rfl (hb hby d6_28) rfl rfl kk_) ?_
          refine Gq.go (s₁.setTop (mkF m 31 #[.val (.ref a1), .val (.int (Int32.ofNat s0)), .val (.int (Int32.ofNat e0)), .val (.long (Int64.ofNat V)), .second, .val (.int (Int32.ofNat i)), sl] [(.int (Int32.ofNat i)), (.ref a1)])) (fun tt_ kk_ => XS.iload X0.here hx rfl (hb hby d6_29) rfl kk_) ?_
          refine Gq.go (s₁.setTop (mkF m 32 #[.val (.ref a1), .val (.int (Int32.ofNat s0)), .val (.int (Int32.ofNat e0)), .val (.long (Int64.ofNat V)), .second, .val (.int (Int32.ofNat i)), sl] [(.int (g i))])) (fun tt_ kk_ => ldB X0 hx hZ eh0 V1 (j := (Int32.ofNat i)) (i := i) (x := (g i)) (own_nn (by omega)) (own_nc (by omega)) (by omega) rfl (hb hby d6_31) tt_ kk_) ?_
          refine Gq.go (s₁.setTop (mkF m 34 #[.val (.ref a1), .val (.int (Int32.ofNat s0)), .val (.int (Int32.ofNat e0)), .val (.long (Int64.ofNat V)), .second, .val (.int (Int32.ofNat i)), sl] [(.int (48 : Int32)), (.int (g i))])) (fun tt_ kk_ => XS.bipush X0.here hx rfl (hb hby d6_32) kk_) ?_
          refine Gq.go (s₁.setTop (mkF m 35 #[.val (.ref a1), .val (.int (Int32.ofNat s0)), .val (.int (Int32.ofNat e0)), .val (.long (Int64.ofNat V)), .second, .val (.int (Int32.ofNat i)), sl] [(.int ((g i) - (48 : Int32)))])) (fun tt_ kk_ => XS.isub X0.here hx rfl (hb hby d6_34) rfl kk_) ?_
          refine Gq.go (s₁.setTop (mkF m 37 #[.val (.ref a1), .val (.int (Int32.ofNat s0)), .val (.int (Int32.ofNat e0)), .val (.long (Int64.ofNat V)), .second, .val (.int (Int32.ofNat i)), .val (.int ((g i) - (48 : Int32)))] [])) (fun tt_ kk_ => XS.istore X0.here hx rfl (hb hby d6_35) rfl (l' := #[.val (.ref a1), .val (.int (Int32.ofNat s0)), .val (.int (Int32.ofNat e0)), .val (.long (Int64.ofNat V)), .second, .val (.int (Int32.ofNat i)), .val (.int ((g i) - (48 : Int32)))]) hst kk_) ?_
          refine Gq.go (s₁.setTop (mkF m 39 #[.val (.ref a1), .val (.int (Int32.ofNat s0)), .val (.int (Int32.ofNat e0)), .val (.long (Int64.ofNat V)), .second, .val (.int (Int32.ofNat i)), .val (.int ((g i) - (48 : Int32)))] [(.int ((g i) - (48 : Int32)))])) (fun tt_ kk_ => XS.iload X0.here hx rfl (hb hby d6_37) rfl kk_) ?_
          have hnx : own_ov g s0 (i - s0 + 1) = match own_dg (g i) with | none => none | some d => some (10 * V + d) := own_ov_next hV hsi
          by_cases hd1 : g i < (48 : Int32)
          · refine Gq.go (s₁.setTop (mkF m 49 #[.val (.ref a1), .val (.int (Int32.ofNat s0)), .val (.int (Int32.ofNat e0)), .val (.long (Int64.ofNat V)), .second, .val (.int (Int32.ofNat i)), .val (.int ((g i) - (48 : Int32)))] [])) (fun tt_ kk_ => XS.ifYes X0.here hx rfl (pc0 := 39) (pc' := 49) rfl (hb hby d6_39) rfl ((if0 _ _).trans (tlt ((own_d1 hbi).mpr hd1)).1) (by decide) (by decide) kk_) ?_
            refine Gq.go (s₁.setTop (mkF m 52 #[.val (.ref a1), .val (.int (Int32.ofNat s0)), .val (.int (Int32.ofNat e0)), .val (.long (Int64.ofNat V)), .second, .val (.int (Int32.ofNat i)), .val (.int ((g i) - (48 : Int32)))] [(.long (-1 : Int64))])) (fun tt_ kk_ => X0.ldc2Long hx hown (mvT hZ (hw _ (List.mem_of_getElem? (i := 44) rfl))) (g := (mkF m 49 #[.val (.ref a1), .val (.int (Int32.ofNat s0)), .val (.int (Int32.ofNat e0)), .val (.long (Int64.ofNat V)), .second, .val (.int (Int32.ofNat i)), .val (.int ((g i) - (48 : Int32)))] [])) rfl (hb hby d6_49) _ kk_) ?_
            refine Gq.retL X0 hx Bd.notSynchronized Bd.returns (hb hby d6_52) (by decide) (by decide) ?_
            show Q6 Z a1 g s0 e0 h0 n0 _ s₁.heap _
            rw [eh0]
            exact ⟨by rw [own_wn_none hse h18 (show i - s0 + 1 ≤ e0 - s0 by omega) (by rw [hnx, own_dg_lo hd1])], N0, rfl⟩
          · refine Gq.go (s₁.setTop (mkF m 42 #[.val (.ref a1), .val (.int (Int32.ofNat s0)), .val (.int (Int32.ofNat e0)), .val (.long (Int64.ofNat V)), .second, .val (.int (Int32.ofNat i)), .val (.int ((g i) - (48 : Int32)))] [])) (fun tt_ kk_ => XS.ifNo X0.here hx rfl (hb hby d6_39) rfl ((if0 _ _).trans (flt (fun q => hd1 ((own_d1 hbi).mp q))).1) kk_) ?_
            refine Gq.go (s₁.setTop (mkF m 44 #[.val (.ref a1), .val (.int (Int32.ofNat s0)), .val (.int (Int32.ofNat e0)), .val (.long (Int64.ofNat V)), .second, .val (.int (Int32.ofNat i)), .val (.int ((g i) - (48 : Int32)))] [(.int ((g i) - (48 : Int32)))])) (fun tt_ kk_ => XS.iload X0.here hx rfl (hb hby d6_42) rfl kk_) ?_
            refine Gq.go (s₁.setTop (mkF m 46 #[.val (.ref a1), .val (.int (Int32.ofNat s0)), .val (.int (Int32.ofNat e0)), .val (.long (Int64.ofNat V)), .second, .val (.int (Int32.ofNat i)), .val (.int ((g i) - (48 : Int32)))] [(.int (9 : Int32)), (.int ((g i) - (48 : Int32)))])) (fun tt_ kk_ => XS.bipush X0.here hx rfl (hb hby d6_44) kk_) ?_
            by_cases hd2 : (57 : Int32) < g i
            · refine Gq.go (s₁.setTop (mkF m 49 #[.val (.ref a1), .val (.int (Int32.ofNat s0)), .val (.int (Int32.ofNat e0)), .val (.long (Int64.ofNat V)), .second, .val (.int (Int32.ofNat i)), .val (.int ((g i) - (48 : Int32)))] [])) (fun tt_ kk_ => XS.icmpNo X0.here hx rfl (hb hby d6_46) rfl (tlt ((own_d2 hbi).mpr hd2)).2.2.2 kk_) ?_
              refine Gq.go (s₁.setTop (mkF m 52 #[.val (.ref a1), .val (.int (Int32.ofNat s0)), .val (.int (Int32.ofNat e0)), .val (.long (Int64.ofNat V)), .second, .val (.int (Int32.ofNat i)), .val (.int ((g i) - (48 : Int32)))] [(.long (-1 : Int64))])) (fun tt_ kk_ => X0.ldc2Long hx hown (mvT hZ (hw _ (List.mem_of_getElem? (i := 44) rfl))) (g := (mkF m 49 #[.val (.ref a1), .val (.int (Int32.ofNat s0)), .val (.int (Int32.ofNat e0)), .val (.long (Int64.ofNat V)), .second, .val (.int (Int32.ofNat i)), .val (.int ((g i) - (48 : Int32)))] [])) rfl (hb hby d6_49) _ kk_) ?_
              refine Gq.retL X0 hx Bd.notSynchronized Bd.returns (hb hby d6_52) (by decide) (by decide) ?_
              show Q6 Z a1 g s0 e0 h0 n0 _ s₁.heap _
              rw [eh0]
              exact ⟨by rw [own_wn_none hse h18 (show i - s0 + 1 ≤ e0 - s0 by omega) (by rw [hnx, own_dg_hi hd1 hd2])], N0, rfl⟩
            · refine Gq.go (s₁.setTop (mkF m 53 #[.val (.ref a1), .val (.int (Int32.ofNat s0)), .val (.int (Int32.ofNat e0)), .val (.long (Int64.ofNat V)), .second, .val (.int (Int32.ofNat i)), .val (.int ((g i) - (48 : Int32)))] [])) (fun tt_ kk_ => XS.icmpYes X0.here hx rfl (pc0 := 46) (pc' := 53) rfl (hb hby d6_46) rfl (flt (fun q => hd2 ((own_d2 hbi).mp q))).2.2.2 (by decide) (by decide) kk_) ?_
              refine Gq.go (s₁.setTop (mkF m 56 #[.val (.ref a1), .val (.int (Int32.ofNat s0)), .val (.int (Int32.ofNat e0)), .val (.long (Int64.ofNat V)), .second, .val (.int (Int32.ofNat i)), .val (.int ((g i) - (48 : Int32)))] [(.long (10 : Int64))])) (fun tt_ kk_ => X0.ldc2Long hx hown (mvT hZ (hw _ (List.mem_of_getElem? (i := 42) rfl))) (g := (mkF m 53 #[.val (.ref a1), .val (.int (Int32.ofNat s0)), .val (.int (Int32.ofNat e0)), .val (.long (Int64.ofNat V)), .second, .val (.int (Int32.ofNat i)), .val (.int ((g i) - (48 : Int32)))] [])) rfl (hb hby d6_53) _ kk_) ?_
              refine Gq.go (s₁.setTop (mkF m 57 #[.val (.ref a1), .val (.int (Int32.ofNat s0)), .val (.int (Int32.ofNat e0)), .val (.long (Int64.ofNat V)), .second, .val (.int (Int32.ofNat i)), .val (.int ((g i) - (48 : Int32)))] [(.long (Int64.ofNat V)), (.long (10 : Int64))])) (fun tt_ kk_ => XS.lloadN X0.here hx rfl (hb hby d6_56) rfl kk_) ?_
              refine Gq.go (s₁.setTop (mkF m 58 #[.val (.ref a1), .val (.int (Int32.ofNat s0)), .val (.int (Int32.ofNat e0)), .val (.long (Int64.ofNat V)), .second, .val (.int (Int32.ofNat i)), .val (.int ((g i) - (48 : Int32)))] [(.long ((10 : Int64) * (Int64.ofNat V)))])) (fun tt_ kk_ => XS.lmul X0.here hx rfl (hb hby d6_57) rfl kk_) ?_
              rw [show ((10 : Int64) * (Int64.ofNat V)) = (Int64.ofNat (10 * V)) from o64_mul 10 V]
              refine Gq.go (s₁.setTop (mkF m 60 #[.val (.ref a1), .val (.int (Int32.ofNat s0)), .val (.int (Int32.ofNat e0)), .val (.long (Int64.ofNat V)), .second, .val (.int (Int32.ofNat i)), .val (.int ((g i) - (48 : Int32)))] [(.int ((g i) - (48 : Int32))), (.long (Int64.ofNat (10 * V)))])) (fun tt_ kk_ => XS.iload X0.here hx rfl (hb hby d6_58) rfl kk_) ?_
              refine Gq.go (s₁.setTop (mkF m 61 #[.val (.ref a1), .val (.int (Int32.ofNat s0)), .val (.int (Int32.ofNat e0)), .val (.long (Int64.ofNat V)), .second, .val (.int (Int32.ofNat i)), .val (.int ((g i) - (48 : Int32)))] [(.long (((g i) - (48 : Int32)).toInt64)), (.long (Int64.ofNat (10 * V)))])) (fun tt_ kk_ => XS.i2l X0.here hx rfl (hb hby d6_60) rfl kk_) ?_
              rw [show (((g i) - (48 : Int32)).toInt64) = (Int64.ofNat ((g i).toInt.toNat - 48)) from own_dig hd1 hd2]
              refine Gq.go (s₁.setTop (mkF m 62 #[.val (.ref a1), .val (.int (Int32.ofNat s0)), .val (.int (Int32.ofNat e0)), .val (.long (Int64.ofNat V)), .second, .val (.int (Int32.ofNat i)), .val (.int ((g i) - (48 : Int32)))] [(.long ((Int64.ofNat (10 * V)) + (Int64.ofNat ((g i).toInt.toNat - 48))))])) (fun tt_ kk_ => XS.ladd X0.here hx rfl (hb hby d6_61) rfl kk_) ?_
              rw [show ((Int64.ofNat (10 * V)) + (Int64.ofNat ((g i).toInt.toNat - 48))) = (Int64.ofNat (10 * V + ((g i).toInt.toNat - 48))) from o64_add _ _]
              refine Gq.go (s₁.setTop (mkF m 63 #[.val (.ref a1), .val (.int (Int32.ofNat s0)), .val (.int (Int32.ofNat e0)), .val (.long (Int64.ofNat (10 * V + ((g i).toInt.toNat - 48)))), .second, .val (.int (Int32.ofNat i)), .val (.int ((g i) - (48 : Int32)))] [])) (fun tt_ kk_ => XS.lstoreN X0.here hx rfl (hb hby d6_62) rfl (l' := #[.val (.ref a1), .val (.int (Int32.ofNat s0)), .val (.int (Int32.ofNat e0)), .val (.long (Int64.ofNat (10 * V + ((g i).toInt.toNat - 48)))), .second, .val (.int (Int32.ofNat i)), .val (.int ((g i) - (48 : Int32)))]) rfl kk_) ?_
              refine Gq.go (s₁.setTop (mkF m 66 #[.val (.ref a1), .val (.int (Int32.ofNat s0)), .val (.int (Int32.ofNat e0)), .val (.long (Int64.ofNat (10 * V + ((g i).toInt.toNat - 48)))), .second, .val (.int ((Int32.ofNat i) + (1 : Int32))), .val (.int ((g i) - (48 : Int32)))] [])) (fun tt_ kk_ => XS.iinc X0.here hx rfl (hb hby d6_63) rfl (l' := #[.val (.ref a1), .val (.int (Int32.ofNat s0)), .val (.int (Int32.ofNat e0)), .val (.long (Int64.ofNat (10 * V + ((g i).toInt.toNat - 48)))), .second, .val (.int ((Int32.ofNat i) + (1 : Int32))), .val (.int ((g i) - (48 : Int32)))]) rfl kk_) ?_
              rw [show ((Int32.ofNat i) + (1 : Int32)) = Int32.ofNat (i + 1) from own_add i 1]
              refine Gq.go (s₁.setTop (mkF m 22 #[.val (.ref a1), .val (.int (Int32.ofNat s0)), .val (.int (Int32.ofNat e0)), .val (.long (Int64.ofNat (10 * V + ((g i).toInt.toNat - 48)))), .second, .val (.int (Int32.ofNat (i + 1))), .val (.int ((g i) - (48 : Int32)))] [])) (fun tt_ kk_ => XS.goto X0.here hx rfl (pc0 := 66) (pc' := 22) rfl (hb hby d6_66) (by decide) (by decide) kk_) ?_
              exact ih (i + 1) _ (by omega) (by omega) (by rw [show i + 1 - s0 = i - s0 + 1 by omega, hnx, own_dg_ok hd1 hd2]) _ (Or.inr ⟨_, rfl⟩)
      refine Gq.go (s₁.setTop (mkF m 18 #[.val (.ref a1), .val (.int (Int32.ofNat s0)), .val (.int (Int32.ofNat e0)), .unset, .unset, .unset, .unset] [(.long (0 : Int64))])) (fun tt_ kk_ => XS.lconst X0.here hx rfl (hb hby d6_17) kk_) ?_
      refine Gq.go (s₁.setTop (mkF m 19 #[.val (.ref a1), .val (.int (Int32.ofNat s0)), .val (.int (Int32.ofNat e0)), .val (.long (0 : Int64)), .second, .unset, .unset] [])) (fun tt_ kk_ => XS.lstoreN X0.here hx rfl (hb hby d6_18) rfl (l' := #[.val (.ref a1), .val (.int (Int32.ofNat s0)), .val (.int (Int32.ofNat e0)), .val (.long (0 : Int64)), .second, .unset, .unset]) rfl kk_) ?_
      refine Gq.go (s₁.setTop (mkF m 20 #[.val (.ref a1), .val (.int (Int32.ofNat s0)), .val (.int (Int32.ofNat e0)), .val (.long (0 : Int64)), .second, .unset, .unset] [(.int (Int32.ofNat s0))])) (fun tt_ kk_ => XS.iloadN X0.here hx rfl (hb hby d6_19) rfl kk_) ?_
      refine Gq.go (s₁.setTop (mkF m 22 #[.val (.ref a1), .val (.int (Int32.ofNat s0)), .val (.int (Int32.ofNat e0)), .val (.long (0 : Int64)), .second, .val (.int (Int32.ofNat s0)), .unset] [])) (fun tt_ kk_ => XS.istore X0.here hx rfl (hb hby d6_20) rfl (l' := #[.val (.ref a1), .val (.int (Int32.ofNat s0)), .val (.int (Int32.ofNat e0)), .val (.long (0 : Int64)), .second, .val (.int (Int32.ofNat s0)), .unset]) rfl kk_) ?_
      exact loop (e0 - s0) s0 0 (by omega) (Nat.le_refl _) (by rw [Nat.sub_self]; rfl) _ (Or.inl rfl)
theorem d4_0 : decode method_4_code 0 = .ok (.iload 5, 2) := by decide +kernel
theorem d4_2 : decode method_4_code 2 = .ok (.iload 4, 2) := by decide +kernel
theorem d4_4 : decode method_4_code 4 = .ok (.if_icmp .eq 13, 3) := by decide +kernel
theorem d4_7 : decode method_4_code 7 = .ok (.iload 5, 2) := by decide +kernel
theorem d4_9 : decode method_4_code 9 = .ok (.iload 4, 2) := by decide +kernel
theorem d4_11 : decode method_4_code 11 = .ok (.isub, 1) := by decide +kernel
theorem d4_12 : decode method_4_code 12 = .ok (.bipush 18, 2) := by decide +kernel
theorem d4_14 : decode method_4_code 14 = .ok (.if_icmp .le 7, 3) := by decide +kernel
theorem d4_17 : decode method_4_code 17 = .ok (.ldc2_w 71, 3) := by decide +kernel
theorem d4_20 : decode method_4_code 20 = .ok (.lreturn, 1) := by decide +kernel
theorem d4_21 : decode method_4_code 21 = .ok (.lconst 0, 1) := by decide +kernel
theorem d4_22 : decode method_4_code 22 = .ok (.lstore 6, 2) := by decide +kernel
theorem d4_24 : decode method_4_code 24 = .ok (.iload 4, 2) := by decide +kernel
theorem d4_26 : decode method_4_code 26 = .ok (.bipush 16, 2) := by decide +kernel
theorem d4_28 : decode method_4_code 28 = .ok (.if_icmp .ge 31, 3) := by decide +kernel
theorem d4_31 : decode method_4_code 31 = .ok (.iload 5, 2) := by decide +kernel
theorem d4_33 : decode method_4_code 33 = .ok (.bipush 16, 2) := by decide +kernel
theorem d4_35 : decode method_4_code 35 = .ok (.invokestatic 50, 3) := by decide +kernel
theorem d4_38 : decode method_4_code 38 = .ok (.istore 8, 2) := by decide +kernel
theorem d4_40 : decode method_4_code 40 = .ok (.lload_n 2, 1) := by decide +kernel
theorem d4_41 : decode method_4_code 41 = .ok (.aload_n 1, 1) := by decide +kernel
theorem d4_42 : decode method_4_code 42 = .ok (.bipush 16, 2) := by decide +kernel
theorem d4_44 : decode method_4_code 44 = .ok (.iload 8, 2) := by decide +kernel
theorem d4_46 : decode method_4_code 46 = .ok (.isub, 1) := by decide +kernel
theorem d4_47 : decode method_4_code 47 = .ok (.laload, 1) := by decide +kernel
theorem d4_48 : decode method_4_code 48 = .ok (.ldiv, 1) := by decide +kernel
theorem d4_49 : decode method_4_code 49 = .ok (.aload_n 1, 1) := by decide +kernel
theorem d4_50 : decode method_4_code 50 = .ok (.iload 8, 2) := by decide +kernel
theorem d4_52 : decode method_4_code 52 = .ok (.iload 4, 2) := by decide +kernel
theorem d4_54 : decode method_4_code 54 = .ok (.isub, 1) := by decide +kernel
theorem d4_55 : decode method_4_code 55 = .ok (.laload, 1) := by decide +kernel
theorem d4_56 : decode method_4_code 56 = .ok (.lrem, 1) := by decide +kernel
theorem d4_57 : decode method_4_code 57 = .ok (.lstore 6, 2) := by decide +kernel
theorem d4_59 : decode method_4_code 59 = .ok (.aload_n 0, 1) := by decide +kernel
theorem d4_60 : decode method_4_code 60 = .ok (.bipush 16, 2) := by decide +kernel
theorem d4_62 : decode method_4_code 62 = .ok (.iload 4, 2) := by decide +kernel
theorem d4_64 : decode method_4_code 64 = .ok (.iload 5, 2) := by decide +kernel
theorem d4_66 : decode method_4_code 66 = .ok (.lload 6, 2) := by decide +kernel
theorem d4_68 : decode method_4_code 68 = .ok (.invokestatic 73, 3) := by decide +kernel
theorem d4_71 : decode method_4_code 71 = .ok (.lstore 6, 2) := by decide +kernel
theorem d4_73 : decode method_4_code 73 = .ok (.aload_n 0, 1) := by decide +kernel
theorem d4_74 : decode method_4_code 74 = .ok (.bipush 17, 2) := by decide +kernel
theorem d4_76 : decode method_4_code 76 = .ok (.iload 4, 2) := by decide +kernel
theorem d4_78 : decode method_4_code 78 = .ok (.iload 5, 2) := by decide +kernel
theorem d4_80 : decode method_4_code 80 = .ok (.lload 6, 2) := by decide +kernel
theorem d4_82 : decode method_4_code 82 = .ok (.invokestatic 73, 3) := by decide +kernel
theorem d4_85 : decode method_4_code 85 = .ok (.lstore 6, 2) := by decide +kernel
theorem d4_87 : decode method_4_code 87 = .ok (.aload_n 0, 1) := by decide +kernel
theorem d4_88 : decode method_4_code 88 = .ok (.bipush 18, 2) := by decide +kernel
theorem d4_90 : decode method_4_code 90 = .ok (.iload 4, 2) := by decide +kernel
theorem d4_92 : decode method_4_code 92 = .ok (.iload 5, 2) := by decide +kernel
theorem d4_94 : decode method_4_code 94 = .ok (.lload 6, 2) := by decide +kernel
theorem d4_96 : decode method_4_code 96 = .ok (.invokestatic 73, 3) := by decide +kernel
theorem d4_99 : decode method_4_code 99 = .ok (.lstore 6, 2) := by decide +kernel
theorem d4_101 : decode method_4_code 101 = .ok (.aload_n 0, 1) := by decide +kernel
theorem d4_102 : decode method_4_code 102 = .ok (.bipush 19, 2) := by decide +kernel
theorem d4_104 : decode method_4_code 104 = .ok (.iload 4, 2) := by decide +kernel
theorem d4_106 : decode method_4_code 106 = .ok (.iload 5, 2) := by decide +kernel
theorem d4_108 : decode method_4_code 108 = .ok (.lload 6, 2) := by decide +kernel
theorem d4_110 : decode method_4_code 110 = .ok (.invokestatic 73, 3) := by decide +kernel
theorem d4_113 : decode method_4_code 113 = .ok (.lstore 6, 2) := by decide +kernel
theorem d4_115 : decode method_4_code 115 = .ok (.lload 6, 2) := by decide +kernel
theorem d4_117 : decode method_4_code 117 = .ok (.lreturn, 1) := by decide +kernel
theorem pd_0 : parseMethodDescriptor "(II)I" = some ⟨[.int, .int], some .int⟩ := by decide +kernel
theorem pd_1 : parseMethodDescriptor "([BIIIJ)J" = some ⟨[(.array .byte), .int, .int, .int, .long], some .long⟩ := by decide +kernel
theorem ef4 (m : MethodId) (y0 : Addr) (y1 : Addr) (y2 : Int64) (y3 : Int32) (y4 : Int32) : entryFrame m #[(.ref y0), (.ref y1), (.long y2), (.int y3), (.int y4)] 9 = mkF m 0 #[.val (.ref y0), .val (.ref y1), .val (.long y2), .second, .val (.int y3), .val (.int y4), .unset, .unset, .unset] [] := by first | (simp [entryFrame, mkF, argsToLocals, Value.category]; done) | rfl
def Q4 (Z : State) (a1 : Addr) (a2 : Addr) (D : Nat) (g : Nat → Int32) (s0 : Nat) (e0 : Nat) (h0 : Heap) (n0 : Nat) (v : Option Value) (h : Heap) (L : List Loc) : Prop := v = some (.long (own_wn g s0 e0)) ∧ Fr n0 L ∧ h = h0
set_option maxRecDepth 65536 in
set_option maxHeartbeats 40000000 in
theorem rm4 (l : Launch) (Z : State) (a0 : Array Value) (hw : ∀ d ∈ tables_1, d.before a0 Z = true) (ws : List Jvm.Cond) (a1 : Addr) (a2 : Addr) (D : Nat) (g : Nat → Int32) (s0 : Nat) (e0 : Nat) (h0 : Heap) (n0 : Nat) (Z0 : n0 ≤ h0.size) (V1 : LA Z h0 a1 .byte 20 (fun i => .int (g i))) (hbyt : ∀ i, i < 20 → -128 ≤ (g i).toInt ∧ (g i).toInt ≤ 127) (hs : s0 ≤ e0) (he : e0 ≤ 20) (V2 : LA Z h0 a2 .long 17 (fun j => .long (Int64.ofNat (10 ^ j)))) (hD : D < 10 ^ 16) (hg : ∀ i, i < 16 → g i = Int32.ofNat (48 + D / 10 ^ (15 - i) % 10)) :
    MetFree l (⟨"com/example/clearwright/clearwright/io/NumberTextWholeNumberPinLaw", "expected", "([B[JJII)J"⟩ : MethodName) (head1 (Jvm.Cond.code (⟨"com/example/clearwright/clearwright/io/NumberTextWholeNumberPinLaw", "expected", "([B[JJII)J"⟩ : MethodName) method_4_code 9 (some .long) :: ws) ({ frames := 1, cells := 0, slots := 0, locals := 18 } : Room)) (fun a U => a = #[(.ref a1), (.ref a2), (.long (Int64.ofNat D)), (.int (Int32.ofNat s0)), (.int (Int32.ofNat e0))] ∧ Z.Warmed39 U.vm ∧ U.heap = h0) (fun _ _ _ _ _ => True) (fun _ U o U' => ∃ v L, o = .returned v ∧ Q4 Z a1 a2 D g s0 e0 h0 n0 v U'.heap L ∧ FrameEnd U o U' L ({ frames := 1, cells := 0, slots := 0, locals := 18 } : Room).cells ({ frames := 1, cells := 0, slots := 0, locals := 18 } : Room).slots) := by
  refine MetFree.of_bodySF (plainFor_of_name pn_com_example_clearwright_clearwright_io_NumberTextWholeNumberPinLaw) hisR ?_
  intro p e s m args below meth c s₁ Bd hml0 hP hK
  obtain ⟨rfl, hZ, hh⟩ := hP
  have hx := Bd.exec
  have hby := Bd.bytes
  have hml : c.maxLocals = 9 := hml0
  have hown : s.vm.findClass "com/example/clearwright/clearwright/io/NumberTextWholeNumberPinLaw" = some m.cls := findClass_of_methodNamed Bd.named
  have hnm := (name_of_methodNamed Bd.named Bd.method).1
  have X0 : Stand p l e ({ frames := 1, cells := 0, slots := 0, locals := 18 } : Room) s m #[(.ref a1), (.ref a2), (.long (Int64.ofNat D)), (.int (Int32.ofNat s0)), (.int (Int32.ofNat e0))] below meth c s₁ [] 0 0 := Stand.of_body Bd
  have eh0 : s₁.heap = h0 := by rw [← hh, Bd.state]; rfl
  have N0 := Fr.nil n0
  refine Gq.start (Q := Q4 Z a1 a2 D g s0 e0 h0 n0) (kc := ({ frames := 1, cells := 0, slots := 0, locals := 18 } : Room).cells) (ks := ({ frames := 1, cells := 0, slots := 0, locals := 18 } : Room).slots) (ef4 m a1 a2 (Int64.ofNat D) (Int32.ofNat s0) (Int32.ofNat e0)) ?_
  refine Gq.go (s₁.setTop (mkF m 2 #[.val (.ref a1), .val (.ref a2), .val (.long (Int64.ofNat D)), .second, .val (.int (Int32.ofNat s0)), .val (.int (Int32.ofNat e0)), .unset, .unset, .unset] [(.int (Int32.ofNat e0))])) (fun tt_ kk_ => XS.iload X0.here hx rfl (hb hby d4_0) rfl kk_) ?_
  refine Gq.go (s₁.setTop (mkF m 4 #[.val (.ref a1), .val (.ref a2), .val (.long (Int64.ofNat D)), .second, .val (.int (Int32.ofNat s0)), .val (.int (Int32.ofNat e0)), .unset, .unset, .unset] [(.int (Int32.ofNat s0)), (.int (Int32.ofNat e0))])) (fun tt_ kk_ => XS.iload X0.here hx rfl (hb hby d4_2) rfl kk_) ?_
  by_cases hse : s0 = e0
  · refine Gq.go (s₁.setTop (mkF m 17 #[.val (.ref a1), .val (.ref a2), .val (.long (Int64.ofNat D)), .second, .val (.int (Int32.ofNat s0)), .val (.int (Int32.ofNat e0)), .unset, .unset, .unset] [])) (fun tt_ kk_ => XS.icmpYes X0.here hx rfl (pc0 := 4) (pc' := 17) rfl (hb hby d4_4) rfl (teq (congrArg Int32.ofNat hse.symm)).1 (by decide) (by decide) kk_) ?_
    refine Gq.go (s₁.setTop (mkF m 20 #[.val (.ref a1), .val (.ref a2), .val (.long (Int64.ofNat D)), .second, .val (.int (Int32.ofNat s0)), .val (.int (Int32.ofNat e0)), .unset, .unset, .unset] [(.long (-1 : Int64))])) (fun tt_ kk_ => X0.ldc2Long hx hown (mvT hZ (hw _ (List.mem_of_getElem? (i := 43) rfl))) (g := (mkF m 17 #[.val (.ref a1), .val (.ref a2), .val (.long (Int64.ofNat D)), .second, .val (.int (Int32.ofNat s0)), .val (.int (Int32.ofNat e0)), .unset, .unset, .unset] [])) rfl (hb hby d4_17) _ kk_) ?_
    refine Gq.retL X0 hx Bd.notSynchronized Bd.returns (hb hby d4_20) (by decide) (by decide) ?_
    show Q4 Z a1 a2 D g s0 e0 h0 n0 _ s₁.heap _
    rw [eh0]
    exact ⟨by unfold own_wn; rw [if_pos hse], N0, rfl⟩
  · refine Gq.go (s₁.setTop (mkF m 7 #[.val (.ref a1), .val (.ref a2), .val (.long (Int64.ofNat D)), .second, .val (.int (Int32.ofNat s0)), .val (.int (Int32.ofNat e0)), .unset, .unset, .unset] [])) (fun tt_ kk_ => XS.icmpNo X0.here hx rfl (hb hby d4_4) rfl (feq (fun q => hse ((own_eqn (by omega) (by omega)).mp q).symm)).1 kk_) ?_
    refine Gq.go (s₁.setTop (mkF m 9 #[.val (.ref a1), .val (.ref a2), .val (.long (Int64.ofNat D)), .second, .val (.int (Int32.ofNat s0)), .val (.int (Int32.ofNat e0)), .unset, .unset, .unset] [(.int (Int32.ofNat e0))])) (fun tt_ kk_ => XS.iload X0.here hx rfl (hb hby d4_7) rfl kk_) ?_
    refine Gq.go (s₁.setTop (mkF m 11 #[.val (.ref a1), .val (.ref a2), .val (.long (Int64.ofNat D)), .second, .val (.int (Int32.ofNat s0)), .val (.int (Int32.ofNat e0)), .unset, .unset, .unset] [(.int (Int32.ofNat s0)), (.int (Int32.ofNat e0))])) (fun tt_ kk_ => XS.iload X0.here hx rfl (hb hby d4_9) rfl kk_) ?_
    refine Gq.go (s₁.setTop (mkF m 12 #[.val (.ref a1), .val (.ref a2), .val (.long (Int64.ofNat D)), .second, .val (.int (Int32.ofNat s0)), .val (.int (Int32.ofNat e0)), .unset, .unset, .unset] [(.int ((Int32.ofNat e0) - (Int32.ofNat s0)))])) (fun tt_ kk_ => XS.isub X0.here hx rfl (hb hby d4_11) rfl kk_) ?_
    rw [show ((Int32.ofNat e0) - (Int32.ofNat s0)) = (Int32.ofNat (e0 - s0)) from own_sub hs]
    refine Gq.go (s₁.setTop (mkF m 14 #[.val (.ref a1), .val (.ref a2), .val (.long (Int64.ofNat D)), .second, .val (.int (Int32.ofNat s0)), .val (.int (Int32.ofNat e0)), .unset, .unset, .unset] [(.int (18 : Int32)), (.int (Int32.ofNat (e0 - s0)))])) (fun tt_ kk_ => XS.bipush X0.here hx rfl (hb hby d4_12) kk_) ?_
    by_cases h18 : 18 < e0 - s0
    · refine Gq.go (s₁.setTop (mkF m 17 #[.val (.ref a1), .val (.ref a2), .val (.long (Int64.ofNat D)), .second, .val (.int (Int32.ofNat s0)), .val (.int (Int32.ofNat e0)), .unset, .unset, .unset] [])) (fun tt_ kk_ => XS.icmpNo X0.here hx rfl (hb hby d4_14) rfl (tlt ((own_lt (a := 18) (by decide) (by omega)).mpr h18)).2.2.2 kk_) ?_
      refine Gq.go (s₁.setTop (mkF m 20 #[.val (.ref a1), .val (.ref a2), .val (.long (Int64.ofNat D)), .second, .val (.int (Int32.ofNat s0)), .val (.int (Int32.ofNat e0)), .unset, .unset, .unset] [(.long (-1 : Int64))])) (fun tt_ kk_ => X0.ldc2Long hx hown (mvT hZ (hw _ (List.mem_of_getElem? (i := 43) rfl))) (g := (mkF m 17 #[.val (.ref a1), .val (.ref a2), .val (.long (Int64.ofNat D)), .second, .val (.int (Int32.ofNat s0)), .val (.int (Int32.ofNat e0)), .unset, .unset, .unset] [])) rfl (hb hby d4_17) _ kk_) ?_
      refine Gq.retL X0 hx Bd.notSynchronized Bd.returns (hb hby d4_20) (by decide) (by decide) ?_
      show Q4 Z a1 a2 D g s0 e0 h0 n0 _ s₁.heap _
      rw [eh0]
      exact ⟨by unfold own_wn; rw [if_neg hse, if_pos h18], N0, rfl⟩
    · refine Gq.go (s₁.setTop (mkF m 21 #[.val (.ref a1), .val (.ref a2), .val (.long (Int64.ofNat D)), .second, .val (.int (Int32.ofNat s0)), .val (.int (Int32.ofNat e0)), .unset, .unset, .unset] [])) (fun tt_ kk_ => XS.icmpYes X0.here hx rfl (pc0 := 14) (pc' := 21) rfl (hb hby d4_14) rfl (flt (fun q => h18 ((own_lt (a := 18) (by decide) (by omega)).mp q))).2.2.2 (by decide) (by decide) kk_) ?_
      refine Gq.go (s₁.setTop (mkF m 22 #[.val (.ref a1), .val (.ref a2), .val (.long (Int64.ofNat D)), .second, .val (.int (Int32.ofNat s0)), .val (.int (Int32.ofNat e0)), .unset, .unset, .unset] [(.long (0 : Int64))])) (fun tt_ kk_ => XS.lconst X0.here hx rfl (hb hby d4_21) kk_) ?_
      refine Gq.go (s₁.setTop (mkF m 24 #[.val (.ref a1), .val (.ref a2), .val (.long (Int64.ofNat D)), .second, .val (.int (Int32.ofNat s0)), .val (.int (Int32.ofNat e0)), .val (.long (0 : Int64)), .second, .unset] [])) (fun tt_ kk_ => XS.lstore X0.here hx rfl (hb hby d4_22) rfl (l' := #[.val (.ref a1), .val (.ref a2), .val (.long (Int64.ofNat D)), .second, .val (.int (Int32.ofNat s0)), .val (.int (Int32.ofNat e0)), .val (.long (0 : Int64)), .second, .unset]) rfl kk_) ?_
      refine Gq.go (s₁.setTop (mkF m 26 #[.val (.ref a1), .val (.ref a2), .val (.long (Int64.ofNat D)), .second, .val (.int (Int32.ofNat s0)), .val (.int (Int32.ofNat e0)), .val (.long (0 : Int64)), .second, .unset] [(.int (Int32.ofNat s0))])) (fun tt_ kk_ => XS.iload X0.here hx rfl (hb hby d4_24) rfl kk_) ?_
      refine Gq.go (s₁.setTop (mkF m 28 #[.val (.ref a1), .val (.ref a2), .val (.long (Int64.ofNat D)), .second, .val (.int (Int32.ofNat s0)), .val (.int (Int32.ofNat e0)), .val (.long (0 : Int64)), .second, .unset] [(.int (16 : Int32)), (.int (Int32.ofNat s0))])) (fun tt_ kk_ => XS.bipush X0.here hx rfl (hb hby d4_26) kk_) ?_
      suffices K59 : ∀ (Tj59 : State) (Lj59 : List Loc), Stand p l e ({ frames := 1, cells := 0, slots := 0, locals := 18 } : Room) s m #[(.ref a1), (.ref a2), (.long (Int64.ofNat D)), (.int (Int32.ofNat s0)), (.int (Int32.ofNat e0))] below meth c Tj59 Lj59 0 0 → Tj59.heap = h0 → Fr n0 Lj59 → ∀ sl : Slot, Gq p.tables e below s (Q4 Z a1 a2 D g s0 e0 h0 n0) ({ frames := 1, cells := 0, slots := 0, locals := 18 } : Room).cells ({ frames := 1, cells := 0, slots := 0, locals := 18 } : Room).slots (Tj59.setTop (mkF m 59 #[.val (.ref a1), .val (.ref a2), .val (.long (Int64.ofNat D)), .second, .val (.int (Int32.ofNat s0)), .val (.int (Int32.ofNat e0)), .val (.long (own_enc (own_ov g s0 (min e0 16 - s0)))), .second, sl] [])) by
        by_cases hs16 : s0 < 16
        · refine Gq.go (s₁.setTop (mkF m 31 #[.val (.ref a1), .val (.ref a2), .val (.long (Int64.ofNat D)), .second, .val (.int (Int32.ofNat s0)), .val (.int (Int32.ofNat e0)), .val (.long (0 : Int64)), .second, .unset] [])) (fun tt_ kk_ => XS.icmpNo X0.here hx rfl (hb hby d4_28) rfl (tlt ((own_lt (b := 16) (by omega) (by decide)).mpr hs16)).2.1 kk_) ?_
          refine Gq.go (s₁.setTop (mkF m 33 #[.val (.ref a1), .val (.ref a2), .val (.long (Int64.ofNat D)), .second, .val (.int (Int32.ofNat s0)), .val (.int (Int32.ofNat e0)), .val (.long (0 : Int64)), .second, .unset] [(.int (Int32.ofNat e0))])) (fun tt_ kk_ => XS.iload X0.here hx rfl (hb hby d4_31) rfl kk_) ?_
          refine Gq.go (s₁.setTop (mkF m 35 #[.val (.ref a1), .val (.ref a2), .val (.long (Int64.ofNat D)), .second, .val (.int (Int32.ofNat s0)), .val (.int (Int32.ofNat e0)), .val (.long (0 : Int64)), .second, .unset] [(.int (16 : Int32)), (.int (Int32.ofNat e0))])) (fun tt_ kk_ => XS.bipush X0.here hx rfl (hb hby d4_33) kk_) ?_
          obtain ⟨r1, T1, L1, X1, hQ1, st1⟩ := callT (pc := 35) (Ls := #[.val (.ref a1), .val (.ref a2), .val (.long (Int64.ofNat D)), .second, .val (.int (Int32.ofNat s0)), .val (.int (Int32.ofNat e0)), .val (.long (0 : Int64)), .second, .unset]) X0 hx hZ hown eh0 [(.int (Int32.ofNat e0)), (.int (16 : Int32))] [] (hw _ (List.mem_of_getElem? (i := 25) rfl)) (hw _ (List.mem_of_getElem? (i := 26) rfl)) (hw _ (List.mem_of_getElem? (i := 27) rfl)) (hw _ (List.mem_of_getElem? (i := 28) rfl)) (by decide) (rm_own_min l Z a0 hw [] (Int32.ofNat e0) (16 : Int32) h0 n0 Z0) pd_0 rfl (by rw [hml]; rfl) (W := 0) (Nat.le_of_eq rfl) (by decide) (by decide) (by decide) (by decide) (hb hby d4_35)
          obtain ⟨rfl, N1q, eh1⟩ := hQ1
          have N1 := Fr.app N0 N1q
          refine Gq.go (T1.setTop (mkF m 38 #[.val (.ref a1), .val (.ref a2), .val (.long (Int64.ofNat D)), .second, .val (.int (Int32.ofNat s0)), .val (.int (Int32.ofNat e0)), .val (.long (0 : Int64)), .second, .unset] [(.int (own_min (Int32.ofNat e0) (16 : Int32)))])) (fun tt_ kk_ => st1 tt_ kk_) ?_
          rw [show (own_min (Int32.ofNat e0) (16 : Int32)) = (Int32.ofNat (min e0 16)) from own_min_eq he]
          have hq : D / 10 ^ (16 - min e0 16) ≤ D := Nat.div_le_self _ _
          have hD' : D < 10000000000000000 := hD
          have hp1 := own_pow (16 - min e0 16) (by omega)
          have hp2 := own_pow (min e0 16 - s0) (by omega)
          refine Gq.go (T1.setTop (mkF m 40 #[.val (.ref a1), .val (.ref a2), .val (.long (Int64.ofNat D)), .second, .val (.int (Int32.ofNat s0)), .val (.int (Int32.ofNat e0)), .val (.long (0 : Int64)), .second, .val (.int (Int32.ofNat (min e0 16)))] [])) (fun tt_ kk_ => XS.istore X1.here hx rfl (hb hby d4_38) rfl (l' := #[.val (.ref a1), .val (.ref a2), .val (.long (Int64.ofNat D)), .second, .val (.int (Int32.ofNat s0)), .val (.int (Int32.ofNat e0)), .val (.long (0 : Int64)), .second, .val (.int (Int32.ofNat (min e0 16)))]) rfl kk_) ?_
          refine Gq.go (T1.setTop (mkF m 41 #[.val (.ref a1), .val (.ref a2), .val (.long (Int64.ofNat D)), .second, .val (.int (Int32.ofNat s0)), .val (.int (Int32.ofNat e0)), .val (.long (0 : Int64)), .second, .val (.int (Int32.ofNat (min e0 16)))] [(.long (Int64.ofNat D))])) (fun tt_ kk_ => XS.lloadN X1.here hx rfl (hb hby d4_40) rfl kk_) ?_
          refine Gq.go (T1.setTop (mkF m 42 #[.val (.ref a1), .val (.ref a2), .val (.long (Int64.ofNat D)), .second, .val (.int (Int32.ofNat s0)), .val (.int (Int32.ofNat e0)), .val (.long (0 : Int64)), .second, .val (.int (Int32.ofNat (min e0 16)))] [(.ref a2), (.long (Int64.ofNat D))])) (fun tt_ kk_ => XS.aloadN X1.here hx rfl (hb hby d4_41) rfl rfl kk_) ?_
          refine Gq.go (T1.setTop (mkF m 44 #[.val (.ref a1), .val (.ref a2), .val (.long (Int64.ofNat D)), .second, .val (.int (Int32.ofNat s0)), .val (.int (Int32.ofNat e0)), .val (.long (0 : Int64)), .second, .val (.int (Int32.ofNat (min e0 16)))] [(.int (16 : Int32)), (.ref a2), (.long (Int64.ofNat D))])) (fun tt_ kk_ => XS.bipush X1.here hx rfl (hb hby d4_42) kk_) ?_
          refine Gq.go (T1.setTop (mkF m 46 #[.val (.ref a1), .val (.ref a2), .val (.long (Int64.ofNat D)), .second, .val (.int (Int32.ofNat s0)), .val (.int (Int32.ofNat e0)), .val (.long (0 : Int64)), .second, .val (.int (Int32.ofNat (min e0 16)))] [(.int (Int32.ofNat (min e0 16))), (.int (16 : Int32)), (.ref a2), (.long (Int64.ofNat D))])) (fun tt_ kk_ => XS.iload X1.here hx rfl (hb hby d4_44) rfl kk_) ?_
          refine Gq.go (T1.setTop (mkF m 47 #[.val (.ref a1), .val (.ref a2), .val (.long (Int64.ofNat D)), .second, .val (.int (Int32.ofNat s0)), .val (.int (Int32.ofNat e0)), .val (.long (0 : Int64)), .second, .val (.int (Int32.ofNat (min e0 16)))] [(.int ((16 : Int32) - (Int32.ofNat (min e0 16)))), (.ref a2), (.long (Int64.ofNat D))])) (fun tt_ kk_ => XS.isub X1.here hx rfl (hb hby d4_46) rfl kk_) ?_
          rw [show ((16 : Int32) - (Int32.ofNat (min e0 16))) = (Int32.ofNat (16 - min e0 16)) from own_sub (a := 16) (by omega)]
          refine Gq.go (T1.setTop (mkF m 48 #[.val (.ref a1), .val (.ref a2), .val (.long (Int64.ofNat D)), .second, .val (.int (Int32.ofNat s0)), .val (.int (Int32.ofNat e0)), .val (.long (0 : Int64)), .second, .val (.int (Int32.ofNat (min e0 16)))] [(.long (Int64.ofNat (10 ^ (16 - min e0 16)))), (.long (Int64.ofNat D))])) (fun tt_ kk_ => ldJ X1 hx hZ eh1 V2 (j := (Int32.ofNat (16 - min e0 16))) (i := (16 - min e0 16)) (x := (Int64.ofNat (10 ^ (16 - min e0 16)))) (own_nn (by omega)) (own_nc (by omega)) (by omega) rfl (hb hby d4_47) tt_ kk_) ?_
          refine Gq.go (T1.setTop (mkF m 49 #[.val (.ref a1), .val (.ref a2), .val (.long (Int64.ofNat D)), .second, .val (.int (Int32.ofNat s0)), .val (.int (Int32.ofNat e0)), .val (.long (0 : Int64)), .second, .val (.int (Int32.ofNat (min e0 16)))] [(.long ((Int64.ofNat D) / (Int64.ofNat (10 ^ (16 - min e0 16)))))])) (fun tt_ kk_ => XS.ldiv X1.here hx rfl (hb hby d4_48) rfl (own_ne0 hp1.1 hp1.2) kk_) ?_
          rw [show ((Int64.ofNat D) / (Int64.ofNat (10 ^ (16 - min e0 16)))) = (Int64.ofNat (D / 10 ^ (16 - min e0 16))) from o64_div (by omega) (by omega)]
          refine Gq.go (T1.setTop (mkF m 50 #[.val (.ref a1), .val (.ref a2), .val (.long (Int64.ofNat D)), .second, .val (.int (Int32.ofNat s0)), .val (.int (Int32.ofNat e0)), .val (.long (0 : Int64)), .second, .val (.int (Int32.ofNat (min e0 16)))] [(.ref a2), (.long (Int64.ofNat (D / 10 ^ (16 - min e0 16))))])) (fun tt_ kk_ => XS.aloadN X1.here hx rfl (hb hby d4_49) rfl rfl kk_) ?_
          refine Gq.go (T1.setTop (mkF m 52 #[.val (.ref a1), .val (.ref a2), .val (.long (Int64.ofNat D)), .second, .val (.int (Int32.ofNat s0)), .val (.int (Int32.ofNat e0)), .val (.long (0 : Int64)), .second, .val (.int (Int32.ofNat (min e0 16)))] [(.int (Int32.ofNat (min e0 16))), (.ref a2), (.long (Int64.ofNat (D / 10 ^ (16 - min e0 16))))])) (fun tt_ kk_ => XS.iload X1.here hx rfl (hb hby d4_50) rfl kk_) ?_
          refine Gq.go (T1.setTop (mkF m 54 #[.val (.ref a1), .val (.ref a2), .val (.long (Int64.ofNat D)), .second, .val (.int (Int32.ofNat s0)), .val (.int (Int32.ofNat e0)), .val (.long (0 : Int64)), .second, .val (.int (Int32.ofNat (min e0 16)))] [(.int (Int32.ofNat s0)), (.int (Int32.ofNat (min e0 16))), (.ref a2), (.long (Int64.ofNat (D / 10 ^ (16 - min e0 16))))])) (fun tt_ kk_ => XS.iload X1.here hx rfl (hb hby d4_52) rfl kk_) ?_
          refine Gq.go (T1.setTop (mkF m 55 #[.val (.ref a1), .val (.ref a2), .val (.long (Int64.ofNat D)), .second, .val (.int (Int32.ofNat s0)), .val (.int (Int32.ofNat e0)), .val (.long (0 : Int64)), .second, .val (.int (Int32.ofNat (min e0 16)))] [(.int ((Int32.ofNat (min e0 16)) - (Int32.ofNat s0))), (.ref a2), (.long (Int64.ofNat (D / 10 ^ (16 - min e0 16))))])) (fun tt_ kk_ => XS.isub X1.here hx rfl (hb hby d4_54) rfl kk_) ?_
          rw [show ((Int32.ofNat (min e0 16)) - (Int32.ofNat s0)) = (Int32.ofNat (min e0 16 - s0)) from own_sub (by omega)]
          refine Gq.go (T1.setTop (mkF m 56 #[.val (.ref a1), .val (.ref a2), .val (.long (Int64.ofNat D)), .second, .val (.int (Int32.ofNat s0)), .val (.int (Int32.ofNat e0)), .val (.long (0 : Int64)), .second, .val (.int (Int32.ofNat (min e0 16)))] [(.long (Int64.ofNat (10 ^ (min e0 16 - s0)))), (.long (Int64.ofNat (D / 10 ^ (16 - min e0 16))))])) (fun tt_ kk_ => ldJ X1 hx hZ eh1 V2 (j := (Int32.ofNat (min e0 16 - s0))) (i := (min e0 16 - s0)) (x := (Int64.ofNat (10 ^ (min e0 16 - s0)))) (own_nn (by omega)) (own_nc (by omega)) (by omega) rfl (hb hby d4_55) tt_ kk_) ?_
          refine Gq.go (T1.setTop (mkF m 57 #[.val (.ref a1), .val (.ref a2), .val (.long (Int64.ofNat D)), .second, .val (.int (Int32.ofNat s0)), .val (.int (Int32.ofNat e0)), .val (.long (0 : Int64)), .second, .val (.int (Int32.ofNat (min e0 16)))] [(.long ((Int64.ofNat (D / 10 ^ (16 - min e0 16))) % (Int64.ofNat (10 ^ (min e0 16 - s0)))))])) (fun tt_ kk_ => lremM X1.here hx rfl (hb hby d4_56) rfl (own_ne0 hp2.1 hp2.2) kk_) ?_
          rw [show ((Int64.ofNat (D / 10 ^ (16 - min e0 16))) % (Int64.ofNat (10 ^ (min e0 16 - s0)))) = (own_enc (own_ov g s0 (min e0 16 - s0))) from by rw [o64_rem (by omega) (by omega), own_lead hg (by omega) (by omega)]; rfl]
          refine Gq.go (T1.setTop (mkF m 59 #[.val (.ref a1), .val (.ref a2), .val (.long (Int64.ofNat D)), .second, .val (.int (Int32.ofNat s0)), .val (.int (Int32.ofNat e0)), .val (.long (own_enc (own_ov g s0 (min e0 16 - s0)))), .second, .val (.int (Int32.ofNat (min e0 16)))] [])) (fun tt_ kk_ => XS.lstore X1.here hx rfl (hb hby d4_57) rfl (l' := #[.val (.ref a1), .val (.ref a2), .val (.long (Int64.ofNat D)), .second, .val (.int (Int32.ofNat s0)), .val (.int (Int32.ofNat e0)), .val (.long (own_enc (own_ov g s0 (min e0 16 - s0)))), .second, .val (.int (Int32.ofNat (min e0 16)))]) rfl kk_) ?_
          exact K59 _ _ X1 eh1 N1 _
        · refine Gq.go (s₁.setTop (mkF m 59 #[.val (.ref a1), .val (.ref a2), .val (.long (Int64.ofNat D)), .second, .val (.int (Int32.ofNat s0)), .val (.int (Int32.ofNat e0)), .val (.long (0 : Int64)), .second, .unset] [])) (fun tt_ kk_ => XS.icmpYes X0.here hx rfl (pc0 := 28) (pc' := 59) rfl (hb hby d4_28) rfl (flt (fun q => hs16 ((own_lt (b := 16) (by omega) (by decide)).mp q))).2.1 (by decide) (by decide) kk_) ?_
          rw [show (0 : Int64) = own_enc (own_ov g s0 (min e0 16 - s0)) by rw [show min e0 16 - s0 = 0 by omega]; rfl]
          exact K59 _ _ X0 eh0 N0 _
      intro Tj59 Lj59 Xj59 ehj59 Nj59 sl
      refine Gq.go (Tj59.setTop (mkF m 60 #[.val (.ref a1), .val (.ref a2), .val (.long (Int64.ofNat D)), .second, .val (.int (Int32.ofNat s0)), .val (.int (Int32.ofNat e0)), .val (.long (own_enc (own_ov g s0 (min e0 16 - s0)))), .second, sl] [(.ref a1)])) (fun tt_ kk_ => XS.aloadN Xj59.here hx rfl (hb hby d4_59) rfl rfl kk_) ?_
      refine Gq.go (Tj59.setTop (mkF m 62 #[.val (.ref a1), .val (.ref a2), .val (.long (Int64.ofNat D)), .second, .val (.int (Int32.ofNat s0)), .val (.int (Int32.ofNat e0)), .val (.long (own_enc (own_ov g s0 (min e0 16 - s0)))), .second, sl] [(.int (16 : Int32)), (.ref a1)])) (fun tt_ kk_ => XS.bipush Xj59.here hx rfl (hb hby d4_60) kk_) ?_
      refine Gq.go (Tj59.setTop (mkF m 64 #[.val (.ref a1), .val (.ref a2), .val (.long (Int64.ofNat D)), .second, .val (.int (Int32.ofNat s0)), .val (.int (Int32.ofNat e0)), .val (.long (own_enc (own_ov g s0 (min e0 16 - s0)))), .second, sl] [(.int (Int32.ofNat s0)), (.int (16 : Int32)), (.ref a1)])) (fun tt_ kk_ => XS.iload Xj59.here hx rfl (hb hby d4_62) rfl kk_) ?_
      refine Gq.go (Tj59.setTop (mkF m 66 #[.val (.ref a1), .val (.ref a2), .val (.long (Int64.ofNat D)), .second, .val (.int (Int32.ofNat s0)), .val (.int (Int32.ofNat e0)), .val (.long (own_enc (own_ov g s0 (min e0 16 - s0)))), .second, sl] [(.int (Int32.ofNat e0)), (.int (Int32.ofNat s0)), (.int (16 : Int32)), (.ref a1)])) (fun tt_ kk_ => XS.iload Xj59.here hx rfl (hb hby d4_64) rfl kk_) ?_
      refine Gq.go (Tj59.setTop (mkF m 68 #[.val (.ref a1), .val (.ref a2), .val (.long (Int64.ofNat D)), .second, .val (.int (Int32.ofNat s0)), .val (.int (Int32.ofNat e0)), .val (.long (own_enc (own_ov g s0 (min e0 16 - s0)))), .second, sl] [(.long (own_enc (own_ov g s0 (min e0 16 - s0)))), (.int (Int32.ofNat e0)), (.int (Int32.ofNat s0)), (.int (16 : Int32)), (.ref a1)])) (fun tt_ kk_ => XS.lload Xj59.here hx rfl (hb hby d4_66) rfl kk_) ?_
      obtain ⟨r2, T2, L2, X2, hQ2, st2⟩ := callT (pc := 68) (Ls := #[.val (.ref a1), .val (.ref a2), .val (.long (Int64.ofNat D)), .second, .val (.int (Int32.ofNat s0)), .val (.int (Int32.ofNat e0)), .val (.long (own_enc (own_ov g s0 (min e0 16 - s0)))), .second, sl]) Xj59 hx hZ hown ehj59 [(.ref a1), (.int (16 : Int32)), (.int (Int32.ofNat s0)), (.int (Int32.ofNat e0)), (.long (own_enc (own_ov g s0 (min e0 16 - s0))))] [] (hw _ (List.mem_of_getElem? (i := 35) rfl)) (hw _ (List.mem_of_getElem? (i := 36) rfl)) (hw _ (List.mem_of_getElem? (i := 21) rfl)) (hw _ (List.mem_of_getElem? (i := 37) rfl)) (by decide) (rm5 l Z a0 hw [] a1 g 16 s0 e0 (own_ov g s0 (min e0 16 - s0)) h0 n0 Z0 V1 hbyt (by decide) (by omega) he (fun V hV => own_ov_63 hV (by omega))) pd_1 rfl (by rw [hml]; rfl) (W := 0) (Nat.le_of_eq rfl) (by decide) (by decide) (by decide) (by decide) (hb hby d4_68)
      obtain ⟨rfl, N2q, eh2⟩ := hQ2
      have N2 := Fr.app Nj59 N2q
      rw [own_st_ov g s0 e0 16 hs] at st2
      refine Gq.go (T2.setTop (mkF m 71 #[.val (.ref a1), .val (.ref a2), .val (.long (Int64.ofNat D)), .second, .val (.int (Int32.ofNat s0)), .val (.int (Int32.ofNat e0)), .val (.long (own_enc (own_ov g s0 (min e0 16 - s0)))), .second, sl] [(.long (own_enc (own_ov g s0 (min e0 17 - s0))))])) (fun tt_ kk_ => st2 tt_ kk_) ?_
      refine Gq.go (T2.setTop (mkF m 73 #[.val (.ref a1), .val (.ref a2), .val (.long (Int64.ofNat D)), .second, .val (.int (Int32.ofNat s0)), .val (.int (Int32.ofNat e0)), .val (.long (own_enc (own_ov g s0 (min e0 17 - s0)))), .second, sl] [])) (fun tt_ kk_ => XS.lstore X2.here hx rfl (hb hby d4_71) rfl (l' := #[.val (.ref a1), .val (.ref a2), .val (.long (Int64.ofNat D)), .second, .val (.int (Int32.ofNat s0)), .val (.int (Int32.ofNat e0)), .val (.long (own_enc (own_ov g s0 (min e0 17 - s0)))), .second, sl]) rfl kk_) ?_
      refine Gq.go (T2.setTop (mkF m 74 #[.val (.ref a1), .val (.ref a2), .val (.long (Int64.ofNat D)), .second, .val (.int (Int32.ofNat s0)), .val (.int (Int32.ofNat e0)), .val (.long (own_enc (own_ov g s0 (min e0 17 - s0)))), .second, sl] [(.ref a1)])) (fun tt_ kk_ => XS.aloadN X2.here hx rfl (hb hby d4_73) rfl rfl kk_) ?_
      refine Gq.go (T2.setTop (mkF m 76 #[.val (.ref a1), .val (.ref a2), .val (.long (Int64.ofNat D)), .second, .val (.int (Int32.ofNat s0)), .val (.int (Int32.ofNat e0)), .val (.long (own_enc (own_ov g s0 (min e0 17 - s0)))), .second, sl] [(.int (17 : Int32)), (.ref a1)])) (fun tt_ kk_ => XS.bipush X2.here hx rfl (hb hby d4_74) kk_) ?_
      refine Gq.go (T2.setTop (mkF m 78 #[.val (.ref a1), .val (.ref a2), .val (.long (Int64.ofNat D)), .second, .val (.int (Int32.ofNat s0)), .val (.int (Int32.ofNat e0)), .val (.long (own_enc (own_ov g s0 (min e0 17 - s0)))), .second, sl] [(.int (Int32.ofNat s0)), (.int (17 : Int32)), (.ref a1)])) (fun tt_ kk_ => XS.iload X2.here hx rfl (hb hby d4_76) rfl kk_) ?_
      refine Gq.go (T2.setTop (mkF m 80 #[.val (.ref a1), .val (.ref a2), .val (.long (Int64.ofNat D)), .second, .val (.int (Int32.ofNat s0)), .val (.int (Int32.ofNat e0)), .val (.long (own_enc (own_ov g s0 (min e0 17 - s0)))), .second, sl] [(.int (Int32.ofNat e0)), (.int (Int32.ofNat s0)), (.int (17 : Int32)), (.ref a1)])) (fun tt_ kk_ => XS.iload X2.here hx rfl (hb hby d4_78) rfl kk_) ?_
      refine Gq.go (T2.setTop (mkF m 82 #[.val (.ref a1), .val (.ref a2), .val (.long (Int64.ofNat D)), .second, .val (.int (Int32.ofNat s0)), .val (.int (Int32.ofNat e0)), .val (.long (own_enc (own_ov g s0 (min e0 17 - s0)))), .second, sl] [(.long (own_enc (own_ov g s0 (min e0 17 - s0)))), (.int (Int32.ofNat e0)), (.int (Int32.ofNat s0)), (.int (17 : Int32)), (.ref a1)])) (fun tt_ kk_ => XS.lload X2.here hx rfl (hb hby d4_80) rfl kk_) ?_
      obtain ⟨r3, T3, L3, X3, hQ3, st3⟩ := callT (pc := 82) (Ls := #[.val (.ref a1), .val (.ref a2), .val (.long (Int64.ofNat D)), .second, .val (.int (Int32.ofNat s0)), .val (.int (Int32.ofNat e0)), .val (.long (own_enc (own_ov g s0 (min e0 17 - s0)))), .second, sl]) X2 hx hZ hown eh2 [(.ref a1), (.int (17 : Int32)), (.int (Int32.ofNat s0)), (.int (Int32.ofNat e0)), (.long (own_enc (own_ov g s0 (min e0 17 - s0))))] [] (hw _ (List.mem_of_getElem? (i := 35) rfl)) (hw _ (List.mem_of_getElem? (i := 36) rfl)) (hw _ (List.mem_of_getElem? (i := 21) rfl)) (hw _ (List.mem_of_getElem? (i := 37) rfl)) (by decide) (rm5 l Z a0 hw [] a1 g 17 s0 e0 (own_ov g s0 (min e0 17 - s0)) h0 n0 Z0 V1 hbyt (by decide) (by omega) he (fun V hV => own_ov_63 hV (by omega))) pd_1 rfl (by rw [hml]; rfl) (W := 0) (Nat.le_of_eq rfl) (by decide) (by decide) (by decide) (by decide) (hb hby d4_82)
      obtain ⟨rfl, N3q, eh3⟩ := hQ3
      have N3 := Fr.app N2 N3q
      rw [own_st_ov g s0 e0 17 hs] at st3
      refine Gq.go (T3.setTop (mkF m 85 #[.val (.ref a1), .val (.ref a2), .val (.long (Int64.ofNat D)), .second, .val (.int (Int32.ofNat s0)), .val (.int (Int32.ofNat e0)), .val (.long (own_enc (own_ov g s0 (min e0 17 - s0)))), .second, sl] [(.long (own_enc (own_ov g s0 (min e0 18 - s0))))])) (fun tt_ kk_ => st3 tt_ kk_) ?_
      refine Gq.go (T3.setTop (mkF m 87 #[.val (.ref a1), .val (.ref a2), .val (.long (Int64.ofNat D)), .second, .val (.int (Int32.ofNat s0)), .val (.int (Int32.ofNat e0)), .val (.long (own_enc (own_ov g s0 (min e0 18 - s0)))), .second, sl] [])) (fun tt_ kk_ => XS.lstore X3.here hx rfl (hb hby d4_85) rfl (l' := #[.val (.ref a1), .val (.ref a2), .val (.long (Int64.ofNat D)), .second, .val (.int (Int32.ofNat s0)), .val (.int (Int32.ofNat e0)), .val (.long (own_enc (own_ov g s0 (min e0 18 - s0)))), .second, sl]) rfl kk_) ?_
      refine Gq.go (T3.setTop (mkF m 88 #[.val (.ref a1), .val (.ref a2), .val (.long (Int64.ofNat D)), .second, .val (.int (Int32.ofNat s0)), .val (.int (Int32.ofNat e0)), .val (.long (own_enc (own_ov g s0 (min e0 18 - s0)))), .second, sl] [(.ref a1)])) (fun tt_ kk_ => XS.aloadN X3.here hx rfl (hb hby d4_87) rfl rfl kk_) ?_
      refine Gq.go (T3.setTop (mkF m 90 #[.val (.ref a1), .val (.ref a2), .val (.long (Int64.ofNat D)), .second, .val (.int (Int32.ofNat s0)), .val (.int (Int32.ofNat e0)), .val (.long (own_enc (own_ov g s0 (min e0 18 - s0)))), .second, sl] [(.int (18 : Int32)), (.ref a1)])) (fun tt_ kk_ => XS.bipush X3.here hx rfl (hb hby d4_88) kk_) ?_
      refine Gq.go (T3.setTop (mkF m 92 #[.val (.ref a1), .val (.ref a2), .val (.long (Int64.ofNat D)), .second, .val (.int (Int32.ofNat s0)), .val (.int (Int32.ofNat e0)), .val (.long (own_enc (own_ov g s0 (min e0 18 - s0)))), .second, sl] [(.int (Int32.ofNat s0)), (.int (18 : Int32)), (.ref a1)])) (fun tt_ kk_ => XS.iload X3.here hx rfl (hb hby d4_90) rfl kk_) ?_
      refine Gq.go (T3.setTop (mkF m 94 #[.val (.ref a1), .val (.ref a2), .val (.long (Int64.ofNat D)), .second, .val (.int (Int32.ofNat s0)), .val (.int (Int32.ofNat e0)), .val (.long (own_enc (own_ov g s0 (min e0 18 - s0)))), .second, sl] [(.int (Int32.ofNat e0)), (.int (Int32.ofNat s0)), (.int (18 : Int32)), (.ref a1)])) (fun tt_ kk_ => XS.iload X3.here hx rfl (hb hby d4_92) rfl kk_) ?_
      refine Gq.go (T3.setTop (mkF m 96 #[.val (.ref a1), .val (.ref a2), .val (.long (Int64.ofNat D)), .second, .val (.int (Int32.ofNat s0)), .val (.int (Int32.ofNat e0)), .val (.long (own_enc (own_ov g s0 (min e0 18 - s0)))), .second, sl] [(.long (own_enc (own_ov g s0 (min e0 18 - s0)))), (.int (Int32.ofNat e0)), (.int (Int32.ofNat s0)), (.int (18 : Int32)), (.ref a1)])) (fun tt_ kk_ => XS.lload X3.here hx rfl (hb hby d4_94) rfl kk_) ?_
      obtain ⟨r4, T4, L4, X4, hQ4, st4⟩ := callT (pc := 96) (Ls := #[.val (.ref a1), .val (.ref a2), .val (.long (Int64.ofNat D)), .second, .val (.int (Int32.ofNat s0)), .val (.int (Int32.ofNat e0)), .val (.long (own_enc (own_ov g s0 (min e0 18 - s0)))), .second, sl]) X3 hx hZ hown eh3 [(.ref a1), (.int (18 : Int32)), (.int (Int32.ofNat s0)), (.int (Int32.ofNat e0)), (.long (own_enc (own_ov g s0 (min e0 18 - s0))))] [] (hw _ (List.mem_of_getElem? (i := 35) rfl)) (hw _ (List.mem_of_getElem? (i := 36) rfl)) (hw _ (List.mem_of_getElem? (i := 21) rfl)) (hw _ (List.mem_of_getElem? (i := 37) rfl)) (by decide) (rm5 l Z a0 hw [] a1 g 18 s0 e0 (own_ov g s0 (min e0 18 - s0)) h0 n0 Z0 V1 hbyt (by decide) (by omega) he (fun V hV => own_ov_63 hV (by omega))) pd_1 rfl (by rw [hml]; rfl) (W := 0) (Nat.le_of_eq rfl) (by decide) (by decide) (by decide) (by decide) (hb hby d4_96)
      obtain ⟨rfl, N4q, eh4⟩ := hQ4
      have N4 := Fr.app N3 N4q
      rw [own_st_ov g s0 e0 18 hs] at st4
      refine Gq.go (T4.setTop (mkF m 99 #[.val (.ref a1), .val (.ref a2), .val (.long (Int64.ofNat D)), .second, .val (.int (Int32.ofNat s0)), .val (.int (Int32.ofNat e0)), .val (.long (own_enc (own_ov g s0 (min e0 18 - s0)))), .second, sl] [(.long (own_enc (own_ov g s0 (min e0 19 - s0))))])) (fun tt_ kk_ => st4 tt_ kk_) ?_
      refine Gq.go (T4.setTop (mkF m 101 #[.val (.ref a1), .val (.ref a2), .val (.long (Int64.ofNat D)), .second, .val (.int (Int32.ofNat s0)), .val (.int (Int32.ofNat e0)), .val (.long (own_enc (own_ov g s0 (min e0 19 - s0)))), .second, sl] [])) (fun tt_ kk_ => XS.lstore X4.here hx rfl (hb hby d4_99) rfl (l' := #[.val (.ref a1), .val (.ref a2), .val (.long (Int64.ofNat D)), .second, .val (.int (Int32.ofNat s0)), .val (.int (Int32.ofNat e0)), .val (.long (own_enc (own_ov g s0 (min e0 19 - s0)))), .second, sl]) rfl kk_) ?_
      refine Gq.go (T4.setTop (mkF m 102 #[.val (.ref a1), .val (.ref a2), .val (.long (Int64.ofNat D)), .second, .val (.int (Int32.ofNat s0)), .val (.int (Int32.ofNat e0)), .val (.long (own_enc (own_ov g s0 (min e0 19 - s0)))), .second, sl] [(.ref a1)])) (fun tt_ kk_ => XS.aloadN X4.here hx rfl (hb hby d4_101) rfl rfl kk_) ?_
      refine Gq.go (T4.setTop (mkF m 104 #[.val (.ref a1), .val (.ref a2), .val (.long (Int64.ofNat D)), .second, .val (.int (Int32.ofNat s0)), .val (.int (Int32.ofNat e0)), .val (.long (own_enc (own_ov g s0 (min e0 19 - s0)))), .second, sl] [(.int (19 : Int32)), (.ref a1)])) (fun tt_ kk_ => XS.bipush X4.here hx rfl (hb hby d4_102) kk_) ?_
      refine Gq.go (T4.setTop (mkF m 106 #[.val (.ref a1), .val (.ref a2), .val (.long (Int64.ofNat D)), .second, .val (.int (Int32.ofNat s0)), .val (.int (Int32.ofNat e0)), .val (.long (own_enc (own_ov g s0 (min e0 19 - s0)))), .second, sl] [(.int (Int32.ofNat s0)), (.int (19 : Int32)), (.ref a1)])) (fun tt_ kk_ => XS.iload X4.here hx rfl (hb hby d4_104) rfl kk_) ?_
      refine Gq.go (T4.setTop (mkF m 108 #[.val (.ref a1), .val (.ref a2), .val (.long (Int64.ofNat D)), .second, .val (.int (Int32.ofNat s0)), .val (.int (Int32.ofNat e0)), .val (.long (own_enc (own_ov g s0 (min e0 19 - s0)))), .second, sl] [(.int (Int32.ofNat e0)), (.int (Int32.ofNat s0)), (.int (19 : Int32)), (.ref a1)])) (fun tt_ kk_ => XS.iload X4.here hx rfl (hb hby d4_106) rfl kk_) ?_
      refine Gq.go (T4.setTop (mkF m 110 #[.val (.ref a1), .val (.ref a2), .val (.long (Int64.ofNat D)), .second, .val (.int (Int32.ofNat s0)), .val (.int (Int32.ofNat e0)), .val (.long (own_enc (own_ov g s0 (min e0 19 - s0)))), .second, sl] [(.long (own_enc (own_ov g s0 (min e0 19 - s0)))), (.int (Int32.ofNat e0)), (.int (Int32.ofNat s0)), (.int (19 : Int32)), (.ref a1)])) (fun tt_ kk_ => XS.lload X4.here hx rfl (hb hby d4_108) rfl kk_) ?_
      obtain ⟨r5, T5, L5, X5, hQ5, st5⟩ := callT (pc := 110) (Ls := #[.val (.ref a1), .val (.ref a2), .val (.long (Int64.ofNat D)), .second, .val (.int (Int32.ofNat s0)), .val (.int (Int32.ofNat e0)), .val (.long (own_enc (own_ov g s0 (min e0 19 - s0)))), .second, sl]) X4 hx hZ hown eh4 [(.ref a1), (.int (19 : Int32)), (.int (Int32.ofNat s0)), (.int (Int32.ofNat e0)), (.long (own_enc (own_ov g s0 (min e0 19 - s0))))] [] (hw _ (List.mem_of_getElem? (i := 35) rfl)) (hw _ (List.mem_of_getElem? (i := 36) rfl)) (hw _ (List.mem_of_getElem? (i := 21) rfl)) (hw _ (List.mem_of_getElem? (i := 37) rfl)) (by decide) (rm5 l Z a0 hw [] a1 g 19 s0 e0 (own_ov g s0 (min e0 19 - s0)) h0 n0 Z0 V1 hbyt (by decide) (by omega) he (fun V hV => own_ov_63 hV (by omega))) pd_1 rfl (by rw [hml]; rfl) (W := 0) (Nat.le_of_eq rfl) (by decide) (by decide) (by decide) (by decide) (hb hby d4_110)
      obtain ⟨rfl, N5q, eh5⟩ := hQ5
      have N5 := Fr.app N4 N5q
      rw [own_st_ov g s0 e0 19 hs] at st5
      refine Gq.go (T5.setTop (mkF m 113 #[.val (.ref a1), .val (.ref a2), .val (.long (Int64.ofNat D)), .second, .val (.int (Int32.ofNat s0)), .val (.int (Int32.ofNat e0)), .val (.long (own_enc (own_ov g s0 (min e0 19 - s0)))), .second, sl] [(.long (own_enc (own_ov g s0 (min e0 20 - s0))))])) (fun tt_ kk_ => st5 tt_ kk_) ?_
      refine Gq.go (T5.setTop (mkF m 115 #[.val (.ref a1), .val (.ref a2), .val (.long (Int64.ofNat D)), .second, .val (.int (Int32.ofNat s0)), .val (.int (Int32.ofNat e0)), .val (.long (own_enc (own_ov g s0 (min e0 20 - s0)))), .second, sl] [])) (fun tt_ kk_ => XS.lstore X5.here hx rfl (hb hby d4_113) rfl (l' := #[.val (.ref a1), .val (.ref a2), .val (.long (Int64.ofNat D)), .second, .val (.int (Int32.ofNat s0)), .val (.int (Int32.ofNat e0)), .val (.long (own_enc (own_ov g s0 (min e0 20 - s0)))), .second, sl]) rfl kk_) ?_
      refine Gq.go (T5.setTop (mkF m 117 #[.val (.ref a1), .val (.ref a2), .val (.long (Int64.ofNat D)), .second, .val (.int (Int32.ofNat s0)), .val (.int (Int32.ofNat e0)), .val (.long (own_enc (own_ov g s0 (min e0 20 - s0)))), .second, sl] [(.long (own_enc (own_ov g s0 (min e0 20 - s0))))])) (fun tt_ kk_ => XS.lload X5.here hx rfl (hb hby d4_115) rfl kk_) ?_
      refine Gq.retL X5 hx Bd.notSynchronized Bd.returns (hb hby d4_117) (by decide) (by decide) ?_
      show Q4 Z a1 a2 D g s0 e0 h0 n0 _ T5.heap _
      rw [eh5]
      exact ⟨by unfold own_wn; rw [if_neg hse, if_neg h18, show min e0 20 = e0 by omega], N5, rfl⟩
theorem pd_2 : parseMethodDescriptor "(J[JI)B" = some ⟨[.long, (.array .long), .int], some .byte⟩ := by decide +kernel
theorem pd_3 : parseMethodDescriptor "([B[JJII)J" = some ⟨[(.array .byte), (.array .long), .long, .int, .int], some .long⟩ := by decide +kernel
theorem pd_4 : parseMethodDescriptor "([BII)J" = some ⟨[(.array .byte), .int, .int], some .long⟩ := by decide +kernel
theorem ef0 (m : MethodId) (y0 : Int32) (y1 : Int32) (y2 : Int64) (y3 : Int32) : entryFrame m #[(.int y0), (.int y1), (.long y2), (.int y3)] maxLocals = mkF m 0 #[.val (.int y0), .val (.int y1), .val (.long y2), .second, .val (.int y3), .unset, .unset, .unset, .unset, .unset, .unset, .unset, .unset, .unset, .unset] [] := by first | (simp [entryFrame, mkF, argsToLocals, Value.category, maxLocals]; done) | rfl
def Q0 (Z : State) (x0 : Int32) (x1 : Int32) (x2 : Int64) (x3 : Int32) (h0 : Heap) (n0 : Nat) (v : Option Value) (h : Heap) (L : List Loc) : Prop := v = some (.int (1 : Int32)) ∧ Fr n0 L
set_option maxRecDepth 65536 in
set_option maxHeartbeats 40000000 in
theorem rm0 (l : Launch) (Z : State) (a0 : Array Value) (hw : ∀ d ∈ tables_1, d.before a0 Z = true) (ws : List Jvm.Cond) (x0 : Int32) (x1 : Int32) (x2 : Int64) (x3 : Int32) (h0 : Heap) (n0 : Nat) (Z0 : n0 ≤ h0.size)  :
    MetFree l x (head1 (Jvm.Cond.code x code maxLocals ret :: ws) room_1) (fun a U => a = #[(.int x0), (.int x1), (.long x2), (.int x3)] ∧ Z.Warmed39 U.vm ∧ U.heap = h0) (fun _ _ _ _ _ => True) (fun _ U o U' => ∃ v L, o = .returned v ∧ Q0 Z x0 x1 x2 x3 h0 n0 v U'.heap L ∧ FrameEnd U o U' L room_1.cells room_1.slots) := by
  refine MetFree.of_bodySF (plainFor_of_name pn_com_example_clearwright_clearwright_io_NumberTextWholeNumberPinLaw) hisR ?_
  intro p e s m args below meth c s₁ Bd hml0 hP hK
  obtain ⟨rfl, hZ, hh⟩ := hP
  have hx := Bd.exec
  have hby := Bd.bytes
  have hml : c.maxLocals = 15 := hml0
  have hown : s.vm.findClass "com/example/clearwright/clearwright/io/NumberTextWholeNumberPinLaw" = some m.cls := findClass_of_methodNamed Bd.named
  have hnm := (name_of_methodNamed Bd.named Bd.method).1
  have X0 : Stand p l e room_1 s m #[(.int x0), (.int x1), (.long x2), (.int x3)] below meth c s₁ [] 0 0 := Stand.of_body Bd
  have eh0 : s₁.heap = h0 := by rw [← hh, Bd.state]; rfl
  have N0 := Fr.nil n0
  refine Gq.start (Q := Q0 Z x0 x1 x2 x3 h0 n0) (kc := room_1.cells) (ks := room_1.slots) (ef0 m x0 x1 x2 x3) ?_
  refine Gq.go (s₁.setTop (mkF m 2 #[.val (.int x0), .val (.int x1), .val (.long x2), .second, .val (.int x3), .unset, .unset, .unset, .unset, .unset, .unset, .unset, .unset, .unset, .unset] [(.int (17 : Int32))])) (fun tt_ kk_ => XS.bipush X0.here hx rfl (hb hby at_0) kk_) ?_
  obtain ⟨T1, h1, b1, X1, eh1, E1, aq1, V1, st1⟩ := mkA X0 hx hZ (hw _ (List.mem_of_getElem? (i := 0) rfl)) eh0 (z := (17 : Int32)) (n := 17) (Ls := #[.val (.int x0), .val (.int x1), .val (.long x2), .second, .val (.int x3), .unset, .unset, .unset, .unset, .unset, .unset, .unset, .unset, .unset, .unset]) (rest := []) (by decide) rfl (by decide) (by decide) (by decide) (hb hby at_2)
  have g_b1 : n0 ≤ b1 := Nat.le_trans Z0 (Nat.le_of_eq aq1.symm)
  have za2 : n0 ≤ h1.size := Nat.le_trans Z0 E1.1
  have V1' : LA Z h1 b1 .long 17 (gl [(.long (0 : Int64)), (.long (0 : Int64)), (.long (0 : Int64)), (.long (0 : Int64)), (.long (0 : Int64)), (.long (0 : Int64)), (.long (0 : Int64)), (.long (0 : Int64)), (.long (0 : Int64)), (.long (0 : Int64)), (.long (0 : Int64)), (.long (0 : Int64)), (.long (0 : Int64)), (.long (0 : Int64)), (.long (0 : Int64)), (.long (0 : Int64)), (.long (0 : Int64))] (.long (0 : Int64))) := V1.list
  have ta1' := V1'.lt
  refine Gq.go (T1.setTop (mkF m 4 #[.val (.int x0), .val (.int x1), .val (.long x2), .second, .val (.int x3), .unset, .unset, .unset, .unset, .unset, .unset, .unset, .unset, .unset, .unset] [(.ref b1)])) (fun tt_ kk_ => st1 tt_ kk_) ?_
  refine Gq.go (T1.setTop (mkF m 5 #[.val (.int x0), .val (.int x1), .val (.long x2), .second, .val (.int x3), .unset, .unset, .unset, .unset, .unset, .unset, .unset, .unset, .unset, .unset] [(.ref b1), (.ref b1)])) (fun tt_ kk_ => XS.dup X1.here hx rfl (hb hby at_4) rfl rfl kk_) ?_
  refine Gq.go (T1.setTop (mkF m 6 #[.val (.int x0), .val (.int x1), .val (.long x2), .second, .val (.int x3), .unset, .unset, .unset, .unset, .unset, .unset, .unset, .unset, .unset, .unset] [(.int (0 : Int32)), (.ref b1), (.ref b1)])) (fun tt_ kk_ => XS.iconst X1.here hx rfl (hb hby at_5) kk_) ?_
  refine Gq.go (T1.setTop (mkF m 7 #[.val (.int x0), .val (.int x1), .val (.long x2), .second, .val (.int x3), .unset, .unset, .unset, .unset, .unset, .unset, .unset, .unset, .unset, .unset] [(.long (1 : Int64)), (.int (0 : Int32)), (.ref b1), (.ref b1)])) (fun tt_ kk_ => XS.lconst X1.here hx rfl (hb hby at_6) kk_) ?_
  obtain ⟨T3, h3, X3, eh3, W3, st3⟩ := stoJ X1 hx hZ eh1 V1' (j := (0 : Int32)) (i := 0) (x := (1 : Int64)) (Ls := #[.val (.int x0), .val (.int x1), .val (.long x2), .second, .val (.int x3), .unset, .unset, .unset, .unset, .unset, .unset, .unset, .unset, .unset, .unset]) (rest := [(.ref b1)]) (by decide) rfl (by decide) (hb hby at_7)
  have ta4 := Nat.lt_of_lt_of_le ta1' (Nat.le_of_eq W3.size.symm)
  have za5 : n0 ≤ h3.size := Nat.le_trans za2 (Nat.le_of_eq W3.size.symm)
  have V3 : LA Z h3 b1 .long 17 (gl [(.long (1 : Int64)), (.long (0 : Int64)), (.long (0 : Int64)), (.long (0 : Int64)), (.long (0 : Int64)), (.long (0 : Int64)), (.long (0 : Int64)), (.long (0 : Int64)), (.long (0 : Int64)), (.long (0 : Int64)), (.long (0 : Int64)), (.long (0 : Int64)), (.long (0 : Int64)), (.long (0 : Int64)), (.long (0 : Int64)), (.long (0 : Int64)), (.long (0 : Int64))] (.long (0 : Int64))) := V1'.setL W3 (Nat.le_of_ble_eq_true rfl)
  have N3 := Fr.snoc X3 N0 g_b1
  refine Gq.go (T3.setTop (mkF m 8 #[.val (.int x0), .val (.int x1), .val (.long x2), .second, .val (.int x3), .unset, .unset, .unset, .unset, .unset, .unset, .unset, .unset, .unset, .unset] [(.ref b1)])) (fun tt_ kk_ => st3 tt_ kk_) ?_
  refine Gq.go (T3.setTop (mkF m 9 #[.val (.int x0), .val (.int x1), .val (.long x2), .second, .val (.int x3), .unset, .unset, .unset, .unset, .unset, .unset, .unset, .unset, .unset, .unset] [(.ref b1), (.ref b1)])) (fun tt_ kk_ => XS.dup X3.here hx rfl (hb hby at_8) rfl rfl kk_) ?_
  refine Gq.go (T3.setTop (mkF m 10 #[.val (.int x0), .val (.int x1), .val (.long x2), .second, .val (.int x3), .unset, .unset, .unset, .unset, .unset, .unset, .unset, .unset, .unset, .unset] [(.int (1 : Int32)), (.ref b1), (.ref b1)])) (fun tt_ kk_ => XS.iconst X3.here hx rfl (hb hby at_9) kk_) ?_
  refine Gq.go (T3.setTop (mkF m 13 #[.val (.int x0), .val (.int x1), .val (.long x2), .second, .val (.int x3), .unset, .unset, .unset, .unset, .unset, .unset, .unset, .unset, .unset, .unset] [(.long (10 : Int64)), (.int (1 : Int32)), (.ref b1), (.ref b1)])) (fun tt_ kk_ => X3.ldc2Long hx hown (mvT hZ (hw _ (List.mem_of_getElem? (i := 1) rfl))) (g := (mkF m 10 #[.val (.int x0), .val (.int x1), .val (.long x2), .second, .val (.int x3), .unset, .unset, .unset, .unset, .unset, .unset, .unset, .unset, .unset, .unset] [(.int (1 : Int32)), (.ref b1), (.ref b1)])) rfl (hb hby at_10) _ kk_) ?_
  obtain ⟨T6, h6, X6, eh6, W6, st6⟩ := stoJ X3 hx hZ eh3 V3 (j := (1 : Int32)) (i := 1) (x := (10 : Int64)) (Ls := #[.val (.int x0), .val (.int x1), .val (.long x2), .second, .val (.int x3), .unset, .unset, .unset, .unset, .unset, .unset, .unset, .unset, .unset, .unset]) (rest := [(.ref b1)]) (by decide) rfl (by decide) (hb hby at_13)
  have ta7 := Nat.lt_of_lt_of_le ta4 (Nat.le_of_eq W6.size.symm)
  have za8 : n0 ≤ h6.size := Nat.le_trans za5 (Nat.le_of_eq W6.size.symm)
  have V6 : LA Z h6 b1 .long 17 (gl [(.long (1 : Int64)), (.long (10 : Int64)), (.long (0 : Int64)), (.long (0 : Int64)), (.long (0 : Int64)), (.long (0 : Int64)), (.long (0 : Int64)), (.long (0 : Int64)), (.long (0 : Int64)), (.long (0 : Int64)), (.long (0 : Int64)), (.long (0 : Int64)), (.long (0 : Int64)), (.long (0 : Int64)), (.long (0 : Int64)), (.long (0 : Int64)), (.long (0 : Int64))] (.long (0 : Int64))) := V3.setL W6 (Nat.le_of_ble_eq_true rfl)
  have N6 := Fr.snoc X6 N3 g_b1
  refine Gq.go (T6.setTop (mkF m 14 #[.val (.int x0), .val (.int x1), .val (.long x2), .second, .val (.int x3), .unset, .unset, .unset, .unset, .unset, .unset, .unset, .unset, .unset, .unset] [(.ref b1)])) (fun tt_ kk_ => st6 tt_ kk_) ?_
  refine Gq.go (T6.setTop (mkF m 15 #[.val (.int x0), .val (.int x1), .val (.long x2), .second, .val (.int x3), .unset, .unset, .unset, .unset, .unset, .unset, .unset, .unset, .unset, .unset] [(.ref b1), (.ref b1)])) (fun tt_ kk_ => XS.dup X6.here hx rfl (hb hby at_14) rfl rfl kk_) ?_
  refine Gq.go (T6.setTop (mkF m 16 #[.val (.int x0), .val (.int x1), .val (.long x2), .second, .val (.int x3), .unset, .unset, .unset, .unset, .unset, .unset, .unset, .unset, .unset, .unset] [(.int (2 : Int32)), (.ref b1), (.ref b1)])) (fun tt_ kk_ => XS.iconst X6.here hx rfl (hb hby at_15) kk_) ?_
  refine Gq.go (T6.setTop (mkF m 19 #[.val (.int x0), .val (.int x1), .val (.long x2), .second, .val (.int x3), .unset, .unset, .unset, .unset, .unset, .unset, .unset, .unset, .unset, .unset] [(.long (100 : Int64)), (.int (2 : Int32)), (.ref b1), (.ref b1)])) (fun tt_ kk_ => X6.ldc2Long hx hown (mvT hZ (hw _ (List.mem_of_getElem? (i := 2) rfl))) (g := (mkF m 16 #[.val (.int x0), .val (.int x1), .val (.long x2), .second, .val (.int x3), .unset, .unset, .unset, .unset, .unset, .unset, .unset, .unset, .unset, .unset] [(.int (2 : Int32)), (.ref b1), (.ref b1)])) rfl (hb hby at_16) _ kk_) ?_
  obtain ⟨T9, h9, X9, eh9, W9, st9⟩ := stoJ X6 hx hZ eh6 V6 (j := (2 : Int32)) (i := 2) (x := (100 : Int64)) (Ls := #[.val (.int x0), .val (.int x1), .val (.long x2), .second, .val (.int x3), .unset, .unset, .unset, .unset, .unset, .unset, .unset, .unset, .unset, .unset]) (rest := [(.ref b1)]) (by decide) rfl (by decide) (hb hby at_19)
  have ta10 := Nat.lt_of_lt_of_le ta7 (Nat.le_of_eq W9.size.symm)
  have za11 : n0 ≤ h9.size := Nat.le_trans za8 (Nat.le_of_eq W9.size.symm)
  have V9 : LA Z h9 b1 .long 17 (gl [(.long (1 : Int64)), (.long (10 : Int64)), (.long (100 : Int64)), (.long (0 : Int64)), (.long (0 : Int64)), (.long (0 : Int64)), (.long (0 : Int64)), (.long (0 : Int64)), (.long (0 : Int64)), (.long (0 : Int64)), (.long (0 : Int64)), (.long (0 : Int64)), (.long (0 : Int64)), (.long (0 : Int64)), (.long (0 : Int64)), (.long (0 : Int64)), (.long (0 : Int64))] (.long (0 : Int64))) := V6.setL W9 (Nat.le_of_ble_eq_true rfl)
  have N9 := Fr.snoc X9 N6 g_b1
  refine Gq.go (T9.setTop (mkF m 20 #[.val (.int x0), .val (.int x1), .val (.long x2), .second, .val (.int x3), .unset, .unset, .unset, .unset, .unset, .unset, .unset, .unset, .unset, .unset] [(.ref b1)])) (fun tt_ kk_ => st9 tt_ kk_) ?_
  refine Gq.go (T9.setTop (mkF m 21 #[.val (.int x0), .val (.int x1), .val (.long x2), .second, .val (.int x3), .unset, .unset, .unset, .unset, .unset, .unset, .unset, .unset, .unset, .unset] [(.ref b1), (.ref b1)])) (fun tt_ kk_ => XS.dup X9.here hx rfl (hb hby at_20) rfl rfl kk_) ?_
  refine Gq.go (T9.setTop (mkF m 22 #[.val (.int x0), .val (.int x1), .val (.long x2), .second, .val (.int x3), .unset, .unset, .unset, .unset, .unset, .unset, .unset, .unset, .unset, .unset] [(.int (3 : Int32)), (.ref b1), (.ref b1)])) (fun tt_ kk_ => XS.iconst X9.here hx rfl (hb hby at_21) kk_) ?_
  refine Gq.go (T9.setTop (mkF m 25 #[.val (.int x0), .val (.int x1), .val (.long x2), .second, .val (.int x3), .unset, .unset, .unset, .unset, .unset, .unset, .unset, .unset, .unset, .unset] [(.long (1000 : Int64)), (.int (3 : Int32)), (.ref b1), (.ref b1)])) (fun tt_ kk_ => X9.ldc2Long hx hown (mvT hZ (hw _ (List.mem_of_getElem? (i := 3) rfl))) (g := (mkF m 22 #[.val (.int x0), .val (.int x1), .val (.long x2), .second, .val (.int x3), .unset, .unset, .unset, .unset, .unset, .unset, .unset, .unset, .unset, .unset] [(.int (3 : Int32)), (.ref b1), (.ref b1)])) rfl (hb hby at_22) _ kk_) ?_
  obtain ⟨T12, h12, X12, eh12, W12, st12⟩ := stoJ X9 hx hZ eh9 V9 (j := (3 : Int32)) (i := 3) (x := (1000 : Int64)) (Ls := #[.val (.int x0), .val (.int x1), .val (.long x2), .second, .val (.int x3), .unset, .unset, .unset, .unset, .unset, .unset, .unset, .unset, .unset, .unset]) (rest := [(.ref b1)]) (by decide) rfl (by decide) (hb hby at_25)
  have ta13 := Nat.lt_of_lt_of_le ta10 (Nat.le_of_eq W12.size.symm)
  have za14 : n0 ≤ h12.size := Nat.le_trans za11 (Nat.le_of_eq W12.size.symm)
  have V12 : LA Z h12 b1 .long 17 (gl [(.long (1 : Int64)), (.long (10 : Int64)), (.long (100 : Int64)), (.long (1000 : Int64)), (.long (0 : Int64)), (.long (0 : Int64)), (.long (0 : Int64)), (.long (0 : Int64)), (.long (0 : Int64)), (.long (0 : Int64)), (.long (0 : Int64)), (.long (0 : Int64)), (.long (0 : Int64)), (.long (0 : Int64)), (.long (0 : Int64)), (.long (0 : Int64)), (.long (0 : Int64))] (.long (0 : Int64))) := V9.setL W12 (Nat.le_of_ble_eq_true rfl)
  have N12 := Fr.snoc X12 N9 g_b1
  refine Gq.go (T12.setTop (mkF m 26 #[.val (.int x0), .val (.int x1), .val (.long x2), .second, .val (.int x3), .unset, .unset, .unset, .unset, .unset, .unset, .unset, .unset, .unset, .unset] [(.ref b1)])) (fun tt_ kk_ => st12 tt_ kk_) ?_
  refine Gq.go (T12.setTop (mkF m 27 #[.val (.int x0), .val (.int x1), .val (.long x2), .second, .val (.int x3), .unset, .unset, .unset, .unset, .unset, .unset, .unset, .unset, .unset, .unset] [(.ref b1), (.ref b1)])) (fun tt_ kk_ => XS.dup X12.here hx rfl (hb hby at_26) rfl rfl kk_) ?_
  refine Gq.go (T12.setTop (mkF m 28 #[.val (.int x0), .val (.int x1), .val (.long x2), .second, .val (.int x3), .unset, .unset, .unset, .unset, .unset, .unset, .unset, .unset, .unset, .unset] [(.int (4 : Int32)), (.ref b1), (.ref b1)])) (fun tt_ kk_ => XS.iconst X12.here hx rfl (hb hby at_27) kk_) ?_
  refine Gq.go (T12.setTop (mkF m 31 #[.val (.int x0), .val (.int x1), .val (.long x2), .second, .val (.int x3), .unset, .unset, .unset, .unset, .unset, .unset, .unset, .unset, .unset, .unset] [(.long (10000 : Int64)), (.int (4 : Int32)), (.ref b1), (.ref b1)])) (fun tt_ kk_ => X12.ldc2Long hx hown (mvT hZ (hw _ (List.mem_of_getElem? (i := 4) rfl))) (g := (mkF m 28 #[.val (.int x0), .val (.int x1), .val (.long x2), .second, .val (.int x3), .unset, .unset, .unset, .unset, .unset, .unset, .unset, .unset, .unset, .unset] [(.int (4 : Int32)), (.ref b1), (.ref b1)])) rfl (hb hby at_28) _ kk_) ?_
  obtain ⟨T15, h15, X15, eh15, W15, st15⟩ := stoJ X12 hx hZ eh12 V12 (j := (4 : Int32)) (i := 4) (x := (10000 : Int64)) (Ls := #[.val (.int x0), .val (.int x1), .val (.long x2), .second, .val (.int x3), .unset, .unset, .unset, .unset, .unset, .unset, .unset, .unset, .unset, .unset]) (rest := [(.ref b1)]) (by decide) rfl (by decide) (hb hby at_31)
  have ta16 := Nat.lt_of_lt_of_le ta13 (Nat.le_of_eq W15.size.symm)
  have za17 : n0 ≤ h15.size := Nat.le_trans za14 (Nat.le_of_eq W15.size.symm)
  have V15 : LA Z h15 b1 .long 17 (gl [(.long (1 : Int64)), (.long (10 : Int64)), (.long (100 : Int64)), (.long (1000 : Int64)), (.long (10000 : Int64)), (.long (0 : Int64)), (.long (0 : Int64)), (.long (0 : Int64)), (.long (0 : Int64)), (.long (0 : Int64)), (.long (0 : Int64)), (.long (0 : Int64)), (.long (0 : Int64)), (.long (0 : Int64)), (.long (0 : Int64)), (.long (0 : Int64)), (.long (0 : Int64))] (.long (0 : Int64))) := V12.setL W15 (Nat.le_of_ble_eq_true rfl)
  have N15 := Fr.snoc X15 N12 g_b1
  refine Gq.go (T15.setTop (mkF m 32 #[.val (.int x0), .val (.int x1), .val (.long x2), .second, .val (.int x3), .unset, .unset, .unset, .unset, .unset, .unset, .unset, .unset, .unset, .unset] [(.ref b1)])) (fun tt_ kk_ => st15 tt_ kk_) ?_
  refine Gq.go (T15.setTop (mkF m 33 #[.val (.int x0), .val (.int x1), .val (.long x2), .second, .val (.int x3), .unset, .unset, .unset, .unset, .unset, .unset, .unset, .unset, .unset, .unset] [(.ref b1), (.ref b1)])) (fun tt_ kk_ => XS.dup X15.here hx rfl (hb hby at_32) rfl rfl kk_) ?_
  refine Gq.go (T15.setTop (mkF m 34 #[.val (.int x0), .val (.int x1), .val (.long x2), .second, .val (.int x3), .unset, .unset, .unset, .unset, .unset, .unset, .unset, .unset, .unset, .unset] [(.int (5 : Int32)), (.ref b1), (.ref b1)])) (fun tt_ kk_ => XS.iconst X15.here hx rfl (hb hby at_33) kk_) ?_
  refine Gq.go (T15.setTop (mkF m 37 #[.val (.int x0), .val (.int x1), .val (.long x2), .second, .val (.int x3), .unset, .unset, .unset, .unset, .unset, .unset, .unset, .unset, .unset, .unset] [(.long (100000 : Int64)), (.int (5 : Int32)), (.ref b1), (.ref b1)])) (fun tt_ kk_ => X15.ldc2Long hx hown (mvT hZ (hw _ (List.mem_of_getElem? (i := 5) rfl))) (g := (mkF m 34 #[.val (.int x0), .val (.int x1), .val (.long x2), .second, .val (.int x3), .unset, .unset, .unset, .unset, .unset, .unset, .unset, .unset, .unset, .unset] [(.int (5 : Int32)), (.ref b1), (.ref b1)])) rfl (hb hby at_34) _ kk_) ?_
  obtain ⟨T18, h18, X18, eh18, W18, st18⟩ := stoJ X15 hx hZ eh15 V15 (j := (5 : Int32)) (i := 5) (x := (100000 : Int64)) (Ls := #[.val (.int x0), .val (.int x1), .val (.long x2), .second, .val (.int x3), .unset, .unset, .unset, .unset, .unset, .unset, .unset, .unset, .unset, .unset]) (rest := [(.ref b1)]) (by decide) rfl (by decide) (hb hby at_37)
  have ta19 := Nat.lt_of_lt_of_le ta16 (Nat.le_of_eq W18.size.symm)
  have za20 : n0 ≤ h18.size := Nat.le_trans za17 (Nat.le_of_eq W18.size.symm)
  have V18 : LA Z h18 b1 .long 17 (gl [(.long (1 : Int64)), (.long (10 : Int64)), (.long (100 : Int64)), (.long (1000 : Int64)), (.long (10000 : Int64)), (.long (100000 : Int64)), (.long (0 : Int64)), (.long (0 : Int64)), (.long (0 : Int64)), (.long (0 : Int64)), (.long (0 : Int64)), (.long (0 : Int64)), (.long (0 : Int64)), (.long (0 : Int64)), (.long (0 : Int64)), (.long (0 : Int64)), (.long (0 : Int64))] (.long (0 : Int64))) := V15.setL W18 (Nat.le_of_ble_eq_true rfl)
  have N18 := Fr.snoc X18 N15 g_b1
  refine Gq.go (T18.setTop (mkF m 38 #[.val (.int x0), .val (.int x1), .val (.long x2), .second, .val (.int x3), .unset, .unset, .unset, .unset, .unset, .unset, .unset, .unset, .unset, .unset] [(.ref b1)])) (fun tt_ kk_ => st18 tt_ kk_) ?_
  refine Gq.go (T18.setTop (mkF m 39 #[.val (.int x0), .val (.int x1), .val (.long x2), .second, .val (.int x3), .unset, .unset, .unset, .unset, .unset, .unset, .unset, .unset, .unset, .unset] [(.ref b1), (.ref b1)])) (fun tt_ kk_ => XS.dup X18.here hx rfl (hb hby at_38) rfl rfl kk_) ?_
  refine Gq.go (T18.setTop (mkF m 41 #[.val (.int x0), .val (.int x1), .val (.long x2), .second, .val (.int x3), .unset, .unset, .unset, .unset, .unset, .unset, .unset, .unset, .unset, .unset] [(.int (6 : Int32)), (.ref b1), (.ref b1)])) (fun tt_ kk_ => XS.bipush X18.here hx rfl (hb hby at_39) kk_) ?_
  refine Gq.go (T18.setTop (mkF m 44 #[.val (.int x0), .val (.int x1), .val (.long x2), .second, .val (.int x3), .unset, .unset, .unset, .unset, .unset, .unset, .unset, .unset, .unset, .unset] [(.long (1000000 : Int64)), (.int (6 : Int32)), (.ref b1), (.ref b1)])) (fun tt_ kk_ => X18.ldc2Long hx hown (mvT hZ (hw _ (List.mem_of_getElem? (i := 6) rfl))) (g := (mkF m 41 #[.val (.int x0), .val (.int x1), .val (.long x2), .second, .val (.int x3), .unset, .unset, .unset, .unset, .unset, .unset, .unset, .unset, .unset, .unset] [(.int (6 : Int32)), (.ref b1), (.ref b1)])) rfl (hb hby at_41) _ kk_) ?_
  obtain ⟨T21, h21, X21, eh21, W21, st21⟩ := stoJ X18 hx hZ eh18 V18 (j := (6 : Int32)) (i := 6) (x := (1000000 : Int64)) (Ls := #[.val (.int x0), .val (.int x1), .val (.long x2), .second, .val (.int x3), .unset, .unset, .unset, .unset, .unset, .unset, .unset, .unset, .unset, .unset]) (rest := [(.ref b1)]) (by decide) rfl (by decide) (hb hby at_44)
  have ta22 := Nat.lt_of_lt_of_le ta19 (Nat.le_of_eq W21.size.symm)
  have za23 : n0 ≤ h21.size := Nat.le_trans za20 (Nat.le_of_eq W21.size.symm)
  have V21 : LA Z h21 b1 .long 17 (gl [(.long (1 : Int64)), (.long (10 : Int64)), (.long (100 : Int64)), (.long (1000 : Int64)), (.long (10000 : Int64)), (.long (100000 : Int64)), (.long (1000000 : Int64)), (.long (0 : Int64)), (.long (0 : Int64)), (.long (0 : Int64)), (.long (0 : Int64)), (.long (0 : Int64)), (.long (0 : Int64)), (.long (0 : Int64)), (.long (0 : Int64)), (.long (0 : Int64)), (.long (0 : Int64))] (.long (0 : Int64))) := V18.setL W21 (Nat.le_of_ble_eq_true rfl)
  have N21 := Fr.snoc X21 N18 g_b1
  refine Gq.go (T21.setTop (mkF m 45 #[.val (.int x0), .val (.int x1), .val (.long x2), .second, .val (.int x3), .unset, .unset, .unset, .unset, .unset, .unset, .unset, .unset, .unset, .unset] [(.ref b1)])) (fun tt_ kk_ => st21 tt_ kk_) ?_
  refine Gq.go (T21.setTop (mkF m 46 #[.val (.int x0), .val (.int x1), .val (.long x2), .second, .val (.int x3), .unset, .unset, .unset, .unset, .unset, .unset, .unset, .unset, .unset, .unset] [(.ref b1), (.ref b1)])) (fun tt_ kk_ => XS.dup X21.here hx rfl (hb hby at_45) rfl rfl kk_) ?_
  refine Gq.go (T21.setTop (mkF m 48 #[.val (.int x0), .val (.int x1), .val (.long x2), .second, .val (.int x3), .unset, .unset, .unset, .unset, .unset, .unset, .unset, .unset, .unset, .unset] [(.int (7 : Int32)), (.ref b1), (.ref b1)])) (fun tt_ kk_ => XS.bipush X21.here hx rfl (hb hby at_46) kk_) ?_
  refine Gq.go (T21.setTop (mkF m 51 #[.val (.int x0), .val (.int x1), .val (.long x2), .second, .val (.int x3), .unset, .unset, .unset, .unset, .unset, .unset, .unset, .unset, .unset, .unset] [(.long (10000000 : Int64)), (.int (7 : Int32)), (.ref b1), (.ref b1)])) (fun tt_ kk_ => X21.ldc2Long hx hown (mvT hZ (hw _ (List.mem_of_getElem? (i := 7) rfl))) (g := (mkF m 48 #[.val (.int x0), .val (.int x1), .val (.long x2), .second, .val (.int x3), .unset, .unset, .unset, .unset, .unset, .unset, .unset, .unset, .unset, .unset] [(.int (7 : Int32)), (.ref b1), (.ref b1)])) rfl (hb hby at_48) _ kk_) ?_
  obtain ⟨T24, h24, X24, eh24, W24, st24⟩ := stoJ X21 hx hZ eh21 V21 (j := (7 : Int32)) (i := 7) (x := (10000000 : Int64)) (Ls := #[.val (.int x0), .val (.int x1), .val (.long x2), .second, .val (.int x3), .unset, .unset, .unset, .unset, .unset, .unset, .unset, .unset, .unset, .unset]) (rest := [(.ref b1)]) (by decide) rfl (by decide) (hb hby at_51)
  have ta25 := Nat.lt_of_lt_of_le ta22 (Nat.le_of_eq W24.size.symm)
  have za26 : n0 ≤ h24.size := Nat.le_trans za23 (Nat.le_of_eq W24.size.symm)
  have V24 : LA Z h24 b1 .long 17 (gl [(.long (1 : Int64)), (.long (10 : Int64)), (.long (100 : Int64)), (.long (1000 : Int64)), (.long (10000 : Int64)), (.long (100000 : Int64)), (.long (1000000 : Int64)), (.long (10000000 : Int64)), (.long (0 : Int64)), (.long (0 : Int64)), (.long (0 : Int64)), (.long (0 : Int64)), (.long (0 : Int64)), (.long (0 : Int64)), (.long (0 : Int64)), (.long (0 : Int64)), (.long (0 : Int64))] (.long (0 : Int64))) := V21.setL W24 (Nat.le_of_ble_eq_true rfl)
  have N24 := Fr.snoc X24 N21 g_b1
  refine Gq.go (T24.setTop (mkF m 52 #[.val (.int x0), .val (.int x1), .val (.long x2), .second, .val (.int x3), .unset, .unset, .unset, .unset, .unset, .unset, .unset, .unset, .unset, .unset] [(.ref b1)])) (fun tt_ kk_ => st24 tt_ kk_) ?_
  refine Gq.go (T24.setTop (mkF m 53 #[.val (.int x0), .val (.int x1), .val (.long x2), .second, .val (.int x3), .unset, .unset, .unset, .unset, .unset, .unset, .unset, .unset, .unset, .unset] [(.ref b1), (.ref b1)])) (fun tt_ kk_ => XS.dup X24.here hx rfl (hb hby at_52) rfl rfl kk_) ?_
  refine Gq.go (T24.setTop (mkF m 55 #[.val (.int x0), .val (.int x1), .val (.long x2), .second, .val (.int x3), .unset, .unset, .unset, .unset, .unset, .unset, .unset, .unset, .unset, .unset] [(.int (8 : Int32)), (.ref b1), (.ref b1)])) (fun tt_ kk_ => XS.bipush X24.here hx rfl (hb hby at_53) kk_) ?_
  refine Gq.go (T24.setTop (mkF m 58 #[.val (.int x0), .val (.int x1), .val (.long x2), .second, .val (.int x3), .unset, .unset, .unset, .unset, .unset, .unset, .unset, .unset, .unset, .unset] [(.long (100000000 : Int64)), (.int (8 : Int32)), (.ref b1), (.ref b1)])) (fun tt_ kk_ => X24.ldc2Long hx hown (mvT hZ (hw _ (List.mem_of_getElem? (i := 8) rfl))) (g := (mkF m 55 #[.val (.int x0), .val (.int x1), .val (.long x2), .second, .val (.int x3), .unset, .unset, .unset, .unset, .unset, .unset, .unset, .unset, .unset, .unset] [(.int (8 : Int32)), (.ref b1), (.ref b1)])) rfl (hb hby at_55) _ kk_) ?_
  obtain ⟨T27, h27, X27, eh27, W27, st27⟩ := stoJ X24 hx hZ eh24 V24 (j := (8 : Int32)) (i := 8) (x := (100000000 : Int64)) (Ls := #[.val (.int x0), .val (.int x1), .val (.long x2), .second, .val (.int x3), .unset, .unset, .unset, .unset, .unset, .unset, .unset, .unset, .unset, .unset]) (rest := [(.ref b1)]) (by decide) rfl (by decide) (hb hby at_58)
  have ta28 := Nat.lt_of_lt_of_le ta25 (Nat.le_of_eq W27.size.symm)
  have za29 : n0 ≤ h27.size := Nat.le_trans za26 (Nat.le_of_eq W27.size.symm)
  have V27 : LA Z h27 b1 .long 17 (gl [(.long (1 : Int64)), (.long (10 : Int64)), (.long (100 : Int64)), (.long (1000 : Int64)), (.long (10000 : Int64)), (.long (100000 : Int64)), (.long (1000000 : Int64)), (.long (10000000 : Int64)), (.long (100000000 : Int64)), (.long (0 : Int64)), (.long (0 : Int64)), (.long (0 : Int64)), (.long (0 : Int64)), (.long (0 : Int64)), (.long (0 : Int64)), (.long (0 : Int64)), (.long (0 : Int64))] (.long (0 : Int64))) := V24.setL W27 (Nat.le_of_ble_eq_true rfl)
  have N27 := Fr.snoc X27 N24 g_b1
  refine Gq.go (T27.setTop (mkF m 59 #[.val (.int x0), .val (.int x1), .val (.long x2), .second, .val (.int x3), .unset, .unset, .unset, .unset, .unset, .unset, .unset, .unset, .unset, .unset] [(.ref b1)])) (fun tt_ kk_ => st27 tt_ kk_) ?_
  refine Gq.go (T27.setTop (mkF m 60 #[.val (.int x0), .val (.int x1), .val (.long x2), .second, .val (.int x3), .unset, .unset, .unset, .unset, .unset, .unset, .unset, .unset, .unset, .unset] [(.ref b1), (.ref b1)])) (fun tt_ kk_ => XS.dup X27.here hx rfl (hb hby at_59) rfl rfl kk_) ?_
  refine Gq.go (T27.setTop (mkF m 62 #[.val (.int x0), .val (.int x1), .val (.long x2), .second, .val (.int x3), .unset, .unset, .unset, .unset, .unset, .unset, .unset, .unset, .unset, .unset] [(.int (9 : Int32)), (.ref b1), (.ref b1)])) (fun tt_ kk_ => XS.bipush X27.here hx rfl (hb hby at_60) kk_) ?_
  refine Gq.go (T27.setTop (mkF m 65 #[.val (.int x0), .val (.int x1), .val (.long x2), .second, .val (.int x3), .unset, .unset, .unset, .unset, .unset, .unset, .unset, .unset, .unset, .unset] [(.long (1000000000 : Int64)), (.int (9 : Int32)), (.ref b1), (.ref b1)])) (fun tt_ kk_ => X27.ldc2Long hx hown (mvT hZ (hw _ (List.mem_of_getElem? (i := 9) rfl))) (g := (mkF m 62 #[.val (.int x0), .val (.int x1), .val (.long x2), .second, .val (.int x3), .unset, .unset, .unset, .unset, .unset, .unset, .unset, .unset, .unset, .unset] [(.int (9 : Int32)), (.ref b1), (.ref b1)])) rfl (hb hby at_62) _ kk_) ?_
  obtain ⟨T30, h30, X30, eh30, W30, st30⟩ := stoJ X27 hx hZ eh27 V27 (j := (9 : Int32)) (i := 9) (x := (1000000000 : Int64)) (Ls := #[.val (.int x0), .val (.int x1), .val (.long x2), .second, .val (.int x3), .unset, .unset, .unset, .unset, .unset, .unset, .unset, .unset, .unset, .unset]) (rest := [(.ref b1)]) (by decide) rfl (by decide) (hb hby at_65)
  have ta31 := Nat.lt_of_lt_of_le ta28 (Nat.le_of_eq W30.size.symm)
  have za32 : n0 ≤ h30.size := Nat.le_trans za29 (Nat.le_of_eq W30.size.symm)
  have V30 : LA Z h30 b1 .long 17 (gl [(.long (1 : Int64)), (.long (10 : Int64)), (.long (100 : Int64)), (.long (1000 : Int64)), (.long (10000 : Int64)), (.long (100000 : Int64)), (.long (1000000 : Int64)), (.long (10000000 : Int64)), (.long (100000000 : Int64)), (.long (1000000000 : Int64)), (.long (0 : Int64)), (.long (0 : Int64)), (.long (0 : Int64)), (.long (0 : Int64)), (.long (0 : Int64)), (.long (0 : Int64)), (.long (0 : Int64))] (.long (0 : Int64))) := V27.setL W30 (Nat.le_of_ble_eq_true rfl)
  have N30 := Fr.snoc X30 N27 g_b1
  refine Gq.go (T30.setTop (mkF m 66 #[.val (.int x0), .val (.int x1), .val (.long x2), .second, .val (.int x3), .unset, .unset, .unset, .unset, .unset, .unset, .unset, .unset, .unset, .unset] [(.ref b1)])) (fun tt_ kk_ => st30 tt_ kk_) ?_
  refine Gq.go (T30.setTop (mkF m 67 #[.val (.int x0), .val (.int x1), .val (.long x2), .second, .val (.int x3), .unset, .unset, .unset, .unset, .unset, .unset, .unset, .unset, .unset, .unset] [(.ref b1), (.ref b1)])) (fun tt_ kk_ => XS.dup X30.here hx rfl (hb hby at_66) rfl rfl kk_) ?_
  refine Gq.go (T30.setTop (mkF m 69 #[.val (.int x0), .val (.int x1), .val (.long x2), .second, .val (.int x3), .unset, .unset, .unset, .unset, .unset, .unset, .unset, .unset, .unset, .unset] [(.int (10 : Int32)), (.ref b1), (.ref b1)])) (fun tt_ kk_ => XS.bipush X30.here hx rfl (hb hby at_67) kk_) ?_
  refine Gq.go (T30.setTop (mkF m 72 #[.val (.int x0), .val (.int x1), .val (.long x2), .second, .val (.int x3), .unset, .unset, .unset, .unset, .unset, .unset, .unset, .unset, .unset, .unset] [(.long (10000000000 : Int64)), (.int (10 : Int32)), (.ref b1), (.ref b1)])) (fun tt_ kk_ => X30.ldc2Long hx hown (mvT hZ (hw _ (List.mem_of_getElem? (i := 10) rfl))) (g := (mkF m 69 #[.val (.int x0), .val (.int x1), .val (.long x2), .second, .val (.int x3), .unset, .unset, .unset, .unset, .unset, .unset, .unset, .unset, .unset, .unset] [(.int (10 : Int32)), (.ref b1), (.ref b1)])) rfl (hb hby at_69) _ kk_) ?_
  obtain ⟨T33, h33, X33, eh33, W33, st33⟩ := stoJ X30 hx hZ eh30 V30 (j := (10 : Int32)) (i := 10) (x := (10000000000 : Int64)) (Ls := #[.val (.int x0), .val (.int x1), .val (.long x2), .second, .val (.int x3), .unset, .unset, .unset, .unset, .unset, .unset, .unset, .unset, .unset, .unset]) (rest := [(.ref b1)]) (by decide) rfl (by decide) (hb hby at_72)
  have ta34 := Nat.lt_of_lt_of_le ta31 (Nat.le_of_eq W33.size.symm)
  have za35 : n0 ≤ h33.size := Nat.le_trans za32 (Nat.le_of_eq W33.size.symm)
  have V33 : LA Z h33 b1 .long 17 (gl [(.long (1 : Int64)), (.long (10 : Int64)), (.long (100 : Int64)), (.long (1000 : Int64)), (.long (10000 : Int64)), (.long (100000 : Int64)), (.long (1000000 : Int64)), (.long (10000000 : Int64)), (.long (100000000 : Int64)), (.long (1000000000 : Int64)), (.long (10000000000 : Int64)), (.long (0 : Int64)), (.long (0 : Int64)), (.long (0 : Int64)), (.long (0 : Int64)), (.long (0 : Int64)), (.long (0 : Int64))] (.long (0 : Int64))) := V30.setL W33 (Nat.le_of_ble_eq_true rfl)
  have N33 := Fr.snoc X33 N30 g_b1
  refine Gq.go (T33.setTop (mkF m 73 #[.val (.int x0), .val (.int x1), .val (.long x2), .second, .val (.int x3), .unset, .unset, .unset, .unset, .unset, .unset, .unset, .unset, .unset, .unset] [(.ref b1)])) (fun tt_ kk_ => st33 tt_ kk_) ?_
  refine Gq.go (T33.setTop (mkF m 74 #[.val (.int x0), .val (.int x1), .val (.long x2), .second, .val (.int x3), .unset, .unset, .unset, .unset, .unset, .unset, .unset, .unset, .unset, .unset] [(.ref b1), (.ref b1)])) (fun tt_ kk_ => XS.dup X33.here hx rfl (hb hby at_73) rfl rfl kk_) ?_
  refine Gq.go (T33.setTop (mkF m 76 #[.val (.int x0), .val (.int x1), .val (.long x2), .second, .val (.int x3), .unset, .unset, .unset, .unset, .unset, .unset, .unset, .unset, .unset, .unset] [(.int (11 : Int32)), (.ref b1), (.ref b1)])) (fun tt_ kk_ => XS.bipush X33.here hx rfl (hb hby at_74) kk_) ?_
  refine Gq.go (T33.setTop (mkF m 79 #[.val (.int x0), .val (.int x1), .val (.long x2), .second, .val (.int x3), .unset, .unset, .unset, .unset, .unset, .unset, .unset, .unset, .unset, .unset] [(.long (100000000000 : Int64)), (.int (11 : Int32)), (.ref b1), (.ref b1)])) (fun tt_ kk_ => X33.ldc2Long hx hown (mvT hZ (hw _ (List.mem_of_getElem? (i := 11) rfl))) (g := (mkF m 76 #[.val (.int x0), .val (.int x1), .val (.long x2), .second, .val (.int x3), .unset, .unset, .unset, .unset, .unset, .unset, .unset, .unset, .unset, .unset] [(.int (11 : Int32)), (.ref b1), (.ref b1)])) rfl (hb hby at_76) _ kk_) ?_
  obtain ⟨T36, h36, X36, eh36, W36, st36⟩ := stoJ X33 hx hZ eh33 V33 (j := (11 : Int32)) (i := 11) (x := (100000000000 : Int64)) (Ls := #[.val (.int x0), .val (.int x1), .val (.long x2), .second, .val (.int x3), .unset, .unset, .unset, .unset, .unset, .unset, .unset, .unset, .unset, .unset]) (rest := [(.ref b1)]) (by decide) rfl (by decide) (hb hby at_79)
  have ta37 := Nat.lt_of_lt_of_le ta34 (Nat.le_of_eq W36.size.symm)
  have za38 : n0 ≤ h36.size := Nat.le_trans za35 (Nat.le_of_eq W36.size.symm)
  have V36 : LA Z h36 b1 .long 17 (gl [(.long (1 : Int64)), (.long (10 : Int64)), (.long (100 : Int64)), (.long (1000 : Int64)), (.long (10000 : Int64)), (.long (100000 : Int64)), (.long (1000000 : Int64)), (.long (10000000 : Int64)), (.long (100000000 : Int64)), (.long (1000000000 : Int64)), (.long (10000000000 : Int64)), (.long (100000000000 : Int64)), (.long (0 : Int64)), (.long (0 : Int64)), (.long (0 : Int64)), (.long (0 : Int64)), (.long (0 : Int64))] (.long (0 : Int64))) := V33.setL W36 (Nat.le_of_ble_eq_true rfl)
  have N36 := Fr.snoc X36 N33 g_b1
  refine Gq.go (T36.setTop (mkF m 80 #[.val (.int x0), .val (.int x1), .val (.long x2), .second, .val (.int x3), .unset, .unset, .unset, .unset, .unset, .unset, .unset, .unset, .unset, .unset] [(.ref b1)])) (fun tt_ kk_ => st36 tt_ kk_) ?_
  refine Gq.go (T36.setTop (mkF m 81 #[.val (.int x0), .val (.int x1), .val (.long x2), .second, .val (.int x3), .unset, .unset, .unset, .unset, .unset, .unset, .unset, .unset, .unset, .unset] [(.ref b1), (.ref b1)])) (fun tt_ kk_ => XS.dup X36.here hx rfl (hb hby at_80) rfl rfl kk_) ?_
  refine Gq.go (T36.setTop (mkF m 83 #[.val (.int x0), .val (.int x1), .val (.long x2), .second, .val (.int x3), .unset, .unset, .unset, .unset, .unset, .unset, .unset, .unset, .unset, .unset] [(.int (12 : Int32)), (.ref b1), (.ref b1)])) (fun tt_ kk_ => XS.bipush X36.here hx rfl (hb hby at_81) kk_) ?_
  refine Gq.go (T36.setTop (mkF m 86 #[.val (.int x0), .val (.int x1), .val (.long x2), .second, .val (.int x3), .unset, .unset, .unset, .unset, .unset, .unset, .unset, .unset, .unset, .unset] [(.long (1000000000000 : Int64)), (.int (12 : Int32)), (.ref b1), (.ref b1)])) (fun tt_ kk_ => X36.ldc2Long hx hown (mvT hZ (hw _ (List.mem_of_getElem? (i := 12) rfl))) (g := (mkF m 83 #[.val (.int x0), .val (.int x1), .val (.long x2), .second, .val (.int x3), .unset, .unset, .unset, .unset, .unset, .unset, .unset, .unset, .unset, .unset] [(.int (12 : Int32)), (.ref b1), (.ref b1)])) rfl (hb hby at_83) _ kk_) ?_
  obtain ⟨T39, h39, X39, eh39, W39, st39⟩ := stoJ X36 hx hZ eh36 V36 (j := (12 : Int32)) (i := 12) (x := (1000000000000 : Int64)) (Ls := #[.val (.int x0), .val (.int x1), .val (.long x2), .second, .val (.int x3), .unset, .unset, .unset, .unset, .unset, .unset, .unset, .unset, .unset, .unset]) (rest := [(.ref b1)]) (by decide) rfl (by decide) (hb hby at_86)
  have ta40 := Nat.lt_of_lt_of_le ta37 (Nat.le_of_eq W39.size.symm)
  have za41 : n0 ≤ h39.size := Nat.le_trans za38 (Nat.le_of_eq W39.size.symm)
  have V39 : LA Z h39 b1 .long 17 (gl [(.long (1 : Int64)), (.long (10 : Int64)), (.long (100 : Int64)), (.long (1000 : Int64)), (.long (10000 : Int64)), (.long (100000 : Int64)), (.long (1000000 : Int64)), (.long (10000000 : Int64)), (.long (100000000 : Int64)), (.long (1000000000 : Int64)), (.long (10000000000 : Int64)), (.long (100000000000 : Int64)), (.long (1000000000000 : Int64)), (.long (0 : Int64)), (.long (0 : Int64)), (.long (0 : Int64)), (.long (0 : Int64))] (.long (0 : Int64))) := V36.setL W39 (Nat.le_of_ble_eq_true rfl)
  have N39 := Fr.snoc X39 N36 g_b1
  refine Gq.go (T39.setTop (mkF m 87 #[.val (.int x0), .val (.int x1), .val (.long x2), .second, .val (.int x3), .unset, .unset, .unset, .unset, .unset, .unset, .unset, .unset, .unset, .unset] [(.ref b1)])) (fun tt_ kk_ => st39 tt_ kk_) ?_
  refine Gq.go (T39.setTop (mkF m 88 #[.val (.int x0), .val (.int x1), .val (.long x2), .second, .val (.int x3), .unset, .unset, .unset, .unset, .unset, .unset, .unset, .unset, .unset, .unset] [(.ref b1), (.ref b1)])) (fun tt_ kk_ => XS.dup X39.here hx rfl (hb hby at_87) rfl rfl kk_) ?_
  refine Gq.go (T39.setTop (mkF m 90 #[.val (.int x0), .val (.int x1), .val (.long x2), .second, .val (.int x3), .unset, .unset, .unset, .unset, .unset, .unset, .unset, .unset, .unset, .unset] [(.int (13 : Int32)), (.ref b1), (.ref b1)])) (fun tt_ kk_ => XS.bipush X39.here hx rfl (hb hby at_88) kk_) ?_
  refine Gq.go (T39.setTop (mkF m 93 #[.val (.int x0), .val (.int x1), .val (.long x2), .second, .val (.int x3), .unset, .unset, .unset, .unset, .unset, .unset, .unset, .unset, .unset, .unset] [(.long (10000000000000 : Int64)), (.int (13 : Int32)), (.ref b1), (.ref b1)])) (fun tt_ kk_ => X39.ldc2Long hx hown (mvT hZ (hw _ (List.mem_of_getElem? (i := 13) rfl))) (g := (mkF m 90 #[.val (.int x0), .val (.int x1), .val (.long x2), .second, .val (.int x3), .unset, .unset, .unset, .unset, .unset, .unset, .unset, .unset, .unset, .unset] [(.int (13 : Int32)), (.ref b1), (.ref b1)])) rfl (hb hby at_90) _ kk_) ?_
  obtain ⟨T42, h42, X42, eh42, W42, st42⟩ := stoJ X39 hx hZ eh39 V39 (j := (13 : Int32)) (i := 13) (x := (10000000000000 : Int64)) (Ls := #[.val (.int x0), .val (.int x1), .val (.long x2), .second, .val (.int x3), .unset, .unset, .unset, .unset, .unset, .unset, .unset, .unset, .unset, .unset]) (rest := [(.ref b1)]) (by decide) rfl (by decide) (hb hby at_93)
  have ta43 := Nat.lt_of_lt_of_le ta40 (Nat.le_of_eq W42.size.symm)
  have za44 : n0 ≤ h42.size := Nat.le_trans za41 (Nat.le_of_eq W42.size.symm)
  have V42 : LA Z h42 b1 .long 17 (gl [(.long (1 : Int64)), (.long (10 : Int64)), (.long (100 : Int64)), (.long (1000 : Int64)), (.long (10000 : Int64)), (.long (100000 : Int64)), (.long (1000000 : Int64)), (.long (10000000 : Int64)), (.long (100000000 : Int64)), (.long (1000000000 : Int64)), (.long (10000000000 : Int64)), (.long (100000000000 : Int64)), (.long (1000000000000 : Int64)), (.long (10000000000000 : Int64)), (.long (0 : Int64)), (.long (0 : Int64)), (.long (0 : Int64))] (.long (0 : Int64))) := V39.setL W42 (Nat.le_of_ble_eq_true rfl)
  have N42 := Fr.snoc X42 N39 g_b1
  refine Gq.go (T42.setTop (mkF m 94 #[.val (.int x0), .val (.int x1), .val (.long x2), .second, .val (.int x3), .unset, .unset, .unset, .unset, .unset, .unset, .unset, .unset, .unset, .unset] [(.ref b1)])) (fun tt_ kk_ => st42 tt_ kk_) ?_
  refine Gq.go (T42.setTop (mkF m 95 #[.val (.int x0), .val (.int x1), .val (.long x2), .second, .val (.int x3), .unset, .unset, .unset, .unset, .unset, .unset, .unset, .unset, .unset, .unset] [(.ref b1), (.ref b1)])) (fun tt_ kk_ => XS.dup X42.here hx rfl (hb hby at_94) rfl rfl kk_) ?_
  refine Gq.go (T42.setTop (mkF m 97 #[.val (.int x0), .val (.int x1), .val (.long x2), .second, .val (.int x3), .unset, .unset, .unset, .unset, .unset, .unset, .unset, .unset, .unset, .unset] [(.int (14 : Int32)), (.ref b1), (.ref b1)])) (fun tt_ kk_ => XS.bipush X42.here hx rfl (hb hby at_95) kk_) ?_
  refine Gq.go (T42.setTop (mkF m 100 #[.val (.int x0), .val (.int x1), .val (.long x2), .second, .val (.int x3), .unset, .unset, .unset, .unset, .unset, .unset, .unset, .unset, .unset, .unset] [(.long (100000000000000 : Int64)), (.int (14 : Int32)), (.ref b1), (.ref b1)])) (fun tt_ kk_ => X42.ldc2Long hx hown (mvT hZ (hw _ (List.mem_of_getElem? (i := 14) rfl))) (g := (mkF m 97 #[.val (.int x0), .val (.int x1), .val (.long x2), .second, .val (.int x3), .unset, .unset, .unset, .unset, .unset, .unset, .unset, .unset, .unset, .unset] [(.int (14 : Int32)), (.ref b1), (.ref b1)])) rfl (hb hby at_97) _ kk_) ?_
  obtain ⟨T45, h45, X45, eh45, W45, st45⟩ := stoJ X42 hx hZ eh42 V42 (j := (14 : Int32)) (i := 14) (x := (100000000000000 : Int64)) (Ls := #[.val (.int x0), .val (.int x1), .val (.long x2), .second, .val (.int x3), .unset, .unset, .unset, .unset, .unset, .unset, .unset, .unset, .unset, .unset]) (rest := [(.ref b1)]) (by decide) rfl (by decide) (hb hby at_100)
  have ta46 := Nat.lt_of_lt_of_le ta43 (Nat.le_of_eq W45.size.symm)
  have za47 : n0 ≤ h45.size := Nat.le_trans za44 (Nat.le_of_eq W45.size.symm)
  have V45 : LA Z h45 b1 .long 17 (gl [(.long (1 : Int64)), (.long (10 : Int64)), (.long (100 : Int64)), (.long (1000 : Int64)), (.long (10000 : Int64)), (.long (100000 : Int64)), (.long (1000000 : Int64)), (.long (10000000 : Int64)), (.long (100000000 : Int64)), (.long (1000000000 : Int64)), (.long (10000000000 : Int64)), (.long (100000000000 : Int64)), (.long (1000000000000 : Int64)), (.long (10000000000000 : Int64)), (.long (100000000000000 : Int64)), (.long (0 : Int64)), (.long (0 : Int64))] (.long (0 : Int64))) := V42.setL W45 (Nat.le_of_ble_eq_true rfl)
  have N45 := Fr.snoc X45 N42 g_b1
  refine Gq.go (T45.setTop (mkF m 101 #[.val (.int x0), .val (.int x1), .val (.long x2), .second, .val (.int x3), .unset, .unset, .unset, .unset, .unset, .unset, .unset, .unset, .unset, .unset] [(.ref b1)])) (fun tt_ kk_ => st45 tt_ kk_) ?_
  refine Gq.go (T45.setTop (mkF m 102 #[.val (.int x0), .val (.int x1), .val (.long x2), .second, .val (.int x3), .unset, .unset, .unset, .unset, .unset, .unset, .unset, .unset, .unset, .unset] [(.ref b1), (.ref b1)])) (fun tt_ kk_ => XS.dup X45.here hx rfl (hb hby at_101) rfl rfl kk_) ?_
  refine Gq.go (T45.setTop (mkF m 104 #[.val (.int x0), .val (.int x1), .val (.long x2), .second, .val (.int x3), .unset, .unset, .unset, .unset, .unset, .unset, .unset, .unset, .unset, .unset] [(.int (15 : Int32)), (.ref b1), (.ref b1)])) (fun tt_ kk_ => XS.bipush X45.here hx rfl (hb hby at_102) kk_) ?_
  refine Gq.go (T45.setTop (mkF m 107 #[.val (.int x0), .val (.int x1), .val (.long x2), .second, .val (.int x3), .unset, .unset, .unset, .unset, .unset, .unset, .unset, .unset, .unset, .unset] [(.long (1000000000000000 : Int64)), (.int (15 : Int32)), (.ref b1), (.ref b1)])) (fun tt_ kk_ => X45.ldc2Long hx hown (mvT hZ (hw _ (List.mem_of_getElem? (i := 15) rfl))) (g := (mkF m 104 #[.val (.int x0), .val (.int x1), .val (.long x2), .second, .val (.int x3), .unset, .unset, .unset, .unset, .unset, .unset, .unset, .unset, .unset, .unset] [(.int (15 : Int32)), (.ref b1), (.ref b1)])) rfl (hb hby at_104) _ kk_) ?_
  obtain ⟨T48, h48, X48, eh48, W48, st48⟩ := stoJ X45 hx hZ eh45 V45 (j := (15 : Int32)) (i := 15) (x := (1000000000000000 : Int64)) (Ls := #[.val (.int x0), .val (.int x1), .val (.long x2), .second, .val (.int x3), .unset, .unset, .unset, .unset, .unset, .unset, .unset, .unset, .unset, .unset]) (rest := [(.ref b1)]) (by decide) rfl (by decide) (hb hby at_107)
  have ta49 := Nat.lt_of_lt_of_le ta46 (Nat.le_of_eq W48.size.symm)
  have za50 : n0 ≤ h48.size := Nat.le_trans za47 (Nat.le_of_eq W48.size.symm)
  have V48 : LA Z h48 b1 .long 17 (gl [(.long (1 : Int64)), (.long (10 : Int64)), (.long (100 : Int64)), (.long (1000 : Int64)), (.long (10000 : Int64)), (.long (100000 : Int64)), (.long (1000000 : Int64)), (.long (10000000 : Int64)), (.long (100000000 : Int64)), (.long (1000000000 : Int64)), (.long (10000000000 : Int64)), (.long (100000000000 : Int64)), (.long (1000000000000 : Int64)), (.long (10000000000000 : Int64)), (.long (100000000000000 : Int64)), (.long (1000000000000000 : Int64)), (.long (0 : Int64))] (.long (0 : Int64))) := V45.setL W48 (Nat.le_of_ble_eq_true rfl)
  have N48 := Fr.snoc X48 N45 g_b1
  refine Gq.go (T48.setTop (mkF m 108 #[.val (.int x0), .val (.int x1), .val (.long x2), .second, .val (.int x3), .unset, .unset, .unset, .unset, .unset, .unset, .unset, .unset, .unset, .unset] [(.ref b1)])) (fun tt_ kk_ => st48 tt_ kk_) ?_
  refine Gq.go (T48.setTop (mkF m 109 #[.val (.int x0), .val (.int x1), .val (.long x2), .second, .val (.int x3), .unset, .unset, .unset, .unset, .unset, .unset, .unset, .unset, .unset, .unset] [(.ref b1), (.ref b1)])) (fun tt_ kk_ => XS.dup X48.here hx rfl (hb hby at_108) rfl rfl kk_) ?_
  refine Gq.go (T48.setTop (mkF m 111 #[.val (.int x0), .val (.int x1), .val (.long x2), .second, .val (.int x3), .unset, .unset, .unset, .unset, .unset, .unset, .unset, .unset, .unset, .unset] [(.int (16 : Int32)), (.ref b1), (.ref b1)])) (fun tt_ kk_ => XS.bipush X48.here hx rfl (hb hby at_109) kk_) ?_
  refine Gq.go (T48.setTop (mkF m 114 #[.val (.int x0), .val (.int x1), .val (.long x2), .second, .val (.int x3), .unset, .unset, .unset, .unset, .unset, .unset, .unset, .unset, .unset, .unset] [(.long (10000000000000000 : Int64)), (.int (16 : Int32)), (.ref b1), (.ref b1)])) (fun tt_ kk_ => X48.ldc2Long hx hown (mvT hZ (hw _ (List.mem_of_getElem? (i := 16) rfl))) (g := (mkF m 111 #[.val (.int x0), .val (.int x1), .val (.long x2), .second, .val (.int x3), .unset, .unset, .unset, .unset, .unset, .unset, .unset, .unset, .unset, .unset] [(.int (16 : Int32)), (.ref b1), (.ref b1)])) rfl (hb hby at_111) _ kk_) ?_
  obtain ⟨T51, h51, X51, eh51, W51, st51⟩ := stoJ X48 hx hZ eh48 V48 (j := (16 : Int32)) (i := 16) (x := (10000000000000000 : Int64)) (Ls := #[.val (.int x0), .val (.int x1), .val (.long x2), .second, .val (.int x3), .unset, .unset, .unset, .unset, .unset, .unset, .unset, .unset, .unset, .unset]) (rest := [(.ref b1)]) (by decide) rfl (by decide) (hb hby at_114)
  have ta52 := Nat.lt_of_lt_of_le ta49 (Nat.le_of_eq W51.size.symm)
  have za53 : n0 ≤ h51.size := Nat.le_trans za50 (Nat.le_of_eq W51.size.symm)
  have V51 : LA Z h51 b1 .long 17 (gl [(.long (1 : Int64)), (.long (10 : Int64)), (.long (100 : Int64)), (.long (1000 : Int64)), (.long (10000 : Int64)), (.long (100000 : Int64)), (.long (1000000 : Int64)), (.long (10000000 : Int64)), (.long (100000000 : Int64)), (.long (1000000000 : Int64)), (.long (10000000000 : Int64)), (.long (100000000000 : Int64)), (.long (1000000000000 : Int64)), (.long (10000000000000 : Int64)), (.long (100000000000000 : Int64)), (.long (1000000000000000 : Int64)), (.long (10000000000000000 : Int64))] (.long (0 : Int64))) := V48.setL W51 (Nat.le_of_ble_eq_true rfl)
  have N51 := Fr.snoc X51 N48 g_b1
  refine Gq.go (T51.setTop (mkF m 115 #[.val (.int x0), .val (.int x1), .val (.long x2), .second, .val (.int x3), .unset, .unset, .unset, .unset, .unset, .unset, .unset, .unset, .unset, .unset] [(.ref b1)])) (fun tt_ kk_ => st51 tt_ kk_) ?_
  have VP : LA Z h51 b1 .long 17 (fun j => .long (Int64.ofNat (10 ^ j))) := V51.congr own_pows
  refine Gq.go (T51.setTop (mkF m 117 #[.val (.int x0), .val (.int x1), .val (.long x2), .second, .val (.int x3), .val (.ref b1), .unset, .unset, .unset, .unset, .unset, .unset, .unset, .unset, .unset] [])) (fun tt_ kk_ => XS.astore X51.here hx rfl (hb hby at_115) rfl rfl (l' := #[.val (.int x0), .val (.int x1), .val (.long x2), .second, .val (.int x3), .val (.ref b1), .unset, .unset, .unset, .unset, .unset, .unset, .unset, .unset, .unset]) rfl kk_) ?_
  refine Gq.go (T51.setTop (mkF m 118 #[.val (.int x0), .val (.int x1), .val (.long x2), .second, .val (.int x3), .val (.ref b1), .unset, .unset, .unset, .unset, .unset, .unset, .unset, .unset, .unset] [(.long x2)])) (fun tt_ kk_ => XS.lloadN X51.here hx rfl (hb hby at_117) rfl kk_) ?_
  refine Gq.go (T51.setTop (mkF m 121 #[.val (.int x0), .val (.int x1), .val (.long x2), .second, .val (.int x3), .val (.ref b1), .unset, .unset, .unset, .unset, .unset, .unset, .unset, .unset, .unset] [(.long (9223372036854775807 : Int64)), (.long x2)])) (fun tt_ kk_ => X51.ldc2Long hx hown (mvT hZ (hw _ (List.mem_of_getElem? (i := 17) rfl))) (g := (mkF m 118 #[.val (.int x0), .val (.int x1), .val (.long x2), .second, .val (.int x3), .val (.ref b1), .unset, .unset, .unset, .unset, .unset, .unset, .unset, .unset, .unset] [(.long x2)])) rfl (hb hby at_118) _ kk_) ?_
  refine Gq.go (T51.setTop (mkF m 122 #[.val (.int x0), .val (.int x1), .val (.long x2), .second, .val (.int x3), .val (.ref b1), .unset, .unset, .unset, .unset, .unset, .unset, .unset, .unset, .unset] [(.long (x2 &&& (9223372036854775807 : Int64)))])) (fun tt_ kk_ => XS.land X51.here hx rfl (hb hby at_121) rfl kk_) ?_
  refine Gq.go (T51.setTop (mkF m 125 #[.val (.int x0), .val (.int x1), .val (.long x2), .second, .val (.int x3), .val (.ref b1), .unset, .unset, .unset, .unset, .unset, .unset, .unset, .unset, .unset] [(.long (10000000000000000 : Int64)), (.long (x2 &&& (9223372036854775807 : Int64)))])) (fun tt_ kk_ => X51.ldc2Long hx hown (mvT hZ (hw _ (List.mem_of_getElem? (i := 16) rfl))) (g := (mkF m 122 #[.val (.int x0), .val (.int x1), .val (.long x2), .second, .val (.int x3), .val (.ref b1), .unset, .unset, .unset, .unset, .unset, .unset, .unset, .unset, .unset] [(.long (x2 &&& (9223372036854775807 : Int64)))])) rfl (hb hby at_122) _ kk_) ?_
  refine Gq.go (T51.setTop (mkF m 126 #[.val (.int x0), .val (.int x1), .val (.long x2), .second, .val (.int x3), .val (.ref b1), .unset, .unset, .unset, .unset, .unset, .unset, .unset, .unset, .unset] [(.long ((x2 &&& (9223372036854775807 : Int64)) % (10000000000000000 : Int64)))])) (fun tt_ kk_ => lremM X51.here hx rfl (hb hby at_125) rfl (by decide) kk_) ?_
  obtain ⟨D, hD, eD⟩ := own_dmod x2
  rw [show ((x2 &&& (9223372036854775807 : Int64)) % (10000000000000000 : Int64)) = (Int64.ofNat D) from eD]
  refine Gq.go (T51.setTop (mkF m 128 #[.val (.int x0), .val (.int x1), .val (.long x2), .second, .val (.int x3), .val (.ref b1), .val (.long (Int64.ofNat D)), .second, .unset, .unset, .unset, .unset, .unset, .unset, .unset] [])) (fun tt_ kk_ => XS.lstore X51.here hx rfl (hb hby at_126) rfl (l' := #[.val (.int x0), .val (.int x1), .val (.long x2), .second, .val (.int x3), .val (.ref b1), .val (.long (Int64.ofNat D)), .second, .unset, .unset, .unset, .unset, .unset, .unset, .unset]) rfl kk_) ?_
  refine Gq.go (T51.setTop (mkF m 130 #[.val (.int x0), .val (.int x1), .val (.long x2), .second, .val (.int x3), .val (.ref b1), .val (.long (Int64.ofNat D)), .second, .unset, .unset, .unset, .unset, .unset, .unset, .unset] [(.int (20 : Int32))])) (fun tt_ kk_ => XS.bipush X51.here hx rfl (hb hby at_128) kk_) ?_
  obtain ⟨T54, h54, b54, X54, eh54, E54, aq54, V54, st54⟩ := mkA X51 hx hZ (hw _ (List.mem_of_getElem? (i := 18) rfl)) eh51 (z := (20 : Int32)) (n := 20) (Ls := #[.val (.int x0), .val (.int x1), .val (.long x2), .second, .val (.int x3), .val (.ref b1), .val (.long (Int64.ofNat D)), .second, .unset, .unset, .unset, .unset, .unset, .unset, .unset]) (rest := []) (by decide) rfl (by decide) (by decide) (by decide) (hb hby at_130)
  have g_b54 : n0 ≤ b54 := Nat.le_trans za53 (Nat.le_of_eq aq54.symm)
  have ne_b1_b54 : b1 ≠ b54 := Nat.ne_of_lt (Nat.lt_of_lt_of_le ta52 (Nat.le_of_eq aq54.symm))
  have fa55 := VP.ext E54
  have ta56 := Nat.lt_of_lt_of_le ta52 E54.1
  have za57 : n0 ≤ h54.size := Nat.le_trans za53 E54.1
  have V54' : LA Z h54 b54 .byte 20 (gl [(.int (0 : Int32)), (.int (0 : Int32)), (.int (0 : Int32)), (.int (0 : Int32)), (.int (0 : Int32)), (.int (0 : Int32)), (.int (0 : Int32)), (.int (0 : Int32)), (.int (0 : Int32)), (.int (0 : Int32)), (.int (0 : Int32)), (.int (0 : Int32)), (.int (0 : Int32)), (.int (0 : Int32)), (.int (0 : Int32)), (.int (0 : Int32)), (.int (0 : Int32)), (.int (0 : Int32)), (.int (0 : Int32)), (.int (0 : Int32))] (.int (0 : Int32))) := V54.list
  have ta54' := V54'.lt
  refine Gq.go (T54.setTop (mkF m 132 #[.val (.int x0), .val (.int x1), .val (.long x2), .second, .val (.int x3), .val (.ref b1), .val (.long (Int64.ofNat D)), .second, .unset, .unset, .unset, .unset, .unset, .unset, .unset] [(.ref b54)])) (fun tt_ kk_ => st54 tt_ kk_) ?_
  refine Gq.go (T54.setTop (mkF m 134 #[.val (.int x0), .val (.int x1), .val (.long x2), .second, .val (.int x3), .val (.ref b1), .val (.long (Int64.ofNat D)), .second, .val (.ref b54), .unset, .unset, .unset, .unset, .unset, .unset] [])) (fun tt_ kk_ => XS.astore X54.here hx rfl (hb hby at_132) rfl rfl (l' := #[.val (.int x0), .val (.int x1), .val (.long x2), .second, .val (.int x3), .val (.ref b1), .val (.long (Int64.ofNat D)), .second, .val (.ref b54), .unset, .unset, .unset, .unset, .unset, .unset]) rfl kk_) ?_
  refine Gq.go (T54.setTop (mkF m 136 #[.val (.int x0), .val (.int x1), .val (.long x2), .second, .val (.int x3), .val (.ref b1), .val (.long (Int64.ofNat D)), .second, .val (.ref b54), .unset, .unset, .unset, .unset, .unset, .unset] [(.ref b54)])) (fun tt_ kk_ => XS.aload X54.here hx rfl (hb hby at_134) rfl rfl kk_) ?_
  refine Gq.go (T54.setTop (mkF m 137 #[.val (.int x0), .val (.int x1), .val (.long x2), .second, .val (.int x3), .val (.ref b1), .val (.long (Int64.ofNat D)), .second, .val (.ref b54), .unset, .unset, .unset, .unset, .unset, .unset] [(.int (0 : Int32)), (.ref b54)])) (fun tt_ kk_ => XS.iconst X54.here hx rfl (hb hby at_136) kk_) ?_
  refine Gq.go (T54.setTop (mkF m 139 #[.val (.int x0), .val (.int x1), .val (.long x2), .second, .val (.int x3), .val (.ref b1), .val (.long (Int64.ofNat D)), .second, .val (.ref b54), .unset, .unset, .unset, .unset, .unset, .unset] [(.long (Int64.ofNat D)), (.int (0 : Int32)), (.ref b54)])) (fun tt_ kk_ => XS.lload X54.here hx rfl (hb hby at_137) rfl kk_) ?_
  refine Gq.go (T54.setTop (mkF m 141 #[.val (.int x0), .val (.int x1), .val (.long x2), .second, .val (.int x3), .val (.ref b1), .val (.long (Int64.ofNat D)), .second, .val (.ref b54), .unset, .unset, .unset, .unset, .unset, .unset] [(.ref b1), (.long (Int64.ofNat D)), (.int (0 : Int32)), (.ref b54)])) (fun tt_ kk_ => XS.aload X54.here hx rfl (hb hby at_139) rfl rfl kk_) ?_
  refine Gq.go (T54.setTop (mkF m 142 #[.val (.int x0), .val (.int x1), .val (.long x2), .second, .val (.int x3), .val (.ref b1), .val (.long (Int64.ofNat D)), .second, .val (.ref b54), .unset, .unset, .unset, .unset, .unset, .unset] [(.int (0 : Int32)), (.ref b1), (.long (Int64.ofNat D)), (.int (0 : Int32)), (.ref b54)])) (fun tt_ kk_ => XS.iconst X54.here hx rfl (hb hby at_141) kk_) ?_
  obtain ⟨r58, T58, L58, X58, hQ58, st58⟩ := callT (pc := 142) (Ls := #[.val (.int x0), .val (.int x1), .val (.long x2), .second, .val (.int x3), .val (.ref b1), .val (.long (Int64.ofNat D)), .second, .val (.ref b54), .unset, .unset, .unset, .unset, .unset, .unset]) X54 hx hZ hown eh54 [(.long (Int64.ofNat D)), (.ref b1), (.int (0 : Int32))] [(.int (0 : Int32)), (.ref b54)] (hw _ (List.mem_of_getElem? (i := 19) rfl)) (hw _ (List.mem_of_getElem? (i := 20) rfl)) (hw _ (List.mem_of_getElem? (i := 21) rfl)) (hw _ (List.mem_of_getElem? (i := 22) rfl)) (by decide) (rm1 l Z a0 hw [] D b1 0 h54 n0 za57 fa55 hD (by decide)) pd_2 rfl (by rw [hml]; rfl) (W := 2) (Nat.le_of_eq rfl) (by decide) (by decide) (by decide) (by decide) (hb hby at_142)
  obtain ⟨rfl, N58q, eh58⟩ := hQ58
  have N58 := Fr.app N51 N58q
  refine Gq.go (T58.setTop (mkF m 145 #[.val (.int x0), .val (.int x1), .val (.long x2), .second, .val (.int x3), .val (.ref b1), .val (.long (Int64.ofNat D)), .second, .val (.ref b54), .unset, .unset, .unset, .unset, .unset, .unset] [(.int (Int32.ofNat (48 + D / 10 ^ (15 - 0) % 10))), (.int (0 : Int32)), (.ref b54)])) (fun tt_ kk_ => st58 tt_ kk_) ?_
  obtain ⟨T59, h59, X59, eh59, W59, st59⟩ := stoB X58 hx hZ eh58 V54' (j := (0 : Int32)) (i := 0) (x := (Int32.ofNat (48 + D / 10 ^ (15 - 0) % 10))) (Ls := #[.val (.int x0), .val (.int x1), .val (.long x2), .second, .val (.int x3), .val (.ref b1), .val (.long (Int64.ofNat D)), .second, .val (.ref b54), .unset, .unset, .unset, .unset, .unset, .unset]) (rest := []) (by decide) rfl (by decide) (hb hby at_145)
  have fa60 := fa55.other W59 ne_b1_b54
  have ta61 := Nat.lt_of_lt_of_le ta56 (Nat.le_of_eq W59.size.symm)
  have ta62 := Nat.lt_of_lt_of_le ta54' (Nat.le_of_eq W59.size.symm)
  have za63 : n0 ≤ h59.size := Nat.le_trans za57 (Nat.le_of_eq W59.size.symm)
  have V59 : LA Z h59 b54 .byte 20 (gl [(.int (Int32.ofNat (48 + D / 10 ^ (15 - 0) % 10)).toInt8.toInt32), (.int (0 : Int32)), (.int (0 : Int32)), (.int (0 : Int32)), (.int (0 : Int32)), (.int (0 : Int32)), (.int (0 : Int32)), (.int (0 : Int32)), (.int (0 : Int32)), (.int (0 : Int32)), (.int (0 : Int32)), (.int (0 : Int32)), (.int (0 : Int32)), (.int (0 : Int32)), (.int (0 : Int32)), (.int (0 : Int32)), (.int (0 : Int32)), (.int (0 : Int32)), (.int (0 : Int32)), (.int (0 : Int32))] (.int (0 : Int32))) := V54'.setL W59 (Nat.le_of_ble_eq_true rfl)
  have N59 := Fr.snoc X59 N58 g_b54
  refine Gq.go (T59.setTop (mkF m 146 #[.val (.int x0), .val (.int x1), .val (.long x2), .second, .val (.int x3), .val (.ref b1), .val (.long (Int64.ofNat D)), .second, .val (.ref b54), .unset, .unset, .unset, .unset, .unset, .unset] [])) (fun tt_ kk_ => st59 tt_ kk_) ?_
  refine Gq.go (T59.setTop (mkF m 148 #[.val (.int x0), .val (.int x1), .val (.long x2), .second, .val (.int x3), .val (.ref b1), .val (.long (Int64.ofNat D)), .second, .val (.ref b54), .unset, .unset, .unset, .unset, .unset, .unset] [(.ref b54)])) (fun tt_ kk_ => XS.aload X59.here hx rfl (hb hby at_146) rfl rfl kk_) ?_
  refine Gq.go (T59.setTop (mkF m 149 #[.val (.int x0), .val (.int x1), .val (.long x2), .second, .val (.int x3), .val (.ref b1), .val (.long (Int64.ofNat D)), .second, .val (.ref b54), .unset, .unset, .unset, .unset, .unset, .unset] [(.int (1 : Int32)), (.ref b54)])) (fun tt_ kk_ => XS.iconst X59.here hx rfl (hb hby at_148) kk_) ?_
  refine Gq.go (T59.setTop (mkF m 151 #[.val (.int x0), .val (.int x1), .val (.long x2), .second, .val (.int x3), .val (.ref b1), .val (.long (Int64.ofNat D)), .second, .val (.ref b54), .unset, .unset, .unset, .unset, .unset, .unset] [(.long (Int64.ofNat D)), (.int (1 : Int32)), (.ref b54)])) (fun tt_ kk_ => XS.lload X59.here hx rfl (hb hby at_149) rfl kk_) ?_
  refine Gq.go (T59.setTop (mkF m 153 #[.val (.int x0), .val (.int x1), .val (.long x2), .second, .val (.int x3), .val (.ref b1), .val (.long (Int64.ofNat D)), .second, .val (.ref b54), .unset, .unset, .unset, .unset, .unset, .unset] [(.ref b1), (.long (Int64.ofNat D)), (.int (1 : Int32)), (.ref b54)])) (fun tt_ kk_ => XS.aload X59.here hx rfl (hb hby at_151) rfl rfl kk_) ?_
  refine Gq.go (T59.setTop (mkF m 154 #[.val (.int x0), .val (.int x1), .val (.long x2), .second, .val (.int x3), .val (.ref b1), .val (.long (Int64.ofNat D)), .second, .val (.ref b54), .unset, .unset, .unset, .unset, .unset, .unset] [(.int (1 : Int32)), (.ref b1), (.long (Int64.ofNat D)), (.int (1 : Int32)), (.ref b54)])) (fun tt_ kk_ => XS.iconst X59.here hx rfl (hb hby at_153) kk_) ?_
  obtain ⟨r64, T64, L64, X64, hQ64, st64⟩ := callT (pc := 154) (Ls := #[.val (.int x0), .val (.int x1), .val (.long x2), .second, .val (.int x3), .val (.ref b1), .val (.long (Int64.ofNat D)), .second, .val (.ref b54), .unset, .unset, .unset, .unset, .unset, .unset]) X59 hx hZ hown eh59 [(.long (Int64.ofNat D)), (.ref b1), (.int (1 : Int32))] [(.int (1 : Int32)), (.ref b54)] (hw _ (List.mem_of_getElem? (i := 19) rfl)) (hw _ (List.mem_of_getElem? (i := 20) rfl)) (hw _ (List.mem_of_getElem? (i := 21) rfl)) (hw _ (List.mem_of_getElem? (i := 22) rfl)) (by decide) (rm1 l Z a0 hw [] D b1 1 h59 n0 za63 fa60 hD (by decide)) pd_2 rfl (by rw [hml]; rfl) (W := 2) (Nat.le_of_eq rfl) (by decide) (by decide) (by decide) (by decide) (hb hby at_154)
  obtain ⟨rfl, N64q, eh64⟩ := hQ64
  have N64 := Fr.app N59 N64q
  refine Gq.go (T64.setTop (mkF m 157 #[.val (.int x0), .val (.int x1), .val (.long x2), .second, .val (.int x3), .val (.ref b1), .val (.long (Int64.ofNat D)), .second, .val (.ref b54), .unset, .unset, .unset, .unset, .unset, .unset] [(.int (Int32.ofNat (48 + D / 10 ^ (15 - 1) % 10))), (.int (1 : Int32)), (.ref b54)])) (fun tt_ kk_ => st64 tt_ kk_) ?_
  obtain ⟨T65, h65, X65, eh65, W65, st65⟩ := stoB X64 hx hZ eh64 V59 (j := (1 : Int32)) (i := 1) (x := (Int32.ofNat (48 + D / 10 ^ (15 - 1) % 10))) (Ls := #[.val (.int x0), .val (.int x1), .val (.long x2), .second, .val (.int x3), .val (.ref b1), .val (.long (Int64.ofNat D)), .second, .val (.ref b54), .unset, .unset, .unset, .unset, .unset, .unset]) (rest := []) (by decide) rfl (by decide) (hb hby at_157)
  have fa66 := fa60.other W65 ne_b1_b54
  have ta67 := Nat.lt_of_lt_of_le ta61 (Nat.le_of_eq W65.size.symm)
  have ta68 := Nat.lt_of_lt_of_le ta62 (Nat.le_of_eq W65.size.symm)
  have za69 : n0 ≤ h65.size := Nat.le_trans za63 (Nat.le_of_eq W65.size.symm)
  have V65 : LA Z h65 b54 .byte 20 (gl [(.int (Int32.ofNat (48 + D / 10 ^ (15 - 0) % 10)).toInt8.toInt32), (.int (Int32.ofNat (48 + D / 10 ^ (15 - 1) % 10)).toInt8.toInt32), (.int (0 : Int32)), (.int (0 : Int32)), (.int (0 : Int32)), (.int (0 : Int32)), (.int (0 : Int32)), (.int (0 : Int32)), (.int (0 : Int32)), (.int (0 : Int32)), (.int (0 : Int32)), (.int (0 : Int32)), (.int (0 : Int32)), (.int (0 : Int32)), (.int (0 : Int32)), (.int (0 : Int32)), (.int (0 : Int32)), (.int (0 : Int32)), (.int (0 : Int32)), (.int (0 : Int32))] (.int (0 : Int32))) := V59.setL W65 (Nat.le_of_ble_eq_true rfl)
  have N65 := Fr.snoc X65 N64 g_b54
  refine Gq.go (T65.setTop (mkF m 158 #[.val (.int x0), .val (.int x1), .val (.long x2), .second, .val (.int x3), .val (.ref b1), .val (.long (Int64.ofNat D)), .second, .val (.ref b54), .unset, .unset, .unset, .unset, .unset, .unset] [])) (fun tt_ kk_ => st65 tt_ kk_) ?_
  refine Gq.go (T65.setTop (mkF m 160 #[.val (.int x0), .val (.int x1), .val (.long x2), .second, .val (.int x3), .val (.ref b1), .val (.long (Int64.ofNat D)), .second, .val (.ref b54), .unset, .unset, .unset, .unset, .unset, .unset] [(.ref b54)])) (fun tt_ kk_ => XS.aload X65.here hx rfl (hb hby at_158) rfl rfl kk_) ?_
  refine Gq.go (T65.setTop (mkF m 161 #[.val (.int x0), .val (.int x1), .val (.long x2), .second, .val (.int x3), .val (.ref b1), .val (.long (Int64.ofNat D)), .second, .val (.ref b54), .unset, .unset, .unset, .unset, .unset, .unset] [(.int (2 : Int32)), (.ref b54)])) (fun tt_ kk_ => XS.iconst X65.here hx rfl (hb hby at_160) kk_) ?_
  refine Gq.go (T65.setTop (mkF m 163 #[.val (.int x0), .val (.int x1), .val (.long x2), .second, .val (.int x3), .val (.ref b1), .val (.long (Int64.ofNat D)), .second, .val (.ref b54), .unset, .unset, .unset, .unset, .unset, .unset] [(.long (Int64.ofNat D)), (.int (2 : Int32)), (.ref b54)])) (fun tt_ kk_ => XS.lload X65.here hx rfl (hb hby at_161) rfl kk_) ?_
  refine Gq.go (T65.setTop (mkF m 165 #[.val (.int x0), .val (.int x1), .val (.long x2), .second, .val (.int x3), .val (.ref b1), .val (.long (Int64.ofNat D)), .second, .val (.ref b54), .unset, .unset, .unset, .unset, .unset, .unset] [(.ref b1), (.long (Int64.ofNat D)), (.int (2 : Int32)), (.ref b54)])) (fun tt_ kk_ => XS.aload X65.here hx rfl (hb hby at_163) rfl rfl kk_) ?_
  refine Gq.go (T65.setTop (mkF m 166 #[.val (.int x0), .val (.int x1), .val (.long x2), .second, .val (.int x3), .val (.ref b1), .val (.long (Int64.ofNat D)), .second, .val (.ref b54), .unset, .unset, .unset, .unset, .unset, .unset] [(.int (2 : Int32)), (.ref b1), (.long (Int64.ofNat D)), (.int (2 : Int32)), (.ref b54)])) (fun tt_ kk_ => XS.iconst X65.here hx rfl (hb hby at_165) kk_) ?_
  obtain ⟨r70, T70, L70, X70, hQ70, st70⟩ := callT (pc := 166) (Ls := #[.val (.int x0), .val (.int x1), .val (.long x2), .second, .val (.int x3), .val (.ref b1), .val (.long (Int64.ofNat D)), .second, .val (.ref b54), .unset, .unset, .unset, .unset, .unset, .unset]) X65 hx hZ hown eh65 [(.long (Int64.ofNat D)), (.ref b1), (.int (2 : Int32))] [(.int (2 : Int32)), (.ref b54)] (hw _ (List.mem_of_getElem? (i := 19) rfl)) (hw _ (List.mem_of_getElem? (i := 20) rfl)) (hw _ (List.mem_of_getElem? (i := 21) rfl)) (hw _ (List.mem_of_getElem? (i := 22) rfl)) (by decide) (rm1 l Z a0 hw [] D b1 2 h65 n0 za69 fa66 hD (by decide)) pd_2 rfl (by rw [hml]; rfl) (W := 2) (Nat.le_of_eq rfl) (by decide) (by decide) (by decide) (by decide) (hb hby at_166)
  obtain ⟨rfl, N70q, eh70⟩ := hQ70
  have N70 := Fr.app N65 N70q
  refine Gq.go (T70.setTop (mkF m 169 #[.val (.int x0), .val (.int x1), .val (.long x2), .second, .val (.int x3), .val (.ref b1), .val (.long (Int64.ofNat D)), .second, .val (.ref b54), .unset, .unset, .unset, .unset, .unset, .unset] [(.int (Int32.ofNat (48 + D / 10 ^ (15 - 2) % 10))), (.int (2 : Int32)), (.ref b54)])) (fun tt_ kk_ => st70 tt_ kk_) ?_
  obtain ⟨T71, h71, X71, eh71, W71, st71⟩ := stoB X70 hx hZ eh70 V65 (j := (2 : Int32)) (i := 2) (x := (Int32.ofNat (48 + D / 10 ^ (15 - 2) % 10))) (Ls := #[.val (.int x0), .val (.int x1), .val (.long x2), .second, .val (.int x3), .val (.ref b1), .val (.long (Int64.ofNat D)), .second, .val (.ref b54), .unset, .unset, .unset, .unset, .unset, .unset]) (rest := []) (by decide) rfl (by decide) (hb hby at_169)
  have fa72 := fa66.other W71 ne_b1_b54
  have ta73 := Nat.lt_of_lt_of_le ta67 (Nat.le_of_eq W71.size.symm)
  have ta74 := Nat.lt_of_lt_of_le ta68 (Nat.le_of_eq W71.size.symm)
  have za75 : n0 ≤ h71.size := Nat.le_trans za69 (Nat.le_of_eq W71.size.symm)
  have V71 : LA Z h71 b54 .byte 20 (gl [(.int (Int32.ofNat (48 + D / 10 ^ (15 - 0) % 10)).toInt8.toInt32), (.int (Int32.ofNat (48 + D / 10 ^ (15 - 1) % 10)).toInt8.toInt32), (.int (Int32.ofNat (48 + D / 10 ^ (15 - 2) % 10)).toInt8.toInt32), (.int (0 : Int32)), (.int (0 : Int32)), (.int (0 : Int32)), (.int (0 : Int32)), (.int (0 : Int32)), (.int (0 : Int32)), (.int (0 : Int32)), (.int (0 : Int32)), (.int (0 : Int32)), (.int (0 : Int32)), (.int (0 : Int32)), (.int (0 : Int32)), (.int (0 : Int32)), (.int (0 : Int32)), (.int (0 : Int32)), (.int (0 : Int32)), (.int (0 : Int32))] (.int (0 : Int32))) := V65.setL W71 (Nat.le_of_ble_eq_true rfl)
  have N71 := Fr.snoc X71 N70 g_b54
  refine Gq.go (T71.setTop (mkF m 170 #[.val (.int x0), .val (.int x1), .val (.long x2), .second, .val (.int x3), .val (.ref b1), .val (.long (Int64.ofNat D)), .second, .val (.ref b54), .unset, .unset, .unset, .unset, .unset, .unset] [])) (fun tt_ kk_ => st71 tt_ kk_) ?_
  refine Gq.go (T71.setTop (mkF m 172 #[.val (.int x0), .val (.int x1), .val (.long x2), .second, .val (.int x3), .val (.ref b1), .val (.long (Int64.ofNat D)), .second, .val (.ref b54), .unset, .unset, .unset, .unset, .unset, .unset] [(.ref b54)])) (fun tt_ kk_ => XS.aload X71.here hx rfl (hb hby at_170) rfl rfl kk_) ?_
  refine Gq.go (T71.setTop (mkF m 173 #[.val (.int x0), .val (.int x1), .val (.long x2), .second, .val (.int x3), .val (.ref b1), .val (.long (Int64.ofNat D)), .second, .val (.ref b54), .unset, .unset, .unset, .unset, .unset, .unset] [(.int (3 : Int32)), (.ref b54)])) (fun tt_ kk_ => XS.iconst X71.here hx rfl (hb hby at_172) kk_) ?_
  refine Gq.go (T71.setTop (mkF m 175 #[.val (.int x0), .val (.int x1), .val (.long x2), .second, .val (.int x3), .val (.ref b1), .val (.long (Int64.ofNat D)), .second, .val (.ref b54), .unset, .unset, .unset, .unset, .unset, .unset] [(.long (Int64.ofNat D)), (.int (3 : Int32)), (.ref b54)])) (fun tt_ kk_ => XS.lload X71.here hx rfl (hb hby at_173) rfl kk_) ?_
  refine Gq.go (T71.setTop (mkF m 177 #[.val (.int x0), .val (.int x1), .val (.long x2), .second, .val (.int x3), .val (.ref b1), .val (.long (Int64.ofNat D)), .second, .val (.ref b54), .unset, .unset, .unset, .unset, .unset, .unset] [(.ref b1), (.long (Int64.ofNat D)), (.int (3 : Int32)), (.ref b54)])) (fun tt_ kk_ => XS.aload X71.here hx rfl (hb hby at_175) rfl rfl kk_) ?_
  refine Gq.go (T71.setTop (mkF m 178 #[.val (.int x0), .val (.int x1), .val (.long x2), .second, .val (.int x3), .val (.ref b1), .val (.long (Int64.ofNat D)), .second, .val (.ref b54), .unset, .unset, .unset, .unset, .unset, .unset] [(.int (3 : Int32)), (.ref b1), (.long (Int64.ofNat D)), (.int (3 : Int32)), (.ref b54)])) (fun tt_ kk_ => XS.iconst X71.here hx rfl (hb hby at_177) kk_) ?_
  obtain ⟨r76, T76, L76, X76, hQ76, st76⟩ := callT (pc := 178) (Ls := #[.val (.int x0), .val (.int x1), .val (.long x2), .second, .val (.int x3), .val (.ref b1), .val (.long (Int64.ofNat D)), .second, .val (.ref b54), .unset, .unset, .unset, .unset, .unset, .unset]) X71 hx hZ hown eh71 [(.long (Int64.ofNat D)), (.ref b1), (.int (3 : Int32))] [(.int (3 : Int32)), (.ref b54)] (hw _ (List.mem_of_getElem? (i := 19) rfl)) (hw _ (List.mem_of_getElem? (i := 20) rfl)) (hw _ (List.mem_of_getElem? (i := 21) rfl)) (hw _ (List.mem_of_getElem? (i := 22) rfl)) (by decide) (rm1 l Z a0 hw [] D b1 3 h71 n0 za75 fa72 hD (by decide)) pd_2 rfl (by rw [hml]; rfl) (W := 2) (Nat.le_of_eq rfl) (by decide) (by decide) (by decide) (by decide) (hb hby at_178)
  obtain ⟨rfl, N76q, eh76⟩ := hQ76
  have N76 := Fr.app N71 N76q
  refine Gq.go (T76.setTop (mkF m 181 #[.val (.int x0), .val (.int x1), .val (.long x2), .second, .val (.int x3), .val (.ref b1), .val (.long (Int64.ofNat D)), .second, .val (.ref b54), .unset, .unset, .unset, .unset, .unset, .unset] [(.int (Int32.ofNat (48 + D / 10 ^ (15 - 3) % 10))), (.int (3 : Int32)), (.ref b54)])) (fun tt_ kk_ => st76 tt_ kk_) ?_
  obtain ⟨T77, h77, X77, eh77, W77, st77⟩ := stoB X76 hx hZ eh76 V71 (j := (3 : Int32)) (i := 3) (x := (Int32.ofNat (48 + D / 10 ^ (15 - 3) % 10))) (Ls := #[.val (.int x0), .val (.int x1), .val (.long x2), .second, .val (.int x3), .val (.ref b1), .val (.long (Int64.ofNat D)), .second, .val (.ref b54), .unset, .unset, .unset, .unset, .unset, .unset]) (rest := []) (by decide) rfl (by decide) (hb hby at_181)
  have fa78 := fa72.other W77 ne_b1_b54
  have ta79 := Nat.lt_of_lt_of_le ta73 (Nat.le_of_eq W77.size.symm)
  have ta80 := Nat.lt_of_lt_of_le ta74 (Nat.le_of_eq W77.size.symm)
  have za81 : n0 ≤ h77.size := Nat.le_trans za75 (Nat.le_of_eq W77.size.symm)
  have V77 : LA Z h77 b54 .byte 20 (gl [(.int (Int32.ofNat (48 + D / 10 ^ (15 - 0) % 10)).toInt8.toInt32), (.int (Int32.ofNat (48 + D / 10 ^ (15 - 1) % 10)).toInt8.toInt32), (.int (Int32.ofNat (48 + D / 10 ^ (15 - 2) % 10)).toInt8.toInt32), (.int (Int32.ofNat (48 + D / 10 ^ (15 - 3) % 10)).toInt8.toInt32), (.int (0 : Int32)), (.int (0 : Int32)), (.int (0 : Int32)), (.int (0 : Int32)), (.int (0 : Int32)), (.int (0 : Int32)), (.int (0 : Int32)), (.int (0 : Int32)), (.int (0 : Int32)), (.int (0 : Int32)), (.int (0 : Int32)), (.int (0 : Int32)), (.int (0 : Int32)), (.int (0 : Int32)), (.int (0 : Int32)), (.int (0 : Int32))] (.int (0 : Int32))) := V71.setL W77 (Nat.le_of_ble_eq_true rfl)
  have N77 := Fr.snoc X77 N76 g_b54
  refine Gq.go (T77.setTop (mkF m 182 #[.val (.int x0), .val (.int x1), .val (.long x2), .second, .val (.int x3), .val (.ref b1), .val (.long (Int64.ofNat D)), .second, .val (.ref b54), .unset, .unset, .unset, .unset, .unset, .unset] [])) (fun tt_ kk_ => st77 tt_ kk_) ?_
  refine Gq.go (T77.setTop (mkF m 184 #[.val (.int x0), .val (.int x1), .val (.long x2), .second, .val (.int x3), .val (.ref b1), .val (.long (Int64.ofNat D)), .second, .val (.ref b54), .unset, .unset, .unset, .unset, .unset, .unset] [(.ref b54)])) (fun tt_ kk_ => XS.aload X77.here hx rfl (hb hby at_182) rfl rfl kk_) ?_
  refine Gq.go (T77.setTop (mkF m 185 #[.val (.int x0), .val (.int x1), .val (.long x2), .second, .val (.int x3), .val (.ref b1), .val (.long (Int64.ofNat D)), .second, .val (.ref b54), .unset, .unset, .unset, .unset, .unset, .unset] [(.int (4 : Int32)), (.ref b54)])) (fun tt_ kk_ => XS.iconst X77.here hx rfl (hb hby at_184) kk_) ?_
  refine Gq.go (T77.setTop (mkF m 187 #[.val (.int x0), .val (.int x1), .val (.long x2), .second, .val (.int x3), .val (.ref b1), .val (.long (Int64.ofNat D)), .second, .val (.ref b54), .unset, .unset, .unset, .unset, .unset, .unset] [(.long (Int64.ofNat D)), (.int (4 : Int32)), (.ref b54)])) (fun tt_ kk_ => XS.lload X77.here hx rfl (hb hby at_185) rfl kk_) ?_
  refine Gq.go (T77.setTop (mkF m 189 #[.val (.int x0), .val (.int x1), .val (.long x2), .second, .val (.int x3), .val (.ref b1), .val (.long (Int64.ofNat D)), .second, .val (.ref b54), .unset, .unset, .unset, .unset, .unset, .unset] [(.ref b1), (.long (Int64.ofNat D)), (.int (4 : Int32)), (.ref b54)])) (fun tt_ kk_ => XS.aload X77.here hx rfl (hb hby at_187) rfl rfl kk_) ?_
  refine Gq.go (T77.setTop (mkF m 190 #[.val (.int x0), .val (.int x1), .val (.long x2), .second, .val (.int x3), .val (.ref b1), .val (.long (Int64.ofNat D)), .second, .val (.ref b54), .unset, .unset, .unset, .unset, .unset, .unset] [(.int (4 : Int32)), (.ref b1), (.long (Int64.ofNat D)), (.int (4 : Int32)), (.ref b54)])) (fun tt_ kk_ => XS.iconst X77.here hx rfl (hb hby at_189) kk_) ?_
  obtain ⟨r82, T82, L82, X82, hQ82, st82⟩ := callT (pc := 190) (Ls := #[.val (.int x0), .val (.int x1), .val (.long x2), .second, .val (.int x3), .val (.ref b1), .val (.long (Int64.ofNat D)), .second, .val (.ref b54), .unset, .unset, .unset, .unset, .unset, .unset]) X77 hx hZ hown eh77 [(.long (Int64.ofNat D)), (.ref b1), (.int (4 : Int32))] [(.int (4 : Int32)), (.ref b54)] (hw _ (List.mem_of_getElem? (i := 19) rfl)) (hw _ (List.mem_of_getElem? (i := 20) rfl)) (hw _ (List.mem_of_getElem? (i := 21) rfl)) (hw _ (List.mem_of_getElem? (i := 22) rfl)) (by decide) (rm1 l Z a0 hw [] D b1 4 h77 n0 za81 fa78 hD (by decide)) pd_2 rfl (by rw [hml]; rfl) (W := 2) (Nat.le_of_eq rfl) (by decide) (by decide) (by decide) (by decide) (hb hby at_190)
  obtain ⟨rfl, N82q, eh82⟩ := hQ82
  have N82 := Fr.app N77 N82q
  refine Gq.go (T82.setTop (mkF m 193 #[.val (.int x0), .val (.int x1), .val (.long x2), .second, .val (.int x3), .val (.ref b1), .val (.long (Int64.ofNat D)), .second, .val (.ref b54), .unset, .unset, .unset, .unset, .unset, .unset] [(.int (Int32.ofNat (48 + D / 10 ^ (15 - 4) % 10))), (.int (4 : Int32)), (.ref b54)])) (fun tt_ kk_ => st82 tt_ kk_) ?_
  obtain ⟨T83, h83, X83, eh83, W83, st83⟩ := stoB X82 hx hZ eh82 V77 (j := (4 : Int32)) (i := 4) (x := (Int32.ofNat (48 + D / 10 ^ (15 - 4) % 10))) (Ls := #[.val (.int x0), .val (.int x1), .val (.long x2), .second, .val (.int x3), .val (.ref b1), .val (.long (Int64.ofNat D)), .second, .val (.ref b54), .unset, .unset, .unset, .unset, .unset, .unset]) (rest := []) (by decide) rfl (by decide) (hb hby at_193)
  have fa84 := fa78.other W83 ne_b1_b54
  have ta85 := Nat.lt_of_lt_of_le ta79 (Nat.le_of_eq W83.size.symm)
  have ta86 := Nat.lt_of_lt_of_le ta80 (Nat.le_of_eq W83.size.symm)
  have za87 : n0 ≤ h83.size := Nat.le_trans za81 (Nat.le_of_eq W83.size.symm)
  have V83 : LA Z h83 b54 .byte 20 (gl [(.int (Int32.ofNat (48 + D / 10 ^ (15 - 0) % 10)).toInt8.toInt32), (.int (Int32.ofNat (48 + D / 10 ^ (15 - 1) % 10)).toInt8.toInt32), (.int (Int32.ofNat (48 + D / 10 ^ (15 - 2) % 10)).toInt8.toInt32), (.int (Int32.ofNat (48 + D / 10 ^ (15 - 3) % 10)).toInt8.toInt32), (.int (Int32.ofNat (48 + D / 10 ^ (15 - 4) % 10)).toInt8.toInt32), (.int (0 : Int32)), (.int (0 : Int32)), (.int (0 : Int32)), (.int (0 : Int32)), (.int (0 : Int32)), (.int (0 : Int32)), (.int (0 : Int32)), (.int (0 : Int32)), (.int (0 : Int32)), (.int (0 : Int32)), (.int (0 : Int32)), (.int (0 : Int32)), (.int (0 : Int32)), (.int (0 : Int32)), (.int (0 : Int32))] (.int (0 : Int32))) := V77.setL W83 (Nat.le_of_ble_eq_true rfl)
  have N83 := Fr.snoc X83 N82 g_b54
  refine Gq.go (T83.setTop (mkF m 194 #[.val (.int x0), .val (.int x1), .val (.long x2), .second, .val (.int x3), .val (.ref b1), .val (.long (Int64.ofNat D)), .second, .val (.ref b54), .unset, .unset, .unset, .unset, .unset, .unset] [])) (fun tt_ kk_ => st83 tt_ kk_) ?_
  refine Gq.go (T83.setTop (mkF m 196 #[.val (.int x0), .val (.int x1), .val (.long x2), .second, .val (.int x3), .val (.ref b1), .val (.long (Int64.ofNat D)), .second, .val (.ref b54), .unset, .unset, .unset, .unset, .unset, .unset] [(.ref b54)])) (fun tt_ kk_ => XS.aload X83.here hx rfl (hb hby at_194) rfl rfl kk_) ?_
  refine Gq.go (T83.setTop (mkF m 197 #[.val (.int x0), .val (.int x1), .val (.long x2), .second, .val (.int x3), .val (.ref b1), .val (.long (Int64.ofNat D)), .second, .val (.ref b54), .unset, .unset, .unset, .unset, .unset, .unset] [(.int (5 : Int32)), (.ref b54)])) (fun tt_ kk_ => XS.iconst X83.here hx rfl (hb hby at_196) kk_) ?_
  refine Gq.go (T83.setTop (mkF m 199 #[.val (.int x0), .val (.int x1), .val (.long x2), .second, .val (.int x3), .val (.ref b1), .val (.long (Int64.ofNat D)), .second, .val (.ref b54), .unset, .unset, .unset, .unset, .unset, .unset] [(.long (Int64.ofNat D)), (.int (5 : Int32)), (.ref b54)])) (fun tt_ kk_ => XS.lload X83.here hx rfl (hb hby at_197) rfl kk_) ?_
  refine Gq.go (T83.setTop (mkF m 201 #[.val (.int x0), .val (.int x1), .val (.long x2), .second, .val (.int x3), .val (.ref b1), .val (.long (Int64.ofNat D)), .second, .val (.ref b54), .unset, .unset, .unset, .unset, .unset, .unset] [(.ref b1), (.long (Int64.ofNat D)), (.int (5 : Int32)), (.ref b54)])) (fun tt_ kk_ => XS.aload X83.here hx rfl (hb hby at_199) rfl rfl kk_) ?_
  refine Gq.go (T83.setTop (mkF m 202 #[.val (.int x0), .val (.int x1), .val (.long x2), .second, .val (.int x3), .val (.ref b1), .val (.long (Int64.ofNat D)), .second, .val (.ref b54), .unset, .unset, .unset, .unset, .unset, .unset] [(.int (5 : Int32)), (.ref b1), (.long (Int64.ofNat D)), (.int (5 : Int32)), (.ref b54)])) (fun tt_ kk_ => XS.iconst X83.here hx rfl (hb hby at_201) kk_) ?_
  obtain ⟨r88, T88, L88, X88, hQ88, st88⟩ := callT (pc := 202) (Ls := #[.val (.int x0), .val (.int x1), .val (.long x2), .second, .val (.int x3), .val (.ref b1), .val (.long (Int64.ofNat D)), .second, .val (.ref b54), .unset, .unset, .unset, .unset, .unset, .unset]) X83 hx hZ hown eh83 [(.long (Int64.ofNat D)), (.ref b1), (.int (5 : Int32))] [(.int (5 : Int32)), (.ref b54)] (hw _ (List.mem_of_getElem? (i := 19) rfl)) (hw _ (List.mem_of_getElem? (i := 20) rfl)) (hw _ (List.mem_of_getElem? (i := 21) rfl)) (hw _ (List.mem_of_getElem? (i := 22) rfl)) (by decide) (rm1 l Z a0 hw [] D b1 5 h83 n0 za87 fa84 hD (by decide)) pd_2 rfl (by rw [hml]; rfl) (W := 2) (Nat.le_of_eq rfl) (by decide) (by decide) (by decide) (by decide) (hb hby at_202)
  obtain ⟨rfl, N88q, eh88⟩ := hQ88
  have N88 := Fr.app N83 N88q
  refine Gq.go (T88.setTop (mkF m 205 #[.val (.int x0), .val (.int x1), .val (.long x2), .second, .val (.int x3), .val (.ref b1), .val (.long (Int64.ofNat D)), .second, .val (.ref b54), .unset, .unset, .unset, .unset, .unset, .unset] [(.int (Int32.ofNat (48 + D / 10 ^ (15 - 5) % 10))), (.int (5 : Int32)), (.ref b54)])) (fun tt_ kk_ => st88 tt_ kk_) ?_
  obtain ⟨T89, h89, X89, eh89, W89, st89⟩ := stoB X88 hx hZ eh88 V83 (j := (5 : Int32)) (i := 5) (x := (Int32.ofNat (48 + D / 10 ^ (15 - 5) % 10))) (Ls := #[.val (.int x0), .val (.int x1), .val (.long x2), .second, .val (.int x3), .val (.ref b1), .val (.long (Int64.ofNat D)), .second, .val (.ref b54), .unset, .unset, .unset, .unset, .unset, .unset]) (rest := []) (by decide) rfl (by decide) (hb hby at_205)
  have fa90 := fa84.other W89 ne_b1_b54
  have ta91 := Nat.lt_of_lt_of_le ta85 (Nat.le_of_eq W89.size.symm)
  have ta92 := Nat.lt_of_lt_of_le ta86 (Nat.le_of_eq W89.size.symm)
  have za93 : n0 ≤ h89.size := Nat.le_trans za87 (Nat.le_of_eq W89.size.symm)
  have V89 : LA Z h89 b54 .byte 20 (gl [(.int (Int32.ofNat (48 + D / 10 ^ (15 - 0) % 10)).toInt8.toInt32), (.int (Int32.ofNat (48 + D / 10 ^ (15 - 1) % 10)).toInt8.toInt32), (.int (Int32.ofNat (48 + D / 10 ^ (15 - 2) % 10)).toInt8.toInt32), (.int (Int32.ofNat (48 + D / 10 ^ (15 - 3) % 10)).toInt8.toInt32), (.int (Int32.ofNat (48 + D / 10 ^ (15 - 4) % 10)).toInt8.toInt32), (.int (Int32.ofNat (48 + D / 10 ^ (15 - 5) % 10)).toInt8.toInt32), (.int (0 : Int32)), (.int (0 : Int32)), (.int (0 : Int32)), (.int (0 : Int32)), (.int (0 : Int32)), (.int (0 : Int32)), (.int (0 : Int32)), (.int (0 : Int32)), (.int (0 : Int32)), (.int (0 : Int32)), (.int (0 : Int32)), (.int (0 : Int32)), (.int (0 : Int32)), (.int (0 : Int32))] (.int (0 : Int32))) := V83.setL W89 (Nat.le_of_ble_eq_true rfl)
  have N89 := Fr.snoc X89 N88 g_b54
  refine Gq.go (T89.setTop (mkF m 206 #[.val (.int x0), .val (.int x1), .val (.long x2), .second, .val (.int x3), .val (.ref b1), .val (.long (Int64.ofNat D)), .second, .val (.ref b54), .unset, .unset, .unset, .unset, .unset, .unset] [])) (fun tt_ kk_ => st89 tt_ kk_) ?_
  refine Gq.go (T89.setTop (mkF m 208 #[.val (.int x0), .val (.int x1), .val (.long x2), .second, .val (.int x3), .val (.ref b1), .val (.long (Int64.ofNat D)), .second, .val (.ref b54), .unset, .unset, .unset, .unset, .unset, .unset] [(.ref b54)])) (fun tt_ kk_ => XS.aload X89.here hx rfl (hb hby at_206) rfl rfl kk_) ?_
  refine Gq.go (T89.setTop (mkF m 210 #[.val (.int x0), .val (.int x1), .val (.long x2), .second, .val (.int x3), .val (.ref b1), .val (.long (Int64.ofNat D)), .second, .val (.ref b54), .unset, .unset, .unset, .unset, .unset, .unset] [(.int (6 : Int32)), (.ref b54)])) (fun tt_ kk_ => XS.bipush X89.here hx rfl (hb hby at_208) kk_) ?_
  refine Gq.go (T89.setTop (mkF m 212 #[.val (.int x0), .val (.int x1), .val (.long x2), .second, .val (.int x3), .val (.ref b1), .val (.long (Int64.ofNat D)), .second, .val (.ref b54), .unset, .unset, .unset, .unset, .unset, .unset] [(.long (Int64.ofNat D)), (.int (6 : Int32)), (.ref b54)])) (fun tt_ kk_ => XS.lload X89.here hx rfl (hb hby at_210) rfl kk_) ?_
  refine Gq.go (T89.setTop (mkF m 214 #[.val (.int x0), .val (.int x1), .val (.long x2), .second, .val (.int x3), .val (.ref b1), .val (.long (Int64.ofNat D)), .second, .val (.ref b54), .unset, .unset, .unset, .unset, .unset, .unset] [(.ref b1), (.long (Int64.ofNat D)), (.int (6 : Int32)), (.ref b54)])) (fun tt_ kk_ => XS.aload X89.here hx rfl (hb hby at_212) rfl rfl kk_) ?_
  refine Gq.go (T89.setTop (mkF m 216 #[.val (.int x0), .val (.int x1), .val (.long x2), .second, .val (.int x3), .val (.ref b1), .val (.long (Int64.ofNat D)), .second, .val (.ref b54), .unset, .unset, .unset, .unset, .unset, .unset] [(.int (6 : Int32)), (.ref b1), (.long (Int64.ofNat D)), (.int (6 : Int32)), (.ref b54)])) (fun tt_ kk_ => XS.bipush X89.here hx rfl (hb hby at_214) kk_) ?_
  obtain ⟨r94, T94, L94, X94, hQ94, st94⟩ := callT (pc := 216) (Ls := #[.val (.int x0), .val (.int x1), .val (.long x2), .second, .val (.int x3), .val (.ref b1), .val (.long (Int64.ofNat D)), .second, .val (.ref b54), .unset, .unset, .unset, .unset, .unset, .unset]) X89 hx hZ hown eh89 [(.long (Int64.ofNat D)), (.ref b1), (.int (6 : Int32))] [(.int (6 : Int32)), (.ref b54)] (hw _ (List.mem_of_getElem? (i := 19) rfl)) (hw _ (List.mem_of_getElem? (i := 20) rfl)) (hw _ (List.mem_of_getElem? (i := 21) rfl)) (hw _ (List.mem_of_getElem? (i := 22) rfl)) (by decide) (rm1 l Z a0 hw [] D b1 6 h89 n0 za93 fa90 hD (by decide)) pd_2 rfl (by rw [hml]; rfl) (W := 2) (Nat.le_of_eq rfl) (by decide) (by decide) (by decide) (by decide) (hb hby at_216)
  obtain ⟨rfl, N94q, eh94⟩ := hQ94
  have N94 := Fr.app N89 N94q
  refine Gq.go (T94.setTop (mkF m 219 #[.val (.int x0), .val (.int x1), .val (.long x2), .second, .val (.int x3), .val (.ref b1), .val (.long (Int64.ofNat D)), .second, .val (.ref b54), .unset, .unset, .unset, .unset, .unset, .unset] [(.int (Int32.ofNat (48 + D / 10 ^ (15 - 6) % 10))), (.int (6 : Int32)), (.ref b54)])) (fun tt_ kk_ => st94 tt_ kk_) ?_
  obtain ⟨T95, h95, X95, eh95, W95, st95⟩ := stoB X94 hx hZ eh94 V89 (j := (6 : Int32)) (i := 6) (x := (Int32.ofNat (48 + D / 10 ^ (15 - 6) % 10))) (Ls := #[.val (.int x0), .val (.int x1), .val (.long x2), .second, .val (.int x3), .val (.ref b1), .val (.long (Int64.ofNat D)), .second, .val (.ref b54), .unset, .unset, .unset, .unset, .unset, .unset]) (rest := []) (by decide) rfl (by decide) (hb hby at_219)
  have fa96 := fa90.other W95 ne_b1_b54
  have ta97 := Nat.lt_of_lt_of_le ta91 (Nat.le_of_eq W95.size.symm)
  have ta98 := Nat.lt_of_lt_of_le ta92 (Nat.le_of_eq W95.size.symm)
  have za99 : n0 ≤ h95.size := Nat.le_trans za93 (Nat.le_of_eq W95.size.symm)
  have V95 : LA Z h95 b54 .byte 20 (gl [(.int (Int32.ofNat (48 + D / 10 ^ (15 - 0) % 10)).toInt8.toInt32), (.int (Int32.ofNat (48 + D / 10 ^ (15 - 1) % 10)).toInt8.toInt32), (.int (Int32.ofNat (48 + D / 10 ^ (15 - 2) % 10)).toInt8.toInt32), (.int (Int32.ofNat (48 + D / 10 ^ (15 - 3) % 10)).toInt8.toInt32), (.int (Int32.ofNat (48 + D / 10 ^ (15 - 4) % 10)).toInt8.toInt32), (.int (Int32.ofNat (48 + D / 10 ^ (15 - 5) % 10)).toInt8.toInt32), (.int (Int32.ofNat (48 + D / 10 ^ (15 - 6) % 10)).toInt8.toInt32), (.int (0 : Int32)), (.int (0 : Int32)), (.int (0 : Int32)), (.int (0 : Int32)), (.int (0 : Int32)), (.int (0 : Int32)), (.int (0 : Int32)), (.int (0 : Int32)), (.int (0 : Int32)), (.int (0 : Int32)), (.int (0 : Int32)), (.int (0 : Int32)), (.int (0 : Int32))] (.int (0 : Int32))) := V89.setL W95 (Nat.le_of_ble_eq_true rfl)
  have N95 := Fr.snoc X95 N94 g_b54
  refine Gq.go (T95.setTop (mkF m 220 #[.val (.int x0), .val (.int x1), .val (.long x2), .second, .val (.int x3), .val (.ref b1), .val (.long (Int64.ofNat D)), .second, .val (.ref b54), .unset, .unset, .unset, .unset, .unset, .unset] [])) (fun tt_ kk_ => st95 tt_ kk_) ?_
  refine Gq.go (T95.setTop (mkF m 222 #[.val (.int x0), .val (.int x1), .val (.long x2), .second, .val (.int x3), .val (.ref b1), .val (.long (Int64.ofNat D)), .second, .val (.ref b54), .unset, .unset, .unset, .unset, .unset, .unset] [(.ref b54)])) (fun tt_ kk_ => XS.aload X95.here hx rfl (hb hby at_220) rfl rfl kk_) ?_
  refine Gq.go (T95.setTop (mkF m 224 #[.val (.int x0), .val (.int x1), .val (.long x2), .second, .val (.int x3), .val (.ref b1), .val (.long (Int64.ofNat D)), .second, .val (.ref b54), .unset, .unset, .unset, .unset, .unset, .unset] [(.int (7 : Int32)), (.ref b54)])) (fun tt_ kk_ => XS.bipush X95.here hx rfl (hb hby at_222) kk_) ?_
  refine Gq.go (T95.setTop (mkF m 226 #[.val (.int x0), .val (.int x1), .val (.long x2), .second, .val (.int x3), .val (.ref b1), .val (.long (Int64.ofNat D)), .second, .val (.ref b54), .unset, .unset, .unset, .unset, .unset, .unset] [(.long (Int64.ofNat D)), (.int (7 : Int32)), (.ref b54)])) (fun tt_ kk_ => XS.lload X95.here hx rfl (hb hby at_224) rfl kk_) ?_
  refine Gq.go (T95.setTop (mkF m 228 #[.val (.int x0), .val (.int x1), .val (.long x2), .second, .val (.int x3), .val (.ref b1), .val (.long (Int64.ofNat D)), .second, .val (.ref b54), .unset, .unset, .unset, .unset, .unset, .unset] [(.ref b1), (.long (Int64.ofNat D)), (.int (7 : Int32)), (.ref b54)])) (fun tt_ kk_ => XS.aload X95.here hx rfl (hb hby at_226) rfl rfl kk_) ?_
  refine Gq.go (T95.setTop (mkF m 230 #[.val (.int x0), .val (.int x1), .val (.long x2), .second, .val (.int x3), .val (.ref b1), .val (.long (Int64.ofNat D)), .second, .val (.ref b54), .unset, .unset, .unset, .unset, .unset, .unset] [(.int (7 : Int32)), (.ref b1), (.long (Int64.ofNat D)), (.int (7 : Int32)), (.ref b54)])) (fun tt_ kk_ => XS.bipush X95.here hx rfl (hb hby at_228) kk_) ?_
  obtain ⟨r100, T100, L100, X100, hQ100, st100⟩ := callT (pc := 230) (Ls := #[.val (.int x0), .val (.int x1), .val (.long x2), .second, .val (.int x3), .val (.ref b1), .val (.long (Int64.ofNat D)), .second, .val (.ref b54), .unset, .unset, .unset, .unset, .unset, .unset]) X95 hx hZ hown eh95 [(.long (Int64.ofNat D)), (.ref b1), (.int (7 : Int32))] [(.int (7 : Int32)), (.ref b54)] (hw _ (List.mem_of_getElem? (i := 19) rfl)) (hw _ (List.mem_of_getElem? (i := 20) rfl)) (hw _ (List.mem_of_getElem? (i := 21) rfl)) (hw _ (List.mem_of_getElem? (i := 22) rfl)) (by decide) (rm1 l Z a0 hw [] D b1 7 h95 n0 za99 fa96 hD (by decide)) pd_2 rfl (by rw [hml]; rfl) (W := 2) (Nat.le_of_eq rfl) (by decide) (by decide) (by decide) (by decide) (hb hby at_230)
  obtain ⟨rfl, N100q, eh100⟩ := hQ100
  have N100 := Fr.app N95 N100q
  refine Gq.go (T100.setTop (mkF m 233 #[.val (.int x0), .val (.int x1), .val (.long x2), .second, .val (.int x3), .val (.ref b1), .val (.long (Int64.ofNat D)), .second, .val (.ref b54), .unset, .unset, .unset, .unset, .unset, .unset] [(.int (Int32.ofNat (48 + D / 10 ^ (15 - 7) % 10))), (.int (7 : Int32)), (.ref b54)])) (fun tt_ kk_ => st100 tt_ kk_) ?_
  obtain ⟨T101, h101, X101, eh101, W101, st101⟩ := stoB X100 hx hZ eh100 V95 (j := (7 : Int32)) (i := 7) (x := (Int32.ofNat (48 + D / 10 ^ (15 - 7) % 10))) (Ls := #[.val (.int x0), .val (.int x1), .val (.long x2), .second, .val (.int x3), .val (.ref b1), .val (.long (Int64.ofNat D)), .second, .val (.ref b54), .unset, .unset, .unset, .unset, .unset, .unset]) (rest := []) (by decide) rfl (by decide) (hb hby at_233)
  have fa102 := fa96.other W101 ne_b1_b54
  have ta103 := Nat.lt_of_lt_of_le ta97 (Nat.le_of_eq W101.size.symm)
  have ta104 := Nat.lt_of_lt_of_le ta98 (Nat.le_of_eq W101.size.symm)
  have za105 : n0 ≤ h101.size := Nat.le_trans za99 (Nat.le_of_eq W101.size.symm)
  have V101 : LA Z h101 b54 .byte 20 (gl [(.int (Int32.ofNat (48 + D / 10 ^ (15 - 0) % 10)).toInt8.toInt32), (.int (Int32.ofNat (48 + D / 10 ^ (15 - 1) % 10)).toInt8.toInt32), (.int (Int32.ofNat (48 + D / 10 ^ (15 - 2) % 10)).toInt8.toInt32), (.int (Int32.ofNat (48 + D / 10 ^ (15 - 3) % 10)).toInt8.toInt32), (.int (Int32.ofNat (48 + D / 10 ^ (15 - 4) % 10)).toInt8.toInt32), (.int (Int32.ofNat (48 + D / 10 ^ (15 - 5) % 10)).toInt8.toInt32), (.int (Int32.ofNat (48 + D / 10 ^ (15 - 6) % 10)).toInt8.toInt32), (.int (Int32.ofNat (48 + D / 10 ^ (15 - 7) % 10)).toInt8.toInt32), (.int (0 : Int32)), (.int (0 : Int32)), (.int (0 : Int32)), (.int (0 : Int32)), (.int (0 : Int32)), (.int (0 : Int32)), (.int (0 : Int32)), (.int (0 : Int32)), (.int (0 : Int32)), (.int (0 : Int32)), (.int (0 : Int32)), (.int (0 : Int32))] (.int (0 : Int32))) := V95.setL W101 (Nat.le_of_ble_eq_true rfl)
  have N101 := Fr.snoc X101 N100 g_b54
  refine Gq.go (T101.setTop (mkF m 234 #[.val (.int x0), .val (.int x1), .val (.long x2), .second, .val (.int x3), .val (.ref b1), .val (.long (Int64.ofNat D)), .second, .val (.ref b54), .unset, .unset, .unset, .unset, .unset, .unset] [])) (fun tt_ kk_ => st101 tt_ kk_) ?_
  refine Gq.go (T101.setTop (mkF m 236 #[.val (.int x0), .val (.int x1), .val (.long x2), .second, .val (.int x3), .val (.ref b1), .val (.long (Int64.ofNat D)), .second, .val (.ref b54), .unset, .unset, .unset, .unset, .unset, .unset] [(.ref b54)])) (fun tt_ kk_ => XS.aload X101.here hx rfl (hb hby at_234) rfl rfl kk_) ?_
  refine Gq.go (T101.setTop (mkF m 238 #[.val (.int x0), .val (.int x1), .val (.long x2), .second, .val (.int x3), .val (.ref b1), .val (.long (Int64.ofNat D)), .second, .val (.ref b54), .unset, .unset, .unset, .unset, .unset, .unset] [(.int (8 : Int32)), (.ref b54)])) (fun tt_ kk_ => XS.bipush X101.here hx rfl (hb hby at_236) kk_) ?_
  refine Gq.go (T101.setTop (mkF m 240 #[.val (.int x0), .val (.int x1), .val (.long x2), .second, .val (.int x3), .val (.ref b1), .val (.long (Int64.ofNat D)), .second, .val (.ref b54), .unset, .unset, .unset, .unset, .unset, .unset] [(.long (Int64.ofNat D)), (.int (8 : Int32)), (.ref b54)])) (fun tt_ kk_ => XS.lload X101.here hx rfl (hb hby at_238) rfl kk_) ?_
  refine Gq.go (T101.setTop (mkF m 242 #[.val (.int x0), .val (.int x1), .val (.long x2), .second, .val (.int x3), .val (.ref b1), .val (.long (Int64.ofNat D)), .second, .val (.ref b54), .unset, .unset, .unset, .unset, .unset, .unset] [(.ref b1), (.long (Int64.ofNat D)), (.int (8 : Int32)), (.ref b54)])) (fun tt_ kk_ => XS.aload X101.here hx rfl (hb hby at_240) rfl rfl kk_) ?_
  refine Gq.go (T101.setTop (mkF m 244 #[.val (.int x0), .val (.int x1), .val (.long x2), .second, .val (.int x3), .val (.ref b1), .val (.long (Int64.ofNat D)), .second, .val (.ref b54), .unset, .unset, .unset, .unset, .unset, .unset] [(.int (8 : Int32)), (.ref b1), (.long (Int64.ofNat D)), (.int (8 : Int32)), (.ref b54)])) (fun tt_ kk_ => XS.bipush X101.here hx rfl (hb hby at_242) kk_) ?_
  obtain ⟨r106, T106, L106, X106, hQ106, st106⟩ := callT (pc := 244) (Ls := #[.val (.int x0), .val (.int x1), .val (.long x2), .second, .val (.int x3), .val (.ref b1), .val (.long (Int64.ofNat D)), .second, .val (.ref b54), .unset, .unset, .unset, .unset, .unset, .unset]) X101 hx hZ hown eh101 [(.long (Int64.ofNat D)), (.ref b1), (.int (8 : Int32))] [(.int (8 : Int32)), (.ref b54)] (hw _ (List.mem_of_getElem? (i := 19) rfl)) (hw _ (List.mem_of_getElem? (i := 20) rfl)) (hw _ (List.mem_of_getElem? (i := 21) rfl)) (hw _ (List.mem_of_getElem? (i := 22) rfl)) (by decide) (rm1 l Z a0 hw [] D b1 8 h101 n0 za105 fa102 hD (by decide)) pd_2 rfl (by rw [hml]; rfl) (W := 2) (Nat.le_of_eq rfl) (by decide) (by decide) (by decide) (by decide) (hb hby at_244)
  obtain ⟨rfl, N106q, eh106⟩ := hQ106
  have N106 := Fr.app N101 N106q
  refine Gq.go (T106.setTop (mkF m 247 #[.val (.int x0), .val (.int x1), .val (.long x2), .second, .val (.int x3), .val (.ref b1), .val (.long (Int64.ofNat D)), .second, .val (.ref b54), .unset, .unset, .unset, .unset, .unset, .unset] [(.int (Int32.ofNat (48 + D / 10 ^ (15 - 8) % 10))), (.int (8 : Int32)), (.ref b54)])) (fun tt_ kk_ => st106 tt_ kk_) ?_
  obtain ⟨T107, h107, X107, eh107, W107, st107⟩ := stoB X106 hx hZ eh106 V101 (j := (8 : Int32)) (i := 8) (x := (Int32.ofNat (48 + D / 10 ^ (15 - 8) % 10))) (Ls := #[.val (.int x0), .val (.int x1), .val (.long x2), .second, .val (.int x3), .val (.ref b1), .val (.long (Int64.ofNat D)), .second, .val (.ref b54), .unset, .unset, .unset, .unset, .unset, .unset]) (rest := []) (by decide) rfl (by decide) (hb hby at_247)
  have fa108 := fa102.other W107 ne_b1_b54
  have ta109 := Nat.lt_of_lt_of_le ta103 (Nat.le_of_eq W107.size.symm)
  have ta110 := Nat.lt_of_lt_of_le ta104 (Nat.le_of_eq W107.size.symm)
  have za111 : n0 ≤ h107.size := Nat.le_trans za105 (Nat.le_of_eq W107.size.symm)
  have V107 : LA Z h107 b54 .byte 20 (gl [(.int (Int32.ofNat (48 + D / 10 ^ (15 - 0) % 10)).toInt8.toInt32), (.int (Int32.ofNat (48 + D / 10 ^ (15 - 1) % 10)).toInt8.toInt32), (.int (Int32.ofNat (48 + D / 10 ^ (15 - 2) % 10)).toInt8.toInt32), (.int (Int32.ofNat (48 + D / 10 ^ (15 - 3) % 10)).toInt8.toInt32), (.int (Int32.ofNat (48 + D / 10 ^ (15 - 4) % 10)).toInt8.toInt32), (.int (Int32.ofNat (48 + D / 10 ^ (15 - 5) % 10)).toInt8.toInt32), (.int (Int32.ofNat (48 + D / 10 ^ (15 - 6) % 10)).toInt8.toInt32), (.int (Int32.ofNat (48 + D / 10 ^ (15 - 7) % 10)).toInt8.toInt32), (.int (Int32.ofNat (48 + D / 10 ^ (15 - 8) % 10)).toInt8.toInt32), (.int (0 : Int32)), (.int (0 : Int32)), (.int (0 : Int32)), (.int (0 : Int32)), (.int (0 : Int32)), (.int (0 : Int32)), (.int (0 : Int32)), (.int (0 : Int32)), (.int (0 : Int32)), (.int (0 : Int32)), (.int (0 : Int32))] (.int (0 : Int32))) := V101.setL W107 (Nat.le_of_ble_eq_true rfl)
  have N107 := Fr.snoc X107 N106 g_b54
  refine Gq.go (T107.setTop (mkF m 248 #[.val (.int x0), .val (.int x1), .val (.long x2), .second, .val (.int x3), .val (.ref b1), .val (.long (Int64.ofNat D)), .second, .val (.ref b54), .unset, .unset, .unset, .unset, .unset, .unset] [])) (fun tt_ kk_ => st107 tt_ kk_) ?_
  refine Gq.go (T107.setTop (mkF m 250 #[.val (.int x0), .val (.int x1), .val (.long x2), .second, .val (.int x3), .val (.ref b1), .val (.long (Int64.ofNat D)), .second, .val (.ref b54), .unset, .unset, .unset, .unset, .unset, .unset] [(.ref b54)])) (fun tt_ kk_ => XS.aload X107.here hx rfl (hb hby at_248) rfl rfl kk_) ?_
  refine Gq.go (T107.setTop (mkF m 252 #[.val (.int x0), .val (.int x1), .val (.long x2), .second, .val (.int x3), .val (.ref b1), .val (.long (Int64.ofNat D)), .second, .val (.ref b54), .unset, .unset, .unset, .unset, .unset, .unset] [(.int (9 : Int32)), (.ref b54)])) (fun tt_ kk_ => XS.bipush X107.here hx rfl (hb hby at_250) kk_) ?_
  refine Gq.go (T107.setTop (mkF m 254 #[.val (.int x0), .val (.int x1), .val (.long x2), .second, .val (.int x3), .val (.ref b1), .val (.long (Int64.ofNat D)), .second, .val (.ref b54), .unset, .unset, .unset, .unset, .unset, .unset] [(.long (Int64.ofNat D)), (.int (9 : Int32)), (.ref b54)])) (fun tt_ kk_ => XS.lload X107.here hx rfl (hb hby at_252) rfl kk_) ?_
  refine Gq.go (T107.setTop (mkF m 256 #[.val (.int x0), .val (.int x1), .val (.long x2), .second, .val (.int x3), .val (.ref b1), .val (.long (Int64.ofNat D)), .second, .val (.ref b54), .unset, .unset, .unset, .unset, .unset, .unset] [(.ref b1), (.long (Int64.ofNat D)), (.int (9 : Int32)), (.ref b54)])) (fun tt_ kk_ => XS.aload X107.here hx rfl (hb hby at_254) rfl rfl kk_) ?_
  refine Gq.go (T107.setTop (mkF m 258 #[.val (.int x0), .val (.int x1), .val (.long x2), .second, .val (.int x3), .val (.ref b1), .val (.long (Int64.ofNat D)), .second, .val (.ref b54), .unset, .unset, .unset, .unset, .unset, .unset] [(.int (9 : Int32)), (.ref b1), (.long (Int64.ofNat D)), (.int (9 : Int32)), (.ref b54)])) (fun tt_ kk_ => XS.bipush X107.here hx rfl (hb hby at_256) kk_) ?_
  obtain ⟨r112, T112, L112, X112, hQ112, st112⟩ := callT (pc := 258) (Ls := #[.val (.int x0), .val (.int x1), .val (.long x2), .second, .val (.int x3), .val (.ref b1), .val (.long (Int64.ofNat D)), .second, .val (.ref b54), .unset, .unset, .unset, .unset, .unset, .unset]) X107 hx hZ hown eh107 [(.long (Int64.ofNat D)), (.ref b1), (.int (9 : Int32))] [(.int (9 : Int32)), (.ref b54)] (hw _ (List.mem_of_getElem? (i := 19) rfl)) (hw _ (List.mem_of_getElem? (i := 20) rfl)) (hw _ (List.mem_of_getElem? (i := 21) rfl)) (hw _ (List.mem_of_getElem? (i := 22) rfl)) (by decide) (rm1 l Z a0 hw [] D b1 9 h107 n0 za111 fa108 hD (by decide)) pd_2 rfl (by rw [hml]; rfl) (W := 2) (Nat.le_of_eq rfl) (by decide) (by decide) (by decide) (by decide) (hb hby at_258)
  obtain ⟨rfl, N112q, eh112⟩ := hQ112
  have N112 := Fr.app N107 N112q
  refine Gq.go (T112.setTop (mkF m 261 #[.val (.int x0), .val (.int x1), .val (.long x2), .second, .val (.int x3), .val (.ref b1), .val (.long (Int64.ofNat D)), .second, .val (.ref b54), .unset, .unset, .unset, .unset, .unset, .unset] [(.int (Int32.ofNat (48 + D / 10 ^ (15 - 9) % 10))), (.int (9 : Int32)), (.ref b54)])) (fun tt_ kk_ => st112 tt_ kk_) ?_
  obtain ⟨T113, h113, X113, eh113, W113, st113⟩ := stoB X112 hx hZ eh112 V107 (j := (9 : Int32)) (i := 9) (x := (Int32.ofNat (48 + D / 10 ^ (15 - 9) % 10))) (Ls := #[.val (.int x0), .val (.int x1), .val (.long x2), .second, .val (.int x3), .val (.ref b1), .val (.long (Int64.ofNat D)), .second, .val (.ref b54), .unset, .unset, .unset, .unset, .unset, .unset]) (rest := []) (by decide) rfl (by decide) (hb hby at_261)
  have fa114 := fa108.other W113 ne_b1_b54
  have ta115 := Nat.lt_of_lt_of_le ta109 (Nat.le_of_eq W113.size.symm)
  have ta116 := Nat.lt_of_lt_of_le ta110 (Nat.le_of_eq W113.size.symm)
  have za117 : n0 ≤ h113.size := Nat.le_trans za111 (Nat.le_of_eq W113.size.symm)
  have V113 : LA Z h113 b54 .byte 20 (gl [(.int (Int32.ofNat (48 + D / 10 ^ (15 - 0) % 10)).toInt8.toInt32), (.int (Int32.ofNat (48 + D / 10 ^ (15 - 1) % 10)).toInt8.toInt32), (.int (Int32.ofNat (48 + D / 10 ^ (15 - 2) % 10)).toInt8.toInt32), (.int (Int32.ofNat (48 + D / 10 ^ (15 - 3) % 10)).toInt8.toInt32), (.int (Int32.ofNat (48 + D / 10 ^ (15 - 4) % 10)).toInt8.toInt32), (.int (Int32.ofNat (48 + D / 10 ^ (15 - 5) % 10)).toInt8.toInt32), (.int (Int32.ofNat (48 + D / 10 ^ (15 - 6) % 10)).toInt8.toInt32), (.int (Int32.ofNat (48 + D / 10 ^ (15 - 7) % 10)).toInt8.toInt32), (.int (Int32.ofNat (48 + D / 10 ^ (15 - 8) % 10)).toInt8.toInt32), (.int (Int32.ofNat (48 + D / 10 ^ (15 - 9) % 10)).toInt8.toInt32), (.int (0 : Int32)), (.int (0 : Int32)), (.int (0 : Int32)), (.int (0 : Int32)), (.int (0 : Int32)), (.int (0 : Int32)), (.int (0 : Int32)), (.int (0 : Int32)), (.int (0 : Int32)), (.int (0 : Int32))] (.int (0 : Int32))) := V107.setL W113 (Nat.le_of_ble_eq_true rfl)
  have N113 := Fr.snoc X113 N112 g_b54
  refine Gq.go (T113.setTop (mkF m 262 #[.val (.int x0), .val (.int x1), .val (.long x2), .second, .val (.int x3), .val (.ref b1), .val (.long (Int64.ofNat D)), .second, .val (.ref b54), .unset, .unset, .unset, .unset, .unset, .unset] [])) (fun tt_ kk_ => st113 tt_ kk_) ?_
  refine Gq.go (T113.setTop (mkF m 264 #[.val (.int x0), .val (.int x1), .val (.long x2), .second, .val (.int x3), .val (.ref b1), .val (.long (Int64.ofNat D)), .second, .val (.ref b54), .unset, .unset, .unset, .unset, .unset, .unset] [(.ref b54)])) (fun tt_ kk_ => XS.aload X113.here hx rfl (hb hby at_262) rfl rfl kk_) ?_
  refine Gq.go (T113.setTop (mkF m 266 #[.val (.int x0), .val (.int x1), .val (.long x2), .second, .val (.int x3), .val (.ref b1), .val (.long (Int64.ofNat D)), .second, .val (.ref b54), .unset, .unset, .unset, .unset, .unset, .unset] [(.int (10 : Int32)), (.ref b54)])) (fun tt_ kk_ => XS.bipush X113.here hx rfl (hb hby at_264) kk_) ?_
  refine Gq.go (T113.setTop (mkF m 268 #[.val (.int x0), .val (.int x1), .val (.long x2), .second, .val (.int x3), .val (.ref b1), .val (.long (Int64.ofNat D)), .second, .val (.ref b54), .unset, .unset, .unset, .unset, .unset, .unset] [(.long (Int64.ofNat D)), (.int (10 : Int32)), (.ref b54)])) (fun tt_ kk_ => XS.lload X113.here hx rfl (hb hby at_266) rfl kk_) ?_
  refine Gq.go (T113.setTop (mkF m 270 #[.val (.int x0), .val (.int x1), .val (.long x2), .second, .val (.int x3), .val (.ref b1), .val (.long (Int64.ofNat D)), .second, .val (.ref b54), .unset, .unset, .unset, .unset, .unset, .unset] [(.ref b1), (.long (Int64.ofNat D)), (.int (10 : Int32)), (.ref b54)])) (fun tt_ kk_ => XS.aload X113.here hx rfl (hb hby at_268) rfl rfl kk_) ?_
  refine Gq.go (T113.setTop (mkF m 272 #[.val (.int x0), .val (.int x1), .val (.long x2), .second, .val (.int x3), .val (.ref b1), .val (.long (Int64.ofNat D)), .second, .val (.ref b54), .unset, .unset, .unset, .unset, .unset, .unset] [(.int (10 : Int32)), (.ref b1), (.long (Int64.ofNat D)), (.int (10 : Int32)), (.ref b54)])) (fun tt_ kk_ => XS.bipush X113.here hx rfl (hb hby at_270) kk_) ?_
  obtain ⟨r118, T118, L118, X118, hQ118, st118⟩ := callT (pc := 272) (Ls := #[.val (.int x0), .val (.int x1), .val (.long x2), .second, .val (.int x3), .val (.ref b1), .val (.long (Int64.ofNat D)), .second, .val (.ref b54), .unset, .unset, .unset, .unset, .unset, .unset]) X113 hx hZ hown eh113 [(.long (Int64.ofNat D)), (.ref b1), (.int (10 : Int32))] [(.int (10 : Int32)), (.ref b54)] (hw _ (List.mem_of_getElem? (i := 19) rfl)) (hw _ (List.mem_of_getElem? (i := 20) rfl)) (hw _ (List.mem_of_getElem? (i := 21) rfl)) (hw _ (List.mem_of_getElem? (i := 22) rfl)) (by decide) (rm1 l Z a0 hw [] D b1 10 h113 n0 za117 fa114 hD (by decide)) pd_2 rfl (by rw [hml]; rfl) (W := 2) (Nat.le_of_eq rfl) (by decide) (by decide) (by decide) (by decide) (hb hby at_272)
  obtain ⟨rfl, N118q, eh118⟩ := hQ118
  have N118 := Fr.app N113 N118q
  refine Gq.go (T118.setTop (mkF m 275 #[.val (.int x0), .val (.int x1), .val (.long x2), .second, .val (.int x3), .val (.ref b1), .val (.long (Int64.ofNat D)), .second, .val (.ref b54), .unset, .unset, .unset, .unset, .unset, .unset] [(.int (Int32.ofNat (48 + D / 10 ^ (15 - 10) % 10))), (.int (10 : Int32)), (.ref b54)])) (fun tt_ kk_ => st118 tt_ kk_) ?_
  obtain ⟨T119, h119, X119, eh119, W119, st119⟩ := stoB X118 hx hZ eh118 V113 (j := (10 : Int32)) (i := 10) (x := (Int32.ofNat (48 + D / 10 ^ (15 - 10) % 10))) (Ls := #[.val (.int x0), .val (.int x1), .val (.long x2), .second, .val (.int x3), .val (.ref b1), .val (.long (Int64.ofNat D)), .second, .val (.ref b54), .unset, .unset, .unset, .unset, .unset, .unset]) (rest := []) (by decide) rfl (by decide) (hb hby at_275)
  have fa120 := fa114.other W119 ne_b1_b54
  have ta121 := Nat.lt_of_lt_of_le ta115 (Nat.le_of_eq W119.size.symm)
  have ta122 := Nat.lt_of_lt_of_le ta116 (Nat.le_of_eq W119.size.symm)
  have za123 : n0 ≤ h119.size := Nat.le_trans za117 (Nat.le_of_eq W119.size.symm)
  have V119 : LA Z h119 b54 .byte 20 (gl [(.int (Int32.ofNat (48 + D / 10 ^ (15 - 0) % 10)).toInt8.toInt32), (.int (Int32.ofNat (48 + D / 10 ^ (15 - 1) % 10)).toInt8.toInt32), (.int (Int32.ofNat (48 + D / 10 ^ (15 - 2) % 10)).toInt8.toInt32), (.int (Int32.ofNat (48 + D / 10 ^ (15 - 3) % 10)).toInt8.toInt32), (.int (Int32.ofNat (48 + D / 10 ^ (15 - 4) % 10)).toInt8.toInt32), (.int (Int32.ofNat (48 + D / 10 ^ (15 - 5) % 10)).toInt8.toInt32), (.int (Int32.ofNat (48 + D / 10 ^ (15 - 6) % 10)).toInt8.toInt32), (.int (Int32.ofNat (48 + D / 10 ^ (15 - 7) % 10)).toInt8.toInt32), (.int (Int32.ofNat (48 + D / 10 ^ (15 - 8) % 10)).toInt8.toInt32), (.int (Int32.ofNat (48 + D / 10 ^ (15 - 9) % 10)).toInt8.toInt32), (.int (Int32.ofNat (48 + D / 10 ^ (15 - 10) % 10)).toInt8.toInt32), (.int (0 : Int32)), (.int (0 : Int32)), (.int (0 : Int32)), (.int (0 : Int32)), (.int (0 : Int32)), (.int (0 : Int32)), (.int (0 : Int32)), (.int (0 : Int32)), (.int (0 : Int32))] (.int (0 : Int32))) := V113.setL W119 (Nat.le_of_ble_eq_true rfl)
  have N119 := Fr.snoc X119 N118 g_b54
  refine Gq.go (T119.setTop (mkF m 276 #[.val (.int x0), .val (.int x1), .val (.long x2), .second, .val (.int x3), .val (.ref b1), .val (.long (Int64.ofNat D)), .second, .val (.ref b54), .unset, .unset, .unset, .unset, .unset, .unset] [])) (fun tt_ kk_ => st119 tt_ kk_) ?_
  refine Gq.go (T119.setTop (mkF m 278 #[.val (.int x0), .val (.int x1), .val (.long x2), .second, .val (.int x3), .val (.ref b1), .val (.long (Int64.ofNat D)), .second, .val (.ref b54), .unset, .unset, .unset, .unset, .unset, .unset] [(.ref b54)])) (fun tt_ kk_ => XS.aload X119.here hx rfl (hb hby at_276) rfl rfl kk_) ?_
  refine Gq.go (T119.setTop (mkF m 280 #[.val (.int x0), .val (.int x1), .val (.long x2), .second, .val (.int x3), .val (.ref b1), .val (.long (Int64.ofNat D)), .second, .val (.ref b54), .unset, .unset, .unset, .unset, .unset, .unset] [(.int (11 : Int32)), (.ref b54)])) (fun tt_ kk_ => XS.bipush X119.here hx rfl (hb hby at_278) kk_) ?_
  refine Gq.go (T119.setTop (mkF m 282 #[.val (.int x0), .val (.int x1), .val (.long x2), .second, .val (.int x3), .val (.ref b1), .val (.long (Int64.ofNat D)), .second, .val (.ref b54), .unset, .unset, .unset, .unset, .unset, .unset] [(.long (Int64.ofNat D)), (.int (11 : Int32)), (.ref b54)])) (fun tt_ kk_ => XS.lload X119.here hx rfl (hb hby at_280) rfl kk_) ?_
  refine Gq.go (T119.setTop (mkF m 284 #[.val (.int x0), .val (.int x1), .val (.long x2), .second, .val (.int x3), .val (.ref b1), .val (.long (Int64.ofNat D)), .second, .val (.ref b54), .unset, .unset, .unset, .unset, .unset, .unset] [(.ref b1), (.long (Int64.ofNat D)), (.int (11 : Int32)), (.ref b54)])) (fun tt_ kk_ => XS.aload X119.here hx rfl (hb hby at_282) rfl rfl kk_) ?_
  refine Gq.go (T119.setTop (mkF m 286 #[.val (.int x0), .val (.int x1), .val (.long x2), .second, .val (.int x3), .val (.ref b1), .val (.long (Int64.ofNat D)), .second, .val (.ref b54), .unset, .unset, .unset, .unset, .unset, .unset] [(.int (11 : Int32)), (.ref b1), (.long (Int64.ofNat D)), (.int (11 : Int32)), (.ref b54)])) (fun tt_ kk_ => XS.bipush X119.here hx rfl (hb hby at_284) kk_) ?_
  obtain ⟨r124, T124, L124, X124, hQ124, st124⟩ := callT (pc := 286) (Ls := #[.val (.int x0), .val (.int x1), .val (.long x2), .second, .val (.int x3), .val (.ref b1), .val (.long (Int64.ofNat D)), .second, .val (.ref b54), .unset, .unset, .unset, .unset, .unset, .unset]) X119 hx hZ hown eh119 [(.long (Int64.ofNat D)), (.ref b1), (.int (11 : Int32))] [(.int (11 : Int32)), (.ref b54)] (hw _ (List.mem_of_getElem? (i := 19) rfl)) (hw _ (List.mem_of_getElem? (i := 20) rfl)) (hw _ (List.mem_of_getElem? (i := 21) rfl)) (hw _ (List.mem_of_getElem? (i := 22) rfl)) (by decide) (rm1 l Z a0 hw [] D b1 11 h119 n0 za123 fa120 hD (by decide)) pd_2 rfl (by rw [hml]; rfl) (W := 2) (Nat.le_of_eq rfl) (by decide) (by decide) (by decide) (by decide) (hb hby at_286)
  obtain ⟨rfl, N124q, eh124⟩ := hQ124
  have N124 := Fr.app N119 N124q
  refine Gq.go (T124.setTop (mkF m 289 #[.val (.int x0), .val (.int x1), .val (.long x2), .second, .val (.int x3), .val (.ref b1), .val (.long (Int64.ofNat D)), .second, .val (.ref b54), .unset, .unset, .unset, .unset, .unset, .unset] [(.int (Int32.ofNat (48 + D / 10 ^ (15 - 11) % 10))), (.int (11 : Int32)), (.ref b54)])) (fun tt_ kk_ => st124 tt_ kk_) ?_
  obtain ⟨T125, h125, X125, eh125, W125, st125⟩ := stoB X124 hx hZ eh124 V119 (j := (11 : Int32)) (i := 11) (x := (Int32.ofNat (48 + D / 10 ^ (15 - 11) % 10))) (Ls := #[.val (.int x0), .val (.int x1), .val (.long x2), .second, .val (.int x3), .val (.ref b1), .val (.long (Int64.ofNat D)), .second, .val (.ref b54), .unset, .unset, .unset, .unset, .unset, .unset]) (rest := []) (by decide) rfl (by decide) (hb hby at_289)
  have fa126 := fa120.other W125 ne_b1_b54
  have ta127 := Nat.lt_of_lt_of_le ta121 (Nat.le_of_eq W125.size.symm)
  have ta128 := Nat.lt_of_lt_of_le ta122 (Nat.le_of_eq W125.size.symm)
  have za129 : n0 ≤ h125.size := Nat.le_trans za123 (Nat.le_of_eq W125.size.symm)
  have V125 : LA Z h125 b54 .byte 20 (gl [(.int (Int32.ofNat (48 + D / 10 ^ (15 - 0) % 10)).toInt8.toInt32), (.int (Int32.ofNat (48 + D / 10 ^ (15 - 1) % 10)).toInt8.toInt32), (.int (Int32.ofNat (48 + D / 10 ^ (15 - 2) % 10)).toInt8.toInt32), (.int (Int32.ofNat (48 + D / 10 ^ (15 - 3) % 10)).toInt8.toInt32), (.int (Int32.ofNat (48 + D / 10 ^ (15 - 4) % 10)).toInt8.toInt32), (.int (Int32.ofNat (48 + D / 10 ^ (15 - 5) % 10)).toInt8.toInt32), (.int (Int32.ofNat (48 + D / 10 ^ (15 - 6) % 10)).toInt8.toInt32), (.int (Int32.ofNat (48 + D / 10 ^ (15 - 7) % 10)).toInt8.toInt32), (.int (Int32.ofNat (48 + D / 10 ^ (15 - 8) % 10)).toInt8.toInt32), (.int (Int32.ofNat (48 + D / 10 ^ (15 - 9) % 10)).toInt8.toInt32), (.int (Int32.ofNat (48 + D / 10 ^ (15 - 10) % 10)).toInt8.toInt32), (.int (Int32.ofNat (48 + D / 10 ^ (15 - 11) % 10)).toInt8.toInt32), (.int (0 : Int32)), (.int (0 : Int32)), (.int (0 : Int32)), (.int (0 : Int32)), (.int (0 : Int32)), (.int (0 : Int32)), (.int (0 : Int32)), (.int (0 : Int32))] (.int (0 : Int32))) := V119.setL W125 (Nat.le_of_ble_eq_true rfl)
  have N125 := Fr.snoc X125 N124 g_b54
  refine Gq.go (T125.setTop (mkF m 290 #[.val (.int x0), .val (.int x1), .val (.long x2), .second, .val (.int x3), .val (.ref b1), .val (.long (Int64.ofNat D)), .second, .val (.ref b54), .unset, .unset, .unset, .unset, .unset, .unset] [])) (fun tt_ kk_ => st125 tt_ kk_) ?_
  refine Gq.go (T125.setTop (mkF m 292 #[.val (.int x0), .val (.int x1), .val (.long x2), .second, .val (.int x3), .val (.ref b1), .val (.long (Int64.ofNat D)), .second, .val (.ref b54), .unset, .unset, .unset, .unset, .unset, .unset] [(.ref b54)])) (fun tt_ kk_ => XS.aload X125.here hx rfl (hb hby at_290) rfl rfl kk_) ?_
  refine Gq.go (T125.setTop (mkF m 294 #[.val (.int x0), .val (.int x1), .val (.long x2), .second, .val (.int x3), .val (.ref b1), .val (.long (Int64.ofNat D)), .second, .val (.ref b54), .unset, .unset, .unset, .unset, .unset, .unset] [(.int (12 : Int32)), (.ref b54)])) (fun tt_ kk_ => XS.bipush X125.here hx rfl (hb hby at_292) kk_) ?_
  refine Gq.go (T125.setTop (mkF m 296 #[.val (.int x0), .val (.int x1), .val (.long x2), .second, .val (.int x3), .val (.ref b1), .val (.long (Int64.ofNat D)), .second, .val (.ref b54), .unset, .unset, .unset, .unset, .unset, .unset] [(.long (Int64.ofNat D)), (.int (12 : Int32)), (.ref b54)])) (fun tt_ kk_ => XS.lload X125.here hx rfl (hb hby at_294) rfl kk_) ?_
  refine Gq.go (T125.setTop (mkF m 298 #[.val (.int x0), .val (.int x1), .val (.long x2), .second, .val (.int x3), .val (.ref b1), .val (.long (Int64.ofNat D)), .second, .val (.ref b54), .unset, .unset, .unset, .unset, .unset, .unset] [(.ref b1), (.long (Int64.ofNat D)), (.int (12 : Int32)), (.ref b54)])) (fun tt_ kk_ => XS.aload X125.here hx rfl (hb hby at_296) rfl rfl kk_) ?_
  refine Gq.go (T125.setTop (mkF m 300 #[.val (.int x0), .val (.int x1), .val (.long x2), .second, .val (.int x3), .val (.ref b1), .val (.long (Int64.ofNat D)), .second, .val (.ref b54), .unset, .unset, .unset, .unset, .unset, .unset] [(.int (12 : Int32)), (.ref b1), (.long (Int64.ofNat D)), (.int (12 : Int32)), (.ref b54)])) (fun tt_ kk_ => XS.bipush X125.here hx rfl (hb hby at_298) kk_) ?_
  obtain ⟨r130, T130, L130, X130, hQ130, st130⟩ := callT (pc := 300) (Ls := #[.val (.int x0), .val (.int x1), .val (.long x2), .second, .val (.int x3), .val (.ref b1), .val (.long (Int64.ofNat D)), .second, .val (.ref b54), .unset, .unset, .unset, .unset, .unset, .unset]) X125 hx hZ hown eh125 [(.long (Int64.ofNat D)), (.ref b1), (.int (12 : Int32))] [(.int (12 : Int32)), (.ref b54)] (hw _ (List.mem_of_getElem? (i := 19) rfl)) (hw _ (List.mem_of_getElem? (i := 20) rfl)) (hw _ (List.mem_of_getElem? (i := 21) rfl)) (hw _ (List.mem_of_getElem? (i := 22) rfl)) (by decide) (rm1 l Z a0 hw [] D b1 12 h125 n0 za129 fa126 hD (by decide)) pd_2 rfl (by rw [hml]; rfl) (W := 2) (Nat.le_of_eq rfl) (by decide) (by decide) (by decide) (by decide) (hb hby at_300)
  obtain ⟨rfl, N130q, eh130⟩ := hQ130
  have N130 := Fr.app N125 N130q
  refine Gq.go (T130.setTop (mkF m 303 #[.val (.int x0), .val (.int x1), .val (.long x2), .second, .val (.int x3), .val (.ref b1), .val (.long (Int64.ofNat D)), .second, .val (.ref b54), .unset, .unset, .unset, .unset, .unset, .unset] [(.int (Int32.ofNat (48 + D / 10 ^ (15 - 12) % 10))), (.int (12 : Int32)), (.ref b54)])) (fun tt_ kk_ => st130 tt_ kk_) ?_
  obtain ⟨T131, h131, X131, eh131, W131, st131⟩ := stoB X130 hx hZ eh130 V125 (j := (12 : Int32)) (i := 12) (x := (Int32.ofNat (48 + D / 10 ^ (15 - 12) % 10))) (Ls := #[.val (.int x0), .val (.int x1), .val (.long x2), .second, .val (.int x3), .val (.ref b1), .val (.long (Int64.ofNat D)), .second, .val (.ref b54), .unset, .unset, .unset, .unset, .unset, .unset]) (rest := []) (by decide) rfl (by decide) (hb hby at_303)
  have fa132 := fa126.other W131 ne_b1_b54
  have ta133 := Nat.lt_of_lt_of_le ta127 (Nat.le_of_eq W131.size.symm)
  have ta134 := Nat.lt_of_lt_of_le ta128 (Nat.le_of_eq W131.size.symm)
  have za135 : n0 ≤ h131.size := Nat.le_trans za129 (Nat.le_of_eq W131.size.symm)
  have V131 : LA Z h131 b54 .byte 20 (gl [(.int (Int32.ofNat (48 + D / 10 ^ (15 - 0) % 10)).toInt8.toInt32), (.int (Int32.ofNat (48 + D / 10 ^ (15 - 1) % 10)).toInt8.toInt32), (.int (Int32.ofNat (48 + D / 10 ^ (15 - 2) % 10)).toInt8.toInt32), (.int (Int32.ofNat (48 + D / 10 ^ (15 - 3) % 10)).toInt8.toInt32), (.int (Int32.ofNat (48 + D / 10 ^ (15 - 4) % 10)).toInt8.toInt32), (.int (Int32.ofNat (48 + D / 10 ^ (15 - 5) % 10)).toInt8.toInt32), (.int (Int32.ofNat (48 + D / 10 ^ (15 - 6) % 10)).toInt8.toInt32), (.int (Int32.ofNat (48 + D / 10 ^ (15 - 7) % 10)).toInt8.toInt32), (.int (Int32.ofNat (48 + D / 10 ^ (15 - 8) % 10)).toInt8.toInt32), (.int (Int32.ofNat (48 + D / 10 ^ (15 - 9) % 10)).toInt8.toInt32), (.int (Int32.ofNat (48 + D / 10 ^ (15 - 10) % 10)).toInt8.toInt32), (.int (Int32.ofNat (48 + D / 10 ^ (15 - 11) % 10)).toInt8.toInt32), (.int (Int32.ofNat (48 + D / 10 ^ (15 - 12) % 10)).toInt8.toInt32), (.int (0 : Int32)), (.int (0 : Int32)), (.int (0 : Int32)), (.int (0 : Int32)), (.int (0 : Int32)), (.int (0 : Int32)), (.int (0 : Int32))] (.int (0 : Int32))) := V125.setL W131 (Nat.le_of_ble_eq_true rfl)
  have N131 := Fr.snoc X131 N130 g_b54
  refine Gq.go (T131.setTop (mkF m 304 #[.val (.int x0), .val (.int x1), .val (.long x2), .second, .val (.int x3), .val (.ref b1), .val (.long (Int64.ofNat D)), .second, .val (.ref b54), .unset, .unset, .unset, .unset, .unset, .unset] [])) (fun tt_ kk_ => st131 tt_ kk_) ?_
  refine Gq.go (T131.setTop (mkF m 306 #[.val (.int x0), .val (.int x1), .val (.long x2), .second, .val (.int x3), .val (.ref b1), .val (.long (Int64.ofNat D)), .second, .val (.ref b54), .unset, .unset, .unset, .unset, .unset, .unset] [(.ref b54)])) (fun tt_ kk_ => XS.aload X131.here hx rfl (hb hby at_304) rfl rfl kk_) ?_
  refine Gq.go (T131.setTop (mkF m 308 #[.val (.int x0), .val (.int x1), .val (.long x2), .second, .val (.int x3), .val (.ref b1), .val (.long (Int64.ofNat D)), .second, .val (.ref b54), .unset, .unset, .unset, .unset, .unset, .unset] [(.int (13 : Int32)), (.ref b54)])) (fun tt_ kk_ => XS.bipush X131.here hx rfl (hb hby at_306) kk_) ?_
  refine Gq.go (T131.setTop (mkF m 310 #[.val (.int x0), .val (.int x1), .val (.long x2), .second, .val (.int x3), .val (.ref b1), .val (.long (Int64.ofNat D)), .second, .val (.ref b54), .unset, .unset, .unset, .unset, .unset, .unset] [(.long (Int64.ofNat D)), (.int (13 : Int32)), (.ref b54)])) (fun tt_ kk_ => XS.lload X131.here hx rfl (hb hby at_308) rfl kk_) ?_
  refine Gq.go (T131.setTop (mkF m 312 #[.val (.int x0), .val (.int x1), .val (.long x2), .second, .val (.int x3), .val (.ref b1), .val (.long (Int64.ofNat D)), .second, .val (.ref b54), .unset, .unset, .unset, .unset, .unset, .unset] [(.ref b1), (.long (Int64.ofNat D)), (.int (13 : Int32)), (.ref b54)])) (fun tt_ kk_ => XS.aload X131.here hx rfl (hb hby at_310) rfl rfl kk_) ?_
  refine Gq.go (T131.setTop (mkF m 314 #[.val (.int x0), .val (.int x1), .val (.long x2), .second, .val (.int x3), .val (.ref b1), .val (.long (Int64.ofNat D)), .second, .val (.ref b54), .unset, .unset, .unset, .unset, .unset, .unset] [(.int (13 : Int32)), (.ref b1), (.long (Int64.ofNat D)), (.int (13 : Int32)), (.ref b54)])) (fun tt_ kk_ => XS.bipush X131.here hx rfl (hb hby at_312) kk_) ?_
  obtain ⟨r136, T136, L136, X136, hQ136, st136⟩ := callT (pc := 314) (Ls := #[.val (.int x0), .val (.int x1), .val (.long x2), .second, .val (.int x3), .val (.ref b1), .val (.long (Int64.ofNat D)), .second, .val (.ref b54), .unset, .unset, .unset, .unset, .unset, .unset]) X131 hx hZ hown eh131 [(.long (Int64.ofNat D)), (.ref b1), (.int (13 : Int32))] [(.int (13 : Int32)), (.ref b54)] (hw _ (List.mem_of_getElem? (i := 19) rfl)) (hw _ (List.mem_of_getElem? (i := 20) rfl)) (hw _ (List.mem_of_getElem? (i := 21) rfl)) (hw _ (List.mem_of_getElem? (i := 22) rfl)) (by decide) (rm1 l Z a0 hw [] D b1 13 h131 n0 za135 fa132 hD (by decide)) pd_2 rfl (by rw [hml]; rfl) (W := 2) (Nat.le_of_eq rfl) (by decide) (by decide) (by decide) (by decide) (hb hby at_314)
  obtain ⟨rfl, N136q, eh136⟩ := hQ136
  have N136 := Fr.app N131 N136q
  refine Gq.go (T136.setTop (mkF m 317 #[.val (.int x0), .val (.int x1), .val (.long x2), .second, .val (.int x3), .val (.ref b1), .val (.long (Int64.ofNat D)), .second, .val (.ref b54), .unset, .unset, .unset, .unset, .unset, .unset] [(.int (Int32.ofNat (48 + D / 10 ^ (15 - 13) % 10))), (.int (13 : Int32)), (.ref b54)])) (fun tt_ kk_ => st136 tt_ kk_) ?_
  obtain ⟨T137, h137, X137, eh137, W137, st137⟩ := stoB X136 hx hZ eh136 V131 (j := (13 : Int32)) (i := 13) (x := (Int32.ofNat (48 + D / 10 ^ (15 - 13) % 10))) (Ls := #[.val (.int x0), .val (.int x1), .val (.long x2), .second, .val (.int x3), .val (.ref b1), .val (.long (Int64.ofNat D)), .second, .val (.ref b54), .unset, .unset, .unset, .unset, .unset, .unset]) (rest := []) (by decide) rfl (by decide) (hb hby at_317)
  have fa138 := fa132.other W137 ne_b1_b54
  have ta139 := Nat.lt_of_lt_of_le ta133 (Nat.le_of_eq W137.size.symm)
  have ta140 := Nat.lt_of_lt_of_le ta134 (Nat.le_of_eq W137.size.symm)
  have za141 : n0 ≤ h137.size := Nat.le_trans za135 (Nat.le_of_eq W137.size.symm)
  have V137 : LA Z h137 b54 .byte 20 (gl [(.int (Int32.ofNat (48 + D / 10 ^ (15 - 0) % 10)).toInt8.toInt32), (.int (Int32.ofNat (48 + D / 10 ^ (15 - 1) % 10)).toInt8.toInt32), (.int (Int32.ofNat (48 + D / 10 ^ (15 - 2) % 10)).toInt8.toInt32), (.int (Int32.ofNat (48 + D / 10 ^ (15 - 3) % 10)).toInt8.toInt32), (.int (Int32.ofNat (48 + D / 10 ^ (15 - 4) % 10)).toInt8.toInt32), (.int (Int32.ofNat (48 + D / 10 ^ (15 - 5) % 10)).toInt8.toInt32), (.int (Int32.ofNat (48 + D / 10 ^ (15 - 6) % 10)).toInt8.toInt32), (.int (Int32.ofNat (48 + D / 10 ^ (15 - 7) % 10)).toInt8.toInt32), (.int (Int32.ofNat (48 + D / 10 ^ (15 - 8) % 10)).toInt8.toInt32), (.int (Int32.ofNat (48 + D / 10 ^ (15 - 9) % 10)).toInt8.toInt32), (.int (Int32.ofNat (48 + D / 10 ^ (15 - 10) % 10)).toInt8.toInt32), (.int (Int32.ofNat (48 + D / 10 ^ (15 - 11) % 10)).toInt8.toInt32), (.int (Int32.ofNat (48 + D / 10 ^ (15 - 12) % 10)).toInt8.toInt32), (.int (Int32.ofNat (48 + D / 10 ^ (15 - 13) % 10)).toInt8.toInt32), (.int (0 : Int32)), (.int (0 : Int32)), (.int (0 : Int32)), (.int (0 : Int32)), (.int (0 : Int32)), (.int (0 : Int32))] (.int (0 : Int32))) := V131.setL W137 (Nat.le_of_ble_eq_true rfl)
  have N137 := Fr.snoc X137 N136 g_b54
  refine Gq.go (T137.setTop (mkF m 318 #[.val (.int x0), .val (.int x1), .val (.long x2), .second, .val (.int x3), .val (.ref b1), .val (.long (Int64.ofNat D)), .second, .val (.ref b54), .unset, .unset, .unset, .unset, .unset, .unset] [])) (fun tt_ kk_ => st137 tt_ kk_) ?_
  refine Gq.go (T137.setTop (mkF m 320 #[.val (.int x0), .val (.int x1), .val (.long x2), .second, .val (.int x3), .val (.ref b1), .val (.long (Int64.ofNat D)), .second, .val (.ref b54), .unset, .unset, .unset, .unset, .unset, .unset] [(.ref b54)])) (fun tt_ kk_ => XS.aload X137.here hx rfl (hb hby at_318) rfl rfl kk_) ?_
  refine Gq.go (T137.setTop (mkF m 322 #[.val (.int x0), .val (.int x1), .val (.long x2), .second, .val (.int x3), .val (.ref b1), .val (.long (Int64.ofNat D)), .second, .val (.ref b54), .unset, .unset, .unset, .unset, .unset, .unset] [(.int (14 : Int32)), (.ref b54)])) (fun tt_ kk_ => XS.bipush X137.here hx rfl (hb hby at_320) kk_) ?_
  refine Gq.go (T137.setTop (mkF m 324 #[.val (.int x0), .val (.int x1), .val (.long x2), .second, .val (.int x3), .val (.ref b1), .val (.long (Int64.ofNat D)), .second, .val (.ref b54), .unset, .unset, .unset, .unset, .unset, .unset] [(.long (Int64.ofNat D)), (.int (14 : Int32)), (.ref b54)])) (fun tt_ kk_ => XS.lload X137.here hx rfl (hb hby at_322) rfl kk_) ?_
  refine Gq.go (T137.setTop (mkF m 326 #[.val (.int x0), .val (.int x1), .val (.long x2), .second, .val (.int x3), .val (.ref b1), .val (.long (Int64.ofNat D)), .second, .val (.ref b54), .unset, .unset, .unset, .unset, .unset, .unset] [(.ref b1), (.long (Int64.ofNat D)), (.int (14 : Int32)), (.ref b54)])) (fun tt_ kk_ => XS.aload X137.here hx rfl (hb hby at_324) rfl rfl kk_) ?_
  refine Gq.go (T137.setTop (mkF m 328 #[.val (.int x0), .val (.int x1), .val (.long x2), .second, .val (.int x3), .val (.ref b1), .val (.long (Int64.ofNat D)), .second, .val (.ref b54), .unset, .unset, .unset, .unset, .unset, .unset] [(.int (14 : Int32)), (.ref b1), (.long (Int64.ofNat D)), (.int (14 : Int32)), (.ref b54)])) (fun tt_ kk_ => XS.bipush X137.here hx rfl (hb hby at_326) kk_) ?_
  obtain ⟨r142, T142, L142, X142, hQ142, st142⟩ := callT (pc := 328) (Ls := #[.val (.int x0), .val (.int x1), .val (.long x2), .second, .val (.int x3), .val (.ref b1), .val (.long (Int64.ofNat D)), .second, .val (.ref b54), .unset, .unset, .unset, .unset, .unset, .unset]) X137 hx hZ hown eh137 [(.long (Int64.ofNat D)), (.ref b1), (.int (14 : Int32))] [(.int (14 : Int32)), (.ref b54)] (hw _ (List.mem_of_getElem? (i := 19) rfl)) (hw _ (List.mem_of_getElem? (i := 20) rfl)) (hw _ (List.mem_of_getElem? (i := 21) rfl)) (hw _ (List.mem_of_getElem? (i := 22) rfl)) (by decide) (rm1 l Z a0 hw [] D b1 14 h137 n0 za141 fa138 hD (by decide)) pd_2 rfl (by rw [hml]; rfl) (W := 2) (Nat.le_of_eq rfl) (by decide) (by decide) (by decide) (by decide) (hb hby at_328)
  obtain ⟨rfl, N142q, eh142⟩ := hQ142
  have N142 := Fr.app N137 N142q
  refine Gq.go (T142.setTop (mkF m 331 #[.val (.int x0), .val (.int x1), .val (.long x2), .second, .val (.int x3), .val (.ref b1), .val (.long (Int64.ofNat D)), .second, .val (.ref b54), .unset, .unset, .unset, .unset, .unset, .unset] [(.int (Int32.ofNat (48 + D / 10 ^ (15 - 14) % 10))), (.int (14 : Int32)), (.ref b54)])) (fun tt_ kk_ => st142 tt_ kk_) ?_
  obtain ⟨T143, h143, X143, eh143, W143, st143⟩ := stoB X142 hx hZ eh142 V137 (j := (14 : Int32)) (i := 14) (x := (Int32.ofNat (48 + D / 10 ^ (15 - 14) % 10))) (Ls := #[.val (.int x0), .val (.int x1), .val (.long x2), .second, .val (.int x3), .val (.ref b1), .val (.long (Int64.ofNat D)), .second, .val (.ref b54), .unset, .unset, .unset, .unset, .unset, .unset]) (rest := []) (by decide) rfl (by decide) (hb hby at_331)
  have fa144 := fa138.other W143 ne_b1_b54
  have ta145 := Nat.lt_of_lt_of_le ta139 (Nat.le_of_eq W143.size.symm)
  have ta146 := Nat.lt_of_lt_of_le ta140 (Nat.le_of_eq W143.size.symm)
  have za147 : n0 ≤ h143.size := Nat.le_trans za141 (Nat.le_of_eq W143.size.symm)
  have V143 : LA Z h143 b54 .byte 20 (gl [(.int (Int32.ofNat (48 + D / 10 ^ (15 - 0) % 10)).toInt8.toInt32), (.int (Int32.ofNat (48 + D / 10 ^ (15 - 1) % 10)).toInt8.toInt32), (.int (Int32.ofNat (48 + D / 10 ^ (15 - 2) % 10)).toInt8.toInt32), (.int (Int32.ofNat (48 + D / 10 ^ (15 - 3) % 10)).toInt8.toInt32), (.int (Int32.ofNat (48 + D / 10 ^ (15 - 4) % 10)).toInt8.toInt32), (.int (Int32.ofNat (48 + D / 10 ^ (15 - 5) % 10)).toInt8.toInt32), (.int (Int32.ofNat (48 + D / 10 ^ (15 - 6) % 10)).toInt8.toInt32), (.int (Int32.ofNat (48 + D / 10 ^ (15 - 7) % 10)).toInt8.toInt32), (.int (Int32.ofNat (48 + D / 10 ^ (15 - 8) % 10)).toInt8.toInt32), (.int (Int32.ofNat (48 + D / 10 ^ (15 - 9) % 10)).toInt8.toInt32), (.int (Int32.ofNat (48 + D / 10 ^ (15 - 10) % 10)).toInt8.toInt32), (.int (Int32.ofNat (48 + D / 10 ^ (15 - 11) % 10)).toInt8.toInt32), (.int (Int32.ofNat (48 + D / 10 ^ (15 - 12) % 10)).toInt8.toInt32), (.int (Int32.ofNat (48 + D / 10 ^ (15 - 13) % 10)).toInt8.toInt32), (.int (Int32.ofNat (48 + D / 10 ^ (15 - 14) % 10)).toInt8.toInt32), (.int (0 : Int32)), (.int (0 : Int32)), (.int (0 : Int32)), (.int (0 : Int32)), (.int (0 : Int32))] (.int (0 : Int32))) := V137.setL W143 (Nat.le_of_ble_eq_true rfl)
  have N143 := Fr.snoc X143 N142 g_b54
  refine Gq.go (T143.setTop (mkF m 332 #[.val (.int x0), .val (.int x1), .val (.long x2), .second, .val (.int x3), .val (.ref b1), .val (.long (Int64.ofNat D)), .second, .val (.ref b54), .unset, .unset, .unset, .unset, .unset, .unset] [])) (fun tt_ kk_ => st143 tt_ kk_) ?_
  refine Gq.go (T143.setTop (mkF m 334 #[.val (.int x0), .val (.int x1), .val (.long x2), .second, .val (.int x3), .val (.ref b1), .val (.long (Int64.ofNat D)), .second, .val (.ref b54), .unset, .unset, .unset, .unset, .unset, .unset] [(.ref b54)])) (fun tt_ kk_ => XS.aload X143.here hx rfl (hb hby at_332) rfl rfl kk_) ?_
  refine Gq.go (T143.setTop (mkF m 336 #[.val (.int x0), .val (.int x1), .val (.long x2), .second, .val (.int x3), .val (.ref b1), .val (.long (Int64.ofNat D)), .second, .val (.ref b54), .unset, .unset, .unset, .unset, .unset, .unset] [(.int (15 : Int32)), (.ref b54)])) (fun tt_ kk_ => XS.bipush X143.here hx rfl (hb hby at_334) kk_) ?_
  refine Gq.go (T143.setTop (mkF m 338 #[.val (.int x0), .val (.int x1), .val (.long x2), .second, .val (.int x3), .val (.ref b1), .val (.long (Int64.ofNat D)), .second, .val (.ref b54), .unset, .unset, .unset, .unset, .unset, .unset] [(.long (Int64.ofNat D)), (.int (15 : Int32)), (.ref b54)])) (fun tt_ kk_ => XS.lload X143.here hx rfl (hb hby at_336) rfl kk_) ?_
  refine Gq.go (T143.setTop (mkF m 340 #[.val (.int x0), .val (.int x1), .val (.long x2), .second, .val (.int x3), .val (.ref b1), .val (.long (Int64.ofNat D)), .second, .val (.ref b54), .unset, .unset, .unset, .unset, .unset, .unset] [(.ref b1), (.long (Int64.ofNat D)), (.int (15 : Int32)), (.ref b54)])) (fun tt_ kk_ => XS.aload X143.here hx rfl (hb hby at_338) rfl rfl kk_) ?_
  refine Gq.go (T143.setTop (mkF m 342 #[.val (.int x0), .val (.int x1), .val (.long x2), .second, .val (.int x3), .val (.ref b1), .val (.long (Int64.ofNat D)), .second, .val (.ref b54), .unset, .unset, .unset, .unset, .unset, .unset] [(.int (15 : Int32)), (.ref b1), (.long (Int64.ofNat D)), (.int (15 : Int32)), (.ref b54)])) (fun tt_ kk_ => XS.bipush X143.here hx rfl (hb hby at_340) kk_) ?_
  obtain ⟨r148, T148, L148, X148, hQ148, st148⟩ := callT (pc := 342) (Ls := #[.val (.int x0), .val (.int x1), .val (.long x2), .second, .val (.int x3), .val (.ref b1), .val (.long (Int64.ofNat D)), .second, .val (.ref b54), .unset, .unset, .unset, .unset, .unset, .unset]) X143 hx hZ hown eh143 [(.long (Int64.ofNat D)), (.ref b1), (.int (15 : Int32))] [(.int (15 : Int32)), (.ref b54)] (hw _ (List.mem_of_getElem? (i := 19) rfl)) (hw _ (List.mem_of_getElem? (i := 20) rfl)) (hw _ (List.mem_of_getElem? (i := 21) rfl)) (hw _ (List.mem_of_getElem? (i := 22) rfl)) (by decide) (rm1 l Z a0 hw [] D b1 15 h143 n0 za147 fa144 hD (by decide)) pd_2 rfl (by rw [hml]; rfl) (W := 2) (Nat.le_of_eq rfl) (by decide) (by decide) (by decide) (by decide) (hb hby at_342)
  obtain ⟨rfl, N148q, eh148⟩ := hQ148
  have N148 := Fr.app N143 N148q
  refine Gq.go (T148.setTop (mkF m 345 #[.val (.int x0), .val (.int x1), .val (.long x2), .second, .val (.int x3), .val (.ref b1), .val (.long (Int64.ofNat D)), .second, .val (.ref b54), .unset, .unset, .unset, .unset, .unset, .unset] [(.int (Int32.ofNat (48 + D / 10 ^ (15 - 15) % 10))), (.int (15 : Int32)), (.ref b54)])) (fun tt_ kk_ => st148 tt_ kk_) ?_
  obtain ⟨T149, h149, X149, eh149, W149, st149⟩ := stoB X148 hx hZ eh148 V143 (j := (15 : Int32)) (i := 15) (x := (Int32.ofNat (48 + D / 10 ^ (15 - 15) % 10))) (Ls := #[.val (.int x0), .val (.int x1), .val (.long x2), .second, .val (.int x3), .val (.ref b1), .val (.long (Int64.ofNat D)), .second, .val (.ref b54), .unset, .unset, .unset, .unset, .unset, .unset]) (rest := []) (by decide) rfl (by decide) (hb hby at_345)
  have fa150 := fa144.other W149 ne_b1_b54
  have ta151 := Nat.lt_of_lt_of_le ta145 (Nat.le_of_eq W149.size.symm)
  have ta152 := Nat.lt_of_lt_of_le ta146 (Nat.le_of_eq W149.size.symm)
  have za153 : n0 ≤ h149.size := Nat.le_trans za147 (Nat.le_of_eq W149.size.symm)
  have V149 : LA Z h149 b54 .byte 20 (gl [(.int (Int32.ofNat (48 + D / 10 ^ (15 - 0) % 10)).toInt8.toInt32), (.int (Int32.ofNat (48 + D / 10 ^ (15 - 1) % 10)).toInt8.toInt32), (.int (Int32.ofNat (48 + D / 10 ^ (15 - 2) % 10)).toInt8.toInt32), (.int (Int32.ofNat (48 + D / 10 ^ (15 - 3) % 10)).toInt8.toInt32), (.int (Int32.ofNat (48 + D / 10 ^ (15 - 4) % 10)).toInt8.toInt32), (.int (Int32.ofNat (48 + D / 10 ^ (15 - 5) % 10)).toInt8.toInt32), (.int (Int32.ofNat (48 + D / 10 ^ (15 - 6) % 10)).toInt8.toInt32), (.int (Int32.ofNat (48 + D / 10 ^ (15 - 7) % 10)).toInt8.toInt32), (.int (Int32.ofNat (48 + D / 10 ^ (15 - 8) % 10)).toInt8.toInt32), (.int (Int32.ofNat (48 + D / 10 ^ (15 - 9) % 10)).toInt8.toInt32), (.int (Int32.ofNat (48 + D / 10 ^ (15 - 10) % 10)).toInt8.toInt32), (.int (Int32.ofNat (48 + D / 10 ^ (15 - 11) % 10)).toInt8.toInt32), (.int (Int32.ofNat (48 + D / 10 ^ (15 - 12) % 10)).toInt8.toInt32), (.int (Int32.ofNat (48 + D / 10 ^ (15 - 13) % 10)).toInt8.toInt32), (.int (Int32.ofNat (48 + D / 10 ^ (15 - 14) % 10)).toInt8.toInt32), (.int (Int32.ofNat (48 + D / 10 ^ (15 - 15) % 10)).toInt8.toInt32), (.int (0 : Int32)), (.int (0 : Int32)), (.int (0 : Int32)), (.int (0 : Int32))] (.int (0 : Int32))) := V143.setL W149 (Nat.le_of_ble_eq_true rfl)
  have N149 := Fr.snoc X149 N148 g_b54
  refine Gq.go (T149.setTop (mkF m 346 #[.val (.int x0), .val (.int x1), .val (.long x2), .second, .val (.int x3), .val (.ref b1), .val (.long (Int64.ofNat D)), .second, .val (.ref b54), .unset, .unset, .unset, .unset, .unset, .unset] [])) (fun tt_ kk_ => st149 tt_ kk_) ?_
  refine Gq.go (T149.setTop (mkF m 348 #[.val (.int x0), .val (.int x1), .val (.long x2), .second, .val (.int x3), .val (.ref b1), .val (.long (Int64.ofNat D)), .second, .val (.ref b54), .unset, .unset, .unset, .unset, .unset, .unset] [(.ref b54)])) (fun tt_ kk_ => XS.aload X149.here hx rfl (hb hby at_346) rfl rfl kk_) ?_
  refine Gq.go (T149.setTop (mkF m 350 #[.val (.int x0), .val (.int x1), .val (.long x2), .second, .val (.int x3), .val (.ref b1), .val (.long (Int64.ofNat D)), .second, .val (.ref b54), .unset, .unset, .unset, .unset, .unset, .unset] [(.int (16 : Int32)), (.ref b54)])) (fun tt_ kk_ => XS.bipush X149.here hx rfl (hb hby at_348) kk_) ?_
  refine Gq.go (T149.setTop (mkF m 352 #[.val (.int x0), .val (.int x1), .val (.long x2), .second, .val (.int x3), .val (.ref b1), .val (.long (Int64.ofNat D)), .second, .val (.ref b54), .unset, .unset, .unset, .unset, .unset, .unset] [(.int x3), (.int (16 : Int32)), (.ref b54)])) (fun tt_ kk_ => XS.iload X149.here hx rfl (hb hby at_350) rfl kk_) ?_
  refine Gq.go (T149.setTop (mkF m 353 #[.val (.int x0), .val (.int x1), .val (.long x2), .second, .val (.int x3), .val (.ref b1), .val (.long (Int64.ofNat D)), .second, .val (.ref b54), .unset, .unset, .unset, .unset, .unset, .unset] [(.int (x3.toInt8.toInt32)), (.int (16 : Int32)), (.ref b54)])) (fun tt_ kk_ => XS.i2b X149.here hx rfl (hb hby at_352) rfl kk_) ?_
  obtain ⟨T154, h154, X154, eh154, W154, st154⟩ := stoB X149 hx hZ eh149 V149 (j := (16 : Int32)) (i := 16) (x := (x3.toInt8.toInt32)) (Ls := #[.val (.int x0), .val (.int x1), .val (.long x2), .second, .val (.int x3), .val (.ref b1), .val (.long (Int64.ofNat D)), .second, .val (.ref b54), .unset, .unset, .unset, .unset, .unset, .unset]) (rest := []) (by decide) rfl (by decide) (hb hby at_353)
  have fa155 := fa150.other W154 ne_b1_b54
  have ta156 := Nat.lt_of_lt_of_le ta151 (Nat.le_of_eq W154.size.symm)
  have ta157 := Nat.lt_of_lt_of_le ta152 (Nat.le_of_eq W154.size.symm)
  have za158 : n0 ≤ h154.size := Nat.le_trans za153 (Nat.le_of_eq W154.size.symm)
  have V154 : LA Z h154 b54 .byte 20 (gl [(.int (Int32.ofNat (48 + D / 10 ^ (15 - 0) % 10)).toInt8.toInt32), (.int (Int32.ofNat (48 + D / 10 ^ (15 - 1) % 10)).toInt8.toInt32), (.int (Int32.ofNat (48 + D / 10 ^ (15 - 2) % 10)).toInt8.toInt32), (.int (Int32.ofNat (48 + D / 10 ^ (15 - 3) % 10)).toInt8.toInt32), (.int (Int32.ofNat (48 + D / 10 ^ (15 - 4) % 10)).toInt8.toInt32), (.int (Int32.ofNat (48 + D / 10 ^ (15 - 5) % 10)).toInt8.toInt32), (.int (Int32.ofNat (48 + D / 10 ^ (15 - 6) % 10)).toInt8.toInt32), (.int (Int32.ofNat (48 + D / 10 ^ (15 - 7) % 10)).toInt8.toInt32), (.int (Int32.ofNat (48 + D / 10 ^ (15 - 8) % 10)).toInt8.toInt32), (.int (Int32.ofNat (48 + D / 10 ^ (15 - 9) % 10)).toInt8.toInt32), (.int (Int32.ofNat (48 + D / 10 ^ (15 - 10) % 10)).toInt8.toInt32), (.int (Int32.ofNat (48 + D / 10 ^ (15 - 11) % 10)).toInt8.toInt32), (.int (Int32.ofNat (48 + D / 10 ^ (15 - 12) % 10)).toInt8.toInt32), (.int (Int32.ofNat (48 + D / 10 ^ (15 - 13) % 10)).toInt8.toInt32), (.int (Int32.ofNat (48 + D / 10 ^ (15 - 14) % 10)).toInt8.toInt32), (.int (Int32.ofNat (48 + D / 10 ^ (15 - 15) % 10)).toInt8.toInt32), (.int (x3.toInt8.toInt32).toInt8.toInt32), (.int (0 : Int32)), (.int (0 : Int32)), (.int (0 : Int32))] (.int (0 : Int32))) := V149.setL W154 (Nat.le_of_ble_eq_true rfl)
  have N154 := Fr.snoc X154 N149 g_b54
  refine Gq.go (T154.setTop (mkF m 354 #[.val (.int x0), .val (.int x1), .val (.long x2), .second, .val (.int x3), .val (.ref b1), .val (.long (Int64.ofNat D)), .second, .val (.ref b54), .unset, .unset, .unset, .unset, .unset, .unset] [])) (fun tt_ kk_ => st154 tt_ kk_) ?_
  refine Gq.go (T154.setTop (mkF m 356 #[.val (.int x0), .val (.int x1), .val (.long x2), .second, .val (.int x3), .val (.ref b1), .val (.long (Int64.ofNat D)), .second, .val (.ref b54), .unset, .unset, .unset, .unset, .unset, .unset] [(.ref b54)])) (fun tt_ kk_ => XS.aload X154.here hx rfl (hb hby at_354) rfl rfl kk_) ?_
  refine Gq.go (T154.setTop (mkF m 358 #[.val (.int x0), .val (.int x1), .val (.long x2), .second, .val (.int x3), .val (.ref b1), .val (.long (Int64.ofNat D)), .second, .val (.ref b54), .unset, .unset, .unset, .unset, .unset, .unset] [(.int (17 : Int32)), (.ref b54)])) (fun tt_ kk_ => XS.bipush X154.here hx rfl (hb hby at_356) kk_) ?_
  refine Gq.go (T154.setTop (mkF m 360 #[.val (.int x0), .val (.int x1), .val (.long x2), .second, .val (.int x3), .val (.ref b1), .val (.long (Int64.ofNat D)), .second, .val (.ref b54), .unset, .unset, .unset, .unset, .unset, .unset] [(.int x3), (.int (17 : Int32)), (.ref b54)])) (fun tt_ kk_ => XS.iload X154.here hx rfl (hb hby at_358) rfl kk_) ?_
  refine Gq.go (T154.setTop (mkF m 362 #[.val (.int x0), .val (.int x1), .val (.long x2), .second, .val (.int x3), .val (.ref b1), .val (.long (Int64.ofNat D)), .second, .val (.ref b54), .unset, .unset, .unset, .unset, .unset, .unset] [(.int (8 : Int32)), (.int x3), (.int (17 : Int32)), (.ref b54)])) (fun tt_ kk_ => XS.bipush X154.here hx rfl (hb hby at_360) kk_) ?_
  refine Gq.go (T154.setTop (mkF m 363 #[.val (.int x0), .val (.int x1), .val (.long x2), .second, .val (.int x3), .val (.ref b1), .val (.long (Int64.ofNat D)), .second, .val (.ref b54), .unset, .unset, .unset, .unset, .unset, .unset] [(.int (x3 >>> ((8 : Int32) &&& 31))), (.int (17 : Int32)), (.ref b54)])) (fun tt_ kk_ => XS.ishr X154.here hx rfl (hb hby at_362) rfl kk_) ?_
  refine Gq.go (T154.setTop (mkF m 364 #[.val (.int x0), .val (.int x1), .val (.long x2), .second, .val (.int x3), .val (.ref b1), .val (.long (Int64.ofNat D)), .second, .val (.ref b54), .unset, .unset, .unset, .unset, .unset, .unset] [(.int ((x3 >>> ((8 : Int32) &&& 31)).toInt8.toInt32)), (.int (17 : Int32)), (.ref b54)])) (fun tt_ kk_ => XS.i2b X154.here hx rfl (hb hby at_363) rfl kk_) ?_
  obtain ⟨T159, h159, X159, eh159, W159, st159⟩ := stoB X154 hx hZ eh154 V154 (j := (17 : Int32)) (i := 17) (x := ((x3 >>> ((8 : Int32) &&& 31)).toInt8.toInt32)) (Ls := #[.val (.int x0), .val (.int x1), .val (.long x2), .second, .val (.int x3), .val (.ref b1), .val (.long (Int64.ofNat D)), .second, .val (.ref b54), .unset, .unset, .unset, .unset, .unset, .unset]) (rest := []) (by decide) rfl (by decide) (hb hby at_364)
  have fa160 := fa155.other W159 ne_b1_b54
  have ta161 := Nat.lt_of_lt_of_le ta156 (Nat.le_of_eq W159.size.symm)
  have ta162 := Nat.lt_of_lt_of_le ta157 (Nat.le_of_eq W159.size.symm)
  have za163 : n0 ≤ h159.size := Nat.le_trans za158 (Nat.le_of_eq W159.size.symm)
  have V159 : LA Z h159 b54 .byte 20 (gl [(.int (Int32.ofNat (48 + D / 10 ^ (15 - 0) % 10)).toInt8.toInt32), (.int (Int32.ofNat (48 + D / 10 ^ (15 - 1) % 10)).toInt8.toInt32), (.int (Int32.ofNat (48 + D / 10 ^ (15 - 2) % 10)).toInt8.toInt32), (.int (Int32.ofNat (48 + D / 10 ^ (15 - 3) % 10)).toInt8.toInt32), (.int (Int32.ofNat (48 + D / 10 ^ (15 - 4) % 10)).toInt8.toInt32), (.int (Int32.ofNat (48 + D / 10 ^ (15 - 5) % 10)).toInt8.toInt32), (.int (Int32.ofNat (48 + D / 10 ^ (15 - 6) % 10)).toInt8.toInt32), (.int (Int32.ofNat (48 + D / 10 ^ (15 - 7) % 10)).toInt8.toInt32), (.int (Int32.ofNat (48 + D / 10 ^ (15 - 8) % 10)).toInt8.toInt32), (.int (Int32.ofNat (48 + D / 10 ^ (15 - 9) % 10)).toInt8.toInt32), (.int (Int32.ofNat (48 + D / 10 ^ (15 - 10) % 10)).toInt8.toInt32), (.int (Int32.ofNat (48 + D / 10 ^ (15 - 11) % 10)).toInt8.toInt32), (.int (Int32.ofNat (48 + D / 10 ^ (15 - 12) % 10)).toInt8.toInt32), (.int (Int32.ofNat (48 + D / 10 ^ (15 - 13) % 10)).toInt8.toInt32), (.int (Int32.ofNat (48 + D / 10 ^ (15 - 14) % 10)).toInt8.toInt32), (.int (Int32.ofNat (48 + D / 10 ^ (15 - 15) % 10)).toInt8.toInt32), (.int (x3.toInt8.toInt32).toInt8.toInt32), (.int ((x3 >>> ((8 : Int32) &&& 31)).toInt8.toInt32).toInt8.toInt32), (.int (0 : Int32)), (.int (0 : Int32))] (.int (0 : Int32))) := V154.setL W159 (Nat.le_of_ble_eq_true rfl)
  have N159 := Fr.snoc X159 N154 g_b54
  refine Gq.go (T159.setTop (mkF m 365 #[.val (.int x0), .val (.int x1), .val (.long x2), .second, .val (.int x3), .val (.ref b1), .val (.long (Int64.ofNat D)), .second, .val (.ref b54), .unset, .unset, .unset, .unset, .unset, .unset] [])) (fun tt_ kk_ => st159 tt_ kk_) ?_
  refine Gq.go (T159.setTop (mkF m 367 #[.val (.int x0), .val (.int x1), .val (.long x2), .second, .val (.int x3), .val (.ref b1), .val (.long (Int64.ofNat D)), .second, .val (.ref b54), .unset, .unset, .unset, .unset, .unset, .unset] [(.ref b54)])) (fun tt_ kk_ => XS.aload X159.here hx rfl (hb hby at_365) rfl rfl kk_) ?_
  refine Gq.go (T159.setTop (mkF m 369 #[.val (.int x0), .val (.int x1), .val (.long x2), .second, .val (.int x3), .val (.ref b1), .val (.long (Int64.ofNat D)), .second, .val (.ref b54), .unset, .unset, .unset, .unset, .unset, .unset] [(.int (18 : Int32)), (.ref b54)])) (fun tt_ kk_ => XS.bipush X159.here hx rfl (hb hby at_367) kk_) ?_
  refine Gq.go (T159.setTop (mkF m 371 #[.val (.int x0), .val (.int x1), .val (.long x2), .second, .val (.int x3), .val (.ref b1), .val (.long (Int64.ofNat D)), .second, .val (.ref b54), .unset, .unset, .unset, .unset, .unset, .unset] [(.int x3), (.int (18 : Int32)), (.ref b54)])) (fun tt_ kk_ => XS.iload X159.here hx rfl (hb hby at_369) rfl kk_) ?_
  refine Gq.go (T159.setTop (mkF m 373 #[.val (.int x0), .val (.int x1), .val (.long x2), .second, .val (.int x3), .val (.ref b1), .val (.long (Int64.ofNat D)), .second, .val (.ref b54), .unset, .unset, .unset, .unset, .unset, .unset] [(.int (16 : Int32)), (.int x3), (.int (18 : Int32)), (.ref b54)])) (fun tt_ kk_ => XS.bipush X159.here hx rfl (hb hby at_371) kk_) ?_
  refine Gq.go (T159.setTop (mkF m 374 #[.val (.int x0), .val (.int x1), .val (.long x2), .second, .val (.int x3), .val (.ref b1), .val (.long (Int64.ofNat D)), .second, .val (.ref b54), .unset, .unset, .unset, .unset, .unset, .unset] [(.int (x3 >>> ((16 : Int32) &&& 31))), (.int (18 : Int32)), (.ref b54)])) (fun tt_ kk_ => XS.ishr X159.here hx rfl (hb hby at_373) rfl kk_) ?_
  refine Gq.go (T159.setTop (mkF m 375 #[.val (.int x0), .val (.int x1), .val (.long x2), .second, .val (.int x3), .val (.ref b1), .val (.long (Int64.ofNat D)), .second, .val (.ref b54), .unset, .unset, .unset, .unset, .unset, .unset] [(.int ((x3 >>> ((16 : Int32) &&& 31)).toInt8.toInt32)), (.int (18 : Int32)), (.ref b54)])) (fun tt_ kk_ => XS.i2b X159.here hx rfl (hb hby at_374) rfl kk_) ?_
  obtain ⟨T164, h164, X164, eh164, W164, st164⟩ := stoB X159 hx hZ eh159 V159 (j := (18 : Int32)) (i := 18) (x := ((x3 >>> ((16 : Int32) &&& 31)).toInt8.toInt32)) (Ls := #[.val (.int x0), .val (.int x1), .val (.long x2), .second, .val (.int x3), .val (.ref b1), .val (.long (Int64.ofNat D)), .second, .val (.ref b54), .unset, .unset, .unset, .unset, .unset, .unset]) (rest := []) (by decide) rfl (by decide) (hb hby at_375)
  have fa165 := fa160.other W164 ne_b1_b54
  have ta166 := Nat.lt_of_lt_of_le ta161 (Nat.le_of_eq W164.size.symm)
  have ta167 := Nat.lt_of_lt_of_le ta162 (Nat.le_of_eq W164.size.symm)
  have za168 : n0 ≤ h164.size := Nat.le_trans za163 (Nat.le_of_eq W164.size.symm)
  have V164 : LA Z h164 b54 .byte 20 (gl [(.int (Int32.ofNat (48 + D / 10 ^ (15 - 0) % 10)).toInt8.toInt32), (.int (Int32.ofNat (48 + D / 10 ^ (15 - 1) % 10)).toInt8.toInt32), (.int (Int32.ofNat (48 + D / 10 ^ (15 - 2) % 10)).toInt8.toInt32), (.int (Int32.ofNat (48 + D / 10 ^ (15 - 3) % 10)).toInt8.toInt32), (.int (Int32.ofNat (48 + D / 10 ^ (15 - 4) % 10)).toInt8.toInt32), (.int (Int32.ofNat (48 + D / 10 ^ (15 - 5) % 10)).toInt8.toInt32), (.int (Int32.ofNat (48 + D / 10 ^ (15 - 6) % 10)).toInt8.toInt32), (.int (Int32.ofNat (48 + D / 10 ^ (15 - 7) % 10)).toInt8.toInt32), (.int (Int32.ofNat (48 + D / 10 ^ (15 - 8) % 10)).toInt8.toInt32), (.int (Int32.ofNat (48 + D / 10 ^ (15 - 9) % 10)).toInt8.toInt32), (.int (Int32.ofNat (48 + D / 10 ^ (15 - 10) % 10)).toInt8.toInt32), (.int (Int32.ofNat (48 + D / 10 ^ (15 - 11) % 10)).toInt8.toInt32), (.int (Int32.ofNat (48 + D / 10 ^ (15 - 12) % 10)).toInt8.toInt32), (.int (Int32.ofNat (48 + D / 10 ^ (15 - 13) % 10)).toInt8.toInt32), (.int (Int32.ofNat (48 + D / 10 ^ (15 - 14) % 10)).toInt8.toInt32), (.int (Int32.ofNat (48 + D / 10 ^ (15 - 15) % 10)).toInt8.toInt32), (.int (x3.toInt8.toInt32).toInt8.toInt32), (.int ((x3 >>> ((8 : Int32) &&& 31)).toInt8.toInt32).toInt8.toInt32), (.int ((x3 >>> ((16 : Int32) &&& 31)).toInt8.toInt32).toInt8.toInt32), (.int (0 : Int32))] (.int (0 : Int32))) := V159.setL W164 (Nat.le_of_ble_eq_true rfl)
  have N164 := Fr.snoc X164 N159 g_b54
  refine Gq.go (T164.setTop (mkF m 376 #[.val (.int x0), .val (.int x1), .val (.long x2), .second, .val (.int x3), .val (.ref b1), .val (.long (Int64.ofNat D)), .second, .val (.ref b54), .unset, .unset, .unset, .unset, .unset, .unset] [])) (fun tt_ kk_ => st164 tt_ kk_) ?_
  refine Gq.go (T164.setTop (mkF m 378 #[.val (.int x0), .val (.int x1), .val (.long x2), .second, .val (.int x3), .val (.ref b1), .val (.long (Int64.ofNat D)), .second, .val (.ref b54), .unset, .unset, .unset, .unset, .unset, .unset] [(.ref b54)])) (fun tt_ kk_ => XS.aload X164.here hx rfl (hb hby at_376) rfl rfl kk_) ?_
  refine Gq.go (T164.setTop (mkF m 380 #[.val (.int x0), .val (.int x1), .val (.long x2), .second, .val (.int x3), .val (.ref b1), .val (.long (Int64.ofNat D)), .second, .val (.ref b54), .unset, .unset, .unset, .unset, .unset, .unset] [(.int (19 : Int32)), (.ref b54)])) (fun tt_ kk_ => XS.bipush X164.here hx rfl (hb hby at_378) kk_) ?_
  refine Gq.go (T164.setTop (mkF m 382 #[.val (.int x0), .val (.int x1), .val (.long x2), .second, .val (.int x3), .val (.ref b1), .val (.long (Int64.ofNat D)), .second, .val (.ref b54), .unset, .unset, .unset, .unset, .unset, .unset] [(.int x3), (.int (19 : Int32)), (.ref b54)])) (fun tt_ kk_ => XS.iload X164.here hx rfl (hb hby at_380) rfl kk_) ?_
  refine Gq.go (T164.setTop (mkF m 384 #[.val (.int x0), .val (.int x1), .val (.long x2), .second, .val (.int x3), .val (.ref b1), .val (.long (Int64.ofNat D)), .second, .val (.ref b54), .unset, .unset, .unset, .unset, .unset, .unset] [(.int (24 : Int32)), (.int x3), (.int (19 : Int32)), (.ref b54)])) (fun tt_ kk_ => XS.bipush X164.here hx rfl (hb hby at_382) kk_) ?_
  refine Gq.go (T164.setTop (mkF m 385 #[.val (.int x0), .val (.int x1), .val (.long x2), .second, .val (.int x3), .val (.ref b1), .val (.long (Int64.ofNat D)), .second, .val (.ref b54), .unset, .unset, .unset, .unset, .unset, .unset] [(.int (x3 >>> ((24 : Int32) &&& 31))), (.int (19 : Int32)), (.ref b54)])) (fun tt_ kk_ => XS.ishr X164.here hx rfl (hb hby at_384) rfl kk_) ?_
  refine Gq.go (T164.setTop (mkF m 386 #[.val (.int x0), .val (.int x1), .val (.long x2), .second, .val (.int x3), .val (.ref b1), .val (.long (Int64.ofNat D)), .second, .val (.ref b54), .unset, .unset, .unset, .unset, .unset, .unset] [(.int ((x3 >>> ((24 : Int32) &&& 31)).toInt8.toInt32)), (.int (19 : Int32)), (.ref b54)])) (fun tt_ kk_ => XS.i2b X164.here hx rfl (hb hby at_385) rfl kk_) ?_
  obtain ⟨T169, h169, X169, eh169, W169, st169⟩ := stoB X164 hx hZ eh164 V164 (j := (19 : Int32)) (i := 19) (x := ((x3 >>> ((24 : Int32) &&& 31)).toInt8.toInt32)) (Ls := #[.val (.int x0), .val (.int x1), .val (.long x2), .second, .val (.int x3), .val (.ref b1), .val (.long (Int64.ofNat D)), .second, .val (.ref b54), .unset, .unset, .unset, .unset, .unset, .unset]) (rest := []) (by decide) rfl (by decide) (hb hby at_386)
  have fa170 := fa165.other W169 ne_b1_b54
  have ta171 := Nat.lt_of_lt_of_le ta166 (Nat.le_of_eq W169.size.symm)
  have ta172 := Nat.lt_of_lt_of_le ta167 (Nat.le_of_eq W169.size.symm)
  have za173 : n0 ≤ h169.size := Nat.le_trans za168 (Nat.le_of_eq W169.size.symm)
  have V169 : LA Z h169 b54 .byte 20 (gl [(.int (Int32.ofNat (48 + D / 10 ^ (15 - 0) % 10)).toInt8.toInt32), (.int (Int32.ofNat (48 + D / 10 ^ (15 - 1) % 10)).toInt8.toInt32), (.int (Int32.ofNat (48 + D / 10 ^ (15 - 2) % 10)).toInt8.toInt32), (.int (Int32.ofNat (48 + D / 10 ^ (15 - 3) % 10)).toInt8.toInt32), (.int (Int32.ofNat (48 + D / 10 ^ (15 - 4) % 10)).toInt8.toInt32), (.int (Int32.ofNat (48 + D / 10 ^ (15 - 5) % 10)).toInt8.toInt32), (.int (Int32.ofNat (48 + D / 10 ^ (15 - 6) % 10)).toInt8.toInt32), (.int (Int32.ofNat (48 + D / 10 ^ (15 - 7) % 10)).toInt8.toInt32), (.int (Int32.ofNat (48 + D / 10 ^ (15 - 8) % 10)).toInt8.toInt32), (.int (Int32.ofNat (48 + D / 10 ^ (15 - 9) % 10)).toInt8.toInt32), (.int (Int32.ofNat (48 + D / 10 ^ (15 - 10) % 10)).toInt8.toInt32), (.int (Int32.ofNat (48 + D / 10 ^ (15 - 11) % 10)).toInt8.toInt32), (.int (Int32.ofNat (48 + D / 10 ^ (15 - 12) % 10)).toInt8.toInt32), (.int (Int32.ofNat (48 + D / 10 ^ (15 - 13) % 10)).toInt8.toInt32), (.int (Int32.ofNat (48 + D / 10 ^ (15 - 14) % 10)).toInt8.toInt32), (.int (Int32.ofNat (48 + D / 10 ^ (15 - 15) % 10)).toInt8.toInt32), (.int (x3.toInt8.toInt32).toInt8.toInt32), (.int ((x3 >>> ((8 : Int32) &&& 31)).toInt8.toInt32).toInt8.toInt32), (.int ((x3 >>> ((16 : Int32) &&& 31)).toInt8.toInt32).toInt8.toInt32), (.int ((x3 >>> ((24 : Int32) &&& 31)).toInt8.toInt32).toInt8.toInt32)] (.int (0 : Int32))) := V164.setL W169 (Nat.le_of_ble_eq_true rfl)
  have N169 := Fr.snoc X169 N164 g_b54
  refine Gq.go (T169.setTop (mkF m 387 #[.val (.int x0), .val (.int x1), .val (.long x2), .second, .val (.int x3), .val (.ref b1), .val (.long (Int64.ofNat D)), .second, .val (.ref b54), .unset, .unset, .unset, .unset, .unset, .unset] [])) (fun tt_ kk_ => st169 tt_ kk_) ?_
  have VG : LA Z h169 b54 .byte 20 (fun i => .int ((own_gg D ((x3.toInt8.toInt32).toInt8.toInt32) (((x3 >>> ((8 : Int32) &&& 31)).toInt8.toInt32).toInt8.toInt32) (((x3 >>> ((16 : Int32) &&& 31)).toInt8.toInt32).toInt8.toInt32) (((x3 >>> ((24 : Int32) &&& 31)).toInt8.toInt32).toInt8.toInt32)) i)) := V169.congr (own_20 D ((x3.toInt8.toInt32).toInt8.toInt32) (((x3 >>> ((8 : Int32) &&& 31)).toInt8.toInt32).toInt8.toInt32) (((x3 >>> ((16 : Int32) &&& 31)).toInt8.toInt32).toInt8.toInt32) (((x3 >>> ((24 : Int32) &&& 31)).toInt8.toInt32).toInt8.toInt32))
  have hbG := own_gg_b D ((x3.toInt8.toInt32)) (((x3 >>> ((8 : Int32) &&& 31)).toInt8.toInt32)) (((x3 >>> ((16 : Int32) &&& 31)).toInt8.toInt32)) (((x3 >>> ((24 : Int32) &&& 31)).toInt8.toInt32))
  refine Gq.go (T169.setTop (mkF m 388 #[.val (.int x0), .val (.int x1), .val (.long x2), .second, .val (.int x3), .val (.ref b1), .val (.long (Int64.ofNat D)), .second, .val (.ref b54), .unset, .unset, .unset, .unset, .unset, .unset] [(.int x0)])) (fun tt_ kk_ => XS.iloadN X169.here hx rfl (hb hby at_387) rfl kk_) ?_
  refine Gq.go (T169.setTop (mkF m 390 #[.val (.int x0), .val (.int x1), .val (.long x2), .second, .val (.int x3), .val (.ref b1), .val (.long (Int64.ofNat D)), .second, .val (.ref b54), .unset, .unset, .unset, .unset, .unset, .unset] [(.int (2147483647 : Int32)), (.int x0)])) (fun tt_ kk_ => X169.ldcInt hx hown (mvT hZ (hw _ (List.mem_of_getElem? (i := 24) rfl))) (g := (mkF m 388 #[.val (.int x0), .val (.int x1), .val (.long x2), .second, .val (.int x3), .val (.ref b1), .val (.long (Int64.ofNat D)), .second, .val (.ref b54), .unset, .unset, .unset, .unset, .unset, .unset] [(.int x0)])) rfl (hb hby at_388) _ kk_) ?_
  refine Gq.go (T169.setTop (mkF m 391 #[.val (.int x0), .val (.int x1), .val (.long x2), .second, .val (.int x3), .val (.ref b1), .val (.long (Int64.ofNat D)), .second, .val (.ref b54), .unset, .unset, .unset, .unset, .unset, .unset] [(.int (x0 &&& (2147483647 : Int32)))])) (fun tt_ kk_ => XS.iand X169.here hx rfl (hb hby at_390) rfl kk_) ?_
  refine Gq.go (T169.setTop (mkF m 393 #[.val (.int x0), .val (.int x1), .val (.long x2), .second, .val (.int x3), .val (.ref b1), .val (.long (Int64.ofNat D)), .second, .val (.ref b54), .unset, .unset, .unset, .unset, .unset, .unset] [(.int (21 : Int32)), (.int (x0 &&& (2147483647 : Int32)))])) (fun tt_ kk_ => XS.bipush X169.here hx rfl (hb hby at_391) kk_) ?_
  refine Gq.go (T169.setTop (mkF m 394 #[.val (.int x0), .val (.int x1), .val (.long x2), .second, .val (.int x3), .val (.ref b1), .val (.long (Int64.ofNat D)), .second, .val (.ref b54), .unset, .unset, .unset, .unset, .unset, .unset] [(.int ((x0 &&& (2147483647 : Int32)) % (21 : Int32)))])) (fun tt_ kk_ => iremM X169 hx rfl (hb hby at_393) rfl (by decide) kk_) ?_
  obtain ⟨i1, hi1, ei1⟩ := own_maskrem x0 21 (by decide) (by decide)
  rw [show ((x0 &&& (2147483647 : Int32)) % (21 : Int32)) = (Int32.ofNat i1) from ei1]
  refine Gq.go (T169.setTop (mkF m 396 #[.val (.int x0), .val (.int x1), .val (.long x2), .second, .val (.int x3), .val (.ref b1), .val (.long (Int64.ofNat D)), .second, .val (.ref b54), .val (.int (Int32.ofNat i1)), .unset, .unset, .unset, .unset, .unset] [])) (fun tt_ kk_ => XS.istore X169.here hx rfl (hb hby at_394) rfl (l' := #[.val (.int x0), .val (.int x1), .val (.long x2), .second, .val (.int x3), .val (.ref b1), .val (.long (Int64.ofNat D)), .second, .val (.ref b54), .val (.int (Int32.ofNat i1)), .unset, .unset, .unset, .unset, .unset]) rfl kk_) ?_
  refine Gq.go (T169.setTop (mkF m 397 #[.val (.int x0), .val (.int x1), .val (.long x2), .second, .val (.int x3), .val (.ref b1), .val (.long (Int64.ofNat D)), .second, .val (.ref b54), .val (.int (Int32.ofNat i1)), .unset, .unset, .unset, .unset, .unset] [(.int x1)])) (fun tt_ kk_ => XS.iloadN X169.here hx rfl (hb hby at_396) rfl kk_) ?_
  refine Gq.go (T169.setTop (mkF m 399 #[.val (.int x0), .val (.int x1), .val (.long x2), .second, .val (.int x3), .val (.ref b1), .val (.long (Int64.ofNat D)), .second, .val (.ref b54), .val (.int (Int32.ofNat i1)), .unset, .unset, .unset, .unset, .unset] [(.int (2147483647 : Int32)), (.int x1)])) (fun tt_ kk_ => X169.ldcInt hx hown (mvT hZ (hw _ (List.mem_of_getElem? (i := 24) rfl))) (g := (mkF m 397 #[.val (.int x0), .val (.int x1), .val (.long x2), .second, .val (.int x3), .val (.ref b1), .val (.long (Int64.ofNat D)), .second, .val (.ref b54), .val (.int (Int32.ofNat i1)), .unset, .unset, .unset, .unset, .unset] [(.int x1)])) rfl (hb hby at_397) _ kk_) ?_
  refine Gq.go (T169.setTop (mkF m 400 #[.val (.int x0), .val (.int x1), .val (.long x2), .second, .val (.int x3), .val (.ref b1), .val (.long (Int64.ofNat D)), .second, .val (.ref b54), .val (.int (Int32.ofNat i1)), .unset, .unset, .unset, .unset, .unset] [(.int (x1 &&& (2147483647 : Int32)))])) (fun tt_ kk_ => XS.iand X169.here hx rfl (hb hby at_399) rfl kk_) ?_
  refine Gq.go (T169.setTop (mkF m 402 #[.val (.int x0), .val (.int x1), .val (.long x2), .second, .val (.int x3), .val (.ref b1), .val (.long (Int64.ofNat D)), .second, .val (.ref b54), .val (.int (Int32.ofNat i1)), .unset, .unset, .unset, .unset, .unset] [(.int (21 : Int32)), (.int (x1 &&& (2147483647 : Int32)))])) (fun tt_ kk_ => XS.bipush X169.here hx rfl (hb hby at_400) kk_) ?_
  refine Gq.go (T169.setTop (mkF m 403 #[.val (.int x0), .val (.int x1), .val (.long x2), .second, .val (.int x3), .val (.ref b1), .val (.long (Int64.ofNat D)), .second, .val (.ref b54), .val (.int (Int32.ofNat i1)), .unset, .unset, .unset, .unset, .unset] [(.int ((x1 &&& (2147483647 : Int32)) % (21 : Int32)))])) (fun tt_ kk_ => iremM X169 hx rfl (hb hby at_402) rfl (by decide) kk_) ?_
  obtain ⟨i2, hi2, ei2⟩ := own_maskrem x1 21 (by decide) (by decide)
  rw [show ((x1 &&& (2147483647 : Int32)) % (21 : Int32)) = (Int32.ofNat i2) from ei2]
  refine Gq.go (T169.setTop (mkF m 405 #[.val (.int x0), .val (.int x1), .val (.long x2), .second, .val (.int x3), .val (.ref b1), .val (.long (Int64.ofNat D)), .second, .val (.ref b54), .val (.int (Int32.ofNat i1)), .val (.int (Int32.ofNat i2)), .unset, .unset, .unset, .unset] [])) (fun tt_ kk_ => XS.istore X169.here hx rfl (hb hby at_403) rfl (l' := #[.val (.int x0), .val (.int x1), .val (.long x2), .second, .val (.int x3), .val (.ref b1), .val (.long (Int64.ofNat D)), .second, .val (.ref b54), .val (.int (Int32.ofNat i1)), .val (.int (Int32.ofNat i2)), .unset, .unset, .unset, .unset]) rfl kk_) ?_
  refine Gq.go (T169.setTop (mkF m 407 #[.val (.int x0), .val (.int x1), .val (.long x2), .second, .val (.int x3), .val (.ref b1), .val (.long (Int64.ofNat D)), .second, .val (.ref b54), .val (.int (Int32.ofNat i1)), .val (.int (Int32.ofNat i2)), .unset, .unset, .unset, .unset] [(.int (Int32.ofNat i1))])) (fun tt_ kk_ => XS.iload X169.here hx rfl (hb hby at_405) rfl kk_) ?_
  refine Gq.go (T169.setTop (mkF m 409 #[.val (.int x0), .val (.int x1), .val (.long x2), .second, .val (.int x3), .val (.ref b1), .val (.long (Int64.ofNat D)), .second, .val (.ref b54), .val (.int (Int32.ofNat i1)), .val (.int (Int32.ofNat i2)), .unset, .unset, .unset, .unset] [(.int (Int32.ofNat i2)), (.int (Int32.ofNat i1))])) (fun tt_ kk_ => XS.iload X169.here hx rfl (hb hby at_407) rfl kk_) ?_
  obtain ⟨r174, T174, L174, X174, hQ174, st174⟩ := callT (pc := 409) (Ls := #[.val (.int x0), .val (.int x1), .val (.long x2), .second, .val (.int x3), .val (.ref b1), .val (.long (Int64.ofNat D)), .second, .val (.ref b54), .val (.int (Int32.ofNat i1)), .val (.int (Int32.ofNat i2)), .unset, .unset, .unset, .unset]) X169 hx hZ hown eh169 [(.int (Int32.ofNat i1)), (.int (Int32.ofNat i2))] [] (hw _ (List.mem_of_getElem? (i := 25) rfl)) (hw _ (List.mem_of_getElem? (i := 26) rfl)) (hw _ (List.mem_of_getElem? (i := 27) rfl)) (hw _ (List.mem_of_getElem? (i := 28) rfl)) (by decide) (rm_own_min l Z a0 hw [] (Int32.ofNat i1) (Int32.ofNat i2) h169 n0 za173) pd_0 rfl (by rw [hml]; rfl) (W := 0) (Nat.le_of_eq rfl) (by decide) (by decide) (by decide) (by decide) (hb hby at_409)
  obtain ⟨rfl, N174q, eh174⟩ := hQ174
  have N174 := Fr.app N169 N174q
  refine Gq.go (T174.setTop (mkF m 412 #[.val (.int x0), .val (.int x1), .val (.long x2), .second, .val (.int x3), .val (.ref b1), .val (.long (Int64.ofNat D)), .second, .val (.ref b54), .val (.int (Int32.ofNat i1)), .val (.int (Int32.ofNat i2)), .unset, .unset, .unset, .unset] [(.int (own_min (Int32.ofNat i1) (Int32.ofNat i2)))])) (fun tt_ kk_ => st174 tt_ kk_) ?_
  rw [show (own_min (Int32.ofNat i1) (Int32.ofNat i2)) = (Int32.ofNat (min i1 i2)) from own_min_eq2 (by omega) (by omega)]
  refine Gq.go (T174.setTop (mkF m 414 #[.val (.int x0), .val (.int x1), .val (.long x2), .second, .val (.int x3), .val (.ref b1), .val (.long (Int64.ofNat D)), .second, .val (.ref b54), .val (.int (Int32.ofNat i1)), .val (.int (Int32.ofNat i2)), .val (.int (Int32.ofNat (min i1 i2))), .unset, .unset, .unset] [])) (fun tt_ kk_ => XS.istore X174.here hx rfl (hb hby at_412) rfl (l' := #[.val (.int x0), .val (.int x1), .val (.long x2), .second, .val (.int x3), .val (.ref b1), .val (.long (Int64.ofNat D)), .second, .val (.ref b54), .val (.int (Int32.ofNat i1)), .val (.int (Int32.ofNat i2)), .val (.int (Int32.ofNat (min i1 i2))), .unset, .unset, .unset]) rfl kk_) ?_
  refine Gq.go (T174.setTop (mkF m 416 #[.val (.int x0), .val (.int x1), .val (.long x2), .second, .val (.int x3), .val (.ref b1), .val (.long (Int64.ofNat D)), .second, .val (.ref b54), .val (.int (Int32.ofNat i1)), .val (.int (Int32.ofNat i2)), .val (.int (Int32.ofNat (min i1 i2))), .unset, .unset, .unset] [(.int (Int32.ofNat i1))])) (fun tt_ kk_ => XS.iload X174.here hx rfl (hb hby at_414) rfl kk_) ?_
  refine Gq.go (T174.setTop (mkF m 418 #[.val (.int x0), .val (.int x1), .val (.long x2), .second, .val (.int x3), .val (.ref b1), .val (.long (Int64.ofNat D)), .second, .val (.ref b54), .val (.int (Int32.ofNat i1)), .val (.int (Int32.ofNat i2)), .val (.int (Int32.ofNat (min i1 i2))), .unset, .unset, .unset] [(.int (Int32.ofNat i2)), (.int (Int32.ofNat i1))])) (fun tt_ kk_ => XS.iload X174.here hx rfl (hb hby at_416) rfl kk_) ?_
  obtain ⟨r175, T175, L175, X175, hQ175, st175⟩ := callT (pc := 418) (Ls := #[.val (.int x0), .val (.int x1), .val (.long x2), .second, .val (.int x3), .val (.ref b1), .val (.long (Int64.ofNat D)), .second, .val (.ref b54), .val (.int (Int32.ofNat i1)), .val (.int (Int32.ofNat i2)), .val (.int (Int32.ofNat (min i1 i2))), .unset, .unset, .unset]) X174 hx hZ hown eh174 [(.int (Int32.ofNat i1)), (.int (Int32.ofNat i2))] [] (hw _ (List.mem_of_getElem? (i := 29) rfl)) (hw _ (List.mem_of_getElem? (i := 30) rfl)) (hw _ (List.mem_of_getElem? (i := 27) rfl)) (hw _ (List.mem_of_getElem? (i := 31) rfl)) (by decide) (rm_own_max l Z a0 hw [] (Int32.ofNat i1) (Int32.ofNat i2) h169 n0 za173) pd_0 rfl (by rw [hml]; rfl) (W := 0) (Nat.le_of_eq rfl) (by decide) (by decide) (by decide) (by decide) (hb hby at_418)
  obtain ⟨rfl, N175q, eh175⟩ := hQ175
  have N175 := Fr.app N174 N175q
  refine Gq.go (T175.setTop (mkF m 421 #[.val (.int x0), .val (.int x1), .val (.long x2), .second, .val (.int x3), .val (.ref b1), .val (.long (Int64.ofNat D)), .second, .val (.ref b54), .val (.int (Int32.ofNat i1)), .val (.int (Int32.ofNat i2)), .val (.int (Int32.ofNat (min i1 i2))), .unset, .unset, .unset] [(.int (own_max (Int32.ofNat i1) (Int32.ofNat i2)))])) (fun tt_ kk_ => st175 tt_ kk_) ?_
  rw [show (own_max (Int32.ofNat i1) (Int32.ofNat i2)) = (Int32.ofNat (max i1 i2)) from own_max_eq2 (by omega) (by omega)]
  refine Gq.go (T175.setTop (mkF m 423 #[.val (.int x0), .val (.int x1), .val (.long x2), .second, .val (.int x3), .val (.ref b1), .val (.long (Int64.ofNat D)), .second, .val (.ref b54), .val (.int (Int32.ofNat i1)), .val (.int (Int32.ofNat i2)), .val (.int (Int32.ofNat (min i1 i2))), .val (.int (Int32.ofNat (max i1 i2))), .unset, .unset] [])) (fun tt_ kk_ => XS.istore X175.here hx rfl (hb hby at_421) rfl (l' := #[.val (.int x0), .val (.int x1), .val (.long x2), .second, .val (.int x3), .val (.ref b1), .val (.long (Int64.ofNat D)), .second, .val (.ref b54), .val (.int (Int32.ofNat i1)), .val (.int (Int32.ofNat i2)), .val (.int (Int32.ofNat (min i1 i2))), .val (.int (Int32.ofNat (max i1 i2))), .unset, .unset]) rfl kk_) ?_
  refine Gq.go (T175.setTop (mkF m 425 #[.val (.int x0), .val (.int x1), .val (.long x2), .second, .val (.int x3), .val (.ref b1), .val (.long (Int64.ofNat D)), .second, .val (.ref b54), .val (.int (Int32.ofNat i1)), .val (.int (Int32.ofNat i2)), .val (.int (Int32.ofNat (min i1 i2))), .val (.int (Int32.ofNat (max i1 i2))), .unset, .unset] [(.ref b54)])) (fun tt_ kk_ => XS.aload X175.here hx rfl (hb hby at_423) rfl rfl kk_) ?_
  refine Gq.go (T175.setTop (mkF m 427 #[.val (.int x0), .val (.int x1), .val (.long x2), .second, .val (.int x3), .val (.ref b1), .val (.long (Int64.ofNat D)), .second, .val (.ref b54), .val (.int (Int32.ofNat i1)), .val (.int (Int32.ofNat i2)), .val (.int (Int32.ofNat (min i1 i2))), .val (.int (Int32.ofNat (max i1 i2))), .unset, .unset] [(.ref b1), (.ref b54)])) (fun tt_ kk_ => XS.aload X175.here hx rfl (hb hby at_425) rfl rfl kk_) ?_
  refine Gq.go (T175.setTop (mkF m 429 #[.val (.int x0), .val (.int x1), .val (.long x2), .second, .val (.int x3), .val (.ref b1), .val (.long (Int64.ofNat D)), .second, .val (.ref b54), .val (.int (Int32.ofNat i1)), .val (.int (Int32.ofNat i2)), .val (.int (Int32.ofNat (min i1 i2))), .val (.int (Int32.ofNat (max i1 i2))), .unset, .unset] [(.long (Int64.ofNat D)), (.ref b1), (.ref b54)])) (fun tt_ kk_ => XS.lload X175.here hx rfl (hb hby at_427) rfl kk_) ?_
  refine Gq.go (T175.setTop (mkF m 431 #[.val (.int x0), .val (.int x1), .val (.long x2), .second, .val (.int x3), .val (.ref b1), .val (.long (Int64.ofNat D)), .second, .val (.ref b54), .val (.int (Int32.ofNat i1)), .val (.int (Int32.ofNat i2)), .val (.int (Int32.ofNat (min i1 i2))), .val (.int (Int32.ofNat (max i1 i2))), .unset, .unset] [(.int (Int32.ofNat (min i1 i2))), (.long (Int64.ofNat D)), (.ref b1), (.ref b54)])) (fun tt_ kk_ => XS.iload X175.here hx rfl (hb hby at_429) rfl kk_) ?_
  refine Gq.go (T175.setTop (mkF m 433 #[.val (.int x0), .val (.int x1), .val (.long x2), .second, .val (.int x3), .val (.ref b1), .val (.long (Int64.ofNat D)), .second, .val (.ref b54), .val (.int (Int32.ofNat i1)), .val (.int (Int32.ofNat i2)), .val (.int (Int32.ofNat (min i1 i2))), .val (.int (Int32.ofNat (max i1 i2))), .unset, .unset] [(.int (Int32.ofNat (max i1 i2))), (.int (Int32.ofNat (min i1 i2))), (.long (Int64.ofNat D)), (.ref b1), (.ref b54)])) (fun tt_ kk_ => XS.iload X175.here hx rfl (hb hby at_431) rfl kk_) ?_
  obtain ⟨r176, T176, L176, X176, hQ176, st176⟩ := callT (pc := 433) (Ls := #[.val (.int x0), .val (.int x1), .val (.long x2), .second, .val (.int x3), .val (.ref b1), .val (.long (Int64.ofNat D)), .second, .val (.ref b54), .val (.int (Int32.ofNat i1)), .val (.int (Int32.ofNat i2)), .val (.int (Int32.ofNat (min i1 i2))), .val (.int (Int32.ofNat (max i1 i2))), .unset, .unset]) X175 hx hZ hown eh175 [(.ref b54), (.ref b1), (.long (Int64.ofNat D)), (.int (Int32.ofNat (min i1 i2))), (.int (Int32.ofNat (max i1 i2)))] [] (hw _ (List.mem_of_getElem? (i := 32) rfl)) (hw _ (List.mem_of_getElem? (i := 33) rfl)) (hw _ (List.mem_of_getElem? (i := 21) rfl)) (hw _ (List.mem_of_getElem? (i := 34) rfl)) (by decide) (rm4 l Z a0 hw [] b54 b1 D (own_gg D ((x3.toInt8.toInt32).toInt8.toInt32) (((x3 >>> ((8 : Int32) &&& 31)).toInt8.toInt32).toInt8.toInt32) (((x3 >>> ((16 : Int32) &&& 31)).toInt8.toInt32).toInt8.toInt32) (((x3 >>> ((24 : Int32) &&& 31)).toInt8.toInt32).toInt8.toInt32)) (min i1 i2) (max i1 i2) h169 n0 za173 VG hbG (by omega) (by omega) fa170 hD (own_gg_d D _ _ _ _)) pd_3 rfl (by rw [hml]; rfl) (W := 0) (Nat.le_of_eq rfl) (by decide) (by decide) (by decide) (by decide) (hb hby at_433)
  obtain ⟨rfl, N176q, eh176⟩ := hQ176
  have N176 := Fr.app N175 N176q
  refine Gq.go (T176.setTop (mkF m 436 #[.val (.int x0), .val (.int x1), .val (.long x2), .second, .val (.int x3), .val (.ref b1), .val (.long (Int64.ofNat D)), .second, .val (.ref b54), .val (.int (Int32.ofNat i1)), .val (.int (Int32.ofNat i2)), .val (.int (Int32.ofNat (min i1 i2))), .val (.int (Int32.ofNat (max i1 i2))), .unset, .unset] [(.long (own_wn (own_gg D ((x3.toInt8.toInt32).toInt8.toInt32) (((x3 >>> ((8 : Int32) &&& 31)).toInt8.toInt32).toInt8.toInt32) (((x3 >>> ((16 : Int32) &&& 31)).toInt8.toInt32).toInt8.toInt32) (((x3 >>> ((24 : Int32) &&& 31)).toInt8.toInt32).toInt8.toInt32)) (min i1 i2) (max i1 i2)))])) (fun tt_ kk_ => st176 tt_ kk_) ?_
  refine Gq.go (T176.setTop (mkF m 438 #[.val (.int x0), .val (.int x1), .val (.long x2), .second, .val (.int x3), .val (.ref b1), .val (.long (Int64.ofNat D)), .second, .val (.ref b54), .val (.int (Int32.ofNat i1)), .val (.int (Int32.ofNat i2)), .val (.int (Int32.ofNat (min i1 i2))), .val (.int (Int32.ofNat (max i1 i2))), .val (.long (own_wn (own_gg D ((x3.toInt8.toInt32).toInt8.toInt32) (((x3 >>> ((8 : Int32) &&& 31)).toInt8.toInt32).toInt8.toInt32) (((x3 >>> ((16 : Int32) &&& 31)).toInt8.toInt32).toInt8.toInt32) (((x3 >>> ((24 : Int32) &&& 31)).toInt8.toInt32).toInt8.toInt32)) (min i1 i2) (max i1 i2))), .second] [])) (fun tt_ kk_ => XS.lstore X176.here hx rfl (hb hby at_436) rfl (l' := #[.val (.int x0), .val (.int x1), .val (.long x2), .second, .val (.int x3), .val (.ref b1), .val (.long (Int64.ofNat D)), .second, .val (.ref b54), .val (.int (Int32.ofNat i1)), .val (.int (Int32.ofNat i2)), .val (.int (Int32.ofNat (min i1 i2))), .val (.int (Int32.ofNat (max i1 i2))), .val (.long (own_wn (own_gg D ((x3.toInt8.toInt32).toInt8.toInt32) (((x3 >>> ((8 : Int32) &&& 31)).toInt8.toInt32).toInt8.toInt32) (((x3 >>> ((16 : Int32) &&& 31)).toInt8.toInt32).toInt8.toInt32) (((x3 >>> ((24 : Int32) &&& 31)).toInt8.toInt32).toInt8.toInt32)) (min i1 i2) (max i1 i2))), .second]) rfl kk_) ?_
  refine Gq.go (T176.setTop (mkF m 440 #[.val (.int x0), .val (.int x1), .val (.long x2), .second, .val (.int x3), .val (.ref b1), .val (.long (Int64.ofNat D)), .second, .val (.ref b54), .val (.int (Int32.ofNat i1)), .val (.int (Int32.ofNat i2)), .val (.int (Int32.ofNat (min i1 i2))), .val (.int (Int32.ofNat (max i1 i2))), .val (.long (own_wn (own_gg D ((x3.toInt8.toInt32).toInt8.toInt32) (((x3 >>> ((8 : Int32) &&& 31)).toInt8.toInt32).toInt8.toInt32) (((x3 >>> ((16 : Int32) &&& 31)).toInt8.toInt32).toInt8.toInt32) (((x3 >>> ((24 : Int32) &&& 31)).toInt8.toInt32).toInt8.toInt32)) (min i1 i2) (max i1 i2))), .second] [(.ref b54)])) (fun tt_ kk_ => XS.aload X176.here hx rfl (hb hby at_438) rfl rfl kk_) ?_
  refine Gq.go (T176.setTop (mkF m 442 #[.val (.int x0), .val (.int x1), .val (.long x2), .second, .val (.int x3), .val (.ref b1), .val (.long (Int64.ofNat D)), .second, .val (.ref b54), .val (.int (Int32.ofNat i1)), .val (.int (Int32.ofNat i2)), .val (.int (Int32.ofNat (min i1 i2))), .val (.int (Int32.ofNat (max i1 i2))), .val (.long (own_wn (own_gg D ((x3.toInt8.toInt32).toInt8.toInt32) (((x3 >>> ((8 : Int32) &&& 31)).toInt8.toInt32).toInt8.toInt32) (((x3 >>> ((16 : Int32) &&& 31)).toInt8.toInt32).toInt8.toInt32) (((x3 >>> ((24 : Int32) &&& 31)).toInt8.toInt32).toInt8.toInt32)) (min i1 i2) (max i1 i2))), .second] [(.int (Int32.ofNat (min i1 i2))), (.ref b54)])) (fun tt_ kk_ => XS.iload X176.here hx rfl (hb hby at_440) rfl kk_) ?_
  refine Gq.go (T176.setTop (mkF m 444 #[.val (.int x0), .val (.int x1), .val (.long x2), .second, .val (.int x3), .val (.ref b1), .val (.long (Int64.ofNat D)), .second, .val (.ref b54), .val (.int (Int32.ofNat i1)), .val (.int (Int32.ofNat i2)), .val (.int (Int32.ofNat (min i1 i2))), .val (.int (Int32.ofNat (max i1 i2))), .val (.long (own_wn (own_gg D ((x3.toInt8.toInt32).toInt8.toInt32) (((x3 >>> ((8 : Int32) &&& 31)).toInt8.toInt32).toInt8.toInt32) (((x3 >>> ((16 : Int32) &&& 31)).toInt8.toInt32).toInt8.toInt32) (((x3 >>> ((24 : Int32) &&& 31)).toInt8.toInt32).toInt8.toInt32)) (min i1 i2) (max i1 i2))), .second] [(.int (Int32.ofNat (max i1 i2))), (.int (Int32.ofNat (min i1 i2))), (.ref b54)])) (fun tt_ kk_ => XS.iload X176.here hx rfl (hb hby at_442) rfl kk_) ?_
  obtain ⟨r177, T177, L177, X177, hQ177, st177⟩ := callT (pc := 444) (Ls := #[.val (.int x0), .val (.int x1), .val (.long x2), .second, .val (.int x3), .val (.ref b1), .val (.long (Int64.ofNat D)), .second, .val (.ref b54), .val (.int (Int32.ofNat i1)), .val (.int (Int32.ofNat i2)), .val (.int (Int32.ofNat (min i1 i2))), .val (.int (Int32.ofNat (max i1 i2))), .val (.long (own_wn (own_gg D ((x3.toInt8.toInt32).toInt8.toInt32) (((x3 >>> ((8 : Int32) &&& 31)).toInt8.toInt32).toInt8.toInt32) (((x3 >>> ((16 : Int32) &&& 31)).toInt8.toInt32).toInt8.toInt32) (((x3 >>> ((24 : Int32) &&& 31)).toInt8.toInt32).toInt8.toInt32)) (min i1 i2) (max i1 i2))), .second]) X176 hx hZ hown eh176 [(.ref b54), (.int (Int32.ofNat (min i1 i2))), (.int (Int32.ofNat (max i1 i2)))] [] (hw _ (List.mem_of_getElem? (i := 38) rfl)) (hw _ (List.mem_of_getElem? (i := 39) rfl)) (hw _ (List.mem_of_getElem? (i := 40) rfl)) (hw _ (List.mem_of_getElem? (i := 41) rfl)) (by decide) (rm6 l Z a0 hw [] b54 (own_gg D ((x3.toInt8.toInt32).toInt8.toInt32) (((x3 >>> ((8 : Int32) &&& 31)).toInt8.toInt32).toInt8.toInt32) (((x3 >>> ((16 : Int32) &&& 31)).toInt8.toInt32).toInt8.toInt32) (((x3 >>> ((24 : Int32) &&& 31)).toInt8.toInt32).toInt8.toInt32)) (min i1 i2) (max i1 i2) h169 n0 za173 VG hbG (by omega) (by omega)) pd_4 rfl (by rw [hml]; rfl) (W := 0) (Nat.le_of_eq rfl) (by decide) (by decide) (by decide) (by decide) (hb hby at_444)
  obtain ⟨rfl, N177q, eh177⟩ := hQ177
  have N177 := Fr.app N176 N177q
  refine Gq.go (T177.setTop (mkF m 447 #[.val (.int x0), .val (.int x1), .val (.long x2), .second, .val (.int x3), .val (.ref b1), .val (.long (Int64.ofNat D)), .second, .val (.ref b54), .val (.int (Int32.ofNat i1)), .val (.int (Int32.ofNat i2)), .val (.int (Int32.ofNat (min i1 i2))), .val (.int (Int32.ofNat (max i1 i2))), .val (.long (own_wn (own_gg D ((x3.toInt8.toInt32).toInt8.toInt32) (((x3 >>> ((8 : Int32) &&& 31)).toInt8.toInt32).toInt8.toInt32) (((x3 >>> ((16 : Int32) &&& 31)).toInt8.toInt32).toInt8.toInt32) (((x3 >>> ((24 : Int32) &&& 31)).toInt8.toInt32).toInt8.toInt32)) (min i1 i2) (max i1 i2))), .second] [(.long (own_wn (own_gg D ((x3.toInt8.toInt32).toInt8.toInt32) (((x3 >>> ((8 : Int32) &&& 31)).toInt8.toInt32).toInt8.toInt32) (((x3 >>> ((16 : Int32) &&& 31)).toInt8.toInt32).toInt8.toInt32) (((x3 >>> ((24 : Int32) &&& 31)).toInt8.toInt32).toInt8.toInt32)) (min i1 i2) (max i1 i2)))])) (fun tt_ kk_ => st177 tt_ kk_) ?_
  refine Gq.go (T177.setTop (mkF m 449 #[.val (.int x0), .val (.int x1), .val (.long x2), .second, .val (.int x3), .val (.ref b1), .val (.long (Int64.ofNat D)), .second, .val (.ref b54), .val (.int (Int32.ofNat i1)), .val (.int (Int32.ofNat i2)), .val (.int (Int32.ofNat (min i1 i2))), .val (.int (Int32.ofNat (max i1 i2))), .val (.long (own_wn (own_gg D ((x3.toInt8.toInt32).toInt8.toInt32) (((x3 >>> ((8 : Int32) &&& 31)).toInt8.toInt32).toInt8.toInt32) (((x3 >>> ((16 : Int32) &&& 31)).toInt8.toInt32).toInt8.toInt32) (((x3 >>> ((24 : Int32) &&& 31)).toInt8.toInt32).toInt8.toInt32)) (min i1 i2) (max i1 i2))), .second] [(.long (own_wn (own_gg D ((x3.toInt8.toInt32).toInt8.toInt32) (((x3 >>> ((8 : Int32) &&& 31)).toInt8.toInt32).toInt8.toInt32) (((x3 >>> ((16 : Int32) &&& 31)).toInt8.toInt32).toInt8.toInt32) (((x3 >>> ((24 : Int32) &&& 31)).toInt8.toInt32).toInt8.toInt32)) (min i1 i2) (max i1 i2))), (.long (own_wn (own_gg D ((x3.toInt8.toInt32).toInt8.toInt32) (((x3 >>> ((8 : Int32) &&& 31)).toInt8.toInt32).toInt8.toInt32) (((x3 >>> ((16 : Int32) &&& 31)).toInt8.toInt32).toInt8.toInt32) (((x3 >>> ((24 : Int32) &&& 31)).toInt8.toInt32).toInt8.toInt32)) (min i1 i2) (max i1 i2)))])) (fun tt_ kk_ => XS.lload X177.here hx rfl (hb hby at_447) rfl kk_) ?_
  refine Gq.go (T177.setTop (mkF m 450 #[.val (.int x0), .val (.int x1), .val (.long x2), .second, .val (.int x3), .val (.ref b1), .val (.long (Int64.ofNat D)), .second, .val (.ref b54), .val (.int (Int32.ofNat i1)), .val (.int (Int32.ofNat i2)), .val (.int (Int32.ofNat (min i1 i2))), .val (.int (Int32.ofNat (max i1 i2))), .val (.long (own_wn (own_gg D ((x3.toInt8.toInt32).toInt8.toInt32) (((x3 >>> ((8 : Int32) &&& 31)).toInt8.toInt32).toInt8.toInt32) (((x3 >>> ((16 : Int32) &&& 31)).toInt8.toInt32).toInt8.toInt32) (((x3 >>> ((24 : Int32) &&& 31)).toInt8.toInt32).toInt8.toInt32)) (min i1 i2) (max i1 i2))), .second] [(.int (lcmpW (own_wn (own_gg D ((x3.toInt8.toInt32).toInt8.toInt32) (((x3 >>> ((8 : Int32) &&& 31)).toInt8.toInt32).toInt8.toInt32) (((x3 >>> ((16 : Int32) &&& 31)).toInt8.toInt32).toInt8.toInt32) (((x3 >>> ((24 : Int32) &&& 31)).toInt8.toInt32).toInt8.toInt32)) (min i1 i2) (max i1 i2)) (own_wn (own_gg D ((x3.toInt8.toInt32).toInt8.toInt32) (((x3 >>> ((8 : Int32) &&& 31)).toInt8.toInt32).toInt8.toInt32) (((x3 >>> ((16 : Int32) &&& 31)).toInt8.toInt32).toInt8.toInt32) (((x3 >>> ((24 : Int32) &&& 31)).toInt8.toInt32).toInt8.toInt32)) (min i1 i2) (max i1 i2))))])) (fun tt_ kk_ => XS.lcmp X177.here hx rfl (hb hby at_449) rfl kk_) ?_
  refine Gq.go (T177.setTop (mkF m 453 #[.val (.int x0), .val (.int x1), .val (.long x2), .second, .val (.int x3), .val (.ref b1), .val (.long (Int64.ofNat D)), .second, .val (.ref b54), .val (.int (Int32.ofNat i1)), .val (.int (Int32.ofNat i2)), .val (.int (Int32.ofNat (min i1 i2))), .val (.int (Int32.ofNat (max i1 i2))), .val (.long (own_wn (own_gg D ((x3.toInt8.toInt32).toInt8.toInt32) (((x3 >>> ((8 : Int32) &&& 31)).toInt8.toInt32).toInt8.toInt32) (((x3 >>> ((16 : Int32) &&& 31)).toInt8.toInt32).toInt8.toInt32) (((x3 >>> ((24 : Int32) &&& 31)).toInt8.toInt32).toInt8.toInt32)) (min i1 i2) (max i1 i2))), .second] [])) (fun tt_ kk_ => XS.ifNo X177.here hx rfl (hb hby at_450) rfl ((if0 _ _).trans (teq ((lw_eq _ _).mpr rfl)).2) kk_) ?_
  refine Gq.go (T177.setTop (mkF m 454 #[.val (.int x0), .val (.int x1), .val (.long x2), .second, .val (.int x3), .val (.ref b1), .val (.long (Int64.ofNat D)), .second, .val (.ref b54), .val (.int (Int32.ofNat i1)), .val (.int (Int32.ofNat i2)), .val (.int (Int32.ofNat (min i1 i2))), .val (.int (Int32.ofNat (max i1 i2))), .val (.long (own_wn (own_gg D ((x3.toInt8.toInt32).toInt8.toInt32) (((x3 >>> ((8 : Int32) &&& 31)).toInt8.toInt32).toInt8.toInt32) (((x3 >>> ((16 : Int32) &&& 31)).toInt8.toInt32).toInt8.toInt32) (((x3 >>> ((24 : Int32) &&& 31)).toInt8.toInt32).toInt8.toInt32)) (min i1 i2) (max i1 i2))), .second] [(.int (1 : Int32))])) (fun tt_ kk_ => XS.iconst X177.here hx rfl (hb hby at_453) kk_) ?_
  refine Gq.go (T177.setTop (mkF m 458 #[.val (.int x0), .val (.int x1), .val (.long x2), .second, .val (.int x3), .val (.ref b1), .val (.long (Int64.ofNat D)), .second, .val (.ref b54), .val (.int (Int32.ofNat i1)), .val (.int (Int32.ofNat i2)), .val (.int (Int32.ofNat (min i1 i2))), .val (.int (Int32.ofNat (max i1 i2))), .val (.long (own_wn (own_gg D ((x3.toInt8.toInt32).toInt8.toInt32) (((x3 >>> ((8 : Int32) &&& 31)).toInt8.toInt32).toInt8.toInt32) (((x3 >>> ((16 : Int32) &&& 31)).toInt8.toInt32).toInt8.toInt32) (((x3 >>> ((24 : Int32) &&& 31)).toInt8.toInt32).toInt8.toInt32)) (min i1 i2) (max i1 i2))), .second] [(.int (1 : Int32))])) (fun tt_ kk_ => XS.goto X177.here hx rfl (pc0 := 454) (pc' := 458) rfl (hb hby at_454) (by decide) (by decide) kk_) ?_
  refine Gq.retI X177 hx Bd.notSynchronized Bd.returns (by simp) (hb hby at_458) rfl (by decide) (by decide) ?_
  show Q0 Z x0 x1 x2 x3 h0 n0 _ T177.heap _
  rw [eh177]
  exact ⟨rfl, N177⟩
set_option maxRecDepth 65536 in
set_option maxHeartbeats 40000000 in
theorem comes_1 {Post : Tables → Env → Array Value → State → Outcome → State → Prop} (hpost : ∀ tb e args s v u, (limb_1_1.after args s (.returned v) u = true ∧ limb_1_2.after args s (.returned v) u = true ∧ True) → FrameEnd s (.returned v) u (Jvm.fieldLocs frame_1_writes args s ++ Jvm.arrayLocs frame_1_arrays args s ++ Jvm.staticLocs frame_1_statics s) 16 192 → Post tb e args s (.returned v) u) :
    ArmFor flags0 classFile x code maxLocals ret World_1 tables_1 room_1 Calls_1 rest_1 Pre_1 Post := by
  intro l hfl _ _ p e ha hc hk s m args below hf hA hF happ hP
  obtain ⟨hcalls, hrest, hpre⟩ := hP
  obtain ⟨-, -, -, hnamed, -, -, -, hat⟩ := (Spec.applies_iff hf).mp happ
  obtain ⟨hg, hn⟩ := and_e (Cond.before_iff.mp (show (Jvm.Cond.and given_1 narrow_1).before args s = true from hpre))
  obtain ⟨g1, g2⟩ := and_e hg
  obtain ⟨g3, g4⟩ := and_e g2
  obtain ⟨g5, g6⟩ := and_e g4
  obtain ⟨g7, g8⟩ := and_e g6
  obtain ⟨w0, w1, w2, w3, rfl⟩ : ∃ w0 w1 w2 w3 : Value, args = #[w0, w1, w2, w3] := by
    have hs : args.size = 4 := by simpa [Cond.value, given_1] using g1
    obtain ⟨L⟩ := args
    match L, hs with
    | [w0, w1, w2, w3], _ => exact ⟨w0, w1, w2, w3, rfl⟩
  have hw := fun d (hd : d ∈ tables_1) => atoms_spec (ws := Jvm.Cond.code x code maxLocals ret :: tables_1) hat d (List.mem_cons_of_mem _ hd)
  obtain ⟨i0, ei0⟩ := is_v g3
  obtain rfl : w0 = (.int i0) := Option.some.inj ei0
  obtain ⟨i1, ei1⟩ := is_v g5
  obtain rfl : w1 = (.int i1) := Option.some.inj ei1
  obtain ⟨i2, ei2⟩ := isL_v g7
  obtain rfl : w2 = (.long i2) := Option.some.inj ei2
  obtain ⟨i3, ei3⟩ := is_v g8
  obtain rfl : w3 = (.int i3) := Option.some.inj ei3
  obtain ⟨n, o, h1, h2, h3, _, L, rfl, ⟨rfl, N⟩, hq⟩ := rm0 l s _ hw tables_1 i0 i1 i2 i3 s.heap s.heap.size (Nat.le_refl _)  p e ha hc hk s m _ below hf ((Spec.applies_iff_loose hf).mp happ).1 ⟨rfl, State.Warmed39.refl s, rfl⟩ trivial
  refine ⟨n, _, h1, h2, h3, hpost _ _ _ _ _ _ ⟨Cond.after_iff.mpr rfl, Cond.after_iff.mpr (eq_i res_at (Term.int_eval (1)) rfl), trivial⟩ ⟨hq.1, hq.2.1, (hq.2.2.sift fun y hy => Or.inr (N y hy)).mono (by decide) (by decide)⟩⟩
theorem main_1_1 : Claimed_1_1 := comes_1 fun _ _ _ _ _ _ h hF => ⟨h.1, hF⟩
theorem main_1_2 : Claimed_1_2 := comes_1 fun _ _ _ _ _ _ h hF => ⟨h.2.1, hF⟩
end Jvm.Pilot.@@N@@
namespace Jvm.Pilot.@@N@@
open Jvm Jvm.ClassFile Sem Op Lib Jvm.Free Jvm.Stand Jvm.Pilot.@@N@@.Jvm.D
/-! MADE BY PROGRAM (witnessworld.py) out of the Statement's table words and the real class files: 12 classes; the members and pool entries that the words name. The judged class is class 1, her method 1. -/
namespace start1
open Jvm.ClassFile
def u (s : String) : CpInfo := .utf8 (stringToUtf16 s)
/-- a pool by its gaps: so many unusable entries, then the entry; so many at the end -/
def gap : Nat → List CpInfo → List CpInfo
  | 0, r => r
  | n + 1, r => .unusable :: gap n r
def poolList (es : List (Nat × CpInfo)) (last : Nat) : List CpInfo := es.foldr (fun e r => gap e.1 (e.2 :: r)) (gap last [])
def pool (es : List (Nat × CpInfo)) (last : Nat) : Array CpInfo := ⟨poolList es last⟩
def fileOf (pool : Array CpInfo) (this : Nat) (attrs : Array Attribute := #[]) (ms : Array MethodInfo := #[]) (fl : Nat := 33) (sup : Nat := 0) (ifs : Array Nat := #[]) (fds : Array FieldInfo := #[]) : ClassFile where
  minorVersion := 0
  majorVersion := 65
  constantPool := pool
  accessFlags := fl
  thisClass := this
  superClass := sup
  interfaces := ifs
  fields := fds
  methods := ms
  attributes := attrs
def plain (name : String) (sup : Option ClassId) : Class where
  name := name
  kind := .ordinary
  loader := none
  accessFlags := 33
  super := sup
  interfaces := #[]
  cf := none
  fields := #[]
  methods := #[]
  instanceTypes := #[]
  staticTypes := #[]
  resolved := #[]
  callSites := []
  init := .initialized
  statics := none
  mirror := none

def pool0 : Array CpInfo := pool [(5, u "<init>"), (0, u "()V"), (1, .class_ 10), (1, u "java/lang/Object")] 113

def k0m0 : Method := { name := "<init>", desc := "()V", sig := { parameters := [], returnType := none }, accessFlags := 1, code := none }
/-- java/lang/Object -/
def k0 : Class := { plain "java/lang/Object" none with
  accessFlags := 33
  interfaces := #[]
  cf := some (fileOf pool0 8 #[] #[{ accessFlags := 1, nameIndex := 5, descriptorIndex := 6, attributes := #[] }] 33 0 #[] #[])
  fields := #[]
  methods := #[k0m0]
  instanceTypes := #[]
  staticTypes := #[]
  resolved := Array.replicate 124 none
  statics := none }

def pool1 : Array CpInfo := pool [(2, .class_ 4), (1, u "java/lang/Object"), (0, u "<init>"), (0, u "()V"), (0, .long 10), (1, .long 100), (1, .long 1000), (1, .long 10000), (1, .long 100000), (1, .long 1000000), (1, .long 10000000), (1, .long 100000000), (1, .long 1000000000), (1, .long 10000000000), (1, .long 100000000000), (1, .long 1000000000000), (1, .long 10000000000000), (1, .long 100000000000000), (1, .long 1000000000000000), (1, .long 10000000000000000), (3, .long 9223372036854775807), (1, .methodref 44 45), (0, .class_ 46), (0, .nameAndType 47 48), (0, u "com/example/clearwright/clearwright/io/NumberTextWholeNumberPinLaw"), (0, u "digit"), (0, u "(J[JI)B"), (0, .integer 2147483647), (0, .methodref 51 52), (0, .class_ 53), (0, .nameAndType 54 55), (0, u "java/lang/Math"), (0, u "min"), (0, u "(II)I"), (0, .methodref 51 57), (0, .nameAndType 58 55), (0, u "max"), (0, .methodref 44 60), (0, .nameAndType 61 62), (0, u "expected"), (0, u "([B[JJII)J"), (0, .methodref 64 65), (0, .class_ 66), (0, .nameAndType 67 68), (0, u "com/example/clearwright/clearwright/io/NumberText"), (0, u "wholeNumber"), (0, u "([BII)J"), (0, .long 48), (1, .long 18446744073709551615), (1, .methodref 44 74), (0, .nameAndType 75 76), (0, u "step"), (0, u "([BIIIJ)J"), (2, u "law"), (0, u "(IIJI)Z")] 7

def k1m0 : Method := { name := "<init>", desc := "()V", sig := { parameters := [], returnType := none }, accessFlags := 2, code := none }
def k1c1 : Code := { maxStack := 6, maxLocals := 15, code := code, exceptionTable := #[], attributes := #[] }
def k1m1 : Method := { name := "law", desc := "(IIJI)Z", sig := { parameters := [.int, .int, .long, .int], returnType := some .boolean }, accessFlags := 9, code := some k1c1 }
def k1c2 : Code := { maxStack := 7, maxLocals := 4, code := method_3_code, exceptionTable := #[], attributes := #[] }
def k1m2 : Method := { name := "digit", desc := "(J[JI)B", sig := { parameters := [.long, (.array .long), .int], returnType := some .byte }, accessFlags := 10, code := some k1c2 }
def k1c3 : Code := { maxStack := 6, maxLocals := 9, code := method_4_code, exceptionTable := #[], attributes := #[] }
def k1m3 : Method := { name := "expected", desc := "([B[JJII)J", sig := { parameters := [(.array .byte), (.array .long), .long, .int, .int], returnType := some .long }, accessFlags := 10, code := some k1c3 }
def k1c4 : Code := { maxStack := 4, maxLocals := 7, code := method_5_code, exceptionTable := #[], attributes := #[] }
def k1m4 : Method := { name := "step", desc := "([BIIIJ)J", sig := { parameters := [(.array .byte), .int, .int, .int, .long], returnType := some .long }, accessFlags := 10, code := some k1c4 }
/-- com/example/clearwright/clearwright/io/NumberTextWholeNumberPinLaw -/
def k1 : Class := { plain "com/example/clearwright/clearwright/io/NumberTextWholeNumberPinLaw" (some 0) with
  accessFlags := 49
  interfaces := #[]
  cf := some (fileOf pool1 44 #[] #[{ accessFlags := 2, nameIndex := 5, descriptorIndex := 6, attributes := #[] }, { accessFlags := 9, nameIndex := 79, descriptorIndex := 80, attributes := #[] }, { accessFlags := 10, nameIndex := 47, descriptorIndex := 48, attributes := #[] }, { accessFlags := 10, nameIndex := 61, descriptorIndex := 62, attributes := #[] }, { accessFlags := 10, nameIndex := 75, descriptorIndex := 76, attributes := #[] }] 49 2 #[] #[])
  fields := #[]
  methods := #[k1m0, k1m1, k1m2, k1m3, k1m4]
  instanceTypes := #[]
  staticTypes := #[]
  resolved := Array.replicate 88 none
  statics := none }

def pool2 : Array CpInfo := pool [(1, .class_ 2), (0, u "java/lang/Math"), (1, .class_ 6), (1, u "java/lang/Object"), (0, u "<init>"), (0, u "()V"), (89, .class_ 100), (1, u "java/lang/Math$RandomNumberGeneratorHolder"), (71, u "negativeZeroFloatBits"), (0, u "J"), (2, u "negativeZeroDoubleBits"), (21, u "max"), (2, u "min"), (43, u "$assertionsDisabled"), (0, u "Z"), (88, u "(II)I"), (2, u "twoToTheDoubleScaleDown"), (0, u "D"), (4, u "twoToTheDoubleScaleUp"), (9, u "E"), (3, u "PI"), (2, u "TAU"), (2, u "DEGREES_TO_RADIANS"), (0, u "RADIANS_TO_DEGREES")] 94

def k2m0 : Method := { name := "<init>", desc := "()V", sig := { parameters := [], returnType := none }, accessFlags := 2, code := none }
def k2c1 : Code := { maxStack := 2, maxLocals := 2, code := jdk_29_method_65_code, exceptionTable := #[], attributes := #[] }
def k2m1 : Method := { name := "max", desc := "(II)I", sig := { parameters := [.int, .int], returnType := some .int }, accessFlags := 9, code := some k2c1 }
def k2c2 : Code := { maxStack := 2, maxLocals := 2, code := jdk_29_method_69_code, exceptionTable := #[], attributes := #[] }
def k2m2 : Method := { name := "min", desc := "(II)I", sig := { parameters := [.int, .int], returnType := some .int }, accessFlags := 9, code := some k2c2 }
/-- java/lang/Math -/
def k2 : Class := { plain "java/lang/Math" (some 0) with
  accessFlags := 49
  interfaces := #[]
  cf := some (fileOf pool2 1 #[.nestMembers #[98]] #[{ accessFlags := 2, nameIndex := 7, descriptorIndex := 8, attributes := #[] }, { accessFlags := 9, nameIndex := 198, descriptorIndex := 335, attributes := #[] }, { accessFlags := 9, nameIndex := 201, descriptorIndex := 335, attributes := #[] }] 49 4 #[] #[{ accessFlags := 25, nameIndex := 354, descriptorIndex := 339, attributes := #[] }, { accessFlags := 25, nameIndex := 358, descriptorIndex := 339, attributes := #[] }, { accessFlags := 25, nameIndex := 361, descriptorIndex := 339, attributes := #[] }, { accessFlags := 26, nameIndex := 364, descriptorIndex := 339, attributes := #[] }, { accessFlags := 26, nameIndex := 365, descriptorIndex := 339, attributes := #[] }, { accessFlags := 26, nameIndex := 172, descriptorIndex := 173, attributes := #[] }, { accessFlags := 26, nameIndex := 176, descriptorIndex := 173, attributes := #[] }, { accessFlags := 8, nameIndex := 344, descriptorIndex := 339, attributes := #[] }, { accessFlags := 8, nameIndex := 338, descriptorIndex := 339, attributes := #[] }, { accessFlags := 4120, nameIndex := 245, descriptorIndex := 246, attributes := #[] }])
  fields := #[{ name := "E", type := .double, accessFlags := 25, slot := 0, constantValue := 0 }, { name := "PI", type := .double, accessFlags := 25, slot := 1, constantValue := 0 }, { name := "TAU", type := .double, accessFlags := 25, slot := 2, constantValue := 0 }, { name := "DEGREES_TO_RADIANS", type := .double, accessFlags := 26, slot := 3, constantValue := 0 }, { name := "RADIANS_TO_DEGREES", type := .double, accessFlags := 26, slot := 4, constantValue := 0 }, { name := "negativeZeroFloatBits", type := .long, accessFlags := 26, slot := 5, constantValue := 0 }, { name := "negativeZeroDoubleBits", type := .long, accessFlags := 26, slot := 6, constantValue := 0 }, { name := "twoToTheDoubleScaleUp", type := .double, accessFlags := 8, slot := 7, constantValue := 0 }, { name := "twoToTheDoubleScaleDown", type := .double, accessFlags := 8, slot := 8, constantValue := 0 }, { name := "$assertionsDisabled", type := .boolean, accessFlags := 4120, slot := 9, constantValue := 0 }]
  methods := #[k2m0, k2m1, k2m2]
  instanceTypes := #[]
  staticTypes := #[.double, .double, .double, .double, .double, .long, .long, .double, .double, .boolean]
  resolved := Array.replicate 460 none
  statics := none }

def pool3 : Array CpInfo := pool [(2, .class_ 4), (1, u "java/lang/Object"), (0, u "<init>"), (0, u "()V"), (1, .class_ 10), (1, u "com/example/clearwright/clearwright/io/NumberText"), (4, u "wholeNumber"), (0, u "([BII)J"), (0, .long 18446744073709551615), (1, .long 10), (64, u "MAX_DIGITS"), (0, u "I")] 16

def k3m0 : Method := { name := "<init>", desc := "()V", sig := { parameters := [], returnType := none }, accessFlags := 2, code := none }
def k3c1 : Code := { maxStack := 4, maxLocals := 7, code := prog_25_method_3_code, exceptionTable := #[], attributes := #[] }
def k3m1 : Method := { name := "wholeNumber", desc := "([BII)J", sig := { parameters := [(.array .byte), .int, .int], returnType := some .long }, accessFlags := 8, code := some k3c1 }
/-- com/example/clearwright/clearwright/io/NumberText -/
def k3 : Class := { plain "com/example/clearwright/clearwright/io/NumberText" (some 0) with
  accessFlags := 48
  interfaces := #[]
  cf := some (fileOf pool3 8 #[] #[{ accessFlags := 2, nameIndex := 5, descriptorIndex := 6, attributes := #[] }, { accessFlags := 8, nameIndex := 15, descriptorIndex := 16, attributes := #[] }] 48 2 #[] #[{ accessFlags := 26, nameIndex := 84, descriptorIndex := 85, attributes := #[] }])
  fields := #[{ name := "MAX_DIGITS", type := .int, accessFlags := 26, slot := 0, constantValue := 0 }]
  methods := #[k3m0, k3m1]
  instanceTypes := #[]
  staticTypes := #[.int]
  resolved := Array.replicate 102 none
  statics := none }

def pool4 : Array CpInfo := pool [(1, u "java/lang/Cloneable"), (0, .class_ 1), (0, u "java/lang/Object"), (0, .class_ 3)] 3

/-- java/lang/Cloneable -/
def k4 : Class := { plain "java/lang/Cloneable" (some 0) with
  accessFlags := 1537
  interfaces := #[]
  cf := some (fileOf pool4 2 #[] #[] 1537 4 #[] #[])
  fields := #[]
  methods := #[]
  instanceTypes := #[]
  staticTypes := #[]
  resolved := Array.replicate 8 none
  statics := none }

def pool5 : Array CpInfo := pool [(1, u "java/io/Serializable"), (0, .class_ 1), (0, u "java/lang/Object"), (0, .class_ 3)] 3

/-- java/io/Serializable -/
def k5 : Class := { plain "java/io/Serializable" (some 0) with
  accessFlags := 1537
  interfaces := #[]
  cf := some (fileOf pool5 2 #[] #[] 1537 4 #[] #[])
  fields := #[]
  methods := #[]
  instanceTypes := #[]
  staticTypes := #[]
  resolved := Array.replicate 8 none
  statics := none }

/-- the primitive byte -/
def k6 : Class := { plain "byte" none with kind := .primitive 'B', accessFlags := 0x411 }
/-- [B -/
def k7 : Class := { plain "[B" (some 0) with kind := .array 6 .byte, interfaces := #[4, 5], accessFlags := 1041 }

/-- the primitive int -/
def k8 : Class := { plain "int" none with kind := .primitive 'I', accessFlags := 0x411 }
/-- [I -/
def k9 : Class := { plain "[I" (some 0) with kind := .array 8 .int, interfaces := #[4, 5], accessFlags := 1041 }

/-- the primitive long -/
def k10 : Class := { plain "long" none with kind := .primitive 'J', accessFlags := 0x411 }
/-- [J -/
def k11 : Class := { plain "[J" (some 0) with kind := .array 10 .long, interfaces := #[4, 5], accessFlags := 1041 }

def heap : Heap := #[]
def classes : Array Class := #[k0, k1, k2, k3, k4, k5, k6, k7, k8, k9, k10, k11]
def interned : List (Array UInt16 × Addr) := []
def slotsUsed : Nat := 0
def theMethod : MethodId := ⟨1, 1⟩
def args0 : Array Value := #[.int 1, .int 2, .long 3, .int 4]
def aboutOver (below : List Frame) : State where
  vm := { classes := classes, interned := interned.toArray }
  heap := heap
  slotsUsed := slotsUsed
  threads := #[{ frames := .invoking theMethod args0 :: below }]
def below0 : List Frame := [.native { method := ⟨0, 0⟩, args := #[] }]
def about1 : State := aboutOver below0
def p0 : Program := .bare "" "" ""
def e0 : Env := launch0.env 0 0 0
theorem w_frames : about1.frames = Frame.invoking theMethod args0 :: below0 := rfl
set_option maxRecDepth 65536 in
theorem w_args : argsFit about1.vm theMethod args0 = true := by decide +kernel
set_option maxRecDepth 65536 in
theorem w_heap : heapFits about1 = true := by decide +kernel
set_option maxRecDepth 65536 in
theorem w_runnable : about1.curStatus? = some .runnable := by decide +kernel
set_option maxRecDepth 65536 in
theorem w_alone : about1.alone = true := by decide +kernel
set_option maxRecDepth 65536 in
theorem w_named : about1.methodNamed? x = some theMethod := by decide +kernel
set_option maxRecDepth 65536 in
theorem w_hears : about1.hears theMethod below0 = true := by decide +kernel
set_option maxRecDepth 65536 in
theorem w_ripe : about1.ripe theMethod args0 below0 = true := by decide +kernel
theorem w_running : about1.status = .running := rfl
set_option maxRecDepth 65536 in
theorem w_room : about1.hasRoom e0.platform room_1 = true :=
  launch0.hasRoom_least _ room_1 (by decide +kernel) (by decide +kernel) (by decide +kernel) (by decide +kernel) (by decide +kernel) (by decide +kernel)
theorem allAtoms_all (ts : List Jvm.Cond) (a : Array Jvm.Value) (st : Jvm.State) : (allAtoms ts).before a st = ts.all (fun c => c.before a st) := by
  induction ts with
  | nil => rfl
  | cons c t ih =>
    show (Jvm.Cond.and c (allAtoms t)).before a st = _
    rw [Jvm.Cond.before_and, ih, List.all_cons]
def words1 : List Jvm.Cond := Jvm.Cond.code x code maxLocals ret :: tables_1
/-- a 'code' word, met by the world's own term for the bytes: nothing is compared byte by byte -/
theorem code_word {y : MethodName} {bytes : ByteArray} {mx : Nat} {rt : Option FieldType} {a : Array Value} {s : State} {m : MethodId} {meth : Method} {c : Code} (h1 : s.methodNamed? y = some m) (h2 : s.vm.method? m = some meth) (h3 : meth.code = some c) (h4 : c.code = bytes)
    (h5 : (c.maxLocals == mx && c.exceptionTable.isEmpty && decide (c.maxStack ≤ mostOperands) && decide (meth.sig.returnType = rt) && !meth.locks && decide (parseMethodDescriptor y.desc = some meth.sig)) = true) : (Jvm.Cond.code y bytes mx rt).before a s = true := by
  simp only [Bool.and_eq_true, beq_iff_eq, Bool.not_eq_true', decide_eq_true_eq] at h5
  obtain ⟨⟨⟨⟨⟨g1, g2⟩, g3⟩, g4⟩, g5⟩, g6⟩ := h5
  simp [Cond.before, Cond.holds, Cond.value, h1, h2, h3, h4, g1, g2, g3, g4, g5, g6]
def isCode : Jvm.Cond → Bool
  | .code _ _ _ _ => true
  | _ => false
theorem all_split {L : List Jvm.Cond} {P : Jvm.Cond → Bool} (h1 : L.all (fun c => isCode c || P c) = true) (h2 : ∀ c ∈ L.filter isCode, P c = true) : L.all P = true := by
  refine List.all_eq_true.mpr fun c hc => ?_
  have h := List.all_eq_true.mp h1 c hc
  rcases Bool.eq_false_or_eq_true (isCode c) with hi | hi
  · exact h2 c (List.mem_filter.mpr ⟨hc, hi⟩)
  · simpa [hi] using h
set_option maxRecDepth 65536 in
theorem w_c0 : (Jvm.Cond.code x code maxLocals ret).before args0 about1 = true := code_word (m := ⟨1, 1⟩) (meth := k1m1) (c := k1c1) (by decide +kernel) rfl rfl rfl (by decide +kernel)
set_option maxRecDepth 65536 in
theorem w_c1 : (Jvm.Cond.code ({ cls := "com/example/clearwright/clearwright/io/NumberTextWholeNumberPinLaw", name := "digit", desc := "(J[JI)B" } : Jvm.MethodName) method_3_code (4 : Nat) (Option.some Jvm.ClassFile.FieldType.byte)).before args0 about1 = true := code_word (m := ⟨1, 2⟩) (meth := k1m2) (c := k1c2) (by decide +kernel) rfl rfl rfl (by decide +kernel)
set_option maxRecDepth 65536 in
theorem w_c2 : (Jvm.Cond.code ({ cls := "java/lang/Math", name := "min", desc := "(II)I" } : Jvm.MethodName) jdk_29_method_69_code (2 : Nat) (Option.some Jvm.ClassFile.FieldType.int)).before args0 about1 = true := code_word (m := ⟨2, 2⟩) (meth := k2m2) (c := k2c2) (by decide +kernel) rfl rfl rfl (by decide +kernel)
set_option maxRecDepth 65536 in
theorem w_c3 : (Jvm.Cond.code ({ cls := "java/lang/Math", name := "max", desc := "(II)I" } : Jvm.MethodName) jdk_29_method_65_code (2 : Nat) (Option.some Jvm.ClassFile.FieldType.int)).before args0 about1 = true := code_word (m := ⟨2, 1⟩) (meth := k2m1) (c := k2c1) (by decide +kernel) rfl rfl rfl (by decide +kernel)
set_option maxRecDepth 65536 in
theorem w_c4 : (Jvm.Cond.code ({ cls := "com/example/clearwright/clearwright/io/NumberTextWholeNumberPinLaw", name := "expected", desc := "([B[JJII)J" } : Jvm.MethodName) method_4_code (9 : Nat) (Option.some Jvm.ClassFile.FieldType.long)).before args0 about1 = true := code_word (m := ⟨1, 3⟩) (meth := k1m3) (c := k1c3) (by decide +kernel) rfl rfl rfl (by decide +kernel)
set_option maxRecDepth 65536 in
theorem w_c5 : (Jvm.Cond.code ({ cls := "com/example/clearwright/clearwright/io/NumberTextWholeNumberPinLaw", name := "step", desc := "([BIIIJ)J" } : Jvm.MethodName) method_5_code (7 : Nat) (Option.some Jvm.ClassFile.FieldType.long)).before args0 about1 = true := code_word (m := ⟨1, 4⟩) (meth := k1m4) (c := k1c4) (by decide +kernel) rfl rfl rfl (by decide +kernel)
set_option maxRecDepth 65536 in
theorem w_c6 : (Jvm.Cond.code ({ cls := "com/example/clearwright/clearwright/io/NumberText", name := "wholeNumber", desc := "([BII)J" } : Jvm.MethodName) prog_25_method_3_code (7 : Nat) (Option.some Jvm.ClassFile.FieldType.long)).before args0 about1 = true := code_word (m := ⟨3, 1⟩) (meth := k3m1) (c := k3c1) (by decide +kernel) rfl rfl rfl (by decide +kernel)
def codes1 : List Jvm.Cond := [Jvm.Cond.code x code maxLocals ret, Jvm.Cond.code ({ cls := "com/example/clearwright/clearwright/io/NumberTextWholeNumberPinLaw", name := "digit", desc := "(J[JI)B" } : Jvm.MethodName) method_3_code (4 : Nat) (Option.some Jvm.ClassFile.FieldType.byte), Jvm.Cond.code ({ cls := "java/lang/Math", name := "min", desc := "(II)I" } : Jvm.MethodName) jdk_29_method_69_code (2 : Nat) (Option.some Jvm.ClassFile.FieldType.int), Jvm.Cond.code ({ cls := "java/lang/Math", name := "max", desc := "(II)I" } : Jvm.MethodName) jdk_29_method_65_code (2 : Nat) (Option.some Jvm.ClassFile.FieldType.int), Jvm.Cond.code ({ cls := "com/example/clearwright/clearwright/io/NumberTextWholeNumberPinLaw", name := "expected", desc := "([B[JJII)J" } : Jvm.MethodName) method_4_code (9 : Nat) (Option.some Jvm.ClassFile.FieldType.long), Jvm.Cond.code ({ cls := "com/example/clearwright/clearwright/io/NumberTextWholeNumberPinLaw", name := "step", desc := "([BIIIJ)J" } : Jvm.MethodName) method_5_code (7 : Nat) (Option.some Jvm.ClassFile.FieldType.long), Jvm.Cond.code ({ cls := "com/example/clearwright/clearwright/io/NumberText", name := "wholeNumber", desc := "([BII)J" } : Jvm.MethodName) prog_25_method_3_code (7 : Nat) (Option.some Jvm.ClassFile.FieldType.long)]
set_option maxRecDepth 65536 in
theorem codes_eq : words1.filter isCode = codes1 := rfl
theorem w_codes : ∀ c ∈ words1.filter isCode, c.before args0 about1 = true := by
  rw [codes_eq]
  intro c hc
  simp only [codes1, List.mem_cons, List.not_mem_nil, or_false] at hc
  rcases hc with rfl | rfl | rfl | rfl | rfl | rfl | rfl
  · exact w_c0
  · exact w_c1
  · exact w_c2
  · exact w_c3
  · exact w_c4
  · exact w_c5
  · exact w_c6
set_option maxRecDepth 65536 in
theorem w_t1 : (words1.take 24).all (fun c => isCode c || c.before args0 about1) = true := by decide +kernel
set_option maxRecDepth 65536 in
theorem w_t2 : (words1.drop 24).all (fun c => isCode c || c.before args0 about1) = true := by decide +kernel
theorem w_tables : (allAtoms (Jvm.Cond.code x code maxLocals ret :: tables_1)).before args0 about1 = true := by
  rw [allAtoms_all]
  show words1.all (fun c => c.before args0 about1) = true
  refine all_split ?_ w_codes
  rw [← List.take_append_drop 24 words1, List.all_append, w_t1, w_t2]
  rfl
set_option maxRecDepth 65536 in
theorem w_case : (Jvm.Cond.and given_1 narrow_1).before args0 about1 = true := by decide +kernel
theorem w_applies : (headSpec (Jvm.Cond.code x code maxLocals ret :: tables_1) room_1).applies x e0.platform about1 = true :=
  (Spec.applies_iff w_frames).mpr ⟨w_running, w_runnable, w_alone, w_named, w_hears, w_ripe, w_room, w_tables⟩
theorem atStart : AtStart classFile x code maxLocals ret World_1 tables_1 room_1 Calls_1 rest_1 Pre_1 launch0 p0 e0 about1 theMethod args0 below0 :=
  ⟨lists_1, trivial, launch0.admits_env _ _ _, launch0.least_env, fairChoices_fair.cas, fairChoices_fair.clock, w_frames, w_args, w_heap, w_applies, trivial, trivial, w_case⟩
end start1
theorem witness_1 : WitnessClaimed_1 := ⟨start1.p0, start1.e0, start1.about1, start1.theMethod, start1.args0, start1.below0, start1.atStart⟩
end Jvm.Pilot.@@N@@
