import JvmDerived
import JvmDerived.Pilot.@@N@@Statement
import JvmDerived.Pilot.@@N@@Code
set_option linter.unusedVariables false
set_option linter.unusedSimpArgs false
namespace Jvm.Pilot.@@N@@
open Jvm Jvm.ClassFile Sem Op Lib Jvm.Free Jvm.Stand Jvm.LawKit Jvm.RoadKit Bundle Jvm.Pilot.@@N@@.Jvm.D
section Own
variable {p : Program} {l : Launch} {e : Env} {R : Room} {s : State} {m : MethodId} {args : Array Value} {below : List Frame} {meth : Method} {c : Code} {T : State} {locs : List Loc} {cells slots : Nat} {Z : State} {h h' : Heap}
def Run (p : Program) (e : Env) (below : List Frame) (s : State) (C N : Nat) (Q : Option Value → Heap → List Loc → Prop) (S : State) : Prop :=
  ∃ s₂ o, Steps p.tables e below S s₂ ∧ s₂.status = .running ∧ Ended s₂ below o ∧ ∃ v L, o = .returned v ∧ Q v s₂.heap L ∧ FrameEnd s o s₂ L C N
variable {C N : Nat} {Q : Option Value → Heap → List Loc → Prop} {S S' : State}
theorem Run.go (k : ∀ t, Steps p.tables e below S' t → Steps p.tables e below S t) (r : Run p e below s C N Q S') : Run p e below s C N Q S := by
  obtain ⟨s₂, o, h1, r⟩ := r
  exact ⟨s₂, o, k _ h1, r⟩
theorem Run.tr (k : Steps p.tables e below S S') (r : Run p e below s C N Q S') : Run p e below s C N Q S := by
  obtain ⟨s₂, o, h1, r⟩ := r
  exact ⟨s₂, o, k.trans h1, r⟩
theorem Run.retI (X : Stand p l e R s m args below meth c T locs cells slots) (hx : p.tables.exec = Jvm.exec) {pc : Nat} {Ls : Array Slot} {z : Int32} {rest : List Value} (hret : meth.sig.returnType = some .int) (hlk : meth.locks = false) (hd : decode c.code pc = .ok (.ireturn, 1)) (hc : cells ≤ C) (hn : slots ≤ N)
    (hQ : Q (some (.int z)) T.heap locs) : Run p e below s C N Q (T.setTop (mkF m pc Ls (.int z :: rest))) := by
  obtain ⟨fs, hr, hrun, hended, hW, hsame⟩ := X.leave (v := some (.int z)) (fun q => by rw [hret] at q; cases q)
  refine ⟨_, _, ?_, hrun, hended, _, _, rfl, hQ, ⟨_, rfl⟩, hW, hsame.mono hc hn⟩
  have hm' : T.vm.method? m = some meth := X.method'
  have hn : narrow .int (.int z) = .int z := rfl
  show Steps p.tables e below (T.setTop { method := m, pc := pc, locals := Ls, stack := _ :: rest, locked := none }) _
  jvm_step X.here [X.here.top, hx, hd, hm', hret, hn]
  first | (intro acts; rw [hr _ acts rfl rfl rfl]) | rw [hr _ _ rfl rfl rfl]
  exact Steps.refl _
theorem Run.retN (X : Stand p l e R s m args below meth c T locs cells slots) (hx : p.tables.exec = Jvm.exec) {pc : Nat} {Ls : Array Slot} {z y : Int32} {t : FieldType} {rest : List Value} (hret : meth.sig.returnType = some t) (ht : t = .boolean ∨ t = .byte ∨ t = .char ∨ t = .short) (hy : nar t z = y) (hlk : meth.locks = false) (hd : decode c.code pc = .ok (.ireturn, 1)) (hc : cells ≤ C) (hn : slots ≤ N)
    (hQ : Q (some (.int y)) T.heap locs) : Run p e below s C N Q (T.setTop (mkF m pc Ls (.int z :: rest))) := by
  subst hy
  obtain ⟨fs, hr, hrun, hended, hW, hsame⟩ := X.leave (v := some (.int (nar t z))) (fun q => by rw [hret] at q; cases q)
  exact ⟨_, _, Jvm.RoadKit.retN X hx hret ht hd hr, hrun, hended, _, _, rfl, hQ, ⟨_, rfl⟩, hW, hsame.mono hc hn⟩
theorem Run.retJ (X : Stand p l e R s m args below meth c T locs cells slots) (hx : p.tables.exec = Jvm.exec) {pc : Nat} {Ls : Array Slot} {z : Int64} {rest : List Value} (hret : meth.sig.returnType = some .long) (hlk : meth.locks = false) (hd : decode c.code pc = .ok (.lreturn, 1)) (hc : cells ≤ C) (hn : slots ≤ N)
    (hQ : Q (some (.long z)) T.heap locs) : Run p e below s C N Q (T.setTop (mkF m pc Ls (.long z :: rest))) := by
  obtain ⟨fs, hr, hrun, hended, hW, hsame⟩ := X.leave (v := some (.long z)) (fun q => by rw [hret] at q; cases q)
  refine ⟨_, _, ?_, hrun, hended, _, _, rfl, hQ, ⟨_, rfl⟩, hW, hsame.mono hc hn⟩
  have hm' : T.vm.method? m = some meth := X.method'
  show Steps p.tables e below (T.setTop { method := m, pc := pc, locals := Ls, stack := _ :: rest, locked := none }) _
  jvm_step X.here [X.here.top, hx, hd, hm', hret, narrow]
  first | (intro acts; rw [hr _ acts rfl rfl rfl]) | rw [hr _ _ rfl rfl rfl]
  exact Steps.refl _
theorem Run.retA (X : Stand p l e R s m args below meth c T locs cells slots) (hx : p.tables.exec = Jvm.exec) {pc : Nat} {Ls : Array Slot} {w : Value} {t : FieldType} {rest : List Value} (hw : w.isRef = true) (hret : meth.sig.returnType = some t) (ht : t.isReference = true) (hlk : meth.locks = false) (hd : decode c.code pc = .ok (.areturn, 1)) (hc : cells ≤ C) (hn : slots ≤ N)
    (hQ : Q (some w) T.heap locs) : Run p e below s C N Q (T.setTop (mkF m pc Ls (w :: rest))) := by
  obtain ⟨fs, hr, hrun, hended, hW, hsame⟩ := X.leave (v := some w) (fun q => by rw [hret] at q; cases q)
  refine ⟨_, _, ?_, hrun, hended, _, _, rfl, hQ, ⟨_, rfl⟩, hW, hsame.mono hc hn⟩
  have hm' : T.vm.method? m = some meth := X.method'
  show Steps p.tables e below (T.setTop { method := m, pc := pc, locals := Ls, stack := _ :: rest, locked := none }) _
  rcases ref_cases hw with rfl | ⟨a, rfl⟩
  all_goals
    jvm_step X.here [X.here.top, hx, hd, hm', hret, Value.isRef, ht]
    first | (intro acts; rw [hr _ acts rfl rfl rfl]) | rw [hr _ _ rfl rfl rfl]
    exact Steps.refl _
theorem Run.ret0 (X : Stand p l e R s m args below meth c T locs cells slots) (hx : p.tables.exec = Jvm.exec) {pc : Nat} {Ls : Array Slot} (hret : meth.sig.returnType = none) (hlk : meth.locks = false) (hd : decode c.code pc = .ok (.return_, 1)) (hc : cells ≤ C) (hn : slots ≤ N)
    (hQ : Q none T.heap locs) : Run p e below s C N Q (T.setTop (mkF m pc Ls [])) := by
  obtain ⟨fs, hr, hrun, hended, hW, hsame⟩ := X.leave (v := none) (fun _ => rfl)
  exact ⟨_, _, X.returnOut hx hret hd hr, hrun, hended, _, _, rfl, hQ, ⟨_, rfl⟩, hW, hsame.mono hc hn⟩
theorem Stand_gen {k : Nat} (X : Stand p l e R s m args below meth c T locs cells slots) (F : Fr k locs) : ∃ L, Stand p l e R s m args below meth c T L cells slots ∧ Fr k L := ⟨_, X, F⟩
theorem Sta.keep {C n d : String} {w : Value} {ws : List Addr} (F : Sta Z h C n d w) (K : Keep h h' ws) (q : ∀ x ∈ ws, ∀ c : Cell, h[x]? = some c → c.vm.isStatics = false) : Sta Z h' C n d w := by
  obtain ⟨cf, i, k, f, st, cell, h1, h2, h3, h4, h5, h6, h7⟩ := F
  refine ⟨cf, i, k, f, st, cell, h1, h2, h3, h4, K.2.1 st cell h5 (fun hm => ?_), h6, h7⟩
  rw [q st hm cell h5] at h6; cases h6
theorem Exa.nst {a : Addr} {C : String} (F : Exa Z h a C) : ∀ c : Cell, h[a]? = some c → c.vm.isStatics = false := fun c q => by
  obtain ⟨cell, k, h1, -, -, h4, -⟩ := F
  cases h1.symm.trans q; exact h4
/-- an array of n elements, the i-th is f i -/
def Ary (Z : State) (h : Heap) (a : Addr) (ty : FieldType) (n : Nat) (f : Nat → Value) : Prop := ∃ c : Cell, Arr Z h a c ty ∧ c.slots.size = n ∧ ∀ i, i < n → c.slots[i]? = some (f i)
variable {a b : Addr} {ty : FieldType} {n sl : Nat} {f : Nat → Value} {v : Value} {ws : List Addr}
theorem Ary.lt (F : Ary Z h a ty n f) : a < h.size := by obtain ⟨c, A, -⟩ := F; exact A.lt
theorem Ary.ext (F : Ary Z h a ty n f) (E : Ext h h') : Ary Z h' a ty n f := by obtain ⟨c, A, r⟩ := F; exact ⟨c, A.ext E, r⟩
theorem Ary.other (F : Ary Z h b ty n f) (W : Wr h h' a sl v) (q : b ≠ a) : Ary Z h' b ty n f := by obtain ⟨c, A, r⟩ := F; exact ⟨c, A.other W q, r⟩
theorem Ary.keep (F : Ary Z h a ty n f) (K : Keep h h' ws) (q : a ∉ ws) : Ary Z h' a ty n f := by obtain ⟨c, A, r⟩ := F; exact ⟨c, ⟨K.2.1 a c A.1 q, A.2⟩, r⟩
theorem Ary.ne {C : String} {a0 : Array Value} {k : Nat} (F : Ary Z h a ty n f) (G : Exa Z h b C) (wi : (Jvm.Cond.instantiable C k).before a0 Z = true) : a ≠ b := by
  obtain ⟨c, A, r⟩ := F; exact (ne_arr G wi A).symm
theorem Ary.same (F : Ary Z h a ty n f) (W : Wr h h' a sl v) : Ary Z h' a ty n (fun i => if i = sl then v else f i) := by
  obtain ⟨c, A, hs, hf⟩ := F
  obtain ⟨c1, q1, q2, q3, q4⟩ := W
  obtain rfl := Option.some.inj (q1.symm.trans A.1)
  refine ⟨c1.setSlot sl v, A.same ⟨c1, q1, q2, q3, q4⟩, by simp [Cell.setSlot, hs], fun i hi => ?_⟩
  by_cases e : i = sl
  · subst e; simp [Cell.setSlot, q3]
  · simp only [if_neg e]; rw [← hf i hi]; exact Array.getElem?_setIfInBounds_ne (Ne.symm e)
theorem Ary.nst (F : Ary Z h a ty n f) : ∀ c : Cell, h[a]? = some c → c.vm.isStatics = false := fun c q => by
  obtain ⟨cl, A, -⟩ := F
  cases A.1.symm.trans q; exact A.plain
theorem Ary.congr {g : Nat → Value} (F : Ary Z h a ty n f) (q : ∀ i, i < n → f i = g i) : Ary Z h a ty n g := by
  obtain ⟨c, A, hs, hf⟩ := F; exact ⟨c, A, hs, fun i hi => by rw [hf i hi, q i hi]⟩
theorem Ary.new {k : ClassId} {z : Int32} (A : Arr Z h a (newA k ty z) ty) (q : z.toNatClampNeg = n) : Ary Z h a ty n (fun _ => defaultValue ty) := by
  subst q
  exact ⟨_, A, sz_new _ _ _, fun i hi => by simp [newA, hi]⟩
theorem out_of {j : Int32} {c : Cell} (hs : c.slots.size = n) (h0 : ¬ j < 0) (hj : j.toNatClampNeg < n) : ¬ (j < 0 ∨ c.slots.size ≤ j.toNatClampNeg) := by
  rw [hs]; exact fun q => q.elim h0 (fun q => absurd hj (Nat.not_lt.mpr q))
/-- an array of references: besides, its class is that of arrays over C -/
def ArR (Z : State) (h : Heap) (a : Addr) (C : String) (n : Nat) (f : Nat → Value) : Prop := ∃ c : Cell, Arr Z h a c (.object C) ∧ Ovr Z c.cls C ∧ c.slots.size = n ∧ ∀ i, i < n → c.slots[i]? = some (f i)
variable {K : String}
theorem ArR.lt (F : ArR Z h a K n f) : a < h.size := by obtain ⟨c, A, -⟩ := F; exact A.lt
theorem ArR.ext (F : ArR Z h a K n f) (E : Ext h h') : ArR Z h' a K n f := by obtain ⟨c, A, r⟩ := F; exact ⟨c, A.ext E, r⟩
theorem ArR.other (F : ArR Z h b K n f) (W : Wr h h' a sl v) (q : b ≠ a) : ArR Z h' b K n f := by obtain ⟨c, A, r⟩ := F; exact ⟨c, A.other W q, r⟩
theorem ArR.keep (F : ArR Z h a K n f) (k : Keep h h' ws) (q : a ∉ ws) : ArR Z h' a K n f := by obtain ⟨c, A, r⟩ := F; exact ⟨c, ⟨k.2.1 a c A.1 q, A.2⟩, r⟩
theorem ArR.ary (F : ArR Z h a K n f) : Ary Z h a (.object K) n f := by obtain ⟨c, A, -, r⟩ := F; exact ⟨c, A, r⟩
theorem ArR.same (F : ArR Z h a K n f) (W : Wr h h' a sl v) : ArR Z h' a K n (fun i => if i = sl then v else f i) := by
  obtain ⟨c, A, o, hs, hf⟩ := F
  obtain ⟨c1, q1, q2, q3, q4⟩ := W
  obtain rfl := Option.some.inj (q1.symm.trans A.1)
  refine ⟨c1.setSlot sl v, A.same ⟨c1, q1, q2, q3, q4⟩, o, by simp [Cell.setSlot, hs], fun i hi => ?_⟩
  by_cases e : i = sl
  · subst e; simp [Cell.setSlot, q3]
  · simp only [if_neg e]; rw [← hf i hi]; exact Array.getElem?_setIfInBounds_ne (Ne.symm e)
theorem ArR.new {k : ClassId} {z : Int32} (A : Arr Z h a (newA k (.object K) z) (.object K)) (O : Ovr Z k K) (q : z.toNatClampNeg = n) : ArR Z h a K n (fun _ => .null) := by
  subst q
  exact ⟨_, A, O, sz_new _ _ _, fun i hi => by simp [newA, hi]; rfl⟩
section Arrays
theorem ary_iget (X : Stand p l e R s m args below meth c T locs cells slots) (hx : p.tables.exec = Jvm.exec) (hZ : Z.Warmed39 s.vm) (eT : T.heap = h) (A : Ary Z h a .int n f) {j : Int32} (h0 : ¬ j < 0) (hj : j.toNatClampNeg < n) {g : JFrame} (hg : g.method = m) {rest : List Value} (hs : g.stack = .int j :: .ref a :: rest) (hd : decode c.code g.pc = .ok (.iaload, 1)) {v : Value} (hv : f j.toNatClampNeg = v) (target : State)
    (k : Steps p.tables e below (T.setTop { g with pc := g.pc + 1, stack := v :: rest }) target) : Steps p.tables e below (T.setTop g) target := by
  subst hv; obtain ⟨cl, A, q, F⟩ := A
  exact X.iaload hx (by rw [eT]; exact A.1) (State.isArrayOf_alike hZ.alike A.2.1) A.2.2 (out_of q h0 hj) (F _ hj) hg hs hd target k
theorem ary_lget (X : Stand p l e R s m args below meth c T locs cells slots) (hx : p.tables.exec = Jvm.exec) (hZ : Z.Warmed39 s.vm) (eT : T.heap = h) (A : Ary Z h a .long n f) {j : Int32} (h0 : ¬ j < 0) (hj : j.toNatClampNeg < n) {g : JFrame} (hg : g.method = m) {rest : List Value} (hs : g.stack = .int j :: .ref a :: rest) (hd : decode c.code g.pc = .ok (.laload, 1)) {v : Value} (hv : f j.toNatClampNeg = v) (target : State)
    (k : Steps p.tables e below (T.setTop { g with pc := g.pc + 1, stack := v :: rest }) target) : Steps p.tables e below (T.setTop g) target := by
  subst hv; obtain ⟨cl, A, q, F⟩ := A
  exact X.laload hx (by rw [eT]; exact A.1) (State.isArrayOf_alike hZ.alike A.2.1) A.2.2 (out_of q h0 hj) (F _ hj) hg hs hd target k
theorem ary_bget (X : Stand p l e R s m args below meth c T locs cells slots) (hx : p.tables.exec = Jvm.exec) (hZ : Z.Warmed39 s.vm) (eT : T.heap = h) (A : Ary Z h a .byte n f) {j : Int32} (h0 : ¬ j < 0) (hj : j.toNatClampNeg < n) {g : JFrame} (hg : g.method = m) {rest : List Value} (hs : g.stack = .int j :: .ref a :: rest) (hd : decode c.code g.pc = .ok (.baload, 1)) {v : Value} (hv : f j.toNatClampNeg = v) (target : State)
    (k : Steps p.tables e below (T.setTop { g with pc := g.pc + 1, stack := v :: rest }) target) : Steps p.tables e below (T.setTop g) target := by
  subst hv; obtain ⟨cl, A, q, F⟩ := A
  exact X.baloadBytes hx (by rw [eT]; exact A.1) (State.isArrayOf_alike hZ.alike A.2.1) A.2.2 (out_of q h0 hj) (F _ hj) hg hs hd target k
theorem ary_cget (X : Stand p l e R s m args below meth c T locs cells slots) (hx : p.tables.exec = Jvm.exec) (hZ : Z.Warmed39 s.vm) (eT : T.heap = h) (A : Ary Z h a .char n f) {j : Int32} (h0 : ¬ j < 0) (hj : j.toNatClampNeg < n) {g : JFrame} (hg : g.method = m) {rest : List Value} (hs : g.stack = .int j :: .ref a :: rest) (hd : decode c.code g.pc = .ok (.caload, 1)) {v : Value} (hv : f j.toNatClampNeg = v) (target : State)
    (k : Steps p.tables e below (T.setTop { g with pc := g.pc + 1, stack := v :: rest }) target) : Steps p.tables e below (T.setTop g) target := by
  subst hv; obtain ⟨cl, A, q, F⟩ := A
  exact X.caload hx (by rw [eT]; exact A.1) (State.isArrayOf_alike hZ.alike A.2.1) A.2.2 (out_of q h0 hj) (F _ hj) hg hs hd target k
theorem ary_aget (X : Stand p l e R s m args below meth c T locs cells slots) (hx : p.tables.exec = Jvm.exec) (hZ : Z.Warmed39 s.vm) (eT : T.heap = h) (A : Ary Z h a ty n f) (hr : ty.isReference = true) {j : Int32} (h0 : ¬ j < 0) (hj : j.toNatClampNeg < n) {g : JFrame} (hg : g.method = m) {rest : List Value} (hs : g.stack = .int j :: .ref a :: rest) (hd : decode c.code g.pc = .ok (.aaload, 1)) {v : Value} (hv : f j.toNatClampNeg = v) (target : State)
    (k : Steps p.tables e below (T.setTop { g with pc := g.pc + 1, stack := v :: rest }) target) : Steps p.tables e below (T.setTop g) target := by
  subst hv; obtain ⟨cl, A, q, F⟩ := A
  exact X.aaload hx (by rw [eT]; exact A.1) (State.isArrayOf_alike hZ.alike A.2.1) hr A.2.2 (out_of q h0 hj) (F _ hj) hg hs hd target k
theorem ary_len (X : Stand p l e R s m args below meth c T locs cells slots) (hx : p.tables.exec = Jvm.exec) (hZ : Z.Warmed39 s.vm) (eT : T.heap = h) (A : Ary Z h a ty n f) {g : JFrame} (hg : g.method = m) {rest : List Value} (hs : g.stack = .ref a :: rest) (hd : decode c.code g.pc = .ok (.arraylength, 1)) {z : Int32} (hv : n.toInt32 = z) (target : State)
    (k : Steps p.tables e below (T.setTop { g with pc := g.pc + 1, stack := .int z :: rest }) target) : Steps p.tables e below (T.setTop g) target := by
  subst hv; obtain ⟨cl, A, q, F⟩ := A
  subst q
  exact X.arraylength hx (by rw [eT]; exact A.1) (State.isArrayOf_alike hZ.alike A.2.1) hg hs hd target k
theorem ary_iset (X : Stand p l e R s m args below meth c T locs cells slots) (hx : p.tables.exec = Jvm.exec) (hZ : Z.Warmed39 s.vm) (eT : T.heap = h) (A : Ary Z h a .int n f) {j x : Int32} (h0 : ¬ j < 0) (hj : j.toNatClampNeg < n) {g : JFrame} (hg : g.method = m) {rest : List Value} (hs : g.stack = .int x :: .int j :: .ref a :: rest) (hd : decode c.code g.pc = .ok (.iastore, 1)) :
    ∃ T' h', Stand p l e R s m args below meth c T' (locs ++ [⟨a, j.toNatClampNeg⟩]) cells slots ∧ T'.heap = h' ∧ Wr h h' a j.toNatClampNeg (.int x) ∧ ∀ target, Steps p.tables e below (T'.setTop { g with pc := g.pc + 1, stack := rest }) target → Steps p.tables e below (T.setTop g) target := by
  obtain ⟨cl, A, q, F⟩ := A
  exact stI X hx hZ eT A (out_of q h0 hj) hg hs hd
theorem ary_lset (X : Stand p l e R s m args below meth c T locs cells slots) (hx : p.tables.exec = Jvm.exec) (hZ : Z.Warmed39 s.vm) (eT : T.heap = h) (A : Ary Z h a .long n f) {j : Int32} {x : Int64} (h0 : ¬ j < 0) (hj : j.toNatClampNeg < n) {g : JFrame} (hg : g.method = m) {rest : List Value} (hs : g.stack = .long x :: .int j :: .ref a :: rest) (hd : decode c.code g.pc = .ok (.lastore, 1)) :
    ∃ T' h', Stand p l e R s m args below meth c T' (locs ++ [⟨a, j.toNatClampNeg⟩]) cells slots ∧ T'.heap = h' ∧ Wr h h' a j.toNatClampNeg (.long x) ∧ ∀ target, Steps p.tables e below (T'.setTop { g with pc := g.pc + 1, stack := rest }) target → Steps p.tables e below (T.setTop g) target := by
  obtain ⟨cl, A, q, F⟩ := A
  exact stJ X hx hZ eT A (out_of q h0 hj) hg hs hd
theorem ary_bset (X : Stand p l e R s m args below meth c T locs cells slots) (hx : p.tables.exec = Jvm.exec) (hZ : Z.Warmed39 s.vm) (eT : T.heap = h) (A : Ary Z h a .byte n f) {j x y : Int32} (h0 : ¬ j < 0) (hj : j.toNatClampNeg < n) {g : JFrame} (hg : g.method = m) {rest : List Value} (hs : g.stack = .int x :: .int j :: .ref a :: rest) (hd : decode c.code g.pc = .ok (.bastore, 1)) (hy : x.toInt8.toInt32 = y) :
    ∃ T' h', Stand p l e R s m args below meth c T' (locs ++ [⟨a, j.toNatClampNeg⟩]) cells slots ∧ T'.heap = h' ∧ Wr h h' a j.toNatClampNeg (.int y) ∧ ∀ target, Steps p.tables e below (T'.setTop { g with pc := g.pc + 1, stack := rest }) target → Steps p.tables e below (T.setTop g) target := by
  subst hy; obtain ⟨cl, A, q, F⟩ := A
  exact stB X hx hZ eT A (out_of q h0 hj) hg hs hd
theorem ary_cset (X : Stand p l e R s m args below meth c T locs cells slots) (hx : p.tables.exec = Jvm.exec) (hZ : Z.Warmed39 s.vm) (eT : T.heap = h) (A : Ary Z h a .char n f) {j x y : Int32} (h0 : ¬ j < 0) (hj : j.toNatClampNeg < n) {g : JFrame} (hg : g.method = m) {rest : List Value} (hs : g.stack = .int x :: .int j :: .ref a :: rest) (hd : decode c.code g.pc = .ok (.castore, 1)) (hy : nar .char x = y) :
    ∃ T' h', Stand p l e R s m args below meth c T' (locs ++ [⟨a, j.toNatClampNeg⟩]) cells slots ∧ T'.heap = h' ∧ Wr h h' a j.toNatClampNeg (.int y) ∧ ∀ target, Steps p.tables e below (T'.setTop { g with pc := g.pc + 1, stack := rest }) target → Steps p.tables e below (T.setTop g) target := by
  subst hy; obtain ⟨cl, A, q, F⟩ := A
  exact stC X hx hZ eT A (out_of q h0 hj) hg hs hd
theorem arr_set (X : Stand p l e R s m args below meth c T locs cells slots) (hx : p.tables.exec = Jvm.exec) (hZ : Z.Warmed39 s.vm) (eT : T.heap = h) (A : ArR Z h a K n f) {j : Int32} {y : Addr} (I : Ins Z h y K true) (h0 : ¬ j < 0) (hj : j.toNatClampNeg < n) {g : JFrame} (hg : g.method = m) {rest : List Value} (hs : g.stack = .ref y :: .int j :: .ref a :: rest) (hd : decode c.code g.pc = .ok (.aastore, 1)) :
    ∃ T' h', Stand p l e R s m args below meth c T' (locs ++ [⟨a, j.toNatClampNeg⟩]) cells slots ∧ T'.heap = h' ∧ Wr h h' a j.toNatClampNeg (.ref y) ∧ ∀ target, Steps p.tables e below (T'.setTop { g with pc := g.pc + 1, stack := rest }) target → Steps p.tables e below (T.setTop g) target := by
  obtain ⟨cl, A, O, q, F⟩ := A
  exact stR X hx hZ eT A (out_of q h0 hj) rfl (Sto.of A O I) hg hs hd
end Arrays
theorem nar_ite (P : Prop) [Decidable P] : nar .boolean (if P then (1 : Int32) else 0) = if P then 1 else 0 := by by_cases q : P <;> simp [q] <;> rfl
theorem upd_hit {g f : Nat → Value} {k : Nat} {w : Value} (q : g = fun i => if i = k then w else f i) : g k = w := by rw [q]; exact if_pos rfl
theorem upd_miss {g f : Nat → Value} {k j : Nat} {w u : Value} (q : g = fun i => if i = k then w else f i) (ne : ¬ j = k) (r : f j = u) : g j = u := by rw [q]; exact (if_neg ne).trans r
theorem upd_c {g : Nat → Value} {j : Nat} {w : Value} (q : g = fun _ => w) : g j = w := by rw [q]
theorem b_idem (x : Int32) : x.toInt8.toInt32.toInt8.toInt32 = x.toInt8.toInt32 := by rw [Int8.toInt8_toInt32]
theorem isI_c (x : Int32) : ∀ n : Nat, ∃ y, (fun _ => Value.int x) n = Value.int y := fun _ => ⟨x, rfl⟩
theorem isI_s {f : Nat → Value} (q : ∀ n, ∃ y, f n = Value.int y) (k : Nat) (x : Int32) : ∀ n, ∃ y, (fun i => if i = k then Value.int x else f i) n = Value.int y := fun n => by
  by_cases e : n = k
  · exact ⟨x, if_pos e⟩
  · obtain ⟨y, hy⟩ := q n
    exact ⟨y, (if_neg e).trans hy⟩
end Own
theorem d1_0 : decode jdk_29_method_65_code 0 = .ok (.iload_n 0, 1) := by decide +kernel
theorem d1_1 : decode jdk_29_method_65_code 1 = .ok (.iload_n 1, 1) := by decide +kernel
theorem d1_2 : decode jdk_29_method_65_code 2 = .ok (.if_icmp .lt 7, 3) := by decide +kernel
theorem d1_9 : decode jdk_29_method_65_code 9 = .ok (.iload_n 1, 1) := by decide +kernel
theorem d1_5 : decode jdk_29_method_65_code 5 = .ok (.iload_n 0, 1) := by decide +kernel
theorem d1_6 : decode jdk_29_method_65_code 6 = .ok (.goto 4, 3) := by decide +kernel
theorem d1_10 : decode jdk_29_method_65_code 10 = .ok (.ireturn, 1) := by decide +kernel
def F_rm1 (p1 : Int32) (p2 : Int32) : Int32 := let w4 : Int32 := (if (p1 < p2) then p2 else p1); w4
def Q_rm1 (Z : State) (p1 : Int32) (p2 : Int32) (h0 : Heap) (n0 : Nat) (v : Option Value) (h : Heap) (L : List Loc) : Prop := v = some (.int (F_rm1 p1 p2)) ∧ Fr n0 L ∧ h = h0
theorem ef_rm1 (m : MethodId) (x0 : Int32) (x1 : Int32) : entryFrame m #[(.int x0), (.int x1)] 2 = mkF m 0 #[.val (.int x0), .val (.int x1)] [] := by first | (simp [entryFrame, mkF, argsToLocals, Value.category]; done) | rfl
set_option maxRecDepth 65536 in
set_option maxHeartbeats 40000000 in
theorem rm1 (l : Launch) (Z : State) (a0 : Array Value) (hw : ∀ d ∈ tables_1, d.before a0 Z = true) (ws : List Jvm.Cond) (p1 : Int32) (p2 : Int32) (h0 : Heap) (n0 : Nat) (Z0 : n0 ≤ h0.size)  :
    MetFree l (⟨"java/lang/Math", "max", "(II)I"⟩ : MethodName) (head1 (Jvm.Cond.code (⟨"java/lang/Math", "max", "(II)I"⟩ : MethodName) jdk_29_method_65_code 2 (some .int) :: ws) ({ frames := 0, cells := 0, slots := 0, locals := 0 } : Room)) (fun a U => a = #[(.int p1), (.int p2)] ∧ Z.Warmed39 U.vm ∧ U.heap = h0) (fun _ _ _ _ _ => True) (fun _ U o U' => ∃ v L, o = .returned v ∧ Q_rm1 Z p1 p2 h0 n0 v U'.heap L ∧ FrameEnd U o U' L ({ frames := 0, cells := 0, slots := 0, locals := 0 } : Room).cells ({ frames := 0, cells := 0, slots := 0, locals := 0 } : Room).slots) := by
  refine MetFree.of_bodySF (Jvm.Free.JP.mathPlain rfl (by decide +kernel)) hisR ?_
  intro p e s m args below meth c s₁ Bd hml0 hP hK
  obtain ⟨rfl, hZ, hh⟩ := hP
  have hx := Bd.exec
  have hby := Bd.bytes
  have hml : c.maxLocals = 2 := hml0
  have hown : s.vm.findClass "java/lang/Math" = some m.cls := findClass_of_methodNamed Bd.named
  have hnm := (name_of_methodNamed Bd.named Bd.method).1
  have X0 : Stand p l e ({ frames := 0, cells := 0, slots := 0, locals := 0 } : Room) s m #[(.int p1), (.int p2)] below meth c s₁ [] 0 0 := Stand.of_body Bd
  have e0 : s₁.heap = h0 := by rw [← hh, Bd.state]; rfl
  have N0 := Fr.nil n0
  show Run p e below s 0 0 (Q_rm1 Z p1 p2 h0 n0) (s₁.setTop (entryFrame m #[(.int p1), (.int p2)] 2))
  refine Run.go (fun _ k => castTop (ef_rm1 m p1 p2) k) ?_
  show Run p e below s 0 0 (Q_rm1 Z p1 p2 h0 n0) (s₁.setTop (mkF m 0 #[.val (.int p1), .val (.int p2)] []))
  refine Run.go (fun _ k => XS.iloadN X0.here hx rfl (hb hby d1_0) rfl  k) ?_
  show Run p e below s 0 0 (Q_rm1 Z p1 p2 h0 n0) (s₁.setTop (mkF m 1 #[.val (.int p1), .val (.int p2)] [(.int p1)]))
  refine Run.go (fun _ k => XS.iloadN X0.here hx rfl (hb hby d1_1) rfl  k) ?_
  show Run p e below s 0 0 (Q_rm1 Z p1 p2 h0 n0) (s₁.setTop (mkF m 2 #[.val (.int p1), .val (.int p2)] [(.int p2), (.int p1)]))
  have J3 : ∀ (w4 : Int32) (hw4 : w4 = (if (p1 < p2) then p2 else p1)) (T5 : State) (L5 : List Loc) (X5 : Stand p l e ({ frames := 0, cells := 0, slots := 0, locals := 0 } : Room) s m #[(.int p1), (.int p2)] below meth c T5 L5 0 0) (e5 : T5.heap = h0) (N5 : Fr n0 L5), Run p e below s 0 0 (Q_rm1 Z p1 p2 h0 n0) (T5.setTop (mkF m 10 #[.val (.int p1), .val (.int p2)] [(.int w4)])) := by
    intro w4 hw4 T5 L5 X5 e5 N5
    show Run p e below s 0 0 (Q_rm1 Z p1 p2 h0 n0) (T5.setTop (mkF m 10 #[.val (.int p1), .val (.int p2)] [(.int w4)]))
    refine Run.retI X5 hx Bd.returns Bd.notSynchronized (hb hby d1_10) (by decide) (by decide) ?_
    show Q_rm1 Z p1 p2 h0 n0 _ T5.heap _
    exact ⟨congrArg some (congrArg Value.int (show w4 = (F_rm1 p1 p2) from (by subst hw4; unfold F_rm1; rfl))), N5, e5⟩
  by_cases hc6 : (p1 < p2)
  · refine Run.go (fun _ k => XS.icmpYes X0.here hx rfl (pc0 := 2) (pc' := 9) rfl (hb hby d1_2) rfl (tlt hc6).1 (by decide) (by decide) k) ?_
    show Run p e below s 0 0 (Q_rm1 Z p1 p2 h0 n0) (s₁.setTop (mkF m 9 #[.val (.int p1), .val (.int p2)] []))
    refine Run.go (fun _ k => XS.iloadN X0.here hx rfl (hb hby d1_9) rfl  k) ?_
    show Run p e below s 0 0 (Q_rm1 Z p1 p2 h0 n0) (s₁.setTop (mkF m 10 #[.val (.int p1), .val (.int p2)] [(.int p2)]))
    exact J3 _ (by rw [if_pos hc6]) _ _ X0 e0 N0
  · refine Run.go (fun _ k => XS.icmpNo X0.here hx rfl (hb hby d1_2) rfl (flt hc6).1 k) ?_
    show Run p e below s 0 0 (Q_rm1 Z p1 p2 h0 n0) (s₁.setTop (mkF m 5 #[.val (.int p1), .val (.int p2)] []))
    refine Run.go (fun _ k => XS.iloadN X0.here hx rfl (hb hby d1_5) rfl  k) ?_
    show Run p e below s 0 0 (Q_rm1 Z p1 p2 h0 n0) (s₁.setTop (mkF m 6 #[.val (.int p1), .val (.int p2)] [(.int p1)]))
    refine Run.go (fun _ k => XS.goto X0.here hx rfl (pc0 := 6) (pc' := 10) rfl (hb hby d1_6) (by decide) (by decide) k) ?_
    show Run p e below s 0 0 (Q_rm1 Z p1 p2 h0 n0) (s₁.setTop (mkF m 10 #[.val (.int p1), .val (.int p2)] [(.int p1)]))
    exact J3 _ (by rw [if_neg hc6]) _ _ X0 e0 N0
theorem d2_0 : decode method_2_code 0 = .ok (.aload_n 0, 1) := by decide +kernel
theorem d2_1 : decode method_2_code 1 = .ok (.iload_n 1, 1) := by decide +kernel
theorem d2_2 : decode method_2_code 2 = .ok (.iload_n 2, 1) := by decide +kernel
theorem d2_3 : decode method_2_code 3 = .ok (.bipush 24, 2) := by decide +kernel
theorem d2_5 : decode method_2_code 5 = .ok (.iushr, 1) := by decide +kernel
theorem d2_6 : decode method_2_code 6 = .ok (.i2b, 1) := by decide +kernel
theorem d2_7 : decode method_2_code 7 = .ok (.bastore, 1) := by decide +kernel
theorem d2_8 : decode method_2_code 8 = .ok (.aload_n 0, 1) := by decide +kernel
theorem d2_9 : decode method_2_code 9 = .ok (.iload_n 1, 1) := by decide +kernel
theorem d2_10 : decode method_2_code 10 = .ok (.iconst 1, 1) := by decide +kernel
theorem d2_11 : decode method_2_code 11 = .ok (.iadd, 1) := by decide +kernel
theorem d2_12 : decode method_2_code 12 = .ok (.iload_n 2, 1) := by decide +kernel
theorem d2_13 : decode method_2_code 13 = .ok (.bipush 16, 2) := by decide +kernel
theorem d2_15 : decode method_2_code 15 = .ok (.iushr, 1) := by decide +kernel
theorem d2_16 : decode method_2_code 16 = .ok (.i2b, 1) := by decide +kernel
theorem d2_17 : decode method_2_code 17 = .ok (.bastore, 1) := by decide +kernel
theorem d2_18 : decode method_2_code 18 = .ok (.aload_n 0, 1) := by decide +kernel
theorem d2_19 : decode method_2_code 19 = .ok (.iload_n 1, 1) := by decide +kernel
theorem d2_20 : decode method_2_code 20 = .ok (.iconst 2, 1) := by decide +kernel
theorem d2_21 : decode method_2_code 21 = .ok (.iadd, 1) := by decide +kernel
theorem d2_22 : decode method_2_code 22 = .ok (.iload_n 2, 1) := by decide +kernel
theorem d2_23 : decode method_2_code 23 = .ok (.bipush 8, 2) := by decide +kernel
theorem d2_25 : decode method_2_code 25 = .ok (.iushr, 1) := by decide +kernel
theorem d2_26 : decode method_2_code 26 = .ok (.i2b, 1) := by decide +kernel
theorem d2_27 : decode method_2_code 27 = .ok (.bastore, 1) := by decide +kernel
theorem d2_28 : decode method_2_code 28 = .ok (.aload_n 0, 1) := by decide +kernel
theorem d2_29 : decode method_2_code 29 = .ok (.iload_n 1, 1) := by decide +kernel
theorem d2_30 : decode method_2_code 30 = .ok (.iconst 3, 1) := by decide +kernel
theorem d2_31 : decode method_2_code 31 = .ok (.iadd, 1) := by decide +kernel
theorem d2_32 : decode method_2_code 32 = .ok (.iload_n 2, 1) := by decide +kernel
theorem d2_33 : decode method_2_code 33 = .ok (.i2b, 1) := by decide +kernel
theorem d2_34 : decode method_2_code 34 = .ok (.bastore, 1) := by decide +kernel
theorem d2_35 : decode method_2_code 35 = .ok (.return_, 1) := by decide +kernel
def Q_rm2_4 (Z : State) (a1 : Addr) (p2 : Int32) (f_a1 : Nat → Value) (h0 : Heap) (n0 : Nat) (v : Option Value) (h : Heap) (L : List Loc) : Prop := v = none ∧ Fr n0 L ∧ Keep h0 h [a1] ∧ Ary Z h a1 .byte 20 (fun i => if i = 7 then (.int (p2.toInt8.toInt32)) else (fun i => if i = 6 then (.int (((p2.toUInt32 >>> ((8 : Int32) &&& 31).toUInt32).toInt32).toInt8.toInt32)) else (fun i => if i = 5 then (.int (((p2.toUInt32 >>> ((16 : Int32) &&& 31).toUInt32).toInt32).toInt8.toInt32)) else (fun i => if i = 4 then (.int (((p2.toUInt32 >>> ((24 : Int32) &&& 31).toUInt32).toInt32).toInt8.toInt32)) else f_a1 i) i) i) i)
theorem ef_rm2_4 (m : MethodId) (x0 : Addr) (x2 : Int32) : entryFrame m #[(.ref x0), (.int (4 : Int32)), (.int x2)] 3 = mkF m 0 #[.val (.ref x0), .val (.int (4 : Int32)), .val (.int x2)] [] := by first | (simp [entryFrame, mkF, argsToLocals, Value.category]; done) | rfl
theorem pn_0 : plainName "com/example/comera/comera/diameter/DiameterMessageLengthPinLaw" = true := by first | (simp [plainName, overriddenIn]; done) | decide +kernel
set_option maxRecDepth 65536 in
set_option maxHeartbeats 40000000 in
theorem rm2_4 (l : Launch) (Z : State) (a0 : Array Value) (hw : ∀ d ∈ tables_1, d.before a0 Z = true) (ws : List Jvm.Cond) (a1 : Addr) (p2 : Int32) (f_a1 : Nat → Value) (h0 : Heap) (n0 : Nat) (Z0 : n0 ≤ h0.size) (A_a1 : Ary Z h0 a1 .byte 20 f_a1) (g_a1 : n0 ≤ a1) :
    MetFree l (⟨"com/example/comera/comera/diameter/DiameterMessageLengthPinLaw", "put", "([BII)V"⟩ : MethodName) (head1 (Jvm.Cond.code (⟨"com/example/comera/comera/diameter/DiameterMessageLengthPinLaw", "put", "([BII)V"⟩ : MethodName) method_2_code 3 none :: ws) ({ frames := 0, cells := 0, slots := 0, locals := 0 } : Room)) (fun a U => a = #[(.ref a1), (.int (4 : Int32)), (.int p2)] ∧ Z.Warmed39 U.vm ∧ U.heap = h0) (fun _ _ _ _ _ => True) (fun _ U o U' => ∃ v L, o = .returned v ∧ Q_rm2_4 Z a1 p2 f_a1 h0 n0 v U'.heap L ∧ FrameEnd U o U' L ({ frames := 0, cells := 0, slots := 0, locals := 0 } : Room).cells ({ frames := 0, cells := 0, slots := 0, locals := 0 } : Room).slots) := by
  refine MetFree.of_bodySF (plainFor_of_name pn_0) hisR ?_
  intro p e s m args below meth c s₁ Bd hml0 hP hK
  obtain ⟨rfl, hZ, hh⟩ := hP
  have hx := Bd.exec
  have hby := Bd.bytes
  have hml : c.maxLocals = 3 := hml0
  have hown : s.vm.findClass "com/example/comera/comera/diameter/DiameterMessageLengthPinLaw" = some m.cls := findClass_of_methodNamed Bd.named
  have hnm := (name_of_methodNamed Bd.named Bd.method).1
  have X0 : Stand p l e ({ frames := 0, cells := 0, slots := 0, locals := 0 } : Room) s m #[(.ref a1), (.int (4 : Int32)), (.int p2)] below meth c s₁ [] 0 0 := Stand.of_body Bd
  have e0 : s₁.heap = h0 := by rw [← hh, Bd.state]; rfl
  have N0 := Fr.nil n0
  show Run p e below s 0 0 (Q_rm2_4 Z a1 p2 f_a1 h0 n0) (s₁.setTop (entryFrame m #[(.ref a1), (.int (4 : Int32)), (.int p2)] 3))
  refine Run.go (fun _ k => castTop (ef_rm2_4 m a1 p2) k) ?_
  show Run p e below s 0 0 (Q_rm2_4 Z a1 p2 f_a1 h0 n0) (s₁.setTop (mkF m 0 #[.val (.ref a1), .val (.int (4 : Int32)), .val (.int p2)] []))
  refine Run.go (fun _ k => XS.aloadN X0.here hx rfl (hb hby d2_0) rfl rfl k) ?_
  show Run p e below s 0 0 (Q_rm2_4 Z a1 p2 f_a1 h0 n0) (s₁.setTop (mkF m 1 #[.val (.ref a1), .val (.int (4 : Int32)), .val (.int p2)] [(.ref a1)]))
  refine Run.go (fun _ k => XS.iloadN X0.here hx rfl (hb hby d2_1) rfl  k) ?_
  show Run p e below s 0 0 (Q_rm2_4 Z a1 p2 f_a1 h0 n0) (s₁.setTop (mkF m 2 #[.val (.ref a1), .val (.int (4 : Int32)), .val (.int p2)] [(.int (4 : Int32)), (.ref a1)]))
  refine Run.go (fun _ k => XS.iloadN X0.here hx rfl (hb hby d2_2) rfl  k) ?_
  show Run p e below s 0 0 (Q_rm2_4 Z a1 p2 f_a1 h0 n0) (s₁.setTop (mkF m 3 #[.val (.ref a1), .val (.int (4 : Int32)), .val (.int p2)] [(.int p2), (.int (4 : Int32)), (.ref a1)]))
  refine Run.go (fun _ k => XS.bipush X0.here hx rfl (hb hby d2_3) k) ?_
  show Run p e below s 0 0 (Q_rm2_4 Z a1 p2 f_a1 h0 n0) (s₁.setTop (mkF m 5 #[.val (.ref a1), .val (.int (4 : Int32)), .val (.int p2)] [(.int (24 : Int32)), (.int p2), (.int (4 : Int32)), (.ref a1)]))
  refine Run.go (fun _ k => XS.iushr X0.here hx rfl (hb hby d2_5) rfl k) ?_
  show Run p e below s 0 0 (Q_rm2_4 Z a1 p2 f_a1 h0 n0) (s₁.setTop (mkF m 6 #[.val (.ref a1), .val (.int (4 : Int32)), .val (.int p2)] [(.int ((p2.toUInt32 >>> ((24 : Int32) &&& 31).toUInt32).toInt32)), (.int (4 : Int32)), (.ref a1)]))
  refine Run.go (fun _ k => XS.i2b X0.here hx rfl (hb hby d2_6) rfl k) ?_
  show Run p e below s 0 0 (Q_rm2_4 Z a1 p2 f_a1 h0 n0) (s₁.setTop (mkF m 7 #[.val (.ref a1), .val (.int (4 : Int32)), .val (.int p2)] [(.int (((p2.toUInt32 >>> ((24 : Int32) &&& 31).toUInt32).toInt32).toInt8.toInt32)), (.int (4 : Int32)), (.ref a1)]))
  obtain ⟨T3, h3, X3, e3, W3, st3⟩ := ary_bset X0 hx hZ e0 A_a1 (by decide) (by decide) (g := (mkF m 7 #[.val (.ref a1), .val (.int (4 : Int32)), .val (.int p2)] [(.int (((p2.toUInt32 >>> ((24 : Int32) &&& 31).toUInt32).toInt32).toInt8.toInt32)), (.int (4 : Int32)), (.ref a1)])) rfl rfl (hb hby d2_7) (y := (((p2.toUInt32 >>> ((24 : Int32) &&& 31).toUInt32).toInt32).toInt8.toInt32)) (b_idem _)
  have N3 := Fr.snoc X3 N0 g_a1
  have Z3 : n0 ≤ h3.size := Nat.le_trans Z0 (Keep.of_wr W3).1
  have K3 : Keep h0 h3 [a1] := (Keep.refl h0 [a1]).wr W3 (Or.inl (List.mem_of_getElem? (i := 0) rfl))
  obtain ⟨Lg3, Xg3, Ng3⟩ := Stand_gen X3 N3
  have fx4 : Ary Z h3 a1 .byte 20 (fun i => if i = 4 then (.int (((p2.toUInt32 >>> ((24 : Int32) &&& 31).toUInt32).toInt32).toInt8.toInt32)) else f_a1 i) := A_a1.same W3
  refine Run.go st3 ?_
  show Run p e below s 0 0 (Q_rm2_4 Z a1 p2 f_a1 h0 n0) (T3.setTop (mkF m 8 #[.val (.ref a1), .val (.int (4 : Int32)), .val (.int p2)] []))
  refine Run.go (fun _ k => XS.aloadN Xg3.here hx rfl (hb hby d2_8) rfl rfl k) ?_
  show Run p e below s 0 0 (Q_rm2_4 Z a1 p2 f_a1 h0 n0) (T3.setTop (mkF m 9 #[.val (.ref a1), .val (.int (4 : Int32)), .val (.int p2)] [(.ref a1)]))
  refine Run.go (fun _ k => XS.iloadN Xg3.here hx rfl (hb hby d2_9) rfl  k) ?_
  show Run p e below s 0 0 (Q_rm2_4 Z a1 p2 f_a1 h0 n0) (T3.setTop (mkF m 10 #[.val (.ref a1), .val (.int (4 : Int32)), .val (.int p2)] [(.int (4 : Int32)), (.ref a1)]))
  refine Run.go (fun _ k => XS.iconst Xg3.here hx rfl (hb hby d2_10) k) ?_
  show Run p e below s 0 0 (Q_rm2_4 Z a1 p2 f_a1 h0 n0) (T3.setTop (mkF m 11 #[.val (.ref a1), .val (.int (4 : Int32)), .val (.int p2)] [(.int (1 : Int32)), (.int (4 : Int32)), (.ref a1)]))
  refine Run.go (fun _ k => XS.iadd Xg3.here hx rfl (hb hby d2_11) rfl k) ?_
  show Run p e below s 0 0 (Q_rm2_4 Z a1 p2 f_a1 h0 n0) (T3.setTop (mkF m 12 #[.val (.ref a1), .val (.int (4 : Int32)), .val (.int p2)] [(.int (5 : Int32)), (.ref a1)]))
  refine Run.go (fun _ k => XS.iloadN Xg3.here hx rfl (hb hby d2_12) rfl  k) ?_
  show Run p e below s 0 0 (Q_rm2_4 Z a1 p2 f_a1 h0 n0) (T3.setTop (mkF m 13 #[.val (.ref a1), .val (.int (4 : Int32)), .val (.int p2)] [(.int p2), (.int (5 : Int32)), (.ref a1)]))
  refine Run.go (fun _ k => XS.bipush Xg3.here hx rfl (hb hby d2_13) k) ?_
  show Run p e below s 0 0 (Q_rm2_4 Z a1 p2 f_a1 h0 n0) (T3.setTop (mkF m 15 #[.val (.ref a1), .val (.int (4 : Int32)), .val (.int p2)] [(.int (16 : Int32)), (.int p2), (.int (5 : Int32)), (.ref a1)]))
  refine Run.go (fun _ k => XS.iushr Xg3.here hx rfl (hb hby d2_15) rfl k) ?_
  show Run p e below s 0 0 (Q_rm2_4 Z a1 p2 f_a1 h0 n0) (T3.setTop (mkF m 16 #[.val (.ref a1), .val (.int (4 : Int32)), .val (.int p2)] [(.int ((p2.toUInt32 >>> ((16 : Int32) &&& 31).toUInt32).toInt32)), (.int (5 : Int32)), (.ref a1)]))
  refine Run.go (fun _ k => XS.i2b Xg3.here hx rfl (hb hby d2_16) rfl k) ?_
  show Run p e below s 0 0 (Q_rm2_4 Z a1 p2 f_a1 h0 n0) (T3.setTop (mkF m 17 #[.val (.ref a1), .val (.int (4 : Int32)), .val (.int p2)] [(.int (((p2.toUInt32 >>> ((16 : Int32) &&& 31).toUInt32).toInt32).toInt8.toInt32)), (.int (5 : Int32)), (.ref a1)]))
  obtain ⟨T5, h5, X5, e5, W5, st5⟩ := ary_bset Xg3 hx hZ e3 fx4 (by decide) (by decide) (g := (mkF m 17 #[.val (.ref a1), .val (.int (4 : Int32)), .val (.int p2)] [(.int (((p2.toUInt32 >>> ((16 : Int32) &&& 31).toUInt32).toInt32).toInt8.toInt32)), (.int (5 : Int32)), (.ref a1)])) rfl rfl (hb hby d2_17) (y := (((p2.toUInt32 >>> ((16 : Int32) &&& 31).toUInt32).toInt32).toInt8.toInt32)) (b_idem _)
  have N5 := Fr.snoc X5 Ng3 g_a1
  have Z5 : n0 ≤ h5.size := Nat.le_trans Z3 (Keep.of_wr W5).1
  have K5 : Keep h0 h5 [a1] := K3.wr W5 (Or.inl (List.mem_of_getElem? (i := 0) rfl))
  obtain ⟨Lg5, Xg5, Ng5⟩ := Stand_gen X5 N5
  have fx6 : Ary Z h5 a1 .byte 20 (fun i => if i = 5 then (.int (((p2.toUInt32 >>> ((16 : Int32) &&& 31).toUInt32).toInt32).toInt8.toInt32)) else (fun i => if i = 4 then (.int (((p2.toUInt32 >>> ((24 : Int32) &&& 31).toUInt32).toInt32).toInt8.toInt32)) else f_a1 i) i) := fx4.same W5
  refine Run.go st5 ?_
  show Run p e below s 0 0 (Q_rm2_4 Z a1 p2 f_a1 h0 n0) (T5.setTop (mkF m 18 #[.val (.ref a1), .val (.int (4 : Int32)), .val (.int p2)] []))
  refine Run.go (fun _ k => XS.aloadN Xg5.here hx rfl (hb hby d2_18) rfl rfl k) ?_
  show Run p e below s 0 0 (Q_rm2_4 Z a1 p2 f_a1 h0 n0) (T5.setTop (mkF m 19 #[.val (.ref a1), .val (.int (4 : Int32)), .val (.int p2)] [(.ref a1)]))
  refine Run.go (fun _ k => XS.iloadN Xg5.here hx rfl (hb hby d2_19) rfl  k) ?_
  show Run p e below s 0 0 (Q_rm2_4 Z a1 p2 f_a1 h0 n0) (T5.setTop (mkF m 20 #[.val (.ref a1), .val (.int (4 : Int32)), .val (.int p2)] [(.int (4 : Int32)), (.ref a1)]))
  refine Run.go (fun _ k => XS.iconst Xg5.here hx rfl (hb hby d2_20) k) ?_
  show Run p e below s 0 0 (Q_rm2_4 Z a1 p2 f_a1 h0 n0) (T5.setTop (mkF m 21 #[.val (.ref a1), .val (.int (4 : Int32)), .val (.int p2)] [(.int (2 : Int32)), (.int (4 : Int32)), (.ref a1)]))
  refine Run.go (fun _ k => XS.iadd Xg5.here hx rfl (hb hby d2_21) rfl k) ?_
  show Run p e below s 0 0 (Q_rm2_4 Z a1 p2 f_a1 h0 n0) (T5.setTop (mkF m 22 #[.val (.ref a1), .val (.int (4 : Int32)), .val (.int p2)] [(.int (6 : Int32)), (.ref a1)]))
  refine Run.go (fun _ k => XS.iloadN Xg5.here hx rfl (hb hby d2_22) rfl  k) ?_
  show Run p e below s 0 0 (Q_rm2_4 Z a1 p2 f_a1 h0 n0) (T5.setTop (mkF m 23 #[.val (.ref a1), .val (.int (4 : Int32)), .val (.int p2)] [(.int p2), (.int (6 : Int32)), (.ref a1)]))
  refine Run.go (fun _ k => XS.bipush Xg5.here hx rfl (hb hby d2_23) k) ?_
  show Run p e below s 0 0 (Q_rm2_4 Z a1 p2 f_a1 h0 n0) (T5.setTop (mkF m 25 #[.val (.ref a1), .val (.int (4 : Int32)), .val (.int p2)] [(.int (8 : Int32)), (.int p2), (.int (6 : Int32)), (.ref a1)]))
  refine Run.go (fun _ k => XS.iushr Xg5.here hx rfl (hb hby d2_25) rfl k) ?_
  show Run p e below s 0 0 (Q_rm2_4 Z a1 p2 f_a1 h0 n0) (T5.setTop (mkF m 26 #[.val (.ref a1), .val (.int (4 : Int32)), .val (.int p2)] [(.int ((p2.toUInt32 >>> ((8 : Int32) &&& 31).toUInt32).toInt32)), (.int (6 : Int32)), (.ref a1)]))
  refine Run.go (fun _ k => XS.i2b Xg5.here hx rfl (hb hby d2_26) rfl k) ?_
  show Run p e below s 0 0 (Q_rm2_4 Z a1 p2 f_a1 h0 n0) (T5.setTop (mkF m 27 #[.val (.ref a1), .val (.int (4 : Int32)), .val (.int p2)] [(.int (((p2.toUInt32 >>> ((8 : Int32) &&& 31).toUInt32).toInt32).toInt8.toInt32)), (.int (6 : Int32)), (.ref a1)]))
  obtain ⟨T7, h7, X7, e7, W7, st7⟩ := ary_bset Xg5 hx hZ e5 fx6 (by decide) (by decide) (g := (mkF m 27 #[.val (.ref a1), .val (.int (4 : Int32)), .val (.int p2)] [(.int (((p2.toUInt32 >>> ((8 : Int32) &&& 31).toUInt32).toInt32).toInt8.toInt32)), (.int (6 : Int32)), (.ref a1)])) rfl rfl (hb hby d2_27) (y := (((p2.toUInt32 >>> ((8 : Int32) &&& 31).toUInt32).toInt32).toInt8.toInt32)) (b_idem _)
  have N7 := Fr.snoc X7 Ng5 g_a1
  have Z7 : n0 ≤ h7.size := Nat.le_trans Z5 (Keep.of_wr W7).1
  have K7 : Keep h0 h7 [a1] := K5.wr W7 (Or.inl (List.mem_of_getElem? (i := 0) rfl))
  obtain ⟨Lg7, Xg7, Ng7⟩ := Stand_gen X7 N7
  have fx8 : Ary Z h7 a1 .byte 20 (fun i => if i = 6 then (.int (((p2.toUInt32 >>> ((8 : Int32) &&& 31).toUInt32).toInt32).toInt8.toInt32)) else (fun i => if i = 5 then (.int (((p2.toUInt32 >>> ((16 : Int32) &&& 31).toUInt32).toInt32).toInt8.toInt32)) else (fun i => if i = 4 then (.int (((p2.toUInt32 >>> ((24 : Int32) &&& 31).toUInt32).toInt32).toInt8.toInt32)) else f_a1 i) i) i) := fx6.same W7
  refine Run.go st7 ?_
  show Run p e below s 0 0 (Q_rm2_4 Z a1 p2 f_a1 h0 n0) (T7.setTop (mkF m 28 #[.val (.ref a1), .val (.int (4 : Int32)), .val (.int p2)] []))
  refine Run.go (fun _ k => XS.aloadN Xg7.here hx rfl (hb hby d2_28) rfl rfl k) ?_
  show Run p e below s 0 0 (Q_rm2_4 Z a1 p2 f_a1 h0 n0) (T7.setTop (mkF m 29 #[.val (.ref a1), .val (.int (4 : Int32)), .val (.int p2)] [(.ref a1)]))
  refine Run.go (fun _ k => XS.iloadN Xg7.here hx rfl (hb hby d2_29) rfl  k) ?_
  show Run p e below s 0 0 (Q_rm2_4 Z a1 p2 f_a1 h0 n0) (T7.setTop (mkF m 30 #[.val (.ref a1), .val (.int (4 : Int32)), .val (.int p2)] [(.int (4 : Int32)), (.ref a1)]))
  refine Run.go (fun _ k => XS.iconst Xg7.here hx rfl (hb hby d2_30) k) ?_
  show Run p e below s 0 0 (Q_rm2_4 Z a1 p2 f_a1 h0 n0) (T7.setTop (mkF m 31 #[.val (.ref a1), .val (.int (4 : Int32)), .val (.int p2)] [(.int (3 : Int32)), (.int (4 : Int32)), (.ref a1)]))
  refine Run.go (fun _ k => XS.iadd Xg7.here hx rfl (hb hby d2_31) rfl k) ?_
  show Run p e below s 0 0 (Q_rm2_4 Z a1 p2 f_a1 h0 n0) (T7.setTop (mkF m 32 #[.val (.ref a1), .val (.int (4 : Int32)), .val (.int p2)] [(.int (7 : Int32)), (.ref a1)]))
  refine Run.go (fun _ k => XS.iloadN Xg7.here hx rfl (hb hby d2_32) rfl  k) ?_
  show Run p e below s 0 0 (Q_rm2_4 Z a1 p2 f_a1 h0 n0) (T7.setTop (mkF m 33 #[.val (.ref a1), .val (.int (4 : Int32)), .val (.int p2)] [(.int p2), (.int (7 : Int32)), (.ref a1)]))
  refine Run.go (fun _ k => XS.i2b Xg7.here hx rfl (hb hby d2_33) rfl k) ?_
  show Run p e below s 0 0 (Q_rm2_4 Z a1 p2 f_a1 h0 n0) (T7.setTop (mkF m 34 #[.val (.ref a1), .val (.int (4 : Int32)), .val (.int p2)] [(.int (p2.toInt8.toInt32)), (.int (7 : Int32)), (.ref a1)]))
  obtain ⟨T9, h9, X9, e9, W9, st9⟩ := ary_bset Xg7 hx hZ e7 fx8 (by decide) (by decide) (g := (mkF m 34 #[.val (.ref a1), .val (.int (4 : Int32)), .val (.int p2)] [(.int (p2.toInt8.toInt32)), (.int (7 : Int32)), (.ref a1)])) rfl rfl (hb hby d2_34) (y := (p2.toInt8.toInt32)) (b_idem _)
  have N9 := Fr.snoc X9 Ng7 g_a1
  have Z9 : n0 ≤ h9.size := Nat.le_trans Z7 (Keep.of_wr W9).1
  have K9 : Keep h0 h9 [a1] := K7.wr W9 (Or.inl (List.mem_of_getElem? (i := 0) rfl))
  obtain ⟨Lg9, Xg9, Ng9⟩ := Stand_gen X9 N9
  have fx10 : Ary Z h9 a1 .byte 20 (fun i => if i = 7 then (.int (p2.toInt8.toInt32)) else (fun i => if i = 6 then (.int (((p2.toUInt32 >>> ((8 : Int32) &&& 31).toUInt32).toInt32).toInt8.toInt32)) else (fun i => if i = 5 then (.int (((p2.toUInt32 >>> ((16 : Int32) &&& 31).toUInt32).toInt32).toInt8.toInt32)) else (fun i => if i = 4 then (.int (((p2.toUInt32 >>> ((24 : Int32) &&& 31).toUInt32).toInt32).toInt8.toInt32)) else f_a1 i) i) i) i) := fx8.same W9
  refine Run.go st9 ?_
  show Run p e below s 0 0 (Q_rm2_4 Z a1 p2 f_a1 h0 n0) (T9.setTop (mkF m 35 #[.val (.ref a1), .val (.int (4 : Int32)), .val (.int p2)] []))
  refine Run.ret0 Xg9 hx Bd.returns Bd.notSynchronized (hb hby d2_35) (by decide) (by decide) ?_
  show Q_rm2_4 Z a1 p2 f_a1 h0 n0 _ T9.heap _
  rw [e9]
  exact ⟨rfl, Ng9, K9, fx10⟩
def Q_rm2_8 (Z : State) (a1 : Addr) (p2 : Int32) (f_a1 : Nat → Value) (h0 : Heap) (n0 : Nat) (v : Option Value) (h : Heap) (L : List Loc) : Prop := v = none ∧ Fr n0 L ∧ Keep h0 h [a1] ∧ Ary Z h a1 .byte 20 (fun i => if i = 11 then (.int (p2.toInt8.toInt32)) else (fun i => if i = 10 then (.int (((p2.toUInt32 >>> ((8 : Int32) &&& 31).toUInt32).toInt32).toInt8.toInt32)) else (fun i => if i = 9 then (.int (((p2.toUInt32 >>> ((16 : Int32) &&& 31).toUInt32).toInt32).toInt8.toInt32)) else (fun i => if i = 8 then (.int (((p2.toUInt32 >>> ((24 : Int32) &&& 31).toUInt32).toInt32).toInt8.toInt32)) else f_a1 i) i) i) i)
theorem ef_rm2_8 (m : MethodId) (x0 : Addr) (x2 : Int32) : entryFrame m #[(.ref x0), (.int (8 : Int32)), (.int x2)] 3 = mkF m 0 #[.val (.ref x0), .val (.int (8 : Int32)), .val (.int x2)] [] := by first | (simp [entryFrame, mkF, argsToLocals, Value.category]; done) | rfl
set_option maxRecDepth 65536 in
set_option maxHeartbeats 40000000 in
theorem rm2_8 (l : Launch) (Z : State) (a0 : Array Value) (hw : ∀ d ∈ tables_1, d.before a0 Z = true) (ws : List Jvm.Cond) (a1 : Addr) (p2 : Int32) (f_a1 : Nat → Value) (h0 : Heap) (n0 : Nat) (Z0 : n0 ≤ h0.size) (A_a1 : Ary Z h0 a1 .byte 20 f_a1) (g_a1 : n0 ≤ a1) :
    MetFree l (⟨"com/example/comera/comera/diameter/DiameterMessageLengthPinLaw", "put", "([BII)V"⟩ : MethodName) (head1 (Jvm.Cond.code (⟨"com/example/comera/comera/diameter/DiameterMessageLengthPinLaw", "put", "([BII)V"⟩ : MethodName) method_2_code 3 none :: ws) ({ frames := 0, cells := 0, slots := 0, locals := 0 } : Room)) (fun a U => a = #[(.ref a1), (.int (8 : Int32)), (.int p2)] ∧ Z.Warmed39 U.vm ∧ U.heap = h0) (fun _ _ _ _ _ => True) (fun _ U o U' => ∃ v L, o = .returned v ∧ Q_rm2_8 Z a1 p2 f_a1 h0 n0 v U'.heap L ∧ FrameEnd U o U' L ({ frames := 0, cells := 0, slots := 0, locals := 0 } : Room).cells ({ frames := 0, cells := 0, slots := 0, locals := 0 } : Room).slots) := by
  refine MetFree.of_bodySF (plainFor_of_name pn_0) hisR ?_
  intro p e s m args below meth c s₁ Bd hml0 hP hK
  obtain ⟨rfl, hZ, hh⟩ := hP
  have hx := Bd.exec
  have hby := Bd.bytes
  have hml : c.maxLocals = 3 := hml0
  have hown : s.vm.findClass "com/example/comera/comera/diameter/DiameterMessageLengthPinLaw" = some m.cls := findClass_of_methodNamed Bd.named
  have hnm := (name_of_methodNamed Bd.named Bd.method).1
  have X0 : Stand p l e ({ frames := 0, cells := 0, slots := 0, locals := 0 } : Room) s m #[(.ref a1), (.int (8 : Int32)), (.int p2)] below meth c s₁ [] 0 0 := Stand.of_body Bd
  have e0 : s₁.heap = h0 := by rw [← hh, Bd.state]; rfl
  have N0 := Fr.nil n0
  show Run p e below s 0 0 (Q_rm2_8 Z a1 p2 f_a1 h0 n0) (s₁.setTop (entryFrame m #[(.ref a1), (.int (8 : Int32)), (.int p2)] 3))
  refine Run.go (fun _ k => castTop (ef_rm2_8 m a1 p2) k) ?_
  show Run p e below s 0 0 (Q_rm2_8 Z a1 p2 f_a1 h0 n0) (s₁.setTop (mkF m 0 #[.val (.ref a1), .val (.int (8 : Int32)), .val (.int p2)] []))
  refine Run.go (fun _ k => XS.aloadN X0.here hx rfl (hb hby d2_0) rfl rfl k) ?_
  show Run p e below s 0 0 (Q_rm2_8 Z a1 p2 f_a1 h0 n0) (s₁.setTop (mkF m 1 #[.val (.ref a1), .val (.int (8 : Int32)), .val (.int p2)] [(.ref a1)]))
  refine Run.go (fun _ k => XS.iloadN X0.here hx rfl (hb hby d2_1) rfl  k) ?_
  show Run p e below s 0 0 (Q_rm2_8 Z a1 p2 f_a1 h0 n0) (s₁.setTop (mkF m 2 #[.val (.ref a1), .val (.int (8 : Int32)), .val (.int p2)] [(.int (8 : Int32)), (.ref a1)]))
  refine Run.go (fun _ k => XS.iloadN X0.here hx rfl (hb hby d2_2) rfl  k) ?_
  show Run p e below s 0 0 (Q_rm2_8 Z a1 p2 f_a1 h0 n0) (s₁.setTop (mkF m 3 #[.val (.ref a1), .val (.int (8 : Int32)), .val (.int p2)] [(.int p2), (.int (8 : Int32)), (.ref a1)]))
  refine Run.go (fun _ k => XS.bipush X0.here hx rfl (hb hby d2_3) k) ?_
  show Run p e below s 0 0 (Q_rm2_8 Z a1 p2 f_a1 h0 n0) (s₁.setTop (mkF m 5 #[.val (.ref a1), .val (.int (8 : Int32)), .val (.int p2)] [(.int (24 : Int32)), (.int p2), (.int (8 : Int32)), (.ref a1)]))
  refine Run.go (fun _ k => XS.iushr X0.here hx rfl (hb hby d2_5) rfl k) ?_
  show Run p e below s 0 0 (Q_rm2_8 Z a1 p2 f_a1 h0 n0) (s₁.setTop (mkF m 6 #[.val (.ref a1), .val (.int (8 : Int32)), .val (.int p2)] [(.int ((p2.toUInt32 >>> ((24 : Int32) &&& 31).toUInt32).toInt32)), (.int (8 : Int32)), (.ref a1)]))
  refine Run.go (fun _ k => XS.i2b X0.here hx rfl (hb hby d2_6) rfl k) ?_
  show Run p e below s 0 0 (Q_rm2_8 Z a1 p2 f_a1 h0 n0) (s₁.setTop (mkF m 7 #[.val (.ref a1), .val (.int (8 : Int32)), .val (.int p2)] [(.int (((p2.toUInt32 >>> ((24 : Int32) &&& 31).toUInt32).toInt32).toInt8.toInt32)), (.int (8 : Int32)), (.ref a1)]))
  obtain ⟨T3, h3, X3, e3, W3, st3⟩ := ary_bset X0 hx hZ e0 A_a1 (by decide) (by decide) (g := (mkF m 7 #[.val (.ref a1), .val (.int (8 : Int32)), .val (.int p2)] [(.int (((p2.toUInt32 >>> ((24 : Int32) &&& 31).toUInt32).toInt32).toInt8.toInt32)), (.int (8 : Int32)), (.ref a1)])) rfl rfl (hb hby d2_7) (y := (((p2.toUInt32 >>> ((24 : Int32) &&& 31).toUInt32).toInt32).toInt8.toInt32)) (b_idem _)
  have N3 := Fr.snoc X3 N0 g_a1
  have Z3 : n0 ≤ h3.size := Nat.le_trans Z0 (Keep.of_wr W3).1
  have K3 : Keep h0 h3 [a1] := (Keep.refl h0 [a1]).wr W3 (Or.inl (List.mem_of_getElem? (i := 0) rfl))
  obtain ⟨Lg3, Xg3, Ng3⟩ := Stand_gen X3 N3
  have fx4 : Ary Z h3 a1 .byte 20 (fun i => if i = 8 then (.int (((p2.toUInt32 >>> ((24 : Int32) &&& 31).toUInt32).toInt32).toInt8.toInt32)) else f_a1 i) := A_a1.same W3
  refine Run.go st3 ?_
  show Run p e below s 0 0 (Q_rm2_8 Z a1 p2 f_a1 h0 n0) (T3.setTop (mkF m 8 #[.val (.ref a1), .val (.int (8 : Int32)), .val (.int p2)] []))
  refine Run.go (fun _ k => XS.aloadN Xg3.here hx rfl (hb hby d2_8) rfl rfl k) ?_
  show Run p e below s 0 0 (Q_rm2_8 Z a1 p2 f_a1 h0 n0) (T3.setTop (mkF m 9 #[.val (.ref a1), .val (.int (8 : Int32)), .val (.int p2)] [(.ref a1)]))
  refine Run.go (fun _ k => XS.iloadN Xg3.here hx rfl (hb hby d2_9) rfl  k) ?_
  show Run p e below s 0 0 (Q_rm2_8 Z a1 p2 f_a1 h0 n0) (T3.setTop (mkF m 10 #[.val (.ref a1), .val (.int (8 : Int32)), .val (.int p2)] [(.int (8 : Int32)), (.ref a1)]))
  refine Run.go (fun _ k => XS.iconst Xg3.here hx rfl (hb hby d2_10) k) ?_
  show Run p e below s 0 0 (Q_rm2_8 Z a1 p2 f_a1 h0 n0) (T3.setTop (mkF m 11 #[.val (.ref a1), .val (.int (8 : Int32)), .val (.int p2)] [(.int (1 : Int32)), (.int (8 : Int32)), (.ref a1)]))
  refine Run.go (fun _ k => XS.iadd Xg3.here hx rfl (hb hby d2_11) rfl k) ?_
  show Run p e below s 0 0 (Q_rm2_8 Z a1 p2 f_a1 h0 n0) (T3.setTop (mkF m 12 #[.val (.ref a1), .val (.int (8 : Int32)), .val (.int p2)] [(.int (9 : Int32)), (.ref a1)]))
  refine Run.go (fun _ k => XS.iloadN Xg3.here hx rfl (hb hby d2_12) rfl  k) ?_
  show Run p e below s 0 0 (Q_rm2_8 Z a1 p2 f_a1 h0 n0) (T3.setTop (mkF m 13 #[.val (.ref a1), .val (.int (8 : Int32)), .val (.int p2)] [(.int p2), (.int (9 : Int32)), (.ref a1)]))
  refine Run.go (fun _ k => XS.bipush Xg3.here hx rfl (hb hby d2_13) k) ?_
  show Run p e below s 0 0 (Q_rm2_8 Z a1 p2 f_a1 h0 n0) (T3.setTop (mkF m 15 #[.val (.ref a1), .val (.int (8 : Int32)), .val (.int p2)] [(.int (16 : Int32)), (.int p2), (.int (9 : Int32)), (.ref a1)]))
  refine Run.go (fun _ k => XS.iushr Xg3.here hx rfl (hb hby d2_15) rfl k) ?_
  show Run p e below s 0 0 (Q_rm2_8 Z a1 p2 f_a1 h0 n0) (T3.setTop (mkF m 16 #[.val (.ref a1), .val (.int (8 : Int32)), .val (.int p2)] [(.int ((p2.toUInt32 >>> ((16 : Int32) &&& 31).toUInt32).toInt32)), (.int (9 : Int32)), (.ref a1)]))
  refine Run.go (fun _ k => XS.i2b Xg3.here hx rfl (hb hby d2_16) rfl k) ?_
  show Run p e below s 0 0 (Q_rm2_8 Z a1 p2 f_a1 h0 n0) (T3.setTop (mkF m 17 #[.val (.ref a1), .val (.int (8 : Int32)), .val (.int p2)] [(.int (((p2.toUInt32 >>> ((16 : Int32) &&& 31).toUInt32).toInt32).toInt8.toInt32)), (.int (9 : Int32)), (.ref a1)]))
  obtain ⟨T5, h5, X5, e5, W5, st5⟩ := ary_bset Xg3 hx hZ e3 fx4 (by decide) (by decide) (g := (mkF m 17 #[.val (.ref a1), .val (.int (8 : Int32)), .val (.int p2)] [(.int (((p2.toUInt32 >>> ((16 : Int32) &&& 31).toUInt32).toInt32).toInt8.toInt32)), (.int (9 : Int32)), (.ref a1)])) rfl rfl (hb hby d2_17) (y := (((p2.toUInt32 >>> ((16 : Int32) &&& 31).toUInt32).toInt32).toInt8.toInt32)) (b_idem _)
  have N5 := Fr.snoc X5 Ng3 g_a1
  have Z5 : n0 ≤ h5.size := Nat.le_trans Z3 (Keep.of_wr W5).1
  have K5 : Keep h0 h5 [a1] := K3.wr W5 (Or.inl (List.mem_of_getElem? (i := 0) rfl))
  obtain ⟨Lg5, Xg5, Ng5⟩ := Stand_gen X5 N5
  have fx6 : Ary Z h5 a1 .byte 20 (fun i => if i = 9 then (.int (((p2.toUInt32 >>> ((16 : Int32) &&& 31).toUInt32).toInt32).toInt8.toInt32)) else (fun i => if i = 8 then (.int (((p2.toUInt32 >>> ((24 : Int32) &&& 31).toUInt32).toInt32).toInt8.toInt32)) else f_a1 i) i) := fx4.same W5
  refine Run.go st5 ?_
  show Run p e below s 0 0 (Q_rm2_8 Z a1 p2 f_a1 h0 n0) (T5.setTop (mkF m 18 #[.val (.ref a1), .val (.int (8 : Int32)), .val (.int p2)] []))
  refine Run.go (fun _ k => XS.aloadN Xg5.here hx rfl (hb hby d2_18) rfl rfl k) ?_
  show Run p e below s 0 0 (Q_rm2_8 Z a1 p2 f_a1 h0 n0) (T5.setTop (mkF m 19 #[.val (.ref a1), .val (.int (8 : Int32)), .val (.int p2)] [(.ref a1)]))
  refine Run.go (fun _ k => XS.iloadN Xg5.here hx rfl (hb hby d2_19) rfl  k) ?_
  show Run p e below s 0 0 (Q_rm2_8 Z a1 p2 f_a1 h0 n0) (T5.setTop (mkF m 20 #[.val (.ref a1), .val (.int (8 : Int32)), .val (.int p2)] [(.int (8 : Int32)), (.ref a1)]))
  refine Run.go (fun _ k => XS.iconst Xg5.here hx rfl (hb hby d2_20) k) ?_
  show Run p e below s 0 0 (Q_rm2_8 Z a1 p2 f_a1 h0 n0) (T5.setTop (mkF m 21 #[.val (.ref a1), .val (.int (8 : Int32)), .val (.int p2)] [(.int (2 : Int32)), (.int (8 : Int32)), (.ref a1)]))
  refine Run.go (fun _ k => XS.iadd Xg5.here hx rfl (hb hby d2_21) rfl k) ?_
  show Run p e below s 0 0 (Q_rm2_8 Z a1 p2 f_a1 h0 n0) (T5.setTop (mkF m 22 #[.val (.ref a1), .val (.int (8 : Int32)), .val (.int p2)] [(.int (10 : Int32)), (.ref a1)]))
  refine Run.go (fun _ k => XS.iloadN Xg5.here hx rfl (hb hby d2_22) rfl  k) ?_
  show Run p e below s 0 0 (Q_rm2_8 Z a1 p2 f_a1 h0 n0) (T5.setTop (mkF m 23 #[.val (.ref a1), .val (.int (8 : Int32)), .val (.int p2)] [(.int p2), (.int (10 : Int32)), (.ref a1)]))
  refine Run.go (fun _ k => XS.bipush Xg5.here hx rfl (hb hby d2_23) k) ?_
  show Run p e below s 0 0 (Q_rm2_8 Z a1 p2 f_a1 h0 n0) (T5.setTop (mkF m 25 #[.val (.ref a1), .val (.int (8 : Int32)), .val (.int p2)] [(.int (8 : Int32)), (.int p2), (.int (10 : Int32)), (.ref a1)]))
  refine Run.go (fun _ k => XS.iushr Xg5.here hx rfl (hb hby d2_25) rfl k) ?_
  show Run p e below s 0 0 (Q_rm2_8 Z a1 p2 f_a1 h0 n0) (T5.setTop (mkF m 26 #[.val (.ref a1), .val (.int (8 : Int32)), .val (.int p2)] [(.int ((p2.toUInt32 >>> ((8 : Int32) &&& 31).toUInt32).toInt32)), (.int (10 : Int32)), (.ref a1)]))
  refine Run.go (fun _ k => XS.i2b Xg5.here hx rfl (hb hby d2_26) rfl k) ?_
  show Run p e below s 0 0 (Q_rm2_8 Z a1 p2 f_a1 h0 n0) (T5.setTop (mkF m 27 #[.val (.ref a1), .val (.int (8 : Int32)), .val (.int p2)] [(.int (((p2.toUInt32 >>> ((8 : Int32) &&& 31).toUInt32).toInt32).toInt8.toInt32)), (.int (10 : Int32)), (.ref a1)]))
  obtain ⟨T7, h7, X7, e7, W7, st7⟩ := ary_bset Xg5 hx hZ e5 fx6 (by decide) (by decide) (g := (mkF m 27 #[.val (.ref a1), .val (.int (8 : Int32)), .val (.int p2)] [(.int (((p2.toUInt32 >>> ((8 : Int32) &&& 31).toUInt32).toInt32).toInt8.toInt32)), (.int (10 : Int32)), (.ref a1)])) rfl rfl (hb hby d2_27) (y := (((p2.toUInt32 >>> ((8 : Int32) &&& 31).toUInt32).toInt32).toInt8.toInt32)) (b_idem _)
  have N7 := Fr.snoc X7 Ng5 g_a1
  have Z7 : n0 ≤ h7.size := Nat.le_trans Z5 (Keep.of_wr W7).1
  have K7 : Keep h0 h7 [a1] := K5.wr W7 (Or.inl (List.mem_of_getElem? (i := 0) rfl))
  obtain ⟨Lg7, Xg7, Ng7⟩ := Stand_gen X7 N7
  have fx8 : Ary Z h7 a1 .byte 20 (fun i => if i = 10 then (.int (((p2.toUInt32 >>> ((8 : Int32) &&& 31).toUInt32).toInt32).toInt8.toInt32)) else (fun i => if i = 9 then (.int (((p2.toUInt32 >>> ((16 : Int32) &&& 31).toUInt32).toInt32).toInt8.toInt32)) else (fun i => if i = 8 then (.int (((p2.toUInt32 >>> ((24 : Int32) &&& 31).toUInt32).toInt32).toInt8.toInt32)) else f_a1 i) i) i) := fx6.same W7
  refine Run.go st7 ?_
  show Run p e below s 0 0 (Q_rm2_8 Z a1 p2 f_a1 h0 n0) (T7.setTop (mkF m 28 #[.val (.ref a1), .val (.int (8 : Int32)), .val (.int p2)] []))
  refine Run.go (fun _ k => XS.aloadN Xg7.here hx rfl (hb hby d2_28) rfl rfl k) ?_
  show Run p e below s 0 0 (Q_rm2_8 Z a1 p2 f_a1 h0 n0) (T7.setTop (mkF m 29 #[.val (.ref a1), .val (.int (8 : Int32)), .val (.int p2)] [(.ref a1)]))
  refine Run.go (fun _ k => XS.iloadN Xg7.here hx rfl (hb hby d2_29) rfl  k) ?_
  show Run p e below s 0 0 (Q_rm2_8 Z a1 p2 f_a1 h0 n0) (T7.setTop (mkF m 30 #[.val (.ref a1), .val (.int (8 : Int32)), .val (.int p2)] [(.int (8 : Int32)), (.ref a1)]))
  refine Run.go (fun _ k => XS.iconst Xg7.here hx rfl (hb hby d2_30) k) ?_
  show Run p e below s 0 0 (Q_rm2_8 Z a1 p2 f_a1 h0 n0) (T7.setTop (mkF m 31 #[.val (.ref a1), .val (.int (8 : Int32)), .val (.int p2)] [(.int (3 : Int32)), (.int (8 : Int32)), (.ref a1)]))
  refine Run.go (fun _ k => XS.iadd Xg7.here hx rfl (hb hby d2_31) rfl k) ?_
  show Run p e below s 0 0 (Q_rm2_8 Z a1 p2 f_a1 h0 n0) (T7.setTop (mkF m 32 #[.val (.ref a1), .val (.int (8 : Int32)), .val (.int p2)] [(.int (11 : Int32)), (.ref a1)]))
  refine Run.go (fun _ k => XS.iloadN Xg7.here hx rfl (hb hby d2_32) rfl  k) ?_
  show Run p e below s 0 0 (Q_rm2_8 Z a1 p2 f_a1 h0 n0) (T7.setTop (mkF m 33 #[.val (.ref a1), .val (.int (8 : Int32)), .val (.int p2)] [(.int p2), (.int (11 : Int32)), (.ref a1)]))
  refine Run.go (fun _ k => XS.i2b Xg7.here hx rfl (hb hby d2_33) rfl k) ?_
  show Run p e below s 0 0 (Q_rm2_8 Z a1 p2 f_a1 h0 n0) (T7.setTop (mkF m 34 #[.val (.ref a1), .val (.int (8 : Int32)), .val (.int p2)] [(.int (p2.toInt8.toInt32)), (.int (11 : Int32)), (.ref a1)]))
  obtain ⟨T9, h9, X9, e9, W9, st9⟩ := ary_bset Xg7 hx hZ e7 fx8 (by decide) (by decide) (g := (mkF m 34 #[.val (.ref a1), .val (.int (8 : Int32)), .val (.int p2)] [(.int (p2.toInt8.toInt32)), (.int (11 : Int32)), (.ref a1)])) rfl rfl (hb hby d2_34) (y := (p2.toInt8.toInt32)) (b_idem _)
  have N9 := Fr.snoc X9 Ng7 g_a1
  have Z9 : n0 ≤ h9.size := Nat.le_trans Z7 (Keep.of_wr W9).1
  have K9 : Keep h0 h9 [a1] := K7.wr W9 (Or.inl (List.mem_of_getElem? (i := 0) rfl))
  obtain ⟨Lg9, Xg9, Ng9⟩ := Stand_gen X9 N9
  have fx10 : Ary Z h9 a1 .byte 20 (fun i => if i = 11 then (.int (p2.toInt8.toInt32)) else (fun i => if i = 10 then (.int (((p2.toUInt32 >>> ((8 : Int32) &&& 31).toUInt32).toInt32).toInt8.toInt32)) else (fun i => if i = 9 then (.int (((p2.toUInt32 >>> ((16 : Int32) &&& 31).toUInt32).toInt32).toInt8.toInt32)) else (fun i => if i = 8 then (.int (((p2.toUInt32 >>> ((24 : Int32) &&& 31).toUInt32).toInt32).toInt8.toInt32)) else f_a1 i) i) i) i) := fx8.same W9
  refine Run.go st9 ?_
  show Run p e below s 0 0 (Q_rm2_8 Z a1 p2 f_a1 h0 n0) (T9.setTop (mkF m 35 #[.val (.ref a1), .val (.int (8 : Int32)), .val (.int p2)] []))
  refine Run.ret0 Xg9 hx Bd.returns Bd.notSynchronized (hb hby d2_35) (by decide) (by decide) ?_
  show Q_rm2_8 Z a1 p2 f_a1 h0 n0 _ T9.heap _
  rw [e9]
  exact ⟨rfl, Ng9, K9, fx10⟩
def Q_rm2_12 (Z : State) (a1 : Addr) (p2 : Int32) (f_a1 : Nat → Value) (h0 : Heap) (n0 : Nat) (v : Option Value) (h : Heap) (L : List Loc) : Prop := v = none ∧ Fr n0 L ∧ Keep h0 h [a1] ∧ Ary Z h a1 .byte 20 (fun i => if i = 15 then (.int (p2.toInt8.toInt32)) else (fun i => if i = 14 then (.int (((p2.toUInt32 >>> ((8 : Int32) &&& 31).toUInt32).toInt32).toInt8.toInt32)) else (fun i => if i = 13 then (.int (((p2.toUInt32 >>> ((16 : Int32) &&& 31).toUInt32).toInt32).toInt8.toInt32)) else (fun i => if i = 12 then (.int (((p2.toUInt32 >>> ((24 : Int32) &&& 31).toUInt32).toInt32).toInt8.toInt32)) else f_a1 i) i) i) i)
theorem ef_rm2_12 (m : MethodId) (x0 : Addr) (x2 : Int32) : entryFrame m #[(.ref x0), (.int (12 : Int32)), (.int x2)] 3 = mkF m 0 #[.val (.ref x0), .val (.int (12 : Int32)), .val (.int x2)] [] := by first | (simp [entryFrame, mkF, argsToLocals, Value.category]; done) | rfl
set_option maxRecDepth 65536 in
set_option maxHeartbeats 40000000 in
theorem rm2_12 (l : Launch) (Z : State) (a0 : Array Value) (hw : ∀ d ∈ tables_1, d.before a0 Z = true) (ws : List Jvm.Cond) (a1 : Addr) (p2 : Int32) (f_a1 : Nat → Value) (h0 : Heap) (n0 : Nat) (Z0 : n0 ≤ h0.size) (A_a1 : Ary Z h0 a1 .byte 20 f_a1) (g_a1 : n0 ≤ a1) :
    MetFree l (⟨"com/example/comera/comera/diameter/DiameterMessageLengthPinLaw", "put", "([BII)V"⟩ : MethodName) (head1 (Jvm.Cond.code (⟨"com/example/comera/comera/diameter/DiameterMessageLengthPinLaw", "put", "([BII)V"⟩ : MethodName) method_2_code 3 none :: ws) ({ frames := 0, cells := 0, slots := 0, locals := 0 } : Room)) (fun a U => a = #[(.ref a1), (.int (12 : Int32)), (.int p2)] ∧ Z.Warmed39 U.vm ∧ U.heap = h0) (fun _ _ _ _ _ => True) (fun _ U o U' => ∃ v L, o = .returned v ∧ Q_rm2_12 Z a1 p2 f_a1 h0 n0 v U'.heap L ∧ FrameEnd U o U' L ({ frames := 0, cells := 0, slots := 0, locals := 0 } : Room).cells ({ frames := 0, cells := 0, slots := 0, locals := 0 } : Room).slots) := by
  refine MetFree.of_bodySF (plainFor_of_name pn_0) hisR ?_
  intro p e s m args below meth c s₁ Bd hml0 hP hK
  obtain ⟨rfl, hZ, hh⟩ := hP
  have hx := Bd.exec
  have hby := Bd.bytes
  have hml : c.maxLocals = 3 := hml0
  have hown : s.vm.findClass "com/example/comera/comera/diameter/DiameterMessageLengthPinLaw" = some m.cls := findClass_of_methodNamed Bd.named
  have hnm := (name_of_methodNamed Bd.named Bd.method).1
  have X0 : Stand p l e ({ frames := 0, cells := 0, slots := 0, locals := 0 } : Room) s m #[(.ref a1), (.int (12 : Int32)), (.int p2)] below meth c s₁ [] 0 0 := Stand.of_body Bd
  have e0 : s₁.heap = h0 := by rw [← hh, Bd.state]; rfl
  have N0 := Fr.nil n0
  show Run p e below s 0 0 (Q_rm2_12 Z a1 p2 f_a1 h0 n0) (s₁.setTop (entryFrame m #[(.ref a1), (.int (12 : Int32)), (.int p2)] 3))
  refine Run.go (fun _ k => castTop (ef_rm2_12 m a1 p2) k) ?_
  show Run p e below s 0 0 (Q_rm2_12 Z a1 p2 f_a1 h0 n0) (s₁.setTop (mkF m 0 #[.val (.ref a1), .val (.int (12 : Int32)), .val (.int p2)] []))
  refine Run.go (fun _ k => XS.aloadN X0.here hx rfl (hb hby d2_0) rfl rfl k) ?_
  show Run p e below s 0 0 (Q_rm2_12 Z a1 p2 f_a1 h0 n0) (s₁.setTop (mkF m 1 #[.val (.ref a1), .val (.int (12 : Int32)), .val (.int p2)] [(.ref a1)]))
  refine Run.go (fun _ k => XS.iloadN X0.here hx rfl (hb hby d2_1) rfl  k) ?_
  show Run p e below s 0 0 (Q_rm2_12 Z a1 p2 f_a1 h0 n0) (s₁.setTop (mkF m 2 #[.val (.ref a1), .val (.int (12 : Int32)), .val (.int p2)] [(.int (12 : Int32)), (.ref a1)]))
  refine Run.go (fun _ k => XS.iloadN X0.here hx rfl (hb hby d2_2) rfl  k) ?_
  show Run p e below s 0 0 (Q_rm2_12 Z a1 p2 f_a1 h0 n0) (s₁.setTop (mkF m 3 #[.val (.ref a1), .val (.int (12 : Int32)), .val (.int p2)] [(.int p2), (.int (12 : Int32)), (.ref a1)]))
  refine Run.go (fun _ k => XS.bipush X0.here hx rfl (hb hby d2_3) k) ?_
  show Run p e below s 0 0 (Q_rm2_12 Z a1 p2 f_a1 h0 n0) (s₁.setTop (mkF m 5 #[.val (.ref a1), .val (.int (12 : Int32)), .val (.int p2)] [(.int (24 : Int32)), (.int p2), (.int (12 : Int32)), (.ref a1)]))
  refine Run.go (fun _ k => XS.iushr X0.here hx rfl (hb hby d2_5) rfl k) ?_
  show Run p e below s 0 0 (Q_rm2_12 Z a1 p2 f_a1 h0 n0) (s₁.setTop (mkF m 6 #[.val (.ref a1), .val (.int (12 : Int32)), .val (.int p2)] [(.int ((p2.toUInt32 >>> ((24 : Int32) &&& 31).toUInt32).toInt32)), (.int (12 : Int32)), (.ref a1)]))
  refine Run.go (fun _ k => XS.i2b X0.here hx rfl (hb hby d2_6) rfl k) ?_
  show Run p e below s 0 0 (Q_rm2_12 Z a1 p2 f_a1 h0 n0) (s₁.setTop (mkF m 7 #[.val (.ref a1), .val (.int (12 : Int32)), .val (.int p2)] [(.int (((p2.toUInt32 >>> ((24 : Int32) &&& 31).toUInt32).toInt32).toInt8.toInt32)), (.int (12 : Int32)), (.ref a1)]))
  obtain ⟨T3, h3, X3, e3, W3, st3⟩ := ary_bset X0 hx hZ e0 A_a1 (by decide) (by decide) (g := (mkF m 7 #[.val (.ref a1), .val (.int (12 : Int32)), .val (.int p2)] [(.int (((p2.toUInt32 >>> ((24 : Int32) &&& 31).toUInt32).toInt32).toInt8.toInt32)), (.int (12 : Int32)), (.ref a1)])) rfl rfl (hb hby d2_7) (y := (((p2.toUInt32 >>> ((24 : Int32) &&& 31).toUInt32).toInt32).toInt8.toInt32)) (b_idem _)
  have N3 := Fr.snoc X3 N0 g_a1
  have Z3 : n0 ≤ h3.size := Nat.le_trans Z0 (Keep.of_wr W3).1
  have K3 : Keep h0 h3 [a1] := (Keep.refl h0 [a1]).wr W3 (Or.inl (List.mem_of_getElem? (i := 0) rfl))
  obtain ⟨Lg3, Xg3, Ng3⟩ := Stand_gen X3 N3
  have fx4 : Ary Z h3 a1 .byte 20 (fun i => if i = 12 then (.int (((p2.toUInt32 >>> ((24 : Int32) &&& 31).toUInt32).toInt32).toInt8.toInt32)) else f_a1 i) := A_a1.same W3
  refine Run.go st3 ?_
  show Run p e below s 0 0 (Q_rm2_12 Z a1 p2 f_a1 h0 n0) (T3.setTop (mkF m 8 #[.val (.ref a1), .val (.int (12 : Int32)), .val (.int p2)] []))
  refine Run.go (fun _ k => XS.aloadN Xg3.here hx rfl (hb hby d2_8) rfl rfl k) ?_
  show Run p e below s 0 0 (Q_rm2_12 Z a1 p2 f_a1 h0 n0) (T3.setTop (mkF m 9 #[.val (.ref a1), .val (.int (12 : Int32)), .val (.int p2)] [(.ref a1)]))
  refine Run.go (fun _ k => XS.iloadN Xg3.here hx rfl (hb hby d2_9) rfl  k) ?_
  show Run p e below s 0 0 (Q_rm2_12 Z a1 p2 f_a1 h0 n0) (T3.setTop (mkF m 10 #[.val (.ref a1), .val (.int (12 : Int32)), .val (.int p2)] [(.int (12 : Int32)), (.ref a1)]))
  refine Run.go (fun _ k => XS.iconst Xg3.here hx rfl (hb hby d2_10) k) ?_
  show Run p e below s 0 0 (Q_rm2_12 Z a1 p2 f_a1 h0 n0) (T3.setTop (mkF m 11 #[.val (.ref a1), .val (.int (12 : Int32)), .val (.int p2)] [(.int (1 : Int32)), (.int (12 : Int32)), (.ref a1)]))
  refine Run.go (fun _ k => XS.iadd Xg3.here hx rfl (hb hby d2_11) rfl k) ?_
  show Run p e below s 0 0 (Q_rm2_12 Z a1 p2 f_a1 h0 n0) (T3.setTop (mkF m 12 #[.val (.ref a1), .val (.int (12 : Int32)), .val (.int p2)] [(.int (13 : Int32)), (.ref a1)]))
  refine Run.go (fun _ k => XS.iloadN Xg3.here hx rfl (hb hby d2_12) rfl  k) ?_
  show Run p e below s 0 0 (Q_rm2_12 Z a1 p2 f_a1 h0 n0) (T3.setTop (mkF m 13 #[.val (.ref a1), .val (.int (12 : Int32)), .val (.int p2)] [(.int p2), (.int (13 : Int32)), (.ref a1)]))
  refine Run.go (fun _ k => XS.bipush Xg3.here hx rfl (hb hby d2_13) k) ?_
  show Run p e below s 0 0 (Q_rm2_12 Z a1 p2 f_a1 h0 n0) (T3.setTop (mkF m 15 #[.val (.ref a1), .val (.int (12 : Int32)), .val (.int p2)] [(.int (16 : Int32)), (.int p2), (.int (13 : Int32)), (.ref a1)]))
  refine Run.go (fun _ k => XS.iushr Xg3.here hx rfl (hb hby d2_15) rfl k) ?_
  show Run p e below s 0 0 (Q_rm2_12 Z a1 p2 f_a1 h0 n0) (T3.setTop (mkF m 16 #[.val (.ref a1), .val (.int (12 : Int32)), .val (.int p2)] [(.int ((p2.toUInt32 >>> ((16 : Int32) &&& 31).toUInt32).toInt32)), (.int (13 : Int32)), (.ref a1)]))
  refine Run.go (fun _ k => XS.i2b Xg3.here hx rfl (hb hby d2_16) rfl k) ?_
  show Run p e below s 0 0 (Q_rm2_12 Z a1 p2 f_a1 h0 n0) (T3.setTop (mkF m 17 #[.val (.ref a1), .val (.int (12 : Int32)), .val (.int p2)] [(.int (((p2.toUInt32 >>> ((16 : Int32) &&& 31).toUInt32).toInt32).toInt8.toInt32)), (.int (13 : Int32)), (.ref a1)]))
  obtain ⟨T5, h5, X5, e5, W5, st5⟩ := ary_bset Xg3 hx hZ e3 fx4 (by decide) (by decide) (g := (mkF m 17 #[.val (.ref a1), .val (.int (12 : Int32)), .val (.int p2)] [(.int (((p2.toUInt32 >>> ((16 : Int32) &&& 31).toUInt32).toInt32).toInt8.toInt32)), (.int (13 : Int32)), (.ref a1)])) rfl rfl (hb hby d2_17) (y := (((p2.toUInt32 >>> ((16 : Int32) &&& 31).toUInt32).toInt32).toInt8.toInt32)) (b_idem _)
  have N5 := Fr.snoc X5 Ng3 g_a1
  have Z5 : n0 ≤ h5.size := Nat.le_trans Z3 (Keep.of_wr W5).1
  have K5 : Keep h0 h5 [a1] := K3.wr W5 (Or.inl (List.mem_of_getElem? (i := 0) rfl))
  obtain ⟨Lg5, Xg5, Ng5⟩ := Stand_gen X5 N5
  have fx6 : Ary Z h5 a1 .byte 20 (fun i => if i = 13 then (.int (((p2.toUInt32 >>> ((16 : Int32) &&& 31).toUInt32).toInt32).toInt8.toInt32)) else (fun i => if i = 12 then (.int (((p2.toUInt32 >>> ((24 : Int32) &&& 31).toUInt32).toInt32).toInt8.toInt32)) else f_a1 i) i) := fx4.same W5
  refine Run.go st5 ?_
  show Run p e below s 0 0 (Q_rm2_12 Z a1 p2 f_a1 h0 n0) (T5.setTop (mkF m 18 #[.val (.ref a1), .val (.int (12 : Int32)), .val (.int p2)] []))
  refine Run.go (fun _ k => XS.aloadN Xg5.here hx rfl (hb hby d2_18) rfl rfl k) ?_
  show Run p e below s 0 0 (Q_rm2_12 Z a1 p2 f_a1 h0 n0) (T5.setTop (mkF m 19 #[.val (.ref a1), .val (.int (12 : Int32)), .val (.int p2)] [(.ref a1)]))
  refine Run.go (fun _ k => XS.iloadN Xg5.here hx rfl (hb hby d2_19) rfl  k) ?_
  show Run p e below s 0 0 (Q_rm2_12 Z a1 p2 f_a1 h0 n0) (T5.setTop (mkF m 20 #[.val (.ref a1), .val (.int (12 : Int32)), .val (.int p2)] [(.int (12 : Int32)), (.ref a1)]))
  refine Run.go (fun _ k => XS.iconst Xg5.here hx rfl (hb hby d2_20) k) ?_
  show Run p e below s 0 0 (Q_rm2_12 Z a1 p2 f_a1 h0 n0) (T5.setTop (mkF m 21 #[.val (.ref a1), .val (.int (12 : Int32)), .val (.int p2)] [(.int (2 : Int32)), (.int (12 : Int32)), (.ref a1)]))
  refine Run.go (fun _ k => XS.iadd Xg5.here hx rfl (hb hby d2_21) rfl k) ?_
  show Run p e below s 0 0 (Q_rm2_12 Z a1 p2 f_a1 h0 n0) (T5.setTop (mkF m 22 #[.val (.ref a1), .val (.int (12 : Int32)), .val (.int p2)] [(.int (14 : Int32)), (.ref a1)]))
  refine Run.go (fun _ k => XS.iloadN Xg5.here hx rfl (hb hby d2_22) rfl  k) ?_
  show Run p e below s 0 0 (Q_rm2_12 Z a1 p2 f_a1 h0 n0) (T5.setTop (mkF m 23 #[.val (.ref a1), .val (.int (12 : Int32)), .val (.int p2)] [(.int p2), (.int (14 : Int32)), (.ref a1)]))
  refine Run.go (fun _ k => XS.bipush Xg5.here hx rfl (hb hby d2_23) k) ?_
  show Run p e below s 0 0 (Q_rm2_12 Z a1 p2 f_a1 h0 n0) (T5.setTop (mkF m 25 #[.val (.ref a1), .val (.int (12 : Int32)), .val (.int p2)] [(.int (8 : Int32)), (.int p2), (.int (14 : Int32)), (.ref a1)]))
  refine Run.go (fun _ k => XS.iushr Xg5.here hx rfl (hb hby d2_25) rfl k) ?_
  show Run p e below s 0 0 (Q_rm2_12 Z a1 p2 f_a1 h0 n0) (T5.setTop (mkF m 26 #[.val (.ref a1), .val (.int (12 : Int32)), .val (.int p2)] [(.int ((p2.toUInt32 >>> ((8 : Int32) &&& 31).toUInt32).toInt32)), (.int (14 : Int32)), (.ref a1)]))
  refine Run.go (fun _ k => XS.i2b Xg5.here hx rfl (hb hby d2_26) rfl k) ?_
  show Run p e below s 0 0 (Q_rm2_12 Z a1 p2 f_a1 h0 n0) (T5.setTop (mkF m 27 #[.val (.ref a1), .val (.int (12 : Int32)), .val (.int p2)] [(.int (((p2.toUInt32 >>> ((8 : Int32) &&& 31).toUInt32).toInt32).toInt8.toInt32)), (.int (14 : Int32)), (.ref a1)]))
  obtain ⟨T7, h7, X7, e7, W7, st7⟩ := ary_bset Xg5 hx hZ e5 fx6 (by decide) (by decide) (g := (mkF m 27 #[.val (.ref a1), .val (.int (12 : Int32)), .val (.int p2)] [(.int (((p2.toUInt32 >>> ((8 : Int32) &&& 31).toUInt32).toInt32).toInt8.toInt32)), (.int (14 : Int32)), (.ref a1)])) rfl rfl (hb hby d2_27) (y := (((p2.toUInt32 >>> ((8 : Int32) &&& 31).toUInt32).toInt32).toInt8.toInt32)) (b_idem _)
  have N7 := Fr.snoc X7 Ng5 g_a1
  have Z7 : n0 ≤ h7.size := Nat.le_trans Z5 (Keep.of_wr W7).1
  have K7 : Keep h0 h7 [a1] := K5.wr W7 (Or.inl (List.mem_of_getElem? (i := 0) rfl))
  obtain ⟨Lg7, Xg7, Ng7⟩ := Stand_gen X7 N7
  have fx8 : Ary Z h7 a1 .byte 20 (fun i => if i = 14 then (.int (((p2.toUInt32 >>> ((8 : Int32) &&& 31).toUInt32).toInt32).toInt8.toInt32)) else (fun i => if i = 13 then (.int (((p2.toUInt32 >>> ((16 : Int32) &&& 31).toUInt32).toInt32).toInt8.toInt32)) else (fun i => if i = 12 then (.int (((p2.toUInt32 >>> ((24 : Int32) &&& 31).toUInt32).toInt32).toInt8.toInt32)) else f_a1 i) i) i) := fx6.same W7
  refine Run.go st7 ?_
  show Run p e below s 0 0 (Q_rm2_12 Z a1 p2 f_a1 h0 n0) (T7.setTop (mkF m 28 #[.val (.ref a1), .val (.int (12 : Int32)), .val (.int p2)] []))
  refine Run.go (fun _ k => XS.aloadN Xg7.here hx rfl (hb hby d2_28) rfl rfl k) ?_
  show Run p e below s 0 0 (Q_rm2_12 Z a1 p2 f_a1 h0 n0) (T7.setTop (mkF m 29 #[.val (.ref a1), .val (.int (12 : Int32)), .val (.int p2)] [(.ref a1)]))
  refine Run.go (fun _ k => XS.iloadN Xg7.here hx rfl (hb hby d2_29) rfl  k) ?_
  show Run p e below s 0 0 (Q_rm2_12 Z a1 p2 f_a1 h0 n0) (T7.setTop (mkF m 30 #[.val (.ref a1), .val (.int (12 : Int32)), .val (.int p2)] [(.int (12 : Int32)), (.ref a1)]))
  refine Run.go (fun _ k => XS.iconst Xg7.here hx rfl (hb hby d2_30) k) ?_
  show Run p e below s 0 0 (Q_rm2_12 Z a1 p2 f_a1 h0 n0) (T7.setTop (mkF m 31 #[.val (.ref a1), .val (.int (12 : Int32)), .val (.int p2)] [(.int (3 : Int32)), (.int (12 : Int32)), (.ref a1)]))
  refine Run.go (fun _ k => XS.iadd Xg7.here hx rfl (hb hby d2_31) rfl k) ?_
  show Run p e below s 0 0 (Q_rm2_12 Z a1 p2 f_a1 h0 n0) (T7.setTop (mkF m 32 #[.val (.ref a1), .val (.int (12 : Int32)), .val (.int p2)] [(.int (15 : Int32)), (.ref a1)]))
  refine Run.go (fun _ k => XS.iloadN Xg7.here hx rfl (hb hby d2_32) rfl  k) ?_
  show Run p e below s 0 0 (Q_rm2_12 Z a1 p2 f_a1 h0 n0) (T7.setTop (mkF m 33 #[.val (.ref a1), .val (.int (12 : Int32)), .val (.int p2)] [(.int p2), (.int (15 : Int32)), (.ref a1)]))
  refine Run.go (fun _ k => XS.i2b Xg7.here hx rfl (hb hby d2_33) rfl k) ?_
  show Run p e below s 0 0 (Q_rm2_12 Z a1 p2 f_a1 h0 n0) (T7.setTop (mkF m 34 #[.val (.ref a1), .val (.int (12 : Int32)), .val (.int p2)] [(.int (p2.toInt8.toInt32)), (.int (15 : Int32)), (.ref a1)]))
  obtain ⟨T9, h9, X9, e9, W9, st9⟩ := ary_bset Xg7 hx hZ e7 fx8 (by decide) (by decide) (g := (mkF m 34 #[.val (.ref a1), .val (.int (12 : Int32)), .val (.int p2)] [(.int (p2.toInt8.toInt32)), (.int (15 : Int32)), (.ref a1)])) rfl rfl (hb hby d2_34) (y := (p2.toInt8.toInt32)) (b_idem _)
  have N9 := Fr.snoc X9 Ng7 g_a1
  have Z9 : n0 ≤ h9.size := Nat.le_trans Z7 (Keep.of_wr W9).1
  have K9 : Keep h0 h9 [a1] := K7.wr W9 (Or.inl (List.mem_of_getElem? (i := 0) rfl))
  obtain ⟨Lg9, Xg9, Ng9⟩ := Stand_gen X9 N9
  have fx10 : Ary Z h9 a1 .byte 20 (fun i => if i = 15 then (.int (p2.toInt8.toInt32)) else (fun i => if i = 14 then (.int (((p2.toUInt32 >>> ((8 : Int32) &&& 31).toUInt32).toInt32).toInt8.toInt32)) else (fun i => if i = 13 then (.int (((p2.toUInt32 >>> ((16 : Int32) &&& 31).toUInt32).toInt32).toInt8.toInt32)) else (fun i => if i = 12 then (.int (((p2.toUInt32 >>> ((24 : Int32) &&& 31).toUInt32).toInt32).toInt8.toInt32)) else f_a1 i) i) i) i) := fx8.same W9
  refine Run.go st9 ?_
  show Run p e below s 0 0 (Q_rm2_12 Z a1 p2 f_a1 h0 n0) (T9.setTop (mkF m 35 #[.val (.ref a1), .val (.int (12 : Int32)), .val (.int p2)] []))
  refine Run.ret0 Xg9 hx Bd.returns Bd.notSynchronized (hb hby d2_35) (by decide) (by decide) ?_
  show Q_rm2_12 Z a1 p2 f_a1 h0 n0 _ T9.heap _
  rw [e9]
  exact ⟨rfl, Ng9, K9, fx10⟩
def Q_rm2_16 (Z : State) (a1 : Addr) (p2 : Int32) (f_a1 : Nat → Value) (h0 : Heap) (n0 : Nat) (v : Option Value) (h : Heap) (L : List Loc) : Prop := v = none ∧ Fr n0 L ∧ Keep h0 h [a1] ∧ Ary Z h a1 .byte 20 (fun i => if i = 19 then (.int (p2.toInt8.toInt32)) else (fun i => if i = 18 then (.int (((p2.toUInt32 >>> ((8 : Int32) &&& 31).toUInt32).toInt32).toInt8.toInt32)) else (fun i => if i = 17 then (.int (((p2.toUInt32 >>> ((16 : Int32) &&& 31).toUInt32).toInt32).toInt8.toInt32)) else (fun i => if i = 16 then (.int (((p2.toUInt32 >>> ((24 : Int32) &&& 31).toUInt32).toInt32).toInt8.toInt32)) else f_a1 i) i) i) i)
theorem ef_rm2_16 (m : MethodId) (x0 : Addr) (x2 : Int32) : entryFrame m #[(.ref x0), (.int (16 : Int32)), (.int x2)] 3 = mkF m 0 #[.val (.ref x0), .val (.int (16 : Int32)), .val (.int x2)] [] := by first | (simp [entryFrame, mkF, argsToLocals, Value.category]; done) | rfl
set_option maxRecDepth 65536 in
set_option maxHeartbeats 40000000 in
theorem rm2_16 (l : Launch) (Z : State) (a0 : Array Value) (hw : ∀ d ∈ tables_1, d.before a0 Z = true) (ws : List Jvm.Cond) (a1 : Addr) (p2 : Int32) (f_a1 : Nat → Value) (h0 : Heap) (n0 : Nat) (Z0 : n0 ≤ h0.size) (A_a1 : Ary Z h0 a1 .byte 20 f_a1) (g_a1 : n0 ≤ a1) :
    MetFree l (⟨"com/example/comera/comera/diameter/DiameterMessageLengthPinLaw", "put", "([BII)V"⟩ : MethodName) (head1 (Jvm.Cond.code (⟨"com/example/comera/comera/diameter/DiameterMessageLengthPinLaw", "put", "([BII)V"⟩ : MethodName) method_2_code 3 none :: ws) ({ frames := 0, cells := 0, slots := 0, locals := 0 } : Room)) (fun a U => a = #[(.ref a1), (.int (16 : Int32)), (.int p2)] ∧ Z.Warmed39 U.vm ∧ U.heap = h0) (fun _ _ _ _ _ => True) (fun _ U o U' => ∃ v L, o = .returned v ∧ Q_rm2_16 Z a1 p2 f_a1 h0 n0 v U'.heap L ∧ FrameEnd U o U' L ({ frames := 0, cells := 0, slots := 0, locals := 0 } : Room).cells ({ frames := 0, cells := 0, slots := 0, locals := 0 } : Room).slots) := by
  refine MetFree.of_bodySF (plainFor_of_name pn_0) hisR ?_
  intro p e s m args below meth c s₁ Bd hml0 hP hK
  obtain ⟨rfl, hZ, hh⟩ := hP
  have hx := Bd.exec
  have hby := Bd.bytes
  have hml : c.maxLocals = 3 := hml0
  have hown : s.vm.findClass "com/example/comera/comera/diameter/DiameterMessageLengthPinLaw" = some m.cls := findClass_of_methodNamed Bd.named
  have hnm := (name_of_methodNamed Bd.named Bd.method).1
  have X0 : Stand p l e ({ frames := 0, cells := 0, slots := 0, locals := 0 } : Room) s m #[(.ref a1), (.int (16 : Int32)), (.int p2)] below meth c s₁ [] 0 0 := Stand.of_body Bd
  have e0 : s₁.heap = h0 := by rw [← hh, Bd.state]; rfl
  have N0 := Fr.nil n0
  show Run p e below s 0 0 (Q_rm2_16 Z a1 p2 f_a1 h0 n0) (s₁.setTop (entryFrame m #[(.ref a1), (.int (16 : Int32)), (.int p2)] 3))
  refine Run.go (fun _ k => castTop (ef_rm2_16 m a1 p2) k) ?_
  show Run p e below s 0 0 (Q_rm2_16 Z a1 p2 f_a1 h0 n0) (s₁.setTop (mkF m 0 #[.val (.ref a1), .val (.int (16 : Int32)), .val (.int p2)] []))
  refine Run.go (fun _ k => XS.aloadN X0.here hx rfl (hb hby d2_0) rfl rfl k) ?_
  show Run p e below s 0 0 (Q_rm2_16 Z a1 p2 f_a1 h0 n0) (s₁.setTop (mkF m 1 #[.val (.ref a1), .val (.int (16 : Int32)), .val (.int p2)] [(.ref a1)]))
  refine Run.go (fun _ k => XS.iloadN X0.here hx rfl (hb hby d2_1) rfl  k) ?_
  show Run p e below s 0 0 (Q_rm2_16 Z a1 p2 f_a1 h0 n0) (s₁.setTop (mkF m 2 #[.val (.ref a1), .val (.int (16 : Int32)), .val (.int p2)] [(.int (16 : Int32)), (.ref a1)]))
  refine Run.go (fun _ k => XS.iloadN X0.here hx rfl (hb hby d2_2) rfl  k) ?_
  show Run p e below s 0 0 (Q_rm2_16 Z a1 p2 f_a1 h0 n0) (s₁.setTop (mkF m 3 #[.val (.ref a1), .val (.int (16 : Int32)), .val (.int p2)] [(.int p2), (.int (16 : Int32)), (.ref a1)]))
  refine Run.go (fun _ k => XS.bipush X0.here hx rfl (hb hby d2_3) k) ?_
  show Run p e below s 0 0 (Q_rm2_16 Z a1 p2 f_a1 h0 n0) (s₁.setTop (mkF m 5 #[.val (.ref a1), .val (.int (16 : Int32)), .val (.int p2)] [(.int (24 : Int32)), (.int p2), (.int (16 : Int32)), (.ref a1)]))
  refine Run.go (fun _ k => XS.iushr X0.here hx rfl (hb hby d2_5) rfl k) ?_
  show Run p e below s 0 0 (Q_rm2_16 Z a1 p2 f_a1 h0 n0) (s₁.setTop (mkF m 6 #[.val (.ref a1), .val (.int (16 : Int32)), .val (.int p2)] [(.int ((p2.toUInt32 >>> ((24 : Int32) &&& 31).toUInt32).toInt32)), (.int (16 : Int32)), (.ref a1)]))
  refine Run.go (fun _ k => XS.i2b X0.here hx rfl (hb hby d2_6) rfl k) ?_
  show Run p e below s 0 0 (Q_rm2_16 Z a1 p2 f_a1 h0 n0) (s₁.setTop (mkF m 7 #[.val (.ref a1), .val (.int (16 : Int32)), .val (.int p2)] [(.int (((p2.toUInt32 >>> ((24 : Int32) &&& 31).toUInt32).toInt32).toInt8.toInt32)), (.int (16 : Int32)), (.ref a1)]))
  obtain ⟨T3, h3, X3, e3, W3, st3⟩ := ary_bset X0 hx hZ e0 A_a1 (by decide) (by decide) (g := (mkF m 7 #[.val (.ref a1), .val (.int (16 : Int32)), .val (.int p2)] [(.int (((p2.toUInt32 >>> ((24 : Int32) &&& 31).toUInt32).toInt32).toInt8.toInt32)), (.int (16 : Int32)), (.ref a1)])) rfl rfl (hb hby d2_7) (y := (((p2.toUInt32 >>> ((24 : Int32) &&& 31).toUInt32).toInt32).toInt8.toInt32)) (b_idem _)
  have N3 := Fr.snoc X3 N0 g_a1
  have Z3 : n0 ≤ h3.size := Nat.le_trans Z0 (Keep.of_wr W3).1
  have K3 : Keep h0 h3 [a1] := (Keep.refl h0 [a1]).wr W3 (Or.inl (List.mem_of_getElem? (i := 0) rfl))
  obtain ⟨Lg3, Xg3, Ng3⟩ := Stand_gen X3 N3
  have fx4 : Ary Z h3 a1 .byte 20 (fun i => if i = 16 then (.int (((p2.toUInt32 >>> ((24 : Int32) &&& 31).toUInt32).toInt32).toInt8.toInt32)) else f_a1 i) := A_a1.same W3
  refine Run.go st3 ?_
  show Run p e below s 0 0 (Q_rm2_16 Z a1 p2 f_a1 h0 n0) (T3.setTop (mkF m 8 #[.val (.ref a1), .val (.int (16 : Int32)), .val (.int p2)] []))
  refine Run.go (fun _ k => XS.aloadN Xg3.here hx rfl (hb hby d2_8) rfl rfl k) ?_
  show Run p e below s 0 0 (Q_rm2_16 Z a1 p2 f_a1 h0 n0) (T3.setTop (mkF m 9 #[.val (.ref a1), .val (.int (16 : Int32)), .val (.int p2)] [(.ref a1)]))
  refine Run.go (fun _ k => XS.iloadN Xg3.here hx rfl (hb hby d2_9) rfl  k) ?_
  show Run p e below s 0 0 (Q_rm2_16 Z a1 p2 f_a1 h0 n0) (T3.setTop (mkF m 10 #[.val (.ref a1), .val (.int (16 : Int32)), .val (.int p2)] [(.int (16 : Int32)), (.ref a1)]))
  refine Run.go (fun _ k => XS.iconst Xg3.here hx rfl (hb hby d2_10) k) ?_
  show Run p e below s 0 0 (Q_rm2_16 Z a1 p2 f_a1 h0 n0) (T3.setTop (mkF m 11 #[.val (.ref a1), .val (.int (16 : Int32)), .val (.int p2)] [(.int (1 : Int32)), (.int (16 : Int32)), (.ref a1)]))
  refine Run.go (fun _ k => XS.iadd Xg3.here hx rfl (hb hby d2_11) rfl k) ?_
  show Run p e below s 0 0 (Q_rm2_16 Z a1 p2 f_a1 h0 n0) (T3.setTop (mkF m 12 #[.val (.ref a1), .val (.int (16 : Int32)), .val (.int p2)] [(.int (17 : Int32)), (.ref a1)]))
  refine Run.go (fun _ k => XS.iloadN Xg3.here hx rfl (hb hby d2_12) rfl  k) ?_
  show Run p e below s 0 0 (Q_rm2_16 Z a1 p2 f_a1 h0 n0) (T3.setTop (mkF m 13 #[.val (.ref a1), .val (.int (16 : Int32)), .val (.int p2)] [(.int p2), (.int (17 : Int32)), (.ref a1)]))
  refine Run.go (fun _ k => XS.bipush Xg3.here hx rfl (hb hby d2_13) k) ?_
  show Run p e below s 0 0 (Q_rm2_16 Z a1 p2 f_a1 h0 n0) (T3.setTop (mkF m 15 #[.val (.ref a1), .val (.int (16 : Int32)), .val (.int p2)] [(.int (16 : Int32)), (.int p2), (.int (17 : Int32)), (.ref a1)]))
  refine Run.go (fun _ k => XS.iushr Xg3.here hx rfl (hb hby d2_15) rfl k) ?_
  show Run p e below s 0 0 (Q_rm2_16 Z a1 p2 f_a1 h0 n0) (T3.setTop (mkF m 16 #[.val (.ref a1), .val (.int (16 : Int32)), .val (.int p2)] [(.int ((p2.toUInt32 >>> ((16 : Int32) &&& 31).toUInt32).toInt32)), (.int (17 : Int32)), (.ref a1)]))
  refine Run.go (fun _ k => XS.i2b Xg3.here hx rfl (hb hby d2_16) rfl k) ?_
  show Run p e below s 0 0 (Q_rm2_16 Z a1 p2 f_a1 h0 n0) (T3.setTop (mkF m 17 #[.val (.ref a1), .val (.int (16 : Int32)), .val (.int p2)] [(.int (((p2.toUInt32 >>> ((16 : Int32) &&& 31).toUInt32).toInt32).toInt8.toInt32)), (.int (17 : Int32)), (.ref a1)]))
  obtain ⟨T5, h5, X5, e5, W5, st5⟩ := ary_bset Xg3 hx hZ e3 fx4 (by decide) (by decide) (g := (mkF m 17 #[.val (.ref a1), .val (.int (16 : Int32)), .val (.int p2)] [(.int (((p2.toUInt32 >>> ((16 : Int32) &&& 31).toUInt32).toInt32).toInt8.toInt32)), (.int (17 : Int32)), (.ref a1)])) rfl rfl (hb hby d2_17) (y := (((p2.toUInt32 >>> ((16 : Int32) &&& 31).toUInt32).toInt32).toInt8.toInt32)) (b_idem _)
  have N5 := Fr.snoc X5 Ng3 g_a1
  have Z5 : n0 ≤ h5.size := Nat.le_trans Z3 (Keep.of_wr W5).1
  have K5 : Keep h0 h5 [a1] := K3.wr W5 (Or.inl (List.mem_of_getElem? (i := 0) rfl))
  obtain ⟨Lg5, Xg5, Ng5⟩ := Stand_gen X5 N5
  have fx6 : Ary Z h5 a1 .byte 20 (fun i => if i = 17 then (.int (((p2.toUInt32 >>> ((16 : Int32) &&& 31).toUInt32).toInt32).toInt8.toInt32)) else (fun i => if i = 16 then (.int (((p2.toUInt32 >>> ((24 : Int32) &&& 31).toUInt32).toInt32).toInt8.toInt32)) else f_a1 i) i) := fx4.same W5
  refine Run.go st5 ?_
  show Run p e below s 0 0 (Q_rm2_16 Z a1 p2 f_a1 h0 n0) (T5.setTop (mkF m 18 #[.val (.ref a1), .val (.int (16 : Int32)), .val (.int p2)] []))
  refine Run.go (fun _ k => XS.aloadN Xg5.here hx rfl (hb hby d2_18) rfl rfl k) ?_
  show Run p e below s 0 0 (Q_rm2_16 Z a1 p2 f_a1 h0 n0) (T5.setTop (mkF m 19 #[.val (.ref a1), .val (.int (16 : Int32)), .val (.int p2)] [(.ref a1)]))
  refine Run.go (fun _ k => XS.iloadN Xg5.here hx rfl (hb hby d2_19) rfl  k) ?_
  show Run p e below s 0 0 (Q_rm2_16 Z a1 p2 f_a1 h0 n0) (T5.setTop (mkF m 20 #[.val (.ref a1), .val (.int (16 : Int32)), .val (.int p2)] [(.int (16 : Int32)), (.ref a1)]))
  refine Run.go (fun _ k => XS.iconst Xg5.here hx rfl (hb hby d2_20) k) ?_
  show Run p e below s 0 0 (Q_rm2_16 Z a1 p2 f_a1 h0 n0) (T5.setTop (mkF m 21 #[.val (.ref a1), .val (.int (16 : Int32)), .val (.int p2)] [(.int (2 : Int32)), (.int (16 : Int32)), (.ref a1)]))
  refine Run.go (fun _ k => XS.iadd Xg5.here hx rfl (hb hby d2_21) rfl k) ?_
  show Run p e below s 0 0 (Q_rm2_16 Z a1 p2 f_a1 h0 n0) (T5.setTop (mkF m 22 #[.val (.ref a1), .val (.int (16 : Int32)), .val (.int p2)] [(.int (18 : Int32)), (.ref a1)]))
  refine Run.go (fun _ k => XS.iloadN Xg5.here hx rfl (hb hby d2_22) rfl  k) ?_
  show Run p e below s 0 0 (Q_rm2_16 Z a1 p2 f_a1 h0 n0) (T5.setTop (mkF m 23 #[.val (.ref a1), .val (.int (16 : Int32)), .val (.int p2)] [(.int p2), (.int (18 : Int32)), (.ref a1)]))
  refine Run.go (fun _ k => XS.bipush Xg5.here hx rfl (hb hby d2_23) k) ?_
  show Run p e below s 0 0 (Q_rm2_16 Z a1 p2 f_a1 h0 n0) (T5.setTop (mkF m 25 #[.val (.ref a1), .val (.int (16 : Int32)), .val (.int p2)] [(.int (8 : Int32)), (.int p2), (.int (18 : Int32)), (.ref a1)]))
  refine Run.go (fun _ k => XS.iushr Xg5.here hx rfl (hb hby d2_25) rfl k) ?_
  show Run p e below s 0 0 (Q_rm2_16 Z a1 p2 f_a1 h0 n0) (T5.setTop (mkF m 26 #[.val (.ref a1), .val (.int (16 : Int32)), .val (.int p2)] [(.int ((p2.toUInt32 >>> ((8 : Int32) &&& 31).toUInt32).toInt32)), (.int (18 : Int32)), (.ref a1)]))
  refine Run.go (fun _ k => XS.i2b Xg5.here hx rfl (hb hby d2_26) rfl k) ?_
  show Run p e below s 0 0 (Q_rm2_16 Z a1 p2 f_a1 h0 n0) (T5.setTop (mkF m 27 #[.val (.ref a1), .val (.int (16 : Int32)), .val (.int p2)] [(.int (((p2.toUInt32 >>> ((8 : Int32) &&& 31).toUInt32).toInt32).toInt8.toInt32)), (.int (18 : Int32)), (.ref a1)]))
  obtain ⟨T7, h7, X7, e7, W7, st7⟩ := ary_bset Xg5 hx hZ e5 fx6 (by decide) (by decide) (g := (mkF m 27 #[.val (.ref a1), .val (.int (16 : Int32)), .val (.int p2)] [(.int (((p2.toUInt32 >>> ((8 : Int32) &&& 31).toUInt32).toInt32).toInt8.toInt32)), (.int (18 : Int32)), (.ref a1)])) rfl rfl (hb hby d2_27) (y := (((p2.toUInt32 >>> ((8 : Int32) &&& 31).toUInt32).toInt32).toInt8.toInt32)) (b_idem _)
  have N7 := Fr.snoc X7 Ng5 g_a1
  have Z7 : n0 ≤ h7.size := Nat.le_trans Z5 (Keep.of_wr W7).1
  have K7 : Keep h0 h7 [a1] := K5.wr W7 (Or.inl (List.mem_of_getElem? (i := 0) rfl))
  obtain ⟨Lg7, Xg7, Ng7⟩ := Stand_gen X7 N7
  have fx8 : Ary Z h7 a1 .byte 20 (fun i => if i = 18 then (.int (((p2.toUInt32 >>> ((8 : Int32) &&& 31).toUInt32).toInt32).toInt8.toInt32)) else (fun i => if i = 17 then (.int (((p2.toUInt32 >>> ((16 : Int32) &&& 31).toUInt32).toInt32).toInt8.toInt32)) else (fun i => if i = 16 then (.int (((p2.toUInt32 >>> ((24 : Int32) &&& 31).toUInt32).toInt32).toInt8.toInt32)) else f_a1 i) i) i) := fx6.same W7
  refine Run.go st7 ?_
  show Run p e below s 0 0 (Q_rm2_16 Z a1 p2 f_a1 h0 n0) (T7.setTop (mkF m 28 #[.val (.ref a1), .val (.int (16 : Int32)), .val (.int p2)] []))
  refine Run.go (fun _ k => XS.aloadN Xg7.here hx rfl (hb hby d2_28) rfl rfl k) ?_
  show Run p e below s 0 0 (Q_rm2_16 Z a1 p2 f_a1 h0 n0) (T7.setTop (mkF m 29 #[.val (.ref a1), .val (.int (16 : Int32)), .val (.int p2)] [(.ref a1)]))
  refine Run.go (fun _ k => XS.iloadN Xg7.here hx rfl (hb hby d2_29) rfl  k) ?_
  show Run p e below s 0 0 (Q_rm2_16 Z a1 p2 f_a1 h0 n0) (T7.setTop (mkF m 30 #[.val (.ref a1), .val (.int (16 : Int32)), .val (.int p2)] [(.int (16 : Int32)), (.ref a1)]))
  refine Run.go (fun _ k => XS.iconst Xg7.here hx rfl (hb hby d2_30) k) ?_
  show Run p e below s 0 0 (Q_rm2_16 Z a1 p2 f_a1 h0 n0) (T7.setTop (mkF m 31 #[.val (.ref a1), .val (.int (16 : Int32)), .val (.int p2)] [(.int (3 : Int32)), (.int (16 : Int32)), (.ref a1)]))
  refine Run.go (fun _ k => XS.iadd Xg7.here hx rfl (hb hby d2_31) rfl k) ?_
  show Run p e below s 0 0 (Q_rm2_16 Z a1 p2 f_a1 h0 n0) (T7.setTop (mkF m 32 #[.val (.ref a1), .val (.int (16 : Int32)), .val (.int p2)] [(.int (19 : Int32)), (.ref a1)]))
  refine Run.go (fun _ k => XS.iloadN Xg7.here hx rfl (hb hby d2_32) rfl  k) ?_
  show Run p e below s 0 0 (Q_rm2_16 Z a1 p2 f_a1 h0 n0) (T7.setTop (mkF m 33 #[.val (.ref a1), .val (.int (16 : Int32)), .val (.int p2)] [(.int p2), (.int (19 : Int32)), (.ref a1)]))
  refine Run.go (fun _ k => XS.i2b Xg7.here hx rfl (hb hby d2_33) rfl k) ?_
  show Run p e below s 0 0 (Q_rm2_16 Z a1 p2 f_a1 h0 n0) (T7.setTop (mkF m 34 #[.val (.ref a1), .val (.int (16 : Int32)), .val (.int p2)] [(.int (p2.toInt8.toInt32)), (.int (19 : Int32)), (.ref a1)]))
  obtain ⟨T9, h9, X9, e9, W9, st9⟩ := ary_bset Xg7 hx hZ e7 fx8 (by decide) (by decide) (g := (mkF m 34 #[.val (.ref a1), .val (.int (16 : Int32)), .val (.int p2)] [(.int (p2.toInt8.toInt32)), (.int (19 : Int32)), (.ref a1)])) rfl rfl (hb hby d2_34) (y := (p2.toInt8.toInt32)) (b_idem _)
  have N9 := Fr.snoc X9 Ng7 g_a1
  have Z9 : n0 ≤ h9.size := Nat.le_trans Z7 (Keep.of_wr W9).1
  have K9 : Keep h0 h9 [a1] := K7.wr W9 (Or.inl (List.mem_of_getElem? (i := 0) rfl))
  obtain ⟨Lg9, Xg9, Ng9⟩ := Stand_gen X9 N9
  have fx10 : Ary Z h9 a1 .byte 20 (fun i => if i = 19 then (.int (p2.toInt8.toInt32)) else (fun i => if i = 18 then (.int (((p2.toUInt32 >>> ((8 : Int32) &&& 31).toUInt32).toInt32).toInt8.toInt32)) else (fun i => if i = 17 then (.int (((p2.toUInt32 >>> ((16 : Int32) &&& 31).toUInt32).toInt32).toInt8.toInt32)) else (fun i => if i = 16 then (.int (((p2.toUInt32 >>> ((24 : Int32) &&& 31).toUInt32).toInt32).toInt8.toInt32)) else f_a1 i) i) i) i) := fx8.same W9
  refine Run.go st9 ?_
  show Run p e below s 0 0 (Q_rm2_16 Z a1 p2 f_a1 h0 n0) (T9.setTop (mkF m 35 #[.val (.ref a1), .val (.int (16 : Int32)), .val (.int p2)] []))
  refine Run.ret0 Xg9 hx Bd.returns Bd.notSynchronized (hb hby d2_35) (by decide) (by decide) ?_
  show Q_rm2_16 Z a1 p2 f_a1 h0 n0 _ T9.heap _
  rw [e9]
  exact ⟨rfl, Ng9, K9, fx10⟩
theorem d3_0 : decode prog_73_method_5_code 0 = .ok (.aload_n 0, 1) := by decide +kernel
theorem d3_1 : decode prog_73_method_5_code 1 = .ok (.iconst 0, 1) := by decide +kernel
theorem d3_2 : decode prog_73_method_5_code 2 = .ok (.baload, 1) := by decide +kernel
theorem d3_3 : decode prog_73_method_5_code 3 = .ok (.sipush 255, 3) := by decide +kernel
theorem d3_6 : decode prog_73_method_5_code 6 = .ok (.iand, 1) := by decide +kernel
theorem d3_7 : decode prog_73_method_5_code 7 = .ok (.istore_n 1, 1) := by decide +kernel
theorem d3_8 : decode prog_73_method_5_code 8 = .ok (.iload_n 1, 1) := by decide +kernel
theorem d3_9 : decode prog_73_method_5_code 9 = .ok (.iconst 1, 1) := by decide +kernel
theorem d3_10 : decode prog_73_method_5_code 10 = .ok (.if_icmp .eq 18, 3) := by decide +kernel
theorem d3_28 : decode prog_73_method_5_code 28 = .ok (.aload_n 0, 1) := by decide +kernel
theorem d3_29 : decode prog_73_method_5_code 29 = .ok (.iconst 1, 1) := by decide +kernel
theorem d3_30 : decode prog_73_method_5_code 30 = .ok (.baload, 1) := by decide +kernel
theorem d3_31 : decode prog_73_method_5_code 31 = .ok (.sipush 255, 3) := by decide +kernel
theorem d3_34 : decode prog_73_method_5_code 34 = .ok (.iand, 1) := by decide +kernel
theorem d3_35 : decode prog_73_method_5_code 35 = .ok (.bipush 16, 2) := by decide +kernel
theorem d3_37 : decode prog_73_method_5_code 37 = .ok (.ishl, 1) := by decide +kernel
theorem d3_38 : decode prog_73_method_5_code 38 = .ok (.aload_n 0, 1) := by decide +kernel
theorem d3_39 : decode prog_73_method_5_code 39 = .ok (.iconst 2, 1) := by decide +kernel
theorem d3_40 : decode prog_73_method_5_code 40 = .ok (.baload, 1) := by decide +kernel
theorem d3_41 : decode prog_73_method_5_code 41 = .ok (.sipush 255, 3) := by decide +kernel
theorem d3_44 : decode prog_73_method_5_code 44 = .ok (.iand, 1) := by decide +kernel
theorem d3_45 : decode prog_73_method_5_code 45 = .ok (.bipush 8, 2) := by decide +kernel
theorem d3_47 : decode prog_73_method_5_code 47 = .ok (.ishl, 1) := by decide +kernel
theorem d3_48 : decode prog_73_method_5_code 48 = .ok (.ior, 1) := by decide +kernel
theorem d3_49 : decode prog_73_method_5_code 49 = .ok (.aload_n 0, 1) := by decide +kernel
theorem d3_50 : decode prog_73_method_5_code 50 = .ok (.iconst 3, 1) := by decide +kernel
theorem d3_51 : decode prog_73_method_5_code 51 = .ok (.baload, 1) := by decide +kernel
theorem d3_52 : decode prog_73_method_5_code 52 = .ok (.sipush 255, 3) := by decide +kernel
theorem d3_55 : decode prog_73_method_5_code 55 = .ok (.iand, 1) := by decide +kernel
theorem d3_56 : decode prog_73_method_5_code 56 = .ok (.ior, 1) := by decide +kernel
theorem d3_57 : decode prog_73_method_5_code 57 = .ok (.istore_n 2, 1) := by decide +kernel
theorem d3_58 : decode prog_73_method_5_code 58 = .ok (.iload_n 2, 1) := by decide +kernel
theorem d3_59 : decode prog_73_method_5_code 59 = .ok (.bipush 20, 2) := by decide +kernel
theorem d3_61 : decode prog_73_method_5_code 61 = .ok (.if_icmp .lt 9, 3) := by decide +kernel
theorem d3_64 : decode prog_73_method_5_code 64 = .ok (.iload_n 2, 1) := by decide +kernel
theorem d3_65 : decode prog_73_method_5_code 65 = .ok (.iconst 4, 1) := by decide +kernel
theorem d3_66 : decode prog_73_method_5_code 66 = .ok (.irem, 1) := by decide +kernel
theorem d3_67 : decode prog_73_method_5_code 67 = .ok (.ifCond .eq 18, 3) := by decide +kernel
theorem d3_85 : decode prog_73_method_5_code 85 = .ok (.iload_n 2, 1) := by decide +kernel
theorem d3_86 : decode prog_73_method_5_code 86 = .ok (.ireturn, 1) := by decide +kernel
def Q_rm3 (Z : State) (a1 : Addr) (f_a1 : Nat → Value) (x2 : Int32) (x3 : Int32) (x4 : Int32) (x5 : Int32) (h0 : Heap) (n0 : Nat) (v : Option Value) (h : Heap) (L : List Loc) : Prop := v = some (.int ((((x3 &&& (255 : Int32)) <<< ((16 : Int32) &&& 31)) ||| ((x4 &&& (255 : Int32)) <<< ((8 : Int32) &&& 31))) ||| (x5 &&& (255 : Int32)))) ∧ Fr n0 L ∧ h = h0
theorem ef_rm3 (m : MethodId) (x0 : Addr) : entryFrame m #[(.ref x0)] 3 = mkF m 0 #[.val (.ref x0), .unset, .unset] [] := by first | (simp [entryFrame, mkF, argsToLocals, Value.category]; done) | rfl
theorem pn_1 : plainName "com/example/comera/comera/diameter/DiameterMessage" = true := by first | (simp [plainName, overriddenIn]; done) | decide +kernel
set_option maxRecDepth 65536 in
set_option maxHeartbeats 40000000 in
theorem rm3 (l : Launch) (Z : State) (a0 : Array Value) (hw : ∀ d ∈ tables_1, d.before a0 Z = true) (ws : List Jvm.Cond) (a1 : Addr) (f_a1 : Nat → Value) (x2 : Int32) (x3 : Int32) (x4 : Int32) (x5 : Int32) (h0 : Heap) (n0 : Nat) (Z0 : n0 ≤ h0.size) (A_a1 : Ary Z h0 a1 .byte 20 f_a1) (hx2 : f_a1 0 = (.int x2)) (hc10 : ((x2 &&& (255 : Int32)) = (1 : Int32))) (hx3 : f_a1 1 = (.int x3)) (hx4 : f_a1 2 = (.int x4)) (hx5 : f_a1 3 = (.int x5)) (hc61 : ¬ (((((x3 &&& (255 : Int32)) <<< ((16 : Int32) &&& 31)) ||| ((x4 &&& (255 : Int32)) <<< ((8 : Int32) &&& 31))) ||| (x5 &&& (255 : Int32))) < (20 : Int32))) (hc67 : ((((((x3 &&& (255 : Int32)) <<< ((16 : Int32) &&& 31)) ||| ((x4 &&& (255 : Int32)) <<< ((8 : Int32) &&& 31))) ||| (x5 &&& (255 : Int32))) % (4 : Int32)) = (0 : Int32))) :
    MetFree l (⟨"com/example/comera/comera/diameter/DiameterMessage", "length", "([B)I"⟩ : MethodName) (head1 (Jvm.Cond.code (⟨"com/example/comera/comera/diameter/DiameterMessage", "length", "([B)I"⟩ : MethodName) prog_73_method_5_code 3 (some .int) :: ws) ({ frames := 0, cells := 0, slots := 0, locals := 0 } : Room)) (fun a U => a = #[(.ref a1)] ∧ Z.Warmed39 U.vm ∧ U.heap = h0) (fun _ _ _ _ _ => True) (fun _ U o U' => ∃ v L, o = .returned v ∧ Q_rm3 Z a1 f_a1 x2 x3 x4 x5 h0 n0 v U'.heap L ∧ FrameEnd U o U' L ({ frames := 0, cells := 0, slots := 0, locals := 0 } : Room).cells ({ frames := 0, cells := 0, slots := 0, locals := 0 } : Room).slots) := by
  refine MetFree.of_bodySF (plainFor_of_name pn_1) hisR ?_
  intro p e s m args below meth c s₁ Bd hml0 hP hK
  obtain ⟨rfl, hZ, hh⟩ := hP
  have hx := Bd.exec
  have hby := Bd.bytes
  have hml : c.maxLocals = 3 := hml0
  have hown : s.vm.findClass "com/example/comera/comera/diameter/DiameterMessage" = some m.cls := findClass_of_methodNamed Bd.named
  have hnm := (name_of_methodNamed Bd.named Bd.method).1
  have X0 : Stand p l e ({ frames := 0, cells := 0, slots := 0, locals := 0 } : Room) s m #[(.ref a1)] below meth c s₁ [] 0 0 := Stand.of_body Bd
  have e0 : s₁.heap = h0 := by rw [← hh, Bd.state]; rfl
  have N0 := Fr.nil n0
  show Run p e below s 0 0 (Q_rm3 Z a1 f_a1 x2 x3 x4 x5 h0 n0) (s₁.setTop (entryFrame m #[(.ref a1)] 3))
  refine Run.go (fun _ k => castTop (ef_rm3 m a1) k) ?_
  show Run p e below s 0 0 (Q_rm3 Z a1 f_a1 x2 x3 x4 x5 h0 n0) (s₁.setTop (mkF m 0 #[.val (.ref a1), .unset, .unset] []))
  refine Run.go (fun _ k => XS.aloadN X0.here hx rfl (hb hby d3_0) rfl rfl k) ?_
  show Run p e below s 0 0 (Q_rm3 Z a1 f_a1 x2 x3 x4 x5 h0 n0) (s₁.setTop (mkF m 1 #[.val (.ref a1), .unset, .unset] [(.ref a1)]))
  refine Run.go (fun _ k => XS.iconst X0.here hx rfl (hb hby d3_1) k) ?_
  show Run p e below s 0 0 (Q_rm3 Z a1 f_a1 x2 x3 x4 x5 h0 n0) (s₁.setTop (mkF m 2 #[.val (.ref a1), .unset, .unset] [(.int (0 : Int32)), (.ref a1)]))
  refine Run.go (fun _ k => ary_bget X0 hx hZ e0 A_a1 (by decide) (by decide) (g := (mkF m 2 #[.val (.ref a1), .unset, .unset] [(.int (0 : Int32)), (.ref a1)])) rfl rfl (hb hby d3_2) hx2 _ k) ?_
  show Run p e below s 0 0 (Q_rm3 Z a1 f_a1 x2 x3 x4 x5 h0 n0) (s₁.setTop (mkF m 3 #[.val (.ref a1), .unset, .unset] [(.int x2)]))
  refine Run.go (fun _ k => XS.sipush X0.here hx rfl (hb hby d3_3) k) ?_
  show Run p e below s 0 0 (Q_rm3 Z a1 f_a1 x2 x3 x4 x5 h0 n0) (s₁.setTop (mkF m 6 #[.val (.ref a1), .unset, .unset] [(.int (255 : Int32)), (.int x2)]))
  refine Run.go (fun _ k => XS.iand X0.here hx rfl (hb hby d3_6) rfl k) ?_
  show Run p e below s 0 0 (Q_rm3 Z a1 f_a1 x2 x3 x4 x5 h0 n0) (s₁.setTop (mkF m 7 #[.val (.ref a1), .unset, .unset] [(.int (x2 &&& (255 : Int32)))]))
  refine Run.go (fun _ k => XS.istoreN X0.here hx rfl (hb hby d3_7) rfl (l' := #[.val (.ref a1), .val (.int (x2 &&& (255 : Int32))), .unset]) rfl k) ?_
  show Run p e below s 0 0 (Q_rm3 Z a1 f_a1 x2 x3 x4 x5 h0 n0) (s₁.setTop (mkF m 8 #[.val (.ref a1), .val (.int (x2 &&& (255 : Int32))), .unset] []))
  refine Run.go (fun _ k => XS.iloadN X0.here hx rfl (hb hby d3_8) rfl  k) ?_
  show Run p e below s 0 0 (Q_rm3 Z a1 f_a1 x2 x3 x4 x5 h0 n0) (s₁.setTop (mkF m 9 #[.val (.ref a1), .val (.int (x2 &&& (255 : Int32))), .unset] [(.int (x2 &&& (255 : Int32)))]))
  refine Run.go (fun _ k => XS.iconst X0.here hx rfl (hb hby d3_9) k) ?_
  show Run p e below s 0 0 (Q_rm3 Z a1 f_a1 x2 x3 x4 x5 h0 n0) (s₁.setTop (mkF m 10 #[.val (.ref a1), .val (.int (x2 &&& (255 : Int32))), .unset] [(.int (1 : Int32)), (.int (x2 &&& (255 : Int32)))]))
  refine Run.go (fun _ k => XS.icmpYes X0.here hx rfl (pc0 := 10) (pc' := 28) rfl (hb hby d3_10) rfl (teq hc10).1 (by decide) (by decide) k) ?_
  show Run p e below s 0 0 (Q_rm3 Z a1 f_a1 x2 x3 x4 x5 h0 n0) (s₁.setTop (mkF m 28 #[.val (.ref a1), .val (.int (x2 &&& (255 : Int32))), .unset] []))
  refine Run.go (fun _ k => XS.aloadN X0.here hx rfl (hb hby d3_28) rfl rfl k) ?_
  show Run p e below s 0 0 (Q_rm3 Z a1 f_a1 x2 x3 x4 x5 h0 n0) (s₁.setTop (mkF m 29 #[.val (.ref a1), .val (.int (x2 &&& (255 : Int32))), .unset] [(.ref a1)]))
  refine Run.go (fun _ k => XS.iconst X0.here hx rfl (hb hby d3_29) k) ?_
  show Run p e below s 0 0 (Q_rm3 Z a1 f_a1 x2 x3 x4 x5 h0 n0) (s₁.setTop (mkF m 30 #[.val (.ref a1), .val (.int (x2 &&& (255 : Int32))), .unset] [(.int (1 : Int32)), (.ref a1)]))
  refine Run.go (fun _ k => ary_bget X0 hx hZ e0 A_a1 (by decide) (by decide) (g := (mkF m 30 #[.val (.ref a1), .val (.int (x2 &&& (255 : Int32))), .unset] [(.int (1 : Int32)), (.ref a1)])) rfl rfl (hb hby d3_30) hx3 _ k) ?_
  show Run p e below s 0 0 (Q_rm3 Z a1 f_a1 x2 x3 x4 x5 h0 n0) (s₁.setTop (mkF m 31 #[.val (.ref a1), .val (.int (x2 &&& (255 : Int32))), .unset] [(.int x3)]))
  refine Run.go (fun _ k => XS.sipush X0.here hx rfl (hb hby d3_31) k) ?_
  show Run p e below s 0 0 (Q_rm3 Z a1 f_a1 x2 x3 x4 x5 h0 n0) (s₁.setTop (mkF m 34 #[.val (.ref a1), .val (.int (x2 &&& (255 : Int32))), .unset] [(.int (255 : Int32)), (.int x3)]))
  refine Run.go (fun _ k => XS.iand X0.here hx rfl (hb hby d3_34) rfl k) ?_
  show Run p e below s 0 0 (Q_rm3 Z a1 f_a1 x2 x3 x4 x5 h0 n0) (s₁.setTop (mkF m 35 #[.val (.ref a1), .val (.int (x2 &&& (255 : Int32))), .unset] [(.int (x3 &&& (255 : Int32)))]))
  refine Run.go (fun _ k => XS.bipush X0.here hx rfl (hb hby d3_35) k) ?_
  show Run p e below s 0 0 (Q_rm3 Z a1 f_a1 x2 x3 x4 x5 h0 n0) (s₁.setTop (mkF m 37 #[.val (.ref a1), .val (.int (x2 &&& (255 : Int32))), .unset] [(.int (16 : Int32)), (.int (x3 &&& (255 : Int32)))]))
  refine Run.go (fun _ k => XS.ishl X0.here hx rfl (hb hby d3_37) rfl k) ?_
  show Run p e below s 0 0 (Q_rm3 Z a1 f_a1 x2 x3 x4 x5 h0 n0) (s₁.setTop (mkF m 38 #[.val (.ref a1), .val (.int (x2 &&& (255 : Int32))), .unset] [(.int ((x3 &&& (255 : Int32)) <<< ((16 : Int32) &&& 31)))]))
  refine Run.go (fun _ k => XS.aloadN X0.here hx rfl (hb hby d3_38) rfl rfl k) ?_
  show Run p e below s 0 0 (Q_rm3 Z a1 f_a1 x2 x3 x4 x5 h0 n0) (s₁.setTop (mkF m 39 #[.val (.ref a1), .val (.int (x2 &&& (255 : Int32))), .unset] [(.ref a1), (.int ((x3 &&& (255 : Int32)) <<< ((16 : Int32) &&& 31)))]))
  refine Run.go (fun _ k => XS.iconst X0.here hx rfl (hb hby d3_39) k) ?_
  show Run p e below s 0 0 (Q_rm3 Z a1 f_a1 x2 x3 x4 x5 h0 n0) (s₁.setTop (mkF m 40 #[.val (.ref a1), .val (.int (x2 &&& (255 : Int32))), .unset] [(.int (2 : Int32)), (.ref a1), (.int ((x3 &&& (255 : Int32)) <<< ((16 : Int32) &&& 31)))]))
  refine Run.go (fun _ k => ary_bget X0 hx hZ e0 A_a1 (by decide) (by decide) (g := (mkF m 40 #[.val (.ref a1), .val (.int (x2 &&& (255 : Int32))), .unset] [(.int (2 : Int32)), (.ref a1), (.int ((x3 &&& (255 : Int32)) <<< ((16 : Int32) &&& 31)))])) rfl rfl (hb hby d3_40) hx4 _ k) ?_
  show Run p e below s 0 0 (Q_rm3 Z a1 f_a1 x2 x3 x4 x5 h0 n0) (s₁.setTop (mkF m 41 #[.val (.ref a1), .val (.int (x2 &&& (255 : Int32))), .unset] [(.int x4), (.int ((x3 &&& (255 : Int32)) <<< ((16 : Int32) &&& 31)))]))
  refine Run.go (fun _ k => XS.sipush X0.here hx rfl (hb hby d3_41) k) ?_
  show Run p e below s 0 0 (Q_rm3 Z a1 f_a1 x2 x3 x4 x5 h0 n0) (s₁.setTop (mkF m 44 #[.val (.ref a1), .val (.int (x2 &&& (255 : Int32))), .unset] [(.int (255 : Int32)), (.int x4), (.int ((x3 &&& (255 : Int32)) <<< ((16 : Int32) &&& 31)))]))
  refine Run.go (fun _ k => XS.iand X0.here hx rfl (hb hby d3_44) rfl k) ?_
  show Run p e below s 0 0 (Q_rm3 Z a1 f_a1 x2 x3 x4 x5 h0 n0) (s₁.setTop (mkF m 45 #[.val (.ref a1), .val (.int (x2 &&& (255 : Int32))), .unset] [(.int (x4 &&& (255 : Int32))), (.int ((x3 &&& (255 : Int32)) <<< ((16 : Int32) &&& 31)))]))
  refine Run.go (fun _ k => XS.bipush X0.here hx rfl (hb hby d3_45) k) ?_
  show Run p e below s 0 0 (Q_rm3 Z a1 f_a1 x2 x3 x4 x5 h0 n0) (s₁.setTop (mkF m 47 #[.val (.ref a1), .val (.int (x2 &&& (255 : Int32))), .unset] [(.int (8 : Int32)), (.int (x4 &&& (255 : Int32))), (.int ((x3 &&& (255 : Int32)) <<< ((16 : Int32) &&& 31)))]))
  refine Run.go (fun _ k => XS.ishl X0.here hx rfl (hb hby d3_47) rfl k) ?_
  show Run p e below s 0 0 (Q_rm3 Z a1 f_a1 x2 x3 x4 x5 h0 n0) (s₁.setTop (mkF m 48 #[.val (.ref a1), .val (.int (x2 &&& (255 : Int32))), .unset] [(.int ((x4 &&& (255 : Int32)) <<< ((8 : Int32) &&& 31))), (.int ((x3 &&& (255 : Int32)) <<< ((16 : Int32) &&& 31)))]))
  refine Run.go (fun _ k => XS.ior X0.here hx rfl (hb hby d3_48) rfl k) ?_
  show Run p e below s 0 0 (Q_rm3 Z a1 f_a1 x2 x3 x4 x5 h0 n0) (s₁.setTop (mkF m 49 #[.val (.ref a1), .val (.int (x2 &&& (255 : Int32))), .unset] [(.int (((x3 &&& (255 : Int32)) <<< ((16 : Int32) &&& 31)) ||| ((x4 &&& (255 : Int32)) <<< ((8 : Int32) &&& 31))))]))
  refine Run.go (fun _ k => XS.aloadN X0.here hx rfl (hb hby d3_49) rfl rfl k) ?_
  show Run p e below s 0 0 (Q_rm3 Z a1 f_a1 x2 x3 x4 x5 h0 n0) (s₁.setTop (mkF m 50 #[.val (.ref a1), .val (.int (x2 &&& (255 : Int32))), .unset] [(.ref a1), (.int (((x3 &&& (255 : Int32)) <<< ((16 : Int32) &&& 31)) ||| ((x4 &&& (255 : Int32)) <<< ((8 : Int32) &&& 31))))]))
  refine Run.go (fun _ k => XS.iconst X0.here hx rfl (hb hby d3_50) k) ?_
  show Run p e below s 0 0 (Q_rm3 Z a1 f_a1 x2 x3 x4 x5 h0 n0) (s₁.setTop (mkF m 51 #[.val (.ref a1), .val (.int (x2 &&& (255 : Int32))), .unset] [(.int (3 : Int32)), (.ref a1), (.int (((x3 &&& (255 : Int32)) <<< ((16 : Int32) &&& 31)) ||| ((x4 &&& (255 : Int32)) <<< ((8 : Int32) &&& 31))))]))
  refine Run.go (fun _ k => ary_bget X0 hx hZ e0 A_a1 (by decide) (by decide) (g := (mkF m 51 #[.val (.ref a1), .val (.int (x2 &&& (255 : Int32))), .unset] [(.int (3 : Int32)), (.ref a1), (.int (((x3 &&& (255 : Int32)) <<< ((16 : Int32) &&& 31)) ||| ((x4 &&& (255 : Int32)) <<< ((8 : Int32) &&& 31))))])) rfl rfl (hb hby d3_51) hx5 _ k) ?_
  show Run p e below s 0 0 (Q_rm3 Z a1 f_a1 x2 x3 x4 x5 h0 n0) (s₁.setTop (mkF m 52 #[.val (.ref a1), .val (.int (x2 &&& (255 : Int32))), .unset] [(.int x5), (.int (((x3 &&& (255 : Int32)) <<< ((16 : Int32) &&& 31)) ||| ((x4 &&& (255 : Int32)) <<< ((8 : Int32) &&& 31))))]))
  refine Run.go (fun _ k => XS.sipush X0.here hx rfl (hb hby d3_52) k) ?_
  show Run p e below s 0 0 (Q_rm3 Z a1 f_a1 x2 x3 x4 x5 h0 n0) (s₁.setTop (mkF m 55 #[.val (.ref a1), .val (.int (x2 &&& (255 : Int32))), .unset] [(.int (255 : Int32)), (.int x5), (.int (((x3 &&& (255 : Int32)) <<< ((16 : Int32) &&& 31)) ||| ((x4 &&& (255 : Int32)) <<< ((8 : Int32) &&& 31))))]))
  refine Run.go (fun _ k => XS.iand X0.here hx rfl (hb hby d3_55) rfl k) ?_
  show Run p e below s 0 0 (Q_rm3 Z a1 f_a1 x2 x3 x4 x5 h0 n0) (s₁.setTop (mkF m 56 #[.val (.ref a1), .val (.int (x2 &&& (255 : Int32))), .unset] [(.int (x5 &&& (255 : Int32))), (.int (((x3 &&& (255 : Int32)) <<< ((16 : Int32) &&& 31)) ||| ((x4 &&& (255 : Int32)) <<< ((8 : Int32) &&& 31))))]))
  refine Run.go (fun _ k => XS.ior X0.here hx rfl (hb hby d3_56) rfl k) ?_
  show Run p e below s 0 0 (Q_rm3 Z a1 f_a1 x2 x3 x4 x5 h0 n0) (s₁.setTop (mkF m 57 #[.val (.ref a1), .val (.int (x2 &&& (255 : Int32))), .unset] [(.int ((((x3 &&& (255 : Int32)) <<< ((16 : Int32) &&& 31)) ||| ((x4 &&& (255 : Int32)) <<< ((8 : Int32) &&& 31))) ||| (x5 &&& (255 : Int32))))]))
  refine Run.go (fun _ k => XS.istoreN X0.here hx rfl (hb hby d3_57) rfl (l' := #[.val (.ref a1), .val (.int (x2 &&& (255 : Int32))), .val (.int ((((x3 &&& (255 : Int32)) <<< ((16 : Int32) &&& 31)) ||| ((x4 &&& (255 : Int32)) <<< ((8 : Int32) &&& 31))) ||| (x5 &&& (255 : Int32))))]) rfl k) ?_
  show Run p e below s 0 0 (Q_rm3 Z a1 f_a1 x2 x3 x4 x5 h0 n0) (s₁.setTop (mkF m 58 #[.val (.ref a1), .val (.int (x2 &&& (255 : Int32))), .val (.int ((((x3 &&& (255 : Int32)) <<< ((16 : Int32) &&& 31)) ||| ((x4 &&& (255 : Int32)) <<< ((8 : Int32) &&& 31))) ||| (x5 &&& (255 : Int32))))] []))
  refine Run.go (fun _ k => XS.iloadN X0.here hx rfl (hb hby d3_58) rfl  k) ?_
  show Run p e below s 0 0 (Q_rm3 Z a1 f_a1 x2 x3 x4 x5 h0 n0) (s₁.setTop (mkF m 59 #[.val (.ref a1), .val (.int (x2 &&& (255 : Int32))), .val (.int ((((x3 &&& (255 : Int32)) <<< ((16 : Int32) &&& 31)) ||| ((x4 &&& (255 : Int32)) <<< ((8 : Int32) &&& 31))) ||| (x5 &&& (255 : Int32))))] [(.int ((((x3 &&& (255 : Int32)) <<< ((16 : Int32) &&& 31)) ||| ((x4 &&& (255 : Int32)) <<< ((8 : Int32) &&& 31))) ||| (x5 &&& (255 : Int32))))]))
  refine Run.go (fun _ k => XS.bipush X0.here hx rfl (hb hby d3_59) k) ?_
  show Run p e below s 0 0 (Q_rm3 Z a1 f_a1 x2 x3 x4 x5 h0 n0) (s₁.setTop (mkF m 61 #[.val (.ref a1), .val (.int (x2 &&& (255 : Int32))), .val (.int ((((x3 &&& (255 : Int32)) <<< ((16 : Int32) &&& 31)) ||| ((x4 &&& (255 : Int32)) <<< ((8 : Int32) &&& 31))) ||| (x5 &&& (255 : Int32))))] [(.int (20 : Int32)), (.int ((((x3 &&& (255 : Int32)) <<< ((16 : Int32) &&& 31)) ||| ((x4 &&& (255 : Int32)) <<< ((8 : Int32) &&& 31))) ||| (x5 &&& (255 : Int32))))]))
  refine Run.go (fun _ k => XS.icmpNo X0.here hx rfl (hb hby d3_61) rfl (flt hc61).1 k) ?_
  show Run p e below s 0 0 (Q_rm3 Z a1 f_a1 x2 x3 x4 x5 h0 n0) (s₁.setTop (mkF m 64 #[.val (.ref a1), .val (.int (x2 &&& (255 : Int32))), .val (.int ((((x3 &&& (255 : Int32)) <<< ((16 : Int32) &&& 31)) ||| ((x4 &&& (255 : Int32)) <<< ((8 : Int32) &&& 31))) ||| (x5 &&& (255 : Int32))))] []))
  refine Run.go (fun _ k => XS.iloadN X0.here hx rfl (hb hby d3_64) rfl  k) ?_
  show Run p e below s 0 0 (Q_rm3 Z a1 f_a1 x2 x3 x4 x5 h0 n0) (s₁.setTop (mkF m 65 #[.val (.ref a1), .val (.int (x2 &&& (255 : Int32))), .val (.int ((((x3 &&& (255 : Int32)) <<< ((16 : Int32) &&& 31)) ||| ((x4 &&& (255 : Int32)) <<< ((8 : Int32) &&& 31))) ||| (x5 &&& (255 : Int32))))] [(.int ((((x3 &&& (255 : Int32)) <<< ((16 : Int32) &&& 31)) ||| ((x4 &&& (255 : Int32)) <<< ((8 : Int32) &&& 31))) ||| (x5 &&& (255 : Int32))))]))
  refine Run.go (fun _ k => XS.iconst X0.here hx rfl (hb hby d3_65) k) ?_
  show Run p e below s 0 0 (Q_rm3 Z a1 f_a1 x2 x3 x4 x5 h0 n0) (s₁.setTop (mkF m 66 #[.val (.ref a1), .val (.int (x2 &&& (255 : Int32))), .val (.int ((((x3 &&& (255 : Int32)) <<< ((16 : Int32) &&& 31)) ||| ((x4 &&& (255 : Int32)) <<< ((8 : Int32) &&& 31))) ||| (x5 &&& (255 : Int32))))] [(.int (4 : Int32)), (.int ((((x3 &&& (255 : Int32)) <<< ((16 : Int32) &&& 31)) ||| ((x4 &&& (255 : Int32)) <<< ((8 : Int32) &&& 31))) ||| (x5 &&& (255 : Int32))))]))
  refine Run.go (fun _ k => iremM X0 hx rfl (hb hby d3_66) rfl (by decide) k) ?_
  show Run p e below s 0 0 (Q_rm3 Z a1 f_a1 x2 x3 x4 x5 h0 n0) (s₁.setTop (mkF m 67 #[.val (.ref a1), .val (.int (x2 &&& (255 : Int32))), .val (.int ((((x3 &&& (255 : Int32)) <<< ((16 : Int32) &&& 31)) ||| ((x4 &&& (255 : Int32)) <<< ((8 : Int32) &&& 31))) ||| (x5 &&& (255 : Int32))))] [(.int (((((x3 &&& (255 : Int32)) <<< ((16 : Int32) &&& 31)) ||| ((x4 &&& (255 : Int32)) <<< ((8 : Int32) &&& 31))) ||| (x5 &&& (255 : Int32))) % (4 : Int32)))]))
  refine Run.go (fun _ k => XS.ifYes X0.here hx rfl (pc0 := 67) (pc' := 85) rfl (hb hby d3_67) rfl ((if0 _ _).trans (teq hc67).1) (by decide) (by decide) k) ?_
  show Run p e below s 0 0 (Q_rm3 Z a1 f_a1 x2 x3 x4 x5 h0 n0) (s₁.setTop (mkF m 85 #[.val (.ref a1), .val (.int (x2 &&& (255 : Int32))), .val (.int ((((x3 &&& (255 : Int32)) <<< ((16 : Int32) &&& 31)) ||| ((x4 &&& (255 : Int32)) <<< ((8 : Int32) &&& 31))) ||| (x5 &&& (255 : Int32))))] []))
  refine Run.go (fun _ k => XS.iloadN X0.here hx rfl (hb hby d3_85) rfl  k) ?_
  show Run p e below s 0 0 (Q_rm3 Z a1 f_a1 x2 x3 x4 x5 h0 n0) (s₁.setTop (mkF m 86 #[.val (.ref a1), .val (.int (x2 &&& (255 : Int32))), .val (.int ((((x3 &&& (255 : Int32)) <<< ((16 : Int32) &&& 31)) ||| ((x4 &&& (255 : Int32)) <<< ((8 : Int32) &&& 31))) ||| (x5 &&& (255 : Int32))))] [(.int ((((x3 &&& (255 : Int32)) <<< ((16 : Int32) &&& 31)) ||| ((x4 &&& (255 : Int32)) <<< ((8 : Int32) &&& 31))) ||| (x5 &&& (255 : Int32))))]))
  refine Run.retI X0 hx Bd.returns Bd.notSynchronized (hb hby d3_86) (by decide) (by decide) ?_
  show Q_rm3 Z a1 f_a1 x2 x3 x4 x5 h0 n0 _ s₁.heap _
  exact ⟨rfl, N0, e0⟩
theorem own_eq32 (x y : Int32) (h : (x.toInt - y.toInt) % 4294967296 = 0) : x = y := by
  apply Int32.toInt_inj.mp
  have := rng32 x
  have := rng32 y
  omega
theorem own_len (x : Int32) : 20 ≤ (F_rm1 (20 : Int32) (x &&& (16777212 : Int32))).toInt ∧ (F_rm1 (20 : Int32) (x &&& (16777212 : Int32))).toInt < 16777216 ∧ (F_rm1 (20 : Int32) (x &&& (16777212 : Int32))).toInt % 4 = 0 := by
  have h := c_and x 16777212 (by decide)
  have h3 : (x &&& (16777212 : Int32)).toInt % 4 = 0 := by
    have q := c_mask (x &&& (16777212 : Int32)) 3 2 (by decide) (by decide)
    rw [Int32.and_assoc, show (16777212 : Int32) &&& 3 = 0 from by decide, Int32.and_zero] at q
    have e : ((2 ^ 2 : Nat) : Int) = 4 := rfl
    have e0 : (0 : Int32).toInt = 0 := rfl
    omega
  have e1 : (16777212 : Int32).toInt = 16777212 := rfl
  have e2 : (20 : Int32).toInt = 20 := rfl
  unfold F_rm1
  by_cases q : (20 : Int32) < (x &&& (16777212 : Int32))
  · simp only [if_pos q]
    rw [Int32.lt_iff_toInt_lt] at q
    omega
  · simp only [if_neg q]
    omega
theorem own_back (n : Int32) (h : 0 ≤ n.toInt) (h2 : n.toInt < 16777216) : ((((((n.toUInt32 >>> ((16 : Int32) &&& 31).toUInt32).toInt32).toInt8.toInt32) &&& (255 : Int32)) <<< ((16 : Int32) &&& 31)) ||| (((((n.toUInt32 >>> ((8 : Int32) &&& 31).toUInt32).toInt32).toInt8.toInt32) &&& (255 : Int32)) <<< ((8 : Int32) &&& 31))) ||| ((n.toInt8.toInt32) &&& (255 : Int32)) = n := by
  have u1 := c_iushr n 16 16 (by decide) (by decide)
  have u2 := c_iushr n 8 8 (by decide) (by decide)
  have b1 := c_i2b ((n.toUInt32 >>> ((16 : Int32) &&& 31).toUInt32).toInt32)
  have b2 := c_i2b ((n.toUInt32 >>> ((8 : Int32) &&& 31).toUInt32).toInt32)
  have b3 := c_i2b n
  have m1 := c_mask (((n.toUInt32 >>> ((16 : Int32) &&& 31).toUInt32).toInt32).toInt8.toInt32) 255 8 (by decide) (by decide)
  have m2 := c_mask (((n.toUInt32 >>> ((8 : Int32) &&& 31).toUInt32).toInt32).toInt8.toInt32) 255 8 (by decide) (by decide)
  have m3 := c_mask (n.toInt8.toInt32) 255 8 (by decide) (by decide)
  generalize ((n.toUInt32 >>> ((16 : Int32) &&& 31).toUInt32).toInt32).toInt8.toInt32 &&& (255 : Int32) = a at *
  generalize ((n.toUInt32 >>> ((8 : Int32) &&& 31).toUInt32).toInt32).toInt8.toInt32 &&& (255 : Int32) = b at *
  generalize n.toInt8.toInt32 &&& (255 : Int32) = d at *
  have s1 := c_ishl a 16 16 (by decide)
  have s2 := c_ishl b 8 8 (by decide)
  simp only [show ((2 ^ 16 : Nat) : Int) = 65536 from rfl, show ((2 ^ 8 : Nat) : Int) = 256 from rfl] at *
  have ra := rng32 (a <<< ((16 : Int32) &&& 31))
  have rb := rng32 (b <<< ((8 : Int32) &&& 31))
  have o1 := c_or (a <<< ((16 : Int32) &&& 31)) (b <<< ((8 : Int32) &&& 31)) 16 (by decide) 65536 rfl (by omega) (by omega) (by omega)
  have ro := rng32 ((a <<< ((16 : Int32) &&& 31)) ||| (b <<< ((8 : Int32) &&& 31)))
  have o2 := c_or ((a <<< ((16 : Int32) &&& 31)) ||| (b <<< ((8 : Int32) &&& 31))) d 8 (by decide) 256 rfl (by omega) (by omega) (by omega)
  apply own_eq32
  omega
theorem own_61 (n : Int32) (h : 20 ≤ n.toInt ∧ n.toInt < 16777216 ∧ n.toInt % 4 = 0) : ¬ ((((((((n.toUInt32 >>> ((16 : Int32) &&& 31).toUInt32).toInt32).toInt8.toInt32) &&& (255 : Int32)) <<< ((16 : Int32) &&& 31)) ||| (((((n.toUInt32 >>> ((8 : Int32) &&& 31).toUInt32).toInt32).toInt8.toInt32) &&& (255 : Int32)) <<< ((8 : Int32) &&& 31))) ||| ((n.toInt8.toInt32) &&& (255 : Int32))) < (20 : Int32)) := by
  rw [own_back n (by omega) (by omega), Int32.lt_iff_toInt_lt]
  have e2 : (20 : Int32).toInt = 20 := rfl
  omega
theorem own_67 (n : Int32) (h : 20 ≤ n.toInt ∧ n.toInt < 16777216 ∧ n.toInt % 4 = 0) : (((((((((n.toUInt32 >>> ((16 : Int32) &&& 31).toUInt32).toInt32).toInt8.toInt32) &&& (255 : Int32)) <<< ((16 : Int32) &&& 31)) ||| (((((n.toUInt32 >>> ((8 : Int32) &&& 31).toUInt32).toInt32).toInt8.toInt32) &&& (255 : Int32)) <<< ((8 : Int32) &&& 31))) ||| ((n.toInt8.toInt32) &&& (255 : Int32))) % (4 : Int32)) = (0 : Int32)) := by
  rw [own_back n (by omega) (by omega), ← Int32.toInt_inj]
  have q := (c_irem n 4 4 rfl).1 (by omega)
  have e2 : (0 : Int32).toInt = 0 := rfl
  omega
theorem own_88 (n : Int32) (h : 20 ≤ n.toInt ∧ n.toInt < 16777216 ∧ n.toInt % 4 = 0) : (((((((n.toUInt32 >>> ((16 : Int32) &&& 31).toUInt32).toInt32).toInt8.toInt32) &&& (255 : Int32)) <<< ((16 : Int32) &&& 31)) ||| (((((n.toUInt32 >>> ((8 : Int32) &&& 31).toUInt32).toInt32).toInt8.toInt32) &&& (255 : Int32)) <<< ((8 : Int32) &&& 31))) ||| ((n.toInt8.toInt32) &&& (255 : Int32))) = n := own_back n (by omega) (by omega)
theorem pd_0 : parseMethodDescriptor "(II)I" = some ⟨[.int, .int], some .int⟩ := by decide +kernel
theorem pd_1 : parseMethodDescriptor "([BII)V" = some ⟨[(.array .byte), .int, .int], none⟩ := by decide +kernel
theorem pd_2 : parseMethodDescriptor "([B)I" = some ⟨[(.array .byte)], some .int⟩ := by decide +kernel
def Q_rm0 (Z : State) (p1 : Int32) (p2 : Int32) (p3 : Int32) (p4 : Int32) (p5 : Int32) (h0 : Heap) (n0 : Nat) (v : Option Value) (h : Heap) (L : List Loc) : Prop := v = some (.int 1) ∧ Fr n0 L
theorem ef_rm0 (m : MethodId) (x0 : Int32) (x1 : Int32) (x2 : Int32) (x3 : Int32) (x4 : Int32) : entryFrame m #[(.int x0), (.int x1), (.int x2), (.int x3), (.int x4)] maxLocals = mkF m 0 #[.val (.int x0), .val (.int x1), .val (.int x2), .val (.int x3), .val (.int x4), .unset, .unset] [] := by first | (simp [entryFrame, mkF, argsToLocals, Value.category, maxLocals]; done) | rfl
set_option maxRecDepth 65536 in
set_option maxHeartbeats 40000000 in
theorem rm0 (l : Launch) (Z : State) (a0 : Array Value) (hw : ∀ d ∈ tables_1, d.before a0 Z = true) (ws : List Jvm.Cond) (p1 : Int32) (p2 : Int32) (p3 : Int32) (p4 : Int32) (p5 : Int32) (h0 : Heap) (n0 : Nat) (Z0 : n0 ≤ h0.size)  :
    MetFree l x (head1 (Jvm.Cond.code x code maxLocals ret :: ws) room_1) (fun a U => a = #[(.int p1), (.int p2), (.int p3), (.int p4), (.int p5)] ∧ Z.Warmed39 U.vm ∧ U.heap = h0) (fun _ _ _ _ _ => True) (fun _ U o U' => ∃ v L, o = .returned v ∧ Q_rm0 Z p1 p2 p3 p4 p5 h0 n0 v U'.heap L ∧ FrameEnd U o U' L 1 20) := by
  refine MetFree.of_bodySF (plainFor_of_name pn_0) hisR ?_
  intro p e s m args below meth c s₁ Bd hml0 hP hK
  obtain ⟨rfl, hZ, hh⟩ := hP
  have hx := Bd.exec
  have hby := Bd.bytes
  have hml : c.maxLocals = 7 := hml0
  have hown : s.vm.findClass "com/example/comera/comera/diameter/DiameterMessageLengthPinLaw" = some m.cls := findClass_of_methodNamed Bd.named
  have hnm := (name_of_methodNamed Bd.named Bd.method).1
  have X0 : Stand p l e room_1 s m #[(.int p1), (.int p2), (.int p3), (.int p4), (.int p5)] below meth c s₁ [] 0 0 := Stand.of_body Bd
  have e0 : s₁.heap = h0 := by rw [← hh, Bd.state]; rfl
  have N0 := Fr.nil n0
  show Run p e below s 1 20 (Q_rm0 Z p1 p2 p3 p4 p5 h0 n0) (s₁.setTop (entryFrame m #[(.int p1), (.int p2), (.int p3), (.int p4), (.int p5)] maxLocals))
  refine Run.go (fun _ k => castTop (ef_rm0 m p1 p2 p3 p4 p5) k) ?_
  show Run p e below s 1 20 (Q_rm0 Z p1 p2 p3 p4 p5 h0 n0) (s₁.setTop (mkF m 0 #[.val (.int p1), .val (.int p2), .val (.int p3), .val (.int p4), .val (.int p5), .unset, .unset] []))
  refine Run.go (fun _ k => XS.bipush X0.here hx rfl (hb hby at_0) k) ?_
  show Run p e below s 1 20 (Q_rm0 Z p1 p2 p3 p4 p5 h0 n0) (s₁.setTop (mkF m 2 #[.val (.int p1), .val (.int p2), .val (.int p3), .val (.int p4), .val (.int p5), .unset, .unset] [(.int (20 : Int32))]))
  refine Run.go (fun _ k => XS.iloadN X0.here hx rfl (hb hby at_2) rfl  k) ?_
  show Run p e below s 1 20 (Q_rm0 Z p1 p2 p3 p4 p5 h0 n0) (s₁.setTop (mkF m 3 #[.val (.int p1), .val (.int p2), .val (.int p3), .val (.int p4), .val (.int p5), .unset, .unset] [(.int p1), (.int (20 : Int32))]))
  refine Run.go (fun _ k => X0.ldcInt hx hown (mvT hZ (hw _ (List.mem_of_getElem? (i := 0) rfl))) (g := (mkF m 3 #[.val (.int p1), .val (.int p2), .val (.int p3), .val (.int p4), .val (.int p5), .unset, .unset] [(.int p1), (.int (20 : Int32))])) rfl (hb hby at_3) _ k) ?_
  show Run p e below s 1 20 (Q_rm0 Z p1 p2 p3 p4 p5 h0 n0) (s₁.setTop (mkF m 5 #[.val (.int p1), .val (.int p2), .val (.int p3), .val (.int p4), .val (.int p5), .unset, .unset] [(.int (16777212 : Int32)), (.int p1), (.int (20 : Int32))]))
  refine Run.go (fun _ k => XS.iand X0.here hx rfl (hb hby at_5) rfl k) ?_
  show Run p e below s 1 20 (Q_rm0 Z p1 p2 p3 p4 p5 h0 n0) (s₁.setTop (mkF m 6 #[.val (.int p1), .val (.int p2), .val (.int p3), .val (.int p4), .val (.int p5), .unset, .unset] [(.int (p1 &&& (16777212 : Int32))), (.int (20 : Int32))]))
  obtain ⟨_, _, ⟨T6, L6, k6, n6⟩, -, X6, ⟨Lc6, hQ6, l6, y6, z6⟩, st6⟩ := Jvm.LawKit.callS X0 hx (y := (⟨"java/lang/Math", "max", "(II)I"⟩ : MethodName)) hown (mvT hZ (hw _ (List.mem_of_getElem? (i := 1) rfl))) (mvT hZ (hw _ (List.mem_of_getElem? (i := 2) rfl))) (mvT hZ (hw _ (List.mem_of_getElem? (i := 3) rfl))) (mvT hZ (hw _ (List.mem_of_getElem? (i := 4) rfl))) (by decide) (backOf (W := 0) (rm1 l Z a0 hw [] (20 : Int32) (p1 &&& (16777212 : Int32)) h0 n0 Z0 ) hZ (hw _ (List.mem_of_getElem? (i := 4) rfl)) (hw _ (List.mem_of_getElem? (i := 3) rfl)) (by decide) (by decide)) (g := (mkF m 6 #[.val (.int p1), .val (.int p2), .val (.int p3), .val (.int p4), .val (.int p5), .unset, .unset] [(.int (p1 &&& (16777212 : Int32))), (.int (20 : Int32))])) rfl (by rw [hml]; rfl) (argsL := [(.int (20 : Int32)), (.int (p1 &&& (16777212 : Int32)))]) (rest := []) (lenOf pd_0 rfl) rfl (by show 2 * 0 + _ ≤ _; exact Nat.le_of_eq rfl) (hb hby at_6) (fun _ _ => ⟨rfl, e0, (by decide : 0 + 0 ≤ _), (by decide : 0 + 0 ≤ _)⟩)
  dsimp only [Pt.U, Pt.locs, Pt.cells, Pt.slots] at X6 l6 y6 z6 st6 hQ6
  subst l6 y6 z6
  obtain ⟨rfl, N6q, e6q⟩ := hQ6
  have N6 := Fr.app N0 N6q
  obtain ⟨Lg6, Xg6, Ng6⟩ := Stand_gen X6 N6
  refine Run.go st6 ?_
  show Run p e below s 1 20 (Q_rm0 Z p1 p2 p3 p4 p5 h0 n0) (T6.setTop (mkF m 9 #[.val (.int p1), .val (.int p2), .val (.int p3), .val (.int p4), .val (.int p5), .unset, .unset] [(.int (F_rm1 (20 : Int32) (p1 &&& (16777212 : Int32))))]))
  refine Run.go (fun _ k => XS.istore Xg6.here hx rfl (hb hby at_9) rfl (l' := #[.val (.int p1), .val (.int p2), .val (.int p3), .val (.int p4), .val (.int p5), .val (.int (F_rm1 (20 : Int32) (p1 &&& (16777212 : Int32)))), .unset]) rfl k) ?_
  show Run p e below s 1 20 (Q_rm0 Z p1 p2 p3 p4 p5 h0 n0) (T6.setTop (mkF m 11 #[.val (.int p1), .val (.int p2), .val (.int p3), .val (.int p4), .val (.int p5), .val (.int (F_rm1 (20 : Int32) (p1 &&& (16777212 : Int32)))), .unset] []))
  obtain ⟨z7, hz7⟩ : ∃ z, z = (F_rm1 (20 : Int32) (p1 &&& (16777212 : Int32))) := ⟨_, rfl⟩
  rw [← hz7]
  show Run p e below s 1 20 (Q_rm0 Z p1 p2 p3 p4 p5 h0 n0) (T6.setTop (mkF m 11 #[.val (.int p1), .val (.int p2), .val (.int p3), .val (.int p4), .val (.int p5), .val (.int z7), .unset] []))
  refine Run.go (fun _ k => XS.bipush Xg6.here hx rfl (hb hby at_11) k) ?_
  show Run p e below s 1 20 (Q_rm0 Z p1 p2 p3 p4 p5 h0 n0) (T6.setTop (mkF m 13 #[.val (.int p1), .val (.int p2), .val (.int p3), .val (.int p4), .val (.int p5), .val (.int z7), .unset] [(.int (20 : Int32))]))
  obtain ⟨T8, h8, k8, X8, e8, E8, A8, st8⟩ := newP Xg6 hx hZ (hw _ (List.mem_of_getElem? (i := 5) rfl)) e6q (g := (mkF m 13 #[.val (.int p1), .val (.int p2), .val (.int p3), .val (.int p4), .val (.int p5), .val (.int z7), .unset] [(.int (20 : Int32))])) rfl (hb hby at_13) rfl (by decide) (cap := 20) (by decide) (by decide) (by decide) (by decide)
  obtain ⟨b8, g8⟩ : ∃ z, z = h0.size := ⟨_, rfl⟩
  rw [← g8] at A8 st8
  have g_b8 : n0 ≤ b8 := Nat.le_trans Z0 (Nat.le_of_eq g8.symm)
  have Z8 : n0 ≤ h8.size := Nat.le_trans Z0 E8.1
  have fx9 : Ary Z h8 b8 .byte 20 (fun _ => (.int (0 : Int32))) := Ary.new A8 (by decide)
  obtain ⟨ff10, hff10⟩ : ∃ f : Nat → Value, f = (fun _ => (.int (0 : Int32))) := ⟨_, rfl⟩
  rw [← hff10] at fx9
  refine Run.go st8 ?_
  show Run p e below s 1 20 (Q_rm0 Z p1 p2 p3 p4 p5 h0 n0) (T8.setTop (mkF m 15 #[.val (.int p1), .val (.int p2), .val (.int p3), .val (.int p4), .val (.int p5), .val (.int z7), .unset] [(.ref b8)]))
  refine Run.go (fun _ k => XS.astore X8.here hx rfl (hb hby at_15) rfl rfl (l' := #[.val (.int p1), .val (.int p2), .val (.int p3), .val (.int p4), .val (.int p5), .val (.int z7), .val (.ref b8)]) rfl k) ?_
  show Run p e below s 1 20 (Q_rm0 Z p1 p2 p3 p4 p5 h0 n0) (T8.setTop (mkF m 17 #[.val (.int p1), .val (.int p2), .val (.int p3), .val (.int p4), .val (.int p5), .val (.int z7), .val (.ref b8)] []))
  refine Run.go (fun _ k => XS.aload X8.here hx rfl (hb hby at_17) rfl rfl k) ?_
  show Run p e below s 1 20 (Q_rm0 Z p1 p2 p3 p4 p5 h0 n0) (T8.setTop (mkF m 19 #[.val (.int p1), .val (.int p2), .val (.int p3), .val (.int p4), .val (.int p5), .val (.int z7), .val (.ref b8)] [(.ref b8)]))
  refine Run.go (fun _ k => XS.iconst X8.here hx rfl (hb hby at_19) k) ?_
  show Run p e below s 1 20 (Q_rm0 Z p1 p2 p3 p4 p5 h0 n0) (T8.setTop (mkF m 20 #[.val (.int p1), .val (.int p2), .val (.int p3), .val (.int p4), .val (.int p5), .val (.int z7), .val (.ref b8)] [(.int (0 : Int32)), (.ref b8)]))
  refine Run.go (fun _ k => XS.iconst X8.here hx rfl (hb hby at_20) k) ?_
  show Run p e below s 1 20 (Q_rm0 Z p1 p2 p3 p4 p5 h0 n0) (T8.setTop (mkF m 21 #[.val (.int p1), .val (.int p2), .val (.int p3), .val (.int p4), .val (.int p5), .val (.int z7), .val (.ref b8)] [(.int (1 : Int32)), (.int (0 : Int32)), (.ref b8)]))
  obtain ⟨T11, h11, X11, e11, W11, st11⟩ := ary_bset X8 hx hZ e8 fx9 (by decide) (by decide) (g := (mkF m 21 #[.val (.int p1), .val (.int p2), .val (.int p3), .val (.int p4), .val (.int p5), .val (.int z7), .val (.ref b8)] [(.int (1 : Int32)), (.int (0 : Int32)), (.ref b8)])) rfl rfl (hb hby at_21) (y := (1 : Int32)) (by decide)
  have N11 := Fr.snoc X11 Ng6 g_b8
  have Z11 : n0 ≤ h11.size := Nat.le_trans Z8 (Keep.of_wr W11).1
  obtain ⟨Lg11, Xg11, Ng11⟩ := Stand_gen X11 N11
  have fx12 : Ary Z h11 b8 .byte 20 (fun i => if i = 0 then (.int (1 : Int32)) else ff10 i) := fx9.same W11
  obtain ⟨ff13, hff13⟩ : ∃ f : Nat → Value, f = (fun i => if i = 0 then (.int (1 : Int32)) else ff10 i) := ⟨_, rfl⟩
  rw [← hff13] at fx12
  refine Run.go st11 ?_
  show Run p e below s 1 20 (Q_rm0 Z p1 p2 p3 p4 p5 h0 n0) (T11.setTop (mkF m 22 #[.val (.int p1), .val (.int p2), .val (.int p3), .val (.int p4), .val (.int p5), .val (.int z7), .val (.ref b8)] []))
  refine Run.go (fun _ k => XS.aload Xg11.here hx rfl (hb hby at_22) rfl rfl k) ?_
  show Run p e below s 1 20 (Q_rm0 Z p1 p2 p3 p4 p5 h0 n0) (T11.setTop (mkF m 24 #[.val (.int p1), .val (.int p2), .val (.int p3), .val (.int p4), .val (.int p5), .val (.int z7), .val (.ref b8)] [(.ref b8)]))
  refine Run.go (fun _ k => XS.iconst Xg11.here hx rfl (hb hby at_24) k) ?_
  show Run p e below s 1 20 (Q_rm0 Z p1 p2 p3 p4 p5 h0 n0) (T11.setTop (mkF m 25 #[.val (.int p1), .val (.int p2), .val (.int p3), .val (.int p4), .val (.int p5), .val (.int z7), .val (.ref b8)] [(.int (1 : Int32)), (.ref b8)]))
  refine Run.go (fun _ k => XS.iload Xg11.here hx rfl (hb hby at_25) rfl  k) ?_
  show Run p e below s 1 20 (Q_rm0 Z p1 p2 p3 p4 p5 h0 n0) (T11.setTop (mkF m 27 #[.val (.int p1), .val (.int p2), .val (.int p3), .val (.int p4), .val (.int p5), .val (.int z7), .val (.ref b8)] [(.int z7), (.int (1 : Int32)), (.ref b8)]))
  refine Run.go (fun _ k => XS.bipush Xg11.here hx rfl (hb hby at_27) k) ?_
  show Run p e below s 1 20 (Q_rm0 Z p1 p2 p3 p4 p5 h0 n0) (T11.setTop (mkF m 29 #[.val (.int p1), .val (.int p2), .val (.int p3), .val (.int p4), .val (.int p5), .val (.int z7), .val (.ref b8)] [(.int (16 : Int32)), (.int z7), (.int (1 : Int32)), (.ref b8)]))
  refine Run.go (fun _ k => XS.iushr Xg11.here hx rfl (hb hby at_29) rfl k) ?_
  show Run p e below s 1 20 (Q_rm0 Z p1 p2 p3 p4 p5 h0 n0) (T11.setTop (mkF m 30 #[.val (.int p1), .val (.int p2), .val (.int p3), .val (.int p4), .val (.int p5), .val (.int z7), .val (.ref b8)] [(.int ((z7.toUInt32 >>> ((16 : Int32) &&& 31).toUInt32).toInt32)), (.int (1 : Int32)), (.ref b8)]))
  refine Run.go (fun _ k => XS.i2b Xg11.here hx rfl (hb hby at_30) rfl k) ?_
  show Run p e below s 1 20 (Q_rm0 Z p1 p2 p3 p4 p5 h0 n0) (T11.setTop (mkF m 31 #[.val (.int p1), .val (.int p2), .val (.int p3), .val (.int p4), .val (.int p5), .val (.int z7), .val (.ref b8)] [(.int (((z7.toUInt32 >>> ((16 : Int32) &&& 31).toUInt32).toInt32).toInt8.toInt32)), (.int (1 : Int32)), (.ref b8)]))
  obtain ⟨T14, h14, X14, e14, W14, st14⟩ := ary_bset Xg11 hx hZ e11 fx12 (by decide) (by decide) (g := (mkF m 31 #[.val (.int p1), .val (.int p2), .val (.int p3), .val (.int p4), .val (.int p5), .val (.int z7), .val (.ref b8)] [(.int (((z7.toUInt32 >>> ((16 : Int32) &&& 31).toUInt32).toInt32).toInt8.toInt32)), (.int (1 : Int32)), (.ref b8)])) rfl rfl (hb hby at_31) (y := (((z7.toUInt32 >>> ((16 : Int32) &&& 31).toUInt32).toInt32).toInt8.toInt32)) (b_idem _)
  have N14 := Fr.snoc X14 Ng11 g_b8
  have Z14 : n0 ≤ h14.size := Nat.le_trans Z11 (Keep.of_wr W14).1
  obtain ⟨Lg14, Xg14, Ng14⟩ := Stand_gen X14 N14
  have fx15 : Ary Z h14 b8 .byte 20 (fun i => if i = 1 then (.int (((z7.toUInt32 >>> ((16 : Int32) &&& 31).toUInt32).toInt32).toInt8.toInt32)) else ff13 i) := fx12.same W14
  obtain ⟨ff16, hff16⟩ : ∃ f : Nat → Value, f = (fun i => if i = 1 then (.int (((z7.toUInt32 >>> ((16 : Int32) &&& 31).toUInt32).toInt32).toInt8.toInt32)) else ff13 i) := ⟨_, rfl⟩
  rw [← hff16] at fx15
  refine Run.go st14 ?_
  show Run p e below s 1 20 (Q_rm0 Z p1 p2 p3 p4 p5 h0 n0) (T14.setTop (mkF m 32 #[.val (.int p1), .val (.int p2), .val (.int p3), .val (.int p4), .val (.int p5), .val (.int z7), .val (.ref b8)] []))
  refine Run.go (fun _ k => XS.aload Xg14.here hx rfl (hb hby at_32) rfl rfl k) ?_
  show Run p e below s 1 20 (Q_rm0 Z p1 p2 p3 p4 p5 h0 n0) (T14.setTop (mkF m 34 #[.val (.int p1), .val (.int p2), .val (.int p3), .val (.int p4), .val (.int p5), .val (.int z7), .val (.ref b8)] [(.ref b8)]))
  refine Run.go (fun _ k => XS.iconst Xg14.here hx rfl (hb hby at_34) k) ?_
  show Run p e below s 1 20 (Q_rm0 Z p1 p2 p3 p4 p5 h0 n0) (T14.setTop (mkF m 35 #[.val (.int p1), .val (.int p2), .val (.int p3), .val (.int p4), .val (.int p5), .val (.int z7), .val (.ref b8)] [(.int (2 : Int32)), (.ref b8)]))
  refine Run.go (fun _ k => XS.iload Xg14.here hx rfl (hb hby at_35) rfl  k) ?_
  show Run p e below s 1 20 (Q_rm0 Z p1 p2 p3 p4 p5 h0 n0) (T14.setTop (mkF m 37 #[.val (.int p1), .val (.int p2), .val (.int p3), .val (.int p4), .val (.int p5), .val (.int z7), .val (.ref b8)] [(.int z7), (.int (2 : Int32)), (.ref b8)]))
  refine Run.go (fun _ k => XS.bipush Xg14.here hx rfl (hb hby at_37) k) ?_
  show Run p e below s 1 20 (Q_rm0 Z p1 p2 p3 p4 p5 h0 n0) (T14.setTop (mkF m 39 #[.val (.int p1), .val (.int p2), .val (.int p3), .val (.int p4), .val (.int p5), .val (.int z7), .val (.ref b8)] [(.int (8 : Int32)), (.int z7), (.int (2 : Int32)), (.ref b8)]))
  refine Run.go (fun _ k => XS.iushr Xg14.here hx rfl (hb hby at_39) rfl k) ?_
  show Run p e below s 1 20 (Q_rm0 Z p1 p2 p3 p4 p5 h0 n0) (T14.setTop (mkF m 40 #[.val (.int p1), .val (.int p2), .val (.int p3), .val (.int p4), .val (.int p5), .val (.int z7), .val (.ref b8)] [(.int ((z7.toUInt32 >>> ((8 : Int32) &&& 31).toUInt32).toInt32)), (.int (2 : Int32)), (.ref b8)]))
  refine Run.go (fun _ k => XS.i2b Xg14.here hx rfl (hb hby at_40) rfl k) ?_
  show Run p e below s 1 20 (Q_rm0 Z p1 p2 p3 p4 p5 h0 n0) (T14.setTop (mkF m 41 #[.val (.int p1), .val (.int p2), .val (.int p3), .val (.int p4), .val (.int p5), .val (.int z7), .val (.ref b8)] [(.int (((z7.toUInt32 >>> ((8 : Int32) &&& 31).toUInt32).toInt32).toInt8.toInt32)), (.int (2 : Int32)), (.ref b8)]))
  obtain ⟨T17, h17, X17, e17, W17, st17⟩ := ary_bset Xg14 hx hZ e14 fx15 (by decide) (by decide) (g := (mkF m 41 #[.val (.int p1), .val (.int p2), .val (.int p3), .val (.int p4), .val (.int p5), .val (.int z7), .val (.ref b8)] [(.int (((z7.toUInt32 >>> ((8 : Int32) &&& 31).toUInt32).toInt32).toInt8.toInt32)), (.int (2 : Int32)), (.ref b8)])) rfl rfl (hb hby at_41) (y := (((z7.toUInt32 >>> ((8 : Int32) &&& 31).toUInt32).toInt32).toInt8.toInt32)) (b_idem _)
  have N17 := Fr.snoc X17 Ng14 g_b8
  have Z17 : n0 ≤ h17.size := Nat.le_trans Z14 (Keep.of_wr W17).1
  obtain ⟨Lg17, Xg17, Ng17⟩ := Stand_gen X17 N17
  have fx18 : Ary Z h17 b8 .byte 20 (fun i => if i = 2 then (.int (((z7.toUInt32 >>> ((8 : Int32) &&& 31).toUInt32).toInt32).toInt8.toInt32)) else ff16 i) := fx15.same W17
  obtain ⟨ff19, hff19⟩ : ∃ f : Nat → Value, f = (fun i => if i = 2 then (.int (((z7.toUInt32 >>> ((8 : Int32) &&& 31).toUInt32).toInt32).toInt8.toInt32)) else ff16 i) := ⟨_, rfl⟩
  rw [← hff19] at fx18
  refine Run.go st17 ?_
  show Run p e below s 1 20 (Q_rm0 Z p1 p2 p3 p4 p5 h0 n0) (T17.setTop (mkF m 42 #[.val (.int p1), .val (.int p2), .val (.int p3), .val (.int p4), .val (.int p5), .val (.int z7), .val (.ref b8)] []))
  refine Run.go (fun _ k => XS.aload Xg17.here hx rfl (hb hby at_42) rfl rfl k) ?_
  show Run p e below s 1 20 (Q_rm0 Z p1 p2 p3 p4 p5 h0 n0) (T17.setTop (mkF m 44 #[.val (.int p1), .val (.int p2), .val (.int p3), .val (.int p4), .val (.int p5), .val (.int z7), .val (.ref b8)] [(.ref b8)]))
  refine Run.go (fun _ k => XS.iconst Xg17.here hx rfl (hb hby at_44) k) ?_
  show Run p e below s 1 20 (Q_rm0 Z p1 p2 p3 p4 p5 h0 n0) (T17.setTop (mkF m 45 #[.val (.int p1), .val (.int p2), .val (.int p3), .val (.int p4), .val (.int p5), .val (.int z7), .val (.ref b8)] [(.int (3 : Int32)), (.ref b8)]))
  refine Run.go (fun _ k => XS.iload Xg17.here hx rfl (hb hby at_45) rfl  k) ?_
  show Run p e below s 1 20 (Q_rm0 Z p1 p2 p3 p4 p5 h0 n0) (T17.setTop (mkF m 47 #[.val (.int p1), .val (.int p2), .val (.int p3), .val (.int p4), .val (.int p5), .val (.int z7), .val (.ref b8)] [(.int z7), (.int (3 : Int32)), (.ref b8)]))
  refine Run.go (fun _ k => XS.i2b Xg17.here hx rfl (hb hby at_47) rfl k) ?_
  show Run p e below s 1 20 (Q_rm0 Z p1 p2 p3 p4 p5 h0 n0) (T17.setTop (mkF m 48 #[.val (.int p1), .val (.int p2), .val (.int p3), .val (.int p4), .val (.int p5), .val (.int z7), .val (.ref b8)] [(.int (z7.toInt8.toInt32)), (.int (3 : Int32)), (.ref b8)]))
  obtain ⟨T20, h20, X20, e20, W20, st20⟩ := ary_bset Xg17 hx hZ e17 fx18 (by decide) (by decide) (g := (mkF m 48 #[.val (.int p1), .val (.int p2), .val (.int p3), .val (.int p4), .val (.int p5), .val (.int z7), .val (.ref b8)] [(.int (z7.toInt8.toInt32)), (.int (3 : Int32)), (.ref b8)])) rfl rfl (hb hby at_48) (y := (z7.toInt8.toInt32)) (b_idem _)
  have N20 := Fr.snoc X20 Ng17 g_b8
  have Z20 : n0 ≤ h20.size := Nat.le_trans Z17 (Keep.of_wr W20).1
  obtain ⟨Lg20, Xg20, Ng20⟩ := Stand_gen X20 N20
  have fx21 : Ary Z h20 b8 .byte 20 (fun i => if i = 3 then (.int (z7.toInt8.toInt32)) else ff19 i) := fx18.same W20
  obtain ⟨ff22, hff22⟩ : ∃ f : Nat → Value, f = (fun i => if i = 3 then (.int (z7.toInt8.toInt32)) else ff19 i) := ⟨_, rfl⟩
  rw [← hff22] at fx21
  refine Run.go st20 ?_
  show Run p e below s 1 20 (Q_rm0 Z p1 p2 p3 p4 p5 h0 n0) (T20.setTop (mkF m 49 #[.val (.int p1), .val (.int p2), .val (.int p3), .val (.int p4), .val (.int p5), .val (.int z7), .val (.ref b8)] []))
  refine Run.go (fun _ k => XS.aload Xg20.here hx rfl (hb hby at_49) rfl rfl k) ?_
  show Run p e below s 1 20 (Q_rm0 Z p1 p2 p3 p4 p5 h0 n0) (T20.setTop (mkF m 51 #[.val (.int p1), .val (.int p2), .val (.int p3), .val (.int p4), .val (.int p5), .val (.int z7), .val (.ref b8)] [(.ref b8)]))
  refine Run.go (fun _ k => XS.iconst Xg20.here hx rfl (hb hby at_51) k) ?_
  show Run p e below s 1 20 (Q_rm0 Z p1 p2 p3 p4 p5 h0 n0) (T20.setTop (mkF m 52 #[.val (.int p1), .val (.int p2), .val (.int p3), .val (.int p4), .val (.int p5), .val (.int z7), .val (.ref b8)] [(.int (4 : Int32)), (.ref b8)]))
  refine Run.go (fun _ k => XS.iloadN Xg20.here hx rfl (hb hby at_52) rfl  k) ?_
  show Run p e below s 1 20 (Q_rm0 Z p1 p2 p3 p4 p5 h0 n0) (T20.setTop (mkF m 53 #[.val (.int p1), .val (.int p2), .val (.int p3), .val (.int p4), .val (.int p5), .val (.int z7), .val (.ref b8)] [(.int p2), (.int (4 : Int32)), (.ref b8)]))
  obtain ⟨_, _, ⟨T23, L23, k23, n23⟩, -, X23, ⟨Lc23, hQ23, l23, y23, z23⟩, st23⟩ := Jvm.LawKit.callS Xg20 hx (y := (⟨"com/example/comera/comera/diameter/DiameterMessageLengthPinLaw", "put", "([BII)V"⟩ : MethodName)) hown (mvT hZ (hw _ (List.mem_of_getElem? (i := 6) rfl))) (mvT hZ (hw _ (List.mem_of_getElem? (i := 7) rfl))) (mvT hZ (hw _ (List.mem_of_getElem? (i := 8) rfl))) (mvT hZ (hw _ (List.mem_of_getElem? (i := 9) rfl))) (by decide) (backOf (W := 0) (rm2_4 l Z a0 hw [] b8 p2 ff22 h20 n0 Z20 fx21 g_b8) hZ (hw _ (List.mem_of_getElem? (i := 9) rfl)) (hw _ (List.mem_of_getElem? (i := 8) rfl)) (by decide) (by decide)) (g := (mkF m 53 #[.val (.int p1), .val (.int p2), .val (.int p3), .val (.int p4), .val (.int p5), .val (.int z7), .val (.ref b8)] [(.int p2), (.int (4 : Int32)), (.ref b8)])) rfl (by rw [hml]; rfl) (argsL := [(.ref b8), (.int (4 : Int32)), (.int p2)]) (rest := []) (lenOf pd_1 rfl) rfl (by show 2 * 0 + _ ≤ _; exact Nat.le_of_eq rfl) (hb hby at_53) (fun _ _ => ⟨rfl, e20, (by decide : 1 + 0 ≤ _), (by decide : 20 + 0 ≤ _)⟩)
  dsimp only [Pt.U, Pt.locs, Pt.cells, Pt.slots] at X23 l23 y23 z23 st23 hQ23
  subst l23 y23 z23
  obtain ⟨rfl, N23q, K23q, fq23_0⟩ := hQ23
  have N23 := Fr.app Ng20 N23q
  have Z23 : n0 ≤ T23.heap.size := Nat.le_trans Z20 K23q.1
  obtain ⟨ff24, hff24⟩ : ∃ f : Nat → Value, f = (fun i => if i = 7 then (.int (p2.toInt8.toInt32)) else (fun i => if i = 6 then (.int (((p2.toUInt32 >>> ((8 : Int32) &&& 31).toUInt32).toInt32).toInt8.toInt32)) else (fun i => if i = 5 then (.int (((p2.toUInt32 >>> ((16 : Int32) &&& 31).toUInt32).toInt32).toInt8.toInt32)) else (fun i => if i = 4 then (.int (((p2.toUInt32 >>> ((24 : Int32) &&& 31).toUInt32).toInt32).toInt8.toInt32)) else ff22 i) i) i) i) := ⟨_, rfl⟩
  rw [← hff24] at fq23_0
  obtain ⟨Lg23, Xg23, Ng23⟩ := Stand_gen X23 N23
  refine Run.go st23 ?_
  show Run p e below s 1 20 (Q_rm0 Z p1 p2 p3 p4 p5 h0 n0) (T23.setTop (mkF m 56 #[.val (.int p1), .val (.int p2), .val (.int p3), .val (.int p4), .val (.int p5), .val (.int z7), .val (.ref b8)] []))
  refine Run.go (fun _ k => XS.aload Xg23.here hx rfl (hb hby at_56) rfl rfl k) ?_
  show Run p e below s 1 20 (Q_rm0 Z p1 p2 p3 p4 p5 h0 n0) (T23.setTop (mkF m 58 #[.val (.int p1), .val (.int p2), .val (.int p3), .val (.int p4), .val (.int p5), .val (.int z7), .val (.ref b8)] [(.ref b8)]))
  refine Run.go (fun _ k => XS.bipush Xg23.here hx rfl (hb hby at_58) k) ?_
  show Run p e below s 1 20 (Q_rm0 Z p1 p2 p3 p4 p5 h0 n0) (T23.setTop (mkF m 60 #[.val (.int p1), .val (.int p2), .val (.int p3), .val (.int p4), .val (.int p5), .val (.int z7), .val (.ref b8)] [(.int (8 : Int32)), (.ref b8)]))
  refine Run.go (fun _ k => XS.iloadN Xg23.here hx rfl (hb hby at_60) rfl  k) ?_
  show Run p e below s 1 20 (Q_rm0 Z p1 p2 p3 p4 p5 h0 n0) (T23.setTop (mkF m 61 #[.val (.int p1), .val (.int p2), .val (.int p3), .val (.int p4), .val (.int p5), .val (.int z7), .val (.ref b8)] [(.int p3), (.int (8 : Int32)), (.ref b8)]))
  obtain ⟨_, _, ⟨T25, L25, k25, n25⟩, -, X25, ⟨Lc25, hQ25, l25, y25, z25⟩, st25⟩ := Jvm.LawKit.callS Xg23 hx (y := (⟨"com/example/comera/comera/diameter/DiameterMessageLengthPinLaw", "put", "([BII)V"⟩ : MethodName)) hown (mvT hZ (hw _ (List.mem_of_getElem? (i := 6) rfl))) (mvT hZ (hw _ (List.mem_of_getElem? (i := 7) rfl))) (mvT hZ (hw _ (List.mem_of_getElem? (i := 8) rfl))) (mvT hZ (hw _ (List.mem_of_getElem? (i := 9) rfl))) (by decide) (backOf (W := 0) (rm2_8 l Z a0 hw [] b8 p3 ff24 T23.heap n0 Z23 fq23_0 g_b8) hZ (hw _ (List.mem_of_getElem? (i := 9) rfl)) (hw _ (List.mem_of_getElem? (i := 8) rfl)) (by decide) (by decide)) (g := (mkF m 61 #[.val (.int p1), .val (.int p2), .val (.int p3), .val (.int p4), .val (.int p5), .val (.int z7), .val (.ref b8)] [(.int p3), (.int (8 : Int32)), (.ref b8)])) rfl (by rw [hml]; rfl) (argsL := [(.ref b8), (.int (8 : Int32)), (.int p3)]) (rest := []) (lenOf pd_1 rfl) rfl (by show 2 * 0 + _ ≤ _; exact Nat.le_of_eq rfl) (hb hby at_61) (fun _ _ => ⟨rfl, rfl, (by decide : 1 + 0 ≤ _), (by decide : 20 + 0 ≤ _)⟩)
  dsimp only [Pt.U, Pt.locs, Pt.cells, Pt.slots] at X25 l25 y25 z25 st25 hQ25
  subst l25 y25 z25
  obtain ⟨rfl, N25q, K25q, fq25_0⟩ := hQ25
  have N25 := Fr.app Ng23 N25q
  have Z25 : n0 ≤ T25.heap.size := Nat.le_trans Z23 K25q.1
  obtain ⟨ff26, hff26⟩ : ∃ f : Nat → Value, f = (fun i => if i = 11 then (.int (p3.toInt8.toInt32)) else (fun i => if i = 10 then (.int (((p3.toUInt32 >>> ((8 : Int32) &&& 31).toUInt32).toInt32).toInt8.toInt32)) else (fun i => if i = 9 then (.int (((p3.toUInt32 >>> ((16 : Int32) &&& 31).toUInt32).toInt32).toInt8.toInt32)) else (fun i => if i = 8 then (.int (((p3.toUInt32 >>> ((24 : Int32) &&& 31).toUInt32).toInt32).toInt8.toInt32)) else ff24 i) i) i) i) := ⟨_, rfl⟩
  rw [← hff26] at fq25_0
  obtain ⟨Lg25, Xg25, Ng25⟩ := Stand_gen X25 N25
  refine Run.go st25 ?_
  show Run p e below s 1 20 (Q_rm0 Z p1 p2 p3 p4 p5 h0 n0) (T25.setTop (mkF m 64 #[.val (.int p1), .val (.int p2), .val (.int p3), .val (.int p4), .val (.int p5), .val (.int z7), .val (.ref b8)] []))
  refine Run.go (fun _ k => XS.aload Xg25.here hx rfl (hb hby at_64) rfl rfl k) ?_
  show Run p e below s 1 20 (Q_rm0 Z p1 p2 p3 p4 p5 h0 n0) (T25.setTop (mkF m 66 #[.val (.int p1), .val (.int p2), .val (.int p3), .val (.int p4), .val (.int p5), .val (.int z7), .val (.ref b8)] [(.ref b8)]))
  refine Run.go (fun _ k => XS.bipush Xg25.here hx rfl (hb hby at_66) k) ?_
  show Run p e below s 1 20 (Q_rm0 Z p1 p2 p3 p4 p5 h0 n0) (T25.setTop (mkF m 68 #[.val (.int p1), .val (.int p2), .val (.int p3), .val (.int p4), .val (.int p5), .val (.int z7), .val (.ref b8)] [(.int (12 : Int32)), (.ref b8)]))
  refine Run.go (fun _ k => XS.iloadN Xg25.here hx rfl (hb hby at_68) rfl  k) ?_
  show Run p e below s 1 20 (Q_rm0 Z p1 p2 p3 p4 p5 h0 n0) (T25.setTop (mkF m 69 #[.val (.int p1), .val (.int p2), .val (.int p3), .val (.int p4), .val (.int p5), .val (.int z7), .val (.ref b8)] [(.int p4), (.int (12 : Int32)), (.ref b8)]))
  obtain ⟨_, _, ⟨T27, L27, k27, n27⟩, -, X27, ⟨Lc27, hQ27, l27, y27, z27⟩, st27⟩ := Jvm.LawKit.callS Xg25 hx (y := (⟨"com/example/comera/comera/diameter/DiameterMessageLengthPinLaw", "put", "([BII)V"⟩ : MethodName)) hown (mvT hZ (hw _ (List.mem_of_getElem? (i := 6) rfl))) (mvT hZ (hw _ (List.mem_of_getElem? (i := 7) rfl))) (mvT hZ (hw _ (List.mem_of_getElem? (i := 8) rfl))) (mvT hZ (hw _ (List.mem_of_getElem? (i := 9) rfl))) (by decide) (backOf (W := 0) (rm2_12 l Z a0 hw [] b8 p4 ff26 T25.heap n0 Z25 fq25_0 g_b8) hZ (hw _ (List.mem_of_getElem? (i := 9) rfl)) (hw _ (List.mem_of_getElem? (i := 8) rfl)) (by decide) (by decide)) (g := (mkF m 69 #[.val (.int p1), .val (.int p2), .val (.int p3), .val (.int p4), .val (.int p5), .val (.int z7), .val (.ref b8)] [(.int p4), (.int (12 : Int32)), (.ref b8)])) rfl (by rw [hml]; rfl) (argsL := [(.ref b8), (.int (12 : Int32)), (.int p4)]) (rest := []) (lenOf pd_1 rfl) rfl (by show 2 * 0 + _ ≤ _; exact Nat.le_of_eq rfl) (hb hby at_69) (fun _ _ => ⟨rfl, rfl, (by decide : 1 + 0 ≤ _), (by decide : 20 + 0 ≤ _)⟩)
  dsimp only [Pt.U, Pt.locs, Pt.cells, Pt.slots] at X27 l27 y27 z27 st27 hQ27
  subst l27 y27 z27
  obtain ⟨rfl, N27q, K27q, fq27_0⟩ := hQ27
  have N27 := Fr.app Ng25 N27q
  have Z27 : n0 ≤ T27.heap.size := Nat.le_trans Z25 K27q.1
  obtain ⟨ff28, hff28⟩ : ∃ f : Nat → Value, f = (fun i => if i = 15 then (.int (p4.toInt8.toInt32)) else (fun i => if i = 14 then (.int (((p4.toUInt32 >>> ((8 : Int32) &&& 31).toUInt32).toInt32).toInt8.toInt32)) else (fun i => if i = 13 then (.int (((p4.toUInt32 >>> ((16 : Int32) &&& 31).toUInt32).toInt32).toInt8.toInt32)) else (fun i => if i = 12 then (.int (((p4.toUInt32 >>> ((24 : Int32) &&& 31).toUInt32).toInt32).toInt8.toInt32)) else ff26 i) i) i) i) := ⟨_, rfl⟩
  rw [← hff28] at fq27_0
  obtain ⟨Lg27, Xg27, Ng27⟩ := Stand_gen X27 N27
  refine Run.go st27 ?_
  show Run p e below s 1 20 (Q_rm0 Z p1 p2 p3 p4 p5 h0 n0) (T27.setTop (mkF m 72 #[.val (.int p1), .val (.int p2), .val (.int p3), .val (.int p4), .val (.int p5), .val (.int z7), .val (.ref b8)] []))
  refine Run.go (fun _ k => XS.aload Xg27.here hx rfl (hb hby at_72) rfl rfl k) ?_
  show Run p e below s 1 20 (Q_rm0 Z p1 p2 p3 p4 p5 h0 n0) (T27.setTop (mkF m 74 #[.val (.int p1), .val (.int p2), .val (.int p3), .val (.int p4), .val (.int p5), .val (.int z7), .val (.ref b8)] [(.ref b8)]))
  refine Run.go (fun _ k => XS.bipush Xg27.here hx rfl (hb hby at_74) k) ?_
  show Run p e below s 1 20 (Q_rm0 Z p1 p2 p3 p4 p5 h0 n0) (T27.setTop (mkF m 76 #[.val (.int p1), .val (.int p2), .val (.int p3), .val (.int p4), .val (.int p5), .val (.int z7), .val (.ref b8)] [(.int (16 : Int32)), (.ref b8)]))
  refine Run.go (fun _ k => XS.iload Xg27.here hx rfl (hb hby at_76) rfl  k) ?_
  show Run p e below s 1 20 (Q_rm0 Z p1 p2 p3 p4 p5 h0 n0) (T27.setTop (mkF m 78 #[.val (.int p1), .val (.int p2), .val (.int p3), .val (.int p4), .val (.int p5), .val (.int z7), .val (.ref b8)] [(.int p5), (.int (16 : Int32)), (.ref b8)]))
  obtain ⟨_, _, ⟨T29, L29, k29, n29⟩, -, X29, ⟨Lc29, hQ29, l29, y29, z29⟩, st29⟩ := Jvm.LawKit.callS Xg27 hx (y := (⟨"com/example/comera/comera/diameter/DiameterMessageLengthPinLaw", "put", "([BII)V"⟩ : MethodName)) hown (mvT hZ (hw _ (List.mem_of_getElem? (i := 6) rfl))) (mvT hZ (hw _ (List.mem_of_getElem? (i := 7) rfl))) (mvT hZ (hw _ (List.mem_of_getElem? (i := 8) rfl))) (mvT hZ (hw _ (List.mem_of_getElem? (i := 9) rfl))) (by decide) (backOf (W := 0) (rm2_16 l Z a0 hw [] b8 p5 ff28 T27.heap n0 Z27 fq27_0 g_b8) hZ (hw _ (List.mem_of_getElem? (i := 9) rfl)) (hw _ (List.mem_of_getElem? (i := 8) rfl)) (by decide) (by decide)) (g := (mkF m 78 #[.val (.int p1), .val (.int p2), .val (.int p3), .val (.int p4), .val (.int p5), .val (.int z7), .val (.ref b8)] [(.int p5), (.int (16 : Int32)), (.ref b8)])) rfl (by rw [hml]; rfl) (argsL := [(.ref b8), (.int (16 : Int32)), (.int p5)]) (rest := []) (lenOf pd_1 rfl) rfl (by show 2 * 0 + _ ≤ _; exact Nat.le_of_eq rfl) (hb hby at_78) (fun _ _ => ⟨rfl, rfl, (by decide : 1 + 0 ≤ _), (by decide : 20 + 0 ≤ _)⟩)
  dsimp only [Pt.U, Pt.locs, Pt.cells, Pt.slots] at X29 l29 y29 z29 st29 hQ29
  subst l29 y29 z29
  obtain ⟨rfl, N29q, K29q, fq29_0⟩ := hQ29
  have N29 := Fr.app Ng27 N29q
  have Z29 : n0 ≤ T29.heap.size := Nat.le_trans Z27 K29q.1
  obtain ⟨ff30, hff30⟩ : ∃ f : Nat → Value, f = (fun i => if i = 19 then (.int (p5.toInt8.toInt32)) else (fun i => if i = 18 then (.int (((p5.toUInt32 >>> ((8 : Int32) &&& 31).toUInt32).toInt32).toInt8.toInt32)) else (fun i => if i = 17 then (.int (((p5.toUInt32 >>> ((16 : Int32) &&& 31).toUInt32).toInt32).toInt8.toInt32)) else (fun i => if i = 16 then (.int (((p5.toUInt32 >>> ((24 : Int32) &&& 31).toUInt32).toInt32).toInt8.toInt32)) else ff28 i) i) i) i) := ⟨_, rfl⟩
  rw [← hff30] at fq29_0
  obtain ⟨Lg29, Xg29, Ng29⟩ := Stand_gen X29 N29
  refine Run.go st29 ?_
  show Run p e below s 1 20 (Q_rm0 Z p1 p2 p3 p4 p5 h0 n0) (T29.setTop (mkF m 81 #[.val (.int p1), .val (.int p2), .val (.int p3), .val (.int p4), .val (.int p5), .val (.int z7), .val (.ref b8)] []))
  refine Run.go (fun _ k => XS.aload Xg29.here hx rfl (hb hby at_81) rfl rfl k) ?_
  show Run p e below s 1 20 (Q_rm0 Z p1 p2 p3 p4 p5 h0 n0) (T29.setTop (mkF m 83 #[.val (.int p1), .val (.int p2), .val (.int p3), .val (.int p4), .val (.int p5), .val (.int z7), .val (.ref b8)] [(.ref b8)]))
  obtain ⟨_, _, ⟨T31, L31, k31, n31⟩, -, X31, ⟨Lc31, hQ31, l31, y31, z31⟩, st31⟩ := Jvm.LawKit.callS Xg29 hx (y := (⟨"com/example/comera/comera/diameter/DiameterMessage", "length", "([B)I"⟩ : MethodName)) hown (mvT hZ (hw _ (List.mem_of_getElem? (i := 10) rfl))) (mvT hZ (hw _ (List.mem_of_getElem? (i := 11) rfl))) (mvT hZ (hw _ (List.mem_of_getElem? (i := 12) rfl))) (mvT hZ (hw _ (List.mem_of_getElem? (i := 13) rfl))) (by decide) (backOf (W := 0) (rm3 l Z a0 hw [] b8 ff30 (1 : Int32) (((z7.toUInt32 >>> ((16 : Int32) &&& 31).toUInt32).toInt32).toInt8.toInt32) (((z7.toUInt32 >>> ((8 : Int32) &&& 31).toUInt32).toInt32).toInt8.toInt32) (z7.toInt8.toInt32) T29.heap n0 Z29 fq29_0 (by rw [hff30]; exact (by rw [hff28]; exact (by rw [hff26]; exact (by rw [hff24]; exact (upd_miss hff22 (by decide) (upd_miss hff19 (by decide) (upd_miss hff16 (by decide) (upd_hit hff13)))))))) (by decide) (by rw [hff30]; exact (by rw [hff28]; exact (by rw [hff26]; exact (by rw [hff24]; exact (upd_miss hff22 (by decide) (upd_miss hff19 (by decide) (upd_hit hff16))))))) (by rw [hff30]; exact (by rw [hff28]; exact (by rw [hff26]; exact (by rw [hff24]; exact (upd_miss hff22 (by decide) (upd_hit hff19)))))) (by rw [hff30]; exact (by rw [hff28]; exact (by rw [hff26]; exact (by rw [hff24]; exact (upd_hit hff22))))) (own_61 _ (by rw [hz7]; exact own_len p1)) (own_67 _ (by rw [hz7]; exact own_len p1))) hZ (hw _ (List.mem_of_getElem? (i := 13) rfl)) (hw _ (List.mem_of_getElem? (i := 12) rfl)) (by decide) (by decide)) (g := (mkF m 83 #[.val (.int p1), .val (.int p2), .val (.int p3), .val (.int p4), .val (.int p5), .val (.int z7), .val (.ref b8)] [(.ref b8)])) rfl (by rw [hml]; rfl) (argsL := [(.ref b8)]) (rest := []) (lenOf pd_2 rfl) rfl (by show 2 * 0 + _ ≤ _; exact Nat.le_of_eq rfl) (hb hby at_83) (fun _ _ => ⟨rfl, rfl, (by decide : 1 + 0 ≤ _), (by decide : 20 + 0 ≤ _)⟩)
  dsimp only [Pt.U, Pt.locs, Pt.cells, Pt.slots] at X31 l31 y31 z31 st31 hQ31
  subst l31 y31 z31
  obtain ⟨rfl, N31q, e31q⟩ := hQ31
  have N31 := Fr.app Ng29 N31q
  obtain ⟨Lg31, Xg31, Ng31⟩ := Stand_gen X31 N31
  refine Run.go st31 ?_
  show Run p e below s 1 20 (Q_rm0 Z p1 p2 p3 p4 p5 h0 n0) (T31.setTop (mkF m 86 #[.val (.int p1), .val (.int p2), .val (.int p3), .val (.int p4), .val (.int p5), .val (.int z7), .val (.ref b8)] [(.int (((((((z7.toUInt32 >>> ((16 : Int32) &&& 31).toUInt32).toInt32).toInt8.toInt32) &&& (255 : Int32)) <<< ((16 : Int32) &&& 31)) ||| (((((z7.toUInt32 >>> ((8 : Int32) &&& 31).toUInt32).toInt32).toInt8.toInt32) &&& (255 : Int32)) <<< ((8 : Int32) &&& 31))) ||| ((z7.toInt8.toInt32) &&& (255 : Int32))))]))
  refine Run.go (fun _ k => XS.iload Xg31.here hx rfl (hb hby at_86) rfl  k) ?_
  show Run p e below s 1 20 (Q_rm0 Z p1 p2 p3 p4 p5 h0 n0) (T31.setTop (mkF m 88 #[.val (.int p1), .val (.int p2), .val (.int p3), .val (.int p4), .val (.int p5), .val (.int z7), .val (.ref b8)] [(.int z7), (.int (((((((z7.toUInt32 >>> ((16 : Int32) &&& 31).toUInt32).toInt32).toInt8.toInt32) &&& (255 : Int32)) <<< ((16 : Int32) &&& 31)) ||| (((((z7.toUInt32 >>> ((8 : Int32) &&& 31).toUInt32).toInt32).toInt8.toInt32) &&& (255 : Int32)) <<< ((8 : Int32) &&& 31))) ||| ((z7.toInt8.toInt32) &&& (255 : Int32))))]))
  refine Run.go (fun _ k => XS.icmpNo Xg31.here hx rfl (hb hby at_88) rfl (teq (own_88 _ (by rw [hz7]; exact own_len p1))).2 k) ?_
  show Run p e below s 1 20 (Q_rm0 Z p1 p2 p3 p4 p5 h0 n0) (T31.setTop (mkF m 91 #[.val (.int p1), .val (.int p2), .val (.int p3), .val (.int p4), .val (.int p5), .val (.int z7), .val (.ref b8)] []))
  refine Run.go (fun _ k => XS.iconst Xg31.here hx rfl (hb hby at_91) k) ?_
  show Run p e below s 1 20 (Q_rm0 Z p1 p2 p3 p4 p5 h0 n0) (T31.setTop (mkF m 92 #[.val (.int p1), .val (.int p2), .val (.int p3), .val (.int p4), .val (.int p5), .val (.int z7), .val (.ref b8)] [(.int (1 : Int32))]))
  refine Run.go (fun _ k => XS.goto Xg31.here hx rfl (pc0 := 92) (pc' := 96) rfl (hb hby at_92) (by decide) (by decide) k) ?_
  show Run p e below s 1 20 (Q_rm0 Z p1 p2 p3 p4 p5 h0 n0) (T31.setTop (mkF m 96 #[.val (.int p1), .val (.int p2), .val (.int p3), .val (.int p4), .val (.int p5), .val (.int z7), .val (.ref b8)] [(.int (1 : Int32))]))
  exact Run.retN (y := 1) Xg31 hx (t := .boolean) Bd.returns (by simp) rfl Bd.notSynchronized (hb hby at_96) (by decide) (by decide) ⟨rfl, Ng31⟩
set_option maxRecDepth 65536 in
set_option maxHeartbeats 40000000 in
theorem comes_1 {Post : Tables → Env → Array Value → State → Outcome → State → Prop} (hpost : ∀ tb e args s v u, (limb_1_1.after args s (.returned v) u = true ∧ limb_1_2.after args s (.returned v) u = true ∧ True) → FrameEnd s (.returned v) u (Jvm.fieldLocs frame_1_writes args s ++ Jvm.arrayLocs frame_1_arrays args s ++ Jvm.staticLocs frame_1_statics s) 16 128 → Post tb e args s (.returned v) u) :
    ArmFor flags0 classFile x code maxLocals ret World_1 tables_1 room_1 Calls_1 rest_1 Pre_1 Post := by
  intro l hfl _ _ p e ha hc hk s m args below hf hA hF happ hP
  obtain ⟨hcalls, hrest, hpre⟩ := hP
  obtain ⟨-, -, -, hnamed, -, -, -, hat⟩ := (Spec.applies_iff hf).mp happ
  obtain ⟨hg, hn⟩ := and_e (Cond.before_iff.mp (show (Jvm.Cond.and given_1 narrow_1).before args s = true from hpre))
  obtain ⟨g1, g2⟩ := and_e hg
  obtain ⟨g3, g4⟩ := and_e g2
  obtain ⟨g5, g6⟩ := and_e g4
  obtain ⟨g7, g8⟩ := and_e g6
  obtain ⟨g9, g10⟩ := and_e g8
  obtain ⟨w0, w1, w2, w3, w4, rfl⟩ : ∃ w0 w1 w2 w3 w4 : Value, args = #[w0, w1, w2, w3, w4] := by
    have hs : args.size = 5 := by simpa [Cond.value, given_1] using g1
    obtain ⟨L⟩ := args
    match L, hs with
    | [w0, w1, w2, w3, w4], _ => exact ⟨w0, w1, w2, w3, w4, rfl⟩
  have hw := fun d (hd : d ∈ tables_1) => atoms_spec (ws := Jvm.Cond.code x code maxLocals ret :: tables_1) hat d (List.mem_cons_of_mem _ hd)
  have hfit : Fit s := fun {y c} hc i hi => by
    obtain ⟨ha, rfl⟩ := Array.getElem?_eq_some_iff.mp hc
    have q := List.all_eq_true.mp ((Array.all_eq_true_iff_forall_mem.mp hF) _ (Array.getElem_mem ha)) i (List.mem_range.mpr hi)
    simpa [Array.getElem?_eq_getElem hi] using q
  obtain ⟨i0, ei0⟩ := is_v g3
  obtain rfl : w0 = (.int i0) := Option.some.inj ei0
  obtain ⟨i1, ei1⟩ := is_v g5
  obtain rfl : w1 = (.int i1) := Option.some.inj ei1
  obtain ⟨i2, ei2⟩ := is_v g7
  obtain rfl : w2 = (.int i2) := Option.some.inj ei2
  obtain ⟨i3, ei3⟩ := is_v g9
  obtain rfl : w3 = (.int i3) := Option.some.inj ei3
  obtain ⟨i4, ei4⟩ := is_v g10
  obtain rfl : w4 = (.int i4) := Option.some.inj ei4
  obtain ⟨n, o, h1, h2, h3, _, L, rfl, ⟨rfl, N⟩, hq⟩ := rm0 l s _ hw tables_1 i0 i1 i2 i3 i4 s.heap s.heap.size (Nat.le_refl _)  p e ha hc hk s m _ below hf ((Spec.applies_iff_loose hf).mp happ).1 ⟨rfl, State.Warmed39.refl s, rfl⟩ trivial
  refine ⟨n, _, h1, h2, h3, hpost _ _ _ _ _ _ ⟨Cond.after_iff.mpr rfl, Cond.after_iff.mpr (eq_i res_at (Term.int_eval (1)) rfl), trivial⟩ ⟨hq.1, hq.2.1, (hq.2.2.sift fun y hy => Or.inr (N y hy)).mono (by decide) (by decide)⟩⟩
theorem main_1_1 : Claimed_1_1 := comes_1 fun _ _ _ _ _ _ h hF => ⟨h.1, hF⟩
theorem main_1_2 : Claimed_1_2 := comes_1 fun _ _ _ _ _ _ h hF => ⟨h.2.1, hF⟩
end Jvm.Pilot.@@N@@
namespace Jvm.Pilot.@@N@@
open Jvm Jvm.ClassFile Sem Op Lib Jvm.Free Jvm.Stand Jvm.Pilot.@@N@@.Jvm.D
/-! MADE BY PROGRAM (witnessworld.py) out of the Statement's table words and the real class files: 10 classes; the members and pool entries that the words name. The judged class is class 1, her method 2. -/
namespace start1
open Jvm.ClassFile
def u (s : String) : CpInfo := .utf8 (stringToUtf16 s)
/-- a pool by its gaps: so many unusable entries, then the entry; so many at the end -/
def gap : Nat → List CpInfo → List CpInfo
  | 0, r => r
  | n + 1, r => .unusable :: gap n r
def poolList (es : List (Nat × CpInfo)) (last : Nat) : List CpInfo := es.foldr (fun e r => gap e.1 (e.2 :: r)) (gap last [])
def pool (es : List (Nat × CpInfo)) (last : Nat) : Array CpInfo := ⟨poolList es last⟩
def fileOf (pool : Array CpInfo) (this : Nat) (attrs : Array Attribute := #[]) (ms : Array MethodInfo := #[]) (fl : Nat := 33) (sup : Nat := 0) (ifs : Array Nat := #[]) (fds : Array FieldInfo := #[]) : ClassFile where
  minorVersion := 0
  majorVersion := 65
  constantPool := pool
  accessFlags := fl
  thisClass := this
  superClass := sup
  interfaces := ifs
  fields := fds
  methods := ms
  attributes := attrs
def plain (name : String) (sup : Option ClassId) : Class where
  name := name
  kind := .ordinary
  loader := none
  accessFlags := 33
  super := sup
  interfaces := #[]
  cf := none
  fields := #[]
  methods := #[]
  instanceTypes := #[]
  staticTypes := #[]
  resolved := #[]
  callSites := []
  init := .initialized
  statics := none
  mirror := none

def pool0 : Array CpInfo := pool [(5, u "<init>"), (0, u "()V"), (1, .class_ 10), (1, u "java/lang/Object")] 113

def k0m0 : Method := { name := "<init>", desc := "()V", sig := { parameters := [], returnType := none }, accessFlags := 1, code := none }
/-- java/lang/Object -/
def k0 : Class := { plain "java/lang/Object" none with
  accessFlags := 33
  interfaces := #[]
  cf := some (fileOf pool0 8 #[] #[{ accessFlags := 1, nameIndex := 5, descriptorIndex := 6, attributes := #[] }] 33 0 #[] #[])
  fields := #[]
  methods := #[k0m0]
  instanceTypes := #[]
  staticTypes := #[]
  resolved := Array.replicate 124 none
  statics := none }

def pool1 : Array CpInfo := pool [(2, .class_ 4), (1, u "java/lang/Object"), (0, u "<init>"), (0, u "()V"), (0, .integer 16777212), (0, .methodref 9 10), (0, .class_ 11), (0, .nameAndType 12 13), (0, u "java/lang/Math"), (0, u "max"), (0, u "(II)I"), (0, .methodref 15 16), (0, .class_ 17), (0, .nameAndType 18 19), (0, u "com/example/comera/comera/diameter/DiameterMessageLengthPinLaw"), (0, u "put"), (0, u "([BII)V"), (0, .methodref 21 22), (0, .class_ 23), (0, .nameAndType 24 25), (0, u "com/example/comera/comera/diameter/DiameterMessage"), (0, u "length"), (0, u "([B)I"), (2, u "law"), (0, u "(IIIII)Z")] 8

def k1m0 : Method := { name := "<init>", desc := "()V", sig := { parameters := [], returnType := none }, accessFlags := 1, code := none }
def k1c1 : Code := { maxStack := 4, maxLocals := 3, code := method_2_code, exceptionTable := #[], attributes := #[] }
def k1m1 : Method := { name := "put", desc := "([BII)V", sig := { parameters := [(.array .byte), .int, .int], returnType := none }, accessFlags := 10, code := some k1c1 }
def k1c2 : Code := { maxStack := 4, maxLocals := 7, code := code, exceptionTable := #[], attributes := #[] }
def k1m2 : Method := { name := "law", desc := "(IIIII)Z", sig := { parameters := [.int, .int, .int, .int, .int], returnType := some .boolean }, accessFlags := 9, code := some k1c2 }
/-- com/example/comera/comera/diameter/DiameterMessageLengthPinLaw -/
def k1 : Class := { plain "com/example/comera/comera/diameter/DiameterMessageLengthPinLaw" (some 0) with
  accessFlags := 49
  interfaces := #[]
  cf := some (fileOf pool1 15 #[] #[{ accessFlags := 1, nameIndex := 5, descriptorIndex := 6, attributes := #[] }, { accessFlags := 10, nameIndex := 18, descriptorIndex := 19, attributes := #[] }, { accessFlags := 9, nameIndex := 28, descriptorIndex := 29, attributes := #[] }] 49 2 #[] #[])
  fields := #[]
  methods := #[k1m0, k1m1, k1m2]
  instanceTypes := #[]
  staticTypes := #[]
  resolved := Array.replicate 38 none
  statics := none }

def pool2 : Array CpInfo := pool [(1, .class_ 2), (0, u "java/lang/Math"), (1, .class_ 6), (1, u "java/lang/Object"), (0, u "<init>"), (0, u "()V"), (89, .class_ 100), (1, u "java/lang/Math$RandomNumberGeneratorHolder"), (71, u "negativeZeroFloatBits"), (0, u "J"), (2, u "negativeZeroDoubleBits"), (21, u "max"), (46, u "$assertionsDisabled"), (0, u "Z"), (88, u "(II)I"), (2, u "twoToTheDoubleScaleDown"), (0, u "D"), (4, u "twoToTheDoubleScaleUp"), (9, u "E"), (3, u "PI"), (2, u "TAU"), (2, u "DEGREES_TO_RADIANS"), (0, u "RADIANS_TO_DEGREES")] 94

def k2m0 : Method := { name := "<init>", desc := "()V", sig := { parameters := [], returnType := none }, accessFlags := 2, code := none }
def k2c1 : Code := { maxStack := 2, maxLocals := 2, code := jdk_29_method_65_code, exceptionTable := #[], attributes := #[] }
def k2m1 : Method := { name := "max", desc := "(II)I", sig := { parameters := [.int, .int], returnType := some .int }, accessFlags := 9, code := some k2c1 }
/-- java/lang/Math -/
def k2 : Class := { plain "java/lang/Math" (some 0) with
  accessFlags := 49
  interfaces := #[]
  cf := some (fileOf pool2 1 #[.nestMembers #[98]] #[{ accessFlags := 2, nameIndex := 7, descriptorIndex := 8, attributes := #[] }, { accessFlags := 9, nameIndex := 198, descriptorIndex := 335, attributes := #[] }] 49 4 #[] #[{ accessFlags := 25, nameIndex := 354, descriptorIndex := 339, attributes := #[] }, { accessFlags := 25, nameIndex := 358, descriptorIndex := 339, attributes := #[] }, { accessFlags := 25, nameIndex := 361, descriptorIndex := 339, attributes := #[] }, { accessFlags := 26, nameIndex := 364, descriptorIndex := 339, attributes := #[] }, { accessFlags := 26, nameIndex := 365, descriptorIndex := 339, attributes := #[] }, { accessFlags := 26, nameIndex := 172, descriptorIndex := 173, attributes := #[] }, { accessFlags := 26, nameIndex := 176, descriptorIndex := 173, attributes := #[] }, { accessFlags := 8, nameIndex := 344, descriptorIndex := 339, attributes := #[] }, { accessFlags := 8, nameIndex := 338, descriptorIndex := 339, attributes := #[] }, { accessFlags := 4120, nameIndex := 245, descriptorIndex := 246, attributes := #[] }])
  fields := #[{ name := "E", type := .double, accessFlags := 25, slot := 0, constantValue := 0 }, { name := "PI", type := .double, accessFlags := 25, slot := 1, constantValue := 0 }, { name := "TAU", type := .double, accessFlags := 25, slot := 2, constantValue := 0 }, { name := "DEGREES_TO_RADIANS", type := .double, accessFlags := 26, slot := 3, constantValue := 0 }, { name := "RADIANS_TO_DEGREES", type := .double, accessFlags := 26, slot := 4, constantValue := 0 }, { name := "negativeZeroFloatBits", type := .long, accessFlags := 26, slot := 5, constantValue := 0 }, { name := "negativeZeroDoubleBits", type := .long, accessFlags := 26, slot := 6, constantValue := 0 }, { name := "twoToTheDoubleScaleUp", type := .double, accessFlags := 8, slot := 7, constantValue := 0 }, { name := "twoToTheDoubleScaleDown", type := .double, accessFlags := 8, slot := 8, constantValue := 0 }, { name := "$assertionsDisabled", type := .boolean, accessFlags := 4120, slot := 9, constantValue := 0 }]
  methods := #[k2m0, k2m1]
  instanceTypes := #[]
  staticTypes := #[.double, .double, .double, .double, .double, .long, .long, .double, .double, .boolean]
  resolved := Array.replicate 460 none
  statics := none }

def pool3 : Array CpInfo := pool [(2, .class_ 4), (1, u "java/lang/Object"), (3, .class_ 10), (1, u "com/example/comera/comera/diameter/DiameterMessage"), (0, u "commandCode"), (0, u "I"), (2, u "applicationId"), (0, u "J"), (2, u "request"), (0, u "Z"), (2, u "proxiable"), (2, u "error"), (2, u "hopByHop"), (2, u "endToEnd"), (8, u "avps"), (0, u "Ljava/util/List;"), (32, u "length"), (0, u "([B)I"), (66, u "HEADER_LENGTH"), (2, u "CAPABILITIES_EXCHANGE"), (1, u "DEVICE_WATCHDOG"), (1, u "DISCONNECT_PEER"), (1, u "ACCOUNTING"), (1, u "COMMON_MESSAGES"), (2, u "BASE_ACCOUNTING"), (2, u "VERSION"), (1, u "FLAG_REQUEST"), (1, u "FLAG_PROXIABLE"), (1, u "FLAG_ERROR"), (1, u "MAX_LENGTH")] 51

def k3c0 : Code := { maxStack := 4, maxLocals := 3, code := prog_73_method_5_code, exceptionTable := #[], attributes := #[] }
def k3m0 : Method := { name := "length", desc := "([B)I", sig := { parameters := [(.array .byte)], returnType := some .int }, accessFlags := 9, code := some k3c0 }
/-- com/example/comera/comera/diameter/DiameterMessage -/
def k3 : Class := { plain "com/example/comera/comera/diameter/DiameterMessage" (some 0) with
  accessFlags := 33
  interfaces := #[]
  cf := some (fileOf pool3 8 #[] #[{ accessFlags := 9, nameIndex := 75, descriptorIndex := 76, attributes := #[] }] 33 2 #[] #[{ accessFlags := 25, nameIndex := 143, descriptorIndex := 12, attributes := #[] }, { accessFlags := 25, nameIndex := 146, descriptorIndex := 12, attributes := #[] }, { accessFlags := 25, nameIndex := 148, descriptorIndex := 12, attributes := #[] }, { accessFlags := 25, nameIndex := 150, descriptorIndex := 12, attributes := #[] }, { accessFlags := 25, nameIndex := 152, descriptorIndex := 12, attributes := #[] }, { accessFlags := 25, nameIndex := 154, descriptorIndex := 16, attributes := #[] }, { accessFlags := 25, nameIndex := 157, descriptorIndex := 16, attributes := #[] }, { accessFlags := 26, nameIndex := 160, descriptorIndex := 12, attributes := #[] }, { accessFlags := 26, nameIndex := 162, descriptorIndex := 12, attributes := #[] }, { accessFlags := 26, nameIndex := 164, descriptorIndex := 12, attributes := #[] }, { accessFlags := 26, nameIndex := 166, descriptorIndex := 12, attributes := #[] }, { accessFlags := 26, nameIndex := 168, descriptorIndex := 12, attributes := #[] }, { accessFlags := 18, nameIndex := 11, descriptorIndex := 12, attributes := #[] }, { accessFlags := 18, nameIndex := 15, descriptorIndex := 16, attributes := #[] }, { accessFlags := 18, nameIndex := 19, descriptorIndex := 20, attributes := #[] }, { accessFlags := 18, nameIndex := 23, descriptorIndex := 20, attributes := #[] }, { accessFlags := 18, nameIndex := 26, descriptorIndex := 20, attributes := #[] }, { accessFlags := 18, nameIndex := 29, descriptorIndex := 12, attributes := #[] }, { accessFlags := 18, nameIndex := 32, descriptorIndex := 12, attributes := #[] }, { accessFlags := 18, nameIndex := 41, descriptorIndex := 42, attributes := #[] }])
  fields := #[{ name := "HEADER_LENGTH", type := .int, accessFlags := 25, slot := 0, constantValue := 0 }, { name := "CAPABILITIES_EXCHANGE", type := .int, accessFlags := 25, slot := 1, constantValue := 0 }, { name := "DEVICE_WATCHDOG", type := .int, accessFlags := 25, slot := 2, constantValue := 0 }, { name := "DISCONNECT_PEER", type := .int, accessFlags := 25, slot := 3, constantValue := 0 }, { name := "ACCOUNTING", type := .int, accessFlags := 25, slot := 4, constantValue := 0 }, { name := "COMMON_MESSAGES", type := .long, accessFlags := 25, slot := 5, constantValue := 0 }, { name := "BASE_ACCOUNTING", type := .long, accessFlags := 25, slot := 6, constantValue := 0 }, { name := "VERSION", type := .int, accessFlags := 26, slot := 7, constantValue := 0 }, { name := "FLAG_REQUEST", type := .int, accessFlags := 26, slot := 8, constantValue := 0 }, { name := "FLAG_PROXIABLE", type := .int, accessFlags := 26, slot := 9, constantValue := 0 }, { name := "FLAG_ERROR", type := .int, accessFlags := 26, slot := 10, constantValue := 0 }, { name := "MAX_LENGTH", type := .int, accessFlags := 26, slot := 11, constantValue := 0 }, { name := "commandCode", type := .int, accessFlags := 18, slot := 0, constantValue := 0 }, { name := "applicationId", type := .long, accessFlags := 18, slot := 1, constantValue := 0 }, { name := "request", type := .boolean, accessFlags := 18, slot := 2, constantValue := 0 }, { name := "proxiable", type := .boolean, accessFlags := 18, slot := 3, constantValue := 0 }, { name := "error", type := .boolean, accessFlags := 18, slot := 4, constantValue := 0 }, { name := "hopByHop", type := .int, accessFlags := 18, slot := 5, constantValue := 0 }, { name := "endToEnd", type := .int, accessFlags := 18, slot := 6, constantValue := 0 }, { name := "avps", type := (.object "java/util/List"), accessFlags := 18, slot := 7, constantValue := 0 }]
  methods := #[k3m0]
  instanceTypes := #[.int, .long, .boolean, .boolean, .boolean, .int, .int, (.object "java/util/List")]
  staticTypes := #[.int, .int, .int, .int, .int, .long, .long, .int, .int, .int, .int, .int]
  resolved := Array.replicate 220 none
  statics := none }

def pool4 : Array CpInfo := pool [(1, u "java/lang/Cloneable"), (0, .class_ 1), (0, u "java/lang/Object"), (0, .class_ 3)] 3

/-- java/lang/Cloneable -/
def k4 : Class := { plain "java/lang/Cloneable" (some 0) with
  accessFlags := 1537
  interfaces := #[]
  cf := some (fileOf pool4 2 #[] #[] 1537 4 #[] #[])
  fields := #[]
  methods := #[]
  instanceTypes := #[]
  staticTypes := #[]
  resolved := Array.replicate 8 none
  statics := none }

def pool5 : Array CpInfo := pool [(1, u "java/io/Serializable"), (0, .class_ 1), (0, u "java/lang/Object"), (0, .class_ 3)] 3

/-- java/io/Serializable -/
def k5 : Class := { plain "java/io/Serializable" (some 0) with
  accessFlags := 1537
  interfaces := #[]
  cf := some (fileOf pool5 2 #[] #[] 1537 4 #[] #[])
  fields := #[]
  methods := #[]
  instanceTypes := #[]
  staticTypes := #[]
  resolved := Array.replicate 8 none
  statics := none }

/-- the primitive byte -/
def k6 : Class := { plain "byte" none with kind := .primitive 'B', accessFlags := 0x411 }
/-- [B -/
def k7 : Class := { plain "[B" (some 0) with kind := .array 6 .byte, interfaces := #[4, 5], accessFlags := 1041 }

/-- the primitive int -/
def k8 : Class := { plain "int" none with kind := .primitive 'I', accessFlags := 0x411 }
/-- [I -/
def k9 : Class := { plain "[I" (some 0) with kind := .array 8 .int, interfaces := #[4, 5], accessFlags := 1041 }

def heap : Heap := #[]
def classes : Array Class := #[k0, k1, k2, k3, k4, k5, k6, k7, k8, k9]
def interned : List (Array UInt16 × Addr) := []
def slotsUsed : Nat := 0
def theMethod : MethodId := ⟨1, 2⟩
def args0 : Array Value := #[.int 3, .int 2, .int 3, .int 2, .int 3]
def aboutOver (below : List Frame) : State where
  vm := { classes := classes, interned := interned.toArray }
  heap := heap
  slotsUsed := slotsUsed
  threads := #[{ frames := .invoking theMethod args0 :: below }]
def below0 : List Frame := [.native { method := ⟨0, 0⟩, args := #[] }]
def about1 : State := aboutOver below0
def p0 : Program := .bare "" "" ""
def e0 : Env := launch0.env 0 0 0
theorem w_frames : about1.frames = Frame.invoking theMethod args0 :: below0 := rfl
set_option maxRecDepth 65536 in
theorem w_args : argsFit about1.vm theMethod args0 = true := by decide +kernel
set_option maxRecDepth 65536 in
theorem w_heap : heapFits about1 = true := by decide +kernel
set_option maxRecDepth 65536 in
theorem w_runnable : about1.curStatus? = some .runnable := by decide +kernel
set_option maxRecDepth 65536 in
theorem w_alone : about1.alone = true := by decide +kernel
set_option maxRecDepth 65536 in
theorem w_named : about1.methodNamed? x = some theMethod := by decide +kernel
set_option maxRecDepth 65536 in
theorem w_hears : about1.hears theMethod below0 = true := by decide +kernel
set_option maxRecDepth 65536 in
theorem w_ripe : about1.ripe theMethod args0 below0 = true := by decide +kernel
theorem w_running : about1.status = .running := rfl
set_option maxRecDepth 65536 in
theorem w_room : about1.hasRoom e0.platform room_1 = true :=
  launch0.hasRoom_least _ room_1 (by decide +kernel) (by decide +kernel) (by decide +kernel) (by decide +kernel) (by decide +kernel) (by decide +kernel)
theorem allAtoms_all (ts : List Jvm.Cond) (a : Array Jvm.Value) (st : Jvm.State) : (allAtoms ts).before a st = ts.all (fun c => c.before a st) := by
  induction ts with
  | nil => rfl
  | cons c t ih =>
    show (Jvm.Cond.and c (allAtoms t)).before a st = _
    rw [Jvm.Cond.before_and, ih, List.all_cons]
def words1 : List Jvm.Cond := Jvm.Cond.code x code maxLocals ret :: tables_1
/-- a 'code' word, met by the world's own term for the bytes: nothing is compared byte by byte -/
theorem code_word {y : MethodName} {bytes : ByteArray} {mx : Nat} {rt : Option FieldType} {a : Array Value} {s : State} {m : MethodId} {meth : Method} {c : Code} (h1 : s.methodNamed? y = some m) (h2 : s.vm.method? m = some meth) (h3 : meth.code = some c) (h4 : c.code = bytes)
    (h5 : (c.maxLocals == mx && c.exceptionTable.isEmpty && decide (c.maxStack ≤ mostOperands) && decide (meth.sig.returnType = rt) && !meth.locks && decide (parseMethodDescriptor y.desc = some meth.sig)) = true) : (Jvm.Cond.code y bytes mx rt).before a s = true := by
  simp only [Bool.and_eq_true, beq_iff_eq, Bool.not_eq_true', decide_eq_true_eq] at h5
  obtain ⟨⟨⟨⟨⟨g1, g2⟩, g3⟩, g4⟩, g5⟩, g6⟩ := h5
  simp [Cond.before, Cond.holds, Cond.value, h1, h2, h3, h4, g1, g2, g3, g4, g5, g6]
def isCode : Jvm.Cond → Bool
  | .code _ _ _ _ => true
  | _ => false
theorem all_split {L : List Jvm.Cond} {P : Jvm.Cond → Bool} (h1 : L.all (fun c => isCode c || P c) = true) (h2 : ∀ c ∈ L.filter isCode, P c = true) : L.all P = true := by
  refine List.all_eq_true.mpr fun c hc => ?_
  have h := List.all_eq_true.mp h1 c hc
  rcases Bool.eq_false_or_eq_true (isCode c) with hi | hi
  · exact h2 c (List.mem_filter.mpr ⟨hc, hi⟩)
  · simpa [hi] using h
set_option maxRecDepth 65536 in
theorem w_c0 : (Jvm.Cond.code x code maxLocals ret).before args0 about1 = true := code_word (m := ⟨1, 2⟩) (meth := k1m2) (c := k1c2) (by decide +kernel) rfl rfl rfl (by decide +kernel)
set_option maxRecDepth 65536 in
theorem w_c1 : (Jvm.Cond.code ({ cls := "java/lang/Math", name := "max", desc := "(II)I" } : Jvm.MethodName) jdk_29_method_65_code (2 : Nat) (Option.some Jvm.ClassFile.FieldType.int)).before args0 about1 = true := code_word (m := ⟨2, 1⟩) (meth := k2m1) (c := k2c1) (by decide +kernel) rfl rfl rfl (by decide +kernel)
set_option maxRecDepth 65536 in
theorem w_c2 : (Jvm.Cond.code ({ cls := "com/example/comera/comera/diameter/DiameterMessageLengthPinLaw", name := "put", desc := "([BII)V" } : Jvm.MethodName) method_2_code (3 : Nat) (Option.none : Option Jvm.ClassFile.FieldType)).before args0 about1 = true := code_word (m := ⟨1, 1⟩) (meth := k1m1) (c := k1c1) (by decide +kernel) rfl rfl rfl (by decide +kernel)
set_option maxRecDepth 65536 in
theorem w_c3 : (Jvm.Cond.code ({ cls := "com/example/comera/comera/diameter/DiameterMessage", name := "length", desc := "([B)I" } : Jvm.MethodName) prog_73_method_5_code (3 : Nat) (Option.some Jvm.ClassFile.FieldType.int)).before args0 about1 = true := code_word (m := ⟨3, 0⟩) (meth := k3m0) (c := k3c0) (by decide +kernel) rfl rfl rfl (by decide +kernel)
def codes1 : List Jvm.Cond := [Jvm.Cond.code x code maxLocals ret, Jvm.Cond.code ({ cls := "java/lang/Math", name := "max", desc := "(II)I" } : Jvm.MethodName) jdk_29_method_65_code (2 : Nat) (Option.some Jvm.ClassFile.FieldType.int), Jvm.Cond.code ({ cls := "com/example/comera/comera/diameter/DiameterMessageLengthPinLaw", name := "put", desc := "([BII)V" } : Jvm.MethodName) method_2_code (3 : Nat) (Option.none : Option Jvm.ClassFile.FieldType), Jvm.Cond.code ({ cls := "com/example/comera/comera/diameter/DiameterMessage", name := "length", desc := "([B)I" } : Jvm.MethodName) prog_73_method_5_code (3 : Nat) (Option.some Jvm.ClassFile.FieldType.int)]
set_option maxRecDepth 65536 in
theorem codes_eq : words1.filter isCode = codes1 := rfl
theorem w_codes : ∀ c ∈ words1.filter isCode, c.before args0 about1 = true := by
  rw [codes_eq]
  intro c hc
  simp only [codes1, List.mem_cons, List.not_mem_nil, or_false] at hc
  rcases hc with rfl | rfl | rfl | rfl
  · exact w_c0
  · exact w_c1
  · exact w_c2
  · exact w_c3
set_option maxRecDepth 65536 in
theorem w_t1 : words1.all (fun c => isCode c || c.before args0 about1) = true := by decide +kernel
theorem w_tables : (allAtoms (Jvm.Cond.code x code maxLocals ret :: tables_1)).before args0 about1 = true := by
  rw [allAtoms_all]
  show words1.all (fun c => c.before args0 about1) = true
  refine all_split ?_ w_codes
  rw [w_t1]
set_option maxRecDepth 65536 in
theorem w_case : (Jvm.Cond.and given_1 narrow_1).before args0 about1 = true := by decide +kernel
theorem w_applies : (headSpec (Jvm.Cond.code x code maxLocals ret :: tables_1) room_1).applies x e0.platform about1 = true :=
  (Spec.applies_iff w_frames).mpr ⟨w_running, w_runnable, w_alone, w_named, w_hears, w_ripe, w_room, w_tables⟩
theorem atStart : AtStart classFile x code maxLocals ret World_1 tables_1 room_1 Calls_1 rest_1 Pre_1 launch0 p0 e0 about1 theMethod args0 below0 :=
  ⟨lists_1, trivial, launch0.admits_env _ _ _, launch0.least_env, fairChoices_fair.cas, fairChoices_fair.clock, w_frames, w_args, w_heap, w_applies, trivial, trivial, w_case⟩
end start1
theorem witness_1 : WitnessClaimed_1 := ⟨start1.p0, start1.e0, start1.about1, start1.theMethod, start1.args0, start1.below0, start1.atStart⟩
end Jvm.Pilot.@@N@@
