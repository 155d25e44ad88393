import JvmDerived
import JvmDerived.Pilot.@@N@@Statement
import JvmDerived.Pilot.@@N@@Code
set_option linter.unusedVariables false
set_option linter.unusedSimpArgs false
namespace Jvm.Pilot.@@N@@
open Jvm Jvm.ClassFile Sem Op Lib Jvm.Free Jvm.Stand Jvm.LawKit Jvm.RoadKit Bundle Jvm.Pilot.@@N@@.Jvm.D
section Own
variable {p : Program} {l : Launch} {e : Env} {R : Room} {s : State} {m : MethodId} {args : Array Value} {below : List Frame} {meth : Method} {c : Code} {T : State} {locs : List Loc} {cells slots : Nat} {Z : State} {h h' : Heap}
def Run (p : Program) (e : Env) (below : List Frame) (s : State) (C N : Nat) (Q : Option Value → Heap → List Loc → Prop) (S : State) : Prop :=
  ∃ s₂ o, Steps p.tables e below S s₂ ∧ s₂.status = .running ∧ Ended s₂ below o ∧ ∃ v L, o = .returned v ∧ Q v s₂.heap L ∧ FrameEnd s o s₂ L C N
variable {C N : Nat} {Q : Option Value → Heap → List Loc → Prop} {S S' : State}
theorem Run.go (k : ∀ t, Steps p.tables e below S' t → Steps p.tables e below S t) (r : Run p e below s C N Q S') : Run p e below s C N Q S := by
  obtain ⟨s₂, o, h1, r⟩ := r
  exact ⟨s₂, o, k _ h1, r⟩
theorem Run.tr (k : Steps p.tables e below S S') (r : Run p e below s C N Q S') : Run p e below s C N Q S := by
  obtain ⟨s₂, o, h1, r⟩ := r
  exact ⟨s₂, o, k.trans h1, r⟩
theorem Run.retI (X : Stand p l e R s m args below meth c T locs cells slots) (hx : p.tables.exec = Jvm.exec) {pc : Nat} {Ls : Array Slot} {z : Int32} {rest : List Value} (hret : meth.sig.returnType = some .int) (hlk : meth.locks = false) (hd : decode c.code pc = .ok (.ireturn, 1)) (hc : cells ≤ C) (hn : slots ≤ N)
    (hQ : Q (some (.int z)) T.heap locs) : Run p e below s C N Q (T.setTop (mkF m pc Ls (.int z :: rest))) := by
  obtain ⟨fs, hr, hrun, hended, hW, hsame⟩ := X.leave (v := some (.int z)) (fun q => by rw [hret] at q; cases q)
  refine ⟨_, _, ?_, hrun, hended, _, _, rfl, hQ, ⟨_, rfl⟩, hW, hsame.mono hc hn⟩
  have hm' : T.vm.method? m = some meth := X.method'
  have hn : narrow .int (.int z) = .int z := rfl
  show Steps p.tables e below (T.setTop { method := m, pc := pc, locals := Ls, stack := _ :: rest, locked := none }) _
  jvm_step X.here [X.here.top, hx, hd, hm', hret, hn]
  first | (intro acts; rw [hr _ acts rfl rfl rfl]) | rw [hr _ _ rfl rfl rfl]
  exact Steps.refl _
theorem Run.retN (X : Stand p l e R s m args below meth c T locs cells slots) (hx : p.tables.exec = Jvm.exec) {pc : Nat} {Ls : Array Slot} {z y : Int32} {t : FieldType} {rest : List Value} (hret : meth.sig.returnType = some t) (ht : t = .boolean ∨ t = .byte ∨ t = .char ∨ t = .short) (hy : nar t z = y) (hlk : meth.locks = false) (hd : decode c.code pc = .ok (.ireturn, 1)) (hc : cells ≤ C) (hn : slots ≤ N)
    (hQ : Q (some (.int y)) T.heap locs) : Run p e below s C N Q (T.setTop (mkF m pc Ls (.int z :: rest))) := by
  subst hy
  obtain ⟨fs, hr, hrun, hended, hW, hsame⟩ := X.leave (v := some (.int (nar t z))) (fun q => by rw [hret] at q; cases q)
  exact ⟨_, _, Jvm.RoadKit.retN X hx hret ht hd hr, hrun, hended, _, _, rfl, hQ, ⟨_, rfl⟩, hW, hsame.mono hc hn⟩
theorem Run.retJ (X : Stand p l e R s m args below meth c T locs cells slots) (hx : p.tables.exec = Jvm.exec) {pc : Nat} {Ls : Array Slot} {z : Int64} {rest : List Value} (hret : meth.sig.returnType = some .long) (hlk : meth.locks = false) (hd : decode c.code pc = .ok (.lreturn, 1)) (hc : cells ≤ C) (hn : slots ≤ N)
    (hQ : Q (some (.long z)) T.heap locs) : Run p e below s C N Q (T.setTop (mkF m pc Ls (.long z :: rest))) := by
  obtain ⟨fs, hr, hrun, hended, hW, hsame⟩ := X.leave (v := some (.long z)) (fun q => by rw [hret] at q; cases q)
  refine ⟨_, _, ?_, hrun, hended, _, _, rfl, hQ, ⟨_, rfl⟩, hW, hsame.mono hc hn⟩
  have hm' : T.vm.method? m = some meth := X.method'
  show Steps p.tables e below (T.setTop { method := m, pc := pc, locals := Ls, stack := _ :: rest, locked := none }) _
  jvm_step X.here [X.here.top, hx, hd, hm', hret, narrow]
  first | (intro acts; rw [hr _ acts rfl rfl rfl]) | rw [hr _ _ rfl rfl rfl]
  exact Steps.refl _
theorem Run.retA (X : Stand p l e R s m args below meth c T locs cells slots) (hx : p.tables.exec = Jvm.exec) {pc : Nat} {Ls : Array Slot} {w : Value} {t : FieldType} {rest : List Value} (hw : w.isRef = true) (hret : meth.sig.returnType = some t) (ht : t.isReference = true) (hlk : meth.locks = false) (hd : decode c.code pc = .ok (.areturn, 1)) (hc : cells ≤ C) (hn : slots ≤ N)
    (hQ : Q (some w) T.heap locs) : Run p e below s C N Q (T.setTop (mkF m pc Ls (w :: rest))) := by
  obtain ⟨fs, hr, hrun, hended, hW, hsame⟩ := X.leave (v := some w) (fun q => by rw [hret] at q; cases q)
  refine ⟨_, _, ?_, hrun, hended, _, _, rfl, hQ, ⟨_, rfl⟩, hW, hsame.mono hc hn⟩
  have hm' : T.vm.method? m = some meth := X.method'
  show Steps p.tables e below (T.setTop { method := m, pc := pc, locals := Ls, stack := _ :: rest, locked := none }) _
  rcases ref_cases hw with rfl | ⟨a, rfl⟩
  all_goals
    jvm_step X.here [X.here.top, hx, hd, hm', hret, Value.isRef, ht]
    first | (intro acts; rw [hr _ acts rfl rfl rfl]) | rw [hr _ _ rfl rfl rfl]
    exact Steps.refl _
theorem Run.ret0 (X : Stand p l e R s m args below meth c T locs cells slots) (hx : p.tables.exec = Jvm.exec) {pc : Nat} {Ls : Array Slot} (hret : meth.sig.returnType = none) (hlk : meth.locks = false) (hd : decode c.code pc = .ok (.return_, 1)) (hc : cells ≤ C) (hn : slots ≤ N)
    (hQ : Q none T.heap locs) : Run p e below s C N Q (T.setTop (mkF m pc Ls [])) := by
  obtain ⟨fs, hr, hrun, hended, hW, hsame⟩ := X.leave (v := none) (fun _ => rfl)
  exact ⟨_, _, X.returnOut hx hret hd hr, hrun, hended, _, _, rfl, hQ, ⟨_, rfl⟩, hW, hsame.mono hc hn⟩
theorem Stand_gen {k : Nat} (X : Stand p l e R s m args below meth c T locs cells slots) (F : Fr k locs) : ∃ L, Stand p l e R s m args below meth c T L cells slots ∧ Fr k L := ⟨_, X, F⟩
theorem Sta.keep {C n d : String} {w : Value} {ws : List Addr} (F : Sta Z h C n d w) (K : Keep h h' ws) (q : ∀ x ∈ ws, ∀ c : Cell, h[x]? = some c → c.vm.isStatics = false) : Sta Z h' C n d w := by
  obtain ⟨cf, i, k, f, st, cell, h1, h2, h3, h4, h5, h6, h7⟩ := F
  refine ⟨cf, i, k, f, st, cell, h1, h2, h3, h4, K.2.1 st cell h5 (fun hm => ?_), h6, h7⟩
  rw [q st hm cell h5] at h6; cases h6
theorem Exa.nst {a : Addr} {C : String} (F : Exa Z h a C) : ∀ c : Cell, h[a]? = some c → c.vm.isStatics = false := fun c q => by
  obtain ⟨cell, k, h1, -, -, h4, -⟩ := F
  cases h1.symm.trans q; exact h4
/-- an array of n elements, the i-th is f i -/
def Ary (Z : State) (h : Heap) (a : Addr) (ty : FieldType) (n : Nat) (f : Nat → Value) : Prop := ∃ c : Cell, Arr Z h a c ty ∧ c.slots.size = n ∧ ∀ i, i < n → c.slots[i]? = some (f i)
variable {a b : Addr} {ty : FieldType} {n sl : Nat} {f : Nat → Value} {v : Value} {ws : List Addr}
theorem Ary.lt (F : Ary Z h a ty n f) : a < h.size := by obtain ⟨c, A, -⟩ := F; exact A.lt
theorem Ary.ext (F : Ary Z h a ty n f) (E : Ext h h') : Ary Z h' a ty n f := by obtain ⟨c, A, r⟩ := F; exact ⟨c, A.ext E, r⟩
theorem Ary.other (F : Ary Z h b ty n f) (W : Wr h h' a sl v) (q : b ≠ a) : Ary Z h' b ty n f := by obtain ⟨c, A, r⟩ := F; exact ⟨c, A.other W q, r⟩
theorem Ary.keep (F : Ary Z h a ty n f) (K : Keep h h' ws) (q : a ∉ ws) : Ary Z h' a ty n f := by obtain ⟨c, A, r⟩ := F; exact ⟨c, ⟨K.2.1 a c A.1 q, A.2⟩, r⟩
theorem Ary.ne {C : String} {a0 : Array Value} {k : Nat} (F : Ary Z h a ty n f) (G : Exa Z h b C) (wi : (Jvm.Cond.instantiable C k).before a0 Z = true) : a ≠ b := by
  obtain ⟨c, A, r⟩ := F; exact (ne_arr G wi A).symm
theorem Ary.same (F : Ary Z h a ty n f) (W : Wr h h' a sl v) : Ary Z h' a ty n (fun i => if i = sl then v else f i) := by
  obtain ⟨c, A, hs, hf⟩ := F
  obtain ⟨c1, q1, q2, q3, q4⟩ := W
  obtain rfl := Option.some.inj (q1.symm.trans A.1)
  refine ⟨c1.setSlot sl v, A.same ⟨c1, q1, q2, q3, q4⟩, by simp [Cell.setSlot, hs], fun i hi => ?_⟩
  by_cases e : i = sl
  · subst e; simp [Cell.setSlot, q3]
  · simp only [if_neg e]; rw [← hf i hi]; exact Array.getElem?_setIfInBounds_ne (Ne.symm e)
theorem Ary.nst (F : Ary Z h a ty n f) : ∀ c : Cell, h[a]? = some c → c.vm.isStatics = false := fun c q => by
  obtain ⟨cl, A, -⟩ := F
  cases A.1.symm.trans q; exact A.plain
theorem Ary.congr {g : Nat → Value} (F : Ary Z h a ty n f) (q : ∀ i, i < n → f i = g i) : Ary Z h a ty n g := by
  obtain ⟨c, A, hs, hf⟩ := F; exact ⟨c, A, hs, fun i hi => by rw [hf i hi, q i hi]⟩
theorem Ary.new {k : ClassId} {z : Int32} (A : Arr Z h a (newA k ty z) ty) (q : z.toNatClampNeg = n) : Ary Z h a ty n (fun _ => defaultValue ty) := by
  subst q
  exact ⟨_, A, sz_new _ _ _, fun i hi => by simp [newA, hi]⟩
theorem out_of {j : Int32} {c : Cell} (hs : c.slots.size = n) (h0 : ¬ j < 0) (hj : j.toNatClampNeg < n) : ¬ (j < 0 ∨ c.slots.size ≤ j.toNatClampNeg) := by
  rw [hs]; exact fun q => q.elim h0 (fun q => absurd hj (Nat.not_lt.mpr q))
/-- an array of references: besides, its class is that of arrays over C -/
def ArR (Z : State) (h : Heap) (a : Addr) (C : String) (n : Nat) (f : Nat → Value) : Prop := ∃ c : Cell, Arr Z h a c (.object C) ∧ Ovr Z c.cls C ∧ c.slots.size = n ∧ ∀ i, i < n → c.slots[i]? = some (f i)
variable {K : String}
theorem ArR.lt (F : ArR Z h a K n f) : a < h.size := by obtain ⟨c, A, -⟩ := F; exact A.lt
theorem ArR.ext (F : ArR Z h a K n f) (E : Ext h h') : ArR Z h' a K n f := by obtain ⟨c, A, r⟩ := F; exact ⟨c, A.ext E, r⟩
theorem ArR.other (F : ArR Z h b K n f) (W : Wr h h' a sl v) (q : b ≠ a) : ArR Z h' b K n f := by obtain ⟨c, A, r⟩ := F; exact ⟨c, A.other W q, r⟩
theorem ArR.keep (F : ArR Z h a K n f) (k : Keep h h' ws) (q : a ∉ ws) : ArR Z h' a K n f := by obtain ⟨c, A, r⟩ := F; exact ⟨c, ⟨k.2.1 a c A.1 q, A.2⟩, r⟩
theorem ArR.ary (F : ArR Z h a K n f) : Ary Z h a (.object K) n f := by obtain ⟨c, A, -, r⟩ := F; exact ⟨c, A, r⟩
theorem ArR.same (F : ArR Z h a K n f) (W : Wr h h' a sl v) : ArR Z h' a K n (fun i => if i = sl then v else f i) := by
  obtain ⟨c, A, o, hs, hf⟩ := F
  obtain ⟨c1, q1, q2, q3, q4⟩ := W
  obtain rfl := Option.some.inj (q1.symm.trans A.1)
  refine ⟨c1.setSlot sl v, A.same ⟨c1, q1, q2, q3, q4⟩, o, by simp [Cell.setSlot, hs], fun i hi => ?_⟩
  by_cases e : i = sl
  · subst e; simp [Cell.setSlot, q3]
  · simp only [if_neg e]; rw [← hf i hi]; exact Array.getElem?_setIfInBounds_ne (Ne.symm e)
theorem ArR.new {k : ClassId} {z : Int32} (A : Arr Z h a (newA k (.object K) z) (.object K)) (O : Ovr Z k K) (q : z.toNatClampNeg = n) : ArR Z h a K n (fun _ => .null) := by
  subst q
  exact ⟨_, A, O, sz_new _ _ _, fun i hi => by simp [newA, hi]; rfl⟩
section Arrays
theorem ary_iget (X : Stand p l e R s m args below meth c T locs cells slots) (hx : p.tables.exec = Jvm.exec) (hZ : Z.Warmed39 s.vm) (eT : T.heap = h) (A : Ary Z h a .int n f) {j : Int32} (h0 : ¬ j < 0) (hj : j.toNatClampNeg < n) {g : JFrame} (hg : g.method = m) {rest : List Value} (hs : g.stack = .int j :: .ref a :: rest) (hd : decode c.code g.pc = .ok (.iaload, 1)) {v : Value} (hv : f j.toNatClampNeg = v) (target : State)
    (k : Steps p.tables e below (T.setTop { g with pc := g.pc + 1, stack := v :: rest }) target) : Steps p.tables e below (T.setTop g) target := by
  subst hv; obtain ⟨cl, A, q, F⟩ := A
  exact X.iaload hx (by rw [eT]; exact A.1) (State.isArrayOf_alike hZ.alike A.2.1) A.2.2 (out_of q h0 hj) (F _ hj) hg hs hd target k
theorem ary_lget (X : Stand p l e R s m args below meth c T locs cells slots) (hx : p.tables.exec = Jvm.exec) (hZ : Z.Warmed39 s.vm) (eT : T.heap = h) (A : Ary Z h a .long n f) {j : Int32} (h0 : ¬ j < 0) (hj : j.toNatClampNeg < n) {g : JFrame} (hg : g.method = m) {rest : List Value} (hs : g.stack = .int j :: .ref a :: rest) (hd : decode c.code g.pc = .ok (.laload, 1)) {v : Value} (hv : f j.toNatClampNeg = v) (target : State)
    (k : Steps p.tables e below (T.setTop { g with pc := g.pc + 1, stack := v :: rest }) target) : Steps p.tables e below (T.setTop g) target := by
  subst hv; obtain ⟨cl, A, q, F⟩ := A
  exact X.laload hx (by rw [eT]; exact A.1) (State.isArrayOf_alike hZ.alike A.2.1) A.2.2 (out_of q h0 hj) (F _ hj) hg hs hd target k
theorem ary_bget (X : Stand p l e R s m args below meth c T locs cells slots) (hx : p.tables.exec = Jvm.exec) (hZ : Z.Warmed39 s.vm) (eT : T.heap = h) (A : Ary Z h a .byte n f) {j : Int32} (h0 : ¬ j < 0) (hj : j.toNatClampNeg < n) {g : JFrame} (hg : g.method = m) {rest : List Value} (hs : g.stack = .int j :: .ref a :: rest) (hd : decode c.code g.pc = .ok (.baload, 1)) {v : Value} (hv : f j.toNatClampNeg = v) (target : State)
    (k : Steps p.tables e below (T.setTop { g with pc := g.pc + 1, stack := v :: rest }) target) : Steps p.tables e below (T.setTop g) target := by
  subst hv; obtain ⟨cl, A, q, F⟩ := A
  exact X.baloadBytes hx (by rw [eT]; exact A.1) (State.isArrayOf_alike hZ.alike A.2.1) A.2.2 (out_of q h0 hj) (F _ hj) hg hs hd target k
theorem ary_cget (X : Stand p l e R s m args below meth c T locs cells slots) (hx : p.tables.exec = Jvm.exec) (hZ : Z.Warmed39 s.vm) (eT : T.heap = h) (A : Ary Z h a .char n f) {j : Int32} (h0 : ¬ j < 0) (hj : j.toNatClampNeg < n) {g : JFrame} (hg : g.method = m) {rest : List Value} (hs : g.stack = .int j :: .ref a :: rest) (hd : decode c.code g.pc = .ok (.caload, 1)) {v : Value} (hv : f j.toNatClampNeg = v) (target : State)
    (k : Steps p.tables e below (T.setTop { g with pc := g.pc + 1, stack := v :: rest }) target) : Steps p.tables e below (T.setTop g) target := by
  subst hv; obtain ⟨cl, A, q, F⟩ := A
  exact X.caload hx (by rw [eT]; exact A.1) (State.isArrayOf_alike hZ.alike A.2.1) A.2.2 (out_of q h0 hj) (F _ hj) hg hs hd target k
theorem ary_aget (X : Stand p l e R s m args below meth c T locs cells slots) (hx : p.tables.exec = Jvm.exec) (hZ : Z.Warmed39 s.vm) (eT : T.heap = h) (A : Ary Z h a ty n f) (hr : ty.isReference = true) {j : Int32} (h0 : ¬ j < 0) (hj : j.toNatClampNeg < n) {g : JFrame} (hg : g.method = m) {rest : List Value} (hs : g.stack = .int j :: .ref a :: rest) (hd : decode c.code g.pc = .ok (.aaload, 1)) {v : Value} (hv : f j.toNatClampNeg = v) (target : State)
    (k : Steps p.tables e below (T.setTop { g with pc := g.pc + 1, stack := v :: rest }) target) : Steps p.tables e below (T.setTop g) target := by
  subst hv; obtain ⟨cl, A, q, F⟩ := A
  exact X.aaload hx (by rw [eT]; exact A.1) (State.isArrayOf_alike hZ.alike A.2.1) hr A.2.2 (out_of q h0 hj) (F _ hj) hg hs hd target k
theorem ary_len (X : Stand p l e R s m args below meth c T locs cells slots) (hx : p.tables.exec = Jvm.exec) (hZ : Z.Warmed39 s.vm) (eT : T.heap = h) (A : Ary Z h a ty n f) {g : JFrame} (hg : g.method = m) {rest : List Value} (hs : g.stack = .ref a :: rest) (hd : decode c.code g.pc = .ok (.arraylength, 1)) {z : Int32} (hv : n.toInt32 = z) (target : State)
    (k : Steps p.tables e below (T.setTop { g with pc := g.pc + 1, stack := .int z :: rest }) target) : Steps p.tables e below (T.setTop g) target := by
  subst hv; obtain ⟨cl, A, q, F⟩ := A
  subst q
  exact X.arraylength hx (by rw [eT]; exact A.1) (State.isArrayOf_alike hZ.alike A.2.1) hg hs hd target k
theorem ary_iset (X : Stand p l e R s m args below meth c T locs cells slots) (hx : p.tables.exec = Jvm.exec) (hZ : Z.Warmed39 s.vm) (eT : T.heap = h) (A : Ary Z h a .int n f) {j x : Int32} (h0 : ¬ j < 0) (hj : j.toNatClampNeg < n) {g : JFrame} (hg : g.method = m) {rest : List Value} (hs : g.stack = .int x :: .int j :: .ref a :: rest) (hd : decode c.code g.pc = .ok (.iastore, 1)) :
    ∃ T' h', Stand p l e R s m args below meth c T' (locs ++ [⟨a, j.toNatClampNeg⟩]) cells slots ∧ T'.heap = h' ∧ Wr h h' a j.toNatClampNeg (.int x) ∧ ∀ target, Steps p.tables e below (T'.setTop { g with pc := g.pc + 1, stack := rest }) target → Steps p.tables e below (T.setTop g) target := by
  obtain ⟨cl, A, q, F⟩ := A
  exact stI X hx hZ eT A (out_of q h0 hj) hg hs hd
theorem ary_lset (X : Stand p l e R s m args below meth c T locs cells slots) (hx : p.tables.exec = Jvm.exec) (hZ : Z.Warmed39 s.vm) (eT : T.heap = h) (A : Ary Z h a .long n f) {j : Int32} {x : Int64} (h0 : ¬ j < 0) (hj : j.toNatClampNeg < n) {g : JFrame} (hg : g.method = m) {rest : List Value} (hs : g.stack = .long x :: .int j :: .ref a :: rest) (hd : decode c.code g.pc = .ok (.lastore, 1)) :
    ∃ T' h', Stand p l e R s m args below meth c T' (locs ++ [⟨a, j.toNatClampNeg⟩]) cells slots ∧ T'.heap = h' ∧ Wr h h' a j.toNatClampNeg (.long x) ∧ ∀ target, Steps p.tables e below (T'.setTop { g with pc := g.pc + 1, stack := rest }) target → Steps p.tables e below (T.setTop g) target := by
  obtain ⟨cl, A, q, F⟩ := A
  exact stJ X hx hZ eT A (out_of q h0 hj) hg hs hd
theorem ary_bset (X : Stand p l e R s m args below meth c T locs cells slots) (hx : p.tables.exec = Jvm.exec) (hZ : Z.Warmed39 s.vm) (eT : T.heap = h) (A : Ary Z h a .byte n f) {j x y : Int32} (h0 : ¬ j < 0) (hj : j.toNatClampNeg < n) {g : JFrame} (hg : g.method = m) {rest : List Value} (hs : g.stack = .int x :: .int j :: .ref a :: rest) (hd : decode c.code g.pc = .ok (.bastore, 1)) (hy : x.toInt8.toInt32 = y) :
    ∃ T' h', Stand p l e R s m args below meth c T' (locs ++ [⟨a, j.toNatClampNeg⟩]) cells slots ∧ T'.heap = h' ∧ Wr h h' a j.toNatClampNeg (.int y) ∧ ∀ target, Steps p.tables e below (T'.setTop { g with pc := g.pc + 1, stack := rest }) target → Steps p.tables e below (T.setTop g) target := by
  subst hy; obtain ⟨cl, A, q, F⟩ := A
  exact stB X hx hZ eT A (out_of q h0 hj) hg hs hd
theorem ary_cset (X : Stand p l e R s m args below meth c T locs cells slots) (hx : p.tables.exec = Jvm.exec) (hZ : Z.Warmed39 s.vm) (eT : T.heap = h) (A : Ary Z h a .char n f) {j x y : Int32} (h0 : ¬ j < 0) (hj : j.toNatClampNeg < n) {g : JFrame} (hg : g.method = m) {rest : List Value} (hs : g.stack = .int x :: .int j :: .ref a :: rest) (hd : decode c.code g.pc = .ok (.castore, 1)) (hy : nar .char x = y) :
    ∃ T' h', Stand p l e R s m args below meth c T' (locs ++ [⟨a, j.toNatClampNeg⟩]) cells slots ∧ T'.heap = h' ∧ Wr h h' a j.toNatClampNeg (.int y) ∧ ∀ target, Steps p.tables e below (T'.setTop { g with pc := g.pc + 1, stack := rest }) target → Steps p.tables e below (T.setTop g) target := by
  subst hy; obtain ⟨cl, A, q, F⟩ := A
  exact stC X hx hZ eT A (out_of q h0 hj) hg hs hd
theorem arr_set (X : Stand p l e R s m args below meth c T locs cells slots) (hx : p.tables.exec = Jvm.exec) (hZ : Z.Warmed39 s.vm) (eT : T.heap = h) (A : ArR Z h a K n f) {j : Int32} {y : Addr} (I : Ins Z h y K true) (h0 : ¬ j < 0) (hj : j.toNatClampNeg < n) {g : JFrame} (hg : g.method = m) {rest : List Value} (hs : g.stack = .ref y :: .int j :: .ref a :: rest) (hd : decode c.code g.pc = .ok (.aastore, 1)) :
    ∃ T' h', Stand p l e R s m args below meth c T' (locs ++ [⟨a, j.toNatClampNeg⟩]) cells slots ∧ T'.heap = h' ∧ Wr h h' a j.toNatClampNeg (.ref y) ∧ ∀ target, Steps p.tables e below (T'.setTop { g with pc := g.pc + 1, stack := rest }) target → Steps p.tables e below (T.setTop g) target := by
  obtain ⟨cl, A, O, q, F⟩ := A
  exact stR X hx hZ eT A (out_of q h0 hj) rfl (Sto.of A O I) hg hs hd
end Arrays
theorem nar_ite (P : Prop) [Decidable P] : nar .boolean (if P then (1 : Int32) else 0) = if P then 1 else 0 := by by_cases q : P <;> simp [q] <;> rfl
theorem cat_ref {w : Value} (q : w.isRef = true) : w.category = 1 := by cases w <;> first | rfl | (simp [Value.isRef] at q)
theorem upd_hit {g f : Nat → Value} {k : Nat} {w : Value} (q : g = fun i => if i = k then w else f i) : g k = w := by rw [q]; exact if_pos rfl
theorem upd_miss {g f : Nat → Value} {k j : Nat} {w u : Value} (q : g = fun i => if i = k then w else f i) (ne : ¬ j = k) (r : f j = u) : g j = u := by rw [q]; exact (if_neg ne).trans r
theorem upd_c {g : Nat → Value} {j : Nat} {w : Value} (q : g = fun _ => w) : g j = w := by rw [q]
theorem b_idem (x : Int32) : x.toInt8.toInt32.toInt8.toInt32 = x.toInt8.toInt32 := by rw [Int8.toInt8_toInt32]
theorem isI_c (x : Int32) : ∀ n : Nat, ∃ y, (fun _ => Value.int x) n = Value.int y := fun _ => ⟨x, rfl⟩
theorem isI_s {f : Nat → Value} (q : ∀ n, ∃ y, f n = Value.int y) (k : Nat) (x : Int32) : ∀ n, ∃ y, (fun i => if i = k then Value.int x else f i) n = Value.int y := fun n => by
  by_cases e : n = k
  · exact ⟨x, if_pos e⟩
  · obtain ⟨y, hy⟩ := q n
    exact ⟨y, (if_neg e).trans hy⟩
end Own
theorem d1_0 : decode prog_9_method_4_code 0 = .ok (.aconst_null, 1) := by decide +kernel
theorem d1_1 : decode prog_9_method_4_code 1 = .ok (.astore_n 1, 1) := by decide +kernel
theorem d1_2 : decode prog_9_method_4_code 2 = .ok (.getstatic 42, 3) := by decide +kernel
theorem d1_5 : decode prog_9_method_4_code 5 = .ok (.astore_n 2, 1) := by decide +kernel
theorem d1_6 : decode prog_9_method_4_code 6 = .ok (.aload_n 2, 1) := by decide +kernel
theorem d1_7 : decode prog_9_method_4_code 7 = .ok (.arraylength, 1) := by decide +kernel
theorem d1_8 : decode prog_9_method_4_code 8 = .ok (.istore_n 3, 1) := by decide +kernel
theorem d1_9 : decode prog_9_method_4_code 9 = .ok (.iconst 0, 1) := by decide +kernel
theorem d1_10 : decode prog_9_method_4_code 10 = .ok (.istore 4, 2) := by decide +kernel
theorem d1_12 : decode prog_9_method_4_code 12 = .ok (.iload 4, 2) := by decide +kernel
theorem d1_14 : decode prog_9_method_4_code 14 = .ok (.iload_n 3, 1) := by decide +kernel
theorem d1_15 : decode prog_9_method_4_code 15 = .ok (.if_icmp .ge 27, 3) := by decide +kernel
theorem d1_18 : decode prog_9_method_4_code 18 = .ok (.aload_n 2, 1) := by decide +kernel
theorem d1_19 : decode prog_9_method_4_code 19 = .ok (.iload 4, 2) := by decide +kernel
theorem d1_21 : decode prog_9_method_4_code 21 = .ok (.aaload, 1) := by decide +kernel
theorem d1_22 : decode prog_9_method_4_code 22 = .ok (.astore 5, 2) := by decide +kernel
theorem d1_24 : decode prog_9_method_4_code 24 = .ok (.aload 5, 2) := by decide +kernel
theorem d1_26 : decode prog_9_method_4_code 26 = .ok (.getfield 32, 3) := by decide +kernel
theorem d1_29 : decode prog_9_method_4_code 29 = .ok (.iload_n 0, 1) := by decide +kernel
theorem d1_30 : decode prog_9_method_4_code 30 = .ok (.if_icmp .ne 6, 3) := by decide +kernel
theorem d1_33 : decode prog_9_method_4_code 33 = .ok (.aload 5, 2) := by decide +kernel
theorem d1_35 : decode prog_9_method_4_code 35 = .ok (.astore_n 1, 1) := by decide +kernel
theorem d1_36 : decode prog_9_method_4_code 36 = .ok (.iinc 4 1, 3) := by decide +kernel
theorem d1_39 : decode prog_9_method_4_code 39 = .ok (.goto (-27), 3) := by decide +kernel
theorem d1_42 : decode prog_9_method_4_code 42 = .ok (.aload_n 1, 1) := by decide +kernel
theorem d1_43 : decode prog_9_method_4_code 43 = .ok (.areturn, 1) := by decide +kernel
def F_rm1 (p1 : Int32) (vETHERNET : Addr) (vLINUX_SLL : Addr) (vLINUX_SLL2 : Addr) : Value := (if ((1 : Int32) = p1) then (if ((113 : Int32) = p1) then (if ((276 : Int32) = p1) then (.ref vLINUX_SLL2) else (.ref vLINUX_SLL)) else (if ((276 : Int32) = p1) then (.ref vLINUX_SLL2) else (.ref vETHERNET))) else (if ((113 : Int32) = p1) then (if ((276 : Int32) = p1) then (.ref vLINUX_SLL2) else (.ref vLINUX_SLL)) else (if ((276 : Int32) = p1) then (.ref vLINUX_SLL2) else .null)))
theorem F_rm1_ref (p1 : Int32) (vETHERNET : Addr) (vLINUX_SLL : Addr) (vLINUX_SLL2 : Addr) : (F_rm1 p1 vETHERNET vLINUX_SLL vLINUX_SLL2).isRef = true := by unfold F_rm1; (repeat' split) <;> rfl
def Q_rm1 (Z : State) (p1 : Int32) (vETHERNET : Addr) (vLINUX_SLL : Addr) (vLINUX_SLL2 : Addr) (vALL : Addr) (h0 : Heap) (n0 : Nat) (v : Option Value) (h : Heap) (L : List Loc) : Prop := v = some (F_rm1 p1 vETHERNET vLINUX_SLL vLINUX_SLL2) ∧ Fr n0 L ∧ h = h0
theorem ef_rm1 (m : MethodId) (x0 : Int32) : entryFrame m #[(.int x0)] 6 = mkF m 0 #[.val (.int x0), .unset, .unset, .unset, .unset, .unset] [] := by first | (simp [entryFrame, mkF, argsToLocals, Value.category]; done) | rfl
theorem pn_0 : plainName "com/example/comera/comera/capture/LinkType" = true := by first | (simp [plainName, overriddenIn]; done) | decide +kernel
set_option maxRecDepth 65536 in
set_option maxHeartbeats 40000000 in
theorem rm1 (l : Launch) (Z : State) (a0 : Array Value) (hw : ∀ d ∈ tables_1, d.before a0 Z = true) (ws : List Jvm.Cond) (p1 : Int32) (vETHERNET : Addr) (vLINUX_SLL : Addr) (vLINUX_SLL2 : Addr) (vALL : Addr) (h0 : Heap) (n0 : Nat) (Z0 : n0 ≤ h0.size) (S_LinkType_ALL : Sta Z h0 "com/example/comera/comera/capture/LinkType" "ALL" "[Lcom/example/comera/comera/capture/LinkType;" (.ref vALL)) (A_vALL : Ary Z h0 vALL (.object "com/example/comera/comera/capture/LinkType") 3 (fun i => if i = 0 then (.ref vETHERNET) else (fun i => if i = 1 then (.ref vLINUX_SLL) else (fun _ => (.ref vLINUX_SLL2)) i) i)) (F_value_vETHERNET : Fld Z h0 vETHERNET "com/example/comera/comera/capture/LinkType" "value" "I" (.int (1 : Int32))) (F_value_vLINUX_SLL : Fld Z h0 vLINUX_SLL "com/example/comera/comera/capture/LinkType" "value" "I" (.int (113 : Int32))) (F_value_vLINUX_SLL2 : Fld Z h0 vLINUX_SLL2 "com/example/comera/comera/capture/LinkType" "value" "I" (.int (276 : Int32))) :
    MetFree l (⟨"com/example/comera/comera/capture/LinkType", "of", "(I)Lcom/example/comera/comera/capture/LinkType;"⟩ : MethodName) (head1 (Jvm.Cond.code (⟨"com/example/comera/comera/capture/LinkType", "of", "(I)Lcom/example/comera/comera/capture/LinkType;"⟩ : MethodName) prog_9_method_4_code 6 (some (.object "com/example/comera/comera/capture/LinkType")) :: ws) ({ frames := 0, cells := 0, slots := 0, locals := 0 } : Room)) (fun a U => a = #[(.int p1)] ∧ Z.Warmed39 U.vm ∧ U.heap = h0) (fun _ _ _ _ _ => True) (fun _ U o U' => ∃ v L, o = .returned v ∧ Q_rm1 Z p1 vETHERNET vLINUX_SLL vLINUX_SLL2 vALL h0 n0 v U'.heap L ∧ FrameEnd U o U' L ({ frames := 0, cells := 0, slots := 0, locals := 0 } : Room).cells ({ frames := 0, cells := 0, slots := 0, locals := 0 } : Room).slots) := by
  refine MetFree.of_bodySF (plainFor_of_name pn_0) hisR ?_
  intro p e s m args below meth c s₁ Bd hml0 hP hK
  obtain ⟨rfl, hZ, hh⟩ := hP
  have hx := Bd.exec
  have hby := Bd.bytes
  have hml : c.maxLocals = 6 := hml0
  have hown : s.vm.findClass "com/example/comera/comera/capture/LinkType" = some m.cls := findClass_of_methodNamed Bd.named
  have hnm := (name_of_methodNamed Bd.named Bd.method).1
  have X0 : Stand p l e ({ frames := 0, cells := 0, slots := 0, locals := 0 } : Room) s m #[(.int p1)] below meth c s₁ [] 0 0 := Stand.of_body Bd
  have e0 : s₁.heap = h0 := by rw [← hh, Bd.state]; rfl
  have N0 := Fr.nil n0
  show Run p e below s 0 0 (Q_rm1 Z p1 vETHERNET vLINUX_SLL vLINUX_SLL2 vALL h0 n0) (s₁.setTop (entryFrame m #[(.int p1)] 6))
  refine Run.go (fun _ k => castTop (ef_rm1 m p1) k) ?_
  show Run p e below s 0 0 (Q_rm1 Z p1 vETHERNET vLINUX_SLL vLINUX_SLL2 vALL h0 n0) (s₁.setTop (mkF m 0 #[.val (.int p1), .unset, .unset, .unset, .unset, .unset] []))
  refine Run.go (fun _ k => XS.aconstNull X0.here hx rfl (hb hby d1_0) k) ?_
  show Run p e below s 0 0 (Q_rm1 Z p1 vETHERNET vLINUX_SLL vLINUX_SLL2 vALL h0 n0) (s₁.setTop (mkF m 1 #[.val (.int p1), .unset, .unset, .unset, .unset, .unset] [.null]))
  refine Run.go (fun _ k => XS.astoreN X0.here hx rfl (hb hby d1_1) rfl rfl (l' := #[.val (.int p1), .val .null, .unset, .unset, .unset, .unset]) rfl k) ?_
  show Run p e below s 0 0 (Q_rm1 Z p1 vETHERNET vLINUX_SLL vLINUX_SLL2 vALL h0 n0) (s₁.setTop (mkF m 2 #[.val (.int p1), .val .null, .unset, .unset, .unset, .unset] []))
  obtain ⟨T2, X2, e2, st2⟩ := getS2 X0 hx hZ hown (host := "") (Or.inl (hw _ (List.mem_of_getElem? (i := 4) rfl))) Via.refl e0 S_LinkType_ALL (g := (mkF m 2 #[.val (.int p1), .val .null, .unset, .unset, .unset, .unset] [])) rfl (hb hby d1_2)
  refine Run.go st2 ?_
  show Run p e below s 0 0 (Q_rm1 Z p1 vETHERNET vLINUX_SLL vLINUX_SLL2 vALL h0 n0) (T2.setTop (mkF m 5 #[.val (.int p1), .val .null, .unset, .unset, .unset, .unset] [(.ref vALL)]))
  refine Run.go (fun _ k => XS.astoreN X2.here hx rfl (hb hby d1_5) rfl rfl (l' := #[.val (.int p1), .val .null, .val (.ref vALL), .unset, .unset, .unset]) rfl k) ?_
  show Run p e below s 0 0 (Q_rm1 Z p1 vETHERNET vLINUX_SLL vLINUX_SLL2 vALL h0 n0) (T2.setTop (mkF m 6 #[.val (.int p1), .val .null, .val (.ref vALL), .unset, .unset, .unset] []))
  refine Run.go (fun _ k => XS.aloadN X2.here hx rfl (hb hby d1_6) rfl rfl k) ?_
  show Run p e below s 0 0 (Q_rm1 Z p1 vETHERNET vLINUX_SLL vLINUX_SLL2 vALL h0 n0) (T2.setTop (mkF m 7 #[.val (.int p1), .val .null, .val (.ref vALL), .unset, .unset, .unset] [(.ref vALL)]))
  refine Run.go (fun _ k => ary_len X2 hx hZ e2 A_vALL (g := (mkF m 7 #[.val (.int p1), .val .null, .val (.ref vALL), .unset, .unset, .unset] [(.ref vALL)])) rfl rfl (hb hby d1_7) (z := (3 : Int32)) (by decide) _ k) ?_
  show Run p e below s 0 0 (Q_rm1 Z p1 vETHERNET vLINUX_SLL vLINUX_SLL2 vALL h0 n0) (T2.setTop (mkF m 8 #[.val (.int p1), .val .null, .val (.ref vALL), .unset, .unset, .unset] [(.int (3 : Int32))]))
  refine Run.go (fun _ k => XS.istoreN X2.here hx rfl (hb hby d1_8) rfl (l' := #[.val (.int p1), .val .null, .val (.ref vALL), .val (.int (3 : Int32)), .unset, .unset]) rfl k) ?_
  show Run p e below s 0 0 (Q_rm1 Z p1 vETHERNET vLINUX_SLL vLINUX_SLL2 vALL h0 n0) (T2.setTop (mkF m 9 #[.val (.int p1), .val .null, .val (.ref vALL), .val (.int (3 : Int32)), .unset, .unset] []))
  refine Run.go (fun _ k => XS.iconst X2.here hx rfl (hb hby d1_9) k) ?_
  show Run p e below s 0 0 (Q_rm1 Z p1 vETHERNET vLINUX_SLL vLINUX_SLL2 vALL h0 n0) (T2.setTop (mkF m 10 #[.val (.int p1), .val .null, .val (.ref vALL), .val (.int (3 : Int32)), .unset, .unset] [(.int (0 : Int32))]))
  refine Run.go (fun _ k => XS.istore X2.here hx rfl (hb hby d1_10) rfl (l' := #[.val (.int p1), .val .null, .val (.ref vALL), .val (.int (3 : Int32)), .val (.int (0 : Int32)), .unset]) rfl k) ?_
  show Run p e below s 0 0 (Q_rm1 Z p1 vETHERNET vLINUX_SLL vLINUX_SLL2 vALL h0 n0) (T2.setTop (mkF m 12 #[.val (.int p1), .val .null, .val (.ref vALL), .val (.int (3 : Int32)), .val (.int (0 : Int32)), .unset] []))
  refine Run.go (fun _ k => XS.iload X2.here hx rfl (hb hby d1_12) rfl  k) ?_
  show Run p e below s 0 0 (Q_rm1 Z p1 vETHERNET vLINUX_SLL vLINUX_SLL2 vALL h0 n0) (T2.setTop (mkF m 14 #[.val (.int p1), .val .null, .val (.ref vALL), .val (.int (3 : Int32)), .val (.int (0 : Int32)), .unset] [(.int (0 : Int32))]))
  refine Run.go (fun _ k => XS.iloadN X2.here hx rfl (hb hby d1_14) rfl  k) ?_
  show Run p e below s 0 0 (Q_rm1 Z p1 vETHERNET vLINUX_SLL vLINUX_SLL2 vALL h0 n0) (T2.setTop (mkF m 15 #[.val (.int p1), .val .null, .val (.ref vALL), .val (.int (3 : Int32)), .val (.int (0 : Int32)), .unset] [(.int (3 : Int32)), (.int (0 : Int32))]))
  refine Run.go (fun _ k => XS.icmpNo X2.here hx rfl (hb hby d1_15) rfl (tlt (by decide)).2.1 k) ?_
  show Run p e below s 0 0 (Q_rm1 Z p1 vETHERNET vLINUX_SLL vLINUX_SLL2 vALL h0 n0) (T2.setTop (mkF m 18 #[.val (.int p1), .val .null, .val (.ref vALL), .val (.int (3 : Int32)), .val (.int (0 : Int32)), .unset] []))
  refine Run.go (fun _ k => XS.aloadN X2.here hx rfl (hb hby d1_18) rfl rfl k) ?_
  show Run p e below s 0 0 (Q_rm1 Z p1 vETHERNET vLINUX_SLL vLINUX_SLL2 vALL h0 n0) (T2.setTop (mkF m 19 #[.val (.int p1), .val .null, .val (.ref vALL), .val (.int (3 : Int32)), .val (.int (0 : Int32)), .unset] [(.ref vALL)]))
  refine Run.go (fun _ k => XS.iload X2.here hx rfl (hb hby d1_19) rfl  k) ?_
  show Run p e below s 0 0 (Q_rm1 Z p1 vETHERNET vLINUX_SLL vLINUX_SLL2 vALL h0 n0) (T2.setTop (mkF m 21 #[.val (.int p1), .val .null, .val (.ref vALL), .val (.int (3 : Int32)), .val (.int (0 : Int32)), .unset] [(.int (0 : Int32)), (.ref vALL)]))
  refine Run.go (fun _ k => ary_aget X2 hx hZ e2 A_vALL rfl (by decide) (by decide) (g := (mkF m 21 #[.val (.int p1), .val .null, .val (.ref vALL), .val (.int (3 : Int32)), .val (.int (0 : Int32)), .unset] [(.int (0 : Int32)), (.ref vALL)])) rfl rfl (hb hby d1_21) rfl _ k) ?_
  show Run p e below s 0 0 (Q_rm1 Z p1 vETHERNET vLINUX_SLL vLINUX_SLL2 vALL h0 n0) (T2.setTop (mkF m 22 #[.val (.int p1), .val .null, .val (.ref vALL), .val (.int (3 : Int32)), .val (.int (0 : Int32)), .unset] [(.ref vETHERNET)]))
  refine Run.go (fun _ k => XS.astore X2.here hx rfl (hb hby d1_22) rfl rfl (l' := #[.val (.int p1), .val .null, .val (.ref vALL), .val (.int (3 : Int32)), .val (.int (0 : Int32)), .val (.ref vETHERNET)]) rfl k) ?_
  show Run p e below s 0 0 (Q_rm1 Z p1 vETHERNET vLINUX_SLL vLINUX_SLL2 vALL h0 n0) (T2.setTop (mkF m 24 #[.val (.int p1), .val .null, .val (.ref vALL), .val (.int (3 : Int32)), .val (.int (0 : Int32)), .val (.ref vETHERNET)] []))
  refine Run.go (fun _ k => XS.aload X2.here hx rfl (hb hby d1_24) rfl rfl k) ?_
  show Run p e below s 0 0 (Q_rm1 Z p1 vETHERNET vLINUX_SLL vLINUX_SLL2 vALL h0 n0) (T2.setTop (mkF m 26 #[.val (.int p1), .val .null, .val (.ref vALL), .val (.int (3 : Int32)), .val (.int (0 : Int32)), .val (.ref vETHERNET)] [(.ref vETHERNET)]))
  obtain ⟨T3, X3, e3, st3⟩ := getF X2 hx hZ hown (host := "") (Or.inl (hw _ (List.mem_of_getElem? (i := 7) rfl))) Via.refl e2 F_value_vETHERNET (g := (mkF m 26 #[.val (.int p1), .val .null, .val (.ref vALL), .val (.int (3 : Int32)), .val (.int (0 : Int32)), .val (.ref vETHERNET)] [(.ref vETHERNET)])) rfl rfl (hb hby d1_26)
  refine Run.go st3 ?_
  show Run p e below s 0 0 (Q_rm1 Z p1 vETHERNET vLINUX_SLL vLINUX_SLL2 vALL h0 n0) (T3.setTop (mkF m 29 #[.val (.int p1), .val .null, .val (.ref vALL), .val (.int (3 : Int32)), .val (.int (0 : Int32)), .val (.ref vETHERNET)] [(.int (1 : Int32))]))
  refine Run.go (fun _ k => XS.iloadN X3.here hx rfl (hb hby d1_29) rfl  k) ?_
  show Run p e below s 0 0 (Q_rm1 Z p1 vETHERNET vLINUX_SLL vLINUX_SLL2 vALL h0 n0) (T3.setTop (mkF m 30 #[.val (.int p1), .val .null, .val (.ref vALL), .val (.int (3 : Int32)), .val (.int (0 : Int32)), .val (.ref vETHERNET)] [(.int p1), (.int (1 : Int32))]))
  by_cases hc4 : ((1 : Int32) = p1)
  · refine Run.go (fun _ k => XS.icmpNo X3.here hx rfl (hb hby d1_30) rfl (teq hc4).2 k) ?_
    show Run p e below s 0 0 (Q_rm1 Z p1 vETHERNET vLINUX_SLL vLINUX_SLL2 vALL h0 n0) (T3.setTop (mkF m 33 #[.val (.int p1), .val .null, .val (.ref vALL), .val (.int (3 : Int32)), .val (.int (0 : Int32)), .val (.ref vETHERNET)] []))
    refine Run.go (fun _ k => XS.aload X3.here hx rfl (hb hby d1_33) rfl rfl k) ?_
    show Run p e below s 0 0 (Q_rm1 Z p1 vETHERNET vLINUX_SLL vLINUX_SLL2 vALL h0 n0) (T3.setTop (mkF m 35 #[.val (.int p1), .val .null, .val (.ref vALL), .val (.int (3 : Int32)), .val (.int (0 : Int32)), .val (.ref vETHERNET)] [(.ref vETHERNET)]))
    refine Run.go (fun _ k => XS.astoreN X3.here hx rfl (hb hby d1_35) rfl rfl (l' := #[.val (.int p1), .val (.ref vETHERNET), .val (.ref vALL), .val (.int (3 : Int32)), .val (.int (0 : Int32)), .val (.ref vETHERNET)]) rfl k) ?_
    show Run p e below s 0 0 (Q_rm1 Z p1 vETHERNET vLINUX_SLL vLINUX_SLL2 vALL h0 n0) (T3.setTop (mkF m 36 #[.val (.int p1), .val (.ref vETHERNET), .val (.ref vALL), .val (.int (3 : Int32)), .val (.int (0 : Int32)), .val (.ref vETHERNET)] []))
    refine Run.go (fun _ k => XS.iinc X3.here hx rfl (hb hby d1_36) rfl (l' := #[.val (.int p1), .val (.ref vETHERNET), .val (.ref vALL), .val (.int (3 : Int32)), .val (.int (1 : Int32)), .val (.ref vETHERNET)]) rfl k) ?_
    show Run p e below s 0 0 (Q_rm1 Z p1 vETHERNET vLINUX_SLL vLINUX_SLL2 vALL h0 n0) (T3.setTop (mkF m 39 #[.val (.int p1), .val (.ref vETHERNET), .val (.ref vALL), .val (.int (3 : Int32)), .val (.int (1 : Int32)), .val (.ref vETHERNET)] []))
    refine Run.go (fun _ k => XS.goto X3.here hx rfl (pc0 := 39) (pc' := 12) rfl (hb hby d1_39) (by decide) (by decide) k) ?_
    show Run p e below s 0 0 (Q_rm1 Z p1 vETHERNET vLINUX_SLL vLINUX_SLL2 vALL h0 n0) (T3.setTop (mkF m 12 #[.val (.int p1), .val (.ref vETHERNET), .val (.ref vALL), .val (.int (3 : Int32)), .val (.int (1 : Int32)), .val (.ref vETHERNET)] []))
    refine Run.go (fun _ k => XS.iload X3.here hx rfl (hb hby d1_12) rfl  k) ?_
    show Run p e below s 0 0 (Q_rm1 Z p1 vETHERNET vLINUX_SLL vLINUX_SLL2 vALL h0 n0) (T3.setTop (mkF m 14 #[.val (.int p1), .val (.ref vETHERNET), .val (.ref vALL), .val (.int (3 : Int32)), .val (.int (1 : Int32)), .val (.ref vETHERNET)] [(.int (1 : Int32))]))
    refine Run.go (fun _ k => XS.iloadN X3.here hx rfl (hb hby d1_14) rfl  k) ?_
    show Run p e below s 0 0 (Q_rm1 Z p1 vETHERNET vLINUX_SLL vLINUX_SLL2 vALL h0 n0) (T3.setTop (mkF m 15 #[.val (.int p1), .val (.ref vETHERNET), .val (.ref vALL), .val (.int (3 : Int32)), .val (.int (1 : Int32)), .val (.ref vETHERNET)] [(.int (3 : Int32)), (.int (1 : Int32))]))
    refine Run.go (fun _ k => XS.icmpNo X3.here hx rfl (hb hby d1_15) rfl (tlt (by decide)).2.1 k) ?_
    show Run p e below s 0 0 (Q_rm1 Z p1 vETHERNET vLINUX_SLL vLINUX_SLL2 vALL h0 n0) (T3.setTop (mkF m 18 #[.val (.int p1), .val (.ref vETHERNET), .val (.ref vALL), .val (.int (3 : Int32)), .val (.int (1 : Int32)), .val (.ref vETHERNET)] []))
    refine Run.go (fun _ k => XS.aloadN X3.here hx rfl (hb hby d1_18) rfl rfl k) ?_
    show Run p e below s 0 0 (Q_rm1 Z p1 vETHERNET vLINUX_SLL vLINUX_SLL2 vALL h0 n0) (T3.setTop (mkF m 19 #[.val (.int p1), .val (.ref vETHERNET), .val (.ref vALL), .val (.int (3 : Int32)), .val (.int (1 : Int32)), .val (.ref vETHERNET)] [(.ref vALL)]))
    refine Run.go (fun _ k => XS.iload X3.here hx rfl (hb hby d1_19) rfl  k) ?_
    show Run p e below s 0 0 (Q_rm1 Z p1 vETHERNET vLINUX_SLL vLINUX_SLL2 vALL h0 n0) (T3.setTop (mkF m 21 #[.val (.int p1), .val (.ref vETHERNET), .val (.ref vALL), .val (.int (3 : Int32)), .val (.int (1 : Int32)), .val (.ref vETHERNET)] [(.int (1 : Int32)), (.ref vALL)]))
    refine Run.go (fun _ k => ary_aget X3 hx hZ e3 A_vALL rfl (by decide) (by decide) (g := (mkF m 21 #[.val (.int p1), .val (.ref vETHERNET), .val (.ref vALL), .val (.int (3 : Int32)), .val (.int (1 : Int32)), .val (.ref vETHERNET)] [(.int (1 : Int32)), (.ref vALL)])) rfl rfl (hb hby d1_21) rfl _ k) ?_
    show Run p e below s 0 0 (Q_rm1 Z p1 vETHERNET vLINUX_SLL vLINUX_SLL2 vALL h0 n0) (T3.setTop (mkF m 22 #[.val (.int p1), .val (.ref vETHERNET), .val (.ref vALL), .val (.int (3 : Int32)), .val (.int (1 : Int32)), .val (.ref vETHERNET)] [(.ref vLINUX_SLL)]))
    refine Run.go (fun _ k => XS.astore X3.here hx rfl (hb hby d1_22) rfl rfl (l' := #[.val (.int p1), .val (.ref vETHERNET), .val (.ref vALL), .val (.int (3 : Int32)), .val (.int (1 : Int32)), .val (.ref vLINUX_SLL)]) rfl k) ?_
    show Run p e below s 0 0 (Q_rm1 Z p1 vETHERNET vLINUX_SLL vLINUX_SLL2 vALL h0 n0) (T3.setTop (mkF m 24 #[.val (.int p1), .val (.ref vETHERNET), .val (.ref vALL), .val (.int (3 : Int32)), .val (.int (1 : Int32)), .val (.ref vLINUX_SLL)] []))
    refine Run.go (fun _ k => XS.aload X3.here hx rfl (hb hby d1_24) rfl rfl k) ?_
    show Run p e below s 0 0 (Q_rm1 Z p1 vETHERNET vLINUX_SLL vLINUX_SLL2 vALL h0 n0) (T3.setTop (mkF m 26 #[.val (.int p1), .val (.ref vETHERNET), .val (.ref vALL), .val (.int (3 : Int32)), .val (.int (1 : Int32)), .val (.ref vLINUX_SLL)] [(.ref vLINUX_SLL)]))
    obtain ⟨T5, X5, e5, st5⟩ := getF X3 hx hZ hown (host := "") (Or.inl (hw _ (List.mem_of_getElem? (i := 7) rfl))) Via.refl e3 F_value_vLINUX_SLL (g := (mkF m 26 #[.val (.int p1), .val (.ref vETHERNET), .val (.ref vALL), .val (.int (3 : Int32)), .val (.int (1 : Int32)), .val (.ref vLINUX_SLL)] [(.ref vLINUX_SLL)])) rfl rfl (hb hby d1_26)
    refine Run.go st5 ?_
    show Run p e below s 0 0 (Q_rm1 Z p1 vETHERNET vLINUX_SLL vLINUX_SLL2 vALL h0 n0) (T5.setTop (mkF m 29 #[.val (.int p1), .val (.ref vETHERNET), .val (.ref vALL), .val (.int (3 : Int32)), .val (.int (1 : Int32)), .val (.ref vLINUX_SLL)] [(.int (113 : Int32))]))
    refine Run.go (fun _ k => XS.iloadN X5.here hx rfl (hb hby d1_29) rfl  k) ?_
    show Run p e below s 0 0 (Q_rm1 Z p1 vETHERNET vLINUX_SLL vLINUX_SLL2 vALL h0 n0) (T5.setTop (mkF m 30 #[.val (.int p1), .val (.ref vETHERNET), .val (.ref vALL), .val (.int (3 : Int32)), .val (.int (1 : Int32)), .val (.ref vLINUX_SLL)] [(.int p1), (.int (113 : Int32))]))
    by_cases hc6 : ((113 : Int32) = p1)
    · refine Run.go (fun _ k => XS.icmpNo X5.here hx rfl (hb hby d1_30) rfl (teq hc6).2 k) ?_
      show Run p e below s 0 0 (Q_rm1 Z p1 vETHERNET vLINUX_SLL vLINUX_SLL2 vALL h0 n0) (T5.setTop (mkF m 33 #[.val (.int p1), .val (.ref vETHERNET), .val (.ref vALL), .val (.int (3 : Int32)), .val (.int (1 : Int32)), .val (.ref vLINUX_SLL)] []))
      refine Run.go (fun _ k => XS.aload X5.here hx rfl (hb hby d1_33) rfl rfl k) ?_
      show Run p e below s 0 0 (Q_rm1 Z p1 vETHERNET vLINUX_SLL vLINUX_SLL2 vALL h0 n0) (T5.setTop (mkF m 35 #[.val (.int p1), .val (.ref vETHERNET), .val (.ref vALL), .val (.int (3 : Int32)), .val (.int (1 : Int32)), .val (.ref vLINUX_SLL)] [(.ref vLINUX_SLL)]))
      refine Run.go (fun _ k => XS.astoreN X5.here hx rfl (hb hby d1_35) rfl rfl (l' := #[.val (.int p1), .val (.ref vLINUX_SLL), .val (.ref vALL), .val (.int (3 : Int32)), .val (.int (1 : Int32)), .val (.ref vLINUX_SLL)]) rfl k) ?_
      show Run p e below s 0 0 (Q_rm1 Z p1 vETHERNET vLINUX_SLL vLINUX_SLL2 vALL h0 n0) (T5.setTop (mkF m 36 #[.val (.int p1), .val (.ref vLINUX_SLL), .val (.ref vALL), .val (.int (3 : Int32)), .val (.int (1 : Int32)), .val (.ref vLINUX_SLL)] []))
      refine Run.go (fun _ k => XS.iinc X5.here hx rfl (hb hby d1_36) rfl (l' := #[.val (.int p1), .val (.ref vLINUX_SLL), .val (.ref vALL), .val (.int (3 : Int32)), .val (.int (2 : Int32)), .val (.ref vLINUX_SLL)]) rfl k) ?_
      show Run p e below s 0 0 (Q_rm1 Z p1 vETHERNET vLINUX_SLL vLINUX_SLL2 vALL h0 n0) (T5.setTop (mkF m 39 #[.val (.int p1), .val (.ref vLINUX_SLL), .val (.ref vALL), .val (.int (3 : Int32)), .val (.int (2 : Int32)), .val (.ref vLINUX_SLL)] []))
      refine Run.go (fun _ k => XS.goto X5.here hx rfl (pc0 := 39) (pc' := 12) rfl (hb hby d1_39) (by decide) (by decide) k) ?_
      show Run p e below s 0 0 (Q_rm1 Z p1 vETHERNET vLINUX_SLL vLINUX_SLL2 vALL h0 n0) (T5.setTop (mkF m 12 #[.val (.int p1), .val (.ref vLINUX_SLL), .val (.ref vALL), .val (.int (3 : Int32)), .val (.int (2 : Int32)), .val (.ref vLINUX_SLL)] []))
      refine Run.go (fun _ k => XS.iload X5.here hx rfl (hb hby d1_12) rfl  k) ?_
      show Run p e below s 0 0 (Q_rm1 Z p1 vETHERNET vLINUX_SLL vLINUX_SLL2 vALL h0 n0) (T5.setTop (mkF m 14 #[.val (.int p1), .val (.ref vLINUX_SLL), .val (.ref vALL), .val (.int (3 : Int32)), .val (.int (2 : Int32)), .val (.ref vLINUX_SLL)] [(.int (2 : Int32))]))
      refine Run.go (fun _ k => XS.iloadN X5.here hx rfl (hb hby d1_14) rfl  k) ?_
      show Run p e below s 0 0 (Q_rm1 Z p1 vETHERNET vLINUX_SLL vLINUX_SLL2 vALL h0 n0) (T5.setTop (mkF m 15 #[.val (.int p1), .val (.ref vLINUX_SLL), .val (.ref vALL), .val (.int (3 : Int32)), .val (.int (2 : Int32)), .val (.ref vLINUX_SLL)] [(.int (3 : Int32)), (.int (2 : Int32))]))
      refine Run.go (fun _ k => XS.icmpNo X5.here hx rfl (hb hby d1_15) rfl (tlt (by decide)).2.1 k) ?_
      show Run p e below s 0 0 (Q_rm1 Z p1 vETHERNET vLINUX_SLL vLINUX_SLL2 vALL h0 n0) (T5.setTop (mkF m 18 #[.val (.int p1), .val (.ref vLINUX_SLL), .val (.ref vALL), .val (.int (3 : Int32)), .val (.int (2 : Int32)), .val (.ref vLINUX_SLL)] []))
      refine Run.go (fun _ k => XS.aloadN X5.here hx rfl (hb hby d1_18) rfl rfl k) ?_
      show Run p e below s 0 0 (Q_rm1 Z p1 vETHERNET vLINUX_SLL vLINUX_SLL2 vALL h0 n0) (T5.setTop (mkF m 19 #[.val (.int p1), .val (.ref vLINUX_SLL), .val (.ref vALL), .val (.int (3 : Int32)), .val (.int (2 : Int32)), .val (.ref vLINUX_SLL)] [(.ref vALL)]))
      refine Run.go (fun _ k => XS.iload X5.here hx rfl (hb hby d1_19) rfl  k) ?_
      show Run p e below s 0 0 (Q_rm1 Z p1 vETHERNET vLINUX_SLL vLINUX_SLL2 vALL h0 n0) (T5.setTop (mkF m 21 #[.val (.int p1), .val (.ref vLINUX_SLL), .val (.ref vALL), .val (.int (3 : Int32)), .val (.int (2 : Int32)), .val (.ref vLINUX_SLL)] [(.int (2 : Int32)), (.ref vALL)]))
      refine Run.go (fun _ k => ary_aget X5 hx hZ e5 A_vALL rfl (by decide) (by decide) (g := (mkF m 21 #[.val (.int p1), .val (.ref vLINUX_SLL), .val (.ref vALL), .val (.int (3 : Int32)), .val (.int (2 : Int32)), .val (.ref vLINUX_SLL)] [(.int (2 : Int32)), (.ref vALL)])) rfl rfl (hb hby d1_21) rfl _ k) ?_
      show Run p e below s 0 0 (Q_rm1 Z p1 vETHERNET vLINUX_SLL vLINUX_SLL2 vALL h0 n0) (T5.setTop (mkF m 22 #[.val (.int p1), .val (.ref vLINUX_SLL), .val (.ref vALL), .val (.int (3 : Int32)), .val (.int (2 : Int32)), .val (.ref vLINUX_SLL)] [(.ref vLINUX_SLL2)]))
      refine Run.go (fun _ k => XS.astore X5.here hx rfl (hb hby d1_22) rfl rfl (l' := #[.val (.int p1), .val (.ref vLINUX_SLL), .val (.ref vALL), .val (.int (3 : Int32)), .val (.int (2 : Int32)), .val (.ref vLINUX_SLL2)]) rfl k) ?_
      show Run p e below s 0 0 (Q_rm1 Z p1 vETHERNET vLINUX_SLL vLINUX_SLL2 vALL h0 n0) (T5.setTop (mkF m 24 #[.val (.int p1), .val (.ref vLINUX_SLL), .val (.ref vALL), .val (.int (3 : Int32)), .val (.int (2 : Int32)), .val (.ref vLINUX_SLL2)] []))
      refine Run.go (fun _ k => XS.aload X5.here hx rfl (hb hby d1_24) rfl rfl k) ?_
      show Run p e below s 0 0 (Q_rm1 Z p1 vETHERNET vLINUX_SLL vLINUX_SLL2 vALL h0 n0) (T5.setTop (mkF m 26 #[.val (.int p1), .val (.ref vLINUX_SLL), .val (.ref vALL), .val (.int (3 : Int32)), .val (.int (2 : Int32)), .val (.ref vLINUX_SLL2)] [(.ref vLINUX_SLL2)]))
      obtain ⟨T7, X7, e7, st7⟩ := getF X5 hx hZ hown (host := "") (Or.inl (hw _ (List.mem_of_getElem? (i := 7) rfl))) Via.refl e5 F_value_vLINUX_SLL2 (g := (mkF m 26 #[.val (.int p1), .val (.ref vLINUX_SLL), .val (.ref vALL), .val (.int (3 : Int32)), .val (.int (2 : Int32)), .val (.ref vLINUX_SLL2)] [(.ref vLINUX_SLL2)])) rfl rfl (hb hby d1_26)
      refine Run.go st7 ?_
      show Run p e below s 0 0 (Q_rm1 Z p1 vETHERNET vLINUX_SLL vLINUX_SLL2 vALL h0 n0) (T7.setTop (mkF m 29 #[.val (.int p1), .val (.ref vLINUX_SLL), .val (.ref vALL), .val (.int (3 : Int32)), .val (.int (2 : Int32)), .val (.ref vLINUX_SLL2)] [(.int (276 : Int32))]))
      refine Run.go (fun _ k => XS.iloadN X7.here hx rfl (hb hby d1_29) rfl  k) ?_
      show Run p e below s 0 0 (Q_rm1 Z p1 vETHERNET vLINUX_SLL vLINUX_SLL2 vALL h0 n0) (T7.setTop (mkF m 30 #[.val (.int p1), .val (.ref vLINUX_SLL), .val (.ref vALL), .val (.int (3 : Int32)), .val (.int (2 : Int32)), .val (.ref vLINUX_SLL2)] [(.int p1), (.int (276 : Int32))]))
      by_cases hc8 : ((276 : Int32) = p1)
      · refine Run.go (fun _ k => XS.icmpNo X7.here hx rfl (hb hby d1_30) rfl (teq hc8).2 k) ?_
        show Run p e below s 0 0 (Q_rm1 Z p1 vETHERNET vLINUX_SLL vLINUX_SLL2 vALL h0 n0) (T7.setTop (mkF m 33 #[.val (.int p1), .val (.ref vLINUX_SLL), .val (.ref vALL), .val (.int (3 : Int32)), .val (.int (2 : Int32)), .val (.ref vLINUX_SLL2)] []))
        refine Run.go (fun _ k => XS.aload X7.here hx rfl (hb hby d1_33) rfl rfl k) ?_
        show Run p e below s 0 0 (Q_rm1 Z p1 vETHERNET vLINUX_SLL vLINUX_SLL2 vALL h0 n0) (T7.setTop (mkF m 35 #[.val (.int p1), .val (.ref vLINUX_SLL), .val (.ref vALL), .val (.int (3 : Int32)), .val (.int (2 : Int32)), .val (.ref vLINUX_SLL2)] [(.ref vLINUX_SLL2)]))
        refine Run.go (fun _ k => XS.astoreN X7.here hx rfl (hb hby d1_35) rfl rfl (l' := #[.val (.int p1), .val (.ref vLINUX_SLL2), .val (.ref vALL), .val (.int (3 : Int32)), .val (.int (2 : Int32)), .val (.ref vLINUX_SLL2)]) rfl k) ?_
        show Run p e below s 0 0 (Q_rm1 Z p1 vETHERNET vLINUX_SLL vLINUX_SLL2 vALL h0 n0) (T7.setTop (mkF m 36 #[.val (.int p1), .val (.ref vLINUX_SLL2), .val (.ref vALL), .val (.int (3 : Int32)), .val (.int (2 : Int32)), .val (.ref vLINUX_SLL2)] []))
        refine Run.go (fun _ k => XS.iinc X7.here hx rfl (hb hby d1_36) rfl (l' := #[.val (.int p1), .val (.ref vLINUX_SLL2), .val (.ref vALL), .val (.int (3 : Int32)), .val (.int (3 : Int32)), .val (.ref vLINUX_SLL2)]) rfl k) ?_
        show Run p e below s 0 0 (Q_rm1 Z p1 vETHERNET vLINUX_SLL vLINUX_SLL2 vALL h0 n0) (T7.setTop (mkF m 39 #[.val (.int p1), .val (.ref vLINUX_SLL2), .val (.ref vALL), .val (.int (3 : Int32)), .val (.int (3 : Int32)), .val (.ref vLINUX_SLL2)] []))
        refine Run.go (fun _ k => XS.goto X7.here hx rfl (pc0 := 39) (pc' := 12) rfl (hb hby d1_39) (by decide) (by decide) k) ?_
        show Run p e below s 0 0 (Q_rm1 Z p1 vETHERNET vLINUX_SLL vLINUX_SLL2 vALL h0 n0) (T7.setTop (mkF m 12 #[.val (.int p1), .val (.ref vLINUX_SLL2), .val (.ref vALL), .val (.int (3 : Int32)), .val (.int (3 : Int32)), .val (.ref vLINUX_SLL2)] []))
        refine Run.go (fun _ k => XS.iload X7.here hx rfl (hb hby d1_12) rfl  k) ?_
        show Run p e below s 0 0 (Q_rm1 Z p1 vETHERNET vLINUX_SLL vLINUX_SLL2 vALL h0 n0) (T7.setTop (mkF m 14 #[.val (.int p1), .val (.ref vLINUX_SLL2), .val (.ref vALL), .val (.int (3 : Int32)), .val (.int (3 : Int32)), .val (.ref vLINUX_SLL2)] [(.int (3 : Int32))]))
        refine Run.go (fun _ k => XS.iloadN X7.here hx rfl (hb hby d1_14) rfl  k) ?_
        show Run p e below s 0 0 (Q_rm1 Z p1 vETHERNET vLINUX_SLL vLINUX_SLL2 vALL h0 n0) (T7.setTop (mkF m 15 #[.val (.int p1), .val (.ref vLINUX_SLL2), .val (.ref vALL), .val (.int (3 : Int32)), .val (.int (3 : Int32)), .val (.ref vLINUX_SLL2)] [(.int (3 : Int32)), (.int (3 : Int32))]))
        refine Run.go (fun _ k => XS.icmpYes X7.here hx rfl (pc0 := 15) (pc' := 42) rfl (hb hby d1_15) rfl (flt (by decide)).2.1 (by decide) (by decide) k) ?_
        show Run p e below s 0 0 (Q_rm1 Z p1 vETHERNET vLINUX_SLL vLINUX_SLL2 vALL h0 n0) (T7.setTop (mkF m 42 #[.val (.int p1), .val (.ref vLINUX_SLL2), .val (.ref vALL), .val (.int (3 : Int32)), .val (.int (3 : Int32)), .val (.ref vLINUX_SLL2)] []))
        refine Run.go (fun _ k => XS.aloadN X7.here hx rfl (hb hby d1_42) rfl rfl k) ?_
        show Run p e below s 0 0 (Q_rm1 Z p1 vETHERNET vLINUX_SLL vLINUX_SLL2 vALL h0 n0) (T7.setTop (mkF m 43 #[.val (.int p1), .val (.ref vLINUX_SLL2), .val (.ref vALL), .val (.int (3 : Int32)), .val (.int (3 : Int32)), .val (.ref vLINUX_SLL2)] [(.ref vLINUX_SLL2)]))
        refine Run.retA X7 hx rfl Bd.returns rfl Bd.notSynchronized (hb hby d1_43) (by decide) (by decide) ?_
        show Q_rm1 Z p1 vETHERNET vLINUX_SLL vLINUX_SLL2 vALL h0 n0 _ T7.heap _
        exact ⟨congrArg some (show (.ref vLINUX_SLL2) = (F_rm1 p1 vETHERNET vLINUX_SLL vLINUX_SLL2) from (by unfold F_rm1; rw [if_pos hc4, if_pos hc6, if_pos hc8])), N0, e7⟩
      · refine Run.go (fun _ k => XS.icmpYes X7.here hx rfl (pc0 := 30) (pc' := 36) rfl (hb hby d1_30) rfl (feq hc8).2 (by decide) (by decide) k) ?_
        show Run p e below s 0 0 (Q_rm1 Z p1 vETHERNET vLINUX_SLL vLINUX_SLL2 vALL h0 n0) (T7.setTop (mkF m 36 #[.val (.int p1), .val (.ref vLINUX_SLL), .val (.ref vALL), .val (.int (3 : Int32)), .val (.int (2 : Int32)), .val (.ref vLINUX_SLL2)] []))
        refine Run.go (fun _ k => XS.iinc X7.here hx rfl (hb hby d1_36) rfl (l' := #[.val (.int p1), .val (.ref vLINUX_SLL), .val (.ref vALL), .val (.int (3 : Int32)), .val (.int (3 : Int32)), .val (.ref vLINUX_SLL2)]) rfl k) ?_
        show Run p e below s 0 0 (Q_rm1 Z p1 vETHERNET vLINUX_SLL vLINUX_SLL2 vALL h0 n0) (T7.setTop (mkF m 39 #[.val (.int p1), .val (.ref vLINUX_SLL), .val (.ref vALL), .val (.int (3 : Int32)), .val (.int (3 : Int32)), .val (.ref vLINUX_SLL2)] []))
        refine Run.go (fun _ k => XS.goto X7.here hx rfl (pc0 := 39) (pc' := 12) rfl (hb hby d1_39) (by decide) (by decide) k) ?_
        show Run p e below s 0 0 (Q_rm1 Z p1 vETHERNET vLINUX_SLL vLINUX_SLL2 vALL h0 n0) (T7.setTop (mkF m 12 #[.val (.int p1), .val (.ref vLINUX_SLL), .val (.ref vALL), .val (.int (3 : Int32)), .val (.int (3 : Int32)), .val (.ref vLINUX_SLL2)] []))
        refine Run.go (fun _ k => XS.iload X7.here hx rfl (hb hby d1_12) rfl  k) ?_
        show Run p e below s 0 0 (Q_rm1 Z p1 vETHERNET vLINUX_SLL vLINUX_SLL2 vALL h0 n0) (T7.setTop (mkF m 14 #[.val (.int p1), .val (.ref vLINUX_SLL), .val (.ref vALL), .val (.int (3 : Int32)), .val (.int (3 : Int32)), .val (.ref vLINUX_SLL2)] [(.int (3 : Int32))]))
        refine Run.go (fun _ k => XS.iloadN X7.here hx rfl (hb hby d1_14) rfl  k) ?_
        show Run p e below s 0 0 (Q_rm1 Z p1 vETHERNET vLINUX_SLL vLINUX_SLL2 vALL h0 n0) (T7.setTop (mkF m 15 #[.val (.int p1), .val (.ref vLINUX_SLL), .val (.ref vALL), .val (.int (3 : Int32)), .val (.int (3 : Int32)), .val (.ref vLINUX_SLL2)] [(.int (3 : Int32)), (.int (3 : Int32))]))
        refine Run.go (fun _ k => XS.icmpYes X7.here hx rfl (pc0 := 15) (pc' := 42) rfl (hb hby d1_15) rfl (flt (by decide)).2.1 (by decide) (by decide) k) ?_
        show Run p e below s 0 0 (Q_rm1 Z p1 vETHERNET vLINUX_SLL vLINUX_SLL2 vALL h0 n0) (T7.setTop (mkF m 42 #[.val (.int p1), .val (.ref vLINUX_SLL), .val (.ref vALL), .val (.int (3 : Int32)), .val (.int (3 : Int32)), .val (.ref vLINUX_SLL2)] []))
        refine Run.go (fun _ k => XS.aloadN X7.here hx rfl (hb hby d1_42) rfl rfl k) ?_
        show Run p e below s 0 0 (Q_rm1 Z p1 vETHERNET vLINUX_SLL vLINUX_SLL2 vALL h0 n0) (T7.setTop (mkF m 43 #[.val (.int p1), .val (.ref vLINUX_SLL), .val (.ref vALL), .val (.int (3 : Int32)), .val (.int (3 : Int32)), .val (.ref vLINUX_SLL2)] [(.ref vLINUX_SLL)]))
        refine Run.retA X7 hx rfl Bd.returns rfl Bd.notSynchronized (hb hby d1_43) (by decide) (by decide) ?_
        show Q_rm1 Z p1 vETHERNET vLINUX_SLL vLINUX_SLL2 vALL h0 n0 _ T7.heap _
        exact ⟨congrArg some (show (.ref vLINUX_SLL) = (F_rm1 p1 vETHERNET vLINUX_SLL vLINUX_SLL2) from (by unfold F_rm1; rw [if_pos hc4, if_pos hc6, if_neg hc8])), N0, e7⟩
    · refine Run.go (fun _ k => XS.icmpYes X5.here hx rfl (pc0 := 30) (pc' := 36) rfl (hb hby d1_30) rfl (feq hc6).2 (by decide) (by decide) k) ?_
      show Run p e below s 0 0 (Q_rm1 Z p1 vETHERNET vLINUX_SLL vLINUX_SLL2 vALL h0 n0) (T5.setTop (mkF m 36 #[.val (.int p1), .val (.ref vETHERNET), .val (.ref vALL), .val (.int (3 : Int32)), .val (.int (1 : Int32)), .val (.ref vLINUX_SLL)] []))
      refine Run.go (fun _ k => XS.iinc X5.here hx rfl (hb hby d1_36) rfl (l' := #[.val (.int p1), .val (.ref vETHERNET), .val (.ref vALL), .val (.int (3 : Int32)), .val (.int (2 : Int32)), .val (.ref vLINUX_SLL)]) rfl k) ?_
      show Run p e below s 0 0 (Q_rm1 Z p1 vETHERNET vLINUX_SLL vLINUX_SLL2 vALL h0 n0) (T5.setTop (mkF m 39 #[.val (.int p1), .val (.ref vETHERNET), .val (.ref vALL), .val (.int (3 : Int32)), .val (.int (2 : Int32)), .val (.ref vLINUX_SLL)] []))
      refine Run.go (fun _ k => XS.goto X5.here hx rfl (pc0 := 39) (pc' := 12) rfl (hb hby d1_39) (by decide) (by decide) k) ?_
      show Run p e below s 0 0 (Q_rm1 Z p1 vETHERNET vLINUX_SLL vLINUX_SLL2 vALL h0 n0) (T5.setTop (mkF m 12 #[.val (.int p1), .val (.ref vETHERNET), .val (.ref vALL), .val (.int (3 : Int32)), .val (.int (2 : Int32)), .val (.ref vLINUX_SLL)] []))
      refine Run.go (fun _ k => XS.iload X5.here hx rfl (hb hby d1_12) rfl  k) ?_
      show Run p e below s 0 0 (Q_rm1 Z p1 vETHERNET vLINUX_SLL vLINUX_SLL2 vALL h0 n0) (T5.setTop (mkF m 14 #[.val (.int p1), .val (.ref vETHERNET), .val (.ref vALL), .val (.int (3 : Int32)), .val (.int (2 : Int32)), .val (.ref vLINUX_SLL)] [(.int (2 : Int32))]))
      refine Run.go (fun _ k => XS.iloadN X5.here hx rfl (hb hby d1_14) rfl  k) ?_
      show Run p e below s 0 0 (Q_rm1 Z p1 vETHERNET vLINUX_SLL vLINUX_SLL2 vALL h0 n0) (T5.setTop (mkF m 15 #[.val (.int p1), .val (.ref vETHERNET), .val (.ref vALL), .val (.int (3 : Int32)), .val (.int (2 : Int32)), .val (.ref vLINUX_SLL)] [(.int (3 : Int32)), (.int (2 : Int32))]))
      refine Run.go (fun _ k => XS.icmpNo X5.here hx rfl (hb hby d1_15) rfl (tlt (by decide)).2.1 k) ?_
      show Run p e below s 0 0 (Q_rm1 Z p1 vETHERNET vLINUX_SLL vLINUX_SLL2 vALL h0 n0) (T5.setTop (mkF m 18 #[.val (.int p1), .val (.ref vETHERNET), .val (.ref vALL), .val (.int (3 : Int32)), .val (.int (2 : Int32)), .val (.ref vLINUX_SLL)] []))
      refine Run.go (fun _ k => XS.aloadN X5.here hx rfl (hb hby d1_18) rfl rfl k) ?_
      show Run p e below s 0 0 (Q_rm1 Z p1 vETHERNET vLINUX_SLL vLINUX_SLL2 vALL h0 n0) (T5.setTop (mkF m 19 #[.val (.int p1), .val (.ref vETHERNET), .val (.ref vALL), .val (.int (3 : Int32)), .val (.int (2 : Int32)), .val (.ref vLINUX_SLL)] [(.ref vALL)]))
      refine Run.go (fun _ k => XS.iload X5.here hx rfl (hb hby d1_19) rfl  k) ?_
      show Run p e below s 0 0 (Q_rm1 Z p1 vETHERNET vLINUX_SLL vLINUX_SLL2 vALL h0 n0) (T5.setTop (mkF m 21 #[.val (.int p1), .val (.ref vETHERNET), .val (.ref vALL), .val (.int (3 : Int32)), .val (.int (2 : Int32)), .val (.ref vLINUX_SLL)] [(.int (2 : Int32)), (.ref vALL)]))
      refine Run.go (fun _ k => ary_aget X5 hx hZ e5 A_vALL rfl (by decide) (by decide) (g := (mkF m 21 #[.val (.int p1), .val (.ref vETHERNET), .val (.ref vALL), .val (.int (3 : Int32)), .val (.int (2 : Int32)), .val (.ref vLINUX_SLL)] [(.int (2 : Int32)), (.ref vALL)])) rfl rfl (hb hby d1_21) rfl _ k) ?_
      show Run p e below s 0 0 (Q_rm1 Z p1 vETHERNET vLINUX_SLL vLINUX_SLL2 vALL h0 n0) (T5.setTop (mkF m 22 #[.val (.int p1), .val (.ref vETHERNET), .val (.ref vALL), .val (.int (3 : Int32)), .val (.int (2 : Int32)), .val (.ref vLINUX_SLL)] [(.ref vLINUX_SLL2)]))
      refine Run.go (fun _ k => XS.astore X5.here hx rfl (hb hby d1_22) rfl rfl (l' := #[.val (.int p1), .val (.ref vETHERNET), .val (.ref vALL), .val (.int (3 : Int32)), .val (.int (2 : Int32)), .val (.ref vLINUX_SLL2)]) rfl k) ?_
      show Run p e below s 0 0 (Q_rm1 Z p1 vETHERNET vLINUX_SLL vLINUX_SLL2 vALL h0 n0) (T5.setTop (mkF m 24 #[.val (.int p1), .val (.ref vETHERNET), .val (.ref vALL), .val (.int (3 : Int32)), .val (.int (2 : Int32)), .val (.ref vLINUX_SLL2)] []))
      refine Run.go (fun _ k => XS.aload X5.here hx rfl (hb hby d1_24) rfl rfl k) ?_
      show Run p e below s 0 0 (Q_rm1 Z p1 vETHERNET vLINUX_SLL vLINUX_SLL2 vALL h0 n0) (T5.setTop (mkF m 26 #[.val (.int p1), .val (.ref vETHERNET), .val (.ref vALL), .val (.int (3 : Int32)), .val (.int (2 : Int32)), .val (.ref vLINUX_SLL2)] [(.ref vLINUX_SLL2)]))
      obtain ⟨T9, X9, e9, st9⟩ := getF X5 hx hZ hown (host := "") (Or.inl (hw _ (List.mem_of_getElem? (i := 7) rfl))) Via.refl e5 F_value_vLINUX_SLL2 (g := (mkF m 26 #[.val (.int p1), .val (.ref vETHERNET), .val (.ref vALL), .val (.int (3 : Int32)), .val (.int (2 : Int32)), .val (.ref vLINUX_SLL2)] [(.ref vLINUX_SLL2)])) rfl rfl (hb hby d1_26)
      refine Run.go st9 ?_
      show Run p e below s 0 0 (Q_rm1 Z p1 vETHERNET vLINUX_SLL vLINUX_SLL2 vALL h0 n0) (T9.setTop (mkF m 29 #[.val (.int p1), .val (.ref vETHERNET), .val (.ref vALL), .val (.int (3 : Int32)), .val (.int (2 : Int32)), .val (.ref vLINUX_SLL2)] [(.int (276 : Int32))]))
      refine Run.go (fun _ k => XS.iloadN X9.here hx rfl (hb hby d1_29) rfl  k) ?_
      show Run p e below s 0 0 (Q_rm1 Z p1 vETHERNET vLINUX_SLL vLINUX_SLL2 vALL h0 n0) (T9.setTop (mkF m 30 #[.val (.int p1), .val (.ref vETHERNET), .val (.ref vALL), .val (.int (3 : Int32)), .val (.int (2 : Int32)), .val (.ref vLINUX_SLL2)] [(.int p1), (.int (276 : Int32))]))
      by_cases hc10 : ((276 : Int32) = p1)
      · refine Run.go (fun _ k => XS.icmpNo X9.here hx rfl (hb hby d1_30) rfl (teq hc10).2 k) ?_
        show Run p e below s 0 0 (Q_rm1 Z p1 vETHERNET vLINUX_SLL vLINUX_SLL2 vALL h0 n0) (T9.setTop (mkF m 33 #[.val (.int p1), .val (.ref vETHERNET), .val (.ref vALL), .val (.int (3 : Int32)), .val (.int (2 : Int32)), .val (.ref vLINUX_SLL2)] []))
        refine Run.go (fun _ k => XS.aload X9.here hx rfl (hb hby d1_33) rfl rfl k) ?_
        show Run p e below s 0 0 (Q_rm1 Z p1 vETHERNET vLINUX_SLL vLINUX_SLL2 vALL h0 n0) (T9.setTop (mkF m 35 #[.val (.int p1), .val (.ref vETHERNET), .val (.ref vALL), .val (.int (3 : Int32)), .val (.int (2 : Int32)), .val (.ref vLINUX_SLL2)] [(.ref vLINUX_SLL2)]))
        refine Run.go (fun _ k => XS.astoreN X9.here hx rfl (hb hby d1_35) rfl rfl (l' := #[.val (.int p1), .val (.ref vLINUX_SLL2), .val (.ref vALL), .val (.int (3 : Int32)), .val (.int (2 : Int32)), .val (.ref vLINUX_SLL2)]) rfl k) ?_
        show Run p e below s 0 0 (Q_rm1 Z p1 vETHERNET vLINUX_SLL vLINUX_SLL2 vALL h0 n0) (T9.setTop (mkF m 36 #[.val (.int p1), .val (.ref vLINUX_SLL2), .val (.ref vALL), .val (.int (3 : Int32)), .val (.int (2 : Int32)), .val (.ref vLINUX_SLL2)] []))
        refine Run.go (fun _ k => XS.iinc X9.here hx rfl (hb hby d1_36) rfl (l' := #[.val (.int p1), .val (.ref vLINUX_SLL2), .val (.ref vALL), .val (.int (3 : Int32)), .val (.int (3 : Int32)), .val (.ref vLINUX_SLL2)]) rfl k) ?_
        show Run p e below s 0 0 (Q_rm1 Z p1 vETHERNET vLINUX_SLL vLINUX_SLL2 vALL h0 n0) (T9.setTop (mkF m 39 #[.val (.int p1), .val (.ref vLINUX_SLL2), .val (.ref vALL), .val (.int (3 : Int32)), .val (.int (3 : Int32)), .val (.ref vLINUX_SLL2)] []))
        refine Run.go (fun _ k => XS.goto X9.here hx rfl (pc0 := 39) (pc' := 12) rfl (hb hby d1_39) (by decide) (by decide) k) ?_
        show Run p e below s 0 0 (Q_rm1 Z p1 vETHERNET vLINUX_SLL vLINUX_SLL2 vALL h0 n0) (T9.setTop (mkF m 12 #[.val (.int p1), .val (.ref vLINUX_SLL2), .val (.ref vALL), .val (.int (3 : Int32)), .val (.int (3 : Int32)), .val (.ref vLINUX_SLL2)] []))
        refine Run.go (fun _ k => XS.iload X9.here hx rfl (hb hby d1_12) rfl  k) ?_
        show Run p e below s 0 0 (Q_rm1 Z p1 vETHERNET vLINUX_SLL vLINUX_SLL2 vALL h0 n0) (T9.setTop (mkF m 14 #[.val (.int p1), .val (.ref vLINUX_SLL2), .val (.ref vALL), .val (.int (3 : Int32)), .val (.int (3 : Int32)), .val (.ref vLINUX_SLL2)] [(.int (3 : Int32))]))
        refine Run.go (fun _ k => XS.iloadN X9.here hx rfl (hb hby d1_14) rfl  k) ?_
        show Run p e below s 0 0 (Q_rm1 Z p1 vETHERNET vLINUX_SLL vLINUX_SLL2 vALL h0 n0) (T9.setTop (mkF m 15 #[.val (.int p1), .val (.ref vLINUX_SLL2), .val (.ref vALL), .val (.int (3 : Int32)), .val (.int (3 : Int32)), .val (.ref vLINUX_SLL2)] [(.int (3 : Int32)), (.int (3 : Int32))]))
        refine Run.go (fun _ k => XS.icmpYes X9.here hx rfl (pc0 := 15) (pc' := 42) rfl (hb hby d1_15) rfl (flt (by decide)).2.1 (by decide) (by decide) k) ?_
        show Run p e below s 0 0 (Q_rm1 Z p1 vETHERNET vLINUX_SLL vLINUX_SLL2 vALL h0 n0) (T9.setTop (mkF m 42 #[.val (.int p1), .val (.ref vLINUX_SLL2), .val (.ref vALL), .val (.int (3 : Int32)), .val (.int (3 : Int32)), .val (.ref vLINUX_SLL2)] []))
        refine Run.go (fun _ k => XS.aloadN X9.here hx rfl (hb hby d1_42) rfl rfl k) ?_
        show Run p e below s 0 0 (Q_rm1 Z p1 vETHERNET vLINUX_SLL vLINUX_SLL2 vALL h0 n0) (T9.setTop (mkF m 43 #[.val (.int p1), .val (.ref vLINUX_SLL2), .val (.ref vALL), .val (.int (3 : Int32)), .val (.int (3 : Int32)), .val (.ref vLINUX_SLL2)] [(.ref vLINUX_SLL2)]))
        refine Run.retA X9 hx rfl Bd.returns rfl Bd.notSynchronized (hb hby d1_43) (by decide) (by decide) ?_
        show Q_rm1 Z p1 vETHERNET vLINUX_SLL vLINUX_SLL2 vALL h0 n0 _ T9.heap _
        exact ⟨congrArg some (show (.ref vLINUX_SLL2) = (F_rm1 p1 vETHERNET vLINUX_SLL vLINUX_SLL2) from (by unfold F_rm1; rw [if_pos hc4, if_neg hc6, if_pos hc10])), N0, e9⟩
      · refine Run.go (fun _ k => XS.icmpYes X9.here hx rfl (pc0 := 30) (pc' := 36) rfl (hb hby d1_30) rfl (feq hc10).2 (by decide) (by decide) k) ?_
        show Run p e below s 0 0 (Q_rm1 Z p1 vETHERNET vLINUX_SLL vLINUX_SLL2 vALL h0 n0) (T9.setTop (mkF m 36 #[.val (.int p1), .val (.ref vETHERNET), .val (.ref vALL), .val (.int (3 : Int32)), .val (.int (2 : Int32)), .val (.ref vLINUX_SLL2)] []))
        refine Run.go (fun _ k => XS.iinc X9.here hx rfl (hb hby d1_36) rfl (l' := #[.val (.int p1), .val (.ref vETHERNET), .val (.ref vALL), .val (.int (3 : Int32)), .val (.int (3 : Int32)), .val (.ref vLINUX_SLL2)]) rfl k) ?_
        show Run p e below s 0 0 (Q_rm1 Z p1 vETHERNET vLINUX_SLL vLINUX_SLL2 vALL h0 n0) (T9.setTop (mkF m 39 #[.val (.int p1), .val (.ref vETHERNET), .val (.ref vALL), .val (.int (3 : Int32)), .val (.int (3 : Int32)), .val (.ref vLINUX_SLL2)] []))
        refine Run.go (fun _ k => XS.goto X9.here hx rfl (pc0 := 39) (pc' := 12) rfl (hb hby d1_39) (by decide) (by decide) k) ?_
        show Run p e below s 0 0 (Q_rm1 Z p1 vETHERNET vLINUX_SLL vLINUX_SLL2 vALL h0 n0) (T9.setTop (mkF m 12 #[.val (.int p1), .val (.ref vETHERNET), .val (.ref vALL), .val (.int (3 : Int32)), .val (.int (3 : Int32)), .val (.ref vLINUX_SLL2)] []))
        refine Run.go (fun _ k => XS.iload X9.here hx rfl (hb hby d1_12) rfl  k) ?_
        show Run p e below s 0 0 (Q_rm1 Z p1 vETHERNET vLINUX_SLL vLINUX_SLL2 vALL h0 n0) (T9.setTop (mkF m 14 #[.val (.int p1), .val (.ref vETHERNET), .val (.ref vALL), .val (.int (3 : Int32)), .val (.int (3 : Int32)), .val (.ref vLINUX_SLL2)] [(.int (3 : Int32))]))
        refine Run.go (fun _ k => XS.iloadN X9.here hx rfl (hb hby d1_14) rfl  k) ?_
        show Run p e below s 0 0 (Q_rm1 Z p1 vETHERNET vLINUX_SLL vLINUX_SLL2 vALL h0 n0) (T9.setTop (mkF m 15 #[.val (.int p1), .val (.ref vETHERNET), .val (.ref vALL), .val (.int (3 : Int32)), .val (.int (3 : Int32)), .val (.ref vLINUX_SLL2)] [(.int (3 : Int32)), (.int (3 : Int32))]))
        refine Run.go (fun _ k => XS.icmpYes X9.here hx rfl (pc0 := 15) (pc' := 42) rfl (hb hby d1_15) rfl (flt (by decide)).2.1 (by decide) (by decide) k) ?_
        show Run p e below s 0 0 (Q_rm1 Z p1 vETHERNET vLINUX_SLL vLINUX_SLL2 vALL h0 n0) (T9.setTop (mkF m 42 #[.val (.int p1), .val (.ref vETHERNET), .val (.ref vALL), .val (.int (3 : Int32)), .val (.int (3 : Int32)), .val (.ref vLINUX_SLL2)] []))
        refine Run.go (fun _ k => XS.aloadN X9.here hx rfl (hb hby d1_42) rfl rfl k) ?_
        show Run p e below s 0 0 (Q_rm1 Z p1 vETHERNET vLINUX_SLL vLINUX_SLL2 vALL h0 n0) (T9.setTop (mkF m 43 #[.val (.int p1), .val (.ref vETHERNET), .val (.ref vALL), .val (.int (3 : Int32)), .val (.int (3 : Int32)), .val (.ref vLINUX_SLL2)] [(.ref vETHERNET)]))
        refine Run.retA X9 hx rfl Bd.returns rfl Bd.notSynchronized (hb hby d1_43) (by decide) (by decide) ?_
        show Q_rm1 Z p1 vETHERNET vLINUX_SLL vLINUX_SLL2 vALL h0 n0 _ T9.heap _
        exact ⟨congrArg some (show (.ref vETHERNET) = (F_rm1 p1 vETHERNET vLINUX_SLL vLINUX_SLL2) from (by unfold F_rm1; rw [if_pos hc4, if_neg hc6, if_neg hc10])), N0, e9⟩
  · refine Run.go (fun _ k => XS.icmpYes X3.here hx rfl (pc0 := 30) (pc' := 36) rfl (hb hby d1_30) rfl (feq hc4).2 (by decide) (by decide) k) ?_
    show Run p e below s 0 0 (Q_rm1 Z p1 vETHERNET vLINUX_SLL vLINUX_SLL2 vALL h0 n0) (T3.setTop (mkF m 36 #[.val (.int p1), .val .null, .val (.ref vALL), .val (.int (3 : Int32)), .val (.int (0 : Int32)), .val (.ref vETHERNET)] []))
    refine Run.go (fun _ k => XS.iinc X3.here hx rfl (hb hby d1_36) rfl (l' := #[.val (.int p1), .val .null, .val (.ref vALL), .val (.int (3 : Int32)), .val (.int (1 : Int32)), .val (.ref vETHERNET)]) rfl k) ?_
    show Run p e below s 0 0 (Q_rm1 Z p1 vETHERNET vLINUX_SLL vLINUX_SLL2 vALL h0 n0) (T3.setTop (mkF m 39 #[.val (.int p1), .val .null, .val (.ref vALL), .val (.int (3 : Int32)), .val (.int (1 : Int32)), .val (.ref vETHERNET)] []))
    refine Run.go (fun _ k => XS.goto X3.here hx rfl (pc0 := 39) (pc' := 12) rfl (hb hby d1_39) (by decide) (by decide) k) ?_
    show Run p e below s 0 0 (Q_rm1 Z p1 vETHERNET vLINUX_SLL vLINUX_SLL2 vALL h0 n0) (T3.setTop (mkF m 12 #[.val (.int p1), .val .null, .val (.ref vALL), .val (.int (3 : Int32)), .val (.int (1 : Int32)), .val (.ref vETHERNET)] []))
    refine Run.go (fun _ k => XS.iload X3.here hx rfl (hb hby d1_12) rfl  k) ?_
    show Run p e below s 0 0 (Q_rm1 Z p1 vETHERNET vLINUX_SLL vLINUX_SLL2 vALL h0 n0) (T3.setTop (mkF m 14 #[.val (.int p1), .val .null, .val (.ref vALL), .val (.int (3 : Int32)), .val (.int (1 : Int32)), .val (.ref vETHERNET)] [(.int (1 : Int32))]))
    refine Run.go (fun _ k => XS.iloadN X3.here hx rfl (hb hby d1_14) rfl  k) ?_
    show Run p e below s 0 0 (Q_rm1 Z p1 vETHERNET vLINUX_SLL vLINUX_SLL2 vALL h0 n0) (T3.setTop (mkF m 15 #[.val (.int p1), .val .null, .val (.ref vALL), .val (.int (3 : Int32)), .val (.int (1 : Int32)), .val (.ref vETHERNET)] [(.int (3 : Int32)), (.int (1 : Int32))]))
    refine Run.go (fun _ k => XS.icmpNo X3.here hx rfl (hb hby d1_15) rfl (tlt (by decide)).2.1 k) ?_
    show Run p e below s 0 0 (Q_rm1 Z p1 vETHERNET vLINUX_SLL vLINUX_SLL2 vALL h0 n0) (T3.setTop (mkF m 18 #[.val (.int p1), .val .null, .val (.ref vALL), .val (.int (3 : Int32)), .val (.int (1 : Int32)), .val (.ref vETHERNET)] []))
    refine Run.go (fun _ k => XS.aloadN X3.here hx rfl (hb hby d1_18) rfl rfl k) ?_
    show Run p e below s 0 0 (Q_rm1 Z p1 vETHERNET vLINUX_SLL vLINUX_SLL2 vALL h0 n0) (T3.setTop (mkF m 19 #[.val (.int p1), .val .null, .val (.ref vALL), .val (.int (3 : Int32)), .val (.int (1 : Int32)), .val (.ref vETHERNET)] [(.ref vALL)]))
    refine Run.go (fun _ k => XS.iload X3.here hx rfl (hb hby d1_19) rfl  k) ?_
    show Run p e below s 0 0 (Q_rm1 Z p1 vETHERNET vLINUX_SLL vLINUX_SLL2 vALL h0 n0) (T3.setTop (mkF m 21 #[.val (.int p1), .val .null, .val (.ref vALL), .val (.int (3 : Int32)), .val (.int (1 : Int32)), .val (.ref vETHERNET)] [(.int (1 : Int32)), (.ref vALL)]))
    refine Run.go (fun _ k => ary_aget X3 hx hZ e3 A_vALL rfl (by decide) (by decide) (g := (mkF m 21 #[.val (.int p1), .val .null, .val (.ref vALL), .val (.int (3 : Int32)), .val (.int (1 : Int32)), .val (.ref vETHERNET)] [(.int (1 : Int32)), (.ref vALL)])) rfl rfl (hb hby d1_21) rfl _ k) ?_
    show Run p e below s 0 0 (Q_rm1 Z p1 vETHERNET vLINUX_SLL vLINUX_SLL2 vALL h0 n0) (T3.setTop (mkF m 22 #[.val (.int p1), .val .null, .val (.ref vALL), .val (.int (3 : Int32)), .val (.int (1 : Int32)), .val (.ref vETHERNET)] [(.ref vLINUX_SLL)]))
    refine Run.go (fun _ k => XS.astore X3.here hx rfl (hb hby d1_22) rfl rfl (l' := #[.val (.int p1), .val .null, .val (.ref vALL), .val (.int (3 : Int32)), .val (.int (1 : Int32)), .val (.ref vLINUX_SLL)]) rfl k) ?_
    show Run p e below s 0 0 (Q_rm1 Z p1 vETHERNET vLINUX_SLL vLINUX_SLL2 vALL h0 n0) (T3.setTop (mkF m 24 #[.val (.int p1), .val .null, .val (.ref vALL), .val (.int (3 : Int32)), .val (.int (1 : Int32)), .val (.ref vLINUX_SLL)] []))
    refine Run.go (fun _ k => XS.aload X3.here hx rfl (hb hby d1_24) rfl rfl k) ?_
    show Run p e below s 0 0 (Q_rm1 Z p1 vETHERNET vLINUX_SLL vLINUX_SLL2 vALL h0 n0) (T3.setTop (mkF m 26 #[.val (.int p1), .val .null, .val (.ref vALL), .val (.int (3 : Int32)), .val (.int (1 : Int32)), .val (.ref vLINUX_SLL)] [(.ref vLINUX_SLL)]))
    obtain ⟨T11, X11, e11, st11⟩ := getF X3 hx hZ hown (host := "") (Or.inl (hw _ (List.mem_of_getElem? (i := 7) rfl))) Via.refl e3 F_value_vLINUX_SLL (g := (mkF m 26 #[.val (.int p1), .val .null, .val (.ref vALL), .val (.int (3 : Int32)), .val (.int (1 : Int32)), .val (.ref vLINUX_SLL)] [(.ref vLINUX_SLL)])) rfl rfl (hb hby d1_26)
    refine Run.go st11 ?_
    show Run p e below s 0 0 (Q_rm1 Z p1 vETHERNET vLINUX_SLL vLINUX_SLL2 vALL h0 n0) (T11.setTop (mkF m 29 #[.val (.int p1), .val .null, .val (.ref vALL), .val (.int (3 : Int32)), .val (.int (1 : Int32)), .val (.ref vLINUX_SLL)] [(.int (113 : Int32))]))
    refine Run.go (fun _ k => XS.iloadN X11.here hx rfl (hb hby d1_29) rfl  k) ?_
    show Run p e below s 0 0 (Q_rm1 Z p1 vETHERNET vLINUX_SLL vLINUX_SLL2 vALL h0 n0) (T11.setTop (mkF m 30 #[.val (.int p1), .val .null, .val (.ref vALL), .val (.int (3 : Int32)), .val (.int (1 : Int32)), .val (.ref vLINUX_SLL)] [(.int p1), (.int (113 : Int32))]))
    by_cases hc12 : ((113 : Int32) = p1)
    · refine Run.go (fun _ k => XS.icmpNo X11.here hx rfl (hb hby d1_30) rfl (teq hc12).2 k) ?_
      show Run p e below s 0 0 (Q_rm1 Z p1 vETHERNET vLINUX_SLL vLINUX_SLL2 vALL h0 n0) (T11.setTop (mkF m 33 #[.val (.int p1), .val .null, .val (.ref vALL), .val (.int (3 : Int32)), .val (.int (1 : Int32)), .val (.ref vLINUX_SLL)] []))
      refine Run.go (fun _ k => XS.aload X11.here hx rfl (hb hby d1_33) rfl rfl k) ?_
      show Run p e below s 0 0 (Q_rm1 Z p1 vETHERNET vLINUX_SLL vLINUX_SLL2 vALL h0 n0) (T11.setTop (mkF m 35 #[.val (.int p1), .val .null, .val (.ref vALL), .val (.int (3 : Int32)), .val (.int (1 : Int32)), .val (.ref vLINUX_SLL)] [(.ref vLINUX_SLL)]))
      refine Run.go (fun _ k => XS.astoreN X11.here hx rfl (hb hby d1_35) rfl rfl (l' := #[.val (.int p1), .val (.ref vLINUX_SLL), .val (.ref vALL), .val (.int (3 : Int32)), .val (.int (1 : Int32)), .val (.ref vLINUX_SLL)]) rfl k) ?_
      show Run p e below s 0 0 (Q_rm1 Z p1 vETHERNET vLINUX_SLL vLINUX_SLL2 vALL h0 n0) (T11.setTop (mkF m 36 #[.val (.int p1), .val (.ref vLINUX_SLL), .val (.ref vALL), .val (.int (3 : Int32)), .val (.int (1 : Int32)), .val (.ref vLINUX_SLL)] []))
      refine Run.go (fun _ k => XS.iinc X11.here hx rfl (hb hby d1_36) rfl (l' := #[.val (.int p1), .val (.ref vLINUX_SLL), .val (.ref vALL), .val (.int (3 : Int32)), .val (.int (2 : Int32)), .val (.ref vLINUX_SLL)]) rfl k) ?_
      show Run p e below s 0 0 (Q_rm1 Z p1 vETHERNET vLINUX_SLL vLINUX_SLL2 vALL h0 n0) (T11.setTop (mkF m 39 #[.val (.int p1), .val (.ref vLINUX_SLL), .val (.ref vALL), .val (.int (3 : Int32)), .val (.int (2 : Int32)), .val (.ref vLINUX_SLL)] []))
      refine Run.go (fun _ k => XS.goto X11.here hx rfl (pc0 := 39) (pc' := 12) rfl (hb hby d1_39) (by decide) (by decide) k) ?_
      show Run p e below s 0 0 (Q_rm1 Z p1 vETHERNET vLINUX_SLL vLINUX_SLL2 vALL h0 n0) (T11.setTop (mkF m 12 #[.val (.int p1), .val (.ref vLINUX_SLL), .val (.ref vALL), .val (.int (3 : Int32)), .val (.int (2 : Int32)), .val (.ref vLINUX_SLL)] []))
      refine Run.go (fun _ k => XS.iload X11.here hx rfl (hb hby d1_12) rfl  k) ?_
      show Run p e below s 0 0 (Q_rm1 Z p1 vETHERNET vLINUX_SLL vLINUX_SLL2 vALL h0 n0) (T11.setTop (mkF m 14 #[.val (.int p1), .val (.ref vLINUX_SLL), .val (.ref vALL), .val (.int (3 : Int32)), .val (.int (2 : Int32)), .val (.ref vLINUX_SLL)] [(.int (2 : Int32))]))
      refine Run.go (fun _ k => XS.iloadN X11.here hx rfl (hb hby d1_14) rfl  k) ?_
      show Run p e below s 0 0 (Q_rm1 Z p1 vETHERNET vLINUX_SLL vLINUX_SLL2 vALL h0 n0) (T11.setTop (mkF m 15 #[.val (.int p1), .val (.ref vLINUX_SLL), .val (.ref vALL), .val (.int (3 : Int32)), .val (.int (2 : Int32)), .val (.ref vLINUX_SLL)] [(.int (3 : Int32)), (.int (2 : Int32))]))
      refine Run.go (fun _ k => XS.icmpNo X11.here hx rfl (hb hby d1_15) rfl (tlt (by decide)).2.1 k) ?_
      show Run p e below s 0 0 (Q_rm1 Z p1 vETHERNET vLINUX_SLL vLINUX_SLL2 vALL h0 n0) (T11.setTop (mkF m 18 #[.val (.int p1), .val (.ref vLINUX_SLL), .val (.ref vALL), .val (.int (3 : Int32)), .val (.int (2 : Int32)), .val (.ref vLINUX_SLL)] []))
      refine Run.go (fun _ k => XS.aloadN X11.here hx rfl (hb hby d1_18) rfl rfl k) ?_
      show Run p e below s 0 0 (Q_rm1 Z p1 vETHERNET vLINUX_SLL vLINUX_SLL2 vALL h0 n0) (T11.setTop (mkF m 19 #[.val (.int p1), .val (.ref vLINUX_SLL), .val (.ref vALL), .val (.int (3 : Int32)), .val (.int (2 : Int32)), .val (.ref vLINUX_SLL)] [(.ref vALL)]))
      refine Run.go (fun _ k => XS.iload X11.here hx rfl (hb hby d1_19) rfl  k) ?_
      show Run p e below s 0 0 (Q_rm1 Z p1 vETHERNET vLINUX_SLL vLINUX_SLL2 vALL h0 n0) (T11.setTop (mkF m 21 #[.val (.int p1), .val (.ref vLINUX_SLL), .val (.ref vALL), .val (.int (3 : Int32)), .val (.int (2 : Int32)), .val (.ref vLINUX_SLL)] [(.int (2 : Int32)), (.ref vALL)]))
      refine Run.go (fun _ k => ary_aget X11 hx hZ e11 A_vALL rfl (by decide) (by decide) (g := (mkF m 21 #[.val (.int p1), .val (.ref vLINUX_SLL), .val (.ref vALL), .val (.int (3 : Int32)), .val (.int (2 : Int32)), .val (.ref vLINUX_SLL)] [(.int (2 : Int32)), (.ref vALL)])) rfl rfl (hb hby d1_21) rfl _ k) ?_
      show Run p e below s 0 0 (Q_rm1 Z p1 vETHERNET vLINUX_SLL vLINUX_SLL2 vALL h0 n0) (T11.setTop (mkF m 22 #[.val (.int p1), .val (.ref vLINUX_SLL), .val (.ref vALL), .val (.int (3 : Int32)), .val (.int (2 : Int32)), .val (.ref vLINUX_SLL)] [(.ref vLINUX_SLL2)]))
      refine Run.go (fun _ k => XS.astore X11.here hx rfl (hb hby d1_22) rfl rfl (l' := #[.val (.int p1), .val (.ref vLINUX_SLL), .val (.ref vALL), .val (.int (3 : Int32)), .val (.int (2 : Int32)), .val (.ref vLINUX_SLL2)]) rfl k) ?_
      show Run p e below s 0 0 (Q_rm1 Z p1 vETHERNET vLINUX_SLL vLINUX_SLL2 vALL h0 n0) (T11.setTop (mkF m 24 #[.val (.int p1), .val (.ref vLINUX_SLL), .val (.ref vALL), .val (.int (3 : Int32)), .val (.int (2 : Int32)), .val (.ref vLINUX_SLL2)] []))
      refine Run.go (fun _ k => XS.aload X11.here hx rfl (hb hby d1_24) rfl rfl k) ?_
      show Run p e below s 0 0 (Q_rm1 Z p1 vETHERNET vLINUX_SLL vLINUX_SLL2 vALL h0 n0) (T11.setTop (mkF m 26 #[.val (.int p1), .val (.ref vLINUX_SLL), .val (.ref vALL), .val (.int (3 : Int32)), .val (.int (2 : Int32)), .val (.ref vLINUX_SLL2)] [(.ref vLINUX_SLL2)]))
      obtain ⟨T13, X13, e13, st13⟩ := getF X11 hx hZ hown (host := "") (Or.inl (hw _ (List.mem_of_getElem? (i := 7) rfl))) Via.refl e11 F_value_vLINUX_SLL2 (g := (mkF m 26 #[.val (.int p1), .val (.ref vLINUX_SLL), .val (.ref vALL), .val (.int (3 : Int32)), .val (.int (2 : Int32)), .val (.ref vLINUX_SLL2)] [(.ref vLINUX_SLL2)])) rfl rfl (hb hby d1_26)
      refine Run.go st13 ?_
      show Run p e below s 0 0 (Q_rm1 Z p1 vETHERNET vLINUX_SLL vLINUX_SLL2 vALL h0 n0) (T13.setTop (mkF m 29 #[.val (.int p1), .val (.ref vLINUX_SLL), .val (.ref vALL), .val (.int (3 : Int32)), .val (.int (2 : Int32)), .val (.ref vLINUX_SLL2)] [(.int (276 : Int32))]))
      refine Run.go (fun _ k => XS.iloadN X13.here hx rfl (hb hby d1_29) rfl  k) ?_
      show Run p e below s 0 0 (Q_rm1 Z p1 vETHERNET vLINUX_SLL vLINUX_SLL2 vALL h0 n0) (T13.setTop (mkF m 30 #[.val (.int p1), .val (.ref vLINUX_SLL), .val (.ref vALL), .val (.int (3 : Int32)), .val (.int (2 : Int32)), .val (.ref vLINUX_SLL2)] [(.int p1), (.int (276 : Int32))]))
      by_cases hc14 : ((276 : Int32) = p1)
      · refine Run.go (fun _ k => XS.icmpNo X13.here hx rfl (hb hby d1_30) rfl (teq hc14).2 k) ?_
        show Run p e below s 0 0 (Q_rm1 Z p1 vETHERNET vLINUX_SLL vLINUX_SLL2 vALL h0 n0) (T13.setTop (mkF m 33 #[.val (.int p1), .val (.ref vLINUX_SLL), .val (.ref vALL), .val (.int (3 : Int32)), .val (.int (2 : Int32)), .val (.ref vLINUX_SLL2)] []))
        refine Run.go (fun _ k => XS.aload X13.here hx rfl (hb hby d1_33) rfl rfl k) ?_
        show Run p e below s 0 0 (Q_rm1 Z p1 vETHERNET vLINUX_SLL vLINUX_SLL2 vALL h0 n0) (T13.setTop (mkF m 35 #[.val (.int p1), .val (.ref vLINUX_SLL), .val (.ref vALL), .val (.int (3 : Int32)), .val (.int (2 : Int32)), .val (.ref vLINUX_SLL2)] [(.ref vLINUX_SLL2)]))
        refine Run.go (fun _ k => XS.astoreN X13.here hx rfl (hb hby d1_35) rfl rfl (l' := #[.val (.int p1), .val (.ref vLINUX_SLL2), .val (.ref vALL), .val (.int (3 : Int32)), .val (.int (2 : Int32)), .val (.ref vLINUX_SLL2)]) rfl k) ?_
        show Run p e below s 0 0 (Q_rm1 Z p1 vETHERNET vLINUX_SLL vLINUX_SLL2 vALL h0 n0) (T13.setTop (mkF m 36 #[.val (.int p1), .val (.ref vLINUX_SLL2), .val (.ref vALL), .val (.int (3 : Int32)), .val (.int (2 : Int32)), .val (.ref vLINUX_SLL2)] []))
        refine Run.go (fun _ k => XS.iinc X13.here hx rfl (hb hby d1_36) rfl (l' := #[.val (.int p1), .val (.ref vLINUX_SLL2), .val (.ref vALL), .val (.int (3 : Int32)), .val (.int (3 : Int32)), .val (.ref vLINUX_SLL2)]) rfl k) ?_
        show Run p e below s 0 0 (Q_rm1 Z p1 vETHERNET vLINUX_SLL vLINUX_SLL2 vALL h0 n0) (T13.setTop (mkF m 39 #[.val (.int p1), .val (.ref vLINUX_SLL2), .val (.ref vALL), .val (.int (3 : Int32)), .val (.int (3 : Int32)), .val (.ref vLINUX_SLL2)] []))
        refine Run.go (fun _ k => XS.goto X13.here hx rfl (pc0 := 39) (pc' := 12) rfl (hb hby d1_39) (by decide) (by decide) k) ?_
        show Run p e below s 0 0 (Q_rm1 Z p1 vETHERNET vLINUX_SLL vLINUX_SLL2 vALL h0 n0) (T13.setTop (mkF m 12 #[.val (.int p1), .val (.ref vLINUX_SLL2), .val (.ref vALL), .val (.int (3 : Int32)), .val (.int (3 : Int32)), .val (.ref vLINUX_SLL2)] []))
        refine Run.go (fun _ k => XS.iload X13.here hx rfl (hb hby d1_12) rfl  k) ?_
        show Run p e below s 0 0 (Q_rm1 Z p1 vETHERNET vLINUX_SLL vLINUX_SLL2 vALL h0 n0) (T13.setTop (mkF m 14 #[.val (.int p1), .val (.ref vLINUX_SLL2), .val (.ref vALL), .val (.int (3 : Int32)), .val (.int (3 : Int32)), .val (.ref vLINUX_SLL2)] [(.int (3 : Int32))]))
        refine Run.go (fun _ k => XS.iloadN X13.here hx rfl (hb hby d1_14) rfl  k) ?_
        show Run p e below s 0 0 (Q_rm1 Z p1 vETHERNET vLINUX_SLL vLINUX_SLL2 vALL h0 n0) (T13.setTop (mkF m 15 #[.val (.int p1), .val (.ref vLINUX_SLL2), .val (.ref vALL), .val (.int (3 : Int32)), .val (.int (3 : Int32)), .val (.ref vLINUX_SLL2)] [(.int (3 : Int32)), (.int (3 : Int32))]))
        refine Run.go (fun _ k => XS.icmpYes X13.here hx rfl (pc0 := 15) (pc' := 42) rfl (hb hby d1_15) rfl (flt (by decide)).2.1 (by decide) (by decide) k) ?_
        show Run p e below s 0 0 (Q_rm1 Z p1 vETHERNET vLINUX_SLL vLINUX_SLL2 vALL h0 n0) (T13.setTop (mkF m 42 #[.val (.int p1), .val (.ref vLINUX_SLL2), .val (.ref vALL), .val (.int (3 : Int32)), .val (.int (3 : Int32)), .val (.ref vLINUX_SLL2)] []))
        refine Run.go (fun _ k => XS.aloadN X13.here hx rfl (hb hby d1_42) rfl rfl k) ?_
        show Run p e below s 0 0 (Q_rm1 Z p1 vETHERNET vLINUX_SLL vLINUX_SLL2 vALL h0 n0) (T13.setTop (mkF m 43 #[.val (.int p1), .val (.ref vLINUX_SLL2), .val (.ref vALL), .val (.int (3 : Int32)), .val (.int (3 : Int32)), .val (.ref vLINUX_SLL2)] [(.ref vLINUX_SLL2)]))
        refine Run.retA X13 hx rfl Bd.returns rfl Bd.notSynchronized (hb hby d1_43) (by decide) (by decide) ?_
        show Q_rm1 Z p1 vETHERNET vLINUX_SLL vLINUX_SLL2 vALL h0 n0 _ T13.heap _
        exact ⟨congrArg some (show (.ref vLINUX_SLL2) = (F_rm1 p1 vETHERNET vLINUX_SLL vLINUX_SLL2) from (by unfold F_rm1; rw [if_neg hc4, if_pos hc12, if_pos hc14])), N0, e13⟩
      · refine Run.go (fun _ k => XS.icmpYes X13.here hx rfl (pc0 := 30) (pc' := 36) rfl (hb hby d1_30) rfl (feq hc14).2 (by decide) (by decide) k) ?_
        show Run p e below s 0 0 (Q_rm1 Z p1 vETHERNET vLINUX_SLL vLINUX_SLL2 vALL h0 n0) (T13.setTop (mkF m 36 #[.val (.int p1), .val (.ref vLINUX_SLL), .val (.ref vALL), .val (.int (3 : Int32)), .val (.int (2 : Int32)), .val (.ref vLINUX_SLL2)] []))
        refine Run.go (fun _ k => XS.iinc X13.here hx rfl (hb hby d1_36) rfl (l' := #[.val (.int p1), .val (.ref vLINUX_SLL), .val (.ref vALL), .val (.int (3 : Int32)), .val (.int (3 : Int32)), .val (.ref vLINUX_SLL2)]) rfl k) ?_
        show Run p e below s 0 0 (Q_rm1 Z p1 vETHERNET vLINUX_SLL vLINUX_SLL2 vALL h0 n0) (T13.setTop (mkF m 39 #[.val (.int p1), .val (.ref vLINUX_SLL), .val (.ref vALL), .val (.int (3 : Int32)), .val (.int (3 : Int32)), .val (.ref vLINUX_SLL2)] []))
        refine Run.go (fun _ k => XS.goto X13.here hx rfl (pc0 := 39) (pc' := 12) rfl (hb hby d1_39) (by decide) (by decide) k) ?_
        show Run p e below s 0 0 (Q_rm1 Z p1 vETHERNET vLINUX_SLL vLINUX_SLL2 vALL h0 n0) (T13.setTop (mkF m 12 #[.val (.int p1), .val (.ref vLINUX_SLL), .val (.ref vALL), .val (.int (3 : Int32)), .val (.int (3 : Int32)), .val (.ref vLINUX_SLL2)] []))
        refine Run.go (fun _ k => XS.iload X13.here hx rfl (hb hby d1_12) rfl  k) ?_
        show Run p e below s 0 0 (Q_rm1 Z p1 vETHERNET vLINUX_SLL vLINUX_SLL2 vALL h0 n0) (T13.setTop (mkF m 14 #[.val (.int p1), .val (.ref vLINUX_SLL), .val (.ref vALL), .val (.int (3 : Int32)), .val (.int (3 : Int32)), .val (.ref vLINUX_SLL2)] [(.int (3 : Int32))]))
        refine Run.go (fun _ k => XS.iloadN X13.here hx rfl (hb hby d1_14) rfl  k) ?_
        show Run p e below s 0 0 (Q_rm1 Z p1 vETHERNET vLINUX_SLL vLINUX_SLL2 vALL h0 n0) (T13.setTop (mkF m 15 #[.val (.int p1), .val (.ref vLINUX_SLL), .val (.ref vALL), .val (.int (3 : Int32)), .val (.int (3 : Int32)), .val (.ref vLINUX_SLL2)] [(.int (3 : Int32)), (.int (3 : Int32))]))
        refine Run.go (fun _ k => XS.icmpYes X13.here hx rfl (pc0 := 15) (pc' := 42) rfl (hb hby d1_15) rfl (flt (by decide)).2.1 (by decide) (by decide) k) ?_
        show Run p e below s 0 0 (Q_rm1 Z p1 vETHERNET vLINUX_SLL vLINUX_SLL2 vALL h0 n0) (T13.setTop (mkF m 42 #[.val (.int p1), .val (.ref vLINUX_SLL), .val (.ref vALL), .val (.int (3 : Int32)), .val (.int (3 : Int32)), .val (.ref vLINUX_SLL2)] []))
        refine Run.go (fun _ k => XS.aloadN X13.here hx rfl (hb hby d1_42) rfl rfl k) ?_
        show Run p e below s 0 0 (Q_rm1 Z p1 vETHERNET vLINUX_SLL vLINUX_SLL2 vALL h0 n0) (T13.setTop (mkF m 43 #[.val (.int p1), .val (.ref vLINUX_SLL), .val (.ref vALL), .val (.int (3 : Int32)), .val (.int (3 : Int32)), .val (.ref vLINUX_SLL2)] [(.ref vLINUX_SLL)]))
        refine Run.retA X13 hx rfl Bd.returns rfl Bd.notSynchronized (hb hby d1_43) (by decide) (by decide) ?_
        show Q_rm1 Z p1 vETHERNET vLINUX_SLL vLINUX_SLL2 vALL h0 n0 _ T13.heap _
        exact ⟨congrArg some (show (.ref vLINUX_SLL) = (F_rm1 p1 vETHERNET vLINUX_SLL vLINUX_SLL2) from (by unfold F_rm1; rw [if_neg hc4, if_pos hc12, if_neg hc14])), N0, e13⟩
    · refine Run.go (fun _ k => XS.icmpYes X11.here hx rfl (pc0 := 30) (pc' := 36) rfl (hb hby d1_30) rfl (feq hc12).2 (by decide) (by decide) k) ?_
      show Run p e below s 0 0 (Q_rm1 Z p1 vETHERNET vLINUX_SLL vLINUX_SLL2 vALL h0 n0) (T11.setTop (mkF m 36 #[.val (.int p1), .val .null, .val (.ref vALL), .val (.int (3 : Int32)), .val (.int (1 : Int32)), .val (.ref vLINUX_SLL)] []))
      refine Run.go (fun _ k => XS.iinc X11.here hx rfl (hb hby d1_36) rfl (l' := #[.val (.int p1), .val .null, .val (.ref vALL), .val (.int (3 : Int32)), .val (.int (2 : Int32)), .val (.ref vLINUX_SLL)]) rfl k) ?_
      show Run p e below s 0 0 (Q_rm1 Z p1 vETHERNET vLINUX_SLL vLINUX_SLL2 vALL h0 n0) (T11.setTop (mkF m 39 #[.val (.int p1), .val .null, .val (.ref vALL), .val (.int (3 : Int32)), .val (.int (2 : Int32)), .val (.ref vLINUX_SLL)] []))
      refine Run.go (fun _ k => XS.goto X11.here hx rfl (pc0 := 39) (pc' := 12) rfl (hb hby d1_39) (by decide) (by decide) k) ?_
      show Run p e below s 0 0 (Q_rm1 Z p1 vETHERNET vLINUX_SLL vLINUX_SLL2 vALL h0 n0) (T11.setTop (mkF m 12 #[.val (.int p1), .val .null, .val (.ref vALL), .val (.int (3 : Int32)), .val (.int (2 : Int32)), .val (.ref vLINUX_SLL)] []))
      refine Run.go (fun _ k => XS.iload X11.here hx rfl (hb hby d1_12) rfl  k) ?_
      show Run p e below s 0 0 (Q_rm1 Z p1 vETHERNET vLINUX_SLL vLINUX_SLL2 vALL h0 n0) (T11.setTop (mkF m 14 #[.val (.int p1), .val .null, .val (.ref vALL), .val (.int (3 : Int32)), .val (.int (2 : Int32)), .val (.ref vLINUX_SLL)] [(.int (2 : Int32))]))
      refine Run.go (fun _ k => XS.iloadN X11.here hx rfl (hb hby d1_14) rfl  k) ?_
      show Run p e below s 0 0 (Q_rm1 Z p1 vETHERNET vLINUX_SLL vLINUX_SLL2 vALL h0 n0) (T11.setTop (mkF m 15 #[.val (.int p1), .val .null, .val (.ref vALL), .val (.int (3 : Int32)), .val (.int (2 : Int32)), .val (.ref vLINUX_SLL)] [(.int (3 : Int32)), (.int (2 : Int32))]))
      refine Run.go (fun _ k => XS.icmpNo X11.here hx rfl (hb hby d1_15) rfl (tlt (by decide)).2.1 k) ?_
      show Run p e below s 0 0 (Q_rm1 Z p1 vETHERNET vLINUX_SLL vLINUX_SLL2 vALL h0 n0) (T11.setTop (mkF m 18 #[.val (.int p1), .val .null, .val (.ref vALL), .val (.int (3 : Int32)), .val (.int (2 : Int32)), .val (.ref vLINUX_SLL)] []))
      refine Run.go (fun _ k => XS.aloadN X11.here hx rfl (hb hby d1_18) rfl rfl k) ?_
      show Run p e below s 0 0 (Q_rm1 Z p1 vETHERNET vLINUX_SLL vLINUX_SLL2 vALL h0 n0) (T11.setTop (mkF m 19 #[.val (.int p1), .val .null, .val (.ref vALL), .val (.int (3 : Int32)), .val (.int (2 : Int32)), .val (.ref vLINUX_SLL)] [(.ref vALL)]))
      refine Run.go (fun _ k => XS.iload X11.here hx rfl (hb hby d1_19) rfl  k) ?_
      show Run p e below s 0 0 (Q_rm1 Z p1 vETHERNET vLINUX_SLL vLINUX_SLL2 vALL h0 n0) (T11.setTop (mkF m 21 #[.val (.int p1), .val .null, .val (.ref vALL), .val (.int (3 : Int32)), .val (.int (2 : Int32)), .val (.ref vLINUX_SLL)] [(.int (2 : Int32)), (.ref vALL)]))
      refine Run.go (fun _ k => ary_aget X11 hx hZ e11 A_vALL rfl (by decide) (by decide) (g := (mkF m 21 #[.val (.int p1), .val .null, .val (.ref vALL), .val (.int (3 : Int32)), .val (.int (2 : Int32)), .val (.ref vLINUX_SLL)] [(.int (2 : Int32)), (.ref vALL)])) rfl rfl (hb hby d1_21) rfl _ k) ?_
      show Run p e below s 0 0 (Q_rm1 Z p1 vETHERNET vLINUX_SLL vLINUX_SLL2 vALL h0 n0) (T11.setTop (mkF m 22 #[.val (.int p1), .val .null, .val (.ref vALL), .val (.int (3 : Int32)), .val (.int (2 : Int32)), .val (.ref vLINUX_SLL)] [(.ref vLINUX_SLL2)]))
      refine Run.go (fun _ k => XS.astore X11.here hx rfl (hb hby d1_22) rfl rfl (l' := #[.val (.int p1), .val .null, .val (.ref vALL), .val (.int (3 : Int32)), .val (.int (2 : Int32)), .val (.ref vLINUX_SLL2)]) rfl k) ?_
      show Run p e below s 0 0 (Q_rm1 Z p1 vETHERNET vLINUX_SLL vLINUX_SLL2 vALL h0 n0) (T11.setTop (mkF m 24 #[.val (.int p1), .val .null, .val (.ref vALL), .val (.int (3 : Int32)), .val (.int (2 : Int32)), .val (.ref vLINUX_SLL2)] []))
      refine Run.go (fun _ k => XS.aload X11.here hx rfl (hb hby d1_24) rfl rfl k) ?_
      show Run p e below s 0 0 (Q_rm1 Z p1 vETHERNET vLINUX_SLL vLINUX_SLL2 vALL h0 n0) (T11.setTop (mkF m 26 #[.val (.int p1), .val .null, .val (.ref vALL), .val (.int (3 : Int32)), .val (.int (2 : Int32)), .val (.ref vLINUX_SLL2)] [(.ref vLINUX_SLL2)]))
      obtain ⟨T15, X15, e15, st15⟩ := getF X11 hx hZ hown (host := "") (Or.inl (hw _ (List.mem_of_getElem? (i := 7) rfl))) Via.refl e11 F_value_vLINUX_SLL2 (g := (mkF m 26 #[.val (.int p1), .val .null, .val (.ref vALL), .val (.int (3 : Int32)), .val (.int (2 : Int32)), .val (.ref vLINUX_SLL2)] [(.ref vLINUX_SLL2)])) rfl rfl (hb hby d1_26)
      refine Run.go st15 ?_
      show Run p e below s 0 0 (Q_rm1 Z p1 vETHERNET vLINUX_SLL vLINUX_SLL2 vALL h0 n0) (T15.setTop (mkF m 29 #[.val (.int p1), .val .null, .val (.ref vALL), .val (.int (3 : Int32)), .val (.int (2 : Int32)), .val (.ref vLINUX_SLL2)] [(.int (276 : Int32))]))
      refine Run.go (fun _ k => XS.iloadN X15.here hx rfl (hb hby d1_29) rfl  k) ?_
      show Run p e below s 0 0 (Q_rm1 Z p1 vETHERNET vLINUX_SLL vLINUX_SLL2 vALL h0 n0) (T15.setTop (mkF m 30 #[.val (.int p1), .val .null, .val (.ref vALL), .val (.int (3 : Int32)), .val (.int (2 : Int32)), .val (.ref vLINUX_SLL2)] [(.int p1), (.int (276 : Int32))]))
      by_cases hc16 : ((276 : Int32) = p1)
      · refine Run.go (fun _ k => XS.icmpNo X15.here hx rfl (hb hby d1_30) rfl (teq hc16).2 k) ?_
        show Run p e below s 0 0 (Q_rm1 Z p1 vETHERNET vLINUX_SLL vLINUX_SLL2 vALL h0 n0) (T15.setTop (mkF m 33 #[.val (.int p1), .val .null, .val (.ref vALL), .val (.int (3 : Int32)), .val (.int (2 : Int32)), .val (.ref vLINUX_SLL2)] []))
        refine Run.go (fun _ k => XS.aload X15.here hx rfl (hb hby d1_33) rfl rfl k) ?_
        show Run p e below s 0 0 (Q_rm1 Z p1 vETHERNET vLINUX_SLL vLINUX_SLL2 vALL h0 n0) (T15.setTop (mkF m 35 #[.val (.int p1), .val .null, .val (.ref vALL), .val (.int (3 : Int32)), .val (.int (2 : Int32)), .val (.ref vLINUX_SLL2)] [(.ref vLINUX_SLL2)]))
        refine Run.go (fun _ k => XS.astoreN X15.here hx rfl (hb hby d1_35) rfl rfl (l' := #[.val (.int p1), .val (.ref vLINUX_SLL2), .val (.ref vALL), .val (.int (3 : Int32)), .val (.int (2 : Int32)), .val (.ref vLINUX_SLL2)]) rfl k) ?_
        show Run p e below s 0 0 (Q_rm1 Z p1 vETHERNET vLINUX_SLL vLINUX_SLL2 vALL h0 n0) (T15.setTop (mkF m 36 #[.val (.int p1), .val (.ref vLINUX_SLL2), .val (.ref vALL), .val (.int (3 : Int32)), .val (.int (2 : Int32)), .val (.ref vLINUX_SLL2)] []))
        refine Run.go (fun _ k => XS.iinc X15.here hx rfl (hb hby d1_36) rfl (l' := #[.val (.int p1), .val (.ref vLINUX_SLL2), .val (.ref vALL), .val (.int (3 : Int32)), .val (.int (3 : Int32)), .val (.ref vLINUX_SLL2)]) rfl k) ?_
        show Run p e below s 0 0 (Q_rm1 Z p1 vETHERNET vLINUX_SLL vLINUX_SLL2 vALL h0 n0) (T15.setTop (mkF m 39 #[.val (.int p1), .val (.ref vLINUX_SLL2), .val (.ref vALL), .val (.int (3 : Int32)), .val (.int (3 : Int32)), .val (.ref vLINUX_SLL2)] []))
        refine Run.go (fun _ k => XS.goto X15.here hx rfl (pc0 := 39) (pc' := 12) rfl (hb hby d1_39) (by decide) (by decide) k) ?_
        show Run p e below s 0 0 (Q_rm1 Z p1 vETHERNET vLINUX_SLL vLINUX_SLL2 vALL h0 n0) (T15.setTop (mkF m 12 #[.val (.int p1), .val (.ref vLINUX_SLL2), .val (.ref vALL), .val (.int (3 : Int32)), .val (.int (3 : Int32)), .val (.ref vLINUX_SLL2)] []))
        refine Run.go (fun _ k => XS.iload X15.here hx rfl (hb hby d1_12) rfl  k) ?_
        show Run p e below s 0 0 (Q_rm1 Z p1 vETHERNET vLINUX_SLL vLINUX_SLL2 vALL h0 n0) (T15.setTop (mkF m 14 #[.val (.int p1), .val (.ref vLINUX_SLL2), .val (.ref vALL), .val (.int (3 : Int32)), .val (.int (3 : Int32)), .val (.ref vLINUX_SLL2)] [(.int (3 : Int32))]))
        refine Run.go (fun _ k => XS.iloadN X15.here hx rfl (hb hby d1_14) rfl  k) ?_
        show Run p e below s 0 0 (Q_rm1 Z p1 vETHERNET vLINUX_SLL vLINUX_SLL2 vALL h0 n0) (T15.setTop (mkF m 15 #[.val (.int p1), .val (.ref vLINUX_SLL2), .val (.ref vALL), .val (.int (3 : Int32)), .val (.int (3 : Int32)), .val (.ref vLINUX_SLL2)] [(.int (3 : Int32)), (.int (3 : Int32))]))
        refine Run.go (fun _ k => XS.icmpYes X15.here hx rfl (pc0 := 15) (pc' := 42) rfl (hb hby d1_15) rfl (flt (by decide)).2.1 (by decide) (by decide) k) ?_
        show Run p e below s 0 0 (Q_rm1 Z p1 vETHERNET vLINUX_SLL vLINUX_SLL2 vALL h0 n0) (T15.setTop (mkF m 42 #[.val (.int p1), .val (.ref vLINUX_SLL2), .val (.ref vALL), .val (.int (3 : Int32)), .val (.int (3 : Int32)), .val (.ref vLINUX_SLL2)] []))
        refine Run.go (fun _ k => XS.aloadN X15.here hx rfl (hb hby d1_42) rfl rfl k) ?_
        show Run p e below s 0 0 (Q_rm1 Z p1 vETHERNET vLINUX_SLL vLINUX_SLL2 vALL h0 n0) (T15.setTop (mkF m 43 #[.val (.int p1), .val (.ref vLINUX_SLL2), .val (.ref vALL), .val (.int (3 : Int32)), .val (.int (3 : Int32)), .val (.ref vLINUX_SLL2)] [(.ref vLINUX_SLL2)]))
        refine Run.retA X15 hx rfl Bd.returns rfl Bd.notSynchronized (hb hby d1_43) (by decide) (by decide) ?_
        show Q_rm1 Z p1 vETHERNET vLINUX_SLL vLINUX_SLL2 vALL h0 n0 _ T15.heap _
        exact ⟨congrArg some (show (.ref vLINUX_SLL2) = (F_rm1 p1 vETHERNET vLINUX_SLL vLINUX_SLL2) from (by unfold F_rm1; rw [if_neg hc4, if_neg hc12, if_pos hc16])), N0, e15⟩
      · refine Run.go (fun _ k => XS.icmpYes X15.here hx rfl (pc0 := 30) (pc' := 36) rfl (hb hby d1_30) rfl (feq hc16).2 (by decide) (by decide) k) ?_
        show Run p e below s 0 0 (Q_rm1 Z p1 vETHERNET vLINUX_SLL vLINUX_SLL2 vALL h0 n0) (T15.setTop (mkF m 36 #[.val (.int p1), .val .null, .val (.ref vALL), .val (.int (3 : Int32)), .val (.int (2 : Int32)), .val (.ref vLINUX_SLL2)] []))
        refine Run.go (fun _ k => XS.iinc X15.here hx rfl (hb hby d1_36) rfl (l' := #[.val (.int p1), .val .null, .val (.ref vALL), .val (.int (3 : Int32)), .val (.int (3 : Int32)), .val (.ref vLINUX_SLL2)]) rfl k) ?_
        show Run p e below s 0 0 (Q_rm1 Z p1 vETHERNET vLINUX_SLL vLINUX_SLL2 vALL h0 n0) (T15.setTop (mkF m 39 #[.val (.int p1), .val .null, .val (.ref vALL), .val (.int (3 : Int32)), .val (.int (3 : Int32)), .val (.ref vLINUX_SLL2)] []))
        refine Run.go (fun _ k => XS.goto X15.here hx rfl (pc0 := 39) (pc' := 12) rfl (hb hby d1_39) (by decide) (by decide) k) ?_
        show Run p e below s 0 0 (Q_rm1 Z p1 vETHERNET vLINUX_SLL vLINUX_SLL2 vALL h0 n0) (T15.setTop (mkF m 12 #[.val (.int p1), .val .null, .val (.ref vALL), .val (.int (3 : Int32)), .val (.int (3 : Int32)), .val (.ref vLINUX_SLL2)] []))
        refine Run.go (fun _ k => XS.iload X15.here hx rfl (hb hby d1_12) rfl  k) ?_
        show Run p e below s 0 0 (Q_rm1 Z p1 vETHERNET vLINUX_SLL vLINUX_SLL2 vALL h0 n0) (T15.setTop (mkF m 14 #[.val (.int p1), .val .null, .val (.ref vALL), .val (.int (3 : Int32)), .val (.int (3 : Int32)), .val (.ref vLINUX_SLL2)] [(.int (3 : Int32))]))
        refine Run.go (fun _ k => XS.iloadN X15.here hx rfl (hb hby d1_14) rfl  k) ?_
        show Run p e below s 0 0 (Q_rm1 Z p1 vETHERNET vLINUX_SLL vLINUX_SLL2 vALL h0 n0) (T15.setTop (mkF m 15 #[.val (.int p1), .val .null, .val (.ref vALL), .val (.int (3 : Int32)), .val (.int (3 : Int32)), .val (.ref vLINUX_SLL2)] [(.int (3 : Int32)), (.int (3 : Int32))]))
        refine Run.go (fun _ k => XS.icmpYes X15.here hx rfl (pc0 := 15) (pc' := 42) rfl (hb hby d1_15) rfl (flt (by decide)).2.1 (by decide) (by decide) k) ?_
        show Run p e below s 0 0 (Q_rm1 Z p1 vETHERNET vLINUX_SLL vLINUX_SLL2 vALL h0 n0) (T15.setTop (mkF m 42 #[.val (.int p1), .val .null, .val (.ref vALL), .val (.int (3 : Int32)), .val (.int (3 : Int32)), .val (.ref vLINUX_SLL2)] []))
        refine Run.go (fun _ k => XS.aloadN X15.here hx rfl (hb hby d1_42) rfl rfl k) ?_
        show Run p e below s 0 0 (Q_rm1 Z p1 vETHERNET vLINUX_SLL vLINUX_SLL2 vALL h0 n0) (T15.setTop (mkF m 43 #[.val (.int p1), .val .null, .val (.ref vALL), .val (.int (3 : Int32)), .val (.int (3 : Int32)), .val (.ref vLINUX_SLL2)] [.null]))
        refine Run.retA X15 hx rfl Bd.returns rfl Bd.notSynchronized (hb hby d1_43) (by decide) (by decide) ?_
        show Q_rm1 Z p1 vETHERNET vLINUX_SLL vLINUX_SLL2 vALL h0 n0 _ T15.heap _
        exact ⟨congrArg some (show .null = (F_rm1 p1 vETHERNET vLINUX_SLL vLINUX_SLL2) from (by unfold F_rm1; rw [if_neg hc4, if_neg hc12, if_neg hc16])), N0, e15⟩
theorem d2_0 : decode method_2_code 0 = .ok (.iload_n 0, 1) := by decide +kernel
theorem d2_1 : decode method_2_code 1 = .ok (.iconst 1, 1) := by decide +kernel
theorem d2_2 : decode method_2_code 2 = .ok (.if_icmp .ne 7, 3) := by decide +kernel
theorem d2_5 : decode method_2_code 5 = .ok (.getstatic 7, 3) := by decide +kernel
theorem d2_8 : decode method_2_code 8 = .ok (.areturn, 1) := by decide +kernel
theorem d2_9 : decode method_2_code 9 = .ok (.iload_n 0, 1) := by decide +kernel
theorem d2_10 : decode method_2_code 10 = .ok (.bipush 113, 2) := by decide +kernel
theorem d2_12 : decode method_2_code 12 = .ok (.if_icmp .ne 7, 3) := by decide +kernel
theorem d2_15 : decode method_2_code 15 = .ok (.getstatic 13, 3) := by decide +kernel
theorem d2_18 : decode method_2_code 18 = .ok (.areturn, 1) := by decide +kernel
theorem d2_19 : decode method_2_code 19 = .ok (.iload_n 0, 1) := by decide +kernel
theorem d2_20 : decode method_2_code 20 = .ok (.sipush 276, 3) := by decide +kernel
theorem d2_23 : decode method_2_code 23 = .ok (.if_icmp .ne 7, 3) := by decide +kernel
theorem d2_26 : decode method_2_code 26 = .ok (.getstatic 16, 3) := by decide +kernel
theorem d2_29 : decode method_2_code 29 = .ok (.areturn, 1) := by decide +kernel
theorem d2_30 : decode method_2_code 30 = .ok (.aconst_null, 1) := by decide +kernel
theorem d2_31 : decode method_2_code 31 = .ok (.areturn, 1) := by decide +kernel
def F_rm2 (p1 : Int32) (vETHERNET : Addr) (vLINUX_SLL : Addr) (vLINUX_SLL2 : Addr) : Value := (if (p1 = (1 : Int32)) then (.ref vETHERNET) else (if (p1 = (113 : Int32)) then (.ref vLINUX_SLL) else (if (p1 = (276 : Int32)) then (.ref vLINUX_SLL2) else .null)))
theorem F_rm2_ref (p1 : Int32) (vETHERNET : Addr) (vLINUX_SLL : Addr) (vLINUX_SLL2 : Addr) : (F_rm2 p1 vETHERNET vLINUX_SLL vLINUX_SLL2).isRef = true := by unfold F_rm2; (repeat' split) <;> rfl
def Q_rm2 (Z : State) (p1 : Int32) (vETHERNET : Addr) (vLINUX_SLL : Addr) (vLINUX_SLL2 : Addr) (h0 : Heap) (n0 : Nat) (v : Option Value) (h : Heap) (L : List Loc) : Prop := v = some (F_rm2 p1 vETHERNET vLINUX_SLL vLINUX_SLL2) ∧ Fr n0 L ∧ h = h0
theorem ef_rm2 (m : MethodId) (x0 : Int32) : entryFrame m #[(.int x0)] 1 = mkF m 0 #[.val (.int x0)] [] := by first | (simp [entryFrame, mkF, argsToLocals, Value.category]; done) | rfl
theorem pn_1 : plainName "com/example/comera/comera/capture/LinkTypeOfPinLaw" = true := by first | (simp [plainName, overriddenIn]; done) | decide +kernel
set_option maxRecDepth 65536 in
set_option maxHeartbeats 40000000 in
theorem rm2 (l : Launch) (Z : State) (a0 : Array Value) (hw : ∀ d ∈ tables_1, d.before a0 Z = true) (ws : List Jvm.Cond) (p1 : Int32) (vETHERNET : Addr) (vLINUX_SLL : Addr) (vLINUX_SLL2 : Addr) (h0 : Heap) (n0 : Nat) (Z0 : n0 ≤ h0.size) (S_LinkType_ETHERNET : Sta Z h0 "com/example/comera/comera/capture/LinkType" "ETHERNET" "Lcom/example/comera/comera/capture/LinkType;" (.ref vETHERNET)) (S_LinkType_LINUX_SLL : Sta Z h0 "com/example/comera/comera/capture/LinkType" "LINUX_SLL" "Lcom/example/comera/comera/capture/LinkType;" (.ref vLINUX_SLL)) (S_LinkType_LINUX_SLL2 : Sta Z h0 "com/example/comera/comera/capture/LinkType" "LINUX_SLL2" "Lcom/example/comera/comera/capture/LinkType;" (.ref vLINUX_SLL2)) :
    MetFree l (⟨"com/example/comera/comera/capture/LinkTypeOfPinLaw", "expected", "(I)Lcom/example/comera/comera/capture/LinkType;"⟩ : MethodName) (head1 (Jvm.Cond.code (⟨"com/example/comera/comera/capture/LinkTypeOfPinLaw", "expected", "(I)Lcom/example/comera/comera/capture/LinkType;"⟩ : MethodName) method_2_code 1 (some (.object "com/example/comera/comera/capture/LinkType")) :: ws) ({ frames := 0, cells := 0, slots := 0, locals := 0 } : Room)) (fun a U => a = #[(.int p1)] ∧ Z.Warmed39 U.vm ∧ U.heap = h0) (fun _ _ _ _ _ => True) (fun _ U o U' => ∃ v L, o = .returned v ∧ Q_rm2 Z p1 vETHERNET vLINUX_SLL vLINUX_SLL2 h0 n0 v U'.heap L ∧ FrameEnd U o U' L ({ frames := 0, cells := 0, slots := 0, locals := 0 } : Room).cells ({ frames := 0, cells := 0, slots := 0, locals := 0 } : Room).slots) := by
  refine MetFree.of_bodySF (plainFor_of_name pn_1) hisR ?_
  intro p e s m args below meth c s₁ Bd hml0 hP hK
  obtain ⟨rfl, hZ, hh⟩ := hP
  have hx := Bd.exec
  have hby := Bd.bytes
  have hml : c.maxLocals = 1 := hml0
  have hown : s.vm.findClass "com/example/comera/comera/capture/LinkTypeOfPinLaw" = some m.cls := findClass_of_methodNamed Bd.named
  have hnm := (name_of_methodNamed Bd.named Bd.method).1
  have X0 : Stand p l e ({ frames := 0, cells := 0, slots := 0, locals := 0 } : Room) s m #[(.int p1)] below meth c s₁ [] 0 0 := Stand.of_body Bd
  have e0 : s₁.heap = h0 := by rw [← hh, Bd.state]; rfl
  have N0 := Fr.nil n0
  show Run p e below s 0 0 (Q_rm2 Z p1 vETHERNET vLINUX_SLL vLINUX_SLL2 h0 n0) (s₁.setTop (entryFrame m #[(.int p1)] 1))
  refine Run.go (fun _ k => castTop (ef_rm2 m p1) k) ?_
  show Run p e below s 0 0 (Q_rm2 Z p1 vETHERNET vLINUX_SLL vLINUX_SLL2 h0 n0) (s₁.setTop (mkF m 0 #[.val (.int p1)] []))
  refine Run.go (fun _ k => XS.iloadN X0.here hx rfl (hb hby d2_0) rfl  k) ?_
  show Run p e below s 0 0 (Q_rm2 Z p1 vETHERNET vLINUX_SLL vLINUX_SLL2 h0 n0) (s₁.setTop (mkF m 1 #[.val (.int p1)] [(.int p1)]))
  refine Run.go (fun _ k => XS.iconst X0.here hx rfl (hb hby d2_1) k) ?_
  show Run p e below s 0 0 (Q_rm2 Z p1 vETHERNET vLINUX_SLL vLINUX_SLL2 h0 n0) (s₁.setTop (mkF m 2 #[.val (.int p1)] [(.int (1 : Int32)), (.int p1)]))
  by_cases hc2 : (p1 = (1 : Int32))
  · refine Run.go (fun _ k => XS.icmpNo X0.here hx rfl (hb hby d2_2) rfl (teq hc2).2 k) ?_
    show Run p e below s 0 0 (Q_rm2 Z p1 vETHERNET vLINUX_SLL vLINUX_SLL2 h0 n0) (s₁.setTop (mkF m 5 #[.val (.int p1)] []))
    obtain ⟨T3, X3, e3, st3⟩ := getS2 X0 hx hZ hown (host := "") (Or.inl (hw _ (List.mem_of_getElem? (i := 15) rfl))) Via.refl e0 S_LinkType_ETHERNET (g := (mkF m 5 #[.val (.int p1)] [])) rfl (hb hby d2_5)
    refine Run.go st3 ?_
    show Run p e below s 0 0 (Q_rm2 Z p1 vETHERNET vLINUX_SLL vLINUX_SLL2 h0 n0) (T3.setTop (mkF m 8 #[.val (.int p1)] [(.ref vETHERNET)]))
    refine Run.retA X3 hx rfl Bd.returns rfl Bd.notSynchronized (hb hby d2_8) (by decide) (by decide) ?_
    show Q_rm2 Z p1 vETHERNET vLINUX_SLL vLINUX_SLL2 h0 n0 _ T3.heap _
    exact ⟨congrArg some (show (.ref vETHERNET) = (F_rm2 p1 vETHERNET vLINUX_SLL vLINUX_SLL2) from (by unfold F_rm2; rw [if_pos hc2])), N0, e3⟩
  · refine Run.go (fun _ k => XS.icmpYes X0.here hx rfl (pc0 := 2) (pc' := 9) rfl (hb hby d2_2) rfl (feq hc2).2 (by decide) (by decide) k) ?_
    show Run p e below s 0 0 (Q_rm2 Z p1 vETHERNET vLINUX_SLL vLINUX_SLL2 h0 n0) (s₁.setTop (mkF m 9 #[.val (.int p1)] []))
    refine Run.go (fun _ k => XS.iloadN X0.here hx rfl (hb hby d2_9) rfl  k) ?_
    show Run p e below s 0 0 (Q_rm2 Z p1 vETHERNET vLINUX_SLL vLINUX_SLL2 h0 n0) (s₁.setTop (mkF m 10 #[.val (.int p1)] [(.int p1)]))
    refine Run.go (fun _ k => XS.bipush X0.here hx rfl (hb hby d2_10) k) ?_
    show Run p e below s 0 0 (Q_rm2 Z p1 vETHERNET vLINUX_SLL vLINUX_SLL2 h0 n0) (s₁.setTop (mkF m 12 #[.val (.int p1)] [(.int (113 : Int32)), (.int p1)]))
    by_cases hc4 : (p1 = (113 : Int32))
    · refine Run.go (fun _ k => XS.icmpNo X0.here hx rfl (hb hby d2_12) rfl (teq hc4).2 k) ?_
      show Run p e below s 0 0 (Q_rm2 Z p1 vETHERNET vLINUX_SLL vLINUX_SLL2 h0 n0) (s₁.setTop (mkF m 15 #[.val (.int p1)] []))
      obtain ⟨T5, X5, e5, st5⟩ := getS2 X0 hx hZ hown (host := "") (Or.inl (hw _ (List.mem_of_getElem? (i := 16) rfl))) Via.refl e0 S_LinkType_LINUX_SLL (g := (mkF m 15 #[.val (.int p1)] [])) rfl (hb hby d2_15)
      refine Run.go st5 ?_
      show Run p e below s 0 0 (Q_rm2 Z p1 vETHERNET vLINUX_SLL vLINUX_SLL2 h0 n0) (T5.setTop (mkF m 18 #[.val (.int p1)] [(.ref vLINUX_SLL)]))
      refine Run.retA X5 hx rfl Bd.returns rfl Bd.notSynchronized (hb hby d2_18) (by decide) (by decide) ?_
      show Q_rm2 Z p1 vETHERNET vLINUX_SLL vLINUX_SLL2 h0 n0 _ T5.heap _
      exact ⟨congrArg some (show (.ref vLINUX_SLL) = (F_rm2 p1 vETHERNET vLINUX_SLL vLINUX_SLL2) from (by unfold F_rm2; rw [if_neg hc2, if_pos hc4])), N0, e5⟩
    · refine Run.go (fun _ k => XS.icmpYes X0.here hx rfl (pc0 := 12) (pc' := 19) rfl (hb hby d2_12) rfl (feq hc4).2 (by decide) (by decide) k) ?_
      show Run p e below s 0 0 (Q_rm2 Z p1 vETHERNET vLINUX_SLL vLINUX_SLL2 h0 n0) (s₁.setTop (mkF m 19 #[.val (.int p1)] []))
      refine Run.go (fun _ k => XS.iloadN X0.here hx rfl (hb hby d2_19) rfl  k) ?_
      show Run p e below s 0 0 (Q_rm2 Z p1 vETHERNET vLINUX_SLL vLINUX_SLL2 h0 n0) (s₁.setTop (mkF m 20 #[.val (.int p1)] [(.int p1)]))
      refine Run.go (fun _ k => XS.sipush X0.here hx rfl (hb hby d2_20) k) ?_
      show Run p e below s 0 0 (Q_rm2 Z p1 vETHERNET vLINUX_SLL vLINUX_SLL2 h0 n0) (s₁.setTop (mkF m 23 #[.val (.int p1)] [(.int (276 : Int32)), (.int p1)]))
      by_cases hc6 : (p1 = (276 : Int32))
      · refine Run.go (fun _ k => XS.icmpNo X0.here hx rfl (hb hby d2_23) rfl (teq hc6).2 k) ?_
        show Run p e below s 0 0 (Q_rm2 Z p1 vETHERNET vLINUX_SLL vLINUX_SLL2 h0 n0) (s₁.setTop (mkF m 26 #[.val (.int p1)] []))
        obtain ⟨T7, X7, e7, st7⟩ := getS2 X0 hx hZ hown (host := "") (Or.inl (hw _ (List.mem_of_getElem? (i := 17) rfl))) Via.refl e0 S_LinkType_LINUX_SLL2 (g := (mkF m 26 #[.val (.int p1)] [])) rfl (hb hby d2_26)
        refine Run.go st7 ?_
        show Run p e below s 0 0 (Q_rm2 Z p1 vETHERNET vLINUX_SLL vLINUX_SLL2 h0 n0) (T7.setTop (mkF m 29 #[.val (.int p1)] [(.ref vLINUX_SLL2)]))
        refine Run.retA X7 hx rfl Bd.returns rfl Bd.notSynchronized (hb hby d2_29) (by decide) (by decide) ?_
        show Q_rm2 Z p1 vETHERNET vLINUX_SLL vLINUX_SLL2 h0 n0 _ T7.heap _
        exact ⟨congrArg some (show (.ref vLINUX_SLL2) = (F_rm2 p1 vETHERNET vLINUX_SLL vLINUX_SLL2) from (by unfold F_rm2; rw [if_neg hc2, if_neg hc4, if_pos hc6])), N0, e7⟩
      · refine Run.go (fun _ k => XS.icmpYes X0.here hx rfl (pc0 := 23) (pc' := 30) rfl (hb hby d2_23) rfl (feq hc6).2 (by decide) (by decide) k) ?_
        show Run p e below s 0 0 (Q_rm2 Z p1 vETHERNET vLINUX_SLL vLINUX_SLL2 h0 n0) (s₁.setTop (mkF m 30 #[.val (.int p1)] []))
        refine Run.go (fun _ k => XS.aconstNull X0.here hx rfl (hb hby d2_30) k) ?_
        show Run p e below s 0 0 (Q_rm2 Z p1 vETHERNET vLINUX_SLL vLINUX_SLL2 h0 n0) (s₁.setTop (mkF m 31 #[.val (.int p1)] [.null]))
        refine Run.retA X0 hx rfl Bd.returns rfl Bd.notSynchronized (hb hby d2_31) (by decide) (by decide) ?_
        show Q_rm2 Z p1 vETHERNET vLINUX_SLL vLINUX_SLL2 h0 n0 _ s₁.heap _
        exact ⟨congrArg some (show .null = (F_rm2 p1 vETHERNET vLINUX_SLL vLINUX_SLL2) from (by unfold F_rm2; rw [if_neg hc2, if_neg hc4, if_neg hc6])), N0, e0⟩
theorem own_law (p : Int32) (a b c : Addr) : F_rm1 p a b c = F_rm2 p a b c := by
  unfold F_rm1 F_rm2
  by_cases h1 : p = 1
  · subst h1; simp
  · by_cases h2 : p = 113
    · subst h2; simp
    · by_cases h3 : p = 276
      · subst h3; simp
      · simp [h1, h2, h3, Ne.symm h1, Ne.symm h2, Ne.symm h3]
theorem own_refeq {args : Array Value} {s : State} {t u : Term} {x : Value} {a : Addr} (h : (Jvm.Cond.eq t u).value args s none s [] = some true) (ht : t.eval args s none [] s = some x) (hu : u.eval args s none [] s = some (.ref a)) : x = .ref a := by
  cases x <;> simp [Cond.value, ht, hu] at h ⊢
  exact h
theorem own_inteq {args : Array Value} {s : State} {t : Term} {x : Value} {k : Int32} (h : (Jvm.Cond.eq t (Term.int k)).value args s none s [] = some true) (ht : t.eval args s none [] s = some x) : t.eval args s none [] s = some (.int k) := by
  cases x <;> simp [Cond.value, ht, Term.int_eval] at h ⊢
  exact h
theorem own_len {args : Array Value} {s : State} {t : Term} {a : Addr} {c : Cell} (ht : t.eval args s none [] s = some (.ref a)) (hc : s.arrayAt? a = some c) (h : (Jvm.Cond.eq (Term.length t) (Term.int 3)).value args s none s [] = some true) : c.slots.size = 3 := by
  obtain ⟨x, y, q1, q2, -, -⟩ := cmp_v (Or.inl h)
  by_cases hn : c.slots.size < 2 ^ 31
  · have e := len_f ht hc hn
    have r := gotT (Cond.eq_ints e (Term.int_eval 3)) h
    rw [← Int32.toInt_inj, len_toInt hn] at r
    have : (3 : Int32).toInt = 3 := rfl
    omega
  · exfalso
    have hn' : ¬ c.slots.size < 2147483648 := hn
    simp [Term.eval, ht, hc, hn'] at q1
theorem pd_0 : parseMethodDescriptor "(I)Lcom/example/comera/comera/capture/LinkType;" = some ⟨[.int], some (.object "com/example/comera/comera/capture/LinkType")⟩ := by decide +kernel
def Q_rm0 (Z : State) (p1 : Int32) (p2 : Int32) (vETHERNET : Addr) (vLINUX_SLL : Addr) (vLINUX_SLL2 : Addr) (vALL : Addr) (h0 : Heap) (n0 : Nat) (v : Option Value) (h : Heap) (L : List Loc) : Prop := v = some (.int 1) ∧ Fr n0 L
theorem ef_rm0 (m : MethodId) (x0 : Int32) (x1 : Int32) : entryFrame m #[(.int x0), (.int x1)] maxLocals = mkF m 0 #[.val (.int x0), .val (.int x1), .unset, .unset, .unset] [] := by first | (simp [entryFrame, mkF, argsToLocals, Value.category, maxLocals]; done) | rfl
set_option maxRecDepth 65536 in
set_option maxHeartbeats 40000000 in
theorem rm0 (l : Launch) (Z : State) (a0 : Array Value) (hw : ∀ d ∈ tables_1, d.before a0 Z = true) (ws : List Jvm.Cond) (p1 : Int32) (p2 : Int32) (vETHERNET : Addr) (vLINUX_SLL : Addr) (vLINUX_SLL2 : Addr) (vALL : Addr) (h0 : Heap) (n0 : Nat) (Z0 : n0 ≤ h0.size) (S_LinkType_ALL : Sta Z h0 "com/example/comera/comera/capture/LinkType" "ALL" "[Lcom/example/comera/comera/capture/LinkType;" (.ref vALL)) (A_vALL : Ary Z h0 vALL (.object "com/example/comera/comera/capture/LinkType") 3 (fun i => if i = 0 then (.ref vETHERNET) else (fun i => if i = 1 then (.ref vLINUX_SLL) else (fun _ => (.ref vLINUX_SLL2)) i) i)) (F_value_vETHERNET : Fld Z h0 vETHERNET "com/example/comera/comera/capture/LinkType" "value" "I" (.int (1 : Int32))) (F_value_vLINUX_SLL : Fld Z h0 vLINUX_SLL "com/example/comera/comera/capture/LinkType" "value" "I" (.int (113 : Int32))) (F_value_vLINUX_SLL2 : Fld Z h0 vLINUX_SLL2 "com/example/comera/comera/capture/LinkType" "value" "I" (.int (276 : Int32))) (S_LinkType_ETHERNET : Sta Z h0 "com/example/comera/comera/capture/LinkType" "ETHERNET" "Lcom/example/comera/comera/capture/LinkType;" (.ref vETHERNET)) (S_LinkType_LINUX_SLL : Sta Z h0 "com/example/comera/comera/capture/LinkType" "LINUX_SLL" "Lcom/example/comera/comera/capture/LinkType;" (.ref vLINUX_SLL)) (S_LinkType_LINUX_SLL2 : Sta Z h0 "com/example/comera/comera/capture/LinkType" "LINUX_SLL2" "Lcom/example/comera/comera/capture/LinkType;" (.ref vLINUX_SLL2)) :
    MetFree l x (head1 (Jvm.Cond.code x code maxLocals ret :: ws) room_1) (fun a U => a = #[(.int p1), (.int p2)] ∧ Z.Warmed39 U.vm ∧ U.heap = h0) (fun _ _ _ _ _ => True) (fun _ U o U' => ∃ v L, o = .returned v ∧ Q_rm0 Z p1 p2 vETHERNET vLINUX_SLL vLINUX_SLL2 vALL h0 n0 v U'.heap L ∧ FrameEnd U o U' L 0 0) := by
  refine MetFree.of_bodySF (plainFor_of_name pn_1) hisR ?_
  intro p e s m args below meth c s₁ Bd hml0 hP hK
  obtain ⟨rfl, hZ, hh⟩ := hP
  have hx := Bd.exec
  have hby := Bd.bytes
  have hml : c.maxLocals = 5 := hml0
  have hown : s.vm.findClass "com/example/comera/comera/capture/LinkTypeOfPinLaw" = some m.cls := findClass_of_methodNamed Bd.named
  have hnm := (name_of_methodNamed Bd.named Bd.method).1
  have X0 : Stand p l e room_1 s m #[(.int p1), (.int p2)] below meth c s₁ [] 0 0 := Stand.of_body Bd
  have e0 : s₁.heap = h0 := by rw [← hh, Bd.state]; rfl
  have N0 := Fr.nil n0
  show Run p e below s 0 0 (Q_rm0 Z p1 p2 vETHERNET vLINUX_SLL vLINUX_SLL2 vALL h0 n0) (s₁.setTop (entryFrame m #[(.int p1), (.int p2)] maxLocals))
  refine Run.go (fun _ k => castTop (ef_rm0 m p1 p2) k) ?_
  show Run p e below s 0 0 (Q_rm0 Z p1 p2 vETHERNET vLINUX_SLL vLINUX_SLL2 vALL h0 n0) (s₁.setTop (mkF m 0 #[.val (.int p1), .val (.int p2), .unset, .unset, .unset] []))
  refine Run.go (fun _ k => XS.iloadN X0.here hx rfl (hb hby at_0) rfl  k) ?_
  show Run p e below s 0 0 (Q_rm0 Z p1 p2 vETHERNET vLINUX_SLL vLINUX_SLL2 vALL h0 n0) (s₁.setTop (mkF m 1 #[.val (.int p1), .val (.int p2), .unset, .unset, .unset] [(.int p1)]))
  refine Run.go (fun _ k => XS.bipush X0.here hx rfl (hb hby at_1) k) ?_
  show Run p e below s 0 0 (Q_rm0 Z p1 p2 vETHERNET vLINUX_SLL vLINUX_SLL2 vALL h0 n0) (s₁.setTop (mkF m 3 #[.val (.int p1), .val (.int p2), .unset, .unset, .unset] [(.int (7 : Int32)), (.int p1)]))
  refine Run.go (fun _ k => XS.iand X0.here hx rfl (hb hby at_3) rfl k) ?_
  show Run p e below s 0 0 (Q_rm0 Z p1 p2 vETHERNET vLINUX_SLL vLINUX_SLL2 vALL h0 n0) (s₁.setTop (mkF m 4 #[.val (.int p1), .val (.int p2), .unset, .unset, .unset] [(.int (p1 &&& (7 : Int32)))]))
  refine Run.go (fun _ k => XS.istoreN X0.here hx rfl (hb hby at_4) rfl (l' := #[.val (.int p1), .val (.int p2), .val (.int (p1 &&& (7 : Int32))), .unset, .unset]) rfl k) ?_
  show Run p e below s 0 0 (Q_rm0 Z p1 p2 vETHERNET vLINUX_SLL vLINUX_SLL2 vALL h0 n0) (s₁.setTop (mkF m 5 #[.val (.int p1), .val (.int p2), .val (.int (p1 &&& (7 : Int32))), .unset, .unset] []))
  refine Run.go (fun _ k => XS.iloadN X0.here hx rfl (hb hby at_5) rfl  k) ?_
  show Run p e below s 0 0 (Q_rm0 Z p1 p2 vETHERNET vLINUX_SLL vLINUX_SLL2 vALL h0 n0) (s₁.setTop (mkF m 6 #[.val (.int p1), .val (.int p2), .val (.int (p1 &&& (7 : Int32))), .unset, .unset] [(.int p2)]))
  refine Run.go (fun _ k => XS.iconst X0.here hx rfl (hb hby at_6) k) ?_
  show Run p e below s 0 0 (Q_rm0 Z p1 p2 vETHERNET vLINUX_SLL vLINUX_SLL2 vALL h0 n0) (s₁.setTop (mkF m 7 #[.val (.int p1), .val (.int p2), .val (.int (p1 &&& (7 : Int32))), .unset, .unset] [(.int (3 : Int32)), (.int p2)]))
  refine Run.go (fun _ k => XS.iand X0.here hx rfl (hb hby at_7) rfl k) ?_
  show Run p e below s 0 0 (Q_rm0 Z p1 p2 vETHERNET vLINUX_SLL vLINUX_SLL2 vALL h0 n0) (s₁.setTop (mkF m 8 #[.val (.int p1), .val (.int p2), .val (.int (p1 &&& (7 : Int32))), .unset, .unset] [(.int (p2 &&& (3 : Int32)))]))
  refine Run.go (fun _ k => XS.iconst X0.here hx rfl (hb hby at_8) k) ?_
  show Run p e below s 0 0 (Q_rm0 Z p1 p2 vETHERNET vLINUX_SLL vLINUX_SLL2 vALL h0 n0) (s₁.setTop (mkF m 9 #[.val (.int p1), .val (.int p2), .val (.int (p1 &&& (7 : Int32))), .unset, .unset] [(.int (2 : Int32)), (.int (p2 &&& (3 : Int32)))]))
  refine Run.go (fun _ k => XS.isub X0.here hx rfl (hb hby at_9) rfl k) ?_
  show Run p e below s 0 0 (Q_rm0 Z p1 p2 vETHERNET vLINUX_SLL vLINUX_SLL2 vALL h0 n0) (s₁.setTop (mkF m 10 #[.val (.int p1), .val (.int p2), .val (.int (p1 &&& (7 : Int32))), .unset, .unset] [(.int ((p2 &&& (3 : Int32)) - (2 : Int32)))]))
  refine Run.go (fun _ k => XS.istoreN X0.here hx rfl (hb hby at_10) rfl (l' := #[.val (.int p1), .val (.int p2), .val (.int (p1 &&& (7 : Int32))), .val (.int ((p2 &&& (3 : Int32)) - (2 : Int32))), .unset]) rfl k) ?_
  show Run p e below s 0 0 (Q_rm0 Z p1 p2 vETHERNET vLINUX_SLL vLINUX_SLL2 vALL h0 n0) (s₁.setTop (mkF m 11 #[.val (.int p1), .val (.int p2), .val (.int (p1 &&& (7 : Int32))), .val (.int ((p2 &&& (3 : Int32)) - (2 : Int32))), .unset] []))
  refine Run.go (fun _ k => XS.iloadN X0.here hx rfl (hb hby at_11) rfl  k) ?_
  show Run p e below s 0 0 (Q_rm0 Z p1 p2 vETHERNET vLINUX_SLL vLINUX_SLL2 vALL h0 n0) (s₁.setTop (mkF m 12 #[.val (.int p1), .val (.int p2), .val (.int (p1 &&& (7 : Int32))), .val (.int ((p2 &&& (3 : Int32)) - (2 : Int32))), .unset] [(.int (p1 &&& (7 : Int32)))]))
  have J3 : ∀ (w4 : Int32) (hw4 : w4 = (if ((p1 &&& (7 : Int32)) = (0 : Int32)) then (1 : Int32) else (if ((p1 &&& (7 : Int32)) = (1 : Int32)) then (113 : Int32) else (if ((p1 &&& (7 : Int32)) = (2 : Int32)) then (276 : Int32) else (if ((p1 &&& (7 : Int32)) = (3 : Int32)) then ((1 : Int32) + ((p2 &&& (3 : Int32)) - (2 : Int32))) else (if ((p1 &&& (7 : Int32)) = (4 : Int32)) then ((113 : Int32) + ((p2 &&& (3 : Int32)) - (2 : Int32))) else (if ((p1 &&& (7 : Int32)) = (5 : Int32)) then ((276 : Int32) + ((p2 &&& (3 : Int32)) - (2 : Int32))) else p2))))))) (T5 : State) (L5 : List Loc) (X5 : Stand p l e room_1 s m #[(.int p1), (.int p2)] below meth c T5 L5 0 0) (e5 : T5.heap = h0) (N5 : Fr n0 L5), Run p e below s 0 0 (Q_rm0 Z p1 p2 vETHERNET vLINUX_SLL vLINUX_SLL2 vALL h0 n0) (T5.setTop (mkF m 91 #[.val (.int p1), .val (.int p2), .val (.int (p1 &&& (7 : Int32))), .val (.int ((p2 &&& (3 : Int32)) - (2 : Int32))), .val (.int w4)] [])) := by
    intro w4 hw4 T5 L5 X5 e5 N5
    show Run p e below s 0 0 (Q_rm0 Z p1 p2 vETHERNET vLINUX_SLL vLINUX_SLL2 vALL h0 n0) (T5.setTop (mkF m 91 #[.val (.int p1), .val (.int p2), .val (.int (p1 &&& (7 : Int32))), .val (.int ((p2 &&& (3 : Int32)) - (2 : Int32))), .val (.int w4)] []))
    refine Run.go (fun _ k => XS.iload X5.here hx rfl (hb hby at_91) rfl  k) ?_
    show Run p e below s 0 0 (Q_rm0 Z p1 p2 vETHERNET vLINUX_SLL vLINUX_SLL2 vALL h0 n0) (T5.setTop (mkF m 93 #[.val (.int p1), .val (.int p2), .val (.int (p1 &&& (7 : Int32))), .val (.int ((p2 &&& (3 : Int32)) - (2 : Int32))), .val (.int w4)] [(.int w4)]))
    obtain ⟨_, _, ⟨T6, L6, k6, n6⟩, -, X6, ⟨Lc6, hQ6, l6, y6, z6⟩, st6⟩ := Jvm.LawKit.callS X5 hx (y := (⟨"com/example/comera/comera/capture/LinkType", "of", "(I)Lcom/example/comera/comera/capture/LinkType;"⟩ : MethodName)) hown (mvT hZ (hw _ (List.mem_of_getElem? (i := 0) rfl))) (mvT hZ (hw _ (List.mem_of_getElem? (i := 1) rfl))) (mvT hZ (hw _ (List.mem_of_getElem? (i := 2) rfl))) (mvT hZ (hw _ (List.mem_of_getElem? (i := 3) rfl))) (by decide) (backOf (W := 0) (rm1 l Z a0 hw [] w4 vETHERNET vLINUX_SLL vLINUX_SLL2 vALL h0 n0 Z0 S_LinkType_ALL A_vALL F_value_vETHERNET F_value_vLINUX_SLL F_value_vLINUX_SLL2) hZ (hw _ (List.mem_of_getElem? (i := 3) rfl)) (hw _ (List.mem_of_getElem? (i := 2) rfl)) (by decide) (by decide)) (g := (mkF m 93 #[.val (.int p1), .val (.int p2), .val (.int (p1 &&& (7 : Int32))), .val (.int ((p2 &&& (3 : Int32)) - (2 : Int32))), .val (.int w4)] [(.int w4)])) rfl (by rw [hml]; rfl) (argsL := [(.int w4)]) (rest := []) (lenOf pd_0 rfl) rfl (by show 2 * 0 + _ ≤ _; exact Nat.le_of_eq rfl) (hb hby at_93) (fun _ _ => ⟨rfl, e5, (by decide : 0 + 0 ≤ _), (by decide : 0 + 0 ≤ _)⟩)
    dsimp only [Pt.U, Pt.locs, Pt.cells, Pt.slots] at X6 l6 y6 z6 st6 hQ6
    subst l6 y6 z6
    obtain ⟨rfl, N6q, e6q⟩ := hQ6
    have N6 := Fr.app N5 N6q
    obtain ⟨Lg6, Xg6, Ng6⟩ := Stand_gen X6 N6
    refine Run.go st6 ?_
    show Run p e below s 0 0 (Q_rm0 Z p1 p2 vETHERNET vLINUX_SLL vLINUX_SLL2 vALL h0 n0) (T6.setTop (mkF m 96 #[.val (.int p1), .val (.int p2), .val (.int (p1 &&& (7 : Int32))), .val (.int ((p2 &&& (3 : Int32)) - (2 : Int32))), .val (.int w4)] [(F_rm1 w4 vETHERNET vLINUX_SLL vLINUX_SLL2)]))
    refine Run.go (fun _ k => XS.iload Xg6.here hx rfl (hb hby at_96) rfl  k) ?_
    show Run p e below s 0 0 (Q_rm0 Z p1 p2 vETHERNET vLINUX_SLL vLINUX_SLL2 vALL h0 n0) (T6.setTop (mkF m 98 #[.val (.int p1), .val (.int p2), .val (.int (p1 &&& (7 : Int32))), .val (.int ((p2 &&& (3 : Int32)) - (2 : Int32))), .val (.int w4)] [(.int w4), (F_rm1 w4 vETHERNET vLINUX_SLL vLINUX_SLL2)]))
    obtain ⟨_, _, ⟨T7, L7, k7, n7⟩, -, X7, ⟨Lc7, hQ7, l7, y7, z7⟩, st7⟩ := Jvm.LawKit.callS Xg6 hx (y := (⟨"com/example/comera/comera/capture/LinkTypeOfPinLaw", "expected", "(I)Lcom/example/comera/comera/capture/LinkType;"⟩ : MethodName)) hown (mvT hZ (hw _ (List.mem_of_getElem? (i := 11) rfl))) (mvT hZ (hw _ (List.mem_of_getElem? (i := 12) rfl))) (mvT hZ (hw _ (List.mem_of_getElem? (i := 13) rfl))) (mvT hZ (hw _ (List.mem_of_getElem? (i := 14) rfl))) (by decide) (backOf (W := 1) (rm2 l Z a0 hw [] w4 vETHERNET vLINUX_SLL vLINUX_SLL2 h0 n0 Z0 S_LinkType_ETHERNET S_LinkType_LINUX_SLL S_LinkType_LINUX_SLL2) hZ (hw _ (List.mem_of_getElem? (i := 14) rfl)) (hw _ (List.mem_of_getElem? (i := 13) rfl)) (by decide) (by decide)) (g := (mkF m 98 #[.val (.int p1), .val (.int p2), .val (.int (p1 &&& (7 : Int32))), .val (.int ((p2 &&& (3 : Int32)) - (2 : Int32))), .val (.int w4)] [(.int w4), (F_rm1 w4 vETHERNET vLINUX_SLL vLINUX_SLL2)])) rfl (by rw [hml]; rfl) (argsL := [(.int w4)]) (rest := [(F_rm1 w4 vETHERNET vLINUX_SLL vLINUX_SLL2)]) (lenOf pd_0 rfl) rfl (by simp only [List.map, List.sum_cons, List.sum_nil, cat_ref (F_rm1_ref w4 vETHERNET vLINUX_SLL vLINUX_SLL2)]; exact Nat.le_of_eq rfl) (hb hby at_98) (fun _ _ => ⟨rfl, e6q, (by decide : 0 + 0 ≤ _), (by decide : 0 + 0 ≤ _)⟩)
    dsimp only [Pt.U, Pt.locs, Pt.cells, Pt.slots] at X7 l7 y7 z7 st7 hQ7
    subst l7 y7 z7
    obtain ⟨rfl, N7q, e7q⟩ := hQ7
    have N7 := Fr.app Ng6 N7q
    obtain ⟨Lg7, Xg7, Ng7⟩ := Stand_gen X7 N7
    refine Run.go st7 ?_
    show Run p e below s 0 0 (Q_rm0 Z p1 p2 vETHERNET vLINUX_SLL vLINUX_SLL2 vALL h0 n0) (T7.setTop (mkF m 101 #[.val (.int p1), .val (.int p2), .val (.int (p1 &&& (7 : Int32))), .val (.int ((p2 &&& (3 : Int32)) - (2 : Int32))), .val (.int w4)] [(F_rm2 w4 vETHERNET vLINUX_SLL vLINUX_SLL2), (F_rm1 w4 vETHERNET vLINUX_SLL vLINUX_SLL2)]))
    refine Run.go (fun _ k => Jvm.RoadKit.acmp (g := (mkF m 101 #[.val (.int p1), .val (.int p2), .val (.int (p1 &&& (7 : Int32))), .val (.int ((p2 &&& (3 : Int32)) - (2 : Int32))), .val (.int w4)] [(F_rm2 w4 vETHERNET vLINUX_SLL vLINUX_SLL2), (F_rm1 w4 vETHERNET vLINUX_SLL vLINUX_SLL2)])) Xg7 hx rfl (F_rm1_ref w4 vETHERNET vLINUX_SLL vLINUX_SLL2) (F_rm2_ref w4 vETHERNET vLINUX_SLL vLINUX_SLL2) (pc0 := 101) (pc' := 104) (same := true) rfl (hb hby at_101) rfl (decide_eq_true (own_law _ _ _ _)) (by decide) (by decide) k) ?_
    show Run p e below s 0 0 (Q_rm0 Z p1 p2 vETHERNET vLINUX_SLL vLINUX_SLL2 vALL h0 n0) (T7.setTop (mkF m 104 #[.val (.int p1), .val (.int p2), .val (.int (p1 &&& (7 : Int32))), .val (.int ((p2 &&& (3 : Int32)) - (2 : Int32))), .val (.int w4)] []))
    refine Run.go (fun _ k => XS.iconst Xg7.here hx rfl (hb hby at_104) k) ?_
    show Run p e below s 0 0 (Q_rm0 Z p1 p2 vETHERNET vLINUX_SLL vLINUX_SLL2 vALL h0 n0) (T7.setTop (mkF m 105 #[.val (.int p1), .val (.int p2), .val (.int (p1 &&& (7 : Int32))), .val (.int ((p2 &&& (3 : Int32)) - (2 : Int32))), .val (.int w4)] [(.int (1 : Int32))]))
    refine Run.go (fun _ k => XS.goto Xg7.here hx rfl (pc0 := 105) (pc' := 109) rfl (hb hby at_105) (by decide) (by decide) k) ?_
    show Run p e below s 0 0 (Q_rm0 Z p1 p2 vETHERNET vLINUX_SLL vLINUX_SLL2 vALL h0 n0) (T7.setTop (mkF m 109 #[.val (.int p1), .val (.int p2), .val (.int (p1 &&& (7 : Int32))), .val (.int ((p2 &&& (3 : Int32)) - (2 : Int32))), .val (.int w4)] [(.int (1 : Int32))]))
    exact Run.retN (y := 1) Xg7 hx (t := .boolean) Bd.returns (by simp) rfl Bd.notSynchronized (hb hby at_109) (by decide) (by decide) ⟨rfl, Ng7⟩
  by_cases hc8 : ((p1 &&& (7 : Int32)) = (0 : Int32))
  · refine Run.go (fun _ k => XS.ifNo X0.here hx rfl (hb hby at_12) rfl ((if0 _ _).trans (teq hc8).2) k) ?_
    show Run p e below s 0 0 (Q_rm0 Z p1 p2 vETHERNET vLINUX_SLL vLINUX_SLL2 vALL h0 n0) (s₁.setTop (mkF m 15 #[.val (.int p1), .val (.int p2), .val (.int (p1 &&& (7 : Int32))), .val (.int ((p2 &&& (3 : Int32)) - (2 : Int32))), .unset] []))
    refine Run.go (fun _ k => XS.iconst X0.here hx rfl (hb hby at_15) k) ?_
    show Run p e below s 0 0 (Q_rm0 Z p1 p2 vETHERNET vLINUX_SLL vLINUX_SLL2 vALL h0 n0) (s₁.setTop (mkF m 16 #[.val (.int p1), .val (.int p2), .val (.int (p1 &&& (7 : Int32))), .val (.int ((p2 &&& (3 : Int32)) - (2 : Int32))), .unset] [(.int (1 : Int32))]))
    refine Run.go (fun _ k => XS.istore X0.here hx rfl (hb hby at_16) rfl (l' := #[.val (.int p1), .val (.int p2), .val (.int (p1 &&& (7 : Int32))), .val (.int ((p2 &&& (3 : Int32)) - (2 : Int32))), .val (.int (1 : Int32))]) rfl k) ?_
    show Run p e below s 0 0 (Q_rm0 Z p1 p2 vETHERNET vLINUX_SLL vLINUX_SLL2 vALL h0 n0) (s₁.setTop (mkF m 18 #[.val (.int p1), .val (.int p2), .val (.int (p1 &&& (7 : Int32))), .val (.int ((p2 &&& (3 : Int32)) - (2 : Int32))), .val (.int (1 : Int32))] []))
    refine Run.go (fun _ k => XS.goto X0.here hx rfl (pc0 := 18) (pc' := 91) rfl (hb hby at_18) (by decide) (by decide) k) ?_
    show Run p e below s 0 0 (Q_rm0 Z p1 p2 vETHERNET vLINUX_SLL vLINUX_SLL2 vALL h0 n0) (s₁.setTop (mkF m 91 #[.val (.int p1), .val (.int p2), .val (.int (p1 &&& (7 : Int32))), .val (.int ((p2 &&& (3 : Int32)) - (2 : Int32))), .val (.int (1 : Int32))] []))
    exact J3 _ (by rw [if_pos hc8]) _ _ X0 e0 N0
  · refine Run.go (fun _ k => XS.ifYes X0.here hx rfl (pc0 := 12) (pc' := 21) rfl (hb hby at_12) rfl ((if0 _ _).trans (feq hc8).2) (by decide) (by decide) k) ?_
    show Run p e below s 0 0 (Q_rm0 Z p1 p2 vETHERNET vLINUX_SLL vLINUX_SLL2 vALL h0 n0) (s₁.setTop (mkF m 21 #[.val (.int p1), .val (.int p2), .val (.int (p1 &&& (7 : Int32))), .val (.int ((p2 &&& (3 : Int32)) - (2 : Int32))), .unset] []))
    refine Run.go (fun _ k => XS.iloadN X0.here hx rfl (hb hby at_21) rfl  k) ?_
    show Run p e below s 0 0 (Q_rm0 Z p1 p2 vETHERNET vLINUX_SLL vLINUX_SLL2 vALL h0 n0) (s₁.setTop (mkF m 22 #[.val (.int p1), .val (.int p2), .val (.int (p1 &&& (7 : Int32))), .val (.int ((p2 &&& (3 : Int32)) - (2 : Int32))), .unset] [(.int (p1 &&& (7 : Int32)))]))
    refine Run.go (fun _ k => XS.iconst X0.here hx rfl (hb hby at_22) k) ?_
    show Run p e below s 0 0 (Q_rm0 Z p1 p2 vETHERNET vLINUX_SLL vLINUX_SLL2 vALL h0 n0) (s₁.setTop (mkF m 23 #[.val (.int p1), .val (.int p2), .val (.int (p1 &&& (7 : Int32))), .val (.int ((p2 &&& (3 : Int32)) - (2 : Int32))), .unset] [(.int (1 : Int32)), (.int (p1 &&& (7 : Int32)))]))
    by_cases hc9 : ((p1 &&& (7 : Int32)) = (1 : Int32))
    · refine Run.go (fun _ k => XS.icmpNo X0.here hx rfl (hb hby at_23) rfl (teq hc9).2 k) ?_
      show Run p e below s 0 0 (Q_rm0 Z p1 p2 vETHERNET vLINUX_SLL vLINUX_SLL2 vALL h0 n0) (s₁.setTop (mkF m 26 #[.val (.int p1), .val (.int p2), .val (.int (p1 &&& (7 : Int32))), .val (.int ((p2 &&& (3 : Int32)) - (2 : Int32))), .unset] []))
      refine Run.go (fun _ k => XS.bipush X0.here hx rfl (hb hby at_26) k) ?_
      show Run p e below s 0 0 (Q_rm0 Z p1 p2 vETHERNET vLINUX_SLL vLINUX_SLL2 vALL h0 n0) (s₁.setTop (mkF m 28 #[.val (.int p1), .val (.int p2), .val (.int (p1 &&& (7 : Int32))), .val (.int ((p2 &&& (3 : Int32)) - (2 : Int32))), .unset] [(.int (113 : Int32))]))
      refine Run.go (fun _ k => XS.istore X0.here hx rfl (hb hby at_28) rfl (l' := #[.val (.int p1), .val (.int p2), .val (.int (p1 &&& (7 : Int32))), .val (.int ((p2 &&& (3 : Int32)) - (2 : Int32))), .val (.int (113 : Int32))]) rfl k) ?_
      show Run p e below s 0 0 (Q_rm0 Z p1 p2 vETHERNET vLINUX_SLL vLINUX_SLL2 vALL h0 n0) (s₁.setTop (mkF m 30 #[.val (.int p1), .val (.int p2), .val (.int (p1 &&& (7 : Int32))), .val (.int ((p2 &&& (3 : Int32)) - (2 : Int32))), .val (.int (113 : Int32))] []))
      refine Run.go (fun _ k => XS.goto X0.here hx rfl (pc0 := 30) (pc' := 91) rfl (hb hby at_30) (by decide) (by decide) k) ?_
      show Run p e below s 0 0 (Q_rm0 Z p1 p2 vETHERNET vLINUX_SLL vLINUX_SLL2 vALL h0 n0) (s₁.setTop (mkF m 91 #[.val (.int p1), .val (.int p2), .val (.int (p1 &&& (7 : Int32))), .val (.int ((p2 &&& (3 : Int32)) - (2 : Int32))), .val (.int (113 : Int32))] []))
      exact J3 _ (by rw [if_neg hc8, if_pos hc9]) _ _ X0 e0 N0
    · refine Run.go (fun _ k => XS.icmpYes X0.here hx rfl (pc0 := 23) (pc' := 33) rfl (hb hby at_23) rfl (feq hc9).2 (by decide) (by decide) k) ?_
      show Run p e below s 0 0 (Q_rm0 Z p1 p2 vETHERNET vLINUX_SLL vLINUX_SLL2 vALL h0 n0) (s₁.setTop (mkF m 33 #[.val (.int p1), .val (.int p2), .val (.int (p1 &&& (7 : Int32))), .val (.int ((p2 &&& (3 : Int32)) - (2 : Int32))), .unset] []))
      refine Run.go (fun _ k => XS.iloadN X0.here hx rfl (hb hby at_33) rfl  k) ?_
      show Run p e below s 0 0 (Q_rm0 Z p1 p2 vETHERNET vLINUX_SLL vLINUX_SLL2 vALL h0 n0) (s₁.setTop (mkF m 34 #[.val (.int p1), .val (.int p2), .val (.int (p1 &&& (7 : Int32))), .val (.int ((p2 &&& (3 : Int32)) - (2 : Int32))), .unset] [(.int (p1 &&& (7 : Int32)))]))
      refine Run.go (fun _ k => XS.iconst X0.here hx rfl (hb hby at_34) k) ?_
      show Run p e below s 0 0 (Q_rm0 Z p1 p2 vETHERNET vLINUX_SLL vLINUX_SLL2 vALL h0 n0) (s₁.setTop (mkF m 35 #[.val (.int p1), .val (.int p2), .val (.int (p1 &&& (7 : Int32))), .val (.int ((p2 &&& (3 : Int32)) - (2 : Int32))), .unset] [(.int (2 : Int32)), (.int (p1 &&& (7 : Int32)))]))
      by_cases hc10 : ((p1 &&& (7 : Int32)) = (2 : Int32))
      · refine Run.go (fun _ k => XS.icmpNo X0.here hx rfl (hb hby at_35) rfl (teq hc10).2 k) ?_
        show Run p e below s 0 0 (Q_rm0 Z p1 p2 vETHERNET vLINUX_SLL vLINUX_SLL2 vALL h0 n0) (s₁.setTop (mkF m 38 #[.val (.int p1), .val (.int p2), .val (.int (p1 &&& (7 : Int32))), .val (.int ((p2 &&& (3 : Int32)) - (2 : Int32))), .unset] []))
        refine Run.go (fun _ k => XS.sipush X0.here hx rfl (hb hby at_38) k) ?_
        show Run p e below s 0 0 (Q_rm0 Z p1 p2 vETHERNET vLINUX_SLL vLINUX_SLL2 vALL h0 n0) (s₁.setTop (mkF m 41 #[.val (.int p1), .val (.int p2), .val (.int (p1 &&& (7 : Int32))), .val (.int ((p2 &&& (3 : Int32)) - (2 : Int32))), .unset] [(.int (276 : Int32))]))
        refine Run.go (fun _ k => XS.istore X0.here hx rfl (hb hby at_41) rfl (l' := #[.val (.int p1), .val (.int p2), .val (.int (p1 &&& (7 : Int32))), .val (.int ((p2 &&& (3 : Int32)) - (2 : Int32))), .val (.int (276 : Int32))]) rfl k) ?_
        show Run p e below s 0 0 (Q_rm0 Z p1 p2 vETHERNET vLINUX_SLL vLINUX_SLL2 vALL h0 n0) (s₁.setTop (mkF m 43 #[.val (.int p1), .val (.int p2), .val (.int (p1 &&& (7 : Int32))), .val (.int ((p2 &&& (3 : Int32)) - (2 : Int32))), .val (.int (276 : Int32))] []))
        refine Run.go (fun _ k => XS.goto X0.here hx rfl (pc0 := 43) (pc' := 91) rfl (hb hby at_43) (by decide) (by decide) k) ?_
        show Run p e below s 0 0 (Q_rm0 Z p1 p2 vETHERNET vLINUX_SLL vLINUX_SLL2 vALL h0 n0) (s₁.setTop (mkF m 91 #[.val (.int p1), .val (.int p2), .val (.int (p1 &&& (7 : Int32))), .val (.int ((p2 &&& (3 : Int32)) - (2 : Int32))), .val (.int (276 : Int32))] []))
        exact J3 _ (by rw [if_neg hc8, if_neg hc9, if_pos hc10]) _ _ X0 e0 N0
      · refine Run.go (fun _ k => XS.icmpYes X0.here hx rfl (pc0 := 35) (pc' := 46) rfl (hb hby at_35) rfl (feq hc10).2 (by decide) (by decide) k) ?_
        show Run p e below s 0 0 (Q_rm0 Z p1 p2 vETHERNET vLINUX_SLL vLINUX_SLL2 vALL h0 n0) (s₁.setTop (mkF m 46 #[.val (.int p1), .val (.int p2), .val (.int (p1 &&& (7 : Int32))), .val (.int ((p2 &&& (3 : Int32)) - (2 : Int32))), .unset] []))
        refine Run.go (fun _ k => XS.iloadN X0.here hx rfl (hb hby at_46) rfl  k) ?_
        show Run p e below s 0 0 (Q_rm0 Z p1 p2 vETHERNET vLINUX_SLL vLINUX_SLL2 vALL h0 n0) (s₁.setTop (mkF m 47 #[.val (.int p1), .val (.int p2), .val (.int (p1 &&& (7 : Int32))), .val (.int ((p2 &&& (3 : Int32)) - (2 : Int32))), .unset] [(.int (p1 &&& (7 : Int32)))]))
        refine Run.go (fun _ k => XS.iconst X0.here hx rfl (hb hby at_47) k) ?_
        show Run p e below s 0 0 (Q_rm0 Z p1 p2 vETHERNET vLINUX_SLL vLINUX_SLL2 vALL h0 n0) (s₁.setTop (mkF m 48 #[.val (.int p1), .val (.int p2), .val (.int (p1 &&& (7 : Int32))), .val (.int ((p2 &&& (3 : Int32)) - (2 : Int32))), .unset] [(.int (3 : Int32)), (.int (p1 &&& (7 : Int32)))]))
        by_cases hc11 : ((p1 &&& (7 : Int32)) = (3 : Int32))
        · refine Run.go (fun _ k => XS.icmpNo X0.here hx rfl (hb hby at_48) rfl (teq hc11).2 k) ?_
          show Run p e below s 0 0 (Q_rm0 Z p1 p2 vETHERNET vLINUX_SLL vLINUX_SLL2 vALL h0 n0) (s₁.setTop (mkF m 51 #[.val (.int p1), .val (.int p2), .val (.int (p1 &&& (7 : Int32))), .val (.int ((p2 &&& (3 : Int32)) - (2 : Int32))), .unset] []))
          refine Run.go (fun _ k => XS.iconst X0.here hx rfl (hb hby at_51) k) ?_
          show Run p e below s 0 0 (Q_rm0 Z p1 p2 vETHERNET vLINUX_SLL vLINUX_SLL2 vALL h0 n0) (s₁.setTop (mkF m 52 #[.val (.int p1), .val (.int p2), .val (.int (p1 &&& (7 : Int32))), .val (.int ((p2 &&& (3 : Int32)) - (2 : Int32))), .unset] [(.int (1 : Int32))]))
          refine Run.go (fun _ k => XS.iloadN X0.here hx rfl (hb hby at_52) rfl  k) ?_
          show Run p e below s 0 0 (Q_rm0 Z p1 p2 vETHERNET vLINUX_SLL vLINUX_SLL2 vALL h0 n0) (s₁.setTop (mkF m 53 #[.val (.int p1), .val (.int p2), .val (.int (p1 &&& (7 : Int32))), .val (.int ((p2 &&& (3 : Int32)) - (2 : Int32))), .unset] [(.int ((p2 &&& (3 : Int32)) - (2 : Int32))), (.int (1 : Int32))]))
          refine Run.go (fun _ k => XS.iadd X0.here hx rfl (hb hby at_53) rfl k) ?_
          show Run p e below s 0 0 (Q_rm0 Z p1 p2 vETHERNET vLINUX_SLL vLINUX_SLL2 vALL h0 n0) (s₁.setTop (mkF m 54 #[.val (.int p1), .val (.int p2), .val (.int (p1 &&& (7 : Int32))), .val (.int ((p2 &&& (3 : Int32)) - (2 : Int32))), .unset] [(.int ((1 : Int32) + ((p2 &&& (3 : Int32)) - (2 : Int32))))]))
          refine Run.go (fun _ k => XS.istore X0.here hx rfl (hb hby at_54) rfl (l' := #[.val (.int p1), .val (.int p2), .val (.int (p1 &&& (7 : Int32))), .val (.int ((p2 &&& (3 : Int32)) - (2 : Int32))), .val (.int ((1 : Int32) + ((p2 &&& (3 : Int32)) - (2 : Int32))))]) rfl k) ?_
          show Run p e below s 0 0 (Q_rm0 Z p1 p2 vETHERNET vLINUX_SLL vLINUX_SLL2 vALL h0 n0) (s₁.setTop (mkF m 56 #[.val (.int p1), .val (.int p2), .val (.int (p1 &&& (7 : Int32))), .val (.int ((p2 &&& (3 : Int32)) - (2 : Int32))), .val (.int ((1 : Int32) + ((p2 &&& (3 : Int32)) - (2 : Int32))))] []))
          refine Run.go (fun _ k => XS.goto X0.here hx rfl (pc0 := 56) (pc' := 91) rfl (hb hby at_56) (by decide) (by decide) k) ?_
          show Run p e below s 0 0 (Q_rm0 Z p1 p2 vETHERNET vLINUX_SLL vLINUX_SLL2 vALL h0 n0) (s₁.setTop (mkF m 91 #[.val (.int p1), .val (.int p2), .val (.int (p1 &&& (7 : Int32))), .val (.int ((p2 &&& (3 : Int32)) - (2 : Int32))), .val (.int ((1 : Int32) + ((p2 &&& (3 : Int32)) - (2 : Int32))))] []))
          exact J3 _ (by rw [if_neg hc8, if_neg hc9, if_neg hc10, if_pos hc11]) _ _ X0 e0 N0
        · refine Run.go (fun _ k => XS.icmpYes X0.here hx rfl (pc0 := 48) (pc' := 59) rfl (hb hby at_48) rfl (feq hc11).2 (by decide) (by decide) k) ?_
          show Run p e below s 0 0 (Q_rm0 Z p1 p2 vETHERNET vLINUX_SLL vLINUX_SLL2 vALL h0 n0) (s₁.setTop (mkF m 59 #[.val (.int p1), .val (.int p2), .val (.int (p1 &&& (7 : Int32))), .val (.int ((p2 &&& (3 : Int32)) - (2 : Int32))), .unset] []))
          refine Run.go (fun _ k => XS.iloadN X0.here hx rfl (hb hby at_59) rfl  k) ?_
          show Run p e below s 0 0 (Q_rm0 Z p1 p2 vETHERNET vLINUX_SLL vLINUX_SLL2 vALL h0 n0) (s₁.setTop (mkF m 60 #[.val (.int p1), .val (.int p2), .val (.int (p1 &&& (7 : Int32))), .val (.int ((p2 &&& (3 : Int32)) - (2 : Int32))), .unset] [(.int (p1 &&& (7 : Int32)))]))
          refine Run.go (fun _ k => XS.iconst X0.here hx rfl (hb hby at_60) k) ?_
          show Run p e below s 0 0 (Q_rm0 Z p1 p2 vETHERNET vLINUX_SLL vLINUX_SLL2 vALL h0 n0) (s₁.setTop (mkF m 61 #[.val (.int p1), .val (.int p2), .val (.int (p1 &&& (7 : Int32))), .val (.int ((p2 &&& (3 : Int32)) - (2 : Int32))), .unset] [(.int (4 : Int32)), (.int (p1 &&& (7 : Int32)))]))
          by_cases hc12 : ((p1 &&& (7 : Int32)) = (4 : Int32))
          · refine Run.go (fun _ k => XS.icmpNo X0.here hx rfl (hb hby at_61) rfl (teq hc12).2 k) ?_
            show Run p e below s 0 0 (Q_rm0 Z p1 p2 vETHERNET vLINUX_SLL vLINUX_SLL2 vALL h0 n0) (s₁.setTop (mkF m 64 #[.val (.int p1), .val (.int p2), .val (.int (p1 &&& (7 : Int32))), .val (.int ((p2 &&& (3 : Int32)) - (2 : Int32))), .unset] []))
            refine Run.go (fun _ k => XS.bipush X0.here hx rfl (hb hby at_64) k) ?_
            show Run p e below s 0 0 (Q_rm0 Z p1 p2 vETHERNET vLINUX_SLL vLINUX_SLL2 vALL h0 n0) (s₁.setTop (mkF m 66 #[.val (.int p1), .val (.int p2), .val (.int (p1 &&& (7 : Int32))), .val (.int ((p2 &&& (3 : Int32)) - (2 : Int32))), .unset] [(.int (113 : Int32))]))
            refine Run.go (fun _ k => XS.iloadN X0.here hx rfl (hb hby at_66) rfl  k) ?_
            show Run p e below s 0 0 (Q_rm0 Z p1 p2 vETHERNET vLINUX_SLL vLINUX_SLL2 vALL h0 n0) (s₁.setTop (mkF m 67 #[.val (.int p1), .val (.int p2), .val (.int (p1 &&& (7 : Int32))), .val (.int ((p2 &&& (3 : Int32)) - (2 : Int32))), .unset] [(.int ((p2 &&& (3 : Int32)) - (2 : Int32))), (.int (113 : Int32))]))
            refine Run.go (fun _ k => XS.iadd X0.here hx rfl (hb hby at_67) rfl k) ?_
            show Run p e below s 0 0 (Q_rm0 Z p1 p2 vETHERNET vLINUX_SLL vLINUX_SLL2 vALL h0 n0) (s₁.setTop (mkF m 68 #[.val (.int p1), .val (.int p2), .val (.int (p1 &&& (7 : Int32))), .val (.int ((p2 &&& (3 : Int32)) - (2 : Int32))), .unset] [(.int ((113 : Int32) + ((p2 &&& (3 : Int32)) - (2 : Int32))))]))
            refine Run.go (fun _ k => XS.istore X0.here hx rfl (hb hby at_68) rfl (l' := #[.val (.int p1), .val (.int p2), .val (.int (p1 &&& (7 : Int32))), .val (.int ((p2 &&& (3 : Int32)) - (2 : Int32))), .val (.int ((113 : Int32) + ((p2 &&& (3 : Int32)) - (2 : Int32))))]) rfl k) ?_
            show Run p e below s 0 0 (Q_rm0 Z p1 p2 vETHERNET vLINUX_SLL vLINUX_SLL2 vALL h0 n0) (s₁.setTop (mkF m 70 #[.val (.int p1), .val (.int p2), .val (.int (p1 &&& (7 : Int32))), .val (.int ((p2 &&& (3 : Int32)) - (2 : Int32))), .val (.int ((113 : Int32) + ((p2 &&& (3 : Int32)) - (2 : Int32))))] []))
            refine Run.go (fun _ k => XS.goto X0.here hx rfl (pc0 := 70) (pc' := 91) rfl (hb hby at_70) (by decide) (by decide) k) ?_
            show Run p e below s 0 0 (Q_rm0 Z p1 p2 vETHERNET vLINUX_SLL vLINUX_SLL2 vALL h0 n0) (s₁.setTop (mkF m 91 #[.val (.int p1), .val (.int p2), .val (.int (p1 &&& (7 : Int32))), .val (.int ((p2 &&& (3 : Int32)) - (2 : Int32))), .val (.int ((113 : Int32) + ((p2 &&& (3 : Int32)) - (2 : Int32))))] []))
            exact J3 _ (by rw [if_neg hc8, if_neg hc9, if_neg hc10, if_neg hc11, if_pos hc12]) _ _ X0 e0 N0
          · refine Run.go (fun _ k => XS.icmpYes X0.here hx rfl (pc0 := 61) (pc' := 73) rfl (hb hby at_61) rfl (feq hc12).2 (by decide) (by decide) k) ?_
            show Run p e below s 0 0 (Q_rm0 Z p1 p2 vETHERNET vLINUX_SLL vLINUX_SLL2 vALL h0 n0) (s₁.setTop (mkF m 73 #[.val (.int p1), .val (.int p2), .val (.int (p1 &&& (7 : Int32))), .val (.int ((p2 &&& (3 : Int32)) - (2 : Int32))), .unset] []))
            refine Run.go (fun _ k => XS.iloadN X0.here hx rfl (hb hby at_73) rfl  k) ?_
            show Run p e below s 0 0 (Q_rm0 Z p1 p2 vETHERNET vLINUX_SLL vLINUX_SLL2 vALL h0 n0) (s₁.setTop (mkF m 74 #[.val (.int p1), .val (.int p2), .val (.int (p1 &&& (7 : Int32))), .val (.int ((p2 &&& (3 : Int32)) - (2 : Int32))), .unset] [(.int (p1 &&& (7 : Int32)))]))
            refine Run.go (fun _ k => XS.iconst X0.here hx rfl (hb hby at_74) k) ?_
            show Run p e below s 0 0 (Q_rm0 Z p1 p2 vETHERNET vLINUX_SLL vLINUX_SLL2 vALL h0 n0) (s₁.setTop (mkF m 75 #[.val (.int p1), .val (.int p2), .val (.int (p1 &&& (7 : Int32))), .val (.int ((p2 &&& (3 : Int32)) - (2 : Int32))), .unset] [(.int (5 : Int32)), (.int (p1 &&& (7 : Int32)))]))
            by_cases hc13 : ((p1 &&& (7 : Int32)) = (5 : Int32))
            · refine Run.go (fun _ k => XS.icmpNo X0.here hx rfl (hb hby at_75) rfl (teq hc13).2 k) ?_
              show Run p e below s 0 0 (Q_rm0 Z p1 p2 vETHERNET vLINUX_SLL vLINUX_SLL2 vALL h0 n0) (s₁.setTop (mkF m 78 #[.val (.int p1), .val (.int p2), .val (.int (p1 &&& (7 : Int32))), .val (.int ((p2 &&& (3 : Int32)) - (2 : Int32))), .unset] []))
              refine Run.go (fun _ k => XS.sipush X0.here hx rfl (hb hby at_78) k) ?_
              show Run p e below s 0 0 (Q_rm0 Z p1 p2 vETHERNET vLINUX_SLL vLINUX_SLL2 vALL h0 n0) (s₁.setTop (mkF m 81 #[.val (.int p1), .val (.int p2), .val (.int (p1 &&& (7 : Int32))), .val (.int ((p2 &&& (3 : Int32)) - (2 : Int32))), .unset] [(.int (276 : Int32))]))
              refine Run.go (fun _ k => XS.iloadN X0.here hx rfl (hb hby at_81) rfl  k) ?_
              show Run p e below s 0 0 (Q_rm0 Z p1 p2 vETHERNET vLINUX_SLL vLINUX_SLL2 vALL h0 n0) (s₁.setTop (mkF m 82 #[.val (.int p1), .val (.int p2), .val (.int (p1 &&& (7 : Int32))), .val (.int ((p2 &&& (3 : Int32)) - (2 : Int32))), .unset] [(.int ((p2 &&& (3 : Int32)) - (2 : Int32))), (.int (276 : Int32))]))
              refine Run.go (fun _ k => XS.iadd X0.here hx rfl (hb hby at_82) rfl k) ?_
              show Run p e below s 0 0 (Q_rm0 Z p1 p2 vETHERNET vLINUX_SLL vLINUX_SLL2 vALL h0 n0) (s₁.setTop (mkF m 83 #[.val (.int p1), .val (.int p2), .val (.int (p1 &&& (7 : Int32))), .val (.int ((p2 &&& (3 : Int32)) - (2 : Int32))), .unset] [(.int ((276 : Int32) + ((p2 &&& (3 : Int32)) - (2 : Int32))))]))
              refine Run.go (fun _ k => XS.istore X0.here hx rfl (hb hby at_83) rfl (l' := #[.val (.int p1), .val (.int p2), .val (.int (p1 &&& (7 : Int32))), .val (.int ((p2 &&& (3 : Int32)) - (2 : Int32))), .val (.int ((276 : Int32) + ((p2 &&& (3 : Int32)) - (2 : Int32))))]) rfl k) ?_
              show Run p e below s 0 0 (Q_rm0 Z p1 p2 vETHERNET vLINUX_SLL vLINUX_SLL2 vALL h0 n0) (s₁.setTop (mkF m 85 #[.val (.int p1), .val (.int p2), .val (.int (p1 &&& (7 : Int32))), .val (.int ((p2 &&& (3 : Int32)) - (2 : Int32))), .val (.int ((276 : Int32) + ((p2 &&& (3 : Int32)) - (2 : Int32))))] []))
              refine Run.go (fun _ k => XS.goto X0.here hx rfl (pc0 := 85) (pc' := 91) rfl (hb hby at_85) (by decide) (by decide) k) ?_
              show Run p e below s 0 0 (Q_rm0 Z p1 p2 vETHERNET vLINUX_SLL vLINUX_SLL2 vALL h0 n0) (s₁.setTop (mkF m 91 #[.val (.int p1), .val (.int p2), .val (.int (p1 &&& (7 : Int32))), .val (.int ((p2 &&& (3 : Int32)) - (2 : Int32))), .val (.int ((276 : Int32) + ((p2 &&& (3 : Int32)) - (2 : Int32))))] []))
              exact J3 _ (by rw [if_neg hc8, if_neg hc9, if_neg hc10, if_neg hc11, if_neg hc12, if_pos hc13]) _ _ X0 e0 N0
            · refine Run.go (fun _ k => XS.icmpYes X0.here hx rfl (pc0 := 75) (pc' := 88) rfl (hb hby at_75) rfl (feq hc13).2 (by decide) (by decide) k) ?_
              show Run p e below s 0 0 (Q_rm0 Z p1 p2 vETHERNET vLINUX_SLL vLINUX_SLL2 vALL h0 n0) (s₁.setTop (mkF m 88 #[.val (.int p1), .val (.int p2), .val (.int (p1 &&& (7 : Int32))), .val (.int ((p2 &&& (3 : Int32)) - (2 : Int32))), .unset] []))
              refine Run.go (fun _ k => XS.iloadN X0.here hx rfl (hb hby at_88) rfl  k) ?_
              show Run p e below s 0 0 (Q_rm0 Z p1 p2 vETHERNET vLINUX_SLL vLINUX_SLL2 vALL h0 n0) (s₁.setTop (mkF m 89 #[.val (.int p1), .val (.int p2), .val (.int (p1 &&& (7 : Int32))), .val (.int ((p2 &&& (3 : Int32)) - (2 : Int32))), .unset] [(.int p2)]))
              refine Run.go (fun _ k => XS.istore X0.here hx rfl (hb hby at_89) rfl (l' := #[.val (.int p1), .val (.int p2), .val (.int (p1 &&& (7 : Int32))), .val (.int ((p2 &&& (3 : Int32)) - (2 : Int32))), .val (.int p2)]) rfl k) ?_
              show Run p e below s 0 0 (Q_rm0 Z p1 p2 vETHERNET vLINUX_SLL vLINUX_SLL2 vALL h0 n0) (s₁.setTop (mkF m 91 #[.val (.int p1), .val (.int p2), .val (.int (p1 &&& (7 : Int32))), .val (.int ((p2 &&& (3 : Int32)) - (2 : Int32))), .val (.int p2)] []))
              exact J3 _ (by rw [if_neg hc8, if_neg hc9, if_neg hc10, if_neg hc11, if_neg hc12, if_neg hc13]) _ _ X0 e0 N0
set_option maxRecDepth 65536 in
set_option maxHeartbeats 40000000 in
theorem comes_1 {Post : Tables → Env → Array Value → State → Outcome → State → Prop} (hpost : ∀ tb e args s v u, (limb_1_1.after args s (.returned v) u = true ∧ limb_1_2.after args s (.returned v) u = true ∧ True) → FrameEnd s (.returned v) u (Jvm.fieldLocs frame_1_writes args s ++ Jvm.arrayLocs frame_1_arrays args s ++ Jvm.staticLocs frame_1_statics s) 0 0 → Post tb e args s (.returned v) u) :
    ArmFor flags0 classFile x code maxLocals ret World_1 tables_1 room_1 Calls_1 rest_1 Pre_1 Post := by
  intro l hfl _ _ p e ha hc hk s m args below hf hA hF happ hP
  obtain ⟨hcalls, hrest, hpre⟩ := hP
  obtain ⟨-, -, -, hnamed, -, -, -, hat⟩ := (Spec.applies_iff hf).mp happ
  obtain ⟨hg, hn⟩ := and_e (Cond.before_iff.mp (show (Jvm.Cond.and given_1 narrow_1).before args s = true from hpre))
  obtain ⟨g1, g2⟩ := and_e hg
  obtain ⟨g3, g4⟩ := and_e g2
  obtain ⟨w0, w1, rfl⟩ : ∃ w0 w1 : Value, args = #[w0, w1] := by
    have hs : args.size = 2 := by simpa [Cond.value, given_1] using g1
    obtain ⟨L⟩ := args
    match L, hs with
    | [w0, w1], _ => exact ⟨w0, w1, rfl⟩
  have hw := fun d (hd : d ∈ tables_1) => atoms_spec (ws := Jvm.Cond.code x code maxLocals ret :: tables_1) hat d (List.mem_cons_of_mem _ hd)
  have hfit : Fit s := fun {y c} hc i hi => by
    obtain ⟨ha, rfl⟩ := Array.getElem?_eq_some_iff.mp hc
    have q := List.all_eq_true.mp ((Array.all_eq_true_iff_forall_mem.mp hF) _ (Array.getElem_mem ha)) i (List.mem_range.mpr hi)
    simpa [Array.getElem?_eq_getElem hi] using q
  obtain ⟨i0, ei0⟩ := is_v g3
  obtain rfl : w0 = (.int i0) := Option.some.inj ei0
  obtain ⟨i1, ei1⟩ := is_v g4
  obtain rfl : w1 = (.int i1) := Option.some.inj ei1
  obtain ⟨c0, d0⟩ := and_e hn
  obtain ⟨c1, d1⟩ := and_e d0
  obtain ⟨c2, d2⟩ := and_e d1
  obtain ⟨c3, d3⟩ := and_e d2
  obtain ⟨c4, d4⟩ := and_e d3
  obtain ⟨c5, d5⟩ := and_e d4
  obtain ⟨c6, d6⟩ := and_e d5
  obtain ⟨c7, d7⟩ := and_e d6
  obtain ⟨c8, d8⟩ := and_e d7
  obtain ⟨c9, d9⟩ := and_e d8
  obtain ⟨vALL, evALL⟩ := arr_v c0
  have SALL : Sta s s.heap "com/example/comera/comera/capture/LinkType" "ALL" "[Lcom/example/comera/comera/capture/LinkType;" (.ref vALL) := Sta.start evALL (Or.inr ⟨(hw _ (List.mem_of_getElem? (i := 2) rfl)), (hw _ (List.mem_of_getElem? (i := 5) rfl))⟩)
  obtain ⟨cA, AA⟩ := Arr.start evALL c0
  have zA := own_len evALL (Arr.fin (Vm.Alike.refl _) AA) c1
  obtain ⟨vETHERNET, evETHERNET⟩ := exa_v c2
  have SETHERNET : Sta s s.heap "com/example/comera/comera/capture/LinkType" "ETHERNET" "Lcom/example/comera/comera/capture/LinkType;" (.ref vETHERNET) := Sta.start evETHERNET (Or.inr ⟨(hw _ (List.mem_of_getElem? (i := 2) rfl)), (hw _ (List.mem_of_getElem? (i := 6) rfl))⟩)
  obtain ⟨xETHERNET, yETHERNET, qETHERNET, rETHERNET, -, -⟩ := cmp_v (Or.inl c3)
  obtain rfl := Option.some.inj (rETHERNET.symm.trans evETHERNET)
  obtain ⟨inETHERNET, atETHERNET⟩ := elem_in qETHERNET evALL (Term.int_eval 0) AA.1
  obtain ⟨fETHERNET, gETHERNET, mETHERNET, oETHERNET, -, -⟩ := cmp_v (Or.inl c4)
  obtain rfl := Option.some.inj (oETHERNET.symm.trans (Term.int_eval _))
  have tETHERNET : xETHERNET = .ref vETHERNET := own_refeq c3 qETHERNET evETHERNET
  subst tETHERNET
  have FETHERNET : Fld s s.heap vETHERNET "com/example/comera/comera/capture/LinkType" "value" "I" (.int (1 : Int32)) := Fld.start (by rw [← fld_at evETHERNET]; exact own_inteq c4 mETHERNET)
  obtain ⟨vLINUX_SLL, evLINUX_SLL⟩ := exa_v c5
  have SLINUX_SLL : Sta s s.heap "com/example/comera/comera/capture/LinkType" "LINUX_SLL" "Lcom/example/comera/comera/capture/LinkType;" (.ref vLINUX_SLL) := Sta.start evLINUX_SLL (Or.inr ⟨(hw _ (List.mem_of_getElem? (i := 2) rfl)), (hw _ (List.mem_of_getElem? (i := 9) rfl))⟩)
  obtain ⟨xLINUX_SLL, yLINUX_SLL, qLINUX_SLL, rLINUX_SLL, -, -⟩ := cmp_v (Or.inl c6)
  obtain rfl := Option.some.inj (rLINUX_SLL.symm.trans evLINUX_SLL)
  obtain ⟨inLINUX_SLL, atLINUX_SLL⟩ := elem_in qLINUX_SLL evALL (Term.int_eval 1) AA.1
  obtain ⟨fLINUX_SLL, gLINUX_SLL, mLINUX_SLL, oLINUX_SLL, -, -⟩ := cmp_v (Or.inl c7)
  obtain rfl := Option.some.inj (oLINUX_SLL.symm.trans (Term.int_eval _))
  have tLINUX_SLL : xLINUX_SLL = .ref vLINUX_SLL := own_refeq c6 qLINUX_SLL evLINUX_SLL
  subst tLINUX_SLL
  have FLINUX_SLL : Fld s s.heap vLINUX_SLL "com/example/comera/comera/capture/LinkType" "value" "I" (.int (113 : Int32)) := Fld.start (by rw [← fld_at evLINUX_SLL]; exact own_inteq c7 mLINUX_SLL)
  obtain ⟨vLINUX_SLL2, evLINUX_SLL2⟩ := exa_v c8
  have SLINUX_SLL2 : Sta s s.heap "com/example/comera/comera/capture/LinkType" "LINUX_SLL2" "Lcom/example/comera/comera/capture/LinkType;" (.ref vLINUX_SLL2) := Sta.start evLINUX_SLL2 (Or.inr ⟨(hw _ (List.mem_of_getElem? (i := 2) rfl)), (hw _ (List.mem_of_getElem? (i := 10) rfl))⟩)
  obtain ⟨xLINUX_SLL2, yLINUX_SLL2, qLINUX_SLL2, rLINUX_SLL2, -, -⟩ := cmp_v (Or.inl c9)
  obtain rfl := Option.some.inj (rLINUX_SLL2.symm.trans evLINUX_SLL2)
  obtain ⟨inLINUX_SLL2, atLINUX_SLL2⟩ := elem_in qLINUX_SLL2 evALL (Term.int_eval 2) AA.1
  obtain ⟨fLINUX_SLL2, gLINUX_SLL2, mLINUX_SLL2, oLINUX_SLL2, -, -⟩ := cmp_v (Or.inl d9)
  obtain rfl := Option.some.inj (oLINUX_SLL2.symm.trans (Term.int_eval _))
  have tLINUX_SLL2 : xLINUX_SLL2 = .ref vLINUX_SLL2 := own_refeq c9 qLINUX_SLL2 evLINUX_SLL2
  subst tLINUX_SLL2
  have FLINUX_SLL2 : Fld s s.heap vLINUX_SLL2 "com/example/comera/comera/capture/LinkType" "value" "I" (.int (276 : Int32)) := Fld.start (by rw [← fld_at evLINUX_SLL2]; exact own_inteq d9 mLINUX_SLL2)
  have FA : Ary s s.heap vALL (.object "com/example/comera/comera/capture/LinkType") 3 (fun i => if i = 0 then (.ref vETHERNET) else (fun i => if i = 1 then (.ref vLINUX_SLL) else (fun _ => (.ref vLINUX_SLL2)) i) i) := ⟨cA, AA, zA, fun i hi => by
    match i, hi with
    | 0, _ => exact atETHERNET
    | 1, _ => exact atLINUX_SLL
    | 2, _ => exact atLINUX_SLL2⟩
  obtain ⟨n, o, h1, h2, h3, _, L, rfl, ⟨rfl, N⟩, hq⟩ := rm0 l s _ hw tables_1 i0 i1 vETHERNET vLINUX_SLL vLINUX_SLL2 vALL s.heap s.heap.size (Nat.le_refl _) SALL FA FETHERNET FLINUX_SLL FLINUX_SLL2 SETHERNET SLINUX_SLL SLINUX_SLL2 p e ha hc hk s m _ below hf ((Spec.applies_iff_loose hf).mp happ).1 ⟨rfl, State.Warmed39.refl s, rfl⟩ trivial
  refine ⟨n, _, h1, h2, h3, hpost _ _ _ _ _ _ ⟨Cond.after_iff.mpr rfl, Cond.after_iff.mpr (eq_i res_at (Term.int_eval (1)) rfl), trivial⟩ ⟨hq.1, hq.2.1, (hq.2.2.sift fun y hy => Or.inr (N y hy)).mono (by decide) (by decide)⟩⟩
theorem main_1_1 : Claimed_1_1 := comes_1 fun _ _ _ _ _ _ h hF => ⟨h.1, hF⟩
theorem main_1_2 : Claimed_1_2 := comes_1 fun _ _ _ _ _ _ h hF => ⟨h.2.1, hF⟩
end Jvm.Pilot.@@N@@
namespace Jvm.Pilot.@@N@@
open Jvm Jvm.ClassFile Sem Op Lib Jvm.Free Jvm.Stand Jvm.Pilot.@@N@@.Jvm.D
/-! MADE BY PROGRAM (witnessworld.py) out of the Statement's table words and the real class files: 13 classes; the members and pool entries that the words name. The judged class is class 1, her method 2. -/
namespace start1
open Jvm.ClassFile
def u (s : String) : CpInfo := .utf8 (stringToUtf16 s)
/-- a pool by its gaps: so many unusable entries, then the entry; so many at the end -/
def gap : Nat → List CpInfo → List CpInfo
  | 0, r => r
  | n + 1, r => .unusable :: gap n r
def poolList (es : List (Nat × CpInfo)) (last : Nat) : List CpInfo := es.foldr (fun e r => gap e.1 (e.2 :: r)) (gap last [])
def pool (es : List (Nat × CpInfo)) (last : Nat) : Array CpInfo := ⟨poolList es last⟩
def fileOf (pool : Array CpInfo) (this : Nat) (attrs : Array Attribute := #[]) (ms : Array MethodInfo := #[]) (fl : Nat := 33) (sup : Nat := 0) (ifs : Array Nat := #[]) (fds : Array FieldInfo := #[]) : ClassFile where
  minorVersion := 0
  majorVersion := 65
  constantPool := pool
  accessFlags := fl
  thisClass := this
  superClass := sup
  interfaces := ifs
  fields := fds
  methods := ms
  attributes := attrs
def plain (name : String) (sup : Option ClassId) : Class where
  name := name
  kind := .ordinary
  loader := none
  accessFlags := 33
  super := sup
  interfaces := #[]
  cf := none
  fields := #[]
  methods := #[]
  instanceTypes := #[]
  staticTypes := #[]
  resolved := #[]
  callSites := []
  init := .initialized
  statics := none
  mirror := none

def pool0 : Array CpInfo := pool [(5, u "<init>"), (0, u "()V"), (1, .class_ 10), (1, u "java/lang/Object")] 113

def k0m0 : Method := { name := "<init>", desc := "()V", sig := { parameters := [], returnType := none }, accessFlags := 1, code := none }
/-- java/lang/Object -/
def k0 : Class := { plain "java/lang/Object" none with
  accessFlags := 33
  interfaces := #[]
  cf := some (fileOf pool0 8 #[] #[{ accessFlags := 1, nameIndex := 5, descriptorIndex := 6, attributes := #[] }] 33 0 #[] #[])
  fields := #[]
  methods := #[k0m0]
  instanceTypes := #[]
  staticTypes := #[]
  resolved := Array.replicate 124 none
  statics := none }

def pool1 : Array CpInfo := pool [(2, .class_ 4), (1, u "java/lang/Object"), (0, u "<init>"), (0, u "()V"), (0, .fieldref 8 9), (0, .class_ 10), (0, .nameAndType 11 12), (0, u "com/example/comera/comera/capture/LinkType"), (0, u "ETHERNET"), (0, u "Lcom/example/comera/comera/capture/LinkType;"), (0, .fieldref 8 14), (0, .nameAndType 15 12), (0, u "LINUX_SLL"), (0, .fieldref 8 17), (0, .nameAndType 18 12), (0, u "LINUX_SLL2"), (0, .methodref 8 20), (0, .nameAndType 21 22), (0, u "of"), (0, u "(I)Lcom/example/comera/comera/capture/LinkType;"), (0, .methodref 24 25), (0, .class_ 26), (0, .nameAndType 27 22), (0, u "com/example/comera/comera/capture/LinkTypeOfPinLaw"), (0, u "expected"), (3, u "law"), (0, u "(II)Z")] 2

def k1m0 : Method := { name := "<init>", desc := "()V", sig := { parameters := [], returnType := none }, accessFlags := 2, code := none }
def k1c1 : Code := { maxStack := 2, maxLocals := 1, code := method_2_code, exceptionTable := #[], attributes := #[] }
def k1m1 : Method := { name := "expected", desc := "(I)Lcom/example/comera/comera/capture/LinkType;", sig := { parameters := [.int], returnType := some (.object "com/example/comera/comera/capture/LinkType") }, accessFlags := 10, code := some k1c1 }
def k1c2 : Code := { maxStack := 2, maxLocals := 5, code := code, exceptionTable := #[], attributes := #[] }
def k1m2 : Method := { name := "law", desc := "(II)Z", sig := { parameters := [.int, .int], returnType := some .boolean }, accessFlags := 9, code := some k1c2 }
/-- com/example/comera/comera/capture/LinkTypeOfPinLaw -/
def k1 : Class := { plain "com/example/comera/comera/capture/LinkTypeOfPinLaw" (some 0) with
  accessFlags := 49
  interfaces := #[]
  cf := some (fileOf pool1 24 #[] #[{ accessFlags := 2, nameIndex := 5, descriptorIndex := 6, attributes := #[] }, { accessFlags := 10, nameIndex := 27, descriptorIndex := 22, attributes := #[] }, { accessFlags := 9, nameIndex := 31, descriptorIndex := 32, attributes := #[] }] 49 2 #[] #[])
  fields := #[]
  methods := #[k1m0, k1m1, k1m2]
  instanceTypes := #[]
  staticTypes := #[]
  resolved := Array.replicate 35 none
  statics := none }

def pool2 : Array CpInfo := pool [(1, .class_ 2), (0, u "java/lang/constant/Constable"), (0, .class_ 4), (0, u "java/lang/Object")] 6

/-- java/lang/constant/Constable -/
def k2 : Class := { plain "java/lang/constant/Constable" (some 0) with
  accessFlags := 1537
  interfaces := #[]
  cf := some (fileOf pool2 1 #[] #[] 1537 3 #[] #[])
  fields := #[]
  methods := #[]
  instanceTypes := #[]
  staticTypes := #[]
  resolved := Array.replicate 11 none
  statics := none }

def pool3 : Array CpInfo := pool [(1, .class_ 2), (0, u "java/lang/Comparable"), (0, .class_ 4), (0, u "java/lang/Object")] 7

/-- java/lang/Comparable -/
def k3 : Class := { plain "java/lang/Comparable" (some 0) with
  accessFlags := 1537
  interfaces := #[]
  cf := some (fileOf pool3 1 #[] #[] 1537 3 #[] #[])
  fields := #[]
  methods := #[]
  instanceTypes := #[]
  staticTypes := #[]
  resolved := Array.replicate 12 none
  statics := none }

def pool4 : Array CpInfo := pool [(1, .class_ 2), (0, u "java/io/Serializable"), (0, .class_ 4), (0, u "java/lang/Object")] 2

/-- java/io/Serializable -/
def k4 : Class := { plain "java/io/Serializable" (some 0) with
  accessFlags := 1537
  interfaces := #[]
  cf := some (fileOf pool4 1 #[] #[] 1537 3 #[] #[])
  fields := #[]
  methods := #[]
  instanceTypes := #[]
  staticTypes := #[]
  resolved := Array.replicate 7 none
  statics := none }

def pool5 : Array CpInfo := pool [(2, .class_ 4), (1, u "java/lang/Enum"), (0, u "name"), (0, u "Ljava/lang/String;"), (2, u "ordinal"), (0, u "I"), (1, .class_ 14), (1, u "java/lang/Object"), (4, u "hash"), (86, .class_ 108), (1, u "java/lang/Enum$EnumDesc"), (2, .class_ 112), (0, u "java/lang/constant/Constable"), (0, .class_ 114), (0, u "java/lang/Comparable"), (0, .class_ 116), (0, u "java/io/Serializable")] 87

/-- java/lang/Enum -/
def k5 : Class := { plain "java/lang/Enum" (some 0) with
  accessFlags := 1057
  interfaces := #[2, 3, 4]
  cf := some (fileOf pool5 2 #[.nestMembers #[106]] #[] 1057 12 #[111, 113, 115] #[{ accessFlags := 18, nameIndex := 5, descriptorIndex := 6, attributes := #[] }, { accessFlags := 18, nameIndex := 9, descriptorIndex := 10, attributes := #[] }, { accessFlags := 2, nameIndex := 19, descriptorIndex := 10, attributes := #[] }])
  fields := #[{ name := "name", type := (.object "java/lang/String"), accessFlags := 18, slot := 0, constantValue := 0 }, { name := "ordinal", type := .int, accessFlags := 18, slot := 1, constantValue := 0 }, { name := "hash", type := .int, accessFlags := 2, slot := 2, constantValue := 0 }]
  methods := #[]
  instanceTypes := #[(.object "java/lang/String"), .int, .int]
  staticTypes := #[]
  resolved := Array.replicate 204 none
  statics := none }

def pool6 : Array CpInfo := pool [(1, .class_ 2), (0, u "com/example/comera/comera/capture/LinkType"), (2, u "ETHERNET"), (0, u "Lcom/example/comera/comera/capture/LinkType;"), (2, u "LINUX_SLL"), (2, u "LINUX_SLL2"), (2, u "$VALUES"), (0, u "[Lcom/example/comera/comera/capture/LinkType;"), (6, .class_ 25), (1, u "java/lang/Enum"), (6, .fieldref 1 33), (0, .nameAndType 34 35), (0, u "value"), (0, u "I"), (2, u "protocolAt"), (2, u "headerLength"), (0, .fieldref 1 43), (0, .nameAndType 44 16), (0, u "ALL"), (19, u "of"), (0, u "(I)Lcom/example/comera/comera/capture/LinkType;")] 7

def k6c0 : Code := { maxStack := 2, maxLocals := 6, code := prog_9_method_4_code, exceptionTable := #[], attributes := #[] }
def k6m0 : Method := { name := "of", desc := "(I)Lcom/example/comera/comera/capture/LinkType;", sig := { parameters := [.int], returnType := some (.object "com/example/comera/comera/capture/LinkType") }, accessFlags := 8, code := some k6c0 }
/-- com/example/comera/comera/capture/LinkType -/
def k6 : Class := { plain "com/example/comera/comera/capture/LinkType" (some 5) with
  accessFlags := 16432
  interfaces := #[]
  cf := some (fileOf pool6 1 #[] #[{ accessFlags := 8, nameIndex := 64, descriptorIndex := 65, attributes := #[] }] 16432 23 #[] #[{ accessFlags := 16409, nameIndex := 5, descriptorIndex := 6, attributes := #[] }, { accessFlags := 16409, nameIndex := 9, descriptorIndex := 6, attributes := #[] }, { accessFlags := 16409, nameIndex := 12, descriptorIndex := 6, attributes := #[] }, { accessFlags := 26, nameIndex := 44, descriptorIndex := 16, attributes := #[] }, { accessFlags := 18, nameIndex := 34, descriptorIndex := 35, attributes := #[] }, { accessFlags := 18, nameIndex := 38, descriptorIndex := 35, attributes := #[] }, { accessFlags := 18, nameIndex := 41, descriptorIndex := 35, attributes := #[] }, { accessFlags := 4122, nameIndex := 15, descriptorIndex := 16, attributes := #[] }])
  fields := #[{ name := "ETHERNET", type := (.object "com/example/comera/comera/capture/LinkType"), accessFlags := 16409, slot := 0, constantValue := 0 }, { name := "LINUX_SLL", type := (.object "com/example/comera/comera/capture/LinkType"), accessFlags := 16409, slot := 1, constantValue := 0 }, { name := "LINUX_SLL2", type := (.object "com/example/comera/comera/capture/LinkType"), accessFlags := 16409, slot := 2, constantValue := 0 }, { name := "ALL", type := (.array (.object "com/example/comera/comera/capture/LinkType")), accessFlags := 26, slot := 3, constantValue := 0 }, { name := "value", type := .int, accessFlags := 18, slot := 3, constantValue := 0 }, { name := "protocolAt", type := .int, accessFlags := 18, slot := 4, constantValue := 0 }, { name := "headerLength", type := .int, accessFlags := 18, slot := 5, constantValue := 0 }, { name := "$VALUES", type := (.array (.object "com/example/comera/comera/capture/LinkType")), accessFlags := 4122, slot := 4, constantValue := 0 }]
  methods := #[k6m0]
  instanceTypes := #[(.object "java/lang/String"), .int, .int, .int, .int, .int]
  staticTypes := #[(.object "com/example/comera/comera/capture/LinkType"), (.object "com/example/comera/comera/capture/LinkType"), (.object "com/example/comera/comera/capture/LinkType"), (.array (.object "com/example/comera/comera/capture/LinkType")), (.array (.object "com/example/comera/comera/capture/LinkType"))]
  resolved := Array.replicate 73 none
  statics := some 0 }

def pool7 : Array CpInfo := pool [(1, u "java/lang/Cloneable"), (0, .class_ 1), (0, u "java/lang/Object"), (0, .class_ 3)] 3

/-- java/lang/Cloneable -/
def k7 : Class := { plain "java/lang/Cloneable" (some 0) with
  accessFlags := 1537
  interfaces := #[]
  cf := some (fileOf pool7 2 #[] #[] 1537 4 #[] #[])
  fields := #[]
  methods := #[]
  instanceTypes := #[]
  staticTypes := #[]
  resolved := Array.replicate 8 none
  statics := none }

/-- the primitive byte -/
def k8 : Class := { plain "byte" none with kind := .primitive 'B', accessFlags := 0x411 }
/-- [B -/
def k9 : Class := { plain "[B" (some 0) with kind := .array 8 .byte, interfaces := #[7, 4], accessFlags := 1041 }

/-- the primitive int -/
def k10 : Class := { plain "int" none with kind := .primitive 'I', accessFlags := 0x411 }
/-- [I -/
def k11 : Class := { plain "[I" (some 0) with kind := .array 10 .int, interfaces := #[7, 4], accessFlags := 1041 }

/-- [Lcom/example/comera/comera/capture/LinkType; -/
def k12 : Class := { plain "[Lcom/example/comera/comera/capture/LinkType;" (some 0) with kind := .array 6 (.object "com/example/comera/comera/capture/LinkType"), interfaces := #[7, 4], accessFlags := 1041 }

def heap : Heap := #[{ cls := 6, slots := #[.ref 2, .ref 3, .ref 4, .ref 1, .null], vm := .statics 6 },
  { cls := 12, slots := #[.ref 2, .ref 3, .ref 4], vm := .none },
  { cls := 6, slots := #[.null, .int 0, .int 0, .int 1, .int 0, .int 0], vm := .none },
  { cls := 6, slots := #[.null, .int 1, .int 0, .int 113, .int 0, .int 0], vm := .none },
  { cls := 6, slots := #[.null, .int 2, .int 0, .int 276, .int 0, .int 0], vm := .none }]
def classes : Array Class := #[k0, k1, k2, k3, k4, k5, k6, k7, k8, k9, k10, k11, k12]
def interned : List (Array UInt16 × Addr) := []
def slotsUsed : Nat := 26
def theMethod : MethodId := ⟨1, 2⟩
def args0 : Array Value := #[.int 2, .int 3]
def aboutOver (below : List Frame) : State where
  vm := { classes := classes, interned := interned.toArray }
  heap := heap
  slotsUsed := slotsUsed
  threads := #[{ frames := .invoking theMethod args0 :: below }]
def below0 : List Frame := [.native { method := ⟨0, 0⟩, args := #[] }]
def about1 : State := aboutOver below0
def p0 : Program := .bare "" "" ""
def e0 : Env := launch0.env 0 0 0
theorem w_frames : about1.frames = Frame.invoking theMethod args0 :: below0 := rfl
set_option maxRecDepth 65536 in
theorem w_args : argsFit about1.vm theMethod args0 = true := by decide +kernel
set_option maxRecDepth 65536 in
theorem w_heap : heapFits about1 = true := by decide +kernel
set_option maxRecDepth 65536 in
theorem w_runnable : about1.curStatus? = some .runnable := by decide +kernel
set_option maxRecDepth 65536 in
theorem w_alone : about1.alone = true := by decide +kernel
set_option maxRecDepth 65536 in
theorem w_named : about1.methodNamed? x = some theMethod := by decide +kernel
set_option maxRecDepth 65536 in
theorem w_hears : about1.hears theMethod below0 = true := by decide +kernel
set_option maxRecDepth 65536 in
theorem w_ripe : about1.ripe theMethod args0 below0 = true := by decide +kernel
theorem w_running : about1.status = .running := rfl
set_option maxRecDepth 65536 in
theorem w_room : about1.hasRoom e0.platform room_1 = true :=
  launch0.hasRoom_least _ room_1 (by decide +kernel) (by decide +kernel) (by decide +kernel) (by decide +kernel) (by decide +kernel) (by decide +kernel)
theorem allAtoms_all (ts : List Jvm.Cond) (a : Array Jvm.Value) (st : Jvm.State) : (allAtoms ts).before a st = ts.all (fun c => c.before a st) := by
  induction ts with
  | nil => rfl
  | cons c t ih =>
    show (Jvm.Cond.and c (allAtoms t)).before a st = _
    rw [Jvm.Cond.before_and, ih, List.all_cons]
def words1 : List Jvm.Cond := Jvm.Cond.code x code maxLocals ret :: tables_1
/-- a 'code' word, met by the world's own term for the bytes: nothing is compared byte by byte -/
theorem code_word {y : MethodName} {bytes : ByteArray} {mx : Nat} {rt : Option FieldType} {a : Array Value} {s : State} {m : MethodId} {meth : Method} {c : Code} (h1 : s.methodNamed? y = some m) (h2 : s.vm.method? m = some meth) (h3 : meth.code = some c) (h4 : c.code = bytes)
    (h5 : (c.maxLocals == mx && c.exceptionTable.isEmpty && decide (c.maxStack ≤ mostOperands) && decide (meth.sig.returnType = rt) && !meth.locks && decide (parseMethodDescriptor y.desc = some meth.sig)) = true) : (Jvm.Cond.code y bytes mx rt).before a s = true := by
  simp only [Bool.and_eq_true, beq_iff_eq, Bool.not_eq_true', decide_eq_true_eq] at h5
  obtain ⟨⟨⟨⟨⟨g1, g2⟩, g3⟩, g4⟩, g5⟩, g6⟩ := h5
  simp [Cond.before, Cond.holds, Cond.value, h1, h2, h3, h4, g1, g2, g3, g4, g5, g6]
def isCode : Jvm.Cond → Bool
  | .code _ _ _ _ => true
  | _ => false
theorem all_split {L : List Jvm.Cond} {P : Jvm.Cond → Bool} (h1 : L.all (fun c => isCode c || P c) = true) (h2 : ∀ c ∈ L.filter isCode, P c = true) : L.all P = true := by
  refine List.all_eq_true.mpr fun c hc => ?_
  have h := List.all_eq_true.mp h1 c hc
  rcases Bool.eq_false_or_eq_true (isCode c) with hi | hi
  · exact h2 c (List.mem_filter.mpr ⟨hc, hi⟩)
  · simpa [hi] using h
set_option maxRecDepth 65536 in
theorem w_c0 : (Jvm.Cond.code x code maxLocals ret).before args0 about1 = true := code_word (m := ⟨1, 2⟩) (meth := k1m2) (c := k1c2) (by decide +kernel) rfl rfl rfl (by decide +kernel)
set_option maxRecDepth 65536 in
theorem w_c1 : (Jvm.Cond.code ({ cls := "com/example/comera/comera/capture/LinkType", name := "of", desc := "(I)Lcom/example/comera/comera/capture/LinkType;" } : Jvm.MethodName) prog_9_method_4_code (6 : Nat) (Option.some (Jvm.ClassFile.FieldType.object "com/example/comera/comera/capture/LinkType"))).before args0 about1 = true := code_word (m := ⟨6, 0⟩) (meth := k6m0) (c := k6c0) (by decide +kernel) rfl rfl rfl (by decide +kernel)
set_option maxRecDepth 65536 in
theorem w_c2 : (Jvm.Cond.code ({ cls := "com/example/comera/comera/capture/LinkTypeOfPinLaw", name := "expected", desc := "(I)Lcom/example/comera/comera/capture/LinkType;" } : Jvm.MethodName) method_2_code (1 : Nat) (Option.some (Jvm.ClassFile.FieldType.object "com/example/comera/comera/capture/LinkType"))).before args0 about1 = true := code_word (m := ⟨1, 1⟩) (meth := k1m1) (c := k1c1) (by decide +kernel) rfl rfl rfl (by decide +kernel)
def codes1 : List Jvm.Cond := [Jvm.Cond.code x code maxLocals ret, Jvm.Cond.code ({ cls := "com/example/comera/comera/capture/LinkType", name := "of", desc := "(I)Lcom/example/comera/comera/capture/LinkType;" } : Jvm.MethodName) prog_9_method_4_code (6 : Nat) (Option.some (Jvm.ClassFile.FieldType.object "com/example/comera/comera/capture/LinkType")), Jvm.Cond.code ({ cls := "com/example/comera/comera/capture/LinkTypeOfPinLaw", name := "expected", desc := "(I)Lcom/example/comera/comera/capture/LinkType;" } : Jvm.MethodName) method_2_code (1 : Nat) (Option.some (Jvm.ClassFile.FieldType.object "com/example/comera/comera/capture/LinkType"))]
set_option maxRecDepth 65536 in
theorem codes_eq : words1.filter isCode = codes1 := rfl
theorem w_codes : ∀ c ∈ words1.filter isCode, c.before args0 about1 = true := by
  rw [codes_eq]
  intro c hc
  simp only [codes1, List.mem_cons, List.not_mem_nil, or_false] at hc
  rcases hc with rfl | rfl | rfl
  · exact w_c0
  · exact w_c1
  · exact w_c2
set_option maxRecDepth 65536 in
theorem w_t1 : words1.all (fun c => isCode c || c.before args0 about1) = true := by decide +kernel
theorem w_tables : (allAtoms (Jvm.Cond.code x code maxLocals ret :: tables_1)).before args0 about1 = true := by
  rw [allAtoms_all]
  show words1.all (fun c => c.before args0 about1) = true
  refine all_split ?_ w_codes
  rw [w_t1]
set_option maxRecDepth 65536 in
theorem w_case : (Jvm.Cond.and given_1 narrow_1).before args0 about1 = true := by decide +kernel
theorem w_applies : (headSpec (Jvm.Cond.code x code maxLocals ret :: tables_1) room_1).applies x e0.platform about1 = true :=
  (Spec.applies_iff w_frames).mpr ⟨w_running, w_runnable, w_alone, w_named, w_hears, w_ripe, w_room, w_tables⟩
theorem atStart : AtStart classFile x code maxLocals ret World_1 tables_1 room_1 Calls_1 rest_1 Pre_1 launch0 p0 e0 about1 theMethod args0 below0 :=
  ⟨lists_1, trivial, launch0.admits_env _ _ _, launch0.least_env, fairChoices_fair.cas, fairChoices_fair.clock, w_frames, w_args, w_heap, w_applies, trivial, trivial, w_case⟩
end start1
theorem witness_1 : WitnessClaimed_1 := ⟨start1.p0, start1.e0, start1.about1, start1.theMethod, start1.args0, start1.below0, start1.atStart⟩
end Jvm.Pilot.@@N@@
