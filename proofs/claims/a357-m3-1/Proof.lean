import JvmDerived
import JvmDerived.Pilot.@@N@@Statement
import JvmDerived.Pilot.@@N@@Code
set_option linter.unusedVariables false
set_option linter.unusedSimpArgs false
namespace Jvm.Pilot.@@N@@
open Jvm Jvm.ClassFile Sem Op Lib Jvm.Free Jvm.Stand Jvm.LawKit Jvm.RoadKit Bundle Jvm.Pilot.@@N@@.Jvm.D
section Own
variable {p : Program} {l : Launch} {e : Env} {R : Room} {s : State} {m : MethodId} {args : Array Value} {below : List Frame} {meth : Method} {c : Code} {T : State} {locs : List Loc} {cells slots : Nat} {Z : State} {h h' : Heap}
def Run (p : Program) (e : Env) (below : List Frame) (s : State) (C N : Nat) (Q : Option Value → Heap → List Loc → Prop) (S : State) : Prop :=
  ∃ s₂ o, Steps p.tables e below S s₂ ∧ s₂.status = .running ∧ Ended s₂ below o ∧ ∃ v L, o = .returned v ∧ Q v s₂.heap L ∧ FrameEnd s o s₂ L C N
variable {C N : Nat} {Q : Option Value → Heap → List Loc → Prop} {S S' : State}
theorem Run.go (k : ∀ t, Steps p.tables e below S' t → Steps p.tables e below S t) (r : Run p e below s C N Q S') : Run p e below s C N Q S := by
  obtain ⟨s₂, o, h1, r⟩ := r
  exact ⟨s₂, o, k _ h1, r⟩
theorem Run.tr (k : Steps p.tables e below S S') (r : Run p e below s C N Q S') : Run p e below s C N Q S := by
  obtain ⟨s₂, o, h1, r⟩ := r
  exact ⟨s₂, o, k.trans h1, r⟩
theorem Run.retI (X : Stand p l e R s m args below meth c T locs cells slots) (hx : p.tables.exec = Jvm.exec) {pc : Nat} {Ls : Array Slot} {z : Int32} {rest : List Value} (hret : meth.sig.returnType = some .int) (hlk : meth.locks = false) (hd : decode c.code pc = .ok (.ireturn, 1)) (hc : cells ≤ C) (hn : slots ≤ N)
    (hQ : Q (some (.int z)) T.heap locs) : Run p e below s C N Q (T.setTop (mkF m pc Ls (.int z :: rest))) := by
  obtain ⟨fs, hr, hrun, hended, hW, hsame⟩ := X.leave (v := some (.int z)) (fun q => by rw [hret] at q; cases q)
  refine ⟨_, _, ?_, hrun, hended, _, _, rfl, hQ, ⟨_, rfl⟩, hW, hsame.mono hc hn⟩
  have hm' : T.vm.method? m = some meth := X.method'
  have hn : narrow .int (.int z) = .int z := rfl
  show Steps p.tables e below (T.setTop { method := m, pc := pc, locals := Ls, stack := _ :: rest, locked := none }) _
  jvm_step X.here [X.here.top, hx, hd, hm', hret, hn]
  first | (intro acts; rw [hr _ acts rfl rfl rfl]) | rw [hr _ _ rfl rfl rfl]
  exact Steps.refl _
theorem Run.retN (X : Stand p l e R s m args below meth c T locs cells slots) (hx : p.tables.exec = Jvm.exec) {pc : Nat} {Ls : Array Slot} {z y : Int32} {t : FieldType} {rest : List Value} (hret : meth.sig.returnType = some t) (ht : t = .boolean ∨ t = .byte ∨ t = .char ∨ t = .short) (hy : nar t z = y) (hlk : meth.locks = false) (hd : decode c.code pc = .ok (.ireturn, 1)) (hc : cells ≤ C) (hn : slots ≤ N)
    (hQ : Q (some (.int y)) T.heap locs) : Run p e below s C N Q (T.setTop (mkF m pc Ls (.int z :: rest))) := by
  subst hy
  obtain ⟨fs, hr, hrun, hended, hW, hsame⟩ := X.leave (v := some (.int (nar t z))) (fun q => by rw [hret] at q; cases q)
  exact ⟨_, _, Jvm.RoadKit.retN X hx hret ht hd hr, hrun, hended, _, _, rfl, hQ, ⟨_, rfl⟩, hW, hsame.mono hc hn⟩
theorem Run.retJ (X : Stand p l e R s m args below meth c T locs cells slots) (hx : p.tables.exec = Jvm.exec) {pc : Nat} {Ls : Array Slot} {z : Int64} {rest : List Value} (hret : meth.sig.returnType = some .long) (hlk : meth.locks = false) (hd : decode c.code pc = .ok (.lreturn, 1)) (hc : cells ≤ C) (hn : slots ≤ N)
    (hQ : Q (some (.long z)) T.heap locs) : Run p e below s C N Q (T.setTop (mkF m pc Ls (.long z :: rest))) := by
  obtain ⟨fs, hr, hrun, hended, hW, hsame⟩ := X.leave (v := some (.long z)) (fun q => by rw [hret] at q; cases q)
  refine ⟨_, _, ?_, hrun, hended, _, _, rfl, hQ, ⟨_, rfl⟩, hW, hsame.mono hc hn⟩
  have hm' : T.vm.method? m = some meth := X.method'
  show Steps p.tables e below (T.setTop { method := m, pc := pc, locals := Ls, stack := _ :: rest, locked := none }) _
  jvm_step X.here [X.here.top, hx, hd, hm', hret, narrow]
  first | (intro acts; rw [hr _ acts rfl rfl rfl]) | rw [hr _ _ rfl rfl rfl]
  exact Steps.refl _
theorem Run.retA (X : Stand p l e R s m args below meth c T locs cells slots) (hx : p.tables.exec = Jvm.exec) {pc : Nat} {Ls : Array Slot} {w : Value} {t : FieldType} {rest : List Value} (hw : w.isRef = true) (hret : meth.sig.returnType = some t) (ht : t.isReference = true) (hlk : meth.locks = false) (hd : decode c.code pc = .ok (.areturn, 1)) (hc : cells ≤ C) (hn : slots ≤ N)
    (hQ : Q (some w) T.heap locs) : Run p e below s C N Q (T.setTop (mkF m pc Ls (w :: rest))) := by
  obtain ⟨fs, hr, hrun, hended, hW, hsame⟩ := X.leave (v := some w) (fun q => by rw [hret] at q; cases q)
  refine ⟨_, _, ?_, hrun, hended, _, _, rfl, hQ, ⟨_, rfl⟩, hW, hsame.mono hc hn⟩
  have hm' : T.vm.method? m = some meth := X.method'
  show Steps p.tables e below (T.setTop { method := m, pc := pc, locals := Ls, stack := _ :: rest, locked := none }) _
  rcases ref_cases hw with rfl | ⟨a, rfl⟩
  all_goals
    jvm_step X.here [X.here.top, hx, hd, hm', hret, Value.isRef, ht]
    first | (intro acts; rw [hr _ acts rfl rfl rfl]) | rw [hr _ _ rfl rfl rfl]
    exact Steps.refl _
theorem Run.ret0 (X : Stand p l e R s m args below meth c T locs cells slots) (hx : p.tables.exec = Jvm.exec) {pc : Nat} {Ls : Array Slot} (hret : meth.sig.returnType = none) (hlk : meth.locks = false) (hd : decode c.code pc = .ok (.return_, 1)) (hc : cells ≤ C) (hn : slots ≤ N)
    (hQ : Q none T.heap locs) : Run p e below s C N Q (T.setTop (mkF m pc Ls [])) := by
  obtain ⟨fs, hr, hrun, hended, hW, hsame⟩ := X.leave (v := none) (fun _ => rfl)
  exact ⟨_, _, X.returnOut hx hret hd hr, hrun, hended, _, _, rfl, hQ, ⟨_, rfl⟩, hW, hsame.mono hc hn⟩
theorem Stand_gen {k : Nat} (X : Stand p l e R s m args below meth c T locs cells slots) (F : Fr k locs) : ∃ L, Stand p l e R s m args below meth c T L cells slots ∧ Fr k L := ⟨_, X, F⟩
theorem Sta.keep {C n d : String} {w : Value} {ws : List Addr} (F : Sta Z h C n d w) (K : Keep h h' ws) (q : ∀ x ∈ ws, ∀ c : Cell, h[x]? = some c → c.vm.isStatics = false) : Sta Z h' C n d w := by
  obtain ⟨cf, i, k, f, st, cell, h1, h2, h3, h4, h5, h6, h7⟩ := F
  refine ⟨cf, i, k, f, st, cell, h1, h2, h3, h4, K.2.1 st cell h5 (fun hm => ?_), h6, h7⟩
  rw [q st hm cell h5] at h6; cases h6
theorem Exa.nst {a : Addr} {C : String} (F : Exa Z h a C) : ∀ c : Cell, h[a]? = some c → c.vm.isStatics = false := fun c q => by
  obtain ⟨cell, k, h1, -, -, h4, -⟩ := F
  cases h1.symm.trans q; exact h4
/-- an array of n elements, the i-th is f i -/
def Ary (Z : State) (h : Heap) (a : Addr) (ty : FieldType) (n : Nat) (f : Nat → Value) : Prop := ∃ c : Cell, Arr Z h a c ty ∧ c.slots.size = n ∧ ∀ i, i < n → c.slots[i]? = some (f i)
variable {a b : Addr} {ty : FieldType} {n sl : Nat} {f : Nat → Value} {v : Value} {ws : List Addr}
theorem Ary.lt (F : Ary Z h a ty n f) : a < h.size := by obtain ⟨c, A, -⟩ := F; exact A.lt
theorem Ary.ext (F : Ary Z h a ty n f) (E : Ext h h') : Ary Z h' a ty n f := by obtain ⟨c, A, r⟩ := F; exact ⟨c, A.ext E, r⟩
theorem Ary.other (F : Ary Z h b ty n f) (W : Wr h h' a sl v) (q : b ≠ a) : Ary Z h' b ty n f := by obtain ⟨c, A, r⟩ := F; exact ⟨c, A.other W q, r⟩
theorem Ary.keep (F : Ary Z h a ty n f) (K : Keep h h' ws) (q : a ∉ ws) : Ary Z h' a ty n f := by obtain ⟨c, A, r⟩ := F; exact ⟨c, ⟨K.2.1 a c A.1 q, A.2⟩, r⟩
theorem Ary.ne {C : String} {a0 : Array Value} {k : Nat} (F : Ary Z h a ty n f) (G : Exa Z h b C) (wi : (Jvm.Cond.instantiable C k).before a0 Z = true) : a ≠ b := by
  obtain ⟨c, A, r⟩ := F; exact (ne_arr G wi A).symm
theorem Ary.same (F : Ary Z h a ty n f) (W : Wr h h' a sl v) : Ary Z h' a ty n (fun i => if i = sl then v else f i) := by
  obtain ⟨c, A, hs, hf⟩ := F
  obtain ⟨c1, q1, q2, q3, q4⟩ := W
  obtain rfl := Option.some.inj (q1.symm.trans A.1)
  refine ⟨c1.setSlot sl v, A.same ⟨c1, q1, q2, q3, q4⟩, by simp [Cell.setSlot, hs], fun i hi => ?_⟩
  by_cases e : i = sl
  · subst e; simp [Cell.setSlot, q3]
  · simp only [if_neg e]; rw [← hf i hi]; exact Array.getElem?_setIfInBounds_ne (Ne.symm e)
theorem Ary.nst (F : Ary Z h a ty n f) : ∀ c : Cell, h[a]? = some c → c.vm.isStatics = false := fun c q => by
  obtain ⟨cl, A, -⟩ := F
  cases A.1.symm.trans q; exact A.plain
theorem Ary.congr {g : Nat → Value} (F : Ary Z h a ty n f) (q : ∀ i, i < n → f i = g i) : Ary Z h a ty n g := by
  obtain ⟨c, A, hs, hf⟩ := F; exact ⟨c, A, hs, fun i hi => by rw [hf i hi, q i hi]⟩
theorem Ary.new {k : ClassId} {z : Int32} (A : Arr Z h a (newA k ty z) ty) (q : z.toNatClampNeg = n) : Ary Z h a ty n (fun _ => defaultValue ty) := by
  subst q
  exact ⟨_, A, sz_new _ _ _, fun i hi => by simp [newA, hi]⟩
theorem out_of {j : Int32} {c : Cell} (hs : c.slots.size = n) (h0 : ¬ j < 0) (hj : j.toNatClampNeg < n) : ¬ (j < 0 ∨ c.slots.size ≤ j.toNatClampNeg) := by
  rw [hs]; exact fun q => q.elim h0 (fun q => absurd hj (Nat.not_lt.mpr q))
/-- an array of references: besides, its class is that of arrays over C -/
def ArR (Z : State) (h : Heap) (a : Addr) (C : String) (n : Nat) (f : Nat → Value) : Prop := ∃ c : Cell, Arr Z h a c (.object C) ∧ Ovr Z c.cls C ∧ c.slots.size = n ∧ ∀ i, i < n → c.slots[i]? = some (f i)
variable {K : String}
theorem ArR.lt (F : ArR Z h a K n f) : a < h.size := by obtain ⟨c, A, -⟩ := F; exact A.lt
theorem ArR.ext (F : ArR Z h a K n f) (E : Ext h h') : ArR Z h' a K n f := by obtain ⟨c, A, r⟩ := F; exact ⟨c, A.ext E, r⟩
theorem ArR.other (F : ArR Z h b K n f) (W : Wr h h' a sl v) (q : b ≠ a) : ArR Z h' b K n f := by obtain ⟨c, A, r⟩ := F; exact ⟨c, A.other W q, r⟩
theorem ArR.keep (F : ArR Z h a K n f) (k : Keep h h' ws) (q : a ∉ ws) : ArR Z h' a K n f := by obtain ⟨c, A, r⟩ := F; exact ⟨c, ⟨k.2.1 a c A.1 q, A.2⟩, r⟩
theorem ArR.ary (F : ArR Z h a K n f) : Ary Z h a (.object K) n f := by obtain ⟨c, A, -, r⟩ := F; exact ⟨c, A, r⟩
theorem ArR.same (F : ArR Z h a K n f) (W : Wr h h' a sl v) : ArR Z h' a K n (fun i => if i = sl then v else f i) := by
  obtain ⟨c, A, o, hs, hf⟩ := F
  obtain ⟨c1, q1, q2, q3, q4⟩ := W
  obtain rfl := Option.some.inj (q1.symm.trans A.1)
  refine ⟨c1.setSlot sl v, A.same ⟨c1, q1, q2, q3, q4⟩, o, by simp [Cell.setSlot, hs], fun i hi => ?_⟩
  by_cases e : i = sl
  · subst e; simp [Cell.setSlot, q3]
  · simp only [if_neg e]; rw [← hf i hi]; exact Array.getElem?_setIfInBounds_ne (Ne.symm e)
theorem ArR.new {k : ClassId} {z : Int32} (A : Arr Z h a (newA k (.object K) z) (.object K)) (O : Ovr Z k K) (q : z.toNatClampNeg = n) : ArR Z h a K n (fun _ => .null) := by
  subst q
  exact ⟨_, A, O, sz_new _ _ _, fun i hi => by simp [newA, hi]; rfl⟩
section Arrays
theorem ary_iget (X : Stand p l e R s m args below meth c T locs cells slots) (hx : p.tables.exec = Jvm.exec) (hZ : Z.Warmed39 s.vm) (eT : T.heap = h) (A : Ary Z h a .int n f) {j : Int32} (h0 : ¬ j < 0) (hj : j.toNatClampNeg < n) {g : JFrame} (hg : g.method = m) {rest : List Value} (hs : g.stack = .int j :: .ref a :: rest) (hd : decode c.code g.pc = .ok (.iaload, 1)) {v : Value} (hv : f j.toNatClampNeg = v) (target : State)
    (k : Steps p.tables e below (T.setTop { g with pc := g.pc + 1, stack := v :: rest }) target) : Steps p.tables e below (T.setTop g) target := by
  subst hv; obtain ⟨cl, A, q, F⟩ := A
  exact X.iaload hx (by rw [eT]; exact A.1) (State.isArrayOf_alike hZ.alike A.2.1) A.2.2 (out_of q h0 hj) (F _ hj) hg hs hd target k
theorem ary_lget (X : Stand p l e R s m args below meth c T locs cells slots) (hx : p.tables.exec = Jvm.exec) (hZ : Z.Warmed39 s.vm) (eT : T.heap = h) (A : Ary Z h a .long n f) {j : Int32} (h0 : ¬ j < 0) (hj : j.toNatClampNeg < n) {g : JFrame} (hg : g.method = m) {rest : List Value} (hs : g.stack = .int j :: .ref a :: rest) (hd : decode c.code g.pc = .ok (.laload, 1)) {v : Value} (hv : f j.toNatClampNeg = v) (target : State)
    (k : Steps p.tables e below (T.setTop { g with pc := g.pc + 1, stack := v :: rest }) target) : Steps p.tables e below (T.setTop g) target := by
  subst hv; obtain ⟨cl, A, q, F⟩ := A
  exact X.laload hx (by rw [eT]; exact A.1) (State.isArrayOf_alike hZ.alike A.2.1) A.2.2 (out_of q h0 hj) (F _ hj) hg hs hd target k
theorem ary_bget (X : Stand p l e R s m args below meth c T locs cells slots) (hx : p.tables.exec = Jvm.exec) (hZ : Z.Warmed39 s.vm) (eT : T.heap = h) (A : Ary Z h a .byte n f) {j : Int32} (h0 : ¬ j < 0) (hj : j.toNatClampNeg < n) {g : JFrame} (hg : g.method = m) {rest : List Value} (hs : g.stack = .int j :: .ref a :: rest) (hd : decode c.code g.pc = .ok (.baload, 1)) {v : Value} (hv : f j.toNatClampNeg = v) (target : State)
    (k : Steps p.tables e below (T.setTop { g with pc := g.pc + 1, stack := v :: rest }) target) : Steps p.tables e below (T.setTop g) target := by
  subst hv; obtain ⟨cl, A, q, F⟩ := A
  exact X.baloadBytes hx (by rw [eT]; exact A.1) (State.isArrayOf_alike hZ.alike A.2.1) A.2.2 (out_of q h0 hj) (F _ hj) hg hs hd target k
theorem ary_cget (X : Stand p l e R s m args below meth c T locs cells slots) (hx : p.tables.exec = Jvm.exec) (hZ : Z.Warmed39 s.vm) (eT : T.heap = h) (A : Ary Z h a .char n f) {j : Int32} (h0 : ¬ j < 0) (hj : j.toNatClampNeg < n) {g : JFrame} (hg : g.method = m) {rest : List Value} (hs : g.stack = .int j :: .ref a :: rest) (hd : decode c.code g.pc = .ok (.caload, 1)) {v : Value} (hv : f j.toNatClampNeg = v) (target : State)
    (k : Steps p.tables e below (T.setTop { g with pc := g.pc + 1, stack := v :: rest }) target) : Steps p.tables e below (T.setTop g) target := by
  subst hv; obtain ⟨cl, A, q, F⟩ := A
  exact X.caload hx (by rw [eT]; exact A.1) (State.isArrayOf_alike hZ.alike A.2.1) A.2.2 (out_of q h0 hj) (F _ hj) hg hs hd target k
theorem ary_aget (X : Stand p l e R s m args below meth c T locs cells slots) (hx : p.tables.exec = Jvm.exec) (hZ : Z.Warmed39 s.vm) (eT : T.heap = h) (A : Ary Z h a ty n f) (hr : ty.isReference = true) {j : Int32} (h0 : ¬ j < 0) (hj : j.toNatClampNeg < n) {g : JFrame} (hg : g.method = m) {rest : List Value} (hs : g.stack = .int j :: .ref a :: rest) (hd : decode c.code g.pc = .ok (.aaload, 1)) {v : Value} (hv : f j.toNatClampNeg = v) (target : State)
    (k : Steps p.tables e below (T.setTop { g with pc := g.pc + 1, stack := v :: rest }) target) : Steps p.tables e below (T.setTop g) target := by
  subst hv; obtain ⟨cl, A, q, F⟩ := A
  exact X.aaload hx (by rw [eT]; exact A.1) (State.isArrayOf_alike hZ.alike A.2.1) hr A.2.2 (out_of q h0 hj) (F _ hj) hg hs hd target k
theorem ary_len (X : Stand p l e R s m args below meth c T locs cells slots) (hx : p.tables.exec = Jvm.exec) (hZ : Z.Warmed39 s.vm) (eT : T.heap = h) (A : Ary Z h a ty n f) {g : JFrame} (hg : g.method = m) {rest : List Value} (hs : g.stack = .ref a :: rest) (hd : decode c.code g.pc = .ok (.arraylength, 1)) {z : Int32} (hv : n.toInt32 = z) (target : State)
    (k : Steps p.tables e below (T.setTop { g with pc := g.pc + 1, stack := .int z :: rest }) target) : Steps p.tables e below (T.setTop g) target := by
  subst hv; obtain ⟨cl, A, q, F⟩ := A
  subst q
  exact X.arraylength hx (by rw [eT]; exact A.1) (State.isArrayOf_alike hZ.alike A.2.1) hg hs hd target k
theorem ary_iset (X : Stand p l e R s m args below meth c T locs cells slots) (hx : p.tables.exec = Jvm.exec) (hZ : Z.Warmed39 s.vm) (eT : T.heap = h) (A : Ary Z h a .int n f) {j x : Int32} (h0 : ¬ j < 0) (hj : j.toNatClampNeg < n) {g : JFrame} (hg : g.method = m) {rest : List Value} (hs : g.stack = .int x :: .int j :: .ref a :: rest) (hd : decode c.code g.pc = .ok (.iastore, 1)) :
    ∃ T' h', Stand p l e R s m args below meth c T' (locs ++ [⟨a, j.toNatClampNeg⟩]) cells slots ∧ T'.heap = h' ∧ Wr h h' a j.toNatClampNeg (.int x) ∧ ∀ target, Steps p.tables e below (T'.setTop { g with pc := g.pc + 1, stack := rest }) target → Steps p.tables e below (T.setTop g) target := by
  obtain ⟨cl, A, q, F⟩ := A
  exact stI X hx hZ eT A (out_of q h0 hj) hg hs hd
theorem ary_lset (X : Stand p l e R s m args below meth c T locs cells slots) (hx : p.tables.exec = Jvm.exec) (hZ : Z.Warmed39 s.vm) (eT : T.heap = h) (A : Ary Z h a .long n f) {j : Int32} {x : Int64} (h0 : ¬ j < 0) (hj : j.toNatClampNeg < n) {g : JFrame} (hg : g.method = m) {rest : List Value} (hs : g.stack = .long x :: .int j :: .ref a :: rest) (hd : decode c.code g.pc = .ok (.lastore, 1)) :
    ∃ T' h', Stand p l e R s m args below meth c T' (locs ++ [⟨a, j.toNatClampNeg⟩]) cells slots ∧ T'.heap = h' ∧ Wr h h' a j.toNatClampNeg (.long x) ∧ ∀ target, Steps p.tables e below (T'.setTop { g with pc := g.pc + 1, stack := rest }) target → Steps p.tables e below (T.setTop g) target := by
  obtain ⟨cl, A, q, F⟩ := A
  exact stJ X hx hZ eT A (out_of q h0 hj) hg hs hd
theorem ary_bset (X : Stand p l e R s m args below meth c T locs cells slots) (hx : p.tables.exec = Jvm.exec) (hZ : Z.Warmed39 s.vm) (eT : T.heap = h) (A : Ary Z h a .byte n f) {j x y : Int32} (h0 : ¬ j < 0) (hj : j.toNatClampNeg < n) {g : JFrame} (hg : g.method = m) {rest : List Value} (hs : g.stack = .int x :: .int j :: .ref a :: rest) (hd : decode c.code g.pc = .ok (.bastore, 1)) (hy : x.toInt8.toInt32 = y) :
    ∃ T' h', Stand p l e R s m args below meth c T' (locs ++ [⟨a, j.toNatClampNeg⟩]) cells slots ∧ T'.heap = h' ∧ Wr h h' a j.toNatClampNeg (.int y) ∧ ∀ target, Steps p.tables e below (T'.setTop { g with pc := g.pc + 1, stack := rest }) target → Steps p.tables e below (T.setTop g) target := by
  subst hy; obtain ⟨cl, A, q, F⟩ := A
  exact stB X hx hZ eT A (out_of q h0 hj) hg hs hd
theorem ary_cset (X : Stand p l e R s m args below meth c T locs cells slots) (hx : p.tables.exec = Jvm.exec) (hZ : Z.Warmed39 s.vm) (eT : T.heap = h) (A : Ary Z h a .char n f) {j x y : Int32} (h0 : ¬ j < 0) (hj : j.toNatClampNeg < n) {g : JFrame} (hg : g.method = m) {rest : List Value} (hs : g.stack = .int x :: .int j :: .ref a :: rest) (hd : decode c.code g.pc = .ok (.castore, 1)) (hy : nar .char x = y) :
    ∃ T' h', Stand p l e R s m args below meth c T' (locs ++ [⟨a, j.toNatClampNeg⟩]) cells slots ∧ T'.heap = h' ∧ Wr h h' a j.toNatClampNeg (.int y) ∧ ∀ target, Steps p.tables e below (T'.setTop { g with pc := g.pc + 1, stack := rest }) target → Steps p.tables e below (T.setTop g) target := by
  subst hy; obtain ⟨cl, A, q, F⟩ := A
  exact stC X hx hZ eT A (out_of q h0 hj) hg hs hd
theorem arr_set (X : Stand p l e R s m args below meth c T locs cells slots) (hx : p.tables.exec = Jvm.exec) (hZ : Z.Warmed39 s.vm) (eT : T.heap = h) (A : ArR Z h a K n f) {j : Int32} {y : Addr} (I : Ins Z h y K true) (h0 : ¬ j < 0) (hj : j.toNatClampNeg < n) {g : JFrame} (hg : g.method = m) {rest : List Value} (hs : g.stack = .ref y :: .int j :: .ref a :: rest) (hd : decode c.code g.pc = .ok (.aastore, 1)) :
    ∃ T' h', Stand p l e R s m args below meth c T' (locs ++ [⟨a, j.toNatClampNeg⟩]) cells slots ∧ T'.heap = h' ∧ Wr h h' a j.toNatClampNeg (.ref y) ∧ ∀ target, Steps p.tables e below (T'.setTop { g with pc := g.pc + 1, stack := rest }) target → Steps p.tables e below (T.setTop g) target := by
  obtain ⟨cl, A, O, q, F⟩ := A
  exact stR X hx hZ eT A (out_of q h0 hj) rfl (Sto.of A O I) hg hs hd
end Arrays
theorem nar_ite (P : Prop) [Decidable P] : nar .boolean (if P then (1 : Int32) else 0) = if P then 1 else 0 := by by_cases q : P <;> simp [q] <;> rfl
theorem cat_ref {w : Value} (q : w.isRef = true) : w.category = 1 := by cases w <;> first | rfl | (simp [Value.isRef] at q)
theorem upd_hit {g f : Nat → Value} {k : Nat} {w : Value} (q : g = fun i => if i = k then w else f i) : g k = w := by rw [q]; exact if_pos rfl
theorem upd_miss {g f : Nat → Value} {k j : Nat} {w u : Value} (q : g = fun i => if i = k then w else f i) (ne : ¬ j = k) (r : f j = u) : g j = u := by rw [q]; exact (if_neg ne).trans r
theorem upd_c {g : Nat → Value} {j : Nat} {w : Value} (q : g = fun _ => w) : g j = w := by rw [q]
theorem b_idem (x : Int32) : x.toInt8.toInt32.toInt8.toInt32 = x.toInt8.toInt32 := by rw [Int8.toInt8_toInt32]
theorem isI_c (x : Int32) : ∀ n : Nat, ∃ y, (fun _ => Value.int x) n = Value.int y := fun _ => ⟨x, rfl⟩
theorem isI_s {f : Nat → Value} (q : ∀ n, ∃ y, f n = Value.int y) (k : Nat) (x : Int32) : ∀ n, ∃ y, (fun i => if i = k then Value.int x else f i) n = Value.int y := fun n => by
  by_cases e : n = k
  · exact ⟨x, if_pos e⟩
  · obtain ⟨y, hy⟩ := q n
    exact ⟨y, (if_neg e).trans hy⟩
end Own
theorem d3_0 : decode jdk_37_method_2_code 0 = .ok (.aload_n 0, 1) := by decide +kernel
theorem d3_1 : decode jdk_37_method_2_code 1 = .ok (.getfield 7, 3) := by decide +kernel
theorem d3_4 : decode jdk_37_method_2_code 4 = .ok (.ireturn, 1) := by decide +kernel
def Q_rm3 (Z : State) (a1 : Addr) (w2 : Int32) (h0 : Heap) (n0 : Nat) (v : Option Value) (h : Heap) (L : List Loc) : Prop := v = some (.int w2) ∧ Fr n0 L ∧ h = h0
theorem ef_rm3 (m : MethodId) (x0 : Addr) : entryFrame m #[(.ref x0)] 1 = mkF m 0 #[.val (.ref x0)] [] := by first | (simp [entryFrame, mkF, argsToLocals, Value.category]; done) | rfl
theorem pn_0 : plainName "java/lang/Enum" = true := by first | (simp [plainName, overriddenIn]; done) | decide +kernel
set_option maxRecDepth 65536 in
set_option maxHeartbeats 40000000 in
theorem rm3 (l : Launch) (Z : State) (a0 : Array Value) (hw : ∀ d ∈ tables_1, d.before a0 Z = true) (ws : List Jvm.Cond) (a1 : Addr) (w2 : Int32) (h0 : Heap) (n0 : Nat) (Z0 : n0 ≤ h0.size) (F_ordinal_a1 : Fld Z h0 a1 "java/lang/Enum" "ordinal" "I" (.int w2)) :
    MetFree l (⟨"java/lang/Enum", "ordinal", "()I"⟩ : MethodName) (head1 (Jvm.Cond.code (⟨"java/lang/Enum", "ordinal", "()I"⟩ : MethodName) jdk_37_method_2_code 1 (some .int) :: ws) ({ frames := 0, cells := 0, slots := 0, locals := 0 } : Room)) (fun a U => a = #[(.ref a1)] ∧ Z.Warmed39 U.vm ∧ U.heap = h0) (fun _ _ _ _ _ => True) (fun _ U o U' => ∃ v L, o = .returned v ∧ Q_rm3 Z a1 w2 h0 n0 v U'.heap L ∧ FrameEnd U o U' L ({ frames := 0, cells := 0, slots := 0, locals := 0 } : Room).cells ({ frames := 0, cells := 0, slots := 0, locals := 0 } : Room).slots) := by
  refine MetFree.of_bodySF (plainFor_of_name pn_0) hisR ?_
  intro p e s m args below meth c s₁ Bd hml0 hP hK
  obtain ⟨rfl, hZ, hh⟩ := hP
  have hx := Bd.exec
  have hby := Bd.bytes
  have hml : c.maxLocals = 1 := hml0
  have hown : s.vm.findClass "java/lang/Enum" = some m.cls := findClass_of_methodNamed Bd.named
  have hnm := (name_of_methodNamed Bd.named Bd.method).1
  have X0 : Stand p l e ({ frames := 0, cells := 0, slots := 0, locals := 0 } : Room) s m #[(.ref a1)] below meth c s₁ [] 0 0 := Stand.of_body Bd
  have e0 : s₁.heap = h0 := by rw [← hh, Bd.state]; rfl
  have N0 := Fr.nil n0
  show Run p e below s 0 0 (Q_rm3 Z a1 w2 h0 n0) (s₁.setTop (entryFrame m #[(.ref a1)] 1))
  refine Run.go (fun _ k => castTop (ef_rm3 m a1) k) ?_
  show Run p e below s 0 0 (Q_rm3 Z a1 w2 h0 n0) (s₁.setTop (mkF m 0 #[.val (.ref a1)] []))
  refine Run.go (fun _ k => XS.aloadN X0.here hx rfl (hb hby d3_0) rfl rfl k) ?_
  show Run p e below s 0 0 (Q_rm3 Z a1 w2 h0 n0) (s₁.setTop (mkF m 1 #[.val (.ref a1)] [(.ref a1)]))
  obtain ⟨T3, X3, e3, st3⟩ := getF X0 hx hZ hown (host := "") (Or.inl (hw _ (List.mem_of_getElem? (i := 20) rfl))) Via.refl e0 F_ordinal_a1 (g := (mkF m 1 #[.val (.ref a1)] [(.ref a1)])) rfl rfl (hb hby d3_1)
  refine Run.go st3 ?_
  show Run p e below s 0 0 (Q_rm3 Z a1 w2 h0 n0) (T3.setTop (mkF m 4 #[.val (.ref a1)] [(.int w2)]))
  refine Run.retI X3 hx Bd.returns Bd.notSynchronized (hb hby d3_4) (by decide) (by decide) ?_
  show Q_rm3 Z a1 w2 h0 n0 _ T3.heap _
  exact ⟨rfl, N0, e3⟩
theorem d1_0 : decode method_2_code 0 = .ok (.iload_n 0, 1) := by decide +kernel
theorem d1_1 : decode method_2_code 1 = .ok (.ldc 7, 2) := by decide +kernel
theorem d1_3 : decode method_2_code 3 = .ok (.iand, 1) := by decide +kernel
theorem d1_4 : decode method_2_code 4 = .ok (.bipush 6, 2) := by decide +kernel
theorem d1_6 : decode method_2_code 6 = .ok (.irem, 1) := by decide +kernel
theorem d1_7 : decode method_2_code 7 = .ok (.istore_n 1, 1) := by decide +kernel
theorem d1_8 : decode method_2_code 8 = .ok (.iload_n 1, 1) := by decide +kernel
theorem d1_9 : decode method_2_code 9 = .ok (.ifCond .ne 7, 3) := by decide +kernel
theorem d1_12 : decode method_2_code 12 = .ok (.getstatic 8, 3) := by decide +kernel
theorem d1_15 : decode method_2_code 15 = .ok (.areturn, 1) := by decide +kernel
def Q_rm1_0 (Z : State) (p1 : Int32) (vEQUAL : Addr) (vNOT_EQUAL : Addr) (vLESS : Addr) (vLESS_OR_EQUAL : Addr) (vGREATER : Addr) (vGREATER_OR_EQUAL : Addr) (h0 : Heap) (n0 : Nat) (v : Option Value) (h : Heap) (L : List Loc) : Prop := v = some (.ref vEQUAL) ∧ Fr n0 L ∧ h = h0
theorem ef_rm1_0 (m : MethodId) (x0 : Int32) : entryFrame m #[(.int x0)] 2 = mkF m 0 #[.val (.int x0), .unset] [] := by first | (simp [entryFrame, mkF, argsToLocals, Value.category]; done) | rfl
theorem pn_1 : plainName "com/example/exact_table/exacttable/ComparatorFlippedPinLaw" = true := by first | (simp [plainName, overriddenIn]; done) | decide +kernel
set_option maxRecDepth 65536 in
set_option maxHeartbeats 40000000 in
theorem rm1_0 (l : Launch) (Z : State) (a0 : Array Value) (hw : ∀ d ∈ tables_1, d.before a0 Z = true) (ws : List Jvm.Cond) (p1 : Int32) (vEQUAL : Addr) (vNOT_EQUAL : Addr) (vLESS : Addr) (vLESS_OR_EQUAL : Addr) (vGREATER : Addr) (vGREATER_OR_EQUAL : Addr) (h0 : Heap) (n0 : Nat) (Z0 : n0 ≤ h0.size) (S_Condition_Comparator_EQUAL : Sta Z h0 "com/example/exact_table/exacttable/Condition$Comparator" "EQUAL" "Lcom/example/exact_table/exacttable/Condition$Comparator;" (.ref vEQUAL)) (S_Condition_Comparator_NOT_EQUAL : Sta Z h0 "com/example/exact_table/exacttable/Condition$Comparator" "NOT_EQUAL" "Lcom/example/exact_table/exacttable/Condition$Comparator;" (.ref vNOT_EQUAL)) (S_Condition_Comparator_LESS : Sta Z h0 "com/example/exact_table/exacttable/Condition$Comparator" "LESS" "Lcom/example/exact_table/exacttable/Condition$Comparator;" (.ref vLESS)) (S_Condition_Comparator_LESS_OR_EQUAL : Sta Z h0 "com/example/exact_table/exacttable/Condition$Comparator" "LESS_OR_EQUAL" "Lcom/example/exact_table/exacttable/Condition$Comparator;" (.ref vLESS_OR_EQUAL)) (S_Condition_Comparator_GREATER : Sta Z h0 "com/example/exact_table/exacttable/Condition$Comparator" "GREATER" "Lcom/example/exact_table/exacttable/Condition$Comparator;" (.ref vGREATER)) (S_Condition_Comparator_GREATER_OR_EQUAL : Sta Z h0 "com/example/exact_table/exacttable/Condition$Comparator" "GREATER_OR_EQUAL" "Lcom/example/exact_table/exacttable/Condition$Comparator;" (.ref vGREATER_OR_EQUAL)) (hk : ((p1 &&& (2147483647 : Int32)) % (6 : Int32)) = (0 : Int32)) :
    MetFree l (⟨"com/example/exact_table/exacttable/ComparatorFlippedPinLaw", "pick", "(I)Lcom/example/exact_table/exacttable/Condition$Comparator;"⟩ : MethodName) (head1 (Jvm.Cond.code (⟨"com/example/exact_table/exacttable/ComparatorFlippedPinLaw", "pick", "(I)Lcom/example/exact_table/exacttable/Condition$Comparator;"⟩ : MethodName) method_2_code 2 (some (.object "com/example/exact_table/exacttable/Condition$Comparator")) :: ws) ({ frames := 0, cells := 0, slots := 0, locals := 0 } : Room)) (fun a U => a = #[(.int p1)] ∧ Z.Warmed39 U.vm ∧ U.heap = h0) (fun _ _ _ _ _ => True) (fun _ U o U' => ∃ v L, o = .returned v ∧ Q_rm1_0 Z p1 vEQUAL vNOT_EQUAL vLESS vLESS_OR_EQUAL vGREATER vGREATER_OR_EQUAL h0 n0 v U'.heap L ∧ FrameEnd U o U' L ({ frames := 0, cells := 0, slots := 0, locals := 0 } : Room).cells ({ frames := 0, cells := 0, slots := 0, locals := 0 } : Room).slots) := by
  refine MetFree.of_bodySF (plainFor_of_name pn_1) hisR ?_
  intro p e s m args below meth c s₁ Bd hml0 hP hK
  obtain ⟨rfl, hZ, hh⟩ := hP
  have hx := Bd.exec
  have hby := Bd.bytes
  have hml : c.maxLocals = 2 := hml0
  have hown : s.vm.findClass "com/example/exact_table/exacttable/ComparatorFlippedPinLaw" = some m.cls := findClass_of_methodNamed Bd.named
  have hnm := (name_of_methodNamed Bd.named Bd.method).1
  have X0 : Stand p l e ({ frames := 0, cells := 0, slots := 0, locals := 0 } : Room) s m #[(.int p1)] below meth c s₁ [] 0 0 := Stand.of_body Bd
  have e0 : s₁.heap = h0 := by rw [← hh, Bd.state]; rfl
  have N0 := Fr.nil n0
  show Run p e below s 0 0 (Q_rm1_0 Z p1 vEQUAL vNOT_EQUAL vLESS vLESS_OR_EQUAL vGREATER vGREATER_OR_EQUAL h0 n0) (s₁.setTop (entryFrame m #[(.int p1)] 2))
  refine Run.go (fun _ k => castTop (ef_rm1_0 m p1) k) ?_
  show Run p e below s 0 0 (Q_rm1_0 Z p1 vEQUAL vNOT_EQUAL vLESS vLESS_OR_EQUAL vGREATER vGREATER_OR_EQUAL h0 n0) (s₁.setTop (mkF m 0 #[.val (.int p1), .unset] []))
  refine Run.go (fun _ k => XS.iloadN X0.here hx rfl (hb hby d1_0) rfl  k) ?_
  show Run p e below s 0 0 (Q_rm1_0 Z p1 vEQUAL vNOT_EQUAL vLESS vLESS_OR_EQUAL vGREATER vGREATER_OR_EQUAL h0 n0) (s₁.setTop (mkF m 1 #[.val (.int p1), .unset] [(.int p1)]))
  refine Run.go (fun _ k => X0.ldcInt hx hown (mvT hZ (hw _ (List.mem_of_getElem? (i := 4) rfl))) (g := (mkF m 1 #[.val (.int p1), .unset] [(.int p1)])) rfl (hb hby d1_1) _ k) ?_
  show Run p e below s 0 0 (Q_rm1_0 Z p1 vEQUAL vNOT_EQUAL vLESS vLESS_OR_EQUAL vGREATER vGREATER_OR_EQUAL h0 n0) (s₁.setTop (mkF m 3 #[.val (.int p1), .unset] [(.int (2147483647 : Int32)), (.int p1)]))
  refine Run.go (fun _ k => XS.iand X0.here hx rfl (hb hby d1_3) rfl k) ?_
  show Run p e below s 0 0 (Q_rm1_0 Z p1 vEQUAL vNOT_EQUAL vLESS vLESS_OR_EQUAL vGREATER vGREATER_OR_EQUAL h0 n0) (s₁.setTop (mkF m 4 #[.val (.int p1), .unset] [(.int (p1 &&& (2147483647 : Int32)))]))
  refine Run.go (fun _ k => XS.bipush X0.here hx rfl (hb hby d1_4) k) ?_
  show Run p e below s 0 0 (Q_rm1_0 Z p1 vEQUAL vNOT_EQUAL vLESS vLESS_OR_EQUAL vGREATER vGREATER_OR_EQUAL h0 n0) (s₁.setTop (mkF m 6 #[.val (.int p1), .unset] [(.int (6 : Int32)), (.int (p1 &&& (2147483647 : Int32)))]))
  refine Run.go (fun _ k => iremM X0 hx rfl (hb hby d1_6) rfl (by decide) k) ?_
  show Run p e below s 0 0 (Q_rm1_0 Z p1 vEQUAL vNOT_EQUAL vLESS vLESS_OR_EQUAL vGREATER vGREATER_OR_EQUAL h0 n0) (s₁.setTop (mkF m 7 #[.val (.int p1), .unset] [(.int ((p1 &&& (2147483647 : Int32)) % (6 : Int32)))]))
  refine Run.go (fun _ k => XS.istoreN X0.here hx rfl (hb hby d1_7) rfl (l' := #[.val (.int p1), .val (.int ((p1 &&& (2147483647 : Int32)) % (6 : Int32)))]) rfl k) ?_
  show Run p e below s 0 0 (Q_rm1_0 Z p1 vEQUAL vNOT_EQUAL vLESS vLESS_OR_EQUAL vGREATER vGREATER_OR_EQUAL h0 n0) (s₁.setTop (mkF m 8 #[.val (.int p1), .val (.int ((p1 &&& (2147483647 : Int32)) % (6 : Int32)))] []))
  rw [hk]
  show Run p e below s 0 0 (Q_rm1_0 Z p1 vEQUAL vNOT_EQUAL vLESS vLESS_OR_EQUAL vGREATER vGREATER_OR_EQUAL h0 n0) (s₁.setTop (mkF m 8 #[.val (.int p1), .val (.int (0 : Int32))] []))
  refine Run.go (fun _ k => XS.iloadN X0.here hx rfl (hb hby d1_8) rfl  k) ?_
  show Run p e below s 0 0 (Q_rm1_0 Z p1 vEQUAL vNOT_EQUAL vLESS vLESS_OR_EQUAL vGREATER vGREATER_OR_EQUAL h0 n0) (s₁.setTop (mkF m 9 #[.val (.int p1), .val (.int (0 : Int32))] [(.int (0 : Int32))]))
  refine Run.go (fun _ k => XS.ifNo X0.here hx rfl (hb hby d1_9) rfl ((if0 _ _).trans (teq (rfl : (0 : Int32) = (0 : Int32))).2) k) ?_
  show Run p e below s 0 0 (Q_rm1_0 Z p1 vEQUAL vNOT_EQUAL vLESS vLESS_OR_EQUAL vGREATER vGREATER_OR_EQUAL h0 n0) (s₁.setTop (mkF m 12 #[.val (.int p1), .val (.int (0 : Int32))] []))
  obtain ⟨T2, X2, e2, st2⟩ := getS2 X0 hx hZ hown (host := "") (Or.inl (hw _ (List.mem_of_getElem? (i := 5) rfl))) Via.refl e0 S_Condition_Comparator_EQUAL (g := (mkF m 12 #[.val (.int p1), .val (.int (0 : Int32))] [])) rfl (hb hby d1_12)
  refine Run.go st2 ?_
  show Run p e below s 0 0 (Q_rm1_0 Z p1 vEQUAL vNOT_EQUAL vLESS vLESS_OR_EQUAL vGREATER vGREATER_OR_EQUAL h0 n0) (T2.setTop (mkF m 15 #[.val (.int p1), .val (.int (0 : Int32))] [(.ref vEQUAL)]))
  refine Run.retA X2 hx rfl Bd.returns rfl Bd.notSynchronized (hb hby d1_15) (by decide) (by decide) ?_
  show Q_rm1_0 Z p1 vEQUAL vNOT_EQUAL vLESS vLESS_OR_EQUAL vGREATER vGREATER_OR_EQUAL h0 n0 _ T2.heap _
  exact ⟨rfl, N0, e2⟩
theorem d2_0 : decode prog_20_method_6_code 0 = .ok (.aload_n 0, 1) := by decide +kernel
theorem d2_1 : decode prog_20_method_6_code 1 = .ok (.invokevirtual 75, 3) := by decide +kernel
theorem pd_0 : parseMethodDescriptor "()I" = some ⟨[], some .int⟩ := by decide +kernel
theorem d2_4 : decode prog_20_method_6_code 4 = .ok (.tableswitch 56 2 5 #[32, 38, 44, 50], 32) := by decide +kernel
theorem d2_60 : decode prog_20_method_6_code 60 = .ok (.aload_n 0, 1) := by decide +kernel
theorem d2_61 : decode prog_20_method_6_code 61 = .ok (.areturn, 1) := by decide +kernel
def Q_rm2_0 (Z : State) (vEQUAL : Addr) (vNOT_EQUAL : Addr) (vLESS : Addr) (vLESS_OR_EQUAL : Addr) (vGREATER : Addr) (vGREATER_OR_EQUAL : Addr) (h0 : Heap) (n0 : Nat) (v : Option Value) (h : Heap) (L : List Loc) : Prop := v = some (.ref vEQUAL) ∧ Fr n0 L ∧ h = h0
theorem ef_rm2_0 (m : MethodId) (x0 : Addr) : entryFrame m #[(.ref x0)] 1 = mkF m 0 #[.val (.ref x0)] [] := by first | (simp [entryFrame, mkF, argsToLocals, Value.category]; done) | rfl
theorem pn_2 : plainName "com/example/exact_table/exacttable/Condition$Comparator" = true := by first | (simp [plainName, overriddenIn]; done) | decide +kernel
set_option maxRecDepth 65536 in
set_option maxHeartbeats 40000000 in
theorem rm2_0 (l : Launch) (Z : State) (a0 : Array Value) (hw : ∀ d ∈ tables_1, d.before a0 Z = true) (ws : List Jvm.Cond) (vEQUAL : Addr) (vNOT_EQUAL : Addr) (vLESS : Addr) (vLESS_OR_EQUAL : Addr) (vGREATER : Addr) (vGREATER_OR_EQUAL : Addr) (h0 : Heap) (n0 : Nat) (Z0 : n0 ≤ h0.size) (S_Condition_Comparator_EQUAL : Sta Z h0 "com/example/exact_table/exacttable/Condition$Comparator" "EQUAL" "Lcom/example/exact_table/exacttable/Condition$Comparator;" (.ref vEQUAL)) (S_Condition_Comparator_NOT_EQUAL : Sta Z h0 "com/example/exact_table/exacttable/Condition$Comparator" "NOT_EQUAL" "Lcom/example/exact_table/exacttable/Condition$Comparator;" (.ref vNOT_EQUAL)) (S_Condition_Comparator_LESS : Sta Z h0 "com/example/exact_table/exacttable/Condition$Comparator" "LESS" "Lcom/example/exact_table/exacttable/Condition$Comparator;" (.ref vLESS)) (S_Condition_Comparator_LESS_OR_EQUAL : Sta Z h0 "com/example/exact_table/exacttable/Condition$Comparator" "LESS_OR_EQUAL" "Lcom/example/exact_table/exacttable/Condition$Comparator;" (.ref vLESS_OR_EQUAL)) (S_Condition_Comparator_GREATER : Sta Z h0 "com/example/exact_table/exacttable/Condition$Comparator" "GREATER" "Lcom/example/exact_table/exacttable/Condition$Comparator;" (.ref vGREATER)) (S_Condition_Comparator_GREATER_OR_EQUAL : Sta Z h0 "com/example/exact_table/exacttable/Condition$Comparator" "GREATER_OR_EQUAL" "Lcom/example/exact_table/exacttable/Condition$Comparator;" (.ref vGREATER_OR_EQUAL)) (F_ordinal_vEQUAL : Fld Z h0 vEQUAL "java/lang/Enum" "ordinal" "I" (.int (0 : Int32))) (E_vEQUAL : Exa Z h0 vEQUAL "com/example/exact_table/exacttable/Condition$Comparator") :
    MetFree l (⟨"com/example/exact_table/exacttable/Condition$Comparator", "flipped", "()Lcom/example/exact_table/exacttable/Condition$Comparator;"⟩ : MethodName) (head1 (Jvm.Cond.code (⟨"com/example/exact_table/exacttable/Condition$Comparator", "flipped", "()Lcom/example/exact_table/exacttable/Condition$Comparator;"⟩ : MethodName) prog_20_method_6_code 1 (some (.object "com/example/exact_table/exacttable/Condition$Comparator")) :: ws) ({ frames := 1, cells := 0, slots := 0, locals := 12 } : Room)) (fun a U => a = #[(.ref vEQUAL)] ∧ Z.Warmed39 U.vm ∧ U.heap = h0) (fun _ _ _ _ _ => True) (fun _ U o U' => ∃ v L, o = .returned v ∧ Q_rm2_0 Z vEQUAL vNOT_EQUAL vLESS vLESS_OR_EQUAL vGREATER vGREATER_OR_EQUAL h0 n0 v U'.heap L ∧ FrameEnd U o U' L ({ frames := 1, cells := 0, slots := 0, locals := 12 } : Room).cells ({ frames := 1, cells := 0, slots := 0, locals := 12 } : Room).slots) := by
  refine MetFree.of_bodySF (plainFor_of_name pn_2) hisR ?_
  intro p e s m args below meth c s₁ Bd hml0 hP hK
  obtain ⟨rfl, hZ, hh⟩ := hP
  have hx := Bd.exec
  have hby := Bd.bytes
  have hml : c.maxLocals = 1 := hml0
  have hown : s.vm.findClass "com/example/exact_table/exacttable/Condition$Comparator" = some m.cls := findClass_of_methodNamed Bd.named
  have hnm := (name_of_methodNamed Bd.named Bd.method).1
  have X0 : Stand p l e ({ frames := 1, cells := 0, slots := 0, locals := 12 } : Room) s m #[(.ref vEQUAL)] below meth c s₁ [] 0 0 := Stand.of_body Bd
  have e0 : s₁.heap = h0 := by rw [← hh, Bd.state]; rfl
  have N0 := Fr.nil n0
  show Run p e below s 0 0 (Q_rm2_0 Z vEQUAL vNOT_EQUAL vLESS vLESS_OR_EQUAL vGREATER vGREATER_OR_EQUAL h0 n0) (s₁.setTop (entryFrame m #[(.ref vEQUAL)] 1))
  refine Run.go (fun _ k => castTop (ef_rm2_0 m vEQUAL) k) ?_
  show Run p e below s 0 0 (Q_rm2_0 Z vEQUAL vNOT_EQUAL vLESS vLESS_OR_EQUAL vGREATER vGREATER_OR_EQUAL h0 n0) (s₁.setTop (mkF m 0 #[.val (.ref vEQUAL)] []))
  refine Run.go (fun _ k => XS.aloadN X0.here hx rfl (hb hby d2_0) rfl rfl k) ?_
  show Run p e below s 0 0 (Q_rm2_0 Z vEQUAL vNOT_EQUAL vLESS vLESS_OR_EQUAL vGREATER vGREATER_OR_EQUAL h0 n0) (s₁.setTop (mkF m 1 #[.val (.ref vEQUAL)] [(.ref vEQUAL)]))
  obtain ⟨cq1, kq1, q1a, q1b, q1c⟩ := isOf hZ e0 E_vEQUAL
  obtain ⟨_, _, ⟨T1, L1, k1, n1⟩, -, X1, ⟨Lc1, hQ1, l1, y1, z1⟩, st1⟩ := X0.virtualBackUp hx (owner := "java/lang/Enum") (x := (⟨"com/example/exact_table/exacttable/Condition$Comparator", "ordinal", "()I"⟩ : MethodName)) (y := (⟨"java/lang/Enum", "ordinal", "()I"⟩ : MethodName)) hown (mvT hZ (hw _ (List.mem_of_getElem? (i := 13) rfl))) (mvT hZ (hw _ (List.mem_of_getElem? (i := 14) rfl))) (mvT hZ (hw _ (List.mem_of_getElem? (i := 15) rfl))) (by decide) (mvT hZ (hw _ (List.mem_of_getElem? (i := 17) rfl))) (mvT hZ (hw _ (List.mem_of_getElem? (i := 16) rfl))) (backOf (W := 0) (rm3 l Z a0 hw [] vEQUAL (0 : Int32) h0 n0 Z0 F_ordinal_vEQUAL) hZ (hw _ (List.mem_of_getElem? (i := 19) rfl)) (hw _ (List.mem_of_getElem? (i := 18) rfl)) (by decide) (by decide)) q1a q1c (g := (mkF m 1 #[.val (.ref vEQUAL)] [(.ref vEQUAL)])) rfl (by rw [hml]; rfl) (Steps.refl _) (argsL := []) (rest := []) (lenOf pd_0 rfl) rfl (by show 2 * 0 + _ ≤ _; exact Nat.le_of_eq rfl) (hb hby d2_1) (fun _ _ => ⟨rfl, e0, (by decide : 0 + 0 ≤ _), (by decide : 0 + 0 ≤ _)⟩)
  dsimp only [Pt.U, Pt.locs, Pt.cells, Pt.slots] at X1 l1 y1 z1 st1 hQ1
  subst l1 y1 z1
  obtain ⟨rfl, N1q, e1q⟩ := hQ1
  have N1 := Fr.app N0 N1q
  obtain ⟨Lg1, Xg1, Ng1⟩ := Stand_gen X1 N1
  refine Run.tr st1 ?_
  show Run p e below s 0 0 (Q_rm2_0 Z vEQUAL vNOT_EQUAL vLESS vLESS_OR_EQUAL vGREATER vGREATER_OR_EQUAL h0 n0) (T1.setTop (mkF m 4 #[.val (.ref vEQUAL)] [(.int (0 : Int32))]))
  refine Run.go (fun _ k => XS.tswOut Xg1.here hx rfl (pc0 := 4) (pc' := 60) rfl (hb hby d2_4) rfl (by decide) (by decide) (by decide) k) ?_
  show Run p e below s 0 0 (Q_rm2_0 Z vEQUAL vNOT_EQUAL vLESS vLESS_OR_EQUAL vGREATER vGREATER_OR_EQUAL h0 n0) (T1.setTop (mkF m 60 #[.val (.ref vEQUAL)] []))
  refine Run.go (fun _ k => XS.aloadN Xg1.here hx rfl (hb hby d2_60) rfl rfl k) ?_
  show Run p e below s 0 0 (Q_rm2_0 Z vEQUAL vNOT_EQUAL vLESS vLESS_OR_EQUAL vGREATER vGREATER_OR_EQUAL h0 n0) (T1.setTop (mkF m 61 #[.val (.ref vEQUAL)] [(.ref vEQUAL)]))
  refine Run.retA Xg1 hx rfl Bd.returns rfl Bd.notSynchronized (hb hby d2_61) (by decide) (by decide) ?_
  show Q_rm2_0 Z vEQUAL vNOT_EQUAL vLESS vLESS_OR_EQUAL vGREATER vGREATER_OR_EQUAL h0 n0 _ T1.heap _
  exact ⟨rfl, Ng1, e1q⟩
theorem d4_0 : decode method_3_code 0 = .ok (.aload_n 0, 1) := by decide +kernel
theorem d4_1 : decode method_3_code 1 = .ok (.getstatic 8, 3) := by decide +kernel
theorem d4_4 : decode method_3_code 4 = .ok (.if_acmp .ne 13, 3) := by decide +kernel
theorem d4_7 : decode method_3_code 7 = .ok (.iload_n 1, 1) := by decide +kernel
theorem d4_8 : decode method_3_code 8 = .ok (.ifCond .ne 7, 3) := by decide +kernel
theorem d4_11 : decode method_3_code 11 = .ok (.iconst 1, 1) := by decide +kernel
theorem d4_12 : decode method_3_code 12 = .ok (.goto 4, 3) := by decide +kernel
theorem d4_15 : decode method_3_code 15 = .ok (.iconst 0, 1) := by decide +kernel
theorem d4_16 : decode method_3_code 16 = .ok (.ireturn, 1) := by decide +kernel
def F_rm4_0 (p1 : Int32) : Int32 := let w4 : Int32 := (if (p1 = (0 : Int32)) then (1 : Int32) else 0); w4
def Q_rm4_0 (Z : State) (vEQUAL : Addr) (p1 : Int32) (vNOT_EQUAL : Addr) (vLESS : Addr) (vLESS_OR_EQUAL : Addr) (vGREATER : Addr) (vGREATER_OR_EQUAL : Addr) (h0 : Heap) (n0 : Nat) (v : Option Value) (h : Heap) (L : List Loc) : Prop := v = some (.int (F_rm4_0 p1)) ∧ Fr n0 L ∧ h = h0
theorem ef_rm4_0 (m : MethodId) (x0 : Addr) (x1 : Int32) : entryFrame m #[(.ref x0), (.int x1)] 2 = mkF m 0 #[.val (.ref x0), .val (.int x1)] [] := by first | (simp [entryFrame, mkF, argsToLocals, Value.category]; done) | rfl
set_option maxRecDepth 65536 in
set_option maxHeartbeats 40000000 in
theorem rm4_0 (l : Launch) (Z : State) (a0 : Array Value) (hw : ∀ d ∈ tables_1, d.before a0 Z = true) (ws : List Jvm.Cond) (vEQUAL : Addr) (p1 : Int32) (vNOT_EQUAL : Addr) (vLESS : Addr) (vLESS_OR_EQUAL : Addr) (vGREATER : Addr) (vGREATER_OR_EQUAL : Addr) (h0 : Heap) (n0 : Nat) (Z0 : n0 ≤ h0.size) (S_Condition_Comparator_EQUAL : Sta Z h0 "com/example/exact_table/exacttable/Condition$Comparator" "EQUAL" "Lcom/example/exact_table/exacttable/Condition$Comparator;" (.ref vEQUAL)) (S_Condition_Comparator_NOT_EQUAL : Sta Z h0 "com/example/exact_table/exacttable/Condition$Comparator" "NOT_EQUAL" "Lcom/example/exact_table/exacttable/Condition$Comparator;" (.ref vNOT_EQUAL)) (S_Condition_Comparator_LESS : Sta Z h0 "com/example/exact_table/exacttable/Condition$Comparator" "LESS" "Lcom/example/exact_table/exacttable/Condition$Comparator;" (.ref vLESS)) (S_Condition_Comparator_LESS_OR_EQUAL : Sta Z h0 "com/example/exact_table/exacttable/Condition$Comparator" "LESS_OR_EQUAL" "Lcom/example/exact_table/exacttable/Condition$Comparator;" (.ref vLESS_OR_EQUAL)) (S_Condition_Comparator_GREATER : Sta Z h0 "com/example/exact_table/exacttable/Condition$Comparator" "GREATER" "Lcom/example/exact_table/exacttable/Condition$Comparator;" (.ref vGREATER)) (S_Condition_Comparator_GREATER_OR_EQUAL : Sta Z h0 "com/example/exact_table/exacttable/Condition$Comparator" "GREATER_OR_EQUAL" "Lcom/example/exact_table/exacttable/Condition$Comparator;" (.ref vGREATER_OR_EQUAL)) (ne_vEQUAL_vNOT_EQUAL : vEQUAL ≠ vNOT_EQUAL) (ne_vEQUAL_vLESS : vEQUAL ≠ vLESS) (ne_vEQUAL_vLESS_OR_EQUAL : vEQUAL ≠ vLESS_OR_EQUAL) (ne_vEQUAL_vGREATER : vEQUAL ≠ vGREATER) (ne_vEQUAL_vGREATER_OR_EQUAL : vEQUAL ≠ vGREATER_OR_EQUAL) (ne_vNOT_EQUAL_vLESS : vNOT_EQUAL ≠ vLESS) (ne_vNOT_EQUAL_vLESS_OR_EQUAL : vNOT_EQUAL ≠ vLESS_OR_EQUAL) (ne_vNOT_EQUAL_vGREATER : vNOT_EQUAL ≠ vGREATER) (ne_vNOT_EQUAL_vGREATER_OR_EQUAL : vNOT_EQUAL ≠ vGREATER_OR_EQUAL) (ne_vLESS_vLESS_OR_EQUAL : vLESS ≠ vLESS_OR_EQUAL) (ne_vLESS_vGREATER : vLESS ≠ vGREATER) (ne_vLESS_vGREATER_OR_EQUAL : vLESS ≠ vGREATER_OR_EQUAL) (ne_vLESS_OR_EQUAL_vGREATER : vLESS_OR_EQUAL ≠ vGREATER) (ne_vLESS_OR_EQUAL_vGREATER_OR_EQUAL : vLESS_OR_EQUAL ≠ vGREATER_OR_EQUAL) (ne_vGREATER_vGREATER_OR_EQUAL : vGREATER ≠ vGREATER_OR_EQUAL) :
    MetFree l (⟨"com/example/exact_table/exacttable/ComparatorFlippedPinLaw", "holds", "(Lcom/example/exact_table/exacttable/Condition$Comparator;I)Z"⟩ : MethodName) (head1 (Jvm.Cond.code (⟨"com/example/exact_table/exacttable/ComparatorFlippedPinLaw", "holds", "(Lcom/example/exact_table/exacttable/Condition$Comparator;I)Z"⟩ : MethodName) method_3_code 2 (some .boolean) :: ws) ({ frames := 0, cells := 0, slots := 0, locals := 0 } : Room)) (fun a U => a = #[(.ref vEQUAL), (.int p1)] ∧ Z.Warmed39 U.vm ∧ U.heap = h0) (fun _ _ _ _ _ => True) (fun _ U o U' => ∃ v L, o = .returned v ∧ Q_rm4_0 Z vEQUAL p1 vNOT_EQUAL vLESS vLESS_OR_EQUAL vGREATER vGREATER_OR_EQUAL h0 n0 v U'.heap L ∧ FrameEnd U o U' L ({ frames := 0, cells := 0, slots := 0, locals := 0 } : Room).cells ({ frames := 0, cells := 0, slots := 0, locals := 0 } : Room).slots) := by
  refine MetFree.of_bodySF (plainFor_of_name pn_1) hisR ?_
  intro p e s m args below meth c s₁ Bd hml0 hP hK
  obtain ⟨rfl, hZ, hh⟩ := hP
  have hx := Bd.exec
  have hby := Bd.bytes
  have hml : c.maxLocals = 2 := hml0
  have hown : s.vm.findClass "com/example/exact_table/exacttable/ComparatorFlippedPinLaw" = some m.cls := findClass_of_methodNamed Bd.named
  have hnm := (name_of_methodNamed Bd.named Bd.method).1
  have X0 : Stand p l e ({ frames := 0, cells := 0, slots := 0, locals := 0 } : Room) s m #[(.ref vEQUAL), (.int p1)] below meth c s₁ [] 0 0 := Stand.of_body Bd
  have e0 : s₁.heap = h0 := by rw [← hh, Bd.state]; rfl
  have N0 := Fr.nil n0
  show Run p e below s 0 0 (Q_rm4_0 Z vEQUAL p1 vNOT_EQUAL vLESS vLESS_OR_EQUAL vGREATER vGREATER_OR_EQUAL h0 n0) (s₁.setTop (entryFrame m #[(.ref vEQUAL), (.int p1)] 2))
  refine Run.go (fun _ k => castTop (ef_rm4_0 m vEQUAL p1) k) ?_
  show Run p e below s 0 0 (Q_rm4_0 Z vEQUAL p1 vNOT_EQUAL vLESS vLESS_OR_EQUAL vGREATER vGREATER_OR_EQUAL h0 n0) (s₁.setTop (mkF m 0 #[.val (.ref vEQUAL), .val (.int p1)] []))
  refine Run.go (fun _ k => XS.aloadN X0.here hx rfl (hb hby d4_0) rfl rfl k) ?_
  show Run p e below s 0 0 (Q_rm4_0 Z vEQUAL p1 vNOT_EQUAL vLESS vLESS_OR_EQUAL vGREATER vGREATER_OR_EQUAL h0 n0) (s₁.setTop (mkF m 1 #[.val (.ref vEQUAL), .val (.int p1)] [(.ref vEQUAL)]))
  obtain ⟨T2, X2, e2, st2⟩ := getS2 X0 hx hZ hown (host := "") (Or.inl (hw _ (List.mem_of_getElem? (i := 5) rfl))) Via.refl e0 S_Condition_Comparator_EQUAL (g := (mkF m 1 #[.val (.ref vEQUAL), .val (.int p1)] [(.ref vEQUAL)])) rfl (hb hby d4_1)
  refine Run.go st2 ?_
  show Run p e below s 0 0 (Q_rm4_0 Z vEQUAL p1 vNOT_EQUAL vLESS vLESS_OR_EQUAL vGREATER vGREATER_OR_EQUAL h0 n0) (T2.setTop (mkF m 4 #[.val (.ref vEQUAL), .val (.int p1)] [(.ref vEQUAL), (.ref vEQUAL)]))
  refine Run.go (fun _ k => Jvm.RoadKit.acmp (g := (mkF m 4 #[.val (.ref vEQUAL), .val (.int p1)] [(.ref vEQUAL), (.ref vEQUAL)])) X2 hx rfl rfl rfl (pc0 := 4) (pc' := 7) (same := true) rfl (hb hby d4_4) rfl (decide_eq_true rfl) (by decide) (by decide) k) ?_
  show Run p e below s 0 0 (Q_rm4_0 Z vEQUAL p1 vNOT_EQUAL vLESS vLESS_OR_EQUAL vGREATER vGREATER_OR_EQUAL h0 n0) (T2.setTop (mkF m 7 #[.val (.ref vEQUAL), .val (.int p1)] []))
  refine Run.go (fun _ k => XS.iloadN X2.here hx rfl (hb hby d4_7) rfl  k) ?_
  show Run p e below s 0 0 (Q_rm4_0 Z vEQUAL p1 vNOT_EQUAL vLESS vLESS_OR_EQUAL vGREATER vGREATER_OR_EQUAL h0 n0) (T2.setTop (mkF m 8 #[.val (.ref vEQUAL), .val (.int p1)] [(.int p1)]))
  have J3 : ∀ (w4 : Int32) (hw4 : w4 = (if (p1 = (0 : Int32)) then (1 : Int32) else 0)) (T5 : State) (L5 : List Loc) (X5 : Stand p l e ({ frames := 0, cells := 0, slots := 0, locals := 0 } : Room) s m #[(.ref vEQUAL), (.int p1)] below meth c T5 L5 0 0) (e5 : T5.heap = h0) (N5 : Fr n0 L5), Run p e below s 0 0 (Q_rm4_0 Z vEQUAL p1 vNOT_EQUAL vLESS vLESS_OR_EQUAL vGREATER vGREATER_OR_EQUAL h0 n0) (T5.setTop (mkF m 16 #[.val (.ref vEQUAL), .val (.int p1)] [(.int w4)])) := by
    intro w4 hw4 T5 L5 X5 e5 N5
    show Run p e below s 0 0 (Q_rm4_0 Z vEQUAL p1 vNOT_EQUAL vLESS vLESS_OR_EQUAL vGREATER vGREATER_OR_EQUAL h0 n0) (T5.setTop (mkF m 16 #[.val (.ref vEQUAL), .val (.int p1)] [(.int w4)]))
    refine Run.retN (y := w4) X5 hx (t := .boolean) Bd.returns (by simp) (by rw [hw4]; exact nar_ite _) Bd.notSynchronized (hb hby d4_16) (by decide) (by decide) ?_
    show Q_rm4_0 Z vEQUAL p1 vNOT_EQUAL vLESS vLESS_OR_EQUAL vGREATER vGREATER_OR_EQUAL h0 n0 _ T5.heap _
    exact ⟨congrArg some (congrArg Value.int (show w4 = (F_rm4_0 p1) from (by subst hw4; unfold F_rm4_0; rfl))), N5, e5⟩
  by_cases hc6 : (p1 = (0 : Int32))
  · refine Run.go (fun _ k => XS.ifNo X2.here hx rfl (hb hby d4_8) rfl ((if0 _ _).trans (teq hc6).2) k) ?_
    show Run p e below s 0 0 (Q_rm4_0 Z vEQUAL p1 vNOT_EQUAL vLESS vLESS_OR_EQUAL vGREATER vGREATER_OR_EQUAL h0 n0) (T2.setTop (mkF m 11 #[.val (.ref vEQUAL), .val (.int p1)] []))
    refine Run.go (fun _ k => XS.iconst X2.here hx rfl (hb hby d4_11) k) ?_
    show Run p e below s 0 0 (Q_rm4_0 Z vEQUAL p1 vNOT_EQUAL vLESS vLESS_OR_EQUAL vGREATER vGREATER_OR_EQUAL h0 n0) (T2.setTop (mkF m 12 #[.val (.ref vEQUAL), .val (.int p1)] [(.int (1 : Int32))]))
    refine Run.go (fun _ k => XS.goto X2.here hx rfl (pc0 := 12) (pc' := 16) rfl (hb hby d4_12) (by decide) (by decide) k) ?_
    show Run p e below s 0 0 (Q_rm4_0 Z vEQUAL p1 vNOT_EQUAL vLESS vLESS_OR_EQUAL vGREATER vGREATER_OR_EQUAL h0 n0) (T2.setTop (mkF m 16 #[.val (.ref vEQUAL), .val (.int p1)] [(.int (1 : Int32))]))
    exact J3 _ (if_pos hc6).symm _ _ X2 e2 N0
  · refine Run.go (fun _ k => XS.ifYes X2.here hx rfl (pc0 := 8) (pc' := 15) rfl (hb hby d4_8) rfl ((if0 _ _).trans (feq hc6).2) (by decide) (by decide) k) ?_
    show Run p e below s 0 0 (Q_rm4_0 Z vEQUAL p1 vNOT_EQUAL vLESS vLESS_OR_EQUAL vGREATER vGREATER_OR_EQUAL h0 n0) (T2.setTop (mkF m 15 #[.val (.ref vEQUAL), .val (.int p1)] []))
    refine Run.go (fun _ k => XS.iconst X2.here hx rfl (hb hby d4_15) k) ?_
    show Run p e below s 0 0 (Q_rm4_0 Z vEQUAL p1 vNOT_EQUAL vLESS vLESS_OR_EQUAL vGREATER vGREATER_OR_EQUAL h0 n0) (T2.setTop (mkF m 16 #[.val (.ref vEQUAL), .val (.int p1)] [(.int (0 : Int32))]))
    exact J3 _ (if_neg hc6).symm _ _ X2 e2 N0
theorem d1_16 : decode method_2_code 16 = .ok (.iload_n 1, 1) := by decide +kernel
theorem d1_17 : decode method_2_code 17 = .ok (.iconst 1, 1) := by decide +kernel
theorem d1_18 : decode method_2_code 18 = .ok (.if_icmp .ne 7, 3) := by decide +kernel
theorem d1_21 : decode method_2_code 21 = .ok (.getstatic 14, 3) := by decide +kernel
theorem d1_24 : decode method_2_code 24 = .ok (.areturn, 1) := by decide +kernel
def Q_rm1_1 (Z : State) (p1 : Int32) (vEQUAL : Addr) (vNOT_EQUAL : Addr) (vLESS : Addr) (vLESS_OR_EQUAL : Addr) (vGREATER : Addr) (vGREATER_OR_EQUAL : Addr) (h0 : Heap) (n0 : Nat) (v : Option Value) (h : Heap) (L : List Loc) : Prop := v = some (.ref vNOT_EQUAL) ∧ Fr n0 L ∧ h = h0
theorem ef_rm1_1 (m : MethodId) (x0 : Int32) : entryFrame m #[(.int x0)] 2 = mkF m 0 #[.val (.int x0), .unset] [] := by first | (simp [entryFrame, mkF, argsToLocals, Value.category]; done) | rfl
set_option maxRecDepth 65536 in
set_option maxHeartbeats 40000000 in
theorem rm1_1 (l : Launch) (Z : State) (a0 : Array Value) (hw : ∀ d ∈ tables_1, d.before a0 Z = true) (ws : List Jvm.Cond) (p1 : Int32) (vEQUAL : Addr) (vNOT_EQUAL : Addr) (vLESS : Addr) (vLESS_OR_EQUAL : Addr) (vGREATER : Addr) (vGREATER_OR_EQUAL : Addr) (h0 : Heap) (n0 : Nat) (Z0 : n0 ≤ h0.size) (S_Condition_Comparator_EQUAL : Sta Z h0 "com/example/exact_table/exacttable/Condition$Comparator" "EQUAL" "Lcom/example/exact_table/exacttable/Condition$Comparator;" (.ref vEQUAL)) (S_Condition_Comparator_NOT_EQUAL : Sta Z h0 "com/example/exact_table/exacttable/Condition$Comparator" "NOT_EQUAL" "Lcom/example/exact_table/exacttable/Condition$Comparator;" (.ref vNOT_EQUAL)) (S_Condition_Comparator_LESS : Sta Z h0 "com/example/exact_table/exacttable/Condition$Comparator" "LESS" "Lcom/example/exact_table/exacttable/Condition$Comparator;" (.ref vLESS)) (S_Condition_Comparator_LESS_OR_EQUAL : Sta Z h0 "com/example/exact_table/exacttable/Condition$Comparator" "LESS_OR_EQUAL" "Lcom/example/exact_table/exacttable/Condition$Comparator;" (.ref vLESS_OR_EQUAL)) (S_Condition_Comparator_GREATER : Sta Z h0 "com/example/exact_table/exacttable/Condition$Comparator" "GREATER" "Lcom/example/exact_table/exacttable/Condition$Comparator;" (.ref vGREATER)) (S_Condition_Comparator_GREATER_OR_EQUAL : Sta Z h0 "com/example/exact_table/exacttable/Condition$Comparator" "GREATER_OR_EQUAL" "Lcom/example/exact_table/exacttable/Condition$Comparator;" (.ref vGREATER_OR_EQUAL)) (hk : ((p1 &&& (2147483647 : Int32)) % (6 : Int32)) = (1 : Int32)) :
    MetFree l (⟨"com/example/exact_table/exacttable/ComparatorFlippedPinLaw", "pick", "(I)Lcom/example/exact_table/exacttable/Condition$Comparator;"⟩ : MethodName) (head1 (Jvm.Cond.code (⟨"com/example/exact_table/exacttable/ComparatorFlippedPinLaw", "pick", "(I)Lcom/example/exact_table/exacttable/Condition$Comparator;"⟩ : MethodName) method_2_code 2 (some (.object "com/example/exact_table/exacttable/Condition$Comparator")) :: ws) ({ frames := 0, cells := 0, slots := 0, locals := 0 } : Room)) (fun a U => a = #[(.int p1)] ∧ Z.Warmed39 U.vm ∧ U.heap = h0) (fun _ _ _ _ _ => True) (fun _ U o U' => ∃ v L, o = .returned v ∧ Q_rm1_1 Z p1 vEQUAL vNOT_EQUAL vLESS vLESS_OR_EQUAL vGREATER vGREATER_OR_EQUAL h0 n0 v U'.heap L ∧ FrameEnd U o U' L ({ frames := 0, cells := 0, slots := 0, locals := 0 } : Room).cells ({ frames := 0, cells := 0, slots := 0, locals := 0 } : Room).slots) := by
  refine MetFree.of_bodySF (plainFor_of_name pn_1) hisR ?_
  intro p e s m args below meth c s₁ Bd hml0 hP hK
  obtain ⟨rfl, hZ, hh⟩ := hP
  have hx := Bd.exec
  have hby := Bd.bytes
  have hml : c.maxLocals = 2 := hml0
  have hown : s.vm.findClass "com/example/exact_table/exacttable/ComparatorFlippedPinLaw" = some m.cls := findClass_of_methodNamed Bd.named
  have hnm := (name_of_methodNamed Bd.named Bd.method).1
  have X0 : Stand p l e ({ frames := 0, cells := 0, slots := 0, locals := 0 } : Room) s m #[(.int p1)] below meth c s₁ [] 0 0 := Stand.of_body Bd
  have e0 : s₁.heap = h0 := by rw [← hh, Bd.state]; rfl
  have N0 := Fr.nil n0
  show Run p e below s 0 0 (Q_rm1_1 Z p1 vEQUAL vNOT_EQUAL vLESS vLESS_OR_EQUAL vGREATER vGREATER_OR_EQUAL h0 n0) (s₁.setTop (entryFrame m #[(.int p1)] 2))
  refine Run.go (fun _ k => castTop (ef_rm1_1 m p1) k) ?_
  show Run p e below s 0 0 (Q_rm1_1 Z p1 vEQUAL vNOT_EQUAL vLESS vLESS_OR_EQUAL vGREATER vGREATER_OR_EQUAL h0 n0) (s₁.setTop (mkF m 0 #[.val (.int p1), .unset] []))
  refine Run.go (fun _ k => XS.iloadN X0.here hx rfl (hb hby d1_0) rfl  k) ?_
  show Run p e below s 0 0 (Q_rm1_1 Z p1 vEQUAL vNOT_EQUAL vLESS vLESS_OR_EQUAL vGREATER vGREATER_OR_EQUAL h0 n0) (s₁.setTop (mkF m 1 #[.val (.int p1), .unset] [(.int p1)]))
  refine Run.go (fun _ k => X0.ldcInt hx hown (mvT hZ (hw _ (List.mem_of_getElem? (i := 4) rfl))) (g := (mkF m 1 #[.val (.int p1), .unset] [(.int p1)])) rfl (hb hby d1_1) _ k) ?_
  show Run p e below s 0 0 (Q_rm1_1 Z p1 vEQUAL vNOT_EQUAL vLESS vLESS_OR_EQUAL vGREATER vGREATER_OR_EQUAL h0 n0) (s₁.setTop (mkF m 3 #[.val (.int p1), .unset] [(.int (2147483647 : Int32)), (.int p1)]))
  refine Run.go (fun _ k => XS.iand X0.here hx rfl (hb hby d1_3) rfl k) ?_
  show Run p e below s 0 0 (Q_rm1_1 Z p1 vEQUAL vNOT_EQUAL vLESS vLESS_OR_EQUAL vGREATER vGREATER_OR_EQUAL h0 n0) (s₁.setTop (mkF m 4 #[.val (.int p1), .unset] [(.int (p1 &&& (2147483647 : Int32)))]))
  refine Run.go (fun _ k => XS.bipush X0.here hx rfl (hb hby d1_4) k) ?_
  show Run p e below s 0 0 (Q_rm1_1 Z p1 vEQUAL vNOT_EQUAL vLESS vLESS_OR_EQUAL vGREATER vGREATER_OR_EQUAL h0 n0) (s₁.setTop (mkF m 6 #[.val (.int p1), .unset] [(.int (6 : Int32)), (.int (p1 &&& (2147483647 : Int32)))]))
  refine Run.go (fun _ k => iremM X0 hx rfl (hb hby d1_6) rfl (by decide) k) ?_
  show Run p e below s 0 0 (Q_rm1_1 Z p1 vEQUAL vNOT_EQUAL vLESS vLESS_OR_EQUAL vGREATER vGREATER_OR_EQUAL h0 n0) (s₁.setTop (mkF m 7 #[.val (.int p1), .unset] [(.int ((p1 &&& (2147483647 : Int32)) % (6 : Int32)))]))
  refine Run.go (fun _ k => XS.istoreN X0.here hx rfl (hb hby d1_7) rfl (l' := #[.val (.int p1), .val (.int ((p1 &&& (2147483647 : Int32)) % (6 : Int32)))]) rfl k) ?_
  show Run p e below s 0 0 (Q_rm1_1 Z p1 vEQUAL vNOT_EQUAL vLESS vLESS_OR_EQUAL vGREATER vGREATER_OR_EQUAL h0 n0) (s₁.setTop (mkF m 8 #[.val (.int p1), .val (.int ((p1 &&& (2147483647 : Int32)) % (6 : Int32)))] []))
  rw [hk]
  show Run p e below s 0 0 (Q_rm1_1 Z p1 vEQUAL vNOT_EQUAL vLESS vLESS_OR_EQUAL vGREATER vGREATER_OR_EQUAL h0 n0) (s₁.setTop (mkF m 8 #[.val (.int p1), .val (.int (1 : Int32))] []))
  refine Run.go (fun _ k => XS.iloadN X0.here hx rfl (hb hby d1_8) rfl  k) ?_
  show Run p e below s 0 0 (Q_rm1_1 Z p1 vEQUAL vNOT_EQUAL vLESS vLESS_OR_EQUAL vGREATER vGREATER_OR_EQUAL h0 n0) (s₁.setTop (mkF m 9 #[.val (.int p1), .val (.int (1 : Int32))] [(.int (1 : Int32))]))
  refine Run.go (fun _ k => XS.ifYes X0.here hx rfl (pc0 := 9) (pc' := 16) rfl (hb hby d1_9) rfl ((if0 _ _).trans (feq (by decide)).2) (by decide) (by decide) k) ?_
  show Run p e below s 0 0 (Q_rm1_1 Z p1 vEQUAL vNOT_EQUAL vLESS vLESS_OR_EQUAL vGREATER vGREATER_OR_EQUAL h0 n0) (s₁.setTop (mkF m 16 #[.val (.int p1), .val (.int (1 : Int32))] []))
  refine Run.go (fun _ k => XS.iloadN X0.here hx rfl (hb hby d1_16) rfl  k) ?_
  show Run p e below s 0 0 (Q_rm1_1 Z p1 vEQUAL vNOT_EQUAL vLESS vLESS_OR_EQUAL vGREATER vGREATER_OR_EQUAL h0 n0) (s₁.setTop (mkF m 17 #[.val (.int p1), .val (.int (1 : Int32))] [(.int (1 : Int32))]))
  refine Run.go (fun _ k => XS.iconst X0.here hx rfl (hb hby d1_17) k) ?_
  show Run p e below s 0 0 (Q_rm1_1 Z p1 vEQUAL vNOT_EQUAL vLESS vLESS_OR_EQUAL vGREATER vGREATER_OR_EQUAL h0 n0) (s₁.setTop (mkF m 18 #[.val (.int p1), .val (.int (1 : Int32))] [(.int (1 : Int32)), (.int (1 : Int32))]))
  refine Run.go (fun _ k => XS.icmpNo X0.here hx rfl (hb hby d1_18) rfl (teq (rfl : (1 : Int32) = (1 : Int32))).2 k) ?_
  show Run p e below s 0 0 (Q_rm1_1 Z p1 vEQUAL vNOT_EQUAL vLESS vLESS_OR_EQUAL vGREATER vGREATER_OR_EQUAL h0 n0) (s₁.setTop (mkF m 21 #[.val (.int p1), .val (.int (1 : Int32))] []))
  obtain ⟨T2, X2, e2, st2⟩ := getS2 X0 hx hZ hown (host := "") (Or.inl (hw _ (List.mem_of_getElem? (i := 28) rfl))) Via.refl e0 S_Condition_Comparator_NOT_EQUAL (g := (mkF m 21 #[.val (.int p1), .val (.int (1 : Int32))] [])) rfl (hb hby d1_21)
  refine Run.go st2 ?_
  show Run p e below s 0 0 (Q_rm1_1 Z p1 vEQUAL vNOT_EQUAL vLESS vLESS_OR_EQUAL vGREATER vGREATER_OR_EQUAL h0 n0) (T2.setTop (mkF m 24 #[.val (.int p1), .val (.int (1 : Int32))] [(.ref vNOT_EQUAL)]))
  refine Run.retA X2 hx rfl Bd.returns rfl Bd.notSynchronized (hb hby d1_24) (by decide) (by decide) ?_
  show Q_rm1_1 Z p1 vEQUAL vNOT_EQUAL vLESS vLESS_OR_EQUAL vGREATER vGREATER_OR_EQUAL h0 n0 _ T2.heap _
  exact ⟨rfl, N0, e2⟩
def Q_rm2_1 (Z : State) (vNOT_EQUAL : Addr) (vEQUAL : Addr) (vLESS : Addr) (vLESS_OR_EQUAL : Addr) (vGREATER : Addr) (vGREATER_OR_EQUAL : Addr) (h0 : Heap) (n0 : Nat) (v : Option Value) (h : Heap) (L : List Loc) : Prop := v = some (.ref vNOT_EQUAL) ∧ Fr n0 L ∧ h = h0
theorem ef_rm2_1 (m : MethodId) (x0 : Addr) : entryFrame m #[(.ref x0)] 1 = mkF m 0 #[.val (.ref x0)] [] := by first | (simp [entryFrame, mkF, argsToLocals, Value.category]; done) | rfl
set_option maxRecDepth 65536 in
set_option maxHeartbeats 40000000 in
theorem rm2_1 (l : Launch) (Z : State) (a0 : Array Value) (hw : ∀ d ∈ tables_1, d.before a0 Z = true) (ws : List Jvm.Cond) (vNOT_EQUAL : Addr) (vEQUAL : Addr) (vLESS : Addr) (vLESS_OR_EQUAL : Addr) (vGREATER : Addr) (vGREATER_OR_EQUAL : Addr) (h0 : Heap) (n0 : Nat) (Z0 : n0 ≤ h0.size) (S_Condition_Comparator_EQUAL : Sta Z h0 "com/example/exact_table/exacttable/Condition$Comparator" "EQUAL" "Lcom/example/exact_table/exacttable/Condition$Comparator;" (.ref vEQUAL)) (S_Condition_Comparator_NOT_EQUAL : Sta Z h0 "com/example/exact_table/exacttable/Condition$Comparator" "NOT_EQUAL" "Lcom/example/exact_table/exacttable/Condition$Comparator;" (.ref vNOT_EQUAL)) (S_Condition_Comparator_LESS : Sta Z h0 "com/example/exact_table/exacttable/Condition$Comparator" "LESS" "Lcom/example/exact_table/exacttable/Condition$Comparator;" (.ref vLESS)) (S_Condition_Comparator_LESS_OR_EQUAL : Sta Z h0 "com/example/exact_table/exacttable/Condition$Comparator" "LESS_OR_EQUAL" "Lcom/example/exact_table/exacttable/Condition$Comparator;" (.ref vLESS_OR_EQUAL)) (S_Condition_Comparator_GREATER : Sta Z h0 "com/example/exact_table/exacttable/Condition$Comparator" "GREATER" "Lcom/example/exact_table/exacttable/Condition$Comparator;" (.ref vGREATER)) (S_Condition_Comparator_GREATER_OR_EQUAL : Sta Z h0 "com/example/exact_table/exacttable/Condition$Comparator" "GREATER_OR_EQUAL" "Lcom/example/exact_table/exacttable/Condition$Comparator;" (.ref vGREATER_OR_EQUAL)) (F_ordinal_vNOT_EQUAL : Fld Z h0 vNOT_EQUAL "java/lang/Enum" "ordinal" "I" (.int (1 : Int32))) (E_vNOT_EQUAL : Exa Z h0 vNOT_EQUAL "com/example/exact_table/exacttable/Condition$Comparator") :
    MetFree l (⟨"com/example/exact_table/exacttable/Condition$Comparator", "flipped", "()Lcom/example/exact_table/exacttable/Condition$Comparator;"⟩ : MethodName) (head1 (Jvm.Cond.code (⟨"com/example/exact_table/exacttable/Condition$Comparator", "flipped", "()Lcom/example/exact_table/exacttable/Condition$Comparator;"⟩ : MethodName) prog_20_method_6_code 1 (some (.object "com/example/exact_table/exacttable/Condition$Comparator")) :: ws) ({ frames := 1, cells := 0, slots := 0, locals := 12 } : Room)) (fun a U => a = #[(.ref vNOT_EQUAL)] ∧ Z.Warmed39 U.vm ∧ U.heap = h0) (fun _ _ _ _ _ => True) (fun _ U o U' => ∃ v L, o = .returned v ∧ Q_rm2_1 Z vNOT_EQUAL vEQUAL vLESS vLESS_OR_EQUAL vGREATER vGREATER_OR_EQUAL h0 n0 v U'.heap L ∧ FrameEnd U o U' L ({ frames := 1, cells := 0, slots := 0, locals := 12 } : Room).cells ({ frames := 1, cells := 0, slots := 0, locals := 12 } : Room).slots) := by
  refine MetFree.of_bodySF (plainFor_of_name pn_2) hisR ?_
  intro p e s m args below meth c s₁ Bd hml0 hP hK
  obtain ⟨rfl, hZ, hh⟩ := hP
  have hx := Bd.exec
  have hby := Bd.bytes
  have hml : c.maxLocals = 1 := hml0
  have hown : s.vm.findClass "com/example/exact_table/exacttable/Condition$Comparator" = some m.cls := findClass_of_methodNamed Bd.named
  have hnm := (name_of_methodNamed Bd.named Bd.method).1
  have X0 : Stand p l e ({ frames := 1, cells := 0, slots := 0, locals := 12 } : Room) s m #[(.ref vNOT_EQUAL)] below meth c s₁ [] 0 0 := Stand.of_body Bd
  have e0 : s₁.heap = h0 := by rw [← hh, Bd.state]; rfl
  have N0 := Fr.nil n0
  show Run p e below s 0 0 (Q_rm2_1 Z vNOT_EQUAL vEQUAL vLESS vLESS_OR_EQUAL vGREATER vGREATER_OR_EQUAL h0 n0) (s₁.setTop (entryFrame m #[(.ref vNOT_EQUAL)] 1))
  refine Run.go (fun _ k => castTop (ef_rm2_1 m vNOT_EQUAL) k) ?_
  show Run p e below s 0 0 (Q_rm2_1 Z vNOT_EQUAL vEQUAL vLESS vLESS_OR_EQUAL vGREATER vGREATER_OR_EQUAL h0 n0) (s₁.setTop (mkF m 0 #[.val (.ref vNOT_EQUAL)] []))
  refine Run.go (fun _ k => XS.aloadN X0.here hx rfl (hb hby d2_0) rfl rfl k) ?_
  show Run p e below s 0 0 (Q_rm2_1 Z vNOT_EQUAL vEQUAL vLESS vLESS_OR_EQUAL vGREATER vGREATER_OR_EQUAL h0 n0) (s₁.setTop (mkF m 1 #[.val (.ref vNOT_EQUAL)] [(.ref vNOT_EQUAL)]))
  obtain ⟨cq1, kq1, q1a, q1b, q1c⟩ := isOf hZ e0 E_vNOT_EQUAL
  obtain ⟨_, _, ⟨T1, L1, k1, n1⟩, -, X1, ⟨Lc1, hQ1, l1, y1, z1⟩, st1⟩ := X0.virtualBackUp hx (owner := "java/lang/Enum") (x := (⟨"com/example/exact_table/exacttable/Condition$Comparator", "ordinal", "()I"⟩ : MethodName)) (y := (⟨"java/lang/Enum", "ordinal", "()I"⟩ : MethodName)) hown (mvT hZ (hw _ (List.mem_of_getElem? (i := 13) rfl))) (mvT hZ (hw _ (List.mem_of_getElem? (i := 14) rfl))) (mvT hZ (hw _ (List.mem_of_getElem? (i := 15) rfl))) (by decide) (mvT hZ (hw _ (List.mem_of_getElem? (i := 17) rfl))) (mvT hZ (hw _ (List.mem_of_getElem? (i := 16) rfl))) (backOf (W := 0) (rm3 l Z a0 hw [] vNOT_EQUAL (1 : Int32) h0 n0 Z0 F_ordinal_vNOT_EQUAL) hZ (hw _ (List.mem_of_getElem? (i := 19) rfl)) (hw _ (List.mem_of_getElem? (i := 18) rfl)) (by decide) (by decide)) q1a q1c (g := (mkF m 1 #[.val (.ref vNOT_EQUAL)] [(.ref vNOT_EQUAL)])) rfl (by rw [hml]; rfl) (Steps.refl _) (argsL := []) (rest := []) (lenOf pd_0 rfl) rfl (by show 2 * 0 + _ ≤ _; exact Nat.le_of_eq rfl) (hb hby d2_1) (fun _ _ => ⟨rfl, e0, (by decide : 0 + 0 ≤ _), (by decide : 0 + 0 ≤ _)⟩)
  dsimp only [Pt.U, Pt.locs, Pt.cells, Pt.slots] at X1 l1 y1 z1 st1 hQ1
  subst l1 y1 z1
  obtain ⟨rfl, N1q, e1q⟩ := hQ1
  have N1 := Fr.app N0 N1q
  obtain ⟨Lg1, Xg1, Ng1⟩ := Stand_gen X1 N1
  refine Run.tr st1 ?_
  show Run p e below s 0 0 (Q_rm2_1 Z vNOT_EQUAL vEQUAL vLESS vLESS_OR_EQUAL vGREATER vGREATER_OR_EQUAL h0 n0) (T1.setTop (mkF m 4 #[.val (.ref vNOT_EQUAL)] [(.int (1 : Int32))]))
  refine Run.go (fun _ k => XS.tswOut Xg1.here hx rfl (pc0 := 4) (pc' := 60) rfl (hb hby d2_4) rfl (by decide) (by decide) (by decide) k) ?_
  show Run p e below s 0 0 (Q_rm2_1 Z vNOT_EQUAL vEQUAL vLESS vLESS_OR_EQUAL vGREATER vGREATER_OR_EQUAL h0 n0) (T1.setTop (mkF m 60 #[.val (.ref vNOT_EQUAL)] []))
  refine Run.go (fun _ k => XS.aloadN Xg1.here hx rfl (hb hby d2_60) rfl rfl k) ?_
  show Run p e below s 0 0 (Q_rm2_1 Z vNOT_EQUAL vEQUAL vLESS vLESS_OR_EQUAL vGREATER vGREATER_OR_EQUAL h0 n0) (T1.setTop (mkF m 61 #[.val (.ref vNOT_EQUAL)] [(.ref vNOT_EQUAL)]))
  refine Run.retA Xg1 hx rfl Bd.returns rfl Bd.notSynchronized (hb hby d2_61) (by decide) (by decide) ?_
  show Q_rm2_1 Z vNOT_EQUAL vEQUAL vLESS vLESS_OR_EQUAL vGREATER vGREATER_OR_EQUAL h0 n0 _ T1.heap _
  exact ⟨rfl, Ng1, e1q⟩
theorem d4_17 : decode method_3_code 17 = .ok (.aload_n 0, 1) := by decide +kernel
theorem d4_18 : decode method_3_code 18 = .ok (.getstatic 14, 3) := by decide +kernel
theorem d4_21 : decode method_3_code 21 = .ok (.if_acmp .ne 13, 3) := by decide +kernel
theorem d4_24 : decode method_3_code 24 = .ok (.iload_n 1, 1) := by decide +kernel
theorem d4_25 : decode method_3_code 25 = .ok (.ifCond .eq 7, 3) := by decide +kernel
theorem d4_32 : decode method_3_code 32 = .ok (.iconst 0, 1) := by decide +kernel
theorem d4_28 : decode method_3_code 28 = .ok (.iconst 1, 1) := by decide +kernel
theorem d4_29 : decode method_3_code 29 = .ok (.goto 4, 3) := by decide +kernel
theorem d4_33 : decode method_3_code 33 = .ok (.ireturn, 1) := by decide +kernel
def F_rm4_1 (p1 : Int32) : Int32 := let w5 : Int32 := (if (¬ (p1 = (0 : Int32))) then (1 : Int32) else 0); w5
def Q_rm4_1 (Z : State) (vNOT_EQUAL : Addr) (p1 : Int32) (vEQUAL : Addr) (vLESS : Addr) (vLESS_OR_EQUAL : Addr) (vGREATER : Addr) (vGREATER_OR_EQUAL : Addr) (h0 : Heap) (n0 : Nat) (v : Option Value) (h : Heap) (L : List Loc) : Prop := v = some (.int (F_rm4_1 p1)) ∧ Fr n0 L ∧ h = h0
theorem ef_rm4_1 (m : MethodId) (x0 : Addr) (x1 : Int32) : entryFrame m #[(.ref x0), (.int x1)] 2 = mkF m 0 #[.val (.ref x0), .val (.int x1)] [] := by first | (simp [entryFrame, mkF, argsToLocals, Value.category]; done) | rfl
set_option maxRecDepth 65536 in
set_option maxHeartbeats 40000000 in
theorem rm4_1 (l : Launch) (Z : State) (a0 : Array Value) (hw : ∀ d ∈ tables_1, d.before a0 Z = true) (ws : List Jvm.Cond) (vNOT_EQUAL : Addr) (p1 : Int32) (vEQUAL : Addr) (vLESS : Addr) (vLESS_OR_EQUAL : Addr) (vGREATER : Addr) (vGREATER_OR_EQUAL : Addr) (h0 : Heap) (n0 : Nat) (Z0 : n0 ≤ h0.size) (S_Condition_Comparator_EQUAL : Sta Z h0 "com/example/exact_table/exacttable/Condition$Comparator" "EQUAL" "Lcom/example/exact_table/exacttable/Condition$Comparator;" (.ref vEQUAL)) (S_Condition_Comparator_NOT_EQUAL : Sta Z h0 "com/example/exact_table/exacttable/Condition$Comparator" "NOT_EQUAL" "Lcom/example/exact_table/exacttable/Condition$Comparator;" (.ref vNOT_EQUAL)) (S_Condition_Comparator_LESS : Sta Z h0 "com/example/exact_table/exacttable/Condition$Comparator" "LESS" "Lcom/example/exact_table/exacttable/Condition$Comparator;" (.ref vLESS)) (S_Condition_Comparator_LESS_OR_EQUAL : Sta Z h0 "com/example/exact_table/exacttable/Condition$Comparator" "LESS_OR_EQUAL" "Lcom/example/exact_table/exacttable/Condition$Comparator;" (.ref vLESS_OR_EQUAL)) (S_Condition_Comparator_GREATER : Sta Z h0 "com/example/exact_table/exacttable/Condition$Comparator" "GREATER" "Lcom/example/exact_table/exacttable/Condition$Comparator;" (.ref vGREATER)) (S_Condition_Comparator_GREATER_OR_EQUAL : Sta Z h0 "com/example/exact_table/exacttable/Condition$Comparator" "GREATER_OR_EQUAL" "Lcom/example/exact_table/exacttable/Condition$Comparator;" (.ref vGREATER_OR_EQUAL)) (ne_vEQUAL_vNOT_EQUAL : vEQUAL ≠ vNOT_EQUAL) (ne_vEQUAL_vLESS : vEQUAL ≠ vLESS) (ne_vEQUAL_vLESS_OR_EQUAL : vEQUAL ≠ vLESS_OR_EQUAL) (ne_vEQUAL_vGREATER : vEQUAL ≠ vGREATER) (ne_vEQUAL_vGREATER_OR_EQUAL : vEQUAL ≠ vGREATER_OR_EQUAL) (ne_vNOT_EQUAL_vLESS : vNOT_EQUAL ≠ vLESS) (ne_vNOT_EQUAL_vLESS_OR_EQUAL : vNOT_EQUAL ≠ vLESS_OR_EQUAL) (ne_vNOT_EQUAL_vGREATER : vNOT_EQUAL ≠ vGREATER) (ne_vNOT_EQUAL_vGREATER_OR_EQUAL : vNOT_EQUAL ≠ vGREATER_OR_EQUAL) (ne_vLESS_vLESS_OR_EQUAL : vLESS ≠ vLESS_OR_EQUAL) (ne_vLESS_vGREATER : vLESS ≠ vGREATER) (ne_vLESS_vGREATER_OR_EQUAL : vLESS ≠ vGREATER_OR_EQUAL) (ne_vLESS_OR_EQUAL_vGREATER : vLESS_OR_EQUAL ≠ vGREATER) (ne_vLESS_OR_EQUAL_vGREATER_OR_EQUAL : vLESS_OR_EQUAL ≠ vGREATER_OR_EQUAL) (ne_vGREATER_vGREATER_OR_EQUAL : vGREATER ≠ vGREATER_OR_EQUAL) :
    MetFree l (⟨"com/example/exact_table/exacttable/ComparatorFlippedPinLaw", "holds", "(Lcom/example/exact_table/exacttable/Condition$Comparator;I)Z"⟩ : MethodName) (head1 (Jvm.Cond.code (⟨"com/example/exact_table/exacttable/ComparatorFlippedPinLaw", "holds", "(Lcom/example/exact_table/exacttable/Condition$Comparator;I)Z"⟩ : MethodName) method_3_code 2 (some .boolean) :: ws) ({ frames := 0, cells := 0, slots := 0, locals := 0 } : Room)) (fun a U => a = #[(.ref vNOT_EQUAL), (.int p1)] ∧ Z.Warmed39 U.vm ∧ U.heap = h0) (fun _ _ _ _ _ => True) (fun _ U o U' => ∃ v L, o = .returned v ∧ Q_rm4_1 Z vNOT_EQUAL p1 vEQUAL vLESS vLESS_OR_EQUAL vGREATER vGREATER_OR_EQUAL h0 n0 v U'.heap L ∧ FrameEnd U o U' L ({ frames := 0, cells := 0, slots := 0, locals := 0 } : Room).cells ({ frames := 0, cells := 0, slots := 0, locals := 0 } : Room).slots) := by
  refine MetFree.of_bodySF (plainFor_of_name pn_1) hisR ?_
  intro p e s m args below meth c s₁ Bd hml0 hP hK
  obtain ⟨rfl, hZ, hh⟩ := hP
  have hx := Bd.exec
  have hby := Bd.bytes
  have hml : c.maxLocals = 2 := hml0
  have hown : s.vm.findClass "com/example/exact_table/exacttable/ComparatorFlippedPinLaw" = some m.cls := findClass_of_methodNamed Bd.named
  have hnm := (name_of_methodNamed Bd.named Bd.method).1
  have X0 : Stand p l e ({ frames := 0, cells := 0, slots := 0, locals := 0 } : Room) s m #[(.ref vNOT_EQUAL), (.int p1)] below meth c s₁ [] 0 0 := Stand.of_body Bd
  have e0 : s₁.heap = h0 := by rw [← hh, Bd.state]; rfl
  have N0 := Fr.nil n0
  show Run p e below s 0 0 (Q_rm4_1 Z vNOT_EQUAL p1 vEQUAL vLESS vLESS_OR_EQUAL vGREATER vGREATER_OR_EQUAL h0 n0) (s₁.setTop (entryFrame m #[(.ref vNOT_EQUAL), (.int p1)] 2))
  refine Run.go (fun _ k => castTop (ef_rm4_1 m vNOT_EQUAL p1) k) ?_
  show Run p e below s 0 0 (Q_rm4_1 Z vNOT_EQUAL p1 vEQUAL vLESS vLESS_OR_EQUAL vGREATER vGREATER_OR_EQUAL h0 n0) (s₁.setTop (mkF m 0 #[.val (.ref vNOT_EQUAL), .val (.int p1)] []))
  refine Run.go (fun _ k => XS.aloadN X0.here hx rfl (hb hby d4_0) rfl rfl k) ?_
  show Run p e below s 0 0 (Q_rm4_1 Z vNOT_EQUAL p1 vEQUAL vLESS vLESS_OR_EQUAL vGREATER vGREATER_OR_EQUAL h0 n0) (s₁.setTop (mkF m 1 #[.val (.ref vNOT_EQUAL), .val (.int p1)] [(.ref vNOT_EQUAL)]))
  obtain ⟨T2, X2, e2, st2⟩ := getS2 X0 hx hZ hown (host := "") (Or.inl (hw _ (List.mem_of_getElem? (i := 5) rfl))) Via.refl e0 S_Condition_Comparator_EQUAL (g := (mkF m 1 #[.val (.ref vNOT_EQUAL), .val (.int p1)] [(.ref vNOT_EQUAL)])) rfl (hb hby d4_1)
  refine Run.go st2 ?_
  show Run p e below s 0 0 (Q_rm4_1 Z vNOT_EQUAL p1 vEQUAL vLESS vLESS_OR_EQUAL vGREATER vGREATER_OR_EQUAL h0 n0) (T2.setTop (mkF m 4 #[.val (.ref vNOT_EQUAL), .val (.int p1)] [(.ref vEQUAL), (.ref vNOT_EQUAL)]))
  refine Run.go (fun _ k => Jvm.RoadKit.acmp (g := (mkF m 4 #[.val (.ref vNOT_EQUAL), .val (.int p1)] [(.ref vEQUAL), (.ref vNOT_EQUAL)])) X2 hx rfl rfl rfl (pc0 := 4) (pc' := 17) (same := false) rfl (hb hby d4_4) rfl (decide_eq_false fun q => (Ne.symm ne_vEQUAL_vNOT_EQUAL) (Value.ref.inj q)) (by decide) (by decide) k) ?_
  show Run p e below s 0 0 (Q_rm4_1 Z vNOT_EQUAL p1 vEQUAL vLESS vLESS_OR_EQUAL vGREATER vGREATER_OR_EQUAL h0 n0) (T2.setTop (mkF m 17 #[.val (.ref vNOT_EQUAL), .val (.int p1)] []))
  refine Run.go (fun _ k => XS.aloadN X2.here hx rfl (hb hby d4_17) rfl rfl k) ?_
  show Run p e below s 0 0 (Q_rm4_1 Z vNOT_EQUAL p1 vEQUAL vLESS vLESS_OR_EQUAL vGREATER vGREATER_OR_EQUAL h0 n0) (T2.setTop (mkF m 18 #[.val (.ref vNOT_EQUAL), .val (.int p1)] [(.ref vNOT_EQUAL)]))
  obtain ⟨T3, X3, e3, st3⟩ := getS2 X2 hx hZ hown (host := "") (Or.inl (hw _ (List.mem_of_getElem? (i := 28) rfl))) Via.refl e2 S_Condition_Comparator_NOT_EQUAL (g := (mkF m 18 #[.val (.ref vNOT_EQUAL), .val (.int p1)] [(.ref vNOT_EQUAL)])) rfl (hb hby d4_18)
  refine Run.go st3 ?_
  show Run p e below s 0 0 (Q_rm4_1 Z vNOT_EQUAL p1 vEQUAL vLESS vLESS_OR_EQUAL vGREATER vGREATER_OR_EQUAL h0 n0) (T3.setTop (mkF m 21 #[.val (.ref vNOT_EQUAL), .val (.int p1)] [(.ref vNOT_EQUAL), (.ref vNOT_EQUAL)]))
  refine Run.go (fun _ k => Jvm.RoadKit.acmp (g := (mkF m 21 #[.val (.ref vNOT_EQUAL), .val (.int p1)] [(.ref vNOT_EQUAL), (.ref vNOT_EQUAL)])) X3 hx rfl rfl rfl (pc0 := 21) (pc' := 24) (same := true) rfl (hb hby d4_21) rfl (decide_eq_true rfl) (by decide) (by decide) k) ?_
  show Run p e below s 0 0 (Q_rm4_1 Z vNOT_EQUAL p1 vEQUAL vLESS vLESS_OR_EQUAL vGREATER vGREATER_OR_EQUAL h0 n0) (T3.setTop (mkF m 24 #[.val (.ref vNOT_EQUAL), .val (.int p1)] []))
  refine Run.go (fun _ k => XS.iloadN X3.here hx rfl (hb hby d4_24) rfl  k) ?_
  show Run p e below s 0 0 (Q_rm4_1 Z vNOT_EQUAL p1 vEQUAL vLESS vLESS_OR_EQUAL vGREATER vGREATER_OR_EQUAL h0 n0) (T3.setTop (mkF m 25 #[.val (.ref vNOT_EQUAL), .val (.int p1)] [(.int p1)]))
  have J4 : ∀ (w5 : Int32) (hw5 : w5 = (if (¬ (p1 = (0 : Int32))) then (1 : Int32) else 0)) (T6 : State) (L6 : List Loc) (X6 : Stand p l e ({ frames := 0, cells := 0, slots := 0, locals := 0 } : Room) s m #[(.ref vNOT_EQUAL), (.int p1)] below meth c T6 L6 0 0) (e6 : T6.heap = h0) (N6 : Fr n0 L6), Run p e below s 0 0 (Q_rm4_1 Z vNOT_EQUAL p1 vEQUAL vLESS vLESS_OR_EQUAL vGREATER vGREATER_OR_EQUAL h0 n0) (T6.setTop (mkF m 33 #[.val (.ref vNOT_EQUAL), .val (.int p1)] [(.int w5)])) := by
    intro w5 hw5 T6 L6 X6 e6 N6
    show Run p e below s 0 0 (Q_rm4_1 Z vNOT_EQUAL p1 vEQUAL vLESS vLESS_OR_EQUAL vGREATER vGREATER_OR_EQUAL h0 n0) (T6.setTop (mkF m 33 #[.val (.ref vNOT_EQUAL), .val (.int p1)] [(.int w5)]))
    refine Run.retN (y := w5) X6 hx (t := .boolean) Bd.returns (by simp) (by rw [hw5]; exact nar_ite _) Bd.notSynchronized (hb hby d4_33) (by decide) (by decide) ?_
    show Q_rm4_1 Z vNOT_EQUAL p1 vEQUAL vLESS vLESS_OR_EQUAL vGREATER vGREATER_OR_EQUAL h0 n0 _ T6.heap _
    exact ⟨congrArg some (congrArg Value.int (show w5 = (F_rm4_1 p1) from (by subst hw5; unfold F_rm4_1; rfl))), N6, e6⟩
  by_cases hc7 : (p1 = (0 : Int32))
  · refine Run.go (fun _ k => XS.ifYes X3.here hx rfl (pc0 := 25) (pc' := 32) rfl (hb hby d4_25) rfl ((if0 _ _).trans (teq hc7).1) (by decide) (by decide) k) ?_
    show Run p e below s 0 0 (Q_rm4_1 Z vNOT_EQUAL p1 vEQUAL vLESS vLESS_OR_EQUAL vGREATER vGREATER_OR_EQUAL h0 n0) (T3.setTop (mkF m 32 #[.val (.ref vNOT_EQUAL), .val (.int p1)] []))
    refine Run.go (fun _ k => XS.iconst X3.here hx rfl (hb hby d4_32) k) ?_
    show Run p e below s 0 0 (Q_rm4_1 Z vNOT_EQUAL p1 vEQUAL vLESS vLESS_OR_EQUAL vGREATER vGREATER_OR_EQUAL h0 n0) (T3.setTop (mkF m 33 #[.val (.ref vNOT_EQUAL), .val (.int p1)] [(.int (0 : Int32))]))
    exact J4 _ (if_neg (fun q => q hc7)).symm _ _ X3 e3 N0
  · refine Run.go (fun _ k => XS.ifNo X3.here hx rfl (hb hby d4_25) rfl ((if0 _ _).trans (feq hc7).1) k) ?_
    show Run p e below s 0 0 (Q_rm4_1 Z vNOT_EQUAL p1 vEQUAL vLESS vLESS_OR_EQUAL vGREATER vGREATER_OR_EQUAL h0 n0) (T3.setTop (mkF m 28 #[.val (.ref vNOT_EQUAL), .val (.int p1)] []))
    refine Run.go (fun _ k => XS.iconst X3.here hx rfl (hb hby d4_28) k) ?_
    show Run p e below s 0 0 (Q_rm4_1 Z vNOT_EQUAL p1 vEQUAL vLESS vLESS_OR_EQUAL vGREATER vGREATER_OR_EQUAL h0 n0) (T3.setTop (mkF m 29 #[.val (.ref vNOT_EQUAL), .val (.int p1)] [(.int (1 : Int32))]))
    refine Run.go (fun _ k => XS.goto X3.here hx rfl (pc0 := 29) (pc' := 33) rfl (hb hby d4_29) (by decide) (by decide) k) ?_
    show Run p e below s 0 0 (Q_rm4_1 Z vNOT_EQUAL p1 vEQUAL vLESS vLESS_OR_EQUAL vGREATER vGREATER_OR_EQUAL h0 n0) (T3.setTop (mkF m 33 #[.val (.ref vNOT_EQUAL), .val (.int p1)] [(.int (1 : Int32))]))
    exact J4 _ (if_pos hc7).symm _ _ X3 e3 N0
theorem d1_25 : decode method_2_code 25 = .ok (.iload_n 1, 1) := by decide +kernel
theorem d1_26 : decode method_2_code 26 = .ok (.iconst 2, 1) := by decide +kernel
theorem d1_27 : decode method_2_code 27 = .ok (.if_icmp .ne 7, 3) := by decide +kernel
theorem d1_30 : decode method_2_code 30 = .ok (.getstatic 17, 3) := by decide +kernel
theorem d1_33 : decode method_2_code 33 = .ok (.areturn, 1) := by decide +kernel
def Q_rm1_2 (Z : State) (p1 : Int32) (vEQUAL : Addr) (vNOT_EQUAL : Addr) (vLESS : Addr) (vLESS_OR_EQUAL : Addr) (vGREATER : Addr) (vGREATER_OR_EQUAL : Addr) (h0 : Heap) (n0 : Nat) (v : Option Value) (h : Heap) (L : List Loc) : Prop := v = some (.ref vLESS) ∧ Fr n0 L ∧ h = h0
theorem ef_rm1_2 (m : MethodId) (x0 : Int32) : entryFrame m #[(.int x0)] 2 = mkF m 0 #[.val (.int x0), .unset] [] := by first | (simp [entryFrame, mkF, argsToLocals, Value.category]; done) | rfl
set_option maxRecDepth 65536 in
set_option maxHeartbeats 40000000 in
theorem rm1_2 (l : Launch) (Z : State) (a0 : Array Value) (hw : ∀ d ∈ tables_1, d.before a0 Z = true) (ws : List Jvm.Cond) (p1 : Int32) (vEQUAL : Addr) (vNOT_EQUAL : Addr) (vLESS : Addr) (vLESS_OR_EQUAL : Addr) (vGREATER : Addr) (vGREATER_OR_EQUAL : Addr) (h0 : Heap) (n0 : Nat) (Z0 : n0 ≤ h0.size) (S_Condition_Comparator_EQUAL : Sta Z h0 "com/example/exact_table/exacttable/Condition$Comparator" "EQUAL" "Lcom/example/exact_table/exacttable/Condition$Comparator;" (.ref vEQUAL)) (S_Condition_Comparator_NOT_EQUAL : Sta Z h0 "com/example/exact_table/exacttable/Condition$Comparator" "NOT_EQUAL" "Lcom/example/exact_table/exacttable/Condition$Comparator;" (.ref vNOT_EQUAL)) (S_Condition_Comparator_LESS : Sta Z h0 "com/example/exact_table/exacttable/Condition$Comparator" "LESS" "Lcom/example/exact_table/exacttable/Condition$Comparator;" (.ref vLESS)) (S_Condition_Comparator_LESS_OR_EQUAL : Sta Z h0 "com/example/exact_table/exacttable/Condition$Comparator" "LESS_OR_EQUAL" "Lcom/example/exact_table/exacttable/Condition$Comparator;" (.ref vLESS_OR_EQUAL)) (S_Condition_Comparator_GREATER : Sta Z h0 "com/example/exact_table/exacttable/Condition$Comparator" "GREATER" "Lcom/example/exact_table/exacttable/Condition$Comparator;" (.ref vGREATER)) (S_Condition_Comparator_GREATER_OR_EQUAL : Sta Z h0 "com/example/exact_table/exacttable/Condition$Comparator" "GREATER_OR_EQUAL" "Lcom/example/exact_table/exacttable/Condition$Comparator;" (.ref vGREATER_OR_EQUAL)) (hk : ((p1 &&& (2147483647 : Int32)) % (6 : Int32)) = (2 : Int32)) :
    MetFree l (⟨"com/example/exact_table/exacttable/ComparatorFlippedPinLaw", "pick", "(I)Lcom/example/exact_table/exacttable/Condition$Comparator;"⟩ : MethodName) (head1 (Jvm.Cond.code (⟨"com/example/exact_table/exacttable/ComparatorFlippedPinLaw", "pick", "(I)Lcom/example/exact_table/exacttable/Condition$Comparator;"⟩ : MethodName) method_2_code 2 (some (.object "com/example/exact_table/exacttable/Condition$Comparator")) :: ws) ({ frames := 0, cells := 0, slots := 0, locals := 0 } : Room)) (fun a U => a = #[(.int p1)] ∧ Z.Warmed39 U.vm ∧ U.heap = h0) (fun _ _ _ _ _ => True) (fun _ U o U' => ∃ v L, o = .returned v ∧ Q_rm1_2 Z p1 vEQUAL vNOT_EQUAL vLESS vLESS_OR_EQUAL vGREATER vGREATER_OR_EQUAL h0 n0 v U'.heap L ∧ FrameEnd U o U' L ({ frames := 0, cells := 0, slots := 0, locals := 0 } : Room).cells ({ frames := 0, cells := 0, slots := 0, locals := 0 } : Room).slots) := by
  refine MetFree.of_bodySF (plainFor_of_name pn_1) hisR ?_
  intro p e s m args below meth c s₁ Bd hml0 hP hK
  obtain ⟨rfl, hZ, hh⟩ := hP
  have hx := Bd.exec
  have hby := Bd.bytes
  have hml : c.maxLocals = 2 := hml0
  have hown : s.vm.findClass "com/example/exact_table/exacttable/ComparatorFlippedPinLaw" = some m.cls := findClass_of_methodNamed Bd.named
  have hnm := (name_of_methodNamed Bd.named Bd.method).1
  have X0 : Stand p l e ({ frames := 0, cells := 0, slots := 0, locals := 0 } : Room) s m #[(.int p1)] below meth c s₁ [] 0 0 := Stand.of_body Bd
  have e0 : s₁.heap = h0 := by rw [← hh, Bd.state]; rfl
  have N0 := Fr.nil n0
  show Run p e below s 0 0 (Q_rm1_2 Z p1 vEQUAL vNOT_EQUAL vLESS vLESS_OR_EQUAL vGREATER vGREATER_OR_EQUAL h0 n0) (s₁.setTop (entryFrame m #[(.int p1)] 2))
  refine Run.go (fun _ k => castTop (ef_rm1_2 m p1) k) ?_
  show Run p e below s 0 0 (Q_rm1_2 Z p1 vEQUAL vNOT_EQUAL vLESS vLESS_OR_EQUAL vGREATER vGREATER_OR_EQUAL h0 n0) (s₁.setTop (mkF m 0 #[.val (.int p1), .unset] []))
  refine Run.go (fun _ k => XS.iloadN X0.here hx rfl (hb hby d1_0) rfl  k) ?_
  show Run p e below s 0 0 (Q_rm1_2 Z p1 vEQUAL vNOT_EQUAL vLESS vLESS_OR_EQUAL vGREATER vGREATER_OR_EQUAL h0 n0) (s₁.setTop (mkF m 1 #[.val (.int p1), .unset] [(.int p1)]))
  refine Run.go (fun _ k => X0.ldcInt hx hown (mvT hZ (hw _ (List.mem_of_getElem? (i := 4) rfl))) (g := (mkF m 1 #[.val (.int p1), .unset] [(.int p1)])) rfl (hb hby d1_1) _ k) ?_
  show Run p e below s 0 0 (Q_rm1_2 Z p1 vEQUAL vNOT_EQUAL vLESS vLESS_OR_EQUAL vGREATER vGREATER_OR_EQUAL h0 n0) (s₁.setTop (mkF m 3 #[.val (.int p1), .unset] [(.int (2147483647 : Int32)), (.int p1)]))
  refine Run.go (fun _ k => XS.iand X0.here hx rfl (hb hby d1_3) rfl k) ?_
  show Run p e below s 0 0 (Q_rm1_2 Z p1 vEQUAL vNOT_EQUAL vLESS vLESS_OR_EQUAL vGREATER vGREATER_OR_EQUAL h0 n0) (s₁.setTop (mkF m 4 #[.val (.int p1), .unset] [(.int (p1 &&& (2147483647 : Int32)))]))
  refine Run.go (fun _ k => XS.bipush X0.here hx rfl (hb hby d1_4) k) ?_
  show Run p e below s 0 0 (Q_rm1_2 Z p1 vEQUAL vNOT_EQUAL vLESS vLESS_OR_EQUAL vGREATER vGREATER_OR_EQUAL h0 n0) (s₁.setTop (mkF m 6 #[.val (.int p1), .unset] [(.int (6 : Int32)), (.int (p1 &&& (2147483647 : Int32)))]))
  refine Run.go (fun _ k => iremM X0 hx rfl (hb hby d1_6) rfl (by decide) k) ?_
  show Run p e below s 0 0 (Q_rm1_2 Z p1 vEQUAL vNOT_EQUAL vLESS vLESS_OR_EQUAL vGREATER vGREATER_OR_EQUAL h0 n0) (s₁.setTop (mkF m 7 #[.val (.int p1), .unset] [(.int ((p1 &&& (2147483647 : Int32)) % (6 : Int32)))]))
  refine Run.go (fun _ k => XS.istoreN X0.here hx rfl (hb hby d1_7) rfl (l' := #[.val (.int p1), .val (.int ((p1 &&& (2147483647 : Int32)) % (6 : Int32)))]) rfl k) ?_
  show Run p e below s 0 0 (Q_rm1_2 Z p1 vEQUAL vNOT_EQUAL vLESS vLESS_OR_EQUAL vGREATER vGREATER_OR_EQUAL h0 n0) (s₁.setTop (mkF m 8 #[.val (.int p1), .val (.int ((p1 &&& (2147483647 : Int32)) % (6 : Int32)))] []))
  rw [hk]
  show Run p e below s 0 0 (Q_rm1_2 Z p1 vEQUAL vNOT_EQUAL vLESS vLESS_OR_EQUAL vGREATER vGREATER_OR_EQUAL h0 n0) (s₁.setTop (mkF m 8 #[.val (.int p1), .val (.int (2 : Int32))] []))
  refine Run.go (fun _ k => XS.iloadN X0.here hx rfl (hb hby d1_8) rfl  k) ?_
  show Run p e below s 0 0 (Q_rm1_2 Z p1 vEQUAL vNOT_EQUAL vLESS vLESS_OR_EQUAL vGREATER vGREATER_OR_EQUAL h0 n0) (s₁.setTop (mkF m 9 #[.val (.int p1), .val (.int (2 : Int32))] [(.int (2 : Int32))]))
  refine Run.go (fun _ k => XS.ifYes X0.here hx rfl (pc0 := 9) (pc' := 16) rfl (hb hby d1_9) rfl ((if0 _ _).trans (feq (by decide)).2) (by decide) (by decide) k) ?_
  show Run p e below s 0 0 (Q_rm1_2 Z p1 vEQUAL vNOT_EQUAL vLESS vLESS_OR_EQUAL vGREATER vGREATER_OR_EQUAL h0 n0) (s₁.setTop (mkF m 16 #[.val (.int p1), .val (.int (2 : Int32))] []))
  refine Run.go (fun _ k => XS.iloadN X0.here hx rfl (hb hby d1_16) rfl  k) ?_
  show Run p e below s 0 0 (Q_rm1_2 Z p1 vEQUAL vNOT_EQUAL vLESS vLESS_OR_EQUAL vGREATER vGREATER_OR_EQUAL h0 n0) (s₁.setTop (mkF m 17 #[.val (.int p1), .val (.int (2 : Int32))] [(.int (2 : Int32))]))
  refine Run.go (fun _ k => XS.iconst X0.here hx rfl (hb hby d1_17) k) ?_
  show Run p e below s 0 0 (Q_rm1_2 Z p1 vEQUAL vNOT_EQUAL vLESS vLESS_OR_EQUAL vGREATER vGREATER_OR_EQUAL h0 n0) (s₁.setTop (mkF m 18 #[.val (.int p1), .val (.int (2 : Int32))] [(.int (1 : Int32)), (.int (2 : Int32))]))
  refine Run.go (fun _ k => XS.icmpYes X0.here hx rfl (pc0 := 18) (pc' := 25) rfl (hb hby d1_18) rfl (feq (by decide)).2 (by decide) (by decide) k) ?_
  show Run p e below s 0 0 (Q_rm1_2 Z p1 vEQUAL vNOT_EQUAL vLESS vLESS_OR_EQUAL vGREATER vGREATER_OR_EQUAL h0 n0) (s₁.setTop (mkF m 25 #[.val (.int p1), .val (.int (2 : Int32))] []))
  refine Run.go (fun _ k => XS.iloadN X0.here hx rfl (hb hby d1_25) rfl  k) ?_
  show Run p e below s 0 0 (Q_rm1_2 Z p1 vEQUAL vNOT_EQUAL vLESS vLESS_OR_EQUAL vGREATER vGREATER_OR_EQUAL h0 n0) (s₁.setTop (mkF m 26 #[.val (.int p1), .val (.int (2 : Int32))] [(.int (2 : Int32))]))
  refine Run.go (fun _ k => XS.iconst X0.here hx rfl (hb hby d1_26) k) ?_
  show Run p e below s 0 0 (Q_rm1_2 Z p1 vEQUAL vNOT_EQUAL vLESS vLESS_OR_EQUAL vGREATER vGREATER_OR_EQUAL h0 n0) (s₁.setTop (mkF m 27 #[.val (.int p1), .val (.int (2 : Int32))] [(.int (2 : Int32)), (.int (2 : Int32))]))
  refine Run.go (fun _ k => XS.icmpNo X0.here hx rfl (hb hby d1_27) rfl (teq (rfl : (2 : Int32) = (2 : Int32))).2 k) ?_
  show Run p e below s 0 0 (Q_rm1_2 Z p1 vEQUAL vNOT_EQUAL vLESS vLESS_OR_EQUAL vGREATER vGREATER_OR_EQUAL h0 n0) (s₁.setTop (mkF m 30 #[.val (.int p1), .val (.int (2 : Int32))] []))
  obtain ⟨T2, X2, e2, st2⟩ := getS2 X0 hx hZ hown (host := "") (Or.inl (hw _ (List.mem_of_getElem? (i := 30) rfl))) Via.refl e0 S_Condition_Comparator_LESS (g := (mkF m 30 #[.val (.int p1), .val (.int (2 : Int32))] [])) rfl (hb hby d1_30)
  refine Run.go st2 ?_
  show Run p e below s 0 0 (Q_rm1_2 Z p1 vEQUAL vNOT_EQUAL vLESS vLESS_OR_EQUAL vGREATER vGREATER_OR_EQUAL h0 n0) (T2.setTop (mkF m 33 #[.val (.int p1), .val (.int (2 : Int32))] [(.ref vLESS)]))
  refine Run.retA X2 hx rfl Bd.returns rfl Bd.notSynchronized (hb hby d1_33) (by decide) (by decide) ?_
  show Q_rm1_2 Z p1 vEQUAL vNOT_EQUAL vLESS vLESS_OR_EQUAL vGREATER vGREATER_OR_EQUAL h0 n0 _ T2.heap _
  exact ⟨rfl, N0, e2⟩
theorem d2_36 : decode prog_20_method_6_code 36 = .ok (.getstatic 16, 3) := by decide +kernel
theorem d2_39 : decode prog_20_method_6_code 39 = .ok (.goto 22, 3) := by decide +kernel
def Q_rm2_2 (Z : State) (vLESS : Addr) (vEQUAL : Addr) (vNOT_EQUAL : Addr) (vLESS_OR_EQUAL : Addr) (vGREATER : Addr) (vGREATER_OR_EQUAL : Addr) (h0 : Heap) (n0 : Nat) (v : Option Value) (h : Heap) (L : List Loc) : Prop := v = some (.ref vGREATER) ∧ Fr n0 L ∧ h = h0
theorem ef_rm2_2 (m : MethodId) (x0 : Addr) : entryFrame m #[(.ref x0)] 1 = mkF m 0 #[.val (.ref x0)] [] := by first | (simp [entryFrame, mkF, argsToLocals, Value.category]; done) | rfl
set_option maxRecDepth 65536 in
set_option maxHeartbeats 40000000 in
theorem rm2_2 (l : Launch) (Z : State) (a0 : Array Value) (hw : ∀ d ∈ tables_1, d.before a0 Z = true) (ws : List Jvm.Cond) (vLESS : Addr) (vEQUAL : Addr) (vNOT_EQUAL : Addr) (vLESS_OR_EQUAL : Addr) (vGREATER : Addr) (vGREATER_OR_EQUAL : Addr) (h0 : Heap) (n0 : Nat) (Z0 : n0 ≤ h0.size) (S_Condition_Comparator_EQUAL : Sta Z h0 "com/example/exact_table/exacttable/Condition$Comparator" "EQUAL" "Lcom/example/exact_table/exacttable/Condition$Comparator;" (.ref vEQUAL)) (S_Condition_Comparator_NOT_EQUAL : Sta Z h0 "com/example/exact_table/exacttable/Condition$Comparator" "NOT_EQUAL" "Lcom/example/exact_table/exacttable/Condition$Comparator;" (.ref vNOT_EQUAL)) (S_Condition_Comparator_LESS : Sta Z h0 "com/example/exact_table/exacttable/Condition$Comparator" "LESS" "Lcom/example/exact_table/exacttable/Condition$Comparator;" (.ref vLESS)) (S_Condition_Comparator_LESS_OR_EQUAL : Sta Z h0 "com/example/exact_table/exacttable/Condition$Comparator" "LESS_OR_EQUAL" "Lcom/example/exact_table/exacttable/Condition$Comparator;" (.ref vLESS_OR_EQUAL)) (S_Condition_Comparator_GREATER : Sta Z h0 "com/example/exact_table/exacttable/Condition$Comparator" "GREATER" "Lcom/example/exact_table/exacttable/Condition$Comparator;" (.ref vGREATER)) (S_Condition_Comparator_GREATER_OR_EQUAL : Sta Z h0 "com/example/exact_table/exacttable/Condition$Comparator" "GREATER_OR_EQUAL" "Lcom/example/exact_table/exacttable/Condition$Comparator;" (.ref vGREATER_OR_EQUAL)) (F_ordinal_vLESS : Fld Z h0 vLESS "java/lang/Enum" "ordinal" "I" (.int (2 : Int32))) (E_vLESS : Exa Z h0 vLESS "com/example/exact_table/exacttable/Condition$Comparator") :
    MetFree l (⟨"com/example/exact_table/exacttable/Condition$Comparator", "flipped", "()Lcom/example/exact_table/exacttable/Condition$Comparator;"⟩ : MethodName) (head1 (Jvm.Cond.code (⟨"com/example/exact_table/exacttable/Condition$Comparator", "flipped", "()Lcom/example/exact_table/exacttable/Condition$Comparator;"⟩ : MethodName) prog_20_method_6_code 1 (some (.object "com/example/exact_table/exacttable/Condition$Comparator")) :: ws) ({ frames := 1, cells := 0, slots := 0, locals := 12 } : Room)) (fun a U => a = #[(.ref vLESS)] ∧ Z.Warmed39 U.vm ∧ U.heap = h0) (fun _ _ _ _ _ => True) (fun _ U o U' => ∃ v L, o = .returned v ∧ Q_rm2_2 Z vLESS vEQUAL vNOT_EQUAL vLESS_OR_EQUAL vGREATER vGREATER_OR_EQUAL h0 n0 v U'.heap L ∧ FrameEnd U o U' L ({ frames := 1, cells := 0, slots := 0, locals := 12 } : Room).cells ({ frames := 1, cells := 0, slots := 0, locals := 12 } : Room).slots) := by
  refine MetFree.of_bodySF (plainFor_of_name pn_2) hisR ?_
  intro p e s m args below meth c s₁ Bd hml0 hP hK
  obtain ⟨rfl, hZ, hh⟩ := hP
  have hx := Bd.exec
  have hby := Bd.bytes
  have hml : c.maxLocals = 1 := hml0
  have hown : s.vm.findClass "com/example/exact_table/exacttable/Condition$Comparator" = some m.cls := findClass_of_methodNamed Bd.named
  have hnm := (name_of_methodNamed Bd.named Bd.method).1
  have X0 : Stand p l e ({ frames := 1, cells := 0, slots := 0, locals := 12 } : Room) s m #[(.ref vLESS)] below meth c s₁ [] 0 0 := Stand.of_body Bd
  have e0 : s₁.heap = h0 := by rw [← hh, Bd.state]; rfl
  have N0 := Fr.nil n0
  show Run p e below s 0 0 (Q_rm2_2 Z vLESS vEQUAL vNOT_EQUAL vLESS_OR_EQUAL vGREATER vGREATER_OR_EQUAL h0 n0) (s₁.setTop (entryFrame m #[(.ref vLESS)] 1))
  refine Run.go (fun _ k => castTop (ef_rm2_2 m vLESS) k) ?_
  show Run p e below s 0 0 (Q_rm2_2 Z vLESS vEQUAL vNOT_EQUAL vLESS_OR_EQUAL vGREATER vGREATER_OR_EQUAL h0 n0) (s₁.setTop (mkF m 0 #[.val (.ref vLESS)] []))
  refine Run.go (fun _ k => XS.aloadN X0.here hx rfl (hb hby d2_0) rfl rfl k) ?_
  show Run p e below s 0 0 (Q_rm2_2 Z vLESS vEQUAL vNOT_EQUAL vLESS_OR_EQUAL vGREATER vGREATER_OR_EQUAL h0 n0) (s₁.setTop (mkF m 1 #[.val (.ref vLESS)] [(.ref vLESS)]))
  obtain ⟨cq1, kq1, q1a, q1b, q1c⟩ := isOf hZ e0 E_vLESS
  obtain ⟨_, _, ⟨T1, L1, k1, n1⟩, -, X1, ⟨Lc1, hQ1, l1, y1, z1⟩, st1⟩ := X0.virtualBackUp hx (owner := "java/lang/Enum") (x := (⟨"com/example/exact_table/exacttable/Condition$Comparator", "ordinal", "()I"⟩ : MethodName)) (y := (⟨"java/lang/Enum", "ordinal", "()I"⟩ : MethodName)) hown (mvT hZ (hw _ (List.mem_of_getElem? (i := 13) rfl))) (mvT hZ (hw _ (List.mem_of_getElem? (i := 14) rfl))) (mvT hZ (hw _ (List.mem_of_getElem? (i := 15) rfl))) (by decide) (mvT hZ (hw _ (List.mem_of_getElem? (i := 17) rfl))) (mvT hZ (hw _ (List.mem_of_getElem? (i := 16) rfl))) (backOf (W := 0) (rm3 l Z a0 hw [] vLESS (2 : Int32) h0 n0 Z0 F_ordinal_vLESS) hZ (hw _ (List.mem_of_getElem? (i := 19) rfl)) (hw _ (List.mem_of_getElem? (i := 18) rfl)) (by decide) (by decide)) q1a q1c (g := (mkF m 1 #[.val (.ref vLESS)] [(.ref vLESS)])) rfl (by rw [hml]; rfl) (Steps.refl _) (argsL := []) (rest := []) (lenOf pd_0 rfl) rfl (by show 2 * 0 + _ ≤ _; exact Nat.le_of_eq rfl) (hb hby d2_1) (fun _ _ => ⟨rfl, e0, (by decide : 0 + 0 ≤ _), (by decide : 0 + 0 ≤ _)⟩)
  dsimp only [Pt.U, Pt.locs, Pt.cells, Pt.slots] at X1 l1 y1 z1 st1 hQ1
  subst l1 y1 z1
  obtain ⟨rfl, N1q, e1q⟩ := hQ1
  have N1 := Fr.app N0 N1q
  obtain ⟨Lg1, Xg1, Ng1⟩ := Stand_gen X1 N1
  refine Run.tr st1 ?_
  show Run p e below s 0 0 (Q_rm2_2 Z vLESS vEQUAL vNOT_EQUAL vLESS_OR_EQUAL vGREATER vGREATER_OR_EQUAL h0 n0) (T1.setTop (mkF m 4 #[.val (.ref vLESS)] [(.int (2 : Int32))]))
  refine Run.go (fun _ k => XS.tswIn Xg1.here hx rfl (pc0 := 4) (pc' := 36) rfl (hb hby d2_4) rfl (by decide) rfl (by decide) (by decide) k) ?_
  show Run p e below s 0 0 (Q_rm2_2 Z vLESS vEQUAL vNOT_EQUAL vLESS_OR_EQUAL vGREATER vGREATER_OR_EQUAL h0 n0) (T1.setTop (mkF m 36 #[.val (.ref vLESS)] []))
  obtain ⟨T2, X2, e2, st2⟩ := getS2 Xg1 hx hZ hown (host := "") (Or.inl (hw _ (List.mem_of_getElem? (i := 32) rfl))) Via.refl e1q S_Condition_Comparator_GREATER (g := (mkF m 36 #[.val (.ref vLESS)] [])) rfl (hb hby d2_36)
  refine Run.go st2 ?_
  show Run p e below s 0 0 (Q_rm2_2 Z vLESS vEQUAL vNOT_EQUAL vLESS_OR_EQUAL vGREATER vGREATER_OR_EQUAL h0 n0) (T2.setTop (mkF m 39 #[.val (.ref vLESS)] [(.ref vGREATER)]))
  refine Run.go (fun _ k => XS.goto X2.here hx rfl (pc0 := 39) (pc' := 61) rfl (hb hby d2_39) (by decide) (by decide) k) ?_
  show Run p e below s 0 0 (Q_rm2_2 Z vLESS vEQUAL vNOT_EQUAL vLESS_OR_EQUAL vGREATER vGREATER_OR_EQUAL h0 n0) (T2.setTop (mkF m 61 #[.val (.ref vLESS)] [(.ref vGREATER)]))
  refine Run.retA X2 hx rfl Bd.returns rfl Bd.notSynchronized (hb hby d2_61) (by decide) (by decide) ?_
  show Q_rm2_2 Z vLESS vEQUAL vNOT_EQUAL vLESS_OR_EQUAL vGREATER vGREATER_OR_EQUAL h0 n0 _ T2.heap _
  exact ⟨rfl, Ng1, e2⟩
theorem d4_34 : decode method_3_code 34 = .ok (.aload_n 0, 1) := by decide +kernel
theorem d4_35 : decode method_3_code 35 = .ok (.getstatic 17, 3) := by decide +kernel
theorem d4_38 : decode method_3_code 38 = .ok (.if_acmp .ne 13, 3) := by decide +kernel
theorem d4_41 : decode method_3_code 41 = .ok (.iload_n 1, 1) := by decide +kernel
theorem d4_42 : decode method_3_code 42 = .ok (.ifCond .ge 7, 3) := by decide +kernel
theorem d4_45 : decode method_3_code 45 = .ok (.iconst 1, 1) := by decide +kernel
theorem d4_46 : decode method_3_code 46 = .ok (.goto 4, 3) := by decide +kernel
theorem d4_49 : decode method_3_code 49 = .ok (.iconst 0, 1) := by decide +kernel
theorem d4_50 : decode method_3_code 50 = .ok (.ireturn, 1) := by decide +kernel
def F_rm4_2 (p1 : Int32) : Int32 := let w6 : Int32 := (if (p1 < (0 : Int32)) then (1 : Int32) else 0); w6
def Q_rm4_2 (Z : State) (vLESS : Addr) (p1 : Int32) (vEQUAL : Addr) (vNOT_EQUAL : Addr) (vLESS_OR_EQUAL : Addr) (vGREATER : Addr) (vGREATER_OR_EQUAL : Addr) (h0 : Heap) (n0 : Nat) (v : Option Value) (h : Heap) (L : List Loc) : Prop := v = some (.int (F_rm4_2 p1)) ∧ Fr n0 L ∧ h = h0
theorem ef_rm4_2 (m : MethodId) (x0 : Addr) (x1 : Int32) : entryFrame m #[(.ref x0), (.int x1)] 2 = mkF m 0 #[.val (.ref x0), .val (.int x1)] [] := by first | (simp [entryFrame, mkF, argsToLocals, Value.category]; done) | rfl
set_option maxRecDepth 65536 in
set_option maxHeartbeats 40000000 in
theorem rm4_2 (l : Launch) (Z : State) (a0 : Array Value) (hw : ∀ d ∈ tables_1, d.before a0 Z = true) (ws : List Jvm.Cond) (vLESS : Addr) (p1 : Int32) (vEQUAL : Addr) (vNOT_EQUAL : Addr) (vLESS_OR_EQUAL : Addr) (vGREATER : Addr) (vGREATER_OR_EQUAL : Addr) (h0 : Heap) (n0 : Nat) (Z0 : n0 ≤ h0.size) (S_Condition_Comparator_EQUAL : Sta Z h0 "com/example/exact_table/exacttable/Condition$Comparator" "EQUAL" "Lcom/example/exact_table/exacttable/Condition$Comparator;" (.ref vEQUAL)) (S_Condition_Comparator_NOT_EQUAL : Sta Z h0 "com/example/exact_table/exacttable/Condition$Comparator" "NOT_EQUAL" "Lcom/example/exact_table/exacttable/Condition$Comparator;" (.ref vNOT_EQUAL)) (S_Condition_Comparator_LESS : Sta Z h0 "com/example/exact_table/exacttable/Condition$Comparator" "LESS" "Lcom/example/exact_table/exacttable/Condition$Comparator;" (.ref vLESS)) (S_Condition_Comparator_LESS_OR_EQUAL : Sta Z h0 "com/example/exact_table/exacttable/Condition$Comparator" "LESS_OR_EQUAL" "Lcom/example/exact_table/exacttable/Condition$Comparator;" (.ref vLESS_OR_EQUAL)) (S_Condition_Comparator_GREATER : Sta Z h0 "com/example/exact_table/exacttable/Condition$Comparator" "GREATER" "Lcom/example/exact_table/exacttable/Condition$Comparator;" (.ref vGREATER)) (S_Condition_Comparator_GREATER_OR_EQUAL : Sta Z h0 "com/example/exact_table/exacttable/Condition$Comparator" "GREATER_OR_EQUAL" "Lcom/example/exact_table/exacttable/Condition$Comparator;" (.ref vGREATER_OR_EQUAL)) (ne_vEQUAL_vNOT_EQUAL : vEQUAL ≠ vNOT_EQUAL) (ne_vEQUAL_vLESS : vEQUAL ≠ vLESS) (ne_vEQUAL_vLESS_OR_EQUAL : vEQUAL ≠ vLESS_OR_EQUAL) (ne_vEQUAL_vGREATER : vEQUAL ≠ vGREATER) (ne_vEQUAL_vGREATER_OR_EQUAL : vEQUAL ≠ vGREATER_OR_EQUAL) (ne_vNOT_EQUAL_vLESS : vNOT_EQUAL ≠ vLESS) (ne_vNOT_EQUAL_vLESS_OR_EQUAL : vNOT_EQUAL ≠ vLESS_OR_EQUAL) (ne_vNOT_EQUAL_vGREATER : vNOT_EQUAL ≠ vGREATER) (ne_vNOT_EQUAL_vGREATER_OR_EQUAL : vNOT_EQUAL ≠ vGREATER_OR_EQUAL) (ne_vLESS_vLESS_OR_EQUAL : vLESS ≠ vLESS_OR_EQUAL) (ne_vLESS_vGREATER : vLESS ≠ vGREATER) (ne_vLESS_vGREATER_OR_EQUAL : vLESS ≠ vGREATER_OR_EQUAL) (ne_vLESS_OR_EQUAL_vGREATER : vLESS_OR_EQUAL ≠ vGREATER) (ne_vLESS_OR_EQUAL_vGREATER_OR_EQUAL : vLESS_OR_EQUAL ≠ vGREATER_OR_EQUAL) (ne_vGREATER_vGREATER_OR_EQUAL : vGREATER ≠ vGREATER_OR_EQUAL) :
    MetFree l (⟨"com/example/exact_table/exacttable/ComparatorFlippedPinLaw", "holds", "(Lcom/example/exact_table/exacttable/Condition$Comparator;I)Z"⟩ : MethodName) (head1 (Jvm.Cond.code (⟨"com/example/exact_table/exacttable/ComparatorFlippedPinLaw", "holds", "(Lcom/example/exact_table/exacttable/Condition$Comparator;I)Z"⟩ : MethodName) method_3_code 2 (some .boolean) :: ws) ({ frames := 0, cells := 0, slots := 0, locals := 0 } : Room)) (fun a U => a = #[(.ref vLESS), (.int p1)] ∧ Z.Warmed39 U.vm ∧ U.heap = h0) (fun _ _ _ _ _ => True) (fun _ U o U' => ∃ v L, o = .returned v ∧ Q_rm4_2 Z vLESS p1 vEQUAL vNOT_EQUAL vLESS_OR_EQUAL vGREATER vGREATER_OR_EQUAL h0 n0 v U'.heap L ∧ FrameEnd U o U' L ({ frames := 0, cells := 0, slots := 0, locals := 0 } : Room).cells ({ frames := 0, cells := 0, slots := 0, locals := 0 } : Room).slots) := by
  refine MetFree.of_bodySF (plainFor_of_name pn_1) hisR ?_
  intro p e s m args below meth c s₁ Bd hml0 hP hK
  obtain ⟨rfl, hZ, hh⟩ := hP
  have hx := Bd.exec
  have hby := Bd.bytes
  have hml : c.maxLocals = 2 := hml0
  have hown : s.vm.findClass "com/example/exact_table/exacttable/ComparatorFlippedPinLaw" = some m.cls := findClass_of_methodNamed Bd.named
  have hnm := (name_of_methodNamed Bd.named Bd.method).1
  have X0 : Stand p l e ({ frames := 0, cells := 0, slots := 0, locals := 0 } : Room) s m #[(.ref vLESS), (.int p1)] below meth c s₁ [] 0 0 := Stand.of_body Bd
  have e0 : s₁.heap = h0 := by rw [← hh, Bd.state]; rfl
  have N0 := Fr.nil n0
  show Run p e below s 0 0 (Q_rm4_2 Z vLESS p1 vEQUAL vNOT_EQUAL vLESS_OR_EQUAL vGREATER vGREATER_OR_EQUAL h0 n0) (s₁.setTop (entryFrame m #[(.ref vLESS), (.int p1)] 2))
  refine Run.go (fun _ k => castTop (ef_rm4_2 m vLESS p1) k) ?_
  show Run p e below s 0 0 (Q_rm4_2 Z vLESS p1 vEQUAL vNOT_EQUAL vLESS_OR_EQUAL vGREATER vGREATER_OR_EQUAL h0 n0) (s₁.setTop (mkF m 0 #[.val (.ref vLESS), .val (.int p1)] []))
  refine Run.go (fun _ k => XS.aloadN X0.here hx rfl (hb hby d4_0) rfl rfl k) ?_
  show Run p e below s 0 0 (Q_rm4_2 Z vLESS p1 vEQUAL vNOT_EQUAL vLESS_OR_EQUAL vGREATER vGREATER_OR_EQUAL h0 n0) (s₁.setTop (mkF m 1 #[.val (.ref vLESS), .val (.int p1)] [(.ref vLESS)]))
  obtain ⟨T2, X2, e2, st2⟩ := getS2 X0 hx hZ hown (host := "") (Or.inl (hw _ (List.mem_of_getElem? (i := 5) rfl))) Via.refl e0 S_Condition_Comparator_EQUAL (g := (mkF m 1 #[.val (.ref vLESS), .val (.int p1)] [(.ref vLESS)])) rfl (hb hby d4_1)
  refine Run.go st2 ?_
  show Run p e below s 0 0 (Q_rm4_2 Z vLESS p1 vEQUAL vNOT_EQUAL vLESS_OR_EQUAL vGREATER vGREATER_OR_EQUAL h0 n0) (T2.setTop (mkF m 4 #[.val (.ref vLESS), .val (.int p1)] [(.ref vEQUAL), (.ref vLESS)]))
  refine Run.go (fun _ k => Jvm.RoadKit.acmp (g := (mkF m 4 #[.val (.ref vLESS), .val (.int p1)] [(.ref vEQUAL), (.ref vLESS)])) X2 hx rfl rfl rfl (pc0 := 4) (pc' := 17) (same := false) rfl (hb hby d4_4) rfl (decide_eq_false fun q => (Ne.symm ne_vEQUAL_vLESS) (Value.ref.inj q)) (by decide) (by decide) k) ?_
  show Run p e below s 0 0 (Q_rm4_2 Z vLESS p1 vEQUAL vNOT_EQUAL vLESS_OR_EQUAL vGREATER vGREATER_OR_EQUAL h0 n0) (T2.setTop (mkF m 17 #[.val (.ref vLESS), .val (.int p1)] []))
  refine Run.go (fun _ k => XS.aloadN X2.here hx rfl (hb hby d4_17) rfl rfl k) ?_
  show Run p e below s 0 0 (Q_rm4_2 Z vLESS p1 vEQUAL vNOT_EQUAL vLESS_OR_EQUAL vGREATER vGREATER_OR_EQUAL h0 n0) (T2.setTop (mkF m 18 #[.val (.ref vLESS), .val (.int p1)] [(.ref vLESS)]))
  obtain ⟨T3, X3, e3, st3⟩ := getS2 X2 hx hZ hown (host := "") (Or.inl (hw _ (List.mem_of_getElem? (i := 28) rfl))) Via.refl e2 S_Condition_Comparator_NOT_EQUAL (g := (mkF m 18 #[.val (.ref vLESS), .val (.int p1)] [(.ref vLESS)])) rfl (hb hby d4_18)
  refine Run.go st3 ?_
  show Run p e below s 0 0 (Q_rm4_2 Z vLESS p1 vEQUAL vNOT_EQUAL vLESS_OR_EQUAL vGREATER vGREATER_OR_EQUAL h0 n0) (T3.setTop (mkF m 21 #[.val (.ref vLESS), .val (.int p1)] [(.ref vNOT_EQUAL), (.ref vLESS)]))
  refine Run.go (fun _ k => Jvm.RoadKit.acmp (g := (mkF m 21 #[.val (.ref vLESS), .val (.int p1)] [(.ref vNOT_EQUAL), (.ref vLESS)])) X3 hx rfl rfl rfl (pc0 := 21) (pc' := 34) (same := false) rfl (hb hby d4_21) rfl (decide_eq_false fun q => (Ne.symm ne_vNOT_EQUAL_vLESS) (Value.ref.inj q)) (by decide) (by decide) k) ?_
  show Run p e below s 0 0 (Q_rm4_2 Z vLESS p1 vEQUAL vNOT_EQUAL vLESS_OR_EQUAL vGREATER vGREATER_OR_EQUAL h0 n0) (T3.setTop (mkF m 34 #[.val (.ref vLESS), .val (.int p1)] []))
  refine Run.go (fun _ k => XS.aloadN X3.here hx rfl (hb hby d4_34) rfl rfl k) ?_
  show Run p e below s 0 0 (Q_rm4_2 Z vLESS p1 vEQUAL vNOT_EQUAL vLESS_OR_EQUAL vGREATER vGREATER_OR_EQUAL h0 n0) (T3.setTop (mkF m 35 #[.val (.ref vLESS), .val (.int p1)] [(.ref vLESS)]))
  obtain ⟨T4, X4, e4, st4⟩ := getS2 X3 hx hZ hown (host := "") (Or.inl (hw _ (List.mem_of_getElem? (i := 30) rfl))) Via.refl e3 S_Condition_Comparator_LESS (g := (mkF m 35 #[.val (.ref vLESS), .val (.int p1)] [(.ref vLESS)])) rfl (hb hby d4_35)
  refine Run.go st4 ?_
  show Run p e below s 0 0 (Q_rm4_2 Z vLESS p1 vEQUAL vNOT_EQUAL vLESS_OR_EQUAL vGREATER vGREATER_OR_EQUAL h0 n0) (T4.setTop (mkF m 38 #[.val (.ref vLESS), .val (.int p1)] [(.ref vLESS), (.ref vLESS)]))
  refine Run.go (fun _ k => Jvm.RoadKit.acmp (g := (mkF m 38 #[.val (.ref vLESS), .val (.int p1)] [(.ref vLESS), (.ref vLESS)])) X4 hx rfl rfl rfl (pc0 := 38) (pc' := 41) (same := true) rfl (hb hby d4_38) rfl (decide_eq_true rfl) (by decide) (by decide) k) ?_
  show Run p e below s 0 0 (Q_rm4_2 Z vLESS p1 vEQUAL vNOT_EQUAL vLESS_OR_EQUAL vGREATER vGREATER_OR_EQUAL h0 n0) (T4.setTop (mkF m 41 #[.val (.ref vLESS), .val (.int p1)] []))
  refine Run.go (fun _ k => XS.iloadN X4.here hx rfl (hb hby d4_41) rfl  k) ?_
  show Run p e below s 0 0 (Q_rm4_2 Z vLESS p1 vEQUAL vNOT_EQUAL vLESS_OR_EQUAL vGREATER vGREATER_OR_EQUAL h0 n0) (T4.setTop (mkF m 42 #[.val (.ref vLESS), .val (.int p1)] [(.int p1)]))
  have J5 : ∀ (w6 : Int32) (hw6 : w6 = (if (p1 < (0 : Int32)) then (1 : Int32) else 0)) (T7 : State) (L7 : List Loc) (X7 : Stand p l e ({ frames := 0, cells := 0, slots := 0, locals := 0 } : Room) s m #[(.ref vLESS), (.int p1)] below meth c T7 L7 0 0) (e7 : T7.heap = h0) (N7 : Fr n0 L7), Run p e below s 0 0 (Q_rm4_2 Z vLESS p1 vEQUAL vNOT_EQUAL vLESS_OR_EQUAL vGREATER vGREATER_OR_EQUAL h0 n0) (T7.setTop (mkF m 50 #[.val (.ref vLESS), .val (.int p1)] [(.int w6)])) := by
    intro w6 hw6 T7 L7 X7 e7 N7
    show Run p e below s 0 0 (Q_rm4_2 Z vLESS p1 vEQUAL vNOT_EQUAL vLESS_OR_EQUAL vGREATER vGREATER_OR_EQUAL h0 n0) (T7.setTop (mkF m 50 #[.val (.ref vLESS), .val (.int p1)] [(.int w6)]))
    refine Run.retN (y := w6) X7 hx (t := .boolean) Bd.returns (by simp) (by rw [hw6]; exact nar_ite _) Bd.notSynchronized (hb hby d4_50) (by decide) (by decide) ?_
    show Q_rm4_2 Z vLESS p1 vEQUAL vNOT_EQUAL vLESS_OR_EQUAL vGREATER vGREATER_OR_EQUAL h0 n0 _ T7.heap _
    exact ⟨congrArg some (congrArg Value.int (show w6 = (F_rm4_2 p1) from (by subst hw6; unfold F_rm4_2; rfl))), N7, e7⟩
  by_cases hc8 : (p1 < (0 : Int32))
  · refine Run.go (fun _ k => XS.ifNo X4.here hx rfl (hb hby d4_42) rfl ((if0 _ _).trans (tlt hc8).2.1) k) ?_
    show Run p e below s 0 0 (Q_rm4_2 Z vLESS p1 vEQUAL vNOT_EQUAL vLESS_OR_EQUAL vGREATER vGREATER_OR_EQUAL h0 n0) (T4.setTop (mkF m 45 #[.val (.ref vLESS), .val (.int p1)] []))
    refine Run.go (fun _ k => XS.iconst X4.here hx rfl (hb hby d4_45) k) ?_
    show Run p e below s 0 0 (Q_rm4_2 Z vLESS p1 vEQUAL vNOT_EQUAL vLESS_OR_EQUAL vGREATER vGREATER_OR_EQUAL h0 n0) (T4.setTop (mkF m 46 #[.val (.ref vLESS), .val (.int p1)] [(.int (1 : Int32))]))
    refine Run.go (fun _ k => XS.goto X4.here hx rfl (pc0 := 46) (pc' := 50) rfl (hb hby d4_46) (by decide) (by decide) k) ?_
    show Run p e below s 0 0 (Q_rm4_2 Z vLESS p1 vEQUAL vNOT_EQUAL vLESS_OR_EQUAL vGREATER vGREATER_OR_EQUAL h0 n0) (T4.setTop (mkF m 50 #[.val (.ref vLESS), .val (.int p1)] [(.int (1 : Int32))]))
    exact J5 _ (if_pos hc8).symm _ _ X4 e4 N0
  · refine Run.go (fun _ k => XS.ifYes X4.here hx rfl (pc0 := 42) (pc' := 49) rfl (hb hby d4_42) rfl ((if0 _ _).trans (flt hc8).2.1) (by decide) (by decide) k) ?_
    show Run p e below s 0 0 (Q_rm4_2 Z vLESS p1 vEQUAL vNOT_EQUAL vLESS_OR_EQUAL vGREATER vGREATER_OR_EQUAL h0 n0) (T4.setTop (mkF m 49 #[.val (.ref vLESS), .val (.int p1)] []))
    refine Run.go (fun _ k => XS.iconst X4.here hx rfl (hb hby d4_49) k) ?_
    show Run p e below s 0 0 (Q_rm4_2 Z vLESS p1 vEQUAL vNOT_EQUAL vLESS_OR_EQUAL vGREATER vGREATER_OR_EQUAL h0 n0) (T4.setTop (mkF m 50 #[.val (.ref vLESS), .val (.int p1)] [(.int (0 : Int32))]))
    exact J5 _ (if_neg hc8).symm _ _ X4 e4 N0
theorem d1_34 : decode method_2_code 34 = .ok (.iload_n 1, 1) := by decide +kernel
theorem d1_35 : decode method_2_code 35 = .ok (.iconst 3, 1) := by decide +kernel
theorem d1_36 : decode method_2_code 36 = .ok (.if_icmp .ne 7, 3) := by decide +kernel
theorem d1_39 : decode method_2_code 39 = .ok (.getstatic 20, 3) := by decide +kernel
theorem d1_42 : decode method_2_code 42 = .ok (.areturn, 1) := by decide +kernel
def Q_rm1_3 (Z : State) (p1 : Int32) (vEQUAL : Addr) (vNOT_EQUAL : Addr) (vLESS : Addr) (vLESS_OR_EQUAL : Addr) (vGREATER : Addr) (vGREATER_OR_EQUAL : Addr) (h0 : Heap) (n0 : Nat) (v : Option Value) (h : Heap) (L : List Loc) : Prop := v = some (.ref vLESS_OR_EQUAL) ∧ Fr n0 L ∧ h = h0
theorem ef_rm1_3 (m : MethodId) (x0 : Int32) : entryFrame m #[(.int x0)] 2 = mkF m 0 #[.val (.int x0), .unset] [] := by first | (simp [entryFrame, mkF, argsToLocals, Value.category]; done) | rfl
set_option maxRecDepth 65536 in
set_option maxHeartbeats 40000000 in
theorem rm1_3 (l : Launch) (Z : State) (a0 : Array Value) (hw : ∀ d ∈ tables_1, d.before a0 Z = true) (ws : List Jvm.Cond) (p1 : Int32) (vEQUAL : Addr) (vNOT_EQUAL : Addr) (vLESS : Addr) (vLESS_OR_EQUAL : Addr) (vGREATER : Addr) (vGREATER_OR_EQUAL : Addr) (h0 : Heap) (n0 : Nat) (Z0 : n0 ≤ h0.size) (S_Condition_Comparator_EQUAL : Sta Z h0 "com/example/exact_table/exacttable/Condition$Comparator" "EQUAL" "Lcom/example/exact_table/exacttable/Condition$Comparator;" (.ref vEQUAL)) (S_Condition_Comparator_NOT_EQUAL : Sta Z h0 "com/example/exact_table/exacttable/Condition$Comparator" "NOT_EQUAL" "Lcom/example/exact_table/exacttable/Condition$Comparator;" (.ref vNOT_EQUAL)) (S_Condition_Comparator_LESS : Sta Z h0 "com/example/exact_table/exacttable/Condition$Comparator" "LESS" "Lcom/example/exact_table/exacttable/Condition$Comparator;" (.ref vLESS)) (S_Condition_Comparator_LESS_OR_EQUAL : Sta Z h0 "com/example/exact_table/exacttable/Condition$Comparator" "LESS_OR_EQUAL" "Lcom/example/exact_table/exacttable/Condition$Comparator;" (.ref vLESS_OR_EQUAL)) (S_Condition_Comparator_GREATER : Sta Z h0 "com/example/exact_table/exacttable/Condition$Comparator" "GREATER" "Lcom/example/exact_table/exacttable/Condition$Comparator;" (.ref vGREATER)) (S_Condition_Comparator_GREATER_OR_EQUAL : Sta Z h0 "com/example/exact_table/exacttable/Condition$Comparator" "GREATER_OR_EQUAL" "Lcom/example/exact_table/exacttable/Condition$Comparator;" (.ref vGREATER_OR_EQUAL)) (hk : ((p1 &&& (2147483647 : Int32)) % (6 : Int32)) = (3 : Int32)) :
    MetFree l (⟨"com/example/exact_table/exacttable/ComparatorFlippedPinLaw", "pick", "(I)Lcom/example/exact_table/exacttable/Condition$Comparator;"⟩ : MethodName) (head1 (Jvm.Cond.code (⟨"com/example/exact_table/exacttable/ComparatorFlippedPinLaw", "pick", "(I)Lcom/example/exact_table/exacttable/Condition$Comparator;"⟩ : MethodName) method_2_code 2 (some (.object "com/example/exact_table/exacttable/Condition$Comparator")) :: ws) ({ frames := 0, cells := 0, slots := 0, locals := 0 } : Room)) (fun a U => a = #[(.int p1)] ∧ Z.Warmed39 U.vm ∧ U.heap = h0) (fun _ _ _ _ _ => True) (fun _ U o U' => ∃ v L, o = .returned v ∧ Q_rm1_3 Z p1 vEQUAL vNOT_EQUAL vLESS vLESS_OR_EQUAL vGREATER vGREATER_OR_EQUAL h0 n0 v U'.heap L ∧ FrameEnd U o U' L ({ frames := 0, cells := 0, slots := 0, locals := 0 } : Room).cells ({ frames := 0, cells := 0, slots := 0, locals := 0 } : Room).slots) := by
  refine MetFree.of_bodySF (plainFor_of_name pn_1) hisR ?_
  intro p e s m args below meth c s₁ Bd hml0 hP hK
  obtain ⟨rfl, hZ, hh⟩ := hP
  have hx := Bd.exec
  have hby := Bd.bytes
  have hml : c.maxLocals = 2 := hml0
  have hown : s.vm.findClass "com/example/exact_table/exacttable/ComparatorFlippedPinLaw" = some m.cls := findClass_of_methodNamed Bd.named
  have hnm := (name_of_methodNamed Bd.named Bd.method).1
  have X0 : Stand p l e ({ frames := 0, cells := 0, slots := 0, locals := 0 } : Room) s m #[(.int p1)] below meth c s₁ [] 0 0 := Stand.of_body Bd
  have e0 : s₁.heap = h0 := by rw [← hh, Bd.state]; rfl
  have N0 := Fr.nil n0
  show Run p e below s 0 0 (Q_rm1_3 Z p1 vEQUAL vNOT_EQUAL vLESS vLESS_OR_EQUAL vGREATER vGREATER_OR_EQUAL h0 n0) (s₁.setTop (entryFrame m #[(.int p1)] 2))
  refine Run.go (fun _ k => castTop (ef_rm1_3 m p1) k) ?_
  show Run p e below s 0 0 (Q_rm1_3 Z p1 vEQUAL vNOT_EQUAL vLESS vLESS_OR_EQUAL vGREATER vGREATER_OR_EQUAL h0 n0) (s₁.setTop (mkF m 0 #[.val (.int p1), .unset] []))
  refine Run.go (fun _ k => XS.iloadN X0.here hx rfl (hb hby d1_0) rfl  k) ?_
  show Run p e below s 0 0 (Q_rm1_3 Z p1 vEQUAL vNOT_EQUAL vLESS vLESS_OR_EQUAL vGREATER vGREATER_OR_EQUAL h0 n0) (s₁.setTop (mkF m 1 #[.val (.int p1), .unset] [(.int p1)]))
  refine Run.go (fun _ k => X0.ldcInt hx hown (mvT hZ (hw _ (List.mem_of_getElem? (i := 4) rfl))) (g := (mkF m 1 #[.val (.int p1), .unset] [(.int p1)])) rfl (hb hby d1_1) _ k) ?_
  show Run p e below s 0 0 (Q_rm1_3 Z p1 vEQUAL vNOT_EQUAL vLESS vLESS_OR_EQUAL vGREATER vGREATER_OR_EQUAL h0 n0) (s₁.setTop (mkF m 3 #[.val (.int p1), .unset] [(.int (2147483647 : Int32)), (.int p1)]))
  refine Run.go (fun _ k => XS.iand X0.here hx rfl (hb hby d1_3) rfl k) ?_
  show Run p e below s 0 0 (Q_rm1_3 Z p1 vEQUAL vNOT_EQUAL vLESS vLESS_OR_EQUAL vGREATER vGREATER_OR_EQUAL h0 n0) (s₁.setTop (mkF m 4 #[.val (.int p1), .unset] [(.int (p1 &&& (2147483647 : Int32)))]))
  refine Run.go (fun _ k => XS.bipush X0.here hx rfl (hb hby d1_4) k) ?_
  show Run p e below s 0 0 (Q_rm1_3 Z p1 vEQUAL vNOT_EQUAL vLESS vLESS_OR_EQUAL vGREATER vGREATER_OR_EQUAL h0 n0) (s₁.setTop (mkF m 6 #[.val (.int p1), .unset] [(.int (6 : Int32)), (.int (p1 &&& (2147483647 : Int32)))]))
  refine Run.go (fun _ k => iremM X0 hx rfl (hb hby d1_6) rfl (by decide) k) ?_
  show Run p e below s 0 0 (Q_rm1_3 Z p1 vEQUAL vNOT_EQUAL vLESS vLESS_OR_EQUAL vGREATER vGREATER_OR_EQUAL h0 n0) (s₁.setTop (mkF m 7 #[.val (.int p1), .unset] [(.int ((p1 &&& (2147483647 : Int32)) % (6 : Int32)))]))
  refine Run.go (fun _ k => XS.istoreN X0.here hx rfl (hb hby d1_7) rfl (l' := #[.val (.int p1), .val (.int ((p1 &&& (2147483647 : Int32)) % (6 : Int32)))]) rfl k) ?_
  show Run p e below s 0 0 (Q_rm1_3 Z p1 vEQUAL vNOT_EQUAL vLESS vLESS_OR_EQUAL vGREATER vGREATER_OR_EQUAL h0 n0) (s₁.setTop (mkF m 8 #[.val (.int p1), .val (.int ((p1 &&& (2147483647 : Int32)) % (6 : Int32)))] []))
  rw [hk]
  show Run p e below s 0 0 (Q_rm1_3 Z p1 vEQUAL vNOT_EQUAL vLESS vLESS_OR_EQUAL vGREATER vGREATER_OR_EQUAL h0 n0) (s₁.setTop (mkF m 8 #[.val (.int p1), .val (.int (3 : Int32))] []))
  refine Run.go (fun _ k => XS.iloadN X0.here hx rfl (hb hby d1_8) rfl  k) ?_
  show Run p e below s 0 0 (Q_rm1_3 Z p1 vEQUAL vNOT_EQUAL vLESS vLESS_OR_EQUAL vGREATER vGREATER_OR_EQUAL h0 n0) (s₁.setTop (mkF m 9 #[.val (.int p1), .val (.int (3 : Int32))] [(.int (3 : Int32))]))
  refine Run.go (fun _ k => XS.ifYes X0.here hx rfl (pc0 := 9) (pc' := 16) rfl (hb hby d1_9) rfl ((if0 _ _).trans (feq (by decide)).2) (by decide) (by decide) k) ?_
  show Run p e below s 0 0 (Q_rm1_3 Z p1 vEQUAL vNOT_EQUAL vLESS vLESS_OR_EQUAL vGREATER vGREATER_OR_EQUAL h0 n0) (s₁.setTop (mkF m 16 #[.val (.int p1), .val (.int (3 : Int32))] []))
  refine Run.go (fun _ k => XS.iloadN X0.here hx rfl (hb hby d1_16) rfl  k) ?_
  show Run p e below s 0 0 (Q_rm1_3 Z p1 vEQUAL vNOT_EQUAL vLESS vLESS_OR_EQUAL vGREATER vGREATER_OR_EQUAL h0 n0) (s₁.setTop (mkF m 17 #[.val (.int p1), .val (.int (3 : Int32))] [(.int (3 : Int32))]))
  refine Run.go (fun _ k => XS.iconst X0.here hx rfl (hb hby d1_17) k) ?_
  show Run p e below s 0 0 (Q_rm1_3 Z p1 vEQUAL vNOT_EQUAL vLESS vLESS_OR_EQUAL vGREATER vGREATER_OR_EQUAL h0 n0) (s₁.setTop (mkF m 18 #[.val (.int p1), .val (.int (3 : Int32))] [(.int (1 : Int32)), (.int (3 : Int32))]))
  refine Run.go (fun _ k => XS.icmpYes X0.here hx rfl (pc0 := 18) (pc' := 25) rfl (hb hby d1_18) rfl (feq (by decide)).2 (by decide) (by decide) k) ?_
  show Run p e below s 0 0 (Q_rm1_3 Z p1 vEQUAL vNOT_EQUAL vLESS vLESS_OR_EQUAL vGREATER vGREATER_OR_EQUAL h0 n0) (s₁.setTop (mkF m 25 #[.val (.int p1), .val (.int (3 : Int32))] []))
  refine Run.go (fun _ k => XS.iloadN X0.here hx rfl (hb hby d1_25) rfl  k) ?_
  show Run p e below s 0 0 (Q_rm1_3 Z p1 vEQUAL vNOT_EQUAL vLESS vLESS_OR_EQUAL vGREATER vGREATER_OR_EQUAL h0 n0) (s₁.setTop (mkF m 26 #[.val (.int p1), .val (.int (3 : Int32))] [(.int (3 : Int32))]))
  refine Run.go (fun _ k => XS.iconst X0.here hx rfl (hb hby d1_26) k) ?_
  show Run p e below s 0 0 (Q_rm1_3 Z p1 vEQUAL vNOT_EQUAL vLESS vLESS_OR_EQUAL vGREATER vGREATER_OR_EQUAL h0 n0) (s₁.setTop (mkF m 27 #[.val (.int p1), .val (.int (3 : Int32))] [(.int (2 : Int32)), (.int (3 : Int32))]))
  refine Run.go (fun _ k => XS.icmpYes X0.here hx rfl (pc0 := 27) (pc' := 34) rfl (hb hby d1_27) rfl (feq (by decide)).2 (by decide) (by decide) k) ?_
  show Run p e below s 0 0 (Q_rm1_3 Z p1 vEQUAL vNOT_EQUAL vLESS vLESS_OR_EQUAL vGREATER vGREATER_OR_EQUAL h0 n0) (s₁.setTop (mkF m 34 #[.val (.int p1), .val (.int (3 : Int32))] []))
  refine Run.go (fun _ k => XS.iloadN X0.here hx rfl (hb hby d1_34) rfl  k) ?_
  show Run p e below s 0 0 (Q_rm1_3 Z p1 vEQUAL vNOT_EQUAL vLESS vLESS_OR_EQUAL vGREATER vGREATER_OR_EQUAL h0 n0) (s₁.setTop (mkF m 35 #[.val (.int p1), .val (.int (3 : Int32))] [(.int (3 : Int32))]))
  refine Run.go (fun _ k => XS.iconst X0.here hx rfl (hb hby d1_35) k) ?_
  show Run p e below s 0 0 (Q_rm1_3 Z p1 vEQUAL vNOT_EQUAL vLESS vLESS_OR_EQUAL vGREATER vGREATER_OR_EQUAL h0 n0) (s₁.setTop (mkF m 36 #[.val (.int p1), .val (.int (3 : Int32))] [(.int (3 : Int32)), (.int (3 : Int32))]))
  refine Run.go (fun _ k => XS.icmpNo X0.here hx rfl (hb hby d1_36) rfl (teq (rfl : (3 : Int32) = (3 : Int32))).2 k) ?_
  show Run p e below s 0 0 (Q_rm1_3 Z p1 vEQUAL vNOT_EQUAL vLESS vLESS_OR_EQUAL vGREATER vGREATER_OR_EQUAL h0 n0) (s₁.setTop (mkF m 39 #[.val (.int p1), .val (.int (3 : Int32))] []))
  obtain ⟨T2, X2, e2, st2⟩ := getS2 X0 hx hZ hown (host := "") (Or.inl (hw _ (List.mem_of_getElem? (i := 34) rfl))) Via.refl e0 S_Condition_Comparator_LESS_OR_EQUAL (g := (mkF m 39 #[.val (.int p1), .val (.int (3 : Int32))] [])) rfl (hb hby d1_39)
  refine Run.go st2 ?_
  show Run p e below s 0 0 (Q_rm1_3 Z p1 vEQUAL vNOT_EQUAL vLESS vLESS_OR_EQUAL vGREATER vGREATER_OR_EQUAL h0 n0) (T2.setTop (mkF m 42 #[.val (.int p1), .val (.int (3 : Int32))] [(.ref vLESS_OR_EQUAL)]))
  refine Run.retA X2 hx rfl Bd.returns rfl Bd.notSynchronized (hb hby d1_42) (by decide) (by decide) ?_
  show Q_rm1_3 Z p1 vEQUAL vNOT_EQUAL vLESS vLESS_OR_EQUAL vGREATER vGREATER_OR_EQUAL h0 n0 _ T2.heap _
  exact ⟨rfl, N0, e2⟩
theorem d2_42 : decode prog_20_method_6_code 42 = .ok (.getstatic 19, 3) := by decide +kernel
theorem d2_45 : decode prog_20_method_6_code 45 = .ok (.goto 16, 3) := by decide +kernel
def Q_rm2_3 (Z : State) (vLESS_OR_EQUAL : Addr) (vEQUAL : Addr) (vNOT_EQUAL : Addr) (vLESS : Addr) (vGREATER : Addr) (vGREATER_OR_EQUAL : Addr) (h0 : Heap) (n0 : Nat) (v : Option Value) (h : Heap) (L : List Loc) : Prop := v = some (.ref vGREATER_OR_EQUAL) ∧ Fr n0 L ∧ h = h0
theorem ef_rm2_3 (m : MethodId) (x0 : Addr) : entryFrame m #[(.ref x0)] 1 = mkF m 0 #[.val (.ref x0)] [] := by first | (simp [entryFrame, mkF, argsToLocals, Value.category]; done) | rfl
set_option maxRecDepth 65536 in
set_option maxHeartbeats 40000000 in
theorem rm2_3 (l : Launch) (Z : State) (a0 : Array Value) (hw : ∀ d ∈ tables_1, d.before a0 Z = true) (ws : List Jvm.Cond) (vLESS_OR_EQUAL : Addr) (vEQUAL : Addr) (vNOT_EQUAL : Addr) (vLESS : Addr) (vGREATER : Addr) (vGREATER_OR_EQUAL : Addr) (h0 : Heap) (n0 : Nat) (Z0 : n0 ≤ h0.size) (S_Condition_Comparator_EQUAL : Sta Z h0 "com/example/exact_table/exacttable/Condition$Comparator" "EQUAL" "Lcom/example/exact_table/exacttable/Condition$Comparator;" (.ref vEQUAL)) (S_Condition_Comparator_NOT_EQUAL : Sta Z h0 "com/example/exact_table/exacttable/Condition$Comparator" "NOT_EQUAL" "Lcom/example/exact_table/exacttable/Condition$Comparator;" (.ref vNOT_EQUAL)) (S_Condition_Comparator_LESS : Sta Z h0 "com/example/exact_table/exacttable/Condition$Comparator" "LESS" "Lcom/example/exact_table/exacttable/Condition$Comparator;" (.ref vLESS)) (S_Condition_Comparator_LESS_OR_EQUAL : Sta Z h0 "com/example/exact_table/exacttable/Condition$Comparator" "LESS_OR_EQUAL" "Lcom/example/exact_table/exacttable/Condition$Comparator;" (.ref vLESS_OR_EQUAL)) (S_Condition_Comparator_GREATER : Sta Z h0 "com/example/exact_table/exacttable/Condition$Comparator" "GREATER" "Lcom/example/exact_table/exacttable/Condition$Comparator;" (.ref vGREATER)) (S_Condition_Comparator_GREATER_OR_EQUAL : Sta Z h0 "com/example/exact_table/exacttable/Condition$Comparator" "GREATER_OR_EQUAL" "Lcom/example/exact_table/exacttable/Condition$Comparator;" (.ref vGREATER_OR_EQUAL)) (F_ordinal_vLESS_OR_EQUAL : Fld Z h0 vLESS_OR_EQUAL "java/lang/Enum" "ordinal" "I" (.int (3 : Int32))) (E_vLESS_OR_EQUAL : Exa Z h0 vLESS_OR_EQUAL "com/example/exact_table/exacttable/Condition$Comparator") :
    MetFree l (⟨"com/example/exact_table/exacttable/Condition$Comparator", "flipped", "()Lcom/example/exact_table/exacttable/Condition$Comparator;"⟩ : MethodName) (head1 (Jvm.Cond.code (⟨"com/example/exact_table/exacttable/Condition$Comparator", "flipped", "()Lcom/example/exact_table/exacttable/Condition$Comparator;"⟩ : MethodName) prog_20_method_6_code 1 (some (.object "com/example/exact_table/exacttable/Condition$Comparator")) :: ws) ({ frames := 1, cells := 0, slots := 0, locals := 12 } : Room)) (fun a U => a = #[(.ref vLESS_OR_EQUAL)] ∧ Z.Warmed39 U.vm ∧ U.heap = h0) (fun _ _ _ _ _ => True) (fun _ U o U' => ∃ v L, o = .returned v ∧ Q_rm2_3 Z vLESS_OR_EQUAL vEQUAL vNOT_EQUAL vLESS vGREATER vGREATER_OR_EQUAL h0 n0 v U'.heap L ∧ FrameEnd U o U' L ({ frames := 1, cells := 0, slots := 0, locals := 12 } : Room).cells ({ frames := 1, cells := 0, slots := 0, locals := 12 } : Room).slots) := by
  refine MetFree.of_bodySF (plainFor_of_name pn_2) hisR ?_
  intro p e s m args below meth c s₁ Bd hml0 hP hK
  obtain ⟨rfl, hZ, hh⟩ := hP
  have hx := Bd.exec
  have hby := Bd.bytes
  have hml : c.maxLocals = 1 := hml0
  have hown : s.vm.findClass "com/example/exact_table/exacttable/Condition$Comparator" = some m.cls := findClass_of_methodNamed Bd.named
  have hnm := (name_of_methodNamed Bd.named Bd.method).1
  have X0 : Stand p l e ({ frames := 1, cells := 0, slots := 0, locals := 12 } : Room) s m #[(.ref vLESS_OR_EQUAL)] below meth c s₁ [] 0 0 := Stand.of_body Bd
  have e0 : s₁.heap = h0 := by rw [← hh, Bd.state]; rfl
  have N0 := Fr.nil n0
  show Run p e below s 0 0 (Q_rm2_3 Z vLESS_OR_EQUAL vEQUAL vNOT_EQUAL vLESS vGREATER vGREATER_OR_EQUAL h0 n0) (s₁.setTop (entryFrame m #[(.ref vLESS_OR_EQUAL)] 1))
  refine Run.go (fun _ k => castTop (ef_rm2_3 m vLESS_OR_EQUAL) k) ?_
  show Run p e below s 0 0 (Q_rm2_3 Z vLESS_OR_EQUAL vEQUAL vNOT_EQUAL vLESS vGREATER vGREATER_OR_EQUAL h0 n0) (s₁.setTop (mkF m 0 #[.val (.ref vLESS_OR_EQUAL)] []))
  refine Run.go (fun _ k => XS.aloadN X0.here hx rfl (hb hby d2_0) rfl rfl k) ?_
  show Run p e below s 0 0 (Q_rm2_3 Z vLESS_OR_EQUAL vEQUAL vNOT_EQUAL vLESS vGREATER vGREATER_OR_EQUAL h0 n0) (s₁.setTop (mkF m 1 #[.val (.ref vLESS_OR_EQUAL)] [(.ref vLESS_OR_EQUAL)]))
  obtain ⟨cq1, kq1, q1a, q1b, q1c⟩ := isOf hZ e0 E_vLESS_OR_EQUAL
  obtain ⟨_, _, ⟨T1, L1, k1, n1⟩, -, X1, ⟨Lc1, hQ1, l1, y1, z1⟩, st1⟩ := X0.virtualBackUp hx (owner := "java/lang/Enum") (x := (⟨"com/example/exact_table/exacttable/Condition$Comparator", "ordinal", "()I"⟩ : MethodName)) (y := (⟨"java/lang/Enum", "ordinal", "()I"⟩ : MethodName)) hown (mvT hZ (hw _ (List.mem_of_getElem? (i := 13) rfl))) (mvT hZ (hw _ (List.mem_of_getElem? (i := 14) rfl))) (mvT hZ (hw _ (List.mem_of_getElem? (i := 15) rfl))) (by decide) (mvT hZ (hw _ (List.mem_of_getElem? (i := 17) rfl))) (mvT hZ (hw _ (List.mem_of_getElem? (i := 16) rfl))) (backOf (W := 0) (rm3 l Z a0 hw [] vLESS_OR_EQUAL (3 : Int32) h0 n0 Z0 F_ordinal_vLESS_OR_EQUAL) hZ (hw _ (List.mem_of_getElem? (i := 19) rfl)) (hw _ (List.mem_of_getElem? (i := 18) rfl)) (by decide) (by decide)) q1a q1c (g := (mkF m 1 #[.val (.ref vLESS_OR_EQUAL)] [(.ref vLESS_OR_EQUAL)])) rfl (by rw [hml]; rfl) (Steps.refl _) (argsL := []) (rest := []) (lenOf pd_0 rfl) rfl (by show 2 * 0 + _ ≤ _; exact Nat.le_of_eq rfl) (hb hby d2_1) (fun _ _ => ⟨rfl, e0, (by decide : 0 + 0 ≤ _), (by decide : 0 + 0 ≤ _)⟩)
  dsimp only [Pt.U, Pt.locs, Pt.cells, Pt.slots] at X1 l1 y1 z1 st1 hQ1
  subst l1 y1 z1
  obtain ⟨rfl, N1q, e1q⟩ := hQ1
  have N1 := Fr.app N0 N1q
  obtain ⟨Lg1, Xg1, Ng1⟩ := Stand_gen X1 N1
  refine Run.tr st1 ?_
  show Run p e below s 0 0 (Q_rm2_3 Z vLESS_OR_EQUAL vEQUAL vNOT_EQUAL vLESS vGREATER vGREATER_OR_EQUAL h0 n0) (T1.setTop (mkF m 4 #[.val (.ref vLESS_OR_EQUAL)] [(.int (3 : Int32))]))
  refine Run.go (fun _ k => XS.tswIn Xg1.here hx rfl (pc0 := 4) (pc' := 42) rfl (hb hby d2_4) rfl (by decide) rfl (by decide) (by decide) k) ?_
  show Run p e below s 0 0 (Q_rm2_3 Z vLESS_OR_EQUAL vEQUAL vNOT_EQUAL vLESS vGREATER vGREATER_OR_EQUAL h0 n0) (T1.setTop (mkF m 42 #[.val (.ref vLESS_OR_EQUAL)] []))
  obtain ⟨T2, X2, e2, st2⟩ := getS2 Xg1 hx hZ hown (host := "") (Or.inl (hw _ (List.mem_of_getElem? (i := 41) rfl))) Via.refl e1q S_Condition_Comparator_GREATER_OR_EQUAL (g := (mkF m 42 #[.val (.ref vLESS_OR_EQUAL)] [])) rfl (hb hby d2_42)
  refine Run.go st2 ?_
  show Run p e below s 0 0 (Q_rm2_3 Z vLESS_OR_EQUAL vEQUAL vNOT_EQUAL vLESS vGREATER vGREATER_OR_EQUAL h0 n0) (T2.setTop (mkF m 45 #[.val (.ref vLESS_OR_EQUAL)] [(.ref vGREATER_OR_EQUAL)]))
  refine Run.go (fun _ k => XS.goto X2.here hx rfl (pc0 := 45) (pc' := 61) rfl (hb hby d2_45) (by decide) (by decide) k) ?_
  show Run p e below s 0 0 (Q_rm2_3 Z vLESS_OR_EQUAL vEQUAL vNOT_EQUAL vLESS vGREATER vGREATER_OR_EQUAL h0 n0) (T2.setTop (mkF m 61 #[.val (.ref vLESS_OR_EQUAL)] [(.ref vGREATER_OR_EQUAL)]))
  refine Run.retA X2 hx rfl Bd.returns rfl Bd.notSynchronized (hb hby d2_61) (by decide) (by decide) ?_
  show Q_rm2_3 Z vLESS_OR_EQUAL vEQUAL vNOT_EQUAL vLESS vGREATER vGREATER_OR_EQUAL h0 n0 _ T2.heap _
  exact ⟨rfl, Ng1, e2⟩
theorem d4_51 : decode method_3_code 51 = .ok (.aload_n 0, 1) := by decide +kernel
theorem d4_52 : decode method_3_code 52 = .ok (.getstatic 20, 3) := by decide +kernel
theorem d4_55 : decode method_3_code 55 = .ok (.if_acmp .ne 13, 3) := by decide +kernel
theorem d4_58 : decode method_3_code 58 = .ok (.iload_n 1, 1) := by decide +kernel
theorem d4_59 : decode method_3_code 59 = .ok (.ifCond .gt 7, 3) := by decide +kernel
theorem d4_66 : decode method_3_code 66 = .ok (.iconst 0, 1) := by decide +kernel
theorem d4_62 : decode method_3_code 62 = .ok (.iconst 1, 1) := by decide +kernel
theorem d4_63 : decode method_3_code 63 = .ok (.goto 4, 3) := by decide +kernel
theorem d4_67 : decode method_3_code 67 = .ok (.ireturn, 1) := by decide +kernel
def F_rm4_3 (p1 : Int32) : Int32 := let w7 : Int32 := (if (¬ ((0 : Int32) < p1)) then (1 : Int32) else 0); w7
def Q_rm4_3 (Z : State) (vLESS_OR_EQUAL : Addr) (p1 : Int32) (vEQUAL : Addr) (vNOT_EQUAL : Addr) (vLESS : Addr) (vGREATER : Addr) (vGREATER_OR_EQUAL : Addr) (h0 : Heap) (n0 : Nat) (v : Option Value) (h : Heap) (L : List Loc) : Prop := v = some (.int (F_rm4_3 p1)) ∧ Fr n0 L ∧ h = h0
theorem ef_rm4_3 (m : MethodId) (x0 : Addr) (x1 : Int32) : entryFrame m #[(.ref x0), (.int x1)] 2 = mkF m 0 #[.val (.ref x0), .val (.int x1)] [] := by first | (simp [entryFrame, mkF, argsToLocals, Value.category]; done) | rfl
set_option maxRecDepth 65536 in
set_option maxHeartbeats 40000000 in
theorem rm4_3 (l : Launch) (Z : State) (a0 : Array Value) (hw : ∀ d ∈ tables_1, d.before a0 Z = true) (ws : List Jvm.Cond) (vLESS_OR_EQUAL : Addr) (p1 : Int32) (vEQUAL : Addr) (vNOT_EQUAL : Addr) (vLESS : Addr) (vGREATER : Addr) (vGREATER_OR_EQUAL : Addr) (h0 : Heap) (n0 : Nat) (Z0 : n0 ≤ h0.size) (S_Condition_Comparator_EQUAL : Sta Z h0 "com/example/exact_table/exacttable/Condition$Comparator" "EQUAL" "Lcom/example/exact_table/exacttable/Condition$Comparator;" (.ref vEQUAL)) (S_Condition_Comparator_NOT_EQUAL : Sta Z h0 "com/example/exact_table/exacttable/Condition$Comparator" "NOT_EQUAL" "Lcom/example/exact_table/exacttable/Condition$Comparator;" (.ref vNOT_EQUAL)) (S_Condition_Comparator_LESS : Sta Z h0 "com/example/exact_table/exacttable/Condition$Comparator" "LESS" "Lcom/example/exact_table/exacttable/Condition$Comparator;" (.ref vLESS)) (S_Condition_Comparator_LESS_OR_EQUAL : Sta Z h0 "com/example/exact_table/exacttable/Condition$Comparator" "LESS_OR_EQUAL" "Lcom/example/exact_table/exacttable/Condition$Comparator;" (.ref vLESS_OR_EQUAL)) (S_Condition_Comparator_GREATER : Sta Z h0 "com/example/exact_table/exacttable/Condition$Comparator" "GREATER" "Lcom/example/exact_table/exacttable/Condition$Comparator;" (.ref vGREATER)) (S_Condition_Comparator_GREATER_OR_EQUAL : Sta Z h0 "com/example/exact_table/exacttable/Condition$Comparator" "GREATER_OR_EQUAL" "Lcom/example/exact_table/exacttable/Condition$Comparator;" (.ref vGREATER_OR_EQUAL)) (ne_vEQUAL_vNOT_EQUAL : vEQUAL ≠ vNOT_EQUAL) (ne_vEQUAL_vLESS : vEQUAL ≠ vLESS) (ne_vEQUAL_vLESS_OR_EQUAL : vEQUAL ≠ vLESS_OR_EQUAL) (ne_vEQUAL_vGREATER : vEQUAL ≠ vGREATER) (ne_vEQUAL_vGREATER_OR_EQUAL : vEQUAL ≠ vGREATER_OR_EQUAL) (ne_vNOT_EQUAL_vLESS : vNOT_EQUAL ≠ vLESS) (ne_vNOT_EQUAL_vLESS_OR_EQUAL : vNOT_EQUAL ≠ vLESS_OR_EQUAL) (ne_vNOT_EQUAL_vGREATER : vNOT_EQUAL ≠ vGREATER) (ne_vNOT_EQUAL_vGREATER_OR_EQUAL : vNOT_EQUAL ≠ vGREATER_OR_EQUAL) (ne_vLESS_vLESS_OR_EQUAL : vLESS ≠ vLESS_OR_EQUAL) (ne_vLESS_vGREATER : vLESS ≠ vGREATER) (ne_vLESS_vGREATER_OR_EQUAL : vLESS ≠ vGREATER_OR_EQUAL) (ne_vLESS_OR_EQUAL_vGREATER : vLESS_OR_EQUAL ≠ vGREATER) (ne_vLESS_OR_EQUAL_vGREATER_OR_EQUAL : vLESS_OR_EQUAL ≠ vGREATER_OR_EQUAL) (ne_vGREATER_vGREATER_OR_EQUAL : vGREATER ≠ vGREATER_OR_EQUAL) :
    MetFree l (⟨"com/example/exact_table/exacttable/ComparatorFlippedPinLaw", "holds", "(Lcom/example/exact_table/exacttable/Condition$Comparator;I)Z"⟩ : MethodName) (head1 (Jvm.Cond.code (⟨"com/example/exact_table/exacttable/ComparatorFlippedPinLaw", "holds", "(Lcom/example/exact_table/exacttable/Condition$Comparator;I)Z"⟩ : MethodName) method_3_code 2 (some .boolean) :: ws) ({ frames := 0, cells := 0, slots := 0, locals := 0 } : Room)) (fun a U => a = #[(.ref vLESS_OR_EQUAL), (.int p1)] ∧ Z.Warmed39 U.vm ∧ U.heap = h0) (fun _ _ _ _ _ => True) (fun _ U o U' => ∃ v L, o = .returned v ∧ Q_rm4_3 Z vLESS_OR_EQUAL p1 vEQUAL vNOT_EQUAL vLESS vGREATER vGREATER_OR_EQUAL h0 n0 v U'.heap L ∧ FrameEnd U o U' L ({ frames := 0, cells := 0, slots := 0, locals := 0 } : Room).cells ({ frames := 0, cells := 0, slots := 0, locals := 0 } : Room).slots) := by
  refine MetFree.of_bodySF (plainFor_of_name pn_1) hisR ?_
  intro p e s m args below meth c s₁ Bd hml0 hP hK
  obtain ⟨rfl, hZ, hh⟩ := hP
  have hx := Bd.exec
  have hby := Bd.bytes
  have hml : c.maxLocals = 2 := hml0
  have hown : s.vm.findClass "com/example/exact_table/exacttable/ComparatorFlippedPinLaw" = some m.cls := findClass_of_methodNamed Bd.named
  have hnm := (name_of_methodNamed Bd.named Bd.method).1
  have X0 : Stand p l e ({ frames := 0, cells := 0, slots := 0, locals := 0 } : Room) s m #[(.ref vLESS_OR_EQUAL), (.int p1)] below meth c s₁ [] 0 0 := Stand.of_body Bd
  have e0 : s₁.heap = h0 := by rw [← hh, Bd.state]; rfl
  have N0 := Fr.nil n0
  show Run p e below s 0 0 (Q_rm4_3 Z vLESS_OR_EQUAL p1 vEQUAL vNOT_EQUAL vLESS vGREATER vGREATER_OR_EQUAL h0 n0) (s₁.setTop (entryFrame m #[(.ref vLESS_OR_EQUAL), (.int p1)] 2))
  refine Run.go (fun _ k => castTop (ef_rm4_3 m vLESS_OR_EQUAL p1) k) ?_
  show Run p e below s 0 0 (Q_rm4_3 Z vLESS_OR_EQUAL p1 vEQUAL vNOT_EQUAL vLESS vGREATER vGREATER_OR_EQUAL h0 n0) (s₁.setTop (mkF m 0 #[.val (.ref vLESS_OR_EQUAL), .val (.int p1)] []))
  refine Run.go (fun _ k => XS.aloadN X0.here hx rfl (hb hby d4_0) rfl rfl k) ?_
  show Run p e below s 0 0 (Q_rm4_3 Z vLESS_OR_EQUAL p1 vEQUAL vNOT_EQUAL vLESS vGREATER vGREATER_OR_EQUAL h0 n0) (s₁.setTop (mkF m 1 #[.val (.ref vLESS_OR_EQUAL), .val (.int p1)] [(.ref vLESS_OR_EQUAL)]))
  obtain ⟨T2, X2, e2, st2⟩ := getS2 X0 hx hZ hown (host := "") (Or.inl (hw _ (List.mem_of_getElem? (i := 5) rfl))) Via.refl e0 S_Condition_Comparator_EQUAL (g := (mkF m 1 #[.val (.ref vLESS_OR_EQUAL), .val (.int p1)] [(.ref vLESS_OR_EQUAL)])) rfl (hb hby d4_1)
  refine Run.go st2 ?_
  show Run p e below s 0 0 (Q_rm4_3 Z vLESS_OR_EQUAL p1 vEQUAL vNOT_EQUAL vLESS vGREATER vGREATER_OR_EQUAL h0 n0) (T2.setTop (mkF m 4 #[.val (.ref vLESS_OR_EQUAL), .val (.int p1)] [(.ref vEQUAL), (.ref vLESS_OR_EQUAL)]))
  refine Run.go (fun _ k => Jvm.RoadKit.acmp (g := (mkF m 4 #[.val (.ref vLESS_OR_EQUAL), .val (.int p1)] [(.ref vEQUAL), (.ref vLESS_OR_EQUAL)])) X2 hx rfl rfl rfl (pc0 := 4) (pc' := 17) (same := false) rfl (hb hby d4_4) rfl (decide_eq_false fun q => (Ne.symm ne_vEQUAL_vLESS_OR_EQUAL) (Value.ref.inj q)) (by decide) (by decide) k) ?_
  show Run p e below s 0 0 (Q_rm4_3 Z vLESS_OR_EQUAL p1 vEQUAL vNOT_EQUAL vLESS vGREATER vGREATER_OR_EQUAL h0 n0) (T2.setTop (mkF m 17 #[.val (.ref vLESS_OR_EQUAL), .val (.int p1)] []))
  refine Run.go (fun _ k => XS.aloadN X2.here hx rfl (hb hby d4_17) rfl rfl k) ?_
  show Run p e below s 0 0 (Q_rm4_3 Z vLESS_OR_EQUAL p1 vEQUAL vNOT_EQUAL vLESS vGREATER vGREATER_OR_EQUAL h0 n0) (T2.setTop (mkF m 18 #[.val (.ref vLESS_OR_EQUAL), .val (.int p1)] [(.ref vLESS_OR_EQUAL)]))
  obtain ⟨T3, X3, e3, st3⟩ := getS2 X2 hx hZ hown (host := "") (Or.inl (hw _ (List.mem_of_getElem? (i := 28) rfl))) Via.refl e2 S_Condition_Comparator_NOT_EQUAL (g := (mkF m 18 #[.val (.ref vLESS_OR_EQUAL), .val (.int p1)] [(.ref vLESS_OR_EQUAL)])) rfl (hb hby d4_18)
  refine Run.go st3 ?_
  show Run p e below s 0 0 (Q_rm4_3 Z vLESS_OR_EQUAL p1 vEQUAL vNOT_EQUAL vLESS vGREATER vGREATER_OR_EQUAL h0 n0) (T3.setTop (mkF m 21 #[.val (.ref vLESS_OR_EQUAL), .val (.int p1)] [(.ref vNOT_EQUAL), (.ref vLESS_OR_EQUAL)]))
  refine Run.go (fun _ k => Jvm.RoadKit.acmp (g := (mkF m 21 #[.val (.ref vLESS_OR_EQUAL), .val (.int p1)] [(.ref vNOT_EQUAL), (.ref vLESS_OR_EQUAL)])) X3 hx rfl rfl rfl (pc0 := 21) (pc' := 34) (same := false) rfl (hb hby d4_21) rfl (decide_eq_false fun q => (Ne.symm ne_vNOT_EQUAL_vLESS_OR_EQUAL) (Value.ref.inj q)) (by decide) (by decide) k) ?_
  show Run p e below s 0 0 (Q_rm4_3 Z vLESS_OR_EQUAL p1 vEQUAL vNOT_EQUAL vLESS vGREATER vGREATER_OR_EQUAL h0 n0) (T3.setTop (mkF m 34 #[.val (.ref vLESS_OR_EQUAL), .val (.int p1)] []))
  refine Run.go (fun _ k => XS.aloadN X3.here hx rfl (hb hby d4_34) rfl rfl k) ?_
  show Run p e below s 0 0 (Q_rm4_3 Z vLESS_OR_EQUAL p1 vEQUAL vNOT_EQUAL vLESS vGREATER vGREATER_OR_EQUAL h0 n0) (T3.setTop (mkF m 35 #[.val (.ref vLESS_OR_EQUAL), .val (.int p1)] [(.ref vLESS_OR_EQUAL)]))
  obtain ⟨T4, X4, e4, st4⟩ := getS2 X3 hx hZ hown (host := "") (Or.inl (hw _ (List.mem_of_getElem? (i := 30) rfl))) Via.refl e3 S_Condition_Comparator_LESS (g := (mkF m 35 #[.val (.ref vLESS_OR_EQUAL), .val (.int p1)] [(.ref vLESS_OR_EQUAL)])) rfl (hb hby d4_35)
  refine Run.go st4 ?_
  show Run p e below s 0 0 (Q_rm4_3 Z vLESS_OR_EQUAL p1 vEQUAL vNOT_EQUAL vLESS vGREATER vGREATER_OR_EQUAL h0 n0) (T4.setTop (mkF m 38 #[.val (.ref vLESS_OR_EQUAL), .val (.int p1)] [(.ref vLESS), (.ref vLESS_OR_EQUAL)]))
  refine Run.go (fun _ k => Jvm.RoadKit.acmp (g := (mkF m 38 #[.val (.ref vLESS_OR_EQUAL), .val (.int p1)] [(.ref vLESS), (.ref vLESS_OR_EQUAL)])) X4 hx rfl rfl rfl (pc0 := 38) (pc' := 51) (same := false) rfl (hb hby d4_38) rfl (decide_eq_false fun q => (Ne.symm ne_vLESS_vLESS_OR_EQUAL) (Value.ref.inj q)) (by decide) (by decide) k) ?_
  show Run p e below s 0 0 (Q_rm4_3 Z vLESS_OR_EQUAL p1 vEQUAL vNOT_EQUAL vLESS vGREATER vGREATER_OR_EQUAL h0 n0) (T4.setTop (mkF m 51 #[.val (.ref vLESS_OR_EQUAL), .val (.int p1)] []))
  refine Run.go (fun _ k => XS.aloadN X4.here hx rfl (hb hby d4_51) rfl rfl k) ?_
  show Run p e below s 0 0 (Q_rm4_3 Z vLESS_OR_EQUAL p1 vEQUAL vNOT_EQUAL vLESS vGREATER vGREATER_OR_EQUAL h0 n0) (T4.setTop (mkF m 52 #[.val (.ref vLESS_OR_EQUAL), .val (.int p1)] [(.ref vLESS_OR_EQUAL)]))
  obtain ⟨T5, X5, e5, st5⟩ := getS2 X4 hx hZ hown (host := "") (Or.inl (hw _ (List.mem_of_getElem? (i := 34) rfl))) Via.refl e4 S_Condition_Comparator_LESS_OR_EQUAL (g := (mkF m 52 #[.val (.ref vLESS_OR_EQUAL), .val (.int p1)] [(.ref vLESS_OR_EQUAL)])) rfl (hb hby d4_52)
  refine Run.go st5 ?_
  show Run p e below s 0 0 (Q_rm4_3 Z vLESS_OR_EQUAL p1 vEQUAL vNOT_EQUAL vLESS vGREATER vGREATER_OR_EQUAL h0 n0) (T5.setTop (mkF m 55 #[.val (.ref vLESS_OR_EQUAL), .val (.int p1)] [(.ref vLESS_OR_EQUAL), (.ref vLESS_OR_EQUAL)]))
  refine Run.go (fun _ k => Jvm.RoadKit.acmp (g := (mkF m 55 #[.val (.ref vLESS_OR_EQUAL), .val (.int p1)] [(.ref vLESS_OR_EQUAL), (.ref vLESS_OR_EQUAL)])) X5 hx rfl rfl rfl (pc0 := 55) (pc' := 58) (same := true) rfl (hb hby d4_55) rfl (decide_eq_true rfl) (by decide) (by decide) k) ?_
  show Run p e below s 0 0 (Q_rm4_3 Z vLESS_OR_EQUAL p1 vEQUAL vNOT_EQUAL vLESS vGREATER vGREATER_OR_EQUAL h0 n0) (T5.setTop (mkF m 58 #[.val (.ref vLESS_OR_EQUAL), .val (.int p1)] []))
  refine Run.go (fun _ k => XS.iloadN X5.here hx rfl (hb hby d4_58) rfl  k) ?_
  show Run p e below s 0 0 (Q_rm4_3 Z vLESS_OR_EQUAL p1 vEQUAL vNOT_EQUAL vLESS vGREATER vGREATER_OR_EQUAL h0 n0) (T5.setTop (mkF m 59 #[.val (.ref vLESS_OR_EQUAL), .val (.int p1)] [(.int p1)]))
  have J6 : ∀ (w7 : Int32) (hw7 : w7 = (if (¬ ((0 : Int32) < p1)) then (1 : Int32) else 0)) (T8 : State) (L8 : List Loc) (X8 : Stand p l e ({ frames := 0, cells := 0, slots := 0, locals := 0 } : Room) s m #[(.ref vLESS_OR_EQUAL), (.int p1)] below meth c T8 L8 0 0) (e8 : T8.heap = h0) (N8 : Fr n0 L8), Run p e below s 0 0 (Q_rm4_3 Z vLESS_OR_EQUAL p1 vEQUAL vNOT_EQUAL vLESS vGREATER vGREATER_OR_EQUAL h0 n0) (T8.setTop (mkF m 67 #[.val (.ref vLESS_OR_EQUAL), .val (.int p1)] [(.int w7)])) := by
    intro w7 hw7 T8 L8 X8 e8 N8
    show Run p e below s 0 0 (Q_rm4_3 Z vLESS_OR_EQUAL p1 vEQUAL vNOT_EQUAL vLESS vGREATER vGREATER_OR_EQUAL h0 n0) (T8.setTop (mkF m 67 #[.val (.ref vLESS_OR_EQUAL), .val (.int p1)] [(.int w7)]))
    refine Run.retN (y := w7) X8 hx (t := .boolean) Bd.returns (by simp) (by rw [hw7]; exact nar_ite _) Bd.notSynchronized (hb hby d4_67) (by decide) (by decide) ?_
    show Q_rm4_3 Z vLESS_OR_EQUAL p1 vEQUAL vNOT_EQUAL vLESS vGREATER vGREATER_OR_EQUAL h0 n0 _ T8.heap _
    exact ⟨congrArg some (congrArg Value.int (show w7 = (F_rm4_3 p1) from (by subst hw7; unfold F_rm4_3; rfl))), N8, e8⟩
  by_cases hc9 : ((0 : Int32) < p1)
  · refine Run.go (fun _ k => XS.ifYes X5.here hx rfl (pc0 := 59) (pc' := 66) rfl (hb hby d4_59) rfl ((if0 _ _).trans (tlt hc9).2.2.1) (by decide) (by decide) k) ?_
    show Run p e below s 0 0 (Q_rm4_3 Z vLESS_OR_EQUAL p1 vEQUAL vNOT_EQUAL vLESS vGREATER vGREATER_OR_EQUAL h0 n0) (T5.setTop (mkF m 66 #[.val (.ref vLESS_OR_EQUAL), .val (.int p1)] []))
    refine Run.go (fun _ k => XS.iconst X5.here hx rfl (hb hby d4_66) k) ?_
    show Run p e below s 0 0 (Q_rm4_3 Z vLESS_OR_EQUAL p1 vEQUAL vNOT_EQUAL vLESS vGREATER vGREATER_OR_EQUAL h0 n0) (T5.setTop (mkF m 67 #[.val (.ref vLESS_OR_EQUAL), .val (.int p1)] [(.int (0 : Int32))]))
    exact J6 _ (if_neg (fun q => q hc9)).symm _ _ X5 e5 N0
  · refine Run.go (fun _ k => XS.ifNo X5.here hx rfl (hb hby d4_59) rfl ((if0 _ _).trans (flt hc9).2.2.1) k) ?_
    show Run p e below s 0 0 (Q_rm4_3 Z vLESS_OR_EQUAL p1 vEQUAL vNOT_EQUAL vLESS vGREATER vGREATER_OR_EQUAL h0 n0) (T5.setTop (mkF m 62 #[.val (.ref vLESS_OR_EQUAL), .val (.int p1)] []))
    refine Run.go (fun _ k => XS.iconst X5.here hx rfl (hb hby d4_62) k) ?_
    show Run p e below s 0 0 (Q_rm4_3 Z vLESS_OR_EQUAL p1 vEQUAL vNOT_EQUAL vLESS vGREATER vGREATER_OR_EQUAL h0 n0) (T5.setTop (mkF m 63 #[.val (.ref vLESS_OR_EQUAL), .val (.int p1)] [(.int (1 : Int32))]))
    refine Run.go (fun _ k => XS.goto X5.here hx rfl (pc0 := 63) (pc' := 67) rfl (hb hby d4_63) (by decide) (by decide) k) ?_
    show Run p e below s 0 0 (Q_rm4_3 Z vLESS_OR_EQUAL p1 vEQUAL vNOT_EQUAL vLESS vGREATER vGREATER_OR_EQUAL h0 n0) (T5.setTop (mkF m 67 #[.val (.ref vLESS_OR_EQUAL), .val (.int p1)] [(.int (1 : Int32))]))
    exact J6 _ (if_pos hc9).symm _ _ X5 e5 N0
theorem d1_43 : decode method_2_code 43 = .ok (.iload_n 1, 1) := by decide +kernel
theorem d1_44 : decode method_2_code 44 = .ok (.iconst 4, 1) := by decide +kernel
theorem d1_45 : decode method_2_code 45 = .ok (.if_icmp .ne 7, 3) := by decide +kernel
theorem d1_48 : decode method_2_code 48 = .ok (.getstatic 23, 3) := by decide +kernel
theorem d1_51 : decode method_2_code 51 = .ok (.areturn, 1) := by decide +kernel
def Q_rm1_4 (Z : State) (p1 : Int32) (vEQUAL : Addr) (vNOT_EQUAL : Addr) (vLESS : Addr) (vLESS_OR_EQUAL : Addr) (vGREATER : Addr) (vGREATER_OR_EQUAL : Addr) (h0 : Heap) (n0 : Nat) (v : Option Value) (h : Heap) (L : List Loc) : Prop := v = some (.ref vGREATER) ∧ Fr n0 L ∧ h = h0
theorem ef_rm1_4 (m : MethodId) (x0 : Int32) : entryFrame m #[(.int x0)] 2 = mkF m 0 #[.val (.int x0), .unset] [] := by first | (simp [entryFrame, mkF, argsToLocals, Value.category]; done) | rfl
set_option maxRecDepth 65536 in
set_option maxHeartbeats 40000000 in
theorem rm1_4 (l : Launch) (Z : State) (a0 : Array Value) (hw : ∀ d ∈ tables_1, d.before a0 Z = true) (ws : List Jvm.Cond) (p1 : Int32) (vEQUAL : Addr) (vNOT_EQUAL : Addr) (vLESS : Addr) (vLESS_OR_EQUAL : Addr) (vGREATER : Addr) (vGREATER_OR_EQUAL : Addr) (h0 : Heap) (n0 : Nat) (Z0 : n0 ≤ h0.size) (S_Condition_Comparator_EQUAL : Sta Z h0 "com/example/exact_table/exacttable/Condition$Comparator" "EQUAL" "Lcom/example/exact_table/exacttable/Condition$Comparator;" (.ref vEQUAL)) (S_Condition_Comparator_NOT_EQUAL : Sta Z h0 "com/example/exact_table/exacttable/Condition$Comparator" "NOT_EQUAL" "Lcom/example/exact_table/exacttable/Condition$Comparator;" (.ref vNOT_EQUAL)) (S_Condition_Comparator_LESS : Sta Z h0 "com/example/exact_table/exacttable/Condition$Comparator" "LESS" "Lcom/example/exact_table/exacttable/Condition$Comparator;" (.ref vLESS)) (S_Condition_Comparator_LESS_OR_EQUAL : Sta Z h0 "com/example/exact_table/exacttable/Condition$Comparator" "LESS_OR_EQUAL" "Lcom/example/exact_table/exacttable/Condition$Comparator;" (.ref vLESS_OR_EQUAL)) (S_Condition_Comparator_GREATER : Sta Z h0 "com/example/exact_table/exacttable/Condition$Comparator" "GREATER" "Lcom/example/exact_table/exacttable/Condition$Comparator;" (.ref vGREATER)) (S_Condition_Comparator_GREATER_OR_EQUAL : Sta Z h0 "com/example/exact_table/exacttable/Condition$Comparator" "GREATER_OR_EQUAL" "Lcom/example/exact_table/exacttable/Condition$Comparator;" (.ref vGREATER_OR_EQUAL)) (hk : ((p1 &&& (2147483647 : Int32)) % (6 : Int32)) = (4 : Int32)) :
    MetFree l (⟨"com/example/exact_table/exacttable/ComparatorFlippedPinLaw", "pick", "(I)Lcom/example/exact_table/exacttable/Condition$Comparator;"⟩ : MethodName) (head1 (Jvm.Cond.code (⟨"com/example/exact_table/exacttable/ComparatorFlippedPinLaw", "pick", "(I)Lcom/example/exact_table/exacttable/Condition$Comparator;"⟩ : MethodName) method_2_code 2 (some (.object "com/example/exact_table/exacttable/Condition$Comparator")) :: ws) ({ frames := 0, cells := 0, slots := 0, locals := 0 } : Room)) (fun a U => a = #[(.int p1)] ∧ Z.Warmed39 U.vm ∧ U.heap = h0) (fun _ _ _ _ _ => True) (fun _ U o U' => ∃ v L, o = .returned v ∧ Q_rm1_4 Z p1 vEQUAL vNOT_EQUAL vLESS vLESS_OR_EQUAL vGREATER vGREATER_OR_EQUAL h0 n0 v U'.heap L ∧ FrameEnd U o U' L ({ frames := 0, cells := 0, slots := 0, locals := 0 } : Room).cells ({ frames := 0, cells := 0, slots := 0, locals := 0 } : Room).slots) := by
  refine MetFree.of_bodySF (plainFor_of_name pn_1) hisR ?_
  intro p e s m args below meth c s₁ Bd hml0 hP hK
  obtain ⟨rfl, hZ, hh⟩ := hP
  have hx := Bd.exec
  have hby := Bd.bytes
  have hml : c.maxLocals = 2 := hml0
  have hown : s.vm.findClass "com/example/exact_table/exacttable/ComparatorFlippedPinLaw" = some m.cls := findClass_of_methodNamed Bd.named
  have hnm := (name_of_methodNamed Bd.named Bd.method).1
  have X0 : Stand p l e ({ frames := 0, cells := 0, slots := 0, locals := 0 } : Room) s m #[(.int p1)] below meth c s₁ [] 0 0 := Stand.of_body Bd
  have e0 : s₁.heap = h0 := by rw [← hh, Bd.state]; rfl
  have N0 := Fr.nil n0
  show Run p e below s 0 0 (Q_rm1_4 Z p1 vEQUAL vNOT_EQUAL vLESS vLESS_OR_EQUAL vGREATER vGREATER_OR_EQUAL h0 n0) (s₁.setTop (entryFrame m #[(.int p1)] 2))
  refine Run.go (fun _ k => castTop (ef_rm1_4 m p1) k) ?_
  show Run p e below s 0 0 (Q_rm1_4 Z p1 vEQUAL vNOT_EQUAL vLESS vLESS_OR_EQUAL vGREATER vGREATER_OR_EQUAL h0 n0) (s₁.setTop (mkF m 0 #[.val (.int p1), .unset] []))
  refine Run.go (fun _ k => XS.iloadN X0.here hx rfl (hb hby d1_0) rfl  k) ?_
  show Run p e below s 0 0 (Q_rm1_4 Z p1 vEQUAL vNOT_EQUAL vLESS vLESS_OR_EQUAL vGREATER vGREATER_OR_EQUAL h0 n0) (s₁.setTop (mkF m 1 #[.val (.int p1), .unset] [(.int p1)]))
  refine Run.go (fun _ k => X0.ldcInt hx hown (mvT hZ (hw _ (List.mem_of_getElem? (i := 4) rfl))) (g := (mkF m 1 #[.val (.int p1), .unset] [(.int p1)])) rfl (hb hby d1_1) _ k) ?_
  show Run p e below s 0 0 (Q_rm1_4 Z p1 vEQUAL vNOT_EQUAL vLESS vLESS_OR_EQUAL vGREATER vGREATER_OR_EQUAL h0 n0) (s₁.setTop (mkF m 3 #[.val (.int p1), .unset] [(.int (2147483647 : Int32)), (.int p1)]))
  refine Run.go (fun _ k => XS.iand X0.here hx rfl (hb hby d1_3) rfl k) ?_
  show Run p e below s 0 0 (Q_rm1_4 Z p1 vEQUAL vNOT_EQUAL vLESS vLESS_OR_EQUAL vGREATER vGREATER_OR_EQUAL h0 n0) (s₁.setTop (mkF m 4 #[.val (.int p1), .unset] [(.int (p1 &&& (2147483647 : Int32)))]))
  refine Run.go (fun _ k => XS.bipush X0.here hx rfl (hb hby d1_4) k) ?_
  show Run p e below s 0 0 (Q_rm1_4 Z p1 vEQUAL vNOT_EQUAL vLESS vLESS_OR_EQUAL vGREATER vGREATER_OR_EQUAL h0 n0) (s₁.setTop (mkF m 6 #[.val (.int p1), .unset] [(.int (6 : Int32)), (.int (p1 &&& (2147483647 : Int32)))]))
  refine Run.go (fun _ k => iremM X0 hx rfl (hb hby d1_6) rfl (by decide) k) ?_
  show Run p e below s 0 0 (Q_rm1_4 Z p1 vEQUAL vNOT_EQUAL vLESS vLESS_OR_EQUAL vGREATER vGREATER_OR_EQUAL h0 n0) (s₁.setTop (mkF m 7 #[.val (.int p1), .unset] [(.int ((p1 &&& (2147483647 : Int32)) % (6 : Int32)))]))
  refine Run.go (fun _ k => XS.istoreN X0.here hx rfl (hb hby d1_7) rfl (l' := #[.val (.int p1), .val (.int ((p1 &&& (2147483647 : Int32)) % (6 : Int32)))]) rfl k) ?_
  show Run p e below s 0 0 (Q_rm1_4 Z p1 vEQUAL vNOT_EQUAL vLESS vLESS_OR_EQUAL vGREATER vGREATER_OR_EQUAL h0 n0) (s₁.setTop (mkF m 8 #[.val (.int p1), .val (.int ((p1 &&& (2147483647 : Int32)) % (6 : Int32)))] []))
  rw [hk]
  show Run p e below s 0 0 (Q_rm1_4 Z p1 vEQUAL vNOT_EQUAL vLESS vLESS_OR_EQUAL vGREATER vGREATER_OR_EQUAL h0 n0) (s₁.setTop (mkF m 8 #[.val (.int p1), .val (.int (4 : Int32))] []))
  refine Run.go (fun _ k => XS.iloadN X0.here hx rfl (hb hby d1_8) rfl  k) ?_
  show Run p e below s 0 0 (Q_rm1_4 Z p1 vEQUAL vNOT_EQUAL vLESS vLESS_OR_EQUAL vGREATER vGREATER_OR_EQUAL h0 n0) (s₁.setTop (mkF m 9 #[.val (.int p1), .val (.int (4 : Int32))] [(.int (4 : Int32))]))
  refine Run.go (fun _ k => XS.ifYes X0.here hx rfl (pc0 := 9) (pc' := 16) rfl (hb hby d1_9) rfl ((if0 _ _).trans (feq (by decide)).2) (by decide) (by decide) k) ?_
  show Run p e below s 0 0 (Q_rm1_4 Z p1 vEQUAL vNOT_EQUAL vLESS vLESS_OR_EQUAL vGREATER vGREATER_OR_EQUAL h0 n0) (s₁.setTop (mkF m 16 #[.val (.int p1), .val (.int (4 : Int32))] []))
  refine Run.go (fun _ k => XS.iloadN X0.here hx rfl (hb hby d1_16) rfl  k) ?_
  show Run p e below s 0 0 (Q_rm1_4 Z p1 vEQUAL vNOT_EQUAL vLESS vLESS_OR_EQUAL vGREATER vGREATER_OR_EQUAL h0 n0) (s₁.setTop (mkF m 17 #[.val (.int p1), .val (.int (4 : Int32))] [(.int (4 : Int32))]))
  refine Run.go (fun _ k => XS.iconst X0.here hx rfl (hb hby d1_17) k) ?_
  show Run p e below s 0 0 (Q_rm1_4 Z p1 vEQUAL vNOT_EQUAL vLESS vLESS_OR_EQUAL vGREATER vGREATER_OR_EQUAL h0 n0) (s₁.setTop (mkF m 18 #[.val (.int p1), .val (.int (4 : Int32))] [(.int (1 : Int32)), (.int (4 : Int32))]))
  refine Run.go (fun _ k => XS.icmpYes X0.here hx rfl (pc0 := 18) (pc' := 25) rfl (hb hby d1_18) rfl (feq (by decide)).2 (by decide) (by decide) k) ?_
  show Run p e below s 0 0 (Q_rm1_4 Z p1 vEQUAL vNOT_EQUAL vLESS vLESS_OR_EQUAL vGREATER vGREATER_OR_EQUAL h0 n0) (s₁.setTop (mkF m 25 #[.val (.int p1), .val (.int (4 : Int32))] []))
  refine Run.go (fun _ k => XS.iloadN X0.here hx rfl (hb hby d1_25) rfl  k) ?_
  show Run p e below s 0 0 (Q_rm1_4 Z p1 vEQUAL vNOT_EQUAL vLESS vLESS_OR_EQUAL vGREATER vGREATER_OR_EQUAL h0 n0) (s₁.setTop (mkF m 26 #[.val (.int p1), .val (.int (4 : Int32))] [(.int (4 : Int32))]))
  refine Run.go (fun _ k => XS.iconst X0.here hx rfl (hb hby d1_26) k) ?_
  show Run p e below s 0 0 (Q_rm1_4 Z p1 vEQUAL vNOT_EQUAL vLESS vLESS_OR_EQUAL vGREATER vGREATER_OR_EQUAL h0 n0) (s₁.setTop (mkF m 27 #[.val (.int p1), .val (.int (4 : Int32))] [(.int (2 : Int32)), (.int (4 : Int32))]))
  refine Run.go (fun _ k => XS.icmpYes X0.here hx rfl (pc0 := 27) (pc' := 34) rfl (hb hby d1_27) rfl (feq (by decide)).2 (by decide) (by decide) k) ?_
  show Run p e below s 0 0 (Q_rm1_4 Z p1 vEQUAL vNOT_EQUAL vLESS vLESS_OR_EQUAL vGREATER vGREATER_OR_EQUAL h0 n0) (s₁.setTop (mkF m 34 #[.val (.int p1), .val (.int (4 : Int32))] []))
  refine Run.go (fun _ k => XS.iloadN X0.here hx rfl (hb hby d1_34) rfl  k) ?_
  show Run p e below s 0 0 (Q_rm1_4 Z p1 vEQUAL vNOT_EQUAL vLESS vLESS_OR_EQUAL vGREATER vGREATER_OR_EQUAL h0 n0) (s₁.setTop (mkF m 35 #[.val (.int p1), .val (.int (4 : Int32))] [(.int (4 : Int32))]))
  refine Run.go (fun _ k => XS.iconst X0.here hx rfl (hb hby d1_35) k) ?_
  show Run p e below s 0 0 (Q_rm1_4 Z p1 vEQUAL vNOT_EQUAL vLESS vLESS_OR_EQUAL vGREATER vGREATER_OR_EQUAL h0 n0) (s₁.setTop (mkF m 36 #[.val (.int p1), .val (.int (4 : Int32))] [(.int (3 : Int32)), (.int (4 : Int32))]))
  refine Run.go (fun _ k => XS.icmpYes X0.here hx rfl (pc0 := 36) (pc' := 43) rfl (hb hby d1_36) rfl (feq (by decide)).2 (by decide) (by decide) k) ?_
  show Run p e below s 0 0 (Q_rm1_4 Z p1 vEQUAL vNOT_EQUAL vLESS vLESS_OR_EQUAL vGREATER vGREATER_OR_EQUAL h0 n0) (s₁.setTop (mkF m 43 #[.val (.int p1), .val (.int (4 : Int32))] []))
  refine Run.go (fun _ k => XS.iloadN X0.here hx rfl (hb hby d1_43) rfl  k) ?_
  show Run p e below s 0 0 (Q_rm1_4 Z p1 vEQUAL vNOT_EQUAL vLESS vLESS_OR_EQUAL vGREATER vGREATER_OR_EQUAL h0 n0) (s₁.setTop (mkF m 44 #[.val (.int p1), .val (.int (4 : Int32))] [(.int (4 : Int32))]))
  refine Run.go (fun _ k => XS.iconst X0.here hx rfl (hb hby d1_44) k) ?_
  show Run p e below s 0 0 (Q_rm1_4 Z p1 vEQUAL vNOT_EQUAL vLESS vLESS_OR_EQUAL vGREATER vGREATER_OR_EQUAL h0 n0) (s₁.setTop (mkF m 45 #[.val (.int p1), .val (.int (4 : Int32))] [(.int (4 : Int32)), (.int (4 : Int32))]))
  refine Run.go (fun _ k => XS.icmpNo X0.here hx rfl (hb hby d1_45) rfl (teq (rfl : (4 : Int32) = (4 : Int32))).2 k) ?_
  show Run p e below s 0 0 (Q_rm1_4 Z p1 vEQUAL vNOT_EQUAL vLESS vLESS_OR_EQUAL vGREATER vGREATER_OR_EQUAL h0 n0) (s₁.setTop (mkF m 48 #[.val (.int p1), .val (.int (4 : Int32))] []))
  obtain ⟨T2, X2, e2, st2⟩ := getS2 X0 hx hZ hown (host := "") (Or.inl (hw _ (List.mem_of_getElem? (i := 36) rfl))) Via.refl e0 S_Condition_Comparator_GREATER (g := (mkF m 48 #[.val (.int p1), .val (.int (4 : Int32))] [])) rfl (hb hby d1_48)
  refine Run.go st2 ?_
  show Run p e below s 0 0 (Q_rm1_4 Z p1 vEQUAL vNOT_EQUAL vLESS vLESS_OR_EQUAL vGREATER vGREATER_OR_EQUAL h0 n0) (T2.setTop (mkF m 51 #[.val (.int p1), .val (.int (4 : Int32))] [(.ref vGREATER)]))
  refine Run.retA X2 hx rfl Bd.returns rfl Bd.notSynchronized (hb hby d1_51) (by decide) (by decide) ?_
  show Q_rm1_4 Z p1 vEQUAL vNOT_EQUAL vLESS vLESS_OR_EQUAL vGREATER vGREATER_OR_EQUAL h0 n0 _ T2.heap _
  exact ⟨rfl, N0, e2⟩
theorem d2_48 : decode prog_20_method_6_code 48 = .ok (.getstatic 10, 3) := by decide +kernel
theorem d2_51 : decode prog_20_method_6_code 51 = .ok (.goto 10, 3) := by decide +kernel
def Q_rm2_4 (Z : State) (vGREATER : Addr) (vEQUAL : Addr) (vNOT_EQUAL : Addr) (vLESS : Addr) (vLESS_OR_EQUAL : Addr) (vGREATER_OR_EQUAL : Addr) (h0 : Heap) (n0 : Nat) (v : Option Value) (h : Heap) (L : List Loc) : Prop := v = some (.ref vLESS) ∧ Fr n0 L ∧ h = h0
theorem ef_rm2_4 (m : MethodId) (x0 : Addr) : entryFrame m #[(.ref x0)] 1 = mkF m 0 #[.val (.ref x0)] [] := by first | (simp [entryFrame, mkF, argsToLocals, Value.category]; done) | rfl
set_option maxRecDepth 65536 in
set_option maxHeartbeats 40000000 in
theorem rm2_4 (l : Launch) (Z : State) (a0 : Array Value) (hw : ∀ d ∈ tables_1, d.before a0 Z = true) (ws : List Jvm.Cond) (vGREATER : Addr) (vEQUAL : Addr) (vNOT_EQUAL : Addr) (vLESS : Addr) (vLESS_OR_EQUAL : Addr) (vGREATER_OR_EQUAL : Addr) (h0 : Heap) (n0 : Nat) (Z0 : n0 ≤ h0.size) (S_Condition_Comparator_EQUAL : Sta Z h0 "com/example/exact_table/exacttable/Condition$Comparator" "EQUAL" "Lcom/example/exact_table/exacttable/Condition$Comparator;" (.ref vEQUAL)) (S_Condition_Comparator_NOT_EQUAL : Sta Z h0 "com/example/exact_table/exacttable/Condition$Comparator" "NOT_EQUAL" "Lcom/example/exact_table/exacttable/Condition$Comparator;" (.ref vNOT_EQUAL)) (S_Condition_Comparator_LESS : Sta Z h0 "com/example/exact_table/exacttable/Condition$Comparator" "LESS" "Lcom/example/exact_table/exacttable/Condition$Comparator;" (.ref vLESS)) (S_Condition_Comparator_LESS_OR_EQUAL : Sta Z h0 "com/example/exact_table/exacttable/Condition$Comparator" "LESS_OR_EQUAL" "Lcom/example/exact_table/exacttable/Condition$Comparator;" (.ref vLESS_OR_EQUAL)) (S_Condition_Comparator_GREATER : Sta Z h0 "com/example/exact_table/exacttable/Condition$Comparator" "GREATER" "Lcom/example/exact_table/exacttable/Condition$Comparator;" (.ref vGREATER)) (S_Condition_Comparator_GREATER_OR_EQUAL : Sta Z h0 "com/example/exact_table/exacttable/Condition$Comparator" "GREATER_OR_EQUAL" "Lcom/example/exact_table/exacttable/Condition$Comparator;" (.ref vGREATER_OR_EQUAL)) (F_ordinal_vGREATER : Fld Z h0 vGREATER "java/lang/Enum" "ordinal" "I" (.int (4 : Int32))) (E_vGREATER : Exa Z h0 vGREATER "com/example/exact_table/exacttable/Condition$Comparator") :
    MetFree l (⟨"com/example/exact_table/exacttable/Condition$Comparator", "flipped", "()Lcom/example/exact_table/exacttable/Condition$Comparator;"⟩ : MethodName) (head1 (Jvm.Cond.code (⟨"com/example/exact_table/exacttable/Condition$Comparator", "flipped", "()Lcom/example/exact_table/exacttable/Condition$Comparator;"⟩ : MethodName) prog_20_method_6_code 1 (some (.object "com/example/exact_table/exacttable/Condition$Comparator")) :: ws) ({ frames := 1, cells := 0, slots := 0, locals := 12 } : Room)) (fun a U => a = #[(.ref vGREATER)] ∧ Z.Warmed39 U.vm ∧ U.heap = h0) (fun _ _ _ _ _ => True) (fun _ U o U' => ∃ v L, o = .returned v ∧ Q_rm2_4 Z vGREATER vEQUAL vNOT_EQUAL vLESS vLESS_OR_EQUAL vGREATER_OR_EQUAL h0 n0 v U'.heap L ∧ FrameEnd U o U' L ({ frames := 1, cells := 0, slots := 0, locals := 12 } : Room).cells ({ frames := 1, cells := 0, slots := 0, locals := 12 } : Room).slots) := by
  refine MetFree.of_bodySF (plainFor_of_name pn_2) hisR ?_
  intro p e s m args below meth c s₁ Bd hml0 hP hK
  obtain ⟨rfl, hZ, hh⟩ := hP
  have hx := Bd.exec
  have hby := Bd.bytes
  have hml : c.maxLocals = 1 := hml0
  have hown : s.vm.findClass "com/example/exact_table/exacttable/Condition$Comparator" = some m.cls := findClass_of_methodNamed Bd.named
  have hnm := (name_of_methodNamed Bd.named Bd.method).1
  have X0 : Stand p l e ({ frames := 1, cells := 0, slots := 0, locals := 12 } : Room) s m #[(.ref vGREATER)] below meth c s₁ [] 0 0 := Stand.of_body Bd
  have e0 : s₁.heap = h0 := by rw [← hh, Bd.state]; rfl
  have N0 := Fr.nil n0
  show Run p e below s 0 0 (Q_rm2_4 Z vGREATER vEQUAL vNOT_EQUAL vLESS vLESS_OR_EQUAL vGREATER_OR_EQUAL h0 n0) (s₁.setTop (entryFrame m #[(.ref vGREATER)] 1))
  refine Run.go (fun _ k => castTop (ef_rm2_4 m vGREATER) k) ?_
  show Run p e below s 0 0 (Q_rm2_4 Z vGREATER vEQUAL vNOT_EQUAL vLESS vLESS_OR_EQUAL vGREATER_OR_EQUAL h0 n0) (s₁.setTop (mkF m 0 #[.val (.ref vGREATER)] []))
  refine Run.go (fun _ k => XS.aloadN X0.here hx rfl (hb hby d2_0) rfl rfl k) ?_
  show Run p e below s 0 0 (Q_rm2_4 Z vGREATER vEQUAL vNOT_EQUAL vLESS vLESS_OR_EQUAL vGREATER_OR_EQUAL h0 n0) (s₁.setTop (mkF m 1 #[.val (.ref vGREATER)] [(.ref vGREATER)]))
  obtain ⟨cq1, kq1, q1a, q1b, q1c⟩ := isOf hZ e0 E_vGREATER
  obtain ⟨_, _, ⟨T1, L1, k1, n1⟩, -, X1, ⟨Lc1, hQ1, l1, y1, z1⟩, st1⟩ := X0.virtualBackUp hx (owner := "java/lang/Enum") (x := (⟨"com/example/exact_table/exacttable/Condition$Comparator", "ordinal", "()I"⟩ : MethodName)) (y := (⟨"java/lang/Enum", "ordinal", "()I"⟩ : MethodName)) hown (mvT hZ (hw _ (List.mem_of_getElem? (i := 13) rfl))) (mvT hZ (hw _ (List.mem_of_getElem? (i := 14) rfl))) (mvT hZ (hw _ (List.mem_of_getElem? (i := 15) rfl))) (by decide) (mvT hZ (hw _ (List.mem_of_getElem? (i := 17) rfl))) (mvT hZ (hw _ (List.mem_of_getElem? (i := 16) rfl))) (backOf (W := 0) (rm3 l Z a0 hw [] vGREATER (4 : Int32) h0 n0 Z0 F_ordinal_vGREATER) hZ (hw _ (List.mem_of_getElem? (i := 19) rfl)) (hw _ (List.mem_of_getElem? (i := 18) rfl)) (by decide) (by decide)) q1a q1c (g := (mkF m 1 #[.val (.ref vGREATER)] [(.ref vGREATER)])) rfl (by rw [hml]; rfl) (Steps.refl _) (argsL := []) (rest := []) (lenOf pd_0 rfl) rfl (by show 2 * 0 + _ ≤ _; exact Nat.le_of_eq rfl) (hb hby d2_1) (fun _ _ => ⟨rfl, e0, (by decide : 0 + 0 ≤ _), (by decide : 0 + 0 ≤ _)⟩)
  dsimp only [Pt.U, Pt.locs, Pt.cells, Pt.slots] at X1 l1 y1 z1 st1 hQ1
  subst l1 y1 z1
  obtain ⟨rfl, N1q, e1q⟩ := hQ1
  have N1 := Fr.app N0 N1q
  obtain ⟨Lg1, Xg1, Ng1⟩ := Stand_gen X1 N1
  refine Run.tr st1 ?_
  show Run p e below s 0 0 (Q_rm2_4 Z vGREATER vEQUAL vNOT_EQUAL vLESS vLESS_OR_EQUAL vGREATER_OR_EQUAL h0 n0) (T1.setTop (mkF m 4 #[.val (.ref vGREATER)] [(.int (4 : Int32))]))
  refine Run.go (fun _ k => XS.tswIn Xg1.here hx rfl (pc0 := 4) (pc' := 48) rfl (hb hby d2_4) rfl (by decide) rfl (by decide) (by decide) k) ?_
  show Run p e below s 0 0 (Q_rm2_4 Z vGREATER vEQUAL vNOT_EQUAL vLESS vLESS_OR_EQUAL vGREATER_OR_EQUAL h0 n0) (T1.setTop (mkF m 48 #[.val (.ref vGREATER)] []))
  obtain ⟨T2, X2, e2, st2⟩ := getS2 Xg1 hx hZ hown (host := "") (Or.inl (hw _ (List.mem_of_getElem? (i := 37) rfl))) Via.refl e1q S_Condition_Comparator_LESS (g := (mkF m 48 #[.val (.ref vGREATER)] [])) rfl (hb hby d2_48)
  refine Run.go st2 ?_
  show Run p e below s 0 0 (Q_rm2_4 Z vGREATER vEQUAL vNOT_EQUAL vLESS vLESS_OR_EQUAL vGREATER_OR_EQUAL h0 n0) (T2.setTop (mkF m 51 #[.val (.ref vGREATER)] [(.ref vLESS)]))
  refine Run.go (fun _ k => XS.goto X2.here hx rfl (pc0 := 51) (pc' := 61) rfl (hb hby d2_51) (by decide) (by decide) k) ?_
  show Run p e below s 0 0 (Q_rm2_4 Z vGREATER vEQUAL vNOT_EQUAL vLESS vLESS_OR_EQUAL vGREATER_OR_EQUAL h0 n0) (T2.setTop (mkF m 61 #[.val (.ref vGREATER)] [(.ref vLESS)]))
  refine Run.retA X2 hx rfl Bd.returns rfl Bd.notSynchronized (hb hby d2_61) (by decide) (by decide) ?_
  show Q_rm2_4 Z vGREATER vEQUAL vNOT_EQUAL vLESS vLESS_OR_EQUAL vGREATER_OR_EQUAL h0 n0 _ T2.heap _
  exact ⟨rfl, Ng1, e2⟩
theorem d4_68 : decode method_3_code 68 = .ok (.aload_n 0, 1) := by decide +kernel
theorem d4_69 : decode method_3_code 69 = .ok (.getstatic 23, 3) := by decide +kernel
theorem d4_72 : decode method_3_code 72 = .ok (.if_acmp .ne 13, 3) := by decide +kernel
theorem d4_75 : decode method_3_code 75 = .ok (.iload_n 1, 1) := by decide +kernel
theorem d4_76 : decode method_3_code 76 = .ok (.ifCond .le 7, 3) := by decide +kernel
theorem d4_79 : decode method_3_code 79 = .ok (.iconst 1, 1) := by decide +kernel
theorem d4_80 : decode method_3_code 80 = .ok (.goto 4, 3) := by decide +kernel
theorem d4_83 : decode method_3_code 83 = .ok (.iconst 0, 1) := by decide +kernel
theorem d4_84 : decode method_3_code 84 = .ok (.ireturn, 1) := by decide +kernel
def F_rm4_4 (p1 : Int32) : Int32 := let w8 : Int32 := (if ((0 : Int32) < p1) then (1 : Int32) else 0); w8
def Q_rm4_4 (Z : State) (vGREATER : Addr) (p1 : Int32) (vEQUAL : Addr) (vNOT_EQUAL : Addr) (vLESS : Addr) (vLESS_OR_EQUAL : Addr) (vGREATER_OR_EQUAL : Addr) (h0 : Heap) (n0 : Nat) (v : Option Value) (h : Heap) (L : List Loc) : Prop := v = some (.int (F_rm4_4 p1)) ∧ Fr n0 L ∧ h = h0
theorem ef_rm4_4 (m : MethodId) (x0 : Addr) (x1 : Int32) : entryFrame m #[(.ref x0), (.int x1)] 2 = mkF m 0 #[.val (.ref x0), .val (.int x1)] [] := by first | (simp [entryFrame, mkF, argsToLocals, Value.category]; done) | rfl
set_option maxRecDepth 65536 in
set_option maxHeartbeats 40000000 in
theorem rm4_4 (l : Launch) (Z : State) (a0 : Array Value) (hw : ∀ d ∈ tables_1, d.before a0 Z = true) (ws : List Jvm.Cond) (vGREATER : Addr) (p1 : Int32) (vEQUAL : Addr) (vNOT_EQUAL : Addr) (vLESS : Addr) (vLESS_OR_EQUAL : Addr) (vGREATER_OR_EQUAL : Addr) (h0 : Heap) (n0 : Nat) (Z0 : n0 ≤ h0.size) (S_Condition_Comparator_EQUAL : Sta Z h0 "com/example/exact_table/exacttable/Condition$Comparator" "EQUAL" "Lcom/example/exact_table/exacttable/Condition$Comparator;" (.ref vEQUAL)) (S_Condition_Comparator_NOT_EQUAL : Sta Z h0 "com/example/exact_table/exacttable/Condition$Comparator" "NOT_EQUAL" "Lcom/example/exact_table/exacttable/Condition$Comparator;" (.ref vNOT_EQUAL)) (S_Condition_Comparator_LESS : Sta Z h0 "com/example/exact_table/exacttable/Condition$Comparator" "LESS" "Lcom/example/exact_table/exacttable/Condition$Comparator;" (.ref vLESS)) (S_Condition_Comparator_LESS_OR_EQUAL : Sta Z h0 "com/example/exact_table/exacttable/Condition$Comparator" "LESS_OR_EQUAL" "Lcom/example/exact_table/exacttable/Condition$Comparator;" (.ref vLESS_OR_EQUAL)) (S_Condition_Comparator_GREATER : Sta Z h0 "com/example/exact_table/exacttable/Condition$Comparator" "GREATER" "Lcom/example/exact_table/exacttable/Condition$Comparator;" (.ref vGREATER)) (S_Condition_Comparator_GREATER_OR_EQUAL : Sta Z h0 "com/example/exact_table/exacttable/Condition$Comparator" "GREATER_OR_EQUAL" "Lcom/example/exact_table/exacttable/Condition$Comparator;" (.ref vGREATER_OR_EQUAL)) (ne_vEQUAL_vNOT_EQUAL : vEQUAL ≠ vNOT_EQUAL) (ne_vEQUAL_vLESS : vEQUAL ≠ vLESS) (ne_vEQUAL_vLESS_OR_EQUAL : vEQUAL ≠ vLESS_OR_EQUAL) (ne_vEQUAL_vGREATER : vEQUAL ≠ vGREATER) (ne_vEQUAL_vGREATER_OR_EQUAL : vEQUAL ≠ vGREATER_OR_EQUAL) (ne_vNOT_EQUAL_vLESS : vNOT_EQUAL ≠ vLESS) (ne_vNOT_EQUAL_vLESS_OR_EQUAL : vNOT_EQUAL ≠ vLESS_OR_EQUAL) (ne_vNOT_EQUAL_vGREATER : vNOT_EQUAL ≠ vGREATER) (ne_vNOT_EQUAL_vGREATER_OR_EQUAL : vNOT_EQUAL ≠ vGREATER_OR_EQUAL) (ne_vLESS_vLESS_OR_EQUAL : vLESS ≠ vLESS_OR_EQUAL) (ne_vLESS_vGREATER : vLESS ≠ vGREATER) (ne_vLESS_vGREATER_OR_EQUAL : vLESS ≠ vGREATER_OR_EQUAL) (ne_vLESS_OR_EQUAL_vGREATER : vLESS_OR_EQUAL ≠ vGREATER) (ne_vLESS_OR_EQUAL_vGREATER_OR_EQUAL : vLESS_OR_EQUAL ≠ vGREATER_OR_EQUAL) (ne_vGREATER_vGREATER_OR_EQUAL : vGREATER ≠ vGREATER_OR_EQUAL) :
    MetFree l (⟨"com/example/exact_table/exacttable/ComparatorFlippedPinLaw", "holds", "(Lcom/example/exact_table/exacttable/Condition$Comparator;I)Z"⟩ : MethodName) (head1 (Jvm.Cond.code (⟨"com/example/exact_table/exacttable/ComparatorFlippedPinLaw", "holds", "(Lcom/example/exact_table/exacttable/Condition$Comparator;I)Z"⟩ : MethodName) method_3_code 2 (some .boolean) :: ws) ({ frames := 0, cells := 0, slots := 0, locals := 0 } : Room)) (fun a U => a = #[(.ref vGREATER), (.int p1)] ∧ Z.Warmed39 U.vm ∧ U.heap = h0) (fun _ _ _ _ _ => True) (fun _ U o U' => ∃ v L, o = .returned v ∧ Q_rm4_4 Z vGREATER p1 vEQUAL vNOT_EQUAL vLESS vLESS_OR_EQUAL vGREATER_OR_EQUAL h0 n0 v U'.heap L ∧ FrameEnd U o U' L ({ frames := 0, cells := 0, slots := 0, locals := 0 } : Room).cells ({ frames := 0, cells := 0, slots := 0, locals := 0 } : Room).slots) := by
  refine MetFree.of_bodySF (plainFor_of_name pn_1) hisR ?_
  intro p e s m args below meth c s₁ Bd hml0 hP hK
  obtain ⟨rfl, hZ, hh⟩ := hP
  have hx := Bd.exec
  have hby := Bd.bytes
  have hml : c.maxLocals = 2 := hml0
  have hown : s.vm.findClass "com/example/exact_table/exacttable/ComparatorFlippedPinLaw" = some m.cls := findClass_of_methodNamed Bd.named
  have hnm := (name_of_methodNamed Bd.named Bd.method).1
  have X0 : Stand p l e ({ frames := 0, cells := 0, slots := 0, locals := 0 } : Room) s m #[(.ref vGREATER), (.int p1)] below meth c s₁ [] 0 0 := Stand.of_body Bd
  have e0 : s₁.heap = h0 := by rw [← hh, Bd.state]; rfl
  have N0 := Fr.nil n0
  show Run p e below s 0 0 (Q_rm4_4 Z vGREATER p1 vEQUAL vNOT_EQUAL vLESS vLESS_OR_EQUAL vGREATER_OR_EQUAL h0 n0) (s₁.setTop (entryFrame m #[(.ref vGREATER), (.int p1)] 2))
  refine Run.go (fun _ k => castTop (ef_rm4_4 m vGREATER p1) k) ?_
  show Run p e below s 0 0 (Q_rm4_4 Z vGREATER p1 vEQUAL vNOT_EQUAL vLESS vLESS_OR_EQUAL vGREATER_OR_EQUAL h0 n0) (s₁.setTop (mkF m 0 #[.val (.ref vGREATER), .val (.int p1)] []))
  refine Run.go (fun _ k => XS.aloadN X0.here hx rfl (hb hby d4_0) rfl rfl k) ?_
  show Run p e below s 0 0 (Q_rm4_4 Z vGREATER p1 vEQUAL vNOT_EQUAL vLESS vLESS_OR_EQUAL vGREATER_OR_EQUAL h0 n0) (s₁.setTop (mkF m 1 #[.val (.ref vGREATER), .val (.int p1)] [(.ref vGREATER)]))
  obtain ⟨T2, X2, e2, st2⟩ := getS2 X0 hx hZ hown (host := "") (Or.inl (hw _ (List.mem_of_getElem? (i := 5) rfl))) Via.refl e0 S_Condition_Comparator_EQUAL (g := (mkF m 1 #[.val (.ref vGREATER), .val (.int p1)] [(.ref vGREATER)])) rfl (hb hby d4_1)
  refine Run.go st2 ?_
  show Run p e below s 0 0 (Q_rm4_4 Z vGREATER p1 vEQUAL vNOT_EQUAL vLESS vLESS_OR_EQUAL vGREATER_OR_EQUAL h0 n0) (T2.setTop (mkF m 4 #[.val (.ref vGREATER), .val (.int p1)] [(.ref vEQUAL), (.ref vGREATER)]))
  refine Run.go (fun _ k => Jvm.RoadKit.acmp (g := (mkF m 4 #[.val (.ref vGREATER), .val (.int p1)] [(.ref vEQUAL), (.ref vGREATER)])) X2 hx rfl rfl rfl (pc0 := 4) (pc' := 17) (same := false) rfl (hb hby d4_4) rfl (decide_eq_false fun q => (Ne.symm ne_vEQUAL_vGREATER) (Value.ref.inj q)) (by decide) (by decide) k) ?_
  show Run p e below s 0 0 (Q_rm4_4 Z vGREATER p1 vEQUAL vNOT_EQUAL vLESS vLESS_OR_EQUAL vGREATER_OR_EQUAL h0 n0) (T2.setTop (mkF m 17 #[.val (.ref vGREATER), .val (.int p1)] []))
  refine Run.go (fun _ k => XS.aloadN X2.here hx rfl (hb hby d4_17) rfl rfl k) ?_
  show Run p e below s 0 0 (Q_rm4_4 Z vGREATER p1 vEQUAL vNOT_EQUAL vLESS vLESS_OR_EQUAL vGREATER_OR_EQUAL h0 n0) (T2.setTop (mkF m 18 #[.val (.ref vGREATER), .val (.int p1)] [(.ref vGREATER)]))
  obtain ⟨T3, X3, e3, st3⟩ := getS2 X2 hx hZ hown (host := "") (Or.inl (hw _ (List.mem_of_getElem? (i := 28) rfl))) Via.refl e2 S_Condition_Comparator_NOT_EQUAL (g := (mkF m 18 #[.val (.ref vGREATER), .val (.int p1)] [(.ref vGREATER)])) rfl (hb hby d4_18)
  refine Run.go st3 ?_
  show Run p e below s 0 0 (Q_rm4_4 Z vGREATER p1 vEQUAL vNOT_EQUAL vLESS vLESS_OR_EQUAL vGREATER_OR_EQUAL h0 n0) (T3.setTop (mkF m 21 #[.val (.ref vGREATER), .val (.int p1)] [(.ref vNOT_EQUAL), (.ref vGREATER)]))
  refine Run.go (fun _ k => Jvm.RoadKit.acmp (g := (mkF m 21 #[.val (.ref vGREATER), .val (.int p1)] [(.ref vNOT_EQUAL), (.ref vGREATER)])) X3 hx rfl rfl rfl (pc0 := 21) (pc' := 34) (same := false) rfl (hb hby d4_21) rfl (decide_eq_false fun q => (Ne.symm ne_vNOT_EQUAL_vGREATER) (Value.ref.inj q)) (by decide) (by decide) k) ?_
  show Run p e below s 0 0 (Q_rm4_4 Z vGREATER p1 vEQUAL vNOT_EQUAL vLESS vLESS_OR_EQUAL vGREATER_OR_EQUAL h0 n0) (T3.setTop (mkF m 34 #[.val (.ref vGREATER), .val (.int p1)] []))
  refine Run.go (fun _ k => XS.aloadN X3.here hx rfl (hb hby d4_34) rfl rfl k) ?_
  show Run p e below s 0 0 (Q_rm4_4 Z vGREATER p1 vEQUAL vNOT_EQUAL vLESS vLESS_OR_EQUAL vGREATER_OR_EQUAL h0 n0) (T3.setTop (mkF m 35 #[.val (.ref vGREATER), .val (.int p1)] [(.ref vGREATER)]))
  obtain ⟨T4, X4, e4, st4⟩ := getS2 X3 hx hZ hown (host := "") (Or.inl (hw _ (List.mem_of_getElem? (i := 30) rfl))) Via.refl e3 S_Condition_Comparator_LESS (g := (mkF m 35 #[.val (.ref vGREATER), .val (.int p1)] [(.ref vGREATER)])) rfl (hb hby d4_35)
  refine Run.go st4 ?_
  show Run p e below s 0 0 (Q_rm4_4 Z vGREATER p1 vEQUAL vNOT_EQUAL vLESS vLESS_OR_EQUAL vGREATER_OR_EQUAL h0 n0) (T4.setTop (mkF m 38 #[.val (.ref vGREATER), .val (.int p1)] [(.ref vLESS), (.ref vGREATER)]))
  refine Run.go (fun _ k => Jvm.RoadKit.acmp (g := (mkF m 38 #[.val (.ref vGREATER), .val (.int p1)] [(.ref vLESS), (.ref vGREATER)])) X4 hx rfl rfl rfl (pc0 := 38) (pc' := 51) (same := false) rfl (hb hby d4_38) rfl (decide_eq_false fun q => (Ne.symm ne_vLESS_vGREATER) (Value.ref.inj q)) (by decide) (by decide) k) ?_
  show Run p e below s 0 0 (Q_rm4_4 Z vGREATER p1 vEQUAL vNOT_EQUAL vLESS vLESS_OR_EQUAL vGREATER_OR_EQUAL h0 n0) (T4.setTop (mkF m 51 #[.val (.ref vGREATER), .val (.int p1)] []))
  refine Run.go (fun _ k => XS.aloadN X4.here hx rfl (hb hby d4_51) rfl rfl k) ?_
  show Run p e below s 0 0 (Q_rm4_4 Z vGREATER p1 vEQUAL vNOT_EQUAL vLESS vLESS_OR_EQUAL vGREATER_OR_EQUAL h0 n0) (T4.setTop (mkF m 52 #[.val (.ref vGREATER), .val (.int p1)] [(.ref vGREATER)]))
  obtain ⟨T5, X5, e5, st5⟩ := getS2 X4 hx hZ hown (host := "") (Or.inl (hw _ (List.mem_of_getElem? (i := 34) rfl))) Via.refl e4 S_Condition_Comparator_LESS_OR_EQUAL (g := (mkF m 52 #[.val (.ref vGREATER), .val (.int p1)] [(.ref vGREATER)])) rfl (hb hby d4_52)
  refine Run.go st5 ?_
  show Run p e below s 0 0 (Q_rm4_4 Z vGREATER p1 vEQUAL vNOT_EQUAL vLESS vLESS_OR_EQUAL vGREATER_OR_EQUAL h0 n0) (T5.setTop (mkF m 55 #[.val (.ref vGREATER), .val (.int p1)] [(.ref vLESS_OR_EQUAL), (.ref vGREATER)]))
  refine Run.go (fun _ k => Jvm.RoadKit.acmp (g := (mkF m 55 #[.val (.ref vGREATER), .val (.int p1)] [(.ref vLESS_OR_EQUAL), (.ref vGREATER)])) X5 hx rfl rfl rfl (pc0 := 55) (pc' := 68) (same := false) rfl (hb hby d4_55) rfl (decide_eq_false fun q => (Ne.symm ne_vLESS_OR_EQUAL_vGREATER) (Value.ref.inj q)) (by decide) (by decide) k) ?_
  show Run p e below s 0 0 (Q_rm4_4 Z vGREATER p1 vEQUAL vNOT_EQUAL vLESS vLESS_OR_EQUAL vGREATER_OR_EQUAL h0 n0) (T5.setTop (mkF m 68 #[.val (.ref vGREATER), .val (.int p1)] []))
  refine Run.go (fun _ k => XS.aloadN X5.here hx rfl (hb hby d4_68) rfl rfl k) ?_
  show Run p e below s 0 0 (Q_rm4_4 Z vGREATER p1 vEQUAL vNOT_EQUAL vLESS vLESS_OR_EQUAL vGREATER_OR_EQUAL h0 n0) (T5.setTop (mkF m 69 #[.val (.ref vGREATER), .val (.int p1)] [(.ref vGREATER)]))
  obtain ⟨T6, X6, e6, st6⟩ := getS2 X5 hx hZ hown (host := "") (Or.inl (hw _ (List.mem_of_getElem? (i := 36) rfl))) Via.refl e5 S_Condition_Comparator_GREATER (g := (mkF m 69 #[.val (.ref vGREATER), .val (.int p1)] [(.ref vGREATER)])) rfl (hb hby d4_69)
  refine Run.go st6 ?_
  show Run p e below s 0 0 (Q_rm4_4 Z vGREATER p1 vEQUAL vNOT_EQUAL vLESS vLESS_OR_EQUAL vGREATER_OR_EQUAL h0 n0) (T6.setTop (mkF m 72 #[.val (.ref vGREATER), .val (.int p1)] [(.ref vGREATER), (.ref vGREATER)]))
  refine Run.go (fun _ k => Jvm.RoadKit.acmp (g := (mkF m 72 #[.val (.ref vGREATER), .val (.int p1)] [(.ref vGREATER), (.ref vGREATER)])) X6 hx rfl rfl rfl (pc0 := 72) (pc' := 75) (same := true) rfl (hb hby d4_72) rfl (decide_eq_true rfl) (by decide) (by decide) k) ?_
  show Run p e below s 0 0 (Q_rm4_4 Z vGREATER p1 vEQUAL vNOT_EQUAL vLESS vLESS_OR_EQUAL vGREATER_OR_EQUAL h0 n0) (T6.setTop (mkF m 75 #[.val (.ref vGREATER), .val (.int p1)] []))
  refine Run.go (fun _ k => XS.iloadN X6.here hx rfl (hb hby d4_75) rfl  k) ?_
  show Run p e below s 0 0 (Q_rm4_4 Z vGREATER p1 vEQUAL vNOT_EQUAL vLESS vLESS_OR_EQUAL vGREATER_OR_EQUAL h0 n0) (T6.setTop (mkF m 76 #[.val (.ref vGREATER), .val (.int p1)] [(.int p1)]))
  have J7 : ∀ (w8 : Int32) (hw8 : w8 = (if ((0 : Int32) < p1) then (1 : Int32) else 0)) (T9 : State) (L9 : List Loc) (X9 : Stand p l e ({ frames := 0, cells := 0, slots := 0, locals := 0 } : Room) s m #[(.ref vGREATER), (.int p1)] below meth c T9 L9 0 0) (e9 : T9.heap = h0) (N9 : Fr n0 L9), Run p e below s 0 0 (Q_rm4_4 Z vGREATER p1 vEQUAL vNOT_EQUAL vLESS vLESS_OR_EQUAL vGREATER_OR_EQUAL h0 n0) (T9.setTop (mkF m 84 #[.val (.ref vGREATER), .val (.int p1)] [(.int w8)])) := by
    intro w8 hw8 T9 L9 X9 e9 N9
    show Run p e below s 0 0 (Q_rm4_4 Z vGREATER p1 vEQUAL vNOT_EQUAL vLESS vLESS_OR_EQUAL vGREATER_OR_EQUAL h0 n0) (T9.setTop (mkF m 84 #[.val (.ref vGREATER), .val (.int p1)] [(.int w8)]))
    refine Run.retN (y := w8) X9 hx (t := .boolean) Bd.returns (by simp) (by rw [hw8]; exact nar_ite _) Bd.notSynchronized (hb hby d4_84) (by decide) (by decide) ?_
    show Q_rm4_4 Z vGREATER p1 vEQUAL vNOT_EQUAL vLESS vLESS_OR_EQUAL vGREATER_OR_EQUAL h0 n0 _ T9.heap _
    exact ⟨congrArg some (congrArg Value.int (show w8 = (F_rm4_4 p1) from (by subst hw8; unfold F_rm4_4; rfl))), N9, e9⟩
  by_cases hc10 : ((0 : Int32) < p1)
  · refine Run.go (fun _ k => XS.ifNo X6.here hx rfl (hb hby d4_76) rfl ((if0 _ _).trans (tlt hc10).2.2.2) k) ?_
    show Run p e below s 0 0 (Q_rm4_4 Z vGREATER p1 vEQUAL vNOT_EQUAL vLESS vLESS_OR_EQUAL vGREATER_OR_EQUAL h0 n0) (T6.setTop (mkF m 79 #[.val (.ref vGREATER), .val (.int p1)] []))
    refine Run.go (fun _ k => XS.iconst X6.here hx rfl (hb hby d4_79) k) ?_
    show Run p e below s 0 0 (Q_rm4_4 Z vGREATER p1 vEQUAL vNOT_EQUAL vLESS vLESS_OR_EQUAL vGREATER_OR_EQUAL h0 n0) (T6.setTop (mkF m 80 #[.val (.ref vGREATER), .val (.int p1)] [(.int (1 : Int32))]))
    refine Run.go (fun _ k => XS.goto X6.here hx rfl (pc0 := 80) (pc' := 84) rfl (hb hby d4_80) (by decide) (by decide) k) ?_
    show Run p e below s 0 0 (Q_rm4_4 Z vGREATER p1 vEQUAL vNOT_EQUAL vLESS vLESS_OR_EQUAL vGREATER_OR_EQUAL h0 n0) (T6.setTop (mkF m 84 #[.val (.ref vGREATER), .val (.int p1)] [(.int (1 : Int32))]))
    exact J7 _ (if_pos hc10).symm _ _ X6 e6 N0
  · refine Run.go (fun _ k => XS.ifYes X6.here hx rfl (pc0 := 76) (pc' := 83) rfl (hb hby d4_76) rfl ((if0 _ _).trans (flt hc10).2.2.2) (by decide) (by decide) k) ?_
    show Run p e below s 0 0 (Q_rm4_4 Z vGREATER p1 vEQUAL vNOT_EQUAL vLESS vLESS_OR_EQUAL vGREATER_OR_EQUAL h0 n0) (T6.setTop (mkF m 83 #[.val (.ref vGREATER), .val (.int p1)] []))
    refine Run.go (fun _ k => XS.iconst X6.here hx rfl (hb hby d4_83) k) ?_
    show Run p e below s 0 0 (Q_rm4_4 Z vGREATER p1 vEQUAL vNOT_EQUAL vLESS vLESS_OR_EQUAL vGREATER_OR_EQUAL h0 n0) (T6.setTop (mkF m 84 #[.val (.ref vGREATER), .val (.int p1)] [(.int (0 : Int32))]))
    exact J7 _ (if_neg hc10).symm _ _ X6 e6 N0
theorem d1_52 : decode method_2_code 52 = .ok (.getstatic 26, 3) := by decide +kernel
theorem d1_55 : decode method_2_code 55 = .ok (.areturn, 1) := by decide +kernel
def Q_rm1_5 (Z : State) (p1 : Int32) (vEQUAL : Addr) (vNOT_EQUAL : Addr) (vLESS : Addr) (vLESS_OR_EQUAL : Addr) (vGREATER : Addr) (vGREATER_OR_EQUAL : Addr) (h0 : Heap) (n0 : Nat) (v : Option Value) (h : Heap) (L : List Loc) : Prop := v = some (.ref vGREATER_OR_EQUAL) ∧ Fr n0 L ∧ h = h0
theorem ef_rm1_5 (m : MethodId) (x0 : Int32) : entryFrame m #[(.int x0)] 2 = mkF m 0 #[.val (.int x0), .unset] [] := by first | (simp [entryFrame, mkF, argsToLocals, Value.category]; done) | rfl
set_option maxRecDepth 65536 in
set_option maxHeartbeats 40000000 in
theorem rm1_5 (l : Launch) (Z : State) (a0 : Array Value) (hw : ∀ d ∈ tables_1, d.before a0 Z = true) (ws : List Jvm.Cond) (p1 : Int32) (vEQUAL : Addr) (vNOT_EQUAL : Addr) (vLESS : Addr) (vLESS_OR_EQUAL : Addr) (vGREATER : Addr) (vGREATER_OR_EQUAL : Addr) (h0 : Heap) (n0 : Nat) (Z0 : n0 ≤ h0.size) (S_Condition_Comparator_EQUAL : Sta Z h0 "com/example/exact_table/exacttable/Condition$Comparator" "EQUAL" "Lcom/example/exact_table/exacttable/Condition$Comparator;" (.ref vEQUAL)) (S_Condition_Comparator_NOT_EQUAL : Sta Z h0 "com/example/exact_table/exacttable/Condition$Comparator" "NOT_EQUAL" "Lcom/example/exact_table/exacttable/Condition$Comparator;" (.ref vNOT_EQUAL)) (S_Condition_Comparator_LESS : Sta Z h0 "com/example/exact_table/exacttable/Condition$Comparator" "LESS" "Lcom/example/exact_table/exacttable/Condition$Comparator;" (.ref vLESS)) (S_Condition_Comparator_LESS_OR_EQUAL : Sta Z h0 "com/example/exact_table/exacttable/Condition$Comparator" "LESS_OR_EQUAL" "Lcom/example/exact_table/exacttable/Condition$Comparator;" (.ref vLESS_OR_EQUAL)) (S_Condition_Comparator_GREATER : Sta Z h0 "com/example/exact_table/exacttable/Condition$Comparator" "GREATER" "Lcom/example/exact_table/exacttable/Condition$Comparator;" (.ref vGREATER)) (S_Condition_Comparator_GREATER_OR_EQUAL : Sta Z h0 "com/example/exact_table/exacttable/Condition$Comparator" "GREATER_OR_EQUAL" "Lcom/example/exact_table/exacttable/Condition$Comparator;" (.ref vGREATER_OR_EQUAL)) (hk : ((p1 &&& (2147483647 : Int32)) % (6 : Int32)) = (5 : Int32)) :
    MetFree l (⟨"com/example/exact_table/exacttable/ComparatorFlippedPinLaw", "pick", "(I)Lcom/example/exact_table/exacttable/Condition$Comparator;"⟩ : MethodName) (head1 (Jvm.Cond.code (⟨"com/example/exact_table/exacttable/ComparatorFlippedPinLaw", "pick", "(I)Lcom/example/exact_table/exacttable/Condition$Comparator;"⟩ : MethodName) method_2_code 2 (some (.object "com/example/exact_table/exacttable/Condition$Comparator")) :: ws) ({ frames := 0, cells := 0, slots := 0, locals := 0 } : Room)) (fun a U => a = #[(.int p1)] ∧ Z.Warmed39 U.vm ∧ U.heap = h0) (fun _ _ _ _ _ => True) (fun _ U o U' => ∃ v L, o = .returned v ∧ Q_rm1_5 Z p1 vEQUAL vNOT_EQUAL vLESS vLESS_OR_EQUAL vGREATER vGREATER_OR_EQUAL h0 n0 v U'.heap L ∧ FrameEnd U o U' L ({ frames := 0, cells := 0, slots := 0, locals := 0 } : Room).cells ({ frames := 0, cells := 0, slots := 0, locals := 0 } : Room).slots) := by
  refine MetFree.of_bodySF (plainFor_of_name pn_1) hisR ?_
  intro p e s m args below meth c s₁ Bd hml0 hP hK
  obtain ⟨rfl, hZ, hh⟩ := hP
  have hx := Bd.exec
  have hby := Bd.bytes
  have hml : c.maxLocals = 2 := hml0
  have hown : s.vm.findClass "com/example/exact_table/exacttable/ComparatorFlippedPinLaw" = some m.cls := findClass_of_methodNamed Bd.named
  have hnm := (name_of_methodNamed Bd.named Bd.method).1
  have X0 : Stand p l e ({ frames := 0, cells := 0, slots := 0, locals := 0 } : Room) s m #[(.int p1)] below meth c s₁ [] 0 0 := Stand.of_body Bd
  have e0 : s₁.heap = h0 := by rw [← hh, Bd.state]; rfl
  have N0 := Fr.nil n0
  show Run p e below s 0 0 (Q_rm1_5 Z p1 vEQUAL vNOT_EQUAL vLESS vLESS_OR_EQUAL vGREATER vGREATER_OR_EQUAL h0 n0) (s₁.setTop (entryFrame m #[(.int p1)] 2))
  refine Run.go (fun _ k => castTop (ef_rm1_5 m p1) k) ?_
  show Run p e below s 0 0 (Q_rm1_5 Z p1 vEQUAL vNOT_EQUAL vLESS vLESS_OR_EQUAL vGREATER vGREATER_OR_EQUAL h0 n0) (s₁.setTop (mkF m 0 #[.val (.int p1), .unset] []))
  refine Run.go (fun _ k => XS.iloadN X0.here hx rfl (hb hby d1_0) rfl  k) ?_
  show Run p e below s 0 0 (Q_rm1_5 Z p1 vEQUAL vNOT_EQUAL vLESS vLESS_OR_EQUAL vGREATER vGREATER_OR_EQUAL h0 n0) (s₁.setTop (mkF m 1 #[.val (.int p1), .unset] [(.int p1)]))
  refine Run.go (fun _ k => X0.ldcInt hx hown (mvT hZ (hw _ (List.mem_of_getElem? (i := 4) rfl))) (g := (mkF m 1 #[.val (.int p1), .unset] [(.int p1)])) rfl (hb hby d1_1) _ k) ?_
  show Run p e below s 0 0 (Q_rm1_5 Z p1 vEQUAL vNOT_EQUAL vLESS vLESS_OR_EQUAL vGREATER vGREATER_OR_EQUAL h0 n0) (s₁.setTop (mkF m 3 #[.val (.int p1), .unset] [(.int (2147483647 : Int32)), (.int p1)]))
  refine Run.go (fun _ k => XS.iand X0.here hx rfl (hb hby d1_3) rfl k) ?_
  show Run p e below s 0 0 (Q_rm1_5 Z p1 vEQUAL vNOT_EQUAL vLESS vLESS_OR_EQUAL vGREATER vGREATER_OR_EQUAL h0 n0) (s₁.setTop (mkF m 4 #[.val (.int p1), .unset] [(.int (p1 &&& (2147483647 : Int32)))]))
  refine Run.go (fun _ k => XS.bipush X0.here hx rfl (hb hby d1_4) k) ?_
  show Run p e below s 0 0 (Q_rm1_5 Z p1 vEQUAL vNOT_EQUAL vLESS vLESS_OR_EQUAL vGREATER vGREATER_OR_EQUAL h0 n0) (s₁.setTop (mkF m 6 #[.val (.int p1), .unset] [(.int (6 : Int32)), (.int (p1 &&& (2147483647 : Int32)))]))
  refine Run.go (fun _ k => iremM X0 hx rfl (hb hby d1_6) rfl (by decide) k) ?_
  show Run p e below s 0 0 (Q_rm1_5 Z p1 vEQUAL vNOT_EQUAL vLESS vLESS_OR_EQUAL vGREATER vGREATER_OR_EQUAL h0 n0) (s₁.setTop (mkF m 7 #[.val (.int p1), .unset] [(.int ((p1 &&& (2147483647 : Int32)) % (6 : Int32)))]))
  refine Run.go (fun _ k => XS.istoreN X0.here hx rfl (hb hby d1_7) rfl (l' := #[.val (.int p1), .val (.int ((p1 &&& (2147483647 : Int32)) % (6 : Int32)))]) rfl k) ?_
  show Run p e below s 0 0 (Q_rm1_5 Z p1 vEQUAL vNOT_EQUAL vLESS vLESS_OR_EQUAL vGREATER vGREATER_OR_EQUAL h0 n0) (s₁.setTop (mkF m 8 #[.val (.int p1), .val (.int ((p1 &&& (2147483647 : Int32)) % (6 : Int32)))] []))
  rw [hk]
  show Run p e below s 0 0 (Q_rm1_5 Z p1 vEQUAL vNOT_EQUAL vLESS vLESS_OR_EQUAL vGREATER vGREATER_OR_EQUAL h0 n0) (s₁.setTop (mkF m 8 #[.val (.int p1), .val (.int (5 : Int32))] []))
  refine Run.go (fun _ k => XS.iloadN X0.here hx rfl (hb hby d1_8) rfl  k) ?_
  show Run p e below s 0 0 (Q_rm1_5 Z p1 vEQUAL vNOT_EQUAL vLESS vLESS_OR_EQUAL vGREATER vGREATER_OR_EQUAL h0 n0) (s₁.setTop (mkF m 9 #[.val (.int p1), .val (.int (5 : Int32))] [(.int (5 : Int32))]))
  refine Run.go (fun _ k => XS.ifYes X0.here hx rfl (pc0 := 9) (pc' := 16) rfl (hb hby d1_9) rfl ((if0 _ _).trans (feq (by decide)).2) (by decide) (by decide) k) ?_
  show Run p e below s 0 0 (Q_rm1_5 Z p1 vEQUAL vNOT_EQUAL vLESS vLESS_OR_EQUAL vGREATER vGREATER_OR_EQUAL h0 n0) (s₁.setTop (mkF m 16 #[.val (.int p1), .val (.int (5 : Int32))] []))
  refine Run.go (fun _ k => XS.iloadN X0.here hx rfl (hb hby d1_16) rfl  k) ?_
  show Run p e below s 0 0 (Q_rm1_5 Z p1 vEQUAL vNOT_EQUAL vLESS vLESS_OR_EQUAL vGREATER vGREATER_OR_EQUAL h0 n0) (s₁.setTop (mkF m 17 #[.val (.int p1), .val (.int (5 : Int32))] [(.int (5 : Int32))]))
  refine Run.go (fun _ k => XS.iconst X0.here hx rfl (hb hby d1_17) k) ?_
  show Run p e below s 0 0 (Q_rm1_5 Z p1 vEQUAL vNOT_EQUAL vLESS vLESS_OR_EQUAL vGREATER vGREATER_OR_EQUAL h0 n0) (s₁.setTop (mkF m 18 #[.val (.int p1), .val (.int (5 : Int32))] [(.int (1 : Int32)), (.int (5 : Int32))]))
  refine Run.go (fun _ k => XS.icmpYes X0.here hx rfl (pc0 := 18) (pc' := 25) rfl (hb hby d1_18) rfl (feq (by decide)).2 (by decide) (by decide) k) ?_
  show Run p e below s 0 0 (Q_rm1_5 Z p1 vEQUAL vNOT_EQUAL vLESS vLESS_OR_EQUAL vGREATER vGREATER_OR_EQUAL h0 n0) (s₁.setTop (mkF m 25 #[.val (.int p1), .val (.int (5 : Int32))] []))
  refine Run.go (fun _ k => XS.iloadN X0.here hx rfl (hb hby d1_25) rfl  k) ?_
  show Run p e below s 0 0 (Q_rm1_5 Z p1 vEQUAL vNOT_EQUAL vLESS vLESS_OR_EQUAL vGREATER vGREATER_OR_EQUAL h0 n0) (s₁.setTop (mkF m 26 #[.val (.int p1), .val (.int (5 : Int32))] [(.int (5 : Int32))]))
  refine Run.go (fun _ k => XS.iconst X0.here hx rfl (hb hby d1_26) k) ?_
  show Run p e below s 0 0 (Q_rm1_5 Z p1 vEQUAL vNOT_EQUAL vLESS vLESS_OR_EQUAL vGREATER vGREATER_OR_EQUAL h0 n0) (s₁.setTop (mkF m 27 #[.val (.int p1), .val (.int (5 : Int32))] [(.int (2 : Int32)), (.int (5 : Int32))]))
  refine Run.go (fun _ k => XS.icmpYes X0.here hx rfl (pc0 := 27) (pc' := 34) rfl (hb hby d1_27) rfl (feq (by decide)).2 (by decide) (by decide) k) ?_
  show Run p e below s 0 0 (Q_rm1_5 Z p1 vEQUAL vNOT_EQUAL vLESS vLESS_OR_EQUAL vGREATER vGREATER_OR_EQUAL h0 n0) (s₁.setTop (mkF m 34 #[.val (.int p1), .val (.int (5 : Int32))] []))
  refine Run.go (fun _ k => XS.iloadN X0.here hx rfl (hb hby d1_34) rfl  k) ?_
  show Run p e below s 0 0 (Q_rm1_5 Z p1 vEQUAL vNOT_EQUAL vLESS vLESS_OR_EQUAL vGREATER vGREATER_OR_EQUAL h0 n0) (s₁.setTop (mkF m 35 #[.val (.int p1), .val (.int (5 : Int32))] [(.int (5 : Int32))]))
  refine Run.go (fun _ k => XS.iconst X0.here hx rfl (hb hby d1_35) k) ?_
  show Run p e below s 0 0 (Q_rm1_5 Z p1 vEQUAL vNOT_EQUAL vLESS vLESS_OR_EQUAL vGREATER vGREATER_OR_EQUAL h0 n0) (s₁.setTop (mkF m 36 #[.val (.int p1), .val (.int (5 : Int32))] [(.int (3 : Int32)), (.int (5 : Int32))]))
  refine Run.go (fun _ k => XS.icmpYes X0.here hx rfl (pc0 := 36) (pc' := 43) rfl (hb hby d1_36) rfl (feq (by decide)).2 (by decide) (by decide) k) ?_
  show Run p e below s 0 0 (Q_rm1_5 Z p1 vEQUAL vNOT_EQUAL vLESS vLESS_OR_EQUAL vGREATER vGREATER_OR_EQUAL h0 n0) (s₁.setTop (mkF m 43 #[.val (.int p1), .val (.int (5 : Int32))] []))
  refine Run.go (fun _ k => XS.iloadN X0.here hx rfl (hb hby d1_43) rfl  k) ?_
  show Run p e below s 0 0 (Q_rm1_5 Z p1 vEQUAL vNOT_EQUAL vLESS vLESS_OR_EQUAL vGREATER vGREATER_OR_EQUAL h0 n0) (s₁.setTop (mkF m 44 #[.val (.int p1), .val (.int (5 : Int32))] [(.int (5 : Int32))]))
  refine Run.go (fun _ k => XS.iconst X0.here hx rfl (hb hby d1_44) k) ?_
  show Run p e below s 0 0 (Q_rm1_5 Z p1 vEQUAL vNOT_EQUAL vLESS vLESS_OR_EQUAL vGREATER vGREATER_OR_EQUAL h0 n0) (s₁.setTop (mkF m 45 #[.val (.int p1), .val (.int (5 : Int32))] [(.int (4 : Int32)), (.int (5 : Int32))]))
  refine Run.go (fun _ k => XS.icmpYes X0.here hx rfl (pc0 := 45) (pc' := 52) rfl (hb hby d1_45) rfl (feq (by decide)).2 (by decide) (by decide) k) ?_
  show Run p e below s 0 0 (Q_rm1_5 Z p1 vEQUAL vNOT_EQUAL vLESS vLESS_OR_EQUAL vGREATER vGREATER_OR_EQUAL h0 n0) (s₁.setTop (mkF m 52 #[.val (.int p1), .val (.int (5 : Int32))] []))
  obtain ⟨T2, X2, e2, st2⟩ := getS2 X0 hx hZ hown (host := "") (Or.inl (hw _ (List.mem_of_getElem? (i := 38) rfl))) Via.refl e0 S_Condition_Comparator_GREATER_OR_EQUAL (g := (mkF m 52 #[.val (.int p1), .val (.int (5 : Int32))] [])) rfl (hb hby d1_52)
  refine Run.go st2 ?_
  show Run p e below s 0 0 (Q_rm1_5 Z p1 vEQUAL vNOT_EQUAL vLESS vLESS_OR_EQUAL vGREATER vGREATER_OR_EQUAL h0 n0) (T2.setTop (mkF m 55 #[.val (.int p1), .val (.int (5 : Int32))] [(.ref vGREATER_OR_EQUAL)]))
  refine Run.retA X2 hx rfl Bd.returns rfl Bd.notSynchronized (hb hby d1_55) (by decide) (by decide) ?_
  show Q_rm1_5 Z p1 vEQUAL vNOT_EQUAL vLESS vLESS_OR_EQUAL vGREATER vGREATER_OR_EQUAL h0 n0 _ T2.heap _
  exact ⟨rfl, N0, e2⟩
theorem d2_54 : decode prog_20_method_6_code 54 = .ok (.getstatic 13, 3) := by decide +kernel
theorem d2_57 : decode prog_20_method_6_code 57 = .ok (.goto 4, 3) := by decide +kernel
def Q_rm2_5 (Z : State) (vGREATER_OR_EQUAL : Addr) (vEQUAL : Addr) (vNOT_EQUAL : Addr) (vLESS : Addr) (vLESS_OR_EQUAL : Addr) (vGREATER : Addr) (h0 : Heap) (n0 : Nat) (v : Option Value) (h : Heap) (L : List Loc) : Prop := v = some (.ref vLESS_OR_EQUAL) ∧ Fr n0 L ∧ h = h0
theorem ef_rm2_5 (m : MethodId) (x0 : Addr) : entryFrame m #[(.ref x0)] 1 = mkF m 0 #[.val (.ref x0)] [] := by first | (simp [entryFrame, mkF, argsToLocals, Value.category]; done) | rfl
set_option maxRecDepth 65536 in
set_option maxHeartbeats 40000000 in
theorem rm2_5 (l : Launch) (Z : State) (a0 : Array Value) (hw : ∀ d ∈ tables_1, d.before a0 Z = true) (ws : List Jvm.Cond) (vGREATER_OR_EQUAL : Addr) (vEQUAL : Addr) (vNOT_EQUAL : Addr) (vLESS : Addr) (vLESS_OR_EQUAL : Addr) (vGREATER : Addr) (h0 : Heap) (n0 : Nat) (Z0 : n0 ≤ h0.size) (S_Condition_Comparator_EQUAL : Sta Z h0 "com/example/exact_table/exacttable/Condition$Comparator" "EQUAL" "Lcom/example/exact_table/exacttable/Condition$Comparator;" (.ref vEQUAL)) (S_Condition_Comparator_NOT_EQUAL : Sta Z h0 "com/example/exact_table/exacttable/Condition$Comparator" "NOT_EQUAL" "Lcom/example/exact_table/exacttable/Condition$Comparator;" (.ref vNOT_EQUAL)) (S_Condition_Comparator_LESS : Sta Z h0 "com/example/exact_table/exacttable/Condition$Comparator" "LESS" "Lcom/example/exact_table/exacttable/Condition$Comparator;" (.ref vLESS)) (S_Condition_Comparator_LESS_OR_EQUAL : Sta Z h0 "com/example/exact_table/exacttable/Condition$Comparator" "LESS_OR_EQUAL" "Lcom/example/exact_table/exacttable/Condition$Comparator;" (.ref vLESS_OR_EQUAL)) (S_Condition_Comparator_GREATER : Sta Z h0 "com/example/exact_table/exacttable/Condition$Comparator" "GREATER" "Lcom/example/exact_table/exacttable/Condition$Comparator;" (.ref vGREATER)) (S_Condition_Comparator_GREATER_OR_EQUAL : Sta Z h0 "com/example/exact_table/exacttable/Condition$Comparator" "GREATER_OR_EQUAL" "Lcom/example/exact_table/exacttable/Condition$Comparator;" (.ref vGREATER_OR_EQUAL)) (F_ordinal_vGREATER_OR_EQUAL : Fld Z h0 vGREATER_OR_EQUAL "java/lang/Enum" "ordinal" "I" (.int (5 : Int32))) (E_vGREATER_OR_EQUAL : Exa Z h0 vGREATER_OR_EQUAL "com/example/exact_table/exacttable/Condition$Comparator") :
    MetFree l (⟨"com/example/exact_table/exacttable/Condition$Comparator", "flipped", "()Lcom/example/exact_table/exacttable/Condition$Comparator;"⟩ : MethodName) (head1 (Jvm.Cond.code (⟨"com/example/exact_table/exacttable/Condition$Comparator", "flipped", "()Lcom/example/exact_table/exacttable/Condition$Comparator;"⟩ : MethodName) prog_20_method_6_code 1 (some (.object "com/example/exact_table/exacttable/Condition$Comparator")) :: ws) ({ frames := 1, cells := 0, slots := 0, locals := 12 } : Room)) (fun a U => a = #[(.ref vGREATER_OR_EQUAL)] ∧ Z.Warmed39 U.vm ∧ U.heap = h0) (fun _ _ _ _ _ => True) (fun _ U o U' => ∃ v L, o = .returned v ∧ Q_rm2_5 Z vGREATER_OR_EQUAL vEQUAL vNOT_EQUAL vLESS vLESS_OR_EQUAL vGREATER h0 n0 v U'.heap L ∧ FrameEnd U o U' L ({ frames := 1, cells := 0, slots := 0, locals := 12 } : Room).cells ({ frames := 1, cells := 0, slots := 0, locals := 12 } : Room).slots) := by
  refine MetFree.of_bodySF (plainFor_of_name pn_2) hisR ?_
  intro p e s m args below meth c s₁ Bd hml0 hP hK
  obtain ⟨rfl, hZ, hh⟩ := hP
  have hx := Bd.exec
  have hby := Bd.bytes
  have hml : c.maxLocals = 1 := hml0
  have hown : s.vm.findClass "com/example/exact_table/exacttable/Condition$Comparator" = some m.cls := findClass_of_methodNamed Bd.named
  have hnm := (name_of_methodNamed Bd.named Bd.method).1
  have X0 : Stand p l e ({ frames := 1, cells := 0, slots := 0, locals := 12 } : Room) s m #[(.ref vGREATER_OR_EQUAL)] below meth c s₁ [] 0 0 := Stand.of_body Bd
  have e0 : s₁.heap = h0 := by rw [← hh, Bd.state]; rfl
  have N0 := Fr.nil n0
  show Run p e below s 0 0 (Q_rm2_5 Z vGREATER_OR_EQUAL vEQUAL vNOT_EQUAL vLESS vLESS_OR_EQUAL vGREATER h0 n0) (s₁.setTop (entryFrame m #[(.ref vGREATER_OR_EQUAL)] 1))
  refine Run.go (fun _ k => castTop (ef_rm2_5 m vGREATER_OR_EQUAL) k) ?_
  show Run p e below s 0 0 (Q_rm2_5 Z vGREATER_OR_EQUAL vEQUAL vNOT_EQUAL vLESS vLESS_OR_EQUAL vGREATER h0 n0) (s₁.setTop (mkF m 0 #[.val (.ref vGREATER_OR_EQUAL)] []))
  refine Run.go (fun _ k => XS.aloadN X0.here hx rfl (hb hby d2_0) rfl rfl k) ?_
  show Run p e below s 0 0 (Q_rm2_5 Z vGREATER_OR_EQUAL vEQUAL vNOT_EQUAL vLESS vLESS_OR_EQUAL vGREATER h0 n0) (s₁.setTop (mkF m 1 #[.val (.ref vGREATER_OR_EQUAL)] [(.ref vGREATER_OR_EQUAL)]))
  obtain ⟨cq1, kq1, q1a, q1b, q1c⟩ := isOf hZ e0 E_vGREATER_OR_EQUAL
  obtain ⟨_, _, ⟨T1, L1, k1, n1⟩, -, X1, ⟨Lc1, hQ1, l1, y1, z1⟩, st1⟩ := X0.virtualBackUp hx (owner := "java/lang/Enum") (x := (⟨"com/example/exact_table/exacttable/Condition$Comparator", "ordinal", "()I"⟩ : MethodName)) (y := (⟨"java/lang/Enum", "ordinal", "()I"⟩ : MethodName)) hown (mvT hZ (hw _ (List.mem_of_getElem? (i := 13) rfl))) (mvT hZ (hw _ (List.mem_of_getElem? (i := 14) rfl))) (mvT hZ (hw _ (List.mem_of_getElem? (i := 15) rfl))) (by decide) (mvT hZ (hw _ (List.mem_of_getElem? (i := 17) rfl))) (mvT hZ (hw _ (List.mem_of_getElem? (i := 16) rfl))) (backOf (W := 0) (rm3 l Z a0 hw [] vGREATER_OR_EQUAL (5 : Int32) h0 n0 Z0 F_ordinal_vGREATER_OR_EQUAL) hZ (hw _ (List.mem_of_getElem? (i := 19) rfl)) (hw _ (List.mem_of_getElem? (i := 18) rfl)) (by decide) (by decide)) q1a q1c (g := (mkF m 1 #[.val (.ref vGREATER_OR_EQUAL)] [(.ref vGREATER_OR_EQUAL)])) rfl (by rw [hml]; rfl) (Steps.refl _) (argsL := []) (rest := []) (lenOf pd_0 rfl) rfl (by show 2 * 0 + _ ≤ _; exact Nat.le_of_eq rfl) (hb hby d2_1) (fun _ _ => ⟨rfl, e0, (by decide : 0 + 0 ≤ _), (by decide : 0 + 0 ≤ _)⟩)
  dsimp only [Pt.U, Pt.locs, Pt.cells, Pt.slots] at X1 l1 y1 z1 st1 hQ1
  subst l1 y1 z1
  obtain ⟨rfl, N1q, e1q⟩ := hQ1
  have N1 := Fr.app N0 N1q
  obtain ⟨Lg1, Xg1, Ng1⟩ := Stand_gen X1 N1
  refine Run.tr st1 ?_
  show Run p e below s 0 0 (Q_rm2_5 Z vGREATER_OR_EQUAL vEQUAL vNOT_EQUAL vLESS vLESS_OR_EQUAL vGREATER h0 n0) (T1.setTop (mkF m 4 #[.val (.ref vGREATER_OR_EQUAL)] [(.int (5 : Int32))]))
  refine Run.go (fun _ k => XS.tswIn Xg1.here hx rfl (pc0 := 4) (pc' := 54) rfl (hb hby d2_4) rfl (by decide) rfl (by decide) (by decide) k) ?_
  show Run p e below s 0 0 (Q_rm2_5 Z vGREATER_OR_EQUAL vEQUAL vNOT_EQUAL vLESS vLESS_OR_EQUAL vGREATER h0 n0) (T1.setTop (mkF m 54 #[.val (.ref vGREATER_OR_EQUAL)] []))
  obtain ⟨T2, X2, e2, st2⟩ := getS2 Xg1 hx hZ hown (host := "") (Or.inl (hw _ (List.mem_of_getElem? (i := 40) rfl))) Via.refl e1q S_Condition_Comparator_LESS_OR_EQUAL (g := (mkF m 54 #[.val (.ref vGREATER_OR_EQUAL)] [])) rfl (hb hby d2_54)
  refine Run.go st2 ?_
  show Run p e below s 0 0 (Q_rm2_5 Z vGREATER_OR_EQUAL vEQUAL vNOT_EQUAL vLESS vLESS_OR_EQUAL vGREATER h0 n0) (T2.setTop (mkF m 57 #[.val (.ref vGREATER_OR_EQUAL)] [(.ref vLESS_OR_EQUAL)]))
  refine Run.go (fun _ k => XS.goto X2.here hx rfl (pc0 := 57) (pc' := 61) rfl (hb hby d2_57) (by decide) (by decide) k) ?_
  show Run p e below s 0 0 (Q_rm2_5 Z vGREATER_OR_EQUAL vEQUAL vNOT_EQUAL vLESS vLESS_OR_EQUAL vGREATER h0 n0) (T2.setTop (mkF m 61 #[.val (.ref vGREATER_OR_EQUAL)] [(.ref vLESS_OR_EQUAL)]))
  refine Run.retA X2 hx rfl Bd.returns rfl Bd.notSynchronized (hb hby d2_61) (by decide) (by decide) ?_
  show Q_rm2_5 Z vGREATER_OR_EQUAL vEQUAL vNOT_EQUAL vLESS vLESS_OR_EQUAL vGREATER h0 n0 _ T2.heap _
  exact ⟨rfl, Ng1, e2⟩
theorem d4_85 : decode method_3_code 85 = .ok (.aload_n 0, 1) := by decide +kernel
theorem d4_86 : decode method_3_code 86 = .ok (.getstatic 26, 3) := by decide +kernel
theorem d4_89 : decode method_3_code 89 = .ok (.if_acmp .ne 13, 3) := by decide +kernel
theorem d4_92 : decode method_3_code 92 = .ok (.iload_n 1, 1) := by decide +kernel
theorem d4_93 : decode method_3_code 93 = .ok (.ifCond .lt 7, 3) := by decide +kernel
theorem d4_100 : decode method_3_code 100 = .ok (.iconst 0, 1) := by decide +kernel
theorem d4_96 : decode method_3_code 96 = .ok (.iconst 1, 1) := by decide +kernel
theorem d4_97 : decode method_3_code 97 = .ok (.goto 4, 3) := by decide +kernel
theorem d4_101 : decode method_3_code 101 = .ok (.ireturn, 1) := by decide +kernel
def F_rm4_5 (p1 : Int32) : Int32 := let w9 : Int32 := (if (¬ (p1 < (0 : Int32))) then (1 : Int32) else 0); w9
def Q_rm4_5 (Z : State) (vGREATER_OR_EQUAL : Addr) (p1 : Int32) (vEQUAL : Addr) (vNOT_EQUAL : Addr) (vLESS : Addr) (vLESS_OR_EQUAL : Addr) (vGREATER : Addr) (h0 : Heap) (n0 : Nat) (v : Option Value) (h : Heap) (L : List Loc) : Prop := v = some (.int (F_rm4_5 p1)) ∧ Fr n0 L ∧ h = h0
theorem ef_rm4_5 (m : MethodId) (x0 : Addr) (x1 : Int32) : entryFrame m #[(.ref x0), (.int x1)] 2 = mkF m 0 #[.val (.ref x0), .val (.int x1)] [] := by first | (simp [entryFrame, mkF, argsToLocals, Value.category]; done) | rfl
set_option maxRecDepth 65536 in
set_option maxHeartbeats 40000000 in
theorem rm4_5 (l : Launch) (Z : State) (a0 : Array Value) (hw : ∀ d ∈ tables_1, d.before a0 Z = true) (ws : List Jvm.Cond) (vGREATER_OR_EQUAL : Addr) (p1 : Int32) (vEQUAL : Addr) (vNOT_EQUAL : Addr) (vLESS : Addr) (vLESS_OR_EQUAL : Addr) (vGREATER : Addr) (h0 : Heap) (n0 : Nat) (Z0 : n0 ≤ h0.size) (S_Condition_Comparator_EQUAL : Sta Z h0 "com/example/exact_table/exacttable/Condition$Comparator" "EQUAL" "Lcom/example/exact_table/exacttable/Condition$Comparator;" (.ref vEQUAL)) (S_Condition_Comparator_NOT_EQUAL : Sta Z h0 "com/example/exact_table/exacttable/Condition$Comparator" "NOT_EQUAL" "Lcom/example/exact_table/exacttable/Condition$Comparator;" (.ref vNOT_EQUAL)) (S_Condition_Comparator_LESS : Sta Z h0 "com/example/exact_table/exacttable/Condition$Comparator" "LESS" "Lcom/example/exact_table/exacttable/Condition$Comparator;" (.ref vLESS)) (S_Condition_Comparator_LESS_OR_EQUAL : Sta Z h0 "com/example/exact_table/exacttable/Condition$Comparator" "LESS_OR_EQUAL" "Lcom/example/exact_table/exacttable/Condition$Comparator;" (.ref vLESS_OR_EQUAL)) (S_Condition_Comparator_GREATER : Sta Z h0 "com/example/exact_table/exacttable/Condition$Comparator" "GREATER" "Lcom/example/exact_table/exacttable/Condition$Comparator;" (.ref vGREATER)) (S_Condition_Comparator_GREATER_OR_EQUAL : Sta Z h0 "com/example/exact_table/exacttable/Condition$Comparator" "GREATER_OR_EQUAL" "Lcom/example/exact_table/exacttable/Condition$Comparator;" (.ref vGREATER_OR_EQUAL)) (ne_vEQUAL_vNOT_EQUAL : vEQUAL ≠ vNOT_EQUAL) (ne_vEQUAL_vLESS : vEQUAL ≠ vLESS) (ne_vEQUAL_vLESS_OR_EQUAL : vEQUAL ≠ vLESS_OR_EQUAL) (ne_vEQUAL_vGREATER : vEQUAL ≠ vGREATER) (ne_vEQUAL_vGREATER_OR_EQUAL : vEQUAL ≠ vGREATER_OR_EQUAL) (ne_vNOT_EQUAL_vLESS : vNOT_EQUAL ≠ vLESS) (ne_vNOT_EQUAL_vLESS_OR_EQUAL : vNOT_EQUAL ≠ vLESS_OR_EQUAL) (ne_vNOT_EQUAL_vGREATER : vNOT_EQUAL ≠ vGREATER) (ne_vNOT_EQUAL_vGREATER_OR_EQUAL : vNOT_EQUAL ≠ vGREATER_OR_EQUAL) (ne_vLESS_vLESS_OR_EQUAL : vLESS ≠ vLESS_OR_EQUAL) (ne_vLESS_vGREATER : vLESS ≠ vGREATER) (ne_vLESS_vGREATER_OR_EQUAL : vLESS ≠ vGREATER_OR_EQUAL) (ne_vLESS_OR_EQUAL_vGREATER : vLESS_OR_EQUAL ≠ vGREATER) (ne_vLESS_OR_EQUAL_vGREATER_OR_EQUAL : vLESS_OR_EQUAL ≠ vGREATER_OR_EQUAL) (ne_vGREATER_vGREATER_OR_EQUAL : vGREATER ≠ vGREATER_OR_EQUAL) :
    MetFree l (⟨"com/example/exact_table/exacttable/ComparatorFlippedPinLaw", "holds", "(Lcom/example/exact_table/exacttable/Condition$Comparator;I)Z"⟩ : MethodName) (head1 (Jvm.Cond.code (⟨"com/example/exact_table/exacttable/ComparatorFlippedPinLaw", "holds", "(Lcom/example/exact_table/exacttable/Condition$Comparator;I)Z"⟩ : MethodName) method_3_code 2 (some .boolean) :: ws) ({ frames := 0, cells := 0, slots := 0, locals := 0 } : Room)) (fun a U => a = #[(.ref vGREATER_OR_EQUAL), (.int p1)] ∧ Z.Warmed39 U.vm ∧ U.heap = h0) (fun _ _ _ _ _ => True) (fun _ U o U' => ∃ v L, o = .returned v ∧ Q_rm4_5 Z vGREATER_OR_EQUAL p1 vEQUAL vNOT_EQUAL vLESS vLESS_OR_EQUAL vGREATER h0 n0 v U'.heap L ∧ FrameEnd U o U' L ({ frames := 0, cells := 0, slots := 0, locals := 0 } : Room).cells ({ frames := 0, cells := 0, slots := 0, locals := 0 } : Room).slots) := by
  refine MetFree.of_bodySF (plainFor_of_name pn_1) hisR ?_
  intro p e s m args below meth c s₁ Bd hml0 hP hK
  obtain ⟨rfl, hZ, hh⟩ := hP
  have hx := Bd.exec
  have hby := Bd.bytes
  have hml : c.maxLocals = 2 := hml0
  have hown : s.vm.findClass "com/example/exact_table/exacttable/ComparatorFlippedPinLaw" = some m.cls := findClass_of_methodNamed Bd.named
  have hnm := (name_of_methodNamed Bd.named Bd.method).1
  have X0 : Stand p l e ({ frames := 0, cells := 0, slots := 0, locals := 0 } : Room) s m #[(.ref vGREATER_OR_EQUAL), (.int p1)] below meth c s₁ [] 0 0 := Stand.of_body Bd
  have e0 : s₁.heap = h0 := by rw [← hh, Bd.state]; rfl
  have N0 := Fr.nil n0
  show Run p e below s 0 0 (Q_rm4_5 Z vGREATER_OR_EQUAL p1 vEQUAL vNOT_EQUAL vLESS vLESS_OR_EQUAL vGREATER h0 n0) (s₁.setTop (entryFrame m #[(.ref vGREATER_OR_EQUAL), (.int p1)] 2))
  refine Run.go (fun _ k => castTop (ef_rm4_5 m vGREATER_OR_EQUAL p1) k) ?_
  show Run p e below s 0 0 (Q_rm4_5 Z vGREATER_OR_EQUAL p1 vEQUAL vNOT_EQUAL vLESS vLESS_OR_EQUAL vGREATER h0 n0) (s₁.setTop (mkF m 0 #[.val (.ref vGREATER_OR_EQUAL), .val (.int p1)] []))
  refine Run.go (fun _ k => XS.aloadN X0.here hx rfl (hb hby d4_0) rfl rfl k) ?_
  show Run p e below s 0 0 (Q_rm4_5 Z vGREATER_OR_EQUAL p1 vEQUAL vNOT_EQUAL vLESS vLESS_OR_EQUAL vGREATER h0 n0) (s₁.setTop (mkF m 1 #[.val (.ref vGREATER_OR_EQUAL), .val (.int p1)] [(.ref vGREATER_OR_EQUAL)]))
  obtain ⟨T2, X2, e2, st2⟩ := getS2 X0 hx hZ hown (host := "") (Or.inl (hw _ (List.mem_of_getElem? (i := 5) rfl))) Via.refl e0 S_Condition_Comparator_EQUAL (g := (mkF m 1 #[.val (.ref vGREATER_OR_EQUAL), .val (.int p1)] [(.ref vGREATER_OR_EQUAL)])) rfl (hb hby d4_1)
  refine Run.go st2 ?_
  show Run p e below s 0 0 (Q_rm4_5 Z vGREATER_OR_EQUAL p1 vEQUAL vNOT_EQUAL vLESS vLESS_OR_EQUAL vGREATER h0 n0) (T2.setTop (mkF m 4 #[.val (.ref vGREATER_OR_EQUAL), .val (.int p1)] [(.ref vEQUAL), (.ref vGREATER_OR_EQUAL)]))
  refine Run.go (fun _ k => Jvm.RoadKit.acmp (g := (mkF m 4 #[.val (.ref vGREATER_OR_EQUAL), .val (.int p1)] [(.ref vEQUAL), (.ref vGREATER_OR_EQUAL)])) X2 hx rfl rfl rfl (pc0 := 4) (pc' := 17) (same := false) rfl (hb hby d4_4) rfl (decide_eq_false fun q => (Ne.symm ne_vEQUAL_vGREATER_OR_EQUAL) (Value.ref.inj q)) (by decide) (by decide) k) ?_
  show Run p e below s 0 0 (Q_rm4_5 Z vGREATER_OR_EQUAL p1 vEQUAL vNOT_EQUAL vLESS vLESS_OR_EQUAL vGREATER h0 n0) (T2.setTop (mkF m 17 #[.val (.ref vGREATER_OR_EQUAL), .val (.int p1)] []))
  refine Run.go (fun _ k => XS.aloadN X2.here hx rfl (hb hby d4_17) rfl rfl k) ?_
  show Run p e below s 0 0 (Q_rm4_5 Z vGREATER_OR_EQUAL p1 vEQUAL vNOT_EQUAL vLESS vLESS_OR_EQUAL vGREATER h0 n0) (T2.setTop (mkF m 18 #[.val (.ref vGREATER_OR_EQUAL), .val (.int p1)] [(.ref vGREATER_OR_EQUAL)]))
  obtain ⟨T3, X3, e3, st3⟩ := getS2 X2 hx hZ hown (host := "") (Or.inl (hw _ (List.mem_of_getElem? (i := 28) rfl))) Via.refl e2 S_Condition_Comparator_NOT_EQUAL (g := (mkF m 18 #[.val (.ref vGREATER_OR_EQUAL), .val (.int p1)] [(.ref vGREATER_OR_EQUAL)])) rfl (hb hby d4_18)
  refine Run.go st3 ?_
  show Run p e below s 0 0 (Q_rm4_5 Z vGREATER_OR_EQUAL p1 vEQUAL vNOT_EQUAL vLESS vLESS_OR_EQUAL vGREATER h0 n0) (T3.setTop (mkF m 21 #[.val (.ref vGREATER_OR_EQUAL), .val (.int p1)] [(.ref vNOT_EQUAL), (.ref vGREATER_OR_EQUAL)]))
  refine Run.go (fun _ k => Jvm.RoadKit.acmp (g := (mkF m 21 #[.val (.ref vGREATER_OR_EQUAL), .val (.int p1)] [(.ref vNOT_EQUAL), (.ref vGREATER_OR_EQUAL)])) X3 hx rfl rfl rfl (pc0 := 21) (pc' := 34) (same := false) rfl (hb hby d4_21) rfl (decide_eq_false fun q => (Ne.symm ne_vNOT_EQUAL_vGREATER_OR_EQUAL) (Value.ref.inj q)) (by decide) (by decide) k) ?_
  show Run p e below s 0 0 (Q_rm4_5 Z vGREATER_OR_EQUAL p1 vEQUAL vNOT_EQUAL vLESS vLESS_OR_EQUAL vGREATER h0 n0) (T3.setTop (mkF m 34 #[.val (.ref vGREATER_OR_EQUAL), .val (.int p1)] []))
  refine Run.go (fun _ k => XS.aloadN X3.here hx rfl (hb hby d4_34) rfl rfl k) ?_
  show Run p e below s 0 0 (Q_rm4_5 Z vGREATER_OR_EQUAL p1 vEQUAL vNOT_EQUAL vLESS vLESS_OR_EQUAL vGREATER h0 n0) (T3.setTop (mkF m 35 #[.val (.ref vGREATER_OR_EQUAL), .val (.int p1)] [(.ref vGREATER_OR_EQUAL)]))
  obtain ⟨T4, X4, e4, st4⟩ := getS2 X3 hx hZ hown (host := "") (Or.inl (hw _ (List.mem_of_getElem? (i := 30) rfl))) Via.refl e3 S_Condition_Comparator_LESS (g := (mkF m 35 #[.val (.ref vGREATER_OR_EQUAL), .val (.int p1)] [(.ref vGREATER_OR_EQUAL)])) rfl (hb hby d4_35)
  refine Run.go st4 ?_
  show Run p e below s 0 0 (Q_rm4_5 Z vGREATER_OR_EQUAL p1 vEQUAL vNOT_EQUAL vLESS vLESS_OR_EQUAL vGREATER h0 n0) (T4.setTop (mkF m 38 #[.val (.ref vGREATER_OR_EQUAL), .val (.int p1)] [(.ref vLESS), (.ref vGREATER_OR_EQUAL)]))
  refine Run.go (fun _ k => Jvm.RoadKit.acmp (g := (mkF m 38 #[.val (.ref vGREATER_OR_EQUAL), .val (.int p1)] [(.ref vLESS), (.ref vGREATER_OR_EQUAL)])) X4 hx rfl rfl rfl (pc0 := 38) (pc' := 51) (same := false) rfl (hb hby d4_38) rfl (decide_eq_false fun q => (Ne.symm ne_vLESS_vGREATER_OR_EQUAL) (Value.ref.inj q)) (by decide) (by decide) k) ?_
  show Run p e below s 0 0 (Q_rm4_5 Z vGREATER_OR_EQUAL p1 vEQUAL vNOT_EQUAL vLESS vLESS_OR_EQUAL vGREATER h0 n0) (T4.setTop (mkF m 51 #[.val (.ref vGREATER_OR_EQUAL), .val (.int p1)] []))
  refine Run.go (fun _ k => XS.aloadN X4.here hx rfl (hb hby d4_51) rfl rfl k) ?_
  show Run p e below s 0 0 (Q_rm4_5 Z vGREATER_OR_EQUAL p1 vEQUAL vNOT_EQUAL vLESS vLESS_OR_EQUAL vGREATER h0 n0) (T4.setTop (mkF m 52 #[.val (.ref vGREATER_OR_EQUAL), .val (.int p1)] [(.ref vGREATER_OR_EQUAL)]))
  obtain ⟨T5, X5, e5, st5⟩ := getS2 X4 hx hZ hown (host := "") (Or.inl (hw _ (List.mem_of_getElem? (i := 34) rfl))) Via.refl e4 S_Condition_Comparator_LESS_OR_EQUAL (g := (mkF m 52 #[.val (.ref vGREATER_OR_EQUAL), .val (.int p1)] [(.ref vGREATER_OR_EQUAL)])) rfl (hb hby d4_52)
  refine Run.go st5 ?_
  show Run p e below s 0 0 (Q_rm4_5 Z vGREATER_OR_EQUAL p1 vEQUAL vNOT_EQUAL vLESS vLESS_OR_EQUAL vGREATER h0 n0) (T5.setTop (mkF m 55 #[.val (.ref vGREATER_OR_EQUAL), .val (.int p1)] [(.ref vLESS_OR_EQUAL), (.ref vGREATER_OR_EQUAL)]))
  refine Run.go (fun _ k => Jvm.RoadKit.acmp (g := (mkF m 55 #[.val (.ref vGREATER_OR_EQUAL), .val (.int p1)] [(.ref vLESS_OR_EQUAL), (.ref vGREATER_OR_EQUAL)])) X5 hx rfl rfl rfl (pc0 := 55) (pc' := 68) (same := false) rfl (hb hby d4_55) rfl (decide_eq_false fun q => (Ne.symm ne_vLESS_OR_EQUAL_vGREATER_OR_EQUAL) (Value.ref.inj q)) (by decide) (by decide) k) ?_
  show Run p e below s 0 0 (Q_rm4_5 Z vGREATER_OR_EQUAL p1 vEQUAL vNOT_EQUAL vLESS vLESS_OR_EQUAL vGREATER h0 n0) (T5.setTop (mkF m 68 #[.val (.ref vGREATER_OR_EQUAL), .val (.int p1)] []))
  refine Run.go (fun _ k => XS.aloadN X5.here hx rfl (hb hby d4_68) rfl rfl k) ?_
  show Run p e below s 0 0 (Q_rm4_5 Z vGREATER_OR_EQUAL p1 vEQUAL vNOT_EQUAL vLESS vLESS_OR_EQUAL vGREATER h0 n0) (T5.setTop (mkF m 69 #[.val (.ref vGREATER_OR_EQUAL), .val (.int p1)] [(.ref vGREATER_OR_EQUAL)]))
  obtain ⟨T6, X6, e6, st6⟩ := getS2 X5 hx hZ hown (host := "") (Or.inl (hw _ (List.mem_of_getElem? (i := 36) rfl))) Via.refl e5 S_Condition_Comparator_GREATER (g := (mkF m 69 #[.val (.ref vGREATER_OR_EQUAL), .val (.int p1)] [(.ref vGREATER_OR_EQUAL)])) rfl (hb hby d4_69)
  refine Run.go st6 ?_
  show Run p e below s 0 0 (Q_rm4_5 Z vGREATER_OR_EQUAL p1 vEQUAL vNOT_EQUAL vLESS vLESS_OR_EQUAL vGREATER h0 n0) (T6.setTop (mkF m 72 #[.val (.ref vGREATER_OR_EQUAL), .val (.int p1)] [(.ref vGREATER), (.ref vGREATER_OR_EQUAL)]))
  refine Run.go (fun _ k => Jvm.RoadKit.acmp (g := (mkF m 72 #[.val (.ref vGREATER_OR_EQUAL), .val (.int p1)] [(.ref vGREATER), (.ref vGREATER_OR_EQUAL)])) X6 hx rfl rfl rfl (pc0 := 72) (pc' := 85) (same := false) rfl (hb hby d4_72) rfl (decide_eq_false fun q => (Ne.symm ne_vGREATER_vGREATER_OR_EQUAL) (Value.ref.inj q)) (by decide) (by decide) k) ?_
  show Run p e below s 0 0 (Q_rm4_5 Z vGREATER_OR_EQUAL p1 vEQUAL vNOT_EQUAL vLESS vLESS_OR_EQUAL vGREATER h0 n0) (T6.setTop (mkF m 85 #[.val (.ref vGREATER_OR_EQUAL), .val (.int p1)] []))
  refine Run.go (fun _ k => XS.aloadN X6.here hx rfl (hb hby d4_85) rfl rfl k) ?_
  show Run p e below s 0 0 (Q_rm4_5 Z vGREATER_OR_EQUAL p1 vEQUAL vNOT_EQUAL vLESS vLESS_OR_EQUAL vGREATER h0 n0) (T6.setTop (mkF m 86 #[.val (.ref vGREATER_OR_EQUAL), .val (.int p1)] [(.ref vGREATER_OR_EQUAL)]))
  obtain ⟨T7, X7, e7, st7⟩ := getS2 X6 hx hZ hown (host := "") (Or.inl (hw _ (List.mem_of_getElem? (i := 38) rfl))) Via.refl e6 S_Condition_Comparator_GREATER_OR_EQUAL (g := (mkF m 86 #[.val (.ref vGREATER_OR_EQUAL), .val (.int p1)] [(.ref vGREATER_OR_EQUAL)])) rfl (hb hby d4_86)
  refine Run.go st7 ?_
  show Run p e below s 0 0 (Q_rm4_5 Z vGREATER_OR_EQUAL p1 vEQUAL vNOT_EQUAL vLESS vLESS_OR_EQUAL vGREATER h0 n0) (T7.setTop (mkF m 89 #[.val (.ref vGREATER_OR_EQUAL), .val (.int p1)] [(.ref vGREATER_OR_EQUAL), (.ref vGREATER_OR_EQUAL)]))
  refine Run.go (fun _ k => Jvm.RoadKit.acmp (g := (mkF m 89 #[.val (.ref vGREATER_OR_EQUAL), .val (.int p1)] [(.ref vGREATER_OR_EQUAL), (.ref vGREATER_OR_EQUAL)])) X7 hx rfl rfl rfl (pc0 := 89) (pc' := 92) (same := true) rfl (hb hby d4_89) rfl (decide_eq_true rfl) (by decide) (by decide) k) ?_
  show Run p e below s 0 0 (Q_rm4_5 Z vGREATER_OR_EQUAL p1 vEQUAL vNOT_EQUAL vLESS vLESS_OR_EQUAL vGREATER h0 n0) (T7.setTop (mkF m 92 #[.val (.ref vGREATER_OR_EQUAL), .val (.int p1)] []))
  refine Run.go (fun _ k => XS.iloadN X7.here hx rfl (hb hby d4_92) rfl  k) ?_
  show Run p e below s 0 0 (Q_rm4_5 Z vGREATER_OR_EQUAL p1 vEQUAL vNOT_EQUAL vLESS vLESS_OR_EQUAL vGREATER h0 n0) (T7.setTop (mkF m 93 #[.val (.ref vGREATER_OR_EQUAL), .val (.int p1)] [(.int p1)]))
  have J8 : ∀ (w9 : Int32) (hw9 : w9 = (if (¬ (p1 < (0 : Int32))) then (1 : Int32) else 0)) (T10 : State) (L10 : List Loc) (X10 : Stand p l e ({ frames := 0, cells := 0, slots := 0, locals := 0 } : Room) s m #[(.ref vGREATER_OR_EQUAL), (.int p1)] below meth c T10 L10 0 0) (e10 : T10.heap = h0) (N10 : Fr n0 L10), Run p e below s 0 0 (Q_rm4_5 Z vGREATER_OR_EQUAL p1 vEQUAL vNOT_EQUAL vLESS vLESS_OR_EQUAL vGREATER h0 n0) (T10.setTop (mkF m 101 #[.val (.ref vGREATER_OR_EQUAL), .val (.int p1)] [(.int w9)])) := by
    intro w9 hw9 T10 L10 X10 e10 N10
    show Run p e below s 0 0 (Q_rm4_5 Z vGREATER_OR_EQUAL p1 vEQUAL vNOT_EQUAL vLESS vLESS_OR_EQUAL vGREATER h0 n0) (T10.setTop (mkF m 101 #[.val (.ref vGREATER_OR_EQUAL), .val (.int p1)] [(.int w9)]))
    refine Run.retN (y := w9) X10 hx (t := .boolean) Bd.returns (by simp) (by rw [hw9]; exact nar_ite _) Bd.notSynchronized (hb hby d4_101) (by decide) (by decide) ?_
    show Q_rm4_5 Z vGREATER_OR_EQUAL p1 vEQUAL vNOT_EQUAL vLESS vLESS_OR_EQUAL vGREATER h0 n0 _ T10.heap _
    exact ⟨congrArg some (congrArg Value.int (show w9 = (F_rm4_5 p1) from (by subst hw9; unfold F_rm4_5; rfl))), N10, e10⟩
  by_cases hc11 : (p1 < (0 : Int32))
  · refine Run.go (fun _ k => XS.ifYes X7.here hx rfl (pc0 := 93) (pc' := 100) rfl (hb hby d4_93) rfl ((if0 _ _).trans (tlt hc11).1) (by decide) (by decide) k) ?_
    show Run p e below s 0 0 (Q_rm4_5 Z vGREATER_OR_EQUAL p1 vEQUAL vNOT_EQUAL vLESS vLESS_OR_EQUAL vGREATER h0 n0) (T7.setTop (mkF m 100 #[.val (.ref vGREATER_OR_EQUAL), .val (.int p1)] []))
    refine Run.go (fun _ k => XS.iconst X7.here hx rfl (hb hby d4_100) k) ?_
    show Run p e below s 0 0 (Q_rm4_5 Z vGREATER_OR_EQUAL p1 vEQUAL vNOT_EQUAL vLESS vLESS_OR_EQUAL vGREATER h0 n0) (T7.setTop (mkF m 101 #[.val (.ref vGREATER_OR_EQUAL), .val (.int p1)] [(.int (0 : Int32))]))
    exact J8 _ (if_neg (fun q => q hc11)).symm _ _ X7 e7 N0
  · refine Run.go (fun _ k => XS.ifNo X7.here hx rfl (hb hby d4_93) rfl ((if0 _ _).trans (flt hc11).1) k) ?_
    show Run p e below s 0 0 (Q_rm4_5 Z vGREATER_OR_EQUAL p1 vEQUAL vNOT_EQUAL vLESS vLESS_OR_EQUAL vGREATER h0 n0) (T7.setTop (mkF m 96 #[.val (.ref vGREATER_OR_EQUAL), .val (.int p1)] []))
    refine Run.go (fun _ k => XS.iconst X7.here hx rfl (hb hby d4_96) k) ?_
    show Run p e below s 0 0 (Q_rm4_5 Z vGREATER_OR_EQUAL p1 vEQUAL vNOT_EQUAL vLESS vLESS_OR_EQUAL vGREATER h0 n0) (T7.setTop (mkF m 97 #[.val (.ref vGREATER_OR_EQUAL), .val (.int p1)] [(.int (1 : Int32))]))
    refine Run.go (fun _ k => XS.goto X7.here hx rfl (pc0 := 97) (pc' := 101) rfl (hb hby d4_97) (by decide) (by decide) k) ?_
    show Run p e below s 0 0 (Q_rm4_5 Z vGREATER_OR_EQUAL p1 vEQUAL vNOT_EQUAL vLESS vLESS_OR_EQUAL vGREATER h0 n0) (T7.setTop (mkF m 101 #[.val (.ref vGREATER_OR_EQUAL), .val (.int p1)] [(.int (1 : Int32))]))
    exact J8 _ (if_pos hc11).symm _ _ X7 e7 N0
theorem d5_0 : decode method_4_code 0 = .ok (.iload_n 0, 1) := by decide +kernel
theorem d5_1 : decode method_4_code 1 = .ok (.iload_n 1, 1) := by decide +kernel
theorem d5_2 : decode method_4_code 2 = .ok (.if_icmp .ge 5, 3) := by decide +kernel
theorem d5_5 : decode method_4_code 5 = .ok (.iconst (-1), 1) := by decide +kernel
theorem d5_6 : decode method_4_code 6 = .ok (.ireturn, 1) := by decide +kernel
theorem d5_7 : decode method_4_code 7 = .ok (.iload_n 0, 1) := by decide +kernel
theorem d5_8 : decode method_4_code 8 = .ok (.iload_n 1, 1) := by decide +kernel
theorem d5_9 : decode method_4_code 9 = .ok (.if_icmp .ne 5, 3) := by decide +kernel
theorem d5_12 : decode method_4_code 12 = .ok (.iconst 0, 1) := by decide +kernel
theorem d5_13 : decode method_4_code 13 = .ok (.ireturn, 1) := by decide +kernel
theorem d5_14 : decode method_4_code 14 = .ok (.iconst 1, 1) := by decide +kernel
theorem d5_15 : decode method_4_code 15 = .ok (.ireturn, 1) := by decide +kernel
def F_rm5 (p1 : Int32) (p2 : Int32) : Int32 := (if (p1 < p2) then (-1 : Int32) else (if (p1 = p2) then (0 : Int32) else (1 : Int32)))
def Q_rm5 (Z : State) (p1 : Int32) (p2 : Int32) (h0 : Heap) (n0 : Nat) (v : Option Value) (h : Heap) (L : List Loc) : Prop := v = some (.int (F_rm5 p1 p2)) ∧ Fr n0 L ∧ h = h0
theorem ef_rm5 (m : MethodId) (x0 : Int32) (x1 : Int32) : entryFrame m #[(.int x0), (.int x1)] 2 = mkF m 0 #[.val (.int x0), .val (.int x1)] [] := by first | (simp [entryFrame, mkF, argsToLocals, Value.category]; done) | rfl
set_option maxRecDepth 65536 in
set_option maxHeartbeats 40000000 in
theorem rm5 (l : Launch) (Z : State) (a0 : Array Value) (hw : ∀ d ∈ tables_1, d.before a0 Z = true) (ws : List Jvm.Cond) (p1 : Int32) (p2 : Int32) (h0 : Heap) (n0 : Nat) (Z0 : n0 ≤ h0.size)  :
    MetFree l (⟨"com/example/exact_table/exacttable/ComparatorFlippedPinLaw", "sign", "(II)I"⟩ : MethodName) (head1 (Jvm.Cond.code (⟨"com/example/exact_table/exacttable/ComparatorFlippedPinLaw", "sign", "(II)I"⟩ : MethodName) method_4_code 2 (some .int) :: ws) ({ frames := 0, cells := 0, slots := 0, locals := 0 } : Room)) (fun a U => a = #[(.int p1), (.int p2)] ∧ Z.Warmed39 U.vm ∧ U.heap = h0) (fun _ _ _ _ _ => True) (fun _ U o U' => ∃ v L, o = .returned v ∧ Q_rm5 Z p1 p2 h0 n0 v U'.heap L ∧ FrameEnd U o U' L ({ frames := 0, cells := 0, slots := 0, locals := 0 } : Room).cells ({ frames := 0, cells := 0, slots := 0, locals := 0 } : Room).slots) := by
  refine MetFree.of_bodySF (plainFor_of_name pn_1) hisR ?_
  intro p e s m args below meth c s₁ Bd hml0 hP hK
  obtain ⟨rfl, hZ, hh⟩ := hP
  have hx := Bd.exec
  have hby := Bd.bytes
  have hml : c.maxLocals = 2 := hml0
  have hown : s.vm.findClass "com/example/exact_table/exacttable/ComparatorFlippedPinLaw" = some m.cls := findClass_of_methodNamed Bd.named
  have hnm := (name_of_methodNamed Bd.named Bd.method).1
  have X0 : Stand p l e ({ frames := 0, cells := 0, slots := 0, locals := 0 } : Room) s m #[(.int p1), (.int p2)] below meth c s₁ [] 0 0 := Stand.of_body Bd
  have e0 : s₁.heap = h0 := by rw [← hh, Bd.state]; rfl
  have N0 := Fr.nil n0
  show Run p e below s 0 0 (Q_rm5 Z p1 p2 h0 n0) (s₁.setTop (entryFrame m #[(.int p1), (.int p2)] 2))
  refine Run.go (fun _ k => castTop (ef_rm5 m p1 p2) k) ?_
  show Run p e below s 0 0 (Q_rm5 Z p1 p2 h0 n0) (s₁.setTop (mkF m 0 #[.val (.int p1), .val (.int p2)] []))
  refine Run.go (fun _ k => XS.iloadN X0.here hx rfl (hb hby d5_0) rfl  k) ?_
  show Run p e below s 0 0 (Q_rm5 Z p1 p2 h0 n0) (s₁.setTop (mkF m 1 #[.val (.int p1), .val (.int p2)] [(.int p1)]))
  refine Run.go (fun _ k => XS.iloadN X0.here hx rfl (hb hby d5_1) rfl  k) ?_
  show Run p e below s 0 0 (Q_rm5 Z p1 p2 h0 n0) (s₁.setTop (mkF m 2 #[.val (.int p1), .val (.int p2)] [(.int p2), (.int p1)]))
  by_cases hc3 : (p1 < p2)
  · refine Run.go (fun _ k => XS.icmpNo X0.here hx rfl (hb hby d5_2) rfl (tlt hc3).2.1 k) ?_
    show Run p e below s 0 0 (Q_rm5 Z p1 p2 h0 n0) (s₁.setTop (mkF m 5 #[.val (.int p1), .val (.int p2)] []))
    refine Run.go (fun _ k => XS.iconst X0.here hx rfl (hb hby d5_5) k) ?_
    show Run p e below s 0 0 (Q_rm5 Z p1 p2 h0 n0) (s₁.setTop (mkF m 6 #[.val (.int p1), .val (.int p2)] [(.int (-1 : Int32))]))
    refine Run.retI X0 hx Bd.returns Bd.notSynchronized (hb hby d5_6) (by decide) (by decide) ?_
    show Q_rm5 Z p1 p2 h0 n0 _ s₁.heap _
    exact ⟨congrArg some (congrArg Value.int (show (-1 : Int32) = (F_rm5 p1 p2) from (by unfold F_rm5; rw [if_pos hc3]))), N0, e0⟩
  · refine Run.go (fun _ k => XS.icmpYes X0.here hx rfl (pc0 := 2) (pc' := 7) rfl (hb hby d5_2) rfl (flt hc3).2.1 (by decide) (by decide) k) ?_
    show Run p e below s 0 0 (Q_rm5 Z p1 p2 h0 n0) (s₁.setTop (mkF m 7 #[.val (.int p1), .val (.int p2)] []))
    refine Run.go (fun _ k => XS.iloadN X0.here hx rfl (hb hby d5_7) rfl  k) ?_
    show Run p e below s 0 0 (Q_rm5 Z p1 p2 h0 n0) (s₁.setTop (mkF m 8 #[.val (.int p1), .val (.int p2)] [(.int p1)]))
    refine Run.go (fun _ k => XS.iloadN X0.here hx rfl (hb hby d5_8) rfl  k) ?_
    show Run p e below s 0 0 (Q_rm5 Z p1 p2 h0 n0) (s₁.setTop (mkF m 9 #[.val (.int p1), .val (.int p2)] [(.int p2), (.int p1)]))
    by_cases hc4 : (p1 = p2)
    · refine Run.go (fun _ k => XS.icmpNo X0.here hx rfl (hb hby d5_9) rfl (teq hc4).2 k) ?_
      show Run p e below s 0 0 (Q_rm5 Z p1 p2 h0 n0) (s₁.setTop (mkF m 12 #[.val (.int p1), .val (.int p2)] []))
      refine Run.go (fun _ k => XS.iconst X0.here hx rfl (hb hby d5_12) k) ?_
      show Run p e below s 0 0 (Q_rm5 Z p1 p2 h0 n0) (s₁.setTop (mkF m 13 #[.val (.int p1), .val (.int p2)] [(.int (0 : Int32))]))
      refine Run.retI X0 hx Bd.returns Bd.notSynchronized (hb hby d5_13) (by decide) (by decide) ?_
      show Q_rm5 Z p1 p2 h0 n0 _ s₁.heap _
      exact ⟨congrArg some (congrArg Value.int (show (0 : Int32) = (F_rm5 p1 p2) from (by unfold F_rm5; rw [if_neg hc3, if_pos hc4]))), N0, e0⟩
    · refine Run.go (fun _ k => XS.icmpYes X0.here hx rfl (pc0 := 9) (pc' := 14) rfl (hb hby d5_9) rfl (feq hc4).2 (by decide) (by decide) k) ?_
      show Run p e below s 0 0 (Q_rm5 Z p1 p2 h0 n0) (s₁.setTop (mkF m 14 #[.val (.int p1), .val (.int p2)] []))
      refine Run.go (fun _ k => XS.iconst X0.here hx rfl (hb hby d5_14) k) ?_
      show Run p e below s 0 0 (Q_rm5 Z p1 p2 h0 n0) (s₁.setTop (mkF m 15 #[.val (.int p1), .val (.int p2)] [(.int (1 : Int32))]))
      refine Run.retI X0 hx Bd.returns Bd.notSynchronized (hb hby d5_15) (by decide) (by decide) ?_
      show Q_rm5 Z p1 p2 h0 n0 _ s₁.heap _
      exact ⟨congrArg some (congrArg Value.int (show (1 : Int32) = (F_rm5 p1 p2) from (by unfold F_rm5; rw [if_neg hc3, if_neg hc4]))), N0, e0⟩
theorem own_c (k : Int32) : ((k &&& (2147483647 : Int32)) % (6 : Int32)) = (0 : Int32) ∨ ((k &&& (2147483647 : Int32)) % (6 : Int32)) = (1 : Int32) ∨ ((k &&& (2147483647 : Int32)) % (6 : Int32)) = (2 : Int32) ∨ ((k &&& (2147483647 : Int32)) % (6 : Int32)) = (3 : Int32) ∨ ((k &&& (2147483647 : Int32)) % (6 : Int32)) = (4 : Int32) ∨ ((k &&& (2147483647 : Int32)) % (6 : Int32)) = (5 : Int32) := by
  have h := c_and k 2147483647 (by decide)
  have h2 := (c_irem (k &&& (2147483647 : Int32)) 6 6 rfl).1 h.1
  simp only [← Int32.toInt_inj, show (0 : Int32).toInt = 0 from rfl, show (1 : Int32).toInt = 1 from rfl, show (2 : Int32).toInt = 2 from rfl, show (3 : Int32).toInt = 3 from rfl, show (4 : Int32).toInt = 4 from rfl, show (5 : Int32).toInt = 5 from rfl]
  omega
theorem own_s (a b : Int32) : (F_rm5 a b = -1 ∧ F_rm5 b a = 1) ∨ (F_rm5 a b = 0 ∧ F_rm5 b a = 0) ∨ (F_rm5 a b = 1 ∧ F_rm5 b a = -1) := by
  unfold F_rm5
  by_cases h1 : a < b
  · have h2 : ¬ (b < a) := fun q => Int32.lt_irrefl (Int32.lt_trans h1 q)
    have h3 : ¬ (b = a) := fun q => by subst q; exact Int32.lt_irrefl h1
    simp [h1, h2, h3]
  · by_cases h2 : a = b
    · subst h2; simp
    · have h3 : b < a := by
        rw [Int32.lt_iff_toInt_lt] at h1 ⊢
        rw [← Int32.toInt_inj] at h2
        omega
      simp [h1, h2, h3]
theorem own_h0 (a b : Int32) : F_rm4_0 (F_rm5 b a) = F_rm4_0 (F_rm5 a b) := by
  rcases own_s a b with ⟨h1, h2⟩ | ⟨h1, h2⟩ | ⟨h1, h2⟩ <;> rw [h1, h2] <;> decide
theorem own_h1 (a b : Int32) : F_rm4_1 (F_rm5 b a) = F_rm4_1 (F_rm5 a b) := by
  rcases own_s a b with ⟨h1, h2⟩ | ⟨h1, h2⟩ | ⟨h1, h2⟩ <;> rw [h1, h2] <;> decide
theorem own_h2 (a b : Int32) : F_rm4_4 (F_rm5 b a) = F_rm4_2 (F_rm5 a b) := by
  rcases own_s a b with ⟨h1, h2⟩ | ⟨h1, h2⟩ | ⟨h1, h2⟩ <;> rw [h1, h2] <;> decide
theorem own_h3 (a b : Int32) : F_rm4_5 (F_rm5 b a) = F_rm4_3 (F_rm5 a b) := by
  rcases own_s a b with ⟨h1, h2⟩ | ⟨h1, h2⟩ | ⟨h1, h2⟩ <;> rw [h1, h2] <;> decide
theorem own_h4 (a b : Int32) : F_rm4_2 (F_rm5 b a) = F_rm4_4 (F_rm5 a b) := by
  rcases own_s a b with ⟨h1, h2⟩ | ⟨h1, h2⟩ | ⟨h1, h2⟩ <;> rw [h1, h2] <;> decide
theorem own_h5 (a b : Int32) : F_rm4_3 (F_rm5 b a) = F_rm4_5 (F_rm5 a b) := by
  rcases own_s a b with ⟨h1, h2⟩ | ⟨h1, h2⟩ | ⟨h1, h2⟩ <;> rw [h1, h2] <;> decide
theorem pd_1 : parseMethodDescriptor "(I)Lcom/example/exact_table/exacttable/Condition$Comparator;" = some ⟨[.int], some (.object "com/example/exact_table/exacttable/Condition$Comparator")⟩ := by decide +kernel
theorem pd_2 : parseMethodDescriptor "()Lcom/example/exact_table/exacttable/Condition$Comparator;" = some ⟨[], some (.object "com/example/exact_table/exacttable/Condition$Comparator")⟩ := by decide +kernel
theorem pd_3 : parseMethodDescriptor "(Lcom/example/exact_table/exacttable/Condition$Comparator;I)Z" = some ⟨[(.object "com/example/exact_table/exacttable/Condition$Comparator"), .int], some .boolean⟩ := by decide +kernel
theorem pd_4 : parseMethodDescriptor "(II)I" = some ⟨[.int, .int], some .int⟩ := by decide +kernel
def Q_rm0 (Z : State) (p1 : Int32) (p2 : Int32) (p3 : Int32) (vEQUAL : Addr) (vNOT_EQUAL : Addr) (vLESS : Addr) (vLESS_OR_EQUAL : Addr) (vGREATER : Addr) (vGREATER_OR_EQUAL : Addr) (h0 : Heap) (n0 : Nat) (v : Option Value) (h : Heap) (L : List Loc) : Prop := v = some (.int 1) ∧ Fr n0 L
theorem ef_rm0 (m : MethodId) (x0 : Int32) (x1 : Int32) (x2 : Int32) : entryFrame m #[(.int x0), (.int x1), (.int x2)] maxLocals = mkF m 0 #[.val (.int x0), .val (.int x1), .val (.int x2), .unset, .unset, .unset] [] := by first | (simp [entryFrame, mkF, argsToLocals, Value.category, maxLocals]; done) | rfl
set_option maxRecDepth 65536 in
set_option maxHeartbeats 40000000 in
theorem rm0 (l : Launch) (Z : State) (a0 : Array Value) (hw : ∀ d ∈ tables_1, d.before a0 Z = true) (ws : List Jvm.Cond) (p1 : Int32) (p2 : Int32) (p3 : Int32) (vEQUAL : Addr) (vNOT_EQUAL : Addr) (vLESS : Addr) (vLESS_OR_EQUAL : Addr) (vGREATER : Addr) (vGREATER_OR_EQUAL : Addr) (h0 : Heap) (n0 : Nat) (Z0 : n0 ≤ h0.size) (S_Condition_Comparator_EQUAL : Sta Z h0 "com/example/exact_table/exacttable/Condition$Comparator" "EQUAL" "Lcom/example/exact_table/exacttable/Condition$Comparator;" (.ref vEQUAL)) (S_Condition_Comparator_NOT_EQUAL : Sta Z h0 "com/example/exact_table/exacttable/Condition$Comparator" "NOT_EQUAL" "Lcom/example/exact_table/exacttable/Condition$Comparator;" (.ref vNOT_EQUAL)) (S_Condition_Comparator_LESS : Sta Z h0 "com/example/exact_table/exacttable/Condition$Comparator" "LESS" "Lcom/example/exact_table/exacttable/Condition$Comparator;" (.ref vLESS)) (S_Condition_Comparator_LESS_OR_EQUAL : Sta Z h0 "com/example/exact_table/exacttable/Condition$Comparator" "LESS_OR_EQUAL" "Lcom/example/exact_table/exacttable/Condition$Comparator;" (.ref vLESS_OR_EQUAL)) (S_Condition_Comparator_GREATER : Sta Z h0 "com/example/exact_table/exacttable/Condition$Comparator" "GREATER" "Lcom/example/exact_table/exacttable/Condition$Comparator;" (.ref vGREATER)) (S_Condition_Comparator_GREATER_OR_EQUAL : Sta Z h0 "com/example/exact_table/exacttable/Condition$Comparator" "GREATER_OR_EQUAL" "Lcom/example/exact_table/exacttable/Condition$Comparator;" (.ref vGREATER_OR_EQUAL)) (ne_vEQUAL_vNOT_EQUAL : vEQUAL ≠ vNOT_EQUAL) (ne_vEQUAL_vLESS : vEQUAL ≠ vLESS) (ne_vEQUAL_vLESS_OR_EQUAL : vEQUAL ≠ vLESS_OR_EQUAL) (ne_vEQUAL_vGREATER : vEQUAL ≠ vGREATER) (ne_vEQUAL_vGREATER_OR_EQUAL : vEQUAL ≠ vGREATER_OR_EQUAL) (ne_vNOT_EQUAL_vLESS : vNOT_EQUAL ≠ vLESS) (ne_vNOT_EQUAL_vLESS_OR_EQUAL : vNOT_EQUAL ≠ vLESS_OR_EQUAL) (ne_vNOT_EQUAL_vGREATER : vNOT_EQUAL ≠ vGREATER) (ne_vNOT_EQUAL_vGREATER_OR_EQUAL : vNOT_EQUAL ≠ vGREATER_OR_EQUAL) (ne_vLESS_vLESS_OR_EQUAL : vLESS ≠ vLESS_OR_EQUAL) (ne_vLESS_vGREATER : vLESS ≠ vGREATER) (ne_vLESS_vGREATER_OR_EQUAL : vLESS ≠ vGREATER_OR_EQUAL) (ne_vLESS_OR_EQUAL_vGREATER : vLESS_OR_EQUAL ≠ vGREATER) (ne_vLESS_OR_EQUAL_vGREATER_OR_EQUAL : vLESS_OR_EQUAL ≠ vGREATER_OR_EQUAL) (ne_vGREATER_vGREATER_OR_EQUAL : vGREATER ≠ vGREATER_OR_EQUAL) (F_ordinal_vEQUAL : Fld Z h0 vEQUAL "java/lang/Enum" "ordinal" "I" (.int (0 : Int32))) (F_ordinal_vNOT_EQUAL : Fld Z h0 vNOT_EQUAL "java/lang/Enum" "ordinal" "I" (.int (1 : Int32))) (F_ordinal_vLESS : Fld Z h0 vLESS "java/lang/Enum" "ordinal" "I" (.int (2 : Int32))) (F_ordinal_vLESS_OR_EQUAL : Fld Z h0 vLESS_OR_EQUAL "java/lang/Enum" "ordinal" "I" (.int (3 : Int32))) (F_ordinal_vGREATER : Fld Z h0 vGREATER "java/lang/Enum" "ordinal" "I" (.int (4 : Int32))) (F_ordinal_vGREATER_OR_EQUAL : Fld Z h0 vGREATER_OR_EQUAL "java/lang/Enum" "ordinal" "I" (.int (5 : Int32))) (E_vEQUAL : Exa Z h0 vEQUAL "com/example/exact_table/exacttable/Condition$Comparator") (E_vNOT_EQUAL : Exa Z h0 vNOT_EQUAL "com/example/exact_table/exacttable/Condition$Comparator") (E_vLESS : Exa Z h0 vLESS "com/example/exact_table/exacttable/Condition$Comparator") (E_vLESS_OR_EQUAL : Exa Z h0 vLESS_OR_EQUAL "com/example/exact_table/exacttable/Condition$Comparator") (E_vGREATER : Exa Z h0 vGREATER "com/example/exact_table/exacttable/Condition$Comparator") (E_vGREATER_OR_EQUAL : Exa Z h0 vGREATER_OR_EQUAL "com/example/exact_table/exacttable/Condition$Comparator") :
    MetFree l x (head1 (Jvm.Cond.code x code maxLocals ret :: ws) room_1) (fun a U => a = #[(.int p1), (.int p2), (.int p3)] ∧ Z.Warmed39 U.vm ∧ U.heap = h0) (fun _ _ _ _ _ => True) (fun _ U o U' => ∃ v L, o = .returned v ∧ Q_rm0 Z p1 p2 p3 vEQUAL vNOT_EQUAL vLESS vLESS_OR_EQUAL vGREATER vGREATER_OR_EQUAL h0 n0 v U'.heap L ∧ FrameEnd U o U' L 0 0) := by
  refine MetFree.of_bodySF (plainFor_of_name pn_1) hisR ?_
  intro p e s m args below meth c s₁ Bd hml0 hP hK
  obtain ⟨rfl, hZ, hh⟩ := hP
  have hx := Bd.exec
  have hby := Bd.bytes
  have hml : c.maxLocals = 6 := hml0
  have hown : s.vm.findClass "com/example/exact_table/exacttable/ComparatorFlippedPinLaw" = some m.cls := findClass_of_methodNamed Bd.named
  have hnm := (name_of_methodNamed Bd.named Bd.method).1
  have X0 : Stand p l e room_1 s m #[(.int p1), (.int p2), (.int p3)] below meth c s₁ [] 0 0 := Stand.of_body Bd
  have e0 : s₁.heap = h0 := by rw [← hh, Bd.state]; rfl
  have N0 := Fr.nil n0
  show Run p e below s 0 0 (Q_rm0 Z p1 p2 p3 vEQUAL vNOT_EQUAL vLESS vLESS_OR_EQUAL vGREATER vGREATER_OR_EQUAL h0 n0) (s₁.setTop (entryFrame m #[(.int p1), (.int p2), (.int p3)] maxLocals))
  refine Run.go (fun _ k => castTop (ef_rm0 m p1 p2 p3) k) ?_
  show Run p e below s 0 0 (Q_rm0 Z p1 p2 p3 vEQUAL vNOT_EQUAL vLESS vLESS_OR_EQUAL vGREATER vGREATER_OR_EQUAL h0 n0) (s₁.setTop (mkF m 0 #[.val (.int p1), .val (.int p2), .val (.int p3), .unset, .unset, .unset] []))
  obtain hk4 | hk4 | hk4 | hk4 | hk4 | hk4 := own_c p1
  · show Run p e below s 0 0 (Q_rm0 Z p1 p2 p3 vEQUAL vNOT_EQUAL vLESS vLESS_OR_EQUAL vGREATER vGREATER_OR_EQUAL h0 n0) (s₁.setTop (mkF m 0 #[.val (.int p1), .val (.int p2), .val (.int p3), .unset, .unset, .unset] []))
    refine Run.go (fun _ k => XS.iloadN X0.here hx rfl (hb hby at_0) rfl  k) ?_
    show Run p e below s 0 0 (Q_rm0 Z p1 p2 p3 vEQUAL vNOT_EQUAL vLESS vLESS_OR_EQUAL vGREATER vGREATER_OR_EQUAL h0 n0) (s₁.setTop (mkF m 1 #[.val (.int p1), .val (.int p2), .val (.int p3), .unset, .unset, .unset] [(.int p1)]))
    obtain ⟨_, _, ⟨T5, L5, k5, n5⟩, -, X5, ⟨Lc5, hQ5, l5, y5, z5⟩, st5⟩ := Jvm.LawKit.callS X0 hx (y := (⟨"com/example/exact_table/exacttable/ComparatorFlippedPinLaw", "pick", "(I)Lcom/example/exact_table/exacttable/Condition$Comparator;"⟩ : MethodName)) hown (mvT hZ (hw _ (List.mem_of_getElem? (i := 0) rfl))) (mvT hZ (hw _ (List.mem_of_getElem? (i := 1) rfl))) (mvT hZ (hw _ (List.mem_of_getElem? (i := 2) rfl))) (mvT hZ (hw _ (List.mem_of_getElem? (i := 3) rfl))) (by decide) (backOf (W := 0) (rm1_0 l Z a0 hw [] p1 vEQUAL vNOT_EQUAL vLESS vLESS_OR_EQUAL vGREATER vGREATER_OR_EQUAL h0 n0 Z0 S_Condition_Comparator_EQUAL S_Condition_Comparator_NOT_EQUAL S_Condition_Comparator_LESS S_Condition_Comparator_LESS_OR_EQUAL S_Condition_Comparator_GREATER S_Condition_Comparator_GREATER_OR_EQUAL hk4) hZ (hw _ (List.mem_of_getElem? (i := 3) rfl)) (hw _ (List.mem_of_getElem? (i := 2) rfl)) (by decide) (by decide)) (g := (mkF m 1 #[.val (.int p1), .val (.int p2), .val (.int p3), .unset, .unset, .unset] [(.int p1)])) rfl (by rw [hml]; rfl) (argsL := [(.int p1)]) (rest := []) (lenOf pd_1 rfl) rfl (by show 2 * 0 + _ ≤ _; exact Nat.le_of_eq rfl) (hb hby at_1) (fun _ _ => ⟨rfl, e0, (by decide : 0 + 0 ≤ _), (by decide : 0 + 0 ≤ _)⟩)
    dsimp only [Pt.U, Pt.locs, Pt.cells, Pt.slots] at X5 l5 y5 z5 st5 hQ5
    subst l5 y5 z5
    obtain ⟨rfl, N5q, e5q⟩ := hQ5
    have N5 := Fr.app N0 N5q
    obtain ⟨Lg5, Xg5, Ng5⟩ := Stand_gen X5 N5
    refine Run.go st5 ?_
    show Run p e below s 0 0 (Q_rm0 Z p1 p2 p3 vEQUAL vNOT_EQUAL vLESS vLESS_OR_EQUAL vGREATER vGREATER_OR_EQUAL h0 n0) (T5.setTop (mkF m 4 #[.val (.int p1), .val (.int p2), .val (.int p3), .unset, .unset, .unset] [(.ref vEQUAL)]))
    refine Run.go (fun _ k => XS.astoreN Xg5.here hx rfl (hb hby at_4) rfl rfl (l' := #[.val (.int p1), .val (.int p2), .val (.int p3), .val (.ref vEQUAL), .unset, .unset]) rfl k) ?_
    show Run p e below s 0 0 (Q_rm0 Z p1 p2 p3 vEQUAL vNOT_EQUAL vLESS vLESS_OR_EQUAL vGREATER vGREATER_OR_EQUAL h0 n0) (T5.setTop (mkF m 5 #[.val (.int p1), .val (.int p2), .val (.int p3), .val (.ref vEQUAL), .unset, .unset] []))
    refine Run.go (fun _ k => XS.aloadN Xg5.here hx rfl (hb hby at_5) rfl rfl k) ?_
    show Run p e below s 0 0 (Q_rm0 Z p1 p2 p3 vEQUAL vNOT_EQUAL vLESS vLESS_OR_EQUAL vGREATER vGREATER_OR_EQUAL h0 n0) (T5.setTop (mkF m 6 #[.val (.int p1), .val (.int p2), .val (.int p3), .val (.ref vEQUAL), .unset, .unset] [(.ref vEQUAL)]))
    obtain ⟨cq6, kq6, q6a, q6b, q6c⟩ := isOf hZ e5q E_vEQUAL
    obtain ⟨_, _, ⟨T6, L6, k6, n6⟩, -, X6, ⟨Lc6, hQ6, l6, y6, z6⟩, st6⟩ := Xg5.virtualBack hx (y := (⟨"com/example/exact_table/exacttable/Condition$Comparator", "flipped", "()Lcom/example/exact_table/exacttable/Condition$Comparator;"⟩ : MethodName)) (z := (⟨"com/example/exact_table/exacttable/Condition$Comparator", "flipped", "()Lcom/example/exact_table/exacttable/Condition$Comparator;"⟩ : MethodName)) hown (mvT hZ (hw _ (List.mem_of_getElem? (i := 8) rfl))) (mvT hZ (hw _ (List.mem_of_getElem? (i := 9) rfl))) (notFace_of_selects (args := #[]) (mvT hZ (hw _ (List.mem_of_getElem? (i := 11) rfl)))) (mvT hZ (hw _ (List.mem_of_getElem? (i := 11) rfl))) (mvT hZ (hw _ (List.mem_of_getElem? (i := 10) rfl))) (by decide) (backOf (W := 0) (rm2_0 l Z a0 hw [] vEQUAL vNOT_EQUAL vLESS vLESS_OR_EQUAL vGREATER vGREATER_OR_EQUAL h0 n0 Z0 S_Condition_Comparator_EQUAL S_Condition_Comparator_NOT_EQUAL S_Condition_Comparator_LESS S_Condition_Comparator_LESS_OR_EQUAL S_Condition_Comparator_GREATER S_Condition_Comparator_GREATER_OR_EQUAL F_ordinal_vEQUAL E_vEQUAL) hZ (hw _ (List.mem_of_getElem? (i := 12) rfl)) (hw _ (List.mem_of_getElem? (i := 6) rfl)) (by decide) (by decide)) q6a q6c (g := (mkF m 6 #[.val (.int p1), .val (.int p2), .val (.int p3), .val (.ref vEQUAL), .unset, .unset] [(.ref vEQUAL)])) rfl (by rw [hml]; rfl) (Steps.refl _) (argsL := []) (rest := []) (lenOf pd_2 rfl) rfl (by show 2 * 0 + _ ≤ _; exact Nat.le_of_eq rfl) (hb hby at_6) (fun _ _ => ⟨rfl, e5q, (by decide : 0 + 0 ≤ _), (by decide : 0 + 0 ≤ _)⟩)
    dsimp only [Pt.U, Pt.locs, Pt.cells, Pt.slots] at X6 l6 y6 z6 st6 hQ6
    subst l6 y6 z6
    obtain ⟨rfl, N6q, e6q⟩ := hQ6
    have N6 := Fr.app Ng5 N6q
    obtain ⟨Lg6, Xg6, Ng6⟩ := Stand_gen X6 N6
    refine Run.tr st6 ?_
    show Run p e below s 0 0 (Q_rm0 Z p1 p2 p3 vEQUAL vNOT_EQUAL vLESS vLESS_OR_EQUAL vGREATER vGREATER_OR_EQUAL h0 n0) (T6.setTop (mkF m 9 #[.val (.int p1), .val (.int p2), .val (.int p3), .val (.ref vEQUAL), .unset, .unset] [(.ref vEQUAL)]))
    refine Run.go (fun _ k => XS.astore Xg6.here hx rfl (hb hby at_9) rfl rfl (l' := #[.val (.int p1), .val (.int p2), .val (.int p3), .val (.ref vEQUAL), .val (.ref vEQUAL), .unset]) rfl k) ?_
    show Run p e below s 0 0 (Q_rm0 Z p1 p2 p3 vEQUAL vNOT_EQUAL vLESS vLESS_OR_EQUAL vGREATER vGREATER_OR_EQUAL h0 n0) (T6.setTop (mkF m 11 #[.val (.int p1), .val (.int p2), .val (.int p3), .val (.ref vEQUAL), .val (.ref vEQUAL), .unset] []))
    refine Run.go (fun _ k => XS.aload Xg6.here hx rfl (hb hby at_11) rfl rfl k) ?_
    show Run p e below s 0 0 (Q_rm0 Z p1 p2 p3 vEQUAL vNOT_EQUAL vLESS vLESS_OR_EQUAL vGREATER vGREATER_OR_EQUAL h0 n0) (T6.setTop (mkF m 13 #[.val (.int p1), .val (.int p2), .val (.int p3), .val (.ref vEQUAL), .val (.ref vEQUAL), .unset] [(.ref vEQUAL)]))
    refine Run.go (fun _ k => XS.ifnonnullYes Xg6.here hx rfl (pc0 := 13) (pc' := 18) rfl (hb hby at_13) rfl (by decide) (by decide) k) ?_
    show Run p e below s 0 0 (Q_rm0 Z p1 p2 p3 vEQUAL vNOT_EQUAL vLESS vLESS_OR_EQUAL vGREATER vGREATER_OR_EQUAL h0 n0) (T6.setTop (mkF m 18 #[.val (.int p1), .val (.int p2), .val (.int p3), .val (.ref vEQUAL), .val (.ref vEQUAL), .unset] []))
    refine Run.go (fun _ k => XS.aload Xg6.here hx rfl (hb hby at_18) rfl rfl k) ?_
    show Run p e below s 0 0 (Q_rm0 Z p1 p2 p3 vEQUAL vNOT_EQUAL vLESS vLESS_OR_EQUAL vGREATER vGREATER_OR_EQUAL h0 n0) (T6.setTop (mkF m 20 #[.val (.int p1), .val (.int p2), .val (.int p3), .val (.ref vEQUAL), .val (.ref vEQUAL), .unset] [(.ref vEQUAL)]))
    refine Run.go (fun _ k => XS.iconst Xg6.here hx rfl (hb hby at_20) k) ?_
    show Run p e below s 0 0 (Q_rm0 Z p1 p2 p3 vEQUAL vNOT_EQUAL vLESS vLESS_OR_EQUAL vGREATER vGREATER_OR_EQUAL h0 n0) (T6.setTop (mkF m 21 #[.val (.int p1), .val (.int p2), .val (.int p3), .val (.ref vEQUAL), .val (.ref vEQUAL), .unset] [(.int (0 : Int32)), (.ref vEQUAL)]))
    obtain ⟨_, _, ⟨T7, L7, k7, n7⟩, -, X7, ⟨Lc7, hQ7, l7, y7, z7⟩, st7⟩ := Jvm.LawKit.callS Xg6 hx (y := (⟨"com/example/exact_table/exacttable/ComparatorFlippedPinLaw", "holds", "(Lcom/example/exact_table/exacttable/Condition$Comparator;I)Z"⟩ : MethodName)) hown (mvT hZ (hw _ (List.mem_of_getElem? (i := 22) rfl))) (mvT hZ (hw _ (List.mem_of_getElem? (i := 23) rfl))) (mvT hZ (hw _ (List.mem_of_getElem? (i := 2) rfl))) (mvT hZ (hw _ (List.mem_of_getElem? (i := 24) rfl))) (by decide) (backOf (W := 0) (rm4_0 l Z a0 hw [] vEQUAL (0 : Int32) vNOT_EQUAL vLESS vLESS_OR_EQUAL vGREATER vGREATER_OR_EQUAL h0 n0 Z0 S_Condition_Comparator_EQUAL S_Condition_Comparator_NOT_EQUAL S_Condition_Comparator_LESS S_Condition_Comparator_LESS_OR_EQUAL S_Condition_Comparator_GREATER S_Condition_Comparator_GREATER_OR_EQUAL ne_vEQUAL_vNOT_EQUAL ne_vEQUAL_vLESS ne_vEQUAL_vLESS_OR_EQUAL ne_vEQUAL_vGREATER ne_vEQUAL_vGREATER_OR_EQUAL ne_vNOT_EQUAL_vLESS ne_vNOT_EQUAL_vLESS_OR_EQUAL ne_vNOT_EQUAL_vGREATER ne_vNOT_EQUAL_vGREATER_OR_EQUAL ne_vLESS_vLESS_OR_EQUAL ne_vLESS_vGREATER ne_vLESS_vGREATER_OR_EQUAL ne_vLESS_OR_EQUAL_vGREATER ne_vLESS_OR_EQUAL_vGREATER_OR_EQUAL ne_vGREATER_vGREATER_OR_EQUAL) hZ (hw _ (List.mem_of_getElem? (i := 24) rfl)) (hw _ (List.mem_of_getElem? (i := 2) rfl)) (by decide) (by decide)) (g := (mkF m 21 #[.val (.int p1), .val (.int p2), .val (.int p3), .val (.ref vEQUAL), .val (.ref vEQUAL), .unset] [(.int (0 : Int32)), (.ref vEQUAL)])) rfl (by rw [hml]; rfl) (argsL := [(.ref vEQUAL), (.int (0 : Int32))]) (rest := []) (lenOf pd_3 rfl) rfl (by show 2 * 0 + _ ≤ _; exact Nat.le_of_eq rfl) (hb hby at_21) (fun _ _ => ⟨rfl, e6q, (by decide : 0 + 0 ≤ _), (by decide : 0 + 0 ≤ _)⟩)
    dsimp only [Pt.U, Pt.locs, Pt.cells, Pt.slots] at X7 l7 y7 z7 st7 hQ7
    subst l7 y7 z7
    obtain ⟨rfl, N7q, e7q⟩ := hQ7
    have N7 := Fr.app Ng6 N7q
    obtain ⟨Lg7, Xg7, Ng7⟩ := Stand_gen X7 N7
    refine Run.go st7 ?_
    show Run p e below s 0 0 (Q_rm0 Z p1 p2 p3 vEQUAL vNOT_EQUAL vLESS vLESS_OR_EQUAL vGREATER vGREATER_OR_EQUAL h0 n0) (T7.setTop (mkF m 24 #[.val (.int p1), .val (.int p2), .val (.int p3), .val (.ref vEQUAL), .val (.ref vEQUAL), .unset] [(.int (F_rm4_0 (0 : Int32)))]))
    refine Run.go (fun _ k => XS.aloadN Xg7.here hx rfl (hb hby at_24) rfl rfl k) ?_
    show Run p e below s 0 0 (Q_rm0 Z p1 p2 p3 vEQUAL vNOT_EQUAL vLESS vLESS_OR_EQUAL vGREATER vGREATER_OR_EQUAL h0 n0) (T7.setTop (mkF m 25 #[.val (.int p1), .val (.int p2), .val (.int p3), .val (.ref vEQUAL), .val (.ref vEQUAL), .unset] [(.ref vEQUAL), (.int (F_rm4_0 (0 : Int32)))]))
    refine Run.go (fun _ k => XS.iconst Xg7.here hx rfl (hb hby at_25) k) ?_
    show Run p e below s 0 0 (Q_rm0 Z p1 p2 p3 vEQUAL vNOT_EQUAL vLESS vLESS_OR_EQUAL vGREATER vGREATER_OR_EQUAL h0 n0) (T7.setTop (mkF m 26 #[.val (.int p1), .val (.int p2), .val (.int p3), .val (.ref vEQUAL), .val (.ref vEQUAL), .unset] [(.int (0 : Int32)), (.ref vEQUAL), (.int (F_rm4_0 (0 : Int32)))]))
    obtain ⟨_, _, ⟨T8, L8, k8, n8⟩, -, X8, ⟨Lc8, hQ8, l8, y8, z8⟩, st8⟩ := Jvm.LawKit.callS Xg7 hx (y := (⟨"com/example/exact_table/exacttable/ComparatorFlippedPinLaw", "holds", "(Lcom/example/exact_table/exacttable/Condition$Comparator;I)Z"⟩ : MethodName)) hown (mvT hZ (hw _ (List.mem_of_getElem? (i := 22) rfl))) (mvT hZ (hw _ (List.mem_of_getElem? (i := 23) rfl))) (mvT hZ (hw _ (List.mem_of_getElem? (i := 2) rfl))) (mvT hZ (hw _ (List.mem_of_getElem? (i := 24) rfl))) (by decide) (backOf (W := 1) (rm4_0 l Z a0 hw [] vEQUAL (0 : Int32) vNOT_EQUAL vLESS vLESS_OR_EQUAL vGREATER vGREATER_OR_EQUAL h0 n0 Z0 S_Condition_Comparator_EQUAL S_Condition_Comparator_NOT_EQUAL S_Condition_Comparator_LESS S_Condition_Comparator_LESS_OR_EQUAL S_Condition_Comparator_GREATER S_Condition_Comparator_GREATER_OR_EQUAL ne_vEQUAL_vNOT_EQUAL ne_vEQUAL_vLESS ne_vEQUAL_vLESS_OR_EQUAL ne_vEQUAL_vGREATER ne_vEQUAL_vGREATER_OR_EQUAL ne_vNOT_EQUAL_vLESS ne_vNOT_EQUAL_vLESS_OR_EQUAL ne_vNOT_EQUAL_vGREATER ne_vNOT_EQUAL_vGREATER_OR_EQUAL ne_vLESS_vLESS_OR_EQUAL ne_vLESS_vGREATER ne_vLESS_vGREATER_OR_EQUAL ne_vLESS_OR_EQUAL_vGREATER ne_vLESS_OR_EQUAL_vGREATER_OR_EQUAL ne_vGREATER_vGREATER_OR_EQUAL) hZ (hw _ (List.mem_of_getElem? (i := 24) rfl)) (hw _ (List.mem_of_getElem? (i := 2) rfl)) (by decide) (by decide)) (g := (mkF m 26 #[.val (.int p1), .val (.int p2), .val (.int p3), .val (.ref vEQUAL), .val (.ref vEQUAL), .unset] [(.int (0 : Int32)), (.ref vEQUAL), (.int (F_rm4_0 (0 : Int32)))])) rfl (by rw [hml]; rfl) (argsL := [(.ref vEQUAL), (.int (0 : Int32))]) (rest := [(.int (F_rm4_0 (0 : Int32)))]) (lenOf pd_3 rfl) rfl (by show 2 * 0 + _ ≤ _; exact Nat.le_of_eq rfl) (hb hby at_26) (fun _ _ => ⟨rfl, e7q, (by decide : 0 + 0 ≤ _), (by decide : 0 + 0 ≤ _)⟩)
    dsimp only [Pt.U, Pt.locs, Pt.cells, Pt.slots] at X8 l8 y8 z8 st8 hQ8
    subst l8 y8 z8
    obtain ⟨rfl, N8q, e8q⟩ := hQ8
    have N8 := Fr.app Ng7 N8q
    obtain ⟨Lg8, Xg8, Ng8⟩ := Stand_gen X8 N8
    refine Run.go st8 ?_
    show Run p e below s 0 0 (Q_rm0 Z p1 p2 p3 vEQUAL vNOT_EQUAL vLESS vLESS_OR_EQUAL vGREATER vGREATER_OR_EQUAL h0 n0) (T8.setTop (mkF m 29 #[.val (.int p1), .val (.int p2), .val (.int p3), .val (.ref vEQUAL), .val (.ref vEQUAL), .unset] [(.int (F_rm4_0 (0 : Int32))), (.int (F_rm4_0 (0 : Int32)))]))
    refine Run.go (fun _ k => XS.icmpNo Xg8.here hx rfl (hb hby at_29) rfl (teq (rfl : (F_rm4_0 (0 : Int32)) = (F_rm4_0 (0 : Int32)))).2 k) ?_
    show Run p e below s 0 0 (Q_rm0 Z p1 p2 p3 vEQUAL vNOT_EQUAL vLESS vLESS_OR_EQUAL vGREATER vGREATER_OR_EQUAL h0 n0) (T8.setTop (mkF m 32 #[.val (.int p1), .val (.int p2), .val (.int p3), .val (.ref vEQUAL), .val (.ref vEQUAL), .unset] []))
    refine Run.go (fun _ k => XS.aload Xg8.here hx rfl (hb hby at_32) rfl rfl k) ?_
    show Run p e below s 0 0 (Q_rm0 Z p1 p2 p3 vEQUAL vNOT_EQUAL vLESS vLESS_OR_EQUAL vGREATER vGREATER_OR_EQUAL h0 n0) (T8.setTop (mkF m 34 #[.val (.int p1), .val (.int p2), .val (.int p3), .val (.ref vEQUAL), .val (.ref vEQUAL), .unset] [(.ref vEQUAL)]))
    refine Run.go (fun _ k => XS.iconst Xg8.here hx rfl (hb hby at_34) k) ?_
    show Run p e below s 0 0 (Q_rm0 Z p1 p2 p3 vEQUAL vNOT_EQUAL vLESS vLESS_OR_EQUAL vGREATER vGREATER_OR_EQUAL h0 n0) (T8.setTop (mkF m 35 #[.val (.int p1), .val (.int p2), .val (.int p3), .val (.ref vEQUAL), .val (.ref vEQUAL), .unset] [(.int (1 : Int32)), (.ref vEQUAL)]))
    obtain ⟨_, _, ⟨T9, L9, k9, n9⟩, -, X9, ⟨Lc9, hQ9, l9, y9, z9⟩, st9⟩ := Jvm.LawKit.callS Xg8 hx (y := (⟨"com/example/exact_table/exacttable/ComparatorFlippedPinLaw", "holds", "(Lcom/example/exact_table/exacttable/Condition$Comparator;I)Z"⟩ : MethodName)) hown (mvT hZ (hw _ (List.mem_of_getElem? (i := 22) rfl))) (mvT hZ (hw _ (List.mem_of_getElem? (i := 23) rfl))) (mvT hZ (hw _ (List.mem_of_getElem? (i := 2) rfl))) (mvT hZ (hw _ (List.mem_of_getElem? (i := 24) rfl))) (by decide) (backOf (W := 0) (rm4_0 l Z a0 hw [] vEQUAL (1 : Int32) vNOT_EQUAL vLESS vLESS_OR_EQUAL vGREATER vGREATER_OR_EQUAL h0 n0 Z0 S_Condition_Comparator_EQUAL S_Condition_Comparator_NOT_EQUAL S_Condition_Comparator_LESS S_Condition_Comparator_LESS_OR_EQUAL S_Condition_Comparator_GREATER S_Condition_Comparator_GREATER_OR_EQUAL ne_vEQUAL_vNOT_EQUAL ne_vEQUAL_vLESS ne_vEQUAL_vLESS_OR_EQUAL ne_vEQUAL_vGREATER ne_vEQUAL_vGREATER_OR_EQUAL ne_vNOT_EQUAL_vLESS ne_vNOT_EQUAL_vLESS_OR_EQUAL ne_vNOT_EQUAL_vGREATER ne_vNOT_EQUAL_vGREATER_OR_EQUAL ne_vLESS_vLESS_OR_EQUAL ne_vLESS_vGREATER ne_vLESS_vGREATER_OR_EQUAL ne_vLESS_OR_EQUAL_vGREATER ne_vLESS_OR_EQUAL_vGREATER_OR_EQUAL ne_vGREATER_vGREATER_OR_EQUAL) hZ (hw _ (List.mem_of_getElem? (i := 24) rfl)) (hw _ (List.mem_of_getElem? (i := 2) rfl)) (by decide) (by decide)) (g := (mkF m 35 #[.val (.int p1), .val (.int p2), .val (.int p3), .val (.ref vEQUAL), .val (.ref vEQUAL), .unset] [(.int (1 : Int32)), (.ref vEQUAL)])) rfl (by rw [hml]; rfl) (argsL := [(.ref vEQUAL), (.int (1 : Int32))]) (rest := []) (lenOf pd_3 rfl) rfl (by show 2 * 0 + _ ≤ _; exact Nat.le_of_eq rfl) (hb hby at_35) (fun _ _ => ⟨rfl, e8q, (by decide : 0 + 0 ≤ _), (by decide : 0 + 0 ≤ _)⟩)
    dsimp only [Pt.U, Pt.locs, Pt.cells, Pt.slots] at X9 l9 y9 z9 st9 hQ9
    subst l9 y9 z9
    obtain ⟨rfl, N9q, e9q⟩ := hQ9
    have N9 := Fr.app Ng8 N9q
    obtain ⟨Lg9, Xg9, Ng9⟩ := Stand_gen X9 N9
    refine Run.go st9 ?_
    show Run p e below s 0 0 (Q_rm0 Z p1 p2 p3 vEQUAL vNOT_EQUAL vLESS vLESS_OR_EQUAL vGREATER vGREATER_OR_EQUAL h0 n0) (T9.setTop (mkF m 38 #[.val (.int p1), .val (.int p2), .val (.int p3), .val (.ref vEQUAL), .val (.ref vEQUAL), .unset] [(.int (F_rm4_0 (1 : Int32)))]))
    refine Run.go (fun _ k => XS.aloadN Xg9.here hx rfl (hb hby at_38) rfl rfl k) ?_
    show Run p e below s 0 0 (Q_rm0 Z p1 p2 p3 vEQUAL vNOT_EQUAL vLESS vLESS_OR_EQUAL vGREATER vGREATER_OR_EQUAL h0 n0) (T9.setTop (mkF m 39 #[.val (.int p1), .val (.int p2), .val (.int p3), .val (.ref vEQUAL), .val (.ref vEQUAL), .unset] [(.ref vEQUAL), (.int (F_rm4_0 (1 : Int32)))]))
    refine Run.go (fun _ k => XS.iconst Xg9.here hx rfl (hb hby at_39) k) ?_
    show Run p e below s 0 0 (Q_rm0 Z p1 p2 p3 vEQUAL vNOT_EQUAL vLESS vLESS_OR_EQUAL vGREATER vGREATER_OR_EQUAL h0 n0) (T9.setTop (mkF m 40 #[.val (.int p1), .val (.int p2), .val (.int p3), .val (.ref vEQUAL), .val (.ref vEQUAL), .unset] [(.int (-1 : Int32)), (.ref vEQUAL), (.int (F_rm4_0 (1 : Int32)))]))
    obtain ⟨_, _, ⟨T10, L10, k10, n10⟩, -, X10, ⟨Lc10, hQ10, l10, y10, z10⟩, st10⟩ := Jvm.LawKit.callS Xg9 hx (y := (⟨"com/example/exact_table/exacttable/ComparatorFlippedPinLaw", "holds", "(Lcom/example/exact_table/exacttable/Condition$Comparator;I)Z"⟩ : MethodName)) hown (mvT hZ (hw _ (List.mem_of_getElem? (i := 22) rfl))) (mvT hZ (hw _ (List.mem_of_getElem? (i := 23) rfl))) (mvT hZ (hw _ (List.mem_of_getElem? (i := 2) rfl))) (mvT hZ (hw _ (List.mem_of_getElem? (i := 24) rfl))) (by decide) (backOf (W := 1) (rm4_0 l Z a0 hw [] vEQUAL (-1 : Int32) vNOT_EQUAL vLESS vLESS_OR_EQUAL vGREATER vGREATER_OR_EQUAL h0 n0 Z0 S_Condition_Comparator_EQUAL S_Condition_Comparator_NOT_EQUAL S_Condition_Comparator_LESS S_Condition_Comparator_LESS_OR_EQUAL S_Condition_Comparator_GREATER S_Condition_Comparator_GREATER_OR_EQUAL ne_vEQUAL_vNOT_EQUAL ne_vEQUAL_vLESS ne_vEQUAL_vLESS_OR_EQUAL ne_vEQUAL_vGREATER ne_vEQUAL_vGREATER_OR_EQUAL ne_vNOT_EQUAL_vLESS ne_vNOT_EQUAL_vLESS_OR_EQUAL ne_vNOT_EQUAL_vGREATER ne_vNOT_EQUAL_vGREATER_OR_EQUAL ne_vLESS_vLESS_OR_EQUAL ne_vLESS_vGREATER ne_vLESS_vGREATER_OR_EQUAL ne_vLESS_OR_EQUAL_vGREATER ne_vLESS_OR_EQUAL_vGREATER_OR_EQUAL ne_vGREATER_vGREATER_OR_EQUAL) hZ (hw _ (List.mem_of_getElem? (i := 24) rfl)) (hw _ (List.mem_of_getElem? (i := 2) rfl)) (by decide) (by decide)) (g := (mkF m 40 #[.val (.int p1), .val (.int p2), .val (.int p3), .val (.ref vEQUAL), .val (.ref vEQUAL), .unset] [(.int (-1 : Int32)), (.ref vEQUAL), (.int (F_rm4_0 (1 : Int32)))])) rfl (by rw [hml]; rfl) (argsL := [(.ref vEQUAL), (.int (-1 : Int32))]) (rest := [(.int (F_rm4_0 (1 : Int32)))]) (lenOf pd_3 rfl) rfl (by show 2 * 0 + _ ≤ _; exact Nat.le_of_eq rfl) (hb hby at_40) (fun _ _ => ⟨rfl, e9q, (by decide : 0 + 0 ≤ _), (by decide : 0 + 0 ≤ _)⟩)
    dsimp only [Pt.U, Pt.locs, Pt.cells, Pt.slots] at X10 l10 y10 z10 st10 hQ10
    subst l10 y10 z10
    obtain ⟨rfl, N10q, e10q⟩ := hQ10
    have N10 := Fr.app Ng9 N10q
    obtain ⟨Lg10, Xg10, Ng10⟩ := Stand_gen X10 N10
    refine Run.go st10 ?_
    show Run p e below s 0 0 (Q_rm0 Z p1 p2 p3 vEQUAL vNOT_EQUAL vLESS vLESS_OR_EQUAL vGREATER vGREATER_OR_EQUAL h0 n0) (T10.setTop (mkF m 43 #[.val (.int p1), .val (.int p2), .val (.int p3), .val (.ref vEQUAL), .val (.ref vEQUAL), .unset] [(.int (F_rm4_0 (-1 : Int32))), (.int (F_rm4_0 (1 : Int32)))]))
    refine Run.go (fun _ k => XS.icmpNo Xg10.here hx rfl (hb hby at_43) rfl (teq (by decide)).2 k) ?_
    show Run p e below s 0 0 (Q_rm0 Z p1 p2 p3 vEQUAL vNOT_EQUAL vLESS vLESS_OR_EQUAL vGREATER vGREATER_OR_EQUAL h0 n0) (T10.setTop (mkF m 46 #[.val (.int p1), .val (.int p2), .val (.int p3), .val (.ref vEQUAL), .val (.ref vEQUAL), .unset] []))
    refine Run.go (fun _ k => XS.aload Xg10.here hx rfl (hb hby at_46) rfl rfl k) ?_
    show Run p e below s 0 0 (Q_rm0 Z p1 p2 p3 vEQUAL vNOT_EQUAL vLESS vLESS_OR_EQUAL vGREATER vGREATER_OR_EQUAL h0 n0) (T10.setTop (mkF m 48 #[.val (.int p1), .val (.int p2), .val (.int p3), .val (.ref vEQUAL), .val (.ref vEQUAL), .unset] [(.ref vEQUAL)]))
    refine Run.go (fun _ k => XS.iconst Xg10.here hx rfl (hb hby at_48) k) ?_
    show Run p e below s 0 0 (Q_rm0 Z p1 p2 p3 vEQUAL vNOT_EQUAL vLESS vLESS_OR_EQUAL vGREATER vGREATER_OR_EQUAL h0 n0) (T10.setTop (mkF m 49 #[.val (.int p1), .val (.int p2), .val (.int p3), .val (.ref vEQUAL), .val (.ref vEQUAL), .unset] [(.int (-1 : Int32)), (.ref vEQUAL)]))
    obtain ⟨_, _, ⟨T11, L11, k11, n11⟩, -, X11, ⟨Lc11, hQ11, l11, y11, z11⟩, st11⟩ := Jvm.LawKit.callS Xg10 hx (y := (⟨"com/example/exact_table/exacttable/ComparatorFlippedPinLaw", "holds", "(Lcom/example/exact_table/exacttable/Condition$Comparator;I)Z"⟩ : MethodName)) hown (mvT hZ (hw _ (List.mem_of_getElem? (i := 22) rfl))) (mvT hZ (hw _ (List.mem_of_getElem? (i := 23) rfl))) (mvT hZ (hw _ (List.mem_of_getElem? (i := 2) rfl))) (mvT hZ (hw _ (List.mem_of_getElem? (i := 24) rfl))) (by decide) (backOf (W := 0) (rm4_0 l Z a0 hw [] vEQUAL (-1 : Int32) vNOT_EQUAL vLESS vLESS_OR_EQUAL vGREATER vGREATER_OR_EQUAL h0 n0 Z0 S_Condition_Comparator_EQUAL S_Condition_Comparator_NOT_EQUAL S_Condition_Comparator_LESS S_Condition_Comparator_LESS_OR_EQUAL S_Condition_Comparator_GREATER S_Condition_Comparator_GREATER_OR_EQUAL ne_vEQUAL_vNOT_EQUAL ne_vEQUAL_vLESS ne_vEQUAL_vLESS_OR_EQUAL ne_vEQUAL_vGREATER ne_vEQUAL_vGREATER_OR_EQUAL ne_vNOT_EQUAL_vLESS ne_vNOT_EQUAL_vLESS_OR_EQUAL ne_vNOT_EQUAL_vGREATER ne_vNOT_EQUAL_vGREATER_OR_EQUAL ne_vLESS_vLESS_OR_EQUAL ne_vLESS_vGREATER ne_vLESS_vGREATER_OR_EQUAL ne_vLESS_OR_EQUAL_vGREATER ne_vLESS_OR_EQUAL_vGREATER_OR_EQUAL ne_vGREATER_vGREATER_OR_EQUAL) hZ (hw _ (List.mem_of_getElem? (i := 24) rfl)) (hw _ (List.mem_of_getElem? (i := 2) rfl)) (by decide) (by decide)) (g := (mkF m 49 #[.val (.int p1), .val (.int p2), .val (.int p3), .val (.ref vEQUAL), .val (.ref vEQUAL), .unset] [(.int (-1 : Int32)), (.ref vEQUAL)])) rfl (by rw [hml]; rfl) (argsL := [(.ref vEQUAL), (.int (-1 : Int32))]) (rest := []) (lenOf pd_3 rfl) rfl (by show 2 * 0 + _ ≤ _; exact Nat.le_of_eq rfl) (hb hby at_49) (fun _ _ => ⟨rfl, e10q, (by decide : 0 + 0 ≤ _), (by decide : 0 + 0 ≤ _)⟩)
    dsimp only [Pt.U, Pt.locs, Pt.cells, Pt.slots] at X11 l11 y11 z11 st11 hQ11
    subst l11 y11 z11
    obtain ⟨rfl, N11q, e11q⟩ := hQ11
    have N11 := Fr.app Ng10 N11q
    obtain ⟨Lg11, Xg11, Ng11⟩ := Stand_gen X11 N11
    refine Run.go st11 ?_
    show Run p e below s 0 0 (Q_rm0 Z p1 p2 p3 vEQUAL vNOT_EQUAL vLESS vLESS_OR_EQUAL vGREATER vGREATER_OR_EQUAL h0 n0) (T11.setTop (mkF m 52 #[.val (.int p1), .val (.int p2), .val (.int p3), .val (.ref vEQUAL), .val (.ref vEQUAL), .unset] [(.int (F_rm4_0 (-1 : Int32)))]))
    refine Run.go (fun _ k => XS.aloadN Xg11.here hx rfl (hb hby at_52) rfl rfl k) ?_
    show Run p e below s 0 0 (Q_rm0 Z p1 p2 p3 vEQUAL vNOT_EQUAL vLESS vLESS_OR_EQUAL vGREATER vGREATER_OR_EQUAL h0 n0) (T11.setTop (mkF m 53 #[.val (.int p1), .val (.int p2), .val (.int p3), .val (.ref vEQUAL), .val (.ref vEQUAL), .unset] [(.ref vEQUAL), (.int (F_rm4_0 (-1 : Int32)))]))
    refine Run.go (fun _ k => XS.iconst Xg11.here hx rfl (hb hby at_53) k) ?_
    show Run p e below s 0 0 (Q_rm0 Z p1 p2 p3 vEQUAL vNOT_EQUAL vLESS vLESS_OR_EQUAL vGREATER vGREATER_OR_EQUAL h0 n0) (T11.setTop (mkF m 54 #[.val (.int p1), .val (.int p2), .val (.int p3), .val (.ref vEQUAL), .val (.ref vEQUAL), .unset] [(.int (1 : Int32)), (.ref vEQUAL), (.int (F_rm4_0 (-1 : Int32)))]))
    obtain ⟨_, _, ⟨T12, L12, k12, n12⟩, -, X12, ⟨Lc12, hQ12, l12, y12, z12⟩, st12⟩ := Jvm.LawKit.callS Xg11 hx (y := (⟨"com/example/exact_table/exacttable/ComparatorFlippedPinLaw", "holds", "(Lcom/example/exact_table/exacttable/Condition$Comparator;I)Z"⟩ : MethodName)) hown (mvT hZ (hw _ (List.mem_of_getElem? (i := 22) rfl))) (mvT hZ (hw _ (List.mem_of_getElem? (i := 23) rfl))) (mvT hZ (hw _ (List.mem_of_getElem? (i := 2) rfl))) (mvT hZ (hw _ (List.mem_of_getElem? (i := 24) rfl))) (by decide) (backOf (W := 1) (rm4_0 l Z a0 hw [] vEQUAL (1 : Int32) vNOT_EQUAL vLESS vLESS_OR_EQUAL vGREATER vGREATER_OR_EQUAL h0 n0 Z0 S_Condition_Comparator_EQUAL S_Condition_Comparator_NOT_EQUAL S_Condition_Comparator_LESS S_Condition_Comparator_LESS_OR_EQUAL S_Condition_Comparator_GREATER S_Condition_Comparator_GREATER_OR_EQUAL ne_vEQUAL_vNOT_EQUAL ne_vEQUAL_vLESS ne_vEQUAL_vLESS_OR_EQUAL ne_vEQUAL_vGREATER ne_vEQUAL_vGREATER_OR_EQUAL ne_vNOT_EQUAL_vLESS ne_vNOT_EQUAL_vLESS_OR_EQUAL ne_vNOT_EQUAL_vGREATER ne_vNOT_EQUAL_vGREATER_OR_EQUAL ne_vLESS_vLESS_OR_EQUAL ne_vLESS_vGREATER ne_vLESS_vGREATER_OR_EQUAL ne_vLESS_OR_EQUAL_vGREATER ne_vLESS_OR_EQUAL_vGREATER_OR_EQUAL ne_vGREATER_vGREATER_OR_EQUAL) hZ (hw _ (List.mem_of_getElem? (i := 24) rfl)) (hw _ (List.mem_of_getElem? (i := 2) rfl)) (by decide) (by decide)) (g := (mkF m 54 #[.val (.int p1), .val (.int p2), .val (.int p3), .val (.ref vEQUAL), .val (.ref vEQUAL), .unset] [(.int (1 : Int32)), (.ref vEQUAL), (.int (F_rm4_0 (-1 : Int32)))])) rfl (by rw [hml]; rfl) (argsL := [(.ref vEQUAL), (.int (1 : Int32))]) (rest := [(.int (F_rm4_0 (-1 : Int32)))]) (lenOf pd_3 rfl) rfl (by show 2 * 0 + _ ≤ _; exact Nat.le_of_eq rfl) (hb hby at_54) (fun _ _ => ⟨rfl, e11q, (by decide : 0 + 0 ≤ _), (by decide : 0 + 0 ≤ _)⟩)
    dsimp only [Pt.U, Pt.locs, Pt.cells, Pt.slots] at X12 l12 y12 z12 st12 hQ12
    subst l12 y12 z12
    obtain ⟨rfl, N12q, e12q⟩ := hQ12
    have N12 := Fr.app Ng11 N12q
    obtain ⟨Lg12, Xg12, Ng12⟩ := Stand_gen X12 N12
    refine Run.go st12 ?_
    show Run p e below s 0 0 (Q_rm0 Z p1 p2 p3 vEQUAL vNOT_EQUAL vLESS vLESS_OR_EQUAL vGREATER vGREATER_OR_EQUAL h0 n0) (T12.setTop (mkF m 57 #[.val (.int p1), .val (.int p2), .val (.int p3), .val (.ref vEQUAL), .val (.ref vEQUAL), .unset] [(.int (F_rm4_0 (1 : Int32))), (.int (F_rm4_0 (-1 : Int32)))]))
    refine Run.go (fun _ k => XS.icmpNo Xg12.here hx rfl (hb hby at_57) rfl (teq (by decide)).2 k) ?_
    show Run p e below s 0 0 (Q_rm0 Z p1 p2 p3 vEQUAL vNOT_EQUAL vLESS vLESS_OR_EQUAL vGREATER vGREATER_OR_EQUAL h0 n0) (T12.setTop (mkF m 60 #[.val (.int p1), .val (.int p2), .val (.int p3), .val (.ref vEQUAL), .val (.ref vEQUAL), .unset] []))
    refine Run.go (fun _ k => XS.iconst Xg12.here hx rfl (hb hby at_60) k) ?_
    show Run p e below s 0 0 (Q_rm0 Z p1 p2 p3 vEQUAL vNOT_EQUAL vLESS vLESS_OR_EQUAL vGREATER vGREATER_OR_EQUAL h0 n0) (T12.setTop (mkF m 61 #[.val (.int p1), .val (.int p2), .val (.int p3), .val (.ref vEQUAL), .val (.ref vEQUAL), .unset] [(.int (1 : Int32))]))
    refine Run.go (fun _ k => XS.goto Xg12.here hx rfl (pc0 := 61) (pc' := 65) rfl (hb hby at_61) (by decide) (by decide) k) ?_
    show Run p e below s 0 0 (Q_rm0 Z p1 p2 p3 vEQUAL vNOT_EQUAL vLESS vLESS_OR_EQUAL vGREATER vGREATER_OR_EQUAL h0 n0) (T12.setTop (mkF m 65 #[.val (.int p1), .val (.int p2), .val (.int p3), .val (.ref vEQUAL), .val (.ref vEQUAL), .unset] [(.int (1 : Int32))]))
    refine Run.go (fun _ k => XS.istore Xg12.here hx rfl (hb hby at_65) rfl (l' := #[.val (.int p1), .val (.int p2), .val (.int p3), .val (.ref vEQUAL), .val (.ref vEQUAL), .val (.int (1 : Int32))]) rfl k) ?_
    show Run p e below s 0 0 (Q_rm0 Z p1 p2 p3 vEQUAL vNOT_EQUAL vLESS vLESS_OR_EQUAL vGREATER vGREATER_OR_EQUAL h0 n0) (T12.setTop (mkF m 67 #[.val (.int p1), .val (.int p2), .val (.int p3), .val (.ref vEQUAL), .val (.ref vEQUAL), .val (.int (1 : Int32))] []))
    refine Run.go (fun _ k => XS.iload Xg12.here hx rfl (hb hby at_67) rfl  k) ?_
    show Run p e below s 0 0 (Q_rm0 Z p1 p2 p3 vEQUAL vNOT_EQUAL vLESS vLESS_OR_EQUAL vGREATER vGREATER_OR_EQUAL h0 n0) (T12.setTop (mkF m 69 #[.val (.int p1), .val (.int p2), .val (.int p3), .val (.ref vEQUAL), .val (.ref vEQUAL), .val (.int (1 : Int32))] [(.int (1 : Int32))]))
    refine Run.go (fun _ k => XS.ifNo Xg12.here hx rfl (hb hby at_69) rfl ((if0 _ _).trans (feq (by decide)).1) k) ?_
    show Run p e below s 0 0 (Q_rm0 Z p1 p2 p3 vEQUAL vNOT_EQUAL vLESS vLESS_OR_EQUAL vGREATER vGREATER_OR_EQUAL h0 n0) (T12.setTop (mkF m 72 #[.val (.int p1), .val (.int p2), .val (.int p3), .val (.ref vEQUAL), .val (.ref vEQUAL), .val (.int (1 : Int32))] []))
    refine Run.go (fun _ k => XS.aload Xg12.here hx rfl (hb hby at_72) rfl rfl k) ?_
    show Run p e below s 0 0 (Q_rm0 Z p1 p2 p3 vEQUAL vNOT_EQUAL vLESS vLESS_OR_EQUAL vGREATER vGREATER_OR_EQUAL h0 n0) (T12.setTop (mkF m 74 #[.val (.int p1), .val (.int p2), .val (.int p3), .val (.ref vEQUAL), .val (.ref vEQUAL), .val (.int (1 : Int32))] [(.ref vEQUAL)]))
    refine Run.go (fun _ k => XS.iloadN Xg12.here hx rfl (hb hby at_74) rfl  k) ?_
    show Run p e below s 0 0 (Q_rm0 Z p1 p2 p3 vEQUAL vNOT_EQUAL vLESS vLESS_OR_EQUAL vGREATER vGREATER_OR_EQUAL h0 n0) (T12.setTop (mkF m 75 #[.val (.int p1), .val (.int p2), .val (.int p3), .val (.ref vEQUAL), .val (.ref vEQUAL), .val (.int (1 : Int32))] [(.int p3), (.ref vEQUAL)]))
    refine Run.go (fun _ k => XS.iloadN Xg12.here hx rfl (hb hby at_75) rfl  k) ?_
    show Run p e below s 0 0 (Q_rm0 Z p1 p2 p3 vEQUAL vNOT_EQUAL vLESS vLESS_OR_EQUAL vGREATER vGREATER_OR_EQUAL h0 n0) (T12.setTop (mkF m 76 #[.val (.int p1), .val (.int p2), .val (.int p3), .val (.ref vEQUAL), .val (.ref vEQUAL), .val (.int (1 : Int32))] [(.int p2), (.int p3), (.ref vEQUAL)]))
    obtain ⟨_, _, ⟨T13, L13, k13, n13⟩, -, X13, ⟨Lc13, hQ13, l13, y13, z13⟩, st13⟩ := Jvm.LawKit.callS Xg12 hx (y := (⟨"com/example/exact_table/exacttable/ComparatorFlippedPinLaw", "sign", "(II)I"⟩ : MethodName)) hown (mvT hZ (hw _ (List.mem_of_getElem? (i := 25) rfl))) (mvT hZ (hw _ (List.mem_of_getElem? (i := 26) rfl))) (mvT hZ (hw _ (List.mem_of_getElem? (i := 2) rfl))) (mvT hZ (hw _ (List.mem_of_getElem? (i := 27) rfl))) (by decide) (backOf (W := 1) (rm5 l Z a0 hw [] p3 p2 h0 n0 Z0 ) hZ (hw _ (List.mem_of_getElem? (i := 27) rfl)) (hw _ (List.mem_of_getElem? (i := 2) rfl)) (by decide) (by decide)) (g := (mkF m 76 #[.val (.int p1), .val (.int p2), .val (.int p3), .val (.ref vEQUAL), .val (.ref vEQUAL), .val (.int (1 : Int32))] [(.int p2), (.int p3), (.ref vEQUAL)])) rfl (by rw [hml]; rfl) (argsL := [(.int p3), (.int p2)]) (rest := [(.ref vEQUAL)]) (lenOf pd_4 rfl) rfl (by show 2 * 0 + _ ≤ _; exact Nat.le_of_eq rfl) (hb hby at_76) (fun _ _ => ⟨rfl, e12q, (by decide : 0 + 0 ≤ _), (by decide : 0 + 0 ≤ _)⟩)
    dsimp only [Pt.U, Pt.locs, Pt.cells, Pt.slots] at X13 l13 y13 z13 st13 hQ13
    subst l13 y13 z13
    obtain ⟨rfl, N13q, e13q⟩ := hQ13
    have N13 := Fr.app Ng12 N13q
    obtain ⟨Lg13, Xg13, Ng13⟩ := Stand_gen X13 N13
    refine Run.go st13 ?_
    show Run p e below s 0 0 (Q_rm0 Z p1 p2 p3 vEQUAL vNOT_EQUAL vLESS vLESS_OR_EQUAL vGREATER vGREATER_OR_EQUAL h0 n0) (T13.setTop (mkF m 79 #[.val (.int p1), .val (.int p2), .val (.int p3), .val (.ref vEQUAL), .val (.ref vEQUAL), .val (.int (1 : Int32))] [(.int (F_rm5 p3 p2)), (.ref vEQUAL)]))
    obtain ⟨_, _, ⟨T14, L14, k14, n14⟩, -, X14, ⟨Lc14, hQ14, l14, y14, z14⟩, st14⟩ := Jvm.LawKit.callS Xg13 hx (y := (⟨"com/example/exact_table/exacttable/ComparatorFlippedPinLaw", "holds", "(Lcom/example/exact_table/exacttable/Condition$Comparator;I)Z"⟩ : MethodName)) hown (mvT hZ (hw _ (List.mem_of_getElem? (i := 22) rfl))) (mvT hZ (hw _ (List.mem_of_getElem? (i := 23) rfl))) (mvT hZ (hw _ (List.mem_of_getElem? (i := 2) rfl))) (mvT hZ (hw _ (List.mem_of_getElem? (i := 24) rfl))) (by decide) (backOf (W := 0) (rm4_0 l Z a0 hw [] vEQUAL (F_rm5 p3 p2) vNOT_EQUAL vLESS vLESS_OR_EQUAL vGREATER vGREATER_OR_EQUAL h0 n0 Z0 S_Condition_Comparator_EQUAL S_Condition_Comparator_NOT_EQUAL S_Condition_Comparator_LESS S_Condition_Comparator_LESS_OR_EQUAL S_Condition_Comparator_GREATER S_Condition_Comparator_GREATER_OR_EQUAL ne_vEQUAL_vNOT_EQUAL ne_vEQUAL_vLESS ne_vEQUAL_vLESS_OR_EQUAL ne_vEQUAL_vGREATER ne_vEQUAL_vGREATER_OR_EQUAL ne_vNOT_EQUAL_vLESS ne_vNOT_EQUAL_vLESS_OR_EQUAL ne_vNOT_EQUAL_vGREATER ne_vNOT_EQUAL_vGREATER_OR_EQUAL ne_vLESS_vLESS_OR_EQUAL ne_vLESS_vGREATER ne_vLESS_vGREATER_OR_EQUAL ne_vLESS_OR_EQUAL_vGREATER ne_vLESS_OR_EQUAL_vGREATER_OR_EQUAL ne_vGREATER_vGREATER_OR_EQUAL) hZ (hw _ (List.mem_of_getElem? (i := 24) rfl)) (hw _ (List.mem_of_getElem? (i := 2) rfl)) (by decide) (by decide)) (g := (mkF m 79 #[.val (.int p1), .val (.int p2), .val (.int p3), .val (.ref vEQUAL), .val (.ref vEQUAL), .val (.int (1 : Int32))] [(.int (F_rm5 p3 p2)), (.ref vEQUAL)])) rfl (by rw [hml]; rfl) (argsL := [(.ref vEQUAL), (.int (F_rm5 p3 p2))]) (rest := []) (lenOf pd_3 rfl) rfl (by show 2 * 0 + _ ≤ _; exact Nat.le_of_eq rfl) (hb hby at_79) (fun _ _ => ⟨rfl, e13q, (by decide : 0 + 0 ≤ _), (by decide : 0 + 0 ≤ _)⟩)
    dsimp only [Pt.U, Pt.locs, Pt.cells, Pt.slots] at X14 l14 y14 z14 st14 hQ14
    subst l14 y14 z14
    obtain ⟨rfl, N14q, e14q⟩ := hQ14
    have N14 := Fr.app Ng13 N14q
    obtain ⟨Lg14, Xg14, Ng14⟩ := Stand_gen X14 N14
    refine Run.go st14 ?_
    show Run p e below s 0 0 (Q_rm0 Z p1 p2 p3 vEQUAL vNOT_EQUAL vLESS vLESS_OR_EQUAL vGREATER vGREATER_OR_EQUAL h0 n0) (T14.setTop (mkF m 82 #[.val (.int p1), .val (.int p2), .val (.int p3), .val (.ref vEQUAL), .val (.ref vEQUAL), .val (.int (1 : Int32))] [(.int (F_rm4_0 (F_rm5 p3 p2)))]))
    refine Run.go (fun _ k => XS.aloadN Xg14.here hx rfl (hb hby at_82) rfl rfl k) ?_
    show Run p e below s 0 0 (Q_rm0 Z p1 p2 p3 vEQUAL vNOT_EQUAL vLESS vLESS_OR_EQUAL vGREATER vGREATER_OR_EQUAL h0 n0) (T14.setTop (mkF m 83 #[.val (.int p1), .val (.int p2), .val (.int p3), .val (.ref vEQUAL), .val (.ref vEQUAL), .val (.int (1 : Int32))] [(.ref vEQUAL), (.int (F_rm4_0 (F_rm5 p3 p2)))]))
    refine Run.go (fun _ k => XS.iloadN Xg14.here hx rfl (hb hby at_83) rfl  k) ?_
    show Run p e below s 0 0 (Q_rm0 Z p1 p2 p3 vEQUAL vNOT_EQUAL vLESS vLESS_OR_EQUAL vGREATER vGREATER_OR_EQUAL h0 n0) (T14.setTop (mkF m 84 #[.val (.int p1), .val (.int p2), .val (.int p3), .val (.ref vEQUAL), .val (.ref vEQUAL), .val (.int (1 : Int32))] [(.int p2), (.ref vEQUAL), (.int (F_rm4_0 (F_rm5 p3 p2)))]))
    refine Run.go (fun _ k => XS.iloadN Xg14.here hx rfl (hb hby at_84) rfl  k) ?_
    show Run p e below s 0 0 (Q_rm0 Z p1 p2 p3 vEQUAL vNOT_EQUAL vLESS vLESS_OR_EQUAL vGREATER vGREATER_OR_EQUAL h0 n0) (T14.setTop (mkF m 85 #[.val (.int p1), .val (.int p2), .val (.int p3), .val (.ref vEQUAL), .val (.ref vEQUAL), .val (.int (1 : Int32))] [(.int p3), (.int p2), (.ref vEQUAL), (.int (F_rm4_0 (F_rm5 p3 p2)))]))
    obtain ⟨_, _, ⟨T15, L15, k15, n15⟩, -, X15, ⟨Lc15, hQ15, l15, y15, z15⟩, st15⟩ := Jvm.LawKit.callS Xg14 hx (y := (⟨"com/example/exact_table/exacttable/ComparatorFlippedPinLaw", "sign", "(II)I"⟩ : MethodName)) hown (mvT hZ (hw _ (List.mem_of_getElem? (i := 25) rfl))) (mvT hZ (hw _ (List.mem_of_getElem? (i := 26) rfl))) (mvT hZ (hw _ (List.mem_of_getElem? (i := 2) rfl))) (mvT hZ (hw _ (List.mem_of_getElem? (i := 27) rfl))) (by decide) (backOf (W := 2) (rm5 l Z a0 hw [] p2 p3 h0 n0 Z0 ) hZ (hw _ (List.mem_of_getElem? (i := 27) rfl)) (hw _ (List.mem_of_getElem? (i := 2) rfl)) (by decide) (by decide)) (g := (mkF m 85 #[.val (.int p1), .val (.int p2), .val (.int p3), .val (.ref vEQUAL), .val (.ref vEQUAL), .val (.int (1 : Int32))] [(.int p3), (.int p2), (.ref vEQUAL), (.int (F_rm4_0 (F_rm5 p3 p2)))])) rfl (by rw [hml]; rfl) (argsL := [(.int p2), (.int p3)]) (rest := [(.ref vEQUAL), (.int (F_rm4_0 (F_rm5 p3 p2)))]) (lenOf pd_4 rfl) rfl (by show 2 * 0 + _ ≤ _; exact Nat.le_of_eq rfl) (hb hby at_85) (fun _ _ => ⟨rfl, e14q, (by decide : 0 + 0 ≤ _), (by decide : 0 + 0 ≤ _)⟩)
    dsimp only [Pt.U, Pt.locs, Pt.cells, Pt.slots] at X15 l15 y15 z15 st15 hQ15
    subst l15 y15 z15
    obtain ⟨rfl, N15q, e15q⟩ := hQ15
    have N15 := Fr.app Ng14 N15q
    obtain ⟨Lg15, Xg15, Ng15⟩ := Stand_gen X15 N15
    refine Run.go st15 ?_
    show Run p e below s 0 0 (Q_rm0 Z p1 p2 p3 vEQUAL vNOT_EQUAL vLESS vLESS_OR_EQUAL vGREATER vGREATER_OR_EQUAL h0 n0) (T15.setTop (mkF m 88 #[.val (.int p1), .val (.int p2), .val (.int p3), .val (.ref vEQUAL), .val (.ref vEQUAL), .val (.int (1 : Int32))] [(.int (F_rm5 p2 p3)), (.ref vEQUAL), (.int (F_rm4_0 (F_rm5 p3 p2)))]))
    obtain ⟨_, _, ⟨T16, L16, k16, n16⟩, -, X16, ⟨Lc16, hQ16, l16, y16, z16⟩, st16⟩ := Jvm.LawKit.callS Xg15 hx (y := (⟨"com/example/exact_table/exacttable/ComparatorFlippedPinLaw", "holds", "(Lcom/example/exact_table/exacttable/Condition$Comparator;I)Z"⟩ : MethodName)) hown (mvT hZ (hw _ (List.mem_of_getElem? (i := 22) rfl))) (mvT hZ (hw _ (List.mem_of_getElem? (i := 23) rfl))) (mvT hZ (hw _ (List.mem_of_getElem? (i := 2) rfl))) (mvT hZ (hw _ (List.mem_of_getElem? (i := 24) rfl))) (by decide) (backOf (W := 1) (rm4_0 l Z a0 hw [] vEQUAL (F_rm5 p2 p3) vNOT_EQUAL vLESS vLESS_OR_EQUAL vGREATER vGREATER_OR_EQUAL h0 n0 Z0 S_Condition_Comparator_EQUAL S_Condition_Comparator_NOT_EQUAL S_Condition_Comparator_LESS S_Condition_Comparator_LESS_OR_EQUAL S_Condition_Comparator_GREATER S_Condition_Comparator_GREATER_OR_EQUAL ne_vEQUAL_vNOT_EQUAL ne_vEQUAL_vLESS ne_vEQUAL_vLESS_OR_EQUAL ne_vEQUAL_vGREATER ne_vEQUAL_vGREATER_OR_EQUAL ne_vNOT_EQUAL_vLESS ne_vNOT_EQUAL_vLESS_OR_EQUAL ne_vNOT_EQUAL_vGREATER ne_vNOT_EQUAL_vGREATER_OR_EQUAL ne_vLESS_vLESS_OR_EQUAL ne_vLESS_vGREATER ne_vLESS_vGREATER_OR_EQUAL ne_vLESS_OR_EQUAL_vGREATER ne_vLESS_OR_EQUAL_vGREATER_OR_EQUAL ne_vGREATER_vGREATER_OR_EQUAL) hZ (hw _ (List.mem_of_getElem? (i := 24) rfl)) (hw _ (List.mem_of_getElem? (i := 2) rfl)) (by decide) (by decide)) (g := (mkF m 88 #[.val (.int p1), .val (.int p2), .val (.int p3), .val (.ref vEQUAL), .val (.ref vEQUAL), .val (.int (1 : Int32))] [(.int (F_rm5 p2 p3)), (.ref vEQUAL), (.int (F_rm4_0 (F_rm5 p3 p2)))])) rfl (by rw [hml]; rfl) (argsL := [(.ref vEQUAL), (.int (F_rm5 p2 p3))]) (rest := [(.int (F_rm4_0 (F_rm5 p3 p2)))]) (lenOf pd_3 rfl) rfl (by show 2 * 0 + _ ≤ _; exact Nat.le_of_eq rfl) (hb hby at_88) (fun _ _ => ⟨rfl, e15q, (by decide : 0 + 0 ≤ _), (by decide : 0 + 0 ≤ _)⟩)
    dsimp only [Pt.U, Pt.locs, Pt.cells, Pt.slots] at X16 l16 y16 z16 st16 hQ16
    subst l16 y16 z16
    obtain ⟨rfl, N16q, e16q⟩ := hQ16
    have N16 := Fr.app Ng15 N16q
    obtain ⟨Lg16, Xg16, Ng16⟩ := Stand_gen X16 N16
    refine Run.go st16 ?_
    show Run p e below s 0 0 (Q_rm0 Z p1 p2 p3 vEQUAL vNOT_EQUAL vLESS vLESS_OR_EQUAL vGREATER vGREATER_OR_EQUAL h0 n0) (T16.setTop (mkF m 91 #[.val (.int p1), .val (.int p2), .val (.int p3), .val (.ref vEQUAL), .val (.ref vEQUAL), .val (.int (1 : Int32))] [(.int (F_rm4_0 (F_rm5 p2 p3))), (.int (F_rm4_0 (F_rm5 p3 p2)))]))
    refine Run.go (fun _ k => XS.icmpNo Xg16.here hx rfl (hb hby at_91) rfl (teq (own_h0 _ _)).2 k) ?_
    show Run p e below s 0 0 (Q_rm0 Z p1 p2 p3 vEQUAL vNOT_EQUAL vLESS vLESS_OR_EQUAL vGREATER vGREATER_OR_EQUAL h0 n0) (T16.setTop (mkF m 94 #[.val (.int p1), .val (.int p2), .val (.int p3), .val (.ref vEQUAL), .val (.ref vEQUAL), .val (.int (1 : Int32))] []))
    refine Run.go (fun _ k => XS.iconst Xg16.here hx rfl (hb hby at_94) k) ?_
    show Run p e below s 0 0 (Q_rm0 Z p1 p2 p3 vEQUAL vNOT_EQUAL vLESS vLESS_OR_EQUAL vGREATER vGREATER_OR_EQUAL h0 n0) (T16.setTop (mkF m 95 #[.val (.int p1), .val (.int p2), .val (.int p3), .val (.ref vEQUAL), .val (.ref vEQUAL), .val (.int (1 : Int32))] [(.int (1 : Int32))]))
    refine Run.go (fun _ k => XS.goto Xg16.here hx rfl (pc0 := 95) (pc' := 99) rfl (hb hby at_95) (by decide) (by decide) k) ?_
    show Run p e below s 0 0 (Q_rm0 Z p1 p2 p3 vEQUAL vNOT_EQUAL vLESS vLESS_OR_EQUAL vGREATER vGREATER_OR_EQUAL h0 n0) (T16.setTop (mkF m 99 #[.val (.int p1), .val (.int p2), .val (.int p3), .val (.ref vEQUAL), .val (.ref vEQUAL), .val (.int (1 : Int32))] [(.int (1 : Int32))]))
    refine Run.go (fun _ k => XS.istore Xg16.here hx rfl (hb hby at_99) rfl (l' := #[.val (.int p1), .val (.int p2), .val (.int p3), .val (.ref vEQUAL), .val (.ref vEQUAL), .val (.int (1 : Int32))]) rfl k) ?_
    show Run p e below s 0 0 (Q_rm0 Z p1 p2 p3 vEQUAL vNOT_EQUAL vLESS vLESS_OR_EQUAL vGREATER vGREATER_OR_EQUAL h0 n0) (T16.setTop (mkF m 101 #[.val (.int p1), .val (.int p2), .val (.int p3), .val (.ref vEQUAL), .val (.ref vEQUAL), .val (.int (1 : Int32))] []))
    refine Run.go (fun _ k => XS.iload Xg16.here hx rfl (hb hby at_101) rfl  k) ?_
    show Run p e below s 0 0 (Q_rm0 Z p1 p2 p3 vEQUAL vNOT_EQUAL vLESS vLESS_OR_EQUAL vGREATER vGREATER_OR_EQUAL h0 n0) (T16.setTop (mkF m 103 #[.val (.int p1), .val (.int p2), .val (.int p3), .val (.ref vEQUAL), .val (.ref vEQUAL), .val (.int (1 : Int32))] [(.int (1 : Int32))]))
    refine Run.go (fun _ k => XS.ifNo Xg16.here hx rfl (hb hby at_103) rfl ((if0 _ _).trans (feq (by decide)).1) k) ?_
    show Run p e below s 0 0 (Q_rm0 Z p1 p2 p3 vEQUAL vNOT_EQUAL vLESS vLESS_OR_EQUAL vGREATER vGREATER_OR_EQUAL h0 n0) (T16.setTop (mkF m 106 #[.val (.int p1), .val (.int p2), .val (.int p3), .val (.ref vEQUAL), .val (.ref vEQUAL), .val (.int (1 : Int32))] []))
    refine Run.go (fun _ k => XS.aload Xg16.here hx rfl (hb hby at_106) rfl rfl k) ?_
    show Run p e below s 0 0 (Q_rm0 Z p1 p2 p3 vEQUAL vNOT_EQUAL vLESS vLESS_OR_EQUAL vGREATER vGREATER_OR_EQUAL h0 n0) (T16.setTop (mkF m 108 #[.val (.int p1), .val (.int p2), .val (.int p3), .val (.ref vEQUAL), .val (.ref vEQUAL), .val (.int (1 : Int32))] [(.ref vEQUAL)]))
    obtain ⟨cq17, kq17, q17a, q17b, q17c⟩ := isOf hZ e16q E_vEQUAL
    obtain ⟨_, _, ⟨T17, L17, k17, n17⟩, -, X17, ⟨Lc17, hQ17, l17, y17, z17⟩, st17⟩ := Xg16.virtualBack hx (y := (⟨"com/example/exact_table/exacttable/Condition$Comparator", "flipped", "()Lcom/example/exact_table/exacttable/Condition$Comparator;"⟩ : MethodName)) (z := (⟨"com/example/exact_table/exacttable/Condition$Comparator", "flipped", "()Lcom/example/exact_table/exacttable/Condition$Comparator;"⟩ : MethodName)) hown (mvT hZ (hw _ (List.mem_of_getElem? (i := 8) rfl))) (mvT hZ (hw _ (List.mem_of_getElem? (i := 9) rfl))) (notFace_of_selects (args := #[]) (mvT hZ (hw _ (List.mem_of_getElem? (i := 11) rfl)))) (mvT hZ (hw _ (List.mem_of_getElem? (i := 11) rfl))) (mvT hZ (hw _ (List.mem_of_getElem? (i := 10) rfl))) (by decide) (backOf (W := 0) (rm2_0 l Z a0 hw [] vEQUAL vNOT_EQUAL vLESS vLESS_OR_EQUAL vGREATER vGREATER_OR_EQUAL h0 n0 Z0 S_Condition_Comparator_EQUAL S_Condition_Comparator_NOT_EQUAL S_Condition_Comparator_LESS S_Condition_Comparator_LESS_OR_EQUAL S_Condition_Comparator_GREATER S_Condition_Comparator_GREATER_OR_EQUAL F_ordinal_vEQUAL E_vEQUAL) hZ (hw _ (List.mem_of_getElem? (i := 12) rfl)) (hw _ (List.mem_of_getElem? (i := 6) rfl)) (by decide) (by decide)) q17a q17c (g := (mkF m 108 #[.val (.int p1), .val (.int p2), .val (.int p3), .val (.ref vEQUAL), .val (.ref vEQUAL), .val (.int (1 : Int32))] [(.ref vEQUAL)])) rfl (by rw [hml]; rfl) (Steps.refl _) (argsL := []) (rest := []) (lenOf pd_2 rfl) rfl (by show 2 * 0 + _ ≤ _; exact Nat.le_of_eq rfl) (hb hby at_108) (fun _ _ => ⟨rfl, e16q, (by decide : 0 + 0 ≤ _), (by decide : 0 + 0 ≤ _)⟩)
    dsimp only [Pt.U, Pt.locs, Pt.cells, Pt.slots] at X17 l17 y17 z17 st17 hQ17
    subst l17 y17 z17
    obtain ⟨rfl, N17q, e17q⟩ := hQ17
    have N17 := Fr.app Ng16 N17q
    obtain ⟨Lg17, Xg17, Ng17⟩ := Stand_gen X17 N17
    refine Run.tr st17 ?_
    show Run p e below s 0 0 (Q_rm0 Z p1 p2 p3 vEQUAL vNOT_EQUAL vLESS vLESS_OR_EQUAL vGREATER vGREATER_OR_EQUAL h0 n0) (T17.setTop (mkF m 111 #[.val (.int p1), .val (.int p2), .val (.int p3), .val (.ref vEQUAL), .val (.ref vEQUAL), .val (.int (1 : Int32))] [(.ref vEQUAL)]))
    refine Run.go (fun _ k => XS.aloadN Xg17.here hx rfl (hb hby at_111) rfl rfl k) ?_
    show Run p e below s 0 0 (Q_rm0 Z p1 p2 p3 vEQUAL vNOT_EQUAL vLESS vLESS_OR_EQUAL vGREATER vGREATER_OR_EQUAL h0 n0) (T17.setTop (mkF m 112 #[.val (.int p1), .val (.int p2), .val (.int p3), .val (.ref vEQUAL), .val (.ref vEQUAL), .val (.int (1 : Int32))] [(.ref vEQUAL), (.ref vEQUAL)]))
    refine Run.go (fun _ k => Jvm.RoadKit.acmp (g := (mkF m 112 #[.val (.int p1), .val (.int p2), .val (.int p3), .val (.ref vEQUAL), .val (.ref vEQUAL), .val (.int (1 : Int32))] [(.ref vEQUAL), (.ref vEQUAL)])) Xg17 hx rfl rfl rfl (pc0 := 112) (pc' := 115) (same := true) rfl (hb hby at_112) rfl (decide_eq_true rfl) (by decide) (by decide) k) ?_
    show Run p e below s 0 0 (Q_rm0 Z p1 p2 p3 vEQUAL vNOT_EQUAL vLESS vLESS_OR_EQUAL vGREATER vGREATER_OR_EQUAL h0 n0) (T17.setTop (mkF m 115 #[.val (.int p1), .val (.int p2), .val (.int p3), .val (.ref vEQUAL), .val (.ref vEQUAL), .val (.int (1 : Int32))] []))
    refine Run.go (fun _ k => XS.iconst Xg17.here hx rfl (hb hby at_115) k) ?_
    show Run p e below s 0 0 (Q_rm0 Z p1 p2 p3 vEQUAL vNOT_EQUAL vLESS vLESS_OR_EQUAL vGREATER vGREATER_OR_EQUAL h0 n0) (T17.setTop (mkF m 116 #[.val (.int p1), .val (.int p2), .val (.int p3), .val (.ref vEQUAL), .val (.ref vEQUAL), .val (.int (1 : Int32))] [(.int (1 : Int32))]))
    refine Run.go (fun _ k => XS.goto Xg17.here hx rfl (pc0 := 116) (pc' := 120) rfl (hb hby at_116) (by decide) (by decide) k) ?_
    show Run p e below s 0 0 (Q_rm0 Z p1 p2 p3 vEQUAL vNOT_EQUAL vLESS vLESS_OR_EQUAL vGREATER vGREATER_OR_EQUAL h0 n0) (T17.setTop (mkF m 120 #[.val (.int p1), .val (.int p2), .val (.int p3), .val (.ref vEQUAL), .val (.ref vEQUAL), .val (.int (1 : Int32))] [(.int (1 : Int32))]))
    refine Run.go (fun _ k => XS.istore Xg17.here hx rfl (hb hby at_120) rfl (l' := #[.val (.int p1), .val (.int p2), .val (.int p3), .val (.ref vEQUAL), .val (.ref vEQUAL), .val (.int (1 : Int32))]) rfl k) ?_
    show Run p e below s 0 0 (Q_rm0 Z p1 p2 p3 vEQUAL vNOT_EQUAL vLESS vLESS_OR_EQUAL vGREATER vGREATER_OR_EQUAL h0 n0) (T17.setTop (mkF m 122 #[.val (.int p1), .val (.int p2), .val (.int p3), .val (.ref vEQUAL), .val (.ref vEQUAL), .val (.int (1 : Int32))] []))
    refine Run.go (fun _ k => XS.iload Xg17.here hx rfl (hb hby at_122) rfl  k) ?_
    show Run p e below s 0 0 (Q_rm0 Z p1 p2 p3 vEQUAL vNOT_EQUAL vLESS vLESS_OR_EQUAL vGREATER vGREATER_OR_EQUAL h0 n0) (T17.setTop (mkF m 124 #[.val (.int p1), .val (.int p2), .val (.int p3), .val (.ref vEQUAL), .val (.ref vEQUAL), .val (.int (1 : Int32))] [(.int (1 : Int32))]))
    exact Run.retN (y := 1) Xg17 hx (t := .boolean) Bd.returns (by simp) rfl Bd.notSynchronized (hb hby at_124) (by decide) (by decide) ⟨rfl, Ng17⟩
  · show Run p e below s 0 0 (Q_rm0 Z p1 p2 p3 vEQUAL vNOT_EQUAL vLESS vLESS_OR_EQUAL vGREATER vGREATER_OR_EQUAL h0 n0) (s₁.setTop (mkF m 0 #[.val (.int p1), .val (.int p2), .val (.int p3), .unset, .unset, .unset] []))
    refine Run.go (fun _ k => XS.iloadN X0.here hx rfl (hb hby at_0) rfl  k) ?_
    show Run p e below s 0 0 (Q_rm0 Z p1 p2 p3 vEQUAL vNOT_EQUAL vLESS vLESS_OR_EQUAL vGREATER vGREATER_OR_EQUAL h0 n0) (s₁.setTop (mkF m 1 #[.val (.int p1), .val (.int p2), .val (.int p3), .unset, .unset, .unset] [(.int p1)]))
    obtain ⟨_, _, ⟨T18, L18, k18, n18⟩, -, X18, ⟨Lc18, hQ18, l18, y18, z18⟩, st18⟩ := Jvm.LawKit.callS X0 hx (y := (⟨"com/example/exact_table/exacttable/ComparatorFlippedPinLaw", "pick", "(I)Lcom/example/exact_table/exacttable/Condition$Comparator;"⟩ : MethodName)) hown (mvT hZ (hw _ (List.mem_of_getElem? (i := 0) rfl))) (mvT hZ (hw _ (List.mem_of_getElem? (i := 1) rfl))) (mvT hZ (hw _ (List.mem_of_getElem? (i := 2) rfl))) (mvT hZ (hw _ (List.mem_of_getElem? (i := 3) rfl))) (by decide) (backOf (W := 0) (rm1_1 l Z a0 hw [] p1 vEQUAL vNOT_EQUAL vLESS vLESS_OR_EQUAL vGREATER vGREATER_OR_EQUAL h0 n0 Z0 S_Condition_Comparator_EQUAL S_Condition_Comparator_NOT_EQUAL S_Condition_Comparator_LESS S_Condition_Comparator_LESS_OR_EQUAL S_Condition_Comparator_GREATER S_Condition_Comparator_GREATER_OR_EQUAL hk4) hZ (hw _ (List.mem_of_getElem? (i := 3) rfl)) (hw _ (List.mem_of_getElem? (i := 2) rfl)) (by decide) (by decide)) (g := (mkF m 1 #[.val (.int p1), .val (.int p2), .val (.int p3), .unset, .unset, .unset] [(.int p1)])) rfl (by rw [hml]; rfl) (argsL := [(.int p1)]) (rest := []) (lenOf pd_1 rfl) rfl (by show 2 * 0 + _ ≤ _; exact Nat.le_of_eq rfl) (hb hby at_1) (fun _ _ => ⟨rfl, e0, (by decide : 0 + 0 ≤ _), (by decide : 0 + 0 ≤ _)⟩)
    dsimp only [Pt.U, Pt.locs, Pt.cells, Pt.slots] at X18 l18 y18 z18 st18 hQ18
    subst l18 y18 z18
    obtain ⟨rfl, N18q, e18q⟩ := hQ18
    have N18 := Fr.app N0 N18q
    obtain ⟨Lg18, Xg18, Ng18⟩ := Stand_gen X18 N18
    refine Run.go st18 ?_
    show Run p e below s 0 0 (Q_rm0 Z p1 p2 p3 vEQUAL vNOT_EQUAL vLESS vLESS_OR_EQUAL vGREATER vGREATER_OR_EQUAL h0 n0) (T18.setTop (mkF m 4 #[.val (.int p1), .val (.int p2), .val (.int p3), .unset, .unset, .unset] [(.ref vNOT_EQUAL)]))
    refine Run.go (fun _ k => XS.astoreN Xg18.here hx rfl (hb hby at_4) rfl rfl (l' := #[.val (.int p1), .val (.int p2), .val (.int p3), .val (.ref vNOT_EQUAL), .unset, .unset]) rfl k) ?_
    show Run p e below s 0 0 (Q_rm0 Z p1 p2 p3 vEQUAL vNOT_EQUAL vLESS vLESS_OR_EQUAL vGREATER vGREATER_OR_EQUAL h0 n0) (T18.setTop (mkF m 5 #[.val (.int p1), .val (.int p2), .val (.int p3), .val (.ref vNOT_EQUAL), .unset, .unset] []))
    refine Run.go (fun _ k => XS.aloadN Xg18.here hx rfl (hb hby at_5) rfl rfl k) ?_
    show Run p e below s 0 0 (Q_rm0 Z p1 p2 p3 vEQUAL vNOT_EQUAL vLESS vLESS_OR_EQUAL vGREATER vGREATER_OR_EQUAL h0 n0) (T18.setTop (mkF m 6 #[.val (.int p1), .val (.int p2), .val (.int p3), .val (.ref vNOT_EQUAL), .unset, .unset] [(.ref vNOT_EQUAL)]))
    obtain ⟨cq19, kq19, q19a, q19b, q19c⟩ := isOf hZ e18q E_vNOT_EQUAL
    obtain ⟨_, _, ⟨T19, L19, k19, n19⟩, -, X19, ⟨Lc19, hQ19, l19, y19, z19⟩, st19⟩ := Xg18.virtualBack hx (y := (⟨"com/example/exact_table/exacttable/Condition$Comparator", "flipped", "()Lcom/example/exact_table/exacttable/Condition$Comparator;"⟩ : MethodName)) (z := (⟨"com/example/exact_table/exacttable/Condition$Comparator", "flipped", "()Lcom/example/exact_table/exacttable/Condition$Comparator;"⟩ : MethodName)) hown (mvT hZ (hw _ (List.mem_of_getElem? (i := 8) rfl))) (mvT hZ (hw _ (List.mem_of_getElem? (i := 9) rfl))) (notFace_of_selects (args := #[]) (mvT hZ (hw _ (List.mem_of_getElem? (i := 11) rfl)))) (mvT hZ (hw _ (List.mem_of_getElem? (i := 11) rfl))) (mvT hZ (hw _ (List.mem_of_getElem? (i := 10) rfl))) (by decide) (backOf (W := 0) (rm2_1 l Z a0 hw [] vNOT_EQUAL vEQUAL vLESS vLESS_OR_EQUAL vGREATER vGREATER_OR_EQUAL h0 n0 Z0 S_Condition_Comparator_EQUAL S_Condition_Comparator_NOT_EQUAL S_Condition_Comparator_LESS S_Condition_Comparator_LESS_OR_EQUAL S_Condition_Comparator_GREATER S_Condition_Comparator_GREATER_OR_EQUAL F_ordinal_vNOT_EQUAL E_vNOT_EQUAL) hZ (hw _ (List.mem_of_getElem? (i := 12) rfl)) (hw _ (List.mem_of_getElem? (i := 6) rfl)) (by decide) (by decide)) q19a q19c (g := (mkF m 6 #[.val (.int p1), .val (.int p2), .val (.int p3), .val (.ref vNOT_EQUAL), .unset, .unset] [(.ref vNOT_EQUAL)])) rfl (by rw [hml]; rfl) (Steps.refl _) (argsL := []) (rest := []) (lenOf pd_2 rfl) rfl (by show 2 * 0 + _ ≤ _; exact Nat.le_of_eq rfl) (hb hby at_6) (fun _ _ => ⟨rfl, e18q, (by decide : 0 + 0 ≤ _), (by decide : 0 + 0 ≤ _)⟩)
    dsimp only [Pt.U, Pt.locs, Pt.cells, Pt.slots] at X19 l19 y19 z19 st19 hQ19
    subst l19 y19 z19
    obtain ⟨rfl, N19q, e19q⟩ := hQ19
    have N19 := Fr.app Ng18 N19q
    obtain ⟨Lg19, Xg19, Ng19⟩ := Stand_gen X19 N19
    refine Run.tr st19 ?_
    show Run p e below s 0 0 (Q_rm0 Z p1 p2 p3 vEQUAL vNOT_EQUAL vLESS vLESS_OR_EQUAL vGREATER vGREATER_OR_EQUAL h0 n0) (T19.setTop (mkF m 9 #[.val (.int p1), .val (.int p2), .val (.int p3), .val (.ref vNOT_EQUAL), .unset, .unset] [(.ref vNOT_EQUAL)]))
    refine Run.go (fun _ k => XS.astore Xg19.here hx rfl (hb hby at_9) rfl rfl (l' := #[.val (.int p1), .val (.int p2), .val (.int p3), .val (.ref vNOT_EQUAL), .val (.ref vNOT_EQUAL), .unset]) rfl k) ?_
    show Run p e below s 0 0 (Q_rm0 Z p1 p2 p3 vEQUAL vNOT_EQUAL vLESS vLESS_OR_EQUAL vGREATER vGREATER_OR_EQUAL h0 n0) (T19.setTop (mkF m 11 #[.val (.int p1), .val (.int p2), .val (.int p3), .val (.ref vNOT_EQUAL), .val (.ref vNOT_EQUAL), .unset] []))
    refine Run.go (fun _ k => XS.aload Xg19.here hx rfl (hb hby at_11) rfl rfl k) ?_
    show Run p e below s 0 0 (Q_rm0 Z p1 p2 p3 vEQUAL vNOT_EQUAL vLESS vLESS_OR_EQUAL vGREATER vGREATER_OR_EQUAL h0 n0) (T19.setTop (mkF m 13 #[.val (.int p1), .val (.int p2), .val (.int p3), .val (.ref vNOT_EQUAL), .val (.ref vNOT_EQUAL), .unset] [(.ref vNOT_EQUAL)]))
    refine Run.go (fun _ k => XS.ifnonnullYes Xg19.here hx rfl (pc0 := 13) (pc' := 18) rfl (hb hby at_13) rfl (by decide) (by decide) k) ?_
    show Run p e below s 0 0 (Q_rm0 Z p1 p2 p3 vEQUAL vNOT_EQUAL vLESS vLESS_OR_EQUAL vGREATER vGREATER_OR_EQUAL h0 n0) (T19.setTop (mkF m 18 #[.val (.int p1), .val (.int p2), .val (.int p3), .val (.ref vNOT_EQUAL), .val (.ref vNOT_EQUAL), .unset] []))
    refine Run.go (fun _ k => XS.aload Xg19.here hx rfl (hb hby at_18) rfl rfl k) ?_
    show Run p e below s 0 0 (Q_rm0 Z p1 p2 p3 vEQUAL vNOT_EQUAL vLESS vLESS_OR_EQUAL vGREATER vGREATER_OR_EQUAL h0 n0) (T19.setTop (mkF m 20 #[.val (.int p1), .val (.int p2), .val (.int p3), .val (.ref vNOT_EQUAL), .val (.ref vNOT_EQUAL), .unset] [(.ref vNOT_EQUAL)]))
    refine Run.go (fun _ k => XS.iconst Xg19.here hx rfl (hb hby at_20) k) ?_
    show Run p e below s 0 0 (Q_rm0 Z p1 p2 p3 vEQUAL vNOT_EQUAL vLESS vLESS_OR_EQUAL vGREATER vGREATER_OR_EQUAL h0 n0) (T19.setTop (mkF m 21 #[.val (.int p1), .val (.int p2), .val (.int p3), .val (.ref vNOT_EQUAL), .val (.ref vNOT_EQUAL), .unset] [(.int (0 : Int32)), (.ref vNOT_EQUAL)]))
    obtain ⟨_, _, ⟨T20, L20, k20, n20⟩, -, X20, ⟨Lc20, hQ20, l20, y20, z20⟩, st20⟩ := Jvm.LawKit.callS Xg19 hx (y := (⟨"com/example/exact_table/exacttable/ComparatorFlippedPinLaw", "holds", "(Lcom/example/exact_table/exacttable/Condition$Comparator;I)Z"⟩ : MethodName)) hown (mvT hZ (hw _ (List.mem_of_getElem? (i := 22) rfl))) (mvT hZ (hw _ (List.mem_of_getElem? (i := 23) rfl))) (mvT hZ (hw _ (List.mem_of_getElem? (i := 2) rfl))) (mvT hZ (hw _ (List.mem_of_getElem? (i := 24) rfl))) (by decide) (backOf (W := 0) (rm4_1 l Z a0 hw [] vNOT_EQUAL (0 : Int32) vEQUAL vLESS vLESS_OR_EQUAL vGREATER vGREATER_OR_EQUAL h0 n0 Z0 S_Condition_Comparator_EQUAL S_Condition_Comparator_NOT_EQUAL S_Condition_Comparator_LESS S_Condition_Comparator_LESS_OR_EQUAL S_Condition_Comparator_GREATER S_Condition_Comparator_GREATER_OR_EQUAL ne_vEQUAL_vNOT_EQUAL ne_vEQUAL_vLESS ne_vEQUAL_vLESS_OR_EQUAL ne_vEQUAL_vGREATER ne_vEQUAL_vGREATER_OR_EQUAL ne_vNOT_EQUAL_vLESS ne_vNOT_EQUAL_vLESS_OR_EQUAL ne_vNOT_EQUAL_vGREATER ne_vNOT_EQUAL_vGREATER_OR_EQUAL ne_vLESS_vLESS_OR_EQUAL ne_vLESS_vGREATER ne_vLESS_vGREATER_OR_EQUAL ne_vLESS_OR_EQUAL_vGREATER ne_vLESS_OR_EQUAL_vGREATER_OR_EQUAL ne_vGREATER_vGREATER_OR_EQUAL) hZ (hw _ (List.mem_of_getElem? (i := 24) rfl)) (hw _ (List.mem_of_getElem? (i := 2) rfl)) (by decide) (by decide)) (g := (mkF m 21 #[.val (.int p1), .val (.int p2), .val (.int p3), .val (.ref vNOT_EQUAL), .val (.ref vNOT_EQUAL), .unset] [(.int (0 : Int32)), (.ref vNOT_EQUAL)])) rfl (by rw [hml]; rfl) (argsL := [(.ref vNOT_EQUAL), (.int (0 : Int32))]) (rest := []) (lenOf pd_3 rfl) rfl (by show 2 * 0 + _ ≤ _; exact Nat.le_of_eq rfl) (hb hby at_21) (fun _ _ => ⟨rfl, e19q, (by decide : 0 + 0 ≤ _), (by decide : 0 + 0 ≤ _)⟩)
    dsimp only [Pt.U, Pt.locs, Pt.cells, Pt.slots] at X20 l20 y20 z20 st20 hQ20
    subst l20 y20 z20
    obtain ⟨rfl, N20q, e20q⟩ := hQ20
    have N20 := Fr.app Ng19 N20q
    obtain ⟨Lg20, Xg20, Ng20⟩ := Stand_gen X20 N20
    refine Run.go st20 ?_
    show Run p e below s 0 0 (Q_rm0 Z p1 p2 p3 vEQUAL vNOT_EQUAL vLESS vLESS_OR_EQUAL vGREATER vGREATER_OR_EQUAL h0 n0) (T20.setTop (mkF m 24 #[.val (.int p1), .val (.int p2), .val (.int p3), .val (.ref vNOT_EQUAL), .val (.ref vNOT_EQUAL), .unset] [(.int (F_rm4_1 (0 : Int32)))]))
    refine Run.go (fun _ k => XS.aloadN Xg20.here hx rfl (hb hby at_24) rfl rfl k) ?_
    show Run p e below s 0 0 (Q_rm0 Z p1 p2 p3 vEQUAL vNOT_EQUAL vLESS vLESS_OR_EQUAL vGREATER vGREATER_OR_EQUAL h0 n0) (T20.setTop (mkF m 25 #[.val (.int p1), .val (.int p2), .val (.int p3), .val (.ref vNOT_EQUAL), .val (.ref vNOT_EQUAL), .unset] [(.ref vNOT_EQUAL), (.int (F_rm4_1 (0 : Int32)))]))
    refine Run.go (fun _ k => XS.iconst Xg20.here hx rfl (hb hby at_25) k) ?_
    show Run p e below s 0 0 (Q_rm0 Z p1 p2 p3 vEQUAL vNOT_EQUAL vLESS vLESS_OR_EQUAL vGREATER vGREATER_OR_EQUAL h0 n0) (T20.setTop (mkF m 26 #[.val (.int p1), .val (.int p2), .val (.int p3), .val (.ref vNOT_EQUAL), .val (.ref vNOT_EQUAL), .unset] [(.int (0 : Int32)), (.ref vNOT_EQUAL), (.int (F_rm4_1 (0 : Int32)))]))
    obtain ⟨_, _, ⟨T21, L21, k21, n21⟩, -, X21, ⟨Lc21, hQ21, l21, y21, z21⟩, st21⟩ := Jvm.LawKit.callS Xg20 hx (y := (⟨"com/example/exact_table/exacttable/ComparatorFlippedPinLaw", "holds", "(Lcom/example/exact_table/exacttable/Condition$Comparator;I)Z"⟩ : MethodName)) hown (mvT hZ (hw _ (List.mem_of_getElem? (i := 22) rfl))) (mvT hZ (hw _ (List.mem_of_getElem? (i := 23) rfl))) (mvT hZ (hw _ (List.mem_of_getElem? (i := 2) rfl))) (mvT hZ (hw _ (List.mem_of_getElem? (i := 24) rfl))) (by decide) (backOf (W := 1) (rm4_1 l Z a0 hw [] vNOT_EQUAL (0 : Int32) vEQUAL vLESS vLESS_OR_EQUAL vGREATER vGREATER_OR_EQUAL h0 n0 Z0 S_Condition_Comparator_EQUAL S_Condition_Comparator_NOT_EQUAL S_Condition_Comparator_LESS S_Condition_Comparator_LESS_OR_EQUAL S_Condition_Comparator_GREATER S_Condition_Comparator_GREATER_OR_EQUAL ne_vEQUAL_vNOT_EQUAL ne_vEQUAL_vLESS ne_vEQUAL_vLESS_OR_EQUAL ne_vEQUAL_vGREATER ne_vEQUAL_vGREATER_OR_EQUAL ne_vNOT_EQUAL_vLESS ne_vNOT_EQUAL_vLESS_OR_EQUAL ne_vNOT_EQUAL_vGREATER ne_vNOT_EQUAL_vGREATER_OR_EQUAL ne_vLESS_vLESS_OR_EQUAL ne_vLESS_vGREATER ne_vLESS_vGREATER_OR_EQUAL ne_vLESS_OR_EQUAL_vGREATER ne_vLESS_OR_EQUAL_vGREATER_OR_EQUAL ne_vGREATER_vGREATER_OR_EQUAL) hZ (hw _ (List.mem_of_getElem? (i := 24) rfl)) (hw _ (List.mem_of_getElem? (i := 2) rfl)) (by decide) (by decide)) (g := (mkF m 26 #[.val (.int p1), .val (.int p2), .val (.int p3), .val (.ref vNOT_EQUAL), .val (.ref vNOT_EQUAL), .unset] [(.int (0 : Int32)), (.ref vNOT_EQUAL), (.int (F_rm4_1 (0 : Int32)))])) rfl (by rw [hml]; rfl) (argsL := [(.ref vNOT_EQUAL), (.int (0 : Int32))]) (rest := [(.int (F_rm4_1 (0 : Int32)))]) (lenOf pd_3 rfl) rfl (by show 2 * 0 + _ ≤ _; exact Nat.le_of_eq rfl) (hb hby at_26) (fun _ _ => ⟨rfl, e20q, (by decide : 0 + 0 ≤ _), (by decide : 0 + 0 ≤ _)⟩)
    dsimp only [Pt.U, Pt.locs, Pt.cells, Pt.slots] at X21 l21 y21 z21 st21 hQ21
    subst l21 y21 z21
    obtain ⟨rfl, N21q, e21q⟩ := hQ21
    have N21 := Fr.app Ng20 N21q
    obtain ⟨Lg21, Xg21, Ng21⟩ := Stand_gen X21 N21
    refine Run.go st21 ?_
    show Run p e below s 0 0 (Q_rm0 Z p1 p2 p3 vEQUAL vNOT_EQUAL vLESS vLESS_OR_EQUAL vGREATER vGREATER_OR_EQUAL h0 n0) (T21.setTop (mkF m 29 #[.val (.int p1), .val (.int p2), .val (.int p3), .val (.ref vNOT_EQUAL), .val (.ref vNOT_EQUAL), .unset] [(.int (F_rm4_1 (0 : Int32))), (.int (F_rm4_1 (0 : Int32)))]))
    refine Run.go (fun _ k => XS.icmpNo Xg21.here hx rfl (hb hby at_29) rfl (teq (rfl : (F_rm4_1 (0 : Int32)) = (F_rm4_1 (0 : Int32)))).2 k) ?_
    show Run p e below s 0 0 (Q_rm0 Z p1 p2 p3 vEQUAL vNOT_EQUAL vLESS vLESS_OR_EQUAL vGREATER vGREATER_OR_EQUAL h0 n0) (T21.setTop (mkF m 32 #[.val (.int p1), .val (.int p2), .val (.int p3), .val (.ref vNOT_EQUAL), .val (.ref vNOT_EQUAL), .unset] []))
    refine Run.go (fun _ k => XS.aload Xg21.here hx rfl (hb hby at_32) rfl rfl k) ?_
    show Run p e below s 0 0 (Q_rm0 Z p1 p2 p3 vEQUAL vNOT_EQUAL vLESS vLESS_OR_EQUAL vGREATER vGREATER_OR_EQUAL h0 n0) (T21.setTop (mkF m 34 #[.val (.int p1), .val (.int p2), .val (.int p3), .val (.ref vNOT_EQUAL), .val (.ref vNOT_EQUAL), .unset] [(.ref vNOT_EQUAL)]))
    refine Run.go (fun _ k => XS.iconst Xg21.here hx rfl (hb hby at_34) k) ?_
    show Run p e below s 0 0 (Q_rm0 Z p1 p2 p3 vEQUAL vNOT_EQUAL vLESS vLESS_OR_EQUAL vGREATER vGREATER_OR_EQUAL h0 n0) (T21.setTop (mkF m 35 #[.val (.int p1), .val (.int p2), .val (.int p3), .val (.ref vNOT_EQUAL), .val (.ref vNOT_EQUAL), .unset] [(.int (1 : Int32)), (.ref vNOT_EQUAL)]))
    obtain ⟨_, _, ⟨T22, L22, k22, n22⟩, -, X22, ⟨Lc22, hQ22, l22, y22, z22⟩, st22⟩ := Jvm.LawKit.callS Xg21 hx (y := (⟨"com/example/exact_table/exacttable/ComparatorFlippedPinLaw", "holds", "(Lcom/example/exact_table/exacttable/Condition$Comparator;I)Z"⟩ : MethodName)) hown (mvT hZ (hw _ (List.mem_of_getElem? (i := 22) rfl))) (mvT hZ (hw _ (List.mem_of_getElem? (i := 23) rfl))) (mvT hZ (hw _ (List.mem_of_getElem? (i := 2) rfl))) (mvT hZ (hw _ (List.mem_of_getElem? (i := 24) rfl))) (by decide) (backOf (W := 0) (rm4_1 l Z a0 hw [] vNOT_EQUAL (1 : Int32) vEQUAL vLESS vLESS_OR_EQUAL vGREATER vGREATER_OR_EQUAL h0 n0 Z0 S_Condition_Comparator_EQUAL S_Condition_Comparator_NOT_EQUAL S_Condition_Comparator_LESS S_Condition_Comparator_LESS_OR_EQUAL S_Condition_Comparator_GREATER S_Condition_Comparator_GREATER_OR_EQUAL ne_vEQUAL_vNOT_EQUAL ne_vEQUAL_vLESS ne_vEQUAL_vLESS_OR_EQUAL ne_vEQUAL_vGREATER ne_vEQUAL_vGREATER_OR_EQUAL ne_vNOT_EQUAL_vLESS ne_vNOT_EQUAL_vLESS_OR_EQUAL ne_vNOT_EQUAL_vGREATER ne_vNOT_EQUAL_vGREATER_OR_EQUAL ne_vLESS_vLESS_OR_EQUAL ne_vLESS_vGREATER ne_vLESS_vGREATER_OR_EQUAL ne_vLESS_OR_EQUAL_vGREATER ne_vLESS_OR_EQUAL_vGREATER_OR_EQUAL ne_vGREATER_vGREATER_OR_EQUAL) hZ (hw _ (List.mem_of_getElem? (i := 24) rfl)) (hw _ (List.mem_of_getElem? (i := 2) rfl)) (by decide) (by decide)) (g := (mkF m 35 #[.val (.int p1), .val (.int p2), .val (.int p3), .val (.ref vNOT_EQUAL), .val (.ref vNOT_EQUAL), .unset] [(.int (1 : Int32)), (.ref vNOT_EQUAL)])) rfl (by rw [hml]; rfl) (argsL := [(.ref vNOT_EQUAL), (.int (1 : Int32))]) (rest := []) (lenOf pd_3 rfl) rfl (by show 2 * 0 + _ ≤ _; exact Nat.le_of_eq rfl) (hb hby at_35) (fun _ _ => ⟨rfl, e21q, (by decide : 0 + 0 ≤ _), (by decide : 0 + 0 ≤ _)⟩)
    dsimp only [Pt.U, Pt.locs, Pt.cells, Pt.slots] at X22 l22 y22 z22 st22 hQ22
    subst l22 y22 z22
    obtain ⟨rfl, N22q, e22q⟩ := hQ22
    have N22 := Fr.app Ng21 N22q
    obtain ⟨Lg22, Xg22, Ng22⟩ := Stand_gen X22 N22
    refine Run.go st22 ?_
    show Run p e below s 0 0 (Q_rm0 Z p1 p2 p3 vEQUAL vNOT_EQUAL vLESS vLESS_OR_EQUAL vGREATER vGREATER_OR_EQUAL h0 n0) (T22.setTop (mkF m 38 #[.val (.int p1), .val (.int p2), .val (.int p3), .val (.ref vNOT_EQUAL), .val (.ref vNOT_EQUAL), .unset] [(.int (F_rm4_1 (1 : Int32)))]))
    refine Run.go (fun _ k => XS.aloadN Xg22.here hx rfl (hb hby at_38) rfl rfl k) ?_
    show Run p e below s 0 0 (Q_rm0 Z p1 p2 p3 vEQUAL vNOT_EQUAL vLESS vLESS_OR_EQUAL vGREATER vGREATER_OR_EQUAL h0 n0) (T22.setTop (mkF m 39 #[.val (.int p1), .val (.int p2), .val (.int p3), .val (.ref vNOT_EQUAL), .val (.ref vNOT_EQUAL), .unset] [(.ref vNOT_EQUAL), (.int (F_rm4_1 (1 : Int32)))]))
    refine Run.go (fun _ k => XS.iconst Xg22.here hx rfl (hb hby at_39) k) ?_
    show Run p e below s 0 0 (Q_rm0 Z p1 p2 p3 vEQUAL vNOT_EQUAL vLESS vLESS_OR_EQUAL vGREATER vGREATER_OR_EQUAL h0 n0) (T22.setTop (mkF m 40 #[.val (.int p1), .val (.int p2), .val (.int p3), .val (.ref vNOT_EQUAL), .val (.ref vNOT_EQUAL), .unset] [(.int (-1 : Int32)), (.ref vNOT_EQUAL), (.int (F_rm4_1 (1 : Int32)))]))
    obtain ⟨_, _, ⟨T23, L23, k23, n23⟩, -, X23, ⟨Lc23, hQ23, l23, y23, z23⟩, st23⟩ := Jvm.LawKit.callS Xg22 hx (y := (⟨"com/example/exact_table/exacttable/ComparatorFlippedPinLaw", "holds", "(Lcom/example/exact_table/exacttable/Condition$Comparator;I)Z"⟩ : MethodName)) hown (mvT hZ (hw _ (List.mem_of_getElem? (i := 22) rfl))) (mvT hZ (hw _ (List.mem_of_getElem? (i := 23) rfl))) (mvT hZ (hw _ (List.mem_of_getElem? (i := 2) rfl))) (mvT hZ (hw _ (List.mem_of_getElem? (i := 24) rfl))) (by decide) (backOf (W := 1) (rm4_1 l Z a0 hw [] vNOT_EQUAL (-1 : Int32) vEQUAL vLESS vLESS_OR_EQUAL vGREATER vGREATER_OR_EQUAL h0 n0 Z0 S_Condition_Comparator_EQUAL S_Condition_Comparator_NOT_EQUAL S_Condition_Comparator_LESS S_Condition_Comparator_LESS_OR_EQUAL S_Condition_Comparator_GREATER S_Condition_Comparator_GREATER_OR_EQUAL ne_vEQUAL_vNOT_EQUAL ne_vEQUAL_vLESS ne_vEQUAL_vLESS_OR_EQUAL ne_vEQUAL_vGREATER ne_vEQUAL_vGREATER_OR_EQUAL ne_vNOT_EQUAL_vLESS ne_vNOT_EQUAL_vLESS_OR_EQUAL ne_vNOT_EQUAL_vGREATER ne_vNOT_EQUAL_vGREATER_OR_EQUAL ne_vLESS_vLESS_OR_EQUAL ne_vLESS_vGREATER ne_vLESS_vGREATER_OR_EQUAL ne_vLESS_OR_EQUAL_vGREATER ne_vLESS_OR_EQUAL_vGREATER_OR_EQUAL ne_vGREATER_vGREATER_OR_EQUAL) hZ (hw _ (List.mem_of_getElem? (i := 24) rfl)) (hw _ (List.mem_of_getElem? (i := 2) rfl)) (by decide) (by decide)) (g := (mkF m 40 #[.val (.int p1), .val (.int p2), .val (.int p3), .val (.ref vNOT_EQUAL), .val (.ref vNOT_EQUAL), .unset] [(.int (-1 : Int32)), (.ref vNOT_EQUAL), (.int (F_rm4_1 (1 : Int32)))])) rfl (by rw [hml]; rfl) (argsL := [(.ref vNOT_EQUAL), (.int (-1 : Int32))]) (rest := [(.int (F_rm4_1 (1 : Int32)))]) (lenOf pd_3 rfl) rfl (by show 2 * 0 + _ ≤ _; exact Nat.le_of_eq rfl) (hb hby at_40) (fun _ _ => ⟨rfl, e22q, (by decide : 0 + 0 ≤ _), (by decide : 0 + 0 ≤ _)⟩)
    dsimp only [Pt.U, Pt.locs, Pt.cells, Pt.slots] at X23 l23 y23 z23 st23 hQ23
    subst l23 y23 z23
    obtain ⟨rfl, N23q, e23q⟩ := hQ23
    have N23 := Fr.app Ng22 N23q
    obtain ⟨Lg23, Xg23, Ng23⟩ := Stand_gen X23 N23
    refine Run.go st23 ?_
    show Run p e below s 0 0 (Q_rm0 Z p1 p2 p3 vEQUAL vNOT_EQUAL vLESS vLESS_OR_EQUAL vGREATER vGREATER_OR_EQUAL h0 n0) (T23.setTop (mkF m 43 #[.val (.int p1), .val (.int p2), .val (.int p3), .val (.ref vNOT_EQUAL), .val (.ref vNOT_EQUAL), .unset] [(.int (F_rm4_1 (-1 : Int32))), (.int (F_rm4_1 (1 : Int32)))]))
    refine Run.go (fun _ k => XS.icmpNo Xg23.here hx rfl (hb hby at_43) rfl (teq (by decide)).2 k) ?_
    show Run p e below s 0 0 (Q_rm0 Z p1 p2 p3 vEQUAL vNOT_EQUAL vLESS vLESS_OR_EQUAL vGREATER vGREATER_OR_EQUAL h0 n0) (T23.setTop (mkF m 46 #[.val (.int p1), .val (.int p2), .val (.int p3), .val (.ref vNOT_EQUAL), .val (.ref vNOT_EQUAL), .unset] []))
    refine Run.go (fun _ k => XS.aload Xg23.here hx rfl (hb hby at_46) rfl rfl k) ?_
    show Run p e below s 0 0 (Q_rm0 Z p1 p2 p3 vEQUAL vNOT_EQUAL vLESS vLESS_OR_EQUAL vGREATER vGREATER_OR_EQUAL h0 n0) (T23.setTop (mkF m 48 #[.val (.int p1), .val (.int p2), .val (.int p3), .val (.ref vNOT_EQUAL), .val (.ref vNOT_EQUAL), .unset] [(.ref vNOT_EQUAL)]))
    refine Run.go (fun _ k => XS.iconst Xg23.here hx rfl (hb hby at_48) k) ?_
    show Run p e below s 0 0 (Q_rm0 Z p1 p2 p3 vEQUAL vNOT_EQUAL vLESS vLESS_OR_EQUAL vGREATER vGREATER_OR_EQUAL h0 n0) (T23.setTop (mkF m 49 #[.val (.int p1), .val (.int p2), .val (.int p3), .val (.ref vNOT_EQUAL), .val (.ref vNOT_EQUAL), .unset] [(.int (-1 : Int32)), (.ref vNOT_EQUAL)]))
    obtain ⟨_, _, ⟨T24, L24, k24, n24⟩, -, X24, ⟨Lc24, hQ24, l24, y24, z24⟩, st24⟩ := Jvm.LawKit.callS Xg23 hx (y := (⟨"com/example/exact_table/exacttable/ComparatorFlippedPinLaw", "holds", "(Lcom/example/exact_table/exacttable/Condition$Comparator;I)Z"⟩ : MethodName)) hown (mvT hZ (hw _ (List.mem_of_getElem? (i := 22) rfl))) (mvT hZ (hw _ (List.mem_of_getElem? (i := 23) rfl))) (mvT hZ (hw _ (List.mem_of_getElem? (i := 2) rfl))) (mvT hZ (hw _ (List.mem_of_getElem? (i := 24) rfl))) (by decide) (backOf (W := 0) (rm4_1 l Z a0 hw [] vNOT_EQUAL (-1 : Int32) vEQUAL vLESS vLESS_OR_EQUAL vGREATER vGREATER_OR_EQUAL h0 n0 Z0 S_Condition_Comparator_EQUAL S_Condition_Comparator_NOT_EQUAL S_Condition_Comparator_LESS S_Condition_Comparator_LESS_OR_EQUAL S_Condition_Comparator_GREATER S_Condition_Comparator_GREATER_OR_EQUAL ne_vEQUAL_vNOT_EQUAL ne_vEQUAL_vLESS ne_vEQUAL_vLESS_OR_EQUAL ne_vEQUAL_vGREATER ne_vEQUAL_vGREATER_OR_EQUAL ne_vNOT_EQUAL_vLESS ne_vNOT_EQUAL_vLESS_OR_EQUAL ne_vNOT_EQUAL_vGREATER ne_vNOT_EQUAL_vGREATER_OR_EQUAL ne_vLESS_vLESS_OR_EQUAL ne_vLESS_vGREATER ne_vLESS_vGREATER_OR_EQUAL ne_vLESS_OR_EQUAL_vGREATER ne_vLESS_OR_EQUAL_vGREATER_OR_EQUAL ne_vGREATER_vGREATER_OR_EQUAL) hZ (hw _ (List.mem_of_getElem? (i := 24) rfl)) (hw _ (List.mem_of_getElem? (i := 2) rfl)) (by decide) (by decide)) (g := (mkF m 49 #[.val (.int p1), .val (.int p2), .val (.int p3), .val (.ref vNOT_EQUAL), .val (.ref vNOT_EQUAL), .unset] [(.int (-1 : Int32)), (.ref vNOT_EQUAL)])) rfl (by rw [hml]; rfl) (argsL := [(.ref vNOT_EQUAL), (.int (-1 : Int32))]) (rest := []) (lenOf pd_3 rfl) rfl (by show 2 * 0 + _ ≤ _; exact Nat.le_of_eq rfl) (hb hby at_49) (fun _ _ => ⟨rfl, e23q, (by decide : 0 + 0 ≤ _), (by decide : 0 + 0 ≤ _)⟩)
    dsimp only [Pt.U, Pt.locs, Pt.cells, Pt.slots] at X24 l24 y24 z24 st24 hQ24
    subst l24 y24 z24
    obtain ⟨rfl, N24q, e24q⟩ := hQ24
    have N24 := Fr.app Ng23 N24q
    obtain ⟨Lg24, Xg24, Ng24⟩ := Stand_gen X24 N24
    refine Run.go st24 ?_
    show Run p e below s 0 0 (Q_rm0 Z p1 p2 p3 vEQUAL vNOT_EQUAL vLESS vLESS_OR_EQUAL vGREATER vGREATER_OR_EQUAL h0 n0) (T24.setTop (mkF m 52 #[.val (.int p1), .val (.int p2), .val (.int p3), .val (.ref vNOT_EQUAL), .val (.ref vNOT_EQUAL), .unset] [(.int (F_rm4_1 (-1 : Int32)))]))
    refine Run.go (fun _ k => XS.aloadN Xg24.here hx rfl (hb hby at_52) rfl rfl k) ?_
    show Run p e below s 0 0 (Q_rm0 Z p1 p2 p3 vEQUAL vNOT_EQUAL vLESS vLESS_OR_EQUAL vGREATER vGREATER_OR_EQUAL h0 n0) (T24.setTop (mkF m 53 #[.val (.int p1), .val (.int p2), .val (.int p3), .val (.ref vNOT_EQUAL), .val (.ref vNOT_EQUAL), .unset] [(.ref vNOT_EQUAL), (.int (F_rm4_1 (-1 : Int32)))]))
    refine Run.go (fun _ k => XS.iconst Xg24.here hx rfl (hb hby at_53) k) ?_
    show Run p e below s 0 0 (Q_rm0 Z p1 p2 p3 vEQUAL vNOT_EQUAL vLESS vLESS_OR_EQUAL vGREATER vGREATER_OR_EQUAL h0 n0) (T24.setTop (mkF m 54 #[.val (.int p1), .val (.int p2), .val (.int p3), .val (.ref vNOT_EQUAL), .val (.ref vNOT_EQUAL), .unset] [(.int (1 : Int32)), (.ref vNOT_EQUAL), (.int (F_rm4_1 (-1 : Int32)))]))
    obtain ⟨_, _, ⟨T25, L25, k25, n25⟩, -, X25, ⟨Lc25, hQ25, l25, y25, z25⟩, st25⟩ := Jvm.LawKit.callS Xg24 hx (y := (⟨"com/example/exact_table/exacttable/ComparatorFlippedPinLaw", "holds", "(Lcom/example/exact_table/exacttable/Condition$Comparator;I)Z"⟩ : MethodName)) hown (mvT hZ (hw _ (List.mem_of_getElem? (i := 22) rfl))) (mvT hZ (hw _ (List.mem_of_getElem? (i := 23) rfl))) (mvT hZ (hw _ (List.mem_of_getElem? (i := 2) rfl))) (mvT hZ (hw _ (List.mem_of_getElem? (i := 24) rfl))) (by decide) (backOf (W := 1) (rm4_1 l Z a0 hw [] vNOT_EQUAL (1 : Int32) vEQUAL vLESS vLESS_OR_EQUAL vGREATER vGREATER_OR_EQUAL h0 n0 Z0 S_Condition_Comparator_EQUAL S_Condition_Comparator_NOT_EQUAL S_Condition_Comparator_LESS S_Condition_Comparator_LESS_OR_EQUAL S_Condition_Comparator_GREATER S_Condition_Comparator_GREATER_OR_EQUAL ne_vEQUAL_vNOT_EQUAL ne_vEQUAL_vLESS ne_vEQUAL_vLESS_OR_EQUAL ne_vEQUAL_vGREATER ne_vEQUAL_vGREATER_OR_EQUAL ne_vNOT_EQUAL_vLESS ne_vNOT_EQUAL_vLESS_OR_EQUAL ne_vNOT_EQUAL_vGREATER ne_vNOT_EQUAL_vGREATER_OR_EQUAL ne_vLESS_vLESS_OR_EQUAL ne_vLESS_vGREATER ne_vLESS_vGREATER_OR_EQUAL ne_vLESS_OR_EQUAL_vGREATER ne_vLESS_OR_EQUAL_vGREATER_OR_EQUAL ne_vGREATER_vGREATER_OR_EQUAL) hZ (hw _ (List.mem_of_getElem? (i := 24) rfl)) (hw _ (List.mem_of_getElem? (i := 2) rfl)) (by decide) (by decide)) (g := (mkF m 54 #[.val (.int p1), .val (.int p2), .val (.int p3), .val (.ref vNOT_EQUAL), .val (.ref vNOT_EQUAL), .unset] [(.int (1 : Int32)), (.ref vNOT_EQUAL), (.int (F_rm4_1 (-1 : Int32)))])) rfl (by rw [hml]; rfl) (argsL := [(.ref vNOT_EQUAL), (.int (1 : Int32))]) (rest := [(.int (F_rm4_1 (-1 : Int32)))]) (lenOf pd_3 rfl) rfl (by show 2 * 0 + _ ≤ _; exact Nat.le_of_eq rfl) (hb hby at_54) (fun _ _ => ⟨rfl, e24q, (by decide : 0 + 0 ≤ _), (by decide : 0 + 0 ≤ _)⟩)
    dsimp only [Pt.U, Pt.locs, Pt.cells, Pt.slots] at X25 l25 y25 z25 st25 hQ25
    subst l25 y25 z25
    obtain ⟨rfl, N25q, e25q⟩ := hQ25
    have N25 := Fr.app Ng24 N25q
    obtain ⟨Lg25, Xg25, Ng25⟩ := Stand_gen X25 N25
    refine Run.go st25 ?_
    show Run p e below s 0 0 (Q_rm0 Z p1 p2 p3 vEQUAL vNOT_EQUAL vLESS vLESS_OR_EQUAL vGREATER vGREATER_OR_EQUAL h0 n0) (T25.setTop (mkF m 57 #[.val (.int p1), .val (.int p2), .val (.int p3), .val (.ref vNOT_EQUAL), .val (.ref vNOT_EQUAL), .unset] [(.int (F_rm4_1 (1 : Int32))), (.int (F_rm4_1 (-1 : Int32)))]))
    refine Run.go (fun _ k => XS.icmpNo Xg25.here hx rfl (hb hby at_57) rfl (teq (by decide)).2 k) ?_
    show Run p e below s 0 0 (Q_rm0 Z p1 p2 p3 vEQUAL vNOT_EQUAL vLESS vLESS_OR_EQUAL vGREATER vGREATER_OR_EQUAL h0 n0) (T25.setTop (mkF m 60 #[.val (.int p1), .val (.int p2), .val (.int p3), .val (.ref vNOT_EQUAL), .val (.ref vNOT_EQUAL), .unset] []))
    refine Run.go (fun _ k => XS.iconst Xg25.here hx rfl (hb hby at_60) k) ?_
    show Run p e below s 0 0 (Q_rm0 Z p1 p2 p3 vEQUAL vNOT_EQUAL vLESS vLESS_OR_EQUAL vGREATER vGREATER_OR_EQUAL h0 n0) (T25.setTop (mkF m 61 #[.val (.int p1), .val (.int p2), .val (.int p3), .val (.ref vNOT_EQUAL), .val (.ref vNOT_EQUAL), .unset] [(.int (1 : Int32))]))
    refine Run.go (fun _ k => XS.goto Xg25.here hx rfl (pc0 := 61) (pc' := 65) rfl (hb hby at_61) (by decide) (by decide) k) ?_
    show Run p e below s 0 0 (Q_rm0 Z p1 p2 p3 vEQUAL vNOT_EQUAL vLESS vLESS_OR_EQUAL vGREATER vGREATER_OR_EQUAL h0 n0) (T25.setTop (mkF m 65 #[.val (.int p1), .val (.int p2), .val (.int p3), .val (.ref vNOT_EQUAL), .val (.ref vNOT_EQUAL), .unset] [(.int (1 : Int32))]))
    refine Run.go (fun _ k => XS.istore Xg25.here hx rfl (hb hby at_65) rfl (l' := #[.val (.int p1), .val (.int p2), .val (.int p3), .val (.ref vNOT_EQUAL), .val (.ref vNOT_EQUAL), .val (.int (1 : Int32))]) rfl k) ?_
    show Run p e below s 0 0 (Q_rm0 Z p1 p2 p3 vEQUAL vNOT_EQUAL vLESS vLESS_OR_EQUAL vGREATER vGREATER_OR_EQUAL h0 n0) (T25.setTop (mkF m 67 #[.val (.int p1), .val (.int p2), .val (.int p3), .val (.ref vNOT_EQUAL), .val (.ref vNOT_EQUAL), .val (.int (1 : Int32))] []))
    refine Run.go (fun _ k => XS.iload Xg25.here hx rfl (hb hby at_67) rfl  k) ?_
    show Run p e below s 0 0 (Q_rm0 Z p1 p2 p3 vEQUAL vNOT_EQUAL vLESS vLESS_OR_EQUAL vGREATER vGREATER_OR_EQUAL h0 n0) (T25.setTop (mkF m 69 #[.val (.int p1), .val (.int p2), .val (.int p3), .val (.ref vNOT_EQUAL), .val (.ref vNOT_EQUAL), .val (.int (1 : Int32))] [(.int (1 : Int32))]))
    refine Run.go (fun _ k => XS.ifNo Xg25.here hx rfl (hb hby at_69) rfl ((if0 _ _).trans (feq (by decide)).1) k) ?_
    show Run p e below s 0 0 (Q_rm0 Z p1 p2 p3 vEQUAL vNOT_EQUAL vLESS vLESS_OR_EQUAL vGREATER vGREATER_OR_EQUAL h0 n0) (T25.setTop (mkF m 72 #[.val (.int p1), .val (.int p2), .val (.int p3), .val (.ref vNOT_EQUAL), .val (.ref vNOT_EQUAL), .val (.int (1 : Int32))] []))
    refine Run.go (fun _ k => XS.aload Xg25.here hx rfl (hb hby at_72) rfl rfl k) ?_
    show Run p e below s 0 0 (Q_rm0 Z p1 p2 p3 vEQUAL vNOT_EQUAL vLESS vLESS_OR_EQUAL vGREATER vGREATER_OR_EQUAL h0 n0) (T25.setTop (mkF m 74 #[.val (.int p1), .val (.int p2), .val (.int p3), .val (.ref vNOT_EQUAL), .val (.ref vNOT_EQUAL), .val (.int (1 : Int32))] [(.ref vNOT_EQUAL)]))
    refine Run.go (fun _ k => XS.iloadN Xg25.here hx rfl (hb hby at_74) rfl  k) ?_
    show Run p e below s 0 0 (Q_rm0 Z p1 p2 p3 vEQUAL vNOT_EQUAL vLESS vLESS_OR_EQUAL vGREATER vGREATER_OR_EQUAL h0 n0) (T25.setTop (mkF m 75 #[.val (.int p1), .val (.int p2), .val (.int p3), .val (.ref vNOT_EQUAL), .val (.ref vNOT_EQUAL), .val (.int (1 : Int32))] [(.int p3), (.ref vNOT_EQUAL)]))
    refine Run.go (fun _ k => XS.iloadN Xg25.here hx rfl (hb hby at_75) rfl  k) ?_
    show Run p e below s 0 0 (Q_rm0 Z p1 p2 p3 vEQUAL vNOT_EQUAL vLESS vLESS_OR_EQUAL vGREATER vGREATER_OR_EQUAL h0 n0) (T25.setTop (mkF m 76 #[.val (.int p1), .val (.int p2), .val (.int p3), .val (.ref vNOT_EQUAL), .val (.ref vNOT_EQUAL), .val (.int (1 : Int32))] [(.int p2), (.int p3), (.ref vNOT_EQUAL)]))
    obtain ⟨_, _, ⟨T26, L26, k26, n26⟩, -, X26, ⟨Lc26, hQ26, l26, y26, z26⟩, st26⟩ := Jvm.LawKit.callS Xg25 hx (y := (⟨"com/example/exact_table/exacttable/ComparatorFlippedPinLaw", "sign", "(II)I"⟩ : MethodName)) hown (mvT hZ (hw _ (List.mem_of_getElem? (i := 25) rfl))) (mvT hZ (hw _ (List.mem_of_getElem? (i := 26) rfl))) (mvT hZ (hw _ (List.mem_of_getElem? (i := 2) rfl))) (mvT hZ (hw _ (List.mem_of_getElem? (i := 27) rfl))) (by decide) (backOf (W := 1) (rm5 l Z a0 hw [] p3 p2 h0 n0 Z0 ) hZ (hw _ (List.mem_of_getElem? (i := 27) rfl)) (hw _ (List.mem_of_getElem? (i := 2) rfl)) (by decide) (by decide)) (g := (mkF m 76 #[.val (.int p1), .val (.int p2), .val (.int p3), .val (.ref vNOT_EQUAL), .val (.ref vNOT_EQUAL), .val (.int (1 : Int32))] [(.int p2), (.int p3), (.ref vNOT_EQUAL)])) rfl (by rw [hml]; rfl) (argsL := [(.int p3), (.int p2)]) (rest := [(.ref vNOT_EQUAL)]) (lenOf pd_4 rfl) rfl (by show 2 * 0 + _ ≤ _; exact Nat.le_of_eq rfl) (hb hby at_76) (fun _ _ => ⟨rfl, e25q, (by decide : 0 + 0 ≤ _), (by decide : 0 + 0 ≤ _)⟩)
    dsimp only [Pt.U, Pt.locs, Pt.cells, Pt.slots] at X26 l26 y26 z26 st26 hQ26
    subst l26 y26 z26
    obtain ⟨rfl, N26q, e26q⟩ := hQ26
    have N26 := Fr.app Ng25 N26q
    obtain ⟨Lg26, Xg26, Ng26⟩ := Stand_gen X26 N26
    refine Run.go st26 ?_
    show Run p e below s 0 0 (Q_rm0 Z p1 p2 p3 vEQUAL vNOT_EQUAL vLESS vLESS_OR_EQUAL vGREATER vGREATER_OR_EQUAL h0 n0) (T26.setTop (mkF m 79 #[.val (.int p1), .val (.int p2), .val (.int p3), .val (.ref vNOT_EQUAL), .val (.ref vNOT_EQUAL), .val (.int (1 : Int32))] [(.int (F_rm5 p3 p2)), (.ref vNOT_EQUAL)]))
    obtain ⟨_, _, ⟨T27, L27, k27, n27⟩, -, X27, ⟨Lc27, hQ27, l27, y27, z27⟩, st27⟩ := Jvm.LawKit.callS Xg26 hx (y := (⟨"com/example/exact_table/exacttable/ComparatorFlippedPinLaw", "holds", "(Lcom/example/exact_table/exacttable/Condition$Comparator;I)Z"⟩ : MethodName)) hown (mvT hZ (hw _ (List.mem_of_getElem? (i := 22) rfl))) (mvT hZ (hw _ (List.mem_of_getElem? (i := 23) rfl))) (mvT hZ (hw _ (List.mem_of_getElem? (i := 2) rfl))) (mvT hZ (hw _ (List.mem_of_getElem? (i := 24) rfl))) (by decide) (backOf (W := 0) (rm4_1 l Z a0 hw [] vNOT_EQUAL (F_rm5 p3 p2) vEQUAL vLESS vLESS_OR_EQUAL vGREATER vGREATER_OR_EQUAL h0 n0 Z0 S_Condition_Comparator_EQUAL S_Condition_Comparator_NOT_EQUAL S_Condition_Comparator_LESS S_Condition_Comparator_LESS_OR_EQUAL S_Condition_Comparator_GREATER S_Condition_Comparator_GREATER_OR_EQUAL ne_vEQUAL_vNOT_EQUAL ne_vEQUAL_vLESS ne_vEQUAL_vLESS_OR_EQUAL ne_vEQUAL_vGREATER ne_vEQUAL_vGREATER_OR_EQUAL ne_vNOT_EQUAL_vLESS ne_vNOT_EQUAL_vLESS_OR_EQUAL ne_vNOT_EQUAL_vGREATER ne_vNOT_EQUAL_vGREATER_OR_EQUAL ne_vLESS_vLESS_OR_EQUAL ne_vLESS_vGREATER ne_vLESS_vGREATER_OR_EQUAL ne_vLESS_OR_EQUAL_vGREATER ne_vLESS_OR_EQUAL_vGREATER_OR_EQUAL ne_vGREATER_vGREATER_OR_EQUAL) hZ (hw _ (List.mem_of_getElem? (i := 24) rfl)) (hw _ (List.mem_of_getElem? (i := 2) rfl)) (by decide) (by decide)) (g := (mkF m 79 #[.val (.int p1), .val (.int p2), .val (.int p3), .val (.ref vNOT_EQUAL), .val (.ref vNOT_EQUAL), .val (.int (1 : Int32))] [(.int (F_rm5 p3 p2)), (.ref vNOT_EQUAL)])) rfl (by rw [hml]; rfl) (argsL := [(.ref vNOT_EQUAL), (.int (F_rm5 p3 p2))]) (rest := []) (lenOf pd_3 rfl) rfl (by show 2 * 0 + _ ≤ _; exact Nat.le_of_eq rfl) (hb hby at_79) (fun _ _ => ⟨rfl, e26q, (by decide : 0 + 0 ≤ _), (by decide : 0 + 0 ≤ _)⟩)
    dsimp only [Pt.U, Pt.locs, Pt.cells, Pt.slots] at X27 l27 y27 z27 st27 hQ27
    subst l27 y27 z27
    obtain ⟨rfl, N27q, e27q⟩ := hQ27
    have N27 := Fr.app Ng26 N27q
    obtain ⟨Lg27, Xg27, Ng27⟩ := Stand_gen X27 N27
    refine Run.go st27 ?_
    show Run p e below s 0 0 (Q_rm0 Z p1 p2 p3 vEQUAL vNOT_EQUAL vLESS vLESS_OR_EQUAL vGREATER vGREATER_OR_EQUAL h0 n0) (T27.setTop (mkF m 82 #[.val (.int p1), .val (.int p2), .val (.int p3), .val (.ref vNOT_EQUAL), .val (.ref vNOT_EQUAL), .val (.int (1 : Int32))] [(.int (F_rm4_1 (F_rm5 p3 p2)))]))
    refine Run.go (fun _ k => XS.aloadN Xg27.here hx rfl (hb hby at_82) rfl rfl k) ?_
    show Run p e below s 0 0 (Q_rm0 Z p1 p2 p3 vEQUAL vNOT_EQUAL vLESS vLESS_OR_EQUAL vGREATER vGREATER_OR_EQUAL h0 n0) (T27.setTop (mkF m 83 #[.val (.int p1), .val (.int p2), .val (.int p3), .val (.ref vNOT_EQUAL), .val (.ref vNOT_EQUAL), .val (.int (1 : Int32))] [(.ref vNOT_EQUAL), (.int (F_rm4_1 (F_rm5 p3 p2)))]))
    refine Run.go (fun _ k => XS.iloadN Xg27.here hx rfl (hb hby at_83) rfl  k) ?_
    show Run p e below s 0 0 (Q_rm0 Z p1 p2 p3 vEQUAL vNOT_EQUAL vLESS vLESS_OR_EQUAL vGREATER vGREATER_OR_EQUAL h0 n0) (T27.setTop (mkF m 84 #[.val (.int p1), .val (.int p2), .val (.int p3), .val (.ref vNOT_EQUAL), .val (.ref vNOT_EQUAL), .val (.int (1 : Int32))] [(.int p2), (.ref vNOT_EQUAL), (.int (F_rm4_1 (F_rm5 p3 p2)))]))
    refine Run.go (fun _ k => XS.iloadN Xg27.here hx rfl (hb hby at_84) rfl  k) ?_
    show Run p e below s 0 0 (Q_rm0 Z p1 p2 p3 vEQUAL vNOT_EQUAL vLESS vLESS_OR_EQUAL vGREATER vGREATER_OR_EQUAL h0 n0) (T27.setTop (mkF m 85 #[.val (.int p1), .val (.int p2), .val (.int p3), .val (.ref vNOT_EQUAL), .val (.ref vNOT_EQUAL), .val (.int (1 : Int32))] [(.int p3), (.int p2), (.ref vNOT_EQUAL), (.int (F_rm4_1 (F_rm5 p3 p2)))]))
    obtain ⟨_, _, ⟨T28, L28, k28, n28⟩, -, X28, ⟨Lc28, hQ28, l28, y28, z28⟩, st28⟩ := Jvm.LawKit.callS Xg27 hx (y := (⟨"com/example/exact_table/exacttable/ComparatorFlippedPinLaw", "sign", "(II)I"⟩ : MethodName)) hown (mvT hZ (hw _ (List.mem_of_getElem? (i := 25) rfl))) (mvT hZ (hw _ (List.mem_of_getElem? (i := 26) rfl))) (mvT hZ (hw _ (List.mem_of_getElem? (i := 2) rfl))) (mvT hZ (hw _ (List.mem_of_getElem? (i := 27) rfl))) (by decide) (backOf (W := 2) (rm5 l Z a0 hw [] p2 p3 h0 n0 Z0 ) hZ (hw _ (List.mem_of_getElem? (i := 27) rfl)) (hw _ (List.mem_of_getElem? (i := 2) rfl)) (by decide) (by decide)) (g := (mkF m 85 #[.val (.int p1), .val (.int p2), .val (.int p3), .val (.ref vNOT_EQUAL), .val (.ref vNOT_EQUAL), .val (.int (1 : Int32))] [(.int p3), (.int p2), (.ref vNOT_EQUAL), (.int (F_rm4_1 (F_rm5 p3 p2)))])) rfl (by rw [hml]; rfl) (argsL := [(.int p2), (.int p3)]) (rest := [(.ref vNOT_EQUAL), (.int (F_rm4_1 (F_rm5 p3 p2)))]) (lenOf pd_4 rfl) rfl (by show 2 * 0 + _ ≤ _; exact Nat.le_of_eq rfl) (hb hby at_85) (fun _ _ => ⟨rfl, e27q, (by decide : 0 + 0 ≤ _), (by decide : 0 + 0 ≤ _)⟩)
    dsimp only [Pt.U, Pt.locs, Pt.cells, Pt.slots] at X28 l28 y28 z28 st28 hQ28
    subst l28 y28 z28
    obtain ⟨rfl, N28q, e28q⟩ := hQ28
    have N28 := Fr.app Ng27 N28q
    obtain ⟨Lg28, Xg28, Ng28⟩ := Stand_gen X28 N28
    refine Run.go st28 ?_
    show Run p e below s 0 0 (Q_rm0 Z p1 p2 p3 vEQUAL vNOT_EQUAL vLESS vLESS_OR_EQUAL vGREATER vGREATER_OR_EQUAL h0 n0) (T28.setTop (mkF m 88 #[.val (.int p1), .val (.int p2), .val (.int p3), .val (.ref vNOT_EQUAL), .val (.ref vNOT_EQUAL), .val (.int (1 : Int32))] [(.int (F_rm5 p2 p3)), (.ref vNOT_EQUAL), (.int (F_rm4_1 (F_rm5 p3 p2)))]))
    obtain ⟨_, _, ⟨T29, L29, k29, n29⟩, -, X29, ⟨Lc29, hQ29, l29, y29, z29⟩, st29⟩ := Jvm.LawKit.callS Xg28 hx (y := (⟨"com/example/exact_table/exacttable/ComparatorFlippedPinLaw", "holds", "(Lcom/example/exact_table/exacttable/Condition$Comparator;I)Z"⟩ : MethodName)) hown (mvT hZ (hw _ (List.mem_of_getElem? (i := 22) rfl))) (mvT hZ (hw _ (List.mem_of_getElem? (i := 23) rfl))) (mvT hZ (hw _ (List.mem_of_getElem? (i := 2) rfl))) (mvT hZ (hw _ (List.mem_of_getElem? (i := 24) rfl))) (by decide) (backOf (W := 1) (rm4_1 l Z a0 hw [] vNOT_EQUAL (F_rm5 p2 p3) vEQUAL vLESS vLESS_OR_EQUAL vGREATER vGREATER_OR_EQUAL h0 n0 Z0 S_Condition_Comparator_EQUAL S_Condition_Comparator_NOT_EQUAL S_Condition_Comparator_LESS S_Condition_Comparator_LESS_OR_EQUAL S_Condition_Comparator_GREATER S_Condition_Comparator_GREATER_OR_EQUAL ne_vEQUAL_vNOT_EQUAL ne_vEQUAL_vLESS ne_vEQUAL_vLESS_OR_EQUAL ne_vEQUAL_vGREATER ne_vEQUAL_vGREATER_OR_EQUAL ne_vNOT_EQUAL_vLESS ne_vNOT_EQUAL_vLESS_OR_EQUAL ne_vNOT_EQUAL_vGREATER ne_vNOT_EQUAL_vGREATER_OR_EQUAL ne_vLESS_vLESS_OR_EQUAL ne_vLESS_vGREATER ne_vLESS_vGREATER_OR_EQUAL ne_vLESS_OR_EQUAL_vGREATER ne_vLESS_OR_EQUAL_vGREATER_OR_EQUAL ne_vGREATER_vGREATER_OR_EQUAL) hZ (hw _ (List.mem_of_getElem? (i := 24) rfl)) (hw _ (List.mem_of_getElem? (i := 2) rfl)) (by decide) (by decide)) (g := (mkF m 88 #[.val (.int p1), .val (.int p2), .val (.int p3), .val (.ref vNOT_EQUAL), .val (.ref vNOT_EQUAL), .val (.int (1 : Int32))] [(.int (F_rm5 p2 p3)), (.ref vNOT_EQUAL), (.int (F_rm4_1 (F_rm5 p3 p2)))])) rfl (by rw [hml]; rfl) (argsL := [(.ref vNOT_EQUAL), (.int (F_rm5 p2 p3))]) (rest := [(.int (F_rm4_1 (F_rm5 p3 p2)))]) (lenOf pd_3 rfl) rfl (by show 2 * 0 + _ ≤ _; exact Nat.le_of_eq rfl) (hb hby at_88) (fun _ _ => ⟨rfl, e28q, (by decide : 0 + 0 ≤ _), (by decide : 0 + 0 ≤ _)⟩)
    dsimp only [Pt.U, Pt.locs, Pt.cells, Pt.slots] at X29 l29 y29 z29 st29 hQ29
    subst l29 y29 z29
    obtain ⟨rfl, N29q, e29q⟩ := hQ29
    have N29 := Fr.app Ng28 N29q
    obtain ⟨Lg29, Xg29, Ng29⟩ := Stand_gen X29 N29
    refine Run.go st29 ?_
    show Run p e below s 0 0 (Q_rm0 Z p1 p2 p3 vEQUAL vNOT_EQUAL vLESS vLESS_OR_EQUAL vGREATER vGREATER_OR_EQUAL h0 n0) (T29.setTop (mkF m 91 #[.val (.int p1), .val (.int p2), .val (.int p3), .val (.ref vNOT_EQUAL), .val (.ref vNOT_EQUAL), .val (.int (1 : Int32))] [(.int (F_rm4_1 (F_rm5 p2 p3))), (.int (F_rm4_1 (F_rm5 p3 p2)))]))
    refine Run.go (fun _ k => XS.icmpNo Xg29.here hx rfl (hb hby at_91) rfl (teq (own_h1 _ _)).2 k) ?_
    show Run p e below s 0 0 (Q_rm0 Z p1 p2 p3 vEQUAL vNOT_EQUAL vLESS vLESS_OR_EQUAL vGREATER vGREATER_OR_EQUAL h0 n0) (T29.setTop (mkF m 94 #[.val (.int p1), .val (.int p2), .val (.int p3), .val (.ref vNOT_EQUAL), .val (.ref vNOT_EQUAL), .val (.int (1 : Int32))] []))
    refine Run.go (fun _ k => XS.iconst Xg29.here hx rfl (hb hby at_94) k) ?_
    show Run p e below s 0 0 (Q_rm0 Z p1 p2 p3 vEQUAL vNOT_EQUAL vLESS vLESS_OR_EQUAL vGREATER vGREATER_OR_EQUAL h0 n0) (T29.setTop (mkF m 95 #[.val (.int p1), .val (.int p2), .val (.int p3), .val (.ref vNOT_EQUAL), .val (.ref vNOT_EQUAL), .val (.int (1 : Int32))] [(.int (1 : Int32))]))
    refine Run.go (fun _ k => XS.goto Xg29.here hx rfl (pc0 := 95) (pc' := 99) rfl (hb hby at_95) (by decide) (by decide) k) ?_
    show Run p e below s 0 0 (Q_rm0 Z p1 p2 p3 vEQUAL vNOT_EQUAL vLESS vLESS_OR_EQUAL vGREATER vGREATER_OR_EQUAL h0 n0) (T29.setTop (mkF m 99 #[.val (.int p1), .val (.int p2), .val (.int p3), .val (.ref vNOT_EQUAL), .val (.ref vNOT_EQUAL), .val (.int (1 : Int32))] [(.int (1 : Int32))]))
    refine Run.go (fun _ k => XS.istore Xg29.here hx rfl (hb hby at_99) rfl (l' := #[.val (.int p1), .val (.int p2), .val (.int p3), .val (.ref vNOT_EQUAL), .val (.ref vNOT_EQUAL), .val (.int (1 : Int32))]) rfl k) ?_
    show Run p e below s 0 0 (Q_rm0 Z p1 p2 p3 vEQUAL vNOT_EQUAL vLESS vLESS_OR_EQUAL vGREATER vGREATER_OR_EQUAL h0 n0) (T29.setTop (mkF m 101 #[.val (.int p1), .val (.int p2), .val (.int p3), .val (.ref vNOT_EQUAL), .val (.ref vNOT_EQUAL), .val (.int (1 : Int32))] []))
    refine Run.go (fun _ k => XS.iload Xg29.here hx rfl (hb hby at_101) rfl  k) ?_
    show Run p e below s 0 0 (Q_rm0 Z p1 p2 p3 vEQUAL vNOT_EQUAL vLESS vLESS_OR_EQUAL vGREATER vGREATER_OR_EQUAL h0 n0) (T29.setTop (mkF m 103 #[.val (.int p1), .val (.int p2), .val (.int p3), .val (.ref vNOT_EQUAL), .val (.ref vNOT_EQUAL), .val (.int (1 : Int32))] [(.int (1 : Int32))]))
    refine Run.go (fun _ k => XS.ifNo Xg29.here hx rfl (hb hby at_103) rfl ((if0 _ _).trans (feq (by decide)).1) k) ?_
    show Run p e below s 0 0 (Q_rm0 Z p1 p2 p3 vEQUAL vNOT_EQUAL vLESS vLESS_OR_EQUAL vGREATER vGREATER_OR_EQUAL h0 n0) (T29.setTop (mkF m 106 #[.val (.int p1), .val (.int p2), .val (.int p3), .val (.ref vNOT_EQUAL), .val (.ref vNOT_EQUAL), .val (.int (1 : Int32))] []))
    refine Run.go (fun _ k => XS.aload Xg29.here hx rfl (hb hby at_106) rfl rfl k) ?_
    show Run p e below s 0 0 (Q_rm0 Z p1 p2 p3 vEQUAL vNOT_EQUAL vLESS vLESS_OR_EQUAL vGREATER vGREATER_OR_EQUAL h0 n0) (T29.setTop (mkF m 108 #[.val (.int p1), .val (.int p2), .val (.int p3), .val (.ref vNOT_EQUAL), .val (.ref vNOT_EQUAL), .val (.int (1 : Int32))] [(.ref vNOT_EQUAL)]))
    obtain ⟨cq30, kq30, q30a, q30b, q30c⟩ := isOf hZ e29q E_vNOT_EQUAL
    obtain ⟨_, _, ⟨T30, L30, k30, n30⟩, -, X30, ⟨Lc30, hQ30, l30, y30, z30⟩, st30⟩ := Xg29.virtualBack hx (y := (⟨"com/example/exact_table/exacttable/Condition$Comparator", "flipped", "()Lcom/example/exact_table/exacttable/Condition$Comparator;"⟩ : MethodName)) (z := (⟨"com/example/exact_table/exacttable/Condition$Comparator", "flipped", "()Lcom/example/exact_table/exacttable/Condition$Comparator;"⟩ : MethodName)) hown (mvT hZ (hw _ (List.mem_of_getElem? (i := 8) rfl))) (mvT hZ (hw _ (List.mem_of_getElem? (i := 9) rfl))) (notFace_of_selects (args := #[]) (mvT hZ (hw _ (List.mem_of_getElem? (i := 11) rfl)))) (mvT hZ (hw _ (List.mem_of_getElem? (i := 11) rfl))) (mvT hZ (hw _ (List.mem_of_getElem? (i := 10) rfl))) (by decide) (backOf (W := 0) (rm2_1 l Z a0 hw [] vNOT_EQUAL vEQUAL vLESS vLESS_OR_EQUAL vGREATER vGREATER_OR_EQUAL h0 n0 Z0 S_Condition_Comparator_EQUAL S_Condition_Comparator_NOT_EQUAL S_Condition_Comparator_LESS S_Condition_Comparator_LESS_OR_EQUAL S_Condition_Comparator_GREATER S_Condition_Comparator_GREATER_OR_EQUAL F_ordinal_vNOT_EQUAL E_vNOT_EQUAL) hZ (hw _ (List.mem_of_getElem? (i := 12) rfl)) (hw _ (List.mem_of_getElem? (i := 6) rfl)) (by decide) (by decide)) q30a q30c (g := (mkF m 108 #[.val (.int p1), .val (.int p2), .val (.int p3), .val (.ref vNOT_EQUAL), .val (.ref vNOT_EQUAL), .val (.int (1 : Int32))] [(.ref vNOT_EQUAL)])) rfl (by rw [hml]; rfl) (Steps.refl _) (argsL := []) (rest := []) (lenOf pd_2 rfl) rfl (by show 2 * 0 + _ ≤ _; exact Nat.le_of_eq rfl) (hb hby at_108) (fun _ _ => ⟨rfl, e29q, (by decide : 0 + 0 ≤ _), (by decide : 0 + 0 ≤ _)⟩)
    dsimp only [Pt.U, Pt.locs, Pt.cells, Pt.slots] at X30 l30 y30 z30 st30 hQ30
    subst l30 y30 z30
    obtain ⟨rfl, N30q, e30q⟩ := hQ30
    have N30 := Fr.app Ng29 N30q
    obtain ⟨Lg30, Xg30, Ng30⟩ := Stand_gen X30 N30
    refine Run.tr st30 ?_
    show Run p e below s 0 0 (Q_rm0 Z p1 p2 p3 vEQUAL vNOT_EQUAL vLESS vLESS_OR_EQUAL vGREATER vGREATER_OR_EQUAL h0 n0) (T30.setTop (mkF m 111 #[.val (.int p1), .val (.int p2), .val (.int p3), .val (.ref vNOT_EQUAL), .val (.ref vNOT_EQUAL), .val (.int (1 : Int32))] [(.ref vNOT_EQUAL)]))
    refine Run.go (fun _ k => XS.aloadN Xg30.here hx rfl (hb hby at_111) rfl rfl k) ?_
    show Run p e below s 0 0 (Q_rm0 Z p1 p2 p3 vEQUAL vNOT_EQUAL vLESS vLESS_OR_EQUAL vGREATER vGREATER_OR_EQUAL h0 n0) (T30.setTop (mkF m 112 #[.val (.int p1), .val (.int p2), .val (.int p3), .val (.ref vNOT_EQUAL), .val (.ref vNOT_EQUAL), .val (.int (1 : Int32))] [(.ref vNOT_EQUAL), (.ref vNOT_EQUAL)]))
    refine Run.go (fun _ k => Jvm.RoadKit.acmp (g := (mkF m 112 #[.val (.int p1), .val (.int p2), .val (.int p3), .val (.ref vNOT_EQUAL), .val (.ref vNOT_EQUAL), .val (.int (1 : Int32))] [(.ref vNOT_EQUAL), (.ref vNOT_EQUAL)])) Xg30 hx rfl rfl rfl (pc0 := 112) (pc' := 115) (same := true) rfl (hb hby at_112) rfl (decide_eq_true rfl) (by decide) (by decide) k) ?_
    show Run p e below s 0 0 (Q_rm0 Z p1 p2 p3 vEQUAL vNOT_EQUAL vLESS vLESS_OR_EQUAL vGREATER vGREATER_OR_EQUAL h0 n0) (T30.setTop (mkF m 115 #[.val (.int p1), .val (.int p2), .val (.int p3), .val (.ref vNOT_EQUAL), .val (.ref vNOT_EQUAL), .val (.int (1 : Int32))] []))
    refine Run.go (fun _ k => XS.iconst Xg30.here hx rfl (hb hby at_115) k) ?_
    show Run p e below s 0 0 (Q_rm0 Z p1 p2 p3 vEQUAL vNOT_EQUAL vLESS vLESS_OR_EQUAL vGREATER vGREATER_OR_EQUAL h0 n0) (T30.setTop (mkF m 116 #[.val (.int p1), .val (.int p2), .val (.int p3), .val (.ref vNOT_EQUAL), .val (.ref vNOT_EQUAL), .val (.int (1 : Int32))] [(.int (1 : Int32))]))
    refine Run.go (fun _ k => XS.goto Xg30.here hx rfl (pc0 := 116) (pc' := 120) rfl (hb hby at_116) (by decide) (by decide) k) ?_
    show Run p e below s 0 0 (Q_rm0 Z p1 p2 p3 vEQUAL vNOT_EQUAL vLESS vLESS_OR_EQUAL vGREATER vGREATER_OR_EQUAL h0 n0) (T30.setTop (mkF m 120 #[.val (.int p1), .val (.int p2), .val (.int p3), .val (.ref vNOT_EQUAL), .val (.ref vNOT_EQUAL), .val (.int (1 : Int32))] [(.int (1 : Int32))]))
    refine Run.go (fun _ k => XS.istore Xg30.here hx rfl (hb hby at_120) rfl (l' := #[.val (.int p1), .val (.int p2), .val (.int p3), .val (.ref vNOT_EQUAL), .val (.ref vNOT_EQUAL), .val (.int (1 : Int32))]) rfl k) ?_
    show Run p e below s 0 0 (Q_rm0 Z p1 p2 p3 vEQUAL vNOT_EQUAL vLESS vLESS_OR_EQUAL vGREATER vGREATER_OR_EQUAL h0 n0) (T30.setTop (mkF m 122 #[.val (.int p1), .val (.int p2), .val (.int p3), .val (.ref vNOT_EQUAL), .val (.ref vNOT_EQUAL), .val (.int (1 : Int32))] []))
    refine Run.go (fun _ k => XS.iload Xg30.here hx rfl (hb hby at_122) rfl  k) ?_
    show Run p e below s 0 0 (Q_rm0 Z p1 p2 p3 vEQUAL vNOT_EQUAL vLESS vLESS_OR_EQUAL vGREATER vGREATER_OR_EQUAL h0 n0) (T30.setTop (mkF m 124 #[.val (.int p1), .val (.int p2), .val (.int p3), .val (.ref vNOT_EQUAL), .val (.ref vNOT_EQUAL), .val (.int (1 : Int32))] [(.int (1 : Int32))]))
    exact Run.retN (y := 1) Xg30 hx (t := .boolean) Bd.returns (by simp) rfl Bd.notSynchronized (hb hby at_124) (by decide) (by decide) ⟨rfl, Ng30⟩
  · show Run p e below s 0 0 (Q_rm0 Z p1 p2 p3 vEQUAL vNOT_EQUAL vLESS vLESS_OR_EQUAL vGREATER vGREATER_OR_EQUAL h0 n0) (s₁.setTop (mkF m 0 #[.val (.int p1), .val (.int p2), .val (.int p3), .unset, .unset, .unset] []))
    refine Run.go (fun _ k => XS.iloadN X0.here hx rfl (hb hby at_0) rfl  k) ?_
    show Run p e below s 0 0 (Q_rm0 Z p1 p2 p3 vEQUAL vNOT_EQUAL vLESS vLESS_OR_EQUAL vGREATER vGREATER_OR_EQUAL h0 n0) (s₁.setTop (mkF m 1 #[.val (.int p1), .val (.int p2), .val (.int p3), .unset, .unset, .unset] [(.int p1)]))
    obtain ⟨_, _, ⟨T31, L31, k31, n31⟩, -, X31, ⟨Lc31, hQ31, l31, y31, z31⟩, st31⟩ := Jvm.LawKit.callS X0 hx (y := (⟨"com/example/exact_table/exacttable/ComparatorFlippedPinLaw", "pick", "(I)Lcom/example/exact_table/exacttable/Condition$Comparator;"⟩ : MethodName)) hown (mvT hZ (hw _ (List.mem_of_getElem? (i := 0) rfl))) (mvT hZ (hw _ (List.mem_of_getElem? (i := 1) rfl))) (mvT hZ (hw _ (List.mem_of_getElem? (i := 2) rfl))) (mvT hZ (hw _ (List.mem_of_getElem? (i := 3) rfl))) (by decide) (backOf (W := 0) (rm1_2 l Z a0 hw [] p1 vEQUAL vNOT_EQUAL vLESS vLESS_OR_EQUAL vGREATER vGREATER_OR_EQUAL h0 n0 Z0 S_Condition_Comparator_EQUAL S_Condition_Comparator_NOT_EQUAL S_Condition_Comparator_LESS S_Condition_Comparator_LESS_OR_EQUAL S_Condition_Comparator_GREATER S_Condition_Comparator_GREATER_OR_EQUAL hk4) hZ (hw _ (List.mem_of_getElem? (i := 3) rfl)) (hw _ (List.mem_of_getElem? (i := 2) rfl)) (by decide) (by decide)) (g := (mkF m 1 #[.val (.int p1), .val (.int p2), .val (.int p3), .unset, .unset, .unset] [(.int p1)])) rfl (by rw [hml]; rfl) (argsL := [(.int p1)]) (rest := []) (lenOf pd_1 rfl) rfl (by show 2 * 0 + _ ≤ _; exact Nat.le_of_eq rfl) (hb hby at_1) (fun _ _ => ⟨rfl, e0, (by decide : 0 + 0 ≤ _), (by decide : 0 + 0 ≤ _)⟩)
    dsimp only [Pt.U, Pt.locs, Pt.cells, Pt.slots] at X31 l31 y31 z31 st31 hQ31
    subst l31 y31 z31
    obtain ⟨rfl, N31q, e31q⟩ := hQ31
    have N31 := Fr.app N0 N31q
    obtain ⟨Lg31, Xg31, Ng31⟩ := Stand_gen X31 N31
    refine Run.go st31 ?_
    show Run p e below s 0 0 (Q_rm0 Z p1 p2 p3 vEQUAL vNOT_EQUAL vLESS vLESS_OR_EQUAL vGREATER vGREATER_OR_EQUAL h0 n0) (T31.setTop (mkF m 4 #[.val (.int p1), .val (.int p2), .val (.int p3), .unset, .unset, .unset] [(.ref vLESS)]))
    refine Run.go (fun _ k => XS.astoreN Xg31.here hx rfl (hb hby at_4) rfl rfl (l' := #[.val (.int p1), .val (.int p2), .val (.int p3), .val (.ref vLESS), .unset, .unset]) rfl k) ?_
    show Run p e below s 0 0 (Q_rm0 Z p1 p2 p3 vEQUAL vNOT_EQUAL vLESS vLESS_OR_EQUAL vGREATER vGREATER_OR_EQUAL h0 n0) (T31.setTop (mkF m 5 #[.val (.int p1), .val (.int p2), .val (.int p3), .val (.ref vLESS), .unset, .unset] []))
    refine Run.go (fun _ k => XS.aloadN Xg31.here hx rfl (hb hby at_5) rfl rfl k) ?_
    show Run p e below s 0 0 (Q_rm0 Z p1 p2 p3 vEQUAL vNOT_EQUAL vLESS vLESS_OR_EQUAL vGREATER vGREATER_OR_EQUAL h0 n0) (T31.setTop (mkF m 6 #[.val (.int p1), .val (.int p2), .val (.int p3), .val (.ref vLESS), .unset, .unset] [(.ref vLESS)]))
    obtain ⟨cq32, kq32, q32a, q32b, q32c⟩ := isOf hZ e31q E_vLESS
    obtain ⟨_, _, ⟨T32, L32, k32, n32⟩, -, X32, ⟨Lc32, hQ32, l32, y32, z32⟩, st32⟩ := Xg31.virtualBack hx (y := (⟨"com/example/exact_table/exacttable/Condition$Comparator", "flipped", "()Lcom/example/exact_table/exacttable/Condition$Comparator;"⟩ : MethodName)) (z := (⟨"com/example/exact_table/exacttable/Condition$Comparator", "flipped", "()Lcom/example/exact_table/exacttable/Condition$Comparator;"⟩ : MethodName)) hown (mvT hZ (hw _ (List.mem_of_getElem? (i := 8) rfl))) (mvT hZ (hw _ (List.mem_of_getElem? (i := 9) rfl))) (notFace_of_selects (args := #[]) (mvT hZ (hw _ (List.mem_of_getElem? (i := 11) rfl)))) (mvT hZ (hw _ (List.mem_of_getElem? (i := 11) rfl))) (mvT hZ (hw _ (List.mem_of_getElem? (i := 10) rfl))) (by decide) (backOf (W := 0) (rm2_2 l Z a0 hw [] vLESS vEQUAL vNOT_EQUAL vLESS_OR_EQUAL vGREATER vGREATER_OR_EQUAL h0 n0 Z0 S_Condition_Comparator_EQUAL S_Condition_Comparator_NOT_EQUAL S_Condition_Comparator_LESS S_Condition_Comparator_LESS_OR_EQUAL S_Condition_Comparator_GREATER S_Condition_Comparator_GREATER_OR_EQUAL F_ordinal_vLESS E_vLESS) hZ (hw _ (List.mem_of_getElem? (i := 12) rfl)) (hw _ (List.mem_of_getElem? (i := 6) rfl)) (by decide) (by decide)) q32a q32c (g := (mkF m 6 #[.val (.int p1), .val (.int p2), .val (.int p3), .val (.ref vLESS), .unset, .unset] [(.ref vLESS)])) rfl (by rw [hml]; rfl) (Steps.refl _) (argsL := []) (rest := []) (lenOf pd_2 rfl) rfl (by show 2 * 0 + _ ≤ _; exact Nat.le_of_eq rfl) (hb hby at_6) (fun _ _ => ⟨rfl, e31q, (by decide : 0 + 0 ≤ _), (by decide : 0 + 0 ≤ _)⟩)
    dsimp only [Pt.U, Pt.locs, Pt.cells, Pt.slots] at X32 l32 y32 z32 st32 hQ32
    subst l32 y32 z32
    obtain ⟨rfl, N32q, e32q⟩ := hQ32
    have N32 := Fr.app Ng31 N32q
    obtain ⟨Lg32, Xg32, Ng32⟩ := Stand_gen X32 N32
    refine Run.tr st32 ?_
    show Run p e below s 0 0 (Q_rm0 Z p1 p2 p3 vEQUAL vNOT_EQUAL vLESS vLESS_OR_EQUAL vGREATER vGREATER_OR_EQUAL h0 n0) (T32.setTop (mkF m 9 #[.val (.int p1), .val (.int p2), .val (.int p3), .val (.ref vLESS), .unset, .unset] [(.ref vGREATER)]))
    refine Run.go (fun _ k => XS.astore Xg32.here hx rfl (hb hby at_9) rfl rfl (l' := #[.val (.int p1), .val (.int p2), .val (.int p3), .val (.ref vLESS), .val (.ref vGREATER), .unset]) rfl k) ?_
    show Run p e below s 0 0 (Q_rm0 Z p1 p2 p3 vEQUAL vNOT_EQUAL vLESS vLESS_OR_EQUAL vGREATER vGREATER_OR_EQUAL h0 n0) (T32.setTop (mkF m 11 #[.val (.int p1), .val (.int p2), .val (.int p3), .val (.ref vLESS), .val (.ref vGREATER), .unset] []))
    refine Run.go (fun _ k => XS.aload Xg32.here hx rfl (hb hby at_11) rfl rfl k) ?_
    show Run p e below s 0 0 (Q_rm0 Z p1 p2 p3 vEQUAL vNOT_EQUAL vLESS vLESS_OR_EQUAL vGREATER vGREATER_OR_EQUAL h0 n0) (T32.setTop (mkF m 13 #[.val (.int p1), .val (.int p2), .val (.int p3), .val (.ref vLESS), .val (.ref vGREATER), .unset] [(.ref vGREATER)]))
    refine Run.go (fun _ k => XS.ifnonnullYes Xg32.here hx rfl (pc0 := 13) (pc' := 18) rfl (hb hby at_13) rfl (by decide) (by decide) k) ?_
    show Run p e below s 0 0 (Q_rm0 Z p1 p2 p3 vEQUAL vNOT_EQUAL vLESS vLESS_OR_EQUAL vGREATER vGREATER_OR_EQUAL h0 n0) (T32.setTop (mkF m 18 #[.val (.int p1), .val (.int p2), .val (.int p3), .val (.ref vLESS), .val (.ref vGREATER), .unset] []))
    refine Run.go (fun _ k => XS.aload Xg32.here hx rfl (hb hby at_18) rfl rfl k) ?_
    show Run p e below s 0 0 (Q_rm0 Z p1 p2 p3 vEQUAL vNOT_EQUAL vLESS vLESS_OR_EQUAL vGREATER vGREATER_OR_EQUAL h0 n0) (T32.setTop (mkF m 20 #[.val (.int p1), .val (.int p2), .val (.int p3), .val (.ref vLESS), .val (.ref vGREATER), .unset] [(.ref vGREATER)]))
    refine Run.go (fun _ k => XS.iconst Xg32.here hx rfl (hb hby at_20) k) ?_
    show Run p e below s 0 0 (Q_rm0 Z p1 p2 p3 vEQUAL vNOT_EQUAL vLESS vLESS_OR_EQUAL vGREATER vGREATER_OR_EQUAL h0 n0) (T32.setTop (mkF m 21 #[.val (.int p1), .val (.int p2), .val (.int p3), .val (.ref vLESS), .val (.ref vGREATER), .unset] [(.int (0 : Int32)), (.ref vGREATER)]))
    obtain ⟨_, _, ⟨T33, L33, k33, n33⟩, -, X33, ⟨Lc33, hQ33, l33, y33, z33⟩, st33⟩ := Jvm.LawKit.callS Xg32 hx (y := (⟨"com/example/exact_table/exacttable/ComparatorFlippedPinLaw", "holds", "(Lcom/example/exact_table/exacttable/Condition$Comparator;I)Z"⟩ : MethodName)) hown (mvT hZ (hw _ (List.mem_of_getElem? (i := 22) rfl))) (mvT hZ (hw _ (List.mem_of_getElem? (i := 23) rfl))) (mvT hZ (hw _ (List.mem_of_getElem? (i := 2) rfl))) (mvT hZ (hw _ (List.mem_of_getElem? (i := 24) rfl))) (by decide) (backOf (W := 0) (rm4_4 l Z a0 hw [] vGREATER (0 : Int32) vEQUAL vNOT_EQUAL vLESS vLESS_OR_EQUAL vGREATER_OR_EQUAL h0 n0 Z0 S_Condition_Comparator_EQUAL S_Condition_Comparator_NOT_EQUAL S_Condition_Comparator_LESS S_Condition_Comparator_LESS_OR_EQUAL S_Condition_Comparator_GREATER S_Condition_Comparator_GREATER_OR_EQUAL ne_vEQUAL_vNOT_EQUAL ne_vEQUAL_vLESS ne_vEQUAL_vLESS_OR_EQUAL ne_vEQUAL_vGREATER ne_vEQUAL_vGREATER_OR_EQUAL ne_vNOT_EQUAL_vLESS ne_vNOT_EQUAL_vLESS_OR_EQUAL ne_vNOT_EQUAL_vGREATER ne_vNOT_EQUAL_vGREATER_OR_EQUAL ne_vLESS_vLESS_OR_EQUAL ne_vLESS_vGREATER ne_vLESS_vGREATER_OR_EQUAL ne_vLESS_OR_EQUAL_vGREATER ne_vLESS_OR_EQUAL_vGREATER_OR_EQUAL ne_vGREATER_vGREATER_OR_EQUAL) hZ (hw _ (List.mem_of_getElem? (i := 24) rfl)) (hw _ (List.mem_of_getElem? (i := 2) rfl)) (by decide) (by decide)) (g := (mkF m 21 #[.val (.int p1), .val (.int p2), .val (.int p3), .val (.ref vLESS), .val (.ref vGREATER), .unset] [(.int (0 : Int32)), (.ref vGREATER)])) rfl (by rw [hml]; rfl) (argsL := [(.ref vGREATER), (.int (0 : Int32))]) (rest := []) (lenOf pd_3 rfl) rfl (by show 2 * 0 + _ ≤ _; exact Nat.le_of_eq rfl) (hb hby at_21) (fun _ _ => ⟨rfl, e32q, (by decide : 0 + 0 ≤ _), (by decide : 0 + 0 ≤ _)⟩)
    dsimp only [Pt.U, Pt.locs, Pt.cells, Pt.slots] at X33 l33 y33 z33 st33 hQ33
    subst l33 y33 z33
    obtain ⟨rfl, N33q, e33q⟩ := hQ33
    have N33 := Fr.app Ng32 N33q
    obtain ⟨Lg33, Xg33, Ng33⟩ := Stand_gen X33 N33
    refine Run.go st33 ?_
    show Run p e below s 0 0 (Q_rm0 Z p1 p2 p3 vEQUAL vNOT_EQUAL vLESS vLESS_OR_EQUAL vGREATER vGREATER_OR_EQUAL h0 n0) (T33.setTop (mkF m 24 #[.val (.int p1), .val (.int p2), .val (.int p3), .val (.ref vLESS), .val (.ref vGREATER), .unset] [(.int (F_rm4_4 (0 : Int32)))]))
    refine Run.go (fun _ k => XS.aloadN Xg33.here hx rfl (hb hby at_24) rfl rfl k) ?_
    show Run p e below s 0 0 (Q_rm0 Z p1 p2 p3 vEQUAL vNOT_EQUAL vLESS vLESS_OR_EQUAL vGREATER vGREATER_OR_EQUAL h0 n0) (T33.setTop (mkF m 25 #[.val (.int p1), .val (.int p2), .val (.int p3), .val (.ref vLESS), .val (.ref vGREATER), .unset] [(.ref vLESS), (.int (F_rm4_4 (0 : Int32)))]))
    refine Run.go (fun _ k => XS.iconst Xg33.here hx rfl (hb hby at_25) k) ?_
    show Run p e below s 0 0 (Q_rm0 Z p1 p2 p3 vEQUAL vNOT_EQUAL vLESS vLESS_OR_EQUAL vGREATER vGREATER_OR_EQUAL h0 n0) (T33.setTop (mkF m 26 #[.val (.int p1), .val (.int p2), .val (.int p3), .val (.ref vLESS), .val (.ref vGREATER), .unset] [(.int (0 : Int32)), (.ref vLESS), (.int (F_rm4_4 (0 : Int32)))]))
    obtain ⟨_, _, ⟨T34, L34, k34, n34⟩, -, X34, ⟨Lc34, hQ34, l34, y34, z34⟩, st34⟩ := Jvm.LawKit.callS Xg33 hx (y := (⟨"com/example/exact_table/exacttable/ComparatorFlippedPinLaw", "holds", "(Lcom/example/exact_table/exacttable/Condition$Comparator;I)Z"⟩ : MethodName)) hown (mvT hZ (hw _ (List.mem_of_getElem? (i := 22) rfl))) (mvT hZ (hw _ (List.mem_of_getElem? (i := 23) rfl))) (mvT hZ (hw _ (List.mem_of_getElem? (i := 2) rfl))) (mvT hZ (hw _ (List.mem_of_getElem? (i := 24) rfl))) (by decide) (backOf (W := 1) (rm4_2 l Z a0 hw [] vLESS (0 : Int32) vEQUAL vNOT_EQUAL vLESS_OR_EQUAL vGREATER vGREATER_OR_EQUAL h0 n0 Z0 S_Condition_Comparator_EQUAL S_Condition_Comparator_NOT_EQUAL S_Condition_Comparator_LESS S_Condition_Comparator_LESS_OR_EQUAL S_Condition_Comparator_GREATER S_Condition_Comparator_GREATER_OR_EQUAL ne_vEQUAL_vNOT_EQUAL ne_vEQUAL_vLESS ne_vEQUAL_vLESS_OR_EQUAL ne_vEQUAL_vGREATER ne_vEQUAL_vGREATER_OR_EQUAL ne_vNOT_EQUAL_vLESS ne_vNOT_EQUAL_vLESS_OR_EQUAL ne_vNOT_EQUAL_vGREATER ne_vNOT_EQUAL_vGREATER_OR_EQUAL ne_vLESS_vLESS_OR_EQUAL ne_vLESS_vGREATER ne_vLESS_vGREATER_OR_EQUAL ne_vLESS_OR_EQUAL_vGREATER ne_vLESS_OR_EQUAL_vGREATER_OR_EQUAL ne_vGREATER_vGREATER_OR_EQUAL) hZ (hw _ (List.mem_of_getElem? (i := 24) rfl)) (hw _ (List.mem_of_getElem? (i := 2) rfl)) (by decide) (by decide)) (g := (mkF m 26 #[.val (.int p1), .val (.int p2), .val (.int p3), .val (.ref vLESS), .val (.ref vGREATER), .unset] [(.int (0 : Int32)), (.ref vLESS), (.int (F_rm4_4 (0 : Int32)))])) rfl (by rw [hml]; rfl) (argsL := [(.ref vLESS), (.int (0 : Int32))]) (rest := [(.int (F_rm4_4 (0 : Int32)))]) (lenOf pd_3 rfl) rfl (by show 2 * 0 + _ ≤ _; exact Nat.le_of_eq rfl) (hb hby at_26) (fun _ _ => ⟨rfl, e33q, (by decide : 0 + 0 ≤ _), (by decide : 0 + 0 ≤ _)⟩)
    dsimp only [Pt.U, Pt.locs, Pt.cells, Pt.slots] at X34 l34 y34 z34 st34 hQ34
    subst l34 y34 z34
    obtain ⟨rfl, N34q, e34q⟩ := hQ34
    have N34 := Fr.app Ng33 N34q
    obtain ⟨Lg34, Xg34, Ng34⟩ := Stand_gen X34 N34
    refine Run.go st34 ?_
    show Run p e below s 0 0 (Q_rm0 Z p1 p2 p3 vEQUAL vNOT_EQUAL vLESS vLESS_OR_EQUAL vGREATER vGREATER_OR_EQUAL h0 n0) (T34.setTop (mkF m 29 #[.val (.int p1), .val (.int p2), .val (.int p3), .val (.ref vLESS), .val (.ref vGREATER), .unset] [(.int (F_rm4_2 (0 : Int32))), (.int (F_rm4_4 (0 : Int32)))]))
    refine Run.go (fun _ k => XS.icmpNo Xg34.here hx rfl (hb hby at_29) rfl (teq (by decide)).2 k) ?_
    show Run p e below s 0 0 (Q_rm0 Z p1 p2 p3 vEQUAL vNOT_EQUAL vLESS vLESS_OR_EQUAL vGREATER vGREATER_OR_EQUAL h0 n0) (T34.setTop (mkF m 32 #[.val (.int p1), .val (.int p2), .val (.int p3), .val (.ref vLESS), .val (.ref vGREATER), .unset] []))
    refine Run.go (fun _ k => XS.aload Xg34.here hx rfl (hb hby at_32) rfl rfl k) ?_
    show Run p e below s 0 0 (Q_rm0 Z p1 p2 p3 vEQUAL vNOT_EQUAL vLESS vLESS_OR_EQUAL vGREATER vGREATER_OR_EQUAL h0 n0) (T34.setTop (mkF m 34 #[.val (.int p1), .val (.int p2), .val (.int p3), .val (.ref vLESS), .val (.ref vGREATER), .unset] [(.ref vGREATER)]))
    refine Run.go (fun _ k => XS.iconst Xg34.here hx rfl (hb hby at_34) k) ?_
    show Run p e below s 0 0 (Q_rm0 Z p1 p2 p3 vEQUAL vNOT_EQUAL vLESS vLESS_OR_EQUAL vGREATER vGREATER_OR_EQUAL h0 n0) (T34.setTop (mkF m 35 #[.val (.int p1), .val (.int p2), .val (.int p3), .val (.ref vLESS), .val (.ref vGREATER), .unset] [(.int (1 : Int32)), (.ref vGREATER)]))
    obtain ⟨_, _, ⟨T35, L35, k35, n35⟩, -, X35, ⟨Lc35, hQ35, l35, y35, z35⟩, st35⟩ := Jvm.LawKit.callS Xg34 hx (y := (⟨"com/example/exact_table/exacttable/ComparatorFlippedPinLaw", "holds", "(Lcom/example/exact_table/exacttable/Condition$Comparator;I)Z"⟩ : MethodName)) hown (mvT hZ (hw _ (List.mem_of_getElem? (i := 22) rfl))) (mvT hZ (hw _ (List.mem_of_getElem? (i := 23) rfl))) (mvT hZ (hw _ (List.mem_of_getElem? (i := 2) rfl))) (mvT hZ (hw _ (List.mem_of_getElem? (i := 24) rfl))) (by decide) (backOf (W := 0) (rm4_4 l Z a0 hw [] vGREATER (1 : Int32) vEQUAL vNOT_EQUAL vLESS vLESS_OR_EQUAL vGREATER_OR_EQUAL h0 n0 Z0 S_Condition_Comparator_EQUAL S_Condition_Comparator_NOT_EQUAL S_Condition_Comparator_LESS S_Condition_Comparator_LESS_OR_EQUAL S_Condition_Comparator_GREATER S_Condition_Comparator_GREATER_OR_EQUAL ne_vEQUAL_vNOT_EQUAL ne_vEQUAL_vLESS ne_vEQUAL_vLESS_OR_EQUAL ne_vEQUAL_vGREATER ne_vEQUAL_vGREATER_OR_EQUAL ne_vNOT_EQUAL_vLESS ne_vNOT_EQUAL_vLESS_OR_EQUAL ne_vNOT_EQUAL_vGREATER ne_vNOT_EQUAL_vGREATER_OR_EQUAL ne_vLESS_vLESS_OR_EQUAL ne_vLESS_vGREATER ne_vLESS_vGREATER_OR_EQUAL ne_vLESS_OR_EQUAL_vGREATER ne_vLESS_OR_EQUAL_vGREATER_OR_EQUAL ne_vGREATER_vGREATER_OR_EQUAL) hZ (hw _ (List.mem_of_getElem? (i := 24) rfl)) (hw _ (List.mem_of_getElem? (i := 2) rfl)) (by decide) (by decide)) (g := (mkF m 35 #[.val (.int p1), .val (.int p2), .val (.int p3), .val (.ref vLESS), .val (.ref vGREATER), .unset] [(.int (1 : Int32)), (.ref vGREATER)])) rfl (by rw [hml]; rfl) (argsL := [(.ref vGREATER), (.int (1 : Int32))]) (rest := []) (lenOf pd_3 rfl) rfl (by show 2 * 0 + _ ≤ _; exact Nat.le_of_eq rfl) (hb hby at_35) (fun _ _ => ⟨rfl, e34q, (by decide : 0 + 0 ≤ _), (by decide : 0 + 0 ≤ _)⟩)
    dsimp only [Pt.U, Pt.locs, Pt.cells, Pt.slots] at X35 l35 y35 z35 st35 hQ35
    subst l35 y35 z35
    obtain ⟨rfl, N35q, e35q⟩ := hQ35
    have N35 := Fr.app Ng34 N35q
    obtain ⟨Lg35, Xg35, Ng35⟩ := Stand_gen X35 N35
    refine Run.go st35 ?_
    show Run p e below s 0 0 (Q_rm0 Z p1 p2 p3 vEQUAL vNOT_EQUAL vLESS vLESS_OR_EQUAL vGREATER vGREATER_OR_EQUAL h0 n0) (T35.setTop (mkF m 38 #[.val (.int p1), .val (.int p2), .val (.int p3), .val (.ref vLESS), .val (.ref vGREATER), .unset] [(.int (F_rm4_4 (1 : Int32)))]))
    refine Run.go (fun _ k => XS.aloadN Xg35.here hx rfl (hb hby at_38) rfl rfl k) ?_
    show Run p e below s 0 0 (Q_rm0 Z p1 p2 p3 vEQUAL vNOT_EQUAL vLESS vLESS_OR_EQUAL vGREATER vGREATER_OR_EQUAL h0 n0) (T35.setTop (mkF m 39 #[.val (.int p1), .val (.int p2), .val (.int p3), .val (.ref vLESS), .val (.ref vGREATER), .unset] [(.ref vLESS), (.int (F_rm4_4 (1 : Int32)))]))
    refine Run.go (fun _ k => XS.iconst Xg35.here hx rfl (hb hby at_39) k) ?_
    show Run p e below s 0 0 (Q_rm0 Z p1 p2 p3 vEQUAL vNOT_EQUAL vLESS vLESS_OR_EQUAL vGREATER vGREATER_OR_EQUAL h0 n0) (T35.setTop (mkF m 40 #[.val (.int p1), .val (.int p2), .val (.int p3), .val (.ref vLESS), .val (.ref vGREATER), .unset] [(.int (-1 : Int32)), (.ref vLESS), (.int (F_rm4_4 (1 : Int32)))]))
    obtain ⟨_, _, ⟨T36, L36, k36, n36⟩, -, X36, ⟨Lc36, hQ36, l36, y36, z36⟩, st36⟩ := Jvm.LawKit.callS Xg35 hx (y := (⟨"com/example/exact_table/exacttable/ComparatorFlippedPinLaw", "holds", "(Lcom/example/exact_table/exacttable/Condition$Comparator;I)Z"⟩ : MethodName)) hown (mvT hZ (hw _ (List.mem_of_getElem? (i := 22) rfl))) (mvT hZ (hw _ (List.mem_of_getElem? (i := 23) rfl))) (mvT hZ (hw _ (List.mem_of_getElem? (i := 2) rfl))) (mvT hZ (hw _ (List.mem_of_getElem? (i := 24) rfl))) (by decide) (backOf (W := 1) (rm4_2 l Z a0 hw [] vLESS (-1 : Int32) vEQUAL vNOT_EQUAL vLESS_OR_EQUAL vGREATER vGREATER_OR_EQUAL h0 n0 Z0 S_Condition_Comparator_EQUAL S_Condition_Comparator_NOT_EQUAL S_Condition_Comparator_LESS S_Condition_Comparator_LESS_OR_EQUAL S_Condition_Comparator_GREATER S_Condition_Comparator_GREATER_OR_EQUAL ne_vEQUAL_vNOT_EQUAL ne_vEQUAL_vLESS ne_vEQUAL_vLESS_OR_EQUAL ne_vEQUAL_vGREATER ne_vEQUAL_vGREATER_OR_EQUAL ne_vNOT_EQUAL_vLESS ne_vNOT_EQUAL_vLESS_OR_EQUAL ne_vNOT_EQUAL_vGREATER ne_vNOT_EQUAL_vGREATER_OR_EQUAL ne_vLESS_vLESS_OR_EQUAL ne_vLESS_vGREATER ne_vLESS_vGREATER_OR_EQUAL ne_vLESS_OR_EQUAL_vGREATER ne_vLESS_OR_EQUAL_vGREATER_OR_EQUAL ne_vGREATER_vGREATER_OR_EQUAL) hZ (hw _ (List.mem_of_getElem? (i := 24) rfl)) (hw _ (List.mem_of_getElem? (i := 2) rfl)) (by decide) (by decide)) (g := (mkF m 40 #[.val (.int p1), .val (.int p2), .val (.int p3), .val (.ref vLESS), .val (.ref vGREATER), .unset] [(.int (-1 : Int32)), (.ref vLESS), (.int (F_rm4_4 (1 : Int32)))])) rfl (by rw [hml]; rfl) (argsL := [(.ref vLESS), (.int (-1 : Int32))]) (rest := [(.int (F_rm4_4 (1 : Int32)))]) (lenOf pd_3 rfl) rfl (by show 2 * 0 + _ ≤ _; exact Nat.le_of_eq rfl) (hb hby at_40) (fun _ _ => ⟨rfl, e35q, (by decide : 0 + 0 ≤ _), (by decide : 0 + 0 ≤ _)⟩)
    dsimp only [Pt.U, Pt.locs, Pt.cells, Pt.slots] at X36 l36 y36 z36 st36 hQ36
    subst l36 y36 z36
    obtain ⟨rfl, N36q, e36q⟩ := hQ36
    have N36 := Fr.app Ng35 N36q
    obtain ⟨Lg36, Xg36, Ng36⟩ := Stand_gen X36 N36
    refine Run.go st36 ?_
    show Run p e below s 0 0 (Q_rm0 Z p1 p2 p3 vEQUAL vNOT_EQUAL vLESS vLESS_OR_EQUAL vGREATER vGREATER_OR_EQUAL h0 n0) (T36.setTop (mkF m 43 #[.val (.int p1), .val (.int p2), .val (.int p3), .val (.ref vLESS), .val (.ref vGREATER), .unset] [(.int (F_rm4_2 (-1 : Int32))), (.int (F_rm4_4 (1 : Int32)))]))
    refine Run.go (fun _ k => XS.icmpNo Xg36.here hx rfl (hb hby at_43) rfl (teq (by decide)).2 k) ?_
    show Run p e below s 0 0 (Q_rm0 Z p1 p2 p3 vEQUAL vNOT_EQUAL vLESS vLESS_OR_EQUAL vGREATER vGREATER_OR_EQUAL h0 n0) (T36.setTop (mkF m 46 #[.val (.int p1), .val (.int p2), .val (.int p3), .val (.ref vLESS), .val (.ref vGREATER), .unset] []))
    refine Run.go (fun _ k => XS.aload Xg36.here hx rfl (hb hby at_46) rfl rfl k) ?_
    show Run p e below s 0 0 (Q_rm0 Z p1 p2 p3 vEQUAL vNOT_EQUAL vLESS vLESS_OR_EQUAL vGREATER vGREATER_OR_EQUAL h0 n0) (T36.setTop (mkF m 48 #[.val (.int p1), .val (.int p2), .val (.int p3), .val (.ref vLESS), .val (.ref vGREATER), .unset] [(.ref vGREATER)]))
    refine Run.go (fun _ k => XS.iconst Xg36.here hx rfl (hb hby at_48) k) ?_
    show Run p e below s 0 0 (Q_rm0 Z p1 p2 p3 vEQUAL vNOT_EQUAL vLESS vLESS_OR_EQUAL vGREATER vGREATER_OR_EQUAL h0 n0) (T36.setTop (mkF m 49 #[.val (.int p1), .val (.int p2), .val (.int p3), .val (.ref vLESS), .val (.ref vGREATER), .unset] [(.int (-1 : Int32)), (.ref vGREATER)]))
    obtain ⟨_, _, ⟨T37, L37, k37, n37⟩, -, X37, ⟨Lc37, hQ37, l37, y37, z37⟩, st37⟩ := Jvm.LawKit.callS Xg36 hx (y := (⟨"com/example/exact_table/exacttable/ComparatorFlippedPinLaw", "holds", "(Lcom/example/exact_table/exacttable/Condition$Comparator;I)Z"⟩ : MethodName)) hown (mvT hZ (hw _ (List.mem_of_getElem? (i := 22) rfl))) (mvT hZ (hw _ (List.mem_of_getElem? (i := 23) rfl))) (mvT hZ (hw _ (List.mem_of_getElem? (i := 2) rfl))) (mvT hZ (hw _ (List.mem_of_getElem? (i := 24) rfl))) (by decide) (backOf (W := 0) (rm4_4 l Z a0 hw [] vGREATER (-1 : Int32) vEQUAL vNOT_EQUAL vLESS vLESS_OR_EQUAL vGREATER_OR_EQUAL h0 n0 Z0 S_Condition_Comparator_EQUAL S_Condition_Comparator_NOT_EQUAL S_Condition_Comparator_LESS S_Condition_Comparator_LESS_OR_EQUAL S_Condition_Comparator_GREATER S_Condition_Comparator_GREATER_OR_EQUAL ne_vEQUAL_vNOT_EQUAL ne_vEQUAL_vLESS ne_vEQUAL_vLESS_OR_EQUAL ne_vEQUAL_vGREATER ne_vEQUAL_vGREATER_OR_EQUAL ne_vNOT_EQUAL_vLESS ne_vNOT_EQUAL_vLESS_OR_EQUAL ne_vNOT_EQUAL_vGREATER ne_vNOT_EQUAL_vGREATER_OR_EQUAL ne_vLESS_vLESS_OR_EQUAL ne_vLESS_vGREATER ne_vLESS_vGREATER_OR_EQUAL ne_vLESS_OR_EQUAL_vGREATER ne_vLESS_OR_EQUAL_vGREATER_OR_EQUAL ne_vGREATER_vGREATER_OR_EQUAL) hZ (hw _ (List.mem_of_getElem? (i := 24) rfl)) (hw _ (List.mem_of_getElem? (i := 2) rfl)) (by decide) (by decide)) (g := (mkF m 49 #[.val (.int p1), .val (.int p2), .val (.int p3), .val (.ref vLESS), .val (.ref vGREATER), .unset] [(.int (-1 : Int32)), (.ref vGREATER)])) rfl (by rw [hml]; rfl) (argsL := [(.ref vGREATER), (.int (-1 : Int32))]) (rest := []) (lenOf pd_3 rfl) rfl (by show 2 * 0 + _ ≤ _; exact Nat.le_of_eq rfl) (hb hby at_49) (fun _ _ => ⟨rfl, e36q, (by decide : 0 + 0 ≤ _), (by decide : 0 + 0 ≤ _)⟩)
    dsimp only [Pt.U, Pt.locs, Pt.cells, Pt.slots] at X37 l37 y37 z37 st37 hQ37
    subst l37 y37 z37
    obtain ⟨rfl, N37q, e37q⟩ := hQ37
    have N37 := Fr.app Ng36 N37q
    obtain ⟨Lg37, Xg37, Ng37⟩ := Stand_gen X37 N37
    refine Run.go st37 ?_
    show Run p e below s 0 0 (Q_rm0 Z p1 p2 p3 vEQUAL vNOT_EQUAL vLESS vLESS_OR_EQUAL vGREATER vGREATER_OR_EQUAL h0 n0) (T37.setTop (mkF m 52 #[.val (.int p1), .val (.int p2), .val (.int p3), .val (.ref vLESS), .val (.ref vGREATER), .unset] [(.int (F_rm4_4 (-1 : Int32)))]))
    refine Run.go (fun _ k => XS.aloadN Xg37.here hx rfl (hb hby at_52) rfl rfl k) ?_
    show Run p e below s 0 0 (Q_rm0 Z p1 p2 p3 vEQUAL vNOT_EQUAL vLESS vLESS_OR_EQUAL vGREATER vGREATER_OR_EQUAL h0 n0) (T37.setTop (mkF m 53 #[.val (.int p1), .val (.int p2), .val (.int p3), .val (.ref vLESS), .val (.ref vGREATER), .unset] [(.ref vLESS), (.int (F_rm4_4 (-1 : Int32)))]))
    refine Run.go (fun _ k => XS.iconst Xg37.here hx rfl (hb hby at_53) k) ?_
    show Run p e below s 0 0 (Q_rm0 Z p1 p2 p3 vEQUAL vNOT_EQUAL vLESS vLESS_OR_EQUAL vGREATER vGREATER_OR_EQUAL h0 n0) (T37.setTop (mkF m 54 #[.val (.int p1), .val (.int p2), .val (.int p3), .val (.ref vLESS), .val (.ref vGREATER), .unset] [(.int (1 : Int32)), (.ref vLESS), (.int (F_rm4_4 (-1 : Int32)))]))
    obtain ⟨_, _, ⟨T38, L38, k38, n38⟩, -, X38, ⟨Lc38, hQ38, l38, y38, z38⟩, st38⟩ := Jvm.LawKit.callS Xg37 hx (y := (⟨"com/example/exact_table/exacttable/ComparatorFlippedPinLaw", "holds", "(Lcom/example/exact_table/exacttable/Condition$Comparator;I)Z"⟩ : MethodName)) hown (mvT hZ (hw _ (List.mem_of_getElem? (i := 22) rfl))) (mvT hZ (hw _ (List.mem_of_getElem? (i := 23) rfl))) (mvT hZ (hw _ (List.mem_of_getElem? (i := 2) rfl))) (mvT hZ (hw _ (List.mem_of_getElem? (i := 24) rfl))) (by decide) (backOf (W := 1) (rm4_2 l Z a0 hw [] vLESS (1 : Int32) vEQUAL vNOT_EQUAL vLESS_OR_EQUAL vGREATER vGREATER_OR_EQUAL h0 n0 Z0 S_Condition_Comparator_EQUAL S_Condition_Comparator_NOT_EQUAL S_Condition_Comparator_LESS S_Condition_Comparator_LESS_OR_EQUAL S_Condition_Comparator_GREATER S_Condition_Comparator_GREATER_OR_EQUAL ne_vEQUAL_vNOT_EQUAL ne_vEQUAL_vLESS ne_vEQUAL_vLESS_OR_EQUAL ne_vEQUAL_vGREATER ne_vEQUAL_vGREATER_OR_EQUAL ne_vNOT_EQUAL_vLESS ne_vNOT_EQUAL_vLESS_OR_EQUAL ne_vNOT_EQUAL_vGREATER ne_vNOT_EQUAL_vGREATER_OR_EQUAL ne_vLESS_vLESS_OR_EQUAL ne_vLESS_vGREATER ne_vLESS_vGREATER_OR_EQUAL ne_vLESS_OR_EQUAL_vGREATER ne_vLESS_OR_EQUAL_vGREATER_OR_EQUAL ne_vGREATER_vGREATER_OR_EQUAL) hZ (hw _ (List.mem_of_getElem? (i := 24) rfl)) (hw _ (List.mem_of_getElem? (i := 2) rfl)) (by decide) (by decide)) (g := (mkF m 54 #[.val (.int p1), .val (.int p2), .val (.int p3), .val (.ref vLESS), .val (.ref vGREATER), .unset] [(.int (1 : Int32)), (.ref vLESS), (.int (F_rm4_4 (-1 : Int32)))])) rfl (by rw [hml]; rfl) (argsL := [(.ref vLESS), (.int (1 : Int32))]) (rest := [(.int (F_rm4_4 (-1 : Int32)))]) (lenOf pd_3 rfl) rfl (by show 2 * 0 + _ ≤ _; exact Nat.le_of_eq rfl) (hb hby at_54) (fun _ _ => ⟨rfl, e37q, (by decide : 0 + 0 ≤ _), (by decide : 0 + 0 ≤ _)⟩)
    dsimp only [Pt.U, Pt.locs, Pt.cells, Pt.slots] at X38 l38 y38 z38 st38 hQ38
    subst l38 y38 z38
    obtain ⟨rfl, N38q, e38q⟩ := hQ38
    have N38 := Fr.app Ng37 N38q
    obtain ⟨Lg38, Xg38, Ng38⟩ := Stand_gen X38 N38
    refine Run.go st38 ?_
    show Run p e below s 0 0 (Q_rm0 Z p1 p2 p3 vEQUAL vNOT_EQUAL vLESS vLESS_OR_EQUAL vGREATER vGREATER_OR_EQUAL h0 n0) (T38.setTop (mkF m 57 #[.val (.int p1), .val (.int p2), .val (.int p3), .val (.ref vLESS), .val (.ref vGREATER), .unset] [(.int (F_rm4_2 (1 : Int32))), (.int (F_rm4_4 (-1 : Int32)))]))
    refine Run.go (fun _ k => XS.icmpNo Xg38.here hx rfl (hb hby at_57) rfl (teq (by decide)).2 k) ?_
    show Run p e below s 0 0 (Q_rm0 Z p1 p2 p3 vEQUAL vNOT_EQUAL vLESS vLESS_OR_EQUAL vGREATER vGREATER_OR_EQUAL h0 n0) (T38.setTop (mkF m 60 #[.val (.int p1), .val (.int p2), .val (.int p3), .val (.ref vLESS), .val (.ref vGREATER), .unset] []))
    refine Run.go (fun _ k => XS.iconst Xg38.here hx rfl (hb hby at_60) k) ?_
    show Run p e below s 0 0 (Q_rm0 Z p1 p2 p3 vEQUAL vNOT_EQUAL vLESS vLESS_OR_EQUAL vGREATER vGREATER_OR_EQUAL h0 n0) (T38.setTop (mkF m 61 #[.val (.int p1), .val (.int p2), .val (.int p3), .val (.ref vLESS), .val (.ref vGREATER), .unset] [(.int (1 : Int32))]))
    refine Run.go (fun _ k => XS.goto Xg38.here hx rfl (pc0 := 61) (pc' := 65) rfl (hb hby at_61) (by decide) (by decide) k) ?_
    show Run p e below s 0 0 (Q_rm0 Z p1 p2 p3 vEQUAL vNOT_EQUAL vLESS vLESS_OR_EQUAL vGREATER vGREATER_OR_EQUAL h0 n0) (T38.setTop (mkF m 65 #[.val (.int p1), .val (.int p2), .val (.int p3), .val (.ref vLESS), .val (.ref vGREATER), .unset] [(.int (1 : Int32))]))
    refine Run.go (fun _ k => XS.istore Xg38.here hx rfl (hb hby at_65) rfl (l' := #[.val (.int p1), .val (.int p2), .val (.int p3), .val (.ref vLESS), .val (.ref vGREATER), .val (.int (1 : Int32))]) rfl k) ?_
    show Run p e below s 0 0 (Q_rm0 Z p1 p2 p3 vEQUAL vNOT_EQUAL vLESS vLESS_OR_EQUAL vGREATER vGREATER_OR_EQUAL h0 n0) (T38.setTop (mkF m 67 #[.val (.int p1), .val (.int p2), .val (.int p3), .val (.ref vLESS), .val (.ref vGREATER), .val (.int (1 : Int32))] []))
    refine Run.go (fun _ k => XS.iload Xg38.here hx rfl (hb hby at_67) rfl  k) ?_
    show Run p e below s 0 0 (Q_rm0 Z p1 p2 p3 vEQUAL vNOT_EQUAL vLESS vLESS_OR_EQUAL vGREATER vGREATER_OR_EQUAL h0 n0) (T38.setTop (mkF m 69 #[.val (.int p1), .val (.int p2), .val (.int p3), .val (.ref vLESS), .val (.ref vGREATER), .val (.int (1 : Int32))] [(.int (1 : Int32))]))
    refine Run.go (fun _ k => XS.ifNo Xg38.here hx rfl (hb hby at_69) rfl ((if0 _ _).trans (feq (by decide)).1) k) ?_
    show Run p e below s 0 0 (Q_rm0 Z p1 p2 p3 vEQUAL vNOT_EQUAL vLESS vLESS_OR_EQUAL vGREATER vGREATER_OR_EQUAL h0 n0) (T38.setTop (mkF m 72 #[.val (.int p1), .val (.int p2), .val (.int p3), .val (.ref vLESS), .val (.ref vGREATER), .val (.int (1 : Int32))] []))
    refine Run.go (fun _ k => XS.aload Xg38.here hx rfl (hb hby at_72) rfl rfl k) ?_
    show Run p e below s 0 0 (Q_rm0 Z p1 p2 p3 vEQUAL vNOT_EQUAL vLESS vLESS_OR_EQUAL vGREATER vGREATER_OR_EQUAL h0 n0) (T38.setTop (mkF m 74 #[.val (.int p1), .val (.int p2), .val (.int p3), .val (.ref vLESS), .val (.ref vGREATER), .val (.int (1 : Int32))] [(.ref vGREATER)]))
    refine Run.go (fun _ k => XS.iloadN Xg38.here hx rfl (hb hby at_74) rfl  k) ?_
    show Run p e below s 0 0 (Q_rm0 Z p1 p2 p3 vEQUAL vNOT_EQUAL vLESS vLESS_OR_EQUAL vGREATER vGREATER_OR_EQUAL h0 n0) (T38.setTop (mkF m 75 #[.val (.int p1), .val (.int p2), .val (.int p3), .val (.ref vLESS), .val (.ref vGREATER), .val (.int (1 : Int32))] [(.int p3), (.ref vGREATER)]))
    refine Run.go (fun _ k => XS.iloadN Xg38.here hx rfl (hb hby at_75) rfl  k) ?_
    show Run p e below s 0 0 (Q_rm0 Z p1 p2 p3 vEQUAL vNOT_EQUAL vLESS vLESS_OR_EQUAL vGREATER vGREATER_OR_EQUAL h0 n0) (T38.setTop (mkF m 76 #[.val (.int p1), .val (.int p2), .val (.int p3), .val (.ref vLESS), .val (.ref vGREATER), .val (.int (1 : Int32))] [(.int p2), (.int p3), (.ref vGREATER)]))
    obtain ⟨_, _, ⟨T39, L39, k39, n39⟩, -, X39, ⟨Lc39, hQ39, l39, y39, z39⟩, st39⟩ := Jvm.LawKit.callS Xg38 hx (y := (⟨"com/example/exact_table/exacttable/ComparatorFlippedPinLaw", "sign", "(II)I"⟩ : MethodName)) hown (mvT hZ (hw _ (List.mem_of_getElem? (i := 25) rfl))) (mvT hZ (hw _ (List.mem_of_getElem? (i := 26) rfl))) (mvT hZ (hw _ (List.mem_of_getElem? (i := 2) rfl))) (mvT hZ (hw _ (List.mem_of_getElem? (i := 27) rfl))) (by decide) (backOf (W := 1) (rm5 l Z a0 hw [] p3 p2 h0 n0 Z0 ) hZ (hw _ (List.mem_of_getElem? (i := 27) rfl)) (hw _ (List.mem_of_getElem? (i := 2) rfl)) (by decide) (by decide)) (g := (mkF m 76 #[.val (.int p1), .val (.int p2), .val (.int p3), .val (.ref vLESS), .val (.ref vGREATER), .val (.int (1 : Int32))] [(.int p2), (.int p3), (.ref vGREATER)])) rfl (by rw [hml]; rfl) (argsL := [(.int p3), (.int p2)]) (rest := [(.ref vGREATER)]) (lenOf pd_4 rfl) rfl (by show 2 * 0 + _ ≤ _; exact Nat.le_of_eq rfl) (hb hby at_76) (fun _ _ => ⟨rfl, e38q, (by decide : 0 + 0 ≤ _), (by decide : 0 + 0 ≤ _)⟩)
    dsimp only [Pt.U, Pt.locs, Pt.cells, Pt.slots] at X39 l39 y39 z39 st39 hQ39
    subst l39 y39 z39
    obtain ⟨rfl, N39q, e39q⟩ := hQ39
    have N39 := Fr.app Ng38 N39q
    obtain ⟨Lg39, Xg39, Ng39⟩ := Stand_gen X39 N39
    refine Run.go st39 ?_
    show Run p e below s 0 0 (Q_rm0 Z p1 p2 p3 vEQUAL vNOT_EQUAL vLESS vLESS_OR_EQUAL vGREATER vGREATER_OR_EQUAL h0 n0) (T39.setTop (mkF m 79 #[.val (.int p1), .val (.int p2), .val (.int p3), .val (.ref vLESS), .val (.ref vGREATER), .val (.int (1 : Int32))] [(.int (F_rm5 p3 p2)), (.ref vGREATER)]))
    obtain ⟨_, _, ⟨T40, L40, k40, n40⟩, -, X40, ⟨Lc40, hQ40, l40, y40, z40⟩, st40⟩ := Jvm.LawKit.callS Xg39 hx (y := (⟨"com/example/exact_table/exacttable/ComparatorFlippedPinLaw", "holds", "(Lcom/example/exact_table/exacttable/Condition$Comparator;I)Z"⟩ : MethodName)) hown (mvT hZ (hw _ (List.mem_of_getElem? (i := 22) rfl))) (mvT hZ (hw _ (List.mem_of_getElem? (i := 23) rfl))) (mvT hZ (hw _ (List.mem_of_getElem? (i := 2) rfl))) (mvT hZ (hw _ (List.mem_of_getElem? (i := 24) rfl))) (by decide) (backOf (W := 0) (rm4_4 l Z a0 hw [] vGREATER (F_rm5 p3 p2) vEQUAL vNOT_EQUAL vLESS vLESS_OR_EQUAL vGREATER_OR_EQUAL h0 n0 Z0 S_Condition_Comparator_EQUAL S_Condition_Comparator_NOT_EQUAL S_Condition_Comparator_LESS S_Condition_Comparator_LESS_OR_EQUAL S_Condition_Comparator_GREATER S_Condition_Comparator_GREATER_OR_EQUAL ne_vEQUAL_vNOT_EQUAL ne_vEQUAL_vLESS ne_vEQUAL_vLESS_OR_EQUAL ne_vEQUAL_vGREATER ne_vEQUAL_vGREATER_OR_EQUAL ne_vNOT_EQUAL_vLESS ne_vNOT_EQUAL_vLESS_OR_EQUAL ne_vNOT_EQUAL_vGREATER ne_vNOT_EQUAL_vGREATER_OR_EQUAL ne_vLESS_vLESS_OR_EQUAL ne_vLESS_vGREATER ne_vLESS_vGREATER_OR_EQUAL ne_vLESS_OR_EQUAL_vGREATER ne_vLESS_OR_EQUAL_vGREATER_OR_EQUAL ne_vGREATER_vGREATER_OR_EQUAL) hZ (hw _ (List.mem_of_getElem? (i := 24) rfl)) (hw _ (List.mem_of_getElem? (i := 2) rfl)) (by decide) (by decide)) (g := (mkF m 79 #[.val (.int p1), .val (.int p2), .val (.int p3), .val (.ref vLESS), .val (.ref vGREATER), .val (.int (1 : Int32))] [(.int (F_rm5 p3 p2)), (.ref vGREATER)])) rfl (by rw [hml]; rfl) (argsL := [(.ref vGREATER), (.int (F_rm5 p3 p2))]) (rest := []) (lenOf pd_3 rfl) rfl (by show 2 * 0 + _ ≤ _; exact Nat.le_of_eq rfl) (hb hby at_79) (fun _ _ => ⟨rfl, e39q, (by decide : 0 + 0 ≤ _), (by decide : 0 + 0 ≤ _)⟩)
    dsimp only [Pt.U, Pt.locs, Pt.cells, Pt.slots] at X40 l40 y40 z40 st40 hQ40
    subst l40 y40 z40
    obtain ⟨rfl, N40q, e40q⟩ := hQ40
    have N40 := Fr.app Ng39 N40q
    obtain ⟨Lg40, Xg40, Ng40⟩ := Stand_gen X40 N40
    refine Run.go st40 ?_
    show Run p e below s 0 0 (Q_rm0 Z p1 p2 p3 vEQUAL vNOT_EQUAL vLESS vLESS_OR_EQUAL vGREATER vGREATER_OR_EQUAL h0 n0) (T40.setTop (mkF m 82 #[.val (.int p1), .val (.int p2), .val (.int p3), .val (.ref vLESS), .val (.ref vGREATER), .val (.int (1 : Int32))] [(.int (F_rm4_4 (F_rm5 p3 p2)))]))
    refine Run.go (fun _ k => XS.aloadN Xg40.here hx rfl (hb hby at_82) rfl rfl k) ?_
    show Run p e below s 0 0 (Q_rm0 Z p1 p2 p3 vEQUAL vNOT_EQUAL vLESS vLESS_OR_EQUAL vGREATER vGREATER_OR_EQUAL h0 n0) (T40.setTop (mkF m 83 #[.val (.int p1), .val (.int p2), .val (.int p3), .val (.ref vLESS), .val (.ref vGREATER), .val (.int (1 : Int32))] [(.ref vLESS), (.int (F_rm4_4 (F_rm5 p3 p2)))]))
    refine Run.go (fun _ k => XS.iloadN Xg40.here hx rfl (hb hby at_83) rfl  k) ?_
    show Run p e below s 0 0 (Q_rm0 Z p1 p2 p3 vEQUAL vNOT_EQUAL vLESS vLESS_OR_EQUAL vGREATER vGREATER_OR_EQUAL h0 n0) (T40.setTop (mkF m 84 #[.val (.int p1), .val (.int p2), .val (.int p3), .val (.ref vLESS), .val (.ref vGREATER), .val (.int (1 : Int32))] [(.int p2), (.ref vLESS), (.int (F_rm4_4 (F_rm5 p3 p2)))]))
    refine Run.go (fun _ k => XS.iloadN Xg40.here hx rfl (hb hby at_84) rfl  k) ?_
    show Run p e below s 0 0 (Q_rm0 Z p1 p2 p3 vEQUAL vNOT_EQUAL vLESS vLESS_OR_EQUAL vGREATER vGREATER_OR_EQUAL h0 n0) (T40.setTop (mkF m 85 #[.val (.int p1), .val (.int p2), .val (.int p3), .val (.ref vLESS), .val (.ref vGREATER), .val (.int (1 : Int32))] [(.int p3), (.int p2), (.ref vLESS), (.int (F_rm4_4 (F_rm5 p3 p2)))]))
    obtain ⟨_, _, ⟨T41, L41, k41, n41⟩, -, X41, ⟨Lc41, hQ41, l41, y41, z41⟩, st41⟩ := Jvm.LawKit.callS Xg40 hx (y := (⟨"com/example/exact_table/exacttable/ComparatorFlippedPinLaw", "sign", "(II)I"⟩ : MethodName)) hown (mvT hZ (hw _ (List.mem_of_getElem? (i := 25) rfl))) (mvT hZ (hw _ (List.mem_of_getElem? (i := 26) rfl))) (mvT hZ (hw _ (List.mem_of_getElem? (i := 2) rfl))) (mvT hZ (hw _ (List.mem_of_getElem? (i := 27) rfl))) (by decide) (backOf (W := 2) (rm5 l Z a0 hw [] p2 p3 h0 n0 Z0 ) hZ (hw _ (List.mem_of_getElem? (i := 27) rfl)) (hw _ (List.mem_of_getElem? (i := 2) rfl)) (by decide) (by decide)) (g := (mkF m 85 #[.val (.int p1), .val (.int p2), .val (.int p3), .val (.ref vLESS), .val (.ref vGREATER), .val (.int (1 : Int32))] [(.int p3), (.int p2), (.ref vLESS), (.int (F_rm4_4 (F_rm5 p3 p2)))])) rfl (by rw [hml]; rfl) (argsL := [(.int p2), (.int p3)]) (rest := [(.ref vLESS), (.int (F_rm4_4 (F_rm5 p3 p2)))]) (lenOf pd_4 rfl) rfl (by show 2 * 0 + _ ≤ _; exact Nat.le_of_eq rfl) (hb hby at_85) (fun _ _ => ⟨rfl, e40q, (by decide : 0 + 0 ≤ _), (by decide : 0 + 0 ≤ _)⟩)
    dsimp only [Pt.U, Pt.locs, Pt.cells, Pt.slots] at X41 l41 y41 z41 st41 hQ41
    subst l41 y41 z41
    obtain ⟨rfl, N41q, e41q⟩ := hQ41
    have N41 := Fr.app Ng40 N41q
    obtain ⟨Lg41, Xg41, Ng41⟩ := Stand_gen X41 N41
    refine Run.go st41 ?_
    show Run p e below s 0 0 (Q_rm0 Z p1 p2 p3 vEQUAL vNOT_EQUAL vLESS vLESS_OR_EQUAL vGREATER vGREATER_OR_EQUAL h0 n0) (T41.setTop (mkF m 88 #[.val (.int p1), .val (.int p2), .val (.int p3), .val (.ref vLESS), .val (.ref vGREATER), .val (.int (1 : Int32))] [(.int (F_rm5 p2 p3)), (.ref vLESS), (.int (F_rm4_4 (F_rm5 p3 p2)))]))
    obtain ⟨_, _, ⟨T42, L42, k42, n42⟩, -, X42, ⟨Lc42, hQ42, l42, y42, z42⟩, st42⟩ := Jvm.LawKit.callS Xg41 hx (y := (⟨"com/example/exact_table/exacttable/ComparatorFlippedPinLaw", "holds", "(Lcom/example/exact_table/exacttable/Condition$Comparator;I)Z"⟩ : MethodName)) hown (mvT hZ (hw _ (List.mem_of_getElem? (i := 22) rfl))) (mvT hZ (hw _ (List.mem_of_getElem? (i := 23) rfl))) (mvT hZ (hw _ (List.mem_of_getElem? (i := 2) rfl))) (mvT hZ (hw _ (List.mem_of_getElem? (i := 24) rfl))) (by decide) (backOf (W := 1) (rm4_2 l Z a0 hw [] vLESS (F_rm5 p2 p3) vEQUAL vNOT_EQUAL vLESS_OR_EQUAL vGREATER vGREATER_OR_EQUAL h0 n0 Z0 S_Condition_Comparator_EQUAL S_Condition_Comparator_NOT_EQUAL S_Condition_Comparator_LESS S_Condition_Comparator_LESS_OR_EQUAL S_Condition_Comparator_GREATER S_Condition_Comparator_GREATER_OR_EQUAL ne_vEQUAL_vNOT_EQUAL ne_vEQUAL_vLESS ne_vEQUAL_vLESS_OR_EQUAL ne_vEQUAL_vGREATER ne_vEQUAL_vGREATER_OR_EQUAL ne_vNOT_EQUAL_vLESS ne_vNOT_EQUAL_vLESS_OR_EQUAL ne_vNOT_EQUAL_vGREATER ne_vNOT_EQUAL_vGREATER_OR_EQUAL ne_vLESS_vLESS_OR_EQUAL ne_vLESS_vGREATER ne_vLESS_vGREATER_OR_EQUAL ne_vLESS_OR_EQUAL_vGREATER ne_vLESS_OR_EQUAL_vGREATER_OR_EQUAL ne_vGREATER_vGREATER_OR_EQUAL) hZ (hw _ (List.mem_of_getElem? (i := 24) rfl)) (hw _ (List.mem_of_getElem? (i := 2) rfl)) (by decide) (by decide)) (g := (mkF m 88 #[.val (.int p1), .val (.int p2), .val (.int p3), .val (.ref vLESS), .val (.ref vGREATER), .val (.int (1 : Int32))] [(.int (F_rm5 p2 p3)), (.ref vLESS), (.int (F_rm4_4 (F_rm5 p3 p2)))])) rfl (by rw [hml]; rfl) (argsL := [(.ref vLESS), (.int (F_rm5 p2 p3))]) (rest := [(.int (F_rm4_4 (F_rm5 p3 p2)))]) (lenOf pd_3 rfl) rfl (by show 2 * 0 + _ ≤ _; exact Nat.le_of_eq rfl) (hb hby at_88) (fun _ _ => ⟨rfl, e41q, (by decide : 0 + 0 ≤ _), (by decide : 0 + 0 ≤ _)⟩)
    dsimp only [Pt.U, Pt.locs, Pt.cells, Pt.slots] at X42 l42 y42 z42 st42 hQ42
    subst l42 y42 z42
    obtain ⟨rfl, N42q, e42q⟩ := hQ42
    have N42 := Fr.app Ng41 N42q
    obtain ⟨Lg42, Xg42, Ng42⟩ := Stand_gen X42 N42
    refine Run.go st42 ?_
    show Run p e below s 0 0 (Q_rm0 Z p1 p2 p3 vEQUAL vNOT_EQUAL vLESS vLESS_OR_EQUAL vGREATER vGREATER_OR_EQUAL h0 n0) (T42.setTop (mkF m 91 #[.val (.int p1), .val (.int p2), .val (.int p3), .val (.ref vLESS), .val (.ref vGREATER), .val (.int (1 : Int32))] [(.int (F_rm4_2 (F_rm5 p2 p3))), (.int (F_rm4_4 (F_rm5 p3 p2)))]))
    refine Run.go (fun _ k => XS.icmpNo Xg42.here hx rfl (hb hby at_91) rfl (teq (own_h2 _ _)).2 k) ?_
    show Run p e below s 0 0 (Q_rm0 Z p1 p2 p3 vEQUAL vNOT_EQUAL vLESS vLESS_OR_EQUAL vGREATER vGREATER_OR_EQUAL h0 n0) (T42.setTop (mkF m 94 #[.val (.int p1), .val (.int p2), .val (.int p3), .val (.ref vLESS), .val (.ref vGREATER), .val (.int (1 : Int32))] []))
    refine Run.go (fun _ k => XS.iconst Xg42.here hx rfl (hb hby at_94) k) ?_
    show Run p e below s 0 0 (Q_rm0 Z p1 p2 p3 vEQUAL vNOT_EQUAL vLESS vLESS_OR_EQUAL vGREATER vGREATER_OR_EQUAL h0 n0) (T42.setTop (mkF m 95 #[.val (.int p1), .val (.int p2), .val (.int p3), .val (.ref vLESS), .val (.ref vGREATER), .val (.int (1 : Int32))] [(.int (1 : Int32))]))
    refine Run.go (fun _ k => XS.goto Xg42.here hx rfl (pc0 := 95) (pc' := 99) rfl (hb hby at_95) (by decide) (by decide) k) ?_
    show Run p e below s 0 0 (Q_rm0 Z p1 p2 p3 vEQUAL vNOT_EQUAL vLESS vLESS_OR_EQUAL vGREATER vGREATER_OR_EQUAL h0 n0) (T42.setTop (mkF m 99 #[.val (.int p1), .val (.int p2), .val (.int p3), .val (.ref vLESS), .val (.ref vGREATER), .val (.int (1 : Int32))] [(.int (1 : Int32))]))
    refine Run.go (fun _ k => XS.istore Xg42.here hx rfl (hb hby at_99) rfl (l' := #[.val (.int p1), .val (.int p2), .val (.int p3), .val (.ref vLESS), .val (.ref vGREATER), .val (.int (1 : Int32))]) rfl k) ?_
    show Run p e below s 0 0 (Q_rm0 Z p1 p2 p3 vEQUAL vNOT_EQUAL vLESS vLESS_OR_EQUAL vGREATER vGREATER_OR_EQUAL h0 n0) (T42.setTop (mkF m 101 #[.val (.int p1), .val (.int p2), .val (.int p3), .val (.ref vLESS), .val (.ref vGREATER), .val (.int (1 : Int32))] []))
    refine Run.go (fun _ k => XS.iload Xg42.here hx rfl (hb hby at_101) rfl  k) ?_
    show Run p e below s 0 0 (Q_rm0 Z p1 p2 p3 vEQUAL vNOT_EQUAL vLESS vLESS_OR_EQUAL vGREATER vGREATER_OR_EQUAL h0 n0) (T42.setTop (mkF m 103 #[.val (.int p1), .val (.int p2), .val (.int p3), .val (.ref vLESS), .val (.ref vGREATER), .val (.int (1 : Int32))] [(.int (1 : Int32))]))
    refine Run.go (fun _ k => XS.ifNo Xg42.here hx rfl (hb hby at_103) rfl ((if0 _ _).trans (feq (by decide)).1) k) ?_
    show Run p e below s 0 0 (Q_rm0 Z p1 p2 p3 vEQUAL vNOT_EQUAL vLESS vLESS_OR_EQUAL vGREATER vGREATER_OR_EQUAL h0 n0) (T42.setTop (mkF m 106 #[.val (.int p1), .val (.int p2), .val (.int p3), .val (.ref vLESS), .val (.ref vGREATER), .val (.int (1 : Int32))] []))
    refine Run.go (fun _ k => XS.aload Xg42.here hx rfl (hb hby at_106) rfl rfl k) ?_
    show Run p e below s 0 0 (Q_rm0 Z p1 p2 p3 vEQUAL vNOT_EQUAL vLESS vLESS_OR_EQUAL vGREATER vGREATER_OR_EQUAL h0 n0) (T42.setTop (mkF m 108 #[.val (.int p1), .val (.int p2), .val (.int p3), .val (.ref vLESS), .val (.ref vGREATER), .val (.int (1 : Int32))] [(.ref vGREATER)]))
    obtain ⟨cq43, kq43, q43a, q43b, q43c⟩ := isOf hZ e42q E_vGREATER
    obtain ⟨_, _, ⟨T43, L43, k43, n43⟩, -, X43, ⟨Lc43, hQ43, l43, y43, z43⟩, st43⟩ := Xg42.virtualBack hx (y := (⟨"com/example/exact_table/exacttable/Condition$Comparator", "flipped", "()Lcom/example/exact_table/exacttable/Condition$Comparator;"⟩ : MethodName)) (z := (⟨"com/example/exact_table/exacttable/Condition$Comparator", "flipped", "()Lcom/example/exact_table/exacttable/Condition$Comparator;"⟩ : MethodName)) hown (mvT hZ (hw _ (List.mem_of_getElem? (i := 8) rfl))) (mvT hZ (hw _ (List.mem_of_getElem? (i := 9) rfl))) (notFace_of_selects (args := #[]) (mvT hZ (hw _ (List.mem_of_getElem? (i := 11) rfl)))) (mvT hZ (hw _ (List.mem_of_getElem? (i := 11) rfl))) (mvT hZ (hw _ (List.mem_of_getElem? (i := 10) rfl))) (by decide) (backOf (W := 0) (rm2_4 l Z a0 hw [] vGREATER vEQUAL vNOT_EQUAL vLESS vLESS_OR_EQUAL vGREATER_OR_EQUAL h0 n0 Z0 S_Condition_Comparator_EQUAL S_Condition_Comparator_NOT_EQUAL S_Condition_Comparator_LESS S_Condition_Comparator_LESS_OR_EQUAL S_Condition_Comparator_GREATER S_Condition_Comparator_GREATER_OR_EQUAL F_ordinal_vGREATER E_vGREATER) hZ (hw _ (List.mem_of_getElem? (i := 12) rfl)) (hw _ (List.mem_of_getElem? (i := 6) rfl)) (by decide) (by decide)) q43a q43c (g := (mkF m 108 #[.val (.int p1), .val (.int p2), .val (.int p3), .val (.ref vLESS), .val (.ref vGREATER), .val (.int (1 : Int32))] [(.ref vGREATER)])) rfl (by rw [hml]; rfl) (Steps.refl _) (argsL := []) (rest := []) (lenOf pd_2 rfl) rfl (by show 2 * 0 + _ ≤ _; exact Nat.le_of_eq rfl) (hb hby at_108) (fun _ _ => ⟨rfl, e42q, (by decide : 0 + 0 ≤ _), (by decide : 0 + 0 ≤ _)⟩)
    dsimp only [Pt.U, Pt.locs, Pt.cells, Pt.slots] at X43 l43 y43 z43 st43 hQ43
    subst l43 y43 z43
    obtain ⟨rfl, N43q, e43q⟩ := hQ43
    have N43 := Fr.app Ng42 N43q
    obtain ⟨Lg43, Xg43, Ng43⟩ := Stand_gen X43 N43
    refine Run.tr st43 ?_
    show Run p e below s 0 0 (Q_rm0 Z p1 p2 p3 vEQUAL vNOT_EQUAL vLESS vLESS_OR_EQUAL vGREATER vGREATER_OR_EQUAL h0 n0) (T43.setTop (mkF m 111 #[.val (.int p1), .val (.int p2), .val (.int p3), .val (.ref vLESS), .val (.ref vGREATER), .val (.int (1 : Int32))] [(.ref vLESS)]))
    refine Run.go (fun _ k => XS.aloadN Xg43.here hx rfl (hb hby at_111) rfl rfl k) ?_
    show Run p e below s 0 0 (Q_rm0 Z p1 p2 p3 vEQUAL vNOT_EQUAL vLESS vLESS_OR_EQUAL vGREATER vGREATER_OR_EQUAL h0 n0) (T43.setTop (mkF m 112 #[.val (.int p1), .val (.int p2), .val (.int p3), .val (.ref vLESS), .val (.ref vGREATER), .val (.int (1 : Int32))] [(.ref vLESS), (.ref vLESS)]))
    refine Run.go (fun _ k => Jvm.RoadKit.acmp (g := (mkF m 112 #[.val (.int p1), .val (.int p2), .val (.int p3), .val (.ref vLESS), .val (.ref vGREATER), .val (.int (1 : Int32))] [(.ref vLESS), (.ref vLESS)])) Xg43 hx rfl rfl rfl (pc0 := 112) (pc' := 115) (same := true) rfl (hb hby at_112) rfl (decide_eq_true rfl) (by decide) (by decide) k) ?_
    show Run p e below s 0 0 (Q_rm0 Z p1 p2 p3 vEQUAL vNOT_EQUAL vLESS vLESS_OR_EQUAL vGREATER vGREATER_OR_EQUAL h0 n0) (T43.setTop (mkF m 115 #[.val (.int p1), .val (.int p2), .val (.int p3), .val (.ref vLESS), .val (.ref vGREATER), .val (.int (1 : Int32))] []))
    refine Run.go (fun _ k => XS.iconst Xg43.here hx rfl (hb hby at_115) k) ?_
    show Run p e below s 0 0 (Q_rm0 Z p1 p2 p3 vEQUAL vNOT_EQUAL vLESS vLESS_OR_EQUAL vGREATER vGREATER_OR_EQUAL h0 n0) (T43.setTop (mkF m 116 #[.val (.int p1), .val (.int p2), .val (.int p3), .val (.ref vLESS), .val (.ref vGREATER), .val (.int (1 : Int32))] [(.int (1 : Int32))]))
    refine Run.go (fun _ k => XS.goto Xg43.here hx rfl (pc0 := 116) (pc' := 120) rfl (hb hby at_116) (by decide) (by decide) k) ?_
    show Run p e below s 0 0 (Q_rm0 Z p1 p2 p3 vEQUAL vNOT_EQUAL vLESS vLESS_OR_EQUAL vGREATER vGREATER_OR_EQUAL h0 n0) (T43.setTop (mkF m 120 #[.val (.int p1), .val (.int p2), .val (.int p3), .val (.ref vLESS), .val (.ref vGREATER), .val (.int (1 : Int32))] [(.int (1 : Int32))]))
    refine Run.go (fun _ k => XS.istore Xg43.here hx rfl (hb hby at_120) rfl (l' := #[.val (.int p1), .val (.int p2), .val (.int p3), .val (.ref vLESS), .val (.ref vGREATER), .val (.int (1 : Int32))]) rfl k) ?_
    show Run p e below s 0 0 (Q_rm0 Z p1 p2 p3 vEQUAL vNOT_EQUAL vLESS vLESS_OR_EQUAL vGREATER vGREATER_OR_EQUAL h0 n0) (T43.setTop (mkF m 122 #[.val (.int p1), .val (.int p2), .val (.int p3), .val (.ref vLESS), .val (.ref vGREATER), .val (.int (1 : Int32))] []))
    refine Run.go (fun _ k => XS.iload Xg43.here hx rfl (hb hby at_122) rfl  k) ?_
    show Run p e below s 0 0 (Q_rm0 Z p1 p2 p3 vEQUAL vNOT_EQUAL vLESS vLESS_OR_EQUAL vGREATER vGREATER_OR_EQUAL h0 n0) (T43.setTop (mkF m 124 #[.val (.int p1), .val (.int p2), .val (.int p3), .val (.ref vLESS), .val (.ref vGREATER), .val (.int (1 : Int32))] [(.int (1 : Int32))]))
    exact Run.retN (y := 1) Xg43 hx (t := .boolean) Bd.returns (by simp) rfl Bd.notSynchronized (hb hby at_124) (by decide) (by decide) ⟨rfl, Ng43⟩
  · show Run p e below s 0 0 (Q_rm0 Z p1 p2 p3 vEQUAL vNOT_EQUAL vLESS vLESS_OR_EQUAL vGREATER vGREATER_OR_EQUAL h0 n0) (s₁.setTop (mkF m 0 #[.val (.int p1), .val (.int p2), .val (.int p3), .unset, .unset, .unset] []))
    refine Run.go (fun _ k => XS.iloadN X0.here hx rfl (hb hby at_0) rfl  k) ?_
    show Run p e below s 0 0 (Q_rm0 Z p1 p2 p3 vEQUAL vNOT_EQUAL vLESS vLESS_OR_EQUAL vGREATER vGREATER_OR_EQUAL h0 n0) (s₁.setTop (mkF m 1 #[.val (.int p1), .val (.int p2), .val (.int p3), .unset, .unset, .unset] [(.int p1)]))
    obtain ⟨_, _, ⟨T44, L44, k44, n44⟩, -, X44, ⟨Lc44, hQ44, l44, y44, z44⟩, st44⟩ := Jvm.LawKit.callS X0 hx (y := (⟨"com/example/exact_table/exacttable/ComparatorFlippedPinLaw", "pick", "(I)Lcom/example/exact_table/exacttable/Condition$Comparator;"⟩ : MethodName)) hown (mvT hZ (hw _ (List.mem_of_getElem? (i := 0) rfl))) (mvT hZ (hw _ (List.mem_of_getElem? (i := 1) rfl))) (mvT hZ (hw _ (List.mem_of_getElem? (i := 2) rfl))) (mvT hZ (hw _ (List.mem_of_getElem? (i := 3) rfl))) (by decide) (backOf (W := 0) (rm1_3 l Z a0 hw [] p1 vEQUAL vNOT_EQUAL vLESS vLESS_OR_EQUAL vGREATER vGREATER_OR_EQUAL h0 n0 Z0 S_Condition_Comparator_EQUAL S_Condition_Comparator_NOT_EQUAL S_Condition_Comparator_LESS S_Condition_Comparator_LESS_OR_EQUAL S_Condition_Comparator_GREATER S_Condition_Comparator_GREATER_OR_EQUAL hk4) hZ (hw _ (List.mem_of_getElem? (i := 3) rfl)) (hw _ (List.mem_of_getElem? (i := 2) rfl)) (by decide) (by decide)) (g := (mkF m 1 #[.val (.int p1), .val (.int p2), .val (.int p3), .unset, .unset, .unset] [(.int p1)])) rfl (by rw [hml]; rfl) (argsL := [(.int p1)]) (rest := []) (lenOf pd_1 rfl) rfl (by show 2 * 0 + _ ≤ _; exact Nat.le_of_eq rfl) (hb hby at_1) (fun _ _ => ⟨rfl, e0, (by decide : 0 + 0 ≤ _), (by decide : 0 + 0 ≤ _)⟩)
    dsimp only [Pt.U, Pt.locs, Pt.cells, Pt.slots] at X44 l44 y44 z44 st44 hQ44
    subst l44 y44 z44
    obtain ⟨rfl, N44q, e44q⟩ := hQ44
    have N44 := Fr.app N0 N44q
    obtain ⟨Lg44, Xg44, Ng44⟩ := Stand_gen X44 N44
    refine Run.go st44 ?_
    show Run p e below s 0 0 (Q_rm0 Z p1 p2 p3 vEQUAL vNOT_EQUAL vLESS vLESS_OR_EQUAL vGREATER vGREATER_OR_EQUAL h0 n0) (T44.setTop (mkF m 4 #[.val (.int p1), .val (.int p2), .val (.int p3), .unset, .unset, .unset] [(.ref vLESS_OR_EQUAL)]))
    refine Run.go (fun _ k => XS.astoreN Xg44.here hx rfl (hb hby at_4) rfl rfl (l' := #[.val (.int p1), .val (.int p2), .val (.int p3), .val (.ref vLESS_OR_EQUAL), .unset, .unset]) rfl k) ?_
    show Run p e below s 0 0 (Q_rm0 Z p1 p2 p3 vEQUAL vNOT_EQUAL vLESS vLESS_OR_EQUAL vGREATER vGREATER_OR_EQUAL h0 n0) (T44.setTop (mkF m 5 #[.val (.int p1), .val (.int p2), .val (.int p3), .val (.ref vLESS_OR_EQUAL), .unset, .unset] []))
    refine Run.go (fun _ k => XS.aloadN Xg44.here hx rfl (hb hby at_5) rfl rfl k) ?_
    show Run p e below s 0 0 (Q_rm0 Z p1 p2 p3 vEQUAL vNOT_EQUAL vLESS vLESS_OR_EQUAL vGREATER vGREATER_OR_EQUAL h0 n0) (T44.setTop (mkF m 6 #[.val (.int p1), .val (.int p2), .val (.int p3), .val (.ref vLESS_OR_EQUAL), .unset, .unset] [(.ref vLESS_OR_EQUAL)]))
    obtain ⟨cq45, kq45, q45a, q45b, q45c⟩ := isOf hZ e44q E_vLESS_OR_EQUAL
    obtain ⟨_, _, ⟨T45, L45, k45, n45⟩, -, X45, ⟨Lc45, hQ45, l45, y45, z45⟩, st45⟩ := Xg44.virtualBack hx (y := (⟨"com/example/exact_table/exacttable/Condition$Comparator", "flipped", "()Lcom/example/exact_table/exacttable/Condition$Comparator;"⟩ : MethodName)) (z := (⟨"com/example/exact_table/exacttable/Condition$Comparator", "flipped", "()Lcom/example/exact_table/exacttable/Condition$Comparator;"⟩ : MethodName)) hown (mvT hZ (hw _ (List.mem_of_getElem? (i := 8) rfl))) (mvT hZ (hw _ (List.mem_of_getElem? (i := 9) rfl))) (notFace_of_selects (args := #[]) (mvT hZ (hw _ (List.mem_of_getElem? (i := 11) rfl)))) (mvT hZ (hw _ (List.mem_of_getElem? (i := 11) rfl))) (mvT hZ (hw _ (List.mem_of_getElem? (i := 10) rfl))) (by decide) (backOf (W := 0) (rm2_3 l Z a0 hw [] vLESS_OR_EQUAL vEQUAL vNOT_EQUAL vLESS vGREATER vGREATER_OR_EQUAL h0 n0 Z0 S_Condition_Comparator_EQUAL S_Condition_Comparator_NOT_EQUAL S_Condition_Comparator_LESS S_Condition_Comparator_LESS_OR_EQUAL S_Condition_Comparator_GREATER S_Condition_Comparator_GREATER_OR_EQUAL F_ordinal_vLESS_OR_EQUAL E_vLESS_OR_EQUAL) hZ (hw _ (List.mem_of_getElem? (i := 12) rfl)) (hw _ (List.mem_of_getElem? (i := 6) rfl)) (by decide) (by decide)) q45a q45c (g := (mkF m 6 #[.val (.int p1), .val (.int p2), .val (.int p3), .val (.ref vLESS_OR_EQUAL), .unset, .unset] [(.ref vLESS_OR_EQUAL)])) rfl (by rw [hml]; rfl) (Steps.refl _) (argsL := []) (rest := []) (lenOf pd_2 rfl) rfl (by show 2 * 0 + _ ≤ _; exact Nat.le_of_eq rfl) (hb hby at_6) (fun _ _ => ⟨rfl, e44q, (by decide : 0 + 0 ≤ _), (by decide : 0 + 0 ≤ _)⟩)
    dsimp only [Pt.U, Pt.locs, Pt.cells, Pt.slots] at X45 l45 y45 z45 st45 hQ45
    subst l45 y45 z45
    obtain ⟨rfl, N45q, e45q⟩ := hQ45
    have N45 := Fr.app Ng44 N45q
    obtain ⟨Lg45, Xg45, Ng45⟩ := Stand_gen X45 N45
    refine Run.tr st45 ?_
    show Run p e below s 0 0 (Q_rm0 Z p1 p2 p3 vEQUAL vNOT_EQUAL vLESS vLESS_OR_EQUAL vGREATER vGREATER_OR_EQUAL h0 n0) (T45.setTop (mkF m 9 #[.val (.int p1), .val (.int p2), .val (.int p3), .val (.ref vLESS_OR_EQUAL), .unset, .unset] [(.ref vGREATER_OR_EQUAL)]))
    refine Run.go (fun _ k => XS.astore Xg45.here hx rfl (hb hby at_9) rfl rfl (l' := #[.val (.int p1), .val (.int p2), .val (.int p3), .val (.ref vLESS_OR_EQUAL), .val (.ref vGREATER_OR_EQUAL), .unset]) rfl k) ?_
    show Run p e below s 0 0 (Q_rm0 Z p1 p2 p3 vEQUAL vNOT_EQUAL vLESS vLESS_OR_EQUAL vGREATER vGREATER_OR_EQUAL h0 n0) (T45.setTop (mkF m 11 #[.val (.int p1), .val (.int p2), .val (.int p3), .val (.ref vLESS_OR_EQUAL), .val (.ref vGREATER_OR_EQUAL), .unset] []))
    refine Run.go (fun _ k => XS.aload Xg45.here hx rfl (hb hby at_11) rfl rfl k) ?_
    show Run p e below s 0 0 (Q_rm0 Z p1 p2 p3 vEQUAL vNOT_EQUAL vLESS vLESS_OR_EQUAL vGREATER vGREATER_OR_EQUAL h0 n0) (T45.setTop (mkF m 13 #[.val (.int p1), .val (.int p2), .val (.int p3), .val (.ref vLESS_OR_EQUAL), .val (.ref vGREATER_OR_EQUAL), .unset] [(.ref vGREATER_OR_EQUAL)]))
    refine Run.go (fun _ k => XS.ifnonnullYes Xg45.here hx rfl (pc0 := 13) (pc' := 18) rfl (hb hby at_13) rfl (by decide) (by decide) k) ?_
    show Run p e below s 0 0 (Q_rm0 Z p1 p2 p3 vEQUAL vNOT_EQUAL vLESS vLESS_OR_EQUAL vGREATER vGREATER_OR_EQUAL h0 n0) (T45.setTop (mkF m 18 #[.val (.int p1), .val (.int p2), .val (.int p3), .val (.ref vLESS_OR_EQUAL), .val (.ref vGREATER_OR_EQUAL), .unset] []))
    refine Run.go (fun _ k => XS.aload Xg45.here hx rfl (hb hby at_18) rfl rfl k) ?_
    show Run p e below s 0 0 (Q_rm0 Z p1 p2 p3 vEQUAL vNOT_EQUAL vLESS vLESS_OR_EQUAL vGREATER vGREATER_OR_EQUAL h0 n0) (T45.setTop (mkF m 20 #[.val (.int p1), .val (.int p2), .val (.int p3), .val (.ref vLESS_OR_EQUAL), .val (.ref vGREATER_OR_EQUAL), .unset] [(.ref vGREATER_OR_EQUAL)]))
    refine Run.go (fun _ k => XS.iconst Xg45.here hx rfl (hb hby at_20) k) ?_
    show Run p e below s 0 0 (Q_rm0 Z p1 p2 p3 vEQUAL vNOT_EQUAL vLESS vLESS_OR_EQUAL vGREATER vGREATER_OR_EQUAL h0 n0) (T45.setTop (mkF m 21 #[.val (.int p1), .val (.int p2), .val (.int p3), .val (.ref vLESS_OR_EQUAL), .val (.ref vGREATER_OR_EQUAL), .unset] [(.int (0 : Int32)), (.ref vGREATER_OR_EQUAL)]))
    obtain ⟨_, _, ⟨T46, L46, k46, n46⟩, -, X46, ⟨Lc46, hQ46, l46, y46, z46⟩, st46⟩ := Jvm.LawKit.callS Xg45 hx (y := (⟨"com/example/exact_table/exacttable/ComparatorFlippedPinLaw", "holds", "(Lcom/example/exact_table/exacttable/Condition$Comparator;I)Z"⟩ : MethodName)) hown (mvT hZ (hw _ (List.mem_of_getElem? (i := 22) rfl))) (mvT hZ (hw _ (List.mem_of_getElem? (i := 23) rfl))) (mvT hZ (hw _ (List.mem_of_getElem? (i := 2) rfl))) (mvT hZ (hw _ (List.mem_of_getElem? (i := 24) rfl))) (by decide) (backOf (W := 0) (rm4_5 l Z a0 hw [] vGREATER_OR_EQUAL (0 : Int32) vEQUAL vNOT_EQUAL vLESS vLESS_OR_EQUAL vGREATER h0 n0 Z0 S_Condition_Comparator_EQUAL S_Condition_Comparator_NOT_EQUAL S_Condition_Comparator_LESS S_Condition_Comparator_LESS_OR_EQUAL S_Condition_Comparator_GREATER S_Condition_Comparator_GREATER_OR_EQUAL ne_vEQUAL_vNOT_EQUAL ne_vEQUAL_vLESS ne_vEQUAL_vLESS_OR_EQUAL ne_vEQUAL_vGREATER ne_vEQUAL_vGREATER_OR_EQUAL ne_vNOT_EQUAL_vLESS ne_vNOT_EQUAL_vLESS_OR_EQUAL ne_vNOT_EQUAL_vGREATER ne_vNOT_EQUAL_vGREATER_OR_EQUAL ne_vLESS_vLESS_OR_EQUAL ne_vLESS_vGREATER ne_vLESS_vGREATER_OR_EQUAL ne_vLESS_OR_EQUAL_vGREATER ne_vLESS_OR_EQUAL_vGREATER_OR_EQUAL ne_vGREATER_vGREATER_OR_EQUAL) hZ (hw _ (List.mem_of_getElem? (i := 24) rfl)) (hw _ (List.mem_of_getElem? (i := 2) rfl)) (by decide) (by decide)) (g := (mkF m 21 #[.val (.int p1), .val (.int p2), .val (.int p3), .val (.ref vLESS_OR_EQUAL), .val (.ref vGREATER_OR_EQUAL), .unset] [(.int (0 : Int32)), (.ref vGREATER_OR_EQUAL)])) rfl (by rw [hml]; rfl) (argsL := [(.ref vGREATER_OR_EQUAL), (.int (0 : Int32))]) (rest := []) (lenOf pd_3 rfl) rfl (by show 2 * 0 + _ ≤ _; exact Nat.le_of_eq rfl) (hb hby at_21) (fun _ _ => ⟨rfl, e45q, (by decide : 0 + 0 ≤ _), (by decide : 0 + 0 ≤ _)⟩)
    dsimp only [Pt.U, Pt.locs, Pt.cells, Pt.slots] at X46 l46 y46 z46 st46 hQ46
    subst l46 y46 z46
    obtain ⟨rfl, N46q, e46q⟩ := hQ46
    have N46 := Fr.app Ng45 N46q
    obtain ⟨Lg46, Xg46, Ng46⟩ := Stand_gen X46 N46
    refine Run.go st46 ?_
    show Run p e below s 0 0 (Q_rm0 Z p1 p2 p3 vEQUAL vNOT_EQUAL vLESS vLESS_OR_EQUAL vGREATER vGREATER_OR_EQUAL h0 n0) (T46.setTop (mkF m 24 #[.val (.int p1), .val (.int p2), .val (.int p3), .val (.ref vLESS_OR_EQUAL), .val (.ref vGREATER_OR_EQUAL), .unset] [(.int (F_rm4_5 (0 : Int32)))]))
    refine Run.go (fun _ k => XS.aloadN Xg46.here hx rfl (hb hby at_24) rfl rfl k) ?_
    show Run p e below s 0 0 (Q_rm0 Z p1 p2 p3 vEQUAL vNOT_EQUAL vLESS vLESS_OR_EQUAL vGREATER vGREATER_OR_EQUAL h0 n0) (T46.setTop (mkF m 25 #[.val (.int p1), .val (.int p2), .val (.int p3), .val (.ref vLESS_OR_EQUAL), .val (.ref vGREATER_OR_EQUAL), .unset] [(.ref vLESS_OR_EQUAL), (.int (F_rm4_5 (0 : Int32)))]))
    refine Run.go (fun _ k => XS.iconst Xg46.here hx rfl (hb hby at_25) k) ?_
    show Run p e below s 0 0 (Q_rm0 Z p1 p2 p3 vEQUAL vNOT_EQUAL vLESS vLESS_OR_EQUAL vGREATER vGREATER_OR_EQUAL h0 n0) (T46.setTop (mkF m 26 #[.val (.int p1), .val (.int p2), .val (.int p3), .val (.ref vLESS_OR_EQUAL), .val (.ref vGREATER_OR_EQUAL), .unset] [(.int (0 : Int32)), (.ref vLESS_OR_EQUAL), (.int (F_rm4_5 (0 : Int32)))]))
    obtain ⟨_, _, ⟨T47, L47, k47, n47⟩, -, X47, ⟨Lc47, hQ47, l47, y47, z47⟩, st47⟩ := Jvm.LawKit.callS Xg46 hx (y := (⟨"com/example/exact_table/exacttable/ComparatorFlippedPinLaw", "holds", "(Lcom/example/exact_table/exacttable/Condition$Comparator;I)Z"⟩ : MethodName)) hown (mvT hZ (hw _ (List.mem_of_getElem? (i := 22) rfl))) (mvT hZ (hw _ (List.mem_of_getElem? (i := 23) rfl))) (mvT hZ (hw _ (List.mem_of_getElem? (i := 2) rfl))) (mvT hZ (hw _ (List.mem_of_getElem? (i := 24) rfl))) (by decide) (backOf (W := 1) (rm4_3 l Z a0 hw [] vLESS_OR_EQUAL (0 : Int32) vEQUAL vNOT_EQUAL vLESS vGREATER vGREATER_OR_EQUAL h0 n0 Z0 S_Condition_Comparator_EQUAL S_Condition_Comparator_NOT_EQUAL S_Condition_Comparator_LESS S_Condition_Comparator_LESS_OR_EQUAL S_Condition_Comparator_GREATER S_Condition_Comparator_GREATER_OR_EQUAL ne_vEQUAL_vNOT_EQUAL ne_vEQUAL_vLESS ne_vEQUAL_vLESS_OR_EQUAL ne_vEQUAL_vGREATER ne_vEQUAL_vGREATER_OR_EQUAL ne_vNOT_EQUAL_vLESS ne_vNOT_EQUAL_vLESS_OR_EQUAL ne_vNOT_EQUAL_vGREATER ne_vNOT_EQUAL_vGREATER_OR_EQUAL ne_vLESS_vLESS_OR_EQUAL ne_vLESS_vGREATER ne_vLESS_vGREATER_OR_EQUAL ne_vLESS_OR_EQUAL_vGREATER ne_vLESS_OR_EQUAL_vGREATER_OR_EQUAL ne_vGREATER_vGREATER_OR_EQUAL) hZ (hw _ (List.mem_of_getElem? (i := 24) rfl)) (hw _ (List.mem_of_getElem? (i := 2) rfl)) (by decide) (by decide)) (g := (mkF m 26 #[.val (.int p1), .val (.int p2), .val (.int p3), .val (.ref vLESS_OR_EQUAL), .val (.ref vGREATER_OR_EQUAL), .unset] [(.int (0 : Int32)), (.ref vLESS_OR_EQUAL), (.int (F_rm4_5 (0 : Int32)))])) rfl (by rw [hml]; rfl) (argsL := [(.ref vLESS_OR_EQUAL), (.int (0 : Int32))]) (rest := [(.int (F_rm4_5 (0 : Int32)))]) (lenOf pd_3 rfl) rfl (by show 2 * 0 + _ ≤ _; exact Nat.le_of_eq rfl) (hb hby at_26) (fun _ _ => ⟨rfl, e46q, (by decide : 0 + 0 ≤ _), (by decide : 0 + 0 ≤ _)⟩)
    dsimp only [Pt.U, Pt.locs, Pt.cells, Pt.slots] at X47 l47 y47 z47 st47 hQ47
    subst l47 y47 z47
    obtain ⟨rfl, N47q, e47q⟩ := hQ47
    have N47 := Fr.app Ng46 N47q
    obtain ⟨Lg47, Xg47, Ng47⟩ := Stand_gen X47 N47
    refine Run.go st47 ?_
    show Run p e below s 0 0 (Q_rm0 Z p1 p2 p3 vEQUAL vNOT_EQUAL vLESS vLESS_OR_EQUAL vGREATER vGREATER_OR_EQUAL h0 n0) (T47.setTop (mkF m 29 #[.val (.int p1), .val (.int p2), .val (.int p3), .val (.ref vLESS_OR_EQUAL), .val (.ref vGREATER_OR_EQUAL), .unset] [(.int (F_rm4_3 (0 : Int32))), (.int (F_rm4_5 (0 : Int32)))]))
    refine Run.go (fun _ k => XS.icmpNo Xg47.here hx rfl (hb hby at_29) rfl (teq (by decide)).2 k) ?_
    show Run p e below s 0 0 (Q_rm0 Z p1 p2 p3 vEQUAL vNOT_EQUAL vLESS vLESS_OR_EQUAL vGREATER vGREATER_OR_EQUAL h0 n0) (T47.setTop (mkF m 32 #[.val (.int p1), .val (.int p2), .val (.int p3), .val (.ref vLESS_OR_EQUAL), .val (.ref vGREATER_OR_EQUAL), .unset] []))
    refine Run.go (fun _ k => XS.aload Xg47.here hx rfl (hb hby at_32) rfl rfl k) ?_
    show Run p e below s 0 0 (Q_rm0 Z p1 p2 p3 vEQUAL vNOT_EQUAL vLESS vLESS_OR_EQUAL vGREATER vGREATER_OR_EQUAL h0 n0) (T47.setTop (mkF m 34 #[.val (.int p1), .val (.int p2), .val (.int p3), .val (.ref vLESS_OR_EQUAL), .val (.ref vGREATER_OR_EQUAL), .unset] [(.ref vGREATER_OR_EQUAL)]))
    refine Run.go (fun _ k => XS.iconst Xg47.here hx rfl (hb hby at_34) k) ?_
    show Run p e below s 0 0 (Q_rm0 Z p1 p2 p3 vEQUAL vNOT_EQUAL vLESS vLESS_OR_EQUAL vGREATER vGREATER_OR_EQUAL h0 n0) (T47.setTop (mkF m 35 #[.val (.int p1), .val (.int p2), .val (.int p3), .val (.ref vLESS_OR_EQUAL), .val (.ref vGREATER_OR_EQUAL), .unset] [(.int (1 : Int32)), (.ref vGREATER_OR_EQUAL)]))
    obtain ⟨_, _, ⟨T48, L48, k48, n48⟩, -, X48, ⟨Lc48, hQ48, l48, y48, z48⟩, st48⟩ := Jvm.LawKit.callS Xg47 hx (y := (⟨"com/example/exact_table/exacttable/ComparatorFlippedPinLaw", "holds", "(Lcom/example/exact_table/exacttable/Condition$Comparator;I)Z"⟩ : MethodName)) hown (mvT hZ (hw _ (List.mem_of_getElem? (i := 22) rfl))) (mvT hZ (hw _ (List.mem_of_getElem? (i := 23) rfl))) (mvT hZ (hw _ (List.mem_of_getElem? (i := 2) rfl))) (mvT hZ (hw _ (List.mem_of_getElem? (i := 24) rfl))) (by decide) (backOf (W := 0) (rm4_5 l Z a0 hw [] vGREATER_OR_EQUAL (1 : Int32) vEQUAL vNOT_EQUAL vLESS vLESS_OR_EQUAL vGREATER h0 n0 Z0 S_Condition_Comparator_EQUAL S_Condition_Comparator_NOT_EQUAL S_Condition_Comparator_LESS S_Condition_Comparator_LESS_OR_EQUAL S_Condition_Comparator_GREATER S_Condition_Comparator_GREATER_OR_EQUAL ne_vEQUAL_vNOT_EQUAL ne_vEQUAL_vLESS ne_vEQUAL_vLESS_OR_EQUAL ne_vEQUAL_vGREATER ne_vEQUAL_vGREATER_OR_EQUAL ne_vNOT_EQUAL_vLESS ne_vNOT_EQUAL_vLESS_OR_EQUAL ne_vNOT_EQUAL_vGREATER ne_vNOT_EQUAL_vGREATER_OR_EQUAL ne_vLESS_vLESS_OR_EQUAL ne_vLESS_vGREATER ne_vLESS_vGREATER_OR_EQUAL ne_vLESS_OR_EQUAL_vGREATER ne_vLESS_OR_EQUAL_vGREATER_OR_EQUAL ne_vGREATER_vGREATER_OR_EQUAL) hZ (hw _ (List.mem_of_getElem? (i := 24) rfl)) (hw _ (List.mem_of_getElem? (i := 2) rfl)) (by decide) (by decide)) (g := (mkF m 35 #[.val (.int p1), .val (.int p2), .val (.int p3), .val (.ref vLESS_OR_EQUAL), .val (.ref vGREATER_OR_EQUAL), .unset] [(.int (1 : Int32)), (.ref vGREATER_OR_EQUAL)])) rfl (by rw [hml]; rfl) (argsL := [(.ref vGREATER_OR_EQUAL), (.int (1 : Int32))]) (rest := []) (lenOf pd_3 rfl) rfl (by show 2 * 0 + _ ≤ _; exact Nat.le_of_eq rfl) (hb hby at_35) (fun _ _ => ⟨rfl, e47q, (by decide : 0 + 0 ≤ _), (by decide : 0 + 0 ≤ _)⟩)
    dsimp only [Pt.U, Pt.locs, Pt.cells, Pt.slots] at X48 l48 y48 z48 st48 hQ48
    subst l48 y48 z48
    obtain ⟨rfl, N48q, e48q⟩ := hQ48
    have N48 := Fr.app Ng47 N48q
    obtain ⟨Lg48, Xg48, Ng48⟩ := Stand_gen X48 N48
    refine Run.go st48 ?_
    show Run p e below s 0 0 (Q_rm0 Z p1 p2 p3 vEQUAL vNOT_EQUAL vLESS vLESS_OR_EQUAL vGREATER vGREATER_OR_EQUAL h0 n0) (T48.setTop (mkF m 38 #[.val (.int p1), .val (.int p2), .val (.int p3), .val (.ref vLESS_OR_EQUAL), .val (.ref vGREATER_OR_EQUAL), .unset] [(.int (F_rm4_5 (1 : Int32)))]))
    refine Run.go (fun _ k => XS.aloadN Xg48.here hx rfl (hb hby at_38) rfl rfl k) ?_
    show Run p e below s 0 0 (Q_rm0 Z p1 p2 p3 vEQUAL vNOT_EQUAL vLESS vLESS_OR_EQUAL vGREATER vGREATER_OR_EQUAL h0 n0) (T48.setTop (mkF m 39 #[.val (.int p1), .val (.int p2), .val (.int p3), .val (.ref vLESS_OR_EQUAL), .val (.ref vGREATER_OR_EQUAL), .unset] [(.ref vLESS_OR_EQUAL), (.int (F_rm4_5 (1 : Int32)))]))
    refine Run.go (fun _ k => XS.iconst Xg48.here hx rfl (hb hby at_39) k) ?_
    show Run p e below s 0 0 (Q_rm0 Z p1 p2 p3 vEQUAL vNOT_EQUAL vLESS vLESS_OR_EQUAL vGREATER vGREATER_OR_EQUAL h0 n0) (T48.setTop (mkF m 40 #[.val (.int p1), .val (.int p2), .val (.int p3), .val (.ref vLESS_OR_EQUAL), .val (.ref vGREATER_OR_EQUAL), .unset] [(.int (-1 : Int32)), (.ref vLESS_OR_EQUAL), (.int (F_rm4_5 (1 : Int32)))]))
    obtain ⟨_, _, ⟨T49, L49, k49, n49⟩, -, X49, ⟨Lc49, hQ49, l49, y49, z49⟩, st49⟩ := Jvm.LawKit.callS Xg48 hx (y := (⟨"com/example/exact_table/exacttable/ComparatorFlippedPinLaw", "holds", "(Lcom/example/exact_table/exacttable/Condition$Comparator;I)Z"⟩ : MethodName)) hown (mvT hZ (hw _ (List.mem_of_getElem? (i := 22) rfl))) (mvT hZ (hw _ (List.mem_of_getElem? (i := 23) rfl))) (mvT hZ (hw _ (List.mem_of_getElem? (i := 2) rfl))) (mvT hZ (hw _ (List.mem_of_getElem? (i := 24) rfl))) (by decide) (backOf (W := 1) (rm4_3 l Z a0 hw [] vLESS_OR_EQUAL (-1 : Int32) vEQUAL vNOT_EQUAL vLESS vGREATER vGREATER_OR_EQUAL h0 n0 Z0 S_Condition_Comparator_EQUAL S_Condition_Comparator_NOT_EQUAL S_Condition_Comparator_LESS S_Condition_Comparator_LESS_OR_EQUAL S_Condition_Comparator_GREATER S_Condition_Comparator_GREATER_OR_EQUAL ne_vEQUAL_vNOT_EQUAL ne_vEQUAL_vLESS ne_vEQUAL_vLESS_OR_EQUAL ne_vEQUAL_vGREATER ne_vEQUAL_vGREATER_OR_EQUAL ne_vNOT_EQUAL_vLESS ne_vNOT_EQUAL_vLESS_OR_EQUAL ne_vNOT_EQUAL_vGREATER ne_vNOT_EQUAL_vGREATER_OR_EQUAL ne_vLESS_vLESS_OR_EQUAL ne_vLESS_vGREATER ne_vLESS_vGREATER_OR_EQUAL ne_vLESS_OR_EQUAL_vGREATER ne_vLESS_OR_EQUAL_vGREATER_OR_EQUAL ne_vGREATER_vGREATER_OR_EQUAL) hZ (hw _ (List.mem_of_getElem? (i := 24) rfl)) (hw _ (List.mem_of_getElem? (i := 2) rfl)) (by decide) (by decide)) (g := (mkF m 40 #[.val (.int p1), .val (.int p2), .val (.int p3), .val (.ref vLESS_OR_EQUAL), .val (.ref vGREATER_OR_EQUAL), .unset] [(.int (-1 : Int32)), (.ref vLESS_OR_EQUAL), (.int (F_rm4_5 (1 : Int32)))])) rfl (by rw [hml]; rfl) (argsL := [(.ref vLESS_OR_EQUAL), (.int (-1 : Int32))]) (rest := [(.int (F_rm4_5 (1 : Int32)))]) (lenOf pd_3 rfl) rfl (by show 2 * 0 + _ ≤ _; exact Nat.le_of_eq rfl) (hb hby at_40) (fun _ _ => ⟨rfl, e48q, (by decide : 0 + 0 ≤ _), (by decide : 0 + 0 ≤ _)⟩)
    dsimp only [Pt.U, Pt.locs, Pt.cells, Pt.slots] at X49 l49 y49 z49 st49 hQ49
    subst l49 y49 z49
    obtain ⟨rfl, N49q, e49q⟩ := hQ49
    have N49 := Fr.app Ng48 N49q
    obtain ⟨Lg49, Xg49, Ng49⟩ := Stand_gen X49 N49
    refine Run.go st49 ?_
    show Run p e below s 0 0 (Q_rm0 Z p1 p2 p3 vEQUAL vNOT_EQUAL vLESS vLESS_OR_EQUAL vGREATER vGREATER_OR_EQUAL h0 n0) (T49.setTop (mkF m 43 #[.val (.int p1), .val (.int p2), .val (.int p3), .val (.ref vLESS_OR_EQUAL), .val (.ref vGREATER_OR_EQUAL), .unset] [(.int (F_rm4_3 (-1 : Int32))), (.int (F_rm4_5 (1 : Int32)))]))
    refine Run.go (fun _ k => XS.icmpNo Xg49.here hx rfl (hb hby at_43) rfl (teq (by decide)).2 k) ?_
    show Run p e below s 0 0 (Q_rm0 Z p1 p2 p3 vEQUAL vNOT_EQUAL vLESS vLESS_OR_EQUAL vGREATER vGREATER_OR_EQUAL h0 n0) (T49.setTop (mkF m 46 #[.val (.int p1), .val (.int p2), .val (.int p3), .val (.ref vLESS_OR_EQUAL), .val (.ref vGREATER_OR_EQUAL), .unset] []))
    refine Run.go (fun _ k => XS.aload Xg49.here hx rfl (hb hby at_46) rfl rfl k) ?_
    show Run p e below s 0 0 (Q_rm0 Z p1 p2 p3 vEQUAL vNOT_EQUAL vLESS vLESS_OR_EQUAL vGREATER vGREATER_OR_EQUAL h0 n0) (T49.setTop (mkF m 48 #[.val (.int p1), .val (.int p2), .val (.int p3), .val (.ref vLESS_OR_EQUAL), .val (.ref vGREATER_OR_EQUAL), .unset] [(.ref vGREATER_OR_EQUAL)]))
    refine Run.go (fun _ k => XS.iconst Xg49.here hx rfl (hb hby at_48) k) ?_
    show Run p e below s 0 0 (Q_rm0 Z p1 p2 p3 vEQUAL vNOT_EQUAL vLESS vLESS_OR_EQUAL vGREATER vGREATER_OR_EQUAL h0 n0) (T49.setTop (mkF m 49 #[.val (.int p1), .val (.int p2), .val (.int p3), .val (.ref vLESS_OR_EQUAL), .val (.ref vGREATER_OR_EQUAL), .unset] [(.int (-1 : Int32)), (.ref vGREATER_OR_EQUAL)]))
    obtain ⟨_, _, ⟨T50, L50, k50, n50⟩, -, X50, ⟨Lc50, hQ50, l50, y50, z50⟩, st50⟩ := Jvm.LawKit.callS Xg49 hx (y := (⟨"com/example/exact_table/exacttable/ComparatorFlippedPinLaw", "holds", "(Lcom/example/exact_table/exacttable/Condition$Comparator;I)Z"⟩ : MethodName)) hown (mvT hZ (hw _ (List.mem_of_getElem? (i := 22) rfl))) (mvT hZ (hw _ (List.mem_of_getElem? (i := 23) rfl))) (mvT hZ (hw _ (List.mem_of_getElem? (i := 2) rfl))) (mvT hZ (hw _ (List.mem_of_getElem? (i := 24) rfl))) (by decide) (backOf (W := 0) (rm4_5 l Z a0 hw [] vGREATER_OR_EQUAL (-1 : Int32) vEQUAL vNOT_EQUAL vLESS vLESS_OR_EQUAL vGREATER h0 n0 Z0 S_Condition_Comparator_EQUAL S_Condition_Comparator_NOT_EQUAL S_Condition_Comparator_LESS S_Condition_Comparator_LESS_OR_EQUAL S_Condition_Comparator_GREATER S_Condition_Comparator_GREATER_OR_EQUAL ne_vEQUAL_vNOT_EQUAL ne_vEQUAL_vLESS ne_vEQUAL_vLESS_OR_EQUAL ne_vEQUAL_vGREATER ne_vEQUAL_vGREATER_OR_EQUAL ne_vNOT_EQUAL_vLESS ne_vNOT_EQUAL_vLESS_OR_EQUAL ne_vNOT_EQUAL_vGREATER ne_vNOT_EQUAL_vGREATER_OR_EQUAL ne_vLESS_vLESS_OR_EQUAL ne_vLESS_vGREATER ne_vLESS_vGREATER_OR_EQUAL ne_vLESS_OR_EQUAL_vGREATER ne_vLESS_OR_EQUAL_vGREATER_OR_EQUAL ne_vGREATER_vGREATER_OR_EQUAL) hZ (hw _ (List.mem_of_getElem? (i := 24) rfl)) (hw _ (List.mem_of_getElem? (i := 2) rfl)) (by decide) (by decide)) (g := (mkF m 49 #[.val (.int p1), .val (.int p2), .val (.int p3), .val (.ref vLESS_OR_EQUAL), .val (.ref vGREATER_OR_EQUAL), .unset] [(.int (-1 : Int32)), (.ref vGREATER_OR_EQUAL)])) rfl (by rw [hml]; rfl) (argsL := [(.ref vGREATER_OR_EQUAL), (.int (-1 : Int32))]) (rest := []) (lenOf pd_3 rfl) rfl (by show 2 * 0 + _ ≤ _; exact Nat.le_of_eq rfl) (hb hby at_49) (fun _ _ => ⟨rfl, e49q, (by decide : 0 + 0 ≤ _), (by decide : 0 + 0 ≤ _)⟩)
    dsimp only [Pt.U, Pt.locs, Pt.cells, Pt.slots] at X50 l50 y50 z50 st50 hQ50
    subst l50 y50 z50
    obtain ⟨rfl, N50q, e50q⟩ := hQ50
    have N50 := Fr.app Ng49 N50q
    obtain ⟨Lg50, Xg50, Ng50⟩ := Stand_gen X50 N50
    refine Run.go st50 ?_
    show Run p e below s 0 0 (Q_rm0 Z p1 p2 p3 vEQUAL vNOT_EQUAL vLESS vLESS_OR_EQUAL vGREATER vGREATER_OR_EQUAL h0 n0) (T50.setTop (mkF m 52 #[.val (.int p1), .val (.int p2), .val (.int p3), .val (.ref vLESS_OR_EQUAL), .val (.ref vGREATER_OR_EQUAL), .unset] [(.int (F_rm4_5 (-1 : Int32)))]))
    refine Run.go (fun _ k => XS.aloadN Xg50.here hx rfl (hb hby at_52) rfl rfl k) ?_
    show Run p e below s 0 0 (Q_rm0 Z p1 p2 p3 vEQUAL vNOT_EQUAL vLESS vLESS_OR_EQUAL vGREATER vGREATER_OR_EQUAL h0 n0) (T50.setTop (mkF m 53 #[.val (.int p1), .val (.int p2), .val (.int p3), .val (.ref vLESS_OR_EQUAL), .val (.ref vGREATER_OR_EQUAL), .unset] [(.ref vLESS_OR_EQUAL), (.int (F_rm4_5 (-1 : Int32)))]))
    refine Run.go (fun _ k => XS.iconst Xg50.here hx rfl (hb hby at_53) k) ?_
    show Run p e below s 0 0 (Q_rm0 Z p1 p2 p3 vEQUAL vNOT_EQUAL vLESS vLESS_OR_EQUAL vGREATER vGREATER_OR_EQUAL h0 n0) (T50.setTop (mkF m 54 #[.val (.int p1), .val (.int p2), .val (.int p3), .val (.ref vLESS_OR_EQUAL), .val (.ref vGREATER_OR_EQUAL), .unset] [(.int (1 : Int32)), (.ref vLESS_OR_EQUAL), (.int (F_rm4_5 (-1 : Int32)))]))
    obtain ⟨_, _, ⟨T51, L51, k51, n51⟩, -, X51, ⟨Lc51, hQ51, l51, y51, z51⟩, st51⟩ := Jvm.LawKit.callS Xg50 hx (y := (⟨"com/example/exact_table/exacttable/ComparatorFlippedPinLaw", "holds", "(Lcom/example/exact_table/exacttable/Condition$Comparator;I)Z"⟩ : MethodName)) hown (mvT hZ (hw _ (List.mem_of_getElem? (i := 22) rfl))) (mvT hZ (hw _ (List.mem_of_getElem? (i := 23) rfl))) (mvT hZ (hw _ (List.mem_of_getElem? (i := 2) rfl))) (mvT hZ (hw _ (List.mem_of_getElem? (i := 24) rfl))) (by decide) (backOf (W := 1) (rm4_3 l Z a0 hw [] vLESS_OR_EQUAL (1 : Int32) vEQUAL vNOT_EQUAL vLESS vGREATER vGREATER_OR_EQUAL h0 n0 Z0 S_Condition_Comparator_EQUAL S_Condition_Comparator_NOT_EQUAL S_Condition_Comparator_LESS S_Condition_Comparator_LESS_OR_EQUAL S_Condition_Comparator_GREATER S_Condition_Comparator_GREATER_OR_EQUAL ne_vEQUAL_vNOT_EQUAL ne_vEQUAL_vLESS ne_vEQUAL_vLESS_OR_EQUAL ne_vEQUAL_vGREATER ne_vEQUAL_vGREATER_OR_EQUAL ne_vNOT_EQUAL_vLESS ne_vNOT_EQUAL_vLESS_OR_EQUAL ne_vNOT_EQUAL_vGREATER ne_vNOT_EQUAL_vGREATER_OR_EQUAL ne_vLESS_vLESS_OR_EQUAL ne_vLESS_vGREATER ne_vLESS_vGREATER_OR_EQUAL ne_vLESS_OR_EQUAL_vGREATER ne_vLESS_OR_EQUAL_vGREATER_OR_EQUAL ne_vGREATER_vGREATER_OR_EQUAL) hZ (hw _ (List.mem_of_getElem? (i := 24) rfl)) (hw _ (List.mem_of_getElem? (i := 2) rfl)) (by decide) (by decide)) (g := (mkF m 54 #[.val (.int p1), .val (.int p2), .val (.int p3), .val (.ref vLESS_OR_EQUAL), .val (.ref vGREATER_OR_EQUAL), .unset] [(.int (1 : Int32)), (.ref vLESS_OR_EQUAL), (.int (F_rm4_5 (-1 : Int32)))])) rfl (by rw [hml]; rfl) (argsL := [(.ref vLESS_OR_EQUAL), (.int (1 : Int32))]) (rest := [(.int (F_rm4_5 (-1 : Int32)))]) (lenOf pd_3 rfl) rfl (by show 2 * 0 + _ ≤ _; exact Nat.le_of_eq rfl) (hb hby at_54) (fun _ _ => ⟨rfl, e50q, (by decide : 0 + 0 ≤ _), (by decide : 0 + 0 ≤ _)⟩)
    dsimp only [Pt.U, Pt.locs, Pt.cells, Pt.slots] at X51 l51 y51 z51 st51 hQ51
    subst l51 y51 z51
    obtain ⟨rfl, N51q, e51q⟩ := hQ51
    have N51 := Fr.app Ng50 N51q
    obtain ⟨Lg51, Xg51, Ng51⟩ := Stand_gen X51 N51
    refine Run.go st51 ?_
    show Run p e below s 0 0 (Q_rm0 Z p1 p2 p3 vEQUAL vNOT_EQUAL vLESS vLESS_OR_EQUAL vGREATER vGREATER_OR_EQUAL h0 n0) (T51.setTop (mkF m 57 #[.val (.int p1), .val (.int p2), .val (.int p3), .val (.ref vLESS_OR_EQUAL), .val (.ref vGREATER_OR_EQUAL), .unset] [(.int (F_rm4_3 (1 : Int32))), (.int (F_rm4_5 (-1 : Int32)))]))
    refine Run.go (fun _ k => XS.icmpNo Xg51.here hx rfl (hb hby at_57) rfl (teq (by decide)).2 k) ?_
    show Run p e below s 0 0 (Q_rm0 Z p1 p2 p3 vEQUAL vNOT_EQUAL vLESS vLESS_OR_EQUAL vGREATER vGREATER_OR_EQUAL h0 n0) (T51.setTop (mkF m 60 #[.val (.int p1), .val (.int p2), .val (.int p3), .val (.ref vLESS_OR_EQUAL), .val (.ref vGREATER_OR_EQUAL), .unset] []))
    refine Run.go (fun _ k => XS.iconst Xg51.here hx rfl (hb hby at_60) k) ?_
    show Run p e below s 0 0 (Q_rm0 Z p1 p2 p3 vEQUAL vNOT_EQUAL vLESS vLESS_OR_EQUAL vGREATER vGREATER_OR_EQUAL h0 n0) (T51.setTop (mkF m 61 #[.val (.int p1), .val (.int p2), .val (.int p3), .val (.ref vLESS_OR_EQUAL), .val (.ref vGREATER_OR_EQUAL), .unset] [(.int (1 : Int32))]))
    refine Run.go (fun _ k => XS.goto Xg51.here hx rfl (pc0 := 61) (pc' := 65) rfl (hb hby at_61) (by decide) (by decide) k) ?_
    show Run p e below s 0 0 (Q_rm0 Z p1 p2 p3 vEQUAL vNOT_EQUAL vLESS vLESS_OR_EQUAL vGREATER vGREATER_OR_EQUAL h0 n0) (T51.setTop (mkF m 65 #[.val (.int p1), .val (.int p2), .val (.int p3), .val (.ref vLESS_OR_EQUAL), .val (.ref vGREATER_OR_EQUAL), .unset] [(.int (1 : Int32))]))
    refine Run.go (fun _ k => XS.istore Xg51.here hx rfl (hb hby at_65) rfl (l' := #[.val (.int p1), .val (.int p2), .val (.int p3), .val (.ref vLESS_OR_EQUAL), .val (.ref vGREATER_OR_EQUAL), .val (.int (1 : Int32))]) rfl k) ?_
    show Run p e below s 0 0 (Q_rm0 Z p1 p2 p3 vEQUAL vNOT_EQUAL vLESS vLESS_OR_EQUAL vGREATER vGREATER_OR_EQUAL h0 n0) (T51.setTop (mkF m 67 #[.val (.int p1), .val (.int p2), .val (.int p3), .val (.ref vLESS_OR_EQUAL), .val (.ref vGREATER_OR_EQUAL), .val (.int (1 : Int32))] []))
    refine Run.go (fun _ k => XS.iload Xg51.here hx rfl (hb hby at_67) rfl  k) ?_
    show Run p e below s 0 0 (Q_rm0 Z p1 p2 p3 vEQUAL vNOT_EQUAL vLESS vLESS_OR_EQUAL vGREATER vGREATER_OR_EQUAL h0 n0) (T51.setTop (mkF m 69 #[.val (.int p1), .val (.int p2), .val (.int p3), .val (.ref vLESS_OR_EQUAL), .val (.ref vGREATER_OR_EQUAL), .val (.int (1 : Int32))] [(.int (1 : Int32))]))
    refine Run.go (fun _ k => XS.ifNo Xg51.here hx rfl (hb hby at_69) rfl ((if0 _ _).trans (feq (by decide)).1) k) ?_
    show Run p e below s 0 0 (Q_rm0 Z p1 p2 p3 vEQUAL vNOT_EQUAL vLESS vLESS_OR_EQUAL vGREATER vGREATER_OR_EQUAL h0 n0) (T51.setTop (mkF m 72 #[.val (.int p1), .val (.int p2), .val (.int p3), .val (.ref vLESS_OR_EQUAL), .val (.ref vGREATER_OR_EQUAL), .val (.int (1 : Int32))] []))
    refine Run.go (fun _ k => XS.aload Xg51.here hx rfl (hb hby at_72) rfl rfl k) ?_
    show Run p e below s 0 0 (Q_rm0 Z p1 p2 p3 vEQUAL vNOT_EQUAL vLESS vLESS_OR_EQUAL vGREATER vGREATER_OR_EQUAL h0 n0) (T51.setTop (mkF m 74 #[.val (.int p1), .val (.int p2), .val (.int p3), .val (.ref vLESS_OR_EQUAL), .val (.ref vGREATER_OR_EQUAL), .val (.int (1 : Int32))] [(.ref vGREATER_OR_EQUAL)]))
    refine Run.go (fun _ k => XS.iloadN Xg51.here hx rfl (hb hby at_74) rfl  k) ?_
    show Run p e below s 0 0 (Q_rm0 Z p1 p2 p3 vEQUAL vNOT_EQUAL vLESS vLESS_OR_EQUAL vGREATER vGREATER_OR_EQUAL h0 n0) (T51.setTop (mkF m 75 #[.val (.int p1), .val (.int p2), .val (.int p3), .val (.ref vLESS_OR_EQUAL), .val (.ref vGREATER_OR_EQUAL), .val (.int (1 : Int32))] [(.int p3), (.ref vGREATER_OR_EQUAL)]))
    refine Run.go (fun _ k => XS.iloadN Xg51.here hx rfl (hb hby at_75) rfl  k) ?_
    show Run p e below s 0 0 (Q_rm0 Z p1 p2 p3 vEQUAL vNOT_EQUAL vLESS vLESS_OR_EQUAL vGREATER vGREATER_OR_EQUAL h0 n0) (T51.setTop (mkF m 76 #[.val (.int p1), .val (.int p2), .val (.int p3), .val (.ref vLESS_OR_EQUAL), .val (.ref vGREATER_OR_EQUAL), .val (.int (1 : Int32))] [(.int p2), (.int p3), (.ref vGREATER_OR_EQUAL)]))
    obtain ⟨_, _, ⟨T52, L52, k52, n52⟩, -, X52, ⟨Lc52, hQ52, l52, y52, z52⟩, st52⟩ := Jvm.LawKit.callS Xg51 hx (y := (⟨"com/example/exact_table/exacttable/ComparatorFlippedPinLaw", "sign", "(II)I"⟩ : MethodName)) hown (mvT hZ (hw _ (List.mem_of_getElem? (i := 25) rfl))) (mvT hZ (hw _ (List.mem_of_getElem? (i := 26) rfl))) (mvT hZ (hw _ (List.mem_of_getElem? (i := 2) rfl))) (mvT hZ (hw _ (List.mem_of_getElem? (i := 27) rfl))) (by decide) (backOf (W := 1) (rm5 l Z a0 hw [] p3 p2 h0 n0 Z0 ) hZ (hw _ (List.mem_of_getElem? (i := 27) rfl)) (hw _ (List.mem_of_getElem? (i := 2) rfl)) (by decide) (by decide)) (g := (mkF m 76 #[.val (.int p1), .val (.int p2), .val (.int p3), .val (.ref vLESS_OR_EQUAL), .val (.ref vGREATER_OR_EQUAL), .val (.int (1 : Int32))] [(.int p2), (.int p3), (.ref vGREATER_OR_EQUAL)])) rfl (by rw [hml]; rfl) (argsL := [(.int p3), (.int p2)]) (rest := [(.ref vGREATER_OR_EQUAL)]) (lenOf pd_4 rfl) rfl (by show 2 * 0 + _ ≤ _; exact Nat.le_of_eq rfl) (hb hby at_76) (fun _ _ => ⟨rfl, e51q, (by decide : 0 + 0 ≤ _), (by decide : 0 + 0 ≤ _)⟩)
    dsimp only [Pt.U, Pt.locs, Pt.cells, Pt.slots] at X52 l52 y52 z52 st52 hQ52
    subst l52 y52 z52
    obtain ⟨rfl, N52q, e52q⟩ := hQ52
    have N52 := Fr.app Ng51 N52q
    obtain ⟨Lg52, Xg52, Ng52⟩ := Stand_gen X52 N52
    refine Run.go st52 ?_
    show Run p e below s 0 0 (Q_rm0 Z p1 p2 p3 vEQUAL vNOT_EQUAL vLESS vLESS_OR_EQUAL vGREATER vGREATER_OR_EQUAL h0 n0) (T52.setTop (mkF m 79 #[.val (.int p1), .val (.int p2), .val (.int p3), .val (.ref vLESS_OR_EQUAL), .val (.ref vGREATER_OR_EQUAL), .val (.int (1 : Int32))] [(.int (F_rm5 p3 p2)), (.ref vGREATER_OR_EQUAL)]))
    obtain ⟨_, _, ⟨T53, L53, k53, n53⟩, -, X53, ⟨Lc53, hQ53, l53, y53, z53⟩, st53⟩ := Jvm.LawKit.callS Xg52 hx (y := (⟨"com/example/exact_table/exacttable/ComparatorFlippedPinLaw", "holds", "(Lcom/example/exact_table/exacttable/Condition$Comparator;I)Z"⟩ : MethodName)) hown (mvT hZ (hw _ (List.mem_of_getElem? (i := 22) rfl))) (mvT hZ (hw _ (List.mem_of_getElem? (i := 23) rfl))) (mvT hZ (hw _ (List.mem_of_getElem? (i := 2) rfl))) (mvT hZ (hw _ (List.mem_of_getElem? (i := 24) rfl))) (by decide) (backOf (W := 0) (rm4_5 l Z a0 hw [] vGREATER_OR_EQUAL (F_rm5 p3 p2) vEQUAL vNOT_EQUAL vLESS vLESS_OR_EQUAL vGREATER h0 n0 Z0 S_Condition_Comparator_EQUAL S_Condition_Comparator_NOT_EQUAL S_Condition_Comparator_LESS S_Condition_Comparator_LESS_OR_EQUAL S_Condition_Comparator_GREATER S_Condition_Comparator_GREATER_OR_EQUAL ne_vEQUAL_vNOT_EQUAL ne_vEQUAL_vLESS ne_vEQUAL_vLESS_OR_EQUAL ne_vEQUAL_vGREATER ne_vEQUAL_vGREATER_OR_EQUAL ne_vNOT_EQUAL_vLESS ne_vNOT_EQUAL_vLESS_OR_EQUAL ne_vNOT_EQUAL_vGREATER ne_vNOT_EQUAL_vGREATER_OR_EQUAL ne_vLESS_vLESS_OR_EQUAL ne_vLESS_vGREATER ne_vLESS_vGREATER_OR_EQUAL ne_vLESS_OR_EQUAL_vGREATER ne_vLESS_OR_EQUAL_vGREATER_OR_EQUAL ne_vGREATER_vGREATER_OR_EQUAL) hZ (hw _ (List.mem_of_getElem? (i := 24) rfl)) (hw _ (List.mem_of_getElem? (i := 2) rfl)) (by decide) (by decide)) (g := (mkF m 79 #[.val (.int p1), .val (.int p2), .val (.int p3), .val (.ref vLESS_OR_EQUAL), .val (.ref vGREATER_OR_EQUAL), .val (.int (1 : Int32))] [(.int (F_rm5 p3 p2)), (.ref vGREATER_OR_EQUAL)])) rfl (by rw [hml]; rfl) (argsL := [(.ref vGREATER_OR_EQUAL), (.int (F_rm5 p3 p2))]) (rest := []) (lenOf pd_3 rfl) rfl (by show 2 * 0 + _ ≤ _; exact Nat.le_of_eq rfl) (hb hby at_79) (fun _ _ => ⟨rfl, e52q, (by decide : 0 + 0 ≤ _), (by decide : 0 + 0 ≤ _)⟩)
    dsimp only [Pt.U, Pt.locs, Pt.cells, Pt.slots] at X53 l53 y53 z53 st53 hQ53
    subst l53 y53 z53
    obtain ⟨rfl, N53q, e53q⟩ := hQ53
    have N53 := Fr.app Ng52 N53q
    obtain ⟨Lg53, Xg53, Ng53⟩ := Stand_gen X53 N53
    refine Run.go st53 ?_
    show Run p e below s 0 0 (Q_rm0 Z p1 p2 p3 vEQUAL vNOT_EQUAL vLESS vLESS_OR_EQUAL vGREATER vGREATER_OR_EQUAL h0 n0) (T53.setTop (mkF m 82 #[.val (.int p1), .val (.int p2), .val (.int p3), .val (.ref vLESS_OR_EQUAL), .val (.ref vGREATER_OR_EQUAL), .val (.int (1 : Int32))] [(.int (F_rm4_5 (F_rm5 p3 p2)))]))
    refine Run.go (fun _ k => XS.aloadN Xg53.here hx rfl (hb hby at_82) rfl rfl k) ?_
    show Run p e below s 0 0 (Q_rm0 Z p1 p2 p3 vEQUAL vNOT_EQUAL vLESS vLESS_OR_EQUAL vGREATER vGREATER_OR_EQUAL h0 n0) (T53.setTop (mkF m 83 #[.val (.int p1), .val (.int p2), .val (.int p3), .val (.ref vLESS_OR_EQUAL), .val (.ref vGREATER_OR_EQUAL), .val (.int (1 : Int32))] [(.ref vLESS_OR_EQUAL), (.int (F_rm4_5 (F_rm5 p3 p2)))]))
    refine Run.go (fun _ k => XS.iloadN Xg53.here hx rfl (hb hby at_83) rfl  k) ?_
    show Run p e below s 0 0 (Q_rm0 Z p1 p2 p3 vEQUAL vNOT_EQUAL vLESS vLESS_OR_EQUAL vGREATER vGREATER_OR_EQUAL h0 n0) (T53.setTop (mkF m 84 #[.val (.int p1), .val (.int p2), .val (.int p3), .val (.ref vLESS_OR_EQUAL), .val (.ref vGREATER_OR_EQUAL), .val (.int (1 : Int32))] [(.int p2), (.ref vLESS_OR_EQUAL), (.int (F_rm4_5 (F_rm5 p3 p2)))]))
    refine Run.go (fun _ k => XS.iloadN Xg53.here hx rfl (hb hby at_84) rfl  k) ?_
    show Run p e below s 0 0 (Q_rm0 Z p1 p2 p3 vEQUAL vNOT_EQUAL vLESS vLESS_OR_EQUAL vGREATER vGREATER_OR_EQUAL h0 n0) (T53.setTop (mkF m 85 #[.val (.int p1), .val (.int p2), .val (.int p3), .val (.ref vLESS_OR_EQUAL), .val (.ref vGREATER_OR_EQUAL), .val (.int (1 : Int32))] [(.int p3), (.int p2), (.ref vLESS_OR_EQUAL), (.int (F_rm4_5 (F_rm5 p3 p2)))]))
    obtain ⟨_, _, ⟨T54, L54, k54, n54⟩, -, X54, ⟨Lc54, hQ54, l54, y54, z54⟩, st54⟩ := Jvm.LawKit.callS Xg53 hx (y := (⟨"com/example/exact_table/exacttable/ComparatorFlippedPinLaw", "sign", "(II)I"⟩ : MethodName)) hown (mvT hZ (hw _ (List.mem_of_getElem? (i := 25) rfl))) (mvT hZ (hw _ (List.mem_of_getElem? (i := 26) rfl))) (mvT hZ (hw _ (List.mem_of_getElem? (i := 2) rfl))) (mvT hZ (hw _ (List.mem_of_getElem? (i := 27) rfl))) (by decide) (backOf (W := 2) (rm5 l Z a0 hw [] p2 p3 h0 n0 Z0 ) hZ (hw _ (List.mem_of_getElem? (i := 27) rfl)) (hw _ (List.mem_of_getElem? (i := 2) rfl)) (by decide) (by decide)) (g := (mkF m 85 #[.val (.int p1), .val (.int p2), .val (.int p3), .val (.ref vLESS_OR_EQUAL), .val (.ref vGREATER_OR_EQUAL), .val (.int (1 : Int32))] [(.int p3), (.int p2), (.ref vLESS_OR_EQUAL), (.int (F_rm4_5 (F_rm5 p3 p2)))])) rfl (by rw [hml]; rfl) (argsL := [(.int p2), (.int p3)]) (rest := [(.ref vLESS_OR_EQUAL), (.int (F_rm4_5 (F_rm5 p3 p2)))]) (lenOf pd_4 rfl) rfl (by show 2 * 0 + _ ≤ _; exact Nat.le_of_eq rfl) (hb hby at_85) (fun _ _ => ⟨rfl, e53q, (by decide : 0 + 0 ≤ _), (by decide : 0 + 0 ≤ _)⟩)
    dsimp only [Pt.U, Pt.locs, Pt.cells, Pt.slots] at X54 l54 y54 z54 st54 hQ54
    subst l54 y54 z54
    obtain ⟨rfl, N54q, e54q⟩ := hQ54
    have N54 := Fr.app Ng53 N54q
    obtain ⟨Lg54, Xg54, Ng54⟩ := Stand_gen X54 N54
    refine Run.go st54 ?_
    show Run p e below s 0 0 (Q_rm0 Z p1 p2 p3 vEQUAL vNOT_EQUAL vLESS vLESS_OR_EQUAL vGREATER vGREATER_OR_EQUAL h0 n0) (T54.setTop (mkF m 88 #[.val (.int p1), .val (.int p2), .val (.int p3), .val (.ref vLESS_OR_EQUAL), .val (.ref vGREATER_OR_EQUAL), .val (.int (1 : Int32))] [(.int (F_rm5 p2 p3)), (.ref vLESS_OR_EQUAL), (.int (F_rm4_5 (F_rm5 p3 p2)))]))
    obtain ⟨_, _, ⟨T55, L55, k55, n55⟩, -, X55, ⟨Lc55, hQ55, l55, y55, z55⟩, st55⟩ := Jvm.LawKit.callS Xg54 hx (y := (⟨"com/example/exact_table/exacttable/ComparatorFlippedPinLaw", "holds", "(Lcom/example/exact_table/exacttable/Condition$Comparator;I)Z"⟩ : MethodName)) hown (mvT hZ (hw _ (List.mem_of_getElem? (i := 22) rfl))) (mvT hZ (hw _ (List.mem_of_getElem? (i := 23) rfl))) (mvT hZ (hw _ (List.mem_of_getElem? (i := 2) rfl))) (mvT hZ (hw _ (List.mem_of_getElem? (i := 24) rfl))) (by decide) (backOf (W := 1) (rm4_3 l Z a0 hw [] vLESS_OR_EQUAL (F_rm5 p2 p3) vEQUAL vNOT_EQUAL vLESS vGREATER vGREATER_OR_EQUAL h0 n0 Z0 S_Condition_Comparator_EQUAL S_Condition_Comparator_NOT_EQUAL S_Condition_Comparator_LESS S_Condition_Comparator_LESS_OR_EQUAL S_Condition_Comparator_GREATER S_Condition_Comparator_GREATER_OR_EQUAL ne_vEQUAL_vNOT_EQUAL ne_vEQUAL_vLESS ne_vEQUAL_vLESS_OR_EQUAL ne_vEQUAL_vGREATER ne_vEQUAL_vGREATER_OR_EQUAL ne_vNOT_EQUAL_vLESS ne_vNOT_EQUAL_vLESS_OR_EQUAL ne_vNOT_EQUAL_vGREATER ne_vNOT_EQUAL_vGREATER_OR_EQUAL ne_vLESS_vLESS_OR_EQUAL ne_vLESS_vGREATER ne_vLESS_vGREATER_OR_EQUAL ne_vLESS_OR_EQUAL_vGREATER ne_vLESS_OR_EQUAL_vGREATER_OR_EQUAL ne_vGREATER_vGREATER_OR_EQUAL) hZ (hw _ (List.mem_of_getElem? (i := 24) rfl)) (hw _ (List.mem_of_getElem? (i := 2) rfl)) (by decide) (by decide)) (g := (mkF m 88 #[.val (.int p1), .val (.int p2), .val (.int p3), .val (.ref vLESS_OR_EQUAL), .val (.ref vGREATER_OR_EQUAL), .val (.int (1 : Int32))] [(.int (F_rm5 p2 p3)), (.ref vLESS_OR_EQUAL), (.int (F_rm4_5 (F_rm5 p3 p2)))])) rfl (by rw [hml]; rfl) (argsL := [(.ref vLESS_OR_EQUAL), (.int (F_rm5 p2 p3))]) (rest := [(.int (F_rm4_5 (F_rm5 p3 p2)))]) (lenOf pd_3 rfl) rfl (by show 2 * 0 + _ ≤ _; exact Nat.le_of_eq rfl) (hb hby at_88) (fun _ _ => ⟨rfl, e54q, (by decide : 0 + 0 ≤ _), (by decide : 0 + 0 ≤ _)⟩)
    dsimp only [Pt.U, Pt.locs, Pt.cells, Pt.slots] at X55 l55 y55 z55 st55 hQ55
    subst l55 y55 z55
    obtain ⟨rfl, N55q, e55q⟩ := hQ55
    have N55 := Fr.app Ng54 N55q
    obtain ⟨Lg55, Xg55, Ng55⟩ := Stand_gen X55 N55
    refine Run.go st55 ?_
    show Run p e below s 0 0 (Q_rm0 Z p1 p2 p3 vEQUAL vNOT_EQUAL vLESS vLESS_OR_EQUAL vGREATER vGREATER_OR_EQUAL h0 n0) (T55.setTop (mkF m 91 #[.val (.int p1), .val (.int p2), .val (.int p3), .val (.ref vLESS_OR_EQUAL), .val (.ref vGREATER_OR_EQUAL), .val (.int (1 : Int32))] [(.int (F_rm4_3 (F_rm5 p2 p3))), (.int (F_rm4_5 (F_rm5 p3 p2)))]))
    refine Run.go (fun _ k => XS.icmpNo Xg55.here hx rfl (hb hby at_91) rfl (teq (own_h3 _ _)).2 k) ?_
    show Run p e below s 0 0 (Q_rm0 Z p1 p2 p3 vEQUAL vNOT_EQUAL vLESS vLESS_OR_EQUAL vGREATER vGREATER_OR_EQUAL h0 n0) (T55.setTop (mkF m 94 #[.val (.int p1), .val (.int p2), .val (.int p3), .val (.ref vLESS_OR_EQUAL), .val (.ref vGREATER_OR_EQUAL), .val (.int (1 : Int32))] []))
    refine Run.go (fun _ k => XS.iconst Xg55.here hx rfl (hb hby at_94) k) ?_
    show Run p e below s 0 0 (Q_rm0 Z p1 p2 p3 vEQUAL vNOT_EQUAL vLESS vLESS_OR_EQUAL vGREATER vGREATER_OR_EQUAL h0 n0) (T55.setTop (mkF m 95 #[.val (.int p1), .val (.int p2), .val (.int p3), .val (.ref vLESS_OR_EQUAL), .val (.ref vGREATER_OR_EQUAL), .val (.int (1 : Int32))] [(.int (1 : Int32))]))
    refine Run.go (fun _ k => XS.goto Xg55.here hx rfl (pc0 := 95) (pc' := 99) rfl (hb hby at_95) (by decide) (by decide) k) ?_
    show Run p e below s 0 0 (Q_rm0 Z p1 p2 p3 vEQUAL vNOT_EQUAL vLESS vLESS_OR_EQUAL vGREATER vGREATER_OR_EQUAL h0 n0) (T55.setTop (mkF m 99 #[.val (.int p1), .val (.int p2), .val (.int p3), .val (.ref vLESS_OR_EQUAL), .val (.ref vGREATER_OR_EQUAL), .val (.int (1 : Int32))] [(.int (1 : Int32))]))
    refine Run.go (fun _ k => XS.istore Xg55.here hx rfl (hb hby at_99) rfl (l' := #[.val (.int p1), .val (.int p2), .val (.int p3), .val (.ref vLESS_OR_EQUAL), .val (.ref vGREATER_OR_EQUAL), .val (.int (1 : Int32))]) rfl k) ?_
    show Run p e below s 0 0 (Q_rm0 Z p1 p2 p3 vEQUAL vNOT_EQUAL vLESS vLESS_OR_EQUAL vGREATER vGREATER_OR_EQUAL h0 n0) (T55.setTop (mkF m 101 #[.val (.int p1), .val (.int p2), .val (.int p3), .val (.ref vLESS_OR_EQUAL), .val (.ref vGREATER_OR_EQUAL), .val (.int (1 : Int32))] []))
    refine Run.go (fun _ k => XS.iload Xg55.here hx rfl (hb hby at_101) rfl  k) ?_
    show Run p e below s 0 0 (Q_rm0 Z p1 p2 p3 vEQUAL vNOT_EQUAL vLESS vLESS_OR_EQUAL vGREATER vGREATER_OR_EQUAL h0 n0) (T55.setTop (mkF m 103 #[.val (.int p1), .val (.int p2), .val (.int p3), .val (.ref vLESS_OR_EQUAL), .val (.ref vGREATER_OR_EQUAL), .val (.int (1 : Int32))] [(.int (1 : Int32))]))
    refine Run.go (fun _ k => XS.ifNo Xg55.here hx rfl (hb hby at_103) rfl ((if0 _ _).trans (feq (by decide)).1) k) ?_
    show Run p e below s 0 0 (Q_rm0 Z p1 p2 p3 vEQUAL vNOT_EQUAL vLESS vLESS_OR_EQUAL vGREATER vGREATER_OR_EQUAL h0 n0) (T55.setTop (mkF m 106 #[.val (.int p1), .val (.int p2), .val (.int p3), .val (.ref vLESS_OR_EQUAL), .val (.ref vGREATER_OR_EQUAL), .val (.int (1 : Int32))] []))
    refine Run.go (fun _ k => XS.aload Xg55.here hx rfl (hb hby at_106) rfl rfl k) ?_
    show Run p e below s 0 0 (Q_rm0 Z p1 p2 p3 vEQUAL vNOT_EQUAL vLESS vLESS_OR_EQUAL vGREATER vGREATER_OR_EQUAL h0 n0) (T55.setTop (mkF m 108 #[.val (.int p1), .val (.int p2), .val (.int p3), .val (.ref vLESS_OR_EQUAL), .val (.ref vGREATER_OR_EQUAL), .val (.int (1 : Int32))] [(.ref vGREATER_OR_EQUAL)]))
    obtain ⟨cq56, kq56, q56a, q56b, q56c⟩ := isOf hZ e55q E_vGREATER_OR_EQUAL
    obtain ⟨_, _, ⟨T56, L56, k56, n56⟩, -, X56, ⟨Lc56, hQ56, l56, y56, z56⟩, st56⟩ := Xg55.virtualBack hx (y := (⟨"com/example/exact_table/exacttable/Condition$Comparator", "flipped", "()Lcom/example/exact_table/exacttable/Condition$Comparator;"⟩ : MethodName)) (z := (⟨"com/example/exact_table/exacttable/Condition$Comparator", "flipped", "()Lcom/example/exact_table/exacttable/Condition$Comparator;"⟩ : MethodName)) hown (mvT hZ (hw _ (List.mem_of_getElem? (i := 8) rfl))) (mvT hZ (hw _ (List.mem_of_getElem? (i := 9) rfl))) (notFace_of_selects (args := #[]) (mvT hZ (hw _ (List.mem_of_getElem? (i := 11) rfl)))) (mvT hZ (hw _ (List.mem_of_getElem? (i := 11) rfl))) (mvT hZ (hw _ (List.mem_of_getElem? (i := 10) rfl))) (by decide) (backOf (W := 0) (rm2_5 l Z a0 hw [] vGREATER_OR_EQUAL vEQUAL vNOT_EQUAL vLESS vLESS_OR_EQUAL vGREATER h0 n0 Z0 S_Condition_Comparator_EQUAL S_Condition_Comparator_NOT_EQUAL S_Condition_Comparator_LESS S_Condition_Comparator_LESS_OR_EQUAL S_Condition_Comparator_GREATER S_Condition_Comparator_GREATER_OR_EQUAL F_ordinal_vGREATER_OR_EQUAL E_vGREATER_OR_EQUAL) hZ (hw _ (List.mem_of_getElem? (i := 12) rfl)) (hw _ (List.mem_of_getElem? (i := 6) rfl)) (by decide) (by decide)) q56a q56c (g := (mkF m 108 #[.val (.int p1), .val (.int p2), .val (.int p3), .val (.ref vLESS_OR_EQUAL), .val (.ref vGREATER_OR_EQUAL), .val (.int (1 : Int32))] [(.ref vGREATER_OR_EQUAL)])) rfl (by rw [hml]; rfl) (Steps.refl _) (argsL := []) (rest := []) (lenOf pd_2 rfl) rfl (by show 2 * 0 + _ ≤ _; exact Nat.le_of_eq rfl) (hb hby at_108) (fun _ _ => ⟨rfl, e55q, (by decide : 0 + 0 ≤ _), (by decide : 0 + 0 ≤ _)⟩)
    dsimp only [Pt.U, Pt.locs, Pt.cells, Pt.slots] at X56 l56 y56 z56 st56 hQ56
    subst l56 y56 z56
    obtain ⟨rfl, N56q, e56q⟩ := hQ56
    have N56 := Fr.app Ng55 N56q
    obtain ⟨Lg56, Xg56, Ng56⟩ := Stand_gen X56 N56
    refine Run.tr st56 ?_
    show Run p e below s 0 0 (Q_rm0 Z p1 p2 p3 vEQUAL vNOT_EQUAL vLESS vLESS_OR_EQUAL vGREATER vGREATER_OR_EQUAL h0 n0) (T56.setTop (mkF m 111 #[.val (.int p1), .val (.int p2), .val (.int p3), .val (.ref vLESS_OR_EQUAL), .val (.ref vGREATER_OR_EQUAL), .val (.int (1 : Int32))] [(.ref vLESS_OR_EQUAL)]))
    refine Run.go (fun _ k => XS.aloadN Xg56.here hx rfl (hb hby at_111) rfl rfl k) ?_
    show Run p e below s 0 0 (Q_rm0 Z p1 p2 p3 vEQUAL vNOT_EQUAL vLESS vLESS_OR_EQUAL vGREATER vGREATER_OR_EQUAL h0 n0) (T56.setTop (mkF m 112 #[.val (.int p1), .val (.int p2), .val (.int p3), .val (.ref vLESS_OR_EQUAL), .val (.ref vGREATER_OR_EQUAL), .val (.int (1 : Int32))] [(.ref vLESS_OR_EQUAL), (.ref vLESS_OR_EQUAL)]))
    refine Run.go (fun _ k => Jvm.RoadKit.acmp (g := (mkF m 112 #[.val (.int p1), .val (.int p2), .val (.int p3), .val (.ref vLESS_OR_EQUAL), .val (.ref vGREATER_OR_EQUAL), .val (.int (1 : Int32))] [(.ref vLESS_OR_EQUAL), (.ref vLESS_OR_EQUAL)])) Xg56 hx rfl rfl rfl (pc0 := 112) (pc' := 115) (same := true) rfl (hb hby at_112) rfl (decide_eq_true rfl) (by decide) (by decide) k) ?_
    show Run p e below s 0 0 (Q_rm0 Z p1 p2 p3 vEQUAL vNOT_EQUAL vLESS vLESS_OR_EQUAL vGREATER vGREATER_OR_EQUAL h0 n0) (T56.setTop (mkF m 115 #[.val (.int p1), .val (.int p2), .val (.int p3), .val (.ref vLESS_OR_EQUAL), .val (.ref vGREATER_OR_EQUAL), .val (.int (1 : Int32))] []))
    refine Run.go (fun _ k => XS.iconst Xg56.here hx rfl (hb hby at_115) k) ?_
    show Run p e below s 0 0 (Q_rm0 Z p1 p2 p3 vEQUAL vNOT_EQUAL vLESS vLESS_OR_EQUAL vGREATER vGREATER_OR_EQUAL h0 n0) (T56.setTop (mkF m 116 #[.val (.int p1), .val (.int p2), .val (.int p3), .val (.ref vLESS_OR_EQUAL), .val (.ref vGREATER_OR_EQUAL), .val (.int (1 : Int32))] [(.int (1 : Int32))]))
    refine Run.go (fun _ k => XS.goto Xg56.here hx rfl (pc0 := 116) (pc' := 120) rfl (hb hby at_116) (by decide) (by decide) k) ?_
    show Run p e below s 0 0 (Q_rm0 Z p1 p2 p3 vEQUAL vNOT_EQUAL vLESS vLESS_OR_EQUAL vGREATER vGREATER_OR_EQUAL h0 n0) (T56.setTop (mkF m 120 #[.val (.int p1), .val (.int p2), .val (.int p3), .val (.ref vLESS_OR_EQUAL), .val (.ref vGREATER_OR_EQUAL), .val (.int (1 : Int32))] [(.int (1 : Int32))]))
    refine Run.go (fun _ k => XS.istore Xg56.here hx rfl (hb hby at_120) rfl (l' := #[.val (.int p1), .val (.int p2), .val (.int p3), .val (.ref vLESS_OR_EQUAL), .val (.ref vGREATER_OR_EQUAL), .val (.int (1 : Int32))]) rfl k) ?_
    show Run p e below s 0 0 (Q_rm0 Z p1 p2 p3 vEQUAL vNOT_EQUAL vLESS vLESS_OR_EQUAL vGREATER vGREATER_OR_EQUAL h0 n0) (T56.setTop (mkF m 122 #[.val (.int p1), .val (.int p2), .val (.int p3), .val (.ref vLESS_OR_EQUAL), .val (.ref vGREATER_OR_EQUAL), .val (.int (1 : Int32))] []))
    refine Run.go (fun _ k => XS.iload Xg56.here hx rfl (hb hby at_122) rfl  k) ?_
    show Run p e below s 0 0 (Q_rm0 Z p1 p2 p3 vEQUAL vNOT_EQUAL vLESS vLESS_OR_EQUAL vGREATER vGREATER_OR_EQUAL h0 n0) (T56.setTop (mkF m 124 #[.val (.int p1), .val (.int p2), .val (.int p3), .val (.ref vLESS_OR_EQUAL), .val (.ref vGREATER_OR_EQUAL), .val (.int (1 : Int32))] [(.int (1 : Int32))]))
    exact Run.retN (y := 1) Xg56 hx (t := .boolean) Bd.returns (by simp) rfl Bd.notSynchronized (hb hby at_124) (by decide) (by decide) ⟨rfl, Ng56⟩
  · show Run p e below s 0 0 (Q_rm0 Z p1 p2 p3 vEQUAL vNOT_EQUAL vLESS vLESS_OR_EQUAL vGREATER vGREATER_OR_EQUAL h0 n0) (s₁.setTop (mkF m 0 #[.val (.int p1), .val (.int p2), .val (.int p3), .unset, .unset, .unset] []))
    refine Run.go (fun _ k => XS.iloadN X0.here hx rfl (hb hby at_0) rfl  k) ?_
    show Run p e below s 0 0 (Q_rm0 Z p1 p2 p3 vEQUAL vNOT_EQUAL vLESS vLESS_OR_EQUAL vGREATER vGREATER_OR_EQUAL h0 n0) (s₁.setTop (mkF m 1 #[.val (.int p1), .val (.int p2), .val (.int p3), .unset, .unset, .unset] [(.int p1)]))
    obtain ⟨_, _, ⟨T57, L57, k57, n57⟩, -, X57, ⟨Lc57, hQ57, l57, y57, z57⟩, st57⟩ := Jvm.LawKit.callS X0 hx (y := (⟨"com/example/exact_table/exacttable/ComparatorFlippedPinLaw", "pick", "(I)Lcom/example/exact_table/exacttable/Condition$Comparator;"⟩ : MethodName)) hown (mvT hZ (hw _ (List.mem_of_getElem? (i := 0) rfl))) (mvT hZ (hw _ (List.mem_of_getElem? (i := 1) rfl))) (mvT hZ (hw _ (List.mem_of_getElem? (i := 2) rfl))) (mvT hZ (hw _ (List.mem_of_getElem? (i := 3) rfl))) (by decide) (backOf (W := 0) (rm1_4 l Z a0 hw [] p1 vEQUAL vNOT_EQUAL vLESS vLESS_OR_EQUAL vGREATER vGREATER_OR_EQUAL h0 n0 Z0 S_Condition_Comparator_EQUAL S_Condition_Comparator_NOT_EQUAL S_Condition_Comparator_LESS S_Condition_Comparator_LESS_OR_EQUAL S_Condition_Comparator_GREATER S_Condition_Comparator_GREATER_OR_EQUAL hk4) hZ (hw _ (List.mem_of_getElem? (i := 3) rfl)) (hw _ (List.mem_of_getElem? (i := 2) rfl)) (by decide) (by decide)) (g := (mkF m 1 #[.val (.int p1), .val (.int p2), .val (.int p3), .unset, .unset, .unset] [(.int p1)])) rfl (by rw [hml]; rfl) (argsL := [(.int p1)]) (rest := []) (lenOf pd_1 rfl) rfl (by show 2 * 0 + _ ≤ _; exact Nat.le_of_eq rfl) (hb hby at_1) (fun _ _ => ⟨rfl, e0, (by decide : 0 + 0 ≤ _), (by decide : 0 + 0 ≤ _)⟩)
    dsimp only [Pt.U, Pt.locs, Pt.cells, Pt.slots] at X57 l57 y57 z57 st57 hQ57
    subst l57 y57 z57
    obtain ⟨rfl, N57q, e57q⟩ := hQ57
    have N57 := Fr.app N0 N57q
    obtain ⟨Lg57, Xg57, Ng57⟩ := Stand_gen X57 N57
    refine Run.go st57 ?_
    show Run p e below s 0 0 (Q_rm0 Z p1 p2 p3 vEQUAL vNOT_EQUAL vLESS vLESS_OR_EQUAL vGREATER vGREATER_OR_EQUAL h0 n0) (T57.setTop (mkF m 4 #[.val (.int p1), .val (.int p2), .val (.int p3), .unset, .unset, .unset] [(.ref vGREATER)]))
    refine Run.go (fun _ k => XS.astoreN Xg57.here hx rfl (hb hby at_4) rfl rfl (l' := #[.val (.int p1), .val (.int p2), .val (.int p3), .val (.ref vGREATER), .unset, .unset]) rfl k) ?_
    show Run p e below s 0 0 (Q_rm0 Z p1 p2 p3 vEQUAL vNOT_EQUAL vLESS vLESS_OR_EQUAL vGREATER vGREATER_OR_EQUAL h0 n0) (T57.setTop (mkF m 5 #[.val (.int p1), .val (.int p2), .val (.int p3), .val (.ref vGREATER), .unset, .unset] []))
    refine Run.go (fun _ k => XS.aloadN Xg57.here hx rfl (hb hby at_5) rfl rfl k) ?_
    show Run p e below s 0 0 (Q_rm0 Z p1 p2 p3 vEQUAL vNOT_EQUAL vLESS vLESS_OR_EQUAL vGREATER vGREATER_OR_EQUAL h0 n0) (T57.setTop (mkF m 6 #[.val (.int p1), .val (.int p2), .val (.int p3), .val (.ref vGREATER), .unset, .unset] [(.ref vGREATER)]))
    obtain ⟨cq58, kq58, q58a, q58b, q58c⟩ := isOf hZ e57q E_vGREATER
    obtain ⟨_, _, ⟨T58, L58, k58, n58⟩, -, X58, ⟨Lc58, hQ58, l58, y58, z58⟩, st58⟩ := Xg57.virtualBack hx (y := (⟨"com/example/exact_table/exacttable/Condition$Comparator", "flipped", "()Lcom/example/exact_table/exacttable/Condition$Comparator;"⟩ : MethodName)) (z := (⟨"com/example/exact_table/exacttable/Condition$Comparator", "flipped", "()Lcom/example/exact_table/exacttable/Condition$Comparator;"⟩ : MethodName)) hown (mvT hZ (hw _ (List.mem_of_getElem? (i := 8) rfl))) (mvT hZ (hw _ (List.mem_of_getElem? (i := 9) rfl))) (notFace_of_selects (args := #[]) (mvT hZ (hw _ (List.mem_of_getElem? (i := 11) rfl)))) (mvT hZ (hw _ (List.mem_of_getElem? (i := 11) rfl))) (mvT hZ (hw _ (List.mem_of_getElem? (i := 10) rfl))) (by decide) (backOf (W := 0) (rm2_4 l Z a0 hw [] vGREATER vEQUAL vNOT_EQUAL vLESS vLESS_OR_EQUAL vGREATER_OR_EQUAL h0 n0 Z0 S_Condition_Comparator_EQUAL S_Condition_Comparator_NOT_EQUAL S_Condition_Comparator_LESS S_Condition_Comparator_LESS_OR_EQUAL S_Condition_Comparator_GREATER S_Condition_Comparator_GREATER_OR_EQUAL F_ordinal_vGREATER E_vGREATER) hZ (hw _ (List.mem_of_getElem? (i := 12) rfl)) (hw _ (List.mem_of_getElem? (i := 6) rfl)) (by decide) (by decide)) q58a q58c (g := (mkF m 6 #[.val (.int p1), .val (.int p2), .val (.int p3), .val (.ref vGREATER), .unset, .unset] [(.ref vGREATER)])) rfl (by rw [hml]; rfl) (Steps.refl _) (argsL := []) (rest := []) (lenOf pd_2 rfl) rfl (by show 2 * 0 + _ ≤ _; exact Nat.le_of_eq rfl) (hb hby at_6) (fun _ _ => ⟨rfl, e57q, (by decide : 0 + 0 ≤ _), (by decide : 0 + 0 ≤ _)⟩)
    dsimp only [Pt.U, Pt.locs, Pt.cells, Pt.slots] at X58 l58 y58 z58 st58 hQ58
    subst l58 y58 z58
    obtain ⟨rfl, N58q, e58q⟩ := hQ58
    have N58 := Fr.app Ng57 N58q
    obtain ⟨Lg58, Xg58, Ng58⟩ := Stand_gen X58 N58
    refine Run.tr st58 ?_
    show Run p e below s 0 0 (Q_rm0 Z p1 p2 p3 vEQUAL vNOT_EQUAL vLESS vLESS_OR_EQUAL vGREATER vGREATER_OR_EQUAL h0 n0) (T58.setTop (mkF m 9 #[.val (.int p1), .val (.int p2), .val (.int p3), .val (.ref vGREATER), .unset, .unset] [(.ref vLESS)]))
    refine Run.go (fun _ k => XS.astore Xg58.here hx rfl (hb hby at_9) rfl rfl (l' := #[.val (.int p1), .val (.int p2), .val (.int p3), .val (.ref vGREATER), .val (.ref vLESS), .unset]) rfl k) ?_
    show Run p e below s 0 0 (Q_rm0 Z p1 p2 p3 vEQUAL vNOT_EQUAL vLESS vLESS_OR_EQUAL vGREATER vGREATER_OR_EQUAL h0 n0) (T58.setTop (mkF m 11 #[.val (.int p1), .val (.int p2), .val (.int p3), .val (.ref vGREATER), .val (.ref vLESS), .unset] []))
    refine Run.go (fun _ k => XS.aload Xg58.here hx rfl (hb hby at_11) rfl rfl k) ?_
    show Run p e below s 0 0 (Q_rm0 Z p1 p2 p3 vEQUAL vNOT_EQUAL vLESS vLESS_OR_EQUAL vGREATER vGREATER_OR_EQUAL h0 n0) (T58.setTop (mkF m 13 #[.val (.int p1), .val (.int p2), .val (.int p3), .val (.ref vGREATER), .val (.ref vLESS), .unset] [(.ref vLESS)]))
    refine Run.go (fun _ k => XS.ifnonnullYes Xg58.here hx rfl (pc0 := 13) (pc' := 18) rfl (hb hby at_13) rfl (by decide) (by decide) k) ?_
    show Run p e below s 0 0 (Q_rm0 Z p1 p2 p3 vEQUAL vNOT_EQUAL vLESS vLESS_OR_EQUAL vGREATER vGREATER_OR_EQUAL h0 n0) (T58.setTop (mkF m 18 #[.val (.int p1), .val (.int p2), .val (.int p3), .val (.ref vGREATER), .val (.ref vLESS), .unset] []))
    refine Run.go (fun _ k => XS.aload Xg58.here hx rfl (hb hby at_18) rfl rfl k) ?_
    show Run p e below s 0 0 (Q_rm0 Z p1 p2 p3 vEQUAL vNOT_EQUAL vLESS vLESS_OR_EQUAL vGREATER vGREATER_OR_EQUAL h0 n0) (T58.setTop (mkF m 20 #[.val (.int p1), .val (.int p2), .val (.int p3), .val (.ref vGREATER), .val (.ref vLESS), .unset] [(.ref vLESS)]))
    refine Run.go (fun _ k => XS.iconst Xg58.here hx rfl (hb hby at_20) k) ?_
    show Run p e below s 0 0 (Q_rm0 Z p1 p2 p3 vEQUAL vNOT_EQUAL vLESS vLESS_OR_EQUAL vGREATER vGREATER_OR_EQUAL h0 n0) (T58.setTop (mkF m 21 #[.val (.int p1), .val (.int p2), .val (.int p3), .val (.ref vGREATER), .val (.ref vLESS), .unset] [(.int (0 : Int32)), (.ref vLESS)]))
    obtain ⟨_, _, ⟨T59, L59, k59, n59⟩, -, X59, ⟨Lc59, hQ59, l59, y59, z59⟩, st59⟩ := Jvm.LawKit.callS Xg58 hx (y := (⟨"com/example/exact_table/exacttable/ComparatorFlippedPinLaw", "holds", "(Lcom/example/exact_table/exacttable/Condition$Comparator;I)Z"⟩ : MethodName)) hown (mvT hZ (hw _ (List.mem_of_getElem? (i := 22) rfl))) (mvT hZ (hw _ (List.mem_of_getElem? (i := 23) rfl))) (mvT hZ (hw _ (List.mem_of_getElem? (i := 2) rfl))) (mvT hZ (hw _ (List.mem_of_getElem? (i := 24) rfl))) (by decide) (backOf (W := 0) (rm4_2 l Z a0 hw [] vLESS (0 : Int32) vEQUAL vNOT_EQUAL vLESS_OR_EQUAL vGREATER vGREATER_OR_EQUAL h0 n0 Z0 S_Condition_Comparator_EQUAL S_Condition_Comparator_NOT_EQUAL S_Condition_Comparator_LESS S_Condition_Comparator_LESS_OR_EQUAL S_Condition_Comparator_GREATER S_Condition_Comparator_GREATER_OR_EQUAL ne_vEQUAL_vNOT_EQUAL ne_vEQUAL_vLESS ne_vEQUAL_vLESS_OR_EQUAL ne_vEQUAL_vGREATER ne_vEQUAL_vGREATER_OR_EQUAL ne_vNOT_EQUAL_vLESS ne_vNOT_EQUAL_vLESS_OR_EQUAL ne_vNOT_EQUAL_vGREATER ne_vNOT_EQUAL_vGREATER_OR_EQUAL ne_vLESS_vLESS_OR_EQUAL ne_vLESS_vGREATER ne_vLESS_vGREATER_OR_EQUAL ne_vLESS_OR_EQUAL_vGREATER ne_vLESS_OR_EQUAL_vGREATER_OR_EQUAL ne_vGREATER_vGREATER_OR_EQUAL) hZ (hw _ (List.mem_of_getElem? (i := 24) rfl)) (hw _ (List.mem_of_getElem? (i := 2) rfl)) (by decide) (by decide)) (g := (mkF m 21 #[.val (.int p1), .val (.int p2), .val (.int p3), .val (.ref vGREATER), .val (.ref vLESS), .unset] [(.int (0 : Int32)), (.ref vLESS)])) rfl (by rw [hml]; rfl) (argsL := [(.ref vLESS), (.int (0 : Int32))]) (rest := []) (lenOf pd_3 rfl) rfl (by show 2 * 0 + _ ≤ _; exact Nat.le_of_eq rfl) (hb hby at_21) (fun _ _ => ⟨rfl, e58q, (by decide : 0 + 0 ≤ _), (by decide : 0 + 0 ≤ _)⟩)
    dsimp only [Pt.U, Pt.locs, Pt.cells, Pt.slots] at X59 l59 y59 z59 st59 hQ59
    subst l59 y59 z59
    obtain ⟨rfl, N59q, e59q⟩ := hQ59
    have N59 := Fr.app Ng58 N59q
    obtain ⟨Lg59, Xg59, Ng59⟩ := Stand_gen X59 N59
    refine Run.go st59 ?_
    show Run p e below s 0 0 (Q_rm0 Z p1 p2 p3 vEQUAL vNOT_EQUAL vLESS vLESS_OR_EQUAL vGREATER vGREATER_OR_EQUAL h0 n0) (T59.setTop (mkF m 24 #[.val (.int p1), .val (.int p2), .val (.int p3), .val (.ref vGREATER), .val (.ref vLESS), .unset] [(.int (F_rm4_2 (0 : Int32)))]))
    refine Run.go (fun _ k => XS.aloadN Xg59.here hx rfl (hb hby at_24) rfl rfl k) ?_
    show Run p e below s 0 0 (Q_rm0 Z p1 p2 p3 vEQUAL vNOT_EQUAL vLESS vLESS_OR_EQUAL vGREATER vGREATER_OR_EQUAL h0 n0) (T59.setTop (mkF m 25 #[.val (.int p1), .val (.int p2), .val (.int p3), .val (.ref vGREATER), .val (.ref vLESS), .unset] [(.ref vGREATER), (.int (F_rm4_2 (0 : Int32)))]))
    refine Run.go (fun _ k => XS.iconst Xg59.here hx rfl (hb hby at_25) k) ?_
    show Run p e below s 0 0 (Q_rm0 Z p1 p2 p3 vEQUAL vNOT_EQUAL vLESS vLESS_OR_EQUAL vGREATER vGREATER_OR_EQUAL h0 n0) (T59.setTop (mkF m 26 #[.val (.int p1), .val (.int p2), .val (.int p3), .val (.ref vGREATER), .val (.ref vLESS), .unset] [(.int (0 : Int32)), (.ref vGREATER), (.int (F_rm4_2 (0 : Int32)))]))
    obtain ⟨_, _, ⟨T60, L60, k60, n60⟩, -, X60, ⟨Lc60, hQ60, l60, y60, z60⟩, st60⟩ := Jvm.LawKit.callS Xg59 hx (y := (⟨"com/example/exact_table/exacttable/ComparatorFlippedPinLaw", "holds", "(Lcom/example/exact_table/exacttable/Condition$Comparator;I)Z"⟩ : MethodName)) hown (mvT hZ (hw _ (List.mem_of_getElem? (i := 22) rfl))) (mvT hZ (hw _ (List.mem_of_getElem? (i := 23) rfl))) (mvT hZ (hw _ (List.mem_of_getElem? (i := 2) rfl))) (mvT hZ (hw _ (List.mem_of_getElem? (i := 24) rfl))) (by decide) (backOf (W := 1) (rm4_4 l Z a0 hw [] vGREATER (0 : Int32) vEQUAL vNOT_EQUAL vLESS vLESS_OR_EQUAL vGREATER_OR_EQUAL h0 n0 Z0 S_Condition_Comparator_EQUAL S_Condition_Comparator_NOT_EQUAL S_Condition_Comparator_LESS S_Condition_Comparator_LESS_OR_EQUAL S_Condition_Comparator_GREATER S_Condition_Comparator_GREATER_OR_EQUAL ne_vEQUAL_vNOT_EQUAL ne_vEQUAL_vLESS ne_vEQUAL_vLESS_OR_EQUAL ne_vEQUAL_vGREATER ne_vEQUAL_vGREATER_OR_EQUAL ne_vNOT_EQUAL_vLESS ne_vNOT_EQUAL_vLESS_OR_EQUAL ne_vNOT_EQUAL_vGREATER ne_vNOT_EQUAL_vGREATER_OR_EQUAL ne_vLESS_vLESS_OR_EQUAL ne_vLESS_vGREATER ne_vLESS_vGREATER_OR_EQUAL ne_vLESS_OR_EQUAL_vGREATER ne_vLESS_OR_EQUAL_vGREATER_OR_EQUAL ne_vGREATER_vGREATER_OR_EQUAL) hZ (hw _ (List.mem_of_getElem? (i := 24) rfl)) (hw _ (List.mem_of_getElem? (i := 2) rfl)) (by decide) (by decide)) (g := (mkF m 26 #[.val (.int p1), .val (.int p2), .val (.int p3), .val (.ref vGREATER), .val (.ref vLESS), .unset] [(.int (0 : Int32)), (.ref vGREATER), (.int (F_rm4_2 (0 : Int32)))])) rfl (by rw [hml]; rfl) (argsL := [(.ref vGREATER), (.int (0 : Int32))]) (rest := [(.int (F_rm4_2 (0 : Int32)))]) (lenOf pd_3 rfl) rfl (by show 2 * 0 + _ ≤ _; exact Nat.le_of_eq rfl) (hb hby at_26) (fun _ _ => ⟨rfl, e59q, (by decide : 0 + 0 ≤ _), (by decide : 0 + 0 ≤ _)⟩)
    dsimp only [Pt.U, Pt.locs, Pt.cells, Pt.slots] at X60 l60 y60 z60 st60 hQ60
    subst l60 y60 z60
    obtain ⟨rfl, N60q, e60q⟩ := hQ60
    have N60 := Fr.app Ng59 N60q
    obtain ⟨Lg60, Xg60, Ng60⟩ := Stand_gen X60 N60
    refine Run.go st60 ?_
    show Run p e below s 0 0 (Q_rm0 Z p1 p2 p3 vEQUAL vNOT_EQUAL vLESS vLESS_OR_EQUAL vGREATER vGREATER_OR_EQUAL h0 n0) (T60.setTop (mkF m 29 #[.val (.int p1), .val (.int p2), .val (.int p3), .val (.ref vGREATER), .val (.ref vLESS), .unset] [(.int (F_rm4_4 (0 : Int32))), (.int (F_rm4_2 (0 : Int32)))]))
    refine Run.go (fun _ k => XS.icmpNo Xg60.here hx rfl (hb hby at_29) rfl (teq (by decide)).2 k) ?_
    show Run p e below s 0 0 (Q_rm0 Z p1 p2 p3 vEQUAL vNOT_EQUAL vLESS vLESS_OR_EQUAL vGREATER vGREATER_OR_EQUAL h0 n0) (T60.setTop (mkF m 32 #[.val (.int p1), .val (.int p2), .val (.int p3), .val (.ref vGREATER), .val (.ref vLESS), .unset] []))
    refine Run.go (fun _ k => XS.aload Xg60.here hx rfl (hb hby at_32) rfl rfl k) ?_
    show Run p e below s 0 0 (Q_rm0 Z p1 p2 p3 vEQUAL vNOT_EQUAL vLESS vLESS_OR_EQUAL vGREATER vGREATER_OR_EQUAL h0 n0) (T60.setTop (mkF m 34 #[.val (.int p1), .val (.int p2), .val (.int p3), .val (.ref vGREATER), .val (.ref vLESS), .unset] [(.ref vLESS)]))
    refine Run.go (fun _ k => XS.iconst Xg60.here hx rfl (hb hby at_34) k) ?_
    show Run p e below s 0 0 (Q_rm0 Z p1 p2 p3 vEQUAL vNOT_EQUAL vLESS vLESS_OR_EQUAL vGREATER vGREATER_OR_EQUAL h0 n0) (T60.setTop (mkF m 35 #[.val (.int p1), .val (.int p2), .val (.int p3), .val (.ref vGREATER), .val (.ref vLESS), .unset] [(.int (1 : Int32)), (.ref vLESS)]))
    obtain ⟨_, _, ⟨T61, L61, k61, n61⟩, -, X61, ⟨Lc61, hQ61, l61, y61, z61⟩, st61⟩ := Jvm.LawKit.callS Xg60 hx (y := (⟨"com/example/exact_table/exacttable/ComparatorFlippedPinLaw", "holds", "(Lcom/example/exact_table/exacttable/Condition$Comparator;I)Z"⟩ : MethodName)) hown (mvT hZ (hw _ (List.mem_of_getElem? (i := 22) rfl))) (mvT hZ (hw _ (List.mem_of_getElem? (i := 23) rfl))) (mvT hZ (hw _ (List.mem_of_getElem? (i := 2) rfl))) (mvT hZ (hw _ (List.mem_of_getElem? (i := 24) rfl))) (by decide) (backOf (W := 0) (rm4_2 l Z a0 hw [] vLESS (1 : Int32) vEQUAL vNOT_EQUAL vLESS_OR_EQUAL vGREATER vGREATER_OR_EQUAL h0 n0 Z0 S_Condition_Comparator_EQUAL S_Condition_Comparator_NOT_EQUAL S_Condition_Comparator_LESS S_Condition_Comparator_LESS_OR_EQUAL S_Condition_Comparator_GREATER S_Condition_Comparator_GREATER_OR_EQUAL ne_vEQUAL_vNOT_EQUAL ne_vEQUAL_vLESS ne_vEQUAL_vLESS_OR_EQUAL ne_vEQUAL_vGREATER ne_vEQUAL_vGREATER_OR_EQUAL ne_vNOT_EQUAL_vLESS ne_vNOT_EQUAL_vLESS_OR_EQUAL ne_vNOT_EQUAL_vGREATER ne_vNOT_EQUAL_vGREATER_OR_EQUAL ne_vLESS_vLESS_OR_EQUAL ne_vLESS_vGREATER ne_vLESS_vGREATER_OR_EQUAL ne_vLESS_OR_EQUAL_vGREATER ne_vLESS_OR_EQUAL_vGREATER_OR_EQUAL ne_vGREATER_vGREATER_OR_EQUAL) hZ (hw _ (List.mem_of_getElem? (i := 24) rfl)) (hw _ (List.mem_of_getElem? (i := 2) rfl)) (by decide) (by decide)) (g := (mkF m 35 #[.val (.int p1), .val (.int p2), .val (.int p3), .val (.ref vGREATER), .val (.ref vLESS), .unset] [(.int (1 : Int32)), (.ref vLESS)])) rfl (by rw [hml]; rfl) (argsL := [(.ref vLESS), (.int (1 : Int32))]) (rest := []) (lenOf pd_3 rfl) rfl (by show 2 * 0 + _ ≤ _; exact Nat.le_of_eq rfl) (hb hby at_35) (fun _ _ => ⟨rfl, e60q, (by decide : 0 + 0 ≤ _), (by decide : 0 + 0 ≤ _)⟩)
    dsimp only [Pt.U, Pt.locs, Pt.cells, Pt.slots] at X61 l61 y61 z61 st61 hQ61
    subst l61 y61 z61
    obtain ⟨rfl, N61q, e61q⟩ := hQ61
    have N61 := Fr.app Ng60 N61q
    obtain ⟨Lg61, Xg61, Ng61⟩ := Stand_gen X61 N61
    refine Run.go st61 ?_
    show Run p e below s 0 0 (Q_rm0 Z p1 p2 p3 vEQUAL vNOT_EQUAL vLESS vLESS_OR_EQUAL vGREATER vGREATER_OR_EQUAL h0 n0) (T61.setTop (mkF m 38 #[.val (.int p1), .val (.int p2), .val (.int p3), .val (.ref vGREATER), .val (.ref vLESS), .unset] [(.int (F_rm4_2 (1 : Int32)))]))
    refine Run.go (fun _ k => XS.aloadN Xg61.here hx rfl (hb hby at_38) rfl rfl k) ?_
    show Run p e below s 0 0 (Q_rm0 Z p1 p2 p3 vEQUAL vNOT_EQUAL vLESS vLESS_OR_EQUAL vGREATER vGREATER_OR_EQUAL h0 n0) (T61.setTop (mkF m 39 #[.val (.int p1), .val (.int p2), .val (.int p3), .val (.ref vGREATER), .val (.ref vLESS), .unset] [(.ref vGREATER), (.int (F_rm4_2 (1 : Int32)))]))
    refine Run.go (fun _ k => XS.iconst Xg61.here hx rfl (hb hby at_39) k) ?_
    show Run p e below s 0 0 (Q_rm0 Z p1 p2 p3 vEQUAL vNOT_EQUAL vLESS vLESS_OR_EQUAL vGREATER vGREATER_OR_EQUAL h0 n0) (T61.setTop (mkF m 40 #[.val (.int p1), .val (.int p2), .val (.int p3), .val (.ref vGREATER), .val (.ref vLESS), .unset] [(.int (-1 : Int32)), (.ref vGREATER), (.int (F_rm4_2 (1 : Int32)))]))
    obtain ⟨_, _, ⟨T62, L62, k62, n62⟩, -, X62, ⟨Lc62, hQ62, l62, y62, z62⟩, st62⟩ := Jvm.LawKit.callS Xg61 hx (y := (⟨"com/example/exact_table/exacttable/ComparatorFlippedPinLaw", "holds", "(Lcom/example/exact_table/exacttable/Condition$Comparator;I)Z"⟩ : MethodName)) hown (mvT hZ (hw _ (List.mem_of_getElem? (i := 22) rfl))) (mvT hZ (hw _ (List.mem_of_getElem? (i := 23) rfl))) (mvT hZ (hw _ (List.mem_of_getElem? (i := 2) rfl))) (mvT hZ (hw _ (List.mem_of_getElem? (i := 24) rfl))) (by decide) (backOf (W := 1) (rm4_4 l Z a0 hw [] vGREATER (-1 : Int32) vEQUAL vNOT_EQUAL vLESS vLESS_OR_EQUAL vGREATER_OR_EQUAL h0 n0 Z0 S_Condition_Comparator_EQUAL S_Condition_Comparator_NOT_EQUAL S_Condition_Comparator_LESS S_Condition_Comparator_LESS_OR_EQUAL S_Condition_Comparator_GREATER S_Condition_Comparator_GREATER_OR_EQUAL ne_vEQUAL_vNOT_EQUAL ne_vEQUAL_vLESS ne_vEQUAL_vLESS_OR_EQUAL ne_vEQUAL_vGREATER ne_vEQUAL_vGREATER_OR_EQUAL ne_vNOT_EQUAL_vLESS ne_vNOT_EQUAL_vLESS_OR_EQUAL ne_vNOT_EQUAL_vGREATER ne_vNOT_EQUAL_vGREATER_OR_EQUAL ne_vLESS_vLESS_OR_EQUAL ne_vLESS_vGREATER ne_vLESS_vGREATER_OR_EQUAL ne_vLESS_OR_EQUAL_vGREATER ne_vLESS_OR_EQUAL_vGREATER_OR_EQUAL ne_vGREATER_vGREATER_OR_EQUAL) hZ (hw _ (List.mem_of_getElem? (i := 24) rfl)) (hw _ (List.mem_of_getElem? (i := 2) rfl)) (by decide) (by decide)) (g := (mkF m 40 #[.val (.int p1), .val (.int p2), .val (.int p3), .val (.ref vGREATER), .val (.ref vLESS), .unset] [(.int (-1 : Int32)), (.ref vGREATER), (.int (F_rm4_2 (1 : Int32)))])) rfl (by rw [hml]; rfl) (argsL := [(.ref vGREATER), (.int (-1 : Int32))]) (rest := [(.int (F_rm4_2 (1 : Int32)))]) (lenOf pd_3 rfl) rfl (by show 2 * 0 + _ ≤ _; exact Nat.le_of_eq rfl) (hb hby at_40) (fun _ _ => ⟨rfl, e61q, (by decide : 0 + 0 ≤ _), (by decide : 0 + 0 ≤ _)⟩)
    dsimp only [Pt.U, Pt.locs, Pt.cells, Pt.slots] at X62 l62 y62 z62 st62 hQ62
    subst l62 y62 z62
    obtain ⟨rfl, N62q, e62q⟩ := hQ62
    have N62 := Fr.app Ng61 N62q
    obtain ⟨Lg62, Xg62, Ng62⟩ := Stand_gen X62 N62
    refine Run.go st62 ?_
    show Run p e below s 0 0 (Q_rm0 Z p1 p2 p3 vEQUAL vNOT_EQUAL vLESS vLESS_OR_EQUAL vGREATER vGREATER_OR_EQUAL h0 n0) (T62.setTop (mkF m 43 #[.val (.int p1), .val (.int p2), .val (.int p3), .val (.ref vGREATER), .val (.ref vLESS), .unset] [(.int (F_rm4_4 (-1 : Int32))), (.int (F_rm4_2 (1 : Int32)))]))
    refine Run.go (fun _ k => XS.icmpNo Xg62.here hx rfl (hb hby at_43) rfl (teq (by decide)).2 k) ?_
    show Run p e below s 0 0 (Q_rm0 Z p1 p2 p3 vEQUAL vNOT_EQUAL vLESS vLESS_OR_EQUAL vGREATER vGREATER_OR_EQUAL h0 n0) (T62.setTop (mkF m 46 #[.val (.int p1), .val (.int p2), .val (.int p3), .val (.ref vGREATER), .val (.ref vLESS), .unset] []))
    refine Run.go (fun _ k => XS.aload Xg62.here hx rfl (hb hby at_46) rfl rfl k) ?_
    show Run p e below s 0 0 (Q_rm0 Z p1 p2 p3 vEQUAL vNOT_EQUAL vLESS vLESS_OR_EQUAL vGREATER vGREATER_OR_EQUAL h0 n0) (T62.setTop (mkF m 48 #[.val (.int p1), .val (.int p2), .val (.int p3), .val (.ref vGREATER), .val (.ref vLESS), .unset] [(.ref vLESS)]))
    refine Run.go (fun _ k => XS.iconst Xg62.here hx rfl (hb hby at_48) k) ?_
    show Run p e below s 0 0 (Q_rm0 Z p1 p2 p3 vEQUAL vNOT_EQUAL vLESS vLESS_OR_EQUAL vGREATER vGREATER_OR_EQUAL h0 n0) (T62.setTop (mkF m 49 #[.val (.int p1), .val (.int p2), .val (.int p3), .val (.ref vGREATER), .val (.ref vLESS), .unset] [(.int (-1 : Int32)), (.ref vLESS)]))
    obtain ⟨_, _, ⟨T63, L63, k63, n63⟩, -, X63, ⟨Lc63, hQ63, l63, y63, z63⟩, st63⟩ := Jvm.LawKit.callS Xg62 hx (y := (⟨"com/example/exact_table/exacttable/ComparatorFlippedPinLaw", "holds", "(Lcom/example/exact_table/exacttable/Condition$Comparator;I)Z"⟩ : MethodName)) hown (mvT hZ (hw _ (List.mem_of_getElem? (i := 22) rfl))) (mvT hZ (hw _ (List.mem_of_getElem? (i := 23) rfl))) (mvT hZ (hw _ (List.mem_of_getElem? (i := 2) rfl))) (mvT hZ (hw _ (List.mem_of_getElem? (i := 24) rfl))) (by decide) (backOf (W := 0) (rm4_2 l Z a0 hw [] vLESS (-1 : Int32) vEQUAL vNOT_EQUAL vLESS_OR_EQUAL vGREATER vGREATER_OR_EQUAL h0 n0 Z0 S_Condition_Comparator_EQUAL S_Condition_Comparator_NOT_EQUAL S_Condition_Comparator_LESS S_Condition_Comparator_LESS_OR_EQUAL S_Condition_Comparator_GREATER S_Condition_Comparator_GREATER_OR_EQUAL ne_vEQUAL_vNOT_EQUAL ne_vEQUAL_vLESS ne_vEQUAL_vLESS_OR_EQUAL ne_vEQUAL_vGREATER ne_vEQUAL_vGREATER_OR_EQUAL ne_vNOT_EQUAL_vLESS ne_vNOT_EQUAL_vLESS_OR_EQUAL ne_vNOT_EQUAL_vGREATER ne_vNOT_EQUAL_vGREATER_OR_EQUAL ne_vLESS_vLESS_OR_EQUAL ne_vLESS_vGREATER ne_vLESS_vGREATER_OR_EQUAL ne_vLESS_OR_EQUAL_vGREATER ne_vLESS_OR_EQUAL_vGREATER_OR_EQUAL ne_vGREATER_vGREATER_OR_EQUAL) hZ (hw _ (List.mem_of_getElem? (i := 24) rfl)) (hw _ (List.mem_of_getElem? (i := 2) rfl)) (by decide) (by decide)) (g := (mkF m 49 #[.val (.int p1), .val (.int p2), .val (.int p3), .val (.ref vGREATER), .val (.ref vLESS), .unset] [(.int (-1 : Int32)), (.ref vLESS)])) rfl (by rw [hml]; rfl) (argsL := [(.ref vLESS), (.int (-1 : Int32))]) (rest := []) (lenOf pd_3 rfl) rfl (by show 2 * 0 + _ ≤ _; exact Nat.le_of_eq rfl) (hb hby at_49) (fun _ _ => ⟨rfl, e62q, (by decide : 0 + 0 ≤ _), (by decide : 0 + 0 ≤ _)⟩)
    dsimp only [Pt.U, Pt.locs, Pt.cells, Pt.slots] at X63 l63 y63 z63 st63 hQ63
    subst l63 y63 z63
    obtain ⟨rfl, N63q, e63q⟩ := hQ63
    have N63 := Fr.app Ng62 N63q
    obtain ⟨Lg63, Xg63, Ng63⟩ := Stand_gen X63 N63
    refine Run.go st63 ?_
    show Run p e below s 0 0 (Q_rm0 Z p1 p2 p3 vEQUAL vNOT_EQUAL vLESS vLESS_OR_EQUAL vGREATER vGREATER_OR_EQUAL h0 n0) (T63.setTop (mkF m 52 #[.val (.int p1), .val (.int p2), .val (.int p3), .val (.ref vGREATER), .val (.ref vLESS), .unset] [(.int (F_rm4_2 (-1 : Int32)))]))
    refine Run.go (fun _ k => XS.aloadN Xg63.here hx rfl (hb hby at_52) rfl rfl k) ?_
    show Run p e below s 0 0 (Q_rm0 Z p1 p2 p3 vEQUAL vNOT_EQUAL vLESS vLESS_OR_EQUAL vGREATER vGREATER_OR_EQUAL h0 n0) (T63.setTop (mkF m 53 #[.val (.int p1), .val (.int p2), .val (.int p3), .val (.ref vGREATER), .val (.ref vLESS), .unset] [(.ref vGREATER), (.int (F_rm4_2 (-1 : Int32)))]))
    refine Run.go (fun _ k => XS.iconst Xg63.here hx rfl (hb hby at_53) k) ?_
    show Run p e below s 0 0 (Q_rm0 Z p1 p2 p3 vEQUAL vNOT_EQUAL vLESS vLESS_OR_EQUAL vGREATER vGREATER_OR_EQUAL h0 n0) (T63.setTop (mkF m 54 #[.val (.int p1), .val (.int p2), .val (.int p3), .val (.ref vGREATER), .val (.ref vLESS), .unset] [(.int (1 : Int32)), (.ref vGREATER), (.int (F_rm4_2 (-1 : Int32)))]))
    obtain ⟨_, _, ⟨T64, L64, k64, n64⟩, -, X64, ⟨Lc64, hQ64, l64, y64, z64⟩, st64⟩ := Jvm.LawKit.callS Xg63 hx (y := (⟨"com/example/exact_table/exacttable/ComparatorFlippedPinLaw", "holds", "(Lcom/example/exact_table/exacttable/Condition$Comparator;I)Z"⟩ : MethodName)) hown (mvT hZ (hw _ (List.mem_of_getElem? (i := 22) rfl))) (mvT hZ (hw _ (List.mem_of_getElem? (i := 23) rfl))) (mvT hZ (hw _ (List.mem_of_getElem? (i := 2) rfl))) (mvT hZ (hw _ (List.mem_of_getElem? (i := 24) rfl))) (by decide) (backOf (W := 1) (rm4_4 l Z a0 hw [] vGREATER (1 : Int32) vEQUAL vNOT_EQUAL vLESS vLESS_OR_EQUAL vGREATER_OR_EQUAL h0 n0 Z0 S_Condition_Comparator_EQUAL S_Condition_Comparator_NOT_EQUAL S_Condition_Comparator_LESS S_Condition_Comparator_LESS_OR_EQUAL S_Condition_Comparator_GREATER S_Condition_Comparator_GREATER_OR_EQUAL ne_vEQUAL_vNOT_EQUAL ne_vEQUAL_vLESS ne_vEQUAL_vLESS_OR_EQUAL ne_vEQUAL_vGREATER ne_vEQUAL_vGREATER_OR_EQUAL ne_vNOT_EQUAL_vLESS ne_vNOT_EQUAL_vLESS_OR_EQUAL ne_vNOT_EQUAL_vGREATER ne_vNOT_EQUAL_vGREATER_OR_EQUAL ne_vLESS_vLESS_OR_EQUAL ne_vLESS_vGREATER ne_vLESS_vGREATER_OR_EQUAL ne_vLESS_OR_EQUAL_vGREATER ne_vLESS_OR_EQUAL_vGREATER_OR_EQUAL ne_vGREATER_vGREATER_OR_EQUAL) hZ (hw _ (List.mem_of_getElem? (i := 24) rfl)) (hw _ (List.mem_of_getElem? (i := 2) rfl)) (by decide) (by decide)) (g := (mkF m 54 #[.val (.int p1), .val (.int p2), .val (.int p3), .val (.ref vGREATER), .val (.ref vLESS), .unset] [(.int (1 : Int32)), (.ref vGREATER), (.int (F_rm4_2 (-1 : Int32)))])) rfl (by rw [hml]; rfl) (argsL := [(.ref vGREATER), (.int (1 : Int32))]) (rest := [(.int (F_rm4_2 (-1 : Int32)))]) (lenOf pd_3 rfl) rfl (by show 2 * 0 + _ ≤ _; exact Nat.le_of_eq rfl) (hb hby at_54) (fun _ _ => ⟨rfl, e63q, (by decide : 0 + 0 ≤ _), (by decide : 0 + 0 ≤ _)⟩)
    dsimp only [Pt.U, Pt.locs, Pt.cells, Pt.slots] at X64 l64 y64 z64 st64 hQ64
    subst l64 y64 z64
    obtain ⟨rfl, N64q, e64q⟩ := hQ64
    have N64 := Fr.app Ng63 N64q
    obtain ⟨Lg64, Xg64, Ng64⟩ := Stand_gen X64 N64
    refine Run.go st64 ?_
    show Run p e below s 0 0 (Q_rm0 Z p1 p2 p3 vEQUAL vNOT_EQUAL vLESS vLESS_OR_EQUAL vGREATER vGREATER_OR_EQUAL h0 n0) (T64.setTop (mkF m 57 #[.val (.int p1), .val (.int p2), .val (.int p3), .val (.ref vGREATER), .val (.ref vLESS), .unset] [(.int (F_rm4_4 (1 : Int32))), (.int (F_rm4_2 (-1 : Int32)))]))
    refine Run.go (fun _ k => XS.icmpNo Xg64.here hx rfl (hb hby at_57) rfl (teq (by decide)).2 k) ?_
    show Run p e below s 0 0 (Q_rm0 Z p1 p2 p3 vEQUAL vNOT_EQUAL vLESS vLESS_OR_EQUAL vGREATER vGREATER_OR_EQUAL h0 n0) (T64.setTop (mkF m 60 #[.val (.int p1), .val (.int p2), .val (.int p3), .val (.ref vGREATER), .val (.ref vLESS), .unset] []))
    refine Run.go (fun _ k => XS.iconst Xg64.here hx rfl (hb hby at_60) k) ?_
    show Run p e below s 0 0 (Q_rm0 Z p1 p2 p3 vEQUAL vNOT_EQUAL vLESS vLESS_OR_EQUAL vGREATER vGREATER_OR_EQUAL h0 n0) (T64.setTop (mkF m 61 #[.val (.int p1), .val (.int p2), .val (.int p3), .val (.ref vGREATER), .val (.ref vLESS), .unset] [(.int (1 : Int32))]))
    refine Run.go (fun _ k => XS.goto Xg64.here hx rfl (pc0 := 61) (pc' := 65) rfl (hb hby at_61) (by decide) (by decide) k) ?_
    show Run p e below s 0 0 (Q_rm0 Z p1 p2 p3 vEQUAL vNOT_EQUAL vLESS vLESS_OR_EQUAL vGREATER vGREATER_OR_EQUAL h0 n0) (T64.setTop (mkF m 65 #[.val (.int p1), .val (.int p2), .val (.int p3), .val (.ref vGREATER), .val (.ref vLESS), .unset] [(.int (1 : Int32))]))
    refine Run.go (fun _ k => XS.istore Xg64.here hx rfl (hb hby at_65) rfl (l' := #[.val (.int p1), .val (.int p2), .val (.int p3), .val (.ref vGREATER), .val (.ref vLESS), .val (.int (1 : Int32))]) rfl k) ?_
    show Run p e below s 0 0 (Q_rm0 Z p1 p2 p3 vEQUAL vNOT_EQUAL vLESS vLESS_OR_EQUAL vGREATER vGREATER_OR_EQUAL h0 n0) (T64.setTop (mkF m 67 #[.val (.int p1), .val (.int p2), .val (.int p3), .val (.ref vGREATER), .val (.ref vLESS), .val (.int (1 : Int32))] []))
    refine Run.go (fun _ k => XS.iload Xg64.here hx rfl (hb hby at_67) rfl  k) ?_
    show Run p e below s 0 0 (Q_rm0 Z p1 p2 p3 vEQUAL vNOT_EQUAL vLESS vLESS_OR_EQUAL vGREATER vGREATER_OR_EQUAL h0 n0) (T64.setTop (mkF m 69 #[.val (.int p1), .val (.int p2), .val (.int p3), .val (.ref vGREATER), .val (.ref vLESS), .val (.int (1 : Int32))] [(.int (1 : Int32))]))
    refine Run.go (fun _ k => XS.ifNo Xg64.here hx rfl (hb hby at_69) rfl ((if0 _ _).trans (feq (by decide)).1) k) ?_
    show Run p e below s 0 0 (Q_rm0 Z p1 p2 p3 vEQUAL vNOT_EQUAL vLESS vLESS_OR_EQUAL vGREATER vGREATER_OR_EQUAL h0 n0) (T64.setTop (mkF m 72 #[.val (.int p1), .val (.int p2), .val (.int p3), .val (.ref vGREATER), .val (.ref vLESS), .val (.int (1 : Int32))] []))
    refine Run.go (fun _ k => XS.aload Xg64.here hx rfl (hb hby at_72) rfl rfl k) ?_
    show Run p e below s 0 0 (Q_rm0 Z p1 p2 p3 vEQUAL vNOT_EQUAL vLESS vLESS_OR_EQUAL vGREATER vGREATER_OR_EQUAL h0 n0) (T64.setTop (mkF m 74 #[.val (.int p1), .val (.int p2), .val (.int p3), .val (.ref vGREATER), .val (.ref vLESS), .val (.int (1 : Int32))] [(.ref vLESS)]))
    refine Run.go (fun _ k => XS.iloadN Xg64.here hx rfl (hb hby at_74) rfl  k) ?_
    show Run p e below s 0 0 (Q_rm0 Z p1 p2 p3 vEQUAL vNOT_EQUAL vLESS vLESS_OR_EQUAL vGREATER vGREATER_OR_EQUAL h0 n0) (T64.setTop (mkF m 75 #[.val (.int p1), .val (.int p2), .val (.int p3), .val (.ref vGREATER), .val (.ref vLESS), .val (.int (1 : Int32))] [(.int p3), (.ref vLESS)]))
    refine Run.go (fun _ k => XS.iloadN Xg64.here hx rfl (hb hby at_75) rfl  k) ?_
    show Run p e below s 0 0 (Q_rm0 Z p1 p2 p3 vEQUAL vNOT_EQUAL vLESS vLESS_OR_EQUAL vGREATER vGREATER_OR_EQUAL h0 n0) (T64.setTop (mkF m 76 #[.val (.int p1), .val (.int p2), .val (.int p3), .val (.ref vGREATER), .val (.ref vLESS), .val (.int (1 : Int32))] [(.int p2), (.int p3), (.ref vLESS)]))
    obtain ⟨_, _, ⟨T65, L65, k65, n65⟩, -, X65, ⟨Lc65, hQ65, l65, y65, z65⟩, st65⟩ := Jvm.LawKit.callS Xg64 hx (y := (⟨"com/example/exact_table/exacttable/ComparatorFlippedPinLaw", "sign", "(II)I"⟩ : MethodName)) hown (mvT hZ (hw _ (List.mem_of_getElem? (i := 25) rfl))) (mvT hZ (hw _ (List.mem_of_getElem? (i := 26) rfl))) (mvT hZ (hw _ (List.mem_of_getElem? (i := 2) rfl))) (mvT hZ (hw _ (List.mem_of_getElem? (i := 27) rfl))) (by decide) (backOf (W := 1) (rm5 l Z a0 hw [] p3 p2 h0 n0 Z0 ) hZ (hw _ (List.mem_of_getElem? (i := 27) rfl)) (hw _ (List.mem_of_getElem? (i := 2) rfl)) (by decide) (by decide)) (g := (mkF m 76 #[.val (.int p1), .val (.int p2), .val (.int p3), .val (.ref vGREATER), .val (.ref vLESS), .val (.int (1 : Int32))] [(.int p2), (.int p3), (.ref vLESS)])) rfl (by rw [hml]; rfl) (argsL := [(.int p3), (.int p2)]) (rest := [(.ref vLESS)]) (lenOf pd_4 rfl) rfl (by show 2 * 0 + _ ≤ _; exact Nat.le_of_eq rfl) (hb hby at_76) (fun _ _ => ⟨rfl, e64q, (by decide : 0 + 0 ≤ _), (by decide : 0 + 0 ≤ _)⟩)
    dsimp only [Pt.U, Pt.locs, Pt.cells, Pt.slots] at X65 l65 y65 z65 st65 hQ65
    subst l65 y65 z65
    obtain ⟨rfl, N65q, e65q⟩ := hQ65
    have N65 := Fr.app Ng64 N65q
    obtain ⟨Lg65, Xg65, Ng65⟩ := Stand_gen X65 N65
    refine Run.go st65 ?_
    show Run p e below s 0 0 (Q_rm0 Z p1 p2 p3 vEQUAL vNOT_EQUAL vLESS vLESS_OR_EQUAL vGREATER vGREATER_OR_EQUAL h0 n0) (T65.setTop (mkF m 79 #[.val (.int p1), .val (.int p2), .val (.int p3), .val (.ref vGREATER), .val (.ref vLESS), .val (.int (1 : Int32))] [(.int (F_rm5 p3 p2)), (.ref vLESS)]))
    obtain ⟨_, _, ⟨T66, L66, k66, n66⟩, -, X66, ⟨Lc66, hQ66, l66, y66, z66⟩, st66⟩ := Jvm.LawKit.callS Xg65 hx (y := (⟨"com/example/exact_table/exacttable/ComparatorFlippedPinLaw", "holds", "(Lcom/example/exact_table/exacttable/Condition$Comparator;I)Z"⟩ : MethodName)) hown (mvT hZ (hw _ (List.mem_of_getElem? (i := 22) rfl))) (mvT hZ (hw _ (List.mem_of_getElem? (i := 23) rfl))) (mvT hZ (hw _ (List.mem_of_getElem? (i := 2) rfl))) (mvT hZ (hw _ (List.mem_of_getElem? (i := 24) rfl))) (by decide) (backOf (W := 0) (rm4_2 l Z a0 hw [] vLESS (F_rm5 p3 p2) vEQUAL vNOT_EQUAL vLESS_OR_EQUAL vGREATER vGREATER_OR_EQUAL h0 n0 Z0 S_Condition_Comparator_EQUAL S_Condition_Comparator_NOT_EQUAL S_Condition_Comparator_LESS S_Condition_Comparator_LESS_OR_EQUAL S_Condition_Comparator_GREATER S_Condition_Comparator_GREATER_OR_EQUAL ne_vEQUAL_vNOT_EQUAL ne_vEQUAL_vLESS ne_vEQUAL_vLESS_OR_EQUAL ne_vEQUAL_vGREATER ne_vEQUAL_vGREATER_OR_EQUAL ne_vNOT_EQUAL_vLESS ne_vNOT_EQUAL_vLESS_OR_EQUAL ne_vNOT_EQUAL_vGREATER ne_vNOT_EQUAL_vGREATER_OR_EQUAL ne_vLESS_vLESS_OR_EQUAL ne_vLESS_vGREATER ne_vLESS_vGREATER_OR_EQUAL ne_vLESS_OR_EQUAL_vGREATER ne_vLESS_OR_EQUAL_vGREATER_OR_EQUAL ne_vGREATER_vGREATER_OR_EQUAL) hZ (hw _ (List.mem_of_getElem? (i := 24) rfl)) (hw _ (List.mem_of_getElem? (i := 2) rfl)) (by decide) (by decide)) (g := (mkF m 79 #[.val (.int p1), .val (.int p2), .val (.int p3), .val (.ref vGREATER), .val (.ref vLESS), .val (.int (1 : Int32))] [(.int (F_rm5 p3 p2)), (.ref vLESS)])) rfl (by rw [hml]; rfl) (argsL := [(.ref vLESS), (.int (F_rm5 p3 p2))]) (rest := []) (lenOf pd_3 rfl) rfl (by show 2 * 0 + _ ≤ _; exact Nat.le_of_eq rfl) (hb hby at_79) (fun _ _ => ⟨rfl, e65q, (by decide : 0 + 0 ≤ _), (by decide : 0 + 0 ≤ _)⟩)
    dsimp only [Pt.U, Pt.locs, Pt.cells, Pt.slots] at X66 l66 y66 z66 st66 hQ66
    subst l66 y66 z66
    obtain ⟨rfl, N66q, e66q⟩ := hQ66
    have N66 := Fr.app Ng65 N66q
    obtain ⟨Lg66, Xg66, Ng66⟩ := Stand_gen X66 N66
    refine Run.go st66 ?_
    show Run p e below s 0 0 (Q_rm0 Z p1 p2 p3 vEQUAL vNOT_EQUAL vLESS vLESS_OR_EQUAL vGREATER vGREATER_OR_EQUAL h0 n0) (T66.setTop (mkF m 82 #[.val (.int p1), .val (.int p2), .val (.int p3), .val (.ref vGREATER), .val (.ref vLESS), .val (.int (1 : Int32))] [(.int (F_rm4_2 (F_rm5 p3 p2)))]))
    refine Run.go (fun _ k => XS.aloadN Xg66.here hx rfl (hb hby at_82) rfl rfl k) ?_
    show Run p e below s 0 0 (Q_rm0 Z p1 p2 p3 vEQUAL vNOT_EQUAL vLESS vLESS_OR_EQUAL vGREATER vGREATER_OR_EQUAL h0 n0) (T66.setTop (mkF m 83 #[.val (.int p1), .val (.int p2), .val (.int p3), .val (.ref vGREATER), .val (.ref vLESS), .val (.int (1 : Int32))] [(.ref vGREATER), (.int (F_rm4_2 (F_rm5 p3 p2)))]))
    refine Run.go (fun _ k => XS.iloadN Xg66.here hx rfl (hb hby at_83) rfl  k) ?_
    show Run p e below s 0 0 (Q_rm0 Z p1 p2 p3 vEQUAL vNOT_EQUAL vLESS vLESS_OR_EQUAL vGREATER vGREATER_OR_EQUAL h0 n0) (T66.setTop (mkF m 84 #[.val (.int p1), .val (.int p2), .val (.int p3), .val (.ref vGREATER), .val (.ref vLESS), .val (.int (1 : Int32))] [(.int p2), (.ref vGREATER), (.int (F_rm4_2 (F_rm5 p3 p2)))]))
    refine Run.go (fun _ k => XS.iloadN Xg66.here hx rfl (hb hby at_84) rfl  k) ?_
    show Run p e below s 0 0 (Q_rm0 Z p1 p2 p3 vEQUAL vNOT_EQUAL vLESS vLESS_OR_EQUAL vGREATER vGREATER_OR_EQUAL h0 n0) (T66.setTop (mkF m 85 #[.val (.int p1), .val (.int p2), .val (.int p3), .val (.ref vGREATER), .val (.ref vLESS), .val (.int (1 : Int32))] [(.int p3), (.int p2), (.ref vGREATER), (.int (F_rm4_2 (F_rm5 p3 p2)))]))
    obtain ⟨_, _, ⟨T67, L67, k67, n67⟩, -, X67, ⟨Lc67, hQ67, l67, y67, z67⟩, st67⟩ := Jvm.LawKit.callS Xg66 hx (y := (⟨"com/example/exact_table/exacttable/ComparatorFlippedPinLaw", "sign", "(II)I"⟩ : MethodName)) hown (mvT hZ (hw _ (List.mem_of_getElem? (i := 25) rfl))) (mvT hZ (hw _ (List.mem_of_getElem? (i := 26) rfl))) (mvT hZ (hw _ (List.mem_of_getElem? (i := 2) rfl))) (mvT hZ (hw _ (List.mem_of_getElem? (i := 27) rfl))) (by decide) (backOf (W := 2) (rm5 l Z a0 hw [] p2 p3 h0 n0 Z0 ) hZ (hw _ (List.mem_of_getElem? (i := 27) rfl)) (hw _ (List.mem_of_getElem? (i := 2) rfl)) (by decide) (by decide)) (g := (mkF m 85 #[.val (.int p1), .val (.int p2), .val (.int p3), .val (.ref vGREATER), .val (.ref vLESS), .val (.int (1 : Int32))] [(.int p3), (.int p2), (.ref vGREATER), (.int (F_rm4_2 (F_rm5 p3 p2)))])) rfl (by rw [hml]; rfl) (argsL := [(.int p2), (.int p3)]) (rest := [(.ref vGREATER), (.int (F_rm4_2 (F_rm5 p3 p2)))]) (lenOf pd_4 rfl) rfl (by show 2 * 0 + _ ≤ _; exact Nat.le_of_eq rfl) (hb hby at_85) (fun _ _ => ⟨rfl, e66q, (by decide : 0 + 0 ≤ _), (by decide : 0 + 0 ≤ _)⟩)
    dsimp only [Pt.U, Pt.locs, Pt.cells, Pt.slots] at X67 l67 y67 z67 st67 hQ67
    subst l67 y67 z67
    obtain ⟨rfl, N67q, e67q⟩ := hQ67
    have N67 := Fr.app Ng66 N67q
    obtain ⟨Lg67, Xg67, Ng67⟩ := Stand_gen X67 N67
    refine Run.go st67 ?_
    show Run p e below s 0 0 (Q_rm0 Z p1 p2 p3 vEQUAL vNOT_EQUAL vLESS vLESS_OR_EQUAL vGREATER vGREATER_OR_EQUAL h0 n0) (T67.setTop (mkF m 88 #[.val (.int p1), .val (.int p2), .val (.int p3), .val (.ref vGREATER), .val (.ref vLESS), .val (.int (1 : Int32))] [(.int (F_rm5 p2 p3)), (.ref vGREATER), (.int (F_rm4_2 (F_rm5 p3 p2)))]))
    obtain ⟨_, _, ⟨T68, L68, k68, n68⟩, -, X68, ⟨Lc68, hQ68, l68, y68, z68⟩, st68⟩ := Jvm.LawKit.callS Xg67 hx (y := (⟨"com/example/exact_table/exacttable/ComparatorFlippedPinLaw", "holds", "(Lcom/example/exact_table/exacttable/Condition$Comparator;I)Z"⟩ : MethodName)) hown (mvT hZ (hw _ (List.mem_of_getElem? (i := 22) rfl))) (mvT hZ (hw _ (List.mem_of_getElem? (i := 23) rfl))) (mvT hZ (hw _ (List.mem_of_getElem? (i := 2) rfl))) (mvT hZ (hw _ (List.mem_of_getElem? (i := 24) rfl))) (by decide) (backOf (W := 1) (rm4_4 l Z a0 hw [] vGREATER (F_rm5 p2 p3) vEQUAL vNOT_EQUAL vLESS vLESS_OR_EQUAL vGREATER_OR_EQUAL h0 n0 Z0 S_Condition_Comparator_EQUAL S_Condition_Comparator_NOT_EQUAL S_Condition_Comparator_LESS S_Condition_Comparator_LESS_OR_EQUAL S_Condition_Comparator_GREATER S_Condition_Comparator_GREATER_OR_EQUAL ne_vEQUAL_vNOT_EQUAL ne_vEQUAL_vLESS ne_vEQUAL_vLESS_OR_EQUAL ne_vEQUAL_vGREATER ne_vEQUAL_vGREATER_OR_EQUAL ne_vNOT_EQUAL_vLESS ne_vNOT_EQUAL_vLESS_OR_EQUAL ne_vNOT_EQUAL_vGREATER ne_vNOT_EQUAL_vGREATER_OR_EQUAL ne_vLESS_vLESS_OR_EQUAL ne_vLESS_vGREATER ne_vLESS_vGREATER_OR_EQUAL ne_vLESS_OR_EQUAL_vGREATER ne_vLESS_OR_EQUAL_vGREATER_OR_EQUAL ne_vGREATER_vGREATER_OR_EQUAL) hZ (hw _ (List.mem_of_getElem? (i := 24) rfl)) (hw _ (List.mem_of_getElem? (i := 2) rfl)) (by decide) (by decide)) (g := (mkF m 88 #[.val (.int p1), .val (.int p2), .val (.int p3), .val (.ref vGREATER), .val (.ref vLESS), .val (.int (1 : Int32))] [(.int (F_rm5 p2 p3)), (.ref vGREATER), (.int (F_rm4_2 (F_rm5 p3 p2)))])) rfl (by rw [hml]; rfl) (argsL := [(.ref vGREATER), (.int (F_rm5 p2 p3))]) (rest := [(.int (F_rm4_2 (F_rm5 p3 p2)))]) (lenOf pd_3 rfl) rfl (by show 2 * 0 + _ ≤ _; exact Nat.le_of_eq rfl) (hb hby at_88) (fun _ _ => ⟨rfl, e67q, (by decide : 0 + 0 ≤ _), (by decide : 0 + 0 ≤ _)⟩)
    dsimp only [Pt.U, Pt.locs, Pt.cells, Pt.slots] at X68 l68 y68 z68 st68 hQ68
    subst l68 y68 z68
    obtain ⟨rfl, N68q, e68q⟩ := hQ68
    have N68 := Fr.app Ng67 N68q
    obtain ⟨Lg68, Xg68, Ng68⟩ := Stand_gen X68 N68
    refine Run.go st68 ?_
    show Run p e below s 0 0 (Q_rm0 Z p1 p2 p3 vEQUAL vNOT_EQUAL vLESS vLESS_OR_EQUAL vGREATER vGREATER_OR_EQUAL h0 n0) (T68.setTop (mkF m 91 #[.val (.int p1), .val (.int p2), .val (.int p3), .val (.ref vGREATER), .val (.ref vLESS), .val (.int (1 : Int32))] [(.int (F_rm4_4 (F_rm5 p2 p3))), (.int (F_rm4_2 (F_rm5 p3 p2)))]))
    refine Run.go (fun _ k => XS.icmpNo Xg68.here hx rfl (hb hby at_91) rfl (teq (own_h4 _ _)).2 k) ?_
    show Run p e below s 0 0 (Q_rm0 Z p1 p2 p3 vEQUAL vNOT_EQUAL vLESS vLESS_OR_EQUAL vGREATER vGREATER_OR_EQUAL h0 n0) (T68.setTop (mkF m 94 #[.val (.int p1), .val (.int p2), .val (.int p3), .val (.ref vGREATER), .val (.ref vLESS), .val (.int (1 : Int32))] []))
    refine Run.go (fun _ k => XS.iconst Xg68.here hx rfl (hb hby at_94) k) ?_
    show Run p e below s 0 0 (Q_rm0 Z p1 p2 p3 vEQUAL vNOT_EQUAL vLESS vLESS_OR_EQUAL vGREATER vGREATER_OR_EQUAL h0 n0) (T68.setTop (mkF m 95 #[.val (.int p1), .val (.int p2), .val (.int p3), .val (.ref vGREATER), .val (.ref vLESS), .val (.int (1 : Int32))] [(.int (1 : Int32))]))
    refine Run.go (fun _ k => XS.goto Xg68.here hx rfl (pc0 := 95) (pc' := 99) rfl (hb hby at_95) (by decide) (by decide) k) ?_
    show Run p e below s 0 0 (Q_rm0 Z p1 p2 p3 vEQUAL vNOT_EQUAL vLESS vLESS_OR_EQUAL vGREATER vGREATER_OR_EQUAL h0 n0) (T68.setTop (mkF m 99 #[.val (.int p1), .val (.int p2), .val (.int p3), .val (.ref vGREATER), .val (.ref vLESS), .val (.int (1 : Int32))] [(.int (1 : Int32))]))
    refine Run.go (fun _ k => XS.istore Xg68.here hx rfl (hb hby at_99) rfl (l' := #[.val (.int p1), .val (.int p2), .val (.int p3), .val (.ref vGREATER), .val (.ref vLESS), .val (.int (1 : Int32))]) rfl k) ?_
    show Run p e below s 0 0 (Q_rm0 Z p1 p2 p3 vEQUAL vNOT_EQUAL vLESS vLESS_OR_EQUAL vGREATER vGREATER_OR_EQUAL h0 n0) (T68.setTop (mkF m 101 #[.val (.int p1), .val (.int p2), .val (.int p3), .val (.ref vGREATER), .val (.ref vLESS), .val (.int (1 : Int32))] []))
    refine Run.go (fun _ k => XS.iload Xg68.here hx rfl (hb hby at_101) rfl  k) ?_
    show Run p e below s 0 0 (Q_rm0 Z p1 p2 p3 vEQUAL vNOT_EQUAL vLESS vLESS_OR_EQUAL vGREATER vGREATER_OR_EQUAL h0 n0) (T68.setTop (mkF m 103 #[.val (.int p1), .val (.int p2), .val (.int p3), .val (.ref vGREATER), .val (.ref vLESS), .val (.int (1 : Int32))] [(.int (1 : Int32))]))
    refine Run.go (fun _ k => XS.ifNo Xg68.here hx rfl (hb hby at_103) rfl ((if0 _ _).trans (feq (by decide)).1) k) ?_
    show Run p e below s 0 0 (Q_rm0 Z p1 p2 p3 vEQUAL vNOT_EQUAL vLESS vLESS_OR_EQUAL vGREATER vGREATER_OR_EQUAL h0 n0) (T68.setTop (mkF m 106 #[.val (.int p1), .val (.int p2), .val (.int p3), .val (.ref vGREATER), .val (.ref vLESS), .val (.int (1 : Int32))] []))
    refine Run.go (fun _ k => XS.aload Xg68.here hx rfl (hb hby at_106) rfl rfl k) ?_
    show Run p e below s 0 0 (Q_rm0 Z p1 p2 p3 vEQUAL vNOT_EQUAL vLESS vLESS_OR_EQUAL vGREATER vGREATER_OR_EQUAL h0 n0) (T68.setTop (mkF m 108 #[.val (.int p1), .val (.int p2), .val (.int p3), .val (.ref vGREATER), .val (.ref vLESS), .val (.int (1 : Int32))] [(.ref vLESS)]))
    obtain ⟨cq69, kq69, q69a, q69b, q69c⟩ := isOf hZ e68q E_vLESS
    obtain ⟨_, _, ⟨T69, L69, k69, n69⟩, -, X69, ⟨Lc69, hQ69, l69, y69, z69⟩, st69⟩ := Xg68.virtualBack hx (y := (⟨"com/example/exact_table/exacttable/Condition$Comparator", "flipped", "()Lcom/example/exact_table/exacttable/Condition$Comparator;"⟩ : MethodName)) (z := (⟨"com/example/exact_table/exacttable/Condition$Comparator", "flipped", "()Lcom/example/exact_table/exacttable/Condition$Comparator;"⟩ : MethodName)) hown (mvT hZ (hw _ (List.mem_of_getElem? (i := 8) rfl))) (mvT hZ (hw _ (List.mem_of_getElem? (i := 9) rfl))) (notFace_of_selects (args := #[]) (mvT hZ (hw _ (List.mem_of_getElem? (i := 11) rfl)))) (mvT hZ (hw _ (List.mem_of_getElem? (i := 11) rfl))) (mvT hZ (hw _ (List.mem_of_getElem? (i := 10) rfl))) (by decide) (backOf (W := 0) (rm2_2 l Z a0 hw [] vLESS vEQUAL vNOT_EQUAL vLESS_OR_EQUAL vGREATER vGREATER_OR_EQUAL h0 n0 Z0 S_Condition_Comparator_EQUAL S_Condition_Comparator_NOT_EQUAL S_Condition_Comparator_LESS S_Condition_Comparator_LESS_OR_EQUAL S_Condition_Comparator_GREATER S_Condition_Comparator_GREATER_OR_EQUAL F_ordinal_vLESS E_vLESS) hZ (hw _ (List.mem_of_getElem? (i := 12) rfl)) (hw _ (List.mem_of_getElem? (i := 6) rfl)) (by decide) (by decide)) q69a q69c (g := (mkF m 108 #[.val (.int p1), .val (.int p2), .val (.int p3), .val (.ref vGREATER), .val (.ref vLESS), .val (.int (1 : Int32))] [(.ref vLESS)])) rfl (by rw [hml]; rfl) (Steps.refl _) (argsL := []) (rest := []) (lenOf pd_2 rfl) rfl (by show 2 * 0 + _ ≤ _; exact Nat.le_of_eq rfl) (hb hby at_108) (fun _ _ => ⟨rfl, e68q, (by decide : 0 + 0 ≤ _), (by decide : 0 + 0 ≤ _)⟩)
    dsimp only [Pt.U, Pt.locs, Pt.cells, Pt.slots] at X69 l69 y69 z69 st69 hQ69
    subst l69 y69 z69
    obtain ⟨rfl, N69q, e69q⟩ := hQ69
    have N69 := Fr.app Ng68 N69q
    obtain ⟨Lg69, Xg69, Ng69⟩ := Stand_gen X69 N69
    refine Run.tr st69 ?_
    show Run p e below s 0 0 (Q_rm0 Z p1 p2 p3 vEQUAL vNOT_EQUAL vLESS vLESS_OR_EQUAL vGREATER vGREATER_OR_EQUAL h0 n0) (T69.setTop (mkF m 111 #[.val (.int p1), .val (.int p2), .val (.int p3), .val (.ref vGREATER), .val (.ref vLESS), .val (.int (1 : Int32))] [(.ref vGREATER)]))
    refine Run.go (fun _ k => XS.aloadN Xg69.here hx rfl (hb hby at_111) rfl rfl k) ?_
    show Run p e below s 0 0 (Q_rm0 Z p1 p2 p3 vEQUAL vNOT_EQUAL vLESS vLESS_OR_EQUAL vGREATER vGREATER_OR_EQUAL h0 n0) (T69.setTop (mkF m 112 #[.val (.int p1), .val (.int p2), .val (.int p3), .val (.ref vGREATER), .val (.ref vLESS), .val (.int (1 : Int32))] [(.ref vGREATER), (.ref vGREATER)]))
    refine Run.go (fun _ k => Jvm.RoadKit.acmp (g := (mkF m 112 #[.val (.int p1), .val (.int p2), .val (.int p3), .val (.ref vGREATER), .val (.ref vLESS), .val (.int (1 : Int32))] [(.ref vGREATER), (.ref vGREATER)])) Xg69 hx rfl rfl rfl (pc0 := 112) (pc' := 115) (same := true) rfl (hb hby at_112) rfl (decide_eq_true rfl) (by decide) (by decide) k) ?_
    show Run p e below s 0 0 (Q_rm0 Z p1 p2 p3 vEQUAL vNOT_EQUAL vLESS vLESS_OR_EQUAL vGREATER vGREATER_OR_EQUAL h0 n0) (T69.setTop (mkF m 115 #[.val (.int p1), .val (.int p2), .val (.int p3), .val (.ref vGREATER), .val (.ref vLESS), .val (.int (1 : Int32))] []))
    refine Run.go (fun _ k => XS.iconst Xg69.here hx rfl (hb hby at_115) k) ?_
    show Run p e below s 0 0 (Q_rm0 Z p1 p2 p3 vEQUAL vNOT_EQUAL vLESS vLESS_OR_EQUAL vGREATER vGREATER_OR_EQUAL h0 n0) (T69.setTop (mkF m 116 #[.val (.int p1), .val (.int p2), .val (.int p3), .val (.ref vGREATER), .val (.ref vLESS), .val (.int (1 : Int32))] [(.int (1 : Int32))]))
    refine Run.go (fun _ k => XS.goto Xg69.here hx rfl (pc0 := 116) (pc' := 120) rfl (hb hby at_116) (by decide) (by decide) k) ?_
    show Run p e below s 0 0 (Q_rm0 Z p1 p2 p3 vEQUAL vNOT_EQUAL vLESS vLESS_OR_EQUAL vGREATER vGREATER_OR_EQUAL h0 n0) (T69.setTop (mkF m 120 #[.val (.int p1), .val (.int p2), .val (.int p3), .val (.ref vGREATER), .val (.ref vLESS), .val (.int (1 : Int32))] [(.int (1 : Int32))]))
    refine Run.go (fun _ k => XS.istore Xg69.here hx rfl (hb hby at_120) rfl (l' := #[.val (.int p1), .val (.int p2), .val (.int p3), .val (.ref vGREATER), .val (.ref vLESS), .val (.int (1 : Int32))]) rfl k) ?_
    show Run p e below s 0 0 (Q_rm0 Z p1 p2 p3 vEQUAL vNOT_EQUAL vLESS vLESS_OR_EQUAL vGREATER vGREATER_OR_EQUAL h0 n0) (T69.setTop (mkF m 122 #[.val (.int p1), .val (.int p2), .val (.int p3), .val (.ref vGREATER), .val (.ref vLESS), .val (.int (1 : Int32))] []))
    refine Run.go (fun _ k => XS.iload Xg69.here hx rfl (hb hby at_122) rfl  k) ?_
    show Run p e below s 0 0 (Q_rm0 Z p1 p2 p3 vEQUAL vNOT_EQUAL vLESS vLESS_OR_EQUAL vGREATER vGREATER_OR_EQUAL h0 n0) (T69.setTop (mkF m 124 #[.val (.int p1), .val (.int p2), .val (.int p3), .val (.ref vGREATER), .val (.ref vLESS), .val (.int (1 : Int32))] [(.int (1 : Int32))]))
    exact Run.retN (y := 1) Xg69 hx (t := .boolean) Bd.returns (by simp) rfl Bd.notSynchronized (hb hby at_124) (by decide) (by decide) ⟨rfl, Ng69⟩
  · show Run p e below s 0 0 (Q_rm0 Z p1 p2 p3 vEQUAL vNOT_EQUAL vLESS vLESS_OR_EQUAL vGREATER vGREATER_OR_EQUAL h0 n0) (s₁.setTop (mkF m 0 #[.val (.int p1), .val (.int p2), .val (.int p3), .unset, .unset, .unset] []))
    refine Run.go (fun _ k => XS.iloadN X0.here hx rfl (hb hby at_0) rfl  k) ?_
    show Run p e below s 0 0 (Q_rm0 Z p1 p2 p3 vEQUAL vNOT_EQUAL vLESS vLESS_OR_EQUAL vGREATER vGREATER_OR_EQUAL h0 n0) (s₁.setTop (mkF m 1 #[.val (.int p1), .val (.int p2), .val (.int p3), .unset, .unset, .unset] [(.int p1)]))
    obtain ⟨_, _, ⟨T70, L70, k70, n70⟩, -, X70, ⟨Lc70, hQ70, l70, y70, z70⟩, st70⟩ := Jvm.LawKit.callS X0 hx (y := (⟨"com/example/exact_table/exacttable/ComparatorFlippedPinLaw", "pick", "(I)Lcom/example/exact_table/exacttable/Condition$Comparator;"⟩ : MethodName)) hown (mvT hZ (hw _ (List.mem_of_getElem? (i := 0) rfl))) (mvT hZ (hw _ (List.mem_of_getElem? (i := 1) rfl))) (mvT hZ (hw _ (List.mem_of_getElem? (i := 2) rfl))) (mvT hZ (hw _ (List.mem_of_getElem? (i := 3) rfl))) (by decide) (backOf (W := 0) (rm1_5 l Z a0 hw [] p1 vEQUAL vNOT_EQUAL vLESS vLESS_OR_EQUAL vGREATER vGREATER_OR_EQUAL h0 n0 Z0 S_Condition_Comparator_EQUAL S_Condition_Comparator_NOT_EQUAL S_Condition_Comparator_LESS S_Condition_Comparator_LESS_OR_EQUAL S_Condition_Comparator_GREATER S_Condition_Comparator_GREATER_OR_EQUAL hk4) hZ (hw _ (List.mem_of_getElem? (i := 3) rfl)) (hw _ (List.mem_of_getElem? (i := 2) rfl)) (by decide) (by decide)) (g := (mkF m 1 #[.val (.int p1), .val (.int p2), .val (.int p3), .unset, .unset, .unset] [(.int p1)])) rfl (by rw [hml]; rfl) (argsL := [(.int p1)]) (rest := []) (lenOf pd_1 rfl) rfl (by show 2 * 0 + _ ≤ _; exact Nat.le_of_eq rfl) (hb hby at_1) (fun _ _ => ⟨rfl, e0, (by decide : 0 + 0 ≤ _), (by decide : 0 + 0 ≤ _)⟩)
    dsimp only [Pt.U, Pt.locs, Pt.cells, Pt.slots] at X70 l70 y70 z70 st70 hQ70
    subst l70 y70 z70
    obtain ⟨rfl, N70q, e70q⟩ := hQ70
    have N70 := Fr.app N0 N70q
    obtain ⟨Lg70, Xg70, Ng70⟩ := Stand_gen X70 N70
    refine Run.go st70 ?_
    show Run p e below s 0 0 (Q_rm0 Z p1 p2 p3 vEQUAL vNOT_EQUAL vLESS vLESS_OR_EQUAL vGREATER vGREATER_OR_EQUAL h0 n0) (T70.setTop (mkF m 4 #[.val (.int p1), .val (.int p2), .val (.int p3), .unset, .unset, .unset] [(.ref vGREATER_OR_EQUAL)]))
    refine Run.go (fun _ k => XS.astoreN Xg70.here hx rfl (hb hby at_4) rfl rfl (l' := #[.val (.int p1), .val (.int p2), .val (.int p3), .val (.ref vGREATER_OR_EQUAL), .unset, .unset]) rfl k) ?_
    show Run p e below s 0 0 (Q_rm0 Z p1 p2 p3 vEQUAL vNOT_EQUAL vLESS vLESS_OR_EQUAL vGREATER vGREATER_OR_EQUAL h0 n0) (T70.setTop (mkF m 5 #[.val (.int p1), .val (.int p2), .val (.int p3), .val (.ref vGREATER_OR_EQUAL), .unset, .unset] []))
    refine Run.go (fun _ k => XS.aloadN Xg70.here hx rfl (hb hby at_5) rfl rfl k) ?_
    show Run p e below s 0 0 (Q_rm0 Z p1 p2 p3 vEQUAL vNOT_EQUAL vLESS vLESS_OR_EQUAL vGREATER vGREATER_OR_EQUAL h0 n0) (T70.setTop (mkF m 6 #[.val (.int p1), .val (.int p2), .val (.int p3), .val (.ref vGREATER_OR_EQUAL), .unset, .unset] [(.ref vGREATER_OR_EQUAL)]))
    obtain ⟨cq71, kq71, q71a, q71b, q71c⟩ := isOf hZ e70q E_vGREATER_OR_EQUAL
    obtain ⟨_, _, ⟨T71, L71, k71, n71⟩, -, X71, ⟨Lc71, hQ71, l71, y71, z71⟩, st71⟩ := Xg70.virtualBack hx (y := (⟨"com/example/exact_table/exacttable/Condition$Comparator", "flipped", "()Lcom/example/exact_table/exacttable/Condition$Comparator;"⟩ : MethodName)) (z := (⟨"com/example/exact_table/exacttable/Condition$Comparator", "flipped", "()Lcom/example/exact_table/exacttable/Condition$Comparator;"⟩ : MethodName)) hown (mvT hZ (hw _ (List.mem_of_getElem? (i := 8) rfl))) (mvT hZ (hw _ (List.mem_of_getElem? (i := 9) rfl))) (notFace_of_selects (args := #[]) (mvT hZ (hw _ (List.mem_of_getElem? (i := 11) rfl)))) (mvT hZ (hw _ (List.mem_of_getElem? (i := 11) rfl))) (mvT hZ (hw _ (List.mem_of_getElem? (i := 10) rfl))) (by decide) (backOf (W := 0) (rm2_5 l Z a0 hw [] vGREATER_OR_EQUAL vEQUAL vNOT_EQUAL vLESS vLESS_OR_EQUAL vGREATER h0 n0 Z0 S_Condition_Comparator_EQUAL S_Condition_Comparator_NOT_EQUAL S_Condition_Comparator_LESS S_Condition_Comparator_LESS_OR_EQUAL S_Condition_Comparator_GREATER S_Condition_Comparator_GREATER_OR_EQUAL F_ordinal_vGREATER_OR_EQUAL E_vGREATER_OR_EQUAL) hZ (hw _ (List.mem_of_getElem? (i := 12) rfl)) (hw _ (List.mem_of_getElem? (i := 6) rfl)) (by decide) (by decide)) q71a q71c (g := (mkF m 6 #[.val (.int p1), .val (.int p2), .val (.int p3), .val (.ref vGREATER_OR_EQUAL), .unset, .unset] [(.ref vGREATER_OR_EQUAL)])) rfl (by rw [hml]; rfl) (Steps.refl _) (argsL := []) (rest := []) (lenOf pd_2 rfl) rfl (by show 2 * 0 + _ ≤ _; exact Nat.le_of_eq rfl) (hb hby at_6) (fun _ _ => ⟨rfl, e70q, (by decide : 0 + 0 ≤ _), (by decide : 0 + 0 ≤ _)⟩)
    dsimp only [Pt.U, Pt.locs, Pt.cells, Pt.slots] at X71 l71 y71 z71 st71 hQ71
    subst l71 y71 z71
    obtain ⟨rfl, N71q, e71q⟩ := hQ71
    have N71 := Fr.app Ng70 N71q
    obtain ⟨Lg71, Xg71, Ng71⟩ := Stand_gen X71 N71
    refine Run.tr st71 ?_
    show Run p e below s 0 0 (Q_rm0 Z p1 p2 p3 vEQUAL vNOT_EQUAL vLESS vLESS_OR_EQUAL vGREATER vGREATER_OR_EQUAL h0 n0) (T71.setTop (mkF m 9 #[.val (.int p1), .val (.int p2), .val (.int p3), .val (.ref vGREATER_OR_EQUAL), .unset, .unset] [(.ref vLESS_OR_EQUAL)]))
    refine Run.go (fun _ k => XS.astore Xg71.here hx rfl (hb hby at_9) rfl rfl (l' := #[.val (.int p1), .val (.int p2), .val (.int p3), .val (.ref vGREATER_OR_EQUAL), .val (.ref vLESS_OR_EQUAL), .unset]) rfl k) ?_
    show Run p e below s 0 0 (Q_rm0 Z p1 p2 p3 vEQUAL vNOT_EQUAL vLESS vLESS_OR_EQUAL vGREATER vGREATER_OR_EQUAL h0 n0) (T71.setTop (mkF m 11 #[.val (.int p1), .val (.int p2), .val (.int p3), .val (.ref vGREATER_OR_EQUAL), .val (.ref vLESS_OR_EQUAL), .unset] []))
    refine Run.go (fun _ k => XS.aload Xg71.here hx rfl (hb hby at_11) rfl rfl k) ?_
    show Run p e below s 0 0 (Q_rm0 Z p1 p2 p3 vEQUAL vNOT_EQUAL vLESS vLESS_OR_EQUAL vGREATER vGREATER_OR_EQUAL h0 n0) (T71.setTop (mkF m 13 #[.val (.int p1), .val (.int p2), .val (.int p3), .val (.ref vGREATER_OR_EQUAL), .val (.ref vLESS_OR_EQUAL), .unset] [(.ref vLESS_OR_EQUAL)]))
    refine Run.go (fun _ k => XS.ifnonnullYes Xg71.here hx rfl (pc0 := 13) (pc' := 18) rfl (hb hby at_13) rfl (by decide) (by decide) k) ?_
    show Run p e below s 0 0 (Q_rm0 Z p1 p2 p3 vEQUAL vNOT_EQUAL vLESS vLESS_OR_EQUAL vGREATER vGREATER_OR_EQUAL h0 n0) (T71.setTop (mkF m 18 #[.val (.int p1), .val (.int p2), .val (.int p3), .val (.ref vGREATER_OR_EQUAL), .val (.ref vLESS_OR_EQUAL), .unset] []))
    refine Run.go (fun _ k => XS.aload Xg71.here hx rfl (hb hby at_18) rfl rfl k) ?_
    show Run p e below s 0 0 (Q_rm0 Z p1 p2 p3 vEQUAL vNOT_EQUAL vLESS vLESS_OR_EQUAL vGREATER vGREATER_OR_EQUAL h0 n0) (T71.setTop (mkF m 20 #[.val (.int p1), .val (.int p2), .val (.int p3), .val (.ref vGREATER_OR_EQUAL), .val (.ref vLESS_OR_EQUAL), .unset] [(.ref vLESS_OR_EQUAL)]))
    refine Run.go (fun _ k => XS.iconst Xg71.here hx rfl (hb hby at_20) k) ?_
    show Run p e below s 0 0 (Q_rm0 Z p1 p2 p3 vEQUAL vNOT_EQUAL vLESS vLESS_OR_EQUAL vGREATER vGREATER_OR_EQUAL h0 n0) (T71.setTop (mkF m 21 #[.val (.int p1), .val (.int p2), .val (.int p3), .val (.ref vGREATER_OR_EQUAL), .val (.ref vLESS_OR_EQUAL), .unset] [(.int (0 : Int32)), (.ref vLESS_OR_EQUAL)]))
    obtain ⟨_, _, ⟨T72, L72, k72, n72⟩, -, X72, ⟨Lc72, hQ72, l72, y72, z72⟩, st72⟩ := Jvm.LawKit.callS Xg71 hx (y := (⟨"com/example/exact_table/exacttable/ComparatorFlippedPinLaw", "holds", "(Lcom/example/exact_table/exacttable/Condition$Comparator;I)Z"⟩ : MethodName)) hown (mvT hZ (hw _ (List.mem_of_getElem? (i := 22) rfl))) (mvT hZ (hw _ (List.mem_of_getElem? (i := 23) rfl))) (mvT hZ (hw _ (List.mem_of_getElem? (i := 2) rfl))) (mvT hZ (hw _ (List.mem_of_getElem? (i := 24) rfl))) (by decide) (backOf (W := 0) (rm4_3 l Z a0 hw [] vLESS_OR_EQUAL (0 : Int32) vEQUAL vNOT_EQUAL vLESS vGREATER vGREATER_OR_EQUAL h0 n0 Z0 S_Condition_Comparator_EQUAL S_Condition_Comparator_NOT_EQUAL S_Condition_Comparator_LESS S_Condition_Comparator_LESS_OR_EQUAL S_Condition_Comparator_GREATER S_Condition_Comparator_GREATER_OR_EQUAL ne_vEQUAL_vNOT_EQUAL ne_vEQUAL_vLESS ne_vEQUAL_vLESS_OR_EQUAL ne_vEQUAL_vGREATER ne_vEQUAL_vGREATER_OR_EQUAL ne_vNOT_EQUAL_vLESS ne_vNOT_EQUAL_vLESS_OR_EQUAL ne_vNOT_EQUAL_vGREATER ne_vNOT_EQUAL_vGREATER_OR_EQUAL ne_vLESS_vLESS_OR_EQUAL ne_vLESS_vGREATER ne_vLESS_vGREATER_OR_EQUAL ne_vLESS_OR_EQUAL_vGREATER ne_vLESS_OR_EQUAL_vGREATER_OR_EQUAL ne_vGREATER_vGREATER_OR_EQUAL) hZ (hw _ (List.mem_of_getElem? (i := 24) rfl)) (hw _ (List.mem_of_getElem? (i := 2) rfl)) (by decide) (by decide)) (g := (mkF m 21 #[.val (.int p1), .val (.int p2), .val (.int p3), .val (.ref vGREATER_OR_EQUAL), .val (.ref vLESS_OR_EQUAL), .unset] [(.int (0 : Int32)), (.ref vLESS_OR_EQUAL)])) rfl (by rw [hml]; rfl) (argsL := [(.ref vLESS_OR_EQUAL), (.int (0 : Int32))]) (rest := []) (lenOf pd_3 rfl) rfl (by show 2 * 0 + _ ≤ _; exact Nat.le_of_eq rfl) (hb hby at_21) (fun _ _ => ⟨rfl, e71q, (by decide : 0 + 0 ≤ _), (by decide : 0 + 0 ≤ _)⟩)
    dsimp only [Pt.U, Pt.locs, Pt.cells, Pt.slots] at X72 l72 y72 z72 st72 hQ72
    subst l72 y72 z72
    obtain ⟨rfl, N72q, e72q⟩ := hQ72
    have N72 := Fr.app Ng71 N72q
    obtain ⟨Lg72, Xg72, Ng72⟩ := Stand_gen X72 N72
    refine Run.go st72 ?_
    show Run p e below s 0 0 (Q_rm0 Z p1 p2 p3 vEQUAL vNOT_EQUAL vLESS vLESS_OR_EQUAL vGREATER vGREATER_OR_EQUAL h0 n0) (T72.setTop (mkF m 24 #[.val (.int p1), .val (.int p2), .val (.int p3), .val (.ref vGREATER_OR_EQUAL), .val (.ref vLESS_OR_EQUAL), .unset] [(.int (F_rm4_3 (0 : Int32)))]))
    refine Run.go (fun _ k => XS.aloadN Xg72.here hx rfl (hb hby at_24) rfl rfl k) ?_
    show Run p e below s 0 0 (Q_rm0 Z p1 p2 p3 vEQUAL vNOT_EQUAL vLESS vLESS_OR_EQUAL vGREATER vGREATER_OR_EQUAL h0 n0) (T72.setTop (mkF m 25 #[.val (.int p1), .val (.int p2), .val (.int p3), .val (.ref vGREATER_OR_EQUAL), .val (.ref vLESS_OR_EQUAL), .unset] [(.ref vGREATER_OR_EQUAL), (.int (F_rm4_3 (0 : Int32)))]))
    refine Run.go (fun _ k => XS.iconst Xg72.here hx rfl (hb hby at_25) k) ?_
    show Run p e below s 0 0 (Q_rm0 Z p1 p2 p3 vEQUAL vNOT_EQUAL vLESS vLESS_OR_EQUAL vGREATER vGREATER_OR_EQUAL h0 n0) (T72.setTop (mkF m 26 #[.val (.int p1), .val (.int p2), .val (.int p3), .val (.ref vGREATER_OR_EQUAL), .val (.ref vLESS_OR_EQUAL), .unset] [(.int (0 : Int32)), (.ref vGREATER_OR_EQUAL), (.int (F_rm4_3 (0 : Int32)))]))
    obtain ⟨_, _, ⟨T73, L73, k73, n73⟩, -, X73, ⟨Lc73, hQ73, l73, y73, z73⟩, st73⟩ := Jvm.LawKit.callS Xg72 hx (y := (⟨"com/example/exact_table/exacttable/ComparatorFlippedPinLaw", "holds", "(Lcom/example/exact_table/exacttable/Condition$Comparator;I)Z"⟩ : MethodName)) hown (mvT hZ (hw _ (List.mem_of_getElem? (i := 22) rfl))) (mvT hZ (hw _ (List.mem_of_getElem? (i := 23) rfl))) (mvT hZ (hw _ (List.mem_of_getElem? (i := 2) rfl))) (mvT hZ (hw _ (List.mem_of_getElem? (i := 24) rfl))) (by decide) (backOf (W := 1) (rm4_5 l Z a0 hw [] vGREATER_OR_EQUAL (0 : Int32) vEQUAL vNOT_EQUAL vLESS vLESS_OR_EQUAL vGREATER h0 n0 Z0 S_Condition_Comparator_EQUAL S_Condition_Comparator_NOT_EQUAL S_Condition_Comparator_LESS S_Condition_Comparator_LESS_OR_EQUAL S_Condition_Comparator_GREATER S_Condition_Comparator_GREATER_OR_EQUAL ne_vEQUAL_vNOT_EQUAL ne_vEQUAL_vLESS ne_vEQUAL_vLESS_OR_EQUAL ne_vEQUAL_vGREATER ne_vEQUAL_vGREATER_OR_EQUAL ne_vNOT_EQUAL_vLESS ne_vNOT_EQUAL_vLESS_OR_EQUAL ne_vNOT_EQUAL_vGREATER ne_vNOT_EQUAL_vGREATER_OR_EQUAL ne_vLESS_vLESS_OR_EQUAL ne_vLESS_vGREATER ne_vLESS_vGREATER_OR_EQUAL ne_vLESS_OR_EQUAL_vGREATER ne_vLESS_OR_EQUAL_vGREATER_OR_EQUAL ne_vGREATER_vGREATER_OR_EQUAL) hZ (hw _ (List.mem_of_getElem? (i := 24) rfl)) (hw _ (List.mem_of_getElem? (i := 2) rfl)) (by decide) (by decide)) (g := (mkF m 26 #[.val (.int p1), .val (.int p2), .val (.int p3), .val (.ref vGREATER_OR_EQUAL), .val (.ref vLESS_OR_EQUAL), .unset] [(.int (0 : Int32)), (.ref vGREATER_OR_EQUAL), (.int (F_rm4_3 (0 : Int32)))])) rfl (by rw [hml]; rfl) (argsL := [(.ref vGREATER_OR_EQUAL), (.int (0 : Int32))]) (rest := [(.int (F_rm4_3 (0 : Int32)))]) (lenOf pd_3 rfl) rfl (by show 2 * 0 + _ ≤ _; exact Nat.le_of_eq rfl) (hb hby at_26) (fun _ _ => ⟨rfl, e72q, (by decide : 0 + 0 ≤ _), (by decide : 0 + 0 ≤ _)⟩)
    dsimp only [Pt.U, Pt.locs, Pt.cells, Pt.slots] at X73 l73 y73 z73 st73 hQ73
    subst l73 y73 z73
    obtain ⟨rfl, N73q, e73q⟩ := hQ73
    have N73 := Fr.app Ng72 N73q
    obtain ⟨Lg73, Xg73, Ng73⟩ := Stand_gen X73 N73
    refine Run.go st73 ?_
    show Run p e below s 0 0 (Q_rm0 Z p1 p2 p3 vEQUAL vNOT_EQUAL vLESS vLESS_OR_EQUAL vGREATER vGREATER_OR_EQUAL h0 n0) (T73.setTop (mkF m 29 #[.val (.int p1), .val (.int p2), .val (.int p3), .val (.ref vGREATER_OR_EQUAL), .val (.ref vLESS_OR_EQUAL), .unset] [(.int (F_rm4_5 (0 : Int32))), (.int (F_rm4_3 (0 : Int32)))]))
    refine Run.go (fun _ k => XS.icmpNo Xg73.here hx rfl (hb hby at_29) rfl (teq (by decide)).2 k) ?_
    show Run p e below s 0 0 (Q_rm0 Z p1 p2 p3 vEQUAL vNOT_EQUAL vLESS vLESS_OR_EQUAL vGREATER vGREATER_OR_EQUAL h0 n0) (T73.setTop (mkF m 32 #[.val (.int p1), .val (.int p2), .val (.int p3), .val (.ref vGREATER_OR_EQUAL), .val (.ref vLESS_OR_EQUAL), .unset] []))
    refine Run.go (fun _ k => XS.aload Xg73.here hx rfl (hb hby at_32) rfl rfl k) ?_
    show Run p e below s 0 0 (Q_rm0 Z p1 p2 p3 vEQUAL vNOT_EQUAL vLESS vLESS_OR_EQUAL vGREATER vGREATER_OR_EQUAL h0 n0) (T73.setTop (mkF m 34 #[.val (.int p1), .val (.int p2), .val (.int p3), .val (.ref vGREATER_OR_EQUAL), .val (.ref vLESS_OR_EQUAL), .unset] [(.ref vLESS_OR_EQUAL)]))
    refine Run.go (fun _ k => XS.iconst Xg73.here hx rfl (hb hby at_34) k) ?_
    show Run p e below s 0 0 (Q_rm0 Z p1 p2 p3 vEQUAL vNOT_EQUAL vLESS vLESS_OR_EQUAL vGREATER vGREATER_OR_EQUAL h0 n0) (T73.setTop (mkF m 35 #[.val (.int p1), .val (.int p2), .val (.int p3), .val (.ref vGREATER_OR_EQUAL), .val (.ref vLESS_OR_EQUAL), .unset] [(.int (1 : Int32)), (.ref vLESS_OR_EQUAL)]))
    obtain ⟨_, _, ⟨T74, L74, k74, n74⟩, -, X74, ⟨Lc74, hQ74, l74, y74, z74⟩, st74⟩ := Jvm.LawKit.callS Xg73 hx (y := (⟨"com/example/exact_table/exacttable/ComparatorFlippedPinLaw", "holds", "(Lcom/example/exact_table/exacttable/Condition$Comparator;I)Z"⟩ : MethodName)) hown (mvT hZ (hw _ (List.mem_of_getElem? (i := 22) rfl))) (mvT hZ (hw _ (List.mem_of_getElem? (i := 23) rfl))) (mvT hZ (hw _ (List.mem_of_getElem? (i := 2) rfl))) (mvT hZ (hw _ (List.mem_of_getElem? (i := 24) rfl))) (by decide) (backOf (W := 0) (rm4_3 l Z a0 hw [] vLESS_OR_EQUAL (1 : Int32) vEQUAL vNOT_EQUAL vLESS vGREATER vGREATER_OR_EQUAL h0 n0 Z0 S_Condition_Comparator_EQUAL S_Condition_Comparator_NOT_EQUAL S_Condition_Comparator_LESS S_Condition_Comparator_LESS_OR_EQUAL S_Condition_Comparator_GREATER S_Condition_Comparator_GREATER_OR_EQUAL ne_vEQUAL_vNOT_EQUAL ne_vEQUAL_vLESS ne_vEQUAL_vLESS_OR_EQUAL ne_vEQUAL_vGREATER ne_vEQUAL_vGREATER_OR_EQUAL ne_vNOT_EQUAL_vLESS ne_vNOT_EQUAL_vLESS_OR_EQUAL ne_vNOT_EQUAL_vGREATER ne_vNOT_EQUAL_vGREATER_OR_EQUAL ne_vLESS_vLESS_OR_EQUAL ne_vLESS_vGREATER ne_vLESS_vGREATER_OR_EQUAL ne_vLESS_OR_EQUAL_vGREATER ne_vLESS_OR_EQUAL_vGREATER_OR_EQUAL ne_vGREATER_vGREATER_OR_EQUAL) hZ (hw _ (List.mem_of_getElem? (i := 24) rfl)) (hw _ (List.mem_of_getElem? (i := 2) rfl)) (by decide) (by decide)) (g := (mkF m 35 #[.val (.int p1), .val (.int p2), .val (.int p3), .val (.ref vGREATER_OR_EQUAL), .val (.ref vLESS_OR_EQUAL), .unset] [(.int (1 : Int32)), (.ref vLESS_OR_EQUAL)])) rfl (by rw [hml]; rfl) (argsL := [(.ref vLESS_OR_EQUAL), (.int (1 : Int32))]) (rest := []) (lenOf pd_3 rfl) rfl (by show 2 * 0 + _ ≤ _; exact Nat.le_of_eq rfl) (hb hby at_35) (fun _ _ => ⟨rfl, e73q, (by decide : 0 + 0 ≤ _), (by decide : 0 + 0 ≤ _)⟩)
    dsimp only [Pt.U, Pt.locs, Pt.cells, Pt.slots] at X74 l74 y74 z74 st74 hQ74
    subst l74 y74 z74
    obtain ⟨rfl, N74q, e74q⟩ := hQ74
    have N74 := Fr.app Ng73 N74q
    obtain ⟨Lg74, Xg74, Ng74⟩ := Stand_gen X74 N74
    refine Run.go st74 ?_
    show Run p e below s 0 0 (Q_rm0 Z p1 p2 p3 vEQUAL vNOT_EQUAL vLESS vLESS_OR_EQUAL vGREATER vGREATER_OR_EQUAL h0 n0) (T74.setTop (mkF m 38 #[.val (.int p1), .val (.int p2), .val (.int p3), .val (.ref vGREATER_OR_EQUAL), .val (.ref vLESS_OR_EQUAL), .unset] [(.int (F_rm4_3 (1 : Int32)))]))
    refine Run.go (fun _ k => XS.aloadN Xg74.here hx rfl (hb hby at_38) rfl rfl k) ?_
    show Run p e below s 0 0 (Q_rm0 Z p1 p2 p3 vEQUAL vNOT_EQUAL vLESS vLESS_OR_EQUAL vGREATER vGREATER_OR_EQUAL h0 n0) (T74.setTop (mkF m 39 #[.val (.int p1), .val (.int p2), .val (.int p3), .val (.ref vGREATER_OR_EQUAL), .val (.ref vLESS_OR_EQUAL), .unset] [(.ref vGREATER_OR_EQUAL), (.int (F_rm4_3 (1 : Int32)))]))
    refine Run.go (fun _ k => XS.iconst Xg74.here hx rfl (hb hby at_39) k) ?_
    show Run p e below s 0 0 (Q_rm0 Z p1 p2 p3 vEQUAL vNOT_EQUAL vLESS vLESS_OR_EQUAL vGREATER vGREATER_OR_EQUAL h0 n0) (T74.setTop (mkF m 40 #[.val (.int p1), .val (.int p2), .val (.int p3), .val (.ref vGREATER_OR_EQUAL), .val (.ref vLESS_OR_EQUAL), .unset] [(.int (-1 : Int32)), (.ref vGREATER_OR_EQUAL), (.int (F_rm4_3 (1 : Int32)))]))
    obtain ⟨_, _, ⟨T75, L75, k75, n75⟩, -, X75, ⟨Lc75, hQ75, l75, y75, z75⟩, st75⟩ := Jvm.LawKit.callS Xg74 hx (y := (⟨"com/example/exact_table/exacttable/ComparatorFlippedPinLaw", "holds", "(Lcom/example/exact_table/exacttable/Condition$Comparator;I)Z"⟩ : MethodName)) hown (mvT hZ (hw _ (List.mem_of_getElem? (i := 22) rfl))) (mvT hZ (hw _ (List.mem_of_getElem? (i := 23) rfl))) (mvT hZ (hw _ (List.mem_of_getElem? (i := 2) rfl))) (mvT hZ (hw _ (List.mem_of_getElem? (i := 24) rfl))) (by decide) (backOf (W := 1) (rm4_5 l Z a0 hw [] vGREATER_OR_EQUAL (-1 : Int32) vEQUAL vNOT_EQUAL vLESS vLESS_OR_EQUAL vGREATER h0 n0 Z0 S_Condition_Comparator_EQUAL S_Condition_Comparator_NOT_EQUAL S_Condition_Comparator_LESS S_Condition_Comparator_LESS_OR_EQUAL S_Condition_Comparator_GREATER S_Condition_Comparator_GREATER_OR_EQUAL ne_vEQUAL_vNOT_EQUAL ne_vEQUAL_vLESS ne_vEQUAL_vLESS_OR_EQUAL ne_vEQUAL_vGREATER ne_vEQUAL_vGREATER_OR_EQUAL ne_vNOT_EQUAL_vLESS ne_vNOT_EQUAL_vLESS_OR_EQUAL ne_vNOT_EQUAL_vGREATER ne_vNOT_EQUAL_vGREATER_OR_EQUAL ne_vLESS_vLESS_OR_EQUAL ne_vLESS_vGREATER ne_vLESS_vGREATER_OR_EQUAL ne_vLESS_OR_EQUAL_vGREATER ne_vLESS_OR_EQUAL_vGREATER_OR_EQUAL ne_vGREATER_vGREATER_OR_EQUAL) hZ (hw _ (List.mem_of_getElem? (i := 24) rfl)) (hw _ (List.mem_of_getElem? (i := 2) rfl)) (by decide) (by decide)) (g := (mkF m 40 #[.val (.int p1), .val (.int p2), .val (.int p3), .val (.ref vGREATER_OR_EQUAL), .val (.ref vLESS_OR_EQUAL), .unset] [(.int (-1 : Int32)), (.ref vGREATER_OR_EQUAL), (.int (F_rm4_3 (1 : Int32)))])) rfl (by rw [hml]; rfl) (argsL := [(.ref vGREATER_OR_EQUAL), (.int (-1 : Int32))]) (rest := [(.int (F_rm4_3 (1 : Int32)))]) (lenOf pd_3 rfl) rfl (by show 2 * 0 + _ ≤ _; exact Nat.le_of_eq rfl) (hb hby at_40) (fun _ _ => ⟨rfl, e74q, (by decide : 0 + 0 ≤ _), (by decide : 0 + 0 ≤ _)⟩)
    dsimp only [Pt.U, Pt.locs, Pt.cells, Pt.slots] at X75 l75 y75 z75 st75 hQ75
    subst l75 y75 z75
    obtain ⟨rfl, N75q, e75q⟩ := hQ75
    have N75 := Fr.app Ng74 N75q
    obtain ⟨Lg75, Xg75, Ng75⟩ := Stand_gen X75 N75
    refine Run.go st75 ?_
    show Run p e below s 0 0 (Q_rm0 Z p1 p2 p3 vEQUAL vNOT_EQUAL vLESS vLESS_OR_EQUAL vGREATER vGREATER_OR_EQUAL h0 n0) (T75.setTop (mkF m 43 #[.val (.int p1), .val (.int p2), .val (.int p3), .val (.ref vGREATER_OR_EQUAL), .val (.ref vLESS_OR_EQUAL), .unset] [(.int (F_rm4_5 (-1 : Int32))), (.int (F_rm4_3 (1 : Int32)))]))
    refine Run.go (fun _ k => XS.icmpNo Xg75.here hx rfl (hb hby at_43) rfl (teq (by decide)).2 k) ?_
    show Run p e below s 0 0 (Q_rm0 Z p1 p2 p3 vEQUAL vNOT_EQUAL vLESS vLESS_OR_EQUAL vGREATER vGREATER_OR_EQUAL h0 n0) (T75.setTop (mkF m 46 #[.val (.int p1), .val (.int p2), .val (.int p3), .val (.ref vGREATER_OR_EQUAL), .val (.ref vLESS_OR_EQUAL), .unset] []))
    refine Run.go (fun _ k => XS.aload Xg75.here hx rfl (hb hby at_46) rfl rfl k) ?_
    show Run p e below s 0 0 (Q_rm0 Z p1 p2 p3 vEQUAL vNOT_EQUAL vLESS vLESS_OR_EQUAL vGREATER vGREATER_OR_EQUAL h0 n0) (T75.setTop (mkF m 48 #[.val (.int p1), .val (.int p2), .val (.int p3), .val (.ref vGREATER_OR_EQUAL), .val (.ref vLESS_OR_EQUAL), .unset] [(.ref vLESS_OR_EQUAL)]))
    refine Run.go (fun _ k => XS.iconst Xg75.here hx rfl (hb hby at_48) k) ?_
    show Run p e below s 0 0 (Q_rm0 Z p1 p2 p3 vEQUAL vNOT_EQUAL vLESS vLESS_OR_EQUAL vGREATER vGREATER_OR_EQUAL h0 n0) (T75.setTop (mkF m 49 #[.val (.int p1), .val (.int p2), .val (.int p3), .val (.ref vGREATER_OR_EQUAL), .val (.ref vLESS_OR_EQUAL), .unset] [(.int (-1 : Int32)), (.ref vLESS_OR_EQUAL)]))
    obtain ⟨_, _, ⟨T76, L76, k76, n76⟩, -, X76, ⟨Lc76, hQ76, l76, y76, z76⟩, st76⟩ := Jvm.LawKit.callS Xg75 hx (y := (⟨"com/example/exact_table/exacttable/ComparatorFlippedPinLaw", "holds", "(Lcom/example/exact_table/exacttable/Condition$Comparator;I)Z"⟩ : MethodName)) hown (mvT hZ (hw _ (List.mem_of_getElem? (i := 22) rfl))) (mvT hZ (hw _ (List.mem_of_getElem? (i := 23) rfl))) (mvT hZ (hw _ (List.mem_of_getElem? (i := 2) rfl))) (mvT hZ (hw _ (List.mem_of_getElem? (i := 24) rfl))) (by decide) (backOf (W := 0) (rm4_3 l Z a0 hw [] vLESS_OR_EQUAL (-1 : Int32) vEQUAL vNOT_EQUAL vLESS vGREATER vGREATER_OR_EQUAL h0 n0 Z0 S_Condition_Comparator_EQUAL S_Condition_Comparator_NOT_EQUAL S_Condition_Comparator_LESS S_Condition_Comparator_LESS_OR_EQUAL S_Condition_Comparator_GREATER S_Condition_Comparator_GREATER_OR_EQUAL ne_vEQUAL_vNOT_EQUAL ne_vEQUAL_vLESS ne_vEQUAL_vLESS_OR_EQUAL ne_vEQUAL_vGREATER ne_vEQUAL_vGREATER_OR_EQUAL ne_vNOT_EQUAL_vLESS ne_vNOT_EQUAL_vLESS_OR_EQUAL ne_vNOT_EQUAL_vGREATER ne_vNOT_EQUAL_vGREATER_OR_EQUAL ne_vLESS_vLESS_OR_EQUAL ne_vLESS_vGREATER ne_vLESS_vGREATER_OR_EQUAL ne_vLESS_OR_EQUAL_vGREATER ne_vLESS_OR_EQUAL_vGREATER_OR_EQUAL ne_vGREATER_vGREATER_OR_EQUAL) hZ (hw _ (List.mem_of_getElem? (i := 24) rfl)) (hw _ (List.mem_of_getElem? (i := 2) rfl)) (by decide) (by decide)) (g := (mkF m 49 #[.val (.int p1), .val (.int p2), .val (.int p3), .val (.ref vGREATER_OR_EQUAL), .val (.ref vLESS_OR_EQUAL), .unset] [(.int (-1 : Int32)), (.ref vLESS_OR_EQUAL)])) rfl (by rw [hml]; rfl) (argsL := [(.ref vLESS_OR_EQUAL), (.int (-1 : Int32))]) (rest := []) (lenOf pd_3 rfl) rfl (by show 2 * 0 + _ ≤ _; exact Nat.le_of_eq rfl) (hb hby at_49) (fun _ _ => ⟨rfl, e75q, (by decide : 0 + 0 ≤ _), (by decide : 0 + 0 ≤ _)⟩)
    dsimp only [Pt.U, Pt.locs, Pt.cells, Pt.slots] at X76 l76 y76 z76 st76 hQ76
    subst l76 y76 z76
    obtain ⟨rfl, N76q, e76q⟩ := hQ76
    have N76 := Fr.app Ng75 N76q
    obtain ⟨Lg76, Xg76, Ng76⟩ := Stand_gen X76 N76
    refine Run.go st76 ?_
    show Run p e below s 0 0 (Q_rm0 Z p1 p2 p3 vEQUAL vNOT_EQUAL vLESS vLESS_OR_EQUAL vGREATER vGREATER_OR_EQUAL h0 n0) (T76.setTop (mkF m 52 #[.val (.int p1), .val (.int p2), .val (.int p3), .val (.ref vGREATER_OR_EQUAL), .val (.ref vLESS_OR_EQUAL), .unset] [(.int (F_rm4_3 (-1 : Int32)))]))
    refine Run.go (fun _ k => XS.aloadN Xg76.here hx rfl (hb hby at_52) rfl rfl k) ?_
    show Run p e below s 0 0 (Q_rm0 Z p1 p2 p3 vEQUAL vNOT_EQUAL vLESS vLESS_OR_EQUAL vGREATER vGREATER_OR_EQUAL h0 n0) (T76.setTop (mkF m 53 #[.val (.int p1), .val (.int p2), .val (.int p3), .val (.ref vGREATER_OR_EQUAL), .val (.ref vLESS_OR_EQUAL), .unset] [(.ref vGREATER_OR_EQUAL), (.int (F_rm4_3 (-1 : Int32)))]))
    refine Run.go (fun _ k => XS.iconst Xg76.here hx rfl (hb hby at_53) k) ?_
    show Run p e below s 0 0 (Q_rm0 Z p1 p2 p3 vEQUAL vNOT_EQUAL vLESS vLESS_OR_EQUAL vGREATER vGREATER_OR_EQUAL h0 n0) (T76.setTop (mkF m 54 #[.val (.int p1), .val (.int p2), .val (.int p3), .val (.ref vGREATER_OR_EQUAL), .val (.ref vLESS_OR_EQUAL), .unset] [(.int (1 : Int32)), (.ref vGREATER_OR_EQUAL), (.int (F_rm4_3 (-1 : Int32)))]))
    obtain ⟨_, _, ⟨T77, L77, k77, n77⟩, -, X77, ⟨Lc77, hQ77, l77, y77, z77⟩, st77⟩ := Jvm.LawKit.callS Xg76 hx (y := (⟨"com/example/exact_table/exacttable/ComparatorFlippedPinLaw", "holds", "(Lcom/example/exact_table/exacttable/Condition$Comparator;I)Z"⟩ : MethodName)) hown (mvT hZ (hw _ (List.mem_of_getElem? (i := 22) rfl))) (mvT hZ (hw _ (List.mem_of_getElem? (i := 23) rfl))) (mvT hZ (hw _ (List.mem_of_getElem? (i := 2) rfl))) (mvT hZ (hw _ (List.mem_of_getElem? (i := 24) rfl))) (by decide) (backOf (W := 1) (rm4_5 l Z a0 hw [] vGREATER_OR_EQUAL (1 : Int32) vEQUAL vNOT_EQUAL vLESS vLESS_OR_EQUAL vGREATER h0 n0 Z0 S_Condition_Comparator_EQUAL S_Condition_Comparator_NOT_EQUAL S_Condition_Comparator_LESS S_Condition_Comparator_LESS_OR_EQUAL S_Condition_Comparator_GREATER S_Condition_Comparator_GREATER_OR_EQUAL ne_vEQUAL_vNOT_EQUAL ne_vEQUAL_vLESS ne_vEQUAL_vLESS_OR_EQUAL ne_vEQUAL_vGREATER ne_vEQUAL_vGREATER_OR_EQUAL ne_vNOT_EQUAL_vLESS ne_vNOT_EQUAL_vLESS_OR_EQUAL ne_vNOT_EQUAL_vGREATER ne_vNOT_EQUAL_vGREATER_OR_EQUAL ne_vLESS_vLESS_OR_EQUAL ne_vLESS_vGREATER ne_vLESS_vGREATER_OR_EQUAL ne_vLESS_OR_EQUAL_vGREATER ne_vLESS_OR_EQUAL_vGREATER_OR_EQUAL ne_vGREATER_vGREATER_OR_EQUAL) hZ (hw _ (List.mem_of_getElem? (i := 24) rfl)) (hw _ (List.mem_of_getElem? (i := 2) rfl)) (by decide) (by decide)) (g := (mkF m 54 #[.val (.int p1), .val (.int p2), .val (.int p3), .val (.ref vGREATER_OR_EQUAL), .val (.ref vLESS_OR_EQUAL), .unset] [(.int (1 : Int32)), (.ref vGREATER_OR_EQUAL), (.int (F_rm4_3 (-1 : Int32)))])) rfl (by rw [hml]; rfl) (argsL := [(.ref vGREATER_OR_EQUAL), (.int (1 : Int32))]) (rest := [(.int (F_rm4_3 (-1 : Int32)))]) (lenOf pd_3 rfl) rfl (by show 2 * 0 + _ ≤ _; exact Nat.le_of_eq rfl) (hb hby at_54) (fun _ _ => ⟨rfl, e76q, (by decide : 0 + 0 ≤ _), (by decide : 0 + 0 ≤ _)⟩)
    dsimp only [Pt.U, Pt.locs, Pt.cells, Pt.slots] at X77 l77 y77 z77 st77 hQ77
    subst l77 y77 z77
    obtain ⟨rfl, N77q, e77q⟩ := hQ77
    have N77 := Fr.app Ng76 N77q
    obtain ⟨Lg77, Xg77, Ng77⟩ := Stand_gen X77 N77
    refine Run.go st77 ?_
    show Run p e below s 0 0 (Q_rm0 Z p1 p2 p3 vEQUAL vNOT_EQUAL vLESS vLESS_OR_EQUAL vGREATER vGREATER_OR_EQUAL h0 n0) (T77.setTop (mkF m 57 #[.val (.int p1), .val (.int p2), .val (.int p3), .val (.ref vGREATER_OR_EQUAL), .val (.ref vLESS_OR_EQUAL), .unset] [(.int (F_rm4_5 (1 : Int32))), (.int (F_rm4_3 (-1 : Int32)))]))
    refine Run.go (fun _ k => XS.icmpNo Xg77.here hx rfl (hb hby at_57) rfl (teq (by decide)).2 k) ?_
    show Run p e below s 0 0 (Q_rm0 Z p1 p2 p3 vEQUAL vNOT_EQUAL vLESS vLESS_OR_EQUAL vGREATER vGREATER_OR_EQUAL h0 n0) (T77.setTop (mkF m 60 #[.val (.int p1), .val (.int p2), .val (.int p3), .val (.ref vGREATER_OR_EQUAL), .val (.ref vLESS_OR_EQUAL), .unset] []))
    refine Run.go (fun _ k => XS.iconst Xg77.here hx rfl (hb hby at_60) k) ?_
    show Run p e below s 0 0 (Q_rm0 Z p1 p2 p3 vEQUAL vNOT_EQUAL vLESS vLESS_OR_EQUAL vGREATER vGREATER_OR_EQUAL h0 n0) (T77.setTop (mkF m 61 #[.val (.int p1), .val (.int p2), .val (.int p3), .val (.ref vGREATER_OR_EQUAL), .val (.ref vLESS_OR_EQUAL), .unset] [(.int (1 : Int32))]))
    refine Run.go (fun _ k => XS.goto Xg77.here hx rfl (pc0 := 61) (pc' := 65) rfl (hb hby at_61) (by decide) (by decide) k) ?_
    show Run p e below s 0 0 (Q_rm0 Z p1 p2 p3 vEQUAL vNOT_EQUAL vLESS vLESS_OR_EQUAL vGREATER vGREATER_OR_EQUAL h0 n0) (T77.setTop (mkF m 65 #[.val (.int p1), .val (.int p2), .val (.int p3), .val (.ref vGREATER_OR_EQUAL), .val (.ref vLESS_OR_EQUAL), .unset] [(.int (1 : Int32))]))
    refine Run.go (fun _ k => XS.istore Xg77.here hx rfl (hb hby at_65) rfl (l' := #[.val (.int p1), .val (.int p2), .val (.int p3), .val (.ref vGREATER_OR_EQUAL), .val (.ref vLESS_OR_EQUAL), .val (.int (1 : Int32))]) rfl k) ?_
    show Run p e below s 0 0 (Q_rm0 Z p1 p2 p3 vEQUAL vNOT_EQUAL vLESS vLESS_OR_EQUAL vGREATER vGREATER_OR_EQUAL h0 n0) (T77.setTop (mkF m 67 #[.val (.int p1), .val (.int p2), .val (.int p3), .val (.ref vGREATER_OR_EQUAL), .val (.ref vLESS_OR_EQUAL), .val (.int (1 : Int32))] []))
    refine Run.go (fun _ k => XS.iload Xg77.here hx rfl (hb hby at_67) rfl  k) ?_
    show Run p e below s 0 0 (Q_rm0 Z p1 p2 p3 vEQUAL vNOT_EQUAL vLESS vLESS_OR_EQUAL vGREATER vGREATER_OR_EQUAL h0 n0) (T77.setTop (mkF m 69 #[.val (.int p1), .val (.int p2), .val (.int p3), .val (.ref vGREATER_OR_EQUAL), .val (.ref vLESS_OR_EQUAL), .val (.int (1 : Int32))] [(.int (1 : Int32))]))
    refine Run.go (fun _ k => XS.ifNo Xg77.here hx rfl (hb hby at_69) rfl ((if0 _ _).trans (feq (by decide)).1) k) ?_
    show Run p e below s 0 0 (Q_rm0 Z p1 p2 p3 vEQUAL vNOT_EQUAL vLESS vLESS_OR_EQUAL vGREATER vGREATER_OR_EQUAL h0 n0) (T77.setTop (mkF m 72 #[.val (.int p1), .val (.int p2), .val (.int p3), .val (.ref vGREATER_OR_EQUAL), .val (.ref vLESS_OR_EQUAL), .val (.int (1 : Int32))] []))
    refine Run.go (fun _ k => XS.aload Xg77.here hx rfl (hb hby at_72) rfl rfl k) ?_
    show Run p e below s 0 0 (Q_rm0 Z p1 p2 p3 vEQUAL vNOT_EQUAL vLESS vLESS_OR_EQUAL vGREATER vGREATER_OR_EQUAL h0 n0) (T77.setTop (mkF m 74 #[.val (.int p1), .val (.int p2), .val (.int p3), .val (.ref vGREATER_OR_EQUAL), .val (.ref vLESS_OR_EQUAL), .val (.int (1 : Int32))] [(.ref vLESS_OR_EQUAL)]))
    refine Run.go (fun _ k => XS.iloadN Xg77.here hx rfl (hb hby at_74) rfl  k) ?_
    show Run p e below s 0 0 (Q_rm0 Z p1 p2 p3 vEQUAL vNOT_EQUAL vLESS vLESS_OR_EQUAL vGREATER vGREATER_OR_EQUAL h0 n0) (T77.setTop (mkF m 75 #[.val (.int p1), .val (.int p2), .val (.int p3), .val (.ref vGREATER_OR_EQUAL), .val (.ref vLESS_OR_EQUAL), .val (.int (1 : Int32))] [(.int p3), (.ref vLESS_OR_EQUAL)]))
    refine Run.go (fun _ k => XS.iloadN Xg77.here hx rfl (hb hby at_75) rfl  k) ?_
    show Run p e below s 0 0 (Q_rm0 Z p1 p2 p3 vEQUAL vNOT_EQUAL vLESS vLESS_OR_EQUAL vGREATER vGREATER_OR_EQUAL h0 n0) (T77.setTop (mkF m 76 #[.val (.int p1), .val (.int p2), .val (.int p3), .val (.ref vGREATER_OR_EQUAL), .val (.ref vLESS_OR_EQUAL), .val (.int (1 : Int32))] [(.int p2), (.int p3), (.ref vLESS_OR_EQUAL)]))
    obtain ⟨_, _, ⟨T78, L78, k78, n78⟩, -, X78, ⟨Lc78, hQ78, l78, y78, z78⟩, st78⟩ := Jvm.LawKit.callS Xg77 hx (y := (⟨"com/example/exact_table/exacttable/ComparatorFlippedPinLaw", "sign", "(II)I"⟩ : MethodName)) hown (mvT hZ (hw _ (List.mem_of_getElem? (i := 25) rfl))) (mvT hZ (hw _ (List.mem_of_getElem? (i := 26) rfl))) (mvT hZ (hw _ (List.mem_of_getElem? (i := 2) rfl))) (mvT hZ (hw _ (List.mem_of_getElem? (i := 27) rfl))) (by decide) (backOf (W := 1) (rm5 l Z a0 hw [] p3 p2 h0 n0 Z0 ) hZ (hw _ (List.mem_of_getElem? (i := 27) rfl)) (hw _ (List.mem_of_getElem? (i := 2) rfl)) (by decide) (by decide)) (g := (mkF m 76 #[.val (.int p1), .val (.int p2), .val (.int p3), .val (.ref vGREATER_OR_EQUAL), .val (.ref vLESS_OR_EQUAL), .val (.int (1 : Int32))] [(.int p2), (.int p3), (.ref vLESS_OR_EQUAL)])) rfl (by rw [hml]; rfl) (argsL := [(.int p3), (.int p2)]) (rest := [(.ref vLESS_OR_EQUAL)]) (lenOf pd_4 rfl) rfl (by show 2 * 0 + _ ≤ _; exact Nat.le_of_eq rfl) (hb hby at_76) (fun _ _ => ⟨rfl, e77q, (by decide : 0 + 0 ≤ _), (by decide : 0 + 0 ≤ _)⟩)
    dsimp only [Pt.U, Pt.locs, Pt.cells, Pt.slots] at X78 l78 y78 z78 st78 hQ78
    subst l78 y78 z78
    obtain ⟨rfl, N78q, e78q⟩ := hQ78
    have N78 := Fr.app Ng77 N78q
    obtain ⟨Lg78, Xg78, Ng78⟩ := Stand_gen X78 N78
    refine Run.go st78 ?_
    show Run p e below s 0 0 (Q_rm0 Z p1 p2 p3 vEQUAL vNOT_EQUAL vLESS vLESS_OR_EQUAL vGREATER vGREATER_OR_EQUAL h0 n0) (T78.setTop (mkF m 79 #[.val (.int p1), .val (.int p2), .val (.int p3), .val (.ref vGREATER_OR_EQUAL), .val (.ref vLESS_OR_EQUAL), .val (.int (1 : Int32))] [(.int (F_rm5 p3 p2)), (.ref vLESS_OR_EQUAL)]))
    obtain ⟨_, _, ⟨T79, L79, k79, n79⟩, -, X79, ⟨Lc79, hQ79, l79, y79, z79⟩, st79⟩ := Jvm.LawKit.callS Xg78 hx (y := (⟨"com/example/exact_table/exacttable/ComparatorFlippedPinLaw", "holds", "(Lcom/example/exact_table/exacttable/Condition$Comparator;I)Z"⟩ : MethodName)) hown (mvT hZ (hw _ (List.mem_of_getElem? (i := 22) rfl))) (mvT hZ (hw _ (List.mem_of_getElem? (i := 23) rfl))) (mvT hZ (hw _ (List.mem_of_getElem? (i := 2) rfl))) (mvT hZ (hw _ (List.mem_of_getElem? (i := 24) rfl))) (by decide) (backOf (W := 0) (rm4_3 l Z a0 hw [] vLESS_OR_EQUAL (F_rm5 p3 p2) vEQUAL vNOT_EQUAL vLESS vGREATER vGREATER_OR_EQUAL h0 n0 Z0 S_Condition_Comparator_EQUAL S_Condition_Comparator_NOT_EQUAL S_Condition_Comparator_LESS S_Condition_Comparator_LESS_OR_EQUAL S_Condition_Comparator_GREATER S_Condition_Comparator_GREATER_OR_EQUAL ne_vEQUAL_vNOT_EQUAL ne_vEQUAL_vLESS ne_vEQUAL_vLESS_OR_EQUAL ne_vEQUAL_vGREATER ne_vEQUAL_vGREATER_OR_EQUAL ne_vNOT_EQUAL_vLESS ne_vNOT_EQUAL_vLESS_OR_EQUAL ne_vNOT_EQUAL_vGREATER ne_vNOT_EQUAL_vGREATER_OR_EQUAL ne_vLESS_vLESS_OR_EQUAL ne_vLESS_vGREATER ne_vLESS_vGREATER_OR_EQUAL ne_vLESS_OR_EQUAL_vGREATER ne_vLESS_OR_EQUAL_vGREATER_OR_EQUAL ne_vGREATER_vGREATER_OR_EQUAL) hZ (hw _ (List.mem_of_getElem? (i := 24) rfl)) (hw _ (List.mem_of_getElem? (i := 2) rfl)) (by decide) (by decide)) (g := (mkF m 79 #[.val (.int p1), .val (.int p2), .val (.int p3), .val (.ref vGREATER_OR_EQUAL), .val (.ref vLESS_OR_EQUAL), .val (.int (1 : Int32))] [(.int (F_rm5 p3 p2)), (.ref vLESS_OR_EQUAL)])) rfl (by rw [hml]; rfl) (argsL := [(.ref vLESS_OR_EQUAL), (.int (F_rm5 p3 p2))]) (rest := []) (lenOf pd_3 rfl) rfl (by show 2 * 0 + _ ≤ _; exact Nat.le_of_eq rfl) (hb hby at_79) (fun _ _ => ⟨rfl, e78q, (by decide : 0 + 0 ≤ _), (by decide : 0 + 0 ≤ _)⟩)
    dsimp only [Pt.U, Pt.locs, Pt.cells, Pt.slots] at X79 l79 y79 z79 st79 hQ79
    subst l79 y79 z79
    obtain ⟨rfl, N79q, e79q⟩ := hQ79
    have N79 := Fr.app Ng78 N79q
    obtain ⟨Lg79, Xg79, Ng79⟩ := Stand_gen X79 N79
    refine Run.go st79 ?_
    show Run p e below s 0 0 (Q_rm0 Z p1 p2 p3 vEQUAL vNOT_EQUAL vLESS vLESS_OR_EQUAL vGREATER vGREATER_OR_EQUAL h0 n0) (T79.setTop (mkF m 82 #[.val (.int p1), .val (.int p2), .val (.int p3), .val (.ref vGREATER_OR_EQUAL), .val (.ref vLESS_OR_EQUAL), .val (.int (1 : Int32))] [(.int (F_rm4_3 (F_rm5 p3 p2)))]))
    refine Run.go (fun _ k => XS.aloadN Xg79.here hx rfl (hb hby at_82) rfl rfl k) ?_
    show Run p e below s 0 0 (Q_rm0 Z p1 p2 p3 vEQUAL vNOT_EQUAL vLESS vLESS_OR_EQUAL vGREATER vGREATER_OR_EQUAL h0 n0) (T79.setTop (mkF m 83 #[.val (.int p1), .val (.int p2), .val (.int p3), .val (.ref vGREATER_OR_EQUAL), .val (.ref vLESS_OR_EQUAL), .val (.int (1 : Int32))] [(.ref vGREATER_OR_EQUAL), (.int (F_rm4_3 (F_rm5 p3 p2)))]))
    refine Run.go (fun _ k => XS.iloadN Xg79.here hx rfl (hb hby at_83) rfl  k) ?_
    show Run p e below s 0 0 (Q_rm0 Z p1 p2 p3 vEQUAL vNOT_EQUAL vLESS vLESS_OR_EQUAL vGREATER vGREATER_OR_EQUAL h0 n0) (T79.setTop (mkF m 84 #[.val (.int p1), .val (.int p2), .val (.int p3), .val (.ref vGREATER_OR_EQUAL), .val (.ref vLESS_OR_EQUAL), .val (.int (1 : Int32))] [(.int p2), (.ref vGREATER_OR_EQUAL), (.int (F_rm4_3 (F_rm5 p3 p2)))]))
    refine Run.go (fun _ k => XS.iloadN Xg79.here hx rfl (hb hby at_84) rfl  k) ?_
    show Run p e below s 0 0 (Q_rm0 Z p1 p2 p3 vEQUAL vNOT_EQUAL vLESS vLESS_OR_EQUAL vGREATER vGREATER_OR_EQUAL h0 n0) (T79.setTop (mkF m 85 #[.val (.int p1), .val (.int p2), .val (.int p3), .val (.ref vGREATER_OR_EQUAL), .val (.ref vLESS_OR_EQUAL), .val (.int (1 : Int32))] [(.int p3), (.int p2), (.ref vGREATER_OR_EQUAL), (.int (F_rm4_3 (F_rm5 p3 p2)))]))
    obtain ⟨_, _, ⟨T80, L80, k80, n80⟩, -, X80, ⟨Lc80, hQ80, l80, y80, z80⟩, st80⟩ := Jvm.LawKit.callS Xg79 hx (y := (⟨"com/example/exact_table/exacttable/ComparatorFlippedPinLaw", "sign", "(II)I"⟩ : MethodName)) hown (mvT hZ (hw _ (List.mem_of_getElem? (i := 25) rfl))) (mvT hZ (hw _ (List.mem_of_getElem? (i := 26) rfl))) (mvT hZ (hw _ (List.mem_of_getElem? (i := 2) rfl))) (mvT hZ (hw _ (List.mem_of_getElem? (i := 27) rfl))) (by decide) (backOf (W := 2) (rm5 l Z a0 hw [] p2 p3 h0 n0 Z0 ) hZ (hw _ (List.mem_of_getElem? (i := 27) rfl)) (hw _ (List.mem_of_getElem? (i := 2) rfl)) (by decide) (by decide)) (g := (mkF m 85 #[.val (.int p1), .val (.int p2), .val (.int p3), .val (.ref vGREATER_OR_EQUAL), .val (.ref vLESS_OR_EQUAL), .val (.int (1 : Int32))] [(.int p3), (.int p2), (.ref vGREATER_OR_EQUAL), (.int (F_rm4_3 (F_rm5 p3 p2)))])) rfl (by rw [hml]; rfl) (argsL := [(.int p2), (.int p3)]) (rest := [(.ref vGREATER_OR_EQUAL), (.int (F_rm4_3 (F_rm5 p3 p2)))]) (lenOf pd_4 rfl) rfl (by show 2 * 0 + _ ≤ _; exact Nat.le_of_eq rfl) (hb hby at_85) (fun _ _ => ⟨rfl, e79q, (by decide : 0 + 0 ≤ _), (by decide : 0 + 0 ≤ _)⟩)
    dsimp only [Pt.U, Pt.locs, Pt.cells, Pt.slots] at X80 l80 y80 z80 st80 hQ80
    subst l80 y80 z80
    obtain ⟨rfl, N80q, e80q⟩ := hQ80
    have N80 := Fr.app Ng79 N80q
    obtain ⟨Lg80, Xg80, Ng80⟩ := Stand_gen X80 N80
    refine Run.go st80 ?_
    show Run p e below s 0 0 (Q_rm0 Z p1 p2 p3 vEQUAL vNOT_EQUAL vLESS vLESS_OR_EQUAL vGREATER vGREATER_OR_EQUAL h0 n0) (T80.setTop (mkF m 88 #[.val (.int p1), .val (.int p2), .val (.int p3), .val (.ref vGREATER_OR_EQUAL), .val (.ref vLESS_OR_EQUAL), .val (.int (1 : Int32))] [(.int (F_rm5 p2 p3)), (.ref vGREATER_OR_EQUAL), (.int (F_rm4_3 (F_rm5 p3 p2)))]))
    obtain ⟨_, _, ⟨T81, L81, k81, n81⟩, -, X81, ⟨Lc81, hQ81, l81, y81, z81⟩, st81⟩ := Jvm.LawKit.callS Xg80 hx (y := (⟨"com/example/exact_table/exacttable/ComparatorFlippedPinLaw", "holds", "(Lcom/example/exact_table/exacttable/Condition$Comparator;I)Z"⟩ : MethodName)) hown (mvT hZ (hw _ (List.mem_of_getElem? (i := 22) rfl))) (mvT hZ (hw _ (List.mem_of_getElem? (i := 23) rfl))) (mvT hZ (hw _ (List.mem_of_getElem? (i := 2) rfl))) (mvT hZ (hw _ (List.mem_of_getElem? (i := 24) rfl))) (by decide) (backOf (W := 1) (rm4_5 l Z a0 hw [] vGREATER_OR_EQUAL (F_rm5 p2 p3) vEQUAL vNOT_EQUAL vLESS vLESS_OR_EQUAL vGREATER h0 n0 Z0 S_Condition_Comparator_EQUAL S_Condition_Comparator_NOT_EQUAL S_Condition_Comparator_LESS S_Condition_Comparator_LESS_OR_EQUAL S_Condition_Comparator_GREATER S_Condition_Comparator_GREATER_OR_EQUAL ne_vEQUAL_vNOT_EQUAL ne_vEQUAL_vLESS ne_vEQUAL_vLESS_OR_EQUAL ne_vEQUAL_vGREATER ne_vEQUAL_vGREATER_OR_EQUAL ne_vNOT_EQUAL_vLESS ne_vNOT_EQUAL_vLESS_OR_EQUAL ne_vNOT_EQUAL_vGREATER ne_vNOT_EQUAL_vGREATER_OR_EQUAL ne_vLESS_vLESS_OR_EQUAL ne_vLESS_vGREATER ne_vLESS_vGREATER_OR_EQUAL ne_vLESS_OR_EQUAL_vGREATER ne_vLESS_OR_EQUAL_vGREATER_OR_EQUAL ne_vGREATER_vGREATER_OR_EQUAL) hZ (hw _ (List.mem_of_getElem? (i := 24) rfl)) (hw _ (List.mem_of_getElem? (i := 2) rfl)) (by decide) (by decide)) (g := (mkF m 88 #[.val (.int p1), .val (.int p2), .val (.int p3), .val (.ref vGREATER_OR_EQUAL), .val (.ref vLESS_OR_EQUAL), .val (.int (1 : Int32))] [(.int (F_rm5 p2 p3)), (.ref vGREATER_OR_EQUAL), (.int (F_rm4_3 (F_rm5 p3 p2)))])) rfl (by rw [hml]; rfl) (argsL := [(.ref vGREATER_OR_EQUAL), (.int (F_rm5 p2 p3))]) (rest := [(.int (F_rm4_3 (F_rm5 p3 p2)))]) (lenOf pd_3 rfl) rfl (by show 2 * 0 + _ ≤ _; exact Nat.le_of_eq rfl) (hb hby at_88) (fun _ _ => ⟨rfl, e80q, (by decide : 0 + 0 ≤ _), (by decide : 0 + 0 ≤ _)⟩)
    dsimp only [Pt.U, Pt.locs, Pt.cells, Pt.slots] at X81 l81 y81 z81 st81 hQ81
    subst l81 y81 z81
    obtain ⟨rfl, N81q, e81q⟩ := hQ81
    have N81 := Fr.app Ng80 N81q
    obtain ⟨Lg81, Xg81, Ng81⟩ := Stand_gen X81 N81
    refine Run.go st81 ?_
    show Run p e below s 0 0 (Q_rm0 Z p1 p2 p3 vEQUAL vNOT_EQUAL vLESS vLESS_OR_EQUAL vGREATER vGREATER_OR_EQUAL h0 n0) (T81.setTop (mkF m 91 #[.val (.int p1), .val (.int p2), .val (.int p3), .val (.ref vGREATER_OR_EQUAL), .val (.ref vLESS_OR_EQUAL), .val (.int (1 : Int32))] [(.int (F_rm4_5 (F_rm5 p2 p3))), (.int (F_rm4_3 (F_rm5 p3 p2)))]))
    refine Run.go (fun _ k => XS.icmpNo Xg81.here hx rfl (hb hby at_91) rfl (teq (own_h5 _ _)).2 k) ?_
    show Run p e below s 0 0 (Q_rm0 Z p1 p2 p3 vEQUAL vNOT_EQUAL vLESS vLESS_OR_EQUAL vGREATER vGREATER_OR_EQUAL h0 n0) (T81.setTop (mkF m 94 #[.val (.int p1), .val (.int p2), .val (.int p3), .val (.ref vGREATER_OR_EQUAL), .val (.ref vLESS_OR_EQUAL), .val (.int (1 : Int32))] []))
    refine Run.go (fun _ k => XS.iconst Xg81.here hx rfl (hb hby at_94) k) ?_
    show Run p e below s 0 0 (Q_rm0 Z p1 p2 p3 vEQUAL vNOT_EQUAL vLESS vLESS_OR_EQUAL vGREATER vGREATER_OR_EQUAL h0 n0) (T81.setTop (mkF m 95 #[.val (.int p1), .val (.int p2), .val (.int p3), .val (.ref vGREATER_OR_EQUAL), .val (.ref vLESS_OR_EQUAL), .val (.int (1 : Int32))] [(.int (1 : Int32))]))
    refine Run.go (fun _ k => XS.goto Xg81.here hx rfl (pc0 := 95) (pc' := 99) rfl (hb hby at_95) (by decide) (by decide) k) ?_
    show Run p e below s 0 0 (Q_rm0 Z p1 p2 p3 vEQUAL vNOT_EQUAL vLESS vLESS_OR_EQUAL vGREATER vGREATER_OR_EQUAL h0 n0) (T81.setTop (mkF m 99 #[.val (.int p1), .val (.int p2), .val (.int p3), .val (.ref vGREATER_OR_EQUAL), .val (.ref vLESS_OR_EQUAL), .val (.int (1 : Int32))] [(.int (1 : Int32))]))
    refine Run.go (fun _ k => XS.istore Xg81.here hx rfl (hb hby at_99) rfl (l' := #[.val (.int p1), .val (.int p2), .val (.int p3), .val (.ref vGREATER_OR_EQUAL), .val (.ref vLESS_OR_EQUAL), .val (.int (1 : Int32))]) rfl k) ?_
    show Run p e below s 0 0 (Q_rm0 Z p1 p2 p3 vEQUAL vNOT_EQUAL vLESS vLESS_OR_EQUAL vGREATER vGREATER_OR_EQUAL h0 n0) (T81.setTop (mkF m 101 #[.val (.int p1), .val (.int p2), .val (.int p3), .val (.ref vGREATER_OR_EQUAL), .val (.ref vLESS_OR_EQUAL), .val (.int (1 : Int32))] []))
    refine Run.go (fun _ k => XS.iload Xg81.here hx rfl (hb hby at_101) rfl  k) ?_
    show Run p e below s 0 0 (Q_rm0 Z p1 p2 p3 vEQUAL vNOT_EQUAL vLESS vLESS_OR_EQUAL vGREATER vGREATER_OR_EQUAL h0 n0) (T81.setTop (mkF m 103 #[.val (.int p1), .val (.int p2), .val (.int p3), .val (.ref vGREATER_OR_EQUAL), .val (.ref vLESS_OR_EQUAL), .val (.int (1 : Int32))] [(.int (1 : Int32))]))
    refine Run.go (fun _ k => XS.ifNo Xg81.here hx rfl (hb hby at_103) rfl ((if0 _ _).trans (feq (by decide)).1) k) ?_
    show Run p e below s 0 0 (Q_rm0 Z p1 p2 p3 vEQUAL vNOT_EQUAL vLESS vLESS_OR_EQUAL vGREATER vGREATER_OR_EQUAL h0 n0) (T81.setTop (mkF m 106 #[.val (.int p1), .val (.int p2), .val (.int p3), .val (.ref vGREATER_OR_EQUAL), .val (.ref vLESS_OR_EQUAL), .val (.int (1 : Int32))] []))
    refine Run.go (fun _ k => XS.aload Xg81.here hx rfl (hb hby at_106) rfl rfl k) ?_
    show Run p e below s 0 0 (Q_rm0 Z p1 p2 p3 vEQUAL vNOT_EQUAL vLESS vLESS_OR_EQUAL vGREATER vGREATER_OR_EQUAL h0 n0) (T81.setTop (mkF m 108 #[.val (.int p1), .val (.int p2), .val (.int p3), .val (.ref vGREATER_OR_EQUAL), .val (.ref vLESS_OR_EQUAL), .val (.int (1 : Int32))] [(.ref vLESS_OR_EQUAL)]))
    obtain ⟨cq82, kq82, q82a, q82b, q82c⟩ := isOf hZ e81q E_vLESS_OR_EQUAL
    obtain ⟨_, _, ⟨T82, L82, k82, n82⟩, -, X82, ⟨Lc82, hQ82, l82, y82, z82⟩, st82⟩ := Xg81.virtualBack hx (y := (⟨"com/example/exact_table/exacttable/Condition$Comparator", "flipped", "()Lcom/example/exact_table/exacttable/Condition$Comparator;"⟩ : MethodName)) (z := (⟨"com/example/exact_table/exacttable/Condition$Comparator", "flipped", "()Lcom/example/exact_table/exacttable/Condition$Comparator;"⟩ : MethodName)) hown (mvT hZ (hw _ (List.mem_of_getElem? (i := 8) rfl))) (mvT hZ (hw _ (List.mem_of_getElem? (i := 9) rfl))) (notFace_of_selects (args := #[]) (mvT hZ (hw _ (List.mem_of_getElem? (i := 11) rfl)))) (mvT hZ (hw _ (List.mem_of_getElem? (i := 11) rfl))) (mvT hZ (hw _ (List.mem_of_getElem? (i := 10) rfl))) (by decide) (backOf (W := 0) (rm2_3 l Z a0 hw [] vLESS_OR_EQUAL vEQUAL vNOT_EQUAL vLESS vGREATER vGREATER_OR_EQUAL h0 n0 Z0 S_Condition_Comparator_EQUAL S_Condition_Comparator_NOT_EQUAL S_Condition_Comparator_LESS S_Condition_Comparator_LESS_OR_EQUAL S_Condition_Comparator_GREATER S_Condition_Comparator_GREATER_OR_EQUAL F_ordinal_vLESS_OR_EQUAL E_vLESS_OR_EQUAL) hZ (hw _ (List.mem_of_getElem? (i := 12) rfl)) (hw _ (List.mem_of_getElem? (i := 6) rfl)) (by decide) (by decide)) q82a q82c (g := (mkF m 108 #[.val (.int p1), .val (.int p2), .val (.int p3), .val (.ref vGREATER_OR_EQUAL), .val (.ref vLESS_OR_EQUAL), .val (.int (1 : Int32))] [(.ref vLESS_OR_EQUAL)])) rfl (by rw [hml]; rfl) (Steps.refl _) (argsL := []) (rest := []) (lenOf pd_2 rfl) rfl (by show 2 * 0 + _ ≤ _; exact Nat.le_of_eq rfl) (hb hby at_108) (fun _ _ => ⟨rfl, e81q, (by decide : 0 + 0 ≤ _), (by decide : 0 + 0 ≤ _)⟩)
    dsimp only [Pt.U, Pt.locs, Pt.cells, Pt.slots] at X82 l82 y82 z82 st82 hQ82
    subst l82 y82 z82
    obtain ⟨rfl, N82q, e82q⟩ := hQ82
    have N82 := Fr.app Ng81 N82q
    obtain ⟨Lg82, Xg82, Ng82⟩ := Stand_gen X82 N82
    refine Run.tr st82 ?_
    show Run p e below s 0 0 (Q_rm0 Z p1 p2 p3 vEQUAL vNOT_EQUAL vLESS vLESS_OR_EQUAL vGREATER vGREATER_OR_EQUAL h0 n0) (T82.setTop (mkF m 111 #[.val (.int p1), .val (.int p2), .val (.int p3), .val (.ref vGREATER_OR_EQUAL), .val (.ref vLESS_OR_EQUAL), .val (.int (1 : Int32))] [(.ref vGREATER_OR_EQUAL)]))
    refine Run.go (fun _ k => XS.aloadN Xg82.here hx rfl (hb hby at_111) rfl rfl k) ?_
    show Run p e below s 0 0 (Q_rm0 Z p1 p2 p3 vEQUAL vNOT_EQUAL vLESS vLESS_OR_EQUAL vGREATER vGREATER_OR_EQUAL h0 n0) (T82.setTop (mkF m 112 #[.val (.int p1), .val (.int p2), .val (.int p3), .val (.ref vGREATER_OR_EQUAL), .val (.ref vLESS_OR_EQUAL), .val (.int (1 : Int32))] [(.ref vGREATER_OR_EQUAL), (.ref vGREATER_OR_EQUAL)]))
    refine Run.go (fun _ k => Jvm.RoadKit.acmp (g := (mkF m 112 #[.val (.int p1), .val (.int p2), .val (.int p3), .val (.ref vGREATER_OR_EQUAL), .val (.ref vLESS_OR_EQUAL), .val (.int (1 : Int32))] [(.ref vGREATER_OR_EQUAL), (.ref vGREATER_OR_EQUAL)])) Xg82 hx rfl rfl rfl (pc0 := 112) (pc' := 115) (same := true) rfl (hb hby at_112) rfl (decide_eq_true rfl) (by decide) (by decide) k) ?_
    show Run p e below s 0 0 (Q_rm0 Z p1 p2 p3 vEQUAL vNOT_EQUAL vLESS vLESS_OR_EQUAL vGREATER vGREATER_OR_EQUAL h0 n0) (T82.setTop (mkF m 115 #[.val (.int p1), .val (.int p2), .val (.int p3), .val (.ref vGREATER_OR_EQUAL), .val (.ref vLESS_OR_EQUAL), .val (.int (1 : Int32))] []))
    refine Run.go (fun _ k => XS.iconst Xg82.here hx rfl (hb hby at_115) k) ?_
    show Run p e below s 0 0 (Q_rm0 Z p1 p2 p3 vEQUAL vNOT_EQUAL vLESS vLESS_OR_EQUAL vGREATER vGREATER_OR_EQUAL h0 n0) (T82.setTop (mkF m 116 #[.val (.int p1), .val (.int p2), .val (.int p3), .val (.ref vGREATER_OR_EQUAL), .val (.ref vLESS_OR_EQUAL), .val (.int (1 : Int32))] [(.int (1 : Int32))]))
    refine Run.go (fun _ k => XS.goto Xg82.here hx rfl (pc0 := 116) (pc' := 120) rfl (hb hby at_116) (by decide) (by decide) k) ?_
    show Run p e below s 0 0 (Q_rm0 Z p1 p2 p3 vEQUAL vNOT_EQUAL vLESS vLESS_OR_EQUAL vGREATER vGREATER_OR_EQUAL h0 n0) (T82.setTop (mkF m 120 #[.val (.int p1), .val (.int p2), .val (.int p3), .val (.ref vGREATER_OR_EQUAL), .val (.ref vLESS_OR_EQUAL), .val (.int (1 : Int32))] [(.int (1 : Int32))]))
    refine Run.go (fun _ k => XS.istore Xg82.here hx rfl (hb hby at_120) rfl (l' := #[.val (.int p1), .val (.int p2), .val (.int p3), .val (.ref vGREATER_OR_EQUAL), .val (.ref vLESS_OR_EQUAL), .val (.int (1 : Int32))]) rfl k) ?_
    show Run p e below s 0 0 (Q_rm0 Z p1 p2 p3 vEQUAL vNOT_EQUAL vLESS vLESS_OR_EQUAL vGREATER vGREATER_OR_EQUAL h0 n0) (T82.setTop (mkF m 122 #[.val (.int p1), .val (.int p2), .val (.int p3), .val (.ref vGREATER_OR_EQUAL), .val (.ref vLESS_OR_EQUAL), .val (.int (1 : Int32))] []))
    refine Run.go (fun _ k => XS.iload Xg82.here hx rfl (hb hby at_122) rfl  k) ?_
    show Run p e below s 0 0 (Q_rm0 Z p1 p2 p3 vEQUAL vNOT_EQUAL vLESS vLESS_OR_EQUAL vGREATER vGREATER_OR_EQUAL h0 n0) (T82.setTop (mkF m 124 #[.val (.int p1), .val (.int p2), .val (.int p3), .val (.ref vGREATER_OR_EQUAL), .val (.ref vLESS_OR_EQUAL), .val (.int (1 : Int32))] [(.int (1 : Int32))]))
    exact Run.retN (y := 1) Xg82 hx (t := .boolean) Bd.returns (by simp) rfl Bd.notSynchronized (hb hby at_124) (by decide) (by decide) ⟨rfl, Ng82⟩
theorem own_inteq {args : Array Value} {s : State} {t : Term} {x : Value} {k : Int32} (h : (Jvm.Cond.eq t (Term.int k)).value args s none s [] = some true) (ht : t.eval args s none [] s = some x) : t.eval args s none [] s = some (.int k) := by
  cases x <;> simp [Cond.value, ht, Term.int_eval] at h ⊢
  exact h
set_option maxRecDepth 65536 in
set_option maxHeartbeats 40000000 in
theorem comes_1 {Post : Tables → Env → Array Value → State → Outcome → State → Prop} (hpost : ∀ tb e args s v u, (limb_1_1.after args s (.returned v) u = true ∧ limb_1_2.after args s (.returned v) u = true ∧ True) → FrameEnd s (.returned v) u (Jvm.fieldLocs frame_1_writes args s ++ Jvm.arrayLocs frame_1_arrays args s ++ Jvm.staticLocs frame_1_statics s) 0 0 → Post tb e args s (.returned v) u) :
    ArmFor flags0 classFile x code maxLocals ret World_1 tables_1 room_1 Calls_1 rest_1 Pre_1 Post := by
  intro l hfl _ _ p e ha hc hk s m args below hf hA hF happ hP
  obtain ⟨hcalls, hrest, hpre⟩ := hP
  obtain ⟨-, -, -, hnamed, -, -, -, hat⟩ := (Spec.applies_iff hf).mp happ
  obtain ⟨hg, hn⟩ := and_e (Cond.before_iff.mp (show (Jvm.Cond.and given_1 narrow_1).before args s = true from hpre))
  obtain ⟨g1, g2⟩ := and_e hg
  obtain ⟨g3, g4⟩ := and_e g2
  obtain ⟨g5, g6⟩ := and_e g4
  obtain ⟨w0, w1, w2, rfl⟩ : ∃ w0 w1 w2 : Value, args = #[w0, w1, w2] := by
    have hs : args.size = 3 := by simpa [Cond.value, given_1] using g1
    obtain ⟨L⟩ := args
    match L, hs with
    | [w0, w1, w2], _ => exact ⟨w0, w1, w2, rfl⟩
  have hw := fun d (hd : d ∈ tables_1) => atoms_spec (ws := Jvm.Cond.code x code maxLocals ret :: tables_1) hat d (List.mem_cons_of_mem _ hd)
  have hfit : Fit s := fun {y c} hc i hi => by
    obtain ⟨ha, rfl⟩ := Array.getElem?_eq_some_iff.mp hc
    have q := List.all_eq_true.mp ((Array.all_eq_true_iff_forall_mem.mp hF) _ (Array.getElem_mem ha)) i (List.mem_range.mpr hi)
    simpa [Array.getElem?_eq_getElem hi] using q
  obtain ⟨i0, ei0⟩ := is_v g3
  obtain rfl : w0 = (.int i0) := Option.some.inj ei0
  obtain ⟨i1, ei1⟩ := is_v g5
  obtain rfl : w1 = (.int i1) := Option.some.inj ei1
  obtain ⟨i2, ei2⟩ := is_v g6
  obtain rfl : w2 = (.int i2) := Option.some.inj ei2
  obtain ⟨c0, d0⟩ := and_e hn
  obtain ⟨c1, d1⟩ := and_e d0
  obtain ⟨c2, d2⟩ := and_e d1
  obtain ⟨c3, d3⟩ := and_e d2
  obtain ⟨c4, d4⟩ := and_e d3
  obtain ⟨c5, d5⟩ := and_e d4
  obtain ⟨c6, d6⟩ := and_e d5
  obtain ⟨c7, d7⟩ := and_e d6
  obtain ⟨c8, d8⟩ := and_e d7
  obtain ⟨c9, d9⟩ := and_e d8
  obtain ⟨c10, d10⟩ := and_e d9
  obtain ⟨vEQUAL, evEQUAL⟩ := exa_v c0
  have SEQUAL : Sta s s.heap "com/example/exact_table/exacttable/Condition$Comparator" "EQUAL" "Lcom/example/exact_table/exacttable/Condition$Comparator;" (.ref vEQUAL) := Sta.start evEQUAL (Or.inr ⟨(hw _ (List.mem_of_getElem? (i := 6) rfl)), (hw _ (List.mem_of_getElem? (i := 7) rfl))⟩)
  have EEQUAL : Exa s s.heap vEQUAL "com/example/exact_table/exacttable/Condition$Comparator" := Exa.start evEQUAL c0
  obtain ⟨fEQUAL, gEQUAL, mEQUAL, oEQUAL, -, -⟩ := cmp_v (Or.inl c1)
  have FEQUAL : Fld s s.heap vEQUAL "java/lang/Enum" "ordinal" "I" (.int (0 : Int32)) := Fld.start (by rw [← fld_at evEQUAL]; exact own_inteq c1 mEQUAL)
  obtain ⟨vNOT_EQUAL, evNOT_EQUAL⟩ := exa_v c2
  have SNOT_EQUAL : Sta s s.heap "com/example/exact_table/exacttable/Condition$Comparator" "NOT_EQUAL" "Lcom/example/exact_table/exacttable/Condition$Comparator;" (.ref vNOT_EQUAL) := Sta.start evNOT_EQUAL (Or.inr ⟨(hw _ (List.mem_of_getElem? (i := 6) rfl)), (hw _ (List.mem_of_getElem? (i := 29) rfl))⟩)
  have ENOT_EQUAL : Exa s s.heap vNOT_EQUAL "com/example/exact_table/exacttable/Condition$Comparator" := Exa.start evNOT_EQUAL c2
  obtain ⟨fNOT_EQUAL, gNOT_EQUAL, mNOT_EQUAL, oNOT_EQUAL, -, -⟩ := cmp_v (Or.inl c3)
  have FNOT_EQUAL : Fld s s.heap vNOT_EQUAL "java/lang/Enum" "ordinal" "I" (.int (1 : Int32)) := Fld.start (by rw [← fld_at evNOT_EQUAL]; exact own_inteq c3 mNOT_EQUAL)
  obtain ⟨vLESS, evLESS⟩ := exa_v c4
  have SLESS : Sta s s.heap "com/example/exact_table/exacttable/Condition$Comparator" "LESS" "Lcom/example/exact_table/exacttable/Condition$Comparator;" (.ref vLESS) := Sta.start evLESS (Or.inr ⟨(hw _ (List.mem_of_getElem? (i := 6) rfl)), (hw _ (List.mem_of_getElem? (i := 31) rfl))⟩)
  have ELESS : Exa s s.heap vLESS "com/example/exact_table/exacttable/Condition$Comparator" := Exa.start evLESS c4
  obtain ⟨fLESS, gLESS, mLESS, oLESS, -, -⟩ := cmp_v (Or.inl c5)
  have FLESS : Fld s s.heap vLESS "java/lang/Enum" "ordinal" "I" (.int (2 : Int32)) := Fld.start (by rw [← fld_at evLESS]; exact own_inteq c5 mLESS)
  obtain ⟨vGREATER, evGREATER⟩ := exa_v c6
  have SGREATER : Sta s s.heap "com/example/exact_table/exacttable/Condition$Comparator" "GREATER" "Lcom/example/exact_table/exacttable/Condition$Comparator;" (.ref vGREATER) := Sta.start evGREATER (Or.inr ⟨(hw _ (List.mem_of_getElem? (i := 6) rfl)), (hw _ (List.mem_of_getElem? (i := 33) rfl))⟩)
  have EGREATER : Exa s s.heap vGREATER "com/example/exact_table/exacttable/Condition$Comparator" := Exa.start evGREATER c6
  obtain ⟨fGREATER, gGREATER, mGREATER, oGREATER, -, -⟩ := cmp_v (Or.inl c7)
  have FGREATER : Fld s s.heap vGREATER "java/lang/Enum" "ordinal" "I" (.int (4 : Int32)) := Fld.start (by rw [← fld_at evGREATER]; exact own_inteq c7 mGREATER)
  obtain ⟨vLESS_OR_EQUAL, evLESS_OR_EQUAL⟩ := exa_v c8
  have SLESS_OR_EQUAL : Sta s s.heap "com/example/exact_table/exacttable/Condition$Comparator" "LESS_OR_EQUAL" "Lcom/example/exact_table/exacttable/Condition$Comparator;" (.ref vLESS_OR_EQUAL) := Sta.start evLESS_OR_EQUAL (Or.inr ⟨(hw _ (List.mem_of_getElem? (i := 6) rfl)), (hw _ (List.mem_of_getElem? (i := 35) rfl))⟩)
  have ELESS_OR_EQUAL : Exa s s.heap vLESS_OR_EQUAL "com/example/exact_table/exacttable/Condition$Comparator" := Exa.start evLESS_OR_EQUAL c8
  obtain ⟨fLESS_OR_EQUAL, gLESS_OR_EQUAL, mLESS_OR_EQUAL, oLESS_OR_EQUAL, -, -⟩ := cmp_v (Or.inl c9)
  have FLESS_OR_EQUAL : Fld s s.heap vLESS_OR_EQUAL "java/lang/Enum" "ordinal" "I" (.int (3 : Int32)) := Fld.start (by rw [← fld_at evLESS_OR_EQUAL]; exact own_inteq c9 mLESS_OR_EQUAL)
  obtain ⟨vGREATER_OR_EQUAL, evGREATER_OR_EQUAL⟩ := exa_v c10
  have SGREATER_OR_EQUAL : Sta s s.heap "com/example/exact_table/exacttable/Condition$Comparator" "GREATER_OR_EQUAL" "Lcom/example/exact_table/exacttable/Condition$Comparator;" (.ref vGREATER_OR_EQUAL) := Sta.start evGREATER_OR_EQUAL (Or.inr ⟨(hw _ (List.mem_of_getElem? (i := 6) rfl)), (hw _ (List.mem_of_getElem? (i := 39) rfl))⟩)
  have EGREATER_OR_EQUAL : Exa s s.heap vGREATER_OR_EQUAL "com/example/exact_table/exacttable/Condition$Comparator" := Exa.start evGREATER_OR_EQUAL c10
  obtain ⟨fGREATER_OR_EQUAL, gGREATER_OR_EQUAL, mGREATER_OR_EQUAL, oGREATER_OR_EQUAL, -, -⟩ := cmp_v (Or.inl d10)
  have FGREATER_OR_EQUAL : Fld s s.heap vGREATER_OR_EQUAL "java/lang/Enum" "ordinal" "I" (.int (5 : Int32)) := Fld.start (by rw [← fld_at evGREATER_OR_EQUAL]; exact own_inteq d10 mGREATER_OR_EQUAL)
  obtain ⟨n, o, h1, h2, h3, _, L, rfl, ⟨rfl, N⟩, hq⟩ := rm0 l s _ hw tables_1 i0 i1 i2 vEQUAL vNOT_EQUAL vLESS vLESS_OR_EQUAL vGREATER vGREATER_OR_EQUAL s.heap s.heap.size (Nat.le_refl _) SEQUAL SNOT_EQUAL SLESS SLESS_OR_EQUAL SGREATER SGREATER_OR_EQUAL (Fld.ne FEQUAL FNOT_EQUAL (by simp)) (Fld.ne FEQUAL FLESS (by simp)) (Fld.ne FEQUAL FLESS_OR_EQUAL (by simp)) (Fld.ne FEQUAL FGREATER (by simp)) (Fld.ne FEQUAL FGREATER_OR_EQUAL (by simp)) (Fld.ne FNOT_EQUAL FLESS (by simp)) (Fld.ne FNOT_EQUAL FLESS_OR_EQUAL (by simp)) (Fld.ne FNOT_EQUAL FGREATER (by simp)) (Fld.ne FNOT_EQUAL FGREATER_OR_EQUAL (by simp)) (Fld.ne FLESS FLESS_OR_EQUAL (by simp)) (Fld.ne FLESS FGREATER (by simp)) (Fld.ne FLESS FGREATER_OR_EQUAL (by simp)) (Fld.ne FLESS_OR_EQUAL FGREATER (by simp)) (Fld.ne FLESS_OR_EQUAL FGREATER_OR_EQUAL (by simp)) (Fld.ne FGREATER FGREATER_OR_EQUAL (by simp)) FEQUAL FNOT_EQUAL FLESS FLESS_OR_EQUAL FGREATER FGREATER_OR_EQUAL EEQUAL ENOT_EQUAL ELESS ELESS_OR_EQUAL EGREATER EGREATER_OR_EQUAL p e ha hc hk s m _ below hf ((Spec.applies_iff_loose hf).mp happ).1 ⟨rfl, State.Warmed39.refl s, rfl⟩ trivial
  refine ⟨n, _, h1, h2, h3, hpost _ _ _ _ _ _ ⟨Cond.after_iff.mpr rfl, Cond.after_iff.mpr (eq_i res_at (Term.int_eval (1)) rfl), trivial⟩ ⟨hq.1, hq.2.1, (hq.2.2.sift fun y hy => Or.inr (N y hy)).mono (by decide) (by decide)⟩⟩
theorem main_1_1 : Claimed_1_1 := comes_1 fun _ _ _ _ _ _ h hF => ⟨h.1, hF⟩
theorem main_1_2 : Claimed_1_2 := comes_1 fun _ _ _ _ _ _ h hF => ⟨h.2.1, hF⟩
end Jvm.Pilot.@@N@@
namespace Jvm.Pilot.@@N@@
open Jvm Jvm.ClassFile Sem Op Lib Jvm.Free Jvm.Stand Jvm.Pilot.@@N@@.Jvm.D
/-! MADE BY PROGRAM (witnessworld.py) out of the Statement's table words and the real class files: 12 classes; the members and pool entries that the words name. The judged class is class 1, her method 4. -/
namespace start1
open Jvm.ClassFile
def u (s : String) : CpInfo := .utf8 (stringToUtf16 s)
/-- a pool by its gaps: so many unusable entries, then the entry; so many at the end -/
def gap : Nat → List CpInfo → List CpInfo
  | 0, r => r
  | n + 1, r => .unusable :: gap n r
def poolList (es : List (Nat × CpInfo)) (last : Nat) : List CpInfo := es.foldr (fun e r => gap e.1 (e.2 :: r)) (gap last [])
def pool (es : List (Nat × CpInfo)) (last : Nat) : Array CpInfo := ⟨poolList es last⟩
def fileOf (pool : Array CpInfo) (this : Nat) (attrs : Array Attribute := #[]) (ms : Array MethodInfo := #[]) (fl : Nat := 33) (sup : Nat := 0) (ifs : Array Nat := #[]) (fds : Array FieldInfo := #[]) : ClassFile where
  minorVersion := 0
  majorVersion := 65
  constantPool := pool
  accessFlags := fl
  thisClass := this
  superClass := sup
  interfaces := ifs
  fields := fds
  methods := ms
  attributes := attrs
def plain (name : String) (sup : Option ClassId) : Class where
  name := name
  kind := .ordinary
  loader := none
  accessFlags := 33
  super := sup
  interfaces := #[]
  cf := none
  fields := #[]
  methods := #[]
  instanceTypes := #[]
  staticTypes := #[]
  resolved := #[]
  callSites := []
  init := .initialized
  statics := none
  mirror := none

def pool0 : Array CpInfo := pool [(5, u "<init>"), (0, u "()V"), (1, .class_ 10), (1, u "java/lang/Object")] 113

def k0m0 : Method := { name := "<init>", desc := "()V", sig := { parameters := [], returnType := none }, accessFlags := 1, code := none }
/-- java/lang/Object -/
def k0 : Class := { plain "java/lang/Object" none with
  accessFlags := 33
  interfaces := #[]
  cf := some (fileOf pool0 8 #[] #[{ accessFlags := 1, nameIndex := 5, descriptorIndex := 6, attributes := #[] }] 33 0 #[] #[])
  fields := #[]
  methods := #[k0m0]
  instanceTypes := #[]
  staticTypes := #[]
  resolved := Array.replicate 124 none
  statics := none }

def pool1 : Array CpInfo := pool [(2, .class_ 4), (1, u "java/lang/Object"), (0, u "<init>"), (0, u "()V"), (0, .integer 2147483647), (0, .fieldref 9 10), (0, .class_ 11), (0, .nameAndType 12 13), (0, u "com/example/exact_table/exacttable/Condition$Comparator"), (0, u "EQUAL"), (0, u "Lcom/example/exact_table/exacttable/Condition$Comparator;"), (0, .fieldref 9 15), (0, .nameAndType 16 13), (0, u "NOT_EQUAL"), (0, .fieldref 9 18), (0, .nameAndType 19 13), (0, u "LESS"), (0, .fieldref 9 21), (0, .nameAndType 22 13), (0, u "LESS_OR_EQUAL"), (0, .fieldref 9 24), (0, .nameAndType 25 13), (0, u "GREATER"), (0, .fieldref 9 27), (0, .nameAndType 28 13), (0, u "GREATER_OR_EQUAL"), (0, .methodref 30 31), (0, .class_ 32), (0, .nameAndType 33 34), (0, u "com/example/exact_table/exacttable/ComparatorFlippedPinLaw"), (0, u "pick"), (0, u "(I)Lcom/example/exact_table/exacttable/Condition$Comparator;"), (0, .methodref 9 36), (0, .nameAndType 37 38), (0, u "flipped"), (0, u "()Lcom/example/exact_table/exacttable/Condition$Comparator;"), (0, .methodref 30 40), (0, .nameAndType 41 42), (0, u "holds"), (0, u "(Lcom/example/exact_table/exacttable/Condition$Comparator;I)Z"), (0, .methodref 30 44), (0, .nameAndType 45 46), (0, u "sign"), (0, u "(II)I"), (3, u "law"), (0, u "(III)Z")] 6

def k1m0 : Method := { name := "<init>", desc := "()V", sig := { parameters := [], returnType := none }, accessFlags := 1, code := none }
def k1c1 : Code := { maxStack := 2, maxLocals := 2, code := method_2_code, exceptionTable := #[], attributes := #[] }
def k1m1 : Method := { name := "pick", desc := "(I)Lcom/example/exact_table/exacttable/Condition$Comparator;", sig := { parameters := [.int], returnType := some (.object "com/example/exact_table/exacttable/Condition$Comparator") }, accessFlags := 10, code := some k1c1 }
def k1c2 : Code := { maxStack := 2, maxLocals := 2, code := method_3_code, exceptionTable := #[], attributes := #[] }
def k1m2 : Method := { name := "holds", desc := "(Lcom/example/exact_table/exacttable/Condition$Comparator;I)Z", sig := { parameters := [(.object "com/example/exact_table/exacttable/Condition$Comparator"), .int], returnType := some .boolean }, accessFlags := 10, code := some k1c2 }
def k1c3 : Code := { maxStack := 2, maxLocals := 2, code := method_4_code, exceptionTable := #[], attributes := #[] }
def k1m3 : Method := { name := "sign", desc := "(II)I", sig := { parameters := [.int, .int], returnType := some .int }, accessFlags := 10, code := some k1c3 }
def k1c4 : Code := { maxStack := 4, maxLocals := 6, code := code, exceptionTable := #[], attributes := #[] }
def k1m4 : Method := { name := "law", desc := "(III)Z", sig := { parameters := [.int, .int, .int], returnType := some .boolean }, accessFlags := 9, code := some k1c4 }
/-- com/example/exact_table/exacttable/ComparatorFlippedPinLaw -/
def k1 : Class := { plain "com/example/exact_table/exacttable/ComparatorFlippedPinLaw" (some 0) with
  accessFlags := 49
  interfaces := #[]
  cf := some (fileOf pool1 30 #[] #[{ accessFlags := 1, nameIndex := 5, descriptorIndex := 6, attributes := #[] }, { accessFlags := 10, nameIndex := 33, descriptorIndex := 34, attributes := #[] }, { accessFlags := 10, nameIndex := 41, descriptorIndex := 42, attributes := #[] }, { accessFlags := 10, nameIndex := 45, descriptorIndex := 46, attributes := #[] }, { accessFlags := 9, nameIndex := 50, descriptorIndex := 51, attributes := #[] }] 49 2 #[] #[])
  fields := #[]
  methods := #[k1m0, k1m1, k1m2, k1m3, k1m4]
  instanceTypes := #[]
  staticTypes := #[]
  resolved := Array.replicate 58 none
  statics := none }

def pool2 : Array CpInfo := pool [(1, .class_ 2), (0, u "java/lang/constant/Constable"), (0, .class_ 4), (0, u "java/lang/Object")] 6

/-- java/lang/constant/Constable -/
def k2 : Class := { plain "java/lang/constant/Constable" (some 0) with
  accessFlags := 1537
  interfaces := #[]
  cf := some (fileOf pool2 1 #[] #[] 1537 3 #[] #[])
  fields := #[]
  methods := #[]
  instanceTypes := #[]
  staticTypes := #[]
  resolved := Array.replicate 11 none
  statics := none }

def pool3 : Array CpInfo := pool [(1, .class_ 2), (0, u "java/lang/Comparable"), (0, .class_ 4), (0, u "java/lang/Object")] 7

/-- java/lang/Comparable -/
def k3 : Class := { plain "java/lang/Comparable" (some 0) with
  accessFlags := 1537
  interfaces := #[]
  cf := some (fileOf pool3 1 #[] #[] 1537 3 #[] #[])
  fields := #[]
  methods := #[]
  instanceTypes := #[]
  staticTypes := #[]
  resolved := Array.replicate 12 none
  statics := none }

def pool4 : Array CpInfo := pool [(1, .class_ 2), (0, u "java/io/Serializable"), (0, .class_ 4), (0, u "java/lang/Object")] 2

/-- java/io/Serializable -/
def k4 : Class := { plain "java/io/Serializable" (some 0) with
  accessFlags := 1537
  interfaces := #[]
  cf := some (fileOf pool4 1 #[] #[] 1537 3 #[] #[])
  fields := #[]
  methods := #[]
  instanceTypes := #[]
  staticTypes := #[]
  resolved := Array.replicate 7 none
  statics := none }

def pool5 : Array CpInfo := pool [(2, .class_ 4), (1, u "java/lang/Enum"), (0, u "name"), (0, u "Ljava/lang/String;"), (0, .fieldref 2 8), (0, .nameAndType 9 10), (0, u "ordinal"), (0, u "I"), (1, .class_ 14), (1, u "java/lang/Object"), (4, u "hash"), (86, .class_ 108), (1, u "java/lang/Enum$EnumDesc"), (2, .class_ 112), (0, u "java/lang/constant/Constable"), (0, .class_ 114), (0, u "java/lang/Comparable"), (0, .class_ 116), (0, u "java/io/Serializable"), (9, u "()I")] 77

def k5c0 : Code := { maxStack := 1, maxLocals := 1, code := jdk_37_method_2_code, exceptionTable := #[], attributes := #[] }
def k5m0 : Method := { name := "ordinal", desc := "()I", sig := { parameters := [], returnType := some .int }, accessFlags := 17, code := some k5c0 }
/-- java/lang/Enum -/
def k5 : Class := { plain "java/lang/Enum" (some 0) with
  accessFlags := 1057
  interfaces := #[2, 3, 4]
  cf := some (fileOf pool5 2 #[.nestMembers #[106]] #[{ accessFlags := 17, nameIndex := 9, descriptorIndex := 126, attributes := #[] }] 1057 12 #[111, 113, 115] #[{ accessFlags := 18, nameIndex := 5, descriptorIndex := 6, attributes := #[] }, { accessFlags := 18, nameIndex := 9, descriptorIndex := 10, attributes := #[] }, { accessFlags := 2, nameIndex := 19, descriptorIndex := 10, attributes := #[] }])
  fields := #[{ name := "name", type := (.object "java/lang/String"), accessFlags := 18, slot := 0, constantValue := 0 }, { name := "ordinal", type := .int, accessFlags := 18, slot := 1, constantValue := 0 }, { name := "hash", type := .int, accessFlags := 2, slot := 2, constantValue := 0 }]
  methods := #[k5m0]
  instanceTypes := #[(.object "java/lang/String"), .int, .int]
  staticTypes := #[]
  resolved := Array.replicate 204 none
  statics := none }

def pool6 : Array CpInfo := pool [(1, .class_ 2), (0, u "com/example/exact_table/exacttable/Condition$Comparator"), (2, u "EQUAL"), (0, u "Lcom/example/exact_table/exacttable/Condition$Comparator;"), (2, u "NOT_EQUAL"), (0, .fieldref 1 11), (0, .nameAndType 12 6), (0, u "LESS"), (0, .fieldref 1 14), (0, .nameAndType 15 6), (0, u "LESS_OR_EQUAL"), (0, .fieldref 1 17), (0, .nameAndType 18 6), (0, u "GREATER"), (0, .fieldref 1 20), (0, .nameAndType 21 6), (0, u "GREATER_OR_EQUAL"), (2, u "$VALUES"), (0, u "[Lcom/example/exact_table/exacttable/Condition$Comparator;"), (6, .class_ 34), (1, u "java/lang/Enum"), (8, u "symbol"), (0, u "Ljava/lang/String;"), (30, .methodref 1 76), (0, .nameAndType 77 78), (0, u "ordinal"), (0, u "()I"), (38, u "flipped"), (0, u "()Lcom/example/exact_table/exacttable/Condition$Comparator;"), (9, .class_ 129), (0, u "com/example/exact_table/exacttable/Condition")] 21

def k6c0 : Code := { maxStack := 1, maxLocals := 1, code := prog_20_method_6_code, exceptionTable := #[], attributes := #[] }
def k6m0 : Method := { name := "flipped", desc := "()Lcom/example/exact_table/exacttable/Condition$Comparator;", sig := { parameters := [], returnType := some (.object "com/example/exact_table/exacttable/Condition$Comparator") }, accessFlags := 0, code := some k6c0 }
/-- com/example/exact_table/exacttable/Condition$Comparator -/
def k6 : Class := { plain "com/example/exact_table/exacttable/Condition$Comparator" (some 5) with
  accessFlags := 16433
  interfaces := #[]
  cf := some (fileOf pool6 1 #[.nestHost 128] #[{ accessFlags := 0, nameIndex := 117, descriptorIndex := 118, attributes := #[] }] 16433 32 #[] #[{ accessFlags := 16409, nameIndex := 5, descriptorIndex := 6, attributes := #[] }, { accessFlags := 16409, nameIndex := 9, descriptorIndex := 6, attributes := #[] }, { accessFlags := 16409, nameIndex := 12, descriptorIndex := 6, attributes := #[] }, { accessFlags := 16409, nameIndex := 15, descriptorIndex := 6, attributes := #[] }, { accessFlags := 16409, nameIndex := 18, descriptorIndex := 6, attributes := #[] }, { accessFlags := 16409, nameIndex := 21, descriptorIndex := 6, attributes := #[] }, { accessFlags := 18, nameIndex := 43, descriptorIndex := 44, attributes := #[] }, { accessFlags := 4122, nameIndex := 24, descriptorIndex := 25, attributes := #[] }])
  fields := #[{ name := "EQUAL", type := (.object "com/example/exact_table/exacttable/Condition$Comparator"), accessFlags := 16409, slot := 0, constantValue := 0 }, { name := "NOT_EQUAL", type := (.object "com/example/exact_table/exacttable/Condition$Comparator"), accessFlags := 16409, slot := 1, constantValue := 0 }, { name := "LESS", type := (.object "com/example/exact_table/exacttable/Condition$Comparator"), accessFlags := 16409, slot := 2, constantValue := 0 }, { name := "LESS_OR_EQUAL", type := (.object "com/example/exact_table/exacttable/Condition$Comparator"), accessFlags := 16409, slot := 3, constantValue := 0 }, { name := "GREATER", type := (.object "com/example/exact_table/exacttable/Condition$Comparator"), accessFlags := 16409, slot := 4, constantValue := 0 }, { name := "GREATER_OR_EQUAL", type := (.object "com/example/exact_table/exacttable/Condition$Comparator"), accessFlags := 16409, slot := 5, constantValue := 0 }, { name := "symbol", type := (.object "java/lang/String"), accessFlags := 18, slot := 3, constantValue := 0 }, { name := "$VALUES", type := (.array (.object "com/example/exact_table/exacttable/Condition$Comparator")), accessFlags := 4122, slot := 6, constantValue := 0 }]
  methods := #[k6m0]
  instanceTypes := #[(.object "java/lang/String"), .int, .int, (.object "java/lang/String")]
  staticTypes := #[(.object "com/example/exact_table/exacttable/Condition$Comparator"), (.object "com/example/exact_table/exacttable/Condition$Comparator"), (.object "com/example/exact_table/exacttable/Condition$Comparator"), (.object "com/example/exact_table/exacttable/Condition$Comparator"), (.object "com/example/exact_table/exacttable/Condition$Comparator"), (.object "com/example/exact_table/exacttable/Condition$Comparator"), (.array (.object "com/example/exact_table/exacttable/Condition$Comparator"))]
  resolved := Array.replicate 151 none
  statics := some 0 }

def pool7 : Array CpInfo := pool [(1, u "java/lang/Cloneable"), (0, .class_ 1), (0, u "java/lang/Object"), (0, .class_ 3)] 3

/-- java/lang/Cloneable -/
def k7 : Class := { plain "java/lang/Cloneable" (some 0) with
  accessFlags := 1537
  interfaces := #[]
  cf := some (fileOf pool7 2 #[] #[] 1537 4 #[] #[])
  fields := #[]
  methods := #[]
  instanceTypes := #[]
  staticTypes := #[]
  resolved := Array.replicate 8 none
  statics := none }

/-- the primitive byte -/
def k8 : Class := { plain "byte" none with kind := .primitive 'B', accessFlags := 0x411 }
/-- [B -/
def k9 : Class := { plain "[B" (some 0) with kind := .array 8 .byte, interfaces := #[7, 4], accessFlags := 1041 }

/-- the primitive int -/
def k10 : Class := { plain "int" none with kind := .primitive 'I', accessFlags := 0x411 }
/-- [I -/
def k11 : Class := { plain "[I" (some 0) with kind := .array 10 .int, interfaces := #[7, 4], accessFlags := 1041 }

def heap : Heap := #[{ cls := 6, slots := #[.ref 1, .ref 2, .ref 3, .ref 4, .ref 5, .ref 6, .null], vm := .statics 6 },
  { cls := 6, slots := #[.null, .int 0, .int 0, .null], vm := .none },
  { cls := 6, slots := #[.null, .int 1, .int 0, .null], vm := .none },
  { cls := 6, slots := #[.null, .int 2, .int 0, .null], vm := .none },
  { cls := 6, slots := #[.null, .int 3, .int 0, .null], vm := .none },
  { cls := 6, slots := #[.null, .int 4, .int 0, .null], vm := .none },
  { cls := 6, slots := #[.null, .int 5, .int 0, .null], vm := .none }]
def classes : Array Class := #[k0, k1, k2, k3, k4, k5, k6, k7, k8, k9, k10, k11]
def interned : List (Array UInt16 × Addr) := []
def slotsUsed : Nat := 31
def theMethod : MethodId := ⟨1, 4⟩
def args0 : Array Value := #[.int 2, .int 3, .int 4]
def aboutOver (below : List Frame) : State where
  vm := { classes := classes, interned := interned.toArray }
  heap := heap
  slotsUsed := slotsUsed
  threads := #[{ frames := .invoking theMethod args0 :: below }]
def below0 : List Frame := [.native { method := ⟨0, 0⟩, args := #[] }]
def about1 : State := aboutOver below0
def p0 : Program := .bare "" "" ""
def e0 : Env := launch0.env 0 0 0
theorem w_frames : about1.frames = Frame.invoking theMethod args0 :: below0 := rfl
set_option maxRecDepth 65536 in
theorem w_args : argsFit about1.vm theMethod args0 = true := by decide +kernel
set_option maxRecDepth 65536 in
theorem w_heap : heapFits about1 = true := by decide +kernel
set_option maxRecDepth 65536 in
theorem w_runnable : about1.curStatus? = some .runnable := by decide +kernel
set_option maxRecDepth 65536 in
theorem w_alone : about1.alone = true := by decide +kernel
set_option maxRecDepth 65536 in
theorem w_named : about1.methodNamed? x = some theMethod := by decide +kernel
set_option maxRecDepth 65536 in
theorem w_hears : about1.hears theMethod below0 = true := by decide +kernel
set_option maxRecDepth 65536 in
theorem w_ripe : about1.ripe theMethod args0 below0 = true := by decide +kernel
theorem w_running : about1.status = .running := rfl
set_option maxRecDepth 65536 in
theorem w_room : about1.hasRoom e0.platform room_1 = true :=
  launch0.hasRoom_least _ room_1 (by decide +kernel) (by decide +kernel) (by decide +kernel) (by decide +kernel) (by decide +kernel) (by decide +kernel)
theorem allAtoms_all (ts : List Jvm.Cond) (a : Array Jvm.Value) (st : Jvm.State) : (allAtoms ts).before a st = ts.all (fun c => c.before a st) := by
  induction ts with
  | nil => rfl
  | cons c t ih =>
    show (Jvm.Cond.and c (allAtoms t)).before a st = _
    rw [Jvm.Cond.before_and, ih, List.all_cons]
def words1 : List Jvm.Cond := Jvm.Cond.code x code maxLocals ret :: tables_1
/-- a 'code' word, met by the world's own term for the bytes: nothing is compared byte by byte -/
theorem code_word {y : MethodName} {bytes : ByteArray} {mx : Nat} {rt : Option FieldType} {a : Array Value} {s : State} {m : MethodId} {meth : Method} {c : Code} (h1 : s.methodNamed? y = some m) (h2 : s.vm.method? m = some meth) (h3 : meth.code = some c) (h4 : c.code = bytes)
    (h5 : (c.maxLocals == mx && c.exceptionTable.isEmpty && decide (c.maxStack ≤ mostOperands) && decide (meth.sig.returnType = rt) && !meth.locks && decide (parseMethodDescriptor y.desc = some meth.sig)) = true) : (Jvm.Cond.code y bytes mx rt).before a s = true := by
  simp only [Bool.and_eq_true, beq_iff_eq, Bool.not_eq_true', decide_eq_true_eq] at h5
  obtain ⟨⟨⟨⟨⟨g1, g2⟩, g3⟩, g4⟩, g5⟩, g6⟩ := h5
  simp [Cond.before, Cond.holds, Cond.value, h1, h2, h3, h4, g1, g2, g3, g4, g5, g6]
def isCode : Jvm.Cond → Bool
  | .code _ _ _ _ => true
  | _ => false
theorem all_split {L : List Jvm.Cond} {P : Jvm.Cond → Bool} (h1 : L.all (fun c => isCode c || P c) = true) (h2 : ∀ c ∈ L.filter isCode, P c = true) : L.all P = true := by
  refine List.all_eq_true.mpr fun c hc => ?_
  have h := List.all_eq_true.mp h1 c hc
  rcases Bool.eq_false_or_eq_true (isCode c) with hi | hi
  · exact h2 c (List.mem_filter.mpr ⟨hc, hi⟩)
  · simpa [hi] using h
set_option maxRecDepth 65536 in
theorem w_c0 : (Jvm.Cond.code x code maxLocals ret).before args0 about1 = true := code_word (m := ⟨1, 4⟩) (meth := k1m4) (c := k1c4) (by decide +kernel) rfl rfl rfl (by decide +kernel)
set_option maxRecDepth 65536 in
theorem w_c1 : (Jvm.Cond.code ({ cls := "com/example/exact_table/exacttable/ComparatorFlippedPinLaw", name := "pick", desc := "(I)Lcom/example/exact_table/exacttable/Condition$Comparator;" } : Jvm.MethodName) method_2_code (2 : Nat) (Option.some (Jvm.ClassFile.FieldType.object "com/example/exact_table/exacttable/Condition$Comparator"))).before args0 about1 = true := code_word (m := ⟨1, 1⟩) (meth := k1m1) (c := k1c1) (by decide +kernel) rfl rfl rfl (by decide +kernel)
set_option maxRecDepth 65536 in
theorem w_c2 : (Jvm.Cond.code ({ cls := "com/example/exact_table/exacttable/Condition$Comparator", name := "flipped", desc := "()Lcom/example/exact_table/exacttable/Condition$Comparator;" } : Jvm.MethodName) prog_20_method_6_code (1 : Nat) (Option.some (Jvm.ClassFile.FieldType.object "com/example/exact_table/exacttable/Condition$Comparator"))).before args0 about1 = true := code_word (m := ⟨6, 0⟩) (meth := k6m0) (c := k6c0) (by decide +kernel) rfl rfl rfl (by decide +kernel)
set_option maxRecDepth 65536 in
theorem w_c3 : (Jvm.Cond.code ({ cls := "java/lang/Enum", name := "ordinal", desc := "()I" } : Jvm.MethodName) jdk_37_method_2_code (1 : Nat) (Option.some Jvm.ClassFile.FieldType.int)).before args0 about1 = true := code_word (m := ⟨5, 0⟩) (meth := k5m0) (c := k5c0) (by decide +kernel) rfl rfl rfl (by decide +kernel)
set_option maxRecDepth 65536 in
theorem w_c4 : (Jvm.Cond.code ({ cls := "com/example/exact_table/exacttable/ComparatorFlippedPinLaw", name := "holds", desc := "(Lcom/example/exact_table/exacttable/Condition$Comparator;I)Z" } : Jvm.MethodName) method_3_code (2 : Nat) (Option.some Jvm.ClassFile.FieldType.boolean)).before args0 about1 = true := code_word (m := ⟨1, 2⟩) (meth := k1m2) (c := k1c2) (by decide +kernel) rfl rfl rfl (by decide +kernel)
set_option maxRecDepth 65536 in
theorem w_c5 : (Jvm.Cond.code ({ cls := "com/example/exact_table/exacttable/ComparatorFlippedPinLaw", name := "sign", desc := "(II)I" } : Jvm.MethodName) method_4_code (2 : Nat) (Option.some Jvm.ClassFile.FieldType.int)).before args0 about1 = true := code_word (m := ⟨1, 3⟩) (meth := k1m3) (c := k1c3) (by decide +kernel) rfl rfl rfl (by decide +kernel)
def codes1 : List Jvm.Cond := [Jvm.Cond.code x code maxLocals ret, Jvm.Cond.code ({ cls := "com/example/exact_table/exacttable/ComparatorFlippedPinLaw", name := "pick", desc := "(I)Lcom/example/exact_table/exacttable/Condition$Comparator;" } : Jvm.MethodName) method_2_code (2 : Nat) (Option.some (Jvm.ClassFile.FieldType.object "com/example/exact_table/exacttable/Condition$Comparator")), Jvm.Cond.code ({ cls := "com/example/exact_table/exacttable/Condition$Comparator", name := "flipped", desc := "()Lcom/example/exact_table/exacttable/Condition$Comparator;" } : Jvm.MethodName) prog_20_method_6_code (1 : Nat) (Option.some (Jvm.ClassFile.FieldType.object "com/example/exact_table/exacttable/Condition$Comparator")), Jvm.Cond.code ({ cls := "java/lang/Enum", name := "ordinal", desc := "()I" } : Jvm.MethodName) jdk_37_method_2_code (1 : Nat) (Option.some Jvm.ClassFile.FieldType.int), Jvm.Cond.code ({ cls := "com/example/exact_table/exacttable/ComparatorFlippedPinLaw", name := "holds", desc := "(Lcom/example/exact_table/exacttable/Condition$Comparator;I)Z" } : Jvm.MethodName) method_3_code (2 : Nat) (Option.some Jvm.ClassFile.FieldType.boolean), Jvm.Cond.code ({ cls := "com/example/exact_table/exacttable/ComparatorFlippedPinLaw", name := "sign", desc := "(II)I" } : Jvm.MethodName) method_4_code (2 : Nat) (Option.some Jvm.ClassFile.FieldType.int)]
set_option maxRecDepth 65536 in
theorem codes_eq : words1.filter isCode = codes1 := rfl
theorem w_codes : ∀ c ∈ words1.filter isCode, c.before args0 about1 = true := by
  rw [codes_eq]
  intro c hc
  simp only [codes1, List.mem_cons, List.not_mem_nil, or_false] at hc
  rcases hc with rfl | rfl | rfl | rfl | rfl | rfl
  · exact w_c0
  · exact w_c1
  · exact w_c2
  · exact w_c3
  · exact w_c4
  · exact w_c5
set_option maxRecDepth 65536 in
theorem w_t1 : (words1.take 24).all (fun c => isCode c || c.before args0 about1) = true := by decide +kernel
set_option maxRecDepth 65536 in
theorem w_t2 : (words1.drop 24).all (fun c => isCode c || c.before args0 about1) = true := by decide +kernel
theorem w_tables : (allAtoms (Jvm.Cond.code x code maxLocals ret :: tables_1)).before args0 about1 = true := by
  rw [allAtoms_all]
  show words1.all (fun c => c.before args0 about1) = true
  refine all_split ?_ w_codes
  rw [← List.take_append_drop 24 words1, List.all_append, w_t1, w_t2]
  rfl
set_option maxRecDepth 65536 in
theorem w_case : (Jvm.Cond.and given_1 narrow_1).before args0 about1 = true := by decide +kernel
theorem w_applies : (headSpec (Jvm.Cond.code x code maxLocals ret :: tables_1) room_1).applies x e0.platform about1 = true :=
  (Spec.applies_iff w_frames).mpr ⟨w_running, w_runnable, w_alone, w_named, w_hears, w_ripe, w_room, w_tables⟩
theorem atStart : AtStart classFile x code maxLocals ret World_1 tables_1 room_1 Calls_1 rest_1 Pre_1 launch0 p0 e0 about1 theMethod args0 below0 :=
  ⟨lists_1, trivial, launch0.admits_env _ _ _, launch0.least_env, fairChoices_fair.cas, fairChoices_fair.clock, w_frames, w_args, w_heap, w_applies, trivial, trivial, w_case⟩
end start1
theorem witness_1 : WitnessClaimed_1 := ⟨start1.p0, start1.e0, start1.about1, start1.theMethod, start1.args0, start1.below0, start1.atStart⟩
end Jvm.Pilot.@@N@@
