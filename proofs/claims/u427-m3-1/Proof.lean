import JvmDerived
import JvmDerived.Pilot.@@N@@Statement
import JvmDerived.Pilot.@@N@@Code
set_option linter.unusedVariables false
set_option linter.unusedSimpArgs false
namespace Jvm.RoadKit
open Sem ClassFile Op Lib Jvm.Stand Jvm.Free Jvm.LawKit
section New
variable {p : Program} {l : Launch} {e : Env} {R : Room} {s : State} {m : MethodId} {args : Array Value} {below : List Frame} {meth : Method} {c : Code} {T : State} {locs : List Loc} {cells slots : Nat}
theorem retI (X : Stand p l e R s m args below meth c T locs cells slots) (hx : p.tables.exec = Jvm.exec) {pc : Nat} {Ls : Array Slot} {z : Int32} {rest : List Value} (hret : meth.sig.returnType = some .int) (hd : decode c.code pc = .ok (.ireturn, 1)) {fs : List Frame}
    (hl : ∀ (f : JFrame) (acts : List Action), f.method = m → f.locked = none → f.entered = [] → (doReturn e (T.setTop f) acts (some (.int z))).1 = T.setFrames fs) : Steps p.tables e below (T.setTop (mkF m pc Ls (.int z :: rest))) (T.setFrames fs) := by
  have hm' : T.vm.method? m = some meth := X.method'
  have hn : narrow .int (.int z) = .int z := rfl
  show Steps p.tables e below (T.setTop { method := m, pc := pc, locals := Ls, stack := _ :: rest, locked := none }) _
  jvm_step X.here [X.here.top, hx, hd, hm', hret, hn]
  first | (intro acts; rw [hl _ acts rfl rfl rfl]) | rw [hl _ _ rfl rfl rfl]
  exact Steps.refl _
/-- a run from A that ends in an outcome with P -/
def Gl (tb : Tables) (e : Env) (below : List Frame) (P : Outcome → State → Prop) (A : State) : Prop := ∃ s₂ o, Steps tb e below A s₂ ∧ s₂.status = .running ∧ Ended s₂ below o ∧ P o s₂
theorem Gl.pre {tb : Tables} {e : Env} {below : List Frame} {P : Outcome → State → Prop} {A B : State} (h : ∀ t, Steps tb e below B t → Steps tb e below A t) (g : Gl tb e below P B) : Gl tb e below P A := by
  obtain ⟨s2, o, h1, r⟩ := g; exact ⟨s2, o, h _ h1, r⟩
theorem own_finI (X : Stand p l e R s m args below meth c T locs cells slots) (hx : p.tables.exec = Jvm.exec) (hlk : meth.locks = false) {pc : Nat} {Ls : Array Slot} {z : Int32} {rest : List Value} (hret : meth.sig.returnType = some .int) (hd : decode c.code pc = .ok (.ireturn, 1)) {Q : Option Value → Heap → List Loc → Prop} {C S : Nat}
    (hq : Q (some (.int z)) T.heap locs) (hc : cells ≤ C) (hs : slots ≤ S) : Gl p.tables e below (fun o U' => ∃ v L, o = .returned v ∧ Q v U'.heap L ∧ FrameEnd s o U' L C S) (T.setTop (mkF m pc Ls (.int z :: rest))) := by
  obtain ⟨fs, hr, hrun, hended, hW, hsame⟩ := X.leave (v := some (.int z)) (fun h => by rw [hret] at h; cases h) hlk
  exact ⟨_, _, retI X hx hret hd hr, hrun, hended, _, _, rfl, hq, ⟨_, rfl⟩, hW, hsame.mono hc hs⟩
theorem own_finN (X : Stand p l e R s m args below meth c T locs cells slots) (hx : p.tables.exec = Jvm.exec) (hlk : meth.locks = false) {pc : Nat} {Ls : Array Slot} {z z' : Int32} {rest : List Value} {t : FieldType} (hret : meth.sig.returnType = some t) (ht : t = .boolean ∨ t = .byte ∨ t = .char ∨ t = .short) (hz : nar t z = z') (hd : decode c.code pc = .ok (.ireturn, 1)) {Q : Option Value → Heap → List Loc → Prop} {C S : Nat}
    (hq : Q (some (.int z')) T.heap locs) (hc : cells ≤ C) (hs : slots ≤ S) : Gl p.tables e below (fun o U' => ∃ v L, o = .returned v ∧ Q v U'.heap L ∧ FrameEnd s o U' L C S) (T.setTop (mkF m pc Ls (.int z :: rest))) := by
  subst hz
  obtain ⟨fs, hr, hrun, hended, hW, hsame⟩ := X.leave (v := some (.int (nar t z))) (fun h => by rw [hret] at h; cases h) hlk
  exact ⟨_, _, retN X hx hret ht hd hr, hrun, hended, _, _, rfl, hq, ⟨_, rfl⟩, hW, hsame.mono hc hs⟩
theorem own_finV (X : Stand p l e R s m args below meth c T locs cells slots) (hx : p.tables.exec = Jvm.exec) (hlk : meth.locks = false) {pc : Nat} {Ls : Array Slot} (hret : meth.sig.returnType = none) (hd : decode c.code pc = .ok (.return_, 1)) {Q : Option Value → Heap → List Loc → Prop} {C S : Nat}
    (hq : Q none T.heap locs) (hc : cells ≤ C) (hs : slots ≤ S) : Gl p.tables e below (fun o U' => ∃ v L, o = .returned v ∧ Q v U'.heap L ∧ FrameEnd s o U' L C S) (T.setTop (mkF m pc Ls [])) := by
  obtain ⟨fs, hr, hrun, hended, hW, hsame⟩ := X.leave (v := none) (fun _ => rfl) hlk
  exact ⟨_, _, X.returnOut hx hret hd hr, hrun, hended, _, _, rfl, hq, ⟨_, rfl⟩, hW, hsame.mono hc hs⟩
theorem own_finA (X : Stand p l e R s m args below meth c T locs cells slots) (hx : p.tables.exec = Jvm.exec) (hlk : meth.locks = false) {pc : Nat} {Ls : Array Slot} {w : Value} {rest : List Value} {t : FieldType} (hret : meth.sig.returnType = some t) (hw : w.isRef = true) (ht : t.isReference = true) (hd : decode c.code pc = .ok (.areturn, 1)) {Q : Option Value → Heap → List Loc → Prop} {C S : Nat}
    (hq : Q (some w) T.heap locs) (hc : cells ≤ C) (hs : slots ≤ S) : Gl p.tables e below (fun o U' => ∃ v L, o = .returned v ∧ Q v U'.heap L ∧ FrameEnd s o U' L C S) (T.setTop (mkF m pc Ls (w :: rest))) := by
  obtain ⟨fs, hr, hrun, hended, hW, hsame⟩ := X.leave (v := some w) (fun h => by rw [hret] at h; cases h) hlk
  have hn : narrow t w = w := by rcases ref_cases hw with rfl | ⟨z, rfl⟩ <;> cases t <;> rfl
  exact ⟨_, _, retOut X hx hret hn (Or.inr (Or.inr (Or.inr (Or.inr ⟨rfl, ht, hw⟩)))) hd hr, hrun, hended, _, _, rfl, hq, ⟨_, rfl⟩, hW, hsame.mono hc hs⟩
/-- Java's >>> -/
def own_ushr (x y : Int32) : Int32 := (x.toUInt32 >>> (y &&& 31).toUInt32).toInt32
def own_ushrL (x : Int64) (y : Int32) : Int64 := (x.toUInt64 >>> (y &&& 0x3f).toInt64.toUInt64).toInt64
/-- 1 where P holds, else 0 -/
def own_pi (P : Prop) [Decidable P] : Int32 := if P then 1 else 0
theorem own_pi_t {P : Prop} [Decidable P] (h : P) : own_pi P = 1 := if_pos h
theorem own_pi_f {P : Prop} [Decidable P] (h : ¬ P) : own_pi P = 0 := if_neg h
theorem own_pi_nt {P : Prop} [Decidable P] (h : P) : own_pi (¬ P) = 0 := if_neg (fun q => q h)
theorem own_pi_nf {P : Prop} [Decidable P] (h : ¬ P) : own_pi (¬ P) = 1 := if_pos h
theorem own_pi0 {P : Prop} [Decidable P] : own_pi P = 0 ↔ ¬ P := by unfold own_pi; split <;> simp_all
theorem own_pi_eq {P Q : Prop} [Decidable P] [Decidable Q] (h : P ↔ Q) : own_pi P = own_pi Q := by unfold own_pi; simp [h]
theorem own_nar_pi {P : Prop} [i : Decidable P] : nar .boolean (@own_pi P i) = @own_pi P i := by unfold own_pi; split <;> decide
end New
/-- the array at a (of kind ty) holds the ints xs -/
def Bal (Z : State) (h : Heap) (a : Addr) (ty : FieldType) (xs : List Int32) : Prop := ∃ c : Cell, Arr Z h a c ty ∧ c.slots.size = xs.length ∧ ∀ i, i < xs.length → c.slots[i]? = some (.int (xs.getD i 0))
section Arrays
variable {Z : State} {h h' : Heap} {a b : Addr} {ty : FieldType} {xs : List Int32} {ws : List Addr}
theorem Bal.lt (F : Bal Z h a ty xs) : a < h.size := by obtain ⟨c, A, -⟩ := F; exact A.lt
theorem Bal.ext (F : Bal Z h a ty xs) (E : Ext h h') : Bal Z h' a ty xs := by obtain ⟨c, A, r⟩ := F; exact ⟨c, A.ext E, r⟩
theorem Bal.other {sl : Nat} {v : Value} (F : Bal Z h b ty xs) (W : Wr h h' a sl v) (q : b ≠ a) : Bal Z h' b ty xs := by obtain ⟨c, A, r⟩ := F; exact ⟨c, A.other W q, r⟩
theorem Bal.keep (F : Bal Z h a ty xs) (K : Keep h h' ws) (q : a ∉ ws) : Bal Z h' a ty xs := by obtain ⟨c, A, r⟩ := F; exact ⟨c, ⟨K.2.1 a c A.1 q, A.2⟩, r⟩
theorem Bal.new {k : ClassId} {z : Int32} {n : Nat} (A : Arr Z h a (newA k ty z) ty) (hz : z.toNatClampNeg = n) (hd : defaultValue ty = .int 0) : Bal Z h a ty (List.replicate n 0) := by
  subst hz
  refine ⟨_, A, by rw [sz_new, List.length_replicate], fun i hi => ?_⟩
  rw [List.length_replicate] at hi
  simp [newA, hd, hi, List.getD_eq_getElem?_getD]
theorem Bal.set {i : Nat} {v : Int32} (F : Bal Z h a ty xs) (W : Wr h h' a i (.int v)) (hi : i < xs.length) : Bal Z h' a ty (xs.set i v) := by
  obtain ⟨c, A, S, H⟩ := F
  refine ⟨_, A.same W, by rw [sz_set, S, List.length_set], fun k hk => ?_⟩
  rw [List.length_set] at hk
  show (c.slots.setIfInBounds i (.int v))[k]? = _
  rw [Array.getElem?_setIfInBounds, List.getD_eq_getElem?_getD, List.getElem?_set]
  by_cases q : i = k
  · subst q; simp [S, hk]
  · rw [if_neg q, if_neg q, ← List.getD_eq_getElem?_getD]; exact H k hk
theorem Bal.inb {c : Cell} {j : Int32} {i : Nat} (S : c.slots.size = xs.length) (h0 : ¬ j < 0) (hj : j.toNatClampNeg = i) (hi : i < xs.length) : ¬ (j < 0 ∨ c.slots.size ≤ j.toNatClampNeg) := by
  rintro (q | q)
  · exact h0 q
  · omega
variable {p : Program} {l : Launch} {e : Env} {R : Room} {s : State} {m : MethodId} {args : Array Value} {below : List Frame} {meth : Method} {c : Code} {T : State} {locs : List Loc} {cells slots : Nat}
theorem own_stB (X : Stand p l e R s m args below meth c T locs cells slots) (hx : p.tables.exec = Jvm.exec) (hZ : Z.Warmed39 s.vm) (eT : T.heap = h) (F : Bal Z h a .byte xs) {j x : Int32} {i : Nat} (h0 : ¬ j < 0) (hj : j.toNatClampNeg = i) (hi : i < xs.length) {g : JFrame} (hg : g.method = m) {rest : List Value} (hs : g.stack = .int x :: .int j :: .ref a :: rest) (hd : decode c.code g.pc = .ok (.bastore, 1)) :
    ∃ T' h', Stand p l e R s m args below meth c T' (locs ++ [⟨a, i⟩]) cells slots ∧ T'.heap = h' ∧ Wr h h' a i (.int (nar .byte x)) ∧ Bal Z h' a .byte (xs.set i (nar .byte x)) ∧ ∀ target, Steps p.tables e below (T'.setTop { g with pc := g.pc + 1, stack := rest }) target → Steps p.tables e below (T.setTop g) target := by
  have F' := F
  obtain ⟨cl, A, S, H⟩ := F
  obtain ⟨T', h', X', e', W, st⟩ := stB X hx hZ eT A (j := j) (Bal.inb S h0 hj hi) hg hs hd
  subst hj
  exact ⟨T', h', X', e', W, F'.set W hi, st⟩
theorem own_stC (X : Stand p l e R s m args below meth c T locs cells slots) (hx : p.tables.exec = Jvm.exec) (hZ : Z.Warmed39 s.vm) (eT : T.heap = h) (F : Bal Z h a .char xs) {j x : Int32} {i : Nat} (h0 : ¬ j < 0) (hj : j.toNatClampNeg = i) (hi : i < xs.length) {g : JFrame} (hg : g.method = m) {rest : List Value} (hs : g.stack = .int x :: .int j :: .ref a :: rest) (hd : decode c.code g.pc = .ok (.castore, 1)) :
    ∃ T' h', Stand p l e R s m args below meth c T' (locs ++ [⟨a, i⟩]) cells slots ∧ T'.heap = h' ∧ Wr h h' a i (.int (nar .char x)) ∧ Bal Z h' a .char (xs.set i (nar .char x)) ∧ ∀ target, Steps p.tables e below (T'.setTop { g with pc := g.pc + 1, stack := rest }) target → Steps p.tables e below (T.setTop g) target := by
  have F' := F
  obtain ⟨cl, A, S, H⟩ := F
  obtain ⟨T', h', X', e', W, st⟩ := stC X hx hZ eT A (j := j) (Bal.inb S h0 hj hi) hg hs hd
  subst hj
  exact ⟨T', h', X', e', W, F'.set W hi, st⟩
theorem own_ldB (X : Stand p l e R s m args below meth c T locs cells slots) (hx : p.tables.exec = Jvm.exec) (hZ : Z.Warmed39 s.vm) (eT : T.heap = h) (F : Bal Z h a .byte xs) {j : Int32} {i : Nat} (h0 : ¬ j < 0) (hj : j.toNatClampNeg = i) (hi : i < xs.length) {v : Int32} (hv : xs.getD i 0 = v) {g : JFrame} (hg : g.method = m) {rest : List Value} (hs : g.stack = .int j :: .ref a :: rest) (hd : decode c.code g.pc = .ok (.baload, 1)) (target : State)
    (k : Steps p.tables e below (T.setTop { g with pc := g.pc + 1, stack := .int v :: rest }) target) : Steps p.tables e below (T.setTop g) target := by
  obtain ⟨cl, A, S, H⟩ := F
  subst hv
  exact X.baloadBytes hx (j := j) (v := .int (xs.getD i 0)) (by rw [eT]; exact A.1) (State.isArrayOf_alike hZ.alike A.2.1) A.2.2 (Bal.inb S h0 hj hi) (by rw [hj]; exact H i hi) hg hs hd _ k
theorem own_ldC (X : Stand p l e R s m args below meth c T locs cells slots) (hx : p.tables.exec = Jvm.exec) (hZ : Z.Warmed39 s.vm) (eT : T.heap = h) (F : Bal Z h a .char xs) {j : Int32} {i : Nat} (h0 : ¬ j < 0) (hj : j.toNatClampNeg = i) (hi : i < xs.length) {v : Int32} (hv : xs.getD i 0 = v) {g : JFrame} (hg : g.method = m) {rest : List Value} (hs : g.stack = .int j :: .ref a :: rest) (hd : decode c.code g.pc = .ok (.caload, 1)) (target : State)
    (k : Steps p.tables e below (T.setTop { g with pc := g.pc + 1, stack := .int v :: rest }) target) : Steps p.tables e below (T.setTop g) target := by
  obtain ⟨cl, A, S, H⟩ := F
  subst hv
  exact X.caload hx (j := j) (v := .int (xs.getD i 0)) (by rw [eT]; exact A.1) (State.isArrayOf_alike hZ.alike A.2.1) A.2.2 (Bal.inb S h0 hj hi) (by rw [hj]; exact H i hi) hg hs hd _ k
theorem own_len (X : Stand p l e R s m args below meth c T locs cells slots) (hx : p.tables.exec = Jvm.exec) (hZ : Z.Warmed39 s.vm) (eT : T.heap = h) (F : Bal Z h a ty xs) {v : Int32} (hv : xs.length.toInt32 = v) {g : JFrame} (hg : g.method = m) {rest : List Value} (hs : g.stack = .ref a :: rest) (hd : decode c.code g.pc = .ok (.arraylength, 1)) (target : State)
    (k : Steps p.tables e below (T.setTop { g with pc := g.pc + 1, stack := .int v :: rest }) target) : Steps p.tables e below (T.setTop g) target := by
  obtain ⟨cl, A, S, H⟩ := F
  subst hv
  refine X.arraylength hx (by rw [eT]; exact A.1) (State.isArrayOf_alike hZ.alike A.2.1) hg hs hd _ ?_
  rw [S]; exact k
theorem own_balOf {k : ClassId} {z : Int32} (F : Arv Z h a k .byte z (xs.map Value.int) (.int 0)) (hz : z.toNatClampNeg = xs.length) : Bal Z h a .byte xs := by
  obtain ⟨c, A, -, S, -, H, -⟩ := F
  refine ⟨c, A, by rw [S, hz], fun i hi => ?_⟩
  have q := H i (by rw [S, hz]; exact hi)
  rw [q]
  simp [List.getD_eq_getElem?_getD, List.getElem?_map, List.getElem?_eq_getElem hi]
theorem own_arvC (F : Bal Z h a .char xs) (hf : ∀ x ∈ xs, fits .char (.int x) = true) (hl : xs.length < 2 ^ 31) : ∃ k, Arv Z h a k .char (Int32.ofNat xs.length) (xs.map Value.int) (.int 0) := by
  obtain ⟨c, A, S, H⟩ := F
  have hi : (Int32.ofNat xs.length).toInt = xs.length := Int32.toInt_ofNat_of_lt hl
  refine ⟨c.cls, c, A, rfl, ?_, ?_, ?_, ?_⟩
  · rw [S, Int32.toNatClampNeg, hi]; rfl
  · rw [Int32.lt_iff_toInt_lt, hi, show (0 : Int32).toInt = 0 from rfl]; omega
  · intro i hi'
    rw [S] at hi'
    rw [H i hi']
    simp [List.getD_eq_getElem?_getD, List.getElem?_map, List.getElem?_eq_getElem hi']
  · intro i hi'
    rw [S] at hi'
    have : (xs.map Value.int).getD i (.int 0) = .int xs[i] := by simp [List.getD_eq_getElem?_getD, List.getElem?_map, List.getElem?_eq_getElem hi']
    rw [this]; exact hf _ (List.getElem_mem hi')
theorem own_piN {P : Prop} [Decidable P] : (¬ own_pi P = 0) ↔ P := by unfold own_pi; split <;> simp_all
end Arrays
section Wide
variable {p : Program} {l : Launch} {e : Env} {R : Room} {s Z : State} {EL : List (String × Nat)} {vm0 : Vm} {k0 : Nat} {m : MethodId} {args : Array Value} {below : List Frame} {meth : Method} {c : Code} {T : State} {locs : List Loc} {cells slots : Nat}
theorem own_monoW {t : State} {o : Outcome} {L : List Loc} {k n k' n' : Nat} (h : ReturnedEndW s o t L k n) (hk : k ≤ k') (hn : n ≤ n') : ReturnedEndW s o t L k' n' := ⟨h.1, h.2.1, h.2.2.1, h.2.2.2.mono hk hn⟩
theorem own_finIW (X : Stand p l e R (s.setVm vm0) m args below meth c T locs cells slots) (hx : p.tables.exec = Jvm.exec) (hlk : meth.locks = false) (hS : s.Since vm0 k0) (hk : k0 ≤ T.heap.size) {pc : Nat} {Ls : Array Slot} {z : Int32} {rest : List Value} (hret : meth.sig.returnType = some .int) (hd : decode c.code pc = .ok (.ireturn, 1)) {Q : Option Value → Heap → List Loc → Prop} {C S : Nat}
    (hq : Q (some (.int z)) T.heap locs) (hC : CHr Z EL s.vm s.heap T.vm T.heap) (hc : cells ≤ C) (hs : slots ≤ S) : Gl p.tables e below (fun o U' => ∃ v L, o = .returned v ∧ Q v U'.heap L ∧ CHr Z EL s.vm s.heap U'.vm U'.heap ∧ ReturnedEndW s o U' L C S) (T.setTop (mkF m pc Ls (.int z :: rest))) := by
  obtain ⟨fs, hr, hrun, hended, hW⟩ := X.leaveW hS hk (v := some (.int z)) (fun h => by rw [hret] at h; cases h) hlk
  exact ⟨_, _, retI X hx hret hd hr, hrun, hended, _, _, rfl, hq, hC, own_monoW hW hc hs⟩
theorem own_finNW (X : Stand p l e R (s.setVm vm0) m args below meth c T locs cells slots) (hx : p.tables.exec = Jvm.exec) (hlk : meth.locks = false) (hS : s.Since vm0 k0) (hk : k0 ≤ T.heap.size) {pc : Nat} {Ls : Array Slot} {z z' : Int32} {rest : List Value} {t : FieldType} (hret : meth.sig.returnType = some t) (ht : t = .boolean ∨ t = .byte ∨ t = .char ∨ t = .short) (hz : nar t z = z') (hd : decode c.code pc = .ok (.ireturn, 1)) {Q : Option Value → Heap → List Loc → Prop} {C S : Nat}
    (hq : Q (some (.int z')) T.heap locs) (hC : CHr Z EL s.vm s.heap T.vm T.heap) (hc : cells ≤ C) (hs : slots ≤ S) : Gl p.tables e below (fun o U' => ∃ v L, o = .returned v ∧ Q v U'.heap L ∧ CHr Z EL s.vm s.heap U'.vm U'.heap ∧ ReturnedEndW s o U' L C S) (T.setTop (mkF m pc Ls (.int z :: rest))) := by
  subst hz
  obtain ⟨fs, hr, hrun, hended, hW⟩ := X.leaveW hS hk (v := some (.int (nar t z))) (fun h => by rw [hret] at h; cases h) hlk
  exact ⟨_, _, retN X hx hret ht hd hr, hrun, hended, _, _, rfl, hq, hC, own_monoW hW hc hs⟩
theorem own_finVW (X : Stand p l e R (s.setVm vm0) m args below meth c T locs cells slots) (hx : p.tables.exec = Jvm.exec) (hlk : meth.locks = false) (hS : s.Since vm0 k0) (hk : k0 ≤ T.heap.size) {pc : Nat} {Ls : Array Slot} (hret : meth.sig.returnType = none) (hd : decode c.code pc = .ok (.return_, 1)) {Q : Option Value → Heap → List Loc → Prop} {C S : Nat}
    (hq : Q none T.heap locs) (hC : CHr Z EL s.vm s.heap T.vm T.heap) (hc : cells ≤ C) (hs : slots ≤ S) : Gl p.tables e below (fun o U' => ∃ v L, o = .returned v ∧ Q v U'.heap L ∧ CHr Z EL s.vm s.heap U'.vm U'.heap ∧ ReturnedEndW s o U' L C S) (T.setTop (mkF m pc Ls [])) := by
  obtain ⟨fs, hr, hrun, hended, hW⟩ := X.leaveW hS hk (v := none) (fun _ => rfl) hlk
  exact ⟨_, _, X.returnOut hx hret hd hr, hrun, hended, _, _, rfl, hq, hC, own_monoW hW hc hs⟩
theorem own_finAW (X : Stand p l e R (s.setVm vm0) m args below meth c T locs cells slots) (hx : p.tables.exec = Jvm.exec) (hlk : meth.locks = false) (hS : s.Since vm0 k0) (hk : k0 ≤ T.heap.size) {pc : Nat} {Ls : Array Slot} {w : Value} {rest : List Value} {t : FieldType} (hret : meth.sig.returnType = some t) (hw : w.isRef = true) (ht : t.isReference = true) (hd : decode c.code pc = .ok (.areturn, 1)) {Q : Option Value → Heap → List Loc → Prop} {C S : Nat}
    (hq : Q (some w) T.heap locs) (hC : CHr Z EL s.vm s.heap T.vm T.heap) (hc : cells ≤ C) (hs : slots ≤ S) : Gl p.tables e below (fun o U' => ∃ v L, o = .returned v ∧ Q v U'.heap L ∧ CHr Z EL s.vm s.heap U'.vm U'.heap ∧ ReturnedEndW s o U' L C S) (T.setTop (mkF m pc Ls (w :: rest))) := by
  obtain ⟨fs, hr, hrun, hended, hW⟩ := X.leaveW hS hk (v := some w) (fun h => by rw [hret] at h; cases h) hlk
  have hn : narrow t w = w := by rcases ref_cases hw with rfl | ⟨z, rfl⟩ <;> cases t <;> rfl
  exact ⟨_, _, retOut X hx hret hn (Or.inr (Or.inr (Or.inr (Or.inr ⟨rfl, ht, hw⟩)))) hd hr, hrun, hended, _, _, rfl, hq, hC, own_monoW hW hc hs⟩
/-- a callee that keeps the constants' invariant; SL: objects that it may write, none of them a constant's -/
theorem own_backH {a0 : Array Value} {h : Heap} {y : MethodName} {bytes : ByteArray} {maxL : Nat} {ret : Option FieldType} {rm : Room} {len W : Nat} {as' : Array Value} {Q : Option Value → Heap → List Loc → Prop} {SL : List Addr}
    (hM : MetFree l y (head1 [Cond.code y bytes maxL ret] rm) (fun a U => a = as' ∧ Z.Warmed39 U.vm ∧ U.heap = h ∧ CHv Z EL U.vm h ∧ ∀ x ∈ SL, Safe Z EL U.vm h x) (fun _ _ _ _ _ => True) (fun _ U o U' => ∃ v L, o = .returned v ∧ Q v U'.heap L ∧ CHr Z EL U.vm U.heap U'.vm U'.heap ∧ ReturnedEndW U o U' L rm.cells rm.slots))
    (hZ : Z.Warmed39 vm0) (wc : (Cond.code y bytes maxL ret).before a0 Z = true) (wz : (Cond.initialized y.cls).before a0 Z = true) (hf : rm.frames + 1 ≤ R.frames) (hl : W + (maxL + 11) + rm.locals ≤ R.locals) (hEL : EW Z a0 EL) (H : CHv Z EL vm0 h) (hSL : ∀ x ∈ SL, x < h.size ∧ Safe Z EL vm0 h x) :
    BackS l R p e below (s.setVm vm0) args y len W (fun A a => a = as' ∧ A.U.heap = h ∧ A.cells + rm.cells ≤ R.cells ∧ A.slots + rm.slots ≤ R.slots)
      (fun A _ v B => ∃ L, Q v B.U.heap L ∧ B.locs = A.locs ++ L ∧ B.cells = A.cells + rm.cells ∧ B.slots = A.slots + rm.slots ∧ CHr Z EL vm0 h B.U.vm B.U.heap) := by
  refine BackS.of_freeW (bytes := bytes) (maxL := maxL) (ret := ret) (E := fun _ first o t L k n => k = rm.cells ∧ n = rm.slots ∧ (∃ v, o = .returned v ∧ Q v t.heap L) ∧ CHr Z EL first.vm first.heap t.vm t.heap) hM hf hl ?_ ?_ (fun _ _ _ _ _ _ _ _ _ => trivial) (fun _ _ _ _ ⟨v, L, h1, h2, h3, h4⟩ => ⟨L, _, _, h4, rfl, rfl, ⟨v, h1, h2⟩, h3⟩) ?_
  · intro m meth c A a Y hp
    have hU : Z.Warmed39 A.U.vm := wtrans (s := s.setVm vm0) hZ Y.warmed
    refine ⟨?_, mv hU wc, mv hU wz, hp.2.2.1, hp.2.2.2⟩
    show (Cond.and _ .tt).before a A.U = true
    rw [Cond.before_and, mv hU wc]; rfl
  · intro m meth c A a g mk Y hp
    have q := CHv.at Y hZ hEL H
    exact ⟨hp.1, wtrans (s := s.setVm vm0) hZ Y.warmed, hp.2.1, q.1, fun x hx => q.safe (hSL x hx).1 (hSL x hx).2⟩
  · rintro m meth c A a g mk v t L k n Y hp _ _ ⟨e1, e2, ⟨v', e3, e4⟩, e5⟩
    cases e3; subst e1 e2
    refine ⟨L, e4, rfl, rfl, rfl, (CHv.at Y hZ hEL H).trans ?_⟩
    rw [← hp.2.1]; exact e5
end Wide
theorem own_fits_pi {P : Prop} [i : Decidable P] : fits .boolean (.int (@own_pi P i)) = true := by unfold own_pi; split <;> rfl
/-- the array at a, of the class k over C, holds the values vs -/
def Ral (Z : State) (h : Heap) (a : Addr) (k : ClassId) (C : String) (vs : List Value) : Prop := ∃ c : Cell, Arr Z h a c (.object C) ∧ c.cls = k ∧ c.slots.size = vs.length ∧ ∀ i, i < vs.length → c.slots[i]? = some (vs.getD i .null)
section Refs
variable {Z : State} {h h' : Heap} {a b : Addr} {k : ClassId} {C : String} {vs : List Value} {ws : List Addr}
theorem Ral.lt (F : Ral Z h a k C vs) : a < h.size := by obtain ⟨c, A, -⟩ := F; exact A.lt
theorem Ral.ext (F : Ral Z h a k C vs) (E : Ext h h') : Ral Z h' a k C vs := by obtain ⟨c, A, r⟩ := F; exact ⟨c, A.ext E, r⟩
theorem Ral.other {sl : Nat} {v : Value} (F : Ral Z h b k C vs) (W : Wr h h' a sl v) (q : b ≠ a) : Ral Z h' b k C vs := by obtain ⟨c, A, r⟩ := F; exact ⟨c, A.other W q, r⟩
theorem Ral.keep (F : Ral Z h a k C vs) (K : Keep h h' ws) (q : a ∉ ws) : Ral Z h' a k C vs := by obtain ⟨c, A, r⟩ := F; exact ⟨c, ⟨K.2.1 a c A.1 q, A.2⟩, r⟩
theorem Ral.new {z : Int32} {n : Nat} (A : Arr Z h a (newA k (.object C) z) (.object C)) (hz : z.toNatClampNeg = n) : Ral Z h a k C (List.replicate n .null) := by
  subst hz
  refine ⟨_, A, rfl, by rw [sz_new, List.length_replicate], fun i hi => ?_⟩
  rw [List.length_replicate] at hi
  simp [newA, defaultValue, hi, List.getD_eq_getElem?_getD]
theorem Ral.set {i : Nat} {v : Value} (F : Ral Z h a k C vs) (W : Wr h h' a i v) (hi : i < vs.length) : Ral Z h' a k C (vs.set i v) := by
  obtain ⟨c, A, q0, S, H⟩ := F
  refine ⟨_, A.same W, q0, by rw [sz_set, S, List.length_set], fun k hk => ?_⟩
  rw [List.length_set] at hk
  show (c.slots.setIfInBounds i v)[k]? = _
  rw [Array.getElem?_setIfInBounds, List.getD_eq_getElem?_getD, List.getElem?_set]
  by_cases q : i = k
  · subst q; simp [S, hk]
  · rw [if_neg q, if_neg q, ← List.getD_eq_getElem?_getD]; exact H k hk
variable {p : Program} {l : Launch} {e : Env} {R : Room} {s : State} {m : MethodId} {args : Array Value} {below : List Frame} {meth : Method} {c : Code} {T : State} {locs : List Loc} {cells slots : Nat}
theorem own_stR (X : Stand p l e R s m args below meth c T locs cells slots) (hx : p.tables.exec = Jvm.exec) (hZ : Z.Warmed39 s.vm) (eT : T.heap = h) (F : Ral Z h a k C vs) (O : Ovr Z k C) {y : Addr} (I : Ins Z h y C true) {j : Int32} {i : Nat} (h0 : ¬ j < 0) (hj : j.toNatClampNeg = i) (hi : i < vs.length) {g : JFrame} (hg : g.method = m) {rest : List Value} (hs : g.stack = .ref y :: .int j :: .ref a :: rest) (hd : decode c.code g.pc = .ok (.aastore, 1)) :
    ∃ T' h', Stand p l e R s m args below meth c T' (locs ++ [⟨a, i⟩]) cells slots ∧ T'.heap = h' ∧ Wr h h' a i (.ref y) ∧ Ral Z h' a k C (vs.set i (.ref y)) ∧ ∀ target, Steps p.tables e below (T'.setTop { g with pc := g.pc + 1, stack := rest }) target → Steps p.tables e below (T.setTop g) target := by
  have F' := F
  obtain ⟨cl, A, q0, S, H⟩ := F
  have hin : ¬ (j < 0 ∨ cl.slots.size ≤ j.toNatClampNeg) := by
    rintro (q | q)
    · exact h0 q
    · omega
  subst q0
  obtain ⟨T', h', X', e', W, st⟩ := stR X hx hZ eT A (j := j) hin rfl (Sto.of A O I) hg hs hd
  subst hj
  exact ⟨T', h', X', e', W, F'.set W hi, st⟩
theorem own_ldR (X : Stand p l e R s m args below meth c T locs cells slots) (hx : p.tables.exec = Jvm.exec) (hZ : Z.Warmed39 s.vm) (eT : T.heap = h) (F : Ral Z h a k C vs) {j : Int32} {i : Nat} (h0 : ¬ j < 0) (hj : j.toNatClampNeg = i) (hi : i < vs.length) {v : Value} (hv : vs.getD i .null = v) {g : JFrame} (hg : g.method = m) {rest : List Value} (hs : g.stack = .int j :: .ref a :: rest) (hd : decode c.code g.pc = .ok (.aaload, 1)) (target : State)
    (kk : Steps p.tables e below (T.setTop { g with pc := g.pc + 1, stack := v :: rest }) target) : Steps p.tables e below (T.setTop g) target := by
  obtain ⟨cl, A, q0, S, H⟩ := F
  have hin : ¬ (j < 0 ∨ cl.slots.size ≤ j.toNatClampNeg) := by
    rintro (q | q)
    · exact h0 q
    · omega
  subst hv
  exact X.aaload hx (j := j) (v := vs.getD i .null) (by rw [eT]; exact A.1) (State.isArrayOf_alike hZ.alike A.2.1) rfl A.2.2 hin (by rw [hj]; exact H i hi) hg hs hd _ kk
end Refs
section Starts
variable {s : State} {args : Array Value} {t : Term} {a : Addr} {C n d : String}
theorem own_fldI {z : Int32} (ev : t.eval args s none [] s = some (.ref a)) (h : (Cond.eq (Term.field t C n d) (Term.int z)).value args s none s [] = some true) : Fld s s.heap a C n d (.int z) := by
  refine Fld.start ?_
  rw [← fld_at (args := args) (first := s) (o := none) (idx := []) ev]
  cases hf : (Term.field t C n d).eval args s none [] s with
  | none => simp [Cond.value, hf] at h
  | some x =>
    have hz : (Term.int z).eval args s none [] s = some (.int z) := rfl
    cases x <;> simp [Cond.value, hf, hz] at h
    rw [h]
theorem own_fldN (ev : t.eval args s none [] s = some (.ref a)) (h : (Cond.eq (Term.field t C n d) Term.null).value args s none s [] = some true) : Fld s s.heap a C n d .null := by
  refine Fld.start ?_
  rw [← fld_at (args := args) (first := s) (o := none) (idx := []) ev]
  exact null_v h
theorem own_fldE {K : String} (ev : t.eval args s none [] s = some (.ref a)) (h : (Cond.exactly (Term.field t C n d) K).value args s none s [] = some true) : ∃ y, Fld s s.heap a C n d (.ref y) := by
  obtain ⟨y, hy⟩ := exa_v h
  refine ⟨y, Fld.start ?_⟩
  rw [← fld_at (args := args) (first := s) (o := none) (idx := []) ev]
  exact hy
theorem own_fldS {u : Term} {b : Addr} (ev : t.eval args s none [] s = some (.ref a)) (eu : u.eval args s none [] s = some (.ref b)) (h : (Cond.eq (Term.field t C n d) u).value args s none s [] = some true) : Fld s s.heap a C n d (.ref b) := by
  refine Fld.start ?_
  rw [← fld_at (args := args) (first := s) (o := none) (idx := []) ev]
  cases hf : (Term.field t C n d).eval args s none [] s with
  | none => simp [Cond.value, hf] at h
  | some x =>
    cases x <;> simp [Cond.value, hf, eu] at h
    rw [h]
theorem own_statI {t : Term} {z : Int32} (h : (Cond.eq t (Term.int z)).value args s none s [] = some true) : t.eval args s none [] s = some (.int z) := by
  cases hf : t.eval args s none [] s with
  | none => simp [Cond.value, hf] at h
  | some x =>
    have hz : (Term.int z).eval args s none [] s = some (.int z) := rfl
    cases x <;> simp [Cond.value, hf, hz] at h
    rw [h]
theorem own_empty {cl : Cell} {ty : FieldType} (ev : t.eval args s none [] s = some (.ref a)) (A : Arr s s.heap a cl ty) (h : (Cond.eq (Term.length t) (Term.int 0)).value args s none s [] = some true) : Bal s s.heap a ty [] := by
  have ha : s.arrayAt? a = some cl := A.fin (Vm.Alike.refl _)
  have hsz : cl.slots.size = 0 := by
    by_cases hl : cl.slots.size < 2 ^ 31
    · have hv := len_f (args := args) (first := s) (o := none) (idx := []) ev ha hl
      have hz : (Term.int 0).eval args s none [] s = some (.int 0) := rfl
      simp only [Cond.value, hv, hz] at h
      have q := len_toInt hl
      have q2 : cl.slots.size.toInt32 = 0 := by simpa using h
      rw [q2] at q
      have : (0 : Int32).toInt = 0 := rfl
      omega
    · exfalso
      cases hf : (Term.length t).eval args s none [] s with
      | none => simp [Cond.value, hf] at h
      | some x => simp [Term.eval, ev, ha, hl] at hf
  exact ⟨cl, A, hsz, fun i hi => absurd hi (Nat.not_lt_zero i)⟩
end Starts
end Jvm.RoadKit
/- laws to paste: Road.backV, Road.lenW, Road.chN, Road.eqW, Road.codOf (cut by pick.py; bodies as the Statement names them) -/
namespace Jvm.Pilot.@@N@@
namespace StrChars
open Jvm Sem ClassFile Op Lib Jvm.Stand Jvm.Free.XT Jvm.Free.ALB Jvm.Free.JM Jvm.Free
open Jvm.Lib.Cold (StaticIs)
/-- a char array whose places are chars -/
def Ch (a : Addr) (A : Cell) (U : State) : Prop := Arr .char a A U ∧ Typed .char A
theorem Ch.mv {a : Addr} {A : Cell} {U U' : State} (h : Ch a A U) (hal : U.vm.Alike U'.vm) (hh : U'.heap = U.heap) : Ch a A U' := ⟨h.1.mv hal hh, h.2⟩
theorem Ch.keep {a : Addr} {A : Cell} {U U' : State} (h : Ch a A U) (hal : U.vm.Alike U'.vm) (hk : U'.heap[a]? = some A) : Ch a A U' := ⟨h.1.keep hal hk, h.2⟩
/-- what place i of a char[]'s cell holds -/
def cv (A : Cell) (i : Nat) : Int32 := match A.slots[i]? with | some (.int x) => x | _ => 0
theorem Ch.get {a : Addr} {A : Cell} {U : State} (h : Ch a A U) {i : Nat} (hi : i < A.slots.size) : A.slots[i]? = some (.int (cv A i)) := by
  have e := Array.getElem?_eq_getElem hi
  have f := h.2 i _ e
  unfold cv; rw [e]
  generalize A.slots[i] = v at f
  cases v <;> simp [fits] at f ⊢
/-- the byte that i2b leaves of a char -/
def lo8 (x : Int32) : Int32 := x.toInt8.toInt32
theorem fits_lo8 (y : Int32) : fits .byte (.int (lo8 y)) = true := by
  have h1 := y.toInt8.le_toInt
  have h2 := y.toInt8.toInt_lt
  simp only [lo8, fits, Bool.and_eq_true, decide_eq_true_eq, Int32.le_iff_toInt_le, Int8.toInt_toInt32, show (-128 : Int32).toInt = -128 from by decide, show (127 : Int32).toInt = 127 from by decide]
  omega
/-- A' is A but that each place j of lo .. hi - 1 holds f j -/
def Laid (A A' : Cell) (lo hi : Nat) (f : Nat → Value) : Prop := A'.cls = A.cls ∧ A'.vm = A.vm ∧ A'.slots.size = A.slots.size ∧ ∀ i, A'.slots[i]? = if lo ≤ i ∧ i < hi then some (f i) else A.slots[i]?
theorem Laid.zero (A : Cell) (lo : Nat) (f : Nat → Value) : Laid A A lo (lo + 0) f := ⟨rfl, rfl, rfl, fun i => by rw [if_neg (by omega)]⟩
theorem Laid.step {A Ak : Cell} {lo k : Nat} {f : Nat → Value} {v : Value} (h : Laid A Ak lo k f) (hlo : lo ≤ k) (hk : k < Ak.slots.size) (hv : v = f k) : Laid A (Ak.setSlot k v) lo (k + 1) f := by
  refine ⟨h.1, h.2.1, by simpa [Cell.setSlot] using h.2.2.1, fun i => ?_⟩
  by_cases e : k = i
  · subst e; rw [Cell.slots_setSlot_self v hk, if_pos (by omega), hv]
  · rw [Cell.slots_setSlot_ne v e, h.2.2.2 i]
    by_cases q : lo ≤ i ∧ i < k
    · rw [if_pos q, if_pos (by omega)]
    · rw [if_neg q, if_neg (by omega)]
def U16 : String := "java/lang/StringUTF16"
namespace Cmp5
def yN : MethodName := ⟨"java/lang/StringUTF16", "compress", "([CI[BII)I"⟩
abbrev yB : ByteArray := jdk_52_method_21_code
theorem d0 : decode yB 0 = .ok (.iconst 0, 1) := by decide +kernel
theorem d1 : decode yB 1 = .ok (.istore 5, 2) := by decide +kernel
theorem d3 : decode yB 3 = .ok (.iload 5, 2) := by decide +kernel
theorem d5 : decode yB 5 = .ok (.iload 4, 2) := by decide +kernel
theorem d7 : decode yB 7 = .ok (.if_icmp (.ge) 37, 3) := by decide +kernel
theorem d10 : decode yB 10 = .ok (.aload_n 0, 1) := by decide +kernel
theorem d11 : decode yB 11 = .ok (.iload_n 1, 1) := by decide +kernel
theorem d12 : decode yB 12 = .ok (.caload, 1) := by decide +kernel
theorem d13 : decode yB 13 = .ok (.istore 6, 2) := by decide +kernel
theorem d15 : decode yB 15 = .ok (.iload 6, 2) := by decide +kernel
theorem d17 : decode yB 17 = .ok (.sipush 255, 3) := by decide +kernel
theorem d20 : decode yB 20 = .ok (.if_icmp (.le) 6, 3) := by decide +kernel
theorem d26 : decode yB 26 = .ok (.aload_n 2, 1) := by decide +kernel
theorem d27 : decode yB 27 = .ok (.iload_n 3, 1) := by decide +kernel
theorem d28 : decode yB 28 = .ok (.iload 6, 2) := by decide +kernel
theorem d30 : decode yB 30 = .ok (.i2b, 1) := by decide +kernel
theorem d31 : decode yB 31 = .ok (.bastore, 1) := by decide +kernel
theorem d32 : decode yB 32 = .ok (.iinc 1 1, 3) := by decide +kernel
theorem d35 : decode yB 35 = .ok (.iinc 3 1, 3) := by decide +kernel
theorem d38 : decode yB 38 = .ok (.iinc 5 1, 3) := by decide +kernel
theorem d41 : decode yB 41 = .ok (.goto (-38), 3) := by decide +kernel
theorem d44 : decode yB 44 = .ok (.iload 4, 2) := by decide +kernel
theorem d46 : decode yB 46 = .ok (.ireturn, 1) := by decide +kernel
def site : List Cond := []
def tab : Cond := tabOf yN yB 7 (some .int) site
def P (b : Addr) (A : Cell) (d : Addr) (B : Cell) (o q len : Nat) (args : Array Value) (s : State) : Prop := args = #[.ref b, .int (Int32.ofNat o), .ref d, .int (Int32.ofNat q), .int (Int32.ofNat len)] ∧ Ch b A s ∧ Arr .byte d B s ∧ b ≠ d ∧ o + len ≤ A.slots.size ∧ q + len ≤ B.slots.size ∧ ∀ i, i < len → ¬ 255 < cv A (o + i)
def E (b : Addr) (A : Cell) (d : Addr) (B : Cell) (o q len : Nat) (r : Option Value) (s u : State) : Prop := r = some (.int (Int32.ofNat len)) ∧ ∃ B', Put d B' s u ∧ Laid B B' q (q + len) (fun j => Value.int (lo8 (cv A (o + (j - q)))))
/-- no char of the range above 255: len; the places written hold each char's low byte -/
theorem law (l : Launch) (b : Addr) (A : Cell) (d : Addr) (B : Cell) (o q len : Nat) : Law l yN 5 5 0 0 yB 7 (some .int) site (P b A d B o q len) (E b A d B o q len) (copyLocs d q len) 0 0 := by
  refine Law.of_walk (plainFor_of_name (by decide +kernel)) (by decide +kernel) (by decide +kernel) (by decide) (fun _ _ h => by rw [h.1]; rfl) (fun _ U U' hal hh h => ⟨h.1, h.2.1.mv hal hh, h.2.2.1.mv hal hh, h.2.2.2⟩) (fun r U U' V V' h1 hal h2 h => ⟨h.1, h.2.elim fun B' q => ⟨B', q.1.mv h1 h2, q.2⟩⟩) ?_
  intro p e s m args below meth c s₁ X0 hexec hbytes hml hret hlk hnm hown hh0 W hP
  obtain ⟨rfl, hA, hB, hne, l1, l2, hp⟩ := hP
  have c1 : Steps p.tables e below (s₁.setTop (entryFrame m #[.ref b, .int (Int32.ofNat o), .ref d, .int (Int32.ofNat q), .int (Int32.ofNat len)] 7)) (s₁.setTop (mkF m 0 #[.val (.ref b), .val (.int (Int32.ofNat o)), .val (.ref d), .val (.int (Int32.ofNat q)), .val (.int (Int32.ofNat len)), .unset, .unset] [])) := entry rfl
  have hA0 := hA.1.mv X0.warmed.alike hh0
  have hB0 := hB.mv X0.warmed.alike hh0
  have a31 := hA.1.2.2.2
  have c2 : Steps p.tables e below (s₁.setTop (entryFrame m #[.ref b, .int (Int32.ofNat o), .ref d, .int (Int32.ofNat q), .int (Int32.ofNat len)] 7)) (s₁.setTop (mkF m 3 #[.val (.ref b), .val (.int (Int32.ofNat o)), .val (.ref d), .val (.int (Int32.ofNat q)), .val (.int (Int32.ofNat len)), .val (.int 0), .unset] [])) := c1.trans (by
    refine iconstV X0.here hexec rfl 0 (hb hbytes d0) (by decide) ?_
    refine XS.istore X0.here hexec rfl (hb hbytes d1) rfl rfl ?_
    exact Steps.refl _)
  have loop : ∀ (r i : Nat), i + r = len → ∀ (z : Slot), (z = .unset ∨ ∃ w, z = .val w ∧ w.category = 1) → ∀ (Tl : State) (Bk : Cell), Stand p l e { frames := 0, locals := 0, cells := 0, slots := 0 } s m #[.ref b, .int (Int32.ofNat o), .ref d, .int (Int32.ofNat q), .int (Int32.ofNat len)] below meth c Tl ([] ++ copyLocs d q i) 0 0 → Put d Bk s₁ Tl → Laid B Bk q (q + i) (fun j => Value.int (lo8 (cv A (o + (j - q))))) →
      Steps p.tables e below (s₁.setTop (entryFrame m #[.ref b, .int (Int32.ofNat o), .ref d, .int (Int32.ofNat q), .int (Int32.ofNat len)] 7)) (Tl.setTop (mkF m 3 #[.val (.ref b), .val (.int (Int32.ofNat (o + i))), .val (.ref d), .val (.int (Int32.ofNat (q + i))), .val (.int (Int32.ofNat len)), .val (.int (Int32.ofNat i)), z] [])) → ∃ (T' : State) (B' : Cell) (z' : Slot), Stand p l e { frames := 0, locals := 0, cells := 0, slots := 0 } s m #[.ref b, .int (Int32.ofNat o), .ref d, .int (Int32.ofNat q), .int (Int32.ofNat len)] below meth c T' ([] ++ copyLocs d q len) 0 0 ∧ Put d B' s₁ T' ∧ Laid B B' q (q + len) (fun j => Value.int (lo8 (cv A (o + (j - q))))) ∧
      Steps p.tables e below (s₁.setTop (entryFrame m #[.ref b, .int (Int32.ofNat o), .ref d, .int (Int32.ofNat q), .int (Int32.ofNat len)] 7)) (T'.setTop (mkF m 3 #[.val (.ref b), .val (.int (Int32.ofNat (o + len))), .val (.ref d), .val (.int (Int32.ofNat (q + len))), .val (.int (Int32.ofNat len)), .val (.int (Int32.ofNat len)), z'] [])) := by
    intro r
    induction r with
    | zero =>
      intro i hi z hz Tl Bk Xl pl fl cl
      have hil : i = len := by omega
      rw [hil] at Xl fl cl
      exact ⟨Tl, Bk, z, Xl, pl, fl, cl⟩
    | succ r ih =>
      intro i hi z hz Tl Bk Xl pl fl cl
      have all := X0.warmed.alike.symm.trans Xl.warmed.alike
      have hAl := hA0.keep all (pl.other hne hA0.1)
      have hBk := hB0.like all pl.1 fl.1 fl.2.1 fl.2.2.1
      have hlt : q + i < Bk.slots.size := by rw [fl.2.2.1]; omega
      have c3 : Steps p.tables e below (s₁.setTop (entryFrame m #[.ref b, .int (Int32.ofNat o), .ref d, .int (Int32.ofNat q), .int (Int32.ofNat len)] 7)) (Tl.setTop (mkF m 12 #[.val (.ref b), .val (.int (Int32.ofNat (o + i))), .val (.ref d), .val (.int (Int32.ofNat (q + i))), .val (.int (Int32.ofNat len)), .val (.int (Int32.ofNat i)), z] [.int (Int32.ofNat (o + i)), .ref b])) := cl.trans (by
        refine XS.iload Xl.here hexec rfl (hb hbytes d3) rfl ?_
        refine XS.iload Xl.here hexec rfl (hb hbytes d5) rfl ?_
        refine XS.icmpNo Xl.here hexec rfl (hb hbytes d7) rfl (ii_ge_f (lt32 (by omega) (by omega))) ?_
        refine XS.aloadN Xl.here hexec rfl (hb hbytes d10) rfl rfl ?_
        refine XS.iloadN Xl.here hexec rfl (hb hbytes d11) rfl ?_
        exact Steps.refl _)
      have c4 : Steps p.tables e below (s₁.setTop (entryFrame m #[.ref b, .int (Int32.ofNat o), .ref d, .int (Int32.ofNat q), .int (Int32.ofNat len)] 7)) (Tl.setTop (mkF m 13 #[.val (.ref b), .val (.int (Int32.ofNat (o + i))), .val (.ref d), .val (.int (Int32.ofNat (q + i))), .val (.int (Int32.ofNat len)), .val (.int (Int32.ofNat i)), z] [.int (cv A (o + i))])) := c3.trans (by
        refine Xl.aget hexec hAl rfl (hA.get (i := o + i) (by omega)) rfl rfl (hb hbytes d12) ?_
        exact Steps.refl _)
      have c5 : Steps p.tables e below (s₁.setTop (entryFrame m #[.ref b, .int (Int32.ofNat o), .ref d, .int (Int32.ofNat q), .int (Int32.ofNat len)] 7)) (Tl.setTop (mkF m 15 #[.val (.ref b), .val (.int (Int32.ofNat (o + i))), .val (.ref d), .val (.int (Int32.ofNat (q + i))), .val (.int (Int32.ofNat len)), .val (.int (Int32.ofNat i)), .val (.int (cv A (o + i)))] [])) := c4.trans (by
        refine XS.istoreS Xl.here hexec rfl (hb hbytes d13) rfl rfl hz ?_
        exact Steps.refl _)
      have c6 : Steps p.tables e below (s₁.setTop (entryFrame m #[.ref b, .int (Int32.ofNat o), .ref d, .int (Int32.ofNat q), .int (Int32.ofNat len)] 7)) (Tl.setTop (mkF m 31 #[.val (.ref b), .val (.int (Int32.ofNat (o + i))), .val (.ref d), .val (.int (Int32.ofNat (q + i))), .val (.int (Int32.ofNat len)), .val (.int (Int32.ofNat i)), .val (.int (cv A (o + i)))] [.int (lo8 (cv A (o + i))), .int (Int32.ofNat (q + i)), .ref d])) := c5.trans (by
        refine XS.iload Xl.here hexec rfl (hb hbytes d15) rfl ?_
        refine sipushV Xl.here hexec rfl 255 (hb hbytes d17) (by decide) ?_
        refine XS.icmpYes Xl.here hexec rfl (pc0 := 20) rfl (hb hbytes d20) rfl (ii_le_t (hp i (by omega))) (by decide) rfl ?_
        refine XS.aloadN Xl.here hexec rfl (hb hbytes d26) rfl rfl ?_
        refine XS.iloadN Xl.here hexec rfl (hb hbytes d27) rfl ?_
        refine XS.iload Xl.here hexec rfl (hb hbytes d28) rfl ?_
        refine i2b Xl.here hexec rfl (hb hbytes d30) rfl ?_
        exact Steps.refl _)
      obtain ⟨T7, X7, p7, st7⟩ := Xl.aput hexec hBk rfl hlt rfl (fits_lo8 (cv A (o + i))) (g := (mkF m 31 #[.val (.ref b), .val (.int (Int32.ofNat (o + i))), .val (.ref d), .val (.int (Int32.ofNat (q + i))), .val (.int (Int32.ofNat len)), .val (.int (Int32.ofNat i)), .val (.int (cv A (o + i)))] [.int (lo8 (cv A (o + i))), .int (Int32.ofNat (q + i)), .ref d])) rfl (rest := []) rfl (hb hbytes d31)
      have c8 : Steps p.tables e below (s₁.setTop (entryFrame m #[.ref b, .int (Int32.ofNat o), .ref d, .int (Int32.ofNat q), .int (Int32.ofNat len)] 7)) (T7.setTop (mkF m 32 #[.val (.ref b), .val (.int (Int32.ofNat (o + i))), .val (.ref d), .val (.int (Int32.ofNat (q + i))), .val (.int (Int32.ofNat len)), .val (.int (Int32.ofNat i)), .val (.int (cv A (o + i)))] [])) := c6.trans (st7 _ (Steps.refl _))
      have c9 : Steps p.tables e below (s₁.setTop (entryFrame m #[.ref b, .int (Int32.ofNat o), .ref d, .int (Int32.ofNat q), .int (Int32.ofNat len)] 7)) (T7.setTop (mkF m 3 #[.val (.ref b), .val (.int (Int32.ofNat (o + i) + 1)), .val (.ref d), .val (.int (Int32.ofNat (q + i) + 1)), .val (.int (Int32.ofNat len)), .val (.int (Int32.ofNat i + 1)), .val (.int (cv A (o + i)))] [])) := c8.trans (by
        refine iincV X7.here hexec rfl 1 (hb hbytes d32) (by decide) rfl rfl ?_
        refine iincV X7.here hexec rfl 1 (hb hbytes d35) (by decide) rfl rfl ?_
        refine iincV X7.here hexec rfl 1 (hb hbytes d38) (by decide) rfl rfl ?_
        refine XS.goto X7.here hexec rfl (pc0 := 41) rfl (hb hbytes d41) (by decide) rfl ?_
        exact Steps.refl _)
      have c10 : Steps p.tables e below (s₁.setTop (entryFrame m #[.ref b, .int (Int32.ofNat o), .ref d, .int (Int32.ofNat q), .int (Int32.ofNat len)] 7)) (T7.setTop (mkF m 3 #[.val (.ref b), .val (.int (Int32.ofNat (o + (i + 1)))), .val (.ref d), .val (.int (Int32.ofNat (q + (i + 1)))), .val (.int (Int32.ofNat len)), .val (.int (Int32.ofNat (i + 1))), .val (.int (cv A (o + i)))] [])) := by
        have := c9
        rw [succ32, succ32, succ32] at this
        exact this
      exact ih (i + 1) (by omega) _ (Or.inr ⟨_, rfl, rfl⟩) T7 _ (by rw [copyLocs_step, ← List.append_assoc]; exact X7) (pl.trans p7) (fl.step (by omega) hlt (by simp)) c10
  obtain ⟨T9, B9, z9, X9, p9, f9, g9⟩ := loop len 0 (by omega) .unset (Or.inl rfl) s₁ B (by simpa [copyLocs] using X0) ⟨hB0.1, fun _ _ => rfl, rfl⟩ (Laid.zero _ _ _) c2
  have c11 : Steps p.tables e below (s₁.setTop (entryFrame m #[.ref b, .int (Int32.ofNat o), .ref d, .int (Int32.ofNat q), .int (Int32.ofNat len)] 7)) (T9.setTop (mkF m 46 #[.val (.ref b), .val (.int (Int32.ofNat (o + len))), .val (.ref d), .val (.int (Int32.ofNat (q + len))), .val (.int (Int32.ofNat len)), .val (.int (Int32.ofNat len)), z9] [.int (Int32.ofNat len)])) := g9.trans (by
    refine XS.iload X9.here hexec rfl (hb hbytes d3) rfl ?_
    refine XS.iload X9.here hexec rfl (hb hbytes d5) rfl ?_
    refine XS.icmpYes X9.here hexec rfl (pc0 := 7) rfl (hb hbytes d7) rfl (ii_ge_t (nlt32 (by omega) (Nat.le_refl _))) (by decide) rfl ?_
    refine XS.iload X9.here hexec rfl (hb hbytes d44) rfl ?_
    exact Steps.refl _)
  exact ⟨T9, some (.int (Int32.ofNat len)), _, _, _, X9, by simp, rfl, rfl, (fun h => by cases h), ⟨rfl, B9, p9.from hh0, f9⟩, fun fs hl => c11.trans (X9.ireturnOut hexec hret rfl (Or.inl rfl) (hb hbytes d46) hl)⟩
end Cmp5
namespace Cmp3
def yN : MethodName := ⟨"java/lang/StringUTF16", "compress", "([CII)[B"⟩
abbrev yB : ByteArray := jdk_52_method_16_code
theorem d0 : decode yB 0 = .ok (.iload_n 2, 1) := by decide +kernel
theorem d1 : decode yB 1 = .ok (.newarray .byte, 2) := by decide +kernel
theorem d3 : decode yB 3 = .ok (.astore_n 3, 1) := by decide +kernel
theorem d4 : decode yB 4 = .ok (.aload_n 0, 1) := by decide +kernel
theorem d5 : decode yB 5 = .ok (.iload_n 1, 1) := by decide +kernel
theorem d6 : decode yB 6 = .ok (.aload_n 3, 1) := by decide +kernel
theorem d7 : decode yB 7 = .ok (.iconst 0, 1) := by decide +kernel
theorem d8 : decode yB 8 = .ok (.iload_n 2, 1) := by decide +kernel
theorem d9 : decode yB 9 = .ok (.invokestatic 115, 3) := by decide +kernel
theorem d12 : decode yB 12 = .ok (.istore 4, 2) := by decide +kernel
theorem d14 : decode yB 14 = .ok (.iload 4, 2) := by decide +kernel
theorem d16 : decode yB 16 = .ok (.iload_n 2, 1) := by decide +kernel
theorem d17 : decode yB 17 = .ok (.if_icmp (.eq) 40, 3) := by decide +kernel
theorem d57 : decode yB 57 = .ok (.aload_n 3, 1) := by decide +kernel
theorem d58 : decode yB 58 = .ok (.areturn, 1) := by decide +kernel
def site : List Cond := [.arrayClass .byte, Cmp5.tab] ++ staticW U16 115 Cmp5.yN
def tab : Cond := tabOf yN yB 6 (some (.array .byte)) site
def P (b : Addr) (A : Cell) (o len : Nat) (args : Array Value) (s : State) : Prop := args = #[.ref b, .int (Int32.ofNat o), .int (Int32.ofNat len)] ∧ Ch b A s ∧ o + len ≤ A.slots.size ∧ len ≤ 536870912 ∧ ∀ i, i < len → ¬ 255 < cv A (o + i)
def E (b : Addr) (A : Cell) (o len : Nat) (r : Option Value) (s u : State) : Prop := NewArr .byte "[B" len (fun j => .int (lo8 (cv A (o + j)))) r s u ∧ u.heap.size = s.heap.size + 1
/-- no char of the range above 255: a new byte[] of their low bytes -/
theorem law (l : Launch) (b : Addr) (A : Cell) (o len : Nat) : Law l yN 3 3 1 18 yB 6 (some (.array .byte)) site (P b A o len) (E b A o len) [] 1 len := by
  refine Law.of_walk (plainFor_of_name (by decide +kernel)) (by decide +kernel) (by decide +kernel) (by decide) (fun _ _ h => by rw [h.1]; rfl) (fun _ U U' hal hh h => ⟨h.1, h.2.1.mv hal hh, h.2.2⟩) (fun r U U' V V' h1 hal h2 h => ⟨NewArr.mv r U U' V V' h1 hal h2 h.1, by rw [h1, h2]; exact h.2⟩) ?_
  intro p e s m args below meth c s₁ X0 hexec hbytes hml hret hlk hnm hown hh0 W hP
  obtain ⟨rfl, hA, l1, l2, hp⟩ := hP
  have a31 := hA.1.2.2.2
  have c1 : Steps p.tables e below (s₁.setTop (entryFrame m #[.ref b, .int (Int32.ofNat o), .int (Int32.ofNat len)] 6)) (s₁.setTop (mkF m 0 #[.val (.ref b), .val (.int (Int32.ofNat o)), .val (.int (Int32.ofNat len)), .unset, .unset, .unset] [])) := entry rfl
  have c2 : Steps p.tables e below (s₁.setTop (entryFrame m #[.ref b, .int (Int32.ofNat o), .int (Int32.ofNat len)] 6)) (s₁.setTop (mkF m 1 #[.val (.ref b), .val (.int (Int32.ofNat o)), .val (.int (Int32.ofNat len)), .unset, .unset, .unset] [.int (Int32.ofNat len)])) := c1.trans (by
    refine XS.iloadN X0.here hexec rfl (hb hbytes d0) rfl ?_
    exact Steps.refl _)
  obtain ⟨T3, B3, X3, ba3, bs3, bv3, bh3, bf3, st3⟩ := X0.anew hexec (atype := .byte) (wk W (.arrayClass .byte)) rfl (by show len * 1 ≤ _; omega) (by omega) (g := (mkF m 1 #[.val (.ref b), .val (.int (Int32.ofNat o)), .val (.int (Int32.ofNat len)), .unset, .unset, .unset] [.int (Int32.ofNat len)])) rfl (hb hbytes d1) (rest := []) rfl (Nat.le_refl _) (by show 0 + len ≤ len; omega)
  rw [hh0] at ba3 st3
  have kp3 : XT.Kept s T3 := (XT.Kept.of_eq hh0).push bh3
  have hA3 := hA.keep X3.warmed.alike (kp3 _ _ hA.1.1)
  have hne : b ≠ s.heap.size := hA.1.ne
  have c4 : Steps p.tables e below (s₁.setTop (entryFrame m #[.ref b, .int (Int32.ofNat o), .int (Int32.ofNat len)] 6)) (T3.setTop (mkF m 3 #[.val (.ref b), .val (.int (Int32.ofNat o)), .val (.int (Int32.ofNat len)), .unset, .unset, .unset] [.ref s.heap.size])) := c2.trans (st3 _ (Steps.refl _))
  have c5 : Steps p.tables e below (s₁.setTop (entryFrame m #[.ref b, .int (Int32.ofNat o), .int (Int32.ofNat len)] 6)) (T3.setTop (mkF m 9 #[.val (.ref b), .val (.int (Int32.ofNat o)), .val (.int (Int32.ofNat len)), .val (.ref s.heap.size), .unset, .unset] [.int (Int32.ofNat len), .int 0, .ref s.heap.size, .int (Int32.ofNat o), .ref b])) := c4.trans (by
    refine XS.astoreN X3.here hexec rfl (hb hbytes d3) rfl rfl rfl ?_
    refine XS.aloadN X3.here hexec rfl (hb hbytes d4) rfl rfl ?_
    refine XS.iloadN X3.here hexec rfl (hb hbytes d5) rfl ?_
    refine XS.aloadN X3.here hexec rfl (hb hbytes d6) rfl rfl ?_
    refine iconstV X3.here hexec rfl 0 (hb hbytes d7) (by decide) ?_
    refine XS.iloadN X3.here hexec rfl (hb hbytes d8) rfl ?_
    exact Steps.refl _)
  obtain ⟨v6, T6, X6, E6, g6⟩ := X3.callS hexec (Cmp5.law l b A s.heap.size B3 o 0 len) hown (wks W (staticW U16 115 Cmp5.yN)) (wk W Cmp5.tab) (W := 0) (Nat.le_of_ble_eq_true rfl) (Nat.le_of_ble_eq_true rfl) (Nat.le_refl _) (by show 0 + len + 0 ≤ len; omega) (g := (mkF m 9 #[.val (.ref b), .val (.int (Int32.ofNat o)), .val (.int (Int32.ofNat len)), .val (.ref s.heap.size), .unset, .unset] [.int (Int32.ofNat len), .int (Int32.ofNat 0), .ref s.heap.size, .int (Int32.ofNat o), .ref b])) rfl (by rw [hml]; rfl) c5 (argsL := [.ref b, .int (Int32.ofNat o), .ref s.heap.size, .int (Int32.ofNat 0), .int (Int32.ofNat len)]) (rest := []) rfl rfl (by show 2 * 0 + 0 ≤ _; decide) (hb hbytes d9) (⟨rfl, hA3, ba3, hne, l1, by rw [bs3]; simp, hp⟩)
  obtain ⟨rfl, B6, p6, f6⟩ := E6
  have c7 : Steps p.tables e below (s₁.setTop (entryFrame m #[.ref b, .int (Int32.ofNat o), .int (Int32.ofNat len)] 6)) (T6.setTop (mkF m 12 #[.val (.ref b), .val (.int (Int32.ofNat o)), .val (.int (Int32.ofNat len)), .val (.ref s.heap.size), .unset, .unset] [.int (Int32.ofNat len)])) := g6
  have c8 : Steps p.tables e below (s₁.setTop (entryFrame m #[.ref b, .int (Int32.ofNat o), .int (Int32.ofNat len)] 6)) (T6.setTop (mkF m 58 #[.val (.ref b), .val (.int (Int32.ofNat o)), .val (.int (Int32.ofNat len)), .val (.ref s.heap.size), .val (.int (Int32.ofNat len)), .unset] [.ref s.heap.size])) := c7.trans (by
    refine XS.istore X6.here hexec rfl (hb hbytes d12) rfl rfl ?_
    refine XS.iload X6.here hexec rfl (hb hbytes d14) rfl ?_
    refine XS.iloadN X6.here hexec rfl (hb hbytes d16) rfl ?_
    refine XS.icmpYes X6.here hexec rfl (pc0 := 17) rfl (hb hbytes d17) rfl (ii_eq_t rfl) (by decide) rfl ?_
    refine XS.aloadN X6.here hexec rfl (hb hbytes d57) rfl rfl ?_
    exact Steps.refl _)
  have X8 := X6.wide (L' := []) (cells' := 1) (slots' := len) (fun x hx hlt => by
    simp only [List.nil_append, copyLocs, List.mem_map, List.mem_range] at hx
    obtain ⟨i, -, rfl⟩ := hx
    exact absurd hlt (Nat.lt_irrefl _)) (Nat.le_refl _) (by omega)
  exact ⟨T6, some (.ref s.heap.size), _, _, _, X8, rfl, rfl, rfl, (fun h => by cases h), ⟨⟨rfl, B6, ba3.like (X3.warmed.alike.symm.trans X6.warmed.alike) p6.1 f6.1 f6.2.1 f6.2.2.1, f6.2.1.trans bv3, by rw [X6.warmed.alike.findClass, f6.1]; exact bf3, by rw [f6.2.2.1, bs3]; simp, fun j hj => by rw [f6.2.2.2 j, if_pos (by omega)]; rfl, kp3.put p6 (Nat.le_refl _)⟩, by rw [p6.2.2, bh3, hh0]; simp⟩, fun fs hl => c8.trans (X8.areturnOut hexec rfl hret rfl (hb hbytes d58) hl)⟩
end Cmp3
namespace CodL
def yN : MethodName := ⟨"java/lang/StringUTF16", "coderFromArrayLen", "([BI)B"⟩
abbrev yB : ByteArray := jdk_52_method_15_code
theorem d0 : decode yB 0 = .ok (.iload_n 1, 1) := by decide +kernel
theorem d1 : decode yB 1 = .ok (.aload_n 0, 1) := by decide +kernel
theorem d2 : decode yB 2 = .ok (.arraylength, 1) := by decide +kernel
theorem d3 : decode yB 3 = .ok (.isub, 1) := by decide +kernel
theorem d4 : decode yB 4 = .ok (.bipush 31, 2) := by decide +kernel
theorem d6 : decode yB 6 = .ok (.iushr, 1) := by decide +kernel
theorem d7 : decode yB 7 = .ok (.i2b, 1) := by decide +kernel
theorem d8 : decode yB 8 = .ok (.ireturn, 1) := by decide +kernel
def site : List Cond := []
def tab : Cond := tabOf yN yB 2 (some .byte) site
def P (d : Addr) (B : Cell) (args : Array Value) (s : State) : Prop := args = #[.ref d, .int (Int32.ofNat B.slots.size)] ∧ Arr .byte d B s
def E (r : Option Value) (s u : State) : Prop := XT.PureE (some (.int 0)) r s u
/-- an array as long as the number of chars: LATIN1 -/
theorem law (l : Launch) (d : Addr) (B : Cell) : Law l yN 2 2 0 0 yB 2 (some .byte) site (P d B) E [] 0 0 := by
  refine Law.of_walk (plainFor_of_name (by decide +kernel)) (by decide +kernel) (by decide +kernel) (by decide) (fun _ _ h => by rw [h.1]; rfl) (fun _ U U' hal hh h => ⟨h.1, h.2.mv hal hh⟩) (fun r U U' V V' h1 hal h2 h => XT.PureE.mv r U U' V V' h1 hal h2 h) ?_
  intro p e s m args below meth c s₁ X0 hexec hbytes hml hret hlk hnm hown hh0 W hP
  obtain ⟨rfl, hB⟩ := hP
  have hB0 := hB.mv X0.warmed.alike hh0
  have c1 : Steps p.tables e below (s₁.setTop (entryFrame m #[.ref d, .int (Int32.ofNat B.slots.size)] 2)) (s₁.setTop (mkF m 0 #[.val (.ref d), .val (.int (Int32.ofNat B.slots.size))] [])) := entry rfl
  have c2 : Steps p.tables e below (s₁.setTop (entryFrame m #[.ref d, .int (Int32.ofNat B.slots.size)] 2)) (s₁.setTop (mkF m 2 #[.val (.ref d), .val (.int (Int32.ofNat B.slots.size))] [.ref d, .int (Int32.ofNat B.slots.size)])) := c1.trans (by
    refine XS.iloadN X0.here hexec rfl (hb hbytes d0) rfl ?_
    refine XS.aloadN X0.here hexec rfl (hb hbytes d1) rfl rfl ?_
    exact Steps.refl _)
  have c3 : Steps p.tables e below (s₁.setTop (entryFrame m #[.ref d, .int (Int32.ofNat B.slots.size)] 2)) (s₁.setTop (mkF m 8 #[.val (.ref d), .val (.int (Int32.ofNat B.slots.size))] [.int (lo8 (ushr (Int32.ofNat B.slots.size - Int32.ofNat B.slots.size) 31))])) := c2.trans (by
    refine X0.alen hexec hB0 rfl rfl (hb hbytes d2) ?_
    refine XS.isub X0.here hexec rfl (hb hbytes d3) rfl ?_
    refine bipushV X0.here hexec rfl 31 (hb hbytes d4) (by decide) ?_
    refine iushr X0.here hexec rfl (hb hbytes d6) rfl ?_
    refine i2b X0.here hexec rfl (hb hbytes d7) rfl ?_
    exact Steps.refl _)
  have e0 : lo8 (ushr (Int32.ofNat B.slots.size - Int32.ofNat B.slots.size) 31) = 0 := by rw [Int32.sub_self]; decide
  rw [e0] at c3
  exact ⟨s₁, some (.int 0), _, _, _, X0, rfl, rfl, rfl, (fun h => by cases h), ⟨rfl, hh0⟩, fun fs hl => c3.trans (X0.ireturnOut hexec hret rfl (Or.inr (Or.inr (Or.inl rfl))) (hb hbytes d8) hl)⟩
end CodL
/-- the String at a is Latin-1 over a new byte[] (the heap's one new cell): the low bytes of the len chars of A from o on; every cell but a is kept -/
def Got (a : Addr) (D : Cell) (fV fC : Field) (A : Cell) (o len : Nat) (r : Option Value) (s u : State) : Prop := r = none ∧ ∃ D' V : Cell, Blank "java/lang/String" a D' u ∧ Same D D' [fV.slot, fC.slot] ∧ D'.slots[fV.slot]? = some (.ref s.heap.size) ∧ D'.slots[fC.slot]? = some (.int 0) ∧ Arr .byte s.heap.size V u ∧ V.vm = .none ∧ u.vm.findClass "[B" = some V.cls ∧ V.slots.size = len ∧ (∀ j, j < len → V.slots[j]? = some (.int (lo8 (cv A (o + j))))) ∧ (∀ (y : Addr) (c : Cell), y ≠ a → s.heap[y]? = some c → u.heap[y]? = some c) ∧ u.heap.size = s.heap.size + 1
theorem Got.mv {a : Addr} {D A : Cell} {fV fC : Field} {o len : Nat} : ∀ r (U U' V V' : State), U'.heap = U.heap → V.vm.Alike V'.vm → V'.heap = V.heap → Got a D fV fC A o len r U V → Got a D fV fC A o len r U' V' :=
  fun r U U' V V' h1 hal h2 ⟨e0, D', X, a1, a2, a3, a4, a5, a6, a7, a8, a9, a10, a11⟩ => ⟨e0, D', X, a1.mv hal h2, a2, by rw [h1]; exact a3, a4, by rw [h1]; exact a5.mv hal h2, a6, by rw [hal.findClass]; exact a7, a8, a9, by rw [h1, h2]; exact a10, by rw [h1, h2]; exact a11⟩
namespace New4
def yN : MethodName := ⟨"java/lang/String", "<init>", "([CIILjava/lang/Void;)V"⟩
abbrev yB : ByteArray := jdk_42_method_149_code
theorem d0 : decode yB 0 = .ok (.aload_n 0, 1) := by decide +kernel
theorem d1 : decode yB 1 = .ok (.invokespecial 1, 3) := by decide +kernel
theorem d4 : decode yB 4 = .ok (.iload_n 3, 1) := by decide +kernel
theorem d5 : decode yB 5 = .ok (.ifCond (.ne) 22, 3) := by decide +kernel
theorem d27 : decode yB 27 = .ok (.getstatic 38, 3) := by decide +kernel
theorem d30 : decode yB 30 = .ok (.ifCond (.eq) 28, 3) := by decide +kernel
theorem d33 : decode yB 33 = .ok (.aload_n 1, 1) := by decide +kernel
theorem d34 : decode yB 34 = .ok (.iload_n 2, 1) := by decide +kernel
theorem d35 : decode yB 35 = .ok (.iload_n 3, 1) := by decide +kernel
theorem d36 : decode yB 36 = .ok (.invokestatic 177, 3) := by decide +kernel
theorem d39 : decode yB 39 = .ok (.astore 5, 2) := by decide +kernel
theorem d41 : decode yB 41 = .ok (.aload_n 0, 1) := by decide +kernel
theorem d42 : decode yB 42 = .ok (.aload 5, 2) := by decide +kernel
theorem d44 : decode yB 44 = .ok (.iload_n 3, 1) := by decide +kernel
theorem d45 : decode yB 45 = .ok (.invokestatic 47, 3) := by decide +kernel
theorem d48 : decode yB 48 = .ok (.putfield 15, 3) := by decide +kernel
theorem d51 : decode yB 51 = .ok (.aload_n 0, 1) := by decide +kernel
theorem d52 : decode yB 52 = .ok (.aload 5, 2) := by decide +kernel
theorem d54 : decode yB 54 = .ok (.putfield 9, 3) := by decide +kernel
theorem d57 : decode yB 57 = .ok (.return_, 1) := by decide +kernel
def site : List Cond := [.fieldLink "java/lang/String" 38 "java/lang/String" "COMPACT_STRINGS" "Z", Cmp3.tab, CodL.tab, .laysFinal "java/lang/String" "java/lang/String" "value" "[B", .fieldLink "java/lang/String" 9 "java/lang/String" "value" "[B", .laysFinal "java/lang/String" "java/lang/String" "coder" "B", .fieldLink "java/lang/String" 15 "java/lang/String" "coder" "B"] ++ objW "java/lang/String" 1 ++ staticW "java/lang/String" 177 Cmp3.yN ++ staticW "java/lang/String" 47 CodL.yN
def tab : Cond := tabOf yN yB 6 none site
def P (a : Addr) (D : Cell) (fV fC : Field) (b : Addr) (A : Cell) (z : Int32) (o len : Nat) (args : Array Value) (s : State) : Prop := args = #[.ref a, .ref b, .int (Int32.ofNat o), .int (Int32.ofNat len), .null] ∧ Blank "java/lang/String" a D s ∧ Found "java/lang/String" "value" "[B" fV s ∧ Found "java/lang/String" "coder" "B" fC s ∧ Ch b A s ∧ StaticIs s "java/lang/String" "COMPACT_STRINGS" "Z" (.int z) ∧ ¬ z = 0 ∧ 0 < len ∧ o + len ≤ A.slots.size ∧ len ≤ 536870912 ∧ ∀ i, i < len → ¬ 255 < cv A (o + i)
def E (a : Addr) (D : Cell) (fV fC : Field) (A : Cell) (o len : Nat) (r : Option Value) (s u : State) : Prop := Got a D fV fC A o len r s u
/-- len > 0, no char of the range above 255: a Latin-1 String of their low bytes -/
theorem law (l : Launch) (a : Addr) (D : Cell) (fV fC : Field) (b : Addr) (A : Cell) (z : Int32) (o len : Nat) : Law l yN 5 4 2 35 yB 6 none site (P a D fV fC b A z o len) (E a D fV fC A o len) [⟨a, fC.slot⟩, ⟨a, fV.slot⟩] 1 len := by
  refine Law.of_walk (plainFor_of_name (by decide +kernel)) (by decide +kernel) (by decide +kernel) (by decide) (fun _ _ h => by rw [h.1]; rfl) (fun _ U U' hal hh h => ⟨h.1, h.2.1.mv hal hh, h.2.2.1.al hal, h.2.2.2.1.al hal, h.2.2.2.2.1.mv hal hh, h.2.2.2.2.2.1.there hal hh, h.2.2.2.2.2.2⟩) (fun r U U' V V' h1 hal h2 h => Got.mv r U U' V V' h1 hal h2 h) ?_
  intro p e s m args below meth c s₁ X0 hexec hbytes hml hret hlk hnm hown hh0 W hP
  obtain ⟨rfl, hB, f1, f2, hA, s1, hz, l0, l1, l2, hp⟩ := hP
  have a31 := hA.1.2.2.2
  have c1 : Steps p.tables e below (s₁.setTop (entryFrame m #[.ref a, .ref b, .int (Int32.ofNat o), .int (Int32.ofNat len), .null] 6)) (s₁.setTop (mkF m 0 #[.val (.ref a), .val (.ref b), .val (.int (Int32.ofNat o)), .val (.int (Int32.ofNat len)), .val .null, .unset] [])) := entry rfl
  have c2 : Steps p.tables e below (s₁.setTop (entryFrame m #[.ref a, .ref b, .int (Int32.ofNat o), .int (Int32.ofNat len), .null] 6)) (s₁.setTop (mkF m 1 #[.val (.ref a), .val (.ref b), .val (.int (Int32.ofNat o)), .val (.int (Int32.ofNat len)), .val .null, .unset] [.ref a])) := c1.trans (by
    refine XS.aloadN X0.here hexec rfl (hb hbytes d0) rfl rfl ?_
    exact Steps.refl _)
  obtain ⟨T3, X3, q3, st3⟩ := X0.oinit hexec hown (wks W (objW "java/lang/String" 1)) (g := (mkF m 1 #[.val (.ref a), .val (.ref b), .val (.int (Int32.ofNat o)), .val (.int (Int32.ofNat len)), .val .null, .unset] [.ref a])) rfl (by rw [hml]; rfl) (rest := []) rfl (hb hbytes d1) (W := 0) (by show 2 * 0 + 0 ≤ _; decide) (Nat.le_of_ble_eq_true rfl) (Nat.le_of_ble_eq_true rfl)
  have hh3 := q3.trans hh0
  have c4 : Steps p.tables e below (s₁.setTop (entryFrame m #[.ref a, .ref b, .int (Int32.ofNat o), .int (Int32.ofNat len), .null] 6)) (T3.setTop (mkF m 27 #[.val (.ref a), .val (.ref b), .val (.int (Int32.ofNat o)), .val (.int (Int32.ofNat len)), .val .null, .unset] [])) := (c2.trans (st3 _ (Steps.refl _))).trans (by
    refine XS.iloadN X3.here hexec rfl (hb hbytes d4) rfl ?_
    refine XS.ifYes X3.here hexec rfl (pc0 := 5) rfl (hb hbytes d5) rfl (i0_ne_t (nz32 (by omega) l0)) (by decide) rfl ?_
    exact Steps.refl _)
  obtain ⟨T5, X5, q5, st5⟩ := X3.sget hexec hown (wk W (.fieldLink "java/lang/String" 38 "java/lang/String" "COMPACT_STRINGS" "Z")) s1 (fun _ _ h => by rw [hh3]; exact h) (g := (mkF m 27 #[.val (.ref a), .val (.ref b), .val (.int (Int32.ofNat o)), .val (.int (Int32.ofNat len)), .val .null, .unset] [])) rfl (hb hbytes d27)
  have hh5 := q5.trans hh3
  have c6 : Steps p.tables e below (s₁.setTop (entryFrame m #[.ref a, .ref b, .int (Int32.ofNat o), .int (Int32.ofNat len), .null] 6)) (T5.setTop (mkF m 30 #[.val (.ref a), .val (.ref b), .val (.int (Int32.ofNat o)), .val (.int (Int32.ofNat len)), .val .null, .unset] [.int z])) := c4.trans (st5 _ (Steps.refl _))
  have c7 : Steps p.tables e below (s₁.setTop (entryFrame m #[.ref a, .ref b, .int (Int32.ofNat o), .int (Int32.ofNat len), .null] 6)) (T5.setTop (mkF m 36 #[.val (.ref a), .val (.ref b), .val (.int (Int32.ofNat o)), .val (.int (Int32.ofNat len)), .val .null, .unset] [.int (Int32.ofNat len), .int (Int32.ofNat o), .ref b])) := c6.trans (by
    refine XS.ifNo X5.here hexec rfl (hb hbytes d30) rfl (i0_eq_f hz) ?_
    refine XS.aloadN X5.here hexec rfl (hb hbytes d33) rfl rfl ?_
    refine XS.iloadN X5.here hexec rfl (hb hbytes d34) rfl ?_
    refine XS.iloadN X5.here hexec rfl (hb hbytes d35) rfl ?_
    exact Steps.refl _)
  obtain ⟨v8, T8, X8, E8, g8⟩ := X5.callS hexec (Cmp3.law l b A o len) hown (wks W (staticW "java/lang/String" 177 Cmp3.yN)) (wk W Cmp3.tab) (W := 0) (Nat.le_of_ble_eq_true rfl) (Nat.le_of_ble_eq_true rfl) (Nat.le_refl _) (by show 0 + len ≤ len; omega) (g := (mkF m 36 #[.val (.ref a), .val (.ref b), .val (.int (Int32.ofNat o)), .val (.int (Int32.ofNat len)), .val .null, .unset] [.int (Int32.ofNat len), .int (Int32.ofNat o), .ref b])) rfl (by rw [hml]; rfl) c7 (argsL := [.ref b, .int (Int32.ofNat o), .int (Int32.ofNat len)]) (rest := []) rfl rfl (by show 2 * 0 + 0 ≤ _; decide) (hb hbytes d36) (⟨rfl, hA.mv X5.warmed.alike hh5, l1, l2, hp⟩)
  obtain ⟨e8, z8⟩ := E8
  obtain ⟨rfl, N, n1, n2, n3, n4, n5, n6⟩ := NewArr.mv _ T5 s _ _ hh5.symm (Vm.Alike.refl _) rfl e8
  rw [hh5] at z8
  have hB1 := hB.keep X8.warmed.alike (n6 _ _ hB.1)
  have hne : s.heap.size ≠ a := (Nat.ne_of_lt (Array.getElem?_eq_some_iff.mp hB.1).1).symm
  have c9 : Steps p.tables e below (s₁.setTop (entryFrame m #[.ref a, .ref b, .int (Int32.ofNat o), .int (Int32.ofNat len), .null] 6)) (T8.setTop (mkF m 39 #[.val (.ref a), .val (.ref b), .val (.int (Int32.ofNat o)), .val (.int (Int32.ofNat len)), .val .null, .unset] [.ref s.heap.size])) := g8
  have c10 : Steps p.tables e below (s₁.setTop (entryFrame m #[.ref a, .ref b, .int (Int32.ofNat o), .int (Int32.ofNat len), .null] 6)) (T8.setTop (mkF m 45 #[.val (.ref a), .val (.ref b), .val (.int (Int32.ofNat o)), .val (.int (Int32.ofNat len)), .val .null, .val (.ref s.heap.size)] [.int (Int32.ofNat N.slots.size), .ref s.heap.size, .ref a])) := by
    have hc : Steps p.tables e below (s₁.setTop (entryFrame m #[.ref a, .ref b, .int (Int32.ofNat o), .int (Int32.ofNat len), .null] 6)) (T8.setTop (mkF m 45 #[.val (.ref a), .val (.ref b), .val (.int (Int32.ofNat o)), .val (.int (Int32.ofNat len)), .val .null, .val (.ref s.heap.size)] [.int (Int32.ofNat len), .ref s.heap.size, .ref a])) := c9.trans (by
      refine XS.astore X8.here hexec rfl (hb hbytes d39) rfl rfl rfl ?_
      refine XS.aloadN X8.here hexec rfl (hb hbytes d41) rfl rfl ?_
      refine XS.aload X8.here hexec rfl (hb hbytes d42) rfl rfl ?_
      refine XS.iloadN X8.here hexec rfl (hb hbytes d44) rfl ?_
      exact Steps.refl _)
    rw [n4]; exact hc
  obtain ⟨v11, T11, X11, E11, g11⟩ := X8.callS hexec (CodL.law l s.heap.size N) hown (wks W (staticW "java/lang/String" 47 CodL.yN)) (wk W CodL.tab) (W := 1) (Nat.le_of_ble_eq_true rfl) (Nat.le_of_ble_eq_true rfl) (Nat.le_refl _) (by show 0 + len + 0 ≤ len; omega) (g := (mkF m 45 #[.val (.ref a), .val (.ref b), .val (.int (Int32.ofNat o)), .val (.int (Int32.ofNat len)), .val .null, .val (.ref s.heap.size)] [.int (Int32.ofNat N.slots.size), .ref s.heap.size, .ref a])) rfl (by rw [hml]; rfl) c10 (argsL := [.ref s.heap.size, .int (Int32.ofNat N.slots.size)]) (rest := [.ref a]) rfl rfl (by show 2 * 0 + (1 + 0) ≤ _; decide) (hb hbytes d45) (⟨rfl, n1⟩)
  obtain ⟨rfl, q11⟩ := E11
  have hB11 := hB1.mv (X8.warmed.alike.symm.trans X11.warmed.alike) q11
  have c12 : Steps p.tables e below (s₁.setTop (entryFrame m #[.ref a, .ref b, .int (Int32.ofNat o), .int (Int32.ofNat len), .null] 6)) (T11.setTop (mkF m 48 #[.val (.ref a), .val (.ref b), .val (.int (Int32.ofNat o)), .val (.int (Int32.ofNat len)), .val .null, .val (.ref s.heap.size)] [.int 0, .ref a])) := g11
  obtain ⟨T13, X13, p13, bl13, sl13, st13⟩ := X11.finit hexec hown (wk W (.fieldLink "java/lang/String" 15 "java/lang/String" "coder" "B")) (Or.inr ⟨_, (wk W (.laysFinal "java/lang/String" "java/lang/String" "coder" "B"))⟩) (Or.inl ⟨rfl, hnm⟩) f2 (Or.inl rfl) hB11 (t := .byte) (by decide +kernel) rfl (g := (mkF m 48 #[.val (.ref a), .val (.ref b), .val (.int (Int32.ofNat o)), .val (.int (Int32.ofNat len)), .val .null, .val (.ref s.heap.size)] [.int 0, .ref a])) rfl (rest := []) rfl (hb hbytes d48)
  have c14 : Steps p.tables e below (s₁.setTop (entryFrame m #[.ref a, .ref b, .int (Int32.ofNat o), .int (Int32.ofNat len), .null] 6)) (T13.setTop (mkF m 54 #[.val (.ref a), .val (.ref b), .val (.int (Int32.ofNat o)), .val (.int (Int32.ofNat len)), .val .null, .val (.ref s.heap.size)] [.ref s.heap.size, .ref a])) := (c12.trans (st13 _ (Steps.refl _))).trans (by
    refine XS.aloadN X13.here hexec rfl (hb hbytes d51) rfl rfl ?_
    refine XS.aload X13.here hexec rfl (hb hbytes d52) rfl rfl ?_
    exact Steps.refl _)
  obtain ⟨T15, X15, p15, bl15, sl15, st15⟩ := X13.finit hexec hown (wk W (.fieldLink "java/lang/String" 9 "java/lang/String" "value" "[B")) (Or.inr ⟨_, (wk W (.laysFinal "java/lang/String" "java/lang/String" "value" "[B"))⟩) (Or.inl ⟨rfl, hnm⟩) f1 (Or.inl rfl) bl13 (t := (.array .byte)) (by decide +kernel) rfl (g := (mkF m 54 #[.val (.ref a), .val (.ref b), .val (.int (Int32.ofNat o)), .val (.int (Int32.ofNat len)), .val .null, .val (.ref s.heap.size)] [.ref s.heap.size, .ref a])) rfl (rest := []) rfl (hb hbytes d54)
  have c16 : Steps p.tables e below (s₁.setTop (entryFrame m #[.ref a, .ref b, .int (Int32.ofNat o), .int (Int32.ofNat len), .null] 6)) (T15.setTop (mkF m 57 #[.val (.ref a), .val (.ref b), .val (.int (Int32.ofNat o)), .val (.int (Int32.ofNat len)), .val .null, .val (.ref s.heap.size)] [])) := c14.trans (st15 _ (Steps.refl _))
  have ap := apart (Or.inr ⟨_, (wk W (.laysFinal "java/lang/String" "java/lang/String" "value" "[B"))⟩) (Or.inr ⟨_, (wk W (.laysFinal "java/lang/String" "java/lang/String" "coder" "B"))⟩) f1 f2 (t₁ := .array .byte) (t₂ := .byte) (by decide +kernel) (by decide +kernel) (by decide)
  have al := X8.warmed.alike.symm.trans X15.warmed.alike
  have n7 : T11.heap[s.heap.size]? = some N := by rw [q11]; exact n1.1
  exact ⟨T15, none, _, _, _, X15, by simp, rfl, by omega, (fun _ => rfl), ⟨rfl, _, N, bl15, ((Same.refl D _).set _ (by simp)).set _ (by simp), sl15, (Cell.slots_setSlot_ne _ ap).trans sl13, n1.keep al (p15.other hne (p13.other hne n7)), n2, by rw [al.findClass]; exact n3, n4, n5, fun y c h1 h2 => p15.other h1 (p13.other h1 (by rw [q11]; exact n6 y c h2)), by rw [p15.2.2, p13.2.2, q11]; exact z8⟩, fun fs hl => c16.trans (X15.returnOut hexec hret (hb hbytes d57) hl)⟩
end New4
namespace New1
def yN : MethodName := ⟨"java/lang/String", "<init>", "([C)V"⟩
abbrev yB : ByteArray := jdk_42_method_3_code
theorem d0 : decode yB 0 = .ok (.aload_n 0, 1) := by decide +kernel
theorem d1 : decode yB 1 = .ok (.aload_n 1, 1) := by decide +kernel
theorem d2 : decode yB 2 = .ok (.iconst 0, 1) := by decide +kernel
theorem d3 : decode yB 3 = .ok (.aload_n 1, 1) := by decide +kernel
theorem d4 : decode yB 4 = .ok (.arraylength, 1) := by decide +kernel
theorem d5 : decode yB 5 = .ok (.aconst_null, 1) := by decide +kernel
theorem d6 : decode yB 6 = .ok (.invokespecial 27, 3) := by decide +kernel
theorem d9 : decode yB 9 = .ok (.return_, 1) := by decide +kernel
def site : List Cond := [New4.tab] ++ initW "java/lang/String" 27 New4.yN
def tab : Cond := tabOf yN yB 2 none site
def P (a : Addr) (D : Cell) (fV fC : Field) (b : Addr) (A : Cell) (z : Int32) (args : Array Value) (s : State) : Prop := args = #[.ref a, .ref b] ∧ Blank "java/lang/String" a D s ∧ Found "java/lang/String" "value" "[B" fV s ∧ Found "java/lang/String" "coder" "B" fC s ∧ Ch b A s ∧ StaticIs s "java/lang/String" "COMPACT_STRINGS" "Z" (.int z) ∧ ¬ z = 0 ∧ 0 < A.slots.size ∧ A.slots.size ≤ 536870912 ∧ ∀ i, i < A.slots.size → ¬ 255 < cv A i
def E (a : Addr) (D : Cell) (fV fC : Field) (A : Cell) (r : Option Value) (s u : State) : Prop := Got a D fV fC A 0 A.slots.size r s u
/-- new String(chars), not empty, no char above 255: a Latin-1 String of their low bytes -/
theorem law (l : Launch) (a : Addr) (D : Cell) (fV fC : Field) (b : Addr) (A : Cell) (z : Int32) : Law l yN 2 1 3 52 yB 2 none site (P a D fV fC b A z) (E a D fV fC A) [⟨a, fC.slot⟩, ⟨a, fV.slot⟩] 1 A.slots.size := by
  refine Law.of_walk (plainFor_of_name (by decide +kernel)) (by decide +kernel) (by decide +kernel) (by decide) (fun _ _ h => by rw [h.1]; rfl) (fun _ U U' hal hh h => ⟨h.1, h.2.1.mv hal hh, h.2.2.1.al hal, h.2.2.2.1.al hal, h.2.2.2.2.1.mv hal hh, h.2.2.2.2.2.1.there hal hh, h.2.2.2.2.2.2⟩) (fun r U U' V V' h1 hal h2 h => Got.mv r U U' V V' h1 hal h2 h) ?_
  intro p e s m args below meth c s₁ X0 hexec hbytes hml hret hlk hnm hown hh0 W hP
  obtain ⟨rfl, hB, f1, f2, hA, s1, hz, l0, l2, hp⟩ := hP
  have c1 : Steps p.tables e below (s₁.setTop (entryFrame m #[.ref a, .ref b] 2)) (s₁.setTop (mkF m 0 #[.val (.ref a), .val (.ref b)] [])) := entry rfl
  have c2 : Steps p.tables e below (s₁.setTop (entryFrame m #[.ref a, .ref b] 2)) (s₁.setTop (mkF m 6 #[.val (.ref a), .val (.ref b)] [.null, .int (Int32.ofNat A.slots.size), .int 0, .ref b, .ref a])) := c1.trans (by
    refine XS.aloadN X0.here hexec rfl (hb hbytes d0) rfl rfl ?_
    refine XS.aloadN X0.here hexec rfl (hb hbytes d1) rfl rfl ?_
    refine iconstV X0.here hexec rfl 0 (hb hbytes d2) (by decide) ?_
    refine XS.aloadN X0.here hexec rfl (hb hbytes d3) rfl rfl ?_
    refine X0.alen hexec (hA.1.mv X0.warmed.alike hh0) rfl rfl (hb hbytes d4) ?_
    refine XS.aconstNull X0.here hexec rfl (hb hbytes d5) ?_
    exact Steps.refl _)
  obtain ⟨v3, T3, X3, E3, g3⟩ := X0.callN hexec (New4.law l a D fV fC b A z 0 A.slots.size) rfl hown (wks W (initW "java/lang/String" 27 New4.yN)) (W New4.tab (by simp only [site, List.mem_cons, List.mem_append, true_or, or_true])) (W := 0) (Nat.le_of_ble_eq_true rfl) (Nat.le_of_ble_eq_true rfl) (Nat.le_refl _) (by show 0 + A.slots.size ≤ A.slots.size; omega) (g := (mkF m 6 #[.val (.ref a), .val (.ref b)] [.null, .int (Int32.ofNat A.slots.size), .int (Int32.ofNat 0), .ref b, .ref a])) rfl (by rw [hml]; rfl) c2 (argsL := [.ref b, .int (Int32.ofNat 0), .int (Int32.ofNat A.slots.size), .null]) (rest := []) rfl rfl (by show 2 * 0 + 0 ≤ _; decide) (hb hbytes d6) (⟨rfl, hB.mv X0.warmed.alike hh0, f1.al X0.warmed.alike, f2.al X0.warmed.alike, hA.mv X0.warmed.alike hh0, s1.there X0.warmed.alike hh0, hz, l0, by omega, l2, fun i hi => by rw [Nat.zero_add]; exact hp i hi⟩)
  have e0 := Got.mv _ s₁ s _ _ hh0.symm (Vm.Alike.refl _) rfl E3
  obtain rfl := e0.1
  have c4 : Steps p.tables e below (s₁.setTop (entryFrame m #[.ref a, .ref b] 2)) (T3.setTop (mkF m 9 #[.val (.ref a), .val (.ref b)] [])) := g3
  exact ⟨T3, none, _, _, _, X3, by simp, rfl, by omega, (fun _ => rfl), e0, fun fs hl => c4.trans (X3.returnOut hexec hret (hb hbytes d9) hl)⟩
theorem pays {l : Launch} {R : Room} {p : Program} {e : Env} {below : List Frame} {s : State} {sargs : Array Value} {len W : Nat} (a : Addr) (D : Cell) (fV fC : Field) (b : Addr) (A : Cell) (z : Int32) (htab : tab.before sargs s = true) (hfr : 4 ≤ R.frames) (hlo : W + 65 ≤ R.locals) :
    Back l R p e below s sargs yN len W (fun A₁ a₁ => A₁.cells + 1 ≤ R.cells ∧ A₁.slots + A.slots.size ≤ R.slots ∧ P a D fV fC b A z a₁ A₁.U) (fun A₁ _ v₁ B₁ => E a D fV fC A v₁ A₁.U B₁.U ∧ B₁.locs = A₁.locs ++ [⟨a, fC.slot⟩, ⟨a, fV.slot⟩] ∧ B₁.cells = A₁.cells + 1 ∧ B₁.slots = A₁.slots + A.slots.size) :=
  (law l a D fV fC b A z).pays htab hfr (by omega)
end New1
/-- the byte, read back as charAt reads it, is the char -/
theorem lo8_mask {x : Int32} (h0 : ¬ x < 0) (h1 : ¬ 255 < x) : lo8 x &&& 255 = x := by
  have t : ∀ k : Fin 256, lo8 (Int32.ofNat k.val) &&& 255 = Int32.ofNat k.val := by decide +kernel
  rw [Int32.lt_iff_toInt_lt] at h0 h1
  have e0 : (0 : Int32).toInt = 0 := rfl
  have e1 : (255 : Int32).toInt = 255 := rfl
  obtain ⟨k, hk⟩ : ∃ k : Nat, x.toInt = k := ⟨x.toInt.toNat, by omega⟩
  have hx : x = Int32.ofNat k := Int32.toInt_inj.mp (by rw [hk, Int32.toInt_ofNat_small (by omega)])
  rw [hx]
  exact t ⟨k, by omega⟩
end StrChars
namespace StrChars.Road
open Jvm Sem ClassFile Op Lib Jvm.Stand Jvm.Free Jvm.Free.XT
open Jvm.Lib.Cold (StaticIs)
abbrev ST : String := "java/lang/String"
/-- every table word that New1's law asks, flat -/
abbrev words : List Jvm.Cond := [.code New1.yN New1.yB 2 none, .initialized ST, .methodLink ST 27 New4.yN, .instanceMethod New4.yN,
  .code New4.yN New4.yB 6 none, .fieldLink ST 38 ST "COMPACT_STRINGS" "Z", .laysFinal ST ST "value" "[B", .fieldLink ST 9 ST "value" "[B", .laysFinal ST ST "coder" "B", .fieldLink ST 15 ST "coder" "B",
  .methodLink ST 1 Lib.objectInit, .instanceMethod Lib.objectInit, .code Lib.objectInit ⟨#[0xb1]⟩ 1 none, .methodLink ST 177 Cmp3.yN, .static Cmp3.yN, .methodLink ST 47 CodL.yN, .static CodL.yN,
  .code Cmp3.yN Cmp3.yB 6 (some (.array .byte)), .initialized U16, .arrayClass .byte, .methodLink U16 115 Cmp5.yN, .static Cmp5.yN, .code Cmp5.yN Cmp5.yB 7 (some .int), .code CodL.yN CodL.yB 2 (some .byte)]
theorem tab_of {a : Array Value} {s : State} (h : ∀ w ∈ words, w.before a s = true) : New1.tab.before a s = true := by
  have h5 : Cmp5.tab.before a s = true := unparts (wk h (.code Cmp5.yN Cmp5.yB 7 (some .int))) (wks h (.initialized Cmp5.yN.cls :: Cmp5.site))
  have hc : CodL.tab.before a s = true := unparts (wk h (.code CodL.yN CodL.yB 2 (some .byte))) (wks h (.initialized CodL.yN.cls :: CodL.site))
  have q5 : ∀ w ∈ Cmp5.tab :: words, w.before a s = true := fun w hw => (List.mem_cons.mp hw).elim (fun e => e ▸ h5) (h w)
  have h3 : Cmp3.tab.before a s = true := unparts (wk q5 (.code Cmp3.yN Cmp3.yB 6 (some (.array .byte)))) (wks q5 (.initialized Cmp3.yN.cls :: Cmp3.site))
  have q3 : ∀ w ∈ Cmp3.tab :: CodL.tab :: words, w.before a s = true := fun w hw => (List.mem_cons.mp hw).elim (fun e => e ▸ h3) fun hw => (List.mem_cons.mp hw).elim (fun e => e ▸ hc) (h w)
  have h4 : New4.tab.before a s = true := unparts (wk q3 (.code New4.yN New4.yB 6 none)) (wks q3 (.initialized New4.yN.cls :: New4.site))
  have q4 : ∀ w ∈ New4.tab :: words, w.before a s = true := fun w hw => (List.mem_cons.mp hw).elim (fun e => e ▸ h4) (h w)
  exact unparts (wk q4 (.code New1.yN New1.yB 2 none)) (wks q4 (.initialized New1.yN.cls :: New1.site))
/-- the words ride from the start Z to the walk's own state -/
theorem moved {Z s : State} {a0 args : Array Value} (hZ : Z.Warmed39 s.vm) (hw : ∀ d ∈ words, d.before a0 Z = true) : ∀ d ∈ words, d.before args s = true := fun d hd => by
  have q := hw d hd
  have t : ∀ d ∈ words, d = .arrayClass .byte ∨ (d.onTables && d.keepsFace) = true := by decide +kernel
  rcases t d hd with rfl | t
  · exact RoadKit.mvA hZ q
  · exact RoadKit.mv hZ q t
/-- WHAT COMES BACK, over the tables of the start Z: h the heap at the call, h' behind it -/
def Q (Z : State) (x : Addr) (A : Cell) (h : Heap) (v : Option Value) (h' : Heap) (L : List Loc) : Prop := v = none ∧ (∀ y ∈ L, y.base = x) ∧ RoadKit.Keep h h' [x] ∧ h'.size = h.size + 1 ∧ RoadKit.Exa Z h' x ST ∧ RoadKit.Fld Z h' x ST "value" "[B" (.ref h.size) ∧ RoadKit.Fld Z h' x ST "coder" "B" (.int 0) ∧
  (∃ V : Cell, RoadKit.Arr Z h' h.size V .byte ∧ V.vm = .none ∧ Z.vm.findClass "[B" = some V.cls ∧ V.slots.size = A.slots.size ∧ ∀ j, j < A.slots.size → V.slots[j]? = some (.int (lo8 (cv A j)))) ∧
  ∀ (O n d : String) (w : Value), RoadKit.Fld Z h x O n d w → RoadKit.slotOf Z O n d ≠ RoadKit.slotOf Z ST "value" "[B" → RoadKit.slotOf Z O n d ≠ RoadKit.slotOf Z ST "coder" "B" → RoadKit.Fld Z h' x O n d w
/-- **new String(chars) AT A CALL, IN THE ROAD'S FORM**: for specialBack behind newO: x the fresh String, b the char[] with the cell A -/
theorem back {p : Program} {l : Launch} {e : Env} {R : Room} {s : State} {args : Array Value} {below : List Frame} {len W : Nat} {Z : State} {a0 : Array Value} {h : Heap} (hZ : Z.Warmed39 s.vm) (hw : ∀ d ∈ words, d.before a0 Z = true) {kI : Nat} (wi : (Jvm.Cond.instantiable ST kI).before a0 Z = true)
    {x b : Addr} {A : Cell} {z : Int32} {v0 c0 : Value} (E : RoadKit.Exa Z h x ST) (V : RoadKit.Fld Z h x ST "value" "[B" v0) (C : RoadKit.Fld Z h x ST "coder" "B" c0) (K : RoadKit.Arr Z h b A .char) (hty : Typed .char A) (S : RoadKit.Sta Z h ST "COMPACT_STRINGS" "Z" (.int z)) (hz : ¬ z = 0)
    (l0 : 0 < A.slots.size) (l2 : A.slots.size ≤ 536870912) (hp : ∀ i, i < A.slots.size → ¬ 255 < cv A i) (hfr : 4 ≤ R.frames) (hlo : W + 65 ≤ R.locals) :
    Back l R p e below s args New1.yN len W (fun P a => a = #[.ref x, .ref b] ∧ P.U.heap = h ∧ P.cells + 1 ≤ R.cells ∧ P.slots + A.slots.size ≤ R.slots)
      (fun P _ v B => ∃ L, Q Z x A h v B.U.heap L ∧ B.locs = P.locs ++ L ∧ B.cells = P.cells + 1 ∧ B.slots = P.slots + A.slots.size) := by
  intro m meth c P g ig mk a X hg hsize hdg hW hn hp'
  obtain ⟨rfl, rfl, r1, r2⟩ := hp'
  have al : Z.vm.Alike P.U.vm := hZ.alike.trans X.warmed.alike
  obtain ⟨D, cfV, kV, iV, fV, hD, gV, stV, knV, obV, asV, slV⟩ := id V
  obtain ⟨D', cfC, kC, iC, fC, hD', gC, stC, -, -, asC, slC⟩ := id C
  cases hD.symm.trans hD'
  obtain ⟨D2, kD, e1, e2, e3, e4, e5⟩ := id E
  cases hD.symm.trans e1
  obtain ⟨c2, k2, i1, i2, i3, -⟩ := Cond.instantiable_spec wi
  cases e2.symm.trans i1
  cases e3.symm.trans i2
  obtain ⟨kU, u1, u2⟩ := al.2.2 _ _ e3
  have hB : Blank ST x D P.U := ⟨hD, ⟨knV, fun q hq => by rw [hq] at obV; cases obV⟩, by rw [al.findClass]; exact e2, kU, u1, by rw [u2]; exact i3, by rw [u2]; exact e5 i3⟩
  have F1 : Found ST "value" "[B" fV P.U := ⟨SBG.found_only al ⟨cfV, kV, iV, gV⟩, stV⟩
  have F2 : Found ST "coder" "B" fC P.U := ⟨SBG.found_only al ⟨cfC, kC, iC, gC⟩, stC⟩
  have hA : Ch b A P.U := ⟨⟨K.1, State.isArrayOf_alike al K.2.1, K.2.2, by omega⟩, hty⟩
  have hS : StaticIs P.U ST "COMPACT_STRINGS" "Z" (.int z) := by
    obtain ⟨cfS, iS, kS, fS, st, cS, t1, t2, t3, t4, t5, t6, t7⟩ := S
    exact StaticIs.there (s := { Z with heap := P.U.heap }) ⟨cfS, iS, kS, fS, st, cS, t1, t2, t3, t4, t5, (fun q => by rw [q] at t6; cases t6), t7⟩ al rfl
  obtain ⟨v, B, X', ⟨⟨hv, E', V', q1, q2, q3, q4, q5, q6, q7, q8, q9, q10, q11⟩, hl, hc, hs⟩, st⟩ := New1.pays x D fV fC b A z (tab_of (moved hZ hw)) hfr hlo m meth c P g ig mk _ X hg hsize hdg hW hn ⟨r1, r2, rfl, hB, F1, F2, hA, hS, hz, l0, l2, hp⟩
  have al' : Z.vm.Alike B.U.vm := hZ.alike.trans X'.warmed.alike
  have hsz : E'.slots.size = D.slots.size := by
    obtain ⟨-, -, -, kB, w1, w2, w3⟩ := q1
    obtain ⟨kB', y1, y2⟩ := al'.2.2 _ _ e3
    rw [q2.2.1] at w1
    cases w1.symm.trans y1
    rw [w3, e5 i3, y2]
  refine ⟨v, B, X', ⟨_, ⟨hv, ?_, ⟨by omega, fun y cy hy hn' => q10 y cy (by simpa using hn') hy, fun y cy hy => ?_⟩, q11, ⟨E', _, q1.1, by rw [q2.2.1]; exact e2, by rw [q2.2.1]; exact e3, by rw [q2.1]; exact obV, fun _ => by rw [hsz]; exact e5 i3⟩,
    ⟨E', cfV, kV, iV, fV, q1.1, gV, stV, by rw [q2.1]; exact knV, by rw [q2.1]; exact obV, by rw [q2.2.1]; exact asV, q3⟩, ⟨E', cfC, kC, iC, fC, q1.1, gC, stC, by rw [q2.1]; exact knV, by rw [q2.1]; exact obV, by rw [q2.2.1]; exact asC, q4⟩,
    ⟨V', ⟨q5.1, State.isArrayOf_alike al'.symm q5.2.1, q5.2.2.1⟩, q6, by rw [← al'.findClass]; exact q7, q8, fun j hj => by have := q9 j hj; rwa [Nat.zero_add] at this⟩, fun O n d w F n1 n2 => ?_⟩, hl, hc, hs⟩, st⟩
  · intro y hy
    simp only [List.mem_cons, List.not_mem_nil, or_false] at hy
    rcases hy with rfl | rfl <;> rfl
  · by_cases q : y = x
    · subst q
      cases hD.symm.trans hy
      exact ⟨E', q1.1, q2.2.1, q2.1, hsz⟩
    · exact ⟨cy, q10 y cy q hy, rfl, rfl, rfl⟩
  · obtain ⟨D3, cf, k, i, f, g1, g2, g3, g4, g5, g6, g7⟩ := F
    cases hD.symm.trans g1
    simp only [RoadKit.slotOf, g2, gV, gC, Option.map_some, Option.getD_some] at n1 n2
    exact ⟨E', cf, k, i, f, q1.1, g2, g3, by rw [q2.1]; exact g4, by rw [q2.1]; exact g5, by rw [q2.2.1]; exact g6, by rw [q2.2.2 f.slot (by simp [n1, n2])]; exact g7⟩
end StrChars.Road
namespace StrChars.Road
open Jvm Sem ClassFile Op Lib Jvm.Stand Jvm.Free Jvm.Free.XT
/-- WHAT COMES BACK, the byte[] as a list of values -/
def QA (Z : State) (x : Addr) (zn : Int32) (cs : List Int32) (h : Heap) (v : Option Value) (h' : Heap) (L : List Loc) : Prop := v = none ∧ (∀ y ∈ L, y.base = x) ∧ RoadKit.Keep h h' [x] ∧ h'.size = h.size + 1 ∧ RoadKit.Exa Z h' x ST ∧ RoadKit.Fld Z h' x ST "value" "[B" (.ref h.size) ∧ RoadKit.Fld Z h' x ST "coder" "B" (.int 0) ∧
  (∃ kb, Z.vm.findClass "[B" = some kb ∧ RoadKit.Arv Z h' h.size kb .byte zn (cs.map fun c => .int (lo8 c)) (.int 0)) ∧
  ∀ (O n d : String) (w : Value), RoadKit.Fld Z h x O n d w → RoadKit.slotOf Z O n d ≠ RoadKit.slotOf Z ST "value" "[B" → RoadKit.slotOf Z O n d ≠ RoadKit.slotOf Z ST "coder" "B" → RoadKit.Fld Z h' x O n d w
/-- **new String(chars) AT A CALL, THE ARRAYS AS LISTS**: the char[] at b holds cs, not empty, no char above 255 -/
theorem backArv {p : Program} {l : Launch} {e : Env} {R : Room} {s : State} {args : Array Value} {below : List Frame} {len W : Nat} {Z : State} {a0 : Array Value} {h : Heap} (hZ : Z.Warmed39 s.vm) (hw : ∀ d ∈ words, d.before a0 Z = true) {kI : Nat} (wi : (Jvm.Cond.instantiable ST kI).before a0 Z = true)
    {x b : Addr} {k : ClassId} {zn z : Int32} {cs : List Int32} {dv v0 c0 : Value} (E : RoadKit.Exa Z h x ST) (V : RoadKit.Fld Z h x ST "value" "[B" v0) (C : RoadKit.Fld Z h x ST "coder" "B" c0) (K : RoadKit.Arv Z h b k .char zn (cs.map Value.int) dv) (S : RoadKit.Sta Z h ST "COMPACT_STRINGS" "Z" (.int z)) (hz : ¬ z = 0)
    (hlen : zn.toNatClampNeg = cs.length) (h0 : 0 < cs.length) (hbig : cs.length ≤ 536870912) (hall : ∀ c ∈ cs, ¬ 255 < c) (hfr : 4 ≤ R.frames) (hlo : W + 65 ≤ R.locals) :
    Back l R p e below s args New1.yN len W (fun P a => a = #[.ref x, .ref b] ∧ P.U.heap = h ∧ P.cells + 1 ≤ R.cells ∧ P.slots + cs.length ≤ R.slots)
      (fun P _ v B => ∃ L, QA Z x zn cs h v B.U.heap L ∧ B.locs = P.locs ++ L ∧ B.cells = P.cells + 1 ∧ B.slots = P.slots + cs.length) := by
  obtain ⟨A, K1, K2, K3, K4, K5, K6⟩ := K
  have e : A.slots.size = cs.length := K3.trans hlen
  have hat : ∀ (i : Nat) (hi : i < cs.length), A.slots[i]? = some (.int cs[i]) := fun i hi => by rw [K5 i (by omega)]; simp [List.getD_eq_getElem?_getD, hi]
  have hcv : ∀ (i : Nat) (hi : i < cs.length), cv A i = cs[i] := fun i hi => by unfold cv; rw [hat i hi]
  have hty : Typed .char A := fun i v hv => by
    have hi : i < A.slots.size := (Array.getElem?_eq_some_iff.mp hv).1
    have q := K5 i hi
    rw [hv] at q
    rw [Option.some.inj q]
    exact K6 i hi
  refine Back.mono (back hZ hw wi E V C K1 hty S hz (by omega) (by omega) (fun i hi => by rw [hcv i (by omega)]; exact hall _ (List.getElem_mem _)) hfr hlo) (fun P a hp => ⟨hp.1, hp.2.1, hp.2.2.1, by rw [e]; exact hp.2.2.2⟩) (fun P a v B hp hq => ?_)
  obtain ⟨L, ⟨q1, q2, q3, q4, q5, q6, q7, ⟨V', v1, v2, v3, v4, v5⟩, q9⟩, hl, hc, hs⟩ := hq
  refine ⟨L, ⟨q1, q2, q3, q4, q5, q6, q7, ⟨V'.cls, v3, V', v1, rfl, by rw [v4, e, hlen], K4, fun i hi => ?_, fun i hi => ?_⟩, q9⟩, hl, hc, by rw [hs, e]⟩
  · have hi' : i < cs.length := by omega
    rw [v5 i (by omega), hcv i hi']; simp [List.getD_eq_getElem?_getD, hi']
  · have hi' : i < cs.length := by omega
    simp only [List.getD_eq_getElem?_getD, List.getElem?_map, List.getElem?_eq_getElem hi', Option.map_some, Option.getD_some]
    exact fits_lo8 _
end StrChars.Road
namespace StrChars.Road
open Jvm Sem ClassFile Op Lib Jvm.Stand Jvm.Free Jvm.Free.XT
/-- WHAT COMES BACK, in the writer's own shape -/
def QV (Z : State) (x : Addr) (N : Int32) (bs : List Int32) (h : Heap) (n0 : Nat) (v : Option Value) (h' : Heap) (L : List Loc) : Prop := v = none ∧ RoadKit.Fr n0 L ∧ RoadKit.Keep h h' [x] ∧ RoadKit.Exa Z h' x ST ∧ RoadKit.Fld Z h' x ST "coder" "B" (.int 0) ∧
  ∃ (t : Addr) (kb : ClassId), n0 ≤ t ∧ h.size ≤ t ∧ ¬ t = x ∧ RoadKit.Fld Z h' x ST "value" "[B" (.ref t) ∧ RoadKit.Arv Z h' t kb .byte N (bs.map Value.int) (.int 0)
/-- **new String(chars) AT A CALL, FOR THE WRITER**: a char[] of n known ints, each 0 to 255 -/
theorem backV {p : Program} {l : Launch} {e : Env} {R : Room} {s : State} {args : Array Value} {below : List Frame} {len W : Nat} {Z : State} {a0 : Array Value} {h : Heap} (hZ : Z.Warmed39 s.vm) (hw : ∀ d ∈ words, d.before a0 Z = true) {kI : Nat} (wi : (Jvm.Cond.instantiable ST kI).before a0 Z = true)
    {x b : Addr} {kC : ClassId} {cs bs : List Int32} {d v0 c0 : Value} {z N : Int32} {n n0 : Nat} (hx0 : n0 ≤ x) (hh0 : n0 ≤ h.size) (E : RoadKit.Exa Z h x ST) (V : RoadKit.Fld Z h x ST "value" "[B" v0) (C : RoadKit.Fld Z h x ST "coder" "B" c0) (K : RoadKit.Arv Z h b kC .char N (cs.map Value.int) d) (S : RoadKit.Sta Z h ST "COMPACT_STRINGS" "Z" (.int z)) (hz : ¬ z = 0)
    (hn : cs.length = n) (hN : N = Int32.ofNat n) (l0 : 0 < n) (l2 : n ≤ 4000) (hp : ∀ c ∈ cs, ¬ c < 0 ∧ ¬ (255 : Int32) < c) (hb : bs = cs.map (fun c => c.toInt8.toInt32)) (hfr : 4 ≤ R.frames) (hlo : W + 65 ≤ R.locals) :
    Back l R p e below s args (⟨"java/lang/String", "<init>", "([C)V"⟩ : MethodName) len W (fun P a => a = #[.ref x, .ref b] ∧ P.U.heap = h ∧ P.cells + 1 ≤ R.cells ∧ P.slots + n ≤ R.slots)
      (fun P _ v B => ∃ L, QV Z x N bs h n0 v B.U.heap L ∧ B.locs = P.locs ++ L ∧ B.cells = P.cells + 1 ∧ B.slots = P.slots + n) := by
  subst hn hN hb
  refine Back.mono (backArv hZ hw wi E V C K S hz (n32 (by omega)) l0 (by omega) (fun c hc => (hp c hc).2) hfr hlo) (fun P a hp => hp) (fun P a v B hp hq => ?_)
  obtain ⟨L, ⟨q1, q2, q3, q4, q5, q6, q7, ⟨kb, v1, v2⟩, q9⟩, hl, hc, hs⟩ := hq
  exact ⟨L, ⟨q1, fun y hy => by rw [q2 y hy]; exact hx0, q3, q5, q7, h.size, kb, hh0, Nat.le_refl _, Nat.ne_of_gt E.lt, q6, by rw [List.map_map]; exact v2⟩, hl, hc, hs⟩
end StrChars.Road
namespace StrChars
open Jvm Sem ClassFile Op Lib Jvm.Stand Jvm.Free.XT Jvm.Free.ALB Jvm.Free.JM Jvm.Free
open Jvm.Lib.Cold (StaticIs)
def hi8 (x : Int32) : Int32 := lo8 (x >>> ((8 : Int32) &&& 31))
/-- what StringUTF16.getChar makes of two bytes -/
def pairCh (u v : Int32) : Int32 := (((u &&& 255) <<< ((0 : Int32) &&& 31)) ||| ((v &&& 255) <<< ((8 : Int32) &&& 31))).toUInt32.toUInt16.toUInt32.toInt32
theorem shr0 (c : Int32) : c >>> ((0 : Int32) &&& 31) = c := by
  have e : ((0 : Int32) &&& 31) = 0 := by decide
  rw [e]
  apply Int32.toBitVec_inj.mp
  rw [Int32.toBitVec_shiftRight]
  have e1 : ((0 : Int32).toBitVec.smod 32) = 0#32 := by decide
  rw [e1, BitVec.sshiftRight_eq']
  exact BitVec.sshiftRight_zero
theorem lo8_and (x : Int32) : (lo8 x &&& 255).toBitVec.toNat = x.toBitVec.toNat % 256 := by
  have h : (lo8 x).toBitVec = (x.toBitVec.signExtend 8).signExtend 32 := by rw [lo8, Int8.toBitVec_toInt32, Int32.toBitVec_toInt8]
  rw [Int32.toBitVec_and, BitVec.toNat_and, h]
  have e : ((x.toBitVec.signExtend 8).signExtend 32).toNat % 256 = x.toBitVec.toNat % 256 := by
    rw [BitVec.toNat_signExtend]
    have hlt := x.toBitVec.isLt
    simp only [BitVec.toNat_setWidth, BitVec.toNat_signExtend]
    split <;> split <;> omega
  rw [← e]
  exact Nat.and_two_pow_sub_one_eq_mod _ 8
theorem pair_says {c : Int32} (h0 : ¬ c < 0) (h1 : ¬ 65535 < c) : pairCh (lo8 c) (hi8 c) = c := by
  rw [Int32.lt_iff_toInt_lt] at h0 h1
  have e0 : (0 : Int32).toInt = 0 := rfl
  have e1 : (65535 : Int32).toInt = 65535 := rfl
  have hc : c.toInt = c.toBitVec.toNat := by
    have := c.toBitVec.isLt
    have e : c.toInt = c.toBitVec.toInt := rfl
    rw [e] at h0 h1
    rw [e]
    rw [BitVec.toInt_eq_toNat_cond] at h0 h1 ⊢
    split at h0 <;> split <;> omega
  have hn : c.toBitVec.toNat < 65536 := by omega
  have a1 := lo8_and c
  have a2 : (hi8 c &&& 255).toBitVec.toNat = c.toBitVec.toNat / 256 := by
    rw [hi8, lo8_and]
    have e : ((8 : Int32) &&& 31) = 8 := by decide
    rw [e, Int32.toBitVec_shiftRight]
    have e2 : ((8 : Int32).toBitVec.smod 32) = 8#32 := by decide
    rw [e2, BitVec.sshiftRight_eq', BitVec.toNat_sshiftRight_of_msb_false (by rw [BitVec.msb_eq_false_iff_two_mul_lt]; omega)]
    show c.toBitVec.toNat >>> 8 % 256 = _
    rw [Nat.shiftRight_eq_div_pow]
    omega
  unfold pairCh
  apply Int32.toBitVec_inj.mp
  apply BitVec.eq_of_toNat_eq
  have f0 : ((0 : Int32) &&& 31) = 0 := by decide
  have f8 : ((8 : Int32) &&& 31) = 8 := by decide
  rw [f0, f8]
  have g : (((lo8 c &&& 255) <<< (0 : Int32)) ||| ((hi8 c &&& 255) <<< (8 : Int32))).toBitVec.toNat = c.toBitVec.toNat := by
    rw [Int32.toBitVec_or, Int32.toBitVec_shiftLeft, Int32.toBitVec_shiftLeft]
    have s0 : ((0 : Int32).toBitVec.smod 32) = 0#32 := by decide
    have s8 : ((8 : Int32).toBitVec.smod 32) = 8#32 := by decide
    rw [s0, s8, BitVec.toNat_or]
    simp only [BitVec.shiftLeft_eq', BitVec.toNat_shiftLeft, a1, a2]
    show (c.toBitVec.toNat % 256) <<< 0 % 2 ^ 32 ||| (c.toBitVec.toNat / 256) <<< 8 % 2 ^ 32 = _
    rw [Nat.shiftLeft_zero, Nat.mod_eq_of_lt (show c.toBitVec.toNat % 256 < 2 ^ 32 by omega), Nat.mod_eq_of_lt (show (c.toBitVec.toNat / 256) <<< 8 < 2 ^ 32 by rw [Nat.shiftLeft_eq]; omega), Nat.or_comm, ← Nat.shiftLeft_add_eq_or_of_lt (by omega), Nat.shiftLeft_eq]
    omega
  show BitVec.toNat (((((lo8 c &&& 255) <<< (0 : Int32)) ||| ((hi8 c &&& 255) <<< (8 : Int32))).toBitVec.setWidth 16).setWidth 32) = _
  rw [BitVec.toNat_setWidth, BitVec.toNat_setWidth, g]
  omega
end StrChars
namespace StrChars
open Jvm Sem ClassFile Op Lib Jvm.Stand Jvm.Free.XT Jvm.Free.ALB Jvm.Free.JM Jvm.Free
open Jvm.Lib.Cold (StaticIs)
theorem shr1 {n : Nat} (h : 2 * n < 2 ^ 31) : Int32.ofNat (2 * n) >>> ((1 : Int32) &&& 31) = Int32.ofNat n := by
  have e : ((1 : Int32) &&& 31) = 1 := by decide
  rw [e]
  apply Int32.toBitVec_inj.mp
  rw [Int32.toBitVec_shiftRight]
  have e1 : ((1 : Int32).toBitVec.smod 32) = 1#32 := by decide
  have hm : (BitVec.ofNat 32 (2 * n)).toNat = 2 * n := by rw [BitVec.toNat_ofNat, Nat.mod_eq_of_lt (by omega)]
  rw [e1, BitVec.sshiftRight_eq']
  apply BitVec.eq_of_toNat_eq
  show ((BitVec.ofNat 32 (2 * n)).sshiftRight 1).toNat = (BitVec.ofNat 32 n).toNat
  rw [BitVec.toNat_sshiftRight_of_msb_false (by rw [BitVec.msb_eq_false_iff_two_mul_lt, hm]; omega), hm, BitVec.toNat_ofNat, Nat.shiftRight_eq_div_pow]
  omega
/-- charAt's cast of a byte read back -/
def chr8 (u : Int32) : Int32 := (u &&& 255).toUInt32.toUInt16.toUInt32.toInt32
theorem chr8_lo8 {c : Int32} (h0 : ¬ c < 0) (h1 : ¬ 255 < c) : chr8 (lo8 c) = c := by
  have t : ∀ k : Fin 256, (Int32.ofNat k.val).toUInt32.toUInt16.toUInt32.toInt32 = Int32.ofNat k.val := by decide +kernel
  unfold chr8
  rw [lo8_mask h0 h1]
  rw [Int32.lt_iff_toInt_lt] at h0 h1
  have e0 : (0 : Int32).toInt = 0 := rfl
  have e1 : (255 : Int32).toInt = 255 := rfl
  obtain ⟨k, hk⟩ : ∃ k : Nat, c.toInt = k := ⟨c.toInt.toNat, by omega⟩
  have hx : c = Int32.ofNat k := Int32.toInt_inj.mp (by rw [hk, Int32.toInt_ofNat_small (by omega)])
  rw [hx]
  exact t ⟨k, by omega⟩
theorem narrow_ch {c : Int32} (h0 : ¬ c < 0) (h1 : ¬ 65535 < c) : narrow .char (.int c) = .int c := by
  have q : narrow .char (.int (pairCh (lo8 c) (hi8 c))) = .int (pairCh (lo8 c) (hi8 c)) := narrow_c _
  rwa [pair_says h0 h1] at q
/-- the array's cell V codes the n chars f 0 .. f (n - 1) by the coder cd, as the JDK does: coder 1 just where some char is above 255 -/
def Cod (cd : Int32) (n : Nat) (f : Nat → Int32) (V : Cell) : Prop := (cd = 0 ∧ V.slots.size = n ∧ ∀ j, j < n → V.slots[j]? = some (.int (lo8 (f j))) ∧ ¬ 255 < f j) ∨ (cd = 1 ∧ V.slots.size = 2 * n ∧ (∀ j, j < n → V.slots[2 * j]? = some (.int (lo8 (f j))) ∧ V.slots[2 * j + 1]? = some (.int (hi8 (f j)))) ∧ ∃ j, j < n ∧ 255 < f j)
theorem Cod.cd {cd : Int32} {n : Nat} {f : Nat → Int32} {V : Cell} (h : Cod cd n f V) : cd = 0 ∨ cd = 1 := h.imp (fun q => q.1) fun q => q.1
theorem Cod.len {cd : Int32} {n : Nat} {f : Nat → Int32} {V : Cell} (h : Cod cd n f V) (hs : V.slots.size < 2 ^ 31) : Int32.ofNat V.slots.size >>> (cd &&& 31) = Int32.ofNat n := by
  rcases h with ⟨rfl, h, -⟩ | ⟨rfl, h, -⟩
  · rw [shr0, h]
  · rw [h, shr1 (by omega)]
/-- **x is a String of the n chars f 0 .. f (n - 1)**, Latin-1 or UTF-16; its array at t has the cell V -/
def Txt (x t : Addr) (V : Cell) (cd : Int32) (n : Nat) (f : Nat → Int32) (U : State) : Prop := Exact "java/lang/String" x U ∧ Has x "java/lang/String" "value" "[B" (.ref t) U ∧ Has x "java/lang/String" "coder" "B" (.int cd) U ∧ XT.Arr .byte t V U ∧ Cod cd n f V ∧ ∀ j, j < n → ¬ f j < 0 ∧ ¬ 65535 < f j
theorem Txt.mv {x t : Addr} {V : Cell} {cd : Int32} {n : Nat} {f : Nat → Int32} {U U' : State} (h : Txt x t V cd n f U) (hal : U.vm.Alike U'.vm) (hh : U'.heap = U.heap) : Txt x t V cd n f U' := ⟨h.1.mv hal hh, h.2.1.mv hal hh, h.2.2.1.mv hal hh, h.2.2.2.1.mv hal hh, h.2.2.2.2⟩
namespace Cdr
def yN : MethodName := ⟨"java/lang/String", "coder", "()B"⟩
abbrev yB : ByteArray := jdk_42_method_152_code
theorem d0 : decode yB 0 = .ok (.getstatic 38, 3) := by decide +kernel
theorem d3 : decode yB 3 = .ok (.ifCond (.eq) 10, 3) := by decide +kernel
theorem d6 : decode yB 6 = .ok (.aload_n 0, 1) := by decide +kernel
theorem d7 : decode yB 7 = .ok (.getfield 15, 3) := by decide +kernel
theorem d10 : decode yB 10 = .ok (.goto 4, 3) := by decide +kernel
theorem d14 : decode yB 14 = .ok (.ireturn, 1) := by decide +kernel
def site : List Cond := [.fieldLink "java/lang/String" 38 "java/lang/String" "COMPACT_STRINGS" "Z", .fieldLink "java/lang/String" 15 "java/lang/String" "coder" "B"]
def tab : Cond := tabOf yN yB 1 (some .byte) site
def P (x : Addr) (cd z : Int32) (args : Array Value) (s : State) : Prop := args = #[.ref x] ∧ Has x "java/lang/String" "coder" "B" (.int cd) s ∧ (cd = 0 ∨ cd = 1) ∧ StaticIs s "java/lang/String" "COMPACT_STRINGS" "Z" (.int z) ∧ ¬ z = 0
def E (cd : Int32) (r : Option Value) (s u : State) : Prop := XT.PureE (some (.int cd)) r s u
theorem law (l : Launch) (x : Addr) (cd z : Int32) : Law l yN 1 0 0 0 yB 1 (some .byte) site (P x cd z) (E cd) [] 0 0 := by
  refine Law.of_walk (plainFor_of_name (by decide +kernel)) (by decide +kernel) (by decide +kernel) (by decide) (fun _ _ h => by rw [h.1]; rfl) (fun _ U U' hal hh h => ⟨h.1, h.2.1.mv hal hh, h.2.2.1, h.2.2.2.1.there hal hh, h.2.2.2.2⟩) (fun r U U' V V' h1 hal h2 h => XT.PureE.mv r U U' V V' h1 hal h2 h) ?_
  intro p e s m args below meth c s₁ X0 hexec hbytes hml hret hlk hnm hown hh0 W hP
  obtain ⟨rfl, hx, hc, s1, hz⟩ := hP
  have c1 : Steps p.tables e below (s₁.setTop (entryFrame m #[.ref x] 1)) (s₁.setTop (mkF m 0 #[.val (.ref x)] [])) := entry rfl
  obtain ⟨T2, X2, q2, st2⟩ := X0.sget hexec hown (wk W (.fieldLink "java/lang/String" 38 "java/lang/String" "COMPACT_STRINGS" "Z")) s1 (fun _ _ h => by rw [hh0]; exact h) (g := (mkF m 0 #[.val (.ref x)] [])) rfl (hb hbytes d0)
  have hh2 := q2.trans hh0
  have c3 : Steps p.tables e below (s₁.setTop (entryFrame m #[.ref x] 1)) (T2.setTop (mkF m 7 #[.val (.ref x)] [.ref x])) := (c1.trans (st2 _ (Steps.refl _))).trans (by
    refine XS.ifNo X2.here hexec rfl (hb hbytes d3) rfl (i0_eq_f hz) ?_
    refine XS.aloadN X2.here hexec rfl (hb hbytes d6) rfl rfl ?_
    exact Steps.refl _)
  obtain ⟨T4, X4, q4, st4⟩ := X2.hget hexec hown (wk W (.fieldLink "java/lang/String" 15 "java/lang/String" "coder" "B")) (hx.mv X2.warmed.alike hh2) (g := (mkF m 7 #[.val (.ref x)] [.ref x])) rfl (rest := []) rfl (hb hbytes d7)
  have c5 : Steps p.tables e below (s₁.setTop (entryFrame m #[.ref x] 1)) (T4.setTop (mkF m 14 #[.val (.ref x)] [.int cd])) := (c3.trans (st4 _ (Steps.refl _))).trans (by
    refine XS.goto X4.here hexec rfl (pc0 := 10) rfl (hb hbytes d10) (by decide) rfl ?_
    exact Steps.refl _)
  exact ⟨T4, some (.int cd), _, _, _, X4, rfl, rfl, rfl, (fun h => by cases h), ⟨rfl, q4.trans hh2⟩, fun fs hl => c5.trans (X4.ireturnOut hexec hret (by rcases hc with rfl | rfl <;> rfl) (Or.inr (Or.inr (Or.inl rfl))) (hb hbytes d14) hl)⟩
end Cdr
namespace Len
def yN : MethodName := ⟨"java/lang/String", "length", "()I"⟩
abbrev yB : ByteArray := jdk_42_method_54_code
theorem d0 : decode yB 0 = .ok (.aload_n 0, 1) := by decide +kernel
theorem d1 : decode yB 1 = .ok (.getfield 9, 3) := by decide +kernel
theorem d4 : decode yB 4 = .ok (.arraylength, 1) := by decide +kernel
theorem d5 : decode yB 5 = .ok (.aload_n 0, 1) := by decide +kernel
theorem d6 : decode yB 6 = .ok (.invokevirtual 335, 3) := by decide +kernel
theorem d9 : decode yB 9 = .ok (.ishr, 1) := by decide +kernel
theorem d10 : decode yB 10 = .ok (.ireturn, 1) := by decide +kernel
def site : List Cond := [.fieldLink "java/lang/String" 9 "java/lang/String" "value" "[B", Cdr.tab] ++ virtW "java/lang/String" 335 "java/lang/String" Cdr.yN Cdr.yN
def tab : Cond := tabOf yN yB 1 (some .int) site
def P (x t : Addr) (V : Cell) (cd : Int32) (n : Nat) (f : Nat → Int32) (z : Int32) (args : Array Value) (s : State) : Prop := args = #[.ref x] ∧ Txt x t V cd n f s ∧ StaticIs s "java/lang/String" "COMPACT_STRINGS" "Z" (.int z) ∧ ¬ z = 0
def E (n : Nat) (r : Option Value) (s u : State) : Prop := XT.PureE (some (.int (Int32.ofNat n))) r s u
/-- length() of a String of n chars, in either coding -/
theorem law (l : Launch) (x t : Addr) (V : Cell) (cd : Int32) (n : Nat) (f : Nat → Int32) (z : Int32) : Law l yN 1 0 1 13 yB 1 (some .int) site (P x t V cd n f z) (E n) [] 0 0 := by
  refine Law.of_walk (plainFor_of_name (by decide +kernel)) (by decide +kernel) (by decide +kernel) (by decide) (fun _ _ h => by rw [h.1]; rfl) (fun _ U U' hal hh h => ⟨h.1, h.2.1.mv hal hh, h.2.2.1.there hal hh, h.2.2.2⟩) (fun r U U' V V' h1 hal h2 h => XT.PureE.mv r U U' V V' h1 hal h2 h) ?_
  intro p e s m args below meth c s₁ X0 hexec hbytes hml hret hlk hnm hown hh0 W hP
  obtain ⟨rfl, hx, s1, hz⟩ := hP
  have v31 := hx.2.2.2.1.2.2.2
  have c1 : Steps p.tables e below (s₁.setTop (entryFrame m #[.ref x] 1)) (s₁.setTop (mkF m 1 #[.val (.ref x)] [.ref x])) := Steps.trans (entry rfl) (by
    show Steps p.tables e below (s₁.setTop (mkF m 0 #[.val (.ref x)] [])) _
    refine XS.aloadN X0.here hexec rfl (hb hbytes d0) rfl rfl ?_
    exact Steps.refl _)
  obtain ⟨T2, X2, q2, st2⟩ := X0.hget hexec hown (wk W (.fieldLink "java/lang/String" 9 "java/lang/String" "value" "[B")) (hx.mv X0.warmed.alike hh0).2.1 (g := (mkF m 1 #[.val (.ref x)] [.ref x])) rfl (rest := []) rfl (hb hbytes d1)
  have hh2 := q2.trans hh0
  have hx2 := hx.mv X2.warmed.alike hh2
  have c3 : Steps p.tables e below (s₁.setTop (entryFrame m #[.ref x] 1)) (T2.setTop (mkF m 6 #[.val (.ref x)] [.ref x, .int (Int32.ofNat V.slots.size)])) := (c1.trans (st2 _ (Steps.refl _))).trans (by
    refine X2.alen hexec hx2.2.2.2.1 rfl rfl (hb hbytes d4) ?_
    refine XS.aloadN X2.here hexec rfl (hb hbytes d5) rfl rfl ?_
    exact Steps.refl _)
  obtain ⟨v4, T4, X4, E4, g4⟩ := X2.callV hexec (Cdr.law l x cd z) hown (wks W (virtW "java/lang/String" 335 "java/lang/String" Cdr.yN Cdr.yN)) rfl (by decide) (wk W Cdr.tab) (W := 1) (Nat.le_of_ble_eq_true rfl) (Nat.le_of_ble_eq_true rfl) (Nat.le_refl _) (Nat.le_refl _) (hx2.1.fc X2.warmed.alike) hx2.1.is (g := (mkF m 6 #[.val (.ref x)] [.ref x, .int (Int32.ofNat V.slots.size)])) rfl (by rw [hml]; rfl) c3 (argsL := []) (rest := [.int (Int32.ofNat V.slots.size)]) rfl rfl (by show 2 * 0 + (1 + 0) ≤ _; decide) (hb hbytes d6) (⟨rfl, hx2.2.2.1, hx.2.2.2.2.1.cd, s1.there X2.warmed.alike hh2, hz⟩)
  obtain ⟨rfl, q4⟩ := E4
  have c5 : Steps p.tables e below (s₁.setTop (entryFrame m #[.ref x] 1)) (T4.setTop (mkF m 10 #[.val (.ref x)] [.int (Int32.ofNat V.slots.size >>> (cd &&& 31))])) := Steps.trans g4 (by
    refine ishr X4.here hexec rfl (hb hbytes d9) rfl ?_
    exact Steps.refl _)
  rw [hx.2.2.2.2.1.len v31] at c5
  exact ⟨T4, some (.int (Int32.ofNat n)), _, _, _, X4, rfl, rfl, rfl, (fun h => by cases h), ⟨rfl, q4.trans hh2⟩, fun fs hl => c5.trans (X4.ireturnOut hexec hret rfl (Or.inl rfl) (hb hbytes d10) hl)⟩
theorem pays {l : Launch} {R : Room} {p : Program} {e : Env} {below : List Frame} {s : State} {sargs : Array Value} {len W : Nat} (x t : Addr) (V : Cell) (cd : Int32) (n : Nat) (f : Nat → Int32) (z : Int32) (htab : tab.before sargs s = true) (hfr : 2 ≤ R.frames) (hlo : W + 25 ≤ R.locals) :
    Back l R p e below s sargs yN len W (fun A₁ a₁ => A₁.cells + 0 ≤ R.cells ∧ A₁.slots + 0 ≤ R.slots ∧ P x t V cd n f z a₁ A₁.U) (fun A₁ _ v₁ B₁ => E n v₁ A₁.U B₁.U ∧ B₁.locs = A₁.locs ++ [] ∧ B₁.cells = A₁.cells + 0 ∧ B₁.slots = A₁.slots + 0) :=
  (law l x t V cd n f z).pays htab hfr (by omega)
end Len
namespace IsL
def yN : MethodName := ⟨"java/lang/String", "isLatin1", "()Z"⟩
abbrev yB : ByteArray := jdk_42_method_154_code
theorem d0 : decode yB 0 = .ok (.getstatic 38, 3) := by decide +kernel
theorem d3 : decode yB 3 = .ok (.ifCond (.eq) 14, 3) := by decide +kernel
theorem d6 : decode yB 6 = .ok (.aload_n 0, 1) := by decide +kernel
theorem d7 : decode yB 7 = .ok (.getfield 15, 3) := by decide +kernel
theorem d10 : decode yB 10 = .ok (.ifCond (.ne) 7, 3) := by decide +kernel
theorem d13 : decode yB 13 = .ok (.iconst 1, 1) := by decide +kernel
theorem d14 : decode yB 14 = .ok (.goto 4, 3) := by decide +kernel
theorem d17 : decode yB 17 = .ok (.iconst 0, 1) := by decide +kernel
theorem d18 : decode yB 18 = .ok (.ireturn, 1) := by decide +kernel
def site : List Cond := [.fieldLink "java/lang/String" 38 "java/lang/String" "COMPACT_STRINGS" "Z", .fieldLink "java/lang/String" 15 "java/lang/String" "coder" "B"]
def tab : Cond := tabOf yN yB 1 (some .boolean) site
def P (x : Addr) (cd z : Int32) (args : Array Value) (s : State) : Prop := args = #[.ref x] ∧ Has x "java/lang/String" "coder" "B" (.int cd) s ∧ (cd = 0 ∨ cd = 1) ∧ StaticIs s "java/lang/String" "COMPACT_STRINGS" "Z" (.int z) ∧ ¬ z = 0
def E (cd : Int32) (r : Option Value) (s u : State) : Prop := XT.PureE (some (.int (1 - cd))) r s u
theorem law (l : Launch) (x : Addr) (cd z : Int32) : Law l yN 1 0 0 0 yB 1 (some .boolean) site (P x cd z) (E cd) [] 0 0 := by
  refine Law.of_walk (plainFor_of_name (by decide +kernel)) (by decide +kernel) (by decide +kernel) (by decide) (fun _ _ h => by rw [h.1]; rfl) (fun _ U U' hal hh h => ⟨h.1, h.2.1.mv hal hh, h.2.2.1, h.2.2.2.1.there hal hh, h.2.2.2.2⟩) (fun r U U' V V' h1 hal h2 h => XT.PureE.mv r U U' V V' h1 hal h2 h) ?_
  intro p e s m args below meth c s₁ X0 hexec hbytes hml hret hlk hnm hown hh0 W hP
  obtain ⟨rfl, hx, hc, s1, hz⟩ := hP
  have c1 : Steps p.tables e below (s₁.setTop (entryFrame m #[.ref x] 1)) (s₁.setTop (mkF m 0 #[.val (.ref x)] [])) := entry rfl
  obtain ⟨T2, X2, q2, st2⟩ := X0.sget hexec hown (wk W (.fieldLink "java/lang/String" 38 "java/lang/String" "COMPACT_STRINGS" "Z")) s1 (fun _ _ h => by rw [hh0]; exact h) (g := (mkF m 0 #[.val (.ref x)] [])) rfl (hb hbytes d0)
  have hh2 := q2.trans hh0
  have c3 : Steps p.tables e below (s₁.setTop (entryFrame m #[.ref x] 1)) (T2.setTop (mkF m 7 #[.val (.ref x)] [.ref x])) := (c1.trans (st2 _ (Steps.refl _))).trans (by
    refine XS.ifNo X2.here hexec rfl (hb hbytes d3) rfl (i0_eq_f hz) ?_
    refine XS.aloadN X2.here hexec rfl (hb hbytes d6) rfl rfl ?_
    exact Steps.refl _)
  obtain ⟨T4, X4, q4, st4⟩ := X2.hget hexec hown (wk W (.fieldLink "java/lang/String" 15 "java/lang/String" "coder" "B")) (hx.mv X2.warmed.alike hh2) (g := (mkF m 7 #[.val (.ref x)] [.ref x])) rfl (rest := []) rfl (hb hbytes d7)
  have c5 : Steps p.tables e below (s₁.setTop (entryFrame m #[.ref x] 1)) (T4.setTop (mkF m 10 #[.val (.ref x)] [.int cd])) := c3.trans (st4 _ (Steps.refl _))
  have c6 : Steps p.tables e below (s₁.setTop (entryFrame m #[.ref x] 1)) (T4.setTop (mkF m 18 #[.val (.ref x)] [.int (1 - cd)])) := by
    rcases hc with rfl | rfl
    · exact c5.trans (by
        refine XS.ifNo X4.here hexec rfl (hb hbytes d10) rfl (i0_ne_f rfl) ?_
        refine iconstV X4.here hexec rfl 1 (hb hbytes d13) (by decide) ?_
        refine XS.goto X4.here hexec rfl (pc0 := 14) rfl (hb hbytes d14) (by decide) rfl ?_
        exact Steps.refl _)
    · exact c5.trans (by
        refine XS.ifYes X4.here hexec rfl (pc0 := 10) rfl (hb hbytes d10) rfl (i0_ne_t (by decide)) (by decide) rfl ?_
        refine iconstV X4.here hexec rfl 0 (hb hbytes d17) (by decide) ?_
        exact Steps.refl _)
  exact ⟨T4, some (.int (1 - cd)), _, _, _, X4, rfl, rfl, rfl, (fun h => by cases h), ⟨rfl, q4.trans hh2⟩, fun fs hl => c6.trans (X4.ireturnOut hexec hret (by rcases hc with rfl | rfl <;> rfl) (Or.inr (Or.inl rfl)) (hb hbytes d18) hl)⟩
end IsL
namespace LChA
def yN : MethodName := ⟨"java/lang/StringLatin1", "charAt", "([BI)C"⟩
abbrev yB : ByteArray := jdk_43_method_2_code
theorem d0 : decode yB 0 = .ok (.iload_n 1, 1) := by decide +kernel
theorem d1 : decode yB 1 = .ok (.aload_n 0, 1) := by decide +kernel
theorem d2 : decode yB 2 = .ok (.arraylength, 1) := by decide +kernel
theorem d3 : decode yB 3 = .ok (.invokestatic 9, 3) := by decide +kernel
theorem d6 : decode yB 6 = .ok (.aload_n 0, 1) := by decide +kernel
theorem d7 : decode yB 7 = .ok (.iload_n 1, 1) := by decide +kernel
theorem d8 : decode yB 8 = .ok (.baload, 1) := by decide +kernel
theorem d9 : decode yB 9 = .ok (.sipush 255, 3) := by decide +kernel
theorem d12 : decode yB 12 = .ok (.iand, 1) := by decide +kernel
theorem d13 : decode yB 13 = .ok (.i2c, 1) := by decide +kernel
theorem d14 : decode yB 14 = .ok (.ireturn, 1) := by decide +kernel
def site : List Cond := [JO.Str_checkIndex.tab] ++ staticW "java/lang/StringLatin1" 9 JO.Str_checkIndex.yN
def tab : Cond := tabOf yN yB 2 (some .char) site
def P (t : Addr) (V : Cell) (i : Nat) (u : Int32) (fm : Value) (args : Array Value) (s : State) : Prop := args = #[.ref t, .int (Int32.ofNat i)] ∧ XT.Arr .byte t V s ∧ V.slots[i]? = some (.int u) ∧ (StaticIs s "jdk/internal/util/Preconditions" "SIOOBE_FORMATTER" "Ljava/util/function/BiFunction;" fm ∧ fm.isRef = true)
def E (u : Int32) (r : Option Value) (s w : State) : Prop := XT.PureE (some (.int (chr8 u))) r s w
theorem law (l : Launch) (t : Addr) (V : Cell) (i : Nat) (u : Int32) (fm : Value) : Law l yN 2 2 2 27 yB 2 (some .char) site (P t V i u fm) (E u) [] 0 0 := by
  refine Law.of_walk (plainFor_of_name (by decide +kernel)) (by decide +kernel) (by decide +kernel) (by decide) (fun _ _ h => by rw [h.1]; rfl) (fun _ U U' hal hh h => ⟨h.1, h.2.1.mv hal hh, h.2.2.1, h.2.2.2.1.there hal hh, h.2.2.2.2⟩) (fun r U U' V V' h1 hal h2 h => XT.PureE.mv r U U' V V' h1 hal h2 h) ?_
  intro p e s m args below meth c s₁ X0 hexec hbytes hml hret hlk hnm hown hh0 W hP
  obtain ⟨rfl, hV, hu, s1, rf⟩ := hP
  have v31 := hV.2.2.2
  have hi : i < V.slots.size := (Array.getElem?_eq_some_iff.mp hu).1
  have c1 : Steps p.tables e below (s₁.setTop (entryFrame m #[.ref t, .int (Int32.ofNat i)] 2)) (s₁.setTop (mkF m 0 #[.val (.ref t), .val (.int (Int32.ofNat i))] [])) := entry rfl
  have c2 : Steps p.tables e below (s₁.setTop (entryFrame m #[.ref t, .int (Int32.ofNat i)] 2)) (s₁.setTop (mkF m 3 #[.val (.ref t), .val (.int (Int32.ofNat i))] [.int (Int32.ofNat V.slots.size), .int (Int32.ofNat i)])) := c1.trans (by
    refine XS.iloadN X0.here hexec rfl (hb hbytes d0) rfl ?_
    refine XS.aloadN X0.here hexec rfl (hb hbytes d1) rfl rfl ?_
    refine X0.alen hexec (hV.mv X0.warmed.alike hh0) rfl rfl (hb hbytes d2) ?_
    exact Steps.refl _)
  obtain ⟨v3, T3, X3, E3, g3⟩ := X0.callS hexec (JO.Str_checkIndex.law l (Int32.ofNat i) (Int32.ofNat V.slots.size) fm) hown (wks W (staticW "java/lang/StringLatin1" 9 JO.Str_checkIndex.yN)) (wk W JO.Str_checkIndex.tab) (W := 0) (Nat.le_of_ble_eq_true rfl) (Nat.le_of_ble_eq_true rfl) (Nat.le_refl _) (Nat.le_refl _) (g := (mkF m 3 #[.val (.ref t), .val (.int (Int32.ofNat i))] [.int (Int32.ofNat V.slots.size), .int (Int32.ofNat i)])) rfl (by rw [hml]; rfl) c2 (argsL := [.int (Int32.ofNat i), .int (Int32.ofNat V.slots.size)]) (rest := []) rfl rfl (by show 2 * 0 + 0 ≤ _; decide) (hb hbytes d3) (⟨rfl, rf, s1.there X0.warmed.alike hh0, Int32.ofNat_not_neg (by omega), lt32 v31 hi⟩)
  obtain ⟨rfl, q3⟩ := E3
  have hh3 := q3.trans hh0
  have c4 : Steps p.tables e below (s₁.setTop (entryFrame m #[.ref t, .int (Int32.ofNat i)] 2)) (T3.setTop (mkF m 14 #[.val (.ref t), .val (.int (Int32.ofNat i))] [.int (chr8 u)])) := Steps.trans g3 (by
    refine XS.aloadN X3.here hexec rfl (hb hbytes d6) rfl rfl ?_
    refine XS.iloadN X3.here hexec rfl (hb hbytes d7) rfl ?_
    refine X3.aget hexec (hV.mv X3.warmed.alike hh3) rfl hu rfl rfl (hb hbytes d8) ?_
    refine sipushV X3.here hexec rfl 255 (hb hbytes d9) (by decide) ?_
    refine XS.iand X3.here hexec rfl (hb hbytes d12) rfl ?_
    refine i2c X3.here hexec rfl (hb hbytes d13) rfl ?_
    exact Steps.refl _)
  exact ⟨T3, some (.int (chr8 u)), _, _, _, X3, rfl, rfl, rfl, (fun h => by cases h), ⟨rfl, hh3⟩, fun fs hl => c4.trans (X3.ireturnOut hexec hret (narrow_c _) (Or.inr (Or.inr (Or.inr (Or.inl rfl)))) (hb hbytes d14) hl)⟩
end LChA
end StrChars
namespace StrChars.Road
open Jvm Sem ClassFile Op Lib Jvm.Stand Jvm.Free Jvm.Free.XT
open Jvm.Lib.Cold (StaticIs)
theorem consq {a : Array Value} {s : State} {c : Jvm.Cond} {L : List Jvm.Cond} (h0 : c.before a s = true) (h : ∀ w ∈ L, w.before a s = true) : ∀ w ∈ c :: L, w.before a s = true := fun w hw => (List.mem_cons.mp hw).elim (fun e => e ▸ h0) (h w)
/-- the words of String.length(), either coding -/
abbrev wordsLen : List Jvm.Cond := [.code Len.yN Len.yB 1 (some .int), .initialized ST, .fieldLink ST 9 ST "value" "[B", .fieldLink ST 38 ST "COMPACT_STRINGS" "Z", .fieldLink ST 15 ST "coder" "B", .code Cdr.yN Cdr.yB 1 (some .byte), .methodLink ST 335 Cdr.yN, .declares Cdr.yN, .selects ST Cdr.yN Cdr.yN, .instanceMethod Cdr.yN]
theorem tabLen_of {a : Array Value} {s : State} (h : ∀ w ∈ wordsLen, w.before a s = true) : Len.tab.before a s = true := by
  have hc : Cdr.tab.before a s = true := unparts (wk h (.code Cdr.yN Cdr.yB 1 (some .byte))) (wks h (.initialized Cdr.yN.cls :: Cdr.site))
  have q := consq hc h
  exact unparts (wk q (.code Len.yN Len.yB 1 (some .int))) (wks q (.initialized Len.yN.cls :: Len.site))
theorem movedLen {Z s : State} {a0 args : Array Value} (hZ : Z.Warmed39 s.vm) (hw : ∀ d ∈ wordsLen, d.before a0 Z = true) : ∀ d ∈ wordsLen, d.before args s = true := fun d hd => by
  have q := hw d hd
  have t : ∀ d ∈ wordsLen, d = .arrayClass .byte ∨ (d.onTables && d.keepsFace) = true := by decide +kernel
  rcases t d hd with rfl | t
  · exact RoadKit.mvA hZ q
  · exact RoadKit.mv hZ q t
/-- the bytes of the chars cs, low before high -/
def wideBytes : List Int32 → List Value
  | [] => []
  | c :: cs => .int (lo8 c) :: .int (hi8 c) :: wideBytes cs
theorem wide_lo (d : Value) : ∀ (cs : List Int32) (j : Nat), j < cs.length → (wideBytes cs).getD (2 * j) d = .int (lo8 (cs.getD j 0))
  | [], j, h => absurd h (Nat.not_lt_zero j)
  | c :: cs, 0, _ => rfl
  | c :: cs, j + 1, h => by
    have q := wide_lo d cs j (by simpa using h)
    rw [show 2 * (j + 1) = 2 * j + 1 + 1 from by omega]
    simpa [wideBytes] using q
theorem wide_hi (d : Value) : ∀ (cs : List Int32) (j : Nat), j < cs.length → (wideBytes cs).getD (2 * j + 1) d = .int (hi8 (cs.getD j 0))
  | [], j, h => absurd h (Nat.not_lt_zero j)
  | c :: cs, 0, _ => rfl
  | c :: cs, j + 1, h => by
    have q := wide_hi d cs j (by simpa using h)
    rw [show 2 * (j + 1) + 1 = 2 * j + 1 + 1 + 1 from by omega]
    simpa [wideBytes] using q
theorem low_at (d : Value) (cs : List Int32) (j : Nat) (h : j < cs.length) : (cs.map fun c => Value.int (lo8 c)).getD j d = .int (lo8 (cs.getD j 0)) := by
  simp [List.getD_eq_getElem?_getD, h]
/-- an array of N2 bytes vs codes the chars cs by the coder cd -/
def CodA (cs : List Int32) (cd N2 : Int32) (vs : List Value) : Prop := (cd = 0 ∧ N2 = Int32.ofNat cs.length ∧ vs = (cs.map fun c => Value.int (lo8 c)) ∧ ∀ c ∈ cs, ¬ 255 < c) ∨ (cd = 1 ∧ N2 = Int32.ofNat (2 * cs.length) ∧ vs = wideBytes cs ∧ ∃ c ∈ cs, 255 < c)
theorem CodA.cod {cs : List Int32} {cd N2 : Int32} {vs : List Value} {V : Cell} (h : CodA cs cd N2 vs) (hn : 2 * cs.length < 2 ^ 31) (hs : V.slots.size = N2.toNatClampNeg) (hv : RoadKit.Has V vs (.int 0)) : Cod cd cs.length (fun j => cs.getD j 0) V := by
  rcases h with ⟨rfl, rfl, rfl, h⟩ | ⟨rfl, rfl, rfl, c, hc, hw⟩
  · rw [n32 (by omega)] at hs
    exact Or.inl ⟨rfl, hs, fun j hj => ⟨by rw [hv j (by omega), low_at _ _ _ hj], by
      have e : cs.getD j 0 = cs[j] := by simp [List.getD_eq_getElem?_getD, hj]
      show ¬ 255 < cs.getD j 0
      rw [e]; exact h _ (List.getElem_mem _)⟩⟩
  · rw [n32 (by omega)] at hs
    obtain ⟨j, hj, rfl⟩ := List.getElem_of_mem hc
    exact Or.inr ⟨rfl, hs, fun j hj => ⟨by rw [hv _ (by omega), wide_lo _ _ _ hj], by rw [hv _ (by omega), wide_hi _ _ _ hj]⟩, j, hj, by
      have e : cs.getD j 0 = cs[j] := by simp [List.getD_eq_getElem?_getD, hj]
      show 255 < cs.getD j 0
      rw [e]; exact hw⟩
/-- an object of exactly java/lang/String, its two fields found: as the laws ask it -/
theorem strObj {Z U : State} {a0 : Array Value} {kI : Nat} (wi : (Jvm.Cond.instantiable ST kI).before a0 Z = true) (al : Z.vm.Alike U.vm) {x : Addr} {v0 c0 : Value} (E : RoadKit.Exa Z U.heap x ST) (V : RoadKit.Fld Z U.heap x ST "value" "[B" v0) (C : RoadKit.Fld Z U.heap x ST "coder" "B" c0) :
    ∃ (D : Cell) (fV fC : Field), Blank ST x D U ∧ Found ST "value" "[B" fV U ∧ Found ST "coder" "B" fC U ∧ D.slots[fV.slot]? = some v0 ∧ D.slots[fC.slot]? = some c0 ∧ RoadKit.slotOf Z ST "value" "[B" = fV.slot ∧ RoadKit.slotOf Z ST "coder" "B" = fC.slot := by
  obtain ⟨D, cfV, kV, iV, fV, hD, gV, stV, knV, obV, asV, slV⟩ := V
  obtain ⟨D', cfC, kC, iC, fC, hD', gC, stC, -, -, asC, slC⟩ := C
  cases hD.symm.trans hD'
  obtain ⟨D2, kD, e1, e2, e3, e4, e5⟩ := E
  cases hD.symm.trans e1
  obtain ⟨c2, k2, i1, i2, i3, -⟩ := Cond.instantiable_spec wi
  cases e2.symm.trans i1
  cases e3.symm.trans i2
  obtain ⟨kU, u1, u2⟩ := al.2.2 _ _ e3
  exact ⟨D, fV, fC, ⟨hD, ⟨knV, fun q hq => by rw [hq] at obV; cases obV⟩, by rw [al.findClass]; exact e2, kU, u1, by rw [u2]; exact i3, by rw [u2]; exact e5 i3⟩, ⟨SBG.found_only al ⟨cfV, kV, iV, gV⟩, stV⟩, ⟨SBG.found_only al ⟨cfC, kC, iC, gC⟩, stC⟩, slV, slC, by simp [RoadKit.slotOf, gV], by simp [RoadKit.slotOf, gC]⟩
theorem sta_is {Z U : State} (al : Z.vm.Alike U.vm) {C n d : String} {v : Value} (S : RoadKit.Sta Z U.heap C n d v) : StaticIs U C n d v := by
  obtain ⟨cfS, iS, kS, fS, st, cS, t1, t2, t3, t4, t5, t6, t7⟩ := S
  exact StaticIs.there (s := { Z with heap := U.heap }) ⟨cfS, iS, kS, fS, st, cS, t1, t2, t3, t4, t5, (fun q => by rw [q] at t6; cases t6), t7⟩ al rfl
/-- **length() OF SUCH A STRING** -/
theorem lenW {p : Program} {l : Launch} {e : Env} {R : Room} {s : State} {args : Array Value} {below : List Frame} {len W : Nat} {Z : State} {a0 : Array Value} {h : Heap} (hZ : Z.Warmed39 s.vm) (hw : ∀ d ∈ wordsLen, d.before a0 Z = true) {kI : Nat} (wi : (Jvm.Cond.instantiable ST kI).before a0 Z = true)
    {x t : Addr} {kb : ClassId} {cs : List Int32} {cd N2 z : Int32} {vs : List Value} (E : RoadKit.Exa Z h x ST) (V : RoadKit.Fld Z h x ST "value" "[B" (.ref t)) (C : RoadKit.Fld Z h x ST "coder" "B" (.int cd)) (K : RoadKit.Arv Z h t kb .byte N2 vs (.int 0)) (hc : CodA cs cd N2 vs) (hb : ∀ c ∈ cs, ¬ c < 0 ∧ ¬ (65535 : Int32) < c)
    (S : RoadKit.Sta Z h ST "COMPACT_STRINGS" "Z" (.int z)) (hz : ¬ z = 0) (l2 : cs.length ≤ 4000) (hfr : 2 ≤ R.frames) (hlo : W + 25 ≤ R.locals) :
    Back l R p e below s args (⟨"java/lang/String", "length", "()I"⟩ : MethodName) len W (fun P a => a = #[.ref x] ∧ P.U.heap = h ∧ P.cells + 0 ≤ R.cells ∧ P.slots + 0 ≤ R.slots)
      (fun P _ v B => ∃ L, (v = some (.int (Int32.ofNat cs.length)) ∧ L = [] ∧ B.U.heap = h) ∧ B.locs = P.locs ++ L ∧ B.cells = P.cells + 0 ∧ B.slots = P.slots + 0) := by
  obtain ⟨A, K1, K2, K3, K4, K5, K6⟩ := K
  have hcod := hc.cod (by omega) K3 K5
  intro m meth c P g ig mk a X hg hsize hdg hW hn hp'
  obtain ⟨rfl, rfl, r1, r2⟩ := hp'
  have al : Z.vm.Alike P.U.vm := hZ.alike.trans X.warmed.alike
  obtain ⟨D, fV, fC, hB, F1, F2, g1, g2, -, -⟩ := strObj wi al E V C
  have hx : Txt x t A cd cs.length (fun j => cs.getD j 0) P.U := ⟨⟨_, hB.2.2.1, D, hB.1, rfl, by cases q : D.vm <;> first | rfl | exact absurd q (hB.2.1.2 _)⟩, Has.of hB F1 g1, Has.of hB F2 g2, ⟨K1.1, State.isArrayOf_alike al K1.2.1, K1.2.2, by rcases hcod with ⟨-, q, -⟩ | ⟨-, q, -⟩ <;> omega⟩, hcod, fun j hj => by
    have e : cs.getD j 0 = cs[j] := by simp [List.getD_eq_getElem?_getD, hj]
    show ¬ cs.getD j 0 < 0 ∧ ¬ 65535 < cs.getD j 0
    rw [e]; exact hb _ (List.getElem_mem _)⟩
  obtain ⟨v, B, X', ⟨⟨hv, hh⟩, hl, hk, hs⟩, st⟩ := Len.pays x t A cd cs.length (fun j => cs.getD j 0) z (tabLen_of (movedLen hZ hw)) hfr hlo m meth c P g ig mk _ X hg hsize hdg hW hn ⟨r1, r2, rfl, hx, sta_is al S, hz⟩
  exact ⟨v, B, X', ⟨[], ⟨hv, rfl, hh⟩, hl, hk, hs⟩, st⟩
end StrChars.Road
namespace StrChars
open Jvm Sem ClassFile Op Lib Jvm.Stand Jvm.Free.XT Jvm.Free.ALB Jvm.Free.JM Jvm.Free
open Jvm.Lib.Cold (StaticIs)
/-- what place i of a byte[]'s cell holds -/
def yv (A : Cell) (i : Nat) : Int32 := match A.slots[i]? with | some (.int x) => x | _ => 0
theorem yv_get {a : Addr} {A : Cell} {U : State} (h : XT.Arr .byte a A U) (ht : Typed .byte A) {i : Nat} (hi : i < A.slots.size) : A.slots[i]? = some (.int (yv A i)) := by
  have e := Array.getElem?_eq_getElem hi
  have f := ht i _ e
  unfold yv; rw [e]
  generalize A.slots[i] = v at f
  cases v <;> simp [fits] at f ⊢
/-- the two arrays are equal, place for place -/
def EqC (A B : Cell) : Prop := A.slots.size = B.slots.size ∧ ∀ i, i < A.slots.size → yv A i = yv B i
/-- a boolean that says whether p -/
def Says01 (q : Prop) (r : Option Value) (s u : State) : Prop := ∃ v : Int32, r = some (.int v) ∧ u.heap = s.heap ∧ ((v = 1 ∧ q) ∨ (v = 0 ∧ ¬ q))
theorem Says01.mv {q : Prop} : ∀ r (U U' V V' : State), U'.heap = U.heap → V.vm.Alike V'.vm → V'.heap = V.heap → Says01 q r U V → Says01 q r U' V' :=
  fun r U U' V V' h1 _ h2 ⟨v, a, b, c⟩ => ⟨v, a, by rw [h1, h2]; exact b, c⟩
namespace LEq
def yN : MethodName := ⟨"java/lang/StringLatin1", "equals", "([B[B)Z"⟩
abbrev yB : ByteArray := jdk_43_method_13_code
theorem d0 : decode yB 0 = .ok (.aload_n 0, 1) := by decide +kernel
theorem d1 : decode yB 1 = .ok (.arraylength, 1) := by decide +kernel
theorem d2 : decode yB 2 = .ok (.aload_n 1, 1) := by decide +kernel
theorem d3 : decode yB 3 = .ok (.arraylength, 1) := by decide +kernel
theorem d4 : decode yB 4 = .ok (.if_icmp (.ne) 30, 3) := by decide +kernel
theorem d7 : decode yB 7 = .ok (.iconst 0, 1) := by decide +kernel
theorem d8 : decode yB 8 = .ok (.istore_n 2, 1) := by decide +kernel
theorem d9 : decode yB 9 = .ok (.iload_n 2, 1) := by decide +kernel
theorem d10 : decode yB 10 = .ok (.aload_n 0, 1) := by decide +kernel
theorem d11 : decode yB 11 = .ok (.arraylength, 1) := by decide +kernel
theorem d12 : decode yB 12 = .ok (.if_icmp (.ge) 20, 3) := by decide +kernel
theorem d15 : decode yB 15 = .ok (.aload_n 0, 1) := by decide +kernel
theorem d16 : decode yB 16 = .ok (.iload_n 2, 1) := by decide +kernel
theorem d17 : decode yB 17 = .ok (.baload, 1) := by decide +kernel
theorem d18 : decode yB 18 = .ok (.aload_n 1, 1) := by decide +kernel
theorem d19 : decode yB 19 = .ok (.iload_n 2, 1) := by decide +kernel
theorem d20 : decode yB 20 = .ok (.baload, 1) := by decide +kernel
theorem d21 : decode yB 21 = .ok (.if_icmp (.eq) 5, 3) := by decide +kernel
theorem d24 : decode yB 24 = .ok (.iconst 0, 1) := by decide +kernel
theorem d25 : decode yB 25 = .ok (.ireturn, 1) := by decide +kernel
theorem d26 : decode yB 26 = .ok (.iinc 2 1, 3) := by decide +kernel
theorem d29 : decode yB 29 = .ok (.goto (-20), 3) := by decide +kernel
theorem d32 : decode yB 32 = .ok (.iconst 1, 1) := by decide +kernel
theorem d33 : decode yB 33 = .ok (.ireturn, 1) := by decide +kernel
theorem d34 : decode yB 34 = .ok (.iconst 0, 1) := by decide +kernel
theorem d35 : decode yB 35 = .ok (.ireturn, 1) := by decide +kernel
def site : List Cond := []
def tab : Cond := tabOf yN yB 3 (some .boolean) site
def P (a : Addr) (A : Cell) (b : Addr) (B : Cell) (args : Array Value) (s : State) : Prop := args = #[.ref a, .ref b] ∧ XT.Arr .byte a A s ∧ Typed .byte A ∧ XT.Arr .byte b B s ∧ Typed .byte B
/-- whether two byte[] are equal, place for place -/
theorem law (l : Launch) (a : Addr) (A : Cell) (b : Addr) (B : Cell) : Law l yN 2 2 0 0 yB 3 (some .boolean) site (P a A b B) (Says01 (EqC A B)) [] 0 0 := by
  refine Law.of_walk (plainFor_of_name (by decide +kernel)) (by decide +kernel) (by decide +kernel) (by decide) (fun _ _ h => by rw [h.1]; rfl) (fun _ U U' hal hh h => ⟨h.1, h.2.1.mv hal hh, h.2.2.1, h.2.2.2.1.mv hal hh, h.2.2.2.2⟩) (fun r U U' V V' h1 hal h2 h => Says01.mv r U U' V V' h1 hal h2 h) ?_
  intro p e s m args below meth c s₁ X0 hexec hbytes hml hret hlk hnm hown hh0 W hP
  obtain ⟨rfl, hA, tA, hB, tB⟩ := hP
  have a31 := hA.2.2.2
  have b31 := hB.2.2.2
  have hA0 := hA.mv X0.warmed.alike hh0
  have hB0 := hB.mv X0.warmed.alike hh0
  have c1 : Steps p.tables e below (s₁.setTop (entryFrame m #[.ref a, .ref b] 3)) (s₁.setTop (mkF m 0 #[.val (.ref a), .val (.ref b), .unset] [])) := entry rfl
  have c2 : Steps p.tables e below (s₁.setTop (entryFrame m #[.ref a, .ref b] 3)) (s₁.setTop (mkF m 4 #[.val (.ref a), .val (.ref b), .unset] [.int (Int32.ofNat B.slots.size), .int (Int32.ofNat A.slots.size)])) := c1.trans (by
    refine XS.aloadN X0.here hexec rfl (hb hbytes d0) rfl rfl ?_
    refine X0.alen hexec hA0 rfl rfl (hb hbytes d1) ?_
    refine XS.aloadN X0.here hexec rfl (hb hbytes d2) rfl rfl ?_
    refine X0.alen hexec hB0 rfl rfl (hb hbytes d3) ?_
    exact Steps.refl _)
  by_cases hs : A.slots.size = B.slots.size
  · have c3 : Steps p.tables e below (s₁.setTop (entryFrame m #[.ref a, .ref b] 3)) (s₁.setTop (mkF m 9 #[.val (.ref a), .val (.ref b), .val (.int 0)] [])) := c2.trans (by
      refine XS.icmpNo X0.here hexec rfl (hb hbytes d4) rfl (ii_ne_f (by rw [hs])) ?_
      refine iconstV X0.here hexec rfl 0 (hb hbytes d7) (by decide) ?_
      refine XS.istoreN X0.here hexec rfl (hb hbytes d8) rfl rfl ?_
      exact Steps.refl _)
    have loop : ∀ (r i : Nat), i + r = A.slots.size → (∀ j, j < i → yv A j = yv B j) → Steps p.tables e below (s₁.setTop (entryFrame m #[.ref a, .ref b] 3)) (s₁.setTop (mkF m 9 #[.val (.ref a), .val (.ref b), .val (.int (Int32.ofNat i))] [])) → ∃ (pc : Nat) (Ls : Array Slot) (v : Int32), (pc = 25 ∨ pc = 33) ∧ ((v = 1 ∧ EqC A B) ∨ (v = 0 ∧ ¬ EqC A B)) ∧ Steps p.tables e below (s₁.setTop (entryFrame m #[.ref a, .ref b] 3)) (s₁.setTop (mkF m pc Ls [.int v])) := by
      intro r
      induction r with
      | zero =>
        intro i hi he cl
        exact ⟨33, _, 1, Or.inr rfl, Or.inl ⟨rfl, hs, fun j hj => he j (by omega)⟩, cl.trans (by
          refine XS.iloadN X0.here hexec rfl (hb hbytes d9) rfl ?_
          refine XS.aloadN X0.here hexec rfl (hb hbytes d10) rfl rfl ?_
          refine X0.alen hexec hA0 rfl rfl (hb hbytes d11) ?_
          refine XS.icmpYes X0.here hexec rfl (pc0 := 12) rfl (hb hbytes d12) rfl (ii_ge_t (nlt32 (by omega) (by omega))) (by decide) rfl ?_
          refine iconstV X0.here hexec rfl 1 (hb hbytes d32) (by decide) ?_
          exact Steps.refl _)⟩
      | succ r ih =>
        intro i hi he cl
        have c4 : Steps p.tables e below (s₁.setTop (entryFrame m #[.ref a, .ref b] 3)) (s₁.setTop (mkF m 21 #[.val (.ref a), .val (.ref b), .val (.int (Int32.ofNat i))] [.int (yv B i), .int (yv A i)])) := cl.trans (by
          refine XS.iloadN X0.here hexec rfl (hb hbytes d9) rfl ?_
          refine XS.aloadN X0.here hexec rfl (hb hbytes d10) rfl rfl ?_
          refine X0.alen hexec hA0 rfl rfl (hb hbytes d11) ?_
          refine XS.icmpNo X0.here hexec rfl (hb hbytes d12) rfl (ii_ge_f (lt32 (by omega) (by omega))) ?_
          refine XS.aloadN X0.here hexec rfl (hb hbytes d15) rfl rfl ?_
          refine XS.iloadN X0.here hexec rfl (hb hbytes d16) rfl ?_
          refine X0.aget hexec hA0 rfl (yv_get hA tA (i := i) (by omega)) rfl rfl (hb hbytes d17) ?_
          refine XS.aloadN X0.here hexec rfl (hb hbytes d18) rfl rfl ?_
          refine XS.iloadN X0.here hexec rfl (hb hbytes d19) rfl ?_
          refine X0.aget hexec hB0 rfl (yv_get hB tB (i := i) (by omega)) rfl rfl (hb hbytes d20) ?_
          exact Steps.refl _)
        by_cases hv : yv A i = yv B i
        · have c5 : Steps p.tables e below (s₁.setTop (entryFrame m #[.ref a, .ref b] 3)) (s₁.setTop (mkF m 9 #[.val (.ref a), .val (.ref b), .val (.int (Int32.ofNat i + 1))] [])) := c4.trans (by
            refine XS.icmpYes X0.here hexec rfl (pc0 := 21) rfl (hb hbytes d21) rfl (ii_eq_t hv) (by decide) rfl ?_
            refine iincV X0.here hexec rfl 1 (hb hbytes d26) (by decide) rfl rfl ?_
            refine XS.goto X0.here hexec rfl (pc0 := 29) rfl (hb hbytes d29) (by decide) rfl ?_
            exact Steps.refl _)
          rw [succ32] at c5
          exact ih (i + 1) (by omega) (fun j hj => by
            by_cases e : j = i
            · rw [e]; exact hv
            · exact he j (by omega)) c5
        · exact ⟨25, _, 0, Or.inl rfl, Or.inr ⟨rfl, fun q => hv (q.2 i (by omega))⟩, c4.trans (by
            refine XS.icmpNo X0.here hexec rfl (hb hbytes d21) rfl (ii_eq_f hv) ?_
            refine iconstV X0.here hexec rfl 0 (hb hbytes d24) (by decide) ?_
            exact Steps.refl _)⟩
    obtain ⟨pc, Ls, v, hpc, hv, cz⟩ := loop A.slots.size 0 (by omega) (fun j hj => absurd hj (Nat.not_lt_zero j)) c3
    have nv : narrow .boolean (.int v) = .int v := by rcases hv with ⟨rfl, -⟩ | ⟨rfl, -⟩ <;> rfl
    rcases hpc with rfl | rfl
    · exact ⟨s₁, some (.int v), _, _, _, X0, rfl, rfl, rfl, (fun h => by cases h), ⟨v, rfl, hh0, hv⟩, fun fs hl => cz.trans (X0.ireturnOut hexec hret nv (Or.inr (Or.inl rfl)) (hb hbytes d25) hl)⟩
    · exact ⟨s₁, some (.int v), _, _, _, X0, rfl, rfl, rfl, (fun h => by cases h), ⟨v, rfl, hh0, hv⟩, fun fs hl => cz.trans (X0.ireturnOut hexec hret nv (Or.inr (Or.inl rfl)) (hb hbytes d33) hl)⟩
  · have c3 : Steps p.tables e below (s₁.setTop (entryFrame m #[.ref a, .ref b] 3)) (s₁.setTop (mkF m 35 #[.val (.ref a), .val (.ref b), .unset] [.int 0])) := c2.trans (by
      refine XS.icmpYes X0.here hexec rfl (pc0 := 4) rfl (hb hbytes d4) rfl (ii_ne_t (ne32 a31 b31 hs)) (by decide) rfl ?_
      refine iconstV X0.here hexec rfl 0 (hb hbytes d34) (by decide) ?_
      exact Steps.refl _)
    exact ⟨s₁, some (.int 0), _, _, _, X0, rfl, rfl, rfl, (fun h => by cases h), ⟨0, rfl, hh0, Or.inr ⟨rfl, fun q => hs q.1⟩⟩, fun fs hl => c3.trans (X0.ireturnOut hexec hret rfl (Or.inr (Or.inl rfl)) (hb hbytes d35) hl)⟩
end LEq
theorem Cod.ty {cd : Int32} {n : Nat} {f : Nat → Int32} {V : Cell} (h : Cod cd n f V) : Typed .byte V := fun i v hv => by
  have hi : i < V.slots.size := (Array.getElem?_eq_some_iff.mp hv).1
  rcases h with ⟨-, k1, k2⟩ | ⟨-, k1, k2, -⟩
  · rw [(k2 i (by omega)).1] at hv; cases hv; exact fits_lo8 _
  · rcases Nat.mod_two_eq_zero_or_one i with e | e
    · obtain ⟨j, rfl⟩ : ∃ j, i = 2 * j := ⟨i / 2, by omega⟩
      rw [(k2 j (by omega)).1] at hv; cases hv; exact fits_lo8 _
    · obtain ⟨j, rfl⟩ : ∃ j, i = 2 * j + 1 := ⟨i / 2, by omega⟩
      rw [(k2 j (by omega)).2] at hv; cases hv; exact fits_lo8 _
/-- the same text -/
def SameT (n : Nat) (f : Nat → Int32) (k : Nat) (g : Nat → Int32) : Prop := n = k ∧ ∀ j, j < n → f j = g j
theorem lo8_inj {x y : Int32} (h0 : ¬ x < 0) (h1 : ¬ 255 < x) (k0 : ¬ y < 0) (k1 : ¬ 255 < y) (h : lo8 x = lo8 y) : x = y := by
  rw [← lo8_mask h0 h1, ← lo8_mask k0 k1, h]
/-- arrays coded by one coder are equal just where the texts are -/
theorem Cod.eqv {cd : Int32} {n k : Nat} {f g : Nat → Int32} {V V' : Cell} (h : Cod cd n f V) (h' : Cod cd k g V') (hf : ∀ j, j < n → ¬ f j < 0 ∧ ¬ 65535 < f j) (hg : ∀ j, j < k → ¬ g j < 0 ∧ ¬ 65535 < g j) : EqC V V' ↔ SameT n f k g := by
  have yvv : ∀ {W : Cell} {i : Nat} {x : Int32}, W.slots[i]? = some (.int x) → yv W i = x := fun q => by unfold yv; rw [q]
  rcases h with ⟨rfl, k1, k2⟩ | ⟨rfl, k1, k2, -⟩
  · rcases h' with ⟨-, m1, m2⟩ | ⟨e, -⟩
    · constructor
      · rintro ⟨e1, e2⟩
        refine ⟨by omega, fun j hj => ?_⟩
        have q := e2 j (by omega)
        rw [yvv (k2 j hj).1, yvv (m2 j (by omega)).1] at q
        exact lo8_inj (hf j hj).1 (k2 j hj).2 (hg j (by omega)).1 (m2 j (by omega)).2 q
      · rintro ⟨rfl, e2⟩
        refine ⟨by omega, fun j hj => ?_⟩
        rw [yvv (k2 j (by omega)).1, yvv (m2 j (by omega)).1, e2 j (by omega)]
    · exact absurd e (by decide)
  · rcases h' with ⟨e, -⟩ | ⟨-, m1, m2, -⟩
    · exact absurd e (by decide)
    · constructor
      · rintro ⟨e1, e2⟩
        refine ⟨by omega, fun j hj => ?_⟩
        have q1 := e2 (2 * j) (by omega)
        have q2 := e2 (2 * j + 1) (by omega)
        rw [yvv (k2 j hj).1, yvv (m2 j (by omega)).1] at q1
        rw [yvv (k2 j hj).2, yvv (m2 j (by omega)).2] at q2
        rw [← pair_says (hf j hj).1 (hf j hj).2, ← pair_says (hg j (by omega)).1 (hg j (by omega)).2, q1, q2]
      · rintro ⟨rfl, e2⟩
        refine ⟨by omega, fun i hi => ?_⟩
        rcases Nat.mod_two_eq_zero_or_one i with e | e
        · obtain ⟨j, rfl⟩ : ∃ j, i = 2 * j := ⟨i / 2, by omega⟩
          rw [yvv (k2 j (by omega)).1, yvv (m2 j (by omega)).1, e2 j (by omega)]
        · obtain ⟨j, rfl⟩ : ∃ j, i = 2 * j + 1 := ⟨i / 2, by omega⟩
          rw [yvv (k2 j (by omega)).2, yvv (m2 j (by omega)).2, e2 j (by omega)]
/-- two codings differ: so do the texts -/
theorem Cod.dif {cd cd' : Int32} {n k : Nat} {f g : Nat → Int32} {V V' : Cell} (h : Cod cd n f V) (h' : Cod cd' k g V') (hne : ¬ cd = cd') : ¬ SameT n f k g := by
  rintro ⟨rfl, e⟩
  rcases h with ⟨rfl, -, k2⟩ | ⟨rfl, -, -, j, hj, hw⟩
  · rcases h' with ⟨rfl, -⟩ | ⟨-, -, -, j, hj, hw⟩
    · exact hne rfl
    · exact (k2 j hj).2 (by rw [e j hj]; exact hw)
  · rcases h' with ⟨-, -, m2⟩ | ⟨rfl, -⟩
    · exact (m2 j hj).2 (by rw [← e j hj]; exact hw)
    · exact hne rfl
/-- an object of exactly C is an instance of C -/
theorem cinst {p : Program} {l : Launch} {e : Env} {R : Room} {s : State} {m : MethodId} {args : Array Value} {below : List Frame} {meth : Method} {c : Code} {T : State} {locs : List Loc} {cells slots : Nat} (X : Stand p l e R s m args below meth c T locs cells slots) (hexec : p.tables.exec = Jvm.exec) {own C : String} {index : Nat} (hown : s.vm.findClass own = some m.cls) (hlink : (Cond.classLink own index C).before args s = true) {a : Addr} (hE : Exact C a T)
    {g : JFrame} (hg : g.method = m) {rest : List Value} (hstack : g.stack = .ref a :: rest) (hdg : decode c.code g.pc = .ok (.instanceof index, 3)) :
    ∃ T', Stand p l e R s m args below meth c T' locs cells slots ∧ T'.heap = T.heap ∧ ∀ target, Steps p.tables e below (T'.setTop { g with pc := g.pc + 3, stack := .int 1 :: rest }) target → Steps p.tables e below (T.setTop g) target := by
  obtain ⟨cB, h1, D, h2, h3, h4⟩ := hE
  have h1' : s.vm.findClass C = some cB := by rw [← X.warmed.alike.findClass]; exact h1
  obtain ⟨vm', X', st⟩ := X.instanceofYes hexec hown hlink h2 h4 h1' (by rw [h3]; exact Jvm.Free.SB.assignable_self _ _) hg hstack hdg
  exact ⟨_, X', rfl, st⟩
theorem cself {p : Program} {l : Launch} {e : Env} {R : Room} {s : State} {m : MethodId} {args : Array Value} {below : List Frame} {meth : Method} {c : Code} {T : State} {locs : List Loc} {cells slots : Nat} (X : Stand p l e R s m args below meth c T locs cells slots) (hexec : p.tables.exec = Jvm.exec) {own C : String} {index : Nat} (hown : s.vm.findClass own = some m.cls) (hlink : (Cond.classLink own index C).before args s = true) {a : Addr} (hE : Exact C a T)
    {g : JFrame} (hg : g.method = m) {rest : List Value} (hstack : g.stack = .ref a :: rest) (hdg : decode c.code g.pc = .ok (.checkcast index, 3)) :
    ∃ T', Stand p l e R s m args below meth c T' locs cells slots ∧ T'.heap = T.heap ∧ ∀ target, Steps p.tables e below (T'.setTop { g with pc := g.pc + 3, stack := .ref a :: rest }) target → Steps p.tables e below (T.setTop g) target := by
  obtain ⟨cB, h1, D, h2, h3, h4⟩ := hE
  have h1' : s.vm.findClass C = some cB := by rw [← X.warmed.alike.findClass]; exact h1
  obtain ⟨vm', X', st⟩ := X.checkcastYes hexec hown hlink h2 h4 h1' (by rw [h3]; exact Jvm.Free.SB.assignable_self _ _) hg hstack hdg
  exact ⟨_, X', rfl, fun t h => st t (by rw [← hstack] at h; exact h)⟩
namespace SEq
def yN : MethodName := ⟨"java/lang/String", "equals", "(Ljava/lang/Object;)Z"⟩
abbrev yB : ByteArray := jdk_42_method_66_code
theorem d0 : decode yB 0 = .ok (.aload_n 0, 1) := by decide +kernel
theorem d1 : decode yB 1 = .ok (.aload_n 1, 1) := by decide +kernel
theorem d2 : decode yB 2 = .ok (.if_acmp (.ne) 5, 3) := by decide +kernel
theorem d5 : decode yB 5 = .ok (.iconst 1, 1) := by decide +kernel
theorem d6 : decode yB 6 = .ok (.ireturn, 1) := by decide +kernel
theorem d7 : decode yB 7 = .ok (.aload_n 1, 1) := by decide +kernel
theorem d8 : decode yB 8 = .ok (.instanceof 10, 3) := by decide +kernel
theorem d11 : decode yB 11 = .ok (.ifCond (.eq) 43, 3) := by decide +kernel
theorem d14 : decode yB 14 = .ok (.aload_n 1, 1) := by decide +kernel
theorem d15 : decode yB 15 = .ok (.checkcast 10, 3) := by decide +kernel
theorem d18 : decode yB 18 = .ok (.astore_n 2, 1) := by decide +kernel
theorem d19 : decode yB 19 = .ok (.getstatic 38, 3) := by decide +kernel
theorem d22 : decode yB 22 = .ok (.ifCond (.eq) 14, 3) := by decide +kernel
theorem d25 : decode yB 25 = .ok (.aload_n 0, 1) := by decide +kernel
theorem d26 : decode yB 26 = .ok (.getfield 15, 3) := by decide +kernel
theorem d29 : decode yB 29 = .ok (.aload_n 2, 1) := by decide +kernel
theorem d30 : decode yB 30 = .ok (.getfield 15, 3) := by decide +kernel
theorem d33 : decode yB 33 = .ok (.if_icmp (.ne) 21, 3) := by decide +kernel
theorem d36 : decode yB 36 = .ok (.aload_n 0, 1) := by decide +kernel
theorem d37 : decode yB 37 = .ok (.getfield 9, 3) := by decide +kernel
theorem d40 : decode yB 40 = .ok (.aload_n 2, 1) := by decide +kernel
theorem d41 : decode yB 41 = .ok (.getfield 9, 3) := by decide +kernel
theorem d44 : decode yB 44 = .ok (.invokestatic 541, 3) := by decide +kernel
theorem d47 : decode yB 47 = .ok (.ifCond (.eq) 7, 3) := by decide +kernel
theorem d50 : decode yB 50 = .ok (.iconst 1, 1) := by decide +kernel
theorem d51 : decode yB 51 = .ok (.goto 4, 3) := by decide +kernel
theorem d54 : decode yB 54 = .ok (.iconst 0, 1) := by decide +kernel
theorem d55 : decode yB 55 = .ok (.ireturn, 1) := by decide +kernel
def site : List Cond := [.classLink "java/lang/String" 10 "java/lang/String", .fieldLink "java/lang/String" 38 "java/lang/String" "COMPACT_STRINGS" "Z", .fieldLink "java/lang/String" 15 "java/lang/String" "coder" "B", .fieldLink "java/lang/String" 9 "java/lang/String" "value" "[B", LEq.tab] ++ staticW "java/lang/String" 541 LEq.yN
def tab : Cond := tabOf yN yB 3 (some .boolean) site
def P (x t : Addr) (V : Cell) (cd : Int32) (n : Nat) (f : Nat → Int32) (y t' : Addr) (V' : Cell) (cd' : Int32) (k : Nat) (g : Nat → Int32) (z : Int32) (args : Array Value) (s : State) : Prop := args = #[.ref x, .ref y] ∧ Txt x t V cd n f s ∧ Txt y t' V' cd' k g s ∧ StaticIs s "java/lang/String" "COMPACT_STRINGS" "Z" (.int z) ∧ ¬ z = 0
/-- equals(Object) of two Strings: whether the texts are the same -/
theorem law (l : Launch) (x t : Addr) (V : Cell) (cd : Int32) (n : Nat) (f : Nat → Int32) (y t' : Addr) (V' : Cell) (cd' : Int32) (k : Nat) (g : Nat → Int32) (z : Int32) : Law l yN 2 1 1 14 yB 3 (some .boolean) site (P x t V cd n f y t' V' cd' k g z) (Says01 (SameT n f k g)) [] 0 0 := by
  refine Law.of_walk (plainFor_of_name (by decide +kernel)) (by decide +kernel) (by decide +kernel) (by decide) (fun _ _ h => by rw [h.1]; rfl) (fun _ U U' hal hh h => ⟨h.1, h.2.1.mv hal hh, h.2.2.1.mv hal hh, h.2.2.2.1.there hal hh, h.2.2.2.2⟩) (fun r U U' V V' h1 hal h2 h => Says01.mv r U U' V V' h1 hal h2 h) ?_
  intro p e s m args below meth c s₁ X0 hexec hbytes hml hret hlk hnm hown hh0 W hP
  obtain ⟨rfl, hx, hy, s1, hz⟩ := hP
  have c1 : Steps p.tables e below (s₁.setTop (entryFrame m #[.ref x, .ref y] 3)) (s₁.setTop (mkF m 2 #[.val (.ref x), .val (.ref y), .unset] [.ref y, .ref x])) := Steps.trans (entry rfl) (by
    show Steps p.tables e below (s₁.setTop (mkF m 0 #[.val (.ref x), .val (.ref y), .unset] [])) _
    refine XS.aloadN X0.here hexec rfl (hb hbytes d0) rfl rfl ?_
    refine XS.aloadN X0.here hexec rfl (hb hbytes d1) rfl rfl ?_
    exact Steps.refl _)
  by_cases hxy : x = y
  · have c2 : Steps p.tables e below (s₁.setTop (entryFrame m #[.ref x, .ref y] 3)) (s₁.setTop (mkF m 6 #[.val (.ref x), .val (.ref y), .unset] [.int 1])) := c1.trans (by
      refine acmpNo X0.here hexec rfl (hb hbytes d2) rfl rfl rfl (by simp [acmp, hxy]) ?_
      refine iconstV X0.here hexec rfl 1 (hb hbytes d5) (by decide) ?_
      exact Steps.refl _)
    subst hxy
    have ec : cd = cd' := by
      obtain ⟨D, fd, a1, a2, a3⟩ := hx.2.2.1
      obtain ⟨D', fd', b1, b2, b3⟩ := hy.2.2.1
      cases a1.symm.trans b1
      obtain ⟨q1, q2, q3, q4⟩ := a2.1
      obtain ⟨r1, r2, r3, r4⟩ := b2.1
      cases q4.symm.trans r4
      cases a3.symm.trans b3; rfl
    have et : t = t' := by
      obtain ⟨D, fd, a1, a2, a3⟩ := hx.2.1
      obtain ⟨D', fd', b1, b2, b3⟩ := hy.2.1
      cases a1.symm.trans b1
      obtain ⟨q1, q2, q3, q4⟩ := a2.1
      obtain ⟨r1, r2, r3, r4⟩ := b2.1
      cases q4.symm.trans r4
      cases a3.symm.trans b3; rfl
    subst ec et
    have ev : V = V' := by cases hx.2.2.2.1.1.symm.trans hy.2.2.2.1.1; rfl
    subst ev
    have hs : SameT n f k g := (Cod.eqv hx.2.2.2.2.1 hy.2.2.2.2.1 hx.2.2.2.2.2 hy.2.2.2.2.2).mp ⟨rfl, fun _ _ => rfl⟩
    exact ⟨s₁, some (.int 1), _, _, _, X0, rfl, rfl, rfl, (fun h => by cases h), ⟨1, rfl, hh0, Or.inl ⟨rfl, hs⟩⟩, fun fs hl => c2.trans (X0.ireturnOut hexec hret rfl (Or.inr (Or.inl rfl)) (hb hbytes d6) hl)⟩
  · have c2 : Steps p.tables e below (s₁.setTop (entryFrame m #[.ref x, .ref y] 3)) (s₁.setTop (mkF m 8 #[.val (.ref x), .val (.ref y), .unset] [.ref y])) := c1.trans (by
      refine acmpYes X0.here hexec rfl (pc0 := 2) rfl (hb hbytes d2) rfl rfl rfl (by simp [acmp, hxy]) (by decide) rfl ?_
      refine XS.aloadN X0.here hexec rfl (hb hbytes d7) rfl rfl ?_
      exact Steps.refl _)
    obtain ⟨T3, X3, q3, st3⟩ := cinst X0 hexec hown (wk W (.classLink "java/lang/String" 10 "java/lang/String")) (hy.mv X0.warmed.alike hh0).1 (g := (mkF m 8 #[.val (.ref x), .val (.ref y), .unset] [.ref y])) rfl (rest := []) rfl (hb hbytes d8)
    have hh3 := q3.trans hh0
    have c4 : Steps p.tables e below (s₁.setTop (entryFrame m #[.ref x, .ref y] 3)) (T3.setTop (mkF m 15 #[.val (.ref x), .val (.ref y), .unset] [.ref y])) := (c2.trans (st3 _ (Steps.refl _))).trans (by
      refine XS.ifNo X3.here hexec rfl (hb hbytes d11) rfl (i0_eq_f (by decide)) ?_
      refine XS.aloadN X3.here hexec rfl (hb hbytes d14) rfl rfl ?_
      exact Steps.refl _)
    obtain ⟨T5, X5, q5, st5⟩ := cself X3 hexec hown (wk W (.classLink "java/lang/String" 10 "java/lang/String")) (hy.mv X3.warmed.alike hh3).1 (g := (mkF m 15 #[.val (.ref x), .val (.ref y), .unset] [.ref y])) rfl (rest := []) rfl (hb hbytes d15)
    have hh5 := q5.trans hh3
    have c6 : Steps p.tables e below (s₁.setTop (entryFrame m #[.ref x, .ref y] 3)) (T5.setTop (mkF m 19 #[.val (.ref x), .val (.ref y), .val (.ref y)] [])) := (c4.trans (st5 _ (Steps.refl _))).trans (by
      refine XS.astoreN X5.here hexec rfl (hb hbytes d18) rfl rfl rfl ?_
      exact Steps.refl _)
    obtain ⟨T7, X7, q7, st7⟩ := X5.sget hexec hown (wk W (.fieldLink "java/lang/String" 38 "java/lang/String" "COMPACT_STRINGS" "Z")) s1 (fun _ _ h => by rw [hh5]; exact h) (g := (mkF m 19 #[.val (.ref x), .val (.ref y), .val (.ref y)] [])) rfl (hb hbytes d19)
    have hh7 := q7.trans hh5
    have c8 : Steps p.tables e below (s₁.setTop (entryFrame m #[.ref x, .ref y] 3)) (T7.setTop (mkF m 26 #[.val (.ref x), .val (.ref y), .val (.ref y)] [.ref x])) := (c6.trans (st7 _ (Steps.refl _))).trans (by
      refine XS.ifNo X7.here hexec rfl (hb hbytes d22) rfl (i0_eq_f hz) ?_
      refine XS.aloadN X7.here hexec rfl (hb hbytes d25) rfl rfl ?_
      exact Steps.refl _)
    obtain ⟨T9, X9, q9, st9⟩ := X7.hget hexec hown (wk W (.fieldLink "java/lang/String" 15 "java/lang/String" "coder" "B")) (hx.mv X7.warmed.alike hh7).2.2.1 (g := (mkF m 26 #[.val (.ref x), .val (.ref y), .val (.ref y)] [.ref x])) rfl (rest := []) rfl (hb hbytes d26)
    have hh9 := q9.trans hh7
    have c10 : Steps p.tables e below (s₁.setTop (entryFrame m #[.ref x, .ref y] 3)) (T9.setTop (mkF m 30 #[.val (.ref x), .val (.ref y), .val (.ref y)] [.ref y, .int cd])) := (c8.trans (st9 _ (Steps.refl _))).trans (by
      refine XS.aloadN X9.here hexec rfl (hb hbytes d29) rfl rfl ?_
      exact Steps.refl _)
    obtain ⟨T11, X11, q11, st11⟩ := X9.hget hexec hown (wk W (.fieldLink "java/lang/String" 15 "java/lang/String" "coder" "B")) (hy.mv X9.warmed.alike hh9).2.2.1 (g := (mkF m 30 #[.val (.ref x), .val (.ref y), .val (.ref y)] [.ref y, .int cd])) rfl (rest := [.int cd]) rfl (hb hbytes d30)
    have hh11 := q11.trans hh9
    have c12 : Steps p.tables e below (s₁.setTop (entryFrame m #[.ref x, .ref y] 3)) (T11.setTop (mkF m 33 #[.val (.ref x), .val (.ref y), .val (.ref y)] [.int cd', .int cd])) := c10.trans (st11 _ (Steps.refl _))
    by_cases hcd : cd = cd'
    · subst hcd
      have c13 : Steps p.tables e below (s₁.setTop (entryFrame m #[.ref x, .ref y] 3)) (T11.setTop (mkF m 37 #[.val (.ref x), .val (.ref y), .val (.ref y)] [.ref x])) := c12.trans (by
        refine XS.icmpNo X11.here hexec rfl (hb hbytes d33) rfl (ii_ne_f rfl) ?_
        refine XS.aloadN X11.here hexec rfl (hb hbytes d36) rfl rfl ?_
        exact Steps.refl _)
      obtain ⟨T14, X14, q14, st14⟩ := X11.hget hexec hown (wk W (.fieldLink "java/lang/String" 9 "java/lang/String" "value" "[B")) (hx.mv X11.warmed.alike hh11).2.1 (g := (mkF m 37 #[.val (.ref x), .val (.ref y), .val (.ref y)] [.ref x])) rfl (rest := []) rfl (hb hbytes d37)
      have hh14 := q14.trans hh11
      have c15 : Steps p.tables e below (s₁.setTop (entryFrame m #[.ref x, .ref y] 3)) (T14.setTop (mkF m 41 #[.val (.ref x), .val (.ref y), .val (.ref y)] [.ref y, .ref t])) := (c13.trans (st14 _ (Steps.refl _))).trans (by
        refine XS.aloadN X14.here hexec rfl (hb hbytes d40) rfl rfl ?_
        exact Steps.refl _)
      obtain ⟨T16, X16, q16, st16⟩ := X14.hget hexec hown (wk W (.fieldLink "java/lang/String" 9 "java/lang/String" "value" "[B")) (hy.mv X14.warmed.alike hh14).2.1 (g := (mkF m 41 #[.val (.ref x), .val (.ref y), .val (.ref y)] [.ref y, .ref t])) rfl (rest := [.ref t]) rfl (hb hbytes d41)
      have hh16 := q16.trans hh14
      have c17 : Steps p.tables e below (s₁.setTop (entryFrame m #[.ref x, .ref y] 3)) (T16.setTop (mkF m 44 #[.val (.ref x), .val (.ref y), .val (.ref y)] [.ref t', .ref t])) := c15.trans (st16 _ (Steps.refl _))
      obtain ⟨v18, T18, X18, E18, g18⟩ := X16.callS hexec (LEq.law l t V t' V') hown (wks W (staticW "java/lang/String" 541 LEq.yN)) (wk W LEq.tab) (W := 0) (Nat.le_of_ble_eq_true rfl) (Nat.le_of_ble_eq_true rfl) (Nat.le_refl _) (Nat.le_refl _) (g := (mkF m 44 #[.val (.ref x), .val (.ref y), .val (.ref y)] [.ref t', .ref t])) rfl (by rw [hml]; rfl) c17 (argsL := [.ref t, .ref t']) (rest := []) rfl rfl (by show 2 * 0 + 0 ≤ _; decide) (hb hbytes d44) (⟨rfl, hx.2.2.2.1.mv X16.warmed.alike hh16, hx.2.2.2.2.1.ty, hy.2.2.2.1.mv X16.warmed.alike hh16, hy.2.2.2.2.1.ty⟩)
      obtain ⟨v, rfl, q18, hv⟩ := E18
      have iff := Cod.eqv hx.2.2.2.2.1 hy.2.2.2.2.1 hx.2.2.2.2.2 hy.2.2.2.2.2
      rcases hv with ⟨rfl, he⟩ | ⟨rfl, he⟩
      · have c19 : Steps p.tables e below (s₁.setTop (entryFrame m #[.ref x, .ref y] 3)) (T18.setTop (mkF m 55 #[.val (.ref x), .val (.ref y), .val (.ref y)] [.int 1])) := Steps.trans g18 (by
          refine XS.ifNo X18.here hexec rfl (hb hbytes d47) rfl (i0_eq_f (by decide)) ?_
          refine iconstV X18.here hexec rfl 1 (hb hbytes d50) (by decide) ?_
          refine XS.goto X18.here hexec rfl (pc0 := 51) rfl (hb hbytes d51) (by decide) rfl ?_
          exact Steps.refl _)
        exact ⟨T18, some (.int 1), _, _, _, X18, rfl, rfl, rfl, (fun h => by cases h), ⟨1, rfl, q18.trans hh16, Or.inl ⟨rfl, iff.mp he⟩⟩, fun fs hl => c19.trans (X18.ireturnOut hexec hret rfl (Or.inr (Or.inl rfl)) (hb hbytes d55) hl)⟩
      · have c19 : Steps p.tables e below (s₁.setTop (entryFrame m #[.ref x, .ref y] 3)) (T18.setTop (mkF m 55 #[.val (.ref x), .val (.ref y), .val (.ref y)] [.int 0])) := Steps.trans g18 (by
          refine XS.ifYes X18.here hexec rfl (pc0 := 47) rfl (hb hbytes d47) rfl (i0_eq_t rfl) (by decide) rfl ?_
          refine iconstV X18.here hexec rfl 0 (hb hbytes d54) (by decide) ?_
          exact Steps.refl _)
        exact ⟨T18, some (.int 0), _, _, _, X18, rfl, rfl, rfl, (fun h => by cases h), ⟨0, rfl, q18.trans hh16, Or.inr ⟨rfl, fun q => he (iff.mpr q)⟩⟩, fun fs hl => c19.trans (X18.ireturnOut hexec hret rfl (Or.inr (Or.inl rfl)) (hb hbytes d55) hl)⟩
    · have c13 : Steps p.tables e below (s₁.setTop (entryFrame m #[.ref x, .ref y] 3)) (T11.setTop (mkF m 55 #[.val (.ref x), .val (.ref y), .val (.ref y)] [.int 0])) := c12.trans (by
        refine XS.icmpYes X11.here hexec rfl (pc0 := 33) rfl (hb hbytes d33) rfl (ii_ne_t hcd) (by decide) rfl ?_
        refine iconstV X11.here hexec rfl 0 (hb hbytes d54) (by decide) ?_
        exact Steps.refl _)
      exact ⟨T11, some (.int 0), _, _, _, X11, rfl, rfl, rfl, (fun h => by cases h), ⟨0, rfl, hh11, Or.inr ⟨rfl, Cod.dif hx.2.2.2.2.1 hy.2.2.2.2.1 hcd⟩⟩, fun fs hl => c13.trans (X11.ireturnOut hexec hret rfl (Or.inr (Or.inl rfl)) (hb hbytes d55) hl)⟩
theorem pays {l : Launch} {R : Room} {p : Program} {e : Env} {below : List Frame} {s : State} {sargs : Array Value} {len W : Nat} (x t : Addr) (V : Cell) (cd : Int32) (n : Nat) (f : Nat → Int32) (y t' : Addr) (V' : Cell) (cd' : Int32) (k : Nat) (g : Nat → Int32) (z : Int32) (htab : tab.before sargs s = true) (hfr : 2 ≤ R.frames) (hlo : W + 28 ≤ R.locals) :
    Back l R p e below s sargs yN len W (fun A₁ a₁ => A₁.cells + 0 ≤ R.cells ∧ A₁.slots + 0 ≤ R.slots ∧ P x t V cd n f y t' V' cd' k g z a₁ A₁.U) (fun A₁ _ v₁ B₁ => Says01 (SameT n f k g) v₁ A₁.U B₁.U ∧ B₁.locs = A₁.locs ++ [] ∧ B₁.cells = A₁.cells + 0 ∧ B₁.slots = A₁.slots + 0) :=
  (law l x t V cd n f y t' V' cd' k g z).pays htab hfr (by omega)
end SEq
end StrChars
namespace StrChars.Road
open Jvm Sem ClassFile Op Lib Jvm.Stand Jvm.Free Jvm.Free.XT
open Jvm.Lib.Cold (StaticIs)
/-- the words of String.equals(Object) -/
abbrev wordsEq : List Jvm.Cond := [.code SEq.yN SEq.yB 3 (some .boolean), .initialized ST, .classLink ST 10 ST, .fieldLink ST 38 ST "COMPACT_STRINGS" "Z", .fieldLink ST 15 ST "coder" "B", .fieldLink ST 9 ST "value" "[B", .methodLink ST 541 LEq.yN, .static LEq.yN, .code LEq.yN LEq.yB 3 (some .boolean), .initialized "java/lang/StringLatin1"]
theorem tabEq_of {a : Array Value} {s : State} (h : ∀ w ∈ wordsEq, w.before a s = true) : SEq.tab.before a s = true := by
  have hl : LEq.tab.before a s = true := unparts (wk h (.code LEq.yN LEq.yB 3 (some .boolean))) (wks h (.initialized LEq.yN.cls :: LEq.site))
  have q := consq hl h
  exact unparts (wk q (.code SEq.yN SEq.yB 3 (some .boolean))) (wks q (.initialized SEq.yN.cls :: SEq.site))
theorem movedEq {Z s : State} {a0 args : Array Value} (hZ : Z.Warmed39 s.vm) (hw : ∀ d ∈ wordsEq, d.before a0 Z = true) : ∀ d ∈ wordsEq, d.before args s = true := fun d hd => by
  have t : ∀ d ∈ wordsEq, (d.onTables && d.keepsFace) = true := by decide +kernel
  exact RoadKit.mv hZ (hw d hd) (t d hd)
/-- the road's facts of a String, as the laws ask it -/
theorem txt_of {Z U : State} {a0 : Array Value} {kI : Nat} (wi : (Jvm.Cond.instantiable ST kI).before a0 Z = true) (al : Z.vm.Alike U.vm) {x t : Addr} {kb : ClassId} {cs : List Int32} {cd N2 : Int32} {vs : List Value} (E : RoadKit.Exa Z U.heap x ST) (V : RoadKit.Fld Z U.heap x ST "value" "[B" (.ref t)) (C : RoadKit.Fld Z U.heap x ST "coder" "B" (.int cd)) (K : RoadKit.Arv Z U.heap t kb .byte N2 vs (.int 0)) (hc : CodA cs cd N2 vs) (hb : ∀ c ∈ cs, ¬ c < 0 ∧ ¬ (65535 : Int32) < c) (l2 : cs.length ≤ 4000) :
    ∃ A, Txt x t A cd cs.length (fun j => cs.getD j 0) U := by
  obtain ⟨A, K1, K2, K3, K4, K5, K6⟩ := K
  have hcod := hc.cod (by omega) K3 K5
  obtain ⟨D, fV, fC, hB, F1, F2, g1, g2, -, -⟩ := strObj wi al E V C
  exact ⟨A, ⟨_, hB.2.2.1, D, hB.1, rfl, by cases q : D.vm <;> first | rfl | exact absurd q (hB.2.1.2 _)⟩, Has.of hB F1 g1, Has.of hB F2 g2, ⟨K1.1, State.isArrayOf_alike al K1.2.1, K1.2.2, by rcases hcod with ⟨-, q, -⟩ | ⟨-, q, -⟩ <;> omega⟩, hcod, fun j hj => by
    have e : cs.getD j 0 = cs[j] := by simp [List.getD_eq_getElem?_getD, hj]
    show ¬ cs.getD j 0 < 0 ∧ ¬ 65535 < cs.getD j 0
    rw [e]; exact hb _ (List.getElem_mem _)⟩
theorem same_list (cs ds : List Int32) : SameT cs.length (fun j => cs.getD j 0) ds.length (fun j => ds.getD j 0) ↔ cs = ds := by
  constructor
  · rintro ⟨e, q⟩
    refine List.ext_getElem e fun j h1 h2 => ?_
    have := q j h1
    simpa [List.getD_eq_getElem?_getD, h1, h2] using this
  · rintro rfl
    exact ⟨rfl, fun _ _ => rfl⟩
/-- **equals(Object) OF TWO SUCH STRINGS**: 1 just where the chars are the same -/
theorem eqW {p : Program} {l : Launch} {e : Env} {R : Room} {s : State} {args : Array Value} {below : List Frame} {len W : Nat} {Z : State} {a0 : Array Value} {h : Heap} (hZ : Z.Warmed39 s.vm) (hw : ∀ d ∈ wordsEq, d.before a0 Z = true) {kI : Nat} (wi : (Jvm.Cond.instantiable ST kI).before a0 Z = true)
    {x t : Addr} {kb : ClassId} {cs : List Int32} {cd N2 : Int32} {vs : List Value} (E : RoadKit.Exa Z h x ST) (V : RoadKit.Fld Z h x ST "value" "[B" (.ref t)) (C : RoadKit.Fld Z h x ST "coder" "B" (.int cd)) (K : RoadKit.Arv Z h t kb .byte N2 vs (.int 0)) (hc : CodA cs cd N2 vs) (hb : ∀ c ∈ cs, ¬ c < 0 ∧ ¬ (65535 : Int32) < c) (l2 : cs.length ≤ 4000)
    {y t' : Addr} {kb' : ClassId} {ds : List Int32} {cd' N2' : Int32} {vs' : List Value} (E' : RoadKit.Exa Z h y ST) (V' : RoadKit.Fld Z h y ST "value" "[B" (.ref t')) (C' : RoadKit.Fld Z h y ST "coder" "B" (.int cd')) (K' : RoadKit.Arv Z h t' kb' .byte N2' vs' (.int 0)) (hc' : CodA ds cd' N2' vs') (hb' : ∀ c ∈ ds, ¬ c < 0 ∧ ¬ (65535 : Int32) < c) (l2' : ds.length ≤ 4000)
    {z : Int32} (S : RoadKit.Sta Z h ST "COMPACT_STRINGS" "Z" (.int z)) (hz : ¬ z = 0) (hfr : 2 ≤ R.frames) (hlo : W + 28 ≤ R.locals) :
    Back l R p e below s args (⟨"java/lang/String", "equals", "(Ljava/lang/Object;)Z"⟩ : MethodName) len W (fun P a => a = #[.ref x, .ref y] ∧ P.U.heap = h ∧ P.cells + 0 ≤ R.cells ∧ P.slots + 0 ≤ R.slots)
      (fun P _ v B => ∃ L, (((v = some (.int 1) ∧ cs = ds) ∨ (v = some (.int 0) ∧ ¬ cs = ds)) ∧ L = [] ∧ B.U.heap = h) ∧ B.locs = P.locs ++ L ∧ B.cells = P.cells + 0 ∧ B.slots = P.slots + 0) := by
  intro m meth c P g ig mk a X hg hsize hdg hW hn hp'
  obtain ⟨rfl, rfl, r1, r2⟩ := hp'
  have al : Z.vm.Alike P.U.vm := hZ.alike.trans X.warmed.alike
  obtain ⟨A, hx⟩ := txt_of wi al E V C K hc hb l2
  obtain ⟨A', hy⟩ := txt_of wi al E' V' C' K' hc' hb' l2'
  obtain ⟨v, B, X', ⟨⟨w, hv, hh, hq⟩, hl, hk, hs⟩, st⟩ := SEq.pays x t A cd cs.length (fun j => cs.getD j 0) y t' A' cd' ds.length (fun j => ds.getD j 0) z (tabEq_of (movedEq hZ hw)) hfr hlo m meth c P g ig mk _ X hg hsize hdg hW hn ⟨r1, r2, rfl, hx, hy, sta_is al S, hz⟩
  refine ⟨v, B, X', ⟨[], ⟨?_, rfl, hh⟩, hl, hk, hs⟩, st⟩
  rcases hq with ⟨rfl, q⟩ | ⟨rfl, q⟩
  · exact Or.inl ⟨hv, (same_list cs ds).mp q⟩
  · exact Or.inr ⟨hv, fun e => q ((same_list cs ds).mpr e)⟩
end StrChars.Road
namespace StrChars
open Jvm Sem ClassFile Op Lib Jvm.Stand Jvm.Free.XT Jvm.Free.ALB Jvm.Free.JM Jvm.Free
open Jvm.Lib.Cold (StaticIs)
namespace ChN
def yN : MethodName := ⟨"java/lang/String", "charAt", "(I)C"⟩
abbrev yB : ByteArray := jdk_42_method_56_code
theorem d0 : decode yB 0 = .ok (.aload_n 0, 1) := by decide +kernel
theorem d1 : decode yB 1 = .ok (.invokevirtual 492, 3) := by decide +kernel
theorem d4 : decode yB 4 = .ok (.ifCond (.eq) 12, 3) := by decide +kernel
theorem d7 : decode yB 7 = .ok (.aload_n 0, 1) := by decide +kernel
theorem d8 : decode yB 8 = .ok (.getfield 9, 3) := by decide +kernel
theorem d11 : decode yB 11 = .ok (.iload_n 1, 1) := by decide +kernel
theorem d12 : decode yB 12 = .ok (.invokestatic 495, 3) := by decide +kernel
theorem d15 : decode yB 15 = .ok (.ireturn, 1) := by decide +kernel
def site : List Cond := [.fieldLink "java/lang/String" 9 "java/lang/String" "value" "[B", IsL.tab, LChA.tab] ++ virtW "java/lang/String" 492 "java/lang/String" IsL.yN IsL.yN ++ staticW "java/lang/String" 495 LChA.yN
def tab : Cond := tabOf yN yB 2 (some .char) site
def P (x t : Addr) (V : Cell) (n : Nat) (f : Nat → Int32) (z : Int32) (fm : Value) (i : Nat) (args : Array Value) (s : State) : Prop := args = #[.ref x, .int (Int32.ofNat i)] ∧ Txt x t V 0 n f s ∧ i < n ∧ StaticIs s "java/lang/String" "COMPACT_STRINGS" "Z" (.int z) ∧ ¬ z = 0 ∧ StaticIs s "jdk/internal/util/Preconditions" "SIOOBE_FORMATTER" "Ljava/util/function/BiFunction;" fm ∧ fm.isRef = true
def E (f : Nat → Int32) (i : Nat) (r : Option Value) (s u : State) : Prop := XT.PureE (some (.int (f i))) r s u
/-- charAt(i) of a Latin-1 String of n chars, i < n: f i -/
theorem law (l : Launch) (x t : Addr) (V : Cell) (n : Nat) (f : Nat → Int32) (z : Int32) (fm : Value) (i : Nat) : Law l yN 2 1 3 40 yB 2 (some .char) site (P x t V n f z fm i) (E f i) [] 0 0 := by
  refine Law.of_walk (plainFor_of_name (by decide +kernel)) (by decide +kernel) (by decide +kernel) (by decide) (fun _ _ h => by rw [h.1]; rfl) (fun _ U U' hal hh h => ⟨h.1, h.2.1.mv hal hh, h.2.2.1, h.2.2.2.1.there hal hh, h.2.2.2.2.1, h.2.2.2.2.2.1.there hal hh, h.2.2.2.2.2.2⟩) (fun r U U' V V' h1 hal h2 h => XT.PureE.mv r U U' V V' h1 hal h2 h) ?_
  intro p e s m args below meth c s₁ X0 hexec hbytes hml hret hlk hnm hown hh0 W hP
  obtain ⟨rfl, hx, hi, s1, hz, s3, rf⟩ := hP
  have v31 := hx.2.2.2.1.2.2.2
  have hr := hx.2.2.2.2.2 i hi
  have hx0 := hx.mv X0.warmed.alike hh0
  have c1 : Steps p.tables e below (s₁.setTop (entryFrame m #[.ref x, .int (Int32.ofNat i)] 2)) (s₁.setTop (mkF m 1 #[.val (.ref x), .val (.int (Int32.ofNat i))] [.ref x])) := Steps.trans (entry rfl) (by
    show Steps p.tables e below (s₁.setTop (mkF m 0 #[.val (.ref x), .val (.int (Int32.ofNat i))] [])) _
    refine XS.aloadN X0.here hexec rfl (hb hbytes d0) rfl rfl ?_
    exact Steps.refl _)
  obtain ⟨v2, T2, X2, E2, g2⟩ := X0.callV hexec (IsL.law l x 0 z) hown (wks W (virtW "java/lang/String" 492 "java/lang/String" IsL.yN IsL.yN)) rfl (by decide) (wk W IsL.tab) (W := 0) (Nat.le_of_ble_eq_true rfl) (Nat.le_of_ble_eq_true rfl) (Nat.le_refl _) (Nat.le_refl _) (hx0.1.fc X0.warmed.alike) hx0.1.is (g := (mkF m 1 #[.val (.ref x), .val (.int (Int32.ofNat i))] [.ref x])) rfl (by rw [hml]; rfl) c1 (argsL := []) (rest := []) rfl rfl (by show 2 * 0 + 0 ≤ _; decide) (hb hbytes d1) (⟨rfl, hx0.2.2.1, hx.2.2.2.2.1.cd, s1.there X0.warmed.alike hh0, hz⟩)
  obtain ⟨rfl, q2⟩ := E2
  have hh2 := q2.trans hh0
  have hx2 := hx.mv X2.warmed.alike hh2
  obtain ⟨-, k1, k2⟩ | ⟨k0, -⟩ := hx.2.2.2.2.1
  · have c3 : Steps p.tables e below (s₁.setTop (entryFrame m #[.ref x, .int (Int32.ofNat i)] 2)) (T2.setTop (mkF m 8 #[.val (.ref x), .val (.int (Int32.ofNat i))] [.ref x])) := Steps.trans g2 (by
      refine XS.ifNo X2.here hexec rfl (hb hbytes d4) rfl (i0_eq_f (by decide)) ?_
      refine XS.aloadN X2.here hexec rfl (hb hbytes d7) rfl rfl ?_
      exact Steps.refl _)
    obtain ⟨T4, X4, q4, st4⟩ := X2.hget hexec hown (wk W (.fieldLink "java/lang/String" 9 "java/lang/String" "value" "[B")) hx2.2.1 (g := (mkF m 8 #[.val (.ref x), .val (.int (Int32.ofNat i))] [.ref x])) rfl (rest := []) rfl (hb hbytes d8)
    have hh4 := q4.trans hh2
    have c5 : Steps p.tables e below (s₁.setTop (entryFrame m #[.ref x, .int (Int32.ofNat i)] 2)) (T4.setTop (mkF m 12 #[.val (.ref x), .val (.int (Int32.ofNat i))] [.int (Int32.ofNat i), .ref t])) := (c3.trans (st4 _ (Steps.refl _))).trans (by
      refine XS.iloadN X4.here hexec rfl (hb hbytes d11) rfl ?_
      exact Steps.refl _)
    obtain ⟨v6, T6, X6, E6, g6⟩ := X4.callS hexec (LChA.law l t V i (lo8 (f i)) fm) hown (wks W (staticW "java/lang/String" 495 LChA.yN)) (wk W LChA.tab) (W := 0) (Nat.le_of_ble_eq_true rfl) (Nat.le_of_ble_eq_true rfl) (Nat.le_refl _) (Nat.le_refl _) (g := (mkF m 12 #[.val (.ref x), .val (.int (Int32.ofNat i))] [.int (Int32.ofNat i), .ref t])) rfl (by rw [hml]; rfl) c5 (argsL := [.ref t, .int (Int32.ofNat i)]) (rest := []) rfl rfl (by show 2 * 0 + 0 ≤ _; decide) (hb hbytes d12) (⟨rfl, hx.2.2.2.1.mv X4.warmed.alike hh4, (k2 i hi).1, s3.there X4.warmed.alike hh4, rf⟩)
    obtain ⟨rfl, q6⟩ := E6
    rw [chr8_lo8 hr.1 (k2 i hi).2] at g6
    exact ⟨T6, some (.int (f i)), _, _, _, X6, rfl, rfl, rfl, (fun h => by cases h), ⟨rfl, q6.trans hh4⟩, fun fs hl => Steps.trans g6 (X6.ireturnOut hexec hret (narrow_ch hr.1 hr.2) (Or.inr (Or.inr (Or.inr (Or.inl rfl)))) (hb hbytes d15) hl)⟩
  · exact absurd k0 (by decide)
theorem pays {l : Launch} {R : Room} {p : Program} {e : Env} {below : List Frame} {s : State} {sargs : Array Value} {len W : Nat} (x t : Addr) (V : Cell) (n : Nat) (f : Nat → Int32) (z : Int32) (fm : Value) (i : Nat) (htab : tab.before sargs s = true) (hfr : 4 ≤ R.frames) (hlo : W + 53 ≤ R.locals) :
    Back l R p e below s sargs yN len W (fun A₁ a₁ => A₁.cells + 0 ≤ R.cells ∧ A₁.slots + 0 ≤ R.slots ∧ P x t V n f z fm i a₁ A₁.U) (fun A₁ _ v₁ B₁ => E f i v₁ A₁.U B₁.U ∧ B₁.locs = A₁.locs ++ [] ∧ B₁.cells = A₁.cells + 0 ∧ B₁.slots = A₁.slots + 0) :=
  (law l x t V n f z fm i).pays htab hfr (by omega)
end ChN
end StrChars
namespace StrChars.Road
open Jvm Sem ClassFile Op Lib Jvm.Stand Jvm.Free Jvm.Free.XT
open Jvm.Lib.Cold (StaticIs)
/-- the words of String.charAt(int), the Latin-1 road alone -/
abbrev wordsChN : List Jvm.Cond := [.code ChN.yN ChN.yB 2 (some .char), .initialized ST, .fieldLink ST 9 ST "value" "[B", .fieldLink ST 38 ST "COMPACT_STRINGS" "Z", .fieldLink ST 15 ST "coder" "B", .code IsL.yN IsL.yB 1 (some .boolean), .methodLink ST 492 IsL.yN, .declares IsL.yN, .selects ST IsL.yN IsL.yN, .instanceMethod IsL.yN,
  .methodLink ST 495 LChA.yN, .static LChA.yN, .code LChA.yN LChA.yB 2 (some .char), .initialized "java/lang/StringLatin1", .methodLink "java/lang/StringLatin1" 9 JO.Str_checkIndex.yN, .static JO.Str_checkIndex.yN, .code JO.Str_checkIndex.yN JO.Str_checkIndex.yB 2 none,
  .fieldLink ST 1053 "jdk/internal/util/Preconditions" "SIOOBE_FORMATTER" "Ljava/util/function/BiFunction;", .methodLink ST 1059 JC.PreCheck.yN, .static JC.PreCheck.yN, .code JC.PreCheck.yN JC.PreCheck.yB 3 (some .int), .initialized "jdk/internal/util/Preconditions"]
theorem tabChN_of {a : Array Value} {s : State} (h : ∀ w ∈ wordsChN, w.before a s = true) : ChN.tab.before a s = true := by
  have hp : JC.PreCheck.tab.before a s = true := unparts (wk h (.code JC.PreCheck.yN JC.PreCheck.yB 3 (some .int))) (wks h (.initialized JC.PreCheck.yN.cls :: JC.PreCheck.site))
  have qk := consq hp h
  have hk : JO.Str_checkIndex.tab.before a s = true := unparts (wk qk (.code JO.Str_checkIndex.yN JO.Str_checkIndex.yB 2 none)) (wks qk (.initialized JO.Str_checkIndex.yN.cls :: JO.Str_checkIndex.site))
  have ql := consq hk h
  have hl : LChA.tab.before a s = true := unparts (wk ql (.code LChA.yN LChA.yB 2 (some .char))) (wks ql (.initialized LChA.yN.cls :: LChA.site))
  have hi : IsL.tab.before a s = true := unparts (wk h (.code IsL.yN IsL.yB 1 (some .boolean))) (wks h (.initialized IsL.yN.cls :: IsL.site))
  have q := consq hi (consq hl h)
  exact unparts (wk q (.code ChN.yN ChN.yB 2 (some .char))) (wks q (.initialized ChN.yN.cls :: ChN.site))
theorem movedChN {Z s : State} {a0 args : Array Value} (hZ : Z.Warmed39 s.vm) (hw : ∀ d ∈ wordsChN, d.before a0 Z = true) : ∀ d ∈ wordsChN, d.before args s = true := fun d hd => by
  have t : ∀ d ∈ wordsChN, (d.onTables && d.keepsFace) = true := by decide +kernel
  exact RoadKit.mv hZ (hw d hd) (t d hd)
/-- **charAt(i) OF A LATIN-1 STRING**, i < n: the char -/
theorem chN {p : Program} {l : Launch} {e : Env} {R : Room} {s : State} {args : Array Value} {below : List Frame} {len W : Nat} {Z : State} {a0 : Array Value} {h : Heap} (hZ : Z.Warmed39 s.vm) (hw : ∀ d ∈ wordsChN, d.before a0 Z = true) {kI : Nat} (wi : (Jvm.Cond.instantiable ST kI).before a0 Z = true)
    {x t : Addr} {kb : ClassId} {cs : List Int32} {N2 z : Int32} {vs : List Value} {fm : Value} {i : Nat} {j : Int32} (E : RoadKit.Exa Z h x ST) (V : RoadKit.Fld Z h x ST "value" "[B" (.ref t)) (C : RoadKit.Fld Z h x ST "coder" "B" (.int 0)) (K : RoadKit.Arv Z h t kb .byte N2 vs (.int 0)) (hc : CodA cs 0 N2 vs) (hb : ∀ c ∈ cs, ¬ c < 0 ∧ ¬ (65535 : Int32) < c)
    (S : RoadKit.Sta Z h ST "COMPACT_STRINGS" "Z" (.int z)) (hz : ¬ z = 0) (F : RoadKit.Sta Z h "jdk/internal/util/Preconditions" "SIOOBE_FORMATTER" "Ljava/util/function/BiFunction;" fm) (rf : fm.isRef = true) (l2 : cs.length ≤ 4000) (hi : i < cs.length) (hj : j = Int32.ofNat i) (hfr : 4 ≤ R.frames) (hlo : W + 53 ≤ R.locals) :
    Back l R p e below s args (⟨"java/lang/String", "charAt", "(I)C"⟩ : MethodName) len W (fun P a => a = #[.ref x, .int j] ∧ P.U.heap = h ∧ P.cells + 0 ≤ R.cells ∧ P.slots + 0 ≤ R.slots)
      (fun P _ v B => ∃ L, (v = some (.int (cs.getD i 0)) ∧ L = [] ∧ B.U.heap = h) ∧ B.locs = P.locs ++ L ∧ B.cells = P.cells + 0 ∧ B.slots = P.slots + 0) := by
  subst hj
  intro m meth c P g ig mk a X hg hsize hdg hW hn hp'
  obtain ⟨rfl, rfl, r1, r2⟩ := hp'
  have al : Z.vm.Alike P.U.vm := hZ.alike.trans X.warmed.alike
  obtain ⟨A, hx⟩ := txt_of wi al E V C K hc hb l2
  obtain ⟨v, B, X', ⟨⟨hv, hh⟩, hl, hk, hs⟩, st⟩ := ChN.pays x t A cs.length (fun j => cs.getD j 0) z fm i (tabChN_of (movedChN hZ hw)) hfr hlo m meth c P g ig mk _ X hg hsize hdg hW hn ⟨r1, r2, rfl, hx, hi, sta_is al S, hz, sta_is al F, rf⟩
  exact ⟨v, B, X', ⟨[], ⟨hv, rfl, hh⟩, hl, hk, hs⟩, st⟩
/-- what backV says of its String, as the contracts of this text ask it: cs's low bytes, coder 0 -/
theorem codOf {cs : List Int32} {n : Nat} (hn : cs.length = n) (hb : ∀ c ∈ cs, ¬ 255 < c) : CodA cs 0 (Int32.ofNat n) ((cs.map lo8).map Value.int) := Or.inl ⟨rfl, by rw [hn], by simp [List.map_map, Function.comp_def], hb⟩
end StrChars.Road
end Jvm.Pilot.@@N@@

namespace Jvm.Pilot.@@N@@
open Jvm Jvm.ClassFile Sem Op Lib Jvm.Free Jvm.Stand Jvm.LawKit Jvm.RoadKit Bundle Jvm.Pilot.@@N@@.Jvm.D
theorem own_wd {Z : State} {a0 : Array Value} (hw : ∀ d ∈ tables_1, d.before a0 Z = true) (i : Nat) {d : Jvm.Cond} (h : tables_1[i]? = some d) : d.before a0 Z = true := hw d (List.mem_of_getElem? h)
theorem Gl.gen {tb : Tables} {e : Env} {below : List Frame} {P : Outcome → State → Prop} {A : State} (h : ∀ Q : Outcome → State → Prop, Q = P → Gl tb e below Q A) : Gl tb e below P A := h P rfl
def own_EL : List (String × Nat) := consts_1
theorem own_wS {a0 : Array Value} {Z : State} (hw : ∀ d ∈ tables_1, d.before a0 Z = true) : ∀ a ∈ Bundle.stringAtoms, a.before a0 Z = true := by
  intro a ha
  simp only [Bundle.stringAtoms, List.mem_cons, List.not_mem_nil, or_false] at ha
  rcases ha with rfl | rfl | rfl | rfl | rfl | rfl | rfl
  · exact hw _ (List.mem_of_getElem? (i := 2) rfl)
  · exact hw _ (List.mem_of_getElem? (i := 3) rfl)
  · exact hw _ (List.mem_of_getElem? (i := 4) rfl)
  · exact hw _ (List.mem_of_getElem? (i := 5) rfl)
  · exact hw _ (List.mem_of_getElem? (i := 6) rfl)
  · exact hw _ (List.mem_of_getElem? (i := 7) rfl)
  · exact hw _ (List.mem_of_getElem? (i := 8) rfl)
def own_ch (x : Int32) : Int32 := (x &&& (255 : Int32)).toUInt32.toUInt16.toUInt32.toInt32
theorem own_chT (x : Int32) : (own_ch x).toInt = x.toInt % 256 := by
  have a := c_mask x 255 8 (by decide) (by decide)
  have b := c_i2c (x &&& (255 : Int32))
  unfold own_ch; omega
theorem own_chr (x : Int32) : ¬ own_ch x < 0 ∧ ¬ (255 : Int32) < own_ch x := by
  rw [Int32.lt_iff_toInt_lt, Int32.lt_iff_toInt_lt, own_chT, show (0 : Int32).toInt = 0 from rfl, show (255 : Int32).toInt = 255 from rfl]
  omega
theorem own_nc {x : Int32} (h : ¬ x < 0 ∧ ¬ (255 : Int32) < x) : nar .char x = x := by
  show x.toUInt32.toUInt16.toUInt32.toInt32 = x
  rw [Int32.lt_iff_toInt_lt, Int32.lt_iff_toInt_lt, show (0 : Int32).toInt = 0 from rfl, show (255 : Int32).toInt = 255 from rfl] at h
  apply Int32.toInt_inj.mp
  have b := c_i2c x
  omega
theorem own_fitc {x : Int32} (h : ¬ x < 0 ∧ ¬ (255 : Int32) < x) : fits .char (.int x) = true := by have q := fits_nar_char x; rwa [own_nc h] at q
theorem own_gr {ts : List Int32} (h : ∀ c ∈ ts, ¬ c < 0 ∧ ¬ (255 : Int32) < c) (i : Nat) : ¬ ts.getD i 0 < 0 ∧ ¬ (255 : Int32) < ts.getD i 0 := by
  rw [List.getD_eq_getElem?_getD]
  by_cases q : i < ts.length
  · rw [List.getElem?_eq_getElem q]; exact h _ (List.getElem_mem q)
  · rw [List.getElem?_eq_none (Nat.le_of_not_lt q)]; decide
theorem own_le255 {c : Int32} (h : ¬ (255 : Int32) < c) : ¬ (65535 : Int32) < c := by
  rw [Int32.lt_iff_toInt_lt] at *
  have a : (255 : Int32).toInt = 255 := rfl
  have b : (65535 : Int32).toInt = 65535 := rfl
  omega
theorem own_lt {ij : Int32} {n : Nat} (h0 : ¬ ij < 0) (hl : n ≤ 4000) (h : ij < Int32.ofNat n) : ij.toNatClampNeg < n := by
  rw [Int32.lt_iff_toInt_lt] at h0 h
  rw [Int32.toInt_ofNat_of_lt (by omega)] at h
  have z : (0 : Int32).toInt = 0 := rfl
  rw [Int32.toNatClampNeg]; omega
theorem own_p8 (p : Int32) : ¬ (p &&& (7 : Int32)) < 0 ∧ (p &&& (7 : Int32)).toNatClampNeg < 8 := by
  have e1 := c_mask p 7 3 (by decide) (by decide)
  rw [Int32.lt_iff_toInt_lt, Int32.toNatClampNeg, show (0 : Int32).toInt = 0 from rfl]
  omega
theorem own_setall {P : Int32 → Prop} {L : List Int32} {i : Nat} {v : Int32} (h : ∀ x ∈ L, P x) (hv : P v) : ∀ x ∈ L.set i v, P x := fun x hx => (List.mem_or_eq_of_mem_set hx).elim (h x) (fun e => e ▸ hv)
def own_at (ts : List Int32) (ij pf : Int32) : Int32 := if ij < Int32.ofNat ts.length then ts.getD ij.toNatClampNeg 0 else pf
theorem own_p8d (p : Int32) : (p &&& (7 : Int32)) = (0 : Int32) ∨ (p &&& (7 : Int32)) = (1 : Int32) ∨ (p &&& (7 : Int32)) = (2 : Int32) ∨ (p &&& (7 : Int32)) = (3 : Int32) ∨ (p &&& (7 : Int32)) = (4 : Int32) ∨ (p &&& (7 : Int32)) = (5 : Int32) ∨ (p &&& (7 : Int32)) = (6 : Int32) ∨ (p &&& (7 : Int32)) = (7 : Int32) := by
  have e1 := c_mask p 7 3 (by decide) (by decide)
  have a0 : (0 : Int32).toInt = 0 := rfl
  have a1 : (1 : Int32).toInt = 1 := rfl
  have a2 : (2 : Int32).toInt = 2 := rfl
  have a3 : (3 : Int32).toInt = 3 := rfl
  have a4 : (4 : Int32).toInt = 4 := rfl
  have a5 : (5 : Int32).toInt = 5 := rfl
  have a6 : (6 : Int32).toInt = 6 := rfl
  have a7 : (7 : Int32).toInt = 7 := rfl
  simp only [← Int32.toInt_inj, a0, a1, a2, a3, a4, a5, a6, a7]
  omega
theorem own_n9 (p : Int32) : ((p &&& (15 : Int32)) % (9 : Int32)) = (0 : Int32) ∨ ((p &&& (15 : Int32)) % (9 : Int32)) = (1 : Int32) ∨ ((p &&& (15 : Int32)) % (9 : Int32)) = (2 : Int32) ∨ ((p &&& (15 : Int32)) % (9 : Int32)) = (3 : Int32) ∨ ((p &&& (15 : Int32)) % (9 : Int32)) = (4 : Int32) ∨ ((p &&& (15 : Int32)) % (9 : Int32)) = (5 : Int32) ∨ ((p &&& (15 : Int32)) % (9 : Int32)) = (6 : Int32) ∨ ((p &&& (15 : Int32)) % (9 : Int32)) = (7 : Int32) ∨ ((p &&& (15 : Int32)) % (9 : Int32)) = (8 : Int32) := by
  have e1 := c_mask p 15 4 (by decide) (by decide)
  have e2 := (c_irem (p &&& (15 : Int32)) 9 9 rfl).1 (by omega)
  have a0 : (0 : Int32).toInt = 0 := rfl
  have a1 : (1 : Int32).toInt = 1 := rfl
  have a2 : (2 : Int32).toInt = 2 := rfl
  have a3 : (3 : Int32).toInt = 3 := rfl
  have a4 : (4 : Int32).toInt = 4 := rfl
  have a5 : (5 : Int32).toInt = 5 := rfl
  have a6 : (6 : Int32).toInt = 6 := rfl
  have a7 : (7 : Int32).toInt = 7 := rfl
  have a8 : (8 : Int32).toInt = 8 := rfl
  simp only [← Int32.toInt_inj, a0, a1, a2, a3, a4, a5, a6, a7, a8]
  omega
def own_T0 : List Int32 := [(105 : Int32), (115 : Int32), (111 : Int32), (50 : Int32), (55 : Int32), (48 : Int32), (57 : Int32)]
def own_A0 (ff : Int32) : List Int32 := [(105 : Int32), (115 : Int32), (111 : Int32), (50 : Int32), (55 : Int32), (48 : Int32), (57 : Int32), ff]
theorem own_Tc0 : StrChars.Road.CodA own_T0 0 (7 : Int32) (([(105 : Int32), (115 : Int32), (111 : Int32), (50 : Int32), (55 : Int32), (48 : Int32), (57 : Int32)] : List Int32).map Value.int) := Or.inl ⟨rfl, rfl, rfl, by decide⟩
theorem own_Tb0 : ∀ c ∈ own_T0, ¬ c < 0 ∧ ¬ (65535 : Int32) < c := by decide
theorem own_Tr0 : ∀ c ∈ own_T0, ¬ c < 0 ∧ ¬ (255 : Int32) < c := by decide
theorem own_at0_0 (ff : Int32) : own_at own_T0 (0 : Int32) ff = (105 : Int32) := by unfold own_at; rw [if_pos (by decide)]; decide
theorem own_at0_1 (ff : Int32) : own_at own_T0 (1 : Int32) ff = (115 : Int32) := by unfold own_at; rw [if_pos (by decide)]; decide
theorem own_at0_2 (ff : Int32) : own_at own_T0 (2 : Int32) ff = (111 : Int32) := by unfold own_at; rw [if_pos (by decide)]; decide
theorem own_at0_3 (ff : Int32) : own_at own_T0 (3 : Int32) ff = (50 : Int32) := by unfold own_at; rw [if_pos (by decide)]; decide
theorem own_at0_4 (ff : Int32) : own_at own_T0 (4 : Int32) ff = (55 : Int32) := by unfold own_at; rw [if_pos (by decide)]; decide
theorem own_at0_5 (ff : Int32) : own_at own_T0 (5 : Int32) ff = (48 : Int32) := by unfold own_at; rw [if_pos (by decide)]; decide
theorem own_at0_6 (ff : Int32) : own_at own_T0 (6 : Int32) ff = (57 : Int32) := by unfold own_at; rw [if_pos (by decide)]; decide
theorem own_at0_7 (ff : Int32) : own_at own_T0 (7 : Int32) ff = ff := by unfold own_at; rw [if_neg (by decide)]
theorem own_eA0 {ff : Int32} (h : ¬ ff < 0 ∧ ¬ (255 : Int32) < ff) : [(nar .char (own_at own_T0 (0 : Int32) ff)), (nar .char (own_at own_T0 (1 : Int32) ff)), (nar .char (own_at own_T0 (2 : Int32) ff)), (nar .char (own_at own_T0 (3 : Int32) ff)), (nar .char (own_at own_T0 (4 : Int32) ff)), (nar .char (own_at own_T0 (5 : Int32) ff)), (nar .char (own_at own_T0 (6 : Int32) ff)), (nar .char (own_at own_T0 (7 : Int32) ff))] = own_A0 ff := by
  rw [own_at0_0, own_at0_1, own_at0_2, own_at0_3, own_at0_4, own_at0_5, own_at0_6, own_at0_7, own_nc h]; rfl
theorem own_Ar0 {ff : Int32} (h : ¬ ff < 0 ∧ ¬ (255 : Int32) < ff) : ∀ c ∈ own_A0 ff, ¬ c < 0 ∧ ¬ (255 : Int32) < c := by
  intro c hc; simp only [own_A0, List.mem_cons, List.not_mem_nil, or_false] at hc
  rcases hc with rfl | rfl | rfl | rfl | rfl | rfl | rfl | rfl <;> first | exact h | decide
theorem own_dl0 (ff : Int32) (i n : Nat) (c : Int32) : (((own_A0 ff).set i c).take n).length ≤ 4000 := by rw [List.length_take, List.length_set]; exact Nat.le_trans (Nat.min_le_right _ _) (Nat.le_of_ble_eq_true rfl)
def own_T1 : List Int32 := [(109 : Int32), (97 : Int32), (114 : Int32), (99 : Int32), (120 : Int32), (109 : Int32), (108 : Int32)]
def own_A1 (ff : Int32) : List Int32 := [(109 : Int32), (97 : Int32), (114 : Int32), (99 : Int32), (120 : Int32), (109 : Int32), (108 : Int32), ff]
theorem own_Tc1 : StrChars.Road.CodA own_T1 0 (7 : Int32) (([(109 : Int32), (97 : Int32), (114 : Int32), (99 : Int32), (120 : Int32), (109 : Int32), (108 : Int32)] : List Int32).map Value.int) := Or.inl ⟨rfl, rfl, rfl, by decide⟩
theorem own_Tb1 : ∀ c ∈ own_T1, ¬ c < 0 ∧ ¬ (65535 : Int32) < c := by decide
theorem own_Tr1 : ∀ c ∈ own_T1, ¬ c < 0 ∧ ¬ (255 : Int32) < c := by decide
theorem own_at1_0 (ff : Int32) : own_at own_T1 (0 : Int32) ff = (109 : Int32) := by unfold own_at; rw [if_pos (by decide)]; decide
theorem own_at1_1 (ff : Int32) : own_at own_T1 (1 : Int32) ff = (97 : Int32) := by unfold own_at; rw [if_pos (by decide)]; decide
theorem own_at1_2 (ff : Int32) : own_at own_T1 (2 : Int32) ff = (114 : Int32) := by unfold own_at; rw [if_pos (by decide)]; decide
theorem own_at1_3 (ff : Int32) : own_at own_T1 (3 : Int32) ff = (99 : Int32) := by unfold own_at; rw [if_pos (by decide)]; decide
theorem own_at1_4 (ff : Int32) : own_at own_T1 (4 : Int32) ff = (120 : Int32) := by unfold own_at; rw [if_pos (by decide)]; decide
theorem own_at1_5 (ff : Int32) : own_at own_T1 (5 : Int32) ff = (109 : Int32) := by unfold own_at; rw [if_pos (by decide)]; decide
theorem own_at1_6 (ff : Int32) : own_at own_T1 (6 : Int32) ff = (108 : Int32) := by unfold own_at; rw [if_pos (by decide)]; decide
theorem own_at1_7 (ff : Int32) : own_at own_T1 (7 : Int32) ff = ff := by unfold own_at; rw [if_neg (by decide)]
theorem own_eA1 {ff : Int32} (h : ¬ ff < 0 ∧ ¬ (255 : Int32) < ff) : [(nar .char (own_at own_T1 (0 : Int32) ff)), (nar .char (own_at own_T1 (1 : Int32) ff)), (nar .char (own_at own_T1 (2 : Int32) ff)), (nar .char (own_at own_T1 (3 : Int32) ff)), (nar .char (own_at own_T1 (4 : Int32) ff)), (nar .char (own_at own_T1 (5 : Int32) ff)), (nar .char (own_at own_T1 (6 : Int32) ff)), (nar .char (own_at own_T1 (7 : Int32) ff))] = own_A1 ff := by
  rw [own_at1_0, own_at1_1, own_at1_2, own_at1_3, own_at1_4, own_at1_5, own_at1_6, own_at1_7, own_nc h]; rfl
theorem own_Ar1 {ff : Int32} (h : ¬ ff < 0 ∧ ¬ (255 : Int32) < ff) : ∀ c ∈ own_A1 ff, ¬ c < 0 ∧ ¬ (255 : Int32) < c := by
  intro c hc; simp only [own_A1, List.mem_cons, List.not_mem_nil, or_false] at hc
  rcases hc with rfl | rfl | rfl | rfl | rfl | rfl | rfl | rfl <;> first | exact h | decide
theorem own_dl1 (ff : Int32) (i n : Nat) (c : Int32) : (((own_A1 ff).set i c).take n).length ≤ 4000 := by rw [List.length_take, List.length_set]; exact Nat.le_trans (Nat.min_le_right _ _) (Nat.le_of_ble_eq_true rfl)
def own_T2 : List Int32 := [(106 : Int32), (115 : Int32), (111 : Int32), (110 : Int32)]
def own_A2 (ff : Int32) : List Int32 := [(106 : Int32), (115 : Int32), (111 : Int32), (110 : Int32), ff, ff, ff, ff]
theorem own_Tc2 : StrChars.Road.CodA own_T2 0 (4 : Int32) (([(106 : Int32), (115 : Int32), (111 : Int32), (110 : Int32)] : List Int32).map Value.int) := Or.inl ⟨rfl, rfl, rfl, by decide⟩
theorem own_Tb2 : ∀ c ∈ own_T2, ¬ c < 0 ∧ ¬ (65535 : Int32) < c := by decide
theorem own_Tr2 : ∀ c ∈ own_T2, ¬ c < 0 ∧ ¬ (255 : Int32) < c := by decide
theorem own_at2_0 (ff : Int32) : own_at own_T2 (0 : Int32) ff = (106 : Int32) := by unfold own_at; rw [if_pos (by decide)]; decide
theorem own_at2_1 (ff : Int32) : own_at own_T2 (1 : Int32) ff = (115 : Int32) := by unfold own_at; rw [if_pos (by decide)]; decide
theorem own_at2_2 (ff : Int32) : own_at own_T2 (2 : Int32) ff = (111 : Int32) := by unfold own_at; rw [if_pos (by decide)]; decide
theorem own_at2_3 (ff : Int32) : own_at own_T2 (3 : Int32) ff = (110 : Int32) := by unfold own_at; rw [if_pos (by decide)]; decide
theorem own_at2_4 (ff : Int32) : own_at own_T2 (4 : Int32) ff = ff := by unfold own_at; rw [if_neg (by decide)]
theorem own_at2_5 (ff : Int32) : own_at own_T2 (5 : Int32) ff = ff := by unfold own_at; rw [if_neg (by decide)]
theorem own_at2_6 (ff : Int32) : own_at own_T2 (6 : Int32) ff = ff := by unfold own_at; rw [if_neg (by decide)]
theorem own_at2_7 (ff : Int32) : own_at own_T2 (7 : Int32) ff = ff := by unfold own_at; rw [if_neg (by decide)]
theorem own_eA2 {ff : Int32} (h : ¬ ff < 0 ∧ ¬ (255 : Int32) < ff) : [(nar .char (own_at own_T2 (0 : Int32) ff)), (nar .char (own_at own_T2 (1 : Int32) ff)), (nar .char (own_at own_T2 (2 : Int32) ff)), (nar .char (own_at own_T2 (3 : Int32) ff)), (nar .char (own_at own_T2 (4 : Int32) ff)), (nar .char (own_at own_T2 (5 : Int32) ff)), (nar .char (own_at own_T2 (6 : Int32) ff)), (nar .char (own_at own_T2 (7 : Int32) ff))] = own_A2 ff := by
  rw [own_at2_0, own_at2_1, own_at2_2, own_at2_3, own_at2_4, own_at2_5, own_at2_6, own_at2_7, own_nc h]; rfl
theorem own_Ar2 {ff : Int32} (h : ¬ ff < 0 ∧ ¬ (255 : Int32) < ff) : ∀ c ∈ own_A2 ff, ¬ c < 0 ∧ ¬ (255 : Int32) < c := by
  intro c hc; simp only [own_A2, List.mem_cons, List.not_mem_nil, or_false] at hc
  rcases hc with rfl | rfl | rfl | rfl | rfl | rfl | rfl | rfl <;> first | exact h | decide
theorem own_dl2 (ff : Int32) (i n : Nat) (c : Int32) : (((own_A2 ff).set i c).take n).length ≤ 4000 := by rw [List.length_take, List.length_set]; exact Nat.le_trans (Nat.min_le_right _ _) (Nat.le_of_ble_eq_true rfl)
theorem own_i0 : (0 : Int32).toNatClampNeg = 0 := by decide
theorem own_i1 : (1 : Int32).toNatClampNeg = 1 := by decide
theorem own_i2 : (2 : Int32).toNatClampNeg = 2 := by decide
theorem own_i3 : (3 : Int32).toNatClampNeg = 3 := by decide
theorem own_i4 : (4 : Int32).toNatClampNeg = 4 := by decide
theorem own_i5 : (5 : Int32).toNatClampNeg = 5 := by decide
theorem own_i6 : (6 : Int32).toNatClampNeg = 6 := by decide
theorem own_i7 : (7 : Int32).toNatClampNeg = 7 := by decide
theorem own_i8 : (8 : Int32).toNatClampNeg = 8 := by decide
theorem own_len8 {L : List Int32} (h : L.length = 8) (i : Nat) (c : Int32) {n : Nat} (hn : n ≤ 8) : ((L.set i c).take n).length = n := by rw [List.length_take, List.length_set, h]; omega
theorem own_nol {L T : List Int32} (h : L.length = 8) {i : Nat} {c : Int32} {n : Nat} (hn : n ≤ 8) (q : T.length ≠ n) : ¬ T = (L.set i c).take n := fun e => q ((congrArg List.length e).trans (own_len8 h i c hn))
theorem own_h0_0 (ff cc pp nn : Int32) (hp : pp = (0 : Int32) ∨ pp = (1 : Int32) ∨ pp = (2 : Int32) ∨ pp = (3 : Int32) ∨ pp = (4 : Int32) ∨ pp = (5 : Int32) ∨ pp = (6 : Int32) ∨ pp = (7 : Int32)) (hn : nn = (0 : Int32) ∨ nn = (1 : Int32) ∨ nn = (2 : Int32) ∨ nn = (3 : Int32) ∨ nn = (4 : Int32) ∨ nn = (5 : Int32) ∨ nn = (6 : Int32) ∨ nn = (7 : Int32) ∨ nn = (8 : Int32)) : (own_T0 = ((own_A0 ff).set pp.toNatClampNeg cc).take nn.toNatClampNeg) ↔ (nn = (7 : Int32) ∧ (¬ pp < nn ∨ cc = (own_A0 ff).getD pp.toNatClampNeg 0)) := by
  rcases hn with rfl | rfl | rfl | rfl | rfl | rfl | rfl | rfl | rfl
  · rw [own_i0]; exact ⟨fun h => absurd h (own_nol rfl (by decide) (by decide)), fun h => absurd h.1 (by decide)⟩
  · rw [own_i1]; exact ⟨fun h => absurd h (own_nol rfl (by decide) (by decide)), fun h => absurd h.1 (by decide)⟩
  · rw [own_i2]; exact ⟨fun h => absurd h (own_nol rfl (by decide) (by decide)), fun h => absurd h.1 (by decide)⟩
  · rw [own_i3]; exact ⟨fun h => absurd h (own_nol rfl (by decide) (by decide)), fun h => absurd h.1 (by decide)⟩
  · rw [own_i4]; exact ⟨fun h => absurd h (own_nol rfl (by decide) (by decide)), fun h => absurd h.1 (by decide)⟩
  · rw [own_i5]; exact ⟨fun h => absurd h (own_nol rfl (by decide) (by decide)), fun h => absurd h.1 (by decide)⟩
  · rw [own_i6]; exact ⟨fun h => absurd h (own_nol rfl (by decide) (by decide)), fun h => absurd h.1 (by decide)⟩
  · rcases hp with rfl | rfl | rfl | rfl | rfl | rfl | rfl | rfl <;> simp [own_T0, own_A0, own_i0, own_i1, own_i2, own_i3, own_i4, own_i5, own_i6, own_i7, own_i8, eq_comm]
  · rw [own_i8]; exact ⟨fun h => absurd h (own_nol rfl (by decide) (by decide)), fun h => absurd h.1 (by decide)⟩
theorem own_h0_1 (ff cc pp nn : Int32) (hp : pp = (0 : Int32) ∨ pp = (1 : Int32) ∨ pp = (2 : Int32) ∨ pp = (3 : Int32) ∨ pp = (4 : Int32) ∨ pp = (5 : Int32) ∨ pp = (6 : Int32) ∨ pp = (7 : Int32)) (hn : nn = (0 : Int32) ∨ nn = (1 : Int32) ∨ nn = (2 : Int32) ∨ nn = (3 : Int32) ∨ nn = (4 : Int32) ∨ nn = (5 : Int32) ∨ nn = (6 : Int32) ∨ nn = (7 : Int32) ∨ nn = (8 : Int32)) : ¬ own_T1 = ((own_A0 ff).set pp.toNatClampNeg cc).take nn.toNatClampNeg := by
  rcases hn with rfl | rfl | rfl | rfl | rfl | rfl | rfl | rfl | rfl
  · rw [own_i0]; exact own_nol rfl (by decide) (by decide)
  · rw [own_i1]; exact own_nol rfl (by decide) (by decide)
  · rw [own_i2]; exact own_nol rfl (by decide) (by decide)
  · rw [own_i3]; exact own_nol rfl (by decide) (by decide)
  · rw [own_i4]; exact own_nol rfl (by decide) (by decide)
  · rw [own_i5]; exact own_nol rfl (by decide) (by decide)
  · rw [own_i6]; exact own_nol rfl (by decide) (by decide)
  · rcases hp with rfl | rfl | rfl | rfl | rfl | rfl | rfl | rfl <;> simp [own_T1, own_A0, own_i0, own_i1, own_i2, own_i3, own_i4, own_i5, own_i6, own_i7, own_i8, eq_comm]
  · rw [own_i8]; exact own_nol rfl (by decide) (by decide)
theorem own_h0_2 (ff cc pp nn : Int32) (hp : pp = (0 : Int32) ∨ pp = (1 : Int32) ∨ pp = (2 : Int32) ∨ pp = (3 : Int32) ∨ pp = (4 : Int32) ∨ pp = (5 : Int32) ∨ pp = (6 : Int32) ∨ pp = (7 : Int32)) (hn : nn = (0 : Int32) ∨ nn = (1 : Int32) ∨ nn = (2 : Int32) ∨ nn = (3 : Int32) ∨ nn = (4 : Int32) ∨ nn = (5 : Int32) ∨ nn = (6 : Int32) ∨ nn = (7 : Int32) ∨ nn = (8 : Int32)) : ¬ own_T2 = ((own_A0 ff).set pp.toNatClampNeg cc).take nn.toNatClampNeg := by
  rcases hn with rfl | rfl | rfl | rfl | rfl | rfl | rfl | rfl | rfl
  · rw [own_i0]; exact own_nol rfl (by decide) (by decide)
  · rw [own_i1]; exact own_nol rfl (by decide) (by decide)
  · rw [own_i2]; exact own_nol rfl (by decide) (by decide)
  · rw [own_i3]; exact own_nol rfl (by decide) (by decide)
  · rcases hp with rfl | rfl | rfl | rfl | rfl | rfl | rfl | rfl <;> simp [own_T2, own_A0, own_i0, own_i1, own_i2, own_i3, own_i4, own_i5, own_i6, own_i7, own_i8, eq_comm]
  · rw [own_i5]; exact own_nol rfl (by decide) (by decide)
  · rw [own_i6]; exact own_nol rfl (by decide) (by decide)
  · rw [own_i7]; exact own_nol rfl (by decide) (by decide)
  · rw [own_i8]; exact own_nol rfl (by decide) (by decide)
theorem own_h1_0 (ff cc pp nn : Int32) (hp : pp = (0 : Int32) ∨ pp = (1 : Int32) ∨ pp = (2 : Int32) ∨ pp = (3 : Int32) ∨ pp = (4 : Int32) ∨ pp = (5 : Int32) ∨ pp = (6 : Int32) ∨ pp = (7 : Int32)) (hn : nn = (0 : Int32) ∨ nn = (1 : Int32) ∨ nn = (2 : Int32) ∨ nn = (3 : Int32) ∨ nn = (4 : Int32) ∨ nn = (5 : Int32) ∨ nn = (6 : Int32) ∨ nn = (7 : Int32) ∨ nn = (8 : Int32)) : ¬ own_T0 = ((own_A1 ff).set pp.toNatClampNeg cc).take nn.toNatClampNeg := by
  rcases hn with rfl | rfl | rfl | rfl | rfl | rfl | rfl | rfl | rfl
  · rw [own_i0]; exact own_nol rfl (by decide) (by decide)
  · rw [own_i1]; exact own_nol rfl (by decide) (by decide)
  · rw [own_i2]; exact own_nol rfl (by decide) (by decide)
  · rw [own_i3]; exact own_nol rfl (by decide) (by decide)
  · rw [own_i4]; exact own_nol rfl (by decide) (by decide)
  · rw [own_i5]; exact own_nol rfl (by decide) (by decide)
  · rw [own_i6]; exact own_nol rfl (by decide) (by decide)
  · rcases hp with rfl | rfl | rfl | rfl | rfl | rfl | rfl | rfl <;> simp [own_T0, own_A1, own_i0, own_i1, own_i2, own_i3, own_i4, own_i5, own_i6, own_i7, own_i8, eq_comm]
  · rw [own_i8]; exact own_nol rfl (by decide) (by decide)
theorem own_h1_1 (ff cc pp nn : Int32) (hp : pp = (0 : Int32) ∨ pp = (1 : Int32) ∨ pp = (2 : Int32) ∨ pp = (3 : Int32) ∨ pp = (4 : Int32) ∨ pp = (5 : Int32) ∨ pp = (6 : Int32) ∨ pp = (7 : Int32)) (hn : nn = (0 : Int32) ∨ nn = (1 : Int32) ∨ nn = (2 : Int32) ∨ nn = (3 : Int32) ∨ nn = (4 : Int32) ∨ nn = (5 : Int32) ∨ nn = (6 : Int32) ∨ nn = (7 : Int32) ∨ nn = (8 : Int32)) : (own_T1 = ((own_A1 ff).set pp.toNatClampNeg cc).take nn.toNatClampNeg) ↔ (nn = (7 : Int32) ∧ (¬ pp < nn ∨ cc = (own_A1 ff).getD pp.toNatClampNeg 0)) := by
  rcases hn with rfl | rfl | rfl | rfl | rfl | rfl | rfl | rfl | rfl
  · rw [own_i0]; exact ⟨fun h => absurd h (own_nol rfl (by decide) (by decide)), fun h => absurd h.1 (by decide)⟩
  · rw [own_i1]; exact ⟨fun h => absurd h (own_nol rfl (by decide) (by decide)), fun h => absurd h.1 (by decide)⟩
  · rw [own_i2]; exact ⟨fun h => absurd h (own_nol rfl (by decide) (by decide)), fun h => absurd h.1 (by decide)⟩
  · rw [own_i3]; exact ⟨fun h => absurd h (own_nol rfl (by decide) (by decide)), fun h => absurd h.1 (by decide)⟩
  · rw [own_i4]; exact ⟨fun h => absurd h (own_nol rfl (by decide) (by decide)), fun h => absurd h.1 (by decide)⟩
  · rw [own_i5]; exact ⟨fun h => absurd h (own_nol rfl (by decide) (by decide)), fun h => absurd h.1 (by decide)⟩
  · rw [own_i6]; exact ⟨fun h => absurd h (own_nol rfl (by decide) (by decide)), fun h => absurd h.1 (by decide)⟩
  · rcases hp with rfl | rfl | rfl | rfl | rfl | rfl | rfl | rfl <;> simp [own_T1, own_A1, own_i0, own_i1, own_i2, own_i3, own_i4, own_i5, own_i6, own_i7, own_i8, eq_comm]
  · rw [own_i8]; exact ⟨fun h => absurd h (own_nol rfl (by decide) (by decide)), fun h => absurd h.1 (by decide)⟩
theorem own_h1_2 (ff cc pp nn : Int32) (hp : pp = (0 : Int32) ∨ pp = (1 : Int32) ∨ pp = (2 : Int32) ∨ pp = (3 : Int32) ∨ pp = (4 : Int32) ∨ pp = (5 : Int32) ∨ pp = (6 : Int32) ∨ pp = (7 : Int32)) (hn : nn = (0 : Int32) ∨ nn = (1 : Int32) ∨ nn = (2 : Int32) ∨ nn = (3 : Int32) ∨ nn = (4 : Int32) ∨ nn = (5 : Int32) ∨ nn = (6 : Int32) ∨ nn = (7 : Int32) ∨ nn = (8 : Int32)) : ¬ own_T2 = ((own_A1 ff).set pp.toNatClampNeg cc).take nn.toNatClampNeg := by
  rcases hn with rfl | rfl | rfl | rfl | rfl | rfl | rfl | rfl | rfl
  · rw [own_i0]; exact own_nol rfl (by decide) (by decide)
  · rw [own_i1]; exact own_nol rfl (by decide) (by decide)
  · rw [own_i2]; exact own_nol rfl (by decide) (by decide)
  · rw [own_i3]; exact own_nol rfl (by decide) (by decide)
  · rcases hp with rfl | rfl | rfl | rfl | rfl | rfl | rfl | rfl <;> simp [own_T2, own_A1, own_i0, own_i1, own_i2, own_i3, own_i4, own_i5, own_i6, own_i7, own_i8, eq_comm]
  · rw [own_i5]; exact own_nol rfl (by decide) (by decide)
  · rw [own_i6]; exact own_nol rfl (by decide) (by decide)
  · rw [own_i7]; exact own_nol rfl (by decide) (by decide)
  · rw [own_i8]; exact own_nol rfl (by decide) (by decide)
theorem own_h2_0 (ff cc pp nn : Int32) (hp : pp = (0 : Int32) ∨ pp = (1 : Int32) ∨ pp = (2 : Int32) ∨ pp = (3 : Int32) ∨ pp = (4 : Int32) ∨ pp = (5 : Int32) ∨ pp = (6 : Int32) ∨ pp = (7 : Int32)) (hn : nn = (0 : Int32) ∨ nn = (1 : Int32) ∨ nn = (2 : Int32) ∨ nn = (3 : Int32) ∨ nn = (4 : Int32) ∨ nn = (5 : Int32) ∨ nn = (6 : Int32) ∨ nn = (7 : Int32) ∨ nn = (8 : Int32)) : ¬ own_T0 = ((own_A2 ff).set pp.toNatClampNeg cc).take nn.toNatClampNeg := by
  rcases hn with rfl | rfl | rfl | rfl | rfl | rfl | rfl | rfl | rfl
  · rw [own_i0]; exact own_nol rfl (by decide) (by decide)
  · rw [own_i1]; exact own_nol rfl (by decide) (by decide)
  · rw [own_i2]; exact own_nol rfl (by decide) (by decide)
  · rw [own_i3]; exact own_nol rfl (by decide) (by decide)
  · rw [own_i4]; exact own_nol rfl (by decide) (by decide)
  · rw [own_i5]; exact own_nol rfl (by decide) (by decide)
  · rw [own_i6]; exact own_nol rfl (by decide) (by decide)
  · rcases hp with rfl | rfl | rfl | rfl | rfl | rfl | rfl | rfl <;> simp [own_T0, own_A2, own_i0, own_i1, own_i2, own_i3, own_i4, own_i5, own_i6, own_i7, own_i8, eq_comm]
  · rw [own_i8]; exact own_nol rfl (by decide) (by decide)
theorem own_h2_1 (ff cc pp nn : Int32) (hp : pp = (0 : Int32) ∨ pp = (1 : Int32) ∨ pp = (2 : Int32) ∨ pp = (3 : Int32) ∨ pp = (4 : Int32) ∨ pp = (5 : Int32) ∨ pp = (6 : Int32) ∨ pp = (7 : Int32)) (hn : nn = (0 : Int32) ∨ nn = (1 : Int32) ∨ nn = (2 : Int32) ∨ nn = (3 : Int32) ∨ nn = (4 : Int32) ∨ nn = (5 : Int32) ∨ nn = (6 : Int32) ∨ nn = (7 : Int32) ∨ nn = (8 : Int32)) : ¬ own_T1 = ((own_A2 ff).set pp.toNatClampNeg cc).take nn.toNatClampNeg := by
  rcases hn with rfl | rfl | rfl | rfl | rfl | rfl | rfl | rfl | rfl
  · rw [own_i0]; exact own_nol rfl (by decide) (by decide)
  · rw [own_i1]; exact own_nol rfl (by decide) (by decide)
  · rw [own_i2]; exact own_nol rfl (by decide) (by decide)
  · rw [own_i3]; exact own_nol rfl (by decide) (by decide)
  · rw [own_i4]; exact own_nol rfl (by decide) (by decide)
  · rw [own_i5]; exact own_nol rfl (by decide) (by decide)
  · rw [own_i6]; exact own_nol rfl (by decide) (by decide)
  · rcases hp with rfl | rfl | rfl | rfl | rfl | rfl | rfl | rfl <;> simp [own_T1, own_A2, own_i0, own_i1, own_i2, own_i3, own_i4, own_i5, own_i6, own_i7, own_i8, eq_comm]
  · rw [own_i8]; exact own_nol rfl (by decide) (by decide)
theorem own_h2_2 (ff cc pp nn : Int32) (hp : pp = (0 : Int32) ∨ pp = (1 : Int32) ∨ pp = (2 : Int32) ∨ pp = (3 : Int32) ∨ pp = (4 : Int32) ∨ pp = (5 : Int32) ∨ pp = (6 : Int32) ∨ pp = (7 : Int32)) (hn : nn = (0 : Int32) ∨ nn = (1 : Int32) ∨ nn = (2 : Int32) ∨ nn = (3 : Int32) ∨ nn = (4 : Int32) ∨ nn = (5 : Int32) ∨ nn = (6 : Int32) ∨ nn = (7 : Int32) ∨ nn = (8 : Int32)) : (own_T2 = ((own_A2 ff).set pp.toNatClampNeg cc).take nn.toNatClampNeg) ↔ (nn = (4 : Int32) ∧ (¬ pp < nn ∨ cc = (own_A2 ff).getD pp.toNatClampNeg 0)) := by
  rcases hn with rfl | rfl | rfl | rfl | rfl | rfl | rfl | rfl | rfl
  · rw [own_i0]; exact ⟨fun h => absurd h (own_nol rfl (by decide) (by decide)), fun h => absurd h.1 (by decide)⟩
  · rw [own_i1]; exact ⟨fun h => absurd h (own_nol rfl (by decide) (by decide)), fun h => absurd h.1 (by decide)⟩
  · rw [own_i2]; exact ⟨fun h => absurd h (own_nol rfl (by decide) (by decide)), fun h => absurd h.1 (by decide)⟩
  · rw [own_i3]; exact ⟨fun h => absurd h (own_nol rfl (by decide) (by decide)), fun h => absurd h.1 (by decide)⟩
  · rcases hp with rfl | rfl | rfl | rfl | rfl | rfl | rfl | rfl <;> simp [own_T2, own_A2, own_i0, own_i1, own_i2, own_i3, own_i4, own_i5, own_i6, own_i7, own_i8, eq_comm]
  · rw [own_i5]; exact ⟨fun h => absurd h (own_nol rfl (by decide) (by decide)), fun h => absurd h.1 (by decide)⟩
  · rw [own_i6]; exact ⟨fun h => absurd h (own_nol rfl (by decide) (by decide)), fun h => absurd h.1 (by decide)⟩
  · rw [own_i7]; exact ⟨fun h => absurd h (own_nol rfl (by decide) (by decide)), fun h => absurd h.1 (by decide)⟩
  · rw [own_i8]; exact ⟨fun h => absurd h (own_nol rfl (by decide) (by decide)), fun h => absurd h.1 (by decide)⟩
theorem own_tk0 {xs : List Int32} (h : xs.length = 8) : [] = xs.take 0 := by
  match xs, h with
  | [_, _, _, _, _, _, _, _], _ => rfl
theorem own_tk1 {xs : List Int32} (h : xs.length = 8) : [(xs.getD 0 0)] = xs.take 1 := by
  match xs, h with
  | [_, _, _, _, _, _, _, _], _ => rfl
theorem own_tk2 {xs : List Int32} (h : xs.length = 8) : [(xs.getD 0 0), (xs.getD 1 0)] = xs.take 2 := by
  match xs, h with
  | [_, _, _, _, _, _, _, _], _ => rfl
theorem own_tk3 {xs : List Int32} (h : xs.length = 8) : [(xs.getD 0 0), (xs.getD 1 0), (xs.getD 2 0)] = xs.take 3 := by
  match xs, h with
  | [_, _, _, _, _, _, _, _], _ => rfl
theorem own_tk4 {xs : List Int32} (h : xs.length = 8) : [(xs.getD 0 0), (xs.getD 1 0), (xs.getD 2 0), (xs.getD 3 0)] = xs.take 4 := by
  match xs, h with
  | [_, _, _, _, _, _, _, _], _ => rfl
theorem own_tk5 {xs : List Int32} (h : xs.length = 8) : [(xs.getD 0 0), (xs.getD 1 0), (xs.getD 2 0), (xs.getD 3 0), (xs.getD 4 0)] = xs.take 5 := by
  match xs, h with
  | [_, _, _, _, _, _, _, _], _ => rfl
theorem own_tk6 {xs : List Int32} (h : xs.length = 8) : [(xs.getD 0 0), (xs.getD 1 0), (xs.getD 2 0), (xs.getD 3 0), (xs.getD 4 0), (xs.getD 5 0)] = xs.take 6 := by
  match xs, h with
  | [_, _, _, _, _, _, _, _], _ => rfl
theorem own_tk7 {xs : List Int32} (h : xs.length = 8) : [(xs.getD 0 0), (xs.getD 1 0), (xs.getD 2 0), (xs.getD 3 0), (xs.getD 4 0), (xs.getD 5 0), (xs.getD 6 0)] = xs.take 7 := by
  match xs, h with
  | [_, _, _, _, _, _, _, _], _ => rfl
theorem own_tk8 {xs : List Int32} (h : xs.length = 8) : [(xs.getD 0 0), (xs.getD 1 0), (xs.getD 2 0), (xs.getD 3 0), (xs.getD 4 0), (xs.getD 5 0), (xs.getD 6 0), (xs.getD 7 0)] = xs.take 8 := by
  match xs, h with
  | [_, _, _, _, _, _, _, _], _ => rfl
theorem own_ralOf {Z : State} {h : Heap} {a : Addr} {k : ClassId} {C : String} {z : Int32} {vs : List Value} (F : Arh Z h a k (.object C) z [] vs .null) (hz : z.toNatClampNeg = vs.length) : Ral Z h a k C vs := by
  obtain ⟨c, A, q, S, -, H, -⟩ := F
  exact ⟨c, A, q, S.trans hz, fun i hi => H i (by rw [S, hz]; exact hi)⟩
theorem own_lenR {p : Program} {l : Launch} {e : Env} {R : Room} {s : State} {m : MethodId} {args : Array Value} {below : List Frame} {meth : Method} {c : Code} {T : State} {locs : List Loc} {cells slots : Nat} {Z : State} {h : Heap} {a : Addr} {k : ClassId} {C : String} {vs : List Value} (X : Stand p l e R s m args below meth c T locs cells slots) (hx : p.tables.exec = Jvm.exec) (hZ : Z.Warmed39 s.vm) (eT : T.heap = h) (F : Ral Z h a k C vs) {v : Int32} (hv : vs.length.toInt32 = v) {g : JFrame} (hg : g.method = m) {rest : List Value} (hs : g.stack = .ref a :: rest) (hd : decode c.code g.pc = .ok (.arraylength, 1)) {target : State}
    (kk : Steps p.tables e below (T.setTop { g with pc := g.pc + 1, stack := .int v :: rest }) target) : Steps p.tables e below (T.setTop g) target := by
  obtain ⟨cl, A, q, S, H⟩ := F
  subst hv
  refine X.arraylength hx (by rw [eT]; exact A.1) (State.isArrayOf_alike hZ.alike A.2.1) hg hs hd _ ?_
  rw [S]; exact kk
theorem own_evR {args : Array Value} {s : State} {t u : Term} {b : Addr} (eu : u.eval args s none [] s = some (.ref b)) (h : (Cond.eq t u).value args s none s [] = some true) : t.eval args s none [] s = some (.ref b) := by
  cases hf : t.eval args s none [] s with
  | none => simp [Cond.value, hf] at h
  | some x =>
    cases x <;> simp [Cond.value, hf, eu] at h
    rw [h]
theorem own_evI {args : Array Value} {s : State} {t : Term} {z : Int32} (h : (Cond.eq t (Term.int z)).value args s none s [] = some true) : t.eval args s none [] s = some (.int z) := own_statI h
theorem own_fldR {args : Array Value} {s : State} {t : Term} {a b : Addr} {C n d : String} (ev : t.eval args s none [] s = some (.ref a)) (h : (Term.field t C n d).eval args s none [] s = some (.ref b)) : Fld s s.heap a C n d (.ref b) := by
  refine Fld.start ?_
  rw [← fld_at (args := args) (first := s) (o := none) (idx := []) ev]
  exact h
theorem own_sz {args : Array Value} {s : State} {t : Term} {a : Addr} {cl : Cell} {ty : FieldType} {z : Int32} (hz : ¬ z < 0) (ev : t.eval args s none [] s = some (.ref a)) (A : Arr s s.heap a cl ty) (h : (Cond.eq (Term.length t) (Term.int z)).value args s none s [] = some true) : cl.slots.size < 2 ^ 31 ∧ cl.slots.size.toInt32 = z := by
  have ha : s.arrayAt? a = some cl := A.fin (Vm.Alike.refl _)
  by_cases hl : cl.slots.size < 2 ^ 31
  · have hv := len_f (args := args) (first := s) (o := none) (idx := []) ev ha hl
    have hz' : (Term.int z).eval args s none [] s = some (.int z) := rfl
    simp only [Cond.value, hv, hz'] at h
    exact ⟨hl, by simpa using h⟩
  · exfalso
    cases hf : (Term.length t).eval args s none [] s with
    | none => simp [Cond.value, hf] at h
    | some x => simp [Term.eval, ev, ha, hl] at hf
theorem own_el {args : Array Value} {s : State} {t : Term} {a : Addr} {cl : Cell} {ty : FieldType} {j : Int32} {i : Nat} {v : Value} (hj : j.toNatClampNeg = i) (hn : ¬ j < 0) (ev : t.eval args s none [] s = some (.ref a)) (A : Arr s s.heap a cl ty) (h : (Term.elem t (Term.int j)).eval args s none [] s = some v) : cl.slots[i]? = some v := by
  subst hj
  rw [← elem_f (args := args) (first := s) (o := none) (idx := []) ev (a := Term.int j) rfl (A.fin (Vm.Alike.refl _)) hn]; exact h
section YSteps
variable {p : Program} {l : Launch} {e : Env} {R : Room} {s : State} {m : MethodId} {args : Array Value} {below : List Frame} {meth : Method} {c : Code} {T : State} {locs : List Loc} {cells slots : Nat} {P : Outcome → State → Prop} {pc : Nat} {Ls : Array Slot} {S : List Value}
theorem Y.aconstNull (X : Stand p l e R s m args below meth c T locs cells slots) (hx : p.tables.exec = Jvm.exec) (hd : decode c.code pc = .ok (.aconst_null, 1)) (gl : Gl p.tables e below P (T.setTop (mkF m (pc + 1) (Ls) (.null :: S)))) : Gl p.tables e below P (T.setTop (mkF m pc Ls S)) := Gl.pre (fun _ k => XS.aconstNull X.here hx rfl hd k) gl
theorem Y.aload (X : Stand p l e R s m args below meth c T locs cells slots) (hx : p.tables.exec = Jvm.exec) {k : Nat} {v : Value} (hd : decode c.code pc = .ok (.aload k, 2)) (hl : Ls[k]? = some (.val v)) (hv : v.isRef = true) (gl : Gl p.tables e below P (T.setTop (mkF m (pc + 2) (Ls) (v :: S)))) : Gl p.tables e below P (T.setTop (mkF m pc Ls S)) := Gl.pre (fun _ k => XS.aload X.here hx rfl hd hl hv k) gl
theorem Y.aloadN (X : Stand p l e R s m args below meth c T locs cells slots) (hx : p.tables.exec = Jvm.exec) {k : Fin 4} {v : Value} (hd : decode c.code pc = .ok (.aload_n k, 1)) (hl : Ls[k.val]? = some (.val v)) (hv : v.isRef = true) (gl : Gl p.tables e below P (T.setTop (mkF m (pc + 1) (Ls) (v :: S)))) : Gl p.tables e below P (T.setTop (mkF m pc Ls S)) := Gl.pre (fun _ k => XS.aloadN X.here hx rfl hd hl hv k) gl
theorem Y.astore (X : Stand p l e R s m args below meth c T locs cells slots) (hx : p.tables.exec = Jvm.exec) {k : Nat} {x : Value} {rest : List Value} {l' : Array Slot} (hd : decode c.code pc = .ok (.astore k, 2)) (hs : S = x :: rest) (hv : x.isRef = true) (hl : storeLocals Ls k x = some l') (gl : Gl p.tables e below P (T.setTop (mkF m (pc + 2) (l') (rest)))) : Gl p.tables e below P (T.setTop (mkF m pc Ls S)) := Gl.pre (fun _ k => XS.astore X.here hx rfl hd hs hv hl k) gl
theorem Y.astoreN (X : Stand p l e R s m args below meth c T locs cells slots) (hx : p.tables.exec = Jvm.exec) {k : Fin 4} {x : Value} {rest : List Value} {l' : Array Slot} (hd : decode c.code pc = .ok (.astore_n k, 1)) (hs : S = x :: rest) (hv : x.isRef = true) (hl : storeLocals Ls k.val x = some l') (gl : Gl p.tables e below P (T.setTop (mkF m (pc + 1) (l') (rest)))) : Gl p.tables e below P (T.setTop (mkF m pc Ls S)) := Gl.pre (fun _ k => XS.astoreN X.here hx rfl hd hs hv hl k) gl
theorem Y.bipush (X : Stand p l e R s m args below meth c T locs cells slots) (hx : p.tables.exec = Jvm.exec) {i : Int} (hd : decode c.code pc = .ok (.bipush i, 2)) (gl : Gl p.tables e below P (T.setTop (mkF m (pc + 2) (Ls) (.int (Int8.ofInt i).toInt32 :: S)))) : Gl p.tables e below P (T.setTop (mkF m pc Ls S)) := Gl.pre (fun _ k => XS.bipush X.here hx rfl hd k) gl
theorem Y.dup (X : Stand p l e R s m args below meth c T locs cells slots) (hx : p.tables.exec = Jvm.exec) {x : Value} {rest : List Value} (hd : decode c.code pc = .ok (.dup, 1)) (hs : S = x :: rest) (hc : x.category = 1) (gl : Gl p.tables e below P (T.setTop (mkF m (pc + 1) (Ls) (x :: x :: rest)))) : Gl p.tables e below P (T.setTop (mkF m pc Ls S)) := Gl.pre (fun _ k => XS.dup X.here hx rfl hd hs hc k) gl
theorem Y.goto (X : Stand p l e R s m args below meth c T locs cells slots) (hx : p.tables.exec = Jvm.exec) {o : Int} {pc0 pc' : Nat} (hpc : pc = pc0) (hd : decode c.code pc = .ok (.goto o, 3)) (ho : 0 ≤ (pc0 : Int) + o) (hp : ((pc0 : Int) + o).toNat = pc') (gl : Gl p.tables e below P (T.setTop (mkF m (pc') (Ls) (S)))) : Gl p.tables e below P (T.setTop (mkF m pc Ls S)) := Gl.pre (fun _ k => XS.goto X.here hx rfl hpc hd ho hp k) gl
theorem Y.i2c (X : Stand p l e R s m args below meth c T locs cells slots) (hx : p.tables.exec = Jvm.exec) {v : Int32} {rest : List Value} (hd : decode c.code pc = .ok (.i2c, 1)) (hs : S = .int v :: rest) (gl : Gl p.tables e below P (T.setTop (mkF m (pc + 1) (Ls) (.int (v.toUInt32.toUInt16.toUInt32.toInt32) :: rest)))) : Gl p.tables e below P (T.setTop (mkF m pc Ls S)) := Gl.pre (fun _ k => XS.i2c X.here hx rfl hd hs k) gl
theorem Y.iand (X : Stand p l e R s m args below meth c T locs cells slots) (hx : p.tables.exec = Jvm.exec) {x y : Int32} {rest : List Value} (hd : decode c.code pc = .ok (.iand, 1)) (hs : S = .int y :: .int x :: rest) (gl : Gl p.tables e below P (T.setTop (mkF m (pc + 1) (Ls) (.int (x &&& y) :: rest)))) : Gl p.tables e below P (T.setTop (mkF m pc Ls S)) := Gl.pre (fun _ k => XS.iand X.here hx rfl hd hs k) gl
theorem Y.icmpNo (X : Stand p l e R s m args below meth c T locs cells slots) (hx : p.tables.exec = Jvm.exec) {cd : ClassFile.Cond} {o : Int} {x y : Int32} {rest : List Value} (hd : decode c.code pc = .ok (.if_icmp cd o, 3)) (hs : S = .int y :: .int x :: rest) (hc : if_icmp.holds cd x y = false) (gl : Gl p.tables e below P (T.setTop (mkF m (pc + 3) (Ls) (rest)))) : Gl p.tables e below P (T.setTop (mkF m pc Ls S)) := Gl.pre (fun _ k => XS.icmpNo X.here hx rfl hd hs hc k) gl
theorem Y.icmpYes (X : Stand p l e R s m args below meth c T locs cells slots) (hx : p.tables.exec = Jvm.exec) {cd : ClassFile.Cond} {x y : Int32} {rest : List Value} {o : Int} {pc0 pc' : Nat} (hpc : pc = pc0) (hd : decode c.code pc = .ok (.if_icmp cd o, 3)) (hs : S = .int y :: .int x :: rest) (hc : if_icmp.holds cd x y = true) (ho : 0 ≤ (pc0 : Int) + o) (hp : ((pc0 : Int) + o).toNat = pc') (gl : Gl p.tables e below P (T.setTop (mkF m (pc') (Ls) (rest)))) : Gl p.tables e below P (T.setTop (mkF m pc Ls S)) := Gl.pre (fun _ k => XS.icmpYes X.here hx rfl hpc hd hs hc ho hp k) gl
theorem Y.iconst (X : Stand p l e R s m args below meth c T locs cells slots) (hx : p.tables.exec = Jvm.exec) {i : Int} (hd : decode c.code pc = .ok (.iconst i, 1)) (gl : Gl p.tables e below P (T.setTop (mkF m (pc + 1) (Ls) (.int (Int32.ofInt i) :: S)))) : Gl p.tables e below P (T.setTop (mkF m pc Ls S)) := Gl.pre (fun _ k => XS.iconst X.here hx rfl hd k) gl
theorem Y.ifNo (X : Stand p l e R s m args below meth c T locs cells slots) (hx : p.tables.exec = Jvm.exec) {cd : ClassFile.Cond} {o : Int} {x : Int32} {rest : List Value} (hd : decode c.code pc = .ok (.ifCond cd o, 3)) (hs : S = .int x :: rest) (hc : ifCond.holds cd x = false) (gl : Gl p.tables e below P (T.setTop (mkF m (pc + 3) (Ls) (rest)))) : Gl p.tables e below P (T.setTop (mkF m pc Ls S)) := Gl.pre (fun _ k => XS.ifNo X.here hx rfl hd hs hc k) gl
theorem Y.ifYes (X : Stand p l e R s m args below meth c T locs cells slots) (hx : p.tables.exec = Jvm.exec) {cd : ClassFile.Cond} {x : Int32} {rest : List Value} {o : Int} {pc0 pc' : Nat} (hpc : pc = pc0) (hd : decode c.code pc = .ok (.ifCond cd o, 3)) (hs : S = .int x :: rest) (hc : ifCond.holds cd x = true) (ho : 0 ≤ (pc0 : Int) + o) (hp : ((pc0 : Int) + o).toNat = pc') (gl : Gl p.tables e below P (T.setTop (mkF m (pc') (Ls) (rest)))) : Gl p.tables e below P (T.setTop (mkF m pc Ls S)) := Gl.pre (fun _ k => XS.ifYes X.here hx rfl hpc hd hs hc ho hp k) gl
theorem Y.ifnonnullNo (X : Stand p l e R s m args below meth c T locs cells slots) (hx : p.tables.exec = Jvm.exec) {o : Int} {rest : List Value} (hd : decode c.code pc = .ok (.ifnonnull o, 3)) (hs : S = .null :: rest) (gl : Gl p.tables e below P (T.setTop (mkF m (pc + 3) (Ls) (rest)))) : Gl p.tables e below P (T.setTop (mkF m pc Ls S)) := Gl.pre (fun _ k => XS.ifnonnullNo X.here hx rfl hd hs k) gl
theorem Y.ifnonnullYes (X : Stand p l e R s m args below meth c T locs cells slots) (hx : p.tables.exec = Jvm.exec) {b : Addr} {rest : List Value} {o : Int} {pc0 pc' : Nat} (hpc : pc = pc0) (hd : decode c.code pc = .ok (.ifnonnull o, 3)) (hs : S = .ref b :: rest) (ho : 0 ≤ (pc0 : Int) + o) (hp : ((pc0 : Int) + o).toNat = pc') (gl : Gl p.tables e below P (T.setTop (mkF m (pc') (Ls) (rest)))) : Gl p.tables e below P (T.setTop (mkF m pc Ls S)) := Gl.pre (fun _ k => XS.ifnonnullYes X.here hx rfl hpc hd hs ho hp k) gl
theorem Y.ifnullNo (X : Stand p l e R s m args below meth c T locs cells slots) (hx : p.tables.exec = Jvm.exec) {o : Int} {b : Addr} {rest : List Value} (hd : decode c.code pc = .ok (.ifnull o, 3)) (hs : S = .ref b :: rest) (gl : Gl p.tables e below P (T.setTop (mkF m (pc + 3) (Ls) (rest)))) : Gl p.tables e below P (T.setTop (mkF m pc Ls S)) := Gl.pre (fun _ k => XS.ifnullNo X.here hx rfl hd hs k) gl
theorem Y.ifnullYes (X : Stand p l e R s m args below meth c T locs cells slots) (hx : p.tables.exec = Jvm.exec) {rest : List Value} {o : Int} {pc0 pc' : Nat} (hpc : pc = pc0) (hd : decode c.code pc = .ok (.ifnull o, 3)) (hs : S = .null :: rest) (ho : 0 ≤ (pc0 : Int) + o) (hp : ((pc0 : Int) + o).toNat = pc') (gl : Gl p.tables e below P (T.setTop (mkF m (pc') (Ls) (rest)))) : Gl p.tables e below P (T.setTop (mkF m pc Ls S)) := Gl.pre (fun _ k => XS.ifnullYes X.here hx rfl hpc hd hs ho hp k) gl
theorem Y.iinc (X : Stand p l e R s m args below meth c T locs cells slots) (hx : p.tables.exec = Jvm.exec) {k : Nat} {cst : Int} {x : Int32} {l' : Array Slot} (hd : decode c.code pc = .ok (.iinc k cst, 3)) (hl : Ls[k]? = some (.val (.int x))) (hl' : storeLocals Ls k (.int (x + Int32.ofInt cst)) = some l') (gl : Gl p.tables e below P (T.setTop (mkF m (pc + 3) (l') (S)))) : Gl p.tables e below P (T.setTop (mkF m pc Ls S)) := Gl.pre (fun _ k => XS.iinc X.here hx rfl hd hl hl' k) gl
theorem Y.iload (X : Stand p l e R s m args below meth c T locs cells slots) (hx : p.tables.exec = Jvm.exec) {k : Nat} {v : Int32} (hd : decode c.code pc = .ok (.iload k, 2)) (hl : Ls[k]? = some (.val (.int v))) (gl : Gl p.tables e below P (T.setTop (mkF m (pc + 2) (Ls) (.int v :: S)))) : Gl p.tables e below P (T.setTop (mkF m pc Ls S)) := Gl.pre (fun _ k => XS.iload X.here hx rfl hd hl k) gl
theorem Y.iloadN (X : Stand p l e R s m args below meth c T locs cells slots) (hx : p.tables.exec = Jvm.exec) {k : Fin 4} {v : Int32} (hd : decode c.code pc = .ok (.iload_n k, 1)) (hl : Ls[k.val]? = some (.val (.int v))) (gl : Gl p.tables e below P (T.setTop (mkF m (pc + 1) (Ls) (.int v :: S)))) : Gl p.tables e below P (T.setTop (mkF m pc Ls S)) := Gl.pre (fun _ k => XS.iloadN X.here hx rfl hd hl k) gl
theorem Y.istore (X : Stand p l e R s m args below meth c T locs cells slots) (hx : p.tables.exec = Jvm.exec) {k : Nat} {x : Int32} {rest : List Value} {l' : Array Slot} (hd : decode c.code pc = .ok (.istore k, 2)) (hs : S = .int x :: rest) (hl : storeLocals Ls k (.int x) = some l') (gl : Gl p.tables e below P (T.setTop (mkF m (pc + 2) (l') (rest)))) : Gl p.tables e below P (T.setTop (mkF m pc Ls S)) := Gl.pre (fun _ k => XS.istore X.here hx rfl hd hs hl k) gl
theorem Y.istoreN (X : Stand p l e R s m args below meth c T locs cells slots) (hx : p.tables.exec = Jvm.exec) {k : Fin 4} {x : Int32} {rest : List Value} {l' : Array Slot} (hd : decode c.code pc = .ok (.istore_n k, 1)) (hs : S = .int x :: rest) (hl : storeLocals Ls k.val (.int x) = some l') (gl : Gl p.tables e below P (T.setTop (mkF m (pc + 1) (l') (rest)))) : Gl p.tables e below P (T.setTop (mkF m pc Ls S)) := Gl.pre (fun _ k => XS.istoreN X.here hx rfl hd hs hl k) gl
theorem Y.sipush (X : Stand p l e R s m args below meth c T locs cells slots) (hx : p.tables.exec = Jvm.exec) {i : Int} (hd : decode c.code pc = .ok (.sipush i, 3)) (gl : Gl p.tables e below P (T.setTop (mkF m (pc + 3) (Ls) (.int (Int16.ofInt i).toInt32 :: S)))) : Gl p.tables e below P (T.setTop (mkF m pc Ls S)) := Gl.pre (fun _ k => XS.sipush X.here hx rfl hd k) gl
end YSteps
theorem pd_0 : parseMethodDescriptor "()I" = some ⟨[], some .int⟩ := by decide +kernel
theorem pd_1 : parseMethodDescriptor "(I)C" = some ⟨[.int], some .char⟩ := by decide +kernel
theorem pd_2 : parseMethodDescriptor "([CIILjava/lang/Void;)V" = some ⟨[(.array .char), .int, .int, (.object "java/lang/Void")], none⟩ := by decide +kernel
theorem pd_3 : parseMethodDescriptor "([C)V" = some ⟨[(.array .char)], none⟩ := by decide +kernel
theorem pd_4 : parseMethodDescriptor "(Ljava/lang/Object;)Ljava/lang/Object;" = some ⟨[(.object "java/lang/Object")], some (.object "java/lang/Object")⟩ := by decide +kernel
theorem pd_5 : parseMethodDescriptor "(Ljava/lang/Object;)V" = some ⟨[(.object "java/lang/Object")], none⟩ := by decide +kernel
theorem pd_6 : parseMethodDescriptor "()[Lcom/example/marcasite/marcasite/marc/Carrier;" = some ⟨[], some (.array (.object "com/example/marcasite/marcasite/marc/Carrier"))⟩ := by decide +kernel
theorem pd_7 : parseMethodDescriptor "(Ljava/lang/Object;)Z" = some ⟨[(.object "java/lang/Object")], some .boolean⟩ := by decide +kernel
theorem pd_8 : parseMethodDescriptor "(Ljava/lang/Object;)Ljava/util/Optional;" = some ⟨[(.object "java/lang/Object")], some (.object "java/util/Optional")⟩ := by decide +kernel
theorem pd_9 : parseMethodDescriptor "()Ljava/util/Optional;" = some ⟨[], some (.object "java/util/Optional")⟩ := by decide +kernel
theorem pd_10 : parseMethodDescriptor "(Ljava/lang/String;IC)C" = some ⟨[(.object "java/lang/String"), .int, .char], some .char⟩ := by decide +kernel
theorem pd_11 : parseMethodDescriptor "([CI)Ljava/lang/String;" = some ⟨[(.array .char), .int], some (.object "java/lang/String")⟩ := by decide +kernel
theorem pd_12 : parseMethodDescriptor "(Ljava/lang/String;)Ljava/util/Optional;" = some ⟨[(.object "java/lang/String")], some (.object "java/util/Optional")⟩ := by decide +kernel
theorem d3_0 : decode method_3_code 0 = .ok (.iload_n 1, 1) := by decide +kernel
theorem d3_1 : decode method_3_code 1 = .ok (.aload_n 0, 1) := by decide +kernel
theorem d3_2 : decode method_3_code 2 = .ok (.invokevirtual 26, 3) := by decide +kernel
theorem d3_5 : decode method_3_code 5 = .ok (.if_icmp .ge 11, 3) := by decide +kernel
theorem d3_8 : decode method_3_code 8 = .ok (.aload_n 0, 1) := by decide +kernel
theorem d3_9 : decode method_3_code 9 = .ok (.iload_n 1, 1) := by decide +kernel
theorem d3_10 : decode method_3_code 10 = .ok (.invokevirtual 52, 3) := by decide +kernel
theorem d3_13 : decode method_3_code 13 = .ok (.goto 4, 3) := by decide +kernel
theorem d3_16 : decode method_3_code 16 = .ok (.iload_n 2, 1) := by decide +kernel
theorem d3_17 : decode method_3_code 17 = .ok (.ireturn, 1) := by decide +kernel
theorem pn_3 : plainName "com/example/marcasite/marcasite/marc/CarrierNamedPinLaw" = true := by first | (simp [plainName, overriddenIn]; done) | decide +kernel
theorem ef_3 (m : MethodId) (a1 : Addr) (ij : Int32) (pf : Int32) (cs : Int32) (fo : Value) (tb : Addr) (kt : ClassId) (ts : List Int32) (N2 : Int32) (vs : List Value) : entryFrame m #[(.ref a1), (.int ij), (.int pf)] 3 = mkF m 0 #[.val (.ref a1), .val (.int ij), .val (.int pf)] [] := by first | (simp [entryFrame, mkF, argsToLocals, Value.category]; done) | rfl
def Q3 (Z : State) (a1 : Addr) (ij : Int32) (pf : Int32) (cs : Int32) (fo : Value) (tb : Addr) (kt : ClassId) (ts : List Int32) (N2 : Int32) (vs : List Value) (h0 : Heap) (n0 : Nat) (v : Option Value) (h : Heap) (L : List Loc) : Prop := v = some (.int (own_at ts ij pf)) ∧ Fr n0 L ∧ h = h0
set_option maxRecDepth 65536 in
set_option maxHeartbeats 40000000 in
theorem rm3 (l : Launch) (Z : State) (a0 : Array Value) (hw : ∀ d ∈ tables_1, d.before a0 Z = true) (ws : List Jvm.Cond) (a1 : Addr) (ij : Int32) (pf : Int32) (cs : Int32) (fo : Value) (tb : Addr) (kt : ClassId) (ts : List Int32) (N2 : Int32) (vs : List Value) (h0 : Heap) (n0 : Nat) (Z0 : n0 ≤ h0.size) (E_a1 : Exa Z h0 a1 "java/lang/String") (F_value_a1 : Fld Z h0 a1 "java/lang/String" "value" "[B" (.ref tb)) (F_coder_a1 : Fld Z h0 a1 "java/lang/String" "coder" "B" (.int (0 : Int32))) (K_tb : Arv Z h0 tb kt .byte N2 vs (.int 0)) (hco_ : StrChars.Road.CodA ts 0 N2 vs) (hbo : ∀ c ∈ ts, ¬ c < 0 ∧ ¬ (65535 : Int32) < c) (hts : ∀ c ∈ ts, ¬ c < 0 ∧ ¬ (255 : Int32) < c) (hl4 : ts.length ≤ 4000) (hij : ¬ ij < 0) (hpf : ¬ pf < 0 ∧ ¬ (255 : Int32) < pf) (SBC : Sta Z Z.heap "java/lang/String" "COMPACT_STRINGS" "Z" (.int cs)) (hcs : ¬ (cs = (0 : Int32))) (SFO : Sta Z Z.heap "jdk/internal/util/Preconditions" "SIOOBE_FORMATTER" "Ljava/util/function/BiFunction;" fo) (hfo : fo.isRef = true) (O_ : Old Z n0 h0) :
    MetFree l (⟨"com/example/marcasite/marcasite/marc/CarrierNamedPinLaw", "at", "(Ljava/lang/String;IC)C"⟩ : MethodName) (head1 (Jvm.Cond.code (⟨"com/example/marcasite/marcasite/marc/CarrierNamedPinLaw", "at", "(Ljava/lang/String;IC)C"⟩ : MethodName) method_3_code 3 (some .char) :: ws) ({ frames := 4, cells := 0, slots := 0, locals := 53 } : Room)) (fun a U => a = #[(.ref a1), (.int ij), (.int pf)] ∧ Z.Warmed39 U.vm ∧ U.heap = h0) (fun _ _ _ _ _ => True) (fun _ U o U' => ∃ v L, o = .returned v ∧ Q3 Z a1 ij pf cs fo tb kt ts N2 vs h0 n0 v U'.heap L ∧ FrameEnd U o U' L ({ frames := 4, cells := 0, slots := 0, locals := 53 } : Room).cells ({ frames := 4, cells := 0, slots := 0, locals := 53 } : Room).slots) := by
  have W := @own_wd Z a0 hw
  refine MetFree.of_bodySF (plainFor_of_name pn_3) hisR ?_
  intro p e s m args below meth c s₁ Bd hml0 hP hK
  obtain ⟨rfl, hZ, hh⟩ := hP
  have hx := Bd.exec
  have hby := Bd.bytes
  have hlk : meth.locks = false := BodyLoose.notSynchronized Bd
  have hml : c.maxLocals = 3 := hml0
  have hown : s.vm.findClass "com/example/marcasite/marcasite/marc/CarrierNamedPinLaw" = some m.cls := findClass_of_methodNamed Bd.named
  have hnm := (name_of_methodNamed Bd.named Bd.method).1
  have X0 : Stand p l e ({ frames := 4, cells := 0, slots := 0, locals := 53 } : Room) s m #[(.ref a1), (.int ij), (.int pf)] below meth c s₁ [] 0 0 := Stand.of_body Bd
  have e0 : s₁.heap = h0 := by rw [← hh, Bd.state]; rfl
  have N0 := Fr.nil n0
  show Gl p.tables e below _ _
  refine Gl.pre (fun t k => castTop (ef_3 m a1 ij pf cs fo tb kt ts N2 vs) k) ?_
  refine Gl.gen (fun PP hPP => ?_)
  have hwwordsLen : ∀ d ∈ StrChars.Road.wordsLen, d.before a0 Z = true := fun d hd => hw d ((by decide +kernel : ∀ d ∈ StrChars.Road.wordsLen, d ∈ tables_1) d hd)
  have hwwordsChN : ∀ d ∈ StrChars.Road.wordsChN, d.before a0 Z = true := fun d hd => hw d ((by decide +kernel : ∀ d ∈ StrChars.Road.wordsChN, d ∈ tables_1) d hd)
  show Gl p.tables e below PP (s₁.setTop (mkF m 0 #[.val (.ref a1), .val (.int ij), .val (.int pf)] []))
  refine Y.iloadN X0 hx (hb hby d3_0) rfl ?_
  refine Y.aloadN X0 hx (hb hby d3_1) rfl rfl ?_
  obtain ⟨cq1, kq1, qa1, qb1, qc1⟩ := isOf hZ e0 E_a1
  obtain ⟨_, _, ⟨T1, L1, k1, n1⟩, -, X1, ⟨Lc1, hQ1, l1, y1, z1⟩, st1⟩ := X0.virtualBack hx (y := (⟨"java/lang/String", "length", "()I"⟩ : MethodName)) (z := (⟨"java/lang/String", "length", "()I"⟩ : MethodName)) hown (mvT hZ (W 12 rfl)) (mvT hZ (W 13 rfl)) (notFace_of_selects (args := #[]) (mvT hZ (W 15 rfl))) (mvT hZ (W 15 rfl)) (mvT hZ (W 14 rfl)) (by decide) (StrChars.Road.lenW (W := 1) hZ hwwordsLen (kI := 4) (W 3 rfl) E_a1 F_value_a1 F_coder_a1 K_tb hco_ hbo (SBC.ext O_.2) hcs hl4 (by decide) (by decide)) qa1 qc1 (g := (mkF m 2 #[.val (.ref a1), .val (.int ij), .val (.int pf)] [(.ref a1), (.int ij)])) rfl (by rw [hml]; rfl) (Steps.refl _) (argsL := []) (rest := [(.int ij)]) (lenOf pd_0 rfl) rfl (by show 2 * 0 + _ ≤ _; exact Nat.le_of_eq rfl) (hb hby d3_2) (fun _ _ => ⟨rfl, e0, (by decide : 0 + 0 ≤ _), (by decide : 0 + 0 ≤ _)⟩)
  dsimp only [Pt.U, Pt.locs, Pt.cells, Pt.slots] at X1 l1 y1 z1 st1 hQ1
  subst l1 y1 z1
  obtain ⟨rfl, rfl, e1⟩ := hQ1
  have N1 := Fr.app N0 (Fr.nil n0)
  refine Gl.pre (fun _ k => st1.trans k) ?_
  show Gl p.tables e below PP (T1.setTop (mkF m 5 #[.val (.ref a1), .val (.int ij), .val (.int pf)] [(.int (Int32.ofNat ts.length)), (.int ij)]))
  by_cases hc2 : ij < (Int32.ofNat ts.length)
  refine Y.icmpNo X1 hx (hb hby d3_5) rfl (tlt hc2).2.1 ?_
  refine Y.aloadN X1 hx (hb hby d3_8) rfl rfl ?_
  refine Y.iloadN X1 hx (hb hby d3_9) rfl ?_
  obtain ⟨cq3, kq3, qa3, qb3, qc3⟩ := isOf hZ e1 E_a1
  obtain ⟨_, _, ⟨T3, L3, k3, n3⟩, -, X3, ⟨Lc3, hQ3, l3, y3, z3⟩, st3⟩ := X1.virtualBack hx (y := (⟨"java/lang/String", "charAt", "(I)C"⟩ : MethodName)) (z := (⟨"java/lang/String", "charAt", "(I)C"⟩ : MethodName)) hown (mvT hZ (W 30 rfl)) (mvT hZ (W 31 rfl)) (notFace_of_selects (args := #[]) (mvT hZ (W 33 rfl))) (mvT hZ (W 33 rfl)) (mvT hZ (W 32 rfl)) (by decide) (StrChars.Road.chN (W := 0) hZ hwwordsChN (kI := 4) (W 3 rfl) (i := ij.toNatClampNeg) E_a1 F_value_a1 F_coder_a1 K_tb hco_ hbo (SBC.ext O_.2) hcs (SFO.ext O_.2) hfo hl4 (own_lt hij hl4 hc2) (back32 hij).1.symm (by decide) (by decide)) qa3 qc3 (g := (mkF m 10 #[.val (.ref a1), .val (.int ij), .val (.int pf)] [(.int ij), (.ref a1)])) rfl (by rw [hml]; rfl) (Steps.refl _) (argsL := [(.int ij)]) (rest := []) (lenOf pd_1 rfl) rfl (by show 2 * 0 + _ ≤ _; exact Nat.le_of_eq rfl) (hb hby d3_10) (fun _ _ => ⟨rfl, e1, (by decide : 0 + 0 ≤ _), (by decide : 0 + 0 ≤ _)⟩)
  dsimp only [Pt.U, Pt.locs, Pt.cells, Pt.slots] at X3 l3 y3 z3 st3 hQ3
  subst l3 y3 z3
  obtain ⟨rfl, rfl, e3⟩ := hQ3
  have N3 := Fr.app N1 (Fr.nil n0)
  refine Gl.pre (fun _ k => st3.trans k) ?_
  show Gl p.tables e below PP (T3.setTop (mkF m 13 #[.val (.ref a1), .val (.int ij), .val (.int pf)] [(.int (ts.getD ij.toNatClampNeg 0))]))
  refine Y.goto X3 hx (pc0 := 13) (pc' := 17) rfl (hb hby d3_13) (by decide) (by decide) ?_
  rw [hPP]
  refine own_finN (Q := (Q3 Z a1 ij pf cs fo tb kt ts N2 vs h0 n0)) X3 hx hlk Bd.returns (t := .char) (z' := (ts.getD ij.toNatClampNeg 0)) (by simp) (by first | exact own_nc hpf | exact own_nc (own_gr hts _)) (hb hby d3_17) ?_ (by decide) (by decide)
  show Q3 Z a1 ij pf cs fo tb kt ts N2 vs h0 n0 _ T3.heap _
  rw [e3]
  refine ⟨?_, N3, rfl⟩
  rw [own_at, if_pos hc2]
  refine Y.icmpYes X1 hx (pc0 := 5) (pc' := 16) rfl (hb hby d3_5) rfl (flt hc2).2.1 (by decide) (by decide) ?_
  refine Y.iloadN X1 hx (hb hby d3_16) rfl ?_
  rw [hPP]
  refine own_finN (Q := (Q3 Z a1 ij pf cs fo tb kt ts N2 vs h0 n0)) X1 hx hlk Bd.returns (t := .char) (z' := pf) (by simp) (by first | exact own_nc hpf | exact own_nc (own_gr hts _)) (hb hby d3_17) ?_ (by decide) (by decide)
  show Q3 Z a1 ij pf cs fo tb kt ts N2 vs h0 n0 _ T1.heap _
  rw [e1]
  refine ⟨?_, N1, rfl⟩
  rw [own_at, if_neg hc2]
theorem d11_0 : decode jdk_42_method_149_code 0 = .ok (.aload_n 0, 1) := by decide +kernel
theorem d11_1 : decode jdk_42_method_149_code 1 = .ok (.invokespecial 1, 3) := by decide +kernel
theorem d11_4 : decode jdk_42_method_149_code 4 = .ok (.iload_n 3, 1) := by decide +kernel
theorem d11_5 : decode jdk_42_method_149_code 5 = .ok (.ifCond .ne 22, 3) := by decide +kernel
theorem d11_8 : decode jdk_42_method_149_code 8 = .ok (.aload_n 0, 1) := by decide +kernel
theorem d11_9 : decode jdk_42_method_149_code 9 = .ok (.ldc 7, 2) := by decide +kernel
theorem d11_11 : decode jdk_42_method_149_code 11 = .ok (.getfield 9, 3) := by decide +kernel
theorem d11_14 : decode jdk_42_method_149_code 14 = .ok (.putfield 9, 3) := by decide +kernel
theorem d11_17 : decode jdk_42_method_149_code 17 = .ok (.aload_n 0, 1) := by decide +kernel
theorem d11_18 : decode jdk_42_method_149_code 18 = .ok (.ldc 7, 2) := by decide +kernel
theorem d11_20 : decode jdk_42_method_149_code 20 = .ok (.getfield 15, 3) := by decide +kernel
theorem d11_23 : decode jdk_42_method_149_code 23 = .ok (.putfield 15, 3) := by decide +kernel
theorem d11_26 : decode jdk_42_method_149_code 26 = .ok (.return_, 1) := by decide +kernel
theorem pn_11 : plainName "java/lang/String" = true := by first | (simp [plainName, overriddenIn]; done) | decide +kernel
theorem ef_si0 (m : MethodId) (a1 : Addr) (a2 : Addr) : entryFrame m #[(.ref a1), (.ref a2), (.int (0 : Int32)), (.int (0 : Int32)), .null] 6 = mkF m 0 #[.val (.ref a1), .val (.ref a2), .val (.int (0 : Int32)), .val (.int (0 : Int32)), .val .null, .unset] [] := by first | (simp [entryFrame, mkF, argsToLocals, Value.category]; done) | rfl
def Qsi0 (Z : State) (a1 : Addr) (a2 : Addr) (h0 : Heap) (n0 : Nat) (v : Option Value) (h : Heap) (L : List Loc) : Prop := v = none ∧ Fr n0 L ∧ Keep h0 h [a1] ∧ ∃ (vb : Addr) (kz : ClassId), Fld Z h a1 "java/lang/String" "value" "[B" (.ref vb) ∧ Fld Z h a1 "java/lang/String" "coder" "B" (.int (0 : Int32)) ∧ Arv Z h vb kz .byte (0 : Int32) ([] : List Value) (.int 0)
set_option maxRecDepth 65536 in
set_option maxHeartbeats 40000000 in
theorem rmsi0 (l : Launch) (Z : State) (a0 : Array Value) (hw : ∀ d ∈ tables_1, d.before a0 Z = true) (ws : List Jvm.Cond) (a1 : Addr) (a2 : Addr) (h0 : Heap) (n0 : Nat) (Z0 : n0 ≤ h0.size) (E_a1 : Exa Z h0 a1 "java/lang/String") (F_value_a1 : Fld Z h0 a1 "java/lang/String" "value" "[B" .null) (F_coder_a1 : Fld Z h0 a1 "java/lang/String" "coder" "B" (.int (0 : Int32))) (g_a1 : n0 ≤ a1) (hEL : EW Z a0 own_EL) :
    MetFree l (⟨"java/lang/String", "<init>", "([CIILjava/lang/Void;)V"⟩ : MethodName) (head1 (Jvm.Cond.code (⟨"java/lang/String", "<init>", "([CIILjava/lang/Void;)V"⟩ : MethodName) jdk_42_method_149_code 6 none :: ws) ({ frames := 1, cells := 4, slots := 8, locals := 12 } : Room)) (fun a U => a = #[(.ref a1), (.ref a2), (.int (0 : Int32)), (.int (0 : Int32)), .null] ∧ Z.Warmed39 U.vm ∧ U.heap = h0 ∧ CHv Z own_EL U.vm h0 ∧ ∀ x ∈ ([a1] : List Addr), Safe Z own_EL U.vm h0 x) (fun _ _ _ _ _ => True) (fun _ U o U' => ∃ v L, o = .returned v ∧ Qsi0 Z a1 a2 h0 n0 v U'.heap L ∧ CHr Z own_EL U.vm U.heap U'.vm U'.heap ∧ ReturnedEndW U o U' L ({ frames := 1, cells := 4, slots := 8, locals := 12 } : Room).cells ({ frames := 1, cells := 4, slots := 8, locals := 12 } : Room).slots) := by
  have W := @own_wd Z a0 hw
  refine MetFree.of_bodySF (plainFor_of_name pn_11) hisR ?_
  intro p e s m args below meth c s₁ Bd hml0 hP hK
  obtain ⟨rfl, hZ, hh, hCH, hSL⟩ := hP
  have hx := Bd.exec
  have hby := Bd.bytes
  have hlk : meth.locks = false := BodyLoose.notSynchronized Bd
  have hml : c.maxLocals = 6 := hml0
  have hown : s.vm.findClass "java/lang/String" = some m.cls := findClass_of_methodNamed Bd.named
  have hnm := (name_of_methodNamed Bd.named Bd.method).1
  have X0 : Stand p l e ({ frames := 1, cells := 4, slots := 8, locals := 12 } : Room) (s.setVm s.vm) m #[(.ref a1), (.ref a2), (.int (0 : Int32)), (.int (0 : Int32)), .null] below meth c s₁ [] 0 0 := Stand.of_body Bd
  have hZ0 : Z.Warmed39 (s.setVm s.vm).vm := hZ
  have hown0 : (s.setVm s.vm).vm.findClass "java/lang/String" = some m.cls := hown
  have hS0 : s.Since s.vm h0.size := (State.WarmedH.refl s).since _
  have hk0 : h0.size ≤ h0.size := Nat.le_refl _
  have CR0 : CHr Z own_EL s.vm h0 s.vm h0 := CHr.refl hCH
  have Sf_a1 := hSL a1 (List.mem_of_getElem? (i := 0) rfl)
  have e0 : s₁.heap = h0 := by rw [← hh, Bd.state]; rfl
  have N0 := Fr.nil n0
  show Gl p.tables e below _ _
  refine Gl.pre (fun t k => castTop (ef_si0 m a1 a2) k) ?_
  refine Gl.gen (fun PP hPP => ?_)
  have K0 : Keep h0 h0 [a1] := Keep.refl h0 _
  show Gl p.tables e below PP (s₁.setTop (mkF m 0 #[.val (.ref a1), .val (.ref a2), .val (.int (0 : Int32)), .val (.int (0 : Int32)), .val .null, .unset] []))
  refine Y.aloadN X0 hx (hb hby d11_0) rfl rfl ?_
  obtain ⟨T1, X1, e1, st1⟩ := initO X0 hx hZ0 hown0 (W 63 rfl) (W 64 rfl) (W 65 rfl) e0 (g := (mkF m 1 #[.val (.ref a1), .val (.ref a2), .val (.int (0 : Int32)), .val (.int (0 : Int32)), .val .null, .unset] [(.ref a1)])) rfl (by rw [hml]; rfl) rfl (hb hby d11_1) (by decide) (W := 0) (by show 2 * 0 + _ ≤ _; exact Nat.le_of_eq rfl) (by decide)
  refine Gl.pre (fun _ k => st1 _ k) ?_
  refine Y.iloadN X1 hx (hb hby d11_4) rfl ?_
  refine Y.ifNo X1 hx (hb hby d11_5) rfl ((if0 _ _).trans (teq (show (0 : Int32) = (0 : Int32) from (by decide))).2) ?_
  refine Y.aloadN X1 hx (hb hby d11_8) rfl rfl ?_
  obtain ⟨la2, T2, h2, q2, lb2, kb2, X2, e2, E2, hS2, hk2, hZ2, hown2, Es2, Fc2, Fv2, Va2, -, -, CR2c, Li2, hne2, st2⟩ := ldcCH X1 hx hZ0 hown0 (W 142 rfl) (own_wS hw) e1 hS0 hk0 hEL (by simp [own_EL, consts_1]) CR0.1 (vs := [].map Value.int) (z := (0 : Int32)) ⟨by decide, by decide⟩ (by decide) (by decide) (g := (mkF m 9 #[.val (.ref a1), .val (.ref a2), .val (.int (0 : Int32)), .val (.int (0 : Int32)), .val .null, .unset] [(.ref a1)])) rfl (hb hby d11_9) (n := 0) (by decide) (by decide) (by decide) (by decide)
  refine Gl.pre (fun _ k => st2 _ k) ?_
  have Sf_a1 := CR2c.safe E_a1.lt Sf_a1
  have own_ne_a1_la2 := (hne2 _ Sf_a1).1
  have own_ne_a1_lb2 := (hne2 _ Sf_a1).2
  have own_ne_la2_a1 := own_ne_a1_la2.symm
  have own_ne_lb2_a1 := own_ne_a1_lb2.symm
  have E_a1 := E_a1.ext E2
  have F_value_a1 := F_value_a1.ext E2
  have F_coder_a1 := F_coder_a1.ext E2
  have CR2 := CR0.trans CR2c
  have Z2 : n0 ≤ h2.size := Nat.le_trans Z0 E2.1
  have K2 := K0.ext E2
  have V_lb2 : Bal Z h2 lb2 .byte [] := own_balOf Va2 (by decide)
  show Gl p.tables e below PP (T2.setTop (mkF m 11 #[.val (.ref a1), .val (.ref a2), .val (.int (0 : Int32)), .val (.int (0 : Int32)), .val .null, .unset] [(.ref la2), (.ref a1)]))
  obtain ⟨T3, X3, e3, st3⟩ := getF X2 hx hZ2 hown2 (host := "") (Or.inl (W 17 rfl)) Via.refl e2 Fv2 (g := (mkF m 11 #[.val (.ref a1), .val (.ref a2), .val (.int (0 : Int32)), .val (.int (0 : Int32)), .val .null, .unset] [(.ref la2), (.ref a1)])) rfl rfl (hb hby d11_11)
  refine Gl.pre (fun _ k => st3 _ k) ?_
  obtain ⟨T4, h4, X4, e4, W4, st4⟩ := putF X3 hx hZ2 hown2 (host := "") (Or.inl (W 17 rfl)) Via.refl e3 F_value_a1 E_a1 (Or.inr ⟨(W 5 rfl), rfl, hnm⟩) (W 3 rfl) (ty := (.array .byte)) (by decide) rfl rfl (g := (mkF m 14 #[.val (.ref a1), .val (.ref a2), .val (.int (0 : Int32)), .val (.int (0 : Int32)), .val .null, .unset] [(.ref lb2), (.ref a1)])) rfl rfl (hb hby d11_14)
  refine Gl.pre (fun _ k => st4 _ k) ?_
  have CR4 := CR2.trans (CHr.wr W4 Sf_a1 CR2.1)
  have Sf_a1 := Safe.wr W4 Sf_a1 CR2.1 Sf_a1
  have E_a1 := E_a1.wr W4
  have F_value_a1 := F_value_a1.same W4
  have F_coder_a1 := F_coder_a1.other W4 (Or.inr (slot_ne (Or.inr (W 6 rfl)) (Or.inr (W 5 rfl)) (by decide) (t := .byte) (t' := (.array .byte)) (by decide) (by decide)))
  have Va2 := Va2.other W4 (own_ne_lb2_a1)
  have Es2 := Es2.wr W4
  have Fc2 := Fc2.other W4 (Or.inl (own_ne_la2_a1))
  have Fv2 := Fv2.other W4 (Or.inl (own_ne_la2_a1))
  have V_lb2 := V_lb2.other W4 (own_ne_lb2_a1)
  have Z4 : n0 ≤ h4.size := by rw [W4.size]; exact Z2
  have hk4 := Nat.le_trans hk2 (Nat.le_of_eq W4.size.symm)
  have N4 := Fr.snoc X4 N0 g_a1
  have K4 := K2.wr W4 (Or.inl (List.mem_of_getElem? (i := 0) rfl))
  refine Y.aloadN X4 hx (hb hby d11_17) rfl rfl ?_
  obtain ⟨la5, T5, h5, q5, lb5, kb5, X5, e5, E5, hS5, hk5, hZ5, hown5, Es5, Fc5, Fv5, Va5, -, -, CR5c, Li5, hne5, st5⟩ := ldcCH X4 hx hZ2 hown2 (W 142 rfl) (own_wS hw) e4 hS2 hk4 hEL (by simp [own_EL, consts_1]) CR4.1 (vs := [].map Value.int) (z := (0 : Int32)) ⟨by decide, by decide⟩ (by decide) (by decide) (g := (mkF m 18 #[.val (.ref a1), .val (.ref a2), .val (.int (0 : Int32)), .val (.int (0 : Int32)), .val .null, .unset] [(.ref a1)])) rfl (hb hby d11_18) (n := 0) (by decide) (by decide) (by decide) (by decide)
  refine Gl.pre (fun _ k => st5 _ k) ?_
  have Sf_a1 := CR5c.safe E_a1.lt Sf_a1
  have own_ne_a1_la5 := (hne5 _ Sf_a1).1
  have own_ne_a1_lb5 := (hne5 _ Sf_a1).2
  have own_ne_la5_a1 := own_ne_a1_la5.symm
  have own_ne_lb5_a1 := own_ne_a1_lb5.symm
  have E_a1 := E_a1.ext E5
  have F_value_a1 := F_value_a1.ext E5
  have F_coder_a1 := F_coder_a1.ext E5
  have Va2 := Va2.ext E5
  have Es2 := Es2.ext E5
  have Fc2 := Fc2.ext E5
  have Fv2 := Fv2.ext E5
  have V_lb2 := V_lb2.ext E5
  have CR5 := CR4.trans CR5c
  have Z5 : n0 ≤ h5.size := Nat.le_trans Z4 E5.1
  have K5 := K4.ext E5
  have V_lb5 : Bal Z h5 lb5 .byte [] := own_balOf Va5 (by decide)
  show Gl p.tables e below PP (T5.setTop (mkF m 20 #[.val (.ref a1), .val (.ref a2), .val (.int (0 : Int32)), .val (.int (0 : Int32)), .val .null, .unset] [(.ref la5), (.ref a1)]))
  obtain ⟨T6, X6, e6, st6⟩ := getF X5 hx hZ5 hown5 (host := "") (Or.inl (W 24 rfl)) Via.refl e5 Fc5 (g := (mkF m 20 #[.val (.ref a1), .val (.ref a2), .val (.int (0 : Int32)), .val (.int (0 : Int32)), .val .null, .unset] [(.ref la5), (.ref a1)])) rfl rfl (hb hby d11_20)
  refine Gl.pre (fun _ k => st6 _ k) ?_
  obtain ⟨T7, h7, X7, e7, W7, st7⟩ := putFN X6 hx hZ5 hown5 (W 24 rfl) Via.refl e6 F_coder_a1 E_a1 (Or.inr ⟨(W 6 rfl), rfl, hnm⟩) (W 3 rfl) (ty := .byte) (v' := (.int (0 : Int32))) (by decide) rfl rfl (g := (mkF m 23 #[.val (.ref a1), .val (.ref a2), .val (.int (0 : Int32)), .val (.int (0 : Int32)), .val .null, .unset] [(.int (0 : Int32)), (.ref a1)])) rfl rfl (hb hby d11_23)
  refine Gl.pre (fun _ k => st7 _ k) ?_
  have CR7 := CR5.trans (CHr.wr W7 Sf_a1 CR5.1)
  have Sf_a1 := Safe.wr W7 Sf_a1 CR5.1 Sf_a1
  have E_a1 := E_a1.wr W7
  have F_value_a1 := F_value_a1.other W7 (Or.inr (slot_ne (Or.inr (W 5 rfl)) (Or.inr (W 6 rfl)) (by decide) (t := (.array .byte)) (t' := .byte) (by decide) (by decide)))
  have F_coder_a1 := F_coder_a1.same W7
  have Va2 := Va2.other W7 (own_ne_lb2_a1)
  have Es2 := Es2.wr W7
  have Fc2 := Fc2.other W7 (Or.inl (own_ne_la2_a1))
  have Fv2 := Fv2.other W7 (Or.inl (own_ne_la2_a1))
  have V_lb2 := V_lb2.other W7 (own_ne_lb2_a1)
  have Va5 := Va5.other W7 (own_ne_lb5_a1)
  have Es5 := Es5.wr W7
  have Fc5 := Fc5.other W7 (Or.inl (own_ne_la5_a1))
  have Fv5 := Fv5.other W7 (Or.inl (own_ne_la5_a1))
  have V_lb5 := V_lb5.other W7 (own_ne_lb5_a1)
  have Z7 : n0 ≤ h7.size := by rw [W7.size]; exact Z5
  have hk7 := Nat.le_trans hk5 (Nat.le_of_eq W7.size.symm)
  have N7 := Fr.snoc X7 N4 g_a1
  have K7 := K5.wr W7 (Or.inl (List.mem_of_getElem? (i := 0) rfl))
  rw [hPP]
  refine own_finVW (Q := (Qsi0 Z a1 a2 h0 n0)) (Z := Z) (EL := own_EL) X7 hx hlk hS5 (by rw [e7]; exact hk7) Bd.returns (hb hby d11_26) ?_ (by rw [hh, e7]; exact CR7.trans (CHv.at X7 hZ5 hEL CR7.1)) (by decide) (by decide)
  show Qsi0 Z a1 a2 h0 n0 _ T7.heap _
  rw [e7]
  exact ⟨rfl, N7, K7, lb2, _, F_value_a1, F_coder_a1, Va2⟩
theorem d10_0 : decode jdk_42_method_3_code 0 = .ok (.aload_n 0, 1) := by decide +kernel
theorem d10_1 : decode jdk_42_method_3_code 1 = .ok (.aload_n 1, 1) := by decide +kernel
theorem d10_2 : decode jdk_42_method_3_code 2 = .ok (.iconst 0, 1) := by decide +kernel
theorem d10_3 : decode jdk_42_method_3_code 3 = .ok (.aload_n 1, 1) := by decide +kernel
theorem d10_4 : decode jdk_42_method_3_code 4 = .ok (.arraylength, 1) := by decide +kernel
theorem d10_5 : decode jdk_42_method_3_code 5 = .ok (.aconst_null, 1) := by decide +kernel
theorem d10_6 : decode jdk_42_method_3_code 6 = .ok (.invokespecial 27, 3) := by decide +kernel
theorem d10_9 : decode jdk_42_method_3_code 9 = .ok (.return_, 1) := by decide +kernel
theorem pn_10 : plainName "java/lang/String" = true := by first | (simp [plainName, overriddenIn]; done) | decide +kernel
theorem ef_s0 (m : MethodId) (a1 : Addr) (a2 : Addr) : entryFrame m #[(.ref a1), (.ref a2)] 2 = mkF m 0 #[.val (.ref a1), .val (.ref a2)] [] := by first | (simp [entryFrame, mkF, argsToLocals, Value.category]; done) | rfl
def Qs0 (Z : State) (a1 : Addr) (a2 : Addr) (h0 : Heap) (n0 : Nat) (v : Option Value) (h : Heap) (L : List Loc) : Prop := v = none ∧ Fr n0 L ∧ Keep h0 h [a1] ∧ ∃ (vb : Addr) (kz : ClassId), Fld Z h a1 "java/lang/String" "value" "[B" (.ref vb) ∧ Fld Z h a1 "java/lang/String" "coder" "B" (.int (0 : Int32)) ∧ Arv Z h vb kz .byte (0 : Int32) ([] : List Value) (.int 0)
set_option maxRecDepth 65536 in
set_option maxHeartbeats 40000000 in
theorem rms0 (l : Launch) (Z : State) (a0 : Array Value) (hw : ∀ d ∈ tables_1, d.before a0 Z = true) (ws : List Jvm.Cond) (a1 : Addr) (a2 : Addr) (h0 : Heap) (n0 : Nat) (Z0 : n0 ≤ h0.size) (E_a1 : Exa Z h0 a1 "java/lang/String") (F_value_a1 : Fld Z h0 a1 "java/lang/String" "value" "[B" .null) (F_coder_a1 : Fld Z h0 a1 "java/lang/String" "coder" "B" (.int (0 : Int32))) (g_a1 : n0 ≤ a1) (V_a2 : Bal Z h0 a2 .char []) (own_ne_a1_a2 : a1 ≠ a2) (own_ne_a2_a1 : a2 ≠ a1) (hEL : EW Z a0 own_EL) :
    MetFree l (⟨"java/lang/String", "<init>", "([C)V"⟩ : MethodName) (head1 (Jvm.Cond.code (⟨"java/lang/String", "<init>", "([C)V"⟩ : MethodName) jdk_42_method_3_code 2 none :: ws) ({ frames := 2, cells := 4, slots := 8, locals := 29 } : Room)) (fun a U => a = #[(.ref a1), (.ref a2)] ∧ Z.Warmed39 U.vm ∧ U.heap = h0 ∧ CHv Z own_EL U.vm h0 ∧ ∀ x ∈ ([a1] : List Addr), Safe Z own_EL U.vm h0 x) (fun _ _ _ _ _ => True) (fun _ U o U' => ∃ v L, o = .returned v ∧ Qs0 Z a1 a2 h0 n0 v U'.heap L ∧ CHr Z own_EL U.vm U.heap U'.vm U'.heap ∧ ReturnedEndW U o U' L ({ frames := 2, cells := 4, slots := 8, locals := 29 } : Room).cells ({ frames := 2, cells := 4, slots := 8, locals := 29 } : Room).slots) := by
  have W := @own_wd Z a0 hw
  refine MetFree.of_bodySF (plainFor_of_name pn_10) hisR ?_
  intro p e s m args below meth c s₁ Bd hml0 hP hK
  obtain ⟨rfl, hZ, hh, hCH, hSL⟩ := hP
  have hx := Bd.exec
  have hby := Bd.bytes
  have hlk : meth.locks = false := BodyLoose.notSynchronized Bd
  have hml : c.maxLocals = 2 := hml0
  have hown : s.vm.findClass "java/lang/String" = some m.cls := findClass_of_methodNamed Bd.named
  have hnm := (name_of_methodNamed Bd.named Bd.method).1
  have X0 : Stand p l e ({ frames := 2, cells := 4, slots := 8, locals := 29 } : Room) (s.setVm s.vm) m #[(.ref a1), (.ref a2)] below meth c s₁ [] 0 0 := Stand.of_body Bd
  have hZ0 : Z.Warmed39 (s.setVm s.vm).vm := hZ
  have hown0 : (s.setVm s.vm).vm.findClass "java/lang/String" = some m.cls := hown
  have hS0 : s.Since s.vm h0.size := (State.WarmedH.refl s).since _
  have hk0 : h0.size ≤ h0.size := Nat.le_refl _
  have CR0 : CHr Z own_EL s.vm h0 s.vm h0 := CHr.refl hCH
  have Sf_a1 := hSL a1 (List.mem_of_getElem? (i := 0) rfl)
  have e0 : s₁.heap = h0 := by rw [← hh, Bd.state]; rfl
  have N0 := Fr.nil n0
  show Gl p.tables e below _ _
  refine Gl.pre (fun t k => castTop (ef_s0 m a1 a2) k) ?_
  refine Gl.gen (fun PP hPP => ?_)
  have K0 : Keep h0 h0 [a1] := Keep.refl h0 _
  show Gl p.tables e below PP (s₁.setTop (mkF m 0 #[.val (.ref a1), .val (.ref a2)] []))
  refine Y.aloadN X0 hx (hb hby d10_0) rfl rfl ?_
  refine Y.aloadN X0 hx (hb hby d10_1) rfl rfl ?_
  refine Y.iconst X0 hx (hb hby d10_2) ?_
  refine Y.aloadN X0 hx (hb hby d10_3) rfl rfl ?_
  refine Gl.pre (fun _ k => own_len X0 hx hZ0 e0 V_a2 (v := (0 : Int32)) rfl (g := (mkF m 4 #[.val (.ref a1), .val (.ref a2)] [(.ref a2), (.int (0 : Int32)), (.ref a2), (.ref a1)])) rfl rfl (hb hby d10_4) _ k) ?_
  refine Y.aconstNull X0 hx (hb hby d10_5) ?_
  obtain ⟨_, _, ⟨T1, L1, k1, n1⟩, -, X1, hS1c, hg1, ⟨Lc1, hQ1, l1, y1, z1, CR1c⟩, st1⟩ := X0.specialBackS hx (y := (⟨"java/lang/String", "<init>", "([CIILjava/lang/Void;)V"⟩ : MethodName)) rfl hown0 (mvT hZ0 (W 59 rfl)) (mvT hZ0 (W 60 rfl)) (mvT hZ0 (W 62 rfl)) (by decide) (own_backH (W := 0) (rmsi0 l Z a0 hw [] a1 a2 h0 n0 Z0 E_a1 F_value_a1 F_coder_a1 g_a1 hEL) hZ0 (W 62 rfl) (W 2 rfl) (by decide) (by decide) hEL CR0.1 (allS ⟨E_a1.lt, Sf_a1⟩ all0)) (g := (mkF m 6 #[.val (.ref a1), .val (.ref a2)] [.null, (.int (0 : Int32)), (.int (0 : Int32)), (.ref a2), (.ref a1)])) rfl (by rw [hml]; rfl) (Steps.refl _) (a := a1) (argsL := [(.ref a2), (.int (0 : Int32)), (.int (0 : Int32)), .null]) (rest := []) (lenOf pd_2 rfl) rfl (by show 2 * 0 + _ ≤ _; exact Nat.le_of_eq rfl) (hb hby d10_6) (fun _ _ => ⟨rfl, e0, (by decide : 0 + 4 ≤ _), (by decide : 0 + 8 ≤ _)⟩)
  dsimp only [Pt.U, Pt.locs, Pt.cells, Pt.slots] at X1 l1 y1 z1 st1 hQ1 hS1c hg1 CR1c
  subst l1 y1 z1
  have X1 : Stand p l e ({ frames := 2, cells := 4, slots := 8, locals := 29 } : Room) (s.setVm T1.vm) m #[(.ref a1), (.ref a2)] below meth c T1 _ _ _ := X1
  have hS1 := foldS hS0 (Nat.le_trans hk0 (Nat.le_of_eq (congrArg Array.size e0.symm))) hS1c hg1
  have hZ1 : Z.Warmed39 (s.setVm T1.vm).vm := State.Warmed39.trans (t := s.setVm s.vm) hZ0 hS1c.1
  have hown1 : (s.setVm T1.vm).vm.findClass "java/lang/String" = some m.cls := by rw [show (s.setVm T1.vm).vm = T1.vm from rfl, hS1c.1.alike.findClass]; exact hown0
  have Sf_a1 := CR1c.safe E_a1.lt Sf_a1
  have CR1 := CR0.trans CR1c
  obtain ⟨rfl, N1q, K1, vb1, kz1, Fv1, Fc1, Kz1⟩ := hQ1
  have N1 := Fr.app N0 N1q
  refine Gl.pre (fun _ k => st1.trans k) ?_
  have E_a1 := E_a1.keep K1
  have V_a2 := V_a2.keep K1 (ninS (own_ne_a2_a1) nin0)
  have Z1 : n0 ≤ T1.heap.size := Nat.le_trans Z0 K1.1
  have K1k := K0.trans K1 (allS (Or.inl (List.mem_of_getElem? (i := 0) rfl)) all0)
  have F_value_a1 := Fv1
  have F_coder_a1 := Fc1
  rw [hPP]
  refine own_finVW (Q := (Qs0 Z a1 a2 h0 n0)) (Z := Z) (EL := own_EL) X1 hx hlk hS1 (Nat.le_refl _) Bd.returns (hb hby d10_9) ?_ (by rw [hh]; exact CR1.trans (CHv.at X1 hZ1 hEL CR1.1)) (by decide) (by decide)
  show Qs0 Z a1 a2 h0 n0 _ T1.heap _
  exact ⟨rfl, N1, K1k, vb1, _, F_value_a1, F_coder_a1, Kz1⟩
theorem d9_0 : decode method_4_code 0 = .ok (.iload_n 1, 1) := by decide +kernel
theorem d9_1 : decode method_4_code 1 = .ok (.ifCond .ne 14, 3) := by decide +kernel
theorem d9_4 : decode method_4_code 4 = .ok (.new 27, 3) := by decide +kernel
theorem d9_7 : decode method_4_code 7 = .ok (.dup, 1) := by decide +kernel
theorem d9_8 : decode method_4_code 8 = .ok (.iconst 0, 1) := by decide +kernel
theorem d9_9 : decode method_4_code 9 = .ok (.newarray .char, 2) := by decide +kernel
theorem d9_11 : decode method_4_code 11 = .ok (.invokespecial 56, 3) := by decide +kernel
theorem d9_14 : decode method_4_code 14 = .ok (.areturn, 1) := by decide +kernel
theorem d9_15 : decode method_4_code 15 = .ok (.iload_n 1, 1) := by decide +kernel
theorem d9_16 : decode method_4_code 16 = .ok (.iconst 1, 1) := by decide +kernel
theorem d9_17 : decode method_4_code 17 = .ok (.if_icmp .ne 20, 3) := by decide +kernel
theorem d9_20 : decode method_4_code 20 = .ok (.new 27, 3) := by decide +kernel
theorem d9_23 : decode method_4_code 23 = .ok (.dup, 1) := by decide +kernel
theorem d9_24 : decode method_4_code 24 = .ok (.iconst 1, 1) := by decide +kernel
theorem d9_25 : decode method_4_code 25 = .ok (.newarray .char, 2) := by decide +kernel
theorem d9_27 : decode method_4_code 27 = .ok (.dup, 1) := by decide +kernel
theorem d9_28 : decode method_4_code 28 = .ok (.iconst 0, 1) := by decide +kernel
theorem d9_29 : decode method_4_code 29 = .ok (.aload_n 0, 1) := by decide +kernel
theorem d9_30 : decode method_4_code 30 = .ok (.iconst 0, 1) := by decide +kernel
theorem d9_31 : decode method_4_code 31 = .ok (.caload, 1) := by decide +kernel
theorem d9_32 : decode method_4_code 32 = .ok (.castore, 1) := by decide +kernel
theorem d9_33 : decode method_4_code 33 = .ok (.invokespecial 56, 3) := by decide +kernel
theorem d9_36 : decode method_4_code 36 = .ok (.areturn, 1) := by decide +kernel
theorem d9_37 : decode method_4_code 37 = .ok (.iload_n 1, 1) := by decide +kernel
theorem d9_38 : decode method_4_code 38 = .ok (.iconst 2, 1) := by decide +kernel
theorem d9_39 : decode method_4_code 39 = .ok (.if_icmp .ne 26, 3) := by decide +kernel
theorem d9_42 : decode method_4_code 42 = .ok (.new 27, 3) := by decide +kernel
theorem d9_45 : decode method_4_code 45 = .ok (.dup, 1) := by decide +kernel
theorem d9_46 : decode method_4_code 46 = .ok (.iconst 2, 1) := by decide +kernel
theorem d9_47 : decode method_4_code 47 = .ok (.newarray .char, 2) := by decide +kernel
theorem d9_49 : decode method_4_code 49 = .ok (.dup, 1) := by decide +kernel
theorem d9_50 : decode method_4_code 50 = .ok (.iconst 0, 1) := by decide +kernel
theorem d9_51 : decode method_4_code 51 = .ok (.aload_n 0, 1) := by decide +kernel
theorem d9_52 : decode method_4_code 52 = .ok (.iconst 0, 1) := by decide +kernel
theorem d9_53 : decode method_4_code 53 = .ok (.caload, 1) := by decide +kernel
theorem d9_54 : decode method_4_code 54 = .ok (.castore, 1) := by decide +kernel
theorem d9_55 : decode method_4_code 55 = .ok (.dup, 1) := by decide +kernel
theorem d9_56 : decode method_4_code 56 = .ok (.iconst 1, 1) := by decide +kernel
theorem d9_57 : decode method_4_code 57 = .ok (.aload_n 0, 1) := by decide +kernel
theorem d9_58 : decode method_4_code 58 = .ok (.iconst 1, 1) := by decide +kernel
theorem d9_59 : decode method_4_code 59 = .ok (.caload, 1) := by decide +kernel
theorem d9_60 : decode method_4_code 60 = .ok (.castore, 1) := by decide +kernel
theorem d9_61 : decode method_4_code 61 = .ok (.invokespecial 56, 3) := by decide +kernel
theorem d9_64 : decode method_4_code 64 = .ok (.areturn, 1) := by decide +kernel
theorem d9_65 : decode method_4_code 65 = .ok (.iload_n 1, 1) := by decide +kernel
theorem d9_66 : decode method_4_code 66 = .ok (.iconst 3, 1) := by decide +kernel
theorem d9_67 : decode method_4_code 67 = .ok (.if_icmp .ne 32, 3) := by decide +kernel
theorem d9_70 : decode method_4_code 70 = .ok (.new 27, 3) := by decide +kernel
theorem d9_73 : decode method_4_code 73 = .ok (.dup, 1) := by decide +kernel
theorem d9_74 : decode method_4_code 74 = .ok (.iconst 3, 1) := by decide +kernel
theorem d9_75 : decode method_4_code 75 = .ok (.newarray .char, 2) := by decide +kernel
theorem d9_77 : decode method_4_code 77 = .ok (.dup, 1) := by decide +kernel
theorem d9_78 : decode method_4_code 78 = .ok (.iconst 0, 1) := by decide +kernel
theorem d9_79 : decode method_4_code 79 = .ok (.aload_n 0, 1) := by decide +kernel
theorem d9_80 : decode method_4_code 80 = .ok (.iconst 0, 1) := by decide +kernel
theorem d9_81 : decode method_4_code 81 = .ok (.caload, 1) := by decide +kernel
theorem d9_82 : decode method_4_code 82 = .ok (.castore, 1) := by decide +kernel
theorem d9_83 : decode method_4_code 83 = .ok (.dup, 1) := by decide +kernel
theorem d9_84 : decode method_4_code 84 = .ok (.iconst 1, 1) := by decide +kernel
theorem d9_85 : decode method_4_code 85 = .ok (.aload_n 0, 1) := by decide +kernel
theorem d9_86 : decode method_4_code 86 = .ok (.iconst 1, 1) := by decide +kernel
theorem d9_87 : decode method_4_code 87 = .ok (.caload, 1) := by decide +kernel
theorem d9_88 : decode method_4_code 88 = .ok (.castore, 1) := by decide +kernel
theorem d9_89 : decode method_4_code 89 = .ok (.dup, 1) := by decide +kernel
theorem d9_90 : decode method_4_code 90 = .ok (.iconst 2, 1) := by decide +kernel
theorem d9_91 : decode method_4_code 91 = .ok (.aload_n 0, 1) := by decide +kernel
theorem d9_92 : decode method_4_code 92 = .ok (.iconst 2, 1) := by decide +kernel
theorem d9_93 : decode method_4_code 93 = .ok (.caload, 1) := by decide +kernel
theorem d9_94 : decode method_4_code 94 = .ok (.castore, 1) := by decide +kernel
theorem d9_95 : decode method_4_code 95 = .ok (.invokespecial 56, 3) := by decide +kernel
theorem d9_98 : decode method_4_code 98 = .ok (.areturn, 1) := by decide +kernel
theorem d9_99 : decode method_4_code 99 = .ok (.iload_n 1, 1) := by decide +kernel
theorem d9_100 : decode method_4_code 100 = .ok (.iconst 4, 1) := by decide +kernel
theorem d9_101 : decode method_4_code 101 = .ok (.if_icmp .ne 38, 3) := by decide +kernel
theorem d9_104 : decode method_4_code 104 = .ok (.new 27, 3) := by decide +kernel
theorem d9_107 : decode method_4_code 107 = .ok (.dup, 1) := by decide +kernel
theorem d9_108 : decode method_4_code 108 = .ok (.iconst 4, 1) := by decide +kernel
theorem d9_109 : decode method_4_code 109 = .ok (.newarray .char, 2) := by decide +kernel
theorem d9_111 : decode method_4_code 111 = .ok (.dup, 1) := by decide +kernel
theorem d9_112 : decode method_4_code 112 = .ok (.iconst 0, 1) := by decide +kernel
theorem d9_113 : decode method_4_code 113 = .ok (.aload_n 0, 1) := by decide +kernel
theorem d9_114 : decode method_4_code 114 = .ok (.iconst 0, 1) := by decide +kernel
theorem d9_115 : decode method_4_code 115 = .ok (.caload, 1) := by decide +kernel
theorem d9_116 : decode method_4_code 116 = .ok (.castore, 1) := by decide +kernel
theorem d9_117 : decode method_4_code 117 = .ok (.dup, 1) := by decide +kernel
theorem d9_118 : decode method_4_code 118 = .ok (.iconst 1, 1) := by decide +kernel
theorem d9_119 : decode method_4_code 119 = .ok (.aload_n 0, 1) := by decide +kernel
theorem d9_120 : decode method_4_code 120 = .ok (.iconst 1, 1) := by decide +kernel
theorem d9_121 : decode method_4_code 121 = .ok (.caload, 1) := by decide +kernel
theorem d9_122 : decode method_4_code 122 = .ok (.castore, 1) := by decide +kernel
theorem d9_123 : decode method_4_code 123 = .ok (.dup, 1) := by decide +kernel
theorem d9_124 : decode method_4_code 124 = .ok (.iconst 2, 1) := by decide +kernel
theorem d9_125 : decode method_4_code 125 = .ok (.aload_n 0, 1) := by decide +kernel
theorem d9_126 : decode method_4_code 126 = .ok (.iconst 2, 1) := by decide +kernel
theorem d9_127 : decode method_4_code 127 = .ok (.caload, 1) := by decide +kernel
theorem d9_128 : decode method_4_code 128 = .ok (.castore, 1) := by decide +kernel
theorem d9_129 : decode method_4_code 129 = .ok (.dup, 1) := by decide +kernel
theorem d9_130 : decode method_4_code 130 = .ok (.iconst 3, 1) := by decide +kernel
theorem d9_131 : decode method_4_code 131 = .ok (.aload_n 0, 1) := by decide +kernel
theorem d9_132 : decode method_4_code 132 = .ok (.iconst 3, 1) := by decide +kernel
theorem d9_133 : decode method_4_code 133 = .ok (.caload, 1) := by decide +kernel
theorem d9_134 : decode method_4_code 134 = .ok (.castore, 1) := by decide +kernel
theorem d9_135 : decode method_4_code 135 = .ok (.invokespecial 56, 3) := by decide +kernel
theorem d9_138 : decode method_4_code 138 = .ok (.areturn, 1) := by decide +kernel
theorem d9_139 : decode method_4_code 139 = .ok (.iload_n 1, 1) := by decide +kernel
theorem d9_140 : decode method_4_code 140 = .ok (.iconst 5, 1) := by decide +kernel
theorem d9_141 : decode method_4_code 141 = .ok (.if_icmp .ne 44, 3) := by decide +kernel
theorem d9_144 : decode method_4_code 144 = .ok (.new 27, 3) := by decide +kernel
theorem d9_147 : decode method_4_code 147 = .ok (.dup, 1) := by decide +kernel
theorem d9_148 : decode method_4_code 148 = .ok (.iconst 5, 1) := by decide +kernel
theorem d9_149 : decode method_4_code 149 = .ok (.newarray .char, 2) := by decide +kernel
theorem d9_151 : decode method_4_code 151 = .ok (.dup, 1) := by decide +kernel
theorem d9_152 : decode method_4_code 152 = .ok (.iconst 0, 1) := by decide +kernel
theorem d9_153 : decode method_4_code 153 = .ok (.aload_n 0, 1) := by decide +kernel
theorem d9_154 : decode method_4_code 154 = .ok (.iconst 0, 1) := by decide +kernel
theorem d9_155 : decode method_4_code 155 = .ok (.caload, 1) := by decide +kernel
theorem d9_156 : decode method_4_code 156 = .ok (.castore, 1) := by decide +kernel
theorem d9_157 : decode method_4_code 157 = .ok (.dup, 1) := by decide +kernel
theorem d9_158 : decode method_4_code 158 = .ok (.iconst 1, 1) := by decide +kernel
theorem d9_159 : decode method_4_code 159 = .ok (.aload_n 0, 1) := by decide +kernel
theorem d9_160 : decode method_4_code 160 = .ok (.iconst 1, 1) := by decide +kernel
theorem d9_161 : decode method_4_code 161 = .ok (.caload, 1) := by decide +kernel
theorem d9_162 : decode method_4_code 162 = .ok (.castore, 1) := by decide +kernel
theorem d9_163 : decode method_4_code 163 = .ok (.dup, 1) := by decide +kernel
theorem d9_164 : decode method_4_code 164 = .ok (.iconst 2, 1) := by decide +kernel
theorem d9_165 : decode method_4_code 165 = .ok (.aload_n 0, 1) := by decide +kernel
theorem d9_166 : decode method_4_code 166 = .ok (.iconst 2, 1) := by decide +kernel
theorem d9_167 : decode method_4_code 167 = .ok (.caload, 1) := by decide +kernel
theorem d9_168 : decode method_4_code 168 = .ok (.castore, 1) := by decide +kernel
theorem d9_169 : decode method_4_code 169 = .ok (.dup, 1) := by decide +kernel
theorem d9_170 : decode method_4_code 170 = .ok (.iconst 3, 1) := by decide +kernel
theorem d9_171 : decode method_4_code 171 = .ok (.aload_n 0, 1) := by decide +kernel
theorem d9_172 : decode method_4_code 172 = .ok (.iconst 3, 1) := by decide +kernel
theorem d9_173 : decode method_4_code 173 = .ok (.caload, 1) := by decide +kernel
theorem d9_174 : decode method_4_code 174 = .ok (.castore, 1) := by decide +kernel
theorem d9_175 : decode method_4_code 175 = .ok (.dup, 1) := by decide +kernel
theorem d9_176 : decode method_4_code 176 = .ok (.iconst 4, 1) := by decide +kernel
theorem d9_177 : decode method_4_code 177 = .ok (.aload_n 0, 1) := by decide +kernel
theorem d9_178 : decode method_4_code 178 = .ok (.iconst 4, 1) := by decide +kernel
theorem d9_179 : decode method_4_code 179 = .ok (.caload, 1) := by decide +kernel
theorem d9_180 : decode method_4_code 180 = .ok (.castore, 1) := by decide +kernel
theorem d9_181 : decode method_4_code 181 = .ok (.invokespecial 56, 3) := by decide +kernel
theorem d9_184 : decode method_4_code 184 = .ok (.areturn, 1) := by decide +kernel
theorem d9_185 : decode method_4_code 185 = .ok (.iload_n 1, 1) := by decide +kernel
theorem d9_186 : decode method_4_code 186 = .ok (.bipush 6, 2) := by decide +kernel
theorem d9_188 : decode method_4_code 188 = .ok (.if_icmp .ne 51, 3) := by decide +kernel
theorem d9_191 : decode method_4_code 191 = .ok (.new 27, 3) := by decide +kernel
theorem d9_194 : decode method_4_code 194 = .ok (.dup, 1) := by decide +kernel
theorem d9_195 : decode method_4_code 195 = .ok (.bipush 6, 2) := by decide +kernel
theorem d9_197 : decode method_4_code 197 = .ok (.newarray .char, 2) := by decide +kernel
theorem d9_199 : decode method_4_code 199 = .ok (.dup, 1) := by decide +kernel
theorem d9_200 : decode method_4_code 200 = .ok (.iconst 0, 1) := by decide +kernel
theorem d9_201 : decode method_4_code 201 = .ok (.aload_n 0, 1) := by decide +kernel
theorem d9_202 : decode method_4_code 202 = .ok (.iconst 0, 1) := by decide +kernel
theorem d9_203 : decode method_4_code 203 = .ok (.caload, 1) := by decide +kernel
theorem d9_204 : decode method_4_code 204 = .ok (.castore, 1) := by decide +kernel
theorem d9_205 : decode method_4_code 205 = .ok (.dup, 1) := by decide +kernel
theorem d9_206 : decode method_4_code 206 = .ok (.iconst 1, 1) := by decide +kernel
theorem d9_207 : decode method_4_code 207 = .ok (.aload_n 0, 1) := by decide +kernel
theorem d9_208 : decode method_4_code 208 = .ok (.iconst 1, 1) := by decide +kernel
theorem d9_209 : decode method_4_code 209 = .ok (.caload, 1) := by decide +kernel
theorem d9_210 : decode method_4_code 210 = .ok (.castore, 1) := by decide +kernel
theorem d9_211 : decode method_4_code 211 = .ok (.dup, 1) := by decide +kernel
theorem d9_212 : decode method_4_code 212 = .ok (.iconst 2, 1) := by decide +kernel
theorem d9_213 : decode method_4_code 213 = .ok (.aload_n 0, 1) := by decide +kernel
theorem d9_214 : decode method_4_code 214 = .ok (.iconst 2, 1) := by decide +kernel
theorem d9_215 : decode method_4_code 215 = .ok (.caload, 1) := by decide +kernel
theorem d9_216 : decode method_4_code 216 = .ok (.castore, 1) := by decide +kernel
theorem d9_217 : decode method_4_code 217 = .ok (.dup, 1) := by decide +kernel
theorem d9_218 : decode method_4_code 218 = .ok (.iconst 3, 1) := by decide +kernel
theorem d9_219 : decode method_4_code 219 = .ok (.aload_n 0, 1) := by decide +kernel
theorem d9_220 : decode method_4_code 220 = .ok (.iconst 3, 1) := by decide +kernel
theorem d9_221 : decode method_4_code 221 = .ok (.caload, 1) := by decide +kernel
theorem d9_222 : decode method_4_code 222 = .ok (.castore, 1) := by decide +kernel
theorem d9_223 : decode method_4_code 223 = .ok (.dup, 1) := by decide +kernel
theorem d9_224 : decode method_4_code 224 = .ok (.iconst 4, 1) := by decide +kernel
theorem d9_225 : decode method_4_code 225 = .ok (.aload_n 0, 1) := by decide +kernel
theorem d9_226 : decode method_4_code 226 = .ok (.iconst 4, 1) := by decide +kernel
theorem d9_227 : decode method_4_code 227 = .ok (.caload, 1) := by decide +kernel
theorem d9_228 : decode method_4_code 228 = .ok (.castore, 1) := by decide +kernel
theorem d9_229 : decode method_4_code 229 = .ok (.dup, 1) := by decide +kernel
theorem d9_230 : decode method_4_code 230 = .ok (.iconst 5, 1) := by decide +kernel
theorem d9_231 : decode method_4_code 231 = .ok (.aload_n 0, 1) := by decide +kernel
theorem d9_232 : decode method_4_code 232 = .ok (.iconst 5, 1) := by decide +kernel
theorem d9_233 : decode method_4_code 233 = .ok (.caload, 1) := by decide +kernel
theorem d9_234 : decode method_4_code 234 = .ok (.castore, 1) := by decide +kernel
theorem d9_235 : decode method_4_code 235 = .ok (.invokespecial 56, 3) := by decide +kernel
theorem d9_238 : decode method_4_code 238 = .ok (.areturn, 1) := by decide +kernel
theorem d9_239 : decode method_4_code 239 = .ok (.iload_n 1, 1) := by decide +kernel
theorem d9_240 : decode method_4_code 240 = .ok (.bipush 7, 2) := by decide +kernel
theorem d9_242 : decode method_4_code 242 = .ok (.if_icmp .ne 59, 3) := by decide +kernel
theorem d9_245 : decode method_4_code 245 = .ok (.new 27, 3) := by decide +kernel
theorem d9_248 : decode method_4_code 248 = .ok (.dup, 1) := by decide +kernel
theorem d9_249 : decode method_4_code 249 = .ok (.bipush 7, 2) := by decide +kernel
theorem d9_251 : decode method_4_code 251 = .ok (.newarray .char, 2) := by decide +kernel
theorem d9_253 : decode method_4_code 253 = .ok (.dup, 1) := by decide +kernel
theorem d9_254 : decode method_4_code 254 = .ok (.iconst 0, 1) := by decide +kernel
theorem d9_255 : decode method_4_code 255 = .ok (.aload_n 0, 1) := by decide +kernel
theorem d9_256 : decode method_4_code 256 = .ok (.iconst 0, 1) := by decide +kernel
theorem d9_257 : decode method_4_code 257 = .ok (.caload, 1) := by decide +kernel
theorem d9_258 : decode method_4_code 258 = .ok (.castore, 1) := by decide +kernel
theorem d9_259 : decode method_4_code 259 = .ok (.dup, 1) := by decide +kernel
theorem d9_260 : decode method_4_code 260 = .ok (.iconst 1, 1) := by decide +kernel
theorem d9_261 : decode method_4_code 261 = .ok (.aload_n 0, 1) := by decide +kernel
theorem d9_262 : decode method_4_code 262 = .ok (.iconst 1, 1) := by decide +kernel
theorem d9_263 : decode method_4_code 263 = .ok (.caload, 1) := by decide +kernel
theorem d9_264 : decode method_4_code 264 = .ok (.castore, 1) := by decide +kernel
theorem d9_265 : decode method_4_code 265 = .ok (.dup, 1) := by decide +kernel
theorem d9_266 : decode method_4_code 266 = .ok (.iconst 2, 1) := by decide +kernel
theorem d9_267 : decode method_4_code 267 = .ok (.aload_n 0, 1) := by decide +kernel
theorem d9_268 : decode method_4_code 268 = .ok (.iconst 2, 1) := by decide +kernel
theorem d9_269 : decode method_4_code 269 = .ok (.caload, 1) := by decide +kernel
theorem d9_270 : decode method_4_code 270 = .ok (.castore, 1) := by decide +kernel
theorem d9_271 : decode method_4_code 271 = .ok (.dup, 1) := by decide +kernel
theorem d9_272 : decode method_4_code 272 = .ok (.iconst 3, 1) := by decide +kernel
theorem d9_273 : decode method_4_code 273 = .ok (.aload_n 0, 1) := by decide +kernel
theorem d9_274 : decode method_4_code 274 = .ok (.iconst 3, 1) := by decide +kernel
theorem d9_275 : decode method_4_code 275 = .ok (.caload, 1) := by decide +kernel
theorem d9_276 : decode method_4_code 276 = .ok (.castore, 1) := by decide +kernel
theorem d9_277 : decode method_4_code 277 = .ok (.dup, 1) := by decide +kernel
theorem d9_278 : decode method_4_code 278 = .ok (.iconst 4, 1) := by decide +kernel
theorem d9_279 : decode method_4_code 279 = .ok (.aload_n 0, 1) := by decide +kernel
theorem d9_280 : decode method_4_code 280 = .ok (.iconst 4, 1) := by decide +kernel
theorem d9_281 : decode method_4_code 281 = .ok (.caload, 1) := by decide +kernel
theorem d9_282 : decode method_4_code 282 = .ok (.castore, 1) := by decide +kernel
theorem d9_283 : decode method_4_code 283 = .ok (.dup, 1) := by decide +kernel
theorem d9_284 : decode method_4_code 284 = .ok (.iconst 5, 1) := by decide +kernel
theorem d9_285 : decode method_4_code 285 = .ok (.aload_n 0, 1) := by decide +kernel
theorem d9_286 : decode method_4_code 286 = .ok (.iconst 5, 1) := by decide +kernel
theorem d9_287 : decode method_4_code 287 = .ok (.caload, 1) := by decide +kernel
theorem d9_288 : decode method_4_code 288 = .ok (.castore, 1) := by decide +kernel
theorem d9_289 : decode method_4_code 289 = .ok (.dup, 1) := by decide +kernel
theorem d9_290 : decode method_4_code 290 = .ok (.bipush 6, 2) := by decide +kernel
theorem d9_292 : decode method_4_code 292 = .ok (.aload_n 0, 1) := by decide +kernel
theorem d9_293 : decode method_4_code 293 = .ok (.bipush 6, 2) := by decide +kernel
theorem d9_295 : decode method_4_code 295 = .ok (.caload, 1) := by decide +kernel
theorem d9_296 : decode method_4_code 296 = .ok (.castore, 1) := by decide +kernel
theorem d9_297 : decode method_4_code 297 = .ok (.invokespecial 56, 3) := by decide +kernel
theorem d9_300 : decode method_4_code 300 = .ok (.areturn, 1) := by decide +kernel
theorem d9_301 : decode method_4_code 301 = .ok (.new 27, 3) := by decide +kernel
theorem d9_304 : decode method_4_code 304 = .ok (.dup, 1) := by decide +kernel
theorem d9_305 : decode method_4_code 305 = .ok (.bipush 8, 2) := by decide +kernel
theorem d9_307 : decode method_4_code 307 = .ok (.newarray .char, 2) := by decide +kernel
theorem d9_309 : decode method_4_code 309 = .ok (.dup, 1) := by decide +kernel
theorem d9_310 : decode method_4_code 310 = .ok (.iconst 0, 1) := by decide +kernel
theorem d9_311 : decode method_4_code 311 = .ok (.aload_n 0, 1) := by decide +kernel
theorem d9_312 : decode method_4_code 312 = .ok (.iconst 0, 1) := by decide +kernel
theorem d9_313 : decode method_4_code 313 = .ok (.caload, 1) := by decide +kernel
theorem d9_314 : decode method_4_code 314 = .ok (.castore, 1) := by decide +kernel
theorem d9_315 : decode method_4_code 315 = .ok (.dup, 1) := by decide +kernel
theorem d9_316 : decode method_4_code 316 = .ok (.iconst 1, 1) := by decide +kernel
theorem d9_317 : decode method_4_code 317 = .ok (.aload_n 0, 1) := by decide +kernel
theorem d9_318 : decode method_4_code 318 = .ok (.iconst 1, 1) := by decide +kernel
theorem d9_319 : decode method_4_code 319 = .ok (.caload, 1) := by decide +kernel
theorem d9_320 : decode method_4_code 320 = .ok (.castore, 1) := by decide +kernel
theorem d9_321 : decode method_4_code 321 = .ok (.dup, 1) := by decide +kernel
theorem d9_322 : decode method_4_code 322 = .ok (.iconst 2, 1) := by decide +kernel
theorem d9_323 : decode method_4_code 323 = .ok (.aload_n 0, 1) := by decide +kernel
theorem d9_324 : decode method_4_code 324 = .ok (.iconst 2, 1) := by decide +kernel
theorem d9_325 : decode method_4_code 325 = .ok (.caload, 1) := by decide +kernel
theorem d9_326 : decode method_4_code 326 = .ok (.castore, 1) := by decide +kernel
theorem d9_327 : decode method_4_code 327 = .ok (.dup, 1) := by decide +kernel
theorem d9_328 : decode method_4_code 328 = .ok (.iconst 3, 1) := by decide +kernel
theorem d9_329 : decode method_4_code 329 = .ok (.aload_n 0, 1) := by decide +kernel
theorem d9_330 : decode method_4_code 330 = .ok (.iconst 3, 1) := by decide +kernel
theorem d9_331 : decode method_4_code 331 = .ok (.caload, 1) := by decide +kernel
theorem d9_332 : decode method_4_code 332 = .ok (.castore, 1) := by decide +kernel
theorem d9_333 : decode method_4_code 333 = .ok (.dup, 1) := by decide +kernel
theorem d9_334 : decode method_4_code 334 = .ok (.iconst 4, 1) := by decide +kernel
theorem d9_335 : decode method_4_code 335 = .ok (.aload_n 0, 1) := by decide +kernel
theorem d9_336 : decode method_4_code 336 = .ok (.iconst 4, 1) := by decide +kernel
theorem d9_337 : decode method_4_code 337 = .ok (.caload, 1) := by decide +kernel
theorem d9_338 : decode method_4_code 338 = .ok (.castore, 1) := by decide +kernel
theorem d9_339 : decode method_4_code 339 = .ok (.dup, 1) := by decide +kernel
theorem d9_340 : decode method_4_code 340 = .ok (.iconst 5, 1) := by decide +kernel
theorem d9_341 : decode method_4_code 341 = .ok (.aload_n 0, 1) := by decide +kernel
theorem d9_342 : decode method_4_code 342 = .ok (.iconst 5, 1) := by decide +kernel
theorem d9_343 : decode method_4_code 343 = .ok (.caload, 1) := by decide +kernel
theorem d9_344 : decode method_4_code 344 = .ok (.castore, 1) := by decide +kernel
theorem d9_345 : decode method_4_code 345 = .ok (.dup, 1) := by decide +kernel
theorem d9_346 : decode method_4_code 346 = .ok (.bipush 6, 2) := by decide +kernel
theorem d9_348 : decode method_4_code 348 = .ok (.aload_n 0, 1) := by decide +kernel
theorem d9_349 : decode method_4_code 349 = .ok (.bipush 6, 2) := by decide +kernel
theorem d9_351 : decode method_4_code 351 = .ok (.caload, 1) := by decide +kernel
theorem d9_352 : decode method_4_code 352 = .ok (.castore, 1) := by decide +kernel
theorem d9_353 : decode method_4_code 353 = .ok (.dup, 1) := by decide +kernel
theorem d9_354 : decode method_4_code 354 = .ok (.bipush 7, 2) := by decide +kernel
theorem d9_356 : decode method_4_code 356 = .ok (.aload_n 0, 1) := by decide +kernel
theorem d9_357 : decode method_4_code 357 = .ok (.bipush 7, 2) := by decide +kernel
theorem d9_359 : decode method_4_code 359 = .ok (.caload, 1) := by decide +kernel
theorem d9_360 : decode method_4_code 360 = .ok (.castore, 1) := by decide +kernel
theorem d9_361 : decode method_4_code 361 = .ok (.invokespecial 56, 3) := by decide +kernel
theorem d9_364 : decode method_4_code 364 = .ok (.areturn, 1) := by decide +kernel
theorem pn_9 : plainName "com/example/marcasite/marcasite/marc/CarrierNamedPinLaw" = true := by first | (simp [plainName, overriddenIn]; done) | decide +kernel
theorem ef_9 (m : MethodId) (a1 : Addr) (pn : Int32) (xs : List Int32) (cs : Int32) : entryFrame m #[(.ref a1), (.int pn)] 2 = mkF m 0 #[.val (.ref a1), .val (.int pn)] [] := by first | (simp [entryFrame, mkF, argsToLocals, Value.category]; done) | rfl
def Q9 (Z : State) (a1 : Addr) (pn : Int32) (xs : List Int32) (cs : Int32) (h0 : Heap) (n0 : Nat) (v : Option Value) (h : Heap) (L : List Loc) : Prop := ∃ (b tv : Addr) (kt : ClassId) (ds : List Int32), ds = xs.take pn.toNatClampNeg ∧ v = some (.ref b) ∧ Fr n0 L ∧ Keep h0 h [] ∧ h0.size ≤ b ∧ Exa Z h b "java/lang/String" ∧ Fld Z h b "java/lang/String" "value" "[B" (.ref tv) ∧ Fld Z h b "java/lang/String" "coder" "B" (.int (0 : Int32)) ∧ Arv Z h tv kt .byte (Int32.ofNat ds.length) ((ds.map (fun c => c.toInt8.toInt32)).map Value.int) (.int 0)
set_option maxRecDepth 65536 in
set_option maxHeartbeats 40000000 in
theorem rm9 (l : Launch) (Z : State) (a0 : Array Value) (hw : ∀ d ∈ tables_1, d.before a0 Z = true) (ws : List Jvm.Cond) (a1 : Addr) (pn : Int32) (xs : List Int32) (cs : Int32) (h0 : Heap) (n0 : Nat) (Z0 : n0 ≤ h0.size) (V_a1 : Bal Z h0 a1 .char xs) (hlen : xs.length = 8) (hxs : ∀ c ∈ xs, ¬ c < 0 ∧ ¬ (255 : Int32) < c) (hpn : pn = (0 : Int32) ∨ pn = (1 : Int32) ∨ pn = (2 : Int32) ∨ pn = (3 : Int32) ∨ pn = (4 : Int32) ∨ pn = (5 : Int32) ∨ pn = (6 : Int32) ∨ pn = (7 : Int32) ∨ pn = (8 : Int32)) (SBC : Sta Z Z.heap "java/lang/String" "COMPACT_STRINGS" "Z" (.int cs)) (hcs : ¬ (cs = (0 : Int32))) (O_ : Old Z n0 h0) (hEL : EW Z a0 own_EL) :
    MetFree l (⟨"com/example/marcasite/marcasite/marc/CarrierNamedPinLaw", "prefix", "([CI)Ljava/lang/String;"⟩ : MethodName) (head1 (Jvm.Cond.code (⟨"com/example/marcasite/marcasite/marc/CarrierNamedPinLaw", "prefix", "([CI)Ljava/lang/String;"⟩ : MethodName) method_4_code 2 (some (.object "java/lang/String")) :: ws) ({ frames := 4, cells := 6, slots := 20, locals := 66 } : Room)) (fun a U => a = #[(.ref a1), (.int pn)] ∧ Z.Warmed39 U.vm ∧ U.heap = h0 ∧ CHv Z own_EL U.vm h0 ∧ ∀ x ∈ ([] : List Addr), Safe Z own_EL U.vm h0 x) (fun _ _ _ _ _ => True) (fun _ U o U' => ∃ v L, o = .returned v ∧ Q9 Z a1 pn xs cs h0 n0 v U'.heap L ∧ CHr Z own_EL U.vm U.heap U'.vm U'.heap ∧ ReturnedEndW U o U' L ({ frames := 4, cells := 6, slots := 20, locals := 66 } : Room).cells ({ frames := 4, cells := 6, slots := 20, locals := 66 } : Room).slots) := by
  have W := @own_wd Z a0 hw
  refine MetFree.of_bodySF (plainFor_of_name pn_9) hisR ?_
  intro p e s m args below meth c s₁ Bd hml0 hP hK
  obtain ⟨rfl, hZ, hh, hCH, hSL⟩ := hP
  have hx := Bd.exec
  have hby := Bd.bytes
  have hlk : meth.locks = false := BodyLoose.notSynchronized Bd
  have hml : c.maxLocals = 2 := hml0
  have hown : s.vm.findClass "com/example/marcasite/marcasite/marc/CarrierNamedPinLaw" = some m.cls := findClass_of_methodNamed Bd.named
  have hnm := (name_of_methodNamed Bd.named Bd.method).1
  have X0 : Stand p l e ({ frames := 4, cells := 6, slots := 20, locals := 66 } : Room) (s.setVm s.vm) m #[(.ref a1), (.int pn)] below meth c s₁ [] 0 0 := Stand.of_body Bd
  have hZ0 : Z.Warmed39 (s.setVm s.vm).vm := hZ
  have hown0 : (s.setVm s.vm).vm.findClass "com/example/marcasite/marcasite/marc/CarrierNamedPinLaw" = some m.cls := hown
  have hS0 : s.Since s.vm h0.size := (State.WarmedH.refl s).since _
  have hk0 : h0.size ≤ h0.size := Nat.le_refl _
  have CR0 : CHr Z own_EL s.vm h0 s.vm h0 := CHr.refl hCH
  have e0 : s₁.heap = h0 := by rw [← hh, Bd.state]; rfl
  have N0 := Fr.nil n0
  show Gl p.tables e below _ _
  refine Gl.pre (fun t k => castTop (ef_9 m a1 pn xs cs) k) ?_
  refine Gl.gen (fun PP hPP => ?_)
  have K0 : Keep h0 h0 [] := Keep.refl h0 _
  have hwwords : ∀ d ∈ StrChars.Road.words, d.before a0 Z = true := fun d hd => hw d ((by decide +kernel : ∀ d ∈ StrChars.Road.words, d ∈ tables_1) d hd)
  show Gl p.tables e below PP (s₁.setTop (mkF m 0 #[.val (.ref a1), .val (.int pn)] []))
  refine Y.iloadN X0 hx (hb hby d9_0) rfl ?_
  by_cases hc1 : pn = (0 : Int32)
  refine Y.ifNo X0 hx (hb hby d9_1) rfl ((if0 _ _).trans (teq hc1).2) ?_
  obtain ⟨T2, h2, X2, e2, E2, A2, D2, -, st2⟩ := newO X0 hx hZ0 hown0 (W 55 rfl) (W 3 rfl) (W 2 rfl) e0 (g := (mkF m 4 #[.val (.ref a1), .val (.int pn)] [])) rfl (hb hby d9_4) (by decide) (by decide)
  obtain ⟨b2, g2⟩ : ∃ z, z = h0.size := ⟨_, rfl⟩
  rw [← g2] at A2 D2 st2
  refine Gl.pre (fun _ k => st2 _ k) ?_
  have own_ne_a1_b2 : a1 ≠ b2 := by have q := V_a1.lt; rw [g2]; exact Nat.ne_of_lt q
  have own_ne_b2_a1 : b2 ≠ a1 := own_ne_a1_b2.symm
  have g_b2 : n0 ≤ b2 := Nat.le_trans Z0 (Nat.le_of_eq g2.symm)
  have sz_b2 : h0.size ≤ b2 := Nat.le_trans K0.1 (Nat.le_of_eq g2.symm)
  have Sf_b2 := Safe.ext E2 CR0.1 (Safe.new (Z := Z) (EL := own_EL) (vm := s.vm) (Nat.le_of_eq g2.symm))
  have CR2 := CR0.trans (CHr.ext E2 CR0.1)
  have V_a1 := V_a1.ext E2
  have O_ := O_.ext E2
  have Z2 : n0 ≤ h2.size := Nat.le_trans Z0 E2.1
  have hk2 := Nat.le_trans hk0 E2.1
  have K2 := K0.ext E2
  have E_b2 := A2
  have F_value_b2 : Fld Z h2 b2 "java/lang/String" "value" "[B" .null := D2 (Or.inr (W 5 rfl)) (ty := (.array .byte)) (by decide)
  have F_coder_b2 : Fld Z h2 b2 "java/lang/String" "coder" "B" (.int (0 : Int32)) := D2 (Or.inr (W 6 rfl)) (ty := .byte) (by decide)
  refine Y.dup X2 hx (hb hby d9_7) rfl rfl ?_
  refine Y.iconst X2 hx (hb hby d9_8) ?_
  obtain ⟨T3, h3, k3, X3, e3, E3, A3, st3⟩ := newP X2 hx hZ0 (W 25 rfl) e2 (g := (mkF m 9 #[.val (.ref a1), .val (.int pn)] [(.int (0 : Int32)), (.ref b2), (.ref b2)])) rfl (hb hby d9_9) rfl (by decide) (cap := 0) (by decide) (by decide) (by decide) (by decide)
  obtain ⟨b3, g3⟩ : ∃ z, z = h2.size := ⟨_, rfl⟩
  rw [← g3] at A3 st3
  refine Gl.pre (fun _ k => st3 _ k) ?_
  have own_ne_a1_b3 : a1 ≠ b3 := by have q := V_a1.lt; rw [g3]; exact Nat.ne_of_lt q
  have own_ne_b3_a1 : b3 ≠ a1 := own_ne_a1_b3.symm
  have own_ne_b2_b3 : b2 ≠ b3 := by have q := E_b2.lt; rw [g3]; exact Nat.ne_of_lt q
  have own_ne_b3_b2 : b3 ≠ b2 := own_ne_b2_b3.symm
  have g_b3 : n0 ≤ b3 := Nat.le_trans Z2 (Nat.le_of_eq g3.symm)
  have sz_b3 : h0.size ≤ b3 := Nat.le_trans K2.1 (Nat.le_of_eq g3.symm)
  have Sf_b3 := Safe.ext E3 CR2.1 (Safe.new (Z := Z) (EL := own_EL) (vm := s.vm) (Nat.le_of_eq g3.symm))
  have Sf_b2 := Safe.ext E3 CR2.1 Sf_b2
  have CR3 := CR2.trans (CHr.ext E3 CR2.1)
  have V_a1 := V_a1.ext E3
  have O_ := O_.ext E3
  have E_b2 := E_b2.ext E3
  have F_value_b2 := F_value_b2.ext E3
  have F_coder_b2 := F_coder_b2.ext E3
  have Z3 : n0 ≤ h3.size := Nat.le_trans Z2 E3.1
  have hk3 := Nat.le_trans hk2 E3.1
  have K3 := K2.ext E3
  have V_b3 : Bal Z h3 b3 .char [] := Bal.new (ty := .char) A3 (n := 0) (by decide) rfl
  obtain ⟨_, _, ⟨T4, L4, k4, n4⟩, -, X4, hS4c, hg4, ⟨Lc4, hQ4, l4, y4, z4, CR4c⟩, st4⟩ := X3.specialBackS hx (y := (⟨"java/lang/String", "<init>", "([C)V"⟩ : MethodName)) rfl hown0 (mvT hZ0 (W 56 rfl)) (mvT hZ0 (W 57 rfl)) (mvT hZ0 (W 58 rfl)) (by decide) (own_backH (W := 1) (rms0 l Z a0 hw [] b2 b3 h3 n0 Z3 E_b2 F_value_b2 F_coder_b2 g_b2 V_b3 own_ne_b2_b3 own_ne_b3_b2 hEL) hZ0 (W 58 rfl) (W 2 rfl) (by decide) (by decide) hEL CR3.1 (allS ⟨E_b2.lt, Sf_b2⟩ all0)) (g := (mkF m 11 #[.val (.ref a1), .val (.int pn)] [(.ref b3), (.ref b2), (.ref b2)])) rfl (by rw [hml]; rfl) (Steps.refl _) (a := b2) (argsL := [(.ref b3)]) (rest := [(.ref b2)]) (lenOf pd_3 rfl) rfl (by show 2 * 0 + _ ≤ _; exact Nat.le_of_eq rfl) (hb hby d9_11) (fun _ _ => ⟨rfl, e3, (by decide : 2 + 4 ≤ _), (by decide : 4 + 8 ≤ _)⟩)
  dsimp only [Pt.U, Pt.locs, Pt.cells, Pt.slots] at X4 l4 y4 z4 st4 hQ4 hS4c hg4 CR4c
  subst l4 y4 z4
  have X4 : Stand p l e ({ frames := 4, cells := 6, slots := 20, locals := 66 } : Room) (s.setVm T4.vm) m #[(.ref a1), (.int pn)] below meth c T4 _ _ _ := X4
  have hS4 := foldS hS0 (Nat.le_trans hk3 (Nat.le_of_eq (congrArg Array.size e3.symm))) hS4c hg4
  have hZ4 : Z.Warmed39 (s.setVm T4.vm).vm := State.Warmed39.trans (t := s.setVm s.vm) hZ0 hS4c.1
  have hown4 : (s.setVm T4.vm).vm.findClass "com/example/marcasite/marcasite/marc/CarrierNamedPinLaw" = some m.cls := by rw [show (s.setVm T4.vm).vm = T4.vm from rfl, hS4c.1.alike.findClass]; exact hown0
  have Sf_b2 := CR4c.safe E_b2.lt Sf_b2
  have Sf_b3 := CR4c.safe V_b3.lt Sf_b3
  have CR4 := CR3.trans CR4c
  obtain ⟨rfl, N4q, K4, vb4, kz4, Fv4, Fc4, Kz4⟩ := hQ4
  have N4 := Fr.app N0 N4q
  refine Gl.pre (fun _ k => st4.trans k) ?_
  have V_a1 := V_a1.keep K4 (ninS (own_ne_a1_b2) nin0)
  have O_ := O_.keep K4 (allS g_b2 all0)
  have E_b2 := E_b2.keep K4
  have V_b3 := V_b3.keep K4 (ninS (own_ne_b3_b2) nin0)
  have Z4 : n0 ≤ T4.heap.size := Nat.le_trans Z3 K4.1
  have K4k := K3.trans K4 (allS (Or.inr sz_b2) all0)
  have F_value_b2 := Fv4
  have F_coder_b2 := Fc4
  rw [hPP]
  refine own_finAW (Q := (Q9 Z a1 pn xs cs h0 n0)) (Z := Z) (EL := own_EL) X4 hx hlk hS4 (Nat.le_refl _) Bd.returns rfl rfl (hb hby d9_14) ?_ (by rw [hh]; exact CR4.trans (CHv.at X4 hZ4 hEL CR4.1)) (by decide) (by decide)
  show Q9 Z a1 pn xs cs h0 n0 _ T4.heap _
  refine ⟨b2, vb4, _, [], ?_, rfl, N4, K4k, sz_b2, E_b2, F_value_b2, F_coder_b2, Kz4⟩
  rw [hc1, own_i0]; exact own_tk0 hlen
  refine Y.ifYes X0 hx (pc0 := 1) (pc' := 15) rfl (hb hby d9_1) rfl ((if0 _ _).trans (feq hc1).2) (by decide) (by decide) ?_
  refine Y.iloadN X0 hx (hb hby d9_15) rfl ?_
  refine Y.iconst X0 hx (hb hby d9_16) ?_
  by_cases hc5 : pn = (1 : Int32)
  refine Y.icmpNo X0 hx (hb hby d9_17) rfl (teq hc5).2 ?_
  obtain ⟨T6, h6, X6, e6, E6, A6, D6, -, st6⟩ := newO X0 hx hZ0 hown0 (W 55 rfl) (W 3 rfl) (W 2 rfl) e0 (g := (mkF m 20 #[.val (.ref a1), .val (.int pn)] [])) rfl (hb hby d9_20) (by decide) (by decide)
  obtain ⟨b6, g6⟩ : ∃ z, z = h0.size := ⟨_, rfl⟩
  rw [← g6] at A6 D6 st6
  refine Gl.pre (fun _ k => st6 _ k) ?_
  have own_ne_a1_b6 : a1 ≠ b6 := by have q := V_a1.lt; rw [g6]; exact Nat.ne_of_lt q
  have own_ne_b6_a1 : b6 ≠ a1 := own_ne_a1_b6.symm
  have g_b6 : n0 ≤ b6 := Nat.le_trans Z0 (Nat.le_of_eq g6.symm)
  have sz_b6 : h0.size ≤ b6 := Nat.le_trans K0.1 (Nat.le_of_eq g6.symm)
  have Sf_b6 := Safe.ext E6 CR0.1 (Safe.new (Z := Z) (EL := own_EL) (vm := s.vm) (Nat.le_of_eq g6.symm))
  have CR6 := CR0.trans (CHr.ext E6 CR0.1)
  have V_a1 := V_a1.ext E6
  have O_ := O_.ext E6
  have Z6 : n0 ≤ h6.size := Nat.le_trans Z0 E6.1
  have hk6 := Nat.le_trans hk0 E6.1
  have K6 := K0.ext E6
  have E_b6 := A6
  have F_value_b6 : Fld Z h6 b6 "java/lang/String" "value" "[B" .null := D6 (Or.inr (W 5 rfl)) (ty := (.array .byte)) (by decide)
  have F_coder_b6 : Fld Z h6 b6 "java/lang/String" "coder" "B" (.int (0 : Int32)) := D6 (Or.inr (W 6 rfl)) (ty := .byte) (by decide)
  refine Y.dup X6 hx (hb hby d9_23) rfl rfl ?_
  refine Y.iconst X6 hx (hb hby d9_24) ?_
  obtain ⟨T7, h7, k7, X7, e7, E7, A7, st7⟩ := newP X6 hx hZ0 (W 25 rfl) e6 (g := (mkF m 25 #[.val (.ref a1), .val (.int pn)] [(.int (1 : Int32)), (.ref b6), (.ref b6)])) rfl (hb hby d9_25) rfl (by decide) (cap := 1) (by decide) (by decide) (by decide) (by decide)
  obtain ⟨b7, g7⟩ : ∃ z, z = h6.size := ⟨_, rfl⟩
  rw [← g7] at A7 st7
  refine Gl.pre (fun _ k => st7 _ k) ?_
  have own_ne_a1_b7 : a1 ≠ b7 := by have q := V_a1.lt; rw [g7]; exact Nat.ne_of_lt q
  have own_ne_b7_a1 : b7 ≠ a1 := own_ne_a1_b7.symm
  have own_ne_b6_b7 : b6 ≠ b7 := by have q := E_b6.lt; rw [g7]; exact Nat.ne_of_lt q
  have own_ne_b7_b6 : b7 ≠ b6 := own_ne_b6_b7.symm
  have g_b7 : n0 ≤ b7 := Nat.le_trans Z6 (Nat.le_of_eq g7.symm)
  have sz_b7 : h0.size ≤ b7 := Nat.le_trans K6.1 (Nat.le_of_eq g7.symm)
  have Sf_b7 := Safe.ext E7 CR6.1 (Safe.new (Z := Z) (EL := own_EL) (vm := s.vm) (Nat.le_of_eq g7.symm))
  have Sf_b6 := Safe.ext E7 CR6.1 Sf_b6
  have CR7 := CR6.trans (CHr.ext E7 CR6.1)
  have V_a1 := V_a1.ext E7
  have O_ := O_.ext E7
  have E_b6 := E_b6.ext E7
  have F_value_b6 := F_value_b6.ext E7
  have F_coder_b6 := F_coder_b6.ext E7
  have Z7 : n0 ≤ h7.size := Nat.le_trans Z6 E7.1
  have hk7 := Nat.le_trans hk6 E7.1
  have K7 := K6.ext E7
  have V_b7 : Bal Z h7 b7 .char [(0 : Int32)] := Bal.new (ty := .char) A7 (n := 1) (by decide) rfl
  refine Y.dup X7 hx (hb hby d9_27) rfl rfl ?_
  refine Y.iconst X7 hx (hb hby d9_28) ?_
  refine Y.aloadN X7 hx (hb hby d9_29) rfl rfl ?_
  refine Y.iconst X7 hx (hb hby d9_30) ?_
  refine Gl.pre (fun _ k => own_ldC X7 hx hZ0 e7 V_a1 (j := (0 : Int32)) (i := 0) (by decide) (by decide) (by rw [hlen]; decide) (v := (xs.getD 0 0)) rfl (g := (mkF m 31 #[.val (.ref a1), .val (.int pn)] [(.int (0 : Int32)), (.ref a1), (.int (0 : Int32)), (.ref b7), (.ref b7), (.ref b6), (.ref b6)])) rfl rfl (hb hby d9_31) _ k) ?_
  obtain ⟨T8, h8, X8, e8, W8, V8, st8⟩ := own_stC X7 hx hZ0 e7 V_b7 (j := (0 : Int32)) (i := 0) (by decide) (by decide) (Nat.lt_of_lt_of_eq (by decide : 0 < 1) rfl) (g := (mkF m 32 #[.val (.ref a1), .val (.int pn)] [(.int (xs.getD 0 0)), (.int (0 : Int32)), (.ref b7), (.ref b7), (.ref b6), (.ref b6)])) rfl rfl (hb hby d9_32)
  refine Gl.pre (fun _ k => st8 _ k) ?_
  have Sf_b6 := Safe.wr W8 Sf_b7 CR7.1 Sf_b6
  have CR8 := CR7.trans (CHr.wr W8 Sf_b7 CR7.1)
  have Sf_b7 := Safe.wr W8 Sf_b7 CR7.1 Sf_b7
  have V_a1 := V_a1.other W8 (own_ne_a1_b7)
  have O_ := O_.wr W8 g_b7
  have E_b6 := E_b6.wr W8
  have F_value_b6 := F_value_b6.other W8 (Or.inl (own_ne_b6_b7))
  have F_coder_b6 := F_coder_b6.other W8 (Or.inl (own_ne_b6_b7))
  have Z8 : n0 ≤ h8.size := by rw [W8.size]; exact Z7
  have hk8 := Nat.le_trans hk7 (Nat.le_of_eq W8.size.symm)
  have N8 := Fr.snoc X8 N0 g_b7
  have K8 := K7.wr W8 (Or.inr sz_b7)
  have V_b7 : Bal Z h8 b7 .char [(nar .char (xs.getD 0 0))] := V8
  have VC9 : Bal Z h8 b7 .char [(xs.getD 0 0)] := by have q := V_b7; rw [own_nc (own_gr hxs 0)] at q; exact q
  obtain ⟨kc9, KC9⟩ := own_arvC VC9 (by intro x hx; simp only [List.mem_cons, List.not_mem_nil, or_false] at hx; rcases hx with rfl <;> exact own_fitc (own_gr hxs _)) (by simp only [List.length_cons, List.length_nil]; decide)
  have hp9 : ∀ c ∈ [(xs.getD 0 0)], ¬ c < 0 ∧ ¬ (255 : Int32) < c := by intro x hx; simp only [List.mem_cons, List.not_mem_nil, or_false] at hx; rcases hx with rfl <;> exact own_gr hxs _
  obtain ⟨_, _, ⟨T10, L10, k10, n10⟩, -, X10, ⟨Lc10, hQ10, l10, y10, z10⟩, st10⟩ := X8.specialBack hx (y := (⟨"java/lang/String", "<init>", "([C)V"⟩ : MethodName)) rfl hown0 (mvT hZ0 (W 56 rfl)) (mvT hZ0 (W 57 rfl)) (mvT hZ0 (W 58 rfl)) (by decide) (StrChars.Road.backV (W := 1) hZ0 hwwords (kI := 4) (W 3 rfl) (cs := [(xs.getD 0 0)]) (n := 1) g_b6 Z8 E_b6 F_value_b6 F_coder_b6 KC9 (SBC.ext O_.2) hcs (by first | rfl | simp) (by first | rfl | simp) (by decide) (by decide) hp9 rfl (by decide) (by decide)) (g := (mkF m 33 #[.val (.ref a1), .val (.int pn)] [(.ref b7), (.ref b6), (.ref b6)])) rfl (by rw [hml]; rfl) (Steps.refl _) (a := b6) (argsL := [(.ref b7)]) (rest := [(.ref b6)]) (lenOf pd_3 rfl) rfl (by show 2 * 0 + _ ≤ _; exact Nat.le_of_eq rfl) (hb hby d9_33) (fun _ _ => ⟨rfl, e8, (by decide : 2 + 1 ≤ _), (by decide : 5 + 1 ≤ _)⟩)
  dsimp only [Pt.U, Pt.locs, Pt.cells, Pt.slots] at X10 l10 y10 z10 st10 hQ10
  subst l10 y10 z10
  obtain ⟨rfl, N10q, K10, Ex10, Fc10, tv10, kt10, -, hz10, hnx10, Fv10, Kt10⟩ := hQ10
  have N10 := Fr.app N8 N10q
  refine Gl.pre (fun _ k => st10.trans k) ?_
  have own_ne_a1_tv10 : a1 ≠ tv10 := Nat.ne_of_lt (Nat.lt_of_lt_of_le V_a1.lt hz10)
  have own_ne_tv10_a1 := own_ne_a1_tv10.symm
  have own_ne_b6_tv10 : b6 ≠ tv10 := Nat.ne_of_lt (Nat.lt_of_lt_of_le E_b6.lt hz10)
  have own_ne_tv10_b6 := own_ne_b6_tv10.symm
  have own_ne_b7_tv10 : b7 ≠ tv10 := Nat.ne_of_lt (Nat.lt_of_lt_of_le V_b7.lt hz10)
  have own_ne_tv10_b7 := own_ne_b7_tv10.symm
  have g_tv10 : n0 ≤ tv10 := Nat.le_trans Z8 hz10
  have sz_tv10 : h0.size ≤ tv10 := Nat.le_trans K8.1 hz10
  have Sf_tv100 := Safe.new (Z := Z) (EL := own_EL) (vm := s.vm) hz10
  have hs10 : ∀ x ∈ [b6], Safe Z own_EL _ _ x := (allS Sf_b6 all0)
  have Sf_b6 := Safe.keep K10 hs10 CR8.1 Sf_b6
  have Sf_b7 := Safe.keep K10 hs10 CR8.1 Sf_b7
  have CR10 := CR8.trans (CHr.keep K10 hs10 CR8.1)
  have V_a1 := V_a1.keep K10 (ninS (own_ne_a1_b6) nin0)
  have O_ := O_.keep K10 (allS g_b6 all0)
  have E_b6 := E_b6.keep K10
  have V_b7 := V_b7.keep K10 (ninS (own_ne_b7_b6) nin0)
  have hk10 := Nat.le_trans hk8 K10.1
  have Z10 : n0 ≤ T10.heap.size := Nat.le_trans Z8 K10.1
  have K10k := K8.trans K10 (allS (Or.inr sz_b6) all0)
  have F_value_b6 := Fv10
  have F_coder_b6 := Fc10
  show Gl p.tables e below PP (T10.setTop (mkF m 36 #[.val (.ref a1), .val (.int pn)] [(.ref b6)]))
  rw [hPP]
  refine own_finAW (Q := (Q9 Z a1 pn xs cs h0 n0)) (Z := Z) (EL := own_EL) X10 hx hlk hS0 hk10 Bd.returns rfl rfl (hb hby d9_36) ?_ (by rw [hh]; exact CR10.trans (CHv.at X10 hZ0 hEL CR10.1)) (by decide) (by decide)
  show Q9 Z a1 pn xs cs h0 n0 _ T10.heap _
  refine ⟨b6, tv10, _, [(xs.getD 0 0)], ?_, rfl, N10, K10k, sz_b6, E_b6, F_value_b6, F_coder_b6, Kt10⟩
  rw [hc5, own_i1]; exact own_tk1 hlen
  refine Y.icmpYes X0 hx (pc0 := 17) (pc' := 37) rfl (hb hby d9_17) rfl (feq hc5).2 (by decide) (by decide) ?_
  refine Y.iloadN X0 hx (hb hby d9_37) rfl ?_
  refine Y.iconst X0 hx (hb hby d9_38) ?_
  by_cases hc11 : pn = (2 : Int32)
  refine Y.icmpNo X0 hx (hb hby d9_39) rfl (teq hc11).2 ?_
  obtain ⟨T12, h12, X12, e12, E12, A12, D12, -, st12⟩ := newO X0 hx hZ0 hown0 (W 55 rfl) (W 3 rfl) (W 2 rfl) e0 (g := (mkF m 42 #[.val (.ref a1), .val (.int pn)] [])) rfl (hb hby d9_42) (by decide) (by decide)
  obtain ⟨b12, g12⟩ : ∃ z, z = h0.size := ⟨_, rfl⟩
  rw [← g12] at A12 D12 st12
  refine Gl.pre (fun _ k => st12 _ k) ?_
  have own_ne_a1_b12 : a1 ≠ b12 := by have q := V_a1.lt; rw [g12]; exact Nat.ne_of_lt q
  have own_ne_b12_a1 : b12 ≠ a1 := own_ne_a1_b12.symm
  have g_b12 : n0 ≤ b12 := Nat.le_trans Z0 (Nat.le_of_eq g12.symm)
  have sz_b12 : h0.size ≤ b12 := Nat.le_trans K0.1 (Nat.le_of_eq g12.symm)
  have Sf_b12 := Safe.ext E12 CR0.1 (Safe.new (Z := Z) (EL := own_EL) (vm := s.vm) (Nat.le_of_eq g12.symm))
  have CR12 := CR0.trans (CHr.ext E12 CR0.1)
  have V_a1 := V_a1.ext E12
  have O_ := O_.ext E12
  have Z12 : n0 ≤ h12.size := Nat.le_trans Z0 E12.1
  have hk12 := Nat.le_trans hk0 E12.1
  have K12 := K0.ext E12
  have E_b12 := A12
  have F_value_b12 : Fld Z h12 b12 "java/lang/String" "value" "[B" .null := D12 (Or.inr (W 5 rfl)) (ty := (.array .byte)) (by decide)
  have F_coder_b12 : Fld Z h12 b12 "java/lang/String" "coder" "B" (.int (0 : Int32)) := D12 (Or.inr (W 6 rfl)) (ty := .byte) (by decide)
  refine Y.dup X12 hx (hb hby d9_45) rfl rfl ?_
  refine Y.iconst X12 hx (hb hby d9_46) ?_
  obtain ⟨T13, h13, k13, X13, e13, E13, A13, st13⟩ := newP X12 hx hZ0 (W 25 rfl) e12 (g := (mkF m 47 #[.val (.ref a1), .val (.int pn)] [(.int (2 : Int32)), (.ref b12), (.ref b12)])) rfl (hb hby d9_47) rfl (by decide) (cap := 2) (by decide) (by decide) (by decide) (by decide)
  obtain ⟨b13, g13⟩ : ∃ z, z = h12.size := ⟨_, rfl⟩
  rw [← g13] at A13 st13
  refine Gl.pre (fun _ k => st13 _ k) ?_
  have own_ne_a1_b13 : a1 ≠ b13 := by have q := V_a1.lt; rw [g13]; exact Nat.ne_of_lt q
  have own_ne_b13_a1 : b13 ≠ a1 := own_ne_a1_b13.symm
  have own_ne_b12_b13 : b12 ≠ b13 := by have q := E_b12.lt; rw [g13]; exact Nat.ne_of_lt q
  have own_ne_b13_b12 : b13 ≠ b12 := own_ne_b12_b13.symm
  have g_b13 : n0 ≤ b13 := Nat.le_trans Z12 (Nat.le_of_eq g13.symm)
  have sz_b13 : h0.size ≤ b13 := Nat.le_trans K12.1 (Nat.le_of_eq g13.symm)
  have Sf_b13 := Safe.ext E13 CR12.1 (Safe.new (Z := Z) (EL := own_EL) (vm := s.vm) (Nat.le_of_eq g13.symm))
  have Sf_b12 := Safe.ext E13 CR12.1 Sf_b12
  have CR13 := CR12.trans (CHr.ext E13 CR12.1)
  have V_a1 := V_a1.ext E13
  have O_ := O_.ext E13
  have E_b12 := E_b12.ext E13
  have F_value_b12 := F_value_b12.ext E13
  have F_coder_b12 := F_coder_b12.ext E13
  have Z13 : n0 ≤ h13.size := Nat.le_trans Z12 E13.1
  have hk13 := Nat.le_trans hk12 E13.1
  have K13 := K12.ext E13
  have V_b13 : Bal Z h13 b13 .char [(0 : Int32), (0 : Int32)] := Bal.new (ty := .char) A13 (n := 2) (by decide) rfl
  refine Y.dup X13 hx (hb hby d9_49) rfl rfl ?_
  refine Y.iconst X13 hx (hb hby d9_50) ?_
  refine Y.aloadN X13 hx (hb hby d9_51) rfl rfl ?_
  refine Y.iconst X13 hx (hb hby d9_52) ?_
  refine Gl.pre (fun _ k => own_ldC X13 hx hZ0 e13 V_a1 (j := (0 : Int32)) (i := 0) (by decide) (by decide) (by rw [hlen]; decide) (v := (xs.getD 0 0)) rfl (g := (mkF m 53 #[.val (.ref a1), .val (.int pn)] [(.int (0 : Int32)), (.ref a1), (.int (0 : Int32)), (.ref b13), (.ref b13), (.ref b12), (.ref b12)])) rfl rfl (hb hby d9_53) _ k) ?_
  obtain ⟨T14, h14, X14, e14, W14, V14, st14⟩ := own_stC X13 hx hZ0 e13 V_b13 (j := (0 : Int32)) (i := 0) (by decide) (by decide) (Nat.lt_of_lt_of_eq (by decide : 0 < 2) rfl) (g := (mkF m 54 #[.val (.ref a1), .val (.int pn)] [(.int (xs.getD 0 0)), (.int (0 : Int32)), (.ref b13), (.ref b13), (.ref b12), (.ref b12)])) rfl rfl (hb hby d9_54)
  refine Gl.pre (fun _ k => st14 _ k) ?_
  have Sf_b12 := Safe.wr W14 Sf_b13 CR13.1 Sf_b12
  have CR14 := CR13.trans (CHr.wr W14 Sf_b13 CR13.1)
  have Sf_b13 := Safe.wr W14 Sf_b13 CR13.1 Sf_b13
  have V_a1 := V_a1.other W14 (own_ne_a1_b13)
  have O_ := O_.wr W14 g_b13
  have E_b12 := E_b12.wr W14
  have F_value_b12 := F_value_b12.other W14 (Or.inl (own_ne_b12_b13))
  have F_coder_b12 := F_coder_b12.other W14 (Or.inl (own_ne_b12_b13))
  have Z14 : n0 ≤ h14.size := by rw [W14.size]; exact Z13
  have hk14 := Nat.le_trans hk13 (Nat.le_of_eq W14.size.symm)
  have N14 := Fr.snoc X14 N0 g_b13
  have K14 := K13.wr W14 (Or.inr sz_b13)
  have V_b13 : Bal Z h14 b13 .char [(nar .char (xs.getD 0 0)), (0 : Int32)] := V14
  refine Y.dup X14 hx (hb hby d9_55) rfl rfl ?_
  refine Y.iconst X14 hx (hb hby d9_56) ?_
  refine Y.aloadN X14 hx (hb hby d9_57) rfl rfl ?_
  refine Y.iconst X14 hx (hb hby d9_58) ?_
  refine Gl.pre (fun _ k => own_ldC X14 hx hZ0 e14 V_a1 (j := (1 : Int32)) (i := 1) (by decide) (by decide) (by rw [hlen]; decide) (v := (xs.getD 1 0)) rfl (g := (mkF m 59 #[.val (.ref a1), .val (.int pn)] [(.int (1 : Int32)), (.ref a1), (.int (1 : Int32)), (.ref b13), (.ref b13), (.ref b12), (.ref b12)])) rfl rfl (hb hby d9_59) _ k) ?_
  obtain ⟨T15, h15, X15, e15, W15, V15, st15⟩ := own_stC X14 hx hZ0 e14 V_b13 (j := (1 : Int32)) (i := 1) (by decide) (by decide) (Nat.lt_of_lt_of_eq (by decide : 1 < 2) rfl) (g := (mkF m 60 #[.val (.ref a1), .val (.int pn)] [(.int (xs.getD 1 0)), (.int (1 : Int32)), (.ref b13), (.ref b13), (.ref b12), (.ref b12)])) rfl rfl (hb hby d9_60)
  refine Gl.pre (fun _ k => st15 _ k) ?_
  have Sf_b12 := Safe.wr W15 Sf_b13 CR14.1 Sf_b12
  have CR15 := CR14.trans (CHr.wr W15 Sf_b13 CR14.1)
  have Sf_b13 := Safe.wr W15 Sf_b13 CR14.1 Sf_b13
  have V_a1 := V_a1.other W15 (own_ne_a1_b13)
  have O_ := O_.wr W15 g_b13
  have E_b12 := E_b12.wr W15
  have F_value_b12 := F_value_b12.other W15 (Or.inl (own_ne_b12_b13))
  have F_coder_b12 := F_coder_b12.other W15 (Or.inl (own_ne_b12_b13))
  have Z15 : n0 ≤ h15.size := by rw [W15.size]; exact Z14
  have hk15 := Nat.le_trans hk14 (Nat.le_of_eq W15.size.symm)
  have N15 := Fr.snoc X15 N14 g_b13
  have K15 := K14.wr W15 (Or.inr sz_b13)
  have V_b13 : Bal Z h15 b13 .char [(nar .char (xs.getD 0 0)), (nar .char (xs.getD 1 0))] := V15
  have VC16 : Bal Z h15 b13 .char [(xs.getD 0 0), (xs.getD 1 0)] := by have q := V_b13; rw [own_nc (own_gr hxs 0), own_nc (own_gr hxs 1)] at q; exact q
  obtain ⟨kc16, KC16⟩ := own_arvC VC16 (by intro x hx; simp only [List.mem_cons, List.not_mem_nil, or_false] at hx; rcases hx with rfl | rfl <;> exact own_fitc (own_gr hxs _)) (by simp only [List.length_cons, List.length_nil]; decide)
  have hp16 : ∀ c ∈ [(xs.getD 0 0), (xs.getD 1 0)], ¬ c < 0 ∧ ¬ (255 : Int32) < c := by intro x hx; simp only [List.mem_cons, List.not_mem_nil, or_false] at hx; rcases hx with rfl | rfl <;> exact own_gr hxs _
  obtain ⟨_, _, ⟨T17, L17, k17, n17⟩, -, X17, ⟨Lc17, hQ17, l17, y17, z17⟩, st17⟩ := X15.specialBack hx (y := (⟨"java/lang/String", "<init>", "([C)V"⟩ : MethodName)) rfl hown0 (mvT hZ0 (W 56 rfl)) (mvT hZ0 (W 57 rfl)) (mvT hZ0 (W 58 rfl)) (by decide) (StrChars.Road.backV (W := 1) hZ0 hwwords (kI := 4) (W 3 rfl) (cs := [(xs.getD 0 0), (xs.getD 1 0)]) (n := 2) g_b12 Z15 E_b12 F_value_b12 F_coder_b12 KC16 (SBC.ext O_.2) hcs (by first | rfl | simp) (by first | rfl | simp) (by decide) (by decide) hp16 rfl (by decide) (by decide)) (g := (mkF m 61 #[.val (.ref a1), .val (.int pn)] [(.ref b13), (.ref b12), (.ref b12)])) rfl (by rw [hml]; rfl) (Steps.refl _) (a := b12) (argsL := [(.ref b13)]) (rest := [(.ref b12)]) (lenOf pd_3 rfl) rfl (by show 2 * 0 + _ ≤ _; exact Nat.le_of_eq rfl) (hb hby d9_61) (fun _ _ => ⟨rfl, e15, (by decide : 2 + 1 ≤ _), (by decide : 6 + 2 ≤ _)⟩)
  dsimp only [Pt.U, Pt.locs, Pt.cells, Pt.slots] at X17 l17 y17 z17 st17 hQ17
  subst l17 y17 z17
  obtain ⟨rfl, N17q, K17, Ex17, Fc17, tv17, kt17, -, hz17, hnx17, Fv17, Kt17⟩ := hQ17
  have N17 := Fr.app N15 N17q
  refine Gl.pre (fun _ k => st17.trans k) ?_
  have own_ne_a1_tv17 : a1 ≠ tv17 := Nat.ne_of_lt (Nat.lt_of_lt_of_le V_a1.lt hz17)
  have own_ne_tv17_a1 := own_ne_a1_tv17.symm
  have own_ne_b12_tv17 : b12 ≠ tv17 := Nat.ne_of_lt (Nat.lt_of_lt_of_le E_b12.lt hz17)
  have own_ne_tv17_b12 := own_ne_b12_tv17.symm
  have own_ne_b13_tv17 : b13 ≠ tv17 := Nat.ne_of_lt (Nat.lt_of_lt_of_le V_b13.lt hz17)
  have own_ne_tv17_b13 := own_ne_b13_tv17.symm
  have g_tv17 : n0 ≤ tv17 := Nat.le_trans Z15 hz17
  have sz_tv17 : h0.size ≤ tv17 := Nat.le_trans K15.1 hz17
  have Sf_tv170 := Safe.new (Z := Z) (EL := own_EL) (vm := s.vm) hz17
  have hs17 : ∀ x ∈ [b12], Safe Z own_EL _ _ x := (allS Sf_b12 all0)
  have Sf_b12 := Safe.keep K17 hs17 CR15.1 Sf_b12
  have Sf_b13 := Safe.keep K17 hs17 CR15.1 Sf_b13
  have CR17 := CR15.trans (CHr.keep K17 hs17 CR15.1)
  have V_a1 := V_a1.keep K17 (ninS (own_ne_a1_b12) nin0)
  have O_ := O_.keep K17 (allS g_b12 all0)
  have E_b12 := E_b12.keep K17
  have V_b13 := V_b13.keep K17 (ninS (own_ne_b13_b12) nin0)
  have hk17 := Nat.le_trans hk15 K17.1
  have Z17 : n0 ≤ T17.heap.size := Nat.le_trans Z15 K17.1
  have K17k := K15.trans K17 (allS (Or.inr sz_b12) all0)
  have F_value_b12 := Fv17
  have F_coder_b12 := Fc17
  show Gl p.tables e below PP (T17.setTop (mkF m 64 #[.val (.ref a1), .val (.int pn)] [(.ref b12)]))
  rw [hPP]
  refine own_finAW (Q := (Q9 Z a1 pn xs cs h0 n0)) (Z := Z) (EL := own_EL) X17 hx hlk hS0 hk17 Bd.returns rfl rfl (hb hby d9_64) ?_ (by rw [hh]; exact CR17.trans (CHv.at X17 hZ0 hEL CR17.1)) (by decide) (by decide)
  show Q9 Z a1 pn xs cs h0 n0 _ T17.heap _
  refine ⟨b12, tv17, _, [(xs.getD 0 0), (xs.getD 1 0)], ?_, rfl, N17, K17k, sz_b12, E_b12, F_value_b12, F_coder_b12, Kt17⟩
  rw [hc11, own_i2]; exact own_tk2 hlen
  refine Y.icmpYes X0 hx (pc0 := 39) (pc' := 65) rfl (hb hby d9_39) rfl (feq hc11).2 (by decide) (by decide) ?_
  refine Y.iloadN X0 hx (hb hby d9_65) rfl ?_
  refine Y.iconst X0 hx (hb hby d9_66) ?_
  by_cases hc18 : pn = (3 : Int32)
  refine Y.icmpNo X0 hx (hb hby d9_67) rfl (teq hc18).2 ?_
  obtain ⟨T19, h19, X19, e19, E19, A19, D19, -, st19⟩ := newO X0 hx hZ0 hown0 (W 55 rfl) (W 3 rfl) (W 2 rfl) e0 (g := (mkF m 70 #[.val (.ref a1), .val (.int pn)] [])) rfl (hb hby d9_70) (by decide) (by decide)
  obtain ⟨b19, g19⟩ : ∃ z, z = h0.size := ⟨_, rfl⟩
  rw [← g19] at A19 D19 st19
  refine Gl.pre (fun _ k => st19 _ k) ?_
  have own_ne_a1_b19 : a1 ≠ b19 := by have q := V_a1.lt; rw [g19]; exact Nat.ne_of_lt q
  have own_ne_b19_a1 : b19 ≠ a1 := own_ne_a1_b19.symm
  have g_b19 : n0 ≤ b19 := Nat.le_trans Z0 (Nat.le_of_eq g19.symm)
  have sz_b19 : h0.size ≤ b19 := Nat.le_trans K0.1 (Nat.le_of_eq g19.symm)
  have Sf_b19 := Safe.ext E19 CR0.1 (Safe.new (Z := Z) (EL := own_EL) (vm := s.vm) (Nat.le_of_eq g19.symm))
  have CR19 := CR0.trans (CHr.ext E19 CR0.1)
  have V_a1 := V_a1.ext E19
  have O_ := O_.ext E19
  have Z19 : n0 ≤ h19.size := Nat.le_trans Z0 E19.1
  have hk19 := Nat.le_trans hk0 E19.1
  have K19 := K0.ext E19
  have E_b19 := A19
  have F_value_b19 : Fld Z h19 b19 "java/lang/String" "value" "[B" .null := D19 (Or.inr (W 5 rfl)) (ty := (.array .byte)) (by decide)
  have F_coder_b19 : Fld Z h19 b19 "java/lang/String" "coder" "B" (.int (0 : Int32)) := D19 (Or.inr (W 6 rfl)) (ty := .byte) (by decide)
  refine Y.dup X19 hx (hb hby d9_73) rfl rfl ?_
  refine Y.iconst X19 hx (hb hby d9_74) ?_
  obtain ⟨T20, h20, k20, X20, e20, E20, A20, st20⟩ := newP X19 hx hZ0 (W 25 rfl) e19 (g := (mkF m 75 #[.val (.ref a1), .val (.int pn)] [(.int (3 : Int32)), (.ref b19), (.ref b19)])) rfl (hb hby d9_75) rfl (by decide) (cap := 3) (by decide) (by decide) (by decide) (by decide)
  obtain ⟨b20, g20⟩ : ∃ z, z = h19.size := ⟨_, rfl⟩
  rw [← g20] at A20 st20
  refine Gl.pre (fun _ k => st20 _ k) ?_
  have own_ne_a1_b20 : a1 ≠ b20 := by have q := V_a1.lt; rw [g20]; exact Nat.ne_of_lt q
  have own_ne_b20_a1 : b20 ≠ a1 := own_ne_a1_b20.symm
  have own_ne_b19_b20 : b19 ≠ b20 := by have q := E_b19.lt; rw [g20]; exact Nat.ne_of_lt q
  have own_ne_b20_b19 : b20 ≠ b19 := own_ne_b19_b20.symm
  have g_b20 : n0 ≤ b20 := Nat.le_trans Z19 (Nat.le_of_eq g20.symm)
  have sz_b20 : h0.size ≤ b20 := Nat.le_trans K19.1 (Nat.le_of_eq g20.symm)
  have Sf_b20 := Safe.ext E20 CR19.1 (Safe.new (Z := Z) (EL := own_EL) (vm := s.vm) (Nat.le_of_eq g20.symm))
  have Sf_b19 := Safe.ext E20 CR19.1 Sf_b19
  have CR20 := CR19.trans (CHr.ext E20 CR19.1)
  have V_a1 := V_a1.ext E20
  have O_ := O_.ext E20
  have E_b19 := E_b19.ext E20
  have F_value_b19 := F_value_b19.ext E20
  have F_coder_b19 := F_coder_b19.ext E20
  have Z20 : n0 ≤ h20.size := Nat.le_trans Z19 E20.1
  have hk20 := Nat.le_trans hk19 E20.1
  have K20 := K19.ext E20
  have V_b20 : Bal Z h20 b20 .char [(0 : Int32), (0 : Int32), (0 : Int32)] := Bal.new (ty := .char) A20 (n := 3) (by decide) rfl
  refine Y.dup X20 hx (hb hby d9_77) rfl rfl ?_
  refine Y.iconst X20 hx (hb hby d9_78) ?_
  refine Y.aloadN X20 hx (hb hby d9_79) rfl rfl ?_
  refine Y.iconst X20 hx (hb hby d9_80) ?_
  refine Gl.pre (fun _ k => own_ldC X20 hx hZ0 e20 V_a1 (j := (0 : Int32)) (i := 0) (by decide) (by decide) (by rw [hlen]; decide) (v := (xs.getD 0 0)) rfl (g := (mkF m 81 #[.val (.ref a1), .val (.int pn)] [(.int (0 : Int32)), (.ref a1), (.int (0 : Int32)), (.ref b20), (.ref b20), (.ref b19), (.ref b19)])) rfl rfl (hb hby d9_81) _ k) ?_
  obtain ⟨T21, h21, X21, e21, W21, V21, st21⟩ := own_stC X20 hx hZ0 e20 V_b20 (j := (0 : Int32)) (i := 0) (by decide) (by decide) (Nat.lt_of_lt_of_eq (by decide : 0 < 3) rfl) (g := (mkF m 82 #[.val (.ref a1), .val (.int pn)] [(.int (xs.getD 0 0)), (.int (0 : Int32)), (.ref b20), (.ref b20), (.ref b19), (.ref b19)])) rfl rfl (hb hby d9_82)
  refine Gl.pre (fun _ k => st21 _ k) ?_
  have Sf_b19 := Safe.wr W21 Sf_b20 CR20.1 Sf_b19
  have CR21 := CR20.trans (CHr.wr W21 Sf_b20 CR20.1)
  have Sf_b20 := Safe.wr W21 Sf_b20 CR20.1 Sf_b20
  have V_a1 := V_a1.other W21 (own_ne_a1_b20)
  have O_ := O_.wr W21 g_b20
  have E_b19 := E_b19.wr W21
  have F_value_b19 := F_value_b19.other W21 (Or.inl (own_ne_b19_b20))
  have F_coder_b19 := F_coder_b19.other W21 (Or.inl (own_ne_b19_b20))
  have Z21 : n0 ≤ h21.size := by rw [W21.size]; exact Z20
  have hk21 := Nat.le_trans hk20 (Nat.le_of_eq W21.size.symm)
  have N21 := Fr.snoc X21 N0 g_b20
  have K21 := K20.wr W21 (Or.inr sz_b20)
  have V_b20 : Bal Z h21 b20 .char [(nar .char (xs.getD 0 0)), (0 : Int32), (0 : Int32)] := V21
  refine Y.dup X21 hx (hb hby d9_83) rfl rfl ?_
  refine Y.iconst X21 hx (hb hby d9_84) ?_
  refine Y.aloadN X21 hx (hb hby d9_85) rfl rfl ?_
  refine Y.iconst X21 hx (hb hby d9_86) ?_
  refine Gl.pre (fun _ k => own_ldC X21 hx hZ0 e21 V_a1 (j := (1 : Int32)) (i := 1) (by decide) (by decide) (by rw [hlen]; decide) (v := (xs.getD 1 0)) rfl (g := (mkF m 87 #[.val (.ref a1), .val (.int pn)] [(.int (1 : Int32)), (.ref a1), (.int (1 : Int32)), (.ref b20), (.ref b20), (.ref b19), (.ref b19)])) rfl rfl (hb hby d9_87) _ k) ?_
  obtain ⟨T22, h22, X22, e22, W22, V22, st22⟩ := own_stC X21 hx hZ0 e21 V_b20 (j := (1 : Int32)) (i := 1) (by decide) (by decide) (Nat.lt_of_lt_of_eq (by decide : 1 < 3) rfl) (g := (mkF m 88 #[.val (.ref a1), .val (.int pn)] [(.int (xs.getD 1 0)), (.int (1 : Int32)), (.ref b20), (.ref b20), (.ref b19), (.ref b19)])) rfl rfl (hb hby d9_88)
  refine Gl.pre (fun _ k => st22 _ k) ?_
  have Sf_b19 := Safe.wr W22 Sf_b20 CR21.1 Sf_b19
  have CR22 := CR21.trans (CHr.wr W22 Sf_b20 CR21.1)
  have Sf_b20 := Safe.wr W22 Sf_b20 CR21.1 Sf_b20
  have V_a1 := V_a1.other W22 (own_ne_a1_b20)
  have O_ := O_.wr W22 g_b20
  have E_b19 := E_b19.wr W22
  have F_value_b19 := F_value_b19.other W22 (Or.inl (own_ne_b19_b20))
  have F_coder_b19 := F_coder_b19.other W22 (Or.inl (own_ne_b19_b20))
  have Z22 : n0 ≤ h22.size := by rw [W22.size]; exact Z21
  have hk22 := Nat.le_trans hk21 (Nat.le_of_eq W22.size.symm)
  have N22 := Fr.snoc X22 N21 g_b20
  have K22 := K21.wr W22 (Or.inr sz_b20)
  have V_b20 : Bal Z h22 b20 .char [(nar .char (xs.getD 0 0)), (nar .char (xs.getD 1 0)), (0 : Int32)] := V22
  refine Y.dup X22 hx (hb hby d9_89) rfl rfl ?_
  refine Y.iconst X22 hx (hb hby d9_90) ?_
  refine Y.aloadN X22 hx (hb hby d9_91) rfl rfl ?_
  refine Y.iconst X22 hx (hb hby d9_92) ?_
  refine Gl.pre (fun _ k => own_ldC X22 hx hZ0 e22 V_a1 (j := (2 : Int32)) (i := 2) (by decide) (by decide) (by rw [hlen]; decide) (v := (xs.getD 2 0)) rfl (g := (mkF m 93 #[.val (.ref a1), .val (.int pn)] [(.int (2 : Int32)), (.ref a1), (.int (2 : Int32)), (.ref b20), (.ref b20), (.ref b19), (.ref b19)])) rfl rfl (hb hby d9_93) _ k) ?_
  obtain ⟨T23, h23, X23, e23, W23, V23, st23⟩ := own_stC X22 hx hZ0 e22 V_b20 (j := (2 : Int32)) (i := 2) (by decide) (by decide) (Nat.lt_of_lt_of_eq (by decide : 2 < 3) rfl) (g := (mkF m 94 #[.val (.ref a1), .val (.int pn)] [(.int (xs.getD 2 0)), (.int (2 : Int32)), (.ref b20), (.ref b20), (.ref b19), (.ref b19)])) rfl rfl (hb hby d9_94)
  refine Gl.pre (fun _ k => st23 _ k) ?_
  have Sf_b19 := Safe.wr W23 Sf_b20 CR22.1 Sf_b19
  have CR23 := CR22.trans (CHr.wr W23 Sf_b20 CR22.1)
  have Sf_b20 := Safe.wr W23 Sf_b20 CR22.1 Sf_b20
  have V_a1 := V_a1.other W23 (own_ne_a1_b20)
  have O_ := O_.wr W23 g_b20
  have E_b19 := E_b19.wr W23
  have F_value_b19 := F_value_b19.other W23 (Or.inl (own_ne_b19_b20))
  have F_coder_b19 := F_coder_b19.other W23 (Or.inl (own_ne_b19_b20))
  have Z23 : n0 ≤ h23.size := by rw [W23.size]; exact Z22
  have hk23 := Nat.le_trans hk22 (Nat.le_of_eq W23.size.symm)
  have N23 := Fr.snoc X23 N22 g_b20
  have K23 := K22.wr W23 (Or.inr sz_b20)
  have V_b20 : Bal Z h23 b20 .char [(nar .char (xs.getD 0 0)), (nar .char (xs.getD 1 0)), (nar .char (xs.getD 2 0))] := V23
  have VC24 : Bal Z h23 b20 .char [(xs.getD 0 0), (xs.getD 1 0), (xs.getD 2 0)] := by have q := V_b20; rw [own_nc (own_gr hxs 0), own_nc (own_gr hxs 1), own_nc (own_gr hxs 2)] at q; exact q
  obtain ⟨kc24, KC24⟩ := own_arvC VC24 (by intro x hx; simp only [List.mem_cons, List.not_mem_nil, or_false] at hx; rcases hx with rfl | rfl | rfl <;> exact own_fitc (own_gr hxs _)) (by simp only [List.length_cons, List.length_nil]; decide)
  have hp24 : ∀ c ∈ [(xs.getD 0 0), (xs.getD 1 0), (xs.getD 2 0)], ¬ c < 0 ∧ ¬ (255 : Int32) < c := by intro x hx; simp only [List.mem_cons, List.not_mem_nil, or_false] at hx; rcases hx with rfl | rfl | rfl <;> exact own_gr hxs _
  obtain ⟨_, _, ⟨T25, L25, k25, n25⟩, -, X25, ⟨Lc25, hQ25, l25, y25, z25⟩, st25⟩ := X23.specialBack hx (y := (⟨"java/lang/String", "<init>", "([C)V"⟩ : MethodName)) rfl hown0 (mvT hZ0 (W 56 rfl)) (mvT hZ0 (W 57 rfl)) (mvT hZ0 (W 58 rfl)) (by decide) (StrChars.Road.backV (W := 1) hZ0 hwwords (kI := 4) (W 3 rfl) (cs := [(xs.getD 0 0), (xs.getD 1 0), (xs.getD 2 0)]) (n := 3) g_b19 Z23 E_b19 F_value_b19 F_coder_b19 KC24 (SBC.ext O_.2) hcs (by first | rfl | simp) (by first | rfl | simp) (by decide) (by decide) hp24 rfl (by decide) (by decide)) (g := (mkF m 95 #[.val (.ref a1), .val (.int pn)] [(.ref b20), (.ref b19), (.ref b19)])) rfl (by rw [hml]; rfl) (Steps.refl _) (a := b19) (argsL := [(.ref b20)]) (rest := [(.ref b19)]) (lenOf pd_3 rfl) rfl (by show 2 * 0 + _ ≤ _; exact Nat.le_of_eq rfl) (hb hby d9_95) (fun _ _ => ⟨rfl, e23, (by decide : 2 + 1 ≤ _), (by decide : 7 + 3 ≤ _)⟩)
  dsimp only [Pt.U, Pt.locs, Pt.cells, Pt.slots] at X25 l25 y25 z25 st25 hQ25
  subst l25 y25 z25
  obtain ⟨rfl, N25q, K25, Ex25, Fc25, tv25, kt25, -, hz25, hnx25, Fv25, Kt25⟩ := hQ25
  have N25 := Fr.app N23 N25q
  refine Gl.pre (fun _ k => st25.trans k) ?_
  have own_ne_a1_tv25 : a1 ≠ tv25 := Nat.ne_of_lt (Nat.lt_of_lt_of_le V_a1.lt hz25)
  have own_ne_tv25_a1 := own_ne_a1_tv25.symm
  have own_ne_b19_tv25 : b19 ≠ tv25 := Nat.ne_of_lt (Nat.lt_of_lt_of_le E_b19.lt hz25)
  have own_ne_tv25_b19 := own_ne_b19_tv25.symm
  have own_ne_b20_tv25 : b20 ≠ tv25 := Nat.ne_of_lt (Nat.lt_of_lt_of_le V_b20.lt hz25)
  have own_ne_tv25_b20 := own_ne_b20_tv25.symm
  have g_tv25 : n0 ≤ tv25 := Nat.le_trans Z23 hz25
  have sz_tv25 : h0.size ≤ tv25 := Nat.le_trans K23.1 hz25
  have Sf_tv250 := Safe.new (Z := Z) (EL := own_EL) (vm := s.vm) hz25
  have hs25 : ∀ x ∈ [b19], Safe Z own_EL _ _ x := (allS Sf_b19 all0)
  have Sf_b19 := Safe.keep K25 hs25 CR23.1 Sf_b19
  have Sf_b20 := Safe.keep K25 hs25 CR23.1 Sf_b20
  have CR25 := CR23.trans (CHr.keep K25 hs25 CR23.1)
  have V_a1 := V_a1.keep K25 (ninS (own_ne_a1_b19) nin0)
  have O_ := O_.keep K25 (allS g_b19 all0)
  have E_b19 := E_b19.keep K25
  have V_b20 := V_b20.keep K25 (ninS (own_ne_b20_b19) nin0)
  have hk25 := Nat.le_trans hk23 K25.1
  have Z25 : n0 ≤ T25.heap.size := Nat.le_trans Z23 K25.1
  have K25k := K23.trans K25 (allS (Or.inr sz_b19) all0)
  have F_value_b19 := Fv25
  have F_coder_b19 := Fc25
  show Gl p.tables e below PP (T25.setTop (mkF m 98 #[.val (.ref a1), .val (.int pn)] [(.ref b19)]))
  rw [hPP]
  refine own_finAW (Q := (Q9 Z a1 pn xs cs h0 n0)) (Z := Z) (EL := own_EL) X25 hx hlk hS0 hk25 Bd.returns rfl rfl (hb hby d9_98) ?_ (by rw [hh]; exact CR25.trans (CHv.at X25 hZ0 hEL CR25.1)) (by decide) (by decide)
  show Q9 Z a1 pn xs cs h0 n0 _ T25.heap _
  refine ⟨b19, tv25, _, [(xs.getD 0 0), (xs.getD 1 0), (xs.getD 2 0)], ?_, rfl, N25, K25k, sz_b19, E_b19, F_value_b19, F_coder_b19, Kt25⟩
  rw [hc18, own_i3]; exact own_tk3 hlen
  refine Y.icmpYes X0 hx (pc0 := 67) (pc' := 99) rfl (hb hby d9_67) rfl (feq hc18).2 (by decide) (by decide) ?_
  refine Y.iloadN X0 hx (hb hby d9_99) rfl ?_
  refine Y.iconst X0 hx (hb hby d9_100) ?_
  by_cases hc26 : pn = (4 : Int32)
  refine Y.icmpNo X0 hx (hb hby d9_101) rfl (teq hc26).2 ?_
  obtain ⟨T27, h27, X27, e27, E27, A27, D27, -, st27⟩ := newO X0 hx hZ0 hown0 (W 55 rfl) (W 3 rfl) (W 2 rfl) e0 (g := (mkF m 104 #[.val (.ref a1), .val (.int pn)] [])) rfl (hb hby d9_104) (by decide) (by decide)
  obtain ⟨b27, g27⟩ : ∃ z, z = h0.size := ⟨_, rfl⟩
  rw [← g27] at A27 D27 st27
  refine Gl.pre (fun _ k => st27 _ k) ?_
  have own_ne_a1_b27 : a1 ≠ b27 := by have q := V_a1.lt; rw [g27]; exact Nat.ne_of_lt q
  have own_ne_b27_a1 : b27 ≠ a1 := own_ne_a1_b27.symm
  have g_b27 : n0 ≤ b27 := Nat.le_trans Z0 (Nat.le_of_eq g27.symm)
  have sz_b27 : h0.size ≤ b27 := Nat.le_trans K0.1 (Nat.le_of_eq g27.symm)
  have Sf_b27 := Safe.ext E27 CR0.1 (Safe.new (Z := Z) (EL := own_EL) (vm := s.vm) (Nat.le_of_eq g27.symm))
  have CR27 := CR0.trans (CHr.ext E27 CR0.1)
  have V_a1 := V_a1.ext E27
  have O_ := O_.ext E27
  have Z27 : n0 ≤ h27.size := Nat.le_trans Z0 E27.1
  have hk27 := Nat.le_trans hk0 E27.1
  have K27 := K0.ext E27
  have E_b27 := A27
  have F_value_b27 : Fld Z h27 b27 "java/lang/String" "value" "[B" .null := D27 (Or.inr (W 5 rfl)) (ty := (.array .byte)) (by decide)
  have F_coder_b27 : Fld Z h27 b27 "java/lang/String" "coder" "B" (.int (0 : Int32)) := D27 (Or.inr (W 6 rfl)) (ty := .byte) (by decide)
  refine Y.dup X27 hx (hb hby d9_107) rfl rfl ?_
  refine Y.iconst X27 hx (hb hby d9_108) ?_
  obtain ⟨T28, h28, k28, X28, e28, E28, A28, st28⟩ := newP X27 hx hZ0 (W 25 rfl) e27 (g := (mkF m 109 #[.val (.ref a1), .val (.int pn)] [(.int (4 : Int32)), (.ref b27), (.ref b27)])) rfl (hb hby d9_109) rfl (by decide) (cap := 4) (by decide) (by decide) (by decide) (by decide)
  obtain ⟨b28, g28⟩ : ∃ z, z = h27.size := ⟨_, rfl⟩
  rw [← g28] at A28 st28
  refine Gl.pre (fun _ k => st28 _ k) ?_
  have own_ne_a1_b28 : a1 ≠ b28 := by have q := V_a1.lt; rw [g28]; exact Nat.ne_of_lt q
  have own_ne_b28_a1 : b28 ≠ a1 := own_ne_a1_b28.symm
  have own_ne_b27_b28 : b27 ≠ b28 := by have q := E_b27.lt; rw [g28]; exact Nat.ne_of_lt q
  have own_ne_b28_b27 : b28 ≠ b27 := own_ne_b27_b28.symm
  have g_b28 : n0 ≤ b28 := Nat.le_trans Z27 (Nat.le_of_eq g28.symm)
  have sz_b28 : h0.size ≤ b28 := Nat.le_trans K27.1 (Nat.le_of_eq g28.symm)
  have Sf_b28 := Safe.ext E28 CR27.1 (Safe.new (Z := Z) (EL := own_EL) (vm := s.vm) (Nat.le_of_eq g28.symm))
  have Sf_b27 := Safe.ext E28 CR27.1 Sf_b27
  have CR28 := CR27.trans (CHr.ext E28 CR27.1)
  have V_a1 := V_a1.ext E28
  have O_ := O_.ext E28
  have E_b27 := E_b27.ext E28
  have F_value_b27 := F_value_b27.ext E28
  have F_coder_b27 := F_coder_b27.ext E28
  have Z28 : n0 ≤ h28.size := Nat.le_trans Z27 E28.1
  have hk28 := Nat.le_trans hk27 E28.1
  have K28 := K27.ext E28
  have V_b28 : Bal Z h28 b28 .char [(0 : Int32), (0 : Int32), (0 : Int32), (0 : Int32)] := Bal.new (ty := .char) A28 (n := 4) (by decide) rfl
  refine Y.dup X28 hx (hb hby d9_111) rfl rfl ?_
  refine Y.iconst X28 hx (hb hby d9_112) ?_
  refine Y.aloadN X28 hx (hb hby d9_113) rfl rfl ?_
  refine Y.iconst X28 hx (hb hby d9_114) ?_
  refine Gl.pre (fun _ k => own_ldC X28 hx hZ0 e28 V_a1 (j := (0 : Int32)) (i := 0) (by decide) (by decide) (by rw [hlen]; decide) (v := (xs.getD 0 0)) rfl (g := (mkF m 115 #[.val (.ref a1), .val (.int pn)] [(.int (0 : Int32)), (.ref a1), (.int (0 : Int32)), (.ref b28), (.ref b28), (.ref b27), (.ref b27)])) rfl rfl (hb hby d9_115) _ k) ?_
  obtain ⟨T29, h29, X29, e29, W29, V29, st29⟩ := own_stC X28 hx hZ0 e28 V_b28 (j := (0 : Int32)) (i := 0) (by decide) (by decide) (Nat.lt_of_lt_of_eq (by decide : 0 < 4) rfl) (g := (mkF m 116 #[.val (.ref a1), .val (.int pn)] [(.int (xs.getD 0 0)), (.int (0 : Int32)), (.ref b28), (.ref b28), (.ref b27), (.ref b27)])) rfl rfl (hb hby d9_116)
  refine Gl.pre (fun _ k => st29 _ k) ?_
  have Sf_b27 := Safe.wr W29 Sf_b28 CR28.1 Sf_b27
  have CR29 := CR28.trans (CHr.wr W29 Sf_b28 CR28.1)
  have Sf_b28 := Safe.wr W29 Sf_b28 CR28.1 Sf_b28
  have V_a1 := V_a1.other W29 (own_ne_a1_b28)
  have O_ := O_.wr W29 g_b28
  have E_b27 := E_b27.wr W29
  have F_value_b27 := F_value_b27.other W29 (Or.inl (own_ne_b27_b28))
  have F_coder_b27 := F_coder_b27.other W29 (Or.inl (own_ne_b27_b28))
  have Z29 : n0 ≤ h29.size := by rw [W29.size]; exact Z28
  have hk29 := Nat.le_trans hk28 (Nat.le_of_eq W29.size.symm)
  have N29 := Fr.snoc X29 N0 g_b28
  have K29 := K28.wr W29 (Or.inr sz_b28)
  have V_b28 : Bal Z h29 b28 .char [(nar .char (xs.getD 0 0)), (0 : Int32), (0 : Int32), (0 : Int32)] := V29
  refine Y.dup X29 hx (hb hby d9_117) rfl rfl ?_
  refine Y.iconst X29 hx (hb hby d9_118) ?_
  refine Y.aloadN X29 hx (hb hby d9_119) rfl rfl ?_
  refine Y.iconst X29 hx (hb hby d9_120) ?_
  refine Gl.pre (fun _ k => own_ldC X29 hx hZ0 e29 V_a1 (j := (1 : Int32)) (i := 1) (by decide) (by decide) (by rw [hlen]; decide) (v := (xs.getD 1 0)) rfl (g := (mkF m 121 #[.val (.ref a1), .val (.int pn)] [(.int (1 : Int32)), (.ref a1), (.int (1 : Int32)), (.ref b28), (.ref b28), (.ref b27), (.ref b27)])) rfl rfl (hb hby d9_121) _ k) ?_
  obtain ⟨T30, h30, X30, e30, W30, V30, st30⟩ := own_stC X29 hx hZ0 e29 V_b28 (j := (1 : Int32)) (i := 1) (by decide) (by decide) (Nat.lt_of_lt_of_eq (by decide : 1 < 4) rfl) (g := (mkF m 122 #[.val (.ref a1), .val (.int pn)] [(.int (xs.getD 1 0)), (.int (1 : Int32)), (.ref b28), (.ref b28), (.ref b27), (.ref b27)])) rfl rfl (hb hby d9_122)
  refine Gl.pre (fun _ k => st30 _ k) ?_
  have Sf_b27 := Safe.wr W30 Sf_b28 CR29.1 Sf_b27
  have CR30 := CR29.trans (CHr.wr W30 Sf_b28 CR29.1)
  have Sf_b28 := Safe.wr W30 Sf_b28 CR29.1 Sf_b28
  have V_a1 := V_a1.other W30 (own_ne_a1_b28)
  have O_ := O_.wr W30 g_b28
  have E_b27 := E_b27.wr W30
  have F_value_b27 := F_value_b27.other W30 (Or.inl (own_ne_b27_b28))
  have F_coder_b27 := F_coder_b27.other W30 (Or.inl (own_ne_b27_b28))
  have Z30 : n0 ≤ h30.size := by rw [W30.size]; exact Z29
  have hk30 := Nat.le_trans hk29 (Nat.le_of_eq W30.size.symm)
  have N30 := Fr.snoc X30 N29 g_b28
  have K30 := K29.wr W30 (Or.inr sz_b28)
  have V_b28 : Bal Z h30 b28 .char [(nar .char (xs.getD 0 0)), (nar .char (xs.getD 1 0)), (0 : Int32), (0 : Int32)] := V30
  refine Y.dup X30 hx (hb hby d9_123) rfl rfl ?_
  refine Y.iconst X30 hx (hb hby d9_124) ?_
  refine Y.aloadN X30 hx (hb hby d9_125) rfl rfl ?_
  refine Y.iconst X30 hx (hb hby d9_126) ?_
  refine Gl.pre (fun _ k => own_ldC X30 hx hZ0 e30 V_a1 (j := (2 : Int32)) (i := 2) (by decide) (by decide) (by rw [hlen]; decide) (v := (xs.getD 2 0)) rfl (g := (mkF m 127 #[.val (.ref a1), .val (.int pn)] [(.int (2 : Int32)), (.ref a1), (.int (2 : Int32)), (.ref b28), (.ref b28), (.ref b27), (.ref b27)])) rfl rfl (hb hby d9_127) _ k) ?_
  obtain ⟨T31, h31, X31, e31, W31, V31, st31⟩ := own_stC X30 hx hZ0 e30 V_b28 (j := (2 : Int32)) (i := 2) (by decide) (by decide) (Nat.lt_of_lt_of_eq (by decide : 2 < 4) rfl) (g := (mkF m 128 #[.val (.ref a1), .val (.int pn)] [(.int (xs.getD 2 0)), (.int (2 : Int32)), (.ref b28), (.ref b28), (.ref b27), (.ref b27)])) rfl rfl (hb hby d9_128)
  refine Gl.pre (fun _ k => st31 _ k) ?_
  have Sf_b27 := Safe.wr W31 Sf_b28 CR30.1 Sf_b27
  have CR31 := CR30.trans (CHr.wr W31 Sf_b28 CR30.1)
  have Sf_b28 := Safe.wr W31 Sf_b28 CR30.1 Sf_b28
  have V_a1 := V_a1.other W31 (own_ne_a1_b28)
  have O_ := O_.wr W31 g_b28
  have E_b27 := E_b27.wr W31
  have F_value_b27 := F_value_b27.other W31 (Or.inl (own_ne_b27_b28))
  have F_coder_b27 := F_coder_b27.other W31 (Or.inl (own_ne_b27_b28))
  have Z31 : n0 ≤ h31.size := by rw [W31.size]; exact Z30
  have hk31 := Nat.le_trans hk30 (Nat.le_of_eq W31.size.symm)
  have N31 := Fr.snoc X31 N30 g_b28
  have K31 := K30.wr W31 (Or.inr sz_b28)
  have V_b28 : Bal Z h31 b28 .char [(nar .char (xs.getD 0 0)), (nar .char (xs.getD 1 0)), (nar .char (xs.getD 2 0)), (0 : Int32)] := V31
  refine Y.dup X31 hx (hb hby d9_129) rfl rfl ?_
  refine Y.iconst X31 hx (hb hby d9_130) ?_
  refine Y.aloadN X31 hx (hb hby d9_131) rfl rfl ?_
  refine Y.iconst X31 hx (hb hby d9_132) ?_
  refine Gl.pre (fun _ k => own_ldC X31 hx hZ0 e31 V_a1 (j := (3 : Int32)) (i := 3) (by decide) (by decide) (by rw [hlen]; decide) (v := (xs.getD 3 0)) rfl (g := (mkF m 133 #[.val (.ref a1), .val (.int pn)] [(.int (3 : Int32)), (.ref a1), (.int (3 : Int32)), (.ref b28), (.ref b28), (.ref b27), (.ref b27)])) rfl rfl (hb hby d9_133) _ k) ?_
  obtain ⟨T32, h32, X32, e32, W32, V32, st32⟩ := own_stC X31 hx hZ0 e31 V_b28 (j := (3 : Int32)) (i := 3) (by decide) (by decide) (Nat.lt_of_lt_of_eq (by decide : 3 < 4) rfl) (g := (mkF m 134 #[.val (.ref a1), .val (.int pn)] [(.int (xs.getD 3 0)), (.int (3 : Int32)), (.ref b28), (.ref b28), (.ref b27), (.ref b27)])) rfl rfl (hb hby d9_134)
  refine Gl.pre (fun _ k => st32 _ k) ?_
  have Sf_b27 := Safe.wr W32 Sf_b28 CR31.1 Sf_b27
  have CR32 := CR31.trans (CHr.wr W32 Sf_b28 CR31.1)
  have Sf_b28 := Safe.wr W32 Sf_b28 CR31.1 Sf_b28
  have V_a1 := V_a1.other W32 (own_ne_a1_b28)
  have O_ := O_.wr W32 g_b28
  have E_b27 := E_b27.wr W32
  have F_value_b27 := F_value_b27.other W32 (Or.inl (own_ne_b27_b28))
  have F_coder_b27 := F_coder_b27.other W32 (Or.inl (own_ne_b27_b28))
  have Z32 : n0 ≤ h32.size := by rw [W32.size]; exact Z31
  have hk32 := Nat.le_trans hk31 (Nat.le_of_eq W32.size.symm)
  have N32 := Fr.snoc X32 N31 g_b28
  have K32 := K31.wr W32 (Or.inr sz_b28)
  have V_b28 : Bal Z h32 b28 .char [(nar .char (xs.getD 0 0)), (nar .char (xs.getD 1 0)), (nar .char (xs.getD 2 0)), (nar .char (xs.getD 3 0))] := V32
  have VC33 : Bal Z h32 b28 .char [(xs.getD 0 0), (xs.getD 1 0), (xs.getD 2 0), (xs.getD 3 0)] := by have q := V_b28; rw [own_nc (own_gr hxs 0), own_nc (own_gr hxs 1), own_nc (own_gr hxs 2), own_nc (own_gr hxs 3)] at q; exact q
  obtain ⟨kc33, KC33⟩ := own_arvC VC33 (by intro x hx; simp only [List.mem_cons, List.not_mem_nil, or_false] at hx; rcases hx with rfl | rfl | rfl | rfl <;> exact own_fitc (own_gr hxs _)) (by simp only [List.length_cons, List.length_nil]; decide)
  have hp33 : ∀ c ∈ [(xs.getD 0 0), (xs.getD 1 0), (xs.getD 2 0), (xs.getD 3 0)], ¬ c < 0 ∧ ¬ (255 : Int32) < c := by intro x hx; simp only [List.mem_cons, List.not_mem_nil, or_false] at hx; rcases hx with rfl | rfl | rfl | rfl <;> exact own_gr hxs _
  obtain ⟨_, _, ⟨T34, L34, k34, n34⟩, -, X34, ⟨Lc34, hQ34, l34, y34, z34⟩, st34⟩ := X32.specialBack hx (y := (⟨"java/lang/String", "<init>", "([C)V"⟩ : MethodName)) rfl hown0 (mvT hZ0 (W 56 rfl)) (mvT hZ0 (W 57 rfl)) (mvT hZ0 (W 58 rfl)) (by decide) (StrChars.Road.backV (W := 1) hZ0 hwwords (kI := 4) (W 3 rfl) (cs := [(xs.getD 0 0), (xs.getD 1 0), (xs.getD 2 0), (xs.getD 3 0)]) (n := 4) g_b27 Z32 E_b27 F_value_b27 F_coder_b27 KC33 (SBC.ext O_.2) hcs (by first | rfl | simp) (by first | rfl | simp) (by decide) (by decide) hp33 rfl (by decide) (by decide)) (g := (mkF m 135 #[.val (.ref a1), .val (.int pn)] [(.ref b28), (.ref b27), (.ref b27)])) rfl (by rw [hml]; rfl) (Steps.refl _) (a := b27) (argsL := [(.ref b28)]) (rest := [(.ref b27)]) (lenOf pd_3 rfl) rfl (by show 2 * 0 + _ ≤ _; exact Nat.le_of_eq rfl) (hb hby d9_135) (fun _ _ => ⟨rfl, e32, (by decide : 2 + 1 ≤ _), (by decide : 8 + 4 ≤ _)⟩)
  dsimp only [Pt.U, Pt.locs, Pt.cells, Pt.slots] at X34 l34 y34 z34 st34 hQ34
  subst l34 y34 z34
  obtain ⟨rfl, N34q, K34, Ex34, Fc34, tv34, kt34, -, hz34, hnx34, Fv34, Kt34⟩ := hQ34
  have N34 := Fr.app N32 N34q
  refine Gl.pre (fun _ k => st34.trans k) ?_
  have own_ne_a1_tv34 : a1 ≠ tv34 := Nat.ne_of_lt (Nat.lt_of_lt_of_le V_a1.lt hz34)
  have own_ne_tv34_a1 := own_ne_a1_tv34.symm
  have own_ne_b27_tv34 : b27 ≠ tv34 := Nat.ne_of_lt (Nat.lt_of_lt_of_le E_b27.lt hz34)
  have own_ne_tv34_b27 := own_ne_b27_tv34.symm
  have own_ne_b28_tv34 : b28 ≠ tv34 := Nat.ne_of_lt (Nat.lt_of_lt_of_le V_b28.lt hz34)
  have own_ne_tv34_b28 := own_ne_b28_tv34.symm
  have g_tv34 : n0 ≤ tv34 := Nat.le_trans Z32 hz34
  have sz_tv34 : h0.size ≤ tv34 := Nat.le_trans K32.1 hz34
  have Sf_tv340 := Safe.new (Z := Z) (EL := own_EL) (vm := s.vm) hz34
  have hs34 : ∀ x ∈ [b27], Safe Z own_EL _ _ x := (allS Sf_b27 all0)
  have Sf_b27 := Safe.keep K34 hs34 CR32.1 Sf_b27
  have Sf_b28 := Safe.keep K34 hs34 CR32.1 Sf_b28
  have CR34 := CR32.trans (CHr.keep K34 hs34 CR32.1)
  have V_a1 := V_a1.keep K34 (ninS (own_ne_a1_b27) nin0)
  have O_ := O_.keep K34 (allS g_b27 all0)
  have E_b27 := E_b27.keep K34
  have V_b28 := V_b28.keep K34 (ninS (own_ne_b28_b27) nin0)
  have hk34 := Nat.le_trans hk32 K34.1
  have Z34 : n0 ≤ T34.heap.size := Nat.le_trans Z32 K34.1
  have K34k := K32.trans K34 (allS (Or.inr sz_b27) all0)
  have F_value_b27 := Fv34
  have F_coder_b27 := Fc34
  show Gl p.tables e below PP (T34.setTop (mkF m 138 #[.val (.ref a1), .val (.int pn)] [(.ref b27)]))
  rw [hPP]
  refine own_finAW (Q := (Q9 Z a1 pn xs cs h0 n0)) (Z := Z) (EL := own_EL) X34 hx hlk hS0 hk34 Bd.returns rfl rfl (hb hby d9_138) ?_ (by rw [hh]; exact CR34.trans (CHv.at X34 hZ0 hEL CR34.1)) (by decide) (by decide)
  show Q9 Z a1 pn xs cs h0 n0 _ T34.heap _
  refine ⟨b27, tv34, _, [(xs.getD 0 0), (xs.getD 1 0), (xs.getD 2 0), (xs.getD 3 0)], ?_, rfl, N34, K34k, sz_b27, E_b27, F_value_b27, F_coder_b27, Kt34⟩
  rw [hc26, own_i4]; exact own_tk4 hlen
  refine Y.icmpYes X0 hx (pc0 := 101) (pc' := 139) rfl (hb hby d9_101) rfl (feq hc26).2 (by decide) (by decide) ?_
  refine Y.iloadN X0 hx (hb hby d9_139) rfl ?_
  refine Y.iconst X0 hx (hb hby d9_140) ?_
  by_cases hc35 : pn = (5 : Int32)
  refine Y.icmpNo X0 hx (hb hby d9_141) rfl (teq hc35).2 ?_
  obtain ⟨T36, h36, X36, e36, E36, A36, D36, -, st36⟩ := newO X0 hx hZ0 hown0 (W 55 rfl) (W 3 rfl) (W 2 rfl) e0 (g := (mkF m 144 #[.val (.ref a1), .val (.int pn)] [])) rfl (hb hby d9_144) (by decide) (by decide)
  obtain ⟨b36, g36⟩ : ∃ z, z = h0.size := ⟨_, rfl⟩
  rw [← g36] at A36 D36 st36
  refine Gl.pre (fun _ k => st36 _ k) ?_
  have own_ne_a1_b36 : a1 ≠ b36 := by have q := V_a1.lt; rw [g36]; exact Nat.ne_of_lt q
  have own_ne_b36_a1 : b36 ≠ a1 := own_ne_a1_b36.symm
  have g_b36 : n0 ≤ b36 := Nat.le_trans Z0 (Nat.le_of_eq g36.symm)
  have sz_b36 : h0.size ≤ b36 := Nat.le_trans K0.1 (Nat.le_of_eq g36.symm)
  have Sf_b36 := Safe.ext E36 CR0.1 (Safe.new (Z := Z) (EL := own_EL) (vm := s.vm) (Nat.le_of_eq g36.symm))
  have CR36 := CR0.trans (CHr.ext E36 CR0.1)
  have V_a1 := V_a1.ext E36
  have O_ := O_.ext E36
  have Z36 : n0 ≤ h36.size := Nat.le_trans Z0 E36.1
  have hk36 := Nat.le_trans hk0 E36.1
  have K36 := K0.ext E36
  have E_b36 := A36
  have F_value_b36 : Fld Z h36 b36 "java/lang/String" "value" "[B" .null := D36 (Or.inr (W 5 rfl)) (ty := (.array .byte)) (by decide)
  have F_coder_b36 : Fld Z h36 b36 "java/lang/String" "coder" "B" (.int (0 : Int32)) := D36 (Or.inr (W 6 rfl)) (ty := .byte) (by decide)
  refine Y.dup X36 hx (hb hby d9_147) rfl rfl ?_
  refine Y.iconst X36 hx (hb hby d9_148) ?_
  obtain ⟨T37, h37, k37, X37, e37, E37, A37, st37⟩ := newP X36 hx hZ0 (W 25 rfl) e36 (g := (mkF m 149 #[.val (.ref a1), .val (.int pn)] [(.int (5 : Int32)), (.ref b36), (.ref b36)])) rfl (hb hby d9_149) rfl (by decide) (cap := 5) (by decide) (by decide) (by decide) (by decide)
  obtain ⟨b37, g37⟩ : ∃ z, z = h36.size := ⟨_, rfl⟩
  rw [← g37] at A37 st37
  refine Gl.pre (fun _ k => st37 _ k) ?_
  have own_ne_a1_b37 : a1 ≠ b37 := by have q := V_a1.lt; rw [g37]; exact Nat.ne_of_lt q
  have own_ne_b37_a1 : b37 ≠ a1 := own_ne_a1_b37.symm
  have own_ne_b36_b37 : b36 ≠ b37 := by have q := E_b36.lt; rw [g37]; exact Nat.ne_of_lt q
  have own_ne_b37_b36 : b37 ≠ b36 := own_ne_b36_b37.symm
  have g_b37 : n0 ≤ b37 := Nat.le_trans Z36 (Nat.le_of_eq g37.symm)
  have sz_b37 : h0.size ≤ b37 := Nat.le_trans K36.1 (Nat.le_of_eq g37.symm)
  have Sf_b37 := Safe.ext E37 CR36.1 (Safe.new (Z := Z) (EL := own_EL) (vm := s.vm) (Nat.le_of_eq g37.symm))
  have Sf_b36 := Safe.ext E37 CR36.1 Sf_b36
  have CR37 := CR36.trans (CHr.ext E37 CR36.1)
  have V_a1 := V_a1.ext E37
  have O_ := O_.ext E37
  have E_b36 := E_b36.ext E37
  have F_value_b36 := F_value_b36.ext E37
  have F_coder_b36 := F_coder_b36.ext E37
  have Z37 : n0 ≤ h37.size := Nat.le_trans Z36 E37.1
  have hk37 := Nat.le_trans hk36 E37.1
  have K37 := K36.ext E37
  have V_b37 : Bal Z h37 b37 .char [(0 : Int32), (0 : Int32), (0 : Int32), (0 : Int32), (0 : Int32)] := Bal.new (ty := .char) A37 (n := 5) (by decide) rfl
  refine Y.dup X37 hx (hb hby d9_151) rfl rfl ?_
  refine Y.iconst X37 hx (hb hby d9_152) ?_
  refine Y.aloadN X37 hx (hb hby d9_153) rfl rfl ?_
  refine Y.iconst X37 hx (hb hby d9_154) ?_
  refine Gl.pre (fun _ k => own_ldC X37 hx hZ0 e37 V_a1 (j := (0 : Int32)) (i := 0) (by decide) (by decide) (by rw [hlen]; decide) (v := (xs.getD 0 0)) rfl (g := (mkF m 155 #[.val (.ref a1), .val (.int pn)] [(.int (0 : Int32)), (.ref a1), (.int (0 : Int32)), (.ref b37), (.ref b37), (.ref b36), (.ref b36)])) rfl rfl (hb hby d9_155) _ k) ?_
  obtain ⟨T38, h38, X38, e38, W38, V38, st38⟩ := own_stC X37 hx hZ0 e37 V_b37 (j := (0 : Int32)) (i := 0) (by decide) (by decide) (Nat.lt_of_lt_of_eq (by decide : 0 < 5) rfl) (g := (mkF m 156 #[.val (.ref a1), .val (.int pn)] [(.int (xs.getD 0 0)), (.int (0 : Int32)), (.ref b37), (.ref b37), (.ref b36), (.ref b36)])) rfl rfl (hb hby d9_156)
  refine Gl.pre (fun _ k => st38 _ k) ?_
  have Sf_b36 := Safe.wr W38 Sf_b37 CR37.1 Sf_b36
  have CR38 := CR37.trans (CHr.wr W38 Sf_b37 CR37.1)
  have Sf_b37 := Safe.wr W38 Sf_b37 CR37.1 Sf_b37
  have V_a1 := V_a1.other W38 (own_ne_a1_b37)
  have O_ := O_.wr W38 g_b37
  have E_b36 := E_b36.wr W38
  have F_value_b36 := F_value_b36.other W38 (Or.inl (own_ne_b36_b37))
  have F_coder_b36 := F_coder_b36.other W38 (Or.inl (own_ne_b36_b37))
  have Z38 : n0 ≤ h38.size := by rw [W38.size]; exact Z37
  have hk38 := Nat.le_trans hk37 (Nat.le_of_eq W38.size.symm)
  have N38 := Fr.snoc X38 N0 g_b37
  have K38 := K37.wr W38 (Or.inr sz_b37)
  have V_b37 : Bal Z h38 b37 .char [(nar .char (xs.getD 0 0)), (0 : Int32), (0 : Int32), (0 : Int32), (0 : Int32)] := V38
  refine Y.dup X38 hx (hb hby d9_157) rfl rfl ?_
  refine Y.iconst X38 hx (hb hby d9_158) ?_
  refine Y.aloadN X38 hx (hb hby d9_159) rfl rfl ?_
  refine Y.iconst X38 hx (hb hby d9_160) ?_
  refine Gl.pre (fun _ k => own_ldC X38 hx hZ0 e38 V_a1 (j := (1 : Int32)) (i := 1) (by decide) (by decide) (by rw [hlen]; decide) (v := (xs.getD 1 0)) rfl (g := (mkF m 161 #[.val (.ref a1), .val (.int pn)] [(.int (1 : Int32)), (.ref a1), (.int (1 : Int32)), (.ref b37), (.ref b37), (.ref b36), (.ref b36)])) rfl rfl (hb hby d9_161) _ k) ?_
  obtain ⟨T39, h39, X39, e39, W39, V39, st39⟩ := own_stC X38 hx hZ0 e38 V_b37 (j := (1 : Int32)) (i := 1) (by decide) (by decide) (Nat.lt_of_lt_of_eq (by decide : 1 < 5) rfl) (g := (mkF m 162 #[.val (.ref a1), .val (.int pn)] [(.int (xs.getD 1 0)), (.int (1 : Int32)), (.ref b37), (.ref b37), (.ref b36), (.ref b36)])) rfl rfl (hb hby d9_162)
  refine Gl.pre (fun _ k => st39 _ k) ?_
  have Sf_b36 := Safe.wr W39 Sf_b37 CR38.1 Sf_b36
  have CR39 := CR38.trans (CHr.wr W39 Sf_b37 CR38.1)
  have Sf_b37 := Safe.wr W39 Sf_b37 CR38.1 Sf_b37
  have V_a1 := V_a1.other W39 (own_ne_a1_b37)
  have O_ := O_.wr W39 g_b37
  have E_b36 := E_b36.wr W39
  have F_value_b36 := F_value_b36.other W39 (Or.inl (own_ne_b36_b37))
  have F_coder_b36 := F_coder_b36.other W39 (Or.inl (own_ne_b36_b37))
  have Z39 : n0 ≤ h39.size := by rw [W39.size]; exact Z38
  have hk39 := Nat.le_trans hk38 (Nat.le_of_eq W39.size.symm)
  have N39 := Fr.snoc X39 N38 g_b37
  have K39 := K38.wr W39 (Or.inr sz_b37)
  have V_b37 : Bal Z h39 b37 .char [(nar .char (xs.getD 0 0)), (nar .char (xs.getD 1 0)), (0 : Int32), (0 : Int32), (0 : Int32)] := V39
  refine Y.dup X39 hx (hb hby d9_163) rfl rfl ?_
  refine Y.iconst X39 hx (hb hby d9_164) ?_
  refine Y.aloadN X39 hx (hb hby d9_165) rfl rfl ?_
  refine Y.iconst X39 hx (hb hby d9_166) ?_
  refine Gl.pre (fun _ k => own_ldC X39 hx hZ0 e39 V_a1 (j := (2 : Int32)) (i := 2) (by decide) (by decide) (by rw [hlen]; decide) (v := (xs.getD 2 0)) rfl (g := (mkF m 167 #[.val (.ref a1), .val (.int pn)] [(.int (2 : Int32)), (.ref a1), (.int (2 : Int32)), (.ref b37), (.ref b37), (.ref b36), (.ref b36)])) rfl rfl (hb hby d9_167) _ k) ?_
  obtain ⟨T40, h40, X40, e40, W40, V40, st40⟩ := own_stC X39 hx hZ0 e39 V_b37 (j := (2 : Int32)) (i := 2) (by decide) (by decide) (Nat.lt_of_lt_of_eq (by decide : 2 < 5) rfl) (g := (mkF m 168 #[.val (.ref a1), .val (.int pn)] [(.int (xs.getD 2 0)), (.int (2 : Int32)), (.ref b37), (.ref b37), (.ref b36), (.ref b36)])) rfl rfl (hb hby d9_168)
  refine Gl.pre (fun _ k => st40 _ k) ?_
  have Sf_b36 := Safe.wr W40 Sf_b37 CR39.1 Sf_b36
  have CR40 := CR39.trans (CHr.wr W40 Sf_b37 CR39.1)
  have Sf_b37 := Safe.wr W40 Sf_b37 CR39.1 Sf_b37
  have V_a1 := V_a1.other W40 (own_ne_a1_b37)
  have O_ := O_.wr W40 g_b37
  have E_b36 := E_b36.wr W40
  have F_value_b36 := F_value_b36.other W40 (Or.inl (own_ne_b36_b37))
  have F_coder_b36 := F_coder_b36.other W40 (Or.inl (own_ne_b36_b37))
  have Z40 : n0 ≤ h40.size := by rw [W40.size]; exact Z39
  have hk40 := Nat.le_trans hk39 (Nat.le_of_eq W40.size.symm)
  have N40 := Fr.snoc X40 N39 g_b37
  have K40 := K39.wr W40 (Or.inr sz_b37)
  have V_b37 : Bal Z h40 b37 .char [(nar .char (xs.getD 0 0)), (nar .char (xs.getD 1 0)), (nar .char (xs.getD 2 0)), (0 : Int32), (0 : Int32)] := V40
  refine Y.dup X40 hx (hb hby d9_169) rfl rfl ?_
  refine Y.iconst X40 hx (hb hby d9_170) ?_
  refine Y.aloadN X40 hx (hb hby d9_171) rfl rfl ?_
  refine Y.iconst X40 hx (hb hby d9_172) ?_
  refine Gl.pre (fun _ k => own_ldC X40 hx hZ0 e40 V_a1 (j := (3 : Int32)) (i := 3) (by decide) (by decide) (by rw [hlen]; decide) (v := (xs.getD 3 0)) rfl (g := (mkF m 173 #[.val (.ref a1), .val (.int pn)] [(.int (3 : Int32)), (.ref a1), (.int (3 : Int32)), (.ref b37), (.ref b37), (.ref b36), (.ref b36)])) rfl rfl (hb hby d9_173) _ k) ?_
  obtain ⟨T41, h41, X41, e41, W41, V41, st41⟩ := own_stC X40 hx hZ0 e40 V_b37 (j := (3 : Int32)) (i := 3) (by decide) (by decide) (Nat.lt_of_lt_of_eq (by decide : 3 < 5) rfl) (g := (mkF m 174 #[.val (.ref a1), .val (.int pn)] [(.int (xs.getD 3 0)), (.int (3 : Int32)), (.ref b37), (.ref b37), (.ref b36), (.ref b36)])) rfl rfl (hb hby d9_174)
  refine Gl.pre (fun _ k => st41 _ k) ?_
  have Sf_b36 := Safe.wr W41 Sf_b37 CR40.1 Sf_b36
  have CR41 := CR40.trans (CHr.wr W41 Sf_b37 CR40.1)
  have Sf_b37 := Safe.wr W41 Sf_b37 CR40.1 Sf_b37
  have V_a1 := V_a1.other W41 (own_ne_a1_b37)
  have O_ := O_.wr W41 g_b37
  have E_b36 := E_b36.wr W41
  have F_value_b36 := F_value_b36.other W41 (Or.inl (own_ne_b36_b37))
  have F_coder_b36 := F_coder_b36.other W41 (Or.inl (own_ne_b36_b37))
  have Z41 : n0 ≤ h41.size := by rw [W41.size]; exact Z40
  have hk41 := Nat.le_trans hk40 (Nat.le_of_eq W41.size.symm)
  have N41 := Fr.snoc X41 N40 g_b37
  have K41 := K40.wr W41 (Or.inr sz_b37)
  have V_b37 : Bal Z h41 b37 .char [(nar .char (xs.getD 0 0)), (nar .char (xs.getD 1 0)), (nar .char (xs.getD 2 0)), (nar .char (xs.getD 3 0)), (0 : Int32)] := V41
  refine Y.dup X41 hx (hb hby d9_175) rfl rfl ?_
  refine Y.iconst X41 hx (hb hby d9_176) ?_
  refine Y.aloadN X41 hx (hb hby d9_177) rfl rfl ?_
  refine Y.iconst X41 hx (hb hby d9_178) ?_
  refine Gl.pre (fun _ k => own_ldC X41 hx hZ0 e41 V_a1 (j := (4 : Int32)) (i := 4) (by decide) (by decide) (by rw [hlen]; decide) (v := (xs.getD 4 0)) rfl (g := (mkF m 179 #[.val (.ref a1), .val (.int pn)] [(.int (4 : Int32)), (.ref a1), (.int (4 : Int32)), (.ref b37), (.ref b37), (.ref b36), (.ref b36)])) rfl rfl (hb hby d9_179) _ k) ?_
  obtain ⟨T42, h42, X42, e42, W42, V42, st42⟩ := own_stC X41 hx hZ0 e41 V_b37 (j := (4 : Int32)) (i := 4) (by decide) (by decide) (Nat.lt_of_lt_of_eq (by decide : 4 < 5) rfl) (g := (mkF m 180 #[.val (.ref a1), .val (.int pn)] [(.int (xs.getD 4 0)), (.int (4 : Int32)), (.ref b37), (.ref b37), (.ref b36), (.ref b36)])) rfl rfl (hb hby d9_180)
  refine Gl.pre (fun _ k => st42 _ k) ?_
  have Sf_b36 := Safe.wr W42 Sf_b37 CR41.1 Sf_b36
  have CR42 := CR41.trans (CHr.wr W42 Sf_b37 CR41.1)
  have Sf_b37 := Safe.wr W42 Sf_b37 CR41.1 Sf_b37
  have V_a1 := V_a1.other W42 (own_ne_a1_b37)
  have O_ := O_.wr W42 g_b37
  have E_b36 := E_b36.wr W42
  have F_value_b36 := F_value_b36.other W42 (Or.inl (own_ne_b36_b37))
  have F_coder_b36 := F_coder_b36.other W42 (Or.inl (own_ne_b36_b37))
  have Z42 : n0 ≤ h42.size := by rw [W42.size]; exact Z41
  have hk42 := Nat.le_trans hk41 (Nat.le_of_eq W42.size.symm)
  have N42 := Fr.snoc X42 N41 g_b37
  have K42 := K41.wr W42 (Or.inr sz_b37)
  have V_b37 : Bal Z h42 b37 .char [(nar .char (xs.getD 0 0)), (nar .char (xs.getD 1 0)), (nar .char (xs.getD 2 0)), (nar .char (xs.getD 3 0)), (nar .char (xs.getD 4 0))] := V42
  have VC43 : Bal Z h42 b37 .char [(xs.getD 0 0), (xs.getD 1 0), (xs.getD 2 0), (xs.getD 3 0), (xs.getD 4 0)] := by have q := V_b37; rw [own_nc (own_gr hxs 0), own_nc (own_gr hxs 1), own_nc (own_gr hxs 2), own_nc (own_gr hxs 3), own_nc (own_gr hxs 4)] at q; exact q
  obtain ⟨kc43, KC43⟩ := own_arvC VC43 (by intro x hx; simp only [List.mem_cons, List.not_mem_nil, or_false] at hx; rcases hx with rfl | rfl | rfl | rfl | rfl <;> exact own_fitc (own_gr hxs _)) (by simp only [List.length_cons, List.length_nil]; decide)
  have hp43 : ∀ c ∈ [(xs.getD 0 0), (xs.getD 1 0), (xs.getD 2 0), (xs.getD 3 0), (xs.getD 4 0)], ¬ c < 0 ∧ ¬ (255 : Int32) < c := by intro x hx; simp only [List.mem_cons, List.not_mem_nil, or_false] at hx; rcases hx with rfl | rfl | rfl | rfl | rfl <;> exact own_gr hxs _
  obtain ⟨_, _, ⟨T44, L44, k44, n44⟩, -, X44, ⟨Lc44, hQ44, l44, y44, z44⟩, st44⟩ := X42.specialBack hx (y := (⟨"java/lang/String", "<init>", "([C)V"⟩ : MethodName)) rfl hown0 (mvT hZ0 (W 56 rfl)) (mvT hZ0 (W 57 rfl)) (mvT hZ0 (W 58 rfl)) (by decide) (StrChars.Road.backV (W := 1) hZ0 hwwords (kI := 4) (W 3 rfl) (cs := [(xs.getD 0 0), (xs.getD 1 0), (xs.getD 2 0), (xs.getD 3 0), (xs.getD 4 0)]) (n := 5) g_b36 Z42 E_b36 F_value_b36 F_coder_b36 KC43 (SBC.ext O_.2) hcs (by first | rfl | simp) (by first | rfl | simp) (by decide) (by decide) hp43 rfl (by decide) (by decide)) (g := (mkF m 181 #[.val (.ref a1), .val (.int pn)] [(.ref b37), (.ref b36), (.ref b36)])) rfl (by rw [hml]; rfl) (Steps.refl _) (a := b36) (argsL := [(.ref b37)]) (rest := [(.ref b36)]) (lenOf pd_3 rfl) rfl (by show 2 * 0 + _ ≤ _; exact Nat.le_of_eq rfl) (hb hby d9_181) (fun _ _ => ⟨rfl, e42, (by decide : 2 + 1 ≤ _), (by decide : 9 + 5 ≤ _)⟩)
  dsimp only [Pt.U, Pt.locs, Pt.cells, Pt.slots] at X44 l44 y44 z44 st44 hQ44
  subst l44 y44 z44
  obtain ⟨rfl, N44q, K44, Ex44, Fc44, tv44, kt44, -, hz44, hnx44, Fv44, Kt44⟩ := hQ44
  have N44 := Fr.app N42 N44q
  refine Gl.pre (fun _ k => st44.trans k) ?_
  have own_ne_a1_tv44 : a1 ≠ tv44 := Nat.ne_of_lt (Nat.lt_of_lt_of_le V_a1.lt hz44)
  have own_ne_tv44_a1 := own_ne_a1_tv44.symm
  have own_ne_b36_tv44 : b36 ≠ tv44 := Nat.ne_of_lt (Nat.lt_of_lt_of_le E_b36.lt hz44)
  have own_ne_tv44_b36 := own_ne_b36_tv44.symm
  have own_ne_b37_tv44 : b37 ≠ tv44 := Nat.ne_of_lt (Nat.lt_of_lt_of_le V_b37.lt hz44)
  have own_ne_tv44_b37 := own_ne_b37_tv44.symm
  have g_tv44 : n0 ≤ tv44 := Nat.le_trans Z42 hz44
  have sz_tv44 : h0.size ≤ tv44 := Nat.le_trans K42.1 hz44
  have Sf_tv440 := Safe.new (Z := Z) (EL := own_EL) (vm := s.vm) hz44
  have hs44 : ∀ x ∈ [b36], Safe Z own_EL _ _ x := (allS Sf_b36 all0)
  have Sf_b36 := Safe.keep K44 hs44 CR42.1 Sf_b36
  have Sf_b37 := Safe.keep K44 hs44 CR42.1 Sf_b37
  have CR44 := CR42.trans (CHr.keep K44 hs44 CR42.1)
  have V_a1 := V_a1.keep K44 (ninS (own_ne_a1_b36) nin0)
  have O_ := O_.keep K44 (allS g_b36 all0)
  have E_b36 := E_b36.keep K44
  have V_b37 := V_b37.keep K44 (ninS (own_ne_b37_b36) nin0)
  have hk44 := Nat.le_trans hk42 K44.1
  have Z44 : n0 ≤ T44.heap.size := Nat.le_trans Z42 K44.1
  have K44k := K42.trans K44 (allS (Or.inr sz_b36) all0)
  have F_value_b36 := Fv44
  have F_coder_b36 := Fc44
  show Gl p.tables e below PP (T44.setTop (mkF m 184 #[.val (.ref a1), .val (.int pn)] [(.ref b36)]))
  rw [hPP]
  refine own_finAW (Q := (Q9 Z a1 pn xs cs h0 n0)) (Z := Z) (EL := own_EL) X44 hx hlk hS0 hk44 Bd.returns rfl rfl (hb hby d9_184) ?_ (by rw [hh]; exact CR44.trans (CHv.at X44 hZ0 hEL CR44.1)) (by decide) (by decide)
  show Q9 Z a1 pn xs cs h0 n0 _ T44.heap _
  refine ⟨b36, tv44, _, [(xs.getD 0 0), (xs.getD 1 0), (xs.getD 2 0), (xs.getD 3 0), (xs.getD 4 0)], ?_, rfl, N44, K44k, sz_b36, E_b36, F_value_b36, F_coder_b36, Kt44⟩
  rw [hc35, own_i5]; exact own_tk5 hlen
  refine Y.icmpYes X0 hx (pc0 := 141) (pc' := 185) rfl (hb hby d9_141) rfl (feq hc35).2 (by decide) (by decide) ?_
  refine Y.iloadN X0 hx (hb hby d9_185) rfl ?_
  refine Y.bipush X0 hx (hb hby d9_186) ?_
  by_cases hc45 : pn = (6 : Int32)
  refine Y.icmpNo X0 hx (hb hby d9_188) rfl (teq hc45).2 ?_
  obtain ⟨T46, h46, X46, e46, E46, A46, D46, -, st46⟩ := newO X0 hx hZ0 hown0 (W 55 rfl) (W 3 rfl) (W 2 rfl) e0 (g := (mkF m 191 #[.val (.ref a1), .val (.int pn)] [])) rfl (hb hby d9_191) (by decide) (by decide)
  obtain ⟨b46, g46⟩ : ∃ z, z = h0.size := ⟨_, rfl⟩
  rw [← g46] at A46 D46 st46
  refine Gl.pre (fun _ k => st46 _ k) ?_
  have own_ne_a1_b46 : a1 ≠ b46 := by have q := V_a1.lt; rw [g46]; exact Nat.ne_of_lt q
  have own_ne_b46_a1 : b46 ≠ a1 := own_ne_a1_b46.symm
  have g_b46 : n0 ≤ b46 := Nat.le_trans Z0 (Nat.le_of_eq g46.symm)
  have sz_b46 : h0.size ≤ b46 := Nat.le_trans K0.1 (Nat.le_of_eq g46.symm)
  have Sf_b46 := Safe.ext E46 CR0.1 (Safe.new (Z := Z) (EL := own_EL) (vm := s.vm) (Nat.le_of_eq g46.symm))
  have CR46 := CR0.trans (CHr.ext E46 CR0.1)
  have V_a1 := V_a1.ext E46
  have O_ := O_.ext E46
  have Z46 : n0 ≤ h46.size := Nat.le_trans Z0 E46.1
  have hk46 := Nat.le_trans hk0 E46.1
  have K46 := K0.ext E46
  have E_b46 := A46
  have F_value_b46 : Fld Z h46 b46 "java/lang/String" "value" "[B" .null := D46 (Or.inr (W 5 rfl)) (ty := (.array .byte)) (by decide)
  have F_coder_b46 : Fld Z h46 b46 "java/lang/String" "coder" "B" (.int (0 : Int32)) := D46 (Or.inr (W 6 rfl)) (ty := .byte) (by decide)
  refine Y.dup X46 hx (hb hby d9_194) rfl rfl ?_
  refine Y.bipush X46 hx (hb hby d9_195) ?_
  obtain ⟨T47, h47, k47, X47, e47, E47, A47, st47⟩ := newP X46 hx hZ0 (W 25 rfl) e46 (g := (mkF m 197 #[.val (.ref a1), .val (.int pn)] [(.int (6 : Int32)), (.ref b46), (.ref b46)])) rfl (hb hby d9_197) rfl (by decide) (cap := 6) (by decide) (by decide) (by decide) (by decide)
  obtain ⟨b47, g47⟩ : ∃ z, z = h46.size := ⟨_, rfl⟩
  rw [← g47] at A47 st47
  refine Gl.pre (fun _ k => st47 _ k) ?_
  have own_ne_a1_b47 : a1 ≠ b47 := by have q := V_a1.lt; rw [g47]; exact Nat.ne_of_lt q
  have own_ne_b47_a1 : b47 ≠ a1 := own_ne_a1_b47.symm
  have own_ne_b46_b47 : b46 ≠ b47 := by have q := E_b46.lt; rw [g47]; exact Nat.ne_of_lt q
  have own_ne_b47_b46 : b47 ≠ b46 := own_ne_b46_b47.symm
  have g_b47 : n0 ≤ b47 := Nat.le_trans Z46 (Nat.le_of_eq g47.symm)
  have sz_b47 : h0.size ≤ b47 := Nat.le_trans K46.1 (Nat.le_of_eq g47.symm)
  have Sf_b47 := Safe.ext E47 CR46.1 (Safe.new (Z := Z) (EL := own_EL) (vm := s.vm) (Nat.le_of_eq g47.symm))
  have Sf_b46 := Safe.ext E47 CR46.1 Sf_b46
  have CR47 := CR46.trans (CHr.ext E47 CR46.1)
  have V_a1 := V_a1.ext E47
  have O_ := O_.ext E47
  have E_b46 := E_b46.ext E47
  have F_value_b46 := F_value_b46.ext E47
  have F_coder_b46 := F_coder_b46.ext E47
  have Z47 : n0 ≤ h47.size := Nat.le_trans Z46 E47.1
  have hk47 := Nat.le_trans hk46 E47.1
  have K47 := K46.ext E47
  have V_b47 : Bal Z h47 b47 .char [(0 : Int32), (0 : Int32), (0 : Int32), (0 : Int32), (0 : Int32), (0 : Int32)] := Bal.new (ty := .char) A47 (n := 6) (by decide) rfl
  refine Y.dup X47 hx (hb hby d9_199) rfl rfl ?_
  refine Y.iconst X47 hx (hb hby d9_200) ?_
  refine Y.aloadN X47 hx (hb hby d9_201) rfl rfl ?_
  refine Y.iconst X47 hx (hb hby d9_202) ?_
  refine Gl.pre (fun _ k => own_ldC X47 hx hZ0 e47 V_a1 (j := (0 : Int32)) (i := 0) (by decide) (by decide) (by rw [hlen]; decide) (v := (xs.getD 0 0)) rfl (g := (mkF m 203 #[.val (.ref a1), .val (.int pn)] [(.int (0 : Int32)), (.ref a1), (.int (0 : Int32)), (.ref b47), (.ref b47), (.ref b46), (.ref b46)])) rfl rfl (hb hby d9_203) _ k) ?_
  obtain ⟨T48, h48, X48, e48, W48, V48, st48⟩ := own_stC X47 hx hZ0 e47 V_b47 (j := (0 : Int32)) (i := 0) (by decide) (by decide) (Nat.lt_of_lt_of_eq (by decide : 0 < 6) rfl) (g := (mkF m 204 #[.val (.ref a1), .val (.int pn)] [(.int (xs.getD 0 0)), (.int (0 : Int32)), (.ref b47), (.ref b47), (.ref b46), (.ref b46)])) rfl rfl (hb hby d9_204)
  refine Gl.pre (fun _ k => st48 _ k) ?_
  have Sf_b46 := Safe.wr W48 Sf_b47 CR47.1 Sf_b46
  have CR48 := CR47.trans (CHr.wr W48 Sf_b47 CR47.1)
  have Sf_b47 := Safe.wr W48 Sf_b47 CR47.1 Sf_b47
  have V_a1 := V_a1.other W48 (own_ne_a1_b47)
  have O_ := O_.wr W48 g_b47
  have E_b46 := E_b46.wr W48
  have F_value_b46 := F_value_b46.other W48 (Or.inl (own_ne_b46_b47))
  have F_coder_b46 := F_coder_b46.other W48 (Or.inl (own_ne_b46_b47))
  have Z48 : n0 ≤ h48.size := by rw [W48.size]; exact Z47
  have hk48 := Nat.le_trans hk47 (Nat.le_of_eq W48.size.symm)
  have N48 := Fr.snoc X48 N0 g_b47
  have K48 := K47.wr W48 (Or.inr sz_b47)
  have V_b47 : Bal Z h48 b47 .char [(nar .char (xs.getD 0 0)), (0 : Int32), (0 : Int32), (0 : Int32), (0 : Int32), (0 : Int32)] := V48
  refine Y.dup X48 hx (hb hby d9_205) rfl rfl ?_
  refine Y.iconst X48 hx (hb hby d9_206) ?_
  refine Y.aloadN X48 hx (hb hby d9_207) rfl rfl ?_
  refine Y.iconst X48 hx (hb hby d9_208) ?_
  refine Gl.pre (fun _ k => own_ldC X48 hx hZ0 e48 V_a1 (j := (1 : Int32)) (i := 1) (by decide) (by decide) (by rw [hlen]; decide) (v := (xs.getD 1 0)) rfl (g := (mkF m 209 #[.val (.ref a1), .val (.int pn)] [(.int (1 : Int32)), (.ref a1), (.int (1 : Int32)), (.ref b47), (.ref b47), (.ref b46), (.ref b46)])) rfl rfl (hb hby d9_209) _ k) ?_
  obtain ⟨T49, h49, X49, e49, W49, V49, st49⟩ := own_stC X48 hx hZ0 e48 V_b47 (j := (1 : Int32)) (i := 1) (by decide) (by decide) (Nat.lt_of_lt_of_eq (by decide : 1 < 6) rfl) (g := (mkF m 210 #[.val (.ref a1), .val (.int pn)] [(.int (xs.getD 1 0)), (.int (1 : Int32)), (.ref b47), (.ref b47), (.ref b46), (.ref b46)])) rfl rfl (hb hby d9_210)
  refine Gl.pre (fun _ k => st49 _ k) ?_
  have Sf_b46 := Safe.wr W49 Sf_b47 CR48.1 Sf_b46
  have CR49 := CR48.trans (CHr.wr W49 Sf_b47 CR48.1)
  have Sf_b47 := Safe.wr W49 Sf_b47 CR48.1 Sf_b47
  have V_a1 := V_a1.other W49 (own_ne_a1_b47)
  have O_ := O_.wr W49 g_b47
  have E_b46 := E_b46.wr W49
  have F_value_b46 := F_value_b46.other W49 (Or.inl (own_ne_b46_b47))
  have F_coder_b46 := F_coder_b46.other W49 (Or.inl (own_ne_b46_b47))
  have Z49 : n0 ≤ h49.size := by rw [W49.size]; exact Z48
  have hk49 := Nat.le_trans hk48 (Nat.le_of_eq W49.size.symm)
  have N49 := Fr.snoc X49 N48 g_b47
  have K49 := K48.wr W49 (Or.inr sz_b47)
  have V_b47 : Bal Z h49 b47 .char [(nar .char (xs.getD 0 0)), (nar .char (xs.getD 1 0)), (0 : Int32), (0 : Int32), (0 : Int32), (0 : Int32)] := V49
  refine Y.dup X49 hx (hb hby d9_211) rfl rfl ?_
  refine Y.iconst X49 hx (hb hby d9_212) ?_
  refine Y.aloadN X49 hx (hb hby d9_213) rfl rfl ?_
  refine Y.iconst X49 hx (hb hby d9_214) ?_
  refine Gl.pre (fun _ k => own_ldC X49 hx hZ0 e49 V_a1 (j := (2 : Int32)) (i := 2) (by decide) (by decide) (by rw [hlen]; decide) (v := (xs.getD 2 0)) rfl (g := (mkF m 215 #[.val (.ref a1), .val (.int pn)] [(.int (2 : Int32)), (.ref a1), (.int (2 : Int32)), (.ref b47), (.ref b47), (.ref b46), (.ref b46)])) rfl rfl (hb hby d9_215) _ k) ?_
  obtain ⟨T50, h50, X50, e50, W50, V50, st50⟩ := own_stC X49 hx hZ0 e49 V_b47 (j := (2 : Int32)) (i := 2) (by decide) (by decide) (Nat.lt_of_lt_of_eq (by decide : 2 < 6) rfl) (g := (mkF m 216 #[.val (.ref a1), .val (.int pn)] [(.int (xs.getD 2 0)), (.int (2 : Int32)), (.ref b47), (.ref b47), (.ref b46), (.ref b46)])) rfl rfl (hb hby d9_216)
  refine Gl.pre (fun _ k => st50 _ k) ?_
  have Sf_b46 := Safe.wr W50 Sf_b47 CR49.1 Sf_b46
  have CR50 := CR49.trans (CHr.wr W50 Sf_b47 CR49.1)
  have Sf_b47 := Safe.wr W50 Sf_b47 CR49.1 Sf_b47
  have V_a1 := V_a1.other W50 (own_ne_a1_b47)
  have O_ := O_.wr W50 g_b47
  have E_b46 := E_b46.wr W50
  have F_value_b46 := F_value_b46.other W50 (Or.inl (own_ne_b46_b47))
  have F_coder_b46 := F_coder_b46.other W50 (Or.inl (own_ne_b46_b47))
  have Z50 : n0 ≤ h50.size := by rw [W50.size]; exact Z49
  have hk50 := Nat.le_trans hk49 (Nat.le_of_eq W50.size.symm)
  have N50 := Fr.snoc X50 N49 g_b47
  have K50 := K49.wr W50 (Or.inr sz_b47)
  have V_b47 : Bal Z h50 b47 .char [(nar .char (xs.getD 0 0)), (nar .char (xs.getD 1 0)), (nar .char (xs.getD 2 0)), (0 : Int32), (0 : Int32), (0 : Int32)] := V50
  refine Y.dup X50 hx (hb hby d9_217) rfl rfl ?_
  refine Y.iconst X50 hx (hb hby d9_218) ?_
  refine Y.aloadN X50 hx (hb hby d9_219) rfl rfl ?_
  refine Y.iconst X50 hx (hb hby d9_220) ?_
  refine Gl.pre (fun _ k => own_ldC X50 hx hZ0 e50 V_a1 (j := (3 : Int32)) (i := 3) (by decide) (by decide) (by rw [hlen]; decide) (v := (xs.getD 3 0)) rfl (g := (mkF m 221 #[.val (.ref a1), .val (.int pn)] [(.int (3 : Int32)), (.ref a1), (.int (3 : Int32)), (.ref b47), (.ref b47), (.ref b46), (.ref b46)])) rfl rfl (hb hby d9_221) _ k) ?_
  obtain ⟨T51, h51, X51, e51, W51, V51, st51⟩ := own_stC X50 hx hZ0 e50 V_b47 (j := (3 : Int32)) (i := 3) (by decide) (by decide) (Nat.lt_of_lt_of_eq (by decide : 3 < 6) rfl) (g := (mkF m 222 #[.val (.ref a1), .val (.int pn)] [(.int (xs.getD 3 0)), (.int (3 : Int32)), (.ref b47), (.ref b47), (.ref b46), (.ref b46)])) rfl rfl (hb hby d9_222)
  refine Gl.pre (fun _ k => st51 _ k) ?_
  have Sf_b46 := Safe.wr W51 Sf_b47 CR50.1 Sf_b46
  have CR51 := CR50.trans (CHr.wr W51 Sf_b47 CR50.1)
  have Sf_b47 := Safe.wr W51 Sf_b47 CR50.1 Sf_b47
  have V_a1 := V_a1.other W51 (own_ne_a1_b47)
  have O_ := O_.wr W51 g_b47
  have E_b46 := E_b46.wr W51
  have F_value_b46 := F_value_b46.other W51 (Or.inl (own_ne_b46_b47))
  have F_coder_b46 := F_coder_b46.other W51 (Or.inl (own_ne_b46_b47))
  have Z51 : n0 ≤ h51.size := by rw [W51.size]; exact Z50
  have hk51 := Nat.le_trans hk50 (Nat.le_of_eq W51.size.symm)
  have N51 := Fr.snoc X51 N50 g_b47
  have K51 := K50.wr W51 (Or.inr sz_b47)
  have V_b47 : Bal Z h51 b47 .char [(nar .char (xs.getD 0 0)), (nar .char (xs.getD 1 0)), (nar .char (xs.getD 2 0)), (nar .char (xs.getD 3 0)), (0 : Int32), (0 : Int32)] := V51
  refine Y.dup X51 hx (hb hby d9_223) rfl rfl ?_
  refine Y.iconst X51 hx (hb hby d9_224) ?_
  refine Y.aloadN X51 hx (hb hby d9_225) rfl rfl ?_
  refine Y.iconst X51 hx (hb hby d9_226) ?_
  refine Gl.pre (fun _ k => own_ldC X51 hx hZ0 e51 V_a1 (j := (4 : Int32)) (i := 4) (by decide) (by decide) (by rw [hlen]; decide) (v := (xs.getD 4 0)) rfl (g := (mkF m 227 #[.val (.ref a1), .val (.int pn)] [(.int (4 : Int32)), (.ref a1), (.int (4 : Int32)), (.ref b47), (.ref b47), (.ref b46), (.ref b46)])) rfl rfl (hb hby d9_227) _ k) ?_
  obtain ⟨T52, h52, X52, e52, W52, V52, st52⟩ := own_stC X51 hx hZ0 e51 V_b47 (j := (4 : Int32)) (i := 4) (by decide) (by decide) (Nat.lt_of_lt_of_eq (by decide : 4 < 6) rfl) (g := (mkF m 228 #[.val (.ref a1), .val (.int pn)] [(.int (xs.getD 4 0)), (.int (4 : Int32)), (.ref b47), (.ref b47), (.ref b46), (.ref b46)])) rfl rfl (hb hby d9_228)
  refine Gl.pre (fun _ k => st52 _ k) ?_
  have Sf_b46 := Safe.wr W52 Sf_b47 CR51.1 Sf_b46
  have CR52 := CR51.trans (CHr.wr W52 Sf_b47 CR51.1)
  have Sf_b47 := Safe.wr W52 Sf_b47 CR51.1 Sf_b47
  have V_a1 := V_a1.other W52 (own_ne_a1_b47)
  have O_ := O_.wr W52 g_b47
  have E_b46 := E_b46.wr W52
  have F_value_b46 := F_value_b46.other W52 (Or.inl (own_ne_b46_b47))
  have F_coder_b46 := F_coder_b46.other W52 (Or.inl (own_ne_b46_b47))
  have Z52 : n0 ≤ h52.size := by rw [W52.size]; exact Z51
  have hk52 := Nat.le_trans hk51 (Nat.le_of_eq W52.size.symm)
  have N52 := Fr.snoc X52 N51 g_b47
  have K52 := K51.wr W52 (Or.inr sz_b47)
  have V_b47 : Bal Z h52 b47 .char [(nar .char (xs.getD 0 0)), (nar .char (xs.getD 1 0)), (nar .char (xs.getD 2 0)), (nar .char (xs.getD 3 0)), (nar .char (xs.getD 4 0)), (0 : Int32)] := V52
  refine Y.dup X52 hx (hb hby d9_229) rfl rfl ?_
  refine Y.iconst X52 hx (hb hby d9_230) ?_
  refine Y.aloadN X52 hx (hb hby d9_231) rfl rfl ?_
  refine Y.iconst X52 hx (hb hby d9_232) ?_
  refine Gl.pre (fun _ k => own_ldC X52 hx hZ0 e52 V_a1 (j := (5 : Int32)) (i := 5) (by decide) (by decide) (by rw [hlen]; decide) (v := (xs.getD 5 0)) rfl (g := (mkF m 233 #[.val (.ref a1), .val (.int pn)] [(.int (5 : Int32)), (.ref a1), (.int (5 : Int32)), (.ref b47), (.ref b47), (.ref b46), (.ref b46)])) rfl rfl (hb hby d9_233) _ k) ?_
  obtain ⟨T53, h53, X53, e53, W53, V53, st53⟩ := own_stC X52 hx hZ0 e52 V_b47 (j := (5 : Int32)) (i := 5) (by decide) (by decide) (Nat.lt_of_lt_of_eq (by decide : 5 < 6) rfl) (g := (mkF m 234 #[.val (.ref a1), .val (.int pn)] [(.int (xs.getD 5 0)), (.int (5 : Int32)), (.ref b47), (.ref b47), (.ref b46), (.ref b46)])) rfl rfl (hb hby d9_234)
  refine Gl.pre (fun _ k => st53 _ k) ?_
  have Sf_b46 := Safe.wr W53 Sf_b47 CR52.1 Sf_b46
  have CR53 := CR52.trans (CHr.wr W53 Sf_b47 CR52.1)
  have Sf_b47 := Safe.wr W53 Sf_b47 CR52.1 Sf_b47
  have V_a1 := V_a1.other W53 (own_ne_a1_b47)
  have O_ := O_.wr W53 g_b47
  have E_b46 := E_b46.wr W53
  have F_value_b46 := F_value_b46.other W53 (Or.inl (own_ne_b46_b47))
  have F_coder_b46 := F_coder_b46.other W53 (Or.inl (own_ne_b46_b47))
  have Z53 : n0 ≤ h53.size := by rw [W53.size]; exact Z52
  have hk53 := Nat.le_trans hk52 (Nat.le_of_eq W53.size.symm)
  have N53 := Fr.snoc X53 N52 g_b47
  have K53 := K52.wr W53 (Or.inr sz_b47)
  have V_b47 : Bal Z h53 b47 .char [(nar .char (xs.getD 0 0)), (nar .char (xs.getD 1 0)), (nar .char (xs.getD 2 0)), (nar .char (xs.getD 3 0)), (nar .char (xs.getD 4 0)), (nar .char (xs.getD 5 0))] := V53
  have VC54 : Bal Z h53 b47 .char [(xs.getD 0 0), (xs.getD 1 0), (xs.getD 2 0), (xs.getD 3 0), (xs.getD 4 0), (xs.getD 5 0)] := by have q := V_b47; rw [own_nc (own_gr hxs 0), own_nc (own_gr hxs 1), own_nc (own_gr hxs 2), own_nc (own_gr hxs 3), own_nc (own_gr hxs 4), own_nc (own_gr hxs 5)] at q; exact q
  obtain ⟨kc54, KC54⟩ := own_arvC VC54 (by intro x hx; simp only [List.mem_cons, List.not_mem_nil, or_false] at hx; rcases hx with rfl | rfl | rfl | rfl | rfl | rfl <;> exact own_fitc (own_gr hxs _)) (by simp only [List.length_cons, List.length_nil]; decide)
  have hp54 : ∀ c ∈ [(xs.getD 0 0), (xs.getD 1 0), (xs.getD 2 0), (xs.getD 3 0), (xs.getD 4 0), (xs.getD 5 0)], ¬ c < 0 ∧ ¬ (255 : Int32) < c := by intro x hx; simp only [List.mem_cons, List.not_mem_nil, or_false] at hx; rcases hx with rfl | rfl | rfl | rfl | rfl | rfl <;> exact own_gr hxs _
  obtain ⟨_, _, ⟨T55, L55, k55, n55⟩, -, X55, ⟨Lc55, hQ55, l55, y55, z55⟩, st55⟩ := X53.specialBack hx (y := (⟨"java/lang/String", "<init>", "([C)V"⟩ : MethodName)) rfl hown0 (mvT hZ0 (W 56 rfl)) (mvT hZ0 (W 57 rfl)) (mvT hZ0 (W 58 rfl)) (by decide) (StrChars.Road.backV (W := 1) hZ0 hwwords (kI := 4) (W 3 rfl) (cs := [(xs.getD 0 0), (xs.getD 1 0), (xs.getD 2 0), (xs.getD 3 0), (xs.getD 4 0), (xs.getD 5 0)]) (n := 6) g_b46 Z53 E_b46 F_value_b46 F_coder_b46 KC54 (SBC.ext O_.2) hcs (by first | rfl | simp) (by first | rfl | simp) (by decide) (by decide) hp54 rfl (by decide) (by decide)) (g := (mkF m 235 #[.val (.ref a1), .val (.int pn)] [(.ref b47), (.ref b46), (.ref b46)])) rfl (by rw [hml]; rfl) (Steps.refl _) (a := b46) (argsL := [(.ref b47)]) (rest := [(.ref b46)]) (lenOf pd_3 rfl) rfl (by show 2 * 0 + _ ≤ _; exact Nat.le_of_eq rfl) (hb hby d9_235) (fun _ _ => ⟨rfl, e53, (by decide : 2 + 1 ≤ _), (by decide : 10 + 6 ≤ _)⟩)
  dsimp only [Pt.U, Pt.locs, Pt.cells, Pt.slots] at X55 l55 y55 z55 st55 hQ55
  subst l55 y55 z55
  obtain ⟨rfl, N55q, K55, Ex55, Fc55, tv55, kt55, -, hz55, hnx55, Fv55, Kt55⟩ := hQ55
  have N55 := Fr.app N53 N55q
  refine Gl.pre (fun _ k => st55.trans k) ?_
  have own_ne_a1_tv55 : a1 ≠ tv55 := Nat.ne_of_lt (Nat.lt_of_lt_of_le V_a1.lt hz55)
  have own_ne_tv55_a1 := own_ne_a1_tv55.symm
  have own_ne_b46_tv55 : b46 ≠ tv55 := Nat.ne_of_lt (Nat.lt_of_lt_of_le E_b46.lt hz55)
  have own_ne_tv55_b46 := own_ne_b46_tv55.symm
  have own_ne_b47_tv55 : b47 ≠ tv55 := Nat.ne_of_lt (Nat.lt_of_lt_of_le V_b47.lt hz55)
  have own_ne_tv55_b47 := own_ne_b47_tv55.symm
  have g_tv55 : n0 ≤ tv55 := Nat.le_trans Z53 hz55
  have sz_tv55 : h0.size ≤ tv55 := Nat.le_trans K53.1 hz55
  have Sf_tv550 := Safe.new (Z := Z) (EL := own_EL) (vm := s.vm) hz55
  have hs55 : ∀ x ∈ [b46], Safe Z own_EL _ _ x := (allS Sf_b46 all0)
  have Sf_b46 := Safe.keep K55 hs55 CR53.1 Sf_b46
  have Sf_b47 := Safe.keep K55 hs55 CR53.1 Sf_b47
  have CR55 := CR53.trans (CHr.keep K55 hs55 CR53.1)
  have V_a1 := V_a1.keep K55 (ninS (own_ne_a1_b46) nin0)
  have O_ := O_.keep K55 (allS g_b46 all0)
  have E_b46 := E_b46.keep K55
  have V_b47 := V_b47.keep K55 (ninS (own_ne_b47_b46) nin0)
  have hk55 := Nat.le_trans hk53 K55.1
  have Z55 : n0 ≤ T55.heap.size := Nat.le_trans Z53 K55.1
  have K55k := K53.trans K55 (allS (Or.inr sz_b46) all0)
  have F_value_b46 := Fv55
  have F_coder_b46 := Fc55
  show Gl p.tables e below PP (T55.setTop (mkF m 238 #[.val (.ref a1), .val (.int pn)] [(.ref b46)]))
  rw [hPP]
  refine own_finAW (Q := (Q9 Z a1 pn xs cs h0 n0)) (Z := Z) (EL := own_EL) X55 hx hlk hS0 hk55 Bd.returns rfl rfl (hb hby d9_238) ?_ (by rw [hh]; exact CR55.trans (CHv.at X55 hZ0 hEL CR55.1)) (by decide) (by decide)
  show Q9 Z a1 pn xs cs h0 n0 _ T55.heap _
  refine ⟨b46, tv55, _, [(xs.getD 0 0), (xs.getD 1 0), (xs.getD 2 0), (xs.getD 3 0), (xs.getD 4 0), (xs.getD 5 0)], ?_, rfl, N55, K55k, sz_b46, E_b46, F_value_b46, F_coder_b46, Kt55⟩
  rw [hc45, own_i6]; exact own_tk6 hlen
  refine Y.icmpYes X0 hx (pc0 := 188) (pc' := 239) rfl (hb hby d9_188) rfl (feq hc45).2 (by decide) (by decide) ?_
  refine Y.iloadN X0 hx (hb hby d9_239) rfl ?_
  refine Y.bipush X0 hx (hb hby d9_240) ?_
  by_cases hc56 : pn = (7 : Int32)
  refine Y.icmpNo X0 hx (hb hby d9_242) rfl (teq hc56).2 ?_
  obtain ⟨T57, h57, X57, e57, E57, A57, D57, -, st57⟩ := newO X0 hx hZ0 hown0 (W 55 rfl) (W 3 rfl) (W 2 rfl) e0 (g := (mkF m 245 #[.val (.ref a1), .val (.int pn)] [])) rfl (hb hby d9_245) (by decide) (by decide)
  obtain ⟨b57, g57⟩ : ∃ z, z = h0.size := ⟨_, rfl⟩
  rw [← g57] at A57 D57 st57
  refine Gl.pre (fun _ k => st57 _ k) ?_
  have own_ne_a1_b57 : a1 ≠ b57 := by have q := V_a1.lt; rw [g57]; exact Nat.ne_of_lt q
  have own_ne_b57_a1 : b57 ≠ a1 := own_ne_a1_b57.symm
  have g_b57 : n0 ≤ b57 := Nat.le_trans Z0 (Nat.le_of_eq g57.symm)
  have sz_b57 : h0.size ≤ b57 := Nat.le_trans K0.1 (Nat.le_of_eq g57.symm)
  have Sf_b57 := Safe.ext E57 CR0.1 (Safe.new (Z := Z) (EL := own_EL) (vm := s.vm) (Nat.le_of_eq g57.symm))
  have CR57 := CR0.trans (CHr.ext E57 CR0.1)
  have V_a1 := V_a1.ext E57
  have O_ := O_.ext E57
  have Z57 : n0 ≤ h57.size := Nat.le_trans Z0 E57.1
  have hk57 := Nat.le_trans hk0 E57.1
  have K57 := K0.ext E57
  have E_b57 := A57
  have F_value_b57 : Fld Z h57 b57 "java/lang/String" "value" "[B" .null := D57 (Or.inr (W 5 rfl)) (ty := (.array .byte)) (by decide)
  have F_coder_b57 : Fld Z h57 b57 "java/lang/String" "coder" "B" (.int (0 : Int32)) := D57 (Or.inr (W 6 rfl)) (ty := .byte) (by decide)
  refine Y.dup X57 hx (hb hby d9_248) rfl rfl ?_
  refine Y.bipush X57 hx (hb hby d9_249) ?_
  obtain ⟨T58, h58, k58, X58, e58, E58, A58, st58⟩ := newP X57 hx hZ0 (W 25 rfl) e57 (g := (mkF m 251 #[.val (.ref a1), .val (.int pn)] [(.int (7 : Int32)), (.ref b57), (.ref b57)])) rfl (hb hby d9_251) rfl (by decide) (cap := 7) (by decide) (by decide) (by decide) (by decide)
  obtain ⟨b58, g58⟩ : ∃ z, z = h57.size := ⟨_, rfl⟩
  rw [← g58] at A58 st58
  refine Gl.pre (fun _ k => st58 _ k) ?_
  have own_ne_a1_b58 : a1 ≠ b58 := by have q := V_a1.lt; rw [g58]; exact Nat.ne_of_lt q
  have own_ne_b58_a1 : b58 ≠ a1 := own_ne_a1_b58.symm
  have own_ne_b57_b58 : b57 ≠ b58 := by have q := E_b57.lt; rw [g58]; exact Nat.ne_of_lt q
  have own_ne_b58_b57 : b58 ≠ b57 := own_ne_b57_b58.symm
  have g_b58 : n0 ≤ b58 := Nat.le_trans Z57 (Nat.le_of_eq g58.symm)
  have sz_b58 : h0.size ≤ b58 := Nat.le_trans K57.1 (Nat.le_of_eq g58.symm)
  have Sf_b58 := Safe.ext E58 CR57.1 (Safe.new (Z := Z) (EL := own_EL) (vm := s.vm) (Nat.le_of_eq g58.symm))
  have Sf_b57 := Safe.ext E58 CR57.1 Sf_b57
  have CR58 := CR57.trans (CHr.ext E58 CR57.1)
  have V_a1 := V_a1.ext E58
  have O_ := O_.ext E58
  have E_b57 := E_b57.ext E58
  have F_value_b57 := F_value_b57.ext E58
  have F_coder_b57 := F_coder_b57.ext E58
  have Z58 : n0 ≤ h58.size := Nat.le_trans Z57 E58.1
  have hk58 := Nat.le_trans hk57 E58.1
  have K58 := K57.ext E58
  have V_b58 : Bal Z h58 b58 .char [(0 : Int32), (0 : Int32), (0 : Int32), (0 : Int32), (0 : Int32), (0 : Int32), (0 : Int32)] := Bal.new (ty := .char) A58 (n := 7) (by decide) rfl
  refine Y.dup X58 hx (hb hby d9_253) rfl rfl ?_
  refine Y.iconst X58 hx (hb hby d9_254) ?_
  refine Y.aloadN X58 hx (hb hby d9_255) rfl rfl ?_
  refine Y.iconst X58 hx (hb hby d9_256) ?_
  refine Gl.pre (fun _ k => own_ldC X58 hx hZ0 e58 V_a1 (j := (0 : Int32)) (i := 0) (by decide) (by decide) (by rw [hlen]; decide) (v := (xs.getD 0 0)) rfl (g := (mkF m 257 #[.val (.ref a1), .val (.int pn)] [(.int (0 : Int32)), (.ref a1), (.int (0 : Int32)), (.ref b58), (.ref b58), (.ref b57), (.ref b57)])) rfl rfl (hb hby d9_257) _ k) ?_
  obtain ⟨T59, h59, X59, e59, W59, V59, st59⟩ := own_stC X58 hx hZ0 e58 V_b58 (j := (0 : Int32)) (i := 0) (by decide) (by decide) (Nat.lt_of_lt_of_eq (by decide : 0 < 7) rfl) (g := (mkF m 258 #[.val (.ref a1), .val (.int pn)] [(.int (xs.getD 0 0)), (.int (0 : Int32)), (.ref b58), (.ref b58), (.ref b57), (.ref b57)])) rfl rfl (hb hby d9_258)
  refine Gl.pre (fun _ k => st59 _ k) ?_
  have Sf_b57 := Safe.wr W59 Sf_b58 CR58.1 Sf_b57
  have CR59 := CR58.trans (CHr.wr W59 Sf_b58 CR58.1)
  have Sf_b58 := Safe.wr W59 Sf_b58 CR58.1 Sf_b58
  have V_a1 := V_a1.other W59 (own_ne_a1_b58)
  have O_ := O_.wr W59 g_b58
  have E_b57 := E_b57.wr W59
  have F_value_b57 := F_value_b57.other W59 (Or.inl (own_ne_b57_b58))
  have F_coder_b57 := F_coder_b57.other W59 (Or.inl (own_ne_b57_b58))
  have Z59 : n0 ≤ h59.size := by rw [W59.size]; exact Z58
  have hk59 := Nat.le_trans hk58 (Nat.le_of_eq W59.size.symm)
  have N59 := Fr.snoc X59 N0 g_b58
  have K59 := K58.wr W59 (Or.inr sz_b58)
  have V_b58 : Bal Z h59 b58 .char [(nar .char (xs.getD 0 0)), (0 : Int32), (0 : Int32), (0 : Int32), (0 : Int32), (0 : Int32), (0 : Int32)] := V59
  refine Y.dup X59 hx (hb hby d9_259) rfl rfl ?_
  refine Y.iconst X59 hx (hb hby d9_260) ?_
  refine Y.aloadN X59 hx (hb hby d9_261) rfl rfl ?_
  refine Y.iconst X59 hx (hb hby d9_262) ?_
  refine Gl.pre (fun _ k => own_ldC X59 hx hZ0 e59 V_a1 (j := (1 : Int32)) (i := 1) (by decide) (by decide) (by rw [hlen]; decide) (v := (xs.getD 1 0)) rfl (g := (mkF m 263 #[.val (.ref a1), .val (.int pn)] [(.int (1 : Int32)), (.ref a1), (.int (1 : Int32)), (.ref b58), (.ref b58), (.ref b57), (.ref b57)])) rfl rfl (hb hby d9_263) _ k) ?_
  obtain ⟨T60, h60, X60, e60, W60, V60, st60⟩ := own_stC X59 hx hZ0 e59 V_b58 (j := (1 : Int32)) (i := 1) (by decide) (by decide) (Nat.lt_of_lt_of_eq (by decide : 1 < 7) rfl) (g := (mkF m 264 #[.val (.ref a1), .val (.int pn)] [(.int (xs.getD 1 0)), (.int (1 : Int32)), (.ref b58), (.ref b58), (.ref b57), (.ref b57)])) rfl rfl (hb hby d9_264)
  refine Gl.pre (fun _ k => st60 _ k) ?_
  have Sf_b57 := Safe.wr W60 Sf_b58 CR59.1 Sf_b57
  have CR60 := CR59.trans (CHr.wr W60 Sf_b58 CR59.1)
  have Sf_b58 := Safe.wr W60 Sf_b58 CR59.1 Sf_b58
  have V_a1 := V_a1.other W60 (own_ne_a1_b58)
  have O_ := O_.wr W60 g_b58
  have E_b57 := E_b57.wr W60
  have F_value_b57 := F_value_b57.other W60 (Or.inl (own_ne_b57_b58))
  have F_coder_b57 := F_coder_b57.other W60 (Or.inl (own_ne_b57_b58))
  have Z60 : n0 ≤ h60.size := by rw [W60.size]; exact Z59
  have hk60 := Nat.le_trans hk59 (Nat.le_of_eq W60.size.symm)
  have N60 := Fr.snoc X60 N59 g_b58
  have K60 := K59.wr W60 (Or.inr sz_b58)
  have V_b58 : Bal Z h60 b58 .char [(nar .char (xs.getD 0 0)), (nar .char (xs.getD 1 0)), (0 : Int32), (0 : Int32), (0 : Int32), (0 : Int32), (0 : Int32)] := V60
  refine Y.dup X60 hx (hb hby d9_265) rfl rfl ?_
  refine Y.iconst X60 hx (hb hby d9_266) ?_
  refine Y.aloadN X60 hx (hb hby d9_267) rfl rfl ?_
  refine Y.iconst X60 hx (hb hby d9_268) ?_
  refine Gl.pre (fun _ k => own_ldC X60 hx hZ0 e60 V_a1 (j := (2 : Int32)) (i := 2) (by decide) (by decide) (by rw [hlen]; decide) (v := (xs.getD 2 0)) rfl (g := (mkF m 269 #[.val (.ref a1), .val (.int pn)] [(.int (2 : Int32)), (.ref a1), (.int (2 : Int32)), (.ref b58), (.ref b58), (.ref b57), (.ref b57)])) rfl rfl (hb hby d9_269) _ k) ?_
  obtain ⟨T61, h61, X61, e61, W61, V61, st61⟩ := own_stC X60 hx hZ0 e60 V_b58 (j := (2 : Int32)) (i := 2) (by decide) (by decide) (Nat.lt_of_lt_of_eq (by decide : 2 < 7) rfl) (g := (mkF m 270 #[.val (.ref a1), .val (.int pn)] [(.int (xs.getD 2 0)), (.int (2 : Int32)), (.ref b58), (.ref b58), (.ref b57), (.ref b57)])) rfl rfl (hb hby d9_270)
  refine Gl.pre (fun _ k => st61 _ k) ?_
  have Sf_b57 := Safe.wr W61 Sf_b58 CR60.1 Sf_b57
  have CR61 := CR60.trans (CHr.wr W61 Sf_b58 CR60.1)
  have Sf_b58 := Safe.wr W61 Sf_b58 CR60.1 Sf_b58
  have V_a1 := V_a1.other W61 (own_ne_a1_b58)
  have O_ := O_.wr W61 g_b58
  have E_b57 := E_b57.wr W61
  have F_value_b57 := F_value_b57.other W61 (Or.inl (own_ne_b57_b58))
  have F_coder_b57 := F_coder_b57.other W61 (Or.inl (own_ne_b57_b58))
  have Z61 : n0 ≤ h61.size := by rw [W61.size]; exact Z60
  have hk61 := Nat.le_trans hk60 (Nat.le_of_eq W61.size.symm)
  have N61 := Fr.snoc X61 N60 g_b58
  have K61 := K60.wr W61 (Or.inr sz_b58)
  have V_b58 : Bal Z h61 b58 .char [(nar .char (xs.getD 0 0)), (nar .char (xs.getD 1 0)), (nar .char (xs.getD 2 0)), (0 : Int32), (0 : Int32), (0 : Int32), (0 : Int32)] := V61
  refine Y.dup X61 hx (hb hby d9_271) rfl rfl ?_
  refine Y.iconst X61 hx (hb hby d9_272) ?_
  refine Y.aloadN X61 hx (hb hby d9_273) rfl rfl ?_
  refine Y.iconst X61 hx (hb hby d9_274) ?_
  refine Gl.pre (fun _ k => own_ldC X61 hx hZ0 e61 V_a1 (j := (3 : Int32)) (i := 3) (by decide) (by decide) (by rw [hlen]; decide) (v := (xs.getD 3 0)) rfl (g := (mkF m 275 #[.val (.ref a1), .val (.int pn)] [(.int (3 : Int32)), (.ref a1), (.int (3 : Int32)), (.ref b58), (.ref b58), (.ref b57), (.ref b57)])) rfl rfl (hb hby d9_275) _ k) ?_
  obtain ⟨T62, h62, X62, e62, W62, V62, st62⟩ := own_stC X61 hx hZ0 e61 V_b58 (j := (3 : Int32)) (i := 3) (by decide) (by decide) (Nat.lt_of_lt_of_eq (by decide : 3 < 7) rfl) (g := (mkF m 276 #[.val (.ref a1), .val (.int pn)] [(.int (xs.getD 3 0)), (.int (3 : Int32)), (.ref b58), (.ref b58), (.ref b57), (.ref b57)])) rfl rfl (hb hby d9_276)
  refine Gl.pre (fun _ k => st62 _ k) ?_
  have Sf_b57 := Safe.wr W62 Sf_b58 CR61.1 Sf_b57
  have CR62 := CR61.trans (CHr.wr W62 Sf_b58 CR61.1)
  have Sf_b58 := Safe.wr W62 Sf_b58 CR61.1 Sf_b58
  have V_a1 := V_a1.other W62 (own_ne_a1_b58)
  have O_ := O_.wr W62 g_b58
  have E_b57 := E_b57.wr W62
  have F_value_b57 := F_value_b57.other W62 (Or.inl (own_ne_b57_b58))
  have F_coder_b57 := F_coder_b57.other W62 (Or.inl (own_ne_b57_b58))
  have Z62 : n0 ≤ h62.size := by rw [W62.size]; exact Z61
  have hk62 := Nat.le_trans hk61 (Nat.le_of_eq W62.size.symm)
  have N62 := Fr.snoc X62 N61 g_b58
  have K62 := K61.wr W62 (Or.inr sz_b58)
  have V_b58 : Bal Z h62 b58 .char [(nar .char (xs.getD 0 0)), (nar .char (xs.getD 1 0)), (nar .char (xs.getD 2 0)), (nar .char (xs.getD 3 0)), (0 : Int32), (0 : Int32), (0 : Int32)] := V62
  refine Y.dup X62 hx (hb hby d9_277) rfl rfl ?_
  refine Y.iconst X62 hx (hb hby d9_278) ?_
  refine Y.aloadN X62 hx (hb hby d9_279) rfl rfl ?_
  refine Y.iconst X62 hx (hb hby d9_280) ?_
  refine Gl.pre (fun _ k => own_ldC X62 hx hZ0 e62 V_a1 (j := (4 : Int32)) (i := 4) (by decide) (by decide) (by rw [hlen]; decide) (v := (xs.getD 4 0)) rfl (g := (mkF m 281 #[.val (.ref a1), .val (.int pn)] [(.int (4 : Int32)), (.ref a1), (.int (4 : Int32)), (.ref b58), (.ref b58), (.ref b57), (.ref b57)])) rfl rfl (hb hby d9_281) _ k) ?_
  obtain ⟨T63, h63, X63, e63, W63, V63, st63⟩ := own_stC X62 hx hZ0 e62 V_b58 (j := (4 : Int32)) (i := 4) (by decide) (by decide) (Nat.lt_of_lt_of_eq (by decide : 4 < 7) rfl) (g := (mkF m 282 #[.val (.ref a1), .val (.int pn)] [(.int (xs.getD 4 0)), (.int (4 : Int32)), (.ref b58), (.ref b58), (.ref b57), (.ref b57)])) rfl rfl (hb hby d9_282)
  refine Gl.pre (fun _ k => st63 _ k) ?_
  have Sf_b57 := Safe.wr W63 Sf_b58 CR62.1 Sf_b57
  have CR63 := CR62.trans (CHr.wr W63 Sf_b58 CR62.1)
  have Sf_b58 := Safe.wr W63 Sf_b58 CR62.1 Sf_b58
  have V_a1 := V_a1.other W63 (own_ne_a1_b58)
  have O_ := O_.wr W63 g_b58
  have E_b57 := E_b57.wr W63
  have F_value_b57 := F_value_b57.other W63 (Or.inl (own_ne_b57_b58))
  have F_coder_b57 := F_coder_b57.other W63 (Or.inl (own_ne_b57_b58))
  have Z63 : n0 ≤ h63.size := by rw [W63.size]; exact Z62
  have hk63 := Nat.le_trans hk62 (Nat.le_of_eq W63.size.symm)
  have N63 := Fr.snoc X63 N62 g_b58
  have K63 := K62.wr W63 (Or.inr sz_b58)
  have V_b58 : Bal Z h63 b58 .char [(nar .char (xs.getD 0 0)), (nar .char (xs.getD 1 0)), (nar .char (xs.getD 2 0)), (nar .char (xs.getD 3 0)), (nar .char (xs.getD 4 0)), (0 : Int32), (0 : Int32)] := V63
  refine Y.dup X63 hx (hb hby d9_283) rfl rfl ?_
  refine Y.iconst X63 hx (hb hby d9_284) ?_
  refine Y.aloadN X63 hx (hb hby d9_285) rfl rfl ?_
  refine Y.iconst X63 hx (hb hby d9_286) ?_
  refine Gl.pre (fun _ k => own_ldC X63 hx hZ0 e63 V_a1 (j := (5 : Int32)) (i := 5) (by decide) (by decide) (by rw [hlen]; decide) (v := (xs.getD 5 0)) rfl (g := (mkF m 287 #[.val (.ref a1), .val (.int pn)] [(.int (5 : Int32)), (.ref a1), (.int (5 : Int32)), (.ref b58), (.ref b58), (.ref b57), (.ref b57)])) rfl rfl (hb hby d9_287) _ k) ?_
  obtain ⟨T64, h64, X64, e64, W64, V64, st64⟩ := own_stC X63 hx hZ0 e63 V_b58 (j := (5 : Int32)) (i := 5) (by decide) (by decide) (Nat.lt_of_lt_of_eq (by decide : 5 < 7) rfl) (g := (mkF m 288 #[.val (.ref a1), .val (.int pn)] [(.int (xs.getD 5 0)), (.int (5 : Int32)), (.ref b58), (.ref b58), (.ref b57), (.ref b57)])) rfl rfl (hb hby d9_288)
  refine Gl.pre (fun _ k => st64 _ k) ?_
  have Sf_b57 := Safe.wr W64 Sf_b58 CR63.1 Sf_b57
  have CR64 := CR63.trans (CHr.wr W64 Sf_b58 CR63.1)
  have Sf_b58 := Safe.wr W64 Sf_b58 CR63.1 Sf_b58
  have V_a1 := V_a1.other W64 (own_ne_a1_b58)
  have O_ := O_.wr W64 g_b58
  have E_b57 := E_b57.wr W64
  have F_value_b57 := F_value_b57.other W64 (Or.inl (own_ne_b57_b58))
  have F_coder_b57 := F_coder_b57.other W64 (Or.inl (own_ne_b57_b58))
  have Z64 : n0 ≤ h64.size := by rw [W64.size]; exact Z63
  have hk64 := Nat.le_trans hk63 (Nat.le_of_eq W64.size.symm)
  have N64 := Fr.snoc X64 N63 g_b58
  have K64 := K63.wr W64 (Or.inr sz_b58)
  have V_b58 : Bal Z h64 b58 .char [(nar .char (xs.getD 0 0)), (nar .char (xs.getD 1 0)), (nar .char (xs.getD 2 0)), (nar .char (xs.getD 3 0)), (nar .char (xs.getD 4 0)), (nar .char (xs.getD 5 0)), (0 : Int32)] := V64
  refine Y.dup X64 hx (hb hby d9_289) rfl rfl ?_
  refine Y.bipush X64 hx (hb hby d9_290) ?_
  refine Y.aloadN X64 hx (hb hby d9_292) rfl rfl ?_
  refine Y.bipush X64 hx (hb hby d9_293) ?_
  refine Gl.pre (fun _ k => own_ldC X64 hx hZ0 e64 V_a1 (j := (6 : Int32)) (i := 6) (by decide) (by decide) (by rw [hlen]; decide) (v := (xs.getD 6 0)) rfl (g := (mkF m 295 #[.val (.ref a1), .val (.int pn)] [(.int (6 : Int32)), (.ref a1), (.int (6 : Int32)), (.ref b58), (.ref b58), (.ref b57), (.ref b57)])) rfl rfl (hb hby d9_295) _ k) ?_
  obtain ⟨T65, h65, X65, e65, W65, V65, st65⟩ := own_stC X64 hx hZ0 e64 V_b58 (j := (6 : Int32)) (i := 6) (by decide) (by decide) (Nat.lt_of_lt_of_eq (by decide : 6 < 7) rfl) (g := (mkF m 296 #[.val (.ref a1), .val (.int pn)] [(.int (xs.getD 6 0)), (.int (6 : Int32)), (.ref b58), (.ref b58), (.ref b57), (.ref b57)])) rfl rfl (hb hby d9_296)
  refine Gl.pre (fun _ k => st65 _ k) ?_
  have Sf_b57 := Safe.wr W65 Sf_b58 CR64.1 Sf_b57
  have CR65 := CR64.trans (CHr.wr W65 Sf_b58 CR64.1)
  have Sf_b58 := Safe.wr W65 Sf_b58 CR64.1 Sf_b58
  have V_a1 := V_a1.other W65 (own_ne_a1_b58)
  have O_ := O_.wr W65 g_b58
  have E_b57 := E_b57.wr W65
  have F_value_b57 := F_value_b57.other W65 (Or.inl (own_ne_b57_b58))
  have F_coder_b57 := F_coder_b57.other W65 (Or.inl (own_ne_b57_b58))
  have Z65 : n0 ≤ h65.size := by rw [W65.size]; exact Z64
  have hk65 := Nat.le_trans hk64 (Nat.le_of_eq W65.size.symm)
  have N65 := Fr.snoc X65 N64 g_b58
  have K65 := K64.wr W65 (Or.inr sz_b58)
  have V_b58 : Bal Z h65 b58 .char [(nar .char (xs.getD 0 0)), (nar .char (xs.getD 1 0)), (nar .char (xs.getD 2 0)), (nar .char (xs.getD 3 0)), (nar .char (xs.getD 4 0)), (nar .char (xs.getD 5 0)), (nar .char (xs.getD 6 0))] := V65
  have VC66 : Bal Z h65 b58 .char [(xs.getD 0 0), (xs.getD 1 0), (xs.getD 2 0), (xs.getD 3 0), (xs.getD 4 0), (xs.getD 5 0), (xs.getD 6 0)] := by have q := V_b58; rw [own_nc (own_gr hxs 0), own_nc (own_gr hxs 1), own_nc (own_gr hxs 2), own_nc (own_gr hxs 3), own_nc (own_gr hxs 4), own_nc (own_gr hxs 5), own_nc (own_gr hxs 6)] at q; exact q
  obtain ⟨kc66, KC66⟩ := own_arvC VC66 (by intro x hx; simp only [List.mem_cons, List.not_mem_nil, or_false] at hx; rcases hx with rfl | rfl | rfl | rfl | rfl | rfl | rfl <;> exact own_fitc (own_gr hxs _)) (by simp only [List.length_cons, List.length_nil]; decide)
  have hp66 : ∀ c ∈ [(xs.getD 0 0), (xs.getD 1 0), (xs.getD 2 0), (xs.getD 3 0), (xs.getD 4 0), (xs.getD 5 0), (xs.getD 6 0)], ¬ c < 0 ∧ ¬ (255 : Int32) < c := by intro x hx; simp only [List.mem_cons, List.not_mem_nil, or_false] at hx; rcases hx with rfl | rfl | rfl | rfl | rfl | rfl | rfl <;> exact own_gr hxs _
  obtain ⟨_, _, ⟨T67, L67, k67, n67⟩, -, X67, ⟨Lc67, hQ67, l67, y67, z67⟩, st67⟩ := X65.specialBack hx (y := (⟨"java/lang/String", "<init>", "([C)V"⟩ : MethodName)) rfl hown0 (mvT hZ0 (W 56 rfl)) (mvT hZ0 (W 57 rfl)) (mvT hZ0 (W 58 rfl)) (by decide) (StrChars.Road.backV (W := 1) hZ0 hwwords (kI := 4) (W 3 rfl) (cs := [(xs.getD 0 0), (xs.getD 1 0), (xs.getD 2 0), (xs.getD 3 0), (xs.getD 4 0), (xs.getD 5 0), (xs.getD 6 0)]) (n := 7) g_b57 Z65 E_b57 F_value_b57 F_coder_b57 KC66 (SBC.ext O_.2) hcs (by first | rfl | simp) (by first | rfl | simp) (by decide) (by decide) hp66 rfl (by decide) (by decide)) (g := (mkF m 297 #[.val (.ref a1), .val (.int pn)] [(.ref b58), (.ref b57), (.ref b57)])) rfl (by rw [hml]; rfl) (Steps.refl _) (a := b57) (argsL := [(.ref b58)]) (rest := [(.ref b57)]) (lenOf pd_3 rfl) rfl (by show 2 * 0 + _ ≤ _; exact Nat.le_of_eq rfl) (hb hby d9_297) (fun _ _ => ⟨rfl, e65, (by decide : 2 + 1 ≤ _), (by decide : 11 + 7 ≤ _)⟩)
  dsimp only [Pt.U, Pt.locs, Pt.cells, Pt.slots] at X67 l67 y67 z67 st67 hQ67
  subst l67 y67 z67
  obtain ⟨rfl, N67q, K67, Ex67, Fc67, tv67, kt67, -, hz67, hnx67, Fv67, Kt67⟩ := hQ67
  have N67 := Fr.app N65 N67q
  refine Gl.pre (fun _ k => st67.trans k) ?_
  have own_ne_a1_tv67 : a1 ≠ tv67 := Nat.ne_of_lt (Nat.lt_of_lt_of_le V_a1.lt hz67)
  have own_ne_tv67_a1 := own_ne_a1_tv67.symm
  have own_ne_b57_tv67 : b57 ≠ tv67 := Nat.ne_of_lt (Nat.lt_of_lt_of_le E_b57.lt hz67)
  have own_ne_tv67_b57 := own_ne_b57_tv67.symm
  have own_ne_b58_tv67 : b58 ≠ tv67 := Nat.ne_of_lt (Nat.lt_of_lt_of_le V_b58.lt hz67)
  have own_ne_tv67_b58 := own_ne_b58_tv67.symm
  have g_tv67 : n0 ≤ tv67 := Nat.le_trans Z65 hz67
  have sz_tv67 : h0.size ≤ tv67 := Nat.le_trans K65.1 hz67
  have Sf_tv670 := Safe.new (Z := Z) (EL := own_EL) (vm := s.vm) hz67
  have hs67 : ∀ x ∈ [b57], Safe Z own_EL _ _ x := (allS Sf_b57 all0)
  have Sf_b57 := Safe.keep K67 hs67 CR65.1 Sf_b57
  have Sf_b58 := Safe.keep K67 hs67 CR65.1 Sf_b58
  have CR67 := CR65.trans (CHr.keep K67 hs67 CR65.1)
  have V_a1 := V_a1.keep K67 (ninS (own_ne_a1_b57) nin0)
  have O_ := O_.keep K67 (allS g_b57 all0)
  have E_b57 := E_b57.keep K67
  have V_b58 := V_b58.keep K67 (ninS (own_ne_b58_b57) nin0)
  have hk67 := Nat.le_trans hk65 K67.1
  have Z67 : n0 ≤ T67.heap.size := Nat.le_trans Z65 K67.1
  have K67k := K65.trans K67 (allS (Or.inr sz_b57) all0)
  have F_value_b57 := Fv67
  have F_coder_b57 := Fc67
  show Gl p.tables e below PP (T67.setTop (mkF m 300 #[.val (.ref a1), .val (.int pn)] [(.ref b57)]))
  rw [hPP]
  refine own_finAW (Q := (Q9 Z a1 pn xs cs h0 n0)) (Z := Z) (EL := own_EL) X67 hx hlk hS0 hk67 Bd.returns rfl rfl (hb hby d9_300) ?_ (by rw [hh]; exact CR67.trans (CHv.at X67 hZ0 hEL CR67.1)) (by decide) (by decide)
  show Q9 Z a1 pn xs cs h0 n0 _ T67.heap _
  refine ⟨b57, tv67, _, [(xs.getD 0 0), (xs.getD 1 0), (xs.getD 2 0), (xs.getD 3 0), (xs.getD 4 0), (xs.getD 5 0), (xs.getD 6 0)], ?_, rfl, N67, K67k, sz_b57, E_b57, F_value_b57, F_coder_b57, Kt67⟩
  rw [hc56, own_i7]; exact own_tk7 hlen
  refine Y.icmpYes X0 hx (pc0 := 242) (pc' := 301) rfl (hb hby d9_242) rfl (feq hc56).2 (by decide) (by decide) ?_
  obtain ⟨T68, h68, X68, e68, E68, A68, D68, -, st68⟩ := newO X0 hx hZ0 hown0 (W 55 rfl) (W 3 rfl) (W 2 rfl) e0 (g := (mkF m 301 #[.val (.ref a1), .val (.int pn)] [])) rfl (hb hby d9_301) (by decide) (by decide)
  obtain ⟨b68, g68⟩ : ∃ z, z = h0.size := ⟨_, rfl⟩
  rw [← g68] at A68 D68 st68
  refine Gl.pre (fun _ k => st68 _ k) ?_
  have own_ne_a1_b68 : a1 ≠ b68 := by have q := V_a1.lt; rw [g68]; exact Nat.ne_of_lt q
  have own_ne_b68_a1 : b68 ≠ a1 := own_ne_a1_b68.symm
  have g_b68 : n0 ≤ b68 := Nat.le_trans Z0 (Nat.le_of_eq g68.symm)
  have sz_b68 : h0.size ≤ b68 := Nat.le_trans K0.1 (Nat.le_of_eq g68.symm)
  have Sf_b68 := Safe.ext E68 CR0.1 (Safe.new (Z := Z) (EL := own_EL) (vm := s.vm) (Nat.le_of_eq g68.symm))
  have CR68 := CR0.trans (CHr.ext E68 CR0.1)
  have V_a1 := V_a1.ext E68
  have O_ := O_.ext E68
  have Z68 : n0 ≤ h68.size := Nat.le_trans Z0 E68.1
  have hk68 := Nat.le_trans hk0 E68.1
  have K68 := K0.ext E68
  have E_b68 := A68
  have F_value_b68 : Fld Z h68 b68 "java/lang/String" "value" "[B" .null := D68 (Or.inr (W 5 rfl)) (ty := (.array .byte)) (by decide)
  have F_coder_b68 : Fld Z h68 b68 "java/lang/String" "coder" "B" (.int (0 : Int32)) := D68 (Or.inr (W 6 rfl)) (ty := .byte) (by decide)
  refine Y.dup X68 hx (hb hby d9_304) rfl rfl ?_
  refine Y.bipush X68 hx (hb hby d9_305) ?_
  obtain ⟨T69, h69, k69, X69, e69, E69, A69, st69⟩ := newP X68 hx hZ0 (W 25 rfl) e68 (g := (mkF m 307 #[.val (.ref a1), .val (.int pn)] [(.int (8 : Int32)), (.ref b68), (.ref b68)])) rfl (hb hby d9_307) rfl (by decide) (cap := 8) (by decide) (by decide) (by decide) (by decide)
  obtain ⟨b69, g69⟩ : ∃ z, z = h68.size := ⟨_, rfl⟩
  rw [← g69] at A69 st69
  refine Gl.pre (fun _ k => st69 _ k) ?_
  have own_ne_a1_b69 : a1 ≠ b69 := by have q := V_a1.lt; rw [g69]; exact Nat.ne_of_lt q
  have own_ne_b69_a1 : b69 ≠ a1 := own_ne_a1_b69.symm
  have own_ne_b68_b69 : b68 ≠ b69 := by have q := E_b68.lt; rw [g69]; exact Nat.ne_of_lt q
  have own_ne_b69_b68 : b69 ≠ b68 := own_ne_b68_b69.symm
  have g_b69 : n0 ≤ b69 := Nat.le_trans Z68 (Nat.le_of_eq g69.symm)
  have sz_b69 : h0.size ≤ b69 := Nat.le_trans K68.1 (Nat.le_of_eq g69.symm)
  have Sf_b69 := Safe.ext E69 CR68.1 (Safe.new (Z := Z) (EL := own_EL) (vm := s.vm) (Nat.le_of_eq g69.symm))
  have Sf_b68 := Safe.ext E69 CR68.1 Sf_b68
  have CR69 := CR68.trans (CHr.ext E69 CR68.1)
  have V_a1 := V_a1.ext E69
  have O_ := O_.ext E69
  have E_b68 := E_b68.ext E69
  have F_value_b68 := F_value_b68.ext E69
  have F_coder_b68 := F_coder_b68.ext E69
  have Z69 : n0 ≤ h69.size := Nat.le_trans Z68 E69.1
  have hk69 := Nat.le_trans hk68 E69.1
  have K69 := K68.ext E69
  have V_b69 : Bal Z h69 b69 .char [(0 : Int32), (0 : Int32), (0 : Int32), (0 : Int32), (0 : Int32), (0 : Int32), (0 : Int32), (0 : Int32)] := Bal.new (ty := .char) A69 (n := 8) (by decide) rfl
  refine Y.dup X69 hx (hb hby d9_309) rfl rfl ?_
  refine Y.iconst X69 hx (hb hby d9_310) ?_
  refine Y.aloadN X69 hx (hb hby d9_311) rfl rfl ?_
  refine Y.iconst X69 hx (hb hby d9_312) ?_
  refine Gl.pre (fun _ k => own_ldC X69 hx hZ0 e69 V_a1 (j := (0 : Int32)) (i := 0) (by decide) (by decide) (by rw [hlen]; decide) (v := (xs.getD 0 0)) rfl (g := (mkF m 313 #[.val (.ref a1), .val (.int pn)] [(.int (0 : Int32)), (.ref a1), (.int (0 : Int32)), (.ref b69), (.ref b69), (.ref b68), (.ref b68)])) rfl rfl (hb hby d9_313) _ k) ?_
  obtain ⟨T70, h70, X70, e70, W70, V70, st70⟩ := own_stC X69 hx hZ0 e69 V_b69 (j := (0 : Int32)) (i := 0) (by decide) (by decide) (Nat.lt_of_lt_of_eq (by decide : 0 < 8) rfl) (g := (mkF m 314 #[.val (.ref a1), .val (.int pn)] [(.int (xs.getD 0 0)), (.int (0 : Int32)), (.ref b69), (.ref b69), (.ref b68), (.ref b68)])) rfl rfl (hb hby d9_314)
  refine Gl.pre (fun _ k => st70 _ k) ?_
  have Sf_b68 := Safe.wr W70 Sf_b69 CR69.1 Sf_b68
  have CR70 := CR69.trans (CHr.wr W70 Sf_b69 CR69.1)
  have Sf_b69 := Safe.wr W70 Sf_b69 CR69.1 Sf_b69
  have V_a1 := V_a1.other W70 (own_ne_a1_b69)
  have O_ := O_.wr W70 g_b69
  have E_b68 := E_b68.wr W70
  have F_value_b68 := F_value_b68.other W70 (Or.inl (own_ne_b68_b69))
  have F_coder_b68 := F_coder_b68.other W70 (Or.inl (own_ne_b68_b69))
  have Z70 : n0 ≤ h70.size := by rw [W70.size]; exact Z69
  have hk70 := Nat.le_trans hk69 (Nat.le_of_eq W70.size.symm)
  have N70 := Fr.snoc X70 N0 g_b69
  have K70 := K69.wr W70 (Or.inr sz_b69)
  have V_b69 : Bal Z h70 b69 .char [(nar .char (xs.getD 0 0)), (0 : Int32), (0 : Int32), (0 : Int32), (0 : Int32), (0 : Int32), (0 : Int32), (0 : Int32)] := V70
  refine Y.dup X70 hx (hb hby d9_315) rfl rfl ?_
  refine Y.iconst X70 hx (hb hby d9_316) ?_
  refine Y.aloadN X70 hx (hb hby d9_317) rfl rfl ?_
  refine Y.iconst X70 hx (hb hby d9_318) ?_
  refine Gl.pre (fun _ k => own_ldC X70 hx hZ0 e70 V_a1 (j := (1 : Int32)) (i := 1) (by decide) (by decide) (by rw [hlen]; decide) (v := (xs.getD 1 0)) rfl (g := (mkF m 319 #[.val (.ref a1), .val (.int pn)] [(.int (1 : Int32)), (.ref a1), (.int (1 : Int32)), (.ref b69), (.ref b69), (.ref b68), (.ref b68)])) rfl rfl (hb hby d9_319) _ k) ?_
  obtain ⟨T71, h71, X71, e71, W71, V71, st71⟩ := own_stC X70 hx hZ0 e70 V_b69 (j := (1 : Int32)) (i := 1) (by decide) (by decide) (Nat.lt_of_lt_of_eq (by decide : 1 < 8) rfl) (g := (mkF m 320 #[.val (.ref a1), .val (.int pn)] [(.int (xs.getD 1 0)), (.int (1 : Int32)), (.ref b69), (.ref b69), (.ref b68), (.ref b68)])) rfl rfl (hb hby d9_320)
  refine Gl.pre (fun _ k => st71 _ k) ?_
  have Sf_b68 := Safe.wr W71 Sf_b69 CR70.1 Sf_b68
  have CR71 := CR70.trans (CHr.wr W71 Sf_b69 CR70.1)
  have Sf_b69 := Safe.wr W71 Sf_b69 CR70.1 Sf_b69
  have V_a1 := V_a1.other W71 (own_ne_a1_b69)
  have O_ := O_.wr W71 g_b69
  have E_b68 := E_b68.wr W71
  have F_value_b68 := F_value_b68.other W71 (Or.inl (own_ne_b68_b69))
  have F_coder_b68 := F_coder_b68.other W71 (Or.inl (own_ne_b68_b69))
  have Z71 : n0 ≤ h71.size := by rw [W71.size]; exact Z70
  have hk71 := Nat.le_trans hk70 (Nat.le_of_eq W71.size.symm)
  have N71 := Fr.snoc X71 N70 g_b69
  have K71 := K70.wr W71 (Or.inr sz_b69)
  have V_b69 : Bal Z h71 b69 .char [(nar .char (xs.getD 0 0)), (nar .char (xs.getD 1 0)), (0 : Int32), (0 : Int32), (0 : Int32), (0 : Int32), (0 : Int32), (0 : Int32)] := V71
  refine Y.dup X71 hx (hb hby d9_321) rfl rfl ?_
  refine Y.iconst X71 hx (hb hby d9_322) ?_
  refine Y.aloadN X71 hx (hb hby d9_323) rfl rfl ?_
  refine Y.iconst X71 hx (hb hby d9_324) ?_
  refine Gl.pre (fun _ k => own_ldC X71 hx hZ0 e71 V_a1 (j := (2 : Int32)) (i := 2) (by decide) (by decide) (by rw [hlen]; decide) (v := (xs.getD 2 0)) rfl (g := (mkF m 325 #[.val (.ref a1), .val (.int pn)] [(.int (2 : Int32)), (.ref a1), (.int (2 : Int32)), (.ref b69), (.ref b69), (.ref b68), (.ref b68)])) rfl rfl (hb hby d9_325) _ k) ?_
  obtain ⟨T72, h72, X72, e72, W72, V72, st72⟩ := own_stC X71 hx hZ0 e71 V_b69 (j := (2 : Int32)) (i := 2) (by decide) (by decide) (Nat.lt_of_lt_of_eq (by decide : 2 < 8) rfl) (g := (mkF m 326 #[.val (.ref a1), .val (.int pn)] [(.int (xs.getD 2 0)), (.int (2 : Int32)), (.ref b69), (.ref b69), (.ref b68), (.ref b68)])) rfl rfl (hb hby d9_326)
  refine Gl.pre (fun _ k => st72 _ k) ?_
  have Sf_b68 := Safe.wr W72 Sf_b69 CR71.1 Sf_b68
  have CR72 := CR71.trans (CHr.wr W72 Sf_b69 CR71.1)
  have Sf_b69 := Safe.wr W72 Sf_b69 CR71.1 Sf_b69
  have V_a1 := V_a1.other W72 (own_ne_a1_b69)
  have O_ := O_.wr W72 g_b69
  have E_b68 := E_b68.wr W72
  have F_value_b68 := F_value_b68.other W72 (Or.inl (own_ne_b68_b69))
  have F_coder_b68 := F_coder_b68.other W72 (Or.inl (own_ne_b68_b69))
  have Z72 : n0 ≤ h72.size := by rw [W72.size]; exact Z71
  have hk72 := Nat.le_trans hk71 (Nat.le_of_eq W72.size.symm)
  have N72 := Fr.snoc X72 N71 g_b69
  have K72 := K71.wr W72 (Or.inr sz_b69)
  have V_b69 : Bal Z h72 b69 .char [(nar .char (xs.getD 0 0)), (nar .char (xs.getD 1 0)), (nar .char (xs.getD 2 0)), (0 : Int32), (0 : Int32), (0 : Int32), (0 : Int32), (0 : Int32)] := V72
  refine Y.dup X72 hx (hb hby d9_327) rfl rfl ?_
  refine Y.iconst X72 hx (hb hby d9_328) ?_
  refine Y.aloadN X72 hx (hb hby d9_329) rfl rfl ?_
  refine Y.iconst X72 hx (hb hby d9_330) ?_
  refine Gl.pre (fun _ k => own_ldC X72 hx hZ0 e72 V_a1 (j := (3 : Int32)) (i := 3) (by decide) (by decide) (by rw [hlen]; decide) (v := (xs.getD 3 0)) rfl (g := (mkF m 331 #[.val (.ref a1), .val (.int pn)] [(.int (3 : Int32)), (.ref a1), (.int (3 : Int32)), (.ref b69), (.ref b69), (.ref b68), (.ref b68)])) rfl rfl (hb hby d9_331) _ k) ?_
  obtain ⟨T73, h73, X73, e73, W73, V73, st73⟩ := own_stC X72 hx hZ0 e72 V_b69 (j := (3 : Int32)) (i := 3) (by decide) (by decide) (Nat.lt_of_lt_of_eq (by decide : 3 < 8) rfl) (g := (mkF m 332 #[.val (.ref a1), .val (.int pn)] [(.int (xs.getD 3 0)), (.int (3 : Int32)), (.ref b69), (.ref b69), (.ref b68), (.ref b68)])) rfl rfl (hb hby d9_332)
  refine Gl.pre (fun _ k => st73 _ k) ?_
  have Sf_b68 := Safe.wr W73 Sf_b69 CR72.1 Sf_b68
  have CR73 := CR72.trans (CHr.wr W73 Sf_b69 CR72.1)
  have Sf_b69 := Safe.wr W73 Sf_b69 CR72.1 Sf_b69
  have V_a1 := V_a1.other W73 (own_ne_a1_b69)
  have O_ := O_.wr W73 g_b69
  have E_b68 := E_b68.wr W73
  have F_value_b68 := F_value_b68.other W73 (Or.inl (own_ne_b68_b69))
  have F_coder_b68 := F_coder_b68.other W73 (Or.inl (own_ne_b68_b69))
  have Z73 : n0 ≤ h73.size := by rw [W73.size]; exact Z72
  have hk73 := Nat.le_trans hk72 (Nat.le_of_eq W73.size.symm)
  have N73 := Fr.snoc X73 N72 g_b69
  have K73 := K72.wr W73 (Or.inr sz_b69)
  have V_b69 : Bal Z h73 b69 .char [(nar .char (xs.getD 0 0)), (nar .char (xs.getD 1 0)), (nar .char (xs.getD 2 0)), (nar .char (xs.getD 3 0)), (0 : Int32), (0 : Int32), (0 : Int32), (0 : Int32)] := V73
  refine Y.dup X73 hx (hb hby d9_333) rfl rfl ?_
  refine Y.iconst X73 hx (hb hby d9_334) ?_
  refine Y.aloadN X73 hx (hb hby d9_335) rfl rfl ?_
  refine Y.iconst X73 hx (hb hby d9_336) ?_
  refine Gl.pre (fun _ k => own_ldC X73 hx hZ0 e73 V_a1 (j := (4 : Int32)) (i := 4) (by decide) (by decide) (by rw [hlen]; decide) (v := (xs.getD 4 0)) rfl (g := (mkF m 337 #[.val (.ref a1), .val (.int pn)] [(.int (4 : Int32)), (.ref a1), (.int (4 : Int32)), (.ref b69), (.ref b69), (.ref b68), (.ref b68)])) rfl rfl (hb hby d9_337) _ k) ?_
  obtain ⟨T74, h74, X74, e74, W74, V74, st74⟩ := own_stC X73 hx hZ0 e73 V_b69 (j := (4 : Int32)) (i := 4) (by decide) (by decide) (Nat.lt_of_lt_of_eq (by decide : 4 < 8) rfl) (g := (mkF m 338 #[.val (.ref a1), .val (.int pn)] [(.int (xs.getD 4 0)), (.int (4 : Int32)), (.ref b69), (.ref b69), (.ref b68), (.ref b68)])) rfl rfl (hb hby d9_338)
  refine Gl.pre (fun _ k => st74 _ k) ?_
  have Sf_b68 := Safe.wr W74 Sf_b69 CR73.1 Sf_b68
  have CR74 := CR73.trans (CHr.wr W74 Sf_b69 CR73.1)
  have Sf_b69 := Safe.wr W74 Sf_b69 CR73.1 Sf_b69
  have V_a1 := V_a1.other W74 (own_ne_a1_b69)
  have O_ := O_.wr W74 g_b69
  have E_b68 := E_b68.wr W74
  have F_value_b68 := F_value_b68.other W74 (Or.inl (own_ne_b68_b69))
  have F_coder_b68 := F_coder_b68.other W74 (Or.inl (own_ne_b68_b69))
  have Z74 : n0 ≤ h74.size := by rw [W74.size]; exact Z73
  have hk74 := Nat.le_trans hk73 (Nat.le_of_eq W74.size.symm)
  have N74 := Fr.snoc X74 N73 g_b69
  have K74 := K73.wr W74 (Or.inr sz_b69)
  have V_b69 : Bal Z h74 b69 .char [(nar .char (xs.getD 0 0)), (nar .char (xs.getD 1 0)), (nar .char (xs.getD 2 0)), (nar .char (xs.getD 3 0)), (nar .char (xs.getD 4 0)), (0 : Int32), (0 : Int32), (0 : Int32)] := V74
  refine Y.dup X74 hx (hb hby d9_339) rfl rfl ?_
  refine Y.iconst X74 hx (hb hby d9_340) ?_
  refine Y.aloadN X74 hx (hb hby d9_341) rfl rfl ?_
  refine Y.iconst X74 hx (hb hby d9_342) ?_
  refine Gl.pre (fun _ k => own_ldC X74 hx hZ0 e74 V_a1 (j := (5 : Int32)) (i := 5) (by decide) (by decide) (by rw [hlen]; decide) (v := (xs.getD 5 0)) rfl (g := (mkF m 343 #[.val (.ref a1), .val (.int pn)] [(.int (5 : Int32)), (.ref a1), (.int (5 : Int32)), (.ref b69), (.ref b69), (.ref b68), (.ref b68)])) rfl rfl (hb hby d9_343) _ k) ?_
  obtain ⟨T75, h75, X75, e75, W75, V75, st75⟩ := own_stC X74 hx hZ0 e74 V_b69 (j := (5 : Int32)) (i := 5) (by decide) (by decide) (Nat.lt_of_lt_of_eq (by decide : 5 < 8) rfl) (g := (mkF m 344 #[.val (.ref a1), .val (.int pn)] [(.int (xs.getD 5 0)), (.int (5 : Int32)), (.ref b69), (.ref b69), (.ref b68), (.ref b68)])) rfl rfl (hb hby d9_344)
  refine Gl.pre (fun _ k => st75 _ k) ?_
  have Sf_b68 := Safe.wr W75 Sf_b69 CR74.1 Sf_b68
  have CR75 := CR74.trans (CHr.wr W75 Sf_b69 CR74.1)
  have Sf_b69 := Safe.wr W75 Sf_b69 CR74.1 Sf_b69
  have V_a1 := V_a1.other W75 (own_ne_a1_b69)
  have O_ := O_.wr W75 g_b69
  have E_b68 := E_b68.wr W75
  have F_value_b68 := F_value_b68.other W75 (Or.inl (own_ne_b68_b69))
  have F_coder_b68 := F_coder_b68.other W75 (Or.inl (own_ne_b68_b69))
  have Z75 : n0 ≤ h75.size := by rw [W75.size]; exact Z74
  have hk75 := Nat.le_trans hk74 (Nat.le_of_eq W75.size.symm)
  have N75 := Fr.snoc X75 N74 g_b69
  have K75 := K74.wr W75 (Or.inr sz_b69)
  have V_b69 : Bal Z h75 b69 .char [(nar .char (xs.getD 0 0)), (nar .char (xs.getD 1 0)), (nar .char (xs.getD 2 0)), (nar .char (xs.getD 3 0)), (nar .char (xs.getD 4 0)), (nar .char (xs.getD 5 0)), (0 : Int32), (0 : Int32)] := V75
  refine Y.dup X75 hx (hb hby d9_345) rfl rfl ?_
  refine Y.bipush X75 hx (hb hby d9_346) ?_
  refine Y.aloadN X75 hx (hb hby d9_348) rfl rfl ?_
  refine Y.bipush X75 hx (hb hby d9_349) ?_
  refine Gl.pre (fun _ k => own_ldC X75 hx hZ0 e75 V_a1 (j := (6 : Int32)) (i := 6) (by decide) (by decide) (by rw [hlen]; decide) (v := (xs.getD 6 0)) rfl (g := (mkF m 351 #[.val (.ref a1), .val (.int pn)] [(.int (6 : Int32)), (.ref a1), (.int (6 : Int32)), (.ref b69), (.ref b69), (.ref b68), (.ref b68)])) rfl rfl (hb hby d9_351) _ k) ?_
  obtain ⟨T76, h76, X76, e76, W76, V76, st76⟩ := own_stC X75 hx hZ0 e75 V_b69 (j := (6 : Int32)) (i := 6) (by decide) (by decide) (Nat.lt_of_lt_of_eq (by decide : 6 < 8) rfl) (g := (mkF m 352 #[.val (.ref a1), .val (.int pn)] [(.int (xs.getD 6 0)), (.int (6 : Int32)), (.ref b69), (.ref b69), (.ref b68), (.ref b68)])) rfl rfl (hb hby d9_352)
  refine Gl.pre (fun _ k => st76 _ k) ?_
  have Sf_b68 := Safe.wr W76 Sf_b69 CR75.1 Sf_b68
  have CR76 := CR75.trans (CHr.wr W76 Sf_b69 CR75.1)
  have Sf_b69 := Safe.wr W76 Sf_b69 CR75.1 Sf_b69
  have V_a1 := V_a1.other W76 (own_ne_a1_b69)
  have O_ := O_.wr W76 g_b69
  have E_b68 := E_b68.wr W76
  have F_value_b68 := F_value_b68.other W76 (Or.inl (own_ne_b68_b69))
  have F_coder_b68 := F_coder_b68.other W76 (Or.inl (own_ne_b68_b69))
  have Z76 : n0 ≤ h76.size := by rw [W76.size]; exact Z75
  have hk76 := Nat.le_trans hk75 (Nat.le_of_eq W76.size.symm)
  have N76 := Fr.snoc X76 N75 g_b69
  have K76 := K75.wr W76 (Or.inr sz_b69)
  have V_b69 : Bal Z h76 b69 .char [(nar .char (xs.getD 0 0)), (nar .char (xs.getD 1 0)), (nar .char (xs.getD 2 0)), (nar .char (xs.getD 3 0)), (nar .char (xs.getD 4 0)), (nar .char (xs.getD 5 0)), (nar .char (xs.getD 6 0)), (0 : Int32)] := V76
  refine Y.dup X76 hx (hb hby d9_353) rfl rfl ?_
  refine Y.bipush X76 hx (hb hby d9_354) ?_
  refine Y.aloadN X76 hx (hb hby d9_356) rfl rfl ?_
  refine Y.bipush X76 hx (hb hby d9_357) ?_
  refine Gl.pre (fun _ k => own_ldC X76 hx hZ0 e76 V_a1 (j := (7 : Int32)) (i := 7) (by decide) (by decide) (by rw [hlen]; decide) (v := (xs.getD 7 0)) rfl (g := (mkF m 359 #[.val (.ref a1), .val (.int pn)] [(.int (7 : Int32)), (.ref a1), (.int (7 : Int32)), (.ref b69), (.ref b69), (.ref b68), (.ref b68)])) rfl rfl (hb hby d9_359) _ k) ?_
  obtain ⟨T77, h77, X77, e77, W77, V77, st77⟩ := own_stC X76 hx hZ0 e76 V_b69 (j := (7 : Int32)) (i := 7) (by decide) (by decide) (Nat.lt_of_lt_of_eq (by decide : 7 < 8) rfl) (g := (mkF m 360 #[.val (.ref a1), .val (.int pn)] [(.int (xs.getD 7 0)), (.int (7 : Int32)), (.ref b69), (.ref b69), (.ref b68), (.ref b68)])) rfl rfl (hb hby d9_360)
  refine Gl.pre (fun _ k => st77 _ k) ?_
  have Sf_b68 := Safe.wr W77 Sf_b69 CR76.1 Sf_b68
  have CR77 := CR76.trans (CHr.wr W77 Sf_b69 CR76.1)
  have Sf_b69 := Safe.wr W77 Sf_b69 CR76.1 Sf_b69
  have V_a1 := V_a1.other W77 (own_ne_a1_b69)
  have O_ := O_.wr W77 g_b69
  have E_b68 := E_b68.wr W77
  have F_value_b68 := F_value_b68.other W77 (Or.inl (own_ne_b68_b69))
  have F_coder_b68 := F_coder_b68.other W77 (Or.inl (own_ne_b68_b69))
  have Z77 : n0 ≤ h77.size := by rw [W77.size]; exact Z76
  have hk77 := Nat.le_trans hk76 (Nat.le_of_eq W77.size.symm)
  have N77 := Fr.snoc X77 N76 g_b69
  have K77 := K76.wr W77 (Or.inr sz_b69)
  have V_b69 : Bal Z h77 b69 .char [(nar .char (xs.getD 0 0)), (nar .char (xs.getD 1 0)), (nar .char (xs.getD 2 0)), (nar .char (xs.getD 3 0)), (nar .char (xs.getD 4 0)), (nar .char (xs.getD 5 0)), (nar .char (xs.getD 6 0)), (nar .char (xs.getD 7 0))] := V77
  have VC78 : Bal Z h77 b69 .char [(xs.getD 0 0), (xs.getD 1 0), (xs.getD 2 0), (xs.getD 3 0), (xs.getD 4 0), (xs.getD 5 0), (xs.getD 6 0), (xs.getD 7 0)] := by have q := V_b69; rw [own_nc (own_gr hxs 0), own_nc (own_gr hxs 1), own_nc (own_gr hxs 2), own_nc (own_gr hxs 3), own_nc (own_gr hxs 4), own_nc (own_gr hxs 5), own_nc (own_gr hxs 6), own_nc (own_gr hxs 7)] at q; exact q
  obtain ⟨kc78, KC78⟩ := own_arvC VC78 (by intro x hx; simp only [List.mem_cons, List.not_mem_nil, or_false] at hx; rcases hx with rfl | rfl | rfl | rfl | rfl | rfl | rfl | rfl <;> exact own_fitc (own_gr hxs _)) (by simp only [List.length_cons, List.length_nil]; decide)
  have hp78 : ∀ c ∈ [(xs.getD 0 0), (xs.getD 1 0), (xs.getD 2 0), (xs.getD 3 0), (xs.getD 4 0), (xs.getD 5 0), (xs.getD 6 0), (xs.getD 7 0)], ¬ c < 0 ∧ ¬ (255 : Int32) < c := by intro x hx; simp only [List.mem_cons, List.not_mem_nil, or_false] at hx; rcases hx with rfl | rfl | rfl | rfl | rfl | rfl | rfl | rfl <;> exact own_gr hxs _
  obtain ⟨_, _, ⟨T79, L79, k79, n79⟩, -, X79, ⟨Lc79, hQ79, l79, y79, z79⟩, st79⟩ := X77.specialBack hx (y := (⟨"java/lang/String", "<init>", "([C)V"⟩ : MethodName)) rfl hown0 (mvT hZ0 (W 56 rfl)) (mvT hZ0 (W 57 rfl)) (mvT hZ0 (W 58 rfl)) (by decide) (StrChars.Road.backV (W := 1) hZ0 hwwords (kI := 4) (W 3 rfl) (cs := [(xs.getD 0 0), (xs.getD 1 0), (xs.getD 2 0), (xs.getD 3 0), (xs.getD 4 0), (xs.getD 5 0), (xs.getD 6 0), (xs.getD 7 0)]) (n := 8) g_b68 Z77 E_b68 F_value_b68 F_coder_b68 KC78 (SBC.ext O_.2) hcs (by first | rfl | simp) (by first | rfl | simp) (by decide) (by decide) hp78 rfl (by decide) (by decide)) (g := (mkF m 361 #[.val (.ref a1), .val (.int pn)] [(.ref b69), (.ref b68), (.ref b68)])) rfl (by rw [hml]; rfl) (Steps.refl _) (a := b68) (argsL := [(.ref b69)]) (rest := [(.ref b68)]) (lenOf pd_3 rfl) rfl (by show 2 * 0 + _ ≤ _; exact Nat.le_of_eq rfl) (hb hby d9_361) (fun _ _ => ⟨rfl, e77, (by decide : 2 + 1 ≤ _), (by decide : 12 + 8 ≤ _)⟩)
  dsimp only [Pt.U, Pt.locs, Pt.cells, Pt.slots] at X79 l79 y79 z79 st79 hQ79
  subst l79 y79 z79
  obtain ⟨rfl, N79q, K79, Ex79, Fc79, tv79, kt79, -, hz79, hnx79, Fv79, Kt79⟩ := hQ79
  have N79 := Fr.app N77 N79q
  refine Gl.pre (fun _ k => st79.trans k) ?_
  have own_ne_a1_tv79 : a1 ≠ tv79 := Nat.ne_of_lt (Nat.lt_of_lt_of_le V_a1.lt hz79)
  have own_ne_tv79_a1 := own_ne_a1_tv79.symm
  have own_ne_b68_tv79 : b68 ≠ tv79 := Nat.ne_of_lt (Nat.lt_of_lt_of_le E_b68.lt hz79)
  have own_ne_tv79_b68 := own_ne_b68_tv79.symm
  have own_ne_b69_tv79 : b69 ≠ tv79 := Nat.ne_of_lt (Nat.lt_of_lt_of_le V_b69.lt hz79)
  have own_ne_tv79_b69 := own_ne_b69_tv79.symm
  have g_tv79 : n0 ≤ tv79 := Nat.le_trans Z77 hz79
  have sz_tv79 : h0.size ≤ tv79 := Nat.le_trans K77.1 hz79
  have Sf_tv790 := Safe.new (Z := Z) (EL := own_EL) (vm := s.vm) hz79
  have hs79 : ∀ x ∈ [b68], Safe Z own_EL _ _ x := (allS Sf_b68 all0)
  have Sf_b68 := Safe.keep K79 hs79 CR77.1 Sf_b68
  have Sf_b69 := Safe.keep K79 hs79 CR77.1 Sf_b69
  have CR79 := CR77.trans (CHr.keep K79 hs79 CR77.1)
  have V_a1 := V_a1.keep K79 (ninS (own_ne_a1_b68) nin0)
  have O_ := O_.keep K79 (allS g_b68 all0)
  have E_b68 := E_b68.keep K79
  have V_b69 := V_b69.keep K79 (ninS (own_ne_b69_b68) nin0)
  have hk79 := Nat.le_trans hk77 K79.1
  have Z79 : n0 ≤ T79.heap.size := Nat.le_trans Z77 K79.1
  have K79k := K77.trans K79 (allS (Or.inr sz_b68) all0)
  have F_value_b68 := Fv79
  have F_coder_b68 := Fc79
  show Gl p.tables e below PP (T79.setTop (mkF m 364 #[.val (.ref a1), .val (.int pn)] [(.ref b68)]))
  rw [hPP]
  refine own_finAW (Q := (Q9 Z a1 pn xs cs h0 n0)) (Z := Z) (EL := own_EL) X79 hx hlk hS0 hk79 Bd.returns rfl rfl (hb hby d9_364) ?_ (by rw [hh]; exact CR79.trans (CHv.at X79 hZ0 hEL CR79.1)) (by decide) (by decide)
  show Q9 Z a1 pn xs cs h0 n0 _ T79.heap _
  have h8 : pn = (8 : Int32) := by rcases hpn with h | h | h | h | h | h | h | h | h <;> first | assumption | contradiction
  refine ⟨b68, tv79, _, [(xs.getD 0 0), (xs.getD 1 0), (xs.getD 2 0), (xs.getD 3 0), (xs.getD 4 0), (xs.getD 5 0), (xs.getD 6 0), (xs.getD 7 0)], ?_, rfl, N79, K79k, sz_b68, E_b68, F_value_b68, F_coder_b68, Kt79⟩
  rw [h8, own_i8]; exact own_tk8 hlen
theorem d23_0 : decode jdk_31_method_10_code 0 = .ok (.aload_n 0, 1) := by decide +kernel
theorem d23_1 : decode jdk_31_method_10_code 1 = .ok (.ifnonnull 11, 3) := by decide +kernel
theorem d23_12 : decode jdk_31_method_10_code 12 = .ok (.aload_n 0, 1) := by decide +kernel
theorem d23_13 : decode jdk_31_method_10_code 13 = .ok (.areturn, 1) := by decide +kernel
theorem pn_23 : plainName "java/util/Objects" = true := by first | (simp [plainName, overriddenIn]; done) | decide +kernel
theorem ef_23 (m : MethodId) (a1 : Addr) : entryFrame m #[(.ref a1)] 1 = mkF m 0 #[.val (.ref a1)] [] := by first | (simp [entryFrame, mkF, argsToLocals, Value.category]; done) | rfl
def Q23 (Z : State) (a1 : Addr) (h0 : Heap) (n0 : Nat) (v : Option Value) (h : Heap) (L : List Loc) : Prop := v = some (.ref a1) ∧ Fr n0 L ∧ h = h0
set_option maxRecDepth 65536 in
set_option maxHeartbeats 40000000 in
theorem rm23 (l : Launch) (Z : State) (a0 : Array Value) (hw : ∀ d ∈ tables_1, d.before a0 Z = true) (ws : List Jvm.Cond) (a1 : Addr) (h0 : Heap) (n0 : Nat) (Z0 : n0 ≤ h0.size)  :
    MetFree l (⟨"java/util/Objects", "requireNonNull", "(Ljava/lang/Object;)Ljava/lang/Object;"⟩ : MethodName) (head1 (Jvm.Cond.code (⟨"java/util/Objects", "requireNonNull", "(Ljava/lang/Object;)Ljava/lang/Object;"⟩ : MethodName) jdk_31_method_10_code 1 (some (.object "java/lang/Object")) :: ws) ({ frames := 0, cells := 0, slots := 0, locals := 0 } : Room)) (fun a U => a = #[(.ref a1)] ∧ Z.Warmed39 U.vm ∧ U.heap = h0) (fun _ _ _ _ _ => True) (fun _ U o U' => ∃ v L, o = .returned v ∧ Q23 Z a1 h0 n0 v U'.heap L ∧ FrameEnd U o U' L ({ frames := 0, cells := 0, slots := 0, locals := 0 } : Room).cells ({ frames := 0, cells := 0, slots := 0, locals := 0 } : Room).slots) := by
  have W := @own_wd Z a0 hw
  refine MetFree.of_bodySF (plainFor_of_name pn_23) hisR ?_
  intro p e s m args below meth c s₁ Bd hml0 hP hK
  obtain ⟨rfl, hZ, hh⟩ := hP
  have hx := Bd.exec
  have hby := Bd.bytes
  have hlk : meth.locks = false := BodyLoose.notSynchronized Bd
  have hml : c.maxLocals = 1 := hml0
  have hown : s.vm.findClass "java/util/Objects" = some m.cls := findClass_of_methodNamed Bd.named
  have hnm := (name_of_methodNamed Bd.named Bd.method).1
  have X0 : Stand p l e ({ frames := 0, cells := 0, slots := 0, locals := 0 } : Room) s m #[(.ref a1)] below meth c s₁ [] 0 0 := Stand.of_body Bd
  have e0 : s₁.heap = h0 := by rw [← hh, Bd.state]; rfl
  have N0 := Fr.nil n0
  show Gl p.tables e below _ _
  refine Gl.pre (fun t k => castTop (ef_23 m a1) k) ?_
  refine Gl.gen (fun PP hPP => ?_)
  show Gl p.tables e below PP (s₁.setTop (mkF m 0 #[.val (.ref a1)] []))
  refine Y.aloadN X0 hx (hb hby d23_0) rfl rfl ?_
  refine Y.ifnonnullYes X0 hx (pc0 := 1) (pc' := 12) rfl (hb hby d23_1) rfl (by decide) (by decide) ?_
  refine Y.aloadN X0 hx (hb hby d23_12) rfl rfl ?_
  rw [hPP]
  refine own_finA (Q := (Q23 Z a1 h0 n0)) X0 hx hlk Bd.returns rfl rfl (hb hby d23_13) ?_ (by decide) (by decide)
  show Q23 Z a1 h0 n0 _ s₁.heap _
  rw [e0]
  exact ⟨rfl, N0, rfl⟩
theorem d24_0 : decode jdk_32_method_2_code 0 = .ok (.aload_n 0, 1) := by decide +kernel
theorem d24_1 : decode jdk_32_method_2_code 1 = .ok (.invokespecial 7, 3) := by decide +kernel
theorem d24_4 : decode jdk_32_method_2_code 4 = .ok (.aload_n 0, 1) := by decide +kernel
theorem d24_5 : decode jdk_32_method_2_code 5 = .ok (.aload_n 1, 1) := by decide +kernel
theorem d24_6 : decode jdk_32_method_2_code 6 = .ok (.putfield 13, 3) := by decide +kernel
theorem d24_9 : decode jdk_32_method_2_code 9 = .ok (.return_, 1) := by decide +kernel
theorem pn_24 : plainName "java/util/Optional" = true := by first | (simp [plainName, overriddenIn]; done) | decide +kernel
theorem ef_24 (m : MethodId) (a1 : Addr) (a2 : Addr) : entryFrame m #[(.ref a1), (.ref a2)] 2 = mkF m 0 #[.val (.ref a1), .val (.ref a2)] [] := by first | (simp [entryFrame, mkF, argsToLocals, Value.category]; done) | rfl
def Q24 (Z : State) (a1 : Addr) (a2 : Addr) (h0 : Heap) (n0 : Nat) (v : Option Value) (h : Heap) (L : List Loc) : Prop := v = none ∧ Fr n0 L ∧ Keep h0 h [a1] ∧ Fld Z h a1 "java/util/Optional" "value" "Ljava/lang/Object;" (.ref a2)
set_option maxRecDepth 65536 in
set_option maxHeartbeats 40000000 in
theorem rm24 (l : Launch) (Z : State) (a0 : Array Value) (hw : ∀ d ∈ tables_1, d.before a0 Z = true) (ws : List Jvm.Cond) (a1 : Addr) (a2 : Addr) (h0 : Heap) (n0 : Nat) (Z0 : n0 ≤ h0.size) (E_a1 : Exa Z h0 a1 "java/util/Optional") (F_value_a1 : Fld Z h0 a1 "java/util/Optional" "value" "Ljava/lang/Object;" .null) (g_a1 : n0 ≤ a1) :
    MetFree l (⟨"java/util/Optional", "<init>", "(Ljava/lang/Object;)V"⟩ : MethodName) (head1 (Jvm.Cond.code (⟨"java/util/Optional", "<init>", "(Ljava/lang/Object;)V"⟩ : MethodName) jdk_32_method_2_code 2 none :: ws) ({ frames := 1, cells := 0, slots := 0, locals := 12 } : Room)) (fun a U => a = #[(.ref a1), (.ref a2)] ∧ Z.Warmed39 U.vm ∧ U.heap = h0) (fun _ _ _ _ _ => True) (fun _ U o U' => ∃ v L, o = .returned v ∧ Q24 Z a1 a2 h0 n0 v U'.heap L ∧ FrameEnd U o U' L ({ frames := 1, cells := 0, slots := 0, locals := 12 } : Room).cells ({ frames := 1, cells := 0, slots := 0, locals := 12 } : Room).slots) := by
  have W := @own_wd Z a0 hw
  refine MetFree.of_bodySF (plainFor_of_name pn_24) hisR ?_
  intro p e s m args below meth c s₁ Bd hml0 hP hK
  obtain ⟨rfl, hZ, hh⟩ := hP
  have hx := Bd.exec
  have hby := Bd.bytes
  have hlk : meth.locks = false := BodyLoose.notSynchronized Bd
  have hml : c.maxLocals = 2 := hml0
  have hown : s.vm.findClass "java/util/Optional" = some m.cls := findClass_of_methodNamed Bd.named
  have hnm := (name_of_methodNamed Bd.named Bd.method).1
  have X0 : Stand p l e ({ frames := 1, cells := 0, slots := 0, locals := 12 } : Room) s m #[(.ref a1), (.ref a2)] below meth c s₁ [] 0 0 := Stand.of_body Bd
  have e0 : s₁.heap = h0 := by rw [← hh, Bd.state]; rfl
  have N0 := Fr.nil n0
  show Gl p.tables e below _ _
  refine Gl.pre (fun t k => castTop (ef_24 m a1 a2) k) ?_
  refine Gl.gen (fun PP hPP => ?_)
  have K0 : Keep h0 h0 [a1] := Keep.refl h0 _
  show Gl p.tables e below PP (s₁.setTop (mkF m 0 #[.val (.ref a1), .val (.ref a2)] []))
  refine Y.aloadN X0 hx (hb hby d24_0) rfl rfl ?_
  obtain ⟨T1, X1, e1, st1⟩ := initO X0 hx hZ hown (W 138 rfl) (W 64 rfl) (W 65 rfl) e0 (g := (mkF m 1 #[.val (.ref a1), .val (.ref a2)] [(.ref a1)])) rfl (by rw [hml]; rfl) rfl (hb hby d24_1) (by decide) (W := 0) (by show 2 * 0 + _ ≤ _; exact Nat.le_of_eq rfl) (by decide)
  refine Gl.pre (fun _ k => st1 _ k) ?_
  refine Y.aloadN X1 hx (hb hby d24_4) rfl rfl ?_
  refine Y.aloadN X1 hx (hb hby d24_5) rfl rfl ?_
  obtain ⟨T2, h2, X2, e2, W2, st2⟩ := putF X1 hx hZ hown (host := "") (Or.inl (W 117 rfl)) Via.refl e1 F_value_a1 E_a1 (Or.inr ⟨(W 118 rfl), rfl, hnm⟩) (W 129 rfl) (ty := (.object "java/lang/Object")) (by decide) rfl rfl (g := (mkF m 6 #[.val (.ref a1), .val (.ref a2)] [(.ref a2), (.ref a1)])) rfl rfl (hb hby d24_6)
  refine Gl.pre (fun _ k => st2 _ k) ?_
  have E_a1 := E_a1.wr W2
  have F_value_a1 := F_value_a1.same W2
  have Z2 : n0 ≤ h2.size := by rw [W2.size]; exact Z0
  have N2 := Fr.snoc X2 N0 g_a1
  have K2 := K0.wr W2 (Or.inl (List.mem_of_getElem? (i := 0) rfl))
  rw [hPP]
  refine own_finV (Q := (Q24 Z a1 a2 h0 n0)) X2 hx hlk Bd.returns (hb hby d24_9) ?_ (by decide) (by decide)
  show Q24 Z a1 a2 h0 n0 _ T2.heap _
  rw [e2]
  exact ⟨rfl, N2, K2, F_value_a1⟩
theorem d22_0 : decode jdk_32_method_3_code 0 = .ok (.new 2, 3) := by decide +kernel
theorem d22_3 : decode jdk_32_method_3_code 3 = .ok (.dup, 1) := by decide +kernel
theorem d22_4 : decode jdk_32_method_3_code 4 = .ok (.aload_n 0, 1) := by decide +kernel
theorem d22_5 : decode jdk_32_method_3_code 5 = .ok (.invokestatic 17, 3) := by decide +kernel
theorem d22_8 : decode jdk_32_method_3_code 8 = .ok (.invokespecial 23, 3) := by decide +kernel
theorem d22_11 : decode jdk_32_method_3_code 11 = .ok (.areturn, 1) := by decide +kernel
theorem pn_22 : plainName "java/util/Optional" = true := by first | (simp [plainName, overriddenIn]; done) | decide +kernel
theorem ef_22 (m : MethodId) (a1 : Addr) : entryFrame m #[(.ref a1)] 1 = mkF m 0 #[.val (.ref a1)] [] := by first | (simp [entryFrame, mkF, argsToLocals, Value.category]; done) | rfl
def Q22 (Z : State) (a1 : Addr) (h0 : Heap) (n0 : Nat) (v : Option Value) (h : Heap) (L : List Loc) : Prop := ∃ oo : Addr, v = some (.ref oo) ∧ Fr n0 L ∧ Keep h0 h [] ∧ h0.size ≤ oo ∧ Exa Z h oo "java/util/Optional" ∧ Fld Z h oo "java/util/Optional" "value" "Ljava/lang/Object;" (.ref a1)
set_option maxRecDepth 65536 in
set_option maxHeartbeats 40000000 in
theorem rm22 (l : Launch) (Z : State) (a0 : Array Value) (hw : ∀ d ∈ tables_1, d.before a0 Z = true) (ws : List Jvm.Cond) (a1 : Addr) (h0 : Heap) (n0 : Nat) (Z0 : n0 ≤ h0.size)  :
    MetFree l (⟨"java/util/Optional", "of", "(Ljava/lang/Object;)Ljava/util/Optional;"⟩ : MethodName) (head1 (Jvm.Cond.code (⟨"java/util/Optional", "of", "(Ljava/lang/Object;)Ljava/util/Optional;"⟩ : MethodName) jdk_32_method_3_code 1 (some (.object "java/util/Optional")) :: ws) ({ frames := 2, cells := 1, slots := 1, locals := 26 } : Room)) (fun a U => a = #[(.ref a1)] ∧ Z.Warmed39 U.vm ∧ U.heap = h0) (fun _ _ _ _ _ => True) (fun _ U o U' => ∃ v L, o = .returned v ∧ Q22 Z a1 h0 n0 v U'.heap L ∧ FrameEnd U o U' L ({ frames := 2, cells := 1, slots := 1, locals := 26 } : Room).cells ({ frames := 2, cells := 1, slots := 1, locals := 26 } : Room).slots) := by
  have W := @own_wd Z a0 hw
  refine MetFree.of_bodySF (plainFor_of_name pn_22) hisR ?_
  intro p e s m args below meth c s₁ Bd hml0 hP hK
  obtain ⟨rfl, hZ, hh⟩ := hP
  have hx := Bd.exec
  have hby := Bd.bytes
  have hlk : meth.locks = false := BodyLoose.notSynchronized Bd
  have hml : c.maxLocals = 1 := hml0
  have hown : s.vm.findClass "java/util/Optional" = some m.cls := findClass_of_methodNamed Bd.named
  have hnm := (name_of_methodNamed Bd.named Bd.method).1
  have X0 : Stand p l e ({ frames := 2, cells := 1, slots := 1, locals := 26 } : Room) s m #[(.ref a1)] below meth c s₁ [] 0 0 := Stand.of_body Bd
  have e0 : s₁.heap = h0 := by rw [← hh, Bd.state]; rfl
  have N0 := Fr.nil n0
  show Gl p.tables e below _ _
  refine Gl.pre (fun t k => castTop (ef_22 m a1) k) ?_
  refine Gl.gen (fun PP hPP => ?_)
  have K0 : Keep h0 h0 [] := Keep.refl h0 _
  show Gl p.tables e below PP (s₁.setTop (mkF m 0 #[.val (.ref a1)] []))
  obtain ⟨T1, h1, X1, e1, E1, A1, D1, -, st1⟩ := newO X0 hx hZ hown (W 128 rfl) (W 129 rfl) (W 109 rfl) e0 (g := (mkF m 0 #[.val (.ref a1)] [])) rfl (hb hby d22_0) (by decide) (by decide)
  obtain ⟨b1, g1⟩ : ∃ z, z = h0.size := ⟨_, rfl⟩
  rw [← g1] at A1 D1 st1
  refine Gl.pre (fun _ k => st1 _ k) ?_
  have g_b1 : n0 ≤ b1 := Nat.le_trans Z0 (Nat.le_of_eq g1.symm)
  have sz_b1 : h0.size ≤ b1 := Nat.le_trans K0.1 (Nat.le_of_eq g1.symm)
  have Z1 : n0 ≤ h1.size := Nat.le_trans Z0 E1.1
  have K1 := K0.ext E1
  have E_b1 := A1
  have F_value_b1 : Fld Z h1 b1 "java/util/Optional" "value" "Ljava/lang/Object;" .null := D1 (Or.inr (W 118 rfl)) (ty := (.object "java/lang/Object")) (by decide)
  refine Y.dup X1 hx (hb hby d22_3) rfl rfl ?_
  refine Y.aloadN X1 hx (hb hby d22_4) rfl rfl ?_
  obtain ⟨_, _, ⟨T2, L2, k2, n2⟩, -, X2, ⟨Lc2, hQ2, l2, y2, z2⟩, st2⟩ := Jvm.LawKit.callS X1 hx (y := (⟨"java/util/Objects", "requireNonNull", "(Ljava/lang/Object;)Ljava/lang/Object;"⟩ : MethodName)) hown (mvT hZ (W 130 rfl)) (mvT hZ (W 131 rfl)) (mvT hZ (W 132 rfl)) (mvT hZ (W 133 rfl)) (by decide) (backOf (W := 2) (rm23 l Z a0 hw [] a1 h1 n0 Z1 ) hZ (W 133 rfl) (W 132 rfl) (by decide) (by decide)) (g := (mkF m 5 #[.val (.ref a1)] [(.ref a1), (.ref b1), (.ref b1)])) rfl (by rw [hml]; rfl) (argsL := [(.ref a1)]) (rest := [(.ref b1), (.ref b1)]) (lenOf pd_4 rfl) rfl (by show 2 * 0 + _ ≤ _; exact Nat.le_of_eq rfl) (hb hby d22_5) (fun _ _ => ⟨rfl, e1, (by decide : 1 + 0 ≤ _), (by decide : 1 + 0 ≤ _)⟩)
  dsimp only [Pt.U, Pt.locs, Pt.cells, Pt.slots] at X2 l2 y2 z2 st2 hQ2
  subst l2 y2 z2
  obtain ⟨rfl, N2q, e2⟩ := hQ2
  have N2 := Fr.app N0 N2q
  refine Gl.pre (fun _ k => st2 _ k) ?_
  obtain ⟨_, _, ⟨T3, L3, k3, n3⟩, -, X3, ⟨Lc3, hQ3, l3, y3, z3⟩, st3⟩ := X2.specialBack hx (y := (⟨"java/util/Optional", "<init>", "(Ljava/lang/Object;)V"⟩ : MethodName)) rfl hown (mvT hZ (W 134 rfl)) (mvT hZ (W 135 rfl)) (mvT hZ (W 137 rfl)) (by decide) (backOf (W := 1) (rm24 l Z a0 hw [] b1 a1 h1 n0 Z1 E_b1 F_value_b1 g_b1) hZ (W 137 rfl) (W 109 rfl) (by decide) (by decide)) (g := (mkF m 8 #[.val (.ref a1)] [(.ref a1), (.ref b1), (.ref b1)])) rfl (by rw [hml]; rfl) (Steps.refl _) (a := b1) (argsL := [(.ref a1)]) (rest := [(.ref b1)]) (lenOf pd_5 rfl) rfl (by show 2 * 0 + _ ≤ _; exact Nat.le_of_eq rfl) (hb hby d22_8) (fun _ _ => ⟨rfl, e2, (by decide : 1 + 0 ≤ _), (by decide : 1 + 0 ≤ _)⟩)
  dsimp only [Pt.U, Pt.locs, Pt.cells, Pt.slots] at X3 l3 y3 z3 st3 hQ3
  subst l3 y3 z3
  obtain ⟨rfl, N3q, K3, x3_0⟩ := hQ3
  have N3 := Fr.app N2 N3q
  refine Gl.pre (fun _ k => st3.trans k) ?_
  have E_b1 := E_b1.keep K3
  have Z3 : n0 ≤ T3.heap.size := Nat.le_trans Z1 K3.1
  have K3k := K1.trans K3 (allS (Or.inr sz_b1) all0)
  have F_value_b1 := x3_0
  rw [hPP]
  refine own_finA (Q := (Q22 Z a1 h0 n0)) X3 hx hlk Bd.returns rfl rfl (hb hby d22_11) ?_ (by decide) (by decide)
  show Q22 Z a1 h0 n0 _ T3.heap _
  exact ⟨b1, rfl, N3, K3k, sz_b1, E_b1, F_value_b1⟩
theorem d20_0 : decode jdk_32_method_1_code 0 = .ok (.getstatic 1, 3) := by decide +kernel
theorem d20_3 : decode jdk_32_method_1_code 3 = .ok (.astore_n 0, 1) := by decide +kernel
theorem d20_4 : decode jdk_32_method_1_code 4 = .ok (.aload_n 0, 1) := by decide +kernel
theorem d20_5 : decode jdk_32_method_1_code 5 = .ok (.areturn, 1) := by decide +kernel
theorem pn_20 : plainName "java/util/Optional" = true := by first | (simp [plainName, overriddenIn]; done) | decide +kernel
theorem ef_20 (m : MethodId) (em : Addr) : entryFrame m #[] 1 = mkF m 0 #[.unset] [] := by first | (simp [entryFrame, mkF, argsToLocals, Value.category]; done) | rfl
def Q20 (Z : State) (em : Addr) (h0 : Heap) (n0 : Nat) (v : Option Value) (h : Heap) (L : List Loc) : Prop := v = some (.ref em) ∧ Fr n0 L ∧ h = h0
set_option maxRecDepth 65536 in
set_option maxHeartbeats 40000000 in
theorem rm20 (l : Launch) (Z : State) (a0 : Array Value) (hw : ∀ d ∈ tables_1, d.before a0 Z = true) (ws : List Jvm.Cond) (em : Addr) (h0 : Heap) (n0 : Nat) (Z0 : n0 ≤ h0.size) (SEM : Sta Z Z.heap "java/util/Optional" "EMPTY" "Ljava/util/Optional;" (.ref em)) (O_ : Old Z n0 h0) :
    MetFree l (⟨"java/util/Optional", "empty", "()Ljava/util/Optional;"⟩ : MethodName) (head1 (Jvm.Cond.code (⟨"java/util/Optional", "empty", "()Ljava/util/Optional;"⟩ : MethodName) jdk_32_method_1_code 1 (some (.object "java/util/Optional")) :: ws) ({ frames := 0, cells := 0, slots := 0, locals := 0 } : Room)) (fun a U => a = #[] ∧ Z.Warmed39 U.vm ∧ U.heap = h0) (fun _ _ _ _ _ => True) (fun _ U o U' => ∃ v L, o = .returned v ∧ Q20 Z em h0 n0 v U'.heap L ∧ FrameEnd U o U' L ({ frames := 0, cells := 0, slots := 0, locals := 0 } : Room).cells ({ frames := 0, cells := 0, slots := 0, locals := 0 } : Room).slots) := by
  have W := @own_wd Z a0 hw
  refine MetFree.of_bodySF (plainFor_of_name pn_20) hisR ?_
  intro p e s m args below meth c s₁ Bd hml0 hP hK
  obtain ⟨rfl, hZ, hh⟩ := hP
  have hx := Bd.exec
  have hby := Bd.bytes
  have hlk : meth.locks = false := BodyLoose.notSynchronized Bd
  have hml : c.maxLocals = 1 := hml0
  have hown : s.vm.findClass "java/util/Optional" = some m.cls := findClass_of_methodNamed Bd.named
  have hnm := (name_of_methodNamed Bd.named Bd.method).1
  have X0 : Stand p l e ({ frames := 0, cells := 0, slots := 0, locals := 0 } : Room) s m #[] below meth c s₁ [] 0 0 := Stand.of_body Bd
  have e0 : s₁.heap = h0 := by rw [← hh, Bd.state]; rfl
  have N0 := Fr.nil n0
  show Gl p.tables e below _ _
  refine Gl.pre (fun t k => castTop (ef_20 m em) k) ?_
  refine Gl.gen (fun PP hPP => ?_)
  show Gl p.tables e below PP (s₁.setTop (mkF m 0 #[.unset] []))
  obtain ⟨T1, X1, e1, st1⟩ := getS2 X0 hx hZ hown (host := "") (Or.inl (W 111 rfl)) Via.refl e0 (SEM.ext O_.2) (g := (mkF m 0 #[.unset] [])) rfl (hb hby d20_0)
  refine Gl.pre (fun _ k => st1 _ k) ?_
  refine Y.astoreN X1 hx (hb hby d20_3) rfl rfl (l' := #[.val (.ref em)]) rfl ?_
  refine Y.aloadN X1 hx (hb hby d20_4) rfl rfl ?_
  rw [hPP]
  refine own_finA (Q := (Q20 Z em h0 n0)) X1 hx hlk Bd.returns rfl rfl (hb hby d20_5) ?_ (by decide) (by decide)
  show Q20 Z em h0 n0 _ T1.heap _
  rw [e1]
  exact ⟨rfl, N0, rfl⟩
theorem d21_0 : decode jdk_32_method_15_code 0 = .ok (.aload_n 0, 1) := by decide +kernel
theorem d21_1 : decode jdk_32_method_15_code 1 = .ok (.getfield 13, 3) := by decide +kernel
theorem d21_4 : decode jdk_32_method_15_code 4 = .ok (.ifnull 10, 3) := by decide +kernel
theorem d21_7 : decode jdk_32_method_15_code 7 = .ok (.aload_n 0, 1) := by decide +kernel
theorem d21_8 : decode jdk_32_method_15_code 8 = .ok (.getfield 13, 3) := by decide +kernel
theorem d21_11 : decode jdk_32_method_15_code 11 = .ok (.goto 4, 3) := by decide +kernel
theorem d21_14 : decode jdk_32_method_15_code 14 = .ok (.aload_n 1, 1) := by decide +kernel
theorem d21_15 : decode jdk_32_method_15_code 15 = .ok (.areturn, 1) := by decide +kernel
theorem pn_21 : plainName "java/util/Optional" = true := by first | (simp [plainName, overriddenIn]; done) | decide +kernel
theorem ef_orA (m : MethodId) (a1 : Addr) (cv : Addr) : entryFrame m #[(.ref a1), .null] 2 = mkF m 0 #[.val (.ref a1), .val .null] [] := by first | (simp [entryFrame, mkF, argsToLocals, Value.category]; done) | rfl
def QorA (Z : State) (a1 : Addr) (cv : Addr) (h0 : Heap) (n0 : Nat) (v : Option Value) (h : Heap) (L : List Loc) : Prop := v = some (.ref cv) ∧ Fr n0 L ∧ h = h0
set_option maxRecDepth 65536 in
set_option maxHeartbeats 40000000 in
theorem rmorA (l : Launch) (Z : State) (a0 : Array Value) (hw : ∀ d ∈ tables_1, d.before a0 Z = true) (ws : List Jvm.Cond) (a1 : Addr) (cv : Addr) (h0 : Heap) (n0 : Nat) (Z0 : n0 ≤ h0.size) (F_value_a1 : Fld Z h0 a1 "java/util/Optional" "value" "Ljava/lang/Object;" (.ref cv)) :
    MetFree l (⟨"java/util/Optional", "orElse", "(Ljava/lang/Object;)Ljava/lang/Object;"⟩ : MethodName) (head1 (Jvm.Cond.code (⟨"java/util/Optional", "orElse", "(Ljava/lang/Object;)Ljava/lang/Object;"⟩ : MethodName) jdk_32_method_15_code 2 (some (.object "java/lang/Object")) :: ws) ({ frames := 0, cells := 0, slots := 0, locals := 0 } : Room)) (fun a U => a = #[(.ref a1), .null] ∧ Z.Warmed39 U.vm ∧ U.heap = h0) (fun _ _ _ _ _ => True) (fun _ U o U' => ∃ v L, o = .returned v ∧ QorA Z a1 cv h0 n0 v U'.heap L ∧ FrameEnd U o U' L ({ frames := 0, cells := 0, slots := 0, locals := 0 } : Room).cells ({ frames := 0, cells := 0, slots := 0, locals := 0 } : Room).slots) := by
  have W := @own_wd Z a0 hw
  refine MetFree.of_bodySF (plainFor_of_name pn_21) hisR ?_
  intro p e s m args below meth c s₁ Bd hml0 hP hK
  obtain ⟨rfl, hZ, hh⟩ := hP
  have hx := Bd.exec
  have hby := Bd.bytes
  have hlk : meth.locks = false := BodyLoose.notSynchronized Bd
  have hml : c.maxLocals = 2 := hml0
  have hown : s.vm.findClass "java/util/Optional" = some m.cls := findClass_of_methodNamed Bd.named
  have hnm := (name_of_methodNamed Bd.named Bd.method).1
  have X0 : Stand p l e ({ frames := 0, cells := 0, slots := 0, locals := 0 } : Room) s m #[(.ref a1), .null] below meth c s₁ [] 0 0 := Stand.of_body Bd
  have e0 : s₁.heap = h0 := by rw [← hh, Bd.state]; rfl
  have N0 := Fr.nil n0
  show Gl p.tables e below _ _
  refine Gl.pre (fun t k => castTop (ef_orA m a1 cv) k) ?_
  refine Gl.gen (fun PP hPP => ?_)
  show Gl p.tables e below PP (s₁.setTop (mkF m 0 #[.val (.ref a1), .val .null] []))
  refine Y.aloadN X0 hx (hb hby d21_0) rfl rfl ?_
  obtain ⟨T1, X1, e1, st1⟩ := getF X0 hx hZ hown (host := "") (Or.inl (W 117 rfl)) Via.refl e0 F_value_a1 (g := (mkF m 1 #[.val (.ref a1), .val .null] [(.ref a1)])) rfl rfl (hb hby d21_1)
  refine Gl.pre (fun _ k => st1 _ k) ?_
  refine Y.ifnullNo X1 hx (hb hby d21_4) rfl ?_
  refine Y.aloadN X1 hx (hb hby d21_7) rfl rfl ?_
  obtain ⟨T2, X2, e2, st2⟩ := getF X1 hx hZ hown (host := "") (Or.inl (W 117 rfl)) Via.refl e1 F_value_a1 (g := (mkF m 8 #[.val (.ref a1), .val .null] [(.ref a1)])) rfl rfl (hb hby d21_8)
  refine Gl.pre (fun _ k => st2 _ k) ?_
  refine Y.goto X2 hx (pc0 := 11) (pc' := 15) rfl (hb hby d21_11) (by decide) (by decide) ?_
  rw [hPP]
  refine own_finA (Q := (QorA Z a1 cv h0 n0)) X2 hx hlk Bd.returns rfl rfl (hb hby d21_15) ?_ (by decide) (by decide)
  show QorA Z a1 cv h0 n0 _ T2.heap _
  rw [e2]
  exact ⟨rfl, N0, rfl⟩
theorem ef_orB (m : MethodId) (a1 : Addr) : entryFrame m #[(.ref a1), .null] 2 = mkF m 0 #[.val (.ref a1), .val .null] [] := by first | (simp [entryFrame, mkF, argsToLocals, Value.category]; done) | rfl
def QorB (Z : State) (a1 : Addr) (h0 : Heap) (n0 : Nat) (v : Option Value) (h : Heap) (L : List Loc) : Prop := v = some .null ∧ Fr n0 L ∧ h = h0
set_option maxRecDepth 65536 in
set_option maxHeartbeats 40000000 in
theorem rmorB (l : Launch) (Z : State) (a0 : Array Value) (hw : ∀ d ∈ tables_1, d.before a0 Z = true) (ws : List Jvm.Cond) (a1 : Addr) (h0 : Heap) (n0 : Nat) (Z0 : n0 ≤ h0.size) (F_value_a1 : Fld Z h0 a1 "java/util/Optional" "value" "Ljava/lang/Object;" .null) :
    MetFree l (⟨"java/util/Optional", "orElse", "(Ljava/lang/Object;)Ljava/lang/Object;"⟩ : MethodName) (head1 (Jvm.Cond.code (⟨"java/util/Optional", "orElse", "(Ljava/lang/Object;)Ljava/lang/Object;"⟩ : MethodName) jdk_32_method_15_code 2 (some (.object "java/lang/Object")) :: ws) ({ frames := 0, cells := 0, slots := 0, locals := 0 } : Room)) (fun a U => a = #[(.ref a1), .null] ∧ Z.Warmed39 U.vm ∧ U.heap = h0) (fun _ _ _ _ _ => True) (fun _ U o U' => ∃ v L, o = .returned v ∧ QorB Z a1 h0 n0 v U'.heap L ∧ FrameEnd U o U' L ({ frames := 0, cells := 0, slots := 0, locals := 0 } : Room).cells ({ frames := 0, cells := 0, slots := 0, locals := 0 } : Room).slots) := by
  have W := @own_wd Z a0 hw
  refine MetFree.of_bodySF (plainFor_of_name pn_21) hisR ?_
  intro p e s m args below meth c s₁ Bd hml0 hP hK
  obtain ⟨rfl, hZ, hh⟩ := hP
  have hx := Bd.exec
  have hby := Bd.bytes
  have hlk : meth.locks = false := BodyLoose.notSynchronized Bd
  have hml : c.maxLocals = 2 := hml0
  have hown : s.vm.findClass "java/util/Optional" = some m.cls := findClass_of_methodNamed Bd.named
  have hnm := (name_of_methodNamed Bd.named Bd.method).1
  have X0 : Stand p l e ({ frames := 0, cells := 0, slots := 0, locals := 0 } : Room) s m #[(.ref a1), .null] below meth c s₁ [] 0 0 := Stand.of_body Bd
  have e0 : s₁.heap = h0 := by rw [← hh, Bd.state]; rfl
  have N0 := Fr.nil n0
  show Gl p.tables e below _ _
  refine Gl.pre (fun t k => castTop (ef_orB m a1) k) ?_
  refine Gl.gen (fun PP hPP => ?_)
  show Gl p.tables e below PP (s₁.setTop (mkF m 0 #[.val (.ref a1), .val .null] []))
  refine Y.aloadN X0 hx (hb hby d21_0) rfl rfl ?_
  obtain ⟨T1, X1, e1, st1⟩ := getF X0 hx hZ hown (host := "") (Or.inl (W 117 rfl)) Via.refl e0 F_value_a1 (g := (mkF m 1 #[.val (.ref a1), .val .null] [(.ref a1)])) rfl rfl (hb hby d21_1)
  refine Gl.pre (fun _ k => st1 _ k) ?_
  refine Y.ifnullYes X1 hx (pc0 := 4) (pc' := 14) rfl (hb hby d21_4) rfl (by decide) (by decide) ?_
  refine Y.aloadN X1 hx (hb hby d21_14) rfl rfl ?_
  rw [hPP]
  refine own_finA (Q := (QorB Z a1 h0 n0)) X1 hx hlk Bd.returns rfl rfl (hb hby d21_15) ?_ (by decide) (by decide)
  show QorB Z a1 h0 n0 _ T1.heap _
  rw [e1]
  exact ⟨rfl, N0, rfl⟩
theorem d17_0 : decode prog_33_method_1_code 0 = .ok (.getstatic 13, 3) := by decide +kernel
theorem d17_3 : decode prog_33_method_1_code 3 = .ok (.invokevirtual 17, 3) := by decide +kernel
theorem d17_6 : decode prog_33_method_1_code 6 = .ok (.checkcast 18, 3) := by decide +kernel
theorem d17_9 : decode prog_33_method_1_code 9 = .ok (.areturn, 1) := by decide +kernel
theorem pn_17 : plainName "com/example/marcasite/marcasite/marc/Carrier" = true := by first | (simp [plainName, overriddenIn]; done) | decide +kernel
theorem ef_17 (m : MethodId) (va : Addr) (kv : ClassId) (wa : Addr) (wb : Addr) (wc : Addr) : entryFrame m #[] 0 = mkF m 0 #[] [] := by first | (simp [entryFrame, mkF, argsToLocals, Value.category]; done) | rfl
def Q17 (Z : State) (va : Addr) (kv : ClassId) (wa : Addr) (wb : Addr) (wc : Addr) (h0 : Heap) (n0 : Nat) (v : Option Value) (h : Heap) (L : List Loc) : Prop := ∃ b : Addr, v = some (.ref b) ∧ Fr n0 L ∧ h0.size ≤ b ∧ Keep h0 h [] ∧ Ral Z h b kv "com/example/marcasite/marcasite/marc/Carrier" [.ref wa, .ref wb, .ref wc]
set_option maxRecDepth 65536 in
set_option maxHeartbeats 40000000 in
theorem rm17 (l : Launch) (Z : State) (a0 : Array Value) (hw : ∀ d ∈ tables_1, d.before a0 Z = true) (ws : List Jvm.Cond) (va : Addr) (kv : ClassId) (wa : Addr) (wb : Addr) (wc : Addr) (h0 : Heap) (n0 : Nat) (Z0 : n0 ≤ h0.size) (SVA : Sta Z Z.heap "com/example/marcasite/marcasite/marc/Carrier" "$VALUES" "[Lcom/example/marcasite/marcasite/marc/Carrier;" (.ref va)) (AVA : Arv Z Z.heap va kv (.object "com/example/marcasite/marcasite/marc/Carrier") (3 : Int32) [.ref wa, .ref wb, .ref wc] .null) (EVA : Exa Z Z.heap va "[Lcom/example/marcasite/marcasite/marc/Carrier;") (O_ : Old Z n0 h0) :
    MetFree l (⟨"com/example/marcasite/marcasite/marc/Carrier", "values", "()[Lcom/example/marcasite/marcasite/marc/Carrier;"⟩ : MethodName) (head1 (Jvm.Cond.code (⟨"com/example/marcasite/marcasite/marc/Carrier", "values", "()[Lcom/example/marcasite/marcasite/marc/Carrier;"⟩ : MethodName) prog_33_method_1_code 0 (some (.array (.object "com/example/marcasite/marcasite/marc/Carrier"))) :: ws) ({ frames := 1, cells := 1, slots := 3, locals := 14 } : Room)) (fun a U => a = #[] ∧ Z.Warmed39 U.vm ∧ U.heap = h0) (fun _ _ _ _ _ => True) (fun _ U o U' => ∃ v L, o = .returned v ∧ Q17 Z va kv wa wb wc h0 n0 v U'.heap L ∧ FrameEnd U o U' L ({ frames := 1, cells := 1, slots := 3, locals := 14 } : Room).cells ({ frames := 1, cells := 1, slots := 3, locals := 14 } : Room).slots) := by
  have W := @own_wd Z a0 hw
  refine MetFree.of_bodySF (plainFor_of_name pn_17) hisR ?_
  intro p e s m args below meth c s₁ Bd hml0 hP hK
  obtain ⟨rfl, hZ, hh⟩ := hP
  have hx := Bd.exec
  have hby := Bd.bytes
  have hlk : meth.locks = false := BodyLoose.notSynchronized Bd
  have hml : c.maxLocals = 0 := hml0
  have hown : s.vm.findClass "com/example/marcasite/marcasite/marc/Carrier" = some m.cls := findClass_of_methodNamed Bd.named
  have hnm := (name_of_methodNamed Bd.named Bd.method).1
  have X0 : Stand p l e ({ frames := 1, cells := 1, slots := 3, locals := 14 } : Room) s m #[] below meth c s₁ [] 0 0 := Stand.of_body Bd
  have e0 : s₁.heap = h0 := by rw [← hh, Bd.state]; rfl
  have N0 := Fr.nil n0
  show Gl p.tables e below _ _
  refine Gl.pre (fun t k => castTop (ef_17 m va kv wa wb wc) k) ?_
  refine Gl.gen (fun PP hPP => ?_)
  have K0 : Keep h0 h0 [] := Keep.refl h0 _
  show Gl p.tables e below PP (s₁.setTop (mkF m 0 #[] []))
  obtain ⟨T1, X1, e1, st1⟩ := getS2 X0 hx hZ hown (host := "") (Or.inl (W 82 rfl)) Via.refl e0 (SVA.ext O_.2) (g := (mkF m 0 #[] [])) rfl (hb hby d17_0)
  refine Gl.pre (fun _ k => st1 _ k) ?_
  obtain ⟨T2, h2, X2, e2, E2, A2, B2, st2⟩ := cloneH X1 hx hZ hown (W 84 rfl) (W 85 rfl) (W 89 rfl) (W 87 rfl) (W 88 rfl) (W 90 rfl) e1 (AVA.ext O_.2).arh (EVA.ext O_.2) (g := (mkF m 3 #[] [(.ref va)])) rfl (by rw [hml]; rfl) rfl (hb hby d17_3) (by decide) (W := 0) (by show 2 * 0 + _ ≤ _; exact Nat.le_of_eq rfl) (by decide) (cap := 3) (by decide) (by decide) (by decide)
  obtain ⟨b2, g2⟩ : ∃ z, z = h0.size := ⟨_, rfl⟩
  rw [← g2] at A2 B2 st2
  refine Gl.pre (fun _ k => st2 _ k) ?_
  have g_b2 : n0 ≤ b2 := Nat.le_trans Z0 (Nat.le_of_eq g2.symm)
  have sz_b2 : h0.size ≤ b2 := Nat.le_trans K0.1 (Nat.le_of_eq g2.symm)
  have O_ := O_.ext E2
  have Z2 : n0 ≤ h2.size := Nat.le_trans Z0 E2.1
  have K2 := K0.ext E2
  have V_b2 : Ral Z h2 b2 kv "com/example/marcasite/marcasite/marc/Carrier" [.ref wa, .ref wb, .ref wc] := own_ralOf A2 rfl
  have E_b2 := B2
  show Gl p.tables e below PP (T2.setTop (mkF m 6 #[] [(.ref b2)]))
  obtain ⟨T3, X3, e3, st3⟩ := castY X2 hx hZ hown (W 92 rfl) e2 (Ins.self E_b2) (g := (mkF m 6 #[] [(.ref b2)])) rfl rfl (hb hby d17_6)
  refine Gl.pre (fun _ k => st3 _ k) ?_
  show Gl p.tables e below PP (T3.setTop (mkF m 9 #[] [(.ref b2)]))
  rw [hPP]
  refine own_finA (Q := (Q17 Z va kv wa wb wc h0 n0)) X3 hx hlk Bd.returns rfl rfl (hb hby d17_9) ?_ (by decide) (by decide)
  show Q17 Z va kv wa wb wc h0 n0 _ T3.heap _
  rw [e3]
  exact ⟨b2, rfl, N0, sz_b2, K2, V_b2⟩
theorem d16_0 : decode prog_33_method_5_code 0 = .ok (.invokestatic 36, 3) := by decide +kernel
theorem d16_3 : decode prog_33_method_5_code 3 = .ok (.astore_n 1, 1) := by decide +kernel
theorem d16_4 : decode prog_33_method_5_code 4 = .ok (.aload_n 1, 1) := by decide +kernel
theorem d16_5 : decode prog_33_method_5_code 5 = .ok (.arraylength, 1) := by decide +kernel
theorem d16_6 : decode prog_33_method_5_code 6 = .ok (.istore_n 2, 1) := by decide +kernel
theorem d16_7 : decode prog_33_method_5_code 7 = .ok (.iconst 0, 1) := by decide +kernel
theorem d16_8 : decode prog_33_method_5_code 8 = .ok (.istore_n 3, 1) := by decide +kernel
theorem d16_9 : decode prog_33_method_5_code 9 = .ok (.iload_n 3, 1) := by decide +kernel
theorem d16_10 : decode prog_33_method_5_code 10 = .ok (.iload_n 2, 1) := by decide +kernel
theorem d16_11 : decode prog_33_method_5_code 11 = .ok (.if_icmp .ge 32, 3) := by decide +kernel
theorem d16_14 : decode prog_33_method_5_code 14 = .ok (.aload_n 1, 1) := by decide +kernel
theorem d16_15 : decode prog_33_method_5_code 15 = .ok (.iload_n 3, 1) := by decide +kernel
theorem d16_16 : decode prog_33_method_5_code 16 = .ok (.aaload, 1) := by decide +kernel
theorem d16_17 : decode prog_33_method_5_code 17 = .ok (.astore 4, 2) := by decide +kernel
theorem d16_19 : decode prog_33_method_5_code 19 = .ok (.aload 4, 2) := by decide +kernel
theorem d16_21 : decode prog_33_method_5_code 21 = .ok (.getfield 32, 3) := by decide +kernel
theorem d16_24 : decode prog_33_method_5_code 24 = .ok (.aload_n 0, 1) := by decide +kernel
theorem d16_25 : decode prog_33_method_5_code 25 = .ok (.invokevirtual 40, 3) := by decide +kernel
theorem d16_28 : decode prog_33_method_5_code 28 = .ok (.ifCond .eq 9, 3) := by decide +kernel
theorem d16_31 : decode prog_33_method_5_code 31 = .ok (.aload 4, 2) := by decide +kernel
theorem d16_33 : decode prog_33_method_5_code 33 = .ok (.invokestatic 46, 3) := by decide +kernel
theorem d16_36 : decode prog_33_method_5_code 36 = .ok (.areturn, 1) := by decide +kernel
theorem d16_37 : decode prog_33_method_5_code 37 = .ok (.iinc 3 1, 3) := by decide +kernel
theorem d16_40 : decode prog_33_method_5_code 40 = .ok (.goto (-31), 3) := by decide +kernel
theorem d16_43 : decode prog_33_method_5_code 43 = .ok (.invokestatic 52, 3) := by decide +kernel
theorem d16_46 : decode prog_33_method_5_code 46 = .ok (.areturn, 1) := by decide +kernel
theorem pn_16 : plainName "com/example/marcasite/marcasite/marc/Carrier" = true := by first | (simp [plainName, overriddenIn]; done) | decide +kernel
theorem ef_16 (m : MethodId) (a1 : Addr) (tv : Addr) (kt : ClassId) (ds : List Int32) (cs : Int32) (em : Addr) (va : Addr) (kv : ClassId) (wa : Addr) (wb : Addr) (wc : Addr) (sa : Addr) (ta : Addr) (ka : ClassId) (sb : Addr) (tb : Addr) (kb : ClassId) (sc : Addr) (tc : Addr) (kc : ClassId) : entryFrame m #[(.ref a1)] 5 = mkF m 0 #[.val (.ref a1), .unset, .unset, .unset, .unset] [] := by first | (simp [entryFrame, mkF, argsToLocals, Value.category]; done) | rfl
def Q16 (Z : State) (a1 : Addr) (tv : Addr) (kt : ClassId) (ds : List Int32) (cs : Int32) (em : Addr) (va : Addr) (kv : ClassId) (wa : Addr) (wb : Addr) (wc : Addr) (sa : Addr) (ta : Addr) (ka : ClassId) (sb : Addr) (tb : Addr) (kb : ClassId) (sc : Addr) (tc : Addr) (kc : ClassId) (h0 : Heap) (n0 : Nat) (v : Option Value) (h : Heap) (L : List Loc) : Prop := ∃ oo : Addr, v = some (.ref oo) ∧ Fr n0 L ∧ Keep h0 h [] ∧ Exa Z h oo "java/util/Optional" ∧ ((own_T0 = ds ∧ Fld Z h oo "java/util/Optional" "value" "Ljava/lang/Object;" (.ref wa)) ∨ (¬ own_T0 = ds ∧ own_T1 = ds ∧ Fld Z h oo "java/util/Optional" "value" "Ljava/lang/Object;" (.ref wb)) ∨ (¬ own_T0 = ds ∧ ¬ own_T1 = ds ∧ own_T2 = ds ∧ Fld Z h oo "java/util/Optional" "value" "Ljava/lang/Object;" (.ref wc)) ∨ (¬ own_T0 = ds ∧ ¬ own_T1 = ds ∧ ¬ own_T2 = ds ∧ Fld Z h oo "java/util/Optional" "value" "Ljava/lang/Object;" .null))
set_option maxRecDepth 65536 in
set_option maxHeartbeats 40000000 in
theorem rm16 (l : Launch) (Z : State) (a0 : Array Value) (hw : ∀ d ∈ tables_1, d.before a0 Z = true) (ws : List Jvm.Cond) (a1 : Addr) (tv : Addr) (kt : ClassId) (ds : List Int32) (cs : Int32) (em : Addr) (va : Addr) (kv : ClassId) (wa : Addr) (wb : Addr) (wc : Addr) (sa : Addr) (ta : Addr) (ka : ClassId) (sb : Addr) (tb : Addr) (kb : ClassId) (sc : Addr) (tc : Addr) (kc : ClassId) (h0 : Heap) (n0 : Nat) (Z0 : n0 ≤ h0.size) (E_a1 : Exa Z h0 a1 "java/lang/String") (F_value_a1 : Fld Z h0 a1 "java/lang/String" "value" "[B" (.ref tv)) (F_coder_a1 : Fld Z h0 a1 "java/lang/String" "coder" "B" (.int (0 : Int32))) (K_tv : Arv Z h0 tv kt .byte (Int32.ofNat ds.length) ((ds.map (fun c => c.toInt8.toInt32)).map Value.int) (.int 0)) (hds : ∀ c ∈ ds, ¬ c < 0 ∧ ¬ (255 : Int32) < c) (hdl : ds.length ≤ 4000) (F_optionName_wa : Fld Z h0 wa "com/example/marcasite/marcasite/marc/Carrier" "optionName" "Ljava/lang/String;" (.ref sa)) (E_sa : Exa Z h0 sa "java/lang/String") (F_value_sa : Fld Z h0 sa "java/lang/String" "value" "[B" (.ref ta)) (F_coder_sa : Fld Z h0 sa "java/lang/String" "coder" "B" (.int (0 : Int32))) (K_ta : Arv Z h0 ta ka .byte (7 : Int32) (([(105 : Int32), (115 : Int32), (111 : Int32), (50 : Int32), (55 : Int32), (48 : Int32), (57 : Int32)] : List Int32).map Value.int) (.int 0)) (F_optionName_wb : Fld Z h0 wb "com/example/marcasite/marcasite/marc/Carrier" "optionName" "Ljava/lang/String;" (.ref sb)) (E_sb : Exa Z h0 sb "java/lang/String") (F_value_sb : Fld Z h0 sb "java/lang/String" "value" "[B" (.ref tb)) (F_coder_sb : Fld Z h0 sb "java/lang/String" "coder" "B" (.int (0 : Int32))) (K_tb : Arv Z h0 tb kb .byte (7 : Int32) (([(109 : Int32), (97 : Int32), (114 : Int32), (99 : Int32), (120 : Int32), (109 : Int32), (108 : Int32)] : List Int32).map Value.int) (.int 0)) (F_optionName_wc : Fld Z h0 wc "com/example/marcasite/marcasite/marc/Carrier" "optionName" "Ljava/lang/String;" (.ref sc)) (E_sc : Exa Z h0 sc "java/lang/String") (F_value_sc : Fld Z h0 sc "java/lang/String" "value" "[B" (.ref tc)) (F_coder_sc : Fld Z h0 sc "java/lang/String" "coder" "B" (.int (0 : Int32))) (K_tc : Arv Z h0 tc kc .byte (4 : Int32) (([(106 : Int32), (115 : Int32), (111 : Int32), (110 : Int32)] : List Int32).map Value.int) (.int 0)) (E_em : Exa Z h0 em "java/util/Optional") (F_value_em : Fld Z h0 em "java/util/Optional" "value" "Ljava/lang/Object;" .null) (SVA : Sta Z Z.heap "com/example/marcasite/marcasite/marc/Carrier" "$VALUES" "[Lcom/example/marcasite/marcasite/marc/Carrier;" (.ref va)) (AVA : Arv Z Z.heap va kv (.object "com/example/marcasite/marcasite/marc/Carrier") (3 : Int32) [.ref wa, .ref wb, .ref wc] .null) (EVA : Exa Z Z.heap va "[Lcom/example/marcasite/marcasite/marc/Carrier;") (SEM : Sta Z Z.heap "java/util/Optional" "EMPTY" "Ljava/util/Optional;" (.ref em)) (SBC : Sta Z Z.heap "java/lang/String" "COMPACT_STRINGS" "Z" (.int cs)) (hcs : ¬ (cs = (0 : Int32))) (O_ : Old Z n0 h0) :
    MetFree l (⟨"com/example/marcasite/marcasite/marc/Carrier", "named", "(Ljava/lang/String;)Ljava/util/Optional;"⟩ : MethodName) (head1 (Jvm.Cond.code (⟨"com/example/marcasite/marcasite/marc/Carrier", "named", "(Ljava/lang/String;)Ljava/util/Optional;"⟩ : MethodName) prog_33_method_5_code 5 (some (.object "java/util/Optional")) :: ws) ({ frames := 3, cells := 2, slots := 4, locals := 38 } : Room)) (fun a U => a = #[(.ref a1)] ∧ Z.Warmed39 U.vm ∧ U.heap = h0) (fun _ _ _ _ _ => True) (fun _ U o U' => ∃ v L, o = .returned v ∧ Q16 Z a1 tv kt ds cs em va kv wa wb wc sa ta ka sb tb kb sc tc kc h0 n0 v U'.heap L ∧ FrameEnd U o U' L ({ frames := 3, cells := 2, slots := 4, locals := 38 } : Room).cells ({ frames := 3, cells := 2, slots := 4, locals := 38 } : Room).slots) := by
  have W := @own_wd Z a0 hw
  refine MetFree.of_bodySF (plainFor_of_name pn_16) hisR ?_
  intro p e s m args below meth c s₁ Bd hml0 hP hK
  obtain ⟨rfl, hZ, hh⟩ := hP
  have hx := Bd.exec
  have hby := Bd.bytes
  have hlk : meth.locks = false := BodyLoose.notSynchronized Bd
  have hml : c.maxLocals = 5 := hml0
  have hown : s.vm.findClass "com/example/marcasite/marcasite/marc/Carrier" = some m.cls := findClass_of_methodNamed Bd.named
  have hnm := (name_of_methodNamed Bd.named Bd.method).1
  have X0 : Stand p l e ({ frames := 3, cells := 2, slots := 4, locals := 38 } : Room) s m #[(.ref a1)] below meth c s₁ [] 0 0 := Stand.of_body Bd
  have e0 : s₁.heap = h0 := by rw [← hh, Bd.state]; rfl
  have N0 := Fr.nil n0
  show Gl p.tables e below _ _
  refine Gl.pre (fun t k => castTop (ef_16 m a1 tv kt ds cs em va kv wa wb wc sa ta ka sb tb kb sc tc kc) k) ?_
  refine Gl.gen (fun PP hPP => ?_)
  have K0 : Keep h0 h0 [] := Keep.refl h0 _
  have hwwordsEq : ∀ d ∈ StrChars.Road.wordsEq, d.before a0 Z = true := fun d hd => hw d ((by decide +kernel : ∀ d ∈ StrChars.Road.wordsEq, d ∈ tables_1) d hd)
  show Gl p.tables e below PP (s₁.setTop (mkF m 0 #[.val (.ref a1), .unset, .unset, .unset, .unset] []))
  obtain ⟨_, _, ⟨T1, L1, k1, n1⟩, -, X1, ⟨Lc1, hQ1, l1, y1, z1⟩, st1⟩ := Jvm.LawKit.callS X0 hx (y := (⟨"com/example/marcasite/marcasite/marc/Carrier", "values", "()[Lcom/example/marcasite/marcasite/marc/Carrier;"⟩ : MethodName)) hown (mvT hZ (W 79 rfl)) (mvT hZ (W 80 rfl)) (mvT hZ (W 10 rfl)) (mvT hZ (W 81 rfl)) (by decide) (backOf (W := 0) (rm17 l Z a0 hw [] va kv wa wb wc h0 n0 Z0 SVA AVA EVA O_) hZ (W 81 rfl) (W 10 rfl) (by decide) (by decide)) (g := (mkF m 0 #[.val (.ref a1), .unset, .unset, .unset, .unset] [])) rfl (by rw [hml]; rfl) (argsL := []) (rest := []) (lenOf pd_6 rfl) rfl (by show 2 * 0 + _ ≤ _; exact Nat.le_of_eq rfl) (hb hby d16_0) (fun _ _ => ⟨rfl, e0, (by decide : 0 + 1 ≤ _), (by decide : 0 + 3 ≤ _)⟩)
  dsimp only [Pt.U, Pt.locs, Pt.cells, Pt.slots] at X1 l1 y1 z1 st1 hQ1
  subst l1 y1 z1
  obtain ⟨ov1, rfl, N1q, hz1, K1, V1q⟩ := hQ1
  have N1 := Fr.app N0 N1q
  refine Gl.pre (fun _ k => st1 _ k) ?_
  have own_ne_a1_ov1 : a1 ≠ ov1 := Nat.ne_of_lt (Nat.lt_of_lt_of_le E_a1.lt hz1)
  have own_ne_ov1_a1 := own_ne_a1_ov1.symm
  have own_ne_wa_ov1 : wa ≠ ov1 := Nat.ne_of_lt (Nat.lt_of_lt_of_le F_optionName_wa.lt hz1)
  have own_ne_ov1_wa := own_ne_wa_ov1.symm
  have own_ne_sa_ov1 : sa ≠ ov1 := Nat.ne_of_lt (Nat.lt_of_lt_of_le E_sa.lt hz1)
  have own_ne_ov1_sa := own_ne_sa_ov1.symm
  have own_ne_wb_ov1 : wb ≠ ov1 := Nat.ne_of_lt (Nat.lt_of_lt_of_le F_optionName_wb.lt hz1)
  have own_ne_ov1_wb := own_ne_wb_ov1.symm
  have own_ne_sb_ov1 : sb ≠ ov1 := Nat.ne_of_lt (Nat.lt_of_lt_of_le E_sb.lt hz1)
  have own_ne_ov1_sb := own_ne_sb_ov1.symm
  have own_ne_wc_ov1 : wc ≠ ov1 := Nat.ne_of_lt (Nat.lt_of_lt_of_le F_optionName_wc.lt hz1)
  have own_ne_ov1_wc := own_ne_wc_ov1.symm
  have own_ne_sc_ov1 : sc ≠ ov1 := Nat.ne_of_lt (Nat.lt_of_lt_of_le E_sc.lt hz1)
  have own_ne_ov1_sc := own_ne_sc_ov1.symm
  have own_ne_em_ov1 : em ≠ ov1 := Nat.ne_of_lt (Nat.lt_of_lt_of_le E_em.lt hz1)
  have own_ne_ov1_em := own_ne_em_ov1.symm
  have g_ov1 : n0 ≤ ov1 := Nat.le_trans Z0 hz1
  have sz_ov1 : h0.size ≤ ov1 := Nat.le_trans K0.1 hz1
  have E_a1 := E_a1.keep K1
  have F_value_a1 := F_value_a1.keep K1 nin0
  have F_coder_a1 := F_coder_a1.keep K1 nin0
  have K_tv := K_tv.keep K1 nin0
  have F_optionName_wa := F_optionName_wa.keep K1 nin0
  have E_sa := E_sa.keep K1
  have F_value_sa := F_value_sa.keep K1 nin0
  have F_coder_sa := F_coder_sa.keep K1 nin0
  have K_ta := K_ta.keep K1 nin0
  have F_optionName_wb := F_optionName_wb.keep K1 nin0
  have E_sb := E_sb.keep K1
  have F_value_sb := F_value_sb.keep K1 nin0
  have F_coder_sb := F_coder_sb.keep K1 nin0
  have K_tb := K_tb.keep K1 nin0
  have F_optionName_wc := F_optionName_wc.keep K1 nin0
  have E_sc := E_sc.keep K1
  have F_value_sc := F_value_sc.keep K1 nin0
  have F_coder_sc := F_coder_sc.keep K1 nin0
  have K_tc := K_tc.keep K1 nin0
  have E_em := E_em.keep K1
  have F_value_em := F_value_em.keep K1 nin0
  have O_ := O_.keep K1 all0
  have Z1 : n0 ≤ T1.heap.size := Nat.le_trans Z0 K1.1
  have K1k := K0.trans K1 all0
  have V_ov1 := V1q
  refine Y.astoreN X1 hx (hb hby d16_3) rfl rfl (l' := #[.val (.ref a1), .val (.ref ov1), .unset, .unset, .unset]) rfl ?_
  refine Y.aloadN X1 hx (hb hby d16_4) rfl rfl ?_
  refine Gl.pre (fun _ k => own_lenR X1 hx hZ rfl V_ov1 (v := (3 : Int32)) rfl (g := (mkF m 5 #[.val (.ref a1), .val (.ref ov1), .unset, .unset, .unset] [(.ref ov1)])) rfl rfl (hb hby d16_5) k) ?_
  show Gl p.tables e below PP (T1.setTop (mkF m 6 #[.val (.ref a1), .val (.ref ov1), .unset, .unset, .unset] [(.int (3 : Int32))]))
  refine Y.istoreN X1 hx (hb hby d16_6) rfl (l' := #[.val (.ref a1), .val (.ref ov1), .val (.int (3 : Int32)), .unset, .unset]) rfl ?_
  refine Y.iconst X1 hx (hb hby d16_7) ?_
  refine Y.istoreN X1 hx (hb hby d16_8) rfl (l' := #[.val (.ref a1), .val (.ref ov1), .val (.int (3 : Int32)), .val (.int (0 : Int32)), .unset]) rfl ?_
  refine Y.iloadN X1 hx (hb hby d16_9) rfl ?_
  refine Y.iloadN X1 hx (hb hby d16_10) rfl ?_
  refine Y.icmpNo X1 hx (hb hby d16_11) rfl (tlt (show (0 : Int32) < (3 : Int32) from (by decide))).2.1 ?_
  refine Y.aloadN X1 hx (hb hby d16_14) rfl rfl ?_
  refine Y.iloadN X1 hx (hb hby d16_15) rfl ?_
  refine Gl.pre (fun _ k => own_ldR X1 hx hZ rfl V_ov1 (j := (0 : Int32)) (i := 0) (by decide) (by decide) (Nat.lt_of_lt_of_eq (by decide : 0 < 3) rfl) (v := (.ref wa)) rfl (g := (mkF m 16 #[.val (.ref a1), .val (.ref ov1), .val (.int (3 : Int32)), .val (.int (0 : Int32)), .unset] [(.int (0 : Int32)), (.ref ov1)])) rfl rfl (hb hby d16_16) _ k) ?_
  refine Y.astore X1 hx (hb hby d16_17) rfl rfl (l' := #[.val (.ref a1), .val (.ref ov1), .val (.int (3 : Int32)), .val (.int (0 : Int32)), .val (.ref wa)]) rfl ?_
  refine Y.aload X1 hx (hb hby d16_19) rfl rfl ?_
  obtain ⟨T2, X2, e2, st2⟩ := getF X1 hx hZ hown (host := "") (Or.inl (W 94 rfl)) Via.refl rfl F_optionName_wa (g := (mkF m 21 #[.val (.ref a1), .val (.ref ov1), .val (.int (3 : Int32)), .val (.int (0 : Int32)), .val (.ref wa)] [(.ref wa)])) rfl rfl (hb hby d16_21)
  refine Gl.pre (fun _ k => st2 _ k) ?_
  refine Y.aloadN X2 hx (hb hby d16_24) rfl rfl ?_
  obtain ⟨cq3, kq3, qa3, qb3, qc3⟩ := isOf hZ e2 E_sa
  obtain ⟨_, _, ⟨T3, L3, k3, n3⟩, -, X3, ⟨Lc3, hQ3, l3, y3, z3⟩, st3⟩ := X2.virtualBack hx (y := (⟨"java/lang/String", "equals", "(Ljava/lang/Object;)Z"⟩ : MethodName)) (z := (⟨"java/lang/String", "equals", "(Ljava/lang/Object;)Z"⟩ : MethodName)) hown (mvT hZ (W 96 rfl)) (mvT hZ (W 97 rfl)) (notFace_of_selects (args := #[]) (mvT hZ (W 99 rfl))) (mvT hZ (W 99 rfl)) (mvT hZ (W 98 rfl)) (by decide) (StrChars.Road.eqW (W := 0) hZ hwwordsEq (kI := 4) (W 3 rfl) E_sa F_value_sa F_coder_sa K_ta own_Tc0 own_Tb0 (by decide) E_a1 F_value_a1 F_coder_a1 K_tv (StrChars.Road.codOf rfl (fun c hc => (hds c hc).2)) (fun c hc => ⟨(hds c hc).1, own_le255 (hds c hc).2⟩) hdl (SBC.ext O_.2) hcs (by decide) (by decide)) qa3 qc3 (g := (mkF m 25 #[.val (.ref a1), .val (.ref ov1), .val (.int (3 : Int32)), .val (.int (0 : Int32)), .val (.ref wa)] [(.ref a1), (.ref sa)])) rfl (by rw [hml]; rfl) (Steps.refl _) (argsL := [(.ref a1)]) (rest := []) (lenOf pd_7 rfl) rfl (by show 2 * 0 + _ ≤ _; exact Nat.le_of_eq rfl) (hb hby d16_25) (fun _ _ => ⟨rfl, e2, (by decide : 1 + 0 ≤ _), (by decide : 3 + 0 ≤ _)⟩)
  dsimp only [Pt.U, Pt.locs, Pt.cells, Pt.slots] at X3 l3 y3 z3 st3 hQ3
  subst l3 y3 z3
  obtain ⟨hQ3, rfl, e3⟩ := hQ3
  have N3 := Fr.app N1 (Fr.nil n0)
  rcases hQ3 with ⟨rfl, hQ3⟩ | ⟨rfl, hQ3⟩
  refine Gl.pre (fun _ k => st3.trans k) ?_
  show Gl p.tables e below PP (T3.setTop (mkF m 28 #[.val (.ref a1), .val (.ref ov1), .val (.int (3 : Int32)), .val (.int (0 : Int32)), .val (.ref wa)] [(.int (1 : Int32))]))
  refine Y.ifNo X3 hx (hb hby d16_28) rfl ((if0 _ _).trans (feq (show ¬ ((1 : Int32) = (0 : Int32)) from (by decide))).1) ?_
  refine Y.aload X3 hx (hb hby d16_31) rfl rfl ?_
  obtain ⟨_, _, ⟨T4, L4, k4, n4⟩, -, X4, ⟨Lc4, hQ4, l4, y4, z4⟩, st4⟩ := Jvm.LawKit.callS X3 hx (y := (⟨"java/util/Optional", "of", "(Ljava/lang/Object;)Ljava/util/Optional;"⟩ : MethodName)) hown (mvT hZ (W 125 rfl)) (mvT hZ (W 126 rfl)) (mvT hZ (W 109 rfl)) (mvT hZ (W 127 rfl)) (by decide) (backOf (W := 0) (rm22 l Z a0 hw [] wa T1.heap n0 Z1 ) hZ (W 127 rfl) (W 109 rfl) (by decide) (by decide)) (g := (mkF m 33 #[.val (.ref a1), .val (.ref ov1), .val (.int (3 : Int32)), .val (.int (0 : Int32)), .val (.ref wa)] [(.ref wa)])) rfl (by rw [hml]; rfl) (argsL := [(.ref wa)]) (rest := []) (lenOf pd_8 rfl) rfl (by show 2 * 0 + _ ≤ _; exact Nat.le_of_eq rfl) (hb hby d16_33) (fun _ _ => ⟨rfl, e3, (by decide : 1 + 1 ≤ _), (by decide : 3 + 1 ≤ _)⟩)
  dsimp only [Pt.U, Pt.locs, Pt.cells, Pt.slots] at X4 l4 y4 z4 st4 hQ4
  subst l4 y4 z4
  obtain ⟨oo4, rfl, N4q, K4, hzoo4, x4_0, x4_1⟩ := hQ4
  have N4 := Fr.app N3 N4q
  refine Gl.pre (fun _ k => st4 _ k) ?_
  have own_ne_a1_oo4 : a1 ≠ oo4 := Nat.ne_of_lt (Nat.lt_of_lt_of_le E_a1.lt hzoo4)
  have own_ne_oo4_a1 := own_ne_a1_oo4.symm
  have own_ne_wa_oo4 : wa ≠ oo4 := Nat.ne_of_lt (Nat.lt_of_lt_of_le F_optionName_wa.lt hzoo4)
  have own_ne_oo4_wa := own_ne_wa_oo4.symm
  have own_ne_sa_oo4 : sa ≠ oo4 := Nat.ne_of_lt (Nat.lt_of_lt_of_le E_sa.lt hzoo4)
  have own_ne_oo4_sa := own_ne_sa_oo4.symm
  have own_ne_wb_oo4 : wb ≠ oo4 := Nat.ne_of_lt (Nat.lt_of_lt_of_le F_optionName_wb.lt hzoo4)
  have own_ne_oo4_wb := own_ne_wb_oo4.symm
  have own_ne_sb_oo4 : sb ≠ oo4 := Nat.ne_of_lt (Nat.lt_of_lt_of_le E_sb.lt hzoo4)
  have own_ne_oo4_sb := own_ne_sb_oo4.symm
  have own_ne_wc_oo4 : wc ≠ oo4 := Nat.ne_of_lt (Nat.lt_of_lt_of_le F_optionName_wc.lt hzoo4)
  have own_ne_oo4_wc := own_ne_wc_oo4.symm
  have own_ne_sc_oo4 : sc ≠ oo4 := Nat.ne_of_lt (Nat.lt_of_lt_of_le E_sc.lt hzoo4)
  have own_ne_oo4_sc := own_ne_sc_oo4.symm
  have own_ne_em_oo4 : em ≠ oo4 := Nat.ne_of_lt (Nat.lt_of_lt_of_le E_em.lt hzoo4)
  have own_ne_oo4_em := own_ne_em_oo4.symm
  have own_ne_ov1_oo4 : ov1 ≠ oo4 := Nat.ne_of_lt (Nat.lt_of_lt_of_le V_ov1.lt hzoo4)
  have own_ne_oo4_ov1 := own_ne_ov1_oo4.symm
  have g_oo4 : n0 ≤ oo4 := Nat.le_trans Z1 hzoo4
  have sz_oo4 : h0.size ≤ oo4 := Nat.le_trans K1k.1 hzoo4
  have E_a1 := E_a1.keep K4
  have F_value_a1 := F_value_a1.keep K4 nin0
  have F_coder_a1 := F_coder_a1.keep K4 nin0
  have K_tv := K_tv.keep K4 nin0
  have F_optionName_wa := F_optionName_wa.keep K4 nin0
  have E_sa := E_sa.keep K4
  have F_value_sa := F_value_sa.keep K4 nin0
  have F_coder_sa := F_coder_sa.keep K4 nin0
  have K_ta := K_ta.keep K4 nin0
  have F_optionName_wb := F_optionName_wb.keep K4 nin0
  have E_sb := E_sb.keep K4
  have F_value_sb := F_value_sb.keep K4 nin0
  have F_coder_sb := F_coder_sb.keep K4 nin0
  have K_tb := K_tb.keep K4 nin0
  have F_optionName_wc := F_optionName_wc.keep K4 nin0
  have E_sc := E_sc.keep K4
  have F_value_sc := F_value_sc.keep K4 nin0
  have F_coder_sc := F_coder_sc.keep K4 nin0
  have K_tc := K_tc.keep K4 nin0
  have E_em := E_em.keep K4
  have F_value_em := F_value_em.keep K4 nin0
  have O_ := O_.keep K4 all0
  have V_ov1 := V_ov1.keep K4 nin0
  have Z4 : n0 ≤ T4.heap.size := Nat.le_trans Z1 K4.1
  have K4k := K1k.trans K4 all0
  have E_oo4 := x4_0
  have F_value_oo4 := x4_1
  rw [hPP]
  refine own_finA (Q := (Q16 Z a1 tv kt ds cs em va kv wa wb wc sa ta ka sb tb kb sc tc kc h0 n0)) X4 hx hlk Bd.returns rfl rfl (hb hby d16_36) ?_ (by decide) (by decide)
  show Q16 Z a1 tv kt ds cs em va kv wa wb wc sa ta ka sb tb kb sc tc kc h0 n0 _ T4.heap _
  exact ⟨oo4, rfl, N4, K4k, E_oo4, Or.inl ⟨hQ3, F_value_oo4⟩⟩
  refine Gl.pre (fun _ k => st3.trans k) ?_
  show Gl p.tables e below PP (T3.setTop (mkF m 28 #[.val (.ref a1), .val (.ref ov1), .val (.int (3 : Int32)), .val (.int (0 : Int32)), .val (.ref wa)] [(.int (0 : Int32))]))
  refine Y.ifYes X3 hx (pc0 := 28) (pc' := 37) rfl (hb hby d16_28) rfl ((if0 _ _).trans (teq (show (0 : Int32) = (0 : Int32) from (by decide))).1) (by decide) (by decide) ?_
  refine Y.iinc X3 hx (hb hby d16_37) rfl (l' := #[.val (.ref a1), .val (.ref ov1), .val (.int (3 : Int32)), .val (.int (1 : Int32)), .val (.ref wa)]) rfl ?_
  refine Y.goto X3 hx (pc0 := 40) (pc' := 9) rfl (hb hby d16_40) (by decide) (by decide) ?_
  refine Y.iloadN X3 hx (hb hby d16_9) rfl ?_
  refine Y.iloadN X3 hx (hb hby d16_10) rfl ?_
  refine Y.icmpNo X3 hx (hb hby d16_11) rfl (tlt (show (1 : Int32) < (3 : Int32) from (by decide))).2.1 ?_
  refine Y.aloadN X3 hx (hb hby d16_14) rfl rfl ?_
  refine Y.iloadN X3 hx (hb hby d16_15) rfl ?_
  refine Gl.pre (fun _ k => own_ldR X3 hx hZ e3 V_ov1 (j := (1 : Int32)) (i := 1) (by decide) (by decide) (Nat.lt_of_lt_of_eq (by decide : 1 < 3) rfl) (v := (.ref wb)) rfl (g := (mkF m 16 #[.val (.ref a1), .val (.ref ov1), .val (.int (3 : Int32)), .val (.int (1 : Int32)), .val (.ref wa)] [(.int (1 : Int32)), (.ref ov1)])) rfl rfl (hb hby d16_16) _ k) ?_
  refine Y.astore X3 hx (hb hby d16_17) rfl rfl (l' := #[.val (.ref a1), .val (.ref ov1), .val (.int (3 : Int32)), .val (.int (1 : Int32)), .val (.ref wb)]) rfl ?_
  refine Y.aload X3 hx (hb hby d16_19) rfl rfl ?_
  obtain ⟨T5, X5, e5, st5⟩ := getF X3 hx hZ hown (host := "") (Or.inl (W 94 rfl)) Via.refl e3 F_optionName_wb (g := (mkF m 21 #[.val (.ref a1), .val (.ref ov1), .val (.int (3 : Int32)), .val (.int (1 : Int32)), .val (.ref wb)] [(.ref wb)])) rfl rfl (hb hby d16_21)
  refine Gl.pre (fun _ k => st5 _ k) ?_
  refine Y.aloadN X5 hx (hb hby d16_24) rfl rfl ?_
  obtain ⟨cq6, kq6, qa6, qb6, qc6⟩ := isOf hZ e5 E_sb
  obtain ⟨_, _, ⟨T6, L6, k6, n6⟩, -, X6, ⟨Lc6, hQ6, l6, y6, z6⟩, st6⟩ := X5.virtualBack hx (y := (⟨"java/lang/String", "equals", "(Ljava/lang/Object;)Z"⟩ : MethodName)) (z := (⟨"java/lang/String", "equals", "(Ljava/lang/Object;)Z"⟩ : MethodName)) hown (mvT hZ (W 96 rfl)) (mvT hZ (W 97 rfl)) (notFace_of_selects (args := #[]) (mvT hZ (W 99 rfl))) (mvT hZ (W 99 rfl)) (mvT hZ (W 98 rfl)) (by decide) (StrChars.Road.eqW (W := 0) hZ hwwordsEq (kI := 4) (W 3 rfl) E_sb F_value_sb F_coder_sb K_tb own_Tc1 own_Tb1 (by decide) E_a1 F_value_a1 F_coder_a1 K_tv (StrChars.Road.codOf rfl (fun c hc => (hds c hc).2)) (fun c hc => ⟨(hds c hc).1, own_le255 (hds c hc).2⟩) hdl (SBC.ext O_.2) hcs (by decide) (by decide)) qa6 qc6 (g := (mkF m 25 #[.val (.ref a1), .val (.ref ov1), .val (.int (3 : Int32)), .val (.int (1 : Int32)), .val (.ref wb)] [(.ref a1), (.ref sb)])) rfl (by rw [hml]; rfl) (Steps.refl _) (argsL := [(.ref a1)]) (rest := []) (lenOf pd_7 rfl) rfl (by show 2 * 0 + _ ≤ _; exact Nat.le_of_eq rfl) (hb hby d16_25) (fun _ _ => ⟨rfl, e5, (by decide : 1 + 0 ≤ _), (by decide : 3 + 0 ≤ _)⟩)
  dsimp only [Pt.U, Pt.locs, Pt.cells, Pt.slots] at X6 l6 y6 z6 st6 hQ6
  subst l6 y6 z6
  obtain ⟨hQ6, rfl, e6⟩ := hQ6
  have N6 := Fr.app N3 (Fr.nil n0)
  rcases hQ6 with ⟨rfl, hQ6⟩ | ⟨rfl, hQ6⟩
  refine Gl.pre (fun _ k => st6.trans k) ?_
  show Gl p.tables e below PP (T6.setTop (mkF m 28 #[.val (.ref a1), .val (.ref ov1), .val (.int (3 : Int32)), .val (.int (1 : Int32)), .val (.ref wb)] [(.int (1 : Int32))]))
  refine Y.ifNo X6 hx (hb hby d16_28) rfl ((if0 _ _).trans (feq (show ¬ ((1 : Int32) = (0 : Int32)) from (by decide))).1) ?_
  refine Y.aload X6 hx (hb hby d16_31) rfl rfl ?_
  obtain ⟨_, _, ⟨T7, L7, k7, n7⟩, -, X7, ⟨Lc7, hQ7, l7, y7, z7⟩, st7⟩ := Jvm.LawKit.callS X6 hx (y := (⟨"java/util/Optional", "of", "(Ljava/lang/Object;)Ljava/util/Optional;"⟩ : MethodName)) hown (mvT hZ (W 125 rfl)) (mvT hZ (W 126 rfl)) (mvT hZ (W 109 rfl)) (mvT hZ (W 127 rfl)) (by decide) (backOf (W := 0) (rm22 l Z a0 hw [] wb T1.heap n0 Z1 ) hZ (W 127 rfl) (W 109 rfl) (by decide) (by decide)) (g := (mkF m 33 #[.val (.ref a1), .val (.ref ov1), .val (.int (3 : Int32)), .val (.int (1 : Int32)), .val (.ref wb)] [(.ref wb)])) rfl (by rw [hml]; rfl) (argsL := [(.ref wb)]) (rest := []) (lenOf pd_8 rfl) rfl (by show 2 * 0 + _ ≤ _; exact Nat.le_of_eq rfl) (hb hby d16_33) (fun _ _ => ⟨rfl, e6, (by decide : 1 + 1 ≤ _), (by decide : 3 + 1 ≤ _)⟩)
  dsimp only [Pt.U, Pt.locs, Pt.cells, Pt.slots] at X7 l7 y7 z7 st7 hQ7
  subst l7 y7 z7
  obtain ⟨oo7, rfl, N7q, K7, hzoo7, x7_0, x7_1⟩ := hQ7
  have N7 := Fr.app N6 N7q
  refine Gl.pre (fun _ k => st7 _ k) ?_
  have own_ne_a1_oo7 : a1 ≠ oo7 := Nat.ne_of_lt (Nat.lt_of_lt_of_le E_a1.lt hzoo7)
  have own_ne_oo7_a1 := own_ne_a1_oo7.symm
  have own_ne_wa_oo7 : wa ≠ oo7 := Nat.ne_of_lt (Nat.lt_of_lt_of_le F_optionName_wa.lt hzoo7)
  have own_ne_oo7_wa := own_ne_wa_oo7.symm
  have own_ne_sa_oo7 : sa ≠ oo7 := Nat.ne_of_lt (Nat.lt_of_lt_of_le E_sa.lt hzoo7)
  have own_ne_oo7_sa := own_ne_sa_oo7.symm
  have own_ne_wb_oo7 : wb ≠ oo7 := Nat.ne_of_lt (Nat.lt_of_lt_of_le F_optionName_wb.lt hzoo7)
  have own_ne_oo7_wb := own_ne_wb_oo7.symm
  have own_ne_sb_oo7 : sb ≠ oo7 := Nat.ne_of_lt (Nat.lt_of_lt_of_le E_sb.lt hzoo7)
  have own_ne_oo7_sb := own_ne_sb_oo7.symm
  have own_ne_wc_oo7 : wc ≠ oo7 := Nat.ne_of_lt (Nat.lt_of_lt_of_le F_optionName_wc.lt hzoo7)
  have own_ne_oo7_wc := own_ne_wc_oo7.symm
  have own_ne_sc_oo7 : sc ≠ oo7 := Nat.ne_of_lt (Nat.lt_of_lt_of_le E_sc.lt hzoo7)
  have own_ne_oo7_sc := own_ne_sc_oo7.symm
  have own_ne_em_oo7 : em ≠ oo7 := Nat.ne_of_lt (Nat.lt_of_lt_of_le E_em.lt hzoo7)
  have own_ne_oo7_em := own_ne_em_oo7.symm
  have own_ne_ov1_oo7 : ov1 ≠ oo7 := Nat.ne_of_lt (Nat.lt_of_lt_of_le V_ov1.lt hzoo7)
  have own_ne_oo7_ov1 := own_ne_ov1_oo7.symm
  have g_oo7 : n0 ≤ oo7 := Nat.le_trans Z1 hzoo7
  have sz_oo7 : h0.size ≤ oo7 := Nat.le_trans K1k.1 hzoo7
  have E_a1 := E_a1.keep K7
  have F_value_a1 := F_value_a1.keep K7 nin0
  have F_coder_a1 := F_coder_a1.keep K7 nin0
  have K_tv := K_tv.keep K7 nin0
  have F_optionName_wa := F_optionName_wa.keep K7 nin0
  have E_sa := E_sa.keep K7
  have F_value_sa := F_value_sa.keep K7 nin0
  have F_coder_sa := F_coder_sa.keep K7 nin0
  have K_ta := K_ta.keep K7 nin0
  have F_optionName_wb := F_optionName_wb.keep K7 nin0
  have E_sb := E_sb.keep K7
  have F_value_sb := F_value_sb.keep K7 nin0
  have F_coder_sb := F_coder_sb.keep K7 nin0
  have K_tb := K_tb.keep K7 nin0
  have F_optionName_wc := F_optionName_wc.keep K7 nin0
  have E_sc := E_sc.keep K7
  have F_value_sc := F_value_sc.keep K7 nin0
  have F_coder_sc := F_coder_sc.keep K7 nin0
  have K_tc := K_tc.keep K7 nin0
  have E_em := E_em.keep K7
  have F_value_em := F_value_em.keep K7 nin0
  have O_ := O_.keep K7 all0
  have V_ov1 := V_ov1.keep K7 nin0
  have Z7 : n0 ≤ T7.heap.size := Nat.le_trans Z1 K7.1
  have K7k := K1k.trans K7 all0
  have E_oo7 := x7_0
  have F_value_oo7 := x7_1
  rw [hPP]
  refine own_finA (Q := (Q16 Z a1 tv kt ds cs em va kv wa wb wc sa ta ka sb tb kb sc tc kc h0 n0)) X7 hx hlk Bd.returns rfl rfl (hb hby d16_36) ?_ (by decide) (by decide)
  show Q16 Z a1 tv kt ds cs em va kv wa wb wc sa ta ka sb tb kb sc tc kc h0 n0 _ T7.heap _
  exact ⟨oo7, rfl, N7, K7k, E_oo7, Or.inr (Or.inl ⟨hQ3, hQ6, F_value_oo7⟩)⟩
  refine Gl.pre (fun _ k => st6.trans k) ?_
  show Gl p.tables e below PP (T6.setTop (mkF m 28 #[.val (.ref a1), .val (.ref ov1), .val (.int (3 : Int32)), .val (.int (1 : Int32)), .val (.ref wb)] [(.int (0 : Int32))]))
  refine Y.ifYes X6 hx (pc0 := 28) (pc' := 37) rfl (hb hby d16_28) rfl ((if0 _ _).trans (teq (show (0 : Int32) = (0 : Int32) from (by decide))).1) (by decide) (by decide) ?_
  refine Y.iinc X6 hx (hb hby d16_37) rfl (l' := #[.val (.ref a1), .val (.ref ov1), .val (.int (3 : Int32)), .val (.int (2 : Int32)), .val (.ref wb)]) rfl ?_
  refine Y.goto X6 hx (pc0 := 40) (pc' := 9) rfl (hb hby d16_40) (by decide) (by decide) ?_
  refine Y.iloadN X6 hx (hb hby d16_9) rfl ?_
  refine Y.iloadN X6 hx (hb hby d16_10) rfl ?_
  refine Y.icmpNo X6 hx (hb hby d16_11) rfl (tlt (show (2 : Int32) < (3 : Int32) from (by decide))).2.1 ?_
  refine Y.aloadN X6 hx (hb hby d16_14) rfl rfl ?_
  refine Y.iloadN X6 hx (hb hby d16_15) rfl ?_
  refine Gl.pre (fun _ k => own_ldR X6 hx hZ e6 V_ov1 (j := (2 : Int32)) (i := 2) (by decide) (by decide) (Nat.lt_of_lt_of_eq (by decide : 2 < 3) rfl) (v := (.ref wc)) rfl (g := (mkF m 16 #[.val (.ref a1), .val (.ref ov1), .val (.int (3 : Int32)), .val (.int (2 : Int32)), .val (.ref wb)] [(.int (2 : Int32)), (.ref ov1)])) rfl rfl (hb hby d16_16) _ k) ?_
  refine Y.astore X6 hx (hb hby d16_17) rfl rfl (l' := #[.val (.ref a1), .val (.ref ov1), .val (.int (3 : Int32)), .val (.int (2 : Int32)), .val (.ref wc)]) rfl ?_
  refine Y.aload X6 hx (hb hby d16_19) rfl rfl ?_
  obtain ⟨T8, X8, e8, st8⟩ := getF X6 hx hZ hown (host := "") (Or.inl (W 94 rfl)) Via.refl e6 F_optionName_wc (g := (mkF m 21 #[.val (.ref a1), .val (.ref ov1), .val (.int (3 : Int32)), .val (.int (2 : Int32)), .val (.ref wc)] [(.ref wc)])) rfl rfl (hb hby d16_21)
  refine Gl.pre (fun _ k => st8 _ k) ?_
  refine Y.aloadN X8 hx (hb hby d16_24) rfl rfl ?_
  obtain ⟨cq9, kq9, qa9, qb9, qc9⟩ := isOf hZ e8 E_sc
  obtain ⟨_, _, ⟨T9, L9, k9, n9⟩, -, X9, ⟨Lc9, hQ9, l9, y9, z9⟩, st9⟩ := X8.virtualBack hx (y := (⟨"java/lang/String", "equals", "(Ljava/lang/Object;)Z"⟩ : MethodName)) (z := (⟨"java/lang/String", "equals", "(Ljava/lang/Object;)Z"⟩ : MethodName)) hown (mvT hZ (W 96 rfl)) (mvT hZ (W 97 rfl)) (notFace_of_selects (args := #[]) (mvT hZ (W 99 rfl))) (mvT hZ (W 99 rfl)) (mvT hZ (W 98 rfl)) (by decide) (StrChars.Road.eqW (W := 0) hZ hwwordsEq (kI := 4) (W 3 rfl) E_sc F_value_sc F_coder_sc K_tc own_Tc2 own_Tb2 (by decide) E_a1 F_value_a1 F_coder_a1 K_tv (StrChars.Road.codOf rfl (fun c hc => (hds c hc).2)) (fun c hc => ⟨(hds c hc).1, own_le255 (hds c hc).2⟩) hdl (SBC.ext O_.2) hcs (by decide) (by decide)) qa9 qc9 (g := (mkF m 25 #[.val (.ref a1), .val (.ref ov1), .val (.int (3 : Int32)), .val (.int (2 : Int32)), .val (.ref wc)] [(.ref a1), (.ref sc)])) rfl (by rw [hml]; rfl) (Steps.refl _) (argsL := [(.ref a1)]) (rest := []) (lenOf pd_7 rfl) rfl (by show 2 * 0 + _ ≤ _; exact Nat.le_of_eq rfl) (hb hby d16_25) (fun _ _ => ⟨rfl, e8, (by decide : 1 + 0 ≤ _), (by decide : 3 + 0 ≤ _)⟩)
  dsimp only [Pt.U, Pt.locs, Pt.cells, Pt.slots] at X9 l9 y9 z9 st9 hQ9
  subst l9 y9 z9
  obtain ⟨hQ9, rfl, e9⟩ := hQ9
  have N9 := Fr.app N6 (Fr.nil n0)
  rcases hQ9 with ⟨rfl, hQ9⟩ | ⟨rfl, hQ9⟩
  refine Gl.pre (fun _ k => st9.trans k) ?_
  show Gl p.tables e below PP (T9.setTop (mkF m 28 #[.val (.ref a1), .val (.ref ov1), .val (.int (3 : Int32)), .val (.int (2 : Int32)), .val (.ref wc)] [(.int (1 : Int32))]))
  refine Y.ifNo X9 hx (hb hby d16_28) rfl ((if0 _ _).trans (feq (show ¬ ((1 : Int32) = (0 : Int32)) from (by decide))).1) ?_
  refine Y.aload X9 hx (hb hby d16_31) rfl rfl ?_
  obtain ⟨_, _, ⟨T10, L10, k10, n10⟩, -, X10, ⟨Lc10, hQ10, l10, y10, z10⟩, st10⟩ := Jvm.LawKit.callS X9 hx (y := (⟨"java/util/Optional", "of", "(Ljava/lang/Object;)Ljava/util/Optional;"⟩ : MethodName)) hown (mvT hZ (W 125 rfl)) (mvT hZ (W 126 rfl)) (mvT hZ (W 109 rfl)) (mvT hZ (W 127 rfl)) (by decide) (backOf (W := 0) (rm22 l Z a0 hw [] wc T1.heap n0 Z1 ) hZ (W 127 rfl) (W 109 rfl) (by decide) (by decide)) (g := (mkF m 33 #[.val (.ref a1), .val (.ref ov1), .val (.int (3 : Int32)), .val (.int (2 : Int32)), .val (.ref wc)] [(.ref wc)])) rfl (by rw [hml]; rfl) (argsL := [(.ref wc)]) (rest := []) (lenOf pd_8 rfl) rfl (by show 2 * 0 + _ ≤ _; exact Nat.le_of_eq rfl) (hb hby d16_33) (fun _ _ => ⟨rfl, e9, (by decide : 1 + 1 ≤ _), (by decide : 3 + 1 ≤ _)⟩)
  dsimp only [Pt.U, Pt.locs, Pt.cells, Pt.slots] at X10 l10 y10 z10 st10 hQ10
  subst l10 y10 z10
  obtain ⟨oo10, rfl, N10q, K10, hzoo10, x10_0, x10_1⟩ := hQ10
  have N10 := Fr.app N9 N10q
  refine Gl.pre (fun _ k => st10 _ k) ?_
  have own_ne_a1_oo10 : a1 ≠ oo10 := Nat.ne_of_lt (Nat.lt_of_lt_of_le E_a1.lt hzoo10)
  have own_ne_oo10_a1 := own_ne_a1_oo10.symm
  have own_ne_wa_oo10 : wa ≠ oo10 := Nat.ne_of_lt (Nat.lt_of_lt_of_le F_optionName_wa.lt hzoo10)
  have own_ne_oo10_wa := own_ne_wa_oo10.symm
  have own_ne_sa_oo10 : sa ≠ oo10 := Nat.ne_of_lt (Nat.lt_of_lt_of_le E_sa.lt hzoo10)
  have own_ne_oo10_sa := own_ne_sa_oo10.symm
  have own_ne_wb_oo10 : wb ≠ oo10 := Nat.ne_of_lt (Nat.lt_of_lt_of_le F_optionName_wb.lt hzoo10)
  have own_ne_oo10_wb := own_ne_wb_oo10.symm
  have own_ne_sb_oo10 : sb ≠ oo10 := Nat.ne_of_lt (Nat.lt_of_lt_of_le E_sb.lt hzoo10)
  have own_ne_oo10_sb := own_ne_sb_oo10.symm
  have own_ne_wc_oo10 : wc ≠ oo10 := Nat.ne_of_lt (Nat.lt_of_lt_of_le F_optionName_wc.lt hzoo10)
  have own_ne_oo10_wc := own_ne_wc_oo10.symm
  have own_ne_sc_oo10 : sc ≠ oo10 := Nat.ne_of_lt (Nat.lt_of_lt_of_le E_sc.lt hzoo10)
  have own_ne_oo10_sc := own_ne_sc_oo10.symm
  have own_ne_em_oo10 : em ≠ oo10 := Nat.ne_of_lt (Nat.lt_of_lt_of_le E_em.lt hzoo10)
  have own_ne_oo10_em := own_ne_em_oo10.symm
  have own_ne_ov1_oo10 : ov1 ≠ oo10 := Nat.ne_of_lt (Nat.lt_of_lt_of_le V_ov1.lt hzoo10)
  have own_ne_oo10_ov1 := own_ne_ov1_oo10.symm
  have g_oo10 : n0 ≤ oo10 := Nat.le_trans Z1 hzoo10
  have sz_oo10 : h0.size ≤ oo10 := Nat.le_trans K1k.1 hzoo10
  have E_a1 := E_a1.keep K10
  have F_value_a1 := F_value_a1.keep K10 nin0
  have F_coder_a1 := F_coder_a1.keep K10 nin0
  have K_tv := K_tv.keep K10 nin0
  have F_optionName_wa := F_optionName_wa.keep K10 nin0
  have E_sa := E_sa.keep K10
  have F_value_sa := F_value_sa.keep K10 nin0
  have F_coder_sa := F_coder_sa.keep K10 nin0
  have K_ta := K_ta.keep K10 nin0
  have F_optionName_wb := F_optionName_wb.keep K10 nin0
  have E_sb := E_sb.keep K10
  have F_value_sb := F_value_sb.keep K10 nin0
  have F_coder_sb := F_coder_sb.keep K10 nin0
  have K_tb := K_tb.keep K10 nin0
  have F_optionName_wc := F_optionName_wc.keep K10 nin0
  have E_sc := E_sc.keep K10
  have F_value_sc := F_value_sc.keep K10 nin0
  have F_coder_sc := F_coder_sc.keep K10 nin0
  have K_tc := K_tc.keep K10 nin0
  have E_em := E_em.keep K10
  have F_value_em := F_value_em.keep K10 nin0
  have O_ := O_.keep K10 all0
  have V_ov1 := V_ov1.keep K10 nin0
  have Z10 : n0 ≤ T10.heap.size := Nat.le_trans Z1 K10.1
  have K10k := K1k.trans K10 all0
  have E_oo10 := x10_0
  have F_value_oo10 := x10_1
  rw [hPP]
  refine own_finA (Q := (Q16 Z a1 tv kt ds cs em va kv wa wb wc sa ta ka sb tb kb sc tc kc h0 n0)) X10 hx hlk Bd.returns rfl rfl (hb hby d16_36) ?_ (by decide) (by decide)
  show Q16 Z a1 tv kt ds cs em va kv wa wb wc sa ta ka sb tb kb sc tc kc h0 n0 _ T10.heap _
  exact ⟨oo10, rfl, N10, K10k, E_oo10, Or.inr (Or.inr (Or.inl ⟨hQ3, hQ6, hQ9, F_value_oo10⟩))⟩
  refine Gl.pre (fun _ k => st9.trans k) ?_
  show Gl p.tables e below PP (T9.setTop (mkF m 28 #[.val (.ref a1), .val (.ref ov1), .val (.int (3 : Int32)), .val (.int (2 : Int32)), .val (.ref wc)] [(.int (0 : Int32))]))
  refine Y.ifYes X9 hx (pc0 := 28) (pc' := 37) rfl (hb hby d16_28) rfl ((if0 _ _).trans (teq (show (0 : Int32) = (0 : Int32) from (by decide))).1) (by decide) (by decide) ?_
  refine Y.iinc X9 hx (hb hby d16_37) rfl (l' := #[.val (.ref a1), .val (.ref ov1), .val (.int (3 : Int32)), .val (.int (3 : Int32)), .val (.ref wc)]) rfl ?_
  refine Y.goto X9 hx (pc0 := 40) (pc' := 9) rfl (hb hby d16_40) (by decide) (by decide) ?_
  refine Y.iloadN X9 hx (hb hby d16_9) rfl ?_
  refine Y.iloadN X9 hx (hb hby d16_10) rfl ?_
  refine Y.icmpYes X9 hx (pc0 := 11) (pc' := 43) rfl (hb hby d16_11) rfl (flt (show ¬ ((3 : Int32) < (3 : Int32)) from (by decide))).2.1 (by decide) (by decide) ?_
  obtain ⟨_, _, ⟨T11, L11, k11, n11⟩, -, X11, ⟨Lc11, hQ11, l11, y11, z11⟩, st11⟩ := Jvm.LawKit.callS X9 hx (y := (⟨"java/util/Optional", "empty", "()Ljava/util/Optional;"⟩ : MethodName)) hown (mvT hZ (W 107 rfl)) (mvT hZ (W 108 rfl)) (mvT hZ (W 109 rfl)) (mvT hZ (W 110 rfl)) (by decide) (backOf (W := 0) (rm20 l Z a0 hw [] em T1.heap n0 Z1 SEM O_) hZ (W 110 rfl) (W 109 rfl) (by decide) (by decide)) (g := (mkF m 43 #[.val (.ref a1), .val (.ref ov1), .val (.int (3 : Int32)), .val (.int (3 : Int32)), .val (.ref wc)] [])) rfl (by rw [hml]; rfl) (argsL := []) (rest := []) (lenOf pd_9 rfl) rfl (by show 2 * 0 + _ ≤ _; exact Nat.le_of_eq rfl) (hb hby d16_43) (fun _ _ => ⟨rfl, e9, (by decide : 1 + 0 ≤ _), (by decide : 3 + 0 ≤ _)⟩)
  dsimp only [Pt.U, Pt.locs, Pt.cells, Pt.slots] at X11 l11 y11 z11 st11 hQ11
  subst l11 y11 z11
  obtain ⟨rfl, N11q, e11⟩ := hQ11
  have N11 := Fr.app N9 N11q
  refine Gl.pre (fun _ k => st11 _ k) ?_
  rw [hPP]
  refine own_finA (Q := (Q16 Z a1 tv kt ds cs em va kv wa wb wc sa ta ka sb tb kb sc tc kc h0 n0)) X11 hx hlk Bd.returns rfl rfl (hb hby d16_46) ?_ (by decide) (by decide)
  show Q16 Z a1 tv kt ds cs em va kv wa wb wc sa ta ka sb tb kb sc tc kc h0 n0 _ T11.heap _
  rw [e11]
  exact ⟨em, rfl, N11, K1k, E_em, Or.inr (Or.inr (Or.inr (⟨hQ3, hQ6, hQ9, F_value_em⟩)))⟩
theorem pn_0 : plainName "com/example/marcasite/marcasite/marc/CarrierNamedPinLaw" = true := by first | (simp [plainName, overriddenIn]; done) | decide +kernel
theorem ef_0 (m : MethodId) (p1 : Int32) (p2 : Int32) (p3 : Int32) (p4 : Int32) (p5 : Int32) (cs : Int32) (fo : Value) (em : Addr) (va : Addr) (kv : ClassId) (wa : Addr) (wb : Addr) (wc : Addr) (sa : Addr) (ta : Addr) (ka : ClassId) (sb : Addr) (tb : Addr) (kb : ClassId) (sc : Addr) (tc : Addr) (kc : ClassId) : entryFrame m #[(.int p1), (.int p2), (.int p3), (.int p4), (.int p5)] maxLocals = mkF m 0 #[.val (.int p1), .val (.int p2), .val (.int p3), .val (.int p4), .val (.int p5), .unset, .unset, .unset, .unset, .unset, .unset, .unset, .unset, .unset, .unset, .unset, .unset, .unset] [] := by first | (simp [entryFrame, mkF, argsToLocals, Value.category, maxLocals]; done) | rfl
def Q0 (Z : State) (p1 : Int32) (p2 : Int32) (p3 : Int32) (p4 : Int32) (p5 : Int32) (cs : Int32) (fo : Value) (em : Addr) (va : Addr) (kv : ClassId) (wa : Addr) (wb : Addr) (wc : Addr) (sa : Addr) (ta : Addr) (ka : ClassId) (sb : Addr) (tb : Addr) (kb : ClassId) (sc : Addr) (tc : Addr) (kc : ClassId) (h0 : Heap) (n0 : Nat) (v : Option Value) (h : Heap) (L : List Loc) : Prop := v = some (.int (1 : Int32)) ∧ Fr n0 L
set_option maxRecDepth 65536 in
set_option maxHeartbeats 40000000 in
theorem rm0 (l : Launch) (Z : State) (a0 : Array Value) (hw : ∀ d ∈ tables_1, d.before a0 Z = true) (ws : List Jvm.Cond) (p1 : Int32) (p2 : Int32) (p3 : Int32) (p4 : Int32) (p5 : Int32) (cs : Int32) (fo : Value) (em : Addr) (va : Addr) (kv : ClassId) (wa : Addr) (wb : Addr) (wc : Addr) (sa : Addr) (ta : Addr) (ka : ClassId) (sb : Addr) (tb : Addr) (kb : ClassId) (sc : Addr) (tc : Addr) (kc : ClassId) (h0 : Heap) (n0 : Nat) (Z0 : n0 ≤ h0.size) (SIA : Sta Z Z.heap "com/example/marcasite/marcasite/marc/Carrier" "ISO2709" "Lcom/example/marcasite/marcasite/marc/Carrier;" (.ref wa)) (SIB : Sta Z Z.heap "com/example/marcasite/marcasite/marc/Carrier" "MARCXML" "Lcom/example/marcasite/marcasite/marc/Carrier;" (.ref wb)) (SIC : Sta Z Z.heap "com/example/marcasite/marcasite/marc/Carrier" "JSON" "Lcom/example/marcasite/marcasite/marc/Carrier;" (.ref wc)) (ECwa : Exa Z Z.heap wa "com/example/marcasite/marcasite/marc/Carrier$1") (ECwb : Exa Z Z.heap wb "com/example/marcasite/marcasite/marc/Carrier$2") (ECwc : Exa Z Z.heap wc "com/example/marcasite/marcasite/marc/Carrier$3") (ZF_optionName_wa : Fld Z Z.heap wa "com/example/marcasite/marcasite/marc/Carrier" "optionName" "Ljava/lang/String;" (.ref sa)) (ZE_sa : Exa Z Z.heap sa "java/lang/String") (ZF_value_sa : Fld Z Z.heap sa "java/lang/String" "value" "[B" (.ref ta)) (ZF_coder_sa : Fld Z Z.heap sa "java/lang/String" "coder" "B" (.int (0 : Int32))) (ZK_ta : Arv Z Z.heap ta ka .byte (7 : Int32) (([(105 : Int32), (115 : Int32), (111 : Int32), (50 : Int32), (55 : Int32), (48 : Int32), (57 : Int32)] : List Int32).map Value.int) (.int 0)) (ZF_optionName_wb : Fld Z Z.heap wb "com/example/marcasite/marcasite/marc/Carrier" "optionName" "Ljava/lang/String;" (.ref sb)) (ZE_sb : Exa Z Z.heap sb "java/lang/String") (ZF_value_sb : Fld Z Z.heap sb "java/lang/String" "value" "[B" (.ref tb)) (ZF_coder_sb : Fld Z Z.heap sb "java/lang/String" "coder" "B" (.int (0 : Int32))) (ZK_tb : Arv Z Z.heap tb kb .byte (7 : Int32) (([(109 : Int32), (97 : Int32), (114 : Int32), (99 : Int32), (120 : Int32), (109 : Int32), (108 : Int32)] : List Int32).map Value.int) (.int 0)) (ZF_optionName_wc : Fld Z Z.heap wc "com/example/marcasite/marcasite/marc/Carrier" "optionName" "Ljava/lang/String;" (.ref sc)) (ZE_sc : Exa Z Z.heap sc "java/lang/String") (ZF_value_sc : Fld Z Z.heap sc "java/lang/String" "value" "[B" (.ref tc)) (ZF_coder_sc : Fld Z Z.heap sc "java/lang/String" "coder" "B" (.int (0 : Int32))) (ZK_tc : Arv Z Z.heap tc kc .byte (4 : Int32) (([(106 : Int32), (115 : Int32), (111 : Int32), (110 : Int32)] : List Int32).map Value.int) (.int 0)) (ZE_em : Exa Z Z.heap em "java/util/Optional") (ZF_value_em : Fld Z Z.heap em "java/util/Optional" "value" "Ljava/lang/Object;" .null) (SVA : Sta Z Z.heap "com/example/marcasite/marcasite/marc/Carrier" "$VALUES" "[Lcom/example/marcasite/marcasite/marc/Carrier;" (.ref va)) (AVA : Arv Z Z.heap va kv (.object "com/example/marcasite/marcasite/marc/Carrier") (3 : Int32) [.ref wa, .ref wb, .ref wc] .null) (EVA : Exa Z Z.heap va "[Lcom/example/marcasite/marcasite/marc/Carrier;") (SEM : Sta Z Z.heap "java/util/Optional" "EMPTY" "Ljava/util/Optional;" (.ref em)) (SBC : Sta Z Z.heap "java/lang/String" "COMPACT_STRINGS" "Z" (.int cs)) (hcs : ¬ (cs = (0 : Int32))) (SFO : Sta Z Z.heap "jdk/internal/util/Preconditions" "SIOOBE_FORMATTER" "Ljava/util/function/BiFunction;" fo) (hfo : fo.isRef = true) (O_ : Old Z n0 h0) (hEL : EW Z a0 own_EL) :
    MetFree l x (head1 (Jvm.Cond.code x code maxLocals ret :: ws) room_1) (fun a U => a = #[(.int p1), (.int p2), (.int p3), (.int p4), (.int p5)] ∧ Z.Warmed39 U.vm ∧ U.heap = h0 ∧ CHv Z own_EL U.vm h0 ∧ ∀ x ∈ ([] : List Addr), Safe Z own_EL U.vm h0 x) (fun _ _ _ _ _ => True) (fun _ U o U' => ∃ v L, o = .returned v ∧ Q0 Z p1 p2 p3 p4 p5 cs fo em va kv wa wb wc sa ta ka sb tb kb sc tc kc h0 n0 v U'.heap L ∧ CHr Z own_EL U.vm U.heap U'.vm U'.heap ∧ ReturnedEndW U o U' L room_1.cells room_1.slots) := by
  have W := @own_wd Z a0 hw
  refine MetFree.of_bodySF (plainFor_of_name pn_0) hisR ?_
  intro p e s m args below meth c s₁ Bd hml0 hP hK
  obtain ⟨rfl, hZ, hh, hCH, hSL⟩ := hP
  have hx := Bd.exec
  have hby := Bd.bytes
  have hlk : meth.locks = false := BodyLoose.notSynchronized Bd
  have hml : c.maxLocals = 18 := hml0
  have hown : s.vm.findClass "com/example/marcasite/marcasite/marc/CarrierNamedPinLaw" = some m.cls := findClass_of_methodNamed Bd.named
  have hnm := (name_of_methodNamed Bd.named Bd.method).1
  have X0 : Stand p l e room_1 (s.setVm s.vm) m #[(.int p1), (.int p2), (.int p3), (.int p4), (.int p5)] below meth c s₁ [] 0 0 := Stand.of_body Bd
  have hZ0 : Z.Warmed39 (s.setVm s.vm).vm := hZ
  have hown0 : (s.setVm s.vm).vm.findClass "com/example/marcasite/marcasite/marc/CarrierNamedPinLaw" = some m.cls := hown
  have hS0 : s.Since s.vm h0.size := (State.WarmedH.refl s).since _
  have hk0 : h0.size ≤ h0.size := Nat.le_refl _
  have CR0 : CHr Z own_EL s.vm h0 s.vm h0 := CHr.refl hCH
  have e0 : s₁.heap = h0 := by rw [← hh, Bd.state]; rfl
  have N0 := Fr.nil n0
  show Gl p.tables e below _ _
  refine Gl.pre (fun t k => castTop (ef_0 m p1 p2 p3 p4 p5 cs fo em va kv wa wb wc sa ta ka sb tb kb sc tc kc) k) ?_
  refine Gl.gen (fun PP hPP => ?_)
  have hwwordsLen : ∀ d ∈ StrChars.Road.wordsLen, d.before a0 Z = true := fun d hd => hw d ((by decide +kernel : ∀ d ∈ StrChars.Road.wordsLen, d ∈ tables_1) d hd)
  show Gl p.tables e below PP (s₁.setTop (mkF m 0 #[.val (.int p1), .val (.int p2), .val (.int p3), .val (.int p4), .val (.int p5), .unset, .unset, .unset, .unset, .unset, .unset, .unset, .unset, .unset, .unset, .unset, .unset, .unset] []))
  refine Y.iloadN X0 hx (hb hby at_0) rfl ?_
  refine Gl.pre (fun _ k => X0.ldcInt hx hown0 (mvT hZ0 (W 0 rfl)) (g := (mkF m 1 #[.val (.int p1), .val (.int p2), .val (.int p3), .val (.int p4), .val (.int p5), .unset, .unset, .unset, .unset, .unset, .unset, .unset, .unset, .unset, .unset, .unset, .unset, .unset] [(.int p1)])) rfl (hb hby at_1) _ k) ?_
  refine Y.iand X0 hx (hb hby at_3) rfl ?_
  refine Y.iconst X0 hx (hb hby at_4) ?_
  refine Gl.pre (fun _ k => iremM X0 hx rfl (hb hby at_5) rfl (by decide) k) ?_
  refine Y.istore X0 hx (hb hby at_6) rfl (l' := #[.val (.int p1), .val (.int p2), .val (.int p3), .val (.int p4), .val (.int p5), .val (.int ((p1 &&& (2147483647 : Int32)) % (3 : Int32))), .unset, .unset, .unset, .unset, .unset, .unset, .unset, .unset, .unset, .unset, .unset, .unset]) rfl ?_
  refine Y.iload X0 hx (hb hby at_8) rfl ?_
  by_cases hc1 : ((p1 &&& (2147483647 : Int32)) % (3 : Int32)) = (0 : Int32)
  refine Y.ifNo X0 hx (hb hby at_10) rfl ((if0 _ _).trans (teq hc1).2) ?_
  obtain ⟨la2, T2, h2, q2, lb2, kb2, X2, e2, E2, hS2, hk2, hZ2, hown2, Es2, Fc2, Fv2, Va2, -, -, CR2c, Li2, hne2, st2⟩ := ldcCH X0 hx hZ0 hown0 (W 1 rfl) (own_wS hw) e0 hS0 hk0 hEL (by simp [own_EL, consts_1]) CR0.1 (vs := [(105 : Int32), (115 : Int32), (111 : Int32), (50 : Int32), (55 : Int32), (48 : Int32), (57 : Int32)].map Value.int) (z := (7 : Int32)) ⟨by decide, by decide⟩ (by decide) (by decide) (g := (mkF m 13 #[.val (.int p1), .val (.int p2), .val (.int p3), .val (.int p4), .val (.int p5), .val (.int ((p1 &&& (2147483647 : Int32)) % (3 : Int32))), .unset, .unset, .unset, .unset, .unset, .unset, .unset, .unset, .unset, .unset, .unset, .unset] [])) rfl (hb hby at_13) (n := 28) (by decide) (by decide) (by decide) (by decide)
  refine Gl.pre (fun _ k => st2 _ k) ?_
  have O_ := O_.ext E2
  have CR2 := CR0.trans CR2c
  have Z2 : n0 ≤ h2.size := Nat.le_trans Z0 E2.1
  have V_lb2 : Bal Z h2 lb2 .byte [(105 : Int32), (115 : Int32), (111 : Int32), (50 : Int32), (55 : Int32), (48 : Int32), (57 : Int32)] := own_balOf Va2 (by decide)
  show Gl p.tables e below PP (T2.setTop (mkF m 15 #[.val (.int p1), .val (.int p2), .val (.int p3), .val (.int p4), .val (.int p5), .val (.int ((p1 &&& (2147483647 : Int32)) % (3 : Int32))), .unset, .unset, .unset, .unset, .unset, .unset, .unset, .unset, .unset, .unset, .unset, .unset] [(.ref la2)]))
  refine Y.goto X2 hx (pc0 := 15) (pc' := 31) rfl (hb hby at_15) (by decide) (by decide) ?_
  refine Y.astore X2 hx (hb hby at_31) rfl rfl (l' := #[.val (.int p1), .val (.int p2), .val (.int p3), .val (.int p4), .val (.int p5), .val (.int ((p1 &&& (2147483647 : Int32)) % (3 : Int32))), .val (.ref la2), .unset, .unset, .unset, .unset, .unset, .unset, .unset, .unset, .unset, .unset, .unset]) rfl ?_
  refine Y.iload X2 hx (hb hby at_33) rfl ?_
  refine Y.ifNo X2 hx (hb hby at_35) rfl ((if0 _ _).trans (teq (show ((p1 &&& (2147483647 : Int32)) % (3 : Int32)) = (0 : Int32) from hc1)).2) ?_
  obtain ⟨T3, X3, e3, st3⟩ := getS2 X2 hx hZ2 hown2 (host := "") (Or.inl (W 9 rfl)) Via.refl e2 (SIA.ext O_.2) (g := (mkF m 38 #[.val (.int p1), .val (.int p2), .val (.int p3), .val (.int p4), .val (.int p5), .val (.int ((p1 &&& (2147483647 : Int32)) % (3 : Int32))), .val (.ref la2), .unset, .unset, .unset, .unset, .unset, .unset, .unset, .unset, .unset, .unset, .unset] [])) rfl (hb hby at_38)
  refine Gl.pre (fun _ k => st3 _ k) ?_
  refine Y.goto X3 hx (pc0 := 41) (pc' := 59) rfl (hb hby at_41) (by decide) (by decide) ?_
  refine Y.astore X3 hx (hb hby at_59) rfl rfl (l' := #[.val (.int p1), .val (.int p2), .val (.int p3), .val (.int p4), .val (.int p5), .val (.int ((p1 &&& (2147483647 : Int32)) % (3 : Int32))), .val (.ref la2), .val (.ref wa), .unset, .unset, .unset, .unset, .unset, .unset, .unset, .unset, .unset, .unset]) rfl ?_
  refine Y.aload X3 hx (hb hby at_61) rfl rfl ?_
  obtain ⟨cq4, kq4, qa4, qb4, qc4⟩ := isOf hZ2 e3 Es2
  obtain ⟨_, _, ⟨T4, L4, k4, n4⟩, -, X4, ⟨Lc4, hQ4, l4, y4, z4⟩, st4⟩ := X3.virtualBack hx (y := (⟨"java/lang/String", "length", "()I"⟩ : MethodName)) (z := (⟨"java/lang/String", "length", "()I"⟩ : MethodName)) hown2 (mvT hZ2 (W 12 rfl)) (mvT hZ2 (W 13 rfl)) (notFace_of_selects (args := #[]) (mvT hZ2 (W 15 rfl))) (mvT hZ2 (W 15 rfl)) (mvT hZ2 (W 14 rfl)) (by decide) (StrChars.Road.lenW (W := 0) hZ2 hwwordsLen (kI := 4) (W 3 rfl) Es2 Fv2 Fc2 Va2 own_Tc0 own_Tb0 (SBC.ext O_.2) hcs (by decide) (by decide) (by decide)) qa4 qc4 (g := (mkF m 63 #[.val (.int p1), .val (.int p2), .val (.int p3), .val (.int p4), .val (.int p5), .val (.int ((p1 &&& (2147483647 : Int32)) % (3 : Int32))), .val (.ref la2), .val (.ref wa), .unset, .unset, .unset, .unset, .unset, .unset, .unset, .unset, .unset, .unset] [(.ref la2)])) rfl (by rw [hml]; rfl) (Steps.refl _) (argsL := []) (rest := []) (lenOf pd_0 rfl) rfl (by show 2 * 0 + _ ≤ _; exact Nat.le_of_eq rfl) (hb hby at_63) (fun _ _ => ⟨rfl, e3, (by decide : 2 + 0 ≤ _), (by decide : 32 + 0 ≤ _)⟩)
  dsimp only [Pt.U, Pt.locs, Pt.cells, Pt.slots] at X4 l4 y4 z4 st4 hQ4
  subst l4 y4 z4
  obtain ⟨rfl, rfl, e4⟩ := hQ4
  have N4 := Fr.app N0 (Fr.nil n0)
  refine Gl.pre (fun _ k => st4.trans k) ?_
  show Gl p.tables e below PP (T4.setTop (mkF m 66 #[.val (.int p1), .val (.int p2), .val (.int p3), .val (.int p4), .val (.int p5), .val (.int ((p1 &&& (2147483647 : Int32)) % (3 : Int32))), .val (.ref la2), .val (.ref wa), .unset, .unset, .unset, .unset, .unset, .unset, .unset, .unset, .unset, .unset] [(.int (Int32.ofNat own_T0.length))]))
  rw [show (Int32.ofNat own_T0.length) = (7 : Int32) by decide]
  show Gl p.tables e below PP (T4.setTop (mkF m 66 #[.val (.int p1), .val (.int p2), .val (.int p3), .val (.int p4), .val (.int p5), .val (.int ((p1 &&& (2147483647 : Int32)) % (3 : Int32))), .val (.ref la2), .val (.ref wa), .unset, .unset, .unset, .unset, .unset, .unset, .unset, .unset, .unset, .unset] [(.int (7 : Int32))]))
  refine Y.istore X4 hx (hb hby at_66) rfl (l' := #[.val (.int p1), .val (.int p2), .val (.int p3), .val (.int p4), .val (.int p5), .val (.int ((p1 &&& (2147483647 : Int32)) % (3 : Int32))), .val (.ref la2), .val (.ref wa), .val (.int (7 : Int32)), .unset, .unset, .unset, .unset, .unset, .unset, .unset, .unset, .unset]) rfl ?_
  suffices J5 : ∀ nnl : Int32, nnl = (0 : Int32) ∨ nnl = (1 : Int32) ∨ nnl = (2 : Int32) ∨ nnl = (3 : Int32) ∨ nnl = (4 : Int32) ∨ nnl = (5 : Int32) ∨ nnl = (6 : Int32) ∨ nnl = (7 : Int32) ∨ nnl = (8 : Int32) → Gl p.tables e below PP (T4.setTop (mkF m 89 #[.val (.int p1), .val (.int p2), .val (.int p3), .val (.int p4), .val (.int p5), .val (.int ((p1 &&& (2147483647 : Int32)) % (3 : Int32))), .val (.ref la2), .val (.ref wa), .val (.int (7 : Int32)), .val (.int nnl), .unset, .unset, .unset, .unset, .unset, .unset, .unset, .unset] [])) by
   refine Y.iloadN X4 hx (hb hby at_68) rfl ?_
   refine Y.bipush X4 hx (hb hby at_69) ?_
   refine Y.iand X4 hx (hb hby at_71) rfl ?_
   by_cases hc6 : (p2 &&& (16 : Int32)) = (0 : Int32)
   refine Y.ifYes X4 hx (pc0 := 72) (pc' := 80) rfl (hb hby at_72) rfl ((if0 _ _).trans (teq hc6).1) (by decide) (by decide) ?_
   refine Y.iloadN X4 hx (hb hby at_80) rfl ?_
   refine Y.bipush X4 hx (hb hby at_81) ?_
   refine Y.iand X4 hx (hb hby at_83) rfl ?_
   refine Y.bipush X4 hx (hb hby at_84) ?_
   refine Gl.pre (fun _ k => iremM X4 hx rfl (hb hby at_86) rfl (by decide) k) ?_
   refine Y.istore X4 hx (hb hby at_87) rfl (l' := #[.val (.int p1), .val (.int p2), .val (.int p3), .val (.int p4), .val (.int p5), .val (.int ((p1 &&& (2147483647 : Int32)) % (3 : Int32))), .val (.ref la2), .val (.ref wa), .val (.int (7 : Int32)), .val (.int ((p2 &&& (15 : Int32)) % (9 : Int32))), .unset, .unset, .unset, .unset, .unset, .unset, .unset, .unset]) rfl ?_
   exact J5 _ (own_n9 p2)
   refine Y.ifNo X4 hx (hb hby at_72) rfl ((if0 _ _).trans (feq hc6).1) ?_
   refine Y.iload X4 hx (hb hby at_75) rfl ?_
   refine Y.goto X4 hx (pc0 := 77) (pc' := 87) rfl (hb hby at_77) (by decide) (by decide) ?_
   refine Y.istore X4 hx (hb hby at_87) rfl (l' := #[.val (.int p1), .val (.int p2), .val (.int p3), .val (.int p4), .val (.int p5), .val (.int ((p1 &&& (2147483647 : Int32)) % (3 : Int32))), .val (.ref la2), .val (.ref wa), .val (.int (7 : Int32)), .val (.int (7 : Int32)), .unset, .unset, .unset, .unset, .unset, .unset, .unset, .unset]) rfl ?_
   exact J5 _ (by decide)
  intro nnl hnnl
  show Gl p.tables e below PP (T4.setTop (mkF m 89 #[.val (.int p1), .val (.int p2), .val (.int p3), .val (.int p4), .val (.int p5), .val (.int ((p1 &&& (2147483647 : Int32)) % (3 : Int32))), .val (.ref la2), .val (.ref wa), .val (.int (7 : Int32)), .val (.int nnl), .unset, .unset, .unset, .unset, .unset, .unset, .unset, .unset] []))
  refine Y.iloadN X4 hx (hb hby at_89) rfl ?_
  refine Y.bipush X4 hx (hb hby at_90) ?_
  refine Y.iand X4 hx (hb hby at_92) rfl ?_
  refine Y.istore X4 hx (hb hby at_93) rfl (l' := #[.val (.int p1), .val (.int p2), .val (.int p3), .val (.int p4), .val (.int p5), .val (.int ((p1 &&& (2147483647 : Int32)) % (3 : Int32))), .val (.ref la2), .val (.ref wa), .val (.int (7 : Int32)), .val (.int nnl), .val (.int (p3 &&& (7 : Int32))), .unset, .unset, .unset, .unset, .unset, .unset, .unset]) rfl ?_
  refine Y.iload X4 hx (hb hby at_95) rfl ?_
  refine Y.sipush X4 hx (hb hby at_97) ?_
  refine Y.iand X4 hx (hb hby at_100) rfl ?_
  refine Y.i2c X4 hx (hb hby at_101) rfl ?_
  show Gl p.tables e below PP (T4.setTop (mkF m 102 #[.val (.int p1), .val (.int p2), .val (.int p3), .val (.int p4), .val (.int p5), .val (.int ((p1 &&& (2147483647 : Int32)) % (3 : Int32))), .val (.ref la2), .val (.ref wa), .val (.int (7 : Int32)), .val (.int nnl), .val (.int (p3 &&& (7 : Int32))), .unset, .unset, .unset, .unset, .unset, .unset, .unset] [(.int (own_ch p5))]))
  refine Y.istore X4 hx (hb hby at_102) rfl (l' := #[.val (.int p1), .val (.int p2), .val (.int p3), .val (.int p4), .val (.int p5), .val (.int ((p1 &&& (2147483647 : Int32)) % (3 : Int32))), .val (.ref la2), .val (.ref wa), .val (.int (7 : Int32)), .val (.int nnl), .val (.int (p3 &&& (7 : Int32))), .val (.int (own_ch p5)), .unset, .unset, .unset, .unset, .unset, .unset]) rfl ?_
  refine Y.bipush X4 hx (hb hby at_104) ?_
  obtain ⟨T7, h7, k7, X7, e7, E7, A7, st7⟩ := newP X4 hx hZ2 (W 25 rfl) e4 (g := (mkF m 106 #[.val (.int p1), .val (.int p2), .val (.int p3), .val (.int p4), .val (.int p5), .val (.int ((p1 &&& (2147483647 : Int32)) % (3 : Int32))), .val (.ref la2), .val (.ref wa), .val (.int (7 : Int32)), .val (.int nnl), .val (.int (p3 &&& (7 : Int32))), .val (.int (own_ch p5)), .unset, .unset, .unset, .unset, .unset, .unset] [(.int (8 : Int32))])) rfl (hb hby at_106) rfl (by decide) (cap := 8) (by decide) (by decide) (by decide) (by decide)
  obtain ⟨b7, g7⟩ : ∃ z, z = h2.size := ⟨_, rfl⟩
  rw [← g7] at A7 st7
  refine Gl.pre (fun _ k => st7 _ k) ?_
  have own_ne_lb2_b7 : lb2 ≠ b7 := by have q := Va2.lt; rw [g7]; exact Nat.ne_of_lt q
  have own_ne_b7_lb2 : b7 ≠ lb2 := own_ne_lb2_b7.symm
  have own_ne_la2_b7 : la2 ≠ b7 := by have q := Es2.lt; rw [g7]; exact Nat.ne_of_lt q
  have own_ne_b7_la2 : b7 ≠ la2 := own_ne_la2_b7.symm
  have g_b7 : n0 ≤ b7 := Nat.le_trans Z2 (Nat.le_of_eq g7.symm)
  have Sf_b7 := Safe.ext E7 CR2.1 (Safe.new (Z := Z) (EL := own_EL) (vm := T2.vm) (Nat.le_of_eq g7.symm))
  have CR7 := CR2.trans (CHr.ext E7 CR2.1)
  have O_ := O_.ext E7
  have Va2 := Va2.ext E7
  have Es2 := Es2.ext E7
  have Fc2 := Fc2.ext E7
  have Fv2 := Fv2.ext E7
  have V_lb2 := V_lb2.ext E7
  have Z7 : n0 ≤ h7.size := Nat.le_trans Z2 E7.1
  have hk7 := Nat.le_trans hk2 E7.1
  have V_b7 : Bal Z h7 b7 .char [(0 : Int32), (0 : Int32), (0 : Int32), (0 : Int32), (0 : Int32), (0 : Int32), (0 : Int32), (0 : Int32)] := Bal.new (ty := .char) A7 (n := 8) (by decide) rfl
  refine Y.astore X7 hx (hb hby at_108) rfl rfl (l' := #[.val (.int p1), .val (.int p2), .val (.int p3), .val (.int p4), .val (.int p5), .val (.int ((p1 &&& (2147483647 : Int32)) % (3 : Int32))), .val (.ref la2), .val (.ref wa), .val (.int (7 : Int32)), .val (.int nnl), .val (.int (p3 &&& (7 : Int32))), .val (.int (own_ch p5)), .val (.ref b7), .unset, .unset, .unset, .unset, .unset]) rfl ?_
  refine Y.aload X7 hx (hb hby at_110) rfl rfl ?_
  refine Y.iconst X7 hx (hb hby at_112) ?_
  refine Y.aload X7 hx (hb hby at_113) rfl rfl ?_
  refine Y.iconst X7 hx (hb hby at_115) ?_
  refine Y.iload X7 hx (hb hby at_116) rfl ?_
  obtain ⟨_, _, ⟨T8, L8, k8, n8⟩, -, X8, ⟨Lc8, hQ8, l8, y8, z8⟩, st8⟩ := Jvm.LawKit.callS X7 hx (y := (⟨"com/example/marcasite/marcasite/marc/CarrierNamedPinLaw", "at", "(Ljava/lang/String;IC)C"⟩ : MethodName)) hown2 (mvT hZ2 (W 26 rfl)) (mvT hZ2 (W 27 rfl)) (mvT hZ2 (W 28 rfl)) (mvT hZ2 (W 29 rfl)) (by decide) (backOf (W := 2) (rm3 l Z a0 hw [] la2 (0 : Int32) (own_ch p5) cs fo lb2 kb2 own_T0 _ _ h7 n0 Z7 Es2 Fv2 Fc2 Va2 own_Tc0 own_Tb0 own_Tr0 (by decide) (by decide) (own_chr p5) SBC hcs SFO hfo O_) hZ2 (W 29 rfl) (W 28 rfl) (by decide) (by decide)) (g := (mkF m 118 #[.val (.int p1), .val (.int p2), .val (.int p3), .val (.int p4), .val (.int p5), .val (.int ((p1 &&& (2147483647 : Int32)) % (3 : Int32))), .val (.ref la2), .val (.ref wa), .val (.int (7 : Int32)), .val (.int nnl), .val (.int (p3 &&& (7 : Int32))), .val (.int (own_ch p5)), .val (.ref b7), .unset, .unset, .unset, .unset, .unset] [(.int (own_ch p5)), (.int (0 : Int32)), (.ref la2), (.int (0 : Int32)), (.ref b7)])) rfl (by rw [hml]; rfl) (argsL := [(.ref la2), (.int (0 : Int32)), (.int (own_ch p5))]) (rest := [(.int (0 : Int32)), (.ref b7)]) (lenOf pd_10 rfl) rfl (by show 2 * 0 + _ ≤ _; exact Nat.le_of_eq rfl) (hb hby at_118) (fun _ _ => ⟨rfl, e7, (by decide : 3 + 0 ≤ _), (by decide : 40 + 0 ≤ _)⟩)
  dsimp only [Pt.U, Pt.locs, Pt.cells, Pt.slots] at X8 l8 y8 z8 st8 hQ8
  subst l8 y8 z8
  obtain ⟨rfl, N8q, e8⟩ := hQ8
  have N8 := Fr.app N4 N8q
  refine Gl.pre (fun _ k => st8 _ k) ?_
  obtain ⟨T9, h9, X9, e9, W9, V9, st9⟩ := own_stC X8 hx hZ2 e8 V_b7 (j := (0 : Int32)) (i := 0) (by decide) (by decide) (Nat.lt_of_lt_of_eq (by decide : 0 < 8) rfl) (g := (mkF m 121 #[.val (.int p1), .val (.int p2), .val (.int p3), .val (.int p4), .val (.int p5), .val (.int ((p1 &&& (2147483647 : Int32)) % (3 : Int32))), .val (.ref la2), .val (.ref wa), .val (.int (7 : Int32)), .val (.int nnl), .val (.int (p3 &&& (7 : Int32))), .val (.int (own_ch p5)), .val (.ref b7), .unset, .unset, .unset, .unset, .unset] [(.int (own_at own_T0 (0 : Int32) (own_ch p5))), (.int (0 : Int32)), (.ref b7)])) rfl rfl (hb hby at_121)
  refine Gl.pre (fun _ k => st9 _ k) ?_
  have CR9 := CR7.trans (CHr.wr W9 Sf_b7 CR7.1)
  have Sf_b7 := Safe.wr W9 Sf_b7 CR7.1 Sf_b7
  have O_ := O_.wr W9 g_b7
  have Va2 := Va2.other W9 (own_ne_lb2_b7)
  have Es2 := Es2.wr W9
  have Fc2 := Fc2.other W9 (Or.inl (own_ne_la2_b7))
  have Fv2 := Fv2.other W9 (Or.inl (own_ne_la2_b7))
  have V_lb2 := V_lb2.other W9 (own_ne_lb2_b7)
  have Z9 : n0 ≤ h9.size := by rw [W9.size]; exact Z7
  have hk9 := Nat.le_trans hk7 (Nat.le_of_eq W9.size.symm)
  have N9 := Fr.snoc X9 N8 g_b7
  have V_b7 : Bal Z h9 b7 .char [(nar .char (own_at own_T0 (0 : Int32) (own_ch p5))), (0 : Int32), (0 : Int32), (0 : Int32), (0 : Int32), (0 : Int32), (0 : Int32), (0 : Int32)] := V9
  refine Y.aload X9 hx (hb hby at_122) rfl rfl ?_
  refine Y.iconst X9 hx (hb hby at_124) ?_
  refine Y.aload X9 hx (hb hby at_125) rfl rfl ?_
  refine Y.iconst X9 hx (hb hby at_127) ?_
  refine Y.iload X9 hx (hb hby at_128) rfl ?_
  obtain ⟨_, _, ⟨T10, L10, k10, n10⟩, -, X10, ⟨Lc10, hQ10, l10, y10, z10⟩, st10⟩ := Jvm.LawKit.callS X9 hx (y := (⟨"com/example/marcasite/marcasite/marc/CarrierNamedPinLaw", "at", "(Ljava/lang/String;IC)C"⟩ : MethodName)) hown2 (mvT hZ2 (W 26 rfl)) (mvT hZ2 (W 27 rfl)) (mvT hZ2 (W 28 rfl)) (mvT hZ2 (W 29 rfl)) (by decide) (backOf (W := 2) (rm3 l Z a0 hw [] la2 (1 : Int32) (own_ch p5) cs fo lb2 kb2 own_T0 _ _ h9 n0 Z9 Es2 Fv2 Fc2 Va2 own_Tc0 own_Tb0 own_Tr0 (by decide) (by decide) (own_chr p5) SBC hcs SFO hfo O_) hZ2 (W 29 rfl) (W 28 rfl) (by decide) (by decide)) (g := (mkF m 130 #[.val (.int p1), .val (.int p2), .val (.int p3), .val (.int p4), .val (.int p5), .val (.int ((p1 &&& (2147483647 : Int32)) % (3 : Int32))), .val (.ref la2), .val (.ref wa), .val (.int (7 : Int32)), .val (.int nnl), .val (.int (p3 &&& (7 : Int32))), .val (.int (own_ch p5)), .val (.ref b7), .unset, .unset, .unset, .unset, .unset] [(.int (own_ch p5)), (.int (1 : Int32)), (.ref la2), (.int (1 : Int32)), (.ref b7)])) rfl (by rw [hml]; rfl) (argsL := [(.ref la2), (.int (1 : Int32)), (.int (own_ch p5))]) (rest := [(.int (1 : Int32)), (.ref b7)]) (lenOf pd_10 rfl) rfl (by show 2 * 0 + _ ≤ _; exact Nat.le_of_eq rfl) (hb hby at_130) (fun _ _ => ⟨rfl, e9, (by decide : 3 + 0 ≤ _), (by decide : 40 + 0 ≤ _)⟩)
  dsimp only [Pt.U, Pt.locs, Pt.cells, Pt.slots] at X10 l10 y10 z10 st10 hQ10
  subst l10 y10 z10
  obtain ⟨rfl, N10q, e10⟩ := hQ10
  have N10 := Fr.app N9 N10q
  refine Gl.pre (fun _ k => st10 _ k) ?_
  obtain ⟨T11, h11, X11, e11, W11, V11, st11⟩ := own_stC X10 hx hZ2 e10 V_b7 (j := (1 : Int32)) (i := 1) (by decide) (by decide) (Nat.lt_of_lt_of_eq (by decide : 1 < 8) rfl) (g := (mkF m 133 #[.val (.int p1), .val (.int p2), .val (.int p3), .val (.int p4), .val (.int p5), .val (.int ((p1 &&& (2147483647 : Int32)) % (3 : Int32))), .val (.ref la2), .val (.ref wa), .val (.int (7 : Int32)), .val (.int nnl), .val (.int (p3 &&& (7 : Int32))), .val (.int (own_ch p5)), .val (.ref b7), .unset, .unset, .unset, .unset, .unset] [(.int (own_at own_T0 (1 : Int32) (own_ch p5))), (.int (1 : Int32)), (.ref b7)])) rfl rfl (hb hby at_133)
  refine Gl.pre (fun _ k => st11 _ k) ?_
  have CR11 := CR9.trans (CHr.wr W11 Sf_b7 CR9.1)
  have Sf_b7 := Safe.wr W11 Sf_b7 CR9.1 Sf_b7
  have O_ := O_.wr W11 g_b7
  have Va2 := Va2.other W11 (own_ne_lb2_b7)
  have Es2 := Es2.wr W11
  have Fc2 := Fc2.other W11 (Or.inl (own_ne_la2_b7))
  have Fv2 := Fv2.other W11 (Or.inl (own_ne_la2_b7))
  have V_lb2 := V_lb2.other W11 (own_ne_lb2_b7)
  have Z11 : n0 ≤ h11.size := by rw [W11.size]; exact Z9
  have hk11 := Nat.le_trans hk9 (Nat.le_of_eq W11.size.symm)
  have N11 := Fr.snoc X11 N10 g_b7
  have V_b7 : Bal Z h11 b7 .char [(nar .char (own_at own_T0 (0 : Int32) (own_ch p5))), (nar .char (own_at own_T0 (1 : Int32) (own_ch p5))), (0 : Int32), (0 : Int32), (0 : Int32), (0 : Int32), (0 : Int32), (0 : Int32)] := V11
  refine Y.aload X11 hx (hb hby at_134) rfl rfl ?_
  refine Y.iconst X11 hx (hb hby at_136) ?_
  refine Y.aload X11 hx (hb hby at_137) rfl rfl ?_
  refine Y.iconst X11 hx (hb hby at_139) ?_
  refine Y.iload X11 hx (hb hby at_140) rfl ?_
  obtain ⟨_, _, ⟨T12, L12, k12, n12⟩, -, X12, ⟨Lc12, hQ12, l12, y12, z12⟩, st12⟩ := Jvm.LawKit.callS X11 hx (y := (⟨"com/example/marcasite/marcasite/marc/CarrierNamedPinLaw", "at", "(Ljava/lang/String;IC)C"⟩ : MethodName)) hown2 (mvT hZ2 (W 26 rfl)) (mvT hZ2 (W 27 rfl)) (mvT hZ2 (W 28 rfl)) (mvT hZ2 (W 29 rfl)) (by decide) (backOf (W := 2) (rm3 l Z a0 hw [] la2 (2 : Int32) (own_ch p5) cs fo lb2 kb2 own_T0 _ _ h11 n0 Z11 Es2 Fv2 Fc2 Va2 own_Tc0 own_Tb0 own_Tr0 (by decide) (by decide) (own_chr p5) SBC hcs SFO hfo O_) hZ2 (W 29 rfl) (W 28 rfl) (by decide) (by decide)) (g := (mkF m 142 #[.val (.int p1), .val (.int p2), .val (.int p3), .val (.int p4), .val (.int p5), .val (.int ((p1 &&& (2147483647 : Int32)) % (3 : Int32))), .val (.ref la2), .val (.ref wa), .val (.int (7 : Int32)), .val (.int nnl), .val (.int (p3 &&& (7 : Int32))), .val (.int (own_ch p5)), .val (.ref b7), .unset, .unset, .unset, .unset, .unset] [(.int (own_ch p5)), (.int (2 : Int32)), (.ref la2), (.int (2 : Int32)), (.ref b7)])) rfl (by rw [hml]; rfl) (argsL := [(.ref la2), (.int (2 : Int32)), (.int (own_ch p5))]) (rest := [(.int (2 : Int32)), (.ref b7)]) (lenOf pd_10 rfl) rfl (by show 2 * 0 + _ ≤ _; exact Nat.le_of_eq rfl) (hb hby at_142) (fun _ _ => ⟨rfl, e11, (by decide : 3 + 0 ≤ _), (by decide : 40 + 0 ≤ _)⟩)
  dsimp only [Pt.U, Pt.locs, Pt.cells, Pt.slots] at X12 l12 y12 z12 st12 hQ12
  subst l12 y12 z12
  obtain ⟨rfl, N12q, e12⟩ := hQ12
  have N12 := Fr.app N11 N12q
  refine Gl.pre (fun _ k => st12 _ k) ?_
  obtain ⟨T13, h13, X13, e13, W13, V13, st13⟩ := own_stC X12 hx hZ2 e12 V_b7 (j := (2 : Int32)) (i := 2) (by decide) (by decide) (Nat.lt_of_lt_of_eq (by decide : 2 < 8) rfl) (g := (mkF m 145 #[.val (.int p1), .val (.int p2), .val (.int p3), .val (.int p4), .val (.int p5), .val (.int ((p1 &&& (2147483647 : Int32)) % (3 : Int32))), .val (.ref la2), .val (.ref wa), .val (.int (7 : Int32)), .val (.int nnl), .val (.int (p3 &&& (7 : Int32))), .val (.int (own_ch p5)), .val (.ref b7), .unset, .unset, .unset, .unset, .unset] [(.int (own_at own_T0 (2 : Int32) (own_ch p5))), (.int (2 : Int32)), (.ref b7)])) rfl rfl (hb hby at_145)
  refine Gl.pre (fun _ k => st13 _ k) ?_
  have CR13 := CR11.trans (CHr.wr W13 Sf_b7 CR11.1)
  have Sf_b7 := Safe.wr W13 Sf_b7 CR11.1 Sf_b7
  have O_ := O_.wr W13 g_b7
  have Va2 := Va2.other W13 (own_ne_lb2_b7)
  have Es2 := Es2.wr W13
  have Fc2 := Fc2.other W13 (Or.inl (own_ne_la2_b7))
  have Fv2 := Fv2.other W13 (Or.inl (own_ne_la2_b7))
  have V_lb2 := V_lb2.other W13 (own_ne_lb2_b7)
  have Z13 : n0 ≤ h13.size := by rw [W13.size]; exact Z11
  have hk13 := Nat.le_trans hk11 (Nat.le_of_eq W13.size.symm)
  have N13 := Fr.snoc X13 N12 g_b7
  have V_b7 : Bal Z h13 b7 .char [(nar .char (own_at own_T0 (0 : Int32) (own_ch p5))), (nar .char (own_at own_T0 (1 : Int32) (own_ch p5))), (nar .char (own_at own_T0 (2 : Int32) (own_ch p5))), (0 : Int32), (0 : Int32), (0 : Int32), (0 : Int32), (0 : Int32)] := V13
  refine Y.aload X13 hx (hb hby at_146) rfl rfl ?_
  refine Y.iconst X13 hx (hb hby at_148) ?_
  refine Y.aload X13 hx (hb hby at_149) rfl rfl ?_
  refine Y.iconst X13 hx (hb hby at_151) ?_
  refine Y.iload X13 hx (hb hby at_152) rfl ?_
  obtain ⟨_, _, ⟨T14, L14, k14, n14⟩, -, X14, ⟨Lc14, hQ14, l14, y14, z14⟩, st14⟩ := Jvm.LawKit.callS X13 hx (y := (⟨"com/example/marcasite/marcasite/marc/CarrierNamedPinLaw", "at", "(Ljava/lang/String;IC)C"⟩ : MethodName)) hown2 (mvT hZ2 (W 26 rfl)) (mvT hZ2 (W 27 rfl)) (mvT hZ2 (W 28 rfl)) (mvT hZ2 (W 29 rfl)) (by decide) (backOf (W := 2) (rm3 l Z a0 hw [] la2 (3 : Int32) (own_ch p5) cs fo lb2 kb2 own_T0 _ _ h13 n0 Z13 Es2 Fv2 Fc2 Va2 own_Tc0 own_Tb0 own_Tr0 (by decide) (by decide) (own_chr p5) SBC hcs SFO hfo O_) hZ2 (W 29 rfl) (W 28 rfl) (by decide) (by decide)) (g := (mkF m 154 #[.val (.int p1), .val (.int p2), .val (.int p3), .val (.int p4), .val (.int p5), .val (.int ((p1 &&& (2147483647 : Int32)) % (3 : Int32))), .val (.ref la2), .val (.ref wa), .val (.int (7 : Int32)), .val (.int nnl), .val (.int (p3 &&& (7 : Int32))), .val (.int (own_ch p5)), .val (.ref b7), .unset, .unset, .unset, .unset, .unset] [(.int (own_ch p5)), (.int (3 : Int32)), (.ref la2), (.int (3 : Int32)), (.ref b7)])) rfl (by rw [hml]; rfl) (argsL := [(.ref la2), (.int (3 : Int32)), (.int (own_ch p5))]) (rest := [(.int (3 : Int32)), (.ref b7)]) (lenOf pd_10 rfl) rfl (by show 2 * 0 + _ ≤ _; exact Nat.le_of_eq rfl) (hb hby at_154) (fun _ _ => ⟨rfl, e13, (by decide : 3 + 0 ≤ _), (by decide : 40 + 0 ≤ _)⟩)
  dsimp only [Pt.U, Pt.locs, Pt.cells, Pt.slots] at X14 l14 y14 z14 st14 hQ14
  subst l14 y14 z14
  obtain ⟨rfl, N14q, e14⟩ := hQ14
  have N14 := Fr.app N13 N14q
  refine Gl.pre (fun _ k => st14 _ k) ?_
  obtain ⟨T15, h15, X15, e15, W15, V15, st15⟩ := own_stC X14 hx hZ2 e14 V_b7 (j := (3 : Int32)) (i := 3) (by decide) (by decide) (Nat.lt_of_lt_of_eq (by decide : 3 < 8) rfl) (g := (mkF m 157 #[.val (.int p1), .val (.int p2), .val (.int p3), .val (.int p4), .val (.int p5), .val (.int ((p1 &&& (2147483647 : Int32)) % (3 : Int32))), .val (.ref la2), .val (.ref wa), .val (.int (7 : Int32)), .val (.int nnl), .val (.int (p3 &&& (7 : Int32))), .val (.int (own_ch p5)), .val (.ref b7), .unset, .unset, .unset, .unset, .unset] [(.int (own_at own_T0 (3 : Int32) (own_ch p5))), (.int (3 : Int32)), (.ref b7)])) rfl rfl (hb hby at_157)
  refine Gl.pre (fun _ k => st15 _ k) ?_
  have CR15 := CR13.trans (CHr.wr W15 Sf_b7 CR13.1)
  have Sf_b7 := Safe.wr W15 Sf_b7 CR13.1 Sf_b7
  have O_ := O_.wr W15 g_b7
  have Va2 := Va2.other W15 (own_ne_lb2_b7)
  have Es2 := Es2.wr W15
  have Fc2 := Fc2.other W15 (Or.inl (own_ne_la2_b7))
  have Fv2 := Fv2.other W15 (Or.inl (own_ne_la2_b7))
  have V_lb2 := V_lb2.other W15 (own_ne_lb2_b7)
  have Z15 : n0 ≤ h15.size := by rw [W15.size]; exact Z13
  have hk15 := Nat.le_trans hk13 (Nat.le_of_eq W15.size.symm)
  have N15 := Fr.snoc X15 N14 g_b7
  have V_b7 : Bal Z h15 b7 .char [(nar .char (own_at own_T0 (0 : Int32) (own_ch p5))), (nar .char (own_at own_T0 (1 : Int32) (own_ch p5))), (nar .char (own_at own_T0 (2 : Int32) (own_ch p5))), (nar .char (own_at own_T0 (3 : Int32) (own_ch p5))), (0 : Int32), (0 : Int32), (0 : Int32), (0 : Int32)] := V15
  refine Y.aload X15 hx (hb hby at_158) rfl rfl ?_
  refine Y.iconst X15 hx (hb hby at_160) ?_
  refine Y.aload X15 hx (hb hby at_161) rfl rfl ?_
  refine Y.iconst X15 hx (hb hby at_163) ?_
  refine Y.iload X15 hx (hb hby at_164) rfl ?_
  obtain ⟨_, _, ⟨T16, L16, k16, n16⟩, -, X16, ⟨Lc16, hQ16, l16, y16, z16⟩, st16⟩ := Jvm.LawKit.callS X15 hx (y := (⟨"com/example/marcasite/marcasite/marc/CarrierNamedPinLaw", "at", "(Ljava/lang/String;IC)C"⟩ : MethodName)) hown2 (mvT hZ2 (W 26 rfl)) (mvT hZ2 (W 27 rfl)) (mvT hZ2 (W 28 rfl)) (mvT hZ2 (W 29 rfl)) (by decide) (backOf (W := 2) (rm3 l Z a0 hw [] la2 (4 : Int32) (own_ch p5) cs fo lb2 kb2 own_T0 _ _ h15 n0 Z15 Es2 Fv2 Fc2 Va2 own_Tc0 own_Tb0 own_Tr0 (by decide) (by decide) (own_chr p5) SBC hcs SFO hfo O_) hZ2 (W 29 rfl) (W 28 rfl) (by decide) (by decide)) (g := (mkF m 166 #[.val (.int p1), .val (.int p2), .val (.int p3), .val (.int p4), .val (.int p5), .val (.int ((p1 &&& (2147483647 : Int32)) % (3 : Int32))), .val (.ref la2), .val (.ref wa), .val (.int (7 : Int32)), .val (.int nnl), .val (.int (p3 &&& (7 : Int32))), .val (.int (own_ch p5)), .val (.ref b7), .unset, .unset, .unset, .unset, .unset] [(.int (own_ch p5)), (.int (4 : Int32)), (.ref la2), (.int (4 : Int32)), (.ref b7)])) rfl (by rw [hml]; rfl) (argsL := [(.ref la2), (.int (4 : Int32)), (.int (own_ch p5))]) (rest := [(.int (4 : Int32)), (.ref b7)]) (lenOf pd_10 rfl) rfl (by show 2 * 0 + _ ≤ _; exact Nat.le_of_eq rfl) (hb hby at_166) (fun _ _ => ⟨rfl, e15, (by decide : 3 + 0 ≤ _), (by decide : 40 + 0 ≤ _)⟩)
  dsimp only [Pt.U, Pt.locs, Pt.cells, Pt.slots] at X16 l16 y16 z16 st16 hQ16
  subst l16 y16 z16
  obtain ⟨rfl, N16q, e16⟩ := hQ16
  have N16 := Fr.app N15 N16q
  refine Gl.pre (fun _ k => st16 _ k) ?_
  obtain ⟨T17, h17, X17, e17, W17, V17, st17⟩ := own_stC X16 hx hZ2 e16 V_b7 (j := (4 : Int32)) (i := 4) (by decide) (by decide) (Nat.lt_of_lt_of_eq (by decide : 4 < 8) rfl) (g := (mkF m 169 #[.val (.int p1), .val (.int p2), .val (.int p3), .val (.int p4), .val (.int p5), .val (.int ((p1 &&& (2147483647 : Int32)) % (3 : Int32))), .val (.ref la2), .val (.ref wa), .val (.int (7 : Int32)), .val (.int nnl), .val (.int (p3 &&& (7 : Int32))), .val (.int (own_ch p5)), .val (.ref b7), .unset, .unset, .unset, .unset, .unset] [(.int (own_at own_T0 (4 : Int32) (own_ch p5))), (.int (4 : Int32)), (.ref b7)])) rfl rfl (hb hby at_169)
  refine Gl.pre (fun _ k => st17 _ k) ?_
  have CR17 := CR15.trans (CHr.wr W17 Sf_b7 CR15.1)
  have Sf_b7 := Safe.wr W17 Sf_b7 CR15.1 Sf_b7
  have O_ := O_.wr W17 g_b7
  have Va2 := Va2.other W17 (own_ne_lb2_b7)
  have Es2 := Es2.wr W17
  have Fc2 := Fc2.other W17 (Or.inl (own_ne_la2_b7))
  have Fv2 := Fv2.other W17 (Or.inl (own_ne_la2_b7))
  have V_lb2 := V_lb2.other W17 (own_ne_lb2_b7)
  have Z17 : n0 ≤ h17.size := by rw [W17.size]; exact Z15
  have hk17 := Nat.le_trans hk15 (Nat.le_of_eq W17.size.symm)
  have N17 := Fr.snoc X17 N16 g_b7
  have V_b7 : Bal Z h17 b7 .char [(nar .char (own_at own_T0 (0 : Int32) (own_ch p5))), (nar .char (own_at own_T0 (1 : Int32) (own_ch p5))), (nar .char (own_at own_T0 (2 : Int32) (own_ch p5))), (nar .char (own_at own_T0 (3 : Int32) (own_ch p5))), (nar .char (own_at own_T0 (4 : Int32) (own_ch p5))), (0 : Int32), (0 : Int32), (0 : Int32)] := V17
  refine Y.aload X17 hx (hb hby at_170) rfl rfl ?_
  refine Y.iconst X17 hx (hb hby at_172) ?_
  refine Y.aload X17 hx (hb hby at_173) rfl rfl ?_
  refine Y.iconst X17 hx (hb hby at_175) ?_
  refine Y.iload X17 hx (hb hby at_176) rfl ?_
  obtain ⟨_, _, ⟨T18, L18, k18, n18⟩, -, X18, ⟨Lc18, hQ18, l18, y18, z18⟩, st18⟩ := Jvm.LawKit.callS X17 hx (y := (⟨"com/example/marcasite/marcasite/marc/CarrierNamedPinLaw", "at", "(Ljava/lang/String;IC)C"⟩ : MethodName)) hown2 (mvT hZ2 (W 26 rfl)) (mvT hZ2 (W 27 rfl)) (mvT hZ2 (W 28 rfl)) (mvT hZ2 (W 29 rfl)) (by decide) (backOf (W := 2) (rm3 l Z a0 hw [] la2 (5 : Int32) (own_ch p5) cs fo lb2 kb2 own_T0 _ _ h17 n0 Z17 Es2 Fv2 Fc2 Va2 own_Tc0 own_Tb0 own_Tr0 (by decide) (by decide) (own_chr p5) SBC hcs SFO hfo O_) hZ2 (W 29 rfl) (W 28 rfl) (by decide) (by decide)) (g := (mkF m 178 #[.val (.int p1), .val (.int p2), .val (.int p3), .val (.int p4), .val (.int p5), .val (.int ((p1 &&& (2147483647 : Int32)) % (3 : Int32))), .val (.ref la2), .val (.ref wa), .val (.int (7 : Int32)), .val (.int nnl), .val (.int (p3 &&& (7 : Int32))), .val (.int (own_ch p5)), .val (.ref b7), .unset, .unset, .unset, .unset, .unset] [(.int (own_ch p5)), (.int (5 : Int32)), (.ref la2), (.int (5 : Int32)), (.ref b7)])) rfl (by rw [hml]; rfl) (argsL := [(.ref la2), (.int (5 : Int32)), (.int (own_ch p5))]) (rest := [(.int (5 : Int32)), (.ref b7)]) (lenOf pd_10 rfl) rfl (by show 2 * 0 + _ ≤ _; exact Nat.le_of_eq rfl) (hb hby at_178) (fun _ _ => ⟨rfl, e17, (by decide : 3 + 0 ≤ _), (by decide : 40 + 0 ≤ _)⟩)
  dsimp only [Pt.U, Pt.locs, Pt.cells, Pt.slots] at X18 l18 y18 z18 st18 hQ18
  subst l18 y18 z18
  obtain ⟨rfl, N18q, e18⟩ := hQ18
  have N18 := Fr.app N17 N18q
  refine Gl.pre (fun _ k => st18 _ k) ?_
  obtain ⟨T19, h19, X19, e19, W19, V19, st19⟩ := own_stC X18 hx hZ2 e18 V_b7 (j := (5 : Int32)) (i := 5) (by decide) (by decide) (Nat.lt_of_lt_of_eq (by decide : 5 < 8) rfl) (g := (mkF m 181 #[.val (.int p1), .val (.int p2), .val (.int p3), .val (.int p4), .val (.int p5), .val (.int ((p1 &&& (2147483647 : Int32)) % (3 : Int32))), .val (.ref la2), .val (.ref wa), .val (.int (7 : Int32)), .val (.int nnl), .val (.int (p3 &&& (7 : Int32))), .val (.int (own_ch p5)), .val (.ref b7), .unset, .unset, .unset, .unset, .unset] [(.int (own_at own_T0 (5 : Int32) (own_ch p5))), (.int (5 : Int32)), (.ref b7)])) rfl rfl (hb hby at_181)
  refine Gl.pre (fun _ k => st19 _ k) ?_
  have CR19 := CR17.trans (CHr.wr W19 Sf_b7 CR17.1)
  have Sf_b7 := Safe.wr W19 Sf_b7 CR17.1 Sf_b7
  have O_ := O_.wr W19 g_b7
  have Va2 := Va2.other W19 (own_ne_lb2_b7)
  have Es2 := Es2.wr W19
  have Fc2 := Fc2.other W19 (Or.inl (own_ne_la2_b7))
  have Fv2 := Fv2.other W19 (Or.inl (own_ne_la2_b7))
  have V_lb2 := V_lb2.other W19 (own_ne_lb2_b7)
  have Z19 : n0 ≤ h19.size := by rw [W19.size]; exact Z17
  have hk19 := Nat.le_trans hk17 (Nat.le_of_eq W19.size.symm)
  have N19 := Fr.snoc X19 N18 g_b7
  have V_b7 : Bal Z h19 b7 .char [(nar .char (own_at own_T0 (0 : Int32) (own_ch p5))), (nar .char (own_at own_T0 (1 : Int32) (own_ch p5))), (nar .char (own_at own_T0 (2 : Int32) (own_ch p5))), (nar .char (own_at own_T0 (3 : Int32) (own_ch p5))), (nar .char (own_at own_T0 (4 : Int32) (own_ch p5))), (nar .char (own_at own_T0 (5 : Int32) (own_ch p5))), (0 : Int32), (0 : Int32)] := V19
  refine Y.aload X19 hx (hb hby at_182) rfl rfl ?_
  refine Y.bipush X19 hx (hb hby at_184) ?_
  refine Y.aload X19 hx (hb hby at_186) rfl rfl ?_
  refine Y.bipush X19 hx (hb hby at_188) ?_
  refine Y.iload X19 hx (hb hby at_190) rfl ?_
  obtain ⟨_, _, ⟨T20, L20, k20, n20⟩, -, X20, ⟨Lc20, hQ20, l20, y20, z20⟩, st20⟩ := Jvm.LawKit.callS X19 hx (y := (⟨"com/example/marcasite/marcasite/marc/CarrierNamedPinLaw", "at", "(Ljava/lang/String;IC)C"⟩ : MethodName)) hown2 (mvT hZ2 (W 26 rfl)) (mvT hZ2 (W 27 rfl)) (mvT hZ2 (W 28 rfl)) (mvT hZ2 (W 29 rfl)) (by decide) (backOf (W := 2) (rm3 l Z a0 hw [] la2 (6 : Int32) (own_ch p5) cs fo lb2 kb2 own_T0 _ _ h19 n0 Z19 Es2 Fv2 Fc2 Va2 own_Tc0 own_Tb0 own_Tr0 (by decide) (by decide) (own_chr p5) SBC hcs SFO hfo O_) hZ2 (W 29 rfl) (W 28 rfl) (by decide) (by decide)) (g := (mkF m 192 #[.val (.int p1), .val (.int p2), .val (.int p3), .val (.int p4), .val (.int p5), .val (.int ((p1 &&& (2147483647 : Int32)) % (3 : Int32))), .val (.ref la2), .val (.ref wa), .val (.int (7 : Int32)), .val (.int nnl), .val (.int (p3 &&& (7 : Int32))), .val (.int (own_ch p5)), .val (.ref b7), .unset, .unset, .unset, .unset, .unset] [(.int (own_ch p5)), (.int (6 : Int32)), (.ref la2), (.int (6 : Int32)), (.ref b7)])) rfl (by rw [hml]; rfl) (argsL := [(.ref la2), (.int (6 : Int32)), (.int (own_ch p5))]) (rest := [(.int (6 : Int32)), (.ref b7)]) (lenOf pd_10 rfl) rfl (by show 2 * 0 + _ ≤ _; exact Nat.le_of_eq rfl) (hb hby at_192) (fun _ _ => ⟨rfl, e19, (by decide : 3 + 0 ≤ _), (by decide : 40 + 0 ≤ _)⟩)
  dsimp only [Pt.U, Pt.locs, Pt.cells, Pt.slots] at X20 l20 y20 z20 st20 hQ20
  subst l20 y20 z20
  obtain ⟨rfl, N20q, e20⟩ := hQ20
  have N20 := Fr.app N19 N20q
  refine Gl.pre (fun _ k => st20 _ k) ?_
  obtain ⟨T21, h21, X21, e21, W21, V21, st21⟩ := own_stC X20 hx hZ2 e20 V_b7 (j := (6 : Int32)) (i := 6) (by decide) (by decide) (Nat.lt_of_lt_of_eq (by decide : 6 < 8) rfl) (g := (mkF m 195 #[.val (.int p1), .val (.int p2), .val (.int p3), .val (.int p4), .val (.int p5), .val (.int ((p1 &&& (2147483647 : Int32)) % (3 : Int32))), .val (.ref la2), .val (.ref wa), .val (.int (7 : Int32)), .val (.int nnl), .val (.int (p3 &&& (7 : Int32))), .val (.int (own_ch p5)), .val (.ref b7), .unset, .unset, .unset, .unset, .unset] [(.int (own_at own_T0 (6 : Int32) (own_ch p5))), (.int (6 : Int32)), (.ref b7)])) rfl rfl (hb hby at_195)
  refine Gl.pre (fun _ k => st21 _ k) ?_
  have CR21 := CR19.trans (CHr.wr W21 Sf_b7 CR19.1)
  have Sf_b7 := Safe.wr W21 Sf_b7 CR19.1 Sf_b7
  have O_ := O_.wr W21 g_b7
  have Va2 := Va2.other W21 (own_ne_lb2_b7)
  have Es2 := Es2.wr W21
  have Fc2 := Fc2.other W21 (Or.inl (own_ne_la2_b7))
  have Fv2 := Fv2.other W21 (Or.inl (own_ne_la2_b7))
  have V_lb2 := V_lb2.other W21 (own_ne_lb2_b7)
  have Z21 : n0 ≤ h21.size := by rw [W21.size]; exact Z19
  have hk21 := Nat.le_trans hk19 (Nat.le_of_eq W21.size.symm)
  have N21 := Fr.snoc X21 N20 g_b7
  have V_b7 : Bal Z h21 b7 .char [(nar .char (own_at own_T0 (0 : Int32) (own_ch p5))), (nar .char (own_at own_T0 (1 : Int32) (own_ch p5))), (nar .char (own_at own_T0 (2 : Int32) (own_ch p5))), (nar .char (own_at own_T0 (3 : Int32) (own_ch p5))), (nar .char (own_at own_T0 (4 : Int32) (own_ch p5))), (nar .char (own_at own_T0 (5 : Int32) (own_ch p5))), (nar .char (own_at own_T0 (6 : Int32) (own_ch p5))), (0 : Int32)] := V21
  refine Y.aload X21 hx (hb hby at_196) rfl rfl ?_
  refine Y.bipush X21 hx (hb hby at_198) ?_
  refine Y.aload X21 hx (hb hby at_200) rfl rfl ?_
  refine Y.bipush X21 hx (hb hby at_202) ?_
  refine Y.iload X21 hx (hb hby at_204) rfl ?_
  obtain ⟨_, _, ⟨T22, L22, k22, n22⟩, -, X22, ⟨Lc22, hQ22, l22, y22, z22⟩, st22⟩ := Jvm.LawKit.callS X21 hx (y := (⟨"com/example/marcasite/marcasite/marc/CarrierNamedPinLaw", "at", "(Ljava/lang/String;IC)C"⟩ : MethodName)) hown2 (mvT hZ2 (W 26 rfl)) (mvT hZ2 (W 27 rfl)) (mvT hZ2 (W 28 rfl)) (mvT hZ2 (W 29 rfl)) (by decide) (backOf (W := 2) (rm3 l Z a0 hw [] la2 (7 : Int32) (own_ch p5) cs fo lb2 kb2 own_T0 _ _ h21 n0 Z21 Es2 Fv2 Fc2 Va2 own_Tc0 own_Tb0 own_Tr0 (by decide) (by decide) (own_chr p5) SBC hcs SFO hfo O_) hZ2 (W 29 rfl) (W 28 rfl) (by decide) (by decide)) (g := (mkF m 206 #[.val (.int p1), .val (.int p2), .val (.int p3), .val (.int p4), .val (.int p5), .val (.int ((p1 &&& (2147483647 : Int32)) % (3 : Int32))), .val (.ref la2), .val (.ref wa), .val (.int (7 : Int32)), .val (.int nnl), .val (.int (p3 &&& (7 : Int32))), .val (.int (own_ch p5)), .val (.ref b7), .unset, .unset, .unset, .unset, .unset] [(.int (own_ch p5)), (.int (7 : Int32)), (.ref la2), (.int (7 : Int32)), (.ref b7)])) rfl (by rw [hml]; rfl) (argsL := [(.ref la2), (.int (7 : Int32)), (.int (own_ch p5))]) (rest := [(.int (7 : Int32)), (.ref b7)]) (lenOf pd_10 rfl) rfl (by show 2 * 0 + _ ≤ _; exact Nat.le_of_eq rfl) (hb hby at_206) (fun _ _ => ⟨rfl, e21, (by decide : 3 + 0 ≤ _), (by decide : 40 + 0 ≤ _)⟩)
  dsimp only [Pt.U, Pt.locs, Pt.cells, Pt.slots] at X22 l22 y22 z22 st22 hQ22
  subst l22 y22 z22
  obtain ⟨rfl, N22q, e22⟩ := hQ22
  have N22 := Fr.app N21 N22q
  refine Gl.pre (fun _ k => st22 _ k) ?_
  obtain ⟨T23, h23, X23, e23, W23, V23, st23⟩ := own_stC X22 hx hZ2 e22 V_b7 (j := (7 : Int32)) (i := 7) (by decide) (by decide) (Nat.lt_of_lt_of_eq (by decide : 7 < 8) rfl) (g := (mkF m 209 #[.val (.int p1), .val (.int p2), .val (.int p3), .val (.int p4), .val (.int p5), .val (.int ((p1 &&& (2147483647 : Int32)) % (3 : Int32))), .val (.ref la2), .val (.ref wa), .val (.int (7 : Int32)), .val (.int nnl), .val (.int (p3 &&& (7 : Int32))), .val (.int (own_ch p5)), .val (.ref b7), .unset, .unset, .unset, .unset, .unset] [(.int (own_at own_T0 (7 : Int32) (own_ch p5))), (.int (7 : Int32)), (.ref b7)])) rfl rfl (hb hby at_209)
  refine Gl.pre (fun _ k => st23 _ k) ?_
  have CR23 := CR21.trans (CHr.wr W23 Sf_b7 CR21.1)
  have Sf_b7 := Safe.wr W23 Sf_b7 CR21.1 Sf_b7
  have O_ := O_.wr W23 g_b7
  have Va2 := Va2.other W23 (own_ne_lb2_b7)
  have Es2 := Es2.wr W23
  have Fc2 := Fc2.other W23 (Or.inl (own_ne_la2_b7))
  have Fv2 := Fv2.other W23 (Or.inl (own_ne_la2_b7))
  have V_lb2 := V_lb2.other W23 (own_ne_lb2_b7)
  have Z23 : n0 ≤ h23.size := by rw [W23.size]; exact Z21
  have hk23 := Nat.le_trans hk21 (Nat.le_of_eq W23.size.symm)
  have N23 := Fr.snoc X23 N22 g_b7
  have V_b7 : Bal Z h23 b7 .char [(nar .char (own_at own_T0 (0 : Int32) (own_ch p5))), (nar .char (own_at own_T0 (1 : Int32) (own_ch p5))), (nar .char (own_at own_T0 (2 : Int32) (own_ch p5))), (nar .char (own_at own_T0 (3 : Int32) (own_ch p5))), (nar .char (own_at own_T0 (4 : Int32) (own_ch p5))), (nar .char (own_at own_T0 (5 : Int32) (own_ch p5))), (nar .char (own_at own_T0 (6 : Int32) (own_ch p5))), (nar .char (own_at own_T0 (7 : Int32) (own_ch p5)))] := V23
  rw [own_eA0 (own_chr p5)] at V_b7
  refine Y.aload X23 hx (hb hby at_210) rfl rfl ?_
  refine Y.iload X23 hx (hb hby at_212) rfl ?_
  refine Gl.pre (fun _ k => own_ldC X23 hx hZ2 e23 V_b7 (j := (p3 &&& (7 : Int32))) (i := ((p3 &&& (7 : Int32))).toNatClampNeg) (own_p8 p3).1 rfl (Nat.lt_of_lt_of_eq (own_p8 p3).2 rfl) (v := ((own_A0 (own_ch p5)).getD ((p3 &&& (7 : Int32))).toNatClampNeg 0)) rfl (g := (mkF m 214 #[.val (.int p1), .val (.int p2), .val (.int p3), .val (.int p4), .val (.int p5), .val (.int ((p1 &&& (2147483647 : Int32)) % (3 : Int32))), .val (.ref la2), .val (.ref wa), .val (.int (7 : Int32)), .val (.int nnl), .val (.int (p3 &&& (7 : Int32))), .val (.int (own_ch p5)), .val (.ref b7), .unset, .unset, .unset, .unset, .unset] [(.int (p3 &&& (7 : Int32))), (.ref b7)])) rfl rfl (hb hby at_214) _ k) ?_
  refine Y.istore X23 hx (hb hby at_215) rfl (l' := #[.val (.int p1), .val (.int p2), .val (.int p3), .val (.int p4), .val (.int p5), .val (.int ((p1 &&& (2147483647 : Int32)) % (3 : Int32))), .val (.ref la2), .val (.ref wa), .val (.int (7 : Int32)), .val (.int nnl), .val (.int (p3 &&& (7 : Int32))), .val (.int (own_ch p5)), .val (.ref b7), .val (.int ((own_A0 (own_ch p5)).getD ((p3 &&& (7 : Int32))).toNatClampNeg 0)), .unset, .unset, .unset, .unset]) rfl ?_
  suffices J24 : ∀ cch : Int32, ¬ cch < 0 ∧ ¬ (255 : Int32) < cch → Gl p.tables e below PP (T23.setTop (mkF m 238 #[.val (.int p1), .val (.int p2), .val (.int p3), .val (.int p4), .val (.int p5), .val (.int ((p1 &&& (2147483647 : Int32)) % (3 : Int32))), .val (.ref la2), .val (.ref wa), .val (.int (7 : Int32)), .val (.int nnl), .val (.int (p3 &&& (7 : Int32))), .val (.int (own_ch p5)), .val (.ref b7), .val (.int ((own_A0 (own_ch p5)).getD ((p3 &&& (7 : Int32))).toNatClampNeg 0)), .val (.int cch), .unset, .unset, .unset] [])) by
   refine Y.iloadN X23 hx (hb hby at_217) rfl ?_
   refine Y.sipush X23 hx (hb hby at_218) ?_
   refine Y.iand X23 hx (hb hby at_221) rfl ?_
   by_cases hc25 : (p4 &&& (256 : Int32)) = (0 : Int32)
   refine Y.ifYes X23 hx (pc0 := 222) (pc' := 230) rfl (hb hby at_222) rfl ((if0 _ _).trans (teq hc25).1) (by decide) (by decide) ?_
   refine Y.iloadN X23 hx (hb hby at_230) rfl ?_
   refine Y.sipush X23 hx (hb hby at_231) ?_
   refine Y.iand X23 hx (hb hby at_234) rfl ?_
   refine Y.i2c X23 hx (hb hby at_235) rfl ?_
   refine Y.istore X23 hx (hb hby at_236) rfl (l' := #[.val (.int p1), .val (.int p2), .val (.int p3), .val (.int p4), .val (.int p5), .val (.int ((p1 &&& (2147483647 : Int32)) % (3 : Int32))), .val (.ref la2), .val (.ref wa), .val (.int (7 : Int32)), .val (.int nnl), .val (.int (p3 &&& (7 : Int32))), .val (.int (own_ch p5)), .val (.ref b7), .val (.int ((own_A0 (own_ch p5)).getD ((p3 &&& (7 : Int32))).toNatClampNeg 0)), .val (.int ((p4 &&& (255 : Int32)).toUInt32.toUInt16.toUInt32.toInt32)), .unset, .unset, .unset]) rfl ?_
   exact J24 _ (own_chr p4)
   refine Y.ifNo X23 hx (hb hby at_222) rfl ((if0 _ _).trans (feq hc25).1) ?_
   refine Y.iload X23 hx (hb hby at_225) rfl ?_
   refine Y.goto X23 hx (pc0 := 227) (pc' := 236) rfl (hb hby at_227) (by decide) (by decide) ?_
   refine Y.istore X23 hx (hb hby at_236) rfl (l' := #[.val (.int p1), .val (.int p2), .val (.int p3), .val (.int p4), .val (.int p5), .val (.int ((p1 &&& (2147483647 : Int32)) % (3 : Int32))), .val (.ref la2), .val (.ref wa), .val (.int (7 : Int32)), .val (.int nnl), .val (.int (p3 &&& (7 : Int32))), .val (.int (own_ch p5)), .val (.ref b7), .val (.int ((own_A0 (own_ch p5)).getD ((p3 &&& (7 : Int32))).toNatClampNeg 0)), .val (.int ((own_A0 (own_ch p5)).getD ((p3 &&& (7 : Int32))).toNatClampNeg 0)), .unset, .unset, .unset]) rfl ?_
   exact J24 _ (own_gr (own_Ar0 (own_chr p5)) _)
  intro cch hcch
  show Gl p.tables e below PP (T23.setTop (mkF m 238 #[.val (.int p1), .val (.int p2), .val (.int p3), .val (.int p4), .val (.int p5), .val (.int ((p1 &&& (2147483647 : Int32)) % (3 : Int32))), .val (.ref la2), .val (.ref wa), .val (.int (7 : Int32)), .val (.int nnl), .val (.int (p3 &&& (7 : Int32))), .val (.int (own_ch p5)), .val (.ref b7), .val (.int ((own_A0 (own_ch p5)).getD ((p3 &&& (7 : Int32))).toNatClampNeg 0)), .val (.int cch), .unset, .unset, .unset] []))
  refine Y.aload X23 hx (hb hby at_238) rfl rfl ?_
  refine Y.iload X23 hx (hb hby at_240) rfl ?_
  refine Y.iload X23 hx (hb hby at_242) rfl ?_
  obtain ⟨T26, h26, X26, e26, W26, V26, st26⟩ := own_stC X23 hx hZ2 e23 V_b7 (j := (p3 &&& (7 : Int32))) (i := ((p3 &&& (7 : Int32))).toNatClampNeg) (own_p8 p3).1 rfl (Nat.lt_of_lt_of_eq (own_p8 p3).2 rfl) (g := (mkF m 244 #[.val (.int p1), .val (.int p2), .val (.int p3), .val (.int p4), .val (.int p5), .val (.int ((p1 &&& (2147483647 : Int32)) % (3 : Int32))), .val (.ref la2), .val (.ref wa), .val (.int (7 : Int32)), .val (.int nnl), .val (.int (p3 &&& (7 : Int32))), .val (.int (own_ch p5)), .val (.ref b7), .val (.int ((own_A0 (own_ch p5)).getD ((p3 &&& (7 : Int32))).toNatClampNeg 0)), .val (.int cch), .unset, .unset, .unset] [(.int cch), (.int (p3 &&& (7 : Int32))), (.ref b7)])) rfl rfl (hb hby at_244)
  refine Gl.pre (fun _ k => st26 _ k) ?_
  have CR26 := CR23.trans (CHr.wr W26 Sf_b7 CR23.1)
  have Sf_b7 := Safe.wr W26 Sf_b7 CR23.1 Sf_b7
  have O_ := O_.wr W26 g_b7
  have Va2 := Va2.other W26 (own_ne_lb2_b7)
  have Es2 := Es2.wr W26
  have Fc2 := Fc2.other W26 (Or.inl (own_ne_la2_b7))
  have Fv2 := Fv2.other W26 (Or.inl (own_ne_la2_b7))
  have V_lb2 := V_lb2.other W26 (own_ne_lb2_b7)
  have Z26 : n0 ≤ h26.size := by rw [W26.size]; exact Z23
  have hk26 := Nat.le_trans hk23 (Nat.le_of_eq W26.size.symm)
  have N26 := Fr.snoc X26 N23 g_b7
  have V_b7 := V26
  rw [own_nc hcch] at V_b7
  refine Y.aload X26 hx (hb hby at_245) rfl rfl ?_
  refine Y.iload X26 hx (hb hby at_247) rfl ?_
  obtain ⟨_, _, ⟨T27, L27, k27, n27⟩, -, X27, hS27c, hg27, ⟨Lc27, hQ27, l27, y27, z27, CR27c⟩, st27⟩ := callSS X26 hx (y := (⟨"com/example/marcasite/marcasite/marc/CarrierNamedPinLaw", "prefix", "([CI)Ljava/lang/String;"⟩ : MethodName)) hown2 (mvT hZ2 (W 52 rfl)) (mvT hZ2 (W 53 rfl)) (mvT hZ2 (W 28 rfl)) (mvT hZ2 (W 54 rfl)) (by decide) (own_backH (W := 0) (rm9 l Z a0 hw [] b7 nnl ((own_A0 (own_ch p5)).set ((p3 &&& (7 : Int32))).toNatClampNeg cch) cs h26 n0 Z26 V_b7 (by rw [List.length_set]; rfl) (own_setall (P := fun c => ¬ c < 0 ∧ ¬ (255 : Int32) < c) (own_Ar0 (own_chr p5)) hcch) hnnl SBC hcs O_ hEL) hZ2 (W 54 rfl) (W 28 rfl) (by decide) (by decide) hEL CR26.1 all0) (g := (mkF m 249 #[.val (.int p1), .val (.int p2), .val (.int p3), .val (.int p4), .val (.int p5), .val (.int ((p1 &&& (2147483647 : Int32)) % (3 : Int32))), .val (.ref la2), .val (.ref wa), .val (.int (7 : Int32)), .val (.int nnl), .val (.int (p3 &&& (7 : Int32))), .val (.int (own_ch p5)), .val (.ref b7), .val (.int ((own_A0 (own_ch p5)).getD ((p3 &&& (7 : Int32))).toNatClampNeg 0)), .val (.int cch), .unset, .unset, .unset] [(.int nnl), (.ref b7)])) rfl (by rw [hml]; rfl) (argsL := [(.ref b7), (.int nnl)]) (rest := []) (lenOf pd_11 rfl) rfl (by show 2 * 0 + _ ≤ _; exact Nat.le_of_eq rfl) (hb hby at_249) (fun _ _ => ⟨rfl, e26, (by decide : 3 + 6 ≤ _), (by decide : 40 + 20 ≤ _)⟩)
  dsimp only [Pt.U, Pt.locs, Pt.cells, Pt.slots] at X27 l27 y27 z27 st27 hQ27 hS27c hg27 CR27c
  subst l27 y27 z27
  have X27 : Stand p l e room_1 (s.setVm T27.vm) m #[(.int p1), (.int p2), (.int p3), (.int p4), (.int p5)] below meth c T27 _ _ _ := X27
  have hS27 := foldS hS2 (Nat.le_trans hk26 (Nat.le_of_eq (congrArg Array.size e26.symm))) hS27c hg27
  have hZ27 : Z.Warmed39 (s.setVm T27.vm).vm := State.Warmed39.trans (t := s.setVm T2.vm) hZ2 hS27c.1
  have hown27 : (s.setVm T27.vm).vm.findClass "com/example/marcasite/marcasite/marc/CarrierNamedPinLaw" = some m.cls := by rw [show (s.setVm T27.vm).vm = T27.vm from rfl, hS27c.1.alike.findClass]; exact hown2
  have Sf_b7 := CR27c.safe V_b7.lt Sf_b7
  have CR27 := CR26.trans CR27c
  obtain ⟨ob27, tv27, kt27, ds27, hds27, rfl, N27q, K27, hz27, Eb27, Fv27, Fc27, Kt27⟩ := hQ27
  have N27 := Fr.app N26 N27q
  refine Gl.pre (fun _ k => st27.trans k) ?_
  have own_ne_la2_ob27 : la2 ≠ ob27 := Nat.ne_of_lt (Nat.lt_of_lt_of_le Es2.lt hz27)
  have own_ne_ob27_la2 := own_ne_la2_ob27.symm
  have own_ne_lb2_ob27 : lb2 ≠ ob27 := Nat.ne_of_lt (Nat.lt_of_lt_of_le V_lb2.lt hz27)
  have own_ne_ob27_lb2 := own_ne_lb2_ob27.symm
  have own_ne_b7_ob27 : b7 ≠ ob27 := Nat.ne_of_lt (Nat.lt_of_lt_of_le V_b7.lt hz27)
  have own_ne_ob27_b7 := own_ne_b7_ob27.symm
  have g_ob27 : n0 ≤ ob27 := Nat.le_trans Z26 hz27
  have Sf_ob270 := Safe.new (Z := Z) (EL := own_EL) (vm := T27.vm) hz27
  have O_ := O_.keep K27 all0
  have Va2 := Va2.keep K27 nin0
  have Es2 := Es2.keep K27
  have Fc2 := Fc2.keep K27 nin0
  have Fv2 := Fv2.keep K27 nin0
  have V_lb2 := V_lb2.keep K27 nin0
  have V_b7 := V_b7.keep K27 nin0
  have Z27 : n0 ≤ T27.heap.size := Nat.le_trans Z26 K27.1
  have E_ob27 := Eb27
  have F_value_ob27 := Fv27
  have F_coder_ob27 := Fc27
  have K_tv27 := Kt27
  refine Y.astore X27 hx (hb hby at_252) rfl rfl (l' := #[.val (.int p1), .val (.int p2), .val (.int p3), .val (.int p4), .val (.int p5), .val (.int ((p1 &&& (2147483647 : Int32)) % (3 : Int32))), .val (.ref la2), .val (.ref wa), .val (.int (7 : Int32)), .val (.int nnl), .val (.int (p3 &&& (7 : Int32))), .val (.int (own_ch p5)), .val (.ref b7), .val (.int ((own_A0 (own_ch p5)).getD ((p3 &&& (7 : Int32))).toNatClampNeg 0)), .val (.int cch), .val (.ref ob27), .unset, .unset]) rfl ?_
  refine Y.aload X27 hx (hb hby at_254) rfl rfl ?_
  obtain ⟨_, _, ⟨T28, L28, k28, n28⟩, -, X28, ⟨Lc28, hQ28, l28, y28, z28⟩, st28⟩ := Jvm.LawKit.callS X27 hx (y := (⟨"com/example/marcasite/marcasite/marc/Carrier", "named", "(Ljava/lang/String;)Ljava/util/Optional;"⟩ : MethodName)) hown27 (mvT hZ27 (W 76 rfl)) (mvT hZ27 (W 77 rfl)) (mvT hZ27 (W 10 rfl)) (mvT hZ27 (W 78 rfl)) (by decide) (backOf (W := 0) (rm16 l Z a0 hw [] ob27 tv27 kt27 ds27 cs em va kv wa wb wc sa ta ka sb tb kb sc tc kc T27.heap n0 Z27 E_ob27 F_value_ob27 F_coder_ob27 K_tv27 (by rw [hds27]; exact fun c hc => own_setall (P := fun c => ¬ c < 0 ∧ ¬ (255 : Int32) < c) (own_Ar0 (own_chr p5)) hcch c (List.mem_of_mem_take hc)) (by rw [hds27]; exact own_dl0 _ _ _ _) (ZF_optionName_wa.ext O_.2) (ZE_sa.ext O_.2) (ZF_value_sa.ext O_.2) (ZF_coder_sa.ext O_.2) (ZK_ta.ext O_.2) (ZF_optionName_wb.ext O_.2) (ZE_sb.ext O_.2) (ZF_value_sb.ext O_.2) (ZF_coder_sb.ext O_.2) (ZK_tb.ext O_.2) (ZF_optionName_wc.ext O_.2) (ZE_sc.ext O_.2) (ZF_value_sc.ext O_.2) (ZF_coder_sc.ext O_.2) (ZK_tc.ext O_.2) (ZE_em.ext O_.2) (ZF_value_em.ext O_.2) SVA AVA EVA SEM SBC hcs O_) hZ27 (W 78 rfl) (W 10 rfl) (by decide) (by decide)) (g := (mkF m 256 #[.val (.int p1), .val (.int p2), .val (.int p3), .val (.int p4), .val (.int p5), .val (.int ((p1 &&& (2147483647 : Int32)) % (3 : Int32))), .val (.ref la2), .val (.ref wa), .val (.int (7 : Int32)), .val (.int nnl), .val (.int (p3 &&& (7 : Int32))), .val (.int (own_ch p5)), .val (.ref b7), .val (.int ((own_A0 (own_ch p5)).getD ((p3 &&& (7 : Int32))).toNatClampNeg 0)), .val (.int cch), .val (.ref ob27), .unset, .unset] [(.ref ob27)])) rfl (by rw [hml]; rfl) (argsL := [(.ref ob27)]) (rest := []) (lenOf pd_12 rfl) rfl (by show 2 * 0 + _ ≤ _; exact Nat.le_of_eq rfl) (hb hby at_256) (fun _ _ => ⟨rfl, rfl, (by decide : 9 + 2 ≤ _), (by decide : 60 + 4 ≤ _)⟩)
  dsimp only [Pt.U, Pt.locs, Pt.cells, Pt.slots] at X28 l28 y28 z28 st28 hQ28
  subst l28 y28 z28
  obtain ⟨oo28, rfl, N28q, K28, Eo28, hD28⟩ := hQ28
  have N28 := Fr.app N27 N28q
  refine Gl.pre (fun _ k => st28 _ k) ?_
  have Sf_b7 := Safe.keep K28 all0 CR27.1 Sf_b7
  have CR28 := CR27.trans (CHr.keep K28 all0 CR27.1)
  have O_ := O_.keep K28 all0
  have Va2 := Va2.keep K28 nin0
  have Es2 := Es2.keep K28
  have Fc2 := Fc2.keep K28 nin0
  have Fv2 := Fv2.keep K28 nin0
  have V_lb2 := V_lb2.keep K28 nin0
  have V_b7 := V_b7.keep K28 nin0
  have E_ob27 := E_ob27.keep K28
  have F_value_ob27 := F_value_ob27.keep K28 nin0
  have F_coder_ob27 := F_coder_ob27.keep K28 nin0
  have K_tv27 := K_tv27.keep K28 nin0
  have hk28 := Nat.le_trans (Nat.le_refl _) K28.1
  have Z28 : n0 ≤ T28.heap.size := Nat.le_trans Z27 K28.1
  have E_oo28 := Eo28
  rw [hds27] at hD28
  rcases hD28 with ⟨q28_0, Fo28⟩ | ⟨q28_0, q28_1, Fo28⟩ | ⟨q28_0, q28_1, q28_2, Fo28⟩ | ⟨q28_0, q28_1, q28_2, Fo28⟩
  have F_value_oo28 := Fo28
  show Gl p.tables e below PP (T28.setTop (mkF m 259 #[.val (.int p1), .val (.int p2), .val (.int p3), .val (.int p4), .val (.int p5), .val (.int ((p1 &&& (2147483647 : Int32)) % (3 : Int32))), .val (.ref la2), .val (.ref wa), .val (.int (7 : Int32)), .val (.int nnl), .val (.int (p3 &&& (7 : Int32))), .val (.int (own_ch p5)), .val (.ref b7), .val (.int ((own_A0 (own_ch p5)).getD ((p3 &&& (7 : Int32))).toNatClampNeg 0)), .val (.int cch), .val (.ref ob27), .unset, .unset] [(.ref oo28)]))
  refine Y.aconstNull X28 hx (hb hby at_259) ?_
  obtain ⟨cq29, kq29, qa29, qb29, qc29⟩ := isOf hZ27 rfl E_oo28
  obtain ⟨_, _, ⟨T29, L29, k29, n29⟩, -, X29, ⟨Lc29, hQ29, l29, y29, z29⟩, st29⟩ := X28.virtualBack hx (y := (⟨"java/util/Optional", "orElse", "(Ljava/lang/Object;)Ljava/lang/Object;"⟩ : MethodName)) (z := (⟨"java/util/Optional", "orElse", "(Ljava/lang/Object;)Ljava/lang/Object;"⟩ : MethodName)) hown27 (mvT hZ27 (W 112 rfl)) (mvT hZ27 (W 113 rfl)) (notFace_of_selects (args := #[]) (mvT hZ27 (W 115 rfl))) (mvT hZ27 (W 115 rfl)) (mvT hZ27 (W 114 rfl)) (by decide) (backOf (W := 0) (rmorA l Z a0 hw [] oo28 wa T28.heap n0 Z28 F_value_oo28) hZ27 (W 116 rfl) (W 109 rfl) (by decide) (by decide)) qa29 qc29 (g := (mkF m 260 #[.val (.int p1), .val (.int p2), .val (.int p3), .val (.int p4), .val (.int p5), .val (.int ((p1 &&& (2147483647 : Int32)) % (3 : Int32))), .val (.ref la2), .val (.ref wa), .val (.int (7 : Int32)), .val (.int nnl), .val (.int (p3 &&& (7 : Int32))), .val (.int (own_ch p5)), .val (.ref b7), .val (.int ((own_A0 (own_ch p5)).getD ((p3 &&& (7 : Int32))).toNatClampNeg 0)), .val (.int cch), .val (.ref ob27), .unset, .unset] [.null, (.ref oo28)])) rfl (by rw [hml]; rfl) (Steps.refl _) (argsL := [.null]) (rest := []) (lenOf pd_4 rfl) rfl (by show 2 * 0 + _ ≤ _; exact Nat.le_of_eq rfl) (hb hby at_260) (fun _ _ => ⟨rfl, rfl, (by decide : 11 + 0 ≤ _), (by decide : 64 + 0 ≤ _)⟩)
  dsimp only [Pt.U, Pt.locs, Pt.cells, Pt.slots] at X29 l29 y29 z29 st29 hQ29
  subst l29 y29 z29
  obtain ⟨rfl, N29q, e29⟩ := hQ29
  have N29 := Fr.app N28 N29q
  refine Gl.pre (fun _ k => st29.trans k) ?_
  obtain ⟨T30, X30, e30, st30⟩ := castY X29 hx hZ27 hown27 (W 139 rfl) e29 (Ins.of_exa (ECwa.ext O_.2) (W 141 rfl)) (g := (mkF m 263 #[.val (.int p1), .val (.int p2), .val (.int p3), .val (.int p4), .val (.int p5), .val (.int ((p1 &&& (2147483647 : Int32)) % (3 : Int32))), .val (.ref la2), .val (.ref wa), .val (.int (7 : Int32)), .val (.int nnl), .val (.int (p3 &&& (7 : Int32))), .val (.int (own_ch p5)), .val (.ref b7), .val (.int ((own_A0 (own_ch p5)).getD ((p3 &&& (7 : Int32))).toNatClampNeg 0)), .val (.int cch), .val (.ref ob27), .unset, .unset] [(.ref wa)])) rfl rfl (hb hby at_263)
  refine Gl.pre (fun _ k => st30 _ k) ?_
  show Gl p.tables e below PP (T30.setTop (mkF m 266 #[.val (.int p1), .val (.int p2), .val (.int p3), .val (.int p4), .val (.int p5), .val (.int ((p1 &&& (2147483647 : Int32)) % (3 : Int32))), .val (.ref la2), .val (.ref wa), .val (.int (7 : Int32)), .val (.int nnl), .val (.int (p3 &&& (7 : Int32))), .val (.int (own_ch p5)), .val (.ref b7), .val (.int ((own_A0 (own_ch p5)).getD ((p3 &&& (7 : Int32))).toNatClampNeg 0)), .val (.int cch), .val (.ref ob27), .unset, .unset] [(.ref wa)]))
  refine Y.astore X30 hx (hb hby at_266) rfl rfl (l' := #[.val (.int p1), .val (.int p2), .val (.int p3), .val (.int p4), .val (.int p5), .val (.int ((p1 &&& (2147483647 : Int32)) % (3 : Int32))), .val (.ref la2), .val (.ref wa), .val (.int (7 : Int32)), .val (.int nnl), .val (.int (p3 &&& (7 : Int32))), .val (.int (own_ch p5)), .val (.ref b7), .val (.int ((own_A0 (own_ch p5)).getD ((p3 &&& (7 : Int32))).toNatClampNeg 0)), .val (.int cch), .val (.ref ob27), .val (.ref wa), .unset]) rfl ?_
  refine Y.iload X30 hx (hb hby at_268) rfl ?_
  refine Y.iload X30 hx (hb hby at_270) rfl ?_
  refine Y.icmpNo X30 hx (hb hby at_272) rfl (teq (show nnl = (7 : Int32) from ((own_h0_0 (own_ch p5) cch (p3 &&& (7 : Int32)) nnl (own_p8d p3) hnnl).mp q28_0).1)).2 ?_
  refine Y.iload X30 hx (hb hby at_275) rfl ?_
  refine Y.iload X30 hx (hb hby at_277) rfl ?_
  by_cases hc31 : (p3 &&& (7 : Int32)) < nnl
  refine Y.icmpNo X30 hx (hb hby at_279) rfl (tlt hc31).2.1 ?_
  refine Y.iload X30 hx (hb hby at_282) rfl ?_
  refine Y.iload X30 hx (hb hby at_284) rfl ?_
  refine Y.icmpNo X30 hx (hb hby at_286) rfl (teq (show cch = ((own_A0 (own_ch p5)).getD ((p3 &&& (7 : Int32))).toNatClampNeg 0) from (((own_h0_0 (own_ch p5) cch (p3 &&& (7 : Int32)) nnl (own_p8d p3) hnnl).mp q28_0).2.resolve_left (fun z => z hc31)))).2 ?_
  refine Y.iconst X30 hx (hb hby at_289) ?_
  refine Y.goto X30 hx (pc0 := 290) (pc' := 294) rfl (hb hby at_290) (by decide) (by decide) ?_
  refine Y.istore X30 hx (hb hby at_294) rfl (l' := #[.val (.int p1), .val (.int p2), .val (.int p3), .val (.int p4), .val (.int p5), .val (.int ((p1 &&& (2147483647 : Int32)) % (3 : Int32))), .val (.ref la2), .val (.ref wa), .val (.int (7 : Int32)), .val (.int nnl), .val (.int (p3 &&& (7 : Int32))), .val (.int (own_ch p5)), .val (.ref b7), .val (.int ((own_A0 (own_ch p5)).getD ((p3 &&& (7 : Int32))).toNatClampNeg 0)), .val (.int cch), .val (.ref ob27), .val (.ref wa), .val (.int (1 : Int32))]) rfl ?_
  refine Y.iload X30 hx (hb hby at_296) rfl ?_
  refine Y.ifNo X30 hx (hb hby at_298) rfl ((if0 _ _).trans (feq (show ¬ ((1 : Int32) = (0 : Int32)) from (by decide))).1) ?_
  refine Y.aload X30 hx (hb hby at_301) rfl rfl ?_
  refine Y.aload X30 hx (hb hby at_303) rfl rfl ?_
  refine Gl.pre (fun _ k => Jvm.RoadKit.acmp (g := (mkF m 305 #[.val (.int p1), .val (.int p2), .val (.int p3), .val (.int p4), .val (.int p5), .val (.int ((p1 &&& (2147483647 : Int32)) % (3 : Int32))), .val (.ref la2), .val (.ref wa), .val (.int (7 : Int32)), .val (.int nnl), .val (.int (p3 &&& (7 : Int32))), .val (.int (own_ch p5)), .val (.ref b7), .val (.int ((own_A0 (own_ch p5)).getD ((p3 &&& (7 : Int32))).toNatClampNeg 0)), .val (.int cch), .val (.ref ob27), .val (.ref wa), .val (.int (1 : Int32))] [(.ref wa), (.ref wa)])) X30 hx rfl rfl rfl (pc0 := 305) (pc' := 308) (same := true) rfl (hb hby at_305) rfl (decide_eq_true rfl) (by decide) (by decide) k) ?_
  refine Y.iconst X30 hx (hb hby at_308) ?_
  refine Y.goto X30 hx (pc0 := 309) (pc' := 326) rfl (hb hby at_309) (by decide) (by decide) ?_
  rw [hPP]
  refine own_finNW (Q := (Q0 Z p1 p2 p3 p4 p5 cs fo em va kv wa wb wc sa ta ka sb tb kb sc tc kc h0 n0)) (Z := Z) (EL := own_EL) X30 hx hlk hS27 (by rw [e30]; exact hk28) Bd.returns (t := .boolean) (z' := (1 : Int32)) (by simp) (by decide) (hb hby at_326) ?_ (by rw [hh, e30]; exact CR28.trans (CHv.at X30 hZ27 hEL CR28.1)) (by decide) (by decide)
  show Q0 Z p1 p2 p3 p4 p5 cs fo em va kv wa wb wc sa ta ka sb tb kb sc tc kc h0 n0 _ T30.heap _
  rw [e30]
  exact ⟨rfl, N29⟩
  refine Y.icmpYes X30 hx (pc0 := 279) (pc' := 289) rfl (hb hby at_279) rfl (flt hc31).2.1 (by decide) (by decide) ?_
  refine Y.iconst X30 hx (hb hby at_289) ?_
  refine Y.goto X30 hx (pc0 := 290) (pc' := 294) rfl (hb hby at_290) (by decide) (by decide) ?_
  refine Y.istore X30 hx (hb hby at_294) rfl (l' := #[.val (.int p1), .val (.int p2), .val (.int p3), .val (.int p4), .val (.int p5), .val (.int ((p1 &&& (2147483647 : Int32)) % (3 : Int32))), .val (.ref la2), .val (.ref wa), .val (.int (7 : Int32)), .val (.int nnl), .val (.int (p3 &&& (7 : Int32))), .val (.int (own_ch p5)), .val (.ref b7), .val (.int ((own_A0 (own_ch p5)).getD ((p3 &&& (7 : Int32))).toNatClampNeg 0)), .val (.int cch), .val (.ref ob27), .val (.ref wa), .val (.int (1 : Int32))]) rfl ?_
  refine Y.iload X30 hx (hb hby at_296) rfl ?_
  refine Y.ifNo X30 hx (hb hby at_298) rfl ((if0 _ _).trans (feq (show ¬ ((1 : Int32) = (0 : Int32)) from (by decide))).1) ?_
  refine Y.aload X30 hx (hb hby at_301) rfl rfl ?_
  refine Y.aload X30 hx (hb hby at_303) rfl rfl ?_
  refine Gl.pre (fun _ k => Jvm.RoadKit.acmp (g := (mkF m 305 #[.val (.int p1), .val (.int p2), .val (.int p3), .val (.int p4), .val (.int p5), .val (.int ((p1 &&& (2147483647 : Int32)) % (3 : Int32))), .val (.ref la2), .val (.ref wa), .val (.int (7 : Int32)), .val (.int nnl), .val (.int (p3 &&& (7 : Int32))), .val (.int (own_ch p5)), .val (.ref b7), .val (.int ((own_A0 (own_ch p5)).getD ((p3 &&& (7 : Int32))).toNatClampNeg 0)), .val (.int cch), .val (.ref ob27), .val (.ref wa), .val (.int (1 : Int32))] [(.ref wa), (.ref wa)])) X30 hx rfl rfl rfl (pc0 := 305) (pc' := 308) (same := true) rfl (hb hby at_305) rfl (decide_eq_true rfl) (by decide) (by decide) k) ?_
  refine Y.iconst X30 hx (hb hby at_308) ?_
  refine Y.goto X30 hx (pc0 := 309) (pc' := 326) rfl (hb hby at_309) (by decide) (by decide) ?_
  rw [hPP]
  refine own_finNW (Q := (Q0 Z p1 p2 p3 p4 p5 cs fo em va kv wa wb wc sa ta ka sb tb kb sc tc kc h0 n0)) (Z := Z) (EL := own_EL) X30 hx hlk hS27 (by rw [e30]; exact hk28) Bd.returns (t := .boolean) (z' := (1 : Int32)) (by simp) (by decide) (hb hby at_326) ?_ (by rw [hh, e30]; exact CR28.trans (CHv.at X30 hZ27 hEL CR28.1)) (by decide) (by decide)
  show Q0 Z p1 p2 p3 p4 p5 cs fo em va kv wa wb wc sa ta ka sb tb kb sc tc kc h0 n0 _ T30.heap _
  rw [e30]
  exact ⟨rfl, N29⟩
  exact absurd q28_1 (own_h0_1 (own_ch p5) cch (p3 &&& (7 : Int32)) nnl (own_p8d p3) hnnl)
  exact absurd q28_2 (own_h0_2 (own_ch p5) cch (p3 &&& (7 : Int32)) nnl (own_p8d p3) hnnl)
  have F_value_oo28 := Fo28
  show Gl p.tables e below PP (T28.setTop (mkF m 259 #[.val (.int p1), .val (.int p2), .val (.int p3), .val (.int p4), .val (.int p5), .val (.int ((p1 &&& (2147483647 : Int32)) % (3 : Int32))), .val (.ref la2), .val (.ref wa), .val (.int (7 : Int32)), .val (.int nnl), .val (.int (p3 &&& (7 : Int32))), .val (.int (own_ch p5)), .val (.ref b7), .val (.int ((own_A0 (own_ch p5)).getD ((p3 &&& (7 : Int32))).toNatClampNeg 0)), .val (.int cch), .val (.ref ob27), .unset, .unset] [(.ref oo28)]))
  refine Y.aconstNull X28 hx (hb hby at_259) ?_
  obtain ⟨cq32, kq32, qa32, qb32, qc32⟩ := isOf hZ27 rfl E_oo28
  obtain ⟨_, _, ⟨T32, L32, k32, n32⟩, -, X32, ⟨Lc32, hQ32, l32, y32, z32⟩, st32⟩ := X28.virtualBack hx (y := (⟨"java/util/Optional", "orElse", "(Ljava/lang/Object;)Ljava/lang/Object;"⟩ : MethodName)) (z := (⟨"java/util/Optional", "orElse", "(Ljava/lang/Object;)Ljava/lang/Object;"⟩ : MethodName)) hown27 (mvT hZ27 (W 112 rfl)) (mvT hZ27 (W 113 rfl)) (notFace_of_selects (args := #[]) (mvT hZ27 (W 115 rfl))) (mvT hZ27 (W 115 rfl)) (mvT hZ27 (W 114 rfl)) (by decide) (backOf (W := 0) (rmorB l Z a0 hw [] oo28 T28.heap n0 Z28 F_value_oo28) hZ27 (W 116 rfl) (W 109 rfl) (by decide) (by decide)) qa32 qc32 (g := (mkF m 260 #[.val (.int p1), .val (.int p2), .val (.int p3), .val (.int p4), .val (.int p5), .val (.int ((p1 &&& (2147483647 : Int32)) % (3 : Int32))), .val (.ref la2), .val (.ref wa), .val (.int (7 : Int32)), .val (.int nnl), .val (.int (p3 &&& (7 : Int32))), .val (.int (own_ch p5)), .val (.ref b7), .val (.int ((own_A0 (own_ch p5)).getD ((p3 &&& (7 : Int32))).toNatClampNeg 0)), .val (.int cch), .val (.ref ob27), .unset, .unset] [.null, (.ref oo28)])) rfl (by rw [hml]; rfl) (Steps.refl _) (argsL := [.null]) (rest := []) (lenOf pd_4 rfl) rfl (by show 2 * 0 + _ ≤ _; exact Nat.le_of_eq rfl) (hb hby at_260) (fun _ _ => ⟨rfl, rfl, (by decide : 11 + 0 ≤ _), (by decide : 64 + 0 ≤ _)⟩)
  dsimp only [Pt.U, Pt.locs, Pt.cells, Pt.slots] at X32 l32 y32 z32 st32 hQ32
  subst l32 y32 z32
  obtain ⟨rfl, N32q, e32⟩ := hQ32
  have N32 := Fr.app N28 N32q
  refine Gl.pre (fun _ k => st32.trans k) ?_
  refine Gl.pre (fun _ k => X32.checkcastNull hx (g := (mkF m 263 #[.val (.int p1), .val (.int p2), .val (.int p3), .val (.int p4), .val (.int p5), .val (.int ((p1 &&& (2147483647 : Int32)) % (3 : Int32))), .val (.ref la2), .val (.ref wa), .val (.int (7 : Int32)), .val (.int nnl), .val (.int (p3 &&& (7 : Int32))), .val (.int (own_ch p5)), .val (.ref b7), .val (.int ((own_A0 (own_ch p5)).getD ((p3 &&& (7 : Int32))).toNatClampNeg 0)), .val (.int cch), .val (.ref ob27), .unset, .unset] [.null])) rfl rfl (hb hby at_263) _ k) ?_
  show Gl p.tables e below PP (T32.setTop (mkF m 266 #[.val (.int p1), .val (.int p2), .val (.int p3), .val (.int p4), .val (.int p5), .val (.int ((p1 &&& (2147483647 : Int32)) % (3 : Int32))), .val (.ref la2), .val (.ref wa), .val (.int (7 : Int32)), .val (.int nnl), .val (.int (p3 &&& (7 : Int32))), .val (.int (own_ch p5)), .val (.ref b7), .val (.int ((own_A0 (own_ch p5)).getD ((p3 &&& (7 : Int32))).toNatClampNeg 0)), .val (.int cch), .val (.ref ob27), .unset, .unset] [.null]))
  refine Y.astore X32 hx (hb hby at_266) rfl rfl (l' := #[.val (.int p1), .val (.int p2), .val (.int p3), .val (.int p4), .val (.int p5), .val (.int ((p1 &&& (2147483647 : Int32)) % (3 : Int32))), .val (.ref la2), .val (.ref wa), .val (.int (7 : Int32)), .val (.int nnl), .val (.int (p3 &&& (7 : Int32))), .val (.int (own_ch p5)), .val (.ref b7), .val (.int ((own_A0 (own_ch p5)).getD ((p3 &&& (7 : Int32))).toNatClampNeg 0)), .val (.int cch), .val (.ref ob27), .val .null, .unset]) rfl ?_
  refine Y.iload X32 hx (hb hby at_268) rfl ?_
  refine Y.iload X32 hx (hb hby at_270) rfl ?_
  by_cases hc33 : nnl = (7 : Int32)
  refine Y.icmpNo X32 hx (hb hby at_272) rfl (teq hc33).2 ?_
  refine Y.iload X32 hx (hb hby at_275) rfl ?_
  refine Y.iload X32 hx (hb hby at_277) rfl ?_
  refine Y.icmpNo X32 hx (hb hby at_279) rfl (tlt (show (p3 &&& (7 : Int32)) < nnl from (by exact Decidable.byContradiction fun z => (fun z => q28_0 ((own_h0_0 (own_ch p5) cch (p3 &&& (7 : Int32)) nnl (own_p8d p3) hnnl).mpr z)) ⟨hc33, Or.inl z⟩))).2.1 ?_
  refine Y.iload X32 hx (hb hby at_282) rfl ?_
  refine Y.iload X32 hx (hb hby at_284) rfl ?_
  refine Y.icmpYes X32 hx (pc0 := 286) (pc' := 293) rfl (hb hby at_286) rfl (feq (show ¬ (cch = ((own_A0 (own_ch p5)).getD ((p3 &&& (7 : Int32))).toNatClampNeg 0)) from (fun z => (fun z => q28_0 ((own_h0_0 (own_ch p5) cch (p3 &&& (7 : Int32)) nnl (own_p8d p3) hnnl).mpr z)) ⟨hc33, Or.inr z⟩))).2 (by decide) (by decide) ?_
  refine Y.iconst X32 hx (hb hby at_293) ?_
  refine Y.istore X32 hx (hb hby at_294) rfl (l' := #[.val (.int p1), .val (.int p2), .val (.int p3), .val (.int p4), .val (.int p5), .val (.int ((p1 &&& (2147483647 : Int32)) % (3 : Int32))), .val (.ref la2), .val (.ref wa), .val (.int (7 : Int32)), .val (.int nnl), .val (.int (p3 &&& (7 : Int32))), .val (.int (own_ch p5)), .val (.ref b7), .val (.int ((own_A0 (own_ch p5)).getD ((p3 &&& (7 : Int32))).toNatClampNeg 0)), .val (.int cch), .val (.ref ob27), .val .null, .val (.int (0 : Int32))]) rfl ?_
  refine Y.iload X32 hx (hb hby at_296) rfl ?_
  refine Y.ifYes X32 hx (pc0 := 298) (pc' := 316) rfl (hb hby at_298) rfl ((if0 _ _).trans (teq (show (0 : Int32) = (0 : Int32) from (by decide))).1) (by decide) (by decide) ?_
  refine Y.aload X32 hx (hb hby at_316) rfl rfl ?_
  refine Y.ifnonnullNo X32 hx (hb hby at_318) rfl ?_
  refine Y.iconst X32 hx (hb hby at_321) ?_
  refine Y.goto X32 hx (pc0 := 322) (pc' := 326) rfl (hb hby at_322) (by decide) (by decide) ?_
  rw [hPP]
  refine own_finNW (Q := (Q0 Z p1 p2 p3 p4 p5 cs fo em va kv wa wb wc sa ta ka sb tb kb sc tc kc h0 n0)) (Z := Z) (EL := own_EL) X32 hx hlk hS27 (by rw [e32]; exact hk28) Bd.returns (t := .boolean) (z' := (1 : Int32)) (by simp) (by decide) (hb hby at_326) ?_ (by rw [hh, e32]; exact CR28.trans (CHv.at X32 hZ27 hEL CR28.1)) (by decide) (by decide)
  show Q0 Z p1 p2 p3 p4 p5 cs fo em va kv wa wb wc sa ta ka sb tb kb sc tc kc h0 n0 _ T32.heap _
  rw [e32]
  exact ⟨rfl, N32⟩
  refine Y.icmpYes X32 hx (pc0 := 272) (pc' := 293) rfl (hb hby at_272) rfl (feq hc33).2 (by decide) (by decide) ?_
  refine Y.iconst X32 hx (hb hby at_293) ?_
  refine Y.istore X32 hx (hb hby at_294) rfl (l' := #[.val (.int p1), .val (.int p2), .val (.int p3), .val (.int p4), .val (.int p5), .val (.int ((p1 &&& (2147483647 : Int32)) % (3 : Int32))), .val (.ref la2), .val (.ref wa), .val (.int (7 : Int32)), .val (.int nnl), .val (.int (p3 &&& (7 : Int32))), .val (.int (own_ch p5)), .val (.ref b7), .val (.int ((own_A0 (own_ch p5)).getD ((p3 &&& (7 : Int32))).toNatClampNeg 0)), .val (.int cch), .val (.ref ob27), .val .null, .val (.int (0 : Int32))]) rfl ?_
  refine Y.iload X32 hx (hb hby at_296) rfl ?_
  refine Y.ifYes X32 hx (pc0 := 298) (pc' := 316) rfl (hb hby at_298) rfl ((if0 _ _).trans (teq (show (0 : Int32) = (0 : Int32) from (by decide))).1) (by decide) (by decide) ?_
  refine Y.aload X32 hx (hb hby at_316) rfl rfl ?_
  refine Y.ifnonnullNo X32 hx (hb hby at_318) rfl ?_
  refine Y.iconst X32 hx (hb hby at_321) ?_
  refine Y.goto X32 hx (pc0 := 322) (pc' := 326) rfl (hb hby at_322) (by decide) (by decide) ?_
  rw [hPP]
  refine own_finNW (Q := (Q0 Z p1 p2 p3 p4 p5 cs fo em va kv wa wb wc sa ta ka sb tb kb sc tc kc h0 n0)) (Z := Z) (EL := own_EL) X32 hx hlk hS27 (by rw [e32]; exact hk28) Bd.returns (t := .boolean) (z' := (1 : Int32)) (by simp) (by decide) (hb hby at_326) ?_ (by rw [hh, e32]; exact CR28.trans (CHv.at X32 hZ27 hEL CR28.1)) (by decide) (by decide)
  show Q0 Z p1 p2 p3 p4 p5 cs fo em va kv wa wb wc sa ta ka sb tb kb sc tc kc h0 n0 _ T32.heap _
  rw [e32]
  exact ⟨rfl, N32⟩
  refine Y.ifYes X0 hx (pc0 := 10) (pc' := 18) rfl (hb hby at_10) rfl ((if0 _ _).trans (feq hc1).2) (by decide) (by decide) ?_
  refine Y.iload X0 hx (hb hby at_18) rfl ?_
  refine Y.iconst X0 hx (hb hby at_20) ?_
  by_cases hc34 : ((p1 &&& (2147483647 : Int32)) % (3 : Int32)) = (1 : Int32)
  refine Y.icmpNo X0 hx (hb hby at_21) rfl (teq hc34).2 ?_
  obtain ⟨la35, T35, h35, q35, lb35, kb35, X35, e35, E35, hS35, hk35, hZ35, hown35, Es35, Fc35, Fv35, Va35, -, -, CR35c, Li35, hne35, st35⟩ := ldcCH X0 hx hZ0 hown0 (W 122 rfl) (own_wS hw) e0 hS0 hk0 hEL (by simp [own_EL, consts_1]) CR0.1 (vs := [(109 : Int32), (97 : Int32), (114 : Int32), (99 : Int32), (120 : Int32), (109 : Int32), (108 : Int32)].map Value.int) (z := (7 : Int32)) ⟨by decide, by decide⟩ (by decide) (by decide) (g := (mkF m 24 #[.val (.int p1), .val (.int p2), .val (.int p3), .val (.int p4), .val (.int p5), .val (.int ((p1 &&& (2147483647 : Int32)) % (3 : Int32))), .unset, .unset, .unset, .unset, .unset, .unset, .unset, .unset, .unset, .unset, .unset, .unset] [])) rfl (hb hby at_24) (n := 28) (by decide) (by decide) (by decide) (by decide)
  refine Gl.pre (fun _ k => st35 _ k) ?_
  have O_ := O_.ext E35
  have CR35 := CR0.trans CR35c
  have Z35 : n0 ≤ h35.size := Nat.le_trans Z0 E35.1
  have V_lb35 : Bal Z h35 lb35 .byte [(109 : Int32), (97 : Int32), (114 : Int32), (99 : Int32), (120 : Int32), (109 : Int32), (108 : Int32)] := own_balOf Va35 (by decide)
  show Gl p.tables e below PP (T35.setTop (mkF m 26 #[.val (.int p1), .val (.int p2), .val (.int p3), .val (.int p4), .val (.int p5), .val (.int ((p1 &&& (2147483647 : Int32)) % (3 : Int32))), .unset, .unset, .unset, .unset, .unset, .unset, .unset, .unset, .unset, .unset, .unset, .unset] [(.ref la35)]))
  refine Y.goto X35 hx (pc0 := 26) (pc' := 31) rfl (hb hby at_26) (by decide) (by decide) ?_
  refine Y.astore X35 hx (hb hby at_31) rfl rfl (l' := #[.val (.int p1), .val (.int p2), .val (.int p3), .val (.int p4), .val (.int p5), .val (.int ((p1 &&& (2147483647 : Int32)) % (3 : Int32))), .val (.ref la35), .unset, .unset, .unset, .unset, .unset, .unset, .unset, .unset, .unset, .unset, .unset]) rfl ?_
  refine Y.iload X35 hx (hb hby at_33) rfl ?_
  refine Y.ifYes X35 hx (pc0 := 35) (pc' := 44) rfl (hb hby at_35) rfl ((if0 _ _).trans (feq (show ¬ (((p1 &&& (2147483647 : Int32)) % (3 : Int32)) = (0 : Int32)) from hc1)).2) (by decide) (by decide) ?_
  refine Y.iload X35 hx (hb hby at_44) rfl ?_
  refine Y.iconst X35 hx (hb hby at_46) ?_
  refine Y.icmpNo X35 hx (hb hby at_47) rfl (teq (show ((p1 &&& (2147483647 : Int32)) % (3 : Int32)) = (1 : Int32) from hc34)).2 ?_
  obtain ⟨T36, X36, e36, st36⟩ := getS2 X35 hx hZ35 hown35 (host := "") (Or.inl (W 123 rfl)) Via.refl e35 (SIB.ext O_.2) (g := (mkF m 50 #[.val (.int p1), .val (.int p2), .val (.int p3), .val (.int p4), .val (.int p5), .val (.int ((p1 &&& (2147483647 : Int32)) % (3 : Int32))), .val (.ref la35), .unset, .unset, .unset, .unset, .unset, .unset, .unset, .unset, .unset, .unset, .unset] [])) rfl (hb hby at_50)
  refine Gl.pre (fun _ k => st36 _ k) ?_
  refine Y.goto X36 hx (pc0 := 53) (pc' := 59) rfl (hb hby at_53) (by decide) (by decide) ?_
  refine Y.astore X36 hx (hb hby at_59) rfl rfl (l' := #[.val (.int p1), .val (.int p2), .val (.int p3), .val (.int p4), .val (.int p5), .val (.int ((p1 &&& (2147483647 : Int32)) % (3 : Int32))), .val (.ref la35), .val (.ref wb), .unset, .unset, .unset, .unset, .unset, .unset, .unset, .unset, .unset, .unset]) rfl ?_
  refine Y.aload X36 hx (hb hby at_61) rfl rfl ?_
  obtain ⟨cq37, kq37, qa37, qb37, qc37⟩ := isOf hZ35 e36 Es35
  obtain ⟨_, _, ⟨T37, L37, k37, n37⟩, -, X37, ⟨Lc37, hQ37, l37, y37, z37⟩, st37⟩ := X36.virtualBack hx (y := (⟨"java/lang/String", "length", "()I"⟩ : MethodName)) (z := (⟨"java/lang/String", "length", "()I"⟩ : MethodName)) hown35 (mvT hZ35 (W 12 rfl)) (mvT hZ35 (W 13 rfl)) (notFace_of_selects (args := #[]) (mvT hZ35 (W 15 rfl))) (mvT hZ35 (W 15 rfl)) (mvT hZ35 (W 14 rfl)) (by decide) (StrChars.Road.lenW (W := 0) hZ35 hwwordsLen (kI := 4) (W 3 rfl) Es35 Fv35 Fc35 Va35 own_Tc1 own_Tb1 (SBC.ext O_.2) hcs (by decide) (by decide) (by decide)) qa37 qc37 (g := (mkF m 63 #[.val (.int p1), .val (.int p2), .val (.int p3), .val (.int p4), .val (.int p5), .val (.int ((p1 &&& (2147483647 : Int32)) % (3 : Int32))), .val (.ref la35), .val (.ref wb), .unset, .unset, .unset, .unset, .unset, .unset, .unset, .unset, .unset, .unset] [(.ref la35)])) rfl (by rw [hml]; rfl) (Steps.refl _) (argsL := []) (rest := []) (lenOf pd_0 rfl) rfl (by show 2 * 0 + _ ≤ _; exact Nat.le_of_eq rfl) (hb hby at_63) (fun _ _ => ⟨rfl, e36, (by decide : 2 + 0 ≤ _), (by decide : 32 + 0 ≤ _)⟩)
  dsimp only [Pt.U, Pt.locs, Pt.cells, Pt.slots] at X37 l37 y37 z37 st37 hQ37
  subst l37 y37 z37
  obtain ⟨rfl, rfl, e37⟩ := hQ37
  have N37 := Fr.app N0 (Fr.nil n0)
  refine Gl.pre (fun _ k => st37.trans k) ?_
  show Gl p.tables e below PP (T37.setTop (mkF m 66 #[.val (.int p1), .val (.int p2), .val (.int p3), .val (.int p4), .val (.int p5), .val (.int ((p1 &&& (2147483647 : Int32)) % (3 : Int32))), .val (.ref la35), .val (.ref wb), .unset, .unset, .unset, .unset, .unset, .unset, .unset, .unset, .unset, .unset] [(.int (Int32.ofNat own_T1.length))]))
  rw [show (Int32.ofNat own_T1.length) = (7 : Int32) by decide]
  show Gl p.tables e below PP (T37.setTop (mkF m 66 #[.val (.int p1), .val (.int p2), .val (.int p3), .val (.int p4), .val (.int p5), .val (.int ((p1 &&& (2147483647 : Int32)) % (3 : Int32))), .val (.ref la35), .val (.ref wb), .unset, .unset, .unset, .unset, .unset, .unset, .unset, .unset, .unset, .unset] [(.int (7 : Int32))]))
  refine Y.istore X37 hx (hb hby at_66) rfl (l' := #[.val (.int p1), .val (.int p2), .val (.int p3), .val (.int p4), .val (.int p5), .val (.int ((p1 &&& (2147483647 : Int32)) % (3 : Int32))), .val (.ref la35), .val (.ref wb), .val (.int (7 : Int32)), .unset, .unset, .unset, .unset, .unset, .unset, .unset, .unset, .unset]) rfl ?_
  suffices J38 : ∀ nnl : Int32, nnl = (0 : Int32) ∨ nnl = (1 : Int32) ∨ nnl = (2 : Int32) ∨ nnl = (3 : Int32) ∨ nnl = (4 : Int32) ∨ nnl = (5 : Int32) ∨ nnl = (6 : Int32) ∨ nnl = (7 : Int32) ∨ nnl = (8 : Int32) → Gl p.tables e below PP (T37.setTop (mkF m 89 #[.val (.int p1), .val (.int p2), .val (.int p3), .val (.int p4), .val (.int p5), .val (.int ((p1 &&& (2147483647 : Int32)) % (3 : Int32))), .val (.ref la35), .val (.ref wb), .val (.int (7 : Int32)), .val (.int nnl), .unset, .unset, .unset, .unset, .unset, .unset, .unset, .unset] [])) by
   refine Y.iloadN X37 hx (hb hby at_68) rfl ?_
   refine Y.bipush X37 hx (hb hby at_69) ?_
   refine Y.iand X37 hx (hb hby at_71) rfl ?_
   by_cases hc39 : (p2 &&& (16 : Int32)) = (0 : Int32)
   refine Y.ifYes X37 hx (pc0 := 72) (pc' := 80) rfl (hb hby at_72) rfl ((if0 _ _).trans (teq hc39).1) (by decide) (by decide) ?_
   refine Y.iloadN X37 hx (hb hby at_80) rfl ?_
   refine Y.bipush X37 hx (hb hby at_81) ?_
   refine Y.iand X37 hx (hb hby at_83) rfl ?_
   refine Y.bipush X37 hx (hb hby at_84) ?_
   refine Gl.pre (fun _ k => iremM X37 hx rfl (hb hby at_86) rfl (by decide) k) ?_
   refine Y.istore X37 hx (hb hby at_87) rfl (l' := #[.val (.int p1), .val (.int p2), .val (.int p3), .val (.int p4), .val (.int p5), .val (.int ((p1 &&& (2147483647 : Int32)) % (3 : Int32))), .val (.ref la35), .val (.ref wb), .val (.int (7 : Int32)), .val (.int ((p2 &&& (15 : Int32)) % (9 : Int32))), .unset, .unset, .unset, .unset, .unset, .unset, .unset, .unset]) rfl ?_
   exact J38 _ (own_n9 p2)
   refine Y.ifNo X37 hx (hb hby at_72) rfl ((if0 _ _).trans (feq hc39).1) ?_
   refine Y.iload X37 hx (hb hby at_75) rfl ?_
   refine Y.goto X37 hx (pc0 := 77) (pc' := 87) rfl (hb hby at_77) (by decide) (by decide) ?_
   refine Y.istore X37 hx (hb hby at_87) rfl (l' := #[.val (.int p1), .val (.int p2), .val (.int p3), .val (.int p4), .val (.int p5), .val (.int ((p1 &&& (2147483647 : Int32)) % (3 : Int32))), .val (.ref la35), .val (.ref wb), .val (.int (7 : Int32)), .val (.int (7 : Int32)), .unset, .unset, .unset, .unset, .unset, .unset, .unset, .unset]) rfl ?_
   exact J38 _ (by decide)
  intro nnl hnnl
  show Gl p.tables e below PP (T37.setTop (mkF m 89 #[.val (.int p1), .val (.int p2), .val (.int p3), .val (.int p4), .val (.int p5), .val (.int ((p1 &&& (2147483647 : Int32)) % (3 : Int32))), .val (.ref la35), .val (.ref wb), .val (.int (7 : Int32)), .val (.int nnl), .unset, .unset, .unset, .unset, .unset, .unset, .unset, .unset] []))
  refine Y.iloadN X37 hx (hb hby at_89) rfl ?_
  refine Y.bipush X37 hx (hb hby at_90) ?_
  refine Y.iand X37 hx (hb hby at_92) rfl ?_
  refine Y.istore X37 hx (hb hby at_93) rfl (l' := #[.val (.int p1), .val (.int p2), .val (.int p3), .val (.int p4), .val (.int p5), .val (.int ((p1 &&& (2147483647 : Int32)) % (3 : Int32))), .val (.ref la35), .val (.ref wb), .val (.int (7 : Int32)), .val (.int nnl), .val (.int (p3 &&& (7 : Int32))), .unset, .unset, .unset, .unset, .unset, .unset, .unset]) rfl ?_
  refine Y.iload X37 hx (hb hby at_95) rfl ?_
  refine Y.sipush X37 hx (hb hby at_97) ?_
  refine Y.iand X37 hx (hb hby at_100) rfl ?_
  refine Y.i2c X37 hx (hb hby at_101) rfl ?_
  show Gl p.tables e below PP (T37.setTop (mkF m 102 #[.val (.int p1), .val (.int p2), .val (.int p3), .val (.int p4), .val (.int p5), .val (.int ((p1 &&& (2147483647 : Int32)) % (3 : Int32))), .val (.ref la35), .val (.ref wb), .val (.int (7 : Int32)), .val (.int nnl), .val (.int (p3 &&& (7 : Int32))), .unset, .unset, .unset, .unset, .unset, .unset, .unset] [(.int (own_ch p5))]))
  refine Y.istore X37 hx (hb hby at_102) rfl (l' := #[.val (.int p1), .val (.int p2), .val (.int p3), .val (.int p4), .val (.int p5), .val (.int ((p1 &&& (2147483647 : Int32)) % (3 : Int32))), .val (.ref la35), .val (.ref wb), .val (.int (7 : Int32)), .val (.int nnl), .val (.int (p3 &&& (7 : Int32))), .val (.int (own_ch p5)), .unset, .unset, .unset, .unset, .unset, .unset]) rfl ?_
  refine Y.bipush X37 hx (hb hby at_104) ?_
  obtain ⟨T40, h40, k40, X40, e40, E40, A40, st40⟩ := newP X37 hx hZ35 (W 25 rfl) e37 (g := (mkF m 106 #[.val (.int p1), .val (.int p2), .val (.int p3), .val (.int p4), .val (.int p5), .val (.int ((p1 &&& (2147483647 : Int32)) % (3 : Int32))), .val (.ref la35), .val (.ref wb), .val (.int (7 : Int32)), .val (.int nnl), .val (.int (p3 &&& (7 : Int32))), .val (.int (own_ch p5)), .unset, .unset, .unset, .unset, .unset, .unset] [(.int (8 : Int32))])) rfl (hb hby at_106) rfl (by decide) (cap := 8) (by decide) (by decide) (by decide) (by decide)
  obtain ⟨b40, g40⟩ : ∃ z, z = h35.size := ⟨_, rfl⟩
  rw [← g40] at A40 st40
  refine Gl.pre (fun _ k => st40 _ k) ?_
  have own_ne_lb35_b40 : lb35 ≠ b40 := by have q := Va35.lt; rw [g40]; exact Nat.ne_of_lt q
  have own_ne_b40_lb35 : b40 ≠ lb35 := own_ne_lb35_b40.symm
  have own_ne_la35_b40 : la35 ≠ b40 := by have q := Es35.lt; rw [g40]; exact Nat.ne_of_lt q
  have own_ne_b40_la35 : b40 ≠ la35 := own_ne_la35_b40.symm
  have g_b40 : n0 ≤ b40 := Nat.le_trans Z35 (Nat.le_of_eq g40.symm)
  have Sf_b40 := Safe.ext E40 CR35.1 (Safe.new (Z := Z) (EL := own_EL) (vm := T35.vm) (Nat.le_of_eq g40.symm))
  have CR40 := CR35.trans (CHr.ext E40 CR35.1)
  have O_ := O_.ext E40
  have Va35 := Va35.ext E40
  have Es35 := Es35.ext E40
  have Fc35 := Fc35.ext E40
  have Fv35 := Fv35.ext E40
  have V_lb35 := V_lb35.ext E40
  have Z40 : n0 ≤ h40.size := Nat.le_trans Z35 E40.1
  have hk40 := Nat.le_trans hk35 E40.1
  have V_b40 : Bal Z h40 b40 .char [(0 : Int32), (0 : Int32), (0 : Int32), (0 : Int32), (0 : Int32), (0 : Int32), (0 : Int32), (0 : Int32)] := Bal.new (ty := .char) A40 (n := 8) (by decide) rfl
  refine Y.astore X40 hx (hb hby at_108) rfl rfl (l' := #[.val (.int p1), .val (.int p2), .val (.int p3), .val (.int p4), .val (.int p5), .val (.int ((p1 &&& (2147483647 : Int32)) % (3 : Int32))), .val (.ref la35), .val (.ref wb), .val (.int (7 : Int32)), .val (.int nnl), .val (.int (p3 &&& (7 : Int32))), .val (.int (own_ch p5)), .val (.ref b40), .unset, .unset, .unset, .unset, .unset]) rfl ?_
  refine Y.aload X40 hx (hb hby at_110) rfl rfl ?_
  refine Y.iconst X40 hx (hb hby at_112) ?_
  refine Y.aload X40 hx (hb hby at_113) rfl rfl ?_
  refine Y.iconst X40 hx (hb hby at_115) ?_
  refine Y.iload X40 hx (hb hby at_116) rfl ?_
  obtain ⟨_, _, ⟨T41, L41, k41, n41⟩, -, X41, ⟨Lc41, hQ41, l41, y41, z41⟩, st41⟩ := Jvm.LawKit.callS X40 hx (y := (⟨"com/example/marcasite/marcasite/marc/CarrierNamedPinLaw", "at", "(Ljava/lang/String;IC)C"⟩ : MethodName)) hown35 (mvT hZ35 (W 26 rfl)) (mvT hZ35 (W 27 rfl)) (mvT hZ35 (W 28 rfl)) (mvT hZ35 (W 29 rfl)) (by decide) (backOf (W := 2) (rm3 l Z a0 hw [] la35 (0 : Int32) (own_ch p5) cs fo lb35 kb35 own_T1 _ _ h40 n0 Z40 Es35 Fv35 Fc35 Va35 own_Tc1 own_Tb1 own_Tr1 (by decide) (by decide) (own_chr p5) SBC hcs SFO hfo O_) hZ35 (W 29 rfl) (W 28 rfl) (by decide) (by decide)) (g := (mkF m 118 #[.val (.int p1), .val (.int p2), .val (.int p3), .val (.int p4), .val (.int p5), .val (.int ((p1 &&& (2147483647 : Int32)) % (3 : Int32))), .val (.ref la35), .val (.ref wb), .val (.int (7 : Int32)), .val (.int nnl), .val (.int (p3 &&& (7 : Int32))), .val (.int (own_ch p5)), .val (.ref b40), .unset, .unset, .unset, .unset, .unset] [(.int (own_ch p5)), (.int (0 : Int32)), (.ref la35), (.int (0 : Int32)), (.ref b40)])) rfl (by rw [hml]; rfl) (argsL := [(.ref la35), (.int (0 : Int32)), (.int (own_ch p5))]) (rest := [(.int (0 : Int32)), (.ref b40)]) (lenOf pd_10 rfl) rfl (by show 2 * 0 + _ ≤ _; exact Nat.le_of_eq rfl) (hb hby at_118) (fun _ _ => ⟨rfl, e40, (by decide : 3 + 0 ≤ _), (by decide : 40 + 0 ≤ _)⟩)
  dsimp only [Pt.U, Pt.locs, Pt.cells, Pt.slots] at X41 l41 y41 z41 st41 hQ41
  subst l41 y41 z41
  obtain ⟨rfl, N41q, e41⟩ := hQ41
  have N41 := Fr.app N37 N41q
  refine Gl.pre (fun _ k => st41 _ k) ?_
  obtain ⟨T42, h42, X42, e42, W42, V42, st42⟩ := own_stC X41 hx hZ35 e41 V_b40 (j := (0 : Int32)) (i := 0) (by decide) (by decide) (Nat.lt_of_lt_of_eq (by decide : 0 < 8) rfl) (g := (mkF m 121 #[.val (.int p1), .val (.int p2), .val (.int p3), .val (.int p4), .val (.int p5), .val (.int ((p1 &&& (2147483647 : Int32)) % (3 : Int32))), .val (.ref la35), .val (.ref wb), .val (.int (7 : Int32)), .val (.int nnl), .val (.int (p3 &&& (7 : Int32))), .val (.int (own_ch p5)), .val (.ref b40), .unset, .unset, .unset, .unset, .unset] [(.int (own_at own_T1 (0 : Int32) (own_ch p5))), (.int (0 : Int32)), (.ref b40)])) rfl rfl (hb hby at_121)
  refine Gl.pre (fun _ k => st42 _ k) ?_
  have CR42 := CR40.trans (CHr.wr W42 Sf_b40 CR40.1)
  have Sf_b40 := Safe.wr W42 Sf_b40 CR40.1 Sf_b40
  have O_ := O_.wr W42 g_b40
  have Va35 := Va35.other W42 (own_ne_lb35_b40)
  have Es35 := Es35.wr W42
  have Fc35 := Fc35.other W42 (Or.inl (own_ne_la35_b40))
  have Fv35 := Fv35.other W42 (Or.inl (own_ne_la35_b40))
  have V_lb35 := V_lb35.other W42 (own_ne_lb35_b40)
  have Z42 : n0 ≤ h42.size := by rw [W42.size]; exact Z40
  have hk42 := Nat.le_trans hk40 (Nat.le_of_eq W42.size.symm)
  have N42 := Fr.snoc X42 N41 g_b40
  have V_b40 : Bal Z h42 b40 .char [(nar .char (own_at own_T1 (0 : Int32) (own_ch p5))), (0 : Int32), (0 : Int32), (0 : Int32), (0 : Int32), (0 : Int32), (0 : Int32), (0 : Int32)] := V42
  refine Y.aload X42 hx (hb hby at_122) rfl rfl ?_
  refine Y.iconst X42 hx (hb hby at_124) ?_
  refine Y.aload X42 hx (hb hby at_125) rfl rfl ?_
  refine Y.iconst X42 hx (hb hby at_127) ?_
  refine Y.iload X42 hx (hb hby at_128) rfl ?_
  obtain ⟨_, _, ⟨T43, L43, k43, n43⟩, -, X43, ⟨Lc43, hQ43, l43, y43, z43⟩, st43⟩ := Jvm.LawKit.callS X42 hx (y := (⟨"com/example/marcasite/marcasite/marc/CarrierNamedPinLaw", "at", "(Ljava/lang/String;IC)C"⟩ : MethodName)) hown35 (mvT hZ35 (W 26 rfl)) (mvT hZ35 (W 27 rfl)) (mvT hZ35 (W 28 rfl)) (mvT hZ35 (W 29 rfl)) (by decide) (backOf (W := 2) (rm3 l Z a0 hw [] la35 (1 : Int32) (own_ch p5) cs fo lb35 kb35 own_T1 _ _ h42 n0 Z42 Es35 Fv35 Fc35 Va35 own_Tc1 own_Tb1 own_Tr1 (by decide) (by decide) (own_chr p5) SBC hcs SFO hfo O_) hZ35 (W 29 rfl) (W 28 rfl) (by decide) (by decide)) (g := (mkF m 130 #[.val (.int p1), .val (.int p2), .val (.int p3), .val (.int p4), .val (.int p5), .val (.int ((p1 &&& (2147483647 : Int32)) % (3 : Int32))), .val (.ref la35), .val (.ref wb), .val (.int (7 : Int32)), .val (.int nnl), .val (.int (p3 &&& (7 : Int32))), .val (.int (own_ch p5)), .val (.ref b40), .unset, .unset, .unset, .unset, .unset] [(.int (own_ch p5)), (.int (1 : Int32)), (.ref la35), (.int (1 : Int32)), (.ref b40)])) rfl (by rw [hml]; rfl) (argsL := [(.ref la35), (.int (1 : Int32)), (.int (own_ch p5))]) (rest := [(.int (1 : Int32)), (.ref b40)]) (lenOf pd_10 rfl) rfl (by show 2 * 0 + _ ≤ _; exact Nat.le_of_eq rfl) (hb hby at_130) (fun _ _ => ⟨rfl, e42, (by decide : 3 + 0 ≤ _), (by decide : 40 + 0 ≤ _)⟩)
  dsimp only [Pt.U, Pt.locs, Pt.cells, Pt.slots] at X43 l43 y43 z43 st43 hQ43
  subst l43 y43 z43
  obtain ⟨rfl, N43q, e43⟩ := hQ43
  have N43 := Fr.app N42 N43q
  refine Gl.pre (fun _ k => st43 _ k) ?_
  obtain ⟨T44, h44, X44, e44, W44, V44, st44⟩ := own_stC X43 hx hZ35 e43 V_b40 (j := (1 : Int32)) (i := 1) (by decide) (by decide) (Nat.lt_of_lt_of_eq (by decide : 1 < 8) rfl) (g := (mkF m 133 #[.val (.int p1), .val (.int p2), .val (.int p3), .val (.int p4), .val (.int p5), .val (.int ((p1 &&& (2147483647 : Int32)) % (3 : Int32))), .val (.ref la35), .val (.ref wb), .val (.int (7 : Int32)), .val (.int nnl), .val (.int (p3 &&& (7 : Int32))), .val (.int (own_ch p5)), .val (.ref b40), .unset, .unset, .unset, .unset, .unset] [(.int (own_at own_T1 (1 : Int32) (own_ch p5))), (.int (1 : Int32)), (.ref b40)])) rfl rfl (hb hby at_133)
  refine Gl.pre (fun _ k => st44 _ k) ?_
  have CR44 := CR42.trans (CHr.wr W44 Sf_b40 CR42.1)
  have Sf_b40 := Safe.wr W44 Sf_b40 CR42.1 Sf_b40
  have O_ := O_.wr W44 g_b40
  have Va35 := Va35.other W44 (own_ne_lb35_b40)
  have Es35 := Es35.wr W44
  have Fc35 := Fc35.other W44 (Or.inl (own_ne_la35_b40))
  have Fv35 := Fv35.other W44 (Or.inl (own_ne_la35_b40))
  have V_lb35 := V_lb35.other W44 (own_ne_lb35_b40)
  have Z44 : n0 ≤ h44.size := by rw [W44.size]; exact Z42
  have hk44 := Nat.le_trans hk42 (Nat.le_of_eq W44.size.symm)
  have N44 := Fr.snoc X44 N43 g_b40
  have V_b40 : Bal Z h44 b40 .char [(nar .char (own_at own_T1 (0 : Int32) (own_ch p5))), (nar .char (own_at own_T1 (1 : Int32) (own_ch p5))), (0 : Int32), (0 : Int32), (0 : Int32), (0 : Int32), (0 : Int32), (0 : Int32)] := V44
  refine Y.aload X44 hx (hb hby at_134) rfl rfl ?_
  refine Y.iconst X44 hx (hb hby at_136) ?_
  refine Y.aload X44 hx (hb hby at_137) rfl rfl ?_
  refine Y.iconst X44 hx (hb hby at_139) ?_
  refine Y.iload X44 hx (hb hby at_140) rfl ?_
  obtain ⟨_, _, ⟨T45, L45, k45, n45⟩, -, X45, ⟨Lc45, hQ45, l45, y45, z45⟩, st45⟩ := Jvm.LawKit.callS X44 hx (y := (⟨"com/example/marcasite/marcasite/marc/CarrierNamedPinLaw", "at", "(Ljava/lang/String;IC)C"⟩ : MethodName)) hown35 (mvT hZ35 (W 26 rfl)) (mvT hZ35 (W 27 rfl)) (mvT hZ35 (W 28 rfl)) (mvT hZ35 (W 29 rfl)) (by decide) (backOf (W := 2) (rm3 l Z a0 hw [] la35 (2 : Int32) (own_ch p5) cs fo lb35 kb35 own_T1 _ _ h44 n0 Z44 Es35 Fv35 Fc35 Va35 own_Tc1 own_Tb1 own_Tr1 (by decide) (by decide) (own_chr p5) SBC hcs SFO hfo O_) hZ35 (W 29 rfl) (W 28 rfl) (by decide) (by decide)) (g := (mkF m 142 #[.val (.int p1), .val (.int p2), .val (.int p3), .val (.int p4), .val (.int p5), .val (.int ((p1 &&& (2147483647 : Int32)) % (3 : Int32))), .val (.ref la35), .val (.ref wb), .val (.int (7 : Int32)), .val (.int nnl), .val (.int (p3 &&& (7 : Int32))), .val (.int (own_ch p5)), .val (.ref b40), .unset, .unset, .unset, .unset, .unset] [(.int (own_ch p5)), (.int (2 : Int32)), (.ref la35), (.int (2 : Int32)), (.ref b40)])) rfl (by rw [hml]; rfl) (argsL := [(.ref la35), (.int (2 : Int32)), (.int (own_ch p5))]) (rest := [(.int (2 : Int32)), (.ref b40)]) (lenOf pd_10 rfl) rfl (by show 2 * 0 + _ ≤ _; exact Nat.le_of_eq rfl) (hb hby at_142) (fun _ _ => ⟨rfl, e44, (by decide : 3 + 0 ≤ _), (by decide : 40 + 0 ≤ _)⟩)
  dsimp only [Pt.U, Pt.locs, Pt.cells, Pt.slots] at X45 l45 y45 z45 st45 hQ45
  subst l45 y45 z45
  obtain ⟨rfl, N45q, e45⟩ := hQ45
  have N45 := Fr.app N44 N45q
  refine Gl.pre (fun _ k => st45 _ k) ?_
  obtain ⟨T46, h46, X46, e46, W46, V46, st46⟩ := own_stC X45 hx hZ35 e45 V_b40 (j := (2 : Int32)) (i := 2) (by decide) (by decide) (Nat.lt_of_lt_of_eq (by decide : 2 < 8) rfl) (g := (mkF m 145 #[.val (.int p1), .val (.int p2), .val (.int p3), .val (.int p4), .val (.int p5), .val (.int ((p1 &&& (2147483647 : Int32)) % (3 : Int32))), .val (.ref la35), .val (.ref wb), .val (.int (7 : Int32)), .val (.int nnl), .val (.int (p3 &&& (7 : Int32))), .val (.int (own_ch p5)), .val (.ref b40), .unset, .unset, .unset, .unset, .unset] [(.int (own_at own_T1 (2 : Int32) (own_ch p5))), (.int (2 : Int32)), (.ref b40)])) rfl rfl (hb hby at_145)
  refine Gl.pre (fun _ k => st46 _ k) ?_
  have CR46 := CR44.trans (CHr.wr W46 Sf_b40 CR44.1)
  have Sf_b40 := Safe.wr W46 Sf_b40 CR44.1 Sf_b40
  have O_ := O_.wr W46 g_b40
  have Va35 := Va35.other W46 (own_ne_lb35_b40)
  have Es35 := Es35.wr W46
  have Fc35 := Fc35.other W46 (Or.inl (own_ne_la35_b40))
  have Fv35 := Fv35.other W46 (Or.inl (own_ne_la35_b40))
  have V_lb35 := V_lb35.other W46 (own_ne_lb35_b40)
  have Z46 : n0 ≤ h46.size := by rw [W46.size]; exact Z44
  have hk46 := Nat.le_trans hk44 (Nat.le_of_eq W46.size.symm)
  have N46 := Fr.snoc X46 N45 g_b40
  have V_b40 : Bal Z h46 b40 .char [(nar .char (own_at own_T1 (0 : Int32) (own_ch p5))), (nar .char (own_at own_T1 (1 : Int32) (own_ch p5))), (nar .char (own_at own_T1 (2 : Int32) (own_ch p5))), (0 : Int32), (0 : Int32), (0 : Int32), (0 : Int32), (0 : Int32)] := V46
  refine Y.aload X46 hx (hb hby at_146) rfl rfl ?_
  refine Y.iconst X46 hx (hb hby at_148) ?_
  refine Y.aload X46 hx (hb hby at_149) rfl rfl ?_
  refine Y.iconst X46 hx (hb hby at_151) ?_
  refine Y.iload X46 hx (hb hby at_152) rfl ?_
  obtain ⟨_, _, ⟨T47, L47, k47, n47⟩, -, X47, ⟨Lc47, hQ47, l47, y47, z47⟩, st47⟩ := Jvm.LawKit.callS X46 hx (y := (⟨"com/example/marcasite/marcasite/marc/CarrierNamedPinLaw", "at", "(Ljava/lang/String;IC)C"⟩ : MethodName)) hown35 (mvT hZ35 (W 26 rfl)) (mvT hZ35 (W 27 rfl)) (mvT hZ35 (W 28 rfl)) (mvT hZ35 (W 29 rfl)) (by decide) (backOf (W := 2) (rm3 l Z a0 hw [] la35 (3 : Int32) (own_ch p5) cs fo lb35 kb35 own_T1 _ _ h46 n0 Z46 Es35 Fv35 Fc35 Va35 own_Tc1 own_Tb1 own_Tr1 (by decide) (by decide) (own_chr p5) SBC hcs SFO hfo O_) hZ35 (W 29 rfl) (W 28 rfl) (by decide) (by decide)) (g := (mkF m 154 #[.val (.int p1), .val (.int p2), .val (.int p3), .val (.int p4), .val (.int p5), .val (.int ((p1 &&& (2147483647 : Int32)) % (3 : Int32))), .val (.ref la35), .val (.ref wb), .val (.int (7 : Int32)), .val (.int nnl), .val (.int (p3 &&& (7 : Int32))), .val (.int (own_ch p5)), .val (.ref b40), .unset, .unset, .unset, .unset, .unset] [(.int (own_ch p5)), (.int (3 : Int32)), (.ref la35), (.int (3 : Int32)), (.ref b40)])) rfl (by rw [hml]; rfl) (argsL := [(.ref la35), (.int (3 : Int32)), (.int (own_ch p5))]) (rest := [(.int (3 : Int32)), (.ref b40)]) (lenOf pd_10 rfl) rfl (by show 2 * 0 + _ ≤ _; exact Nat.le_of_eq rfl) (hb hby at_154) (fun _ _ => ⟨rfl, e46, (by decide : 3 + 0 ≤ _), (by decide : 40 + 0 ≤ _)⟩)
  dsimp only [Pt.U, Pt.locs, Pt.cells, Pt.slots] at X47 l47 y47 z47 st47 hQ47
  subst l47 y47 z47
  obtain ⟨rfl, N47q, e47⟩ := hQ47
  have N47 := Fr.app N46 N47q
  refine Gl.pre (fun _ k => st47 _ k) ?_
  obtain ⟨T48, h48, X48, e48, W48, V48, st48⟩ := own_stC X47 hx hZ35 e47 V_b40 (j := (3 : Int32)) (i := 3) (by decide) (by decide) (Nat.lt_of_lt_of_eq (by decide : 3 < 8) rfl) (g := (mkF m 157 #[.val (.int p1), .val (.int p2), .val (.int p3), .val (.int p4), .val (.int p5), .val (.int ((p1 &&& (2147483647 : Int32)) % (3 : Int32))), .val (.ref la35), .val (.ref wb), .val (.int (7 : Int32)), .val (.int nnl), .val (.int (p3 &&& (7 : Int32))), .val (.int (own_ch p5)), .val (.ref b40), .unset, .unset, .unset, .unset, .unset] [(.int (own_at own_T1 (3 : Int32) (own_ch p5))), (.int (3 : Int32)), (.ref b40)])) rfl rfl (hb hby at_157)
  refine Gl.pre (fun _ k => st48 _ k) ?_
  have CR48 := CR46.trans (CHr.wr W48 Sf_b40 CR46.1)
  have Sf_b40 := Safe.wr W48 Sf_b40 CR46.1 Sf_b40
  have O_ := O_.wr W48 g_b40
  have Va35 := Va35.other W48 (own_ne_lb35_b40)
  have Es35 := Es35.wr W48
  have Fc35 := Fc35.other W48 (Or.inl (own_ne_la35_b40))
  have Fv35 := Fv35.other W48 (Or.inl (own_ne_la35_b40))
  have V_lb35 := V_lb35.other W48 (own_ne_lb35_b40)
  have Z48 : n0 ≤ h48.size := by rw [W48.size]; exact Z46
  have hk48 := Nat.le_trans hk46 (Nat.le_of_eq W48.size.symm)
  have N48 := Fr.snoc X48 N47 g_b40
  have V_b40 : Bal Z h48 b40 .char [(nar .char (own_at own_T1 (0 : Int32) (own_ch p5))), (nar .char (own_at own_T1 (1 : Int32) (own_ch p5))), (nar .char (own_at own_T1 (2 : Int32) (own_ch p5))), (nar .char (own_at own_T1 (3 : Int32) (own_ch p5))), (0 : Int32), (0 : Int32), (0 : Int32), (0 : Int32)] := V48
  refine Y.aload X48 hx (hb hby at_158) rfl rfl ?_
  refine Y.iconst X48 hx (hb hby at_160) ?_
  refine Y.aload X48 hx (hb hby at_161) rfl rfl ?_
  refine Y.iconst X48 hx (hb hby at_163) ?_
  refine Y.iload X48 hx (hb hby at_164) rfl ?_
  obtain ⟨_, _, ⟨T49, L49, k49, n49⟩, -, X49, ⟨Lc49, hQ49, l49, y49, z49⟩, st49⟩ := Jvm.LawKit.callS X48 hx (y := (⟨"com/example/marcasite/marcasite/marc/CarrierNamedPinLaw", "at", "(Ljava/lang/String;IC)C"⟩ : MethodName)) hown35 (mvT hZ35 (W 26 rfl)) (mvT hZ35 (W 27 rfl)) (mvT hZ35 (W 28 rfl)) (mvT hZ35 (W 29 rfl)) (by decide) (backOf (W := 2) (rm3 l Z a0 hw [] la35 (4 : Int32) (own_ch p5) cs fo lb35 kb35 own_T1 _ _ h48 n0 Z48 Es35 Fv35 Fc35 Va35 own_Tc1 own_Tb1 own_Tr1 (by decide) (by decide) (own_chr p5) SBC hcs SFO hfo O_) hZ35 (W 29 rfl) (W 28 rfl) (by decide) (by decide)) (g := (mkF m 166 #[.val (.int p1), .val (.int p2), .val (.int p3), .val (.int p4), .val (.int p5), .val (.int ((p1 &&& (2147483647 : Int32)) % (3 : Int32))), .val (.ref la35), .val (.ref wb), .val (.int (7 : Int32)), .val (.int nnl), .val (.int (p3 &&& (7 : Int32))), .val (.int (own_ch p5)), .val (.ref b40), .unset, .unset, .unset, .unset, .unset] [(.int (own_ch p5)), (.int (4 : Int32)), (.ref la35), (.int (4 : Int32)), (.ref b40)])) rfl (by rw [hml]; rfl) (argsL := [(.ref la35), (.int (4 : Int32)), (.int (own_ch p5))]) (rest := [(.int (4 : Int32)), (.ref b40)]) (lenOf pd_10 rfl) rfl (by show 2 * 0 + _ ≤ _; exact Nat.le_of_eq rfl) (hb hby at_166) (fun _ _ => ⟨rfl, e48, (by decide : 3 + 0 ≤ _), (by decide : 40 + 0 ≤ _)⟩)
  dsimp only [Pt.U, Pt.locs, Pt.cells, Pt.slots] at X49 l49 y49 z49 st49 hQ49
  subst l49 y49 z49
  obtain ⟨rfl, N49q, e49⟩ := hQ49
  have N49 := Fr.app N48 N49q
  refine Gl.pre (fun _ k => st49 _ k) ?_
  obtain ⟨T50, h50, X50, e50, W50, V50, st50⟩ := own_stC X49 hx hZ35 e49 V_b40 (j := (4 : Int32)) (i := 4) (by decide) (by decide) (Nat.lt_of_lt_of_eq (by decide : 4 < 8) rfl) (g := (mkF m 169 #[.val (.int p1), .val (.int p2), .val (.int p3), .val (.int p4), .val (.int p5), .val (.int ((p1 &&& (2147483647 : Int32)) % (3 : Int32))), .val (.ref la35), .val (.ref wb), .val (.int (7 : Int32)), .val (.int nnl), .val (.int (p3 &&& (7 : Int32))), .val (.int (own_ch p5)), .val (.ref b40), .unset, .unset, .unset, .unset, .unset] [(.int (own_at own_T1 (4 : Int32) (own_ch p5))), (.int (4 : Int32)), (.ref b40)])) rfl rfl (hb hby at_169)
  refine Gl.pre (fun _ k => st50 _ k) ?_
  have CR50 := CR48.trans (CHr.wr W50 Sf_b40 CR48.1)
  have Sf_b40 := Safe.wr W50 Sf_b40 CR48.1 Sf_b40
  have O_ := O_.wr W50 g_b40
  have Va35 := Va35.other W50 (own_ne_lb35_b40)
  have Es35 := Es35.wr W50
  have Fc35 := Fc35.other W50 (Or.inl (own_ne_la35_b40))
  have Fv35 := Fv35.other W50 (Or.inl (own_ne_la35_b40))
  have V_lb35 := V_lb35.other W50 (own_ne_lb35_b40)
  have Z50 : n0 ≤ h50.size := by rw [W50.size]; exact Z48
  have hk50 := Nat.le_trans hk48 (Nat.le_of_eq W50.size.symm)
  have N50 := Fr.snoc X50 N49 g_b40
  have V_b40 : Bal Z h50 b40 .char [(nar .char (own_at own_T1 (0 : Int32) (own_ch p5))), (nar .char (own_at own_T1 (1 : Int32) (own_ch p5))), (nar .char (own_at own_T1 (2 : Int32) (own_ch p5))), (nar .char (own_at own_T1 (3 : Int32) (own_ch p5))), (nar .char (own_at own_T1 (4 : Int32) (own_ch p5))), (0 : Int32), (0 : Int32), (0 : Int32)] := V50
  refine Y.aload X50 hx (hb hby at_170) rfl rfl ?_
  refine Y.iconst X50 hx (hb hby at_172) ?_
  refine Y.aload X50 hx (hb hby at_173) rfl rfl ?_
  refine Y.iconst X50 hx (hb hby at_175) ?_
  refine Y.iload X50 hx (hb hby at_176) rfl ?_
  obtain ⟨_, _, ⟨T51, L51, k51, n51⟩, -, X51, ⟨Lc51, hQ51, l51, y51, z51⟩, st51⟩ := Jvm.LawKit.callS X50 hx (y := (⟨"com/example/marcasite/marcasite/marc/CarrierNamedPinLaw", "at", "(Ljava/lang/String;IC)C"⟩ : MethodName)) hown35 (mvT hZ35 (W 26 rfl)) (mvT hZ35 (W 27 rfl)) (mvT hZ35 (W 28 rfl)) (mvT hZ35 (W 29 rfl)) (by decide) (backOf (W := 2) (rm3 l Z a0 hw [] la35 (5 : Int32) (own_ch p5) cs fo lb35 kb35 own_T1 _ _ h50 n0 Z50 Es35 Fv35 Fc35 Va35 own_Tc1 own_Tb1 own_Tr1 (by decide) (by decide) (own_chr p5) SBC hcs SFO hfo O_) hZ35 (W 29 rfl) (W 28 rfl) (by decide) (by decide)) (g := (mkF m 178 #[.val (.int p1), .val (.int p2), .val (.int p3), .val (.int p4), .val (.int p5), .val (.int ((p1 &&& (2147483647 : Int32)) % (3 : Int32))), .val (.ref la35), .val (.ref wb), .val (.int (7 : Int32)), .val (.int nnl), .val (.int (p3 &&& (7 : Int32))), .val (.int (own_ch p5)), .val (.ref b40), .unset, .unset, .unset, .unset, .unset] [(.int (own_ch p5)), (.int (5 : Int32)), (.ref la35), (.int (5 : Int32)), (.ref b40)])) rfl (by rw [hml]; rfl) (argsL := [(.ref la35), (.int (5 : Int32)), (.int (own_ch p5))]) (rest := [(.int (5 : Int32)), (.ref b40)]) (lenOf pd_10 rfl) rfl (by show 2 * 0 + _ ≤ _; exact Nat.le_of_eq rfl) (hb hby at_178) (fun _ _ => ⟨rfl, e50, (by decide : 3 + 0 ≤ _), (by decide : 40 + 0 ≤ _)⟩)
  dsimp only [Pt.U, Pt.locs, Pt.cells, Pt.slots] at X51 l51 y51 z51 st51 hQ51
  subst l51 y51 z51
  obtain ⟨rfl, N51q, e51⟩ := hQ51
  have N51 := Fr.app N50 N51q
  refine Gl.pre (fun _ k => st51 _ k) ?_
  obtain ⟨T52, h52, X52, e52, W52, V52, st52⟩ := own_stC X51 hx hZ35 e51 V_b40 (j := (5 : Int32)) (i := 5) (by decide) (by decide) (Nat.lt_of_lt_of_eq (by decide : 5 < 8) rfl) (g := (mkF m 181 #[.val (.int p1), .val (.int p2), .val (.int p3), .val (.int p4), .val (.int p5), .val (.int ((p1 &&& (2147483647 : Int32)) % (3 : Int32))), .val (.ref la35), .val (.ref wb), .val (.int (7 : Int32)), .val (.int nnl), .val (.int (p3 &&& (7 : Int32))), .val (.int (own_ch p5)), .val (.ref b40), .unset, .unset, .unset, .unset, .unset] [(.int (own_at own_T1 (5 : Int32) (own_ch p5))), (.int (5 : Int32)), (.ref b40)])) rfl rfl (hb hby at_181)
  refine Gl.pre (fun _ k => st52 _ k) ?_
  have CR52 := CR50.trans (CHr.wr W52 Sf_b40 CR50.1)
  have Sf_b40 := Safe.wr W52 Sf_b40 CR50.1 Sf_b40
  have O_ := O_.wr W52 g_b40
  have Va35 := Va35.other W52 (own_ne_lb35_b40)
  have Es35 := Es35.wr W52
  have Fc35 := Fc35.other W52 (Or.inl (own_ne_la35_b40))
  have Fv35 := Fv35.other W52 (Or.inl (own_ne_la35_b40))
  have V_lb35 := V_lb35.other W52 (own_ne_lb35_b40)
  have Z52 : n0 ≤ h52.size := by rw [W52.size]; exact Z50
  have hk52 := Nat.le_trans hk50 (Nat.le_of_eq W52.size.symm)
  have N52 := Fr.snoc X52 N51 g_b40
  have V_b40 : Bal Z h52 b40 .char [(nar .char (own_at own_T1 (0 : Int32) (own_ch p5))), (nar .char (own_at own_T1 (1 : Int32) (own_ch p5))), (nar .char (own_at own_T1 (2 : Int32) (own_ch p5))), (nar .char (own_at own_T1 (3 : Int32) (own_ch p5))), (nar .char (own_at own_T1 (4 : Int32) (own_ch p5))), (nar .char (own_at own_T1 (5 : Int32) (own_ch p5))), (0 : Int32), (0 : Int32)] := V52
  refine Y.aload X52 hx (hb hby at_182) rfl rfl ?_
  refine Y.bipush X52 hx (hb hby at_184) ?_
  refine Y.aload X52 hx (hb hby at_186) rfl rfl ?_
  refine Y.bipush X52 hx (hb hby at_188) ?_
  refine Y.iload X52 hx (hb hby at_190) rfl ?_
  obtain ⟨_, _, ⟨T53, L53, k53, n53⟩, -, X53, ⟨Lc53, hQ53, l53, y53, z53⟩, st53⟩ := Jvm.LawKit.callS X52 hx (y := (⟨"com/example/marcasite/marcasite/marc/CarrierNamedPinLaw", "at", "(Ljava/lang/String;IC)C"⟩ : MethodName)) hown35 (mvT hZ35 (W 26 rfl)) (mvT hZ35 (W 27 rfl)) (mvT hZ35 (W 28 rfl)) (mvT hZ35 (W 29 rfl)) (by decide) (backOf (W := 2) (rm3 l Z a0 hw [] la35 (6 : Int32) (own_ch p5) cs fo lb35 kb35 own_T1 _ _ h52 n0 Z52 Es35 Fv35 Fc35 Va35 own_Tc1 own_Tb1 own_Tr1 (by decide) (by decide) (own_chr p5) SBC hcs SFO hfo O_) hZ35 (W 29 rfl) (W 28 rfl) (by decide) (by decide)) (g := (mkF m 192 #[.val (.int p1), .val (.int p2), .val (.int p3), .val (.int p4), .val (.int p5), .val (.int ((p1 &&& (2147483647 : Int32)) % (3 : Int32))), .val (.ref la35), .val (.ref wb), .val (.int (7 : Int32)), .val (.int nnl), .val (.int (p3 &&& (7 : Int32))), .val (.int (own_ch p5)), .val (.ref b40), .unset, .unset, .unset, .unset, .unset] [(.int (own_ch p5)), (.int (6 : Int32)), (.ref la35), (.int (6 : Int32)), (.ref b40)])) rfl (by rw [hml]; rfl) (argsL := [(.ref la35), (.int (6 : Int32)), (.int (own_ch p5))]) (rest := [(.int (6 : Int32)), (.ref b40)]) (lenOf pd_10 rfl) rfl (by show 2 * 0 + _ ≤ _; exact Nat.le_of_eq rfl) (hb hby at_192) (fun _ _ => ⟨rfl, e52, (by decide : 3 + 0 ≤ _), (by decide : 40 + 0 ≤ _)⟩)
  dsimp only [Pt.U, Pt.locs, Pt.cells, Pt.slots] at X53 l53 y53 z53 st53 hQ53
  subst l53 y53 z53
  obtain ⟨rfl, N53q, e53⟩ := hQ53
  have N53 := Fr.app N52 N53q
  refine Gl.pre (fun _ k => st53 _ k) ?_
  obtain ⟨T54, h54, X54, e54, W54, V54, st54⟩ := own_stC X53 hx hZ35 e53 V_b40 (j := (6 : Int32)) (i := 6) (by decide) (by decide) (Nat.lt_of_lt_of_eq (by decide : 6 < 8) rfl) (g := (mkF m 195 #[.val (.int p1), .val (.int p2), .val (.int p3), .val (.int p4), .val (.int p5), .val (.int ((p1 &&& (2147483647 : Int32)) % (3 : Int32))), .val (.ref la35), .val (.ref wb), .val (.int (7 : Int32)), .val (.int nnl), .val (.int (p3 &&& (7 : Int32))), .val (.int (own_ch p5)), .val (.ref b40), .unset, .unset, .unset, .unset, .unset] [(.int (own_at own_T1 (6 : Int32) (own_ch p5))), (.int (6 : Int32)), (.ref b40)])) rfl rfl (hb hby at_195)
  refine Gl.pre (fun _ k => st54 _ k) ?_
  have CR54 := CR52.trans (CHr.wr W54 Sf_b40 CR52.1)
  have Sf_b40 := Safe.wr W54 Sf_b40 CR52.1 Sf_b40
  have O_ := O_.wr W54 g_b40
  have Va35 := Va35.other W54 (own_ne_lb35_b40)
  have Es35 := Es35.wr W54
  have Fc35 := Fc35.other W54 (Or.inl (own_ne_la35_b40))
  have Fv35 := Fv35.other W54 (Or.inl (own_ne_la35_b40))
  have V_lb35 := V_lb35.other W54 (own_ne_lb35_b40)
  have Z54 : n0 ≤ h54.size := by rw [W54.size]; exact Z52
  have hk54 := Nat.le_trans hk52 (Nat.le_of_eq W54.size.symm)
  have N54 := Fr.snoc X54 N53 g_b40
  have V_b40 : Bal Z h54 b40 .char [(nar .char (own_at own_T1 (0 : Int32) (own_ch p5))), (nar .char (own_at own_T1 (1 : Int32) (own_ch p5))), (nar .char (own_at own_T1 (2 : Int32) (own_ch p5))), (nar .char (own_at own_T1 (3 : Int32) (own_ch p5))), (nar .char (own_at own_T1 (4 : Int32) (own_ch p5))), (nar .char (own_at own_T1 (5 : Int32) (own_ch p5))), (nar .char (own_at own_T1 (6 : Int32) (own_ch p5))), (0 : Int32)] := V54
  refine Y.aload X54 hx (hb hby at_196) rfl rfl ?_
  refine Y.bipush X54 hx (hb hby at_198) ?_
  refine Y.aload X54 hx (hb hby at_200) rfl rfl ?_
  refine Y.bipush X54 hx (hb hby at_202) ?_
  refine Y.iload X54 hx (hb hby at_204) rfl ?_
  obtain ⟨_, _, ⟨T55, L55, k55, n55⟩, -, X55, ⟨Lc55, hQ55, l55, y55, z55⟩, st55⟩ := Jvm.LawKit.callS X54 hx (y := (⟨"com/example/marcasite/marcasite/marc/CarrierNamedPinLaw", "at", "(Ljava/lang/String;IC)C"⟩ : MethodName)) hown35 (mvT hZ35 (W 26 rfl)) (mvT hZ35 (W 27 rfl)) (mvT hZ35 (W 28 rfl)) (mvT hZ35 (W 29 rfl)) (by decide) (backOf (W := 2) (rm3 l Z a0 hw [] la35 (7 : Int32) (own_ch p5) cs fo lb35 kb35 own_T1 _ _ h54 n0 Z54 Es35 Fv35 Fc35 Va35 own_Tc1 own_Tb1 own_Tr1 (by decide) (by decide) (own_chr p5) SBC hcs SFO hfo O_) hZ35 (W 29 rfl) (W 28 rfl) (by decide) (by decide)) (g := (mkF m 206 #[.val (.int p1), .val (.int p2), .val (.int p3), .val (.int p4), .val (.int p5), .val (.int ((p1 &&& (2147483647 : Int32)) % (3 : Int32))), .val (.ref la35), .val (.ref wb), .val (.int (7 : Int32)), .val (.int nnl), .val (.int (p3 &&& (7 : Int32))), .val (.int (own_ch p5)), .val (.ref b40), .unset, .unset, .unset, .unset, .unset] [(.int (own_ch p5)), (.int (7 : Int32)), (.ref la35), (.int (7 : Int32)), (.ref b40)])) rfl (by rw [hml]; rfl) (argsL := [(.ref la35), (.int (7 : Int32)), (.int (own_ch p5))]) (rest := [(.int (7 : Int32)), (.ref b40)]) (lenOf pd_10 rfl) rfl (by show 2 * 0 + _ ≤ _; exact Nat.le_of_eq rfl) (hb hby at_206) (fun _ _ => ⟨rfl, e54, (by decide : 3 + 0 ≤ _), (by decide : 40 + 0 ≤ _)⟩)
  dsimp only [Pt.U, Pt.locs, Pt.cells, Pt.slots] at X55 l55 y55 z55 st55 hQ55
  subst l55 y55 z55
  obtain ⟨rfl, N55q, e55⟩ := hQ55
  have N55 := Fr.app N54 N55q
  refine Gl.pre (fun _ k => st55 _ k) ?_
  obtain ⟨T56, h56, X56, e56, W56, V56, st56⟩ := own_stC X55 hx hZ35 e55 V_b40 (j := (7 : Int32)) (i := 7) (by decide) (by decide) (Nat.lt_of_lt_of_eq (by decide : 7 < 8) rfl) (g := (mkF m 209 #[.val (.int p1), .val (.int p2), .val (.int p3), .val (.int p4), .val (.int p5), .val (.int ((p1 &&& (2147483647 : Int32)) % (3 : Int32))), .val (.ref la35), .val (.ref wb), .val (.int (7 : Int32)), .val (.int nnl), .val (.int (p3 &&& (7 : Int32))), .val (.int (own_ch p5)), .val (.ref b40), .unset, .unset, .unset, .unset, .unset] [(.int (own_at own_T1 (7 : Int32) (own_ch p5))), (.int (7 : Int32)), (.ref b40)])) rfl rfl (hb hby at_209)
  refine Gl.pre (fun _ k => st56 _ k) ?_
  have CR56 := CR54.trans (CHr.wr W56 Sf_b40 CR54.1)
  have Sf_b40 := Safe.wr W56 Sf_b40 CR54.1 Sf_b40
  have O_ := O_.wr W56 g_b40
  have Va35 := Va35.other W56 (own_ne_lb35_b40)
  have Es35 := Es35.wr W56
  have Fc35 := Fc35.other W56 (Or.inl (own_ne_la35_b40))
  have Fv35 := Fv35.other W56 (Or.inl (own_ne_la35_b40))
  have V_lb35 := V_lb35.other W56 (own_ne_lb35_b40)
  have Z56 : n0 ≤ h56.size := by rw [W56.size]; exact Z54
  have hk56 := Nat.le_trans hk54 (Nat.le_of_eq W56.size.symm)
  have N56 := Fr.snoc X56 N55 g_b40
  have V_b40 : Bal Z h56 b40 .char [(nar .char (own_at own_T1 (0 : Int32) (own_ch p5))), (nar .char (own_at own_T1 (1 : Int32) (own_ch p5))), (nar .char (own_at own_T1 (2 : Int32) (own_ch p5))), (nar .char (own_at own_T1 (3 : Int32) (own_ch p5))), (nar .char (own_at own_T1 (4 : Int32) (own_ch p5))), (nar .char (own_at own_T1 (5 : Int32) (own_ch p5))), (nar .char (own_at own_T1 (6 : Int32) (own_ch p5))), (nar .char (own_at own_T1 (7 : Int32) (own_ch p5)))] := V56
  rw [own_eA1 (own_chr p5)] at V_b40
  refine Y.aload X56 hx (hb hby at_210) rfl rfl ?_
  refine Y.iload X56 hx (hb hby at_212) rfl ?_
  refine Gl.pre (fun _ k => own_ldC X56 hx hZ35 e56 V_b40 (j := (p3 &&& (7 : Int32))) (i := ((p3 &&& (7 : Int32))).toNatClampNeg) (own_p8 p3).1 rfl (Nat.lt_of_lt_of_eq (own_p8 p3).2 rfl) (v := ((own_A1 (own_ch p5)).getD ((p3 &&& (7 : Int32))).toNatClampNeg 0)) rfl (g := (mkF m 214 #[.val (.int p1), .val (.int p2), .val (.int p3), .val (.int p4), .val (.int p5), .val (.int ((p1 &&& (2147483647 : Int32)) % (3 : Int32))), .val (.ref la35), .val (.ref wb), .val (.int (7 : Int32)), .val (.int nnl), .val (.int (p3 &&& (7 : Int32))), .val (.int (own_ch p5)), .val (.ref b40), .unset, .unset, .unset, .unset, .unset] [(.int (p3 &&& (7 : Int32))), (.ref b40)])) rfl rfl (hb hby at_214) _ k) ?_
  refine Y.istore X56 hx (hb hby at_215) rfl (l' := #[.val (.int p1), .val (.int p2), .val (.int p3), .val (.int p4), .val (.int p5), .val (.int ((p1 &&& (2147483647 : Int32)) % (3 : Int32))), .val (.ref la35), .val (.ref wb), .val (.int (7 : Int32)), .val (.int nnl), .val (.int (p3 &&& (7 : Int32))), .val (.int (own_ch p5)), .val (.ref b40), .val (.int ((own_A1 (own_ch p5)).getD ((p3 &&& (7 : Int32))).toNatClampNeg 0)), .unset, .unset, .unset, .unset]) rfl ?_
  suffices J57 : ∀ cch : Int32, ¬ cch < 0 ∧ ¬ (255 : Int32) < cch → Gl p.tables e below PP (T56.setTop (mkF m 238 #[.val (.int p1), .val (.int p2), .val (.int p3), .val (.int p4), .val (.int p5), .val (.int ((p1 &&& (2147483647 : Int32)) % (3 : Int32))), .val (.ref la35), .val (.ref wb), .val (.int (7 : Int32)), .val (.int nnl), .val (.int (p3 &&& (7 : Int32))), .val (.int (own_ch p5)), .val (.ref b40), .val (.int ((own_A1 (own_ch p5)).getD ((p3 &&& (7 : Int32))).toNatClampNeg 0)), .val (.int cch), .unset, .unset, .unset] [])) by
   refine Y.iloadN X56 hx (hb hby at_217) rfl ?_
   refine Y.sipush X56 hx (hb hby at_218) ?_
   refine Y.iand X56 hx (hb hby at_221) rfl ?_
   by_cases hc58 : (p4 &&& (256 : Int32)) = (0 : Int32)
   refine Y.ifYes X56 hx (pc0 := 222) (pc' := 230) rfl (hb hby at_222) rfl ((if0 _ _).trans (teq hc58).1) (by decide) (by decide) ?_
   refine Y.iloadN X56 hx (hb hby at_230) rfl ?_
   refine Y.sipush X56 hx (hb hby at_231) ?_
   refine Y.iand X56 hx (hb hby at_234) rfl ?_
   refine Y.i2c X56 hx (hb hby at_235) rfl ?_
   refine Y.istore X56 hx (hb hby at_236) rfl (l' := #[.val (.int p1), .val (.int p2), .val (.int p3), .val (.int p4), .val (.int p5), .val (.int ((p1 &&& (2147483647 : Int32)) % (3 : Int32))), .val (.ref la35), .val (.ref wb), .val (.int (7 : Int32)), .val (.int nnl), .val (.int (p3 &&& (7 : Int32))), .val (.int (own_ch p5)), .val (.ref b40), .val (.int ((own_A1 (own_ch p5)).getD ((p3 &&& (7 : Int32))).toNatClampNeg 0)), .val (.int ((p4 &&& (255 : Int32)).toUInt32.toUInt16.toUInt32.toInt32)), .unset, .unset, .unset]) rfl ?_
   exact J57 _ (own_chr p4)
   refine Y.ifNo X56 hx (hb hby at_222) rfl ((if0 _ _).trans (feq hc58).1) ?_
   refine Y.iload X56 hx (hb hby at_225) rfl ?_
   refine Y.goto X56 hx (pc0 := 227) (pc' := 236) rfl (hb hby at_227) (by decide) (by decide) ?_
   refine Y.istore X56 hx (hb hby at_236) rfl (l' := #[.val (.int p1), .val (.int p2), .val (.int p3), .val (.int p4), .val (.int p5), .val (.int ((p1 &&& (2147483647 : Int32)) % (3 : Int32))), .val (.ref la35), .val (.ref wb), .val (.int (7 : Int32)), .val (.int nnl), .val (.int (p3 &&& (7 : Int32))), .val (.int (own_ch p5)), .val (.ref b40), .val (.int ((own_A1 (own_ch p5)).getD ((p3 &&& (7 : Int32))).toNatClampNeg 0)), .val (.int ((own_A1 (own_ch p5)).getD ((p3 &&& (7 : Int32))).toNatClampNeg 0)), .unset, .unset, .unset]) rfl ?_
   exact J57 _ (own_gr (own_Ar1 (own_chr p5)) _)
  intro cch hcch
  show Gl p.tables e below PP (T56.setTop (mkF m 238 #[.val (.int p1), .val (.int p2), .val (.int p3), .val (.int p4), .val (.int p5), .val (.int ((p1 &&& (2147483647 : Int32)) % (3 : Int32))), .val (.ref la35), .val (.ref wb), .val (.int (7 : Int32)), .val (.int nnl), .val (.int (p3 &&& (7 : Int32))), .val (.int (own_ch p5)), .val (.ref b40), .val (.int ((own_A1 (own_ch p5)).getD ((p3 &&& (7 : Int32))).toNatClampNeg 0)), .val (.int cch), .unset, .unset, .unset] []))
  refine Y.aload X56 hx (hb hby at_238) rfl rfl ?_
  refine Y.iload X56 hx (hb hby at_240) rfl ?_
  refine Y.iload X56 hx (hb hby at_242) rfl ?_
  obtain ⟨T59, h59, X59, e59, W59, V59, st59⟩ := own_stC X56 hx hZ35 e56 V_b40 (j := (p3 &&& (7 : Int32))) (i := ((p3 &&& (7 : Int32))).toNatClampNeg) (own_p8 p3).1 rfl (Nat.lt_of_lt_of_eq (own_p8 p3).2 rfl) (g := (mkF m 244 #[.val (.int p1), .val (.int p2), .val (.int p3), .val (.int p4), .val (.int p5), .val (.int ((p1 &&& (2147483647 : Int32)) % (3 : Int32))), .val (.ref la35), .val (.ref wb), .val (.int (7 : Int32)), .val (.int nnl), .val (.int (p3 &&& (7 : Int32))), .val (.int (own_ch p5)), .val (.ref b40), .val (.int ((own_A1 (own_ch p5)).getD ((p3 &&& (7 : Int32))).toNatClampNeg 0)), .val (.int cch), .unset, .unset, .unset] [(.int cch), (.int (p3 &&& (7 : Int32))), (.ref b40)])) rfl rfl (hb hby at_244)
  refine Gl.pre (fun _ k => st59 _ k) ?_
  have CR59 := CR56.trans (CHr.wr W59 Sf_b40 CR56.1)
  have Sf_b40 := Safe.wr W59 Sf_b40 CR56.1 Sf_b40
  have O_ := O_.wr W59 g_b40
  have Va35 := Va35.other W59 (own_ne_lb35_b40)
  have Es35 := Es35.wr W59
  have Fc35 := Fc35.other W59 (Or.inl (own_ne_la35_b40))
  have Fv35 := Fv35.other W59 (Or.inl (own_ne_la35_b40))
  have V_lb35 := V_lb35.other W59 (own_ne_lb35_b40)
  have Z59 : n0 ≤ h59.size := by rw [W59.size]; exact Z56
  have hk59 := Nat.le_trans hk56 (Nat.le_of_eq W59.size.symm)
  have N59 := Fr.snoc X59 N56 g_b40
  have V_b40 := V59
  rw [own_nc hcch] at V_b40
  refine Y.aload X59 hx (hb hby at_245) rfl rfl ?_
  refine Y.iload X59 hx (hb hby at_247) rfl ?_
  obtain ⟨_, _, ⟨T60, L60, k60, n60⟩, -, X60, hS60c, hg60, ⟨Lc60, hQ60, l60, y60, z60, CR60c⟩, st60⟩ := callSS X59 hx (y := (⟨"com/example/marcasite/marcasite/marc/CarrierNamedPinLaw", "prefix", "([CI)Ljava/lang/String;"⟩ : MethodName)) hown35 (mvT hZ35 (W 52 rfl)) (mvT hZ35 (W 53 rfl)) (mvT hZ35 (W 28 rfl)) (mvT hZ35 (W 54 rfl)) (by decide) (own_backH (W := 0) (rm9 l Z a0 hw [] b40 nnl ((own_A1 (own_ch p5)).set ((p3 &&& (7 : Int32))).toNatClampNeg cch) cs h59 n0 Z59 V_b40 (by rw [List.length_set]; rfl) (own_setall (P := fun c => ¬ c < 0 ∧ ¬ (255 : Int32) < c) (own_Ar1 (own_chr p5)) hcch) hnnl SBC hcs O_ hEL) hZ35 (W 54 rfl) (W 28 rfl) (by decide) (by decide) hEL CR59.1 all0) (g := (mkF m 249 #[.val (.int p1), .val (.int p2), .val (.int p3), .val (.int p4), .val (.int p5), .val (.int ((p1 &&& (2147483647 : Int32)) % (3 : Int32))), .val (.ref la35), .val (.ref wb), .val (.int (7 : Int32)), .val (.int nnl), .val (.int (p3 &&& (7 : Int32))), .val (.int (own_ch p5)), .val (.ref b40), .val (.int ((own_A1 (own_ch p5)).getD ((p3 &&& (7 : Int32))).toNatClampNeg 0)), .val (.int cch), .unset, .unset, .unset] [(.int nnl), (.ref b40)])) rfl (by rw [hml]; rfl) (argsL := [(.ref b40), (.int nnl)]) (rest := []) (lenOf pd_11 rfl) rfl (by show 2 * 0 + _ ≤ _; exact Nat.le_of_eq rfl) (hb hby at_249) (fun _ _ => ⟨rfl, e59, (by decide : 3 + 6 ≤ _), (by decide : 40 + 20 ≤ _)⟩)
  dsimp only [Pt.U, Pt.locs, Pt.cells, Pt.slots] at X60 l60 y60 z60 st60 hQ60 hS60c hg60 CR60c
  subst l60 y60 z60
  have X60 : Stand p l e room_1 (s.setVm T60.vm) m #[(.int p1), (.int p2), (.int p3), (.int p4), (.int p5)] below meth c T60 _ _ _ := X60
  have hS60 := foldS hS35 (Nat.le_trans hk59 (Nat.le_of_eq (congrArg Array.size e59.symm))) hS60c hg60
  have hZ60 : Z.Warmed39 (s.setVm T60.vm).vm := State.Warmed39.trans (t := s.setVm T35.vm) hZ35 hS60c.1
  have hown60 : (s.setVm T60.vm).vm.findClass "com/example/marcasite/marcasite/marc/CarrierNamedPinLaw" = some m.cls := by rw [show (s.setVm T60.vm).vm = T60.vm from rfl, hS60c.1.alike.findClass]; exact hown35
  have Sf_b40 := CR60c.safe V_b40.lt Sf_b40
  have CR60 := CR59.trans CR60c
  obtain ⟨ob60, tv60, kt60, ds60, hds60, rfl, N60q, K60, hz60, Eb60, Fv60, Fc60, Kt60⟩ := hQ60
  have N60 := Fr.app N59 N60q
  refine Gl.pre (fun _ k => st60.trans k) ?_
  have own_ne_la35_ob60 : la35 ≠ ob60 := Nat.ne_of_lt (Nat.lt_of_lt_of_le Es35.lt hz60)
  have own_ne_ob60_la35 := own_ne_la35_ob60.symm
  have own_ne_lb35_ob60 : lb35 ≠ ob60 := Nat.ne_of_lt (Nat.lt_of_lt_of_le V_lb35.lt hz60)
  have own_ne_ob60_lb35 := own_ne_lb35_ob60.symm
  have own_ne_b40_ob60 : b40 ≠ ob60 := Nat.ne_of_lt (Nat.lt_of_lt_of_le V_b40.lt hz60)
  have own_ne_ob60_b40 := own_ne_b40_ob60.symm
  have g_ob60 : n0 ≤ ob60 := Nat.le_trans Z59 hz60
  have Sf_ob600 := Safe.new (Z := Z) (EL := own_EL) (vm := T60.vm) hz60
  have O_ := O_.keep K60 all0
  have Va35 := Va35.keep K60 nin0
  have Es35 := Es35.keep K60
  have Fc35 := Fc35.keep K60 nin0
  have Fv35 := Fv35.keep K60 nin0
  have V_lb35 := V_lb35.keep K60 nin0
  have V_b40 := V_b40.keep K60 nin0
  have Z60 : n0 ≤ T60.heap.size := Nat.le_trans Z59 K60.1
  have E_ob60 := Eb60
  have F_value_ob60 := Fv60
  have F_coder_ob60 := Fc60
  have K_tv60 := Kt60
  refine Y.astore X60 hx (hb hby at_252) rfl rfl (l' := #[.val (.int p1), .val (.int p2), .val (.int p3), .val (.int p4), .val (.int p5), .val (.int ((p1 &&& (2147483647 : Int32)) % (3 : Int32))), .val (.ref la35), .val (.ref wb), .val (.int (7 : Int32)), .val (.int nnl), .val (.int (p3 &&& (7 : Int32))), .val (.int (own_ch p5)), .val (.ref b40), .val (.int ((own_A1 (own_ch p5)).getD ((p3 &&& (7 : Int32))).toNatClampNeg 0)), .val (.int cch), .val (.ref ob60), .unset, .unset]) rfl ?_
  refine Y.aload X60 hx (hb hby at_254) rfl rfl ?_
  obtain ⟨_, _, ⟨T61, L61, k61, n61⟩, -, X61, ⟨Lc61, hQ61, l61, y61, z61⟩, st61⟩ := Jvm.LawKit.callS X60 hx (y := (⟨"com/example/marcasite/marcasite/marc/Carrier", "named", "(Ljava/lang/String;)Ljava/util/Optional;"⟩ : MethodName)) hown60 (mvT hZ60 (W 76 rfl)) (mvT hZ60 (W 77 rfl)) (mvT hZ60 (W 10 rfl)) (mvT hZ60 (W 78 rfl)) (by decide) (backOf (W := 0) (rm16 l Z a0 hw [] ob60 tv60 kt60 ds60 cs em va kv wa wb wc sa ta ka sb tb kb sc tc kc T60.heap n0 Z60 E_ob60 F_value_ob60 F_coder_ob60 K_tv60 (by rw [hds60]; exact fun c hc => own_setall (P := fun c => ¬ c < 0 ∧ ¬ (255 : Int32) < c) (own_Ar1 (own_chr p5)) hcch c (List.mem_of_mem_take hc)) (by rw [hds60]; exact own_dl1 _ _ _ _) (ZF_optionName_wa.ext O_.2) (ZE_sa.ext O_.2) (ZF_value_sa.ext O_.2) (ZF_coder_sa.ext O_.2) (ZK_ta.ext O_.2) (ZF_optionName_wb.ext O_.2) (ZE_sb.ext O_.2) (ZF_value_sb.ext O_.2) (ZF_coder_sb.ext O_.2) (ZK_tb.ext O_.2) (ZF_optionName_wc.ext O_.2) (ZE_sc.ext O_.2) (ZF_value_sc.ext O_.2) (ZF_coder_sc.ext O_.2) (ZK_tc.ext O_.2) (ZE_em.ext O_.2) (ZF_value_em.ext O_.2) SVA AVA EVA SEM SBC hcs O_) hZ60 (W 78 rfl) (W 10 rfl) (by decide) (by decide)) (g := (mkF m 256 #[.val (.int p1), .val (.int p2), .val (.int p3), .val (.int p4), .val (.int p5), .val (.int ((p1 &&& (2147483647 : Int32)) % (3 : Int32))), .val (.ref la35), .val (.ref wb), .val (.int (7 : Int32)), .val (.int nnl), .val (.int (p3 &&& (7 : Int32))), .val (.int (own_ch p5)), .val (.ref b40), .val (.int ((own_A1 (own_ch p5)).getD ((p3 &&& (7 : Int32))).toNatClampNeg 0)), .val (.int cch), .val (.ref ob60), .unset, .unset] [(.ref ob60)])) rfl (by rw [hml]; rfl) (argsL := [(.ref ob60)]) (rest := []) (lenOf pd_12 rfl) rfl (by show 2 * 0 + _ ≤ _; exact Nat.le_of_eq rfl) (hb hby at_256) (fun _ _ => ⟨rfl, rfl, (by decide : 9 + 2 ≤ _), (by decide : 60 + 4 ≤ _)⟩)
  dsimp only [Pt.U, Pt.locs, Pt.cells, Pt.slots] at X61 l61 y61 z61 st61 hQ61
  subst l61 y61 z61
  obtain ⟨oo61, rfl, N61q, K61, Eo61, hD61⟩ := hQ61
  have N61 := Fr.app N60 N61q
  refine Gl.pre (fun _ k => st61 _ k) ?_
  have Sf_b40 := Safe.keep K61 all0 CR60.1 Sf_b40
  have CR61 := CR60.trans (CHr.keep K61 all0 CR60.1)
  have O_ := O_.keep K61 all0
  have Va35 := Va35.keep K61 nin0
  have Es35 := Es35.keep K61
  have Fc35 := Fc35.keep K61 nin0
  have Fv35 := Fv35.keep K61 nin0
  have V_lb35 := V_lb35.keep K61 nin0
  have V_b40 := V_b40.keep K61 nin0
  have E_ob60 := E_ob60.keep K61
  have F_value_ob60 := F_value_ob60.keep K61 nin0
  have F_coder_ob60 := F_coder_ob60.keep K61 nin0
  have K_tv60 := K_tv60.keep K61 nin0
  have hk61 := Nat.le_trans (Nat.le_refl _) K61.1
  have Z61 : n0 ≤ T61.heap.size := Nat.le_trans Z60 K61.1
  have E_oo61 := Eo61
  rw [hds60] at hD61
  rcases hD61 with ⟨q61_0, Fo61⟩ | ⟨q61_0, q61_1, Fo61⟩ | ⟨q61_0, q61_1, q61_2, Fo61⟩ | ⟨q61_0, q61_1, q61_2, Fo61⟩
  exact absurd q61_0 (own_h1_0 (own_ch p5) cch (p3 &&& (7 : Int32)) nnl (own_p8d p3) hnnl)
  have F_value_oo61 := Fo61
  show Gl p.tables e below PP (T61.setTop (mkF m 259 #[.val (.int p1), .val (.int p2), .val (.int p3), .val (.int p4), .val (.int p5), .val (.int ((p1 &&& (2147483647 : Int32)) % (3 : Int32))), .val (.ref la35), .val (.ref wb), .val (.int (7 : Int32)), .val (.int nnl), .val (.int (p3 &&& (7 : Int32))), .val (.int (own_ch p5)), .val (.ref b40), .val (.int ((own_A1 (own_ch p5)).getD ((p3 &&& (7 : Int32))).toNatClampNeg 0)), .val (.int cch), .val (.ref ob60), .unset, .unset] [(.ref oo61)]))
  refine Y.aconstNull X61 hx (hb hby at_259) ?_
  obtain ⟨cq62, kq62, qa62, qb62, qc62⟩ := isOf hZ60 rfl E_oo61
  obtain ⟨_, _, ⟨T62, L62, k62, n62⟩, -, X62, ⟨Lc62, hQ62, l62, y62, z62⟩, st62⟩ := X61.virtualBack hx (y := (⟨"java/util/Optional", "orElse", "(Ljava/lang/Object;)Ljava/lang/Object;"⟩ : MethodName)) (z := (⟨"java/util/Optional", "orElse", "(Ljava/lang/Object;)Ljava/lang/Object;"⟩ : MethodName)) hown60 (mvT hZ60 (W 112 rfl)) (mvT hZ60 (W 113 rfl)) (notFace_of_selects (args := #[]) (mvT hZ60 (W 115 rfl))) (mvT hZ60 (W 115 rfl)) (mvT hZ60 (W 114 rfl)) (by decide) (backOf (W := 0) (rmorA l Z a0 hw [] oo61 wb T61.heap n0 Z61 F_value_oo61) hZ60 (W 116 rfl) (W 109 rfl) (by decide) (by decide)) qa62 qc62 (g := (mkF m 260 #[.val (.int p1), .val (.int p2), .val (.int p3), .val (.int p4), .val (.int p5), .val (.int ((p1 &&& (2147483647 : Int32)) % (3 : Int32))), .val (.ref la35), .val (.ref wb), .val (.int (7 : Int32)), .val (.int nnl), .val (.int (p3 &&& (7 : Int32))), .val (.int (own_ch p5)), .val (.ref b40), .val (.int ((own_A1 (own_ch p5)).getD ((p3 &&& (7 : Int32))).toNatClampNeg 0)), .val (.int cch), .val (.ref ob60), .unset, .unset] [.null, (.ref oo61)])) rfl (by rw [hml]; rfl) (Steps.refl _) (argsL := [.null]) (rest := []) (lenOf pd_4 rfl) rfl (by show 2 * 0 + _ ≤ _; exact Nat.le_of_eq rfl) (hb hby at_260) (fun _ _ => ⟨rfl, rfl, (by decide : 11 + 0 ≤ _), (by decide : 64 + 0 ≤ _)⟩)
  dsimp only [Pt.U, Pt.locs, Pt.cells, Pt.slots] at X62 l62 y62 z62 st62 hQ62
  subst l62 y62 z62
  obtain ⟨rfl, N62q, e62⟩ := hQ62
  have N62 := Fr.app N61 N62q
  refine Gl.pre (fun _ k => st62.trans k) ?_
  obtain ⟨T63, X63, e63, st63⟩ := castY X62 hx hZ60 hown60 (W 139 rfl) e62 (Ins.of_exa (ECwb.ext O_.2) (W 140 rfl)) (g := (mkF m 263 #[.val (.int p1), .val (.int p2), .val (.int p3), .val (.int p4), .val (.int p5), .val (.int ((p1 &&& (2147483647 : Int32)) % (3 : Int32))), .val (.ref la35), .val (.ref wb), .val (.int (7 : Int32)), .val (.int nnl), .val (.int (p3 &&& (7 : Int32))), .val (.int (own_ch p5)), .val (.ref b40), .val (.int ((own_A1 (own_ch p5)).getD ((p3 &&& (7 : Int32))).toNatClampNeg 0)), .val (.int cch), .val (.ref ob60), .unset, .unset] [(.ref wb)])) rfl rfl (hb hby at_263)
  refine Gl.pre (fun _ k => st63 _ k) ?_
  show Gl p.tables e below PP (T63.setTop (mkF m 266 #[.val (.int p1), .val (.int p2), .val (.int p3), .val (.int p4), .val (.int p5), .val (.int ((p1 &&& (2147483647 : Int32)) % (3 : Int32))), .val (.ref la35), .val (.ref wb), .val (.int (7 : Int32)), .val (.int nnl), .val (.int (p3 &&& (7 : Int32))), .val (.int (own_ch p5)), .val (.ref b40), .val (.int ((own_A1 (own_ch p5)).getD ((p3 &&& (7 : Int32))).toNatClampNeg 0)), .val (.int cch), .val (.ref ob60), .unset, .unset] [(.ref wb)]))
  refine Y.astore X63 hx (hb hby at_266) rfl rfl (l' := #[.val (.int p1), .val (.int p2), .val (.int p3), .val (.int p4), .val (.int p5), .val (.int ((p1 &&& (2147483647 : Int32)) % (3 : Int32))), .val (.ref la35), .val (.ref wb), .val (.int (7 : Int32)), .val (.int nnl), .val (.int (p3 &&& (7 : Int32))), .val (.int (own_ch p5)), .val (.ref b40), .val (.int ((own_A1 (own_ch p5)).getD ((p3 &&& (7 : Int32))).toNatClampNeg 0)), .val (.int cch), .val (.ref ob60), .val (.ref wb), .unset]) rfl ?_
  refine Y.iload X63 hx (hb hby at_268) rfl ?_
  refine Y.iload X63 hx (hb hby at_270) rfl ?_
  refine Y.icmpNo X63 hx (hb hby at_272) rfl (teq (show nnl = (7 : Int32) from ((own_h1_1 (own_ch p5) cch (p3 &&& (7 : Int32)) nnl (own_p8d p3) hnnl).mp q61_1).1)).2 ?_
  refine Y.iload X63 hx (hb hby at_275) rfl ?_
  refine Y.iload X63 hx (hb hby at_277) rfl ?_
  by_cases hc64 : (p3 &&& (7 : Int32)) < nnl
  refine Y.icmpNo X63 hx (hb hby at_279) rfl (tlt hc64).2.1 ?_
  refine Y.iload X63 hx (hb hby at_282) rfl ?_
  refine Y.iload X63 hx (hb hby at_284) rfl ?_
  refine Y.icmpNo X63 hx (hb hby at_286) rfl (teq (show cch = ((own_A1 (own_ch p5)).getD ((p3 &&& (7 : Int32))).toNatClampNeg 0) from (((own_h1_1 (own_ch p5) cch (p3 &&& (7 : Int32)) nnl (own_p8d p3) hnnl).mp q61_1).2.resolve_left (fun z => z hc64)))).2 ?_
  refine Y.iconst X63 hx (hb hby at_289) ?_
  refine Y.goto X63 hx (pc0 := 290) (pc' := 294) rfl (hb hby at_290) (by decide) (by decide) ?_
  refine Y.istore X63 hx (hb hby at_294) rfl (l' := #[.val (.int p1), .val (.int p2), .val (.int p3), .val (.int p4), .val (.int p5), .val (.int ((p1 &&& (2147483647 : Int32)) % (3 : Int32))), .val (.ref la35), .val (.ref wb), .val (.int (7 : Int32)), .val (.int nnl), .val (.int (p3 &&& (7 : Int32))), .val (.int (own_ch p5)), .val (.ref b40), .val (.int ((own_A1 (own_ch p5)).getD ((p3 &&& (7 : Int32))).toNatClampNeg 0)), .val (.int cch), .val (.ref ob60), .val (.ref wb), .val (.int (1 : Int32))]) rfl ?_
  refine Y.iload X63 hx (hb hby at_296) rfl ?_
  refine Y.ifNo X63 hx (hb hby at_298) rfl ((if0 _ _).trans (feq (show ¬ ((1 : Int32) = (0 : Int32)) from (by decide))).1) ?_
  refine Y.aload X63 hx (hb hby at_301) rfl rfl ?_
  refine Y.aload X63 hx (hb hby at_303) rfl rfl ?_
  refine Gl.pre (fun _ k => Jvm.RoadKit.acmp (g := (mkF m 305 #[.val (.int p1), .val (.int p2), .val (.int p3), .val (.int p4), .val (.int p5), .val (.int ((p1 &&& (2147483647 : Int32)) % (3 : Int32))), .val (.ref la35), .val (.ref wb), .val (.int (7 : Int32)), .val (.int nnl), .val (.int (p3 &&& (7 : Int32))), .val (.int (own_ch p5)), .val (.ref b40), .val (.int ((own_A1 (own_ch p5)).getD ((p3 &&& (7 : Int32))).toNatClampNeg 0)), .val (.int cch), .val (.ref ob60), .val (.ref wb), .val (.int (1 : Int32))] [(.ref wb), (.ref wb)])) X63 hx rfl rfl rfl (pc0 := 305) (pc' := 308) (same := true) rfl (hb hby at_305) rfl (decide_eq_true rfl) (by decide) (by decide) k) ?_
  refine Y.iconst X63 hx (hb hby at_308) ?_
  refine Y.goto X63 hx (pc0 := 309) (pc' := 326) rfl (hb hby at_309) (by decide) (by decide) ?_
  rw [hPP]
  refine own_finNW (Q := (Q0 Z p1 p2 p3 p4 p5 cs fo em va kv wa wb wc sa ta ka sb tb kb sc tc kc h0 n0)) (Z := Z) (EL := own_EL) X63 hx hlk hS60 (by rw [e63]; exact hk61) Bd.returns (t := .boolean) (z' := (1 : Int32)) (by simp) (by decide) (hb hby at_326) ?_ (by rw [hh, e63]; exact CR61.trans (CHv.at X63 hZ60 hEL CR61.1)) (by decide) (by decide)
  show Q0 Z p1 p2 p3 p4 p5 cs fo em va kv wa wb wc sa ta ka sb tb kb sc tc kc h0 n0 _ T63.heap _
  rw [e63]
  exact ⟨rfl, N62⟩
  refine Y.icmpYes X63 hx (pc0 := 279) (pc' := 289) rfl (hb hby at_279) rfl (flt hc64).2.1 (by decide) (by decide) ?_
  refine Y.iconst X63 hx (hb hby at_289) ?_
  refine Y.goto X63 hx (pc0 := 290) (pc' := 294) rfl (hb hby at_290) (by decide) (by decide) ?_
  refine Y.istore X63 hx (hb hby at_294) rfl (l' := #[.val (.int p1), .val (.int p2), .val (.int p3), .val (.int p4), .val (.int p5), .val (.int ((p1 &&& (2147483647 : Int32)) % (3 : Int32))), .val (.ref la35), .val (.ref wb), .val (.int (7 : Int32)), .val (.int nnl), .val (.int (p3 &&& (7 : Int32))), .val (.int (own_ch p5)), .val (.ref b40), .val (.int ((own_A1 (own_ch p5)).getD ((p3 &&& (7 : Int32))).toNatClampNeg 0)), .val (.int cch), .val (.ref ob60), .val (.ref wb), .val (.int (1 : Int32))]) rfl ?_
  refine Y.iload X63 hx (hb hby at_296) rfl ?_
  refine Y.ifNo X63 hx (hb hby at_298) rfl ((if0 _ _).trans (feq (show ¬ ((1 : Int32) = (0 : Int32)) from (by decide))).1) ?_
  refine Y.aload X63 hx (hb hby at_301) rfl rfl ?_
  refine Y.aload X63 hx (hb hby at_303) rfl rfl ?_
  refine Gl.pre (fun _ k => Jvm.RoadKit.acmp (g := (mkF m 305 #[.val (.int p1), .val (.int p2), .val (.int p3), .val (.int p4), .val (.int p5), .val (.int ((p1 &&& (2147483647 : Int32)) % (3 : Int32))), .val (.ref la35), .val (.ref wb), .val (.int (7 : Int32)), .val (.int nnl), .val (.int (p3 &&& (7 : Int32))), .val (.int (own_ch p5)), .val (.ref b40), .val (.int ((own_A1 (own_ch p5)).getD ((p3 &&& (7 : Int32))).toNatClampNeg 0)), .val (.int cch), .val (.ref ob60), .val (.ref wb), .val (.int (1 : Int32))] [(.ref wb), (.ref wb)])) X63 hx rfl rfl rfl (pc0 := 305) (pc' := 308) (same := true) rfl (hb hby at_305) rfl (decide_eq_true rfl) (by decide) (by decide) k) ?_
  refine Y.iconst X63 hx (hb hby at_308) ?_
  refine Y.goto X63 hx (pc0 := 309) (pc' := 326) rfl (hb hby at_309) (by decide) (by decide) ?_
  rw [hPP]
  refine own_finNW (Q := (Q0 Z p1 p2 p3 p4 p5 cs fo em va kv wa wb wc sa ta ka sb tb kb sc tc kc h0 n0)) (Z := Z) (EL := own_EL) X63 hx hlk hS60 (by rw [e63]; exact hk61) Bd.returns (t := .boolean) (z' := (1 : Int32)) (by simp) (by decide) (hb hby at_326) ?_ (by rw [hh, e63]; exact CR61.trans (CHv.at X63 hZ60 hEL CR61.1)) (by decide) (by decide)
  show Q0 Z p1 p2 p3 p4 p5 cs fo em va kv wa wb wc sa ta ka sb tb kb sc tc kc h0 n0 _ T63.heap _
  rw [e63]
  exact ⟨rfl, N62⟩
  exact absurd q61_2 (own_h1_2 (own_ch p5) cch (p3 &&& (7 : Int32)) nnl (own_p8d p3) hnnl)
  have F_value_oo61 := Fo61
  show Gl p.tables e below PP (T61.setTop (mkF m 259 #[.val (.int p1), .val (.int p2), .val (.int p3), .val (.int p4), .val (.int p5), .val (.int ((p1 &&& (2147483647 : Int32)) % (3 : Int32))), .val (.ref la35), .val (.ref wb), .val (.int (7 : Int32)), .val (.int nnl), .val (.int (p3 &&& (7 : Int32))), .val (.int (own_ch p5)), .val (.ref b40), .val (.int ((own_A1 (own_ch p5)).getD ((p3 &&& (7 : Int32))).toNatClampNeg 0)), .val (.int cch), .val (.ref ob60), .unset, .unset] [(.ref oo61)]))
  refine Y.aconstNull X61 hx (hb hby at_259) ?_
  obtain ⟨cq65, kq65, qa65, qb65, qc65⟩ := isOf hZ60 rfl E_oo61
  obtain ⟨_, _, ⟨T65, L65, k65, n65⟩, -, X65, ⟨Lc65, hQ65, l65, y65, z65⟩, st65⟩ := X61.virtualBack hx (y := (⟨"java/util/Optional", "orElse", "(Ljava/lang/Object;)Ljava/lang/Object;"⟩ : MethodName)) (z := (⟨"java/util/Optional", "orElse", "(Ljava/lang/Object;)Ljava/lang/Object;"⟩ : MethodName)) hown60 (mvT hZ60 (W 112 rfl)) (mvT hZ60 (W 113 rfl)) (notFace_of_selects (args := #[]) (mvT hZ60 (W 115 rfl))) (mvT hZ60 (W 115 rfl)) (mvT hZ60 (W 114 rfl)) (by decide) (backOf (W := 0) (rmorB l Z a0 hw [] oo61 T61.heap n0 Z61 F_value_oo61) hZ60 (W 116 rfl) (W 109 rfl) (by decide) (by decide)) qa65 qc65 (g := (mkF m 260 #[.val (.int p1), .val (.int p2), .val (.int p3), .val (.int p4), .val (.int p5), .val (.int ((p1 &&& (2147483647 : Int32)) % (3 : Int32))), .val (.ref la35), .val (.ref wb), .val (.int (7 : Int32)), .val (.int nnl), .val (.int (p3 &&& (7 : Int32))), .val (.int (own_ch p5)), .val (.ref b40), .val (.int ((own_A1 (own_ch p5)).getD ((p3 &&& (7 : Int32))).toNatClampNeg 0)), .val (.int cch), .val (.ref ob60), .unset, .unset] [.null, (.ref oo61)])) rfl (by rw [hml]; rfl) (Steps.refl _) (argsL := [.null]) (rest := []) (lenOf pd_4 rfl) rfl (by show 2 * 0 + _ ≤ _; exact Nat.le_of_eq rfl) (hb hby at_260) (fun _ _ => ⟨rfl, rfl, (by decide : 11 + 0 ≤ _), (by decide : 64 + 0 ≤ _)⟩)
  dsimp only [Pt.U, Pt.locs, Pt.cells, Pt.slots] at X65 l65 y65 z65 st65 hQ65
  subst l65 y65 z65
  obtain ⟨rfl, N65q, e65⟩ := hQ65
  have N65 := Fr.app N61 N65q
  refine Gl.pre (fun _ k => st65.trans k) ?_
  refine Gl.pre (fun _ k => X65.checkcastNull hx (g := (mkF m 263 #[.val (.int p1), .val (.int p2), .val (.int p3), .val (.int p4), .val (.int p5), .val (.int ((p1 &&& (2147483647 : Int32)) % (3 : Int32))), .val (.ref la35), .val (.ref wb), .val (.int (7 : Int32)), .val (.int nnl), .val (.int (p3 &&& (7 : Int32))), .val (.int (own_ch p5)), .val (.ref b40), .val (.int ((own_A1 (own_ch p5)).getD ((p3 &&& (7 : Int32))).toNatClampNeg 0)), .val (.int cch), .val (.ref ob60), .unset, .unset] [.null])) rfl rfl (hb hby at_263) _ k) ?_
  show Gl p.tables e below PP (T65.setTop (mkF m 266 #[.val (.int p1), .val (.int p2), .val (.int p3), .val (.int p4), .val (.int p5), .val (.int ((p1 &&& (2147483647 : Int32)) % (3 : Int32))), .val (.ref la35), .val (.ref wb), .val (.int (7 : Int32)), .val (.int nnl), .val (.int (p3 &&& (7 : Int32))), .val (.int (own_ch p5)), .val (.ref b40), .val (.int ((own_A1 (own_ch p5)).getD ((p3 &&& (7 : Int32))).toNatClampNeg 0)), .val (.int cch), .val (.ref ob60), .unset, .unset] [.null]))
  refine Y.astore X65 hx (hb hby at_266) rfl rfl (l' := #[.val (.int p1), .val (.int p2), .val (.int p3), .val (.int p4), .val (.int p5), .val (.int ((p1 &&& (2147483647 : Int32)) % (3 : Int32))), .val (.ref la35), .val (.ref wb), .val (.int (7 : Int32)), .val (.int nnl), .val (.int (p3 &&& (7 : Int32))), .val (.int (own_ch p5)), .val (.ref b40), .val (.int ((own_A1 (own_ch p5)).getD ((p3 &&& (7 : Int32))).toNatClampNeg 0)), .val (.int cch), .val (.ref ob60), .val .null, .unset]) rfl ?_
  refine Y.iload X65 hx (hb hby at_268) rfl ?_
  refine Y.iload X65 hx (hb hby at_270) rfl ?_
  by_cases hc66 : nnl = (7 : Int32)
  refine Y.icmpNo X65 hx (hb hby at_272) rfl (teq hc66).2 ?_
  refine Y.iload X65 hx (hb hby at_275) rfl ?_
  refine Y.iload X65 hx (hb hby at_277) rfl ?_
  refine Y.icmpNo X65 hx (hb hby at_279) rfl (tlt (show (p3 &&& (7 : Int32)) < nnl from (by exact Decidable.byContradiction fun z => (fun z => q61_1 ((own_h1_1 (own_ch p5) cch (p3 &&& (7 : Int32)) nnl (own_p8d p3) hnnl).mpr z)) ⟨hc66, Or.inl z⟩))).2.1 ?_
  refine Y.iload X65 hx (hb hby at_282) rfl ?_
  refine Y.iload X65 hx (hb hby at_284) rfl ?_
  refine Y.icmpYes X65 hx (pc0 := 286) (pc' := 293) rfl (hb hby at_286) rfl (feq (show ¬ (cch = ((own_A1 (own_ch p5)).getD ((p3 &&& (7 : Int32))).toNatClampNeg 0)) from (fun z => (fun z => q61_1 ((own_h1_1 (own_ch p5) cch (p3 &&& (7 : Int32)) nnl (own_p8d p3) hnnl).mpr z)) ⟨hc66, Or.inr z⟩))).2 (by decide) (by decide) ?_
  refine Y.iconst X65 hx (hb hby at_293) ?_
  refine Y.istore X65 hx (hb hby at_294) rfl (l' := #[.val (.int p1), .val (.int p2), .val (.int p3), .val (.int p4), .val (.int p5), .val (.int ((p1 &&& (2147483647 : Int32)) % (3 : Int32))), .val (.ref la35), .val (.ref wb), .val (.int (7 : Int32)), .val (.int nnl), .val (.int (p3 &&& (7 : Int32))), .val (.int (own_ch p5)), .val (.ref b40), .val (.int ((own_A1 (own_ch p5)).getD ((p3 &&& (7 : Int32))).toNatClampNeg 0)), .val (.int cch), .val (.ref ob60), .val .null, .val (.int (0 : Int32))]) rfl ?_
  refine Y.iload X65 hx (hb hby at_296) rfl ?_
  refine Y.ifYes X65 hx (pc0 := 298) (pc' := 316) rfl (hb hby at_298) rfl ((if0 _ _).trans (teq (show (0 : Int32) = (0 : Int32) from (by decide))).1) (by decide) (by decide) ?_
  refine Y.aload X65 hx (hb hby at_316) rfl rfl ?_
  refine Y.ifnonnullNo X65 hx (hb hby at_318) rfl ?_
  refine Y.iconst X65 hx (hb hby at_321) ?_
  refine Y.goto X65 hx (pc0 := 322) (pc' := 326) rfl (hb hby at_322) (by decide) (by decide) ?_
  rw [hPP]
  refine own_finNW (Q := (Q0 Z p1 p2 p3 p4 p5 cs fo em va kv wa wb wc sa ta ka sb tb kb sc tc kc h0 n0)) (Z := Z) (EL := own_EL) X65 hx hlk hS60 (by rw [e65]; exact hk61) Bd.returns (t := .boolean) (z' := (1 : Int32)) (by simp) (by decide) (hb hby at_326) ?_ (by rw [hh, e65]; exact CR61.trans (CHv.at X65 hZ60 hEL CR61.1)) (by decide) (by decide)
  show Q0 Z p1 p2 p3 p4 p5 cs fo em va kv wa wb wc sa ta ka sb tb kb sc tc kc h0 n0 _ T65.heap _
  rw [e65]
  exact ⟨rfl, N65⟩
  refine Y.icmpYes X65 hx (pc0 := 272) (pc' := 293) rfl (hb hby at_272) rfl (feq hc66).2 (by decide) (by decide) ?_
  refine Y.iconst X65 hx (hb hby at_293) ?_
  refine Y.istore X65 hx (hb hby at_294) rfl (l' := #[.val (.int p1), .val (.int p2), .val (.int p3), .val (.int p4), .val (.int p5), .val (.int ((p1 &&& (2147483647 : Int32)) % (3 : Int32))), .val (.ref la35), .val (.ref wb), .val (.int (7 : Int32)), .val (.int nnl), .val (.int (p3 &&& (7 : Int32))), .val (.int (own_ch p5)), .val (.ref b40), .val (.int ((own_A1 (own_ch p5)).getD ((p3 &&& (7 : Int32))).toNatClampNeg 0)), .val (.int cch), .val (.ref ob60), .val .null, .val (.int (0 : Int32))]) rfl ?_
  refine Y.iload X65 hx (hb hby at_296) rfl ?_
  refine Y.ifYes X65 hx (pc0 := 298) (pc' := 316) rfl (hb hby at_298) rfl ((if0 _ _).trans (teq (show (0 : Int32) = (0 : Int32) from (by decide))).1) (by decide) (by decide) ?_
  refine Y.aload X65 hx (hb hby at_316) rfl rfl ?_
  refine Y.ifnonnullNo X65 hx (hb hby at_318) rfl ?_
  refine Y.iconst X65 hx (hb hby at_321) ?_
  refine Y.goto X65 hx (pc0 := 322) (pc' := 326) rfl (hb hby at_322) (by decide) (by decide) ?_
  rw [hPP]
  refine own_finNW (Q := (Q0 Z p1 p2 p3 p4 p5 cs fo em va kv wa wb wc sa ta ka sb tb kb sc tc kc h0 n0)) (Z := Z) (EL := own_EL) X65 hx hlk hS60 (by rw [e65]; exact hk61) Bd.returns (t := .boolean) (z' := (1 : Int32)) (by simp) (by decide) (hb hby at_326) ?_ (by rw [hh, e65]; exact CR61.trans (CHv.at X65 hZ60 hEL CR61.1)) (by decide) (by decide)
  show Q0 Z p1 p2 p3 p4 p5 cs fo em va kv wa wb wc sa ta ka sb tb kb sc tc kc h0 n0 _ T65.heap _
  rw [e65]
  exact ⟨rfl, N65⟩
  refine Y.icmpYes X0 hx (pc0 := 21) (pc' := 29) rfl (hb hby at_21) rfl (feq hc34).2 (by decide) (by decide) ?_
  obtain ⟨la67, T67, h67, q67, lb67, kb67, X67, e67, E67, hS67, hk67, hZ67, hown67, Es67, Fc67, Fv67, Va67, -, -, CR67c, Li67, hne67, st67⟩ := ldcCH X0 hx hZ0 hown0 (W 119 rfl) (own_wS hw) e0 hS0 hk0 hEL (by simp [own_EL, consts_1]) CR0.1 (vs := [(106 : Int32), (115 : Int32), (111 : Int32), (110 : Int32)].map Value.int) (z := (4 : Int32)) ⟨by decide, by decide⟩ (by decide) (by decide) (g := (mkF m 29 #[.val (.int p1), .val (.int p2), .val (.int p3), .val (.int p4), .val (.int p5), .val (.int ((p1 &&& (2147483647 : Int32)) % (3 : Int32))), .unset, .unset, .unset, .unset, .unset, .unset, .unset, .unset, .unset, .unset, .unset, .unset] [])) rfl (hb hby at_29) (n := 16) (by decide) (by decide) (by decide) (by decide)
  refine Gl.pre (fun _ k => st67 _ k) ?_
  have O_ := O_.ext E67
  have CR67 := CR0.trans CR67c
  have Z67 : n0 ≤ h67.size := Nat.le_trans Z0 E67.1
  have V_lb67 : Bal Z h67 lb67 .byte [(106 : Int32), (115 : Int32), (111 : Int32), (110 : Int32)] := own_balOf Va67 (by decide)
  show Gl p.tables e below PP (T67.setTop (mkF m 31 #[.val (.int p1), .val (.int p2), .val (.int p3), .val (.int p4), .val (.int p5), .val (.int ((p1 &&& (2147483647 : Int32)) % (3 : Int32))), .unset, .unset, .unset, .unset, .unset, .unset, .unset, .unset, .unset, .unset, .unset, .unset] [(.ref la67)]))
  refine Y.astore X67 hx (hb hby at_31) rfl rfl (l' := #[.val (.int p1), .val (.int p2), .val (.int p3), .val (.int p4), .val (.int p5), .val (.int ((p1 &&& (2147483647 : Int32)) % (3 : Int32))), .val (.ref la67), .unset, .unset, .unset, .unset, .unset, .unset, .unset, .unset, .unset, .unset, .unset]) rfl ?_
  refine Y.iload X67 hx (hb hby at_33) rfl ?_
  refine Y.ifYes X67 hx (pc0 := 35) (pc' := 44) rfl (hb hby at_35) rfl ((if0 _ _).trans (feq (show ¬ (((p1 &&& (2147483647 : Int32)) % (3 : Int32)) = (0 : Int32)) from hc1)).2) (by decide) (by decide) ?_
  refine Y.iload X67 hx (hb hby at_44) rfl ?_
  refine Y.iconst X67 hx (hb hby at_46) ?_
  refine Y.icmpYes X67 hx (pc0 := 47) (pc' := 56) rfl (hb hby at_47) rfl (feq (show ¬ (((p1 &&& (2147483647 : Int32)) % (3 : Int32)) = (1 : Int32)) from hc34)).2 (by decide) (by decide) ?_
  obtain ⟨T68, X68, e68, st68⟩ := getS2 X67 hx hZ67 hown67 (host := "") (Or.inl (W 120 rfl)) Via.refl e67 (SIC.ext O_.2) (g := (mkF m 56 #[.val (.int p1), .val (.int p2), .val (.int p3), .val (.int p4), .val (.int p5), .val (.int ((p1 &&& (2147483647 : Int32)) % (3 : Int32))), .val (.ref la67), .unset, .unset, .unset, .unset, .unset, .unset, .unset, .unset, .unset, .unset, .unset] [])) rfl (hb hby at_56)
  refine Gl.pre (fun _ k => st68 _ k) ?_
  refine Y.astore X68 hx (hb hby at_59) rfl rfl (l' := #[.val (.int p1), .val (.int p2), .val (.int p3), .val (.int p4), .val (.int p5), .val (.int ((p1 &&& (2147483647 : Int32)) % (3 : Int32))), .val (.ref la67), .val (.ref wc), .unset, .unset, .unset, .unset, .unset, .unset, .unset, .unset, .unset, .unset]) rfl ?_
  refine Y.aload X68 hx (hb hby at_61) rfl rfl ?_
  obtain ⟨cq69, kq69, qa69, qb69, qc69⟩ := isOf hZ67 e68 Es67
  obtain ⟨_, _, ⟨T69, L69, k69, n69⟩, -, X69, ⟨Lc69, hQ69, l69, y69, z69⟩, st69⟩ := X68.virtualBack hx (y := (⟨"java/lang/String", "length", "()I"⟩ : MethodName)) (z := (⟨"java/lang/String", "length", "()I"⟩ : MethodName)) hown67 (mvT hZ67 (W 12 rfl)) (mvT hZ67 (W 13 rfl)) (notFace_of_selects (args := #[]) (mvT hZ67 (W 15 rfl))) (mvT hZ67 (W 15 rfl)) (mvT hZ67 (W 14 rfl)) (by decide) (StrChars.Road.lenW (W := 0) hZ67 hwwordsLen (kI := 4) (W 3 rfl) Es67 Fv67 Fc67 Va67 own_Tc2 own_Tb2 (SBC.ext O_.2) hcs (by decide) (by decide) (by decide)) qa69 qc69 (g := (mkF m 63 #[.val (.int p1), .val (.int p2), .val (.int p3), .val (.int p4), .val (.int p5), .val (.int ((p1 &&& (2147483647 : Int32)) % (3 : Int32))), .val (.ref la67), .val (.ref wc), .unset, .unset, .unset, .unset, .unset, .unset, .unset, .unset, .unset, .unset] [(.ref la67)])) rfl (by rw [hml]; rfl) (Steps.refl _) (argsL := []) (rest := []) (lenOf pd_0 rfl) rfl (by show 2 * 0 + _ ≤ _; exact Nat.le_of_eq rfl) (hb hby at_63) (fun _ _ => ⟨rfl, e68, (by decide : 2 + 0 ≤ _), (by decide : 20 + 0 ≤ _)⟩)
  dsimp only [Pt.U, Pt.locs, Pt.cells, Pt.slots] at X69 l69 y69 z69 st69 hQ69
  subst l69 y69 z69
  obtain ⟨rfl, rfl, e69⟩ := hQ69
  have N69 := Fr.app N0 (Fr.nil n0)
  refine Gl.pre (fun _ k => st69.trans k) ?_
  show Gl p.tables e below PP (T69.setTop (mkF m 66 #[.val (.int p1), .val (.int p2), .val (.int p3), .val (.int p4), .val (.int p5), .val (.int ((p1 &&& (2147483647 : Int32)) % (3 : Int32))), .val (.ref la67), .val (.ref wc), .unset, .unset, .unset, .unset, .unset, .unset, .unset, .unset, .unset, .unset] [(.int (Int32.ofNat own_T2.length))]))
  rw [show (Int32.ofNat own_T2.length) = (4 : Int32) by decide]
  show Gl p.tables e below PP (T69.setTop (mkF m 66 #[.val (.int p1), .val (.int p2), .val (.int p3), .val (.int p4), .val (.int p5), .val (.int ((p1 &&& (2147483647 : Int32)) % (3 : Int32))), .val (.ref la67), .val (.ref wc), .unset, .unset, .unset, .unset, .unset, .unset, .unset, .unset, .unset, .unset] [(.int (4 : Int32))]))
  refine Y.istore X69 hx (hb hby at_66) rfl (l' := #[.val (.int p1), .val (.int p2), .val (.int p3), .val (.int p4), .val (.int p5), .val (.int ((p1 &&& (2147483647 : Int32)) % (3 : Int32))), .val (.ref la67), .val (.ref wc), .val (.int (4 : Int32)), .unset, .unset, .unset, .unset, .unset, .unset, .unset, .unset, .unset]) rfl ?_
  suffices J70 : ∀ nnl : Int32, nnl = (0 : Int32) ∨ nnl = (1 : Int32) ∨ nnl = (2 : Int32) ∨ nnl = (3 : Int32) ∨ nnl = (4 : Int32) ∨ nnl = (5 : Int32) ∨ nnl = (6 : Int32) ∨ nnl = (7 : Int32) ∨ nnl = (8 : Int32) → Gl p.tables e below PP (T69.setTop (mkF m 89 #[.val (.int p1), .val (.int p2), .val (.int p3), .val (.int p4), .val (.int p5), .val (.int ((p1 &&& (2147483647 : Int32)) % (3 : Int32))), .val (.ref la67), .val (.ref wc), .val (.int (4 : Int32)), .val (.int nnl), .unset, .unset, .unset, .unset, .unset, .unset, .unset, .unset] [])) by
   refine Y.iloadN X69 hx (hb hby at_68) rfl ?_
   refine Y.bipush X69 hx (hb hby at_69) ?_
   refine Y.iand X69 hx (hb hby at_71) rfl ?_
   by_cases hc71 : (p2 &&& (16 : Int32)) = (0 : Int32)
   refine Y.ifYes X69 hx (pc0 := 72) (pc' := 80) rfl (hb hby at_72) rfl ((if0 _ _).trans (teq hc71).1) (by decide) (by decide) ?_
   refine Y.iloadN X69 hx (hb hby at_80) rfl ?_
   refine Y.bipush X69 hx (hb hby at_81) ?_
   refine Y.iand X69 hx (hb hby at_83) rfl ?_
   refine Y.bipush X69 hx (hb hby at_84) ?_
   refine Gl.pre (fun _ k => iremM X69 hx rfl (hb hby at_86) rfl (by decide) k) ?_
   refine Y.istore X69 hx (hb hby at_87) rfl (l' := #[.val (.int p1), .val (.int p2), .val (.int p3), .val (.int p4), .val (.int p5), .val (.int ((p1 &&& (2147483647 : Int32)) % (3 : Int32))), .val (.ref la67), .val (.ref wc), .val (.int (4 : Int32)), .val (.int ((p2 &&& (15 : Int32)) % (9 : Int32))), .unset, .unset, .unset, .unset, .unset, .unset, .unset, .unset]) rfl ?_
   exact J70 _ (own_n9 p2)
   refine Y.ifNo X69 hx (hb hby at_72) rfl ((if0 _ _).trans (feq hc71).1) ?_
   refine Y.iload X69 hx (hb hby at_75) rfl ?_
   refine Y.goto X69 hx (pc0 := 77) (pc' := 87) rfl (hb hby at_77) (by decide) (by decide) ?_
   refine Y.istore X69 hx (hb hby at_87) rfl (l' := #[.val (.int p1), .val (.int p2), .val (.int p3), .val (.int p4), .val (.int p5), .val (.int ((p1 &&& (2147483647 : Int32)) % (3 : Int32))), .val (.ref la67), .val (.ref wc), .val (.int (4 : Int32)), .val (.int (4 : Int32)), .unset, .unset, .unset, .unset, .unset, .unset, .unset, .unset]) rfl ?_
   exact J70 _ (by decide)
  intro nnl hnnl
  show Gl p.tables e below PP (T69.setTop (mkF m 89 #[.val (.int p1), .val (.int p2), .val (.int p3), .val (.int p4), .val (.int p5), .val (.int ((p1 &&& (2147483647 : Int32)) % (3 : Int32))), .val (.ref la67), .val (.ref wc), .val (.int (4 : Int32)), .val (.int nnl), .unset, .unset, .unset, .unset, .unset, .unset, .unset, .unset] []))
  refine Y.iloadN X69 hx (hb hby at_89) rfl ?_
  refine Y.bipush X69 hx (hb hby at_90) ?_
  refine Y.iand X69 hx (hb hby at_92) rfl ?_
  refine Y.istore X69 hx (hb hby at_93) rfl (l' := #[.val (.int p1), .val (.int p2), .val (.int p3), .val (.int p4), .val (.int p5), .val (.int ((p1 &&& (2147483647 : Int32)) % (3 : Int32))), .val (.ref la67), .val (.ref wc), .val (.int (4 : Int32)), .val (.int nnl), .val (.int (p3 &&& (7 : Int32))), .unset, .unset, .unset, .unset, .unset, .unset, .unset]) rfl ?_
  refine Y.iload X69 hx (hb hby at_95) rfl ?_
  refine Y.sipush X69 hx (hb hby at_97) ?_
  refine Y.iand X69 hx (hb hby at_100) rfl ?_
  refine Y.i2c X69 hx (hb hby at_101) rfl ?_
  show Gl p.tables e below PP (T69.setTop (mkF m 102 #[.val (.int p1), .val (.int p2), .val (.int p3), .val (.int p4), .val (.int p5), .val (.int ((p1 &&& (2147483647 : Int32)) % (3 : Int32))), .val (.ref la67), .val (.ref wc), .val (.int (4 : Int32)), .val (.int nnl), .val (.int (p3 &&& (7 : Int32))), .unset, .unset, .unset, .unset, .unset, .unset, .unset] [(.int (own_ch p5))]))
  refine Y.istore X69 hx (hb hby at_102) rfl (l' := #[.val (.int p1), .val (.int p2), .val (.int p3), .val (.int p4), .val (.int p5), .val (.int ((p1 &&& (2147483647 : Int32)) % (3 : Int32))), .val (.ref la67), .val (.ref wc), .val (.int (4 : Int32)), .val (.int nnl), .val (.int (p3 &&& (7 : Int32))), .val (.int (own_ch p5)), .unset, .unset, .unset, .unset, .unset, .unset]) rfl ?_
  refine Y.bipush X69 hx (hb hby at_104) ?_
  obtain ⟨T72, h72, k72, X72, e72, E72, A72, st72⟩ := newP X69 hx hZ67 (W 25 rfl) e69 (g := (mkF m 106 #[.val (.int p1), .val (.int p2), .val (.int p3), .val (.int p4), .val (.int p5), .val (.int ((p1 &&& (2147483647 : Int32)) % (3 : Int32))), .val (.ref la67), .val (.ref wc), .val (.int (4 : Int32)), .val (.int nnl), .val (.int (p3 &&& (7 : Int32))), .val (.int (own_ch p5)), .unset, .unset, .unset, .unset, .unset, .unset] [(.int (8 : Int32))])) rfl (hb hby at_106) rfl (by decide) (cap := 8) (by decide) (by decide) (by decide) (by decide)
  obtain ⟨b72, g72⟩ : ∃ z, z = h67.size := ⟨_, rfl⟩
  rw [← g72] at A72 st72
  refine Gl.pre (fun _ k => st72 _ k) ?_
  have own_ne_lb67_b72 : lb67 ≠ b72 := by have q := Va67.lt; rw [g72]; exact Nat.ne_of_lt q
  have own_ne_b72_lb67 : b72 ≠ lb67 := own_ne_lb67_b72.symm
  have own_ne_la67_b72 : la67 ≠ b72 := by have q := Es67.lt; rw [g72]; exact Nat.ne_of_lt q
  have own_ne_b72_la67 : b72 ≠ la67 := own_ne_la67_b72.symm
  have g_b72 : n0 ≤ b72 := Nat.le_trans Z67 (Nat.le_of_eq g72.symm)
  have Sf_b72 := Safe.ext E72 CR67.1 (Safe.new (Z := Z) (EL := own_EL) (vm := T67.vm) (Nat.le_of_eq g72.symm))
  have CR72 := CR67.trans (CHr.ext E72 CR67.1)
  have O_ := O_.ext E72
  have Va67 := Va67.ext E72
  have Es67 := Es67.ext E72
  have Fc67 := Fc67.ext E72
  have Fv67 := Fv67.ext E72
  have V_lb67 := V_lb67.ext E72
  have Z72 : n0 ≤ h72.size := Nat.le_trans Z67 E72.1
  have hk72 := Nat.le_trans hk67 E72.1
  have V_b72 : Bal Z h72 b72 .char [(0 : Int32), (0 : Int32), (0 : Int32), (0 : Int32), (0 : Int32), (0 : Int32), (0 : Int32), (0 : Int32)] := Bal.new (ty := .char) A72 (n := 8) (by decide) rfl
  refine Y.astore X72 hx (hb hby at_108) rfl rfl (l' := #[.val (.int p1), .val (.int p2), .val (.int p3), .val (.int p4), .val (.int p5), .val (.int ((p1 &&& (2147483647 : Int32)) % (3 : Int32))), .val (.ref la67), .val (.ref wc), .val (.int (4 : Int32)), .val (.int nnl), .val (.int (p3 &&& (7 : Int32))), .val (.int (own_ch p5)), .val (.ref b72), .unset, .unset, .unset, .unset, .unset]) rfl ?_
  refine Y.aload X72 hx (hb hby at_110) rfl rfl ?_
  refine Y.iconst X72 hx (hb hby at_112) ?_
  refine Y.aload X72 hx (hb hby at_113) rfl rfl ?_
  refine Y.iconst X72 hx (hb hby at_115) ?_
  refine Y.iload X72 hx (hb hby at_116) rfl ?_
  obtain ⟨_, _, ⟨T73, L73, k73, n73⟩, -, X73, ⟨Lc73, hQ73, l73, y73, z73⟩, st73⟩ := Jvm.LawKit.callS X72 hx (y := (⟨"com/example/marcasite/marcasite/marc/CarrierNamedPinLaw", "at", "(Ljava/lang/String;IC)C"⟩ : MethodName)) hown67 (mvT hZ67 (W 26 rfl)) (mvT hZ67 (W 27 rfl)) (mvT hZ67 (W 28 rfl)) (mvT hZ67 (W 29 rfl)) (by decide) (backOf (W := 2) (rm3 l Z a0 hw [] la67 (0 : Int32) (own_ch p5) cs fo lb67 kb67 own_T2 _ _ h72 n0 Z72 Es67 Fv67 Fc67 Va67 own_Tc2 own_Tb2 own_Tr2 (by decide) (by decide) (own_chr p5) SBC hcs SFO hfo O_) hZ67 (W 29 rfl) (W 28 rfl) (by decide) (by decide)) (g := (mkF m 118 #[.val (.int p1), .val (.int p2), .val (.int p3), .val (.int p4), .val (.int p5), .val (.int ((p1 &&& (2147483647 : Int32)) % (3 : Int32))), .val (.ref la67), .val (.ref wc), .val (.int (4 : Int32)), .val (.int nnl), .val (.int (p3 &&& (7 : Int32))), .val (.int (own_ch p5)), .val (.ref b72), .unset, .unset, .unset, .unset, .unset] [(.int (own_ch p5)), (.int (0 : Int32)), (.ref la67), (.int (0 : Int32)), (.ref b72)])) rfl (by rw [hml]; rfl) (argsL := [(.ref la67), (.int (0 : Int32)), (.int (own_ch p5))]) (rest := [(.int (0 : Int32)), (.ref b72)]) (lenOf pd_10 rfl) rfl (by show 2 * 0 + _ ≤ _; exact Nat.le_of_eq rfl) (hb hby at_118) (fun _ _ => ⟨rfl, e72, (by decide : 3 + 0 ≤ _), (by decide : 28 + 0 ≤ _)⟩)
  dsimp only [Pt.U, Pt.locs, Pt.cells, Pt.slots] at X73 l73 y73 z73 st73 hQ73
  subst l73 y73 z73
  obtain ⟨rfl, N73q, e73⟩ := hQ73
  have N73 := Fr.app N69 N73q
  refine Gl.pre (fun _ k => st73 _ k) ?_
  obtain ⟨T74, h74, X74, e74, W74, V74, st74⟩ := own_stC X73 hx hZ67 e73 V_b72 (j := (0 : Int32)) (i := 0) (by decide) (by decide) (Nat.lt_of_lt_of_eq (by decide : 0 < 8) rfl) (g := (mkF m 121 #[.val (.int p1), .val (.int p2), .val (.int p3), .val (.int p4), .val (.int p5), .val (.int ((p1 &&& (2147483647 : Int32)) % (3 : Int32))), .val (.ref la67), .val (.ref wc), .val (.int (4 : Int32)), .val (.int nnl), .val (.int (p3 &&& (7 : Int32))), .val (.int (own_ch p5)), .val (.ref b72), .unset, .unset, .unset, .unset, .unset] [(.int (own_at own_T2 (0 : Int32) (own_ch p5))), (.int (0 : Int32)), (.ref b72)])) rfl rfl (hb hby at_121)
  refine Gl.pre (fun _ k => st74 _ k) ?_
  have CR74 := CR72.trans (CHr.wr W74 Sf_b72 CR72.1)
  have Sf_b72 := Safe.wr W74 Sf_b72 CR72.1 Sf_b72
  have O_ := O_.wr W74 g_b72
  have Va67 := Va67.other W74 (own_ne_lb67_b72)
  have Es67 := Es67.wr W74
  have Fc67 := Fc67.other W74 (Or.inl (own_ne_la67_b72))
  have Fv67 := Fv67.other W74 (Or.inl (own_ne_la67_b72))
  have V_lb67 := V_lb67.other W74 (own_ne_lb67_b72)
  have Z74 : n0 ≤ h74.size := by rw [W74.size]; exact Z72
  have hk74 := Nat.le_trans hk72 (Nat.le_of_eq W74.size.symm)
  have N74 := Fr.snoc X74 N73 g_b72
  have V_b72 : Bal Z h74 b72 .char [(nar .char (own_at own_T2 (0 : Int32) (own_ch p5))), (0 : Int32), (0 : Int32), (0 : Int32), (0 : Int32), (0 : Int32), (0 : Int32), (0 : Int32)] := V74
  refine Y.aload X74 hx (hb hby at_122) rfl rfl ?_
  refine Y.iconst X74 hx (hb hby at_124) ?_
  refine Y.aload X74 hx (hb hby at_125) rfl rfl ?_
  refine Y.iconst X74 hx (hb hby at_127) ?_
  refine Y.iload X74 hx (hb hby at_128) rfl ?_
  obtain ⟨_, _, ⟨T75, L75, k75, n75⟩, -, X75, ⟨Lc75, hQ75, l75, y75, z75⟩, st75⟩ := Jvm.LawKit.callS X74 hx (y := (⟨"com/example/marcasite/marcasite/marc/CarrierNamedPinLaw", "at", "(Ljava/lang/String;IC)C"⟩ : MethodName)) hown67 (mvT hZ67 (W 26 rfl)) (mvT hZ67 (W 27 rfl)) (mvT hZ67 (W 28 rfl)) (mvT hZ67 (W 29 rfl)) (by decide) (backOf (W := 2) (rm3 l Z a0 hw [] la67 (1 : Int32) (own_ch p5) cs fo lb67 kb67 own_T2 _ _ h74 n0 Z74 Es67 Fv67 Fc67 Va67 own_Tc2 own_Tb2 own_Tr2 (by decide) (by decide) (own_chr p5) SBC hcs SFO hfo O_) hZ67 (W 29 rfl) (W 28 rfl) (by decide) (by decide)) (g := (mkF m 130 #[.val (.int p1), .val (.int p2), .val (.int p3), .val (.int p4), .val (.int p5), .val (.int ((p1 &&& (2147483647 : Int32)) % (3 : Int32))), .val (.ref la67), .val (.ref wc), .val (.int (4 : Int32)), .val (.int nnl), .val (.int (p3 &&& (7 : Int32))), .val (.int (own_ch p5)), .val (.ref b72), .unset, .unset, .unset, .unset, .unset] [(.int (own_ch p5)), (.int (1 : Int32)), (.ref la67), (.int (1 : Int32)), (.ref b72)])) rfl (by rw [hml]; rfl) (argsL := [(.ref la67), (.int (1 : Int32)), (.int (own_ch p5))]) (rest := [(.int (1 : Int32)), (.ref b72)]) (lenOf pd_10 rfl) rfl (by show 2 * 0 + _ ≤ _; exact Nat.le_of_eq rfl) (hb hby at_130) (fun _ _ => ⟨rfl, e74, (by decide : 3 + 0 ≤ _), (by decide : 28 + 0 ≤ _)⟩)
  dsimp only [Pt.U, Pt.locs, Pt.cells, Pt.slots] at X75 l75 y75 z75 st75 hQ75
  subst l75 y75 z75
  obtain ⟨rfl, N75q, e75⟩ := hQ75
  have N75 := Fr.app N74 N75q
  refine Gl.pre (fun _ k => st75 _ k) ?_
  obtain ⟨T76, h76, X76, e76, W76, V76, st76⟩ := own_stC X75 hx hZ67 e75 V_b72 (j := (1 : Int32)) (i := 1) (by decide) (by decide) (Nat.lt_of_lt_of_eq (by decide : 1 < 8) rfl) (g := (mkF m 133 #[.val (.int p1), .val (.int p2), .val (.int p3), .val (.int p4), .val (.int p5), .val (.int ((p1 &&& (2147483647 : Int32)) % (3 : Int32))), .val (.ref la67), .val (.ref wc), .val (.int (4 : Int32)), .val (.int nnl), .val (.int (p3 &&& (7 : Int32))), .val (.int (own_ch p5)), .val (.ref b72), .unset, .unset, .unset, .unset, .unset] [(.int (own_at own_T2 (1 : Int32) (own_ch p5))), (.int (1 : Int32)), (.ref b72)])) rfl rfl (hb hby at_133)
  refine Gl.pre (fun _ k => st76 _ k) ?_
  have CR76 := CR74.trans (CHr.wr W76 Sf_b72 CR74.1)
  have Sf_b72 := Safe.wr W76 Sf_b72 CR74.1 Sf_b72
  have O_ := O_.wr W76 g_b72
  have Va67 := Va67.other W76 (own_ne_lb67_b72)
  have Es67 := Es67.wr W76
  have Fc67 := Fc67.other W76 (Or.inl (own_ne_la67_b72))
  have Fv67 := Fv67.other W76 (Or.inl (own_ne_la67_b72))
  have V_lb67 := V_lb67.other W76 (own_ne_lb67_b72)
  have Z76 : n0 ≤ h76.size := by rw [W76.size]; exact Z74
  have hk76 := Nat.le_trans hk74 (Nat.le_of_eq W76.size.symm)
  have N76 := Fr.snoc X76 N75 g_b72
  have V_b72 : Bal Z h76 b72 .char [(nar .char (own_at own_T2 (0 : Int32) (own_ch p5))), (nar .char (own_at own_T2 (1 : Int32) (own_ch p5))), (0 : Int32), (0 : Int32), (0 : Int32), (0 : Int32), (0 : Int32), (0 : Int32)] := V76
  refine Y.aload X76 hx (hb hby at_134) rfl rfl ?_
  refine Y.iconst X76 hx (hb hby at_136) ?_
  refine Y.aload X76 hx (hb hby at_137) rfl rfl ?_
  refine Y.iconst X76 hx (hb hby at_139) ?_
  refine Y.iload X76 hx (hb hby at_140) rfl ?_
  obtain ⟨_, _, ⟨T77, L77, k77, n77⟩, -, X77, ⟨Lc77, hQ77, l77, y77, z77⟩, st77⟩ := Jvm.LawKit.callS X76 hx (y := (⟨"com/example/marcasite/marcasite/marc/CarrierNamedPinLaw", "at", "(Ljava/lang/String;IC)C"⟩ : MethodName)) hown67 (mvT hZ67 (W 26 rfl)) (mvT hZ67 (W 27 rfl)) (mvT hZ67 (W 28 rfl)) (mvT hZ67 (W 29 rfl)) (by decide) (backOf (W := 2) (rm3 l Z a0 hw [] la67 (2 : Int32) (own_ch p5) cs fo lb67 kb67 own_T2 _ _ h76 n0 Z76 Es67 Fv67 Fc67 Va67 own_Tc2 own_Tb2 own_Tr2 (by decide) (by decide) (own_chr p5) SBC hcs SFO hfo O_) hZ67 (W 29 rfl) (W 28 rfl) (by decide) (by decide)) (g := (mkF m 142 #[.val (.int p1), .val (.int p2), .val (.int p3), .val (.int p4), .val (.int p5), .val (.int ((p1 &&& (2147483647 : Int32)) % (3 : Int32))), .val (.ref la67), .val (.ref wc), .val (.int (4 : Int32)), .val (.int nnl), .val (.int (p3 &&& (7 : Int32))), .val (.int (own_ch p5)), .val (.ref b72), .unset, .unset, .unset, .unset, .unset] [(.int (own_ch p5)), (.int (2 : Int32)), (.ref la67), (.int (2 : Int32)), (.ref b72)])) rfl (by rw [hml]; rfl) (argsL := [(.ref la67), (.int (2 : Int32)), (.int (own_ch p5))]) (rest := [(.int (2 : Int32)), (.ref b72)]) (lenOf pd_10 rfl) rfl (by show 2 * 0 + _ ≤ _; exact Nat.le_of_eq rfl) (hb hby at_142) (fun _ _ => ⟨rfl, e76, (by decide : 3 + 0 ≤ _), (by decide : 28 + 0 ≤ _)⟩)
  dsimp only [Pt.U, Pt.locs, Pt.cells, Pt.slots] at X77 l77 y77 z77 st77 hQ77
  subst l77 y77 z77
  obtain ⟨rfl, N77q, e77⟩ := hQ77
  have N77 := Fr.app N76 N77q
  refine Gl.pre (fun _ k => st77 _ k) ?_
  obtain ⟨T78, h78, X78, e78, W78, V78, st78⟩ := own_stC X77 hx hZ67 e77 V_b72 (j := (2 : Int32)) (i := 2) (by decide) (by decide) (Nat.lt_of_lt_of_eq (by decide : 2 < 8) rfl) (g := (mkF m 145 #[.val (.int p1), .val (.int p2), .val (.int p3), .val (.int p4), .val (.int p5), .val (.int ((p1 &&& (2147483647 : Int32)) % (3 : Int32))), .val (.ref la67), .val (.ref wc), .val (.int (4 : Int32)), .val (.int nnl), .val (.int (p3 &&& (7 : Int32))), .val (.int (own_ch p5)), .val (.ref b72), .unset, .unset, .unset, .unset, .unset] [(.int (own_at own_T2 (2 : Int32) (own_ch p5))), (.int (2 : Int32)), (.ref b72)])) rfl rfl (hb hby at_145)
  refine Gl.pre (fun _ k => st78 _ k) ?_
  have CR78 := CR76.trans (CHr.wr W78 Sf_b72 CR76.1)
  have Sf_b72 := Safe.wr W78 Sf_b72 CR76.1 Sf_b72
  have O_ := O_.wr W78 g_b72
  have Va67 := Va67.other W78 (own_ne_lb67_b72)
  have Es67 := Es67.wr W78
  have Fc67 := Fc67.other W78 (Or.inl (own_ne_la67_b72))
  have Fv67 := Fv67.other W78 (Or.inl (own_ne_la67_b72))
  have V_lb67 := V_lb67.other W78 (own_ne_lb67_b72)
  have Z78 : n0 ≤ h78.size := by rw [W78.size]; exact Z76
  have hk78 := Nat.le_trans hk76 (Nat.le_of_eq W78.size.symm)
  have N78 := Fr.snoc X78 N77 g_b72
  have V_b72 : Bal Z h78 b72 .char [(nar .char (own_at own_T2 (0 : Int32) (own_ch p5))), (nar .char (own_at own_T2 (1 : Int32) (own_ch p5))), (nar .char (own_at own_T2 (2 : Int32) (own_ch p5))), (0 : Int32), (0 : Int32), (0 : Int32), (0 : Int32), (0 : Int32)] := V78
  refine Y.aload X78 hx (hb hby at_146) rfl rfl ?_
  refine Y.iconst X78 hx (hb hby at_148) ?_
  refine Y.aload X78 hx (hb hby at_149) rfl rfl ?_
  refine Y.iconst X78 hx (hb hby at_151) ?_
  refine Y.iload X78 hx (hb hby at_152) rfl ?_
  obtain ⟨_, _, ⟨T79, L79, k79, n79⟩, -, X79, ⟨Lc79, hQ79, l79, y79, z79⟩, st79⟩ := Jvm.LawKit.callS X78 hx (y := (⟨"com/example/marcasite/marcasite/marc/CarrierNamedPinLaw", "at", "(Ljava/lang/String;IC)C"⟩ : MethodName)) hown67 (mvT hZ67 (W 26 rfl)) (mvT hZ67 (W 27 rfl)) (mvT hZ67 (W 28 rfl)) (mvT hZ67 (W 29 rfl)) (by decide) (backOf (W := 2) (rm3 l Z a0 hw [] la67 (3 : Int32) (own_ch p5) cs fo lb67 kb67 own_T2 _ _ h78 n0 Z78 Es67 Fv67 Fc67 Va67 own_Tc2 own_Tb2 own_Tr2 (by decide) (by decide) (own_chr p5) SBC hcs SFO hfo O_) hZ67 (W 29 rfl) (W 28 rfl) (by decide) (by decide)) (g := (mkF m 154 #[.val (.int p1), .val (.int p2), .val (.int p3), .val (.int p4), .val (.int p5), .val (.int ((p1 &&& (2147483647 : Int32)) % (3 : Int32))), .val (.ref la67), .val (.ref wc), .val (.int (4 : Int32)), .val (.int nnl), .val (.int (p3 &&& (7 : Int32))), .val (.int (own_ch p5)), .val (.ref b72), .unset, .unset, .unset, .unset, .unset] [(.int (own_ch p5)), (.int (3 : Int32)), (.ref la67), (.int (3 : Int32)), (.ref b72)])) rfl (by rw [hml]; rfl) (argsL := [(.ref la67), (.int (3 : Int32)), (.int (own_ch p5))]) (rest := [(.int (3 : Int32)), (.ref b72)]) (lenOf pd_10 rfl) rfl (by show 2 * 0 + _ ≤ _; exact Nat.le_of_eq rfl) (hb hby at_154) (fun _ _ => ⟨rfl, e78, (by decide : 3 + 0 ≤ _), (by decide : 28 + 0 ≤ _)⟩)
  dsimp only [Pt.U, Pt.locs, Pt.cells, Pt.slots] at X79 l79 y79 z79 st79 hQ79
  subst l79 y79 z79
  obtain ⟨rfl, N79q, e79⟩ := hQ79
  have N79 := Fr.app N78 N79q
  refine Gl.pre (fun _ k => st79 _ k) ?_
  obtain ⟨T80, h80, X80, e80, W80, V80, st80⟩ := own_stC X79 hx hZ67 e79 V_b72 (j := (3 : Int32)) (i := 3) (by decide) (by decide) (Nat.lt_of_lt_of_eq (by decide : 3 < 8) rfl) (g := (mkF m 157 #[.val (.int p1), .val (.int p2), .val (.int p3), .val (.int p4), .val (.int p5), .val (.int ((p1 &&& (2147483647 : Int32)) % (3 : Int32))), .val (.ref la67), .val (.ref wc), .val (.int (4 : Int32)), .val (.int nnl), .val (.int (p3 &&& (7 : Int32))), .val (.int (own_ch p5)), .val (.ref b72), .unset, .unset, .unset, .unset, .unset] [(.int (own_at own_T2 (3 : Int32) (own_ch p5))), (.int (3 : Int32)), (.ref b72)])) rfl rfl (hb hby at_157)
  refine Gl.pre (fun _ k => st80 _ k) ?_
  have CR80 := CR78.trans (CHr.wr W80 Sf_b72 CR78.1)
  have Sf_b72 := Safe.wr W80 Sf_b72 CR78.1 Sf_b72
  have O_ := O_.wr W80 g_b72
  have Va67 := Va67.other W80 (own_ne_lb67_b72)
  have Es67 := Es67.wr W80
  have Fc67 := Fc67.other W80 (Or.inl (own_ne_la67_b72))
  have Fv67 := Fv67.other W80 (Or.inl (own_ne_la67_b72))
  have V_lb67 := V_lb67.other W80 (own_ne_lb67_b72)
  have Z80 : n0 ≤ h80.size := by rw [W80.size]; exact Z78
  have hk80 := Nat.le_trans hk78 (Nat.le_of_eq W80.size.symm)
  have N80 := Fr.snoc X80 N79 g_b72
  have V_b72 : Bal Z h80 b72 .char [(nar .char (own_at own_T2 (0 : Int32) (own_ch p5))), (nar .char (own_at own_T2 (1 : Int32) (own_ch p5))), (nar .char (own_at own_T2 (2 : Int32) (own_ch p5))), (nar .char (own_at own_T2 (3 : Int32) (own_ch p5))), (0 : Int32), (0 : Int32), (0 : Int32), (0 : Int32)] := V80
  refine Y.aload X80 hx (hb hby at_158) rfl rfl ?_
  refine Y.iconst X80 hx (hb hby at_160) ?_
  refine Y.aload X80 hx (hb hby at_161) rfl rfl ?_
  refine Y.iconst X80 hx (hb hby at_163) ?_
  refine Y.iload X80 hx (hb hby at_164) rfl ?_
  obtain ⟨_, _, ⟨T81, L81, k81, n81⟩, -, X81, ⟨Lc81, hQ81, l81, y81, z81⟩, st81⟩ := Jvm.LawKit.callS X80 hx (y := (⟨"com/example/marcasite/marcasite/marc/CarrierNamedPinLaw", "at", "(Ljava/lang/String;IC)C"⟩ : MethodName)) hown67 (mvT hZ67 (W 26 rfl)) (mvT hZ67 (W 27 rfl)) (mvT hZ67 (W 28 rfl)) (mvT hZ67 (W 29 rfl)) (by decide) (backOf (W := 2) (rm3 l Z a0 hw [] la67 (4 : Int32) (own_ch p5) cs fo lb67 kb67 own_T2 _ _ h80 n0 Z80 Es67 Fv67 Fc67 Va67 own_Tc2 own_Tb2 own_Tr2 (by decide) (by decide) (own_chr p5) SBC hcs SFO hfo O_) hZ67 (W 29 rfl) (W 28 rfl) (by decide) (by decide)) (g := (mkF m 166 #[.val (.int p1), .val (.int p2), .val (.int p3), .val (.int p4), .val (.int p5), .val (.int ((p1 &&& (2147483647 : Int32)) % (3 : Int32))), .val (.ref la67), .val (.ref wc), .val (.int (4 : Int32)), .val (.int nnl), .val (.int (p3 &&& (7 : Int32))), .val (.int (own_ch p5)), .val (.ref b72), .unset, .unset, .unset, .unset, .unset] [(.int (own_ch p5)), (.int (4 : Int32)), (.ref la67), (.int (4 : Int32)), (.ref b72)])) rfl (by rw [hml]; rfl) (argsL := [(.ref la67), (.int (4 : Int32)), (.int (own_ch p5))]) (rest := [(.int (4 : Int32)), (.ref b72)]) (lenOf pd_10 rfl) rfl (by show 2 * 0 + _ ≤ _; exact Nat.le_of_eq rfl) (hb hby at_166) (fun _ _ => ⟨rfl, e80, (by decide : 3 + 0 ≤ _), (by decide : 28 + 0 ≤ _)⟩)
  dsimp only [Pt.U, Pt.locs, Pt.cells, Pt.slots] at X81 l81 y81 z81 st81 hQ81
  subst l81 y81 z81
  obtain ⟨rfl, N81q, e81⟩ := hQ81
  have N81 := Fr.app N80 N81q
  refine Gl.pre (fun _ k => st81 _ k) ?_
  obtain ⟨T82, h82, X82, e82, W82, V82, st82⟩ := own_stC X81 hx hZ67 e81 V_b72 (j := (4 : Int32)) (i := 4) (by decide) (by decide) (Nat.lt_of_lt_of_eq (by decide : 4 < 8) rfl) (g := (mkF m 169 #[.val (.int p1), .val (.int p2), .val (.int p3), .val (.int p4), .val (.int p5), .val (.int ((p1 &&& (2147483647 : Int32)) % (3 : Int32))), .val (.ref la67), .val (.ref wc), .val (.int (4 : Int32)), .val (.int nnl), .val (.int (p3 &&& (7 : Int32))), .val (.int (own_ch p5)), .val (.ref b72), .unset, .unset, .unset, .unset, .unset] [(.int (own_at own_T2 (4 : Int32) (own_ch p5))), (.int (4 : Int32)), (.ref b72)])) rfl rfl (hb hby at_169)
  refine Gl.pre (fun _ k => st82 _ k) ?_
  have CR82 := CR80.trans (CHr.wr W82 Sf_b72 CR80.1)
  have Sf_b72 := Safe.wr W82 Sf_b72 CR80.1 Sf_b72
  have O_ := O_.wr W82 g_b72
  have Va67 := Va67.other W82 (own_ne_lb67_b72)
  have Es67 := Es67.wr W82
  have Fc67 := Fc67.other W82 (Or.inl (own_ne_la67_b72))
  have Fv67 := Fv67.other W82 (Or.inl (own_ne_la67_b72))
  have V_lb67 := V_lb67.other W82 (own_ne_lb67_b72)
  have Z82 : n0 ≤ h82.size := by rw [W82.size]; exact Z80
  have hk82 := Nat.le_trans hk80 (Nat.le_of_eq W82.size.symm)
  have N82 := Fr.snoc X82 N81 g_b72
  have V_b72 : Bal Z h82 b72 .char [(nar .char (own_at own_T2 (0 : Int32) (own_ch p5))), (nar .char (own_at own_T2 (1 : Int32) (own_ch p5))), (nar .char (own_at own_T2 (2 : Int32) (own_ch p5))), (nar .char (own_at own_T2 (3 : Int32) (own_ch p5))), (nar .char (own_at own_T2 (4 : Int32) (own_ch p5))), (0 : Int32), (0 : Int32), (0 : Int32)] := V82
  refine Y.aload X82 hx (hb hby at_170) rfl rfl ?_
  refine Y.iconst X82 hx (hb hby at_172) ?_
  refine Y.aload X82 hx (hb hby at_173) rfl rfl ?_
  refine Y.iconst X82 hx (hb hby at_175) ?_
  refine Y.iload X82 hx (hb hby at_176) rfl ?_
  obtain ⟨_, _, ⟨T83, L83, k83, n83⟩, -, X83, ⟨Lc83, hQ83, l83, y83, z83⟩, st83⟩ := Jvm.LawKit.callS X82 hx (y := (⟨"com/example/marcasite/marcasite/marc/CarrierNamedPinLaw", "at", "(Ljava/lang/String;IC)C"⟩ : MethodName)) hown67 (mvT hZ67 (W 26 rfl)) (mvT hZ67 (W 27 rfl)) (mvT hZ67 (W 28 rfl)) (mvT hZ67 (W 29 rfl)) (by decide) (backOf (W := 2) (rm3 l Z a0 hw [] la67 (5 : Int32) (own_ch p5) cs fo lb67 kb67 own_T2 _ _ h82 n0 Z82 Es67 Fv67 Fc67 Va67 own_Tc2 own_Tb2 own_Tr2 (by decide) (by decide) (own_chr p5) SBC hcs SFO hfo O_) hZ67 (W 29 rfl) (W 28 rfl) (by decide) (by decide)) (g := (mkF m 178 #[.val (.int p1), .val (.int p2), .val (.int p3), .val (.int p4), .val (.int p5), .val (.int ((p1 &&& (2147483647 : Int32)) % (3 : Int32))), .val (.ref la67), .val (.ref wc), .val (.int (4 : Int32)), .val (.int nnl), .val (.int (p3 &&& (7 : Int32))), .val (.int (own_ch p5)), .val (.ref b72), .unset, .unset, .unset, .unset, .unset] [(.int (own_ch p5)), (.int (5 : Int32)), (.ref la67), (.int (5 : Int32)), (.ref b72)])) rfl (by rw [hml]; rfl) (argsL := [(.ref la67), (.int (5 : Int32)), (.int (own_ch p5))]) (rest := [(.int (5 : Int32)), (.ref b72)]) (lenOf pd_10 rfl) rfl (by show 2 * 0 + _ ≤ _; exact Nat.le_of_eq rfl) (hb hby at_178) (fun _ _ => ⟨rfl, e82, (by decide : 3 + 0 ≤ _), (by decide : 28 + 0 ≤ _)⟩)
  dsimp only [Pt.U, Pt.locs, Pt.cells, Pt.slots] at X83 l83 y83 z83 st83 hQ83
  subst l83 y83 z83
  obtain ⟨rfl, N83q, e83⟩ := hQ83
  have N83 := Fr.app N82 N83q
  refine Gl.pre (fun _ k => st83 _ k) ?_
  obtain ⟨T84, h84, X84, e84, W84, V84, st84⟩ := own_stC X83 hx hZ67 e83 V_b72 (j := (5 : Int32)) (i := 5) (by decide) (by decide) (Nat.lt_of_lt_of_eq (by decide : 5 < 8) rfl) (g := (mkF m 181 #[.val (.int p1), .val (.int p2), .val (.int p3), .val (.int p4), .val (.int p5), .val (.int ((p1 &&& (2147483647 : Int32)) % (3 : Int32))), .val (.ref la67), .val (.ref wc), .val (.int (4 : Int32)), .val (.int nnl), .val (.int (p3 &&& (7 : Int32))), .val (.int (own_ch p5)), .val (.ref b72), .unset, .unset, .unset, .unset, .unset] [(.int (own_at own_T2 (5 : Int32) (own_ch p5))), (.int (5 : Int32)), (.ref b72)])) rfl rfl (hb hby at_181)
  refine Gl.pre (fun _ k => st84 _ k) ?_
  have CR84 := CR82.trans (CHr.wr W84 Sf_b72 CR82.1)
  have Sf_b72 := Safe.wr W84 Sf_b72 CR82.1 Sf_b72
  have O_ := O_.wr W84 g_b72
  have Va67 := Va67.other W84 (own_ne_lb67_b72)
  have Es67 := Es67.wr W84
  have Fc67 := Fc67.other W84 (Or.inl (own_ne_la67_b72))
  have Fv67 := Fv67.other W84 (Or.inl (own_ne_la67_b72))
  have V_lb67 := V_lb67.other W84 (own_ne_lb67_b72)
  have Z84 : n0 ≤ h84.size := by rw [W84.size]; exact Z82
  have hk84 := Nat.le_trans hk82 (Nat.le_of_eq W84.size.symm)
  have N84 := Fr.snoc X84 N83 g_b72
  have V_b72 : Bal Z h84 b72 .char [(nar .char (own_at own_T2 (0 : Int32) (own_ch p5))), (nar .char (own_at own_T2 (1 : Int32) (own_ch p5))), (nar .char (own_at own_T2 (2 : Int32) (own_ch p5))), (nar .char (own_at own_T2 (3 : Int32) (own_ch p5))), (nar .char (own_at own_T2 (4 : Int32) (own_ch p5))), (nar .char (own_at own_T2 (5 : Int32) (own_ch p5))), (0 : Int32), (0 : Int32)] := V84
  refine Y.aload X84 hx (hb hby at_182) rfl rfl ?_
  refine Y.bipush X84 hx (hb hby at_184) ?_
  refine Y.aload X84 hx (hb hby at_186) rfl rfl ?_
  refine Y.bipush X84 hx (hb hby at_188) ?_
  refine Y.iload X84 hx (hb hby at_190) rfl ?_
  obtain ⟨_, _, ⟨T85, L85, k85, n85⟩, -, X85, ⟨Lc85, hQ85, l85, y85, z85⟩, st85⟩ := Jvm.LawKit.callS X84 hx (y := (⟨"com/example/marcasite/marcasite/marc/CarrierNamedPinLaw", "at", "(Ljava/lang/String;IC)C"⟩ : MethodName)) hown67 (mvT hZ67 (W 26 rfl)) (mvT hZ67 (W 27 rfl)) (mvT hZ67 (W 28 rfl)) (mvT hZ67 (W 29 rfl)) (by decide) (backOf (W := 2) (rm3 l Z a0 hw [] la67 (6 : Int32) (own_ch p5) cs fo lb67 kb67 own_T2 _ _ h84 n0 Z84 Es67 Fv67 Fc67 Va67 own_Tc2 own_Tb2 own_Tr2 (by decide) (by decide) (own_chr p5) SBC hcs SFO hfo O_) hZ67 (W 29 rfl) (W 28 rfl) (by decide) (by decide)) (g := (mkF m 192 #[.val (.int p1), .val (.int p2), .val (.int p3), .val (.int p4), .val (.int p5), .val (.int ((p1 &&& (2147483647 : Int32)) % (3 : Int32))), .val (.ref la67), .val (.ref wc), .val (.int (4 : Int32)), .val (.int nnl), .val (.int (p3 &&& (7 : Int32))), .val (.int (own_ch p5)), .val (.ref b72), .unset, .unset, .unset, .unset, .unset] [(.int (own_ch p5)), (.int (6 : Int32)), (.ref la67), (.int (6 : Int32)), (.ref b72)])) rfl (by rw [hml]; rfl) (argsL := [(.ref la67), (.int (6 : Int32)), (.int (own_ch p5))]) (rest := [(.int (6 : Int32)), (.ref b72)]) (lenOf pd_10 rfl) rfl (by show 2 * 0 + _ ≤ _; exact Nat.le_of_eq rfl) (hb hby at_192) (fun _ _ => ⟨rfl, e84, (by decide : 3 + 0 ≤ _), (by decide : 28 + 0 ≤ _)⟩)
  dsimp only [Pt.U, Pt.locs, Pt.cells, Pt.slots] at X85 l85 y85 z85 st85 hQ85
  subst l85 y85 z85
  obtain ⟨rfl, N85q, e85⟩ := hQ85
  have N85 := Fr.app N84 N85q
  refine Gl.pre (fun _ k => st85 _ k) ?_
  obtain ⟨T86, h86, X86, e86, W86, V86, st86⟩ := own_stC X85 hx hZ67 e85 V_b72 (j := (6 : Int32)) (i := 6) (by decide) (by decide) (Nat.lt_of_lt_of_eq (by decide : 6 < 8) rfl) (g := (mkF m 195 #[.val (.int p1), .val (.int p2), .val (.int p3), .val (.int p4), .val (.int p5), .val (.int ((p1 &&& (2147483647 : Int32)) % (3 : Int32))), .val (.ref la67), .val (.ref wc), .val (.int (4 : Int32)), .val (.int nnl), .val (.int (p3 &&& (7 : Int32))), .val (.int (own_ch p5)), .val (.ref b72), .unset, .unset, .unset, .unset, .unset] [(.int (own_at own_T2 (6 : Int32) (own_ch p5))), (.int (6 : Int32)), (.ref b72)])) rfl rfl (hb hby at_195)
  refine Gl.pre (fun _ k => st86 _ k) ?_
  have CR86 := CR84.trans (CHr.wr W86 Sf_b72 CR84.1)
  have Sf_b72 := Safe.wr W86 Sf_b72 CR84.1 Sf_b72
  have O_ := O_.wr W86 g_b72
  have Va67 := Va67.other W86 (own_ne_lb67_b72)
  have Es67 := Es67.wr W86
  have Fc67 := Fc67.other W86 (Or.inl (own_ne_la67_b72))
  have Fv67 := Fv67.other W86 (Or.inl (own_ne_la67_b72))
  have V_lb67 := V_lb67.other W86 (own_ne_lb67_b72)
  have Z86 : n0 ≤ h86.size := by rw [W86.size]; exact Z84
  have hk86 := Nat.le_trans hk84 (Nat.le_of_eq W86.size.symm)
  have N86 := Fr.snoc X86 N85 g_b72
  have V_b72 : Bal Z h86 b72 .char [(nar .char (own_at own_T2 (0 : Int32) (own_ch p5))), (nar .char (own_at own_T2 (1 : Int32) (own_ch p5))), (nar .char (own_at own_T2 (2 : Int32) (own_ch p5))), (nar .char (own_at own_T2 (3 : Int32) (own_ch p5))), (nar .char (own_at own_T2 (4 : Int32) (own_ch p5))), (nar .char (own_at own_T2 (5 : Int32) (own_ch p5))), (nar .char (own_at own_T2 (6 : Int32) (own_ch p5))), (0 : Int32)] := V86
  refine Y.aload X86 hx (hb hby at_196) rfl rfl ?_
  refine Y.bipush X86 hx (hb hby at_198) ?_
  refine Y.aload X86 hx (hb hby at_200) rfl rfl ?_
  refine Y.bipush X86 hx (hb hby at_202) ?_
  refine Y.iload X86 hx (hb hby at_204) rfl ?_
  obtain ⟨_, _, ⟨T87, L87, k87, n87⟩, -, X87, ⟨Lc87, hQ87, l87, y87, z87⟩, st87⟩ := Jvm.LawKit.callS X86 hx (y := (⟨"com/example/marcasite/marcasite/marc/CarrierNamedPinLaw", "at", "(Ljava/lang/String;IC)C"⟩ : MethodName)) hown67 (mvT hZ67 (W 26 rfl)) (mvT hZ67 (W 27 rfl)) (mvT hZ67 (W 28 rfl)) (mvT hZ67 (W 29 rfl)) (by decide) (backOf (W := 2) (rm3 l Z a0 hw [] la67 (7 : Int32) (own_ch p5) cs fo lb67 kb67 own_T2 _ _ h86 n0 Z86 Es67 Fv67 Fc67 Va67 own_Tc2 own_Tb2 own_Tr2 (by decide) (by decide) (own_chr p5) SBC hcs SFO hfo O_) hZ67 (W 29 rfl) (W 28 rfl) (by decide) (by decide)) (g := (mkF m 206 #[.val (.int p1), .val (.int p2), .val (.int p3), .val (.int p4), .val (.int p5), .val (.int ((p1 &&& (2147483647 : Int32)) % (3 : Int32))), .val (.ref la67), .val (.ref wc), .val (.int (4 : Int32)), .val (.int nnl), .val (.int (p3 &&& (7 : Int32))), .val (.int (own_ch p5)), .val (.ref b72), .unset, .unset, .unset, .unset, .unset] [(.int (own_ch p5)), (.int (7 : Int32)), (.ref la67), (.int (7 : Int32)), (.ref b72)])) rfl (by rw [hml]; rfl) (argsL := [(.ref la67), (.int (7 : Int32)), (.int (own_ch p5))]) (rest := [(.int (7 : Int32)), (.ref b72)]) (lenOf pd_10 rfl) rfl (by show 2 * 0 + _ ≤ _; exact Nat.le_of_eq rfl) (hb hby at_206) (fun _ _ => ⟨rfl, e86, (by decide : 3 + 0 ≤ _), (by decide : 28 + 0 ≤ _)⟩)
  dsimp only [Pt.U, Pt.locs, Pt.cells, Pt.slots] at X87 l87 y87 z87 st87 hQ87
  subst l87 y87 z87
  obtain ⟨rfl, N87q, e87⟩ := hQ87
  have N87 := Fr.app N86 N87q
  refine Gl.pre (fun _ k => st87 _ k) ?_
  obtain ⟨T88, h88, X88, e88, W88, V88, st88⟩ := own_stC X87 hx hZ67 e87 V_b72 (j := (7 : Int32)) (i := 7) (by decide) (by decide) (Nat.lt_of_lt_of_eq (by decide : 7 < 8) rfl) (g := (mkF m 209 #[.val (.int p1), .val (.int p2), .val (.int p3), .val (.int p4), .val (.int p5), .val (.int ((p1 &&& (2147483647 : Int32)) % (3 : Int32))), .val (.ref la67), .val (.ref wc), .val (.int (4 : Int32)), .val (.int nnl), .val (.int (p3 &&& (7 : Int32))), .val (.int (own_ch p5)), .val (.ref b72), .unset, .unset, .unset, .unset, .unset] [(.int (own_at own_T2 (7 : Int32) (own_ch p5))), (.int (7 : Int32)), (.ref b72)])) rfl rfl (hb hby at_209)
  refine Gl.pre (fun _ k => st88 _ k) ?_
  have CR88 := CR86.trans (CHr.wr W88 Sf_b72 CR86.1)
  have Sf_b72 := Safe.wr W88 Sf_b72 CR86.1 Sf_b72
  have O_ := O_.wr W88 g_b72
  have Va67 := Va67.other W88 (own_ne_lb67_b72)
  have Es67 := Es67.wr W88
  have Fc67 := Fc67.other W88 (Or.inl (own_ne_la67_b72))
  have Fv67 := Fv67.other W88 (Or.inl (own_ne_la67_b72))
  have V_lb67 := V_lb67.other W88 (own_ne_lb67_b72)
  have Z88 : n0 ≤ h88.size := by rw [W88.size]; exact Z86
  have hk88 := Nat.le_trans hk86 (Nat.le_of_eq W88.size.symm)
  have N88 := Fr.snoc X88 N87 g_b72
  have V_b72 : Bal Z h88 b72 .char [(nar .char (own_at own_T2 (0 : Int32) (own_ch p5))), (nar .char (own_at own_T2 (1 : Int32) (own_ch p5))), (nar .char (own_at own_T2 (2 : Int32) (own_ch p5))), (nar .char (own_at own_T2 (3 : Int32) (own_ch p5))), (nar .char (own_at own_T2 (4 : Int32) (own_ch p5))), (nar .char (own_at own_T2 (5 : Int32) (own_ch p5))), (nar .char (own_at own_T2 (6 : Int32) (own_ch p5))), (nar .char (own_at own_T2 (7 : Int32) (own_ch p5)))] := V88
  rw [own_eA2 (own_chr p5)] at V_b72
  refine Y.aload X88 hx (hb hby at_210) rfl rfl ?_
  refine Y.iload X88 hx (hb hby at_212) rfl ?_
  refine Gl.pre (fun _ k => own_ldC X88 hx hZ67 e88 V_b72 (j := (p3 &&& (7 : Int32))) (i := ((p3 &&& (7 : Int32))).toNatClampNeg) (own_p8 p3).1 rfl (Nat.lt_of_lt_of_eq (own_p8 p3).2 rfl) (v := ((own_A2 (own_ch p5)).getD ((p3 &&& (7 : Int32))).toNatClampNeg 0)) rfl (g := (mkF m 214 #[.val (.int p1), .val (.int p2), .val (.int p3), .val (.int p4), .val (.int p5), .val (.int ((p1 &&& (2147483647 : Int32)) % (3 : Int32))), .val (.ref la67), .val (.ref wc), .val (.int (4 : Int32)), .val (.int nnl), .val (.int (p3 &&& (7 : Int32))), .val (.int (own_ch p5)), .val (.ref b72), .unset, .unset, .unset, .unset, .unset] [(.int (p3 &&& (7 : Int32))), (.ref b72)])) rfl rfl (hb hby at_214) _ k) ?_
  refine Y.istore X88 hx (hb hby at_215) rfl (l' := #[.val (.int p1), .val (.int p2), .val (.int p3), .val (.int p4), .val (.int p5), .val (.int ((p1 &&& (2147483647 : Int32)) % (3 : Int32))), .val (.ref la67), .val (.ref wc), .val (.int (4 : Int32)), .val (.int nnl), .val (.int (p3 &&& (7 : Int32))), .val (.int (own_ch p5)), .val (.ref b72), .val (.int ((own_A2 (own_ch p5)).getD ((p3 &&& (7 : Int32))).toNatClampNeg 0)), .unset, .unset, .unset, .unset]) rfl ?_
  suffices J89 : ∀ cch : Int32, ¬ cch < 0 ∧ ¬ (255 : Int32) < cch → Gl p.tables e below PP (T88.setTop (mkF m 238 #[.val (.int p1), .val (.int p2), .val (.int p3), .val (.int p4), .val (.int p5), .val (.int ((p1 &&& (2147483647 : Int32)) % (3 : Int32))), .val (.ref la67), .val (.ref wc), .val (.int (4 : Int32)), .val (.int nnl), .val (.int (p3 &&& (7 : Int32))), .val (.int (own_ch p5)), .val (.ref b72), .val (.int ((own_A2 (own_ch p5)).getD ((p3 &&& (7 : Int32))).toNatClampNeg 0)), .val (.int cch), .unset, .unset, .unset] [])) by
   refine Y.iloadN X88 hx (hb hby at_217) rfl ?_
   refine Y.sipush X88 hx (hb hby at_218) ?_
   refine Y.iand X88 hx (hb hby at_221) rfl ?_
   by_cases hc90 : (p4 &&& (256 : Int32)) = (0 : Int32)
   refine Y.ifYes X88 hx (pc0 := 222) (pc' := 230) rfl (hb hby at_222) rfl ((if0 _ _).trans (teq hc90).1) (by decide) (by decide) ?_
   refine Y.iloadN X88 hx (hb hby at_230) rfl ?_
   refine Y.sipush X88 hx (hb hby at_231) ?_
   refine Y.iand X88 hx (hb hby at_234) rfl ?_
   refine Y.i2c X88 hx (hb hby at_235) rfl ?_
   refine Y.istore X88 hx (hb hby at_236) rfl (l' := #[.val (.int p1), .val (.int p2), .val (.int p3), .val (.int p4), .val (.int p5), .val (.int ((p1 &&& (2147483647 : Int32)) % (3 : Int32))), .val (.ref la67), .val (.ref wc), .val (.int (4 : Int32)), .val (.int nnl), .val (.int (p3 &&& (7 : Int32))), .val (.int (own_ch p5)), .val (.ref b72), .val (.int ((own_A2 (own_ch p5)).getD ((p3 &&& (7 : Int32))).toNatClampNeg 0)), .val (.int ((p4 &&& (255 : Int32)).toUInt32.toUInt16.toUInt32.toInt32)), .unset, .unset, .unset]) rfl ?_
   exact J89 _ (own_chr p4)
   refine Y.ifNo X88 hx (hb hby at_222) rfl ((if0 _ _).trans (feq hc90).1) ?_
   refine Y.iload X88 hx (hb hby at_225) rfl ?_
   refine Y.goto X88 hx (pc0 := 227) (pc' := 236) rfl (hb hby at_227) (by decide) (by decide) ?_
   refine Y.istore X88 hx (hb hby at_236) rfl (l' := #[.val (.int p1), .val (.int p2), .val (.int p3), .val (.int p4), .val (.int p5), .val (.int ((p1 &&& (2147483647 : Int32)) % (3 : Int32))), .val (.ref la67), .val (.ref wc), .val (.int (4 : Int32)), .val (.int nnl), .val (.int (p3 &&& (7 : Int32))), .val (.int (own_ch p5)), .val (.ref b72), .val (.int ((own_A2 (own_ch p5)).getD ((p3 &&& (7 : Int32))).toNatClampNeg 0)), .val (.int ((own_A2 (own_ch p5)).getD ((p3 &&& (7 : Int32))).toNatClampNeg 0)), .unset, .unset, .unset]) rfl ?_
   exact J89 _ (own_gr (own_Ar2 (own_chr p5)) _)
  intro cch hcch
  show Gl p.tables e below PP (T88.setTop (mkF m 238 #[.val (.int p1), .val (.int p2), .val (.int p3), .val (.int p4), .val (.int p5), .val (.int ((p1 &&& (2147483647 : Int32)) % (3 : Int32))), .val (.ref la67), .val (.ref wc), .val (.int (4 : Int32)), .val (.int nnl), .val (.int (p3 &&& (7 : Int32))), .val (.int (own_ch p5)), .val (.ref b72), .val (.int ((own_A2 (own_ch p5)).getD ((p3 &&& (7 : Int32))).toNatClampNeg 0)), .val (.int cch), .unset, .unset, .unset] []))
  refine Y.aload X88 hx (hb hby at_238) rfl rfl ?_
  refine Y.iload X88 hx (hb hby at_240) rfl ?_
  refine Y.iload X88 hx (hb hby at_242) rfl ?_
  obtain ⟨T91, h91, X91, e91, W91, V91, st91⟩ := own_stC X88 hx hZ67 e88 V_b72 (j := (p3 &&& (7 : Int32))) (i := ((p3 &&& (7 : Int32))).toNatClampNeg) (own_p8 p3).1 rfl (Nat.lt_of_lt_of_eq (own_p8 p3).2 rfl) (g := (mkF m 244 #[.val (.int p1), .val (.int p2), .val (.int p3), .val (.int p4), .val (.int p5), .val (.int ((p1 &&& (2147483647 : Int32)) % (3 : Int32))), .val (.ref la67), .val (.ref wc), .val (.int (4 : Int32)), .val (.int nnl), .val (.int (p3 &&& (7 : Int32))), .val (.int (own_ch p5)), .val (.ref b72), .val (.int ((own_A2 (own_ch p5)).getD ((p3 &&& (7 : Int32))).toNatClampNeg 0)), .val (.int cch), .unset, .unset, .unset] [(.int cch), (.int (p3 &&& (7 : Int32))), (.ref b72)])) rfl rfl (hb hby at_244)
  refine Gl.pre (fun _ k => st91 _ k) ?_
  have CR91 := CR88.trans (CHr.wr W91 Sf_b72 CR88.1)
  have Sf_b72 := Safe.wr W91 Sf_b72 CR88.1 Sf_b72
  have O_ := O_.wr W91 g_b72
  have Va67 := Va67.other W91 (own_ne_lb67_b72)
  have Es67 := Es67.wr W91
  have Fc67 := Fc67.other W91 (Or.inl (own_ne_la67_b72))
  have Fv67 := Fv67.other W91 (Or.inl (own_ne_la67_b72))
  have V_lb67 := V_lb67.other W91 (own_ne_lb67_b72)
  have Z91 : n0 ≤ h91.size := by rw [W91.size]; exact Z88
  have hk91 := Nat.le_trans hk88 (Nat.le_of_eq W91.size.symm)
  have N91 := Fr.snoc X91 N88 g_b72
  have V_b72 := V91
  rw [own_nc hcch] at V_b72
  refine Y.aload X91 hx (hb hby at_245) rfl rfl ?_
  refine Y.iload X91 hx (hb hby at_247) rfl ?_
  obtain ⟨_, _, ⟨T92, L92, k92, n92⟩, -, X92, hS92c, hg92, ⟨Lc92, hQ92, l92, y92, z92, CR92c⟩, st92⟩ := callSS X91 hx (y := (⟨"com/example/marcasite/marcasite/marc/CarrierNamedPinLaw", "prefix", "([CI)Ljava/lang/String;"⟩ : MethodName)) hown67 (mvT hZ67 (W 52 rfl)) (mvT hZ67 (W 53 rfl)) (mvT hZ67 (W 28 rfl)) (mvT hZ67 (W 54 rfl)) (by decide) (own_backH (W := 0) (rm9 l Z a0 hw [] b72 nnl ((own_A2 (own_ch p5)).set ((p3 &&& (7 : Int32))).toNatClampNeg cch) cs h91 n0 Z91 V_b72 (by rw [List.length_set]; rfl) (own_setall (P := fun c => ¬ c < 0 ∧ ¬ (255 : Int32) < c) (own_Ar2 (own_chr p5)) hcch) hnnl SBC hcs O_ hEL) hZ67 (W 54 rfl) (W 28 rfl) (by decide) (by decide) hEL CR91.1 all0) (g := (mkF m 249 #[.val (.int p1), .val (.int p2), .val (.int p3), .val (.int p4), .val (.int p5), .val (.int ((p1 &&& (2147483647 : Int32)) % (3 : Int32))), .val (.ref la67), .val (.ref wc), .val (.int (4 : Int32)), .val (.int nnl), .val (.int (p3 &&& (7 : Int32))), .val (.int (own_ch p5)), .val (.ref b72), .val (.int ((own_A2 (own_ch p5)).getD ((p3 &&& (7 : Int32))).toNatClampNeg 0)), .val (.int cch), .unset, .unset, .unset] [(.int nnl), (.ref b72)])) rfl (by rw [hml]; rfl) (argsL := [(.ref b72), (.int nnl)]) (rest := []) (lenOf pd_11 rfl) rfl (by show 2 * 0 + _ ≤ _; exact Nat.le_of_eq rfl) (hb hby at_249) (fun _ _ => ⟨rfl, e91, (by decide : 3 + 6 ≤ _), (by decide : 28 + 20 ≤ _)⟩)
  dsimp only [Pt.U, Pt.locs, Pt.cells, Pt.slots] at X92 l92 y92 z92 st92 hQ92 hS92c hg92 CR92c
  subst l92 y92 z92
  have X92 : Stand p l e room_1 (s.setVm T92.vm) m #[(.int p1), (.int p2), (.int p3), (.int p4), (.int p5)] below meth c T92 _ _ _ := X92
  have hS92 := foldS hS67 (Nat.le_trans hk91 (Nat.le_of_eq (congrArg Array.size e91.symm))) hS92c hg92
  have hZ92 : Z.Warmed39 (s.setVm T92.vm).vm := State.Warmed39.trans (t := s.setVm T67.vm) hZ67 hS92c.1
  have hown92 : (s.setVm T92.vm).vm.findClass "com/example/marcasite/marcasite/marc/CarrierNamedPinLaw" = some m.cls := by rw [show (s.setVm T92.vm).vm = T92.vm from rfl, hS92c.1.alike.findClass]; exact hown67
  have Sf_b72 := CR92c.safe V_b72.lt Sf_b72
  have CR92 := CR91.trans CR92c
  obtain ⟨ob92, tv92, kt92, ds92, hds92, rfl, N92q, K92, hz92, Eb92, Fv92, Fc92, Kt92⟩ := hQ92
  have N92 := Fr.app N91 N92q
  refine Gl.pre (fun _ k => st92.trans k) ?_
  have own_ne_la67_ob92 : la67 ≠ ob92 := Nat.ne_of_lt (Nat.lt_of_lt_of_le Es67.lt hz92)
  have own_ne_ob92_la67 := own_ne_la67_ob92.symm
  have own_ne_lb67_ob92 : lb67 ≠ ob92 := Nat.ne_of_lt (Nat.lt_of_lt_of_le V_lb67.lt hz92)
  have own_ne_ob92_lb67 := own_ne_lb67_ob92.symm
  have own_ne_b72_ob92 : b72 ≠ ob92 := Nat.ne_of_lt (Nat.lt_of_lt_of_le V_b72.lt hz92)
  have own_ne_ob92_b72 := own_ne_b72_ob92.symm
  have g_ob92 : n0 ≤ ob92 := Nat.le_trans Z91 hz92
  have Sf_ob920 := Safe.new (Z := Z) (EL := own_EL) (vm := T92.vm) hz92
  have O_ := O_.keep K92 all0
  have Va67 := Va67.keep K92 nin0
  have Es67 := Es67.keep K92
  have Fc67 := Fc67.keep K92 nin0
  have Fv67 := Fv67.keep K92 nin0
  have V_lb67 := V_lb67.keep K92 nin0
  have V_b72 := V_b72.keep K92 nin0
  have Z92 : n0 ≤ T92.heap.size := Nat.le_trans Z91 K92.1
  have E_ob92 := Eb92
  have F_value_ob92 := Fv92
  have F_coder_ob92 := Fc92
  have K_tv92 := Kt92
  refine Y.astore X92 hx (hb hby at_252) rfl rfl (l' := #[.val (.int p1), .val (.int p2), .val (.int p3), .val (.int p4), .val (.int p5), .val (.int ((p1 &&& (2147483647 : Int32)) % (3 : Int32))), .val (.ref la67), .val (.ref wc), .val (.int (4 : Int32)), .val (.int nnl), .val (.int (p3 &&& (7 : Int32))), .val (.int (own_ch p5)), .val (.ref b72), .val (.int ((own_A2 (own_ch p5)).getD ((p3 &&& (7 : Int32))).toNatClampNeg 0)), .val (.int cch), .val (.ref ob92), .unset, .unset]) rfl ?_
  refine Y.aload X92 hx (hb hby at_254) rfl rfl ?_
  obtain ⟨_, _, ⟨T93, L93, k93, n93⟩, -, X93, ⟨Lc93, hQ93, l93, y93, z93⟩, st93⟩ := Jvm.LawKit.callS X92 hx (y := (⟨"com/example/marcasite/marcasite/marc/Carrier", "named", "(Ljava/lang/String;)Ljava/util/Optional;"⟩ : MethodName)) hown92 (mvT hZ92 (W 76 rfl)) (mvT hZ92 (W 77 rfl)) (mvT hZ92 (W 10 rfl)) (mvT hZ92 (W 78 rfl)) (by decide) (backOf (W := 0) (rm16 l Z a0 hw [] ob92 tv92 kt92 ds92 cs em va kv wa wb wc sa ta ka sb tb kb sc tc kc T92.heap n0 Z92 E_ob92 F_value_ob92 F_coder_ob92 K_tv92 (by rw [hds92]; exact fun c hc => own_setall (P := fun c => ¬ c < 0 ∧ ¬ (255 : Int32) < c) (own_Ar2 (own_chr p5)) hcch c (List.mem_of_mem_take hc)) (by rw [hds92]; exact own_dl2 _ _ _ _) (ZF_optionName_wa.ext O_.2) (ZE_sa.ext O_.2) (ZF_value_sa.ext O_.2) (ZF_coder_sa.ext O_.2) (ZK_ta.ext O_.2) (ZF_optionName_wb.ext O_.2) (ZE_sb.ext O_.2) (ZF_value_sb.ext O_.2) (ZF_coder_sb.ext O_.2) (ZK_tb.ext O_.2) (ZF_optionName_wc.ext O_.2) (ZE_sc.ext O_.2) (ZF_value_sc.ext O_.2) (ZF_coder_sc.ext O_.2) (ZK_tc.ext O_.2) (ZE_em.ext O_.2) (ZF_value_em.ext O_.2) SVA AVA EVA SEM SBC hcs O_) hZ92 (W 78 rfl) (W 10 rfl) (by decide) (by decide)) (g := (mkF m 256 #[.val (.int p1), .val (.int p2), .val (.int p3), .val (.int p4), .val (.int p5), .val (.int ((p1 &&& (2147483647 : Int32)) % (3 : Int32))), .val (.ref la67), .val (.ref wc), .val (.int (4 : Int32)), .val (.int nnl), .val (.int (p3 &&& (7 : Int32))), .val (.int (own_ch p5)), .val (.ref b72), .val (.int ((own_A2 (own_ch p5)).getD ((p3 &&& (7 : Int32))).toNatClampNeg 0)), .val (.int cch), .val (.ref ob92), .unset, .unset] [(.ref ob92)])) rfl (by rw [hml]; rfl) (argsL := [(.ref ob92)]) (rest := []) (lenOf pd_12 rfl) rfl (by show 2 * 0 + _ ≤ _; exact Nat.le_of_eq rfl) (hb hby at_256) (fun _ _ => ⟨rfl, rfl, (by decide : 9 + 2 ≤ _), (by decide : 48 + 4 ≤ _)⟩)
  dsimp only [Pt.U, Pt.locs, Pt.cells, Pt.slots] at X93 l93 y93 z93 st93 hQ93
  subst l93 y93 z93
  obtain ⟨oo93, rfl, N93q, K93, Eo93, hD93⟩ := hQ93
  have N93 := Fr.app N92 N93q
  refine Gl.pre (fun _ k => st93 _ k) ?_
  have Sf_b72 := Safe.keep K93 all0 CR92.1 Sf_b72
  have CR93 := CR92.trans (CHr.keep K93 all0 CR92.1)
  have O_ := O_.keep K93 all0
  have Va67 := Va67.keep K93 nin0
  have Es67 := Es67.keep K93
  have Fc67 := Fc67.keep K93 nin0
  have Fv67 := Fv67.keep K93 nin0
  have V_lb67 := V_lb67.keep K93 nin0
  have V_b72 := V_b72.keep K93 nin0
  have E_ob92 := E_ob92.keep K93
  have F_value_ob92 := F_value_ob92.keep K93 nin0
  have F_coder_ob92 := F_coder_ob92.keep K93 nin0
  have K_tv92 := K_tv92.keep K93 nin0
  have hk93 := Nat.le_trans (Nat.le_refl _) K93.1
  have Z93 : n0 ≤ T93.heap.size := Nat.le_trans Z92 K93.1
  have E_oo93 := Eo93
  rw [hds92] at hD93
  rcases hD93 with ⟨q93_0, Fo93⟩ | ⟨q93_0, q93_1, Fo93⟩ | ⟨q93_0, q93_1, q93_2, Fo93⟩ | ⟨q93_0, q93_1, q93_2, Fo93⟩
  exact absurd q93_0 (own_h2_0 (own_ch p5) cch (p3 &&& (7 : Int32)) nnl (own_p8d p3) hnnl)
  exact absurd q93_1 (own_h2_1 (own_ch p5) cch (p3 &&& (7 : Int32)) nnl (own_p8d p3) hnnl)
  have F_value_oo93 := Fo93
  show Gl p.tables e below PP (T93.setTop (mkF m 259 #[.val (.int p1), .val (.int p2), .val (.int p3), .val (.int p4), .val (.int p5), .val (.int ((p1 &&& (2147483647 : Int32)) % (3 : Int32))), .val (.ref la67), .val (.ref wc), .val (.int (4 : Int32)), .val (.int nnl), .val (.int (p3 &&& (7 : Int32))), .val (.int (own_ch p5)), .val (.ref b72), .val (.int ((own_A2 (own_ch p5)).getD ((p3 &&& (7 : Int32))).toNatClampNeg 0)), .val (.int cch), .val (.ref ob92), .unset, .unset] [(.ref oo93)]))
  refine Y.aconstNull X93 hx (hb hby at_259) ?_
  obtain ⟨cq94, kq94, qa94, qb94, qc94⟩ := isOf hZ92 rfl E_oo93
  obtain ⟨_, _, ⟨T94, L94, k94, n94⟩, -, X94, ⟨Lc94, hQ94, l94, y94, z94⟩, st94⟩ := X93.virtualBack hx (y := (⟨"java/util/Optional", "orElse", "(Ljava/lang/Object;)Ljava/lang/Object;"⟩ : MethodName)) (z := (⟨"java/util/Optional", "orElse", "(Ljava/lang/Object;)Ljava/lang/Object;"⟩ : MethodName)) hown92 (mvT hZ92 (W 112 rfl)) (mvT hZ92 (W 113 rfl)) (notFace_of_selects (args := #[]) (mvT hZ92 (W 115 rfl))) (mvT hZ92 (W 115 rfl)) (mvT hZ92 (W 114 rfl)) (by decide) (backOf (W := 0) (rmorA l Z a0 hw [] oo93 wc T93.heap n0 Z93 F_value_oo93) hZ92 (W 116 rfl) (W 109 rfl) (by decide) (by decide)) qa94 qc94 (g := (mkF m 260 #[.val (.int p1), .val (.int p2), .val (.int p3), .val (.int p4), .val (.int p5), .val (.int ((p1 &&& (2147483647 : Int32)) % (3 : Int32))), .val (.ref la67), .val (.ref wc), .val (.int (4 : Int32)), .val (.int nnl), .val (.int (p3 &&& (7 : Int32))), .val (.int (own_ch p5)), .val (.ref b72), .val (.int ((own_A2 (own_ch p5)).getD ((p3 &&& (7 : Int32))).toNatClampNeg 0)), .val (.int cch), .val (.ref ob92), .unset, .unset] [.null, (.ref oo93)])) rfl (by rw [hml]; rfl) (Steps.refl _) (argsL := [.null]) (rest := []) (lenOf pd_4 rfl) rfl (by show 2 * 0 + _ ≤ _; exact Nat.le_of_eq rfl) (hb hby at_260) (fun _ _ => ⟨rfl, rfl, (by decide : 11 + 0 ≤ _), (by decide : 52 + 0 ≤ _)⟩)
  dsimp only [Pt.U, Pt.locs, Pt.cells, Pt.slots] at X94 l94 y94 z94 st94 hQ94
  subst l94 y94 z94
  obtain ⟨rfl, N94q, e94⟩ := hQ94
  have N94 := Fr.app N93 N94q
  refine Gl.pre (fun _ k => st94.trans k) ?_
  obtain ⟨T95, X95, e95, st95⟩ := castY X94 hx hZ92 hown92 (W 139 rfl) e94 (Ins.of_exa (ECwc.ext O_.2) (W 143 rfl)) (g := (mkF m 263 #[.val (.int p1), .val (.int p2), .val (.int p3), .val (.int p4), .val (.int p5), .val (.int ((p1 &&& (2147483647 : Int32)) % (3 : Int32))), .val (.ref la67), .val (.ref wc), .val (.int (4 : Int32)), .val (.int nnl), .val (.int (p3 &&& (7 : Int32))), .val (.int (own_ch p5)), .val (.ref b72), .val (.int ((own_A2 (own_ch p5)).getD ((p3 &&& (7 : Int32))).toNatClampNeg 0)), .val (.int cch), .val (.ref ob92), .unset, .unset] [(.ref wc)])) rfl rfl (hb hby at_263)
  refine Gl.pre (fun _ k => st95 _ k) ?_
  show Gl p.tables e below PP (T95.setTop (mkF m 266 #[.val (.int p1), .val (.int p2), .val (.int p3), .val (.int p4), .val (.int p5), .val (.int ((p1 &&& (2147483647 : Int32)) % (3 : Int32))), .val (.ref la67), .val (.ref wc), .val (.int (4 : Int32)), .val (.int nnl), .val (.int (p3 &&& (7 : Int32))), .val (.int (own_ch p5)), .val (.ref b72), .val (.int ((own_A2 (own_ch p5)).getD ((p3 &&& (7 : Int32))).toNatClampNeg 0)), .val (.int cch), .val (.ref ob92), .unset, .unset] [(.ref wc)]))
  refine Y.astore X95 hx (hb hby at_266) rfl rfl (l' := #[.val (.int p1), .val (.int p2), .val (.int p3), .val (.int p4), .val (.int p5), .val (.int ((p1 &&& (2147483647 : Int32)) % (3 : Int32))), .val (.ref la67), .val (.ref wc), .val (.int (4 : Int32)), .val (.int nnl), .val (.int (p3 &&& (7 : Int32))), .val (.int (own_ch p5)), .val (.ref b72), .val (.int ((own_A2 (own_ch p5)).getD ((p3 &&& (7 : Int32))).toNatClampNeg 0)), .val (.int cch), .val (.ref ob92), .val (.ref wc), .unset]) rfl ?_
  refine Y.iload X95 hx (hb hby at_268) rfl ?_
  refine Y.iload X95 hx (hb hby at_270) rfl ?_
  refine Y.icmpNo X95 hx (hb hby at_272) rfl (teq (show nnl = (4 : Int32) from ((own_h2_2 (own_ch p5) cch (p3 &&& (7 : Int32)) nnl (own_p8d p3) hnnl).mp q93_2).1)).2 ?_
  refine Y.iload X95 hx (hb hby at_275) rfl ?_
  refine Y.iload X95 hx (hb hby at_277) rfl ?_
  by_cases hc96 : (p3 &&& (7 : Int32)) < nnl
  refine Y.icmpNo X95 hx (hb hby at_279) rfl (tlt hc96).2.1 ?_
  refine Y.iload X95 hx (hb hby at_282) rfl ?_
  refine Y.iload X95 hx (hb hby at_284) rfl ?_
  refine Y.icmpNo X95 hx (hb hby at_286) rfl (teq (show cch = ((own_A2 (own_ch p5)).getD ((p3 &&& (7 : Int32))).toNatClampNeg 0) from (((own_h2_2 (own_ch p5) cch (p3 &&& (7 : Int32)) nnl (own_p8d p3) hnnl).mp q93_2).2.resolve_left (fun z => z hc96)))).2 ?_
  refine Y.iconst X95 hx (hb hby at_289) ?_
  refine Y.goto X95 hx (pc0 := 290) (pc' := 294) rfl (hb hby at_290) (by decide) (by decide) ?_
  refine Y.istore X95 hx (hb hby at_294) rfl (l' := #[.val (.int p1), .val (.int p2), .val (.int p3), .val (.int p4), .val (.int p5), .val (.int ((p1 &&& (2147483647 : Int32)) % (3 : Int32))), .val (.ref la67), .val (.ref wc), .val (.int (4 : Int32)), .val (.int nnl), .val (.int (p3 &&& (7 : Int32))), .val (.int (own_ch p5)), .val (.ref b72), .val (.int ((own_A2 (own_ch p5)).getD ((p3 &&& (7 : Int32))).toNatClampNeg 0)), .val (.int cch), .val (.ref ob92), .val (.ref wc), .val (.int (1 : Int32))]) rfl ?_
  refine Y.iload X95 hx (hb hby at_296) rfl ?_
  refine Y.ifNo X95 hx (hb hby at_298) rfl ((if0 _ _).trans (feq (show ¬ ((1 : Int32) = (0 : Int32)) from (by decide))).1) ?_
  refine Y.aload X95 hx (hb hby at_301) rfl rfl ?_
  refine Y.aload X95 hx (hb hby at_303) rfl rfl ?_
  refine Gl.pre (fun _ k => Jvm.RoadKit.acmp (g := (mkF m 305 #[.val (.int p1), .val (.int p2), .val (.int p3), .val (.int p4), .val (.int p5), .val (.int ((p1 &&& (2147483647 : Int32)) % (3 : Int32))), .val (.ref la67), .val (.ref wc), .val (.int (4 : Int32)), .val (.int nnl), .val (.int (p3 &&& (7 : Int32))), .val (.int (own_ch p5)), .val (.ref b72), .val (.int ((own_A2 (own_ch p5)).getD ((p3 &&& (7 : Int32))).toNatClampNeg 0)), .val (.int cch), .val (.ref ob92), .val (.ref wc), .val (.int (1 : Int32))] [(.ref wc), (.ref wc)])) X95 hx rfl rfl rfl (pc0 := 305) (pc' := 308) (same := true) rfl (hb hby at_305) rfl (decide_eq_true rfl) (by decide) (by decide) k) ?_
  refine Y.iconst X95 hx (hb hby at_308) ?_
  refine Y.goto X95 hx (pc0 := 309) (pc' := 326) rfl (hb hby at_309) (by decide) (by decide) ?_
  rw [hPP]
  refine own_finNW (Q := (Q0 Z p1 p2 p3 p4 p5 cs fo em va kv wa wb wc sa ta ka sb tb kb sc tc kc h0 n0)) (Z := Z) (EL := own_EL) X95 hx hlk hS92 (by rw [e95]; exact hk93) Bd.returns (t := .boolean) (z' := (1 : Int32)) (by simp) (by decide) (hb hby at_326) ?_ (by rw [hh, e95]; exact CR93.trans (CHv.at X95 hZ92 hEL CR93.1)) (by decide) (by decide)
  show Q0 Z p1 p2 p3 p4 p5 cs fo em va kv wa wb wc sa ta ka sb tb kb sc tc kc h0 n0 _ T95.heap _
  rw [e95]
  exact ⟨rfl, N94⟩
  refine Y.icmpYes X95 hx (pc0 := 279) (pc' := 289) rfl (hb hby at_279) rfl (flt hc96).2.1 (by decide) (by decide) ?_
  refine Y.iconst X95 hx (hb hby at_289) ?_
  refine Y.goto X95 hx (pc0 := 290) (pc' := 294) rfl (hb hby at_290) (by decide) (by decide) ?_
  refine Y.istore X95 hx (hb hby at_294) rfl (l' := #[.val (.int p1), .val (.int p2), .val (.int p3), .val (.int p4), .val (.int p5), .val (.int ((p1 &&& (2147483647 : Int32)) % (3 : Int32))), .val (.ref la67), .val (.ref wc), .val (.int (4 : Int32)), .val (.int nnl), .val (.int (p3 &&& (7 : Int32))), .val (.int (own_ch p5)), .val (.ref b72), .val (.int ((own_A2 (own_ch p5)).getD ((p3 &&& (7 : Int32))).toNatClampNeg 0)), .val (.int cch), .val (.ref ob92), .val (.ref wc), .val (.int (1 : Int32))]) rfl ?_
  refine Y.iload X95 hx (hb hby at_296) rfl ?_
  refine Y.ifNo X95 hx (hb hby at_298) rfl ((if0 _ _).trans (feq (show ¬ ((1 : Int32) = (0 : Int32)) from (by decide))).1) ?_
  refine Y.aload X95 hx (hb hby at_301) rfl rfl ?_
  refine Y.aload X95 hx (hb hby at_303) rfl rfl ?_
  refine Gl.pre (fun _ k => Jvm.RoadKit.acmp (g := (mkF m 305 #[.val (.int p1), .val (.int p2), .val (.int p3), .val (.int p4), .val (.int p5), .val (.int ((p1 &&& (2147483647 : Int32)) % (3 : Int32))), .val (.ref la67), .val (.ref wc), .val (.int (4 : Int32)), .val (.int nnl), .val (.int (p3 &&& (7 : Int32))), .val (.int (own_ch p5)), .val (.ref b72), .val (.int ((own_A2 (own_ch p5)).getD ((p3 &&& (7 : Int32))).toNatClampNeg 0)), .val (.int cch), .val (.ref ob92), .val (.ref wc), .val (.int (1 : Int32))] [(.ref wc), (.ref wc)])) X95 hx rfl rfl rfl (pc0 := 305) (pc' := 308) (same := true) rfl (hb hby at_305) rfl (decide_eq_true rfl) (by decide) (by decide) k) ?_
  refine Y.iconst X95 hx (hb hby at_308) ?_
  refine Y.goto X95 hx (pc0 := 309) (pc' := 326) rfl (hb hby at_309) (by decide) (by decide) ?_
  rw [hPP]
  refine own_finNW (Q := (Q0 Z p1 p2 p3 p4 p5 cs fo em va kv wa wb wc sa ta ka sb tb kb sc tc kc h0 n0)) (Z := Z) (EL := own_EL) X95 hx hlk hS92 (by rw [e95]; exact hk93) Bd.returns (t := .boolean) (z' := (1 : Int32)) (by simp) (by decide) (hb hby at_326) ?_ (by rw [hh, e95]; exact CR93.trans (CHv.at X95 hZ92 hEL CR93.1)) (by decide) (by decide)
  show Q0 Z p1 p2 p3 p4 p5 cs fo em va kv wa wb wc sa ta ka sb tb kb sc tc kc h0 n0 _ T95.heap _
  rw [e95]
  exact ⟨rfl, N94⟩
  have F_value_oo93 := Fo93
  show Gl p.tables e below PP (T93.setTop (mkF m 259 #[.val (.int p1), .val (.int p2), .val (.int p3), .val (.int p4), .val (.int p5), .val (.int ((p1 &&& (2147483647 : Int32)) % (3 : Int32))), .val (.ref la67), .val (.ref wc), .val (.int (4 : Int32)), .val (.int nnl), .val (.int (p3 &&& (7 : Int32))), .val (.int (own_ch p5)), .val (.ref b72), .val (.int ((own_A2 (own_ch p5)).getD ((p3 &&& (7 : Int32))).toNatClampNeg 0)), .val (.int cch), .val (.ref ob92), .unset, .unset] [(.ref oo93)]))
  refine Y.aconstNull X93 hx (hb hby at_259) ?_
  obtain ⟨cq97, kq97, qa97, qb97, qc97⟩ := isOf hZ92 rfl E_oo93
  obtain ⟨_, _, ⟨T97, L97, k97, n97⟩, -, X97, ⟨Lc97, hQ97, l97, y97, z97⟩, st97⟩ := X93.virtualBack hx (y := (⟨"java/util/Optional", "orElse", "(Ljava/lang/Object;)Ljava/lang/Object;"⟩ : MethodName)) (z := (⟨"java/util/Optional", "orElse", "(Ljava/lang/Object;)Ljava/lang/Object;"⟩ : MethodName)) hown92 (mvT hZ92 (W 112 rfl)) (mvT hZ92 (W 113 rfl)) (notFace_of_selects (args := #[]) (mvT hZ92 (W 115 rfl))) (mvT hZ92 (W 115 rfl)) (mvT hZ92 (W 114 rfl)) (by decide) (backOf (W := 0) (rmorB l Z a0 hw [] oo93 T93.heap n0 Z93 F_value_oo93) hZ92 (W 116 rfl) (W 109 rfl) (by decide) (by decide)) qa97 qc97 (g := (mkF m 260 #[.val (.int p1), .val (.int p2), .val (.int p3), .val (.int p4), .val (.int p5), .val (.int ((p1 &&& (2147483647 : Int32)) % (3 : Int32))), .val (.ref la67), .val (.ref wc), .val (.int (4 : Int32)), .val (.int nnl), .val (.int (p3 &&& (7 : Int32))), .val (.int (own_ch p5)), .val (.ref b72), .val (.int ((own_A2 (own_ch p5)).getD ((p3 &&& (7 : Int32))).toNatClampNeg 0)), .val (.int cch), .val (.ref ob92), .unset, .unset] [.null, (.ref oo93)])) rfl (by rw [hml]; rfl) (Steps.refl _) (argsL := [.null]) (rest := []) (lenOf pd_4 rfl) rfl (by show 2 * 0 + _ ≤ _; exact Nat.le_of_eq rfl) (hb hby at_260) (fun _ _ => ⟨rfl, rfl, (by decide : 11 + 0 ≤ _), (by decide : 52 + 0 ≤ _)⟩)
  dsimp only [Pt.U, Pt.locs, Pt.cells, Pt.slots] at X97 l97 y97 z97 st97 hQ97
  subst l97 y97 z97
  obtain ⟨rfl, N97q, e97⟩ := hQ97
  have N97 := Fr.app N93 N97q
  refine Gl.pre (fun _ k => st97.trans k) ?_
  refine Gl.pre (fun _ k => X97.checkcastNull hx (g := (mkF m 263 #[.val (.int p1), .val (.int p2), .val (.int p3), .val (.int p4), .val (.int p5), .val (.int ((p1 &&& (2147483647 : Int32)) % (3 : Int32))), .val (.ref la67), .val (.ref wc), .val (.int (4 : Int32)), .val (.int nnl), .val (.int (p3 &&& (7 : Int32))), .val (.int (own_ch p5)), .val (.ref b72), .val (.int ((own_A2 (own_ch p5)).getD ((p3 &&& (7 : Int32))).toNatClampNeg 0)), .val (.int cch), .val (.ref ob92), .unset, .unset] [.null])) rfl rfl (hb hby at_263) _ k) ?_
  show Gl p.tables e below PP (T97.setTop (mkF m 266 #[.val (.int p1), .val (.int p2), .val (.int p3), .val (.int p4), .val (.int p5), .val (.int ((p1 &&& (2147483647 : Int32)) % (3 : Int32))), .val (.ref la67), .val (.ref wc), .val (.int (4 : Int32)), .val (.int nnl), .val (.int (p3 &&& (7 : Int32))), .val (.int (own_ch p5)), .val (.ref b72), .val (.int ((own_A2 (own_ch p5)).getD ((p3 &&& (7 : Int32))).toNatClampNeg 0)), .val (.int cch), .val (.ref ob92), .unset, .unset] [.null]))
  refine Y.astore X97 hx (hb hby at_266) rfl rfl (l' := #[.val (.int p1), .val (.int p2), .val (.int p3), .val (.int p4), .val (.int p5), .val (.int ((p1 &&& (2147483647 : Int32)) % (3 : Int32))), .val (.ref la67), .val (.ref wc), .val (.int (4 : Int32)), .val (.int nnl), .val (.int (p3 &&& (7 : Int32))), .val (.int (own_ch p5)), .val (.ref b72), .val (.int ((own_A2 (own_ch p5)).getD ((p3 &&& (7 : Int32))).toNatClampNeg 0)), .val (.int cch), .val (.ref ob92), .val .null, .unset]) rfl ?_
  refine Y.iload X97 hx (hb hby at_268) rfl ?_
  refine Y.iload X97 hx (hb hby at_270) rfl ?_
  by_cases hc98 : nnl = (4 : Int32)
  refine Y.icmpNo X97 hx (hb hby at_272) rfl (teq hc98).2 ?_
  refine Y.iload X97 hx (hb hby at_275) rfl ?_
  refine Y.iload X97 hx (hb hby at_277) rfl ?_
  refine Y.icmpNo X97 hx (hb hby at_279) rfl (tlt (show (p3 &&& (7 : Int32)) < nnl from (by exact Decidable.byContradiction fun z => (fun z => q93_2 ((own_h2_2 (own_ch p5) cch (p3 &&& (7 : Int32)) nnl (own_p8d p3) hnnl).mpr z)) ⟨hc98, Or.inl z⟩))).2.1 ?_
  refine Y.iload X97 hx (hb hby at_282) rfl ?_
  refine Y.iload X97 hx (hb hby at_284) rfl ?_
  refine Y.icmpYes X97 hx (pc0 := 286) (pc' := 293) rfl (hb hby at_286) rfl (feq (show ¬ (cch = ((own_A2 (own_ch p5)).getD ((p3 &&& (7 : Int32))).toNatClampNeg 0)) from (fun z => (fun z => q93_2 ((own_h2_2 (own_ch p5) cch (p3 &&& (7 : Int32)) nnl (own_p8d p3) hnnl).mpr z)) ⟨hc98, Or.inr z⟩))).2 (by decide) (by decide) ?_
  refine Y.iconst X97 hx (hb hby at_293) ?_
  refine Y.istore X97 hx (hb hby at_294) rfl (l' := #[.val (.int p1), .val (.int p2), .val (.int p3), .val (.int p4), .val (.int p5), .val (.int ((p1 &&& (2147483647 : Int32)) % (3 : Int32))), .val (.ref la67), .val (.ref wc), .val (.int (4 : Int32)), .val (.int nnl), .val (.int (p3 &&& (7 : Int32))), .val (.int (own_ch p5)), .val (.ref b72), .val (.int ((own_A2 (own_ch p5)).getD ((p3 &&& (7 : Int32))).toNatClampNeg 0)), .val (.int cch), .val (.ref ob92), .val .null, .val (.int (0 : Int32))]) rfl ?_
  refine Y.iload X97 hx (hb hby at_296) rfl ?_
  refine Y.ifYes X97 hx (pc0 := 298) (pc' := 316) rfl (hb hby at_298) rfl ((if0 _ _).trans (teq (show (0 : Int32) = (0 : Int32) from (by decide))).1) (by decide) (by decide) ?_
  refine Y.aload X97 hx (hb hby at_316) rfl rfl ?_
  refine Y.ifnonnullNo X97 hx (hb hby at_318) rfl ?_
  refine Y.iconst X97 hx (hb hby at_321) ?_
  refine Y.goto X97 hx (pc0 := 322) (pc' := 326) rfl (hb hby at_322) (by decide) (by decide) ?_
  rw [hPP]
  refine own_finNW (Q := (Q0 Z p1 p2 p3 p4 p5 cs fo em va kv wa wb wc sa ta ka sb tb kb sc tc kc h0 n0)) (Z := Z) (EL := own_EL) X97 hx hlk hS92 (by rw [e97]; exact hk93) Bd.returns (t := .boolean) (z' := (1 : Int32)) (by simp) (by decide) (hb hby at_326) ?_ (by rw [hh, e97]; exact CR93.trans (CHv.at X97 hZ92 hEL CR93.1)) (by decide) (by decide)
  show Q0 Z p1 p2 p3 p4 p5 cs fo em va kv wa wb wc sa ta ka sb tb kb sc tc kc h0 n0 _ T97.heap _
  rw [e97]
  exact ⟨rfl, N97⟩
  refine Y.icmpYes X97 hx (pc0 := 272) (pc' := 293) rfl (hb hby at_272) rfl (feq hc98).2 (by decide) (by decide) ?_
  refine Y.iconst X97 hx (hb hby at_293) ?_
  refine Y.istore X97 hx (hb hby at_294) rfl (l' := #[.val (.int p1), .val (.int p2), .val (.int p3), .val (.int p4), .val (.int p5), .val (.int ((p1 &&& (2147483647 : Int32)) % (3 : Int32))), .val (.ref la67), .val (.ref wc), .val (.int (4 : Int32)), .val (.int nnl), .val (.int (p3 &&& (7 : Int32))), .val (.int (own_ch p5)), .val (.ref b72), .val (.int ((own_A2 (own_ch p5)).getD ((p3 &&& (7 : Int32))).toNatClampNeg 0)), .val (.int cch), .val (.ref ob92), .val .null, .val (.int (0 : Int32))]) rfl ?_
  refine Y.iload X97 hx (hb hby at_296) rfl ?_
  refine Y.ifYes X97 hx (pc0 := 298) (pc' := 316) rfl (hb hby at_298) rfl ((if0 _ _).trans (teq (show (0 : Int32) = (0 : Int32) from (by decide))).1) (by decide) (by decide) ?_
  refine Y.aload X97 hx (hb hby at_316) rfl rfl ?_
  refine Y.ifnonnullNo X97 hx (hb hby at_318) rfl ?_
  refine Y.iconst X97 hx (hb hby at_321) ?_
  refine Y.goto X97 hx (pc0 := 322) (pc' := 326) rfl (hb hby at_322) (by decide) (by decide) ?_
  rw [hPP]
  refine own_finNW (Q := (Q0 Z p1 p2 p3 p4 p5 cs fo em va kv wa wb wc sa ta ka sb tb kb sc tc kc h0 n0)) (Z := Z) (EL := own_EL) X97 hx hlk hS92 (by rw [e97]; exact hk93) Bd.returns (t := .boolean) (z' := (1 : Int32)) (by simp) (by decide) (hb hby at_326) ?_ (by rw [hh, e97]; exact CR93.trans (CHv.at X97 hZ92 hEL CR93.1)) (by decide) (by decide)
  show Q0 Z p1 p2 p3 p4 p5 cs fo em va kv wa wb wc sa ta ka sb tb kb sc tc kc h0 n0 _ T97.heap _
  rw [e97]
  exact ⟨rfl, N97⟩
set_option maxRecDepth 65536 in
set_option maxHeartbeats 40000000 in
theorem comes_1 {Post : Tables → Env → Array Value → State → Outcome → State → Prop} (hpost : ∀ tb e args s v u, (limb_1_1.after args s (.returned v) u = true ∧ limb_1_2.after args s (.returned v) u = true ∧ True) → ReturnedEndW s (.returned v) u (Jvm.fieldLocs frame_1_writes args s ++ Jvm.arrayLocs frame_1_arrays args s ++ Jvm.staticLocs frame_1_statics s) 32 4288 → Post tb e args s (.returned v) u) :
    ArmFor flags0 classFile x code maxLocals ret World_1 tables_1 room_1 Calls_1 rest_1 Pre_1 Post := by
  intro l hfl _ _ p e ha hc hk s m args below hf hA hF happ hP
  obtain ⟨hcalls, hrest, hpre⟩ := hP
  obtain ⟨-, -, -, hnamed, -, -, -, hat⟩ := (Spec.applies_iff hf).mp happ
  obtain ⟨hg, hn⟩ := and_e (Cond.before_iff.mp (show (Jvm.Cond.and given_1 narrow_1).before args s = true from hpre))
  obtain ⟨gc, gr0⟩ := and_e hg
  obtain ⟨ga0, gr1⟩ := and_e gr0
  obtain ⟨ga1, gr2⟩ := and_e gr1
  obtain ⟨ga2, gr3⟩ := and_e gr2
  obtain ⟨ga3, gr4⟩ := and_e gr3
  obtain ⟨w0, w1, w2, w3, w4, rfl⟩ : ∃ w0 w1 w2 w3 w4 : Value, args = #[w0, w1, w2, w3, w4] := by
    have hs : args.size = 5 := by simpa [Cond.value, given_1] using gc
    obtain ⟨L⟩ := args
    match L, hs with
    | [w0, w1, w2, w3, w4], _ => exact ⟨w0, w1, w2, w3, w4, rfl⟩
  have hw := fun d (hd : d ∈ tables_1) => atoms_spec (ws := Jvm.Cond.code x code maxLocals ret :: tables_1) hat d (List.mem_cons_of_mem _ hd)
  have hfit : Fit s := fun {y c} hc i hi => by
    obtain ⟨ha, rfl⟩ := Array.getElem?_eq_some_iff.mp hc
    have q := List.all_eq_true.mp ((Array.all_eq_true_iff_forall_mem.mp hF) _ (Array.getElem_mem ha)) i (List.mem_range.mpr hi)
    simpa [Array.getElem?_eq_getElem hi] using q
  obtain ⟨i0, ei0⟩ := is_v ga0
  obtain rfl : w0 = (.int i0) := Option.some.inj ei0
  obtain ⟨i1, ei1⟩ := is_v ga1
  obtain rfl : w1 = (.int i1) := Option.some.inj ei1
  obtain ⟨i2, ei2⟩ := is_v ga2
  obtain rfl : w2 = (.int i2) := Option.some.inj ei2
  obtain ⟨i3, ei3⟩ := is_v ga3
  obtain rfl : w3 = (.int i3) := Option.some.inj ei3
  obtain ⟨i4, ei4⟩ := is_v gr4
  obtain rfl : w4 = (.int i4) := Option.some.inj ei4
  obtain ⟨hsets, hown0⟩ := atoms_of _ (rest_1_c_eq ▸ (show rest_1_c.before _ s = true from hrest))
  have n5 := not_v (Cond.before_iff.mp (hsets _ (List.mem_of_getElem? (i := 2) rfl)))
  obtain ⟨cs, ecs⟩ := is_v (Cond.before_iff.mp (hsets _ (List.mem_of_getElem? (i := 1) rfl)))
  have SBC : Sta s s.heap "java/lang/String" "COMPACT_STRINGS" "Z" (.int cs) := Sta.start ecs (Or.inl (hsets _ (List.mem_of_getElem? (i := 0) rfl)))
  have hcs : ¬ (cs = (0 : Int32)) := gotF (Cond.eq_ints ecs (Term.int_eval (0))) n5
  obtain ⟨fo, efo, hfo⟩ := isR_v (Cond.before_iff.mp (hsets _ (List.mem_of_getElem? (i := 8) rfl)))
  have SFO : Sta s s.heap "jdk/internal/util/Preconditions" "SIOOBE_FORMATTER" "Ljava/util/function/BiFunction;" fo := Sta.start efo (Or.inl (hsets _ (List.mem_of_getElem? (i := 7) rfl)))
  obtain ⟨em, eem⟩ := exa_v (Cond.before_iff.mp (hsets _ (List.mem_of_getElem? (i := 11) rfl)))
  have ZE_em := Exa.start eem (Cond.before_iff.mp (hsets _ (List.mem_of_getElem? (i := 11) rfl)))
  have ZF_value_em := own_fldN eem (Cond.before_iff.mp (hsets _ (List.mem_of_getElem? (i := 12) rfl)))
  have SEM : Sta s s.heap "java/util/Optional" "EMPTY" "Ljava/util/Optional;" (.ref em) := Sta.start eem (Or.inl (hsets _ (List.mem_of_getElem? (i := 10) rfl)))
  obtain ⟨c0, r0⟩ := and_e hn
  obtain ⟨c1, r1⟩ := and_e r0
  obtain ⟨c2, r2⟩ := and_e r1
  obtain ⟨c3, r3⟩ := and_e r2
  obtain ⟨c4, r4⟩ := and_e r3
  obtain ⟨c5, r5⟩ := and_e r4
  obtain ⟨c6, r6⟩ := and_e r5
  obtain ⟨c7, r7⟩ := and_e r6
  obtain ⟨c8, r8⟩ := and_e r7
  obtain ⟨c9, r9⟩ := and_e r8
  obtain ⟨c10, r10⟩ := and_e r9
  obtain ⟨c11, r11⟩ := and_e r10
  obtain ⟨c12, r12⟩ := and_e r11
  obtain ⟨c13, r13⟩ := and_e r12
  obtain ⟨c14, r14⟩ := and_e r13
  obtain ⟨c15, r15⟩ := and_e r14
  obtain ⟨c16, r16⟩ := and_e r15
  obtain ⟨c17, r17⟩ := and_e r16
  obtain ⟨c18, r18⟩ := and_e r17
  obtain ⟨c19, r19⟩ := and_e r18
  obtain ⟨c20, r20⟩ := and_e r19
  obtain ⟨c21, r21⟩ := and_e r20
  obtain ⟨c22, r22⟩ := and_e r21
  obtain ⟨c23, r23⟩ := and_e r22
  obtain ⟨c24, r24⟩ := and_e r23
  obtain ⟨c25, r25⟩ := and_e r24
  obtain ⟨c26, r26⟩ := and_e r25
  obtain ⟨c27, r27⟩ := and_e r26
  obtain ⟨c28, r28⟩ := and_e r27
  obtain ⟨c29, r29⟩ := and_e r28
  obtain ⟨c30, r30⟩ := and_e r29
  obtain ⟨c31, r31⟩ := and_e r30
  obtain ⟨c32, r32⟩ := and_e r31
  obtain ⟨c33, r33⟩ := and_e r32
  obtain ⟨c34, r34⟩ := and_e r33
  obtain ⟨c35, r35⟩ := and_e r34
  obtain ⟨c36, r36⟩ := and_e r35
  obtain ⟨c37, r37⟩ := and_e r36
  obtain ⟨wa, ewa⟩ := exa_v c0
  obtain ⟨wb, ewb⟩ := exa_v c5
  obtain ⟨wc, ewc⟩ := exa_v c6
  have ECwa := Exa.start ewa c0
  obtain ⟨sa, esa⟩ := exa_v c7
  have ZE_sa := Exa.start esa c7
  have ZF_optionName_wa := own_fldR ewa esa
  have ZF_coder_sa := own_fldI esa c8
  obtain ⟨ta, eta⟩ := arr_v c9
  have ZF_value_sa := own_fldR esa eta
  obtain ⟨clta, Ata⟩ := Arr.start eta c9
  have zta := own_sz (z := (7 : Int32)) (by decide) eta Ata c10
  have ZK_ta : Arv s s.heap ta clta.cls .byte (7 : Int32) (([(105 : Int32), (115 : Int32), (111 : Int32), (50 : Int32), (55 : Int32), (48 : Int32), (57 : Int32)] : List Int32).map Value.int) (.int 0) := Arv.start hfit Ata zta.1 zta.2 (by decide) (by decide) ⟨own_el (j := (0 : Int32)) (i := 0) (by decide) (by decide) eta Ata (own_evI c25), own_el (j := (1 : Int32)) (i := 1) (by decide) (by decide) eta Ata (own_evI c26), own_el (j := (2 : Int32)) (i := 2) (by decide) (by decide) eta Ata (own_evI c27), own_el (j := (3 : Int32)) (i := 3) (by decide) (by decide) eta Ata (own_evI c28), own_el (j := (4 : Int32)) (i := 4) (by decide) (by decide) eta Ata (own_evI c29), own_el (j := (5 : Int32)) (i := 5) (by decide) (by decide) eta Ata (own_evI c30), own_el (j := (6 : Int32)) (i := 6) (by decide) (by decide) eta Ata (own_evI c31), trivial⟩
  have ECwb := Exa.start ewb c5
  obtain ⟨sb, esb⟩ := exa_v c11
  have ZE_sb := Exa.start esb c11
  have ZF_optionName_wb := own_fldR ewb esb
  have ZF_coder_sb := own_fldI esb c12
  obtain ⟨tb, etb⟩ := arr_v c13
  have ZF_value_sb := own_fldR esb etb
  obtain ⟨cltb, Atb⟩ := Arr.start etb c13
  have ztb := own_sz (z := (7 : Int32)) (by decide) etb Atb c14
  have ZK_tb : Arv s s.heap tb cltb.cls .byte (7 : Int32) (([(109 : Int32), (97 : Int32), (114 : Int32), (99 : Int32), (120 : Int32), (109 : Int32), (108 : Int32)] : List Int32).map Value.int) (.int 0) := Arv.start hfit Atb ztb.1 ztb.2 (by decide) (by decide) ⟨own_el (j := (0 : Int32)) (i := 0) (by decide) (by decide) etb Atb (own_evI c32), own_el (j := (1 : Int32)) (i := 1) (by decide) (by decide) etb Atb (own_evI c33), own_el (j := (2 : Int32)) (i := 2) (by decide) (by decide) etb Atb (own_evI c34), own_el (j := (3 : Int32)) (i := 3) (by decide) (by decide) etb Atb (own_evI c35), own_el (j := (4 : Int32)) (i := 4) (by decide) (by decide) etb Atb (own_evI c36), own_el (j := (5 : Int32)) (i := 5) (by decide) (by decide) etb Atb (own_evI c37), own_el (j := (6 : Int32)) (i := 6) (by decide) (by decide) etb Atb (own_evI r37), trivial⟩
  have ECwc := Exa.start ewc c6
  obtain ⟨sc, esc⟩ := exa_v c15
  have ZE_sc := Exa.start esc c15
  have ZF_optionName_wc := own_fldR ewc esc
  have ZF_coder_sc := own_fldI esc c16
  obtain ⟨tc, etc⟩ := arr_v c17
  have ZF_value_sc := own_fldR esc etc
  obtain ⟨cltc, Atc⟩ := Arr.start etc c17
  have ztc := own_sz (z := (4 : Int32)) (by decide) etc Atc c18
  have ZK_tc : Arv s s.heap tc cltc.cls .byte (4 : Int32) (([(106 : Int32), (115 : Int32), (111 : Int32), (110 : Int32)] : List Int32).map Value.int) (.int 0) := Arv.start hfit Atc ztc.1 ztc.2 (by decide) (by decide) ⟨own_el (j := (0 : Int32)) (i := 0) (by decide) (by decide) etc Atc (own_evI c19), own_el (j := (1 : Int32)) (i := 1) (by decide) (by decide) etc Atc (own_evI c22), own_el (j := (2 : Int32)) (i := 2) (by decide) (by decide) etc Atc (own_evI c23), own_el (j := (3 : Int32)) (i := 3) (by decide) (by decide) etc Atc (own_evI c24), trivial⟩
  obtain ⟨va, eva⟩ := arr_v c1
  obtain ⟨clv, Av⟩ := Arr.start eva c1
  have zv := own_sz (z := (3 : Int32)) (by decide) eva Av c3
  have EVA := Exa.start eva c2
  have AVA : Arv s s.heap va clv.cls (.object "com/example/marcasite/marcasite/marc/Carrier") (3 : Int32) [.ref wa, .ref wb, .ref wc] .null := Arv.start hfit Av zv.1 zv.2 (by decide) rfl ⟨own_el (j := (0 : Int32)) (i := 0) (by decide) (by decide) eva Av (own_evR ewa c4), own_el (j := (1 : Int32)) (i := 1) (by decide) (by decide) eva Av ewb, own_el (j := (2 : Int32)) (i := 2) (by decide) (by decide) eva Av ewc, trivial⟩
  have SVA : Sta s s.heap "com/example/marcasite/marcasite/marc/Carrier" "$VALUES" "[Lcom/example/marcasite/marcasite/marc/Carrier;" (.ref va) := Sta.start eva (Or.inr ⟨(hw _ (List.mem_of_getElem? (i := 10) rfl)), (hw _ (List.mem_of_getElem? (i := 83) rfl))⟩)
  have SIA : Sta s s.heap "com/example/marcasite/marcasite/marc/Carrier" "ISO2709" "Lcom/example/marcasite/marcasite/marc/Carrier;" (.ref wa) := Sta.start ewa (Or.inr ⟨(hw _ (List.mem_of_getElem? (i := 10) rfl)), (hw _ (List.mem_of_getElem? (i := 11) rfl))⟩)
  have SIB : Sta s s.heap "com/example/marcasite/marcasite/marc/Carrier" "MARCXML" "Lcom/example/marcasite/marcasite/marc/Carrier;" (.ref wb) := Sta.start (own_evR ewb c21) (Or.inr ⟨(hw _ (List.mem_of_getElem? (i := 10) rfl)), (hw _ (List.mem_of_getElem? (i := 124) rfl))⟩)
  have SIC : Sta s s.heap "com/example/marcasite/marcasite/marc/Carrier" "JSON" "Lcom/example/marcasite/marcasite/marc/Carrier;" (.ref wc) := Sta.start (own_evR ewc c20) (Or.inr ⟨(hw _ (List.mem_of_getElem? (i := 10) rfl)), (hw _ (List.mem_of_getElem? (i := 121) rfl))⟩)
  have hEL : EW s _ own_EL := (EW.cons (hw _ (List.mem_of_getElem? (i := 1) rfl)) (by decide) (EW.cons (hw _ (List.mem_of_getElem? (i := 122) rfl)) (by decide) (EW.cons (hw _ (List.mem_of_getElem? (i := 119) rfl)) (by decide) (EW.cons (hw _ (List.mem_of_getElem? (i := 142) rfl)) (by decide) EW.nil))))
  have hCH : CHv s own_EL s.vm s.heap := CHv.start hEL (fun q hq => hcalls.1 q hq) (hsets _ (List.mem_of_getElem? (i := 2) rfl)) (hw _ (List.mem_of_getElem? (i := 4) rfl)) (hw _ (List.mem_of_getElem? (i := 3) rfl))
  obtain ⟨n, o, h1, h2, h3, _, L, rfl, ⟨rfl, N⟩, -, hq⟩ := rm0 l s _ hw tables_1 i0 i1 i2 i3 i4 cs fo em va clv.cls wa wb wc sa ta clta.cls sb tb cltb.cls sc tc cltc.cls s.heap s.heap.size (Nat.le_refl _) SIA SIB SIC ECwa ECwb ECwc ZF_optionName_wa ZE_sa ZF_value_sa ZF_coder_sa ZK_ta ZF_optionName_wb ZE_sb ZF_value_sb ZF_coder_sb ZK_tb ZF_optionName_wc ZE_sc ZF_value_sc ZF_coder_sc ZK_tc ZE_em ZF_value_em SVA AVA EVA SEM SBC hcs SFO hfo (Old.start s) hEL p e ha hc hk s m _ below hf ((Spec.applies_iff_loose hf).mp happ).1 ⟨rfl, State.Warmed39.refl s, rfl, hCH, all0⟩ trivial
  refine ⟨n, _, h1, h2, h3, hpost _ _ _ _ _ _ ⟨Cond.after_iff.mpr rfl, Cond.after_iff.mpr (eq_i res_at (Term.int_eval (1)) rfl), trivial⟩ ⟨hq.1, hq.2.1, hq.2.2.1, (hq.2.2.2.sift fun y hy => Or.inr (N y hy)).mono (by decide) (by decide)⟩⟩
theorem main_1_1 : Claimed_1_1 := comes_1 fun _ _ _ _ _ _ h hF => ⟨h.1, hF⟩
theorem main_1_2 : Claimed_1_2 := comes_1 fun _ _ _ _ _ _ h hF => ⟨h.2.1, hF⟩
end Jvm.Pilot.@@N@@
namespace Jvm.Pilot.@@N@@
open Jvm Jvm.ClassFile Sem Op Lib Jvm.Free Jvm.Stand Jvm.Pilot.@@N@@.Jvm.D
/-! MADE BY PROGRAM (witnessworld.py) out of the Statement's table words and the real class files: 27 classes; the members and pool entries that the words name. The judged class is class 1, her method 1. -/
namespace start1
open Jvm.ClassFile
def u (s : String) : CpInfo := .utf8 (stringToUtf16 s)
/-- a pool by its gaps: so many unusable entries, then the entry; so many at the end -/
def gap : Nat → List CpInfo → List CpInfo
  | 0, r => r
  | n + 1, r => .unusable :: gap n r
def poolList (es : List (Nat × CpInfo)) (last : Nat) : List CpInfo := es.foldr (fun e r => gap e.1 (e.2 :: r)) (gap last [])
def pool (es : List (Nat × CpInfo)) (last : Nat) : Array CpInfo := ⟨poolList es last⟩
def fileOf (pool : Array CpInfo) (this : Nat) (attrs : Array Attribute := #[]) (ms : Array MethodInfo := #[]) (fl : Nat := 33) (sup : Nat := 0) (ifs : Array Nat := #[]) (fds : Array FieldInfo := #[]) : ClassFile where
  minorVersion := 0
  majorVersion := 65
  constantPool := pool
  accessFlags := fl
  thisClass := this
  superClass := sup
  interfaces := ifs
  fields := fds
  methods := ms
  attributes := attrs
def plain (name : String) (sup : Option ClassId) : Class where
  name := name
  kind := .ordinary
  loader := none
  accessFlags := 33
  super := sup
  interfaces := #[]
  cf := none
  fields := #[]
  methods := #[]
  instanceTypes := #[]
  staticTypes := #[]
  resolved := #[]
  callSites := []
  init := .initialized
  statics := none
  mirror := none

def pool0 : Array CpInfo := pool [(5, u "<init>"), (0, u "()V"), (1, .class_ 10), (1, u "java/lang/Object"), (85, u "clone"), (0, u "()Ljava/lang/Object;")] 26

def k0c0 : Code := { maxStack := 0, maxLocals := 1, code := object_method_1_code, exceptionTable := #[], attributes := #[] }
def k0m0 : Method := { name := "<init>", desc := "()V", sig := { parameters := [], returnType := none }, accessFlags := 1, code := some k0c0 }
def k0m1 : Method := { name := "clone", desc := "()Ljava/lang/Object;", sig := { parameters := [], returnType := some (.object "java/lang/Object") }, accessFlags := 260, code := none }
/-- java/lang/Object -/
def k0 : Class := { plain "java/lang/Object" none with
  accessFlags := 33
  interfaces := #[]
  cf := some (fileOf pool0 8 #[] #[{ accessFlags := 1, nameIndex := 5, descriptorIndex := 6, attributes := #[] }, { accessFlags := 260, nameIndex := 96, descriptorIndex := 97, attributes := #[] }] 33 0 #[] #[])
  fields := #[]
  methods := #[k0m0, k0m1]
  instanceTypes := #[]
  staticTypes := #[]
  resolved := Array.replicate 124 none
  statics := none }

def pool1 : Array CpInfo := pool [(2, .class_ 4), (1, u "java/lang/Object"), (0, u "<init>"), (0, u "()V"), (0, .integer 2147483647), (0, .string 9), (0, u "iso2709"), (0, .string 11), (0, u "marcxml"), (0, .string 13), (0, u "json"), (0, .fieldref 15 16), (0, .class_ 17), (0, .nameAndType 18 19), (0, u "com/example/marcasite/marcasite/marc/Carrier"), (0, u "ISO2709"), (0, u "Lcom/example/marcasite/marcasite/marc/Carrier;"), (0, .fieldref 15 21), (0, .nameAndType 22 19), (0, u "MARCXML"), (0, .fieldref 15 24), (0, .nameAndType 25 19), (0, u "JSON"), (0, .methodref 27 28), (0, .class_ 29), (0, .nameAndType 30 31), (0, u "java/lang/String"), (0, u "length"), (0, u "()I"), (0, .methodref 33 34), (0, .class_ 35), (0, .nameAndType 36 37), (0, u "com/example/marcasite/marcasite/marc/CarrierNamedPinLaw"), (0, u "at"), (0, u "(Ljava/lang/String;IC)C"), (0, .methodref 33 39), (0, .nameAndType 40 41), (0, u "prefix"), (0, u "([CI)Ljava/lang/String;"), (0, .methodref 15 43), (0, .nameAndType 44 45), (0, u "named"), (0, u "(Ljava/lang/String;)Ljava/util/Optional;"), (0, .methodref 47 48), (0, .class_ 49), (0, .nameAndType 50 51), (0, u "java/util/Optional"), (0, u "orElse"), (0, u "(Ljava/lang/Object;)Ljava/lang/Object;"), (0, .methodref 27 53), (0, .nameAndType 54 55), (0, u "charAt"), (0, u "(I)C"), (0, .methodref 27 57), (0, .nameAndType 5 58), (0, u "([C)V"), (2, u "law"), (0, u "(IIIII)Z")] 5

def k1m0 : Method := { name := "<init>", desc := "()V", sig := { parameters := [], returnType := none }, accessFlags := 2, code := none }
def k1c1 : Code := { maxStack := 5, maxLocals := 18, code := code, exceptionTable := #[], attributes := #[] }
def k1m1 : Method := { name := "law", desc := "(IIIII)Z", sig := { parameters := [.int, .int, .int, .int, .int], returnType := some .boolean }, accessFlags := 9, code := some k1c1 }
def k1c2 : Code := { maxStack := 2, maxLocals := 3, code := method_3_code, exceptionTable := #[], attributes := #[] }
def k1m2 : Method := { name := "at", desc := "(Ljava/lang/String;IC)C", sig := { parameters := [(.object "java/lang/String"), .int, .char], returnType := some .char }, accessFlags := 10, code := some k1c2 }
def k1c3 : Code := { maxStack := 7, maxLocals := 2, code := method_4_code, exceptionTable := #[], attributes := #[] }
def k1m3 : Method := { name := "prefix", desc := "([CI)Ljava/lang/String;", sig := { parameters := [(.array .char), .int], returnType := some (.object "java/lang/String") }, accessFlags := 10, code := some k1c3 }
/-- com/example/marcasite/marcasite/marc/CarrierNamedPinLaw -/
def k1 : Class := { plain "com/example/marcasite/marcasite/marc/CarrierNamedPinLaw" (some 0) with
  accessFlags := 49
  interfaces := #[]
  cf := some (fileOf pool1 33 #[] #[{ accessFlags := 2, nameIndex := 5, descriptorIndex := 6, attributes := #[] }, { accessFlags := 9, nameIndex := 61, descriptorIndex := 62, attributes := #[] }, { accessFlags := 10, nameIndex := 36, descriptorIndex := 37, attributes := #[] }, { accessFlags := 10, nameIndex := 40, descriptorIndex := 41, attributes := #[] }] 49 2 #[] #[])
  fields := #[]
  methods := #[k1m0, k1m1, k1m2, k1m3]
  instanceTypes := #[]
  staticTypes := #[]
  resolved := Array.replicate 68 none
  statics := none }

def pool2 : Array CpInfo := pool [(1, .class_ 2), (0, u "java/io/Serializable"), (0, .class_ 4), (0, u "java/lang/Object")] 2

/-- java/io/Serializable -/
def k2 : Class := { plain "java/io/Serializable" (some 0) with
  accessFlags := 1537
  interfaces := #[]
  cf := some (fileOf pool2 1 #[] #[] 1537 3 #[] #[])
  fields := #[]
  methods := #[]
  instanceTypes := #[]
  staticTypes := #[]
  resolved := Array.replicate 7 none
  statics := none }

def pool3 : Array CpInfo := pool [(1, .class_ 2), (0, u "java/lang/Comparable"), (0, .class_ 4), (0, u "java/lang/Object")] 7

/-- java/lang/Comparable -/
def k3 : Class := { plain "java/lang/Comparable" (some 0) with
  accessFlags := 1537
  interfaces := #[]
  cf := some (fileOf pool3 1 #[] #[] 1537 3 #[] #[])
  fields := #[]
  methods := #[]
  instanceTypes := #[]
  staticTypes := #[]
  resolved := Array.replicate 12 none
  statics := none }

def pool4 : Array CpInfo := pool [(2, .class_ 4), (1, u "java/lang/CharSequence"), (42, .class_ 48), (0, u "java/lang/CharSequence$1CodePointIterator"), (10, .class_ 60), (0, u "java/lang/CharSequence$1CharIterator"), (5, .class_ 67), (0, u "java/lang/Object")] 63

/-- java/lang/CharSequence -/
def k4 : Class := { plain "java/lang/CharSequence" (some 0) with
  accessFlags := 1537
  interfaces := #[]
  cf := some (fileOf pool4 2 #[.nestMembers #[47, 59]] #[] 1537 66 #[] #[])
  fields := #[]
  methods := #[]
  instanceTypes := #[]
  staticTypes := #[]
  resolved := Array.replicate 131 none
  statics := none }

def pool5 : Array CpInfo := pool [(1, .class_ 2), (0, u "java/lang/constant/Constable"), (0, .class_ 4), (0, u "java/lang/Object")] 6

/-- java/lang/constant/Constable -/
def k5 : Class := { plain "java/lang/constant/Constable" (some 0) with
  accessFlags := 1537
  interfaces := #[]
  cf := some (fileOf pool5 1 #[] #[] 1537 3 #[] #[])
  fields := #[]
  methods := #[]
  instanceTypes := #[]
  staticTypes := #[]
  resolved := Array.replicate 11 none
  statics := none }

def pool6 : Array CpInfo := pool [(1, .class_ 2), (0, u "java/lang/constant/ConstantDesc"), (0, .class_ 4), (0, u "java/lang/Object")] 32

/-- java/lang/constant/ConstantDesc -/
def k6 : Class := { plain "java/lang/constant/ConstantDesc" (some 0) with
  accessFlags := 1537
  interfaces := #[]
  cf := some (fileOf pool6 1 #[] #[] 1537 3 #[] #[])
  fields := #[]
  methods := #[]
  instanceTypes := #[]
  staticTypes := #[]
  resolved := Array.replicate 37 none
  statics := none }

def pool7 : Array CpInfo := pool [(1, .methodref 2 3), (0, .class_ 4), (0, .nameAndType 5 6), (0, u "java/lang/Object"), (0, u "<init>"), (0, u "()V"), (0, .string 8), (0, u ""), (0, .fieldref 10 11), (0, .class_ 12), (0, .nameAndType 13 14), (0, u "java/lang/String"), (0, u "value"), (0, u "[B"), (0, .fieldref 10 16), (0, .nameAndType 17 18), (0, u "coder"), (0, u "B"), (2, u "hash"), (0, u "I"), (2, u "hashIsZero"), (0, u "Z"), (0, .methodref 10 28), (0, .nameAndType 5 29), (0, u "([CIILjava/lang/Void;)V"), (8, .fieldref 10 39), (0, .nameAndType 40 26), (0, u "COMPACT_STRINGS"), (1, .class_ 44), (1, u "java/lang/StringUTF16"), (0, u "compress"), (1, .methodref 42 48), (0, .nameAndType 49 50), (0, u "coderFromArrayLen"), (0, u "([BI)B"), (56, .class_ 109), (1, u "java/lang/StringLatin1"), (32, u "()Z"), (34, .methodref 42 178), (0, .nameAndType 45 179), (0, u "([CII)[B"), (154, u "()I"), (0, .methodref 10 336), (0, .nameAndType 17 337), (0, u "()B"), (25, u "([BI)C"), (27, u "(II)V"), (35, u "(I)C"), (64, .methodref 10 493), (0, .nameAndType 494 142), (0, u "isLatin1"), (0, .methodref 107 496), (0, .nameAndType 497 363), (0, u "charAt"), (3, u "checkIndex"), (5, u "length"), (33, .methodref 107 542), (0, .nameAndType 543 544), (0, u "equals"), (0, u "([B[B)Z"), (28, u "(Ljava/lang/Object;)Z"), (1, .class_ 576), (0, u "java/lang/CharSequence"), (22, u "CASE_INSENSITIVE_ORDER"), (0, u "Ljava/util/Comparator;"), (409, u "([C)V"), (42, .fieldref 1054 1055), (0, .class_ 1056), (0, .nameAndType 1057 1058), (0, u "jdk/internal/util/Preconditions"), (0, u "SIOOBE_FORMATTER"), (0, u "Ljava/util/function/BiFunction;"), (0, .methodref 1054 1060), (0, .nameAndType 501 1061), (0, u "(IILjava/util/function/BiFunction;)I"), (39, u "serialPersistentFields"), (0, u "[Ljava/io/ObjectStreamField;"), (0, .class_ 1104), (0, u "java/lang/String$CaseInsensitiveComparator"), (1, .class_ 1107), (0, u "java/io/Serializable"), (0, .class_ 1109), (0, u "java/lang/Comparable"), (0, .class_ 1111), (0, u "java/lang/constant/Constable"), (0, .class_ 1113), (0, u "java/lang/constant/ConstantDesc"), (2, u "serialVersionUID"), (0, u "J"), (3, u "REPL"), (0, u "C"), (2, u "LATIN1"), (1, u "UTF16")] 323

def k7m0 : Method := { name := "<init>", desc := "()V", sig := { parameters := [], returnType := none }, accessFlags := 1, code := none }
def k7c1 : Code := { maxStack := 5, maxLocals := 2, code := jdk_42_method_3_code, exceptionTable := #[], attributes := #[] }
def k7m1 : Method := { name := "<init>", desc := "([C)V", sig := { parameters := [(.array .char)], returnType := none }, accessFlags := 1, code := some k7c1 }
def k7c2 : Code := { maxStack := 2, maxLocals := 1, code := jdk_42_method_54_code, exceptionTable := #[], attributes := #[] }
def k7m2 : Method := { name := "length", desc := "()I", sig := { parameters := [], returnType := some .int }, accessFlags := 1, code := some k7c2 }
def k7c3 : Code := { maxStack := 2, maxLocals := 2, code := jdk_42_method_56_code, exceptionTable := #[], attributes := #[] }
def k7m3 : Method := { name := "charAt", desc := "(I)C", sig := { parameters := [.int], returnType := some .char }, accessFlags := 1, code := some k7c3 }
def k7c4 : Code := { maxStack := 2, maxLocals := 3, code := jdk_42_method_66_code, exceptionTable := #[], attributes := #[] }
def k7m4 : Method := { name := "equals", desc := "(Ljava/lang/Object;)Z", sig := { parameters := [(.object "java/lang/Object")], returnType := some .boolean }, accessFlags := 1, code := some k7c4 }
def k7c5 : Code := { maxStack := 4, maxLocals := 6, code := jdk_42_method_149_code, exceptionTable := #[], attributes := #[] }
def k7m5 : Method := { name := "<init>", desc := "([CIILjava/lang/Void;)V", sig := { parameters := [(.array .char), .int, .int, (.object "java/lang/Void")], returnType := none }, accessFlags := 2, code := some k7c5 }
def k7c6 : Code := { maxStack := 1, maxLocals := 1, code := jdk_42_method_152_code, exceptionTable := #[], attributes := #[] }
def k7m6 : Method := { name := "coder", desc := "()B", sig := { parameters := [], returnType := some .byte }, accessFlags := 0, code := some k7c6 }
def k7c7 : Code := { maxStack := 1, maxLocals := 1, code := jdk_42_method_154_code, exceptionTable := #[], attributes := #[] }
def k7m7 : Method := { name := "isLatin1", desc := "()Z", sig := { parameters := [], returnType := some .boolean }, accessFlags := 0, code := some k7c7 }
def k7c8 : Code := { maxStack := 3, maxLocals := 2, code := jdk_42_method_155_code, exceptionTable := #[], attributes := #[] }
def k7m8 : Method := { name := "checkIndex", desc := "(II)V", sig := { parameters := [.int, .int], returnType := none }, accessFlags := 8, code := some k7c8 }
/-- java/lang/String -/
def k7 : Class := { plain "java/lang/String" (some 0) with
  accessFlags := 49
  interfaces := #[2, 3, 4, 5, 6]
  cf := some (fileOf pool7 10 #[.nestMembers #[1103]] #[{ accessFlags := 1, nameIndex := 5, descriptorIndex := 6, attributes := #[] }, { accessFlags := 1, nameIndex := 5, descriptorIndex := 1010, attributes := #[] }, { accessFlags := 1, nameIndex := 507, descriptorIndex := 334, attributes := #[] }, { accessFlags := 1, nameIndex := 497, descriptorIndex := 427, attributes := #[] }, { accessFlags := 1, nameIndex := 543, descriptorIndex := 573, attributes := #[] }, { accessFlags := 2, nameIndex := 5, descriptorIndex := 29, attributes := #[] }, { accessFlags := 0, nameIndex := 17, descriptorIndex := 337, attributes := #[] }, { accessFlags := 0, nameIndex := 494, descriptorIndex := 142, attributes := #[] }, { accessFlags := 8, nameIndex := 501, descriptorIndex := 391, attributes := #[] }] 49 2 #[1106, 1108, 575, 1110, 1112] #[{ accessFlags := 18, nameIndex := 13, descriptorIndex := 14, attributes := #[] }, { accessFlags := 18, nameIndex := 17, descriptorIndex := 18, attributes := #[] }, { accessFlags := 2, nameIndex := 21, descriptorIndex := 22, attributes := #[] }, { accessFlags := 2, nameIndex := 25, descriptorIndex := 26, attributes := #[] }, { accessFlags := 26, nameIndex := 1116, descriptorIndex := 1117, attributes := #[] }, { accessFlags := 24, nameIndex := 40, descriptorIndex := 26, attributes := #[] }, { accessFlags := 26, nameIndex := 1101, descriptorIndex := 1102, attributes := #[] }, { accessFlags := 26, nameIndex := 1121, descriptorIndex := 1122, attributes := #[] }, { accessFlags := 25, nameIndex := 599, descriptorIndex := 600, attributes := #[] }, { accessFlags := 24, nameIndex := 1125, descriptorIndex := 18, attributes := #[] }, { accessFlags := 24, nameIndex := 1127, descriptorIndex := 18, attributes := #[] }])
  fields := #[{ name := "value", type := (.array .byte), accessFlags := 18, slot := 0, constantValue := 0 }, { name := "coder", type := .byte, accessFlags := 18, slot := 1, constantValue := 0 }, { name := "hash", type := .int, accessFlags := 2, slot := 2, constantValue := 0 }, { name := "hashIsZero", type := .boolean, accessFlags := 2, slot := 3, constantValue := 0 }, { name := "serialVersionUID", type := .long, accessFlags := 26, slot := 0, constantValue := 0 }, { name := "COMPACT_STRINGS", type := .boolean, accessFlags := 24, slot := 1, constantValue := 0 }, { name := "serialPersistentFields", type := (.array (.object "java/io/ObjectStreamField")), accessFlags := 26, slot := 2, constantValue := 0 }, { name := "REPL", type := .char, accessFlags := 26, slot := 3, constantValue := 0 }, { name := "CASE_INSENSITIVE_ORDER", type := (.object "java/util/Comparator"), accessFlags := 25, slot := 4, constantValue := 0 }, { name := "LATIN1", type := .byte, accessFlags := 24, slot := 5, constantValue := 0 }, { name := "UTF16", type := .byte, accessFlags := 24, slot := 6, constantValue := 0 }]
  methods := #[k7m0, k7m1, k7m2, k7m3, k7m4, k7m5, k7m6, k7m7, k7m8]
  instanceTypes := #[(.array .byte), .byte, .int, .boolean]
  staticTypes := #[.long, .boolean, (.array (.object "java/io/ObjectStreamField")), .char, (.object "java/util/Comparator"), .byte, .byte]
  resolved := Array.replicate 1451 none
  statics := some 0 }

def pool8 : Array CpInfo := pool [(2, .class_ 4), (1, u "java/lang/Enum"), (0, u "name"), (0, u "Ljava/lang/String;"), (2, u "ordinal"), (0, u "I"), (1, .class_ 14), (1, u "java/lang/Object"), (4, u "hash"), (86, .class_ 108), (1, u "java/lang/Enum$EnumDesc"), (2, .class_ 112), (0, u "java/lang/constant/Constable"), (0, .class_ 114), (0, u "java/lang/Comparable"), (0, .class_ 116), (0, u "java/io/Serializable")] 87

/-- java/lang/Enum -/
def k8 : Class := { plain "java/lang/Enum" (some 0) with
  accessFlags := 1057
  interfaces := #[5, 3, 2]
  cf := some (fileOf pool8 2 #[.nestMembers #[106]] #[] 1057 12 #[111, 113, 115] #[{ accessFlags := 18, nameIndex := 5, descriptorIndex := 6, attributes := #[] }, { accessFlags := 18, nameIndex := 9, descriptorIndex := 10, attributes := #[] }, { accessFlags := 2, nameIndex := 19, descriptorIndex := 10, attributes := #[] }])
  fields := #[{ name := "name", type := (.object "java/lang/String"), accessFlags := 18, slot := 0, constantValue := 0 }, { name := "ordinal", type := .int, accessFlags := 18, slot := 1, constantValue := 0 }, { name := "hash", type := .int, accessFlags := 2, slot := 2, constantValue := 0 }]
  methods := #[]
  instanceTypes := #[(.object "java/lang/String"), .int, .int]
  staticTypes := #[]
  resolved := Array.replicate 204 none
  statics := none }

def pool9 : Array CpInfo := pool [(1, .class_ 2), (0, u "com/example/marcasite/marcasite/marc/Carrier"), (2, u "ISO2709"), (0, u "Lcom/example/marcasite/marcasite/marc/Carrier;"), (2, u "MARCXML"), (2, u "JSON"), (0, .fieldref 1 14), (0, .nameAndType 15 16), (0, u "$VALUES"), (0, u "[Lcom/example/marcasite/marcasite/marc/Carrier;"), (0, .methodref 18 19), (0, .class_ 16), (0, .nameAndType 20 21), (0, u "clone"), (0, u "()Ljava/lang/Object;"), (1, .class_ 25), (1, u "java/lang/Enum"), (6, .fieldref 1 33), (0, .nameAndType 34 35), (0, u "optionName"), (0, u "Ljava/lang/String;"), (0, .methodref 1 37), (0, .nameAndType 38 39), (0, u "values"), (0, u "()[Lcom/example/marcasite/marcasite/marc/Carrier;"), (0, .methodref 41 42), (0, .class_ 43), (0, .nameAndType 44 45), (0, u "java/lang/String"), (0, u "equals"), (0, u "(Ljava/lang/Object;)Z"), (0, .methodref 47 48), (0, .class_ 49), (0, .nameAndType 50 51), (0, u "java/util/Optional"), (0, u "of"), (0, u "(Ljava/lang/Object;)Ljava/util/Optional;"), (0, .methodref 47 53), (0, .nameAndType 54 55), (0, u "empty"), (0, u "()Ljava/util/Optional;"), (5, .class_ 63), (1, u "com/example/marcasite/marcasite/marc/Carrier$Start"), (21, .class_ 86), (0, u "com/example/marcasite/marcasite/marc/Carrier$1"), (6, .class_ 94), (0, u "com/example/marcasite/marcasite/marc/Carrier$2"), (4, .class_ 100), (0, u "com/example/marcasite/marcasite/marc/Carrier$3"), (14, u "named"), (0, u "(Ljava/lang/String;)Ljava/util/Optional;")] 19

def k9c0 : Code := { maxStack := 1, maxLocals := 0, code := prog_33_method_1_code, exceptionTable := #[], attributes := #[] }
def k9m0 : Method := { name := "values", desc := "()[Lcom/example/marcasite/marcasite/marc/Carrier;", sig := { parameters := [], returnType := some (.array (.object "com/example/marcasite/marcasite/marc/Carrier")) }, accessFlags := 9, code := some k9c0 }
def k9c1 : Code := { maxStack := 2, maxLocals := 5, code := prog_33_method_5_code, exceptionTable := #[], attributes := #[] }
def k9m1 : Method := { name := "named", desc := "(Ljava/lang/String;)Ljava/util/Optional;", sig := { parameters := [(.object "java/lang/String")], returnType := some (.object "java/util/Optional") }, accessFlags := 9, code := some k9c1 }
/-- com/example/marcasite/marcasite/marc/Carrier -/
def k9 : Class := { plain "com/example/marcasite/marcasite/marc/Carrier" (some 8) with
  accessFlags := 17441
  interfaces := #[]
  cf := some (fileOf pool9 1 #[.nestMembers #[61, 99, 93, 85]] #[{ accessFlags := 9, nameIndex := 38, descriptorIndex := 39, attributes := #[] }, { accessFlags := 9, nameIndex := 115, descriptorIndex := 116, attributes := #[] }] 17441 23 #[] #[{ accessFlags := 16409, nameIndex := 5, descriptorIndex := 6, attributes := #[] }, { accessFlags := 16409, nameIndex := 9, descriptorIndex := 6, attributes := #[] }, { accessFlags := 16409, nameIndex := 12, descriptorIndex := 6, attributes := #[] }, { accessFlags := 18, nameIndex := 34, descriptorIndex := 35, attributes := #[] }, { accessFlags := 4122, nameIndex := 15, descriptorIndex := 16, attributes := #[] }])
  fields := #[{ name := "ISO2709", type := (.object "com/example/marcasite/marcasite/marc/Carrier"), accessFlags := 16409, slot := 0, constantValue := 0 }, { name := "MARCXML", type := (.object "com/example/marcasite/marcasite/marc/Carrier"), accessFlags := 16409, slot := 1, constantValue := 0 }, { name := "JSON", type := (.object "com/example/marcasite/marcasite/marc/Carrier"), accessFlags := 16409, slot := 2, constantValue := 0 }, { name := "optionName", type := (.object "java/lang/String"), accessFlags := 18, slot := 3, constantValue := 0 }, { name := "$VALUES", type := (.array (.object "com/example/marcasite/marcasite/marc/Carrier")), accessFlags := 4122, slot := 3, constantValue := 0 }]
  methods := #[k9m0, k9m1]
  instanceTypes := #[(.object "java/lang/String"), .int, .int, (.object "java/lang/String")]
  staticTypes := #[(.object "com/example/marcasite/marcasite/marc/Carrier"), (.object "com/example/marcasite/marcasite/marc/Carrier"), (.object "com/example/marcasite/marcasite/marc/Carrier"), (.array (.object "com/example/marcasite/marcasite/marc/Carrier"))]
  resolved := Array.replicate 136 none
  statics := some 1 }

def pool10 : Array CpInfo := pool [(1, .class_ 2), (0, u "java/lang/String"), (1, .class_ 6), (1, u "java/lang/Object"), (0, u "<init>"), (0, u "()V"), (0, .methodref 1 10), (0, .nameAndType 11 12), (0, u "checkIndex"), (0, u "(II)V"), (1, .class_ 16), (1, u "java/lang/StringLatin1"), (36, u "([BI)C"), (67, u "$assertionsDisabled"), (0, u "Z"), (98, .class_ 223), (1, u "java/lang/StringLatin1$LinesSpliterator"), (28, u "charAt"), (28, u "equals"), (0, u "([B[B)Z"), (107, .class_ 391), (0, u "java/lang/StringLatin1$CharsSpliterator")] 3

def k10m0 : Method := { name := "<init>", desc := "()V", sig := { parameters := [], returnType := none }, accessFlags := 0, code := none }
def k10c1 : Code := { maxStack := 2, maxLocals := 2, code := jdk_43_method_2_code, exceptionTable := #[], attributes := #[] }
def k10m1 : Method := { name := "charAt", desc := "([BI)C", sig := { parameters := [(.array .byte), .int], returnType := some .char }, accessFlags := 9, code := some k10c1 }
def k10c2 : Code := { maxStack := 3, maxLocals := 3, code := jdk_43_method_13_code, exceptionTable := #[], attributes := #[] }
def k10m2 : Method := { name := "equals", desc := "([B[B)Z", sig := { parameters := [(.array .byte), (.array .byte)], returnType := some .boolean }, accessFlags := 9, code := some k10c2 }
/-- java/lang/StringLatin1 -/
def k10 : Class := { plain "java/lang/StringLatin1" (some 0) with
  accessFlags := 48
  interfaces := #[]
  cf := some (fileOf pool10 14 #[.nestMembers #[390, 221]] #[{ accessFlags := 0, nameIndex := 7, descriptorIndex := 8, attributes := #[] }, { accessFlags := 9, nameIndex := 252, descriptorIndex := 53, attributes := #[] }, { accessFlags := 9, nameIndex := 281, descriptorIndex := 282, attributes := #[] }] 48 4 #[] #[{ accessFlags := 4120, nameIndex := 121, descriptorIndex := 122, attributes := #[] }])
  fields := #[{ name := "$assertionsDisabled", type := .boolean, accessFlags := 4120, slot := 0, constantValue := 0 }]
  methods := #[k10m0, k10m1, k10m2]
  instanceTypes := #[]
  staticTypes := #[.boolean]
  resolved := Array.replicate 395 none
  statics := none }

def pool11 : Array CpInfo := pool [(2, .class_ 4), (1, u "java/lang/Object"), (0, u "<init>"), (0, u "()V"), (17, .class_ 26), (1, u "jdk/internal/util/Preconditions"), (6, u "checkIndex"), (21, .class_ 56), (0, u "jdk/internal/util/Preconditions$4"), (57, .class_ 115), (0, u "jdk/internal/util/Preconditions$1"), (7, u "SIOOBE_FORMATTER"), (0, u "Ljava/util/function/BiFunction;"), (0, .class_ 126), (0, u "jdk/internal/util/Preconditions$2"), (3, u "AIOOBE_FORMATTER"), (0, .class_ 132), (0, u "jdk/internal/util/Preconditions$3"), (3, u "IOOBE_FORMATTER"), (41, u "(IILjava/util/function/BiFunction;)I")] 15

def k11m0 : Method := { name := "<init>", desc := "()V", sig := { parameters := [], returnType := none }, accessFlags := 1, code := none }
def k11c1 : Code := { maxStack := 3, maxLocals := 3, code := jdk_41_method_11_code, exceptionTable := #[], attributes := #[] }
def k11m1 : Method := { name := "checkIndex", desc := "(IILjava/util/function/BiFunction;)I", sig := { parameters := [.int, .int, (.object "java/util/function/BiFunction")], returnType := some .int }, accessFlags := 9, code := some k11c1 }
/-- jdk/internal/util/Preconditions -/
def k11 : Class := { plain "jdk/internal/util/Preconditions" (some 0) with
  accessFlags := 33
  interfaces := #[]
  cf := some (fileOf pool11 24 #[.nestMembers #[55, 131, 125, 114]] #[{ accessFlags := 1, nameIndex := 5, descriptorIndex := 6, attributes := #[] }, { accessFlags := 9, nameIndex := 33, descriptorIndex := 178, attributes := #[] }] 33 2 #[] #[{ accessFlags := 25, nameIndex := 123, descriptorIndex := 124, attributes := #[] }, { accessFlags := 25, nameIndex := 130, descriptorIndex := 124, attributes := #[] }, { accessFlags := 25, nameIndex := 136, descriptorIndex := 124, attributes := #[] }])
  fields := #[{ name := "SIOOBE_FORMATTER", type := (.object "java/util/function/BiFunction"), accessFlags := 25, slot := 0, constantValue := 0 }, { name := "AIOOBE_FORMATTER", type := (.object "java/util/function/BiFunction"), accessFlags := 25, slot := 1, constantValue := 0 }, { name := "IOOBE_FORMATTER", type := (.object "java/util/function/BiFunction"), accessFlags := 25, slot := 2, constantValue := 0 }]
  methods := #[k11m0, k11m1]
  instanceTypes := #[]
  staticTypes := #[(.object "java/util/function/BiFunction"), (.object "java/util/function/BiFunction"), (.object "java/util/function/BiFunction")]
  resolved := Array.replicate 194 none
  statics := some 2 }

def pool12 : Array CpInfo := pool [(6, .class_ 8), (1, u "java/lang/Object"), (0, u "<init>"), (0, u "()V"), (1, .class_ 14), (1, u "java/lang/StringUTF16"), (31, u "$assertionsDisabled"), (0, u "Z"), (13, u "HI_BYTE_SHIFT"), (0, u "I"), (2, u "LO_BYTE_SHIFT"), (49, .methodref 12 116), (0, .nameAndType 117 118), (0, u "compress"), (0, u "([CI[BII)I"), (3, u "([CII)[B"), (138, u "coderFromArrayLen"), (0, u "([BI)B"), (106, .class_ 371), (1, u "java/lang/StringUTF16$LinesSpliterator"), (58, u "MAX_LENGTH"), (196, .class_ 628), (0, u "java/lang/StringUTF16$CodePointsSpliterator"), (0, .class_ 630), (0, u "java/lang/StringUTF16$CharsSpliterator")] 4

def k12m0 : Method := { name := "<init>", desc := "()V", sig := { parameters := [], returnType := none }, accessFlags := 0, code := none }
def k12c1 : Code := { maxStack := 2, maxLocals := 2, code := jdk_52_method_15_code, exceptionTable := #[], attributes := #[] }
def k12m1 : Method := { name := "coderFromArrayLen", desc := "([BI)B", sig := { parameters := [(.array .byte), .int], returnType := some .byte }, accessFlags := 8, code := some k12c1 }
def k12c2 : Code := { maxStack := 5, maxLocals := 6, code := jdk_52_method_16_code, exceptionTable := #[], attributes := #[] }
def k12m2 : Method := { name := "compress", desc := "([CII)[B", sig := { parameters := [(.array .char), .int, .int], returnType := some (.array .byte) }, accessFlags := 9, code := some k12c2 }
def k12c3 : Code := { maxStack := 3, maxLocals := 7, code := jdk_52_method_21_code, exceptionTable := #[], attributes := #[] }
def k12m3 : Method := { name := "compress", desc := "([CI[BII)I", sig := { parameters := [(.array .char), .int, (.array .byte), .int, .int], returnType := some .int }, accessFlags := 9, code := some k12c3 }
/-- java/lang/StringUTF16 -/
def k12 : Class := { plain "java/lang/StringUTF16" (some 0) with
  accessFlags := 48
  interfaces := #[]
  cf := some (fileOf pool12 12 #[.nestMembers #[627, 629, 369]] #[{ accessFlags := 0, nameIndex := 9, descriptorIndex := 10, attributes := #[] }, { accessFlags := 8, nameIndex := 261, descriptorIndex := 262, attributes := #[] }, { accessFlags := 9, nameIndex := 117, descriptorIndex := 122, attributes := #[] }, { accessFlags := 9, nameIndex := 117, descriptorIndex := 118, attributes := #[] }] 48 6 #[] #[{ accessFlags := 26, nameIndex := 61, descriptorIndex := 62, attributes := #[] }, { accessFlags := 26, nameIndex := 65, descriptorIndex := 62, attributes := #[] }, { accessFlags := 24, nameIndex := 430, descriptorIndex := 62, attributes := #[] }, { accessFlags := 4120, nameIndex := 46, descriptorIndex := 47, attributes := #[] }])
  fields := #[{ name := "HI_BYTE_SHIFT", type := .int, accessFlags := 26, slot := 0, constantValue := 0 }, { name := "LO_BYTE_SHIFT", type := .int, accessFlags := 26, slot := 1, constantValue := 0 }, { name := "MAX_LENGTH", type := .int, accessFlags := 24, slot := 2, constantValue := 0 }, { name := "$assertionsDisabled", type := .boolean, accessFlags := 4120, slot := 3, constantValue := 0 }]
  methods := #[k12m0, k12m1, k12m2, k12m3]
  instanceTypes := #[]
  staticTypes := #[.int, .int, .int, .boolean]
  resolved := Array.replicate 635 none
  statics := none }

def pool13 : Array CpInfo := pool [(1, .class_ 2), (0, u "java/lang/Cloneable"), (0, .class_ 4), (0, u "java/lang/Object")] 2

/-- java/lang/Cloneable -/
def k13 : Class := { plain "java/lang/Cloneable" (some 0) with
  accessFlags := 1537
  interfaces := #[]
  cf := some (fileOf pool13 1 #[] #[] 1537 3 #[] #[])
  fields := #[]
  methods := #[]
  instanceTypes := #[]
  staticTypes := #[]
  resolved := Array.replicate 7 none
  statics := none }

def pool14 : Array CpInfo := pool [(2, .class_ 4), (1, u "com/example/marcasite/marcasite/marc/Carrier"), (17, .class_ 23), (0, u "com/example/marcasite/marcasite/marc/Carrier$1")] 13

/-- com/example/marcasite/marcasite/marc/Carrier$1 -/
def k14 : Class := { plain "com/example/marcasite/marcasite/marc/Carrier$1" (some 9) with
  accessFlags := 16432
  interfaces := #[]
  cf := some (fileOf pool14 22 #[.nestHost 2] #[] 16432 2 #[] #[])
  fields := #[]
  methods := #[]
  instanceTypes := #[(.object "java/lang/String"), .int, .int, (.object "java/lang/String")]
  staticTypes := #[]
  resolved := Array.replicate 37 none
  statics := none }

def pool15 : Array CpInfo := pool [(2, .class_ 4), (1, u "com/example/marcasite/marcasite/marc/Carrier"), (16, .class_ 22), (0, u "com/example/marcasite/marcasite/marc/Carrier$2")] 13

/-- com/example/marcasite/marcasite/marc/Carrier$2 -/
def k15 : Class := { plain "com/example/marcasite/marcasite/marc/Carrier$2" (some 9) with
  accessFlags := 16432
  interfaces := #[]
  cf := some (fileOf pool15 21 #[.nestHost 2] #[] 16432 2 #[] #[])
  fields := #[]
  methods := #[]
  instanceTypes := #[(.object "java/lang/String"), .int, .int, (.object "java/lang/String")]
  staticTypes := #[]
  resolved := Array.replicate 36 none
  statics := none }

def pool16 : Array CpInfo := pool [(2, .class_ 4), (1, u "com/example/marcasite/marcasite/marc/Carrier"), (13, .class_ 19), (0, u "com/example/marcasite/marcasite/marc/Carrier$3")] 13

/-- com/example/marcasite/marcasite/marc/Carrier$3 -/
def k16 : Class := { plain "com/example/marcasite/marcasite/marc/Carrier$3" (some 9) with
  accessFlags := 16432
  interfaces := #[]
  cf := some (fileOf pool16 18 #[.nestHost 2] #[] 16432 2 #[] #[])
  fields := #[]
  methods := #[]
  instanceTypes := #[(.object "java/lang/String"), .int, .int, (.object "java/lang/String")]
  staticTypes := #[]
  resolved := Array.replicate 33 none
  statics := none }

def pool17 : Array CpInfo := pool [(1, .fieldref 2 3), (0, .class_ 4), (0, .nameAndType 5 6), (0, u "java/util/Optional"), (0, u "EMPTY"), (0, u "Ljava/util/Optional;"), (0, .methodref 8 9), (0, .class_ 10), (0, .nameAndType 11 12), (0, u "java/lang/Object"), (0, u "<init>"), (0, u "()V"), (0, .fieldref 2 14), (0, .nameAndType 15 16), (0, u "value"), (0, u "Ljava/lang/Object;"), (0, .methodref 18 19), (0, .class_ 20), (0, .nameAndType 21 22), (0, u "java/util/Objects"), (0, u "requireNonNull"), (0, u "(Ljava/lang/Object;)Ljava/lang/Object;"), (0, .methodref 2 24), (0, .nameAndType 11 25), (0, u "(Ljava/lang/Object;)V"), (29, u "empty"), (0, u "()Ljava/util/Optional;"), (8, u "(Ljava/lang/Object;)Ljava/util/Optional;"), (16, u "of"), (82, u "orElse")] 21

def k17c0 : Code := { maxStack := 1, maxLocals := 1, code := jdk_32_method_1_code, exceptionTable := #[], attributes := #[] }
def k17m0 : Method := { name := "empty", desc := "()Ljava/util/Optional;", sig := { parameters := [], returnType := some (.object "java/util/Optional") }, accessFlags := 9, code := some k17c0 }
def k17c1 : Code := { maxStack := 2, maxLocals := 2, code := jdk_32_method_2_code, exceptionTable := #[], attributes := #[] }
def k17m1 : Method := { name := "<init>", desc := "(Ljava/lang/Object;)V", sig := { parameters := [(.object "java/lang/Object")], returnType := none }, accessFlags := 2, code := some k17c1 }
def k17c2 : Code := { maxStack := 3, maxLocals := 1, code := jdk_32_method_3_code, exceptionTable := #[], attributes := #[] }
def k17m2 : Method := { name := "of", desc := "(Ljava/lang/Object;)Ljava/util/Optional;", sig := { parameters := [(.object "java/lang/Object")], returnType := some (.object "java/util/Optional") }, accessFlags := 9, code := some k17c2 }
def k17c3 : Code := { maxStack := 1, maxLocals := 2, code := jdk_32_method_15_code, exceptionTable := #[], attributes := #[] }
def k17m3 : Method := { name := "orElse", desc := "(Ljava/lang/Object;)Ljava/lang/Object;", sig := { parameters := [(.object "java/lang/Object")], returnType := some (.object "java/lang/Object") }, accessFlags := 1, code := some k17c3 }
/-- java/util/Optional -/
def k17 : Class := { plain "java/util/Optional" (some 0) with
  accessFlags := 49
  interfaces := #[]
  cf := some (fileOf pool17 2 #[] #[{ accessFlags := 9, nameIndex := 55, descriptorIndex := 56, attributes := #[] }, { accessFlags := 2, nameIndex := 11, descriptorIndex := 25, attributes := #[] }, { accessFlags := 9, nameIndex := 82, descriptorIndex := 65, attributes := #[] }, { accessFlags := 1, nameIndex := 165, descriptorIndex := 22, attributes := #[] }] 49 8 #[] #[{ accessFlags := 26, nameIndex := 5, descriptorIndex := 6, attributes := #[] }, { accessFlags := 18, nameIndex := 15, descriptorIndex := 16, attributes := #[] }])
  fields := #[{ name := "EMPTY", type := (.object "java/util/Optional"), accessFlags := 26, slot := 0, constantValue := 0 }, { name := "value", type := (.object "java/lang/Object"), accessFlags := 18, slot := 0, constantValue := 0 }]
  methods := #[k17m0, k17m1, k17m2, k17m3]
  instanceTypes := #[(.object "java/lang/Object")]
  staticTypes := #[(.object "java/util/Optional")]
  resolved := Array.replicate 187 none
  statics := some 3 }

def pool18 : Array CpInfo := pool [(2, .class_ 4), (1, u "java/lang/Object"), (0, u "<init>"), (0, u "()V"), (35, .class_ 44), (1, u "java/util/Objects"), (0, u "requireNonNull"), (0, u "(Ljava/lang/Object;)Ljava/lang/Object;")] 137

def k18m0 : Method := { name := "<init>", desc := "()V", sig := { parameters := [], returnType := none }, accessFlags := 2, code := none }
def k18c1 : Code := { maxStack := 2, maxLocals := 1, code := jdk_31_method_10_code, exceptionTable := #[], attributes := #[] }
def k18m1 : Method := { name := "requireNonNull", desc := "(Ljava/lang/Object;)Ljava/lang/Object;", sig := { parameters := [(.object "java/lang/Object")], returnType := some (.object "java/lang/Object") }, accessFlags := 9, code := some k18c1 }
/-- java/util/Objects -/
def k18 : Class := { plain "java/util/Objects" (some 0) with
  accessFlags := 49
  interfaces := #[]
  cf := some (fileOf pool18 42 #[] #[{ accessFlags := 2, nameIndex := 5, descriptorIndex := 6, attributes := #[] }, { accessFlags := 9, nameIndex := 45, descriptorIndex := 46, attributes := #[] }] 49 2 #[] #[])
  fields := #[]
  methods := #[k18m0, k18m1]
  instanceTypes := #[]
  staticTypes := #[]
  resolved := Array.replicate 184 none
  statics := none }

def pool19 : Array CpInfo := pool [(9, u "<init>"), (6, .class_ 18), (1, u "java/lang/Object"), (0, u "()V"), (1, .class_ 23), (1, u "jdk/internal/util/ArraysSupport"), (0, u "LOG2_ARRAY_LONG_INDEX_SCALE"), (0, u "I"), (2, u "U"), (0, u "Ljdk/internal/misc/Unsafe;"), (8, u "BIG_ENDIAN"), (0, u "Z"), (8, u "LOG2_BYTE_BIT_SIZE"), (4, u "LOG2_ARRAY_INT_INDEX_SCALE"), (54, u "JLA"), (0, u "Ljdk/internal/access/JavaLangAccess;"), (11, u "LOG2_ARRAY_BOOLEAN_INDEX_SCALE"), (9, u "LOG2_ARRAY_BYTE_INDEX_SCALE"), (5, u "LOG2_ARRAY_CHAR_INDEX_SCALE"), (5, u "LOG2_ARRAY_SHORT_INDEX_SCALE"), (18, u "LOG2_ARRAY_FLOAT_INDEX_SCALE"), (24, u "LOG2_ARRAY_DOUBLE_INDEX_SCALE"), (89, u "T_BOOLEAN"), (2, u "T_CHAR"), (1, u "T_FLOAT"), (1, u "T_DOUBLE"), (1, u "T_BYTE"), (1, u "T_SHORT"), (1, u "T_INT"), (1, u "T_LONG"), (1, u "SOFT_MAX_ARRAY_LENGTH")] 83

def k19m0 : Method := { name := "<init>", desc := "()V", sig := { parameters := [], returnType := none }, accessFlags := 2, code := none }
/-- jdk/internal/util/ArraysSupport -/
def k19 : Class := { plain "jdk/internal/util/ArraysSupport" (some 0) with
  accessFlags := 33
  interfaces := #[]
  cf := some (fileOf pool19 21 #[] #[{ accessFlags := 2, nameIndex := 9, descriptorIndex := 19, attributes := #[] }] 33 16 #[] #[{ accessFlags := 24, nameIndex := 28, descriptorIndex := 29, attributes := #[] }, { accessFlags := 26, nameIndex := 38, descriptorIndex := 39, attributes := #[] }, { accessFlags := 25, nameIndex := 121, descriptorIndex := 25, attributes := #[] }, { accessFlags := 25, nameIndex := 131, descriptorIndex := 25, attributes := #[] }, { accessFlags := 25, nameIndex := 137, descriptorIndex := 25, attributes := #[] }, { accessFlags := 25, nameIndex := 143, descriptorIndex := 25, attributes := #[] }, { accessFlags := 25, nameIndex := 53, descriptorIndex := 25, attributes := #[] }, { accessFlags := 25, nameIndex := 24, descriptorIndex := 25, attributes := #[] }, { accessFlags := 25, nameIndex := 162, descriptorIndex := 25, attributes := #[] }, { accessFlags := 25, nameIndex := 187, descriptorIndex := 25, attributes := #[] }, { accessFlags := 26, nameIndex := 48, descriptorIndex := 25, attributes := #[] }, { accessFlags := 25, nameIndex := 277, descriptorIndex := 25, attributes := #[] }, { accessFlags := 25, nameIndex := 280, descriptorIndex := 25, attributes := #[] }, { accessFlags := 25, nameIndex := 282, descriptorIndex := 25, attributes := #[] }, { accessFlags := 25, nameIndex := 284, descriptorIndex := 25, attributes := #[] }, { accessFlags := 25, nameIndex := 286, descriptorIndex := 25, attributes := #[] }, { accessFlags := 25, nameIndex := 288, descriptorIndex := 25, attributes := #[] }, { accessFlags := 25, nameIndex := 290, descriptorIndex := 25, attributes := #[] }, { accessFlags := 25, nameIndex := 292, descriptorIndex := 25, attributes := #[] }, { accessFlags := 26, nameIndex := 108, descriptorIndex := 109, attributes := #[] }, { accessFlags := 25, nameIndex := 294, descriptorIndex := 25, attributes := #[] }])
  fields := #[{ name := "U", type := (.object "jdk/internal/misc/Unsafe"), accessFlags := 24, slot := 0, constantValue := 0 }, { name := "BIG_ENDIAN", type := .boolean, accessFlags := 26, slot := 1, constantValue := 0 }, { name := "LOG2_ARRAY_BOOLEAN_INDEX_SCALE", type := .int, accessFlags := 25, slot := 2, constantValue := 0 }, { name := "LOG2_ARRAY_BYTE_INDEX_SCALE", type := .int, accessFlags := 25, slot := 3, constantValue := 0 }, { name := "LOG2_ARRAY_CHAR_INDEX_SCALE", type := .int, accessFlags := 25, slot := 4, constantValue := 0 }, { name := "LOG2_ARRAY_SHORT_INDEX_SCALE", type := .int, accessFlags := 25, slot := 5, constantValue := 0 }, { name := "LOG2_ARRAY_INT_INDEX_SCALE", type := .int, accessFlags := 25, slot := 6, constantValue := 0 }, { name := "LOG2_ARRAY_LONG_INDEX_SCALE", type := .int, accessFlags := 25, slot := 7, constantValue := 0 }, { name := "LOG2_ARRAY_FLOAT_INDEX_SCALE", type := .int, accessFlags := 25, slot := 8, constantValue := 0 }, { name := "LOG2_ARRAY_DOUBLE_INDEX_SCALE", type := .int, accessFlags := 25, slot := 9, constantValue := 0 }, { name := "LOG2_BYTE_BIT_SIZE", type := .int, accessFlags := 26, slot := 10, constantValue := 0 }, { name := "T_BOOLEAN", type := .int, accessFlags := 25, slot := 11, constantValue := 0 }, { name := "T_CHAR", type := .int, accessFlags := 25, slot := 12, constantValue := 0 }, { name := "T_FLOAT", type := .int, accessFlags := 25, slot := 13, constantValue := 0 }, { name := "T_DOUBLE", type := .int, accessFlags := 25, slot := 14, constantValue := 0 }, { name := "T_BYTE", type := .int, accessFlags := 25, slot := 15, constantValue := 0 }, { name := "T_SHORT", type := .int, accessFlags := 25, slot := 16, constantValue := 0 }, { name := "T_INT", type := .int, accessFlags := 25, slot := 17, constantValue := 0 }, { name := "T_LONG", type := .int, accessFlags := 25, slot := 18, constantValue := 0 }, { name := "JLA", type := (.object "jdk/internal/access/JavaLangAccess"), accessFlags := 26, slot := 19, constantValue := 0 }, { name := "SOFT_MAX_ARRAY_LENGTH", type := .int, accessFlags := 25, slot := 20, constantValue := 0 }]
  methods := #[k19m0]
  instanceTypes := #[]
  staticTypes := #[(.object "jdk/internal/misc/Unsafe"), .boolean, .int, .int, .int, .int, .int, .int, .int, .int, .int, .int, .int, .int, .int, .int, .int, .int, .int, (.object "jdk/internal/access/JavaLangAccess"), .int]
  resolved := Array.replicate 378 none
  statics := none }

/-- the primitive byte -/
def k20 : Class := { plain "byte" none with kind := .primitive 'B', accessFlags := 0x411 }
/-- [B -/
def k21 : Class := { plain "[B" (some 0) with kind := .array 20 .byte, interfaces := #[13, 2], accessFlags := 1041 }

/-- the primitive char -/
def k22 : Class := { plain "char" none with kind := .primitive 'C', accessFlags := 0x411 }
/-- [C -/
def k23 : Class := { plain "[C" (some 0) with kind := .array 22 .char, interfaces := #[13, 2], accessFlags := 1041 }

/-- the primitive int -/
def k24 : Class := { plain "int" none with kind := .primitive 'I', accessFlags := 0x411 }
/-- [I -/
def k25 : Class := { plain "[I" (some 0) with kind := .array 24 .int, interfaces := #[13, 2], accessFlags := 1041 }

/-- [Lcom/example/marcasite/marcasite/marc/Carrier; -/
def k26 : Class := { plain "[Lcom/example/marcasite/marcasite/marc/Carrier;" (some 0) with kind := .array 9 (.object "com/example/marcasite/marcasite/marc/Carrier"), interfaces := #[13, 2], accessFlags := 1041 }

def heap : Heap := #[{ cls := 7, slots := #[.long 0, .int 1, .null, .int 0, .null, .int 0, .int 0], vm := .statics 7 },
  { cls := 9, slots := #[.ref 11, .ref 12, .ref 13, .ref 4], vm := .statics 9 },
  { cls := 11, slots := #[.null, .null, .null], vm := .statics 11 },
  { cls := 17, slots := #[.ref 14], vm := .statics 17 },
  { cls := 26, slots := #[.ref 11, .ref 12, .ref 13], vm := .none },
  { cls := 21, slots := #[.int 105, .int 115, .int 111, .int 50, .int 55, .int 48, .int 57], vm := .none },
  { cls := 7, slots := #[.ref 5, .int 0, .int 0, .int 0], vm := .none },
  { cls := 21, slots := #[.int 109, .int 97, .int 114, .int 99, .int 120, .int 109, .int 108], vm := .none },
  { cls := 7, slots := #[.ref 7, .int 0, .int 0, .int 0], vm := .none },
  { cls := 21, slots := #[.int 106, .int 115, .int 111, .int 110], vm := .none },
  { cls := 7, slots := #[.ref 9, .int 0, .int 0, .int 0], vm := .none },
  { cls := 14, slots := #[.null, .int 0, .int 0, .ref 6], vm := .none },
  { cls := 15, slots := #[.null, .int 1, .int 0, .ref 8], vm := .none },
  { cls := 16, slots := #[.null, .int 2, .int 0, .ref 10], vm := .none },
  { cls := 17, slots := #[.null], vm := .none }]
def classes : Array Class := #[k0, k1, k2, k3, k4, k5, k6, k7, k8, k9, k10, k11, k12, k13, k14, k15, k16, k17, k18, k19, k20, k21, k22, k23, k24, k25, k26]
def interned : List (Array UInt16 × Addr) := []
def slotsUsed : Nat := 61
def theMethod : MethodId := ⟨1, 1⟩
def args0 : Array Value := #[.int 1, .int 16, .int 3, .int 256, .int 65]
def aboutOver (below : List Frame) : State where
  vm := { classes := classes, interned := interned.toArray }
  heap := heap
  slotsUsed := slotsUsed
  threads := #[{ frames := .invoking theMethod args0 :: below }]
def below0 : List Frame := [.native { method := ⟨0, 0⟩, args := #[] }]
def about1 : State := aboutOver below0
def p0 : Program := .bare "" "" ""
def e0 : Env := launch0.env 0 0 0
theorem w_frames : about1.frames = Frame.invoking theMethod args0 :: below0 := rfl
set_option maxRecDepth 65536 in
theorem w_args : argsFit about1.vm theMethod args0 = true := by decide +kernel
set_option maxRecDepth 65536 in
theorem w_heap : heapFits about1 = true := by decide +kernel
set_option maxRecDepth 65536 in
theorem w_runnable : about1.curStatus? = some .runnable := by decide +kernel
set_option maxRecDepth 65536 in
theorem w_alone : about1.alone = true := by decide +kernel
set_option maxRecDepth 65536 in
theorem w_named : about1.methodNamed? x = some theMethod := by decide +kernel
set_option maxRecDepth 65536 in
theorem w_hears : about1.hears theMethod below0 = true := by decide +kernel
set_option maxRecDepth 65536 in
theorem w_ripe : about1.ripe theMethod args0 below0 = true := by decide +kernel
theorem w_running : about1.status = .running := rfl
set_option maxRecDepth 65536 in
theorem w_room : about1.hasRoom e0.platform room_1 = true :=
  launch0.hasRoom_least _ room_1 (by decide +kernel) (by decide +kernel) (by decide +kernel) (by decide +kernel) (by decide +kernel) (by decide +kernel)
theorem allAtoms_all (ts : List Jvm.Cond) (a : Array Jvm.Value) (st : Jvm.State) : (allAtoms ts).before a st = ts.all (fun c => c.before a st) := by
  induction ts with
  | nil => rfl
  | cons c t ih =>
    show (Jvm.Cond.and c (allAtoms t)).before a st = _
    rw [Jvm.Cond.before_and, ih, List.all_cons]
def words1 : List Jvm.Cond := Jvm.Cond.code x code maxLocals ret :: tables_1
/-- a 'code' word, met by the world's own term for the bytes: nothing is compared byte by byte -/
theorem code_word {y : MethodName} {bytes : ByteArray} {mx : Nat} {rt : Option FieldType} {a : Array Value} {s : State} {m : MethodId} {meth : Method} {c : Code} (h1 : s.methodNamed? y = some m) (h2 : s.vm.method? m = some meth) (h3 : meth.code = some c) (h4 : c.code = bytes)
    (h5 : (c.maxLocals == mx && c.exceptionTable.isEmpty && decide (c.maxStack ≤ mostOperands) && decide (meth.sig.returnType = rt) && !meth.locks && decide (parseMethodDescriptor y.desc = some meth.sig)) = true) : (Jvm.Cond.code y bytes mx rt).before a s = true := by
  simp only [Bool.and_eq_true, beq_iff_eq, Bool.not_eq_true', decide_eq_true_eq] at h5
  obtain ⟨⟨⟨⟨⟨g1, g2⟩, g3⟩, g4⟩, g5⟩, g6⟩ := h5
  simp [Cond.before, Cond.holds, Cond.value, h1, h2, h3, h4, g1, g2, g3, g4, g5, g6]
def isCode : Jvm.Cond → Bool
  | .code _ _ _ _ => true
  | _ => false
theorem all_split {L : List Jvm.Cond} {P : Jvm.Cond → Bool} (h1 : L.all (fun c => isCode c || P c) = true) (h2 : ∀ c ∈ L.filter isCode, P c = true) : L.all P = true := by
  refine List.all_eq_true.mpr fun c hc => ?_
  have h := List.all_eq_true.mp h1 c hc
  rcases Bool.eq_false_or_eq_true (isCode c) with hi | hi
  · exact h2 c (List.mem_filter.mpr ⟨hc, hi⟩)
  · simpa [hi] using h
set_option maxRecDepth 65536 in
theorem w_c0 : (Jvm.Cond.code x code maxLocals ret).before args0 about1 = true := code_word (m := ⟨1, 1⟩) (meth := k1m1) (c := k1c1) (by decide +kernel) rfl rfl rfl (by decide +kernel)
set_option maxRecDepth 65536 in
theorem w_c1 : (Jvm.Cond.code ({ cls := "java/lang/String", name := "length", desc := "()I" } : Jvm.MethodName) jdk_42_method_54_code (1 : Nat) (Option.some Jvm.ClassFile.FieldType.int)).before args0 about1 = true := code_word (m := ⟨7, 2⟩) (meth := k7m2) (c := k7c2) (by decide +kernel) rfl rfl rfl (by decide +kernel)
set_option maxRecDepth 65536 in
theorem w_c2 : (Jvm.Cond.code ({ cls := "java/lang/String", name := "coder", desc := "()B" } : Jvm.MethodName) jdk_42_method_152_code (1 : Nat) (Option.some Jvm.ClassFile.FieldType.byte)).before args0 about1 = true := code_word (m := ⟨7, 6⟩) (meth := k7m6) (c := k7c6) (by decide +kernel) rfl rfl rfl (by decide +kernel)
set_option maxRecDepth 65536 in
theorem w_c3 : (Jvm.Cond.code ({ cls := "com/example/marcasite/marcasite/marc/CarrierNamedPinLaw", name := "at", desc := "(Ljava/lang/String;IC)C" } : Jvm.MethodName) method_3_code (3 : Nat) (Option.some Jvm.ClassFile.FieldType.char)).before args0 about1 = true := code_word (m := ⟨1, 2⟩) (meth := k1m2) (c := k1c2) (by decide +kernel) rfl rfl rfl (by decide +kernel)
set_option maxRecDepth 65536 in
theorem w_c4 : (Jvm.Cond.code ({ cls := "java/lang/String", name := "charAt", desc := "(I)C" } : Jvm.MethodName) jdk_42_method_56_code (2 : Nat) (Option.some Jvm.ClassFile.FieldType.char)).before args0 about1 = true := code_word (m := ⟨7, 3⟩) (meth := k7m3) (c := k7c3) (by decide +kernel) rfl rfl rfl (by decide +kernel)
set_option maxRecDepth 65536 in
theorem w_c5 : (Jvm.Cond.code ({ cls := "java/lang/String", name := "isLatin1", desc := "()Z" } : Jvm.MethodName) jdk_42_method_154_code (1 : Nat) (Option.some Jvm.ClassFile.FieldType.boolean)).before args0 about1 = true := code_word (m := ⟨7, 7⟩) (meth := k7m7) (c := k7c7) (by decide +kernel) rfl rfl rfl (by decide +kernel)
set_option maxRecDepth 65536 in
theorem w_c6 : (Jvm.Cond.code ({ cls := "java/lang/StringLatin1", name := "charAt", desc := "([BI)C" } : Jvm.MethodName) jdk_43_method_2_code (2 : Nat) (Option.some Jvm.ClassFile.FieldType.char)).before args0 about1 = true := code_word (m := ⟨10, 1⟩) (meth := k10m1) (c := k10c1) (by decide +kernel) rfl rfl rfl (by decide +kernel)
set_option maxRecDepth 65536 in
theorem w_c7 : (Jvm.Cond.code ({ cls := "java/lang/String", name := "checkIndex", desc := "(II)V" } : Jvm.MethodName) jdk_42_method_155_code (2 : Nat) (Option.none : Option Jvm.ClassFile.FieldType)).before args0 about1 = true := code_word (m := ⟨7, 8⟩) (meth := k7m8) (c := k7c8) (by decide +kernel) rfl rfl rfl (by decide +kernel)
set_option maxRecDepth 65536 in
theorem w_c8 : (Jvm.Cond.code ({ cls := "jdk/internal/util/Preconditions", name := "checkIndex", desc := "(IILjava/util/function/BiFunction;)I" } : Jvm.MethodName) jdk_41_method_11_code (3 : Nat) (Option.some Jvm.ClassFile.FieldType.int)).before args0 about1 = true := code_word (m := ⟨11, 1⟩) (meth := k11m1) (c := k11c1) (by decide +kernel) rfl rfl rfl (by decide +kernel)
set_option maxRecDepth 65536 in
theorem w_c9 : (Jvm.Cond.code ({ cls := "com/example/marcasite/marcasite/marc/CarrierNamedPinLaw", name := "prefix", desc := "([CI)Ljava/lang/String;" } : Jvm.MethodName) method_4_code (2 : Nat) (Option.some (Jvm.ClassFile.FieldType.object "java/lang/String"))).before args0 about1 = true := code_word (m := ⟨1, 3⟩) (meth := k1m3) (c := k1c3) (by decide +kernel) rfl rfl rfl (by decide +kernel)
set_option maxRecDepth 65536 in
theorem w_c10 : (Jvm.Cond.code ({ cls := "java/lang/String", name := "<init>", desc := "([C)V" } : Jvm.MethodName) jdk_42_method_3_code (2 : Nat) (Option.none : Option Jvm.ClassFile.FieldType)).before args0 about1 = true := code_word (m := ⟨7, 1⟩) (meth := k7m1) (c := k7c1) (by decide +kernel) rfl rfl rfl (by decide +kernel)
set_option maxRecDepth 65536 in
theorem w_c11 : (Jvm.Cond.code ({ cls := "java/lang/String", name := "<init>", desc := "([CIILjava/lang/Void;)V" } : Jvm.MethodName) jdk_42_method_149_code (6 : Nat) (Option.none : Option Jvm.ClassFile.FieldType)).before args0 about1 = true := code_word (m := ⟨7, 5⟩) (meth := k7m5) (c := k7c5) (by decide +kernel) rfl rfl rfl (by decide +kernel)
set_option maxRecDepth 65536 in
theorem w_c12 : (Jvm.Cond.code ({ cls := "java/lang/Object", name := "<init>", desc := "()V" } : Jvm.MethodName) object_method_1_code (1 : Nat) (Option.none : Option Jvm.ClassFile.FieldType)).before args0 about1 = true := code_word (m := ⟨0, 0⟩) (meth := k0m0) (c := k0c0) (by decide +kernel) rfl rfl rfl (by decide +kernel)
set_option maxRecDepth 65536 in
theorem w_c13 : (Jvm.Cond.code ({ cls := "java/lang/StringUTF16", name := "compress", desc := "([CII)[B" } : Jvm.MethodName) jdk_52_method_16_code (6 : Nat) (Option.some (Jvm.ClassFile.FieldType.array Jvm.ClassFile.FieldType.byte))).before args0 about1 = true := code_word (m := ⟨12, 2⟩) (meth := k12m2) (c := k12c2) (by decide +kernel) rfl rfl rfl (by decide +kernel)
set_option maxRecDepth 65536 in
theorem w_c14 : (Jvm.Cond.code ({ cls := "java/lang/StringUTF16", name := "compress", desc := "([CI[BII)I" } : Jvm.MethodName) jdk_52_method_21_code (7 : Nat) (Option.some Jvm.ClassFile.FieldType.int)).before args0 about1 = true := code_word (m := ⟨12, 3⟩) (meth := k12m3) (c := k12c3) (by decide +kernel) rfl rfl rfl (by decide +kernel)
set_option maxRecDepth 65536 in
theorem w_c15 : (Jvm.Cond.code ({ cls := "java/lang/StringUTF16", name := "coderFromArrayLen", desc := "([BI)B" } : Jvm.MethodName) jdk_52_method_15_code (2 : Nat) (Option.some Jvm.ClassFile.FieldType.byte)).before args0 about1 = true := code_word (m := ⟨12, 1⟩) (meth := k12m1) (c := k12c1) (by decide +kernel) rfl rfl rfl (by decide +kernel)
set_option maxRecDepth 65536 in
theorem w_c16 : (Jvm.Cond.code ({ cls := "com/example/marcasite/marcasite/marc/Carrier", name := "named", desc := "(Ljava/lang/String;)Ljava/util/Optional;" } : Jvm.MethodName) prog_33_method_5_code (5 : Nat) (Option.some (Jvm.ClassFile.FieldType.object "java/util/Optional"))).before args0 about1 = true := code_word (m := ⟨9, 1⟩) (meth := k9m1) (c := k9c1) (by decide +kernel) rfl rfl rfl (by decide +kernel)
set_option maxRecDepth 65536 in
theorem w_c17 : (Jvm.Cond.code ({ cls := "com/example/marcasite/marcasite/marc/Carrier", name := "values", desc := "()[Lcom/example/marcasite/marcasite/marc/Carrier;" } : Jvm.MethodName) prog_33_method_1_code (0 : Nat) (Option.some (Jvm.ClassFile.FieldType.array (Jvm.ClassFile.FieldType.object "com/example/marcasite/marcasite/marc/Carrier")))).before args0 about1 = true := code_word (m := ⟨9, 0⟩) (meth := k9m0) (c := k9c0) (by decide +kernel) rfl rfl rfl (by decide +kernel)
set_option maxRecDepth 65536 in
theorem w_c18 : (Jvm.Cond.code ({ cls := "java/lang/String", name := "equals", desc := "(Ljava/lang/Object;)Z" } : Jvm.MethodName) jdk_42_method_66_code (3 : Nat) (Option.some Jvm.ClassFile.FieldType.boolean)).before args0 about1 = true := code_word (m := ⟨7, 4⟩) (meth := k7m4) (c := k7c4) (by decide +kernel) rfl rfl rfl (by decide +kernel)
set_option maxRecDepth 65536 in
theorem w_c19 : (Jvm.Cond.code ({ cls := "java/lang/StringLatin1", name := "equals", desc := "([B[B)Z" } : Jvm.MethodName) jdk_43_method_13_code (3 : Nat) (Option.some Jvm.ClassFile.FieldType.boolean)).before args0 about1 = true := code_word (m := ⟨10, 2⟩) (meth := k10m2) (c := k10c2) (by decide +kernel) rfl rfl rfl (by decide +kernel)
set_option maxRecDepth 65536 in
theorem w_c20 : (Jvm.Cond.code ({ cls := "java/util/Optional", name := "empty", desc := "()Ljava/util/Optional;" } : Jvm.MethodName) jdk_32_method_1_code (1 : Nat) (Option.some (Jvm.ClassFile.FieldType.object "java/util/Optional"))).before args0 about1 = true := code_word (m := ⟨17, 0⟩) (meth := k17m0) (c := k17c0) (by decide +kernel) rfl rfl rfl (by decide +kernel)
set_option maxRecDepth 65536 in
theorem w_c21 : (Jvm.Cond.code ({ cls := "java/util/Optional", name := "orElse", desc := "(Ljava/lang/Object;)Ljava/lang/Object;" } : Jvm.MethodName) jdk_32_method_15_code (2 : Nat) (Option.some (Jvm.ClassFile.FieldType.object "java/lang/Object"))).before args0 about1 = true := code_word (m := ⟨17, 3⟩) (meth := k17m3) (c := k17c3) (by decide +kernel) rfl rfl rfl (by decide +kernel)
set_option maxRecDepth 65536 in
theorem w_c22 : (Jvm.Cond.code ({ cls := "java/util/Optional", name := "of", desc := "(Ljava/lang/Object;)Ljava/util/Optional;" } : Jvm.MethodName) jdk_32_method_3_code (1 : Nat) (Option.some (Jvm.ClassFile.FieldType.object "java/util/Optional"))).before args0 about1 = true := code_word (m := ⟨17, 2⟩) (meth := k17m2) (c := k17c2) (by decide +kernel) rfl rfl rfl (by decide +kernel)
set_option maxRecDepth 65536 in
theorem w_c23 : (Jvm.Cond.code ({ cls := "java/util/Objects", name := "requireNonNull", desc := "(Ljava/lang/Object;)Ljava/lang/Object;" } : Jvm.MethodName) jdk_31_method_10_code (1 : Nat) (Option.some (Jvm.ClassFile.FieldType.object "java/lang/Object"))).before args0 about1 = true := code_word (m := ⟨18, 1⟩) (meth := k18m1) (c := k18c1) (by decide +kernel) rfl rfl rfl (by decide +kernel)
set_option maxRecDepth 65536 in
theorem w_c24 : (Jvm.Cond.code ({ cls := "java/util/Optional", name := "<init>", desc := "(Ljava/lang/Object;)V" } : Jvm.MethodName) jdk_32_method_2_code (2 : Nat) (Option.none : Option Jvm.ClassFile.FieldType)).before args0 about1 = true := code_word (m := ⟨17, 1⟩) (meth := k17m1) (c := k17c1) (by decide +kernel) rfl rfl rfl (by decide +kernel)
def codes1 : List Jvm.Cond := [Jvm.Cond.code x code maxLocals ret, Jvm.Cond.code ({ cls := "java/lang/String", name := "length", desc := "()I" } : Jvm.MethodName) jdk_42_method_54_code (1 : Nat) (Option.some Jvm.ClassFile.FieldType.int), Jvm.Cond.code ({ cls := "java/lang/String", name := "coder", desc := "()B" } : Jvm.MethodName) jdk_42_method_152_code (1 : Nat) (Option.some Jvm.ClassFile.FieldType.byte), Jvm.Cond.code ({ cls := "com/example/marcasite/marcasite/marc/CarrierNamedPinLaw", name := "at", desc := "(Ljava/lang/String;IC)C" } : Jvm.MethodName) method_3_code (3 : Nat) (Option.some Jvm.ClassFile.FieldType.char), Jvm.Cond.code ({ cls := "java/lang/String", name := "charAt", desc := "(I)C" } : Jvm.MethodName) jdk_42_method_56_code (2 : Nat) (Option.some Jvm.ClassFile.FieldType.char), Jvm.Cond.code ({ cls := "java/lang/String", name := "isLatin1", desc := "()Z" } : Jvm.MethodName) jdk_42_method_154_code (1 : Nat) (Option.some Jvm.ClassFile.FieldType.boolean), Jvm.Cond.code ({ cls := "java/lang/StringLatin1", name := "charAt", desc := "([BI)C" } : Jvm.MethodName) jdk_43_method_2_code (2 : Nat) (Option.some Jvm.ClassFile.FieldType.char), Jvm.Cond.code ({ cls := "java/lang/String", name := "checkIndex", desc := "(II)V" } : Jvm.MethodName) jdk_42_method_155_code (2 : Nat) (Option.none : Option Jvm.ClassFile.FieldType), Jvm.Cond.code ({ cls := "jdk/internal/util/Preconditions", name := "checkIndex", desc := "(IILjava/util/function/BiFunction;)I" } : Jvm.MethodName) jdk_41_method_11_code (3 : Nat) (Option.some Jvm.ClassFile.FieldType.int), Jvm.Cond.code ({ cls := "com/example/marcasite/marcasite/marc/CarrierNamedPinLaw", name := "prefix", desc := "([CI)Ljava/lang/String;" } : Jvm.MethodName) method_4_code (2 : Nat) (Option.some (Jvm.ClassFile.FieldType.object "java/lang/String")), Jvm.Cond.code ({ cls := "java/lang/String", name := "<init>", desc := "([C)V" } : Jvm.MethodName) jdk_42_method_3_code (2 : Nat) (Option.none : Option Jvm.ClassFile.FieldType), Jvm.Cond.code ({ cls := "java/lang/String", name := "<init>", desc := "([CIILjava/lang/Void;)V" } : Jvm.MethodName) jdk_42_method_149_code (6 : Nat) (Option.none : Option Jvm.ClassFile.FieldType), Jvm.Cond.code ({ cls := "java/lang/Object", name := "<init>", desc := "()V" } : Jvm.MethodName) object_method_1_code (1 : Nat) (Option.none : Option Jvm.ClassFile.FieldType), Jvm.Cond.code ({ cls := "java/lang/StringUTF16", name := "compress", desc := "([CII)[B" } : Jvm.MethodName) jdk_52_method_16_code (6 : Nat) (Option.some (Jvm.ClassFile.FieldType.array Jvm.ClassFile.FieldType.byte)), Jvm.Cond.code ({ cls := "java/lang/StringUTF16", name := "compress", desc := "([CI[BII)I" } : Jvm.MethodName) jdk_52_method_21_code (7 : Nat) (Option.some Jvm.ClassFile.FieldType.int), Jvm.Cond.code ({ cls := "java/lang/StringUTF16", name := "coderFromArrayLen", desc := "([BI)B" } : Jvm.MethodName) jdk_52_method_15_code (2 : Nat) (Option.some Jvm.ClassFile.FieldType.byte), Jvm.Cond.code ({ cls := "com/example/marcasite/marcasite/marc/Carrier", name := "named", desc := "(Ljava/lang/String;)Ljava/util/Optional;" } : Jvm.MethodName) prog_33_method_5_code (5 : Nat) (Option.some (Jvm.ClassFile.FieldType.object "java/util/Optional")), Jvm.Cond.code ({ cls := "com/example/marcasite/marcasite/marc/Carrier", name := "values", desc := "()[Lcom/example/marcasite/marcasite/marc/Carrier;" } : Jvm.MethodName) prog_33_method_1_code (0 : Nat) (Option.some (Jvm.ClassFile.FieldType.array (Jvm.ClassFile.FieldType.object "com/example/marcasite/marcasite/marc/Carrier"))), Jvm.Cond.code ({ cls := "java/lang/String", name := "equals", desc := "(Ljava/lang/Object;)Z" } : Jvm.MethodName) jdk_42_method_66_code (3 : Nat) (Option.some Jvm.ClassFile.FieldType.boolean), Jvm.Cond.code ({ cls := "java/lang/StringLatin1", name := "equals", desc := "([B[B)Z" } : Jvm.MethodName) jdk_43_method_13_code (3 : Nat) (Option.some Jvm.ClassFile.FieldType.boolean), Jvm.Cond.code ({ cls := "java/util/Optional", name := "empty", desc := "()Ljava/util/Optional;" } : Jvm.MethodName) jdk_32_method_1_code (1 : Nat) (Option.some (Jvm.ClassFile.FieldType.object "java/util/Optional")), Jvm.Cond.code ({ cls := "java/util/Optional", name := "orElse", desc := "(Ljava/lang/Object;)Ljava/lang/Object;" } : Jvm.MethodName) jdk_32_method_15_code (2 : Nat) (Option.some (Jvm.ClassFile.FieldType.object "java/lang/Object")), Jvm.Cond.code ({ cls := "java/util/Optional", name := "of", desc := "(Ljava/lang/Object;)Ljava/util/Optional;" } : Jvm.MethodName) jdk_32_method_3_code (1 : Nat) (Option.some (Jvm.ClassFile.FieldType.object "java/util/Optional")), Jvm.Cond.code ({ cls := "java/util/Objects", name := "requireNonNull", desc := "(Ljava/lang/Object;)Ljava/lang/Object;" } : Jvm.MethodName) jdk_31_method_10_code (1 : Nat) (Option.some (Jvm.ClassFile.FieldType.object "java/lang/Object")), Jvm.Cond.code ({ cls := "java/util/Optional", name := "<init>", desc := "(Ljava/lang/Object;)V" } : Jvm.MethodName) jdk_32_method_2_code (2 : Nat) (Option.none : Option Jvm.ClassFile.FieldType)]
set_option maxRecDepth 65536 in
theorem codes_eq : words1.filter isCode = codes1 := rfl
theorem w_codes : ∀ c ∈ words1.filter isCode, c.before args0 about1 = true := by
  rw [codes_eq]
  intro c hc
  simp only [codes1, List.mem_cons, List.not_mem_nil, or_false] at hc
  rcases hc with rfl | rfl | rfl | rfl | rfl | rfl | rfl | rfl | rfl | rfl | rfl | rfl | rfl | rfl | rfl | rfl | rfl | rfl | rfl | rfl | rfl | rfl | rfl | rfl | rfl
  · exact w_c0
  · exact w_c1
  · exact w_c2
  · exact w_c3
  · exact w_c4
  · exact w_c5
  · exact w_c6
  · exact w_c7
  · exact w_c8
  · exact w_c9
  · exact w_c10
  · exact w_c11
  · exact w_c12
  · exact w_c13
  · exact w_c14
  · exact w_c15
  · exact w_c16
  · exact w_c17
  · exact w_c18
  · exact w_c19
  · exact w_c20
  · exact w_c21
  · exact w_c22
  · exact w_c23
  · exact w_c24
set_option maxRecDepth 65536 in
theorem w_t1 : (words1.take 24).all (fun c => isCode c || c.before args0 about1) = true := by decide +kernel
set_option maxRecDepth 65536 in
theorem w_t2 : ((words1.drop 24).take 24).all (fun c => isCode c || c.before args0 about1) = true := by decide +kernel
set_option maxRecDepth 65536 in
theorem w_t3 : (((words1.drop 24).drop 24).take 24).all (fun c => isCode c || c.before args0 about1) = true := by decide +kernel
set_option maxRecDepth 65536 in
theorem w_t4 : ((((words1.drop 24).drop 24).drop 24).take 24).all (fun c => isCode c || c.before args0 about1) = true := by decide +kernel
set_option maxRecDepth 65536 in
theorem w_t5 : (((((words1.drop 24).drop 24).drop 24).drop 24).take 24).all (fun c => isCode c || c.before args0 about1) = true := by decide +kernel
set_option maxRecDepth 65536 in
theorem w_t6 : ((((((words1.drop 24).drop 24).drop 24).drop 24).drop 24).take 24).all (fun c => isCode c || c.before args0 about1) = true := by decide +kernel
set_option maxRecDepth 65536 in
theorem w_t7 : ((((((words1.drop 24).drop 24).drop 24).drop 24).drop 24).drop 24).all (fun c => isCode c || c.before args0 about1) = true := by decide +kernel
theorem w_tables : (allAtoms (Jvm.Cond.code x code maxLocals ret :: tables_1)).before args0 about1 = true := by
  rw [allAtoms_all]
  show words1.all (fun c => c.before args0 about1) = true
  refine all_split ?_ w_codes
  rw [← List.take_append_drop 24 words1, List.all_append, w_t1, ← List.take_append_drop 24 (words1.drop 24), List.all_append, w_t2, ← List.take_append_drop 24 ((words1.drop 24).drop 24), List.all_append, w_t3, ← List.take_append_drop 24 (((words1.drop 24).drop 24).drop 24), List.all_append, w_t4, ← List.take_append_drop 24 ((((words1.drop 24).drop 24).drop 24).drop 24), List.all_append, w_t5, ← List.take_append_drop 24 (((((words1.drop 24).drop 24).drop 24).drop 24).drop 24), List.all_append, w_t6, w_t7]
  rfl
set_option maxRecDepth 65536 in
theorem w_rest : rest_1_c.before args0 about1 = true := by decide +kernel
set_option maxRecDepth 65536 in
theorem w_case : (Jvm.Cond.and given_1 narrow_1).before args0 about1 = true := by decide +kernel
set_option maxRecDepth 65536 in
theorem w_consts : constsHeld consts_1 about1 := Jvm.Lit.constsHeldB_iff.mp (by decide +kernel)
theorem w_applies : (headSpec (Jvm.Cond.code x code maxLocals ret :: tables_1) room_1).applies x e0.platform about1 = true :=
  (Spec.applies_iff w_frames).mpr ⟨w_running, w_runnable, w_alone, w_named, w_hears, w_ripe, w_room, w_tables⟩
theorem atStart : AtStart classFile x code maxLocals ret World_1 tables_1 room_1 Calls_1 rest_1 Pre_1 launch0 p0 e0 about1 theMethod args0 below0 :=
  ⟨lists_1, trivial, launch0.admits_env _ _ _, launch0.least_env, fairChoices_fair.cas, fairChoices_fair.clock, w_frames, w_args, w_heap, w_applies, ⟨w_consts, trivial⟩, w_rest, w_case⟩
end start1
theorem witness_1 : WitnessClaimed_1 := ⟨start1.p0, start1.e0, start1.about1, start1.theMethod, start1.args0, start1.below0, start1.atStart⟩
end Jvm.Pilot.@@N@@
